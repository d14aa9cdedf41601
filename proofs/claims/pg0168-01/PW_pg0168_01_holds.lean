import PyProof.Rows.All
import Wide.All
import OpenK.AllK
import Wide.FinOn
import PySem.Challenge.RW_pg0168_01
set_option Elab.async false
section
open PySem PySem.W PyProof.Rows PySem.Calls PySem.Spec
namespace Mine
noncomputable abbrev Led := List (Addr × Obj)
structure FMC {α : Type} (P : α → Prop) (a : α) (l : List α) : Prop where
  here : P a
  rest : ∀ x ∈ l, P x
theorem FMC.all {α : Type} {P : α → Prop} {a : α} {l : List α} (h : FMC P a l) : ∀ x ∈ a :: l, P x := List.forall_mem_cons.mpr ⟨h.here, h.rest⟩
/-- what a def of the text does, told of any frame that calls it -/
noncomputable def CS (K : World → Frag) (prog : PySem.Program) (w : World) (H : Heap → Prop) (f : Addr) (dd uu : Nat) (news : Led) (vs : List Value) (R : Value → Led → Prop) : Prop :=
  ∀ (p : PySem.Program) (loose : List PySem.Str) (mean : ExcName → Option Value) (mg mb : PySem.Str → Option Value) (dp un : Nat) (gd : Option (List Code)) (cn : PySem.Str) (cs : Scope) (L a : Addr) (ccd : Value) (cl : List (PySem.Str × Addr)) (outer : List Env) (A₀ : Around) (base h₀ : Heap) (m : PySem.Str → Option Value) (s : Shared) (Q E : Value → Shared → Prop),
    Below A₀ base outer h₀ → Fr h₀ L s.heap m → (K w).In h₀ → News h₀ L s.heap news → Top p loose mean mg mb h₀ → H base → cs.kind = .function → dp + dd < recursionLimit → un + uu < cLine →
    (∀ v news' h' tk', Fr h₀ L h' m → News h₀ L h' news' → R v news' → Q v { s with heap := h', toks := tk' }) →
    wpAny (model prog w) (ktrTop dp un gd cn cs L a ccd cl outer) (call (.ref f) vs) Q E s
section
variable {K : World → Frag} {prog : PySem.Program} {w : World} {H : Heap → Prop} {f : Addr} {dd uu : Nat} {news : Led} {vs : List Value} {R : Value → Led → Prop}
theorem CS.use (C : CS K prog w H f dd uu news vs R) {p : PySem.Program} {loose : List PySem.Str} {mean : ExcName → Option Value} {mg mb : PySem.Str → Option Value} {dp un : Nat} {gd : Option (List Code)} {cn : PySem.Str} {cs : Scope} {L a : Addr} {ccd : Value} {cl : List (PySem.Str × Addr)} {outer : List Env} {A₀ : Around} {base h₀ : Heap} {m : PySem.Str → Option Value} {s : Shared} {Q E : Value → Shared → Prop}
    (B : Below A₀ base outer h₀) (F : Fr h₀ L s.heap m) (X : (K w).In h₀) (N : News h₀ L s.heap news) (T : Top p loose mean mg mb h₀) (hH : H base) (hk : cs.kind = .function) (hd : dp + dd < recursionLimit) (hu : un + uu < cLine)
    (h : ∀ v news' h' tk', Fr h₀ L h' m → News h₀ L h' news' → R v news' → Q v { s with heap := h', toks := tk' }) :
    wpAny (model prog w) (ktrTop dp un gd cn cs L a ccd cl outer) (call (.ref f) vs) Q E s := C _ _ _ _ _ _ _ _ _ _ _ _ _ _ _ _ _ _ _ _ _ _ B F X N T hH hk hd hu h
end
/-- the same, told to whoever goes on: nothing has to be taken apart there -/
noncomputable def CW (K : World → Frag) (prog : PySem.Program) (w : World) (H : Heap → Prop) (f : Addr) (dd uu : Nat) (news : Led) (vs : List Value) (W : (Value → Led → Prop) → Prop) : Prop :=
  ∀ (p : PySem.Program) (loose : List PySem.Str) (mean : ExcName → Option Value) (mg mb : PySem.Str → Option Value) (dp un : Nat) (gd : Option (List Code)) (cn : PySem.Str) (cs : Scope) (L a : Addr) (ccd : Value) (cl : List (PySem.Str × Addr)) (outer : List Env) (A₀ : Around) (base h₀ : Heap) (m : PySem.Str → Option Value) (s : Shared) (Q E : Value → Shared → Prop),
    Below A₀ base outer h₀ → Fr h₀ L s.heap m → (K w).In h₀ → News h₀ L s.heap news → Top p loose mean mg mb h₀ → H base → cs.kind = .function → dp + dd < recursionLimit → un + uu < cLine →
    (W fun v news' => ∀ h' tk', Fr h₀ L h' m → News h₀ L h' news' → Q v { s with heap := h', toks := tk' }) →
    wpAny (model prog w) (ktrTop dp un gd cn cs L a ccd cl outer) (call (.ref f) vs) Q E s
section
variable {K : World → Frag} {prog : PySem.Program} {w : World} {H : Heap → Prop} {f : Addr} {dd uu : Nat} {news : Led} {vs : List Value} {R : Value → Led → Prop} {W : (Value → Led → Prop) → Prop}
theorem CS.toW (C : CS K prog w H f dd uu news vs R) (hW : ∀ v nw (G : Value → Led → Prop), R v nw → W G → G v nw) : CW K prog w H f dd uu news vs W :=
  fun _ _ _ _ _ _ _ _ _ _ _ _ _ _ _ _ _ _ _ _ _ _ B F X N T hH hk hd hu h => C _ _ _ _ _ _ _ _ _ _ _ _ _ _ _ _ _ _ _ _ _ _ B F X N T hH hk hd hu fun v nw h' tk' F' N' r => hW v nw _ r h h' tk' F' N'
theorem CW.use (C : CW K prog w H f dd uu news vs W) {p : PySem.Program} {loose : List PySem.Str} {mean : ExcName → Option Value} {mg mb : PySem.Str → Option Value} {dp un : Nat} {gd : Option (List Code)} {cn : PySem.Str} {cs : Scope} {L a : Addr} {ccd : Value} {cl : List (PySem.Str × Addr)} {outer : List Env} {A₀ : Around} {base h₀ : Heap} {m : PySem.Str → Option Value} {s : Shared} {Q E : Value → Shared → Prop}
    (B : Below A₀ base outer h₀) (F : Fr h₀ L s.heap m) (X : (K w).In h₀) (N : News h₀ L s.heap news) (T : Top p loose mean mg mb h₀) (hH : H base) (hk : cs.kind = .function) (hd : dp + dd < recursionLimit) (hu : un + uu < cLine)
    (h : W fun v news' => ∀ h' tk', Fr h₀ L h' m → News h₀ L h' news' → Q v { s with heap := h', toks := tk' }) :
    wpAny (model prog w) (ktrTop dp un gd cn cs L a ccd cl outer) (call (.ref f) vs) Q E s := C _ _ _ _ _ _ _ _ _ _ _ _ _ _ _ _ _ _ _ _ _ _ B F X N T hH hk hd hu h
end
noncomputable abbrev tup (vs : List Value) : Obj := { cls := .type "tuple", data := .seq vs.toArray 0 }
theorem allLt_mem {d : Addr} : ∀ {l : Led}, AllLt d l → ∀ p ∈ l, p.1 < d
  | [], _, _, h => nomatch h
  | _ :: _, h, _, .head _ => h.1
  | _ :: _, h, q, .tail _ hq => allLt_mem h.2 q hq
theorem all_ne {c d : Nat} {l : Led} (h : AllLt d l) (hd : @LE.le Nat _ d c) : ∀ p ∈ l, p.1 ≠ c := fun p hp => Nat.ne_of_lt (Nat.lt_of_lt_of_le (allLt_mem h p hp) hd)
theorem all_lt {c d : Nat} {l : Led} (h : AllLt d l) (hd : @LE.le Nat _ d c) : ∀ p ∈ l, p.1 < c := fun p hp => Nat.lt_of_lt_of_le (allLt_mem h p hp) hd
theorem newsSub {h₀ h : Heap} {L : Addr} {S T : Led} (N : News h₀ L h S) (hs : ∀ p ∈ T, p ∈ S) : News h₀ L h T := fun p hp => N p (hs p hp)
/-- the table of a def's own defs: empty, or the one def's code is in it -/
noncomputable def TabIs (line col : Int) (nm : PySem.Str) (o : Obj) (news : Led) : Prop :=
  o = tabObj #[] ∨ ∃ c oc vs t, o = tabObj (#[] ++ #[rawInt line, rawInt col, .ref c]) ∧ (c, oc) ∈ news ∧ oc.data = .fields vs ∧ vs[1]? = some (.str nm t)
theorem TabIs.mono {line col : Int} {nm : PySem.Str} {o : Obj} {news news' : Led} (h : TabIs line col nm o news) (hs : ∀ p ∈ news, p ∈ news') : TabIs line col nm o news' := by
  rcases h with h | ⟨c, oc, vs, t, h1, h2, h3, h4⟩
  · exact .inl h
  · exact .inr ⟨c, oc, vs, t, h1, hs _ h2, h3, h4⟩
theorem rot1 {h₀ h : Heap} {L : Addr} {a b : Addr × Obj} {l : Led} (N : News h₀ L h (a :: b :: l)) : News h₀ L h (b :: a :: l) := fun p hp => N p (by
  rcases List.mem_cons.mp hp with rfl | hp
  · exact .tail _ (.head _)
  · rcases List.mem_cons.mp hp with rfl | hp
    · exact .head _
    · exact .tail _ (.tail _ hp))
noncomputable def hue : Nat → UInt64
  | 0 => 0x0 | 1 => 0x3FC5555555555555 | 2 => 0x3FD5555555555555 | 3 => 0x3FE0000000000000 | 4 => 0x3FE5555555555555 | _ => 0x3FEAAAAAAAAAAAAB
noncomputable abbrev f0 : UInt64 := 0
noncomputable abbrev f1 : UInt64 := 0x3FF0000000000000
/-- the three remainders' hue: its sixth, or none of a grey -/
noncomputable def sixth (x y z : Int) : Option Nat :=
  if x = y ∧ y = z then none else
  if x = 1 then (if y = 1 then some 1 else if z = 1 then some 5 else some 0) else if y = 1 then (if z = 1 then some 3 else some 2) else some 4
noncomputable def hueOf (x y z : Int) : UInt64 := match sixth x y z with | none => 0 | some 5 => 0x3FEAAAAAAAAAAAAB | some k => hue k
noncomputable def shareOf (x y z : Int) : UInt64 := match sixth x y z with | none => 0 | some _ => 0x3FF0000000000000
noncomputable def valOf3 (x y z : Int) : Int := if x = 1 ∨ y = 1 ∨ z = 1 then 1 else 0
/-- the corner of the colours' wheel, k sixths on -/
noncomputable def rgbOf : Nat → UInt64 × UInt64 × UInt64
  | 0 => (f1, f0, f0) | 1 => (f1, f1, f0) | 2 => (f0, f1, f0) | 3 => (f0, f1, f1) | 4 => (f0, f0, f1) | _ => (f1, f0, f1)
theorem tup3f {D : Addr} {x y z x' y' z' : UInt64} {t u v : Tok} {news : Led} (h1 : x = x') (h2 : y = y') (h3 : z = z') :
    ((D, ({ cls := .type "tuple", data := .seq #[.float x t, .float y u, .float z v] } : Obj)) :: news) = (D, tup [.float x' t, .float y' u, .float z' v]) :: news := by
  subst h1; subst h2; subst h3; rfl
theorem tup2fi {D : Addr} {x y x' y' : UInt64} {z z' : Int} {t u v : Tok} {news : Led} (h1 : x = x') (h2 : y = y') (h3 : z = z') :
    ((D, ({ cls := .type "tuple", data := .seq #[.float x t, .float y u, .int z v] } : Obj)) :: news) = (D, tup [.float x' t, .float y' u, .int z' v]) :: news := by
  subst h1; subst h2; subst h3; rfl
section
variable {prog : PySem.Program} {w : World} {A : Around} {E : Value → Shared → Prop} {s : Shared} {h₀ : Heap} {L : Addr} {m : PySem.Str → Option Value} {news : Led} {Q : Value → Shared → Prop}
theorem my_len {a : Addr} {vs : List Value} {n j : Nat} (N : News h₀ L s.heap news) (hm : (a, W.listOf vs.toArray n) ∈ news) (hl : vs.length = j) (hj : j < 2 ^ 62) (h : ∀ t, Q (.int (j : Int) t) { s with toks := s.toks + 1 + 1 }) :
    wpAny (model prog w) A (call (.builtin "len") [.ref a]) Q E s := by
  refine len_list (items := vs.toArray) ⟨_, (N _ hm).1, rfl, n, rfl⟩ (by rw [List.size_toArray]; omega) ?_
  rw [List.size_toArray, hl]
  exact h _
theorem max3 {a b c : Int} {t u x : Tok} (r : Int) (hh : A.handled = none) (F : Fr h₀ L s.heap m) (N : News h₀ L s.heap news) (hr : (if b > a then (if c > b then c else b) else (if c > a then c else a)) = r)
    (h : ∀ h' tk t', Fr h₀ L h' m → News h₀ L h' news → Q (.int r t') { s with heap := h', toks := tk }) :
    wpAny (model prog w) A (call (.builtin "max") [.int a t, .int b u, .int c x]) Q E s := by
  subst hr
  refine max_three_ints hh fun h' tk hk => ?_
  have key := fun t' => h h' tk t' (F.grownK hk) (N.grown hk)
  by_cases hba : b > a <;> by_cases hc1 : c > b <;> by_cases hc2 : c > a <;> simp only [hba, hc1, hc2, if_true, if_false] at key ⊢ <;> exact key _
theorem min3 {a b c : Int} {t u x : Tok} (r : Int) (hh : A.handled = none) (F : Fr h₀ L s.heap m) (N : News h₀ L s.heap news) (hr : (if b < a then (if c < b then c else b) else (if c < a then c else a)) = r)
    (h : ∀ h' tk t', Fr h₀ L h' m → News h₀ L h' news → Q (.int r t') { s with heap := h', toks := tk }) :
    wpAny (model prog w) A (call (.builtin "min") [.int a t, .int b u, .int c x]) Q E s := by
  subst hr
  refine min_three_ints hh fun h' tk hk => ?_
  have key := fun t' => h h' tk t' (F.grownK hk) (N.grown hk)
  by_cases hba : b < a <;> by_cases hc1 : c < b <;> by_cases hc2 : c < a <;> simp only [hba, hc1, hc2, if_true, if_false] at key ⊢ <;> exact key _
end
end Mine
end
section
open PySem PySem.W PyProof.Rows PySem.Calls PySem.Spec
namespace Mine
/-- k figures to the base B, lowest first; the last one takes what is left -/
noncomputable def digs (B : Nat) : Nat → Nat → List Int
  | 0, _ => []
  | 1, x => [(x : Int)]
  | k + 2, x => ((x % B : Nat) : Int) :: digs B (k + 1) (x / B)
theorem digs_length (B : Nat) : ∀ k x, (digs B k x).length = k
  | 0, _ => rfl
  | 1, _ => rfl
  | k + 2, x => by rw [digs, List.length_cons, digs_length B (k + 1)]
theorem digs_split (B : Nat) {k2 : Nat} (h2 : 0 < k2) : ∀ (k1 x : Nat), 0 < k1 → digs B (k1 + k2) x = digs B k1 (x % B ^ k1) ++ digs B k2 (x / B ^ k1)
  | 1, x, _ => by
    obtain ⟨j, rfl⟩ : ∃ j, k2 = j + 1 := ⟨k2 - 1, by omega⟩
    rw [show 1 + (j + 1) = j + 2 by omega, digs, digs, Nat.pow_one]
    rfl
  | k1 + 2, x, _ => by
    obtain ⟨j, rfl⟩ : ∃ j, k2 = j + 1 := ⟨k2 - 1, by omega⟩
    have e : k1 + 2 + (j + 1) = (k1 + 1 + j) + 2 := by omega
    have e' : k1 + 1 + j + 1 = k1 + 1 + (j + 1) := by omega
    rw [e, digs, e', digs_split B h2 (k1 + 1) (x / B) (by omega), digs]
    have m1 : x % B ^ (k1 + 2) % B = x % B := Nat.mod_mod_of_dvd x (by rw [Nat.pow_succ]; exact Nat.dvd_mul_left _ _)
    have m2 : x % B ^ (k1 + 2) / B = x / B % B ^ (k1 + 1) := by
      rw [Nat.pow_succ B (k1 + 1), Nat.mul_comm, Nat.mod_mul_right_div_self]
    have m3 : x / B ^ (k1 + 2) = x / B / B ^ (k1 + 1) := by
      rw [Nat.pow_succ B (k1 + 1), Nat.mul_comm, Nat.div_div_eq_div_mul]
    rw [m1, m2, m3]
    rfl
theorem land_high (x s : Nat) : x &&& (x / 2 ^ s * 2 ^ s) = x / 2 ^ s * 2 ^ s := by
  have e : x / 2 ^ s * 2 ^ s = (x >>> s) <<< s := by rw [Nat.shiftRight_eq_div_pow, Nat.shiftLeft_eq]
  rw [e]
  apply Nat.eq_of_testBit_eq
  intro i
  rw [Nat.testBit_and, Nat.testBit_shiftLeft, Nat.testBit_shiftRight]
  by_cases h : s ≤ i
  · rw [show s + (i - s) = i by omega]; cases x.testBit i <;> simp
  · simp [h]
theorem xor_low (x s : Nat) : Builtin.bitXor (x : Int) (((x : Int).fdiv (2 ^ s)) * 2 ^ s) = ((x % 2 ^ s : Nat) : Int) := by
  have e : ((x : Int).fdiv (2 ^ s)) * 2 ^ s = ((x / 2 ^ s * 2 ^ s : Nat) : Int) := by
    have : ((2 : Int) ^ s) = ((2 ^ s : Nat) : Int) := by norm_cast
    rw [this, ← Int.ofNat_fdiv]; norm_cast
  rw [e, bitXor_and, bitAnd_pp (by omega) (by omega)]
  simp only [Int.toNat_natCast]
  rw [land_high]
  have := Nat.div_add_mod x (2 ^ s)
  rw [Nat.mul_comm] at this
  generalize x / 2 ^ s * 2 ^ s = z at *
  omega
theorem fdiv_pow (x s : Nat) : (x : Int).fdiv (2 ^ s) = ((x / 2 ^ s : Nat) : Int) := by
  have : ((2 : Int) ^ s) = ((2 ^ s : Nat) : Int) := by norm_cast
  rw [this, ← Int.ofNat_fdiv]
/-- a list, new items laid into it -/
noncomputable def putAt (ds : List Int) (lo : Nat) (new : List Int) : List Int := ds.take lo ++ new ++ ds.drop (lo + new.length)
theorem putAt_one (ds : List Int) (lo : Nat) (x : Int) (h : lo < ds.length) : ds.set lo x = putAt ds lo [x] := by
  unfold putAt
  rw [List.set_eq_take_append_cons_drop, if_pos h]
  simp
theorem putAt_length (ds : List Int) (lo : Nat) (new : List Int) (h : lo + new.length ≤ ds.length) : (putAt ds lo new).length = ds.length := by
  unfold putAt
  simp only [List.length_append, List.length_take, List.length_drop]
  omega
theorem putAt_two (ds : List Int) (lo : Nat) (p q : List Int) (h : lo + p.length + q.length ≤ ds.length) : putAt (putAt ds lo p) (lo + p.length) q = putAt ds lo (p ++ q) := by
  unfold putAt
  have h1 : (ds.take lo ++ p).length = lo + p.length := by simp; omega
  rw [List.take_append_of_le_length (by omega), List.take_of_length_le (by omega), List.drop_append]
  rw [show (ds.take lo ++ p).drop (lo + p.length + q.length) = [] from List.drop_eq_nil_of_le (by omega)]
  simp only [List.nil_append, List.drop_drop, List.append_assoc, List.length_append]
  congr 4
  simp; omega
theorem putAt_whole (ds new : List Int) (h : new.length = ds.length) : putAt ds 0 new = new := by
  unfold putAt
  simp [h]
theorem fdiv2 (a : Nat) : ((a : Int)).fdiv (2 ^ (1 : Int).toNat) = ((a / 2 : Nat) : Int) := fdiv_pow a 1
theorem mulnn {a b : Int} (ha : 0 ≤ a) (hb : 0 ≤ b) : 0 ≤ a * b := Int.mul_nonneg ha hb
theorem mulok {a b : Int} (h : a.natAbs < 2 ^ 64) : IntMulOk a b := IntMulOk.of_left (intBits_le_iff.mpr h)
section
variable {prog : PySem.Program} {w : World} {A : Around} {E : Value → Shared → Prop} {s : Shared} {Q : Value → Shared → Prop} {t u : Tok}
theorem r_mid {lo k : Nat} (h : Q (.int ((lo + k / 2 : Nat) : Int) s.toks) { s with toks := s.toks + 1 }) :
    wpAny (model prog w) A (binaryOp .RShift (.int ((lo : Int) + ((lo + k : Nat) : Int)) t) (.int 1 u)) Q E s := by
  refine rshift_int (by decide) ?_
  have e : ((lo : Int) + ((lo + k : Nat) : Int)).fdiv (2 ^ (1 : Int).toNat) = ((lo + k / 2 : Nat) : Int) := by
    have : ((lo : Int) + ((lo + k : Nat) : Int)) = ((lo + (lo + k) : Nat) : Int) := by omega
    rw [this, fdiv2]
    congr 1
    omega
  rw [e]; exact h
theorem r_shift {lo k n : Nat} (hk : k ≤ 300) (h : Q (.int ((k * n : Nat) : Int) s.toks) { s with toks := s.toks + 1 }) :
    wpAny (model prog w) A (binaryOp .Mult (.int (((lo + k : Nat) : Int) - (lo : Int)) t) (.int (n : Int) u)) Q E s := by
  refine mul_int ?_ (mulok (by omega))
  have e : (((lo + k : Nat) : Int) - (lo : Int)) = (k : Int) := by omega
  rw [e]; exact h
theorem r_upper {x e : Nat} (h : Q (.int ((x / 2 ^ e : Nat) : Int) s.toks) { s with toks := s.toks + 1 }) :
    wpAny (model prog w) A (binaryOp .RShift (.int (x : Int) t) (.int (e : Int) u)) Q E s := by
  refine rshift_int (by omega) ?_
  rw [Int.toNat_natCast, fdiv_pow]; exact h
theorem r_shl {x e : Nat} (hx : x < 2 ^ 80) (he : e ≤ 100000) (h : Q (.int ((x * 2 ^ e : Nat) : Int) s.toks) { s with toks := s.toks + 1 }) :
    wpAny (model prog w) A (binaryOp .LShift (.int (x : Int) t) (.int (e : Int) u)) Q E s := by
  refine lshift_int (by omega) ?_ ?_
  · have h1 : Builtin.Int.intBits (x : Int) ≤ 80 := intBits_le_iff.mpr (by omega)
    omega
  · rw [Int.toNat_natCast]
    have : ((x : Int) * 2 ^ e) = ((x * 2 ^ e : Nat) : Int) := by norm_cast
    rw [this]; exact h
theorem r_xor {x e : Nat} (h : Q (.int ((x % 2 ^ e : Nat) : Int) s.toks) { s with toks := s.toks + 1 }) :
    wpAny (model prog w) A (binaryOp .BitXor (.int (x : Int) t) (.int ((x / 2 ^ e * 2 ^ e : Nat) : Int) u)) Q E s := by
  refine xor_int ?_
  have e1 : ((x / 2 ^ e * 2 ^ e : Nat) : Int) = ((x : Int).fdiv (2 ^ e)) * 2 ^ e := by
    rw [fdiv_pow]; norm_cast
  rw [e1, xor_low]; exact h
end
theorem e_ok {a n : Nat} (ha : a ≤ 300) (hn : n < 100) : a * n ≤ 100000 := Nat.le_trans (Nat.mul_le_mul ha (Nat.le_of_lt hn)) (by decide)
theorem put_done (ds : List Int) (lo n k x : Nat) (hk : 2 ≤ k) (h : lo + k ≤ ds.length) :
    putAt (putAt ds lo (digs (2 ^ n) (k / 2) (x % 2 ^ (k / 2 * n)))) (lo + k / 2) (digs (2 ^ n) (k - k / 2) (x / 2 ^ (k / 2 * n))) = putAt ds lo (digs (2 ^ n) k x) := by
  have l1 := digs_length (2 ^ n) (k / 2) (x % 2 ^ (k / 2 * n))
  have l2 := digs_length (2 ^ n) (k - k / 2) (x / 2 ^ (k / 2 * n))
  have e := putAt_two ds lo (digs (2 ^ n) (k / 2) (x % 2 ^ (k / 2 * n))) (digs (2 ^ n) (k - k / 2) (x / 2 ^ (k / 2 * n))) (by omega)
  rw [l1] at e
  rw [e]
  have hp : (2 ^ n) ^ (k / 2) = 2 ^ (k / 2 * n) := by rw [← Nat.pow_mul, Nat.mul_comm]
  have q := digs_split (2 ^ n) (k2 := k - k / 2) (by omega) (k / 2) x (by omega)
  rw [show k / 2 + (k - k / 2) = k by omega, hp] at q
  rw [q]
theorem bits_pos {x n k : Nat} (hn : 0 < n) (hx : x ≠ 0) (hk : ((Builtin.Int.intBits x : Int) + n - 1).fdiv n = (k : Int)) : 0 < k := by
  have h1 : 0 < Builtin.Int.intBits (x : Int) := by
    rcases Nat.eq_zero_or_pos (Builtin.Int.intBits (x : Int)) with h | h
    · have := (intBits_le_iff (m := 0) (x := (x : Int))).mp (by omega)
      simp at this; omega
    · exact h
  have e : ((Builtin.Int.intBits x : Int) + n - 1) = ((Builtin.Int.intBits x + n - 1 : Nat) : Int) := by omega
  rw [e, ← Int.ofNat_fdiv] at hk
  have h2 : (Builtin.Int.intBits x + n - 1) / n = k := by exact_mod_cast hk
  have h3 : 1 ≤ (Builtin.Int.intBits x + n - 1) / n := (Nat.le_div_iff_mul_le hn).mpr (by omega)
  omega
theorem bits_zero {x n k : Nat} (hn : 0 < n) (hx : x = 0) (hk : ((Builtin.Int.intBits x : Int) + n - 1).fdiv n = (k : Int)) : k = 0 := by
  subst hx
  have e0 : Builtin.Int.intBits ((0 : Nat) : Int) = 0 := rfl
  have e : ((Builtin.Int.intBits ((0 : Nat) : Int) : Int) + n - 1) = ((n - 1 : Nat) : Int) := by rw [e0]; omega
  rw [e, ← Int.ofNat_fdiv] at hk
  have h2 : (n - 1) / n = k := by exact_mod_cast hk
  rw [← h2]; exact Nat.div_eq_of_lt (by omega)
theorem flat_len {z : Int} {l : List Int} {n1 k : Nat} (e1 : l.length = n1) (e3 : 0 ≤ z → (n1 : Int) = ((0 + 1 : Nat) : Int) * z) (hk : z = (k : Int)) : l.length = k := by
  have := e3 (by omega)
  omega
theorem flat_nil {vs : List Value} {l : List Int} {B x : Nat} (h : IntsAre vs l) (hk : l.length = 0) : IntsAre vs (digs B 0 x) := by
  cases l with
  | nil => exact h
  | cons _ _ => simp at hk
theorem div_le_80 {x e : Nat} (hx : x < 2 ^ 80) : x / 2 ^ e < 2 ^ 80 := Nat.lt_of_le_of_lt (Nat.div_le_self _ _) hx
theorem mod_le_80 {x e : Nat} (hx : x < 2 ^ 80) : x % 2 ^ e < 2 ^ 80 := Nat.lt_of_le_of_lt (Nat.mod_le _ _) hx
noncomputable def InnerOk (K : World → Frag) (prog : PySem.Program) (w : World) (p : PySem.Program) (loose : List PySem.Str) (mean : ExcName → Option Value) (mg mb : PySem.Str → Option Value) (f D : Addr) (fx : Led) (B k : Nat) : Prop :=
  ∀ (x lo : Nat) (vs : List Value) (ds : List Int) (t1 t2 t3 : Tok) (dp un : Nat) (gd : Option (List Code)) (cn : PySem.Str) (cs : Scope) (L a : Addr) (ccd : Value) (cl : List (PySem.Str × Addr)) (outer : List Env) (A₀ : Around) (base h₀ : Heap) (m : PySem.Str → Option Value) (s : Shared) (Q E : Value → Shared → Prop),
    x < 2 ^ 80 → IntsAre vs ds → lo + k ≤ ds.length → ds.length < 200 → Below A₀ base outer h₀ → Fr h₀ L s.heap m → (K w).In h₀ → News h₀ L s.heap ((D, W.listOf vs.toArray 0) :: fx) → Top p loose mean mg mb h₀ → cs.kind = .function → dp + k < recursionLimit → un + 8 * k < cLine →
    (∀ vs' h' tk', IntsAre vs' (putAt ds lo (digs B k x)) → Fr h₀ L h' m → News h₀ L h' ((D, W.listOf vs'.toArray 0) :: fx) → Q .none { s with heap := h', toks := tk' }) →
    wpAny (model prog w) (ktrTop dp un gd cn cs L a ccd cl outer) (call (.ref f) [.int x t1, .int lo t2, .int ((lo + k : Nat) : Int) t3]) Q E s
section
variable {K : World → Frag} {prog : PySem.Program} {w : World} {p : PySem.Program} {loose : List PySem.Str} {mean : ExcName → Option Value} {mg mb : PySem.Str → Option Value} {f D : Addr} {fx : Led} {B k : Nat}
theorem InnerOk.use (C : InnerOk K prog w p loose mean mg mb f D fx B k) {X Lo Hi : Int} {x lo : Nat} {vs : List Value} {ds : List Int} {t1 t2 t3 : Tok} {dp un : Nat} {gd : Option (List Code)} {cn : PySem.Str} {cs : Scope} {L a : Addr} {ccd : Value} {cl : List (PySem.Str × Addr)} {outer : List Env} {A₀ : Around} {base h₀ : Heap} {m : PySem.Str → Option Value} {s : Shared} {Q E : Value → Shared → Prop}
    (eX : X = (x : Int)) (eL : Lo = (lo : Int)) (eH : Hi = ((lo + k : Nat) : Int)) (hx : x < 2 ^ 80) (hv : IntsAre vs ds) (hk : lo + k ≤ ds.length) (hl : ds.length < 200) (hB : Below A₀ base outer h₀) (F : Fr h₀ L s.heap m) (hX : (K w).In h₀) (N : News h₀ L s.heap ((D, W.listOf vs.toArray 0) :: fx)) (T : Top p loose mean mg mb h₀) (hc : cs.kind = .function) (hd : dp + k < recursionLimit) (hu : un + 8 * k < cLine)
    (h : ∀ vs' h' tk', IntsAre vs' (putAt ds lo (digs B k x)) → Fr h₀ L h' m → News h₀ L h' ((D, W.listOf vs'.toArray 0) :: fx) → Q .none { s with heap := h', toks := tk' }) :
    wpAny (model prog w) (ktrTop dp un gd cn cs L a ccd cl outer) (call (.ref f) [.int X t1, .int Lo t2, .int Hi t3]) Q E s := by
  subst eX; subst eL; subst eH
  exact C _ _ _ _ _ _ _ _ _ _ _ _ _ _ _ _ _ _ _ _ _ _ _ _ hx hv hk hl hB F hX N T hc hd hu h
theorem innerOk_all (step : ∀ k, 0 < k → (∀ j, 0 < j → j < k → InnerOk K prog w p loose mean mg mb f D fx B j) → InnerOk K prog w p loose mean mg mb f D fx B k) : ∀ k, 0 < k → InnerOk K prog w p loose mean mg mb f D fx B k := by
  intro k
  induction k using Nat.strongRecOn with
  | ind k ih => exact fun hk => step k hk fun j hj hjk => ih j hjk hj
end
/-- figures put together -/
noncomputable def valN (B : Nat) : List Nat → Nat
  | [] => 0
  | d :: r => d + B * valN B r
theorem valN_append (B : Nat) : ∀ p q : List Nat, valN B (p ++ q) = valN B p + B ^ p.length * valN B q
  | [], q => by simp [valN]
  | d :: p, q => by
    rw [List.cons_append, valN, valN, valN_append B p q, List.length_cons, Nat.pow_succ, Nat.mul_add, Nat.add_assoc, ← Nat.mul_assoc, Nat.mul_comm (B ^ p.length) B]
theorem valN_lt (B : Nat) (hB : 0 < B) : ∀ p : List Nat, (∀ d ∈ p, d < B) → valN B p < B ^ p.length
  | [], _ => by simp [valN]
  | d :: p, h => by
    have h1 := h d (.head _)
    have h2 := valN_lt B hB p fun x hx => h x (.tail _ hx)
    rw [valN, List.length_cons, Nat.pow_succ]
    have h3 : B * (valN B p + 1) ≤ B * B ^ p.length := Nat.mul_le_mul_left B h2
    rw [Nat.mul_add, Nat.mul_one] at h3
    rw [Nat.mul_comm _ B]
    omega
noncomputable abbrev castL (ds : List Nat) : List Int := ds.map fun (x : Nat) => (x : Int)
noncomputable def D2Ok (K : World → Frag) (prog : PySem.Program) (w : World) (p : PySem.Program) (loose : List PySem.Str) (mean : ExcName → Option Value) (mg mb : PySem.Str → Option Value) (f : Addr) (fx : Led) (B : Nat) (ds : List Nat) (k : Nat) : Prop :=
  ∀ (lo : Nat) (t2 t3 : Tok) (dp un : Nat) (gd : Option (List Code)) (cn : PySem.Str) (cs : Scope) (L a : Addr) (ccd : Value) (cl : List (PySem.Str × Addr)) (outer : List Env) (A₀ : Around) (base h₀ : Heap) (m : PySem.Str → Option Value) (s : Shared) (Q E : Value → Shared → Prop),
    lo + k ≤ ds.length → Below A₀ base outer h₀ → Fr h₀ L s.heap m → (K w).In h₀ → News h₀ L s.heap fx → Top p loose mean mg mb h₀ → cs.kind = .function → dp + k < recursionLimit → un + 8 * k < cLine →
    (∀ t h' tk', Fr h₀ L h' m → News h₀ L h' fx → Q (.int ((valN B ((ds.drop lo).take k) : Nat) : Int) t) { s with heap := h', toks := tk' }) →
    wpAny (model prog w) (ktrTop dp un gd cn cs L a ccd cl outer) (call (.ref f) [.int lo t2, .int ((lo + k : Nat) : Int) t3]) Q E s
section
variable {K : World → Frag} {prog : PySem.Program} {w : World} {p : PySem.Program} {loose : List PySem.Str} {mean : ExcName → Option Value} {mg mb : PySem.Str → Option Value} {f : Addr} {fx : Led} {B k : Nat} {ds : List Nat}
theorem D2Ok.use (C : D2Ok K prog w p loose mean mg mb f fx B ds k) {Lo Hi : Int} {lo : Nat} {t2 t3 : Tok} {dp un : Nat} {gd : Option (List Code)} {cn : PySem.Str} {cs : Scope} {L a : Addr} {ccd : Value} {cl : List (PySem.Str × Addr)} {outer : List Env} {A₀ : Around} {base h₀ : Heap} {m : PySem.Str → Option Value} {s : Shared} {Q E : Value → Shared → Prop}
    (eL : Lo = (lo : Int)) (eH : Hi = ((lo + k : Nat) : Int)) (hk : lo + k ≤ ds.length) (hB : Below A₀ base outer h₀) (F : Fr h₀ L s.heap m) (hX : (K w).In h₀) (N : News h₀ L s.heap fx) (T : Top p loose mean mg mb h₀) (hc : cs.kind = .function) (hd : dp + k < recursionLimit) (hu : un + 8 * k < cLine)
    (h : ∀ t h' tk', Fr h₀ L h' m → News h₀ L h' fx → Q (.int ((valN B ((ds.drop lo).take k) : Nat) : Int) t) { s with heap := h', toks := tk' }) :
    wpAny (model prog w) (ktrTop dp un gd cn cs L a ccd cl outer) (call (.ref f) [.int Lo t2, .int Hi t3]) Q E s := by
  subst eL; subst eH
  exact C _ _ _ _ _ _ _ _ _ _ _ _ _ _ _ _ _ _ _ _ hk hB F hX N T hc hd hu h
theorem D2Ok.all (step : ∀ k, 0 < k → (∀ j, 0 < j → j < k → D2Ok K prog w p loose mean mg mb f fx B ds j) → D2Ok K prog w p loose mean mg mb f fx B ds k) : ∀ k, 0 < k → D2Ok K prog w p loose mean mg mb f fx B ds k := by
  intro k
  induction k using Nat.strongRecOn with
  | ind k ih => exact fun hk => step k hk fun j hj hjk => ih j hjk hj
end
theorem d2_one {ds : List Nat} {lo B : Nat} (h : lo + 1 ≤ ds.length) : (castL ds).getD (Int.toNat (lo : Int)) 0 = ((valN B ((ds.drop lo).take 1) : Nat) : Int) := by
  rw [Int.toNat_natCast]
  have h1 : ds.drop lo = ds[lo] :: ds.drop (lo + 1) := List.drop_eq_getElem_cons (by omega)
  have h2 : (ds.drop lo).take 1 = [ds[lo]] := by rw [h1]; rfl
  have h3 : (castL ds)[lo]? = some ((ds[lo] : Nat) : Int) := by
    rw [List.getElem?_map, List.getElem?_eq_getElem (by omega)]; rfl
  rw [h2, List.getD_eq_getElem?_getD, h3]
  simp [valN]
theorem d2_two {ds : List Nat} {lo n k : Nat} (hk : 2 ≤ k) (h : lo + k ≤ ds.length) :
    ((valN (2 ^ n) ((ds.drop (lo + k / 2)).take (k - k / 2)) * 2 ^ (k / 2 * n) : Nat) : Int) + ((valN (2 ^ n) ((ds.drop lo).take (k / 2)) : Nat) : Int) = ((valN (2 ^ n) ((ds.drop lo).take k) : Nat) : Int) := by
  have e : (ds.drop lo).take k = (ds.drop lo).take (k / 2) ++ (ds.drop (lo + k / 2)).take (k - k / 2) := by
    have := List.take_append_drop (k / 2) ((ds.drop lo).take k)
    rw [List.take_take, List.drop_take, List.drop_drop, Nat.min_eq_left (by omega)] at this
    exact this.symm
  rw [e, valN_append, List.length_take, List.length_drop, Nat.min_eq_left (by omega), ← Nat.pow_mul, Nat.mul_comm n (k / 2), Nat.mul_comm]
  omega
theorem d2_lt {ds : List Nat} {lo n k : Nat} (hd : ∀ d ∈ ds, d < 2 ^ n) (h80 : n * ds.length ≤ 80) : valN (2 ^ n) ((ds.drop lo).take k) < 2 ^ 80 := by
  refine Nat.lt_of_lt_of_le (valN_lt _ (Nat.two_pow_pos n) _ fun d h => hd d (List.mem_of_mem_drop (List.mem_of_mem_take h))) ?_
  rw [← Nat.pow_mul]
  refine Nat.pow_le_pow_right (by decide) (Nat.le_trans (Nat.mul_le_mul_left n ?_) h80)
  rw [List.length_take, List.length_drop]
  omega
theorem d2_all (ds : List Nat) : (ds.drop 0).take ds.length = ds := by simp
/-- the half, as a name -/
noncomputable def hf (k : Nat) : Nat := k / 2
theorem hf_le (k : Nat) : hf k ≤ k := Nat.div_le_self k 2
theorem hf_pos {k : Nat} (h : 2 ≤ k) : 0 < hf k ∧ hf k < k ∧ 0 < k - hf k ∧ k - hf k < k := by unfold hf; omega
theorem hf_split {lo k : Nat} : lo + k = lo + hf k + (k - hf k) := by have := hf_le k; omega
theorem two_of {lo k : Nat} (h0 : 0 < k) (h : ¬ ((lo : Int) + 1 = ((lo + k : Nat) : Int))) : 2 ≤ k := by omega
theorem room_h {dp k j C : Nat} (h : dp + k < C) (hj : j < k) : dp + 1 + j < C := by omega
theorem unit_h {un k j C : Nat} (h : un + 8 * k < C) (hj : j < k) : un + 3 + 8 * j < C := by omega
section
variable {prog : PySem.Program} {w : World} {A : Around} {E : Value → Shared → Prop} {s : Shared} {Q : Value → Shared → Prop} {t u : Tok}
theorem r_midh {lo k : Nat} (h : Q (.int ((lo + hf k : Nat) : Int) s.toks) { s with toks := s.toks + 1 }) :
    wpAny (model prog w) A (binaryOp .RShift (.int ((lo : Int) + ((lo + k : Nat) : Int)) t) (.int 1 u)) Q E s := r_mid h
end
theorem put_doneh (ds : List Int) (lo n k x : Nat) (hk : 2 ≤ k) (h : lo + k ≤ ds.length) :
    putAt (putAt ds lo (digs (2 ^ n) (hf k) (x % 2 ^ (hf k * n)))) (lo + hf k) (digs (2 ^ n) (k - hf k) (x / 2 ^ (hf k * n))) = putAt ds lo (digs (2 ^ n) k x) := put_done ds lo n k x hk h
theorem d2_twoh {ds : List Nat} {lo n k : Nat} (hk : 2 ≤ k) (h : lo + k ≤ ds.length) :
    ((valN (2 ^ n) ((ds.drop (lo + hf k)).take (k - hf k)) * 2 ^ (hf k * n) : Nat) : Int) + ((valN (2 ^ n) ((ds.drop lo).take (hf k)) : Nat) : Int) = ((valN (2 ^ n) ((ds.drop lo).take k) : Nat) : Int) := d2_two hk h
theorem hf_300 {lo k l : Nat} (h : lo + k ≤ l) (hl : l < 200) : hf k ≤ 300 := by have := hf_le k; omega
end Mine
end
section
open PySem PySem.W PyProof.Rows PySem.Calls PySem.Spec
namespace Mine
section
variable {prog : PySem.Program} {w : World} {A : Around} {E : Value → Shared → Prop} {s : Shared} {env : Env} {h₀ : Heap} {x : PySem.Str} {body : List Stmt} {Q : Flow → Shared → Prop}
theorem unr_mono {L : Addr} {s₁ s₂ : Shared} {I : Addr} {it : Obj} {R R' : (PySem.Str → Option Value) → Led → Prop} {f : Flow} (hr : ∀ m n, R m n → R' m n) (h : UnrPost h₀ L s₁ I it R Q f s₂) : UnrPost h₀ L s₁ I it R' Q f s₂ := by
  have go : UnrEnd h₀ L s₁ I it R s₂ → UnrEnd h₀ L s₁ I it R' s₂ := fun ⟨h', tk, m', n', e, F, N, o, r⟩ => ⟨h', tk, m', n', e, F, N, o, hr _ _ r⟩
  cases f with
  | ret v => exact h
  | brk => exact h
  | next => exact go h
  | cont => exact go h
theorem RevInd {I : Addr} {lp : Addr × Obj} (P : List Value → (PySem.Str → Option Value) → Led → Prop)
    (turn : ∀ v us m nw, P (v :: us) m nw → ∀ (it : Obj) h tk, it.cls = .type "list_reverseiterator" → Fr h₀ env.locals h (fun y => if y = x then some v else m y) → News h₀ env.locals h ((I, it) :: nw) →
      wpAny (model prog w) A (execs body env) (UnrPost h₀ env.locals { s with heap := h, toks := tk } I it (fun m' n' => lp ∈ n' ∧ P us m' n') Q) E { s with heap := h, toks := tk })
    (done : ∀ m nw, P [] m nw → ∀ h tk, Fr h₀ env.locals h m → News h₀ env.locals h nw → Q .next { s with heap := h, toks := tk }) :
    ∀ us m nw, P us m nw → RevRest prog w A E h₀ env x body Q s I lp us m nw
  | [], m, nw, h => RevRest.zero (done m nw h)
  | v :: us, m, nw, h => RevRest.succ fun it hp tk hc F N => wpAny_mono (turn v us m nw h it hp tk hc F N) (fun _ _ p => unr_mono (fun _ _ r => ⟨r.1, RevInd P turn done us _ _ r.2⟩) p) fun _ _ e => e
theorem ListInd {I : Addr} {lp : Addr × Obj} (P : List Value → (PySem.Str → Option Value) → Led → Prop)
    (turn : ∀ v us m nw, P (v :: us) m nw → ∀ (it : Obj) h tk, it.cls = .type "list_iterator" → Fr h₀ env.locals h (fun y => if y = x then some v else m y) → News h₀ env.locals h ((I, it) :: nw) →
      wpAny (model prog w) A (execs body env) (UnrPost h₀ env.locals { s with heap := h, toks := tk } I it (fun m' n' => lp ∈ n' ∧ P us m' n') Q) E { s with heap := h, toks := tk })
    (done : ∀ m nw, P [] m nw → ∀ h tk, Fr h₀ env.locals h m → News h₀ env.locals h nw → Q .next { s with heap := h, toks := tk }) :
    ∀ us m nw, P us m nw → ListRest prog w A E h₀ env x body Q s I lp us m nw
  | [], m, nw, h => ListRest.zero (done m nw h)
  | v :: us, m, nw, h => ListRest.succ fun it hp tk hc F N => wpAny_mono (turn v us m nw h it hp tk hc F N) (fun _ _ p => unr_mono (fun _ _ r => ⟨r.1, ListInd P turn done us _ _ r.2⟩) p) fun _ _ e => e
theorem StrInd {I : Addr} (P : List PySem.Str → (PySem.Str → Option Value) → Led → Prop)
    (turn : ∀ c us m nw, P (c :: us) m nw → ∀ (u : Tok) (it : Obj) h tk, Fr h₀ env.locals h (fun y => if y = x then some (.str c u) else m y) → News h₀ env.locals h ((I, it) :: nw) →
      wpAny (model prog w) A (execs body env) (UnrPost h₀ env.locals { s with heap := h, toks := tk } I it (fun m' n' => P us m' n') Q) E { s with heap := h, toks := tk })
    (done : ∀ m nw, P [] m nw → ∀ h tk, Fr h₀ env.locals h m → News h₀ env.locals h nw → Q .next { s with heap := h, toks := tk }) :
    ∀ us m nw, P us m nw → StrRest prog w A E h₀ env x body Q s I us m nw
  | [], m, nw, h => StrRest.zero (done m nw h)
  | c :: us, m, nw, h => StrRest.succ fun u it hp tk F N => wpAny_mono (turn c us m nw h u it hp tk F N) (fun _ _ p => unr_mono (fun _ _ r => StrInd P turn done us _ _ r) p) fun _ _ e => e
theorem RangeInd {I : Addr} {a : Int} {n : Nat} (P : Nat → Nat → (PySem.Str → Option Value) → Led → Prop)
    (turn : ∀ k i m nw, P (k + 1) i m nw → ∀ (t : Tok) (it : Obj) h tk, Fr h₀ env.locals h (fun y => if y = x then some (.int (a + (i : Int)) t) else m y) → News h₀ env.locals h ((I, it) :: nw) →
      wpAny (model prog w) A (execs body env) (UnrPost h₀ env.locals { s with heap := h, toks := tk } I it (fun m' n' => P k (i + 1) m' n') Q) E { s with heap := h, toks := tk })
    (done : ∀ i m nw, P 0 i m nw → ∀ h tk, Fr h₀ env.locals h m → News h₀ env.locals h nw → Q .next { s with heap := h, toks := tk }) :
    ∀ k i m nw, P k i m nw → RangeRest prog w A E h₀ env x body Q s I a n k i m nw
  | 0, i, m, nw, h => RangeRest.zero (done i m nw h)
  | k + 1, i, m, nw, h => RangeRest.succ fun t hp tk F N => wpAny_mono (turn k i m nw h t _ hp tk F N) (fun _ _ p => unr_mono (fun _ _ r => RangeInd P turn done k (i + 1) _ _ r) p) fun _ _ e => e
end
/-! the same loops, what comes behind told by a name alone -/
section
variable {prog : PySem.Program} {w : World} {A : Around} {E : Value → Shared → Prop} {s : Shared} {env : Env} {h₀ : Heap} {x : PySem.Str} {body : List Stmt} {Q : Flow → Shared → Prop}
theorem RevIndQ {I : Addr} {lp : Addr × Obj} (P : List Value → (PySem.Str → Option Value) → Led → Prop)
    (turn : ∀ v us m nw, P (v :: us) m nw → ∀ (it : Obj) h tk (Q' : Flow → Shared → Prop) (E' : Value → Shared → Prop), (∀ {h' tk' m' all}, Fr h₀ env.locals h' m' → News h₀ env.locals h' all → ∀ nw', (∀ p ∈ (I, it) :: nw', p ∈ all) → (∀ p ∈ nw', p.1 ≠ I) → (lp ∈ nw' ∧ P us m' nw') → Q' .next { s with heap := h', toks := tk' }) → it.cls = .type "list_reverseiterator" → Fr h₀ env.locals h (fun y => if y = x then some v else m y) → News h₀ env.locals h ((I, it) :: nw) →
      wpAny (model prog w) A (execs body env) Q' E' { s with heap := h, toks := tk })
    (done : ∀ m nw, P [] m nw → ∀ h tk, Fr h₀ env.locals h m → News h₀ env.locals h nw → Q .next { s with heap := h, toks := tk }) :
    ∀ us m nw, P us m nw → RevRest prog w A E h₀ env x body Q s I lp us m nw :=
  RevInd P (fun v us m nw h it hp tk hc F N => wpAny_mono (turn v us m nw h it hp tk (UnrPost h₀ env.locals { s with heap := hp, toks := tk } I it (fun m' n' => lp ∈ n' ∧ P us m' n') Q) E (fun F' N' nw' sub off r => UnrEnd.intro (s₁ := { s with heap := hp, toks := tk }) F' N' nw' sub off r) hc F N) (fun _ _ p => p) fun _ _ e => e) done
theorem StrIndQ {I : Addr} (P : List PySem.Str → (PySem.Str → Option Value) → Led → Prop)
    (turn : ∀ c us m nw, P (c :: us) m nw → ∀ (u : Tok) (it : Obj) h tk (Q' : Flow → Shared → Prop) (E' : Value → Shared → Prop), (∀ {h' tk' m' all}, Fr h₀ env.locals h' m' → News h₀ env.locals h' all → ∀ nw', (∀ p ∈ (I, it) :: nw', p ∈ all) → (∀ p ∈ nw', p.1 ≠ I) → P us m' nw' → Q' .next { s with heap := h', toks := tk' }) → Fr h₀ env.locals h (fun y => if y = x then some (.str c u) else m y) → News h₀ env.locals h ((I, it) :: nw) →
      wpAny (model prog w) A (execs body env) Q' E' { s with heap := h, toks := tk })
    (done : ∀ m nw, P [] m nw → ∀ h tk, Fr h₀ env.locals h m → News h₀ env.locals h nw → Q .next { s with heap := h, toks := tk }) :
    ∀ us m nw, P us m nw → StrRest prog w A E h₀ env x body Q s I us m nw :=
  StrInd P (fun v us m nw h u it hp tk F N => wpAny_mono (turn v us m nw h u it hp tk (UnrPost h₀ env.locals { s with heap := hp, toks := tk } I it (fun m' n' => P us m' n') Q) E (fun F' N' nw' sub off r => UnrEnd.intro (s₁ := { s with heap := hp, toks := tk }) F' N' nw' sub off r) F N) (fun _ _ p => p) fun _ _ e => e) done
theorem RangeIndQ {I : Addr} {a : Int} {n : Nat} (P : Nat → Nat → (PySem.Str → Option Value) → Led → Prop)
    (turn : ∀ k i m nw, P (k + 1) i m nw → ∀ (t : Tok) (it : Obj) h tk (Q' : Flow → Shared → Prop) (E' : Value → Shared → Prop), (∀ {h' tk' m' all}, Fr h₀ env.locals h' m' → News h₀ env.locals h' all → ∀ nw', (∀ p ∈ (I, it) :: nw', p ∈ all) → (∀ p ∈ nw', p.1 ≠ I) → P k (i + 1) m' nw' → Q' .next { s with heap := h', toks := tk' }) → Fr h₀ env.locals h (fun y => if y = x then some (.int (a + (i : Int)) t) else m y) → News h₀ env.locals h ((I, it) :: nw) →
      wpAny (model prog w) A (execs body env) Q' E' { s with heap := h, toks := tk })
    (done : ∀ i m nw, P 0 i m nw → ∀ h tk, Fr h₀ env.locals h m → News h₀ env.locals h nw → Q .next { s with heap := h, toks := tk }) :
    ∀ k i m nw, P k i m nw → RangeRest prog w A E h₀ env x body Q s I a n k i m nw :=
  RangeInd P (fun k i m nw h u it hp tk F N => wpAny_mono (turn k i m nw h u it hp tk (UnrPost h₀ env.locals { s with heap := hp, toks := tk } I it (fun m' n' => P k (i + 1) m' n') Q) E (fun F' N' nw' sub off r => UnrEnd.intro (s₁ := { s with heap := hp, toks := tk }) F' N' nw' sub off r) F N) (fun _ _ p => p) fun _ _ e => e) done
end
theorem ledA {ext news : Led} {a b c : Addr × Obj} : ∀ p ∈ a :: b :: c :: (ext ++ news), p ∈ a :: b :: (ext ++ c :: news) := by
  intro p hp
  simp only [List.mem_cons, List.mem_append] at hp ⊢
  grind
theorem offI_of {I : Addr} {it : Obj} : ∀ {l : Led}, (∀ p ∈ l, p.1 < I) → OffI I it l
  | [], _ => trivial
  | p :: l, h => ⟨.inl (Nat.ne_of_lt (h p (.head _))), offI_of fun q hq => h q (.tail _ hq)⟩
theorem ints_rev : ∀ {vs : List Value} {ns : List Int}, IntsAre vs ns → ∀ {us : List Value} {ms : List Int}, IntsAre us ms → IntsAre (vs.reverse ++ us) (ns.reverse ++ ms)
  | _, _, .nil, _, _, h => h
  | _, _, .cons i t h, us, ms, h2 => by
    rw [List.reverse_cons, List.reverse_cons, List.append_assoc, List.append_assoc]
    exact ints_rev h (.cons i t h2)
theorem ints_reverse {vs : List Value} {ns : List Int} (h : IntsAre vs ns) : IntsAre vs.reverse ns.reverse := by
  have := ints_rev h .nil
  simpa using this
theorem ints_push {vs : List Value} {ns : List Int} (h : IntsAre vs ns) (i : Int) (t : Tok) : IntsAre (vs ++ [.int i t]) (ns ++ [i]) := by
  induction h with
  | nil => exact .cons i t .nil
  | cons j u _ ih => exact .cons j u ih
/-- a frame's names, those that are known written out -/
theorem mx1 {m : PySem.Str → Option Value} {a : PySem.Str} {va : Value} (ha : m a = some va) : m = fun y => if y = a then some va else m y := by
  funext y; split <;> simp_all
theorem mx2 {m : PySem.Str → Option Value} {a b : PySem.Str} {va vb : Value} (ha : m a = some va) (hb : m b = some vb) : m = fun y => if y = a then some va else if y = b then some vb else m y := by
  funext y; (repeat' split) <;> simp_all
theorem mx3 {m : PySem.Str → Option Value} {a b c : PySem.Str} {va vb vc : Value} (ha : m a = some va) (hb : m b = some vb) (hc : m c = some vc) : m = fun y => if y = a then some va else if y = b then some vb else if y = c then some vc else m y := by
  funext y; (repeat' split) <;> simp_all
theorem mx4 {m : PySem.Str → Option Value} {a b c d : PySem.Str} {va vb vc vd : Value} (ha : m a = some va) (hb : m b = some vb) (hc : m c = some vc) (hd : m d = some vd) : m = fun y => if y = a then some va else if y = b then some vb else if y = c then some vc else if y = d then some vd else m y := by
  funext y; (repeat' split) <;> simp_all
theorem fr2 {h₀ h : Heap} {L : Addr} {m : PySem.Str → Option Value} {a b : PySem.Str} {va vb : Value} (F : Fr h₀ L h m) (ha : m a = some va) (hb : m b = some vb) : Fr h₀ L h (fun y => if y = a then some va else if y = b then some vb else m y) := mx2 ha hb ▸ F
theorem fr3 {h₀ h : Heap} {L : Addr} {m : PySem.Str → Option Value} {a b c : PySem.Str} {va vb vc : Value} (F : Fr h₀ L h m) (ha : m a = some va) (hb : m b = some vb) (hc : m c = some vc) : Fr h₀ L h (fun y => if y = a then some va else if y = b then some vb else if y = c then some vc else m y) := mx3 ha hb hc ▸ F
section
variable {C : Prop} {h₀ h : Heap} {L : Addr} {m : PySem.Str → Option Value} {a b c : PySem.Str} {va vb vc : Value}
theorem frGen2 (F : Fr h₀ L h m) (ha : m a = some va) (hb : m b = some vb) (k : ∀ m0 : PySem.Str → Option Value, Fr h₀ L h (fun y => if y = a then some va else if y = b then some vb else m0 y) → C) : C := k m (mx2 ha hb ▸ F)
theorem frGen3 (F : Fr h₀ L h m) (ha : m a = some va) (hb : m b = some vb) (hc : m c = some vc) (k : ∀ m0 : PySem.Str → Option Value, Fr h₀ L h (fun y => if y = a then some va else if y = b then some vb else if y = c then some vc else m0 y) → C) : C := k m (mx3 ha hb hc ▸ F)
end
section
variable {prog : PySem.Program} {w : World} {A : Around} {E : Value → Shared → Prop} {s : Shared} {h₀ : Heap} {L : Addr} {m : PySem.Str → Option Value} {news : Led} {Q : Value → Shared → Prop}
theorem my_divmod {x b : Nat} {t u : Tok} (F : Fr h₀ L s.heap m) (N : News h₀ L s.heap news) (hb : 0 < b) (hb9 : b < 1073741824)
    (h : ∀ D h' tk' u1 u2, Fr h₀ L h' m → News h₀ L h' ((D, tup [.int ((x / b : Nat) : Int) u1, .int ((x % b : Nat) : Int) u2]) :: news) → (∀ p ∈ news, p.1 < D) → Q (.ref D) { s with heap := h', toks := tk' }) :
    wpAny (model prog w) A (call (.builtin "divmod") [.int (x : Int) t, .int (b : Int) u]) Q E s := by
  refine divmod_N F N (by omega) (fun h' F' N' => ?_) (Or.inl (PyProof.noPylong_small (by omega)))
  have e1 : (x : Int).fdiv (b : Int) = ((x / b : Nat) : Int) := (Int.ofNat_fdiv x b).symm
  have e2 : (x : Int).fmod (b : Int) = ((x % b : Nat) : Int) := by
    rw [Int.fmod_eq_emod_of_nonneg _ (by omega)]; norm_cast
  rw [e1, e2] at N'
  exact h _ _ _ _ _ F' N' fun p hp => Heap.lt_size (N p hp).1
end
/-- the long division, figure by figure from the highest -/
noncomputable def divLoop (B b : Nat) : List Nat → Nat → List Nat → Nat × List Nat
  | [], r, q => (r, q)
  | d :: ds, r, q => divLoop B b ds ((r * B + d) % b) (q ++ [(r * B + d) / b])
theorem divLoop_spec (B b : Nat) (hb : 0 < b) : ∀ (ds : List Nat) (r : Nat) (q : List Nat), r < b → (∀ d ∈ ds, d < B) → (∀ d ∈ q, d < B) →
    (divLoop B b ds r q).1 = (r * B ^ ds.length + valN B ds.reverse) % b ∧ (divLoop B b ds r q).2.length = q.length + ds.length ∧ (∀ d ∈ (divLoop B b ds r q).2, d < B) ∧
    valN B (divLoop B b ds r q).2.reverse = valN B q.reverse * B ^ ds.length + (r * B ^ ds.length + valN B ds.reverse) / b
  | [], r, q, hr, _, hq => by
    simp only [divLoop, List.length_nil, Nat.pow_zero, Nat.mul_one, List.reverse_nil, valN, Nat.add_zero]
    exact ⟨(Nat.mod_eq_of_lt hr).symm, trivial, hq, by rw [Nat.div_eq_of_lt hr, Nat.add_zero]⟩
  | d :: ds, r, q, hr, hd, hq => by
    have hd0 := hd d (.head _)
    have hlt : (r * B + d) / b < B := by
      rw [Nat.div_lt_iff_lt_mul hb]
      have h1 : (r + 1) * B ≤ b * B := Nat.mul_le_mul_right B hr
      rw [Nat.add_mul, Nat.one_mul] at h1
      rw [Nat.mul_comm B b]
      omega
    have ih := divLoop_spec B b hb ds ((r * B + d) % b) (q ++ [(r * B + d) / b]) (Nat.mod_lt _ hb) (fun x hx => hd x (.tail _ hx)) (by
      intro x hx
      rcases List.mem_append.mp hx with hx | hx
      · exact hq x hx
      · rw [List.mem_singleton.mp hx]; exact hlt)
    obtain ⟨i1, i2, i3, i4⟩ := ih
    have hv : valN B (d :: ds).reverse = valN B ds.reverse + B ^ ds.length * d := by
      rw [List.reverse_cons, valN_append, List.length_reverse]
      simp [valN]
    have hq2 : valN B (q ++ [(r * B + d) / b]).reverse = (r * B + d) / b + B * valN B q.reverse := by
      rw [List.reverse_append]; rfl
    have hz : r * B ^ (d :: ds).length + valN B (d :: ds).reverse = (r * B + d) * B ^ ds.length + valN B ds.reverse := by
      rw [hv, List.length_cons, Nat.pow_succ, Nat.add_mul, Nat.mul_assoc r B, Nat.mul_comm B (B ^ ds.length), Nat.mul_comm (B ^ ds.length) d]
      omega
    have hdm := Nat.div_add_mod (r * B + d) b
    refine ⟨?_, ?_, i3, ?_⟩
    · rw [divLoop, i1, hz]
      have e : (r * B + d) * B ^ ds.length = b * ((r * B + d) / b * B ^ ds.length) + (r * B + d) % b * B ^ ds.length := by
        rw [← Nat.mul_assoc, ← Nat.add_mul, hdm]
      rw [e, Nat.add_assoc, Nat.mul_add_mod]
    · rw [divLoop, i2]; simp; omega
    · rw [divLoop, i4, hz, hq2]
      have e : (r * B + d) * B ^ ds.length = b * ((r * B + d) / b * B ^ ds.length) + (r * B + d) % b * B ^ ds.length := by
        rw [← Nat.mul_assoc, ← Nat.add_mul, hdm]
      rw [e, Nat.add_assoc, Nat.mul_add_div hb, Nat.add_mul, List.length_cons, Nat.pow_succ, Nat.mul_comm B (valN B q.reverse), Nat.mul_assoc (valN B q.reverse) B, Nat.mul_comm B (B ^ ds.length)]
      omega
/-- the figures as naturals -/
noncomputable def digsN (B : Nat) : Nat → Nat → List Nat
  | 0, _ => []
  | 1, x => [x]
  | k + 2, x => x % B :: digsN B (k + 1) (x / B)
theorem digs_cast (B : Nat) : ∀ k x, digs B k x = castL (digsN B k x)
  | 0, _ => rfl
  | 1, _ => rfl
  | k + 2, x => by rw [digs, digsN, digs_cast B (k + 1)]; rfl
theorem digsN_length (B k x : Nat) : (digsN B k x).length = k := by
  have := digs_length B k x
  rw [digs_cast] at this
  simpa [castL] using this
theorem digsN_lt {B : Nat} (hB : 0 < B) : ∀ k x, x < B ^ k → ∀ d ∈ digsN B k x, d < B
  | 0, _, _, _, h => nomatch h
  | 1, x, hx, d, h => by
    rw [digsN] at h
    rw [List.mem_singleton.mp h]
    simpa using hx
  | k + 2, x, hx, d, h => by
    rw [digsN] at h
    rcases List.mem_cons.mp h with rfl | h
    · exact Nat.mod_lt _ hB
    · refine digsN_lt hB (k + 1) (x / B) ?_ d h
      rw [Nat.div_lt_iff_lt_mul hB]
      rwa [Nat.pow_succ] at hx
theorem valN_digsN {B : Nat} : ∀ k x, (k = 0 → x = 0) → valN B (digsN B k x) = x
  | 0, x, h => by rw [h rfl]; rfl
  | 1, x, _ => by simp [digsN, valN]
  | k + 2, x, _ => by
    rw [digsN, valN, valN_digsN (k + 1) (x / B) (by omega)]
    exact Nat.mod_add_div x B
theorem bits_room {x n k : Nat} (hn : 0 < n) (hk : ((Builtin.Int.intBits x : Int) + n - 1).fdiv n = (k : Int)) : x < (2 ^ n) ^ k := by
  have e : ((Builtin.Int.intBits x : Int) + n - 1) = ((Builtin.Int.intBits x + n - 1 : Nat) : Int) := by omega
  rw [e, ← Int.ofNat_fdiv] at hk
  have h2 : (Builtin.Int.intBits x + n - 1) / n = k := by exact_mod_cast hk
  have h3 : Builtin.Int.intBits x ≤ n * k := by
    have h4 := Nat.div_add_mod (Builtin.Int.intBits x + n - 1) n
    have h5 := Nat.mod_lt (Builtin.Int.intBits x + n - 1) hn
    rw [h2] at h4
    generalize n * k = z at *
    omega
  have h6 := (intBits_le_iff (x := (x : Int))).mp h3
  rw [← Nat.pow_mul]
  simpa using h6
theorem pow_bits_pos {b : Nat} (hb : 0 < b) : 0 < Builtin.Int.intBits (b : Int) := by
  rcases Nat.eq_zero_or_pos (Builtin.Int.intBits (b : Int)) with h | h
  · have := (intBits_le_iff (m := 0) (x := (b : Int))).mp (by omega)
    simp at this; omega
  · exact h
noncomputable def DivP (Dq : Addr) (fx : Led) (b n : Nat) (R : Nat × List Nat) (us : List Value) (m : PySem.Str → Option Value) (nw : Led) : Prop :=
  ∀ C : Led → Prop, (∀ (rd : List Nat) (r : Nat) (q : List Nat) (qv : List Value) (tr tb tn : Tok) (c : Nat), IntsAre us (castL rd) → IntsAre qv (castL q) →
    m (PySem.Str.ofString "r") = some (.int r tr) → m (PySem.Str.ofString "b") = some (.int b tb) → m (PySem.Str.ofString "n") = some (.int n tn) → m (PySem.Str.ofString "q_digits") = some (.ref Dq) →
    r < b → (∀ d ∈ rd, d < 2 ^ n) → q.length + rd.length < 200 → divLoop (2 ^ n) b rd r q = R → C ((Dq, W.listOf qv.toArray c) :: fx)) → C nw
end Mine
end
section
open PySem PySem.W PyProof.Rows PySem.Calls PySem.Spec
namespace Mine
theorem ints_cons {v : Value} {us : List Value} {d : Nat} {rd : List Nat} (h : IntsAre (v :: us) (castL (d :: rd))) : ∃ t, v = .int (d : Int) t ∧ IntsAre us (castL rd) := by
  cases h with
  | cons _ t h => exact ⟨t, rfl, h⟩
theorem ints_none {v : Value} {us : List Value} (h : IntsAre (v :: us) (castL [])) : False := by cases h
theorem ints_end {d : Nat} {rd : List Nat} (h : IntsAre [] (castL (d :: rd))) : False := by cases h
theorem ints_pushN {vs : List Value} {q : List Nat} (h : IntsAre vs (castL q)) (x : Nat) (t : Tok) : IntsAre (vs ++ [.int (x : Int) t]) (castL (q ++ [x])) := by
  have := ints_push h (x : Int) t
  simpa [castL] using this
theorem div_room {r d b n : Nat} (hr : r < b) (hb : b < 1073741824) (hd : d < 2 ^ n) (hn : n ≤ 30) : r * 2 ^ n + d < 2 ^ 100 := by
  have h1 : 2 ^ n ≤ 2 ^ 30 := Nat.pow_le_pow_right (by decide) hn
  have h2 : r * 2 ^ n ≤ 1073741824 * 2 ^ 30 := Nat.mul_le_mul (by omega) h1
  omega
theorem ne_lt {l : Led} {c : Nat} (h : ∀ p ∈ l, p.1 < c) : ∀ p ∈ l, p.1 ≠ c := fun p hp => Nat.ne_of_lt (h p hp)
section
variable {prog : PySem.Program} {w : World} {A : Around} {E : Value → Shared → Prop} {s : Shared} {h₀ : Heap} {L D : Addr} {m : PySem.Str → Option Value} {news news' : Led} {Q : Value → Shared → Prop}
theorem my_reverse {vs : List Value} {n : Nat} (F : Fr h₀ L s.heap m) (N : News h₀ L s.heap news) (U : Upd D (W.listOf vs.toArray n) (W.listOf vs.reverse.toArray n) news news') (hz : vs.length ≤ 1000000)
    (h : ∀ h', Fr h₀ L h' m → News h₀ L h' news' → Q .none { s with heap := h' }) : wpAny (model prog w) A (call (.builtin "list.reverse") [.ref D]) Q E s :=
  kl_reverse F N (its := vs.toArray) rfl U (by rw [sizeLine_eq]; simp; omega) h
end
theorem divAll {n b k x : Nat} {r : Nat} {q : List Nat} (hb : 0 < b) (hx : x < (2 ^ n) ^ k) (h : divLoop (2 ^ n) b [] r q = divLoop (2 ^ n) b (digsN (2 ^ n) k x).reverse 0 []) :
    r = x % b ∧ valN (2 ^ n) q.reverse = x / b ∧ (∀ d ∈ q.reverse, d < 2 ^ n) ∧ q.reverse.length = k := by
  have hz := divLoop_spec (2 ^ n) b hb (digsN (2 ^ n) k x).reverse 0 [] hb (fun d hd => digsN_lt (Nat.two_pow_pos n) k x hx d (List.mem_reverse.mp hd)) (fun _ h => nomatch h)
  rw [← h] at hz
  have hv : valN (2 ^ n) (digsN (2 ^ n) k x) = x := valN_digsN k x (fun h0 => by subst h0; simpa using hx)
  simp only [divLoop, List.reverse_reverse, hv, Nat.zero_mul, Nat.zero_add, List.length_reverse, digsN_length, List.length_nil, List.reverse_nil, valN] at hz
  obtain ⟨z1, z2, z3, z4⟩ := hz
  exact ⟨z1, z4, fun d hd => z3 d (List.mem_reverse.mp hd), by rw [List.length_reverse, z2]⟩
theorem endLed {ext2 ext news : Led} {D P Q R : Addr × Obj} : ∀ p ∈ D :: P :: Q :: ((ext2 ++ ext) ++ news), p ∈ D :: Q :: (ext2 ++ R :: P :: (ext ++ news)) := by
  intro p hp
  simp only [List.mem_cons, List.mem_append] at hp ⊢
  grind
theorem app_mono {ext2 ext news : Led} : ∀ p ∈ ext ++ news, p ∈ (ext2 ++ ext) ++ news := by
  intro p hp
  simp only [List.mem_append] at hp ⊢
  grind
theorem app_monoR {ext2 ext T0 : Led} : ∀ p ∈ ext2 ++ T0, p ∈ (ext2 ++ ext) ++ T0 := by
  intro p hp
  simp only [List.mem_append] at hp ⊢
  grind
theorem fresh_app {ext2 ext news : Led} {P Q : Addr × Obj} {a b : Addr} (h2 : ∀ q ∈ ext2, (∀ p ∈ P :: Q :: (ext ++ news), p.1 < q.1) ∧ a < q.1) (h1 : ∀ q ∈ ext, (∀ p ∈ (a, b') :: news, p.1 < q.1) ∧ b < q.1) : ∀ q ∈ ext2 ++ ext, (∀ p ∈ news, p.1 < q.1) ∧ a < q.1 := by
  intro q hq
  rcases List.mem_append.mp hq with hq | hq
  · exact ⟨fun p hp => (h2 q hq).1 p (.tail _ (.tail _ (List.mem_append.mpr (.inr hp)))), (h2 q hq).2⟩
  · exact ⟨fun p hp => (h1 q hq).1 p (.tail _ hp), (h1 q hq).1 _ (.head _)⟩
theorem div_k {x b : Nat} (hx : x < 2 ^ 60) (hb : 0 < b) (hb9 : b < 65536) : ∃ n k : Nat, Builtin.Int.intBits (b : Int) = n ∧ ((Builtin.Int.intBits x : Int) + n - 1).fdiv n = (k : Int) ∧ n * k ≤ 80 ∧ k < 200 := by
  refine ⟨_, (Builtin.Int.intBits (x : Int) + Builtin.Int.intBits (b : Int) - 1) / Builtin.Int.intBits (b : Int), rfl, ?_, ?_, ?_⟩
  · have h1 := pow_bits_pos hb
    have e : ((Builtin.Int.intBits x : Int) + (Builtin.Int.intBits (b : Int) : Int) - 1) = ((Builtin.Int.intBits x + Builtin.Int.intBits (b : Int) - 1 : Nat) : Int) := by omega
    rw [e, ← Int.ofNat_fdiv]
  · have h2 : Builtin.Int.intBits (x : Int) ≤ 60 := intBits_le_iff.mpr (by omega)
    have h3 : Builtin.Int.intBits (b : Int) ≤ 16 := intBits_le_iff.mpr (by omega)
    have h4 := Nat.mul_div_le (Builtin.Int.intBits (x : Int) + Builtin.Int.intBits (b : Int) - 1) (Builtin.Int.intBits (b : Int))
    omega
  · have h2 : Builtin.Int.intBits (x : Int) ≤ 60 := intBits_le_iff.mpr (by omega)
    have h3 : Builtin.Int.intBits (b : Int) ≤ 16 := intBits_le_iff.mpr (by omega)
    have h4 := Nat.div_le_self (Builtin.Int.intBits (x : Int) + Builtin.Int.intBits (b : Int) - 1) (Builtin.Int.intBits (b : Int))
    omega
theorem fdm_nat (x b : Nat) : (((x / b : Nat) : Int) = (x : Int).fdiv (b : Int)) ∧ (((x % b : Nat) : Int) = (x : Int).fmod (b : Int)) := by
  refine ⟨Int.ofNat_fdiv x b, ?_⟩
  rw [Int.fmod_eq_emod_of_nonneg _ (by omega)]; norm_cast
theorem fdm_not (a : Int) (b : Nat) (hb : 0 < b) : a.fdiv b = -((-a - 1).fdiv b) - 1 ∧ a.fmod b = b + (-((-a - 1).fmod b) - 1) := by
  have hb' : (0 : Int) < b := by omega
  rw [Int.fdiv_eq_ediv_of_nonneg _ (by omega), Int.fdiv_eq_ediv_of_nonneg _ (by omega), Int.fmod_eq_emod_of_nonneg _ (by omega), Int.fmod_eq_emod_of_nonneg _ (by omega)]
  have h1 := Int.emod_add_mul_ediv a b
  have h2 := Int.emod_add_mul_ediv (-a - 1) b
  have h3 := Int.emod_nonneg a (by omega : (b : Int) ≠ 0)
  have h4 := Int.emod_lt_of_pos a hb'
  have h5 := Int.emod_nonneg (-a - 1) (by omega : (b : Int) ≠ 0)
  have h6 := Int.emod_lt_of_pos (-a - 1) hb'
  have key : a / b + (-a - 1) / b = -1 := by
    have e : (b : Int) * (a / b + (-a - 1) / b) = -1 - (a % b + (-a - 1) % b) := by rw [Int.mul_add]; omega
    generalize a / (b : Int) + (-a - 1) / (b : Int) = z at e
    have h7 : ¬ (0 ≤ z) := fun h => by have := Int.mul_nonneg (Int.le_of_lt hb') h; omega
    have h8 : ¬ (z ≤ -2) := fun h => by
      have := Int.mul_le_mul_of_nonneg_left h (Int.le_of_lt hb')
      omega
    omega
  refine ⟨by omega, ?_⟩
  have e : (b : Int) * (a / b + (-a - 1) / b) = -1 - (a % b + (-a - 1) % b) := by rw [Int.mul_add]; omega
  rw [key] at e
  omega
theorem fdm_neg (a : Int) (b : Nat) : a.fdiv (-(b : Int)) = (-a).fdiv b ∧ a.fmod (-(b : Int)) = -((-a).fmod b) := by
  have h1 : (-a).fdiv (-(-(b : Int))) = a.fdiv (-(b : Int)) := Int.neg_fdiv_neg ..
  rw [Int.neg_neg] at h1
  refine ⟨h1.symm, ?_⟩
  have h2 : (-a).fmod (-(-(b : Int))) = -(a.fmod (-(b : Int))) := Int.neg_fmod_neg ..
  rw [Int.neg_neg] at h2
  omega
theorem tupII {D : Addr} {x y x' y' : Int} {t u : Tok} {news : Led} (h1 : x = x') (h2 : y = y') :
    ((D, ({ cls := .type "tuple", data := .seq #[.int x t, .int y u] } : Obj)) :: news) = (D, tup [.int x' t, .int y' u]) :: news := by
  subst h1; subst h2; rfl
theorem dropLed {ext news : Led} {D E P Q : Addr × Obj} : ∀ p ∈ D :: P :: Q :: (ext ++ news), p ∈ D :: E :: P :: Q :: (ext ++ news) := by
  intro p hp
  simp only [List.mem_cons, List.mem_append] at hp ⊢
  grind
theorem not1 (x : Int) (b : Nat) (hb : 0 < b) : Builtin.bitNot ((Builtin.bitNot x).fdiv b) = x.fdiv b ∧ (b : Int) + Builtin.bitNot ((Builtin.bitNot x).fmod b) = x.fmod b := by
  obtain ⟨h1, h2⟩ := fdm_not x b hb
  have e : ∀ z, Builtin.bitNot z = -z - 1 := fun z => by unfold Builtin.bitNot; omega
  rw [e, e, e]
  exact ⟨h1.symm, h2.symm⟩
section
variable {Dq : Addr} {fx : Led} {b n : Nat} {R : Nat × List Nat} {m : PySem.Str → Option Value} {nw : Led}
theorem DivP.turn {v : Value} {us : List Value} {C : Value → Led → Prop} (h : DivP Dq fx b n R (v :: us) m nw)
    (k : ∀ (d : Nat) (td : Tok) (rd : List Nat) (r : Nat) (q : List Nat) (qv : List Value) (tr tb tn : Tok) (c : Nat), IntsAre us (castL rd) → IntsAre qv (castL q) →
      m (PySem.Str.ofString "r") = some (.int r tr) → m (PySem.Str.ofString "b") = some (.int b tb) → m (PySem.Str.ofString "n") = some (.int n tn) → m (PySem.Str.ofString "q_digits") = some (.ref Dq) →
      r < b → (∀ x ∈ d :: rd, x < 2 ^ n) → q.length + (d :: rd).length < 200 → divLoop (2 ^ n) b (d :: rd) r q = R → C (.int (d : Int) td) ((Dq, W.listOf qv.toArray c) :: fx)) : C v nw := by
  refine h _ fun rd r q qv tr tb tn c hus hqv e1 e2 e3 e4 hr hrd hlen hR => ?_
  cases rd with
  | nil => exact (ints_none hus).elim
  | cons d rd =>
    obtain ⟨td, rfl, hus2⟩ := ints_cons hus
    exact k d td rd r q qv tr tb tn c hus2 hqv e1 e2 e3 e4 hr hrd hlen hR
theorem DivP.done {C : Led → Prop} (h : DivP Dq fx b n R [] m nw)
    (k : ∀ (r : Nat) (q : List Nat) (qv : List Value) (tr tb tn : Tok) (c : Nat), IntsAre qv (castL q) →
      m (PySem.Str.ofString "r") = some (.int r tr) → m (PySem.Str.ofString "b") = some (.int b tb) → m (PySem.Str.ofString "n") = some (.int n tn) → m (PySem.Str.ofString "q_digits") = some (.ref Dq) →
      r < b → q.length < 200 → divLoop (2 ^ n) b [] r q = R → C ((Dq, W.listOf qv.toArray c) :: fx)) : C nw := by
  refine h _ fun rd r q qv tr tb tn c hus hqv e1 e2 e3 e4 hr hrd hlen hR => ?_
  cases rd with
  | cons d rd => exact (ints_end hus).elim
  | nil => exact k r q qv tr tb tn c hqv e1 e2 e3 e4 hr hlen hR
end
end Mine
end
section
open PySem PySem.W PyProof.Rows PySem.Calls PySem.Spec
open PySem.StrLaws PySem.Builtin.Str
namespace Mine
/-- a text's signs, every P giving way to Z, from the left -/
noncomputable def replL (P Z : List Nat) : List Nat → Nat → List Nat
  | [], _ => []
  | c :: r, 0 => if P.isPrefixOf (c :: r) then Z ++ replL P Z r (P.length - 1) else c :: replL P Z r 0
  | _ :: r, k + 1 => replL P Z r k
theorem replL_skip (P Z : List Nat) : ∀ (L : List Nat) (k : Nat), replL P Z L k = replL P Z (L.drop k) 0
  | [], k => by cases k <;> simp [replL]
  | c :: r, 0 => rfl
  | c :: r, k + 1 => by rw [replL, replL_skip P Z r k, List.drop_succ_cons]
theorem replL_gap (P Z : List Nat) : ∀ (j : Nat) (L : List Nat), j ≤ L.length → (∀ k, k < j → ¬ P.isPrefixOf (L.drop k) = true) → replL P Z L 0 = L.take j ++ replL P Z (L.drop j) 0
  | 0, L, _, _ => by simp
  | j + 1, [], h, _ => by simp at h
  | j + 1, c :: r, h, hn => by
    have h0 := hn 0 (Nat.succ_pos j)
    rw [List.drop_zero] at h0
    rw [replL, if_neg h0, replL_gap P Z j r (by simpa using h) (fun k hk => by have := hn (k + 1) (by omega); simpa using this)]
    rfl
theorem replL_hit (P Z : List Nat) (hP : P ≠ []) (L : List Nat) (h : P.isPrefixOf L = true) : replL P Z L 0 = Z ++ replL P Z (L.drop P.length) 0 := by
  cases L with
  | nil => cases P with
    | nil => exact absurd rfl hP
    | cons _ _ => simp [List.isPrefixOf] at h
  | cons c r =>
    cases P with
    | nil => exact absurd rfl hP
    | cons p q =>
      rw [replL, if_pos h, replL_skip]
      rfl
theorem at_iff (x y : PySem.Str) (k : Nat) (hy : 1 ≤ y.length) : StrLaws.At x y x.length k ↔ y.cps.toList.isPrefixOf (x.cps.toList.drop k) = true := by
  have hl : x.cps.toList.length = x.length := by simp [PySem.Str.length]
  have hly : y.cps.toList.length = y.length := by simp [PySem.Str.length]
  unfold StrLaws.At
  rw [subAt_eq, List.isPrefixOf_iff_prefix, List.prefix_iff_eq_take, hly]
  constructor
  · rintro ⟨_, h⟩
    exact (eq_of_beq h).symm
  · intro h
    refine ⟨?_, ?_⟩
    · have := congrArg List.length h
      rw [hly, List.length_take, List.length_drop, hl] at this
      omega
    · rw [← h]; exact beq_self_eq_true _
theorem sub_list (x : PySem.Str) (i j : Nat) : (strSub x i j).cps.toList = (x.cps.toList.drop i).take (j - i) := strSub_toList x i j
theorem join_list2 (z p : PySem.Str) (q : List PySem.Str) (h : q ≠ []) : (PySem.Str.join z (p :: q)).cps.toList = p.cps.toList ++ z.cps.toList ++ (PySem.Str.join z q).cps.toList := by
  cases q with
  | nil => exact absurd rfl h
  | cons a b =>
    show (p ++ z ++ PySem.Str.join z (a :: b)).cps.toList = _
    simp [PySem.Str.cps_append]
theorem rep_parts (x y z : PySem.Str) (hy : 1 ≤ y.length) : ∀ (cuts : List Nat) (a f : Nat), ChainG x y x.length a cuts f → (∀ k, f ≤ k → ¬ StrLaws.At x y x.length k) → a ≤ x.length →
    (PySem.Str.join z (partsFrom x y.length a cuts)).cps.toList = replL y.cps.toList z.cps.toList (x.cps.toList.drop a) 0
  | [], a, f, h, hn, ha => by
    have e : f = a := h
    subst e
    have hl : x.cps.toList.length = x.length := by simp [PySem.Str.length]
    show (strSub x f x.length).cps.toList = _
    rw [sub_list, replL_gap _ _ ((x.cps.toList.drop f).length) _ (Nat.le_refl _) (fun k hk hp => by
      rw [List.drop_drop] at hp
      exact hn (f + k) (by omega) ((at_iff x y (f + k) hy).mpr hp))]
    rw [List.drop_length]
    simp only [replL, List.append_nil, List.take_length]
    exact List.take_of_length_le (by simp [hl])
  | c :: r, a, f, h, hn, ha => by
    have hl : x.cps.toList.length = x.length := by simp [PySem.Str.length]
    have hly : y.cps.toList.length = y.length := by simp [PySem.Str.length]
    obtain ⟨h1, h2, h3, h4⟩ := h
    have hc := h2.1
    have ih := rep_parts x y z hy r (c + y.length) f h4 hn hc
    obtain ⟨p, q, e⟩ := partsFrom_ne x y.length (c + y.length) r
    show (PySem.Str.join z (strSub x a c :: partsFrom x y.length (c + y.length) r)).cps.toList = _
    rw [join_list2 _ _ _ (by rw [e]; exact List.cons_ne_nil _ _), ih, sub_list]
    rw [replL_gap _ _ (c - a) (x.cps.toList.drop a) (by simp [hl]; omega) (fun k hk hp => by
      rw [List.drop_drop] at hp
      exact h3 (a + k) (by omega) (by omega) ((at_iff x y (a + k) hy).mpr hp))]
    rw [List.drop_drop, show a + (c - a) = c by omega]
    have hpre := (at_iff x y c hy).mp h2
    rw [replL_hit _ _ (by intro e0; rw [e0] at hly; simp at hly; omega) _ hpre, List.drop_drop, hly, List.append_assoc]
theorem strKind_pos (x : PySem.Str) : 1 ≤ PySem.Builtin.Str.strKind x := by
  unfold PySem.Builtin.Str.strKind
  (repeat' split) <;> omega
theorem rep_list (x y z : PySem.Str) (hy : 1 ≤ y.length) (hk : PySem.Builtin.Str.strKind y = 1) : (Txt.join z (Txt.split x y)).cps.toList = replL y.cps.toList z.cps.toList x.cps.toList 0 := by
  have hl : x.cps.toList.length = x.length := by simp [PySem.Str.length]
  show (PySem.Builtin.Str.glued z (Txt.split x y)).cps.toList = _
  rw [glued_eq_join]
  obtain ⟨f, hG, hn⟩ := occ_tight x y hy
  have key := rep_parts x y z hy _ 0 f hG hn (Nat.zero_le _)
  rw [List.drop_zero] at key
  unfold Txt.split
  split
  · rename_i hc
    have hlt : x.length < y.length := by
      have := strKind_pos x
      rw [hk] at hc
      simp only [Bool.or_eq_true, decide_eq_true_eq] at hc
      omega
    have hz : occurrences x y 0 x.length (x.length + 1) = [] := by
      cases ho : occurrences x y 0 x.length (x.length + 1) with
      | nil => rfl
      | cons c r =>
        rw [ho] at hG
        have := hG.2.1.1
        omega
    rw [hz] at key
    rw [← key]
    show x.cps.toList = (strSub x 0 x.length).cps.toList
    rw [sub_whole]
  · split
    · rename_i _ he
      rw [List.isEmpty_iff] at he
      rw [he] at key
      rw [← key]
      show x.cps.toList = (strSub x 0 x.length).cps.toList
      rw [sub_whole]
    · rw [partsBetween_eq]; exact key
theorem parts_weight (x y : PySem.Str) (hy : 1 ≤ y.length) : ∀ (cuts : List Nat) (a f : Nat), ChainG x y x.length a cuts f → a ≤ x.length →
    ((partsFrom x y.length a cuts).map (·.length)).sum + (partsFrom x y.length a cuts).length ≤ x.length - a + 1
  | [], a, f, h, ha => by
    show ([(strSub x a x.length)].map (·.length)).sum + 1 ≤ _
    have : (strSub x a x.length).length = x.length - a := by
      have := congrArg List.length (sub_list x a x.length)
      simp [PySem.Str.length] at this ⊢
      omega
    simp [this]
  | c :: r, a, f, h, ha => by
    obtain ⟨h1, h2, h3, h4⟩ := h
    have ih := parts_weight x y hy r (c + y.length) f h4 h2.1
    have : (strSub x a c).length = c - a := by
      have := congrArg List.length (sub_list x a c)
      have hc := h2.1
      simp [PySem.Str.length] at this hc ⊢
      omega
    show ((strSub x a c :: partsFrom x y.length (c + y.length) r).map (·.length)).sum + (partsFrom x y.length (c + y.length) r).length + 1 ≤ _
    rw [List.map_cons, List.sum_cons, this]
    have := h2.1
    omega
theorem split_weight (x y : PySem.Str) (hy : 1 ≤ y.length) : ((Txt.split x y).map (·.length)).sum + (Txt.split x y).length ≤ x.length + 1 := by
  obtain ⟨f, hG, hn⟩ := occ_tight x y hy
  have key := parts_weight x y hy _ 0 f hG (Nat.zero_le _)
  unfold Txt.split
  split
  · simp
  · split
    · simp
    · rw [partsBetween_eq]; omega
theorem replL_length (P Z : List Nat) (K : Nat) (hZ : Z.length ≤ K) (hK : 1 ≤ K) : ∀ (L : List Nat) (k : Nat), (replL P Z L k).length ≤ L.length * K
  | [], _ => by simp [replL]
  | c :: r, 0 => by
    rw [replL]
    split
    · have := replL_length P Z K hZ hK r (P.length - 1)
      rw [List.length_append, List.length_cons, Nat.add_mul]
      omega
    · have := replL_length P Z K hZ hK r 0
      rw [List.length_cons, List.length_cons, Nat.add_mul]
      omega
  | _ :: r, k + 1 => by
    have := replL_length P Z K hZ hK r k
    rw [replL, List.length_cons, Nat.add_mul]
    omega
theorem rep_len1 {x' x : PySem.Str} {P Z : List Nat} (e : x'.cps.toList = replL P Z x.cps.toList 0) (hZ : Z.length ≤ 1) : x'.length ≤ x.length := by
  have := replL_length P Z 1 hZ (Nat.le_refl _) x.cps.toList 0
  rw [← e] at this
  simpa [PySem.Str.length] using this
theorem rep_len3 {x' x : PySem.Str} {P Z : List Nat} (e : x'.cps.toList = replL P Z x.cps.toList 0) (hZ : Z.length ≤ 3) : x'.length ≤ x.length * 3 := by
  have := replL_length P Z 3 hZ (by decide) x.cps.toList 0
  rw [← e] at this
  simpa [PySem.Str.length] using this
section
variable {prog : PySem.Program} {w : World} {A : Around} {E : Value → Shared → Prop} {s : Shared} {h₀ : Heap} {L D : Addr} {m : PySem.Str → Option Value} {news : Led} {Q : Value → Shared → Prop}
theorem my_join {x y z : PySem.Str} {t : Tok} {l : List (PySem.Str × Tok)} (N : News h₀ L s.heap news) (hm : (D, W.listOf (strValues l).toArray 0) ∈ news) (e : l.map (·.1) = Txt.split x y) (hy : 1 ≤ y.length) (hk : PySem.Builtin.Str.strKind y = 1) (hx : x.length ≤ 100000) (hz : z.length ≤ 64)
    (h : ∀ x' t' k, x'.cps.toList = replL y.cps.toList z.cps.toList x.cps.toList 0 → Q (.str x' t') { s with toks := k }) :
    wpAny (model prog w) A (call (.builtin "str.join") [.str z t, .ref D]) Q E s := by
  have hw := split_weight x y hy
  have hs : StrsAre (strValues l).toArray.toList (l.map (·.1)) := strsAre_of_values l
  refine join_listC (ys := l.map (·.1)) ⟨_, (N _ hm).1, rfl, 0, rfl⟩ hs hz (by rw [e]; omega) (fun t' k => h _ t' k ?_)
  rw [e]
  exact rep_list x y z hy hk
theorem my_tupfrom {value slice : PySem.Expr} {t : Addr} {vs : List Value} {n : Nat} {a : Nat} {u : Tok}
    (F : Fr h₀ L s.heap m) (N : News h₀ L s.heap news) (ht : (t, ({ cls := .type "tuple", data := .seq vs.toArray n } : Obj)) ∈ news) (h1 : 1 ≤ a) (ha : a ≤ vs.length)
    (h : ∀ D h', Fr h₀ L h' m → News h₀ L h' ((D, ({ cls := .type "tuple", data := .seq (vs.drop a).toArray } : Obj)) :: news) → (∀ p ∈ news, p.1 < D) → Q (.ref D) { s with heap := h' })
    (hs : subscripted slice false (.ref t) (.ref s.heap.objs.size) = operate [.ref s.heap.objs.size, .ref t] (getItem (.ref t) (.ref s.heap.objs.size)) := by with_unfolding_all rfl)
    (hg : ∀ r, letTemporaryGo value (.ref t) r = pure () := by intro _; with_unfolding_all rfl)
    (hsz : vs.length ≤ 1000) :
    wpAny (model prog w) A (subscriptTail value slice (.ref t) (.ref s.heap.objs.size)) Q E { s with heap := s.heap.push { cls := .type "slice", data := .fields #[.int a u, .none, .none] } } :=
  slice_tuple_from F N (News.isTup N ht) h1 (by simpa using ha) (fun h' F' N' => h _ h' F' (by simpa using N') fun p hp => Nat.lt_succ_of_lt (Heap.lt_size (N p hp).1)) hs hg (by rw [sizeLine_eq]; simp; omega)
end
end Mine
end
section
open PySem PySem.W PyProof.Rows PySem.Calls PySem.Spec
open PyProof.V
namespace Mine
section
variable {prog : PySem.Program} {w : World} {A : Around} {E : Value → Shared → Prop} {s : Shared}
theorem nextOf_tuple_item {it t : Addr} {i : Nat} {items} {x : Value} {Q : Value → Shared → Prop} (hit : s.heap.IsTupleIter it t i)
    (ht : s.heap.IsTuple t items) (hx : items[i]? = some x)
    (hQ : ∀ h', h'.IsTupleIter it t (i + 1) → Heap.SameBut it s.heap h' → Q x { s with heap := h' }) :
    wpAny (model prog w) A (Builtin.SmallTypes.nextOf (.ref it)) Q E s := by
  obtain ⟨o, ho, hc, hd⟩ := id hit
  obtain ⟨ol, hol, _, nl, hdl⟩ := ht
  unfold Builtin.SmallTypes.nextOf
  refine wpAny_bind (wpAny_callSpecial?_slot (name := Str.ofString "__next__") hit.typeIs F.slot_tuple_iterator_next
    (wpAny_call_entry F.slot_tuple_iterator_next hit.typeIs F.entry_tuple_iterator_next ?_ (F.args_tuple_iterator_next_1 _)))
  show wpAny _ _ (field (.ref it) 0 >>= _) _ _ s
  refine wpAny_bind (wpAny_field ho hd (x := .ref t) rfl ?_)
  show wpAny _ _ (if (Value.ref t == Value.none) = true then _ else _) _ _ s
  rw [if_neg (show ¬ ((Value.ref t == Value.none) = true) from Bool.false_ne_true)]
  show wpAny _ _ (field (.ref it) 1 >>= _) _ _ s
  refine wpAny_bind (wpAny_field ho hd (x := .int i 0) rfl ?_)
  show wpAny _ _ (seqItems? (.ref t) >>= _) _ _ s
  refine wpAny_bind (wpAny_seqItems hol hdl ?_)
  simp only [Int.toNat_natCast, hx]
  refine wpAny_bind (wpAny_setField ho hd (by simp) (wpAny_pure ⟨x, rfl, wpAny_pure (hQ _ ?_ (Heap.SameBut.update ..))⟩))
  exact ⟨_, Heap.get?_update_self _ ho (Obj.isFreed_of_fields (Obj.data_mapFields hd _)), (Obj.cls_mapFields ..).trans hc, by
    rw [Obj.data_mapFields hd]; simp [rawInt]⟩
theorem nextOf_tuple_end {it t : Addr} {i : Nat} {items} {Q : Value → Shared → Prop} (hh : A.handled = none)
    (hit : s.heap.IsTupleIter it t i) (ht : s.heap.IsTuple t items) (hx : items[i]? = none)
    (hE : ∀ h' e, Heap.ExtBut it s.heap h' → (∃ o, h'.get? e = some o ∧ o.cls = .type "StopIteration") → E (.ref e) { s with heap := h' }) :
    wpAny (model prog w) A (Builtin.SmallTypes.nextOf (.ref it)) Q E s := by
  obtain ⟨o, ho, hc, hd⟩ := id hit
  obtain ⟨ol, hol, _, nl, hdl⟩ := ht
  unfold Builtin.SmallTypes.nextOf
  refine wpAny_bind (wpAny_callSpecial?_slot (name := Str.ofString "__next__") hit.typeIs F.slot_tuple_iterator_next
    (wpAny_call_entry F.slot_tuple_iterator_next hit.typeIs F.entry_tuple_iterator_next ?_ (F.args_tuple_iterator_next_1 _)))
  show wpAny _ _ (field (.ref it) 0 >>= _) _ _ s
  refine wpAny_bind (wpAny_field ho hd (x := .ref t) rfl ?_)
  show wpAny _ _ (if (Value.ref t == Value.none) = true then _ else _) _ _ s
  rw [if_neg (show ¬ ((Value.ref t == Value.none) = true) from Bool.false_ne_true)]
  show wpAny _ _ (field (.ref it) 1 >>= _) _ _ s
  refine wpAny_bind (wpAny_field ho hd (x := .int i 0) rfl ?_)
  show wpAny _ _ (seqItems? (.ref t) >>= _) _ _ s
  refine wpAny_bind (wpAny_seqItems hol hdl ?_)
  simp only [Int.toNat_natCast, hx]
  refine wpAny_bind (wpAny_rule (wpAny_bind (wpAny_setField ho hd (by simp) ?_)))
  show wpAny _ _ (newExc (.type "StopIteration") [] >>= _) _ _ _
  refine wpAny_bind ?_
  simp only [newExc, newTuple]
  refine wpAny_bind (wpAny_newObj_type ?_ (by size_fits))
  refine wpAny_bind (m := firstArgMember _ _) (wpAny_of_eq (a := Value.none) (by first | rfl | (simp only [firstArgMember]; rfl)) ?_)
  refine wpAny_newObj_type ?_ (by size_fits)
  simp only [raiseNew]
  refine wpAny_bind (wpAny_handled ?_)
  first | rw [show A.in1.handled = none from hh] | rw [hh]
  refine wpAny_bind (wpAny_pure (wpAny_throw ?_))
  exact hE _ _ (((Heap.SameBut.update ..).extBut.push _).push _) ⟨_, Heap.get?_push_size _ rfl, rfl⟩
end
theorem drawsTuple {prog : PySem.Program} {w : World} {A : Around} (hh : A.handled = none) (it l : Addr) (hne : l ≠ it) (items : Array Value) :
    Draws prog w A it [it, l] items.size (fun i v => items[i]? = some v) (fun i h => h.IsTupleIter it l i ∧ h.IsTuple l items) where
  live := fun _ _ st => let ⟨o, ho, _⟩ := st.1; ⟨o, ho⟩
  frame := fun _ _ _ st hk => ⟨st.1.at fun o e => hk it (by simp) o e, st.2.at fun o e => hk l (by simp) o e⟩
  item := fun i s Q E hi st hQ => by
    refine nextOf_tuple_item st.1 st.2 (x := items[i]) (by simp [hi]) fun h' hit' hs' => ?_
    exact hQ _ h' s.toks (by simp [hi]) ⟨hit', st.2.extBut hs'.extBut hne⟩ hs'
  done := fun s Q E st hE => nextOf_tuple_end hh st.1 st.2 (by simp) hE
/-- two draws, set side by side -/
structure ZA (z TI TO i1 i2 : Addr) (fp1 fp2 : List Addr) : Prop where
  TIz : TI ≠ z
  TOz : TO ≠ z
  i1z : i1 ≠ z
  i2z : i2 ≠ z
  TITO : TI ≠ TO
  TIi1 : TI ≠ i1
  TIi2 : TI ≠ i2
  TOi1 : TO ≠ i1
  TOi2 : TO ≠ i2
  i12 : i1 ≠ i2
  z1 : z ∉ fp1
  z2 : z ∉ fp2
  TO1 : TO ∉ fp1
  TO2 : TO ∉ fp2
  i21 : i2 ∉ fp1
  i1f : i1 ∉ fp2
section
variable {prog : PySem.Program} {w : World} {A : Around} {E : Value → Shared → Prop} {s : Shared} {z TI TO i1 i2 : Addr} {fp1 fp2 : List Addr} {n1 n2 : Nat} {P1 P2 : Nat → Value → Prop} {S1 S2 : Nat → Heap → Prop}
theorem zipD_item {k : Nat} {a b : Value} {Q : Value → Shared → Prop} (D : ZA z TI TO i1 i2 fp1 fp2) (D1 : Draws prog w A i1 fp1 n1 P1 S1) (D2 : Draws prog w A i2 fp2 n2 P2 S2)
    (hz : IsZip s.heap z TI TO .none) (hTI : IsPair s.heap TI (.ref i1) (.ref i2)) (hTO : IsPair s.heap TO a b) (h1 : S1 k s.heap) (h2 : S2 k s.heap) (l1 : k < n1) (l2 : k < n2)
    (hQ : ∀ h' tk x y, P1 k x → P2 k y → IsZip h' z TI TO (rawInt s.heap.objs.size) → IsPair h' TO x y → S1 (k + 1) h' → S2 (k + 1) h' → IsPair h' s.heap.objs.size x y → h'.objs.size = s.heap.objs.size + 1 →
      (∀ c o, c ≠ z → c ≠ TO → c ≠ i1 → c ≠ i2 → s.heap.get? c = some o → h'.get? c = some o) → Q (.ref s.heap.objs.size) { s with heap := h', toks := tk }) :
    wpAny (model prog w) A (Builtin.«zip.__next__» ⟨[.ref z], []⟩) (fun fin s' => ∃ v, fin = .done (.ret v) ∧ Q v s') E s := by
  obtain ⟨hp, g, d, tk₀, os⟩ := s
  show wpAny _ _ (field (.ref z) 2 >>= _) _ _ _
  refine wpAny_bind (wpAny_field hz rfl (x := .bool false) rfl ?_)
  show wpAny _ _ (field (.ref z) 3 >>= _) _ _ _
  refine wpAny_bind (wpAny_field hz rfl (x := .ref TI) rfl ?_)
  refine wpAny_bind (wpAny_seqItems hTI rfl ?_)
  show wpAny _ _ (Builtin.SmallTypes.ownedTupleIsFree (.ref z) >>= _) _ _ _
  refine wpAny_bind ?_
  unfold Builtin.SmallTypes.ownedTupleIsFree
  refine wpAny_bind (wpAny_field hz rfl (x := .none) rfl (wpAny_pure ?_))
  simp only [if_true]
  refine wpAny_bind (wpAny_rule ?_)
  refine wpAny_bind (wpAny_field hz rfl (x := .ref TO) rfl ?_)
  refine wpAny_bind (wpAny_setField_rec hz (by simp) fun h₁ hz₁ hs₁ => ?_)
  replace hz₁ : IsZip h₁ z TI TO .ellipsis := hz₁
  replace hs₁ : Heap.SameBut z hp h₁ := hs₁
  have s1₁ : S1 k h₁ := D1.frame _ _ _ h1 fun c hc o e => hs₁.extBut _ _ (fun q => D.z1 (q ▸ hc)) e
  have s2₁ : S2 k h₁ := D2.frame _ _ _ h2 fun c hc o e => hs₁.extBut _ _ (fun q => D.z2 (q ▸ hc)) e
  refine wpAny_bind ?_
  simp only [List.zipIdx_cons, List.zipIdx_nil, List.forIn_cons, List.forIn_nil]
  refine wpAny_bind (wpAny_bind (wpAny_onRaise ?_))
  show wpAny _ _ (Builtin.SmallTypes.nextOf (.ref i1) >>= _) _ _ _
  refine wpAny_bind (D1.item k _ _ _ l1 s1₁ fun x h₂ tk₂ hx s1₂ hs₂ => wpAny_pure ?_)
  replace hs₂ : Heap.SameBut i1 h₁ h₂ := hs₂
  have hTO₂ : IsPair h₂ TO a b := hs₂.extBut _ _ D.TOi1 (hs₁.extBut _ _ D.TOz hTO)
  refine wpAny_bind (wpAny_seqItems (s := ⟨h₂, g, d, tk₂, os⟩) hTO₂ rfl ?_)
  refine wpAny_bind (wpAny_updateSeq_pair (s := ⟨h₂, g, d, tk₂, os⟩) hTO₂ fun h₃ hTO₃ hs₃ => ?_)
  replace hTO₃ : IsPair h₃ TO x b := hTO₃
  replace hs₃ : Heap.SameBut TO h₂ h₃ := hs₃
  refine wpAny_bind (wpAny_letGo (wpAny_pure ?_))
  have s2₃ : S2 k h₃ := D2.frame _ _ _ s2₁ fun c hc o e => hs₃.extBut _ _ (fun q => D.TO2 (q ▸ hc)) (hs₂.extBut _ _ (fun q => D.i1f (q ▸ hc)) e)
  have s1₃ : S1 (k + 1) h₃ := D1.frame _ _ _ s1₂ fun c hc o e => hs₃.extBut _ _ (fun q => D.TO1 (q ▸ hc)) e
  refine wpAny_bind (wpAny_bind (wpAny_onRaise ?_))
  show wpAny _ _ (Builtin.SmallTypes.nextOf (.ref i2) >>= _) _ _ _
  refine wpAny_bind (D2.item k _ _ _ l2 s2₃ fun y h₄ tk₄ hy s2₄ hs₄ => wpAny_pure ?_)
  replace hs₄ : Heap.SameBut i2 h₃ h₄ := hs₄
  have hTO₄ : IsPair h₄ TO x b := hs₄.extBut _ _ D.TOi2 hTO₃
  refine wpAny_bind (wpAny_seqItems (s := ⟨h₄, g, d, tk₄, os⟩) hTO₄ rfl ?_)
  refine wpAny_bind (wpAny_updateSeq_pair (s := ⟨h₄, g, d, tk₄, os⟩) hTO₄ fun h₅ hTO₅ hs₅ => ?_)
  replace hTO₅ : IsPair h₅ TO x y := hTO₅
  replace hs₅ : Heap.SameBut TO h₄ h₅ := hs₅
  refine wpAny_bind (wpAny_letGo (wpAny_pure (wpAny_pure ?_)))
  refine wpAny_bind (wpAny_seqItems (s := ⟨h₅, g, d, tk₄, os⟩) hTO₅ rfl ?_)
  refine wpAny_bind (wpAny_newTuple ?_)
  have hsz : h₅.objs.size = hp.objs.size := by rw [hs₅.1, hs₄.1, hs₃.1, hs₂.1, hs₁.1]
  have hz₅ : IsZip h₅ z TI TO .ellipsis := hs₅.extBut _ _ D.TOz.symm (hs₄.extBut _ _ D.i2z.symm (hs₃.extBut _ _ D.TOz.symm (hs₂.extBut _ _ D.i1z.symm hz₁)))
  have hk₅ : ∀ c o, c ≠ z → c ≠ TO → c ≠ i1 → c ≠ i2 → hp.get? c = some o → h₅.get? c = some o := fun c o c1 c2 c3 c4 e =>
    hs₅.extBut _ _ c2 (hs₄.extBut _ _ c4 (hs₃.extBut _ _ c2 (hs₂.extBut _ _ c3 (hs₁.extBut _ _ c1 e))))
  have s1₅ : S1 (k + 1) h₅ := D1.frame _ _ _ s1₃ fun c hc o e => hs₅.extBut _ _ (fun q => D.TO1 (q ▸ hc)) (hs₄.extBut _ _ (fun q => D.i21 (q ▸ hc)) e)
  have s2₅ : S2 (k + 1) h₅ := D2.frame _ _ _ s2₄ fun c hc o e => hs₅.extBut _ _ (fun q => D.TO2 (q ▸ hc)) e
  have hzlt : z < h₅.objs.size := Heap.lt_size hz₅
  show wpAny _ _ (Builtin.SmallTypes.ownedTupleHandOut (.ref z) (.ref h₅.objs.size) >>= _) _ _ _
  refine wpAny_bind ?_
  unfold Builtin.SmallTypes.ownedTupleHandOut
  have hz₆ : IsZip (h₅.push { cls := .type "tuple", data := .seq #[x, y] }) z TI TO .ellipsis := Heap.get?_push_of_some _ hz₅
  refine wpAny_bind (wpAny_setField_rec (s := ⟨h₅.push { cls := .type "tuple", data := .seq #[x, y] }, g, d, tk₄, os⟩) hz₆ (by simp) fun h₇ hz₇ hs₇ => ?_)
  replace hz₇ : IsZip h₇ z TI TO (rawInt h₅.objs.size) := hz₇
  replace hs₇ : Heap.SameBut z (h₅.push { cls := .type "tuple", data := .seq #[x, y] }) h₇ := hs₇
  refine wpAny_setField_rec (s := ⟨h₇, g, d, tk₄, os⟩) hz₇ (by simp) fun h₈ hz₈ hs₈ => ?_
  replace hz₈ : IsZip h₈ z TI TO (rawInt h₅.objs.size) := hz₈
  replace hs₈ : Heap.SameBut z h₇ h₈ := hs₈
  have up : ∀ c o, c ≠ z → h₅.get? c = some o → h₈.get? c = some o := fun c o c1 e => hs₈.extBut _ _ c1 (hs₇.extBut _ _ c1 (Heap.get?_push_of_some _ e))
  have hT₈ : IsPair h₈ h₅.objs.size x y := hs₈.extBut _ _ (Nat.ne_of_gt hzlt) (hs₇.extBut _ _ (Nat.ne_of_gt hzlt) (Heap.get?_push_size _ rfl))
  have hz8 : h₈.objs.size = h₅.objs.size + 1 := by rw [hs₈.1, hs₇.1, Heap.size_push]
  rw [hsz] at hz₈ hT₈ hz8
  refine wpAny_pure ⟨_, rfl, ?_⟩
  show Q (.ref h₅.objs.size) _
  rw [hsz]
  exact hQ h₈ tk₄ x y hx hy hz₈ (up _ _ D.TOz hTO₅) (D1.frame _ _ _ s1₅ fun c hc o e => up _ o (fun q => D.z1 (q ▸ hc)) e) (D2.frame _ _ _ s2₅ fun c hc o e => up _ o (fun q => D.z2 (q ▸ hc)) e) hT₈ hz8 fun c o c1 c2 c3 c4 e => up c o c1 (hk₅ c o c1 c2 c3 c4 e)
theorem zipD_end {k : Nat} {a b : Value} {Q : Fin → Shared → Prop} (D : ZA z TI TO i1 i2 fp1 fp2) (D1 : Draws prog w A i1 fp1 n1 P1 S1) (D2 : Draws prog w A i2 fp2 n2 P2 S2) (hf1 : i1 ∈ fp1) (hf2 : i2 ∈ fp2)
    (hz : IsZip s.heap z TI TO .none) (hTI : IsPair s.heap TI (.ref i1) (.ref i2)) (hTO : IsPair s.heap TO a b) (h1 : S1 k s.heap) (h2 : S2 k s.heap) (hk : k = min n1 n2)
    (hE : ∀ h' tk e, (∀ c o, c ≠ z → c ≠ TO → c ≠ i1 → c ≠ i2 → s.heap.get? c = some o → h'.get? c = some o) → (∃ o, h'.get? e = some o ∧ o.cls = .type "StopIteration") → E (.ref e) { s with heap := h', toks := tk }) :
    wpAny (model prog w) A (Builtin.«zip.__next__» ⟨[.ref z], []⟩) Q E s := by
  obtain ⟨hp, g, d, tk₀, os⟩ := s
  show wpAny _ _ (field (.ref z) 2 >>= _) _ _ _
  refine wpAny_bind (wpAny_field hz rfl (x := .bool false) rfl ?_)
  show wpAny _ _ (field (.ref z) 3 >>= _) _ _ _
  refine wpAny_bind (wpAny_field hz rfl (x := .ref TI) rfl ?_)
  refine wpAny_bind (wpAny_seqItems hTI rfl ?_)
  show wpAny _ _ (Builtin.SmallTypes.ownedTupleIsFree (.ref z) >>= _) _ _ _
  refine wpAny_bind ?_
  unfold Builtin.SmallTypes.ownedTupleIsFree
  refine wpAny_bind (wpAny_field hz rfl (x := .none) rfl (wpAny_pure ?_))
  simp only [if_true]
  refine wpAny_bind (wpAny_rule ?_)
  refine wpAny_bind (wpAny_field hz rfl (x := .ref TO) rfl ?_)
  refine wpAny_bind (wpAny_setField_rec hz (by simp) fun h₁ hz₁ hs₁ => ?_)
  replace hz₁ : IsZip h₁ z TI TO .ellipsis := hz₁
  replace hs₁ : Heap.SameBut z hp h₁ := hs₁
  have s1₁ : S1 k h₁ := D1.frame _ _ _ h1 fun c hc o e => hs₁.extBut _ _ (fun q => D.z1 (q ▸ hc)) e
  have s2₁ : S2 k h₁ := D2.frame _ _ _ h2 fun c hc o e => hs₁.extBut _ _ (fun q => D.z2 (q ▸ hc)) e
  refine wpAny_bind ?_
  simp only [List.zipIdx_cons, List.zipIdx_nil, List.forIn_cons, List.forIn_nil]
  refine wpAny_bind (wpAny_bind (wpAny_onRaise ?_))
  show wpAny _ _ (Builtin.SmallTypes.nextOf (.ref i1) >>= _) _ _ _
  rcases Nat.lt_or_ge k n1 with l1 | l1
  · have hk2 : k = n2 := by omega
    refine wpAny_bind (D1.item k _ _ _ l1 s1₁ fun x h₂ tk₂ hx s1₂ hs₂ => wpAny_pure ?_)
    replace hs₂ : Heap.SameBut i1 h₁ h₂ := hs₂
    have hTO₂ : IsPair h₂ TO a b := hs₂.extBut _ _ D.TOi1 (hs₁.extBut _ _ D.TOz hTO)
    refine wpAny_bind (wpAny_seqItems (s := ⟨h₂, g, d, tk₂, os⟩) hTO₂ rfl ?_)
    refine wpAny_bind (wpAny_updateSeq_pair (s := ⟨h₂, g, d, tk₂, os⟩) hTO₂ fun h₃ hTO₃ hs₃ => ?_)
    replace hTO₃ : IsPair h₃ TO x b := hTO₃
    replace hs₃ : Heap.SameBut TO h₂ h₃ := hs₃
    refine wpAny_bind (wpAny_letGo (wpAny_pure ?_))
    have s2₃ : S2 k h₃ := D2.frame _ _ _ s2₁ fun c hc o e => hs₃.extBut _ _ (fun q => D.TO2 (q ▸ hc)) (hs₂.extBut _ _ (fun q => D.i1f (q ▸ hc)) e)
    refine wpAny_bind (wpAny_bind (wpAny_onRaise ?_))
    show wpAny _ _ (Builtin.SmallTypes.nextOf (.ref i2) >>= _) _ _ _
    rw [hk2] at s2₃
    refine wpAny_bind (D2.done _ _ _ s2₃ fun h₄ e hs₄ he => ?_)
    replace hs₄ : Heap.ExtBut i2 h₃ h₄ := hs₄
    obtain ⟨oe, hoe, hce⟩ := he
    have hz₄ : IsZip h₄ z TI TO .ellipsis := hs₄ _ _ D.i2z.symm (hs₃.extBut _ _ D.TOz.symm (hs₂.extBut _ _ D.i1z.symm hz₁))
    have hez : e ≠ z := fun x => by subst x; have hoe' : h₄.get? _ = some oe := hoe; rw [hz₄] at hoe'; cases hoe'; simp at hce
    refine wpAny_setField_rec (s := ⟨h₄, g, d, tk₂, os⟩) hz₄ (by simp) fun h₅ _ hs₅ => hE h₅ _ e (fun c o c1 c2 c3 c4 x => hs₅.extBut _ _ c1 (hs₄ _ _ c4 (hs₃.extBut _ _ c2 (hs₂.extBut _ _ c3 (hs₁.extBut _ _ c1 x))))) ⟨oe, hs₅.extBut _ _ hez hoe, hce⟩
  · have hk1 : k = n1 := by omega
    rw [hk1] at s1₁
    refine wpAny_bind (D1.done _ _ _ s1₁ fun h₂ e hs₂ he => ?_)
    replace hs₂ : Heap.ExtBut i1 h₁ h₂ := hs₂
    obtain ⟨oe, hoe, hce⟩ := he
    have hz₂ : IsZip h₂ z TI TO .ellipsis := hs₂ _ _ D.i1z.symm hz₁
    have hez : e ≠ z := fun x => by subst x; have hoe' : h₂.get? _ = some oe := hoe; rw [hz₂] at hoe'; cases hoe'; simp at hce
    refine wpAny_setField_rec (s := ⟨h₂, g, d, tk₀, os⟩) hz₂ (by simp) fun h₃ _ hs₃ => hE h₃ _ e (fun c o c1 _ c3 _ x => hs₃.extBut _ _ c1 (hs₂ _ _ c3 (hs₁.extBut _ _ c1 x))) ⟨oe, hs₃.extBut _ _ hez hoe, hce⟩
end
/-- the walk of a zip over two draws -/
theorem zipW {prog : PySem.Program} {w : World} {A : Around} {z TI TO i1 i2 : Addr} {fp1 fp2 : List Addr} {n1 n2 : Nat} {P1 P2 : Nat → Value → Prop} {S1 S2 : Nat → Heap → Prop}
    (D : ZA z TI TO i1 i2 fp1 fp2) (D1 : Draws prog w A.in1 i1 fp1 n1 P1 S1) (D2 : Draws prog w A.in1 i2 fp2 n2 P2 S2) (hf1 : i1 ∈ fp1) (hf2 : i2 ∈ fp2) :
    WalksT prog w A z (z :: TI :: TO :: (fp1 ++ fp2)) [z, TO, i1, i2] (min n1 n2) (fun i vals => ∃ x y, P1 i x ∧ P2 i y ∧ vals = #[x, y])
      (fun i h => IsZip h z TI TO .none ∧ IsPair h TI (.ref i1) (.ref i2) ∧ (∃ a b, IsPair h TO a b) ∧ S1 i h ∧ S2 i h)
      (fun i T h => IsZip h z TI TO (rawInt T) ∧ IsPair h TI (.ref i1) (.ref i2) ∧ (∃ a b, IsPair h TO a b) ∧ S1 (i + 1) h ∧ S2 (i + 1) h ∧ T ≠ z ∧ T ≠ TO ∧ T ≠ i1 ∧ T ≠ i2) where
  sub := fun c hc => by
    simp only [List.mem_cons, List.mem_nil_iff, or_false] at hc
    simp only [List.mem_cons, List.mem_append]
    rcases hc with rfl | rfl | rfl | rfl
    · exact .inl rfl
    · exact .inr (.inr (.inl rfl))
    · exact .inr (.inr (.inr (.inl hf1)))
    · exact .inr (.inr (.inr (.inr hf2)))
  frame := fun i h h' hst hk => by
    obtain ⟨hz, hTI, ⟨a, b, hTO⟩, h1, h2⟩ := hst
    exact ⟨hk z (by simp) _ hz, hk TI (by simp) _ hTI, ⟨a, b, hk TO (by simp) _ hTO⟩, D1.frame _ _ _ h1 fun c hc o e => hk c (by simp [hc]) o e, D2.frame _ _ _ h2 fun c hc o e => hk c (by simp [hc]) o e⟩
  item := fun i s Q E hi hst hQ => by
    obtain ⟨hz, hTI, ⟨a, b, hTO⟩, h1, h2⟩ := hst
    have hT : s.TypeIs (.ref z) "zip" := ⟨_, hz, rfl⟩
    have lt : ∀ {c o}, s.heap.get? c = some o → s.heap.objs.size ≠ c := fun e => Nat.ne_of_gt (Heap.lt_size e)
    have l1 := D1.live _ _ h1
    have l2 := D2.live _ _ h2
    unfold pyNext
    refine wpAny_bind (wpAny_attempt (wpAny_callSpecial?_slot (name := Str.ofString "__next__") hT F.slot_zip_next
      (wpAny_call_entry F.slot_zip_next hT F.entry_zip_next (zipD_item D D1 D2 hz hTI hTO h1 h2 (Nat.lt_of_lt_of_le hi (Nat.min_le_left ..)) (Nat.lt_of_lt_of_le hi (Nat.min_le_right ..))
        fun h' tk x y hx hy a1 a2 a3 a4 a5 a6 hk => wpAny_pure (hQ s.heap.objs.size #[x, y] h' tk ⟨_, _, hx, hy, rfl⟩ (Nat.le_refl _) ⟨_, a5, rfl, _, rfl⟩
          ⟨a1, hk _ _ D.TIz D.TITO D.TIi1 D.TIi2 hTI, ⟨_, _, a2⟩, a3, a4, lt hz, lt hTO, (by obtain ⟨_, e⟩ := l1; exact lt e), (by obtain ⟨_, e⟩ := l2; exact lt e)⟩
          fun c o hc e => hk c o (fun x => hc (by simp [x])) (fun x => hc (by simp [x])) (fun x => hc (by simp [x])) (fun x => hc (by simp [x])) e)) (F.args_zip_next_1 _))))
  go := fun elts k pos i T s Q E hm hQ => by
    obtain ⟨hz, hTI, ⟨a, b, hTO⟩, h1, h2, _⟩ := hm
    refine wpAny_letOwnedTupleGo_zip hz fun h' hz' hs' => hQ h' ⟨hz', hs'.extBut _ _ D.TIz hTI, ⟨a, b, hs'.extBut _ _ D.TOz hTO⟩, D1.frame _ _ _ h1 fun c hc o e => hs'.extBut _ _ (fun q => D.z1 (q ▸ hc)) e, D2.frame _ _ _ h2 fun c hc o e => hs'.extBut _ _ (fun q => D.z2 (q ▸ hc)) e⟩
      fun c o hc e => hs'.extBut _ _ (fun x => hc (by simp [x])) e
  apart := fun i T h hm hT => by
    obtain ⟨_, _, _, _, _, t1, t2, t3, t4⟩ := hm
    simp at hT
    rcases hT with rfl | rfl | rfl | rfl
    · exact t1 rfl
    · exact t2 rfl
    · exact t3 rfl
    · exact t4 rfl
  done := fun s Q E hst hQ => by
    obtain ⟨hz, hTI, ⟨a, b, hTO⟩, h1, h2⟩ := hst
    have hT : s.TypeIs (.ref z) "zip" := ⟨_, hz, rfl⟩
    unfold pyNext
    refine wpAny_bind (wpAny_attempt (wpAny_callSpecial?_slot (name := Str.ofString "__next__") hT F.slot_zip_next
      (wpAny_call_entry F.slot_zip_next hT F.entry_zip_next (zipD_end D D1 D2 hf1 hf2 hz hTI hTO h1 h2 rfl fun h' tk e hk he => ?_) (F.args_zip_next_1 _))))
    obtain ⟨o, ho, hc⟩ := he
    refine wpAny_bind (wpAny_isInstance (T := "StopIteration") (b := true) ⟨o, ho, hc⟩ isSubtype_stop ?_)
    exact wpAny_pure (hQ _ tk fun c o hc e => hk c o (fun x => hc (by simp [x])) (fun x => hc (by simp [x])) (fun x => hc (by simp [x])) (fun x => hc (by simp [x])) e)
  self := fun i s Q E hst hQ => wpAny_pyIter_zip hst.1 hQ
/-- an iterator is one new object -/
noncomputable def PI (v : Value) (o : Obj) (h : Heap) : Prop := ∀ (prog : PySem.Program) (w : World) (A : Around) (s : Shared) (Q : Value → Shared → Prop) (E : Value → Shared → Prop), s.heap = h → Q (.ref s.heap.objs.size) { s with heap := s.heap.push o } → wpAny (model prog w) A (pyIter v) Q E s
noncomputable abbrev zq1 (h : Heap) (o1 : Obj) : Heap := h.push o1
noncomputable abbrev zq2 (h : Heap) (o1 o2 : Obj) : Heap := (zq1 h o1).push o2
noncomputable abbrev zq3 (h : Heap) (o1 o2 : Obj) : Heap := (zq2 h o1 o2).push { cls := .type "tuple", data := .seq #[.ref h.objs.size, .ref (zq1 h o1).objs.size] }
noncomputable abbrev zq4 (h : Heap) (o1 o2 : Obj) : Heap := (zq3 h o1 o2).push { cls := .type "tuple", data := .seq #[.none, .none] }
noncomputable abbrev zq5 (h : Heap) (o1 o2 : Obj) : Heap := (zq4 h o1 o2).push { cls := .type "zip", data := .fields #[.none, .bool false, .bool false, .ref (zq2 h o1 o2).objs.size, .ref (zq3 h o1 o2).objs.size] }
theorem meets_zipQ (v1 v2 : Value) (o1 o2 : Obj) :
    Meets (Builtin.«zip.__new__» ⟨[.type "zip", v1, v2], []⟩) (fun _ R s => PI v1 o1 s.heap ∧ PI v2 o2 (s.heap.push o1) ∧
      R (.ok (.ret (.ref (zq4 s.heap o1 o2).objs.size))) { s with heap := zq5 s.heap o1 o2 }) :=
  .of_wp fun prog w A R s h => by
    obtain ⟨hp, g, d, tk, os⟩ := s; obtain ⟨hl1, hl2, h⟩ := h
    have hsub := sub_zip
    have k1 : ∀ {A' : Around} {Q : Value → Shared → Prop} {E : Value → Shared → Prop}, Q (.ref hp.objs.size) ⟨hp.push o1, g, d, tk, os⟩ → wpAny (model prog w) A' (pyIter v1) Q E ⟨hp, g, d, tk, os⟩ := fun {A' Q E} q => hl1 prog w A' ⟨hp, g, d, tk, os⟩ Q E rfl q
    have k2 : ∀ {A' : Around} {Q : Value → Shared → Prop} {E : Value → Shared → Prop}, Q (.ref (hp.push o1).objs.size) ⟨(hp.push o1).push o2, g, d, tk, os⟩ → wpAny (model prog w) A' (pyIter v2) Q E ⟨hp.push o1, g, d, tk, os⟩ := fun {A' Q E} q => hl2 prog w A' ⟨hp.push o1, g, d, tk, os⟩ Q E rfl q
    wp_walk using k1, k2
    exact ⟨_, rfl, h⟩
section
variable {prog : PySem.Program} {w : World} {A : Around} {E : Value → Shared → Prop} {s : Shared}
theorem call_zipQ {v1 v2 : Value} {o1 o2 : Obj} {Q : Value → Shared → Prop} (hl1 : PI v1 o1 s.heap) (hl2 : PI v2 o2 (s.heap.push o1)) (f1 : o1.isFreed = false) (f2 : o2.isFreed = false)
    (h : ∀ h', IsZip h' (s.heap.objs.size + 4) (s.heap.objs.size + 2) (s.heap.objs.size + 3) .none → IsPair h' (s.heap.objs.size + 2) (.ref s.heap.objs.size) (.ref (s.heap.objs.size + 1)) →
      IsPair h' (s.heap.objs.size + 3) .none .none → h'.get? s.heap.objs.size = some o1 → h'.get? (s.heap.objs.size + 1) = some o2 → h'.objs.size = s.heap.objs.size + 5 →
      (∀ c o, s.heap.get? c = some o → h'.get? c = some o) → Q (.ref (s.heap.objs.size + 4)) { s with heap := h' }) :
    wpAny (model prog w) A (call (.type "zip") [v1, v2]) Q E s := by
  refine callType_new F.called_zip (by decide) (F.typeCall_zip_2 _ _) (F.newCall_zip_2 _ _) (fun obj => F.args_object_init_3 obj _ _) F.entry_zip_new
    (meets_zipQ v1 v2 o1 o2) ⟨hl1, hl2, ?_⟩
  have z1 : (zq1 s.heap o1).objs.size = s.heap.objs.size + 1 := Heap.size_push ..
  have z2 : (zq2 s.heap o1 o2).objs.size = s.heap.objs.size + 2 := by rw [Heap.size_push, z1]
  have z3 : (zq3 s.heap o1 o2).objs.size = s.heap.objs.size + 3 := by rw [Heap.size_push, z2]
  have z4 : (zq4 s.heap o1 o2).objs.size = s.heap.objs.size + 4 := by rw [Heap.size_push, z3]
  have z5 : (zq5 s.heap o1 o2).objs.size = s.heap.objs.size + 5 := by rw [Heap.size_push, z4]
  have g5 : (zq5 s.heap o1 o2).get? (zq4 s.heap o1 o2).objs.size = some _ := Heap.get?_push_size _ rfl
  have g4 : (zq5 s.heap o1 o2).get? (zq3 s.heap o1 o2).objs.size = some _ := Heap.get?_push_of_some _ (Heap.get?_push_size _ rfl)
  have g3 : (zq5 s.heap o1 o2).get? (zq2 s.heap o1 o2).objs.size = some _ := Heap.get?_push_of_some _ (Heap.get?_push_of_some _ (Heap.get?_push_size _ rfl))
  have g2 : (zq5 s.heap o1 o2).get? (zq1 s.heap o1).objs.size = some _ := Heap.get?_push_of_some _ (Heap.get?_push_of_some _ (Heap.get?_push_of_some _ (Heap.get?_push_size _ f2)))
  have g1 : (zq5 s.heap o1 o2).get? s.heap.objs.size = some _ := Heap.get?_push_of_some _ (Heap.get?_push_of_some _ (Heap.get?_push_of_some _ (Heap.get?_push_of_some _ (Heap.get?_push_size _ f1))))
  show _ ∧ _
  rw [z2, z3, z4] at g5
  rw [z1, z2] at g3
  rw [z3] at g4
  rw [z1] at g2
  rw [z4]
  exact ⟨⟨_, g5, rfl⟩, h _ g5 g3 g4 g1 g2 z5 fun c o x =>
    Heap.get?_push_of_some _ (Heap.get?_push_of_some _ (Heap.get?_push_of_some _ (Heap.get?_push_of_some _ (Heap.get?_push_of_some _ x))))⟩
end
noncomputable abbrev itL (a : Addr) : Obj := { cls := .type "list_iterator", data := .fields #[.ref a, .int 0 0] }
noncomputable abbrev itT (a : Addr) : Obj := { cls := .type "tuple_iterator", data := .fields #[.ref a, .int 0 0] }
theorem PI.list {a : Addr} {items : Array Value} {h : Heap} (hl : h.IsList a items) : PI (.ref a) (itL a) h := fun _ _ _ _ _ _ e q => by subst e; exact wpAny_pyIter_list hl q
theorem PI.tuple {a : Addr} {items : Array Value} {h : Heap} (hl : h.IsTuple a items) : PI (.ref a) (itT a) h := fun _ _ _ _ _ _ e q => by subst e; exact wpAny_pyIter_tuple hl q
theorem PI.str {x : PySem.Str} {t : Tok} {h : Heap} : PI (.str x t) { cls := .type (strIterType x), data := .fields #[.str x t, .int 0 0] } h := fun _ _ _ _ _ _ e q => by subst e; exact wpAny_pyIter_strU q
end Mine
end
section
open PySem PySem.W PyProof.Rows PySem.Calls PySem.Spec PyProof.Rows.LCg
open PyProof.V
set_option maxRecDepth 100000
namespace Mine
noncomputable abbrev VF := Tok → Value
noncomputable def MEnd (h₀ : Heap) (L : Addr) (m : PySem.Str → Option Value) (s₁ : Shared) (C : Addr) (oC : Obj) (D : Addr) (oD : Obj) (its keep : Led) (rest : Value → Led → Prop) (y : Value) (s₂ : Shared) : Prop :=
  ∀ G : Prop, (∀ h' tk news', s₂ = { s₁ with heap := h', toks := tk } → Fr h₀ L h' m → News h₀ L h' ((C, oC) :: (D, oD) :: (news' ++ its)) → (∀ p ∈ news', p.1 ≠ C ∧ p.1 ≠ D) → (∀ p ∈ news', ∀ q ∈ its, p.1 ≠ q.1) → (∀ p ∈ keep, p ∈ news') → rest y news' → G) → G
theorem MEnd.intro {h₀ : Heap} {L C D : Addr} {m : PySem.Str → Option Value} {s₁ : Shared} {oC oD : Obj} {its keep : Led} {rest : Value → Led → Prop} {y : Value} {h' : Heap} {tk : Nat} {all : Led}
    (F : Fr h₀ L h' m) (N : News h₀ L h' all) (news' : Led) (sub : ∀ p ∈ (C, oC) :: (D, oD) :: (news' ++ its), p ∈ all) (off : ∀ p ∈ news', p.1 ≠ C ∧ p.1 ≠ D) (offI : ∀ p ∈ news', ∀ q ∈ its, p.1 ≠ q.1) (hk : ∀ p ∈ keep, p ∈ news') (r : rest y news') :
    MEnd h₀ L m s₁ C oC D oD its keep rest y { s₁ with heap := h', toks := tk } := fun _ k => k h' tk news' rfl F (fun p hp => N p (sub p hp)) off offI hk r
noncomputable abbrev tl : Option PySem.Expr → List PySem.Expr
  | none => []
  | some c => [c]
noncomputable def MBody (prog : PySem.Program) (w : World) (A : Around) (ct : Option PySem.Expr) (elt : PySem.Expr) (cenv : Env) (Endy : Value → Shared → Prop) (Endn : Value → Shared → Prop) (E : Value → Shared → Prop) (s : Shared) : Prop :=
  match ct with
  | none => wpAny (model prog w) A (eval elt cenv) Endy E s
  | some c => wpAny (model prog w) A (isTrue c cenv (eval c cenv)) (fun ok s' => if ok = true then wpAny (model prog w) A (eval elt cenv) Endy E s' else Endn .none s') E s
noncomputable def MRest (prog : PySem.Program) (w : World) (A : Around) (h₀ : Heap) (L : Addr) (m : PySem.Str → Option Value) (env : Env) (ct : Option PySem.Expr) (elt : PySem.Expr) (a b : PySem.Str) (scope : Scope) (cl : List (PySem.Str × Addr)) (s : Shared) (its0 : Led → Prop) (keep : Led)
    (Fin : List Value → Led → Prop) : List (VF × VF) → List Value → Led → Prop
  | [], ys, news => Fin ys news
  | p :: r, ys, news => ∀ (t u : Tok) its C oC D m₂ h tk (E' : Value → Shared → Prop), its0 its → NsObj oC m₂ → m₂ a = some (p.1 t) → m₂ b = some (p.2 u) → Fr h₀ L h m → News h₀ L h ((C, oC) :: (D, lst ys) :: (news ++ its)) →
      (∀ q ∈ news, q.1 ≠ C ∧ q.1 ≠ D) → (∀ q ∈ news, ∀ z ∈ its, q.1 ≠ z.1) → (∀ q ∈ its, q.1 ≠ C ∧ q.1 ≠ D) → (@Ne Nat C D) →
      MBody prog w A ct elt (compEnvC scope cl C env) (MEnd h₀ L m { s with heap := h, toks := tk } C oC D (lst ys) its keep (fun y news' => MRest prog w A h₀ L m env ct elt a b scope cl s its0 keep Fin r (ys ++ [y]) news'))
        (MEnd h₀ L m { s with heap := h, toks := tk } C oC D (lst ys) its keep (fun _ news' => MRest prog w A h₀ L m env ct elt a b scope cl s its0 keep Fin r ys news')) E' { s with heap := h, toks := tk }
noncomputable def McI (h₀ : Heap) (L : Addr) (m : PySem.Str → Option Value) (s₂ : Shared) (C D : Addr) (n : Nat) (St : Nat → Heap → Prop) (ws : List (Addr × String)) (keep : Led) (xs : List (VF × VF)) (rest : List (VF × VF) → List Value → Led → Prop) (k : Nat) (s' : Shared) : Prop :=
  ∀ G : Prop, (∀ h' tk i ys m' news', s' = { s₂ with heap := h', toks := tk } → i ≤ n → k = n + 1 - i → ys.length ≤ i → St i h' → Fr h₀ L h' m → h'.Ns C m' →
    News h₀ L h' ((D, lst ys) :: news') → (∀ p ∈ news', p.1 ≠ C ∧ p.1 ≠ D) → (∀ p ∈ news', p.1 ∉ ws.map (·.1)) → (∀ p ∈ keep, p ∈ news') → rest (xs.drop i) ys news' → G) → G
section
variable {prog : PySem.Program} {w : World} {A : Around} {E : Value → Shared → Prop} {s : Shared} {h₀ : Heap} {L : Addr} {m : PySem.Str → Option Value} {env : Env}
theorem MBody_mono {ct : Option PySem.Expr} {elt : PySem.Expr} {cenv : Env} {P P' : Value → Shared → Prop} {R R' : Value → Shared → Prop} {E' : Value → Shared → Prop} {s : Shared} (h : MBody prog w A ct elt cenv P R E' s) (hP : ∀ y s, P y s → P' y s) (hR : ∀ s, R .none s → R' .none s) : MBody prog w A ct elt cenv P' R' E' s := by
  cases ct with
  | none => exact wpAny_mono h hP fun _ _ e => e
  | some c =>
    refine wpAny_mono h (fun ok s' q => ?_) fun _ _ e => e
    cases ok with
    | true => simp only [if_true] at q ⊢; exact wpAny_mono q hP fun _ _ e => e
    | false => simp only [Bool.false_eq_true, if_false] at q ⊢; exact hR _ q
theorem mc_loop {elt target iter : PySem.Expr} {ct : Option PySem.Expr} {scope : Scope} {pos : Pos} {it acc : Value} {env : Env} {R : Result → Shared → Prop} (I : Nat → Shared → Prop)
    (turn : ∀ n s, I n s → wpAny (model prog w) A (pyNext it) (fun r s₁ => match r with
      | none => R (.ok .next) s₁
      | some v => wpAny (model prog w) A (letOwnedTupleGo target it v) (fun _ s₀ => wpAny (model prog w) A (assign target env v) (fun _ s₂ =>
          MBody prog w A ct elt env (fun x s₄ =>
            wpAny (model prog w) A (call (.builtin "list.append") [acc, x]) (fun _ s₅ => ∃ m, m < n ∧ I m s₅) (notedBy (model prog w) A env fun e s' => R (.error e) s') s₄) (fun _ s₅ => ∃ m, m < n ∧ I m s₅) (notedBy (model prog w) A env fun e s' => R (.error e) s') s₂)
          (notedBy (model prog w) A env fun e s' => R (.error e) s') s₀) (notedBy (model prog w) A env fun e s' => R (.error e) s') s₁) (notedBy (model prog w) A env fun e s' => R (.error e) s') s)
    (n : Nat) (h : I n s) : codeAny (model prog w) A (.compLoop (.ListComp elt [⟨target, iter, tl ct, 0⟩] scope pos) 0 it acc env) R s := by
  cases ct with
  | none => exact kcp_loop I turn n h
  | some c => exact kct_loop I turn n h
theorem mc_block {elt iter : PySem.Expr} {ct : Option PySem.Expr} {a b : PySem.Str} {pa pb tp : Pos} {kk : Nat} {scope : Scope} {cl : List (PySem.Str × Addr)} {pos : Pos} {s₂ : Shared} {I : Addr} {fp wr : List Addr} {n : Nat} {P Md : Nat → Value → Heap → Prop} {St : Nat → Heap → Prop} {ws : List (Addr × String)} {keep : Led} {xs : List (VF × VF)} {news : Led}
    {Fin : List Value → Led → Prop} {RR : Value → Addr → Result → Shared → Prop}
    (hh : A.handled = none) (W : KTurns prog w A (.Tuple [.Name a pa, .Name b pb] kk tp) I fp wr n P Md St) (hn : xs.length = n) (hsz : n ≤ sizeLine)
    (hxs : ∀ i v h, P i v h → ∃ p T t u, xs[i]? = some p ∧ v = .ref T ∧ h.IsTuple T #[p.1 t, p.2 u])
    (hself : ∀ h (s' : Shared) (Q : Value → Shared → Prop) (E : Value → Shared → Prop), s'.heap = h → St 0 h → Q (.ref I) s' → wpAny (model prog w) A (pyIter (.ref I)) Q E s')
    (hobj : ∀ i h, St i h → ∃ its, Objs ws its ∧ ∀ p ∈ its, h.get? p.1 = some p.2)
    (hws : ∀ b ∈ ws.map (·.1), b ∈ fp ∧ h₀.get? b = none) (hwr : ∀ b ∈ wr, b ∈ ws.map (·.1))
    (hfp : ∀ b ∈ fp, b ∈ ws.map (·.1) ∨ ∃ o, (b, o) ∈ keep) (hL : L ∉ fp) (hnw : ∀ p ∈ news, p.1 ∉ ws.map (·.1)) (hst : St 0 s₂.heap) (hfl : ∀ b ∈ fp, b < s₂.heap.objs.size)
    (F : Fr h₀ L s₂.heap m) (N : News h₀ L s₂.heap news) (hk : ∀ p ∈ keep, p ∈ news)
    (hcell : ∀ y ∈ scope.names, y.2 ≠ .cell) (hkind : scope.kind = .function) (hxa : scope.names.lookup a = some .local) (hxb : scope.names.lookup b = some .local) (hab : ¬ a = b)
    (R : MRest prog w A h₀ L m env ct elt a b scope cl s₂ (Objs ws) keep Fin xs [] news)
    (hRR : ∀ D C h tk m' ys news', Fr h₀ L h m → News h₀ L h ((D, lst ys) :: news') → (∀ p ∈ news', p.1 ≠ D) → (∀ p ∈ news, p.1 < D) → h.Ns C m' → h₀.get? C = none → h₀.get? D = none → C ≠ L → D ≠ L → C ≠ D → (∀ p ∈ news', p.1 ≠ C) → Fin ys news' → RR (.ref D) C (.ok .next) { s₂ with heap := h, toks := tk }) :
    wpAny (model prog w) A (newList []) (fun acc s₃ => wpAny (model prog w) A (newFunctionEnv scope env.globals cl [] env.qual none .none (some env)) (fun cenv s₄ =>
      codeAny (model prog w) A (.compStart (.ListComp elt [⟨.Tuple [.Name a pa, .Name b pb] kk tp, iter, tl ct, 0⟩] scope pos) 0 (.ref I) acc { cenv with scope := relabel scope env }) (RR acc cenv.locals) s₄) E s₃) E s₂ := by
  refine wpAny_newObj_type (wpAny_newFunctionEnv hcell (by intro y hy; simp at hy) (fun h₁ hns₁ hsb₁ => ?_) hkind)
  dsimp only at hns₁ hsb₁ ⊢
  generalize hH2 : s₂.heap.push { cls := .type "list", dict := none, data := .seq ([] : List Value).toArray } = H2 at hns₁ hsb₁ ⊢
  have hC : H2.objs.size = s₂.heap.objs.size + 1 := by rw [← hH2, Heap.size_push]
  have hDC : s₂.heap.objs.size ≠ H2.objs.size := by rw [hC]; exact Nat.ne_of_lt (Nat.lt_succ_self _)
  have below : ∀ b, b < s₂.heap.objs.size → b ≠ H2.objs.size ∧ b ≠ s₂.heap.objs.size := fun b hb => ⟨by rw [hC]; exact Nat.ne_of_lt (Nat.lt_succ_of_lt hb), Nat.ne_of_lt hb⟩
  have old : ∀ b o, s₂.heap.get? b = some o → h₁.get? b = some o := fun b o e => hsb₁.extBut b o (below b (Heap.lt_size e)).1 (Heap.get?_push_of_some _ (hH2 ▸ Heap.get?_push_of_some _ e))
  have hacc : h₁.get? s₂.heap.objs.size = some (lst []) := hsb₁.extBut _ _ hDC (Heap.get?_push_of_some _ (hH2 ▸ Heap.get?_push_size _ rfl))
  have hst₁ : St 0 h₁ := W.frame _ _ _ hst fun b _ o e => old b o e
  have fresh₀ : ∀ a, s₂.heap.objs.size ≤ a → h₀.get? a = none := fun a ha => by
    cases e : h₀.get? a with
    | none => rfl
    | some o' => exact absurd (Heap.lt_size (F.keep a o' e)) (Nat.not_lt.mpr ha)
  have hD₀ : h₀.get? s₂.heap.objs.size = none := fresh₀ _ (Nat.le_refl _)
  have hC₀ : h₀.get? H2.objs.size = none := fresh₀ _ (by rw [hC]; exact Nat.le_succ _)
  have hLlt : L < s₂.heap.objs.size := F.ns.lt
  have hDL : s₂.heap.objs.size ≠ L := Ne.symm (below L hLlt).2
  have hCL : H2.objs.size ≠ L := Ne.symm (below L hLlt).1
  have hCf : H2.objs.size ∉ fp := fun hm => (below _ (hfl _ hm)).1 rfl
  have hDf : s₂.heap.objs.size ∉ fp := fun hm => (below _ (hfl _ hm)).2 rfl
  have hwf : ∀ b ∈ wr, b ∈ fp := W.sub
  have hCw : H2.objs.size ∉ wr := fun hm => hCf (hwf _ hm)
  have hDw : s₂.heap.objs.size ∉ wr := fun hm => hDf (hwf _ hm)
  have hLw : L ∉ wr := fun hm => hL (hwf _ hm)
  have offW : ∀ its, Objs ws its → ∀ q ∈ its, q.1 ∈ ws.map (·.1) := fun its hi q hq => by rw [← hi.map]; exact List.mem_map_of_mem hq
  have offCD : ∀ its, Objs ws its → ∀ q ∈ its, q.1 ≠ H2.objs.size ∧ q.1 ≠ s₂.heap.objs.size := fun its hi q hq => below _ (hfl _ (hws _ (offW its hi q hq)).1)
  have loop : ∀ s₃ : Shared, s₃ = { s₂ with heap := h₁, toks := s₂.toks + ([] : List (PySem.Str × Value)).length } →
      codeAny (model prog w) A (.compLoop (.ListComp elt [⟨.Tuple [.Name a pa, .Name b pb] kk tp, iter, tl ct, 0⟩] scope pos) 0 (.ref I) (.ref s₂.heap.objs.size) (compEnvC scope cl H2.objs.size env))
        (RR (.ref s₂.heap.objs.size) H2.objs.size) s₃ := by
    rintro s₃ rfl
    refine mc_loop
      (McI h₀ L m s₂ H2.objs.size s₂.heap.objs.size n St ws keep xs (MRest prog w A h₀ L m env ct elt a b scope cl s₂ (Objs ws) keep Fin)) ?_ (n + 1)
      (fun _ kk => kk h₁ _ 0 [] _ news rfl (Nat.zero_le _) rfl (Nat.le_refl _) hst₁ (F.keeps old) hns₁ (fun p hp => ?_) (fun p hp => below _ (Heap.lt_size (N p hp).1)) hnw hk (by rw [List.drop_zero]; exact R))
    · intro k s' hI
      refine hI _ ?_
      clear hI
      rintro h' tk i ys m' news' rfl hi rfl hyl hst' F' hn' N' offN offI hk' R'
      by_cases hlt : i < n
      · refine W.item i _ _ _ hlt hst' fun v h₂ tk₂ hMd hk₂ => ?_
        refine W.go i v _ _ _ hMd fun h₃ hP hst₃ hk₃ => ?_
        obtain ⟨p, T, t, u, hp, rfl, hT⟩ := hxs i v h₃ hP
        have up₃ : ∀ c o, c ∉ wr → h'.get? c = some o → h₃.get? c = some o := fun c o hc e => hk₃ c o hc (hk₂ c o hc e)
        refine kcp_assign (env := compEnvC scope cl H2.objs.size env) hh hT (lookup_relabel_local hxa) (lookup_relabel_local hxb) (by simp [compEnvC, relabel, hkind]) (hn'.at' fun o e => up₃ _ o hCw e) fun h₄ tk₄ hn₄ hs₄ => ?_
        have up : ∀ c o, c ∉ wr → c ≠ H2.objs.size → h'.get? c = some o → h₄.get? c = some o := fun c o h1 h2 e => hs₄ c o h2 (up₃ c o h1 e)
        have hst₄ : St (i + 1) h₄ := W.frame _ _ _ hst₃ fun b hb o e => hs₄ b o (fun q => hCf (by have q' : b = H2.objs.size := q; rw [← q']; exact hb)) e
        obtain ⟨its, hits, hget⟩ := hobj _ _ hst₄
        obtain ⟨oC, heC, hoC⟩ := ns_obj hn₄
        have none_wr : ∀ c ∈ wr, h₀.get? c = none := fun c hc => (hws c (hwr c hc)).2
        have F₄ : Fr h₀ L h₄ m := ⟨F'.ns.at' fun o e => up _ o hLw (Ne.symm hCL) e, fun c o e => up c o (fun q => by rw [none_wr c q] at e; cases e) (fun q => by rw [q, hC₀] at e; cases e) (F'.keep c o e), F'.above⟩
        have hdrop : xs.drop i = p :: xs.drop (i + 1) := by
          have hlt' : i < xs.length := by rw [hn]; exact hlt
          rw [List.drop_eq_getElem_cons hlt']
          congr 1
          exact Option.some.inj ((List.getElem?_eq_getElem hlt').symm.trans hp)
        have R'' : MRest prog w A h₀ L m env ct elt a b scope cl s₂ (Objs ws) keep Fin (p :: xs.drop (i + 1)) ys news' := by rw [← hdrop]; exact R'
        have N₄ : News h₀ L h₄ ((H2.objs.size, oC) :: (s₂.heap.objs.size, lst ys) :: (news' ++ its)) := fun q hq => by
          rcases List.mem_cons.mp hq with rfl | hq
          · exact ⟨heC, hCL, hC₀⟩
          · rcases List.mem_cons.mp hq with rfl | hq
            · have z := N' _ List.mem_cons_self
              exact ⟨up _ _ hDw hDC z.1, z.2⟩
            · rcases List.mem_append.mp hq with hq | hq
              · have z := N' q (List.mem_cons_of_mem _ hq)
                exact ⟨up _ _ (fun q' => offI q hq (hwr _ q')) (offN q hq).1 z.1, z.2⟩
              · refine ⟨hget q hq, fun q' => hL ?_, (hws _ (offW its hits q hq)).2⟩
                rw [← q']; exact (hws _ (offW its hits q hq)).1
        have oIN : ∀ q ∈ news', ∀ z ∈ its, q.1 ≠ z.1 := fun q hq z hz e => offI q hq (e ▸ offW its hits z hz)
        have fin : ∀ (ys' : List Value), (ys' = ys ∨ ys'.length = ys.length + 1) → ∀ h₅ tk₅ news₅, Fr h₀ L h₅ m → News h₀ L h₅ ((H2.objs.size, oC) :: (s₂.heap.objs.size, lst ys') :: (news₅ ++ its)) → (∀ p ∈ news₅, p.1 ≠ H2.objs.size ∧ p.1 ≠ s₂.heap.objs.size) → (∀ p ∈ news₅, ∀ q ∈ its, p.1 ≠ q.1) → (∀ p ∈ keep, p ∈ news₅) → MRest prog w A h₀ L m env ct elt a b scope cl s₂ (Objs ws) keep Fin (xs.drop (i + 1)) ys' news₅ →
            ∃ k', k' < n + 1 - i ∧ McI h₀ L m s₂ H2.objs.size s₂.heap.objs.size n St ws keep xs (MRest prog w A h₀ L m env ct elt a b scope cl s₂ (Objs ws) keep Fin) k' { s₂ with heap := h₅, toks := tk₅ } := by
          intro ys' hys h₅ tk₅ news₅ F₅ N₅ off₅ offI₅ hk₅ R₅
          have hst₅ : St (i + 1) h₅ := W.frame _ _ _ hst₄ fun c hc o e => by
            rcases hfp c hc with hc | ⟨o', hc⟩
            · have hc' : c ∈ its.map (·.1) := by rw [hits.map]; exact hc
              obtain ⟨q, hq, hqe⟩ := List.mem_map.mp hc'
              have hqe' : q.1 = c := hqe
              subst hqe'
              have e' := hget q hq
              rw [e] at e'
              cases e'
              exact (N₅ q (by simp [hq])).1
            · have e' := (N₄ (c, o') (by simp [hk' _ hc])).1
              have e'' : h₄.get? c = some o' := e'
              rw [e] at e''
              cases e''
              exact (N₅ (c, o) (by simp [hk₅ _ hc])).1
          refine ⟨n + 1 - (i + 1), by omega, fun _ kk => kk h₅ tk₅ (i + 1) ys' _ news₅ rfl hlt rfl ?_ hst₅ F₅ (hoC.ns (N₅ _ List.mem_cons_self).1) (fun q hq => ?_) off₅ (fun q hq hq' => ?_) hk₅ R₅⟩
          · rcases hys with rfl | hys
            · exact Nat.le_succ_of_le hyl
            · rw [hys]; exact Nat.succ_le_succ hyl
          · rcases List.mem_cons.mp hq with rfl | hq
            · exact N₅ _ (List.mem_cons_of_mem _ List.mem_cons_self)
            · exact N₅ _ (by simp [hq])
          · have hc' : q.1 ∈ its.map (·.1) := by rw [hits.map]; exact hq'
            obtain ⟨z, hz, hze⟩ := List.mem_map.mp hc'
            exact offI₅ q hq z hz hze.symm
        refine MBody_mono (R'' t u its H2.objs.size oC s₂.heap.objs.size _ h₄ _ _ hits hoC (by simp [hab]) (by simp) F₄ N₄ offN oIN (offCD its hits) (Ne.symm hDC)) (fun y s₅ h₅ => ?_) (fun s₅ h₅ => ?_)
        · refine h₅ _ ?_
          clear h₅
          rintro h₅ tk₅ news₅ rfl F₅ N₅ off₅ offI₅ hk₅ R₅
          have zD := (N₅ (s₂.heap.objs.size, lst ys) (List.mem_cons_of_mem _ List.mem_cons_self)).1
          refine append_at (hsz := by show ys.toArray.size ≤ sizeLine; rw [List.size_toArray]; exact Nat.le_trans hyl (Nat.le_trans hi hsz)) zD fun h₆ hs₆ hD₆ => ?_
          refine fin (ys ++ [y]) (.inr (by simp)) h₆ tk₅ news₅ (F₅.change hs₆ hDL hD₀) (fun q hq => ?_) off₅ offI₅ hk₅ R₅
          rcases List.mem_cons.mp hq with rfl | hq
          · have z := N₅ _ List.mem_cons_self
            exact ⟨hs₆.extBut _ _ (Ne.symm hDC) z.1, z.2⟩
          · rcases List.mem_cons.mp hq with rfl | hq
            · exact ⟨hD₆.trans (congrArg some (lst_snoc ys y)), hDL, hD₀⟩
            · have z := N₅ q (List.mem_cons_of_mem _ (List.mem_cons_of_mem _ hq))
              refine ⟨hs₆.extBut _ _ ?_ z.1, z.2⟩
              rcases List.mem_append.mp hq with hq | hq
              · exact (off₅ q hq).2
              · exact (offCD its hits q hq).2
        · refine h₅ _ ?_
          clear h₅
          rintro h₅ tk₅ news₅ rfl F₅ N₅ off₅ offI₅ hk₅ R₅
          exact fin ys (.inl rfl) h₅ tk₅ news₅ F₅ N₅ off₅ offI₅ hk₅ R₅
      · have hin : i = n := Nat.le_antisymm hi (Nat.not_lt.mp hlt)
        subst hin
        have hnil : xs.drop i = [] := List.drop_eq_nil_of_le (Nat.le_of_eq hn)
        rw [hnil] at R'
        refine W.done _ _ _ hst' fun h₂ tk₂ hk₂ => ?_
        have none_wr : ∀ c ∈ wr, h₀.get? c = none := fun c hc => (hws c (hwr c hc)).2
        refine hRR _ _ h₂ tk₂ _ ys news' ⟨F'.ns.at' fun o e => hk₂ _ o hLw e, fun c o e => hk₂ c o (fun q => by rw [none_wr c q] at e; cases e) (F'.keep c o e), F'.above⟩ (fun q hq => ?_) (fun q hq => (offN q hq).2) (fun q hq => Heap.lt_size (N q hq).1) (hn'.at' fun o e => hk₂ _ o hCw e) hC₀ hD₀ hCL hDL (Ne.symm hDC) (fun q hq => (offN q hq).1) R'
        have z := N' q hq
        refine ⟨hk₂ _ _ (fun q' => ?_) z.1, z.2⟩
        rcases List.mem_cons.mp hq with rfl | hq
        · exact hDw q'
        · exact offI q hq (hwr _ q')
    · rcases List.mem_cons.mp hp with rfl | hp
      · exact ⟨hacc, hDL, hD₀⟩
      · exact ⟨old _ _ (N p hp).1, (N p hp).2⟩
  exact codeAny_compStart_list (loop _ rfl) (hself h₁ _ _ _ rfl hst₁ (loop _ rfl))

noncomputable def McAt (prog : PySem.Program) (w : World) (A : Around) (h₀ : Heap) (L : Addr) (m : PySem.Str → Option Value) (env : Env) (ct : Option PySem.Expr) (elt : PySem.Expr) (a b : PySem.Str) (pa pb tp : Pos) (kk : Nat) (scope : Scope) (cl : List (PySem.Str × Addr)) (Fin : Shared → Led → List Value → Led → Prop) (it : Value) (s₂ : Shared) : Prop :=
  ∀ (iter : PySem.Expr) (pos : Pos) (E : Value → Shared → Prop) (RR : Value → Addr → Result → Shared → Prop), (∀ y ∈ scope.names, y.2 ≠ .cell) → scope.kind = .function → scope.names.lookup a = some .local → scope.names.lookup b = some .local → (¬ a = b) →
    (∀ news D C h tk m' ys news', Fr h₀ L h m → News h₀ L h ((D, lst ys) :: news') → (∀ p ∈ news', p.1 ≠ D) → (∀ p ∈ news, p.1 < D) → h.Ns C m' → h₀.get? C = none → h₀.get? D = none → C ≠ L → D ≠ L → C ≠ D → (∀ p ∈ news', p.1 ≠ C) → Fin s₂ news ys news' → RR (.ref D) C (.ok .next) { s₂ with heap := h, toks := tk }) →
    wpAny (model prog w) A (newList []) (fun acc s₃ => wpAny (model prog w) A (newFunctionEnv scope env.globals cl [] env.qual none .none (some env)) (fun cenv s₄ =>
      codeAny (model prog w) A (.compStart (.ListComp elt [⟨.Tuple [.Name a pa, .Name b pb] kk tp, iter, tl ct, 0⟩] scope pos) 0 it acc { cenv with scope := relabel scope env }) (RR acc cenv.locals) s₄) E s₃) E s₂
noncomputable def MFinE (h₀ : Heap) (L : Addr) (m : PySem.Str → Option Value) (Q : Value → Shared → Prop) (s : Shared) (news₀ : Led) (ys : List Value) (news : Led) : Prop :=
  ∀ D h tk, Fr h₀ L h m → News h₀ L h ((D, lst ys) :: news) → (∀ p ∈ news, p.1 ≠ D) → (∀ p ∈ news₀, p.1 < D) → Q (.ref D) { s with heap := h, toks := tk }
noncomputable def MFinA (h₀ : Heap) (L : Addr) (m : PySem.Str → Option Value) (y : PySem.Str) (Q : Flow → Shared → Prop) (s : Shared) (news₀ : Led) (ys : List Value) (news : Led) : Prop :=
  ∀ D h tk, Fr h₀ L h (fun z => if z = y then some (.ref D) else m z) → News h₀ L h ((D, lst ys) :: news) → (∀ p ∈ news, p.1 ≠ D) → (∀ p ∈ news₀, p.1 < D) → Q .next { s with heap := h, toks := tk }
theorem mc_List {elt iter : PySem.Expr} {ct : Option PySem.Expr} {a b : PySem.Str} {pa pb tp : Pos} {kk : Nat} {scope : Scope} {cl : List (PySem.Str × Addr)} {pos : Pos} {Q : Value → Shared → Prop} (_F₀ : Fr h₀ L s.heap m)
    (hclos : closureFor scope env = pure cl) (hcell : ∀ y ∈ scope.names, y.2 ≠ .cell) (hkind : scope.kind = .function)
    (hnames : ∀ y ∈ scope.names, y.2 = .local → scope.names.lookup y.1 = some .local) (hxa : scope.names.lookup a = some .local) (hxb : scope.names.lookup b = some .local) (hab : ¬ a = b)
    (h : wpAny (model prog w) A (eval iter env) (fun xv s₁ => wpAny (model prog w) A (pyIter xv) (fun it s₂ => McAt prog w A h₀ L m env ct elt a b pa pb tp kk scope cl (MFinE h₀ L m Q) it s₂) E s₁) E s)
    (hs : ∀ x, foldedSetIterable iter env x = pure x := by intro _; rfl) :
    wpAny (model prog w) A (eval (.ListComp elt [⟨.Tuple [.Name a pa, .Name b pb] kk tp, iter, tl ct, 0⟩] scope pos) env) Q E s := by
  rw [eval_ListComp]
  refine wpAny_comprehension_free (use := none) rfl hs hclos hkind hnames (wpAny_mono h (fun xv s₁ h₁ => wpAny_mono h₁ (fun it s₂ h₂ => ?_) fun _ _ e => e) fun _ _ e => e)
  refine h₂ _ _ _ _ hcell hkind hxa hxb hab ?_
  intro _ D C h tk m' ys news' F' N' o1 o2 hn hC₀ hD₀ hCL hDL hCD offC fin
  refine ⟨m', hn, fun h'' hs'' => fin D h'' tk (F'.change hs'' hCL hC₀) (fun p hp => ?_) o1 o2⟩
  refine ⟨hs''.extBut _ _ ?_ (N' p hp).1, (N' p hp).2⟩
  rcases List.mem_cons.mp hp with rfl | hp
  · exact Ne.symm hCD
  · exact offC p hp
theorem mc_Assign {elt iter : PySem.Expr} {ct : Option PySem.Expr} {a b y : PySem.Str} {pa pb tp py : Pos} {kk : Nat} {scope : Scope} {cl : List (PySem.Str × Addr)} {pos spos : Pos} {Q : Flow → Shared → Prop} (_F₀ : Fr h₀ L s.heap m) (hLe : env.locals = L)
    (hsw : swapsWith (.ListComp elt [⟨.Tuple [.Name a pa, .Name b pb] kk tp, iter, tl ct, 0⟩] scope pos) (some (.Name y py)) spos.line env = pure true)
    (hclos : closureFor scope env = pure cl) (hcell : ∀ z ∈ scope.names, z.2 ≠ .cell) (hkind : scope.kind = .function)
    (hnames : ∀ z ∈ scope.names, z.2 = .local → scope.names.lookup z.1 = some .local) (hxa : scope.names.lookup a = some .local) (hxb : scope.names.lookup b = some .local) (hab : ¬ a = b)
    (hy : env.kindOf y = some .local) (hp : (env.scope.kind == .class || (env.scope.kind == .module && env.locals != env.globals)) = false)
    (h : wpAny (model prog w) A (eval iter env) (fun xv s₁ => wpAny (model prog w) A (pyIter xv) (fun it s₂ => McAt prog w A h₀ L m env ct elt a b pa pb tp kk scope cl (MFinA h₀ L m y Q) it s₂) E s₁) E s)
    (hs : ∀ x, foldedSetIterable iter env x = pure x := by intro _; rfl) :
    wpAny (model prog w) A (exec (.Assign [.Name y py] (.ListComp elt [⟨.Tuple [.Name a pa, .Name b pb] kk tp, iter, tl ct, 0⟩] scope pos) spos) env) Q E s := by
  subst hLe
  rw [exec_Assign_Name_used _ _ _ _ hsw]
  refine wpAny_bind (wpAny_standAt (wpAny_bind ?_))
  show wpAny _ A (do let _ ← comprehension (.ListComp elt [⟨.Tuple [.Name a pa, .Name b pb] kk tp, iter, tl ct, 0⟩] scope pos) scope env _ (newList []) false (eval iter env) (some (assign (.Name y py) env))) _ _ s
  refine wpAny_bind (wpAny_mono (wpAny_comprehension_free (use := some (assign (.Name y py) env)) (Q := fun _ s' => Q .next s') rfl hs hclos hkind hnames
    (wpAny_mono h (fun xv s₁ h₁ => wpAny_mono h₁ (fun it s₂ h₂ => ?_) fun _ _ e => e) fun _ _ e => e)) (fun _ s' hq => wpAny_pure (wpAny_pure hq)) fun _ _ e => e)
  refine h₂ _ _ _ _ hcell hkind hxa hxb hab ?_
  intro _ D C h' tk m' ys news' F' N' o1 o2 hn hC₀ hD₀ hCL hDL hCD offC fin
  show wpAny _ A (assign (.Name y py) env (.ref D)) _ _ _
  refine wpAny_assign_Name (wpAny_storeName_local hy F'.ns (fun h₂ hn₂ hs₂ => ?_) hp)
  have hL₀ : h₀.get? env.locals = none := Heap.get?_none_of_le F'.above
  have F₂ : Fr h₀ env.locals h₂ (fun z => if z = y then some (.ref D) else m z) := ⟨hn₂, fun b o e => hs₂.extBut b o (fun q => by rw [q, hL₀] at e; cases e) (F'.keep b o e), F'.above⟩
  refine ⟨m', hn.sameBut hs₂ hCL, fun h'' hs'' => fin D h'' _ (F₂.change hs'' hCL hC₀) (fun p hp => ?_) o1 o2⟩
  have z : h₂.get? p.1 = some p.2 := hs₂.extBut _ _ (N' p hp).2.1 (N' p hp).1
  refine ⟨hs''.extBut _ _ ?_ z, (N' p hp).2⟩
  rcases List.mem_cons.mp hp with rfl | hp
  · exact Ne.symm hCD
  · exact offC p hp
end
/-- one side of a zip -/
structure Arm (v : Value) (xs : List VF) (kp : Led) (o : Obj) (c : String) : Prop where
  nf : o.isFreed = false
  pi : ∀ h : Heap, (∀ p ∈ kp, h.get? p.1 = some p.2) → PI v o h
  dr : ∀ (prog : PySem.Program) (w : World) (A : Around) (it : Addr), A.handled = none → it ∉ kp.map (·.1) → ∃ P St, Draws prog w A it (it :: kp.map (·.1)) xs.length P St ∧ (∀ i x, P i x → ∃ f t, xs[i]? = some f ∧ x = f t) ∧
    (∀ h : Heap, h.get? it = some o → (∀ p ∈ kp, h.get? p.1 = some p.2) → St 0 h) ∧ (∀ i h, St i h → ∃ o', h.get? it = some o' ∧ o'.cls = .type c)
noncomputable abbrev fixed (vs : List Value) : List VF := vs.map fun v _ => v
theorem Arm.list {a : Addr} {vs : List Value} {n : Nat} : Arm (.ref a) (fixed vs) [(a, W.listOf vs.toArray n)] (itL a) "list_iterator" where
  nf := rfl
  pi := fun h hk => PI.list (items := vs.toArray) ⟨_, hk _ (.head _), rfl, n, rfl⟩
  dr := fun prog w A it hh hne => by
    refine ⟨fun i v => vs.toArray[i]? = some v, fun i h => h.IsListIter it a i ∧ h.IsList a vs.toArray, ?_, fun i x hx => ⟨fun _ => x, 0, ?_, rfl⟩, fun h ho hk => ⟨⟨_, ho, rfl, rfl⟩, ⟨_, hk _ (.head _), rfl, n, rfl⟩⟩, fun i h st => ?_⟩
    · have D := Draws.list (prog := prog) (w := w) hh it a (fun e => hne (by simp [e])) vs.toArray
      simpa using D
    · simp only [List.getElem?_toArray] at hx
      simp [hx]
    · obtain ⟨⟨o, e, c, _⟩, _⟩ := st
      exact ⟨o, e, c⟩
theorem Arm.tuple {a : Addr} {vs : List Value} {n : Nat} : Arm (.ref a) (fixed vs) [(a, ({ cls := .type "tuple", data := .seq vs.toArray n } : Obj))] (itT a) "tuple_iterator" where
  nf := rfl
  pi := fun h hk => PI.tuple (items := vs.toArray) ⟨_, hk _ (.head _), rfl, n, rfl⟩
  dr := fun prog w A it hh hne => by
    refine ⟨fun i v => vs.toArray[i]? = some v, fun i h => h.IsTupleIter it a i ∧ h.IsTuple a vs.toArray, ?_, fun i x hx => ⟨fun _ => x, 0, ?_, rfl⟩, fun h ho hk => ⟨⟨_, ho, rfl, rfl⟩, ⟨_, hk _ (.head _), rfl, n, rfl⟩⟩, fun i h st => ?_⟩
    · have D := drawsTuple (prog := prog) (w := w) hh it a (fun e => hne (by simp [e])) vs.toArray
      simpa using D
    · simp only [List.getElem?_toArray] at hx
      simp [hx]
    · obtain ⟨⟨o, e, c, _⟩, _⟩ := st
      exact ⟨o, e, c⟩
noncomputable abbrev signs (x : PySem.Str) : List VF := x.cps.toList.map fun c u => .str ⟨#[c]⟩ u
theorem Arm.str {x : PySem.Str} {t : Tok} : Arm (.str x t) (signs x) [] { cls := .type (strIterType x), data := .fields #[.str x t, .int 0 0] } (strIterType x) where
  nf := rfl
  pi := fun h hk => PI.str
  dr := fun prog w A it hh hne => by
    have key : ∀ (i : Nat) (v : Value), (∃ (c : Nat) (u : Tok), x.cps[i]? = some c ∧ v = .str ⟨#[c]⟩ u) → ∃ (f : VF) (t : Tok), (signs x)[i]? = some f ∧ v = f t := by
      rintro i v ⟨c, u, hc, rfl⟩
      refine ⟨fun u => .str ⟨#[c]⟩ u, u, ?_, rfl⟩
      simp [signs, hc]
    have hl : x.cps.size = (signs x).length := by simp [signs]
    cases ha : x.cps.all (· < 128)
    · have e : strIterType x = "str_iterator" := by unfold strIterType; simp [ha]
      rw [e, ← hl]
      exact ⟨_, _, Draws.strWide (prog := prog) (w := w) hh it x t, key, fun h ho _ => ⟨_, ho, rfl, rfl⟩, fun i h st => by obtain ⟨o, e, c, _⟩ := st; exact ⟨o, e, c⟩⟩
    · have e : strIterType x = "str_ascii_iterator" := by unfold strIterType; simp [ha]
      rw [e, ← hl]
      exact ⟨_, _, Draws.strAscii (prog := prog) (w := w) hh it x t, key, fun h ho _ => ⟨_, ho, rfl, rfl⟩, fun i h st => by obtain ⟨o, e, c, _⟩ := st; exact ⟨o, e, c⟩⟩
section
variable {prog : PySem.Program} {w : World} {A : Around} {E : Value → Shared → Prop} {s : Shared} {h₀ : Heap} {L : Addr} {m : PySem.Str → Option Value} {env : Env}
theorem mc_zip {ct : Option PySem.Expr} {elt : PySem.Expr} {a b : PySem.Str} {pa pb tp : Pos} {kk : Nat} {scope : Scope} {cl : List (PySem.Str × Addr)} {Fin : Shared → Led → List Value → Led → Prop} {news : Led} {v1 v2 : Value} {xs1 xs2 : List VF} {xs : List (VF × VF)} {k1 k2 : Led} {o1 o2 : Obj} {c1 c2 : String}
    (hh : A.handled = none) (F : Fr h₀ L s.heap m) (N : News h₀ L s.heap news) (A1 : Arm v1 xs1 k1 o1 c1) (A2 : Arm v2 xs2 k2 o2 c2) (hk1 : ∀ p ∈ k1, p ∈ news) (hk2 : ∀ p ∈ k2, p ∈ news) (hx : xs1.zip xs2 = xs) (hsz : xs.length ≤ 1000)
    (R : ∀ (g : Heap) (i0 : Led → Prop), MRest prog w A h₀ L m env ct elt a b scope cl { s with heap := g } i0 (k1 ++ k2) (Fin { s with heap := g } news) xs [] news) :
    wpAny (model prog w) A (call (.type "zip") [v1, v2]) (fun xv s₁ => wpAny (model prog w) A (pyIter xv) (fun it s₂ => McAt prog w A h₀ L m env ct elt a b pa pb tp kk scope cl Fin it s₂) E s₁) E s := by
  subst hx
  have lt1 : ∀ p ∈ k1, @LT.lt Nat _ p.1 s.heap.objs.size := fun p hp => Heap.lt_size (N p (hk1 p hp)).1
  have lt2 : ∀ p ∈ k2, @LT.lt Nat _ p.1 s.heap.objs.size := fun p hp => Heap.lt_size (N p (hk2 p hp)).1
  have ne1 : ∀ j, s.heap.objs.size + j ∉ k1.map (·.1) := fun j hm => by obtain ⟨p, hp, e⟩ := List.mem_map.mp hm; have := lt1 p hp; exact Nat.ne_of_lt (Nat.lt_of_lt_of_le this (Nat.le_add_right _ j)) e
  have ne2 : ∀ j, s.heap.objs.size + j ∉ k2.map (·.1) := fun j hm => by obtain ⟨p, hp, e⟩ := List.mem_map.mp hm; have := lt2 p hp; exact Nat.ne_of_lt (Nat.lt_of_lt_of_le this (Nat.le_add_right _ j)) e
  have hLs : L < s.heap.objs.size := F.ns.lt
  refine call_zipQ (A1.pi _ fun p hp => (N p (hk1 p hp)).1) (A2.pi _ fun p hp => Heap.get?_push_of_some _ (N p (hk2 p hp)).1) A1.nf A2.nf fun h' hz hTI hTO g1 g2 _ hk => ?_
  obtain ⟨P1, S1, D1, q1, st1, ob1⟩ := A1.dr prog w A.in1 s.heap.objs.size hh (ne1 0)
  obtain ⟨P2, S2, D2, q2, st2, ob2⟩ := A2.dr prog w A.in1 (s.heap.objs.size + 1) hh (ne2 1)
  have hne : ∀ (i j : Nat), i ≠ j → (s.heap.objs.size + i : Nat) ≠ s.heap.objs.size + j := fun i j h e => h (Nat.add_left_cancel e)
  have hne0 : ∀ j : Nat, 0 ≠ j → (s.heap.objs.size : Nat) ≠ s.heap.objs.size + j := fun j h e => h (by omega)
  have f1 : ∀ j : Nat, 0 ≠ j → s.heap.objs.size + j ∉ s.heap.objs.size :: k1.map (·.1) := fun j h hm => by
    rcases List.mem_cons.mp hm with e | e
    · exact hne0 j h e.symm
    · exact ne1 j e
  have f2 : ∀ j : Nat, 1 ≠ j → s.heap.objs.size + j ∉ (s.heap.objs.size + 1) :: k2.map (·.1) := fun j h hm => by
    rcases List.mem_cons.mp hm with e | e
    · exact hne 1 j h e.symm
    · exact ne2 j e
  have D : ZA (s.heap.objs.size + 4) (s.heap.objs.size + 2) (s.heap.objs.size + 3) s.heap.objs.size (s.heap.objs.size + 1) (s.heap.objs.size :: k1.map (·.1)) ((s.heap.objs.size + 1) :: k2.map (·.1)) :=
    ⟨hne 2 4 (by decide), hne 3 4 (by decide), hne0 4 (by decide), hne 1 4 (by decide), hne 2 3 (by decide), (hne0 2 (by decide)).symm, hne 2 1 (by decide), (hne0 3 (by decide)).symm, hne 3 1 (by decide), hne0 1 (by decide), f1 4 (by decide), f2 4 (by decide), f1 3 (by decide), f2 3 (by decide), f1 1 (by decide), f2 0 (by decide)⟩
  refine wpAny_pyIter_zip hz (fun iter pos E RR hcell hkind hxa hxb hab hRR => ?_)
  refine mc_block (ws := [(s.heap.objs.size + 4, "zip"), (s.heap.objs.size + 2, "tuple"), (s.heap.objs.size + 3, "tuple"), (s.heap.objs.size, c1), (s.heap.objs.size + 1, c2)]) (keep := k1 ++ k2) (xs := xs1.zip xs2) (news := news) hh
    (KTurns.ofWalksU (zipW D D1 D2 List.mem_cons_self List.mem_cons_self).toU) List.length_zip ?_ ?_ ?_ ?_ ?_ ?_ ?_ ?_ ?_ ?_ ?_ (F.keeps hk) (N.grown hk) ?_ hcell hkind hxa hxb hab (R h' _) (hRR news)
  · rw [List.length_zip] at hsz
    rw [sizeLine_eq]; omega
  · rintro i v h ⟨T, vals, rfl, ⟨x, y, hx, hy, rfl⟩, hT⟩
    obtain ⟨f, t, hf, rfl⟩ := q1 i x hx
    obtain ⟨g, u, hg, rfl⟩ := q2 i y hy
    exact ⟨(f, g), T, t, u, List.getElem?_zip_eq_some.mpr ⟨hf, hg⟩, rfl, hT⟩
  · rintro h s' Q E rfl ⟨hz', _⟩ hQ
    exact wpAny_pyIter_zip hz' hQ
  · rintro i h ⟨hz', hTI', ⟨x, y, hTO'⟩, s1, s2⟩
    obtain ⟨oa, ha, ca⟩ := ob1 i h s1
    obtain ⟨ob, hb, cb⟩ := ob2 i h s2
    have e1 : ∃ o : Obj, h.get? (s.heap.objs.size + 4) = some o ∧ o.cls = .type "zip" := ⟨_, hz', rfl⟩
    have e2 : ∃ o : Obj, h.get? (s.heap.objs.size + 2) = some o ∧ o.cls = .type "tuple" := ⟨_, hTI', rfl⟩
    have e3 : ∃ o : Obj, h.get? (s.heap.objs.size + 3) = some o ∧ o.cls = .type "tuple" := ⟨_, hTO', rfl⟩
    obtain ⟨r1, g1, k1⟩ := e1
    obtain ⟨r2, g2, k2⟩ := e2
    obtain ⟨r3, g3, k3⟩ := e3
    exact ⟨[(s.heap.objs.size + 4, r1), (s.heap.objs.size + 2, r2), (s.heap.objs.size + 3, r3), (s.heap.objs.size, oa), (s.heap.objs.size + 1, ob)], ⟨⟨rfl, k1⟩, ⟨rfl, k2⟩, ⟨rfl, k3⟩, ⟨rfl, ca⟩, ⟨rfl, cb⟩, trivial⟩,
      List.forall_mem_cons.mpr ⟨g1, List.forall_mem_cons.mpr ⟨g2, List.forall_mem_cons.mpr ⟨g3, List.forall_mem_cons.mpr ⟨ha, List.forall_mem_cons.mpr ⟨hb, List.forall_mem_nil _⟩⟩⟩⟩⟩⟩
  · intro c hc
    simp only [List.map_cons, List.map_nil, List.mem_cons, List.mem_nil_iff, or_false] at hc
    rcases hc with rfl | rfl | rfl | rfl | rfl
    · exact ⟨by simp, ktu_new F (Nat.le_add_right _ _)⟩
    · exact ⟨by simp, ktu_new F (Nat.le_add_right _ _)⟩
    · exact ⟨by simp, ktu_new F (Nat.le_add_right _ _)⟩
    · exact ⟨by simp, ktu_new F (Nat.le_refl _)⟩
    · exact ⟨by simp, ktu_new F (Nat.le_add_right _ _)⟩
  · intro c hc
    simp only [List.mem_cons, List.mem_nil_iff, or_false] at hc
    rcases hc with rfl | rfl | rfl | rfl <;> simp
  · intro c hc
    simp only [List.mem_cons, List.mem_append, List.mem_map] at hc
    rcases hc with rfl | rfl | rfl | (rfl | ⟨p, hp, rfl⟩) | (rfl | ⟨p, hp, rfl⟩)
    · exact .inl (by simp)
    · exact .inl (by simp)
    · exact .inl (by simp)
    · exact .inl (by simp)
    · exact .inr ⟨p.2, by simp [hp]⟩
    · exact .inl (by simp)
    · exact .inr ⟨p.2, by simp [hp]⟩
  · intro hc
    simp only [List.mem_cons, List.mem_append, List.mem_map] at hc
    rcases hc with e | e | e | (e | ⟨p, hp, e⟩) | (e | ⟨p, hp, e⟩)
    · exact ktu_ne 4 hLs e
    · exact ktu_ne 2 hLs e
    · exact ktu_ne 3 hLs e
    · exact Nat.ne_of_lt hLs e
    · exact (N p (hk1 p hp)).2.1 e
    · exact ktu_ne 1 hLs e
    · exact (N p (hk2 p hp)).2.1 e
  · intro p hp hc
    have hlp := Heap.lt_size (N p hp).1
    simp only [List.map_cons, List.map_nil, List.mem_cons, List.mem_nil_iff, or_false] at hc
    rcases hc with e | e | e | e | e
    · exact ktu_ne 4 hlp e
    · exact ktu_ne 2 hlp e
    · exact ktu_ne 3 hlp e
    · exact Nat.ne_of_lt hlp e
    · exact ktu_ne 1 hlp e
  · exact ⟨hz, hTI, ⟨_, _, hTO⟩, st1 _ g1 fun p hp => hk _ _ (N p (hk1 p hp)).1, st2 _ g2 fun p hp => hk _ _ (N p (hk2 p hp)).1⟩
  · intro c hc
    have hsz' : @LT.lt Nat _ (s.heap.objs.size + 4) h'.objs.size := Heap.lt_size hz
    simp only [List.mem_cons, List.mem_append, List.mem_map] at hc
    rcases hc with rfl | rfl | rfl | (rfl | ⟨p, hp, rfl⟩) | (rfl | ⟨p, hp, rfl⟩)
    · exact hsz'
    · show @LT.lt Nat _ (s.heap.objs.size + 2) h'.objs.size; omega
    · show @LT.lt Nat _ (s.heap.objs.size + 3) h'.objs.size; omega
    · show @LT.lt Nat _ s.heap.objs.size h'.objs.size; omega
    · have := lt1 p hp; show @LT.lt Nat _ p.1 h'.objs.size; omega
    · show @LT.lt Nat _ (s.heap.objs.size + 1) h'.objs.size; omega
    · have := lt2 p hp; show @LT.lt Nat _ p.1 h'.objs.size; omega
  · intro p hp
    rcases List.mem_append.mp hp with hp | hp
    · exact hk1 p hp
    · exact hk2 p hp
/-- pairs that lie in a list -/
theorem mc_pairs {ct : Option PySem.Expr} {elt : PySem.Expr} {a b : PySem.Str} {pa pb tp : Pos} {kk : Nat} {scope : Scope} {cl : List (PySem.Str × Addr)} {Fin : Shared → Led → List Value → Led → Prop} {news : Led} {ax : Addr} {ts : List (Addr × Value × Value)} {k : Nat}
    (hh : A.handled = none) (F : Fr h₀ L s.heap m) (N : News h₀ L s.heap news) (hm : (ax, W.listOf (ts.map fun e => Value.ref e.1).toArray k) ∈ news) (ht : ∀ e ∈ ts, (e.1, tup [e.2.1, e.2.2]) ∈ news) (hsz : ts.length ≤ 1000)
    (R : ∀ (g : Heap) (i0 : Led → Prop), MRest prog w A h₀ L m env ct elt a b scope cl { s with heap := g } i0 ((ax, W.listOf (ts.map fun e => Value.ref e.1).toArray k) :: ts.map fun e => (e.1, tup [e.2.1, e.2.2])) (Fin { s with heap := g } news) (ts.map fun e => (fun _ => e.2.1, fun _ => e.2.2)) [] news) :
    wpAny (model prog w) A (pyIter (.ref ax)) (fun it s₂ => McAt prog w A h₀ L m env ct elt a b pa pb tp kk scope cl Fin it s₂) E s := by
  have hax := N _ hm
  have hlt : ax < s.heap.objs.size := Heap.lt_size hax.1
  have hl : s.heap.IsList ax (ts.map fun e => Value.ref e.1).toArray := ⟨_, hax.1, rfl, k, rfl⟩
  have hLs : L < s.heap.objs.size := F.ns.lt
  refine wpAny_pyIter_list hl ?_
  have up : ∀ c o, s.heap.get? c = some o → (s.heap.push { cls := .type "list_iterator", data := .fields #[.ref ax, .int 0 0] }).get? c = some o := fun c o e => Heap.get?_push_of_some _ e
  have hts : ∀ e ∈ ts, e.1 < s.heap.objs.size := fun e he => Heap.lt_size (N _ (ht e he)).1
  let Ts : Nat → Addr := fun j => (ts.map (·.1)).getD j 0
  let vals : Nat → Array Value := fun j => match ts[j]? with | some e => #[e.2.1, e.2.2] | none => #[]
  have hsize : (ts.map fun e => Value.ref e.1).toArray.size = ts.length := by simp
  have hTs : ∀ j (h : j < ts.length), Ts j = ts[j].1 := fun j h => by simp [Ts, h]
  have hvals : ∀ j (h : j < ts.length), vals j = #[ts[j].2.1, ts[j].2.2] := fun j h => by simp [vals, h]
  have WU := WalksU.listOfTuples (prog := prog) (w := w) (A := A) hh s.heap.objs.size ax (Nat.ne_of_lt hlt) (ts.map fun e => Value.ref e.1).toArray Ts vals
    (fun j hj => by rw [hsize] at hj; rw [hTs j hj]; simp [hj]) (fun j hj => by rw [hsize] at hj; rw [hTs j hj]; exact Nat.ne_of_lt (hts _ (List.getElem_mem hj)))
  intro iter pos E RR hcell hkind hxa hxb hab hRR
  refine mc_block (ws := [(s.heap.objs.size, "list_iterator")]) (news := news) hh (KTurns.ofWalksU WU.bound) (by rw [hsize]; simp) (by rw [hsize, sizeLine_eq]; omega) ?_ ?_ ?_ ?_ ?_ ?_ ?_ ?_ ?_ ?_ (F.keeps up) (N.grown up) ?_ hcell hkind hxa hxb hab (R _ _) (hRR news)
  · rintro i v h ⟨T, vs, rfl, ⟨hi, rfl⟩, hT⟩
    rw [hsize] at hi
    rw [hvals i hi] at hT
    exact ⟨(fun _ => ts[i].2.1, fun _ => ts[i].2.2), T, 0, 0, by simp [hi], rfl, hT⟩
  · rintro h s' Q E rfl ⟨h1, _⟩ hQ
    exact wpAny_pyIter_listiter h1 hQ
  · rintro i h ⟨⟨o, e, c, _⟩, _⟩
    exact ⟨[(s.heap.objs.size, o)], ⟨⟨rfl, c⟩, trivial⟩, List.forall_mem_cons.mpr ⟨e, List.forall_mem_nil _⟩⟩
  · intro c hc
    have e : c = s.heap.objs.size := by simpa using hc
    subst e
    exact ⟨by simp, next_is_new F⟩
  · intro c hc
    simpa using hc
  · intro c hc
    rcases List.mem_cons.mp hc with rfl | hc
    · exact .inl (by simp)
    · rcases List.mem_cons.mp hc with rfl | hc
      · exact .inr ⟨_, List.mem_cons_self⟩
      · obtain ⟨j, hj, rfl⟩ := List.mem_map.mp hc
        have hj' : j < ts.length := by simpa using hj
        refine .inr ⟨tup [ts[j].2.1, ts[j].2.2], List.mem_cons_of_mem _ (List.mem_map.mpr ⟨ts[j], List.getElem_mem hj', ?_⟩)⟩
        exact Prod.ext (hTs j hj').symm rfl
  · intro hc
    rcases List.mem_cons.mp hc with e | hc
    · exact Nat.ne_of_lt hLs e
    · rcases List.mem_cons.mp hc with e | hc
      · exact hax.2.1 e.symm
      · obtain ⟨j, hj, e⟩ := List.mem_map.mp hc
        have hj' : j < ts.length := by simpa using hj
        rw [hTs j hj'] at e
        exact (N _ (ht _ (List.getElem_mem hj'))).2.1 e
  · intro p hp hc
    have e : p.1 = s.heap.objs.size := by simpa using hc
    exact Nat.ne_of_lt (Heap.lt_size (N p hp).1) e
  · refine ⟨⟨_, Heap.get?_push_size _ rfl, rfl, rfl⟩, hl.push _, fun j hj => ?_⟩
    rw [hsize] at hj
    rw [hTs j hj, hvals j hj]
    exact ⟨_, up _ _ (N _ (ht _ (List.getElem_mem hj))).1, rfl, 0, rfl⟩
  · intro c hc
    show c < (s.heap.push _).objs.size
    rw [Heap.size_push]
    rcases List.mem_cons.mp hc with rfl | hc
    · exact Nat.lt_succ_self _
    · rcases List.mem_cons.mp hc with rfl | hc
      · exact Nat.lt_succ_of_lt hlt
      · obtain ⟨j, hj, rfl⟩ := List.mem_map.mp hc
        have hj' : j < ts.length := by simpa using hj
        rw [hTs j hj']
        exact Nat.lt_succ_of_lt (hts _ (List.getElem_mem hj'))
  · intro p hp
    rcases List.mem_cons.mp hp with rfl | hp
    · exact hm
    · obtain ⟨e, he, rfl⟩ := List.mem_map.mp hp
      exact ht e he
theorem MRest.gen {ct : Option PySem.Expr} {elt : PySem.Expr} {a b : PySem.Str} {scope : Scope} {cl : List (PySem.Str × Addr)} {i0 : Led → Prop} {keep : Led} {Fin : List Value → Led → Prop} {xs : List (VF × VF)} {ys : List Value} {news : Led} (W : (List Value → Prop) → Prop)
    (k : ∀ Fin' : List Value → Led → Prop, (W fun vs => Fin' vs news) → MRest prog w A h₀ L m env ct elt a b scope cl s i0 keep Fin' xs ys news) (h : W fun vs => Fin vs news) : MRest prog w A h₀ L m env ct elt a b scope cl s i0 keep Fin xs ys news := k Fin h
theorem MRest.nil {ct : Option PySem.Expr} {elt : PySem.Expr} {a b : PySem.Str} {scope : Scope} {cl : List (PySem.Str × Addr)} {i0 : Led → Prop} {keep : Led} {Fin : List Value → Led → Prop} {ys : List Value} {news : Led} (h : Fin ys news) : MRest prog w A h₀ L m env ct elt a b scope cl s i0 keep Fin [] ys news := h
theorem MRest.cons {elt : PySem.Expr} {a b : PySem.Str} {scope : Scope} {cl : List (PySem.Str × Addr)} {i0 : Led → Prop} {keep : Led} {Fin : List Value → Led → Prop} {p : VF × VF} {r : List (VF × VF)} {ys : List Value} {news : Led}
    (h : ∀ (t u : Tok) its C oC D m₂ h tk (E' : Value → Shared → Prop), i0 its → NsObj oC m₂ → m₂ a = some (p.1 t) → m₂ b = some (p.2 u) → Fr h₀ L h m → News h₀ L h ((C, oC) :: (D, lst ys) :: (news ++ its)) →
      (∀ q ∈ news, q.1 ≠ C ∧ q.1 ≠ D) → (∀ q ∈ news, ∀ z ∈ its, q.1 ≠ z.1) → (∀ q ∈ its, q.1 ≠ C ∧ q.1 ≠ D) → (@Ne Nat C D) →
      wpAny (model prog w) A (eval elt (compEnvC scope cl C env)) (MEnd h₀ L m { s with heap := h, toks := tk } C oC D (lst ys) its keep (fun y news' => MRest prog w A h₀ L m env none elt a b scope cl s i0 keep Fin r (ys ++ [y]) news')) E' { s with heap := h, toks := tk }) :
    MRest prog w A h₀ L m env none elt a b scope cl s i0 keep Fin (p :: r) ys news := h
theorem MRest.consT {c elt : PySem.Expr} {a b : PySem.Str} {scope : Scope} {cl : List (PySem.Str × Addr)} {i0 : Led → Prop} {keep : Led} {Fin : List Value → Led → Prop} {p : VF × VF} {r : List (VF × VF)} {ys : List Value} {news : Led}
    (h : ∀ (t u : Tok) its C oC D m₂ h tk (E' : Value → Shared → Prop), i0 its → NsObj oC m₂ → m₂ a = some (p.1 t) → m₂ b = some (p.2 u) → Fr h₀ L h m → News h₀ L h ((C, oC) :: (D, lst ys) :: (news ++ its)) →
      (∀ q ∈ news, q.1 ≠ C ∧ q.1 ≠ D) → (∀ q ∈ news, ∀ z ∈ its, q.1 ≠ z.1) → (∀ q ∈ its, q.1 ≠ C ∧ q.1 ≠ D) → (@Ne Nat C D) →
      wpAny (model prog w) A (isTrue c (compEnvC scope cl C env) (eval c (compEnvC scope cl C env))) (fun ok s' => if ok = true then
        wpAny (model prog w) A (eval elt (compEnvC scope cl C env)) (MEnd h₀ L m { s with heap := h, toks := tk } C oC D (lst ys) its keep (fun y news' => MRest prog w A h₀ L m env (some c) elt a b scope cl s i0 keep Fin r (ys ++ [y]) news')) E' s'
        else MEnd h₀ L m { s with heap := h, toks := tk } C oC D (lst ys) its keep (fun _ news' => MRest prog w A h₀ L m env (some c) elt a b scope cl s i0 keep Fin r ys news') .none s') E' { s with heap := h, toks := tk }) :
    MRest prog w A h₀ L m env (some c) elt a b scope cl s i0 keep Fin (p :: r) ys news := h
end
end Mine
end
section
open PySem PySem.W PyProof.Rows PySem.Calls PySem.Spec PyProof.Rows.LCg
open PyProof.V
set_option maxRecDepth 100000
namespace Mine
section
variable {prog : PySem.Program} {w : World} {A : Around} {E : Value → Shared → Prop} {s : Shared} {h₀ : Heap} {L : Addr} {m : PySem.Str → Option Value} {env : Env}
/-- a list made of a text's signs -/
theorem mc_strList {elt iter : PySem.Expr} {nm : PySem.Str} {px : Pos} {scope : Scope} {cl : List (PySem.Str × Addr)} {pos : Pos} {Q : Value → Shared → Prop} (_F₀ : Fr h₀ L s.heap m)
    (hclos : closureFor scope env = pure cl) (hcell : ∀ y ∈ scope.names, y.2 ≠ .cell) (hkind : scope.kind = .function)
    (hnames : ∀ y ∈ scope.names, y.2 = .local → scope.names.lookup y.1 = some .local) (hx : scope.names.lookup nm = some .local)
    (h : wpAny (model prog w) A (eval iter env) (fun xv s₁ => ∃ x t news, xv = .str x t ∧ A.handled = none ∧ Fr h₀ L s₁.heap m ∧ News h₀ L s₁.heap news ∧ x.cps.size ≤ 1000 ∧
      ∀ g : Heap, CompRest prog w A h₀ L m env elt nm scope cl { s₁ with heap := g } (fun _ => True) (SignAt x) (FinE h₀ L m { s₁ with heap := g } Q) x.cps.size 0 [] news) E s)
    (hs : ∀ x, foldedSetIterable iter env x = pure x := by intro _; rfl) :
    wpAny (model prog w) A (eval (.ListComp elt [⟨.Name nm px, iter, [], 0⟩] scope pos) env) Q E s := by
  rw [eval_ListComp]
  refine wpAny_comprehension_free (use := none) rfl hs hclos hkind hnames (wpAny_mono h (fun xv s₁ h₁ => ?_) fun _ _ e => e)
  obtain ⟨x, t, news, rfl, hh, F, N, hsz, R⟩ := h₁
  refine wpAny_pyIter_strU ?_
  have hsz' : x.cps.size ≤ sizeLine := by rw [sizeLine_eq]; omega
  have up : ∀ b o, s₁.heap.get? b = some o → (s₁.heap.push { cls := .type (strIterType x), data := .fields #[.str x t, .int 0 0] }).get? b = some o := fun b o e => Heap.get?_push_of_some _ e
  have fin : ∀ (D C : Addr) (h : Heap) (tk : Nat) (m' : PySem.Str → Option Value) (ys : List Value) (news' : Led), Fr h₀ L h m → News h₀ L h ((D, lst ys) :: news') → Off1 D news' → h.Ns C m' → h₀.get? C = none → h₀.get? D = none → C ≠ L → D ≠ L → C ≠ D → (∀ p ∈ news', p.1 ≠ C) →
      FinE h₀ L m { s₁ with heap := s₁.heap.push { cls := .type (strIterType x), data := .fields #[.str x t, .int 0 0] } } Q ys news' → compPost (model prog w) A E none Q (.ref D) C (.ok .next) { s₁ with heap := h, toks := tk } := by
    intro D C h tk m' ys news' F' N' o1 hn hC₀ hD₀ hCL hDL hCD offC fin
    refine ⟨m', hn, fun h'' hs'' => fin D h'' tk (F'.change hs'' hCL hC₀) (fun p hp => ?_) o1⟩
    refine ⟨hs''.extBut _ _ ?_ (N' p hp).1, (N' p hp).2⟩
    rcases List.mem_cons.mp hp with rfl | hp
    · exact Ne.symm hCD
    · exact offC p hp
  have key : ∀ (St : Nat → Heap → Prop) (_ : Walks prog w A s₁.heap.objs.size [s₁.heap.objs.size] [s₁.heap.objs.size] x.cps.size (SignAt x) St) (_ : ∀ i h, St i h → ∃ o, h.get? s₁.heap.objs.size = some o) (_ : St 0 (s₁.heap.push { cls := .type (strIterType x), data := .fields #[.str x t, .int 0 0] })),
      wpAny (model prog w) A (newList []) (fun acc s₃ => wpAny (model prog w) A (newFunctionEnv scope env.globals cl [] env.qual none .none (some env)) (fun cenv s₄ =>
        codeAny (model prog w) A (.compStart (.ListComp elt [⟨.Name nm px, iter, [], 0⟩] scope pos) 0 (.ref s₁.heap.objs.size) acc { cenv with scope := relabel scope env }) (compPost (model prog w) A E none Q acc cenv.locals) s₄) E s₃) E
        { s₁ with heap := s₁.heap.push { cls := .type (strIterType x), data := .fields #[.str x t, .int 0 0] } } := fun St W hIo hst =>
    block_U (S := fun _ => True) W hsz' hIo (fun i h h' o nw st e e' _ _ _ => W.frame _ _ _ st fun b hb o' eb => by
        rw [List.mem_singleton.mp hb] at eb ⊢
        rw [e] at eb; cases eb; exact e') hcell hkind hx hst
      (fun b hb => by rw [List.mem_singleton.mp hb]; show _ < (s₁.heap.push _).objs.size; rw [Heap.size_push]; exact Nat.lt_succ_self _)
      (F.keeps up) (N.grown up) (Nat.ne_of_lt F.ns.lt) (next_is_new F) (fun p hp => Nat.ne_of_lt (Heap.lt_size (N p hp).1)) True.intro (R _) fin
  cases ha : x.cps.all (· < 128)
  · have e : strIterType x = "str_iterator" := by unfold strIterType; simp [ha]
    exact key _ (Walks.strWide hh _ x t) (fun i h st => by obtain ⟨o, e, _⟩ := st; exact ⟨o, e⟩) ⟨_, Heap.get?_push_size _ rfl, by rw [e], rfl⟩
  · have e : strIterType x = "str_ascii_iterator" := by unfold strIterType; simp [ha]
    exact key _ (Walks.strAscii hh _ x t) (fun i h st => by obtain ⟨o, e, _⟩ := st; exact ⟨o, e⟩) ⟨_, Heap.get?_push_size _ rfl, by rw [e], rfl⟩
end
noncomputable def MWEnd (h₀ : Heap) (L : Addr) (s : Shared) (rest : (PySem.Str → Option Value) → Led → Prop) (s₂ : Shared) : Prop := ∃ h' tk m' nw', s₂ = { s with heap := h', toks := tk } ∧ Fr h₀ L h' m' ∧ News h₀ L h' nw' ∧ rest m' nw'
noncomputable def MWPost (h₀ : Heap) (L : Addr) (s : Shared) (rest : (PySem.Str → Option Value) → Led → Prop) (Q : Flow → Shared → Prop) (f : Flow) (s₂ : Shared) : Prop :=
  match f with
  | .ret v => Q (.ret v) s₂
  | .brk => Q .next s₂
  | _ => MWEnd h₀ L s rest s₂
theorem MWEnd.intro {h₀ h' : Heap} {L : Addr} {s : Shared} {tk : Nat} {rest : (PySem.Str → Option Value) → Led → Prop} {m' : PySem.Str → Option Value} {all : Led} (F : Fr h₀ L h' m') (N : News h₀ L h' all) (nw' : Led) (sub : ∀ p ∈ nw', p ∈ all) (r : rest m' nw') : MWEnd h₀ L s rest { s with heap := h', toks := tk } :=
  ⟨h', tk, m', nw', rfl, F, newsSub N sub, r⟩
section
variable {prog : PySem.Program} {w : World} {A : Around} {E : Value → Shared → Prop} {s : Shared} {env : Env} {test : PySem.Expr} {body : List Stmt} {Q : Flow → Shared → Prop} {h₀ : Heap}
theorem WhileInd (P : Nat → (PySem.Str → Option Value) → Led → Prop) (hE : PassesOwn (model prog w) A env E)
    (turn : ∀ n m nw, P n m nw → ∀ h tk, Fr h₀ env.locals h m → News h₀ env.locals h nw →
      wpAny (model prog w) A (isTrue test env (eval test env)) (fun b s₂ => WhlIf b (wpAny (model prog w) A (execs body env) (MWPost h₀ env.locals s (fun m' nw' => ∃ n', n' < n ∧ P n' m' nw') Q) E s₂) (wpAny (model prog w) A (execs [] env) Q E s₂)) E { s with heap := h, toks := tk }) :
    ∀ n m nw, P n m nw → ∀ h tk, Fr h₀ env.locals h m → News h₀ env.locals h nw → WhlRest prog w A E env test body [] Q 0 { s with heap := h, toks := tk } := by
  intro n
  induction n using Nat.strongRecOn with
  | ind n ih =>
    intro m nw hP h tk F N
    refine whl_turn (k := 0) hE (wpAny_mono (turn n m nw hP h tk F N) (fun b s₂ hb => ?_) fun _ _ e => e)
    cases b with
    | false => exact hb
    | true =>
      have hb' : wpAny (model prog w) A (execs body env) (MWPost h₀ env.locals s (fun m' nw' => ∃ n', n' < n ∧ P n' m' nw') Q) E s₂ := by
        unfold WhlIf at hb; rw [if_pos rfl] at hb; exact hb
      refine WhlIf.yes rfl (wpAny_mono hb' (fun f s₃ hf => ?_) fun _ _ e => e)
      have go : MWEnd h₀ env.locals s (fun m' nw' => ∃ n', n' < n ∧ P n' m' nw') s₃ → WhlRest prog w A E env test body [] Q 0 s₃ := by
        rintro ⟨h', tk', m', nw', rfl, F', N', n', hn, hP'⟩
        exact ih n' hn m' nw' hP' h' tk' F' N'
      cases f with
      | next => exact go hf
      | cont => exact go hf
      | brk => exact hf
      | ret v => exact hf
theorem WhileStart {pos : Pos} {n : Nat} {m : PySem.Str → Option Value} {nw : Led} (P : Nat → (PySem.Str → Option Value) → Led → Prop) (hE : PassesOwn (model prog w) A env E) (F : Fr h₀ env.locals s.heap m) (N : News h₀ env.locals s.heap nw) (h : P n m nw)
    (turn : ∀ n m nw, P n m nw → ∀ h tk, Fr h₀ env.locals h m → News h₀ env.locals h nw →
      wpAny (model prog w) A (isTrue test env (eval test env)) (fun b s₂ => WhlIf b (wpAny (model prog w) A (execs body env) (MWPost h₀ env.locals s (fun m' nw' => ∃ n', n' < n ∧ P n' m' nw') Q) E s₂) (wpAny (model prog w) A (execs [] env) Q E s₂)) E { s with heap := h, toks := tk }) :
    wpAny (model prog w) A (exec (.While test body [] pos) env) Q E s :=
  whl_start 0 (WhileInd (s := s) P hE turn n m nw h s.heap s.toks F N)
theorem WhileStartQ {pos : Pos} {n : Nat} {m : PySem.Str → Option Value} {nw : Led} (P : Nat → (PySem.Str → Option Value) → Led → Prop) (X : (PySem.Str → Option Value) → Led → Prop) (hE : PassesOwn (model prog w) A env E) (F : Fr h₀ env.locals s.heap m) (N : News h₀ env.locals s.heap nw) (h : P n m nw)
    (turn : ∀ n m nw, P n m nw → ∀ h tk (Qb Qn : Flow → Shared → Prop) (E' : Value → Shared → Prop),
      (∀ {h' tk' m' all}, Fr h₀ env.locals h' m' → News h₀ env.locals h' all → ∀ nw', (∀ p ∈ nw', p ∈ all) → (∃ n', n' < n ∧ P n' m' nw') → Qb .next { s with heap := h', toks := tk' }) →
      (∀ {h' tk' m' all}, Fr h₀ env.locals h' m' → News h₀ env.locals h' all → ∀ nw', (∀ p ∈ nw', p ∈ all) → X m' nw' → Qn .next { s with heap := h', toks := tk' }) → Fr h₀ env.locals h m → News h₀ env.locals h nw →
      wpAny (model prog w) A (isTrue test env (eval test env)) (fun b s₂ => WhlIf b (wpAny (model prog w) A (execs body env) Qb E' s₂) (wpAny (model prog w) A (execs [] env) Qn E' s₂)) E' { s with heap := h, toks := tk })
    (done : ∀ m nw, X m nw → ∀ h tk, Fr h₀ env.locals h m → News h₀ env.locals h nw → Q .next { s with heap := h, toks := tk }) :
    wpAny (model prog w) A (exec (.While test body [] pos) env) Q E s :=
  WhileStart P hE F N h fun n m nw hP h tk F N => turn n m nw hP h tk (MWPost h₀ env.locals s (fun m' nw' => ∃ n', n' < n ∧ P n' m' nw') Q) Q E (fun F N nw' sub r => MWEnd.intro F N nw' sub r) (fun F N nw' sub x => done _ nw' x _ _ F (newsSub N sub)) F N
end
/-- a step told apart from what follows it -/
theorem step_cut {M : Model} {A : Around} {t : Sem Value} {Q E : Value → Shared → Prop} {s : Shared} (R : Value → Shared → Prop)
    (h1 : ∀ Q' : Value → Shared → Prop, (∀ v s', R v s' → Q' v s') → wpAny M A t Q' E s) (h2 : ∀ v s', R v s' → Q v s') : wpAny M A t Q E s := h1 Q h2
noncomputable def CutP (h₀ : Heap) (L : Addr) (s : Shared) (m : PySem.Str → Option Value) (nw : Led) (R : Value → Prop) (v : Value) (s' : Shared) : Prop := ∃ h' tk, s' = { s with heap := h', toks := tk } ∧ Fr h₀ L h' m ∧ News h₀ L h' nw ∧ R v
theorem step_frame {M : Model} {A : Around} {t : Sem Value} {Q E : Value → Shared → Prop} {s : Shared} {h₀ : Heap} {L : Addr} {m : PySem.Str → Option Value} {nw : Led} (_ : Fr h₀ L s.heap m) (_ : News h₀ L s.heap nw) (R : Value → Prop)
    (h1 : ∀ Q' : Value → Shared → Prop, (∀ v h' tk, Fr h₀ L h' m → News h₀ L h' nw → R v → Q' v { s with heap := h', toks := tk }) → wpAny M A t Q' E s)
    (h2 : ∀ v h' tk, Fr h₀ L h' m → News h₀ L h' nw → R v → Q v { s with heap := h', toks := tk }) : wpAny M A t Q E s := h1 Q h2
/-- split roads meet again; what comes is told to whoever goes on -/
theorem step_frameW {M : Model} {A : Around} {t : Sem Value} {Q E : Value → Shared → Prop} {s : Shared} {h₀ : Heap} {L : Addr} {m : PySem.Str → Option Value} {nw : Led} (_ : Fr h₀ L s.heap m) (_ : News h₀ L s.heap nw) (W : (Value → Prop) → Prop)
    (k : ∀ Q' : Value → Shared → Prop, (W fun v => ∀ h' tk', Fr h₀ L h' m → News h₀ L h' nw → Q' v { s with heap := h', toks := tk' }) → wpAny M A t Q' E s)
    (h : W fun v => ∀ h' tk', Fr h₀ L h' m → News h₀ L h' nw → Q v { s with heap := h', toks := tk' }) : wpAny M A t Q E s := k Q h
end Mine
end
section
open PySem PySem.W PyProof.Rows PySem.Calls PySem.Spec PyProof.Rows.LCg
namespace Mine
noncomputable def cornerI : Nat → Int × Int × Int
  | 0 => (1, 0, 0) | 1 => (1, 1, 0) | 2 => (0, 1, 0) | 3 => (0, 1, 1) | 4 => (0, 0, 1) | _ => (1, 0, 1)
/-- a letter's place in rgb -/
noncomputable def ixOf (c : Nat) : Nat := if c = 114 then 0 else if c = 103 then 1 else 2
noncomputable def ptF (tn : Nat) : List Nat → Int → Int × Int × Int → Int × Int × Int
  | [], _, p => p
  | c :: r, w, p => ptF tn r (w * -2) (if c = 107 then p else
      let q := cornerI ((ixOf c * 2 + tn) % 6)
      (p.1 + w * q.1, p.2.1 + w * q.2.1, p.2.2 + w * q.2.2))
noncomputable def isLet (c : Nat) : Prop := c = 107 ∨ c = 114 ∨ c = 103 ∨ c = 98
noncomputable abbrev lst3 (p : Int × Int × Int) (u0 u1 u2 : Tok) (c : Nat) : Obj := W.listOf [Value.int p.1 u0, Value.int p.2.1 u1, Value.int p.2.2 u2].toArray c
noncomputable def LpP (I Lc : Addr) (tn : Nat) (tt : Tok) (news : Led) (R : Int × Int × Int) (us : List PySem.Str) (m : PySem.Str → Option Value) (nw : Led) : Prop :=
  ∀ C : List PySem.Str → Led → Prop, (∀ (cs : List Nat) (wv : Int) (p : Int × Int × Int) (D : Addr) (c : Nat) (u0 u1 u2 tw : Tok) (o : Obj) (j : Nat), (∀ c ∈ cs, isLet c) →
    o.data = .cell (some (.int wv tw)) → @LT.lt Nat _ Lc D → @Ne Nat D I → m (PySem.Str.ofString "turn") = some (.int tn tt) → m (PySem.Str.ofString "point") = some (.ref D) → ptF tn cs wv p = R → wv.natAbs = 2 ^ j → j + cs.length ≤ 60 →
    C (cs.map (fun c => (⟨#[c]⟩ : PySem.Str))) ((D, lst3 p u0 u1 u2 c) :: (Lc, o) :: news)) → C us nw
noncomputable def BitOf (x : UInt64) (b : Int) : Prop := (x = f0 ∧ b = 0) ∨ (x = f1 ∧ b = 1)
theorem bitOf_corner {k : Nat} (hk : k < 6) : BitOf (rgbOf k).1 (cornerI k).1 ∧ BitOf (rgbOf k).2.1 (cornerI k).2.1 ∧ BitOf (rgbOf k).2.2 (cornerI k).2.2 := by
  have hk6 : k = 0 ∨ k = 1 ∨ k = 2 ∨ k = 3 ∨ k = 4 ∨ k = 5 := by omega
  rcases hk6 with rfl | rfl | rfl | rfl | rfl | rfl <;> (unfold BitOf; decide)
section
variable {prog : PySem.Program} {w : World} {A : Around} {E : Value → Shared → Prop} {s : Shared} {Q : Value → Shared → Prop} {t u : Tok}
theorem my_div6 {X : Int} {k : Nat} (hX : X = (k : Int)) (hk : k < 6) (h : Q (.float (hue k) s.toks) { s with toks := s.toks + 1 }) : wpAny (model prog w) A (binaryOp .Div (.int X t) (.int 6 u)) Q E s := by
  subst hX
  have e : Float64.isInf (Float64.ofFrac (decide ((k : Int) < 0) != decide ((6 : Int) < 0)) (k : Int).natAbs (6 : Int).natAbs) = false ∧ Float64.ofFrac (decide ((k : Int) < 0) != decide ((6 : Int) < 0)) (k : Int).natAbs (6 : Int).natAbs = hue k := by
    have hk6 : k = 0 ∨ k = 1 ∨ k = 2 ∨ k = 3 ∨ k = 4 ∨ k = 5 := by omega
    rcases hk6 with rfl | rfl | rfl | rfl | rfl | rfl <;> exact ⟨by decide +kernel, by decide +kernel⟩
  refine AutoIntOps.truediv_2 (by decide) (by rw [e.1]; decide) ?_
  rw [e.2]
  exact h
theorem my_intbit {x : UInt64} {b : Int} (hb : BitOf x b) (h : Q (.int b s.toks) { s with toks := s.toks + 1 }) : wpAny (model prog w) A (call (.type "int") [.float x t]) Q E s := by
  rcases hb with ⟨rfl, rfl⟩ | ⟨rfl, rfl⟩
  · have e : Float64.truncOf false 0 (-1074) = 0 := by decide +kernel
    exact call_int_float (sg := false) (m := 0) (e := -1074) (by kernel_rfl) (by rw [e]; exact h)
  · have e : Float64.truncOf false 4503599627370496 (-52) = 1 := by decide +kernel
    exact call_int_float (sg := false) (m := 4503599627370496) (e := -52) (by kernel_rfl) (by rw [e]; exact h)
end
theorem two_lt_64 {wv : Int} {j n : Nat} (h : wv.natAbs = 2 ^ j) (hj : j + n ≤ 60) : wv.natAbs < 2 ^ 64 := by
  rw [h]; exact Nat.pow_lt_pow_right (by decide) (by omega)
theorem two_step {wv : Int} {j n : Nat} (h : wv.natAbs = 2 ^ j) (hj : j + (n + 1) ≤ 60) : ∃ j', (wv * -2).natAbs = 2 ^ j' ∧ j' + n ≤ 60 :=
  ⟨j + 1, by rw [Int.natAbs_mul, h, Nat.pow_succ]; rfl, by omega⟩
theorem led_name {h₀ h : Heap} {L : Addr} {l : Led} (N : News h₀ L h l) : ∃ fx : Led, fx = l ∧ News h₀ L h fx := ⟨l, rfl, N⟩
noncomputable def pairOf (c : Nat) : Int × Int := if c = 107 then (0, 0) else if c = 114 then (1, 0) else if c = 103 then (0, 1) else (-1, -1)
noncomputable def toldR : List Nat → Int → Int → Int × Int
  | [], a, b => (a, b)
  | c :: r, a, b => toldR r ((pairOf c).1 - 2 * a) ((pairOf c).2 - 2 * b)
noncomputable def turnsF : Nat → Int → Int → Int × Int
  | 0, a, b => (a, b)
  | n + 1, a, b => turnsF n (a - b) a
noncomputable def toldF (cs : List Nat) (tn : Nat) : Int × Int := let p := toldR cs.reverse 0 0; turnsF tn p.1 p.2
noncomputable def TdP (fx : Led) (tn : Nat) (tt : Tok) (dr : Value) (R : Int × Int) (us : List PySem.Str) (m : PySem.Str → Option Value) (nw : Led) : Prop :=
  ∀ C : List PySem.Str → Led → Prop, (∀ (cs : List Nat) (a b : Int) (ta tb : Tok), (∀ c ∈ cs, isLet c) → m (PySem.Str.ofString "pairs") = some dr → m (PySem.Str.ofString "turn") = some (.int tn tt) →
    m (PySem.Str.ofString "a") = some (.int a ta) → m (PySem.Str.ofString "b") = some (.int b tb) → toldR cs a b = R → C (cs.map (fun c => (⟨#[c]⟩ : PySem.Str))) fx) → C us nw
noncomputable def TuP (fx : Led) (R : Int × Int) (k i : Nat) (m : PySem.Str → Option Value) (nw : Led) : Prop :=
  ∀ C : Led → Prop, (∀ (a b : Int) (ta tb : Tok), m (PySem.Str.ofString "a") = some (.int a ta) → m (PySem.Str.ofString "b") = some (.int b tb) → turnsF k a b = R → C fx) → C nw
theorem rev_text (x : PySem.Str) (u : Tok) : (Txt.sliceBy x none none (-1, u)).cps.toList = x.cps.toList.reverse := by
  rw [step_rev_list]
  have hl : x.cps.toList.length = x.length := by simp [PySem.Str.length]
  apply List.ext_getElem
  · simp [hl]
  · intro i h1 h2
    have hi : i < x.length := by simpa using h1
    simp only [List.getElem_map, List.getElem_range, List.getElem_reverse, Array.getElem_toList]
    have hs : x.cps.size = x.length := rfl
    rw [Array.getD_eq_getD_getElem?]
    simp [hs]
    rw [Array.getElem?_eq_getElem (by omega)]
    simp
theorem fr_at {h₀ h : Heap} {L : Addr} {m : PySem.Str → Option Value} (_ : Fr h₀ L h m) (a : PySem.Str) {v : Value} (e : m a = some v) : ∃ dr, dr = v ∧ m a = some dr := ⟨v, rfl, e⟩
/-- the letter that three remainders by 2 tell -/
noncomputable def letF (x y z : Int) : Nat := match sixth x y z with
  | none => 107
  | some 0 => 114 | some 1 => 98 | some 2 => 103 | some 3 => 114 | some 4 => 98 | some _ => 103
noncomputable def lett (p : Int × Int × Int) : Nat := letF (p.1.fmod 2) (p.2.1.fmod 2) (p.2.2.fmod 2)
noncomputable def off (p : Int × Int × Int) (l : Nat) : Int × Int × Int :=
  ((if 114 = l then p.1 - 1 else p.1), (if 103 = l then p.2.1 - 1 else p.2.1), (if 98 = l then p.2.2 - 1 else p.2.2))
noncomputable def d0F (p : Int × Int × Int) : Int := (off p (lett p)).1 - (off p (lett p)).2.2
noncomputable def d1F (p : Int × Int × Int) : Int := (off p (lett p)).2.1 - (off p (lett p)).2.2
noncomputable def readF : Nat → Int × Int × Int → Option (List Nat)
  | 0, p => if p.2.1 = p.1 ∧ p.2.2 = p.1 then some [] else none
  | n + 1, p => if p.2.1 = p.1 ∧ p.2.2 = p.1 then some [] else
      if (d0F p).fmod (-2) = 0 ∧ (d1F p).fmod (-2) = 0 then (readF n ((d0F p).fdiv (-2), (d1F p).fdiv (-2), 0)).map (lett p :: ·) else none
noncomputable def RdP (L1 : Addr) (T30 T37 : Obj → Led → Prop) (a30 a37 : Addr) (T0 news : Led) (ws : List Nat) (n : Nat) (m : PySem.Str → Option Value) (nw : Led) : Prop :=
  ∀ C : Led → Prop, (∀ (p : Int × Int × Int) (r wd : List Nat) (D : Addr) (c : Nat) (u0 u1 u2 tw : Tok) (oL oP o30 o37 : Obj) (ext : Led) (lv : Option Value), readF n p = some r → wd ++ r = ws → wd.length + n = 12 → (p.1.natAbs + n ≤ 2 ^ 50 ∧ p.2.1.natAbs + n ≤ 2 ^ 50 ∧ p.2.2.natAbs + n ≤ 2 ^ 50) →
      oP.data = .cell (some (.ref D)) → oL.data = .cell lv → T30 o30 (ext ++ T0) → T37 o37 (ext ++ T0) → (∀ q ∈ ext, (∀ z ∈ news, @LT.lt Nat _ z.1 q.1) ∧ @LT.lt Nat _ (L1 + 1 + 1) q.1) → @Ne Nat D (L1 + 1 + 1) → @Ne Nat D (L1 + 1) → @LT.lt Nat _ a37 D → @LT.lt Nat _ a30 D →
      m (PySem.Str.ofString "word") = some (.str ⟨wd.toArray⟩ tw) → C ((D, lst3 p u0 u1 u2 c) :: (L1 + 1 + 1, oL) :: (L1 + 1, oP) :: (a30, o30) :: (a37, o37) :: (ext ++ news))) → C nw
theorem off_small (p : Int × Int × Int) (l : Nat) : (off p l).1.natAbs ≤ p.1.natAbs + 1 ∧ (off p l).2.1.natAbs ≤ p.2.1.natAbs + 1 ∧ (off p l).2.2.natAbs ≤ p.2.2.natAbs + 1 := by
  have h : ∀ (c : Prop) [Decidable c] (x : Int), (if c then x - 1 else x).natAbs ≤ x.natAbs + 1 := fun c _ x => by
    split
    · exact Int.natAbs_sub_le x 1
    · exact Nat.le_succ _
  exact ⟨h _ _, h _ _, h _ _⟩
theorem d_small {M : Nat} {p : Int × Int × Int} (h0 : p.1.natAbs + 1 ≤ M) (h1 : p.2.1.natAbs + 1 ≤ M) (h2 : p.2.2.natAbs + 1 ≤ M) : (d0F p).natAbs ≤ M + M ∧ (d1F p).natAbs ≤ M + M := by
  have ho := off_small p (lett p)
  exact ⟨Nat.le_trans (Int.natAbs_sub_le _ _) (Nat.add_le_add (Nat.le_trans ho.1 h0) (Nat.le_trans ho.2.2 h2)), Nat.le_trans (Int.natAbs_sub_le _ _) (Nat.add_le_add (Nat.le_trans ho.2.1 h1) (Nat.le_trans ho.2.2 h2))⟩
theorem d_bound {p : Int × Int × Int} {n : Nat} (h : p.1.natAbs + n ≤ 2 ^ 50 ∧ p.2.1.natAbs + n ≤ 2 ^ 50 ∧ p.2.2.natAbs + n ≤ 2 ^ 50) : (d0F p).natAbs < 2 ^ 59 ∧ (d1F p).natAbs < 2 ^ 59 := by
  have k : ∀ x : Nat, x + n ≤ 2 ^ 50 → x + 1 ≤ 2 ^ 50 + 1 := fun x hx => Nat.succ_le_succ (Nat.le_trans (Nat.le_add_right _ _) hx)
  have hd := d_small (k _ h.1) (k _ h.2.1) (k _ h.2.2)
  exact ⟨Nat.lt_of_le_of_lt hd.1 (by decide), Nat.lt_of_le_of_lt hd.2 (by decide)⟩
theorem half_small {x : Int} {M : Nat} (h : x.natAbs ≤ M + M) (h0 : x.fmod (-2) = 0) : (x.fdiv (-2)).natAbs ≤ M := by
  have e := Int.fmod_add_mul_fdiv x (-2)
  rw [h0, Int.zero_add] at e
  rw [← e, Int.natAbs_mul] at h
  exact Nat.le_of_mul_le_mul_left (c := 2) (by rw [Nat.two_mul]; rw [Nat.two_mul]; simpa [Nat.two_mul] using h) (by decide)
theorem d_next {p : Int × Int × Int} {n : Nat} (h : p.1.natAbs + (n + 1) ≤ 2 ^ 50 ∧ p.2.1.natAbs + (n + 1) ≤ 2 ^ 50 ∧ p.2.2.natAbs + (n + 1) ≤ 2 ^ 50) (h0 : (d0F p).fmod (-2) = 0) (h1 : (d1F p).fmod (-2) = 0) :
    ((d0F p).fdiv (-2)).natAbs + n ≤ 2 ^ 50 ∧ ((d1F p).fdiv (-2)).natAbs + n ≤ 2 ^ 50 ∧ ((0 : Int).natAbs) + n ≤ 2 ^ 50 := by
  have hn : n ≤ 2 ^ 50 := Nat.le_trans (Nat.le_succ n) (Nat.le_trans (Nat.le_add_left _ _) h.1)
  have k : ∀ x : Nat, x + (n + 1) ≤ 2 ^ 50 → x + 1 ≤ 2 ^ 50 - n := fun x hx => Nat.le_sub_of_add_le (Nat.le_trans (Nat.le_of_eq (by rw [Nat.add_assoc, Nat.add_comm 1 n])) hx)
  have hd := d_small (k _ h.1) (k _ h.2.1) (k _ h.2.2)
  have g : ∀ x : Nat, x ≤ 2 ^ 50 - n → x + n ≤ 2 ^ 50 := fun x hx => Nat.add_le_of_le_sub hn hx
  exact ⟨g _ (half_small hd.1 h0), g _ (half_small hd.2 h1), g 0 (Nat.zero_le _)⟩
theorem ints3 {ys : List Value} {a b c : Int} (h : IntsAre ys [a, b, c]) : ∃ t u v, ys = [.int a t, .int b u, .int c v] := by
  cases h with
  | cons _ t h => cases h with
    | cons _ u h => cases h with
      | cons _ v h => cases h; exact ⟨t, u, v, rfl⟩
theorem lst_of {ys : List Value} {n : Nat} (h : ys.length = n) : lst ys = W.listOf ys.toArray n := by subst h; rfl
section
variable {prog : PySem.Program} {w : World} {A : Around} {E : Value → Shared → Prop} {s : Shared} {Q : Value → Shared → Prop} {t u : Tok}
theorem my_int_hue {k : Nat} (hk : k < 6) (h : Q (.int (k : Int) s.toks) { s with toks := s.toks + 1 }) : wpAny (model prog w) A (call (.type "int") [.float (Float64.mul (hue k) 4618441417868443648) t]) Q E s := by
  have hk6 : k = 0 ∨ k = 1 ∨ k = 2 ∨ k = 3 ∨ k = 4 ∨ k = 5 := by omega
  rcases hk6 with rfl | rfl | rfl | rfl | rfl | rfl
  · have e : Float64.truncOf false 0 (-1074) = ((0 : Nat) : Int) := by decide +kernel
    exact call_int_float (sg := false) (m := 0) (e := -1074) (by kernel_rfl) (by rw [e]; exact h)
  · have e : Float64.truncOf false 4503599627370496 (-52) = ((1 : Nat) : Int) := by decide +kernel
    exact call_int_float (sg := false) (m := 4503599627370496) (e := -52) (by kernel_rfl) (by rw [e]; exact h)
  · have e : Float64.truncOf false 4503599627370496 (-51) = ((2 : Nat) : Int) := by decide +kernel
    exact call_int_float (sg := false) (m := 4503599627370496) (e := -51) (by kernel_rfl) (by rw [e]; exact h)
  · have e : Float64.truncOf false 6755399441055744 (-51) = ((3 : Nat) : Int) := by decide +kernel
    exact call_int_float (sg := false) (m := 6755399441055744) (e := -51) (by kernel_rfl) (by rw [e]; exact h)
  · have e : Float64.truncOf false 4503599627370496 (-50) = ((4 : Nat) : Int) := by decide +kernel
    exact call_int_float (sg := false) (m := 4503599627370496) (e := -50) (by kernel_rfl) (by rw [e]; exact h)
  · have e : Float64.truncOf false 5629499534213120 (-50) = ((5 : Nat) : Int) := by decide +kernel
    exact call_int_float (sg := false) (m := 5629499534213120) (e := -50) (by kernel_rfl) (by rw [e]; exact h)
end
theorem let_cases {x y z : Int} (hx : x = 0 ∨ x = 1) (hy : y = 0 ∨ y = 1) (hz : z = 0 ∨ z = 1) : (shareOf x y z = f0 ∧ letF x y z = 107) ∨ (shareOf x y z = f1 ∧
    ((hueOf x y z = hue 0 ∧ letF x y z = 114) ∨ (hueOf x y z = hue 1 ∧ letF x y z = 98) ∨ (hueOf x y z = hue 2 ∧ letF x y z = 103) ∨ (hueOf x y z = hue 3 ∧ letF x y z = 114) ∨ (hueOf x y z = hue 4 ∧ letF x y z = 98) ∨ (hueOf x y z = hue 5 ∧ letF x y z = 103))) := by
  rcases hx with rfl | rfl <;> rcases hy with rfl | rfl <;> rcases hz with rfl | rfl <;> decide
theorem one_beq (a b : Nat) : ((⟨#[a]⟩ : PySem.Str) == ⟨#[b]⟩) = decide (a = b) := by
  by_cases h : a = b
  · subst h; simp
  · rw [decide_eq_false h]
    refine beq_eq_false_iff_ne.mpr fun e => h ?_
    have := congrArg (fun s : PySem.Str => s.cps.toList) e
    simpa using this
theorem my_eq1 {prog : PySem.Program} {w : World} {A : Around} {E : Value → Shared → Prop} {s : Shared} {Q : Value → Shared → Prop} {t u : Tok} {a b : Nat} (h : Q (.bool (decide (a = b))) s) : wpAny (model prog w) A (compareOp .Eq (.str ⟨#[a]⟩ t) (.str ⟨#[b]⟩ u)) Q E s := by
  refine eq_str ?_
  rw [one_beq]; exact h
section
variable {prog : PySem.Program} {w : World} {A : Around} {E : Value → Shared → Prop} {s : Shared} {Q : Value → Shared → Prop} {t u : Tok} {a b : UInt64} {m n : Int}
theorem cl_divii (h1 : ¬(n == 0) = true) (h2 : ¬Float64.isInf (Float64.ofFrac (decide (m < 0) != decide (n < 0)) m.natAbs n.natAbs) = true) (h : Q (.float (Float64.ofFrac (decide (m < 0) != decide (n < 0)) m.natAbs n.natAbs) s.toks) { s with toks := s.toks + 1 }) : wpAny (model prog w) A (binaryOp .Div (.int m t) (.int n u)) Q E s := AutoIntOps.truediv_2 h1 h2 h
theorem cl_divff (h1 : ¬Float64.isZero b = true) (h : Q (.float (Float64.div a b) s.toks) { s with toks := s.toks + 1 }) : wpAny (model prog w) A (binaryOp .Div (.float a t) (.float b u)) Q E s := AutoFloatOps.truediv_1 h1 h
theorem cl_modff (h1 : ¬Float64.isZero b = true) (h : Q (.float (Float64.divmod a b).snd s.toks) { s with toks := s.toks + 1 }) : wpAny (model prog w) A (binaryOp .Mod (.float a t) (.float b u)) Q E s := AutoFloatOps.mod_1 h1 h
theorem cl_subfi (h1 : ¬Float64.isInf (Float64.ofInt n) = true) (h : Q (.float (Float64.sub a (Float64.ofInt n)) s.toks) { s with toks := s.toks + 1 }) : wpAny (model prog w) A (binaryOp .Sub (.float a t) (.int n u)) Q E s := AutoFloatOps.sub_fi_1 h1 h
theorem cl_divfi (h1 : ¬Float64.isInf (Float64.ofInt n) = true) (h2 : ¬Float64.isZero (Float64.ofInt n) = true) (h : Q (.float (Float64.div a (Float64.ofInt n)) s.toks) { s with toks := s.toks + 1 }) : wpAny (model prog w) A (binaryOp .Div (.float a t) (.int n u)) Q E s := AutoFloatOps.truediv_fi_2 h1 h2 h
end
theorem off_told {I C A Dt a30 a37 : Addr} {oI oC oA ot o30 o37 : Obj} {exta rest : Led} (lt7 : ∀ q ∈ (I, oI) :: (C, oC) :: (A, oA) :: rest, q.1 < Dt) (lx7 : ∀ q ∈ exta, (∀ p ∈ (I, oI) :: (C, oC) :: (A, oA) :: rest, p.1 < q.1) ∧ a37 < q.1)
    (h30 : a30 ≠ I ∧ a30 ≠ C ∧ a30 ≠ A) (h37 : a37 ≠ I ∧ a37 ≠ C ∧ a37 ≠ A) (hr : ∀ p ∈ rest, p.1 ≠ I ∧ p.1 ≠ C ∧ p.1 ≠ A) : Off3 I C A ((Dt, ot) :: (a30, o30) :: (a37, o37) :: (exta ++ rest)) := by
  refine Off3.of (List.forall_mem_cons.mpr ⟨⟨Nat.ne_of_gt (lt7 _ (.head _)), Nat.ne_of_gt (lt7 _ (.tail _ (.head _))), Nat.ne_of_gt (lt7 _ (.tail _ (.tail _ (.head _))))⟩, List.forall_mem_cons.mpr ⟨h30, List.forall_mem_cons.mpr ⟨h37, fun p hp => ?_⟩⟩⟩)
  rcases List.mem_append.mp hp with hp | hp
  · have z := (lx7 p hp).1
    exact ⟨Nat.ne_of_gt (z _ (.head _)), Nat.ne_of_gt (z _ (.tail _ (.head _))), Nat.ne_of_gt (z _ (.tail _ (.tail _ (.head _))))⟩
  · exact hr p hp
theorem perm4 {t x y d4 d3 l2 l1 : Addr × Obj} {exta r : Led} : ∀ p ∈ t :: x :: y :: d4 :: d3 :: l2 :: l1 :: (exta ++ r), p ∈ t :: x :: y :: (exta ++ d4 :: d3 :: l2 :: l1 :: r) := by
  intro p hp
  simp only [List.mem_cons, List.mem_append] at hp ⊢
  grind
theorem perm7 {i c a t x y d4 d3 l2 l1 : Addr × Obj} {exta r : Led} : ∀ p ∈ i :: c :: a :: t :: x :: y :: d4 :: d3 :: l2 :: l1 :: (exta ++ r), p ∈ t :: x :: y :: (exta ++ i :: c :: a :: d4 :: d3 :: l2 :: l1 :: r) := by
  intro p hp
  simp only [List.mem_cons, List.mem_append] at hp ⊢
  grind
theorem perm8 {i c a t x y s d4 d3 l2 l1 : Addr × Obj} {extb exta r : Led} : ∀ p ∈ i :: c :: a :: t :: x :: y :: s :: d4 :: d3 :: l2 :: l1 :: (extb ++ (exta ++ r)), p ∈ t :: x :: y :: (extb ++ i :: c :: a :: s :: d4 :: d3 :: l2 :: l1 :: (exta ++ r)) := by
  intro p hp
  simp only [List.mem_cons, List.mem_append] at hp ⊢
  grind
theorem perm5 {t x y s d4 d3 l2 l1 : Addr × Obj} {extb r : Led} : ∀ p ∈ t :: x :: y :: s :: d4 :: d3 :: l2 :: l1 :: (extb ++ r), p ∈ t :: x :: y :: (extb ++ s :: d4 :: d3 :: l2 :: l1 :: r) := by
  intro p hp
  simp only [List.mem_cons, List.mem_append] at hp ⊢
  grind
theorem perm9 {d ta tb x y d4 d3 l2 l1 : Addr × Obj} {extb exta ext news : Led} : ∀ p ∈ d :: ta :: tb :: l2 :: l1 :: x :: y :: ((extb ++ (exta ++ ext)) ++ news), p ∈ d :: tb :: x :: y :: ta :: d4 :: d3 :: l2 :: l1 :: (extb ++ (exta ++ (ext ++ news))) := by
  intro p hp
  simp only [List.mem_cons, List.mem_append] at hp ⊢
  grind
theorem ext3 {extb exta ext T0 : Led} : extb ++ (exta ++ (ext ++ T0)) = (extb ++ (exta ++ ext)) ++ T0 := by simp [List.append_assoc]
theorem off1_mem {D : Addr} : ∀ {l : Led}, Off1 D l → ∀ z ∈ l, z.1 ≠ D
  | [], _, _, h => nomatch h
  | _ :: _, x, z, h => by
    rcases List.mem_cons.mp h with rfl | h
    · exact x.1
    · exact off1_mem x.2 z h
theorem str_snoc (wd : List Nat) (l : Nat) : ((⟨wd.toArray⟩ : PySem.Str) ++ ⟨#[l]⟩) = ⟨(wd ++ [l]).toArray⟩ := by
  refine Str.ext' ?_
  rw [PySem.Str.cps_append]
  simp
theorem isLetE {C : Nat → Prop} {c : Nat} (h : isLet c) (h0 : C 107) (h1 : C 114) (h2 : C 103) (h3 : C 98) : C c := by
  rcases h with rfl | rfl | rfl | rfl
  · exact h0
  · exact h1
  · exact h2
  · exact h3
theorem ints3E {C : List Value → Prop} {ys : List Value} {a b c : Int} (h : IntsAre ys [a, b, c]) (k : ∀ t u v, C [.int a t, .int b u, .int c v]) : C ys := by
  obtain ⟨t, u, v, rfl⟩ := ints3 h
  exact k t u v
section
variable {I Lc : Addr} {tn : Nat} {tt : Tok} {news : Led} {R : Int × Int × Int} {m : PySem.Str → Option Value} {nw : Led}
theorem LpP.turn {c : PySem.Str} {us : List PySem.Str} {C : PySem.Str → List PySem.Str → Led → Prop} (h : LpP I Lc tn tt news R (c :: us) m nw)
    (k : ∀ (c0 : Nat) (cs : List Nat) (wv : Int) (p : Int × Int × Int) (D : Addr) (cD : Nat) (u0 u1 u2 tw : Tok) (o : Obj), isLet c0 → (∀ c ∈ cs, isLet c) → o.data = .cell (some (.int wv tw)) → @LT.lt Nat _ Lc D → @Ne Nat D I → m (PySem.Str.ofString "turn") = some (.int tn tt) → m (PySem.Str.ofString "point") = some (.ref D) → ptF tn (c0 :: cs) wv p = R →
      ∀ j, wv.natAbs = 2 ^ j → j + (cs.length + 1) ≤ 60 → C ⟨#[c0]⟩ (cs.map (fun c => (⟨#[c]⟩ : PySem.Str))) ((D, lst3 p u0 u1 u2 cD) :: (Lc, o) :: news)) : C c us nw := by
  refine h (fun x nw => x = c :: us → C c us nw) (fun cs wv p D cD u0 u1 u2 tw o j hcs ho h1 h2 e1 e2 hR hj hj6 hus => ?_) rfl
  cases cs with
  | nil => cases hus
  | cons c0 cs =>
    cases hus
    exact k c0 cs wv p D cD u0 u1 u2 tw o (hcs c0 (.head _)) (fun c h => hcs c (.tail _ h)) ho h1 h2 e1 e2 hR j hj hj6
theorem LpP.done {C : Led → Prop} (h : LpP I Lc tn tt news R [] m nw)
    (k : ∀ (wv : Int) (p : Int × Int × Int) (D : Addr) (cD : Nat) (u0 u1 u2 tw : Tok) (o : Obj), o.data = .cell (some (.int wv tw)) → @LT.lt Nat _ Lc D → @Ne Nat D I → m (PySem.Str.ofString "turn") = some (.int tn tt) → m (PySem.Str.ofString "point") = some (.ref D) → ptF tn [] wv p = R →
      C ((D, lst3 p u0 u1 u2 cD) :: (Lc, o) :: news)) : C nw := by
  refine h (fun x nw => x = [] → C nw) (fun cs wv p D cD u0 u1 u2 tw o j hcs ho h1 h2 e1 e2 hR hj hj6 hus => ?_) rfl
  cases cs with
  | cons c0 cs => cases hus
  | nil => exact k wv p D cD u0 u1 u2 tw o ho h1 h2 e1 e2 hR
end
section
variable {fx : Led} {tn : Nat} {tt : Tok} {dr : Value} {R : Int × Int} {m : PySem.Str → Option Value} {nw : Led}
theorem TdP.turn {c : PySem.Str} {us : List PySem.Str} {C : PySem.Str → List PySem.Str → Led → Prop} (h : TdP fx tn tt dr R (c :: us) m nw)
    (k : ∀ (c0 : Nat) (cs : List Nat) (a b : Int) (ta tb : Tok), isLet c0 → (∀ c ∈ cs, isLet c) → m (PySem.Str.ofString "pairs") = some dr → m (PySem.Str.ofString "turn") = some (.int tn tt) → m (PySem.Str.ofString "a") = some (.int a ta) → m (PySem.Str.ofString "b") = some (.int b tb) → toldR (c0 :: cs) a b = R →
      C ⟨#[c0]⟩ (cs.map (fun c => (⟨#[c]⟩ : PySem.Str))) fx) : C c us nw := by
  refine h (fun x nw => x = c :: us → C c us nw) (fun cs a b ta tb hcs e1 e2 e3 e4 hR hus => ?_) rfl
  cases cs with
  | nil => cases hus
  | cons c0 cs =>
    cases hus
    exact k c0 cs a b ta tb (hcs c0 (.head _)) (fun c h => hcs c (.tail _ h)) e1 e2 e3 e4 hR
theorem TdP.done {C : Led → Prop} (h : TdP fx tn tt dr R [] m nw)
    (k : ∀ (a b : Int) (ta tb : Tok), m (PySem.Str.ofString "pairs") = some dr → m (PySem.Str.ofString "turn") = some (.int tn tt) → m (PySem.Str.ofString "a") = some (.int a ta) → m (PySem.Str.ofString "b") = some (.int b tb) → toldR [] a b = R → C fx) : C nw := by
  refine h (fun x nw => x = [] → C nw) (fun cs a b ta tb hcs e1 e2 e3 e4 hR hus => ?_) rfl
  cases cs with
  | cons c0 cs => cases hus
  | nil => exact k a b ta tb e1 e2 e3 e4 hR
end
noncomputable def RdX (T30 T37 : Obj → Led → Prop) (a30 a37 : Addr) (T0 news : Led) (ws : List Nat) (m : PySem.Str → Option Value) (nw : Led) : Prop :=
  ∀ C : Led → Prop, (∀ (tw : Tok) (o30 o37 : Obj) (ext : Led), m (PySem.Str.ofString "word") = some (.str ⟨ws.toArray⟩ tw) → T30 o30 (ext ++ T0) → T37 o37 (ext ++ T0) → (∀ q ∈ ext, ∀ z ∈ news, @LT.lt Nat _ z.1 q.1) → (∀ q ∈ ext, @LT.lt Nat _ a37 q.1) → C ((a30, o30) :: (a37, o37) :: (ext ++ news))) → C nw
theorem inf_k {k : Nat} (hk : k < 6) : ¬ Float64.isInf (Float64.ofInt (k : Int)) = true := by
  have hk6 : k = 0 ∨ k = 1 ∨ k = 2 ∨ k = 3 ∨ k = 4 ∨ k = 5 := by omega
  rcases hk6 with rfl | rfl | rfl | rfl | rfl | rfl <;> decide +kernel
noncomputable def bitF (m : Int) : UInt64 := if m = 0 then f0 else f1
section
variable {prog : PySem.Program} {w : World} {A : Around} {E : Value → Shared → Prop} {s : Shared} {h₀ : Heap} {L : Addr} {m : PySem.Str → Option Value} {news : Led} {Q : Value → Shared → Prop} {x y z : Int} {t u v : Tok}
theorem bit_max (hx : x = 0 ∨ x = 1) (hy : y = 0 ∨ y = 1) (hz : z = 0 ∨ z = 1) (hg : ¬ (x = y ∧ y = z)) : (if y > x then (if z > y then z else y) else (if z > x then z else x)) = 1 ∧ (if y < x then (if z < y then z else y) else (if z < x then z else x)) = 0 := by
  rcases hx with rfl | rfl <;> rcases hy with rfl | rfl <;> rcases hz with rfl | rfl <;> first | decide | exact absurd (by decide) hg
theorem max3N (hx : x = 0 ∨ x = 1) (hy : y = 0 ∨ y = 1) (hz : z = 0 ∨ z = 1) (hg : ¬ (x = y ∧ y = z)) (hh : A.handled = none) (F : Fr h₀ L s.heap m) (N : News h₀ L s.heap news)
    (h : ∀ h' tk t', Fr h₀ L h' m → News h₀ L h' news → Q (.int 1 t') { s with heap := h', toks := tk }) : wpAny (model prog w) A (call (.builtin "max") [.int x t, .int y u, .int z v]) Q E s :=
  max3 1 hh F N (bit_max hx hy hz hg).1 h
theorem min3N (hx : x = 0 ∨ x = 1) (hy : y = 0 ∨ y = 1) (hz : z = 0 ∨ z = 1) (hg : ¬ (x = y ∧ y = z)) (hh : A.handled = none) (F : Fr h₀ L s.heap m) (N : News h₀ L s.heap news)
    (h : ∀ h' tk t', Fr h₀ L h' m → News h₀ L h' news → Q (.int 0 t') { s with heap := h', toks := tk }) : wpAny (model prog w) A (call (.builtin "min") [.int x t, .int y u, .int z v]) Q E s :=
  min3 0 hh F N (bit_max hx hy hz hg).2 h
theorem my_divbit (hx : x = 0 ∨ x = 1) (h : ∀ t', Q (.float (bitF (1 - x)) t') { s with toks := s.toks + 1 }) : wpAny (model prog w) A (binaryOp .Div (.int (1 - x) t) (.int (1 - 0) u)) Q E s := by
  have e : Float64.isInf (Float64.ofFrac (decide (1 - x < 0) != decide ((1 : Int) - 0 < 0)) (1 - x).natAbs ((1 : Int) - 0).natAbs) = false ∧ Float64.ofFrac (decide (1 - x < 0) != decide ((1 : Int) - 0 < 0)) (1 - x).natAbs ((1 : Int) - 0).natAbs = bitF (1 - x) := by
    rcases hx with rfl | rfl <;> exact ⟨by decide +kernel, by decide +kernel⟩
  refine cl_divii (by decide) (by rw [e.1]; decide) ?_
  rw [e.2]
  exact h _
end
theorem isLet3 {c : Nat} (h : isLet c) (hk : c ≠ 107) : c = 114 ∨ c = 103 ∨ c = 98 := h.resolve_left hk
section
variable {prog : PySem.Program} {w : World} {A : Around} {E : Value → Shared → Prop} {s : Shared} {Q : Value → Shared → Prop} {t u : Tok} {c : Nat}
theorem my_findL (hc : c = 114 ∨ c = 103 ∨ c = 98) (h : ∀ t' k, Q (.int ((ixOf c : Nat) : Int) t') { s with toks := k }) : wpAny (model prog w) A (call (.builtin "str.find") [.str (PySem.Str.ofString "rgb") t, .str ⟨#[c]⟩ u]) Q E s := by
  refine PySem.SC.find ?_
  have e : (Txt.find (PySem.Str.ofString "rgb") ⟨#[c]⟩ : Int) = ((ixOf c : Nat) : Int) := by
    rcases hc with rfl | rfl | rfl <;> decide +kernel
  rw [e]
  exact h _ _
theorem my_neK (hk : c ≠ 107) (h : Q (.bool true) s) : wpAny (model prog w) A (compareOp .NotEq (.str ⟨#[c]⟩ t) (.str (PySem.Str.ofString "k") u)) Q E s := by
  refine ne_str ?_
  have e : ((⟨#[c]⟩ : PySem.Str) != PySem.Str.ofString "k") = true := by
    rw [show PySem.Str.ofString "k" = ⟨#[107]⟩ by decide +kernel]
    unfold bne
    rw [one_beq, decide_eq_false hk]
    rfl
  rw [e]
  exact h
end
theorem turn_cast (a tn : Nat) : (((a : Nat) : Int) * 2 + (tn : Int)).fmod 6 = (((a * 2 + tn) % 6 : Nat) : Int) := by
  rw [Int.fmod_eq_emod_of_nonneg _ (by decide)]
  simp
theorem fmod2 (x : Int) : x.fmod 2 = 0 ∨ x.fmod 2 = 1 := by
  rw [Int.fmod_eq_emod_of_nonneg _ (by decide)]; omega
theorem start_bd {p : Int × Int × Int} (h : p.1.natAbs ≤ 2 ^ 49 ∧ p.2.1.natAbs ≤ 2 ^ 49 ∧ p.2.2.natAbs ≤ 2 ^ 49) : p.1.natAbs + 12 ≤ 2 ^ 50 ∧ p.2.1.natAbs + 12 ≤ 2 ^ 50 ∧ p.2.2.natAbs + 12 ≤ 2 ^ 50 := by
  have k : ∀ x : Nat, x ≤ 2 ^ 49 → x + 12 ≤ 2 ^ 50 := fun x h => Nat.le_trans (Nat.add_le_add_right h 12) (by decide)
  exact ⟨k _ h.1, k _ h.2.1, k _ h.2.2⟩
section
variable {I Lc : Addr} {tn : Nat} {tt : Tok} {news : Led} {R : Int × Int × Int} {m : PySem.Str → Option Value} {wv : Int} {p : Int × Int × Int} {D : Addr} {cD : Nat} {u0 u1 u2 tw : Tok} {o : Obj} {j : Nat}
theorem LpP.mk (cs : List Nat) (h0 : ∀ c ∈ cs, isLet c) (ho : o.data = .cell (some (.int wv tw))) (h1 : @LT.lt Nat _ Lc D) (h2 : @Ne Nat D I) (e1 : m (PySem.Str.ofString "turn") = some (.int tn tt)) (e2 : m (PySem.Str.ofString "point") = some (.ref D)) (hR : ptF tn cs wv p = R) (hj : wv.natAbs = 2 ^ j) (hj6 : j + cs.length ≤ 60) :
    LpP I Lc tn tt news R (cs.map fun c => (⟨#[c]⟩ : PySem.Str)) m ((D, lst3 p u0 u1 u2 cD) :: (Lc, o) :: news) :=
  fun _ k => k cs wv p D cD u0 u1 u2 tw o j h0 ho h1 h2 e1 e2 hR hj hj6
theorem LpP.mkStep (cs : List Nat) (h0 : ∀ c ∈ cs, isLet c) (ho : o.data = .cell (some (.int (wv * -2) tw))) (h1 : @LT.lt Nat _ Lc D) (h2 : @Ne Nat D I) (e1 : m (PySem.Str.ofString "turn") = some (.int tn tt)) (e2 : m (PySem.Str.ofString "point") = some (.ref D)) (hR : ptF tn cs (wv * -2) p = R) (hj : wv.natAbs = 2 ^ j) (hj6 : j + (cs.length + 1) ≤ 60) :
    LpP I Lc tn tt news R (cs.map fun c => (⟨#[c]⟩ : PySem.Str)) m ((D, lst3 p u0 u1 u2 cD) :: (Lc, o) :: news) :=
  let ⟨j', a, b⟩ := two_step hj hj6
  fun _ k => k cs (wv * -2) p D cD u0 u1 u2 tw o j' h0 ho h1 h2 e1 e2 hR a b
end
theorem TdP.mk {fx : Led} {tn : Nat} {tt : Tok} {dr : Value} {R : Int × Int} {m : PySem.Str → Option Value} {a b : Int} {ta tb : Tok} (cs : List Nat) (h0 : ∀ c ∈ cs, isLet c) (e1 : m (PySem.Str.ofString "pairs") = some dr) (e2 : m (PySem.Str.ofString "turn") = some (.int tn tt)) (e3 : m (PySem.Str.ofString "a") = some (.int a ta)) (e4 : m (PySem.Str.ofString "b") = some (.int b tb)) (hR : toldR cs a b = R) :
    TdP fx tn tt dr R (cs.map fun c => (⟨#[c]⟩ : PySem.Str)) m fx := fun _ k => k cs a b ta tb h0 e1 e2 e3 e4 hR
theorem RdP.mk {L1 : Addr} {T30 T37 : Obj → Led → Prop} {a30 a37 : Addr} {T0 news : Led} {ws : List Nat} {n : Nat} {m : PySem.Str → Option Value} {D : Addr} {c : Nat} {u0 u1 u2 tw : Tok} {oL oP o30 o37 : Obj} {ext : Led} {lv : Option Value} (p : Int × Int × Int) (r wd : List Nat) (h1 : readF n p = some r) (h2 : wd ++ r = ws) (h3 : wd.length + n = 12) (h4 : p.1.natAbs + n ≤ 2 ^ 50 ∧ p.2.1.natAbs + n ≤ 2 ^ 50 ∧ p.2.2.natAbs + n ≤ 2 ^ 50)
    (h5 : oP.data = .cell (some (.ref D))) (h6 : oL.data = .cell lv) (h7 : T30 o30 (ext ++ T0)) (h8 : T37 o37 (ext ++ T0)) (h9 : ∀ q ∈ ext, (∀ z ∈ news, @LT.lt Nat _ z.1 q.1) ∧ @LT.lt Nat _ (L1 + 1 + 1) q.1) (h10 : @Ne Nat D (L1 + 1 + 1)) (h11 : @Ne Nat D (L1 + 1)) (h12 : @LT.lt Nat _ a37 D) (h13 : @LT.lt Nat _ a30 D) (e1 : m (PySem.Str.ofString "word") = some (.str ⟨wd.toArray⟩ tw)) :
    RdP L1 T30 T37 a30 a37 T0 news ws n m ((D, lst3 p u0 u1 u2 c) :: (L1 + 1 + 1, oL) :: (L1 + 1, oP) :: (a30, o30) :: (a37, o37) :: (ext ++ news)) :=
  fun _ k => k p r wd D c u0 u1 u2 tw oL oP o30 o37 ext lv h1 h2 h3 h4 h5 h6 h7 h8 h9 h10 h11 h12 h13 e1
end Mine
end
section
open PySem PySem.W PyProof.Rows PySem.Calls PySem.Spec PyProof.Rows.LCg
namespace Mine
theorem mod6 (x : Int) (t : Tok) : ∃ (k : Nat) (t' : Tok), Value.int (x.fmod 6) t = .int k t' ∧ k < 6 := by
  refine ⟨(x.fmod 6).toNat, t, ?_, ?_⟩ <;> rw [Int.fmod_eq_emod_of_nonneg _ (by decide)]
  · rw [Int.toNat_of_nonneg (Int.emod_nonneg _ (by decide))]
  · omega
theorem mod6W {G : Value → Prop} (h : ∀ (k : Nat) (t : Tok), k < 6 → G (.int k t)) (x : Int) (t : Tok) : G (.int (x.fmod 6) t) := by
  obtain ⟨k, t', e, hk⟩ := mod6 x t
  rw [e]
  exact h k t' hk
theorem mod1024 (x : Int) : ∃ k : Nat, k < 1024 ∧ x.fmod 1024 = (k : Int) := by
  refine ⟨(x.fmod 1024).toNat, ?_, ?_⟩ <;> rw [Int.fmod_eq_emod_of_nonneg _ (by decide)]
  · omega
  · rw [Int.toNat_of_nonneg (Int.emod_nonneg _ (by decide))]
/-- figures to the base 4 that a number takes -/
noncomputable def figs (x : Nat) : Nat := (Builtin.Int.intBits (x : Int) + 1) / 2
theorem figs_eq (x : Nat) : ((Builtin.Int.intBits (x : Int) : Int) + (2 : Nat) - 1).fdiv (2 : Nat) = (figs x : Int) := by
  rw [Int.fdiv_eq_ediv_of_nonneg _ (by decide)]
  unfold figs
  omega
theorem figs_le {x : Nat} (h : x < 1024) : figs x ≤ 5 := by
  have h1 : Builtin.Int.intBits (x : Int) ≤ 10 := intBits_le_iff.mpr (by omega)
  unfold figs
  omega
theorem figs_lt (x : Nat) : x < 4 ^ figs x := by
  have h1 := (intBits_le_iff (m := Builtin.Int.intBits (x : Int)) (x := (x : Int))).mp (Nat.le_refl _)
  have h2 : (4 : Nat) ^ figs x = 2 ^ (2 * figs x) := by rw [Nat.pow_mul]
  rw [h2]
  refine Nat.lt_of_lt_of_le (by simpa using h1) (Nat.pow_le_pow_right (by decide) ?_)
  unfold figs
  omega
noncomputable def figL (f : Nat) : Nat := if f = 0 then 107 else if f = 1 then 114 else if f = 2 then 103 else 98
noncomputable def wordF (x : Nat) : List Nat := (digsN 4 (figs x) x).map figL
theorem isLet_figL (f : Nat) : isLet (figL f) := by
  unfold figL isLet
  split
  · simp
  split
  · simp
  split <;> simp
theorem wordF_let (x : Nat) : ∀ c ∈ wordF x, isLet c := by
  intro c hc
  obtain ⟨f, _, rfl⟩ := List.mem_map.mp hc
  exact isLet_figL f
theorem wordF_len {x : Nat} (h : x < 1024) : (wordF x).length ≤ 5 := by
  unfold wordF
  rw [List.length_map, digsN_length]
  exact figs_le h
theorem digs4 (x : Nat) : ∀ k ∈ digs (2 ^ 2) (figs x) x, k = 0 ∨ k = 1 ∨ k = 2 ∨ k = 3 := by
  intro k hk
  rw [digs_cast] at hk
  obtain ⟨d, hd, rfl⟩ := List.mem_map.mp hk
  have := digsN_lt (B := 2 ^ 2) (by decide) (figs x) x (figs_lt x) d hd
  omega
noncomputable abbrev figS (k : Int) : PySem.Str := ⟨#[figL k.toNat]⟩
theorem join_one_list : ∀ l : List Int, (PySem.Str.join (PySem.Str.ofString "") (l.map figS)).cps.toList = l.map fun k => figL k.toNat
  | [] => rfl
  | [a] => rfl
  | a :: b :: r => by
    have h := join_one_list (b :: r)
    rw [List.map_cons, join_list2 _ _ _ (by simp), h]
    rfl
theorem join_word (x : Nat) : (Txt.join (PySem.Str.ofString "") ((digs (2 ^ 2) (figs x) x).map figS)).cps.toList = wordF x := by
  show (PySem.Builtin.Str.glued _ _).cps.toList = _
  rw [StrLaws.glued_eq_join, join_one_list, digs_cast, List.map_map]
  rfl
theorem ne_two {prog : PySem.Program} {w : World} {A : Around} {E : Value → Shared → Prop} {s : Shared} {h₀ : Heap} {L : Addr} {nw : Led} {Q : Value → Shared → Prop} {a b : Addr} {x0 x1 y0 y1 : Int} {t0 t1 u0 u1 : Tok} {c d : Nat}
    (N : News h₀ L s.heap nw) (ha : (a, W.listOf [Value.int x0 t0, .int x1 t1].toArray c) ∈ nw) (hb : (b, W.listOf [Value.int y0 u0, .int y1 u1].toArray d) ∈ nw)
    (e0 : x0 = y0) (e1 : x1 = y1) (hu : A.units + 64 < cLine) (h : Q (.bool false) s) : wpAny (model prog w) A (compareOp .NotEq (.ref a) (.ref b)) Q E s := by
  subst e0 e1
  refine ke_ne_ints (xs := [Value.int x0 t0, .int x1 t1]) (ys := [Value.int x0 u0, .int x1 u1]) (ns := [x0, x1]) (ms := [x0, x1]) ⟨_, (N _ ha).1, rfl, _, rfl⟩ ⟨_, (N _ hb).1, rfl, _, rfl⟩ (.cons _ _ (.cons _ _ .nil)) (.cons _ _ (.cons _ _ .nil)) hu ?_
  rw [decide_eq_true rfl]
  exact h
theorem my_ne_same {prog : PySem.Program} {w : World} {A : Around} {E : Value → Shared → Prop} {s : Shared} {Q : Value → Shared → Prop} {x : PySem.Str} {t u : Tok} (h : Q (.bool false) s) : wpAny (model prog w) A (compareOp .NotEq (.str x t) (.str x u)) Q E s := by
  refine ne_str ?_
  rw [bne_self_eq_false]
  exact h
theorem my_eq_same {prog : PySem.Program} {w : World} {A : Around} {E : Value → Shared → Prop} {s : Shared} {Q : Value → Shared → Prop} {x : PySem.Str} {t u : Tok} (h : Q (.bool true) s) : wpAny (model prog w) A (compareOp .Eq (.str x t) (.str x u)) Q E s := by
  refine eq_str ?_
  rw [beq_self_eq_true]
  exact h
theorem neg_mod6 {tn : Nat} (h : tn < 6) : (-(tn : Int)).fmod 6 = (((6 - tn) % 6 : Nat) : Int) := by
  rw [Int.fmod_eq_emod_of_nonneg _ (by decide)]
  omega
theorem str_of_cps {W : PySem.Str} {l : List Nat} (h : W.cps.toList = l) : W = ⟨l.toArray⟩ := by
  subst h
  rfl
theorem permA {a b c d : Addr × Obj} {ext : Led} : ∀ p ∈ a :: b :: ext, p ∈ c :: d :: a :: (ext ++ [b]) := by
  intro p hp
  simp only [List.mem_cons, List.mem_append, List.not_mem_nil, or_false] at hp ⊢
  grind
end Mine
end
section
open PySem PySem.W PyProof.Rows PySem.Calls PySem.Spec PyProof.Rows.LCg
namespace Mine
section
variable {prog : PySem.Program} {w : World} {A : Around} {h₀ : Heap} {L : Addr} {m : PySem.Str → Option Value} {env : Env} {elt : PySem.Expr} {nm : PySem.Str} {scope : Scope} {cl : List (PySem.Str × Addr)} {s : Shared} {Fin : List Value → Led → Prop} {news : Led}
theorem ints_snoc {y : Int} {t : Tok} : ∀ {vs : List Value} {ys : List Int}, IntsAre vs ys → IntsAre (vs ++ [.int y t]) (ys ++ [y])
  | _, _, .nil => .cons y t .nil
  | _, _, .cons z u r => .cons z u (ints_snoc r)
/-- a comprehension over a text, each sign told as a number -/
theorem text_ints (x : PySem.Str) (g : Nat → Int)
    (turn : ∀ c t I oI C oC D m₂ ys h tk (E' : Value → Shared → Prop), c ∈ x.cps.toList → LCg.NsObj oC m₂ → m₂ nm = some (.str ⟨#[c]⟩ t) → Fr h₀ L h m → News h₀ L h ((I, oI) :: (C, oC) :: (D, LCg.lst ys) :: news) → LCg.Off3 I C D news → ((@Ne Nat I C) ∧ (@Ne Nat I D) ∧ (@Ne Nat C D)) →
      wpAny (model prog w) A (eval elt (compEnvC scope cl C env)) (LCg.CompEnd h₀ L m { s with heap := h, toks := tk } I oI C oC D (LCg.lst ys) (fun _ => True) (fun y news' => news' = news ∧ ∃ t, y = .int (g c) t)) E' { s with heap := h, toks := tk })
    (fin : ∀ ys, IntsAre ys (x.cps.toList.map g) → Fin ys news) : LCg.CompRest prog w A h₀ L m env elt nm scope cl s (fun _ => True) (SignAt x) Fin x.cps.size 0 [] news := by
  have key : ∀ (j i : Nat) (ys : List Value), i + j = x.cps.size → IntsAre ys ((x.cps.toList.take i).map g) → LCg.CompRest prog w A h₀ L m env elt nm scope cl s (fun _ => True) (SignAt x) Fin j i ys news := by
    intro j
    induction j with
    | zero =>
      intro i ys hi hy
      have e : i = x.cps.toList.length := by simpa using hi
      subst e
      rw [List.take_length] at hy
      exact LCg.CompRest.zero (fin ys hy)
    | succ j ih =>
      intro i ys hi hy
      refine LCg.CompRest.succ ?_
      intro v I oI C oC D m₂ h tk E' hv hC hx F N off ne
      obtain ⟨c, t, hc, rfl⟩ := hv
      have hc' : x.cps.toList[i]? = some c := by simpa using hc
      refine wpAny_mono (turn c t I oI C oC D m₂ ys h tk E' (List.mem_of_getElem? hc') hC hx F N off ne) (fun y s₂ hq => ?_) fun _ _ e => e
      obtain ⟨h', tk', nw, e, F', N', off', hS, hn, t', hy'⟩ := hq
      rw [hn] at N' off'
      refine ⟨h', tk', news, e, F', N', off', hS, ?_⟩
      rw [hy']
      refine ih (i + 1) _ (by omega) ?_
      rw [List.take_add_one, hc']
      simpa using ints_snoc hy
  exact key x.cps.size 0 [] (by omega) (by simp only [List.take_zero, List.map_nil]; exact .nil)
end
noncomputable def letZ (c : Nat) : Int := if c = 107 then 0 else if c = 114 then 1 else if c = 103 then 2 else 3
theorem back_figs {x : Nat} : (wordF x).map letZ = castL (digsN 4 (figs x) x) := by
  unfold wordF
  rw [List.map_map]
  refine List.map_congr_left fun d hd => ?_
  have h : d < 4 := digsN_lt (B := 4) (by decide) (figs x) x (figs_lt x) d hd
  have h4 : d = 0 ∨ d = 1 ∨ d = 2 ∨ d = 3 := by omega
  rcases h4 with rfl | rfl | rfl | rfl <;> rfl
theorem figs_zero {x : Nat} (h : figs x = 0) : x = 0 := by
  have := figs_lt x
  rw [h] at this
  omega
theorem val_back (x : Nat) : valN (2 ^ 2) (digsN 4 (figs x) x) = x := valN_digsN (B := 4) _ _ figs_zero
theorem tab_grown {a b : Int} {c : PySem.Str} {o : Obj} {T news : Led} {h₀ h : Heap} {L P : Addr} (hT : TabIs a b c o T) (N : News h₀ L h news) (hm : (P, o) ∈ news) : GrownAt P h := by
  rcases hT with rfl | ⟨_, _, _, _, rfl, _⟩ <;> exact GrownAt.of N hm
end Mine
end
section
open PySem PySem.W PyProof.Rows PySem.Calls PySem.Spec PyProof.Rows.LCg
namespace Mine
noncomputable def rotW (rd : List Nat) : List Nat := replL [120] [114] (replL [114] [103] (replL [103] [98] (replL [98] [120] rd 0) 0) 0) 0
noncomputable def small3 (p : Int × Int × Int) : Prop := p.1.natAbs ≤ 2 ^ 49 ∧ p.2.1.natAbs ≤ 2 ^ 49 ∧ p.2.2.natAbs ≤ 2 ^ 49
structure Plain (x tn : Nat) (rd : List Nat) : Prop where
  r1 : readF 12 (ptF tn (wordF x) 1 (0, 0, 0)) = some rd
  s1 : small3 (ptF tn (wordF x) 1 (0, 0, 0))
  p0 : (ptF tn (wordF x) 1 (0, 0, 0)).1 - (ptF tn (wordF x) 1 (0, 0, 0)).2.2 = (toldF (wordF x) tn).1
  p1 : (ptF tn (wordF x) 1 (0, 0, 0)).2.1 - (ptF tn (wordF x) 1 (0, 0, 0)).2.2 = (toldF (wordF x) tn).2
  t1 : toldF rd 0 = toldF (wordF x) tn
  r2 : readF 12 (ptF (tn + 2) (wordF x) 1 (0, 0, 0)) = some (rotW rd)
  s2 : small3 (ptF (tn + 2) (wordF x) 1 (0, 0, 0))
  r3 : readF 12 (ptF ((6 - tn) % 6) rd 1 (0, 0, 0)) = some (wordF x)
  s3 : small3 (ptF ((6 - tn) % 6) rd 1 (0, 0, 0))
  lt : ∀ c ∈ rd, isLet c
  ln : rd.length ≤ 12
/-- what a word tells, lowest place first -/
noncomputable def valW : List Nat → Int × Int
  | [] => (0, 0)
  | c :: r => ((pairOf c).1 - 2 * (valW r).1, (pairOf c).2 - 2 * (valW r).2)
theorem toldR_app : ∀ (u : List Nat) (c : Nat) (a b : Int), toldR (u ++ [c]) a b = ((pairOf c).1 - 2 * (toldR u a b).1, (pairOf c).2 - 2 * (toldR u a b).2)
  | [], _, _, _ => rfl
  | d :: u, c, a, b => by rw [List.cons_append, toldR, toldR, toldR_app u c]
theorem toldR_val : ∀ w : List Nat, toldR w.reverse 0 0 = valW w
  | [] => rfl
  | c :: r => by rw [List.reverse_cons, toldR_app, toldR_val r, valW]
noncomputable def turnP (n : Nat) (q : Int × Int) : Int × Int := turnsF n q.1 q.2
theorem told_val (w : List Nat) (tn : Nat) : toldF w tn = turnP tn (valW w) := by
  unfold toldF turnP
  rw [toldR_val]
noncomputable def P2 (p : Int × Int × Int) : Int × Int := (p.1 - p.2.2, p.2.1 - p.2.2)
theorem corner_turn {c tn : Nat} (hc : isLet c) (hk : c ≠ 107) (ht : tn < 8) : P2 (cornerI ((ixOf c * 2 + tn) % 6)) = turnP tn (pairOf c) := by
  rcases hc with rfl | rfl | rfl | rfl
  · exact absurd rfl hk
  all_goals
    have h8 : tn = 0 ∨ tn = 1 ∨ tn = 2 ∨ tn = 3 ∨ tn = 4 ∨ tn = 5 ∨ tn = 6 ∨ tn = 7 := by omega
    rcases h8 with rfl | rfl | rfl | rfl | rfl | rfl | rfl | rfl <;> decide
theorem turnP_lin (n : Nat) : ∀ (a b c d : Int), turnP n (a - 2 * c, b - 2 * d) = ((turnP n (a, b)).1 - 2 * (turnP n (c, d)).1, (turnP n (a, b)).2 - 2 * (turnP n (c, d)).2) := by
  unfold turnP
  induction n with
  | zero => intros; rfl
  | succ n ih =>
    intro a b c d
    simp only [turnsF]
    have h := ih (a - b) a (c - d) c
    simp only at h
    rw [← h]
    congr 1
    omega
theorem turnP_zero : ∀ n, turnP n (0, 0) = (0, 0)
  | 0 => rfl
  | n + 1 => turnP_zero n
theorem pt_val (tn : Nat) (ht : tn < 8) : ∀ (w : List Nat) (wt : Int) (p : Int × Int × Int), (∀ c ∈ w, isLet c) →
    P2 (ptF tn w wt p) = ((P2 p).1 + wt * (turnP tn (valW w)).1, (P2 p).2 + wt * (turnP tn (valW w)).2)
  | [], wt, p, _ => by simp [ptF, valW, turnP_zero]
  | c :: r, wt, p, h => by
    have hc := h c (.head _)
    rw [ptF, pt_val tn ht r _ _ (fun c hc => h c (.tail _ hc)), valW, turnP_lin, show turnP tn ((valW r).1, (valW r).2) = turnP tn (valW r) from rfl]
    have e1 : ∀ x : Int, wt * -2 * x = wt * (-2 * x) := fun x => Int.mul_assoc _ _ _
    by_cases hk : c = 107
    · subst hk
      rw [if_pos rfl]
      have e0 : turnP tn ((pairOf 107).1, (pairOf 107).2) = (0, 0) := turnP_zero tn
      rw [e0, e1, e1]
      congr 2
      · congr 1; show _ = 0 - _; omega
      · congr 1; show _ = 0 - _; omega
    · rw [if_neg hk]
      have hq := corner_turn hc hk ht
      generalize cornerI ((ixOf c * 2 + tn) % 6) = q at hq
      rw [show ((pairOf c).1, (pairOf c).2) = pairOf c from rfl, ← hq]
      unfold P2
      dsimp only
      simp only [Int.mul_sub, e1]
      generalize turnP tn (valW r) = z at *
      congr 1
      · have : wt * (2 * z.1) = - (wt * (-2 * z.1)) := by rw [← Int.mul_neg]; congr 1; omega
        rw [this]; omega
      · have : wt * (2 * z.2) = - (wt * (-2 * z.2)) := by rw [← Int.mul_neg]; congr 1; omega
        rw [this]; omega
noncomputable def letP (a b : Int) : Nat := if a % 2 = 0 then (if b % 2 = 0 then 107 else 103) else (if b % 2 = 0 then 114 else 98)
noncomputable def stepP (a b : Int) : Int × Int := ((a - (pairOf (letP a b)).1).fdiv (-2), (b - (pairOf (letP a b)).2).fdiv (-2))
noncomputable def readP : Nat → Int → Int → Option (List Nat)
  | 0, a, b => if a = 0 ∧ b = 0 then some [] else none
  | n + 1, a, b => if a = 0 ∧ b = 0 then some [] else (readP n (stepP a b).1 (stepP a b).2).map (letP a b :: ·)
theorem lett_P (p : Int × Int × Int) : lett p = letP (P2 p).1 (P2 p).2 := by
  unfold lett
  obtain ⟨x, y, z⟩ := p
  unfold P2 letP
  dsimp only
  have hx : x.fmod 2 = x % 2 := Int.fmod_eq_emod_of_nonneg _ (by decide)
  have hy : y.fmod 2 = y % 2 := Int.fmod_eq_emod_of_nonneg _ (by decide)
  have hz : z.fmod 2 = z % 2 := Int.fmod_eq_emod_of_nonneg _ (by decide)
  have cx : x % 2 = 0 ∨ x % 2 = 1 := by omega
  have cy : y % 2 = 0 ∨ y % 2 = 1 := by omega
  have cz : z % 2 = 0 ∨ z % 2 = 1 := by omega
  rw [hx, hy, hz]
  have ea : (x - z) % 2 = (x % 2 - z % 2) % 2 := Int.sub_emod ..
  have eb : (y - z) % 2 = (y % 2 - z % 2) % 2 := Int.sub_emod ..
  rw [ea, eb]
  rcases cx with cx | cx <;> rcases cy with cy | cy <;> rcases cz with cz | cz <;> rw [cx, cy, cz] <;> decide
theorem letP_let (a b : Int) : isLet (letP a b) := by
  unfold letP isLet
  repeat' split
  all_goals simp
theorem off_P (p : Int × Int × Int) (l : Nat) (hl : isLet l) : (off p l).1 - (off p l).2.2 = (P2 p).1 - (pairOf l).1 ∧ (off p l).2.1 - (off p l).2.2 = (P2 p).2 - (pairOf l).2 := by
  obtain ⟨x, y, z⟩ := p
  rcases hl with rfl | rfl | rfl | rfl <;> simp [off, P2, pairOf] <;> omega
theorem d_P (p : Int × Int × Int) : d0F p = (P2 p).1 - (pairOf (letP (P2 p).1 (P2 p).2)).1 ∧ d1F p = (P2 p).2 - (pairOf (letP (P2 p).1 (P2 p).2)).2 := by
  unfold d0F d1F
  rw [lett_P]
  exact off_P p _ (letP_let _ _)
theorem step_even (a b : Int) : (a - (pairOf (letP a b)).1) = -2 * (stepP a b).1 ∧ (b - (pairOf (letP a b)).2) = -2 * (stepP a b).2 := by
  have key : (a - (pairOf (letP a b)).1) % 2 = 0 ∧ (b - (pairOf (letP a b)).2) % 2 = 0 := by
    unfold letP
    repeat' split
    all_goals (simp only [pairOf]; simp; omega)
  unfold stepP
  dsimp only
  have e (x : Int) (h : x % 2 = 0) : x = -2 * x.fdiv (-2) := by
    have h1 := Int.fmod_add_mul_fdiv x (-2)
    have h2 : x.fmod (-2) = 0 := Int.fmod_eq_zero_of_dvd (Int.neg_dvd.mpr (Int.dvd_of_emod_eq_zero h))
    omega
  exact ⟨e _ key.1, e _ key.2⟩
theorem read_P : ∀ (n : Nat) (p : Int × Int × Int), readF n p = readP n (P2 p).1 (P2 p).2
  | 0, p => by
    rw [readF, readP]
    by_cases h : (P2 p).1 = 0 ∧ (P2 p).2 = 0
    · rw [if_pos h, if_pos (by unfold P2 at h; dsimp only at h; omega)]
    · rw [if_neg h, if_neg (by unfold P2 at h; dsimp only at h; omega)]
  | n + 1, p => by
    rw [readF, readP]
    by_cases hz : (P2 p).1 = 0 ∧ (P2 p).2 = 0
    · rw [if_pos hz, if_pos (by unfold P2 at hz; dsimp only at hz; omega)]
    rw [if_neg hz, if_neg (by unfold P2 at hz; dsimp only at hz; omega)]
    have h := step_even (P2 p).1 (P2 p).2
    rw [← (d_P p).1, ← (d_P p).2] at h
    rw [if_pos ⟨Int.fmod_eq_zero_of_dvd ⟨_, h.1⟩, Int.fmod_eq_zero_of_dvd ⟨_, h.2⟩⟩, read_P n, lett_P]
    have e1 : (P2 ((d0F p).fdiv (-2), (d1F p).fdiv (-2), 0)).1 = (stepP (P2 p).1 (P2 p).2).1 := by
      show (d0F p).fdiv (-2) - 0 = (stepP _ _).1
      rw [(d_P p).1, Int.sub_zero]; rfl
    have e2 : (P2 ((d0F p).fdiv (-2), (d1F p).fdiv (-2), 0)).2 = (stepP (P2 p).1 (P2 p).2).2 := by
      show (d1F p).fdiv (-2) - 0 = (stepP _ _).2
      rw [(d_P p).2, Int.sub_zero]; rfl
    rw [e1, e2]
theorem readP_spec : ∀ (n : Nat) (a b : Int) (rd : List Nat), readP n a b = some rd → valW rd = (a, b) ∧ (∀ c ∈ rd, isLet c) ∧ rd.length ≤ n
  | 0, a, b, rd, h => by
    rw [readP] at h
    split at h
    · next z => cases h; exact ⟨by rw [z.1, z.2]; rfl, (fun _ h => nomatch h), Nat.le_refl _⟩
    · cases h
  | n + 1, a, b, rd, h => by
    rw [readP] at h
    split at h
    · next z => cases h; exact ⟨by rw [z.1, z.2]; rfl, (fun _ h => nomatch h), Nat.zero_le _⟩
    · obtain ⟨r, hr, rfl⟩ := Option.map_eq_some_iff.mp h
      obtain ⟨i1, i2, i3⟩ := readP_spec n _ _ r hr
      have e := step_even a b
      refine ⟨?_, fun c hc => ?_, by simp; exact i3⟩
      · rw [valW, i1]
        exact Prod.ext (by dsimp only; omega) (by dsimp only; omega)
      · rcases List.mem_cons.mp hc with rfl | hc
        · exact letP_let _ _
        · exact i2 c hc
/-- no black letter stands last -/
noncomputable def noK : List Nat → Prop
  | [] => True
  | [c] => c ≠ 107
  | _ :: d :: r => noK (d :: r)
theorem letP_pair {c : Nat} (hc : isLet c) (x y : Int) : letP ((pairOf c).1 - 2 * x) ((pairOf c).2 - 2 * y) = c := by
  rcases hc with rfl | rfl | rfl | rfl <;> simp [pairOf, letP] <;> omega
theorem stepP_pair {c : Nat} (hc : isLet c) (x y : Int) : stepP ((pairOf c).1 - 2 * x) ((pairOf c).2 - 2 * y) = (x, y) := by
  have h := step_even ((pairOf c).1 - 2 * x) ((pairOf c).2 - 2 * y)
  rw [letP_pair hc] at h
  exact Prod.ext (by dsimp only; omega) (by dsimp only; omega)
theorem val_zero : ∀ w : List Nat, (∀ c ∈ w, isLet c) → noK w → valW w = (0, 0) → w = []
  | [], _, _, _ => rfl
  | [c], hl, hk, h => by
    exfalso
    rw [valW] at h
    injection h with h1 h2
    rcases hl c (.head _) with rfl | rfl | rfl | rfl <;> simp [pairOf, valW, noK] at h1 h2 hk
  | c :: d :: r, hl, hk, h => by
    exfalso
    have hc := hl c (.head _)
    have hz : valW (d :: r) = (0, 0) := by
      have s := stepP_pair hc (valW (d :: r)).1 (valW (d :: r)).2
      rw [valW] at h
      injection h with h1 h2
      have e := letP_pair hc (valW (d :: r)).1 (valW (d :: r)).2
      rw [h1, h2] at s
      rw [show stepP 0 0 = (0, 0) by decide] at s
      exact s.symm
    exact absurd (val_zero (d :: r) (fun c hc => hl c (.tail _ hc)) hk hz) (List.cons_ne_nil _ _)
theorem noK_tail {c : Nat} : ∀ {w : List Nat}, noK (c :: w) → noK w
  | [], _ => True.intro
  | _ :: _, h => h
theorem readP_val : ∀ (n : Nat) (w : List Nat), (∀ c ∈ w, isLet c) → noK w → w.length ≤ n → readP n (valW w).1 (valW w).2 = some w
  | 0, [], _, _, _ => rfl
  | 0, _ :: _, _, _, h => by simp at h
  | _ + 1, [], _, _, _ => rfl
  | n + 1, c :: r, hl, hk, h => by
    have hc := hl c (.head _)
    have hn : ¬((valW (c :: r)).1 = 0 ∧ (valW (c :: r)).2 = 0) := fun z => absurd (val_zero (c :: r) hl hk (Prod.ext z.1 z.2)) (List.cons_ne_nil _ _)
    rw [readP, if_neg hn]
    have e1 : stepP (valW (c :: r)).1 (valW (c :: r)).2 = valW r := stepP_pair hc _ _
    have e2 : letP (valW (c :: r)).1 (valW (c :: r)).2 = c := letP_pair hc _ _
    rw [e1, e2, readP_val n r (fun c hc => hl c (.tail _ hc)) (noK_tail hk) (by simpa using h)]
    rfl
theorem half_le {M : Nat} {a p x : Int} (e : a - p = -2 * x) (ha : a.natAbs ≤ 2 * M) (hp : p.natAbs ≤ 1) : x.natAbs ≤ M := by
  have h := Nat.le_trans (Int.natAbs_sub_le a p) (Nat.add_le_add ha hp)
  rw [e, Int.natAbs_mul] at h
  have h : 2 * x.natAbs ≤ 2 * M + 1 := h
  clear e ha hp
  omega
theorem pair_small {c : Nat} (hc : isLet c) : (pairOf c).1.natAbs ≤ 1 ∧ (pairOf c).2.natAbs ≤ 1 := by
  rcases hc with rfl | rfl | rfl | rfl <;> decide
theorem step_small (M : Nat) (a b : Int) (ha : a.natAbs ≤ 2 * M) (hb : b.natAbs ≤ 2 * M) : (stepP a b).1.natAbs ≤ M ∧ (stepP a b).2.natAbs ≤ M :=
  ⟨half_le (step_even a b).1 ha (pair_small (letP_let a b)).1, half_le (step_even a b).2 hb (pair_small (letP_let a b)).2⟩
theorem readP_some0 (a b : Int) (ha : a.natAbs ≤ 1) (hb : b.natAbs ≤ 1) : ∃ r, readP 6 a b = some r := by
  have ca : a = -1 ∨ a = 0 ∨ a = 1 := by omega
  have cb : b = -1 ∨ b = 0 ∨ b = 1 := by omega
  refine Option.isSome_iff_exists.mp ?_
  rcases ca with rfl | rfl | rfl <;> rcases cb with rfl | rfl | rfl <;> decide +kernel
theorem readP_some : ∀ (k : Nat) (a b : Int), a.natAbs ≤ 2 ^ k → b.natAbs ≤ 2 ^ k → ∃ r, readP (k + 6) a b = some r
  | 0, a, b, ha, hb => readP_some0 a b ha hb
  | k + 1, a, b, ha, hb => by
    have hs := step_small (2 ^ k) a b (by rw [Nat.pow_succ] at ha; omega) (by rw [Nat.pow_succ] at hb; omega)
    obtain ⟨r, hr⟩ := readP_some k _ _ hs.1 hs.2
    rw [show k + 1 + 6 = (k + 6) + 1 by omega, readP]
    split
    · exact ⟨_, rfl⟩
    · rw [hr]; exact ⟨_, rfl⟩
theorem val_one {p v : Int} {X : Nat} (hp : p.natAbs ≤ 1) (hv : v.natAbs + 1 ≤ X) : (p - 2 * v).natAbs + 1 ≤ X * 2 := by
  have h := Int.natAbs_sub_le p (2 * v)
  rw [Int.natAbs_mul] at h
  have h : (p - 2 * v).natAbs ≤ p.natAbs + 2 * v.natAbs := h
  omega
theorem val_small : ∀ w : List Nat, (∀ c ∈ w, isLet c) → (valW w).1.natAbs + 1 ≤ 2 ^ w.length ∧ (valW w).2.natAbs + 1 ≤ 2 ^ w.length
  | [], _ => ⟨Nat.le_refl _, Nat.le_refl _⟩
  | c :: r, h => by
    have i := val_small r (fun c hc => h c (.tail _ hc))
    have hp := pair_small (h c (.head _))
    rw [List.length_cons, Nat.pow_succ, valW]
    exact ⟨val_one hp.1 i.1, val_one hp.2 i.2⟩
theorem turn_small0 {M : Nat} : ∀ (n : Nat) (a b : Int), a.natAbs ≤ M → b.natAbs ≤ M → (turnsF n a b).1.natAbs ≤ M + M ∧ (turnsF n a b).2.natAbs ≤ M + M
  | 0, _, _, ha, hb => ⟨Nat.le_trans ha (Nat.le_add_left _ _), Nat.le_trans hb (Nat.le_add_left _ _)⟩
  | 1, a, b, ha, hb => ⟨Nat.le_trans (Int.natAbs_sub_le a b) (Nat.add_le_add ha hb), Nat.le_trans ha (Nat.le_add_left _ _)⟩
  | 2, a, b, ha, hb => by
    refine ⟨?_, Nat.le_trans (Int.natAbs_sub_le a b) (Nat.add_le_add ha hb)⟩
    show (a - b - a).natAbs ≤ _
    rw [show a - b - a = -b by omega, Int.natAbs_neg]
    exact Nat.le_trans hb (Nat.le_add_left _ _)
  | n + 3, a, b, ha, hb => by
    have e1 : a - b - a - (a - b) = -a := by omega
    have e2 : a - b - a = -b := by omega
    show (turnsF n (a - b - a - (a - b)) (a - b - a)).1.natAbs ≤ _ ∧ (turnsF n (a - b - a - (a - b)) (a - b - a)).2.natAbs ≤ _
    rw [e1, e2]
    exact turn_small0 n (-a) (-b) (by rw [Int.natAbs_neg]; exact ha) (by rw [Int.natAbs_neg]; exact hb)
theorem turn_small {M : Nat} {tn : Nat} (a b : Int) (ha : a.natAbs ≤ M) (hb : b.natAbs ≤ M) : (turnP tn (a, b)).1.natAbs ≤ 2 * M ∧ (turnP tn (a, b)).2.natAbs ≤ 2 * M := by
  rw [Nat.two_mul]
  exact turn_small0 tn a b ha hb
noncomputable def rotL (c : Nat) : Nat := if c = 114 then 103 else if c = 103 then 98 else if c = 98 then 114 else c
theorem letP_rot (a b : Int) : letP (-b) (a - b) = rotL (letP a b) := by
  have ca : a % 2 = 0 ∨ a % 2 = 1 := by omega
  have cb : b % 2 = 0 ∨ b % 2 = 1 := by omega
  unfold letP
  rw [show (-b) % 2 = b % 2 by omega, Int.sub_emod]
  rcases ca with ca | ca <;> rcases cb with cb | cb <;> rw [ca, cb] <;> decide
theorem pair_rot {c : Nat} (hc : isLet c) : pairOf (rotL c) = (-(pairOf c).2, (pairOf c).1 - (pairOf c).2) := by
  rcases hc with rfl | rfl | rfl | rfl <;> decide
theorem step_rot (a b : Int) : stepP (-b) (a - b) = (-(stepP a b).2, (stepP a b).1 - (stepP a b).2) := by
  have h1 := step_even a b
  have h2 := step_even (-b) (a - b)
  rw [letP_rot, pair_rot (letP_let a b)] at h2
  dsimp only at h2
  exact Prod.ext (by dsimp only; omega) (by dsimp only; omega)
theorem readP_rot : ∀ (n : Nat) (a b : Int), readP n (-b) (a - b) = (readP n a b).map (List.map rotL)
  | 0, a, b => by
    rw [readP, readP]
    by_cases h : a = 0 ∧ b = 0
    · rw [if_pos h, if_pos (by omega)]; rfl
    · rw [if_neg h, if_neg (by omega)]; rfl
  | n + 1, a, b => by
    rw [readP, readP]
    by_cases h : a = 0 ∧ b = 0
    · rw [if_pos h, if_pos (by omega)]; rfl
    · rw [if_neg h, if_neg (by omega), step_rot, letP_rot]
      dsimp only
      rw [readP_rot n]
      cases readP n (stepP a b).1 (stepP a b).2 <;> rfl
theorem repl1 (x y : Nat) : ∀ l : List Nat, replL [x] [y] l 0 = l.map fun c => if c = x then y else c
  | [] => rfl
  | c :: r => by
    rw [replL, List.map_cons]
    by_cases h : c = x
    · subst h
      rw [if_pos (by simp [List.isPrefixOf]), if_pos rfl, List.length_singleton, Nat.sub_self, repl1 c y r]; rfl
    · rw [if_neg (by simp [List.isPrefixOf]; exact fun e => h e.symm), if_neg h, repl1 x y r]
theorem rotW_map (l : List Nat) (hl : ∀ c ∈ l, isLet c) : rotW l = l.map rotL := by
  unfold rotW
  rw [repl1, repl1, repl1, repl1, List.map_map, List.map_map, List.map_map]
  refine List.map_congr_left fun c hc => ?_
  rcases hl c hc with rfl | rfl | rfl | rfl <;> decide
theorem corner_small (k : Nat) : (cornerI k).1.natAbs ≤ 1 ∧ (cornerI k).2.1.natAbs ≤ 1 ∧ (cornerI k).2.2.natAbs ≤ 1 := by
  unfold cornerI
  split <;> decide
theorem mul_small {w x : Int} (h : x.natAbs ≤ 1) : (w * x).natAbs ≤ w.natAbs := by
  rw [Int.natAbs_mul]
  exact Nat.le_trans (Nat.mul_le_mul_left _ h) (by omega)
theorem abs_sum {a b : Int} {X w M : Nat} (h : a.natAbs + X ≤ M + w) (hb : b.natAbs ≤ w) : (a + b).natAbs + X ≤ M + 2 * w := by
  have := Int.natAbs_add_le a b
  omega
theorem pt_small (tn : Nat) : ∀ (w : List Nat) (wt : Int) (p : Int × Int × Int) (M : Nat), p.1.natAbs + wt.natAbs * 2 ^ w.length ≤ M + wt.natAbs → p.2.1.natAbs + wt.natAbs * 2 ^ w.length ≤ M + wt.natAbs → p.2.2.natAbs + wt.natAbs * 2 ^ w.length ≤ M + wt.natAbs →
    (ptF tn w wt p).1.natAbs ≤ M ∧ (ptF tn w wt p).2.1.natAbs ≤ M ∧ (ptF tn w wt p).2.2.natAbs ≤ M
  | [], wt, p, M, h1, h2, h3 => by
    simp only [List.length_nil, Nat.pow_zero, Nat.mul_one] at h1 h2 h3
    rw [ptF]
    omega
  | c :: r, wt, p, M, h1, h2, h3 => by
    have ew : (wt * -2).natAbs * 2 ^ r.length = wt.natAbs * 2 ^ (c :: r).length := by
      rw [Int.natAbs_mul, List.length_cons, Nat.pow_succ, Nat.mul_assoc, Nat.mul_comm (2 ^ r.length)]; rfl
    have ea : (wt * -2).natAbs = 2 * wt.natAbs := by rw [Int.natAbs_mul, Nat.mul_comm]; rfl
    rw [ptF]
    have ih := fun p => pt_small tn r (wt * -2) p M
    rw [ew, ea] at ih
    generalize wt.natAbs * 2 ^ (c :: r).length = X at *
    by_cases hk : c = 107
    · rw [if_pos hk]
      exact ih p (by omega) (by omega) (by omega)
    · rw [if_neg hk]
      have hq := corner_small ((ixOf c * 2 + tn) % 6)
      generalize cornerI ((ixOf c * 2 + tn) % 6) = q at hq ⊢
      exact ih _ (abs_sum h1 (mul_small hq.1)) (abs_sum h2 (mul_small hq.2.1)) (abs_sum h3 (mul_small hq.2.2))
theorem pt_small3 (tn : Nat) (w : List Nat) (h : w.length ≤ 12) : small3 (ptF tn w 1 (0, 0, 0)) := by
  have e : 2 ^ w.length ≤ 2 ^ 12 := Nat.pow_le_pow_right (by decide) h
  have := pt_small tn w 1 (0, 0, 0) (2 ^ 12) (by simp; omega) (by simp; omega) (by simp; omega)
  unfold small3
  omega
theorem noK_digs : ∀ (k x : Nat), (digsN 4 k x ≠ [] → 4 ^ k ≤ 4 * x) → x < 4 ^ k → noK ((digsN 4 k x).map figL)
  | 0, x, _, _ => True.intro
  | 1, x, h, h2 => by
    have := h (by simp [digsN])
    have hx : x = 1 ∨ x = 2 ∨ x = 3 := by omega
    show figL x ≠ 107
    rcases hx with rfl | rfl | rfl <;> decide
  | k + 2, x, h, h2 => by
    have h0 := h (by simp [digsN])
    have ih := noK_digs (k + 1) (x / 4) (fun _ => by rw [Nat.pow_succ] at h0; omega) (by rw [Nat.pow_succ] at h2; omega)
    have e : digsN 4 (k + 2) x = x % 4 :: digsN 4 (k + 1) (x / 4) := rfl
    rw [e]
    have hl := digsN_length 4 (k + 1) (x / 4)
    generalize digsN 4 (k + 1) (x / 4) = l at ih hl ⊢
    cases l with
    | nil => simp at hl
    | cons d r => exact ih
theorem figs_top {x : Nat} (h : 0 < figs x) : 4 ^ figs x ≤ 4 * x := by
  have hb : 0 < Builtin.Int.intBits (x : Int) := by unfold figs at h; omega
  have h1 : ¬ Builtin.Int.intBits (x : Int) ≤ Builtin.Int.intBits (x : Int) - 1 := by omega
  rw [intBits_le_iff] at h1
  have e4 : (4 : Nat) ^ figs x = 2 ^ (2 * figs x) := by rw [Nat.pow_mul]
  have h2 : 2 ^ (2 * figs x) ≤ 2 ^ (Builtin.Int.intBits (x : Int) + 1) := Nat.pow_le_pow_right (by decide) (by unfold figs; omega)
  obtain ⟨b, hbb⟩ : ∃ b, Builtin.Int.intBits (x : Int) = b + 1 := ⟨Builtin.Int.intBits (x : Int) - 1, by omega⟩
  rw [hbb] at h1 h2
  rw [Nat.pow_succ, Nat.pow_succ] at h2
  rw [Nat.add_sub_cancel] at h1
  rw [e4]
  omega
theorem word_noK (x : Nat) : noK (wordF x) := by
  unfold wordF
  refine noK_digs _ _ (fun hn => ?_) (figs_lt x)
  refine figs_top (Nat.pos_of_ne_zero fun e => hn ?_)
  rw [e]
  rfl
theorem turnP_add : ∀ (m n : Nat) (q : Int × Int), turnP m (turnP n q) = turnP (n + m) q
  | m, 0, q => by rw [Nat.zero_add]; rfl
  | m, n + 1, q => by
    show turnP m (turnP n (q.1 - q.2, q.1)) = _
    rw [turnP_add m n, show n + 1 + m = (n + m) + 1 by omega]
    rfl
theorem turnP_six (q : Int × Int) : turnP 6 q = q := by
  obtain ⟨a, b⟩ := q
  simp only [turnP, turnsF]
  exact Prod.ext (by dsimp only; omega) (by dsimp only; omega)
theorem turnP_two (q : Int × Int) : turnP 2 q = (-q.2, q.1 - q.2) := by
  obtain ⟨a, b⟩ := q
  simp only [turnP, turnsF]
  exact Prod.ext (by dsimp only; omega) rfl
theorem plain {x tn : Nat} (hx : x < 1024) (htn : tn < 6) : ∃ rd, Plain x tn rd := by
  have hl := wordF_let x
  have hn := wordF_len hx
  have hp (t : Nat) (ht : t < 8) (w : List Nat) (hw : ∀ c ∈ w, isLet c) : P2 (ptF t w 1 (0, 0, 0)) = turnP t (valW w) := by
    rw [pt_val t ht w 1 (0, 0, 0) hw]
    exact Prod.ext (by simp [P2]) (by simp [P2])
  have hv := val_small (wordF x) hl
  have hv5 : 2 ^ (wordF x).length ≤ 2 ^ 5 := Nat.pow_le_pow_right (by decide) hn
  have hs := turn_small (M := 2 ^ 5) (tn := tn) (valW (wordF x)).1 (valW (wordF x)).2 (by omega) (by omega)
  obtain ⟨rd, hrd⟩ := readP_some 6 _ _ hs.1 hs.2
  obtain ⟨v1, v2, v3⟩ := readP_spec _ _ _ _ hrd
  have v1 : valW rd = turnP tn (valW (wordF x)) := v1
  have hrd : readP 12 (turnP tn (valW (wordF x))).1 (turnP tn (valW (wordF x))).2 = some rd := hrd
  refine ⟨rd, ?_, ?_, ?_, ?_, ?_, ?_, ?_, ?_, ?_, v2, v3⟩
  · rw [read_P, hp tn (by omega) _ hl]
    exact hrd
  · exact pt_small3 _ _ (by omega)
  · rw [told_val, ← hp tn (by omega) _ hl]; rfl
  · rw [told_val, ← hp tn (by omega) _ hl]; rfl
  · rw [told_val, told_val, v1]; rfl
  · rw [read_P, hp (tn + 2) (by omega) _ hl, ← turnP_add 2 tn, turnP_two, readP_rot, hrd, rotW_map rd v2, Option.map_some]
  · exact pt_small3 _ _ (by omega)
  · rw [read_P, hp ((6 - tn) % 6) (by omega) _ v2, v1, turnP_add]
    have e : turnP (tn + (6 - tn) % 6) (valW (wordF x)) = valW (wordF x) := by
      by_cases h0 : tn = 0
      · subst h0; rfl
      · rw [show tn + (6 - tn) % 6 = 6 by omega, turnP_six]
    rw [e]
    exact readP_val 12 _ hl (word_noK x) (by omega)
  · exact pt_small3 _ _ v3
end Mine
end
section
open PySem PySem.W PyProof.Rows PySem.Calls PySem.Spec PyProof.Rows.LCg
namespace Mine
section
variable {prog : PySem.Program} {w : World} {A : Around} {E : Value → Shared → Prop} {s : Shared} {h₀ : Heap} {L a c P : Addr} {m mg mb : PySem.Str → Option Value} {cn : PySem.Str} {cs : Scope} {ccd : Value} {cl : List (PySem.Str × Addr)} {rest T0 : Led} {name qual : PySem.Str} {params : Arguments} {body : List Stmt} {scope : Scope} {pos : Pos} {firstLine : Nat} {clos : List (PySem.Str × Addr)} {p : PySem.Program} {loose : List PySem.Str} {mean : ExcName → Option Value} {o : Obj} {nm : PySem.Str} {Q : Value → Shared → Prop}
/-- a def within a def, its code made now or found in the table -/
theorem nestW (F : Fr h₀ L s.heap m) (N : News h₀ L s.heap ((P, o) :: rest)) (T : Top p loose mean mg mb h₀) (C : CodeHd h₀ c P) (hcd : ccd = .ref c) (hT : TabIs pos.line pos.col nm o T0) (hs0 : ∀ q ∈ T0, q ∈ rest) (hP : ∀ q ∈ rest, q.1 ≠ P) (hq : qual = nm)
    (hcl : closureFor scope (envX cn cs L a ccd cl) = pure clos)
    (h : ∀ f c' oc vs t ctv doc o9 ext h' tk, TabIs pos.line pos.col nm o9 (ext ++ T0) → (c', oc) ∈ ext ++ T0 → oc.data = .fields vs → vs[1]? = some (.str qual t) → (∀ q ∈ (P, o9) :: (ext ++ rest), q.1 < f) → (∀ q ∈ ext, ∀ z ∈ (P, o9) :: rest, z.1 < q.1) → Fr h₀ L h' m →
      News h₀ L h' ((f, fnMade name qual params body scope clos doc ((mg (PySem.Str.ofString "__name__")).getD .none) c' ctv) :: (P, o9) :: (ext ++ rest)) → Q (.ref f) { s with heap := h', toks := tk }) :
    wpAny (model prog w) A (makeFunction name qual params (.stmts body) scope (envX cn cs L a ccd cl) [] [] [] pos firstLine) Q E s := by
  subst hq
  rcases hT with rfl | ⟨c0, oc0, vs0, t0, rfl, hm, hd, hv⟩
  · refine nest_K F N T C hcd (.head hP) (by constructor) rfl hcl fun f c' oc vs t ctv doc h' tk F' N' hd hv hc hf => ?_
    refine h f c' oc vs t ctv doc _ [(c', oc)] h' tk (.inr ⟨c', oc, vs, t, rfl, .head _, hd, hv⟩) (.head _) hd hv ?_ ?_ F' (newsSub N' ?_)
    · intro q hq
      rcases List.mem_cons.mp hq with rfl | hq
      · exact Nat.lt_trans (hc (P, tabObj #[]) (.head _)) hf
      · rcases List.mem_cons.mp hq with rfl | hq
        · exact hf
        · exact Nat.lt_trans (hc _ (.tail _ hq)) hf
    · intro q hq z hz
      rcases List.mem_cons.mp hq with rfl | hq
      · rcases List.mem_cons.mp hz with rfl | hz
        · exact hc (P, tabObj #[]) (.head _)
        · exact hc _ (.tail _ hz)
      · cases hq
    · intro q hq
      simp only [List.mem_cons, List.mem_append, List.not_mem_nil, or_false] at hq ⊢
      grind
  · refine nestHit_K (c' := c0) F N T C hcd (.head _) (by constructor) ?_ hcl fun f ctv doc h' tk F' N' hf => ?_
    · simp [codeAmong, rawInt]
    · exact h f c0 oc0 vs0 t0 ctv doc _ [] h' tk (.inr ⟨c0, oc0, vs0, t0, rfl, hm, hd, hv⟩) hm hd hv hf (List.forall_mem_nil _) F' N'
end
theorem pull5 {h₀ h : Heap} {L : Addr} {x1 x2 x3 x4 x5 y : Addr × Obj} {l : Led} (N : News h₀ L h (x1 :: x2 :: x3 :: x4 :: x5 :: y :: l)) : News h₀ L h (y :: x1 :: x2 :: x3 :: x4 :: x5 :: l) := newsSub N (FMC.all ⟨.tail _ (.tail _ (.tail _ (.tail _ (.tail _ (.head _))))), FMC.all ⟨.head _, FMC.all ⟨.tail _ (.head _), FMC.all ⟨.tail _ (.tail _ (.head _)), FMC.all ⟨.tail _ (.tail _ (.tail _ (.head _))), FMC.all ⟨.tail _ (.tail _ (.tail _ (.tail _ (.head _)))), fun _ h => .tail _ (.tail _ (.tail _ (.tail _ (.tail _ (.tail _ h)))))⟩⟩⟩⟩⟩⟩)
theorem push5 {h₀ h : Heap} {L : Addr} {f x1 x2 x3 x4 x5 y : Addr × Obj} {e l : Led} (N : News h₀ L h (f :: y :: (e ++ x1 :: x2 :: x3 :: x4 :: x5 :: l))) : News h₀ L h (f :: x1 :: x2 :: x3 :: x4 :: x5 :: y :: (e ++ l)) :=
  have a {p : Addr × Obj} (h : p ∈ x1 :: x2 :: x3 :: x4 :: x5 :: l) : p ∈ f :: y :: (e ++ x1 :: x2 :: x3 :: x4 :: x5 :: l) := .tail _ (.tail _ (List.mem_append_right _ h))
  newsSub N (FMC.all ⟨.head _, FMC.all ⟨a (.head _), FMC.all ⟨a (.tail _ (.head _)), FMC.all ⟨a (.tail _ (.tail _ (.head _))), FMC.all ⟨a (.tail _ (.tail _ (.tail _ (.head _)))), FMC.all ⟨a (.tail _ (.tail _ (.tail _ (.tail _ (.head _))))), FMC.all ⟨.tail _ (.head _), fun _ h => (List.mem_append.mp h).elim (fun h => .tail _ (.tail _ (List.mem_append_left _ h))) (fun h => a (.tail _ (.tail _ (.tail _ (.tail _ (.tail _ h))))))⟩⟩⟩⟩⟩⟩⟩)
theorem pull3 {h₀ h : Heap} {L : Addr} {x1 x2 x3 y : Addr × Obj} {l : Led} (N : News h₀ L h (x1 :: x2 :: x3 :: y :: l)) : News h₀ L h (y :: x1 :: x2 :: x3 :: l) := newsSub N (FMC.all ⟨.tail _ (.tail _ (.tail _ (.head _))), FMC.all ⟨.head _, FMC.all ⟨.tail _ (.head _), FMC.all ⟨.tail _ (.tail _ (.head _)), fun _ h => .tail _ (.tail _ (.tail _ (.tail _ h)))⟩⟩⟩⟩)
theorem push3 {h₀ h : Heap} {L : Addr} {f x1 x2 x3 y : Addr × Obj} {e l : Led} (N : News h₀ L h (f :: y :: (e ++ x1 :: x2 :: x3 :: l))) : News h₀ L h (f :: x1 :: x2 :: x3 :: y :: (e ++ l)) :=
  have a {p : Addr × Obj} (h : p ∈ x1 :: x2 :: x3 :: l) : p ∈ f :: y :: (e ++ x1 :: x2 :: x3 :: l) := .tail _ (.tail _ (List.mem_append_right _ h))
  newsSub N (FMC.all ⟨.head _, FMC.all ⟨a (.head _), FMC.all ⟨a (.tail _ (.head _)), FMC.all ⟨a (.tail _ (.tail _ (.head _))), FMC.all ⟨.tail _ (.head _), fun _ h => (List.mem_append.mp h).elim (fun h => .tail _ (.tail _ (List.mem_append_left _ h))) (fun h => a (.tail _ (.tail _ (.tail _ h))))⟩⟩⟩⟩⟩)
end Mine
end
section
open PySem PySem.W PyProof.Rows
namespace Mine
set_option maxRecDepth 100000 in
set_option maxHeartbeats 8000000 in
open_top hd for PySem.Challenge.rw_pg0168_01
end Mine
end
theorem Mine.topOff : True := by
  w_top off
  exact True.intro
section
open PySem PySem.W PyProof.Rows PySem.Calls PySem.Spec
set_option compiler.extract_closed false
namespace Mine
local macro_rules | `(tactic| k_room) => `(tactic| ktr_room)
local macro_rules | `(tactic| k_units) => `(tactic| ktr_units)
local macro_rules | `(tactic| k_lt $h:ident) => `(tactic| (replace $h := allLt_of $h; (try simp only [AllLt, and_true] at $h:ident); (repeat (have h9 := And.left $h; replace $h := And.right $h))))
local macro_rules | `(tactic| k_all) => `(tactic| ((fail_if_success refine List.forall_mem_cons.mpr ?_); (fail_if_success exact List.forall_mem_nil _); first | with_reducible assumption | repeat' ((with_reducible rename AllLt _ _ => z1); first | exact all_ne z1 (by omega) | clear z1)))
local macro_rules | `(tactic| k_mem) => `(tactic| assumption)
local macro_rules | `(tactic| walk_at "MINE mcons") => `(tactic| ((refine MRest.cons ?_); intro t9' u9' its9' C9' oC9' D9' m9' h9' tk9' E9' i09' hC9' hxa9' hxb9' F9' N9' off9' offI9' offC9' neCD9'; (try dsimp only at hxa9' hxb9')))
local macro_rules | `(tactic| walk_at "MINE ltI") => `(tactic| (intro l1; k_lt l1))
set_option compiler.extract_closed false
noncomputable abbrev P01 : PySem.Program := Challenge.rw_pg0168_01.row.prog
noncomputable abbrev K01 : World → Frag := fun w => hd.heap_39 w.params
noncomputable abbrev H01 : Heap → Prop := fun h => CodeHd h 34 30 ∧ CodeHd h 41 37
noncomputable abbrev nm30 : PySem.Str := PySem.Str.ofString "_int2digits.<locals>.inner"
noncomputable abbrev Tab30 : Obj → Led → Prop := TabIs 32 4 nm30
noncomputable abbrev nm37 : PySem.Str := PySem.Str.ofString "_digits2int.<locals>.inner"
noncomputable abbrev Tab37 : Obj → Led → Prop := TabIs 47 4 nm37
set_option maxRecDepth 100000 in
set_option maxHeartbeats 4000000 in
theorem i2d {w : World} {news T0 : Led} (x n k : Nat) (hn : 0 < n) (hk : ((Builtin.Int.intBits x : Int) + n - 1).fdiv n = (k : Int)) (hk9 : k < 200) (hx : x < 2 ^ 80) (hn9 : n < 100) (t1 t2 : Tok) (h30 : ∀ p ∈ news, p.1 ≠ 30) (o30 : Obj) (hT : Tab30 o30 T0) (hs0 : ∀ p ∈ T0, p ∈ news) :
   CS K01 P01 w H01 35 300 3000 ((30, o30) :: news) [.int x t1, .int n t2]
    fun v nw => ∃ D vs o30' ext, v = .ref D ∧ nw = (D, W.listOf vs.toArray 0) :: (30, o30') :: (ext ++ news) ∧ Tab30 o30' (ext ++ T0) ∧ IntsAre vs (digs (2 ^ n) k x) ∧ (∀ q ∈ news, q.1 < D) ∧ ∀ q ∈ ext, (∀ p ∈ news, p.1 < q.1) ∧ 30 < q.1 := by
  have hlaw : (fun (_ : OpenLaw) (_ : Params → Frag) => True) Challenge.rw_pg0168_01 hd.heap_39 := by k_fill; exact True.intro
  clear hlaw
  intro p loose mean mg mb dp un gd cn cs L a ccd cl outer A₀ base h₀ m s Q E B F X N T hH hcs hdp hun hret
  obtain ⟨ck, cnm, cg, cc, cm⟩ := cs
  obtain rfl : ck = .function := hcs
  obtain ⟨hH1, hH2⟩ := hH
  replace X : (hd.heap_39 w.params).In h₀ := X
  refine wpAny_call ?_
  k_dflt k_enter
  (repeat' ((fail_if_success (with_reducible show wpAny _ _ (makeFunction _ _ _ _ _ _ _ _ _ _ _) _ _ _)); first | (k_unfold; (try dsimp only)) | (k_end; wrow_close) | ((with_reducible show wpAny _ _ (eval (PySem.Expr.Name _ _) (envOfC _ _ _ _ _)) _ _ _); k_dflt (refine' nameX_L ?F ?v ?_ ?a ?b; (case F => k_asm); (case a => rfl); (case b => rfl); (case v => rfl); k_whole)) | walk1 | (dsimp only; walk1) | (leave1; walk_say "STEP leave1"; try dsimp only)))
  rename_i g1 L1 hA tkA FG1 B1 X1 T1 q1 l1 oA oB oC dA dB dC lD hB r1 r2 r3 r4 l2 D hC i1 n1 s1 e1 e2 e3 p1 p2 p3 p4 p5 l3 hD oD F2 NN d2
  k_dflt (refine' nestDef_K ?d0 ?k0 ?a0 ?_; (case d0 => exact rfl); (case k0 => exact rfl); (case a0 => exact rfl))
  k_dflt (refine' nestW (T0 := T0) (nm := nm30) ?F ?N ?T ?C ?cd ?hT ?hs ?hP ?hq ?cl ?_; (case F => k_asm); (case N => exact pull5 NN); (case T => k_asm); (case cd => exact rfl); (case C => kn_code); (case hT => exact hT); (case hs => exact fun q hq => .tail _ (.tail _ (.tail _ (.tail _ (.tail _ (hs0 q hq)))))); (case hP => exact FMC.all ⟨Nat.ne_of_gt (by omega), FMC.all ⟨Nat.ne_of_gt (by omega), FMC.all ⟨Nat.ne_of_gt (by omega), FMC.all ⟨Nat.ne_of_gt (by omega), FMC.all ⟨Nat.ne_of_gt (by omega), h30⟩⟩⟩⟩⟩); (case hq => rfl); (case cl => exact rfl))
  intro f c oc vs t ctv doc o9 ext9 h9 tk9 T9 hm9 hd9 hv9 hf9 hx9 F9 N9
  replace N9 := push5 N9
  have hmN : (c, oc) ∈ ext9 ++ news := (List.mem_append.mp hm9).elim (List.mem_append_left _) (fun h => List.mem_append_right _ (hs0 _ h))
  have hX9 : ∀ q ∈ ext9, (∀ p ∈ news, p.1 < q.1) ∧ @LT.lt Nat _ 30 q.1 := fun q hq => ⟨fun p hp => hx9 q hq p (.tail _ (.tail _ (.tail _ (.tail _ (.tail _ (.tail _ hp)))))), hx9 q hq _ (.head _)⟩
  have hEi : ∀ q ∈ ext9 ++ news, q.1 ≠ L1 + 1 + 1 + 1 := fun q hq => (List.mem_append.mp hq).elim (fun h => Nat.ne_of_gt (hx9 q h _ (.tail _ (.tail _ (.tail _ (.head _)))))) (fun h => Nat.ne_of_lt (Nat.lt_trans (allLt_mem l1 q h) (by omega)))
  have hED : ∀ q ∈ ext9 ++ news, q.1 ≠ D := fun q hq => (List.mem_append.mp hq).elim (fun h => Nat.ne_of_gt (hx9 q h _ (.tail _ (.head _)))) (fun h => Nat.ne_of_lt (allLt_mem l3 q h))
  have hfD : @LT.lt Nat _ D f := hf9 _ (.tail _ (List.mem_append_right _ (.head _)))
  clear hx9 hf9 hm9
  (repeat' ((fail_if_success (with_reducible show wpAny _ _ (call (Value.ref _) [(Value.int _ _), (Value.int _ _), (Value.int _ _)]) _ _ _)); first | (k_unfold; (try dsimp only)) | (k_end; wrow_close) | ((with_reducible show wpAny _ _ (eval (PySem.Expr.Name _ _) (envOfC _ _ _ _ _)) _ _ _); k_dflt (refine' nameX_L ?F ?v ?_ ?a ?b; (case F => k_asm); (case a => rfl); (case b => rfl); (case v => rfl); k_whole)) | walk1 | (dsimp only; walk1) | (leave1; walk_say "STEP leave1"; try dsimp only)))
  · have hk0 : 0 < k := bits_pos hn (by omega) hk
    (with_reducible rename (List.length _ = _) => e1)
    (with_reducible rename (0 ≤ _ → _) => e3)
    have hlen := flat_len e1 e3 hk
    refine' InnerOk.use (K := K01) (lo := 0) (x := x) (k := k) (B := 2 ^ n) ?specx rfl rfl ?eHx hx (by k_asm) ?hkx ?hlx ?Bx ?Fx ?Xx ?Nx ?Tx rfl ?hdx ?hux ?_
    case Bx => k_asm
    case Fx => k_asm
    case Xx => k_asm
    case Nx => exact rot1 (by k_asm)
    case Tx => k_asm
    case hdx => ktr_room
    case hux => ktr_units
    case eHx => omega
    case hkx => omega
    case hlx => omega
    case specx =>
      repeat (with_reducible rename News _ _ _ _ => zN; clear zN)
      repeat (with_reducible rename Fr _ _ _ _ => zN; clear zN)
      clear hret
      refine innerOk_all (fun k hk0 IH => ?_) _ hk0
      intro x lo vs ds t1 t2 t3 dp un gd cn cs L a ccd cl outer A₀ base h₀ m s Q E hx hv hlk hl B F X N T hcs hdp hun hret
      obtain ⟨ck, cnm, cg, cc, cm⟩ := cs
      obtain rfl : ck = .function := hcs
      replace X : (hd.heap_39 w.params).In h₀ := X
      have h300 := hf_300 hlk hl
      refine wpAny_call ?_
      k_dflt kn_enter
      (with_reducible rename Fr _ _ _ _ => lF0)
      refine frGen3 lF0 (a := PySem.Str.ofString "x") (b := PySem.Str.ofString "L") (c := PySem.Str.ofString "R") (by with_unfolding_all rfl) (by with_unfolding_all rfl) (by with_unfolding_all rfl) ?_
      clear lF0
      intro m0 lF0
      (repeat' ((fail_if_success (with_reducible show wpAny _ _ (call (Value.ref _) [(Value.int _ _), (Value.int _ _), (Value.int _ _)]) _ _ _)); first | (k_unfold; (try dsimp only)) | (k_end; wrow_close) | (with_reducible refine r_upper ?_) | (with_reducible refine r_midh ?_) | (with_reducible refine r_xor ?_) | ((with_reducible show wpAny _ _ (binaryOp .Mult (Value.int _ _) (Value.int _ _)) _ _ _); with_reducible refine' r_shift ?kk ?_; (case kk => omega)) | ((with_reducible show wpAny _ _ (binaryOp .LShift (Value.int _ _) (Value.int _ _)) _ _ _); with_reducible refine' r_shl ?k1 ?k2 ?_; (case k1 => first | with_reducible assumption | exact div_le_80 (by with_reducible assumption)); (case k2 => first | omega | exact e_ok (by omega) (by omega))) | ((with_reducible show wpAny _ _ (storeName _ _ _) _ _ _); k_dflt (refine' storeX_L ?F ?N ?_ ?a ?b; (case F => k_asm); (case N => k_asm); (case a => rfl); (case b => rfl); k_whole; intro _ _ _; (try k_sweep))) | walk1 | (dsimp only; walk1) | (leave1; walk_say "STEP leave1"; try dsimp only)))
      · have hk1 : k = 1 := by omega
        subst hk1
        refine hret _ _ _ ?_ (by k_asm) (by k_asm)
        rw [digs, ← putAt_one ds lo x (by omega)]
        k_asm
      · (with_reducible rename (¬ (_ : Int) = _) => z9)
        have hk2 := two_of hk0 z9
        clear z9
        obtain ⟨hp0, hp1, hp2, hp3⟩ := hf_pos hk2
        refine' (IH (hf k) hp0 hp1).use (x := x % 2 ^ (hf k * n)) (lo := lo) rfl rfl rfl (mod_le_80 hx) hv ?hka hl ?Ba ?Fa ?Xa ?Na ?Ta rfl ?hda ?hua ?_
        case hka => exact Nat.le_trans (Nat.add_le_add_left (hf_le k) lo) hlk
        case Ba => k_asm
        case Fa => k_asm
        case Xa => k_asm
        case Na => k_asm
        case Ta => k_asm
        case hda => first | exact room_h hdp hp1 | ktr_room
        case hua => first | exact unit_h hun hp1 | ktr_units
        intro vs1 h1 tk1 hv1 F1 N1
        (repeat' ((fail_if_success (with_reducible show wpAny _ _ (call (Value.ref _) [(Value.int _ _), (Value.int _ _), (Value.int _ _)]) _ _ _)); first | (k_unfold; (try dsimp only)) | (k_end; wrow_close) | walk1 | (dsimp only; walk1) | (leave1; walk_say "STEP leave1"; try dsimp only)))
        have hl1 := putAt_length ds lo (digs (2 ^ n) (hf k) (x % 2 ^ (hf k * n))) (by rw [digs_length]; exact Nat.le_trans (Nat.add_le_add_left (hf_le k) lo) hlk)
        refine' (IH (k - hf k) hp2 hp3).use (x := x / 2 ^ (hf k * n)) (lo := lo + hf k) rfl rfl ?eHb (div_le_80 hx) hv1 ?hkb ?hlb ?Bb ?Fb ?Xb ?Nb ?Tb rfl ?hdb ?hub ?_
        case eHb => exact congrArg Int.ofNat hf_split
        case hkb => rw [hl1, ← hf_split]; exact hlk
        case hlb => rw [hl1]; exact hl
        case Bb => k_asm
        case Fb => k_asm
        case Xb => k_asm
        case Nb => k_asm
        case Tb => k_asm
        case hdb => first | exact room_h hdp hp3 | ktr_room
        case hub => first | exact unit_h hun hp3 | ktr_units
        intro vs2 h2 tk2 hv2 F2 N2
        (repeat' ((fail_if_success (with_reducible show wpAny _ _ (call (Value.ref _) [(Value.int _ _), (Value.int _ _), (Value.int _ _)]) _ _ _)); first | (k_unfold; (try dsimp only)) | (k_end; wrow_close) | walk1 | (dsimp only; walk1) | (leave1; walk_say "STEP leave1"; try dsimp only)))
        refine hret _ _ _ ?_ (by k_asm) (by k_asm)
        rw [put_doneh ds lo n k x hk2 hlk] at hv2
        exact hv2
    intro vs1 h1 tk1 hv1 F1 N1
    (repeat' ((fail_if_success (with_reducible show wpAny _ _ (call (Value.ref _) [(Value.int _ _), (Value.int _ _), (Value.int _ _)]) _ _ _)); first | (k_unfold; (try dsimp only)) | (k_end; wrow_close) | walk1 | (dsimp only; walk1) | (leave1; walk_say "STEP leave1"; try dsimp only)))
    rw [putAt_whole _ _ (by rw [digs_length]; omega)] at hv1
    exact hret _ _ _ _ (by k_asm) (newsSub (by k_asm) (by (repeat' first | exact List.forall_mem_nil _ | refine FMC.all ⟨by k_mem, ?_⟩ | (intro p9 hp9; (repeat' first | assumption | refine List.Mem.tail _ ?_))))) ⟨_, _, o9, ext9, rfl, rfl, T9, hv1, by (repeat' ((with_reducible rename AllLt _ _ => z1); first | exact all_lt z1 (by omega) | clear z1)), hX9⟩
  · have hk0 : k = 0 := bits_zero hn (by omega) hk
    subst hk0
    (with_reducible rename (List.length _ = _) => e1)
    (with_reducible rename (0 ≤ _ → _) => e3)
    exact hret _ _ _ _ (by k_asm) (newsSub (by k_asm) (by (repeat' first | exact List.forall_mem_nil _ | refine FMC.all ⟨by k_mem, ?_⟩ | (intro p9 hp9; (repeat' first | assumption | refine List.Mem.tail _ ?_))))) ⟨_, _, o9, ext9, rfl, rfl, T9, flat_nil (by k_asm) (flat_len e1 e3 hk), by (repeat' ((with_reducible rename AllLt _ _ => z1); first | exact all_lt z1 (by omega) | clear z1)), hX9⟩
theorem i2dW {w : World} {news T0 : Led} (x n k : Nat) (hn : 0 < n) (hk : ((Builtin.Int.intBits x : Int) + n - 1).fdiv n = (k : Int)) (hk9 : k < 200) (hx : x < 2 ^ 80) (hn9 : n < 100) (t1 t2 : Tok) (h30 : ∀ p ∈ news, p.1 ≠ 30) (o30 : Obj) (hT : Tab30 o30 T0) (hs0 : ∀ p ∈ T0, p ∈ news) :
   CW K01 P01 w H01 35 300 3000 ((30, o30) :: news) [.int x t1, .int n t2] (fun G => ∀ D vs o30' ext, (Tab30 o30' (ext ++ T0)) → (IntsAre vs (digs (2 ^ n) k x)) → ((∀ q ∈ news, q.1 < D)) → (∀ q ∈ ext, (∀ p ∈ news, p.1 < q.1) ∧ 30 < q.1) → G (.ref D) ((D, W.listOf vs.toArray 0) :: (30, o30') :: (ext ++ news))) :=
  CS.toW (@i2d w news T0 x n k hn hk hk9 hx hn9 t1 t2 h30 o30 hT hs0) (fun v nw G hR hG => by
    obtain ⟨D, vs, o30', ext, rfl, rfl, r09, r19, r29, r39⟩ := hR
    exact hG D vs o30' ext r09 r19 r29 r39)
set_option maxRecDepth 100000 in
set_option maxHeartbeats 4000000 in
theorem d2i {w : World} {news T0 : Led} (ds : List Nat) (n : Nat) (hn9 : n < 100) (hds : ∀ d ∈ ds, d < 2 ^ n) (h80 : n * ds.length ≤ 80) (hl9 : ds.length < 200) (D : Addr) (vs : List Value) (c9 : Nat) (hD : (D, W.listOf vs.toArray c9) ∈ news) (hi : IntsAre vs (castL ds)) (t2 : Tok) (h37 : ∀ p ∈ news, p.1 ≠ 37) (o37 : Obj) (hT : Tab37 o37 T0) (hs0 : ∀ p ∈ T0, p ∈ news) :
   CS K01 P01 w H01 42 300 3000 ((37, o37) :: news) [.ref D, .int n t2]
    fun v nw => ∃ t o37' ext, v = .int ((valN (2 ^ n) ds : Nat) : Int) t ∧ nw = (37, o37') :: (ext ++ news) ∧ Tab37 o37' (ext ++ T0) ∧ ∀ q ∈ ext, (∀ p ∈ news, p.1 < q.1) ∧ 37 < q.1 := by
  have hlaw : (fun (_ : OpenLaw) (_ : Params → Frag) => True) Challenge.rw_pg0168_01 hd.heap_39 := by k_fill; exact True.intro
  clear hlaw
  intro p loose mean mg mb dp un gd cn cs L a ccd cl outer A₀ base h₀ m s Q E B F X N T hH hcs hdp hun hret
  obtain ⟨ck, cnm, cg, cc, cm⟩ := cs
  obtain rfl : ck = .function := hcs
  obtain ⟨hH1, hH2⟩ := hH
  replace X : (hd.heap_39 w.params).In h₀ := X
  have hlv : vs.length = ds.length := by have := hi.length; simpa [castL] using this
  refine wpAny_call ?_
  k_dflt k_enter
  (repeat' ((fail_if_success (with_reducible show wpAny _ _ (makeFunction _ _ _ _ _ _ _ _ _ _ _) _ _ _)); first | (k_unfold; (try dsimp only)) | (k_end; wrow_close) | walk1 | (dsimp only; walk1) | (leave1; walk_say "STEP leave1"; try dsimp only)))
  rename_i g1 L1 hA tkA FG1 F1 B1 X1 T1 q1 l1 oA oB oC dA dB dC NN
  k_dflt (refine' nestDef_K ?d0 ?k0 ?a0 ?_; (case d0 => exact rfl); (case k0 => exact rfl); (case a0 => exact rfl))
  k_dflt (refine' nestW (T0 := T0) (nm := nm37) ?F ?N ?T ?C ?cd ?hT ?hs ?hP ?hq ?cl ?_; (case F => k_asm); (case N => exact pull3 NN); (case T => k_asm); (case cd => exact rfl); (case C => kn_code); (case hT => exact hT); (case hs => exact fun q hq => .tail _ (.tail _ (.tail _ (hs0 q hq)))); (case hP => exact FMC.all ⟨Nat.ne_of_gt (by omega), FMC.all ⟨Nat.ne_of_gt (by omega), FMC.all ⟨Nat.ne_of_gt (by omega), h37⟩⟩⟩); (case hq => rfl); (case cl => exact rfl))
  intro f c oc vsT t ctv doc o9 ext9 h9 tk9 T9 hm9 hd9 hv9 hf9 hx9 F9 N9
  replace N9 := push3 N9
  have hmN : (c, oc) ∈ ext9 ++ news := (List.mem_append.mp hm9).elim (List.mem_append_left _) (fun h => List.mem_append_right _ (hs0 _ h))
  have hDN : (D, W.listOf vs.toArray c9) ∈ ext9 ++ news := List.mem_append_right _ hD
  have hX9 : ∀ q ∈ ext9, (∀ p ∈ news, p.1 < q.1) ∧ @LT.lt Nat _ 37 q.1 := fun q hq => ⟨fun p hp => hx9 q hq p (.tail _ (.tail _ (.tail _ (.tail _ hp)))), hx9 q hq _ (.head _)⟩
  have hEi : ∀ q ∈ ext9 ++ news, q.1 ≠ L1 + 1 + 1 + 1 := fun q hq => (List.mem_append.mp hq).elim (fun h => Nat.ne_of_gt (hx9 q h _ (.tail _ (.head _)))) (fun h => Nat.ne_of_lt (Nat.lt_trans (allLt_mem l1 q h) (by omega)))
  have hfL : @LT.lt Nat _ (L1 + 1 + 1 + 1) f := hf9 _ (.tail _ (List.mem_append_right _ (.head _)))
  clear hx9 hf9 hm9
  (repeat' ((fail_if_success (with_reducible show wpAny _ _ (call (Value.ref _) [(Value.int _ _), (Value.int _ _)]) _ _ _)); first | (k_unfold; (try dsimp only)) | (k_end; wrow_close) | ((with_reducible show wpAny _ _ (truthy (Value.ref _)) _ _ _); (refine' kgr_truthy (lo := W.listOf (List.toArray _) _) ?gN ?gm ?gc ?gd ?gf ?_); (case gN => k_asm); (case gm => k_mem); (case gc => rfl); (case gd => rfl); (case gf => omega)) | ((with_reducible show wpAny _ _ (call (Value.builtin "len") [(Value.ref _)]) _ _ _); (refine' my_len ?gN ?gm ?gl ?gf ?_); (case gN => k_asm); (case gm => k_mem); (case gl => with_reducible assumption); (case gf => omega); intro _) | walk1 | (dsimp only; walk1) | (leave1; walk_say "STEP leave1"; try dsimp only)))
  · have hds0 : ds = [] := by
      (with_reducible rename (List.isEmpty _ = true) => z9)
      rw [List.isEmpty_iff] at z9
      subst z9
      exact List.eq_nil_of_length_eq_zero hlv.symm
    subst hds0
    exact hret _ _ _ _ (by k_asm) (newsSub (by k_asm) (by (repeat' first | exact List.forall_mem_nil _ | refine FMC.all ⟨by k_mem, ?_⟩ | (intro p9 hp9; (repeat' first | assumption | refine List.Mem.tail _ ?_))))) ⟨_, o9, ext9, rfl, rfl, T9, hX9⟩
  · have hk0 : 0 < ds.length := by
      (with_reducible rename (List.isEmpty _ = false) => z9)
      cases vs with
      | nil => cases z9
      | cons _ _ => rw [← hlv]; exact Nat.succ_pos _
    refine' D2Ok.use (K := K01) (lo := 0) (k := ds.length) (B := 2 ^ n) (ds := ds) ?specx rfl ?eHx ?hkx ?Bx ?Fx ?Xx ?Nx ?Tx rfl ?hdx ?hux ?_
    case Bx => k_asm
    case Fx => k_asm
    case Xx => k_asm
    case Nx => k_asm
    case Tx => k_asm
    case hdx => ktr_room
    case hux => ktr_units
    case eHx => omega
    case hkx => omega
    case specx =>
      repeat (with_reducible rename News _ _ _ _ => zN; clear zN)
      repeat (with_reducible rename Fr _ _ _ _ => zN; clear zN)
      clear hret
      refine D2Ok.all (fun k hk0 IH => ?_) _ hk0
      intro lo t2 t3 dp un gd cn cs L a ccd cl outer A₀ base h₀ m s Q E hlk B F X N T hcs hdp hun hret
      obtain ⟨ck, cnm, cg, cc, cm⟩ := cs
      obtain rfl : ck = .function := hcs
      replace X : (hd.heap_39 w.params).In h₀ := X
      have h300 := hf_300 hlk hl9
      refine wpAny_call ?_
      k_dflt kn_enter
      (with_reducible rename Fr _ _ _ _ => lF0)
      refine frGen2 lF0 (a := PySem.Str.ofString "L") (b := PySem.Str.ofString "R") (by with_unfolding_all rfl) (by with_unfolding_all rfl) ?_
      clear lF0
      intro m0 lF0
      (repeat' ((fail_if_success (with_reducible show wpAny _ _ (call (Value.ref _) [(Value.int _ _), (Value.int _ _)]) _ _ _)); first | (k_unfold; (try dsimp only)) | (k_end; wrow_close) | (with_reducible refine r_midh ?_) | ((with_reducible show wpAny _ _ (binaryOp .Mult (Value.int _ _) (Value.int _ _)) _ _ _); with_reducible refine' r_shift ?kk ?_; (case kk => omega)) | ((with_reducible show wpAny _ _ (storeName _ _ _) _ _ _); k_dflt (refine' storeX_L ?F ?N ?_ ?a ?b; (case F => k_asm); (case N => k_asm); (case a => rfl); (case b => rfl); k_whole; intro _ _ _; (try k_sweep))) | walk1 | (dsimp only; walk1) | (leave1; walk_say "STEP leave1"; try dsimp only)))
      · have hk1 : k = 1 := by omega
        subst hk1
        rw [d2_one (B := 2 ^ n) hlk]
        exact hret _ _ _ (by k_asm) (by k_asm)
      · (with_reducible rename (¬ (_ : Int) = _) => z9)
        have hk2 := two_of hk0 z9
        clear z9
        obtain ⟨hp0, hp1, hp2, hp3⟩ := hf_pos hk2
        refine' (IH (k - hf k) hp2 hp3).use (lo := lo + hf k) rfl ?eHa ?hka ?Ba ?Fa ?Xa ?Na ?Ta rfl ?hda ?hua ?_
        case Ba => k_asm
        case Fa => k_asm
        case Xa => k_asm
        case Na => k_asm
        case Ta => k_asm
        case hda => first | exact room_h hdp hp3 | ktr_room
        case hua => first | exact unit_h hun hp3 | ktr_units
        case eHa => exact congrArg Int.ofNat hf_split
        case hka => rw [← hf_split]; exact hlk
        intro tv1 h1 tk1 F1 N1
        have hv1 := d2_lt (lo := lo + hf k) (k := k - hf k) hds h80
        (repeat' ((fail_if_success (with_reducible show wpAny _ _ (call (Value.ref _) [(Value.int _ _), (Value.int _ _)]) _ _ _)); first | (k_unfold; (try dsimp only)) | (k_end; wrow_close) | ((with_reducible show wpAny _ _ (binaryOp .LShift (Value.int _ _) (Value.int _ _)) _ _ _); with_reducible refine' r_shl ?k1 ?k2 ?_; (case k1 => first | with_reducible assumption | exact div_le_80 (by with_reducible assumption)); (case k2 => first | omega | exact e_ok (by omega) (by omega))) | walk1 | (dsimp only; walk1) | (leave1; walk_say "STEP leave1"; try dsimp only)))
        refine' (IH (hf k) hp0 hp1).use (lo := lo) rfl rfl ?hkb ?Bb ?Fb ?Xb ?Nb ?Tb rfl ?hdb ?hub ?_
        case Bb => k_asm
        case Fb => k_asm
        case Xb => k_asm
        case Nb => k_asm
        case Tb => k_asm
        case hdb => first | exact room_h hdp hp1 | ktr_room
        case hub => first | exact unit_h hun hp1 | ktr_units
        case hkb => exact Nat.le_trans (Nat.add_le_add_left (hf_le k) lo) hlk
        intro tv2 h2 tk2 F2 N2
        (repeat' ((fail_if_success (with_reducible show wpAny _ _ (call (Value.ref _) [(Value.int _ _), (Value.int _ _)]) _ _ _)); first | (k_unfold; (try dsimp only)) | (k_end; wrow_close) | walk1 | (dsimp only; walk1) | (leave1; walk_say "STEP leave1"; try dsimp only)))
        rw [d2_twoh (n := n) hk2 hlk]
        exact hret _ _ _ (by k_asm) (by k_asm)
    intro tv9 h1 tk1 F1 N1
    rw [d2_all]
    (repeat' ((fail_if_success (with_reducible show wpAny _ _ (call (Value.ref _) [(Value.int _ _), (Value.int _ _)]) _ _ _)); first | (k_unfold; (try dsimp only)) | (k_end; wrow_close) | walk1 | (dsimp only; walk1) | (leave1; walk_say "STEP leave1"; try dsimp only)))
    exact hret _ _ _ _ (by k_asm) (newsSub (by k_asm) (by (repeat' first | exact List.forall_mem_nil _ | refine FMC.all ⟨by k_mem, ?_⟩ | (intro p9 hp9; (repeat' first | assumption | refine List.Mem.tail _ ?_))))) ⟨_, o9, ext9, rfl, rfl, T9, hX9⟩
theorem d2iW {w : World} {news T0 : Led} (ds : List Nat) (n : Nat) (hn9 : n < 100) (hds : ∀ d ∈ ds, d < 2 ^ n) (h80 : n * ds.length ≤ 80) (hl9 : ds.length < 200) (D : Addr) (vs : List Value) (c9 : Nat) (hD : (D, W.listOf vs.toArray c9) ∈ news) (hi : IntsAre vs (castL ds)) (t2 : Tok) (h37 : ∀ p ∈ news, p.1 ≠ 37) (o37 : Obj) (hT : Tab37 o37 T0) (hs0 : ∀ p ∈ T0, p ∈ news) :
   CW K01 P01 w H01 42 300 3000 ((37, o37) :: news) [.ref D, .int n t2] (fun G => ∀ t o37' ext, (Tab37 o37' (ext ++ T0)) → (∀ q ∈ ext, (∀ p ∈ news, p.1 < q.1) ∧ 37 < q.1) → G (.int ((valN (2 ^ n) ds : Nat) : Int) t) ((37, o37') :: (ext ++ news))) :=
  CS.toW (@d2i w news T0 ds n hn9 hds h80 hl9 D vs c9 hD hi t2 h37 o37 hT hs0) (fun v nw G hR hG => by
    obtain ⟨t, o37', ext, rfl, rfl, r09, r19⟩ := hR
    exact hG t o37' ext r09 r19)
set_option maxRecDepth 100000 in
set_option maxHeartbeats 4000000 in
theorem div21 {w : World} {news : Led} (x b n : Nat) (hx : x < 2 ^ 100) (hb : 0 < b) (hb9 : b < 1073741824) (X : Int) (hX : X = (x : Int)) (t1 t2 t3 : Tok) :
   CS K01 P01 w H01 21 30 300 news [.int X t1, .int b t2, .int n t3]
    fun v nw => ∃ D u1 u2, v = .ref D ∧ nw = (D, tup [.int ((x / b : Nat) : Int) u1, .int ((x % b : Nat) : Int) u2]) :: news ∧ ∀ q ∈ news, q.1 < D := by
  subst hX
  have hlaw : (fun (_ : OpenLaw) (_ : Params → Frag) => True) Challenge.rw_pg0168_01 hd.heap_39 := by k_fill; exact True.intro
  clear hlaw
  intro p loose mean mg mb dp un gd cn cs L a ccd cl outer A₀ base h₀ m s Q E B F X N T hH hcs hdp hun hret
  obtain ⟨ck, cnm, cg, cc, cm⟩ := cs
  obtain rfl : ck = .function := hcs
  obtain ⟨hH1, hH2⟩ := hH
  replace X : (hd.heap_39 w.params).In h₀ := X
  have hbits : Builtin.Int.intBits (x : Int) ≤ 100 := intBits_le_iff.mpr (by omega)
  (repeat' (first | (k_unfold; (try dsimp only)) | (k_end; wrow_close) | ((with_reducible show ite _ _ _); refine ite_pos (by first | omega | (simp only [beq_iff_eq, bne_iff_ne, decide_eq_true_eq, Int.not_lt, Int.not_le]; omega)) ?_) | ((with_reducible show wpAny _ _ (call (Value.builtin "divmod") [(Value.int _ _), (Value.int _ _)]) _ _ _); (with_reducible refine' my_divmod ?gF ?gN ?gb ?g9 ?_); (case gF => k_asm); (case gN => k_asm); (case gb => omega); (case g9 => omega); intro _ _ _ _ _ _ _; walk_at "MINE ltI") | ((with_reducible show wpAny _ _ (eval (PySem.Expr.Name _ _) (envOf _ _ _ _ _)) _ _ _); k_dflt (refine' nameX_L ?F ?v ?_ ?a ?b; (case F => k_asm); (case a => rfl); (case b => rfl); (case v => rfl); k_whole)) | walk1 | (dsimp only; walk1) | (leave1; walk_say "STEP leave1"; try dsimp only)))
  exact hret _ _ _ _ (by k_asm) (by k_asm) ⟨_, _, _, rfl, rfl, by (repeat' ((with_reducible rename AllLt _ _ => z1); first | exact all_lt z1 (by omega) | clear z1))⟩
theorem div21W {w : World} {news : Led} (x b n : Nat) (hx : x < 2 ^ 100) (hb : 0 < b) (hb9 : b < 1073741824) (X : Int) (hX : X = (x : Int)) (t1 t2 t3 : Tok) :
   CW K01 P01 w H01 21 30 300 news [.int X t1, .int b t2, .int n t3] (fun G => ∀ D u1 u2, (∀ q ∈ news, q.1 < D) → G (.ref D) ((D, tup [.int ((x / b : Nat) : Int) u1, .int ((x % b : Nat) : Int) u2]) :: news)) :=
  CS.toW (@div21 w news x b n hx hb hb9 X hX t1 t2 t3) (fun v nw G hR hG => by
    obtain ⟨D, u1, u2, rfl, rfl, r09⟩ := hR
    exact hG D u1 u2 r09)
set_option compiler.extract_closed false
set_option maxRecDepth 100000 in
set_option maxHeartbeats 4000000 in
theorem hsv {w : World} {news : Led} (k : Nat) (hk : k < 6) (x : UInt64) (hx : x = hue k) (t1 t2 t3 : Tok) :
   CS K01 P01 w H01 70 1 8 news [.float x t1, .float f1 t2, .float f1 t3]
    fun v nw => ∃ D u1 u2 u3, v = .ref D ∧ nw = (D, tup [.float (rgbOf k).1 u1, .float (rgbOf k).2.1 u2, .float (rgbOf k).2.2 u3]) :: news ∧ ∀ q ∈ news, q.1 < D := by
  have hlaw : (fun (_ : OpenLaw) (_ : Params → Frag) => True) Challenge.rw_pg0168_01 hd.heap_39 := by k_fill; exact True.intro
  clear hlaw
  intro p loose mean mg mb dp un gd cn cs L a ccd cl outer A₀ base h₀ m s Q E B F X N T hH hcs hdp hun hret
  obtain ⟨ck, cnm, cg, cc, cm⟩ := cs
  obtain rfl : ck = .function := hcs
  obtain ⟨hH1, hH2⟩ := hH
  replace X : (hd.heap_39 w.params).In h₀ := X
  subst hx
  refine wpAny_call ?_
  k_dflt k_enter
  (with_reducible rename Fr _ _ _ _ => lF0)
  refine frGen3 lF0 (a := PySem.Str.ofString "h") (b := PySem.Str.ofString "s") (c := PySem.Str.ofString "v") (by with_unfolding_all rfl) (by with_unfolding_all rfl) (by with_unfolding_all rfl) ?_
  clear lF0
  intro m0 lF0
  (repeat' ((fail_if_success (with_reducible show wpAny _ _ (compareOp .Eq (Value.int _ _) (Value.int _ _)) _ _ _)); first | (k_unfold; (try dsimp only)) | ((with_reducible show wpAny _ _ (binaryOp .Sub (Value.float _ _) (Value.int _ _)) _ _ _); (refine cl_subfi (inf_k (by with_reducible assumption)) ?_)) | ((with_reducible show ite _ _ _); refine ite_neg (by decide +kernel) ?_) | ((with_reducible show wpAny _ _ (call (Value.type "int") [(Value.float _ _)]) _ _ _); refine my_int_hue (k := _) ?hk9 ?_; (case hk9 => first | with_reducible assumption | decide)) | ((with_reducible show wpAny _ _ (eval (PySem.Expr.Name _ _) (envOf _ _ _ _ _)) _ _ _); k_dflt (refine' nameX_L ?F ?v ?_ ?a ?b; (case F => k_asm); (case a => rfl); (case b => rfl); (case v => rfl); k_whole)) | ((with_reducible show wpAny _ _ (storeName _ _ _) _ _ _); k_dflt (refine' storeX_L ?F ?N ?_ ?a ?b; (case F => k_asm); (case N => k_asm); (case a => rfl); (case b => rfl); k_whole; intro _ _ _; (try k_sweep))) | walk1 | (dsimp only; walk1)))
  have hk' : k = 0 ∨ k = 1 ∨ k = 2 ∨ k = 3 ∨ k = 4 ∨ k = 5 := by omega
  rcases hk' with rfl | rfl | rfl | rfl | rfl | rfl
  all_goals ((repeat' (first | (k_unfold; (try dsimp only)) | (k_end; wrow_close) | ((with_reducible show ite _ _ _); refine ite_pos (by decide +kernel) ?_) | ((with_reducible show ite _ _ _); refine ite_neg (by decide +kernel) ?_) | ((with_reducible show wpAny _ _ (newTuple _) _ _ _); (k_dflt (refine' kup_newTuple ?gF9 ?gN9 ?_ ?gz9; (case gF9 => k_asm); (case gN9 => k_asm); (case gz9 => exact Nat.le_of_ble_eq_true rfl)); intro _ _ _ _; walk_at "MINE ltI")) | ((with_reducible show wpAny _ _ (eval (PySem.Expr.Name _ _) (envOf _ _ _ _ _)) _ _ _); k_dflt (refine' nameX_L ?F ?v ?_ ?a ?b; (case F => k_asm); (case a => rfl); (case b => rfl); (case v => rfl); k_whole)) | walk1 | (dsimp only; walk1) | (leave1; walk_say "STEP leave1"; try dsimp only))); exact hret _ _ _ _ (by assumption) (by assumption) ⟨_, _, _, _, rfl, tup3f (by decide +kernel) (by decide +kernel) (by decide +kernel), by (repeat' ((with_reducible rename AllLt _ _ => z1); first | exact all_lt z1 (by omega) | clear z1))⟩)
theorem hsvW {w : World} {news : Led} (k : Nat) (hk : k < 6) (x : UInt64) (hx : x = hue k) (t1 t2 t3 : Tok) :
   CW K01 P01 w H01 70 1 8 news [.float x t1, .float f1 t2, .float f1 t3] (fun G => ∀ D u1 u2 u3, (∀ q ∈ news, q.1 < D) → G (.ref D) ((D, tup [.float (rgbOf k).1 u1, .float (rgbOf k).2.1 u2, .float (rgbOf k).2.2 u3]) :: news)) :=
  CS.toW (@hsv w news k hk x hx t1 t2 t3) (fun v nw G hR hG => by
    obtain ⟨D, u1, u2, u3, rfl, rfl, r09⟩ := hR
    exact hG D u1 u2 u3 r09)
set_option maxRecDepth 100000 in
set_option maxHeartbeats 4000000 in
theorem rgb {w : World} {news : Led} (x y z : Int) (hx : x = 0 ∨ x = 1) (hy : y = 0 ∨ y = 1) (hz : z = 0 ∨ z = 1) (t1 t2 t3 : Tok) :
   CS K01 P01 w H01 63 1 8 news [.int x t1, .int y t2, .int z t3]
    fun v nw => ∃ D u1 u2 u3, v = .ref D ∧ nw = (D, tup [.float (hueOf x y z) u1, .float (shareOf x y z) u2, .int (valOf3 x y z) u3]) :: news ∧ ∀ q ∈ news, q.1 < D := by
  have hlaw : (fun (_ : OpenLaw) (_ : Params → Frag) => True) Challenge.rw_pg0168_01 hd.heap_39 := by k_fill; exact True.intro
  clear hlaw
  intro p loose mean mg mb dp un gd cn cs L a ccd cl outer A₀ base h₀ m s Q E B F X N T hH hcs hdp hun hret
  obtain ⟨ck, cnm, cg, cc, cm⟩ := cs
  obtain rfl : ck = .function := hcs
  obtain ⟨hH1, hH2⟩ := hH
  replace X : (hd.heap_39 w.params).In h₀ := X
  by_cases hg : x = y ∧ y = z
  · obtain ⟨rfl, rfl⟩ := hg
    rcases hx with rfl | rfl
    all_goals ((repeat' (first | (k_unfold; (try dsimp only)) | (k_end; wrow_close) | ((with_reducible show wpAny _ _ (call (Value.builtin "max") [(Value.int _ _), (Value.int _ _), (Value.int _ _)]) _ _ _); (first | (refine' max3 0 ?hh ?F ?N ?hr ?_; (case hr => decide)) | (refine' max3 1 ?hh ?F ?N ?hr ?_; (case hr => decide))); (case hh => rfl); (case F => k_asm); (case N => k_asm); intro _ _ _ _ _) | ((with_reducible show wpAny _ _ (call (Value.builtin "min") [(Value.int _ _), (Value.int _ _), (Value.int _ _)]) _ _ _); (first | (refine' min3 0 ?hh ?F ?N ?hr ?_; (case hr => decide)) | (refine' min3 1 ?hh ?F ?N ?hr ?_; (case hr => decide))); (case hh => rfl); (case F => k_asm); (case N => k_asm); intro _ _ _ _ _) | ((with_reducible show ite _ _ _); refine ite_pos (by decide +kernel) ?_) | ((with_reducible show wpAny _ _ (newTuple _) _ _ _); (k_dflt (refine' kup_newTuple ?gF9 ?gN9 ?_ ?gz9; (case gF9 => k_asm); (case gN9 => k_asm); (case gz9 => exact Nat.le_of_ble_eq_true rfl)); intro _ _ _ _; walk_at "MINE ltI")) | ((with_reducible show wpAny _ _ (eval (PySem.Expr.Name _ _) (envOf _ _ _ _ _)) _ _ _); k_dflt (refine' nameX_L ?F ?v ?_ ?a ?b; (case F => k_asm); (case a => rfl); (case b => rfl); (case v => rfl); k_whole)) | ((with_reducible show wpAny _ _ (storeName _ _ _) _ _ _); k_dflt (refine' storeX_L ?F ?N ?_ ?a ?b; (case F => k_asm); (case N => k_asm); (case a => rfl); (case b => rfl); k_whole; intro _ _ _; (try k_sweep))) | walk1 | (dsimp only; walk1) | (leave1; walk_say "STEP leave1"; try dsimp only))); exact hret _ _ _ _ (by assumption) (by assumption) ⟨_, _, _, _, rfl, tup2fi (by decide +kernel) (by decide +kernel) (by decide +kernel), by (repeat' ((with_reducible rename AllLt _ _ => z1); first | exact all_lt z1 (by omega) | clear z1))⟩)
  refine wpAny_call ?_
  k_dflt k_enter
  (with_reducible rename Fr _ _ _ _ => lF0)
  refine frGen3 lF0 (a := PySem.Str.ofString "r") (b := PySem.Str.ofString "g") (c := PySem.Str.ofString "b") (by with_unfolding_all rfl) (by with_unfolding_all rfl) (by with_unfolding_all rfl) ?_
  clear lF0
  intro m0 lF0
  (repeat' ((fail_if_success (with_reducible show wpAny _ _ (compareOp .Eq (Value.int _ _) (Value.int _ _)) _ _ _)); first | (k_unfold; (try dsimp only)) | ((with_reducible show wpAny _ _ (call (Value.builtin "max") [(Value.int _ _), (Value.int _ _), (Value.int _ _)]) _ _ _); (refine' max3N ?b1 ?b2 ?b3 ?bg ?hh ?F ?N ?_); (case b1 => with_reducible assumption); (case b2 => with_reducible assumption); (case b3 => with_reducible assumption); (case bg => with_reducible assumption); (case hh => rfl); (case F => k_asm); (case N => k_asm); intro _ _ _ _ _) | ((with_reducible show wpAny _ _ (call (Value.builtin "min") [(Value.int _ _), (Value.int _ _), (Value.int _ _)]) _ _ _); (refine' min3N ?b1 ?b2 ?b3 ?bg ?hh ?F ?N ?_); (case b1 => with_reducible assumption); (case b2 => with_reducible assumption); (case b3 => with_reducible assumption); (case bg => with_reducible assumption); (case hh => rfl); (case F => k_asm); (case N => k_asm); intro _ _ _ _ _) | ((with_reducible show wpAny _ _ (eval (PySem.Expr.Name _ _) (envOf _ _ _ _ _)) _ _ _); k_dflt (refine' nameX_L ?F ?v ?_ ?a ?b; (case F => k_asm); (case a => rfl); (case b => rfl); (case v => rfl); k_whole)) | ((with_reducible show wpAny _ _ (storeName _ _ _) _ _ _); k_dflt (refine' storeX_L ?F ?N ?_ ?a ?b; (case F => k_asm); (case N => k_asm); (case a => rfl); (case b => rfl); k_whole; intro _ _ _; (try k_sweep))) | walk1 | (dsimp only; walk1)))
  walk1
  (repeat' ((fail_if_success (with_reducible show wpAny _ _ (compareOp .Eq (Value.int _ _) (Value.int _ _)) _ _ _)); first | (k_unfold; (try dsimp only)) | ((with_reducible show wpAny _ _ (binaryOp .Div (Value.int _ _) (Value.int _ _)) _ _ _); (refine' my_divbit ?b1 ?_); (case b1 => with_reducible assumption); intro _) | ((with_reducible show wpAny _ _ (binaryOp .Div (Value.int _ _) (Value.int _ _)) _ _ _); refine cl_divii (by decide) (by decide +kernel) ?_) | ((with_reducible show ite _ _ _); refine ite_neg (by decide +kernel) ?_) | ((with_reducible show wpAny _ _ (eval (PySem.Expr.Name _ _) (envOf _ _ _ _ _)) _ _ _); k_dflt (refine' nameX_L ?F ?v ?_ ?a ?b; (case F => k_asm); (case a => rfl); (case b => rfl); (case v => rfl); k_whole)) | ((with_reducible show wpAny _ _ (storeName _ _ _) _ _ _); k_dflt (refine' storeX_L ?F ?N ?_ ?a ?b; (case F => k_asm); (case N => k_asm); (case a => rfl); (case b => rfl); k_whole; intro _ _ _; (try k_sweep))) | walk1 | (dsimp only; walk1)))
  rcases hx with rfl | rfl <;> rcases hy with rfl | rfl <;> rcases hz with rfl | rfl <;> first | exact absurd (by decide) hg | skip
  all_goals ((repeat' (first | (k_unfold; (try dsimp only)) | (k_end; wrow_close) | ((with_reducible show wpAny _ _ (binaryOp .Div (Value.float _ _) (Value.float _ _)) _ _ _); refine cl_divff (by decide +kernel) ?_) | ((with_reducible show wpAny _ _ (binaryOp .Mod (Value.float _ _) (Value.float _ _)) _ _ _); refine cl_modff (by decide +kernel) ?_) | ((with_reducible show ite _ _ _); refine ite_pos (by decide +kernel) ?_) | ((with_reducible show ite _ _ _); refine ite_neg (by decide +kernel) ?_) | ((with_reducible show wpAny _ _ (newTuple _) _ _ _); (k_dflt (refine' kup_newTuple ?gF9 ?gN9 ?_ ?gz9; (case gF9 => k_asm); (case gN9 => k_asm); (case gz9 => exact Nat.le_of_ble_eq_true rfl)); intro _ _ _ _; walk_at "MINE ltI")) | ((with_reducible show wpAny _ _ (eval (PySem.Expr.Name _ _) (envOf _ _ _ _ _)) _ _ _); k_dflt (refine' nameX_L ?F ?v ?_ ?a ?b; (case F => k_asm); (case a => rfl); (case b => rfl); (case v => rfl); k_whole)) | ((with_reducible show wpAny _ _ (storeName _ _ _) _ _ _); k_dflt (refine' storeX_L ?F ?N ?_ ?a ?b; (case F => k_asm); (case N => k_asm); (case a => rfl); (case b => rfl); k_whole; intro _ _ _; (try k_sweep))) | walk1 | (dsimp only; walk1) | (leave1; walk_say "STEP leave1"; try dsimp only))); exact hret _ _ _ _ (by assumption) (by assumption) ⟨_, _, _, _, rfl, tup2fi (by decide +kernel) (by decide +kernel) (by decide +kernel), by (repeat' ((with_reducible rename AllLt _ _ => z1); first | exact all_lt z1 (by omega) | clear z1))⟩)
theorem rgbW {w : World} {news : Led} (x y z : Int) (hx : x = 0 ∨ x = 1) (hy : y = 0 ∨ y = 1) (hz : z = 0 ∨ z = 1) (t1 t2 t3 : Tok) :
   CW K01 P01 w H01 63 1 8 news [.int x t1, .int y t2, .int z t3] (fun G => ∀ D u1 u2 u3, (∀ q ∈ news, q.1 < D) → G (.ref D) ((D, tup [.float (hueOf x y z) u1, .float (shareOf x y z) u2, .int (valOf3 x y z) u3]) :: news)) :=
  CS.toW (@rgb w news x y z hx hy hz t1 t2 t3) (fun v nw G hR hG => by
    obtain ⟨D, u1, u2, u3, rfl, rfl, r09⟩ := hR
    exact hG D u1 u2 u3 r09)
set_option compiler.extract_closed false
set_option maxRecDepth 100000 in
set_option maxHeartbeats 4000000 in
theorem dmp {w : World} {news T0 : Led} (av bv n k : Nat) (ha : av < 2 ^ 60) (hb : 0 < bv) (hb9 : bv < 1073741824) (hn : Builtin.Int.intBits (bv : Int) = n) (hk : ((Builtin.Int.intBits av : Int) + n - 1).fdiv n = (k : Int)) (hk9 : n * k ≤ 80) (hk8 : k < 200) (t1 t2 : Tok)
   (h30 : ∀ p ∈ news, p.1 ≠ 30) (h37 : ∀ p ∈ news, p.1 ≠ 37) (o30 o37 : Obj) (hT30 : Tab30 o30 T0) (hT37 : Tab37 o37 T0) (hs0 : ∀ p ∈ T0, p ∈ news) :
   CS K01 P01 w H01 49 400 4000 ((30, o30) :: (37, o37) :: news) [.int av t1, .int bv t2]
    fun v nw => ∃ D u1 u2 o30' o37' ext, v = .ref D ∧ nw = (D, tup [.int ((av / bv : Nat) : Int) u1, .int ((av % bv : Nat) : Int) u2]) :: (30, o30') :: (37, o37') :: (ext ++ news) ∧ Tab30 o30' (ext ++ T0) ∧ Tab37 o37' (ext ++ T0) ∧ (∀ q ∈ news, q.1 < D) ∧ 37 < D ∧ ∀ q ∈ ext, (∀ p ∈ news, p.1 < q.1) ∧ 37 < q.1 := by
  have hlaw : (fun (_ : OpenLaw) (_ : Params → Frag) => True) Challenge.rw_pg0168_01 hd.heap_39 := by k_fill; exact True.intro
  clear hlaw
  intro p loose mean mg mb dp un gd cn cs L a ccd cl outer A₀ base h₀ m s Q E B F X N T hH hcs hdp hun hret
  obtain ⟨ck, cnm, cg, cc, cm⟩ := cs
  obtain rfl : ck = .function := hcs
  obtain ⟨hH1, hH2⟩ := hH
  replace X : (hd.heap_39 w.params).In h₀ := X
  have hn0 : 0 < n := hn ▸ pow_bits_pos hb
  have hn9 : n ≤ 30 := hn ▸ intBits_le_iff.mpr (by omega)
  refine wpAny_call ?_
  k_dflt k_enter
  (with_reducible rename Fr _ _ _ _ => lF0)
  refine frGen2 lF0 (a := PySem.Str.ofString "a") (b := PySem.Str.ofString "b") (by with_unfolding_all rfl) (by with_unfolding_all rfl) ?_
  clear lF0
  intro m0 lF0
  (repeat' ((fail_if_success (first | (with_reducible show wpAny _ _ (call (Value.ref _) _) _ _ _) | (with_reducible show wpAny _ _ (pyIter _) _ _ _) | (with_reducible show UnrPost _ _ _ _ _ _ _ _ _))); first | (k_unfold; (try dsimp only)) | (k_end; wrow_close) | ((with_reducible show wpAny _ _ (callWith _ (Value.ref _) _ _ _) _ _ _); (k_here; (k_dflt (refine' callWith_K ?k1 ?k2 ?_; (case k1 => k_asm); (case k2 => k_is); k_whole)))) | ((with_reducible show wpAny _ _ (eval (PySem.Expr.Name _ _) (envOf _ _ _ _ _)) _ _ _); k_dflt (refine' nameX_L ?F ?v ?_ ?a ?b; (case F => k_asm); (case a => rfl); (case b => rfl); (case v => rfl); k_whole)) | ((with_reducible show wpAny _ _ (storeName _ _ _) _ _ _); k_dflt (refine' storeX_L ?F ?N ?_ ?a ?b; (case F => k_asm); (case N => k_asm); (case a => rfl); (case b => rfl); k_whole; intro _ _ _; (try k_sweep))) | walk1 | (dsimp only; walk1) | (leave1; walk_say "STEP leave1"; try dsimp only)))
  rw [hn]
  refine' (i2dW (w := w) (T0 := T0) av n k hn0 hk hk8 (by omega) (by omega) _ _ ?h30 o30 hT30 ?hs9).use (K := K01) ?B ?F ?X ?N ?T ⟨hH1, hH2⟩ rfl ?hd ?hu ?_
  case N => k_asm
  case h30 => exact FMC.all ⟨show (37 : Addr) ≠ 30 by decide, h30⟩
  case hs9 => exact fun p hp => .tail _ (hs0 p hp)
  case B => k_asm
  case F => k_asm
  case X => k_asm
  case T => k_asm
  case hd => ktr_room
  case hu => ktr_units
  intro D vs o30' ext T30' hv hlt hext h1 tk1 F1 N1
  replace N1 := newsSub N1 ledA
  have hE37 : ∀ p ∈ ext ++ news, p.1 ≠ 37 := fun p hp => (List.mem_append.mp hp).elim (fun h => Nat.ne_of_gt ((hext p h).1 _ (.head _))) (h37 p)
  have hE30 : ∀ p ∈ ext ++ news, p.1 ≠ 30 := fun p hp => (List.mem_append.mp hp).elim (fun h => Nat.ne_of_gt (hext p h).2) (h30 p)
  (repeat' ((fail_if_success (first | (with_reducible show wpAny _ _ (call (Value.ref _) _) _ _ _) | (with_reducible show wpAny _ _ (pyIter _) _ _ _) | (with_reducible show UnrPost _ _ _ _ _ _ _ _ _))); first | (k_unfold; (try dsimp only)) | (k_end; wrow_close) | ((with_reducible show wpAny _ _ (eval (PySem.Expr.Name _ _) (envOf _ _ _ _ _)) _ _ _); k_dflt (refine' nameX_L ?F ?v ?_ ?a ?b; (case F => k_asm); (case a => rfl); (case b => rfl); (case v => rfl); k_whole)) | ((with_reducible show wpAny _ _ (storeName _ _ _) _ _ _); k_dflt (refine' storeX_L ?F ?N ?_ ?a ?b; (case F => k_asm); (case N => k_asm); (case a => rfl); (case b => rfl); k_whole; intro _ _ _; (try k_sweep))) | walk1 | (dsimp only; walk1) | (leave1; walk_say "STEP leave1"; try dsimp only)))
  rename_i Dq hA q1 q2 q3 q4 hB I hC F5 N5 q5 q6 q7 q8 q9
  rw [digs_cast] at hv
  have hroom := bits_room hn0 hk
  have hdl := digsN_length (2 ^ n) k av
  have hlv : vs.length = k := by have := hv.length; simpa [castL, hdl] using this
  refine' iter_revUnr (vs := vs) (lo := W.listOf vs.toArray 0) (n := 0) rfl ?Fb ?Nb ?off ?hm rfl rfl ?rest
  case Fb => k_asm
  case Nb => k_asm
  case off => exact offI_of (by (repeat' first | exact List.forall_mem_nil _ | (refine FMC.all ⟨?_, ?_⟩; (focus (refine ltN ?_; (try dsimp only); omega))) | assumption | ((with_reducible rename AllLt _ _ => z1); first | exact all_lt z1 (by omega) | clear z1)))
  case hm => k_mem
  case rest =>
    refine' RevIndQ (DivP Dq ((D, W.listOf vs.toArray 0) :: (30, o30') :: (37, o37) :: (ext ++ news)) bv n (divLoop (2 ^ n) bv (digsN (2 ^ n) k av).reverse 0 [])) ?turn ?done _ _ _ ?start
    case start =>
      refine fun _ kk => kk (digsN (2 ^ n) k av).reverse 0 [] [] _ _ _ _ ?_ .nil rfl rfl (by rw [← hn]; exact rfl) rfl hb ?_ ?_ rfl
      · have := ints_reverse hv
        rwa [castL, ← List.map_reverse] at this
      · intro d hd
        exact digsN_lt (Nat.two_pow_pos n) k av hroom d (List.mem_reverse.mp hd)
      · simp [hdl]; omega
    case turn =>
      intro v us m nw hDv
      apply DivP.turn hDv
      clear hDv
      intro d td rd r q qv tr tb tn c hus2 hqv e1 e2 e3 e4 hr hrd hlen hR it h9 tk9 Q9 E9 hU hit F9 N9
      focus
        have hd0 := hrd d (.head _)
        have hr80 : r < 2 ^ 80 := by omega
        rw [mx4 e1 e2 e3 e4] at F9
        (repeat' ((fail_if_success (first | (with_reducible show wpAny _ _ (call (Value.ref _) _) _ _ _) | (with_reducible show wpAny _ _ (pyIter _) _ _ _) | (with_reducible show UnrPost _ _ _ _ _ _ _ _ _))); first | (k_unfold; (try dsimp only)) | (k_end; wrow_close) | ((with_reducible show wpAny _ _ (binaryOp .LShift (Value.int _ _) (Value.int _ _)) _ _ _); with_reducible refine' r_shl ?k1 ?k2 ?_; (case k1 => first | with_reducible assumption | exact div_le_80 (by with_reducible assumption)); (case k2 => first | omega | exact e_ok (by omega) (by omega))) | ((with_reducible show wpAny _ _ (callWith _ (Value.ref _) _ _ _) _ _ _); (k_here; (k_dflt (refine' callWith_K ?k1 ?k2 ?_; (case k1 => k_asm); (case k2 => k_is); k_whole)))) | ((with_reducible show wpAny _ _ (eval (PySem.Expr.Name _ _) (envOf _ _ _ _ _)) _ _ _); k_dflt (refine' nameX_L ?F ?v ?_ ?a ?b; (case F => k_asm); (case a => rfl); (case b => rfl); (case v => rfl); k_whole)) | walk1 | (dsimp only; walk1) | (leave1; walk_say "STEP leave1"; try dsimp only)))
        refine' (div21W (w := w) (r * 2 ^ n + d) bv n (div_room hr hb9 hd0 hn9) hb hb9 _ (Int.natCast_add _ _).symm _ _ _).use (K := K01) ?B1 ?F1 ?X1 ?N1 ?T1 ⟨hH1, hH2⟩ rfl ?hd1 ?hu1 ?_
        case B1 => k_asm
        case F1 => k_asm
        case X1 => k_asm
        case N1 => k_asm
        case T1 => k_asm
        case hd1 => ktr_room
        case hu1 => ktr_units
        intro D2 u1 u2 l2 h2 tk2 F2 N2
        k_lt l2
        (repeat' ((fail_if_success (first | (with_reducible show wpAny _ _ (call (Value.ref _) _) _ _ _) | (with_reducible show wpAny _ _ (pyIter _) _ _ _) | (with_reducible show UnrPost _ _ _ _ _ _ _ _ _))); first | (k_unfold; (try dsimp only)) | (k_end; wrow_close) | ((with_reducible show wpAny _ _ (eval (PySem.Expr.Name _ _) (envOf _ _ _ _ _)) _ _ _); k_dflt (refine' nameX_L ?F ?v ?_ ?a ?b; (case F => k_asm); (case a => rfl); (case b => rfl); (case v => rfl); k_whole)) | ((with_reducible show wpAny _ _ (storeName _ _ _) _ _ _); k_dflt (refine' storeX_L ?F ?N ?_ ?a ?b; (case F => k_asm); (case N => k_asm); (case a => rfl); (case b => rfl); k_whole; intro _ _ _; (try k_sweep))) | walk1 | (dsimp only; walk1) | (leave1; walk_say "STEP leave1"; try dsimp only)))
        (with_reducible rename News _ _ _ _ => N8)
        simp only [List.push_toArray] at N8
        refine hU (by k_asm) N8 _ ?sub ?off ⟨?mem, fun _ kk => kk rd _ _ _ _ _ _ (c + 1) hus2 (ints_pushN hqv _ u1) rfl rfl rfl rfl (Nat.mod_lt _ hb) (fun x hx => hrd x (.tail _ hx)) ?len hR⟩
        case sub => (repeat' first | exact List.forall_mem_nil _ | refine FMC.all ⟨by k_mem, ?_⟩ | (intro p9 hp9; (repeat' first | assumption | refine List.Mem.tail _ ?_)))
        case off => exact ne_lt (by (repeat' first | exact List.forall_mem_nil _ | (refine FMC.all ⟨?_, ?_⟩; (focus (refine ltN ?_; (try dsimp only); omega))) | assumption | ((with_reducible rename AllLt _ _ => z1); first | exact all_lt z1 (by omega) | clear z1)))
        case mem => k_mem
        case len => simp only [List.length_append, List.length_cons, List.length_nil] at hlen ⊢; omega
    case done =>
      intro m nw hDv
      apply DivP.done hDv
      clear hDv
      intro r q qv tr tb tn c hqv e1 e2 e3 e4 hr hlen hR h9 tk9 F9 N9
      focus
        rw [mx4 e1 e2 e3 e4] at F9
        have hlq : qv.length = q.length := by have := hqv.length; simpa [castL] using this
        have hlq9 : qv.length < 200 := by omega
        (repeat' ((fail_if_success (first | (with_reducible show wpAny _ _ (call (Value.ref _) _) _ _ _) | (with_reducible show wpAny _ _ (pyIter _) _ _ _) | (with_reducible show UnrPost _ _ _ _ _ _ _ _ _))); first | (k_unfold; (try dsimp only)) | (k_end; wrow_close) | ((with_reducible show wpAny _ _ (call (Value.builtin "list.reverse") _) _ _ _); (k_dflt (refine' my_reverse ?gF ?gN ?gU ?gz ?_; (case gF => k_asm); (case gN => k_asm); (case gU => k_upd); (case gz => omega)); intro _ _ _)) | ((with_reducible show wpAny _ _ (callWith _ (Value.ref _) _ _ _) _ _ _); (k_here; (k_dflt (refine' callWith_K ?k1 ?k2 ?_; (case k1 => k_asm); (case k2 => k_is); k_whole)))) | ((with_reducible show wpAny _ _ (eval (PySem.Expr.Name _ _) (envOf _ _ _ _ _)) _ _ _); k_dflt (refine' nameX_L ?F ?v ?_ ?a ?b; (case F => k_asm); (case a => rfl); (case b => rfl); (case v => rfl); k_whole)) | walk1 | (dsimp only; walk1) | (leave1; walk_say "STEP leave1"; try dsimp only)))
        obtain ⟨z1, z2, z3, z4⟩ := divAll hb hroom hR
        refine' (d2iW (w := w) (T0 := T0) q.reverse n (by omega) z3 (by rw [z4]; exact hk9) (by omega) Dq qv.reverse c (.head _) ?hi _ ?h37b o37 hT37 ?hTb).use (K := K01) ?B2 ?F2 ?X2 ?N2 ?T2 ⟨hH1, hH2⟩ rfl ?hd2 ?hu2 ?_
        case B2 => k_asm
        case F2 => k_asm
        case X2 => k_asm
        case N2 => exact newsSub (T := (37, o37) :: (Dq, W.listOf qv.reverse.toArray c) :: (30, o30') :: (ext ++ news)) (by k_asm) (by (repeat' first | exact List.forall_mem_nil _ | refine FMC.all ⟨by k_mem, ?_⟩ | (intro p9 hp9; (repeat' first | assumption | refine List.Mem.tail _ ?_))))
        case T2 => k_asm
        case hd2 => ktr_room
        case hu2 => ktr_units
        case hi =>
          have := ints_reverse hqv
          rwa [castL, ← List.map_reverse] at this
        case h37b => exact FMC.all ⟨Nat.ne_of_gt q3, FMC.all ⟨show (30 : Addr) ≠ 37 by decide, hE37⟩⟩
        case hTb => exact fun p hp => .tail _ (.tail _ (List.mem_append.mpr (.inr (hs0 p hp))))
        intro t9 o37' ext2 T37' hext2 h2 tk2 F2 N2
        (repeat' ((fail_if_success (first | (with_reducible show wpAny _ _ (call (Value.ref _) _) _ _ _) | (with_reducible show wpAny _ _ (pyIter _) _ _ _) | (with_reducible show UnrPost _ _ _ _ _ _ _ _ _))); first | (k_unfold; (try dsimp only)) | (k_end; wrow_close) | ((with_reducible show wpAny _ _ (newTuple _) _ _ _); (k_dflt (refine' kup_newTuple ?gF9 ?gN9 ?_ ?gz9; (case gF9 => k_asm); (case gN9 => k_asm); (case gz9 => exact Nat.le_of_ble_eq_true rfl)); intro _ _ _ _; walk_at "MINE ltI")) | ((with_reducible show wpAny _ _ (eval (PySem.Expr.Name _ _) (envOf _ _ _ _ _)) _ _ _); k_dflt (refine' nameX_L ?F ?v ?_ ?a ?b; (case F => k_asm); (case a => rfl); (case b => rfl); (case v => rfl); k_whole)) | ((with_reducible show wpAny _ _ (storeName _ _ _) _ _ _); k_dflt (refine' storeX_L ?F ?N ?_ ?a ?b; (case F => k_asm); (case N => k_asm); (case a => rfl); (case b => rfl); k_whole; intro _ _ _; (try k_sweep))) | walk1 | (dsimp only; walk1) | (leave1; walk_say "STEP leave1"; try dsimp only)))
        (with_reducible rename News _ _ _ _ => kN8)
        (with_reducible rename AllLt _ _ => zl)
        rw [z2] at kN8
        subst z1
        exact hret _ _ _ _ (by k_asm) (newsSub kN8 endLed) ⟨_, _, _, o30', o37', ext2 ++ ext, rfl, rfl, T30'.mono app_mono, T37'.mono app_monoR, fun x hx => allLt_mem zl x (List.mem_append.mpr (.inr (.tail _ (.tail _ (List.mem_append.mpr (.inr hx)))))), by k_asm, fresh_app hext2 hext⟩
noncomputable def DmPost (news T0 : Led) (x y : Int) (v : Value) (nw : Led) : Prop :=
  ∃ D u1 u2 o30' o37' ext, v = .ref D ∧ nw = (D, tup [.int (x.fdiv y) u1, .int (x.fmod y) u2]) :: (30, o30') :: (37, o37') :: (ext ++ news) ∧ Tab30 o30' (ext ++ T0) ∧ Tab37 o37' (ext ++ T0) ∧ (∀ q ∈ news, q.1 < D) ∧ 37 < D ∧ ∀ q ∈ ext, (∀ p ∈ news, p.1 < q.1) ∧ 37 < q.1
theorem dmpW {w : World} {news T0 : Led} (av bv n k : Nat) (ha : av < 2 ^ 60) (hb : 0 < bv) (hb9 : bv < 1073741824) (hn : Builtin.Int.intBits (bv : Int) = n) (hk : ((Builtin.Int.intBits av : Int) + n - 1).fdiv n = (k : Int)) (hk9 : n * k ≤ 80) (hk8 : k < 200) (t1 t2 : Tok)
   (h30 : ∀ p ∈ news, p.1 ≠ 30) (h37 : ∀ p ∈ news, p.1 ≠ 37) (o30 o37 : Obj) (hT30 : Tab30 o30 T0) (hT37 : Tab37 o37 T0) (hs0 : ∀ p ∈ T0, p ∈ news) :
   CW K01 P01 w H01 49 400 4000 ((30, o30) :: (37, o37) :: news) [.int av t1, .int bv t2] (fun G => ∀ D u1 u2 o30' o37' ext, (Tab30 o30' (ext ++ T0)) → (Tab37 o37' (ext ++ T0)) → ((∀ q ∈ news, q.1 < D)) → (37 < D) → (∀ q ∈ ext, (∀ p ∈ news, p.1 < q.1) ∧ 37 < q.1) → G (.ref D) ((D, tup [.int ((av / bv : Nat) : Int) u1, .int ((av % bv : Nat) : Int) u2]) :: (30, o30') :: (37, o37') :: (ext ++ news))) :=
  CS.toW (@dmp w news T0 av bv n k ha hb hb9 hn hk hk9 hk8 t1 t2 h30 h37 o30 o37 hT30 hT37 hs0) (fun v nw G hR hG => by
    obtain ⟨D, u1, u2, o30', o37', ext, rfl, rfl, r09, r19, r29, r39, r49⟩ := hR
    exact hG D u1 u2 o30' o37' ext r09 r19 r29 r39 r49)
set_option maxRecDepth 100000 in
set_option maxHeartbeats 4000000 in
theorem idm0 {w : World} {news T0 : Led} (av bv : Nat) (ha : av < 2 ^ 60) (hb : 0 < bv) (hb9 : bv < 65536) (x y : Int) (hx : x = (av : Int)) (hy : y = (bv : Int)) (t1 t2 : Tok) (h30 : ∀ p ∈ news, p.1 ≠ 30) (h37 : ∀ p ∈ news, p.1 ≠ 37) (o30 o37 : Obj) (hT30 : Tab30 o30 T0) (hT37 : Tab37 o37 T0) (hs0 : ∀ p ∈ T0, p ∈ news) :
   CS K01 P01 w H01 56 420 4200 ((30, o30) :: (37, o37) :: news) [.int x t1, .int y t2] (DmPost news T0 x y) := by
  subst hx; subst hy
  have hlaw : (fun (_ : OpenLaw) (_ : Params → Frag) => True) Challenge.rw_pg0168_01 hd.heap_39 := by k_fill; exact True.intro
  clear hlaw
  intro p loose mean mg mb dp un gd cn cs L a ccd cl outer A₀ base h₀ m s Q E B F X N T hH hcs hdp hun hret
  obtain ⟨ck, cnm, cg, cc, cm⟩ := cs
  obtain rfl : ck = .function := hcs
  obtain ⟨hH1, hH2⟩ := hH
  replace X : (hd.heap_39 w.params).In h₀ := X
  obtain ⟨n, k, e1, e2, e3, e4⟩ := div_k ha hb hb9
  refine wpAny_call ?_
  k_dflt k_enter
  (with_reducible rename Fr _ _ _ _ => lF0)
  refine frGen2 lF0 (a := PySem.Str.ofString "a") (b := PySem.Str.ofString "b") (by with_unfolding_all rfl) (by with_unfolding_all rfl) ?_
  clear lF0
  intro m0 lF0
  (repeat' ((fail_if_success (first | (with_reducible show wpAny _ _ (call (Value.ref _) _) _ _ _) | (with_reducible show wpAny _ _ (pyIter _) _ _ _) | (with_reducible show UnrPost _ _ _ _ _ _ _ _ _))); first | (k_unfold; (try dsimp only)) | (k_end; wrow_close) | ((with_reducible show ite _ _ _); refine ite_neg (by first | omega | (simp only [beq_iff_eq, bne_iff_ne, decide_eq_true_eq, Int.not_lt, Int.not_le]; omega)) ?_) | ((with_reducible show wpAny _ _ (callWith _ (Value.ref _) _ _ _) _ _ _); (k_here; (k_dflt (refine' callWith_K ?k1 ?k2 ?_; (case k1 => k_asm); (case k2 => k_is); k_whole)))) | ((with_reducible show wpAny _ _ (eval (PySem.Expr.Name _ _) (envOf _ _ _ _ _)) _ _ _); k_dflt (refine' nameX_L ?F ?v ?_ ?a ?b; (case F => k_asm); (case a => rfl); (case b => rfl); (case v => rfl); k_whole)) | walk1 | (dsimp only; walk1) | (leave1; walk_say "STEP leave1"; try dsimp only)))
  refine' ((dmpW (w := w) (T0 := T0) av bv n k ha hb (by omega) e1 e2 e3 e4) _ _ h30 h37 o30 o37 hT30 hT37 hs0).use (K := K01) ?B ?F ?X ?N ?T ⟨hH1, hH2⟩ rfl ?hd ?hu ?_
  case N => k_asm
  case B => k_asm
  case F => k_asm
  case X => k_asm
  case T => k_asm
  case hd => ktr_room
  case hu => ktr_units
  intro D u1 u2 o30' o37' ext T30' T37' l1 l2 l3 h1 tk1 F1 N1
  (repeat' ((fail_if_success (first | (with_reducible show wpAny _ _ (call (Value.ref _) _) _ _ _) | (with_reducible show wpAny _ _ (pyIter _) _ _ _) | (with_reducible show UnrPost _ _ _ _ _ _ _ _ _))); first | (k_unfold; (try dsimp only)) | (k_end; wrow_close) | walk1 | (dsimp only; walk1) | (leave1; walk_say "STEP leave1"; try dsimp only)))
  rw [(fdm_nat av bv).1, (fdm_nat av bv).2] at N1
  exact hret _ _ _ _ (by k_asm) (by k_asm) ⟨D, u1, u2, o30', o37', ext, rfl, by rw [(fdm_nat av bv).1, (fdm_nat av bv).2], T30', T37', l1, l2, l3⟩
theorem idm0W {w : World} {news T0 : Led} (av bv : Nat) (ha : av < 2 ^ 60) (hb : 0 < bv) (hb9 : bv < 65536) (x y : Int) (hx : x = (av : Int)) (hy : y = (bv : Int)) (t1 t2 : Tok) (h30 : ∀ p ∈ news, p.1 ≠ 30) (h37 : ∀ p ∈ news, p.1 ≠ 37) (o30 o37 : Obj) (hT30 : Tab30 o30 T0) (hT37 : Tab37 o37 T0) (hs0 : ∀ p ∈ T0, p ∈ news) :
   CW K01 P01 w H01 56 420 4200 ((30, o30) :: (37, o37) :: news) [.int x t1, .int y t2] (fun G => ∀ D u1 u2 o30' o37' ext, (Tab30 o30' (ext ++ T0)) → (Tab37 o37' (ext ++ T0)) → ((∀ q ∈ news, q.1 < D)) → (37 < D) → (∀ q ∈ ext, (∀ p ∈ news, p.1 < q.1) ∧ 37 < q.1) → G (.ref D) ((D, tup [.int (x.fdiv y) u1, .int (x.fmod y) u2]) :: (30, o30') :: (37, o37') :: (ext ++ news))) :=
  CS.toW (@idm0 w news T0 av bv ha hb hb9 x y hx hy t1 t2 h30 h37 o30 o37 hT30 hT37 hs0) (fun v nw G hR hG => by
    obtain ⟨D, u1, u2, o30', o37', ext, rfl, rfl, r09, r19, r29, r39, r49⟩ := hR
    exact hG D u1 u2 o30' o37' ext r09 r19 r29 r39 r49)
set_option maxRecDepth 100000 in
set_option maxHeartbeats 4000000 in
theorem idm1 {w : World} {news T0 : Led} (x : Int) (bv : Nat) (ha : x.natAbs < 2 ^ 59) (hb : 0 < bv) (hb9 : bv < 65536) (y : Int) (hy : y = (bv : Int)) (t1 t2 : Tok) (h30 : ∀ p ∈ news, p.1 ≠ 30) (h37 : ∀ p ∈ news, p.1 ≠ 37) (o30 o37 : Obj) (hT30 : Tab30 o30 T0) (hT37 : Tab37 o37 T0) (hs0 : ∀ p ∈ T0, p ∈ news) :
   CS K01 P01 w H01 56 440 4400 ((30, o30) :: (37, o37) :: news) [.int x t1, .int y t2] (DmPost news T0 x y) := by
  by_cases hx : 0 ≤ x
  · intro p loose mean mg mb dp un gd cn cs L a ccd cl outer A₀ base h₀ m s Q E B F X N T hH hcs hdp hun hret
    exact (idm0 x.toNat bv (by omega) hb hb9 x y (by omega) hy t1 t2 h30 h37 o30 o37 hT30 hT37 hs0).use B F X N T hH hcs (by omega) (by omega) hret
  subst hy
  have hlaw : (fun (_ : OpenLaw) (_ : Params → Frag) => True) Challenge.rw_pg0168_01 hd.heap_39 := by k_fill; exact True.intro
  clear hlaw
  intro p loose mean mg mb dp un gd cn cs L a ccd cl outer A₀ base h₀ m s Q E B F X N T hH hcs hdp hun hret
  obtain ⟨ck, cnm, cg, cc, cm⟩ := cs
  obtain rfl : ck = .function := hcs
  obtain ⟨hH1, hH2⟩ := hH
  replace X : (hd.heap_39 w.params).In h₀ := X
  refine wpAny_call ?_
  k_dflt k_enter
  (with_reducible rename Fr _ _ _ _ => lF0)
  refine frGen2 lF0 (a := PySem.Str.ofString "a") (b := PySem.Str.ofString "b") (by with_unfolding_all rfl) (by with_unfolding_all rfl) ?_
  clear lF0
  intro m0 lF0
  (repeat' ((fail_if_success (first | (with_reducible show wpAny _ _ (call (Value.ref _) _) _ _ _) | (with_reducible show wpAny _ _ (pyIter _) _ _ _) | (with_reducible show UnrPost _ _ _ _ _ _ _ _ _))); first | (k_unfold; (try dsimp only)) | (k_end; wrow_close) | ((with_reducible show ite _ _ _); refine ite_pos (by first | omega | (simp only [beq_iff_eq, bne_iff_ne, decide_eq_true_eq, Int.not_lt, Int.not_le]; omega)) ?_) | ((with_reducible show ite _ _ _); refine ite_neg (by first | omega | (simp only [beq_iff_eq, bne_iff_ne, decide_eq_true_eq, Int.not_lt, Int.not_le]; omega)) ?_) | ((with_reducible show wpAny _ _ (callWith _ (Value.ref _) _ _ _) _ _ _); (k_here; (k_dflt (refine' callWith_K ?k1 ?k2 ?_; (case k1 => k_asm); (case k2 => k_is); k_whole)))) | ((with_reducible show wpAny _ _ (eval (PySem.Expr.Name _ _) (envOf _ _ _ _ _)) _ _ _); k_dflt (refine' nameX_L ?F ?v ?_ ?a ?b; (case F => k_asm); (case a => rfl); (case b => rfl); (case v => rfl); k_whole)) | walk1 | (dsimp only; walk1) | (leave1; walk_say "STEP leave1"; try dsimp only)))
  refine' ((idm0W (w := w) (T0 := T0) (-x - 1).toNat bv (by omega) hb hb9 _ _ ?hx rfl) _ _ h30 h37 o30 o37 hT30 hT37 hs0).use (K := K01) ?B ?F ?X ?N ?T ⟨hH1, hH2⟩ rfl ?hd ?hu ?_
  case N => k_asm
  case B => k_asm
  case F => k_asm
  case X => k_asm
  case T => k_asm
  case hd => ktr_room
  case hu => ktr_units
  case hx => show Builtin.bitNot x = _; unfold Builtin.bitNot; omega
  intro D u1 u2 o30' o37' ext T30' T37' l1 l2 l3 h1 tk1 F1 N1
  (repeat' ((fail_if_success (first | (with_reducible show wpAny _ _ (call (Value.ref _) _) _ _ _) | (with_reducible show wpAny _ _ (pyIter _) _ _ _) | (with_reducible show UnrPost _ _ _ _ _ _ _ _ _))); first | (k_unfold; (try dsimp only)) | (k_end; wrow_close) | ((with_reducible show wpAny _ _ (newTuple _) _ _ _); (k_dflt (refine' kup_newTuple ?gF9 ?gN9 ?_ ?gz9; (case gF9 => k_asm); (case gN9 => k_asm); (case gz9 => exact Nat.le_of_ble_eq_true rfl)); intro _ _ _ _; walk_at "MINE ltI")) | ((with_reducible show wpAny _ _ (eval (PySem.Expr.Name _ _) (envOf _ _ _ _ _)) _ _ _); k_dflt (refine' nameX_L ?F ?v ?_ ?a ?b; (case F => k_asm); (case a => rfl); (case b => rfl); (case v => rfl); k_whole)) | ((with_reducible show wpAny _ _ (storeName _ _ _) _ _ _); k_dflt (refine' storeX_L ?F ?N ?_ ?a ?b; (case F => k_asm); (case N => k_asm); (case a => rfl); (case b => rfl); k_whole; intro _ _ _; (try k_sweep))) | walk1 | (dsimp only; walk1) | (leave1; walk_say "STEP leave1"; try dsimp only)))
  (with_reducible rename News _ _ _ _ => kN8)
  (with_reducible rename AllLt _ _ => zl)
  exact hret _ _ _ _ (by k_asm) (newsSub kN8 dropLed) ⟨_, _, _, o30', o37', ext, rfl, tupII (not1 x bv hb).1 (not1 x bv hb).2, T30', T37', fun z hz => allLt_mem zl z (List.mem_append.mpr (.inr hz)), by k_asm, l3⟩
theorem idm1W {w : World} {news T0 : Led} (x : Int) (bv : Nat) (ha : x.natAbs < 2 ^ 59) (hb : 0 < bv) (hb9 : bv < 65536) (y : Int) (hy : y = (bv : Int)) (t1 t2 : Tok) (h30 : ∀ p ∈ news, p.1 ≠ 30) (h37 : ∀ p ∈ news, p.1 ≠ 37) (o30 o37 : Obj) (hT30 : Tab30 o30 T0) (hT37 : Tab37 o37 T0) (hs0 : ∀ p ∈ T0, p ∈ news) :
   CW K01 P01 w H01 56 440 4400 ((30, o30) :: (37, o37) :: news) [.int x t1, .int y t2] (fun G => ∀ D u1 u2 o30' o37' ext, (Tab30 o30' (ext ++ T0)) → (Tab37 o37' (ext ++ T0)) → ((∀ q ∈ news, q.1 < D)) → (37 < D) → (∀ q ∈ ext, (∀ p ∈ news, p.1 < q.1) ∧ 37 < q.1) → G (.ref D) ((D, tup [.int (x.fdiv y) u1, .int (x.fmod y) u2]) :: (30, o30') :: (37, o37') :: (ext ++ news))) :=
  CS.toW (@idm1 w news T0 x bv ha hb hb9 y hy t1 t2 h30 h37 o30 o37 hT30 hT37 hs0) (fun v nw G hR hG => by
    obtain ⟨D, u1, u2, o30', o37', ext, rfl, rfl, r09, r19, r29, r39, r49⟩ := hR
    exact hG D u1 u2 o30' o37' ext r09 r19 r29 r39 r49)
set_option maxRecDepth 100000 in
set_option maxHeartbeats 4000000 in
theorem idm {w : World} {news T0 : Led} (x : Int) (bv : Nat) (ha : x.natAbs < 2 ^ 59) (hb : 0 < bv) (hb9 : bv < 65536) (y : Int) (hy : y = -(bv : Int)) (t1 t2 : Tok) (h30 : ∀ p ∈ news, p.1 ≠ 30) (h37 : ∀ p ∈ news, p.1 ≠ 37) (o30 o37 : Obj) (hT30 : Tab30 o30 T0) (hT37 : Tab37 o37 T0) (hs0 : ∀ p ∈ T0, p ∈ news) :
   CS K01 P01 w H01 56 460 4600 ((30, o30) :: (37, o37) :: news) [.int x t1, .int y t2] (DmPost news T0 x y) := by
  subst hy
  have hlaw : (fun (_ : OpenLaw) (_ : Params → Frag) => True) Challenge.rw_pg0168_01 hd.heap_39 := by k_fill; exact True.intro
  clear hlaw
  intro p loose mean mg mb dp un gd cn cs L a ccd cl outer A₀ base h₀ m s Q E B F X N T hH hcs hdp hun hret
  obtain ⟨ck, cnm, cg, cc, cm⟩ := cs
  obtain rfl : ck = .function := hcs
  obtain ⟨hH1, hH2⟩ := hH
  replace X : (hd.heap_39 w.params).In h₀ := X
  refine wpAny_call ?_
  k_dflt k_enter
  (with_reducible rename Fr _ _ _ _ => lF0)
  refine frGen2 lF0 (a := PySem.Str.ofString "a") (b := PySem.Str.ofString "b") (by with_unfolding_all rfl) (by with_unfolding_all rfl) ?_
  clear lF0
  intro m0 lF0
  (repeat' ((fail_if_success (first | (with_reducible show wpAny _ _ (call (Value.ref _) _) _ _ _) | (with_reducible show wpAny _ _ (pyIter _) _ _ _) | (with_reducible show UnrPost _ _ _ _ _ _ _ _ _))); first | (k_unfold; (try dsimp only)) | (k_end; wrow_close) | ((with_reducible show ite _ _ _); refine ite_pos (by first | omega | (simp only [beq_iff_eq, bne_iff_ne, decide_eq_true_eq, Int.not_lt, Int.not_le]; omega)) ?_) | ((with_reducible show ite _ _ _); refine ite_neg (by first | omega | (simp only [beq_iff_eq, bne_iff_ne, decide_eq_true_eq, Int.not_lt, Int.not_le]; omega)) ?_) | ((with_reducible show wpAny _ _ (callWith _ (Value.ref _) _ _ _) _ _ _); (k_here; (k_dflt (refine' callWith_K ?k1 ?k2 ?_; (case k1 => k_asm); (case k2 => k_is); k_whole)))) | ((with_reducible show wpAny _ _ (eval (PySem.Expr.Name _ _) (envOf _ _ _ _ _)) _ _ _); k_dflt (refine' nameX_L ?F ?v ?_ ?a ?b; (case F => k_asm); (case a => rfl); (case b => rfl); (case v => rfl); k_whole)) | walk1 | (dsimp only; walk1) | (leave1; walk_say "STEP leave1"; try dsimp only)))
  refine' ((idm1W (w := w) (T0 := T0) (-x) bv (by omega) hb hb9 _ (by omega)) _ _ h30 h37 o30 o37 hT30 hT37 hs0).use (K := K01) ?B ?F ?X ?N ?T ⟨hH1, hH2⟩ rfl ?hd ?hu ?_
  case N => k_asm
  case B => k_asm
  case F => k_asm
  case X => k_asm
  case T => k_asm
  case hd => ktr_room
  case hu => ktr_units
  intro D u1 u2 o30' o37' ext T30' T37' l1 l2 l3 h1 tk1 F1 N1
  (repeat' ((fail_if_success (first | (with_reducible show wpAny _ _ (call (Value.ref _) _) _ _ _) | (with_reducible show wpAny _ _ (pyIter _) _ _ _) | (with_reducible show UnrPost _ _ _ _ _ _ _ _ _))); first | (k_unfold; (try dsimp only)) | (k_end; wrow_close) | ((with_reducible show wpAny _ _ (newTuple _) _ _ _); (k_dflt (refine' kup_newTuple ?gF9 ?gN9 ?_ ?gz9; (case gF9 => k_asm); (case gN9 => k_asm); (case gz9 => exact Nat.le_of_ble_eq_true rfl)); intro _ _ _ _; walk_at "MINE ltI")) | ((with_reducible show wpAny _ _ (eval (PySem.Expr.Name _ _) (envOf _ _ _ _ _)) _ _ _); k_dflt (refine' nameX_L ?F ?v ?_ ?a ?b; (case F => k_asm); (case a => rfl); (case b => rfl); (case v => rfl); k_whole)) | ((with_reducible show wpAny _ _ (storeName _ _ _) _ _ _); k_dflt (refine' storeX_L ?F ?N ?_ ?a ?b; (case F => k_asm); (case N => k_asm); (case a => rfl); (case b => rfl); k_whole; intro _ _ _; (try k_sweep))) | walk1 | (dsimp only; walk1) | (leave1; walk_say "STEP leave1"; try dsimp only)))
  (with_reducible rename News _ _ _ _ => kN8)
  (with_reducible rename AllLt _ _ => zl)
  exact hret _ _ _ _ (by k_asm) (newsSub kN8 dropLed) ⟨_, _, _, o30', o37', ext, rfl, tupII (by rw [Int.neg_neg]; exact (fdm_neg x bv).1.symm) (by rw [Int.neg_neg]; exact (fdm_neg x bv).2.symm), T30', T37', fun z hz => allLt_mem zl z (List.mem_append.mpr (.inr hz)), by k_asm, l3⟩
theorem idmW {w : World} {news T0 : Led} (x : Int) (bv : Nat) (ha : x.natAbs < 2 ^ 59) (hb : 0 < bv) (hb9 : bv < 65536) (y : Int) (hy : y = -(bv : Int)) (t1 t2 : Tok) (h30 : ∀ p ∈ news, p.1 ≠ 30) (h37 : ∀ p ∈ news, p.1 ≠ 37) (o30 o37 : Obj) (hT30 : Tab30 o30 T0) (hT37 : Tab37 o37 T0) (hs0 : ∀ p ∈ T0, p ∈ news) :
   CW K01 P01 w H01 56 460 4600 ((30, o30) :: (37, o37) :: news) [.int x t1, .int y t2] (fun G => ∀ D u1 u2 o30' o37' ext, (Tab30 o30' (ext ++ T0)) → (Tab37 o37' (ext ++ T0)) → ((∀ q ∈ news, q.1 < D)) → (37 < D) → (∀ q ∈ ext, (∀ p ∈ news, p.1 < q.1) ∧ 37 < q.1) → G (.ref D) ((D, tup [.int (x.fdiv y) u1, .int (x.fmod y) u2]) :: (30, o30') :: (37, o37') :: (ext ++ news))) :=
  CS.toW (@idm w news T0 x bv ha hb hb9 y hy t1 t2 h30 h37 o30 o37 hT30 hT37 hs0) (fun v nw G hR hG => by
    obtain ⟨D, u1, u2, o30', o37', ext, rfl, rfl, r09, r19, r29, r39, r49⟩ := hR
    exact hG D u1 u2 o30' o37' ext r09 r19 r29 r39 r49)
set_option compiler.extract_closed false
set_option maxRecDepth 100000 in
set_option maxHeartbeats 4000000 in
theorem lpoint {w : World} {news : Led} (x : PySem.Str) (hx : ∀ c ∈ x.cps.toList, isLet c) (hl : x.length ≤ 50) (tn : Nat) (htn : tn ≤ 12) (tx tt : Tok) :
   CS K01 P01 w H01 82 60 600 news [.str x tx, .int tn tt] fun v nw => ∃ D u0 u1 u2 c, v = .ref D ∧ nw = (D, lst3 (ptF tn x.cps.toList 1 (0, 0, 0)) u0 u1 u2 c) :: news ∧ (∀ q ∈ news, q.1 < D) := by
  have hlaw : (fun (_ : OpenLaw) (_ : Params → Frag) => True) Challenge.rw_pg0168_01 hd.heap_39 := by k_fill; exact True.intro
  clear hlaw
  intro p loose mean mg mb dp un gd cn cs L a ccd cl outer A₀ base h₀ m s Q E B F X N T hH hcs hdp hun hret
  obtain ⟨ck, cnm, cg, cc, cm⟩ := cs
  obtain rfl : ck = .function := hcs
  obtain ⟨hH1, hH2⟩ := hH
  replace X : (hd.heap_39 w.params).In h₀ := X
  refine wpAny_call ?_
  k_dflt k_enter
  (with_reducible rename Fr _ _ _ _ => lF0)
  refine frGen2 lF0 (a := PySem.Str.ofString "word") (b := PySem.Str.ofString "turn") (by with_unfolding_all rfl) (by with_unfolding_all rfl) ?_
  clear lF0
  intro m0 lF0
  (repeat' ((fail_if_success (first | (with_reducible show wpAny _ _ (call (Value.ref _) _) _ _ _) | (with_reducible show wpAny _ _ (pyIter _) _ _ _) | (with_reducible show UnrPost _ _ _ _ _ _ _ _ _) | (with_reducible show wpAny _ _ (exec (Stmt.Assign _ (PySem.Expr.ListComp _ _ _ _) _) _) _ _ _) | (with_reducible show wpAny _ _ (eval (PySem.Expr.ListComp _ _ _ _) _) _ _ _) | (with_reducible show wpAny _ _ (call (Value.type "zip") _) _ _ _) | (with_reducible show MEnd _ _ _ _ _ _ _ _ _ _ _ _ _) | (with_reducible show wpAny _ _ (exec (Stmt.For _ _ _ _ _) _) _ _ _) | (with_reducible show wpAny _ _ (exec (Stmt.While _ _ _ _) _) _ _ _) | (with_reducible show wpAny _ _ (eval (PySem.Expr.IfExp _ _ _ _) _) _ _ _))); first | (k_unfold; (try dsimp only)) | (k_end; wrow_close) | ((with_reducible show wpAny _ _ (storeName _ _ _) _ _ _); k_dflt (refine' storeX_L ?F ?N ?_ ?a ?b; (case F => k_asm); (case N => k_asm); (case a => rfl); (case b => rfl); k_whole; intro _ _ _; (try k_sweep))) | walk1 | (dsimp only; walk1) | (leave1; walk_say "STEP leave1"; try dsimp only)))
  (with_reducible rename Fr _ _ _ _ => lF)
  with_unfolding_all refine' For_invVF lF ?k1 ?k2 ?_
  case k1 => exact rfl
  case k2 => exact rfl
  (repeat' ((fail_if_success (first | (with_reducible show wpAny _ _ (call (Value.ref _) _) _ _ _) | (with_reducible show wpAny _ _ (pyIter _) _ _ _) | (with_reducible show UnrPost _ _ _ _ _ _ _ _ _) | (with_reducible show wpAny _ _ (exec (Stmt.Assign _ (PySem.Expr.ListComp _ _ _ _) _) _) _ _ _) | (with_reducible show wpAny _ _ (eval (PySem.Expr.ListComp _ _ _ _) _) _ _ _) | (with_reducible show wpAny _ _ (call (Value.type "zip") _) _ _ _) | (with_reducible show MEnd _ _ _ _ _ _ _ _ _ _ _ _ _) | (with_reducible show wpAny _ _ (exec (Stmt.For _ _ _ _ _) _) _ _ _) | (with_reducible show wpAny _ _ (exec (Stmt.While _ _ _ _) _) _ _ _) | (with_reducible show wpAny _ _ (eval (PySem.Expr.IfExp _ _ _ _) _) _ _ _))); first | (k_unfold; (try dsimp only)) | (k_end; wrow_close) | ((with_reducible show wpAny _ _ (eval (PySem.Expr.Name _ _) (envOfC _ _ _ _ _)) _ _ _); k_dflt (refine' nameX_L ?F ?v ?_ ?a ?b; (case F => k_asm); (case a => rfl); (case b => rfl); (case v => rfl); k_whole)) | walk1 | (dsimp only; walk1) | (leave1; walk_say "STEP leave1"; try dsimp only)))
  rename_i g1 L1 hA tkA FG1 B1 X1 T1 lA oA dA D1 hB qD qL hC hD2 oC N1 dC
  refine' iter_strUnr (l := x.cps.toList.map (fun c => (⟨#[c]⟩ : PySem.Str))) rfl ?Fb ?Nb rfl ?rest
  case Fb => k_asm
  case Nb => k_asm
  case rest =>
    intro I hI
    k_lt hI
    refine StrIndQ (LpP I (L1 + 1) tn tt news (ptF tn x.cps.toList 1 (0, 0, 0))) ?turn ?done _ _ _ ?start
    case start => exact LpP.mk x.cps.toList hx dC qD (Nat.ne_of_lt (by omega : @LT.lt Nat _ D1 I)) rfl rfl rfl rfl (j := 0) (by simpa [PySem.Str.length] using (by omega : x.length ≤ 60))
    case turn =>
      intro c us m nw hLp
      apply LpP.turn hLp
      clear hLp
      intro c0 cs wv pt D cD u0 u1 u2 tw o hc0 hcs ho hLD hDIx e1 e2 hR j hj hj60 u it h9 tk9 Q9 E9 hU F9 N9
      focus
        have hDI : D ≠ L1 + 1 := Nat.ne_of_gt hLD
        have hwv := two_lt_64 hj hj60
        rw [mx2 e1 e2] at F9
        by_cases hk : c0 = 107
        · subst hk
          (repeat' ((fail_if_success (first | (with_reducible show wpAny _ _ (call (Value.ref _) _) _ _ _) | (with_reducible show wpAny _ _ (pyIter _) _ _ _) | (with_reducible show UnrPost _ _ _ _ _ _ _ _ _) | (with_reducible show wpAny _ _ (exec (Stmt.Assign _ (PySem.Expr.ListComp _ _ _ _) _) _) _ _ _) | (with_reducible show wpAny _ _ (eval (PySem.Expr.ListComp _ _ _ _) _) _ _ _) | (with_reducible show wpAny _ _ (call (Value.type "zip") _) _ _ _) | (with_reducible show MEnd _ _ _ _ _ _ _ _ _ _ _ _ _) | (with_reducible show wpAny _ _ (exec (Stmt.For _ _ _ _ _) _) _ _ _) | (with_reducible show wpAny _ _ (exec (Stmt.While _ _ _ _) _) _ _ _) | (with_reducible show wpAny _ _ (eval (PySem.Expr.IfExp _ _ _ _) _) _ _ _))); first | (k_unfold; (try dsimp only)) | (k_end; wrow_close) | ((with_reducible show ite _ _ _); refine ite_neg (by decide +kernel) ?_) | ((with_reducible show wpAny _ _ (eval (PySem.Expr.Name _ _) (envOfC _ _ _ _ _)) _ _ _); k_dflt (refine' nameX_L ?F ?v ?_ ?a ?b; (case F => k_asm); (case a => rfl); (case b => rfl); (case v => rfl); k_whole)) | walk1 | (dsimp only; walk1) | (leave1; walk_say "STEP leave1"; try dsimp only)))
          refine hU (by k_asm) (by k_asm) ((D, lst3 pt u0 u1 u2 cD) :: (L1 + 1, _) :: news) (by (repeat' first | exact List.forall_mem_nil _ | refine FMC.all ⟨by k_mem, ?_⟩ | (intro p9 hp9; (repeat' first | assumption | refine List.Mem.tail _ ?_)))) (FMC.all ⟨hDIx, FMC.all ⟨Nat.ne_of_lt (by omega : @LT.lt Nat _ (L1 + 1) I), fun p hp => Nat.ne_of_lt (allLt_mem hI p hp)⟩⟩) (LpP.mkStep cs hcs (by k_asm) hLD hDIx rfl rfl hR hj hj60)
        · have hc3 := isLet3 hc0 hk
          rw [ptF, if_neg hk] at hR
          have hdv := turn_cast (ixOf c0) tn
          have hk6 : (ixOf c0 * 2 + tn) % 6 < 6 := Nat.mod_lt _ (by decide)
          obtain ⟨bt1, bt2, bt3⟩ := bitOf_corner hk6
          (repeat' ((fail_if_success (first | (with_reducible show wpAny _ _ (call (Value.ref _) _) _ _ _) | (with_reducible show wpAny _ _ (pyIter _) _ _ _) | (with_reducible show UnrPost _ _ _ _ _ _ _ _ _) | (with_reducible show wpAny _ _ (exec (Stmt.Assign _ (PySem.Expr.ListComp _ _ _ _) _) _) _ _ _) | (with_reducible show wpAny _ _ (eval (PySem.Expr.ListComp _ _ _ _) _) _ _ _) | (with_reducible show wpAny _ _ (call (Value.type "zip") _) _ _ _) | (with_reducible show MEnd _ _ _ _ _ _ _ _ _ _ _ _ _) | (with_reducible show wpAny _ _ (exec (Stmt.For _ _ _ _ _) _) _ _ _) | (with_reducible show wpAny _ _ (exec (Stmt.While _ _ _ _) _) _ _ _) | (with_reducible show wpAny _ _ (eval (PySem.Expr.IfExp _ _ _ _) _) _ _ _))); first | (k_unfold; (try dsimp only)) | (k_end; wrow_close) | ((with_reducible show wpAny _ _ (call (Value.builtin "str.find") _) _ _ _); (refine my_findL (by with_reducible assumption) ?_; intro _ _)) | (with_reducible refine my_neK (by with_reducible assumption) ?_) | ((with_reducible show wpAny _ _ (binaryOp .Div (Value.int _ _) (Value.int _ _)) _ _ _); (refine' my_div6 ?hX9 ?hk9 ?_); (case hX9 => with_reducible assumption); (case hk9 => with_reducible assumption)) | ((with_reducible show ite _ _ _); refine ite_pos (by decide +kernel) ?_) | ((with_reducible show wpAny _ _ (callWith _ (Value.ref _) _ _ _) _ _ _); (k_here; (k_dflt (refine' callWith_K ?k1 ?k2 ?_; (case k1 => k_asm); (case k2 => k_is); k_whole)))) | ((with_reducible show wpAny _ _ (eval (PySem.Expr.Name _ _) (envOfC _ _ _ _ _)) _ _ _); k_dflt (refine' nameX_L ?F ?v ?_ ?a ?b; (case F => k_asm); (case a => rfl); (case b => rfl); (case v => rfl); k_whole)) | walk1 | (dsimp only; walk1) | (leave1; walk_say "STEP leave1"; try dsimp only)))
          refine' (hsvW (w := w) _ hk6 _ rfl _ _ _).use (K := K01) ?B1 ?F1 ?X1 ?N1 ?T1 ⟨hH1, hH2⟩ rfl ?hd1 ?hu1 ?_
          case N1 => k_asm
          case B1 => k_asm
          case F1 => k_asm
          case X1 => k_asm
          case T1 => k_asm
          case hd1 => ktr_room
          case hu1 => ktr_units
          intro D2 y1 y2 y3 l2 h2 tk2 F2 N2
          k_lt l2
          (repeat' ((fail_if_success (first | (with_reducible show wpAny _ _ (call (Value.ref _) _) _ _ _) | (with_reducible show wpAny _ _ (pyIter _) _ _ _) | (with_reducible show UnrPost _ _ _ _ _ _ _ _ _) | (with_reducible show wpAny _ _ (exec (Stmt.Assign _ (PySem.Expr.ListComp _ _ _ _) _) _) _ _ _) | (with_reducible show wpAny _ _ (eval (PySem.Expr.ListComp _ _ _ _) _) _ _ _) | (with_reducible show wpAny _ _ (call (Value.type "zip") _) _ _ _) | (with_reducible show MEnd _ _ _ _ _ _ _ _ _ _ _ _ _) | (with_reducible show wpAny _ _ (exec (Stmt.For _ _ _ _ _) _) _ _ _) | (with_reducible show wpAny _ _ (exec (Stmt.While _ _ _ _) _) _ _ _) | (with_reducible show wpAny _ _ (eval (PySem.Expr.IfExp _ _ _ _) _) _ _ _))); first | (k_unfold; (try dsimp only)) | (k_end; wrow_close) | ((with_reducible show wpAny _ _ (storeName _ _ _) _ _ _); k_dflt (refine' storeX_L ?F ?N ?_ ?a ?b; (case F => k_asm); (case N => k_asm); (case a => rfl); (case b => rfl); k_whole; intro _ _ _; (try k_sweep))) | walk1 | (dsimp only; walk1) | (leave1; walk_say "STEP leave1"; try dsimp only)))
          (k_dflt (refine mc_Assign (ct := none) (by k_asm) (by rfl) (by with_unfolding_all rfl) (by with_unfolding_all rfl) (by decide) (by rfl) (by decide) (by rfl) (by rfl) (by decide) (by rfl) (by rfl) ?_))
          (repeat' ((fail_if_success (first | (with_reducible show wpAny _ _ (call (Value.ref _) _) _ _ _) | (with_reducible show wpAny _ _ (pyIter _) _ _ _) | (with_reducible show UnrPost _ _ _ _ _ _ _ _ _) | (with_reducible show wpAny _ _ (exec (Stmt.Assign _ (PySem.Expr.ListComp _ _ _ _) _) _) _ _ _) | (with_reducible show wpAny _ _ (eval (PySem.Expr.ListComp _ _ _ _) _) _ _ _) | (with_reducible show wpAny _ _ (call (Value.type "zip") _) _ _ _) | (with_reducible show MEnd _ _ _ _ _ _ _ _ _ _ _ _ _) | (with_reducible show wpAny _ _ (exec (Stmt.For _ _ _ _ _) _) _ _ _) | (with_reducible show wpAny _ _ (exec (Stmt.While _ _ _ _) _) _ _ _) | (with_reducible show wpAny _ _ (eval (PySem.Expr.IfExp _ _ _ _) _) _ _ _))); first | (k_unfold; (try dsimp only)) | (k_end; wrow_close) | ((with_reducible show wpAny _ _ (eval (PySem.Expr.Name _ _) (envOfC _ _ _ _ _)) _ _ _); k_dflt (refine' nameX_L ?F ?v ?_ ?a ?b; (case F => k_asm); (case a => rfl); (case b => rfl); (case v => rfl); k_whole)) | walk1 | (dsimp only; walk1) | (leave1; walk_say "STEP leave1"; try dsimp only)))
          refine mc_zip (by rfl) (by k_asm) (by k_asm) (Arm.list (a := D) (vs := [Value.int pt.1 u0, Value.int pt.2.1 u1, Value.int pt.2.2 u2]) (n := cD)) (Arm.tuple (a := D2) (vs := [.float (rgbOf ((ixOf c0 * 2 + tn) % 6)).1 y1, .float (rgbOf ((ixOf c0 * 2 + tn) % 6)).2.1 y2, .float (rgbOf ((ixOf c0 * 2 + tn) % 6)).2.2 y3]) (n := 0)) (by (repeat' first | exact List.forall_mem_nil _ | refine FMC.all ⟨by k_mem, ?_⟩ | (intro p9 hp9; (repeat' first | assumption | refine List.Mem.tail _ ?_)))) (by (repeat' first | exact List.forall_mem_nil _ | refine FMC.all ⟨by k_mem, ?_⟩ | (intro p9 hp9; (repeat' first | assumption | refine List.Mem.tail _ ?_)))) rfl (Nat.le_of_ble_eq_true rfl) (fun g i0 => ?_)
          refine MRest.gen (fun G => ∀ t1 t2 t3 : Tok, G [.int (pt.1 + wv * (cornerI ((ixOf c0 * 2 + tn) % 6)).1) t1, .int (pt.2.1 + wv * (cornerI ((ixOf c0 * 2 + tn) % 6)).2.1) t2, .int (pt.2.2 + wv * (cornerI ((ixOf c0 * 2 + tn) % 6)).2.2) t3]) (fun Fin9 hFin => ?_) ?_
          · walk_at "MINE mcons"
            (repeat' ((fail_if_success (first | (with_reducible show wpAny _ _ (call (Value.ref _) _) _ _ _) | (with_reducible show wpAny _ _ (pyIter _) _ _ _) | (with_reducible show UnrPost _ _ _ _ _ _ _ _ _) | (with_reducible show wpAny _ _ (exec (Stmt.Assign _ (PySem.Expr.ListComp _ _ _ _) _) _) _ _ _) | (with_reducible show wpAny _ _ (eval (PySem.Expr.ListComp _ _ _ _) _) _ _ _) | (with_reducible show wpAny _ _ (call (Value.type "zip") _) _ _ _) | (with_reducible show MEnd _ _ _ _ _ _ _ _ _ _ _ _ _) | (with_reducible show wpAny _ _ (exec (Stmt.For _ _ _ _ _) _) _ _ _) | (with_reducible show wpAny _ _ (exec (Stmt.While _ _ _ _) _) _ _ _) | (with_reducible show wpAny _ _ (eval (PySem.Expr.IfExp _ _ _ _) _) _ _ _))); first | (k_unfold; (try dsimp only)) | (k_end; wrow_close) | ((with_reducible show wpAny _ _ (binaryOp .Mult (Value.int _ _) (Value.int _ _)) _ _ _); refine mul_int ?_ (mulok (by with_reducible assumption))) | ((with_reducible show wpAny _ _ (call (Value.type "int") [(Value.float _ _)]) _ _ _); refine' my_intbit ?gB9 ?_; (case gB9 => with_reducible assumption)) | ((with_reducible show wpAny _ _ (eval (PySem.Expr.Name _ _) (compEnvC _ _ _ _)) _ _ _); k_dflt (refine LCgL.ld_own (by k_asm) (by k_mem) (by assumption) (by assumption) ?_)) | walk1 | (dsimp only; walk1) | (leave1; walk_say "STEP leave1"; try dsimp only)))
            (refine MEnd.intro (by k_asm) (by k_asm) _ (fun p9 hp9 => hp9) (by with_reducible assumption) (by with_reducible assumption) ?gK9 ?_; (case gK9 => ((try simp only [List.cons_append, List.nil_append]); (repeat' first | exact List.forall_mem_nil _ | refine FMC.all ⟨by k_mem, ?_⟩ | (intro p9 hp9; (repeat' first | assumption | refine List.Mem.tail _ ?_))))))
            walk_at "MINE mcons"
            (repeat' ((fail_if_success (first | (with_reducible show wpAny _ _ (call (Value.ref _) _) _ _ _) | (with_reducible show wpAny _ _ (pyIter _) _ _ _) | (with_reducible show UnrPost _ _ _ _ _ _ _ _ _) | (with_reducible show wpAny _ _ (exec (Stmt.Assign _ (PySem.Expr.ListComp _ _ _ _) _) _) _ _ _) | (with_reducible show wpAny _ _ (eval (PySem.Expr.ListComp _ _ _ _) _) _ _ _) | (with_reducible show wpAny _ _ (call (Value.type "zip") _) _ _ _) | (with_reducible show MEnd _ _ _ _ _ _ _ _ _ _ _ _ _) | (with_reducible show wpAny _ _ (exec (Stmt.For _ _ _ _ _) _) _ _ _) | (with_reducible show wpAny _ _ (exec (Stmt.While _ _ _ _) _) _ _ _) | (with_reducible show wpAny _ _ (eval (PySem.Expr.IfExp _ _ _ _) _) _ _ _))); first | (k_unfold; (try dsimp only)) | (k_end; wrow_close) | ((with_reducible show wpAny _ _ (binaryOp .Mult (Value.int _ _) (Value.int _ _)) _ _ _); refine mul_int ?_ (mulok (by with_reducible assumption))) | ((with_reducible show wpAny _ _ (call (Value.type "int") [(Value.float _ _)]) _ _ _); refine' my_intbit ?gB9 ?_; (case gB9 => with_reducible assumption)) | ((with_reducible show wpAny _ _ (eval (PySem.Expr.Name _ _) (compEnvC _ _ _ _)) _ _ _); k_dflt (refine LCgL.ld_own (by k_asm) (by k_mem) (by assumption) (by assumption) ?_)) | walk1 | (dsimp only; walk1) | (leave1; walk_say "STEP leave1"; try dsimp only)))
            (refine MEnd.intro (by k_asm) (by k_asm) _ (fun p9 hp9 => hp9) (by with_reducible assumption) (by with_reducible assumption) ?gK9 ?_; (case gK9 => ((try simp only [List.cons_append, List.nil_append]); (repeat' first | exact List.forall_mem_nil _ | refine FMC.all ⟨by k_mem, ?_⟩ | (intro p9 hp9; (repeat' first | assumption | refine List.Mem.tail _ ?_))))))
            walk_at "MINE mcons"
            (repeat' ((fail_if_success (first | (with_reducible show wpAny _ _ (call (Value.ref _) _) _ _ _) | (with_reducible show wpAny _ _ (pyIter _) _ _ _) | (with_reducible show UnrPost _ _ _ _ _ _ _ _ _) | (with_reducible show wpAny _ _ (exec (Stmt.Assign _ (PySem.Expr.ListComp _ _ _ _) _) _) _ _ _) | (with_reducible show wpAny _ _ (eval (PySem.Expr.ListComp _ _ _ _) _) _ _ _) | (with_reducible show wpAny _ _ (call (Value.type "zip") _) _ _ _) | (with_reducible show MEnd _ _ _ _ _ _ _ _ _ _ _ _ _) | (with_reducible show wpAny _ _ (exec (Stmt.For _ _ _ _ _) _) _ _ _) | (with_reducible show wpAny _ _ (exec (Stmt.While _ _ _ _) _) _ _ _) | (with_reducible show wpAny _ _ (eval (PySem.Expr.IfExp _ _ _ _) _) _ _ _))); first | (k_unfold; (try dsimp only)) | (k_end; wrow_close) | ((with_reducible show wpAny _ _ (binaryOp .Mult (Value.int _ _) (Value.int _ _)) _ _ _); refine mul_int ?_ (mulok (by with_reducible assumption))) | ((with_reducible show wpAny _ _ (call (Value.type "int") [(Value.float _ _)]) _ _ _); refine' my_intbit ?gB9 ?_; (case gB9 => with_reducible assumption)) | ((with_reducible show wpAny _ _ (eval (PySem.Expr.Name _ _) (compEnvC _ _ _ _)) _ _ _); k_dflt (refine LCgL.ld_own (by k_asm) (by k_mem) (by assumption) (by assumption) ?_)) | walk1 | (dsimp only; walk1) | (leave1; walk_say "STEP leave1"; try dsimp only)))
            (refine MEnd.intro (by k_asm) (by k_asm) _ (fun p9 hp9 => hp9) (by with_reducible assumption) (by with_reducible assumption) ?gK9 ?_; (case gK9 => ((try simp only [List.cons_append, List.nil_append]); (repeat' first | exact List.forall_mem_nil _ | refine FMC.all ⟨by k_mem, ?_⟩ | (intro p9 hp9; (repeat' first | assumption | refine List.Mem.tail _ ?_))))))
            refine MRest.nil ?_
            exact hFin _ _ _
          intro t1 t2 t3
          intro D3 h3 tk3 F3 N3 ne3 lt3
          k_lt lt3
          (repeat' ((fail_if_success (first | (with_reducible show wpAny _ _ (call (Value.ref _) _) _ _ _) | (with_reducible show wpAny _ _ (pyIter _) _ _ _) | (with_reducible show UnrPost _ _ _ _ _ _ _ _ _) | (with_reducible show wpAny _ _ (exec (Stmt.Assign _ (PySem.Expr.ListComp _ _ _ _) _) _) _ _ _) | (with_reducible show wpAny _ _ (eval (PySem.Expr.ListComp _ _ _ _) _) _ _ _) | (with_reducible show wpAny _ _ (call (Value.type "zip") _) _ _ _) | (with_reducible show MEnd _ _ _ _ _ _ _ _ _ _ _ _ _) | (with_reducible show wpAny _ _ (exec (Stmt.For _ _ _ _ _) _) _ _ _) | (with_reducible show wpAny _ _ (exec (Stmt.While _ _ _ _) _) _ _ _) | (with_reducible show wpAny _ _ (eval (PySem.Expr.IfExp _ _ _ _) _) _ _ _))); first | (k_unfold; (try dsimp only)) | (k_end; wrow_close) | walk1 | (dsimp only; walk1) | (leave1; walk_say "STEP leave1"; try dsimp only)))
          refine hU (by k_asm) (by k_asm) ((D3, lst3 _ _ _ _ 3) :: (L1 + 1, _) :: news) (by (repeat' first | exact List.forall_mem_nil _ | refine FMC.all ⟨by k_mem, ?_⟩ | (intro p9 hp9; (repeat' first | assumption | refine List.Mem.tail _ ?_)))) (FMC.all ⟨Nat.ne_of_gt (by omega : @LT.lt Nat _ I D3), FMC.all ⟨Nat.ne_of_lt (by omega : @LT.lt Nat _ (L1 + 1) I), fun p hp => Nat.ne_of_lt (allLt_mem hI p hp)⟩⟩) (LpP.mkStep cs hcs (by k_asm) (by omega) (Nat.ne_of_gt (by omega : @LT.lt Nat _ I D3)) rfl rfl hR hj hj60)
    case done =>
      intro m nw hLp
      apply LpP.done hLp
      clear hLp
      intro wv pt D cD u0 u1 u2 tw o ho hLD hDIx e1 e2 hR h9 tk9 F9 N9
      focus
        rw [mx2 e1 e2] at F9
        (repeat' ((fail_if_success (first | (with_reducible show wpAny _ _ (call (Value.ref _) _) _ _ _) | (with_reducible show wpAny _ _ (pyIter _) _ _ _) | (with_reducible show UnrPost _ _ _ _ _ _ _ _ _) | (with_reducible show wpAny _ _ (exec (Stmt.Assign _ (PySem.Expr.ListComp _ _ _ _) _) _) _ _ _) | (with_reducible show wpAny _ _ (eval (PySem.Expr.ListComp _ _ _ _) _) _ _ _) | (with_reducible show wpAny _ _ (call (Value.type "zip") _) _ _ _) | (with_reducible show MEnd _ _ _ _ _ _ _ _ _ _ _ _ _) | (with_reducible show wpAny _ _ (exec (Stmt.For _ _ _ _ _) _) _ _ _) | (with_reducible show wpAny _ _ (exec (Stmt.While _ _ _ _) _) _ _ _) | (with_reducible show wpAny _ _ (eval (PySem.Expr.IfExp _ _ _ _) _) _ _ _))); first | (k_unfold; (try dsimp only)) | (k_end; wrow_close) | ((with_reducible show wpAny _ _ (eval (PySem.Expr.Name _ _) (envOfC _ _ _ _ _)) _ _ _); k_dflt (refine' nameX_L ?F ?v ?_ ?a ?b; (case F => k_asm); (case a => rfl); (case b => rfl); (case v => rfl); k_whole)) | walk1 | (dsimp only; walk1) | (leave1; walk_say "STEP leave1"; try dsimp only)))
        subst hR
        refine hret _ _ _ _ (by k_asm) (newsSub (by k_asm) ?_) ⟨D, u0, u1, u2, cD, rfl, rfl, ?_⟩
        · (repeat' first | exact List.forall_mem_nil _ | refine FMC.all ⟨by k_mem, ?_⟩ | (intro p9 hp9; (repeat' first | assumption | refine List.Mem.tail _ ?_)))
        · exact fun q hq => Nat.lt_trans (allLt_mem lA q hq) (Nat.lt_of_succ_lt hLD)
theorem lpointW {w : World} {news : Led} (x : PySem.Str) (hx : ∀ c ∈ x.cps.toList, isLet c) (hl : x.length ≤ 50) (tn : Nat) (htn : tn ≤ 12) (tx tt : Tok) :
   CW K01 P01 w H01 82 60 600 news [.str x tx, .int tn tt] (fun G => ∀ D u0 u1 u2 c, ((∀ q ∈ news, q.1 < D)) → G (.ref D) ((D, lst3 (ptF tn x.cps.toList 1 (0, 0, 0)) u0 u1 u2 c) :: news)) :=
  CS.toW (@lpoint w news x hx hl tn htn tx tt) (fun v nw G hR hG => by
    obtain ⟨D, u0, u1, u2, c, rfl, rfl, r09⟩ := hR
    exact hG D u0 u1 u2 c r09)
set_option compiler.extract_closed false
set_option maxRecDepth 100000 in
set_option maxHeartbeats 4000000 in
theorem ltold {w : World} {news : Led} (x : PySem.Str) (hx : ∀ c ∈ x.cps.toList, isLet c) (hl : x.length ≤ 50) (tn : Nat) (htn : tn ≤ 12) (tx tt : Tok) :
   CS K01 P01 w H01 94 60 600 news [.str x tx, .int tn tt] fun v nw => ∃ D u0 u1 c, v = .ref D ∧ nw = (D, W.listOf [Value.int (toldF x.cps.toList tn).1 u0, Value.int (toldF x.cps.toList tn).2 u1].toArray c) :: news ∧ (∀ q ∈ news, q.1 < D) := by
  have hlaw : (fun (_ : OpenLaw) (_ : Params → Frag) => True) Challenge.rw_pg0168_01 hd.heap_39 := by k_fill; exact True.intro
  clear hlaw
  intro p loose mean mg mb dp un gd cn cs L a ccd cl outer A₀ base h₀ m s Q E B F X N T hH hcs hdp hun hret
  obtain ⟨ck, cnm, cg, cc, cm⟩ := cs
  obtain rfl : ck = .function := hcs
  obtain ⟨hH1, hH2⟩ := hH
  replace X : (hd.heap_39 w.params).In h₀ := X
  refine wpAny_call ?_
  k_dflt k_enter
  (repeat' ((fail_if_success (first | (with_reducible show wpAny _ _ (call (Value.ref _) _) _ _ _) | (with_reducible show wpAny _ _ (pyIter _) _ _ _) | (with_reducible show UnrPost _ _ _ _ _ _ _ _ _) | (with_reducible show wpAny _ _ (exec (Stmt.Assign _ (PySem.Expr.ListComp _ _ _ _) _) _) _ _ _) | (with_reducible show wpAny _ _ (eval (PySem.Expr.ListComp _ _ _ _) _) _ _ _) | (with_reducible show wpAny _ _ (call (Value.type "zip") _) _ _ _) | (with_reducible show MEnd _ _ _ _ _ _ _ _ _ _ _ _ _) | (with_reducible show wpAny _ _ (exec (Stmt.For _ _ _ _ _) _) _ _ _) | (with_reducible show wpAny _ _ (exec (Stmt.While _ _ _ _) _) _ _ _) | (with_reducible show wpAny _ _ (eval (PySem.Expr.IfExp _ _ _ _) _) _ _ _) | (with_reducible show wpAny _ _ (eval (PySem.Expr.Subscript (PySem.Expr.Subscript _ _ _) _ _) _) _ _ _))); first | (k_unfold; (try dsimp only)) | (k_end; wrow_close) | ((with_reducible show wpAny _ _ (newTuple _) _ _ _); (k_dflt (refine' kup_newTuple ?gF9 ?gN9 ?_ ?gz9; (case gF9 => k_asm); (case gN9 => k_asm); (case gz9 => exact Nat.le_of_ble_eq_true rfl)); intro _ _ _ _; walk_at "MINE ltI")) | ((with_reducible show wpAny _ _ (eval (PySem.Expr.Dict _ _ _) _) _ _ _); ((k_dflt (refine' kdn_str ?q ?F ?N ?b ?a ?l ?e ?n ?_; (case q => rfl); (case F => k_asm); (case N => k_asm); (case b => exact Top.nolimit (by k_asm)); (case a => rfl); (case l => rfl); (case e => exact List.cons_ne_nil _ _); (case n => exact Nat.le_of_ble_eq_true rfl))); intro _ _ _ _ _ l1 _ _; k_lt l1; revert l1; intro _)) | ((with_reducible show wpAny _ _ (storeName _ _ _) _ _ _); k_dflt (refine' storeX_L ?F ?N ?_ ?a ?b; (case F => k_asm); (case N => k_asm); (case a => rfl); (case b => rfl); k_whole; intro _ _ _; (try k_sweep))) | walk1 | (dsimp only; walk1) | (leave1; walk_say "STEP leave1"; try dsimp only)))
  (with_reducible rename Fr _ _ _ _ => lF)
  with_unfolding_all refine' For_invVF lF ?k1 ?k2 ?_
  case k1 => exact rfl
  case k2 => exact rfl
  (repeat' ((fail_if_success (first | (with_reducible show wpAny _ _ (call (Value.ref _) _) _ _ _) | (with_reducible show wpAny _ _ (pyIter _) _ _ _) | (with_reducible show UnrPost _ _ _ _ _ _ _ _ _) | (with_reducible show wpAny _ _ (exec (Stmt.Assign _ (PySem.Expr.ListComp _ _ _ _) _) _) _ _ _) | (with_reducible show wpAny _ _ (eval (PySem.Expr.ListComp _ _ _ _) _) _ _ _) | (with_reducible show wpAny _ _ (call (Value.type "zip") _) _ _ _) | (with_reducible show MEnd _ _ _ _ _ _ _ _ _ _ _ _ _) | (with_reducible show wpAny _ _ (exec (Stmt.For _ _ _ _ _) _) _ _ _) | (with_reducible show wpAny _ _ (exec (Stmt.While _ _ _ _) _) _ _ _) | (with_reducible show wpAny _ _ (eval (PySem.Expr.IfExp _ _ _ _) _) _ _ _) | (with_reducible show wpAny _ _ (eval (PySem.Expr.Subscript (PySem.Expr.Subscript _ _ _) _ _) _) _ _ _))); first | (k_unfold; (try dsimp only)) | (k_end; wrow_close) | ((with_reducible show wpAny _ _ (eval (PySem.Expr.Name _ _) (envOf _ _ _ _ _)) _ _ _); k_dflt (refine' nameX_L ?F ?v ?_ ?a ?b; (case F => k_asm); (case a => rfl); (case b => rfl); (case v => rfl); k_whole)) | walk1 | (dsimp only; walk1) | (leave1; walk_say "STEP leave1"; try dsimp only)))
  (with_reducible rename News _ _ _ _ => lN)
  (with_reducible rename Fr _ _ _ _ => lF2)
  obtain ⟨dr, edr, lP⟩ := fr_at lF2 (PySem.Str.ofString "pairs") (by with_unfolding_all rfl)
  obtain ⟨fx, efx, lN2⟩ := led_name lN
  refine' iter_strUnr (l := x.cps.toList.reverse.map (fun c => (⟨#[c]⟩ : PySem.Str))) ?tx1 ?Fb lN2 ?tx2 ?rest
  case tx1 => rfl
  case tx2 => rw [← rev_text]
  case Fb => k_asm
  case rest =>
    intro I hI
    refine StrIndQ (TdP fx tn tt dr (toldR x.cps.toList.reverse 0 0)) ?turn ?done _ _ _ ?start
    case start => exact TdP.mk x.cps.toList.reverse (fun c hc => hx c (List.mem_reverse.mp hc)) lP rfl rfl rfl rfl
    case turn =>
      intro c us m nw hLp
      apply TdP.turn hLp
      clear hLp
      intro c0 cs av bv ta tb hc0 hcs e1 e2 e3 e4 hR u it h9 tk9 Q9 E9 hU F9 N9
      focus
        rw [mx4 e1 e2 e3 e4] at F9
        subst efx
        subst edr
        k_lt hI
        clear hI
        (repeat' ((fail_if_success (first | (with_reducible show wpAny _ _ (call (Value.ref _) _) _ _ _) | (with_reducible show wpAny _ _ (pyIter _) _ _ _) | (with_reducible show UnrPost _ _ _ _ _ _ _ _ _) | (with_reducible show wpAny _ _ (exec (Stmt.Assign _ (PySem.Expr.ListComp _ _ _ _) _) _) _ _ _) | (with_reducible show wpAny _ _ (eval (PySem.Expr.ListComp _ _ _ _) _) _ _ _) | (with_reducible show wpAny _ _ (call (Value.type "zip") _) _ _ _) | (with_reducible show MEnd _ _ _ _ _ _ _ _ _ _ _ _ _) | (with_reducible show wpAny _ _ (exec (Stmt.For _ _ _ _ _) _) _ _ _) | (with_reducible show wpAny _ _ (exec (Stmt.While _ _ _ _) _) _ _ _) | (with_reducible show wpAny _ _ (eval (PySem.Expr.IfExp _ _ _ _) _) _ _ _) | (with_reducible show wpAny _ _ (eval (PySem.Expr.Subscript (PySem.Expr.Subscript _ _ _) _ _) _) _ _ _))); first | (k_unfold; (try dsimp only)) | (k_end; wrow_close) | walk1 | (dsimp only; walk1) | (leave1; walk_say "STEP leave1"; try dsimp only)))
        refine step_frameW (by k_asm) (by k_asm) (fun G => ∀ t, G (.int (pairOf c0).1 t)) (fun Q' hQ' => ?_) ?_
        · (with_reducible rename Fr _ _ _ _ => lF7)
          revert lF7 hQ'
          apply isLetE hc0
          all_goals (
            intro lF7 hQ'
            walk1
            (repeat' ((fail_if_success (first | (with_reducible show wpAny _ _ (call (Value.ref _) _) _ _ _) | (with_reducible show wpAny _ _ (pyIter _) _ _ _) | (with_reducible show UnrPost _ _ _ _ _ _ _ _ _) | (with_reducible show wpAny _ _ (exec (Stmt.Assign _ (PySem.Expr.ListComp _ _ _ _) _) _) _ _ _) | (with_reducible show wpAny _ _ (eval (PySem.Expr.ListComp _ _ _ _) _) _ _ _) | (with_reducible show wpAny _ _ (call (Value.type "zip") _) _ _ _) | (with_reducible show MEnd _ _ _ _ _ _ _ _ _ _ _ _ _) | (with_reducible show wpAny _ _ (exec (Stmt.For _ _ _ _ _) _) _ _ _) | (with_reducible show wpAny _ _ (exec (Stmt.While _ _ _ _) _) _ _ _) | (with_reducible show wpAny _ _ (eval (PySem.Expr.IfExp _ _ _ _) _) _ _ _) | (with_reducible show wpAny _ _ (eval (PySem.Expr.Subscript (PySem.Expr.Subscript _ _ _) _ _) _) _ _ _))); first | (k_unfold; (try dsimp only)) | (k_end; wrow_close) | ((with_reducible show wpAny _ _ (eval (PySem.Expr.Name _ _) (envOf _ _ _ _ _)) _ _ _); k_dflt (refine' nameX_L ?F ?v ?_ ?a ?b; (case F => k_asm); (case a => rfl); (case b => rfl); (case v => rfl); k_whole)) | walk1 | (dsimp only; walk1) | (leave1; walk_say "STEP leave1"; try dsimp only)))
            exact hQ' _ _ _ (by k_asm) (by k_asm))
        intro tt1 h' tk' F' N'
        (repeat' ((fail_if_success (first | (with_reducible show wpAny _ _ (call (Value.ref _) _) _ _ _) | (with_reducible show wpAny _ _ (pyIter _) _ _ _) | (with_reducible show UnrPost _ _ _ _ _ _ _ _ _) | (with_reducible show wpAny _ _ (exec (Stmt.Assign _ (PySem.Expr.ListComp _ _ _ _) _) _) _ _ _) | (with_reducible show wpAny _ _ (eval (PySem.Expr.ListComp _ _ _ _) _) _ _ _) | (with_reducible show wpAny _ _ (call (Value.type "zip") _) _ _ _) | (with_reducible show MEnd _ _ _ _ _ _ _ _ _ _ _ _ _) | (with_reducible show wpAny _ _ (exec (Stmt.For _ _ _ _ _) _) _ _ _) | (with_reducible show wpAny _ _ (exec (Stmt.While _ _ _ _) _) _ _ _) | (with_reducible show wpAny _ _ (eval (PySem.Expr.IfExp _ _ _ _) _) _ _ _) | (with_reducible show wpAny _ _ (eval (PySem.Expr.Subscript (PySem.Expr.Subscript _ _ _) _ _) _) _ _ _))); first | (k_unfold; (try dsimp only)) | (k_end; wrow_close) | ((with_reducible show wpAny _ _ (eval (PySem.Expr.Name _ _) (envOf _ _ _ _ _)) _ _ _); k_dflt (refine' nameX_L ?F ?v ?_ ?a ?b; (case F => k_asm); (case a => rfl); (case b => rfl); (case v => rfl); k_whole)) | walk1 | (dsimp only; walk1) | (leave1; walk_say "STEP leave1"; try dsimp only)))
        refine step_frameW (by k_asm) (by k_asm) (fun G => ∀ t, G (.int (pairOf c0).2 t)) (fun Q' hQ' => ?_) ?_
        · (with_reducible rename Fr _ _ _ _ => lF7)
          revert lF7 hQ'
          apply isLetE hc0
          all_goals (
            intro lF7 hQ'
            walk1
            (repeat' ((fail_if_success (first | (with_reducible show wpAny _ _ (call (Value.ref _) _) _ _ _) | (with_reducible show wpAny _ _ (pyIter _) _ _ _) | (with_reducible show UnrPost _ _ _ _ _ _ _ _ _) | (with_reducible show wpAny _ _ (exec (Stmt.Assign _ (PySem.Expr.ListComp _ _ _ _) _) _) _ _ _) | (with_reducible show wpAny _ _ (eval (PySem.Expr.ListComp _ _ _ _) _) _ _ _) | (with_reducible show wpAny _ _ (call (Value.type "zip") _) _ _ _) | (with_reducible show MEnd _ _ _ _ _ _ _ _ _ _ _ _ _) | (with_reducible show wpAny _ _ (exec (Stmt.For _ _ _ _ _) _) _ _ _) | (with_reducible show wpAny _ _ (exec (Stmt.While _ _ _ _) _) _ _ _) | (with_reducible show wpAny _ _ (eval (PySem.Expr.IfExp _ _ _ _) _) _ _ _) | (with_reducible show wpAny _ _ (eval (PySem.Expr.Subscript (PySem.Expr.Subscript _ _ _) _ _) _) _ _ _))); first | (k_unfold; (try dsimp only)) | (k_end; wrow_close) | ((with_reducible show wpAny _ _ (eval (PySem.Expr.Name _ _) (envOf _ _ _ _ _)) _ _ _); k_dflt (refine' nameX_L ?F ?v ?_ ?a ?b; (case F => k_asm); (case a => rfl); (case b => rfl); (case v => rfl); k_whole)) | walk1 | (dsimp only; walk1) | (leave1; walk_say "STEP leave1"; try dsimp only)))
            exact hQ' _ _ _ (by k_asm) (by k_asm))
        intro tt2 h' tk' F' N'
        (repeat' ((fail_if_success (first | (with_reducible show wpAny _ _ (call (Value.ref _) _) _ _ _) | (with_reducible show wpAny _ _ (pyIter _) _ _ _) | (with_reducible show UnrPost _ _ _ _ _ _ _ _ _) | (with_reducible show wpAny _ _ (exec (Stmt.Assign _ (PySem.Expr.ListComp _ _ _ _) _) _) _ _ _) | (with_reducible show wpAny _ _ (eval (PySem.Expr.ListComp _ _ _ _) _) _ _ _) | (with_reducible show wpAny _ _ (call (Value.type "zip") _) _ _ _) | (with_reducible show MEnd _ _ _ _ _ _ _ _ _ _ _ _ _) | (with_reducible show wpAny _ _ (exec (Stmt.For _ _ _ _ _) _) _ _ _) | (with_reducible show wpAny _ _ (exec (Stmt.While _ _ _ _) _) _ _ _) | (with_reducible show wpAny _ _ (eval (PySem.Expr.IfExp _ _ _ _) _) _ _ _) | (with_reducible show wpAny _ _ (eval (PySem.Expr.Subscript (PySem.Expr.Subscript _ _ _) _ _) _) _ _ _))); first | (k_unfold; (try dsimp only)) | (k_end; wrow_close) | ((with_reducible show wpAny _ _ (newTuple _) _ _ _); (k_dflt (refine' kup_newTuple ?gF9 ?gN9 ?_ ?gz9; (case gF9 => k_asm); (case gN9 => k_asm); (case gz9 => exact Nat.le_of_ble_eq_true rfl)); intro _ _ _ _; walk_at "MINE ltI")) | ((with_reducible show wpAny _ _ (eval (PySem.Expr.Name _ _) (envOf _ _ _ _ _)) _ _ _); k_dflt (refine' nameX_L ?F ?v ?_ ?a ?b; (case F => k_asm); (case a => rfl); (case b => rfl); (case v => rfl); k_whole)) | ((with_reducible show wpAny _ _ (storeName _ _ _) _ _ _); k_dflt (refine' storeX_L ?F ?N ?_ ?a ?b; (case F => k_asm); (case N => k_asm); (case a => rfl); (case b => rfl); k_whole; intro _ _ _; (try k_sweep))) | walk1 | (dsimp only; walk1) | (leave1; walk_say "STEP leave1"; try dsimp only)))
        refine hU (by k_asm) (by k_asm) _ (by (repeat' first | exact List.forall_mem_nil _ | refine FMC.all ⟨by k_mem, ?_⟩ | (intro p9 hp9; (repeat' first | assumption | refine List.Mem.tail _ ?_)))) (ne_lt (by (repeat' first | exact List.forall_mem_nil _ | (refine FMC.all ⟨?_, ?_⟩; (focus (refine ltN ?_; (try dsimp only); omega))) | assumption | ((with_reducible rename AllLt _ _ => z1); first | exact all_lt z1 (by omega) | clear z1)))) (TdP.mk cs hcs rfl rfl rfl rfl hR)
    case done =>
      intro m nw hLp
      apply TdP.done hLp
      clear hLp
      intro av bv ta tb e1 e2 e3 e4 hR h9 tk9 F9 N9
      focus
        rw [mx4 e1 e2 e3 e4] at F9
        subst efx
        subst edr
        (repeat' ((fail_if_success (first | (with_reducible show wpAny _ _ (call (Value.ref _) _) _ _ _) | (with_reducible show wpAny _ _ (pyIter _) _ _ _) | (with_reducible show UnrPost _ _ _ _ _ _ _ _ _) | (with_reducible show wpAny _ _ (exec (Stmt.Assign _ (PySem.Expr.ListComp _ _ _ _) _) _) _ _ _) | (with_reducible show wpAny _ _ (eval (PySem.Expr.ListComp _ _ _ _) _) _ _ _) | (with_reducible show wpAny _ _ (call (Value.type "zip") _) _ _ _) | (with_reducible show MEnd _ _ _ _ _ _ _ _ _ _ _ _ _) | (with_reducible show wpAny _ _ (exec (Stmt.For _ _ _ _ _) _) _ _ _) | (with_reducible show wpAny _ _ (exec (Stmt.While _ _ _ _) _) _ _ _) | (with_reducible show wpAny _ _ (eval (PySem.Expr.IfExp _ _ _ _) _) _ _ _) | (with_reducible show wpAny _ _ (eval (PySem.Expr.Subscript (PySem.Expr.Subscript _ _ _) _ _) _) _ _ _))); first | (k_unfold; (try dsimp only)) | (k_end; wrow_close) | walk1 | (dsimp only; walk1) | (leave1; walk_say "STEP leave1"; try dsimp only)))
        (with_reducible rename Fr _ _ _ _ => lF)
        with_unfolding_all refine' For_invVF lF ?k1b ?k2b ?_
        case k1b => exact rfl
        case k2b => exact rfl
        (repeat' ((fail_if_success (first | (with_reducible show wpAny _ _ (call (Value.ref _) _) _ _ _) | (with_reducible show wpAny _ _ (pyIter _) _ _ _) | (with_reducible show UnrPost _ _ _ _ _ _ _ _ _) | (with_reducible show wpAny _ _ (exec (Stmt.Assign _ (PySem.Expr.ListComp _ _ _ _) _) _) _ _ _) | (with_reducible show wpAny _ _ (eval (PySem.Expr.ListComp _ _ _ _) _) _ _ _) | (with_reducible show wpAny _ _ (call (Value.type "zip") _) _ _ _) | (with_reducible show MEnd _ _ _ _ _ _ _ _ _ _ _ _ _) | (with_reducible show wpAny _ _ (exec (Stmt.For _ _ _ _ _) _) _ _ _) | (with_reducible show wpAny _ _ (exec (Stmt.While _ _ _ _) _) _ _ _) | (with_reducible show wpAny _ _ (eval (PySem.Expr.IfExp _ _ _ _) _) _ _ _) | (with_reducible show wpAny _ _ (eval (PySem.Expr.Subscript (PySem.Expr.Subscript _ _ _) _ _) _) _ _ _))); first | (k_unfold; (try dsimp only)) | (k_end; wrow_close) | ((with_reducible show wpAny _ _ (eval (PySem.Expr.Name _ _) (envOf _ _ _ _ _)) _ _ _); k_dflt (refine' nameX_L ?F ?v ?_ ?a ?b; (case F => k_asm); (case a => rfl); (case b => rfl); (case v => rfl); k_whole)) | walk1 | (dsimp only; walk1) | (leave1; walk_say "STEP leave1"; try dsimp only)))
        (with_reducible rename News _ _ _ _ => lN)
        obtain ⟨fx, efx, lN2⟩ := led_name lN
        refine' iter_rangeUnr (n := tn) (a₀ := 0) (b₀ := (tn : Int)) rfl ?rg1 (small_one (by omega) (by omega) (by omega) (by omega)) ?rg2 ?Fc lN2 ?restc
        case rg1 => assumption
        case rg2 => rw [rangeSize_nat]; simp
        case Fc => k_asm
        case restc =>
          intro I2 hI2
          refine RangeIndQ (TuP fx (turnsF tn av bv)) ?turnc ?donec _ _ _ _ ?startc
          case startc => exact fun _ k => k av bv ta tb rfl rfl rfl
          case turnc =>
            intro k i m nw hTu
            apply hTu
            clear hTu
            intro av' bv' ta' tb' e1 e2 hR2 t it h9 tk9 Q9 E9 hU F9 N9
            rw [mx2 e1 e2] at F9
            subst efx
            k_lt hI2
            (repeat' ((fail_if_success (first | (with_reducible show wpAny _ _ (call (Value.ref _) _) _ _ _) | (with_reducible show wpAny _ _ (pyIter _) _ _ _) | (with_reducible show UnrPost _ _ _ _ _ _ _ _ _) | (with_reducible show wpAny _ _ (exec (Stmt.Assign _ (PySem.Expr.ListComp _ _ _ _) _) _) _ _ _) | (with_reducible show wpAny _ _ (eval (PySem.Expr.ListComp _ _ _ _) _) _ _ _) | (with_reducible show wpAny _ _ (call (Value.type "zip") _) _ _ _) | (with_reducible show MEnd _ _ _ _ _ _ _ _ _ _ _ _ _) | (with_reducible show wpAny _ _ (exec (Stmt.For _ _ _ _ _) _) _ _ _) | (with_reducible show wpAny _ _ (exec (Stmt.While _ _ _ _) _) _ _ _) | (with_reducible show wpAny _ _ (eval (PySem.Expr.IfExp _ _ _ _) _) _ _ _) | (with_reducible show wpAny _ _ (eval (PySem.Expr.Subscript (PySem.Expr.Subscript _ _ _) _ _) _) _ _ _))); first | (k_unfold; (try dsimp only)) | (k_end; wrow_close) | ((with_reducible show wpAny _ _ (newTuple _) _ _ _); (k_dflt (refine' kup_newTuple ?gF9 ?gN9 ?_ ?gz9; (case gF9 => k_asm); (case gN9 => k_asm); (case gz9 => exact Nat.le_of_ble_eq_true rfl)); intro _ _ _ _; walk_at "MINE ltI")) | walk1 | (dsimp only; walk1) | (leave1; walk_say "STEP leave1"; try dsimp only)))
            refine hU (by k_asm) (by k_asm) _ (by (repeat' first | exact List.forall_mem_nil _ | refine FMC.all ⟨by k_mem, ?_⟩ | (intro p9 hp9; (repeat' first | assumption | refine List.Mem.tail _ ?_)))) (ne_lt (by (repeat' first | exact List.forall_mem_nil _ | (refine FMC.all ⟨?_, ?_⟩; (focus (refine ltN ?_; (try dsimp only); omega))) | assumption | ((with_reducible rename AllLt _ _ => z1); first | exact all_lt z1 (by omega) | clear z1)))) (fun _ k => k _ _ _ _ rfl rfl hR2)
          case donec =>
            intro i m nw hTu
            apply hTu
            clear hTu
            intro av' bv' ta' tb' e1 e2 hR2 h9 tk9 F9 N9
            rw [mx2 e1 e2] at F9
            subst efx
            (repeat' ((fail_if_success (first | (with_reducible show wpAny _ _ (call (Value.ref _) _) _ _ _) | (with_reducible show wpAny _ _ (pyIter _) _ _ _) | (with_reducible show UnrPost _ _ _ _ _ _ _ _ _) | (with_reducible show wpAny _ _ (exec (Stmt.Assign _ (PySem.Expr.ListComp _ _ _ _) _) _) _ _ _) | (with_reducible show wpAny _ _ (eval (PySem.Expr.ListComp _ _ _ _) _) _ _ _) | (with_reducible show wpAny _ _ (call (Value.type "zip") _) _ _ _) | (with_reducible show MEnd _ _ _ _ _ _ _ _ _ _ _ _ _) | (with_reducible show wpAny _ _ (exec (Stmt.For _ _ _ _ _) _) _ _ _) | (with_reducible show wpAny _ _ (exec (Stmt.While _ _ _ _) _) _ _ _) | (with_reducible show wpAny _ _ (eval (PySem.Expr.IfExp _ _ _ _) _) _ _ _) | (with_reducible show wpAny _ _ (eval (PySem.Expr.Subscript (PySem.Expr.Subscript _ _ _) _ _) _) _ _ _))); first | (k_unfold; (try dsimp only)) | (k_end; wrow_close) | walk1 | (dsimp only; walk1) | (leave1; walk_say "STEP leave1"; try dsimp only)))
            have hT : toldF x.cps.toList tn = (av', bv') := by
              unfold toldF
              rw [← hR]
              exact hR2.symm
            simp only [hT] at hret
            exact hret _ _ _ _ (by k_asm) (newsSub (by k_asm) (by (repeat' first | exact List.forall_mem_nil _ | refine FMC.all ⟨by k_mem, ?_⟩ | (intro p9 hp9; (repeat' first | assumption | refine List.Mem.tail _ ?_))))) ⟨_, _, _, _, rfl, rfl, by (repeat' ((with_reducible rename AllLt _ _ => z1); first | exact all_lt z1 (by omega) | clear z1))⟩
theorem ltoldW {w : World} {news : Led} (x : PySem.Str) (hx : ∀ c ∈ x.cps.toList, isLet c) (hl : x.length ≤ 50) (tn : Nat) (htn : tn ≤ 12) (tx tt : Tok) :
   CW K01 P01 w H01 94 60 600 news [.str x tx, .int tn tt] (fun G => ∀ D u0 u1 c, ((∀ q ∈ news, q.1 < D)) → G (.ref D) ((D, W.listOf [Value.int (toldF x.cps.toList tn).1 u0, Value.int (toldF x.cps.toList tn).2 u1].toArray c) :: news)) :=
  CS.toW (@ltold w news x hx hl tn htn tx tt) (fun v nw G hR hG => by
    obtain ⟨D, u0, u1, c, rfl, rfl, r09⟩ := hR
    exact hG D u0 u1 c r09)
set_option compiler.extract_closed false
set_option maxRecDepth 100000 in
set_option maxHeartbeats 4000000 in
theorem lread {w : World} {news T0 : Led} (p0 : Int × Int × Int) (ws : List Nat) (hws : readF 12 p0 = some ws) (hp0 : p0.1.natAbs ≤ 2 ^ 49 ∧ p0.2.1.natAbs ≤ 2 ^ 49 ∧ p0.2.2.natAbs ≤ 2 ^ 49) (D0 : Addr) (hD0 : @LT.lt Nat _ 37 D0) (v0 v1 v2 : Tok) (c0 : Nat) (h30 : ∀ p ∈ news, p.1 ≠ 30) (h37 : ∀ p ∈ news, p.1 ≠ 37) (o30 o37 : Obj) (hT30 : Tab30 o30 T0) (hT37 : Tab37 o37 T0) (hs0 : ∀ p ∈ T0, p ∈ news) :
   CS K01 P01 w H01 87 600 6000 ((30, o30) :: (37, o37) :: (D0, lst3 p0 v0 v1 v2 c0) :: news) [.ref D0] fun v nw => ∃ t o30' o37' ext, v = .str ⟨ws.toArray⟩ t ∧ nw = (30, o30') :: (37, o37') :: (ext ++ news) ∧ Tab30 o30' (ext ++ T0) ∧ Tab37 o37' (ext ++ T0) ∧ (∀ q ∈ ext, ∀ z ∈ news, @LT.lt Nat _ z.1 q.1) ∧ (∀ q ∈ ext, @LT.lt Nat _ 37 q.1) := by
  have hlaw : (fun (_ : OpenLaw) (_ : Params → Frag) => True) Challenge.rw_pg0168_01 hd.heap_39 := by k_fill; exact True.intro
  clear hlaw
  intro p loose mean mg mb dp un gd cn cs L a ccd cl outer A₀ base h₀ m s Q E B F X N T hH hcs hdp hun hret
  obtain ⟨ck, cnm, cg, cc, cm⟩ := cs
  obtain rfl : ck = .function := hcs
  obtain ⟨hH1, hH2⟩ := hH
  replace X : (hd.heap_39 w.params).In h₀ := X
  refine wpAny_call ?_
  k_dflt k_enter
  (repeat' ((fail_if_success (first | (with_reducible show wpAny _ _ (call (Value.ref _) _) _ _ _) | (with_reducible show wpAny _ _ (pyIter _) _ _ _) | (with_reducible show UnrPost _ _ _ _ _ _ _ _ _) | (with_reducible show wpAny _ _ (exec (Stmt.Assign _ (PySem.Expr.ListComp _ _ _ _) _) _) _ _ _) | (with_reducible show wpAny _ _ (eval (PySem.Expr.ListComp _ _ _ _) _) _ _ _) | (with_reducible show wpAny _ _ (call (Value.type "zip") _) _ _ _) | (with_reducible show MEnd _ _ _ _ _ _ _ _ _ _ _ _ _) | (with_reducible show wpAny _ _ (exec (Stmt.For _ _ _ _ _) _) _ _ _) | (with_reducible show wpAny _ _ (exec (Stmt.While _ _ _ _) _) _ _ _) | (with_reducible show wpAny _ _ (eval (PySem.Expr.IfExp _ _ _ _) _) _ _ _))); first | (k_unfold; (try dsimp only)) | (k_end; wrow_close) | ((with_reducible show wpAny _ _ (storeName _ _ _) _ _ _); k_dflt (refine' storeX_L ?F ?N ?_ ?a ?b; (case F => k_asm); (case N => k_asm); (case a => rfl); (case b => rfl); k_whole; intro _ _ _; (try k_sweep))) | walk1 | (dsimp only; walk1) | (leave1; walk_say "STEP leave1"; try dsimp only)))
  (with_reducible rename News _ _ _ _ => lN)
  rename_i g1 L1 h1 tk1 FG1 B1 X1 T1 q30 q37 qD lL oL oP dL dP h2 F2
  refine WhileStartQ (n := 12) (RdP L1 Tab30 Tab37 30 37 T0 news ws) (RdX Tab30 Tab37 30 37 T0 news ws) ?pe F2 (newsSub (T := (D0, lst3 p0 v0 v1 v2 c0) :: (L1 + 1 + 1, oL) :: (L1 + 1, oP) :: (30, o30) :: (37, o37) :: news) lN (by (repeat' first | exact List.forall_mem_nil _ | refine FMC.all ⟨by k_mem, ?_⟩ | (intro p9 hp9; (repeat' first | assumption | refine List.Mem.tail _ ?_))))) ?start ?turn ?done
  case pe => first | passes_own | with_unfolding_all passes_own
  case start => exact RdP.mk (ext := []) p0 ws [] hws rfl rfl (start_bd hp0) dP dL hT30 hT37 (List.forall_mem_nil _) (Nat.ne_of_lt (Nat.lt_succ_of_lt (Nat.lt_succ_of_lt qD))) (Nat.ne_of_lt (Nat.lt_succ_of_lt qD)) hD0 (Nat.lt_trans (by decide) hD0) rfl
  case done =>
    intro m nw hRx
    apply hRx
    clear hRx
    intro tw9 o309 o379 ext9 e1 hT309 hT379 x1 x2 h9 tk9 F9 N9
    rw [mx1 e1] at F9
    (repeat' ((fail_if_success (first | (with_reducible show wpAny _ _ (call (Value.ref _) _) _ _ _) | (with_reducible show wpAny _ _ (pyIter _) _ _ _) | (with_reducible show UnrPost _ _ _ _ _ _ _ _ _) | (with_reducible show wpAny _ _ (exec (Stmt.Assign _ (PySem.Expr.ListComp _ _ _ _) _) _) _ _ _) | (with_reducible show wpAny _ _ (eval (PySem.Expr.ListComp _ _ _ _) _) _ _ _) | (with_reducible show wpAny _ _ (call (Value.type "zip") _) _ _ _) | (with_reducible show MEnd _ _ _ _ _ _ _ _ _ _ _ _ _) | (with_reducible show wpAny _ _ (exec (Stmt.For _ _ _ _ _) _) _ _ _) | (with_reducible show wpAny _ _ (exec (Stmt.While _ _ _ _) _) _ _ _) | (with_reducible show wpAny _ _ (eval (PySem.Expr.IfExp _ _ _ _) _) _ _ _))); first | (k_unfold; (try dsimp only)) | (k_end; wrow_close) | ((with_reducible show wpAny _ _ (eval (PySem.Expr.Name _ _) (envOfC _ _ _ _ _)) _ _ _); k_dflt (refine' nameX_L ?F ?v ?_ ?a ?b; (case F => k_asm); (case a => rfl); (case b => rfl); (case v => rfl); k_whole)) | walk1 | (dsimp only; walk1) | (leave1; walk_say "STEP leave1"; try dsimp only)))
    exact hret _ _ _ _ (by k_asm) (by k_asm) ⟨_, o309, o379, ext9, rfl, rfl, hT309, hT379, x1, x2⟩
  case turn =>
    intro n m nw hRd
    apply hRd
    clear hRd
    intro p r wd D c u0 u1 u2 tw oL oP o30 o37 ext lv hrd hwd hln hbd dP dL hT30 hT37 hext hD2 hD1 hD37 hD30 e1 h9 tk9 Q9 Qn9 E9 hU hUn F9 N9
    rw [mx1 e1] at F9
    have h30L : @LT.lt Nat _ 30 (L1 + 1 + 1) := Nat.lt_succ_of_lt (Nat.lt_succ_of_lt q30)
    have h37L : @LT.lt Nat _ 37 (L1 + 1 + 1) := Nat.lt_succ_of_lt (Nat.lt_succ_of_lt q37)
    have hE1 : ∀ q ∈ ext ++ news, q.1 ≠ L1 + 1 := fun q hq => (List.mem_append.mp hq).elim (fun h => Nat.ne_of_gt (Nat.lt_of_succ_lt (hext q h).2)) (fun h => Nat.ne_of_lt (Nat.lt_succ_of_lt (allLt_mem lL q h)))
    have hE2 : ∀ q ∈ ext ++ news, q.1 ≠ L1 + 1 + 1 := fun q hq => (List.mem_append.mp hq).elim (fun h => Nat.ne_of_gt (hext q h).2) (fun h => Nat.ne_of_lt (Nat.lt_succ_of_lt (Nat.lt_succ_of_lt (allLt_mem lL q h))))
    have hE30 : ∀ q ∈ ext ++ news, q.1 ≠ 30 := fun q hq => (List.mem_append.mp hq).elim (fun h => Nat.ne_of_gt (Nat.lt_trans h30L (hext q h).2)) (fun h => h30 q h)
    have hE37 : ∀ q ∈ ext ++ news, q.1 ≠ 37 := fun q hq => (List.mem_append.mp hq).elim (fun h => Nat.ne_of_gt (Nat.lt_trans h37L (hext q h).2)) (fun h => h37 q h)
    have hsE : ∀ q ∈ ext ++ T0, q ∈ ext ++ news := fun q hq => (List.mem_append.mp hq).elim (fun h => List.mem_append.mpr (.inl h)) (fun h => List.mem_append.mpr (.inr (hs0 q h)))
    (repeat' ((fail_if_success (first | (with_reducible show wpAny _ _ (call (Value.ref _) _) _ _ _) | (with_reducible show wpAny _ _ (pyIter _) _ _ _) | (with_reducible show UnrPost _ _ _ _ _ _ _ _ _) | (with_reducible show wpAny _ _ (exec (Stmt.Assign _ (PySem.Expr.ListComp _ _ _ _) _) _) _ _ _) | (with_reducible show wpAny _ _ (eval (PySem.Expr.ListComp _ _ _ _) _) _ _ _) | (with_reducible show wpAny _ _ (call (Value.type "zip") _) _ _ _) | (with_reducible show MEnd _ _ _ _ _ _ _ _ _ _ _ _ _) | (with_reducible show wpAny _ _ (exec (Stmt.For _ _ _ _ _) _) _ _ _) | (with_reducible show wpAny _ _ (exec (Stmt.While _ _ _ _) _) _ _ _) | (with_reducible show wpAny _ _ (eval (PySem.Expr.IfExp _ _ _ _) _) _ _ _))); first | (k_unfold; (try dsimp only)) | (k_end; wrow_close) | walk1 | (dsimp only; walk1) | (leave1; walk_say "STEP leave1"; try dsimp only)))
    by_cases hg : p.2.1 = p.1 ∧ p.2.2 = p.1
    · refine WhlIf.no (by rw [Bool.not_eq_false', decide_eq_true_eq]; show [p.1, p.2.1, p.2.2] = [p.1, p.1, p.1]; rw [hg.1, hg.2]) ?_
      have hr0 : r = [] := by
        cases n with
        | zero => rw [readF, if_pos hg] at hrd; cases hrd; rfl
        | succ n => rw [readF, if_pos hg] at hrd; cases hrd; rfl
      subst hr0
      rw [List.append_nil] at hwd
      subst hwd
      (repeat' ((fail_if_success (first | (with_reducible show wpAny _ _ (call (Value.ref _) _) _ _ _) | (with_reducible show wpAny _ _ (pyIter _) _ _ _) | (with_reducible show UnrPost _ _ _ _ _ _ _ _ _) | (with_reducible show wpAny _ _ (exec (Stmt.Assign _ (PySem.Expr.ListComp _ _ _ _) _) _) _ _ _) | (with_reducible show wpAny _ _ (eval (PySem.Expr.ListComp _ _ _ _) _) _ _ _) | (with_reducible show wpAny _ _ (call (Value.type "zip") _) _ _ _) | (with_reducible show MEnd _ _ _ _ _ _ _ _ _ _ _ _ _) | (with_reducible show wpAny _ _ (exec (Stmt.For _ _ _ _ _) _) _ _ _) | (with_reducible show wpAny _ _ (exec (Stmt.While _ _ _ _) _) _ _ _) | (with_reducible show wpAny _ _ (eval (PySem.Expr.IfExp _ _ _ _) _) _ _ _))); first | (k_unfold; (try dsimp only)) | (k_end; wrow_close) | walk1 | (dsimp only; walk1) | (leave1; walk_say "STEP leave1"; try dsimp only)))
      exact hUn (by k_asm) (by k_asm) ((30, o30) :: (37, o37) :: (ext ++ news)) (by (repeat' first | exact List.forall_mem_nil _ | refine FMC.all ⟨by k_mem, ?_⟩ | (intro p9 hp9; (repeat' first | assumption | refine List.Mem.tail _ ?_)))) (fun _ k => k _ o30 o37 ext rfl hT30 hT37 (fun q hq => (hext q hq).1) (fun q hq => Nat.lt_trans h37L (hext q hq).2))
    · refine WhlIf.yes (by rw [Bool.not_eq_true', decide_eq_false_iff_not]; intro h; exact hg ⟨by simpa using congrArg (fun l => l.getD 1 0) h, by simpa using congrArg (fun l => l.getD 2 0) h⟩) ?_
      cases n with
      | zero => rw [readF, if_neg hg] at hrd; cases hrd
      | succ n =>
        rw [readF, if_neg hg] at hrd
        split at hrd
        case isFalse => cases hrd
        case isTrue hev =>
          obtain ⟨r', hr', hrr⟩ := Option.map_eq_some_iff.mp hrd
          have hx : p.1.fmod 2 = 0 ∨ p.1.fmod 2 = 1 := fmod2 _
          have hy : p.2.1.fmod 2 = 0 ∨ p.2.1.fmod 2 = 1 := fmod2 _
          have hz : p.2.2.fmod 2 = 0 ∨ p.2.2.fmod 2 = 1 := fmod2 _
          (repeat' ((fail_if_success (first | (with_reducible show wpAny _ _ (call (Value.ref _) _) _ _ _) | (with_reducible show wpAny _ _ (pyIter _) _ _ _) | (with_reducible show UnrPost _ _ _ _ _ _ _ _ _) | (with_reducible show wpAny _ _ (exec (Stmt.Assign _ (PySem.Expr.ListComp _ _ _ _) _) _) _ _ _) | (with_reducible show wpAny _ _ (eval (PySem.Expr.ListComp _ _ _ _) _) _ _ _) | (with_reducible show wpAny _ _ (call (Value.type "zip") _) _ _ _) | (with_reducible show MEnd _ _ _ _ _ _ _ _ _ _ _ _ _) | (with_reducible show wpAny _ _ (exec (Stmt.For _ _ _ _ _) _) _ _ _) | (with_reducible show wpAny _ _ (exec (Stmt.While _ _ _ _) _) _ _ _) | (with_reducible show wpAny _ _ (eval (PySem.Expr.IfExp _ _ _ _) _) _ _ _))); first | (k_unfold; (try dsimp only)) | (k_end; wrow_close) | walk1 | (dsimp only; walk1) | (leave1; walk_say "STEP leave1"; try dsimp only)))
          walk1
          (repeat' ((fail_if_success (first | (with_reducible show wpAny _ _ (call (Value.ref _) _) _ _ _) | (with_reducible show wpAny _ _ (pyIter _) _ _ _) | (with_reducible show UnrPost _ _ _ _ _ _ _ _ _) | (with_reducible show wpAny _ _ (exec (Stmt.Assign _ (PySem.Expr.ListComp _ _ _ _) _) _) _ _ _) | (with_reducible show wpAny _ _ (eval (PySem.Expr.ListComp _ _ _ _) _) _ _ _) | (with_reducible show wpAny _ _ (call (Value.type "zip") _) _ _ _) | (with_reducible show MEnd _ _ _ _ _ _ _ _ _ _ _ _ _) | (with_reducible show wpAny _ _ (exec (Stmt.For _ _ _ _ _) _) _ _ _) | (with_reducible show wpAny _ _ (exec (Stmt.While _ _ _ _) _) _ _ _) | (with_reducible show wpAny _ _ (eval (PySem.Expr.IfExp _ _ _ _) _) _ _ _))); first | (k_unfold; (try dsimp only)) | (k_end; wrow_close) | ((with_reducible show wpAny _ _ (eval (PySem.Expr.Name _ _) (compEnvC _ _ _ _)) _ _ _); k_dflt (refine LCgL.ld_own (by k_asm) (by k_mem) (by assumption) (by assumption) ?_)) | walk1 | (dsimp only; walk1) | (leave1; walk_say "STEP leave1"; try dsimp only)))
          (with_reducible rename IntsAre _ _ => hI8)
          obtain ⟨i1, i2, i3, rfl⟩ := ints3 hI8
          (repeat' ((fail_if_success (first | (with_reducible show wpAny _ _ (call (Value.ref _) _) _ _ _) | (with_reducible show wpAny _ _ (pyIter _) _ _ _) | (with_reducible show UnrPost _ _ _ _ _ _ _ _ _) | (with_reducible show wpAny _ _ (exec (Stmt.Assign _ (PySem.Expr.ListComp _ _ _ _) _) _) _ _ _) | (with_reducible show wpAny _ _ (eval (PySem.Expr.ListComp _ _ _ _) _) _ _ _) | (with_reducible show wpAny _ _ (call (Value.type "zip") _) _ _ _) | (with_reducible show MEnd _ _ _ _ _ _ _ _ _ _ _ _ _) | (with_reducible show wpAny _ _ (exec (Stmt.For _ _ _ _ _) _) _ _ _) | (with_reducible show wpAny _ _ (exec (Stmt.While _ _ _ _) _) _ _ _) | (with_reducible show wpAny _ _ (eval (PySem.Expr.IfExp _ _ _ _) _) _ _ _))); first | (k_unfold; (try dsimp only)) | (k_end; wrow_close) | walk1 | (dsimp only; walk1) | (leave1; walk_say "STEP leave1"; try dsimp only)))
          refine' (rgbW (w := w) _ _ _ hx hy hz _ _ _).use (K := K01) ?B1 ?F1 ?X1 ?N1 ?T1 ⟨hH1, hH2⟩ rfl ?hd1 ?hu1 ?_
          case N1 => k_asm
          case B1 => k_asm
          case F1 => k_asm
          case X1 => k_asm
          case T1 => k_asm
          case hd1 => ktr_room
          case hu1 => ktr_units
          intro D2 y1 y2 y3 l2 h2 tk2 F2 N2
          k_lt l2
          (repeat' ((fail_if_success (first | (with_reducible show wpAny _ _ (call (Value.ref _) _) _ _ _) | (with_reducible show wpAny _ _ (pyIter _) _ _ _) | (with_reducible show UnrPost _ _ _ _ _ _ _ _ _) | (with_reducible show wpAny _ _ (exec (Stmt.Assign _ (PySem.Expr.ListComp _ _ _ _) _) _) _ _ _) | (with_reducible show wpAny _ _ (eval (PySem.Expr.ListComp _ _ _ _) _) _ _ _) | (with_reducible show wpAny _ _ (call (Value.type "zip") _) _ _ _) | (with_reducible show MEnd _ _ _ _ _ _ _ _ _ _ _ _ _) | (with_reducible show wpAny _ _ (exec (Stmt.For _ _ _ _ _) _) _ _ _) | (with_reducible show wpAny _ _ (exec (Stmt.While _ _ _ _) _) _ _ _) | (with_reducible show wpAny _ _ (eval (PySem.Expr.IfExp _ _ _ _) _) _ _ _))); first | (k_unfold; (try dsimp only)) | (k_end; wrow_close) | ((with_reducible show wpAny _ _ (storeName _ _ _) _ _ _); k_dflt (refine' storeX_L ?F ?N ?_ ?a ?b; (case F => k_asm); (case N => k_asm); (case a => rfl); (case b => rfl); k_whole; intro _ _ _; (try k_sweep))) | walk1 | (dsimp only; walk1) | (leave1; walk_say "STEP leave1"; try dsimp only)))
          refine step_frameW (by k_asm) (by k_asm) (fun G => ∀ t, G (.str ⟨#[lett p]⟩ t)) (fun Q' hQ' => ?_) ?_
          · (with_reducible rename Fr _ _ _ _ => lF3)
            rcases let_cases hx hy hz with ⟨s1, s2⟩ | ⟨s1, s2⟩
            · have lF4 := lF3
              rw [s1] at lF4
              have e : lett p = 107 := s2
              rw [e] at hQ'
              walk1
              (repeat' ((fail_if_success (first | (with_reducible show wpAny _ _ (call (Value.ref _) _) _ _ _) | (with_reducible show wpAny _ _ (pyIter _) _ _ _) | (with_reducible show UnrPost _ _ _ _ _ _ _ _ _) | (with_reducible show wpAny _ _ (exec (Stmt.Assign _ (PySem.Expr.ListComp _ _ _ _) _) _) _ _ _) | (with_reducible show wpAny _ _ (eval (PySem.Expr.ListComp _ _ _ _) _) _ _ _) | (with_reducible show wpAny _ _ (call (Value.type "zip") _) _ _ _) | (with_reducible show MEnd _ _ _ _ _ _ _ _ _ _ _ _ _) | (with_reducible show wpAny _ _ (exec (Stmt.For _ _ _ _ _) _) _ _ _) | (with_reducible show wpAny _ _ (exec (Stmt.While _ _ _ _) _) _ _ _) | (with_reducible show wpAny _ _ (eval (PySem.Expr.IfExp _ _ _ _) _) _ _ _))); first | (k_unfold; (try dsimp only)) | (k_end; wrow_close) | ((with_reducible show ite _ _ _); refine ite_neg (by decide +kernel) ?_) | ((with_reducible show wpAny _ _ (eval (PySem.Expr.Name _ _) (envOfC _ _ _ _ _)) _ _ _); k_dflt (refine' nameX_L ?F ?v ?_ ?a ?b; (case F => k_asm); (case a => rfl); (case b => rfl); (case v => rfl); k_whole)) | walk1 | (dsimp only; walk1) | (leave1; walk_say "STEP leave1"; try dsimp only)))
              exact hQ' _ _ _ lF3 (by k_asm)
            · have lF4 := lF3
              rw [s1] at lF4
              rcases s2 with ⟨s2, s3⟩ | ⟨s2, s3⟩ | ⟨s2, s3⟩ | ⟨s2, s3⟩ | ⟨s2, s3⟩ | ⟨s2, s3⟩
              all_goals (
                rw [s2] at lF4
                replace s3 : lett p = _ := s3
                rw [s3] at hQ'
                walk1
                (repeat' ((fail_if_success (first | (with_reducible show wpAny _ _ (call (Value.ref _) _) _ _ _) | (with_reducible show wpAny _ _ (pyIter _) _ _ _) | (with_reducible show UnrPost _ _ _ _ _ _ _ _ _) | (with_reducible show wpAny _ _ (exec (Stmt.Assign _ (PySem.Expr.ListComp _ _ _ _) _) _) _ _ _) | (with_reducible show wpAny _ _ (eval (PySem.Expr.ListComp _ _ _ _) _) _ _ _) | (with_reducible show wpAny _ _ (call (Value.type "zip") _) _ _ _) | (with_reducible show MEnd _ _ _ _ _ _ _ _ _ _ _ _ _) | (with_reducible show wpAny _ _ (exec (Stmt.For _ _ _ _ _) _) _ _ _) | (with_reducible show wpAny _ _ (exec (Stmt.While _ _ _ _) _) _ _ _) | (with_reducible show wpAny _ _ (eval (PySem.Expr.IfExp _ _ _ _) _) _ _ _))); first | (k_unfold; (try dsimp only)) | (k_end; wrow_close) | ((with_reducible show ite _ _ _); refine ite_pos (by decide +kernel) ?_) | ((with_reducible show wpAny _ _ (call (Value.type "int") [(Value.float _ _)]) _ _ _); refine my_int_hue (k := _) ?hk9 ?_; (case hk9 => first | with_reducible assumption | decide)) | ((with_reducible show wpAny _ _ (eval (PySem.Expr.Name _ _) (envOfC _ _ _ _ _)) _ _ _); k_dflt (refine' nameX_L ?F ?v ?_ ?a ?b; (case F => k_asm); (case a => rfl); (case b => rfl); (case v => rfl); k_whole)) | walk1 | (dsimp only; walk1) | (leave1; walk_say "STEP leave1"; try dsimp only)))
                with_unfolding_all exact hQ' _ _ _ lF3 (by k_asm))
          intro tl h' tk' F' N'
          (repeat' ((fail_if_success (first | (with_reducible show wpAny _ _ (call (Value.ref _) _) _ _ _) | (with_reducible show wpAny _ _ (pyIter _) _ _ _) | (with_reducible show UnrPost _ _ _ _ _ _ _ _ _) | (with_reducible show wpAny _ _ (exec (Stmt.Assign _ (PySem.Expr.ListComp _ _ _ _) _) _) _ _ _) | (with_reducible show wpAny _ _ (eval (PySem.Expr.ListComp _ _ _ _) _) _ _ _) | (with_reducible show wpAny _ _ (call (Value.type "zip") _) _ _ _) | (with_reducible show MEnd _ _ _ _ _ _ _ _ _ _ _ _ _) | (with_reducible show wpAny _ _ (exec (Stmt.For _ _ _ _ _) _) _ _ _) | (with_reducible show wpAny _ _ (exec (Stmt.While _ _ _ _) _) _ _ _) | (with_reducible show wpAny _ _ (eval (PySem.Expr.IfExp _ _ _ _) _) _ _ _))); first | (k_unfold; (try dsimp only)) | (k_end; wrow_close) | walk1 | (dsimp only; walk1) | (leave1; walk_say "STEP leave1"; try dsimp only)))
          rename_i h4 oL4 F4 N4 dL4
          (k_dflt (refine wpAny_Assign_Name ?_ (by with_unfolding_all rfl)))
          (k_dflt (refine mc_List (ct := none) (by k_asm) (by with_unfolding_all rfl) (by decide) (by rfl) (by decide) (by rfl) (by rfl) (by decide) ?_))
          (repeat' ((fail_if_success (first | (with_reducible show wpAny _ _ (call (Value.ref _) _) _ _ _) | (with_reducible show wpAny _ _ (pyIter _) _ _ _) | (with_reducible show UnrPost _ _ _ _ _ _ _ _ _) | (with_reducible show wpAny _ _ (exec (Stmt.Assign _ (PySem.Expr.ListComp _ _ _ _) _) _) _ _ _) | (with_reducible show wpAny _ _ (eval (PySem.Expr.ListComp _ _ _ _) _) _ _ _) | (with_reducible show wpAny _ _ (call (Value.type "zip") _) _ _ _) | (with_reducible show MEnd _ _ _ _ _ _ _ _ _ _ _ _ _) | (with_reducible show wpAny _ _ (exec (Stmt.For _ _ _ _ _) _) _ _ _) | (with_reducible show wpAny _ _ (exec (Stmt.While _ _ _ _) _) _ _ _) | (with_reducible show wpAny _ _ (eval (PySem.Expr.IfExp _ _ _ _) _) _ _ _))); first | (k_unfold; (try dsimp only)) | (k_end; wrow_close) | walk1 | (dsimp only; walk1) | (leave1; walk_say "STEP leave1"; try dsimp only)))
          refine mc_zip (by rfl) (by k_asm) (by k_asm) (Arm.list (a := D) (vs := [Value.int p.1 u0, Value.int p.2.1 u1, Value.int p.2.2 u2]) (n := c)) Arm.str (by (repeat' first | exact List.forall_mem_nil _ | refine FMC.all ⟨by k_mem, ?_⟩ | (intro p9 hp9; (repeat' first | assumption | refine List.Mem.tail _ ?_)))) (by (repeat' first | exact List.forall_mem_nil _ | refine FMC.all ⟨by k_mem, ?_⟩ | (intro p9 hp9; (repeat' first | assumption | refine List.Mem.tail _ ?_))))
            (xs := [(fun _ => Value.int p.1 u0, fun u => Value.str ⟨#[114]⟩ u), (fun _ => .int p.2.1 u1, fun u => .str ⟨#[103]⟩ u), (fun _ => .int p.2.2 u2, fun u => .str ⟨#[98]⟩ u)]) (by with_unfolding_all rfl) (Nat.le_of_ble_eq_true rfl) (fun g i0 => ?_)
          refine MRest.gen (fun G => ∀ k1 k2 k3 : Tok, G [.int (off p (lett p)).1 k1, .int (off p (lett p)).2.1 k2, .int (off p (lett p)).2.2 k3]) (fun Fin9 hFin => ?_) ?_
          · skip
            walk_at "MINE mcons"
            (repeat' ((fail_if_success (first | (with_reducible show wpAny _ _ (call (Value.ref _) _) _ _ _) | (with_reducible show wpAny _ _ (pyIter _) _ _ _) | (with_reducible show UnrPost _ _ _ _ _ _ _ _ _) | (with_reducible show wpAny _ _ (exec (Stmt.Assign _ (PySem.Expr.ListComp _ _ _ _) _) _) _ _ _) | (with_reducible show wpAny _ _ (eval (PySem.Expr.ListComp _ _ _ _) _) _ _ _) | (with_reducible show wpAny _ _ (call (Value.type "zip") _) _ _ _) | (with_reducible show MEnd _ _ _ _ _ _ _ _ _ _ _ _ _) | (with_reducible show wpAny _ _ (exec (Stmt.For _ _ _ _ _) _) _ _ _) | (with_reducible show wpAny _ _ (exec (Stmt.While _ _ _ _) _) _ _ _) | (with_reducible show wpAny _ _ (eval (PySem.Expr.IfExp _ _ _ _) _) _ _ _))); first | (k_unfold; (try dsimp only)) | (k_end; wrow_close) | walk1 | (dsimp only; walk1) | (leave1; walk_say "STEP leave1"; try dsimp only)))
            refine step_frameW (by k_asm) (by k_asm) (fun G => ∀ t, G (.int (if 114 = lett p then p.1 - 1 else p.1) t)) (fun Q' hQ' => ?_) ?_
            · by_cases hl : 114 = lett p
              · rw [if_pos hl] at hQ'
                walk1
                (repeat' ((fail_if_success (first | (with_reducible show wpAny _ _ (call (Value.ref _) _) _ _ _) | (with_reducible show wpAny _ _ (pyIter _) _ _ _) | (with_reducible show UnrPost _ _ _ _ _ _ _ _ _) | (with_reducible show wpAny _ _ (exec (Stmt.Assign _ (PySem.Expr.ListComp _ _ _ _) _) _) _ _ _) | (with_reducible show wpAny _ _ (eval (PySem.Expr.ListComp _ _ _ _) _) _ _ _) | (with_reducible show wpAny _ _ (call (Value.type "zip") _) _ _ _) | (with_reducible show MEnd _ _ _ _ _ _ _ _ _ _ _ _ _) | (with_reducible show wpAny _ _ (exec (Stmt.For _ _ _ _ _) _) _ _ _) | (with_reducible show wpAny _ _ (exec (Stmt.While _ _ _ _) _) _ _ _) | (with_reducible show wpAny _ _ (eval (PySem.Expr.IfExp _ _ _ _) _) _ _ _))); first | (k_unfold; (try dsimp only)) | (k_end; wrow_close) | ((with_reducible show ite _ _ _); refine ite_pos (by first | omega | (simp only [beq_iff_eq, bne_iff_ne, decide_eq_true_eq, Int.not_lt, Int.not_le]; omega)) ?_) | ((with_reducible show wpAny _ _ (compareOp .Eq (Value.str _ _) (Value.str _ _)) _ _ _); refine my_eq1 ?_) | ((with_reducible show wpAny _ _ (eval (PySem.Expr.Name _ _) (compEnvC _ _ _ _)) _ _ _); k_dflt (refine LCgL.ld_own (by k_asm) (by k_mem) (by assumption) (by assumption) ?_)) | walk1 | (dsimp only; walk1) | (leave1; walk_say "STEP leave1"; try dsimp only)))
                exact hQ' _ _ _ (by k_asm) (by k_asm)
              · rw [if_neg hl] at hQ'
                walk1
                (repeat' ((fail_if_success (first | (with_reducible show wpAny _ _ (call (Value.ref _) _) _ _ _) | (with_reducible show wpAny _ _ (pyIter _) _ _ _) | (with_reducible show UnrPost _ _ _ _ _ _ _ _ _) | (with_reducible show wpAny _ _ (exec (Stmt.Assign _ (PySem.Expr.ListComp _ _ _ _) _) _) _ _ _) | (with_reducible show wpAny _ _ (eval (PySem.Expr.ListComp _ _ _ _) _) _ _ _) | (with_reducible show wpAny _ _ (call (Value.type "zip") _) _ _ _) | (with_reducible show MEnd _ _ _ _ _ _ _ _ _ _ _ _ _) | (with_reducible show wpAny _ _ (exec (Stmt.For _ _ _ _ _) _) _ _ _) | (with_reducible show wpAny _ _ (exec (Stmt.While _ _ _ _) _) _ _ _) | (with_reducible show wpAny _ _ (eval (PySem.Expr.IfExp _ _ _ _) _) _ _ _))); first | (k_unfold; (try dsimp only)) | (k_end; wrow_close) | ((with_reducible show ite _ _ _); refine ite_neg (by first | omega | (simp only [beq_iff_eq, bne_iff_ne, decide_eq_true_eq, Int.not_lt, Int.not_le]; omega)) ?_) | ((with_reducible show wpAny _ _ (compareOp .Eq (Value.str _ _) (Value.str _ _)) _ _ _); refine my_eq1 ?_) | ((with_reducible show wpAny _ _ (eval (PySem.Expr.Name _ _) (compEnvC _ _ _ _)) _ _ _); k_dflt (refine LCgL.ld_own (by k_asm) (by k_mem) (by assumption) (by assumption) ?_)) | walk1 | (dsimp only; walk1) | (leave1; walk_say "STEP leave1"; try dsimp only)))
                exact hQ' _ _ _ (by k_asm) (by k_asm)
            intro k1 h' tk' F' N'
            (refine MEnd.intro (by k_asm) (by k_asm) _ (fun p9 hp9 => hp9) (by with_reducible assumption) (by with_reducible assumption) ?gK9 ?_; (case gK9 => ((try simp only [List.cons_append, List.nil_append]); (repeat' first | exact List.forall_mem_nil _ | refine FMC.all ⟨by k_mem, ?_⟩ | (intro p9 hp9; (repeat' first | assumption | refine List.Mem.tail _ ?_))))))
            walk_at "MINE mcons"
            (repeat' ((fail_if_success (first | (with_reducible show wpAny _ _ (call (Value.ref _) _) _ _ _) | (with_reducible show wpAny _ _ (pyIter _) _ _ _) | (with_reducible show UnrPost _ _ _ _ _ _ _ _ _) | (with_reducible show wpAny _ _ (exec (Stmt.Assign _ (PySem.Expr.ListComp _ _ _ _) _) _) _ _ _) | (with_reducible show wpAny _ _ (eval (PySem.Expr.ListComp _ _ _ _) _) _ _ _) | (with_reducible show wpAny _ _ (call (Value.type "zip") _) _ _ _) | (with_reducible show MEnd _ _ _ _ _ _ _ _ _ _ _ _ _) | (with_reducible show wpAny _ _ (exec (Stmt.For _ _ _ _ _) _) _ _ _) | (with_reducible show wpAny _ _ (exec (Stmt.While _ _ _ _) _) _ _ _) | (with_reducible show wpAny _ _ (eval (PySem.Expr.IfExp _ _ _ _) _) _ _ _))); first | (k_unfold; (try dsimp only)) | (k_end; wrow_close) | walk1 | (dsimp only; walk1) | (leave1; walk_say "STEP leave1"; try dsimp only)))
            refine step_frameW (by k_asm) (by k_asm) (fun G => ∀ t, G (.int (if 103 = lett p then p.2.1 - 1 else p.2.1) t)) (fun Q' hQ' => ?_) ?_
            · by_cases hl : 103 = lett p
              · rw [if_pos hl] at hQ'
                walk1
                (repeat' ((fail_if_success (first | (with_reducible show wpAny _ _ (call (Value.ref _) _) _ _ _) | (with_reducible show wpAny _ _ (pyIter _) _ _ _) | (with_reducible show UnrPost _ _ _ _ _ _ _ _ _) | (with_reducible show wpAny _ _ (exec (Stmt.Assign _ (PySem.Expr.ListComp _ _ _ _) _) _) _ _ _) | (with_reducible show wpAny _ _ (eval (PySem.Expr.ListComp _ _ _ _) _) _ _ _) | (with_reducible show wpAny _ _ (call (Value.type "zip") _) _ _ _) | (with_reducible show MEnd _ _ _ _ _ _ _ _ _ _ _ _ _) | (with_reducible show wpAny _ _ (exec (Stmt.For _ _ _ _ _) _) _ _ _) | (with_reducible show wpAny _ _ (exec (Stmt.While _ _ _ _) _) _ _ _) | (with_reducible show wpAny _ _ (eval (PySem.Expr.IfExp _ _ _ _) _) _ _ _))); first | (k_unfold; (try dsimp only)) | (k_end; wrow_close) | ((with_reducible show ite _ _ _); refine ite_pos (by first | omega | (simp only [beq_iff_eq, bne_iff_ne, decide_eq_true_eq, Int.not_lt, Int.not_le]; omega)) ?_) | ((with_reducible show wpAny _ _ (compareOp .Eq (Value.str _ _) (Value.str _ _)) _ _ _); refine my_eq1 ?_) | ((with_reducible show wpAny _ _ (eval (PySem.Expr.Name _ _) (compEnvC _ _ _ _)) _ _ _); k_dflt (refine LCgL.ld_own (by k_asm) (by k_mem) (by assumption) (by assumption) ?_)) | walk1 | (dsimp only; walk1) | (leave1; walk_say "STEP leave1"; try dsimp only)))
                exact hQ' _ _ _ (by k_asm) (by k_asm)
              · rw [if_neg hl] at hQ'
                walk1
                (repeat' ((fail_if_success (first | (with_reducible show wpAny _ _ (call (Value.ref _) _) _ _ _) | (with_reducible show wpAny _ _ (pyIter _) _ _ _) | (with_reducible show UnrPost _ _ _ _ _ _ _ _ _) | (with_reducible show wpAny _ _ (exec (Stmt.Assign _ (PySem.Expr.ListComp _ _ _ _) _) _) _ _ _) | (with_reducible show wpAny _ _ (eval (PySem.Expr.ListComp _ _ _ _) _) _ _ _) | (with_reducible show wpAny _ _ (call (Value.type "zip") _) _ _ _) | (with_reducible show MEnd _ _ _ _ _ _ _ _ _ _ _ _ _) | (with_reducible show wpAny _ _ (exec (Stmt.For _ _ _ _ _) _) _ _ _) | (with_reducible show wpAny _ _ (exec (Stmt.While _ _ _ _) _) _ _ _) | (with_reducible show wpAny _ _ (eval (PySem.Expr.IfExp _ _ _ _) _) _ _ _))); first | (k_unfold; (try dsimp only)) | (k_end; wrow_close) | ((with_reducible show ite _ _ _); refine ite_neg (by first | omega | (simp only [beq_iff_eq, bne_iff_ne, decide_eq_true_eq, Int.not_lt, Int.not_le]; omega)) ?_) | ((with_reducible show wpAny _ _ (compareOp .Eq (Value.str _ _) (Value.str _ _)) _ _ _); refine my_eq1 ?_) | ((with_reducible show wpAny _ _ (eval (PySem.Expr.Name _ _) (compEnvC _ _ _ _)) _ _ _); k_dflt (refine LCgL.ld_own (by k_asm) (by k_mem) (by assumption) (by assumption) ?_)) | walk1 | (dsimp only; walk1) | (leave1; walk_say "STEP leave1"; try dsimp only)))
                exact hQ' _ _ _ (by k_asm) (by k_asm)
            intro k2 h' tk' F' N'
            (refine MEnd.intro (by k_asm) (by k_asm) _ (fun p9 hp9 => hp9) (by with_reducible assumption) (by with_reducible assumption) ?gK9 ?_; (case gK9 => ((try simp only [List.cons_append, List.nil_append]); (repeat' first | exact List.forall_mem_nil _ | refine FMC.all ⟨by k_mem, ?_⟩ | (intro p9 hp9; (repeat' first | assumption | refine List.Mem.tail _ ?_))))))
            walk_at "MINE mcons"
            (repeat' ((fail_if_success (first | (with_reducible show wpAny _ _ (call (Value.ref _) _) _ _ _) | (with_reducible show wpAny _ _ (pyIter _) _ _ _) | (with_reducible show UnrPost _ _ _ _ _ _ _ _ _) | (with_reducible show wpAny _ _ (exec (Stmt.Assign _ (PySem.Expr.ListComp _ _ _ _) _) _) _ _ _) | (with_reducible show wpAny _ _ (eval (PySem.Expr.ListComp _ _ _ _) _) _ _ _) | (with_reducible show wpAny _ _ (call (Value.type "zip") _) _ _ _) | (with_reducible show MEnd _ _ _ _ _ _ _ _ _ _ _ _ _) | (with_reducible show wpAny _ _ (exec (Stmt.For _ _ _ _ _) _) _ _ _) | (with_reducible show wpAny _ _ (exec (Stmt.While _ _ _ _) _) _ _ _) | (with_reducible show wpAny _ _ (eval (PySem.Expr.IfExp _ _ _ _) _) _ _ _))); first | (k_unfold; (try dsimp only)) | (k_end; wrow_close) | walk1 | (dsimp only; walk1) | (leave1; walk_say "STEP leave1"; try dsimp only)))
            refine step_frameW (by k_asm) (by k_asm) (fun G => ∀ t, G (.int (if 98 = lett p then p.2.2 - 1 else p.2.2) t)) (fun Q' hQ' => ?_) ?_
            · by_cases hl : 98 = lett p
              · rw [if_pos hl] at hQ'
                walk1
                (repeat' ((fail_if_success (first | (with_reducible show wpAny _ _ (call (Value.ref _) _) _ _ _) | (with_reducible show wpAny _ _ (pyIter _) _ _ _) | (with_reducible show UnrPost _ _ _ _ _ _ _ _ _) | (with_reducible show wpAny _ _ (exec (Stmt.Assign _ (PySem.Expr.ListComp _ _ _ _) _) _) _ _ _) | (with_reducible show wpAny _ _ (eval (PySem.Expr.ListComp _ _ _ _) _) _ _ _) | (with_reducible show wpAny _ _ (call (Value.type "zip") _) _ _ _) | (with_reducible show MEnd _ _ _ _ _ _ _ _ _ _ _ _ _) | (with_reducible show wpAny _ _ (exec (Stmt.For _ _ _ _ _) _) _ _ _) | (with_reducible show wpAny _ _ (exec (Stmt.While _ _ _ _) _) _ _ _) | (with_reducible show wpAny _ _ (eval (PySem.Expr.IfExp _ _ _ _) _) _ _ _))); first | (k_unfold; (try dsimp only)) | (k_end; wrow_close) | ((with_reducible show ite _ _ _); refine ite_pos (by first | omega | (simp only [beq_iff_eq, bne_iff_ne, decide_eq_true_eq, Int.not_lt, Int.not_le]; omega)) ?_) | ((with_reducible show wpAny _ _ (compareOp .Eq (Value.str _ _) (Value.str _ _)) _ _ _); refine my_eq1 ?_) | ((with_reducible show wpAny _ _ (eval (PySem.Expr.Name _ _) (compEnvC _ _ _ _)) _ _ _); k_dflt (refine LCgL.ld_own (by k_asm) (by k_mem) (by assumption) (by assumption) ?_)) | walk1 | (dsimp only; walk1) | (leave1; walk_say "STEP leave1"; try dsimp only)))
                exact hQ' _ _ _ (by k_asm) (by k_asm)
              · rw [if_neg hl] at hQ'
                walk1
                (repeat' ((fail_if_success (first | (with_reducible show wpAny _ _ (call (Value.ref _) _) _ _ _) | (with_reducible show wpAny _ _ (pyIter _) _ _ _) | (with_reducible show UnrPost _ _ _ _ _ _ _ _ _) | (with_reducible show wpAny _ _ (exec (Stmt.Assign _ (PySem.Expr.ListComp _ _ _ _) _) _) _ _ _) | (with_reducible show wpAny _ _ (eval (PySem.Expr.ListComp _ _ _ _) _) _ _ _) | (with_reducible show wpAny _ _ (call (Value.type "zip") _) _ _ _) | (with_reducible show MEnd _ _ _ _ _ _ _ _ _ _ _ _ _) | (with_reducible show wpAny _ _ (exec (Stmt.For _ _ _ _ _) _) _ _ _) | (with_reducible show wpAny _ _ (exec (Stmt.While _ _ _ _) _) _ _ _) | (with_reducible show wpAny _ _ (eval (PySem.Expr.IfExp _ _ _ _) _) _ _ _))); first | (k_unfold; (try dsimp only)) | (k_end; wrow_close) | ((with_reducible show ite _ _ _); refine ite_neg (by first | omega | (simp only [beq_iff_eq, bne_iff_ne, decide_eq_true_eq, Int.not_lt, Int.not_le]; omega)) ?_) | ((with_reducible show wpAny _ _ (compareOp .Eq (Value.str _ _) (Value.str _ _)) _ _ _); refine my_eq1 ?_) | ((with_reducible show wpAny _ _ (eval (PySem.Expr.Name _ _) (compEnvC _ _ _ _)) _ _ _); k_dflt (refine LCgL.ld_own (by k_asm) (by k_mem) (by assumption) (by assumption) ?_)) | walk1 | (dsimp only; walk1) | (leave1; walk_say "STEP leave1"; try dsimp only)))
                exact hQ' _ _ _ (by k_asm) (by k_asm)
            intro k3 h' tk' F' N'
            (refine MEnd.intro (by k_asm) (by k_asm) _ (fun p9 hp9 => hp9) (by with_reducible assumption) (by with_reducible assumption) ?gK9 ?_; (case gK9 => ((try simp only [List.cons_append, List.nil_append]); (repeat' first | exact List.forall_mem_nil _ | refine FMC.all ⟨by k_mem, ?_⟩ | (intro p9 hp9; (repeat' first | assumption | refine List.Mem.tail _ ?_))))))
            refine MRest.nil ?_
            exact hFin _ _ _
          intro k1 k2 k3
          intro D3 h3 tk3 F3 N3 ne3 lt3
          k_lt lt3
          (repeat' ((fail_if_success (first | (with_reducible show wpAny _ _ (call (Value.ref _) _) _ _ _) | (with_reducible show wpAny _ _ (pyIter _) _ _ _) | (with_reducible show UnrPost _ _ _ _ _ _ _ _ _) | (with_reducible show wpAny _ _ (exec (Stmt.Assign _ (PySem.Expr.ListComp _ _ _ _) _) _) _ _ _) | (with_reducible show wpAny _ _ (eval (PySem.Expr.ListComp _ _ _ _) _) _ _ _) | (with_reducible show wpAny _ _ (call (Value.type "zip") _) _ _ _) | (with_reducible show MEnd _ _ _ _ _ _ _ _ _ _ _ _ _) | (with_reducible show wpAny _ _ (exec (Stmt.For _ _ _ _ _) _) _ _ _) | (with_reducible show wpAny _ _ (exec (Stmt.While _ _ _ _) _) _ _ _) | (with_reducible show wpAny _ _ (eval (PySem.Expr.IfExp _ _ _ _) _) _ _ _))); first | (k_unfold; (try dsimp only)) | (k_end; wrow_close) | walk1 | (dsimp only; walk1) | (leave1; walk_say "STEP leave1"; try dsimp only)))
          rename_i h5 oP5 F5 N5 dP5
          replace N5 := newsSub (T := (D3, W.listOf [Value.int (off p (lett p)).1 k1, .int (off p (lett p)).2.1 k2, .int (off p (lett p)).2.2 k3].toArray 3) :: (L1 + 1 + 1, oL4) :: (L1 + 1, oP5) :: (30, o30) :: (37, o37) :: (ext ++ news)) N5 (by (repeat' first | exact List.forall_mem_nil _ | refine FMC.all ⟨by k_mem, ?_⟩ | (intro p9 hp9; (repeat' first | assumption | refine List.Mem.tail _ ?_))))
          (k_dflt (refine LCg.Assign_ListComp_U (F₀ := by k_asm) (by rfl) (by with_unfolding_all rfl) (by with_unfolding_all rfl) (by decide) (by rfl) (by decide) (by rfl) (by rfl) (by rfl) ?_))
          (repeat' ((fail_if_success (first | (with_reducible show wpAny _ _ (call (Value.ref _) _) _ _ _) | (with_reducible show wpAny _ _ (pyIter _) _ _ _) | (with_reducible show UnrPost _ _ _ _ _ _ _ _ _) | (with_reducible show wpAny _ _ (exec (Stmt.Assign _ (PySem.Expr.ListComp _ _ _ _) _) _) _ _ _) | (with_reducible show wpAny _ _ (eval (PySem.Expr.ListComp _ _ _ _) _) _ _ _) | (with_reducible show wpAny _ _ (call (Value.type "zip") _) _ _ _) | (with_reducible show MEnd _ _ _ _ _ _ _ _ _ _ _ _ _) | (with_reducible show wpAny _ _ (exec (Stmt.For _ _ _ _ _) _) _ _ _) | (with_reducible show wpAny _ _ (exec (Stmt.While _ _ _ _) _) _ _ _) | (with_reducible show wpAny _ _ (eval (PySem.Expr.IfExp _ _ _ _) _) _ _ _) | (with_reducible show LCg.CompSrc _ _ _ _ _ _ _ _ _ _ _ _ _ _) | (with_reducible show LCg.CompEnd _ _ _ _ _ _ _ _ _ _ _ _ _ _))); first | (k_unfold; (try dsimp only)) | (k_end; wrow_close) | walk1 | (dsimp only; walk1) | (leave1; walk_say "STEP leave1"; try dsimp only)))
          rename_i D4 h6 F6 N6 b0 b1 b2 b3 b4 l6
          obtain ⟨bd0, bd1⟩ := d_bound hbd
          (refine LCg.CompSrc.ledger (by rfl) (by k_asm) (by k_asm) (by k_mem) (by first | size_fits | exact Nat.le_of_ble_eq_true rfl | (rw [PySem.sizeLine_eq]; omega)) ?_; intro _)
          with_unfolding_all refine LCg.CompRest.succ ?_
          intro v6 I6 oI6 C6 oC6 A6 m6 h6' tk6 E6 hv6 hC6 hx6 F6' N6' off6 ne6
          lcg_open hv6
          have os6 := off6.mem
          have q30a := os6 (30, o30) (by (repeat' first | exact List.Mem.head _ | assumption | refine List.Mem.tail _ ?_))
          have q37a := os6 (37, o37) (by (repeat' first | exact List.Mem.head _ | assumption | refine List.Mem.tail _ ?_))
          have hR30 : ∀ z ∈ (D4, W.listOf [Value.int (off p (lett p)).1 k1, .int (off p (lett p)).2.1 k2].toArray 0) :: (D3, W.listOf [Value.int (off p (lett p)).1 k1, .int (off p (lett p)).2.1 k2, .int (off p (lett p)).2.2 k3].toArray 3) :: (L1 + 1 + 1, oL4) :: (L1 + 1, oP5) :: (ext ++ news), z.1 ≠ 30 := FMC.all ⟨Nat.ne_of_gt (by assumption : @LT.lt Nat _ 30 D4), FMC.all ⟨Nat.ne_of_gt (by assumption : @LT.lt Nat _ 30 D3), FMC.all ⟨Nat.ne_of_gt (by assumption : @LT.lt Nat _ 30 (L1 + 1 + 1)), FMC.all ⟨Nat.ne_of_gt (Nat.lt_succ_of_lt (by assumption : @LT.lt Nat _ 30 L1)),  hE30⟩⟩⟩⟩
          have hR37 : ∀ z ∈ (D4, W.listOf [Value.int (off p (lett p)).1 k1, .int (off p (lett p)).2.1 k2].toArray 0) :: (D3, W.listOf [Value.int (off p (lett p)).1 k1, .int (off p (lett p)).2.1 k2, .int (off p (lett p)).2.2 k3].toArray 3) :: (L1 + 1 + 1, oL4) :: (L1 + 1, oP5) :: (ext ++ news), z.1 ≠ 37 := FMC.all ⟨Nat.ne_of_gt (by assumption : @LT.lt Nat _ 37 D4), FMC.all ⟨Nat.ne_of_gt (by assumption : @LT.lt Nat _ 37 D3), FMC.all ⟨Nat.ne_of_gt (by assumption : @LT.lt Nat _ 37 (L1 + 1 + 1)), FMC.all ⟨Nat.ne_of_gt (Nat.lt_succ_of_lt (by assumption : @LT.lt Nat _ 37 L1)),  hE37⟩⟩⟩⟩
          (repeat' ((fail_if_success (first | (with_reducible show wpAny _ _ (call (Value.ref _) _) _ _ _) | (with_reducible show wpAny _ _ (pyIter _) _ _ _) | (with_reducible show UnrPost _ _ _ _ _ _ _ _ _) | (with_reducible show wpAny _ _ (exec (Stmt.Assign _ (PySem.Expr.ListComp _ _ _ _) _) _) _ _ _) | (with_reducible show wpAny _ _ (eval (PySem.Expr.ListComp _ _ _ _) _) _ _ _) | (with_reducible show wpAny _ _ (call (Value.type "zip") _) _ _ _) | (with_reducible show MEnd _ _ _ _ _ _ _ _ _ _ _ _ _) | (with_reducible show wpAny _ _ (exec (Stmt.For _ _ _ _ _) _) _ _ _) | (with_reducible show wpAny _ _ (exec (Stmt.While _ _ _ _) _) _ _ _) | (with_reducible show wpAny _ _ (eval (PySem.Expr.IfExp _ _ _ _) _) _ _ _) | (with_reducible show LCg.CompSrc _ _ _ _ _ _ _ _ _ _ _ _ _ _) | (with_reducible show LCg.CompEnd _ _ _ _ _ _ _ _ _ _ _ _ _ _))); first | (k_unfold; (try dsimp only)) | (k_end; wrow_close) | ((with_reducible show wpAny _ _ (callWith _ (Value.ref _) _ _ _) _ _ _); (k_here; (k_dflt (refine' callWith_K ?k1 ?k2 ?_; (case k1 => k_asm); (case k2 => k_is); k_whole)))) | ((with_reducible show wpAny _ _ (eval (PySem.Expr.Name _ _) (compEnvC _ _ _ _)) _ _ _); k_dflt (refine LCgL.ld_own (by k_asm) (by k_mem) (by assumption) (by assumption) ?_)) | walk1 | (dsimp only; walk1) | (leave1; walk_say "STEP leave1"; try dsimp only)))
          refine' (idmW (w := w) (T0 := ext ++ T0) (news := (I6, oI6) :: (C6, oC6) :: (A6, LCg.lst []) :: (D4, W.listOf [Value.int (off p (lett p)).1 k1, .int (off p (lett p)).2.1 k2].toArray 0) :: (D3, W.listOf [Value.int (off p (lett p)).1 k1, .int (off p (lett p)).2.1 k2, .int (off p (lett p)).2.2 k3].toArray 3) :: (L1 + 1 + 1, oL4) :: (L1 + 1, oP5) :: (ext ++ news)) (d0F p) 2 bd0 (by decide) (by decide) (-2) rfl _ _ ?h30a ?h37a o30 o37 hT30 hT37 ?hsa).use (K := K01) ?Ba ?Fa ?Xa ?Na ?Ta ⟨hH1, hH2⟩ rfl ?hda ?hua ?_
          case Na => exact newsSub (by k_asm) (by (repeat' first | exact List.forall_mem_nil _ | refine FMC.all ⟨by k_mem, ?_⟩ | (intro p9 hp9; (repeat' first | assumption | refine List.Mem.tail _ ?_))))
          case Ba => k_asm
          case Fa => k_asm
          case Xa => k_asm
          case Ta => k_asm
          case hda => ktr_room
          case hua => ktr_units
          case h30a => exact FMC.all ⟨Ne.symm q30a.1, FMC.all ⟨Ne.symm q30a.2.1, FMC.all ⟨Ne.symm q30a.2.2, hR30⟩⟩⟩
          case h37a => exact FMC.all ⟨Ne.symm q37a.1, FMC.all ⟨Ne.symm q37a.2.1, FMC.all ⟨Ne.symm q37a.2.2, hR37⟩⟩⟩
          case hsa => exact fun z hz => .tail _ (.tail _ (.tail _ (.tail _ (.tail _ (.tail _ (.tail _ (hsE z hz)))))))
          intro Dt w1 w2 o30a o37a exta Ta30 Ta37 lt7 lt37 lx7 h7 tk7 F7 N7
          rw [hev.1] at N7
          have hoff : LCg.Off3 I6 C6 A6 ((Dt, tup [.int ((d0F p).fdiv (-2)) w1, .int 0 w2]) :: (30, o30a) :: (37, o37a) :: (D4, W.listOf [Value.int (off p (lett p)).1 k1, .int (off p (lett p)).2.1 k2].toArray 0) :: (D3, W.listOf [Value.int (off p (lett p)).1 k1, .int (off p (lett p)).2.1 k2, .int (off p (lett p)).2.2 k3].toArray 3) :: (L1 + 1 + 1, oL4) :: (L1 + 1, oP5) :: (exta ++ (ext ++ news))) := LCg.Off3.of fun y hy => (off_told (ot := tup [.int ((d0F p).fdiv (-2)) w1, .int 0 w2]) (o30 := o30a) (o37 := o37a) lt7 lx7 q30a q37a fun z hz => os6 z (by
            rcases List.mem_cons.mp hz with rfl | hz
            · exact .head _
            rcases List.mem_cons.mp hz with rfl | hz
            · exact .tail _ (.head _)
            rcases List.mem_cons.mp hz with rfl | hz
            · exact .tail _ (.tail _ (.head _))
            rcases List.mem_cons.mp hz with rfl | hz
            · exact .tail _ (.tail _ (.tail _ (.head _)))
            · exact .tail _ (.tail _ (.tail _ (.tail _ (.tail _ (.tail _ hz))))))).mem y (perm4 y hy)
          have hsub : ∀ z ∈ (I6, oI6) :: (C6, oC6) :: (A6, LCg.lst []) :: (Dt, tup [.int ((d0F p).fdiv (-2)) w1, .int 0 w2]) :: (30, o30a) :: (37, o37a) :: (D4, W.listOf [Value.int (off p (lett p)).1 k1, .int (off p (lett p)).2.1 k2].toArray 0) :: (D3, W.listOf [Value.int (off p (lett p)).1 k1, .int (off p (lett p)).2.1 k2, .int (off p (lett p)).2.2 k3].toArray 3) :: (L1 + 1 + 1, oL4) :: (L1 + 1, oP5) :: (exta ++ (ext ++ news)), z ∈ (Dt, tup [.int ((d0F p).fdiv (-2)) w1, .int 0 w2]) :: (30, o30a) :: (37, o37a) :: (exta ++ (I6, oI6) :: (C6, oC6) :: (A6, LCg.lst []) :: (D4, W.listOf [Value.int (off p (lett p)).1 k1, .int (off p (lett p)).2.1 k2].toArray 0) :: (D3, W.listOf [Value.int (off p (lett p)).1 k1, .int (off p (lett p)).2.1 k2, .int (off p (lett p)).2.2 k3].toArray 3) :: (L1 + 1 + 1, oL4) :: (L1 + 1, oP5) :: (ext ++ news)) := perm7
          have hS6 : LCg.SrcAt g1 D4 #[Value.int (off p (lett p)).1 k1, .int (off p (lett p)).2.1 k2] ((Dt, tup [.int ((d0F p).fdiv (-2)) w1, .int 0 w2]) :: (30, o30a) :: (37, o37a) :: (D4, W.listOf [Value.int (off p (lett p)).1 k1, .int (off p (lett p)).2.1 k2].toArray 0) :: (D3, W.listOf [Value.int (off p (lett p)).1 k1, .int (off p (lett p)).2.1 k2, .int (off p (lett p)).2.2 k3].toArray 3) :: (L1 + 1 + 1, oL4) :: (L1 + 1, oP5) :: (exta ++ (ext ++ news))) := .inr ⟨W.listOf [Value.int (off p (lett p)).1 k1, .int (off p (lett p)).2.1 k2].toArray 0, .tail _ (.tail _ (.tail _ (.head _))), rfl, 0, rfl⟩
          refine LCg.CompEnd.intro F7 N7 ((Dt, tup [.int ((d0F p).fdiv (-2)) w1, .int 0 w2]) :: (30, o30a) :: (37, o37a) :: (D4, W.listOf [Value.int (off p (lett p)).1 k1, .int (off p (lett p)).2.1 k2].toArray 0) :: (D3, W.listOf [Value.int (off p (lett p)).1 k1, .int (off p (lett p)).2.1 k2, .int (off p (lett p)).2.2 k3].toArray 3) :: (L1 + 1 + 1, oL4) :: (L1 + 1, oP5) :: (exta ++ (ext ++ news))) hsub hoff hS6 ?_
          clear hsub hoff hS6
          with_unfolding_all refine LCg.CompRest.succ ?_
          intro v8 I8 oI8 C8 oC8 A8 m8 h8' tk8 E8 hv8 hC8 hx8 F8' N8' off8 ne8
          lcg_open hv8
          have os8 := off8.mem
          have q30b := os8 (30, o30a) (by (repeat' first | exact List.Mem.head _ | assumption | refine List.Mem.tail _ ?_))
          have q37b := os8 (37, o37a) (by (repeat' first | exact List.Mem.head _ | assumption | refine List.Mem.tail _ ?_))
          (repeat' ((fail_if_success (first | (with_reducible show wpAny _ _ (call (Value.ref _) _) _ _ _) | (with_reducible show wpAny _ _ (pyIter _) _ _ _) | (with_reducible show UnrPost _ _ _ _ _ _ _ _ _) | (with_reducible show wpAny _ _ (exec (Stmt.Assign _ (PySem.Expr.ListComp _ _ _ _) _) _) _ _ _) | (with_reducible show wpAny _ _ (eval (PySem.Expr.ListComp _ _ _ _) _) _ _ _) | (with_reducible show wpAny _ _ (call (Value.type "zip") _) _ _ _) | (with_reducible show MEnd _ _ _ _ _ _ _ _ _ _ _ _ _) | (with_reducible show wpAny _ _ (exec (Stmt.For _ _ _ _ _) _) _ _ _) | (with_reducible show wpAny _ _ (exec (Stmt.While _ _ _ _) _) _ _ _) | (with_reducible show wpAny _ _ (eval (PySem.Expr.IfExp _ _ _ _) _) _ _ _) | (with_reducible show LCg.CompSrc _ _ _ _ _ _ _ _ _ _ _ _ _ _) | (with_reducible show LCg.CompEnd _ _ _ _ _ _ _ _ _ _ _ _ _ _))); first | (k_unfold; (try dsimp only)) | (k_end; wrow_close) | ((with_reducible show wpAny _ _ (callWith _ (Value.ref _) _ _ _) _ _ _); (k_here; (k_dflt (refine' callWith_K ?k1 ?k2 ?_; (case k1 => k_asm); (case k2 => k_is); k_whole)))) | ((with_reducible show wpAny _ _ (eval (PySem.Expr.Name _ _) (compEnvC _ _ _ _)) _ _ _); k_dflt (refine LCgL.ld_own (by k_asm) (by k_mem) (by assumption) (by assumption) ?_)) | walk1 | (dsimp only; walk1) | (leave1; walk_say "STEP leave1"; try dsimp only)))
          have lt37n : @LT.lt Nat _ 37 Dt := lt37
          have hR30b : ∀ z ∈ (Dt, tup [.int ((d0F p).fdiv (-2)) w1, .int 0 w2]) :: (D4, W.listOf [Value.int (off p (lett p)).1 k1, .int (off p (lett p)).2.1 k2].toArray 0) :: (D3, W.listOf [Value.int (off p (lett p)).1 k1, .int (off p (lett p)).2.1 k2, .int (off p (lett p)).2.2 k3].toArray 3) :: (L1 + 1 + 1, oL4) :: (L1 + 1, oP5) :: (exta ++ (ext ++ news)), z.1 ≠ 30 := FMC.all ⟨Nat.ne_of_gt (Nat.lt_trans (show (30 : Nat) < 37 by decide) lt37n), FMC.all ⟨Nat.ne_of_gt (by assumption : @LT.lt Nat _ 30 D4), FMC.all ⟨Nat.ne_of_gt (by assumption : @LT.lt Nat _ 30 D3), FMC.all ⟨Nat.ne_of_gt (by assumption : @LT.lt Nat _ 30 (L1 + 1 + 1)), FMC.all ⟨Nat.ne_of_gt (Nat.lt_succ_of_lt (by assumption : @LT.lt Nat _ 30 L1)),  fun z hz => (List.mem_append.mp hz).elim (fun h => Nat.ne_of_gt (Nat.lt_trans (show (30 : Nat) < 37 by decide) (lx7 z h).2)) (hE30 z)⟩⟩⟩⟩⟩
          have hR37b : ∀ z ∈ (Dt, tup [.int ((d0F p).fdiv (-2)) w1, .int 0 w2]) :: (D4, W.listOf [Value.int (off p (lett p)).1 k1, .int (off p (lett p)).2.1 k2].toArray 0) :: (D3, W.listOf [Value.int (off p (lett p)).1 k1, .int (off p (lett p)).2.1 k2, .int (off p (lett p)).2.2 k3].toArray 3) :: (L1 + 1 + 1, oL4) :: (L1 + 1, oP5) :: (exta ++ (ext ++ news)), z.1 ≠ 37 := FMC.all ⟨Nat.ne_of_gt lt37n, FMC.all ⟨Nat.ne_of_gt (by assumption : @LT.lt Nat _ 37 D4), FMC.all ⟨Nat.ne_of_gt (by assumption : @LT.lt Nat _ 37 D3), FMC.all ⟨Nat.ne_of_gt (by assumption : @LT.lt Nat _ 37 (L1 + 1 + 1)), FMC.all ⟨Nat.ne_of_gt (Nat.lt_succ_of_lt (by assumption : @LT.lt Nat _ 37 L1)),  fun z hz => (List.mem_append.mp hz).elim (fun h => Nat.ne_of_gt (lx7 z h).2) (hE37 z)⟩⟩⟩⟩⟩
          refine' (idmW (w := w) (T0 := exta ++ (ext ++ T0)) (news := (I8, oI8) :: (C8, oC8) :: (A8, LCg.lst ([] ++ [Value.ref Dt])) :: (Dt, tup [.int ((d0F p).fdiv (-2)) w1, .int 0 w2]) :: (D4, W.listOf [Value.int (off p (lett p)).1 k1, .int (off p (lett p)).2.1 k2].toArray 0) :: (D3, W.listOf [Value.int (off p (lett p)).1 k1, .int (off p (lett p)).2.1 k2, .int (off p (lett p)).2.2 k3].toArray 3) :: (L1 + 1 + 1, oL4) :: (L1 + 1, oP5) :: (exta ++ (ext ++ news))) (d1F p) 2 bd1 (by decide) (by decide) (-2) rfl _ _ ?h30b ?h37b o30a o37a ?hTa30 ?hTa37 ?hsb).use (K := K01) ?Bb ?Fb ?Xb ?Nb ?Tb ⟨hH1, hH2⟩ rfl ?hdb ?hub ?_
          case Nb => exact newsSub (by k_asm) (by (repeat' first | exact List.forall_mem_nil _ | refine FMC.all ⟨by k_mem, ?_⟩ | (intro p9 hp9; (repeat' first | assumption | refine List.Mem.tail _ ?_))))
          case hTa30 => exact Ta30
          case hTa37 => exact Ta37
          case Bb => k_asm
          case Fb => k_asm
          case Xb => k_asm
          case Tb => k_asm
          case hdb => ktr_room
          case hub => ktr_units
          case h30b => exact FMC.all ⟨Ne.symm q30b.1, FMC.all ⟨Ne.symm q30b.2.1, FMC.all ⟨Ne.symm q30b.2.2, hR30b⟩⟩⟩
          case h37b => exact FMC.all ⟨Ne.symm q37b.1, FMC.all ⟨Ne.symm q37b.2.1, FMC.all ⟨Ne.symm q37b.2.2, hR37b⟩⟩⟩
          case hsb => exact fun z hz => .tail _ (.tail _ (.tail _ (.tail _ (.tail _ (.tail _ (.tail _ (.tail _ (List.mem_append.mpr ((List.mem_append.mp hz).imp id (hsE z))))))))))
          intro Du x1 x2 o30b o37b extb Tb30 Tb37 lt9 lt39 lx9 h9' tk9' F9' N9'
          rw [hev.2] at N9'
          have hoff : LCg.Off3 I8 C8 A8 ((Du, tup [.int ((d1F p).fdiv (-2)) x1, .int 0 x2]) :: (30, o30b) :: (37, o37b) :: (Dt, tup [.int ((d0F p).fdiv (-2)) w1, .int 0 w2]) :: (D4, W.listOf [Value.int (off p (lett p)).1 k1, .int (off p (lett p)).2.1 k2].toArray 0) :: (D3, W.listOf [Value.int (off p (lett p)).1 k1, .int (off p (lett p)).2.1 k2, .int (off p (lett p)).2.2 k3].toArray 3) :: (L1 + 1 + 1, oL4) :: (L1 + 1, oP5) :: (extb ++ (exta ++ (ext ++ news)))) := LCg.Off3.of fun y hy => (off_told (ot := tup [.int ((d1F p).fdiv (-2)) x1, .int 0 x2]) (o30 := o30b) (o37 := o37b) lt9 lx9 q30b q37b fun z hz => os8 z (by
            rcases List.mem_cons.mp hz with rfl | hz
            · exact .head _
            · exact .tail _ (.tail _ (.tail _ hz)))).mem y (perm5 y hy)
          have hsub : ∀ z ∈ (I8, oI8) :: (C8, oC8) :: (A8, LCg.lst ([] ++ [Value.ref Dt])) :: (Du, tup [.int ((d1F p).fdiv (-2)) x1, .int 0 x2]) :: (30, o30b) :: (37, o37b) :: (Dt, tup [.int ((d0F p).fdiv (-2)) w1, .int 0 w2]) :: (D4, W.listOf [Value.int (off p (lett p)).1 k1, .int (off p (lett p)).2.1 k2].toArray 0) :: (D3, W.listOf [Value.int (off p (lett p)).1 k1, .int (off p (lett p)).2.1 k2, .int (off p (lett p)).2.2 k3].toArray 3) :: (L1 + 1 + 1, oL4) :: (L1 + 1, oP5) :: (extb ++ (exta ++ (ext ++ news))), z ∈ (Du, tup [.int ((d1F p).fdiv (-2)) x1, .int 0 x2]) :: (30, o30b) :: (37, o37b) :: (extb ++ (I8, oI8) :: (C8, oC8) :: (A8, LCg.lst ([] ++ [Value.ref Dt])) :: (Dt, tup [.int ((d0F p).fdiv (-2)) w1, .int 0 w2]) :: (D4, W.listOf [Value.int (off p (lett p)).1 k1, .int (off p (lett p)).2.1 k2].toArray 0) :: (D3, W.listOf [Value.int (off p (lett p)).1 k1, .int (off p (lett p)).2.1 k2, .int (off p (lett p)).2.2 k3].toArray 3) :: (L1 + 1 + 1, oL4) :: (L1 + 1, oP5) :: (exta ++ (ext ++ news))) := perm8
          have hS8 : LCg.SrcAt g1 D4 #[Value.int (off p (lett p)).1 k1, .int (off p (lett p)).2.1 k2] ((Du, tup [.int ((d1F p).fdiv (-2)) x1, .int 0 x2]) :: (30, o30b) :: (37, o37b) :: (Dt, tup [.int ((d0F p).fdiv (-2)) w1, .int 0 w2]) :: (D4, W.listOf [Value.int (off p (lett p)).1 k1, .int (off p (lett p)).2.1 k2].toArray 0) :: (D3, W.listOf [Value.int (off p (lett p)).1 k1, .int (off p (lett p)).2.1 k2, .int (off p (lett p)).2.2 k3].toArray 3) :: (L1 + 1 + 1, oL4) :: (L1 + 1, oP5) :: (extb ++ (exta ++ (ext ++ news)))) := .inr ⟨W.listOf [Value.int (off p (lett p)).1 k1, .int (off p (lett p)).2.1 k2].toArray 0, .tail _ (.tail _ (.tail _ (.tail _ (.head _)))), rfl, 0, rfl⟩
          refine LCg.CompEnd.intro F9' N9' ((Du, tup [.int ((d1F p).fdiv (-2)) x1, .int 0 x2]) :: (30, o30b) :: (37, o37b) :: (Dt, tup [.int ((d0F p).fdiv (-2)) w1, .int 0 w2]) :: (D4, W.listOf [Value.int (off p (lett p)).1 k1, .int (off p (lett p)).2.1 k2].toArray 0) :: (D3, W.listOf [Value.int (off p (lett p)).1 k1, .int (off p (lett p)).2.1 k2, .int (off p (lett p)).2.2 k3].toArray 3) :: (L1 + 1 + 1, oL4) :: (L1 + 1, oP5) :: (extb ++ (exta ++ (ext ++ news)))) hsub hoff hS8 ?_
          clear hsub hoff hS8
          with_unfolding_all refine LCg.CompRest.zero ?_
          unfold LCg.FinA
          intro D5 hA' tkA' FA' NA' oA'
          replace oA' : ∀ z ∈ (Du, tup [.int ((d1F p).fdiv (-2)) x1, .int 0 x2]) :: (30, o30b) :: (37, o37b) :: (Dt, tup [.int ((d0F p).fdiv (-2)) w1, .int 0 w2]) :: (D4, W.listOf [Value.int (off p (lett p)).1 k1, .int (off p (lett p)).2.1 k2].toArray 0) :: (D3, W.listOf [Value.int (off p (lett p)).1 k1, .int (off p (lett p)).2.1 k2, .int (off p (lett p)).2.2 k3].toArray 3) :: (L1 + 1 + 1, oL4) :: (L1 + 1, oP5) :: (extb ++ (exta ++ (ext ++ news))), z.1 ≠ D5 := off1_mem oA'
          have hD5a : @Ne Nat D5 (L1 + 1) := Ne.symm (oA' (L1 + 1, oP5) (by (repeat' first | exact List.Mem.head _ | assumption | refine List.Mem.tail _ ?_)))
          have hD5b : @Ne Nat D5 (L1 + 1 + 1) := Ne.symm (oA' (L1 + 1 + 1, oL4) (by (repeat' first | exact List.Mem.head _ | assumption | refine List.Mem.tail _ ?_)))
          have hD5t : @Ne Nat D5 Dt := Ne.symm (oA' (Dt, tup [.int ((d0F p).fdiv (-2)) w1, .int 0 w2]) (by (repeat' first | exact List.Mem.head _ | assumption | refine List.Mem.tail _ ?_)))
          have hD5u : @Ne Nat D5 Du := Ne.symm (oA' (Du, tup [.int ((d1F p).fdiv (-2)) x1, .int 0 x2]) (by (repeat' first | exact List.Mem.head _ | assumption | refine List.Mem.tail _ ?_)))
          have hx2 : ∀ q ∈ extb ++ (exta ++ ext), (∀ z ∈ news, @LT.lt Nat _ z.1 q.1) ∧ @LT.lt Nat _ (L1 + 1 + 1) q.1 := by
            intro q hq
            rcases List.mem_append.mp hq with hq | hq
            · have z := (lx9 q hq).1
              exact ⟨fun y hy => z y (.tail _ (.tail _ (.tail _ (.tail _ (.tail _ (.tail _ (.tail _ (.tail _ (List.mem_append.mpr (.inr (List.mem_append.mpr (.inr hy)))))))))))), z _ (.tail _ (.tail _ (.tail _ (.tail _ (.tail _ (.tail _ (.head _)))))))⟩
            · rcases List.mem_append.mp hq with hq | hq
              · have z := (lx7 q hq).1
                exact ⟨fun y hy => z y (.tail _ (.tail _ (.tail _ (.tail _ (.tail _ (.tail _ (.tail _ (List.mem_append.mpr (.inr hy))))))))), z _ (.tail _ (.tail _ (.tail _ (.tail _ (.tail _ (.head _))))))⟩
              · exact hext q hq
          have hDt1 : @LT.lt Nat _ (L1 + 1 + 1) Dt := lt7 _ (.tail _ (.tail _ (.tail _ (.tail _ (.tail _ (.head _))))))
          have hDu1 : @LT.lt Nat _ (L1 + 1 + 1) Du := lt9 _ (.tail _ (.tail _ (.tail _ (.tail _ (.tail _ (.tail _ (.head _)))))))
          have hDtu : @LT.lt Nat _ Dt Du := lt9 _ (.tail _ (.tail _ (.tail _ (.head _))))
          rw [ext3] at Tb30 Tb37
          replace NA' : News g1 L1 hA' ((D5, W.listOf [Value.ref Dt, Value.ref Du].toArray 2) :: (Dt, tup [.int ((d0F p).fdiv (-2)) w1, .int 0 w2]) :: (Du, tup [.int ((d1F p).fdiv (-2)) x1, .int 0 x2]) :: (L1 + 1 + 1, oL4) :: (L1 + 1, oP5) :: (30, o30b) :: (37, o37b) :: ((extb ++ (exta ++ ext)) ++ news)) := newsSub NA' perm9
          generalize extb ++ (exta ++ ext) = ext2 at Tb30 Tb37 NA' hx2
          have hF1 : ∀ q ∈ ext2 ++ news, q.1 ≠ L1 + 1 := fun q hq => (List.mem_append.mp hq).elim (fun h => Nat.ne_of_gt (Nat.lt_of_succ_lt (hx2 q h).2)) (fun h => Nat.ne_of_lt (Nat.lt_succ_of_lt (allLt_mem lL q h)))
          have hF2 : ∀ q ∈ ext2 ++ news, q.1 ≠ L1 + 1 + 1 := fun q hq => (List.mem_append.mp hq).elim (fun h => Nat.ne_of_gt (hx2 q h).2) (fun h => Nat.ne_of_lt (Nat.lt_succ_of_lt (Nat.lt_succ_of_lt (allLt_mem lL q h))))
          clear oA' lx9 lx7 lt9 lt7 hR30 hR37 hR30b hR37b Ta30 Ta37 os6 os8 off6 off8
          have hwl : PySem.Str.length ⟨wd.toArray⟩ ≤ 12 := by
            have e9 : PySem.Str.length ⟨wd.toArray⟩ = wd.length := by simp [PySem.Str.length]
            omega
          have hw12 : ¬ ((PySem.Str.length ⟨wd.toArray⟩ : Nat) : Int) = 12 := by
            have e9 : PySem.Str.length ⟨wd.toArray⟩ = wd.length := by simp [PySem.Str.length]
            omega
          (repeat' ((fail_if_success (first | (with_reducible show wpAny _ _ (call (Value.ref _) _) _ _ _) | (with_reducible show wpAny _ _ (pyIter _) _ _ _) | (with_reducible show UnrPost _ _ _ _ _ _ _ _ _) | (with_reducible show wpAny _ _ (exec (Stmt.Assign _ (PySem.Expr.ListComp _ _ _ _) _) _) _ _ _) | (with_reducible show wpAny _ _ (eval (PySem.Expr.ListComp _ _ _ _) _) _ _ _) | (with_reducible show wpAny _ _ (call (Value.type "zip") _) _ _ _) | (with_reducible show MEnd _ _ _ _ _ _ _ _ _ _ _ _ _) | (with_reducible show wpAny _ _ (exec (Stmt.For _ _ _ _ _) _) _ _ _) | (with_reducible show wpAny _ _ (exec (Stmt.While _ _ _ _) _) _ _ _) | (with_reducible show wpAny _ _ (eval (PySem.Expr.IfExp _ _ _ _) _) _ _ _))); first | (k_unfold; (try dsimp only)) | (k_end; wrow_close) | walk1 | (dsimp only; walk1) | (leave1; walk_say "STEP leave1"; try dsimp only)))
          (k_dflt (refine mc_List (ct := none) (by k_asm) (by with_unfolding_all rfl) (by decide) (by rfl) (by decide) (by rfl) (by rfl) (by decide) ?_))
          (repeat' ((fail_if_success (first | (with_reducible show wpAny _ _ (call (Value.ref _) _) _ _ _) | (with_reducible show wpAny _ _ (pyIter _) _ _ _) | (with_reducible show UnrPost _ _ _ _ _ _ _ _ _) | (with_reducible show wpAny _ _ (exec (Stmt.Assign _ (PySem.Expr.ListComp _ _ _ _) _) _) _ _ _) | (with_reducible show wpAny _ _ (eval (PySem.Expr.ListComp _ _ _ _) _) _ _ _) | (with_reducible show wpAny _ _ (call (Value.type "zip") _) _ _ _) | (with_reducible show MEnd _ _ _ _ _ _ _ _ _ _ _ _ _) | (with_reducible show wpAny _ _ (exec (Stmt.For _ _ _ _ _) _) _ _ _) | (with_reducible show wpAny _ _ (exec (Stmt.While _ _ _ _) _) _ _ _) | (with_reducible show wpAny _ _ (eval (PySem.Expr.IfExp _ _ _ _) _) _ _ _))); first | (k_unfold; (try dsimp only)) | (k_end; wrow_close) | ((with_reducible show wpAny _ _ (eval (PySem.Expr.Name _ _) (envOfC _ _ _ _ _)) _ _ _); k_dflt (refine' nameX_L ?F ?v ?_ ?a ?b; (case F => k_asm); (case a => rfl); (case b => rfl); (case v => rfl); k_whole)) | walk1 | (dsimp only; walk1) | (leave1; walk_say "STEP leave1"; try dsimp only)))
          refine mc_pairs (ts := [(Dt, Value.int ((d0F p).fdiv (-2)) w1, Value.int 0 w2), (Du, Value.int ((d1F p).fdiv (-2)) x1, Value.int 0 x2)]) (k := 2) rfl (by k_asm) (by k_asm) (by (repeat' first | exact List.Mem.head _ | assumption | refine List.Mem.tail _ ?_)) (FMC.all ⟨by (repeat' first | exact List.Mem.head _ | assumption | refine List.Mem.tail _ ?_), FMC.all ⟨by (repeat' first | exact List.Mem.head _ | assumption | refine List.Mem.tail _ ?_), List.forall_mem_nil _⟩⟩) (Nat.le_of_ble_eq_true rfl) (fun g i0 => ?_)
          refine MRest.gen (fun G => G [.int 0 w2, .int 0 x2]) (fun Fin9 hFin => ?_) ?_
          · walk_at "MINE mcons"
            (repeat' ((fail_if_success (first | (with_reducible show wpAny _ _ (call (Value.ref _) _) _ _ _) | (with_reducible show wpAny _ _ (pyIter _) _ _ _) | (with_reducible show UnrPost _ _ _ _ _ _ _ _ _) | (with_reducible show wpAny _ _ (exec (Stmt.Assign _ (PySem.Expr.ListComp _ _ _ _) _) _) _ _ _) | (with_reducible show wpAny _ _ (eval (PySem.Expr.ListComp _ _ _ _) _) _ _ _) | (with_reducible show wpAny _ _ (call (Value.type "zip") _) _ _ _) | (with_reducible show MEnd _ _ _ _ _ _ _ _ _ _ _ _ _) | (with_reducible show wpAny _ _ (exec (Stmt.For _ _ _ _ _) _) _ _ _) | (with_reducible show wpAny _ _ (exec (Stmt.While _ _ _ _) _) _ _ _) | (with_reducible show wpAny _ _ (eval (PySem.Expr.IfExp _ _ _ _) _) _ _ _))); first | (k_unfold; (try dsimp only)) | (k_end; wrow_close) | ((with_reducible show wpAny _ _ (eval (PySem.Expr.Name _ _) (compEnvC _ _ _ _)) _ _ _); k_dflt (refine LCgL.ld_own (by k_asm) (by k_mem) (by assumption) (by assumption) ?_)) | walk1 | (dsimp only; walk1) | (leave1; walk_say "STEP leave1"; try dsimp only)))
            (refine MEnd.intro (by k_asm) (by k_asm) _ (fun p9 hp9 => hp9) (by with_reducible assumption) (by with_reducible assumption) ?gK9 ?_; (case gK9 => ((try simp only [List.cons_append, List.nil_append]); (repeat' first | exact List.forall_mem_nil _ | refine FMC.all ⟨by k_mem, ?_⟩ | (intro p9 hp9; (repeat' first | assumption | refine List.Mem.tail _ ?_))))))
            walk_at "MINE mcons"
            (repeat' ((fail_if_success (first | (with_reducible show wpAny _ _ (call (Value.ref _) _) _ _ _) | (with_reducible show wpAny _ _ (pyIter _) _ _ _) | (with_reducible show UnrPost _ _ _ _ _ _ _ _ _) | (with_reducible show wpAny _ _ (exec (Stmt.Assign _ (PySem.Expr.ListComp _ _ _ _) _) _) _ _ _) | (with_reducible show wpAny _ _ (eval (PySem.Expr.ListComp _ _ _ _) _) _ _ _) | (with_reducible show wpAny _ _ (call (Value.type "zip") _) _ _ _) | (with_reducible show MEnd _ _ _ _ _ _ _ _ _ _ _ _ _) | (with_reducible show wpAny _ _ (exec (Stmt.For _ _ _ _ _) _) _ _ _) | (with_reducible show wpAny _ _ (exec (Stmt.While _ _ _ _) _) _ _ _) | (with_reducible show wpAny _ _ (eval (PySem.Expr.IfExp _ _ _ _) _) _ _ _))); first | (k_unfold; (try dsimp only)) | (k_end; wrow_close) | ((with_reducible show wpAny _ _ (eval (PySem.Expr.Name _ _) (compEnvC _ _ _ _)) _ _ _); k_dflt (refine LCgL.ld_own (by k_asm) (by k_mem) (by assumption) (by assumption) ?_)) | walk1 | (dsimp only; walk1) | (leave1; walk_say "STEP leave1"; try dsimp only)))
            (refine MEnd.intro (by k_asm) (by k_asm) _ (fun p9 hp9 => hp9) (by with_reducible assumption) (by with_reducible assumption) ?gK9 ?_; (case gK9 => ((try simp only [List.cons_append, List.nil_append]); (repeat' first | exact List.forall_mem_nil _ | refine FMC.all ⟨by k_mem, ?_⟩ | (intro p9 hp9; (repeat' first | assumption | refine List.Mem.tail _ ?_))))))
            refine MRest.nil ?_
            exact hFin
          intro D6 hB' tkB' FB' NB' neB' ltB'
          k_lt ltB'
          (repeat' ((fail_if_success (first | (with_reducible show wpAny _ _ (call (Value.ref _) _) _ _ _) | (with_reducible show wpAny _ _ (pyIter _) _ _ _) | (with_reducible show UnrPost _ _ _ _ _ _ _ _ _) | (with_reducible show wpAny _ _ (exec (Stmt.Assign _ (PySem.Expr.ListComp _ _ _ _) _) _) _ _ _) | (with_reducible show wpAny _ _ (eval (PySem.Expr.ListComp _ _ _ _) _) _ _ _) | (with_reducible show wpAny _ _ (call (Value.type "zip") _) _ _ _) | (with_reducible show MEnd _ _ _ _ _ _ _ _ _ _ _ _ _) | (with_reducible show wpAny _ _ (exec (Stmt.For _ _ _ _ _) _) _ _ _) | (with_reducible show wpAny _ _ (exec (Stmt.While _ _ _ _) _) _ _ _) | (with_reducible show wpAny _ _ (eval (PySem.Expr.IfExp _ _ _ _) _) _ _ _))); first | (k_unfold; (try dsimp only)) | (k_end; wrow_close) | ((with_reducible show wpAny _ _ (call (Value.builtin "len") [(Value.str _ _)]) _ _ _); refine len_str (by omega) ?_) | ((with_reducible show ite _ _ _); refine ite_neg (by decide +kernel) ?_) | ((with_reducible show ite _ _ _); refine ite_neg (by first | omega | (simp only [beq_iff_eq, bne_iff_ne, decide_eq_true_eq, Int.not_lt, Int.not_le]; omega)) ?_) | ((with_reducible show wpAny _ _ (eval (PySem.Expr.Name _ _) (envOfC _ _ _ _ _)) _ _ _); k_dflt (refine' nameX_L ?F ?v ?_ ?a ?b; (case F => k_asm); (case a => rfl); (case b => rfl); (case v => rfl); k_whole)) | walk1 | (dsimp only; walk1) | (leave1; walk_say "STEP leave1"; try dsimp only)))
          (k_dflt (refine mc_List (ct := none) (by k_asm) (by with_unfolding_all rfl) (by decide) (by rfl) (by decide) (by rfl) (by rfl) (by decide) ?_))
          (repeat' ((fail_if_success (first | (with_reducible show wpAny _ _ (call (Value.ref _) _) _ _ _) | (with_reducible show wpAny _ _ (pyIter _) _ _ _) | (with_reducible show UnrPost _ _ _ _ _ _ _ _ _) | (with_reducible show wpAny _ _ (exec (Stmt.Assign _ (PySem.Expr.ListComp _ _ _ _) _) _) _ _ _) | (with_reducible show wpAny _ _ (eval (PySem.Expr.ListComp _ _ _ _) _) _ _ _) | (with_reducible show wpAny _ _ (call (Value.type "zip") _) _ _ _) | (with_reducible show MEnd _ _ _ _ _ _ _ _ _ _ _ _ _) | (with_reducible show wpAny _ _ (exec (Stmt.For _ _ _ _ _) _) _ _ _) | (with_reducible show wpAny _ _ (exec (Stmt.While _ _ _ _) _) _ _ _) | (with_reducible show wpAny _ _ (eval (PySem.Expr.IfExp _ _ _ _) _) _ _ _))); first | (k_unfold; (try dsimp only)) | (k_end; wrow_close) | ((with_reducible show wpAny _ _ (eval (PySem.Expr.Name _ _) (envOfC _ _ _ _ _)) _ _ _); k_dflt (refine' nameX_L ?F ?v ?_ ?a ?b; (case F => k_asm); (case a => rfl); (case b => rfl); (case v => rfl); k_whole)) | walk1 | (dsimp only; walk1) | (leave1; walk_say "STEP leave1"; try dsimp only)))
          refine mc_pairs (ts := [(Dt, Value.int ((d0F p).fdiv (-2)) w1, Value.int 0 w2), (Du, Value.int ((d1F p).fdiv (-2)) x1, Value.int 0 x2)]) (k := 2) rfl (by k_asm) (by k_asm) (by (repeat' first | exact List.Mem.head _ | assumption | refine List.Mem.tail _ ?_)) (FMC.all ⟨by (repeat' first | exact List.Mem.head _ | assumption | refine List.Mem.tail _ ?_), FMC.all ⟨by (repeat' first | exact List.Mem.head _ | assumption | refine List.Mem.tail _ ?_), List.forall_mem_nil _⟩⟩) (Nat.le_of_ble_eq_true rfl) (fun g i0 => ?_)
          refine MRest.gen (fun G => G [.int ((d0F p).fdiv (-2)) w1, .int ((d1F p).fdiv (-2)) x1]) (fun Fin9 hFin => ?_) ?_
          · walk_at "MINE mcons"
            (repeat' ((fail_if_success (first | (with_reducible show wpAny _ _ (call (Value.ref _) _) _ _ _) | (with_reducible show wpAny _ _ (pyIter _) _ _ _) | (with_reducible show UnrPost _ _ _ _ _ _ _ _ _) | (with_reducible show wpAny _ _ (exec (Stmt.Assign _ (PySem.Expr.ListComp _ _ _ _) _) _) _ _ _) | (with_reducible show wpAny _ _ (eval (PySem.Expr.ListComp _ _ _ _) _) _ _ _) | (with_reducible show wpAny _ _ (call (Value.type "zip") _) _ _ _) | (with_reducible show MEnd _ _ _ _ _ _ _ _ _ _ _ _ _) | (with_reducible show wpAny _ _ (exec (Stmt.For _ _ _ _ _) _) _ _ _) | (with_reducible show wpAny _ _ (exec (Stmt.While _ _ _ _) _) _ _ _) | (with_reducible show wpAny _ _ (eval (PySem.Expr.IfExp _ _ _ _) _) _ _ _))); first | (k_unfold; (try dsimp only)) | (k_end; wrow_close) | ((with_reducible show wpAny _ _ (eval (PySem.Expr.Name _ _) (compEnvC _ _ _ _)) _ _ _); k_dflt (refine LCgL.ld_own (by k_asm) (by k_mem) (by assumption) (by assumption) ?_)) | walk1 | (dsimp only; walk1) | (leave1; walk_say "STEP leave1"; try dsimp only)))
            (refine MEnd.intro (by k_asm) (by k_asm) _ (fun p9 hp9 => hp9) (by with_reducible assumption) (by with_reducible assumption) ?gK9 ?_; (case gK9 => ((try simp only [List.cons_append, List.nil_append]); (repeat' first | exact List.forall_mem_nil _ | refine FMC.all ⟨by k_mem, ?_⟩ | (intro p9 hp9; (repeat' first | assumption | refine List.Mem.tail _ ?_))))))
            walk_at "MINE mcons"
            (repeat' ((fail_if_success (first | (with_reducible show wpAny _ _ (call (Value.ref _) _) _ _ _) | (with_reducible show wpAny _ _ (pyIter _) _ _ _) | (with_reducible show UnrPost _ _ _ _ _ _ _ _ _) | (with_reducible show wpAny _ _ (exec (Stmt.Assign _ (PySem.Expr.ListComp _ _ _ _) _) _) _ _ _) | (with_reducible show wpAny _ _ (eval (PySem.Expr.ListComp _ _ _ _) _) _ _ _) | (with_reducible show wpAny _ _ (call (Value.type "zip") _) _ _ _) | (with_reducible show MEnd _ _ _ _ _ _ _ _ _ _ _ _ _) | (with_reducible show wpAny _ _ (exec (Stmt.For _ _ _ _ _) _) _ _ _) | (with_reducible show wpAny _ _ (exec (Stmt.While _ _ _ _) _) _ _ _) | (with_reducible show wpAny _ _ (eval (PySem.Expr.IfExp _ _ _ _) _) _ _ _))); first | (k_unfold; (try dsimp only)) | (k_end; wrow_close) | ((with_reducible show wpAny _ _ (eval (PySem.Expr.Name _ _) (compEnvC _ _ _ _)) _ _ _); k_dflt (refine LCgL.ld_own (by k_asm) (by k_mem) (by assumption) (by assumption) ?_)) | walk1 | (dsimp only; walk1) | (leave1; walk_say "STEP leave1"; try dsimp only)))
            (refine MEnd.intro (by k_asm) (by k_asm) _ (fun p9 hp9 => hp9) (by with_reducible assumption) (by with_reducible assumption) ?gK9 ?_; (case gK9 => ((try simp only [List.cons_append, List.nil_append]); (repeat' first | exact List.forall_mem_nil _ | refine FMC.all ⟨by k_mem, ?_⟩ | (intro p9 hp9; (repeat' first | assumption | refine List.Mem.tail _ ?_))))))
            refine MRest.nil ?_
            exact hFin
          intro D7 hC' tkC' FC' NC' neC' ltC'
          k_lt ltC'
          (repeat' ((fail_if_success (first | (with_reducible show wpAny _ _ (call (Value.ref _) _) _ _ _) | (with_reducible show wpAny _ _ (pyIter _) _ _ _) | (with_reducible show UnrPost _ _ _ _ _ _ _ _ _) | (with_reducible show wpAny _ _ (exec (Stmt.Assign _ (PySem.Expr.ListComp _ _ _ _) _) _) _ _ _) | (with_reducible show wpAny _ _ (eval (PySem.Expr.ListComp _ _ _ _) _) _ _ _) | (with_reducible show wpAny _ _ (call (Value.type "zip") _) _ _ _) | (with_reducible show MEnd _ _ _ _ _ _ _ _ _ _ _ _ _) | (with_reducible show wpAny _ _ (exec (Stmt.For _ _ _ _ _) _) _ _ _) | (with_reducible show wpAny _ _ (exec (Stmt.While _ _ _ _) _) _ _ _) | (with_reducible show wpAny _ _ (eval (PySem.Expr.IfExp _ _ _ _) _) _ _ _))); first | (k_unfold; (try dsimp only)) | (k_end; wrow_close) | ((with_reducible show wpAny _ _ (storeName _ _ _) _ _ _); k_dflt (refine' storeX_L ?F ?N ?_ ?a ?b; (case F => k_asm); (case N => k_asm); (case a => rfl); (case b => rfl); k_whole; intro _ _ _; (try k_sweep))) | walk1 | (dsimp only; walk1) | (leave1; walk_say "STEP leave1"; try dsimp only)))
          rename_i o8 d8 t8 k8 a8 h8 F8 N8
          rw [str_snoc] at F8
          have hwd2 : (wd ++ [lett p]) ++ r' = ws := by rw [← hwd, ← hrr]; simp
          have hln2 : (wd ++ [lett p]).length + n = 12 := by simp; omega
          refine hU F8 N8 ((_, lst3 ((d0F p).fdiv (-2), (d1F p).fdiv (-2), 0) w1 x1 _ 0) :: (L1 + 1 + 1, oL4) :: (L1 + 1, o8) :: (30, o30b) :: (37, o37b) :: (ext2 ++ news)) (by (repeat' first | exact List.forall_mem_nil _ | refine FMC.all ⟨by k_mem, ?_⟩ | (intro p9 hp9; (repeat' first | assumption | refine List.Mem.tail _ ?_)))) ⟨n, Nat.lt_succ_self n, RdP.mk ((d0F p).fdiv (-2), (d1F p).fdiv (-2), 0) r' (wd ++ [lett p]) hr' hwd2 hln2 (d_next hbd hev.1 hev.2) d8 dL4 Tb30 Tb37 hx2 (Nat.ne_of_gt (by assumption)) (Nat.ne_of_gt (by assumption)) (by assumption) (by assumption) rfl⟩
theorem lreadW {w : World} {news T0 : Led} (p0 : Int × Int × Int) (ws : List Nat) (hws : readF 12 p0 = some ws) (hp0 : p0.1.natAbs ≤ 2 ^ 49 ∧ p0.2.1.natAbs ≤ 2 ^ 49 ∧ p0.2.2.natAbs ≤ 2 ^ 49) (D0 : Addr) (hD0 : @LT.lt Nat _ 37 D0) (v0 v1 v2 : Tok) (c0 : Nat) (h30 : ∀ p ∈ news, p.1 ≠ 30) (h37 : ∀ p ∈ news, p.1 ≠ 37) (o30 o37 : Obj) (hT30 : Tab30 o30 T0) (hT37 : Tab37 o37 T0) (hs0 : ∀ p ∈ T0, p ∈ news) :
   CW K01 P01 w H01 87 600 6000 ((30, o30) :: (37, o37) :: (D0, lst3 p0 v0 v1 v2 c0) :: news) [.ref D0] (fun G => ∀ t o30' o37' ext, (Tab30 o30' (ext ++ T0)) → (Tab37 o37' (ext ++ T0)) → ((∀ q ∈ ext, ∀ z ∈ news, @LT.lt Nat _ z.1 q.1)) → ((∀ q ∈ ext, @LT.lt Nat _ 37 q.1)) → G (.str ⟨ws.toArray⟩ t) ((30, o30') :: (37, o37') :: (ext ++ news))) :=
  CS.toW (@lread w news T0 p0 ws hws hp0 D0 hD0 v0 v1 v2 c0 h30 h37 o30 o37 hT30 hT37 hs0) (fun v nw G hR hG => by
    obtain ⟨t, o30', o37', ext, rfl, rfl, r09, r19, r29, r39⟩ := hR
    exact hG t o30' o37' ext r09 r19 r29 r39)
set_option compiler.extract_closed false
set_option maxRecDepth 100000 in
set_option maxHeartbeats 4000000 in
theorem rep4 {w : World} {news : Led} (x : PySem.Str) (hx : x.length ≤ 1000) (tx t0 u0 t1 u1 t2 u2 t3 u3 : Tok) :
   CS K01 P01 w H01 77 30 300 news [.str x tx, .str (PySem.Str.ofString "b") t0, .str (PySem.Str.ofString "x") u0, .str (PySem.Str.ofString "g") t1, .str (PySem.Str.ofString "b") u1, .str (PySem.Str.ofString "r") t2, .str (PySem.Str.ofString "g") u2, .str (PySem.Str.ofString "x") t3, .str (PySem.Str.ofString "r") u3] fun v nw => ∃ y t, v = .str y t ∧ nw = news ∧ y.cps.toList = (replL [120] [114] (replL [114] [103] (replL [103] [98] (replL [98] [120] x.cps.toList 0) 0) 0) 0) := by
  have hlaw : (fun (_ : OpenLaw) (_ : Params → Frag) => True) Challenge.rw_pg0168_01 hd.heap_39 := by k_fill; exact True.intro
  clear hlaw
  intro p loose mean mg mb dp un gd cn cs L a ccd cl outer A₀ base h₀ m s Q E B F X N T hH hcs hdp hun hret
  obtain ⟨ck, cnm, cg, cc, cm⟩ := cs
  obtain rfl : ck = .function := hcs
  obtain ⟨hH1, hH2⟩ := hH
  replace X : (hd.heap_39 w.params).In h₀ := X
  refine wpAny_call ?_
  k_dflt k_enter
  (with_reducible rename Fr _ _ _ _ => lF0)
  refine frGen2 lF0 (a := PySem.Str.ofString "text") (b := PySem.Str.ofString "pairs") (by with_unfolding_all rfl) (by with_unfolding_all rfl) ?_
  clear lF0
  intro m0 lF0
  (repeat' (first | (k_unfold; (try dsimp only)) | (k_end; wrow_close) | ((with_reducible show wpAny _ _ (subscriptTail _ (PySem.Expr.Slice (some _) none none _) (Value.ref _) (Value.ref _)) _ _ _); (refine' my_tupfrom (a := 2) ?gF ?gN ?gt ?g1 ?ga ?_ ?gs ?gg ?gz); (case gF => k_asm); (case gN => k_asm); (case gt => k_mem); (case g1 => decide); (case ga => exact Nat.le_of_ble_eq_true rfl); (case gs => with_unfolding_all rfl); (case gg => (intro _; with_unfolding_all rfl)); (case gz => exact Nat.le_of_ble_eq_true rfl); intro _ _ _ N'; walk_at "MINE ltI"; (try simp only [List.drop_succ_cons, List.drop_zero] at N')) | ((with_reducible show wpAny _ _ (call (Value.builtin "str.join") _) _ _ _); (refine' my_join ?gN ?gm ?ge ?gy ?gk ?gx ?gz ?_); (case gN => k_asm); (case gm => k_mem); (case ge => with_reducible assumption); (case gy => decide +kernel); (case gk => decide +kernel); (case gx => omega); (case gz => decide +kernel); intro _ _ _ e'; (first | (have l' := rep_len1 e' (by decide +kernel)) | (have l' := rep_len3 e' (by decide +kernel)))) | ((with_reducible show wpAny _ _ (call (Value.builtin "str.split") _) _ _ _); (refine' KSpl.split1 ?gF ?gN ?gy ?_ ?gz); (case gF => k_asm); (case gN => k_asm); (case gy => decide +kernel); (case gz => rw [sizeLine_eq]; omega); intro _ _ _ _ _ _ _ _; walk_at "MINE ltI") | ((with_reducible show wpAny _ _ (exec (Stmt.While _ _ _ _) _) _ _ _); k_dflt (refine whl_start 100 ?_)) | ((with_reducible show wpAny _ _ (eval (PySem.Expr.Name _ _) (envOf _ _ _ _ _)) _ _ _); k_dflt (refine' nameX_L ?F ?v ?_ ?a ?b; (case F => k_asm); (case a => rfl); (case b => rfl); (case v => rfl); k_whole)) | ((with_reducible show wpAny _ _ (storeName _ _ _) _ _ _); k_dflt (refine' storeX_L ?F ?N ?_ ?a ?b; (case F => k_asm); (case N => k_asm); (case a => rfl); (case b => rfl); k_whole; intro _ _ _; (try k_sweep))) | walk1 | (dsimp only; walk1) | (leave1; walk_say "STEP leave1"; try dsimp only)))
  exact hret _ _ _ _ (by k_asm) (by ((with_reducible rename News _ _ _ _ => zN); refine newsSub zN ?_; (try simp only [List.cons_append, List.nil_append]); (repeat' first | exact List.forall_mem_nil _ | refine FMC.all ⟨by k_mem, ?_⟩ | (intro p9 hp9; (repeat' first | assumption | refine List.Mem.tail _ ?_))))) ⟨_, _, rfl, rfl, by simp only [*]; rfl⟩
theorem rep4W {w : World} {news : Led} (x : PySem.Str) (hx : x.length ≤ 1000) (tx t0 u0 t1 u1 t2 u2 t3 u3 : Tok) :
   CW K01 P01 w H01 77 30 300 news [.str x tx, .str (PySem.Str.ofString "b") t0, .str (PySem.Str.ofString "x") u0, .str (PySem.Str.ofString "g") t1, .str (PySem.Str.ofString "b") u1, .str (PySem.Str.ofString "r") t2, .str (PySem.Str.ofString "g") u2, .str (PySem.Str.ofString "x") t3, .str (PySem.Str.ofString "r") u3] (fun G => ∀ y t, (y.cps.toList = (replL [120] [114] (replL [114] [103] (replL [103] [98] (replL [98] [120] x.cps.toList 0) 0) 0) 0)) → G (.str y t) (news)) :=
  CS.toW (@rep4 w news x hx tx t0 u0 t1 u1 t2 u2 t3 u3) (fun v nw G hR hG => by
    obtain ⟨y, t, rfl, rfl, r09⟩ := hR
    exact hG y t r09)
set_option compiler.extract_closed false
set_option maxRecDepth 100000 in
set_option maxHeartbeats 4000000 in
theorem main : PySem.Challenge.rw_pg0168_01.Holds := by
  refine Mine.hd ?_
  k_go0
  (repeat' ((fail_if_success (first | (with_reducible show wpAny _ _ (call (Value.ref _) _) _ _ _) | (with_reducible show wpAny _ _ (pyIter _) _ _ _) | (with_reducible show UnrPost _ _ _ _ _ _ _ _ _) | (with_reducible show wpAny _ _ (exec (Stmt.Assign _ (PySem.Expr.ListComp _ _ _ _) _) _) _ _ _) | (with_reducible show wpAny _ _ (eval (PySem.Expr.ListComp _ _ _ _) _) _ _ _) | (with_reducible show wpAny _ _ (call (Value.type "zip") _) _ _ _) | (with_reducible show MEnd _ _ _ _ _ _ _ _ _ _ _ _ _) | (with_reducible show wpAny _ _ (exec (Stmt.For _ _ _ _ _) _) _ _ _) | (with_reducible show wpAny _ _ (exec (Stmt.While _ _ _ _) _) _ _ _) | (with_reducible show wpAny _ _ (eval (PySem.Expr.IfExp _ _ _ _) _) _ _ _) | (with_reducible show wpAny _ _ (compareOp .NotEq (Value.ref _) (Value.ref _)) _ _ _))); first | (k_unfold; (try dsimp only)) | (k_end; wrow_close) | walk1 | (dsimp only; walk1) | (leave1; walk_say "STEP leave1"; try dsimp only)))
  refine step_frameW (by k_asm) (by k_asm) (fun G => ∀ x t, G (.int x t)) (fun Q' hQ' => ?_) ?_
  · walk1
    (repeat' ((fail_if_success (first | (with_reducible show wpAny _ _ (call (Value.ref _) _) _ _ _) | (with_reducible show wpAny _ _ (pyIter _) _ _ _) | (with_reducible show UnrPost _ _ _ _ _ _ _ _ _) | (with_reducible show wpAny _ _ (exec (Stmt.Assign _ (PySem.Expr.ListComp _ _ _ _) _) _) _ _ _) | (with_reducible show wpAny _ _ (eval (PySem.Expr.ListComp _ _ _ _) _) _ _ _) | (with_reducible show wpAny _ _ (call (Value.type "zip") _) _ _ _) | (with_reducible show MEnd _ _ _ _ _ _ _ _ _ _ _ _ _) | (with_reducible show wpAny _ _ (exec (Stmt.For _ _ _ _ _) _) _ _ _) | (with_reducible show wpAny _ _ (exec (Stmt.While _ _ _ _) _) _ _ _) | (with_reducible show wpAny _ _ (eval (PySem.Expr.IfExp _ _ _ _) _) _ _ _) | (with_reducible show wpAny _ _ (compareOp .NotEq (Value.ref _) (Value.ref _)) _ _ _))); first | (k_unfold; (try dsimp only)) | (k_end; wrow_close) | walk1 | (dsimp only; walk1) | (leave1; walk_say "STEP leave1"; try dsimp only)))
    · exact hQ' _ _ _ _ (by k_asm) (by k_asm)
    · exact hQ' _ _ _ _ (by k_asm) (by k_asm)
  intro x0 t0 h' tk' F' N'
  (repeat' ((fail_if_success (first | (with_reducible show wpAny _ _ (call (Value.ref _) _) _ _ _) | (with_reducible show wpAny _ _ (pyIter _) _ _ _) | (with_reducible show UnrPost _ _ _ _ _ _ _ _ _) | (with_reducible show wpAny _ _ (exec (Stmt.Assign _ (PySem.Expr.ListComp _ _ _ _) _) _) _ _ _) | (with_reducible show wpAny _ _ (eval (PySem.Expr.ListComp _ _ _ _) _) _ _ _) | (with_reducible show wpAny _ _ (call (Value.type "zip") _) _ _ _) | (with_reducible show MEnd _ _ _ _ _ _ _ _ _ _ _ _ _) | (with_reducible show wpAny _ _ (exec (Stmt.For _ _ _ _ _) _) _ _ _) | (with_reducible show wpAny _ _ (exec (Stmt.While _ _ _ _) _) _ _ _) | (with_reducible show wpAny _ _ (eval (PySem.Expr.IfExp _ _ _ _) _) _ _ _) | (with_reducible show wpAny _ _ (compareOp .NotEq (Value.ref _) (Value.ref _)) _ _ _))); first | (k_unfold; (try dsimp only)) | (k_end; wrow_close) | walk1 | (dsimp only; walk1) | (leave1; walk_say "STEP leave1"; try dsimp only)))
  refine step_frameW (by k_asm) (by k_asm) (fun G => ∀ (k : Nat) (t : Tok), k < 6 → G (.int k t)) (fun Q' hQ' => ?_) ?_
  · walk1
    (repeat' ((fail_if_success (first | (with_reducible show wpAny _ _ (call (Value.ref _) _) _ _ _) | (with_reducible show wpAny _ _ (pyIter _) _ _ _) | (with_reducible show UnrPost _ _ _ _ _ _ _ _ _) | (with_reducible show wpAny _ _ (exec (Stmt.Assign _ (PySem.Expr.ListComp _ _ _ _) _) _) _ _ _) | (with_reducible show wpAny _ _ (eval (PySem.Expr.ListComp _ _ _ _) _) _ _ _) | (with_reducible show wpAny _ _ (call (Value.type "zip") _) _ _ _) | (with_reducible show MEnd _ _ _ _ _ _ _ _ _ _ _ _ _) | (with_reducible show wpAny _ _ (exec (Stmt.For _ _ _ _ _) _) _ _ _) | (with_reducible show wpAny _ _ (exec (Stmt.While _ _ _ _) _) _ _ _) | (with_reducible show wpAny _ _ (eval (PySem.Expr.IfExp _ _ _ _) _) _ _ _) | (with_reducible show wpAny _ _ (compareOp .NotEq (Value.ref _) (Value.ref _)) _ _ _))); first | (k_unfold; (try dsimp only)) | (k_end; wrow_close) | walk1 | (dsimp only; walk1) | (leave1; walk_say "STEP leave1"; try dsimp only)))
    · refine mod6W (G := fun v => Q' v _) (fun k9 t9 hk9 => ?_) _ _
      exact hQ' k9 t9 hk9 _ _ (by k_asm) (by k_asm)
    · exact hQ' 1 _ (by decide) _ _ (by k_asm) (by k_asm)
  intro tn t1 htn h' tk' F' N'
  obtain ⟨nu, hnu, enu⟩ := mod1024 x0
  (with_reducible rename Fr _ _ _ _ => lF)
  rw [enu] at lF
  (repeat' ((fail_if_success (first | (with_reducible show wpAny _ _ (call (Value.ref _) _) _ _ _) | (with_reducible show wpAny _ _ (pyIter _) _ _ _) | (with_reducible show UnrPost _ _ _ _ _ _ _ _ _) | (with_reducible show wpAny _ _ (exec (Stmt.Assign _ (PySem.Expr.ListComp _ _ _ _) _) _) _ _ _) | (with_reducible show wpAny _ _ (eval (PySem.Expr.ListComp _ _ _ _) _) _ _ _) | (with_reducible show wpAny _ _ (call (Value.type "zip") _) _ _ _) | (with_reducible show MEnd _ _ _ _ _ _ _ _ _ _ _ _ _) | (with_reducible show wpAny _ _ (exec (Stmt.For _ _ _ _ _) _) _ _ _) | (with_reducible show wpAny _ _ (exec (Stmt.While _ _ _ _) _) _ _ _) | (with_reducible show wpAny _ _ (eval (PySem.Expr.IfExp _ _ _ _) _) _ _ _) | (with_reducible show wpAny _ _ (compareOp .NotEq (Value.ref _) (Value.ref _)) _ _ _))); first | (k_unfold; (try dsimp only)) | (k_end; wrow_close) | walk1 | (dsimp only; walk1) | (leave1; walk_say "STEP leave1"; try dsimp only)))
  (k_dflt (refine LCg.ListComp_U (F₀ := by k_asm) (by with_unfolding_all rfl) (by decide) (by rfl) (by decide) (by rfl) ?_))
  (repeat' ((fail_if_success (first | (with_reducible show wpAny _ _ (call (Value.ref _) _) _ _ _) | (with_reducible show wpAny _ _ (pyIter _) _ _ _) | (with_reducible show UnrPost _ _ _ _ _ _ _ _ _) | (with_reducible show wpAny _ _ (exec (Stmt.Assign _ (PySem.Expr.ListComp _ _ _ _) _) _) _ _ _) | (with_reducible show wpAny _ _ (eval (PySem.Expr.ListComp _ _ _ _) _) _ _ _) | (with_reducible show wpAny _ _ (call (Value.type "zip") _) _ _ _) | (with_reducible show MEnd _ _ _ _ _ _ _ _ _ _ _ _ _) | (with_reducible show wpAny _ _ (exec (Stmt.For _ _ _ _ _) _) _ _ _) | (with_reducible show wpAny _ _ (exec (Stmt.While _ _ _ _) _) _ _ _) | (with_reducible show wpAny _ _ (eval (PySem.Expr.IfExp _ _ _ _) _) _ _ _) | (with_reducible show LCg.CompSrc _ _ _ _ _ _ _ _ _ _ _ _ _ _) | (with_reducible show LCg.CompEnd _ _ _ _ _ _ _ _ _ _ _ _ _ _) | (with_reducible show wpAny _ _ (compareOp .NotEq (Value.ref _) (Value.ref _)) _ _ _))); first | (k_unfold; (try dsimp only)) | (k_end; wrow_close) | ((with_reducible show wpAny _ _ (callWith _ (Value.ref _) _ _ _) _ _ _); (k_here; (k_dflt (refine' callWith_K ?k1 ?k2 ?_; (case k1 => k_asm); (case k2 => k_is); k_whole)))) | walk1 | (dsimp only; walk1) | (leave1; walk_say "STEP leave1"; try dsimp only)))
  refine' (i2dW (news := [(37, tabObj #[])]) (T0 := []) nu 2 (figs nu) (by decide) (figs_eq nu) (Nat.lt_of_le_of_lt (figs_le hnu) (by decide)) (Nat.lt_trans hnu (by decide)) (by decide) _ _ ?h30 (tabObj #[]) ?hT ?hs0).use (K := K01) ?B ?F ?X ?N ?T ?hH rfl ?hd ?hu ?_
  case hH => exact ⟨by assumption, by assumption⟩
  case N => exact newsSub (by k_asm) (by (repeat' first | exact List.forall_mem_nil _ | refine FMC.all ⟨by k_mem, ?_⟩ | (intro p9 hp9; (repeat' first | assumption | refine List.Mem.tail _ ?_))))
  case B => k_asm
  case F => k_asm
  case X => k_asm
  case T => k_asm
  case hd => ktr_room
  case hu => ktr_units
  case h30 => exact FMC.all ⟨by decide, List.forall_mem_nil _⟩
  case hT => exact .inl rfl
  case hs0 => exact List.forall_mem_nil _
  intro D1 vs1 o30 ext1 hT30 hv1 l1 lx1 h1 tk1 F1 N1
  have hlv : vs1.length = figs nu := by rw [hv1.length, digs_length]
  have hfg := figs_le hnu
  (refine LCg.CompSrc.ledger (by rfl) (by k_asm) (by k_asm) (by k_mem) (by first | size_fits | exact Nat.le_of_ble_eq_true rfl | (rw [PySem.sizeLine_eq]; omega)) ?_; intro _)
  with_unfolding_all refine kct_list figS hv1 ?turn ?fin
  case turn =>
    intro k t I oI C oC D m₂ ys h tk E' hk hC hx F N off ne mk
    rcases digs4 nu k hk with rfl | rfl | rfl | rfl
    all_goals (
      (repeat' ((fail_if_success (first | (with_reducible show wpAny _ _ (call (Value.ref _) _) _ _ _) | (with_reducible show wpAny _ _ (pyIter _) _ _ _) | (with_reducible show UnrPost _ _ _ _ _ _ _ _ _) | (with_reducible show wpAny _ _ (exec (Stmt.Assign _ (PySem.Expr.ListComp _ _ _ _) _) _) _ _ _) | (with_reducible show wpAny _ _ (eval (PySem.Expr.ListComp _ _ _ _) _) _ _ _) | (with_reducible show wpAny _ _ (call (Value.type "zip") _) _ _ _) | (with_reducible show MEnd _ _ _ _ _ _ _ _ _ _ _ _ _) | (with_reducible show wpAny _ _ (exec (Stmt.For _ _ _ _ _) _) _ _ _) | (with_reducible show wpAny _ _ (exec (Stmt.While _ _ _ _) _) _ _ _) | (with_reducible show wpAny _ _ (eval (PySem.Expr.IfExp _ _ _ _) _) _ _ _) | (with_reducible show LCg.CompSrc _ _ _ _ _ _ _ _ _ _ _ _ _ _) | (with_reducible show LCg.CompEnd _ _ _ _ _ _ _ _ _ _ _ _ _ _) | (with_reducible show wpAny _ _ (compareOp .NotEq (Value.ref _) (Value.ref _)) _ _ _))); first | (k_unfold; (try dsimp only)) | (k_end; wrow_close) | ((with_reducible show wpAny _ _ (eval (PySem.Expr.Name _ _) (compEnvC _ _ _ _)) _ _ _); k_dflt (refine LCgL.ld_own (by k_asm) (by k_mem) (by assumption) (by assumption) ?_)) | walk1 | (dsimp only; walk1) | (leave1; walk_say "STEP leave1"; try dsimp only)))
      exact LCg.CompEnd.intro F N _ (fun p hp => hp) off (.inr ⟨_, .head _, rfl, _, rfl⟩) ⟨rfl, _, rfl⟩)
  case fin =>
    intro ys hc hlen
    intro D2 h2 tk2 F2 N2 off2
    (repeat' ((fail_if_success (first | (with_reducible show wpAny _ _ (call (Value.ref _) _) _ _ _) | (with_reducible show wpAny _ _ (pyIter _) _ _ _) | (with_reducible show UnrPost _ _ _ _ _ _ _ _ _) | (with_reducible show wpAny _ _ (exec (Stmt.Assign _ (PySem.Expr.ListComp _ _ _ _) _) _) _ _ _) | (with_reducible show wpAny _ _ (eval (PySem.Expr.ListComp _ _ _ _) _) _ _ _) | (with_reducible show wpAny _ _ (call (Value.type "zip") _) _ _ _) | (with_reducible show MEnd _ _ _ _ _ _ _ _ _ _ _ _ _) | (with_reducible show wpAny _ _ (exec (Stmt.For _ _ _ _ _) _) _ _ _) | (with_reducible show wpAny _ _ (exec (Stmt.While _ _ _ _) _) _ _ _) | (with_reducible show wpAny _ _ (eval (PySem.Expr.IfExp _ _ _ _) _) _ _ _) | (with_reducible show wpAny _ _ (compareOp .NotEq (Value.ref _) (Value.ref _)) _ _ _))); first | (k_unfold; (try dsimp only)) | (k_end; wrow_close) | ((with_reducible show wpAny _ _ (callWith _ (Value.ref _) _ _ _) _ _ _); (k_here; (k_dflt (refine' callWith_K ?k1 ?k2 ?_; (case k1 => k_asm); (case k2 => k_is); k_whole)))) | walk1 | (dsimp only; walk1) | (leave1; walk_say "STEP leave1"; try dsimp only)))
    obtain ⟨rd, hP⟩ := plain hnu htn
    have hWc := join_word nu
    (with_reducible rename Fr _ _ _ _ => lF)
    (with_reducible rename News _ _ _ _ => lN)
    replace lN := newsSub (T := (30, o30) :: (37, tabObj #[]) :: ext1) lN permA
    generalize Txt.join (PySem.Str.ofString "") (List.map figS (digs (2 ^ 2) (figs nu) nu)) = W at hWc lF ⊢
    have hWl : W.length ≤ 5 := by
      have e : W.length = W.cps.toList.length := by simp [PySem.Str.length]
      rw [e, hWc]; exact wordF_len hnu
    refine' (lpointW (news := (30, o30) :: (37, tabObj #[]) :: ext1) W (by rw [hWc]; exact wordF_let nu) (by omega) tn (by omega) _ _).use (K := K01) ?Ba ?Fa ?Xa ?Na ?Ta ?eHa rfl ?hda ?hua ?_
    case Na => exact lN
    case eHa => exact ⟨by assumption, by assumption⟩
    case Ba => k_asm
    case Fa => k_asm
    case Xa => k_asm
    case Ta => k_asm
    case hda => ktr_room
    case hua => ktr_units
    intro D3 u0 u1 u2 c3 l3 h3 tk3 F3 N3
    (repeat' ((fail_if_success (first | (with_reducible show wpAny _ _ (call (Value.ref _) _) _ _ _) | (with_reducible show wpAny _ _ (pyIter _) _ _ _) | (with_reducible show UnrPost _ _ _ _ _ _ _ _ _) | (with_reducible show wpAny _ _ (exec (Stmt.Assign _ (PySem.Expr.ListComp _ _ _ _) _) _) _ _ _) | (with_reducible show wpAny _ _ (eval (PySem.Expr.ListComp _ _ _ _) _) _ _ _) | (with_reducible show wpAny _ _ (call (Value.type "zip") _) _ _ _) | (with_reducible show MEnd _ _ _ _ _ _ _ _ _ _ _ _ _) | (with_reducible show wpAny _ _ (exec (Stmt.For _ _ _ _ _) _) _ _ _) | (with_reducible show wpAny _ _ (exec (Stmt.While _ _ _ _) _) _ _ _) | (with_reducible show wpAny _ _ (eval (PySem.Expr.IfExp _ _ _ _) _) _ _ _) | (with_reducible show wpAny _ _ (compareOp .NotEq (Value.ref _) (Value.ref _)) _ _ _))); first | (k_unfold; (try dsimp only)) | (k_end; wrow_close) | ((with_reducible show wpAny _ _ (callWith _ (Value.ref _) _ _ _) _ _ _); (k_here; (k_dflt (refine' callWith_K ?k1 ?k2 ?_; (case k1 => k_asm); (case k2 => k_is); k_whole)))) | walk1 | (dsimp only; walk1) | (leave1; walk_say "STEP leave1"; try dsimp only)))
    refine' (ltoldW W (by rw [hWc]; exact wordF_let nu) (by omega) tn (by omega) _ _).use (K := K01) ?Bb ?Fb ?Xb ?Nb ?Tb ?eHb rfl ?hdb ?hub ?_
    case Nb => k_asm
    case eHb => exact ⟨by assumption, by assumption⟩
    case Bb => k_asm
    case Fb => k_asm
    case Xb => k_asm
    case Tb => k_asm
    case hdb => ktr_room
    case hub => ktr_units
    intro D4 w0 w1 c4 l4 h4 tk4 F4 N4
    rw [hWc] at N4
    (repeat' ((fail_if_success (first | (with_reducible show wpAny _ _ (call (Value.ref _) _) _ _ _) | (with_reducible show wpAny _ _ (pyIter _) _ _ _) | (with_reducible show UnrPost _ _ _ _ _ _ _ _ _) | (with_reducible show wpAny _ _ (exec (Stmt.Assign _ (PySem.Expr.ListComp _ _ _ _) _) _) _ _ _) | (with_reducible show wpAny _ _ (eval (PySem.Expr.ListComp _ _ _ _) _) _ _ _) | (with_reducible show wpAny _ _ (call (Value.type "zip") _) _ _ _) | (with_reducible show MEnd _ _ _ _ _ _ _ _ _ _ _ _ _) | (with_reducible show wpAny _ _ (exec (Stmt.For _ _ _ _ _) _) _ _ _) | (with_reducible show wpAny _ _ (exec (Stmt.While _ _ _ _) _) _ _ _) | (with_reducible show wpAny _ _ (eval (PySem.Expr.IfExp _ _ _ _) _) _ _ _) | (with_reducible show wpAny _ _ (compareOp .NotEq (Value.ref _) (Value.ref _)) _ _ _))); first | (k_unfold; (try dsimp only)) | (k_end; wrow_close) | walk1 | (dsimp only; walk1) | (leave1; walk_say "STEP leave1"; try dsimp only)))
    refine ne_two (by k_asm) (by k_mem) (by k_mem) hP.p0 hP.p1 (by ke_room) ?_
    (repeat' ((fail_if_success (first | (with_reducible show wpAny _ _ (call (Value.ref _) _) _ _ _) | (with_reducible show wpAny _ _ (pyIter _) _ _ _) | (with_reducible show UnrPost _ _ _ _ _ _ _ _ _) | (with_reducible show wpAny _ _ (exec (Stmt.Assign _ (PySem.Expr.ListComp _ _ _ _) _) _) _ _ _) | (with_reducible show wpAny _ _ (eval (PySem.Expr.ListComp _ _ _ _) _) _ _ _) | (with_reducible show wpAny _ _ (call (Value.type "zip") _) _ _ _) | (with_reducible show MEnd _ _ _ _ _ _ _ _ _ _ _ _ _) | (with_reducible show wpAny _ _ (exec (Stmt.For _ _ _ _ _) _) _ _ _) | (with_reducible show wpAny _ _ (exec (Stmt.While _ _ _ _) _) _ _ _) | (with_reducible show wpAny _ _ (eval (PySem.Expr.IfExp _ _ _ _) _) _ _ _) | (with_reducible show wpAny _ _ (compareOp .NotEq (Value.ref _) (Value.ref _)) _ _ _))); first | (k_unfold; (try dsimp only)) | (k_end; wrow_close) | ((with_reducible show ite _ _ _); refine ite_neg (by decide +kernel) ?_) | ((with_reducible show wpAny _ _ (callWith _ (Value.ref _) _ _ _) _ _ _); (k_here; (k_dflt (refine' callWith_K ?k1 ?k2 ?_; (case k1 => k_asm); (case k2 => k_is); k_whole)))) | walk1 | (dsimp only; walk1) | (leave1; walk_say "STEP leave1"; try dsimp only)))
    replace N4 := newsSub (T := (30, o30) :: (37, tabObj #[]) :: (D3, lst3 (ptF tn (wordF nu) 1 (0, 0, 0)) u0 u1 u2 c3) :: ext1) N4 (by (repeat' first | exact List.forall_mem_nil _ | refine FMC.all ⟨by k_mem, ?_⟩ | (intro p9 hp9; (repeat' first | assumption | refine List.Mem.tail _ ?_))))
    rw [List.append_nil] at hT30
    have hrl : PySem.Str.length ⟨rd.toArray⟩ ≤ 50 := by
      have e9 : PySem.Str.length ⟨rd.toArray⟩ = rd.length := by simp [PySem.Str.length]
      have := hP.ln
      omega
    have g30 : ∀ q ∈ ext1, q.1 ≠ 30 := fun q hq => Nat.ne_of_gt (lx1 q hq).2
    have g37 : ∀ q ∈ ext1, q.1 ≠ 37 := fun q hq => Nat.ne_of_gt ((lx1 q hq).1 _ (.head _))
    refine' (lreadW (news := ext1) (T0 := ext1) _ rd hP.r1 hP.s1 D3 (l3 _ (.tail _ (.head _))) u0 u1 u2 c3 g30 g37 o30 (tabObj #[]) hT30 (.inl rfl) (fun z hz => hz)).use (K := K01) ?Bc ?Fc ?Xc ?Nc ?Tc ?eHc rfl ?hdc ?huc ?_
    case Nc => exact N4
    case eHc => exact ⟨by assumption, by assumption⟩
    case Bc => k_asm
    case Fc => k_asm
    case Xc => k_asm
    case Tc => k_asm
    case hdc => ktr_room
    case huc => ktr_units
    intro t5 oa30 oa37 exta Ta30 Ta37 lta lxa h5 tk5 F5 N5
    (repeat' ((fail_if_success (first | (with_reducible show wpAny _ _ (call (Value.ref _) _) _ _ _) | (with_reducible show wpAny _ _ (pyIter _) _ _ _) | (with_reducible show UnrPost _ _ _ _ _ _ _ _ _) | (with_reducible show wpAny _ _ (exec (Stmt.Assign _ (PySem.Expr.ListComp _ _ _ _) _) _) _ _ _) | (with_reducible show wpAny _ _ (eval (PySem.Expr.ListComp _ _ _ _) _) _ _ _) | (with_reducible show wpAny _ _ (call (Value.type "zip") _) _ _ _) | (with_reducible show MEnd _ _ _ _ _ _ _ _ _ _ _ _ _) | (with_reducible show wpAny _ _ (exec (Stmt.For _ _ _ _ _) _) _ _ _) | (with_reducible show wpAny _ _ (exec (Stmt.While _ _ _ _) _) _ _ _) | (with_reducible show wpAny _ _ (eval (PySem.Expr.IfExp _ _ _ _) _) _ _ _) | (with_reducible show wpAny _ _ (compareOp .NotEq (Value.ref _) (Value.ref _)) _ _ _))); first | (k_unfold; (try dsimp only)) | (k_end; wrow_close) | ((with_reducible show ite _ _ _); refine ite_neg (by decide +kernel) ?_) | ((with_reducible show wpAny _ _ (callWith _ (Value.ref _) _ _ _) _ _ _); (k_here; (k_dflt (refine' callWith_K ?k1 ?k2 ?_; (case k1 => k_asm); (case k2 => k_is); k_whole)))) | walk1 | (dsimp only; walk1) | (leave1; walk_say "STEP leave1"; try dsimp only)))
    refine' (ltoldW ⟨rd.toArray⟩ hP.lt hrl 0 (by omega) _ _).use (K := K01) ?Bd ?Fd ?Xd ?Nd ?Td ?eHd rfl ?hdd ?hud ?_
    case Nd => k_asm
    case eHd => exact ⟨by assumption, by assumption⟩
    case Bd => k_asm
    case Fd => k_asm
    case Xd => k_asm
    case Td => k_asm
    case hdd => ktr_room
    case hud => ktr_units
    intro D6 z0 z1 c6 l6 h6 tk6 F6 N6
    (repeat' ((fail_if_success (first | (with_reducible show wpAny _ _ (call (Value.ref _) _) _ _ _) | (with_reducible show wpAny _ _ (pyIter _) _ _ _) | (with_reducible show UnrPost _ _ _ _ _ _ _ _ _) | (with_reducible show wpAny _ _ (exec (Stmt.Assign _ (PySem.Expr.ListComp _ _ _ _) _) _) _ _ _) | (with_reducible show wpAny _ _ (eval (PySem.Expr.ListComp _ _ _ _) _) _ _ _) | (with_reducible show wpAny _ _ (call (Value.type "zip") _) _ _ _) | (with_reducible show MEnd _ _ _ _ _ _ _ _ _ _ _ _ _) | (with_reducible show wpAny _ _ (exec (Stmt.For _ _ _ _ _) _) _ _ _) | (with_reducible show wpAny _ _ (exec (Stmt.While _ _ _ _) _) _ _ _) | (with_reducible show wpAny _ _ (eval (PySem.Expr.IfExp _ _ _ _) _) _ _ _) | (with_reducible show wpAny _ _ (compareOp .NotEq (Value.ref _) (Value.ref _)) _ _ _))); first | (k_unfold; (try dsimp only)) | (k_end; wrow_close) | ((with_reducible show wpAny _ _ (callWith _ (Value.ref _) _ _ _) _ _ _); (k_here; (k_dflt (refine' callWith_K ?k1 ?k2 ?_; (case k1 => k_asm); (case k2 => k_is); k_whole)))) | walk1 | (dsimp only; walk1) | (leave1; walk_say "STEP leave1"; try dsimp only)))
    refine' (ltoldW W (by rw [hWc]; exact wordF_let nu) (by omega) tn (by omega) _ _).use (K := K01) ?Be ?Fe ?Xe ?Ne ?Te ?eHe rfl ?hde ?hue ?_
    case Ne => k_asm
    case eHe => exact ⟨by assumption, by assumption⟩
    case Be => k_asm
    case Fe => k_asm
    case Xe => k_asm
    case Te => k_asm
    case hde => ktr_room
    case hue => ktr_units
    intro D7 y0 y1 c7 l7 h7 tk7 F7 N7
    (repeat' ((fail_if_success (first | (with_reducible show wpAny _ _ (call (Value.ref _) _) _ _ _) | (with_reducible show wpAny _ _ (pyIter _) _ _ _) | (with_reducible show UnrPost _ _ _ _ _ _ _ _ _) | (with_reducible show wpAny _ _ (exec (Stmt.Assign _ (PySem.Expr.ListComp _ _ _ _) _) _) _ _ _) | (with_reducible show wpAny _ _ (eval (PySem.Expr.ListComp _ _ _ _) _) _ _ _) | (with_reducible show wpAny _ _ (call (Value.type "zip") _) _ _ _) | (with_reducible show MEnd _ _ _ _ _ _ _ _ _ _ _ _ _) | (with_reducible show wpAny _ _ (exec (Stmt.For _ _ _ _ _) _) _ _ _) | (with_reducible show wpAny _ _ (exec (Stmt.While _ _ _ _) _) _ _ _) | (with_reducible show wpAny _ _ (eval (PySem.Expr.IfExp _ _ _ _) _) _ _ _) | (with_reducible show wpAny _ _ (compareOp .NotEq (Value.ref _) (Value.ref _)) _ _ _))); first | (k_unfold; (try dsimp only)) | (k_end; wrow_close) | walk1 | (dsimp only; walk1) | (leave1; walk_say "STEP leave1"; try dsimp only)))
    refine ne_two (by k_asm) (by k_mem) (by k_mem) (by rw [hWc]; exact congrArg Prod.fst hP.t1) (by rw [hWc]; exact congrArg Prod.snd hP.t1) (by ke_room) ?_
    (repeat' ((fail_if_success (first | (with_reducible show wpAny _ _ (call (Value.ref _) _) _ _ _) | (with_reducible show wpAny _ _ (pyIter _) _ _ _) | (with_reducible show UnrPost _ _ _ _ _ _ _ _ _) | (with_reducible show wpAny _ _ (exec (Stmt.Assign _ (PySem.Expr.ListComp _ _ _ _) _) _) _ _ _) | (with_reducible show wpAny _ _ (eval (PySem.Expr.ListComp _ _ _ _) _) _ _ _) | (with_reducible show wpAny _ _ (call (Value.type "zip") _) _ _ _) | (with_reducible show MEnd _ _ _ _ _ _ _ _ _ _ _ _ _) | (with_reducible show wpAny _ _ (exec (Stmt.For _ _ _ _ _) _) _ _ _) | (with_reducible show wpAny _ _ (exec (Stmt.While _ _ _ _) _) _ _ _) | (with_reducible show wpAny _ _ (eval (PySem.Expr.IfExp _ _ _ _) _) _ _ _) | (with_reducible show wpAny _ _ (compareOp .NotEq (Value.ref _) (Value.ref _)) _ _ _))); first | (k_unfold; (try dsimp only)) | (k_end; wrow_close) | ((with_reducible show ite _ _ _); refine ite_neg (by decide +kernel) ?_) | ((with_reducible show wpAny _ _ (callWith _ (Value.ref _) _ _ _) _ _ _); (k_here; (k_dflt (refine' callWith_K ?k1 ?k2 ?_; (case k1 => k_asm); (case k2 => k_is); k_whole)))) | walk1 | (dsimp only; walk1) | (leave1; walk_say "STEP leave1"; try dsimp only)))
    have lxa1 : ∀ q ∈ exta ++ ext1, @LT.lt Nat _ 37 q.1 := fun q hq => (List.mem_append.mp hq).elim (lxa q) fun h => (lx1 q h).1 _ (.head _)
    have ga30 : ∀ q ∈ exta ++ ext1, q.1 ≠ 30 := fun q hq => Nat.ne_of_gt (by have := lxa1 q hq; omega : @LT.lt Nat _ 30 q.1)
    have ga37 : ∀ q ∈ exta ++ ext1, q.1 ≠ 37 := fun q hq => Nat.ne_of_gt (lxa1 q hq)
    replace N7 := newsSub (T := (30, oa30) :: (37, oa37) :: (exta ++ ext1)) N7 (by (repeat' first | exact List.forall_mem_nil _ | refine FMC.all ⟨by k_mem, ?_⟩ | (intro p9 hp9; (repeat' first | assumption | refine List.Mem.tail _ ?_))))
    refine' (lpointW W (by rw [hWc]; exact wordF_let nu) (by omega) (tn + 2) (by omega) _ _).use (K := K01) ?Bf ?Ff ?Xf ?Nf ?Tf ?eHf rfl ?hdf ?huf ?_
    case Nf => exact N7
    case eHf => exact ⟨by assumption, by assumption⟩
    case Bf => k_asm
    case Ff => k_asm
    case Xf => k_asm
    case Tf => k_asm
    case hdf => ktr_room
    case huf => ktr_units
    intro D8 p0 p1 p2 c8 l8 h8 tk8 F8 N8
    rw [hWc] at N8
    (repeat' ((fail_if_success (first | (with_reducible show wpAny _ _ (call (Value.ref _) _) _ _ _) | (with_reducible show wpAny _ _ (pyIter _) _ _ _) | (with_reducible show UnrPost _ _ _ _ _ _ _ _ _) | (with_reducible show wpAny _ _ (exec (Stmt.Assign _ (PySem.Expr.ListComp _ _ _ _) _) _) _ _ _) | (with_reducible show wpAny _ _ (eval (PySem.Expr.ListComp _ _ _ _) _) _ _ _) | (with_reducible show wpAny _ _ (call (Value.type "zip") _) _ _ _) | (with_reducible show MEnd _ _ _ _ _ _ _ _ _ _ _ _ _) | (with_reducible show wpAny _ _ (exec (Stmt.For _ _ _ _ _) _) _ _ _) | (with_reducible show wpAny _ _ (exec (Stmt.While _ _ _ _) _) _ _ _) | (with_reducible show wpAny _ _ (eval (PySem.Expr.IfExp _ _ _ _) _) _ _ _) | (with_reducible show wpAny _ _ (compareOp .NotEq (Value.ref _) (Value.ref _)) _ _ _))); first | (k_unfold; (try dsimp only)) | (k_end; wrow_close) | walk1 | (dsimp only; walk1) | (leave1; walk_say "STEP leave1"; try dsimp only)))
    replace N8 := newsSub (T := (30, oa30) :: (37, oa37) :: (D8, lst3 (ptF (tn + 2) (wordF nu) 1 (0, 0, 0)) p0 p1 p2 c8) :: (exta ++ ext1)) N8 (by (repeat' first | exact List.forall_mem_nil _ | refine FMC.all ⟨by k_mem, ?_⟩ | (intro p9 hp9; (repeat' first | assumption | refine List.Mem.tail _ ?_))))
    refine' (lreadW (news := exta ++ ext1) (T0 := exta ++ ext1) _ (rotW rd) hP.r2 hP.s2 D8 (l8 _ (.tail _ (.head _))) p0 p1 p2 c8 ga30 ga37 oa30 oa37 Ta30 Ta37 (fun z hz => hz)).use (K := K01) ?Bg ?Fg ?Xg ?Ng ?Tg ?eHg rfl ?hdg ?hug ?_
    case Ng => exact N8
    case eHg => exact ⟨by assumption, by assumption⟩
    case Bg => k_asm
    case Fg => k_asm
    case Xg => k_asm
    case Tg => k_asm
    case hdg => ktr_room
    case hug => ktr_units
    intro t9 ob30 ob37 extb Tb30 Tb37 ltb lxb h9 tk9 F9 N9
    (repeat' ((fail_if_success (first | (with_reducible show wpAny _ _ (call (Value.ref _) _) _ _ _) | (with_reducible show wpAny _ _ (pyIter _) _ _ _) | (with_reducible show UnrPost _ _ _ _ _ _ _ _ _) | (with_reducible show wpAny _ _ (exec (Stmt.Assign _ (PySem.Expr.ListComp _ _ _ _) _) _) _ _ _) | (with_reducible show wpAny _ _ (eval (PySem.Expr.ListComp _ _ _ _) _) _ _ _) | (with_reducible show wpAny _ _ (call (Value.type "zip") _) _ _ _) | (with_reducible show MEnd _ _ _ _ _ _ _ _ _ _ _ _ _) | (with_reducible show wpAny _ _ (exec (Stmt.For _ _ _ _ _) _) _ _ _) | (with_reducible show wpAny _ _ (exec (Stmt.While _ _ _ _) _) _ _ _) | (with_reducible show wpAny _ _ (eval (PySem.Expr.IfExp _ _ _ _) _) _ _ _) | (with_reducible show wpAny _ _ (compareOp .NotEq (Value.ref _) (Value.ref _)) _ _ _))); first | (k_unfold; (try dsimp only)) | (k_end; wrow_close) | ((with_reducible show wpAny _ _ (callWith _ (Value.ref _) _ _ _) _ _ _); (k_here; (k_dflt (refine' callWith_K ?k1 ?k2 ?_; (case k1 => k_asm); (case k2 => k_is); k_whole)))) | walk1 | (dsimp only; walk1) | (leave1; walk_say "STEP leave1"; try dsimp only)))
    refine' (rep4W ⟨rd.toArray⟩ (by omega) _ _ _ _ _ _ _ _ _).use (K := K01) ?Bh ?Fh ?Xh ?Nh ?Th ?eHh rfl ?hdh ?huh ?_
    case Nh => k_asm
    case eHh => exact ⟨by assumption, by assumption⟩
    case Bh => k_asm
    case Fh => k_asm
    case Xh => k_asm
    case Th => k_asm
    case hdh => ktr_room
    case huh => ktr_units
    intro ya ta hya ha tka Fa Na
    have hya2 : ya = ⟨(rotW rd).toArray⟩ := str_of_cps hya
    subst hya2
    (repeat' ((fail_if_success (first | (with_reducible show wpAny _ _ (call (Value.ref _) _) _ _ _) | (with_reducible show wpAny _ _ (pyIter _) _ _ _) | (with_reducible show UnrPost _ _ _ _ _ _ _ _ _) | (with_reducible show wpAny _ _ (exec (Stmt.Assign _ (PySem.Expr.ListComp _ _ _ _) _) _) _ _ _) | (with_reducible show wpAny _ _ (eval (PySem.Expr.ListComp _ _ _ _) _) _ _ _) | (with_reducible show wpAny _ _ (call (Value.type "zip") _) _ _ _) | (with_reducible show MEnd _ _ _ _ _ _ _ _ _ _ _ _ _) | (with_reducible show wpAny _ _ (exec (Stmt.For _ _ _ _ _) _) _ _ _) | (with_reducible show wpAny _ _ (exec (Stmt.While _ _ _ _) _) _ _ _) | (with_reducible show wpAny _ _ (eval (PySem.Expr.IfExp _ _ _ _) _) _ _ _) | (with_reducible show wpAny _ _ (compareOp .NotEq (Value.ref _) (Value.ref _)) _ _ _))); first | (k_unfold; (try dsimp only)) | (k_end; wrow_close) | (with_reducible refine my_ne_same ?_) | ((with_reducible show ite _ _ _); refine ite_neg (by decide +kernel) ?_) | ((with_reducible show wpAny _ _ (callWith _ (Value.ref _) _ _ _) _ _ _); (k_here; (k_dflt (refine' callWith_K ?k1 ?k2 ?_; (case k1 => k_asm); (case k2 => k_is); k_whole)))) | walk1 | (dsimp only; walk1) | (leave1; walk_say "STEP leave1"; try dsimp only)))
    rw [neg_mod6 htn]
    have lxb1 : ∀ q ∈ extb ++ (exta ++ ext1), @LT.lt Nat _ 37 q.1 := fun q hq => (List.mem_append.mp hq).elim (lxb q) (lxa1 q)
    have gb30 : ∀ q ∈ extb ++ (exta ++ ext1), q.1 ≠ 30 := fun q hq => Nat.ne_of_gt (by have := lxb1 q hq; omega : @LT.lt Nat _ 30 q.1)
    have gb37 : ∀ q ∈ extb ++ (exta ++ ext1), q.1 ≠ 37 := fun q hq => Nat.ne_of_gt (lxb1 q hq)
    refine' (lpointW ⟨rd.toArray⟩ hP.lt hrl ((6 - tn) % 6) (by omega) _ _).use (K := K01) ?Bi ?Fi ?Xi ?Ni ?Ti ?eHi rfl ?hdi ?hui ?_
    case Ni => exact Na
    case eHi => exact ⟨by assumption, by assumption⟩
    case Bi => k_asm
    case Fi => k_asm
    case Xi => k_asm
    case Ti => k_asm
    case hdi => ktr_room
    case hui => ktr_units
    intro Db q0 q1 q2 cb lb hb tkb Fb Nb
    (repeat' ((fail_if_success (first | (with_reducible show wpAny _ _ (call (Value.ref _) _) _ _ _) | (with_reducible show wpAny _ _ (pyIter _) _ _ _) | (with_reducible show UnrPost _ _ _ _ _ _ _ _ _) | (with_reducible show wpAny _ _ (exec (Stmt.Assign _ (PySem.Expr.ListComp _ _ _ _) _) _) _ _ _) | (with_reducible show wpAny _ _ (eval (PySem.Expr.ListComp _ _ _ _) _) _ _ _) | (with_reducible show wpAny _ _ (call (Value.type "zip") _) _ _ _) | (with_reducible show MEnd _ _ _ _ _ _ _ _ _ _ _ _ _) | (with_reducible show wpAny _ _ (exec (Stmt.For _ _ _ _ _) _) _ _ _) | (with_reducible show wpAny _ _ (exec (Stmt.While _ _ _ _) _) _ _ _) | (with_reducible show wpAny _ _ (eval (PySem.Expr.IfExp _ _ _ _) _) _ _ _) | (with_reducible show wpAny _ _ (compareOp .NotEq (Value.ref _) (Value.ref _)) _ _ _))); first | (k_unfold; (try dsimp only)) | (k_end; wrow_close) | walk1 | (dsimp only; walk1) | (leave1; walk_say "STEP leave1"; try dsimp only)))
    replace Nb := newsSub (T := (30, ob30) :: (37, ob37) :: (Db, lst3 (ptF ((6 - tn) % 6) rd 1 (0, 0, 0)) q0 q1 q2 cb) :: (extb ++ (exta ++ ext1))) Nb (by (repeat' first | exact List.forall_mem_nil _ | refine FMC.all ⟨by k_mem, ?_⟩ | (intro p9 hp9; (repeat' first | assumption | refine List.Mem.tail _ ?_))))
    refine' (lreadW (news := extb ++ (exta ++ ext1)) (T0 := extb ++ (exta ++ ext1)) _ (wordF nu) hP.r3 hP.s3 Db (lb _ (.tail _ (.head _))) q0 q1 q2 cb gb30 gb37 ob30 ob37 Tb30 Tb37 (fun z hz => hz)).use (K := K01) ?Bj ?Fj ?Xj ?Nj ?Tj ?eHj rfl ?hdj ?huj ?_
    case Nj => exact Nb
    case eHj => exact ⟨by assumption, by assumption⟩
    case Bj => k_asm
    case Fj => k_asm
    case Xj => k_asm
    case Tj => k_asm
    case hdj => ktr_room
    case huj => ktr_units
    intro tc oc30 oc37 extc Tc30 Tc37 ltc lxc hc0 tkc Fc Nc
    have hW2 := str_of_cps hWc
    subst hW2
    (repeat' ((fail_if_success (first | (with_reducible show wpAny _ _ (call (Value.ref _) _) _ _ _) | (with_reducible show wpAny _ _ (pyIter _) _ _ _) | (with_reducible show UnrPost _ _ _ _ _ _ _ _ _) | (with_reducible show wpAny _ _ (exec (Stmt.Assign _ (PySem.Expr.ListComp _ _ _ _) _) _) _ _ _) | (with_reducible show wpAny _ _ (eval (PySem.Expr.ListComp _ _ _ _) _) _ _ _) | (with_reducible show wpAny _ _ (call (Value.type "zip") _) _ _ _) | (with_reducible show MEnd _ _ _ _ _ _ _ _ _ _ _ _ _) | (with_reducible show wpAny _ _ (exec (Stmt.For _ _ _ _ _) _) _ _ _) | (with_reducible show wpAny _ _ (exec (Stmt.While _ _ _ _) _) _ _ _) | (with_reducible show wpAny _ _ (eval (PySem.Expr.IfExp _ _ _ _) _) _ _ _) | (with_reducible show wpAny _ _ (compareOp .NotEq (Value.ref _) (Value.ref _)) _ _ _))); first | (k_unfold; (try dsimp only)) | (k_end; wrow_close) | (with_reducible refine my_eq_same ?_) | ((with_reducible show ite _ _ _); refine ite_pos (by decide +kernel) ?_) | ((with_reducible show wpAny _ _ (callWith _ (Value.ref _) _ _ _) _ _ _); (k_here; (k_dflt (refine' callWith_K ?k1 ?k2 ?_; (case k1 => k_asm); (case k2 => k_is); k_whole)))) | walk1 | (dsimp only; walk1) | (leave1; walk_say "STEP leave1"; try dsimp only)))
    k_dflt (refine mc_strList (by k_asm) (by with_unfolding_all rfl) (by decide) (by rfl) (by decide) (by rfl) ?_)
    walk1
    refine ⟨_, _, _, rfl, rfl, by k_asm, by k_asm, ?hsz9, fun g9 => ?_⟩
    case hsz9 => exact Nat.le_trans hWl (by decide)
    refine text_ints _ letZ ?turn9 ?fin9
    case turn9 =>
      intro c t I oI C oC D m₂ ys h tk E' hc hC hx F N off ne
      rcases wordF_let nu c hc with rfl | rfl | rfl | rfl
      all_goals (
        (repeat' ((fail_if_success (first | (with_reducible show wpAny _ _ (call (Value.ref _) _) _ _ _) | (with_reducible show wpAny _ _ (pyIter _) _ _ _) | (with_reducible show UnrPost _ _ _ _ _ _ _ _ _) | (with_reducible show wpAny _ _ (exec (Stmt.Assign _ (PySem.Expr.ListComp _ _ _ _) _) _) _ _ _) | (with_reducible show wpAny _ _ (eval (PySem.Expr.ListComp _ _ _ _) _) _ _ _) | (with_reducible show wpAny _ _ (call (Value.type "zip") _) _ _ _) | (with_reducible show MEnd _ _ _ _ _ _ _ _ _ _ _ _ _) | (with_reducible show wpAny _ _ (exec (Stmt.For _ _ _ _ _) _) _ _ _) | (with_reducible show wpAny _ _ (exec (Stmt.While _ _ _ _) _) _ _ _) | (with_reducible show wpAny _ _ (eval (PySem.Expr.IfExp _ _ _ _) _) _ _ _) | (with_reducible show LCg.CompSrc _ _ _ _ _ _ _ _ _ _ _ _ _ _) | (with_reducible show LCg.CompEnd _ _ _ _ _ _ _ _ _ _ _ _ _ _) | (with_reducible show wpAny _ _ (compareOp .NotEq (Value.ref _) (Value.ref _)) _ _ _))); first | (k_unfold; (try dsimp only)) | (k_end; wrow_close) | ((with_reducible show wpAny _ _ (eval (PySem.Expr.Name _ _) (compEnvC _ _ _ _)) _ _ _); k_dflt (refine LCgL.ld_own (by k_asm) (by k_mem) (by assumption) (by assumption) ?_)) | walk1 | (dsimp only; walk1) | (leave1; walk_say "STEP leave1"; try dsimp only)))
        exact LCg.CompEnd.intro F N _ (fun p hp => hp) off True.intro ⟨rfl, _, rfl⟩)
    case fin9 =>
      intro ys hys Dd hd9 tkd Fd Nd offd
      have hys2 : IntsAre ys (castL (digsN 4 (figs nu) nu)) := by rw [← back_figs]; exact hys
      have e37 : @Ne Nat Dd 37 := Ne.symm (off1_mem offd (37, oc37) (.tail _ (.head _)))
      have gc37 : ∀ q ∈ extc ++ (extb ++ (exta ++ ext1)), q.1 ≠ 37 := fun q hq => Nat.ne_of_gt ((List.mem_append.mp hq).elim (lxc q) (lxb1 q))
      have hds : ∀ d ∈ digsN 4 (figs nu) nu, d < 2 ^ 2 := digsN_lt (B := 4) (by decide) (figs nu) nu (figs_lt nu)
      have hdl : (digsN 4 (figs nu) nu).length ≤ 5 := by rw [digsN_length]; exact figs_le hnu
      (repeat' ((fail_if_success (first | (with_reducible show wpAny _ _ (call (Value.ref _) _) _ _ _) | (with_reducible show wpAny _ _ (pyIter _) _ _ _) | (with_reducible show UnrPost _ _ _ _ _ _ _ _ _) | (with_reducible show wpAny _ _ (exec (Stmt.Assign _ (PySem.Expr.ListComp _ _ _ _) _) _) _ _ _) | (with_reducible show wpAny _ _ (eval (PySem.Expr.ListComp _ _ _ _) _) _ _ _) | (with_reducible show wpAny _ _ (call (Value.type "zip") _) _ _ _) | (with_reducible show MEnd _ _ _ _ _ _ _ _ _ _ _ _ _) | (with_reducible show wpAny _ _ (exec (Stmt.For _ _ _ _ _) _) _ _ _) | (with_reducible show wpAny _ _ (exec (Stmt.While _ _ _ _) _) _ _ _) | (with_reducible show wpAny _ _ (eval (PySem.Expr.IfExp _ _ _ _) _) _ _ _) | (with_reducible show wpAny _ _ (compareOp .NotEq (Value.ref _) (Value.ref _)) _ _ _))); first | (k_unfold; (try dsimp only)) | (k_end; wrow_close) | walk1 | (dsimp only; walk1) | (leave1; walk_say "STEP leave1"; try dsimp only)))
      refine' (d2iW (news := (Dd, W.listOf ys.toArray ys.length) :: (30, oc30) :: (extc ++ (extb ++ (exta ++ ext1)))) (T0 := extc ++ (extb ++ (exta ++ ext1))) (digsN 4 (figs nu) nu) 2 (by decide) hds (by omega) (by omega) Dd ys ys.length (.head _) hys2 _ (FMC.all ⟨e37, FMC.all ⟨(show (30 : Nat) ≠ 37 by decide), gc37⟩⟩) oc37 Tc37 (fun z hz => .tail _ (.tail _ hz))).use (K := K01) ?Bk ?Fk ?Xk ?Nk ?Tk ?eHk rfl ?hdk ?huk ?_
      case Nk => exact newsSub Nd (by (repeat' first | exact List.forall_mem_nil _ | refine FMC.all ⟨by k_mem, ?_⟩ | (intro p9 hp9; (repeat' first | assumption | refine List.Mem.tail _ ?_))))
      case eHk => exact ⟨by assumption, by assumption⟩
      case Bk => k_asm
      case Fk => k_asm
      case Xk => k_asm
      case Tk => k_asm
      case hdk => ktr_room
      case huk => ktr_units
      intro tz od37 extd Td37 ltd hz tkz Fz Nz
      rw [val_back]
      walk1
      walk1
      rw [beq_self_eq_true]
      exact ⟨goodW_bool Fz (by assumption) (raisesW_false (by wrow_none_raised)) (by wrow_post), tab_grown Td37 Nz (.head _), tab_grown Tc30 Nz (.tail _ (List.mem_append_right _ (.tail _ (.head _)))), True.intro⟩
end Mine
end
theorem PySem.Challenge.cw_pg0168_01_holds : PySem.Challenge.rw_pg0168_01.Holds := by
  exact Mine.main
