import PyProof.Rows.All
import Wide.All
import OpenK.AllK
import Wide.FinOn
import PySem.Challenge.RW_ph0105_01
set_option Elab.async false
local macro_rules | `(tactic| k_steps) => `(tactic| repeat' (first | (k_unfold; (try dsimp only)) | (k_end; wrow_close) | (walk1 <;> (try dsimp only)) | (leave1; (try dsimp only)) | fail "no step"))
local macro_rules | `(tactic| walk_at "binaryOp RShift int int") => `(tactic| ((with_reducible refine PyProof.Rows.rshift_int ?kb1 ?_); (case kb1 => first | assumption | decide)))
local macro_rules | `(tactic| walk_at "binaryOp LShift int int") => `(tactic| ((with_reducible refine PyProof.Rows.lshift_int ?kb1 ?kb2 ?_); (case kb1 => first | assumption | decide); (case kb2 => first | assumption | decide)))
local macro_rules | `(tactic| walk_at "binaryOp Mult int int") => `(tactic| ((with_reducible refine PyProof.Rows.mul_int ?_ ?kb2); (case kb2 => assumption)))
local macro_rules | `(tactic| walk_at "ite") => `(tactic| (first | (with_reducible refine PySem.W.ite_pos (by with_reducible assumption) ?_) | (with_reducible refine PySem.W.ite_neg (by with_reducible assumption) ?_)))
section
open PySem PySem.W PyProof.Rows
namespace Mine
abbrev pr0 : Program := PySem.Challenge.pw_ph0105_01
def vw : Program := { pr0 with main := { pr0.main with body := (pr0.main.body.drop 1).take 7 ++ ((pr0.main.body.drop 9).take 4 ++ pr0.main.body.drop 14) } }
local macro_rules | `(tactic| o_law) => `(tactic| refine holds_law (by decide +kernel) fun said => ?_)
local macro_rules | `(tactic| o_head $H) => `(tactic| (
    refine holds_open (q := vw) (loose := []) (Xt := fun s => xlAt vw [] s && recOk (RowW.records (OpenRow.toRowW (OpenLaw.row PySem.Challenge.rw_ph0105_01))) s) (XP := XL vw []) (Yf := Hook.obs $H) (Ya := Hook.val $H) (YP := Hook.says $H) (N := 1068) ?hl (Hook.of $H) (Hook.keeps $H) (fun s e => xl_of s (Bool.and_eq_true_iff.mp e).1) XL.keeps (by rfl) (by rfl) (by rfl) (fun s e => recFacts_of (Bool.and_eq_true_iff.mp e).2) (by rfl) (by first | assumption | decide +kernel) (by decide +kernel) ⟨rfl, rfl, rfl, rfl, rfl, by decide +kernel⟩ ?hw ?hc
    (case hl => (intro w; kernel_rfl))))
set_option maxRecDepth 100000 in
set_option maxHeartbeats 8000000 in
open_top hd for PySem.Challenge.rw_ph0105_01
#print axioms hd
end Mine
end
theorem Mine.offHd : True := by
  w_top off
  trivial
namespace Mine
/-- a token in the context: the walk stops at the line that asks for it -/
inductive Halt : Nat → Prop
  | mk (n : Nat) : Halt n
theorem halt (n : Nat) : Halt n := .mk n
end Mine
section
open PySem PySem.W PyProof.Rows
namespace Mine
noncomputable abbrev prg : Program := PySem.Challenge.rw_ph0105_01.row.prog
noncomputable abbrev tupObj (vs : List Value) : Obj := { cls := .type "tuple", data := .seq vs.toArray }
abbrev Led := List (Addr × Obj)

/-- a contract: calling f with vs at a ledger `news` hands back v with the ledger news', Post v news' -/
def Ct (w : World) (f : Addr) (vs : List Value) (news : Led) (lv : Nat) (Post : Value → Led → Prop) : Prop :=
  ∀ (p : Program) (loose : List Str) (mean : ExcName → Option Value) (mg mb : Str → Option Value) (dp un : Nat) (gd : Option (List Code)) (cn : Str) (cs : Scope) (a : Addr) (ccd : Value) (cl : List (Str × Addr)) (outer : List Env) (A₀ : Around) (base h₀ : Heap) (L : Addr) (m : Str → Option Value) (s : Shared) (Q E : Value → Shared → Prop),
    Below A₀ base outer h₀ → Fr h₀ L s.heap m → (Mine.hd.heap_1 w.params).In h₀ → News h₀ L s.heap news → Top p loose mean mg mb h₀ → cs.kind = .function →
    dp + lv < recursionLimit → un + 8 * lv < cLine →
    (∀ v news' h' tk', Post v news' → Fr h₀ L h' m → News h₀ L h' news' → Q v { s with heap := h', toks := tk' }) →
    wpAny (model prg w) (ktrTop dp un gd cn cs L a ccd cl outer) (call (.ref f) vs) Q E s

theorem Ct.use {w : World} {f : Addr} {vs : List Value} {news : Led} {lv : Nat} {Post : Value → Led → Prop} (C : Ct w f vs news lv Post)
    {p : Program} {loose : List Str} {mean : ExcName → Option Value} {mg mb : Str → Option Value} {dp un : Nat} {gd : Option (List Code)} {cn : Str} {cs : Scope} {a : Addr} {ccd : Value} {cl : List (Str × Addr)} {outer : List Env} {A₀ : Around} {base h₀ : Heap} {L : Addr} {m : Str → Option Value} {s : Shared} {Q E : Value → Shared → Prop}
    (B : Below A₀ base outer h₀) (F : Fr h₀ L s.heap m) (X : (Mine.hd.heap_1 w.params).In h₀) (N : News h₀ L s.heap news) (T : Top p loose mean mg mb h₀) (hk : cs.kind = .function)
    (hd : dp + lv < recursionLimit) (hu : un + 8 * lv < cLine)
    (ret : ∀ v news' h' tk', Post v news' → Fr h₀ L h' m → News h₀ L h' news' → Q v { s with heap := h', toks := tk' }) :
    wpAny (model prg w) (ktrTop dp un gd cn cs L a ccd cl outer) (call (.ref f) vs) Q E s :=
  C p loose mean mg mb dp un gd cn cs a ccd cl outer A₀ base h₀ L m s Q E B F X N T hk hd hu ret

/-- a pair handed back, new, behind all of news -/
def Pair (news : Led) (x y : Int) (v : Value) (news' : Led) : Prop :=
  ∃ t t1 t2, v = .ref t ∧ news' = (t, tupObj [.int x t1, .int y t2]) :: news ∧ ∀ q ∈ news, q.1 < t
theorem divmod_line {w : World} {A : Around} {E : Value → Shared → Prop} {s : Shared} {a b : Int} {t u : Tok} {Q : Value → Shared → Prop} {h₀ : Heap} {L : Addr} {m : Str → Option Value} {news : Led} (F : Fr h₀ L s.heap m) (N : News h₀ L s.heap news) (hb : b ≠ 0)
    (hp : Builtin.divisionGoesByPylong a b = false)
    (h : ∀ x t1 t2 h' tk, Fr h₀ L h' m → News h₀ L h' ((x, tupObj [.int (a.fdiv b) t1, .int (a.fmod b) t2]) :: news) → (∀ q ∈ news, q.1 < x) →
      Q (.ref x) { s with heap := h', toks := tk }) : wpAny (model prg w) A (call (.builtin "divmod") [.int a t, .int b u]) Q E s :=
  divmod_N F N hb (fun h' F' N' => h _ _ _ h' _ F' N' fun q hq => Heap.lt_size (N q hq).1) (.inl hp)
theorem lt_of_all {d : Addr} : ∀ {l : Led}, AllLt d l → ∀ q ∈ l, q.1 < d
  | [], _, _, h => nomatch h
  | _ :: _, h, _, .head _ => h.1
  | _ :: _, h, q, .tail _ hq => lt_of_all h.2 q hq
theorem pair_ret {h₀ : Heap} {L : Addr} {m : Str → Option Value} {news news₂ : Led} {s : Shared} {Q : Value → Shared → Prop} {x y x' y' : Int} {t : Addr} {t1 t2 : Tok} {h' : Heap} {tk : Nat}
    (ret : ∀ v news' h' tk', Pair news x y v news' → Fr h₀ L h' m → News h₀ L h' news' → Q v { s with heap := h', toks := tk' })
    (F : Fr h₀ L h' m) (N : News h₀ L h' ((t, tupObj [.int x' t1, .int y' t2]) :: news₂)) (lt : ∀ q ∈ news₂, q.1 < t) (sub : ∀ q ∈ news, q ∈ news₂) (e : x = x' ∧ y = y') : Q (.ref t) { s with heap := h', toks := tk } := by
  obtain ⟨rfl, rfl⟩ := e
  exact ret _ _ _ _ ⟨t, t1, t2, rfl, rfl, fun q hq => lt q (sub q hq)⟩ F fun p hp => N p ((List.mem_cons.mp hp).elim (fun h => h ▸ .head _) fun h => .tail _ (sub p h))
end Mine
end
theorem Mine.offReg : True := by
  w_top off
  trivial
section
open PySem PySem.W PyProof.Rows
namespace Mine
open PySem.Builtin.Int (intBits)
section
variable {w : World} {A : Around} {E : Value → Shared → Prop} {s : Shared} {a b n x : Int} {t u : Tok} {Q : Value → Shared → Prop}
theorem shr_to (e : x = a.fdiv (2 ^ n.toNat)) (hn : 0 ≤ n) (h : Q (.int x s.toks) { s with toks := s.toks + 1 }) : wpAny (model prg w) A (binaryOp .RShift (.int a t) (.int n u)) Q E s :=
  rshift_int hn (e ▸ h)
theorem shl_to (e : x = a * 2 ^ n.toNat) (hn : 0 ≤ n) (hz : (intBits a : Int) + n ≤ 2 ^ 27) (h : Q (.int x s.toks) { s with toks := s.toks + 1 }) : wpAny (model prg w) A (binaryOp .LShift (.int a t) (.int n u)) Q E s :=
  lshift_int hn hz (e ▸ h)
theorem and_to (e : x = Builtin.bitAnd a b) (h : Q (.int x s.toks) { s with toks := s.toks + 1 }) : wpAny (model prg w) A (binaryOp .BitAnd (.int a t) (.int b u)) Q E s :=
  and_int (e ▸ h)
theorem sub_to (e : x = a - b) (h : Q (.int x s.toks) { s with toks := s.toks + 1 }) : wpAny (model prg w) A (binaryOp .Sub (.int a t) (.int b u)) Q E s :=
  sub_int (e ▸ h)
end
section
variable {M : Model} {A : Around} {E : Value → Shared → Prop} {s : Shared} {h₀ : Heap} {L a : Addr} {m : Str → Option Value} {cn : Str} {cs : Scope} {ccd : Value} {cl : List (Str × Addr)}
  {x : Str} {i : Int} {t : Tok} {Q : Unit → Shared → Prop} {news : List (Addr × Obj)}
/-- an int stored: its token and the state's under letters of their own -/
theorem store_int (F : Fr h₀ L s.heap m) (N : News h₀ L s.heap news)
    (h : ∀ h' t' k', Fr h₀ L h' (fun y => if y = x then some (.int i t') else m y) → News h₀ L h' news → Q () { s with heap := h', toks := k' })
    (hk : cs.kind = .function := by rfl) (hx : (envX cn cs L a ccd cl).kindOf x = some .local := by rfl) : wpAny M A (storeName (envX cn cs L a ccd cl) x (.int i t)) Q E s :=
  storeX_L F N (fun h' F' N' => h h' t _ F' N') hk hx
theorem wp_mid {α : Type} {M : Model} {m : Sem α} {Q : α → Shared → Prop} {E : Value → Shared → Prop} {s : Shared} {A : Around} (R : α → Shared → Prop) (h : wpAny M A m R (fun _ _ => False) s) (g : ∀ a s', R a s' → Q a s') : wpAny M A m Q E s :=
  wpAny_mono h g fun _ _ x => x.elim
end
/-- a gate: the walk stops at the line that asks for it -/
inductive Gate : Nat → Prop
  | mk (n : Nat) : Gate n
theorem gate (n : Nat) : Gate n := .mk n
def StopG (P : Prop) : Prop := P
theorem stopG_of {P : Prop} (h : StopG P) : P := h
theorem stopG_in {P : Prop} (h : P) : StopG P := h
end Mine
namespace Mine
theorem room_of {d dp k lv n : Nat} (h : dp + n < recursionLimit) (e : d = dp + k) (hk : k + lv ≤ n) : d + lv < recursionLimit := by subst e; omega
theorem units_of {u un k lv n : Nat} (h : un + n < cLine) (e : u = un + k) (hk : k + lv ≤ n) : u + lv < cLine := by subst e; omega
end Mine
end
local macro_rules | `(tactic| ktr_room) => `(tactic| first | (refine' Mine.room_of ?h ?e ?hk; (case e => first | exact Eq.refl (_ + 1) | exact Eq.refl (_ + 0) | exact Eq.refl (_ + 2)); (case h => assumption); (case hk => decide)) | fail)
local macro_rules | `(tactic| ktr_units) => `(tactic| first | (refine' Mine.units_of ?h ?e ?hk; (case e => first | exact Eq.refl (_ + 3) | exact Eq.refl (_ + 0) | exact Eq.refl (_ + 6)); (case h => assumption); (case hk => decide)) | fail)
theorem Mine.offLet : True := by
  w_top off
  trivial
section
open PySem PySem.W PyProof.Rows
namespace Mine
theorem fr_ps {h₀ h : Heap} {L : Addr} {m : Str → Option Value} (ps : List (Str × Value)) (F : Fr h₀ L h m) (hp : ∀ p ∈ ps, m p.1 = some p.2) : ∃ u, Fr h₀ L h (kstB u ps) := by
  refine ⟨m, ?_⟩
  have e : kstB m ps = m := funext fun z => kstB_eq hp fun _ => rfl
  rw [e]; exact F
/-- what stands between two statements, said with the frame's heap and place -/
theorem mid_fr {α : Type} {M : Model} {t : Sem α} {Q : α → Shared → Prop} {E : Value → Shared → Prop} {s : Shared} {A : Around} {g h : Heap} {L : Addr} {m : Str → Option Value} (R : Heap → Addr → α → Shared → Prop) (_F : Fr g L h m)
    (h1 : wpAny M A t (R g L) (fun _ _ => False) s) (h2 : ∀ a s', R g L a s' → Q a s') : wpAny M A t Q E s :=
  wpAny_mono h1 h2 fun _ _ x => x.elim
end Mine
end
theorem Mine.offMid : True := by
  w_top off
  trivial
section
open PySem PySem.W PyProof.Rows
namespace Mine
section
variable {A : Around} {E : Value → Shared → Prop} {s : Shared}
/-- the end under letters of its own -/
theorem wp_gen {α : Type} {M : Model} {m : Sem α} {Q : α → Shared → Prop} (h : ∀ Q' E' : _ → Shared → Prop, (∀ a s', Q a s' → Q' a s') → (∀ e s', E e s' → E' e s') → wpAny M A m Q' E' s) : wpAny M A m Q E s :=
  h Q E (fun _ _ x => x) (fun _ _ x => x)
/-- a turn's end under a letter of its own -/
theorem turn_gen {α β : Type} {M : Model} {t : Sem α} {b : Sem β} {Q : β → Shared → Prop} {E1 E2 : Value → Shared → Prop} (h : ∀ R : β → Shared → Prop, (∀ f s', Q f s' → R f s') → wpAny M A t (fun _ s₂ => wpAny M A b R E2 s₂) E1 s) : wpAny M A t (fun _ s₂ => wpAny M A b Q E2 s₂) E1 s :=
  h Q fun _ _ x => x
end
end Mine
end
theorem Mine.offWpg : True := by
  w_top off
  trivial
section
open PySem PySem.W PyProof.Rows
namespace Mine
theorem Ct.useP {w : World} {f : Addr} {vs : List Value} {news : Led} {lv : Nat} {x y : Int} (C : Ct w f vs news lv (Pair news x y))
    {p : Program} {loose : List Str} {mean : ExcName → Option Value} {mg mb : Str → Option Value} {dp un : Nat} {gd : Option (List Code)} {cn : Str} {cs : Scope} {a : Addr} {ccd : Value} {cl : List (Str × Addr)} {outer : List Env} {A₀ : Around} {base h₀ : Heap} {L : Addr} {m : Str → Option Value} {s : Shared} {Q E : Value → Shared → Prop}
    (B : Below A₀ base outer h₀) (F : Fr h₀ L s.heap m) (X : (Mine.hd.heap_1 w.params).In h₀) (N : News h₀ L s.heap news) (T : Top p loose mean mg mb h₀) (hk : cs.kind = .function)
    (hd : dp + lv < recursionLimit) (hu : un + 8 * lv < cLine)
    (ret : ∀ t t1 t2 h' tk', (∀ q ∈ news, q.1 < t) → Fr h₀ L h' m → News h₀ L h' ((t, tupObj [.int x t1, .int y t2]) :: news) → Q (.ref t) { s with heap := h', toks := tk' }) :
    wpAny (model prg w) (ktrTop dp un gd cn cs L a ccd cl outer) (call (.ref f) vs) Q E s :=
  Ct.use C B F X N T hk hd hu fun v news' h' tk' hP F' N' => by
    obtain ⟨t, t1, t2, rfl, rfl, l⟩ := hP
    exact ret t t1 t2 h' tk' l F' N'
end Mine
namespace Mine
/-- a goal under a letter, while what is known is taken apart -/
theorem goal_gen {P : Prop} (h : ∀ R : Prop, (P → R) → R) : P := h P fun p => p
end Mine
end
theorem Mine.offUse : True := by
  w_top off
  trivial
section
open PySem PySem.W PyProof.Rows
namespace Mine
open PySem.Builtin.Int (intBits)

theorem bitOr_eq (x y : Int) : Builtin.bitOr x y = x + y - Builtin.bitAnd x y := by
  have h := bitXor_and x y
  unfold Builtin.bitXor at h
  (first | lia | omega)

theorem nat_or_add {u a k : Nat} (h : a < 2 ^ k) : u * 2 ^ k ||| a = u * 2 ^ k + a := by
  rw [Nat.mul_comm u, Nat.two_pow_add_eq_or_of_lt h]

theorem nat_and_high {u a k : Nat} (h : a < 2 ^ k) : u * 2 ^ k &&& a = 0 := by
  apply Nat.eq_of_testBit_eq
  intro i
  rw [Nat.testBit_and, Nat.zero_testBit]
  by_cases hi : i < k
  · rw [Nat.mul_comm u, Nat.testBit_two_pow_mul]
    simp [Nat.not_le.mpr hi]
  · have : a.testBit i = false := Nat.testBit_lt_two_pow (Nat.lt_of_lt_of_le h (Nat.pow_le_pow_right (by decide) (Nat.le_of_not_lt hi)))
    rw [this, Bool.and_false]

theorem bitAnd_nat (x y : Nat) : Builtin.bitAnd (x : Int) (y : Int) = ((x &&& y : Nat) : Int) := by
  unfold Builtin.bitAnd
  have h1 : decide (0 ≤ (x : Int)) = true := decide_eq_true (by (first | lia | omega))
  have h2 : decide (0 ≤ (y : Int)) = true := decide_eq_true (by (first | lia | omega))
  simp only [h1, h2, Int.toNat_natCast]

theorem cast_pow (k : Nat) : ((2 ^ k : Nat) : Int) = (2 : Int) ^ k := kbt_cast k

theorem bitAnd_high {u a : Int} {k : Nat} (hu : 0 ≤ u) (ha : 0 ≤ a) (h : a < 2 ^ k) : Builtin.bitAnd (u * 2 ^ k) a = 0 := by
  obtain ⟨u, rfl⟩ := Int.eq_ofNat_of_zero_le hu
  obtain ⟨a, rfl⟩ := Int.eq_ofNat_of_zero_le ha
  rw [← cast_pow, ← Int.natCast_mul, bitAnd_nat, nat_and_high (by rw [← cast_pow] at h; (first | lia | omega))]
  rfl

theorem bitOr_high {u a : Int} {k : Nat} (hu : 0 ≤ u) (ha : 0 ≤ a) (h : a < 2 ^ k) : Builtin.bitOr (u * 2 ^ k) a = u * 2 ^ k + a := by
  rw [bitOr_eq, bitAnd_high hu ha h]; (first | lia | omega)

theorem bitAnd_self_high {u a : Nat} {k : Nat} (h : a < 2 ^ k) : (u * 2 ^ k + a) &&& (u * 2 ^ k) = u * 2 ^ k := by
  rw [← nat_or_add h, Nat.and_comm, Nat.and_or_distrib_left, Nat.and_self, nat_and_high h, Nat.or_zero]

/-- x ^ ((x >> k) << k) is x mod 2 ^ k -/
theorem bitXor_low {x : Int} {k : Nat} (hx : 0 ≤ x) : Builtin.bitXor x (x.fdiv (2 ^ k) * 2 ^ k) = x.fmod (2 ^ k) := by
  have hw := kbt_whole x k
  have hr := kbt_rest x k
  have hq : 0 ≤ x.fdiv (2 ^ k) := (kbt_quot x k).resolve_left (by (first | lia | omega)) |>.1
  generalize hu : x.fdiv (2 ^ k) = u at *
  generalize ha : x.fmod (2 ^ k) = a at *
  rw [bitXor_and]
  obtain ⟨u, rfl⟩ := Int.eq_ofNat_of_zero_le hq
  obtain ⟨a, rfl⟩ := Int.eq_ofNat_of_zero_le hr.1
  rw [← cast_pow] at hr hw ⊢
  rw [← hw]
  have e := bitAnd_nat (u * 2 ^ k + a) (u * 2 ^ k)
  rw [bitAnd_self_high (by (first | lia | omega))] at e
  rw [Int.natCast_add, Int.natCast_mul] at e
  rw [e]; (first | lia | omega)

theorem bits_lt {x : Int} {k : Nat} (h0 : 0 ≤ x) (h : x < 2 ^ k) : intBits x ≤ k := by
  rw [intBits_le_iff]
  rw [← cast_pow] at h
  (first | lia | omega)
theorem lt_bits {x : Int} {k : Nat} (h : intBits x ≤ k) : x < 2 ^ k := by
  rw [intBits_le_iff] at h
  rw [← cast_pow]
  (first | lia | omega)
theorem noPy {a b : Int} (h : intBits b ≤ 9000) : Builtin.divisionGoesByPylong a b = false := by
  refine PyProof.noPylong_of_log2 ?_
  unfold Builtin.Int.intBits at h
  split at h
  · rename_i hb
    have : b = 0 := by simpa using hb
    subst this
    decide +kernel
  · (first | lia | omega)
end Mine
namespace Mine
open PySem.Builtin.Int (intBits)
theorem bits_two_pow (k : Nat) : intBits ((2 : Int) ^ k) ≤ k + 1 := by
  refine bits_lt (Int.le_of_lt (kbt_pos k)) ?_
  rw [← cast_pow, ← cast_pow]
  exact Int.ofNat_lt.mpr (Nat.pow_lt_pow_right (by decide) (Nat.lt_succ_self k))
theorem bits_one : intBits (1 : Int) = 1 := by decide +kernel
theorem d32_sz {a12 b1 n : Int} (hn0 : 0 ≤ n) (hn : n ≤ 4000) (hsm : (intBits a12 : Int) - n ≤ 4000) (hbb : intBits b1 ≤ 9000) :
    (intBits (1 : Int) : Int) + n ≤ 2 ^ 27 ∧ (intBits b1 : Int) + n ≤ 2 ^ 27 ∧ (intBits (a12 - b1 * 2 ^ n.toNat + b1) : Int) + n ≤ 2 ^ 27 ∧ (intBits (a12.fmod b1) : Int) + n ≤ 2 ^ 27 := by
  have e1 := intBits_mul_le hbb (bits_two_pow n.toNat)
  have ha : intBits a12 ≤ 8000 := by (first | lia | omega)
  have e2 := intBits_sub_le ha e1
  have e3 := intBits_add_le e2 hbb
  have e4 := intBits_fmod_le ha hbb
  have := bits_one
  have e5 : n.toNat ≤ 4000 := by (first | lia | omega)
  refine ⟨by (first | lia | omega), by (first | lia | omega), by (first | lia | omega), by (first | lia | omega)⟩
theorem d32_mul {a12 b1 b2 n : Int} (hn0 : 0 ≤ n) (hn : n ≤ 4000) (hsm : (intBits a12 : Int) - n ≤ 4000) (hb20 : 0 ≤ b2) (hb2 : b2 < 2 ^ n.toNat) :
    IntMulOk (1 * 2 ^ n.toNat - 1) b2 ∧ IntMulOk (a12.fdiv b1) b2 := by
  have hb : intBits b2 ≤ n.toNat := bits_lt hb20 hb2
  have ha : intBits a12 ≤ 8000 := by (first | lia | omega)
  have e1 := intBits_sub_le (bits_two_pow n.toNat) (Nat.le_of_eq bits_one)
  have e2 : intBits (a12.fdiv b1) ≤ 8000 := intBits_fdiv_le ha
  refine ⟨IntMulOk.of_le (m := n.toNat + 2) ?_ hb (by (first | lia | omega)), IntMulOk.of_le e2 hb (by (first | lia | omega))⟩
  rw [Int.one_mul]
  exact Nat.le_trans e1 (by (first | lia | omega))
end Mine
namespace Mine
open PySem.Builtin.Int (intBits)
theorem d32_start {b q0 r0 : Int} : q0 * b + r0 = q0 * b + r0 ∧ (r0 < b ∨ r0 ≤ r0) := ⟨rfl, .inr (Int.le_refl _)⟩
theorem d32_turn {b q0 r0 q r : Int} (h : q * b + r = q0 * b + r0 ∧ (r < b ∨ r ≤ r0)) (hr : r < 0) : (q - 1) * b + (r + b) = q0 * b + r0 ∧ (r + b < b ∨ r + b ≤ r0) := by
  refine ⟨?_, .inl (by (first | lia | omega))⟩
  rw [Int.sub_mul, Int.one_mul]; (first | lia | omega)
theorem fdivmod_of {a b q r : Int} (h0 : 0 ≤ r) (h1 : r < b) (e : q * b + r = a) : a.fdiv b = q ∧ a.fmod b = r := by
  have hb : 0 < b := by (first | lia | omega)
  rw [Int.fdiv_eq_ediv_of_nonneg a (Int.le_of_lt hb), Int.fmod_eq_emod_of_nonneg a (Int.le_of_lt hb)]
  exact (Int.ediv_emod_unique hb).mpr ⟨by rw [Int.mul_comm b q]; (first | lia | omega), h0, h1⟩
theorem fdivmod_pos {a b : Int} (hb : 0 < b) : a.fdiv b * b + a.fmod b = a ∧ 0 ≤ a.fmod b ∧ a.fmod b < b := by
  rw [Int.fdiv_eq_ediv_of_nonneg a (Int.le_of_lt hb), Int.fmod_eq_emod_of_nonneg a (Int.le_of_lt hb)]
  have := Int.emod_nonneg a (Int.ne_of_gt hb)
  have := Int.emod_lt_of_pos a hb
  have := Int.mul_ediv_add_emod a b
  rw [Int.mul_comm] at this
  exact ⟨by (first | lia | omega), by (first | lia | omega), by (first | lia | omega)⟩
theorem b_pos {b b1 b2 n : Int} (hb1 : 0 < b1) (hb20 : 0 ≤ b2) (hb : b = b1 * 2 ^ n.toNat + b2) : 0 < b := by
  have := Int.mul_pos hb1 (kbt_pos n.toNat)
  (first | lia | omega)
theorem ring1 {a12 a3 b1 b2 P : Int} : (1 * P - 1) * (b1 * P + b2) + ((a12 - b1 * P + b1) * P + a3 - (1 * P - 1) * b2) = a12 * P + a3 := by grind
theorem ring2 {q1 r1 b1 b2 a3 P : Int} : q1 * (b1 * P + b2) + (r1 * P + a3 - q1 * b2) = (q1 * b1 + r1) * P + a3 := by grind
/-- the first arm: a12 >> n == b1 -/
theorem d32_end1 {a12 a3 b b1 b2 n q r : Int} (h30 : 0 ≤ a3) (h3 : a3 < 2 ^ n.toNat) (hb1 : 0 < b1) (hb20 : 0 ≤ b2) (hb : b = b1 * 2 ^ n.toNat + b2) (hlt : a12 * 2 ^ n.toNat + a3 < b * 2 ^ n.toNat) (hc : a12.fdiv (2 ^ n.toNat) = b1)
    (h : q * b + r = (1 * 2 ^ n.toNat - 1) * b + (Builtin.bitOr ((a12 - b1 * 2 ^ n.toNat + b1) * 2 ^ n.toNat) a3 - (1 * 2 ^ n.toNat - 1) * b2) ∧ (r < b ∨ r ≤ Builtin.bitOr ((a12 - b1 * 2 ^ n.toNat + b1) * 2 ^ n.toNat) a3 - (1 * 2 ^ n.toNat - 1) * b2)) (hr : ¬ r < 0) :
    (a12 * 2 ^ n.toNat + a3).fdiv b = q ∧ (a12 * 2 ^ n.toNat + a3).fmod b = r := by
  have hp := kbt_pos n.toNat
  have hw := fdivmod_pos (a := a12) hp
  rw [hc] at hw
  have hR : 0 ≤ a12 - b1 * 2 ^ n.toNat + b1 := by (first | lia | omega)
  rw [bitOr_high hR h30 h3] at h
  have e := ring1 (a12 := a12) (a3 := a3) (b1 := b1) (b2 := b2) (P := 2 ^ n.toNat)
  rw [← hb] at e
  have hz : (1 * 2 ^ n.toNat - 1) * b = b * 2 ^ n.toNat - b := by rw [Int.one_mul, Int.sub_mul, Int.one_mul, Int.mul_comm]
  refine fdivmod_of (by (first | lia | omega)) ?_ (by (first | lia | omega))
  rcases h.2 with h2 | h2
  · exact h2
  · (first | lia | omega)
/-- the second arm: by _div2n1n -/
theorem d32_end2 {a12 a3 b b1 b2 n q r : Int} (h0 : 0 ≤ a12) (h30 : 0 ≤ a3) (h3 : a3 < 2 ^ n.toNat) (hb1 : 0 < b1) (hb20 : 0 ≤ b2) (hb : b = b1 * 2 ^ n.toNat + b2)
    (h : q * b + r = a12.fdiv b1 * b + (Builtin.bitOr (a12.fmod b1 * 2 ^ n.toNat) a3 - a12.fdiv b1 * b2) ∧ (r < b ∨ r ≤ Builtin.bitOr (a12.fmod b1 * 2 ^ n.toNat) a3 - a12.fdiv b1 * b2)) (hr : ¬ r < 0) :
    (a12 * 2 ^ n.toNat + a3).fdiv b = q ∧ (a12 * 2 ^ n.toNat + a3).fmod b = r := by
  have hp := kbt_pos n.toNat
  have hw := fdivmod_pos (a := a12) hb1
  rw [bitOr_high hw.2.1 h30 h3] at h
  have e := ring2 (q1 := a12.fdiv b1) (r1 := a12.fmod b1) (a3 := a3) (b1 := b1) (b2 := b2) (P := 2 ^ n.toNat)
  rw [← hb, hw.1] at e
  have hq : 0 ≤ a12.fdiv b1 * b2 := Int.mul_nonneg (Int.fdiv_nonneg h0 (Int.le_of_lt hb1)) hb20
  have hz : (a12.fmod b1 + 1) * 2 ^ n.toNat ≤ b1 * 2 ^ n.toNat := Int.mul_le_mul_of_nonneg_right (by (first | lia | omega)) (Int.le_of_lt hp)
  rw [Int.add_mul, Int.one_mul] at hz
  refine fdivmod_of (by (first | lia | omega)) ?_ (by (first | lia | omega))
  rcases h.2 with h2 | h2
  · exact h2
  · (first | lia | omega)
end Mine
end
theorem Mine.offBits : True := by
  w_top off
  trivial
section
namespace Mine
structure S4 where
  b : Int
  a : Int
  r : Int
  l : Int
/-- min as the walk tells it -/
noncomputable def mn (p q : Int) : Int := if q < p then q else p
noncomputable def nOft1 (cv : Int) (s : S4) : Int := mn ((s.r - 1).fdiv s.l) ((cv - 1 - s.b).fdiv s.a)
noncomputable def nOft2 (cv : Int) (s : S4) : Int := mn ((s.l - 1).fdiv s.r) ((cv - 1 - s.a).fdiv s.b)
noncomputable def nTurn (cv : Int) (s : S4) : S4 :=
  if s.l < s.r then ⟨s.b + nOft1 cv s * s.a, s.a, s.r - nOft1 cv s * s.l, s.l⟩ else ⟨s.b, s.a + nOft2 cv s * s.b, s.r, s.l - nOft2 cv s * s.r⟩
/-- what _law_nearest tells -/
noncomputable def near (cv : Int) : Nat → S4 → S4
  | 0, s => s
  | n + 1, s => if cv ≤ s.b + s.a then s else near cv n (nTurn cv s)
structure NInv (cv : Int) (s : S4) : Prop where
  b0 : 1 ≤ s.b
  a0 : 1 ≤ s.a
  r0 : 1 ≤ s.r
  l0 : 1 ≤ s.l
  b1 : s.b ≤ 100
  a1 : s.a ≤ 100
  r1 : s.r ≤ 100
  l1 : s.l ≤ 100
theorem fdiv_bounds {x y : Int} (hx0 : 0 ≤ x) (hx : x ≤ 100) (hy : 1 ≤ y) : 0 ≤ x.fdiv y ∧ x.fdiv y ≤ 100 ∧ x.fdiv y * y ≤ x := by
  have k := fdivmod_pos (a := x) (b := y) (by omega)
  have h0 : 0 ≤ x.fdiv y := Int.fdiv_nonneg hx0 (by omega)
  have h1 : x.fdiv y * 1 ≤ x.fdiv y * y := Int.mul_le_mul_of_nonneg_left hy h0
  exact ⟨h0, by omega, by omega⟩
theorem min_mul {p q y : Int} (hp : 0 ≤ p) (hq : 0 ≤ q) (hy : 1 ≤ y) : 0 ≤ mn p q * y ∧ mn p q * y ≤ p * y ∧ mn p q * y ≤ q * y ∧ 0 ≤ mn p q := by
  have e : mn p q = min p q := by unfold mn; split <;> omega
  rw [e]
  exact
  ⟨Int.mul_nonneg (by omega) (by omega), Int.mul_le_mul_of_nonneg_right (by omega) (by omega), Int.mul_le_mul_of_nonneg_right (by omega) (by omega), by omega⟩
theorem nTurn_inv {cv : Int} {s : S4} (hc : cv ≤ 100) (h : NInv cv s) (hlt : ¬ cv ≤ s.b + s.a) : NInv cv (nTurn cv s) := by
  obtain ⟨b0, a0, r0, l0, b1, a1, r1, l1⟩ := h
  unfold nTurn
  split
  · obtain ⟨x0, x1, x2⟩ := fdiv_bounds (x := s.r - 1) (y := s.l) (by omega) (by omega) l0
    obtain ⟨y0, y1, y2⟩ := fdiv_bounds (x := cv - 1 - s.b) (y := s.a) (by omega) (by omega) a0
    obtain ⟨z0, z1, z2, z3⟩ := min_mul x0 y0 l0
    obtain ⟨w0, w1, w2, w3⟩ := min_mul x0 y0 a0
    unfold nOft1
    refine ⟨by dsimp only; omega, a0, by dsimp only; omega, l0, by dsimp only; omega, a1, by dsimp only; omega, l1⟩
  · obtain ⟨x0, x1, x2⟩ := fdiv_bounds (x := s.l - 1) (y := s.r) (by omega) (by omega) r0
    obtain ⟨y0, y1, y2⟩ := fdiv_bounds (x := cv - 1 - s.a) (y := s.b) (by omega) (by omega) b0
    obtain ⟨z0, z1, z2, z3⟩ := min_mul x0 y0 r0
    obtain ⟨w0, w1, w2, w3⟩ := min_mul x0 y0 b0
    unfold nOft2
    refine ⟨b0, by dsimp only; omega, r0, by dsimp only; omega, b1, by dsimp only; omega, r1, by dsimp only; omega⟩
theorem near_stop {cv : Int} {n : Nat} {s : S4} (h : cv ≤ s.b + s.a) : near cv n s = s := by
  cases n with
  | zero => rfl
  | succ n => unfold near; rw [if_pos h]
theorem near_step {cv : Int} {n : Nat} {s : S4} (h : ¬ cv ≤ s.b + s.a) : near cv (n + 1) s = near cv n (nTurn cv s) := by
  conv => lhs; unfold near
  rw [if_neg h]
end Mine
namespace Mine
open PySem PySem.W PyProof.Rows
theorem bits_small {x : Int} (h0 : -128 ≤ x) (h : x ≤ 128) : PySem.Builtin.Int.intBits x ≤ 19999 ∧ PySem.Builtin.Int.intBits x ≤ 7999 := by
  have : PySem.Builtin.Int.intBits x ≤ 8 := by
    rw [intBits_le_iff]
    omega
  exact ⟨by omega, by omega⟩
end Mine
end
theorem Mine.offNear : True := by
  w_top off
  trivial
section
open PySem PySem.W PyProof.Rows
namespace Mine
open PySem.Builtin.Int (intBits)
theorem mask_fmod (x : Int) (k : Nat) : Builtin.bitAnd x (1 * 2 ^ k - 1) = x.fmod (2 ^ k) := by
  rw [Int.one_mul, kbt_maskF]
theorem fdiv_fdiv_pos {a p q : Int} (hp : 0 < p) (hq : 0 < q) : (a.fdiv p).fdiv q = a.fdiv (p * q) := by
  have hpq := Int.mul_pos hp hq
  rw [Int.fdiv_eq_ediv_of_nonneg _ (Int.le_of_lt hp), Int.fdiv_eq_ediv_of_nonneg _ (Int.le_of_lt hq), Int.fdiv_eq_ediv_of_nonneg _ (Int.le_of_lt hpq), Int.ediv_ediv_of_nonneg (Int.le_of_lt hp)]
theorem ring3 {q1 q2 r1 r2 a0 b P A1 : Int} (e1 : q1 * b + r1 = A1) (e2 : q2 * b + r2 = r1 * P + a0) : (q1 * P + q2) * b + r2 = A1 * P + a0 := by grind

structure BigF (a b n h a12 a3 b1 b2 q1 r1 a0 q2 r2 : Int) : Prop where
  s1 : 0 ≤ h
  s2 : (intBits (1 : Int) : Int) + h ≤ 2 ^ 27
  s3 : 0 ≤ n
  f1 : 0 ≤ a12
  f2 : 0 ≤ a3
  f3 : a3 < 2 ^ h.toNat
  f4 : 0 < b1
  f5 : 0 ≤ b2
  f6 : b2 < 2 ^ h.toNat
  f7 : b = b1 * 2 ^ h.toNat + b2
  f8 : a12 * 2 ^ h.toNat + a3 < b * 2 ^ h.toNat
  f9 : h ≤ 4000
  f10 : (intBits a12 : Int) - h ≤ 4000
  f11 : intBits b1 ≤ 9000
  g1 : 0 ≤ r1
  g2 : 0 ≤ a0
  g3 : a0 < 2 ^ h.toNat
  g4 : r1 * 2 ^ h.toNat + a0 < b * 2 ^ h.toNat
  g5 : (intBits r1 : Int) - h ≤ 4000
  g6 : (intBits q1 : Int) + h ≤ 2 ^ 27
  e1 : Builtin.bitOr (q1 * 2 ^ h.toNat) q2 = a.fdiv b
  e2 : r2 = a.fmod b

theorem fm_le {q p r a : Int} (e : q * p + r = a) (h : 0 ≤ r) : q * p ≤ a := e ▸ Int.le_add_of_nonneg_right h
theorem top_pos {b1 P b2 b : Int} (e : b1 * P + b2 = b) (h2 : b2 < P) (hb : P ≤ b) (hP : 0 < P) : 0 < b1 := by
  rcases Int.lt_or_le 0 b1 with h9 | h9
  · exact h9
  · have : b1 * P ≤ 0 := Int.mul_nonpos_of_nonpos_of_nonneg h9 (Int.le_of_lt hP)
    (first | lia | omega)
theorem nh {n h : Int} (he : n = 2 * h) (hh : 0 ≤ h) (hn : n ≤ 8000) : n.toNat = h.toNat + h.toNat ∧ 0 ≤ n ∧ h ≤ 4000 ∧ (1 : Int) + h ≤ 2 ^ 27 := by (first | lia | omega)
theorem bits_less {i : Nat} {n h : Int} (hi : i ≤ n.toNat) (he : n = 2 * h) (hh : 0 ≤ h) (hn : n ≤ 8000) : (i : Int) - h ≤ 4000 := by (first | lia | omega)
theorem bits_more {i : Nat} {n h : Int} (hi : i ≤ n.toNat + n.toNat) (he : n = 2 * h) (hh : 0 ≤ h) (hn : n ≤ 8000) : (i : Int) + h ≤ 2 ^ 27 := by (first | lia | omega)
theorem bigF_of {a b n h a12 a3 b1 b2 q1 r1 a0 q2 r2 : Int} (h0 : 0 ≤ a) (hlt : a < b * 2 ^ n.toNat) (hb1 : 2 ^ h.toNat ≤ b) (hb2 : b < 2 ^ n.toNat) (he : n = 2 * h) (hh : 0 ≤ h) (hn : n ≤ 8000)
    (d12 : a12 = a.fdiv (2 ^ n.toNat)) (d3 : a3 = Builtin.bitAnd (a.fdiv (2 ^ h.toNat)) (1 * 2 ^ h.toNat - 1)) (db1 : b1 = b.fdiv (2 ^ h.toNat)) (db2 : b2 = Builtin.bitAnd b (1 * 2 ^ h.toNat - 1))
    (dq1 : q1 = (a12 * 2 ^ h.toNat + a3).fdiv b) (dr1 : r1 = (a12 * 2 ^ h.toNat + a3).fmod b) (da0 : a0 = Builtin.bitAnd a (1 * 2 ^ h.toNat - 1))
    (dq2 : q2 = (r1 * 2 ^ h.toNat + a0).fdiv b) (dr2 : r2 = (r1 * 2 ^ h.toNat + a0).fmod b) : BigF a b n h a12 a3 b1 b2 q1 r1 a0 q2 r2 := by
  have hP := kbt_pos h.toNat
  obtain ⟨hnn, hn0, hh4, h27⟩ := nh he hh hn
  have hPP : (2 : Int) ^ n.toNat = 2 ^ h.toNat * 2 ^ h.toNat := by rw [hnn, Int.pow_add]
  have hb0 : 0 < b := Int.lt_of_lt_of_le hP hb1
  have hbn : intBits b ≤ n.toNat := bits_lt (Int.le_of_lt hb0) hb2
  have hab : intBits a ≤ n.toNat + n.toNat := by
    refine bits_lt h0 (Int.lt_trans hlt ?_)
    rw [Int.pow_add]
    exact Int.mul_lt_mul_of_pos_right hb2 (kbt_pos _)
  rw [mask_fmod] at d3 db2 da0
  have kA := fdivmod_pos (a := a) hP
  have kB := fdivmod_pos (a := b) hP
  have kA1 := fdivmod_pos (a := a.fdiv (2 ^ h.toNat)) hP
  have hA1 : 0 ≤ a.fdiv (2 ^ h.toNat) := Int.fdiv_nonneg h0 (Int.le_of_lt hP)
  have hA2 : 0 ≤ (a.fdiv (2 ^ h.toNat)).fdiv (2 ^ h.toNat) := Int.fdiv_nonneg hA1 (Int.le_of_lt hP)
  have hbA : intBits (a.fdiv (2 ^ h.toNat)) ≤ n.toNat + n.toNat := intBits_fdiv_le hab
  rw [hPP, ← fdiv_fdiv_pos hP hP] at d12
  rw [← d12] at hA2
  have eA1 : a12 * 2 ^ h.toNat + a3 = a.fdiv (2 ^ h.toNat) := by rw [d12, d3]; exact kA1.1
  rw [eA1] at dq1 dr1
  have kQ := fdivmod_pos (a := a.fdiv (2 ^ h.toNat)) hb0
  rw [← dq1, ← dr1] at kQ
  have kQ2 := fdivmod_pos (a := r1 * 2 ^ h.toNat + a0) hb0
  rw [← dq2, ← dr2] at kQ2
  rw [← d3] at kA1
  rw [← da0] at kA
  rw [← db1, ← db2] at kB
  have l1 : a.fdiv (2 ^ h.toNat) < b * 2 ^ h.toNat := by
    refine Int.lt_of_mul_lt_mul_right (a := 2 ^ h.toNat) ?_ (Int.le_of_lt hP)
    rw [hPP, ← Int.mul_assoc] at hlt
    exact Int.lt_of_le_of_lt (fm_le kA.1 kA.2.1) hlt
  have l2 : a12 < b := Int.lt_of_mul_lt_mul_right (a := 2 ^ h.toNat) (Int.lt_of_le_of_lt (fm_le eA1 kA1.2.1) l1) (Int.le_of_lt hP)
  have l3 : r1 * 2 ^ h.toNat + a0 < b * 2 ^ h.toNat := by
    have hz : (r1 + 1) * 2 ^ h.toNat ≤ b * 2 ^ h.toNat := Int.mul_le_mul_of_nonneg_right kQ.2.2 (Int.le_of_lt hP)
    rw [Int.add_mul, Int.one_mul] at hz
    exact Int.lt_of_lt_of_le (Int.add_lt_add_left kA.2.2 _) hz
  have l5 : 0 ≤ r1 * 2 ^ h.toNat + a0 := Int.add_nonneg (Int.mul_nonneg kQ.2.1 (Int.le_of_lt hP)) kA.2.1
  have l6 : 0 ≤ q2 := by rw [dq2]; exact Int.fdiv_nonneg l5 (Int.le_of_lt hb0)
  have l7 : q2 < 2 ^ h.toNat := by
    refine Int.lt_of_mul_lt_mul_right (a := b) ?_ (Int.le_of_lt hb0)
    rw [Int.mul_comm (2 ^ h.toNat) b]
    exact Int.lt_of_le_of_lt (fm_le kQ2.1 kQ2.2.1) l3
  have l8 : 0 ≤ q1 := by rw [dq1]; exact Int.fdiv_nonneg hA1 (Int.le_of_lt hb0)
  have bq : intBits q1 ≤ n.toNat + n.toNat := by rw [dq1]; exact intBits_fdiv_le hbA
  have b12 : intBits a12 ≤ n.toNat := bits_lt hA2 (Int.lt_trans l2 hb2)
  have br1 : intBits r1 ≤ n.toNat := bits_lt kQ.2.1 (Int.lt_trans kQ.2.2 hb2)
  have bb1 : intBits b1 ≤ n.toNat := by rw [db1]; exact intBits_fdiv_le hbn
  have fin := fdivmod_of kQ2.2.1 kQ2.2.2 (ring3 kQ.1 kQ2.1)
  rw [kA.1] at fin
  refine ⟨hh, by rw [bits_one]; exact h27, hn0, hA2, kA1.2.1, kA1.2.2, top_pos kB.1 kB.2.2 hb1 hP, kB.2.1, kB.2.2, kB.1.symm, by rw [eA1]; exact l1, hh4, bits_less b12 he hh hn, Nat.le_trans bb1 (Nat.le_trans (Int.toNat_le_toNat hn) (by decide)), kQ.2.1, kA.2.1, kA.2.2, l3, bits_less br1 he hh hn, bits_more bq he hh hn, ?_, fin.2.symm⟩
  rw [bitOr_high l8 l6 l7]
  exact fin.1.symm
theorem one_pow : (2 : Int) ^ (1 : Int).toNat = 2 := by decide
theorem half_even {n : Int} (h : Builtin.bitAnd n 1 = 0) : n = 2 * n.fdiv (2 ^ (1 : Int).toNat) := by
  rw [bitAnd_m1] at h
  rw [one_pow, Int.fdiv_eq_ediv_of_nonneg _ (by decide)]
  (first | lia | omega)
theorem half_odd {n : Int} (h : ¬ Builtin.bitAnd n 1 = 0) : n + 1 = 2 * (n + 1).fdiv (2 ^ (1 : Int).toNat) := by
  rw [bitAnd_m1] at h
  rw [one_pow, Int.fdiv_eq_ediv_of_nonneg _ (by decide)]
  (first | lia | omega)
theorem pow_succ_toNat {n : Int} (h : 0 ≤ n) : (2 : Int) ^ (n + 1).toNat = 2 * 2 ^ n.toNat := by
  rw [show (n + 1).toNat = n.toNat + 1 by (first | lia | omega), Int.pow_succ, Int.mul_comm]
theorem pow_le_pow {i j : Nat} (h : i ≤ j) : (2 : Int) ^ i ≤ 2 ^ j := by
  rw [← cast_pow, ← cast_pow]
  exact Int.ofNat_le.mpr (Nat.pow_le_pow_right (by decide) h)
theorem big_even {b n : Int} (hb1 : 2 ^ (n.toNat - 1) ≤ b) (hn1 : 1 ≤ n) (hn2 : n ≤ 7999) (hev : Builtin.bitAnd n 1 = 0) :
    2 ^ (n.fdiv (2 ^ (1 : Int).toNat)).toNat ≤ b ∧ 0 ≤ n.fdiv (2 ^ (1 : Int).toNat) ∧ n ≤ 8000 := by
  have e := half_even hev
  exact ⟨Int.le_trans (pow_le_pow (by (first | lia | omega))) hb1, by (first | lia | omega), by (first | lia | omega)⟩
theorem big_odd {a b n : Int} (h0 : 0 ≤ a) (hlt : a < b * 2 ^ n.toNat) (hb1 : 2 ^ (n.toNat - 1) ≤ b) (hb2 : b < 2 ^ n.toNat) (hn1 : 1 ≤ n) (hn2 : n ≤ 7999) (hev : ¬ Builtin.bitAnd n 1 = 0) :
    0 ≤ a * 2 ^ (1 : Int).toNat ∧ a * 2 ^ (1 : Int).toNat < b * 2 ^ (1 : Int).toNat * 2 ^ (n + 1).toNat ∧ 2 ^ ((n + 1).fdiv (2 ^ (1 : Int).toNat)).toNat ≤ b * 2 ^ (1 : Int).toNat ∧ b * 2 ^ (1 : Int).toNat < 2 ^ (n + 1).toNat ∧
      0 ≤ (n + 1).fdiv (2 ^ (1 : Int).toNat) ∧ n + 1 ≤ 8000 := by
  have e := half_odd hev
  have h1 := pow_le_pow (i := ((n + 1).fdiv (2 ^ (1 : Int).toNat)).toNat) (j := n.toNat - 1 + 1) (by (first | lia | omega))
  rw [Int.pow_succ] at h1
  have e2 : b * 2 * (2 * 2 ^ n.toNat) = 2 * (2 * (b * 2 ^ n.toNat)) := by grind
  have : 0 < b * 2 ^ n.toNat := by (first | lia | omega)
  refine ⟨?_, ?_, ?_, ?_, by (first | lia | omega), by (first | lia | omega)⟩
  · rw [one_pow]; (first | lia | omega)
  · rw [one_pow, pow_succ_toNat (by (first | lia | omega)), e2]; (first | lia | omega)
  · refine Int.le_trans h1 ?_
    rw [one_pow]; (first | lia | omega)
  · rw [one_pow, pow_succ_toNat (by (first | lia | omega))]; (first | lia | omega)
theorem twice {a b : Int} (hb : 0 < b) : (a * 2 ^ (1 : Int).toNat).fdiv (b * 2 ^ (1 : Int).toNat) = a.fdiv b ∧ ((a * 2 ^ (1 : Int).toNat).fmod (b * 2 ^ (1 : Int).toNat)).fdiv (2 ^ (1 : Int).toNat) = a.fmod b := by
  have k := fdivmod_pos (a := a) hb
  rw [one_pow]
  have e := fdivmod_of (a := a * 2) (b := b * 2) (q := a.fdiv b) (r := a.fmod b * 2) (by (first | lia | omega)) (by (first | lia | omega)) (by
    have : a.fdiv b * (b * 2) + a.fmod b * 2 = (a.fdiv b * b + a.fmod b) * 2 := by grind
    rw [this, k.1])
  refine ⟨e.1, ?_⟩
  rw [e.2, Int.fdiv_eq_ediv_of_nonneg _ (by decide)]
  (first | lia | omega)
theorem sh_one {a b n : Int} (h0 : 0 ≤ a) (hlt : a < b * 2 ^ n.toNat) (hb1 : 2 ^ (n.toNat - 1) ≤ b) (hb2 : b < 2 ^ n.toNat) (hn1 : 1 ≤ n) (hn2 : n ≤ 7999) : (intBits a : Int) + 1 ≤ 2 ^ 27 ∧ (intBits b : Int) + 1 ≤ 2 ^ 27 ∧ 0 < b := by
  have hp := kbt_pos (n.toNat - 1)
  have hbn : intBits b ≤ n.toNat := bits_lt (by (first | lia | omega)) hb2
  have hab : intBits a ≤ n.toNat + n.toNat := by
    refine bits_lt h0 (Int.lt_trans hlt ?_)
    rw [Int.pow_add]
    exact Int.mul_lt_mul_of_pos_right hb2 (kbt_pos _)
  exact ⟨by (first | lia | omega), by (first | lia | omega), by (first | lia | omega)⟩
end Mine
end
theorem Mine.offBig : True := by
  w_top off
  trivial
section
open PySem PySem.W PyProof.Rows
namespace Mine
open PySem.Builtin.Int (intBits)
theorem reg : PySem.Challenge.rw_ph0105_01.prog = PySem.Challenge.rw_ph0105_01.prog ∧ Mine.hd.heap_1 = Mine.hd.heap_1 := by
  k_fill
  exact ⟨rfl, rfl⟩
local macro_rules | `(tactic| walk_at "call builtin:divmod") => `(tactic| (refine' divmod_line ?k1 ?k2 ?k3 ?k4 ?_; (case k1 => k_asm); (case k2 => k_asm); (case k3 => assumption); (case k4 => assumption); k_whole; intro x' t1' t2' h' tk' F' N' l1; (try k_lt l1); (try k_sweep)))
set_option maxRecDepth 100000 in
set_option maxHeartbeats 8000000 in
theorem d21_small {w : World} {av bv nv : Int} {ta tb tn : Tok} {news : Led}
   (hb : bv ≠ 0) (hsm : (intBits av : Int) - nv ≤ 4000) (hpy : Builtin.divisionGoesByPylong av bv = false) :
   Ct w 21 [.int av ta, .int bv tb, .int nv tn] news 1 (Pair news (Int.fdiv av bv) (Int.fmod av bv)) := by
  intro p loose mean mg mb dp un gd cn cs a ccd cl outer A₀ base h₀ L m s Q E B F X N T hk hd hu ret
  refine wpAny_call ?_
  k_dflt cell_enter
  k_steps
  exact ret _ _ _ _ ⟨_, _, _, rfl, rfl, by assumption⟩ (by k_asm) (by k_asm)
end Mine
end
theorem Mine.offC21 : True := by
  w_top off
  trivial
section
open PySem PySem.W PyProof.Rows
namespace Mine
open PySem.Builtin.Int (intBits)

noncomputable def dig (n : Nat) (x : Int) (j : Nat) : Int := (x.fdiv (2 ^ (n * j))).fmod (2 ^ n)
noncomputable def wr (n : Nat) (x : Int) (l r : Nat) (ns : List Int) : List Int := (List.range ns.length).map fun i => if l ≤ i ∧ i < r then dig n x (i - l) else ns.getD i 0

theorem wr_length {n : Nat} {x : Int} {l r : Nat} {ns : List Int} : (wr n x l r ns).length = ns.length := by simp [wr]
theorem wr_getD {n : Nat} {x : Int} {l r : Nat} {ns : List Int} {i : Nat} (hi : i < ns.length) : (wr n x l r ns).getD i 0 = if l ≤ i ∧ i < r then dig n x (i - l) else ns.getD i 0 := by
  rw [List.getD_eq_getElem?_getD, wr, List.getElem?_map, List.getElem?_range hi]
  rfl
theorem list_ext_getD {xs ys : List Int} (hl : xs.length = ys.length) (h : ∀ i, i < xs.length → xs.getD i 0 = ys.getD i 0) : xs = ys := by
  apply List.ext_getElem hl
  intro i h1 h2
  have := h i h1
  rw [List.getD_eq_getElem?_getD, List.getD_eq_getElem?_getD, List.getElem?_eq_getElem h1, List.getElem?_eq_getElem h2] at this
  exact this
theorem fd {a b : Int} (hb : 0 ≤ b) : a.fdiv b = a / b := Int.fdiv_eq_ediv_of_nonneg a hb
theorem fm {a b : Int} (hb : 0 ≤ b) : a.fmod b = a % b := Int.fmod_eq_emod_of_nonneg a hb
theorem pn (k : Nat) : (0 : Int) ≤ 2 ^ k := Int.le_of_lt (kbt_pos k)
theorem dig_base {n : Nat} {x : Int} (h0 : 0 ≤ x) (h : x < 2 ^ n) : dig n x 0 = x := by
  unfold dig
  rw [Nat.mul_zero, Int.pow_zero, Int.fdiv_one, fm (pn n)]
  exact Int.emod_eq_of_lt h0 h
theorem wr_base {n : Nat} {x : Int} {l : Nat} {ns : List Int} (h0 : 0 ≤ x) (h : x < 2 ^ n) (_hl : l < ns.length) : ns.set l x = wr n x l (l + 1) ns := by
  refine list_ext_getD (by simp [wr]) fun i hi => ?_
  rw [List.length_set] at hi
  rw [wr_getD hi]
  by_cases e : l = i
  · subst e
    rw [if_pos ⟨Nat.le_refl _, Nat.lt_succ_self _⟩, Nat.sub_self, dig_base h0 h]
    simp [List.getD_eq_getElem?_getD, hi]
  · rw [if_neg (by (first | lia | omega))]
    simp [List.getD_eq_getElem?_getD, List.getElem?_set_ne e]
theorem dig_high {n a j : Nat} {x : Int} : dig n (x.fdiv (2 ^ (n * a))) j = dig n x (a + j) := by
  unfold dig
  rw [fdiv_fdiv_pos (kbt_pos _) (kbt_pos _), ← Int.pow_add, Nat.mul_add]
theorem dig_low {n a j : Nat} {x : Int} (h : j < a) : dig n (x.fmod (2 ^ (n * a))) j = dig n x j := by
  unfold dig
  obtain ⟨d, rfl⟩ : ∃ d, a = j + (d + 1) := ⟨a - j - 1, by (first | lia | omega)⟩
  rw [fm (pn _), fm (pn _), fm (pn _), fd (pn _), fd (pn _)]
  have e : (2 : Int) ^ (n * (j + (d + 1))) = 2 ^ (n * j) * (2 ^ n * 2 ^ (n * d)) := by
    rw [← Int.pow_add, ← Int.pow_add]
    congr 1
    rw [Nat.mul_add, Nat.mul_add]; (first | lia | omega)
  have hx := Int.mul_ediv_add_emod x (2 ^ (n * (j + (d + 1))))
  generalize hq : x / 2 ^ (n * (j + (d + 1))) = q at hx
  generalize hr : x % 2 ^ (n * (j + (d + 1))) = r at hx
  rw [e] at hx
  rw [← hx]
  have e2 : 2 ^ (n * j) * (2 ^ n * 2 ^ (n * d)) * q + r = r + 2 ^ (n * j) * (2 ^ n * (2 ^ (n * d) * q)) := by grind
  rw [e2, Int.add_mul_ediv_left _ _ (Int.ne_of_gt (kbt_pos _)), Int.add_mul_emod_self_left]
theorem wr_split {n l m r : Nat} {x : Int} {ns : List Int} (h1 : l ≤ m) (h2 : m ≤ r) :
    wr n (x.fdiv (2 ^ (n * (m - l)))) m r (wr n (x.fmod (2 ^ (n * (m - l)))) l m ns) = wr n x l r ns := by
  refine list_ext_getD (by simp [wr]) fun i hi => ?_
  rw [wr_length, wr_length] at hi
  rw [wr_getD (by rw [wr_length]; exact hi), wr_getD hi, wr_getD hi]
  by_cases c1 : m ≤ i ∧ i < r
  · rw [if_pos c1, if_pos (by (first | lia | omega)), dig_high]
    congr 1; (first | lia | omega)
  · rw [if_neg c1]
    by_cases c2 : l ≤ i ∧ i < m
    · rw [if_pos c2, if_pos (by (first | lia | omega)), dig_low (by (first | lia | omega))]
    · rw [if_neg c2, if_neg (by (first | lia | omega))]

noncomputable def digs (n : Nat) (x : Int) (k : Nat) : List Int := (List.range k).map (dig n x)
theorem wr_all {n k : Nat} {x : Int} : wr n x 0 k (List.replicate k 0) = digs n x k := by
  unfold wr digs
  rw [List.length_replicate]
  refine List.map_congr_left fun i hi => ?_
  rw [List.mem_range] at hi
  rw [if_pos (by (first | lia | omega)), Nat.sub_zero]

/-- the number of a list of digits, the lowest first -/
noncomputable def val (n : Nat) : List Int → Int
  | [] => 0
  | d :: r => d + val n r * 2 ^ n
theorem val_append {n : Nat} : ∀ {xs ys : List Int}, val n (xs ++ ys) = val n xs + val n ys * 2 ^ (n * xs.length)
  | [], ys => by simp [val]
  | d :: r, ys => by
    show d + val n (r ++ ys) * 2 ^ n = d + val n r * 2 ^ n + val n ys * 2 ^ (n * (r.length + 1))
    rw [val_append, Nat.mul_add, Int.pow_add, Nat.mul_one]
    grind
theorem val_one {n : Nat} {d : Int} : val n [d] = d := by simp [val]
theorem digs_succ {n : Nat} {x : Int} {k : Nat} : digs n x (k + 1) = dig n x 0 :: digs n (x.fdiv (2 ^ n)) k := by
  unfold digs
  rw [List.range_succ_eq_map, List.map_cons, List.map_map]
  congr 1
  refine List.map_congr_left fun j _ => ?_
  show dig n x (j + 1) = dig n (x.fdiv (2 ^ n)) j
  have := dig_high (n := n) (a := 1) (j := j) (x := x)
  rw [Nat.mul_one] at this
  rw [this, Nat.add_comm]
theorem val_digs {n : Nat} : ∀ {k : Nat} {x : Int}, 0 ≤ x → x < 2 ^ (n * k) → val n (digs n x k) = x
  | 0, x, h0, h => by
    rw [Nat.mul_zero, Int.pow_zero] at h
    show (0 : Int) = x
    (first | lia | omega)
  | k + 1, x, h0, h => by
    have hw := fdivmod_pos (a := x) (kbt_pos n)
    have hq : 0 ≤ x.fdiv (2 ^ n) := Int.fdiv_nonneg h0 (pn n)
    have hlt : x.fdiv (2 ^ n) < 2 ^ (n * k) := by
      refine Int.lt_of_mul_lt_mul_right (a := 2 ^ n) ?_ (pn n)
      rw [← Int.pow_add, ← Nat.mul_succ]
      show x.fdiv (2 ^ n) * 2 ^ n < 2 ^ (n * (k + 1))
      (first | lia | omega)
    rw [digs_succ]
    show dig n x 0 + val n (digs n (x.fdiv (2 ^ n)) k) * 2 ^ n = x
    rw [val_digs hq hlt]
    unfold dig
    rw [Nat.mul_zero, Int.pow_zero, Int.fdiv_one]
    (first | lia | omega)
theorem dig_range {n : Nat} {x : Int} {j : Nat} : 0 ≤ dig n x j ∧ dig n x j < 2 ^ n := kbt_rest _ _
theorem digs_range {n : Nat} {x : Int} {k : Nat} : ∀ d ∈ digs n x k, 0 ≤ d ∧ d < 2 ^ n := fun d hd => by
  obtain ⟨j, _, rfl⟩ := List.mem_map.mp hd
  exact dig_range

/-- the number of digits -/
noncomputable def ndig (a n : Int) : Int := ((intBits a : Int) + n - 1).fdiv n
theorem ndig_spec {a n : Int} (h0 : 0 ≤ a) (hn : 1 ≤ n) (hb : intBits a ≤ 20000) : 0 ≤ ndig a n ∧ ndig a n ≤ 20000 ∧ a < 2 ^ (n.toNat * (ndig a n).toNat) ∧ (a ≠ 0 → 1 ≤ ndig a n) ∧ (a = 0 → ndig a n = 0) := by
  unfold ndig
  rw [fd (by (first | lia | omega))]
  have e1 := Int.mul_ediv_add_emod ((intBits a : Int) + n - 1) n
  have e2 := Int.emod_nonneg ((intBits a : Int) + n - 1) (b := n) (by (first | lia | omega))
  have e3 := Int.emod_lt_of_pos ((intBits a : Int) + n - 1) (b := n) (by (first | lia | omega))
  generalize hk : ((intBits a : Int) + n - 1) / n = k at *
  have k0 : 0 ≤ k := by rw [← hk]; exact Int.ediv_nonneg (by (first | lia | omega)) (by (first | lia | omega))
  have hbk : (intBits a : Int) ≤ n * k := by (first | lia | omega)
  have k1 : k ≤ 20000 := by
    rcases Int.lt_or_le 20000 k with h | h
    · have : n * 20001 ≤ n * k := Int.mul_le_mul_of_nonneg_left (by (first | lia | omega)) (by (first | lia | omega))
      have : n * 20001 = n + n * 20000 := by grind
      have : 1 * 20000 ≤ n * 20000 := Int.mul_le_mul_of_nonneg_right hn (by (first | lia | omega))
      (first | lia | omega)
    · exact h
  have hz : intBits (0 : Int) = 0 := by decide +kernel
  refine ⟨k0, k1, ?_, ?_, ?_⟩
  · refine lt_bits ?_
    have : ((n.toNat * k.toNat : Nat) : Int) = n * k := by
      rw [Int.natCast_mul, Int.toNat_of_nonneg (by (first | lia | omega)), Int.toNat_of_nonneg k0]
    (first | lia | omega)
  · intro ha
    have hp : 0 < intBits a := by
      unfold Builtin.Int.intBits
      rw [if_neg (by simpa using ha)]; (first | lia | omega)
    rcases Int.lt_or_le 0 k with h | h
    · (first | lia | omega)
    · have : k = 0 := by (first | lia | omega)
      subst this
      rw [Int.mul_zero] at hbk
      (first | lia | omega)
  · rintro rfl
    rw [hz] at e1
    rcases Int.lt_or_le 0 k with h | h
    · have : n * 1 ≤ n * k := Int.mul_le_mul_of_nonneg_left (by (first | lia | omega)) (by (first | lia | omega))
      rw [hz] at *
      (first | lia | omega)
    · (first | lia | omega)
end Mine
namespace Mine
open PySem.Builtin.Int (intBits)
/-- the middle of two places -/
noncomputable abbrev midp (l r : Int) : Int := (l + r).fdiv (2 ^ (1 : Int).toNat)
structure InnF (k : Nat) (x l r n len : Int) (M sh lo up : Int) : Prop where
  m1 : 0 ≤ M
  m2 : l < M
  m3 : M < r
  m4 : M ≤ len
  d1 : M - l ≤ 2 ^ k
  d2 : r - M ≤ 2 ^ k
  s1 : IntMulOk (M - l) n
  s2 : 0 ≤ sh
  s3 : (intBits up : Int) + sh ≤ 2 ^ 27
  l1 : 0 ≤ lo
  l2 : lo < 2 ^ (n.toNat * (M - l).toNat)
  l3 : intBits lo ≤ 20000
  u1 : 0 ≤ up
  u2 : up < 2 ^ (n.toNat * (r - M).toNat)
  u3 : intBits up ≤ 20000
  e1 : lo = x.fmod (2 ^ (n.toNat * (M.toNat - l.toNat)))
  e2 : up = x.fdiv (2 ^ (n.toNat * (M.toNat - l.toNat)))
theorem toNat_mul {a b : Int} (ha : 0 ≤ a) (hb : 0 ≤ b) : (a * b).toNat = a.toNat * b.toNat := by
  have h : ((a.toNat * b.toNat : Nat) : Int) = a * b := by rw [Int.natCast_mul, Int.toNat_of_nonneg ha, Int.toNat_of_nonneg hb]
  (first | lia | omega)
theorem midp_of {l r P : Int} (hlr : l < r) (hne : ¬ l + 1 = r) (hd : r - l ≤ P * 2) : (l < midp l r ∧ midp l r < r) ∧ midp l r - l ≤ P ∧ r - midp l r ≤ P := by
  have em : midp l r = (l + r) / 2 := by unfold midp; rw [one_pow, fd (by decide)]
  rw [em]; (first | lia | omega)
theorem small64 {x : Int} (h0 : 0 ≤ x) (h : x ≤ 20000) : intBits x ≤ 64 := intBits_le_64 (by (first | lia | omega)) (by (first | lia | omega))
theorem len_n {d n len : Int} (hn : 1 ≤ n) (hd : d ≤ len) (hln : len * n ≤ 40000) : d * n ≤ 40000 := Int.le_trans (Int.mul_le_mul_of_nonneg_right hd (Int.le_trans (by decide) hn)) hln
structure InnC (k : Nat) (l r n len M : Int) : Prop where
  n0 : 0 ≤ n
  m1 : 0 ≤ M
  m2 : l < M
  m3 : M < r
  m4 : M ≤ len
  d1 : M - l ≤ 2 ^ k
  d2 : r - M ≤ 2 ^ k
  s0 : 0 ≤ M - l
  s1 : IntMulOk (M - l) n
  s2 : 0 ≤ (M - l) * n
  sb : (M - l) * n ≤ 40000
  hs : ((M - l) * n).toNat = n.toNat * (M.toNat - l.toNat)
  hMl : (M - l).toNat = M.toNat - l.toNat
  hsum : (r - M).toNat + (M.toNat - l.toNat) = (r - l).toNat
  lm : l.toNat ≤ M.toNat
  mr : M.toNat ≤ r.toNat
theorem innC_of {k : Nat} {l r n len : Int} (hn : 1 ≤ n) (hn2 : n ≤ 20000) (hd : r - l ≤ 2 ^ (k + 1)) (hl : 0 ≤ l) (hlr : l < r) (hne : ¬ l + 1 = r) (hr : r ≤ len) (hlen : len ≤ 20000) (hln : len * n ≤ 40000) : InnC k l r n len (midp l r) := by
  rw [Int.pow_succ] at hd
  obtain ⟨hm, hd1⟩ := midp_of hlr hne hd
  clear hd hne hlr
  generalize midp l r = M at *
  have n0 : 0 ≤ n := Int.le_trans (by decide) hn
  have h0 : 0 ≤ M - l := Int.sub_nonneg_of_le (Int.le_of_lt hm.1)
  have hM : 0 ≤ M := Int.le_trans hl (Int.le_of_lt hm.1)
  have hML : M ≤ len := Int.le_trans (Int.le_of_lt hm.2) hr
  have hb : M - l ≤ len := Int.le_trans (Int.sub_le_self _ hl) hML
  have hMl : (M - l).toNat = M.toNat - l.toNat := by clear hd1 hr hlen hln hb; (first | lia | omega)
  have lm : l.toNat ≤ M.toNat := Int.toNat_le_toNat (Int.le_of_lt hm.1)
  have mr : M.toNat ≤ r.toNat := Int.toNat_le_toNat (Int.le_of_lt hm.2)
  refine ⟨n0, hM, hm.1, hm.2, hML, hd1.1, hd1.2, h0, IntMulOk.of_le (small64 h0 (Int.le_trans hb hlen)) (small64 n0 hn2) (by decide), Int.mul_nonneg h0 n0, len_n hn hb hln, ?_, hMl, ?_, lm, mr⟩
  · rw [toNat_mul h0 n0, Nat.mul_comm, hMl]
  · clear hd1 hr hlen hln hb; (first | lia | omega)
theorem innF_of {k : Nat} {x l r n len : Int} (hn : 1 ≤ n) (hn2 : n ≤ 20000) (hd : r - l ≤ 2 ^ (k + 1)) (hl : 0 ≤ l) (hlr : l < r) (hne : ¬ l + 1 = r) (hr : r ≤ len) (hlen : len ≤ 20000) (hln : len * n ≤ 40000) (hx0 : 0 ≤ x) (hx : x < 2 ^ (n.toNat * (r - l).toNat)) (hxb : intBits x ≤ 20000) :
    InnF k x l r n len (midp l r) ((midp l r - l) * n) (Builtin.bitXor x (x.fdiv (2 ^ ((midp l r - l) * n).toNat) * 2 ^ ((midp l r - l) * n).toNat)) (x.fdiv (2 ^ ((midp l r - l) * n).toNat)) := by
  have C := innC_of hn hn2 hd hl hlr hne hr hlen hln
  clear hn hn2 hd hl hlr hne hr hlen hln
  generalize midp l r = M at *
  obtain ⟨n0, m1, m2, m3, m4, d1, d2, s0, s1, s2, sb, hs, hMl, hsum, lm, mr⟩ := C
  have hq : 0 ≤ x.fdiv (2 ^ ((M - l) * n).toNat) := Int.fdiv_nonneg hx0 (pn _)
  have hw := fdivmod_pos (a := x) (kbt_pos ((M - l) * n).toNat)
  have hbu : intBits (x.fdiv (2 ^ ((M - l) * n).toNat)) ≤ 20000 := intBits_fdiv_le hxb
  have hlo : x.fmod (2 ^ ((M - l) * n).toNat) ≤ x := by
    have := Int.mul_nonneg hq (pn ((M - l) * n).toNat)
    have e := hw.1
    clear hw hxb hx hbu hsum hMl hs sb s2 s1 s0 d1 d2 m1 m2 m3 m4 n0 lm mr hq hx0
    (first | lia | omega)
  refine ⟨m1, m2, m3, m4, d1, d2, s1, s2, ?_, ?_, ?_, ?_, hq, ?_, hbu, ?_, ?_⟩
  · clear hw hxb hx hsum hMl hs s2 s1 s0 d1 d2 m1 m2 m3 m4 n0 lm mr hq hx0 hlo; (first | lia | omega)
  · rw [bitXor_low hx0]; exact hw.2.1
  · rw [bitXor_low hx0, hMl, ← hs]; exact hw.2.2
  · rw [bitXor_low hx0]
    refine intBits_le_of_natAbs ?_ hxb
    have h1 := hw.2.1
    clear hw hxb hx hbu hsum hMl hs s2 s1 s0 d1 d2 m1 m2 m3 m4 n0 lm mr hq sb; (first | lia | omega)
  · refine Int.lt_of_mul_lt_mul_right (a := 2 ^ ((M - l) * n).toNat) ?_ (pn _)
    rw [hs, ← Int.pow_add, ← Nat.mul_add, hsum, ← hs]
    have h1 := hw.2.1
    have h2 := hw.1
    clear hw hxb hbu hsum hMl hs s2 s1 s0 d1 d2 m1 m2 m3 m4 n0 lm mr hq sb hlo; (first | lia | omega)
  · rw [bitXor_low hx0, hs]
  · rw [hs]
theorem ndig_mul {a n : Int} (hn : 1 ≤ n) (hn2 : n ≤ 20000) (hb : intBits a ≤ 20000) : ndig a n * n ≤ 40000 := by
  unfold ndig
  rw [fd (by (first | lia | omega))]
  have e1 := Int.mul_ediv_add_emod ((intBits a : Int) + n - 1) n
  have e2 := Int.emod_nonneg ((intBits a : Int) + n - 1) (b := n) (by (first | lia | omega))
  rw [Int.mul_comm]
  (first | lia | omega)
end Mine
namespace Mine
open PySem.Builtin.Int (intBits)
noncomputable def sl (ds : List Int) (l r : Nat) : List Int := (ds.drop l).take (r - l)
theorem sl_length {ds : List Int} {l r : Nat} (h1 : l ≤ r) (h2 : r ≤ ds.length) : (sl ds l r).length = r - l := by
  unfold sl
  rw [List.length_take, List.length_drop]; (first | lia | omega)
theorem sl_split {ds : List Int} {l m r : Nat} (h1 : l ≤ m) (h2 : m ≤ r) : sl ds l r = sl ds l m ++ sl ds m r := by
  unfold sl
  obtain ⟨i, rfl⟩ : ∃ i, m = l + i := ⟨m - l, by (first | lia | omega)⟩
  obtain ⟨j, rfl⟩ : ∃ j, r = l + i + j := ⟨r - (l + i), by (first | lia | omega)⟩
  rw [show l + i + j - l = i + j by (first | lia | omega), show l + i - l = i by (first | lia | omega), show l + i + j - (l + i) = j by (first | lia | omega), List.take_add, List.drop_drop]
theorem sl_one {ds : List Int} {l : Nat} (h : l < ds.length) : sl ds l (l + 1) = [ds.getD l 0] := by
  unfold sl
  rw [show l + 1 - l = 1 by (first | lia | omega), List.drop_eq_getElem_cons h, List.take_succ_cons, List.take_zero, List.getD_eq_getElem?_getD, List.getElem?_eq_getElem h]
  rfl
theorem sl_all {ds : List Int} : sl ds 0 ds.length = ds := by simp [sl]
theorem val_split {n : Nat} {ds : List Int} {l m r : Nat} (h1 : l ≤ m) (h2 : m ≤ r) (h3 : r ≤ ds.length) : val n (sl ds l r) = val n (sl ds m r) * 2 ^ (n * (m - l)) + val n (sl ds l m) := by
  rw [sl_split h1 h2, val_append, sl_length h1 (by (first | lia | omega))]
  (first | lia | omega)
theorem val_range {n : Nat} : ∀ {ds : List Int}, (∀ d ∈ ds, 0 ≤ d ∧ d < 2 ^ n) → 0 ≤ val n ds ∧ val n ds < 2 ^ (n * ds.length)
  | [], _ => by simp [val]
  | d :: r, h => by
    have h1 := h d (.head _)
    have ih := val_range (ds := r) fun x hx => h x (.tail _ hx)
    have e : (2 : Int) ^ (n * (d :: r).length) = 2 ^ (n * r.length) * 2 ^ n := by rw [List.length_cons, Nat.mul_succ, Int.pow_add]
    have hp := kbt_pos n
    have h2 : (val n r + 1) * 2 ^ n ≤ 2 ^ (n * r.length) * 2 ^ n := Int.mul_le_mul_of_nonneg_right (by (first | lia | omega)) (Int.le_of_lt hp)
    rw [Int.add_mul, Int.one_mul] at h2
    have h3 : 0 ≤ val n r * 2 ^ n := Int.mul_nonneg ih.1 (Int.le_of_lt hp)
    rw [e]
    show 0 ≤ d + val n r * 2 ^ n ∧ d + val n r * 2 ^ n < _
    (first | lia | omega)
theorem sl_mem {ds : List Int} {l r : Nat} {d : Int} (h : d ∈ sl ds l r) : d ∈ ds := List.mem_of_mem_drop (List.mem_of_mem_take h)
structure Inn2F (k : Nat) (l r n len : Int) (ds : List Int) (M sh : Int) : Prop where
  m1 : 0 ≤ M
  m2 : l < M
  m3 : M < r
  m4 : M ≤ len
  d1 : M - l ≤ 2 ^ k
  d2 : r - M ≤ 2 ^ k
  s1 : IntMulOk (M - l) n
  s2 : 0 ≤ sh
  s3 : (intBits (val n.toNat (sl ds M.toNat r.toNat)) : Int) + sh ≤ 2 ^ 27
  e1 : val n.toNat (sl ds M.toNat r.toNat) * 2 ^ sh.toNat + val n.toNat (sl ds l.toNat M.toNat) = val n.toNat (sl ds l.toNat r.toNat)
theorem inn2F_of {k : Nat} {l r n : Int} {ds : List Int} (hn : 1 ≤ n) (hn2 : n ≤ 20000) (hds : ∀ d ∈ ds, 0 ≤ d ∧ d < 2 ^ n.toNat) (hd : r - l ≤ 2 ^ (k + 1)) (hl : 0 ≤ l) (hlr : l < r) (hne : ¬ l + 1 = r) (hr : r ≤ ds.length) (hlen : (ds.length : Int) ≤ 20000) (hln : (ds.length : Int) * n ≤ 40000) :
    Inn2F k l r n ds.length ds (midp l r) ((midp l r - l) * n) := by
  have C := innC_of hn hn2 hd hl hlr hne hr hlen hln
  clear hn2 hd hlr hne hlen
  generalize midp l r = M at *
  obtain ⟨n0, m1, m2, m3, m4, d1, d2, s0, s1, s2, sb, hs, hMl, hsum, lm, mr⟩ := C
  have hrn : r.toNat ≤ ds.length := Int.toNat_le.mpr hr
  have hv := val_range (n := n.toNat) (ds := sl ds M.toNat r.toNat) fun d hd => hds d (sl_mem hd)
  rw [sl_length mr hrn] at hv
  have hvb := bits_lt hv.1 hv.2
  have hz : n.toNat * (r.toNat - M.toNat) ≤ 40000 := by
    have h1 : n.toNat * (r.toNat - M.toNat) ≤ n.toNat * ds.length := Nat.mul_le_mul_left _ (Nat.le_trans (Nat.sub_le _ _) hrn)
    have h2 : ((n.toNat * ds.length : Nat) : Int) = ds.length * n := by rw [Int.natCast_mul, Int.toNat_of_nonneg n0, Int.mul_comm]
    clear hv hvb hrn hds hl hr hn n0 m1 m2 m3 m4 d1 d2 s0 s1 s2 sb hs hMl hsum lm mr
    (first | lia | omega)
  refine ⟨m1, m2, m3, m4, d1, d2, s1, s2, ?_, ?_⟩
  · clear hv hrn hds hl hr hn n0 m1 m2 m3 m4 d1 d2 s0 s1 s2 hs hMl hsum lm mr hln
    (first | lia | omega)
  rw [hs]
  exact (val_split lm mr hrn).symm
end Mine
end
theorem Mine.offDigits : True := by
  w_top off
  trivial
section
open PySem PySem.W PyProof.Rows
namespace Mine
open PySem.Builtin.Int (intBits)
theorem reg2 : PySem.Challenge.rw_ph0105_01.prog = PySem.Challenge.rw_ph0105_01.prog ∧ Mine.hd.heap_1 = Mine.hd.heap_1 := by
  k_fill
  exact ⟨rfl, rfl⟩
local macro_rules | `(tactic| walk_at "call ref") => `(tactic| (k_here; k_dflt (refine' Ct.useP (d21_small ?p1 ?p2 ?p3) (by k_asm) (by k_asm) (by k_asm) (by k_asm) (by k_asm) (by first | exact rfl | assumption) (by ktr_room) (by ktr_units) ?_; (case p1 => assumption); (case p2 => assumption); (case p3 => assumption); k_whole; intro x' t1' t2' h' tk' l1 F' N'; (try k_lt l1); (try k_sweep))))
local macro_rules | `(tactic| walk_at "exec While Compare cons nil") => `(tactic| k_while_given ["b", "q!", "r!"] (fun b q0 r0 script q r => q * b + r = q0 * b + r0 ∧ (r < b ∨ r ≤ r0)) (fun b q0 r0 script q r => (-r).toNat) "q" "r")
set_option maxRecDepth 100000 in
set_option maxHeartbeats 8000000 in
theorem d32 {w : World} {a12 a3 b b1 b2 n : Int} {t1 t2 t3 t4 t5 t6 : Tok} {news : Led}
   (h0 : 0 ≤ a12) (h30 : 0 ≤ a3) (h3 : a3 < 2 ^ n.toNat) (hb1 : 0 < b1) (hb20 : 0 ≤ b2) (hb2 : b2 < 2 ^ n.toNat) (hb : b = b1 * 2 ^ n.toNat + b2)
   (hlt : a12 * 2 ^ n.toNat + a3 < b * 2 ^ n.toNat) (hn0 : 0 ≤ n) (hn : n ≤ 4000) (hsm : (intBits a12 : Int) - n ≤ 4000) (hbb : intBits b1 ≤ 9000) :
   Ct w 28 [.int a12 t1, .int a3 t2, .int b t3, .int b1 t4, .int b2 t5, .int n t6] news 2 (Pair news ((a12 * 2 ^ n.toNat + a3).fdiv b) ((a12 * 2 ^ n.toNat + a3).fmod b)) := by
  intro p loose mean mg mb dp un gd cn cs a ccd cl outer A₀ base h₀ L m s Q E B F X N T hk hd hu ret
  have hb1' : b1 ≠ 0 := by (first | lia | omega)
  have hpy : Builtin.divisionGoesByPylong a12 b1 = false := noPy hbb
  have hbp : 0 < b := b_pos hb1 hb20 hb
  k_with "state" => first | exact d32_start | exact d32_turn ⟨by assumption, by assumption⟩ (by assumption)
  obtain ⟨hs1, hs2, hs3, hs4⟩ := d32_sz hn0 hn hsm hbb
  obtain ⟨hm1, hm2⟩ := d32_mul (b1 := b1) hn0 hn hsm hb20 hb2
  refine wpAny_call ?_
  k_dflt cell_enter
  k_steps
  · exact pair_ret ret (by k_asm) (by k_asm) (lt_of_all (by assumption)) (fun q hq => .tail _ hq) (d32_end1 h30 h3 hb1 hb20 hb hlt (by assumption) ⟨by assumption, by assumption⟩ (by assumption))
  · exact pair_ret ret (by k_asm) (by k_asm) (lt_of_all (by assumption)) (fun q hq => .tail _ hq) (d32_end2 h0 h30 h3 hb1 hb20 hb ⟨by assumption, by assumption⟩ (by assumption))
end Mine
end
theorem Mine.offC28 : True := by
  w_top off
  trivial
section
open PySem PySem.W PyProof.Rows
namespace Mine
open PySem.Builtin.Int (intBits)
theorem reg3 : PySem.Challenge.rw_ph0105_01.prog = PySem.Challenge.rw_ph0105_01.prog ∧ Mine.hd.heap_1 = Mine.hd.heap_1 := by
  k_fill
  exact ⟨rfl, rfl⟩
structure PadF (av bv a b n pd h m1 mk ah a12 a3 b1 b2 q1 r1 a0 q2 r2 qs : Int) : Prop where
  big : BigF a b n h a12 a3 b1 b2 q1 r1 a0 q2 r2
  dh : h = n.fdiv (2 ^ (1 : Int).toNat)
  dm1 : m1 = 1 * 2 ^ h.toNat
  dmk : mk = m1 - 1
  da12 : a12 = a.fdiv (2 ^ n.toNat)
  dah : ah = a.fdiv (2 ^ h.toNat)
  da3 : a3 = Builtin.bitAnd ah mk
  db1 : b1 = b.fdiv (2 ^ h.toNat)
  db2 : b2 = Builtin.bitAnd b mk
  dq1 : q1 = (a12 * 2 ^ h.toNat + a3).fdiv b
  dr1 : r1 = (a12 * 2 ^ h.toNat + a3).fmod b
  da0 : a0 = Builtin.bitAnd a mk
  dq2 : q2 = (r1 * 2 ^ h.toNat + a0).fdiv b
  dr2 : r2 = (r1 * 2 ^ h.toNat + a0).fmod b
  dqs : qs = q1 * 2 ^ h.toNat
  pad : pd = 0 ∧ a.fdiv b = av.fdiv bv ∧ a.fmod b = av.fmod bv ∨ pd ≠ 0 ∧ a.fdiv b = av.fdiv bv ∧ (a.fmod b).fdiv (2 ^ (1 : Int).toNat) = av.fmod bv
theorem padF_of {av bv a b n pd : Int} (h0 : 0 ≤ a) (hlt : a < b * 2 ^ n.toNat) (hb1 : 2 ^ (n.fdiv (2 ^ (1 : Int).toNat)).toNat ≤ b) (hb2 : b < 2 ^ n.toNat) (he : n = 2 * n.fdiv (2 ^ (1 : Int).toNat)) (hh : 0 ≤ n.fdiv (2 ^ (1 : Int).toNat)) (hn : n ≤ 8000)
    (pad : pd = 0 ∧ a.fdiv b = av.fdiv bv ∧ a.fmod b = av.fmod bv ∨ pd ≠ 0 ∧ a.fdiv b = av.fdiv bv ∧ (a.fmod b).fdiv (2 ^ (1 : Int).toNat) = av.fmod bv) :
    ∃ h m1 mk ah a12 a3 b1 b2 q1 r1 a0 q2 r2 qs, PadF av bv a b n pd h m1 mk ah a12 a3 b1 b2 q1 r1 a0 q2 r2 qs :=
  ⟨_, _, _, _, _, _, _, _, _, _, _, _, _, _, bigF_of h0 hlt hb1 hb2 he hh hn rfl rfl rfl rfl rfl rfl rfl rfl rfl, rfl, rfl, rfl, rfl, rfl, rfl, rfl, rfl, rfl, rfl, rfl, rfl, rfl, rfl, pad⟩
def PadMid (s : Shared) (news : Led) (av bv : Int) (g : Heap) (L : Addr) (f : Flow) (s' : Shared) : Prop :=
  f = .next ∧ ∃ (a b n pd h m1 mk ah a12 a3 b1 b2 q1 r1 a0 q2 r2 qs : Int) (ta tb tn tp : Tok) (h' : Heap) (k' : Nat) (u : Str → Option Value), PadF av bv a b n pd h m1 mk ah a12 a3 b1 b2 q1 r1 a0 q2 r2 qs ∧
    s' = { s with heap := h', toks := k' } ∧ Fr g L h' (kstB u [(Str.ofString "a", .int a ta), (Str.ofString "b", .int b tb), (Str.ofString "n", .int n tn), (Str.ofString "pad", .int pd tp)]) ∧ News g L h' news
theorem PadMid.of {s : Shared} {news : Led} {av bv a b n pd : Int} {g h' : Heap} {L : Addr} {ta tb tn tp : Tok} {k' : Nat} {m : Str → Option Value}
    (P : ∃ h m1 mk ah a12 a3 b1 b2 q1 r1 a0 q2 r2 qs, PadF av bv a b n pd h m1 mk ah a12 a3 b1 b2 q1 r1 a0 q2 r2 qs) (F : Fr g L h' m) (N : News g L h' news)
    (ps : ∀ p ∈ [(Str.ofString "a", .int a ta), (Str.ofString "b", .int b tb), (Str.ofString "n", .int n tn), (Str.ofString "pad", .int pd tp)], m p.1 = some p.2) :
    PadMid s news av bv g L .next { s with heap := h', toks := k' } := by
  obtain ⟨h, m1, mk, ah, a12, a3, b1, b2, q1, r1, a0, q2, r2, qs, P⟩ := P
  obtain ⟨u, F⟩ := fr_ps _ F ps
  exact ⟨rfl, a, b, n, pd, h, m1, mk, ah, a12, a3, b1, b2, q1, r1, a0, q2, r2, qs, ta, tb, tn, tp, h', k', u, P, rfl, F, N⟩
theorem d32_to {w : World} {a12 a3 b b1 b2 n q r : Int} {t1 t2 t3 t4 t5 t6 : Tok} {news : Led} (eq : q = (a12 * 2 ^ n.toNat + a3).fdiv b) (er : r = (a12 * 2 ^ n.toNat + a3).fmod b)
   (h0 : 0 ≤ a12) (h30 : 0 ≤ a3) (h3 : a3 < 2 ^ n.toNat) (hb1 : 0 < b1) (hb20 : 0 ≤ b2) (hb2 : b2 < 2 ^ n.toNat) (hb : b = b1 * 2 ^ n.toNat + b2)
   (hlt : a12 * 2 ^ n.toNat + a3 < b * 2 ^ n.toNat) (hn0 : 0 ≤ n) (hn : n ≤ 4000) (hsm : (intBits a12 : Int) - n ≤ 4000) (hbb : intBits b1 ≤ 9000) :
   Ct w 28 [.int a12 t1, .int a3 t2, .int b t3, .int b1 t4, .int b2 t5, .int n t6] news 2 (Pair news q r) := by
  subst eq; subst er
  exact d32 h0 h30 h3 hb1 hb20 hb2 hb hlt hn0 hn hsm hbb
section
local macro_rules | `(tactic| walk_at "storeName") => `(tactic| (k_here; k_dflt (refine' store_int ?F ?N ?_ ?a ?b; (case F => k_asm); (case N => k_asm); (case a => rfl); (case b => rfl); k_whole; intro h' t' k' F' N'; (try k_sweep))))
local macro_rules | `(tactic| walk_at "binaryOp RShift int int") => `(tactic| ((with_reducible refine' shr_to ?e ?kb1 ?_); (case e => with_reducible assumption); (case kb1 => first | assumption | decide)))
local macro_rules | `(tactic| walk_at "binaryOp LShift int int") => `(tactic| ((with_reducible refine' shl_to ?e ?kb1 ?kb2 ?_); (case e => with_reducible assumption); (case kb1 => first | assumption | decide); (case kb2 => first | assumption | decide)))
local macro_rules | `(tactic| walk_at "binaryOp BitAnd int int") => `(tactic| ((with_reducible refine' and_to ?e ?_); (case e => with_reducible assumption)))
local macro_rules | `(tactic| walk_at "binaryOp Sub int int") => `(tactic| ((with_reducible refine' sub_to ?e ?_); (case e => with_reducible assumption)))
local macro_rules | `(tactic| walk_at "inplaceOp LShift int int") => `(tactic| ((with_reducible refine ilshift_int ?kb1 ?kb2 ?_); (case kb1 => first | assumption | decide); (case kb2 => first | assumption | decide)))
local macro_rules | `(tactic| walk_at "inplaceOp RShift int int") => `(tactic| ((with_reducible refine irshift_int ?kb1 ?_); (case kb1 => first | assumption | decide)))
local macro_rules | `(tactic| walk_at "call ref") => `(tactic| (k_here; k_dflt (refine' Ct.useP (d32_to ?e1 ?e2 ?p1 ?p2 ?p3 ?p4 ?p5 ?p6 ?p7 ?p8 ?p9 ?p10 ?p11 ?p12) (by k_asm) (by k_asm) (by k_asm) (by k_asm) (by k_asm) (by first | exact rfl | assumption) (by ktr_room) (by ktr_units) ?_; (case e1 => with_reducible assumption); (case e2 => with_reducible assumption); (case p1 => assumption); (case p2 => assumption); (case p3 => assumption); (case p4 => assumption); (case p5 => assumption); (case p6 => assumption); (case p7 => assumption); (case p8 => assumption); (case p9 => assumption); (case p10 => assumption); (case p11 => assumption); (case p12 => assumption); k_whole; intro x' t1' t2' h' tk' l1 F' N'; (try k_lt l1); (try k_sweep))))
local macro_rules | `(tactic| walk_at "exec If Name") => `(tactic| ((have hG := (by with_reducible assumption : Gate 1)); (clear hG); refine stopG_of ?_))
set_option maxRecDepth 100000 in
set_option maxHeartbeats 8000000 in
theorem d21_big {w : World} {av bv nv : Int} {ta tb tn : Tok} {news : Led}
   (h0 : 0 ≤ av) (hlt : av < bv * 2 ^ nv.toNat) (hb1 : 2 ^ (nv.toNat - 1) ≤ bv) (hb2 : bv < 2 ^ nv.toNat) (hn1 : 1 ≤ nv) (hn2 : nv ≤ 7999) (hbig : ¬ (intBits av : Int) - nv ≤ 4000) :
   Ct w 21 [.int av ta, .int bv tb, .int nv tn] news 3 (Pair news (Int.fdiv av bv) (Int.fmod av bv)) := by
  intro p loose mean mg mb dp un gd cn cs a ccd cl outer A₀ base h₀ L m s Q E B F X N T hk hd hu ret
  obtain ⟨z1, z2, hbp⟩ := sh_one h0 hlt hb1 hb2 hn1 hn2
  refine wpAny_call ?_
  k_dflt cell_enter
  have hg := gate 1
  k_steps
  clear hg
  refine stopG_in ?_
  rename Fr _ _ _ _ => F9
  rename News _ _ _ _ => N9
  refine mid_fr (PadMid s news av bv) F9 ?_ ?_
  · by_cases hev : Builtin.bitAnd nv 1 = 0
    · have hev' : ¬ ((Builtin.bitAnd nv 1 != 0) = true) := by simpa using hev
      k_steps
      obtain ⟨u1, u2, u3⟩ := big_even hb1 hn1 hn2 hev
      exact PadMid.of (padF_of h0 hlt u1 hb2 (half_even hev) u2 u3 (.inl ⟨hev, rfl, rfl⟩)) (by k_asm) (by k_asm) (by kst_all)
    · have hev' : (Builtin.bitAnd nv 1 != 0) = true := by simpa using hev
      k_steps
      obtain ⟨v1, v2, v3, v4, v5, v6⟩ := big_odd h0 hlt hb1 hb2 hn1 hn2 hev
      exact PadMid.of (padF_of v1 v2 v3 v4 (half_odd hev) v5 v6 (.inr ⟨hev, twice hbp⟩)) (by k_asm) (by k_asm) (by kst_all)
  · clear F9 N9 h0 hlt hb1 hb2 hn1 hn2 hbig z1 z2 hbp
    intro f s' hm
    refine goal_gen ?_
    intro R7 hR7
    obtain ⟨rfl, a, b, n, pd, h, m1, mk, ah, a12, a3, b1, b2, q1, r1, a0, q2, r2, qs, ta9, tb9, tn9, tp9, h9, k9, u9, P, rfl, F9, N9⟩ := hm
    obtain ⟨⟨s1, s2, s3, f1, f2, f3, f4, f5, f6, f7, f8, f9, f10, f11, g1, g2, g3, g4, g5, g6, x1, x2⟩, dh, dm1, dmk, da12, dah, da3, db1, db2, dq1, dr1, da0, dq2, dr2, dqs, pad⟩ := P
    refine hR7 ?_
    clear hR7 R7
    have one0 : (0 : Int) ≤ 1 := by decide
    (try dsimp only)
    have hg := gate 1
    k_steps
    clear hg
    refine stopG_in ?_
    rw [← dqs] at x1
    rcases pad with ⟨p0, p1, p2⟩ | ⟨p0, p1, p2⟩
    · have hev' : ¬ ((pd != 0) = true) := by simpa using p0
      k_steps
      exact pair_ret ret (by k_asm) (by k_asm) (lt_of_all (by assumption)) (fun q hq => .tail _ (.tail _ (.tail _ hq))) ⟨p1.symm.trans x1.symm, p2.symm.trans x2.symm⟩
    · have hev' : (pd != 0) = true := by simpa using p0
      k_steps
      exact pair_ret ret (by k_asm) (by k_asm) (lt_of_all (by assumption)) (fun q hq => .tail _ (.tail _ (.tail _ hq))) ⟨p1.symm.trans x1.symm, p2.symm.trans (congrArg (fun x => Int.fdiv x (2 ^ (1 : Int).toNat)) x2.symm)⟩
end
end Mine
end
theorem Mine.offC21b : True := by
  w_top off
  trivial
section
open PySem PySem.W PyProof.Rows
namespace Mine
theorem codeHd30 {w : World} {h : Heap} (X : (Mine.hd.heap_1 w.params).In h) : CodeHd h 34 30 :=
  ⟨_, _, _, _, _, _, _, _, _, X 34 _ rfl, rfl, rfl, rfl, rfl, rfl, rfl, rfl, rfl, by decide⟩
theorem codeHd37 {w : World} {h : Heap} (X : (Mine.hd.heap_1 w.params).In h) : CodeHd h 41 37 :=
  ⟨_, _, _, _, _, _, _, _, _, X 41 _ rfl, rfl, rfl, rfl, rfl, rfl, rfl, rfl, rfl, by decide⟩
end Mine
namespace Mine
/-- what a code object of the nested def must bear -/
def CodeFact (qual : Str) (oc : Obj) : Prop := ∃ vs t, oc.data = .fields vs ∧ vs[1]? = some (.str qual t)
/-- a table of nested codes: empty as yet, or with the one def's code -/
def TabSt (line col : Nat) (qual : Str) (news : Led) (ps : Array Value) (c : Addr) (oc : Obj) : Prop :=
  ps = #[] ∨ (ps = #[rawInt line, rawInt col, .ref c] ∧ (c, oc) ∈ news ∧ CodeFact qual oc)

theorem TabSt.mono {line col : Nat} {qual : Str} {news news' : Led} {ps : Array Value} {c : Addr} {oc : Obj} (h : TabSt line col qual news ps c oc) (hs : ∀ q ∈ news, q ∈ news') : TabSt line col qual news' ps c oc :=
  h.imp id fun ⟨a, b, d⟩ => ⟨a, hs _ b, d⟩
section
variable {M : Model} {A : Around} {E : Value → Shared → Prop} {s : Shared} {h₀ : Heap} {L a c P : Addr} {m mg mb : Str → Option Value} {cn : Str} {cs : Scope} {ccd : Value} {cl : List (Str × Addr)} {news : Led} {g : Obj → Led}
  {p : Program} {loose : List Str} {mean : ExcName → Option Value} {name qual : Str} {params : Arguments} {body : List Stmt} {scope : Scope} {ps : Array Value} {pos : Pos} {firstLine : Nat} {clos : List (Str × Addr)}
theorem updF_same {d : Addr} {o : Obj} {news : Led} {g : Obj → Led} (U : UpdF d o news g) : g o = news := by
  obtain ⟨pre, post, e1, e2, _⟩ := U.split
  rw [e2, e1]
theorem nest_any {Q : Value → Shared → Prop} {c0 : Addr} {o0 : Obj} (F : Fr h₀ L s.heap m) (N : News h₀ L s.heap news) (T : Top p loose mean mg mb h₀) (C : CodeHd h₀ c P) (hcd : ccd = .ref c) (U : UpdF P (tabObj ps) news g)
    (hst : TabSt pos.line pos.col qual news ps c0 o0)
    (hcl : closureFor scope (envX cn cs L a ccd cl) = pure clos)
    (h : ∀ f c' oc ctv doc h' tk, Fr h₀ L h' m →
      News h₀ L h' ((f, fnMade name qual params body scope clos doc ((mg "__name__").getD .none) c' ctv) :: (c', oc) :: g (tabObj #[rawInt pos.line, rawInt pos.col, .ref c'])) →
      CodeFact qual oc → (∀ q ∈ news, q.1 < f) → c' < f → (ps = #[] ∨ (c' = c0 ∧ oc = o0)) → Q (.ref f) { s with heap := h', toks := tk }) :
    wpAny M A (makeFunction name qual params (.stmts body) scope (envX cn cs L a ccd cl) [] [] [] pos firstLine) Q E s := by
  rcases hst with rfl | ⟨rfl, hm, hf⟩
  · refine nest_K F N T C hcd U trivial rfl hcl fun f c' oc vs t ctv doc h' tk F' N' d1 d2 l1 l2 => ?_
    exact h f c' oc ctv doc h' tk F' (by simpa using N') ⟨vs, t, d1, d2⟩ (fun q hq => Nat.lt_trans (l1 q hq) l2) l2 (.inl rfl)
  · have hmem : (P, tabObj #[rawInt pos.line, rawInt pos.col, .ref c0]) ∈ news := by
      obtain ⟨pre, post, e1, _⟩ := U.split
      rw [e1]; exact List.mem_append_right _ (.head _)
    refine nestHit_K (c' := c0) F N T C hcd hmem (by simp [TriplesOk, rawInt]) (by simp [codeAmong, rawInt]) hcl fun f ctv doc h' tk F' N' l1 => ?_
    have N2 : News h₀ L h' ((f, fnMade name qual params body scope clos doc ((mg "__name__").getD .none) c0 ctv) :: (c0, o0) :: g (tabObj #[rawInt pos.line, rawInt pos.col, .ref c0])) := by
      rw [updF_same U]
      intro q hq
      rcases List.mem_cons.mp hq with rfl | hq
      · exact N' _ (.head _)
      · rcases List.mem_cons.mp hq with rfl | hq
        · exact N' _ (.tail _ hm)
        · exact N' _ (.tail _ hq)
    exact h f c0 o0 ctv doc h' tk F' N2 hf l1 (l1 _ hm) (.inr ⟨rfl, rfl⟩)
end
end Mine
end
theorem Mine.offTab : True := by
  w_top off
  trivial
section
open PySem PySem.W PyProof.Rows
namespace Mine
open PySem.Builtin.Int (intBits)
theorem foldl_rep (v : Value) : ∀ (k : Nat) (acc : Array Value), List.foldl (fun x1 x2 => x1 ++ x2) acc (List.replicate k #[v]) = acc ++ (List.replicate k v).toArray
  | 0, acc => by simp
  | k + 1, acc => by
    rw [List.replicate_succ, List.foldl_cons, foldl_rep v k]
    apply Array.toList_inj.mp
    simp [List.replicate_succ]
section
variable {w : World} {A : Around} {E : Value → Shared → Prop} {s : Shared} {h₀ : Heap} {L : Addr} {m : Str → Option Value} {news : Led}
theorem mul_rep {l : Addr} {v : Value} {k : Nat} {x : Int} {u : Tok} {Q : Value → Shared → Prop} (F : Fr h₀ L s.heap m) (N : News h₀ L s.heap news) (hm : (l, listOf #[v] k) ∈ news) (hlo : 0 ≤ x) (hhi : x ≤ 20000)
    (h : ∀ D h', Fr h₀ L h' m → News h₀ L h' ((D, listOf (List.replicate x.toNat v).toArray 0) :: news) → (∀ q ∈ news, q.1 < D) → Q (.ref D) { s with heap := h' }) :
    wpAny (model prg w) A (binaryOp .Mult (.ref l) (.int x u)) Q E s := by
  refine mul_list F N (N _ hm).1 (by (first | lia | omega)) (by (first | lia | omega)) (by simp; (first | lia | omega)) fun h' F' N' => h _ h' F' ?_ fun q hq => Heap.lt_size (N q hq).1
  have e := foldl_rep v x.toNat #[]
  simp only [List.isEmpty_toArray, List.isEmpty_cons, Bool.false_eq_true, if_false] at N'
  rw [e] at N'
  simpa using N'
theorem floordiv_line {a b : Int} {t u : Tok} {Q : Value → Shared → Prop} (hb : b ≠ 0) (hp : Builtin.divisionGoesByPylong a b = false) (h : Q (.int (a.fdiv b) s.toks) { s with toks := s.toks + 1 }) :
    wpAny (model prg w) A (binaryOp .FloorDiv (.int a t) (.int b u)) Q E s := floordiv_int hb h (.inl hp)
theorem append_line {D : Addr} {vs : List Value} {e : Nat} {x : Value} {news' : Led} {Q : Value → Shared → Prop} (F : Fr h₀ L s.heap m) (N : News h₀ L s.heap news) (U : Upd D (listOf vs.toArray e) (listOf (vs ++ [x]).toArray (e + 1)) news news') (hz : vs.length ≤ 20000)
    (h : ∀ h', Fr h₀ L h' m → News h₀ L h' news' → Q .none { s with heap := h' }) : wpAny (model prg w) A (call (.builtin "list.append") [.ref D, x]) Q E s :=
  append_K F N (by rw [List.push_toArray]; exact U) h (by rw [sizeLine_eq]; simp; (first | lia | omega))
theorem reverse_line {D : Addr} {vs : List Value} {e : Nat} {news' : Led} {Q : Value → Shared → Prop} (F : Fr h₀ L s.heap m) (N : News h₀ L s.heap news) (U : Upd D (listOf vs.toArray e) (listOf vs.reverse.toArray e) news news') (hz : vs.length ≤ 20000)
    (h : ∀ h', Fr h₀ L h' m → News h₀ L h' news' → Q .none { s with heap := h' }) : wpAny (model prg w) A (call (.builtin "list.reverse") [.ref D]) Q E s :=
  kl_reverse F N rfl U (by rw [sizeLine_eq]; simp; (first | lia | omega)) h
theorem truthy_line {D : Addr} {vs : List Value} {e : Nat} {ns : List Int} {Q : Bool → Shared → Prop} (N : News h₀ L s.heap news) (hm : (D, listOf vs.toArray e) ∈ news) (hi : IntsAre vs ns) (hf : (ns.length : Int) ≤ 20000)
    (h : ∀ tk, Q (decide (0 < ns.length)) { s with toks := tk }) : wpAny (model prg w) A (truthy (.ref D)) Q E s := by
  have hl := hi.length
  refine wpAny_truthy_list (News.isList N hm) (by simp; (first | lia | omega)) ?_
  have e : (!vs.toArray.isEmpty) = decide (0 < ns.length) := by
    cases hi with
    | nil => rfl
    | cons _ _ _ => simp
  rw [e]
  exact h _
theorem len_line {D : Addr} {vs : List Value} {e : Nat} {ns : List Int} {Q : Value → Shared → Prop} (N : News h₀ L s.heap news) (hm : (D, listOf vs.toArray e) ∈ news) (hi : IntsAre vs ns) (hf : (ns.length : Int) ≤ 20000)
    (h : ∀ t tk, Q (.int (ns.length : Int) t) { s with toks := tk }) : wpAny (model prg w) A (call (.builtin "len") [.ref D]) Q E s := by
  have hl := hi.length
  refine len_list (News.isList N hm) (by simp; (first | lia | omega)) ?_
  rw [show ((vs.toArray.size : Nat) : Int) = ns.length by simp; (first | lia | omega)]
  exact h _ _
end
theorem all_ne_of_lt {d a : Nat} {rest : Led} (h : AllLt d rest) (hd : d ≤ a) : ∀ p ∈ rest, p.1 ≠ a := fun p hp => Nat.ne_of_lt (Nat.lt_of_lt_of_le (lt_of_all h p hp) hd)
theorem ints_rep (k : Nat) (t : Tok) : IntsAre (List.replicate k (.int 0 t)) (List.replicate k 0) := by
  induction k with
  | zero => exact .nil
  | succ k ih => exact .cons _ _ ih
theorem code_ne_tab {line col : Nat} {qual qual' : Str} {news : Led} {ps : Array Value} {c : Addr} {oc o : Obj} (hf : CodeFact qual oc) (h : TabSt line col qual' news ps c o) : oc.data ≠ (tabObj ps).data := by
  obtain ⟨vs, t, hd, hv⟩ := hf
  rw [hd]
  intro e
  have e' : vs = ps := by injection e
  subst e'
  rcases h with rfl | ⟨rfl, _⟩
  · simp at hv
  · simp [rawInt] at hv
theorem ne_of_data {h₀ h : Heap} {L x y : Addr} {o o' : Obj} {news : Led} (N : News h₀ L h news) (hx : (x, o) ∈ news) (hy : (y, o') ∈ news) (hd : o.data ≠ o'.data) : x ≠ y := fun e => by
  have h1 := (N _ hx).1
  have h2 := (N _ hy).1
  simp only [e] at h1
  rw [h1] at h2
  exact hd (congrArg Obj.data (Option.some.inj h2))
theorem code_ne {h₀ h : Heap} {L x y : Addr} {oc : Obj} {its : Array Value} {e : Nat} {qual : Str} {news : Led} (N : News h₀ L h news) (hx : (x, listOf its e) ∈ news) (hy : (y, oc) ∈ news) (hf : CodeFact qual oc) : x ≠ y :=
  ne_of_data N hx hy fun q => by obtain ⟨vs, t, hd, _⟩ := hf; rw [hd] at q; cases q
end Mine
end
local macro_rules | `(tactic| k_all) => `(tactic| exact Mine.all_ne_of_lt (by assumption) (by (first | lia | omega)))
local macro_rules | `(tactic| k_all) => `(tactic| with_reducible assumption)
local macro_rules | `(tactic| walk_at "call builtin:list.append") => `(tactic| (k_here; k_dflt (refine' Mine.append_line ?k1 ?k2 ?k3 ?z ?_; (case k1 => k_asm); (case k2 => k_asm); (case k3 => k_upd); (case z => assumption); k_whole); intro h' F' N'; (try k_sweep)))
theorem Mine.offLines : True := by
  w_top off
  trivial
section
open PySem PySem.W PyProof.Rows
namespace Mine
/-- the end of a turn -/
def TurnEnd (h₀ : Heap) (L I : Addr) (o : Obj) (J : (Str → Option Value) → Led → Prop) (s : Shared) (Q : Flow → Shared → Prop) (f : Flow) (s₃ : Shared) : Prop :=
  match f with
  | .next | .cont => ∃ h' tk' m' news', s₃ = { s with heap := h', toks := tk' } ∧ Fr h₀ L h' m' ∧ News h₀ L h' ((I, o) :: news') ∧ (∀ q ∈ news', q.1 ≠ I) ∧ J m' news'
  | .brk => Q .next s₃
  | .ret v => Q (.ret v) s₃
section
variable {w : World} {A : Around} {E : Value → Shared → Prop} {Q : Flow → Shared → Prop} {s : Shared} {env : Env} {h₀ : Heap} {L I : Addr} {x : Str} {px : Pos} {body : List Stmt} {fp : List Addr} {n : Nat} {P : Nat → Value → Prop} {St : Nat → Heap → Prop} {m₀ : Str → Option Value} {news₀ : Led}
theorem for_core (W : Walks prg w A I fp [I] n P St) (hst : St 0 s.heap) (hL : env.locals = L) (hx : env.kindOf x = some .local) (hp : (env.scope.kind == .class || (env.scope.kind == .module && env.locals != env.globals)) = false)
    (hI : h₀.get? I = none) (hIL : I ≠ L) (F : Fr h₀ L s.heap m₀) (N : News h₀ L s.heap news₀) (hI0 : ∀ q ∈ news₀, q.1 ≠ I) (hat : ∀ i h, St i h → ∃ o, h.get? I = some o) (hLf : L ∉ fp)
    (ob : Addr → Obj) (J : Nat → (Str → Option Value) → Led → Prop) (hj : J 0 m₀ news₀) (hfp : ∀ i m news, J i m news → ∀ b ∈ fp, b = I ∨ (b, ob b) ∈ news ∨ h₀.get? b = some (ob b))
    (turn : ∀ i v m news h tk o, i < n → P i v → J i m news → Fr h₀ L h (fun y => if y = x then some v else m y) → News h₀ L h ((I, o) :: news) → (∀ q ∈ news, q.1 ≠ I) →
      wpAny (model prg w) A (execs body env) (TurnEnd h₀ L I o (J (i + 1)) s Q) (fun _ _ => False) { s with heap := h, toks := tk })
    (done : ∀ m news h tk, J n m news → Fr h₀ L h m → News h₀ L h news → Q .next { s with heap := h, toks := tk }) :
    codeAny (model prg w) A (.forLoop (.Name x px) (.ref I) body [] env) (fun r s' => match r with | .ok f => Q f s' | .error e => cameBackBy (model prg w) A env E e s') s := by
  subst hL
  refine codeAny_forLoop (fun k s' => ∃ i m news h tk, k = n - i ∧ i ≤ n ∧ s' = { s with heap := h, toks := tk } ∧ Fr h₀ env.locals h m ∧ News h₀ env.locals h news ∧ (∀ q ∈ news, q.1 ≠ I) ∧ St i h ∧ J i m news) ?_ n
    ⟨0, m₀, news₀, s.heap, s.toks, rfl, Nat.zero_le _, rfl, F, N, hI0, hst, hj⟩
  rintro k s' ⟨i, m, news, h, tk, rfl, hi, rfl, F, N, hn, hs, hJ⟩
  have up : ∀ {h' : Heap}, (∀ b o, b ∉ [I] → h.get? b = some o → h'.get? b = some o) → Fr h₀ env.locals h' m ∧ News h₀ env.locals h' news := fun {h'} hk =>
    ⟨⟨F.ns.at' fun o e => hk _ o (by simpa using fun e => hIL e.symm) e, fun b o e => hk b o (fun hm => by rw [List.mem_singleton.mp hm, hI] at e; cases e) (F.keep b o e), F.above⟩,
     fun q hq => ⟨hk _ _ (by simpa using hn q hq) (N q hq).1, (N q hq).2⟩⟩
  by_cases hlt : i < n
  · refine W.item i { s with heap := h, toks := tk } _ _ hlt hs fun v h₁ tk₁ hP hs₁ hk₁ => ?_
    obtain ⟨F₁, N₁⟩ := up hk₁
    obtain ⟨o, ho⟩ := hat _ _ hs₁
    show wpAny _ _ (assign (.Name x px) env v) _ _ _
    refine wpAny_assign_Name (wpAny_storeName_local hx F₁.ns (fun h₂ hns hsb => ?_) hp)
    have F₂ : Fr h₀ env.locals h₂ (fun y => if y = x then some v else m y) := F₁.set hns hsb
    have N₂ : News h₀ env.locals h₂ ((I, o) :: news) := fun q hq => by
      rcases List.mem_cons.mp hq with rfl | hq
      · exact ⟨(hsb.2 _ hIL).trans ho, hIL, hI⟩
      · exact N₁.set hsb q hq
    have hs₂ : St (i + 1) h₂ := W.frame _ _ _ hs₁ fun b hb o' e => (hsb.2 b (fun q => hLf (q ▸ hb))).trans e
    refine wpAny_mono (turn i v m news h₂ _ o hlt hP hJ F₂ N₂ hn) (fun f s₃ hf => ?_) fun _ _ h => h.elim
    have fin : (∃ h' tk' m' news', s₃ = { s with heap := h', toks := tk' } ∧ Fr h₀ env.locals h' m' ∧ News h₀ env.locals h' ((I, o) :: news') ∧ (∀ q ∈ news', q.1 ≠ I) ∧ J (i + 1) m' news') →
        ∃ m₁, m₁ < n - i ∧ ∃ i m news h tk, m₁ = n - i ∧ i ≤ n ∧ s₃ = { s with heap := h, toks := tk } ∧ Fr h₀ env.locals h m ∧ News h₀ env.locals h news ∧ (∀ q ∈ news, q.1 ≠ I) ∧ St i h ∧ J i m news := by
      rintro ⟨h', tk', m', news', rfl, F', N', hn', hJ'⟩
      refine ⟨n - (i + 1), by (first | lia | omega), i + 1, m', news', h', tk', rfl, hlt, rfl, F', fun q hq => N' q (.tail _ hq), hn', ?_, hJ'⟩
      refine W.frame _ _ _ hs₂ fun b hb o' e => ?_
      have get' : ∀ i m news hh, J i m news → b ≠ I → Fr h₀ env.locals hh m → News h₀ env.locals hh news → hh.get? b = some (ob b) := fun i m news hh hJ hb' F N => by
        rcases hfp i m news hJ b hb with h1 | h1 | h1
        · exact absurd h1 hb'
        · exact (N _ h1).1
        · exact F.keep _ _ h1
      by_cases hbI : b = I
      · subst hbI
        rw [(N₂ _ (.head _)).1] at e
        rw [← e]
        exact (N' _ (.head _)).1
      · have e1 : h₂.get? b = some (ob b) := by
          rcases hfp i m news hJ b hb with h1 | h1 | h1
          · exact absurd h1 hbI
          · exact (N₂ _ (.tail _ h1)).1
          · exact F₂.keep _ _ h1
        rw [e1] at e
        rw [← e]
        rcases hfp (i + 1) m' news' hJ' b hb with h1 | h1 | h1
        · exact absurd h1 hbI
        · exact (N' _ (.tail _ h1)).1
        · exact F'.keep _ _ h1
    cases f with
    | next => exact fin hf
    | cont => exact fin hf
    | brk => exact hf
    | ret v => exact hf
  · have : i = n := by (first | lia | omega)
    subst this
    refine W.done { s with heap := h, toks := tk } _ _ hs fun h₁ tk₁ hk₁ => ?_
    obtain ⟨F₁, N₁⟩ := up hk₁
    exact wpAny_execs_nil (done m news h₁ tk₁ hJ F₁ N₁)
end
end Mine
namespace Mine
/-- the frame's map m is m₀ but for the named values and the stored names -/
def UpdM (ps : List (Str × Value)) (stored : List Str) (m₀ m : Str → Option Value) : Prop :=
  (∀ p ∈ ps, m p.1 = some p.2) ∧ ∀ z, (∀ p ∈ ps, z ≠ p.1) → stored.contains z = false → m z = m₀ z
theorem UpdM.fr {h₀ h : Heap} {L : Addr} {ps : List (Str × Value)} {stored : List Str} {m₀ m : Str → Option Value} {x : Str} {v : Value} (u : UpdM ps stored m₀ m) (F : Fr h₀ L h (fun y => if y = x then some v else m y)) (hx : (ps.all fun p => !(p.1 == x)) = true) :
    Fr h₀ L h (kstB (fun z => if stored.contains z then (if z = x then some v else m z) else m₀ z) ((x, v) :: ps)) := by
  refine ksw_fr (m₁ := fun y => if y = x then some v else m y) (fun p hp => ?_) (fun z h1 h2 => ?_) F
  · rcases List.mem_cons.mp hp with rfl | hp
    · simp
    · have : p.1 ≠ x := by simpa using List.all_eq_true.mp hx p hp
      simp only [if_neg this]
      exact u.1 p hp
  · have hzx : z ≠ x := h1 _ (.head _)
    simp only [if_neg hzx]
    exact u.2 z (fun p hp => h1 p (.tail _ hp)) h2
theorem UpdM.fr0 {h₀ h : Heap} {L : Addr} {ps : List (Str × Value)} {stored : List Str} {m₀ m : Str → Option Value} (u : UpdM ps stored m₀ m) (F : Fr h₀ L h m) :
    Fr h₀ L h (kstB (fun z => if stored.contains z then m z else m₀ z) ps) := ksw_fr u.1 u.2 F
section
variable {w : World} {A : Around} {E : Value → Shared → Prop} {Q : Flow → Shared → Prop} {s : Shared} {env : Env} {h₀ : Heap} {L : Addr} {x : Str} {px : Pos} {body : List Stmt} {m₀ : Str → Option Value} {news₀ : Led}
theorem for_rev {l : Addr} {vs : List Value} {e : Nat} (hh : A.handled = none) (hL : env.locals = L) (hx : env.kindOf x = some .local) (hp : (env.scope.kind == .class || (env.scope.kind == .module && env.locals != env.globals)) = false)
    (F : Fr h₀ L s.heap m₀) (N : News h₀ L s.heap news₀) (hm : (l, listOf vs.toArray e) ∈ news₀)
    (J : Nat → (Str → Option Value) → Led → Prop) (hj : J 0 m₀ news₀) (hJl : ∀ i m news, J i m news → (l, listOf vs.toArray e) ∈ news)
    (turn : ∀ i v m news h tk I o, i < vs.length → vs[vs.length - 1 - i]? = some v → J i m news → Fr h₀ L h (fun y => if y = x then some v else m y) → News h₀ L h ((I, o) :: news) → (∀ q ∈ news, q.1 ≠ I) →
      wpAny (model prg w) A (execs body env) (TurnEnd h₀ L I o (J (i + 1)) { s with heap := s.heap.push (revObj l ((vs.toArray.size : Int) - 1)) } Q) (fun _ _ => False) { s with heap := h, toks := tk })
    (done : ∀ m news h tk, J vs.length m news → Fr h₀ L h m → News h₀ L h news → Q .next { s with heap := h, toks := tk }) :
    wpAny (model prg w) A (call (.type "reversed") [.ref l]) (fun v s₁ => wpAny (model prg w) A (pyIter v) (fun it s₂ => codeAny (model prg w) A (.forLoop (.Name x px) it body [] env) (fun r s' => match r with | .ok f => Q f s' | .error e => cameBackBy (model prg w) A env E e s') s₂) E s₁) E s := by
  have hl := News.isList N hm
  have hlt : l < s.heap.objs.size := Heap.lt_size (N _ hm).1
  have hne : l ≠ s.heap.objs.size := Nat.ne_of_lt hlt
  refine call_reversed_list hl ?_
  have hit : (s.heap.push (revObj l ((vs.toArray.size : Int) - 1))).IsRevIter s.heap.objs.size l ((vs.toArray.size : Int) - 1) := ⟨_, Heap.get?_push_size _ rfl, rfl, rfl⟩
  refine wpAny_pyIter_revIter hit ?_
  have W := Walks.listRev (prog := prg) (w := w) hh s.heap.objs.size l hne vs.toArray
  refine for_core (s := { s with heap := s.heap.push (revObj l ((vs.toArray.size : Int) - 1)) }) W ⟨Nat.zero_le _, by simpa using hit, hl.push _⟩ hL hx hp (next_is_new F) (Nat.ne_of_gt F.ns.lt) (F.push _) (fun q hq => ⟨Heap.get?_push_of_some _ (N q hq).1, (N q hq).2⟩)
    (fun q hq => Nat.ne_of_lt (Heap.lt_size (N q hq).1)) (fun i h st => let ⟨o, ho, _⟩ := st.2.1; ⟨o, ho⟩) ?_ (fun _ => listOf vs.toArray e) J hj ?_ ?_ ?_
  · intro hmL
    rcases List.mem_cons.mp hmL with h1 | h1
    · exact absurd F.ns.lt (h1 ▸ Nat.lt_irrefl _)
    · exact (N _ hm).2.1 (List.mem_singleton.mp h1).symm
  · intro i m news hJ b hb
    rcases List.mem_cons.mp hb with h1 | h1
    · exact .inl h1
    · rw [List.mem_singleton.mp h1]; exact .inr (.inl (hJl i m news hJ))
  · intro i v m news h tk o hi hP hJ F' N' hn
    exact turn i v m news h tk _ o (by simpa using hi) (by simpa using hP) hJ F' N' hn
  · intro m news h tk hJ F' N'
    exact done m news h tk (by simpa using hJ) F' N'
end
end Mine
namespace Mine
def TurnU {σ : Type} (h₀ : Heap) (L I : Addr) (o : Obj) (m₀ : Str → Option Value) (ps : σ → List (Str × Value)) (stored : List Str) (led : σ → Led) (P : σ → Prop) (s : Shared) (Q : Flow → Shared → Prop) (f : Flow) (s₃ : Shared) : Prop :=
  match f with
  | .next | .cont => ∃ (c' : σ) (h' : Heap) (tk' : Nat) (m' : Str → Option Value), s₃ = { s with heap := h', toks := tk' } ∧ Fr h₀ L h' m' ∧ News h₀ L h' ((I, o) :: led c') ∧ (∀ q ∈ led c', q.1 ≠ I) ∧ UpdM (ps c') stored m₀ m' ∧ P c'
  | .brk => Q .next s₃
  | .ret v => Q (.ret v) s₃
theorem TurnU.of {σ : Type} {h₀ : Heap} {L I : Addr} {o : Obj} {m₀ m' : Str → Option Value} {ps : σ → List (Str × Value)} {stored : List Str} {led : σ → Led} {P : σ → Prop} {s : Shared} {Q : Flow → Shared → Prop} {h' : Heap} {tk' : Nat} (c' : σ)
    (F : Fr h₀ L h' m') (N : News h₀ L h' ((I, o) :: led c')) (hn : ∀ q ∈ led c', q.1 ≠ I) (h1 : ∀ p ∈ ps c', m' p.1 = some p.2) (h2 : ∀ z, (∀ p ∈ ps c', z ≠ p.1) → stored.contains z = false → m' z = m₀ z) (hP : P c') :
    TurnU h₀ L I o m₀ ps stored led P s Q .next { s with heap := h', toks := tk' } := ⟨c', h', tk', m', rfl, F, N, hn, ⟨h1, h2⟩, hP⟩
theorem TurnU.end {σ : Type} {h₀ : Heap} {L I : Addr} {o : Obj} {m₀ : Str → Option Value} {ps : σ → List (Str × Value)} {stored : List Str} {led : σ → Led} {P : σ → Prop} {s : Shared} {Q : Flow → Shared → Prop} {f : Flow} {s₃ : Shared}
    {J : (Str → Option Value) → Led → Prop} (hJ : ∀ c m, UpdM (ps c) stored m₀ m → P c → J m (led c)) (t : TurnU h₀ L I o m₀ ps stored led P s Q f s₃) : TurnEnd h₀ L I o J s Q f s₃ := by
  cases f with
  | next => obtain ⟨c', h', tk', m', e, F, N, hn, u, hP⟩ := t; exact ⟨h', tk', m', led c', e, F, N, hn, hJ _ _ u hP⟩
  | cont => obtain ⟨c', h', tk', m', e, F, N, hn, u, hP⟩ := t; exact ⟨h', tk', m', led c', e, F, N, hn, hJ _ _ u hP⟩
  | brk => exact t
  | ret v => exact t
section
variable {σ : Type} {w : World} {A : Around} {E : Value → Shared → Prop} {Q : Flow → Shared → Prop} {s : Shared} {env : Env} {h₀ : Heap} {L : Addr} {x : Str} {px : Pos} {body : List Stmt} {m₀ : Str → Option Value}
theorem for_rev_u {l : Addr} {vs : List Value} {e : Nat} (ps : σ → List (Str × Value)) (stored : List Str) (led : σ → Led) (P : Nat → σ → Prop) (c₀ : σ) (hh : A.handled = none) (hL : env.locals = L) (hx : env.kindOf x = some .local) (hp : (env.scope.kind == .class || (env.scope.kind == .module && env.locals != env.globals)) = false)
    (F : Fr h₀ L s.heap m₀) (N : News h₀ L s.heap (led c₀)) (hps : ∀ p ∈ ps c₀, m₀ p.1 = some p.2) (hxp : ∀ c, ((ps c).all fun p => !(p.1 == x)) = true) (hP : P 0 c₀) (hl : ∀ c, (l, listOf vs.toArray e) ∈ led c)
    (turn : ∀ i v c h tk I o (u : Str → Option Value), i < vs.length → vs[vs.length - 1 - i]? = some v → P i c → Fr h₀ L h (kstB (fun z => if stored.contains z then u z else m₀ z) ((x, v) :: ps c)) → News h₀ L h ((I, o) :: led c) → (∀ q ∈ led c, q.1 ≠ I) →
      wpAny (model prg w) A (execs body env) (TurnU h₀ L I o m₀ ps stored led (P (i + 1)) { s with heap := s.heap.push (revObj l ((vs.toArray.size : Int) - 1)) } Q) (fun _ _ => False) { s with heap := h, toks := tk })
    (done : ∀ c h tk (u : Str → Option Value), P vs.length c → Fr h₀ L h (kstB (fun z => if stored.contains z then u z else m₀ z) (ps c)) → News h₀ L h (led c) → Q .next { s with heap := h, toks := tk }) :
    wpAny (model prg w) A (call (.type "reversed") [.ref l]) (fun v s₁ => wpAny (model prg w) A (pyIter v) (fun it s₂ => codeAny (model prg w) A (.forLoop (.Name x px) it body [] env) (fun r s' => match r with | .ok f => Q f s' | .error e => cameBackBy (model prg w) A env E e s') s₂) E s₁) E s := by
  refine for_rev hh hL hx hp F N (hl c₀) (fun i m news => ∃ c, news = led c ∧ UpdM (ps c) stored m₀ m ∧ P i c) ⟨c₀, rfl, ⟨hps, fun _ _ _ => rfl⟩, hP⟩ (fun i m news ⟨c, e, _⟩ => e ▸ hl c) ?_ ?_
  · rintro i v m news h tk I o hi hv ⟨c, rfl, u, hPc⟩ F' N' hn
    exact wpAny_mono (turn i v c h tk I o _ hi hv hPc (u.fr F' (hxp c)) N' hn) (fun f s₃ t => t.end fun c m u hP => ⟨c, rfl, u, hP⟩) fun _ _ h => h
  · rintro m news h tk ⟨c, rfl, u, hPc⟩ F' N'
    exact done c h tk m hPc (u.fr0 F') N'
end
end Mine
end
theorem Mine.offLoops : True := by
  w_top off
  trivial
section
open PySem PySem.W PyProof.Rows
namespace Mine
open PySem.Builtin.Int (intBits)
theorem reg4 : PySem.Challenge.rw_ph0105_01.prog = PySem.Challenge.rw_ph0105_01.prog ∧ Mine.hd.heap_1 = Mine.hd.heap_1 := by
  k_fill
  exact ⟨rfl, rfl⟩
theorem digs_zero {k n : Nat} {x : Int} {v : Value} (hk : k = 0) : IntsAre (List.replicate k v) (digs n x k) := by subst hk; exact .nil
theorem rest_lt {d l : Nat} {rest : Led} (h : AllLt d rest) (hd : d ≤ l) : ∀ q ∈ rest, q.1 < l := fun q hq => Nat.lt_of_lt_of_le (lt_of_all h q hq) hd
abbrev ltT (a b : Nat) : Prop := a < b
abbrev neT (a b : Nat) : Prop := a ≠ b
theorem inn_cut {h₀ h : Heap} {L : Addr} {news : Led} {g : Obj → Led} {D : Addr} {o : Obj} (P : (Obj → Led) → Prop) {C : Prop} (_N : News h₀ L h news) (_hm : (D, o) ∈ news) (_U : UpdF D o news g) (inn : P g) (h : P g → C) : C := h inn
theorem inn_rec {P : Nat → Int → Int → Int → Tok → Tok → Tok → List Value → List Int → Prop} {nv : Int}
    (base : ∀ k x Lv Rv tx tl tr vs ns, Lv + 1 = Rv → 0 ≤ Lv → Lv < Rv → Rv ≤ (ns.length : Int) → (ns.length : Int) ≤ 20000 → (ns.length : Int) * nv ≤ 40000 → 0 ≤ x → x < 2 ^ (nv.toNat * (Rv - Lv).toNat) → intBits x ≤ 20000 → IntsAre vs ns → P k x Lv Rv tx tl tr vs ns)
    (step : ∀ k x Lv Rv tx tl tr vs ns, (∀ (x Lv Rv : Int) (tx tl tr : Tok) (vs : List Value) (ns : List Int), Rv - Lv ≤ 2 ^ k → 0 ≤ Lv → Lv < Rv → Rv ≤ ns.length → (ns.length : Int) ≤ 20000 → (ns.length : Int) * nv ≤ 40000 → 0 ≤ x → x < 2 ^ (nv.toNat * (Rv - Lv).toNat) → intBits x ≤ 20000 → IntsAre vs ns → P k x Lv Rv tx tl tr vs ns) →
      ¬ Lv + 1 = Rv → Rv - Lv ≤ 2 ^ (k + 1) → 0 ≤ Lv → Lv < Rv → Rv ≤ (ns.length : Int) → (ns.length : Int) ≤ 20000 → (ns.length : Int) * nv ≤ 40000 → 0 ≤ x → x < 2 ^ (nv.toNat * (Rv - Lv).toNat) → intBits x ≤ 20000 → IntsAre vs ns → P (k + 1) x Lv Rv tx tl tr vs ns) :
    ∀ (k : Nat) (x Lv Rv : Int) (tx tl tr : Tok) (vs : List Value) (ns : List Int), Rv - Lv ≤ 2 ^ k → 0 ≤ Lv → Lv < Rv → Rv ≤ ns.length → (ns.length : Int) ≤ 20000 → (ns.length : Int) * nv ≤ 40000 → 0 ≤ x → x < 2 ^ (nv.toNat * (Rv - Lv).toNat) → intBits x ≤ 20000 → IntsAre vs ns → P k x Lv Rv tx tl tr vs ns := by
  intro k
  induction k with
  | zero =>
    intro x Lv Rv tx tl tr vs ns hd hL hLR
    rw [Int.pow_zero] at hd
    exact base 0 x Lv Rv tx tl tr vs ns (by (first | lia | omega)) hL hLR
  | succ k IH =>
    intro x Lv Rv tx tl tr vs ns hd hL hLR
    by_cases hc : Lv + 1 = Rv
    · exact base _ x Lv Rv tx tl tr vs ns hc hL hLR
    · exact step k x Lv Rv tx tl tr vs ns IH hc hd hL hLR
theorem inn_base {nv x Lv Rv : Int} {tx : Tok} {vs : List Value} {ns : List Int} (hc : Lv + 1 = Rv) (hL : 0 ≤ Lv) (hR : Rv ≤ (ns.length : Int)) (hx0 : 0 ≤ x) (hx : x < 2 ^ (nv.toNat * (Rv - Lv).toNat))
    (hi : IntsAre (vs.set Lv.toNat (Value.int x tx)) (ns.set Lv.toNat x)) : IntsAre (vs.set Lv.toNat (Value.int x tx)) (wr nv.toNat x Lv.toNat Rv.toNat ns) := by
  rw [show (Rv - Lv).toNat = 1 by (first | lia | omega), Nat.mul_one] at hx
  rw [show Rv.toNat = Lv.toNat + 1 by (first | lia | omega), ← wr_base hx0 hx (by (first | lia | omega))]
  exact hi
def DigPost (av nv : Int) (rest : Led) (ps : Array Value) (c0 : Addr) (o0 : Obj) (v : Value) (news' : Led) : Prop :=
  ∃ l vs c oc, v = .ref l ∧ news' = (l, listOf vs.toArray 0) :: (c, oc) :: (30, tabObj #[rawInt ((32 : Nat) : Int), rawInt ((4 : Nat) : Int), .ref c]) :: rest ∧ IntsAre vs (digs nv.toNat av (ndig av nv).toNat) ∧
    CodeFact (Str.ofString "_int2digits.<locals>.inner") oc ∧ (ps = #[] ∨ (c = c0 ∧ oc = o0)) ∧ (∀ q ∈ rest, q.1 < l) ∧ neT l c ∧ ltT 30 l
theorem code_neT {h₀ h : Heap} {L x y : Addr} {oc : Obj} {its : Array Value} {e : Nat} {qual : Str} {news : Led} (N : News h₀ L h news) (hx : (x, listOf its e) ∈ news) (hy : (y, oc) ∈ news) (hf : CodeFact qual oc) : neT x y := code_ne N hx hy hf
section
local macro_rules | `(tactic| walk_at "exec FunctionDef") => `(tactic| fail "by hand")
local macro_rules | `(tactic| walk_at "binaryOp FloorDiv int int") => `(tactic| ((with_reducible refine floordiv_line ?kb1 ?kb2 ?_); (case kb1 => assumption); (case kb2 => assumption)))
local macro_rules | `(tactic| walk_at "binaryOp Mult ref int") => `(tactic| (k_here; k_dflt (refine' mul_rep ?F ?N ?mm ?lo ?hi ?_; (case F => k_asm); (case N => k_asm); (case mm => k_mem); (case lo => assumption); (case hi => assumption); k_whole); intro D' h' F' N' l1; (try k_lt l1); (try k_sweep)))
set_option maxRecDepth 100000 in
set_option maxHeartbeats 8000000 in
theorem d35 {w : World} {av nv : Int} {ta tn : Tok} {rest : Led} {ps : Array Value} {c0 : Addr} {o0 : Obj}
   (h0 : 0 ≤ av) (hn1 : 1 ≤ nv) (hab : intBits av ≤ 20000) (hnb : nv ≤ 20000) (hr : ∀ q ∈ rest, q.1 ≠ 30)
   (hst : TabSt 32 4 (Str.ofString "_int2digits.<locals>.inner") ((30, tabObj ps) :: rest) ps c0 o0) :
   Ct w 35 [.int av ta, .int nv tn] ((30, tabObj ps) :: rest) 40 (DigPost av nv rest ps c0 o0) := by
  intro p loose mean mg mb dp un gd cn cs a ccd cl outer A₀ base h₀ L m s Q E B F X N T hk hd hu ret
  have hn0 : nv ≠ 0 := by (first | lia | omega)
  have hpy : Builtin.divisionGoesByPylong ((intBits av : Int) + nv - 1) nv = false := PyProof.noPylong_small (by (first | lia | omega))
  obtain ⟨k0, k1, k2, k3, k4⟩ := ndig_spec h0 hn1 hab
  refine wpAny_call ?_
  k_dflt (refine' code_defC ?k1 ?k2 ?k3 ?k4 ?k5 ?kA ?kF ?kK ?k6 ?k7 ?k8 ?k9 ?kB ?kD ?_ ?c2 ?c3 ?c4; (case kA => exact rfl); (case kF => exact rfl); (case kK => assumption); (case k1 => k_asm); (case k2 => k_asm); (case k3 => k_asm); (case k4 => k_asm); (case k5 => k_asm); (case k6 => k_is); (case k7 => k_is); (case k8 => ktr_room); (case k9 => exact BindsTo.of_eq rfl); (case kB => exact rfl); (case kD => decide +kernel); (case c2 => exact rfl); (case c3 => exact rfl); (case c4 => exact rfl); k_whole; intro g' L' h' tk' cells' FG' F' N' Y' B' X' T' l1; (try k_lt l1))
  have hY := CellsAre.three Y'
  obtain ⟨o1, o2, o3, hE', d1', d2', d3'⟩ := hY
  subst hE'
  clear Y'
  simp only [List.cons_append, List.nil_append] at N'
  try dsimp only
  try k_fold
  have lr : AllLt L' rest := l1.2
  have C30 := codeHd30 X'
  k_steps
  k_dflt (refine' nestDef_K ?d0 ?k0 ?a0 ?_; (case d0 => exact rfl); (case k0 => exact rfl); (case a0 => exact rfl))
  k_dflt (refine' nest_any ?F ?N ?T ?C ?cd ?U ?st ?cl ?_; (case F => k_asm); (case N => k_asm); (case T => k_asm); (case cd => exact rfl); (case C => kn_code); (case U => k_updF); (case st => exact TabSt.mono hst (by kcj_in)); (case cl => exact rfl); k_whole)
  intro fi c' oc ct dc h2 tk2 F2 N2 cf lf1 lf2 cs2
  dsimp only at N2
  k_lt lf1
  obtain ⟨cvs, ctk, hd1, hd2⟩ := cf
  have ne1 : neT c' (L' + 1 + 1 + 1) := ne_of_data N2 (.tail _ (.head _)) (.tail _ (.tail _ (.tail _ (.tail _ (.head _))))) (by rw [hd1, d1']; nofun)
  have ne2 := code_neT N2 (.tail _ (.tail _ (.head _))) (.tail _ (.head _)) ⟨cvs, ctk, hd1, hd2⟩
  unfold neT at ne1 ne2
  k_dflt (refine' storeX_C ?F ?N ?c ?U ?d ?_ ?a ?b; (case a => rfl); (case b => rfl); (case F => k_asm); (case N => k_asm); (case c => rfl); (case U => k_updF); (case d => k_asm); k_whole; intro h3 o4 F3 N3 d4; (try dsimp only at N3); (try k_sweep))
  (try dsimp only)
  refine inn_cut (fun g => ∀ (k : Nat) (x Lv Rv : Int) (tx tl tr : Tok) (vs : List Value) (ns : List Int), Rv - Lv ≤ 2 ^ k → 0 ≤ Lv → Lv < Rv → Rv ≤ ns.length → (ns.length : Int) ≤ 20000 → (ns.length : Int) * nv ≤ 40000 → 0 ≤ x → x < 2 ^ (nv.toNat * (Rv - Lv).toNat) → intBits x ≤ 20000 → IntsAre vs ns →
    Ct w fi [.int x tx, .int Lv tl, .int Rv tr] (g (listOf vs.toArray 0)) (k + 1) (fun v news' => v = .none ∧ ∃ vs', news' = g (listOf vs'.toArray 0) ∧ IntsAre vs' (wr nv.toNat x Lv.toNat Rv.toNat ns))) N3 (.tail _ (.tail _ (.head _))) (by k_updF) ?_ ?_
  · refine inn_rec (fun k x Lv Rv tx tl tr vs ns hc hL hLR hR hlen hln hx0 hx hxb hi => ?_) (fun k x Lv Rv tx tl tr vs ns IH hc hd9 hL hLR hR hlen hln hx0 hx hxb hi => ?_)
    · intro p loose mean mg mb dp un gd cn cs a ccd cl outer A₀ base h₀ L m s Q E B F X N T hk hd hu ret
      have hc1 : (Lv + 1 == Rv) = true := beq_iff_eq.mpr hc
      refine wpAny_call ?_
      k_dflt (refine' code_nest ?k1 ?k2 ?k3 ?k4 ?k5 ?kA ?kF ?kK ?k6 ?k7 ?k8 ?k9 ?kB ?_ ?c2 ?c3 ?c4 ?c5; (case kA => exact rfl); (case kF => exact rfl); (case kK => assumption); (case k1 => k_asm); (case k2 => k_asm); (case k3 => k_asm); (case k4 => k_asm); (case k5 => k_asm); (case k6 => k_mem); (case k7 => exact codeRec_news (by k_asm) (by k_mem) hd1 hd2); (case k8 => ktr_room); (case k9 => exact BindsTo.of_eq rfl); (case c5 => decide); (case kB => exact locs rfl); (case c2 => exact rfl); (case c3 => exact rfl); (case c4 => exact rfl); k_whole; intro g' L' h' FG' F' N' B' X' T'; (try dsimp only); (try k_fold))
      k_steps
      exact ret _ _ _ _ ⟨rfl, _, rfl, inn_base hc hL hR hx0 hx (by assumption)⟩ (by k_asm) (by k_asm)
    · intro p loose mean mg mb dp un gd cn cs a ccd cl outer A₀ base h₀ L m s Q E B F X N T hk hd hu ret
      have hc1 : ¬ ((Lv + 1 == Rv) = true) := fun e => hc (beq_iff_eq.mp e)
      obtain ⟨m1, m2, m3, m4, v1, v2, s1, s2, s3, q1, q2, q3, u1, u2, u3, e1, e2⟩ := innF_of hn1 hnb hd9 hL hLR hc hR hlen hln hx0 hx hxb
      refine wpAny_call ?_
      k_dflt (refine' code_nest ?k1 ?k2 ?k3 ?k4 ?k5 ?kA ?kF ?kK ?k6 ?k7 ?k8 ?k9 ?kB ?_ ?c2 ?c3 ?c4 ?c5; (case kA => exact rfl); (case kF => exact rfl); (case kK => assumption); (case k1 => k_asm); (case k2 => k_asm); (case k3 => k_asm); (case k4 => k_asm); (case k5 => k_asm); (case k6 => k_mem); (case k7 => exact codeRec_news (by k_asm) (by k_mem) hd1 hd2); (case k8 => ktr_room); (case k9 => exact BindsTo.of_eq rfl); (case c5 => decide); (case kB => exact locs rfl); (case c2 => exact rfl); (case c3 => exact rfl); (case c4 => exact rfl); k_whole; intro g' L' h' FG' F' N' B' X' T'; (try dsimp only); (try k_fold))
      k_steps
      k_dflt (refine' Ct.use (IH _ _ _ _ _ _ _ _ ?p1 ?p2 ?p3 ?p4 ?p5 ?p6 ?p7 ?p8 ?p9 ?p10) ?k1 ?k2 ?k3 ?k4 ?k5 ?kK ?kd ?ku ?_; (case k1 => k_asm); (case k2 => k_asm); (case k3 => k_asm); (case k4 => k_asm); (case k5 => k_asm); (case kK => first | exact rfl | assumption); (case p10 => assumption); (case p1 => assumption); (case p2 => assumption); (case p3 => assumption); (case p4 => first | assumption | (rw [wr_length]; assumption)); (case p5 => first | assumption | (rw [wr_length]; assumption)); (case p6 => first | assumption | (rw [wr_length]; assumption)); (case p7 => assumption); (case p8 => assumption); (case p9 => assumption); (case kd => ktr_room); (case ku => ktr_units); k_whole)
      intro v5 n5 h5 tk5 hP F5 N5
      obtain ⟨rfl, vs5, rfl, hi5⟩ := hP
      k_sweep
      k_steps
      k_dflt (refine' Ct.use (IH _ _ _ _ _ _ _ _ ?p1 ?p2 ?p3 ?p4 ?p5 ?p6 ?p7 ?p8 ?p9 ?p10) ?k1 ?k2 ?k3 ?k4 ?k5 ?kK ?kd ?ku ?_; (case k1 => k_asm); (case k2 => k_asm); (case k3 => k_asm); (case k4 => k_asm); (case k5 => k_asm); (case kK => first | exact rfl | assumption); (case p10 => assumption); (case p1 => assumption); (case p2 => assumption); (case p3 => assumption); (case p4 => first | assumption | (rw [wr_length]; assumption)); (case p5 => first | assumption | (rw [wr_length]; assumption)); (case p6 => first | assumption | (rw [wr_length]; assumption)); (case p7 => assumption); (case p8 => assumption); (case p9 => assumption); (case kd => ktr_room); (case ku => ktr_units); k_whole)
      intro v6 n6 h6 tk6 hP F6 N6
      obtain ⟨rfl, vs6, rfl, hi6⟩ := hP
      k_sweep
      k_steps
      rw [e1] at hi6
      rw [e2] at hi6
      rw [wr_split (by (first | lia | omega)) (by (first | lia | omega))] at hi6
      exact ret _ _ _ _ ⟨rfl, _, rfl, hi6⟩ (by k_asm) (by k_asm)
  · intro INN
    have kln : (List.replicate (ndig av nv).toNat (0 : Int)).length = (ndig av nv).toNat := List.length_replicate
    have hmul := ndig_mul hn1 hnb hab
    have cf : CodeFact (Str.ofString "_int2digits.<locals>.inner") oc := ⟨cvs, ctk, hd1, hd2⟩
    have hir := ints_rep (ndig av nv).toNat tk'
    by_cases hav : av = 0
    · have hav' : ¬ ((av != 0) = true) := by simpa using hav
      k_steps
      exact ret _ _ _ _ ⟨_, _, c', oc, rfl, rfl, digs_zero (by have := k4 hav; (first | lia | omega)), cf, cs2, rest_lt lr (by (first | lia | omega)), ne2, by unfold ltT; (first | lia | omega)⟩ (by k_asm) (cb_drop (by k_asm) (by kcj_in))
    · have hav' : (av != 0) = true := by simpa using hav
      k_steps
      have hlen : ((List.replicate (ndig av nv).toNat (0 : Int)).length : Int) = ndig av nv := by rw [kln]; (first | lia | omega)
      rw [hlen]
      k_dflt (refine' Ct.use (INN 15 _ _ _ _ _ _ _ _ ?p1 ?p2 ?p3 ?p4 ?p5 ?p6 ?p7 ?p8 ?p9 ?p10) ?k1 ?k2 ?k3 ?k4 ?k5 ?kK ?kd ?ku ?_; (case k1 => k_asm); (case k2 => k_asm); (case k3 => k_asm); (case k4 => k_asm); (case k5 => k_asm); (case kK => first | exact rfl | assumption); (case p10 => assumption); (case p1 => (first | lia | omega)); (case p2 => decide); (case p3 => (have := k3 hav; (first | lia | omega))); (case p4 => (first | lia | omega)); (case p5 => (first | lia | omega)); (case p6 => (rw [hlen]; assumption)); (case p7 => assumption); (case p8 => (rw [Int.sub_zero]; assumption)); (case p9 => assumption); (case kd => ktr_room); (case ku => ktr_units); k_whole)
      intro v5 n5 h5 tk5 hP F5 N5
      obtain ⟨rfl, vs5, rfl, hi5⟩ := hP
      k_sweep
      k_steps
      rw [show (0 : Int).toNat = 0 from rfl, wr_all] at hi5
      exact ret _ _ _ _ ⟨_, _, c', oc, rfl, rfl, hi5, cf, cs2, rest_lt lr (by (first | lia | omega)), ne2, by unfold ltT; (first | lia | omega)⟩ (by k_asm) (cb_drop (by k_asm) (by kcj_in))
end
end Mine
end
theorem Mine.offC35 : True := by
  w_top off
  trivial
section
open PySem PySem.W PyProof.Rows
namespace Mine
open PySem.Builtin.Int (intBits)
theorem reg5 : PySem.Challenge.rw_ph0105_01.prog = PySem.Challenge.rw_ph0105_01.prog ∧ Mine.hd.heap_1 = Mine.hd.heap_1 := by
  k_fill
  exact ⟨rfl, rfl⟩
theorem int_eq {x y : Int} {t : Tok} (e : x = y) : ∃ t', Value.int x t = Value.int y t' := ⟨t, by rw [e]⟩
theorem inn_cutN {h₀ h : Heap} {L : Addr} {news : Led} (P : Led → Prop) {C : Prop} (_N : News h₀ L h news) (inn : P news) (h : P news → C) : C := h inn
theorem inn2_rec {P : Nat → Int → Int → Tok → Tok → Prop} {len : Int}
    (base : ∀ k Lv Rv tl tr, Lv + 1 = Rv → 0 ≤ Lv → Lv < Rv → Rv ≤ len → P k Lv Rv tl tr)
    (step : ∀ k Lv Rv tl tr, (∀ (Lv Rv : Int) (tl tr : Tok), Rv - Lv ≤ 2 ^ k → 0 ≤ Lv → Lv < Rv → Rv ≤ len → P k Lv Rv tl tr) → ¬ Lv + 1 = Rv → Rv - Lv ≤ 2 ^ (k + 1) → 0 ≤ Lv → Lv < Rv → Rv ≤ len → P (k + 1) Lv Rv tl tr) :
    ∀ (k : Nat) (Lv Rv : Int) (tl tr : Tok), Rv - Lv ≤ 2 ^ k → 0 ≤ Lv → Lv < Rv → Rv ≤ len → P k Lv Rv tl tr := by
  intro k
  induction k with
  | zero =>
    intro Lv Rv tl tr hd hL hLR
    rw [Int.pow_zero] at hd
    exact base 0 Lv Rv tl tr (by (first | lia | omega)) hL hLR
  | succ k IH =>
    intro Lv Rv tl tr hd hL hLR
    by_cases hc : Lv + 1 = Rv
    · exact base _ Lv Rv tl tr hc hL hLR
    · exact step k Lv Rv tl tr IH hc hd hL hLR
def ValPost (x : Int) (rest : Led) (ps : Array Value) (c0 : Addr) (o0 : Obj) (v : Value) (news' : Led) : Prop :=
  ∃ t c oc, v = .int x t ∧ news' = (c, oc) :: (37, tabObj #[rawInt ((47 : Nat) : Int), rawInt ((4 : Nat) : Int), .ref c]) :: rest ∧
    CodeFact (Str.ofString "_digits2int.<locals>.inner") oc ∧ (ps = #[] ∨ (c = c0 ∧ oc = o0))
section
local macro_rules | `(tactic| walk_at "exec FunctionDef") => `(tactic| fail "by hand")
local macro_rules | `(tactic| walk_at "truthy ref") => `(tactic| (k_here; k_dflt (refine' truthy_line ?N ?mm ?ii ?ff ?_; (case N => k_asm); (case mm => exact List.Mem.tail _ (.tail _ (.tail _ (.tail _ (.tail _ (.tail _ (by assumption))))))); (case ii => assumption); (case ff => assumption); k_whole); intro tk'))
local macro_rules | `(tactic| walk_at "call builtin:len") => `(tactic| (k_here; k_dflt (refine' len_line ?N ?mm ?ii ?ff ?_; (case N => k_asm); (case mm => exact List.Mem.tail _ (.tail _ (.tail _ (.tail _ (.tail _ (.tail _ (by assumption))))))); (case ii => assumption); (case ff => assumption); k_whole); intro t' tk'))
local macro_rules | `(tactic| walk_at "subscriptTail") => `(tactic| (k_here; (with_reducible show wpAny _ _ (subscriptTail _ _ (Value.ref _) (Value.int _ _)) _ _ _); k_dflt (refine' ksa_sub ?k1 ?k2 ?k3 ?k4 ?k5 ?k6 ?_ ?k7; (case k1 => k_asm); (case k2 => exact List.Mem.tail _ (.tail _ (.tail _ (.tail _ (.tail _ (.tail _ (by assumption))))))); (case k3 => assumption); (case k4 => assumption); (case k5 => (first | lia | omega)); (case k6 => (first | lia | omega)); (case k7 => with_unfolding_all rfl); k_whole); intro _))
set_option maxRecDepth 100000 in
set_option maxHeartbeats 8000000 in
theorem d42 {w : World} {ql : Addr} {e : Nat} {vs : List Value} {ds : List Int} {nv : Int} {tn : Tok} {rest : Led} {ps : Array Value} {c0 : Addr} {o0 : Obj}
   (hn1 : 1 ≤ nv) (hnb : nv ≤ 20000) (hlen : (ds.length : Int) ≤ 20000) (hln : (ds.length : Int) * nv ≤ 40000) (hds : ∀ d ∈ ds, 0 ≤ d ∧ d < 2 ^ nv.toNat) (hql : (ql, listOf vs.toArray e) ∈ rest) (hi : IntsAre vs ds) (hr : ∀ q ∈ rest, q.1 ≠ 37)
   (hst : TabSt 47 4 (Str.ofString "_digits2int.<locals>.inner") ((37, tabObj ps) :: rest) ps c0 o0) :
   Ct w 42 [.ref ql, .int nv tn] ((37, tabObj ps) :: rest) 40 (ValPost (val nv.toNat ds) rest ps c0 o0) := by
  intro p loose mean mg mb dp un gd cn cs a ccd cl outer A₀ base h₀ L m s Q E B F X N T hk hd hu ret
  refine wpAny_call ?_
  k_dflt (refine' code_defC ?k1 ?k2 ?k3 ?k4 ?k5 ?kA ?kF ?kK ?k6 ?k7 ?k8 ?k9 ?kB ?kD ?_ ?c2 ?c3 ?c4; (case kA => exact rfl); (case kF => exact rfl); (case kK => assumption); (case k1 => k_asm); (case k2 => k_asm); (case k3 => k_asm); (case k4 => k_asm); (case k5 => k_asm); (case k6 => k_is); (case k7 => k_is); (case k8 => ktr_room); (case k9 => exact BindsTo.of_eq rfl); (case kB => exact rfl); (case kD => decide +kernel); (case c2 => exact rfl); (case c3 => exact rfl); (case c4 => exact rfl); k_whole; intro g' L' h' tk' cells' FG' F' N' Y' B' X' T' l1; (try k_lt l1))
  have hY := CellsAre.three Y'
  obtain ⟨o1, o2, o3, hE', d1', d2', d3'⟩ := hY
  subst hE'
  clear Y'
  simp only [List.cons_append, List.nil_append] at N'
  try dsimp only
  try k_fold
  have lr : AllLt L' rest := l1.2
  have C37 := codeHd37 X'
  k_steps
  k_dflt (refine' nestDef_K ?d0 ?k0 ?a0 ?_; (case d0 => exact rfl); (case k0 => exact rfl); (case a0 => exact rfl))
  k_dflt (refine' nest_any ?F ?N ?T ?C ?cd ?U ?st ?cl ?_; (case F => k_asm); (case N => k_asm); (case T => k_asm); (case cd => exact rfl); (case C => kn_code); (case U => k_updF); (case st => exact TabSt.mono hst (by kcj_in)); (case cl => exact rfl); k_whole)
  intro fi c' oc ct dc h2 tk2 F2 N2 cf lf1 lf2 cs2
  dsimp only at N2
  k_lt lf1
  obtain ⟨cvs, ctk, hd1, hd2⟩ := cf
  have ne1 : neT c' (L' + 1 + 1 + 1) := ne_of_data N2 (.tail _ (.head _)) (.tail _ (.tail _ (.head _))) (by rw [hd1, d1']; nofun)
  unfold neT at ne1
  k_dflt (refine' storeX_C ?F ?N ?c ?U ?d ?_ ?a ?b; (case a => rfl); (case b => rfl); (case F => k_asm); (case N => k_asm); (case c => rfl); (case U => k_updF); (case d => k_asm); k_whole; intro h3 o4 F3 N3 d4; (try dsimp only at N3); (try k_sweep))
  (try dsimp only)
  refine inn_cutN (fun news => ∀ (k : Nat) (Lv Rv : Int) (tl tr : Tok), Rv - Lv ≤ 2 ^ k → 0 ≤ Lv → Lv < Rv → Rv ≤ ds.length →
    Ct w fi [.int Lv tl, .int Rv tr] news (k + 1) (fun v news' => (∃ t, v = .int (val nv.toNat (sl ds Lv.toNat Rv.toNat)) t) ∧ news' = news)) N3 ?_ ?_
  · refine inn2_rec (fun k Lv Rv tl tr hc hL hLR hR => ?_) (fun k Lv Rv tl tr IH hc hd9 hL hLR hR => ?_)
    · intro p loose mean mg mb dp un gd cn cs a ccd cl outer A₀ base h₀ L m s Q E B F X N T hk hd hu ret
      have hc1 : (Lv + 1 == Rv) = true := beq_iff_eq.mpr hc
      refine wpAny_call ?_
      k_dflt (refine' code_nest ?k1 ?k2 ?k3 ?k4 ?k5 ?kA ?kF ?kK ?k6 ?k7 ?k8 ?k9 ?kB ?_ ?c2 ?c3 ?c4 ?c5; (case kA => exact rfl); (case kF => exact rfl); (case kK => assumption); (case k1 => k_asm); (case k2 => k_asm); (case k3 => k_asm); (case k4 => k_asm); (case k5 => k_asm); (case k6 => k_mem); (case k7 => exact codeRec_news (by k_asm) (by k_mem) hd1 hd2); (case k8 => ktr_room); (case k9 => exact BindsTo.of_eq rfl); (case c5 => decide); (case kB => exact locs rfl); (case c2 => exact rfl); (case c3 => exact rfl); (case c4 => exact rfl); k_whole; intro g' L' h' FG' F' N' B' X' T'; (try dsimp only); (try k_fold))
      k_steps
      refine ret _ _ _ _ ⟨int_eq ?_, rfl⟩ (by k_asm) (by k_asm)
      rw [show Rv.toNat = Lv.toNat + 1 by (first | lia | omega), sl_one (by (first | lia | omega)), val_one]
    · intro p loose mean mg mb dp un gd cn cs a ccd cl outer A₀ base h₀ L m s Q E B F X N T hk hd hu ret
      have hc1 : ¬ ((Lv + 1 == Rv) = true) := fun e => hc (beq_iff_eq.mp e)
      obtain ⟨m1, m2, m3, m4, v1, v2, s1, s2, s3, e1⟩ := inn2F_of hn1 hnb hds hd9 hL hLR hc hR hlen hln
      refine wpAny_call ?_
      k_dflt (refine' code_nest ?k1 ?k2 ?k3 ?k4 ?k5 ?kA ?kF ?kK ?k6 ?k7 ?k8 ?k9 ?kB ?_ ?c2 ?c3 ?c4 ?c5; (case kA => exact rfl); (case kF => exact rfl); (case kK => assumption); (case k1 => k_asm); (case k2 => k_asm); (case k3 => k_asm); (case k4 => k_asm); (case k5 => k_asm); (case k6 => k_mem); (case k7 => exact codeRec_news (by k_asm) (by k_mem) hd1 hd2); (case k8 => ktr_room); (case k9 => exact BindsTo.of_eq rfl); (case c5 => decide); (case kB => exact locs rfl); (case c2 => exact rfl); (case c3 => exact rfl); (case c4 => exact rfl); k_whole; intro g' L' h' FG' F' N' B' X' T'; (try dsimp only); (try k_fold))
      k_steps
      k_dflt (refine' Ct.use (IH _ _ _ _ ?p1 ?p2 ?p3 ?p4) ?k1 ?k2 ?k3 ?k4 ?k5 ?kK ?kd ?ku ?_; (case k1 => k_asm); (case k2 => k_asm); (case k3 => k_asm); (case k4 => k_asm); (case k5 => k_asm); (case kK => first | exact rfl | assumption); (case p1 => first | assumption | (first | lia | omega)); (case p2 => first | assumption | decide); (case p3 => first | assumption | (first | lia | omega)); (case p4 => first | assumption | (first | lia | omega)); (case kd => ktr_room); (case ku => ktr_units); k_whole)
      intro v5 n5 h5 tk5 hP F5 N5
      obtain ⟨⟨t5, rfl⟩, rfl⟩ := hP
      k_sweep
      k_steps
      k_dflt (refine' Ct.use (IH _ _ _ _ ?p1 ?p2 ?p3 ?p4) ?k1 ?k2 ?k3 ?k4 ?k5 ?kK ?kd ?ku ?_; (case k1 => k_asm); (case k2 => k_asm); (case k3 => k_asm); (case k4 => k_asm); (case k5 => k_asm); (case kK => first | exact rfl | assumption); (case p1 => first | assumption | (first | lia | omega)); (case p2 => first | assumption | decide); (case p3 => first | assumption | (first | lia | omega)); (case p4 => first | assumption | (first | lia | omega)); (case kd => ktr_room); (case ku => ktr_units); k_whole)
      intro v6 n6 h6 tk6 hP F6 N6
      obtain ⟨⟨t6, rfl⟩, rfl⟩ := hP
      k_sweep
      k_steps
      refine ret _ _ _ _ ⟨int_eq ?_, rfl⟩ (by k_asm) (by k_asm)
      rw [← e1]
  · intro INN
    have cf : CodeFact (Str.ofString "_digits2int.<locals>.inner") oc := ⟨cvs, ctk, hd1, hd2⟩
    by_cases hz : ds = []
    · have hz' : ¬ (decide (0 < ds.length) = true) := by simp [hz]
      k_steps
      refine ret _ _ _ _ ⟨_, c', oc, congrArg (fun z => Value.int z _) ?_, rfl, cf, cs2⟩ (by k_asm) (cb_drop (by k_asm) (by kcj_in))
      rw [hz]; rfl
    · have hz' : decide (0 < ds.length) = true := decide_eq_true (List.length_pos_iff.mpr hz)
      have hz2 : 0 < ds.length := List.length_pos_iff.mpr hz
      k_steps
      k_dflt (refine' Ct.use (INN 15 _ _ _ _ ?p1 ?p2 ?p3 ?p4) ?k1 ?k2 ?k3 ?k4 ?k5 ?kK ?kd ?ku ?_; (case k1 => k_asm); (case k2 => k_asm); (case k3 => k_asm); (case k4 => k_asm); (case k5 => k_asm); (case kK => first | exact rfl | assumption); (case p1 => first | assumption | (first | lia | omega)); (case p2 => first | assumption | decide); (case p3 => first | assumption | (first | lia | omega)); (case p4 => first | assumption | (first | lia | omega)); (case kd => ktr_room); (case ku => ktr_units); k_whole)
      intro v5 n5 h5 tk5 hP F5 N5
      obtain ⟨⟨t5, rfl⟩, rfl⟩ := hP
      k_sweep
      k_steps
      refine ret _ _ _ _ ⟨_, c', oc, congrArg (fun z => Value.int z _) ?_, rfl, cf, cs2⟩ (by k_asm) (cb_drop (by k_asm) (by kcj_in))
      rw [show (0 : Int).toNat = 0 from rfl, Int.toNat_natCast, sl_all]
end
end Mine
end
theorem Mine.offC42 : True := by
  w_top off
  trivial
section
open PySem PySem.W PyProof.Rows
namespace Mine
open PySem.Builtin.Int (intBits)
theorem Ct.lv_mono {w : World} {f : Addr} {vs : List Value} {news : Led} {lv lv' : Nat} {Post : Value → Led → Prop} (C : Ct w f vs news lv Post) (h : lv ≤ lv') : Ct w f vs news lv' Post :=
  fun p loose mean mg mb dp un gd cn cs a ccd cl outer A₀ base h₀ L m s Q E B F X N T hk hd hu ret => C p loose mean mg mb dp un gd cn cs a ccd cl outer A₀ base h₀ L m s Q E B F X N T hk (by (first | lia | omega)) (by (first | lia | omega)) ret
/-- the same at a larger ledger, in another order -/
theorem Ct.useR {w : World} {f : Addr} {vs : List Value} {news led : Led} {lv : Nat} {Post : Value → Led → Prop} (C : Ct w f vs news lv Post)
    {p : Program} {loose : List Str} {mean : ExcName → Option Value} {mg mb : Str → Option Value} {dp un : Nat} {gd : Option (List Code)} {cn : Str} {cs : Scope} {a : Addr} {ccd : Value} {cl : List (Str × Addr)} {outer : List Env} {A₀ : Around} {base h₀ : Heap} {L : Addr} {m : Str → Option Value} {s : Shared} {Q E : Value → Shared → Prop}
    (B : Below A₀ base outer h₀) (F : Fr h₀ L s.heap m) (X : (Mine.hd.heap_1 w.params).In h₀) (N : News h₀ L s.heap led) (sub : ∀ q ∈ news, q ∈ led) (T : Top p loose mean mg mb h₀) (hk : cs.kind = .function)
    (hd : dp + lv < recursionLimit) (hu : un + 8 * lv < cLine)
    (ret : ∀ v news' h' tk', Post v news' → Fr h₀ L h' m → News h₀ L h' news' → Q v { s with heap := h', toks := tk' }) :
    wpAny (model prg w) (ktrTop dp un gd cn cs L a ccd cl outer) (call (.ref f) vs) Q E s :=
  C p loose mean mg mb dp un gd cn cs a ccd cl outer A₀ base h₀ L m s Q E B F X (cb_drop N sub) T hk hd hu ret
theorem d21 {w : World} {av bv nv : Int} {ta tb tn : Tok} {news : Led}
   (h0 : 0 ≤ av) (hlt : av < bv * 2 ^ nv.toNat) (hb1 : 2 ^ (nv.toNat - 1) ≤ bv) (hb2 : bv < 2 ^ nv.toNat) (hn1 : 1 ≤ nv) (hn2 : nv ≤ 7999) :
   Ct w 21 [.int av ta, .int bv tb, .int nv tn] news 3 (Pair news (Int.fdiv av bv) (Int.fmod av bv)) := by
  have hp := kbt_pos (nv.toNat - 1)
  by_cases hs : (intBits av : Int) - nv ≤ 4000
  · exact (d21_small (by (first | lia | omega)) hs (noPy (Nat.le_trans (bits_lt (by (first | lia | omega)) hb2) (by (first | lia | omega))))).lv_mono (by decide)
  · exact d21_big h0 hlt hb1 hb2 hn1 hn2 hs

noncomputable def hst (b : Int) (n : Nat) (p : Int × List Int) (d : Int) : Int × List Int := ((p.1 * 2 ^ n + d).fmod b, p.2 ++ [(p.1 * 2 ^ n + d).fdiv b])
noncomputable def hfold (b : Int) (n : Nat) (l : List Int) : Int × List Int := l.foldl (hst b n) (0, [])
theorem hfold_snoc {b : Int} {n : Nat} {l : List Int} {d : Int} : hfold b n (l ++ [d]) = hst b n (hfold b n l) d := by
  unfold hfold; rw [List.foldl_append]; rfl
theorem hfold_spec {b : Int} {n : Nat} (hb : 0 < b) : ∀ (m : List Int), (∀ d ∈ m, 0 ≤ d ∧ d < 2 ^ n) →
    0 ≤ (hfold b n m.reverse).1 ∧ (hfold b n m.reverse).1 < b ∧ (∀ q ∈ (hfold b n m.reverse).2, 0 ≤ q ∧ q < 2 ^ n) ∧ (hfold b n m.reverse).2.length = m.length ∧
      val n (hfold b n m.reverse).2.reverse * b + (hfold b n m.reverse).1 = val n m
  | [], _ => by simp [hfold, val, hb]
  | d :: m, h => by
    obtain ⟨i1, i2, i3, i4, i5⟩ := hfold_spec hb m fun x hx => h x (.tail _ hx)
    have hd := h d (.head _)
    rw [List.reverse_cons, hfold_snoc]
    unfold hst
    generalize (hfold b n m.reverse).1 = r at *
    generalize (hfold b n m.reverse).2 = qs at *
    have hp := kbt_pos n
    have k := fdivmod_pos (a := r * 2 ^ n + d) hb
    have h1 : 0 ≤ r * 2 ^ n := Int.mul_nonneg i1 (Int.le_of_lt hp)
    have h2 : (r + 1) * 2 ^ n ≤ b * 2 ^ n := Int.mul_le_mul_of_nonneg_right (by (first | lia | omega)) (Int.le_of_lt hp)
    rw [Int.add_mul, Int.one_mul] at h2
    have hq0 : 0 ≤ (r * 2 ^ n + d).fdiv b := Int.fdiv_nonneg (by (first | lia | omega)) (Int.le_of_lt hb)
    have hq1 : (r * 2 ^ n + d).fdiv b < 2 ^ n := by
      refine Int.lt_of_mul_lt_mul_right (a := b) ?_ (Int.le_of_lt hb)
      rw [Int.mul_comm (2 ^ n) b]; (first | lia | omega)
    refine ⟨k.2.1, k.2.2, fun q hq => ?_, ?_, ?_⟩
    · rcases List.mem_append.mp hq with hq | hq
      · exact i3 q hq
      · rw [List.mem_singleton.mp hq]; exact ⟨hq0, hq1⟩
    · simp [i4]
    · show val n (qs ++ [(r * 2 ^ n + d).fdiv b]).reverse * b + (r * 2 ^ n + d).fmod b = d + val n m * 2 ^ n
      rw [List.reverse_append]
      show ((r * 2 ^ n + d).fdiv b + val n qs.reverse * 2 ^ n) * b + (r * 2 ^ n + d).fmod b = d + val n m * 2 ^ n
      rw [← i5]
      have := k.1
      generalize (r * 2 ^ n + d).fdiv b = q at *
      generalize (r * 2 ^ n + d).fmod b = r' at *
      grind
theorem bits_bounds {b : Int} (hb : 0 < b) : 2 ^ (intBits b - 1) ≤ b ∧ b < 2 ^ intBits b ∧ 1 ≤ intBits b := by
  have h2 := lt_bits (x := b) (Nat.le_refl _)
  unfold Builtin.Int.intBits at *
  rw [if_neg (by simp; (first | lia | omega))] at *
  refine ⟨?_, h2, by (first | lia | omega)⟩
  rw [Nat.add_sub_cancel, ← cast_pow]
  have := Nat.log2_self_le (n := b.natAbs) (by (first | lia | omega))
  (first | lia | omega)
end Mine
namespace Mine
open PySem.Builtin.Int (intBits)
theorem d49_turn {bv av : Int} {k i : Nat} {avs : List Value} {v : Value} {r : Int} {qs : List Int} (hb : 0 < bv) (hia : IntsAre avs (digs (intBits bv) av k)) (hi : i < avs.length) (hv : avs[avs.length - 1 - i]? = some v)
    (hP : (r, qs) = hfold bv (intBits bv) ((digs (intBits bv) av k).reverse.take i)) (hbb : intBits bv ≤ 7999) :
    ∃ d t, v = .int d t ∧ 0 ≤ r * 2 ^ intBits bv + d ∧ r * 2 ^ intBits bv + d < bv * 2 ^ intBits bv ∧ (intBits r : Int) + (intBits bv : Int) ≤ 2 ^ 27 ∧
      ((r * 2 ^ intBits bv + d).fmod bv, qs ++ [(r * 2 ^ intBits bv + d).fdiv bv]) = hfold bv (intBits bv) ((digs (intBits bv) av k).reverse.take (i + 1)) ∧ qs.length ≤ k := by
  have hl := hia.length
  have hd : (digs (intBits bv) av k)[avs.length - 1 - i]? = some ((digs (intBits bv) av k)[avs.length - 1 - i]'(by (first | lia | omega))) := List.getElem?_eq_getElem (by (first | lia | omega))
  obtain ⟨t, ht⟩ := hia.get _ _ hd
  rw [hv] at ht
  cases ht
  generalize hdd : (digs (intBits bv) av k)[avs.length - 1 - i]'(by (first | lia | omega)) = d at *
  have hmem : d ∈ digs (intBits bv) av k := List.mem_of_getElem? hd
  have hdr := digs_range _ hmem
  obtain ⟨s1, s2, _, s4, _⟩ := hfold_spec hb ((digs (intBits bv) av k).reverse.take i).reverse (fun x hx => digs_range x (List.mem_reverse.mp (List.mem_of_mem_take (List.mem_reverse.mp hx))))
  rw [List.reverse_reverse, ← hP] at s1 s2 s4
  have s5 : qs.length ≤ k := by
    have : (digs (intBits bv) av k).length = k := by simp [digs]
    have e : qs.length = ((digs (intBits bv) av k).reverse.take i).reverse.length := s4
    rw [List.length_reverse, List.length_take, List.length_reverse] at e
    (first | lia | omega)
  have hp := kbt_pos (intBits bv)
  have h1 : 0 ≤ r * 2 ^ intBits bv := Int.mul_nonneg s1 (Int.le_of_lt hp)
  have h2 : (r + 1) * 2 ^ intBits bv ≤ bv * 2 ^ intBits bv := Int.mul_le_mul_of_nonneg_right (by dsimp only at s2; (first | lia | omega)) (Int.le_of_lt hp)
  rw [Int.add_mul, Int.one_mul] at h2
  have h3 : intBits r ≤ intBits bv := bits_lt s1 (Int.lt_trans s2 (bits_bounds hb).2.1)
  refine ⟨d, t, rfl, by (first | lia | omega), by (first | lia | omega), by (first | lia | omega), ?_, s5⟩
  have h4 : (digs (intBits bv) av k).reverse[i]? = some d := by
    rw [List.getElem?_reverse (by (first | lia | omega)), ← hl]
    exact hd
  rw [List.take_add_one, h4, Option.toList_some, hfold_snoc, ← hP]
  rfl
theorem d49_end {bv av r : Int} {qs : List Int} {k : Nat} (h0 : 0 ≤ av) (hb : 0 < bv) (hk : av < 2 ^ (intBits bv * k)) (hP : (r, qs) = hfold bv (intBits bv) ((digs (intBits bv) av k).reverse.take k)) :
    av.fdiv bv = val (intBits bv) qs.reverse ∧ av.fmod bv = r ∧ (∀ d ∈ qs.reverse, 0 ≤ d ∧ d < 2 ^ intBits bv) ∧ qs.reverse.length = k := by
  have hlen : (digs (intBits bv) av k).length = k := by simp [digs]
  rw [List.take_of_length_le (by simp [hlen])] at hP
  obtain ⟨s1, s2, s3, s4, s5⟩ := hfold_spec hb (digs (intBits bv) av k) digs_range
  rw [← hP] at s1 s2 s3 s4 s5
  rw [val_digs h0 hk] at s5
  have e := fdivmod_of s1 s2 s5
  exact ⟨e.1, e.2, fun d hd => s3 d (List.mem_reverse.mp hd), by rw [List.length_reverse]; exact s4.trans hlen⟩
end Mine
end
theorem Mine.offHorner : True := by
  w_top off
  trivial
section
open PySem PySem.W PyProof.Rows
namespace Mine
open PySem.Builtin.Int (intBits)
theorem reg6 : PySem.Challenge.rw_ph0105_01.prog = PySem.Challenge.rw_ph0105_01.prog ∧ Mine.hd.heap_1 = Mine.hd.heap_1 := by
  k_fill
  exact ⟨rfl, rfl⟩
noncomputable abbrev q30 : Str := Str.ofString "_int2digits.<locals>.inner"
noncomputable abbrev q37 : Str := Str.ofString "_digits2int.<locals>.inner"
noncomputable abbrev tab30 (c : Addr) : Obj := tabObj #[rawInt ((32 : Nat) : Int), rawInt ((4 : Nat) : Int), .ref c]
noncomputable abbrev tab37 (c : Addr) : Obj := tabObj #[rawInt ((47 : Nat) : Int), rawInt ((4 : Nat) : Int), .ref c]
/-- what int_divmod and _divmod_pos hand back: a pair, the tables with their codes -/
def DmPost (x y : Int) (rest : Led) (p30 p37 : Array Value) (c0 c1 : Addr) (o0 o1 : Obj) (v : Value) (news' : Led) : Prop :=
  ∃ t t1 t2 c oc d od, v = .ref t ∧ news' = (t, tupObj [.int x t1, .int y t2]) :: (c, oc) :: (d, od) :: (30, tab30 c) :: (37, tab37 d) :: rest ∧
    CodeFact q30 oc ∧ CodeFact q37 od ∧ (p30 = #[] ∨ (c = c0 ∧ oc = o0)) ∧ (p37 = #[] ∨ (d = c1 ∧ od = o1)) ∧ (∀ q ∈ (c, oc) :: (d, od) :: (30, tab30 c) :: (37, tab37 d) :: rest, q.1 < t)
theorem ints_snoc {vs : List Value} {ns : List Int} {x : Int} {t : Tok} (h : IntsAre vs ns) : IntsAre (vs ++ [.int x t]) (ns ++ [x]) := by
  induction h with
  | nil => exact .cons _ _ .nil
  | cons i u _ ih => exact .cons i u ih
structure S49 where
  tr : Tok
  r : Int
  qs : List Int
  qvs : List Value
  e : Nat
def Stop (P : Prop) : Prop := P
theorem stop_of {P : Prop} (h : Stop P) : P := h
theorem stop_in {P : Prop} (h : P) : Stop P := h
section
local macro_rules | `(tactic| walk_at "exec For Name Call cons nil") => `(tactic| refine stop_of ?_)
local macro_rules | `(tactic| walk_at "call ref") => `(tactic| refine stop_of ?_)
local macro_rules | `(tactic| walk_at "call type:reversed") => `(tactic| refine stop_of ?_)
local macro_rules | `(tactic| walk_at "call builtin:list.reverse") => `(tactic| (k_here; k_dflt (refine' reverse_line ?k1 ?k2 ?k3 ?z ?_; (case k1 => k_asm); (case k2 => k_asm); (case k3 => k_upd); (case z => assumption); k_whole); intro h' F' N'; (try k_sweep)))
set_option maxRecDepth 100000 in
set_option maxHeartbeats 8000000 in
theorem d49 {w : World} {av bv : Int} {ta tb : Tok} {rest : Led} {p30 p37 : Array Value} {c0 c1 : Addr} {o0 o1 : Obj}
   (h0 : 0 ≤ av) (hb : 0 < bv) (hab : intBits av ≤ 20000) (hbb : intBits bv ≤ 7999) (hr : ∀ q ∈ rest, q.1 ≠ 30) (hr' : ∀ q ∈ rest, q.1 ≠ 37)
   (st30 : TabSt 32 4 q30 rest p30 c0 o0) (st37 : TabSt 47 4 q37 rest p37 c1 o1) :
   Ct w 49 [.int av ta, .int bv tb] ((30, tabObj p30) :: (37, tabObj p37) :: rest) 50 (DmPost (av.fdiv bv) (av.fmod bv) rest p30 p37 c0 c1 o0 o1) := by
  intro p loose mean mg mb dp un gd cn cs a ccd cl outer A₀ base h₀ L m s Q E B F X N T hk hd hu ret
  obtain ⟨b1, b2, b3⟩ := bits_bounds hb
  refine wpAny_call ?_
  k_dflt cell_enter
  k_steps
  refine stop_in ?_
  k_dflt (refine' Ct.use (d35 (rest := (37, tabObj p37) :: rest) (c0 := c0) (o0 := o0) ?p1 ?p2 ?p3 ?p4 ?p5 ?p6) ?k1 ?k2 ?k3 ?k4 ?k5 ?kK ?kd ?ku ?_; (case k1 => k_asm); (case k2 => k_asm); (case k3 => k_asm); (case k4 => k_asm); (case k5 => k_asm); (case kK => first | exact rfl | assumption); (case p1 => assumption); (case p2 => (first | lia | omega)); (case p3 => assumption); (case p4 => (first | lia | omega)); (case p5 => exact List.forall_mem_cons.mpr ⟨(fun e => by cases e), hr⟩); (case p6 => exact st30.mono fun q hq => .tail _ (.tail _ hq)); (case kd => ktr_room); (case ku => ktr_units); k_whole)
  intro v5 n5 h5 tk5 hP F5 N5
  refine goal_gen ?_
  intro R7 hR7
  obtain ⟨al, avs, c, oc, rfl, rfl, hia, cf30, cs30, la1, la2, la3⟩ := hP
  refine hR7 ?_
  clear hR7 R7
  replace la1 := allLt_of la1
  simp only [AllLt] at la1
  unfold neT at la2
  unfold ltT at la3
  k_sweep
  k_steps
  rename_i ql hq1 lq hq2 F7 N7
  refine stop_in ?_
  refine wpAny_For ?_
  k_steps
  refine stop_in ?_
  rw [Int.toNat_natCast] at hia
  have hlen := hia.length
  have lr : AllLt ql rest := lq.2.2.2.2
  k_dflt (refine' for_rev_u (fun c : S49 => [(Str.ofString "r", .int c.r c.tr)]) [Str.ofString "a_digit", Str.ofString "q_digit"] (fun s => (ql, listOf s.qvs.toArray s.e) :: (al, listOf avs.toArray 0) :: (c, oc) :: (30, tab30 c) :: (37, tabObj p37) :: rest) (fun i c => (c.r, c.qs) = hfold bv (intBits bv) ((digs (intBits bv) av (ndig av (intBits bv)).toNat).reverse.take i) ∧ IntsAre c.qvs c.qs) ⟨_, 0, [], [], 0⟩ ?hh ?hL ?hx ?hp ?F ?N ?ps ?xp ?P ?l ?_ ?_; (case F => k_asm); (case N => k_asm); (case hh => exact rfl); (case hL => exact rfl); (case hx => exact rfl); (case hp => exact rfl); (case ps => kst_all); (case xp => exact fun _ => rfl); (case P => exact ⟨rfl, .nil⟩); (case l => exact fun _ => .tail _ (.head _)))
  · rintro i v ⟨tr9, r9, qs9, qvs9, e9⟩ h9 tk9 I o u hi hv ⟨hP1, hP2⟩ F9 N9 hn9
    dsimp only at hP1 hP2 F9 N9 hn9
    obtain ⟨d, t, rfl, f1, f2, f3, f4, f5⟩ := d49_turn hb hia hi hv hP1 hbb
    have hz9 : qvs9.length ≤ 20000 := by rw [hP2.length]; have := (ndig_spec (n := intBits bv) h0 (by (first | lia | omega)) hab).2.1; (first | lia | omega)
    have nI : neT ql I := hn9 _ (.head _)
    unfold neT at nI
    have hN0 : (0 : Int) ≤ (intBits bv : Int) := by (first | lia | omega)
    k_steps
    refine stop_in ?_
    k_dflt (refine' Ct.use (d21 ?p1 ?p2 ?p3 ?p4 ?p5 ?p6) ?k1 ?k2 ?k3 ?k4 ?k5 ?kK ?kd ?ku ?_; (case k1 => k_asm); (case k2 => k_asm); (case k3 => k_asm); (case k4 => k_asm); (case k5 => k_asm); (case kK => first | exact rfl | assumption); (case p1 => (rw [Int.toNat_natCast]; exact f1)); (case p2 => (rw [Int.toNat_natCast]; exact f2)); (case p3 => (rw [Int.toNat_natCast]; exact b1)); (case p4 => (rw [Int.toNat_natCast]; exact b2)); (case p5 => (first | lia | omega)); (case p6 => (first | lia | omega)); (case kd => ktr_room); (case ku => ktr_units); k_whole)
    intro v6 n6 h6 tk6 hP6 F6 N6
    rw [Int.toNat_natCast] at hP6
    refine goal_gen ?_
    intro R7 hR7
    obtain ⟨x6, t61, t62, rfl, rfl, l6⟩ := hP6
    refine hR7 ?_
    clear hR7 R7
    k_lt l6
    k_sweep
    k_steps
    exact TurnU.of ⟨t62, (r9 * 2 ^ intBits bv + d).fmod bv, qs9 ++ [(r9 * 2 ^ intBits bv + d).fdiv bv], qvs9 ++ [.int ((r9 * 2 ^ intBits bv + d).fdiv bv) t61], e9 + 1⟩ (by k_asm) (cb_drop (by k_asm) (fun q hq => .tail _ hq)) (List.forall_mem_cons.mpr ⟨nI, fun q hq => hn9 q (.tail _ hq)⟩) (by kst_all) (by intro z h2 h3; (have hz1 : z ≠ Str.ofString "r" := h2 _ (.head _)); (simp only [List.contains_cons, List.contains_nil, Bool.or_false, Bool.or_eq_false_iff, beq_eq_false_iff_ne, ne_eq] at h3); (simp [kstB, hz1, h3])) ⟨f4, ints_snoc hP2⟩
  · rintro ⟨tr9, r9, qs9, qvs9, e9⟩ h9 tk9 u ⟨hP1, hP2⟩ F9 N9
    dsimp only at hP1 hP2 F9 N9
    (try dsimp only)
    have hk := ndig_spec (n := intBits bv) h0 (by (first | lia | omega)) hab
    rw [Int.toNat_natCast] at hk
    have hdl : (digs (intBits bv) av (ndig av (intBits bv)).toNat).length = (ndig av (intBits bv)).toNat := by simp [digs]
    rw [hlen, hdl] at hP1
    obtain ⟨g1, g2, g3, g4⟩ := d49_end h0 hb hk.2.2.1 hP1
    have hmul := ndig_mul (a := av) (n := intBits bv) (by (first | lia | omega)) (by (first | lia | omega)) hab
    have hz9 : qvs9.length ≤ 20000 := by rw [hP2.length, ← List.length_reverse, g4]; (first | lia | omega)
    have hir := IntsAre.reverse hP2
    have nc : neT c 37 := ne_of_data N9 (.tail _ (.tail _ (.head _))) (.tail _ (.tail _ (.tail _ (.tail _ (.head _))))) (code_ne_tab cf30 st37)
    k_steps
    refine stop_in ?_
    k_dflt (refine' Ct.useR (d42 (rest := (ql, listOf qvs9.reverse.toArray e9) :: (al, listOf avs.toArray 0) :: (c, oc) :: (30, tab30 c) :: rest) (c0 := c1) (o0 := o1) ?p1 ?p2 ?p3 ?p4 ?p5 ?p6 ?p7 ?p8 ?p9) ?k1 ?k2 ?k3 ?k4 ?kS ?k5 ?kK ?kd ?ku ?_; (case k1 => k_asm); (case k2 => k_asm); (case k3 => k_asm); (case k4 => k_asm); (case kS => kcj_in); (case k5 => k_asm); (case kK => first | exact rfl | assumption); (case p7 => exact hir); (case p6 => exact .head _); (case p1 => (first | lia | omega)); (case p2 => (first | lia | omega)); (case p3 => (first | lia | omega)); (case p4 => (rw [g4, Int.toNat_of_nonneg hk.1]; exact hmul)); (case p5 => (rw [Int.toNat_natCast]; exact g3)); (case p8 => exact List.forall_mem_cons.mpr ⟨neN (by (first | lia | omega)), List.forall_mem_cons.mpr ⟨neN (by (first | lia | omega)), List.forall_mem_cons.mpr ⟨nc, List.forall_mem_cons.mpr ⟨(fun e => by cases e), hr'⟩⟩⟩⟩); (case p9 => exact st37.mono fun q hq => .tail _ (.tail _ (.tail _ (.tail _ (.tail _ hq))))); (case kd => ktr_room); (case ku => ktr_units); k_whole)
    intro v6 n6 h6 tk6 hP6 F6 N6
    rw [Int.toNat_natCast, ← g1] at hP6
    refine goal_gen ?_
    intro R7 hR7
    obtain ⟨t6, d, od, rfl, rfl, cf37, cs37⟩ := hP6
    refine hR7 ?_
    clear hR7 R7
    k_sweep
    subst g2
    k_steps
    exact ret _ _ _ _ ⟨_, _, _, c, oc, d, od, rfl, rfl, cf30, cf37, cs30, cs37, fun q hq => lt_of_all (l := (d, od) :: (37, tab37 d) :: (ql, listOf qvs9.reverse.toArray e9) :: (al, listOf avs.toArray 0) :: (c, oc) :: (30, tab30 c) :: rest) (by assumption) q (by revert q; kcj_in)⟩ (by k_asm) (cb_drop (by k_asm) (by kcj_in))
end
end Mine
end
theorem Mine.offC49 : True := by
  w_top off
  trivial
section
open PySem PySem.W PyProof.Rows
namespace Mine
open PySem.Builtin.Int (intBits)
theorem reg7 : PySem.Challenge.rw_ph0105_01.prog = PySem.Challenge.rw_ph0105_01.prog ∧ Mine.hd.heap_1 = Mine.hd.heap_1 := by
  k_fill
  exact ⟨rfl, rfl⟩
theorem not_fdiv {a b : Int} (hb : 0 < b) : Builtin.bitNot ((Builtin.bitNot a).fdiv b) = a.fdiv b ∧ b + Builtin.bitNot ((Builtin.bitNot a).fmod b) = a.fmod b := by
  unfold Builtin.bitNot
  have k := fdivmod_pos (a := -a - 1) hb
  have e := fdivmod_of (a := a) (b := b) (q := -((-a - 1).fdiv b) - 1) (r := b + (-((-a - 1).fmod b) - 1)) (by omega) (by omega) (by
    have : (-((-a - 1).fdiv b) - 1) * b = -((-a - 1).fdiv b * b) - b := by grind
    omega)
  exact ⟨e.1.symm, e.2.symm⟩
theorem neg_fdiv {a b : Int} (hb : b ≠ 0) : (-a).fdiv (-b) = a.fdiv b ∧ -((-a).fmod (-b)) = a.fmod b := by
  have e : (-a).fdiv (-b) = a.fdiv b := Int.neg_fdiv_neg a b
  refine ⟨e, ?_⟩
  rw [Int.fmod_def, Int.fmod_def, e]
  grind
theorem bits_not {a : Int} (h : intBits a ≤ 19999) : intBits (Builtin.bitNot a) ≤ 20000 := by
  unfold Builtin.bitNot
  have := intBits_sub_le (intBits_neg_le h) (Nat.le_of_eq bits_one)
  omega
theorem DmPost.swap {x y x' y' : Int} {rest : Led} {p30 p37 : Array Value} {c0 c1 : Addr} {o0 o1 : Obj} {h₀ : Heap} {L : Addr} {m : Str → Option Value} {s : Shared} {Q : Value → Shared → Prop} {t c d : Addr} {t1 t2 : Tok} {oc od : Obj} {more : Led} {h' : Heap} {tk : Nat}
    (ret : ∀ v news' h' tk', DmPost x y rest p30 p37 c0 c1 o0 o1 v news' → Fr h₀ L h' m → News h₀ L h' news' → Q v { s with heap := h', toks := tk' })
    (F : Fr h₀ L h' m) (N : News h₀ L h' ((t, tupObj [.int x' t1, .int y' t2]) :: more)) (sub : ∀ q ∈ (c, oc) :: (d, od) :: (30, tab30 c) :: (37, tab37 d) :: rest, q ∈ more) (lt : ∀ q ∈ more, q.1 < t) (e : x = x' ∧ y = y')
    (h1 : CodeFact q30 oc) (h2 : CodeFact q37 od) (h3 : p30 = #[] ∨ (c = c0 ∧ oc = o0)) (h4 : p37 = #[] ∨ (d = c1 ∧ od = o1)) : Q (.ref t) { s with heap := h', toks := tk } := by
  obtain ⟨rfl, rfl⟩ := e
  exact ret _ _ _ _ ⟨t, t1, t2, c, oc, d, od, rfl, rfl, h1, h2, h3, h4, fun q hq => lt q (sub q hq)⟩ F fun p hp => N p ((List.mem_cons.mp hp).elim (fun h => h ▸ .head _) fun h => .tail _ (sub p h))
section
local macro_rules | `(tactic| walk_at "call ref") => `(tactic| refine stop_of ?_)
set_option maxRecDepth 100000 in
set_option maxHeartbeats 8000000 in
theorem d56_pos {w : World} {av bv : Int} {ta tb : Tok} {rest : Led} {p30 p37 : Array Value} {c0 c1 : Addr} {o0 o1 : Obj}
   (h0 : 0 ≤ av) (hb : 0 < bv) (hab : intBits av ≤ 20000) (hbb : intBits bv ≤ 7999) (hr : ∀ q ∈ rest, q.1 ≠ 30) (hr' : ∀ q ∈ rest, q.1 ≠ 37)
   (st30 : TabSt 32 4 q30 rest p30 c0 o0) (st37 : TabSt 47 4 q37 rest p37 c1 o1) :
   Ct w 56 [.int av ta, .int bv tb] ((30, tabObj p30) :: (37, tabObj p37) :: rest) 51 (DmPost (av.fdiv bv) (av.fmod bv) rest p30 p37 c0 c1 o0 o1) := by
  intro p loose mean mg mb dp un gd cn cs a ccd cl outer A₀ base h₀ L m s Q E B F X N T hk hd hu ret
  have e1 : ¬ ((bv == 0) = true) := by simp; omega
  have e2 : ¬ (decide (bv < 0) = true) := by simp; omega
  have e3 : ¬ (decide (av < 0) = true) := by simp; omega
  refine wpAny_call ?_
  k_dflt cell_enter
  k_steps
  refine stop_in ?_
  k_dflt (refine' Ct.use (d49 (rest := rest) h0 hb hab hbb hr hr' st30 st37) ?k1 ?k2 ?k3 ?k4 ?k5 ?kK ?kd ?ku ?_; (case k1 => k_asm); (case k2 => k_asm); (case k3 => k_asm); (case k4 => k_asm); (case k5 => k_asm); (case kK => first | exact rfl | assumption); (case kd => ktr_room); (case ku => ktr_units); k_whole)
  intro v6 n6 h6 tk6 hP6 F6 N6
  refine goal_gen ?_
  intro R7 hR7
  obtain ⟨t, t1, t2, c, oc, d, od, rfl, rfl, g1, g2, g3, g4, lt⟩ := hP6
  refine hR7 ?_
  clear hR7 R7
  k_sweep
  k_steps
  exact DmPost.swap ret (by k_asm) (by k_asm) (fun q hq => hq) lt ⟨rfl, rfl⟩ g1 g2 g3 g4
set_option maxRecDepth 100000 in
set_option maxHeartbeats 8000000 in
theorem d56_neg {w : World} {av bv : Int} {ta tb : Tok} {rest : Led} {p30 p37 : Array Value} {c0 c1 : Addr} {o0 o1 : Obj}
   (h0 : av < 0) (hb : 0 < bv) (hab : intBits av ≤ 19999) (hbb : intBits bv ≤ 7999) (hr : ∀ q ∈ rest, q.1 ≠ 30) (hr' : ∀ q ∈ rest, q.1 ≠ 37)
   (st30 : TabSt 32 4 q30 rest p30 c0 o0) (st37 : TabSt 47 4 q37 rest p37 c1 o1) :
   Ct w 56 [.int av ta, .int bv tb] ((30, tabObj p30) :: (37, tabObj p37) :: rest) 52 (DmPost (av.fdiv bv) (av.fmod bv) rest p30 p37 c0 c1 o0 o1) := by
  intro p loose mean mg mb dp un gd cn cs a ccd cl outer A₀ base h₀ L m s Q E B F X N T hk hd hu ret
  have e1 : ¬ ((bv == 0) = true) := by simp; omega
  have e2 : ¬ (decide (bv < 0) = true) := by simp; omega
  have e3 : (decide (av < 0) = true) := by simp; omega
  have hnn : 0 ≤ Builtin.bitNot av := by unfold Builtin.bitNot; omega
  refine wpAny_call ?_
  k_dflt cell_enter
  k_steps
  refine stop_in ?_
  k_dflt (refine' Ct.use (d56_pos (rest := rest) hnn hb (bits_not hab) hbb hr hr' st30 st37) ?k1 ?k2 ?k3 ?k4 ?k5 ?kK ?kd ?ku ?_; (case k1 => k_asm); (case k2 => k_asm); (case k3 => k_asm); (case k4 => k_asm); (case k5 => k_asm); (case kK => first | exact rfl | assumption); (case kd => ktr_room); (case ku => ktr_units); k_whole)
  intro v6 n6 h6 tk6 hP6 F6 N6
  refine goal_gen ?_
  intro R7 hR7
  obtain ⟨t, t1, t2, c, oc, d, od, rfl, rfl, g1, g2, g3, g4, lt⟩ := hP6
  refine hR7 ?_
  clear hR7 R7
  k_lt lt
  k_sweep
  k_steps
  have z := not_fdiv (a := av) hb
  exact DmPost.swap ret (by k_asm) (by k_asm) (fun q hq => .tail _ hq) (lt_of_all (by assumption)) ⟨z.1.symm, z.2.symm⟩ g1 g2 g3 g4
theorem d56_npos {w : World} {av bv : Int} {ta tb : Tok} {rest : Led} {p30 p37 : Array Value} {c0 c1 : Addr} {o0 o1 : Obj}
   (hb : 0 < bv) (hab : intBits av ≤ 19999) (hbb : intBits bv ≤ 7999) (hr : ∀ q ∈ rest, q.1 ≠ 30) (hr' : ∀ q ∈ rest, q.1 ≠ 37)
   (st30 : TabSt 32 4 q30 rest p30 c0 o0) (st37 : TabSt 47 4 q37 rest p37 c1 o1) :
   Ct w 56 [.int av ta, .int bv tb] ((30, tabObj p30) :: (37, tabObj p37) :: rest) 52 (DmPost (av.fdiv bv) (av.fmod bv) rest p30 p37 c0 c1 o0 o1) := by
  rcases Int.lt_or_le av 0 with h | h
  · exact d56_neg h hb hab hbb hr hr' st30 st37
  · exact (d56_pos h hb (by omega) hbb hr hr' st30 st37).lv_mono (by decide)
set_option maxRecDepth 100000 in
set_option maxHeartbeats 8000000 in
theorem d56_bneg {w : World} {av bv : Int} {ta tb : Tok} {rest : Led} {p30 p37 : Array Value} {c0 c1 : Addr} {o0 o1 : Obj}
   (hb : bv < 0) (hab : intBits av ≤ 19999) (hbb : intBits bv ≤ 7999) (hr : ∀ q ∈ rest, q.1 ≠ 30) (hr' : ∀ q ∈ rest, q.1 ≠ 37)
   (st30 : TabSt 32 4 q30 rest p30 c0 o0) (st37 : TabSt 47 4 q37 rest p37 c1 o1) :
   Ct w 56 [.int av ta, .int bv tb] ((30, tabObj p30) :: (37, tabObj p37) :: rest) 53 (DmPost (av.fdiv bv) (av.fmod bv) rest p30 p37 c0 c1 o0 o1) := by
  intro p loose mean mg mb dp un gd cn cs a ccd cl outer A₀ base h₀ L m s Q E B F X N T hk hd hu ret
  have e1 : ¬ ((bv == 0) = true) := by simp; omega
  have e2 : (decide (bv < 0) = true) := by simp; omega
  refine wpAny_call ?_
  k_dflt cell_enter
  k_steps
  refine stop_in ?_
  k_dflt (refine' Ct.use (d56_npos (rest := rest) (by omega) (intBits_neg_le hab) (intBits_neg_le hbb) hr hr' st30 st37) ?k1 ?k2 ?k3 ?k4 ?k5 ?kK ?kd ?ku ?_; (case k1 => k_asm); (case k2 => k_asm); (case k3 => k_asm); (case k4 => k_asm); (case k5 => k_asm); (case kK => first | exact rfl | assumption); (case kd => ktr_room); (case ku => ktr_units); k_whole)
  intro v6 n6 h6 tk6 hP6 F6 N6
  refine goal_gen ?_
  intro R7 hR7
  obtain ⟨t, t1, t2, c, oc, d, od, rfl, rfl, g1, g2, g3, g4, lt⟩ := hP6
  refine hR7 ?_
  clear hR7 R7
  k_lt lt
  k_sweep
  k_steps
  have z := neg_fdiv (a := av) (b := bv) (by omega)
  exact DmPost.swap ret (by k_asm) (by k_asm) (fun q hq => .tail _ hq) (lt_of_all (by assumption)) ⟨z.1.symm, z.2.symm⟩ g1 g2 g3 g4
theorem d56 {w : World} {av bv : Int} {ta tb : Tok} {rest : Led} {p30 p37 : Array Value} {c0 c1 : Addr} {o0 o1 : Obj}
   (hb : bv ≠ 0) (hab : intBits av ≤ 19999) (hbb : intBits bv ≤ 7999) (hr : ∀ q ∈ rest, q.1 ≠ 30) (hr' : ∀ q ∈ rest, q.1 ≠ 37)
   (st30 : TabSt 32 4 q30 rest p30 c0 o0) (st37 : TabSt 47 4 q37 rest p37 c1 o1) :
   Ct w 56 [.int av ta, .int bv tb] ((30, tabObj p30) :: (37, tabObj p37) :: rest) 53 (DmPost (av.fdiv bv) (av.fmod bv) rest p30 p37 c0 c1 o0 o1) := by
  rcases Int.lt_or_le bv 0 with h | h
  · exact d56_bneg h hab hbb hr hr' st30 st37
  · exact (d56_npos (by omega) hab hbb hr hr' st30 st37).lv_mono (by decide)
end
end Mine
end
theorem Mine.offC56 : True := by
  w_top off
  trivial
section
open PySem PySem.W PyProof.Rows
open Sem (wp)
namespace Mine
section
variable {w : World} {A : Around} {R : GenEnd} {Y : Protocol} {n : Nat} {s₀ : Shared} {c : Code} {fs : List Frame} {s : Shared} {env : Env}
  {K : Flow → Sem Fin} {H : Value → Sem Fin} {gd : Bool → Bool} {lv : List Value → List Value}
noncomputable abbrev M0 (w : World) : Model := model prg w
/-- what stands behind a for turn's body -/
noncomputable abbrev forK (target : Expr) (it : Value) (body orelse : List Stmt) (env : Env) : Flow → Sem Fin := fun f => match f with
  | .next | .cont => .pure (.again (.forLoop target it body orelse env))
  | .brk => .pure (.done .next)
  | .ret v => .pure (.done (.ret v))
noncomputable abbrev noteH (env : Env) : Value → Sem Fin := fun e => (do noteFrame e env; theTreesLotGoes e : Sem Unit).wrap (fun _ => .raise e) .raise id id

theorem seg_forLoop {x : Str} {px : Pos} {it : Value} {body : List Stmt}
    (h : wpAny (M0 w) (A.over (.forLoop (.Name x px) it body [] env) fs) (pyNext it) (fun r s₁ => match r with
        | none => Seg (M0 w) A R Y n s₀ (.block [] env) (.pure (.done .next)) fs s₁
        | some v => wpAny (M0 w) (A.over (.forLoop (.Name x px) it body [] env) fs) (assign (.Name x px) env v) (fun _ s₂ =>
            Seg (M0 w) A R Y n s₀ (.forLoop (.Name x px) it body [] env) ((execs body env).wrap (forK (.Name x px) it body [] env) (noteH env) id id) fs s₂) (fun _ _ => False) s₁) (fun _ _ => False) s) :
    Seg (M0 w) A R Y n s₀ (.forLoop (.Name x px) it body [] env) ((M0 w).den (.forLoop (.Name x px) it body [] env)) fs s := by
  show Seg _ A R Y n s₀ _ ((forTurn (.Name x px) it body [] env).onRaise (fun x => do noteFrame x env; theTreesLotGoes x)) fs s
  unfold forTurn
  rw [Sem.onRaise_eq_wrap]
  refine seg_bind_wrap (wpAny_standAt ?_)
  refine seg_bind_wrap (wpAny_onRaise (wpAny_mono h (fun r s₁ h₁ => ?_) fun _ _ h => h.elim))
  cases r with
  | none => exact seg_again rfl h₁
  | some v =>
    refine seg_bind_wrap (wpAny_of_eq (rfl : letOwnedTupleGo (.Name x px) it v = pure ()) ?_)
    refine seg_bind_wrap (wpAny_mono h₁ (fun _ s₂ h₂ => ?_) fun _ _ h => h.elim)
    rw [Sem.bind_eq_wrap', Sem.wrap_wrap]
    rw [Sem.wrap_congr (execs body env) _ _ (K' := forK (.Name x px) it body [] env) (H' := noteH env) (fun f => by cases f <;> rfl)
      (fun e => by first | exact Sem.bind_eq_wrap _ _ | (show (do noteFrame e env; theTreesLotGoes e : Sem Unit).bind (fun _ => .raise e) = _; rw [Sem.bind_eq_wrap]))]
    exact h₂

theorem seg_If {test : Expr} {body orelse : List Stmt} {pos : Pos}
    (h : wpAny (M0 w) (A.over c fs) (isTrue test env (eval test env)) (fun b s' => if b = true then Seg (M0 w) A R Y n s₀ c ((execs body env).wrap K H gd lv) fs s' else Seg (M0 w) A R Y n s₀ c ((execs orelse env).wrap K H gd lv) fs s') (fun _ _ => False) s) :
    Seg (M0 w) A R Y n s₀ c ((exec (.If test body orelse pos) env).wrap K H gd lv) fs s := by
  show Seg (M0 w) A R Y n s₀ c ((do standAt pos; if ← isTrue test env (eval test env) then execs body env else execs orelse env : Sem Flow).wrap K H gd lv) fs s
  refine seg_bind_wrap (wpAny_standAt ?_)
  refine seg_bind_wrap (wpAny_mono h (fun b s' hb => ?_) fun _ _ h => h.elim)
  cases b with
  | true => simpa using hb
  | false => simpa using hb
end
end Mine
end
theorem Mine.offGen : True := by
  w_top off
  trivial
section
open PySem PySem.W PyProof.Rows
open Sem (wp)
namespace Mine
section
variable {w : World} {A : Around} {R : GenEnd} {Y : Protocol} {n : Nat} {s₀ : Shared} {c : Code} {fs : List Frame} {s : Shared} {env : Env}
  {K : Flow → Sem Fin} {H : Value → Sem Fin} {gd : Bool → Bool} {lv : List Value → List Value}
/-- the frame that a for statement leaves while its loop runs -/
noncomputable abbrev forFr (env : Env) (K : Flow → Sem Fin) (H : Value → Sem Fin) (gd : Bool → Bool) (lv : List Value → List Value) (c : Code) (p : Pos) : Frame :=
  .ret (fun r => ((match r with | .ok f => (.pure f : Sem Flow) | .error e => .raise e).onRaise fun (x : Value) => do
        if (← field x 1) == Value.none then unsupported "frame.own-activation:exception-without-traceback"
        setFlight x env.frame).wrap K H gd lv) none (gd false) (lv []) c p []
theorem seg_For {target iter : Expr} {body orelse : List Stmt} {pos : Pos}
    (h : wpAny (M0 w) (A.over c fs) (eval iter env) (fun x s₁ => wpAny (M0 w) (A.over c fs) (pyIter x) (fun it s₂ =>
       ∀ p, Seg (M0 w) A R Y n s₀ (.forLoop target it body orelse env) ((M0 w).den (.forLoop target it body orelse env)) (forFr env K H gd lv c p :: fs) s₂) (fun _ _ => False) s₁) (fun _ _ => False) s)
    (hs : ∀ x, foldedSetIterable iter env x = pure x := by intro _; rfl) :
    Seg (M0 w) A R Y n s₀ c ((exec (.For target iter body orelse pos) env).wrap K H gd lv) fs s := by
  rw [exec_For]
  refine seg_bind_wrap (wpAny_standAt ?_)
  refine seg_bind_wrap (wpAny_mono h (fun x s₁ h₁ => ?_) fun _ _ h => h.elim)
  refine seg_bind_wrap (wpAny_of_eq (hs x) ?_)
  refine seg_bind_wrap (wpAny_standAt ?_)
  refine seg_bind_wrap (wpAny_holding (wpAny_mono h₁ (fun it s₂ h₂ => ?_) fun _ _ h => h.elim))
  exact seg_call h₂
end

/-- since s₀ nothing but the generator's frame and its iterator has turned -/
def Since (C I : Addr) (s₀ s₁ : Shared) : Prop :=
  ∃ h' tk, s₁ = { s₀ with heap := h', toks := tk } ∧ ∀ b o, b ≠ C → b ≠ I → s₀.heap.get? b = some o → h'.get? b = some o
theorem Since.refl (C I : Addr) (s : Shared) : Since C I s s := ⟨s.heap, s.toks, rfl, fun _ _ _ _ e => e⟩
theorem Since.step {C I : Addr} {s₀ s : Shared} (x : Since C I s₀ s) {h' : Heap} {tk : Nat} (hk : ∀ b o, b ≠ C → b ≠ I → s.heap.get? b = some o → h'.get? b = some o) :
    Since C I s₀ { s with heap := h', toks := tk } := by
  obtain ⟨h₁, tk₁, rfl, hk₁⟩ := x
  exact ⟨h', tk, rfl, fun b o hC hI e => hk b o hC hI (hk₁ b o hC hI e)⟩

/-- the first n ints that the generator yields -/
noncomputable def gOut : Nat → Option Int → List Int → List Int
  | 0, _, _ => []
  | _ + 1, _, [] => []
  | n + 1, last, x :: xs => if x = 127 then [] else if x = 0 then (match last with | none => [] | some v => List.replicate (n + 1) v) else x :: gOut n (some x) xs

def Ag (hb : Heap) (C I l : Addr) (oC oI lo : Obj) (h : Heap) : Prop :=
  (∀ b o, hb.get? b = some o → h.get? b = some o) ∧ h.get? C = some oC ∧ h.get? I = some oI ∧ h.get? l = some lo

def gR (C I : Addr) (out : List Int) (N : Nat) : GenEnd := fun n s₀ r s₁ => r = .ok (.ret .none) ∧ (out.length + n = N ∧ Since C I s₀ s₁)
def gY (hb : Heap) (C I l : Addr) (lo : Obj) (out : List Int) (N : Nat) : Protocol := fun m s₀ v s₁ kap =>
  (∃ x t, out[N - 1 - m]? = some x ∧ v = .int x t) ∧ Since C I s₀ s₁ ∧ ∃ oC oI, s₁.heap.get? C = some oC ∧ s₁.heap.get? I = some oI ∧
    (m ≠ 0 → ∀ s'', Ag hb C I l oC oI lo s''.heap → kap (.send .none) s'')
end Mine
end
theorem Mine.offGen2 : True := by
  w_top off
  trivial
section
open PySem PySem.W PyProof.Rows
open Sem (wp)
namespace Mine
def LastIs (last : Option Int) (v : Value) : Prop := match last with | none => v = .none | some x => ∃ t, v = .int x t
noncomputable abbrev lastN : Str := Str.ofString "last_interval"
/-- between two turns of the generator's loop -/
structure PG (hb : Heap) (C I l : Addr) (vs : List Value) (e : Nat) (ns out : List Int) (N n i : Nat) (s₀ s : Shared) : Prop where
  h1 : 1 ≤ n
  hn : n ≤ N
  hlen : N - n ≤ out.length
  since : Since C I s₀ s
  it : s.heap.IsListIter I l i
  li : s.heap.get? l = some (listOf vs.toArray e)
  fr : ∃ u last lastV, Fr hb C s.heap (kstB u [(lastN, lastV)]) ∧ LastIs last lastV ∧ out.drop (N - n) = gOut n last (ns.drop i) ∧ (last = none → (ns.drop i).head? ≠ some 0)

section
variable {w : World} {A : Around} {R : GenEnd} {Y : Protocol} {fs : List Frame} {env : Env}
theorem seg_gloop {hb : Heap} {C I l : Addr} {vs : List Value} {e : Nat} {ns out : List Int} {N : Nat} {x : Str} {px : Pos} {body : List Stmt}
    (hh : (A.over (.forLoop (.Name x px) (.ref I) body [] env) fs).handled = none) (hL : env.locals = C) (hx : env.kindOf x = some .local) (hp : (env.scope.kind == .class || (env.scope.kind == .module && env.locals != env.globals)) = false)
    (hIC : I ≠ C) (hlC : l ≠ C) (hlI : l ≠ I) (hbI : hb.get? I = none)
    (turn : ∀ n i v u last lastV s₀ s, i < vs.length → vs[i]? = some v → 1 ≤ n → n ≤ N → N - n ≤ out.length → Since C I s₀ s → s.heap.IsListIter I l (i + 1) → s.heap.get? l = some (listOf vs.toArray e) →
      Fr hb C s.heap (fun y => if y = x then some v else kstB u [(lastN, lastV)] y) → LastIs last lastV → out.drop (N - n) = gOut n last (ns.drop i) → (last = none → (ns.drop i).head? ≠ some 0) →
      (∀ n' s₀' s', PG hb C I l vs e ns out N n' (i + 1) s₀' s' → Seg (M0 w) A R Y n' s₀' (.forLoop (.Name x px) (.ref I) body [] env) ((M0 w).den (.forLoop (.Name x px) (.ref I) body [] env)) fs s') →
      Seg (M0 w) A R Y n s₀ (.forLoop (.Name x px) (.ref I) body [] env) ((execs body env).wrap (forK (.Name x px) (.ref I) body [] env) (noteH env) id id) fs s)
    (done : ∀ n last s₀ s, n ≤ N → N - n ≤ out.length → Since C I s₀ s → out.drop (N - n) = gOut n last (ns.drop vs.length) → Seg (M0 w) A R Y n s₀ (.block [] env) (.pure (.done .next)) fs s) :
    ∀ k n i s₀ s, vs.length - i = k → i ≤ vs.length → PG hb C I l vs e ns out N n i s₀ s →
      Seg (M0 w) A R Y n s₀ (.forLoop (.Name x px) (.ref I) body [] env) ((M0 w).den (.forLoop (.Name x px) (.ref I) body [] env)) fs s := by
  subst hL
  have W := Walks.list (prog := prg) (w := w) (A := A.over (.forLoop (.Name x px) (.ref I) body [] env) fs) hh I l hlI vs.toArray
  intro k
  induction k with
  | zero =>
    rintro n i s₀ s hk hi ⟨hn1, hn, hlen, since, it, li, u, last, lastV, F, hlast, hout, h0⟩
    have : i = vs.length := by (first | lia | omega)
    subst this
    refine seg_forLoop ?_
    refine W.done s _ _ ⟨by simpa using it, ⟨_, li, rfl, _, rfl⟩⟩ fun h' tk hk' => ?_
    exact done n last s₀ _ hn hlen (since.step fun b o _ hI e => hk' b o (by simpa using hI) e) hout
  | succ k ih =>
    rintro n i s₀ s hk hi ⟨hn1, hn, hlen, since, it, li, u, last, lastV, F, hlast, hout, h0⟩
    have hlt : i < vs.length := by (first | lia | omega)
    refine seg_forLoop ?_
    refine W.item i s _ _ (by simpa using hlt) ⟨it, ⟨_, li, rfl, _, rfl⟩⟩ fun v h₁ tk₁ hv hst hk₁ => ?_
    have F₁ : Fr hb env.locals h₁ (kstB u [(lastN, lastV)]) := ⟨F.ns.at' fun o e => hk₁ _ o (by simpa using hIC.symm) e, fun b o e => hk₁ b o (by simp; rintro rfl; rw [hbI] at e; cases e) (F.keep b o e), F.above⟩
    have li₁ : h₁.get? l = some (listOf vs.toArray e) := hk₁ _ _ (by simpa using hlI) li
    refine wpAny_assign_Name (wpAny_storeName_local hx F₁.ns (fun h₂ hns hsb => ?_) hp)
    have F₂ := F₁.set hns hsb
    refine turn n i v u last lastV s₀ _ hlt (by simpa using hv) hn1 hn hlen (since.step fun b o hC hI e => (hsb.2 b hC).trans (hk₁ b o (by simpa using hI) e)) (hst.1.at fun o e => (hsb.2 I hIC).trans e) ((hsb.2 l hlC).trans li₁) F₂ hlast hout h0 ?_
    intro n' s₀' s' p
    exact ih n' (i + 1) s₀' s' (by (first | lia | omega)) hlt p
end
end Mine
end
theorem Mine.offGen3 : True := by
  w_top off
  trivial
section
open PySem PySem.W PyProof.Rows
open Sem (wp)
namespace Mine
theorem bare_set {s : Shared} {g : Nat} {x : GenState} (h : AllBare s.gens) (hx : x.bare = true) : AllBare (s.setGen g x).gens := by
  intro y hy
  obtain ⟨i, hi, rfl⟩ := Array.mem_iff_getElem.mp hy
  have e := Array.getElem?_eq_getElem hi
  by_cases hg : i = g
  · subst hg
    have hi' : i < s.gens.size := by simpa [Shared.setGen] using hi
    have : (s.setGen i x).gens[i]? = some x := by simp [Shared.setGen, hi']
    rw [e] at this
    rw [Option.some.inj this]
    exact hx
  · have h2 := (GenOnly.setGen s g x).2 i hg
    rw [e] at h2
    obtain ⟨hi', e'⟩ := Array.getElem?_eq_some_iff.mp h2.symm
    exact e' ▸ h _ (Array.getElem_mem hi')
section
variable {w : World} {A : Around} {E : Value → Shared → Prop} {s : Shared}
theorem next_gen {a : Addr} {g n : Nat} {gs : GenState} {P : Nat → Shared → Shared → Prop} {Y : Protocol} {Q : Option Value → Shared → Prop} (hh : A.handled = none)
    (hl : s.heap.NoLimit) (hroom : A.depth < recursionLimit) (hg : s.heap.IsGen a g) (hgs : s.gens[g]? = some gs)
    (hgo : gs.Goes (M0 w) A.in1 (fun n s₀ r s₁ => r = .ok (.ret .none) ∧ P n s₀ s₁) Y n (.send .none) (s.setGen g .running))
    (hY : ∀ v s₁ gs', gs'.bare = true → Y (n - 1) (s.setGen g .running) v s₁ (fun r' s'' => match n with
        | 0 => False
        | m + 1 => gs'.Goes (M0 w) A.in1 (fun n s₀ r s₁ => r = .ok (.ret .none) ∧ P n s₀ s₁) Y m r' s'') → Q (some v) (s₁.setGen g gs'))
    (hP : ∀ s₁, P n (s.setGen g .running) s₁ → ∀ h', (∀ b o, s₁.heap.get? b = some o → h'.get? b = some o) → Q none { s₁.setGen g .finished with heap := h' }) :
    wpAny (M0 w) A (pyNext (.ref a)) Q E s := by
  unfold pyNext
  refine wpAny_bind (wpAny_attempt (wpAny_callSpecial?_slot (name := Str.ofString "__next__") hg.typeIs slot_gen_next
    (wpAny_call_entry slot_gen_next hg.typeIs entry_gen_next ?_ (args_gen_next _))))
  show wpAny _ A.in1 (Builtin.Generator.genWake (.ref a) (.send .none)) _ _ s
  unfold Builtin.Generator.genWake
  refine wpAny_bind (wpAny_holding (wpAny_genNumber hg (wpAny_bind (wpAny_genState hgs ?_))))
  cases gs with
  | running => exact hgo.elim
  | finished => exact hgo.elim
  | _ =>
    refine wpAny_bind (wpAny_roomToWake hl hroom ?_)
    show wpAny _ A.in1 (.resume g (.send .none) [] _) _ _ s
    refine wpAny_resumeQ hgs hgo (fun x s₁ hx => ?_) (fun v s₁ gs' hb hv => wpAny_pure ⟨v, rfl, wpAny_pure (hY v s₁ gs' hb hv)⟩)
    obtain ⟨rfl, hp⟩ := hx
    show wpAny _ A.in1 (newExc (.type "StopIteration") [] >>= _) _ _ _
    refine wpAny_bind ?_
    simp only [newExc, newTuple]
    refine wpAny_bind (wpAny_newObj_type ?_ (by size_fits))
    refine wpAny_bind (m := firstArgMember _ _) (wpAny_of_eq (a := Value.none) (by first | rfl | (simp only [firstArgMember]; rfl)) ?_)
    refine wpAny_newObj_type ?_ (by size_fits)
    simp only [raiseNew]
    refine wpAny_bind (wpAny_bind (wpAny_handled ?_))
    rw [show A.in1.handled = none from hh]
    refine wpAny_throw ?_
    refine wpAny_bind (wpAny_isInstance (T := "StopIteration") (b := true) ⟨_, Heap.get?_push_size _ rfl, rfl⟩ isSubtype_stop ?_)
    exact wpAny_pure (hP s₁ hp _ fun b o hb => Heap.get?_push_of_some _ (Heap.get?_push_of_some _ hb))
end
/-- the end of a turn of a loop over the generator -/
def TurnG (h₀ : Heap) (L I C : Addr) (oI oC : Obj) (N i : Nat) (gens : Array GenState) (J : Nat → (Str → Option Value) → Led → Prop) (s : Shared) (Q : Flow → Shared → Prop) (f : Flow) (s₃ : Shared) : Prop :=
  match f with
  | .next | .cont => i + 1 < N ∧ ∃ h' tk' m' news', s₃ = { s with heap := h', toks := tk', gens := gens } ∧ Fr h₀ L h' m' ∧ News h₀ L h' ((I, oI) :: (C, oC) :: news') ∧ (∀ q ∈ news', q.1 ≠ I ∧ q.1 ≠ C) ∧ J (i + 1) m' news'
  | .brk => Q .next s₃
  | .ret v => Q (.ret v) s₃
section
variable {w : World} {A : Around} {E : Value → Shared → Prop} {Q : Flow → Shared → Prop} {s : Shared} {env : Env} {h₀ : Heap} {L a C l : Addr} {g : Nat} {x : Str} {px : Pos} {body : List Stmt} {m₀ : Str → Option Value} {news₀ : Led} {lo : Obj} {out : List Int} {N : Nat} {c0 : Code} {ga : Obj}
/-- what the generator will do, i ints yielded -/
def GenGoes (w : World) (A : Around) (hb : Heap) (C I l : Addr) (lo : Obj) (out : List Int) (N i : Nat) (gs : GenState) (oC oI : Obj) : Prop :=
  ∀ s'' : Shared, Ag hb C I l oC oI lo s''.heap → gs.Goes (M0 w) A.in1 (gR C I out N) (gY hb C I l lo out N) (N - i) (.send .none) s''
theorem for_gen (hh : A.handled = none) (hroom : A.depth < recursionLimit) (hL : env.locals = L) (hx : env.kindOf x = some .local) (hp : (env.scope.kind == .class || (env.scope.kind == .module && env.locals != env.globals)) = false)
    (F : Fr h₀ L s.heap m₀) (N₀ : News h₀ L s.heap news₀) (hlim : h₀.NoLimit) (hN : 1 ≤ N)
    (hga : ∀ h : Heap, h.get? a = some ga → h.IsGen a g) (hgs : s.gens[g]? = some (.fresh c0)) (hbare : AllBare s.gens)
    (hC0 : h₀.get? C = none) (hCL : C ≠ L) (hnC : ∀ q ∈ news₀, q.1 ≠ C)
    (hgo : ∀ s'' : Shared, s''.heap = s.heap → Seg (M0 w) A.in1 (gR C s.heap.objs.size out N) (gY h₀ C s.heap.objs.size l lo out N) N s'' c0 ((M0 w).den c0) [] s'')
    (J : Nat → (Str → Option Value) → Led → Prop) (hj : J 0 m₀ news₀) (hJ : ∀ i m news, J i m news → (l, lo) ∈ news ∧ (a, ga) ∈ news)
    (turn : ∀ i k t m news h tk oI oC gens', i < N → out[i]? = some k → J i m news → Fr h₀ L h (fun y => if y = x then some (.int k t) else m y) → News h₀ L h ((s.heap.objs.size, oI) :: (C, oC) :: news) → (∀ q ∈ news, q.1 ≠ s.heap.objs.size ∧ q.1 ≠ C) → AllBare gens' →
      wpAny (M0 w) A (execs body env) (TurnG h₀ L s.heap.objs.size C oI oC N i gens' J s Q) (fun _ _ => False) { s with heap := h, toks := tk, gens := gens' })
    (done : ∀ m news h tk gens', out.length < N → J out.length m news → Fr h₀ L h m → News h₀ L h news → AllBare gens' → Q .next { s with heap := h, toks := tk, gens := gens' }) :
    codeAny (M0 w) A (.forLoop (.Name x px) (.ref a) body [] env) (fun r s' => match r with | .ok f => Q f s' | .error e => cameBackBy (M0 w) A env E e s') s := by
  subst hL
  have hIL : s.heap.objs.size ≠ env.locals := Nat.ne_of_gt F.ns.lt
  have hI0 : h₀.get? s.heap.objs.size = none := by
    cases hq : h₀.get? s.heap.objs.size with
    | none => rfl
    | some o => exact absurd (Heap.lt_size (F.keep _ _ hq)) (Nat.lt_irrefl _)
  refine codeAny_forLoop (fun k s' => ∃ i m news h tk gens' gs, k = N - i ∧ i < N ∧ s' = { s with heap := h, toks := tk, gens := gens' } ∧ Fr h₀ env.locals h m ∧ News h₀ env.locals h news ∧ (∀ q ∈ news, q.1 ≠ s.heap.objs.size ∧ q.1 ≠ C) ∧ AllBare gens' ∧ gens'[g]? = some gs ∧ J i m news ∧
    ((i = 0 ∧ h = s.heap ∧ gs = .fresh c0) ∨ ∃ oC oI, h.get? C = some oC ∧ h.get? s.heap.objs.size = some oI ∧ GenGoes w A h₀ C s.heap.objs.size l lo out N i gs oC oI)) ?_ N
    ⟨0, m₀, news₀, s.heap, s.toks, s.gens, _, rfl, hN, rfl, F, N₀, fun q hq => ⟨Nat.ne_of_lt (Heap.lt_size (N₀ q hq).1), hnC q hq⟩, hbare, hgs, hj, .inl ⟨rfl, rfl, rfl⟩⟩
  rintro k s' ⟨i, m, news, h, tk, gens', gs, rfl, hi, rfl, F, N₁, hn, hb, hgs, hJ', hst⟩
  obtain ⟨hlm, ham⟩ := hJ _ _ _ hJ'
  have up : ∀ {h' : Heap}, (∀ b o, b ≠ C → b ≠ s.heap.objs.size → h.get? b = some o → h'.get? b = some o) → Fr h₀ env.locals h' m ∧ News h₀ env.locals h' news := fun {h'} hk =>
    ⟨⟨F.ns.at' fun o e => hk _ o hCL.symm hIL.symm e, fun b o e => hk b o (fun q => by rw [q, hC0] at e; cases e) (fun q => by rw [q, hI0] at e; cases e) (F.keep b o e), F.above⟩,
     fun q hq => ⟨hk _ _ (hn q hq).2 (hn q hq).1 (N₁ q hq).1, (N₁ q hq).2⟩⟩
  obtain ⟨n', hNn⟩ : ∃ n', N - i = n' + 1 := ⟨N - i - 1, by (first | lia | omega)⟩
  have hgo' : gs.Goes (M0 w) A.in1 (gR C s.heap.objs.size out N) (gY h₀ C s.heap.objs.size l lo out N) (N - i) (.send .none) (({ s with heap := h, toks := tk, gens := gens' } : Shared).setGen g .running) := by
    rcases hst with ⟨rfl, rfl, rfl⟩ | ⟨oC, oI, h1, h2, hG⟩
    · exact ⟨rfl, hgo _ rfl⟩
    · exact hG _ ⟨F.keep, h1, h2, (N₁ _ hlm).1⟩
  refine next_gen (n := N - i) hh (hlim.keeps F.keep) hroom (hga _ (N₁ _ ham).1) hgs hgo' (fun v s₁ gs' hbare' hy => ?_) (fun s₁ hp h' hk' => ?_)
  · obtain ⟨⟨k, t, hk, rfl⟩, ⟨h₁, tk₁, rfl, hk₁⟩, oC, oI, e1, e2, hkap⟩ := hy
    have hidx : N - 1 - (N - i - 1) = i := by (first | lia | omega)
    rw [hidx] at hk
    obtain ⟨F₁, N₂⟩ := up hk₁
    have hbb : AllBare (((({ s with heap := h, toks := tk, gens := gens' } : Shared).setGen g .running).setGen g gs').gens) := bare_set (bare_set hb rfl) hbare'
    refine wpAny_assign_Name (wpAny_storeName_local hx F₁.ns (fun h₂ hns hsb => ?_) hp)
    have F₂ := F₁.set hns hsb
    have N₃ : News h₀ env.locals h₂ ((s.heap.objs.size, oI) :: (C, oC) :: news) := fun q hq => by
      rcases List.mem_cons.mp hq with rfl | hq
      · exact ⟨(hsb.2 _ hIL).trans e2, hIL, hI0⟩
      · rcases List.mem_cons.mp hq with rfl | hq
        · exact ⟨(hsb.2 _ hCL).trans e1, hCL, hC0⟩
        · exact N₂.set hsb q hq
    refine wpAny_mono (turn i k t m news h₂ _ oI oC _ hi hk hJ' F₂ N₃ hn hbb) (fun f s₃ hf => ?_) fun _ _ h => h.elim
    have fin : (i + 1 < N ∧ ∃ h' tk' m' news', s₃ = { s with heap := h', toks := tk', gens := ((({ s with heap := h, toks := tk, gens := gens' } : Shared).setGen g .running).setGen g gs').gens } ∧ Fr h₀ env.locals h' m' ∧ News h₀ env.locals h' ((s.heap.objs.size, oI) :: (C, oC) :: news') ∧ (∀ q ∈ news', q.1 ≠ s.heap.objs.size ∧ q.1 ≠ C) ∧ J (i + 1) m' news') →
        ∃ m₁, m₁ < N - i ∧ ∃ i m news h tk gens' gs, m₁ = N - i ∧ i < N ∧ s₃ = { s with heap := h, toks := tk, gens := gens' } ∧ Fr h₀ env.locals h m ∧ News h₀ env.locals h news ∧ (∀ q ∈ news, q.1 ≠ s.heap.objs.size ∧ q.1 ≠ C) ∧ AllBare gens' ∧ gens'[g]? = some gs ∧ J i m news ∧
    ((i = 0 ∧ h = s.heap ∧ gs = .fresh c0) ∨ ∃ oC oI, h.get? C = some oC ∧ h.get? s.heap.objs.size = some oI ∧ GenGoes w A h₀ C s.heap.objs.size l lo out N i gs oC oI) := by
      rintro ⟨hi', h', tk', m', news', rfl, F', N', hn', hJ''⟩
      refine ⟨N - (i + 1), by (first | lia | omega), i + 1, m', news', h', tk', _, gs', rfl, hi', rfl, F', fun q hq => N' q (.tail _ (.tail _ hq)), hn', hbb, setGen_self (gs := .running) (setGen_self hgs), hJ'', .inr ⟨oC, oI, (N' _ (.tail _ (.head _))).1, (N' _ (.head _)).1, ?_⟩⟩
      have q1 : N - i - 1 ≠ 0 := by (first | lia | omega)
      have hkap := hkap q1
      intro s'' ag
      have := hkap s'' ag
      rw [hNn] at this
      rw [show N - (i + 1) = n' by (first | lia | omega)]
      exact this
    cases f with
    | next => exact fin hf
    | cont => exact fin hf
    | brk => exact hf
    | ret v => exact hf
  · obtain ⟨hlen, h₁, tk₁, rfl, hk₁⟩ := hp
    have hiout : out.length = i := by (first | lia | omega)
    obtain ⟨F₁, N₂⟩ := up (h' := h') fun b o hC hI e => hk' b o (hk₁ b o hC hI e)
    exact wpAny_execs_nil (done m news h' _ _ (by (first | lia | omega)) (hiout ▸ hJ') F₁ N₂ (bare_set (bare_set hb rfl) rfl))
end
end Mine
end
theorem Mine.offGen4 : True := by
  w_top off
  trivial
section
open PySem PySem.W PyProof.Rows
open Sem (wp)
namespace Mine
section
variable {w : World} {A : Around} {s : Shared} {h₀ : Heap} {L : Addr} {m : Str → Option Value} {news : Led}
  {R : Result → Shared → Prop} {name qual : Str} {params : Arguments} {body : List Stmt} {scope : Scope} {dV kV doc pm cdv ct : Value} {an : Option Addr} {fo : Obj} {f : Addr} {args : Args} {binds : List (Str × Value)}
theorem gen_make (F : Fr h₀ L s.heap m) (N : News h₀ L s.heap news) (hlim : h₀.NoLimit)
    (ho : s.heap.get? f = some fo) (hd : fo.data = .func (fnX name qual params body scope [] dV kV doc pm an cdv ct)) (hcd : s.heap.CodeRec cdv qual) (hroom : A.depth < recursionLimit)
    (hbind : BindsTo s (fnX name qual params body scope [] dV kV doc pm an cdv ct) args binds) (hloc : ∀ y ∈ binds, scope.names.lookup y.1 = some .local)
    (h : ∀ C a h' tk oC ga, h'.Ns C (fun y => binds.reverse.lookup y) → h'.get? C = some oC → (∀ h : Heap, h.get? a = some ga → h.IsGen a s.gens.size) → Fr h₀ L h' m → News h₀ L h' ((a, ga) :: (C, oC) :: news) → (∀ q ∈ news, q.1 < C) → C < a → h₀.objs.size ≤ C → L < C →
      R (.ok (.ret (.ref a))) { s with heap := h', toks := tk, gens := s.gens.push (.fresh (.func body (envX qual scope C f cdv []))) })
    (hcell : ∀ x ∈ scope.names, x.2 ≠ .cell) (hco : scope.isCoroutine = false) (hgen : scope.isGenerator = true) (hk : scope.kind = .function) : codeAny (M0 w) A (.call (.ref f) args) R s := by
  refine codeAny_call_generator hroom ho hd hco hgen rfl hcd (hbind _ _ _ _ ?_)
  refine wpAny_newFunctionEnv hcell hloc (fun h' hn hs => ?_) hk
  have hsz : h'.objs.size = s.heap.objs.size + 1 := by rw [hs.1, Heap.size_push]
  have hC0 : h₀.get? s.heap.objs.size = none := by
    cases hq : h₀.get? s.heap.objs.size with
    | none => rfl
    | some o => exact absurd (Heap.lt_size (F.keep _ _ hq)) (Nat.lt_irrefl _)
  have up : ∀ b o, s.heap.get? b = some o → h'.get? b = some o := fun b o e => hs.extBut b o (Nat.ne_of_lt (Heap.lt_size e)) (Heap.get?_push_of_some _ e)
  have hLlt : L < s.heap.objs.size := F.ns.lt
  have F' : Fr h₀ L h' m := ⟨F.ns.keeps up, fun b o e => up b o (F.keep b o e), F.above⟩
  obtain ⟨oC, es, ep, hC, r⟩ := id hn
  have N' : News h₀ L h' ((s.heap.objs.size, oC) :: news) := fun q hq => by
    rcases List.mem_cons.mp hq with rfl | hq
    · exact ⟨hC, Nat.ne_of_gt hLlt, hC0⟩
    · exact ⟨up _ _ (N q hq).1, (N q hq).2⟩
  refine ⟨(hlim.keeps F.keep).keeps up, ?_⟩
  refine h s.heap.objs.size h'.objs.size _ _ oC _ (hn.push _) (Heap.get?_push_of_some _ hC) ?_ (F'.push _) (N'.push F' _) (fun q hq => Heap.lt_size (N q hq).1) (by rw [hsz]; exact Nat.lt_succ_self _) (Nat.le_trans F.above (Nat.le_of_lt hLlt)) hLlt
  exact fun h hh => ⟨_, _, _, hh, rfl, rfl, rfl⟩
end
end Mine
end
theorem Mine.offGen5 : True := by
  w_top off
  trivial
section
open PySem PySem.W PyProof.Rows
open Sem (wp)
namespace Mine
theorem ints_get {vs : List Value} {ns : List Int} (h : IntsAre vs ns) : ∀ {i : Nat} {v : Value}, vs[i]? = some v → ∃ x t, v = .int x t ∧ ns[i]? = some x := by
  induction h with
  | nil => intro i v e; simp at e
  | cons x t _ ih =>
    intro i v e
    cases i with
    | zero => simp at e; exact ⟨x, t, e.symm, rfl⟩
    | succ i => simpa using ih (by simpa using e)
theorem drop_one {α : Type} {l r : List α} {k : Nat} {x : α} (h : l.drop k = x :: r) : l[k]? = some x ∧ l.drop (k + 1) = r := by
  refine ⟨?_, ?_⟩
  · have := congrArg List.head? h
    simpa [List.head?_drop] using this
  · rw [← List.drop_drop, h]; rfl
theorem Fr.ag {hb h h2 : Heap} {C I l : Addr} {oC oI lo : Obj} {m : Str → Option Value} (F : Fr hb C h m) (e : h.get? C = some oC) (a : Ag hb C I l oC oI lo h2) : Fr hb C h2 m :=
  ⟨F.ns.at' fun o e' => by rw [e] at e'; cases e'; exact a.2.1, a.1, F.above⟩
section
variable {w : World} {A : Around} {fs : List Frame} {env : Env} {hb : Heap} {C I l : Addr} {lo : Obj} {out : List Int} {N : Nat}
theorem seg_wloop {p0 p1 p2 p3 : Pos} {k0 : Nat} {v : Int} {t : Tok} (hL : env.locals = C) (hk : env.scope.kind = .function) (hl : env.kindOf lastN = some .local) (hco : env.scope.isCoroutine = false) (hi : interactive env = false)
    (hfs : splitAtGen fs = none) (hfg : fs.any Frame.guarded = false) (hIC : I ≠ C) :
    ∀ (n : Nat) (s₀ s : Shared) (u : Str → Option Value) (oI : Obj), 1 ≤ n → n ≤ N → Since C I s₀ s → Fr hb C s.heap (kstB u [(lastN, .int v t)]) → s.heap.get? I = some oI → out.drop (N - n) = List.replicate n v →
      Seg (M0 w) A (gR C I out N) (gY hb C I l lo out N) n s₀ (.whileLoop (.Constant (.bool true) k0 p0) [.Expr (.Yield (some (.Name lastN p1)) p2) p3] [] env)
        ((M0 w).den (.whileLoop (.Constant (.bool true) k0 p0) [.Expr (.Yield (some (.Name lastN p1)) p2) p3] [] env)) fs s := by
  subst hL
  intro n
  induction n with
  | zero => intro s₀ s u oI h; (first | lia | omega)
  | succ n ih =>
    intro s₀ s u oI _ hn since F hoI hout
    refine seg_whileLoop ?_
    refine isTrue_plain ?_
    walk1
    walk1
    rw [if_pos rfl]
    refine seg_execs_cons ?_
    refine seg_Expr_Yield hfs rfl hfg ?_ hco hi
    refine wpAny_Name (wpAny_loadName_local hk hl F.ns (v := .int v t) (by simp [kstB]) ?_) (by decide)
    intro kap hkap
    obtain ⟨oC, es, ep, hC, r⟩ := id F.ns
    rw [List.replicate_succ] at hout
    obtain ⟨e1, e2⟩ := drop_one hout
    refine ⟨⟨v, t, ?_, rfl⟩, since, oC, oI, hC, hoI, fun hn0 s'' ag => hkap .none s'' ?_⟩
    · rw [show N - 1 - n = N - (n + 1) by (first | lia | omega)]; exact e1
    refine seg_execs_nil ?_
    refine seg_again rfl ?_
    exact ih s'' s'' u oI (by (first | lia | omega)) (by (first | lia | omega)) (Since.refl _ _ _) (Fr.ag F hC ag) ag.2.2.1 (by rw [show N - n = N - (n + 1) + 1 by (first | lia | omega)]; exact e2)
end
end Mine
namespace Mine
theorem gOut_len : ∀ (n : Nat) (last : Option Int) (xs : List Int), (gOut n last xs).length ≤ n
  | 0, _, _ => Nat.zero_le _
  | _ + 1, _, [] => Nat.zero_le _
  | n + 1, last, x :: xs => by
    unfold gOut
    split
    · exact Nat.zero_le _
    · split
      · cases last <;> simp
      · simpa using gOut_len n (some x) xs
end Mine
namespace Mine
theorem toks_ext {s : Shared} {tk : Nat} : ({ s with heap := s.heap, toks := tk } : Shared) = { s with toks := tk } := rfl
theorem Since.toks {C I : Addr} {s₀ s : Shared} (x : Since C I s₀ s) {tk : Nat} : Since C I s₀ { s with toks := tk } := x.step (h' := s.heap) fun _ _ _ _ e => e
end Mine
namespace Mine
theorem gOut_nil : ∀ (n : Nat) (last : Option Int), gOut n last [] = []
  | 0, _ => rfl
  | _ + 1, _ => rfl
end Mine
end
theorem Mine.offGen6 : True := by
  w_top off
  trivial
section
open PySem PySem.W PyProof.Rows
namespace Mine
/-- the end of a turn, its state told by c' -/
def TurnV {σ : Type} (h₀ : Heap) (L I : Addr) (o : Obj) (ps : σ → List (Str × Value)) (led : σ → Led) (P : σ → Prop) (s : Shared) (Q : Flow → Shared → Prop) (f : Flow) (s₃ : Shared) : Prop :=
  match f with
  | .next | .cont => ∃ (c' : σ) (h' : Heap) (tk' : Nat) (u' : Str → Option Value), s₃ = { s with heap := h', toks := tk' } ∧ Fr h₀ L h' (kstB u' (ps c')) ∧ News h₀ L h' ((I, o) :: led c') ∧ (∀ q ∈ led c', q.1 ≠ I) ∧ P c'
  | .brk => Q .next s₃
  | .ret v => Q (.ret v) s₃
theorem TurnV.of {σ : Type} {h₀ : Heap} {L I : Addr} {o : Obj} {ps : σ → List (Str × Value)} {led : σ → Led} {P : σ → Prop} {s : Shared} {Q : Flow → Shared → Prop} {h' : Heap} {tk' : Nat} {m : Str → Option Value} (c' : σ)
    (F : Fr h₀ L h' m) (hp : ∀ p ∈ ps c', m p.1 = some p.2) (N : News h₀ L h' ((I, o) :: led c')) (hn : ∀ q ∈ led c', q.1 ≠ I) (hP : P c') : TurnV h₀ L I o ps led P s Q .next { s with heap := h', toks := tk' } :=
  let ⟨u, F'⟩ := fr_ps (ps c') F hp
  ⟨c', h', tk', u, rfl, F', N, hn, hP⟩
theorem TurnV.end {σ : Type} {h₀ : Heap} {L I : Addr} {o : Obj} {ps : σ → List (Str × Value)} {led : σ → Led} {P : σ → Prop} {s : Shared} {Q : Flow → Shared → Prop} {f : Flow} {s₃ : Shared}
    (t : TurnV h₀ L I o ps led P s Q f s₃) : TurnEnd h₀ L I o (fun m news => ∃ c u, m = kstB u (ps c) ∧ news = led c ∧ P c) s Q f s₃ := by
  cases f with
  | next => obtain ⟨c', h', tk', u', e, F, N, hn, hP⟩ := t; exact ⟨h', tk', _, led c', e, F, N, hn, c', u', rfl, rfl, hP⟩
  | cont => obtain ⟨c', h', tk', u', e, F, N, hn, hP⟩ := t; exact ⟨h', tk', _, led c', e, F, N, hn, c', u', rfl, rfl, hP⟩
  | brk => exact t
  | ret v => exact t
section
variable {σ : Type} {w : World} {A : Around} {E : Value → Shared → Prop} {Q : Flow → Shared → Prop} {s : Shared} {env : Env} {h₀ : Heap} {L : Addr} {x : Str} {px : Pos} {body : List Stmt} {m₀ : Str → Option Value}
theorem for_range {r : Addr} {a₀ b₀ : Int} {t₀ u₀ v₀ : Tok} {n : Nat} {news₀ : Led} (hh : A.handled = none) (hr : IsRange s.heap r a₀ b₀ 1 t₀ u₀ v₀) (hsmall : Builtin.Range.small a₀ b₀ 1 = true) (hn : Builtin.Range.rangeSize a₀ b₀ 1 = (n : Int))
    (hL : env.locals = L) (hx : env.kindOf x = some .local) (hp : (env.scope.kind == .class || (env.scope.kind == .module && env.locals != env.globals)) = false)
    (F : Fr h₀ L s.heap m₀) (N : News h₀ L s.heap news₀)
    (J : Nat → (Str → Option Value) → Led → Prop) (hj : J 0 m₀ news₀)
    (turn : ∀ i t m news h tk I o, i < n → J i m news → Fr h₀ L h (fun y => if y = x then some (.int (a₀ + i) t) else m y) → News h₀ L h ((I, o) :: news) → (∀ q ∈ news, q.1 ≠ I) →
      wpAny (model prg w) A (execs body env) (TurnEnd h₀ L I o (J (i + 1)) s Q) (fun _ _ => False) { s with heap := h, toks := tk })
    (done : ∀ m news h tk, J n m news → Fr h₀ L h m → News h₀ L h news → Q .next { s with heap := h, toks := tk }) :
    wpAny (model prg w) A (pyIter (.ref r)) (fun it s₂ => codeAny (model prg w) A (.forLoop (.Name x px) it body [] env) (fun r s' => match r with | .ok f => Q f s' | .error e => cameBackBy (model prg w) A env E e s') s₂) E s := by
  refine wpAny_pyIter_range hr hsmall ?_
  have W : Walks prg w A s.heap.objs.size [s.heap.objs.size] [s.heap.objs.size] n (fun i v => ∃ t, v = .int (a₀ + i * 1) t) (fun i h => IsRangeIter h s.heap.objs.size (a₀ + (i : Nat) * 1) ((n : Int) - (i : Nat)) 1) := Walks.range hh _ a₀ 1 n
  refine for_core (fp := [s.heap.objs.size]) (n := n) W ?_ hL hx hp (next_is_new F) (Nat.ne_of_gt F.ns.lt) (F.push _) (fun q hq => ⟨Heap.get?_push_of_some _ (N q hq).1, (N q hq).2⟩) (fun q hq => Nat.ne_of_lt (Heap.lt_size (N q hq).1)) (fun i h st => ⟨_, st⟩) ?_ (fun _ => default) J hj ?_ ?_ ?_
  · show IsRangeIter _ _ _ _ _
    rw [hn]; simpa using Heap.get?_push_size _ rfl
  · intro hm
    exact absurd F.ns.lt ((List.mem_singleton.mp hm) ▸ Nat.lt_irrefl _)
  · intro i m news hJ b hb
    exact .inl (List.mem_singleton.mp hb)
  · rintro i v m news h tk o hi ⟨t, rfl⟩ hJ F' N' hn'
    rw [Int.mul_one] at F'
    exact turn i t m news h tk _ o hi hJ F' N' hn'
  · intro m news h tk hJ F' N'
    exact done m news h tk hJ F' N'
theorem for_range_v {r : Addr} {a₀ b₀ : Int} {t₀ u₀ v₀ : Tok} {n : Nat} (ps : σ → List (Str × Value)) (led : σ → Led) (P : Nat → σ → Prop) (c₀ : σ) (hh : A.handled = none) (hr : IsRange s.heap r a₀ b₀ 1 t₀ u₀ v₀) (hsmall : Builtin.Range.small a₀ b₀ 1 = true) (hn : Builtin.Range.rangeSize a₀ b₀ 1 = (n : Int))
    (hL : env.locals = L) (hx : env.kindOf x = some .local) (hp : (env.scope.kind == .class || (env.scope.kind == .module && env.locals != env.globals)) = false)
    (F : Fr h₀ L s.heap m₀) (N : News h₀ L s.heap (led c₀)) (hps : ∀ p ∈ ps c₀, m₀ p.1 = some p.2) (hP : P 0 c₀)
    (turn : ∀ i t c h tk I o u, i < n → P i c → Fr h₀ L h (kstB u ((x, .int (a₀ + (i : Nat)) t) :: ps c)) → News h₀ L h ((I, o) :: led c) → (∀ q ∈ led c, q.1 ≠ I) →
      wpAny (model prg w) A (execs body env) (TurnV h₀ L I o ps led (P (i + 1)) s Q) (fun _ _ => False) { s with heap := h, toks := tk })
    (done : ∀ c h tk u, P n c → Fr h₀ L h (kstB u (ps c)) → News h₀ L h (led c) → Q .next { s with heap := h, toks := tk }) :
    wpAny (model prg w) A (pyIter (.ref r)) (fun it s₂ => codeAny (model prg w) A (.forLoop (.Name x px) it body [] env) (fun r s' => match r with | .ok f => Q f s' | .error e => cameBackBy (model prg w) A env E e s') s₂) E s := by
  obtain ⟨u₀, F₀⟩ := fr_ps (ps c₀) F hps
  refine for_range hh hr hsmall hn hL hx hp F₀ N (fun i m news => ∃ c u, m = kstB u (ps c) ∧ news = led c ∧ P i c) ⟨c₀, u₀, rfl, rfl, hP⟩ ?_ ?_
  · rintro i t m news h tk I o hi ⟨c, u, rfl, rfl, hPc⟩ F' N' hn'
    exact wpAny_mono (turn i t c h tk I o u hi hPc F' N' hn') (fun f s₃ t => t.end) fun _ _ h => h
  · rintro m news h tk ⟨c, u, rfl, rfl, hPc⟩ F' N'
    exact done c h tk u hPc F' N'
end
/-- int_divmod where its tables are filled -/
theorem dmN {w : World} {av bv : Int} {ta tb : Tok} {news : Led} {c d : Addr} {oc od : Obj}
   (hb : bv ≠ 0) (hab : PySem.Builtin.Int.intBits av ≤ 19999) (hbb : PySem.Builtin.Int.intBits bv ≤ 7999) (h30 : (30, tab30 c) ∈ news) (h37 : (37, tab37 d) ∈ news) (hc : (c, oc) ∈ news) (hd : (d, od) ∈ news) (cf30 : CodeFact q30 oc) (cf37 : CodeFact q37 od) :
   Ct w 56 [.int av ta, .int bv tb] news 53 (Pair news (av.fdiv bv) (av.fmod bv)) := by
  intro p loose mean mg mb dp un gd cn cs a ccd cl outer A₀ base h₀ L m s Q E B F X N T hk hd' hu ret
  have ne : ∀ (x y : Addr) (ox : Obj) (q q' : Str) (t : Addr), (x, ox) ∈ news → CodeFact q ox → ∀ (k j : Nat), (y, tabObj #[rawInt (k : Int), rawInt (j : Int), .ref t]) ∈ news → x ≠ y := by
    intro x y ox q q' t hx hf k j hy
    refine ne_of_data N hx hy ?_
    obtain ⟨vs, t', hd, hv⟩ := hf
    rw [hd]
    intro e
    have e' : vs = #[rawInt (k : Int), rawInt (j : Int), .ref t] := by injection e
    subst e'
    simp [rawInt] at hv
  have c30 := ne c 30 oc q30 q30 c hc cf30 32 4 h30
  have c37 := ne c 37 oc q30 q30 d hc cf30 47 4 h37
  have d30 := ne d 30 od q37 q30 c hd cf37 32 4 h30
  have d37 := ne d 37 od q37 q30 d hd cf37 47 4 h37
  let rest := news.filter fun q => q.1 != 30 && q.1 != 37
  have mem : ∀ q, q ∈ rest ↔ q ∈ news ∧ q.1 ≠ 30 ∧ q.1 ≠ 37 := fun q => by simp [rest]
  have hcr : (c, oc) ∈ rest := (mem _).mpr ⟨hc, c30, c37⟩
  have hdr : (d, od) ∈ rest := (mem _).mpr ⟨hd, d30, d37⟩
  refine Ct.useR (d56 (rest := rest) (p30 := #[rawInt ((32 : Nat) : Int), rawInt ((4 : Nat) : Int), .ref c]) (p37 := #[rawInt ((47 : Nat) : Int), rawInt ((4 : Nat) : Int), .ref d]) (c0 := c) (o0 := oc) (c1 := d) (o1 := od) hb hab hbb (fun q hq => ((mem q).mp hq).2.1) (fun q hq => ((mem q).mp hq).2.2) (.inr ⟨rfl, hcr, cf30⟩) (.inr ⟨rfl, hdr, cf37⟩)) B F X N ?_ T hk hd' hu ?_
  · intro q hq
    rcases List.mem_cons.mp hq with rfl | hq
    · exact h30
    · rcases List.mem_cons.mp hq with rfl | hq
      · exact h37
      · exact ((mem q).mp hq).1
  · rintro v news' h' tk' ⟨t, t1, t2, c', oc', d', od', rfl, rfl, g1, g2, g3, g4, lt⟩ F' N'
    obtain ⟨rfl, rfl⟩ := g3.resolve_left (by simp)
    obtain ⟨rfl, rfl⟩ := g4.resolve_left (by simp)
    have all : ∀ q ∈ news, q = (30, tab30 c') ∨ q = (37, tab37 d') ∨ q ∈ rest := by
      rintro ⟨b, o⟩ hq
      by_cases e1 : b = 30
      · subst e1
        have h1 := (N _ hq).1
        rw [(N _ h30).1] at h1
        exact .inl (by have h2 : tab30 c' = o := Option.some.inj h1; rw [← h2])
      · by_cases e2 : b = 37
        · subst e2
          have h1 := (N _ hq).1
          rw [(N _ h37).1] at h1
          exact .inr (.inl (by have h2 : tab37 d' = o := Option.some.inj h1; rw [← h2]))
        · exact .inr (.inr ((mem _).mpr ⟨hq, e1, e2⟩))
    have sub : ∀ q ∈ news, q ∈ (c', oc') :: (d', od') :: (30, tab30 c') :: (37, tab37 d') :: rest := fun q hq => by
      rcases all q hq with rfl | rfl | h
      · exact .tail _ (.tail _ (.head _))
      · exact .tail _ (.tail _ (.tail _ (.head _)))
      · exact .tail _ (.tail _ (.tail _ (.tail _ h)))
    refine ret _ _ _ _ ⟨t, t1, t2, rfl, rfl, fun q hq => lt q (sub q hq)⟩ F' (cb_drop N' fun q hq => ?_)
    rcases List.mem_cons.mp hq with rfl | hq
    · exact .head _
    · exact .tail _ (sub q hq)
end Mine
end
theorem Mine.offLoops2 : True := by
  w_top off
  trivial
section
open PySem PySem.W PyProof.Rows
namespace Mine
theorem reg8 : PySem.Challenge.rw_ph0105_01.prog = PySem.Challenge.rw_ph0105_01.prog ∧ Mine.hd.heap_1 = Mine.hd.heap_1 := by
  k_fill
  exact ⟨rfl, rfl⟩
/-- a contract of a def that makes generators -/
def CtG (w : World) (f : Addr) (vs : List Value) (news : Led) (lv : Nat) (Post : Value → Led → Prop) : Prop :=
  ∀ (p : Program) (loose : List Str) (mean : ExcName → Option Value) (mg mb : Str → Option Value) (dp un : Nat) (gd : Option (List Code)) (cn : Str) (cs : Scope) (a : Addr) (ccd : Value) (cl : List (Str × Addr)) (outer : List Env) (A₀ : Around) (base h₀ : Heap) (L : Addr) (m : Str → Option Value) (s : Shared) (Q E : Value → Shared → Prop),
    Below A₀ base outer h₀ → Fr h₀ L s.heap m → (Mine.hd.heap_1 w.params).In h₀ → News h₀ L s.heap news → Top p loose mean mg mb h₀ → cs.kind = .function →
    dp + lv < recursionLimit → un + 8 * lv < cLine → AllBare s.gens →
    (∀ v news' h' tk' gens', Post v news' → AllBare gens' → Fr h₀ L h' m → News h₀ L h' news' → Q v { s with heap := h', toks := tk', gens := gens' }) →
    wpAny (model prg w) (ktrTop dp un gd cn cs L a ccd cl outer) (call (.ref f) vs) Q E s
local macro_rules | `(tactic| walk_at "call builtin:len") => `(tactic| (k_here; k_dflt (refine' len_line ?N ?mm ?ii ?ff ?_; (case N => k_asm); (case mm => exact List.Mem.tail _ (.tail _ (.tail _ (.head _)))); (case ii => assumption); (case ff => assumption); k_whole); intro t' tk'))
local macro_rules | `(tactic| walk_at "call ref") => `(tactic| refine stop_of ?_)
local macro_rules | `(tactic| walk_at "storeName none") => `(tactic| refine stop_of ?_)
local macro_rules | `(tactic| walk_at "storeName int") => `(tactic| refine stop_of ?_)
local macro_rules | `(tactic| walk_at "pyIter ref") => `(tactic| refine stop_of ?_)
local macro_rules | `(tactic| walk_at "exec For Name Call cons nil") => `(tactic| refine stop_of ?_)
set_option maxRecDepth 100000 in
set_option maxHeartbeats 8000000 in
theorem d91 {w : World} {l : Addr} {e : Nat} {vs : List Value} {ns : List Int} {cv : Int} {tc : Tok} {news : Led} (hm : (l, listOf vs.toArray e) ∈ news) (hi : IntsAre vs ns)  (hc1 : 1 ≤ cv) (hc2 : cv ≤ 100) (h0 : ns.head? ≠ some 0) :
   CtG w 91 [.ref l, .int cv tc] news 12 (fun v news' => ∃ D vs' e', v = .ref D ∧ news' = (D, listOf vs'.toArray e') :: news ∧ IntsAre vs' (gOut cv.toNat none ns) ∧ ∀ q ∈ news, q.1 < D) := by
  intro p loose mean mg mb dp un gd cn cs a ccd cl outer A₀ base h₀ L m s Q E B F X N T hk hd hu hbare ret
  refine wpAny_call ?_
  k_dflt cell_enter
  k_steps
  refine stop_in ?_
  refine wpAny_For ?_
  k_steps
  refine stop_in ?_
  refine wpAny_call ?_
  k_dflt (refine' gen_make ?F ?N ?nl ?ho ?hd ?hcd ?hroom ?hbind ?hloc ?_ ?hcell ?hco ?hgen ?hk; (case F => k_asm); (case N => k_asm); (case nl => exact Top.nolimit (by assumption)); (case ho => exact Fr.keep (by assumption) _ _ ((by assumption : (Mine.hd.heap_1 w.params).In _) _ _ rfl)); (case hd => exact rfl); (case hcd => exact codeRec_of ((by assumption : (Mine.hd.heap_1 w.params).In _).keeps (Fr.keep (by assumption))) rfl); (case hroom => ktr_room); (case hbind => exact BindsTo.of_eq rfl); (case hloc => exact locs rfl); (case hcell => decide); (case hco => exact rfl); (case hgen => exact rfl); (case hk => exact rfl))
  intro C ga h22 tk2 oC go hns hoC hig F2 N2 lt1 lt2 hab hLC
  k_lt lt1
  refine wpAny_pyIter_gen (g := s.gens.size) (hig _ (N2 _ (.head _)).1) ?_
  rename_i g9 L9 hg9 FG9 B9 X9 T9 tk9 l9 h9 l19 h99 F9 N9
  have lN : AllLt l9 news := allLt_of l19
  have lCl : l9 < C := lt1.1
  obtain ⟨u9, F3⟩ := fr_ps [(Str.ofString "told", .ref l9), (Str.ofString "count", .int cv tc)] F2 (by kst_all)
  have hg0 : g9.get? C = none := by
    cases hq : g9.get? C with
    | none => rfl
    | some o => exact absurd (Heap.lt_size hq) (Nat.not_lt.mpr hab)
  have N3 : News g9 L9 h22 ((ga, go) :: (l9, listOf #[] 0) :: news) := cb_drop N2 (by kcj_in)
  clear F2
  generalize hout : gOut cv.toNat none ns = out
  have hout1 : out.length ≤ cv.toNat := hout ▸ gOut_len _ _ _
  k_dflt (refine' for_gen (news₀ := (ga, go) :: (l9, listOf #[] 0) :: news) (g := s.gens.size) (C := C) (l := l) (lo := listOf vs.toArray e) (out := out) (N := cv.toNat) (ga := go) ?hh ?hroom ?hL ?hx ?hp F3 N3 ?lim ?hN ?hga ?hgs ?hbare hg0 (Nat.ne_of_gt hLC) ?hnC ?hgo (fun i m news' => ∃ u vs' e', m = kstB u [(Str.ofString "told", .ref l9), (Str.ofString "count", .int cv tc)] ∧ news' = (ga, go) :: (l9, listOf vs'.toArray e') :: news ∧ IntsAre vs' (out.take i) ∧ vs'.length = i) ?hj ?hJ ?turn ?done; (case hh => exact rfl); (case hroom => ktr_room); (case hL => exact rfl); (case hx => exact rfl); (case hp => exact rfl); (case lim => exact Top.nolimit (by assumption)); (case hN => (first | lia | omega)); (case hga => exact hig); (case hgs => exact Array.getElem?_push_size ..); (case hbare => exact hbare.push rfl))
  case hnC =>
    intro q hq
    rcases List.mem_cons.mp hq with rfl | hq
    · exact Nat.ne_of_gt lt2
    · exact Nat.ne_of_lt (lt_of_all (d := C) (l := (l9, listOf #[] 0) :: news) lt1 q hq)
  case hj => exact ⟨u9, [], 0, rfl, rfl, .nil, rfl⟩
  case hJ =>
    rintro i m news' ⟨u, vs', e', rfl, rfl, _, _⟩
    exact ⟨.tail _ (.tail _ hm), .head _⟩
  case hgo =>
    intro s2 hs2
    dsimp only at hs2 ⊢
    have li : s2.heap.get? l = some (listOf vs.toArray e) := by rw [hs2]; exact (N3 _ (.tail _ (.tail _ hm))).1
    have hsz2 : s2.heap.objs.size = h22.objs.size := by rw [hs2]
    have Fs := (⟨hs2 ▸ hns, fun b o q => by rw [hs2]; exact F3.keep b o q, hab⟩ : Fr g9 C s2.heap _)
    clear F3 N3 hs2 hns
    rw [← hsz2]
    refine seg_func ?_
    refine seg_execs_cons ?_
    refine seg_wrap ?_
    k_steps
    refine stop_in ?_
    refine wpAny_storeName_local rfl Fs.ns (fun h3 hn3 hs3 => ?_) rfl
    have F3 := Fs.set hn3 hs3
    have hlC : l ≠ C := Nat.ne_of_lt (lt_of_all lt1.2 _ hm)
    have li3 : h3.get? l = some (listOf vs.toArray e) := (hs3.2 l hlC).trans li
    have hsz3 : h3.objs.size = s2.heap.objs.size := hs3.1
    obtain ⟨u3, F4⟩ := fr_ps [(Str.ofString "grouping", .ref l), (lastN, .none)] F3 (by kst_all)
    clear F3 Fs
    (try dsimp only)
    refine seg_execs_cons ?_
    refine seg_For ?_
    k_steps
    refine stop_in ?_
    rw [← hsz3]
    have hIC : h3.objs.size ≠ C := by
      obtain ⟨_, _, _, hg, _⟩ := F4.ns
      exact Nat.ne_of_gt (Heap.lt_size hg)
    have hbI : g9.get? h3.objs.size = none := by
      cases hq : g9.get? h3.objs.size with
      | none => rfl
      | some o => exact absurd (Heap.lt_size (F4.keep _ _ hq)) (Nat.lt_irrefl _)
    have hlI : l ≠ h3.objs.size := Nat.ne_of_lt (Heap.lt_size li3)
    obtain ⟨u4, F5⟩ := fr_ps [(lastN, .none)] (F4.push { cls := .type "list_iterator", data := .fields #[.ref l, .int 0 0] }) (by kst_all)
    refine wpAny_pyIter_list ⟨_, li3, rfl, _, rfl⟩ ?_
    intro p9
    refine seg_gloop (hb := g9) (C := C) (l := l) (vs := vs) (e := e) (ns := ns) (out := out) (N := cv.toNat) rfl rfl rfl rfl hIC hlC hlI hbI ?gturn ?gdone _ cv.toNat 0 s2 _ rfl (Nat.zero_le _) ?pg
    case pg =>
      refine ⟨by (first | lia | omega), Nat.le_refl _, by (first | lia | omega), (Since.refl _ _ _).step fun b o hC hI q => Heap.get?_push_of_some _ ((hs3.2 b hC).trans q), ⟨_, Heap.get?_push_size _ rfl, rfl, rfl⟩, Heap.get?_push_of_some _ li3, u4, none, .none, F5, rfl, ?_, fun _ => h0⟩
      rw [Nat.sub_self, List.drop_zero, List.drop_zero, hout]
    case gdone =>
      intro n last s₀ s4 hn hlen since hd
      have hnil : ns.drop vs.length = [] := List.drop_eq_nil_of_le (by rw [hi.length]; exact Nat.le_refl _)
      rw [hnil, gOut_nil] at hd
      refine seg_leaf (.ok .next) ?_
      refine seg_end (.ok (.ret .none)) ⟨rfl, ?_, since⟩
      have := List.drop_eq_nil_iff.mp hd
      (first | lia | omega)
    case gturn =>
      clear F4 F5 hs3
      intro n i v u last lastV s₀ s4 hi5 hv hn1 hn hlen since it li5 F6 hlast hd h05 ih
      obtain ⟨x, t, rfl, hx⟩ := ints_get hi hv
      have hdi : ns.drop i = x :: ns.drop (i + 1) := by
        obtain ⟨hlt, hx'⟩ := List.getElem?_eq_some_iff.mp hx
        rw [← hx']; exact List.drop_eq_getElem_cons hlt
      rw [hdi] at hd h05
      have F7 : Fr g9 C s4.heap (kstB u [(Str.ofString "interval", .int x t), (lastN, lastV)]) := F6
      clear F6
      obtain ⟨n, rfl⟩ : ∃ k, n = k + 1 := ⟨n - 1, by (first | lia | omega)⟩
      unfold gOut at hd
      by_cases hx1 : x = 127
      · have hc1 : (x == 127) = true := by simp [hx1]
        rw [if_pos hx1] at hd
        refine seg_execs_cons ?_
        refine seg_If ?_
        k_steps
        refine seg_execs_cons ?_
        refine seg_wrap ?_
        k_steps
        refine seg_leaf (.ok (.ret .none)) ?_
        refine seg_end (.ok (.ret .none)) ⟨rfl, ?_, since.toks⟩
        have := List.drop_eq_nil_iff.mp hd
        (first | lia | omega)
      · have hc1 : ¬ (x == 127) = true := by simp [hx1]
        rw [if_neg hx1] at hd
        refine seg_execs_cons ?_
        refine seg_If ?_
        k_steps
        refine seg_execs_nil ?_
        refine seg_execs_cons ?_
        refine seg_If ?_
        by_cases hx2 : x = 0
        · have hc2 : (x == 0) = true := by simp [hx2]
          rw [if_pos hx2] at hd
          k_steps
          cases last with
          | none => exact absurd (by simp [hx2]) (h05 rfl)
          | some v0 =>
            obtain ⟨t0, rfl⟩ := hlast
            dsimp only at hd
            refine seg_execs_cons ?_
            refine seg_If ?_
            k_steps
            refine seg_execs_nil ?_
            refine seg_execs_cons ?_
            refine seg_While ?_
            intro p8
            obtain ⟨oI, hoI⟩ : ∃ oI, s4.heap.get? h3.objs.size = some oI := let ⟨o, ho, _⟩ := it; ⟨o, ho⟩
            obtain ⟨u8, F8⟩ := fr_ps [(lastN, .int v0 t0)] F7 (by kst_all)
            exact seg_wloop rfl rfl rfl rfl rfl rfl rfl hIC (n + 1) s₀ _ u8 oI (by (first | lia | omega)) hn since.toks F8 hoI hd
        · have hc2 : ¬ (x == 0) = true := by simp [hx2]
          rw [if_neg hx2] at hd
          k_steps
          refine seg_execs_nil ?_
          refine seg_execs_cons ?_
          obtain ⟨oC, es, ep, hC, r⟩ := id F7.ns
          obtain ⟨oI, hoI⟩ : ∃ oI, s4.heap.get? h3.objs.size = some oI := let ⟨o, ho, _⟩ := it; ⟨o, ho⟩
          obtain ⟨d1, d2⟩ := drop_one hd
          refine seg_Expr_Yield rfl rfl rfl ?_ rfl rfl
          k_steps
          rename_i kap hkap
          have hlt : cv.toNat - (n + 1) < out.length := (List.getElem?_eq_some_iff.mp d1).1
          refine ⟨⟨x, t, by rw [show cv.toNat - 1 - n = cv.toNat - (n + 1) by (first | lia | omega)]; exact d1, rfl⟩, since.toks, oC, oI, hC, hoI, fun hn0 s5 ag => hkap .none s5 ?_⟩
          have F8 := Fr.ag F7 hC ag
          clear F7 hkap
          (try dsimp only)
          refine seg_execs_cons ?_
          refine seg_wrap ?_
          k_steps
          refine stop_in ?_
          refine wpAny_storeName_local rfl F8.ns (fun h6 hn6 hs6 => ?_) rfl
          have F9 := F8.set hn6 hs6
          obtain ⟨u6, F10⟩ := fr_ps [(lastN, .int x t)] F9 (by kst_all)
          (try dsimp only)
          refine seg_execs_nil ?_
          refine seg_again rfl ?_
          refine ih n s5 _ ⟨by (first | lia | omega), by (first | lia | omega), by (first | lia | omega), (Since.refl _ _ _).step fun b o hC hI q => (hs6.2 b hC).trans q, it.at fun o q => ?_, (hs6.2 l hlC).trans ag.2.2.2, u6, some x, _, F10, ⟨t, rfl⟩, ?_, fun q => by cases q⟩
          · rw [hoI] at q
            cases q
            exact (hs6.2 _ hIC).trans ag.2.2.1
          · rw [show cv.toNat - n = cv.toNat - (n + 1) + 1 by (first | lia | omega)]; exact d2
  case turn =>
    rintro i k t m news' h tk oI oC gens' hi hk ⟨u, vs', e', rfl, rfl, hia, hvl⟩ F4 N4 hn hb
    dsimp only at N4 hn ⊢
    have F5 : Fr g9 L9 h (kstB u [(Str.ofString "size", .int k t), (Str.ofString "told", .ref l9), (Str.ofString "count", .int cv tc)]) := F4
    clear F4 F3 N3
    have nI : neT l9 h22.objs.size := (hn _ (.tail _ (.head _))).1
    have nC : neT l9 C := (hn _ (.tail _ (.head _))).2
    have q1 : ltT C ga := lt2
    have q2 : ltT l9 C := lCl
    unfold neT at nI nC
    unfold ltT at q1 q2
    have hz : vs'.length ≤ 20000 := by (first | lia | omega)
    have hia2 := ints_snoc (t := t) (x := k) hia
    have htl : (out.take i).length = i := by rw [← hia.length]; exact hvl
    have hll : (out.take i ++ [k]).length = i + 1 := by simp [htl]
    have hff : ((out.take i ++ [k]).length : Int) ≤ 20000 := by (first | lia | omega)
    have htk : out.take (i + 1) = out.take i ++ [k] := by rw [List.take_add_one, hk]; rfl
    by_cases hc : cv = i + 1
    · have hcc : ((((out.take i ++ [k]).length : Nat) : Int) == cv) = true := by rw [hll]; simp; (first | lia | omega)
      k_steps
      dsimp only [TurnG]
      k_steps
      refine ret _ _ _ _ _ ⟨l9, _, _, rfl, rfl, ?_, lt_of_all lN⟩ hb (by k_asm) (cb_drop (by k_asm) (by kcj_in))
      rw [hout, ← List.take_of_length_le (l := out) (i := i + 1) (by (first | lia | omega)), htk]
      exact hia2
    · have hcc : ¬ ((((out.take i ++ [k]).length : Nat) : Int) == cv) = true := by rw [hll]; simp; (first | lia | omega)
      k_steps
      rename Fr _ _ _ _ => F8
      obtain ⟨u8, F9⟩ := fr_ps [(Str.ofString "told", .ref l9), (Str.ofString "count", .int cv tc)] F8 (by kst_all)
      refine ⟨by (first | lia | omega), _, _, _, (ga, go) :: (l9, listOf (vs' ++ [Value.int k t]).toArray (e' + 1)) :: news, rfl, F9, by k_asm, ?_, ⟨u8, _, _, rfl, rfl, htk ▸ hia2, by simp [hvl]⟩⟩
      intro q hq
      rcases List.mem_cons.mp hq with rfl | hq
      · exact hn _ (.head _)
      · rcases List.mem_cons.mp hq with rfl | hq
        · exact ⟨nI, nC⟩
        · exact hn _ (.tail _ (.tail _ hq))
  case done =>
    rintro m news' h tk gens' hlt ⟨u, vs', e', rfl, rfl, hia, hvl⟩ F4 N4 hb
    clear F3 N3
    (try dsimp only)
    k_steps
    refine ret _ _ _ _ _ ⟨l9, _, _, rfl, rfl, ?_, lt_of_all lN⟩ hb (by k_asm) (cb_drop (by k_asm) (by kcj_in))
    rw [hout]
    rw [List.take_length] at hia
    exact hia
end Mine
end
theorem Mine.offC91 : True := by
  w_top off
  trivial
section
open PySem PySem.W PyProof.Rows
namespace Mine
theorem reg9 : PySem.Challenge.rw_ph0105_01.prog = PySem.Challenge.rw_ph0105_01.prog ∧ Mine.hd.heap_1 = Mine.hd.heap_1 := by
  k_fill
  exact ⟨rfl, rfl⟩
structure S98 where
  s : S4
  tb : Tok
  ta : Tok
  tr : Tok
  tl : Tok
local macro_rules | `(tactic| walk_at "call ref") => `(tactic| (k_here; k_dflt (refine' Ct.useP (dmN ?p1 ?p2 ?p3 ?m1 ?m2 ?m3 ?m4 ?m5 ?m6) (by k_asm) (by k_asm) (by k_asm) (by k_asm) (by k_asm) (by first | exact rfl | assumption) (by ktr_room) (by ktr_units) ?_; (case p1 => (first | lia | omega)); (case p2 => exact (bits_small (by (first | lia | omega)) (by (first | lia | omega))).1); (case p3 => exact (bits_small (by (first | lia | omega)) (by (first | lia | omega))).2); (case m1 => repeat (first | with_reducible assumption | refine List.mem_cons_of_mem _ ?_)); (case m2 => repeat (first | with_reducible assumption | refine List.mem_cons_of_mem _ ?_)); (case m5 => assumption); (case m6 => assumption); (case m3 => repeat (first | with_reducible assumption | refine List.mem_cons_of_mem _ ?_)); (case m4 => repeat (first | with_reducible assumption | refine List.mem_cons_of_mem _ ?_)); k_whole; intro x' t1' t2' h' tk' l1 F' N'; (try k_lt l1); (try k_sweep))))
local macro_rules | `(tactic| walk_at "exec For Name Call cons nil") => `(tactic| refine stop_of ?_)
local macro_rules | `(tactic| walk_at "pyIter ref") => `(tactic| refine stop_of ?_)
set_option maxRecDepth 100000 in
set_option maxHeartbeats 8000000 in
theorem d98 {w : World} {rv sv cv : Int} {tr ts tc : Tok} {news : Led} {c d : Addr} {oc od : Obj}
   (h30 : (30, tab30 c) ∈ news) (h37 : (37, tab37 d) ∈ news) (hc : (c, oc) ∈ news) (hd : (d, od) ∈ news) (cf30 : CodeFact q30 oc) (cf37 : CodeFact q37 od)
   (hs1 : 1 ≤ sv) (hs2 : sv ≤ 50) (hr1 : sv < rv) (hr2 : rv ≤ 100) (hc1 : 1 ≤ cv) (hc2 : cv ≤ 100) :
   Ct w 98 [.int rv tr, .int sv ts, .int cv tc] news 60 (fun v news' => ∃ R t t1 t2 t3 t4, R = near cv cv.toNat ⟨1, 1, sv, rv - sv⟩ ∧ v = .ref t ∧ news' = (t, tupObj [.int R.b t1, .int R.a t2, .int R.r t3, .int R.l t4]) :: news ∧ ∀ q ∈ news, q.1 < t) := by
  intro p loose mean mg mb dp un gd cn cs a ccd cl outer A₀ base h₀ L m s Q E B F X N T hk hd' hu ret
  refine wpAny_call ?_
  k_dflt cell_enter
  k_steps
  refine stop_in ?_
  refine wp_gen ?_
  intro Q9 E9 hQ9 hE9
  refine wpAny_For ?_
  k_steps
  refine stop_in ?_
  rename IsRange _ _ _ _ _ _ _ _ => hrg
  k_dflt (refine' for_range_v (n := cv.toNat) (fun c : S98 => [(Str.ofString "behind", .int c.s.b c.tb), (Str.ofString "ahead", .int c.s.a c.ta), (Str.ofString "right", .int c.s.r c.tr), (Str.ofString "left", .int c.s.l c.tl), (Str.ofString "count", .int cv tc)]) (fun _ => news) (fun i c => NInv cv c.s ∧ near cv (cv.toNat - i) c.s = near cv cv.toNat ⟨1, 1, sv, rv - sv⟩) ⟨⟨1, 1, sv, rv - sv⟩, _, _, _, _⟩ ?hh hrg ?hsm ?hsz ?hL ?hx ?hp ?F ?N ?ps ?P ?_ ?_; (case F => k_asm); (case N => exact cb_drop (by k_asm) (by kcj_in)); (case hh => exact rfl); (case hL => exact rfl); (case hx => exact rfl); (case hp => exact rfl); (case ps => kst_all))
  case hsm => exact small_one (by (first | lia | omega)) (by (first | lia | omega)) (by (first | lia | omega)) (by (first | lia | omega))
  case hsz => (rw [rangeSize_nat, Int.sub_zero])
  case P => exact ⟨⟨by dsimp only; (first | lia | omega), by dsimp only; (first | lia | omega), hs1, by dsimp only; (first | lia | omega), by dsimp only; (first | lia | omega), by dsimp only; (first | lia | omega), by dsimp only; (first | lia | omega), by dsimp only; (first | lia | omega)⟩, rfl⟩
  · rintro i t ⟨s9, tb9, ta9, tr9, tl9⟩ h9 tk9 I o u hi ⟨hinv, hnear⟩ F9 N9 hn9
    dsimp only at hinv hnear F9
    (try dsimp only)
    have hinv' := hinv
    obtain ⟨b0, a0, r0, l0, b1, a1, r1, l1⟩ := hinv
    refine wp_gen ?_
    intro Q8 E8 hQ8 hE8
    by_cases hc9 : cv ≤ s9.b + s9.a
    · have hcc : decide (s9.b + s9.a ≥ cv) = true := decide_eq_true hc9
      k_steps
      refine hQ8 _ _ ?_
      dsimp only [TurnV]
      refine hQ9 _ _ ?_
      (try dsimp only)
      k_steps
      exact ret _ _ _ _ ⟨s9, _, _, _, _, _, by rw [← hnear, near_stop hc9], rfl, rfl, by first | assumption | exact lt_of_all (by assumption) | (rename_i hh; exact lt_of_all (And.right hh)) | (exact lt_of_all (And.right (by assumption)))⟩ (by k_asm) (cb_drop (by k_asm) (by kcj_in))
    · have hcc : ¬ decide (s9.b + s9.a ≥ cv) = true := by simpa using hc9
      by_cases hlt : s9.l < s9.r
      · have hcc2 : decide (s9.r > s9.l) = true := decide_eq_true hlt
        k_steps
        rename Fr _ _ _ _ => F8
        have e9 : nTurn cv s9 = ⟨s9.b + nOft1 cv s9 * s9.a, s9.a, s9.r - nOft1 cv s9 * s9.l, s9.l⟩ := by unfold nTurn; rw [if_pos hlt]
        refine hQ8 _ _ ?_
        exact TurnV.of ⟨⟨s9.b + nOft1 cv s9 * s9.a, s9.a, s9.r - nOft1 cv s9 * s9.l, s9.l⟩, _, _, _, _⟩ F8 (by kst_all) (cb_drop (by k_asm) (by kcj_in)) hn9 ⟨e9 ▸ nTurn_inv hc2 hinv' hc9, by rw [← hnear, show cv.toNat - i = cv.toNat - (i + 1) + 1 by (first | lia | omega), near_step hc9, e9]⟩
      · have hcc2 : ¬ decide (s9.r > s9.l) = true := by simpa using hlt
        k_steps
        rename Fr _ _ _ _ => F8
        have e9 : nTurn cv s9 = ⟨s9.b, s9.a + nOft2 cv s9 * s9.b, s9.r, s9.l - nOft2 cv s9 * s9.r⟩ := by unfold nTurn; rw [if_neg hlt]
        refine hQ8 _ _ ?_
        exact TurnV.of ⟨⟨s9.b, s9.a + nOft2 cv s9 * s9.b, s9.r, s9.l - nOft2 cv s9 * s9.r⟩, _, _, _, _⟩ F8 (by kst_all) (cb_drop (by k_asm) (by kcj_in)) hn9 ⟨e9 ▸ nTurn_inv hc2 hinv' hc9, by rw [← hnear, show cv.toNat - i = cv.toNat - (i + 1) + 1 by (first | lia | omega), near_step hc9, e9]⟩
  · rintro ⟨s9, tb9, ta9, tr9, tl9⟩ h9 tk9 u ⟨hinv, hnear⟩ F9 N9
    dsimp only at hinv hnear F9
    (try dsimp only)
    refine hQ9 _ _ ?_
    (try dsimp only)
    k_steps
    rw [Nat.sub_self] at hnear
    exact ret _ _ _ _ ⟨s9, _, _, _, _, _, hnear, rfl, rfl, by first | assumption | exact lt_of_all (by assumption) | (rename_i hh; exact lt_of_all (And.right hh)) | (exact lt_of_all (And.right (by assumption)))⟩ (by k_asm) (by k_asm)
end Mine
end
theorem Mine.offC98 : True := by
  w_top off
  trivial
section
open PySem PySem.W PyProof.Rows
namespace Mine
theorem fmod_pos {x b : Int} (hb : 0 < b) : 0 ≤ x.fmod b ∧ x.fmod b < b := ⟨Int.fmod_nonneg_of_pos x hb, Int.fmod_lt_of_pos x hb⟩
theorem mulOk_small {a b : Int} (h1 : -1000 ≤ a) (h2 : a ≤ 1000) (h3 : -1000 ≤ b) (h4 : b ≤ 1000) : IntMulOk a b := by
  have e : ∀ x : Int, -1000 ≤ x → x ≤ 1000 → PySem.Builtin.Int.intBits x ≤ 10 := fun x h h' => by
    rw [intBits_le_iff]; omega
  exact IntMulOk.of_le (e a h1 h2) (e b h3 h4) (by decide)
end Mine
end
theorem Mine.offHalt : True := by
  w_top off
  trivial
section
open PySem PySem.W PyProof.Rows
namespace Mine
/-- the k's of 1 .. ring whose steps are whole rounds -/
noncomputable def ordL (ring step : Int) : List Int := List.foldl (fun l' k' => if (k' * step).fmod ring = 0 then l' ++ [k'] else l') [] (rangeKs 1 (ring + 1 - 1).toNat)
noncomputable def ordF (ring step : Int) : Int := (ordL ring step).getD 0 0
theorem ordL_ne : ∀ r : Fin 17, ∀ s : Fin 17, 3 ≤ r.val → 1 ≤ s.val → s.val < r.val → ordL r.val s.val ≠ [] ∧ 2 ≤ ordF r.val s.val ∧ ordF r.val s.val ≤ r.val := by decide +kernel
theorem ord_facts {ring step : Int} (h1 : 3 ≤ ring) (h2 : ring ≤ 16) (h3 : 1 ≤ step) (h4 : step < ring) : ordL ring step ≠ [] ∧ 2 ≤ ordF ring step ∧ ordF ring step ≤ ring := by
  obtain ⟨r, rfl⟩ := Int.eq_ofNat_of_zero_le (show 0 ≤ ring by (first | lia | omega))
  obtain ⟨s, rfl⟩ := Int.eq_ofNat_of_zero_le (show 0 ≤ step by (first | lia | omega))
  exact ordL_ne ⟨r, by (first | lia | omega)⟩ ⟨s, by (first | lia | omega)⟩ (by dsimp only; (first | lia | omega)) (by dsimp only; (first | lia | omega)) (by dsimp only; (first | lia | omega))
end Mine
namespace Mine
section
variable {w : World} {A : Around} {E : Value → Shared → Prop} {s : Shared} {h₀ : Heap} {L : Addr} {m : Str → Option Value} {news : Led}
theorem add_line {l b : Addr} {vs ws : List Value} {e e' : Nat} {Q : Value → Shared → Prop} (F : Fr h₀ L s.heap m) (N : News h₀ L s.heap news) (hl : (l, listOf vs.toArray e) ∈ news) (hb : (b, listOf ws.toArray e') ∈ news) (hz : vs.length + ws.length ≤ 20000)
    (h : ∀ D h', Fr h₀ L h' m → News h₀ L h' ((D, listOf (vs ++ ws).toArray 0) :: news) → (∀ q ∈ news, q.1 < D) → Q (.ref D) { s with heap := h' }) :
    wpAny (model prg w) A (binaryOp .Add (.ref l) (.ref b)) Q E s :=
  add_lists F N ⟨_, (N _ hl).1, rfl, _, rfl⟩ ⟨_, (N _ hb).1, rfl, _, rfl⟩ (fun h' F' N' => h _ h' F' N' fun q hq => Heap.lt_size (N q hq).1) (by rw [sizeLine_eq]; (first | lia | omega))
/-- two lists of the same ints, asked for being unlike -/
theorem ne_line {l b : Addr} {vs ws : List Value} {ns : List Int} {e e' : Nat} {Q : Value → Shared → Prop} (N : News h₀ L s.heap news) (hl : (l, listOf vs.toArray e) ∈ news) (hb : (b, listOf ws.toArray e') ∈ news) (hi : IntsAre vs ns) (hj : IntsAre ws ns) (hu : A.units + 64 < cLine) (h : Q (.bool false) s) :
    wpAny (model prg w) A (compareOp .NotEq (.ref l) (.ref b)) Q E s := by
  refine ne_intsK ⟨_, (N _ hl).1, rfl, _, rfl⟩ hi ⟨_, (N _ hb).1, rfl, _, rfl⟩ hj hu ?_
  simpa using h
end
end Mine
namespace Mine
theorem CtG.use {w : World} {f : Addr} {vs : List Value} {news : Led} {lv : Nat} {Post : Value → Led → Prop} (C : CtG w f vs news lv Post)
    {p : Program} {loose : List Str} {mean : ExcName → Option Value} {mg mb : Str → Option Value} {dp un : Nat} {gd : Option (List Code)} {cn : Str} {cs : Scope} {a : Addr} {ccd : Value} {cl : List (Str × Addr)} {outer : List Env} {A₀ : Around} {base h₀ : Heap} {L : Addr} {m : Str → Option Value} {s : Shared} {Q E : Value → Shared → Prop}
    (B : Below A₀ base outer h₀) (F : Fr h₀ L s.heap m) (X : (Mine.hd.heap_1 w.params).In h₀) (N : News h₀ L s.heap news) (T : Top p loose mean mg mb h₀) (hk : cs.kind = .function)
    (hd : dp + lv < recursionLimit) (hu : un + 8 * lv < cLine) (hb : AllBare s.gens)
    (ret : ∀ v news' h' tk' gens', Post v news' → AllBare gens' → Fr h₀ L h' m → News h₀ L h' news' → Q v { s with heap := h', toks := tk', gens := gens' }) :
    wpAny (model prg w) (ktrTop dp un gd cn cs L a ccd cl outer) (call (.ref f) vs) Q E s :=
  C p loose mean mg mb dp un gd cn cs a ccd cl outer A₀ base h₀ L m s Q E B F X N T hk hd hu hb ret
/-- the ints of the rows -/
noncomputable def endedNs (first size : Int) (n : Nat) : List Int := first :: List.replicate n size
theorem ints_ended {first size : Int} {t t' : Tok} {n : Nat} : IntsAre ([.int first t] ++ List.replicate n (.int size t')) (endedNs first size n) := by
  refine .cons _ _ ?_
  induction n with
  | zero => exact .nil
  | succ n ih => exact .cons _ _ ih
theorem gOut_reps {size : Int} (hs : 1 ≤ size) (hs2 : size ≤ 100) (rest : List Int) : ∀ (n k : Nat) (last : Option Int), gOut (n + k) last (List.replicate n size ++ rest) = List.replicate n size ++ gOut k (if n = 0 then last else some size) rest
  | 0, k, last => by simp
  | n + 1, k, last => by
    rw [show n + 1 + k = n + k + 1 by (first | lia | omega), List.replicate_succ, List.cons_append]
    conv => lhs; unfold gOut
    rw [if_neg (by (first | lia | omega)), if_neg (by (first | lia | omega))]
    rw [gOut_reps hs hs2 rest n k (some size)]
    simp
theorem gOut_zero {v : Int} {rest : List Int} : ∀ (k : Nat), gOut k (some v) (0 :: rest) = List.replicate k v
  | 0 => rfl
  | k + 1 => by unfold gOut; rfl
theorem gOut_first {first : Int} (h1 : 1 ≤ first) (h2 : first ≤ 100) (k : Nat) (rest : List Int) : gOut (k + 1) none (first :: rest) = first :: gOut k (some first) rest := by
  conv => lhs; unfold gOut
  rw [if_neg (by (first | lia | omega)), if_neg (by (first | lia | omega))]
/-- [first, size * j, 0, ..] taken k + 1 times -/
theorem gOut_endless {first size : Int} (h1 : 1 ≤ first) (h2 : first ≤ 100) (hs : 1 ≤ size) (hs2 : size ≤ 100) (j k : Nat) (hj : j ≠ 0) (rest : List Int) : gOut (j + k + 1) none (first :: (List.replicate j size ++ 0 :: rest)) = endedNs first size (j + k) := by
  rw [gOut_first h1 h2, gOut_reps hs hs2, if_neg hj, gOut_zero]
  unfold endedNs
  rw [List.replicate_append_replicate]
theorem gOut_ended {first size : Int} (h1 : 1 ≤ first) (h2 : first ≤ 100) (hs : 1 ≤ size) (hs2 : size ≤ 100) (j k : Nat) : gOut (j + k + 1) none (endedNs first size j) = endedNs first size j := by
  unfold endedNs
  have := gOut_reps hs hs2 [] j k (some first)
  rw [List.append_nil] at this
  rw [gOut_first h1 h2, this, gOut_nil, List.append_nil]
theorem gOut_127 {first size : Int} (h1 : 1 ≤ first) (h2 : first ≤ 100) (hs : 1 ≤ size) (hs2 : size ≤ 100) (j k : Nat) (rest : List Int) : gOut (j + k + 1) none (endedNs first size j ++ 127 :: rest) = endedNs first size j := by
  unfold endedNs
  rw [List.cons_append, gOut_first h1 h2, gOut_reps hs hs2]
  have : ∀ (k : Nat) (l : Option Int), gOut k l (127 :: rest) = [] := by
    intro k l
    cases k with
    | zero => rfl
    | succ k => unfold gOut; rw [if_pos rfl]
  rw [this, List.append_nil]
end Mine
end
theorem Mine.offOrder : True := by
  w_top off
  trivial
section
open PySem PySem.W PyProof.Rows
namespace Mine
/-- the library's rule for the tables, for one end alone -/
theorem post_at {r : Result} {s' s₁ : Shared} {cw : ClaimW} {cl : Str → Option Addr} {mean : ExcName → Option Value} {args : List WData} {tabs : List (Addr × Addr)} (w : World) (hT : TabsAt tabs s₁.heap) (hr : ∀ a x, cw.raises a x = false)
    (g : GoodW cw cl mean args { s₁ with heap := ghostOf s₁.heap tabs } r s' ∧ GrownAll tabs s'.heap) : GoodWG cw cl mean args s₁ r s' := by
  have h1 : codeAny ⟨fun _ => leafOf r, prg, w⟩ ⟨none, 0, none, none, 0⟩ (.builtin "" {}) (fun r s' => GoodW cw cl mean args { s₁ with heap := ghostOf s₁.heap tabs } r s' ∧ GrownAll tabs s'.heap) s' := fun Γ p _ _ => by
    rw [wpCode_iff_wp]
    cases r with
    | ok f => exact g
    | error e => exact g
  have h2 := kn_post hT hr h1 ⟨.builtin "" {}, none, none, [], none⟩ ⟨0, 0, 0, 0⟩ rfl ⟨rfl, Nat.le_refl _, (fun l h => nomatch h), (fun l h => nomatch h), Nat.le_refl _⟩
  rw [wpCode_iff_wp] at h2
  cases r with
  | ok f => exact h2
  | error e => exact h2
/-- the same where generators were made -/
theorem kn_postB {M : Model} {A : Around} {cd : Code} {s s₁ : Shared} {cw : ClaimW} {cl : Str → Option Addr} {mean : ExcName → Option Value} {args : List WData} {tabs : List (Addr × Addr)} (w : World) (hT : TabsAt tabs s₁.heap) (hr : ∀ a x, cw.raises a x = false)
    (h : codeAny M A cd (fun r s' => (GoodW cw cl mean args { s₁ with heap := ghostOf s₁.heap tabs } r { s' with gens := #[] } ∧ GrownAll tabs s'.heap) ∧ AllBare s'.gens) s) : codeAny M A cd (GoodWG cw cl mean args s₁) s :=
  codeAny_mono h fun r s' ⟨g, hb⟩ => by
    have k := post_at (s' := { s' with gens := #[] }) w hT hr g
    exact ⟨k.1, k.2.1, k.2.2.1, hb⟩
end Mine
end
theorem Mine.offPost : True := by
  w_top off
  trivial
section
open PySem PySem.W PyProof.Rows
namespace Mine
section
variable {w : World} {A : Around} {E : Value → Shared → Prop} {s : Shared}
/-- a sum under a letter of its own -/
theorem add_gen {a b : Int} {t u : Tok} {Q : Value → Shared → Prop} (h : ∀ x t', x = a + b → Q (.int x t') { s with toks := s.toks + 1 }) : wpAny (model prg w) A (binaryOp .Add (.int a t) (.int b u)) Q E s := add_int (h _ _ rfl)
/-- what stands between two statements, said with the state, the frame's heap and place, and the ledger -/
theorem mid_frN {α : Type} {M : Model} {t : Sem α} {Q : α → Shared → Prop} {g h : Heap} {L : Addr} {m : Str → Option Value} {led : Led} (R : Shared → Heap → Addr → Led → α → Shared → Prop) (_F : Fr g L h m) (_N : News g L h led)
    (h1 : wpAny M A t (R s g L led) (fun _ _ => False) s) (h2 : ∀ a s', R s g L led a s' → Q a s') : wpAny M A t Q E s :=
  wpAny_mono h1 h2 fun _ _ x => x.elim
structure Kept (p : Prop) : Prop where
  get : p
end
end Mine
end
theorem Mine.offSpeed : True := by
  w_top off
  trivial
section
open PySem PySem.W PyProof.Rows
namespace Mine
theorem ints_rep' {x : Int} {t : Tok} : ∀ {n : Nat}, IntsAre (List.replicate n (.int x t)) (List.replicate n x)
  | 0 => .nil
  | _ + 1 => .cons _ _ ints_rep'
theorem head_ne {first : Int} {l : List Int} (h : 1 ≤ first) : (first :: l).head? ≠ some 0 := by simp; (first | lia | omega)
theorem d91' {w : World} {l : Addr} {e : Nat} {vs : List Value} {ns out : List Int} {cv : Int} {tc : Tok} {news : Led} (hm : (l, listOf vs.toArray e) ∈ news) (hi : IntsAre vs ns) (hc1 : 1 ≤ cv) (hc2 : cv ≤ 100) (h0 : ns.head? ≠ some 0) (hg : gOut cv.toNat none ns = out) :
   CtG w 91 [.ref l, .int cv tc] news 12 (fun v news' => ∃ D vs' e', v = .ref D ∧ news' = (D, listOf vs'.toArray e') :: news ∧ IntsAre vs' out ∧ ∀ q ∈ news, q.1 < D) := hg ▸ d91 hm hi hc1 hc2 h0
section
variable {first size count : Int} (h1 : 1 ≤ first) (h2 : first ≤ 100) (hs : 1 ≤ size) (hs2 : size ≤ 100) (hc : 2 ≤ count)
include h1 h2 hs hs2 hc
theorem row_end : endedNs first size ((count - 1).toNat + 2) = first :: (List.replicate (count - 1).toNat size ++ [size, size]) := by
  unfold endedNs
  rw [show [size, size] = List.replicate 2 size from rfl, List.replicate_append_replicate]
theorem row1 : gOut (count + 2).toNat none [first, size, 0] = first :: (List.replicate (count - 1).toNat size ++ [size, size]) := by
  have e := gOut_endless h1 h2 hs hs2 1 ((count - 1).toNat + 1) (by decide) []
  rw [show 1 + ((count - 1).toNat + 1) + 1 = (count + 2).toNat by (first | lia | omega), show 1 + ((count - 1).toNat + 1) = (count - 1).toNat + 2 by (first | lia | omega), row_end h1 h2 hs hs2 hc] at e
  exact e
theorem row2 {ring : Int} : gOut (count + 2).toNat none [first, size, size, 0, ring] = first :: (List.replicate (count - 1).toNat size ++ [size, size]) := by
  have e := gOut_endless h1 h2 hs hs2 2 (count - 1).toNat (by decide) [ring]
  rw [show 2 + (count - 1).toNat + 1 = (count + 2).toNat by (first | lia | omega), show 2 + (count - 1).toNat = (count - 1).toNat + 2 by (first | lia | omega), row_end h1 h2 hs hs2 hc] at e
  exact e
theorem row3 : gOut (count + 2).toNat none (first :: List.replicate (count - 1).toNat size) = first :: List.replicate (count - 1).toNat size := by
  have e := gOut_ended h1 h2 hs hs2 (count - 1).toNat 2
  rw [show (count - 1).toNat + 2 + 1 = (count + 2).toNat by (first | lia | omega)] at e
  exact e
theorem row4 {ring : Int} : gOut (count + 2).toNat none (first :: (List.replicate (count - 1).toNat size ++ [127, ring])) = first :: List.replicate (count - 1).toNat size := by
  have e := gOut_127 h1 h2 hs hs2 (count - 1).toNat 2 [ring]
  rw [show (count - 1).toNat + 2 + 1 = (count + 2).toNat by (first | lia | omega)] at e
  exact e
theorem row5 : gOut count.toNat none [first, size, 0] = first :: List.replicate (count - 1).toNat size := by
  have e := gOut_endless h1 h2 hs hs2 1 ((count - 1).toNat - 1) (by decide) []
  rw [show 1 + ((count - 1).toNat - 1) + 1 = count.toNat by (first | lia | omega), show 1 + ((count - 1).toNat - 1) = (count - 1).toNat by (first | lia | omega)] at e
  exact e
end
end Mine
end
theorem Mine.offRows4 : True := by
  w_top off
  trivial
section
open PySem PySem.W PyProof.Rows
namespace Mine
theorem CtG.useD {w : World} {l : Addr} {e : Nat} {vs : List Value} {ns out : List Int} {cv : Int} {tc : Tok} {news : Led} (hm : (l, listOf vs.toArray e) ∈ news) (hi : IntsAre vs ns) (hc1 : 1 ≤ cv) (hc2 : cv ≤ 100) (h0 : ns.head? ≠ some 0) (hg : gOut cv.toNat none ns = out)
    {p : Program} {loose : List Str} {mean : ExcName → Option Value} {mg mb : Str → Option Value} {dp un : Nat} {gd : Option (List Code)} {cn : Str} {cs : Scope} {a : Addr} {ccd : Value} {cl : List (Str × Addr)} {outer : List Env} {A₀ : Around} {base h₀ : Heap} {L : Addr} {m : Str → Option Value} {s : Shared} {Q E : Value → Shared → Prop}
    (B : Below A₀ base outer h₀) (F : Fr h₀ L s.heap m) (X : (Mine.hd.heap_1 w.params).In h₀) (N : News h₀ L s.heap news) (T : Top p loose mean mg mb h₀) (hk : cs.kind = .function)
    (hd : dp + 12 < recursionLimit) (hu : un + 8 * 12 < cLine) (hb : AllBare s.gens)
    (ret : ∀ D vs' e' h' tk' gens', IntsAre vs' out → (∀ q ∈ news, q.1 < D) → AllBare gens' → Fr h₀ L h' m → News h₀ L h' ((D, listOf vs'.toArray e') :: news) → Q (.ref D) { s with heap := h', toks := tk', gens := gens' }) :
    wpAny (model prg w) (ktrTop dp un gd cn cs L a ccd cl outer) (call (.ref 91) [.ref l, .int cv tc]) Q E s :=
  CtG.use (d91' hm hi hc1 hc2 h0 hg) B F X N T hk hd hu hb fun v news' h' tk' gens' hP hb' F' N' => by
    obtain ⟨D, vs', e', rfl, rfl, hI, lt⟩ := hP
    exact ret D vs' e' h' tk' gens' hI lt hb' F' N'
end Mine
end
theorem Mine.offUseG : True := by
  w_top off
  trivial
section
open PySem PySem.W PyProof.Rows
namespace Mine
/-- the end of a turn that leaves all as it was but the generators and names behind -/
def TurnC (h₀ : Heap) (L I : Addr) (o : Obj) (ps : List (Str × Value)) (led : Led) (s : Shared) (Q : Flow → Shared → Prop) (f : Flow) (s₃ : Shared) : Prop :=
  match f with
  | .next | .cont => ∃ (h' : Heap) (tk' : Nat) (gens' : Array GenState) (m' : Str → Option Value), s₃ = { s with heap := h', toks := tk', gens := gens' } ∧ Fr h₀ L h' m' ∧ (∀ p ∈ ps, m' p.1 = some p.2) ∧ News h₀ L h' ((I, o) :: led) ∧ AllBare gens'
  | .brk => Q .next s₃
  | .ret v => Q (.ret v) s₃
theorem TurnC.of {h₀ : Heap} {L I : Addr} {o : Obj} {ps : List (Str × Value)} {led : Led} {s : Shared} {Q : Flow → Shared → Prop} {h' : Heap} {tk' : Nat} {gens' : Array GenState} {m' : Str → Option Value}
    (F : Fr h₀ L h' m') (hp : ∀ p ∈ ps, m' p.1 = some p.2) (N : News h₀ L h' ((I, o) :: led)) (hb : AllBare gens') : TurnC h₀ L I o ps led s Q .next { s with heap := h', toks := tk', gens := gens' } :=
  ⟨h', tk', gens', m', rfl, F, hp, N, hb⟩
section
variable {w : World} {A : Around} {E : Value → Shared → Prop} {Q : Flow → Shared → Prop} {s : Shared} {env : Env} {h₀ : Heap} {L : Addr} {target : Expr} {body : List Stmt} {m₀ : Str → Option Value}
theorem for_list_c {l : Addr} {vs : List Value} {e : Nat} (ps : List (Str × Value)) (led : Led) (hh : A.handled = none) (hL : env.locals = L) (ht : ∀ (s : Shared) (i : Nat) (I : Addr) (v : Value) (Q E), v ∈ vs → s.heap.IsListIter I l i → Q () s → wpAny (model prg w) A (letOwnedTupleGo target (.ref I) v) Q E s)
    (F : Fr h₀ L s.heap m₀) (N : News h₀ L s.heap led) (hps : ∀ p ∈ ps, m₀ p.1 = some p.2) (hb : AllBare s.gens) (hl : (l, listOf vs.toArray e) ∈ led)
    (turn : ∀ (i : Nat) v h tk gens' I o u, vs[i]? = some v → AllBare gens' → Fr h₀ L h (kstB u ps) → News h₀ L h ((I, o) :: led) → (∀ q ∈ led, q.1 ≠ I) →
      wpAny (model prg w) A (assign target env v) (fun _ s₂ => wpAny (model prg w) A (execs body env) (TurnC h₀ L I o ps led { s with heap := s.heap.push { cls := .type "list_iterator", data := .fields #[.ref l, .int 0 0] } } Q) (fun _ _ => False) s₂) (fun _ _ => False) { s with heap := h, toks := tk, gens := gens' })
    (done : ∀ h tk gens' u, AllBare gens' → Fr h₀ L h (kstB u ps) → News h₀ L h led → Q .next { s with heap := h, toks := tk, gens := gens' }) :
    wpAny (model prg w) A (pyIter (.ref l)) (fun it s₂ => codeAny (model prg w) A (.forLoop target it body [] env) (fun r s' => match r with | .ok f => Q f s' | .error e => cameBackBy (model prg w) A env E e s') s₂) E s := by
  subst hL
  obtain ⟨u₀, F₀⟩ := fr_ps ps F hps
  have hli := News.isList N hl
  have hlt : l < s.heap.objs.size := Heap.lt_size (N _ hl).1
  have hne : l ≠ s.heap.objs.size := Nat.ne_of_lt hlt
  refine wpAny_pyIter_list hli ?_
  generalize hI : s.heap.objs.size = I at *
  have hI0 : h₀.get? I = none := by
    cases hq : h₀.get? I with
    | none => rfl
    | some o => exact absurd (Heap.lt_size (F.keep _ _ hq)) (hI ▸ Nat.lt_irrefl _)
  have hIL : I ≠ env.locals := hI ▸ Nat.ne_of_gt F.ns.lt
  have hn : ∀ q ∈ led, q.1 ≠ I := fun q hq => hI ▸ Nat.ne_of_lt (Heap.lt_size (N q hq).1)
  have W := Walks.list (prog := prg) (w := w) hh I l hne vs.toArray
  refine codeAny_forLoop_any (fun k s' => ∃ i h tk gens' u, k = vs.length - i ∧ i ≤ vs.length ∧ s' = { s with heap := h, toks := tk, gens := gens' } ∧ Fr h₀ env.locals h (kstB u ps) ∧ News h₀ env.locals h led ∧ AllBare gens' ∧ h.IsListIter I l i) ?_ vs.length
    ⟨0, _, _, s.gens, u₀, rfl, Nat.zero_le _, rfl, F₀.push _, fun q hq => ⟨Heap.get?_push_of_some _ (N q hq).1, (N q hq).2⟩, hb, ⟨_, hI ▸ Heap.get?_push_size _ rfl, rfl, rfl⟩⟩
  rintro k s' ⟨i, h, tk, gens', u, rfl, hi, rfl, F', N', hb', hit⟩
  have up : ∀ {h' : Heap}, (∀ b o, b ∉ [I] → h.get? b = some o → h'.get? b = some o) → Fr h₀ env.locals h' (kstB u ps) ∧ News h₀ env.locals h' led := fun {h'} hk =>
    ⟨⟨F'.ns.at' fun o e => hk _ o (by simpa using fun e => hIL e.symm) e, fun b o e => hk b o (fun hm => by rw [List.mem_singleton.mp hm, hI0] at e; cases e) (F'.keep b o e), F'.above⟩,
     fun q hq => ⟨hk _ _ (by simpa using hn q hq) (N' q hq).1, (N' q hq).2⟩⟩
  by_cases hlt' : i < vs.length
  · refine W.item i { s with heap := h, toks := tk, gens := gens' } _ _ (by simpa using hlt') ⟨hit, News.isList N' hl⟩ fun v h₁ tk₁ hv hs₁ hk₁ => ?_
    obtain ⟨F₁, N₁⟩ := up hk₁
    obtain ⟨o, ho, hor⟩ := id hs₁.1
    have N₂ : News h₀ env.locals h₁ ((I, o) :: led) := fun q hq => by
      rcases List.mem_cons.mp hq with rfl | hq
      · exact ⟨ho, hIL, hI0⟩
      · exact N₁ q hq
    refine ht _ (i + 1) I v _ _ (List.mem_of_getElem? (by simpa using hv)) hs₁.1 ?_
    refine wpAny_mono (turn i v h₁ tk₁ gens' I o u (by simpa using hv) hb' F₁ N₂ hn) (fun _ s₂ h₂ => wpAny_mono h₂ (fun f s₃ hf => ?_) fun _ _ h => h.elim) fun _ _ h => h.elim
    have fin : (∃ (h' : Heap) (tk' : Nat) (gens'' : Array GenState) (m' : Str → Option Value), s₃ = { s with heap := h', toks := tk', gens := gens'' } ∧ Fr h₀ env.locals h' m' ∧ (∀ p ∈ ps, m' p.1 = some p.2) ∧ News h₀ env.locals h' ((I, o) :: led) ∧ AllBare gens'') →
        ∃ m₁, m₁ < vs.length - i ∧ ∃ i h tk gens' u, m₁ = vs.length - i ∧ i ≤ vs.length ∧ s₃ = { s with heap := h, toks := tk, gens := gens' } ∧ Fr h₀ env.locals h (kstB u ps) ∧ News h₀ env.locals h led ∧ AllBare gens' ∧ h.IsListIter I l i := by
      rintro ⟨h', tk', gens'', m', rfl, F'', hp, N'', hb''⟩
      obtain ⟨u', F3⟩ := fr_ps ps F'' hp
      exact ⟨vs.length - (i + 1), by omega, i + 1, h', tk', gens'', u', rfl, hlt', rfl, F3, fun q hq => N'' q (.tail _ hq), hb'', ⟨o, (N'' _ (.head _)).1, hor⟩⟩
    cases f with
    | next => exact fin hf
    | cont => exact fin hf
    | brk => exact hf
    | ret v => exact hf
  · have : i = vs.length := by omega
    subst this
    refine W.done { s with heap := h, toks := tk, gens := gens' } _ _ ⟨by simpa using hit, News.isList N' hl⟩ fun h₁ tk₁ hk₁ => ?_
    obtain ⟨F₁, N₁⟩ := up hk₁
    exact wpAny_execs_nil (done h₁ tk₁ gens' u hb' F₁ N₁)
theorem go_name {x : Str} {px : Pos} {l : Addr} {vs : List Value} : ∀ (s : Shared) (i : Nat) (I : Addr) (v : Value) (Q E), v ∈ vs → s.heap.IsListIter I l i → Q () s → wpAny (model prg w) A (letOwnedTupleGo (.Name x px) (.ref I) v) Q E s :=
  fun _ _ _ _ _ _ _ _ h => wpAny_of_eq rfl h
theorem go_refs {elts : List Expr} {x1} {pos : Pos} {l : Addr} {vs : List Value} (hv : ∀ v ∈ vs, ∃ a, v = .ref a) : ∀ (s : Shared) (i : Nat) (I : Addr) (v : Value) (Q E), v ∈ vs → s.heap.IsListIter I l i → Q () s → wpAny (model prg w) A (letOwnedTupleGo (.Tuple elts x1 pos) (.ref I) v) Q E s :=
  fun _ _ _ v _ _ hm hi h => by obtain ⟨a, rfl⟩ := hv v hm; exact wpAny_letOwnedTupleGo_listiter hi h
end
end Mine
end
theorem Mine.offLoops3 : True := by
  w_top off
  trivial
section
open PySem PySem.W PyProof.Rows
namespace Mine
/-- the end of a turn, its state told by c' -/
def TurnS {σ : Type} (h₀ : Heap) (L I : Addr) (o : Obj) (ps : σ → List (Str × Value)) (led : σ → Led) (P : σ → Prop) (s : Shared) (Q : Flow → Shared → Prop) (f : Flow) (s₃ : Shared) : Prop :=
  match f with
  | .next | .cont => ∃ (c' : σ) (h' : Heap) (tk' : Nat) (gens' : Array GenState) (m' : Str → Option Value), s₃ = { s with heap := h', toks := tk', gens := gens' } ∧ Fr h₀ L h' m' ∧ (∀ p ∈ ps c', m' p.1 = some p.2) ∧ News h₀ L h' ((I, o) :: led c') ∧ (∀ q ∈ led c', q.1 ≠ I) ∧ AllBare gens' ∧ P c'
  | .brk => Q .next s₃
  | .ret v => Q (.ret v) s₃
theorem TurnS.of {σ : Type} {h₀ : Heap} {L I : Addr} {o : Obj} {ps : σ → List (Str × Value)} {led : σ → Led} {P : σ → Prop} {s : Shared} {Q : Flow → Shared → Prop} {h' : Heap} {tk' : Nat} {gens' : Array GenState} {m' : Str → Option Value} (c' : σ)
    (F : Fr h₀ L h' m') (hp : ∀ p ∈ ps c', m' p.1 = some p.2) (N : News h₀ L h' ((I, o) :: led c')) (hn : ∀ q ∈ led c', q.1 ≠ I) (hb : AllBare gens') (hP : P c') : TurnS h₀ L I o ps led P s Q .next { s with heap := h', toks := tk', gens := gens' } :=
  ⟨c', h', tk', gens', m', rfl, F, hp, N, hn, hb, hP⟩
section
variable {σ : Type} {w : World} {A : Around} {E : Value → Shared → Prop} {Q : Flow → Shared → Prop} {s : Shared} {env : Env} {h₀ : Heap} {L : Addr} {target : Expr} {body : List Stmt} {m₀ : Str → Option Value}
theorem for_list_s {l : Addr} {vs : List Value} {e : Nat} (ps : σ → List (Str × Value)) (led : σ → Led) (P : Nat → σ → Prop) (c₀ : σ) (hh : A.handled = none) (hL : env.locals = L) (ht : ∀ (s : Shared) (i : Nat) (I : Addr) (v : Value) (Q E), v ∈ vs → s.heap.IsListIter I l i → Q () s → wpAny (model prg w) A (letOwnedTupleGo target (.ref I) v) Q E s)
    (F : Fr h₀ L s.heap m₀) (N : News h₀ L s.heap (led c₀)) (hps : ∀ p ∈ ps c₀, m₀ p.1 = some p.2) (hb : AllBare s.gens) (hP : P 0 c₀) (hl : ∀ c, (l, listOf vs.toArray e) ∈ led c)
    (turn : ∀ (i : Nat) v c h tk gens' I o u, vs[i]? = some v → P i c → AllBare gens' → o.data = .fields #[.ref l, .int ((i + 1 : Nat) : Int) 0] → Fr h₀ L h (kstB u (ps c)) → News h₀ L h ((I, o) :: led c) → (∀ q ∈ led c, q.1 ≠ I) →
      wpAny (model prg w) A (assign target env v) (fun _ s₂ => wpAny (model prg w) A (execs body env) (TurnS h₀ L I o ps led (P (i + 1)) { s with heap := s.heap.push { cls := .type "list_iterator", data := .fields #[.ref l, .int 0 0] } } Q) (fun _ _ => False) s₂) (fun _ _ => False) { s with heap := h, toks := tk, gens := gens' })
    (done : ∀ c h tk gens' u, P vs.length c → AllBare gens' → Fr h₀ L h (kstB u (ps c)) → News h₀ L h (led c) → Q .next { s with heap := h, toks := tk, gens := gens' }) :
    wpAny (model prg w) A (pyIter (.ref l)) (fun it s₂ => codeAny (model prg w) A (.forLoop target it body [] env) (fun r s' => match r with | .ok f => Q f s' | .error e => cameBackBy (model prg w) A env E e s') s₂) E s := by
  subst hL
  obtain ⟨u₀, F₀⟩ := fr_ps (ps c₀) F hps
  have hli := News.isList N (hl c₀)
  have hlt : l < s.heap.objs.size := Heap.lt_size (N _ (hl c₀)).1
  have hne : l ≠ s.heap.objs.size := Nat.ne_of_lt hlt
  refine wpAny_pyIter_list hli ?_
  generalize hI : s.heap.objs.size = I at *
  have hI0 : h₀.get? I = none := by
    cases hq : h₀.get? I with
    | none => rfl
    | some o => exact absurd (Heap.lt_size (F.keep _ _ hq)) (hI ▸ Nat.lt_irrefl _)
  have hIL : I ≠ env.locals := hI ▸ Nat.ne_of_gt F.ns.lt
  have hn₀ : ∀ q ∈ led c₀, q.1 ≠ I := fun q hq => hI ▸ Nat.ne_of_lt (Heap.lt_size (N q hq).1)
  have W := Walks.list (prog := prg) (w := w) hh I l hne vs.toArray
  refine codeAny_forLoop_any (fun k s' => ∃ i c h tk gens' u, k = vs.length - i ∧ i ≤ vs.length ∧ s' = { s with heap := h, toks := tk, gens := gens' } ∧ Fr h₀ env.locals h (kstB u (ps c)) ∧ News h₀ env.locals h (led c) ∧ (∀ q ∈ led c, q.1 ≠ I) ∧ P i c ∧ AllBare gens' ∧ h.IsListIter I l i) ?_ vs.length
    ⟨0, c₀, _, _, s.gens, u₀, rfl, Nat.zero_le _, rfl, F₀.push _, fun q hq => ⟨Heap.get?_push_of_some _ (N q hq).1, (N q hq).2⟩, hn₀, hP, hb, ⟨_, hI ▸ Heap.get?_push_size _ rfl, rfl, rfl⟩⟩
  rintro k s' ⟨i, c, h, tk, gens', u, rfl, hi, rfl, F', N', hn, hPc, hb', hit⟩
  have up : ∀ {h' : Heap}, (∀ b o, b ∉ [I] → h.get? b = some o → h'.get? b = some o) → Fr h₀ env.locals h' (kstB u (ps c)) ∧ News h₀ env.locals h' (led c) := fun {h'} hk =>
    ⟨⟨F'.ns.at' fun o e => hk _ o (by simpa using fun e => hIL e.symm) e, fun b o e => hk b o (fun hm => by rw [List.mem_singleton.mp hm, hI0] at e; cases e) (F'.keep b o e), F'.above⟩,
     fun q hq => ⟨hk _ _ (by simpa using hn q hq) (N' q hq).1, (N' q hq).2⟩⟩
  by_cases hlt' : i < vs.length
  · refine W.item i { s with heap := h, toks := tk, gens := gens' } _ _ (by simpa using hlt') ⟨hit, News.isList N' (hl c)⟩ fun v h₁ tk₁ hv hs₁ hk₁ => ?_
    obtain ⟨F₁, N₁⟩ := up hk₁
    obtain ⟨o, ho, hor⟩ := id hs₁.1
    have N₂ : News h₀ env.locals h₁ ((I, o) :: led c) := fun q hq => by
      rcases List.mem_cons.mp hq with rfl | hq
      · exact ⟨ho, hIL, hI0⟩
      · exact N₁ q hq
    refine ht _ (i + 1) I v _ _ (List.mem_of_getElem? (by simpa using hv)) hs₁.1 ?_
    refine wpAny_mono (turn i v c h₁ tk₁ gens' I o u (by simpa using hv) hPc hb' hor.2 F₁ N₂ hn) (fun _ s₂ h₂ => wpAny_mono h₂ (fun f s₃ hf => ?_) fun _ _ h => h.elim) fun _ _ h => h.elim
    have fin : (∃ (c' : σ) (h' : Heap) (tk' : Nat) (gens'' : Array GenState) (m' : Str → Option Value), s₃ = { s with heap := h', toks := tk', gens := gens'' } ∧ Fr h₀ env.locals h' m' ∧ (∀ p ∈ ps c', m' p.1 = some p.2) ∧ News h₀ env.locals h' ((I, o) :: led c') ∧ (∀ q ∈ led c', q.1 ≠ I) ∧ AllBare gens'' ∧ P (i + 1) c') →
        ∃ m₁, m₁ < vs.length - i ∧ ∃ i c h tk gens' u, m₁ = vs.length - i ∧ i ≤ vs.length ∧ s₃ = { s with heap := h, toks := tk, gens := gens' } ∧ Fr h₀ env.locals h (kstB u (ps c)) ∧ News h₀ env.locals h (led c) ∧ (∀ q ∈ led c, q.1 ≠ I) ∧ P i c ∧ AllBare gens' ∧ h.IsListIter I l i := by
      rintro ⟨c', h', tk', gens'', m', rfl, F'', hp, N'', hn'', hb'', hP''⟩
      obtain ⟨u', F3⟩ := fr_ps (ps c') F'' hp
      exact ⟨vs.length - (i + 1), by omega, i + 1, c', h', tk', gens'', u', rfl, hlt', rfl, F3, fun q hq => N'' q (.tail _ hq), hn'', hP'', hb'', ⟨o, (N'' _ (.head _)).1, hor⟩⟩
    cases f with
    | next => exact fin hf
    | cont => exact fin hf
    | brk => exact hf
    | ret v => exact hf
  · have : i = vs.length := by omega
    subst this
    refine W.done { s with heap := h, toks := tk, gens := gens' } _ _ ⟨by simpa using hit, News.isList N' (hl c)⟩ fun h₁ tk₁ hk₁ => ?_
    obtain ⟨F₁, N₁⟩ := up hk₁
    exact wpAny_execs_nil (done c h₁ tk₁ gens' u hPc hb' F₁ N₁)
end
end Mine
end
theorem Mine.offLoops4 : True := by
  w_top off
  trivial
section
open PySem PySem.W PyProof.Rows
namespace Mine
/-- the mark behind i sizes -/
noncomputable def mk (first size : Int) (i : Nat) : Int := if i = 0 then 0 else first + ((i : Int) - 1) * size
theorem mk_zero {first size : Int} : mk first size 0 = 0 := rfl
theorem mk_succ {first size : Int} (i : Nat) : mk first size (i + 1) = mk first size i + (if i = 0 then first else size) := by
  unfold mk
  cases i with
  | zero => simp
  | succ i =>
    rw [if_neg (by (first | lia | omega)), if_neg (by (first | lia | omega)), if_neg (by (first | lia | omega))]
    rw [show (((i + 1 + 1 : Nat) : Int) - 1) = ((i + 1 : Nat) : Int) - 1 + 1 by (first | lia | omega), Int.add_mul, Int.one_mul]
    (first | lia | omega)
theorem mk_bounds {first size : Int} (h1 : 1 ≤ first) (h2 : first ≤ 48) (h3 : 1 ≤ size) (h4 : size ≤ 47) {i : Nat} (hi : i ≤ 18) : 0 ≤ mk first size i ∧ mk first size i ≤ 900 ∧ (i ≠ 0 → 1 ≤ mk first size i) := by
  unfold mk
  split
  · exact ⟨by (first | lia | omega), by (first | lia | omega), by (first | lia | omega)⟩
  · have := Int.mul_nonneg (show 0 ≤ (i : Int) - 1 by (first | lia | omega)) (show 0 ≤ size by (first | lia | omega))
    have := Int.mul_le_mul (a := (i : Int) - 1) (b := size) (c := 17) (d := 47) (by (first | lia | omega)) h4 (by (first | lia | omega)) (by decide)
    exact ⟨by (first | lia | omega), by (first | lia | omega), by (first | lia | omega)⟩
noncomputable def plsF (first size ring : Int) (i : Nat) : List Int := (List.range i).map fun j => (mk first size (j + 1)).fmod ring
/-- the sign at place k of 'KZ_b' -/
noncomputable def kz (k : Int) : Nat := if k = 0 then 75 else if k = 1 then 90 else if k = 2 then 95 else 98
noncomputable def txt (p : Int) (j : Nat) : Str := ⟨(kz (p.fdiv 4) :: kz (p.fmod 4) :: List.replicate j 45).toArray⟩
noncomputable def txsF (first size ring : Int) (i : Nat) : List Str := (List.range i).map fun j => txt ((mk first size (j + 1)).fmod ring) j
theorem told_at {first size : Int} {n i : Nat} {x : Int} (h : (first :: List.replicate n size)[i]? = some x) : x = if i = 0 then first else size := by
  cases i with
  | zero => simpa using h.symm
  | succ i =>
    simp only [List.getElem?_cons_succ] at h
    rw [List.getElem?_replicate] at h
    split at h
    · simpa using h.symm
    · cases h
theorem plsF_succ {first size ring : Int} (i : Nat) : plsF first size ring (i + 1) = plsF first size ring i ++ [(mk first size (i + 1)).fmod ring] := by
  unfold plsF; rw [List.range_succ, List.map_append]; rfl
theorem txsF_succ {first size ring : Int} (i : Nat) : txsF first size ring (i + 1) = txsF first size ring i ++ [txt ((mk first size (i + 1)).fmod ring) i] := by
  unfold txsF; rw [List.range_succ, List.map_append]; rfl
theorem strs_snoc {vs : List Value} {ns : List Str} {x : Str} {t : Tok} (h : StrsAre vs ns) : StrsAre (vs ++ [.str x t]) (ns ++ [x]) := by
  induction h with
  | nil => exact .cons _ _ .nil
  | cons i u _ ih => exact .cons i u ih
theorem bits_mid {x : Int} (h0 : -2000 ≤ x) (h : x ≤ 2000) : PySem.Builtin.Int.intBits x ≤ 19999 ∧ PySem.Builtin.Int.intBits x ≤ 7999 := by
  have : PySem.Builtin.Int.intBits x ≤ 11 := by
    rw [intBits_le_iff]; (first | lia | omega)
  exact ⟨by (first | lia | omega), by (first | lia | omega)⟩
structure SM where
  mark : Int
  tm : Tok
  rd : Int
  tr : Tok
  plv : List Value
  ep : Nat
  txv : List Value
  et : Nat
  p30 : Array Value
  p37 : Array Value
  c0 : Addr
  c1 : Addr
  o0 : Obj
  o1 : Obj
  codes : Led
structure PM (first size ring : Int) (PL TX : Addr) (i : Nat) (c : SM) : Prop where
  mark : c.mark = mk first size i
  rd : c.rd = (mk first size i).fdiv ring
  pl : IntsAre c.plv (plsF first size ring i)
  pll : c.plv.length = i
  tx : StrsAre c.txv (txsF first size ring i)
  txl : c.txv.length = i
  st30 : TabSt 32 4 q30 c.codes c.p30 c.c0 c.o0
  st37 : TabSt 47 4 q37 c.codes c.p37 c.c1 c.o1
  ne : ∀ q ∈ c.codes, q.1 ≠ 30 ∧ q.1 ≠ 37 ∧ q.1 ≠ PL ∧ q.1 ≠ TX
  fill : i ≠ 0 → c.p30 ≠ #[] ∧ c.p37 ≠ #[]
end Mine
namespace Mine
theorem txt_dec : ∀ p : Fin 16, ∀ n : Fin 19, Txt.item (Str.ofString "KZ_b") ((p.val : Int).fdiv 4) ++ Txt.item (Str.ofString "KZ_b") ((p.val : Int).fmod 4) ++ Txt.mul (Str.ofString "-") ((n.val : Nat) : Int) = txt (p.val : Int) n.val := by decide +kernel
theorem txt_eq {p : Int} {n : Nat} (h0 : 0 ≤ p) (h1 : p < 16) (hn : n < 19) : Txt.item (Str.ofString "KZ_b") (p.fdiv 4) ++ Txt.item (Str.ofString "KZ_b") (p.fmod 4) ++ Txt.mul (Str.ofString "-") ((n : Nat) : Int) = txt p n := by
  obtain ⟨q, rfl⟩ := Int.eq_ofNat_of_zero_le h0
  exact txt_dec ⟨q, by (first | lia | omega)⟩ ⟨n, hn⟩
theorem plsF_len {first size ring : Int} (i : Nat) : (plsF first size ring i).length = i := by unfold plsF; simp
theorem txsF_len {first size ring : Int} (i : Nat) : (txsF first size ring i).length = i := by unfold txsF; simp
end Mine
namespace Mine
theorem code_ne_iter {qual : Str} {oc o : Obj} {l : Addr} {k : Int} {t : Tok} (h : CodeFact qual oc) (hd : o.data = .fields #[.ref l, .int k t]) : oc.data ≠ o.data := by
  obtain ⟨vs, t', h1, h2⟩ := h
  rw [h1, hd]
  intro e
  have e' : vs = #[.ref l, .int k t] := by injection e
  subst e'
  simp at h2
end Mine
end
theorem Mine.offMarks : True := by
  w_top off
  trivial
section
open PySem PySem.W PyProof.Rows PySem.Calls PyProof.V PySem.Spec PySem.SeqAt
namespace Mine
theorem shaped_tup (ns : List Int) : shaped (.tuple (ns.map PyData.int)) = true := by
  have h1 := PySem.W.depthAll_ints ns
  have h2 : PyData.depth (.tuple (ns.map PyData.int)) ≤ 64 := by simp only [PyData.depth]; (first | lia | omega)
  show (PyData.canLay0 (.tuple (ns.map PyData.int)) && decide (PyData.depth (.tuple (ns.map PyData.int)) ≤ 64)) = true
  rw [Bool.and_eq_true]
  exact ⟨by simp only [PyData.canLay0]; exact canLayAll0_ints ns, decide_eq_true h2⟩
theorem readsAll_strs {h : Heap} : ∀ {vs : List Value} {ns : List Str}, StrsAre vs ns → ReadsAll h vs (ns.map PyData.str) []
  | _, _, .nil => .nil
  | _, _, .cons k t r => by
    have := ReadsAll.cons (Reads.str (h := h) k t) (readsAll_strs (h := h) r)
    simpa using this
theorem depthAll_strs : ∀ ns : List Str, PyData.depthAll (ns.map PyData.str) ≤ 1
  | [] => by simp [PyData.depthAll]
  | n :: r => by
    have := depthAll_strs r
    simp only [List.map_cons, PyData.depthAll, PyData.depth]
    (first | lia | omega)
theorem canLayAll0_strs : ∀ ns : List Str, (∀ n ∈ ns, PyData.strOk n = true) → PyData.canLayAll0 (ns.map PyData.str) = true
  | [], _ => by simp [PyData.canLayAll0]
  | n :: r, h => by simp [PyData.canLayAll0, PyData.canLay0, canLayAll0_strs r fun n hn => h n (.tail _ hn), h n (.head _)]
theorem noMix_strs : ∀ ns ms : List Str, noMixAll (ns.map PyData.str) (ms.map PyData.str) = true
  | [], [] => by simp [noMixAll]
  | [], _ :: _ => by simp [noMixAll]
  | _ :: _, [] => by simp [noMixAll]
  | _ :: r, _ :: q => by simp [noMixAll, noMix, noMix_strs r q]
theorem same_strs : ∀ ns : List Str, PySem.Spec.sameAll (ns.map PyData.str) (ns.map PyData.str) = true
  | [] => by simp [PySem.Spec.sameAll]
  | n :: r => by
    simp only [List.map_cons, PySem.Spec.sameAll, PySem.Spec.same, same_strs r]
    simp
theorem shaped_strs (ns : List Str) (hok : ∀ n ∈ ns, PyData.strOk n = true) : shaped (.list (ns.map PyData.str)) = true := by
  have h1 := depthAll_strs ns
  have h2 : PyData.depth (.list (ns.map PyData.str)) ≤ 64 := by simp only [PyData.depth]; (first | lia | omega)
  show (PyData.canLay0 (.list (ns.map PyData.str)) && decide (PyData.depth (.list (ns.map PyData.str)) ≤ 64)) = true
  rw [Bool.and_eq_true]
  exact ⟨by simp only [PyData.canLay0]; exact canLayAll0_strs ns hok, decide_eq_true h2⟩
section
variable {w : World} {A : Around} {E : Value → Shared → Prop} {s : Shared} {h₀ : Heap} {L : Addr} {m : Str → Option Value} {news : Led}
/-- two tuples of the same ints, asked for being unlike -/
theorem ne_tups {a b : Addr} {vs us : List Value} {ns ms : List Int} {Q : Value → Shared → Prop} (N : News h₀ L s.heap news) (ha : (a, tupObj vs) ∈ news) (hb : (b, tupObj us) ∈ news) (hi : IntsAre vs ns) (hj : IntsAre us ms) (hu : A.units + 64 < cLine) (e : ns = ms) (h : Q (.bool false) s) :
    wpAny (model prg w) A (compareOp .NotEq (.ref a) (.ref b)) Q E s := by
  refine ne_dataH_same (Reads.tuple (N _ ha).1 rfl rfl (by simpa using readsAll_of_ints hi)) (Reads.tuple (N _ hb).1 rfl rfl (by simpa using readsAll_of_ints hj)) (shaped_tup ns) (shaped_tup ms) hu (by simp only [noMix]; exact noMix_ints ns ms) ?_
  simp only [PySem.Spec.same]
  rw [same_ints, decide_eq_true e]
  exact h
/-- two lists of the same texts, asked for being unlike -/
theorem ne_strs {a b : Addr} {vs us : List Value} {ns : List Str} {e e' : Nat} {Q : Value → Shared → Prop} (N : News h₀ L s.heap news) (ha : (a, listOf vs.toArray e) ∈ news) (hb : (b, listOf us.toArray e') ∈ news) (hi : StrsAre vs ns) (hj : StrsAre us ns) (hok : ∀ n ∈ ns, PyData.strOk n = true) (hu : A.units + 64 < cLine) (h : Q (.bool false) s) :
    wpAny (model prg w) A (compareOp .NotEq (.ref a) (.ref b)) Q E s := by
  refine ne_dataH_same (Reads.list (N _ ha).1 rfl rfl (by simpa using readsAll_strs hi)) (Reads.list (N _ hb).1 rfl rfl (by simpa using readsAll_strs hj)) (shaped_strs ns hok) (shaped_strs ns hok) hu (by simp only [noMix]; exact noMix_strs ns ns) ?_
  simp only [PySem.Spec.same]
  rw [same_strs]
  exact h
end
end Mine
namespace Mine
theorem txt_ok_dec : ∀ p : Fin 16, ∀ n : Fin 19, PyData.strOk (txt (p.val : Int) n.val) = true := by decide +kernel
theorem txsF_ok {first size ring : Int} (hr : 1 ≤ ring) (hr2 : ring ≤ 16) {i : Nat} (hi : i ≤ 18) : ∀ n ∈ txsF first size ring i, PyData.strOk n = true := by
  intro n hn
  unfold txsF at hn
  obtain ⟨j, hj, rfl⟩ := List.mem_map.mp hn
  have hj := List.mem_range.mp hj
  obtain ⟨a, b⟩ := fmod_pos (x := mk first size (j + 1)) (b := ring) (by (first | lia | omega))
  generalize (mk first size (j + 1)).fmod ring = p at *
  obtain ⟨q, rfl⟩ := Int.eq_ofNat_of_zero_le a
  exact txt_ok_dec ⟨q, by (first | lia | omega)⟩ ⟨j, by (first | lia | omega)⟩
end Mine
namespace Mine
theorem pls_last {first size ring : Int} {n : Nat} (hn : 1 ≤ n) : (plsF first size ring n).getD (-1 + (((plsF first size ring n).length : Nat) : Int)).toNat 0 = (mk first size n).fmod ring := by
  rw [plsF_len]
  obtain ⟨k, rfl⟩ : ∃ k, n = k + 1 := ⟨n - 1, by (first | lia | omega)⟩
  rw [show (-1 + ((k + 1 : Nat) : Int)).toNat = k by (first | lia | omega), plsF_succ, List.getD_eq_getElem?_getD, List.getElem?_append_right (by rw [plsF_len]; exact Nat.le_refl _), plsF_len, Nat.sub_self]
  rfl
theorem cmp1 {first size ring : Int} {n : Nat} (hr : ring ≠ 0) (hn : 1 ≤ n) : [(-mk first size n).fdiv (-ring), (-mk first size n).fmod (-ring)] = [(mk first size n).fdiv ring, -(plsF first size ring n).getD (-1 + (((plsF first size ring n).length : Nat) : Int)).toNat 0] := by
  rw [pls_last hn]
  have h := neg_fdiv (a := mk first size n) hr
  rw [h.1, ← h.2, Int.neg_neg]
theorem cmp2 {m : Int} : [(0 : Int).fdiv (-m), (0 : Int).fmod (-m)] = [0, 0] := by
  rw [Int.zero_fdiv, Int.zero_fmod]
end Mine
end
theorem Mine.offCmp : True := by
  w_top off
  trivial
section
open PySem PySem.W PyProof.Rows
namespace Mine
section
variable {w : World} {A : Around} {h₀ : Heap} {L : Addr} {m : Str → Option Value} {env : Env} {elt : Expr} {x : Str} {scope : Scope} {cl : List (Str × Addr)} {s : Shared} {S : Led → Prop} {P : Nat → Value → Prop} {Fin : List Value → Led → Prop} {news : Led}
/-- a comprehension whose turns leave the ledger as it was -/
theorem comp_rest {n : Nat} (G : Nat → Value → Prop)
    (turn : ∀ i v I oI C oC D m₂ ys h tk (E' : Value → Shared → Prop), i < n → P i v → LCg.NsObj oC m₂ → m₂ x = some v → Fr h₀ L h m → News h₀ L h ((I, oI) :: (C, oC) :: (D, LCg.lst ys) :: news) → LCg.Off3 I C D news → ((@Ne Nat I C) ∧ (@Ne Nat I D) ∧ (@Ne Nat C D)) →
      wpAny (model prg w) A (eval elt (compEnvC scope cl C env)) (LCg.CompEnd h₀ L m { s with heap := h, toks := tk } I oI C oC D (LCg.lst ys) S (fun y news' => news' = news ∧ G i y)) E' { s with heap := h, toks := tk })
    (fin : ∀ ys : List Value, ys.length = n → (∀ i y, ys[i]? = some y → G i y) → Fin ys news) : LCg.CompRest prg w A h₀ L m env elt x scope cl s S P Fin n 0 [] news := by
  have key : ∀ (j i : Nat) (ys : List Value), i + j = n → ys.length = i → (∀ i y, ys[i]? = some y → G i y) → LCg.CompRest prg w A h₀ L m env elt x scope cl s S P Fin j i ys news := by
    intro j
    induction j with
    | zero =>
      intro i ys hi hl hy
      exact LCg.CompRest.zero (fin ys (by (first | lia | omega)) hy)
    | succ j ih =>
      intro i ys hi hl hy
      refine LCg.CompRest.succ ?_
      intro v I oI C oC D m₂ h tk E' hv hC hx F N off ne
      refine wpAny_mono (turn i v I oI C oC D m₂ ys h tk E' (by (first | lia | omega)) hv hC hx F N off ne) (fun y s₂ hq => ?_) fun _ _ e => e
      obtain ⟨h', tk', nw, e, F', N', off', hS, rfl, hg⟩ := hq
      refine ⟨h', tk', nw, e, F', N', off', hS, ih (i + 1) _ (by (first | lia | omega)) (by simp [hl]) ?_⟩
      intro i' y' hy'
      rw [List.getElem?_append] at hy'
      split at hy'
      · exact hy _ _ hy'
      · have : i' = i := by
          have := (List.getElem?_eq_some_iff.mp hy').1
          simp at this
          (first | lia | omega)
        subst this
        rw [hl, Nat.sub_self] at hy'
        simp at hy'
        exact hy' ▸ hg
  exact key n 0 [] (by (first | lia | omega)) rfl (fun i y e => by simp at e)
theorem strs_of {vs : List Value} {ns : List Str} (hl : vs.length = ns.length) (h : ∀ (i : Nat) y, vs[i]? = some y → ∃ x t, ns[i]? = some x ∧ y = .str x t) : StrsAre vs ns := by
  induction vs generalizing ns with
  | nil =>
    cases ns with
    | nil => exact .nil
    | cons _ _ => simp at hl
  | cons v vs ih =>
    cases ns with
    | nil => simp at hl
    | cons n ns =>
      obtain ⟨x, t, e, rfl⟩ := h 0 v rfl
      simp at e
      subst e
      exact .cons _ _ (ih (by simpa using hl) fun i y e => by simpa using h (i + 1) y (by simpa using e))
theorem ints_of {vs : List Value} {ns : List Int} (hl : vs.length = ns.length) (h : ∀ (i : Nat) y, vs[i]? = some y → ∃ x t, ns[i]? = some x ∧ y = .int x t) : IntsAre vs ns := by
  induction vs generalizing ns with
  | nil =>
    cases ns with
    | nil => exact .nil
    | cons _ _ => simp at hl
  | cons v vs ih =>
    cases ns with
    | nil => simp at hl
    | cons n ns =>
      obtain ⟨x, t, e, rfl⟩ := h 0 v rfl
      simp at e
      subst e
      exact .cons _ _ (ih (by simpa using hl) fun i y e => by simpa using h (i + 1) y (by simpa using e))
theorem strs_get {vs : List Value} {ns : List Str} (h : StrsAre vs ns) : ∀ {i : Nat} {v : Value}, vs[i]? = some v → ∃ x t, v = .str x t ∧ ns[i]? = some x := by
  induction h with
  | nil => intro i v e; simp at e
  | cons x t _ ih =>
    intro i v e
    cases i with
    | zero => simp at e; exact ⟨x, t, e.symm, rfl⟩
    | succ i => simpa using ih (by simpa using e)
end
end Mine
namespace Mine
section
variable {w : World} {A : Around} {h₀ : Heap} {L : Addr} {m : Str → Option Value} {env : Env} {ct elt : Expr} {x : Str} {scope : Scope} {cl : List (Str × Addr)} {s : Shared} {S : Led → Prop} {P : Nat → Value → Prop} {Fin : List Value → Led → Prop} {news : Led}
/-- the end of a test that says no -/
def NoEnd (h₀ : Heap) (L : Addr) (m : Str → Option Value) (s : Shared) (all : Led) (ok : Bool) (s' : Shared) : Prop := ok = false ∧ ∃ h' tk', s' = { s with heap := h', toks := tk' } ∧ Fr h₀ L h' m ∧ News h₀ L h' all
theorem NoEnd.of {h₀ : Heap} {L : Addr} {m : Str → Option Value} {s : Shared} {all : Led} {h' : Heap} {tk' : Nat} (F : Fr h₀ L h' m) (N : News h₀ L h' all) : NoEnd h₀ L m s all false { s with heap := h', toks := tk' } := ⟨rfl, _, _, rfl, F, N⟩
/-- a comprehension whose test takes nothing -/
theorem comp_none {n : Nat} (hS : S news)
    (turn : ∀ i v I oI C oC D m₂ h tk (E' : Value → Shared → Prop), P i v → LCg.NsObj oC m₂ → m₂ x = some v → Fr h₀ L h m → News h₀ L h ((I, oI) :: (C, oC) :: (D, LCg.lst []) :: news) → LCg.Off3 I C D news → ((@Ne Nat I C) ∧ (@Ne Nat I D) ∧ (@Ne Nat C D)) →
      wpAny (model prg w) A (isTrue ct (compEnvC scope cl C env) (eval ct (compEnvC scope cl C env))) (NoEnd h₀ L m { s with heap := h, toks := tk } ((I, oI) :: (C, oC) :: (D, LCg.lst []) :: news)) E' { s with heap := h, toks := tk })
    (fin : Fin [] news) : LCt.CompRestT prg w A h₀ L m env ct elt x scope cl s S P Fin n 0 [] news := by
  have key : ∀ (j i : Nat), LCt.CompRestT prg w A h₀ L m env ct elt x scope cl s S P Fin j i [] news := by
    intro j
    induction j with
    | zero => exact fun i => LCt.CompRestT.zero fin
    | succ j ih =>
      intro i
      refine LCt.CompRestT.succ ?_
      intro v I oI C oC D m₂ h tk E' hv hC hx F N off ne
      refine wpAny_mono (turn i v I oI C oC D m₂ h tk E' hv hC hx F N off ne) (fun ok s₂ hq => ?_) fun _ _ e => e
      obtain ⟨rfl, h', tk', rfl, F', N'⟩ := hq
      rw [if_neg (by decide)]
      exact LCg.CompEnd.intro F' N' _ (fun p hp => hp) off hS (ih (i + 1))
  exact key n 0
end
end Mine
end
theorem Mine.offComps : True := by
  w_top off
  trivial
section
open PySem PySem.W PyProof.Rows
namespace Mine
section
variable {w : World} {A : Around} {E : Value → Shared → Prop} {s : Shared} {h₀ : Heap} {L : Addr} {m : Str → Option Value} {news : Led}
theorem sorted_line {l : Addr} {vs : List Value} {e : Nat} {ss : List Str} {Q : Value → Shared → Prop} (F : Fr h₀ L s.heap m) (N : News h₀ L s.heap news) (hm : (l, listOf vs.toArray e) ∈ news) (hS : StrsAre vs ss) (h64 : vs.length < 64)
    (h : ∀ D h' vs' ss' e', Fr h₀ L h' m → News h₀ L h' ((D, listOf vs'.toArray e') :: news) → (∀ q ∈ news, q.1 < D) → StrsAre vs' ss' → ss'.Perm ss → sortedS ss' = true → Q (.ref D) { s with heap := h' }) :
    wpAny (model prg w) A (call (.builtin "sorted") [.ref l]) Q E s :=
  sorted_N_str F N (News.isList N hm) hS h64 fun h' vs' ss' e' F' N' hS' hp hs => h _ h' vs' ss' e' F' N' (fun q hq => Nat.lt_succ_of_lt (Heap.lt_size (N q hq).1)) hS' hp hs
theorem ne_strs2 {a b : Addr} {vs us : List Value} {ns ms : List Str} {e e' : Nat} {Q : Value → Shared → Prop} (N : News h₀ L s.heap news) (ha : (a, listOf vs.toArray e) ∈ news) (hb : (b, listOf us.toArray e') ∈ news) (hi : StrsAre vs ns) (hj : StrsAre us ms) (he : ns = ms) (hok : ∀ n ∈ ns, PyData.strOk n = true) (hu : A.units + 64 < cLine) (h : Q (.bool false) s) :
    wpAny (model prg w) A (compareOp .NotEq (.ref a) (.ref b)) Q E s := by
  subst he
  exact ne_strs N ha hb hi hj hok hu h
theorem perm_ok {s1 s2 : List Str} (p : s1.Perm s2) (h : ∀ n ∈ s2, PyData.strOk n = true) : ∀ n ∈ s1, PyData.strOk n = true := fun n hn => h n (p.mem_iff.mp hn)
end
end Mine
end
theorem Mine.offPure : True := by
  w_top off
  trivial
section
open PySem PySem.W PyProof.Rows
open PySem.Spec (ltCps)
namespace Mine
/-- the mark behind mark i round the ring, and the gap between them -/
noncomputable def nxF (R : S4) (c i : Int) : Int := if i + R.b < c then i + R.b else if R.a ≤ i then i - R.a else i + R.b - R.a
noncomputable def gpF (R : S4) (c i : Int) : Int := if i + R.b < c then R.r else if R.a ≤ i then R.l else R.r + R.l
noncomputable def rowOK (ring step c i j g : Int) (n : Nat) : Bool := decide (0 ≤ j) && decide (j < c) && decide (j ≠ i) && decide (((j - i) * step).fmod ring = g) && (List.range n).all fun k => Nat.beq k i.toNat || Nat.ble g.toNat (Nat.mod (Nat.mul (Nat.add k (Nat.mul (Nat.pred ring.toNat) i.toNat)) step.toNat) ring.toNat)
noncomputable def gapOK (R : S4) (ring step c : Int) (n : Nat) : Bool := (List.range n).all fun i => rowOK ring step c i (nxF R c i) (gpF R c i) n
noncomputable def gapsOK (ring step : Nat) : Bool := (List.range (ordF ring step).toNat).all fun c => decide (c = 0) || gapOK (near (c + 1 : Nat) (c + 1) ⟨1, 1, step, ring - step⟩) ring step (c + 1 : Nat) (c + 1)
noncomputable def allOK (ring : Nat) : Bool := (List.range ring).all fun step => decide (step = 0) || gapsOK ring step
theorem ok_all : ∀ r : Fin 17, 3 ≤ r.val → allOK r.val = true := by decide +kernel
noncomputable def stepsOK (ring : Nat) : Bool := (List.range ring).all fun step => decide (step = 0) || (List.range (ordF ring step).toNat).all fun d => decide (d = 0) || decide (((d : Int) * step).fmod ring ≠ 0)
theorem inj_all : ∀ r : Fin 17, 3 ≤ r.val → stepsOK r.val = true := by decide +kernel
end Mine
namespace Mine
/-- the place of mark i (from nought) -/
noncomputable def plF (first size ring : Int) (i : Nat) : Int := (mk first size (i + 1)).fmod ring
theorem plF_eq {first size ring step rnd : Int} (hr : 3 ≤ ring) (hsize : step + ring * rnd = size) (i : Nat) : plF first size ring i = (first + (i : Int) * step) % ring := by
  unfold plF mk
  rw [if_neg (by (first | lia | omega)), show ((i + 1 : Nat) : Int) - 1 = (i : Int) by (first | lia | omega), Int.fmod_eq_emod_of_nonneg _ (by (first | lia | omega)), ← hsize]
  rw [show first + (i : Int) * (step + ring * rnd) = first + (i : Int) * step + ring * ((i : Int) * rnd) by
    rw [Int.mul_add, ← Int.mul_assoc, Int.mul_comm (i : Int) ring, Int.mul_assoc, Int.add_assoc]]
  exact Int.add_mul_emod_self_left _ _ _
theorem plF_rng {first size ring : Int} (hr : 3 ≤ ring) (i : Nat) : 0 ≤ plF first size ring i ∧ plF first size ring i < ring := by
  unfold plF
  rw [Int.fmod_eq_emod_of_nonneg _ (by (first | lia | omega))]
  exact ⟨Int.emod_nonneg _ (by (first | lia | omega)), Int.emod_lt_of_pos _ (by (first | lia | omega))⟩
/-- how far it is round the ring -/
theorem plF_sub {first size ring step rnd : Int} (hr : 3 ≤ ring) (hsize : step + ring * rnd = size) (i k : Nat) : (plF first size ring k - plF first size ring i).fmod ring = (((k : Int) - (i : Int)) * step).fmod ring := by
  rw [plF_eq hr hsize, plF_eq hr hsize, Int.fmod_eq_emod_of_nonneg _ (by (first | lia | omega)), Int.fmod_eq_emod_of_nonneg _ (by (first | lia | omega)), ← Int.sub_emod]
  congr 1
  rw [Int.sub_mul]
  (first | lia | omega)
theorem dist_nat {ring step : Nat} (hr : 3 ≤ ring) (i k : Nat) : (((k : Int) - (i : Int)) * (step : Int)).fmod (ring : Int) = ((Nat.mod (Nat.mul (Nat.add k (Nat.mul (Nat.pred ring) i)) step) ring : Nat) : Int) := by
  rw [Int.fmod_eq_emod_of_nonneg _ (by (first | lia | omega))]
  show _ = (((k + (ring - 1) * i) * step % ring : Nat) : Int)
  rw [Int.natCast_emod, Int.natCast_mul, Int.natCast_add, Int.natCast_mul, Int.natCast_sub (by (first | lia | omega))]
  have : ((k : Int) + ((ring : Int) - ((1 : Nat) : Int)) * (i : Int)) * (step : Int) = ((k : Int) - (i : Int)) * (step : Int) + (ring : Int) * ((i : Int) * (step : Int)) := by
    rw [← Int.mul_assoc, ← Int.add_mul]
    congr 1
    rw [Int.sub_mul]
    show _ + (_ - (1 : Int) * _) = _
    (first | lia | omega)
  rw [this]
  exact (Int.add_mul_emod_self_left _ _ _).symm
structure Row (ring step c i j g : Int) : Prop where
  j0 : 0 ≤ j
  j1 : j < c
  ne : j ≠ i
  e : ((j - i) * step).fmod ring = g
  all : ∀ k : Nat, (k : Int) < c → (k : Int) ≠ i → g ≤ (((k : Int) - i) * step).fmod ring
theorem row_of {ring step : Nat} {c g j : Int} {i n : Nat} (hr : 3 ≤ ring) (hc : c = (n : Int)) (h : rowOK ring step c i j g n = true) : Row ring step c i j g := by
  unfold rowOK at h
  simp only [Bool.and_eq_true, decide_eq_true_eq, List.all_eq_true, List.mem_range, Bool.or_eq_true] at h
  obtain ⟨⟨⟨⟨h1, h2⟩, h3⟩, h4⟩, h5⟩ := h
  refine ⟨h1, h2, h3, h4, fun k hk hne => ?_⟩
  have := h5 k (by (first | lia | omega))
  rcases this with h | h
  · have := Nat.eq_of_beq_eq_true h
    exact absurd (by rw [Int.toNat_natCast] at this; (first | lia | omega)) hne
  · have := Nat.le_of_ble_eq_true h
    rw [dist_nat hr]
    rw [Int.toNat_natCast, Int.toNat_natCast, Int.toNat_natCast] at this
    have hg : 0 ≤ g := by rw [← h4, Int.fmod_eq_emod_of_nonneg _ (by (first | lia | omega))]; exact Int.emod_nonneg _ (by (first | lia | omega))
    (first | lia | omega)
theorem rows {ring step count : Int} (r1 : 3 ≤ ring) (r2 : ring ≤ 16) (s1 : 1 ≤ step) (s2 : step < ring) (hc1 : 2 ≤ count) (hc : count ≤ ordF ring step) {i : Nat} (hi : (i : Int) < count) :
    Row ring step count i (nxF (near count count.toNat ⟨1, 1, step, ring - step⟩) count i) (gpF (near count count.toNat ⟨1, 1, step, ring - step⟩) count i) := by
  obtain ⟨R, rfl⟩ := Int.eq_ofNat_of_zero_le (show 0 ≤ ring by (first | lia | omega))
  obtain ⟨S, rfl⟩ := Int.eq_ofNat_of_zero_le (show 0 ≤ step by (first | lia | omega))
  obtain ⟨C, rfl⟩ := Int.eq_ofNat_of_zero_le (show 0 ≤ count by (first | lia | omega))
  have h := ok_all ⟨R, by (first | lia | omega)⟩ (by dsimp only; (first | lia | omega))
  dsimp only at h
  unfold allOK at h
  have h2 := List.all_eq_true.mp h S (List.mem_range.mpr (by (first | lia | omega)))
  have h3 := (Bool.or_eq_true _ _ ▸ h2).resolve_left (by simp; (first | lia | omega))
  unfold gapsOK at h3
  have h4 := List.all_eq_true.mp h3 (C - 1) (List.mem_range.mpr (by (first | lia | omega)))
  have h5 := (Bool.or_eq_true _ _ ▸ h4).resolve_left (by simp; (first | lia | omega))
  rw [show C - 1 + 1 = C by (first | lia | omega)] at h5
  unfold gapOK at h5
  have h6 := List.all_eq_true.mp h5 i (List.mem_range.mpr (by (first | lia | omega)))
  exact row_of (by (first | lia | omega)) rfl h6
theorem steps_ne {ring step : Int} (r1 : 3 ≤ ring) (r2 : ring ≤ 16) (s1 : 1 ≤ step) (s2 : step < ring) {d : Nat} (hd : d ≠ 0) (hc : (d : Int) < ordF ring step) : ((d : Int) * step).fmod ring ≠ 0 := by
  obtain ⟨R, rfl⟩ := Int.eq_ofNat_of_zero_le (show 0 ≤ ring by (first | lia | omega))
  obtain ⟨S, rfl⟩ := Int.eq_ofNat_of_zero_le (show 0 ≤ step by (first | lia | omega))
  have h := inj_all ⟨R, by (first | lia | omega)⟩ (by dsimp only; (first | lia | omega))
  dsimp only at h
  unfold stepsOK at h
  have h2 := List.all_eq_true.mp h S (List.mem_range.mpr (by (first | lia | omega)))
  have h3 := (Bool.or_eq_true _ _ ▸ h2).resolve_left (by simp; (first | lia | omega))
  have h4 := List.all_eq_true.mp h3 d (List.mem_range.mpr (by (first | lia | omega)))
  have h5 := (Bool.or_eq_true _ _ ▸ h4).resolve_left (by simp; (first | lia | omega))
  exact of_decide_eq_true h5
theorem plF_ne {first size ring step rnd : Int} (r1 : 3 ≤ ring) (r2 : ring ≤ 16) (s1 : 1 ≤ step) (s2 : step < ring) (hsize : step + ring * rnd = size) {i k : Nat} (hik : i < k) (hk : (k : Int) < ordF ring step) : plF first size ring i ≠ plF first size ring k := by
  intro e
  have := plF_sub (first := first) r1 hsize i k
  rw [e, Int.sub_self, Int.zero_fmod, show (k : Int) - (i : Int) = ((k - i : Nat) : Int) by (first | lia | omega)] at this
  exact steps_ne r1 r2 s1 s2 (d := k - i) (by (first | lia | omega)) (by (first | lia | omega)) this.symm
theorem plF_inj {first size ring step rnd : Int} (r1 : 3 ≤ ring) (r2 : ring ≤ 16) (s1 : 1 ≤ step) (s2 : step < ring) (hsize : step + ring * rnd = size) {i k : Nat} (hi : (i : Int) < ordF ring step) (hk : (k : Int) < ordF ring step) (e : plF first size ring i = plF first size ring k) : i = k := by
  rcases Nat.lt_trichotomy i k with h | h | h
  · exact absurd e (plF_ne r1 r2 s1 s2 hsize h hk)
  · exact h
  · exact absurd e.symm (plF_ne r1 r2 s1 s2 hsize h hi)
end Mine
namespace Mine
theorem kz_lt : ∀ p q : Fin 16, p.val < q.val → kz ((p.val : Int).fdiv 4) < kz ((q.val : Int).fdiv 4) ∨ kz ((p.val : Int).fdiv 4) = kz ((q.val : Int).fdiv 4) ∧ kz ((p.val : Int).fmod 4) < kz ((q.val : Int).fmod 4) := by decide +kernel
theorem txt_lt {p q : Int} (p0 : 0 ≤ p) (hpq : p < q) (q1 : q < 16) (i j : Nat) : ltCps (txt p i).cps.toList (txt q j).cps.toList = true := by
  obtain ⟨P, rfl⟩ := Int.eq_ofNat_of_zero_le p0
  obtain ⟨Q, rfl⟩ := Int.eq_ofNat_of_zero_le (show 0 ≤ q by (first | lia | omega))
  have h := kz_lt ⟨P, by (first | lia | omega)⟩ ⟨Q, by (first | lia | omega)⟩ (by dsimp only; (first | lia | omega))
  dsimp only at h
  unfold txt
  show ltCps (kz _ :: kz _ :: List.replicate i 45) (kz _ :: kz _ :: List.replicate j 45) = true
  generalize kz ((P : Int).fdiv 4) = a at *
  generalize kz ((P : Int).fmod 4) = b at *
  generalize kz ((Q : Int).fdiv 4) = c at *
  generalize kz ((Q : Int).fmod 4) = d at *
  simp only [ltCps, Bool.or_eq_true, Bool.and_eq_true, decide_eq_true_eq, beq_iff_eq]
  rcases h with h | ⟨h1, h2⟩
  · exact .inl h
  · exact .inr ⟨h1, .inl h2⟩
theorem txt_len (p : Int) (j : Nat) : (txt p j).length = j + 2 := by
  show (txt p j).cps.size = _
  unfold txt; simp
/-- whose mark a text is -/
noncomputable def idx (x : Str) : Nat := x.length - 2
theorem idx_txt (p : Int) (j : Nat) : idx (txt p j) = j := by unfold idx; rw [txt_len]; rfl
theorem txsF_mem {first size ring : Int} {n : Nat} {x : Str} : x ∈ txsF first size ring n ↔ ∃ j < n, x = txt (plF first size ring j) j := by
  unfold txsF
  rw [List.mem_map]
  constructor
  · rintro ⟨j, hj, rfl⟩; exact ⟨j, List.mem_range.mp hj, rfl⟩
  · rintro ⟨j, hj, rfl⟩; exact ⟨j, List.mem_range.mpr hj, rfl⟩
theorem txsF_nodup {first size ring : Int} {n : Nat} : (txsF first size ring n).Nodup := by
  unfold txsF
  rw [List.nodup_iff_pairwise_ne, List.pairwise_map]
  refine List.Pairwise.imp ?_ (List.nodup_iff_pairwise_ne.mp List.nodup_range)
  intro a b hab e
  have := congrArg idx e
  rw [idx_txt, idx_txt] at this
  exact hab this
/-- before it on the ring -/
def Bef (first size ring : Int) (x y : Str) : Prop := plF first size ring (idx x) < plF first size ring (idx y)
section
variable {first size ring step rnd : Int} (r1 : 3 ≤ ring) (r2 : ring ≤ 16) (s1 : 1 ≤ step) (s2 : step < ring) (hsize : step + ring * rnd = size) {n : Nat} (hn : (n : Int) ≤ ordF ring step)
include r1 r2 s1 s2 hsize hn
theorem bef_of {x y : Str} (hx : x ∈ txsF first size ring n) (hy : y ∈ txsF first size ring n) (hne : x ≠ y) (h : ltCps y.cps.toList x.cps.toList = false) : Bef first size ring x y := by
  obtain ⟨i, hi, rfl⟩ := txsF_mem.mp hx
  obtain ⟨j, hj, rfl⟩ := txsF_mem.mp hy
  unfold Bef
  rw [idx_txt, idx_txt]
  have a := plF_rng (first := first) (size := size) r1 i
  have b := plF_rng (first := first) (size := size) r1 j
  rcases Int.lt_trichotomy (plF first size ring i) (plF first size ring j) with g | g | g
  · exact g
  · have := plF_inj r1 r2 s1 s2 hsize (by (first | lia | omega)) (by (first | lia | omega)) g
    subst this
    exact absurd rfl hne
  · rw [txt_lt b.1 g (by (first | lia | omega))] at h
    cases h
theorem lt_of_bef {x y : Str} (hx : x ∈ txsF first size ring n) (hy : y ∈ txsF first size ring n) (h : Bef first size ring x y) : ltCps x.cps.toList y.cps.toList = true := by
  obtain ⟨i, hi, rfl⟩ := txsF_mem.mp hx
  obtain ⟨j, hj, rfl⟩ := txsF_mem.mp hy
  unfold Bef at h
  rw [idx_txt, idx_txt] at h
  have a := plF_rng (first := first) (size := size) r1 i
  have b := plF_rng (first := first) (size := size) r1 j
  exact txt_lt a.1 h (by (first | lia | omega)) _ _
theorem rising_bef : ∀ (x : Str) (r : List Str), (∀ y ∈ x :: r, y ∈ txsF first size ring n) → (x :: r).Nodup → risingS x r = true → (x :: r).Pairwise (Bef first size ring)
  | x, [], _, _, _ => List.pairwise_singleton _ _
  | x, y :: r, hm, hd, h => by
    have h' : (!ltCps y.cps.toList x.cps.toList && risingS y r) = true := h
    rw [Bool.and_eq_true, Bool.not_eq_true'] at h'
    have hd' := List.nodup_cons.mp hd
    have ih := rising_bef y r (fun z hz => hm z (.tail _ hz)) hd'.2 h'.2
    have b := bef_of r1 r2 s1 s2 hsize hn (hm x (.head _)) (hm y (.tail _ (.head _))) (fun e => hd'.1 (e ▸ .head _)) h'.1
    refine List.pairwise_cons.mpr ⟨fun z hz => ?_, ih⟩
    rcases List.mem_cons.mp hz with rfl | hz
    · exact b
    · exact Int.lt_trans b (List.rel_of_pairwise_cons ih hz)
theorem bef_pw {l : List Str} (p : l.Perm (txsF first size ring n)) (h : sortedS l = true) : l.Pairwise (Bef first size ring) := by
  cases l with
  | nil => exact .nil
  | cons x r => exact rising_bef r1 r2 s1 s2 hsize hn x r (fun y hy => p.mem_iff.mp hy) (p.nodup_iff.mpr txsF_nodup) h
end
theorem sorted_uniq {first size ring step rnd count : Int} (r1 : 3 ≤ ring) (r2 : ring ≤ 16) (s1 : 1 ≤ step) (s2 : step < ring) (hsize : step + ring * rnd = size) (hc : count ≤ ordF ring step) {l1 l2 : List Str} (p1 : l1.Perm (txsF first size ring count.toNat)) (p2 : l2.Perm (txsF first size ring count.toNat)) (h1 : sortedS l1 = true) (h2 : sortedS l2 = true) : l1 = l2 := by
  by_cases c0 : 0 ≤ count
  · exact List.Perm.eq_of_pairwise (le := Bef first size ring) (fun a b _ _ x y => absurd x (Int.lt_asymm y)) (bef_pw r1 r2 s1 s2 hsize (by (first | lia | omega)) p1 h1) (bef_pw r1 r2 s1 s2 hsize (by (first | lia | omega)) p2 h2) (p1.trans p2.symm)
  · have e : txsF first size ring count.toNat = [] := by rw [show count.toNat = 0 by (first | lia | omega)]; rfl
    rw [e] at p1 p2
    rw [p1.eq_nil, p2.eq_nil]
theorem line_lt {first size ring step rnd count : Int} (r1 : 3 ≤ ring) (r2 : ring ≤ 16) (s1 : 1 ≤ step) (s2 : step < ring) (hsize : step + ring * rnd = size) (hc : count ≤ ordF ring step) {l1 : List Str} (p1 : l1.Perm (txsF first size ring count.toNat)) (h1 : sortedS l1 = true)
   {k : Nat} {x y : Str} (hx : l1[k]? = some x) (hy : l1[k + 1]? = some y) : x.cps.toList < y.cps.toList := by
  obtain ⟨kx, hx'⟩ := List.getElem?_eq_some_iff.mp hx
  obtain ⟨ky, hy'⟩ := List.getElem?_eq_some_iff.mp hy
  by_cases c0 : 0 ≤ count
  · have b := List.pairwise_iff_getElem.mp (bef_pw r1 r2 s1 s2 hsize (by (first | lia | omega)) p1 h1) k (k + 1) kx ky (by (first | lia | omega))
    rw [hx', hy'] at b
    have := lt_of_bef r1 r2 s1 s2 hsize (n := count.toNat) (by (first | lia | omega)) (p1.mem_iff.mp (List.mem_of_getElem? hx)) (p1.mem_iff.mp (List.mem_of_getElem? hy)) b
    rw [ltCps_eq] at this
    exact of_decide_eq_true this
  · have e : txsF first size ring count.toNat = [] := by rw [show count.toNat = 0 by (first | lia | omega)]; rfl
    rw [e] at p1
    rw [p1.eq_nil] at hx
    cases hx
/-- the marks in the line's order -/
noncomputable def mkL (l : List Str) : List Int := l.map fun x => (x.length : Int) - 2
theorem mkL_len (l : List Str) : (mkL l).length = l.length := by unfold mkL; simp
structure Gap (ring count : Int) (pl : List Int) (R : S4) (h t : Int) : Prop where
  h0 : 0 ≤ h
  h1 : h < count
  t0 : 0 ≤ t
  t1 : t < count
  a : h + R.b < count → t = h + R.b ∧ (pl.getD t.toNat 0 - pl.getD h.toNat 0).fmod ring = R.r
  b : ¬ h + R.b < count → R.a ≤ h → t = h - R.a ∧ (pl.getD t.toNat 0 - pl.getD h.toNat 0).fmod ring = R.l
  c : ¬ h + R.b < count → ¬ R.a ≤ h → t = h + R.b - R.a ∧ (pl.getD t.toNat 0 - pl.getD h.toNat 0).fmod ring = R.r + R.l
theorem round_of {ring x y : Int} (hx : 0 ≤ x) (hx1 : x < ring) (hy : 0 ≤ y) (hy1 : y < ring) : (x - y).fmod ring = if y ≤ x then x - y else x - y + ring := by
  rw [Int.fmod_eq_emod_of_nonneg _ (by (first | lia | omega))]
  split
  · exact Int.emod_eq_of_lt (by (first | lia | omega)) (by (first | lia | omega))
  · rw [← Int.add_emod_right]; exact Int.emod_eq_of_lt (by (first | lia | omega)) (by (first | lia | omega))
theorem mkL_get {first size ring : Int} {n : Nat} {l : List Str} (p : l.Perm (txsF first size ring n)) {k : Nat} (hk : k < l.length) : (mkL l).getD k 0 = (idx l[k] : Nat) ∧ idx l[k] < n := by
  obtain ⟨j, hj, e⟩ := txsF_mem.mp (p.mem_iff.mp (List.getElem_mem hk))
  rw [e, idx_txt]
  refine ⟨?_, hj⟩
  unfold mkL
  rw [List.getD_eq_getElem?_getD, List.getElem?_map, List.getElem?_eq_getElem hk, e]
  show ((txt _ j).length : Int) - 2 = j
  rw [txt_len]; (first | lia | omega)
theorem plsF_get {first size ring : Int} {n j : Nat} (h : j < n) : (plsF first size ring n).getD j 0 = plF first size ring j := by
  unfold plsF
  rw [List.getD_eq_getElem?_getD, List.getElem?_map, List.getElem?_range h]; rfl
theorem rnd_a {K M Z R : Int} (h : K < M) (hM : M < R) (hz : 0 ≤ Z) (hh : Z < K ∨ M ≤ Z) : (if K ≤ M then M - K else M - K + R) ≤ (if K ≤ Z then Z - K else Z - K + R) := by
  rw [if_pos (Int.le_of_lt h)]
  split <;> (first | lia | omega)
theorem rnd_b {K M Z R : Int} (h : M < K) (hz : Z < K) (hh : M ≤ Z) : (if K ≤ M then M - K else M - K + R) ≤ (if K ≤ Z then Z - K else Z - K + R) := by
  rw [if_neg (Int.not_le.mpr h), if_neg (Int.not_le.mpr hz)]
  exact Int.add_le_add_right (Int.sub_le_sub_right hh _) _
theorem rnd_inj {K X Y R : Int} (hx : 0 ≤ X) (hx1 : X < R) (hy : 0 ≤ Y) (hy1 : Y < R) (e : (if K ≤ X then X - K else X - K + R) = (if K ≤ Y then Y - K else Y - K + R)) : X = Y := by
  split at e <;> split at e <;> (first | lia | omega)
theorem next_at {count : Int} {k : Nat} (hc1 : 2 ≤ count) (hk : (k : Int) < count) : ∃ m : Nat, (((k : Int) + 1).fmod count).toNat = m ∧ m < count.toNat ∧ k ≠ m ∧ (m = k + 1 ∨ k + 1 = count.toNat ∧ m = 0) := by
  rw [Int.fmod_eq_emod_of_nonneg _ (by (first | lia | omega))]
  by_cases h : k + 1 < count.toNat
  · exact ⟨k + 1, by rw [Int.emod_eq_of_lt (by (first | lia | omega)) (by (first | lia | omega))]; (first | lia | omega), h, Nat.ne_of_lt (Nat.lt_succ_self k), .inl rfl⟩
  · refine ⟨0, ?_, by (first | lia | omega), by (first | lia | omega), .inr ⟨by (first | lia | omega), rfl⟩⟩
    rw [show (k : Int) + 1 = count by (first | lia | omega), Int.emod_self]; rfl
theorem after {k q m : Nat} (h : ¬ q < k) (hk : q ≠ k) (e : m = k + 1) (hm : q ≠ m) : m < q := by (first | lia | omega)
theorem ahead {k q n : Nat} (hq : q < n) (hk : q ≠ k) (e : k + 1 = n) : q < k := by (first | lia | omega)
theorem first_lt {m q : Nat} (h : m = 0) (hq : ¬ q = m) : m < q := by (first | lia | omega)
theorem nat_int {z : Nat} {c : Int} (h : z < c.toNat) : (z : Int) < c := by (first | lia | omega)
theorem int_nat {z : Nat} {c : Int} (h : (z : Int) < c) : z < c.toNat := by (first | lia | omega)
theorem gap {first size ring step rnd count : Int} (r1 : 3 ≤ ring) (r2 : ring ≤ 16) (s1 : 1 ≤ step) (s2 : step < ring) (hsize : step + ring * rnd = size) (hc1 : 2 ≤ count) (hc : count ≤ ordF ring step) {l1 : List Str} (p1 : l1.Perm (txsF first size ring count.toNat)) (h1 : sortedS l1 = true)
   {k : Nat} (hk : (k : Int) < count) : Gap ring count (plsF first size ring count.toNat) (near count count.toNat ⟨1, 1, step, ring - step⟩) ((mkL l1).getD k 0) ((mkL l1).getD (((k : Int) + 1).fmod count).toNat 0) := by
  have hl : l1.length = count.toNat := by rw [p1.length_eq]; unfold txsF; simp
  have hcc : ((count.toNat : Nat) : Int) ≤ ordF ring step := by rw [Int.toNat_of_nonneg (Int.le_trans (by decide) hc1)]; exact hc
  have pw := List.pairwise_iff_getElem.mp (bef_pw r1 r2 s1 s2 hsize (n := count.toNat) hcc p1 h1)
  -- the next place in the line
  obtain ⟨m, hm, hmk, hkm, hmm⟩ := next_at hc1 hk
  rw [hm]
  have hk' : k < l1.length := hl ▸ int_nat hk
  have hm' : m < l1.length := hl ▸ hmk
  obtain ⟨ek, ik⟩ := mkL_get p1 hk'
  obtain ⟨em, im⟩ := mkL_get p1 hm'
  rw [ek, em]
  have ro := rows r1 r2 s1 s2 hc1 hc (i := idx l1[k]) (nat_int ik)
  generalize hR : near count count.toNat ⟨1, 1, step, ring - step⟩ = R at *
  obtain ⟨j0, j1, jne, je, jall⟩ := ro
  obtain ⟨j, hj⟩ := Int.eq_ofNat_of_zero_le j0
  rw [hj] at j1 jne je
  -- every mark stands somewhere in the line
  have find : ∀ z : Nat, z < count.toNat → ∃ q, ∃ hq : q < l1.length, idx l1[q] = z := by
    intro z hz
    obtain ⟨q, hq, e⟩ := List.getElem_of_mem (p1.mem_iff.mpr (txsF_mem.mpr ⟨z, hz, rfl⟩))
    exact ⟨q, hq, by rw [e, idx_txt]⟩
  have rng := fun q => plF_rng (first := first) (size := size) r1 q
  -- the next one in the line is the nearest round the ring
  have least : ∀ z : Nat, z < count.toNat → z ≠ idx l1[k] → (plF first size ring (idx l1[m]) - plF first size ring (idx l1[k])).fmod ring ≤ (plF first size ring z - plF first size ring (idx l1[k])).fmod ring := by
    intro z hz hzk
    obtain ⟨q, hq, rfl⟩ := find z hz
    have hqk : q ≠ k := fun e => hzk (by subst e; rfl)
    rw [round_of (rng _).1 (rng _).2 (rng _).1 (rng _).2, round_of (rng _).1 (rng _).2 (rng _).1 (rng _).2]
    have mono : ∀ u v : Nat, ∀ hu : u < l1.length, ∀ hv : v < l1.length, u < v → plF first size ring (idx l1[u]) < plF first size ring (idx l1[v]) := fun u v hu hv h => pw u v hu hv h
    rcases hmm with hm2 | ⟨hs, hm2⟩
    · refine rnd_a (mono k m hk' hm' (Nat.lt_of_lt_of_eq (Nat.lt_succ_self k) hm2.symm)) (rng _).2 (rng _).1 ?_
      by_cases hqq : q < k
      · exact .inl (mono q k hq hk' hqq)
      · by_cases hqm : q = m
        · subst hqm; exact .inr (Int.le_refl _)
        · exact .inr (Int.le_of_lt (mono m q hm' hq (after hqq hqk hm2 hqm)))
    · have hqq : q < k := ahead (Nat.lt_of_lt_of_eq hq hl) hqk hs
      refine rnd_b (mono m k hm' hk' (ahead hmk hkm.symm hs)) (mono q k hq hk' hqq) ?_
      by_cases hqm : q = m
      · subst hqm; exact Int.le_refl _
      · exact Int.le_of_lt (mono m q hm' hq (first_lt hm2 hqm))
  have mne : idx l1[m] ≠ idx l1[k] := by
    intro e
    rcases Nat.lt_or_gt_of_ne hkm with h | h
    · have := pw k m hk' hm' h
      unfold Bef at this; rw [e] at this; exact Int.lt_irrefl _ this
    · have := pw m k hm' hk' h
      unfold Bef at this; rw [e] at this; exact Int.lt_irrefl _ this
  have g1 := jall (idx l1[m]) (nat_int im) (fun e => mne (Int.ofNat.inj e))
  have g2 := least j (int_nat j1) (fun e => jne (congrArg _ e))
  rw [plF_sub r1 hsize, plF_sub r1 hsize, je] at g2
  have ge : ((((idx l1[m] : Nat) : Int) - ((idx l1[k] : Nat) : Int)) * step).fmod ring = gpF R count (idx l1[k]) := Int.le_antisymm g2 g1
  have mj : idx l1[m] = j := by
    refine plF_inj (first := first) r1 r2 s1 s2 hsize (Int.lt_of_lt_of_le (nat_int im) hc) (Int.lt_of_lt_of_le j1 hc) ?_
    have e1 := plF_sub (first := first) r1 hsize (idx l1[k]) (idx l1[m])
    have e2 := plF_sub (first := first) r1 hsize (idx l1[k]) j
    rw [ge, ← je, ← e2, round_of (rng _).1 (rng _).2 (rng _).1 (rng _).2, round_of (rng _).1 (rng _).2 (rng _).1 (rng _).2] at e1
    exact rnd_inj (rng _).1 (rng _).2 (rng _).1 (rng _).2 e1
  have fin : ((plsF first size ring count.toNat).getD (((idx l1[m] : Nat) : Int)).toNat 0 - (plsF first size ring count.toNat).getD (((idx l1[k] : Nat) : Int)).toNat 0).fmod ring = gpF R count (idx l1[k]) := by
    rw [Int.toNat_natCast, Int.toNat_natCast, plsF_get im, plsF_get ik, plF_sub r1 hsize, ge]
  have mj' : ((idx l1[m] : Nat) : Int) = nxF R count (idx l1[k]) := by rw [mj, hj]
  refine ⟨Int.natCast_nonneg _, nat_int ik, Int.natCast_nonneg _, nat_int im, fun c1 => ?_, fun c1 c2 => ?_, fun c1 c2 => ?_⟩
  · refine ⟨?_, fin.trans ?_⟩
    · rw [mj', nxF, if_pos c1]
    · rw [gpF, if_pos c1]
  · refine ⟨?_, fin.trans ?_⟩
    · rw [mj', nxF, if_neg c1, if_pos c2]
    · rw [gpF, if_neg c1, if_pos c2]
  · refine ⟨?_, fin.trans ?_⟩
    · rw [mj', nxF, if_neg c1, if_neg c2]
    · rw [gpF, if_neg c1, if_neg c2]
end Mine
end
section
open PySem PySem.W PyProof.Rows
namespace Mine
theorem reg63 : PySem.Challenge.rw_ph0105_01.prog = PySem.Challenge.rw_ph0105_01.prog ∧ Mine.hd.heap_1 = Mine.hd.heap_1 := by
  k_fill
  exact ⟨rfl, rfl⟩
/-- what _strcoll tells -/
noncomputable def collF (a b : Str) : Int := b2i (decide (b.cps.toList < a.cps.toList)) - b2i (decide (a.cps.toList < b.cps.toList))
set_option maxRecDepth 100000 in
set_option maxHeartbeats 8000000 in
theorem d63 {w : World} {a b : Str} {ta tb : Tok} {news : Led} {c : Int} (hc : collF a b = c) :
   Ct w 63 [.str a ta, .str b tb] news 2 (fun v news' => (∃ t, v = .int c t) ∧ news' = news) := by
  intro p loose mean mg mb dp un gd cn cs a ccd cl outer A₀ base h₀ L m s Q E B F X N T hk hd hu ret
  refine wpAny_call ?_
  k_dflt cell_enter
  k_steps
  exact ret _ _ _ _ ⟨⟨_, congrArg (fun z => Value.int z _) hc⟩, rfl⟩ (by k_asm) (by k_asm)
end Mine
end
theorem Mine.offC63 : True := by
  w_top off
  trivial
section
open PySem PySem.W PyProof.Rows
namespace Mine
theorem lt_irr (l : List Nat) : decide (l < l) = false := by
  induction l with
  | nil => exact StrLaws.lt_nil_nil
  | cons a r ih => rw [StrLaws.lt_cons_cons, ih]; simp
theorem lt_asy : ∀ {a b : List Nat}, decide (a < b) = true → decide (b < a) = false
  | [], [], h => by rw [StrLaws.lt_nil_nil] at h; cases h
  | [], b :: t, _ => StrLaws.lt_cons_nil b t
  | a :: r, [], h => by rw [StrLaws.lt_cons_nil] at h; cases h
  | a :: r, b :: t, h => by
    rw [StrLaws.lt_cons_cons] at h ⊢
    simp only [Bool.or_eq_true, decide_eq_true_eq, Bool.and_eq_true, beq_iff_eq] at h
    rcases h with h | ⟨h1, h2⟩
    · simp; exact ⟨by (first | lia | omega), by (first | lia | omega)⟩
    · subst h1
      rw [lt_asy (decide_eq_true h2)]
      simp
theorem lt_app (l : List Nat) (c : Nat) (r : List Nat) : decide (l < l ++ c :: r) = true := by
  induction l with
  | nil => exact StrLaws.lt_nil_cons c r
  | cons a t ih => rw [List.cons_append, StrLaws.lt_cons_cons, ih]; simp
theorem str_app (x : Str) : (x ++ Str.ofString "-").cps.toList = x.cps.toList ++ [45] := by
  have e : Str.ofString "-" = ⟨#[45]⟩ := by decide
  rw [e]
  show (x.cps ++ #[45]).toList = _
  simp
theorem coll_lt {x y : Str} (h : x.cps.toList < y.cps.toList) : collF x y = -1 := by
  unfold collF; rw [decide_eq_true h, lt_asy (decide_eq_true h)]; rfl
theorem coll_gt {x y : Str} (h : x.cps.toList < y.cps.toList) : collF y x = 1 := by
  unfold collF; rw [decide_eq_true h, lt_asy (decide_eq_true h)]; rfl
theorem coll_eq (x : Str) : collF x x = 0 := by
  unfold collF; rw [lt_irr]; rfl
theorem coll_app (x : Str) : collF (x ++ Str.ofString "-") x = 1 ∧ collF x (x ++ Str.ofString "-") = -1 := by
  have h : x.cps.toList < (x ++ Str.ofString "-").cps.toList := by rw [str_app]; exact of_decide_eq_true (lt_app _ _ _)
  exact ⟨coll_gt h, coll_lt h⟩
end Mine
namespace Mine
theorem txt_size (p : Int) (j : Nat) : (txt p j).length = j + 2 := by
  show (txt p j).cps.size = _
  unfold txt; simp
theorem ss_size {first size ring : Int} {n : Nat} {l : List Str} (p : l.Perm (txsF first size ring n)) (hn : n ≤ 50) : ∀ x ∈ l, x.length ≤ 60 := by
  intro x hx
  have := p.mem_iff.mp hx
  unfold txsF at this
  obtain ⟨j, hj, rfl⟩ := List.mem_map.mp this
  have := List.mem_range.mp hj
  rw [txt_size]; (first | lia | omega)
theorem dash_size : (Str.ofString "-").length = 1 := by decide
theorem getD_mem' {l : List Str} {i : Nat} (h : i < l.length) : l.getD i Str.empty ∈ l := by
  rw [List.getD_eq_getElem?_getD, List.getElem?_eq_getElem h]; simp
end Mine
end
theorem Mine.offColl : True := by
  w_top off
  trivial
section
open PySem PySem.W PyProof.Rows
namespace Mine
open PySem.Builtin.Int (intBits)
theorem ten40 : (10 : Int) ^ (Int.toNat 40) ≠ 0 := by decide
theorem ten6 : (10 : Int) ^ (Int.toNat 6) ≠ 0 := by decide
theorem unit_facts (x : Int) : 1 ≤ (3 : Int) ^ (Int.toNat 2700) + x.fmod (10 ^ (Int.toNat 40)) ∧ intBits ((3 : Int) ^ (Int.toNat 2700) + x.fmod (10 ^ (Int.toNat 40))) ≤ 4281 := by
  obtain ⟨a, b⟩ := fmod_pos (x := x) (b := 10 ^ (Int.toNat 40)) (by decide)
  have h1 : (1 : Int) ≤ 3 ^ (Int.toNat 2700) := by decide +kernel
  have h2 : (3 : Int) ^ (Int.toNat 2700) + 10 ^ (Int.toNat 40) ≤ 2 ^ 4281 := by decide +kernel
  exact ⟨by (first | lia | omega), bits_lt (by (first | lia | omega)) (by (first | lia | omega))⟩
theorem small_bits {x : Int} (h0 : -31 ≤ x) (h : x ≤ 31) : intBits x ≤ 5 := by
  rw [intBits_le_iff]; (first | lia | omega)
theorem small_mul {x y : Int} (h0 : -31 ≤ x) (h : x ≤ 31) (hy : intBits y ≤ 8000) : IntMulOk x y := IntMulOk.of_le (small_bits h0 h) hy (by decide)
end Mine
namespace Mine
open PySem PySem.W PyProof.Rows
open PySem.Builtin.Int (intBits)
theorem pow_b {n : Nat} (h : n ≤ 4286) : intBits ((2 : Int) ^ ((n : Nat) : Int).toNat) ≤ 4287 := by
  rw [Int.toNat_natCast]
  exact Nat.le_trans (bits_two_pow n) (by (first | lia | omega))
theorem bits_m {x : Int} (h0 : -2000000 ≤ x) (h : x ≤ 2000000) : intBits x ≤ 21 := by
  rw [intBits_le_iff]; (first | lia | omega)
theorem later1 {b c : Int} (hb : intBits b ≤ 4287) (h0 : 0 ≤ c) (h1 : c ≤ 1000000) : intBits (b - 1000 - c) ≤ 4300 := by
  have e1 := intBits_sub_le hb (bits_m (x := 1000) (by decide) (by decide))
  have e2 := intBits_sub_le e1 (bits_m (x := c) (by (first | lia | omega)) (by (first | lia | omega)))
  (first | lia | omega)
theorem later2 {u m : Int} (hu : intBits u ≤ 4281) (h0 : 0 ≤ m) (h1 : m ≤ 2000) : intBits (u - m) ≤ 4300 := by
  have e1 := intBits_sub_le hu (bits_m (x := m) (by (first | lia | omega)) (by (first | lia | omega)))
  (first | lia | omega)
end Mine
namespace Mine
open PySem PySem.W PyProof.Rows
open PySem.Builtin.Int (intBits)
structure JF (lat rd whole rest : Int) : Prop where
  m : IntMulOk (lat + rd) whole
  a1 : intBits ((lat + rd) * whole + rest) ≤ 19999
  a2 : intBits (-((lat + rd) * whole + rest)) ≤ 19999
  b1 : intBits whole ≤ 7999
  b2 : intBits (-whole) ≤ 7999
  e1 : [((lat + rd) * whole + rest).fdiv whole, ((lat + rd) * whole + rest).fmod whole] = [lat + rd, rest]
  e2 : rest = 0 → [(-((lat + rd) * whole + rest)).fdiv whole, (-((lat + rd) * whole + rest)).fmod whole] = [-(lat + rd), 0]
  e3 : rest ≠ 0 → [(-((lat + rd) * whole + rest)).fdiv whole, (-((lat + rd) * whole + rest)).fmod whole] = [-(lat + rd) - 1, whole - rest]
  e4 : [(-((lat + rd) * whole + rest)).fdiv (-whole), (-((lat + rd) * whole + rest)).fmod (-whole)] = [lat + rd, -rest]
  e5 : rest = 0 → [((lat + rd) * whole + rest).fdiv (-whole), ((lat + rd) * whole + rest).fmod (-whole)] = [-(lat + rd), -0]
  e6 : rest ≠ 0 → [((lat + rd) * whole + rest).fdiv (-whole), ((lat + rd) * whole + rest).fmod (-whole)] = [-(lat + rd) - 1, -(whole - rest)]
theorem neg_dm {L whole rest : Int} (hr0 : 0 ≤ rest) (hr1 : rest < whole) : (rest = 0 → (-(L * whole + rest)).fdiv whole = -L ∧ (-(L * whole + rest)).fmod whole = 0) ∧ (rest ≠ 0 → (-(L * whole + rest)).fdiv whole = -L - 1 ∧ (-(L * whole + rest)).fmod whole = whole - rest) := by
  refine ⟨fun e => fdivmod_of (Int.le_refl _) (Int.lt_of_le_of_lt hr0 hr1) ?_, fun e => fdivmod_of (Int.sub_nonneg_of_le (Int.le_of_lt hr1)) (Int.sub_lt_self _ (Int.lt_iff_le_and_ne.mpr ⟨hr0, e.symm⟩)) ?_⟩
  · rw [Int.neg_mul]; clear hr0 hr1; (first | lia | omega)
  · rw [Int.sub_mul, Int.neg_mul, Int.one_mul]; clear hr0 hr1 e; (first | lia | omega)
theorem jf_core {L whole rest X : Int} (eX : X = L * whole + rest) (hw0 : whole ≠ 0) (hr0 : 0 ≤ rest) (hr1 : rest < whole) :
    [X.fdiv whole, X.fmod whole] = [L, rest] ∧ (rest = 0 → [(-X).fdiv whole, (-X).fmod whole] = [-L, 0]) ∧ (rest ≠ 0 → [(-X).fdiv whole, (-X).fmod whole] = [-L - 1, whole - rest]) ∧
      [(-X).fdiv (-whole), (-X).fmod (-whole)] = [L, -rest] ∧ (rest = 0 → [X.fdiv (-whole), X.fmod (-whole)] = [-L, -0]) ∧ (rest ≠ 0 → [X.fdiv (-whole), X.fmod (-whole)] = [-L - 1, -(whole - rest)]) := by
  have p1 := fdivmod_of (a := X) hr0 hr1 eX.symm
  obtain ⟨n2, n3⟩ := neg_dm (L := L) hr0 hr1
  rw [← eX] at n2 n3
  clear hr0 hr1 eX
  have q := neg_fdiv (a := X) hw0
  have q2 := neg_fdiv (a := -X) hw0
  rw [Int.neg_neg] at q2
  have m : ∀ {y z : Int}, -y = z → y = -z := fun e => e ▸ (Int.neg_neg _).symm
  refine ⟨by rw [p1.1, p1.2], fun e => by rw [(n2 e).1, (n2 e).2], fun e => by rw [(n3 e).1, (n3 e).2], ?_, fun e => ?_, fun e => ?_⟩
  · rw [q.1, p1.1, m (q.2.trans p1.2)]
  · rw [q2.1, (n2 e).1, m (q2.2.trans (n2 e).2)]
  · rw [q2.1, (n3 e).1, m (q2.2.trans (n3 e).2)]
theorem jf_of {lat rd whole rest : Int} (hl : intBits lat ≤ 4300) (h0 : 0 ≤ rd) (h1 : rd ≤ 2000) (hw : intBits whole ≤ 4286) (hr0 : 0 ≤ rest) (hr1 : rest < whole) : JF lat rd whole rest := by
  have hh : intBits (lat + rd) ≤ 4310 := Nat.le_trans (intBits_add_le hl (bits_m (x := rd) (Int.le_trans (by decide) h0) (Int.le_trans h1 (by decide)))) (by decide)
  have hf := intBits_add_le (intBits_mul_le hh hw) (bits_lt hr0 (Int.lt_of_lt_of_le hr1 (Int.le_of_lt (lt_bits hw))))
  obtain ⟨e1, e2, e3, e4, e5, e6⟩ := jf_core (L := lat + rd) rfl (Int.ne_of_gt (Int.lt_of_le_of_lt hr0 hr1)) hr0 hr1
  exact ⟨IntMulOk.of_le hh hw (by decide), Nat.le_trans hf (by decide), Nat.le_trans (intBits_neg_le hf) (by decide), Nat.le_trans hw (by decide), Nat.le_trans (intBits_neg_le hw) (by decide), e1, e2, e3, e4, e5, e6⟩
end Mine
namespace Mine
open PySem PySem.W PyProof.Rows
open PySem.Builtin.Int (intBits)
theorem p4199 : intBits ((2 : Int) ^ Int.toNat 4199) ≤ 8000 := Nat.le_trans (bits_two_pow 4199) (by decide)
theorem wide_bits : intBits ((2 : Int) ^ Int.toNat 4203 + 2 ^ Int.toNat 2102 - 1) ≤ 4206 :=
  Nat.le_trans (intBits_sub_le (intBits_add_le (bits_two_pow 4203) (bits_two_pow 2102)) (Nat.le_of_eq bits_one)) (by decide)
theorem high_bits {rd : Int} (h0 : 0 ≤ rd) (h1 : rd ≤ 2000) : intBits ((2 : Int) ^ Int.toNat 4204 - 1000 - rd) ≤ 4208 :=
  Nat.le_trans (intBits_sub_le (intBits_sub_le (bits_two_pow 4204) (bits_m (x := 1000) (by decide) (by decide))) (bits_m (x := rd) (by (first | lia | omega)) (by (first | lia | omega)))) (by decide)
theorem wide_mul {rd : Int} (h0 : 0 ≤ rd) (h1 : rd ≤ 2000) : IntMulOk ((2 : Int) ^ Int.toNat 4204 - 1000 - rd) (2 ^ Int.toNat 4203 + 2 ^ Int.toNat 2102 - 1) := IntMulOk.of_le (high_bits h0 h1) wide_bits (by decide)
structure KF (high wide rest : Int) : Prop where
  a : intBits (high * wide + rest) ≤ 19999
  b : intBits wide ≤ 7999
  e : [(high * wide + rest).fdiv wide, (high * wide + rest).fmod wide] = [high, rest]
  w : wide ≠ 0
theorem wide_lt {p : Int} (h0 : 0 ≤ p) (h1 : p ≤ 15) : 0 ≤ p * 2 ^ Int.toNat 4199 ∧ p * 2 ^ Int.toNat 4199 < (2 : Int) ^ Int.toNat 4203 + 2 ^ Int.toNat 2102 - 1 := by
  have e1 : (2 : Int) ^ Int.toNat 4203 = 16 * 2 ^ Int.toNat 4199 := by
    rw [show Int.toNat 4203 = Int.toNat 4199 + 4 from rfl, Int.pow_add, Int.mul_comm]; rfl
  have e2 : (1 : Int) ≤ 2 ^ Int.toNat 2102 := kbt_pos _
  have e3 : (1 : Int) ≤ 2 ^ Int.toNat 4199 := kbt_pos _
  rw [e1]
  generalize (2 : Int) ^ Int.toNat 4199 = X at *
  generalize (2 : Int) ^ Int.toNat 2102 = Y at *
  have := Int.mul_le_mul_of_nonneg_right h1 (show 0 ≤ X by (first | lia | omega))
  exact ⟨Int.mul_nonneg h0 (by (first | lia | omega)), by (first | lia | omega)⟩
theorem kf_of {rd p : Int} (h0 : 0 ≤ rd) (h1 : rd ≤ 2000) (hp0 : 0 ≤ p) (hp1 : p ≤ 15) : KF ((2 : Int) ^ Int.toNat 4204 - 1000 - rd) (2 ^ Int.toNat 4203 + 2 ^ Int.toNat 2102 - 1) (p * 2 ^ Int.toNat 4199) := by
  obtain ⟨a, b⟩ := wide_lt hp0 hp1
  have c := wide_bits
  have d := high_bits h0 h1
  generalize (2 : Int) ^ Int.toNat 4203 + 2 ^ Int.toNat 2102 - 1 = wide at *
  generalize (2 : Int) ^ Int.toNat 4204 - 1000 - rd = high at *
  generalize p * 2 ^ Int.toNat 4199 = rest at *
  have hrb : intBits rest ≤ 4206 := bits_lt a (Int.lt_of_lt_of_le b (Int.le_of_lt (lt_bits c)))
  have f := intBits_add_le (intBits_mul_le d c) hrb
  have p1 := fdivmod_of (a := high * wide + rest) a b rfl
  exact ⟨by (first | lia | omega), by (first | lia | omega), by rw [p1.1, p1.2], by (first | lia | omega)⟩
end Mine
end
theorem Mine.offBigs : True := by
  w_top off
  trivial
section
open PySem PySem.W PyProof.Rows PySem.Calls
namespace Mine
section
variable {w : World} {A₀ : Around} {E : Value → Shared → Prop} {s' : Shared} {h₀ h : Heap} {outer : List Env} {L a e t : Addr} {m : Str → Option Value} {cn : Str} {cs : Scope} {ccd : Value} {cl : List (Str × Addr)}
  {vs : List Value} {n : Str} {b₀ : Stmt} {suite : List Stmt} {pos np : Pos} {rest : List ExceptHandler} {Q : Flow → Shared → Prop} {news : Led}
  {p : Program} {loose : List Str} {mg mb : Str → Option Value} {x : Str} {X T' : String}
theorem stX {M : Model} {A : Around} {E : Value → Shared → Prop} {s : Shared} {y : Str} {v : Value} {Q : Unit → Shared → Prop} (F : Fr h₀ L s.heap m) (N : News h₀ L s.heap news)
    (h : ∀ h', Fr h₀ L h' (fun z => if z = y then some v else m z) → News h₀ L h' news → Q () { s with heap := h', toks := s.toks + 1 })
    (hk : cs.kind = .function) (hl : (envX cn cs L a ccd cl).kindOf y = some .local) : wpAny M A (storeName (envX cn cs L a ccd cl) y v) Q E s :=
  wpAny_storeName_local hl F.ns (fun h' hn hs => h h' (F.set hn hs) (N.set hs)) (by show (cs.kind == .class || (cs.kind == .module && L != mainGlobals)) = false; rw [hk]; rfl)
/-- an exception in flight, caught by its built-in class with a name, in a frame with cells -/
theorem caught_X (K : Below A₀ h₀ outer h₀) (F : Fr h₀ L h m) (hsm : h.UpToSlots s'.heap) (R : RaisedK h₀ (envX cn cs L a ccd cl :: outer) e (.type X) t vs news s'.heap)
    (T : TopRead p loose mg mb h₀) (hv : bootBuiltins x = some (.type T'))
    (hexc : isSubtype (.type T') (.type "BaseException") = pure true) (hnt : isSubtype (.type ((Manifest.find? T').elim "type" fun y => y.metatype)) (.type "tuple") = pure false) (hsub : isSubtype (.type X) (.type T') = pure true)
    (k : ∀ h' news₂ tk, Fr h₀ L h' (fun y => if y = n then some (.ref e) else m y) → News h₀ L h' news₂ → Got news₂ e t (.type X) vs → News h₀ L h' news →
      wpAny (model prg w) ((A₀.deeper (envX cn cs L a ccd cl)).mark (some (.ref e))) (execs (b₀ :: suite) (envX cn cs L a ccd cl))
        (fun f s₄ => wpAny (model prg w) (A₀.deeper (envX cn cs L a ccd cl)) (do bindName (envX cn cs L a ccd cl) n .none; unbindBehindTheSuite (envX cn cs L a ccd cl) n pos) (fun _ s₅ => Q f s₅) E s₄)
        (AsSuiteRaised (model prg w) ((A₀.deeper (envX cn cs L a ccd cl)).mark (some (.ref e))) (envX cn cs L a ccd cl) n pos (notedBy (model prg w) ((A₀.deeper (envX cn cs L a ccd cl)).mark (some (.ref e))) (envX cn cs L a ccd cl) (cameBackBy (model prg w) (A₀.deeper (envX cn cs L a ccd cl)) (envX cn cs L a ccd cl) E)))
        { s' with heap := h', toks := tk })
    (h1 : x ∉ startupNames) (h2 : x ∉ loose) (h3 : x ∉ (recsOf p).map (·.name)) (h4 : x ∉ (litsOf p).map (·.1)) (h4c : x ∉ (clssOf p loose).map (·.name)) (hn : x ≠ "__name__")
    (hk : cs.kind = .function) (hlo : (envX cn cs L a ccd cl).kindOf n = some .local) (hx : (envX cn cs L a ccd cl).kindOf x = some .globalImplicit) (hd : (x == ("__debug__" : Str)) = false) :
    wpAny (model prg w) (A₀.deeper (envX cn cs L a ccd cl)) (noteFrame (.ref e) (envX cn cs L a ccd cl))
      (fun _ s₂ => wpAny (model prg w) (A₀.deeper (envX cn cs L a ccd cl)) (setFlight (.ref e) none) (fun _ s₃ =>
        wpAny (model prg w) (A₀.deeper (envX cn cs L a ccd cl)) (handleBy (.ref e) (envX cn cs L a ccd cl) (.ExceptHandler (some (.Name x np)) (some n) (b₀ :: suite) pos :: rest)) Q E s₃) E s₂) E s' := by
  obtain ⟨⟨B, hB, hl, hfl, hnew⟩, htup⟩ := R
  have hL : B.get? L = none := by
    obtain ⟨_, ⟨L', _, hf, hn', _⟩, _⟩ := hfl.2.2.1
    obtain rfl : L = L' := Option.some.inj hf
    exact hn'
  refine wpAny_looks_onW (Around.frames_deeper K.stack) rfl hfl fun h₄ hheld₄ hsm₄ => ?_
  refine wpAny_landsW hheld₄ fun h₅ hheld hsm₅' => ?_
  have hsm₅ := hsm₄.trans hsm₅'
  have hheld' := flyingW_base hB hheld
  have F₅ := F.of_stays hheld'.1 (hsm.trans hsm₅)
  obtain ⟨ob, hob, hobc⟩ := hheld'.there
  refine wpAny_handleBy_builtin_as (X := X) (T := T') (b := true) hexc hnt hsub (Name_function_global hk hx (loadGlobal_builtin (env := envX cn cs L a ccd cl) (T.g.keeps F₅.keep) (T.free x h1 h2 h3 h4 h4c) (T.b.keeps F₅.keep) ((T.builtins x hn).trans hv) ⟨rfl, ⟨ob, hob, hobc⟩, ?_⟩) hd)
  refine lands_againW hheld fun h₆ hfl₆ hsm₆ => ?_
  have hfl₆' := flyingW_base hB hfl₆
  have F₆ := F.of_stays hfl₆'.1 ((hsm.trans hsm₅).trans hsm₆)
  obtain ⟨oe, ws, hoe, hoec, hoed, hoe0⟩ := hfl₆'.first
  obtain ⟨ot, nt, hot, hotc, hotd⟩ := (htup.of_slots hsm₅).of_slots hsm₆
  have N₆ := News.more F₆ (News.more F₆ News.nil hot (fun es n q => by rw [hotd] at q; cases q) (fresh_of_stays hB hnew)) hoe (fun es n q => by rw [hoed] at q; cases q) hfl₆'.2.1
  have Nl : News h₀ L h₆ news := fun q hq => ⟨hfl₆.1 _ _ (hl q hq).1, (fun z => by have := (hl q hq).1; rw [z, hL] at this; cases this), (hl q hq).2⟩
  refine stX F₆ (news := _ ++ news) (fun q hq => (List.mem_append.mp hq).elim (N₆ q) (Nl q)) (fun h₇ F₇ N₇ => ?_) hk hlo
  exact k h₇ _ _ F₇ (fun q hq => N₇ q (List.mem_append_left _ hq)) ⟨oe, ot, ws, nt, .head _, .tail _ (.head _), hoec, hoed, hoe0, hotc, hotd⟩ fun q hq => N₇ q (List.mem_append_right _ hq)
end
end Mine
end
theorem Mine.offExc : True := by
  w_top off
  trivial
section
open PySem PySem.W PyProof.Rows
namespace Mine
theorem regET : PySem.Challenge.rw_ph0105_01.prog = PySem.Challenge.rw_ph0105_01.prog ∧ Mine.hd.heap_1 = Mine.hd.heap_1 := by
  k_fill
  exact ⟨rfl, rfl⟩
/-- a contract of a def that raises -/
def CtR (w : World) (f : Addr) (vs : List Value) (news : Led) (lv : Nat) (X : String) (P : List Value → Prop) : Prop :=
  ∀ (p : Program) (loose : List Str) (mean : ExcName → Option Value) (mg mb : Str → Option Value) (dp un : Nat) (gd : Option (List Code)) (cn : Str) (cs : Scope) (a : Addr) (ccd : Value) (cl : List (Str × Addr)) (outer : List Env) (A₀ : Around) (base h₀ : Heap) (L : Addr) (m : Str → Option Value) (s : Shared) (Q E : Value → Shared → Prop),
    Below A₀ base outer h₀ → Fr h₀ L s.heap m → (Mine.hd.heap_1 w.params).In h₀ → News h₀ L s.heap news → Top p loose mean mg mb h₀ → cs.kind = .function →
    dp + lv < recursionLimit → un + 8 * lv < cLine → AllBare s.gens →
    (∀ ws e t g h' tk' gens', P ws → Fr h₀ L g m → g.UpToSlots h' → RaisedK base (envX cn cs L a ccd cl :: outer) e (.type X) t ws news h' → AllBare gens' → E (.ref e) { s with heap := h', toks := tk', gens := gens' }) →
    wpAny (model prg w) (ktrTop dp un gd cn cs L a ccd cl outer) (call (.ref f) vs) Q E s
theorem CtR.use {w : World} {f : Addr} {vs : List Value} {news : Led} {lv : Nat} {X : String} {P : List Value → Prop} (C : CtR w f vs news lv X P)
    {p : Program} {loose : List Str} {mean : ExcName → Option Value} {mg mb : Str → Option Value} {dp un : Nat} {gd : Option (List Code)} {cn : Str} {cs : Scope} {a : Addr} {ccd : Value} {cl : List (Str × Addr)} {outer : List Env} {A₀ : Around} {base h₀ : Heap} {L : Addr} {m : Str → Option Value} {s : Shared} {Q E : Value → Shared → Prop}
    (B : Below A₀ base outer h₀) (F : Fr h₀ L s.heap m) (X' : (Mine.hd.heap_1 w.params).In h₀) (N : News h₀ L s.heap news) (T : Top p loose mean mg mb h₀) (hk : cs.kind = .function)
    (hd : dp + lv < recursionLimit) (hu : un + 8 * lv < cLine) (hb : AllBare s.gens)
    (ret : ∀ ws e t g h' tk' gens', P ws → Fr h₀ L g m → g.UpToSlots h' → RaisedK base (envX cn cs L a ccd cl :: outer) e (.type X) t ws news h' → AllBare gens' → E (.ref e) { s with heap := h', toks := tk', gens := gens' }) :
    wpAny (model prg w) (ktrTop dp un gd cn cs L a ccd cl outer) (call (.ref f) vs) Q E s :=
  C p loose mean mg mb dp un gd cn cs a ccd cl outer A₀ base h₀ L m s Q E B F X' N T hk hd hu hb ret
section
open PySem.Calls
variable {w : World} {A : Around} {E : Value → Shared → Prop} {s : Shared} {env : Env} {X N I : String}
/-- raise X, the class bare; what the new one holds is told -/
theorem Raise_classM {N' I' : String} {x : Str} {np pos : Pos} {Q : Flow → Shared → Prop} (hh : A.handled = none) (hc : ExcClass X N I) (FC : ExcCallFacts X N' I')
    (hself : isSubtype (.type X) (.type X) = pure true)
    (hx : wpAny (model prg w) A (eval (.Name x np) env) (fun v s₁ => v = .type X ∧ s₁ = s) E s)
    (h : ∀ h' e, Heap.MadeExc s.heap h' e X [] → E (.ref e) { s with heap := h' }) :
    wpAny (model prg w) A (exec (.Raise (some (.Name x np)) none pos) env) Q E s := by
  show wpAny (model prg w) A (do standAt pos; raiseStmt env (some (do let v ← eval (.Name x np) env; standAt pos; pure v)) none) Q E s
  refine wpAny_bind (wpAny_standAt ?_)
  unfold raiseStmt
  (try dsimp only)
  refine wpAny_bind (wpAny_bind (wpAny_mono hx (fun v s₁ h₁ => wpAny_bind (wpAny_standAt (wpAny_pure ?_))) fun _ _ e => e))
  obtain ⟨rfl, hs₁⟩ := h₁
  subst s₁
  refine wpAny_bind (wpAny_pure ?_)
  (try dsimp only)
  refine wpAny_bind (wpAny_holding ?_)
  unfold excFromValue isExcClass
  refine wpAny_bind (wpAny_bind (wpAny_pure ?_))
  simp only [if_true]
  rw [hc.base]
  refine wpAny_pure ?_
  simp only [if_true]
  refine wpAny_bind (wpAny_call_exc FC fun h' e hn => ?_)
  obtain ⟨ob, t, he, hcls, hd⟩ := hn.newExc.there
  have hT : ({ s with heap := h' } : Shared).TypeIs (.ref e) X := ⟨ob, he, hcls⟩
  refine wpAny_bind (wpAny_isInstance hT hc.base ?_)
  simp only [Bool.not_true, Bool.false_eq_true, if_false]
  refine wpAny_pure ?_
  first | (refine wpAny_bind (m := isType (.type X)) (wpAny_pure ?_)) | (refine wpAny_bind (wpAny_pure ?_))
  first | (rw [if_pos rfl]) | (simp only [if_true]) | dsimp only
  refine wpAny_bind (wpAny_holding ?_)
  unfold raisedFor
  first | (simp only [Bool.false_eq_true, if_false]) | (rw [if_neg (by decide)]) | skip
  first | (refine wpAny_bind (wpAny_typeOf hT ?_)) | (refine wpAny_bind ?_; refine wpAny_bind (wpAny_typeOf hT ?_))
  refine wpAny_bind (call_issubclass (issubclass_self hc hself) ?_)
  first | (refine wpAny_bind (wpAny_truthy_bool ?_)) | (refine wpAny_truthy_bool ?_) | (dsimp only [wants]; first | (refine wpAny_bind (wpAny_truthy_bool ?_)) | (refine wpAny_truthy_bool ?_))
  first | (rw [if_pos rfl]) | (simp only [if_true]) | skip
  refine wpAny_pure ?_
  unfold setFlight raiseNew
  refine wpAny_bind (wpAny_bind (wpAny_field (i := 1) (x := Value.none) he hd rfl ?_))
  rw [if_neg (by decide)]
  refine wpAny_pure (wpAny_bind (wpAny_handled ?_))
  rw [hh]
  first
    | exact wpAny_throw (h h' e hn)
    | exact wpAny_bind (wpAny_pure (wpAny_throw (h h' e hn)))
end
local macro_rules | `(tactic| walk_at "exec Raise some none") => `(tactic| (k_here; (with_reducible rename Fr _ _ _ _ => kF); k_dflt (refine' Raise_classM ?hh excClass_ZeroDivisionError PySem.F.excCall_ZeroDivisionError ?self ?hx ?_; (case hh => exact rfl); (case self => (rw [isSubtype_type]; kernel_rfl)); (case hx => (refine' name_B kF ?k1 ?k2 ?k3 ?k4 ?k5 ?_; (case k1 => k_asm); (case k2 => k_asm); (case k3 => k_is); (case k4 => boot_by_name); (case k5 => decide); exact ⟨rfl, rfl⟩)); k_whole); intro h' e' x'))
set_option maxRecDepth 100000 in
set_option maxHeartbeats 1000000 in
theorem d56z {w : World} {av : Int} {ta tb : Tok} {news : Led} : CtR w 56 [.int av ta, .int 0 tb] news 10 "ZeroDivisionError" (fun ws => ws = []) := by
  intro p loose mean mg mb dp un gd cn cs a ccd cl outer A₀ base h₀ L m s Q E B F X N T hk hd hu hb ret
  have e1 : ((0 : Int) == 0) = true := rfl
  refine wpAny_call ?_
  k_dflt cell_enter
  k_steps
  exact ret _ _ _ _ _ _ _ rfl (by assumption) (by assumption) (by assumption) hb
end Mine
end
theorem Mine.offExcT : True := by
  w_top off
  trivial
section
open PySem PySem.W PyProof.Rows PySem.Calls
open Sem (wp)
namespace Mine
/-- noted in the frame at L, its ledger still told -/
def HeldK (base : Heap) (l : List Env) (e : Addr) (cls : Value) (t : Addr) (vs : List Value) (news : Led) (L : Addr) (h : Heap) : Prop :=
  (∃ B, base.StaysIn B ∧ (∀ q ∈ news, B.get? q.1 = some q.2 ∧ base.get? q.1 = none) ∧ Heap.HeldW B l e cls (.ref t) L h ∧ B.get? t = none) ∧ h.TupAt t vs
section
variable {M : Model} {A : Around} {E : Value → Shared → Prop} {s : Shared} {base h : Heap} {env : Env} {l : List Env} {L e t : Addr} {cls : Value} {vs : List Value} {news : Led} {Q : Unit → Shared → Prop}
theorem note_made (hfr : A.frames = some (env :: l)) (hf : env.frame = some L) (hst : base.StaysIn h) (hff : h.FunFrames base (env :: l)) (hx : Heap.MadeExcOf h s.heap e cls vs)
    (N : ∀ q ∈ news, h.get? q.1 = some q.2 ∧ base.get? q.1 = none ∧ q.1 ∉ (env :: l).filterMap (·.frame))
    (hQ : ∀ h' t, HeldK base (env :: l) e cls t vs news L h' → h.UpToSlots h' → Q () { s with heap := h' }) :
    wpAny M A (noteFrame (.ref e) env) Q E s := by
  obtain ⟨t, he, htn, ht⟩ := hx.there
  have gone : ∀ {b : Addr}, h.get? b = none → (hideAll h ((env :: l).filterMap (·.frame))).get? b = none := fun {b} hb => by
    cases q : (hideAll h ((env :: l).filterMap (·.frame))).get? b with
    | none => rfl
    | some o => rw [of_hideAll _ q] at hb; cases hb
  have st : base.StaysIn (hideAll h ((env :: l).filterMap (·.frame))) := fun b o q => hideAll_get _ (hst b o q) fun hm => by
    rw [(hff.mem hm).1] at q; cases q
  have up : Heap.UpToSlots h s.heap := Heap.UpToSlots.of_keeps hx.keeps
  have ff : s.heap.FunFrames (hideAll h ((env :: l).filterMap (·.frame))) (env :: l) :=
    (funFrames_hide hff fun env' he' b hb => List.mem_filterMap.mpr ⟨env', he', hb⟩).of_keeps fun b o hb _ => ⟨o, hx.keeps b o hb, rfl⟩
  unfold noteFrame
  simp only [hf]
  refine wpAny_bind (wpAny_field he rfl (x := .none) rfl ?_)
  rw [if_neg (by decide)]
  refine wpAny_entryW (a0 := .ref t) hfr ff hf he (fun b o q => hx.keeps b o (of_hideAll _ q)) (gone hx.new) rfl (by show 1 < 6; decide) rfl fun h' hN => ?_
  obtain ⟨k1, k2, k3, k4⟩ := hN
  have up' : Heap.UpToSlots s.heap h' := k4
  exact hQ h' t ⟨⟨_, st, fun q hq => ⟨hideAll_get _ (N q hq).1 (N q hq).2.2, (N q hq).2.1⟩, ⟨k1, gone hx.new, k2, k3⟩, gone htn⟩, Heap.TupAt.of_slots ⟨_, _, ht, rfl, rfl⟩ up'⟩ (up.trans up')
theorem flight_held (H : HeldK base l e cls t vs news L s.heap) (hQ : ∀ h', HeldK base l e cls t vs news L h' → s.heap.UpToSlots h' → Q () { s with heap := h' }) :
    wpAny M A (setFlight (.ref e) (some L)) Q E s := by
  obtain ⟨⟨B, b1, b2, ⟨f1, f2, f3, f4⟩, b3⟩, b4⟩ := H
  obtain ⟨oe, ws, T, oT, ts, he, hcls, hd, h1, hnT, hTe, hT, hdT, h3⟩ := f4
  have hsz : 3 < ts.size := (Array.getElem?_eq_some_iff.mp h3).1
  have other : ∀ b, b ≠ T → (s.heap.update T (Obj.mapFields (·.setIfInBounds 3 (rawInt L)))).get? b = s.heap.get? b := fun b hb => Heap.get?_update_other _ _ (Ne.symm hb)
  have noRec : ∀ b o, s.heap.get? b = some o → (∀ us, o.data ≠ .fields us) → b ≠ T := fun b o hb hnf q => by
    rw [q, hT] at hb; injection hb with hb; subst hb; exact hnf ts hdT
  unfold setFlight
  refine wpAny_bind (wpAny_field he hd h1 ?_)
  rw [if_pos (show (Value.ref T != Value.none) = true from by simp)]
  refine wpAny_setField hT hdT hsz ?_
  have up : s.heap.UpToSlots (s.heap.update T (Obj.mapFields (·.setIfInBounds 3 (rawInt L)))) := fun b o hb hn => ⟨o.slots, (other b (noRec b o hb hn)).trans hb⟩
  refine hQ _ ⟨⟨B, b1, b2, ⟨fun b o q => (other b fun q' => by rw [q', hnT] at q; cases q).trans (f1 b o q), f2, f3.of_keeps fun b o hb hnf => ⟨o, (other b (noRec b o hb hnf)).trans hb, rfl⟩, ?_⟩, b3⟩, b4.of_slots up⟩ up
  exact ⟨oe, ws, T, _, _, (other e (Ne.symm hTe)).trans he, hcls, hd, h1, hnT, hTe, Heap.get?_update_self _ hT (Obj.isFreed_of_fields (Obj.data_mapFields hdT _)), Obj.data_mapFields hdT _, by simp [hsz]⟩
theorem came_held (hf : env.frame = some L) (H : HeldK base l e cls t vs news L s.heap) (hQ : ∀ h', HeldK base l e cls t vs news L h' → s.heap.UpToSlots h' → Q () { s with heap := h' }) :
    wpAny M A (do if (← field (.ref e) 1) == Value.none then unsupported "frame.own-activation:exception-without-traceback"
                  setFlight (.ref e) env.frame) Q E s := by
  have H' := H
  obtain ⟨⟨B, b1, b2, ⟨f1, f2, f3, f4⟩, b3⟩, b4⟩ := H
  obtain ⟨oe, ws, T, oT, ts, he, hcls, hd, h1, hnT, hTe, hT, hdT, h3⟩ := f4
  refine wpAny_bind (wpAny_field he hd h1 ?_)
  rw [if_neg (show ¬ ((Value.ref T == Value.none) = true) from by simp), hf]
  exact flight_held H' hQ
theorem leaves_held (hf : env.frame = some L) (H : HeldK base (env :: l) e cls t vs news L s.heap) (hQ : ∀ h', RaisedK base l e cls t vs news h' → s.heap.UpToSlots h' → Q () { s with heap := h' }) :
    wpAny M A (leaving env (.ref e)) Q E s := by
  obtain ⟨⟨B, b1, b2, hh, b3⟩, b4⟩ := H
  unfold leaving
  refine wpAny_bind (wpAny_noteFrame_againW hf hh.2.2.2 ?_)
  refine wpAny_landsW hh fun h' hfl up => ?_
  obtain ⟨k1, k2, ⟨_, _, k3⟩, k4⟩ := hfl
  exact hQ h' ⟨⟨B, b1, b2, ⟨k1, k2, k3, k4⟩, b3⟩, b4.of_slots up⟩ up
theorem notes_flying (hfr : A.frames = some (env :: l)) (hf : env.frame = some L) (R : RaisedK base (env :: l) e cls t vs news s.heap) (hQ : ∀ h', HeldK base (env :: l) e cls t vs news L h' → s.heap.UpToSlots h' → Q () { s with heap := h' }) :
    wpAny M A (noteFrame (.ref e) env) Q E s := by
  obtain ⟨⟨B, b1, b2, hh, b3⟩, b4⟩ := R
  exact wpAny_looks_onW hfr hf hh fun h' hd up => hQ h' ⟨⟨B, b1, b2, hd, b3⟩, b4.of_slots up⟩ up
end
theorem isSubtype_vs : isSubtype (.type "ValueError") (.type "StopIteration") = pure false := by rw [isSubtype_type]; kernel_rfl
theorem raised_type {base h : Heap} {l : List Env} {e t : Addr} {X : String} {vs : List Value} {news : Led} (R : RaisedK base l e (.type X) t vs news h) : ∃ ob, h.get? e = some ob ∧ ob.cls = .type X := R.1.elim fun _ x => x.2.2.1.there
theorem raised_sub {base h : Heap} {l : List Env} {e t : Addr} {cls : Value} {vs : List Value} {news news' : Led} (R : RaisedK base l e cls t vs news h) (hs : ∀ q ∈ news', q ∈ news) : RaisedK base l e cls t vs news' h :=
  let ⟨⟨B, b1, b2, r⟩, b4⟩ := R
  ⟨⟨B, b1, fun q hq => b2 q (hs q hq), r⟩, b4⟩
theorem raised_old {base h : Heap} {l : List Env} {e t : Addr} {cls : Value} {vs : List Value} {news : Led} (R : RaisedK base l e cls t vs news h) {q : Addr × Obj} (hq : q ∈ news) : h.get? q.1 = some q.2 := R.1.elim fun _ x => x.2.2.1.1 _ _ (x.2.1 q hq).1
section
variable {w : World} {A : Around} {E : Value → Shared → Prop} {s : Shared}
/-- next of a generator that raises a ValueError -/
theorem next_raise {a : Addr} {g n : Nat} {gs : GenState} {go : Obj} {P : Shared → Addr → Shared → Prop} {Q : Option Value → Shared → Prop} 
    (hl : s.heap.NoLimit) (hroom : A.depth < recursionLimit) (hgo : ∀ h : Heap, h.get? a = some go → h.IsGen a g) (hg : s.heap.get? a = some go) (hgs : s.gens[g]? = some gs)
    (hrun : gs.Goes (M0 w) A.in1 (fun _ s₀ r s₁ => ∃ e, r = .error (.ref e) ∧ P s₀ e s₁) (fun _ _ _ _ _ => False) n (.send .none) (s.setGen g .running))
    (hP : ∀ e s₁, P (s.setGen g .running) e s₁ → (∃ ob, s₁.heap.get? e = some ob ∧ ob.cls = .type "ValueError") ∧ s₁.heap.get? a = some go ∧ E (.ref e) (s₁.setGen g .finished)) :
    wpAny (M0 w) A (pyNext (.ref a)) Q E s := by
  have hg' := hgo _ hg
  unfold pyNext
  refine wpAny_bind (wpAny_attempt (wpAny_callSpecial?_slot (name := Str.ofString "__next__") hg'.typeIs slot_gen_next
    (wpAny_call_entry slot_gen_next hg'.typeIs entry_gen_next ?_ (args_gen_next _))))
  show wpAny _ A.in1 (Builtin.Generator.genWake (.ref a) (.send .none)) _ _ s
  unfold Builtin.Generator.genWake
  refine wpAny_bind (wpAny_holding (wpAny_genNumber hg' (wpAny_bind (wpAny_genState hgs ?_))))
  cases gs with
  | running => exact hrun.elim
  | finished => exact hrun.elim
  | _ =>
    refine wpAny_bind (wpAny_roomToWake hl hroom ?_)
    show wpAny _ A.in1 (.resume g (.send .none) [] _) _ _ s
    refine wpAny_resumeQ hgs hrun (fun x s₁ hx => ?_) (fun v s₁ gs' hb hv => hv.elim)
    obtain ⟨e, rfl, hp⟩ := hx
    obtain ⟨hT, ha, hE⟩ := hP e s₁ hp
    obtain ⟨o, nm, qn, ho, hoc, hod, _⟩ := hgo (s₁.setGen g .finished).heap ha
    show wpAny _ A.in1 (Builtin.Generator.genLeft (.ref a) (.ref e)) _ _ _
    unfold Builtin.Generator.genLeft Builtin.Generator.madeByALambda
    refine wpAny_bind (wpAny_bind (wpAny_load ho ?_))
    rw [hod]
    have hb : (o.cls == Value.type "generator" && (#[Value.int ↑g 0, nm, qn][3]? == some (Value.bool true))) = false := by simp
    refine wpAny_of_eq (a := false) (congrArg pure hb) ?_
    refine wpAny_bind (wpAny_isInstance (T := "ValueError") (b := false) hT isSubtype_vs ?_)
    show wpAny _ A.in1 (Builtin.Generator.genEscaped (.ref e)) _ _ _
    unfold Builtin.Generator.genEscaped
    refine wpAny_bind (wpAny_isInstance (T := "ValueError") (b := false) hT isSubtype_vs ?_)
    show wpAny _ A.in1 (throw (Value.ref e) >>= _) _ _ _
    refine wpAny_bind (wpAny_throw ?_)
    refine wpAny_bind (wpAny_isInstance (T := "ValueError") (b := false) hT isSubtype_vs ?_)
    exact wpAny_throw hE
/-- what the generator's raising tells -/
def RR (base h : Heap) (l : List Env) (news : Led) (msg : Str) : GenEnd := fun _ s₀ r s₁ => ∃ e, r = .error (.ref e) ∧ ∃ t tm h' tk', s₁ = { s₀ with heap := h', toks := tk' } ∧ RaisedK base l e (.type "ValueError") t [.str msg tm] news h' ∧ h.UpToSlots h'
/-- what the generator's walk may lean on: C its frame -/
structure GG (base h : Heap) (l : List Env) (news : Led) (C : Addr) : Prop where
  c0 : base.get? C = none
  up : ∀ h6 : Heap, (∀ b o, b ≠ C → h.get? b = some o → h6.get? b = some o) → base.StaysIn h6 ∧ h6.FunFrames base l
  nm : ∀ q ∈ news, h.get? q.1 = some q.2 ∧ base.get? q.1 = none ∧ q.1 ∉ l.filterMap (·.frame)
/-- a loop over a generator that raises a ValueError at once -/
theorem for_raise {env : Env} {x : Str} {px : Pos} {body orelse : List Stmt} {a L C : Addr} {g : Nat} {go : Obj} {c0 : Code} {A₀ : Around} {base g9 : Heap} {outer : List Env} {m : Str → Option Value} {news : Led} {msg : Str} {Q : Flow → Shared → Prop}
    (B : Below A₀ base outer g9) (F : Fr g9 L s.heap m) (N : News g9 L s.heap news) (hf : env.frame = some L) (hke : env.scope.kind = .function) (hA : A.frames = some (env :: outer))
    (hlim : g9.NoLimit) (hroom : A.depth < recursionLimit) (hgo : ∀ h : Heap, h.get? a = some go → h.IsGen a g) (hgs : s.gens[g]? = some (.fresh c0)) (hb : AllBare s.gens) (hm : (a, go) ∈ news) (hC : g9.get? C = none) (hCL : L ≠ C)
    (hrun : ∀ s2 : Shared, s2.heap = s.heap → GG base s.heap (env :: outer) news C → Seg (M0 w) A.in1 (RR base g9 (env :: outer) news msg) (fun _ _ _ _ _ => False) 1 s2 c0 ((M0 w).den c0) [] s2)
    (hE : ∀ e t tm h' tk' gens', HeldK base (env :: outer) e (.type "ValueError") t [.str msg tm] news L h' → g9.UpToSlots h' → AllBare gens' → E (.ref e) { s with heap := h', toks := tk', gens := gens' }) :
    codeAny (M0 w) A (.forLoop (.Name x px) (.ref a) body orelse env) (fun r s' => match r with | .ok f => Q f s' | .error e => cameBackBy (M0 w) A env E e s') s := by
  have BW := pushX B F hf hke
  have low : ∀ b, g9.get? b = none → base.get? b = none := fun b q => by
    cases q' : base.get? b with
    | none => rfl
    | some o => rw [B.stays b o q'] at q; cases q
  have hL0 : g9.get? L = none := by
    cases hq : g9.get? L with
    | none => rfl
    | some o => exact absurd (Nat.lt_of_lt_of_le (Heap.lt_size hq) F.above) (Nat.lt_irrefl _)
  have gg : GG base s.heap (env :: outer) news C := by
    refine ⟨low C hC, fun h6 k6 => ?_, fun q hq => ⟨(N q hq).1, low _ (N q hq).2.2, fun hm' => ?_⟩⟩
    · have kg : ∀ b o, g9.get? b = some o → h6.get? b = some o := fun b o e => k6 b o (fun z => by rw [z, hC] at e; cases e) (F.keep b o e)
      exact ⟨fun b o e => kg b o (B.stays b o e), .cons (by rw [hke]; decide) hf (F.ns.at' fun o e => k6 L o hCL e) (low L hL0) (B.frames.of_keeps fun b o e _ => ⟨o, kg b o e, rfl⟩)⟩
    · obtain ⟨env', he', hf'⟩ := List.mem_filterMap.mp hm'
      rcases List.mem_cons.mp he' with rfl | he'
      · rw [hf] at hf'; exact (N q hq).2.1 (Option.some.inj hf').symm
      · obtain ⟨_, o, ho, _⟩ := B.frames.mem (List.mem_filterMap.mpr ⟨env', he', hf'⟩)
        rw [(N q hq).2.2] at ho; cases ho
  refine codeAny_forLoop (fun _ s' => s' = s) ?_ 0 rfl
  intro _ s5 e5
  rw [e5]
  clear e5 s5
  refine next_raise (n := 1) (gs := .fresh c0) (P := fun s₀ e s₁ => ∃ t tm h' tk', s₁ = { s₀ with heap := h', toks := tk' } ∧ RaisedK base (env :: outer) e (.type "ValueError") t [.str msg tm] news h' ∧ g9.UpToSlots h') (hlim.keeps F.keep) hroom hgo (N _ hm).1 hgs ⟨rfl, hrun _ rfl gg⟩ ?_
  rintro e9 s9 ⟨t9, tm9, h9', tk9', rfl, R9, U9⟩
  refine ⟨raised_type R9, raised_old R9 hm, ?_⟩
  refine notes_flying hA hf R9 fun h10 H10 U10 => ?_
  refine came_held hf H10 fun h11 H11 U11 => ?_
  exact hE _ _ _ _ _ _ H11 ((U9.trans U10).trans U11) (bare_set (bare_set hb rfl) rfl)
end
end Mine
end
theorem Mine.offGenR : True := by
  w_top off
  trivial
section
open PySem PySem.W PyProof.Rows
open Sem (wp)
namespace Mine
theorem regGS : PySem.Challenge.rw_ph0105_01.prog = PySem.Challenge.rw_ph0105_01.prog ∧ Mine.hd.heap_1 = Mine.hd.heap_1 := by
  k_fill
  exact ⟨rfl, rfl⟩
section
variable {w : World} {A : Around} {R : GenEnd} {Y : Protocol} {fs : List Frame} {env : Env} {n : Nat} {s₀ s : Shared}
/-- the first turn of a generator's loop over a list -/
theorem seg_first {hb : Heap} {C I l : Addr} {vs : List Value} {e : Nat} {x : Str} {px : Pos} {body : List Stmt} {m : Str → Option Value}
    (hh : (A.over (.forLoop (.Name x px) (.ref I) body [] env) fs).handled = none) (hL : env.locals = C) (hx : env.kindOf x = some .local) (hp : (env.scope.kind == .class || (env.scope.kind == .module && env.locals != env.globals)) = false)
    (hIC : I ≠ C) (hlC : l ≠ C) (hlI : l ≠ I) (hbI : hb.get? I = none) (it : s.heap.IsListIter I l 0) (li : s.heap.get? l = some (listOf vs.toArray e)) (F : Fr hb C s.heap m) (h0 : 0 < vs.length)
    (turn : ∀ v h₂ tk₂, vs[0]? = some v → Fr hb C h₂ (fun y => if y = x then some v else m y) → (∀ b o, b ≠ C → b ≠ I → s.heap.get? b = some o → h₂.get? b = some o) →
      Seg (M0 w) A R Y n s₀ (.forLoop (.Name x px) (.ref I) body [] env) ((execs body env).wrap (forK (.Name x px) (.ref I) body [] env) (noteH env) id id) fs { s with heap := h₂, toks := tk₂ }) :
    Seg (M0 w) A R Y n s₀ (.forLoop (.Name x px) (.ref I) body [] env) ((M0 w).den (.forLoop (.Name x px) (.ref I) body [] env)) fs s := by
  subst hL
  have W := Walks.list (prog := prg) (w := w) (A := A.over (.forLoop (.Name x px) (.ref I) body [] env) fs) hh I l hlI vs.toArray
  refine seg_forLoop ?_
  refine W.item 0 s _ _ (by simpa using h0) ⟨it, ⟨_, li, rfl, _, rfl⟩⟩ fun v h₁ tk₁ hv hst hk₁ => ?_
  have F₁ : Fr hb env.locals h₁ m := ⟨F.ns.at' fun o e => hk₁ _ o (by simpa using hIC.symm) e, fun b o e => hk₁ b o (by simp; rintro rfl; rw [hbI] at e; cases e) (F.keep b o e), F.above⟩
  refine wpAny_assign_Name (wpAny_storeName_local hx F₁.ns (fun h₂ hns hsb => ?_) hp)
  exact turn v h₂ _ (by simpa using hv) (F₁.set hns hsb) fun b o hC hI e => (hsb.2 b hC).trans (hk₁ b o (by simpa using hI) e)
end
local macro_rules | `(tactic| walk_at "call builtin:len") => `(tactic| (k_here; k_dflt (refine' len_line ?N ?mm ?ii ?ff ?_; (case N => k_asm); (case mm => exact List.Mem.tail _ (.tail _ (.tail _ (.head _)))); (case ii => assumption); (case ff => assumption); k_whole); intro t' tk'))
local macro_rules | `(tactic| walk_at "call ref") => `(tactic| refine stop_of ?_)
local macro_rules | `(tactic| walk_at "storeName none") => `(tactic| refine stop_of ?_)
local macro_rules | `(tactic| walk_at "storeName int") => `(tactic| refine stop_of ?_)
local macro_rules | `(tactic| walk_at "pyIter ref") => `(tactic| refine stop_of ?_)
local macro_rules | `(tactic| walk_at "exec For Name Call cons nil") => `(tactic| refine stop_of ?_)
set_option maxRecDepth 100000 in
set_option maxHeartbeats 2000000 in
theorem d91r {w : World} {l : Addr} {e : Nat} {x : Int} {t1 t2 : Tok} {cv : Int} {tc : Tok} {news : Led} (hm : (l, listOf [Value.int 0 t1, Value.int x t2].toArray e) ∈ news) :
   CtR w 91 [.ref l, .int cv tc] news 12 "ValueError" (fun ws => ∃ t, ws = [.str (Str.ofString "invalid grouping") t]) := by
  intro p loose mean mg mb dp un gd cn cs a ccd cl outer A₀ base h₀ L m s Q E B F X N T hk hd hu hbare ret
  refine wpAny_call ?_
  k_dflt cell_enter
  k_steps
  refine stop_in ?_
  refine wpAny_For ?_
  k_steps
  refine stop_in ?_
  refine wpAny_call ?_
  k_dflt (refine' gen_make ?F ?N ?nl ?ho ?hd ?hcd ?hroom ?hbind ?hloc ?_ ?hcell ?hco ?hgen ?hk; (case F => k_asm); (case N => k_asm); (case nl => exact Top.nolimit (by assumption)); (case ho => exact Fr.keep (by assumption) _ _ ((by assumption : (Mine.hd.heap_1 w.params).In _) _ _ rfl)); (case hd => exact rfl); (case hcd => exact codeRec_of ((by assumption : (Mine.hd.heap_1 w.params).In _).keeps (Fr.keep (by assumption))) rfl); (case hroom => ktr_room); (case hbind => exact BindsTo.of_eq rfl); (case hloc => exact locs rfl); (case hcell => decide); (case hco => exact rfl); (case hgen => exact rfl); (case hk => exact rfl))
  intro C ga h22 tk2 oC go hns hoC hig F2 N2 lt1 lt2 hab hLC
  k_lt lt1
  refine wpAny_pyIter_gen (g := s.gens.size) (hig _ (N2 _ (.head _)).1) ?_
  rename_i g9 L9 hg9 FG9 B9 X9 T9 tk9 l9 h9 l19 h99 F9 N9
  have lN : AllLt l9 news := allLt_of l19
  have lCl : l9 < C := lt1.1
  obtain ⟨u9, F3⟩ := fr_ps [(Str.ofString "told", .ref l9), (Str.ofString "count", .int cv tc)] F2 (by kst_all)
  have hg0 : g9.get? C = none := by
    cases hq : g9.get? C with
    | none => rfl
    | some o => exact absurd (Heap.lt_size hq) (Nat.not_lt.mpr hab)
  have N3 : News g9 L9 h22 ((ga, go) :: (l9, listOf #[] 0) :: news) := cb_drop N2 (by kcj_in)
  clear F2
  clear hoC
  have N4 : News g9 L9 h22 ((ga, go) :: news) := cb_drop N3 (by kcj_in)
  have li22 : h22.get? l = some (listOf [Value.int 0 t1, Value.int x t2].toArray e) := (N3 _ (.tail _ (.tail _ hm))).1
  have hlC : l ≠ C := Nat.ne_of_lt (lt_of_all lt1.2 _ hm)
  have hgaC : ∀ q ∈ ((ga, go) :: news : Led), q.1 ≠ C := fun q hq => by
    rcases List.mem_cons.mp hq with rfl | hq
    · exact Nat.ne_of_gt lt2
    · exact Nat.ne_of_lt (lt_of_all lt1.2 q hq)
  have hkeep := F3.keep
  k_dflt (refine' for_raise (C := C) (go := go) (news := (ga, go) :: news) (msg := Str.ofString "invalid grouping") B9 F3 N4 rfl rfl rfl ?lim ?hroom hig ?hgs ?hb (.head _) hg0 (Nat.ne_of_lt hLC) ?hrun ?hE; (case lim => exact Top.nolimit (by assumption)); (case hroom => ktr_room); (case hgs => exact Array.getElem?_push_size ..); (case hb => exact hbare.push rfl))
  case hE =>
    intro e9 t9 tm9 h11 tk11 gens11 H11 U11 hb11
    k_steps
    refine leaves_held rfl H11 fun h12 R12 U12 => ?_
    exact ret _ _ _ g9 _ _ _ ⟨tm9, rfl⟩ FG9 (U11.trans U12) (raised_sub R12 fun q hq => .tail _ hq) hb11
  case hrun =>
    intro s2 hs2 gg
    dsimp only at hs2 gg
    have li : s2.heap.get? l = some (listOf [Value.int 0 t1, Value.int x t2].toArray e) := by rw [hs2]; exact li22
    have Fs := (⟨hs2 ▸ hns, fun b o q => by rw [hs2]; exact hkeep b o q, hab⟩ : Fr g9 C s2.heap _)
    rw [← hs2] at gg
    have hb2 : AllBare s2.gens ∨ True := .inr trivial
    clear F3 N3 N4 N2 hs2 hns li22 hkeep F9 N9 F N
    refine seg_func ?_
    refine seg_execs_cons ?_
    refine seg_wrap ?_
    k_steps
    refine stop_in ?_
    refine wpAny_storeName_local rfl Fs.ns (fun h3 hn3 hs3 => ?_) rfl
    have F3 := Fs.set hn3 hs3
    have li3 : h3.get? l = some (listOf [Value.int 0 t1, Value.int x t2].toArray e) := (hs3.2 l hlC).trans li
    obtain ⟨u3, F4⟩ := fr_ps [(Str.ofString "grouping", .ref l), (lastN, .none)] F3 (by kst_all)
    clear F3 Fs
    (try dsimp only)
    refine seg_execs_cons ?_
    refine seg_For ?_
    k_steps
    refine stop_in ?_
    have hIC : h3.objs.size ≠ C := by
      obtain ⟨_, _, _, hg, _⟩ := F4.ns
      exact Nat.ne_of_gt (Heap.lt_size hg)
    have hbI : g9.get? h3.objs.size = none := by
      cases hq : g9.get? h3.objs.size with
      | none => rfl
      | some o => exact absurd (Heap.lt_size (F4.keep _ _ hq)) (Nat.lt_irrefl _)
    have hlI : l ≠ h3.objs.size := Nat.ne_of_lt (Heap.lt_size li3)
    obtain ⟨u4, F5⟩ := fr_ps [(lastN, .none)] (F4.push { cls := .type "list_iterator", data := .fields #[.ref l, .int 0 0] }) (by kst_all)
    refine wpAny_pyIter_list ⟨_, li3, rfl, _, rfl⟩ ?_
    intro p9
    refine seg_first (hb := g9) (C := C) (l := l) (vs := [Value.int 0 t1, Value.int x t2]) (e := e) rfl rfl rfl rfl hIC hlC hlI hbI ⟨_, Heap.get?_push_size _ rfl, rfl, rfl⟩ (Heap.get?_push_of_some _ li3) F5 (Nat.succ_pos _) ?_
    intro v h6 tk6 hv F6 hk6
    obtain rfl : _ = v := Option.some.inj hv
    have k6 : ∀ b o, b ≠ C → s2.heap.get? b = some o → h6.get? b = some o := fun b o hC q => hk6 b o hC (Nat.ne_of_lt (Nat.lt_of_lt_of_eq (Heap.lt_size q) hs3.1.symm)) (Heap.get?_push_of_some _ ((hs3.2 b hC).trans q))
    have F7 : Fr g9 C h6 (kstB u4 [(Str.ofString "interval", .int 0 t1), (lastN, .none)]) := F6
    clear F6 F5 F4
    have hc1 : ¬ ((0 : Int) == 127) = true := by decide
    refine seg_execs_cons ?_
    refine seg_If ?_
    k_steps
    refine seg_execs_nil ?_
    refine seg_execs_cons ?_
    refine seg_If ?_
    have hc2 : ((0 : Int) == 0) = true := rfl
    k_steps
    refine seg_execs_cons ?_
    refine seg_If ?_
    k_steps
    refine seg_execs_cons ?_
    refine seg_wrap ?_
    refine Raise_madeB PySem.F.excCall_ValueError PySem.F.excRaise_ValueError rfl ?_ rfl rfl
    k_steps
    rename Heap.MadeExc _ _ _ _ _ => x7
    (try dsimp only at x7)
    obtain ⟨hst6, hff6⟩ := gg.up h6 k6
    refine seg_wrap ?_
    refine wpAny_bind (note_made (news := (ga, go) :: news) (base := base) (h := h6) rfl rfl hst6 (.cons (fun h => ScopeKind.noConfusion h) rfl F7.ns gg.c0 hff6) (Heap.MadeExc.of x7) (fun q hq => ⟨k6 _ _ (hgaC q hq) (gg.nm q hq).1, (gg.nm q hq).2.1, fun hm' => ?_⟩) fun h8 t8 H8 U8 => ?_)
    · rcases List.mem_cons.mp hm' with h | h
      · exact hgaC q hq h
      · exact (gg.nm q hq).2.2 h
    refine wpAny_theTreesLotGoes ?_
    refine seg_leaf (.error (.ref _)) ?_
    refine seg_bind_wrap (came_held rfl H8 fun h9 H9 U9 => ?_)
    refine seg_wrap (m := leaving _ (.ref _)) (leaves_held rfl H9 fun h10 R10 U10 => ?_)
    refine seg_end (.error (.ref _)) ⟨_, rfl, t8, _, h10, _, rfl, R10, (((Heap.UpToSlots.of_keeps F7.keep).trans U8).trans U9).trans U10⟩
end Mine
end
theorem Mine.offGenS : True := by
  w_top off
  trivial
open PySem PySem.W PyProof.Rows
namespace Mine
theorem stop_at {P : Prop} {n : Nat} (_ : Halt n) (p : Stop P) : P := p
theorem mulOk_k {k ring step : Int} (h1 : 1 ≤ k) (h2 : k < 1 + ((ring + 1 - 1).toNat : Int)) (r2 : ring ≤ 16) (s1 : 1 ≤ step) (s2 : step < ring) : IntMulOk k step := mulOk_small (by omega) (by omega) (by omega) (by omega)
theorem max_pos {o : Int} : 0 < (if 1 > o - 2 then 1 else o - 2) := by split <;> omega
theorem max_ne {o : Int} : (if 1 > o - 2 then 1 else o - 2) ≠ 0 := Int.ne_of_gt max_pos
theorem cnt {order x : Int} (h : 2 ≤ order) : 2 ≤ (if 3 < order then 3 else order) + x.fmod (if 1 > order - 2 then 1 else order - 2) ∧ (if 3 < order then 3 else order) + x.fmod (if 1 > order - 2 then 1 else order - 2) ≤ order := by
  have c0 := fmod_pos (x := x) (b := if 1 > order - 2 then 1 else order - 2) max_pos
  generalize x.fmod (if 1 > order - 2 then 1 else order - 2) = y at *
  revert c0
  split <;> split <;> intro c0 <;> omega
theorem at_led {h₀ h : Heap} {L : Addr} {led : Led} (_N : News h₀ L h led) {P : Led → Prop} (p : P led) : P led := p
/-- a row and what is due of it: two lists of ints in the ledger -/
def RowAt (led : Led) (count : Int) (v : Value) : Prop := ∃ (T l d : Addr) (vs ws : List Value) (ns ms : List Int) (e f : Nat), v = .ref T ∧ (T, tupObj [.ref l, .ref d]) ∈ led ∧ (l, listOf vs.toArray e) ∈ led ∧ (d, listOf ws.toArray f) ∈ led ∧
  IntsAre vs ns ∧ IntsAre ws ms ∧ gOut (count + 2).toNat none ns = ms ∧ ns.head? ≠ some 0 ∧ vs.length ≤ sizeLine
theorem RowAt.of {led : Led} {count : Int} {T l d : Addr} {vs ws : List Value} {ns ms : List Int} {e f : Nat} (h1 : (T, tupObj [.ref l, .ref d]) ∈ led) (h2 : (l, listOf vs.toArray e) ∈ led) (h3 : (d, listOf ws.toArray f) ∈ led)
    (h4 : IntsAre vs ns) (h5 : IntsAre ws ms) (h6 : gOut (count + 2).toNat none ns = ms) (h7 : ns.head? ≠ some 0) (h8 : vs.length ≤ 100) : RowAt led count (.ref T) := ⟨T, l, d, vs, ws, ns, ms, e, f, rfl, h1, h2, h3, h4, h5, h6, h7, Nat.le_trans h8 (by rw [sizeLine_eq]; decide)⟩
theorem list_of {w : World} {A : Around} {E : Value → Shared → Prop} {s : Shared} {h₀ : Heap} {L b : Addr} {m : Str → Option Value} {news : Led} {vs : List Value} {e : Nat} {Q : Value → Shared → Prop} (F : Fr h₀ L s.heap m) (N : News h₀ L s.heap news) (hb : (b, listOf vs.toArray e) ∈ news) (hz : vs.length ≤ sizeLine)
    (h : ∀ D c h', Fr h₀ L h' m → News h₀ L h' ((D, listOf vs.toArray c) :: news) → (∀ q ∈ news, q.1 < D) → Q (.ref D) { s with heap := h' }) : wpAny (model prg w) A (call (.type "list") [.ref b]) Q E s := kup_listOf F N hb rfl h hz
theorem far_of {P T D S : Nat} (h1 : P < T) (h2 : T < D) (h3 : 37 < P) (h4 : 37 < S + 1) (x : Nat) (hx : x ≤ 37) : P ≠ x ∧ T ≠ x ∧ D ≠ x ∧ S + 1 + 1 ≠ x ∧ S + 1 ≠ x := by (first | lia | omega)
theorem le48 {first ring : Int} (e2 : first ≤ 3 * ring) (r2 : ring ≤ 16) : first ≤ 48 := by (first | lia | omega)
theorem cnt16 {count order ring : Int} (c2 : count ≤ order) (o3 : order ≤ ring) (r2 : ring ≤ 16) : count.toNat ≤ 16 := by (first | lia | omega)
theorem rq_le {rq ring pq x : Int} (h : rq * 1 ≤ rq * ring) (e : rq * ring + pq = x) (h2 : 0 ≤ pq) (hx : x ≤ 900) : rq ≤ 1000 := by (first | lia | omega)
theorem idx_lt {i : Nat} {count : Int} (c1 : 2 ≤ count) (h : i < (count - 1).toNat + 1) : i < count.toNat := by (first | lia | omega)
def BackMid (ps : List (Str × Value)) (l2 l5 : List Int) (s : Shared) (g : Heap) (L : Addr) (led : Led) (f : Flow) (s' : Shared) : Prop :=
  f = .next ∧ ∃ (b0 b1 : Int) (t0 t1 : Tok) (T : Addr) (h' : Heap) (k' : Nat) (u : Str → Option Value), l2 = [b0, b1] ∧ l5 = [b0, -b1] ∧ s' = { s with heap := h', toks := k' } ∧ Fr g L h' (kstB u ((Str.ofString "back", .ref T) :: ps)) ∧ News g L h' ((T, tupObj [.int b0 t0, .int b1 t1]) :: led)
theorem BackMid.of {ps : List (Str × Value)} {l2 l5 : List Int} {s : Shared} {g h' : Heap} {L T : Addr} {led : Led} {m' : Str → Option Value} {b0 b1 : Int} {t0 t1 : Tok} {k' : Nat} (F : Fr g L h' m') (hp : ∀ p ∈ (Str.ofString "back", .ref T) :: ps, m' p.1 = some p.2)
    (N : News g L h' ((T, tupObj [.int b0 t0, .int b1 t1]) :: led)) (e2 : l2 = [b0, b1]) (e5 : l5 = [b0, -b1]) : BackMid ps l2 l5 s g L led .next { s with heap := h', toks := k' } := by
  obtain ⟨u, F⟩ := fr_ps _ F hp
  exact ⟨rfl, b0, b1, t0, t1, T, h', k', u, e2, e5, rfl, F, N⟩
local macro_rules | `(tactic| walk_at "subscriptTail") => `(tactic| (k_here; (with_reducible show wpAny _ _ (subscriptTail _ _ (Value.ref _) (Value.int _ _)) _ _ _); k_dflt (refine' ksa_sub ?k1 ?k2 ?k3 ?k4 ?k5 ?k6 ?_ ?k7; (case k1 => k_asm); (case k2 => k_mem); (case k3 => with_reducible assumption); (case k4 => ksa_idx); (case k5 => ksa_idx); (case k6 => ksa_idx); (case k7 => with_unfolding_all rfl); k_whole); intro _))
local macro_rules | `(tactic| walk_at "callWith ref") => `(tactic| (k_here; k_dflt (refine' callWith_K ?k1 ?k2 ?_; (case k1 => k_asm); (case k2 => k_is); k_whole)))
local macro_rules | `(tactic| walk_at "eval Name") => `(tactic| (k_here; k_dflt (first
  | (refine' nameX_L ?F ?v ?_ ?a ?b; (case F => k_asm); (case a => rfl); (case b => rfl); (case v => rfl); k_whole)
  | (refine' nameX_K ?F ?X ?T ?e ?_ ?a ?b; (case F => k_asm); (case X => k_asm); (case T => k_asm); (case a => rfl); (case b => rfl); (case e => k_is); k_whole)
  | (refine' nameX_B ?F ?X ?T ?e ?v ?n ?_ ?a ?b; (case F => k_asm); (case X => k_asm); (case T => k_asm); (case a => rfl); (case b => rfl); (case e => k_is); (case v => boot_fast); (case n => decide); k_whole)
  | (refine' nameX_C ?N ?c ?m ?d ?_ ?a ?b; (case a => rfl); (case b => rfl); (case N => k_asm); (case c => rfl); (case m => first | k_mem | assumption); (case d => k_asm); k_whole))))
local macro_rules | `(tactic| kn_posts) => `(tactic| refine kn_postB (by assumption) (by assumption) (fun _ _ => rfl) ?_)
local macro_rules | `(tactic| walk_at "binaryOp Mod int int") => `(tactic| ((fail_if_success fail_if_success have : Halt 200 := by with_reducible assumption); (((with_reducible refine mod_int' ?kbe ?_); (case kbe => omega)))))
local macro_rules | `(tactic| walk_at "binaryOp Mult int int") => `(tactic| ((fail_if_success fail_if_success have : Halt 200 := by with_reducible assumption); (((with_reducible refine mul_int ?_ ?kb2); (case kb2 => exact mulOk_small (by omega) (by omega) (by omega) (by omega))))))
local macro_rules | `(tactic| walk_at "binaryOp Add int int") => `(tactic| refine stop_at (n := 43) (by assumption) ?_)
local macro_rules | `(tactic| walk_at "eval Subscript ListComp") => `(tactic| refine stop_at (n := 2) (by assumption) ?_)
local macro_rules | `(tactic| walk_at "binaryOp Mod int int") => `(tactic| ((fail_if_success fail_if_success have : Halt 201 := by with_reducible assumption); (((with_reducible refine mod_int' ?kbe ?_); (case kbe => first | exact max_ne | omega)))))
local macro_rules | `(tactic| walk_at "binaryOp Mult int int") => `(tactic| ((fail_if_success fail_if_success have : Halt 201 := by with_reducible assumption); (((with_reducible refine mul_int ?_ ?kb2); (case kb2 => first | exact mulOk_k (by assumption) (by assumption) (by assumption) (by assumption) (by assumption) | exact mulOk_small (by omega) (by omega) (by omega) (by omega))))))
local macro_rules | `(tactic| walk_at "subscriptTail ListComp") => `(tactic| refine stop_at (n := 3) (by assumption) ?_)
local macro_rules | `(tactic| walk_at "binaryOp Mult ref int") => `(tactic| refine stop_at (n := 4) (by assumption) ?_)
local macro_rules | `(tactic| lcg_off) => `(tactic| (simp only [LCg.Off3, and_true]; with_reducible assumption))
local macro_rules | `(tactic| walk_at "binaryOp Mult ref int") => `(tactic| ((fail_if_success fail_if_success have : Halt 202 := by with_reducible assumption); ((k_here; k_dflt (refine' mul_rep ?F ?N ?hm ?lo ?hi ?_; (case F => k_asm); (case N => k_asm); (case hm => k_mem); (case lo => (first | lia | omega)); (case hi => (first | lia | omega)); k_whole); intro D' h' F' N' l1; (try k_lt l1); (try k_sweep)))))
local macro_rules | `(tactic| walk_at "binaryOp Add ref ref") => `(tactic| ((fail_if_success fail_if_success have : Halt 202 := by with_reducible assumption); ((k_here; k_dflt (refine' add_line ?F ?N ?hl ?hb ?hz ?_; (case F => k_asm); (case N => k_asm); (case hl => k_mem); (case hb => k_mem); (case hz => ((try simp only [List.length_append, List.length_replicate, List.length_cons, List.length_nil]); (first | lia | omega))); k_whole); intro D' h' F' N' l1; (try k_lt l1); (try k_sweep)))))
local macro_rules | `(tactic| walk_at "compareOp NotEq ref ref") => `(tactic| ((fail_if_success fail_if_success have : Halt 202 := by with_reducible assumption); ((k_here; k_dflt (refine' ne_line ?N ?hl ?hb ?hi ?hj ?hu ?_; (case N => k_asm); (case hl => k_mem); (case hb => k_mem); (case hi => with_reducible assumption); (case hj => with_reducible assumption); (case hu => units_room); k_whole)))))
local macro_rules | `(tactic| walk_at "call ref") => `(tactic| ((fail_if_success fail_if_success (first | have : Halt 202 := by with_reducible assumption | have : Halt 203 := by with_reducible assumption)); ((k_here; k_dflt (refine' CtG.useD ?hm ?hi ?hc1 ?hc2 ?h0 ?hg (by k_asm) (by k_asm) (by k_asm) (by k_asm) (by k_asm) (by first | exact rfl | assumption) (by ktr_room) (by ktr_units) (by assumption) ?_; (case hm => k_mem); (case hi => first | with_reducible assumption | repeat (first | exact IntsAre.nil | exact ints_rep' | apply IntsAre.cons | apply IntsAre.append)); (case hc1 => omega); (case hc2 => omega); (case h0 => first | with_reducible assumption | exact head_ne (by assumption)); (case hg => with_reducible assumption); k_whole); intro D6 vs6 e6 h6 tk6 gens6 hI6 lt6 hb6 F6 N6; (try k_lt lt6); (try k_sweep)))))
local macro_rules | `(tactic| walk_at "exec For Tuple List cons nil") => `(tactic| refine stop_at (n := 6) (by assumption) ?_)
local macro_rules | `(tactic| walk_at "pyIter ref") => `(tactic| refine stop_at (n := 7) (by assumption) ?_)
local macro_rules | `(tactic| walk_at "exec Try") => `(tactic| refine stop_at (n := 5) (by assumption) ?_)
local macro_rules | `(tactic| is_list) => `(tactic| ((fail_if_success fail_if_success have : Halt 300 := by with_reducible assumption); (exact News.isList (by k_asm) (by k_mem))))
local macro_rules | `(tactic| k_mem) => `(tactic| ((fail_if_success fail_if_success have : Halt 300 := by with_reducible assumption); (with_reducible_and_instances assumption)))
local macro_rules | `(tactic| walk_at "call type:list") => `(tactic| ((fail_if_success fail_if_success have : Halt 202 := by with_reducible assumption); ((k_here; k_dflt (refine' list_of ?F ?N ?b ?z ?_; (case F => k_asm); (case N => k_asm); (case b => with_reducible assumption); (case z => with_reducible assumption)); intro D' c' h' F' N' l1; (try k_lt l1); (try k_sweep)))))
local macro_rules | `(tactic| walk_at "exec For Name Call cons nil") => `(tactic| refine stop_at (n := 9) (by assumption) ?_)
local macro_rules | `(tactic| walk_at "call ref") => `(tactic| refine stop_at (n := 11) (by assumption) ?_)
local macro_rules | `(tactic| walk_at "call builtin:len") => `(tactic| ((fail_if_success fail_if_success have : Halt 205 := by with_reducible assumption); ((k_here; k_dflt (refine' len_line ?N ?mm ?ii ?ff ?_; (case N => k_asm); (case mm => k_mem); (case ii => assumption); (case ff => assumption); k_whole); intro t' tk'))))
local macro_rules | `(tactic| k_ne) => `(tactic| ((fail_if_success fail_if_success have : Halt 205 := by with_reducible assumption); ((k_whole; first | with_reducible assumption | exact Ne.symm (by with_reducible assumption)))))
local macro_rules | `(tactic| walk_at "call ref") => `(tactic| ((fail_if_success fail_if_success (first | have : Halt 206 := by with_reducible assumption | have : Halt 210 := by with_reducible assumption)); ((k_here; k_dflt (refine' Ct.useP (dmN ?p1 ?p2 ?p3 ?m1 ?m2 ?m3 ?m4 ?m5 ?m6) (by k_asm) (by k_asm) (by k_asm) (by k_asm) (by k_asm) (by first | exact rfl | assumption) (by ktr_room) (by ktr_units) ?_; (case p1 => first | assumption | omega); (case p2 => first | assumption | exact (bits_mid (by omega) (by omega)).1); (case p3 => first | assumption | exact (bits_mid (by omega) (by omega)).2); (case m1 => k_mem); (case m2 => k_mem); (case m5 => assumption); (case m6 => assumption); (case m3 => k_mem); (case m4 => k_mem); k_whole; intro x' t1' t2' h' tk' l1 F' N'; (try k_lt l1); (try k_sweep))))))
local macro_rules | `(tactic| walk_at "compareOp NotEq ref ref") => `(tactic| refine stop_at (n := 13) (by assumption) ?_)
local macro_rules | `(tactic| walk_at "call builtin:sorted") => `(tactic| ((fail_if_success fail_if_success have : Halt 206 := by with_reducible assumption); ((k_here; k_dflt (refine' sorted_line ?F ?N ?hm ?hS ?h64 ?_; (case F => k_asm); (case N => k_asm); (case hm => k_mem); (case hS => assumption); (case h64 => (first | lia | omega)); k_whole); intro D' h' vs' ss' e' F' N' l1 hS' hp' hs'; (try k_lt l1); (try k_sweep)))))
local macro_rules | `(tactic| walk_at "eval ListComp") => `(tactic| refine stop_at (n := 14) (by assumption) ?_)
local macro_rules | `(tactic| walk_at "call ref") => `(tactic| ((fail_if_success fail_if_success have : Halt 207 := by with_reducible assumption); ((k_here; k_dflt (refine' Ct.use (d63 ?p1) (by k_asm) (by k_asm) (by k_asm) (by k_asm) (by k_asm) (by first | exact rfl | assumption) (by ktr_room) (by ktr_units) ?_; (case p1 => assumption); k_whole; intro v' n' h' tk' hP F' N'; obtain ⟨⟨t', e1'⟩, e2'⟩ := hP; subst e1'; subst e2'; (try k_sweep))))))
local macro_rules | `(tactic| walk_at "binaryOp Add str str") => `(tactic| ((fail_if_success fail_if_success have : Halt 207 := by with_reducible assumption); ((refine add_str ?_ ?hsz; (case hsz => (rw [sizeLine_eq]; (first | lia | omega))); intro t' tk'))))
local macro_rules | `(tactic| walk_at "binaryOp Mod int int") => `(tactic| ((fail_if_success fail_if_success have : Halt 208 := by with_reducible assumption); (((with_reducible refine mod_int' ?kbe ?_); (case kbe => first | omega | (split <;> omega))))))
local macro_rules | `(tactic| walk_at "call ref") => `(tactic| ((fail_if_success fail_if_success have : Halt 208 := by with_reducible assumption); ((k_here; k_dflt (refine' Ct.use (d98 ?m1 ?m2 ?m3 ?m4 ?m5 ?m6 ?p1 ?p2 ?p3 ?p4 ?p5 ?p6) (by k_asm) (by k_asm) (by k_asm) (by k_asm) (by k_asm) (by first | exact rfl | assumption) (by ktr_room) (by ktr_units) ?_; (case m1 => k_mem); (case m2 => k_mem); (case m5 => assumption); (case m6 => assumption); (case m3 => k_mem); (case m4 => k_mem); (case p1 => omega); (case p2 => omega); (case p3 => omega); (case p4 => omega); (case p5 => omega); (case p6 => omega); k_whole; intro v' n' h' tk' hP F' N'; obtain ⟨R', q', q1', q2', q3', q4', eR', e1', e2', l1⟩ := hP; subst e1'; subst e2'; (try k_lt l1); (try k_sweep))))))
local macro_rules | `(tactic| walk_at "exec Assign cons ListComp") => `(tactic| refine stop_at (n := 20) (by assumption) ?_)
local macro_rules | `(tactic| walk_at "storeName int") => `(tactic| refine stop_at (n := 23) (by assumption) ?_)
local macro_rules | `(tactic| walk_at "binaryOp Mod int int") => `(tactic| ((fail_if_success fail_if_success have : Halt 209 := by with_reducible assumption); (((with_reducible refine mod_int' ?kbe ?_); (case kbe => first | exact ten40 | exact ten6 | omega)))))
local macro_rules | `(tactic| walk_at "binaryOp Mult int int") => `(tactic| refine stop_at (n := 24) (by assumption) ?_)
local macro_rules | `(tactic| walk_at "KCj") => `(tactic| ((fail_if_success fail_if_success have : Halt 209 := by with_reducible assumption); ((kpf_tidy; (refine kcj_end ?kce (by with_unfolding_all rfl) rfl (by assumption) (by assumption) (by kcj_in)); (case kce => kpf_eq)))))
local macro_rules | `(tactic| walk_at "exec For Name List cons nil") => `(tactic| refine stop_at (n := 25) (by assumption) ?_)
local macro_rules | `(tactic| walk_at "compareOp NotEq ref ref") => `(tactic| ((fail_if_success fail_if_success (first | have : Halt 210 := by with_reducible assumption | have : Halt 211 := by with_reducible assumption)); ((k_here; k_dflt (refine' ne_tups ?N ?ha ?hb ?hi ?hj ?hu ?e ?_; (case N => k_asm); (case ha => k_mem); (case hb => k_mem); (case hi => repeat (first | exact IntsAre.nil | apply IntsAre.cons)); (case hj => repeat (first | exact IntsAre.nil | apply IntsAre.cons)); (case hu => units_room); (case e => with_reducible assumption); k_whole)))))
local macro_rules | `(tactic| walk_at "exec Assign cons Tuple") => `(tactic| refine stop_at (n := 27) (by assumption) ?_)
local macro_rules | `(tactic| walk_at "exec Assign cons IfExp") => `(tactic| refine stop_at (n := 61) (by assumption) ?_)
local macro_rules | `(tactic| walk_at "binaryOp Mult int int") => `(tactic| ((fail_if_success fail_if_success have : Halt 211 := by with_reducible assumption); (((with_reducible refine mul_int ?_ ?kb2); (case kb2 => with_reducible assumption)))))
local macro_rules | `(tactic| walk_at "binaryOp Pow int int") => `(tactic| ((fail_if_success fail_if_success have : Halt 211 := by with_reducible assumption); (((with_reducible refine pow_int_small ?pa ?pb ?pc ?_); (case pa => decide); (case pb => decide); (case pc => decide)))))
set_option maxRecDepth 100000 in
set_option maxHeartbeats 0 in
theorem lawAll : PySem.Challenge.rw_ph0105_01.Holds := hd (by
  k_go0
  (all_goals try k_fold)
  have hpart := halt 200
  rename (List Int) => ns
  have f0 := fmod_pos (x := (if (0 : Int) < (ns.length : Int) then ns.getD (Int.toNat 0) 0 else 10)) (b := 14) (by decide)
  have f2 := fmod_pos (x := (if (2 : Int) < (ns.length : Int) then ns.getD (Int.toNat 2) 0 else 1)) (b := 3) (by decide)
  have hh2 := halt 43
  k_steps
  refine stop_in ?_
  refine add_gen ?_
  intro ring tr0 hring
  have r1 : 3 ≤ ring := by omega
  have r2 : ring ≤ 16 := by omega
  clear hring f0
  have f1 := fmod_pos (x := (if (1 : Int) < (ns.length : Int) then ns.getD (Int.toNat 1) 0 else 4)) (b := ring - 1) (by omega)
  have f3 := fmod_pos (x := (if (3 : Int) < (ns.length : Int) then ns.getD (Int.toNat 3) 0 else 16)) (b := 3 * ring) (by omega)
  k_steps
  refine stop_in ?_
  refine add_gen ?_
  intro step ts0 hstep
  have s1 : 1 ≤ step := by omega
  have s2 : step < ring := by omega
  clear hstep f1
  k_steps
  refine stop_in ?_
  refine add_gen ?_
  intro size tz0 hsize
  generalize hround : (if (2 : Int) < (ns.length : Int) then ns.getD (Int.toNat 2) 0 else 1).fmod 3 = rnd at f2 hsize
  clear hround
  obtain ⟨q1, q2⟩ := f2
  have z1 : 1 ≤ size := by have := Int.mul_nonneg (show 0 ≤ ring by omega) q1; omega
  have z2 : size ≤ 47 := by have := Int.mul_le_mul (a := ring) (b := rnd) (c := 16) (d := 2) r2 (by omega) q1 (by decide); omega
  replace hsize := hsize.symm
  k_steps
  refine stop_in ?_
  refine add_gen ?_
  intro first tf0 hfirst
  have e1 : 1 ≤ first := by omega
  have e2 : first ≤ 3 * ring := by omega
  clear hfirst f3 hh2
  have hh := halt 2
  k_steps
  rename Fr _ _ _ _ => F1
  rename News _ _ _ _ => N1
  rename (_ = Data.cell (some (Value.int step _))) => d1
  rename (_ = Data.cell (some (Value.int ring _))) => d2
  replace d1 := Exists.intro (p := fun t => _ = Data.cell (some (Value.int step t))) _ d1
  replace d2 := Exists.intro (p := fun t => _ = Data.cell (some (Value.int ring t))) _ d2
  (try dsimp only at N1)
  (try dsimp only at d1)
  (try dsimp only at d2)
  rename Shared => s₁
  have hc : ∃ oS oR : Obj, (∃ t, oS.data = Data.cell (some (Value.int step t))) ∧ (∃ t, oR.data = Data.cell (some (Value.int ring t))) ∧ News (ghostOf s₁.heap [(41, 37), (34, 30)]) s₁.heap.objs.size _ [(s₁.heap.objs.size + 1 + 1, oS), (s₁.heap.objs.size + 1, oR), (37, tabObj #[]), (30, tabObj #[])] := ⟨_, _, d1, d2, N1⟩
  clear d1 d2 N1
  obtain ⟨oS, oR, ⟨t1, d1⟩, ⟨t2, d2⟩, N1⟩ := hc
  rename Heap.IsList (ghostOf _ _) _ _ => hl
  rename IntsAre _ ns => hi
  have F2 := fr_ps [(Str.ofString "script", .ref _), (Str.ofString "size", .int size _), (Str.ofString "first", .int first _)] F1 (by kst_all)
  have F3 : ∃ (lsc : Addr) (vsc : List Value), Heap.IsList (ghostOf s₁.heap [(41, 37), (34, 30)]) lsc vsc.toArray ∧ IntsAre vsc ns ∧ ∃ (tsz tfi : Tok) (u : Str → Option Value), Fr (ghostOf s₁.heap [(41, 37), (34, 30)]) s₁.heap.objs.size _ (kstB u [(Str.ofString "script", .ref lsc), (Str.ofString "size", .int size tsz), (Str.ofString "first", .int first tfi)]) := ⟨_, _, hl, hi, _, _, F2⟩
  clear F2 hl
  obtain ⟨lsc, vsc, hl, hi, tsz, tfi, u1, F2⟩ := F3
  clear F1
  rename (Shared.gens _ = #[]) => hg0
  have hb0 := AllBare.of_eq hg0
  clear hh
  (try (rename Flt.MathXP _ _ _ => hx; clear hx))
  (try (rename LooseAre _ _ _ => hx; clear hx))
  (try (rename TopE _ _ _ _ => hx; clear hx))
  (try (rename TopW _ _ _ => hx; clear hx))
  (try (rename Tables _ _ _ _ => hx; clear hx))
  (try (rename Dflts _ _ _ => hx; clear hx))
  clear hpart
  as_aux_lemma =>
    w_top off
    have hpart := halt 201
    refine stop_in ?_
    have hold := Kept.mk (And.intro e1 (And.intro e2 (And.intro z1 (And.intro z2 (And.intro hsize (And.intro q1 q2))))))
    clear e1 e2 z1 z2 hsize q1 q2
    have hh := halt 3
    k_steps
    clear hh
    rename (IntsAre _ (List.foldl _ _ _)) => hI8
    obtain ⟨o1, o2, o3⟩ := ord_facts r1 r2 s1 s2
    change IntsAre _ (ordL ring step) at hI8
    have hpos : 0 < (ordL ring step).length := List.length_pos_iff.mpr o1
    refine stop_in ?_
    k_dflt (refine' ksa_sub ?k1 ?k2 hI8 (by decide) (by omega) (by decide) ?_ ?k7; (case k1 => k_asm); (case k2 => k_mem); (case k7 => with_unfolding_all rfl); k_whole)
    intro t9
    have ho : (ordL ring step).getD (Int.toNat 0) 0 = ordF ring step := rfl
    rw [ho]
    generalize hord : ordF ring step = order at *
    clear ho hpos
    have hh := halt 4
    k_steps
    clear hh
    obtain ⟨c1, c2⟩ := cnt (x := (if (4 : Int) < (ns.length : Int) then ns.getD (Int.toNat 4) 0 else 4)) o2
    generalize hcount : ((if 3 < order then 3 else order) + (if (4 : Int) < (ns.length : Int) then ns.getD (Int.toNat 4) 0 else 4).fmod (if 1 > order - 2 then 1 else order - 2)) = count at *
    clear hcount hI8
    obtain ⟨e1, e2, z1, z2, hsize, q1, q2⟩ := hold.get
    clear hold
    rename Fr _ _ _ _ => F1
    rename News _ _ _ _ => N1
    obtain ⟨tco, u2, F2⟩ : ∃ (tco : Tok) (u : Str → Option Value), Fr (ghostOf s₁.heap [(41, 37), (34, 30)]) s₁.heap.objs.size _ (kstB u [(Str.ofString "script", .ref lsc), (Str.ofString "size", .int size tsz), (Str.ofString "first", .int first tfi), (Str.ofString "count", .int count tco)]) := ⟨_, fr_ps [(Str.ofString "script", .ref lsc), (Str.ofString "size", .int size tsz), (Str.ofString "first", .int first tfi), (Str.ofString "count", .int count _)] F1 (by kst_all)⟩
    clear F1
    clear hpart
    as_aux_lemma =>
      w_top off
      have hpart := halt 202
      have hpart2 := halt 300
      refine stop_in ?_
      have e3 : first ≤ 100 := by (first | lia | omega)
      have z3 : size ≤ 100 := by (first | lia | omega)
      have g1 := row1 e1 e3 z1 z3 c1
      have g2 := row2 (ring := ring) e1 e3 z1 z3 c1
      have g3 := row3 e1 e3 z1 z3 c1
      have g4 := row4 (ring := ring) e1 e3 z1 z3 c1
      have hh := halt 6
      k_steps
      clear hh
      have hh := halt 7
      refine stop_in ?_
      refine wp_gen ?_
      intro Q9 E9 hQ9 hE9
      refine wpAny_For ?_
      k_steps
      clear hh
      refine stop_in ?_
      rename Fr _ _ _ _ => F3
      rename News _ _ _ _ => N3
      k_dflt (refine' for_list_c [(Str.ofString "script", .ref lsc), (Str.ofString "size", .int size tsz), (Str.ofString "first", .int first tfi), (Str.ofString "count", .int count tco), (Str.ofString "ended", .ref _)] _ ?hh ?hL ?ht F3 N3 ?hps ?hb ?hl ?turn ?done; (case hh => exact rfl); (case hL => exact rfl); (case hps => kst_all); (case hb => assumption); (case hl => k_mem); (case ht => exact go_refs (by intro v hv; (simp only [List.mem_cons, List.not_mem_nil, or_false] at hv); (rcases hv with h | h | h | h) <;> exact ⟨_, h⟩)))
      case turn =>
        intro i v h9 tk9 gens9 I9 o9 u9 hv hb9 F9 N9 ne9
        clear F3 N3
        have hi : i < 4 := (List.getElem?_eq_some_iff.mp hv).1
        have hr := at_led N9 (P := fun led => RowAt led count v) (by
          clear ne9
          match i, hi with
          | 0, _ => (obtain rfl : _ = v := Option.some.inj hv); exact RowAt.of (by k_mem) (by k_mem) (by k_mem) (by repeat (first | with_reducible assumption | exact IntsAre.nil | exact ints_rep' | apply IntsAre.cons | apply IntsAre.append)) (by repeat (first | with_reducible assumption | exact IntsAre.nil | exact ints_rep' | apply IntsAre.cons | apply IntsAre.append)) g1 (head_ne e1) (by (simp only [List.length_cons, List.length_nil]); (first | lia | omega))
          | 1, _ => (obtain rfl : _ = v := Option.some.inj hv); exact RowAt.of (by k_mem) (by k_mem) (by k_mem) (by repeat (first | with_reducible assumption | exact IntsAre.nil | exact ints_rep' | apply IntsAre.cons | apply IntsAre.append)) (by repeat (first | with_reducible assumption | exact IntsAre.nil | exact ints_rep' | apply IntsAre.cons | apply IntsAre.append)) g2 (head_ne e1) (by (simp only [List.length_cons, List.length_nil]); (first | lia | omega))
          | 2, _ => (obtain rfl : _ = v := Option.some.inj hv); exact RowAt.of (by k_mem) (by k_mem) (by k_mem) (by repeat (first | with_reducible assumption | exact IntsAre.nil | exact ints_rep' | apply IntsAre.cons | apply IntsAre.append)) (by repeat (first | with_reducible assumption | exact IntsAre.nil | exact ints_rep' | apply IntsAre.cons | apply IntsAre.append)) g3 (head_ne e1) (by (simp only [List.length_append, List.length_replicate, List.length_cons, List.length_nil]); (first | lia | omega))
          | 3, _ => (obtain rfl : _ = v := Option.some.inj hv); exact RowAt.of (by k_mem) (by k_mem) (by k_mem) (by repeat (first | with_reducible assumption | exact IntsAre.nil | exact ints_rep' | apply IntsAre.cons | apply IntsAre.append)) (by repeat (first | with_reducible assumption | exact IntsAre.nil | exact ints_rep' | apply IntsAre.cons | apply IntsAre.append)) g4 (head_ne e1) (by (simp only [List.length_append, List.length_replicate, List.length_cons, List.length_nil]); (first | lia | omega)))
        clear hv hi g1 g2 g3 g4
        refine goal_gen ?_
        intro R7 hR7
        obtain ⟨T9, lr, ld, vr, vd, nr, nd, er, ed, rfl, mT, mr, md, ir, idd, hg9, hh9, hz9⟩ := hr
        refine hR7 ?_
        clear hR7 R7
        (try dsimp only)
        refine turn_gen ?_
        intro R8 hR8
        k_steps
        rename Fr _ _ _ _ => F8
        exact hR8 _ _ (TurnC.of F8 (by kst_all) (cb_drop (by k_asm) (by kcj_in)) (by assumption))
      case done =>
        intro h9 tk9 gens9 u9 hb9 F9 N9
        clear F3 N3
        refine hQ9 _ _ ?_
        (try dsimp only)
        clear hQ9 hE9 Q9 E9
        have hh := halt 5
        k_steps
        clear hh g1 g2 g3 g4
        have N10 : News (ghostOf s₁.heap [(41, 37), (34, 30)]) s₁.heap.objs.size h9 [(s₁.heap.objs.size + 1 + 1, oS), (s₁.heap.objs.size + 1, oR), (37, tabObj #[]), (30, tabObj #[])] := cb_drop N9 (by kcj_in)
        obtain ⟨u10, F10⟩ := fr_ps [(Str.ofString "script", .ref lsc), (Str.ofString "size", .int size tsz), (Str.ofString "first", .int first tfi), (Str.ofString "count", .int count tco)] F9 (by kst_all)
        clear F9 N9
        rename (37 < _ ∧ 30 < _) => l0
        obtain ⟨l01, l02⟩ := l0
        repeat (rename (_ < _ ∧ _) => hx; clear hx)
        clear hpart hpart2
        as_aux_lemma =>
          w_top off
          have hpart := halt 203
          refine stop_in ?_
          refine wpAny_mono (?tr : wpAny _ _ _ (fun f s' => f = .next ∧ ∃ h' tk' gens' u', s' = { s₁ with heap := h', toks := tk', gens := gens' } ∧ Fr (ghostOf s₁.heap [(41, 37), (34, 30)]) s₁.heap.objs.size h' (kstB u' [(Str.ofString "script", .ref lsc), (Str.ofString "size", .int size tsz), (Str.ofString "first", .int first tfi), (Str.ofString "count", .int count tco)]) ∧
            News (ghostOf s₁.heap [(41, 37), (34, 30)]) s₁.heap.objs.size h' [(s₁.heap.objs.size + 1 + 1, oS), (s₁.heap.objs.size + 1, oR), (37, tabObj #[]), (30, tabObj #[])] ∧ AllBare gens') (fun _ _ => False) _) (fun f s' h => ?_) (fun _ _ h => h.elim)
          · clear hpart
            as_aux_lemma =>
              w_top off
              have hpart := halt 204
              (try refine stop_in ?_)
              refine wpAny_Try_except ?_
              have hh := halt 11
              k_steps
              clear hh
              refine stop_in ?_
              rename Fr _ _ _ _ => F20
              rename News _ _ _ _ => N20
              k_dflt (refine' CtR.use (d91r ?hm) ?k1 F20 ?k3 N20 ?k5 ?kK ?kd ?ku ?hb ?_; (case k1 => k_asm); (case k3 => k_asm); (case k5 => k_asm); (case kK => first | exact rfl | assumption); (case hm => k_mem); (case kd => ktr_room); (case ku => ktr_units); (case hb => assumption); k_whole)
              rintro ws e20 t20 g20 h20 tk20 gens20 ⟨tm20, rfl⟩ F21 U21 R21 hb21
              k_dflt (refine' caught_X (T' := "ValueError") ?K F21 U21 R21 ?tpR PyProof.Rows.Boot.«ValueError» PySem.F.isExc_ValueError PySem.F.notTuple_ValueError ?sub ?_ ?h1 ?h2 ?h3 ?h4 ?h4c ?hn ?hk ?hlo ?hx ?hd; (case K => assumption); (case tpR => k_asm); (case sub => (rw [isSubtype_type]; kernel_rfl)); (case h1 => decide +kernel); (case h2 => decide +kernel); (case h3 => decide +kernel); (case h4 => decide +kernel); (case h4c => decide +kernel); (case hn => decide +kernel); (case hk => exact rfl); (case hlo => exact rfl); (case hx => exact rfl); (case hd => decide); k_whole)
              intro h22 news22 tk22 F22 N22 G22 N23
              k_steps
              rename Fr _ _ _ _ => F24
              refine wpAny_nameGoes_keeps rfl F24.ns rfl fun h23 v23 hn23 hs23 => ?_
              have F25 := F24.set hn23 hs23
              have N25 := N23.set hs23
              obtain ⟨u26, F26⟩ := fr_ps [(Str.ofString "script", .ref lsc), (Str.ofString "size", .int size tsz), (Str.ofString "first", .int first tfi), (Str.ofString "count", .int count tco)] F25 (by kst_all)
              exact ⟨rfl, _, _, _, u26, rfl, F26, cb_drop N25 (by kcj_in), hb21⟩
          clear F10 N10
          refine goal_gen ?_
          intro R7 hR7
          obtain ⟨rfl, h11, tk11, gens11, u11, rfl, F11, N11, hb11⟩ := h
          refine hR7 ?_
          clear hR7 R7
          (try dsimp only)
          have e3 : first ≤ 100 := by omega
          have z3 : size ≤ 100 := by omega
          have g5 := row5 e1 e3 z1 z3 c1
          have hh := halt 9
          k_steps
          clear hh
          refine stop_in ?_
          refine wp_gen ?_
          intro Q9 E9 hQ9 hE9
          refine wpAny_For ?_
          have hh := halt 7
          k_steps
          clear hh
          refine stop_in ?_
          rename AllBare _ => hb6
          rename IntsAre _ (first :: List.replicate (count - 1).toNat size) => hI6
          rename Fr _ _ _ _ => F6
          rename News _ _ _ _ => N6
          rename (_ < _ ∧ _) => lt6
          refine goal_gen ?_
          intro R7 hR7
          obtain ⟨PL, TX, D6, vs6, e6, tk6, tr6, u6, hD6, hI6, F7, N7, l6⟩ : ∃ (PL TX D : Addr) (vs : List Value) (e : Nat) (tm tr : Tok) (u : Str → Option Value), D = _ ∧ IntsAre vs (first :: List.replicate (count - 1).toNat size) ∧
              Fr (ghostOf s₁.heap [(41, 37), (34, 30)]) s₁.heap.objs.size _ (kstB u [(Str.ofString "mark", .int 0 tm), (Str.ofString "rounds", .int 0 tr), (Str.ofString "places", .ref PL), (Str.ofString "texts", .ref TX), (Str.ofString "script", .ref lsc), (Str.ofString "size", .int size tsz), (Str.ofString "first", .int first tfi), (Str.ofString "count", .int count tco)]) ∧
              News (ghostOf s₁.heap [(41, 37), (34, 30)]) s₁.heap.objs.size _ [(30, tabObj #[]), (37, tabObj #[]), (PL, listOf #[] 0), (TX, listOf #[] 0), (D, listOf vs.toArray e), (s₁.heap.objs.size + 1 + 1, oS), (s₁.heap.objs.size + 1, oR)] ∧
              (ltT PL TX ∧ ltT TX D ∧ ltT (s₁.heap.objs.size + 1 + 1) PL ∧ ltT (s₁.heap.objs.size + 1) PL ∧ ltT 37 PL ∧ ltT 30 PL) := by
            obtain ⟨u, F7⟩ := fr_ps [(Str.ofString "mark", .int 0 _), (Str.ofString "rounds", .int 0 _), (Str.ofString "places", .ref _), (Str.ofString "texts", .ref _), (Str.ofString "script", .ref lsc), (Str.ofString "size", .int size tsz), (Str.ofString "first", .int first tfi), (Str.ofString "count", .int count tco)] F6 (by kst_all)
            exact ⟨_, _, _, _, _, _, _, _, rfl, hI6, F7, cb_drop N6 (by kcj_in), ⟨by unfold ltT; omega, lt6.2.2.1, by unfold ltT; omega, by unfold ltT; omega, by unfold ltT; omega, by unfold ltT; omega⟩⟩
          clear F6 N6
          subst hD6
          refine hR7 ?_
          clear hR7 R7
          unfold ltT at l6
          have kp := Kept.mk l6
          clear l6
          repeat (rename (_ < _ ∧ _) => hx; clear hx)
          have l6 := kp.get
          clear kp
          clear hpart
          as_aux_lemma =>
            w_top off
            have hpart := halt 205
            have far := fun x hx => far_of l6.1 l6.2.1 l6.2.2.2.2.1 (show 37 < s₁.heap.objs.size + 1 by (first | lia | omega)) x hx
            have f48 : first ≤ 48 := le48 e2 r2
            have n16 := cnt16 c2 o3 r2
            have cc1 := c1
            have rpos : 0 < ring := Int.lt_of_lt_of_le (by decide) r1
            have rne : ring ≠ 0 := Int.ne_of_gt rpos
            have hold := Kept.mk (And.intro s1 (And.intro s2 (And.intro o2 (And.intro hsize hord))))
            clear s1 s2 o2 hsize hord
            k_dflt (refine' for_list_s (l := D6) (vs := vs6) (e := e6) (fun c : SM => [(Str.ofString "mark", .int c.mark c.tm), (Str.ofString "rounds", .int c.rd c.tr), (Str.ofString "places", .ref PL), (Str.ofString "texts", .ref TX), (Str.ofString "script", .ref lsc), (Str.ofString "size", .int size tsz), (Str.ofString "first", .int first tfi), (Str.ofString "count", .int count tco)]) (fun c => (30, tabObj c.p30) :: (37, tabObj c.p37) :: (PL, listOf c.plv.toArray c.ep) :: (TX, listOf c.txv.toArray c.et) :: (D6, listOf vs6.toArray e6) :: (s₁.heap.objs.size + 1 + 1, oS) :: (s₁.heap.objs.size + 1, oR) :: c.codes) (PM first size ring PL TX) ⟨0, _, 0, _, [], 0, [], 0, #[], #[], default, default, default, default, []⟩ ?hh ?hL ?ht F7 N7 ?ps ?hb ?P ?l ?turn ?done; (case hh => exact rfl); (case hL => exact rfl); (case ht => exact go_name); (case hb => assumption); (case ps => kst_all); (case l => exact fun _ => .tail _ (.tail _ (.tail _ (.tail _ (.head _))))))
            case P => exact ⟨rfl, by rw [mk_zero]; exact (Int.zero_fdiv _).symm, .nil, rfl, .nil, rfl, .inl rfl, .inl rfl, (fun q hq => nomatch hq), fun q => absurd rfl q⟩
            case turn =>
              rintro i v ⟨mark9, tm9, rd9, tr9, plv9, ep9, txv9, et9, p30, p37, c0, c1, o0, o1, codes⟩ h9 tk9 gens9 I9 o9 u9 hv hPM hb9 hdat F9 N9 ne9
              refine goal_gen ?_
              intro R7 hR7
              obtain ⟨hmark, hrd, hpl, hpll, htx, htxl, st30, st37, hne, hfill⟩ := hPM
              dsimp only at hmark hrd hpl hpll htx htxl st30 st37 hne F9 N9 ne9
              clear F7 N7
              subst hmark
              subst hrd
              obtain ⟨x9, t9, rfl, hx9⟩ := ints_get hI6 hv
              refine hR7 ?_
              clear hR7 R7
              (try dsimp only)
              refine turn_gen ?_
              intro R8 hR8
              have hi9 : i < count.toNat := by
                have h1 := (List.getElem?_eq_some_iff.mp hx9).1
                simp only [List.length_cons, List.length_replicate] at h1
                exact idx_lt cc1 h1
              have hx10 := told_at hx9
              have mb1 := mk_bounds (i := i) e1 f48 z1 z2 (Nat.le_trans (Nat.le_of_lt hi9) (Nat.le_trans n16 (by decide)))
              have mb2 := mk_bounds (i := i + 1) e1 f48 z1 z2 (Nat.le_trans hi9 (Nat.le_trans n16 (by decide)))
              have mks := mk_succ (first := first) (size := size) i
              rw [← hx10] at mks
              rw [mks] at mb2
              obtain ⟨mb3, mb4, -⟩ := mb2
              clear e1 e2 z1 z2 o3 c2 f48 mb1
              generalize hm0 : mk first size i = m0 at *
              have hh := halt 11
              k_steps
              clear hh
              refine stop_in ?_
              have hne30 : ∀ q ∈ ((I9, o9) :: (PL, listOf plv9.toArray ep9) :: (TX, listOf txv9.toArray et9) :: (D6, listOf vs6.toArray e6) :: (s₁.heap.objs.size + 1 + 1, oS) :: (s₁.heap.objs.size + 1, oR) :: codes : Led), q.1 ≠ 30 :=
                List.forall_mem_cons.mpr ⟨fun q => ne9 _ (.head _) q.symm, List.forall_mem_cons.mpr ⟨neN (far 30 (by decide)).1, List.forall_mem_cons.mpr ⟨neN (far 30 (by decide)).2.1, List.forall_mem_cons.mpr ⟨neN (far 30 (by decide)).2.2.1, List.forall_mem_cons.mpr ⟨neN (far 30 (by decide)).2.2.2.1, List.forall_mem_cons.mpr ⟨neN (far 30 (by decide)).2.2.2.2, fun q hq => (hne q hq).1⟩⟩⟩⟩⟩⟩
              have hne37 : ∀ q ∈ ((I9, o9) :: (PL, listOf plv9.toArray ep9) :: (TX, listOf txv9.toArray et9) :: (D6, listOf vs6.toArray e6) :: (s₁.heap.objs.size + 1 + 1, oS) :: (s₁.heap.objs.size + 1, oR) :: codes : Led), q.1 ≠ 37 :=
                List.forall_mem_cons.mpr ⟨fun q => ne9 _ (.tail _ (.head _)) q.symm, List.forall_mem_cons.mpr ⟨neN (far 37 (by decide)).1, List.forall_mem_cons.mpr ⟨neN (far 37 (by decide)).2.1, List.forall_mem_cons.mpr ⟨neN (far 37 (by decide)).2.2.1, List.forall_mem_cons.mpr ⟨neN (far 37 (by decide)).2.2.2.1, List.forall_mem_cons.mpr ⟨neN (far 37 (by decide)).2.2.2.2, fun q hq => (hne q hq).2.1⟩⟩⟩⟩⟩⟩
              k_dflt (refine' Ct.useR (d56 (rest := (I9, o9) :: (PL, listOf plv9.toArray ep9) :: (TX, listOf txv9.toArray et9) :: (D6, listOf vs6.toArray e6) :: (s₁.heap.objs.size + 1 + 1, oS) :: (s₁.heap.objs.size + 1, oR) :: codes) (p30 := p30) (p37 := p37) (c0 := c0) (o0 := o0) (c1 := c1) (o1 := o1) ?p1 ?p2 ?p3 hne30 hne37 (st30.mono ?p4) (st37.mono ?p5)) ?k1 ?k2 ?k3 ?k4 ?kS ?k5 ?kK ?kd ?ku ?_; (case k1 => k_asm); (case k2 => k_asm); (case k3 => k_asm); (case k4 => k_asm); (case kS => kcj_in); (case k5 => k_asm); (case kK => first | exact rfl | assumption); (case p1 => exact rne); (case p2 => exact (bits_mid (Int.le_trans (by decide) mb3) (Int.le_trans mb4 (by decide))).1); (case p3 => exact (bits_mid (Int.le_trans (by decide) (Int.le_of_lt rpos)) (Int.le_trans r2 (by decide))).2); (case p4 => exact fun q hq => .tail _ (.tail _ (.tail _ (.tail _ (.tail _ (.tail _ hq)))))); (case p5 => exact fun q hq => .tail _ (.tail _ (.tail _ (.tail _ (.tail _ (.tail _ hq)))))); (case kd => ktr_room); (case ku => ktr_units); k_whole)
              intro v6 n6 h6 tk6 hP6 F6 N6
              refine goal_gen ?_
              intro R7 hR7
              obtain ⟨t, t1, t2, c, oc, d, od, rfl, rfl, g1, g2, g3, g4, lt⟩ := hP6
              refine hR7 ?_
              clear hR7 R7
              k_lt lt
              k_sweep
              have kd := fdivmod_pos (a := m0 + x9) (b := ring) rpos
              have kq0 : 0 ≤ (m0 + x9).fdiv ring := Int.fdiv_nonneg mb3 (Int.le_of_lt rpos)
              have kq1 : (m0 + x9).fdiv ring * 1 ≤ (m0 + x9).fdiv ring * ring := Int.mul_le_mul_of_nonneg_left rpos kq0
              generalize hrq : (m0 + x9).fdiv ring = rq at *
              generalize hpq : (m0 + x9).fmod ring = pq at *
              obtain ⟨kd1, kd2, kd3⟩ := kd
              have hmul : IntMulOk rq ring := mulOk_small (Int.le_trans (by decide) kq0) (rq_le kq1 kd1 kd2 mb4) (Int.le_trans (by decide) (Int.le_of_lt rpos)) (Int.le_trans r2 (by decide))
              clear kq1
              have hcc1 : ¬ ((rq * ring + pq != m0 + x9) = true) := by simpa using kd1
              have hcc2 : ¬ (decide (pq < 0) = true) := by simpa using kd2
              have hcc3 : ¬ (decide (pq ≥ ring) = true) := by simpa using kd3
              have nI1 : neT TX I9 := ne9 _ (.tail _ (.tail _ (.tail _ (.head _))))
              have nI2 : neT PL I9 := ne9 _ (.tail _ (.tail _ (.head _)))
              have nc1 : neT TX c := code_ne N6 (.tail _ (.tail _ (.tail _ (.tail _ (.tail _ (.tail _ (.tail _ (.head _)))))))) (.tail _ (.head _)) g1
              have nc2 : neT PL c := code_ne N6 (.tail _ (.tail _ (.tail _ (.tail _ (.tail _ (.tail _ (.head _))))))) (.tail _ (.head _)) g1
              have nd1 : neT TX d := code_ne N6 (.tail _ (.tail _ (.tail _ (.tail _ (.tail _ (.tail _ (.tail _ (.head _)))))))) (.tail _ (.tail _ (.head _))) g2
              have nd2 : neT PL d := code_ne N6 (.tail _ (.tail _ (.tail _ (.tail _ (.tail _ (.tail _ (.head _))))))) (.tail _ (.tail _ (.head _))) g2
              unfold neT at nI1 nI2 nc1 nc2 nd1 nd2
              have hcT : ∀ q ∈ codes, q.1 ≠ TX := fun q hq => (hne q hq).2.2.2
              have hcP : ∀ q ∈ codes, q.1 ≠ PL := fun q hq => (hne q hq).2.2.1
              have hz1 : txv9.length ≤ 20000 := by (first | lia | omega)
              have hz2 : plv9.length ≤ 20000 := by (first | lia | omega)
              have hz3 : ((plsF first size ring i).length : Int) ≤ 20000 := by rw [← hpl.length]; (first | lia | omega)
              k_steps
              rename Fr _ _ _ _ => F8
              rename News _ _ _ _ => N8
              have s30 : TabSt 32 4 q30 [(c, oc), (d, od)] #[rawInt ((32 : Nat) : Int), rawInt ((4 : Nat) : Int), .ref c] c oc := .inr ⟨rfl, .head _, g1⟩
              have s37 : TabSt 47 4 q37 [(c, oc), (d, od)] #[rawInt ((47 : Nat) : Int), rawInt ((4 : Nat) : Int), .ref d] d od := .inr ⟨rfl, .tail _ (.head _), g2⟩
              have xc30 : c ≠ 30 := ne_of_data N8 (.tail _ (.head _)) (.tail _ (.tail _ (.tail _ (.head _)))) (code_ne_tab g1 s30)
              have xc37 : c ≠ 37 := ne_of_data N8 (.tail _ (.head _)) (.tail _ (.tail _ (.tail _ (.tail _ (.head _))))) (code_ne_tab g1 s37)
              have xd30 : d ≠ 30 := ne_of_data N8 (.tail _ (.tail _ (.head _))) (.tail _ (.tail _ (.tail _ (.head _)))) (code_ne_tab g2 s30)
              have xd37 : d ≠ 37 := ne_of_data N8 (.tail _ (.tail _ (.head _))) (.tail _ (.tail _ (.tail _ (.tail _ (.head _))))) (code_ne_tab g2 s37)
              have xcI : c ≠ I9 := ne_of_data N8 (.tail _ (.head _)) (.tail _ (.tail _ (.tail _ (.tail _ (.tail _ (.head _)))))) (code_ne_iter g1 hdat)
              have xdI : d ≠ I9 := ne_of_data N8 (.tail _ (.tail _ (.head _))) (.tail _ (.tail _ (.tail _ (.tail _ (.tail _ (.head _)))))) (code_ne_iter g2 hdat)
              rw [plsF_len, txt_eq kd2 (by (first | lia | omega)) (by (first | lia | omega))] at N8
              refine hR8 _ _ (TurnS.of ⟨m0 + x9, _, rq, _, plv9 ++ [.int pq t2], ep9 + 1, txv9 ++ [.str (txt pq i) _], et9 + 1, #[rawInt ((32 : Nat) : Int), rawInt ((4 : Nat) : Int), .ref c], #[rawInt ((47 : Nat) : Int), rawInt ((4 : Nat) : Int), .ref d], c, d, oc, od, [(c, oc), (d, od)]⟩ F8 (by kst_all) (cb_drop N8 (by kcj_in)) ?_ hb9 ⟨mks.symm, ?_, ?_, ?_, ?_, ?_, s30, s37, ?_, fun _ => ⟨by simp, by simp⟩⟩)
              · exact List.forall_mem_cons.mpr ⟨ne9 (30, tabObj p30) (.head _), List.forall_mem_cons.mpr ⟨ne9 (37, tabObj p37) (.tail _ (.head _)), List.forall_mem_cons.mpr ⟨nI2, List.forall_mem_cons.mpr ⟨nI1, List.forall_mem_cons.mpr ⟨ne9 _ (.tail _ (.tail _ (.tail _ (.tail _ (.head _))))), List.forall_mem_cons.mpr ⟨ne9 _ (.tail _ (.tail _ (.tail _ (.tail _ (.tail _ (.head _)))))), List.forall_mem_cons.mpr ⟨ne9 _ (.tail _ (.tail _ (.tail _ (.tail _ (.tail _ (.tail _ (.head _))))))), List.forall_mem_cons.mpr ⟨xcI, List.forall_mem_cons.mpr ⟨xdI, fun q hq => nomatch hq⟩⟩⟩⟩⟩⟩⟩⟩⟩
              · show rq = (mk first size (i + 1)).fdiv ring
                rw [mks, hrq]
              · rw [plsF_succ, mks, hpq]
                exact ints_snoc hpl
              · simp [hpll]
              · rw [txsF_succ, mks, hpq]
                exact strs_snoc htx
              · simp [htxl]
              · exact List.forall_mem_cons.mpr ⟨⟨xc30, xc37, fun e => nc2 e.symm, fun e => nc1 e.symm⟩, List.forall_mem_cons.mpr ⟨⟨xd30, xd37, fun e => nd2 e.symm, fun e => nd1 e.symm⟩, fun q hq => nomatch hq⟩⟩
            case done =>
              rintro ⟨mark9, tm9, rd9, tr9, plv9, ep9, txv9, et9, p30, p37, c0, c1, o0, o1, codes⟩ h9 tk9 gens9 u9 ⟨hmark, hrd, hpl, hpll, htx, htxl, st30, st37, hne, hfill⟩ hb9 F9 N9
              have hlen : vs6.length = count.toNat := by rw [hI6.length]; simp; (first | lia | omega)
              rw [hlen] at hmark hrd hpl hpll htx htxl hfill
              dsimp only at hmark hrd hpl hpll htx htxl st30 st37 hne hfill F9 N9
              (try dsimp only)
              clear F7 N7
              subst hmark
              subst hrd
              obtain ⟨rfl, m30, cf30⟩ := st30.resolve_left (hfill (by (first | lia | omega))).1
              obtain ⟨rfl, m37, cf37⟩ := st37.resolve_left (hfill (by (first | lia | omega))).2
              have N10 : News (ghostOf s₁.heap [(41, 37), (34, 30)]) s₁.heap.objs.size h9 [(30, tab30 c0), (37, tab37 c1), (c0, o0), (c1, o1), (PL, listOf plv9.toArray ep9), (TX, listOf txv9.toArray et9), (s₁.heap.objs.size + 1 + 1, oS), (s₁.heap.objs.size + 1, oR)] := cb_drop N9 (by
                refine List.forall_mem_cons.mpr ⟨.head _, List.forall_mem_cons.mpr ⟨.tail _ (.head _), List.forall_mem_cons.mpr ⟨.tail _ (.tail _ (.tail _ (.tail _ (.tail _ (.tail _ (.tail _ m30)))))), List.forall_mem_cons.mpr ⟨.tail _ (.tail _ (.tail _ (.tail _ (.tail _ (.tail _ (.tail _ m37)))))), ?_⟩⟩⟩⟩
                kcj_in)
              obtain ⟨u10, F10⟩ := fr_ps [(Str.ofString "mark", .int (mk first size count.toNat) tm9), (Str.ofString "rounds", .int ((mk first size count.toNat).fdiv ring) tr9), (Str.ofString "places", .ref PL), (Str.ofString "texts", .ref TX), (Str.ofString "script", .ref lsc), (Str.ofString "count", .int count tco)] F9 (by kst_all)
              clear F9 N9 m30 m37 hne hfill hlen hI6
              obtain ⟨s1, s2, o2, hsize, hord⟩ := hold.get
              clear hold far f48 n16 rpos rne cc1
              refine hQ9 _ _ ?_
              (try dsimp only)
              clear hQ9 hE9 Q9 E9
              clear hpart
              as_aux_lemma =>
                w_top off
                have hpart := halt 206
                repeat (rename (_ < _ ∧ _) => hx; clear hx)
                have mb := mk_bounds (i := count.toNat) e1 (show first ≤ 48 by (first | lia | omega)) z1 z2 (by (first | lia | omega))
                have mb1 := mb.2.2 (by (first | lia | omega))
                have hh := halt 13
                k_steps
                refine stop_in ?_
                k_dflt (refine' ne_tups ?N ?ha ?hb ?hi ?hj ?hu (cmp1 (first := first) (size := size) (ring := ring) (n := count.toNat) (by (first | lia | omega)) (by (first | lia | omega))) ?_; (case N => k_asm); (case ha => k_mem); (case hb => k_mem); (case hi => repeat (first | exact IntsAre.nil | apply IntsAre.cons)); (case hj => repeat (first | exact IntsAre.nil | apply IntsAre.cons)); (case hu => units_room); k_whole)
                k_steps
                clear hh
                refine stop_in ?_
                k_dflt (refine' ne_tups ?N ?ha ?hb ?hi ?hj ?hu (cmp2 (m := mk first size count.toNat)) ?_; (case N => k_asm); (case ha => k_mem); (case hb => k_mem); (case hi => repeat (first | exact IntsAre.nil | apply IntsAre.cons)); (case hj => repeat (first | exact IntsAre.nil | apply IntsAre.cons)); (case hu => units_room); k_whole)
                have hh2 := halt 14
                k_steps
                clear hh2
                refine stop_in ?_
                refine LCg.ListComp_U (by k_asm) rfl (by decide) rfl (by decide) rfl ?_
                k_steps
                refine LCg.CompSrc.ledger rfl (by k_asm) (by k_asm) (by k_mem) (by rw [sizeLine_eq, List.size_toArray]; (first | lia | omega)) ?_
                intro g9
                refine comp_rest (fun i y => ∃ x u, (txsF first size ring count.toNat)[i]? = some x ∧ y = .str x u) ?_ ?_
                · intro i v I9 oI9 C9 oC9 D9 m9 ys9 h9' tk9' E9 hi9 hv9 hC9 hx9 F9 N9 off9 nes9
                  obtain ⟨x9, t9, rfl, hx9'⟩ := strs_get htx (by simpa using hv9)
                  k_steps
                  exact LCg.CompEnd.intro (by k_asm) (by k_asm) _ (fun p hp => hp) off9 (.inr ⟨_, by k_mem, rfl, _, rfl⟩) ⟨rfl, _, _, hx9', rfl⟩
                · intro ys hyl hy
                  rw [List.size_toArray, htxl] at hyl
                  have hss := strs_of (by rw [txsF_len]; exact hyl) hy
                  intro D9 h9' tk9' F9 N9 off9
                  have hh := halt 13
                  k_steps
                  clear hh
                  refine stop_in ?_
                  k_dflt (refine' ne_strs2 ?N ?ha ?hb ?hi ?hj ?he ?hok ?hu ?_; (case N => k_asm); (case ha => k_mem); (case hb => k_mem); (case hi => assumption); (case hj => assumption); (case he => exact sorted_uniq r1 r2 s1 s2 hsize (hord ▸ c2) (by assumption) (by assumption) (by assumption) (by assumption)); (case hok => exact perm_ok (by assumption) (txsF_ok (by (first | lia | omega)) r2 (by (first | lia | omega)))); (case hu => units_room); k_whole)
                  have hh := halt 9
                  k_steps
                  clear hh
                  rename Fr _ _ _ _ => F8
                  rename News _ _ _ _ => N8
                  refine goal_gen ?_
                  intro R7 hR7
                  obtain ⟨LN, lv, le, ss, ⟨u12, F12⟩, N12, hSl, hpl', hsl⟩ : ∃ (LN : Addr) (lv : List Value) (le : Nat) (ss : List Str), (∃ u, Fr (ghostOf s₁.heap [(41, 37), (34, 30)]) s₁.heap.objs.size _ (kstB u [(Str.ofString "line", .ref LN), (Str.ofString "mark", .int (mk first size count.toNat) tm9), (Str.ofString "rounds", .int ((mk first size count.toNat).fdiv ring) tr9), (Str.ofString "places", .ref PL), (Str.ofString "script", .ref lsc), (Str.ofString "count", .int count tco)])) ∧
                      News (ghostOf s₁.heap [(41, 37), (34, 30)]) s₁.heap.objs.size _ [(LN, listOf lv.toArray le), (30, tab30 c0), (37, tab37 c1), (c0, o0), (c1, o1), (PL, listOf plv9.toArray ep9), (s₁.heap.objs.size + 1 + 1, oS), (s₁.heap.objs.size + 1, oR)] ∧
                      StrsAre lv ss ∧ ss.Perm (txsF first size ring count.toNat) ∧ sortedS ss = true := by
                    exact ⟨_, _, _, _, fr_ps [(Str.ofString "line", .ref _), (Str.ofString "mark", .int (mk first size count.toNat) tm9), (Str.ofString "rounds", .int ((mk first size count.toNat).fdiv ring) tr9), (Str.ofString "places", .ref PL), (Str.ofString "script", .ref lsc), (Str.ofString "count", .int count tco)] F8 (by kst_all), cb_drop N8 (by kcj_in), by assumption, by assumption, by assumption⟩
                  obtain ⟨restL, m30, m37, mc0, mc1, mPL, mS, mR, N12⟩ : ∃ restL : Led, (30, tab30 c0) ∈ restL ∧ (37, tab37 c1) ∈ restL ∧ (c0, o0) ∈ restL ∧ (c1, o1) ∈ restL ∧ (PL, listOf plv9.toArray ep9) ∈ restL ∧ (s₁.heap.objs.size + 1 + 1, oS) ∈ restL ∧ (s₁.heap.objs.size + 1, oR) ∈ restL ∧
                      News (ghostOf s₁.heap [(41, 37), (34, 30)]) s₁.heap.objs.size _ ((LN, listOf lv.toArray le) :: restL) :=
                    ⟨[(30, tab30 c0), (37, tab37 c1), (c0, o0), (c1, o1), (PL, listOf plv9.toArray ep9), (s₁.heap.objs.size + 1 + 1, oS), (s₁.heap.objs.size + 1, oR)], by k_mem, by k_mem, by k_mem, by k_mem, by k_mem, by k_mem, by k_mem, N12⟩
                  refine hR7 ?_
                  clear hR7 R7
                  clear F8 N8
                  clear hpart
                  as_aux_lemma =>
                    w_top off
                    have hpart := halt 207
                    have hpart2 := halt 300
                    have mbK := Kept.mk mb
                    clear mb
                    (try clear htxl)
                    repeat (rename (_ < _ ∧ _) => hx; clear hx)
                    have hlv : lv.length = count.toNat := by rw [hSl.len_eq, hpl'.length_eq, txsF_len]
                    have hssl : ss.length = count.toNat := by rw [hpl'.length_eq, txsF_len]
                    refine stop_in ?_
                    refine wp_gen ?_
                    intro Q9 E9 hQ9 hE9
                    refine wpAny_For ?_
                    have hh := halt 7
                    k_steps
                    clear hh
                    refine stop_in ?_
                    rename IsRange _ _ _ _ _ _ _ _ => hrg
                    rename Fr _ _ _ _ => F13
                    rename News _ _ _ _ => N13
                    k_dflt (refine' for_range_v (σ := Unit) (n := (count - 1).toNat) (fun _ => [(Str.ofString "line", .ref LN), (Str.ofString "mark", .int (mk first size count.toNat) tm9), (Str.ofString "rounds", .int ((mk first size count.toNat).fdiv ring) tr9), (Str.ofString "places", .ref PL), (Str.ofString "script", .ref lsc), (Str.ofString "count", .int count tco)]) (fun _ => (LN, listOf lv.toArray le) :: restL) (fun _ _ => True) () ?hh hrg ?hsm ?hsz ?hL ?hx ?hp F13 N13 ?ps ?P ?_ ?_; (case hh => exact rfl); (case hL => exact rfl); (case hx => exact rfl); (case hp => exact rfl); (case ps => kst_all))
                    case hsm => exact small_one (by (first | lia | omega)) (by (first | lia | omega)) (by (first | lia | omega)) (by (first | lia | omega))
                    case hsz => (rw [rangeSize_nat, Int.sub_zero])
                    case P => trivial
                    · rintro i t ⟨⟩ h9 tk9 I9 o9 u9 hi9 - F9 N9 ne9
                      (try dsimp only at F9)
                      (try dsimp only at N9)
                      (try dsimp only at ne9)
                      (try dsimp only)
                      clear F13 N13 hrg
                      rw [Int.zero_add] at F9
                      have i1 : i < ss.length := by (first | lia | omega)
                      have i2 : i + 1 < ss.length := by (first | lia | omega)
                      have hx := line_lt r1 r2 s1 s2 hsize (hord ▸ c2) hpl' hsl (List.getElem?_eq_getElem i1) (List.getElem?_eq_getElem i2)
                      have gx : ss.getD ((i : Nat) : Int).toNat Str.empty = ss[i] := by rw [Int.toNat_natCast, List.getD_eq_getElem?_getD, List.getElem?_eq_getElem i1]; rfl
                      have gy : ss.getD (((i : Nat) : Int) + 1).toNat Str.empty = ss[i + 1] := by rw [show (((i : Nat) : Int) + 1).toNat = i + 1 by (first | lia | omega), List.getD_eq_getElem?_getD, List.getElem?_eq_getElem i2]; rfl
                      rw [← gx, ← gy] at hx
                      have k1 := coll_lt hx
                      have k2 := coll_gt hx
                      have k3 := coll_eq (ss.getD ((i : Nat) : Int).toNat Str.empty)
                      obtain ⟨k4, k5⟩ := coll_app (ss.getD ((i : Nat) : Int).toNat Str.empty)
                      have hxl : (ss.getD ((i : Nat) : Int).toNat Str.empty).length ≤ 60 := ss_size hpl' (by (first | lia | omega)) _ (getD_mem' (by (first | lia | omega)))
                      have hdl := dash_size
                      refine wp_gen ?_
                      intro Q8 E8 hQ8 hE8
                      have hh := halt 13
                      k_steps
                      clear hh
                      refine stop_in ?_
                      k_dflt (refine' ne_line ?N ?hl ?hb ?hi ?hj ?hu ?_; (case N => k_asm); (case hl => k_mem); (case hb => k_mem); (case hi => repeat (first | exact IntsAre.nil | apply IntsAre.cons)); (case hj => repeat (first | exact IntsAre.nil | apply IntsAre.cons)); (case hu => units_room); k_whole)
                      have hh := halt 14
                      k_steps
                      clear hh
                      refine stop_in ?_
                      refine LCt.ListComp_T (by k_asm) rfl (by decide) rfl (by decide) rfl ?_
                      k_steps
                      refine LCt.CompSrcT.ledger rfl (by k_asm) (by k_asm) (by k_mem) (by show (5 : Nat) ≤ sizeLine; rw [sizeLine_eq]; (first | lia | omega)) ?_
                      intro g8
                      refine comp_none (.inr ⟨_, by k_mem, rfl, _, rfl⟩) ?_ ?_
                      · intro i8 v8 I8 oI8 C8 oC8 D8 m8 h8 tk8 E8 hv8 hC8 hx8 F8 N8 off8 nes8
                        obtain ⟨x8, t8, hx8'⟩ : ∃ x t, v8 = .int x t := by
                          have hi8 : i8 < 5 := (Array.getElem?_eq_some_iff.mp hv8).1
                          match i8, hi8 with
                          | 0, _ => exact ⟨_, _, (Option.some.inj hv8).symm⟩
                          | 1, _ => exact ⟨_, _, (Option.some.inj hv8).symm⟩
                          | 2, _ => exact ⟨_, _, (Option.some.inj hv8).symm⟩
                          | 3, _ => exact ⟨_, _, (Option.some.inj hv8).symm⟩
                          | 4, _ => exact ⟨_, _, (Option.some.inj hv8).symm⟩
                        subst hx8'
                        k_steps
                        exact NoEnd.of (by k_asm) (by k_asm)
                      · intro D9 h9' tk9' F10 N10 off10
                        have hh := halt 13
                        k_steps
                        clear hh
                        refine stop_in ?_
                        k_dflt (refine' ne_line (ns := []) ?N ?hl ?hb ?hi ?hj ?hu ?_; (case N => k_asm); (case hl => k_mem); (case hb => k_mem); (case hi => exact IntsAre.nil); (case hj => exact IntsAre.nil); (case hu => units_room); k_whole)
                        k_steps
                        rename Fr _ _ _ _ => F11
                        rename News _ _ _ _ => N11
                        exact hQ8 _ _ (TurnV.of () F11 (by kst_all) (cb_drop N11 (by kcj_in)) ne9 trivial)
                    · rintro ⟨⟩ h9 tk9 u9 - F9 N9
                      (try dsimp only at F9)
                      (try dsimp only at N9)
                      (try dsimp only)
                      clear F13 N13 hrg
                      refine hQ9 _ _ ?_
                      (try dsimp only)
                      clear hQ9 hE9 Q9 E9
                      clear hpart hpart2
                      as_aux_lemma =>
                        w_top off
                        have hpart := halt 208
                        have hpart2 := halt 300
                        repeat (rename (_ < _ ∧ _) => hx; clear hx)
                        have hh := halt 20
                        k_steps
                        clear hh
                        refine stop_in ?_
                        rename _ = near _ _ _ => hR
                        rename S4 => R
                        k_dflt (refine' LCg.Assign_ListComp_U ?F ?L ?sw ?cl ?ce ?ki ?na ?xx ?yy ?pp ?_; (case L => exact rfl); (case F => k_asm); (case sw => exact rfl); (case cl => exact rfl); (case ce => decide); (case ki => exact rfl); (case na => decide); (case xx => exact rfl); (case yy => exact rfl); (case pp => exact rfl))
                        k_steps
                        refine LCg.CompSrc.ledger rfl (by k_asm) (by k_asm) (by k_mem) (by rw [sizeLine_eq, List.size_toArray]; omega) ?_
                        intro g9
                        refine comp_rest (fun i y => ∃ x u, (mkL ss)[i]? = some x ∧ y = .int x u) ?_ ?_
                        · intro i v I9 oI9 C9 oC9 D9 m9 ys9 h9' tk9' E9 hi9 hv9 hC9 hx9 F9 N9 off9 nes9
                          obtain ⟨x9, t9, rfl, hx9'⟩ := strs_get hSl (by simpa using hv9)
                          have hxl : x9.length ≤ 60 := ss_size hpl' (by omega) _ (List.mem_of_getElem? hx9')
                          have hm9 : (mkL ss)[i]? = some ((x9.length : Int) - 2) := by unfold mkL; rw [List.getElem?_map, hx9']; rfl
                          k_steps
                          exact LCg.CompEnd.intro (by k_asm) (by k_asm) _ (fun p hp => hp) off9 (.inr ⟨_, by k_mem, rfl, _, rfl⟩) ⟨rfl, _, _, hm9, rfl⟩
                        · intro ys hyl hy
                          rw [List.size_toArray, hlv] at hyl
                          have hmi := ints_of (by rw [mkL_len, hssl]; exact hyl) hy
                          intro D9 h9' tk9' F9 N9 off9
                          have hh := halt 9
                          k_steps
                          clear hh
                          refine stop_in ?_
                          refine wp_gen ?_
                          intro Q9 E9 hQ9 hE9
                          refine wpAny_For ?_
                          have hh := halt 7
                          k_steps
                          clear hh
                          refine stop_in ?_
                          rename IsRange _ _ _ _ _ _ _ _ => hrg
                          rename Fr _ _ _ _ => F13
                          rename News _ _ _ _ => N13
                          have hml : (mkL ss).length = count.toNat := by rw [mkL_len, hssl]
                          have hpll2 : (plsF first size ring count.toNat).length = count.toNat := plsF_len _
                          k_dflt (refine' for_range_v (σ := Unit) (n := count.toNat) (fun _ => [(Str.ofString "behind", .int R.b _), (Str.ofString "ahead", .int R.a _), (Str.ofString "right", .int R.r _), (Str.ofString "left", .int R.l _), (Str.ofString "marks", .ref D9), (Str.ofString "mark", .int (mk first size count.toNat) tm9), (Str.ofString "rounds", .int ((mk first size count.toNat).fdiv ring) tr9), (Str.ofString "places", .ref PL), (Str.ofString "script", .ref lsc), (Str.ofString "count", .int count tco)]) (fun _ => (D9, listOf ys.toArray ys.length) :: restL) (fun _ _ => True) () ?hh hrg ?hsm ?hsz ?hL ?hx ?hp F13 ?N13 ?ps ?P ?_ ?_; (case hh => exact rfl); (case hL => exact rfl); (case hx => exact rfl); (case hp => exact rfl); (case ps => kst_all); (case N13 => exact cb_drop N13 (by kcj_in)))
                          case hsm => exact small_one (by omega) (by omega) (by omega) (by omega)
                          case hsz => (rw [rangeSize_nat, Int.sub_zero])
                          case P => trivial
                          · rintro i t ⟨⟩ h9 tk9 I9 o9 u9 hi9 - F9 N9 ne9
                            (try dsimp only at F9)
                            (try dsimp only at N9)
                            (try dsimp only at ne9)
                            (try dsimp only)
                            clear F13 N13 hrg
                            rw [Int.zero_add] at F9
                            have G := gap r1 r2 s1 s2 hsize (by omega) (hord ▸ c2) hpl' hsl (k := i) (by omega)
                            rw [← hR, show (mkL ss).getD i 0 = (mkL ss).getD ((i : Nat) : Int).toNat 0 by rw [Int.toNat_natCast]] at G
                            have fm := fmod_pos (x := ((i : Nat) : Int) + 1) (b := count) (by omega)
                            obtain ⟨g0, g1, g2, g3, ga, gb, gc⟩ := G
                            (try clear hord); (try clear hsize); (try clear s1); (try clear s2); (try clear z1); (try clear z2); (try clear e1); (try clear e2); (try clear o2)
                            refine wp_gen ?_
                            intro Q8 E8 hQ8 hE8
                            by_cases w1 : (mkL ss).getD ((i : Nat) : Int).toNat 0 + R.b < count
                            · have w1' : decide ((mkL ss).getD ((i : Nat) : Int).toNat 0 + R.b < count) = true := decide_eq_true w1
                              have ge := ga w1
                              clear ga gb gc
                              have hh := halt 13
                              k_steps
                              clear hh
                              refine stop_in ?_
                              k_dflt (refine' ne_tups ?N ?ha ?hb ?hi ?hj ?hu ?eqE ?_; (case N => k_asm); (case ha => k_mem); (case hb => k_mem); (case hi => repeat (first | exact IntsAre.nil | apply IntsAre.cons)); (case hj => repeat (first | exact IntsAre.nil | apply IntsAre.cons)); (case hu => units_room); (case eqE => rw [ge.2, ge.1]); k_whole)
                              k_steps
                              rename Fr _ _ _ _ => F11
                              rename News _ _ _ _ => N11
                              exact hQ8 _ _ (TurnV.of () F11 (by kst_all) (cb_drop N11 (by kcj_in)) ne9 trivial)
                            · have w1' : ¬ decide ((mkL ss).getD ((i : Nat) : Int).toNat 0 + R.b < count) = true := by simpa using w1
                              by_cases w2 : R.a ≤ (mkL ss).getD ((i : Nat) : Int).toNat 0
                              · have w2' : decide ((mkL ss).getD ((i : Nat) : Int).toNat 0 ≥ R.a) = true := decide_eq_true w2
                                have ge := gb w1 w2
                                clear ga gb gc
                                have hh := halt 13
                                k_steps
                                clear hh
                                refine stop_in ?_
                                k_dflt (refine' ne_tups ?N ?ha ?hb ?hi ?hj ?hu ?eqE ?_; (case N => k_asm); (case ha => k_mem); (case hb => k_mem); (case hi => repeat (first | exact IntsAre.nil | apply IntsAre.cons)); (case hj => repeat (first | exact IntsAre.nil | apply IntsAre.cons)); (case hu => units_room); (case eqE => rw [ge.2, ge.1]); k_whole)
                                k_steps
                                rename Fr _ _ _ _ => F11
                                rename News _ _ _ _ => N11
                                exact hQ8 _ _ (TurnV.of () F11 (by kst_all) (cb_drop N11 (by kcj_in)) ne9 trivial)
                              · have w2' : ¬ decide ((mkL ss).getD ((i : Nat) : Int).toNat 0 ≥ R.a) = true := by simpa using w2
                                have ge := gc w1 w2
                                clear ga gb gc
                                have hh := halt 13
                                k_steps
                                clear hh
                                refine stop_in ?_
                                k_dflt (refine' ne_tups ?N ?ha ?hb ?hi ?hj ?hu ?eqE ?_; (case N => k_asm); (case ha => k_mem); (case hb => k_mem); (case hi => repeat (first | exact IntsAre.nil | apply IntsAre.cons)); (case hj => repeat (first | exact IntsAre.nil | apply IntsAre.cons)); (case hu => units_room); (case eqE => rw [ge.2, ge.1]); k_whole)
                                k_steps
                                rename Fr _ _ _ _ => F11
                                rename News _ _ _ _ => N11
                                exact hQ8 _ _ (TurnV.of () F11 (by kst_all) (cb_drop N11 (by kcj_in)) ne9 trivial)
                          · rintro ⟨⟩ h9 tk9 u9 - F9 N9
                            (try dsimp only at F9)
                            (try dsimp only at N9)
                            (try dsimp only)
                            clear F13 N13 hrg
                            refine hQ9 _ _ ?_
                            (try dsimp only)
                            clear hQ9 hE9 Q9 E9
                            clear hpart hpart2
                            as_aux_lemma =>
                              w_top off
                              have hpart := halt 209
                              have hpart2 := halt 300
                              have mb := mbK.get
                              clear mbK
                              repeat (rename (_ < _ ∧ _) => hx; clear hx)
                              have hu := unit_facts (if (5 : Int) < (ns.length : Int) then ns.getD (Int.toNat 5) 0 else 7)
                              have hh4 := halt 43
                              k_steps
                              clear hh4
                              refine stop_in ?_
                              refine add_gen ?_
                              intro unit tun hunit
                              rw [← hunit] at hu
                              have hh := halt 24
                              k_steps
                              clear hh
                              obtain ⟨hu1, hu2⟩ := hu
                              clear hunit
                              have hpl9 := pls_last (first := first) (size := size) (ring := ring) (n := count.toNat) (by omega)
                              have hp9 := fmod_pos (x := mk first size count.toNat) (b := ring) (by omega)
                              rw [← hpl9] at hp9
                              have mu1 : IntMulOk ring unit := small_mul (by omega) (by omega) (by omega)
                              have mu2 : IntMulOk ((plsF first size ring count.toNat).getD (-1 + (((plsF first size ring count.toNat).length : Nat) : Int)).toNat 0) unit := small_mul (by omega) (by omega) (by omega)
                              have hwb : PySem.Builtin.Int.intBits (ring * unit) ≤ 4286 := intBits_mul_le (small_bits (by omega) (by omega)) hu2
                              have hf6 := fmod_pos (x := (if (6 : Int) < (ns.length : Int) then ns.getD (Int.toNat 6) 0 else 0)) (b := 10 ^ Int.toNat 6) (by decide)
                              refine stop_in ?_
                              refine mul_int ?_ mu1
                              have hh := halt 25
                              k_steps
                              clear hh
                              refine stop_in ?_
                              refine wp_gen ?_
                              intro Q9 E9 hQ9 hE9
                              refine wpAny_For ?_
                              have hh := halt 7
                              k_steps
                              clear hh
                              refine stop_in ?_
                              have hw0 : 0 ≤ (plsF first size ring count.toNat).getD (-1 + (((plsF first size ring count.toNat).length : Nat) : Int)).toNat 0 * unit := Int.mul_nonneg hp9.1 (by omega)
                              have hw1 : (plsF first size ring count.toNat).getD (-1 + (((plsF first size ring count.toNat).length : Nat) : Int)).toNat 0 * unit < ring * unit := Int.mul_lt_mul_of_pos_right hp9.2 (by omega)
                              have hl1 := later1 (b := 2 ^ (((PySem.Builtin.Int.intBits (ring * unit) : Nat) : Int)).toNat) (c := (if (6 : Int) < (ns.length : Int) then ns.getD (Int.toNat 6) 0 else 0).fmod (10 ^ Int.toNat 6)) (pow_b hwb) hf6.1 (by have := hf6.2; exact Int.le_trans (Int.le_of_lt this) (by decide))
                              have hl2 := later2 (u := unit) (m := mk first size count.toNat) hu2 (by omega) (by omega)
                              generalize hbig1 : (2 ^ (((PySem.Builtin.Int.intBits (ring * unit) : Nat) : Int)).toNat - 1000 - (if (6 : Int) < (ns.length : Int) then ns.getD (Int.toNat 6) 0 else 0).fmod (10 ^ Int.toNat 6)) = lat1 at *
                              generalize hbig2 : unit - mk first size count.toNat = lat2 at *
                              generalize hbig3 : ring * unit = whole at *
                              generalize hbig4 : (plsF first size ring count.toNat).getD (-1 + (((plsF first size ring count.toNat).length : Nat) : Int)).toNat 0 * unit = rest at *
                              clear hbig1 hbig2 hbig3 hbig4 mu1 mu2 hf6
                              rename Fr _ _ _ _ => F13
                              rename News _ _ _ _ => N13
                              refine goal_gen ?_
                              intro R7 hR7
                              obtain ⟨LL, t7, t8, ⟨tw, tr2, u14, F14⟩, N14, hLL⟩ : ∃ (LL : Addr) (ta tb : Tok), (∃ (tw tr2 : Tok) (u : Str → Option Value), Fr (ghostOf s₁.heap [(41, 37), (34, 30)]) s₁.heap.objs.size _ (kstB u [(Str.ofString "whole", .int whole tw), (Str.ofString "rest", .int rest tr2), (Str.ofString "mark", .int (mk first size count.toNat) tm9), (Str.ofString "rounds", .int ((mk first size count.toNat).fdiv ring) tr9), (Str.ofString "places", .ref PL)])) ∧
                                  News (ghostOf s₁.heap [(41, 37), (34, 30)]) s₁.heap.objs.size _ ((LL, listOf [Value.int lat1 ta, Value.int lat2 tb].toArray 0) :: restL) ∧ LL = _ := by
                                exact ⟨_, _, _, ⟨_, _, fr_ps [(Str.ofString "whole", .int whole _), (Str.ofString "rest", .int rest _), (Str.ofString "mark", .int (mk first size count.toNat) tm9), (Str.ofString "rounds", .int ((mk first size count.toNat).fdiv ring) tr9), (Str.ofString "places", .ref PL)] F13 (by kst_all)⟩, cb_drop N13 (by kcj_in), rfl⟩
                              refine hR7 ?_
                              clear hR7 R7
                              clear F13 N13
                              subst hLL
                              clear hpart hpart2
                              as_aux_lemma =>
                                w_top off
                                have hpart := halt 210
                                have hpart2 := halt 300
                                repeat (rename (_ < _ ∧ _) => hx; clear hx)
                                have hrd0 : 0 ≤ (mk first size count.toNat).fdiv ring := Int.fdiv_nonneg (by omega) (by omega)
                                have hrd1 : (mk first size count.toNat).fdiv ring * 1 ≤ (mk first size count.toNat).fdiv ring * ring := Int.mul_le_mul_of_nonneg_left (by omega) hrd0
                                have hrd2 := fdivmod_pos (a := mk first size count.toNat) (b := ring) (by omega)
                                k_dflt (refine' for_list_c [(Str.ofString "whole", .int whole tw), (Str.ofString "rest", .int rest tr2), (Str.ofString "mark", .int (mk first size count.toNat) tm9), (Str.ofString "rounds", .int ((mk first size count.toNat).fdiv ring) tr9), (Str.ofString "places", .ref PL)] _ ?hh ?hL ?ht F14 N14 ?hps ?hb ?hl ?turn ?done; (case hh => exact rfl); (case hL => exact rfl); (case hps => kst_all); (case hb => assumption); (case hl => exact .head _); (case ht => exact go_name))
                                case turn =>
                                  intro i v h9 tk9 gens9' I9 o9 u9 hv hb9 F9 N9 ne9
                                  clear F14 N14
                                  refine turn_gen ?_
                                  intro R8 hR8
                                  refine goal_gen ?_
                                  intro R7 hR7
                                  obtain ⟨lat, t, rfl, hlat⟩ : ∃ lat t, v = .int lat t ∧ PySem.Builtin.Int.intBits lat ≤ 4300 := by
                                    have hi : i < 2 := (List.getElem?_eq_some_iff.mp hv).1
                                    match i, hi with
                                    | 0, _ => exact ⟨_, _, (Option.some.inj hv).symm, hl1⟩
                                    | 1, _ => exact ⟨_, _, (Option.some.inj hv).symm, hl2⟩
                                  refine hR7 ?_
                                  clear hR7 R7
                                  obtain ⟨jm, ja1, ja2, jb1, jb2, je1, je2, je3, je4, je5, je6⟩ := jf_of (rd := (mk first size count.toNat).fdiv ring) hlat hrd0 (by omega) hwb hw0 hw1
                                  have jw : whole ≠ 0 := by omega
                                  have jw2 : -whole ≠ 0 := by omega
                                  have hh := halt 61
                                  k_steps
                                  clear hh
                                  refine stop_in ?_
                                  rename Fr _ _ _ _ => F8
                                  rename News _ _ _ _ => N8
                                  refine goal_gen ?_
                                  intro R7 hR7
                                  obtain ⟨th, tf, u8, F8'⟩ : ∃ (th tf : Tok) (u : Str → Option Value), Fr (ghostOf s₁.heap [(41, 37), (34, 30)]) s₁.heap.objs.size _ (kstB u [(Str.ofString "high", .int (lat + (mk first size count.toNat).fdiv ring) th), (Str.ofString "far", .int ((lat + (mk first size count.toNat).fdiv ring) * whole + rest) tf), (Str.ofString "whole", .int whole tw), (Str.ofString "rest", .int rest tr2), (Str.ofString "mark", .int (mk first size count.toNat) tm9), (Str.ofString "rounds", .int ((mk first size count.toNat).fdiv ring) tr9), (Str.ofString "places", .ref PL)]) := ⟨_, _, fr_ps [(Str.ofString "high", .int (lat + (mk first size count.toNat).fdiv ring) _), (Str.ofString "far", .int ((lat + (mk first size count.toNat).fdiv ring) * whole + rest) _), (Str.ofString "whole", .int whole tw), (Str.ofString "rest", .int rest tr2), (Str.ofString "mark", .int (mk first size count.toNat) tm9), (Str.ofString "rounds", .int ((mk first size count.toNat).fdiv ring) tr9), (Str.ofString "places", .ref PL)] F8 (by kst_all)⟩
                                  refine hR7 ?_
                                  clear hR7 R7
                                  clear F8
                                  refine mid_frN (BackMid [(Str.ofString "high", .int (lat + (mk first size count.toNat).fdiv ring) th), (Str.ofString "far", .int ((lat + (mk first size count.toNat).fdiv ring) * whole + rest) tf), (Str.ofString "whole", .int whole tw), (Str.ofString "rest", .int rest tr2), (Str.ofString "mark", .int (mk first size count.toNat) tm9), (Str.ofString "rounds", .int ((mk first size count.toNat).fdiv ring) tr9), (Str.ofString "places", .ref PL)] [(-((lat + (mk first size count.toNat).fdiv ring) * whole + rest)).fdiv whole, (-((lat + (mk first size count.toNat).fdiv ring) * whole + rest)).fmod whole] [((lat + (mk first size count.toNat).fdiv ring) * whole + rest).fdiv (-whole), ((lat + (mk first size count.toNat).fdiv ring) * whole + rest).fmod (-whole)]) F8' N8 ?_ ?_
                                  · by_cases hz : rest = 0
                                    · have hz' : (rest == 0) = true := by simp [hz]
                                      k_steps
                                      exact BackMid.of (by k_asm) (by kst_all) (by k_asm) (je2 hz) (je5 hz)
                                    · have hz' : ¬ (rest == 0) = true := by simp [hz]
                                      k_steps
                                      exact BackMid.of (by k_asm) (by kst_all) (by k_asm) (je3 hz) (je6 hz)
                                  · clear je2 je3 je5 je6 F8' N8
                                    intro f s' hm
                                    refine goal_gen ?_
                                    intro R7 hR7
                                    obtain ⟨rfl, b0, b1, t0, t9', T9, h8, k8, u9', eb2, eb5, rfl, F8, N8⟩ := hm
                                    refine hR7 ?_
                                    clear hR7 R7
                                    (try dsimp only)
                                    k_steps
                                    rename Fr _ _ _ _ => F11
                                    rename News _ _ _ _ => N11
                                    exact hR8 _ _ (TurnC.of F11 (by kst_all) (cb_drop N11 (by kcj_in)) hb9)
                                case done =>
                                  intro h9 tk9 gens9' u9 hb9 F9 N9
                                  clear F14 N14
                                  refine hQ9 _ _ ?_
                                  (try dsimp only)
                                  clear hQ9 hE9 Q9 E9
                                  clear hpart hpart2
                                  as_aux_lemma =>
                                    w_top off
                                    have hpart := halt 211
                                    have hpart2 := halt 300
                                    repeat (rename (_ < _ ∧ _) => hx; clear hx)
                                    have mu3 := small_mul (x := (plsF first size ring count.toNat).getD (-1 + (((plsF first size ring count.toNat).length : Nat) : Int)).toNat 0) (by omega) (by omega) p4199
                                    have mu4 := wide_mul (rd := (mk first size count.toNat).fdiv ring) hrd0 (by omega)
                                    have kf := kf_of (rd := (mk first size count.toNat).fdiv ring) (p := (plsF first size ring count.toNat).getD (-1 + (((plsF first size ring count.toNat).length : Nat) : Int)).toNat 0) hrd0 (by omega) (by omega) (by omega)
                                    have hh := halt 11
                                    k_steps
                                    clear hh
                                    obtain ⟨ka, kb, ke, kw⟩ := kf
                                    clear mu3 mu4
                                    generalize (2 : Int) ^ Int.toNat 4203 + 2 ^ Int.toNat 2102 - 1 = wide at *
                                    generalize (2 : Int) ^ Int.toNat 4204 - 1000 - (mk first size count.toNat).fdiv ring = high at *
                                    generalize (plsF first size ring count.toNat).getD (-1 + (((plsF first size ring count.toNat).length : Nat) : Int)).toNat 0 * (2 : Int) ^ Int.toNat 4199 = rest2 at *
                                    refine stop_in ?_
                                    k_dflt (refine' Ct.use (dmN kw ka kb ?m1 ?m2 ?m3 ?m4 ?m5 ?m6) ?k1 ?k2 ?k3 ?k4 ?k5 ?kK ?kd ?ku ?_; (case k1 => k_asm); (case k2 => k_asm); (case k3 => k_asm); (case k4 => k_asm); (case k5 => k_asm); (case kK => first | exact rfl | assumption); (case m1 => k_mem); (case m2 => k_mem); (case m5 => assumption); (case m6 => assumption); (case m3 => k_mem); (case m4 => k_mem); (case kd => ktr_room); (case ku => ktr_units); k_whole)
                                    intro v6 n6 h6 tk6 hP6 F6 N6
                                    refine goal_gen ?_
                                    intro R7 hR7
                                    obtain ⟨x6, t61, t62, rfl, rfl, l6⟩ := hP6
                                    refine hR7 ?_
                                    clear hR7 R7
                                    k_lt l6
                                    k_sweep
                                    have hh := halt 5
                                    k_steps
                                    clear hh
                                    rename Fr _ _ _ _ => F15
                                    rename News _ _ _ _ => N15
                                    have N16 : News (ghostOf s₁.heap [(41, 37), (34, 30)]) s₁.heap.objs.size _ restL := cb_drop N15 (by kcj_in)
                                    obtain ⟨u16, F16⟩ := fr_ps [(Str.ofString "mark", .int (mk first size count.toNat) tm9)] F15 (by kst_all)
                                    clear F15 N15
                                    clear hpart hpart2
                                    as_aux_lemma =>
                                      w_top off
                                      have hpart := halt 212
                                      have hpart2 := halt 300
                                      repeat (rename (_ < _ ∧ _) => hx; clear hx)
                                      repeat (rename (_ < _ ∧ _) => hx; clear hx)
                                      (try refine stop_in ?_)
                                      refine wpAny_Try_except ?_
                                      have hh := halt 11
                                      k_steps
                                      clear hh
                                      refine stop_in ?_
                                      rename Fr _ _ _ _ => F20
                                      rename News _ _ _ _ => N20
                                      k_dflt (refine' CtR.use d56z ?k1 F20 ?k3 N20 ?k5 ?kK ?kd ?ku ?hb ?_; (case k1 => k_asm); (case k3 => k_asm); (case k5 => k_asm); (case kK => first | exact rfl | assumption); (case kd => ktr_room); (case ku => ktr_units); (case hb => assumption); k_whole)
                                      rintro ws e20 t20 g20 h20 tk20 gens20 rfl F21 U21 R21 hb21
                                      k_dflt (refine' caught_X (T' := "ZeroDivisionError") ?K F21 U21 R21 ?tpR PyProof.Rows.Boot.«ZeroDivisionError» PySem.F.isExc_ZeroDivisionError PySem.F.notTuple_ZeroDivisionError ?sub ?_ ?h1 ?h2 ?h3 ?h4 ?h4c ?hn ?hk ?hlo ?hx ?hd; (case K => assumption); (case tpR => k_asm); (case sub => (rw [isSubtype_type]; kernel_rfl)); (case h1 => decide +kernel); (case h2 => decide +kernel); (case h3 => decide +kernel); (case h4 => decide +kernel); (case h4c => decide +kernel); (case hn => decide +kernel); (case hk => exact rfl); (case hlo => exact rfl); (case hx => exact rfl); (case hd => decide); k_whole)
                                      intro h22 news22 tk22 F22 N22 G22 N23
                                      k_steps
                                      rename Fr _ _ _ _ => F24
                                      refine wpAny_nameGoes_keeps rfl F24.ns rfl fun h23 v23 hn23 hs23 => ?_
                                      have F25 := F24.set hn23 hs23
                                      have N25 := N23.set hs23
                                      clear hn23 hs23 F24
                                      (try dsimp only)
                                      refine And.intro (And.intro ?_ ?_) hb21
                                      · have hbt : (Str.empty == Str.ofString "") = true := by decide +kernel
                                        rw [hbt]
                                        refine goodW_bool F25 rfl (raisesW_false ?_) ?_
                                        · wrow_none_raised
                                        · kc_post
                                      · k_steps)
end Mine
theorem PySem.Challenge.cw_ph0105_01_holds : PySem.Challenge.rw_ph0105_01.Holds := by
  exact Mine.lawAll
