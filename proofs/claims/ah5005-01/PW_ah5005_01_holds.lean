import PyProof.Rows.All
import Wide.All
import OpenK.AllK
import Wide.FinOn
import PyProof.Rows.TupMore
import KE.KStateW
import Lean
import PySem.Challenge.RW_ah5005_01
open PySem PySem.W PyProof.Rows
set_option Elab.async false
set_option maxRecDepth 100000
namespace Mine
section -- B0
set_option maxRecDepth 100000 in
set_option maxHeartbeats 8000000 in
open_top hd for PySem.Challenge.rw_ah5005_01

open PySem.Builtin.Int (intBits)
abbrev Led := List (Addr × Obj)
abbrev Tell (w : World) (f : Addr) (news : Led) (vs : List Value) (d : Nat) (R : Value → Led → Prop) : Prop :=
  ∀ (p : Program) (loose : List Str) (mean : ExcName → Option Value) (mg mb : Str → Option Value) (dp un : Nat) (gd : Option (List Code)) (cn : Str) (cs : Scope) (a : Addr) (ccd : Value) (cl : List (Str × Addr)) (outer : List Env) (A₀ : Around) (base h₀ : Heap) (L : Addr) (m : Str → Option Value) (s : Shared) (Q E : Value → Shared → Prop),
    Below A₀ base outer h₀ → Fr h₀ L s.heap m → (Mine.hd.heap_39 w.params).In h₀ → News h₀ L s.heap news → Top p loose mean mg mb h₀ → cs.kind = .function →
    dp + d < recursionLimit → un + 8 * d < cLine →
    (∀ (v : Value) (tl : Led) (h' : Heap) (tk' : Nat), R v tl → Fr h₀ L h' m → News h₀ L h' (tl ++ news) → Q v { s with heap := h', toks := tk' }) →
    wpAny (model PySem.Challenge.rw_ah5005_01.row.prog w) (ktrTop dp un gd cn cs L a ccd cl outer) (call (.ref f) vs) Q E s
inductive Rnd where
  | n | f | c | d | u
def Rnd.str : Rnd → Str
  | .n => Str.ofString "n"
  | .f => Str.ofString "f"
  | .c => Str.ofString "c"
  | .d => Str.ofString "d"
  | .u => Str.ofString "u"
/-- the place in shifts_down -/
def Rnd.at : Rnd → Addr
  | .n => 0
  | .f => 28
  | .c => 29
  | .d => 30
  | .u => 31
def Rnd.sd (r : Rnd) (sg : Int) : Int := match r with
  | .n => 1
  | .f => if sg = 0 then 1 else 0
  | .c => if sg = 0 then 0 else 1
  | .d => 1
  | .u => 0
def Rnd.sdTok (r : Rnd) (sg : Int) : Tok := match r with
  | .n => 0
  | .f => if sg = 0 then 239 else 240
  | .c => if sg = 0 then 241 else 242
  | .d => if sg = 0 then 243 else 244
  | .u => if sg = 0 then 245 else 246
abbrev I4 (a b c d : Int) (ta tb tc td : Tok) : Obj := { cls := .type "tuple", data := .seq #[.int a ta, .int b tb, .int c tc, .int d td] }

/-- rounding of man / 2^k to a whole number -/
def rint (r : Rnd) (sg man : Int) (k : Nat) : Int :=
  if k = 0 then man else match r with
  | .n => if man / 2 ^ (k - 1) % 2 = 1 ∧ (man / 2 ^ k % 2 = 1 ∨ man % 2 ^ (k - 1) ≠ 0) then man / 2 ^ k + 1 else man / 2 ^ k
  | r => if r.sd sg = 0 then -(-man / 2 ^ k) else man / 2 ^ k

structure NormOK (r : Rnd) (sg man exp prec m' e' b' : Int) : Prop where
  pos : 0 < m'
  odd : m' % 2 = 1
  bits : b' = intBits m'
  le : b' ≤ prec
  val : ∃ t : Nat, m' * 2 ^ t = rint r sg man ((intBits man : Int) - prec).toNat ∧ e' = exp + ((intBits man : Int) - prec).toNat + t

theorem Tell.use {w : World} {f : Addr} {news : Led} {vs : List Value} {d : Nat} {R : Value → Led → Prop} (C : Tell w f news vs d R)
    {p : Program} {loose : List Str} {mean : ExcName → Option Value} {mg mb : Str → Option Value} {dp un : Nat} {gd : Option (List Code)} {cn : Str} {cs : Scope} {a : Addr} {ccd : Value} {cl : List (Str × Addr)} {outer : List Env} {A₀ : Around} {base h₀ : Heap} {L : Addr} {m : Str → Option Value} {s : Shared} {Q E : Value → Shared → Prop}
    (B : Below A₀ base outer h₀) (F : Fr h₀ L s.heap m) (X : (Mine.hd.heap_39 w.params).In h₀) (N : News h₀ L s.heap news) (T : Top p loose mean mg mb h₀) (hk : cs.kind = .function)
    (hd : dp + d < recursionLimit) (hu : un + 8 * d < cLine)
    (hret : ∀ (v : Value) (tl : Led) (h' : Heap) (tk' : Nat), R v tl → Fr h₀ L h' m → News h₀ L h' (tl ++ news) → Q v { s with heap := h', toks := tk' }) :
    wpAny (model PySem.Challenge.rw_ah5005_01.row.prog w) (ktrTop dp un gd cn cs L a ccd cl outer) (call (.ref f) vs) Q E s := C _ _ _ _ _ _ _ _ _ _ _ _ _ _ _ _ _ _ _ _ _ _ B F X N T hk hd hu hret
@[irreducible] def shr (a n : Int) : Int := a.fdiv (2 ^ n.toNat)
@[irreducible] def shl (a n : Int) : Int := a * 2 ^ n.toNat
@[irreducible] def band (a b : Int) : Int := Builtin.bitAnd a b
@[irreducible] def ipw (a n : Int) : Int := a ^ n.toNat
@[irreducible] def mulI (a b : Int) : Int := a * b
theorem shr_eq (a n : Int) : shr a n = a.fdiv (2 ^ n.toNat) := by unfold shr; rfl
theorem shl_eq (a n : Int) : shl a n = a * 2 ^ n.toNat := by unfold shl; rfl
theorem band_eq (a b : Int) : band a b = Builtin.bitAnd a b := by unfold band; rfl
theorem ipw_eq (a n : Int) : ipw a n = a ^ n.toNat := by unfold ipw; rfl
theorem mulI_eq (a b : Int) : mulI a b = a * b := by unfold mulI; rfl
section
variable {prog : Program} {w : World} {A : Around} {E : Value → Shared → Prop} {s : Shared} {a b n : Int} {t u : Tok} {Q : Value → Shared → Prop}
theorem shr_rule (hn : 0 ≤ n) (h : Q (.int (shr a n) s.toks) { s with toks := s.toks + 1 }) : wpAny (model prog w) A (binaryOp .RShift (.int a t) (.int n u)) Q E s := rshift_int hn (by rw [← shr_eq]; exact h)
theorem ishr_rule (hn : 0 ≤ n) (h : Q (.int (shr a n) s.toks) { s with toks := s.toks + 1 }) : wpAny (model prog w) A (inplaceOp .RShift (.int a t) (.int n u)) Q E s := irshift_int hn (by rw [← shr_eq]; exact h)
theorem shl_rule (hn : 0 ≤ n) (hsz : (intBits a : Int) + n ≤ 2 ^ 27) (h : Q (.int (shl a n) s.toks) { s with toks := s.toks + 1 }) : wpAny (model prog w) A (binaryOp .LShift (.int a t) (.int n u)) Q E s := lshift_int hn hsz (by rw [← shl_eq]; exact h)
theorem band_rule (h : Q (.int (band a b) s.toks) { s with toks := s.toks + 1 }) : wpAny (model prog w) A (binaryOp .BitAnd (.int a t) (.int b u)) Q E s := and_int (by rw [← band_eq]; exact h)
theorem ipw_rule (hn : 0 ≤ n) (hsz : (intBits a : Int) * n ≤ 2 ^ 27) (h : Q (.int (ipw a n) s.toks) { s with toks := s.toks + 1 }) : wpAny (model prog w) A (binaryOp .Pow (.int a t) (.int n u)) Q E s := pow_int hn hsz (by rw [← ipw_eq]; exact h)
theorem iipw_rule (hn : 0 ≤ n) (hsz : (intBits a : Int) * n ≤ 2 ^ 27) (h : Q (.int (ipw a n) s.toks) { s with toks := s.toks + 1 }) : wpAny (model prog w) A (inplaceOp .Pow (.int a t) (.int n u)) Q E s := ipow_int hn hsz (by rw [← ipw_eq]; exact h)
theorem mul_rule (hm : IntMulOk a b) (h : Q (.int (mulI a b) s.toks) { s with toks := s.toks + 1 }) : wpAny (model prog w) A (binaryOp .Mult (.int a t) (.int b u)) Q E s := mul_int (by rw [← mulI_eq]; exact h) hm
theorem bl_rule (h : Q (.int (intBits a) s.toks) { s with toks := s.toks + 1 }) : wpAny (model prog w) A (call (.builtin "int.bit_length") [.int a t]) Q E s := call_int_bit_length h
theorem eqb_rule (h : Q (.bool (decide (a = b))) s) : wpAny (model prog w) A (compareOp .Eq (.int a t) (.int b u)) Q E s := PyProof.Rows.eq_int (by
  first
  | exact h
  | (have e : (a == b) = decide (a = b) := rfl; rw [e]; exact h))
theorem tru_rule {Q : Bool → Shared → Prop} (h : Q (decide (a ≠ 0)) s) : wpAny (model prog w) A (truthy (.int a t)) Q E s := PyProof.Rows.truthy_int (by
  have e : (a != 0) = decide (a ≠ 0) := by by_cases h0 : a = 0 <;> simp [h0]
  rw [e]; exact h)
end
theorem ite_yes {c : Prop} [Decidable c] {P Q : Prop} (h : c) (p : P) : if decide c = true then P else Q := by rw [if_pos (decide_eq_true h)]; exact p
theorem ite_no {c : Prop} [Decidable c] {P Q : Prop} (h : ¬ c) (q : Q) : if decide c = true then P else Q := by rw [if_neg (by simpa using h)]; exact q
theorem ite_split {c : Prop} [Decidable c] {P Q : Prop} (p : c → P) (q : ¬ c → Q) : if decide c = true then P else Q := by
  by_cases h : c
  · exact ite_yes h (p h)
  · exact ite_no h (q h)
theorem ite_nyes {c : Prop} [Decidable c] {P Q : Prop} (h : ¬ c) (p : P) : if (!decide c) = true then P else Q := by rw [if_pos (by simpa using h)]; exact p
theorem ite_nno {c : Prop} [Decidable c] {P Q : Prop} (h : c) (q : Q) : if (!decide c) = true then P else Q := by rw [if_neg (by simpa using h)]; exact q
theorem ite_nsplit {c : Prop} [Decidable c] {P Q : Prop} (p : ¬ c → P) (q : c → Q) : if (!decide c) = true then P else Q := by
  by_cases h : c
  · exact ite_nno h (q h)
  · exact ite_nyes h (p h)
theorem ite_splitb {b : Bool} {P Q : Prop} (p : b = true → P) (q : b = false → Q) : if b = true then P else Q := by cases b <;> simp_all
def Rnd.is (r q : Rnd) : Bool := match r, q with
  | .n, .n => true
  | .f, .f => true
  | .c, .c => true
  | .d, .d => true
  | .u, .u => true
  | _, _ => false
def Rnd.rec0 : Rnd → Rnd
  | .n => .n
  | .f => .c
  | .c => .f
  | .d => .u
  | .u => .d
def Rnd.recTok : Rnd → Tok
  | .n => 202
  | .f => 206
  | .c => 204
  | .d => 208
  | .u => 210
section
variable {prog : Program} {w : World} {A : Around} {E : Value → Shared → Prop} {s : Shared} {r : Rnd} {t u : Tok} {Q : Value → Shared → Prop} {h₀ : Heap} {L : Addr} {m : Str → Option Value} {value slice : Expr} {sg : Int}
theorem eq_n (h : Q (.bool (r.is .n)) s) : wpAny (model prog w) A (compareOp .Eq (.str r.str t) (.str (Str.ofString "n") u)) Q E s := PySem.P.eq_str (by cases r <;> exact h)
theorem eq_f (h : Q (.bool (r.is .f)) s) : wpAny (model prog w) A (compareOp .Eq (.str r.str t) (.str (Str.ofString "f") u)) Q E s := PySem.P.eq_str (by cases r <;> exact h)
theorem eq_c (h : Q (.bool (r.is .c)) s) : wpAny (model prog w) A (compareOp .Eq (.str r.str t) (.str (Str.ofString "c") u)) Q E s := PySem.P.eq_str (by cases r <;> exact h)
theorem eq_d (h : Q (.bool (r.is .d)) s) : wpAny (model prog w) A (compareOp .Eq (.str r.str t) (.str (Str.ofString "d") u)) Q E s := PySem.P.eq_str (by cases r <;> exact h)
theorem eq_u (h : Q (.bool (r.is .u)) s) : wpAny (model prog w) A (compareOp .Eq (.str r.str t) (.str (Str.ofString "u") u)) Q E s := PySem.P.eq_str (by cases r <;> exact h)
theorem sd_rule {x : Str} {pos : Pos} (F : Fr h₀ L s.heap m) (X : (Mine.hd.heap_39 w.params).In h₀) (hr : r.is .n = false) (h : Q (.ref r.at) { s with toks := s.toks + 1 }) :
    wpAny (model PySem.Challenge.rw_ah5005_01.row.prog w) A (subscriptTail value (.Name x pos) (.ref 27) (.str r.str t)) Q E s := by
  revert X; k_fill; intro X
  cases r
  · cases hr
  all_goals k_dflt (refine' topItem_K F X ?l ?k ?e h; (case l => k_is); (case k => k_keys); (case e => k_is))
theorem rec_rule {x : Str} {pos : Pos} (F : Fr h₀ L s.heap m) (X : (Mine.hd.heap_39 w.params).In h₀) (h : Q (.str r.rec0.str r.recTok) { s with toks := s.toks + 1 }) :
    wpAny (model PySem.Challenge.rw_ah5005_01.row.prog w) A (subscriptTail value (.Name x pos) (.ref 83) (.str r.str t)) Q E s := by
  revert X; k_fill; intro X
  cases r
  all_goals k_dflt (refine' topItem_K F X ?l ?k ?e h; (case l => k_is); (case k => k_keys); (case e => k_is))
theorem sd2_rule {x : Str} {pos : Pos} (F : Fr h₀ L s.heap m) (X : (Mine.hd.heap_39 w.params).In h₀) (hr : r.is .n = false) (hs : sg = 0 ∨ sg = 1) (h : Q (.int (r.sd sg) (r.sdTok sg)) s) :
    wpAny (model PySem.Challenge.rw_ah5005_01.row.prog w) A (subscriptTail value (.Name x pos) (.ref r.at) (.int sg t)) Q E s := by
  revert X; k_fill; intro X
  rcases hs with rfl | rfl <;> cases r
  · cases hr
  iterate 4 k_dflt (refine' topTup_K F X ?l ?a ?b ?c ?d h; (case l => k_is); (case a => decide); (case b => decide); (case c => rfl); (case d => rfl))
  · cases hr
  iterate 4 k_dflt (refine' topTup_K F X ?l ?a ?b ?c ?d h; (case l => k_is); (case a => decide); (case b => decide); (case c => rfl); (case d => rfl))
end
def DivRel (tman texp prec q x : Int) : Prop :=
  (tman = 1 ∧ q = 1 ∧ x = -texp) ∨ (tman ≠ 1 ∧ ∃ ex : Nat, (ex : Int) = prec + intBits tman + 4 ∧ ((2 ^ ex % tman = 0 ∧ q = 2 ^ ex / tman ∧ x = -texp - ex) ∨ (2 ^ ex % tman ≠ 0 ∧ q = 2 * (2 ^ ex / tman) + 1 ∧ x = -texp - ex - 1)))
theorem done4 {sg : Int} {P : Int → Int → Int → Prop} {Q : Value → Shared → Prop} {s : Shared} {h₀ : Heap} {L : Addr} {m : Str → Option Value} {news : Led} {h' : Heap} {tk' : Nat} {D : Addr} {m' e' b' : Int} {ta tb tc td : Tok}
    (hret : ∀ (v : Value) (tl : Led) (h' : Heap) (tk' : Nat), (∃ D m' e' b' ta tb tc td, v = .ref D ∧ tl = [(D, ({ cls := .type "tuple", data := .seq #[.int sg ta, .int m' tb, .int e' tc, .int b' td] } : Obj))] ∧ P m' e' b') → Fr h₀ L h' m → News h₀ L h' (tl ++ news) → Q v { s with heap := h', toks := tk' })
    (F : Fr h₀ L h' m) (N : News h₀ L h' ((D, { cls := .type "tuple", data := .seq #[.int sg ta, .int m' tb, .int e' tc, .int b' td] }) :: news)) (H : P m' e' b') : Q (.ref D) { s with heap := h', toks := tk' } :=
  hret _ [_] _ _ ⟨_, _, _, _, _, _, _, _, rfl, rfl, H⟩ F N
abbrev I2 (a b : Int) (ta tb : Tok) : Obj := { cls := .type "tuple", data := .seq #[.int a ta, .int b tb] }
abbrev Tup4 (w : World) (f : Addr) (news : Led) (vs : List Value) (d : Nat) (sg : Int) (P : Int → Int → Int → Prop) : Prop :=
  Tell w f news vs d (fun v tl => ∃ D m' e' b' ta tb tc td, v = .ref D ∧ tl = [(D, I4 sg m' e' b' ta tb tc td)] ∧ P m' e' b')
@[irreducible] def trail (n : Int) : Int := if n = 0 then 0 else intBits (Builtin.bitAnd n (-n)) - 1
theorem trail_eq (n : Int) : trail n = if n = 0 then 0 else (intBits (Builtin.bitAnd n (-n)) : Int) - 1 := by unfold trail; rfl
end -- B0
section -- B1
open PySem.Builtin.Int (intBits)

@[irreducible] def fdv (a b : Int) : Int := a.fdiv b
@[irreducible] def fmd (a b : Int) : Int := a.fmod b
theorem fdv_eq (a b : Int) : fdv a b = a.fdiv b := by unfold fdv; rfl
theorem fmd_eq (a b : Int) : fmd a b = a.fmod b := by unfold fmd; rfl
set_option exponentiation.threshold 10000 in
theorem nopy {x b : Int} (h : intBits b ≤ 8000) : Builtin.divisionGoesByPylong x b = false := by
  refine PyProof.noPylong_of_log2 ?_
  by_cases h0 : b.natAbs = 0
  · rw [h0]; decide +kernel
  · have h2 : b.natAbs < 2 ^ 8000 := intBits_le_iff.mp h
    have := (Nat.log2_lt h0).mpr h2
    omega
section
variable {prog : Program} {w : World} {A : Around} {E : Value → Shared → Prop} {s : Shared} {a b n : Int} {t u : Tok} {Q : Value → Shared → Prop} {h₀ : Heap} {L : Addr} {m : Str → Option Value} {news : List (Addr × Obj)}
theorem divmod_rule (F : Fr h₀ L s.heap m) (N : News h₀ L s.heap news) (hb : b ≠ 0) (hbits : intBits b ≤ 8000)
    (h : ∀ h' D, Fr h₀ L h' m → News h₀ L h' ((D, I2 (fdv a b) (fmd a b) s.toks (s.toks + 1)) :: news) → Q (.ref D) { s with toks := s.toks + 1 + 1, heap := h' }) :
    wpAny (model prog w) A (call (.builtin "divmod") [.int a t, .int b u]) Q E s :=
  divmod_N F N hb (fun h' F' N' => h h' _ F' (by rw [fdv_eq, fmd_eq]; exact N')) (Or.inl (nopy hbits))
theorem fdv_rule (hb : b ≠ 0) (hbits : intBits b ≤ 8000) (h : Q (.int (fdv a b) s.toks) { s with toks := s.toks + 1 }) : wpAny (model prog w) A (binaryOp .FloorDiv (.int a t) (.int b u)) Q E s := floordiv_int hb (by rw [← fdv_eq]; exact h) (Or.inl (nopy hbits))
theorem fmd_rule (hb : b ≠ 0) (h : Q (.int (fmd a b) s.toks) { s with toks := s.toks + 1 }) : wpAny (model prog w) A (binaryOp .Mod (.int a t) (.int b u)) Q E s := mod_int' hb (by rw [← fmd_eq]; exact h)
theorem xor0_rule (hb : b = 0 ∨ b = 1) (h : Q (.int b s.toks) { s with toks := s.toks + 1 }) : wpAny (model prog w) A (binaryOp .BitXor (.int 0 t) (.int b u)) Q E s := xor_int (by rcases hb with rfl | rfl <;> exact h)
theorem shl1_rule (hn : 0 ≤ n) (h2 : n ≤ 100000) (h : Q (.int (shl 1 n) s.toks) { s with toks := s.toks + 1 }) : wpAny (model prog w) A (binaryOp .LShift (.int 1 t) (.int n u)) Q E s :=
  shl_rule hn (by have : intBits 1 = 1 := by decide
                  rw [this]; omega) h
end
end -- B1
section -- B2
open PySem.Builtin.Int (intBits)

def Halt (P : Prop) : Prop := P
theorem halt {P : Prop} (h : Halt P) : P := h
structure PL where
  n : Int
  man : Int
  exp : Int
  bc : Int
  pm : Int
  pe : Int
  pbc : Int
  a : Tok
  b : Tok
  c : Tok
  d : Tok
  e : Tok
  f : Tok
  g : Tok
def PL.ps (c : PL) : List (Str × Value) := [(Str.ofString "n", .int c.n c.a), (Str.ofString "man", .int c.man c.b), (Str.ofString "exp", .int c.exp c.c), (Str.ofString "bc", .int c.bc c.d), (Str.ofString "pm", .int c.pm c.e), (Str.ofString "pe", .int c.pe c.f), (Str.ofString "pbc", .int c.pbc c.g)]
theorem PL.all {m₀ : Str → Option Value} {c : PL} (h1 : m₀ (Str.ofString "n") = some (.int c.n c.a)) (h2 : m₀ (Str.ofString "man") = some (.int c.man c.b)) (h3 : m₀ (Str.ofString "exp") = some (.int c.exp c.c)) (h4 : m₀ (Str.ofString "bc") = some (.int c.bc c.d)) (h5 : m₀ (Str.ofString "pm") = some (.int c.pm c.e)) (h6 : m₀ (Str.ofString "pe") = some (.int c.pe c.f)) (h7 : m₀ (Str.ofString "pbc") = some (.int c.pbc c.g)) :
    ∀ p ∈ c.ps, m₀ p.1 = some p.2 := by
  intro p hp
  simp only [PL.ps, List.mem_cons, List.not_mem_nil, or_false] at hp
  rcases hp with rfl | rfl | rfl | rfl | rfl | rfl | rfl <;> assumption
/-- how near m * 2^d lies below t: at most a parts in W -/
def Near (t m : Int) (d : Nat) (a : Int) (W : Nat) : Prop := m * 2 ^ d ≤ t ∧ t * (2 ^ W - a) ≤ m * 2 ^ d * 2 ^ W
/-- the loop of mpf_pow_int: what holds at a turn's start -/
structure PInv (man₀ exp₀ n₀ : Int) (wp : Nat) (c : PL) : Prop where
  n1 : 1 ≤ c.n
  m1 : 0 < c.man
  p1 : 0 < c.pm
  hb : c.bc = intBits c.man
  hpb : c.pbc = intBits c.pm
  b2 : intBits c.man ≤ 200
  pb2 : intBits c.pm ≤ 200
  near : ∃ (i a dm dp : Nat), (a : Int) + 2 ^ i * c.n = n₀ ∧ c.exp = exp₀ * 2 ^ i + dm ∧ c.pe = exp₀ * a + dp ∧ Near (man₀ ^ (2 ^ i)) c.man dm (2 ^ i - 1) (wp - 1) ∧ Near (man₀ ^ a) c.pm dp a (wp - 1)
def PowNear (man exp n prec pm pe : Int) : Prop := ∃ d : Nat, pe = exp * n + d ∧ Near (man ^ n.toNat) pm d 1 (prec.toNat + 8)
structure PowOK (r : Rnd) (sg man exp n prec m' e' b' : Int) : Prop where
  exact : ((intBits man : Int) * n < 1000 ∨ n < 3 ∨ man = 1) → NormOK r sg (man ^ n.toNat) (exp * n) prec m' e' b'
  near : ∃ pm pe, 0 < pm ∧ PowNear man exp n prec pm pe ∧ NormOK r sg pm pe prec m' e' b'
section
variable {prog : Program} {w : World} {A : Around} {E : Value → Shared → Prop} {s : Shared} {a b n : Int} {t u : Tok} {Q : Value → Shared → Prop} {h₀ : Heap} {L : Addr} {m : Str → Option Value} {news : List (Addr × Obj)}
theorem mulb_rule {k l : Nat} (ha : intBits a ≤ k) (hb : intBits b ≤ l) (hkl : k + l ≤ 134217728) (h : Q (.int (mulI a b) s.toks) { s with toks := s.toks + 1 }) : wpAny (model prog w) A (binaryOp .Mult (.int a t) (.int b u)) Q E s := mul_rule (mulOk_of_bits ha hb hkl) h
theorem pow2_rule (hn : 0 ≤ n) (h2 : n ≤ 100000) (h : Q (.int (ipw 2 n) s.toks) { s with toks := s.toks + 1 }) : wpAny (model prog w) A (binaryOp .Pow (.int 2 t) (.int n u)) Q E s :=
  ipw_rule hn (by have : intBits 2 = 2 := by decide
                  rw [this]; omega) h
theorem pl_while {env : Env} {Q : Flow → Shared → Prop} {test : Expr} {body : List Stmt} {pos : Pos} {m₀ : Str → Option Value} (P : PL → Prop) {xn xm xe xb xp xq xr : Int} {ta tb tc td te tf tg : Tok}
    (F : Fr h₀ L s.heap m₀) (N : News h₀ L s.heap news)
    (h1 : m₀ (Str.ofString "n") = some (.int xn ta)) (h2 : m₀ (Str.ofString "man") = some (.int xm tb)) (h3 : m₀ (Str.ofString "exp") = some (.int xe tc)) (h4 : m₀ (Str.ofString "bc") = some (.int xb td)) (h5 : m₀ (Str.ofString "pm") = some (.int xp te)) (h6 : m₀ (Str.ofString "pe") = some (.int xq tf)) (h7 : m₀ (Str.ofString "pbc") = some (.int xr tg))
    (hp : P ⟨xn, xm, xe, xb, xp, xq, xr, ta, tb, tc, td, te, tf, tg⟩)
    (turn : ∀ (c : PL) h tk, P c → Fr h₀ L h (fun z => if z = Str.ofString "n" then some (.int c.n c.a) else if z = Str.ofString "man" then some (.int c.man c.b) else if z = Str.ofString "exp" then some (.int c.exp c.c) else if z = Str.ofString "bc" then some (.int c.bc c.d) else if z = Str.ofString "pm" then some (.int c.pm c.e) else if z = Str.ofString "pe" then some (.int c.pe c.f) else if z = Str.ofString "pbc" then some (.int c.pbc c.g) else m₀ z) → News h₀ L h news →
      wpAny (model prog w) A (isTrue test env (eval test env)) (fun b s₂ =>
        if b = true then wpAny (model prog w) A (execs body env) (KswPost h₀ L s (fun _ => news) PL.ps (fun _ => True) [] m₀ P (fun c => c.n.toNat) Q c) E s₂ else Q .next s₂) E { s with heap := h, toks := tk })
    (hE : PassesOwn (model prog w) A env E := by passes_own) :
    wpAny (model prog w) A (exec (.While test body [] pos) env) Q E s :=
  ksw_while (fun _ => news) PL.ps (fun _ => True) [] P (fun c => c.n.toNat) ⟨xn, xm, xe, xb, xp, xq, xr, ta, tb, tc, td, te, tf, tg⟩ F N trivial (PL.all h1 h2 h3 h4 h5 h6 h7) hp (fun c u h tk _ hP F N => turn c h tk hP F N) hE
theorem pl_end {P : PL → Prop} {c : PL} {h' : Heap} {tk : Nat} {m₀ m' : Str → Option Value} {news' : Led} {σ : Shared} {xn xm xe xb xp xq xr : Int} {ta tb tc td te tf tg : Tok}
    (F : Fr h₀ L h' m') (N : News h₀ L h' news') (hn : ∀ p ∈ news, p ∈ news')
    (h1 : m' (Str.ofString "n") = some (.int xn ta)) (h2 : m' (Str.ofString "man") = some (.int xm tb)) (h3 : m' (Str.ofString "exp") = some (.int xe tc)) (h4 : m' (Str.ofString "bc") = some (.int xb td)) (h5 : m' (Str.ofString "pm") = some (.int xp te)) (h6 : m' (Str.ofString "pe") = some (.int xq tf)) (h7 : m' (Str.ofString "pbc") = some (.int xr tg))
    (hr : ∀ z, z ≠ Str.ofString "n" → z ≠ Str.ofString "man" → z ≠ Str.ofString "exp" → z ≠ Str.ofString "bc" → z ≠ Str.ofString "pm" → z ≠ Str.ofString "pe" → z ≠ Str.ofString "pbc" → m' z = m₀ z) (hp : P ⟨xn, xm, xe, xb, xp, xq, xr, ta, tb, tc, td, te, tf, tg⟩) (hm : xn.toNat < c.n.toNat) :
    KswEnd h₀ L σ (fun _ => news) PL.ps (fun _ => True) [] m₀ P (fun c => c.n.toNat) c { σ with heap := h', toks := tk } :=
  ksw_end ⟨xn, xm, xe, xb, xp, xq, xr, ta, tb, tc, td, te, tf, tg⟩ F N hn trivial (PL.all h1 h2 h3 h4 h5 h6 h7) (fun z h _ => by
    simp only [PL.ps, List.forall_mem_cons] at h
    exact hr z h.1 h.2.1 h.2.2.1 h.2.2.2.1 h.2.2.2.2.1 h.2.2.2.2.2.1 h.2.2.2.2.2.2.1) hp hm
end
end -- B2
section -- M0
open PySem.Builtin.Int (intBits)

theorem ilt (a b : Int) : a < b ∨ b ≤ a := by omega
theorem tp (k : Nat) : (0 : Int) < 2 ^ k := kbt_pos k
theorem two_pow_le {a b : Nat} (h : a ≤ b) : (2 : Int) ^ a ≤ 2 ^ b := by
  obtain ⟨c, rfl⟩ : ∃ c, b = a + c := ⟨b - a, by omega⟩
  rw [Int.pow_add]
  have h1 := tp a
  have h2 := tp c
  have := Int.mul_le_mul_of_nonneg_left (show (1 : Int) ≤ 2 ^ c by omega) (Int.le_of_lt h1)
  omega
theorem two_pow_lt {a b : Nat} (h : a < b) : (2 : Int) ^ a < 2 ^ b := by
  have h1 := two_pow_le (show a + 1 ≤ b from h)
  have h2 := tp a
  rw [Int.pow_succ] at h1
  omega
theorem pow_lt_imp {a b : Nat} (h : (2 : Int) ^ a < 2 ^ b) : a < b := by
  rcases Nat.lt_or_ge a b with h1 | h1
  · exact h1
  · have := two_pow_le h1
    omega
theorem bits_le_iff {x : Int} {m : Nat} (h : 0 ≤ x) : intBits x ≤ m ↔ x < 2 ^ m := by
  rw [intBits_le_iff]
  have h2 : ((2 ^ m : Nat) : Int) = (2 : Int) ^ m := kbt_cast _
  omega
theorem bits_lt {x : Int} (h : 0 ≤ x) : x < 2 ^ intBits x := (bits_le_iff h).mp (Nat.le_refl _)
theorem bits_ge {x : Int} (h : 0 < x) : 2 ^ (intBits x - 1) ≤ x := by
  rcases ilt x (2 ^ (intBits x - 1)) with h1 | h1
  · have h2 := (bits_le_iff (by omega)).mpr h1
    have h3 : 1 ≤ intBits x := by
      rcases Nat.eq_zero_or_pos (intBits x) with h4 | h4
      · have := (bits_le_iff (m := 0) (by omega : 0 ≤ x)).mp (by omega)
        rw [Int.pow_zero] at this
        omega
      · exact h4
    omega
  · exact h1
theorem bits_pos1 {x : Int} (h : 0 < x) : 1 ≤ intBits x := by
  rcases Nat.eq_zero_or_pos (intBits x) with h4 | h4
  · have := (bits_le_iff (m := 0) (by omega : 0 ≤ x)).mp (by omega)
    rw [Int.pow_zero] at this
    omega
  · exact h4
theorem bits_eq {x : Int} {m : Nat} (h1 : 2 ^ m ≤ x) (h2 : x < 2 ^ (m + 1)) : intBits x = m + 1 := by
  have h0 := tp m
  have h3 := (bits_le_iff (x := x) (m := m + 1) (by omega)).mpr h2
  rcases Nat.lt_or_ge m (intBits x) with h4 | h4
  · omega
  · have := (bits_le_iff (x := x) (by omega)).mp h4
    omega
theorem bits_pow (m : Nat) : intBits ((2 : Int) ^ m) = m + 1 := bits_eq (Int.le_refl _) (two_pow_lt (Nat.lt_succ_self m))
theorem bits_mul_pow {x : Int} (h : 0 < x) (t : Nat) : intBits (x * 2 ^ t) = intBits x + t := by
  have h1 := bits_ge h
  have h2 := bits_lt (Int.le_of_lt h)
  have h3 := bits_pos1 h
  have e := bits_eq (x := x * 2 ^ t) (m := intBits x - 1 + t) (by
    rw [Int.pow_add]
    exact Int.mul_le_mul_of_nonneg_right h1 (Int.le_of_lt (tp t))) (by
    rw [show intBits x - 1 + t + 1 = intBits x + t by omega, Int.pow_add]
    exact Int.mul_lt_mul_of_pos_right h2 (tp t))
  omega
theorem shr_ediv (a n : Int) : shr a n = a / 2 ^ n.toNat := by rw [shr_eq, Int.fdiv_eq_ediv_of_nonneg _ (Int.le_of_lt (tp _))]
theorem fdv_ediv {a b : Int} (hb : 0 < b) : fdv a b = a / b := by rw [fdv_eq, Int.fdiv_eq_ediv_of_nonneg _ (Int.le_of_lt hb)]
theorem fmd_emod {a b : Int} (hb : 0 < b) : fmd a b = a % b := by rw [fmd_eq, Int.fmod_eq_emod_of_nonneg _ (Int.le_of_lt hb)]
theorem band1 (x : Int) : band x 1 = x % 2 := by
  have := kbt_mask x 1
  rw [band_eq]; simpa using this
theorem band2 (x : Int) : band x 2 = (x / 2 % 2) * 2 := by
  have := kbt_bit x 1
  rw [band_eq]; simpa using this
theorem bandm (x : Int) (n : Int) : band x (shl 1 n - 1) = x % 2 ^ n.toNat := by
  rw [band_eq, shl_eq, Int.one_mul, kbt_mask]
theorem div_pow_succ (x : Int) (k : Nat) : x / 2 ^ k / 2 = x / 2 ^ (k + 1) := by
  rw [Int.pow_succ, Int.ediv_ediv_of_nonneg (Int.le_of_lt (tp k))]
theorem trail_spec {x : Int} (h : 0 < x) : ∃ (t : Nat) (a : Int), trail x = t ∧ x = (2 * a + 1) * 2 ^ t ∧ 0 ≤ a := by
  have key : ∀ (N : Nat) (n : Int), n.natAbs ≤ N → 0 < n → ∃ (k : Nat) (a : Int), n = 2 ^ k * (2 * a + 1) ∧ 0 ≤ a := by
    intro N
    induction N with
    | zero => intro n h0 h1; omega
    | succ N ih =>
      intro n h0 h1
      by_cases ho : n % 2 = 1
      · exact ⟨0, n / 2, by rw [Int.pow_zero]; omega, by omega⟩
      · obtain ⟨k, a, e, ha⟩ := ih (n / 2) (by omega) (by omega)
        refine ⟨k + 1, a, ?_, ha⟩
        have : n = 2 * (n / 2) := by omega
        rw [this, e, Int.pow_succ, Int.mul_comm (2 ^ k) 2, Int.mul_assoc]
  obtain ⟨k, a, e, ha⟩ := key _ x (Nat.le_refl _) h
  refine ⟨k, a, ?_, by rw [e, Int.mul_comm], ha⟩
  rw [trail_eq, if_neg (by omega), e, kbt_low, bits_pow]
  omega
theorem rint_cases (r : Rnd) (sg man : Int) {k : Nat} (hk : 0 < k) :
    (r.is .n = true ∧ rint r sg man k = if man / 2 ^ (k - 1) % 2 = 1 ∧ (man / 2 ^ k % 2 = 1 ∨ man % 2 ^ (k - 1) ≠ 0) then man / 2 ^ k + 1 else man / 2 ^ k) ∨
    (r.is .n = false ∧ rint r sg man k = if r.sd sg = 0 then -(-man / 2 ^ k) else man / 2 ^ k) := by
  have e : ¬ k = 0 := by omega
  cases r
  · exact .inl ⟨rfl, if_neg e⟩
  all_goals exact .inr ⟨rfl, if_neg e⟩
/-- the bounds of a rounded number -/
theorem rint_bounds {r : Rnd} {sg man : Int} {k p : Nat} (hk : 0 < k) (h1 : 2 ^ (p + k) ≤ man) (h2 : man < 2 ^ (p + 1 + k)) : 2 ^ p ≤ rint r sg man k ∧ rint r sg man k ≤ 2 ^ (p + 1) := by
  have hK := tp k
  have a1 : 2 ^ p ≤ man / 2 ^ k := by rw [Int.le_ediv_iff_mul_le hK, ← Int.pow_add]; exact h1
  have a2 : man / 2 ^ k < 2 ^ (p + 1) := by rw [Int.ediv_lt_iff_lt_mul hK, ← Int.pow_add]; exact h2
  have a3 : man / 2 ^ k ≤ -(-man / 2 ^ k) ∧ -(-man / 2 ^ k) ≤ man / 2 ^ k + 1 := by
    have b1 := Int.emod_add_mul_ediv man (2 ^ k)
    have b2 := Int.emod_add_mul_ediv (-man) (2 ^ k)
    have b3 := Int.emod_nonneg man (show (2 : Int) ^ k ≠ 0 by omega)
    have b4 := Int.emod_nonneg (-man) (show (2 : Int) ^ k ≠ 0 by omega)
    have b5 := Int.emod_lt_of_pos man hK
    have b6 := Int.emod_lt_of_pos (-man) hK
    generalize man / 2 ^ k = q at *
    generalize -man / 2 ^ k = q' at *
    generalize man % 2 ^ k = s at *
    generalize -man % 2 ^ k = s' at *
    generalize (2 : Int) ^ k = K at *
    have e : K * (q + q') = -(s + s') := by rw [Int.mul_add]; omega
    have c1 : q + q' ≤ 0 := by
      rcases ilt 0 (q + q') with h | h
      · have := Int.mul_pos hK h
        omega
      · exact h
    have c2 : -2 < q + q' := by
      rcases ilt (-2) (q + q') with h | h
      · exact h
      · have := Int.mul_le_mul_of_nonneg_left h (Int.le_of_lt hK)
        omega
    omega
  rcases rint_cases r sg man hk with ⟨_, h⟩ | ⟨_, h⟩
  · rw [h]; split <;> omega
  · rw [h]; split <;> omega
theorem norm_core {r : Rnd} {sg man exp prec m' b' : Int} {t : Nat} (hm : 0 < man) (hp : 1 ≤ prec)
    (e : m' * 2 ^ t = rint r sg man ((intBits man : Int) - prec).toNat) (ho : m' % 2 = 1)
    (hb1 : m' = 1 → b' = 1) (hb2 : m' ≠ 1 → b' = (if 0 < (intBits man : Int) - prec then prec else (intBits man : Int)) - t) :
    NormOK r sg man exp prec m' (exp + ((intBits man : Int) - prec).toNat + t) b' := by
  have hT := tp t
  by_cases hk : 0 < (intBits man : Int) - prec
  · obtain ⟨p, rfl⟩ : ∃ p : Nat, prec = p + 1 := ⟨(prec - 1).toNat, by omega⟩
    obtain ⟨k, hk'⟩ : ∃ k : Nat, intBits man = p + 1 + k := ⟨intBits man - (p + 1), by omega⟩
    have ek : ((intBits man : Int) - (p + 1)).toNat = k := by omega
    rw [ek] at e ⊢
    have g1 := bits_ge hm
    have g2 := bits_lt (Int.le_of_lt hm)
    rw [hk'] at g1 g2
    rw [show p + 1 + k - 1 = p + k by omega] at g1
    obtain ⟨r1, r2⟩ := rint_bounds (r := r) (sg := sg) (show 0 < k by omega) g1 g2
    rw [← e] at r1 r2
    have hpos : 0 < m' := by
      rcases ilt 0 m' with h | h
      · exact h
      · have := Int.mul_le_mul_of_nonneg_right h (Int.le_of_lt hT)
        have := tp p
        omega
    have hbits : b' = intBits m' := by
      by_cases h1 : m' = 1
      · rw [hb1 h1, h1]; decide
      · rw [hb2 h1, if_pos hk]
        have hlt : m' * 2 ^ t < 2 ^ (p + 1) := by
          rcases ilt (m' * 2 ^ t) (2 ^ (p + 1)) with h | h
          · exact h
          · exfalso
            have heq : m' * 2 ^ t = 2 ^ (p + 1) := by omega
            have hb := bits_mul_pow hpos t
            rw [heq, bits_pow] at hb
            have hm2 : 2 ≤ intBits m' := by
              rcases Nat.lt_or_ge (intBits m') 2 with h | h
              · have := (bits_le_iff (x := m') (m := 1) (by omega)).mp (by omega)
                rw [Int.pow_one] at this
                omega
              · exact h
            have hsplit : (2 : Int) ^ (p + 1) = 2 ^ (intBits m' - 1) * 2 ^ t := by rw [← Int.pow_add]; congr 1; omega
            rw [hsplit] at heq
            have := Int.eq_of_mul_eq_mul_right (show (2 : Int) ^ t ≠ 0 by omega) heq
            have h3 : (2 : Int) ^ (intBits m' - 1) = 2 * 2 ^ (intBits m' - 2) := by rw [show intBits m' - 1 = intBits m' - 2 + 1 by omega, Int.pow_succ, Int.mul_comm]
            omega
        have hb := bits_eq r1 hlt
        rw [bits_mul_pow hpos t] at hb
        omega
    have hle : b' ≤ p + 1 := by
      by_cases h1 : m' = 1
      · rw [hb1 h1]; omega
      · rw [hb2 h1, if_pos hk]; omega
    exact ⟨hpos, ho, hbits, hle, t, by rw [ek]; exact e, by rw [ek]⟩
  · have ek : ((intBits man : Int) - prec).toNat = 0 := by omega
    rw [ek] at e ⊢
    have e2 : m' * 2 ^ t = man := by rw [e]; unfold rint; rw [if_pos rfl]
    have hpos : 0 < m' := by
      rcases ilt 0 m' with h | h
      · exact h
      · have := Int.mul_le_mul_of_nonneg_right h (Int.le_of_lt hT)
        omega
    have hb := bits_mul_pow hpos t
    rw [e2] at hb
    have hbits : b' = intBits m' := by
      by_cases h1 : m' = 1
      · rw [hb1 h1, h1]; decide
      · rw [hb2 h1, if_neg hk]; omega
    refine ⟨hpos, ho, hbits, by omega, t, by rw [ek]; exact e, by rw [ek]⟩
section
variable {r : Rnd} {sg man exp prec M : Int}
theorem nA1 (hm : 0 < man) (hp : 1 ≤ prec) (hk : 0 < (intBits man : Int) - prec) (e : M = rint r sg man ((intBits man : Int) - prec).toNat) (ho : band M 1 ≠ 0) (h1 : M = 1) : NormOK r sg man exp prec M (exp + ((intBits man : Int) - prec)) 1 := by
  rw [band1] at ho
  have h := norm_core (r := r) (sg := sg) (exp := exp) (t := 0) (m' := M) (b' := 1) hm hp (by rw [Int.pow_zero, Int.mul_one]; exact e) (by omega) (fun _ => rfl) (fun h => absurd h1 h)
  rw [show exp + ((intBits man : Int) - prec).toNat + (0 : Nat) = exp + ((intBits man : Int) - prec) by omega] at h
  exact h
theorem nA2 (hm : 0 < man) (hp : 1 ≤ prec) (hk : 0 < (intBits man : Int) - prec) (e : M = rint r sg man ((intBits man : Int) - prec).toNat) (ho : band M 1 ≠ 0) (h1 : ¬ M = 1) : NormOK r sg man exp prec M (exp + ((intBits man : Int) - prec)) prec := by
  rw [band1] at ho
  have h := norm_core (r := r) (sg := sg) (exp := exp) (t := 0) (m' := M) (b' := prec) hm hp (by rw [Int.pow_zero, Int.mul_one]; exact e) (by omega) (fun h => absurd h h1) (fun _ => by rw [if_pos hk]; omega)
  rw [show exp + ((intBits man : Int) - prec).toNat + (0 : Nat) = exp + ((intBits man : Int) - prec) by omega] at h
  exact h
theorem nA1' (hm : 0 < man) (hp : 1 ≤ prec) (hk : ¬ 0 < (intBits man : Int) - prec) (ho : band man 1 ≠ 0) (h1 : man = 1) : NormOK r sg man exp prec man exp 1 := by
  rw [band1] at ho
  have ek : ((intBits man : Int) - prec).toNat = 0 := by omega
  have h := norm_core (r := r) (sg := sg) (exp := exp) (t := 0) (m' := man) (b' := 1) hm hp (by rw [Int.pow_zero, Int.mul_one, ek]; unfold rint; rw [if_pos rfl]) (by omega) (fun _ => rfl) (fun h => absurd h1 h)
  rw [show exp + ((intBits man : Int) - prec).toNat + (0 : Nat) = exp by omega] at h
  exact h
theorem nA2' (hm : 0 < man) (hp : 1 ≤ prec) (hk : ¬ 0 < (intBits man : Int) - prec) (ho : band man 1 ≠ 0) (h1 : ¬ man = 1) : NormOK r sg man exp prec man exp (intBits man) := by
  rw [band1] at ho
  have ek : ((intBits man : Int) - prec).toNat = 0 := by omega
  have h := norm_core (r := r) (sg := sg) (exp := exp) (t := 0) (m' := man) (b' := intBits man) hm hp (by rw [Int.pow_zero, Int.mul_one, ek]; unfold rint; rw [if_pos rfl]) (by omega) (fun h => absurd h h1) (fun _ => by rw [if_neg hk]; omega)
  rw [show exp + ((intBits man : Int) - prec).toNat + (0 : Nat) = exp by omega] at h
  exact h
theorem strip {x : Int} (h : 0 < x) : ∃ t : Nat, trail x = t ∧ shr x (trail x) * 2 ^ t = x ∧ shr x (trail x) % 2 = 1 := by
  obtain ⟨t, a, e1, e2, ha⟩ := trail_spec h
  refine ⟨t, e1, ?_⟩
  have e3 : shr x (trail x) = 2 * a + 1 := by
    rw [shr_ediv, e1, Int.toNat_natCast]
    conv => lhs; rw [e2]
    exact Int.mul_ediv_cancel _ (by have := tp t; omega)
  rw [e3]
  exact ⟨e2.symm, by omega⟩
theorem rint_pos (hm : 0 < man) (hp : 1 ≤ prec) : 0 < rint r sg man ((intBits man : Int) - prec).toNat := by
  by_cases hk : 0 < (intBits man : Int) - prec
  · obtain ⟨p, rfl⟩ : ∃ p : Nat, prec = p + 1 := ⟨(prec - 1).toNat, by omega⟩
    obtain ⟨k, hk'⟩ : ∃ k : Nat, intBits man = p + 1 + k := ⟨intBits man - (p + 1), by omega⟩
    have ek : ((intBits man : Int) - (p + 1)).toNat = k := by omega
    have g1 := bits_ge hm
    have g2 := bits_lt (Int.le_of_lt hm)
    rw [hk'] at g1 g2
    rw [show p + 1 + k - 1 = p + k by omega] at g1
    obtain ⟨r1, r2⟩ := rint_bounds (r := r) (sg := sg) (show 0 < k by omega) g1 g2
    have := tp p
    rw [ek]; omega
  · rw [show ((intBits man : Int) - prec).toNat = 0 by omega]
    unfold rint; rw [if_pos rfl]; exact hm
theorem nB1 (hm : 0 < man) (hp : 1 ≤ prec) (hk : 0 < (intBits man : Int) - prec) (e : M = rint r sg man ((intBits man : Int) - prec).toNat) (h1 : shr M (trail M) = 1) : NormOK r sg man exp prec (shr M (trail M)) (exp + ((intBits man : Int) - prec) + trail M) 1 := by
  obtain ⟨t, e1, e2, e3⟩ := strip (x := M) (by rw [e]; exact rint_pos hm hp)
  have h := norm_core (r := r) (sg := sg) (exp := exp) (t := t) (m' := shr M (trail M)) (b' := 1) hm hp (by rw [e2]; exact e) e3 (fun _ => rfl) (fun h => absurd h1 h)
  rw [show exp + ((intBits man : Int) - prec).toNat + (t : Nat) = exp + ((intBits man : Int) - prec) + trail M by omega] at h
  exact h
theorem nB2 (hm : 0 < man) (hp : 1 ≤ prec) (hk : 0 < (intBits man : Int) - prec) (e : M = rint r sg man ((intBits man : Int) - prec).toNat) (h1 : ¬ shr M (trail M) = 1) : NormOK r sg man exp prec (shr M (trail M)) (exp + ((intBits man : Int) - prec) + trail M) (prec - trail M) := by
  obtain ⟨t, e1, e2, e3⟩ := strip (x := M) (by rw [e]; exact rint_pos hm hp)
  have h := norm_core (r := r) (sg := sg) (exp := exp) (t := t) (m' := shr M (trail M)) (b' := prec - trail M) hm hp (by rw [e2]; exact e) e3 (fun h => absurd h h1) (fun _ => by rw [if_pos hk]; omega)
  rw [show exp + ((intBits man : Int) - prec).toNat + (t : Nat) = exp + ((intBits man : Int) - prec) + trail M by omega] at h
  exact h
theorem nB1' (hm : 0 < man) (hp : 1 ≤ prec) (hk : ¬ 0 < (intBits man : Int) - prec) (h1 : shr man (trail man) = 1) : NormOK r sg man exp prec (shr man (trail man)) (exp + trail man) 1 := by
  have ek : ((intBits man : Int) - prec).toNat = 0 := by omega
  obtain ⟨t, e1, e2, e3⟩ := strip hm
  have h := norm_core (r := r) (sg := sg) (exp := exp) (t := t) (m' := shr man (trail man)) (b' := 1) hm hp (by rw [e2, ek]; unfold rint; rw [if_pos rfl]) e3 (fun _ => rfl) (fun h => absurd h1 h)
  rw [show exp + ((intBits man : Int) - prec).toNat + (t : Nat) = exp + trail man by omega] at h
  exact h
theorem nB2' (hm : 0 < man) (hp : 1 ≤ prec) (hk : ¬ 0 < (intBits man : Int) - prec) (h1 : ¬ shr man (trail man) = 1) : NormOK r sg man exp prec (shr man (trail man)) (exp + trail man) ((intBits man : Int) - trail man) := by
  have ek : ((intBits man : Int) - prec).toNat = 0 := by omega
  obtain ⟨t, e1, e2, e3⟩ := strip hm
  have h := norm_core (r := r) (sg := sg) (exp := exp) (t := t) (m' := shr man (trail man)) (b' := (intBits man : Int) - trail man) hm hp (by rw [e2, ek]; unfold rint; rw [if_pos rfl]) e3 (fun h => absurd h h1) (fun _ => by rw [if_neg hk]; omega)
  rw [show exp + ((intBits man : Int) - prec).toNat + (t : Nat) = exp + trail man by omega] at h
  exact h
-- what the branches reckon is rint
theorem isn {r : Rnd} (h : r.is .n = true) : r = .n := by cases r <;> first | rfl | cases h
theorem shr1 {n : Int} (hn : 0 < n) : shr (shr man (n - 1)) 1 = man / 2 ^ n.toNat := by
  rw [shr_ediv, shr_ediv]
  have e : n.toNat = (n - 1).toNat + 1 := by omega
  rw [e, ← div_pow_succ]
  rfl
theorem rN (hr : r.is .n = true) {n : Int} (hn : 0 < n) : rint r sg man n.toNat = if shr man (n - 1) % 2 = 1 ∧ (shr man (n - 1) / 2 % 2 = 1 ∨ man % 2 ^ (n - 1).toNat ≠ 0) then man / 2 ^ n.toNat + 1 else man / 2 ^ n.toNat := by
  cases isn hr
  unfold rint
  rw [if_neg (by omega)]
  dsimp only
  have e : n.toNat - 1 = (n - 1).toNat := by omega
  have e2 : n.toNat = (n - 1).toNat + 1 := by omega
  have e3 : shr man (n - 1) / 2 = man / 2 ^ n.toNat := by rw [shr_ediv, e2, ← div_pow_succ]
  rw [e3, shr_ediv, e]
theorem r1 (hr : r.is .n = true) {n : Int} (hn : 0 < n) (h1 : band (shr man (n - 1)) 1 ≠ 0) (h2 : band (shr man (n - 1)) 2 ≠ 0) : shr (shr man (n - 1)) 1 + 1 = rint r sg man n.toNat := by
  rw [band1] at h1
  rw [band2] at h2
  rw [rN hr hn, if_pos ⟨by omega, .inl (by omega)⟩, shr1 hn]
theorem r2 (hr : r.is .n = true) {n : Int} (hn : 0 < n) (h1 : band (shr man (n - 1)) 1 ≠ 0) (h2 : band man (shl 1 (n - 1) - 1) ≠ 0) : shr (shr man (n - 1)) 1 + 1 = rint r sg man n.toNat := by
  rw [band1] at h1
  rw [bandm] at h2
  rw [rN hr hn, if_pos ⟨by omega, .inr h2⟩, shr1 hn]
theorem r3 (hr : r.is .n = true) {n : Int} (hn : 0 < n) (h1 : ¬ band (shr man (n - 1)) 2 ≠ 0) (h2 : ¬ band man (shl 1 (n - 1) - 1) ≠ 0) : shr (shr man (n - 1)) 1 = rint r sg man n.toNat := by
  rw [band2] at h1
  rw [bandm] at h2
  rw [rN hr hn, if_neg (by rintro ⟨_, h | h⟩ <;> omega), shr1 hn]
theorem r4 (hr : r.is .n = true) {n : Int} (hn : 0 < n) (h1 : ¬ band (shr man (n - 1)) 1 ≠ 0) : shr (shr man (n - 1)) 1 = rint r sg man n.toNat := by
  rw [band1] at h1
  rw [rN hr hn, if_neg (by rintro ⟨h, _⟩; omega), shr1 hn]
theorem r5 (hr : r.is .n = false) {n : Int} (hn : 0 < n) (h1 : r.sd sg ≠ 0) : shr man n = rint r sg man n.toNat := by
  rcases rint_cases r sg man (show 0 < n.toNat by omega) with ⟨h, _⟩ | ⟨_, h⟩
  · rw [hr] at h; cases h
  · rw [h, if_neg h1, shr_ediv]
theorem r6 (hr : r.is .n = false) {n : Int} (hn : 0 < n) (h1 : ¬ r.sd sg ≠ 0) : -shr (-man) n = rint r sg man n.toNat := by
  rcases rint_cases r sg man (show 0 < n.toNat by omega) with ⟨h, _⟩ | ⟨_, h⟩
  · rw [hr] at h; cases h
  · rw [h, if_pos (by omega), shr_ediv]
end
theorem done4s {sg : Int} {P : Int → Int → Int → Prop} {Q : Value → Shared → Prop} {s : Shared} {h₀ : Heap} {L : Addr} {m : Str → Option Value} {news nl : Led} {h' : Heap} {tk' : Nat} {D : Addr} {m' e' b' : Int} {ta tb tc td : Tok}
    (hret : ∀ (v : Value) (tl : Led) (h' : Heap) (tk' : Nat), (∃ D m' e' b' ta tb tc td, v = .ref D ∧ tl = [(D, ({ cls := .type "tuple", data := .seq #[.int sg ta, .int m' tb, .int e' tc, .int b' td] } : Obj))] ∧ P m' e' b') → Fr h₀ L h' m → News h₀ L h' (tl ++ news) → Q v { s with heap := h', toks := tk' })
    (F : Fr h₀ L h' m) (N : News h₀ L h' nl) (hx : (D, ({ cls := .type "tuple", data := .seq #[.int sg ta, .int m' tb, .int e' tc, .int b' td] } : Obj)) ∈ nl) (hn : ∀ p ∈ news, p ∈ nl) (H : P m' e' b') : Q (.ref D) { s with heap := h', toks := tk' } :=
  hret _ [_] _ _ ⟨_, _, _, _, _, _, _, _, rfl, rfl, H⟩ F (fun p hp => by
    rcases List.mem_cons.mp hp with rfl | hp
    · exact N _ hx
    · exact N _ (hn _ hp))
theorem in1 {news : Led} {a : Addr × Obj} : ∀ p ∈ news, p ∈ a :: news := fun _ h => .tail _ h
theorem in2 {news : Led} {a b : Addr × Obj} : ∀ p ∈ news, p ∈ a :: b :: news := fun _ h => .tail _ (.tail _ h)
theorem in3 {news : Led} {a b c : Addr × Obj} : ∀ p ∈ news, p ∈ a :: b :: c :: news := fun _ h => .tail _ (.tail _ (.tail _ h))
end -- M0
section -- M8
open PySem.Builtin.Int (intBits)

theorem band_sgn {sg n : Int} (hs : sg = 0 ∨ sg = 1) : band sg n = if sg = 1 ∧ n % 2 = 1 then 1 else 0 := by
  rcases hs with rfl | rfl
  · rw [if_neg (by omega), band_eq]
    have := kbt_mask' n 0
    simpa [Int.emod_one] using this
  · have h : band 1 n = n % 2 := by
      have := kbt_mask' n 1
      rw [band_eq]; simpa using this
    rw [h]
    split <;> omega
theorem band_01 {sg n : Int} (hs : sg = 0 ∨ sg = 1) : band sg n = 0 ∨ band sg n = 1 := by
  rw [band_sgn hs]; split <;> simp
theorem bits_shr {x : Int} {k : Nat} (hx : 0 < x) (hk : k < intBits x) : intBits (x / 2 ^ k) = intBits x - k := by
  have h1 := bits_ge hx
  have h2 := bits_lt (Int.le_of_lt hx)
  have e := bits_eq (x := x / 2 ^ k) (m := intBits x - k - 1) (by
    rw [Int.le_ediv_iff_mul_le (tp k), ← Int.pow_add, show intBits x - k - 1 + k = intBits x - 1 by omega]; exact h1) (by
    rw [Int.ediv_lt_iff_lt_mul (tp k), ← Int.pow_add, show intBits x - k - 1 + 1 + k = intBits x by omega]; exact h2)
  omega
theorem mul_bits {a b : Int} (ha : 0 < a) (hb : 0 < b) : intBits a + intBits b - 2 < intBits (mulI a b) ∧ intBits (mulI a b) ≤ intBits a + intBits b ∧ 0 < mulI a b := by
  rw [mulI_eq]
  have h1 := bits_ge ha
  have h2 := bits_lt (Int.le_of_lt ha)
  have h3 := bits_ge hb
  have h4 := bits_lt (Int.le_of_lt hb)
  have h5 := bits_pos1 ha
  have h6 := bits_pos1 hb
  have hp := Int.mul_pos ha hb
  refine ⟨?_, ?_, hp⟩
  · rcases Nat.lt_or_ge (intBits a + intBits b - 2) (intBits (a * b)) with h | h
    · exact h
    · have g := (bits_le_iff (Int.le_of_lt hp)).mp h
      rw [show intBits a + intBits b - 2 = intBits a - 1 + (intBits b - 1) by omega, Int.pow_add] at g
      have := Int.mul_le_mul h1 h3 (Int.le_of_lt (tp _)) (Int.le_of_lt ha)
      omega
  · rw [bits_le_iff (Int.le_of_lt hp), Int.pow_add]
    exact Int.mul_lt_mul h2 (Int.le_of_lt h4) hb (Int.le_of_lt (tp _))
theorem bits_prod {a b : Int} (ha : 0 < a) (hb : 0 < b) : (intBits a : Int) + ((intBits b : Int) - 2) + intBits (shr (mulI a b) ((intBits a : Int) + ((intBits b : Int) - 2))) = intBits (mulI a b) := by
  obtain ⟨h1, h2, h3⟩ := mul_bits ha hb
  have h5 := bits_pos1 ha
  have h6 := bits_pos1 hb
  rw [shr_ediv, show ((intBits a : Int) + ((intBits b : Int) - 2)).toNat = intBits a + intBits b - 2 by omega, bits_shr h3 h1]
  omega
theorem bits_prod2 {a b : Int} (ha : 0 < a) (hb : 0 < b) : (intBits a : Int) + intBits b - 2 + intBits (shr (mulI a b) ((intBits a : Int) + intBits b - 2)) = intBits (mulI a b) := by
  have h := bits_prod ha hb
  rw [show (intBits a : Int) + ((intBits b : Int) - 2) = (intBits a : Int) + intBits b - 2 by omega] at h
  exact h
theorem shr_bits {x : Int} {w : Int} (hx : 0 < x) (hw : 1 ≤ w) (h : w < intBits x) : 0 < shr x (intBits x - w) ∧ w = intBits (shr x (intBits x - w)) := by
  have e := bits_shr (k := ((intBits x : Int) - w).toNat) hx (by omega)
  rw [shr_ediv]
  refine ⟨?_, by omega⟩
  have : 1 ≤ x / 2 ^ ((intBits x : Int) - w).toNat := by
    rw [Int.le_ediv_iff_mul_le (tp _), Int.one_mul]
    have := bits_ge hx
    have := two_pow_le (a := ((intBits x : Int) - w).toNat) (b := intBits x - 1) (by omega)
    omega
  omega
/-- truncation to wp digits -/
def TR (wp : Nat) (x e x' e' b' : Int) : Prop := (intBits x ≤ wp ∧ x' = x ∧ e' = e ∧ b' = intBits x) ∨ ((wp : Int) < intBits x ∧ x' = shr x ((intBits x : Int) - wp) ∧ e' = e + ((intBits x : Int) - wp) ∧ b' = wp)
theorem near_mono {t m c c' : Int} {d W : Nat} (h : Near t m d c W) (ht : 0 ≤ t) (hc : c ≤ c') : Near t m d c' W :=
  ⟨h.1, Int.le_trans (Int.mul_le_mul_of_nonneg_left (by omega) ht) h.2⟩
theorem near_mul {A B a b ca cb : Int} {da db W : Nat} (hA : 0 ≤ A) (hB : 0 ≤ B) (ha : 0 ≤ a) (hb : 0 ≤ b) (hca : 0 ≤ ca) (hcb : 0 ≤ cb) (hcW : ca ≤ 2 ^ W) (hcW2 : cb ≤ 2 ^ W) (h1 : Near A a da ca W) (h2 : Near B b db cb W) : Near (A * B) (a * b) (da + db) (ca + cb) W := by
  obtain ⟨u1, l1⟩ := h1
  obtain ⟨u2, l2⟩ := h2
  have pV := tp W
  have pa := tp da
  have pb := tp db
  unfold Near
  rw [Int.pow_add]
  generalize (2 : Int) ^ W = V at *
  generalize (2 : Int) ^ da = X at *
  generalize (2 : Int) ^ db = Y at *
  have eX : a * b * (X * Y) = (a * X) * (b * Y) := by grind
  have nX : 0 ≤ a * X := Int.mul_nonneg ha (Int.le_of_lt pa)
  have nY : 0 ≤ b * Y := Int.mul_nonneg hb (Int.le_of_lt pb)
  rw [eX]
  generalize a * X = x at *
  generalize b * Y = y at *
  refine ⟨Int.mul_le_mul u1 u2 nY hA, ?_⟩
  have k1 : (A * (V - ca)) * (B * (V - cb)) ≤ (x * V) * (y * V) := Int.mul_le_mul l1 l2 (Int.mul_nonneg hB (by omega)) (Int.mul_nonneg nX (Int.le_of_lt pV))
  have k2 : 0 ≤ A * B * (ca * cb) := Int.mul_nonneg (Int.mul_nonneg hA hB) (Int.mul_nonneg hca hcb)
  have k3 : (A * (V - ca)) * (B * (V - cb)) = (A * B * (V - (ca + cb))) * V + A * B * (ca * cb) := by grind
  have k4 : (x * V) * (y * V) = (x * y * V) * V := by grind
  rw [k3, k4] at k1
  have k5 : (A * B * (V - (ca + cb))) * V ≤ (x * y * V) * V := by omega
  exact Int.le_of_mul_le_mul_right k5 pV
theorem near_tr {A x e x' e' b' c : Int} {d W : Nat} (hx : 0 < x) (h : Near A x d c W) (hA : 0 ≤ A) (t : TR (W + 1) x e x' e' b') :
    ∃ d' : Nat, e' = e + ((d' : Int) - d) ∧ Near A x' d' (c + 1) W ∧ 0 < x' ∧ b' = intBits x' ∧ intBits x' ≤ W + 1 := by
  rcases t with ⟨h1, rfl, rfl, rfl⟩ | ⟨h1, e1, rfl, rfl⟩
  · exact ⟨d, by omega, near_mono h hA (by omega), hx, rfl, h1⟩
  · obtain ⟨g1, g2⟩ := shr_bits (w := ((W + 1 : Nat) : Int)) hx (by omega) h1
    rw [← e1] at g1 g2
    refine ⟨d + ((intBits x : Int) - (W + 1 : Nat)).toNat, by omega, ?_, g1, g2, by omega⟩
    obtain ⟨k, hk⟩ : ∃ k : Nat, ((intBits x : Int) - (W + 1 : Nat)).toNat = k := ⟨_, rfl⟩
    rw [shr_ediv, hk] at e1
    rw [hk]
    obtain ⟨u, l⟩ := h
    have q1 : x' * 2 ^ k ≤ x := by rw [e1]; exact Int.ediv_mul_le _ (by have := tp k; omega)
    have q2 : x < (x' + 1) * 2 ^ k := by
      rw [e1]
      exact Int.lt_ediv_add_one_mul_self x (tp k)
    have q3 : 2 ^ k * 2 ^ W ≤ x := by
      rw [← Int.pow_add]
      have := bits_ge hx
      rw [show k + W = intBits x - 1 by omega]
      exact this
    have pK := tp k
    have pV := tp W
    have pD := tp d
    unfold Near
    rw [Int.pow_add]
    clear e1 hk
    generalize (2 : Int) ^ k = K at *
    generalize (2 : Int) ^ W = V at *
    generalize (2 : Int) ^ d = D at *
    have s1 : x' * (D * K) = (x' * K) * D := by grind
    rw [s1]
    have s2 : x' * K * D ≤ x * D := Int.mul_le_mul_of_nonneg_right q1 (Int.le_of_lt pD)
    refine ⟨by omega, ?_⟩
    have s3 : x * D * V ≤ (x' + 1) * K * D * V := Int.mul_le_mul_of_nonneg_right (Int.mul_le_mul_of_nonneg_right (Int.le_of_lt q2) (Int.le_of_lt pD)) (Int.le_of_lt pV)
    have s4 : (x' + 1) * K * D * V = x' * K * D * V + (K * V) * D := by grind
    have s5 : K * V * D ≤ x * D := Int.mul_le_mul_of_nonneg_right q3 (Int.le_of_lt pD)
    have s6 : A * (V - (c + 1)) = A * (V - c) - A := by grind
    omega
section
variable {man exp n : Int} {wp : Nat} {cn cm ce cp cq : Int} {ta tb tc td te tf tg : Tok}
theorem pow_nonneg' {x : Int} (h : 0 ≤ x) (k : Nat) : 0 ≤ x ^ k := Int.pow_nonneg h
theorem PInv.even (hm : 0 < man) (hwp : 9 ≤ wp) (hwp2 : wp ≤ 200) (hn : n ≤ 60) (hI : PInv man exp n wp ⟨cn, cm, ce, intBits cm, cp, cq, intBits cp, ta, tb, tc, td, te, tf, tg⟩)
    (he : cn % 2 = 0) {m' e' b' : Int} {sa sb sc sd se sf sg : Tok} (t : TR wp (mulI cm cm) (ce + ce) m' e' b') :
    PInv man exp n wp ⟨fdv cn 2, m', e', b', cp, cq, intBits cp, sa, sb, sc, sd, se, sf, sg⟩ := by
  obtain ⟨h1, h2, h3, _, _, h6, h7, i, a, dm, dp, k1, k2, k3, k4, k5⟩ := hI
  dsimp only at *
  obtain ⟨W, rfl⟩ : ∃ W, wp = W + 1 := ⟨wp - 1, by omega⟩
  have pi := tp i
  have hI2 : 2 ^ i ≤ n := by
    have := Int.mul_le_mul_of_nonneg_left h1 (Int.le_of_lt pi)
    omega
  have hV : (2 : Int) ^ 8 ≤ 2 ^ W := two_pow_le (by omega)
  have hV2 : (256 : Int) ≤ 2 ^ W := by have : (2 : Int) ^ 8 = 256 := by decide
                                       omega
  have hA : 0 ≤ man ^ 2 ^ i := pow_nonneg' (Int.le_of_lt hm) _
  rw [Nat.add_sub_cancel] at *
  have n1 := near_mul hA hA (Int.le_of_lt h2) (Int.le_of_lt h2) (by omega) (by omega) (by omega) (by omega) k4 k4
  rw [← mulI_eq cm cm] at n1
  obtain ⟨d', g1, g2, g3, g4, g5⟩ := near_tr (mul_bits h2 h2).2.2 n1 (Int.mul_nonneg hA hA) t
  refine ⟨?_, g3, h3, g4, rfl, by show intBits m' ≤ 200; omega, h7, i + 1, a, d', dp, ?_, ?_, k3, ?_, ?_⟩
  · show 1 ≤ fdv cn 2
    rw [fdv_ediv (by decide)]; omega
  · show (a : Int) + 2 ^ (i + 1) * fdv cn 2 = n
    rw [fdv_ediv (by decide), Int.pow_succ, Int.mul_assoc, show 2 * (cn / 2) = cn by omega]; exact k1
  · show e' = exp * 2 ^ (i + 1) + d'
    rw [Int.pow_succ, ← Int.mul_assoc]; omega
  · rw [Nat.add_sub_cancel]
    have e1 : man ^ 2 ^ (i + 1) = man ^ 2 ^ i * man ^ 2 ^ i := by rw [← Int.pow_add, Nat.pow_succ, Nat.mul_two]
    rw [e1]
    refine near_mono g2 (Int.mul_nonneg hA hA) ?_
    rw [Int.pow_succ]; omega
  · rw [Nat.add_sub_cancel]; exact k5
theorem PInv.pm (hm : 0 < man) (hwp : 9 ≤ wp) (hn : n ≤ 60) (hI : PInv man exp n wp ⟨cn, cm, ce, intBits cm, cp, cq, intBits cp, ta, tb, tc, td, te, tf, tg⟩)
    {p' q' r' : Int} (t : TR wp (mulI cp cm) (cq + ce) p' q' r') :
    0 < p' ∧ r' = intBits p' ∧ intBits p' ≤ wp ∧ ∃ (i a dm dp : Nat), (a : Int) + 2 ^ i * (cn - 1) = n ∧ ce = exp * 2 ^ i + dm ∧ q' = exp * a + dp ∧ Near (man ^ (2 ^ i)) cm dm (2 ^ i - 1) (wp - 1) ∧ Near (man ^ a) p' dp a (wp - 1) := by
  obtain ⟨h1, h2, h3, _, _, h6, h7, i, a, dm, dp, k1, k2, k3, k4, k5⟩ := hI
  dsimp only at *
  obtain ⟨W, rfl⟩ : ∃ W, wp = W + 1 := ⟨wp - 1, by omega⟩
  have pi := tp i
  have hI2 : 2 ^ i ≤ n := by
    have := Int.mul_le_mul_of_nonneg_left h1 (Int.le_of_lt pi)
    omega
  have hI3 : (a : Int) ≤ n := by
    have := Int.mul_le_mul_of_nonneg_left h1 (Int.le_of_lt pi)
    omega
  have hV : (2 : Int) ^ 8 ≤ 2 ^ W := two_pow_le (by omega)
  have hV2 : (256 : Int) ≤ 2 ^ W := by have : (2 : Int) ^ 8 = 256 := by decide
                                       omega
  have hA : 0 ≤ man ^ 2 ^ i := pow_nonneg' (Int.le_of_lt hm) _
  have hB : 0 ≤ man ^ a := pow_nonneg' (Int.le_of_lt hm) _
  rw [Nat.add_sub_cancel] at *
  have n1 := near_mul hB hA (Int.le_of_lt h3) (Int.le_of_lt h2) (by omega) (by omega) (by omega) (by omega) k5 k4
  rw [← mulI_eq cp cm] at n1
  obtain ⟨d', g1, g2, g3, g4, g5⟩ := near_tr (mul_bits h3 h2).2.2 n1 (Int.mul_nonneg hB hA) t
  have c2 : ((2 ^ i : Nat) : Int) = (2 : Int) ^ i := kbt_cast i
  refine ⟨g3, g4, g5, i, a + 2 ^ i, dm, d', ?_, k2, ?_, k4, ?_⟩
  · rw [Int.mul_sub, Int.mul_one, Int.natCast_add, c2]; omega
  · rw [Int.natCast_add, c2, Int.mul_add]; omega
  · rw [Int.pow_add, Int.natCast_add, c2]
    exact near_mono g2 (Int.mul_nonneg hB hA) (by omega)
theorem PInv.odd (hm : 0 < man) (hwp : 9 ≤ wp) (hwp2 : wp ≤ 200) (hn : n ≤ 60) (hI : PInv man exp n wp ⟨cn, cm, ce, intBits cm, cp, cq, intBits cp, ta, tb, tc, td, te, tf, tg⟩)
    (he : cn % 2 = 1) (hc : cn - 1 ≠ 0) {m' e' b' p' q' r' : Int} {sa sb sc sd se sf sg : Tok} (t : TR wp (mulI cp cm) (cq + ce) p' q' r') (t2 : TR wp (mulI cm cm) (ce + ce) m' e' b') :
    PInv man exp n wp ⟨fdv (cn - 1) 2, m', e', b', p', q', r', sa, sb, sc, sd, se, sf, sg⟩ := by
  obtain ⟨f1, f2, f3, i, a, dm, dp, f4, f5, f6, f7, f8⟩ := hI.pm hm hwp hn t
  subst f2
  obtain ⟨h1, h2, h3, _, _, h6, h7, _⟩ := hI
  dsimp only at *
  have hJ : PInv man exp n wp ⟨cn - 1, cm, ce, intBits cm, p', q', intBits p', ta, tb, tc, td, te, tf, tg⟩ := ⟨by show 1 ≤ cn - 1; omega, h2, f1, rfl, rfl, h6, by show intBits p' ≤ 200; omega, i, a, dm, dp, f4, f5, f6, f7, f8⟩
  exact hJ.even hm hwp hwp2 hn (by omega) t2
theorem PInv.fin {prec : Int} (hp : 1 ≤ prec) (hm : 0 < man) (hn3 : 3 ≤ n) (hn : n ≤ 60) (hwp : wp = (prec + 4 * (intBits n) + 4).toNat) (hI : PInv man exp n wp ⟨cn, cm, ce, intBits cm, cp, cq, intBits cp, ta, tb, tc, td, te, tf, tg⟩)
    (hc : cn - 1 = 0) {p' q' r' : Int} (t : TR wp (mulI cp cm) (cq + ce) p' q' r') : 0 < p' ∧ r' = intBits p' ∧ intBits p' ≤ wp ∧ PowNear man exp n prec p' q' := by
  have hbl : 2 ≤ intBits n := by
    rcases Nat.lt_or_ge (intBits n) 2 with h | h
    · have := (bits_le_iff (x := n) (m := 1) (by omega)).mp (by omega)
      rw [Int.pow_one] at this
      omega
    · exact h
  obtain ⟨f1, f2, f3, i, a, dm, dp, f4, f5, f6, f7, f8⟩ := hI.pm hm (by omega) hn t
  refine ⟨f1, f2, f3, dp, ?_, ?_⟩
  · rw [hc, Int.mul_zero, Int.add_zero] at f4
    rw [← f4]; exact f6
  · rw [hc, Int.mul_zero, Int.add_zero] at f4
    have e1 : n.toNat = a := by omega
    rw [e1]
    refine ⟨f8.1, ?_⟩
    have l := f8.2
    have hA : 0 ≤ man ^ a := pow_nonneg' (Int.le_of_lt hm) _
    obtain ⟨u, hu⟩ : ∃ u, wp - 1 = prec.toNat + 8 + u := ⟨wp - 1 - (prec.toNat + 8), by omega⟩
    rw [hu, Int.pow_add] at l
    have hU : (a : Int) ≤ 2 ^ u := by
      have h1 := bits_lt (x := n) (by omega)
      have h2 := two_pow_le (a := intBits n) (b := u) (by omega)
      omega
    have pU := tp u
    have pK := tp (prec.toNat + 8)
    generalize (2 : Int) ^ u = U at *
    generalize (2 : Int) ^ (prec.toNat + 8) = K at *
    generalize p' * 2 ^ dp = y at *
    generalize man ^ a = A at *
    have s1 : A * (K * U - U) ≤ A * (K * U - a) := Int.mul_le_mul_of_nonneg_left (by omega) hA
    have s2 : A * (K * U - U) = A * (K - 1) * U := by grind
    have s3 : y * (K * U) = y * K * U := by grind
    rw [s3] at l
    rw [s2] at s1
    exact Int.le_of_mul_le_mul_right (Int.le_trans s1 l) pU
end
end -- M8
section -- B3
open PySem.Builtin.Int (intBits)

abbrev TellB (w : World) (f : Addr) (news : Led) (vs : List Value) (d : Nat) (G : Heap → Prop) (R : Value → Led → Prop) : Prop :=
  ∀ (p : Program) (loose : List Str) (mean : ExcName → Option Value) (mg mb : Str → Option Value) (dp un : Nat) (gd : Option (List Code)) (cn : Str) (cs : Scope) (a : Addr) (ccd : Value) (cl : List (Str × Addr)) (outer : List Env) (A₀ : Around) (base h₀ : Heap) (L : Addr) (m : Str → Option Value) (s : Shared) (Q E : Value → Shared → Prop),
    G base → Below A₀ base outer h₀ → Fr h₀ L s.heap m → (Mine.hd.heap_39 w.params).In h₀ → News h₀ L s.heap news → Top p loose mean mg mb h₀ → cs.kind = .function →
    dp + d < recursionLimit → un + 8 * d < cLine →
    (∀ (v : Value) (tl : Led) (h' : Heap) (tk' : Nat), R v tl → Fr h₀ L h' m → News h₀ L h' (tl ++ news) → Q v { s with heap := h', toks := tk' }) →
    wpAny (model PySem.Challenge.rw_ah5005_01.row.prog w) (ktrTop dp un gd cn cs L a ccd cl outer) (call (.ref f) vs) Q E s
theorem ipw2_pos (n : Int) : 0 < ipw 2 n := by rw [ipw_eq]; exact tp _
theorem ipw2_bits {n : Int} {k : Nat} (h : n ≤ k) : intBits (ipw 2 n) ≤ k + 1 := by rw [ipw_eq, bits_pow]; omega
section
variable {prog : Program} {w : World} {A : Around} {E : Value → Shared → Prop} {s : Shared} {a b n : Int} {t u : Tok} {Q : Value → Shared → Prop} {h₀ : Heap} {L : Addr} {m : Str → Option Value} {news : List (Addr × Obj)}
theorem ediv_rule (hb : 0 < b) (hbits : intBits b ≤ 8000) (h : Q (.int (a / b) s.toks) { s with toks := s.toks + 1 }) : wpAny (model prog w) A (binaryOp .FloorDiv (.int a t) (.int b u)) Q E s := fdv_rule (by omega) hbits (by rw [fdv_ediv hb]; exact h)
theorem emod_rule (hb : 0 < b) (h : Q (.int (a % b) s.toks) { s with toks := s.toks + 1 }) : wpAny (model prog w) A (binaryOp .Mod (.int a t) (.int b u)) Q E s := fmd_rule (by omega) (by rw [fmd_emod hb]; exact h)
theorem edivp_rule (hn : n ≤ 7000) (h : Q (.int (a / ipw 2 n) s.toks) { s with toks := s.toks + 1 }) : wpAny (model prog w) A (binaryOp .FloorDiv (.int a t) (.int (ipw 2 n) u)) Q E s := ediv_rule (ipw2_pos n) (Nat.le_trans (ipw2_bits (k := 7000) (by omega)) (by decide)) h
theorem emodp_rule (h : Q (.int (a % ipw 2 n) s.toks) { s with toks := s.toks + 1 }) : wpAny (model prog w) A (binaryOp .Mod (.int a t) (.int (ipw 2 n) u)) Q E s := emod_rule (ipw2_pos n) h
end
theorem raw_man {m k : Int} (hk : 1 ≤ k) (hk2 : k ≤ 60) : 0 < m % ipw 2 k / 2 * 2 + 1 ∧ intBits (m % ipw 2 k / 2 * 2 + 1) ≤ 60 := by
  have h1 := Int.emod_nonneg m (show ipw 2 k ≠ 0 by have := ipw2_pos k; omega)
  have h2 := Int.emod_lt_of_pos m (ipw2_pos k)
  have h0 : 0 < m % ipw 2 k / 2 * 2 + 1 := by omega
  refine ⟨h0, ?_⟩
  rw [bits_le_iff (by omega)]
  have h3 : ipw 2 k = 2 * 2 ^ (k.toNat - 1) := by rw [ipw_eq, show k.toNat = k.toNat - 1 + 1 by omega, Int.pow_succ, Int.mul_comm, Nat.add_sub_cancel]
  have h4 := two_pow_le (a := k.toNat) (b := 60) (by omega)
  rw [← ipw_eq] at h4
  omega
theorem raw_man2 {k : Int} (hk : 1 ≤ k) (hk2 : k ≤ 60) : 0 < ipw 2 k - 1 ∧ intBits (ipw 2 k - 1) ≤ 60 := by
  have h4 := two_pow_le (a := k.toNat) (b := 60) (by omega)
  have h5 := two_pow_le (a := 1) (b := k.toNat) (by omega)
  rw [← ipw_eq] at h4 h5
  have h6 : (2 : Int) ^ 1 = 2 := by decide
  refine ⟨by omega, ?_⟩
  rw [bits_le_iff (by omega)]
  omega
theorem raw_man3 {k : Int} (hk : 1 ≤ k) (hk2 : k ≤ 59) : 0 < ipw 2 k + 1 ∧ intBits (ipw 2 k + 1) ≤ 60 := by
  have h4 := two_pow_le (a := k.toNat) (b := 59) (by omega)
  have h5 := two_pow_le (a := 1) (b := k.toNat) (by omega)
  rw [← ipw_eq] at h4 h5
  have h6 : (2 : Int) ^ 1 = 2 := by decide
  have h7 : (2 : Int) ^ 60 = 2 * 2 ^ 59 := by decide
  refine ⟨by omega, ?_⟩
  rw [bits_le_iff (by omega)]
  omega
theorem drop1 {h₀ h : Heap} {L : Addr} {x y : Addr × Obj} {r : Led} (N : News h₀ L h (x :: y :: r)) : News h₀ L h (x :: r) := fun p hp => by
  rcases List.mem_cons.mp hp with rfl | hp
  · exact N _ (.head _)
  · exact N _ (.tail _ (.tail _ hp))
def RawOK (sg man e bc : Int) : Prop := (sg = 0 ∧ man = 0 ∧ e = 0 ∧ bc = 0) ∨ ((sg = 0 ∨ sg = 1) ∧ 0 < man ∧ intBits man ≤ 60 ∧ -20 ≤ e ∧ e ≤ 20 ∧ bc = intBits man)
end -- B3
section -- B4
open PySem.Builtin.Int (intBits)

section
variable {prog : Program} {w : World} {A : Around} {E : Value → Shared → Prop} {s : Shared} {a b c d a' b' c' d' : Int} {ta tb tc td ua ub uc ud : Tok} {Q : Value → Shared → Prop} {D1 D2 : Addr}
theorem eqvA (x y : Int) : (decide (x = y)) = (x == y) := rfl
theorem eq4_rule (h1 : s.heap.get? D1 = some (I4 a b c d ta tb tc td)) (h2 : s.heap.get? D2 = some (I4 a' b' c' d' ua ub uc ud)) (hu : A.units + 64 < cLine) (h : Q (.bool (decide (a = a' ∧ b = b' ∧ c = c' ∧ d = d'))) s) :
    wpAny (model prog w) A (compareOp .Eq (.ref D1) (.ref D2)) Q E s := by
  refine eq_dataH (reads_tuple_at h1 rfl rfl (ReadsAll.cons (Reads.int _ _) (ReadsAll.cons (Reads.int _ _) (ReadsAll.cons (Reads.int _ _) (ReadsAll.cons (Reads.int _ _) ReadsAll.nil))))) (reads_tuple_at h2 rfl rfl (ReadsAll.cons (Reads.int _ _) (ReadsAll.cons (Reads.int _ _) (ReadsAll.cons (Reads.int _ _) (ReadsAll.cons (Reads.int _ _) ReadsAll.nil))))) (by first | rfl | decide) (by first | rfl | decide) hu ?_
  have e : ∀ x y : Bool, x = y → Q (.bool y) s → Q (.bool x) s := fun x y e h => e ▸ h
  refine e _ _ ?_ h
  simp [PyData.eqv, PyData.eqvAll]
  rfl
end
end -- B4
section -- B5
open PySem.Builtin.Int (intBits)

section
variable {prog : Program} {w : World} {A : Around} {E : Value → Shared → Prop} {s : Shared} {h₀ : Heap} {L : Addr} {m : Str → Option Value} {news : List (Addr × Obj)}
theorem applied_two {sl : Addr} {u : Tok} {Q : Int × Int × Nat → Shared → Prop} (hs : s.heap.IsSliceOf sl .none (.int 2 u) .none) (h : Q (0, 1, 2) s) :
    wpAny (model prog w) A (Builtin.Slice.sliceApplied (.ref sl) (pure (4 : Int))) Q E s := by
  obtain ⟨os, hos, hcs, hds⟩ := id hs
  unfold Builtin.Slice.sliceApplied Builtin.Slice.sliceFields
  refine wpAny_bind (wpAny_bind (wpAny_field hos hds (x := .none) rfl (wpAny_bind (wpAny_field hos hds (x := .int 2 u) rfl (wpAny_bind (wpAny_field hos hds (x := .none) rfl (wpAny_pure ?_)))))))
  refine wpAny_bind (slicePart_none ?_)
  show wpAny _ _ (if ((1 : Int) == 0) = true then _ else _) _ _ s
  rw [if_neg (by decide)]
  refine wpAny_bind (slicePart_none (wpAny_bind (slicePart_int (wpAny_bind (wpAny_pure ?_)))))
  exact wpAny_pure h
theorem item_two {t sl : Addr} {a b c d : Int} {ta tb tc td u : Tok} {Q : Value → Shared → Prop} (ht : IsTup s.heap t #[.int a ta, .int b tb, .int c tc, .int d td]) (hs : s.heap.IsSliceOf sl .none (.int 2 u) .none)
    (h : Q (.ref s.heap.objs.size) { s with heap := s.heap.push { cls := .type "tuple", data := .seq #[.int a ta, .int b tb] } }) : wpAny (model prog w) A (getItem (.ref t) (.ref sl)) Q E s := by
  obtain ⟨os, hos, hcs, hds⟩ := id hs
  have hTs : s.TypeIs (.ref sl) "slice" := ⟨os, hos, hcs⟩
  unfold getItem
  try with_reducible refine wpAny_holding ?_
  first | refine wpAny_bind (wpAny_pure ?_) | skip
  refine wpAny_bind (wpAny_sequenceKey ht.typeIs (by decide) ?_)
  refine wpAny_bind (wpAny_callSpecial?_slot (name := Str.ofString "__getitem__") ht.typeIs slot_tuple_getitem
    (wpAny_call_entry slot_tuple_getitem ht.typeIs entry_tuple_getitem ?_ (args_tuple_getitem _ _)))
  show wpAny _ _ (Builtin.Tuple.tupleItemsOf (.ref t) >>= _) _ _ s
  refine wpAny_bind (tupleItemsOf_ ht ?_)
  refine wpAny_bind (wpAny_typeOf hTs ?_)
  rw [if_pos (by decide)]
  refine wpAny_bind (applied_two hs ?_)
  show wpAny _ _ (if ((0 : Int) == 0 && (1 : Int) == 1 && (2 == 4)) = true then _ else _) _ _ s
  rw [if_neg (by decide)]
  have hz : sizeOk (.seq #[Value.int a ta, Value.int b tb]) := by
    show 2 ≤ sizeLine
    rw [sizeLine_eq]; decide
  first
    | exact wpAny_bind (m := Builtin.Tuple.tupleExact _) (wpAny_newObj_type (wpAny_pure ⟨_, rfl, wpAny_pure h⟩) hz)
    | exact wpAny_bind (m := Builtin.Tuple.tupleExact _) (wpAny_newObj_type (wpAny_bind (wpAny_pure (wpAny_pure ⟨_, rfl, wpAny_pure h⟩))) hz)
    | exact wpAny_bind (wpAny_bind (m := Builtin.Tuple.tupleExact _) (wpAny_newObj_type (wpAny_pure (wpAny_pure ⟨_, rfl, wpAny_pure h⟩)) hz))
    | exact wpAny_bind (wpAny_bind (m := Builtin.Tuple.tupleExact _) (wpAny_newObj_type (wpAny_pure ⟨_, rfl, wpAny_pure h⟩) hz))
theorem slice_two {value slice : Expr} {t : Addr} {a b c d : Int} {ta tb tc td u : Tok} {Q : Value → Shared → Prop}
    (F : Fr h₀ L s.heap m) (N : News h₀ L s.heap news) (ht : IsTup s.heap t #[.int a ta, .int b tb, .int c tc, .int d td])
    (h : ∀ D h', Fr h₀ L h' m → News h₀ L h' ((D, I2 a b ta tb) :: news) → Q (.ref D) { s with heap := h' })
    (hs : subscripted slice false (.ref t) (.ref s.heap.objs.size) = operate [.ref s.heap.objs.size, .ref t] (getItem (.ref t) (.ref s.heap.objs.size)) := by with_unfolding_all rfl)
    (hg : ∀ r, letTemporaryGo value (.ref t) r = pure () := by intro _; with_unfolding_all rfl) :
    wpAny (model prog w) A (subscriptTail value slice (.ref t) (.ref s.heap.objs.size)) Q E { s with heap := s.heap.push { cls := .type "slice", data := .fields #[.none, .int 2 u, .none] } } := by
  have ht' : IsTup (s.heap.push { cls := .type "slice", data := .fields #[.none, .int 2 u, .none] }) t #[.int a ta, .int b tb, .int c tc, .int d td] := ht.keeps fun _ _ e => Heap.get?_push_of_some _ e
  refine subscriptTail_ops (s := { s with heap := s.heap.push { cls := .type "slice", data := .fields #[.none, .int 2 u, .none] } }) ht'.typeIs slot_tuple_getitem.lookup
    (item_two ht' (Heap.IsSliceOf.new ..) ?_) hs hg
  exact h _ _ ((F.push _).push _) (News.push (F.push { cls := .type "slice", data := .fields #[.none, .int 2 u, .none] }) (N.grown fun _ _ e => Heap.get?_push_of_some _ e) { cls := .type "tuple", data := .seq #[.int a ta, .int b tb] })
theorem tup4 {h : Heap} {D : Addr} {a b c d : Int} {ta tb tc td : Tok} (N : News h₀ L h news) (hm : (D, I4 a b c d ta tb tc td) ∈ news) : IsTup h D #[.int a ta, .int b tb, .int c tc, .int d td] := ⟨_, N.get hm, rfl, 0, rfl⟩
end
end -- B5
section -- B6
open PySem.Builtin.Int (intBits)

/-- first loop of _law_rounded: exp, whole, rest, low -/
structure RL where
  exp : Int
  whole : Int
  rest : Int
  low : Int
  a : Tok
  b : Tok
  c : Tok
  d : Tok
def RL.ps (c : RL) : List (Str × Value) := [(Str.ofString "exp", .int c.exp c.a), (Str.ofString "whole", .int c.whole c.b), (Str.ofString "rest", .int c.rest c.c), (Str.ofString "low", .int c.low c.d)]
/-- second loop: whole, exp -/
structure RM where
  exp : Int
  whole : Int
  a : Tok
  b : Tok
def RM.ps (c : RM) : List (Str × Value) := [(Str.ofString "exp", .int c.exp c.a), (Str.ofString "whole", .int c.whole c.b)]
section
variable {prog : Program} {w : World} {A : Around} {E : Value → Shared → Prop} {s : Shared} {h₀ : Heap} {L : Addr} {m : Str → Option Value} {news : List (Addr × Obj)}
theorem RL.all {m₀ : Str → Option Value} {c : RL} (h1 : m₀ (Str.ofString "exp") = some (.int c.exp c.a)) (h2 : m₀ (Str.ofString "whole") = some (.int c.whole c.b)) (h3 : m₀ (Str.ofString "rest") = some (.int c.rest c.c)) (h4 : m₀ (Str.ofString "low") = some (.int c.low c.d)) : ∀ p ∈ c.ps, m₀ p.1 = some p.2 := by
  intro p hp
  simp only [RL.ps, List.mem_cons, List.not_mem_nil, or_false] at hp
  rcases hp with rfl | rfl | rfl | rfl <;> assumption
theorem RM.all {m₀ : Str → Option Value} {c : RM} (h1 : m₀ (Str.ofString "exp") = some (.int c.exp c.a)) (h2 : m₀ (Str.ofString "whole") = some (.int c.whole c.b)) : ∀ p ∈ c.ps, m₀ p.1 = some p.2 := by
  intro p hp
  simp only [RM.ps, List.mem_cons, List.not_mem_nil, or_false] at hp
  rcases hp with rfl | rfl <;> assumption
theorem rl_while {env : Env} {Q : Flow → Shared → Prop} {test : Expr} {body : List Stmt} {pos : Pos} {m₀ : Str → Option Value} (P : RL → Prop) (μ : RL → Nat) {xe xw xr xl : Int} {ta tb tc td : Tok}
    (F : Fr h₀ L s.heap m₀) (N : News h₀ L s.heap news)
    (h1 : m₀ (Str.ofString "exp") = some (.int xe ta)) (h2 : m₀ (Str.ofString "whole") = some (.int xw tb)) (h3 : m₀ (Str.ofString "rest") = some (.int xr tc)) (h4 : m₀ (Str.ofString "low") = some (.int xl td))
    (hp : P ⟨xe, xw, xr, xl, ta, tb, tc, td⟩)
    (turn : ∀ (c : RL) h tk, P c → Fr h₀ L h (fun z => if z = Str.ofString "exp" then some (.int c.exp c.a) else if z = Str.ofString "whole" then some (.int c.whole c.b) else if z = Str.ofString "rest" then some (.int c.rest c.c) else if z = Str.ofString "low" then some (.int c.low c.d) else m₀ z) → News h₀ L h news →
      wpAny (model prog w) A (isTrue test env (eval test env)) (fun b s₂ =>
        if b = true then wpAny (model prog w) A (execs body env) (KswPost h₀ L s (fun _ => news) RL.ps (fun _ => True) [] m₀ P μ Q c) E s₂ else Q .next s₂) E { s with heap := h, toks := tk })
    (hE : PassesOwn (model prog w) A env E := by passes_own) :
    wpAny (model prog w) A (exec (.While test body [] pos) env) Q E s :=
  ksw_while (fun _ => news) RL.ps (fun _ => True) [] P μ ⟨xe, xw, xr, xl, ta, tb, tc, td⟩ F N trivial (RL.all h1 h2 h3 h4) hp (fun c _ h tk _ hP F N => turn c h tk hP F N) hE
theorem rl_end {P : RL → Prop} {μ : RL → Nat} {c : RL} {h' : Heap} {tk : Nat} {m₀ m' : Str → Option Value} {news' : Led} {σ : Shared} {xe xw xr xl : Int} {ta tb tc td : Tok}
    (F : Fr h₀ L h' m') (N : News h₀ L h' news') (hn : ∀ p ∈ news, p ∈ news')
    (h1 : m' (Str.ofString "exp") = some (.int xe ta)) (h2 : m' (Str.ofString "whole") = some (.int xw tb)) (h3 : m' (Str.ofString "rest") = some (.int xr tc)) (h4 : m' (Str.ofString "low") = some (.int xl td))
    (hr : ∀ z, z ≠ Str.ofString "exp" → z ≠ Str.ofString "whole" → z ≠ Str.ofString "rest" → z ≠ Str.ofString "low" → m' z = m₀ z) (hp : P ⟨xe, xw, xr, xl, ta, tb, tc, td⟩) (hm : μ ⟨xe, xw, xr, xl, ta, tb, tc, td⟩ < μ c) :
    KswEnd h₀ L σ (fun _ => news) RL.ps (fun _ => True) [] m₀ P μ c { σ with heap := h', toks := tk } :=
  ksw_end ⟨xe, xw, xr, xl, ta, tb, tc, td⟩ F N hn trivial (RL.all h1 h2 h3 h4) (fun z h _ => by
    simp only [RL.ps, List.forall_mem_cons] at h
    exact hr z h.1 h.2.1 h.2.2.1 h.2.2.2.1) hp hm
theorem rm_while {env : Env} {Q : Flow → Shared → Prop} {test : Expr} {body : List Stmt} {pos : Pos} {m₀ : Str → Option Value} (P : RM → Prop) (μ : RM → Nat) {xe xw : Int} {ta tb : Tok}
    (F : Fr h₀ L s.heap m₀) (N : News h₀ L s.heap news)
    (h1 : m₀ (Str.ofString "exp") = some (.int xe ta)) (h2 : m₀ (Str.ofString "whole") = some (.int xw tb))
    (hp : P ⟨xe, xw, ta, tb⟩)
    (turn : ∀ (c : RM) h tk, P c → Fr h₀ L h (fun z => if z = Str.ofString "exp" then some (.int c.exp c.a) else if z = Str.ofString "whole" then some (.int c.whole c.b) else m₀ z) → News h₀ L h news →
      wpAny (model prog w) A (isTrue test env (eval test env)) (fun b s₂ =>
        if b = true then wpAny (model prog w) A (execs body env) (KswPost h₀ L s (fun _ => news) RM.ps (fun _ => True) [] m₀ P μ Q c) E s₂ else Q .next s₂) E { s with heap := h, toks := tk })
    (hE : PassesOwn (model prog w) A env E := by passes_own) :
    wpAny (model prog w) A (exec (.While test body [] pos) env) Q E s :=
  ksw_while (fun _ => news) RM.ps (fun _ => True) [] P μ ⟨xe, xw, ta, tb⟩ F N trivial (RM.all h1 h2) hp (fun c _ h tk _ hP F N => turn c h tk hP F N) hE
theorem rm_end {P : RM → Prop} {μ : RM → Nat} {c : RM} {h' : Heap} {tk : Nat} {m₀ m' : Str → Option Value} {news' : Led} {σ : Shared} {xe xw : Int} {ta tb : Tok}
    (F : Fr h₀ L h' m') (N : News h₀ L h' news') (hn : ∀ p ∈ news, p ∈ news')
    (h1 : m' (Str.ofString "exp") = some (.int xe ta)) (h2 : m' (Str.ofString "whole") = some (.int xw tb))
    (hr : ∀ z, z ≠ Str.ofString "exp" → z ≠ Str.ofString "whole" → m' z = m₀ z) (hp : P ⟨xe, xw, ta, tb⟩) (hm : μ ⟨xe, xw, ta, tb⟩ < μ c) :
    KswEnd h₀ L σ (fun _ => news) RM.ps (fun _ => True) [] m₀ P μ c { σ with heap := h', toks := tk } :=
  ksw_end ⟨xe, xw, ta, tb⟩ F N hn trivial (RM.all h1 h2) (fun z h _ => by
    simp only [RM.ps, List.forall_mem_cons] at h
    exact hr z h.1 h.2.1) hp hm
end
end -- B6
section -- M11
open PySem.Builtin.Int (intBits)

/-- size * 2^(-E) over below * 2^E -/
def numE (size E : Int) : Int := size * 2 ^ (-E).toNat
def lowE (below E : Int) : Int := below * 2 ^ E.toNat
theorem lowE_pos {below E : Int} (h : 0 < below) : 0 < lowE below E := Int.mul_pos h (tp _)
theorem numE_pos {size E : Int} (h : 0 < size) : 0 < numE size E := Int.mul_pos h (tp _)
theorem q_ge {size below E : Int} {p : Nat} (hs : 0 < size) (hb : 0 < below) (h : (p : Int) + intBits below + E ≤ (intBits size : Int) - 1) : 2 ^ p ≤ numE size E / lowE below E := by
  rw [Int.le_ediv_iff_mul_le (lowE_pos hb)]
  unfold numE lowE
  have h1 := bits_lt (Int.le_of_lt hb)
  have h2 := bits_ge hs
  have h3 := bits_pos1 hs
  have a1 : 2 ^ p * (below * 2 ^ E.toNat) ≤ 2 ^ p * (2 ^ intBits below * 2 ^ E.toNat) := Int.mul_le_mul_of_nonneg_left (Int.mul_le_mul_of_nonneg_right (Int.le_of_lt h1) (Int.le_of_lt (tp _))) (Int.le_of_lt (tp _))
  have a2 : 2 ^ (intBits size - 1) * 2 ^ (-E).toNat ≤ size * 2 ^ (-E).toNat := Int.mul_le_mul_of_nonneg_right h2 (Int.le_of_lt (tp _))
  have a3 : (2 : Int) ^ p * (2 ^ intBits below * 2 ^ E.toNat) ≤ 2 ^ (intBits size - 1) * 2 ^ (-E).toNat := by
    rw [← Int.pow_add, ← Int.pow_add, ← Int.pow_add]
    exact two_pow_le (by omega)
  omega
theorem q_lt {size below E : Int} {k : Nat} (hs : 0 < size) (hb : 0 < below) (h : (intBits size : Int) ≤ k + intBits below - 1 + E) : numE size E / lowE below E < 2 ^ k := by
  rw [Int.ediv_lt_iff_lt_mul (lowE_pos hb)]
  unfold numE lowE
  have h1 := bits_lt (Int.le_of_lt hs)
  have h2 := bits_ge hb
  have h3 := bits_pos1 hb
  have a1 : size * 2 ^ (-E).toNat < 2 ^ intBits size * 2 ^ (-E).toNat := Int.mul_lt_mul_of_pos_right h1 (tp _)
  have a2 : 2 ^ k * (2 ^ (intBits below - 1) * 2 ^ E.toNat) ≤ 2 ^ k * (below * 2 ^ E.toNat) := Int.mul_le_mul_of_nonneg_left (Int.mul_le_mul_of_nonneg_right h2 (Int.le_of_lt (tp _))) (Int.le_of_lt (tp _))
  have a3 : (2 : Int) ^ intBits size * 2 ^ (-E).toNat ≤ 2 ^ k * (2 ^ (intBits below - 1) * 2 ^ E.toNat) := by
    rw [← Int.pow_add, ← Int.pow_add, ← Int.pow_add]
    exact two_pow_le (by omega)
  omega
theorem q_half {size below E : Int} {p : Nat} (hb : 0 < below) (h : 2 ^ (p + 1) ≤ numE size E / lowE below E) : 2 ^ p ≤ numE size (E + 1) / lowE below (E + 1) := by
  rw [Int.le_ediv_iff_mul_le (lowE_pos hb)] at h ⊢
  unfold numE lowE at *
  rw [Int.pow_succ] at h
  rcases ilt E 0 with h0 | h0
  · rw [show E.toNat = 0 by omega, show (-E).toNat = (-(E + 1)).toNat + 1 by omega, Int.pow_succ] at h
    rw [show (E + 1).toNat = 0 by omega]
    rw [Int.pow_zero, Int.mul_one] at *
    have e1 : 2 ^ p * 2 * below = 2 ^ p * below * 2 := by grind
    have e2 : size * (2 ^ (-(E + 1)).toNat * 2) = size * 2 ^ (-(E + 1)).toNat * 2 := by grind
    omega
  · rw [show (-E).toNat = 0 by omega] at h
    rw [show (-(E + 1)).toNat = 0 by omega, show (E + 1).toNat = E.toNat + 1 by omega, Int.pow_succ]
    have e1 : 2 ^ p * (below * (2 ^ E.toNat * 2)) = 2 ^ p * 2 * (below * 2 ^ E.toNat) := by grind
    omega
/-- the first loop of _law_rounded -/
def RInv (size below prec e0 : Int) (c : RL) : Prop :=
  (c.exp = e0 ∧ c.whole = ipw 2 prec) ∨
  (e0 + 1 ≤ c.exp ∧ c.exp ≤ e0 + 2 ∧ c.low = lowE below c.exp ∧ c.whole = numE size c.exp / lowE below c.exp ∧ c.rest = numE size c.exp % lowE below c.exp ∧ 2 ^ (prec - 1).toNat ≤ c.whole)
theorem lowE_eq1 {below E : Int} (h : 0 < E) : mulI below (ipw 2 E) = lowE below E := by rw [mulI_eq, ipw_eq]; rfl
theorem lowE_eq2 {below E : Int} (h : ¬ 0 < E) : below = lowE below E := by unfold lowE; rw [show E.toNat = 0 by omega, Int.pow_zero, Int.mul_one]
theorem numE_eq1 {size E : Int} (h : E < 0) : mulI size (ipw 2 (-E)) = numE size E := by rw [mulI_eq, ipw_eq]; rfl
theorem numE_eq2 {size E : Int} (h : ¬ E < 0) : size = numE size E := by unfold numE; rw [show (-E).toNat = 0 by omega, Int.pow_zero, Int.mul_one]
theorem RInv.next {size below prec e0 : Int} {c : RL} (hs : 0 < size) (hb : 0 < below) (hp : 1 ≤ prec) (he : e0 = (intBits size : Int) - intBits below - prec - 1) (h : RInv size below prec e0 c) (ht : ipw 2 prec ≤ c.whole)
    {low num : Int} (hl : low = lowE below (c.exp + 1)) (hn : num = numE size (c.exp + 1)) {a b cc dd : Tok} :
    RInv size below prec e0 ⟨c.exp + 1, fdv num low, fmd num low, low, a, b, cc, dd⟩ ∧ (e0 + 2 - (c.exp + 1)).toNat < (e0 + 2 - c.exp).toNat := by
  have hlp : 0 < low := by rw [hl]; exact lowE_pos hb
  rw [fdv_ediv hlp, fmd_emod hlp, hl, hn]
  rw [ipw_eq] at ht
  have hpp : prec.toNat = (prec - 1).toNat + 1 := by omega
  rcases h with ⟨h1, h2⟩ | ⟨h1, h2, h3, h4, h5, h6⟩
  · refine ⟨.inr ⟨by show e0 + 1 ≤ c.exp + 1; omega, by show c.exp + 1 ≤ e0 + 2; omega, rfl, rfl, rfl, ?_⟩, by omega⟩
    exact q_ge hs hb (by omega)
  · have h7 : c.exp ≤ e0 + 1 := by
      rcases ilt (e0 + 1) c.exp with h | h
      · exfalso
        have := q_lt (size := size) (below := below) (E := c.exp) (k := prec.toNat) hs hb (by omega)
        omega
      · exact h
    refine ⟨.inr ⟨by show e0 + 1 ≤ c.exp + 1; omega, by show c.exp + 1 ≤ e0 + 2; omega, rfl, rfl, rfl, ?_⟩, by omega⟩
    refine q_half hb ?_
    rw [← hpp, ← h4]; exact ht
theorem RInv.done {size below prec e0 : Int} {c : RL} (h : RInv size below prec e0 c) (ht : ¬ ipw 2 prec ≤ c.whole) :
    c.low = lowE below c.exp ∧ c.whole = numE size c.exp / lowE below c.exp ∧ c.rest = numE size c.exp % lowE below c.exp ∧ 2 ^ (prec - 1).toNat ≤ c.whole ∧ c.whole < 2 ^ prec.toNat ∧ e0 + 1 ≤ c.exp ∧ c.exp ≤ e0 + 2 := by
  rcases h with ⟨h1, h2⟩ | ⟨h1, h2, h3, h4, h5, h6⟩
  · omega
  · rw [ipw_eq] at ht
    exact ⟨h3, h4, h5, h6, by omega, h1, h2⟩
end -- M11
section -- C1
open PySem.Builtin.Int (intBits)

local macro_rules | `(tactic| walk_at "binaryOp Add int int") => `(tactic| (k_here; (with_reducible refine add_int ?_); (try dsimp only)))
local macro_rules | `(tactic| walk_at "binaryOp Sub int int") => `(tactic| (k_here; (with_reducible refine sub_int ?_); (try dsimp only)))
local macro_rules | `(tactic| walk_at "binaryOp RShift int int") => `(tactic| (k_here; (with_reducible refine shr_rule (by omega) ?_); (try dsimp only)))
local macro_rules | `(tactic| walk_at "inplaceOp RShift int int") => `(tactic| (k_here; (with_reducible refine ishr_rule (by omega) ?_); (try dsimp only)))
local macro_rules | `(tactic| walk_at "binaryOp BitAnd int int") => `(tactic| (k_here; (with_reducible refine band_rule ?_); (try dsimp only)))
local macro_rules | `(tactic| walk_at "call builtin:int.bit_length") => `(tactic| (k_here; (with_reducible refine bl_rule ?_); (try dsimp only)))
local macro_rules | `(tactic| walk_at "compareOp Eq int int") => `(tactic| (k_here; (with_reducible refine eqb_rule ?_); (try dsimp only)))
local macro_rules | `(tactic| walk_at "truthy int") => `(tactic| (k_here; (with_reducible refine tru_rule ?_); (try dsimp only)))
local macro_rules | `(tactic| walk_at "ite") => `(tactic| (k_here; k_openite; first
  | (with_reducible refine ite_yes (by first | assumption | omega) ?_)
  | (with_reducible refine ite_no (by first | assumption | omega) ?_)
  | (with_reducible refine ite_nyes (by first | assumption | omega) ?_)
  | (with_reducible refine ite_nno (by first | assumption | omega) ?_)
  | ((with_reducible refine ite_split ?_ ?_) <;> intro _)
  | ((with_reducible refine ite_nsplit ?_ ?_) <;> intro _)
  | (with_reducible refine ite_pos (by assumption) ?_)
  | (with_reducible refine ite_isFalse (by assumption) ?_)
  | ((with_reducible refine ite_splitb ?_ ?_) <;> intro _)))
local macro_rules | `(tactic| walk_at "binaryOp LShift int int") => `(tactic| (k_here; (with_reducible refine shl_rule (by omega) (by first | omega | assumption) ?_); (try dsimp only)))
local macro_rules | `(tactic| k_mem) => `(tactic| first | with_reducible assumption | (refine' List.mem_cons_of_mem _ ?_; k_mem))

theorem vint {x y : Int} {t : Tok} (e : x = y) : ∃ t', Value.int x t = Value.int y t' := ⟨t, by rw [e]⟩
theorem trail_ne {n : Int} (h : n ≠ 0) : (intBits (band n (-n)) : Int) - 1 = trail n := by rw [trail_eq, if_neg h, band_eq]
theorem trail_z {n : Int} (h : n = 0) : 0 = trail n := by rw [trail_eq, if_pos h]
theorem bits_pos {x : Int} (h : x ≠ 0) : 1 ≤ intBits x := by
  have h1 : ¬ intBits x ≤ 0 := fun h0 => by
    have := intBits_le_iff.mp h0
    omega
  omega
theorem and_ne {n : Int} (h : n ≠ 0) : Builtin.bitAnd n (-n) ≠ 0 := by
  obtain ⟨k, a, e⟩ : ∃ (k : Nat) (a : Int), n = 2 ^ k * (2 * a + 1) := by
    have key : ∀ (N : Nat) (n : Int), n.natAbs ≤ N → n ≠ 0 → ∃ (k : Nat) (a : Int), n = 2 ^ k * (2 * a + 1) := by
      intro N
      induction N with
      | zero => intro n h0 h1; omega
      | succ N ih =>
        intro n h0 h1
        by_cases ho : n % 2 = 1
        · exact ⟨0, n / 2, by rw [Int.pow_zero]; omega⟩
        · obtain ⟨k, a, e⟩ := ih (n / 2) (by omega) (by omega)
          refine ⟨k + 1, a, ?_⟩
          have : n = 2 * (n / 2) := by omega
          rw [this, e, Int.pow_succ, Int.mul_comm (2 ^ k) 2, Int.mul_assoc]
    exact key _ n (Nat.le_refl _) h
  rw [e, kbt_low]
  have := kbt_pos k
  omega
theorem trail_nn (n : Int) : 0 ≤ trail n := by
  rw [trail_eq]
  split
  · omega
  · have := bits_pos (and_ne (by assumption))
    omega
theorem nb {p : Prop} [Decidable p] (h : (!decide p) = true) : ¬ p := by simpa using h
theorem pb {p : Prop} [Decidable p] (h : (!decide p) = false) : p := by simpa using h
set_option maxHeartbeats 4000000 in
theorem trailing_tells (w : World) (news : Led) (n : Int) (tk : Tok) :
    Tell w 21 news [.int n tk] 1 (fun v tl => (∃ t, v = .int (trail n) t) ∧ tl = [] ∧ 0 ≤ trail n) := by
  (try unfold Tup4); unfold Tell; k_fill
  intro p loose mean mg mb dp un gd cn cs a ccd cl outer A₀ base h₀ L m s Q E B F X N T hk hd hu hret
  w_top on
  refine wpAny_call ?_
  k_dflt (refine' code_def ?k1 ?k2 ?k3 ?k4 ?k5 ?kA ?kF ?kK ?k6 ?k7 ?k8 ?k9 ?kB ?_ ?c2 ?c3 ?c4 ?c5; (case kA => exact rfl); (case kF => exact rfl); (case kK => assumption); (case k1 => k_asm); (case k2 => k_asm); (case k3 => k_asm); (case k4 => k_asm); (case k5 => k_asm); (case k6 => k_is); (case k7 => k_is); (case k8 => ktr_room); (case k9 => first | exact BindsTo.of_eq rfl | exact binds_K (by k_in) rfl (by k_is) rfl rfl rfl); (case c5 => decide); (case kB => exact locs rfl); (case c2 => exact rfl); (case c3 => exact rfl); (case c4 => exact rfl); k_whole; intro g' L' h' FG' F' N' B' X' T'; (try dsimp only); (try k_lift B'); (try k_fold))

  k_steps
  all_goals first
    | exact hret _ [] _ _ ⟨vint (trail_ne (by assumption)), rfl, trail_nn n⟩ (by assumption) (by assumption)
    | exact hret _ [] _ _ ⟨vint (trail_z (by omega)), rfl, trail_nn n⟩ (by assumption) (by assumption)
end -- C1
section -- C2
open PySem.Builtin.Int (intBits)

local macro_rules | `(tactic| walk_at "binaryOp Add int int") => `(tactic| (k_here; (with_reducible refine add_int ?_); (try dsimp only)))
local macro_rules | `(tactic| walk_at "binaryOp Sub int int") => `(tactic| (k_here; (with_reducible refine sub_int ?_); (try dsimp only)))
local macro_rules | `(tactic| walk_at "binaryOp RShift int int") => `(tactic| (k_here; (with_reducible refine shr_rule (by omega) ?_); (try dsimp only)))
local macro_rules | `(tactic| walk_at "inplaceOp RShift int int") => `(tactic| (k_here; (with_reducible refine ishr_rule (by omega) ?_); (try dsimp only)))
local macro_rules | `(tactic| walk_at "binaryOp BitAnd int int") => `(tactic| (k_here; (with_reducible refine band_rule ?_); (try dsimp only)))
local macro_rules | `(tactic| walk_at "call builtin:int.bit_length") => `(tactic| (k_here; (with_reducible refine bl_rule ?_); (try dsimp only)))
local macro_rules | `(tactic| walk_at "compareOp Eq int int") => `(tactic| (k_here; (with_reducible refine eqb_rule ?_); (try dsimp only)))
local macro_rules | `(tactic| walk_at "truthy int") => `(tactic| (k_here; (with_reducible refine tru_rule ?_); (try dsimp only)))
local macro_rules | `(tactic| walk_at "ite") => `(tactic| (k_here; k_openite; first
  | (with_reducible refine ite_yes (by first | assumption | omega) ?_)
  | (with_reducible refine ite_no (by first | assumption | omega) ?_)
  | (with_reducible refine ite_nyes (by first | assumption | omega) ?_)
  | (with_reducible refine ite_nno (by first | assumption | omega) ?_)
  | ((with_reducible refine ite_split ?_ ?_) <;> intro _)
  | ((with_reducible refine ite_nsplit ?_ ?_) <;> intro _)
  | (with_reducible refine ite_pos (by assumption) ?_)
  | (with_reducible refine ite_isFalse (by assumption) ?_)
  | ((with_reducible refine ite_splitb ?_ ?_) <;> intro _)))
local macro_rules | `(tactic| walk_at "binaryOp LShift int int") => `(tactic| (k_here; (with_reducible refine shl_rule (by omega) (by first | omega | assumption) ?_); (try dsimp only)))
local macro_rules | `(tactic| k_mem) => `(tactic| first | with_reducible assumption | (refine' List.mem_cons_of_mem _ ?_; k_mem))

local macro_rules | `(tactic| walk_at "compareOp Eq str str") => `(tactic| (k_here; first | (with_reducible refine eq_n ?_) | (with_reducible refine eq_f ?_) | (with_reducible refine eq_c ?_) | (with_reducible refine eq_d ?_) | (with_reducible refine eq_u ?_)))
local macro_rules | `(tactic| walk_at "subscriptTail") => `(tactic| (k_here; first
  | ((with_reducible refine' sd_rule ?F ?X ?h ?_); (case F => k_asm); (case X => k_asm); (case h => with_reducible assumption); (try dsimp only))
  | ((with_reducible refine' sd2_rule ?F ?X ?h ?g ?_); (case F => k_asm); (case X => k_asm); (case h => with_reducible assumption); (case g => with_reducible assumption))
  | ((with_reducible refine' rec_rule ?F ?X ?_); (case F => k_asm); (case X => k_asm); (try dsimp only))))

local macro_rules | `(tactic| walk_at "binaryOp LShift int int") => `(tactic| (k_here; (with_reducible refine shl1_rule (by omega) (by omega) ?_); (try dsimp only)))
local macro_rules | `(tactic| walk_at "binaryOp BitXor int int") => `(tactic| (k_here; (with_reducible refine xor0_rule (by assumption) ?_); (try dsimp only)))
local macro_rules | `(tactic| walk_at "call builtin:divmod") => `(tactic| (k_here; (with_reducible refine' divmod_rule ?F ?N ?a ?b ?_); (case F => k_asm); (case N => k_asm); (case a => omega); (case b => omega); (intro h' D' F' N'; (try dsimp only); (try k_sweep))))

local macro_rules | `(tactic| walk_at "call ref") => `(tactic| (k_here; (with_reducible show wpAny _ _ (call (Value.ref 21) [Value.int _ _]) _ _ _); (refine' Tell.use (trailing_tells _ _ _ _) ?k1 ?k2 ?k3 ?k4 ?k5 ?k6 ?k7 ?k8 ?_); (case k1 => k_asm); (case k2 => k_asm); (case k3 => k_asm); (case k4 => k_asm); (case k5 => k_asm); (case k6 => first | exact rfl | assumption); (case k7 => first | ktr_room | omega); (case k8 => first | ktr_units | omega); (intro v9 tl9 h9 tk9 R9 F9 N9; obtain ⟨⟨t9, ev9⟩, et9, H9⟩ := R9; subst ev9; subst et9; (try dsimp only [List.cons_append, List.nil_append] at N9); (try dsimp only); (try k_sweep); (try k_fold))))
set_option maxHeartbeats 4000000 in
theorem norm0_tells (w : World) (news : Led) (r : Rnd) (sg man exp bc prec : Int) (t1 t2 t3 t4 t5 t6 : Tok) (hs : sg = 0 ∨ sg = 1) (hm : 0 < man) (hbc : bc = intBits man) (hp : 1 ≤ prec) (hb : intBits man ≤ 100000) :
    Tell w 38 news [.int sg t1, .int man t2, .int exp t3, .int bc t4, .int prec t5, .str r.str t6] 4 (fun v tl => ∃ D m' e' b' ta tb tc td, v = .ref D ∧ tl = [(D, I4 sg m' e' b' ta tb tc td)] ∧ NormOK r sg man exp prec m' e' b') := by
  subst hbc
  (try unfold Tup4); unfold Tell; k_fill
  intro p loose mean mg mb dp un gd cn cs a ccd cl outer A₀ base h₀ L m s Q E B F X N T hk hd hu hret
  w_top on
  refine wpAny_call ?_
  k_dflt (refine' code_def ?k1 ?k2 ?k3 ?k4 ?k5 ?kA ?kF ?kK ?k6 ?k7 ?k8 ?k9 ?kB ?_ ?c2 ?c3 ?c4 ?c5; (case kA => exact rfl); (case kF => exact rfl); (case kK => assumption); (case k1 => k_asm); (case k2 => k_asm); (case k3 => k_asm); (case k4 => k_asm); (case k5 => k_asm); (case k6 => k_is); (case k7 => k_is); (case k8 => ktr_room); (case k9 => first | exact BindsTo.of_eq rfl | exact binds_K (by k_in) rfl (by k_is) rfl rfl rfl); (case c5 => decide); (case kB => exact locs rfl); (case c2 => exact rfl); (case c3 => exact rfl); (case c4 => exact rfl); k_whole; intro g' L' h' FG' F' N' B' X' T'; (try dsimp only); (try k_lift B'); (try k_fold))

  k_steps
  all_goals (refine done4 hret (by assumption) (by assumption) ?_; clear hret)
  all_goals first
    | ((with_reducible refine nA1' hm hp ?_ ?_ ?_) <;> (with_reducible assumption))
    | ((with_reducible refine nA2' hm hp ?_ ?_ ?_) <;> (with_reducible assumption))
    | ((with_reducible refine nB1' hm hp ?_ ?_) <;> (with_reducible assumption))
    | ((with_reducible refine nB2' hm hp ?_ ?_) <;> (with_reducible assumption))
    | ((with_reducible refine nA1 hm hp ?_ ?_ ?_ ?_) <;> (first | with_reducible assumption | ((with_reducible refine r1 ?_ ?_ ?_ ?_) <;> with_reducible assumption) | ((with_reducible refine r2 ?_ ?_ ?_ ?_) <;> with_reducible assumption) | ((with_reducible refine r3 ?_ ?_ ?_ ?_) <;> with_reducible assumption) | ((with_reducible refine r4 ?_ ?_ ?_) <;> with_reducible assumption) | ((with_reducible refine r5 ?_ ?_ ?_) <;> with_reducible assumption) | ((with_reducible refine r6 ?_ ?_ ?_) <;> with_reducible assumption)))
    | ((with_reducible refine nA2 hm hp ?_ ?_ ?_ ?_) <;> (first | with_reducible assumption | ((with_reducible refine r1 ?_ ?_ ?_ ?_) <;> with_reducible assumption) | ((with_reducible refine r2 ?_ ?_ ?_ ?_) <;> with_reducible assumption) | ((with_reducible refine r3 ?_ ?_ ?_ ?_) <;> with_reducible assumption) | ((with_reducible refine r4 ?_ ?_ ?_) <;> with_reducible assumption) | ((with_reducible refine r5 ?_ ?_ ?_) <;> with_reducible assumption) | ((with_reducible refine r6 ?_ ?_ ?_) <;> with_reducible assumption)))
    | ((with_reducible refine nB1 hm hp ?_ ?_ ?_) <;> (first | with_reducible assumption | ((with_reducible refine r1 ?_ ?_ ?_ ?_) <;> with_reducible assumption) | ((with_reducible refine r2 ?_ ?_ ?_ ?_) <;> with_reducible assumption) | ((with_reducible refine r3 ?_ ?_ ?_ ?_) <;> with_reducible assumption) | ((with_reducible refine r4 ?_ ?_ ?_) <;> with_reducible assumption) | ((with_reducible refine r5 ?_ ?_ ?_) <;> with_reducible assumption) | ((with_reducible refine r6 ?_ ?_ ?_) <;> with_reducible assumption)))
    | ((with_reducible refine nB2 hm hp ?_ ?_ ?_) <;> (first | with_reducible assumption | ((with_reducible refine r1 ?_ ?_ ?_ ?_) <;> with_reducible assumption) | ((with_reducible refine r2 ?_ ?_ ?_ ?_) <;> with_reducible assumption) | ((with_reducible refine r3 ?_ ?_ ?_ ?_) <;> with_reducible assumption) | ((with_reducible refine r4 ?_ ?_ ?_) <;> with_reducible assumption) | ((with_reducible refine r5 ?_ ?_ ?_) <;> with_reducible assumption) | ((with_reducible refine r6 ?_ ?_ ?_) <;> with_reducible assumption)))
end -- C2
section -- C3
local macro_rules | `(tactic| walk_at "pad 13") => `(tactic| skip)
local macro_rules | `(tactic| walk_at "pad 14") => `(tactic| skip)
local macro_rules | `(tactic| walk_at "pad 15") => `(tactic| skip)
local macro_rules | `(tactic| walk_at "pad 16") => `(tactic| skip)
open PySem.Builtin.Int (intBits)

local macro_rules | `(tactic| walk_at "binaryOp Add int int") => `(tactic| (k_here; (with_reducible refine add_int ?_); (try dsimp only)))
local macro_rules | `(tactic| walk_at "binaryOp Sub int int") => `(tactic| (k_here; (with_reducible refine sub_int ?_); (try dsimp only)))
local macro_rules | `(tactic| walk_at "binaryOp RShift int int") => `(tactic| (k_here; (with_reducible refine shr_rule (by omega) ?_); (try dsimp only)))
local macro_rules | `(tactic| walk_at "inplaceOp RShift int int") => `(tactic| (k_here; (with_reducible refine ishr_rule (by omega) ?_); (try dsimp only)))
local macro_rules | `(tactic| walk_at "binaryOp BitAnd int int") => `(tactic| (k_here; (with_reducible refine band_rule ?_); (try dsimp only)))
local macro_rules | `(tactic| walk_at "call builtin:int.bit_length") => `(tactic| (k_here; (with_reducible refine bl_rule ?_); (try dsimp only)))
local macro_rules | `(tactic| walk_at "compareOp Eq int int") => `(tactic| (k_here; (with_reducible refine eqb_rule ?_); (try dsimp only)))
local macro_rules | `(tactic| walk_at "truthy int") => `(tactic| (k_here; (with_reducible refine tru_rule ?_); (try dsimp only)))
local macro_rules | `(tactic| walk_at "ite") => `(tactic| (k_here; k_openite; first
  | (with_reducible refine ite_yes (by first | assumption | omega) ?_)
  | (with_reducible refine ite_no (by first | assumption | omega) ?_)
  | (with_reducible refine ite_nyes (by first | assumption | omega) ?_)
  | (with_reducible refine ite_nno (by first | assumption | omega) ?_)
  | ((with_reducible refine ite_split ?_ ?_) <;> intro _)
  | ((with_reducible refine ite_nsplit ?_ ?_) <;> intro _)
  | (with_reducible refine ite_pos (by assumption) ?_)
  | (with_reducible refine ite_isFalse (by assumption) ?_)
  | ((with_reducible refine ite_splitb ?_ ?_) <;> intro _)))
local macro_rules | `(tactic| walk_at "binaryOp LShift int int") => `(tactic| (k_here; (with_reducible refine shl_rule (by omega) (by first | omega | assumption) ?_); (try dsimp only)))
local macro_rules | `(tactic| k_mem) => `(tactic| first | with_reducible assumption | (refine' List.mem_cons_of_mem _ ?_; k_mem))

local macro_rules | `(tactic| walk_at "compareOp Eq str str") => `(tactic| (k_here; first | (with_reducible refine eq_n ?_) | (with_reducible refine eq_f ?_) | (with_reducible refine eq_c ?_) | (with_reducible refine eq_d ?_) | (with_reducible refine eq_u ?_)))
local macro_rules | `(tactic| walk_at "subscriptTail") => `(tactic| (k_here; first
  | ((with_reducible refine' sd_rule ?F ?X ?h ?_); (case F => k_asm); (case X => k_asm); (case h => with_reducible assumption); (try dsimp only))
  | ((with_reducible refine' sd2_rule ?F ?X ?h ?g ?_); (case F => k_asm); (case X => k_asm); (case h => with_reducible assumption); (case g => with_reducible assumption))
  | ((with_reducible refine' rec_rule ?F ?X ?_); (case F => k_asm); (case X => k_asm); (try dsimp only))))

local macro_rules | `(tactic| walk_at "call ref") => `(tactic| (k_here; (with_reducible show wpAny _ _ (call (Value.ref 38) [Value.int _ _, Value.int _ _, Value.int _ _, Value.int _ _, Value.int _ _, Value.str _ _]) _ _ _); (refine' Tell.use (norm0_tells _ _ _ _ _ _ _ _ _ _ _ _ _ _ ?p1 ?p2 ?p3 ?p4 ?p5) ?k1 ?k2 ?k3 ?k4 ?k5 ?k6 ?k7 ?k8 ?_); (case k1 => k_asm); (case k2 => k_asm); (case k3 => k_asm); (case k4 => k_asm); (case k5 => k_asm); (case k6 => first | exact rfl | assumption); (case k7 => first | ktr_room | omega); (case k8 => first | ktr_units | omega); (case p1 => first | assumption | omega | decide); (case p2 => first | assumption | omega | decide); (case p3 => first | assumption | omega | decide); (case p4 => first | assumption | omega | decide); (case p5 => first | assumption | omega | decide); (intro v9 tl9 h9 tk9 R9 F9 N9; obtain ⟨D9, m9, e9, b9, ta9, tb9, tc9, td9, ev9, et9, H9⟩ := R9; subst ev9; subst et9; (try dsimp only [List.cons_append, List.nil_append] at N9); (try dsimp only); (try k_sweep); (try k_fold))))
set_option maxHeartbeats 4000000 in
theorem norm_tells (w : World) (news : Led) (r : Rnd) (sg man exp bc prec : Int) (t1 t2 t3 t4 t5 t6 : Tok) (hs : sg = 0 ∨ sg = 1) (hm : 0 < man) (hbc : bc = intBits man) (hp : 1 ≤ prec) (hb : intBits man ≤ 100000) :
    Tup4 w 45 news [.int sg t1, .int man t2, .int exp t3, .int bc t4, .int prec t5, .str r.str t6] 5 sg (NormOK r sg man exp prec) := by
  (try unfold Tup4); unfold Tell; k_fill
  intro p loose mean mg mb dp un gd cn cs a ccd cl outer A₀ base h₀ L m s Q E B F X N T hk hd hu hret
  w_top on
  refine wpAny_call ?_
  k_dflt (refine' code_def ?k1 ?k2 ?k3 ?k4 ?k5 ?kA ?kF ?kK ?k6 ?k7 ?k8 ?k9 ?kB ?_ ?c2 ?c3 ?c4 ?c5; (case kA => exact rfl); (case kF => exact rfl); (case kK => assumption); (case k1 => k_asm); (case k2 => k_asm); (case k3 => k_asm); (case k4 => k_asm); (case k5 => k_asm); (case k6 => k_is); (case k7 => k_is); (case k8 => ktr_room); (case k9 => first | exact BindsTo.of_eq rfl | exact binds_K (by k_in) rfl (by k_is) rfl rfl rfl); (case c5 => decide); (case kB => exact locs rfl); (case c2 => exact rfl); (case c3 => exact rfl); (case c4 => exact rfl); k_whole; intro g' L' h' FG' F' N' B' X' T'; (try dsimp only); (try k_lift B'); (try k_fold))

  k_steps
  all_goals (refine' done4 hret ?F ?N ?H; (case F => assumption); (case N => assumption); (case H => assumption))
end -- C3
section -- C4
local macro_rules | `(tactic| walk_at "pad 13") => `(tactic| skip)
local macro_rules | `(tactic| walk_at "pad 14") => `(tactic| skip)
local macro_rules | `(tactic| walk_at "pad 15") => `(tactic| skip)
local macro_rules | `(tactic| walk_at "pad 16") => `(tactic| skip)
local macro_rules | `(tactic| walk_at "pad 17") => `(tactic| skip)
open PySem.Builtin.Int (intBits)

local macro_rules | `(tactic| walk_at "binaryOp Add int int") => `(tactic| (k_here; (with_reducible refine add_int ?_); (try dsimp only)))
local macro_rules | `(tactic| walk_at "binaryOp Sub int int") => `(tactic| (k_here; (with_reducible refine sub_int ?_); (try dsimp only)))
local macro_rules | `(tactic| walk_at "binaryOp RShift int int") => `(tactic| (k_here; (with_reducible refine shr_rule (by omega) ?_); (try dsimp only)))
local macro_rules | `(tactic| walk_at "inplaceOp RShift int int") => `(tactic| (k_here; (with_reducible refine ishr_rule (by omega) ?_); (try dsimp only)))
local macro_rules | `(tactic| walk_at "binaryOp BitAnd int int") => `(tactic| (k_here; (with_reducible refine band_rule ?_); (try dsimp only)))
local macro_rules | `(tactic| walk_at "call builtin:int.bit_length") => `(tactic| (k_here; (with_reducible refine bl_rule ?_); (try dsimp only)))
local macro_rules | `(tactic| walk_at "compareOp Eq int int") => `(tactic| (k_here; (with_reducible refine eqb_rule ?_); (try dsimp only)))
local macro_rules | `(tactic| walk_at "truthy int") => `(tactic| (k_here; (with_reducible refine tru_rule ?_); (try dsimp only)))
local macro_rules | `(tactic| walk_at "ite") => `(tactic| (k_here; k_openite; first
  | (with_reducible refine ite_yes (by first | assumption | omega) ?_)
  | (with_reducible refine ite_no (by first | assumption | omega) ?_)
  | (with_reducible refine ite_nyes (by first | assumption | omega) ?_)
  | (with_reducible refine ite_nno (by first | assumption | omega) ?_)
  | ((with_reducible refine ite_split ?_ ?_) <;> intro _)
  | ((with_reducible refine ite_nsplit ?_ ?_) <;> intro _)
  | (with_reducible refine ite_pos (by assumption) ?_)
  | (with_reducible refine ite_isFalse (by assumption) ?_)
  | ((with_reducible refine ite_splitb ?_ ?_) <;> intro _)))
local macro_rules | `(tactic| walk_at "binaryOp LShift int int") => `(tactic| (k_here; (with_reducible refine shl_rule (by omega) (by first | omega | assumption) ?_); (try dsimp only)))
local macro_rules | `(tactic| k_mem) => `(tactic| first | with_reducible assumption | (refine' List.mem_cons_of_mem _ ?_; k_mem))

local macro_rules | `(tactic| walk_at "compareOp Eq str str") => `(tactic| (k_here; first | (with_reducible refine eq_n ?_) | (with_reducible refine eq_f ?_) | (with_reducible refine eq_c ?_) | (with_reducible refine eq_d ?_) | (with_reducible refine eq_u ?_)))
local macro_rules | `(tactic| walk_at "subscriptTail") => `(tactic| (k_here; first
  | ((with_reducible refine' sd_rule ?F ?X ?h ?_); (case F => k_asm); (case X => k_asm); (case h => with_reducible assumption); (try dsimp only))
  | ((with_reducible refine' sd2_rule ?F ?X ?h ?g ?_); (case F => k_asm); (case X => k_asm); (case h => with_reducible assumption); (case g => with_reducible assumption))
  | ((with_reducible refine' rec_rule ?F ?X ?_); (case F => k_asm); (case X => k_asm); (try dsimp only))))

local macro_rules | `(tactic| walk_at "call ref") => `(tactic| (k_here; (with_reducible show wpAny _ _ (call (Value.ref 45) [Value.int _ _, Value.int _ _, Value.int _ _, Value.int _ _, Value.int _ _, Value.str _ _]) _ _ _); (refine' Tell.use (norm_tells _ _ _ _ _ _ _ _ _ _ _ _ _ _ ?p1 ?p2 ?p3 ?p4 ?p5) ?k1 ?k2 ?k3 ?k4 ?k5 ?k6 ?k7 ?k8 ?_); (case k1 => k_asm); (case k2 => k_asm); (case k3 => k_asm); (case k4 => k_asm); (case k5 => k_asm); (case k6 => first | exact rfl | assumption); (case k7 => first | ktr_room | omega); (case k8 => first | ktr_units | omega); (case p1 => first | assumption | omega | decide); (case p2 => first | assumption | omega | decide); (case p3 => first | assumption | omega | decide); (case p4 => first | assumption | omega | decide); (case p5 => first | assumption | omega | decide); (intro v9 tl9 h9 tk9 R9 F9 N9; obtain ⟨D9, m9, e9, b9, ta9, tb9, tc9, td9, ev9, et9, H9⟩ := R9; subst ev9; subst et9; (try dsimp only [List.cons_append, List.nil_append] at N9); (try dsimp only); (try k_sweep); (try k_fold))))
set_option maxHeartbeats 4000000 in
theorem pos_tells (w : World) (news : Led) (r : Rnd) (S : Addr) (sg man exp bc prec : Int) (t1 t2 t3 t4 t5 t6 : Tok) (hS : (S, I4 sg man exp bc t1 t2 t3 t4) ∈ news) (hs : sg = 0 ∨ sg = 1) (hm : 0 < man) (hbc : bc = intBits man) (hp : 1 ≤ prec) (hb : intBits man ≤ 100000) :
    Tup4 w 53 news [.ref S, .int prec t5, .str r.str t6] 6 sg (NormOK r sg man exp prec) := by
  (try unfold Tup4); unfold Tell; k_fill
  intro p loose mean mg mb dp un gd cn cs a ccd cl outer A₀ base h₀ L m s Q E B F X N T hk hd hu hret
  w_top on
  refine wpAny_call ?_
  k_dflt (refine' code_def ?k1 ?k2 ?k3 ?k4 ?k5 ?kA ?kF ?kK ?k6 ?k7 ?k8 ?k9 ?kB ?_ ?c2 ?c3 ?c4 ?c5; (case kA => exact rfl); (case kF => exact rfl); (case kK => assumption); (case k1 => k_asm); (case k2 => k_asm); (case k3 => k_asm); (case k4 => k_asm); (case k5 => k_asm); (case k6 => k_is); (case k7 => k_is); (case k8 => ktr_room); (case k9 => first | exact BindsTo.of_eq rfl | exact binds_K (by k_in) rfl (by k_is) rfl rfl rfl); (case c5 => decide); (case kB => exact locs rfl); (case c2 => exact rfl); (case c3 => exact rfl); (case c4 => exact rfl); k_whole; intro g' L' h' FG' F' N' B' X' T'; (try dsimp only); (try k_lift B'); (try k_fold))

  k_steps
  all_goals (refine' done4 hret ?F ?N ?H; (case F => assumption); (case N => assumption); (case H => assumption))
end -- C4
section -- C5
local macro_rules | `(tactic| walk_at "pad 12") => `(tactic| skip)
local macro_rules | `(tactic| walk_at "pad 13") => `(tactic| skip)
local macro_rules | `(tactic| walk_at "pad 14") => `(tactic| skip)
local macro_rules | `(tactic| walk_at "pad 15") => `(tactic| skip)
local macro_rules | `(tactic| walk_at "pad 16") => `(tactic| skip)
local macro_rules | `(tactic| walk_at "pad 17") => `(tactic| skip)
local macro_rules | `(tactic| walk_at "pad 18") => `(tactic| skip)
open PySem.Builtin.Int (intBits)

local macro_rules | `(tactic| walk_at "binaryOp Add int int") => `(tactic| (k_here; (with_reducible refine add_int ?_); (try dsimp only)))
local macro_rules | `(tactic| walk_at "binaryOp Sub int int") => `(tactic| (k_here; (with_reducible refine sub_int ?_); (try dsimp only)))
local macro_rules | `(tactic| walk_at "binaryOp RShift int int") => `(tactic| (k_here; (with_reducible refine shr_rule (by omega) ?_); (try dsimp only)))
local macro_rules | `(tactic| walk_at "inplaceOp RShift int int") => `(tactic| (k_here; (with_reducible refine ishr_rule (by omega) ?_); (try dsimp only)))
local macro_rules | `(tactic| walk_at "binaryOp BitAnd int int") => `(tactic| (k_here; (with_reducible refine band_rule ?_); (try dsimp only)))
local macro_rules | `(tactic| walk_at "call builtin:int.bit_length") => `(tactic| (k_here; (with_reducible refine bl_rule ?_); (try dsimp only)))
local macro_rules | `(tactic| walk_at "compareOp Eq int int") => `(tactic| (k_here; (with_reducible refine eqb_rule ?_); (try dsimp only)))
local macro_rules | `(tactic| walk_at "truthy int") => `(tactic| (k_here; (with_reducible refine tru_rule ?_); (try dsimp only)))
local macro_rules | `(tactic| walk_at "ite") => `(tactic| (k_here; k_openite; first
  | (with_reducible refine ite_yes (by first | assumption | omega) ?_)
  | (with_reducible refine ite_no (by first | assumption | omega) ?_)
  | (with_reducible refine ite_nyes (by first | assumption | omega) ?_)
  | (with_reducible refine ite_nno (by first | assumption | omega) ?_)
  | ((with_reducible refine ite_split ?_ ?_) <;> intro _)
  | ((with_reducible refine ite_nsplit ?_ ?_) <;> intro _)
  | (with_reducible refine ite_pos (by assumption) ?_)
  | (with_reducible refine ite_isFalse (by assumption) ?_)
  | ((with_reducible refine ite_splitb ?_ ?_) <;> intro _)))
local macro_rules | `(tactic| walk_at "binaryOp LShift int int") => `(tactic| (k_here; (with_reducible refine shl_rule (by omega) (by first | omega | assumption) ?_); (try dsimp only)))
local macro_rules | `(tactic| k_mem) => `(tactic| first | with_reducible assumption | (refine' List.mem_cons_of_mem _ ?_; k_mem))

local macro_rules | `(tactic| walk_at "compareOp Eq str str") => `(tactic| (k_here; first | (with_reducible refine eq_n ?_) | (with_reducible refine eq_f ?_) | (with_reducible refine eq_c ?_) | (with_reducible refine eq_d ?_) | (with_reducible refine eq_u ?_)))
local macro_rules | `(tactic| walk_at "subscriptTail") => `(tactic| (k_here; first
  | ((with_reducible refine' sd_rule ?F ?X ?h ?_); (case F => k_asm); (case X => k_asm); (case h => with_reducible assumption); (try dsimp only))
  | ((with_reducible refine' sd2_rule ?F ?X ?h ?g ?_); (case F => k_asm); (case X => k_asm); (case h => with_reducible assumption); (case g => with_reducible assumption))
  | ((with_reducible refine' rec_rule ?F ?X ?_); (case F => k_asm); (case X => k_asm); (try dsimp only))))

set_option maxHeartbeats 4000000 in
theorem shift_tells (w : World) (news : Led) (S : Addr) (sg man exp bc n : Int) (t1 t2 t3 t4 t5 : Tok) (hS : (S, I4 sg man exp bc t1 t2 t3 t4) ∈ news) (hm : 0 < man) :
    Tell w 67 news [.ref S, .int n t5] 1 (fun v tl => ∃ D ta tb tc td, v = .ref D ∧ tl = [(D, I4 sg man (exp + n) bc ta tb tc td)]) := by
  (try unfold Tup4); unfold Tell; k_fill
  intro p loose mean mg mb dp un gd cn cs a ccd cl outer A₀ base h₀ L m s Q E B F X N T hk hd hu hret
  w_top on
  refine wpAny_call ?_
  k_dflt (refine' code_def ?k1 ?k2 ?k3 ?k4 ?k5 ?kA ?kF ?kK ?k6 ?k7 ?k8 ?k9 ?kB ?_ ?c2 ?c3 ?c4 ?c5; (case kA => exact rfl); (case kF => exact rfl); (case kK => assumption); (case k1 => k_asm); (case k2 => k_asm); (case k3 => k_asm); (case k4 => k_asm); (case k5 => k_asm); (case k6 => k_is); (case k7 => k_is); (case k8 => ktr_room); (case k9 => first | exact BindsTo.of_eq rfl | exact binds_K (by k_in) rfl (by k_is) rfl rfl rfl); (case c5 => decide); (case kB => exact locs rfl); (case c2 => exact rfl); (case c3 => exact rfl); (case c4 => exact rfl); k_whole; intro g' L' h' FG' F' N' B' X' T'; (try dsimp only); (try k_lift B'); (try k_fold))

  k_steps
  all_goals exact hret _ [_] _ _ ⟨_, _, _, _, _, rfl, rfl⟩ (by assumption) (by assumption)
set_option maxHeartbeats 4000000 in
theorem shift0_tells (w : World) (news : Led) (S : Addr) (sg exp bc n : Int) (t1 t2 t3 t4 t5 : Tok) (hS : (S, I4 sg 0 exp bc t1 t2 t3 t4) ∈ news) :
    Tell w 67 news [.ref S, .int n t5] 1 (fun v tl => v = .ref S ∧ tl = []) := by
  (try unfold Tup4); unfold Tell; k_fill
  intro p loose mean mg mb dp un gd cn cs a ccd cl outer A₀ base h₀ L m s Q E B F X N T hk hd hu hret
  w_top on
  refine wpAny_call ?_
  k_dflt (refine' code_def ?k1 ?k2 ?k3 ?k4 ?k5 ?kA ?kF ?kK ?k6 ?k7 ?k8 ?k9 ?kB ?_ ?c2 ?c3 ?c4 ?c5; (case kA => exact rfl); (case kF => exact rfl); (case kK => assumption); (case k1 => k_asm); (case k2 => k_asm); (case k3 => k_asm); (case k4 => k_asm); (case k5 => k_asm); (case k6 => k_is); (case k7 => k_is); (case k8 => ktr_room); (case k9 => first | exact BindsTo.of_eq rfl | exact binds_K (by k_in) rfl (by k_is) rfl rfl rfl); (case c5 => decide); (case kB => exact locs rfl); (case c2 => exact rfl); (case c3 => exact rfl); (case c4 => exact rfl); k_whole; intro g' L' h' FG' F' N' B' X' T'; (try dsimp only); (try k_lift B'); (try k_fold))

  k_steps
  all_goals exact hret _ [] _ _ ⟨rfl, rfl⟩ (by assumption) (by assumption)
end -- C5
section -- C6
local macro_rules | `(tactic| walk_at "pad 13") => `(tactic| skip)
local macro_rules | `(tactic| walk_at "pad 14") => `(tactic| skip)
local macro_rules | `(tactic| walk_at "pad 15") => `(tactic| skip)
local macro_rules | `(tactic| walk_at "pad 16") => `(tactic| skip)
local macro_rules | `(tactic| walk_at "pad 17") => `(tactic| skip)
local macro_rules | `(tactic| walk_at "pad 18") => `(tactic| skip)
local macro_rules | `(tactic| walk_at "pad 19") => `(tactic| skip)
open PySem.Builtin.Int (intBits)

local macro_rules | `(tactic| walk_at "binaryOp Add int int") => `(tactic| (k_here; (with_reducible refine add_int ?_); (try dsimp only)))
local macro_rules | `(tactic| walk_at "binaryOp Sub int int") => `(tactic| (k_here; (with_reducible refine sub_int ?_); (try dsimp only)))
local macro_rules | `(tactic| walk_at "binaryOp RShift int int") => `(tactic| (k_here; (with_reducible refine shr_rule (by omega) ?_); (try dsimp only)))
local macro_rules | `(tactic| walk_at "inplaceOp RShift int int") => `(tactic| (k_here; (with_reducible refine ishr_rule (by omega) ?_); (try dsimp only)))
local macro_rules | `(tactic| walk_at "binaryOp BitAnd int int") => `(tactic| (k_here; (with_reducible refine band_rule ?_); (try dsimp only)))
local macro_rules | `(tactic| walk_at "call builtin:int.bit_length") => `(tactic| (k_here; (with_reducible refine bl_rule ?_); (try dsimp only)))
local macro_rules | `(tactic| walk_at "compareOp Eq int int") => `(tactic| (k_here; (with_reducible refine eqb_rule ?_); (try dsimp only)))
local macro_rules | `(tactic| walk_at "truthy int") => `(tactic| (k_here; (with_reducible refine tru_rule ?_); (try dsimp only)))
local macro_rules | `(tactic| walk_at "ite") => `(tactic| (k_here; k_openite; first
  | (with_reducible refine ite_yes (by first | assumption | omega) ?_)
  | (with_reducible refine ite_no (by first | assumption | omega) ?_)
  | (with_reducible refine ite_nyes (by first | assumption | omega) ?_)
  | (with_reducible refine ite_nno (by first | assumption | omega) ?_)
  | ((with_reducible refine ite_split ?_ ?_) <;> intro _)
  | ((with_reducible refine ite_nsplit ?_ ?_) <;> intro _)
  | (with_reducible refine ite_pos (by assumption) ?_)
  | (with_reducible refine ite_isFalse (by assumption) ?_)
  | ((with_reducible refine ite_splitb ?_ ?_) <;> intro _)))
local macro_rules | `(tactic| walk_at "binaryOp LShift int int") => `(tactic| (k_here; (with_reducible refine shl_rule (by omega) (by first | omega | assumption) ?_); (try dsimp only)))
local macro_rules | `(tactic| k_mem) => `(tactic| first | with_reducible assumption | (refine' List.mem_cons_of_mem _ ?_; k_mem))

local macro_rules | `(tactic| walk_at "compareOp Eq str str") => `(tactic| (k_here; first | (with_reducible refine eq_n ?_) | (with_reducible refine eq_f ?_) | (with_reducible refine eq_c ?_) | (with_reducible refine eq_d ?_) | (with_reducible refine eq_u ?_)))
local macro_rules | `(tactic| walk_at "subscriptTail") => `(tactic| (k_here; first
  | ((with_reducible refine' sd_rule ?F ?X ?h ?_); (case F => k_asm); (case X => k_asm); (case h => with_reducible assumption); (try dsimp only))
  | ((with_reducible refine' sd2_rule ?F ?X ?h ?g ?_); (case F => k_asm); (case X => k_asm); (case h => with_reducible assumption); (case g => with_reducible assumption))
  | ((with_reducible refine' rec_rule ?F ?X ?_); (case F => k_asm); (case X => k_asm); (try dsimp only))))

local macro_rules | `(tactic| walk_at "call ref") => `(tactic| (k_here; (with_reducible show wpAny _ _ (call (Value.ref 67) [Value.ref _, Value.int _ _]) _ _ _); (refine' Tell.use (shift_tells _ _ _ _ _ _ _ _ _ _ _ _ _ ?p0 ?p1) ?k1 ?k2 ?k3 ?k4 ?k5 ?k6 ?k7 ?k8 ?_); (case k1 => k_asm); (case k2 => k_asm); (case k3 => k_asm); (case k4 => k_asm); (case k5 => k_asm); (case k6 => first | exact rfl | assumption); (case k7 => first | ktr_room | omega); (case k8 => first | ktr_units | omega); (case p0 => first | with_reducible assumption | k_mem | assumption); (case p1 => first | assumption | omega | decide); (intro v9 tl9 h9 tk9 R9 F9 N9; obtain ⟨D9, ta9, tb9, tc9, td9, ev9, et9⟩ := R9; subst ev9; subst et9; (try dsimp only [List.cons_append, List.nil_append] at N9); (try dsimp only); (try k_sweep); (try k_fold))))
set_option maxHeartbeats 4000000 in
theorem frexp_tells (w : World) (news : Led) (S : Addr) (sg man exp bc : Int) (t1 t2 t3 t4 : Tok) (hS : (S, I4 sg man exp bc t1 t2 t3 t4) ∈ news) (hm : 0 < man) :
    Tell w 74 news [.ref S] 2 (fun v tl => ∃ D D2 ta tb tc td te c, v = .ref D2 ∧ tl = [(D2, { cls := .type "tuple", data := .seq #[.ref D, .int (bc + exp) te] c}), (D, I4 sg man (exp + (-bc - exp)) bc ta tb tc td)]) := by
  (try unfold Tup4); unfold Tell; k_fill
  intro p loose mean mg mb dp un gd cn cs a ccd cl outer A₀ base h₀ L m s Q E B F X N T hk hd hu hret
  w_top on
  refine wpAny_call ?_
  k_dflt (refine' code_def ?k1 ?k2 ?k3 ?k4 ?k5 ?kA ?kF ?kK ?k6 ?k7 ?k8 ?k9 ?kB ?_ ?c2 ?c3 ?c4 ?c5; (case kA => exact rfl); (case kF => exact rfl); (case kK => assumption); (case k1 => k_asm); (case k2 => k_asm); (case k3 => k_asm); (case k4 => k_asm); (case k5 => k_asm); (case k6 => k_is); (case k7 => k_is); (case k8 => ktr_room); (case k9 => first | exact BindsTo.of_eq rfl | exact binds_K (by k_in) rfl (by k_is) rfl rfl rfl); (case c5 => decide); (case kB => exact locs rfl); (case c2 => exact rfl); (case c3 => exact rfl); (case c4 => exact rfl); k_whole; intro g' L' h' FG' F' N' B' X' T'; (try dsimp only); (try k_lift B'); (try k_fold))

  k_steps
  all_goals exact hret _ [_, _] _ _ ⟨_, _, _, _, _, _, _, _, rfl, rfl⟩ (by assumption) (by assumption)
end -- C6
section -- C7
local macro_rules | `(tactic| walk_at "pad 16") => `(tactic| skip)
local macro_rules | `(tactic| walk_at "pad 17") => `(tactic| skip)
local macro_rules | `(tactic| walk_at "pad 18") => `(tactic| skip)
local macro_rules | `(tactic| walk_at "pad 19") => `(tactic| skip)
local macro_rules | `(tactic| walk_at "pad 20") => `(tactic| skip)
open PySem.Builtin.Int (intBits)

local macro_rules | `(tactic| walk_at "binaryOp Add int int") => `(tactic| (k_here; (with_reducible refine add_int ?_); (try dsimp only)))
local macro_rules | `(tactic| walk_at "binaryOp Sub int int") => `(tactic| (k_here; (with_reducible refine sub_int ?_); (try dsimp only)))
local macro_rules | `(tactic| walk_at "binaryOp RShift int int") => `(tactic| (k_here; (with_reducible refine shr_rule (by omega) ?_); (try dsimp only)))
local macro_rules | `(tactic| walk_at "inplaceOp RShift int int") => `(tactic| (k_here; (with_reducible refine ishr_rule (by omega) ?_); (try dsimp only)))
local macro_rules | `(tactic| walk_at "binaryOp BitAnd int int") => `(tactic| (k_here; (with_reducible refine band_rule ?_); (try dsimp only)))
local macro_rules | `(tactic| walk_at "call builtin:int.bit_length") => `(tactic| (k_here; (with_reducible refine bl_rule ?_); (try dsimp only)))
local macro_rules | `(tactic| walk_at "compareOp Eq int int") => `(tactic| (k_here; (with_reducible refine eqb_rule ?_); (try dsimp only)))
local macro_rules | `(tactic| walk_at "truthy int") => `(tactic| (k_here; (with_reducible refine tru_rule ?_); (try dsimp only)))
local macro_rules | `(tactic| walk_at "ite") => `(tactic| (k_here; k_openite; first
  | (with_reducible refine ite_yes (by first | assumption | omega) ?_)
  | (with_reducible refine ite_no (by first | assumption | omega) ?_)
  | (with_reducible refine ite_nyes (by first | assumption | omega) ?_)
  | (with_reducible refine ite_nno (by first | assumption | omega) ?_)
  | ((with_reducible refine ite_split ?_ ?_) <;> intro _)
  | ((with_reducible refine ite_nsplit ?_ ?_) <;> intro _)
  | (with_reducible refine ite_pos (by assumption) ?_)
  | (with_reducible refine ite_isFalse (by assumption) ?_)
  | ((with_reducible refine ite_splitb ?_ ?_) <;> intro _)))
local macro_rules | `(tactic| walk_at "binaryOp LShift int int") => `(tactic| (k_here; (with_reducible refine shl_rule (by omega) (by first | omega | assumption) ?_); (try dsimp only)))
local macro_rules | `(tactic| k_mem) => `(tactic| first | with_reducible assumption | (refine' List.mem_cons_of_mem _ ?_; k_mem))

local macro_rules | `(tactic| walk_at "compareOp Eq str str") => `(tactic| (k_here; first | (with_reducible refine eq_n ?_) | (with_reducible refine eq_f ?_) | (with_reducible refine eq_c ?_) | (with_reducible refine eq_d ?_) | (with_reducible refine eq_u ?_)))
local macro_rules | `(tactic| walk_at "subscriptTail") => `(tactic| (k_here; first
  | ((with_reducible refine' sd_rule ?F ?X ?h ?_); (case F => k_asm); (case X => k_asm); (case h => with_reducible assumption); (try dsimp only))
  | ((with_reducible refine' sd2_rule ?F ?X ?h ?g ?_); (case F => k_asm); (case X => k_asm); (case h => with_reducible assumption); (case g => with_reducible assumption))
  | ((with_reducible refine' rec_rule ?F ?X ?_); (case F => k_asm); (case X => k_asm); (try dsimp only))))

local macro_rules | `(tactic| walk_at "binaryOp LShift int int") => `(tactic| (k_here; (with_reducible refine shl1_rule (by omega) (by omega) ?_); (try dsimp only)))
local macro_rules | `(tactic| walk_at "binaryOp BitXor int int") => `(tactic| (k_here; (with_reducible refine xor0_rule (by assumption) ?_); (try dsimp only)))
local macro_rules | `(tactic| walk_at "call builtin:divmod") => `(tactic| (k_here; (with_reducible refine' divmod_rule ?F ?N ?a ?b ?_); (case F => k_asm); (case N => k_asm); (case a => omega); (case b => omega); (intro h' D' F' N'; (try dsimp only); (try k_sweep))))

local macro_rules | `(tactic| walk_at "call ref") => `(tactic| (k_here; (with_reducible show wpAny _ _ (call (Value.ref 45) [Value.int _ _, Value.int _ _, Value.int _ _, Value.int _ _, Value.int _ _, Value.str _ _]) _ _ _); (refine' Tell.use (norm_tells _ _ _ _ _ _ _ _ _ _ _ _ _ _ ?p1 ?p2 ?p3 ?p4 ?p5) ?k1 ?k2 ?k3 ?k4 ?k5 ?k6 ?k7 ?k8 ?_); (case k1 => k_asm); (case k2 => k_asm); (case k3 => k_asm); (case k4 => k_asm); (case k5 => k_asm); (case k6 => first | exact rfl | assumption); (case k7 => first | ktr_room | omega); (case k8 => first | ktr_units | omega); (case p1 => first | assumption | omega | decide); (case p2 => first | assumption | omega | decide); (case p3 => first | assumption | omega | decide); (case p4 => first | assumption | omega | decide); (case p5 => first | assumption | omega | decide); (intro v9 tl9 h9 tk9 R9 F9 N9; obtain ⟨D9, m9, e9, b9, ta9, tb9, tc9, td9, ev9, et9, H9⟩ := R9; subst ev9; subst et9; (try dsimp only [List.cons_append, List.nil_append] at N9); (try dsimp only); (try k_sweep); (try k_fold))))
theorem div_facts {man prec : Int} (hm : 0 < man) (hp : 1 ≤ prec) (hb : intBits man ≤ 1000) (hp2 : prec ≤ 1000) :
    0 < fdv (shl 1 (prec - 1 + intBits man + 5)) man ∧ intBits (fdv (shl 1 (prec - 1 + intBits man + 5)) man) ≤ 3000 ∧ 0 < shl (fdv (shl 1 (prec - 1 + intBits man + 5)) man) 1 + 1 ∧ intBits (shl (fdv (shl 1 (prec - 1 + intBits man + 5)) man) 1 + 1) ≤ 4000 := by
  have e : shl 1 (prec - 1 + intBits man + 5) = 2 ^ (prec - 1 + intBits man + 5).toNat := by rw [shl_eq, Int.one_mul]
  rw [e, fdv_ediv hm]
  have h1 : man ≤ 2 ^ (prec - 1 + intBits man + 5).toNat := by
    have := bits_lt (x := man) (by omega)
    have h2 := two_pow_le (a := intBits man) (b := (prec - 1 + intBits man + 5).toNat) (by omega)
    omega
  have p1 : 0 < (2 : Int) ^ (prec - 1 + intBits man + 5).toNat / man := by
    have : 1 ≤ (2 : Int) ^ (prec - 1 + intBits man + 5).toNat / man := by rw [Int.le_ediv_iff_mul_le hm]; omega
    omega
  have p2 : intBits ((2 : Int) ^ (prec - 1 + intBits man + 5).toNat / man) ≤ 3000 := by
    rw [bits_le_iff (by omega)]
    have q1 := Int.ediv_le_self man (show (0 : Int) ≤ 2 ^ (prec - 1 + intBits man + 5).toNat from Int.le_of_lt (tp _))
    have q2 := two_pow_lt (a := (prec - 1 + intBits man + 5).toNat) (b := 3000) (by omega)
    omega
  have e2 : shl ((2 : Int) ^ (prec - 1 + intBits man + 5).toNat / man) 1 = (2 : Int) ^ (prec - 1 + intBits man + 5).toNat / man * 2 := by rw [shl_eq]; rfl
  rw [e2]
  refine ⟨p1, p2, by omega, ?_⟩
  have := (bits_le_iff (by omega)).mp p2
  rw [bits_le_iff (by omega)]
  have q3 := two_pow_lt (a := 3001) (b := 4000) (by omega)
  have q4 : (2 : Int) ^ 3001 = 2 ^ 3000 * 2 := Int.pow_succ 2 3000
  generalize (2 : Int) ^ 3001 = A at *
  generalize (2 : Int) ^ 3000 = B at *
  generalize (2 : Int) ^ 4000 = C at *
  omega
theorem div_rel1 {man exp prec : Int} (h1 : ¬ man = 1) (hm : 0 < man) (hp : 1 ≤ prec) (h : fmd (shl 1 (prec - 1 + intBits man + 5)) man ≠ 0) : DivRel man exp prec (shl (fdv (shl 1 (prec - 1 + intBits man + 5)) man) 1 + 1) (0 - exp - (prec - 1 + intBits man + 5 + 1)) := by
  have e : shl 1 (prec - 1 + intBits man + 5) = 2 ^ (prec - 1 + intBits man + 5).toNat := by rw [shl_eq, Int.one_mul]
  rw [e, fmd_emod hm] at h
  refine .inr ⟨h1, (prec - 1 + intBits man + 5).toNat, by omega, .inr ⟨h, ?_, by omega⟩⟩
  rw [e, fdv_ediv hm, shl_eq, Int.mul_comm]; rfl
theorem div_rel2 {man exp prec : Int} (h1 : ¬ man = 1) (hm : 0 < man) (hp : 1 ≤ prec) (h : ¬ fmd (shl 1 (prec - 1 + intBits man + 5)) man ≠ 0) : DivRel man exp prec (fdv (shl 1 (prec - 1 + intBits man + 5)) man) (0 - exp - (prec - 1 + intBits man + 5)) := by
  have e : shl 1 (prec - 1 + intBits man + 5) = 2 ^ (prec - 1 + intBits man + 5).toNat := by rw [shl_eq, Int.one_mul]
  rw [e, fmd_emod hm] at h
  refine .inr ⟨h1, (prec - 1 + intBits man + 5).toNat, by omega, .inl ⟨by omega, ?_, by omega⟩⟩
  rw [e, fdv_ediv hm]
set_option maxHeartbeats 4000000 in
theorem div_tells (w : World) (news : Led) (r : Rnd) (S : Addr) (sg man exp prec : Int) (t1 t2 t3 t4 t5 t6 : Tok) (hS : (S, I4 sg man exp (intBits man) t1 t2 t3 t4) ∈ news) (hs : sg = 0 ∨ sg = 1) (hm : 0 < man) (hp : 1 ≤ prec) (hb : intBits man ≤ 1000) (hp2 : prec ≤ 1000) :
    Tup4 w 82 news [.ref 23, .ref S, .int prec t5, .str r.str t6] 7 sg (fun m' e' b' => ∃ q x, DivRel man exp prec q x ∧ NormOK r sg q x prec m' e' b') := by
  (try unfold Tup4); unfold Tell; k_fill
  intro p loose mean mg mb dp un gd cn cs a ccd cl outer A₀ base h₀ L m s Q E B F X N T hk hd hu hret
  w_top on
  refine wpAny_call ?_
  k_dflt (refine' code_def ?k1 ?k2 ?k3 ?k4 ?k5 ?kA ?kF ?kK ?k6 ?k7 ?k8 ?k9 ?kB ?_ ?c2 ?c3 ?c4 ?c5; (case kA => exact rfl); (case kF => exact rfl); (case kK => assumption); (case k1 => k_asm); (case k2 => k_asm); (case k3 => k_asm); (case k4 => k_asm); (case k5 => k_asm); (case k6 => k_is); (case k7 => k_is); (case k8 => ktr_room); (case k9 => first | exact BindsTo.of_eq rfl | exact binds_K (by k_in) rfl (by k_is) rfl rfl rfl); (case c5 => decide); (case kB => exact locs rfl); (case c2 => exact rfl); (case c3 => exact rfl); (case c4 => exact rfl); k_whole; intro g' L' h' FG' F' N' B' X' T'; (try dsimp only); (try k_lift B'); (try k_fold))

  obtain ⟨q1, q2, q3, q4⟩ := div_facts hm hp hb hp2
  k_steps
  · refine' done4s hret ?F0 ?N0 ?x0 in1 ?H0
    case F0 => assumption
    case N0 => assumption
    case x0 => exact .head _
    case H0 => exact ⟨1, 0 - exp, .inl ⟨by assumption, rfl, by omega⟩, by assumption⟩
  · refine' done4s hret ?F1 ?N1 ?x1 in2 ?H1
    case F1 => assumption
    case N1 => assumption
    case x1 => exact .head _
    case H1 => exact ⟨_, _, div_rel1 (by assumption) hm hp (by assumption), by assumption⟩
  · refine' done4s hret ?F2 ?N2 ?x2 in2 ?H2
    case F2 => assumption
    case N2 => assumption
    case x2 => exact .head _
    case H2 => exact ⟨_, _, div_rel2 (by assumption) hm hp (by assumption), by assumption⟩
end -- C7
section -- C8
open PySem.Builtin.Int (intBits)

local macro_rules | `(tactic| walk_at "binaryOp Add int int") => `(tactic| (k_here; (with_reducible refine add_int ?_); (try dsimp only)))
local macro_rules | `(tactic| walk_at "binaryOp Sub int int") => `(tactic| (k_here; (with_reducible refine sub_int ?_); (try dsimp only)))
local macro_rules | `(tactic| walk_at "binaryOp RShift int int") => `(tactic| (k_here; (with_reducible refine shr_rule (by omega) ?_); (try dsimp only)))
local macro_rules | `(tactic| walk_at "inplaceOp RShift int int") => `(tactic| (k_here; (with_reducible refine ishr_rule (by omega) ?_); (try dsimp only)))
local macro_rules | `(tactic| walk_at "binaryOp BitAnd int int") => `(tactic| (k_here; (with_reducible refine band_rule ?_); (try dsimp only)))
local macro_rules | `(tactic| walk_at "call builtin:int.bit_length") => `(tactic| (k_here; (with_reducible refine bl_rule ?_); (try dsimp only)))
local macro_rules | `(tactic| walk_at "compareOp Eq int int") => `(tactic| (k_here; (with_reducible refine eqb_rule ?_); (try dsimp only)))
local macro_rules | `(tactic| walk_at "truthy int") => `(tactic| (k_here; (with_reducible refine tru_rule ?_); (try dsimp only)))
local macro_rules | `(tactic| walk_at "ite") => `(tactic| (k_here; k_openite; first
  | (with_reducible refine ite_yes (by first | assumption | omega) ?_)
  | (with_reducible refine ite_no (by first | assumption | omega) ?_)
  | (with_reducible refine ite_nyes (by first | assumption | omega) ?_)
  | (with_reducible refine ite_nno (by first | assumption | omega) ?_)
  | ((with_reducible refine ite_split ?_ ?_) <;> intro _)
  | ((with_reducible refine ite_nsplit ?_ ?_) <;> intro _)
  | (with_reducible refine ite_pos (by assumption) ?_)
  | (with_reducible refine ite_isFalse (by assumption) ?_)
  | ((with_reducible refine ite_splitb ?_ ?_) <;> intro _)))
local macro_rules | `(tactic| walk_at "binaryOp LShift int int") => `(tactic| (k_here; (with_reducible refine shl_rule (by omega) (by first | omega | assumption) ?_); (try dsimp only)))
local macro_rules | `(tactic| k_mem) => `(tactic| first | with_reducible assumption | (refine' List.mem_cons_of_mem _ ?_; k_mem))

local macro_rules | `(tactic| walk_at "compareOp Eq str str") => `(tactic| (k_here; first | (with_reducible refine eq_n ?_) | (with_reducible refine eq_f ?_) | (with_reducible refine eq_c ?_) | (with_reducible refine eq_d ?_) | (with_reducible refine eq_u ?_)))
local macro_rules | `(tactic| walk_at "subscriptTail") => `(tactic| (k_here; first
  | ((with_reducible refine' sd_rule ?F ?X ?h ?_); (case F => k_asm); (case X => k_asm); (case h => with_reducible assumption); (try dsimp only))
  | ((with_reducible refine' sd2_rule ?F ?X ?h ?g ?_); (case F => k_asm); (case X => k_asm); (case h => with_reducible assumption); (case g => with_reducible assumption))
  | ((with_reducible refine' rec_rule ?F ?X ?_); (case F => k_asm); (case X => k_asm); (try dsimp only))))

local macro_rules | `(tactic| walk_at "binaryOp LShift int int") => `(tactic| (k_here; (with_reducible refine shl1_rule (by omega) (by omega) ?_); (try dsimp only)))
local macro_rules | `(tactic| walk_at "binaryOp BitXor int int") => `(tactic| (k_here; (with_reducible refine xor0_rule (by assumption) ?_); (try dsimp only)))
local macro_rules | `(tactic| walk_at "call builtin:divmod") => `(tactic| (k_here; (with_reducible refine' divmod_rule ?F ?N ?a ?b ?_); (case F => k_asm); (case N => k_asm); (case a => omega); (case b => omega); (intro h' D' F' N'; (try dsimp only); (try k_sweep))))

local macro_rules | `(tactic| walk_at "binaryOp Mult int int") => `(tactic| (k_here; (with_reducible refine mulb_rule (by assumption) (by assumption) (by decide) ?_); (try dsimp only)))
local macro_rules | `(tactic| walk_at "inplaceOp Pow int int") => `(tactic| (k_here; (with_reducible refine iipw_rule (by omega) (by omega) ?_); (try dsimp only)))
local macro_rules | `(tactic| walk_at "binaryOp FloorDiv int int") => `(tactic| (k_here; (with_reducible refine fdv_rule (by omega) (by decide) ?_); (try dsimp only)))
local macro_rules | `(tactic| walk_at "binaryOp Pow int int") => `(tactic| (k_here; (with_reducible refine pow2_rule (by omega) (by omega) ?_); (try dsimp only)))

local macro_rules | `(tactic| walk_at "exec While") => `(tactic| (k_here; refine halt ?_))
local macro_rules | `(tactic| walk_at "KswEnd") => `(tactic| (refine halt ?_))
local macro_rules | `(tactic| walk_at "call ref") => `(tactic| (k_here; (with_reducible show wpAny _ _ (call (Value.ref 45) [Value.int _ _, Value.int _ _, Value.int _ _, Value.int _ _, Value.int _ _, Value.str _ _]) _ _ _); (refine' Tell.use (norm_tells _ _ _ _ _ _ _ _ _ _ _ _ _ _ ?p1 ?p2 ?p3 ?p4 ?p5) ?k1 ?k2 ?k3 ?k4 ?k5 ?k6 ?k7 ?k8 ?_); (case k1 => k_asm); (case k2 => k_asm); (case k3 => k_asm); (case k4 => k_asm); (case k5 => k_asm); (case k6 => first | exact rfl | assumption); (case k7 => first | ktr_room | omega); (case k8 => first | ktr_units | omega); (case p1 => first | assumption | omega | decide); (case p2 => first | assumption | omega | decide); (case p3 => first | assumption | omega | decide); (case p4 => first | assumption | omega | decide); (case p5 => first | assumption | omega | decide); (intro v9 tl9 h9 tk9 R9 F9 N9; obtain ⟨D9, m9, e9, b9, ta9, tb9, tc9, td9, ev9, et9, H9⟩ := R9; subst ev9; subst et9; (try dsimp only [List.cons_append, List.nil_append] at N9); (try dsimp only); (try k_sweep); (try k_fold))))
local macro_rules | `(tactic| walk_at "call ref") => `(tactic| (k_here; (with_reducible show wpAny _ _ (call (Value.ref 53) [Value.ref _, Value.int _ _, Value.str _ _]) _ _ _); (refine' Tell.use (pos_tells _ _ _ _ _ _ _ _ _ _ _ _ _ _ _ ?p0 ?p1 ?p2 ?p3 ?p4 ?p5) ?k1 ?k2 ?k3 ?k4 ?k5 ?k6 ?k7 ?k8 ?_); (case k1 => k_asm); (case k2 => k_asm); (case k3 => k_asm); (case k4 => k_asm); (case k5 => k_asm); (case k6 => first | exact rfl | assumption); (case k7 => first | ktr_room | omega); (case k8 => first | ktr_units | omega); (case p0 => first | with_reducible assumption | k_mem | assumption); (case p1 => first | assumption | omega | decide); (case p2 => first | assumption | omega | decide); (case p3 => first | assumption | omega | decide); (case p4 => first | assumption | omega | decide); (case p5 => first | assumption | omega | decide); (intro v9 tl9 h9 tk9 R9 F9 N9; obtain ⟨D9, m9, e9, b9, ta9, tb9, tc9, td9, ev9, et9, H9⟩ := R9; subst ev9; subst et9; (try dsimp only [List.cons_append, List.nil_append] at N9); (try dsimp only); (try k_sweep); (try k_fold))))
local macro_rules | `(tactic| walk_at "call ref") => `(tactic| (k_here; (with_reducible show wpAny _ _ (call (Value.ref 82) [Value.ref _, Value.ref _, Value.int _ _, Value.str _ _]) _ _ _); (refine' Tell.use (div_tells _ _ _ _ _ _ _ _ _ _ _ _ _ _ ?p0 ?p1 ?p2 ?p3 ?p4 ?p5) ?k1 ?k2 ?k3 ?k4 ?k5 ?k6 ?k7 ?k8 ?_); (case k1 => k_asm); (case k2 => k_asm); (case k3 => k_asm); (case k4 => k_asm); (case k5 => k_asm); (case k6 => first | exact rfl | assumption); (case k7 => first | ktr_room | omega); (case k8 => first | ktr_units | omega); (case p0 => first | with_reducible assumption | k_mem | assumption); (case p1 => first | assumption | omega | decide); (case p2 => first | assumption | omega | decide); (case p3 => first | assumption | omega | decide); (case p4 => first | assumption | omega | decide); (case p5 => first | assumption | omega | decide); (intro v9 tl9 h9 tk9 R9 F9 N9; obtain ⟨D9, m9, e9, b9, ta9, tb9, tc9, td9, ev9, et9, H9⟩ := R9; subst ev9; subst et9; (try dsimp only [List.cons_append, List.nil_append] at N9); (try dsimp only); (try k_sweep); (try k_fold))))
theorem near_refl (t : Int) (a : Int) (W : Nat) (ha : 0 ≤ a) (ht : 0 ≤ t) : Near t t 0 a W := by
  unfold Near
  rw [Int.pow_zero, Int.mul_one]
  exact ⟨Int.le_refl _, Int.mul_le_mul_of_nonneg_left (by omega) ht⟩
theorem near_exact {man exp n prec : Int} (hm : 0 < man) : PowNear man exp n prec (man ^ n.toNat) (exp * n) := ⟨0, by omega, near_refl _ _ _ (by omega) (Int.pow_nonneg (Int.le_of_lt hm))⟩
theorem pow_ok {r : Rnd} {sg man exp n prec m' e' b' : Int} (hm : 0 < man) (h : NormOK r sg (man ^ n.toNat) (exp * n) prec m' e' b') : PowOK r sg man exp n prec m' e' b' :=
  ⟨fun _ => h, _, _, Int.pow_pos hm, near_exact hm, h⟩
theorem ok_1 {r : Rnd} {sg man exp prec m' e' b' : Int} {n : Int} (hn : n = 1) (hm : 0 < man) (h : NormOK r sg man exp prec m' e' b') : PowOK r sg man exp n prec m' e' b' := by
  subst hn
  refine pow_ok hm ?_
  rw [show (1 : Int).toNat = 1 from rfl, Int.pow_one, Int.mul_one]; exact h
theorem norm_one {r : Rnd} {sg exp prec : Int} (hp : 1 ≤ prec) : NormOK r sg 1 exp prec 1 exp 1 := by
  have h := nA1' (r := r) (sg := sg) (exp := exp) (prec := prec) (man := 1) (by decide) hp (by rw [show intBits 1 = 1 from by decide]; omega) (by rw [band1]; decide) rfl
  exact h
theorem ok_one {r : Rnd} {sg man exp n prec : Int} (hm : man = 1) (hp : 1 ≤ prec) : PowOK r sg man exp n prec 1 (exp * n) 1 := by
  subst hm
  refine pow_ok (by decide) ?_
  rw [Int.one_pow]; exact norm_one hp
theorem ok_2 {r : Rnd} {sg man exp prec m' e' b' : Int} {n : Int} (hn : n = 2) (hm : 0 < man) (h : NormOK r sg (mulI man man) (exp + exp) prec m' e' b') : PowOK r sg man exp n prec m' e' b' := by
  subst hn
  refine pow_ok hm ?_
  rw [show (2 : Int).toNat = 2 from rfl, Int.pow_succ, Int.pow_one, ← mulI_eq, show exp * 2 = exp + exp by omega]; exact h
theorem ok_3 {r : Rnd} {sg man exp n prec m' e' b' : Int} (hm : 0 < man) (h : NormOK r sg (ipw man n) (exp * n) prec m' e' b') : PowOK r sg man exp n prec m' e' b' := by
  refine pow_ok hm ?_
  rw [← ipw_eq]; exact h
theorem ok_4 {r : Rnd} {sg man exp n prec m' e' b' pm pe : Int} (h1 : ¬ (intBits man : Int) * n < 1000) (h2 : ¬ n = 1) (h2b : ¬ n = 2) (h2c : 1 ≤ n) (h3 : ¬ man = 1) (hp : 0 < pm ∧ PowNear man exp n prec pm pe) (h : NormOK r sg pm pe prec m' e' b') : PowOK r sg man exp n prec m' e' b' :=
  ⟨fun hc => by rcases hc with hc | hc | hc <;> omega, pm, pe, hp.1, hp.2, h⟩
theorem one_of_mul {man : Int} (hm : 0 < man) (h : mulI man man = 1) : man = 1 := by
  rw [mulI_eq] at h
  have := Int.mul_le_mul_of_nonneg_left (show 1 ≤ man by omega) (Int.le_of_lt hm)
  omega
theorem ipw_facts {man n : Int} (hm : 0 < man) (hb : intBits man ≤ 60) (hn2 : n ≤ 60) : 0 < ipw man n ∧ intBits (ipw man n) ≤ 4000 := by
  rw [ipw_eq]
  refine ⟨Int.pow_pos hm, Nat.le_trans (intBits_pow_le hb n.toNat) ?_⟩
  have := Nat.mul_le_mul_left 60 (show n.toNat ≤ 60 by omega)
  omega
theorem inv0 {man exp n : Int} {wp : Nat} (hm : 0 < man) (hb : intBits man ≤ 60) (hn : 1 ≤ n) {ta tb tc td te tf tg : Tok} : PInv man exp n wp ⟨n, man, exp, intBits man, 1, 0, 1, ta, tb, tc, td, te, tf, tg⟩ := by
  refine ⟨hn, hm, by show (0 : Int) < 1; decide, rfl, by show (1 : Int) = intBits 1; decide, by show intBits man ≤ 200; omega, by show intBits 1 ≤ 200; decide, 0, 0, 0, 0, ?_, ?_, ?_, ?_, ?_⟩
  · show ((0 : Nat) : Int) + 2 ^ 0 * n = n
    rw [Int.pow_zero]; omega
  · show exp = exp * 2 ^ 0 + ((0 : Nat) : Int)
    rw [Int.pow_zero]; omega
  · show 0 = exp * ((0 : Nat) : Int) + ((0 : Nat) : Int)
    simp
  · show Near (man ^ 2 ^ 0) man 0 _ _
    rw [Nat.pow_zero, Int.pow_one]
    exact near_refl _ _ _ (by decide) (Int.le_of_lt hm)
  · show Near (man ^ 0) 1 0 _ _
    rw [Int.pow_zero]
    exact near_refl _ _ _ (by decide) (by decide)
theorem tr_facts {a b w : Int} (ha : 0 < a) (hb : 0 < b) (hw : 1 ≤ w) (T : Int) (hT : T = intBits (mulI a b)) : w < T → 0 < shr (mulI a b) (T - w) ∧ w = intBits (shr (mulI a b) (T - w)) := by
  intro h
  rw [hT] at h ⊢
  exact shr_bits (mul_bits ha hb).2.2 hw h
theorem tr_cut {a b e w : Int} {wp : Nat} (hw : (wp : Int) = w) {T : Int} (hT : T = intBits (mulI a b)) (h : w < T) : TR wp (mulI a b) e (shr (mulI a b) (T - w)) (e + (T - w)) w := .inr ⟨by omega, by rw [hT, hw], by rw [hT, hw], hw.symm⟩
theorem tr_keep {a b e w : Int} {wp : Nat} (hw : (wp : Int) = w) {T : Int} (hT : T = intBits (mulI a b)) (h : ¬ w < T) : TR wp (mulI a b) e (mulI a b) e T := .inl ⟨by omega, rfl, rfl, hT⟩
theorem odd_of {x : Int} (h : band x 1 ≠ 0) : x % 2 = 1 := by rw [band1] at h; omega
theorem even_of {x : Int} (h : ¬ band x 1 ≠ 0) : x % 2 = 0 := by rw [band1] at h; omega
theorem lt1 {c : Int} (h : 1 ≤ c) : (fdv (c - 1) 2).toNat < c.toNat := by rw [fdv_ediv (by decide)]; omega
theorem lt2 {c : Int} (h : 1 ≤ c) : (fdv c 2).toNat < c.toNat := by rw [fdv_ediv (by decide)]; omega
theorem down_of {r : Rnd} {man n sg : Int} (hdown : (intBits man : Int) * n < 1000 ∨ n < 3 ∨ man = 1 ∨ r.is .n = true ∨ r.sd (band sg n) ≠ 0) (h1 : ¬ (intBits man : Int) * n < 1000) (h2 : ¬ n = 1) (h3 : ¬ n = 2) (h4 : 1 ≤ n) (h5 : ¬ man = 1) (h6 : r.is .n = false) : r.sd (band sg n) ≠ 0 := by
  rcases hdown with h | h | h | h | h
  · exact absurd h h1
  · omega
  · exact absurd h h5
  · rw [h6] at h; cases h
  · exact h
theorem fin' {prec man exp n : Int} {wp : Nat} {cn cm ce cp cq : Int} {ta tb tc td te tf tg : Tok} (hp : 1 ≤ prec) (hm : 0 < man) (hn3 : 3 ≤ n) (hn : n ≤ 60) (hwp : wp = (prec + 4 * (intBits n) + 4).toNat) (hI : PInv man exp n wp ⟨cn, cm, ce, intBits cm, cp, cq, intBits cp, ta, tb, tc, td, te, tf, tg⟩)
    (hc : cn - 1 = 0) {p' q' : Int} (t : ∃ r', TR wp (mulI cp cm) (cq + ce) p' q' r') : 0 < p' ∧ PowNear man exp n prec p' q' := by
  obtain ⟨r', t⟩ := t
  obtain ⟨a, _, _, b⟩ := hI.fin hp hm hn3 hn hwp hc t
  exact ⟨a, b⟩
theorem fin2 {a b c d : Prop} (h : a ∧ b ∧ c ∧ d) : a ∧ d := ⟨h.1, h.2.2.2⟩
set_option maxHeartbeats 4000000 in
theorem pow_tells (w : World) (news : Led) (r : Rnd) (S : Addr) (sg man exp n prec : Int) (t1 t2 t3 t4 t5 t6 t7 : Tok) (hS : (S, I4 sg man exp (intBits man) t1 t2 t3 t4) ∈ news) (hs : sg = 0 ∨ sg = 1) (hm : 0 < man) (hp : 1 ≤ prec) (hb : intBits man ≤ 60) (hp2 : prec ≤ 100) (hn : 1 ≤ n) (hn2 : n ≤ 60)
    (hdown : (intBits man : Int) * n < 1000 ∨ n < 3 ∨ man = 1 ∨ r.is .n = true ∨ r.sd (band sg n) ≠ 0) :
    Tup4 w 91 news [.ref S, .int n t7, .int prec t5, .str r.str t6] 10 (band sg n) (PowOK r (band sg n) man exp n prec) := by
  (try unfold Tup4); unfold Tell; k_fill
  intro p loose mean mg mb dp un gd cn cs a ccd cl outer A₀ base h₀ L m s Q E B F X N T hk hd hu hret
  w_top on
  refine wpAny_call ?_
  k_dflt (refine' code_def ?k1 ?k2 ?k3 ?k4 ?k5 ?kA ?kF ?kK ?k6 ?k7 ?k8 ?k9 ?kB ?_ ?c2 ?c3 ?c4 ?c5; (case kA => exact rfl); (case kF => exact rfl); (case kK => assumption); (case k1 => k_asm); (case k2 => k_asm); (case k3 => k_asm); (case k4 => k_asm); (case k5 => k_asm); (case k6 => k_is); (case k7 => k_is); (case k8 => ktr_room); (case k9 => first | exact BindsTo.of_eq rfl | exact binds_K (by k_in) rfl (by k_is) rfl rfl rfl); (case c5 => decide); (case kB => exact locs rfl); (case c2 => exact rfl); (case c3 => exact rfl); (case c4 => exact rfl); k_whole; intro g' L' h' FG' F' N' B' X' T'; (try dsimp only); (try k_lift B'); (try k_fold))

  have hsn : band sg n = 0 ∨ band sg n = 1 := band_01 hs
  have hn1 : intBits n ≤ 6 := by rw [bits_le_iff (by omega)]; have : (2 : Int) ^ 6 = 64 := by decide
                                 omega
  have hn64 : intBits n ≤ 64 := by omega
  obtain ⟨hq1, hq2⟩ := ipw_facts (n := n) hm hb hn2
  have hq5 := bits_pos1 hm
  have hq3 : 0 < mulI man man := (mul_bits hm hm).2.2
  have hq4 : intBits (mulI man man) ≤ 120 := Nat.le_trans (mul_bits hm hm).2.1 (by omega)
  have hq6 := bits_prod2 hm hm
  have hsg2 : n = 2 → band sg n = 0 := fun h => by rw [band_sgn hs, if_neg (by omega)]
  have hsg1 : n = 1 → band sg n = sg := fun h => by rw [band_sgn hs]; split <;> omega
  k_steps
  · rw [hsg1 (by assumption)] at hret
    refine' done4 hret ?F1 ?N1 ?H1
    case F1 => assumption
    case N1 => assumption
    case H1 => exact ok_1 (by assumption) hm (by assumption)
  · rw [hsg2 (by assumption)] at hret
    refine' done4 hret ?F2 ?N2 ?H2
    case F2 => assumption
    case N2 => assumption
    case H2 =>
      have e1 := one_of_mul hm (by assumption)
      have e2 := ok_one (r := r) (sg := 0) (exp := exp) (n := n) e1 hp
      rw [show exp * n = exp + exp by rw [show n = 2 by assumption]; omega] at e2
      exact e2
  · rw [hsg2 (by assumption)] at hret
    refine' done4 hret ?F3 ?N3 ?H3
    case F3 => assumption
    case N3 => assumption
    case H3 => exact ok_2 (by assumption) hm (by assumption)
  · refine' done4 hret ?F4 ?N4 ?H4
    case F4 => assumption
    case N4 => assumption
    case H4 => exact ok_one (by assumption) hp
  · refine' done4 hret ?F5 ?N5 ?H5
    case F5 => assumption
    case N5 => assumption
    case H5 => exact ok_3 hm (by assumption)
  · unfold Halt
    rename Fr _ _ _ _ => lF
    rename News _ _ _ _ => lN
    have hW : 9 ≤ prec + 4 * (intBits n : Int) + 4 := by have := bits_pos1 (x := n) (by omega); omega
    have hWN : ((prec + 4 * (intBits n : Int) + 4).toNat : Int) = prec + 4 * (intBits n : Int) + 4 := by omega
    refine' pl_while (PInv man exp n (prec + 4 * (intBits n) + 4).toNat) lF lN ?h1x ?h2x ?h3x ?h4x ?h5x ?h6x ?h7x ?hpx ?turnx ?hEx
    case h1x => exact rfl
    case h2x => exact rfl
    case h3x => exact rfl
    case h4x => exact rfl
    case h5x => exact rfl
    case h6x => exact rfl
    case h7x => exact rfl
    case hEx => passes_own
    case hpx => exact inv0 hm hb hn
    rintro ⟨cn, cm, ce, cb, cp, cq, cr, xa, xb, xc, xd, xe, xf, xg⟩ h9 tk9 hI F9 N9
    obtain rfl : cb = intBits cm := hI.hb
    obtain rfl : cr = intBits cp := hI.hpb
    have cn1 : 1 ≤ cn := hI.n1
    have cm1 : 0 < cm := hI.m1
    have cp1 : 0 < cp := hI.p1
    have cb2 : intBits cm ≤ 200 := hI.b2
    have cr2 : intBits cp ≤ 200 := hI.pb2
    have cb3 := bits_pos1 cm1
    have cr3 := bits_pos1 cp1
    have g1 := bits_prod cp1 cm1
    have g2 := bits_prod2 cm1 cm1
    have g3 := (mul_bits cp1 cm1).2.2
    have g4 := (mul_bits cm1 cm1).2.2
    have g5 : intBits (mulI cp cm) ≤ 400 := Nat.le_trans (mul_bits cp1 cm1).2.1 (by omega)
    have g6 := tr_facts cp1 cm1 (show 1 ≤ prec + 4 * (intBits n : Int) + 4 by omega) _ g1
    clear lF lN
    (try k_fold)
    k_steps
    all_goals first
      | (unfold Halt
         refine' pl_end (by assumption) (by assumption) (fun _ h => h) (by exact rfl) (by exact rfl) (by exact rfl) (by exact rfl) (by exact rfl) (by exact rfl) (by exact rfl) ?_ ?_ ?_
         · intro z h1 h2 h3 h4 h5 h6 h7
           simp only [h1, h2, h3, h4, h5, h6, h7, if_false]
         · first
             | refine PInv.odd hm (by omega) (by omega) hn2 hI (odd_of (by assumption)) (by assumption) ?_ ?_ <;> first | (refine tr_cut hWN g1 ?_; assumption) | (refine tr_keep hWN g1 ?_; assumption) | (refine tr_cut hWN g2 ?_; assumption) | (refine tr_keep hWN g2 ?_; assumption)
             | refine PInv.even hm (by omega) (by omega) hn2 hI (even_of (by assumption)) ?_ <;> first | (refine tr_cut hWN g2 ?_; assumption) | (refine tr_keep hWN g2 ?_; assumption)
         · first | exact lt1 cn1 | exact lt2 cn1)
      | (rename NormOK _ _ _ _ _ _ _ _ => hN
         refine done4 hret (by assumption) (by assumption) (ok_4 (by assumption) (by assumption) (by assumption) hn (by assumption) (fin' hp hm (by omega) hn2 rfl hI (by omega) ?_) hN)
         first | exact ⟨_, tr_cut hWN g1 (by assumption)⟩ | exact ⟨_, tr_keep hWN g1 (by assumption)⟩)
  · unfold Halt
    rename Fr _ _ _ _ => lF
    rename News _ _ _ _ => lN
    have hsd := down_of hdown (by assumption) (by assumption) (by assumption) hn (by assumption) (by assumption)
    have hW : 9 ≤ prec + 4 * (intBits n : Int) + 4 := by have := bits_pos1 (x := n) (by omega); omega
    have hWN : ((prec + 4 * (intBits n : Int) + 4).toNat : Int) = prec + 4 * (intBits n : Int) + 4 := by omega
    refine' pl_while (PInv man exp n (prec + 4 * (intBits n) + 4).toNat) lF lN ?h1y ?h2y ?h3y ?h4y ?h5y ?h6y ?h7y ?hpy ?turny ?hEy
    case h1y => exact rfl
    case h2y => exact rfl
    case h3y => exact rfl
    case h4y => exact rfl
    case h5y => exact rfl
    case h6y => exact rfl
    case h7y => exact rfl
    case hEy => passes_own
    case hpy => exact inv0 hm hb hn
    rintro ⟨cn, cm, ce, cb, cp, cq, cr, xa, xb, xc, xd, xe, xf, xg⟩ h9 tk9 hI F9 N9
    obtain rfl : cb = intBits cm := hI.hb
    obtain rfl : cr = intBits cp := hI.hpb
    have cn1 : 1 ≤ cn := hI.n1
    have cm1 : 0 < cm := hI.m1
    have cp1 : 0 < cp := hI.p1
    have cb2 : intBits cm ≤ 200 := hI.b2
    have cr2 : intBits cp ≤ 200 := hI.pb2
    have cb3 := bits_pos1 cm1
    have cr3 := bits_pos1 cp1
    have g1 := bits_prod cp1 cm1
    have g2 := bits_prod2 cm1 cm1
    have g3 := (mul_bits cp1 cm1).2.2
    have g4 := (mul_bits cm1 cm1).2.2
    have g5 : intBits (mulI cp cm) ≤ 400 := Nat.le_trans (mul_bits cp1 cm1).2.1 (by omega)
    have g6 := tr_facts cp1 cm1 (show 1 ≤ prec + 4 * (intBits n : Int) + 4 by omega) _ g1
    clear lF lN
    (try k_fold)
    k_steps
    all_goals first
      | (unfold Halt
         refine' pl_end (by assumption) (by assumption) (fun _ h => h) (by exact rfl) (by exact rfl) (by exact rfl) (by exact rfl) (by exact rfl) (by exact rfl) (by exact rfl) ?_ ?_ ?_
         · intro z h1 h2 h3 h4 h5 h6 h7
           simp only [h1, h2, h3, h4, h5, h6, h7, if_false]
         · first
             | refine PInv.odd hm (by omega) (by omega) hn2 hI (odd_of (by assumption)) (by assumption) ?_ ?_ <;> first | (refine tr_cut hWN g1 ?_; assumption) | (refine tr_keep hWN g1 ?_; assumption) | (refine tr_cut hWN g2 ?_; assumption) | (refine tr_keep hWN g2 ?_; assumption)
             | refine PInv.even hm (by omega) (by omega) hn2 hI (even_of (by assumption)) ?_ <;> first | (refine tr_cut hWN g2 ?_; assumption) | (refine tr_keep hWN g2 ?_; assumption)
         · first | exact lt1 cn1 | exact lt2 cn1)
      | (rename NormOK _ _ _ _ _ _ _ _ => hN
         refine done4 hret (by assumption) (by assumption) (ok_4 (by assumption) (by assumption) (by assumption) hn (by assumption) (fin' hp hm (by omega) hn2 rfl hI (by omega) ?_) hN)
         first | exact ⟨_, tr_cut hWN g1 (by assumption)⟩ | exact ⟨_, tr_keep hWN g1 (by assumption)⟩)
end -- C8
section -- C9
local macro_rules | `(tactic| walk_at "pad 19") => `(tactic| skip)
local macro_rules | `(tactic| walk_at "pad 20") => `(tactic| skip)
local macro_rules | `(tactic| walk_at "pad 21") => `(tactic| skip)
local macro_rules | `(tactic| walk_at "pad 22") => `(tactic| skip)
local macro_rules | `(tactic| walk_at "pad 23") => `(tactic| skip)
local macro_rules | `(tactic| walk_at "pad 24") => `(tactic| skip)
open PySem.Builtin.Int (intBits)

local macro_rules | `(tactic| walk_at "binaryOp Add int int") => `(tactic| (k_here; (with_reducible refine add_int ?_); (try dsimp only)))
local macro_rules | `(tactic| walk_at "binaryOp Sub int int") => `(tactic| (k_here; (with_reducible refine sub_int ?_); (try dsimp only)))
local macro_rules | `(tactic| walk_at "binaryOp RShift int int") => `(tactic| (k_here; (with_reducible refine shr_rule (by omega) ?_); (try dsimp only)))
local macro_rules | `(tactic| walk_at "inplaceOp RShift int int") => `(tactic| (k_here; (with_reducible refine ishr_rule (by omega) ?_); (try dsimp only)))
local macro_rules | `(tactic| walk_at "binaryOp BitAnd int int") => `(tactic| (k_here; (with_reducible refine band_rule ?_); (try dsimp only)))
local macro_rules | `(tactic| walk_at "call builtin:int.bit_length") => `(tactic| (k_here; (with_reducible refine bl_rule ?_); (try dsimp only)))
local macro_rules | `(tactic| walk_at "compareOp Eq int int") => `(tactic| (k_here; (with_reducible refine eqb_rule ?_); (try dsimp only)))
local macro_rules | `(tactic| walk_at "truthy int") => `(tactic| (k_here; (with_reducible refine tru_rule ?_); (try dsimp only)))
local macro_rules | `(tactic| walk_at "ite") => `(tactic| (k_here; k_openite; first
  | (with_reducible refine ite_yes (by first | assumption | omega) ?_)
  | (with_reducible refine ite_no (by first | assumption | omega) ?_)
  | (with_reducible refine ite_nyes (by first | assumption | omega) ?_)
  | (with_reducible refine ite_nno (by first | assumption | omega) ?_)
  | ((with_reducible refine ite_split ?_ ?_) <;> intro _)
  | ((with_reducible refine ite_nsplit ?_ ?_) <;> intro _)
  | (with_reducible refine ite_pos (by assumption) ?_)
  | (with_reducible refine ite_isFalse (by assumption) ?_)
  | ((with_reducible refine ite_splitb ?_ ?_) <;> intro _)))
local macro_rules | `(tactic| walk_at "binaryOp LShift int int") => `(tactic| (k_here; (with_reducible refine shl_rule (by omega) (by first | omega | assumption) ?_); (try dsimp only)))
local macro_rules | `(tactic| k_mem) => `(tactic| first | with_reducible assumption | (refine' List.mem_cons_of_mem _ ?_; k_mem))

local macro_rules | `(tactic| walk_at "compareOp Eq str str") => `(tactic| (k_here; first | (with_reducible refine eq_n ?_) | (with_reducible refine eq_f ?_) | (with_reducible refine eq_c ?_) | (with_reducible refine eq_d ?_) | (with_reducible refine eq_u ?_)))
local macro_rules | `(tactic| walk_at "subscriptTail") => `(tactic| (k_here; first
  | ((with_reducible refine' sd_rule ?F ?X ?h ?_); (case F => k_asm); (case X => k_asm); (case h => with_reducible assumption); (try dsimp only))
  | ((with_reducible refine' sd2_rule ?F ?X ?h ?g ?_); (case F => k_asm); (case X => k_asm); (case h => with_reducible assumption); (case g => with_reducible assumption))
  | ((with_reducible refine' rec_rule ?F ?X ?_); (case F => k_asm); (case X => k_asm); (try dsimp only))))

local macro_rules | `(tactic| walk_at "binaryOp LShift int int") => `(tactic| (k_here; (with_reducible refine shl1_rule (by omega) (by omega) ?_); (try dsimp only)))
local macro_rules | `(tactic| walk_at "binaryOp BitXor int int") => `(tactic| (k_here; (with_reducible refine xor0_rule (by assumption) ?_); (try dsimp only)))
local macro_rules | `(tactic| walk_at "call builtin:divmod") => `(tactic| (k_here; (with_reducible refine' divmod_rule ?F ?N ?a ?b ?_); (case F => k_asm); (case N => k_asm); (case a => omega); (case b => omega); (intro h' D' F' N'; (try dsimp only); (try k_sweep))))

local macro_rules | `(tactic| walk_at "binaryOp Mult int int") => `(tactic| (k_here; (with_reducible refine mulb_rule (by assumption) (by assumption) (by decide) ?_); (try dsimp only)))
local macro_rules | `(tactic| walk_at "inplaceOp Pow int int") => `(tactic| (k_here; (with_reducible refine iipw_rule (by omega) (by omega) ?_); (try dsimp only)))
local macro_rules | `(tactic| walk_at "binaryOp FloorDiv int int") => `(tactic| (k_here; (with_reducible refine fdv_rule (by omega) (by decide) ?_); (try dsimp only)))
local macro_rules | `(tactic| walk_at "binaryOp Pow int int") => `(tactic| (k_here; (with_reducible refine pow2_rule (by omega) (by omega) ?_); (try dsimp only)))

theorem mulI_bits {a b : Int} {k l m : Nat} (ha : intBits a ≤ k) (hb : intBits b ≤ l) (h : k + l ≤ m) : intBits (mulI a b) ≤ m := by rw [mulI_eq]; exact Nat.le_trans (bits_mul ha hb) h
set_option maxHeartbeats 4000000 in
theorem worth_tells (w : World) (news : Led) (S : Addr) (sg man exp bc : Int) (t1 t2 t3 t4 : Tok) (hS : (S, I4 sg man exp bc t1 t2 t3 t4) ∈ news) (hs : sg = 0 ∨ sg = 1) (hm : 0 ≤ man) (hb : intBits man ≤ 10000) (he : exp ≤ 20000) (he2 : -20000 ≤ exp) :
    Tell w 112 news [.ref S] 1 (fun v tl => ∃ D x y ta tb, v = .ref D ∧ tl = [(D, I2 x y ta tb)] ∧ ((0 ≤ exp ∧ x = mulI (if sg = 1 then -man else man) (ipw 2 exp) ∧ y = 1) ∨ (exp < 0 ∧ x = (if sg = 1 then -man else man) ∧ y = ipw 2 (-exp))) ∧ intBits x ≤ 40000 ∧ intBits y ≤ 40000) := by
  (try unfold Tup4); unfold Tell; k_fill
  intro p loose mean mg mb dp un gd cn cs a ccd cl outer A₀ base h₀ L m s Q E B F X N T hk hd hu hret
  w_top on
  refine wpAny_call ?_
  k_dflt (refine' code_def ?k1 ?k2 ?k3 ?k4 ?k5 ?kA ?kF ?kK ?k6 ?k7 ?k8 ?k9 ?kB ?_ ?c2 ?c3 ?c4 ?c5; (case kA => exact rfl); (case kF => exact rfl); (case kK => assumption); (case k1 => k_asm); (case k2 => k_asm); (case k3 => k_asm); (case k4 => k_asm); (case k5 => k_asm); (case k6 => k_is); (case k7 => k_is); (case k8 => ktr_room); (case k9 => first | exact BindsTo.of_eq rfl | exact binds_K (by k_in) rfl (by k_is) rfl rfl rfl); (case c5 => decide); (case kB => exact locs rfl); (case c2 => exact rfl); (case c3 => exact rfl); (case c4 => exact rfl); k_whole; intro g' L' h' FG' F' N' B' X' T'; (try dsimp only); (try k_lift B'); (try k_fold))

  have hp1 : intBits (ipw 2 exp) ≤ 20001 := ipw2_bits (k := 20000) (by omega)
  have hp2 : intBits (-man) ≤ 10000 := intBits_neg_le hb
  k_steps
  all_goals (refine hret _ [_] _ _ ⟨_, _, _, _, _, rfl, rfl, ?_⟩ (by assumption) (by assumption))
  · exact ⟨.inl ⟨by assumption, by rw [if_pos (by assumption)], rfl⟩, mulI_bits hp2 hp1 (by decide), by decide⟩
  · exact ⟨.inr ⟨by omega, by rw [if_pos (by assumption)], rfl⟩, by omega, Nat.le_trans (ipw2_bits (k := 20000) (by omega)) (by decide)⟩
  · exact ⟨.inl ⟨by assumption, by rw [if_neg (by assumption)], rfl⟩, mulI_bits hb hp1 (by decide), by decide⟩
  · exact ⟨.inr ⟨by omega, by rw [if_neg (by assumption)], rfl⟩, by omega, Nat.le_trans (ipw2_bits (k := 20000) (by omega)) (by decide)⟩
end -- C9
section -- C10
local macro_rules | `(tactic| walk_at "pad 23") => `(tactic| skip)
local macro_rules | `(tactic| walk_at "pad 24") => `(tactic| skip)
local macro_rules | `(tactic| walk_at "pad 25") => `(tactic| skip)
open PySem.Builtin.Int (intBits)

local macro_rules | `(tactic| walk_at "binaryOp Add int int") => `(tactic| (k_here; (with_reducible refine add_int ?_); (try dsimp only)))
local macro_rules | `(tactic| walk_at "binaryOp Sub int int") => `(tactic| (k_here; (with_reducible refine sub_int ?_); (try dsimp only)))
local macro_rules | `(tactic| walk_at "binaryOp RShift int int") => `(tactic| (k_here; (with_reducible refine shr_rule (by omega) ?_); (try dsimp only)))
local macro_rules | `(tactic| walk_at "inplaceOp RShift int int") => `(tactic| (k_here; (with_reducible refine ishr_rule (by omega) ?_); (try dsimp only)))
local macro_rules | `(tactic| walk_at "binaryOp BitAnd int int") => `(tactic| (k_here; (with_reducible refine band_rule ?_); (try dsimp only)))
local macro_rules | `(tactic| walk_at "call builtin:int.bit_length") => `(tactic| (k_here; (with_reducible refine bl_rule ?_); (try dsimp only)))
local macro_rules | `(tactic| walk_at "compareOp Eq int int") => `(tactic| (k_here; (with_reducible refine eqb_rule ?_); (try dsimp only)))
local macro_rules | `(tactic| walk_at "truthy int") => `(tactic| (k_here; (with_reducible refine tru_rule ?_); (try dsimp only)))
local macro_rules | `(tactic| walk_at "ite") => `(tactic| (k_here; k_openite; first
  | (with_reducible refine ite_yes (by first | assumption | omega) ?_)
  | (with_reducible refine ite_no (by first | assumption | omega) ?_)
  | (with_reducible refine ite_nyes (by first | assumption | omega) ?_)
  | (with_reducible refine ite_nno (by first | assumption | omega) ?_)
  | ((with_reducible refine ite_split ?_ ?_) <;> intro _)
  | ((with_reducible refine ite_nsplit ?_ ?_) <;> intro _)
  | (with_reducible refine ite_pos (by assumption) ?_)
  | (with_reducible refine ite_isFalse (by assumption) ?_)
  | ((with_reducible refine ite_splitb ?_ ?_) <;> intro _)))
local macro_rules | `(tactic| walk_at "binaryOp LShift int int") => `(tactic| (k_here; (with_reducible refine shl_rule (by omega) (by first | omega | assumption) ?_); (try dsimp only)))
local macro_rules | `(tactic| k_mem) => `(tactic| first | with_reducible assumption | (refine' List.mem_cons_of_mem _ ?_; k_mem))

local macro_rules | `(tactic| walk_at "compareOp Eq str str") => `(tactic| (k_here; first | (with_reducible refine eq_n ?_) | (with_reducible refine eq_f ?_) | (with_reducible refine eq_c ?_) | (with_reducible refine eq_d ?_) | (with_reducible refine eq_u ?_)))
local macro_rules | `(tactic| walk_at "subscriptTail") => `(tactic| (k_here; first
  | ((with_reducible refine' sd_rule ?F ?X ?h ?_); (case F => k_asm); (case X => k_asm); (case h => with_reducible assumption); (try dsimp only))
  | ((with_reducible refine' sd2_rule ?F ?X ?h ?g ?_); (case F => k_asm); (case X => k_asm); (case h => with_reducible assumption); (case g => with_reducible assumption))
  | ((with_reducible refine' rec_rule ?F ?X ?_); (case F => k_asm); (case X => k_asm); (try dsimp only))))

local macro_rules | `(tactic| walk_at "binaryOp LShift int int") => `(tactic| (k_here; (with_reducible refine shl1_rule (by omega) (by omega) ?_); (try dsimp only)))
local macro_rules | `(tactic| walk_at "binaryOp BitXor int int") => `(tactic| (k_here; (with_reducible refine xor0_rule (by assumption) ?_); (try dsimp only)))
local macro_rules | `(tactic| walk_at "call builtin:divmod") => `(tactic| (k_here; (with_reducible refine' divmod_rule ?F ?N ?a ?b ?_); (case F => k_asm); (case N => k_asm); (case a => omega); (case b => omega); (intro h' D' F' N'; (try dsimp only); (try k_sweep))))

local macro_rules | `(tactic| walk_at "binaryOp Mult int int") => `(tactic| (k_here; (with_reducible refine mulb_rule (by assumption) (by assumption) (by decide) ?_); (try dsimp only)))
local macro_rules | `(tactic| walk_at "inplaceOp Pow int int") => `(tactic| (k_here; (with_reducible refine iipw_rule (by omega) (by omega) ?_); (try dsimp only)))
local macro_rules | `(tactic| walk_at "binaryOp FloorDiv int int") => `(tactic| (k_here; (with_reducible refine fdv_rule (by omega) (by decide) ?_); (try dsimp only)))
local macro_rules | `(tactic| walk_at "binaryOp Pow int int") => `(tactic| (k_here; (with_reducible refine pow2_rule (by omega) (by omega) ?_); (try dsimp only)))

local macro_rules | `(tactic| walk_at "binaryOp FloorDiv int int") => `(tactic| (k_here; first | (with_reducible refine edivp_rule (by omega) ?_) | (with_reducible refine ediv_rule (by decide) (by decide) ?_); (try dsimp only)))
local macro_rules | `(tactic| walk_at "binaryOp Mod int int") => `(tactic| (k_here; first | (with_reducible refine emodp_rule ?_) | (with_reducible refine emod_rule (by decide) ?_); (try dsimp only)))
local macro_rules | `(tactic| walk_at "compareOp Eq ref ref") => `(tactic| (k_here; k_dflt ((refine' eq4_rule ?h1 ?h2 ?h3 ?_); (case h1 => exact News.get (by k_asm) (by k_mem)); (case h2 => exact News.get (by k_asm) (by k_mem)); (case h3 => first | ktr_units | omega))))
local macro_rules | `(tactic| walk_at "subscriptTail Name Slice") => `(tactic| (k_here; (refine' slice_two (s := ⟨_, _, _, _, _⟩) ?F ?N ?t ?_); (case F => k_asm); (case N => k_asm); (case t => exact tup4 (by k_asm) (by k_mem)); (intro D' h' F' N'; (try dsimp only); (try k_sweep))))

set_option maxHeartbeats 4000000 in
theorem raw_tells (w : World) (news : Led) (rich : Int) (t1 t2 t3 : Tok) :
    Tell w 105 news [.int rich t1, .int 60 t2, .int 20 t3] 1 (fun v tl => ∃ D sg man exp bc ta tb tc td, v = .ref D ∧ tl = [(D, I4 sg man exp bc ta tb tc td)] ∧ RawOK sg man exp bc) := by
  (try unfold Tup4); unfold Tell; k_fill
  intro p loose mean mg mb dp un gd cn cs a ccd cl outer A₀ base h₀ L m s Q E B F X N T hk hd hu hret
  w_top on
  refine wpAny_call ?_
  k_dflt (refine' code_def ?k1 ?k2 ?k3 ?k4 ?k5 ?kA ?kF ?kK ?k6 ?k7 ?k8 ?k9 ?kB ?_ ?c2 ?c3 ?c4 ?c5; (case kA => exact rfl); (case kF => exact rfl); (case kK => assumption); (case k1 => k_asm); (case k2 => k_asm); (case k3 => k_asm); (case k4 => k_asm); (case k5 => k_asm); (case k6 => k_is); (case k7 => k_is); (case k8 => ktr_room); (case k9 => first | exact BindsTo.of_eq rfl | exact binds_K (by k_in) rfl (by k_is) rfl rfl rfl); (case c5 => decide); (case kB => exact locs rfl); (case c2 => exact rfl); (case c3 => exact rfl); (case c4 => exact rfl); k_whole; intro g' L' h' FG' F' N' B' X' T'; (try dsimp only); (try k_lift B'); (try k_fold))

  k_steps
  all_goals (refine hret _ [_] _ _ ⟨_, _, _, _, _, _, _, _, _, rfl, rfl, ?_⟩ (by assumption) (by first | exact drop1 (by assumption) | assumption))
  · exact .inl ⟨rfl, rfl, rfl, rfl⟩
  · exact .inr ⟨by omega, by decide, by decide, by omega, by omega, rfl⟩
  · have h := raw_man2 (k := 1 + rich / ipw 2 16 % 60) (by omega) (by omega)
    exact .inr ⟨by omega, h.1, h.2, by omega, by omega, rfl⟩
  · have h := raw_man3 (k := 1 + rich / ipw 2 16 % (60 - 1)) (by omega) (by omega)
    exact .inr ⟨by omega, h.1, h.2, by omega, by omega, rfl⟩
  · have h := raw_man (m := rich / ipw 2 16) (k := 1 + rich / ipw 2 16 % 60) (by omega) (by omega)
    exact .inr ⟨by omega, h.1, h.2, by omega, by omega, rfl⟩
set_option maxHeartbeats 4000000 in
theorem mixed_tells (w : World) (news : Led) (l : Addr) (vs : List Value) (ns : List Int) (k : Int) (t1 : Tok) (hk0 : 0 ≤ k) (hk1 : k ≤ 10) (hi : IntsAre vs ns) (hfit : ns.length < 2 ^ 62) :
    TellB w 98 news [.ref l, .int k t1] 1 (fun b => b.IsList l vs.toArray) (fun v tl => ∃ x t, v = .int x t ∧ tl = [] ∧ 0 ≤ x) := by
  unfold TellB; k_fill
  intro p loose mean mg mb dp un gd cn cs a ccd cl outer A₀ base h₀ L m s Q E hG B F X N T hk hd hu hret
  w_top on
  refine wpAny_call ?_
  k_dflt (refine' code_def ?k1 ?k2 ?k3 ?k4 ?k5 ?kA ?kF ?kK ?k6 ?k7 ?k8 ?k9 ?kB ?_ ?c2 ?c3 ?c4 ?c5; (case kA => exact rfl); (case kF => exact rfl); (case kK => assumption); (case k1 => k_asm); (case k2 => k_asm); (case k3 => k_asm); (case k4 => k_asm); (case k5 => k_asm); (case k6 => k_is); (case k7 => k_is); (case k8 => ktr_room); (case k9 => first | exact BindsTo.of_eq rfl | exact binds_K (by k_in) rfl (by k_is) rfl rfl rfl); (case c5 => decide); (case kB => exact locs rfl); (case c2 => exact rfl); (case c3 => exact rfl); (case c4 => exact rfl); k_whole; intro g' L' h' FG' F' N' B' X' T'; (try dsimp only); (try k_lift B'); (try k_fold))

  k_steps
  all_goals (refine hret _ [] _ _ ⟨_, _, rfl, rfl, ?_⟩ (by assumption) (by assumption))
  all_goals first
    | (have := ipw2_pos 64; omega)
    | exact Int.emod_nonneg _ (by have := ipw2_pos 190; omega)
end -- C10
section -- C13
local macro_rules | `(tactic| walk_at "pad 23") => `(tactic| skip)
local macro_rules | `(tactic| walk_at "pad 24") => `(tactic| skip)
local macro_rules | `(tactic| walk_at "pad 25") => `(tactic| skip)
local macro_rules | `(tactic| walk_at "pad 26") => `(tactic| skip)
open PySem.Builtin.Int (intBits)

local macro_rules | `(tactic| walk_at "binaryOp Add int int") => `(tactic| (k_here; (with_reducible refine add_int ?_); (try dsimp only)))
local macro_rules | `(tactic| walk_at "binaryOp Sub int int") => `(tactic| (k_here; (with_reducible refine sub_int ?_); (try dsimp only)))
local macro_rules | `(tactic| walk_at "binaryOp RShift int int") => `(tactic| (k_here; (with_reducible refine shr_rule (by omega) ?_); (try dsimp only)))
local macro_rules | `(tactic| walk_at "inplaceOp RShift int int") => `(tactic| (k_here; (with_reducible refine ishr_rule (by omega) ?_); (try dsimp only)))
local macro_rules | `(tactic| walk_at "binaryOp BitAnd int int") => `(tactic| (k_here; (with_reducible refine band_rule ?_); (try dsimp only)))
local macro_rules | `(tactic| walk_at "call builtin:int.bit_length") => `(tactic| (k_here; (with_reducible refine bl_rule ?_); (try dsimp only)))
local macro_rules | `(tactic| walk_at "compareOp Eq int int") => `(tactic| (k_here; (with_reducible refine eqb_rule ?_); (try dsimp only)))
local macro_rules | `(tactic| walk_at "truthy int") => `(tactic| (k_here; (with_reducible refine tru_rule ?_); (try dsimp only)))
local macro_rules | `(tactic| walk_at "ite") => `(tactic| (k_here; k_openite; first
  | (with_reducible refine ite_yes (by first | assumption | omega) ?_)
  | (with_reducible refine ite_no (by first | assumption | omega) ?_)
  | (with_reducible refine ite_nyes (by first | assumption | omega) ?_)
  | (with_reducible refine ite_nno (by first | assumption | omega) ?_)
  | ((with_reducible refine ite_split ?_ ?_) <;> intro _)
  | ((with_reducible refine ite_nsplit ?_ ?_) <;> intro _)
  | (with_reducible refine ite_pos (by assumption) ?_)
  | (with_reducible refine ite_isFalse (by assumption) ?_)
  | ((with_reducible refine ite_splitb ?_ ?_) <;> intro _)))
local macro_rules | `(tactic| walk_at "binaryOp LShift int int") => `(tactic| (k_here; (with_reducible refine shl_rule (by omega) (by first | omega | assumption) ?_); (try dsimp only)))
local macro_rules | `(tactic| k_mem) => `(tactic| first | with_reducible assumption | (refine' List.mem_cons_of_mem _ ?_; k_mem))

local macro_rules | `(tactic| walk_at "compareOp Eq str str") => `(tactic| (k_here; first | (with_reducible refine eq_n ?_) | (with_reducible refine eq_f ?_) | (with_reducible refine eq_c ?_) | (with_reducible refine eq_d ?_) | (with_reducible refine eq_u ?_)))
local macro_rules | `(tactic| walk_at "subscriptTail") => `(tactic| (k_here; first
  | ((with_reducible refine' sd_rule ?F ?X ?h ?_); (case F => k_asm); (case X => k_asm); (case h => with_reducible assumption); (try dsimp only))
  | ((with_reducible refine' sd2_rule ?F ?X ?h ?g ?_); (case F => k_asm); (case X => k_asm); (case h => with_reducible assumption); (case g => with_reducible assumption))
  | ((with_reducible refine' rec_rule ?F ?X ?_); (case F => k_asm); (case X => k_asm); (try dsimp only))))

local macro_rules | `(tactic| walk_at "binaryOp LShift int int") => `(tactic| (k_here; (with_reducible refine shl1_rule (by omega) (by omega) ?_); (try dsimp only)))
local macro_rules | `(tactic| walk_at "binaryOp BitXor int int") => `(tactic| (k_here; (with_reducible refine xor0_rule (by assumption) ?_); (try dsimp only)))
local macro_rules | `(tactic| walk_at "call builtin:divmod") => `(tactic| (k_here; (with_reducible refine' divmod_rule ?F ?N ?a ?b ?_); (case F => k_asm); (case N => k_asm); (case a => omega); (case b => omega); (intro h' D' F' N'; (try dsimp only); (try k_sweep))))

local macro_rules | `(tactic| walk_at "binaryOp Mult int int") => `(tactic| (k_here; (with_reducible refine mulb_rule (by assumption) (by assumption) (by decide) ?_); (try dsimp only)))
local macro_rules | `(tactic| walk_at "inplaceOp Pow int int") => `(tactic| (k_here; (with_reducible refine iipw_rule (by omega) (by omega) ?_); (try dsimp only)))
local macro_rules | `(tactic| walk_at "binaryOp FloorDiv int int") => `(tactic| (k_here; (with_reducible refine fdv_rule (by omega) (by decide) ?_); (try dsimp only)))
local macro_rules | `(tactic| walk_at "binaryOp Pow int int") => `(tactic| (k_here; (with_reducible refine pow2_rule (by omega) (by omega) ?_); (try dsimp only)))

local macro_rules | `(tactic| walk_at "binaryOp FloorDiv int int") => `(tactic| (k_here; first | (with_reducible refine edivp_rule (by omega) ?_) | (with_reducible refine ediv_rule (by decide) (by decide) ?_); (try dsimp only)))
local macro_rules | `(tactic| walk_at "binaryOp Mod int int") => `(tactic| (k_here; first | (with_reducible refine emodp_rule ?_) | (with_reducible refine emod_rule (by decide) ?_); (try dsimp only)))
local macro_rules | `(tactic| walk_at "compareOp Eq ref ref") => `(tactic| (k_here; k_dflt ((refine' eq4_rule ?h1 ?h2 ?h3 ?_); (case h1 => exact News.get (by k_asm) (by k_mem)); (case h2 => exact News.get (by k_asm) (by k_mem)); (case h3 => first | ktr_units | omega))))
local macro_rules | `(tactic| walk_at "subscriptTail Name Slice") => `(tactic| (k_here; (refine' slice_two (s := ⟨_, _, _, _, _⟩) ?F ?N ?t ?_); (case F => k_asm); (case N => k_asm); (case t => exact tup4 (by k_asm) (by k_mem)); (intro D' h' F' N'; (try dsimp only); (try k_sweep))))

def DownOK (r : Rnd) (sg man n : Int) : Prop := (intBits man : Int) * n < 1000 ∨ n < 3 ∨ man = 1 ∨ r.is .n = true ∨ r.sd (band sg n) ≠ 0
theorem down_up {r : Rnd} {sg man n sign : Int} (hs : sg = 0 ∨ sg = 1) (hsign : sign = if n % 2 = 1 then sg else 0) (h1 : r.is .u = false) (h2 : r.is .c = true → ¬ sign = 0) (h3 : r.is .f = true → ¬ sign = 1) : DownOK r sg man n := by
  have hb : band sg n = sign := by rw [band_sgn hs, hsign]; split <;> split <;> omega
  unfold DownOK
  rw [hb]
  have h4 : sign = 0 ∨ sign = 1 := by rw [hsign]; split <;> omega
  cases r
  · exact .inr (.inr (.inr (.inl rfl)))
  · refine .inr (.inr (.inr (.inr ?_)))
    have := h3 rfl
    show (if sign = 0 then (1 : Int) else 0) ≠ 0
    rw [if_pos (by omega)]; decide
  · refine .inr (.inr (.inr (.inr ?_)))
    have := h2 rfl
    show (if sign = 0 then (0 : Int) else 1) ≠ 0
    rw [if_neg this]; decide
  · exact .inr (.inr (.inr (.inr (by show (1 : Int) ≠ 0; decide))))
  · cases h1
theorem neg_mod2 (n : Int) : (-n) % 2 = n % 2 := by omega
theorem down_dn {r : Rnd} {sg man n sign : Int} (hs : sg = 0 ∨ sg = 1) (hsign : sign = if n % 2 = 1 then sg else 0) (h1 : r.is .d = false) (h2 : r.is .f = true → ¬ sign = 0) (h3 : r.is .c = true → ¬ sign = 1) : DownOK r.rec0 sg man (-n) := by
  refine down_up hs (sign := sign) (by rw [neg_mod2]; exact hsign) ?_ ?_ ?_
  · cases r <;> first | rfl | cases h1
  · intro h; refine h2 ?_; cases r <;> first | rfl | cases h
  · intro h; refine h3 ?_; cases r <;> first | rfl | cases h
theorem ff {b : Bool} {P : Prop} (h : b = true) : b = false → P := fun h' => by rw [h] at h'; cases h'
theorem nt {b : Bool} {P : Prop} (h : b = false) : b = true → P := fun h' => by rw [h] at h'; cases h'
set_option maxHeartbeats 4000000 in
theorem leads_tells (w : World) (news : Led) (r : Rnd) (S : Addr) (sg man exp n : Int) (t1 t2 t3 t4 t5 t6 : Tok) (hS : (S, I4 sg man exp (intBits man) t1 t2 t3 t4) ∈ news) (hs : sg = 0 ∨ sg = 1) (hb : intBits man ≤ 60) (hn : n ≤ 60) (hn2 : -40 ≤ n) :
    Tell w 147 news [.ref S, .int n t5, .str r.str t6] 2 (fun v tl => ∃ b, v = .bool b ∧ tl = [] ∧ (b = false → (0 ≤ n → DownOK r sg man n) ∧ (n < 0 → DownOK r.rec0 sg man (-n)))) := by
  (try unfold Tup4); unfold Tell; k_fill
  intro p loose mean mg mb dp un gd cn cs a ccd cl outer A₀ base h₀ L m s Q E B F X N T hk hd hu hret
  w_top on
  refine wpAny_call ?_
  k_dflt (refine' code_def ?k1 ?k2 ?k3 ?k4 ?k5 ?kA ?kF ?kK ?k6 ?k7 ?k8 ?k9 ?kB ?_ ?c2 ?c3 ?c4 ?c5; (case kA => exact rfl); (case kF => exact rfl); (case kK => assumption); (case k1 => k_asm); (case k2 => k_asm); (case k3 => k_asm); (case k4 => k_asm); (case k5 => k_asm); (case k6 => k_is); (case k7 => k_is); (case k8 => ktr_room); (case k9 => first | exact BindsTo.of_eq rfl | exact binds_K (by k_in) rfl (by k_is) rfl rfl rfl); (case c5 => decide); (case kB => exact locs rfl); (case c2 => exact rfl); (case c3 => exact rfl); (case c4 => exact rfl); k_whole; intro g' L' h' FG' F' N' B' X' T'; (try dsimp only); (try k_lift B'); (try k_fold))

  k_steps
  all_goals (refine hret _ [] _ _ ⟨_, rfl, rfl, ?_⟩ (by assumption) (by assumption))
  all_goals first
    | exact ff (by assumption)
    | (intro hbf
       refine ⟨fun h0 => ?_, fun h0 => ?_⟩
       all_goals first
         | omega
         | ((try simp only [if_pos h0] at *); (try simp only [if_neg (Int.not_lt.mpr h0)] at *); first
            | exact .inl (by assumption)
            | exact .inr (.inl (by assumption))
            | exact .inr (.inr (.inl (by assumption)))
            | (clear hret; refine down_up hs rfl (by assumption) ?_ ?_ <;> (intro hc; split <;> simp_all <;> done))
            | (clear hret; refine down_dn hs rfl (by assumption) ?_ ?_ <;> (intro hc; split <;> simp_all <;> done))))
end -- C13
section -- C14
local macro_rules | `(tactic| walk_at "pad 26") => `(tactic| skip)
local macro_rules | `(tactic| walk_at "pad 27") => `(tactic| skip)
open PySem.Builtin.Int (intBits)

local macro_rules | `(tactic| walk_at "binaryOp Add int int") => `(tactic| (k_here; (with_reducible refine add_int ?_); (try dsimp only)))
local macro_rules | `(tactic| walk_at "binaryOp Sub int int") => `(tactic| (k_here; (with_reducible refine sub_int ?_); (try dsimp only)))
local macro_rules | `(tactic| walk_at "binaryOp RShift int int") => `(tactic| (k_here; (with_reducible refine shr_rule (by omega) ?_); (try dsimp only)))
local macro_rules | `(tactic| walk_at "inplaceOp RShift int int") => `(tactic| (k_here; (with_reducible refine ishr_rule (by omega) ?_); (try dsimp only)))
local macro_rules | `(tactic| walk_at "binaryOp BitAnd int int") => `(tactic| (k_here; (with_reducible refine band_rule ?_); (try dsimp only)))
local macro_rules | `(tactic| walk_at "call builtin:int.bit_length") => `(tactic| (k_here; (with_reducible refine bl_rule ?_); (try dsimp only)))
local macro_rules | `(tactic| walk_at "compareOp Eq int int") => `(tactic| (k_here; (with_reducible refine eqb_rule ?_); (try dsimp only)))
local macro_rules | `(tactic| walk_at "truthy int") => `(tactic| (k_here; (with_reducible refine tru_rule ?_); (try dsimp only)))
local macro_rules | `(tactic| walk_at "ite") => `(tactic| (k_here; k_openite; first
  | (with_reducible refine ite_yes (by first | assumption | omega) ?_)
  | (with_reducible refine ite_no (by first | assumption | omega) ?_)
  | (with_reducible refine ite_nyes (by first | assumption | omega) ?_)
  | (with_reducible refine ite_nno (by first | assumption | omega) ?_)
  | ((with_reducible refine ite_split ?_ ?_) <;> intro _)
  | ((with_reducible refine ite_nsplit ?_ ?_) <;> intro _)
  | (with_reducible refine ite_pos (by assumption) ?_)
  | (with_reducible refine ite_isFalse (by assumption) ?_)
  | ((with_reducible refine ite_splitb ?_ ?_) <;> intro _)))
local macro_rules | `(tactic| walk_at "binaryOp LShift int int") => `(tactic| (k_here; (with_reducible refine shl_rule (by omega) (by first | omega | assumption) ?_); (try dsimp only)))
local macro_rules | `(tactic| k_mem) => `(tactic| first | with_reducible assumption | (refine' List.mem_cons_of_mem _ ?_; k_mem))

local macro_rules | `(tactic| walk_at "compareOp Eq str str") => `(tactic| (k_here; first | (with_reducible refine eq_n ?_) | (with_reducible refine eq_f ?_) | (with_reducible refine eq_c ?_) | (with_reducible refine eq_d ?_) | (with_reducible refine eq_u ?_)))
local macro_rules | `(tactic| walk_at "subscriptTail") => `(tactic| (k_here; first
  | ((with_reducible refine' sd_rule ?F ?X ?h ?_); (case F => k_asm); (case X => k_asm); (case h => with_reducible assumption); (try dsimp only))
  | ((with_reducible refine' sd2_rule ?F ?X ?h ?g ?_); (case F => k_asm); (case X => k_asm); (case h => with_reducible assumption); (case g => with_reducible assumption))
  | ((with_reducible refine' rec_rule ?F ?X ?_); (case F => k_asm); (case X => k_asm); (try dsimp only))))

local macro_rules | `(tactic| walk_at "binaryOp LShift int int") => `(tactic| (k_here; (with_reducible refine shl1_rule (by omega) (by omega) ?_); (try dsimp only)))
local macro_rules | `(tactic| walk_at "binaryOp BitXor int int") => `(tactic| (k_here; (with_reducible refine xor0_rule (by assumption) ?_); (try dsimp only)))
local macro_rules | `(tactic| walk_at "call builtin:divmod") => `(tactic| (k_here; (with_reducible refine' divmod_rule ?F ?N ?a ?b ?_); (case F => k_asm); (case N => k_asm); (case a => omega); (case b => omega); (intro h' D' F' N'; (try dsimp only); (try k_sweep))))

local macro_rules | `(tactic| walk_at "binaryOp Mult int int") => `(tactic| (k_here; (with_reducible refine mulb_rule (by assumption) (by assumption) (by decide) ?_); (try dsimp only)))
local macro_rules | `(tactic| walk_at "inplaceOp Pow int int") => `(tactic| (k_here; (with_reducible refine iipw_rule (by omega) (by omega) ?_); (try dsimp only)))
local macro_rules | `(tactic| walk_at "binaryOp FloorDiv int int") => `(tactic| (k_here; (with_reducible refine fdv_rule (by omega) (by decide) ?_); (try dsimp only)))
local macro_rules | `(tactic| walk_at "binaryOp Pow int int") => `(tactic| (k_here; (with_reducible refine pow2_rule (by omega) (by omega) ?_); (try dsimp only)))

local macro_rules | `(tactic| walk_at "binaryOp FloorDiv int int") => `(tactic| (k_here; first | (with_reducible refine edivp_rule (by omega) ?_) | (with_reducible refine ediv_rule (by decide) (by decide) ?_); (try dsimp only)))
local macro_rules | `(tactic| walk_at "binaryOp Mod int int") => `(tactic| (k_here; first | (with_reducible refine emodp_rule ?_) | (with_reducible refine emod_rule (by decide) ?_); (try dsimp only)))
local macro_rules | `(tactic| walk_at "compareOp Eq ref ref") => `(tactic| (k_here; k_dflt ((refine' eq4_rule ?h1 ?h2 ?h3 ?_); (case h1 => exact News.get (by k_asm) (by k_mem)); (case h2 => exact News.get (by k_asm) (by k_mem)); (case h3 => first | ktr_units | omega))))
local macro_rules | `(tactic| walk_at "subscriptTail Name Slice") => `(tactic| (k_here; (refine' slice_two (s := ⟨_, _, _, _, _⟩) ?F ?N ?t ?_); (case F => k_asm); (case N => k_asm); (case t => exact tup4 (by k_asm) (by k_mem)); (intro D' h' F' N'; (try dsimp only); (try k_sweep))))

local macro_rules | `(tactic| walk_at "call ref") => `(tactic| (k_here; (with_reducible show wpAny _ _ (call (Value.ref 112) [Value.ref _]) _ _ _); (refine' Tell.use (worth_tells _ _ _ _ _ _ _ _ _ _ _ ?p0 ?p1 ?p2 ?p3 ?p4 ?p5) ?k1 ?k2 ?k3 ?k4 ?k5 ?k6 ?k7 ?k8 ?_); (case k1 => k_asm); (case k2 => k_asm); (case k3 => k_asm); (case k4 => k_asm); (case k5 => k_asm); (case k6 => first | exact rfl | assumption); (case k7 => first | ktr_room | omega); (case k8 => first | ktr_units | omega); (case p0 => first | with_reducible assumption | k_mem | assumption); (case p1 => first | assumption | omega | decide); (case p2 => first | assumption | omega | decide); (case p3 => first | assumption | omega | decide); (case p4 => first | assumption | omega | decide); (case p5 => first | assumption | omega | decide); (intro v9 tl9 h9 tk9 R9 F9 N9; obtain ⟨D9, x9, y9, ta9, tb9, ev9, et9, H9, B9, C9⟩ := R9; subst ev9; subst et9; (try dsimp only [List.cons_append, List.nil_append] at N9); (try dsimp only); (try k_sweep); (try k_fold))))
local macro_rules | `(tactic| walk_at "call ref") => `(tactic| (k_here; (with_reducible show wpAny _ _ (call (Value.ref 74) [Value.ref _]) _ _ _); (refine' Tell.use (frexp_tells _ _ _ _ _ _ _ _ _ _ _ ?p0 ?p1) ?k1 ?k2 ?k3 ?k4 ?k5 ?k6 ?k7 ?k8 ?_); (case k1 => k_asm); (case k2 => k_asm); (case k3 => k_asm); (case k4 => k_asm); (case k5 => k_asm); (case k6 => first | exact rfl | assumption); (case k7 => first | ktr_room | omega); (case k8 => first | ktr_units | omega); (case p0 => first | with_reducible assumption | k_mem | assumption); (case p1 => first | assumption | omega | decide); (intro v9 tl9 h9 tk9 R9 F9 N9; obtain ⟨D9, E9, ta9, tb9, tc9, td9, te9, c9, ev9, et9⟩ := R9; subst ev9; subst et9; (try dsimp only [List.cons_append, List.nil_append] at N9); (try dsimp only); (try k_sweep); (try k_fold))))
local macro_rules | `(tactic| walk_at "call ref") => `(tactic| (k_here; (with_reducible show wpAny _ _ (call (Value.ref 67) [Value.ref _, Value.int _ _]) _ _ _); (refine' Tell.use (shift_tells _ _ _ _ _ _ _ _ _ _ _ _ _ ?p0 ?p1) ?k1 ?k2 ?k3 ?k4 ?k5 ?k6 ?k7 ?k8 ?_); (case k1 => k_asm); (case k2 => k_asm); (case k3 => k_asm); (case k4 => k_asm); (case k5 => k_asm); (case k6 => first | exact rfl | assumption); (case k7 => first | ktr_room | omega); (case k8 => first | ktr_units | omega); (case p0 => first | with_reducible assumption | k_mem | assumption); (case p1 => first | assumption | omega | decide); (intro v9 tl9 h9 tk9 R9 F9 N9; obtain ⟨D9, ta9, tb9, tc9, td9, ev9, et9⟩ := R9; subst ev9; subst et9; (try dsimp only [List.cons_append, List.nil_append] at N9); (try dsimp only); (try k_sweep); (try k_fold))))
theorem parted_math {sg man exp x y : Int} (hm : 0 < man) (H : 0 ≤ exp + (-(intBits man : Int) - exp) ∧ x = mulI (if sg = 1 then -man else man) (ipw 2 (exp + (-(intBits man : Int) - exp))) ∧ y = 1 ∨ exp + (-(intBits man : Int) - exp) < 0 ∧ (x = if sg = 1 then -man else man) ∧ y = ipw 2 (-(exp + (-(intBits man : Int) - exp)))) :
    (y ≤ 2 * if x < 0 then -x else x) ∧ (if x < 0 then -x else x) < y := by
  have h1 := bits_pos1 hm
  rcases H with ⟨h, _, _⟩ | ⟨_, hx, hy⟩
  · omega
  · have e : -(exp + (-(intBits man : Int) - exp)) = intBits man := by omega
    rw [e, ipw_eq, Int.toNat_natCast] at hy
    have h2 := bits_ge hm
    have h3 := bits_lt (Int.le_of_lt hm)
    have h4 : (2 : Int) ^ intBits man = 2 * 2 ^ (intBits man - 1) := by rw [show intBits man = intBits man - 1 + 1 by omega, Int.pow_succ, Int.mul_comm, Nat.add_sub_cancel]
    have h5 : (if x < 0 then -x else x) = man := by rw [hx]; split <;> split <;> omega
    rw [h5, hy]
    omega
set_option maxHeartbeats 4000000 in
theorem parted_tells (w : World) (news : Led) (S : Addr) (sg man exp : Int) (t1 t2 t3 t4 : Tok) (hS : (S, I4 sg man exp (intBits man) t1 t2 t3 t4) ∈ news) (hs : sg = 0 ∨ sg = 1) (hm : 0 < man) (hb2 : intBits man ≤ 60) :
    Tell w 140 news [.ref S] 20 (fun v tl => v = .bool true ∧ tl = []) := by
  (try unfold Tup4); unfold Tell; k_fill
  intro p loose mean mg mb dp un gd cn cs a ccd cl outer A₀ base h₀ L m s Q E B F X N T hk hd hu hret
  w_top on
  refine wpAny_call ?_
  k_dflt (refine' code_def ?k1 ?k2 ?k3 ?k4 ?k5 ?kA ?kF ?kK ?k6 ?k7 ?k8 ?k9 ?kB ?_ ?c2 ?c3 ?c4 ?c5; (case kA => exact rfl); (case kF => exact rfl); (case kK => assumption); (case k1 => k_asm); (case k2 => k_asm); (case k3 => k_asm); (case k4 => k_asm); (case k5 => k_asm); (case k6 => k_is); (case k7 => k_is); (case k8 => ktr_room); (case k9 => first | exact BindsTo.of_eq rfl | exact binds_K (by k_in) rfl (by k_is) rfl rfl rfl); (case c5 => decide); (case kB => exact locs rfl); (case c2 => exact rfl); (case c3 => exact rfl); (case c4 => exact rfl); k_whole; intro g' L' h' FG' F' N' B' X' T'; (try dsimp only); (try k_lift B'); (try k_fold))

  have hb3 : intBits man ≤ 10000 := by omega
  have hb4 := bits_pos1 hm
  k_steps
  all_goals first
    | exact hret _ [] _ _ ⟨rfl, rfl⟩ (by assumption) (cb_drop (by assumption) (by intro p hp; repeat (first | exact hp | refine List.mem_cons_of_mem _ ?_)))
    | (exfalso; exact absurd (parted_math hm (by assumption)).1 (by assumption))
    | (exfalso; exact absurd (parted_math hm (by assumption)).2 (by assumption))
    | (exfalso; rename_i h _ _ _ _ _ _; revert h; rw [show exp + (-(intBits man : Int) - exp) + ((intBits man : Int) + exp) = exp by omega]; simp; done)
    | (exfalso; have e : exp + (-(intBits man : Int) - exp) + ((intBits man : Int) + exp) = exp := by omega
       simp_all)
end -- C14
section -- MR
open PySem.Builtin.Int (intBits)

/-- rounded away from zero, at the floor W with rest/low left over -/
def RAway (r : Rnd) (sg W rest low : Int) : Prop := match r with
  | .n => low < 2 * rest ∨ (2 * rest = low ∧ W % 2 = 1)
  | r => r.sd sg = 0
def RFP (r : Rnd) (sg W rest low M : Int) : Prop := (0 < rest ∧ RAway r sg W rest low ∧ M = W + 1) ∨ (¬ (0 < rest ∧ RAway r sg W rest low) ∧ M = W)
theorem RFP.uniq {r : Rnd} {sg W rest low M M' : Int} (h : RFP r sg W rest low M) (h' : RFP r sg W rest low M') : M = M' := by
  rcases h with ⟨a, b, c⟩ | ⟨a, c⟩ <;> rcases h' with ⟨a', b', c'⟩ | ⟨a', c'⟩
  · omega
  · exact absurd ⟨a, b⟩ a'
  · exact absurd ⟨a', b'⟩ a
  · omega
theorem RAway.congr {r : Rnd} {sg W rest low rest' low' : Int} (h2 : low < 2 * rest ↔ low' < 2 * rest') (h3 : 2 * rest = low ↔ 2 * rest' = low') : RAway r sg W rest low ↔ RAway r sg W rest' low' := by
  cases r
  · show (_ ∨ _) ↔ (_ ∨ _)
    rw [h2, h3]
  all_goals exact Iff.rfl
theorem RFP.congr {r : Rnd} {sg W rest low rest' low' M : Int} (h1 : 0 < rest ↔ 0 < rest') (h2 : low < 2 * rest ↔ low' < 2 * rest') (h3 : 2 * rest = low ↔ 2 * rest' = low') (h : RFP r sg W rest low M) : RFP r sg W rest' low' M := by
  unfold RFP at *
  rw [← h1, ← RAway.congr h2 h3]; exact h
theorem RAway.n {sg W rest low : Int} : RAway .n sg W rest low ↔ (low < 2 * rest ∨ (2 * rest = low ∧ W % 2 = 1)) := Iff.rfl
theorem RAway.nn {r : Rnd} {sg W rest low : Int} (h : r.is .n = false) : RAway r sg W rest low ↔ r.sd sg = 0 := by
  cases r
  · cases h
  all_goals exact Iff.rfl
theorem rint_rfp (r : Rnd) (sg M : Int) (k : Nat) : RFP r sg (M / 2 ^ k) (M % 2 ^ k) (2 ^ k) (rint r sg M k) := by
  rcases Nat.eq_zero_or_pos k with rfl | hk
  · rw [Int.pow_zero, Int.ediv_one, Int.emod_one]
    exact .inr ⟨by omega, by unfold rint; rw [if_pos rfl]⟩
  · have hK := tp k
    have m1 := Int.emod_add_mul_ediv M (2 ^ k)
    have m2 := Int.emod_nonneg M (show (2 : Int) ^ k ≠ 0 by omega)
    have m3 := Int.emod_lt_of_pos M hK
    rcases rint_cases r sg M hk with ⟨hn, h⟩ | ⟨hn, h⟩
    · have er := isn hn
      subst er
      rw [h]
      have hK' := tp (k - 1)
      have e0 : (2 : Int) ^ k = 2 * 2 ^ (k - 1) := by conv => lhs; rw [show k = k - 1 + 1 by omega, Int.pow_succ, Int.mul_comm]
      have n1 := Int.emod_add_mul_ediv M (2 ^ (k - 1))
      have n2 := Int.emod_nonneg M (show (2 : Int) ^ (k - 1) ≠ 0 by omega)
      have n3 := Int.emod_lt_of_pos M hK'
      have e1 : M / 2 ^ (k - 1) / 2 = M / 2 ^ k := by rw [div_pow_succ, show k - 1 + 1 = k by omega]
      generalize M / 2 ^ k = W at *
      generalize M % 2 ^ k = s at *
      generalize M / 2 ^ (k - 1) = V at *
      generalize M % 2 ^ (k - 1) = u at *
      generalize (2 : Int) ^ k = K at *
      generalize (2 : Int) ^ (k - 1) = H at *
      subst e0
      have hV : V = 2 * W ∨ V = 2 * W + 1 := by omega
      have hs : (V = 2 * W ∧ s = u) ∨ (V = 2 * W + 1 ∧ s = u + H) := by
        rcases hV with hV | hV
        · left; refine ⟨hV, ?_⟩
          rw [hV] at n1
          have : H * (2 * W) = 2 * H * W := by grind
          omega
        · right; refine ⟨hV, ?_⟩
          rw [hV] at n1
          have : H * (2 * W + 1) = 2 * H * W + H := by grind
          omega
      unfold RFP
      rw [RAway.n]
      split
      · left; omega
      · right; omega
    · rw [h]
      have b2 := Int.emod_add_mul_ediv (-M) (2 ^ k)
      have b4 := Int.emod_nonneg (-M) (show (2 : Int) ^ k ≠ 0 by omega)
      have b6 := Int.emod_lt_of_pos (-M) hK
      unfold RFP
      rw [RAway.nn hn]
      by_cases hz : r.sd sg = 0
      · rw [if_pos hz]
        generalize M / 2 ^ k = W at *
        generalize M % 2 ^ k = s at *
        generalize -M / 2 ^ k = V at *
        generalize -M % 2 ^ k = u at *
        generalize (2 : Int) ^ k = K at *
        have e : K * (W + V) = -(s + u) := by rw [Int.mul_add]; omega
        rcases ilt 0 s with hs | hs
        · left
          refine ⟨hs, hz, ?_⟩
          have c1 : W + V < 0 := by
            rcases ilt (W + V) 0 with h | h
            · exact h
            · have := Int.mul_nonneg (Int.le_of_lt hK) h
              omega
          have c2 : -2 < W + V := by
            rcases ilt (-2) (W + V) with h | h
            · exact h
            · have := Int.mul_le_mul_of_nonneg_left h (Int.le_of_lt hK)
              omega
          omega
        · right
          refine ⟨by omega, ?_⟩
          have c1 : W + V ≤ 0 := by
            rcases ilt 0 (W + V) with h | h
            · have := Int.mul_pos hK h
              omega
            · exact h
          have c2 : -1 < W + V := by
            rcases ilt (-1) (W + V) with h | h
            · exact h
            · have := Int.mul_le_mul_of_nonneg_left h (Int.le_of_lt hK)
              omega
          omega
      · rw [if_neg hz]
        right
        exact ⟨fun h => hz h.2, rfl⟩
/-- two fractions of one value have one floor and rests in one proportion -/
theorem same_frac {num low num' low' : Int} (hl : 0 < low) (hl' : 0 < low') (h : num * low' = num' * low) : num / low = num' / low' ∧ num % low * low' = num' % low' * low := by
  have e : num / low = num' / low' := by
    have e1 : num / low = (num * low') / (low * low') := (Int.mul_ediv_mul_of_pos_left num low hl').symm
    have e2 : num' / low' = (num' * low) / (low' * low) := (Int.mul_ediv_mul_of_pos_left num' low' hl).symm
    rw [e1, e2, h, Int.mul_comm low low']
  refine ⟨e, ?_⟩
  have m1 := Int.emod_add_mul_ediv num low
  have m2 := Int.emod_add_mul_ediv num' low'
  rw [e] at m1
  generalize num' / low' = W at *
  generalize num % low = s at *
  generalize num' % low' = s' at *
  subst m1
  subst m2
  grind
theorem mul_lt_iff {a b c : Int} (hc : 0 < c) : a < b ↔ a * c < b * c := ⟨fun h => Int.mul_lt_mul_of_pos_right h hc, fun h => Int.lt_of_mul_lt_mul_right h (Int.le_of_lt hc)⟩
theorem mul_eq_iff {a b c : Int} (hc : 0 < c) : a = b ↔ a * c = b * c := ⟨fun h => by rw [h], fun h => Int.eq_of_mul_eq_mul_right (by omega) h⟩
theorem RFP.same {r : Rnd} {sg W num low num' low' M : Int} (hl : 0 < low) (hl' : 0 < low') (h : num * low' = num' * low) (H : RFP r sg W (num % low) low M) : RFP r sg W (num' % low') low' M := by
  have hs := (same_frac hl hl' h).2
  generalize num % low = s at *
  generalize num' % low' = s' at *
  refine H.congr ?_ ?_ ?_
  · rw [mul_lt_iff hl', mul_lt_iff (a := 0) (b := s') hl, hs, Int.zero_mul, Int.zero_mul]
  · rw [mul_lt_iff hl', mul_lt_iff (a := low') hl, Int.mul_assoc, hs, Int.mul_assoc, Int.mul_comm low low']
  · rw [mul_eq_iff hl', mul_eq_iff (b := low') hl, Int.mul_assoc, hs, Int.mul_assoc, Int.mul_comm low low']
theorem odd_uniq {m m' : Int} {t t' : Nat} (h : m % 2 = 1) (h' : m' % 2 = 1) (e : m * 2 ^ t = m' * 2 ^ t') : m = m' ∧ t = t' := by
  have key : ∀ {m m' : Int} {t t' : Nat}, m % 2 = 1 → m * 2 ^ t = m' * 2 ^ t' → t ≤ t' → m = m' ∧ t = t' := by
    intro m m' t t' h e hle
    obtain ⟨d, rfl⟩ : ∃ d, t' = t + d := ⟨t' - t, by omega⟩
    have e2 : m = m' * 2 ^ d := by
      have e3 : m' * 2 ^ (t + d) = m' * 2 ^ d * 2 ^ t := by rw [Int.pow_add]; grind
      rw [e3] at e
      exact Int.eq_of_mul_eq_mul_right (by have := tp t; omega) e
    rcases d with _ | d
    · rw [Int.pow_zero, Int.mul_one] at e2
      exact ⟨e2, rfl⟩
    · exfalso
      rw [Int.pow_succ] at e2
      have : m' * (2 ^ d * 2) = m' * 2 ^ d * 2 := by grind
      omega
  rcases Nat.le_total t t' with hle | hle
  · exact key h e hle
  · obtain ⟨a, b⟩ := key h' e.symm hle
    exact ⟨a.symm, b.symm⟩
/-- m * 2^e is size/below rounded to prec digits -/
structure RO (r : Rnd) (sg size below prec m e b : Int) : Prop where
  pos : 0 < m
  odd : m % 2 = 1
  bits : b = intBits m
  val : ∃ (E : Int) (t : Nat), 2 ^ (prec - 1).toNat ≤ numE size E / lowE below E ∧ numE size E / lowE below E < 2 ^ prec.toNat ∧ RFP r sg (numE size E / lowE below E) (numE size E % lowE below E) (lowE below E) (m * 2 ^ t) ∧ e = E + t
theorem cross {size below E E' : Int} {D : Nat} (h : E' = E + D) : numE size E * lowE below E' = numE size E' * lowE below E * 2 ^ D := by
  unfold numE lowE
  have e : (2 : Int) ^ (-E).toNat * 2 ^ E'.toNat = 2 ^ (-E').toNat * 2 ^ E.toNat * 2 ^ D := by
    rw [← Int.pow_add, ← Int.pow_add, ← Int.pow_add]
    congr 1; omega
  have e1 : size * 2 ^ (-E).toNat * (below * 2 ^ E'.toNat) = size * below * (2 ^ (-E).toNat * 2 ^ E'.toNat) := by grind
  rw [e1, e]
  grind
theorem E_uniq {size below E E' : Int} {p : Nat} (hb : 0 < below) (h1 : 2 ^ p ≤ numE size E / lowE below E) (h2 : numE size E / lowE below E < 2 ^ (p + 1)) (h1' : 2 ^ p ≤ numE size E' / lowE below E') (h2' : numE size E' / lowE below E' < 2 ^ (p + 1)) : E = E' := by
  have key : ∀ {E E' : Int}, numE size E / lowE below E < 2 ^ (p + 1) → 2 ^ p ≤ numE size E' / lowE below E' → ¬ E < E' := by
    intro E E' h2 h1' hlt
    obtain ⟨D, hD⟩ : ∃ D : Nat, E' = E + D := ⟨(E' - E).toNat, by omega⟩
    have c := cross (size := size) (below := below) hD
    have l := lowE_pos (E := E) hb
    have l' := lowE_pos (E := E') hb
    rw [Int.le_ediv_iff_mul_le l'] at h1'
    rw [Int.ediv_lt_iff_lt_mul l] at h2
    have hD1 : (2 : Int) ^ 1 ≤ 2 ^ D := two_pow_le (by omega)
    rw [Int.pow_one] at hD1
    rw [Int.pow_succ] at h2
    have pP := tp p
    generalize numE size E = n1 at *
    generalize numE size E' = n2 at *
    generalize lowE below E = l1 at *
    generalize lowE below E' = l2 at *
    generalize (2 : Int) ^ p = P at *
    generalize (2 : Int) ^ D = Y at *
    have a1 : n1 * l2 < P * 2 * l1 * l2 := Int.mul_lt_mul_of_pos_right h2 l'
    have a2 : P * l2 * l1 * Y ≤ n2 * l1 * Y := Int.mul_le_mul_of_nonneg_right (Int.mul_le_mul_of_nonneg_right h1' (Int.le_of_lt l)) (by omega)
    have hP : 0 ≤ P * l2 * l1 := Int.mul_nonneg (Int.mul_nonneg (Int.le_of_lt pP) (Int.le_of_lt l')) (Int.le_of_lt l)
    have a3 : P * l2 * l1 * 2 ≤ P * l2 * l1 * Y := Int.mul_le_mul_of_nonneg_left hD1 hP
    have e : P * 2 * l1 * l2 = P * l2 * l1 * 2 := by grind
    omega
  have a := key h2 h1'
  have b := key h2' h1
  omega
end -- MR
section -- MS
open PySem.Builtin.Int (intBits)

theorem RO.uniq {r : Rnd} {sg size below prec m e b m' e' b' : Int} (hp : 1 ≤ prec) (hb : 0 < below) (h : RO r sg size below prec m e b) (h' : RO r sg size below prec m' e' b') : m = m' ∧ e = e' ∧ b = b' := by
  obtain ⟨h1, h2, h3, E, t, h4, h5, h6, h7⟩ := h
  obtain ⟨g1, g2, g3, E', t', g4, g5, g6, g7⟩ := h'
  have ep : prec.toNat = (prec - 1).toNat + 1 := by omega
  rw [ep] at h5 g5
  have e1 := E_uniq hb h4 h5 g4 g5
  subst e1
  obtain ⟨e2, e3⟩ := odd_uniq h2 g2 (h6.uniq g6)
  subst e2 e3
  exact ⟨rfl, by omega, by omega⟩
theorem RO.same {r : Rnd} {sg size below size' below' prec m e b : Int} (hb : 0 < below) (hb' : 0 < below') (hx : size * below' = size' * below) (h : RO r sg size below prec m e b) : RO r sg size' below' prec m e b := by
  obtain ⟨h1, h2, h3, E, t, h4, h5, h6, h7⟩ := h
  have c : numE size E * lowE below' E = numE size' E * lowE below E := by
    unfold numE lowE
    have e1 : size * 2 ^ (-E).toNat * (below' * 2 ^ E.toNat) = (size * below') * (2 ^ (-E).toNat * 2 ^ E.toNat) := by grind
    rw [e1, hx]; grind
  have l := lowE_pos (E := E) hb
  have l' := lowE_pos (E := E) hb'
  have e := (same_frac l l' c).1
  refine ⟨h1, h2, h3, E, t, e ▸ h4, e ▸ h5, ?_, h7⟩
  rw [← e]
  exact h6.same l l' c
/-- the fraction at hand by another one of the same value -/
theorem RO.mk' {r : Rnd} {sg size below prec m e b : Int} (hb : 0 < below) (h1 : 0 < m) (h2 : m % 2 = 1) (h3 : b = intBits m) {E : Int} {t : Nat} {num low : Int} (hl : 0 < low) (hc : num * lowE below E = numE size E * low)
    (h4 : 2 ^ (prec - 1).toNat ≤ num / low) (h5 : num / low < 2 ^ prec.toNat) (h6 : RFP r sg (num / low) (num % low) low (m * 2 ^ t)) (h7 : e = E + t) : RO r sg size below prec m e b := by
  have l' := lowE_pos (E := E) hb
  have e := (same_frac hl l' hc).1
  refine ⟨h1, h2, h3, E, t, e ▸ h4, e ▸ h5, ?_, h7⟩
  rw [← e]
  exact h6.same hl l' hc
theorem ro_norm {r : Rnd} {sg M X prec m e b : Int} (hM : 0 < M) (hp : 1 ≤ prec) (h : NormOK r sg M X prec m e b) : RO r sg (M * 2 ^ X.toNat) (2 ^ (-X).toNat) prec m e b := by
  obtain ⟨h1, h2, h3, h4, t, h5, h6⟩ := h
  have g1 := bits_ge hM
  have g2 := bits_lt (Int.le_of_lt hM)
  have g3 := bits_pos1 hM
  rcases ilt ((intBits M : Int) - prec) 0 with hk | hk
  · obtain ⟨j, hj⟩ : ∃ j : Nat, (j : Int) = prec - intBits M := ⟨(prec - intBits M).toNat, by omega⟩
    rw [show ((intBits M : Int) - prec).toNat = 0 by omega] at h5 h6
    have h5' : m * 2 ^ t = M := by rw [h5]; unfold rint; rw [if_pos rfl]
    refine RO.mk' (tp _) h1 h2 h3 (E := X - j) (t := t + j) (num := M * 2 ^ j) (low := 1) (by decide) ?_ ?_ ?_ ?_ (by omega)
    · unfold lowE numE
      have e : (2 : Int) ^ j * (2 ^ (-X).toNat * 2 ^ (X - j).toNat) = 2 ^ X.toNat * 2 ^ (-(X - j)).toNat := by
        rw [← Int.pow_add, ← Int.pow_add, ← Int.pow_add]; congr 1; omega
      rw [Int.mul_one, Int.mul_assoc, e, Int.mul_assoc]
    · rw [Int.ediv_one]
      have e : (2 : Int) ^ (prec - 1).toNat = 2 ^ (intBits M - 1) * 2 ^ j := by rw [← Int.pow_add]; congr 1; omega
      rw [e]
      exact Int.mul_le_mul_of_nonneg_right g1 (Int.le_of_lt (tp _))
    · rw [Int.ediv_one]
      have e : (2 : Int) ^ prec.toNat = 2 ^ intBits M * 2 ^ j := by rw [← Int.pow_add]; congr 1; omega
      rw [e]
      exact Int.mul_lt_mul_of_pos_right g2 (tp _)
    · rw [Int.ediv_one, Int.emod_one]
      right
      refine ⟨by omega, ?_⟩
      rw [Int.pow_add, ← Int.mul_assoc, h5']
  · obtain ⟨k, hk'⟩ : ∃ k : Nat, (k : Int) = (intBits M : Int) - prec := ⟨((intBits M : Int) - prec).toNat, by omega⟩
    rw [← hk', Int.toNat_natCast] at h5 h6
    have R := rint_rfp r sg M k
    rw [← h5] at R
    refine RO.mk' (tp _) h1 h2 h3 (E := X + k) (t := t) (num := M) (low := 2 ^ k) (tp _) ?_ ?_ ?_ R (by omega)
    · unfold lowE numE
      have e : (2 : Int) ^ (-X).toNat * 2 ^ (X + k).toNat = 2 ^ X.toNat * 2 ^ (-(X + k)).toNat * 2 ^ k := by
        rw [← Int.pow_add, ← Int.pow_add, ← Int.pow_add]; congr 1; omega
      rw [e]; grind
    · rw [Int.le_ediv_iff_mul_le (tp _), ← Int.pow_add]
      rw [show (prec - 1).toNat + k = intBits M - 1 by omega]; exact g1
    · rw [Int.ediv_lt_iff_lt_mul (tp _), ← Int.pow_add]
      rw [show prec.toNat + k = intBits M by omega]; exact g2
/-- the division with a mark for what is left over -/
theorem ro_div {r : Rnd} {sg man exp prec q x m e b : Int} (hm : 0 < man) (hp : 1 ≤ prec) (hd : DivRel man exp prec q x) (h : NormOK r sg q x prec m e b) : RO r sg (2 ^ (-exp).toNat) (man * 2 ^ exp.toNat) prec m e b := by
  have hbl : 0 < man * 2 ^ exp.toNat := Int.mul_pos hm (tp _)
  rcases hd with ⟨rfl, rfl, rfl⟩ | ⟨hm1, ex, hex, ⟨hr, rfl, rfl⟩ | ⟨hr, rfl, rfl⟩⟩
  · have R := ro_norm (by decide) hp h
    refine R.same (tp _) hbl ?_
    rw [Int.one_mul, Int.one_mul, Int.neg_neg]
  · have hU := tp ex
    have m1 := Int.emod_add_mul_ediv (2 ^ ex) man
    rw [hr, Int.zero_add] at m1
    have hq : 0 < (2 : Int) ^ ex / man := by
      rcases ilt 0 ((2 : Int) ^ ex / man) with h | h
      · exact h
      · have := Int.mul_le_mul_of_nonneg_left h (Int.le_of_lt hm)
        omega
    have R := ro_norm hq hp h
    refine R.same (tp _) hbl ?_
    generalize (2 : Int) ^ ex / man = Q at *
    have e1 : Q * 2 ^ (-exp - ↑ex).toNat * (man * 2 ^ exp.toNat) = (man * Q) * (2 ^ (-exp - ↑ex).toNat * 2 ^ exp.toNat) := by grind
    rw [e1, m1, ← Int.pow_add, ← Int.pow_add, ← Int.pow_add]
    congr 1; omega
  · have hU := tp ex
    have m1 := Int.emod_add_mul_ediv (2 ^ ex) man
    have m2 := Int.emod_nonneg (2 ^ ex) (show man ≠ 0 by omega)
    have m3 := Int.emod_lt_of_pos (2 ^ ex) hm
    have hQ4 : (2 : Int) ^ (prec.toNat + 4) ≤ 2 ^ ex / man := by
      rw [Int.le_ediv_iff_mul_le hm]
      have g2 := bits_lt (Int.le_of_lt hm)
      have e1 : (2 : Int) ^ ex = 2 ^ (prec.toNat + 4) * 2 ^ intBits man := by rw [← Int.pow_add]; congr 1; omega
      rw [e1]
      exact Int.mul_le_mul_of_nonneg_left (Int.le_of_lt g2) (Int.le_of_lt (tp _))
    have hQ : 0 < (2 : Int) ^ ex / man := by have := tp (prec.toNat + 4); omega
    have hq : 0 < 2 * ((2 : Int) ^ ex / man) + 1 := by omega
    have hqb : prec.toNat + 6 ≤ intBits (2 * ((2 : Int) ^ ex / man) + 1) := by
      rcases Nat.lt_or_ge (prec.toNat + 5) (intBits (2 * ((2 : Int) ^ ex / man) + 1)) with h | h
      · exact h
      · have := (bits_le_iff (by omega)).mp h
        rw [Int.pow_succ] at this
        omega
    obtain ⟨h1, h2, h3, h4, t, h5, h6⟩ := h
    have g1 := bits_ge hq
    have g2 := bits_lt (Int.le_of_lt hq)
    obtain ⟨k, hk⟩ : ∃ k : Nat, ((intBits (2 * ((2 : Int) ^ ex / man) + 1) : Int) - prec).toNat = k + 1 + 1 := ⟨((intBits (2 * ((2 : Int) ^ ex / man) + 1) : Int) - prec).toNat - 2, by omega⟩
    rw [hk] at h5 h6
    have R := rint_rfp r sg (2 * ((2 : Int) ^ ex / man) + 1) (k + 1 + 1)
    rw [← h5] at R
    have hlow : 0 < man * 2 ^ (k + 1) := Int.mul_pos hm (tp _)
    have ef : (2 * ((2 : Int) ^ ex / man) + 1) / 2 ^ (k + 1 + 1) = 2 ^ ex / man / 2 ^ (k + 1) := by
      have e1 : (2 : Int) ^ (k + 1 + 1) = 2 * 2 ^ (k + 1) := by rw [Int.pow_succ, Int.mul_comm]
      rw [e1, ← Int.ediv_ediv_of_nonneg (by decide)]
      congr 1; omega
    have ef2 : (2 : Int) ^ ex / (man * 2 ^ (k + 1)) = 2 ^ ex / man / 2 ^ (k + 1) := by rw [← Int.ediv_ediv_of_nonneg (Int.le_of_lt hm)]
    have mm := Int.emod_add_mul_ediv (2 ^ ex) (man * 2 ^ (k + 1))
    have q1 := Int.emod_add_mul_ediv (2 ^ ex / man) (2 ^ (k + 1))
    have q2 := Int.emod_nonneg (2 ^ ex / man) (show (2 : Int) ^ (k + 1) ≠ 0 by have := tp (k + 1); omega)
    have q3 := Int.emod_lt_of_pos (2 ^ ex / man) (tp (k + 1))
    have q4 := Int.emod_add_mul_ediv (2 * (2 ^ ex / man) + 1) (2 ^ (k + 1 + 1))
    have b1 : (2 : Int) ^ (prec - 1).toNat * 2 ^ (k + 1 + 1) ≤ 2 * (2 ^ ex / man) + 1 := by
      rw [← Int.pow_add, show (prec - 1).toNat + (k + 1 + 1) = intBits (2 * ((2 : Int) ^ ex / man) + 1) - 1 by omega]; exact g1
    have b2 : 2 * (2 ^ ex / man) + 1 < (2 : Int) ^ prec.toNat * 2 ^ (k + 1 + 1) := by
      rw [← Int.pow_add, show prec.toNat + (k + 1 + 1) = intBits (2 * ((2 : Int) ^ ex / man) + 1) by omega]; exact g2
    rw [← Int.le_ediv_iff_mul_le (tp _), ef] at b1
    rw [← Int.ediv_lt_iff_lt_mul (tp _), ef] at b2
    rw [ef] at R q4
    refine RO.mk' hbl h1 h2 h3 (E := -exp - ex + (k + 1 : Nat)) (t := t) (num := 2 ^ ex) (low := man * 2 ^ (k + 1)) hlow ?_ ?_ ?_ ?_ (by omega)
    · unfold lowE numE
      have e : (2 : Int) ^ ex * (2 ^ exp.toNat * 2 ^ (-exp - ex + (k + 1 : Nat)).toNat) = 2 ^ (-exp).toNat * 2 ^ (-(-exp - ex + (k + 1 : Nat))).toNat * 2 ^ (k + 1) := by
        rw [← Int.pow_add, ← Int.pow_add, ← Int.pow_add, ← Int.pow_add]; congr 1; omega
      have e1 : (2 : Int) ^ ex * (man * 2 ^ exp.toNat * 2 ^ (-exp - ex + (k + 1 : Nat)).toNat) = man * (2 ^ ex * (2 ^ exp.toNat * 2 ^ (-exp - ex + (k + 1 : Nat)).toNat)) := by grind
      rw [e1, e]; grind
    · rw [ef2]; exact b1
    · rw [ef2]; exact b2
    · rw [ef2]
      rw [ef2] at mm
      have eH : (2 : Int) ^ (k + 1) = 2 * 2 ^ k := by rw [Int.pow_succ, Int.mul_comm]
      have eH2 : (2 : Int) ^ (k + 1 + 1) = 4 * 2 ^ k := by rw [Int.pow_succ, eH]; omega
      have pH := tp k
      rw [eH2] at R q4
      rw [eH] at mm q1 q2 q3 R q4 ⊢
      generalize (2 : Int) ^ ex % (man * (2 * 2 ^ k)) = rest at *
      generalize (2 * ((2 : Int) ^ ex / man) + 1) % (4 * 2 ^ k) = rest0 at *
      generalize (2 : Int) ^ ex / man % (2 * 2 ^ k) = a at *
      generalize (2 : Int) ^ ex % man = ρ at *
      generalize (2 : Int) ^ ex / man / (2 * 2 ^ k) = W at *
      generalize (2 : Int) ^ ex / man = Q at *
      generalize (2 : Int) ^ ex = U at *
      generalize (2 : Int) ^ k = H at *
      have er0 : rest0 = 2 * a + 1 := by
        have : 4 * H * W = 2 * (2 * H * W) := by grind
        omega
      have er : rest = man * a + ρ := by
        have e1 : man * (2 * H) * W = man * (2 * H * W) := by grind
        have e2 : man * Q = man * a + man * (2 * H * W) := by rw [← q1]; grind
        omega
      have hna : 0 ≤ man * a := Int.mul_nonneg (Int.le_of_lt hm) q2
      have key : H ≤ a ↔ man * (2 * H) < 2 * rest := by
        constructor
        · intro h
          have := Int.mul_le_mul_of_nonneg_left h (Int.le_of_lt hm)
          have e1 : man * (2 * H) = 2 * (man * H) := by grind
          omega
        · intro h
          rcases ilt a H with h' | h'
          · exfalso
            have h' : a + 1 ≤ H := h'
            have := Int.mul_le_mul_of_nonneg_left h' (Int.le_of_lt hm)
            have e1 : man * (2 * H) = 2 * (man * H) := by grind
            have e2 : man * (a + 1) = man * a + man := by grind
            omega
          · exact h'
      have key2 : ¬ 2 * rest = man * (2 * H) := by
        intro h
        rcases ilt a H with h' | h'
        · have h' : a + 1 ≤ H := h'
          have := Int.mul_le_mul_of_nonneg_left h' (Int.le_of_lt hm)
          have e1 : man * (2 * H) = 2 * (man * H) := by grind
          have e2 : man * (a + 1) = man * a + man := by grind
          omega
        · have := key.mp h'
          omega
      refine R.congr ⟨fun _ => by omega, fun _ => by omega⟩ ?_ ?_
      · rw [← key]; omega
      · constructor
        · intro h; omega
        · intro h; exact absurd h key2
end -- MS
section -- B15
open PySem.Builtin.Int (intBits)

section
variable {M : Model} {A : Around} {E : Value → Shared → Prop} {s : Shared} {env : Env}
theorem wp_execs_append {Γ : Ctx} {post : List Stmt} {Q' : Flow → Pos → Shared → Prop} {E' : Value → Pos → Shared → Prop} : ∀ (pre : List Stmt) (p : Pos) (s : Shared),
    Sem.wp M Γ (execs (pre ++ post) env) Q' E' p s = Sem.wp M Γ (execs pre env) (fun f p' s' => match f with | .next => Sem.wp M Γ (execs post env) Q' E' p' s' | f => Q' f p' s') E' p s
  | [], p, s => by rw [List.nil_append, execs_nil, Sem.wp_pure']
  | a :: pre, p, s => by
    rw [List.cons_append, execs_cons, execs_cons, Sem.wp_bind', Sem.wp_bind']
    congr 1
    funext f p' s'
    cases f
    · exact wp_execs_append pre p' s'
    all_goals (simp only [Sem.wp_pure'])
def MidQ (Mid : Shared → Prop) (f : Flow) (s : Shared) : Prop := f = .next ∧ Mid s
theorem execs_mid {Q : Flow → Shared → Prop} (Mid : Shared → Prop) (pre post : List Stmt) (h1 : wpAny M A (execs pre env) (MidQ Mid) E s) (h2 : ∀ s', Mid s' → wpAny M A (execs post env) Q E s') : wpAny M A (execs (pre ++ post) env) Q E s := by
  intro Γ p hΓ
  rw [wp_execs_append]
  refine Sem.wp_mono M Γ _ (fun f p' s' h' => ?_) (fun _ _ _ h' => h') _ _ (h1 Γ p hΓ)
  obtain ⟨rfl, hm⟩ := h'
  exact h2 s' hm Γ p' hΓ
end
theorem upd4 {x1 x2 x3 x4 : Str} {v1 v2 v3 v4 : Value} {m : Str → Option Value} {h₀ h : Heap} {L : Addr} (F : Fr h₀ L h m) (h1 : m x1 = some v1) (h2 : m x2 = some v2) (h3 : m x3 = some v3) (h4 : m x4 = some v4) :
    Fr h₀ L h (fun z => if z = x1 then some v1 else if z = x2 then some v2 else if z = x3 then some v3 else if z = x4 then some v4 else m z) := by
  have e : (fun z => if z = x1 then some v1 else if z = x2 then some v2 else if z = x3 then some v3 else if z = x4 then some v4 else m z) = m := by
    funext z
    by_cases e1 : z = x1
    · subst e1; rw [if_pos rfl, h1]
    by_cases e2 : z = x2
    · subst e2; rw [if_neg e1, if_pos rfl, h2]
    by_cases e3 : z = x3
    · subst e3; rw [if_neg e1, if_neg e2, if_pos rfl, h3]
    by_cases e4 : z = x4
    · subst e4; rw [if_neg e1, if_neg e2, if_neg e3, if_pos rfl, h4]
    · rw [if_neg e1, if_neg e2, if_neg e3, if_neg e4]
  rw [e]; exact F
theorem upd6 {x1 x2 x3 x4 x5 x6 : Str} {v1 v2 v3 v4 v5 v6 : Value} {m : Str → Option Value} {h₀ h : Heap} {L : Addr} (F : Fr h₀ L h m) (h1 : m x1 = some v1) (h2 : m x2 = some v2) (h3 : m x3 = some v3) (h4 : m x4 = some v4) (h5 : m x5 = some v5) (h6 : m x6 = some v6) :
    Fr h₀ L h (fun z => if z = x1 then some v1 else if z = x2 then some v2 else if z = x3 then some v3 else if z = x4 then some v4 else if z = x5 then some v5 else if z = x6 then some v6 else m z) := by
  have e : (fun z => if z = x1 then some v1 else if z = x2 then some v2 else if z = x3 then some v3 else if z = x4 then some v4 else if z = x5 then some v5 else if z = x6 then some v6 else m z) = m := by
    funext z
    by_cases e1 : z = x1
    · subst e1; rw [if_pos rfl, h1]
    by_cases e2 : z = x2
    · subst e2; rw [if_neg e1, if_pos rfl, h2]
    by_cases e3 : z = x3
    · subst e3; rw [if_neg e1, if_neg e2, if_pos rfl, h3]
    by_cases e4 : z = x4
    · subst e4; rw [if_neg e1, if_neg e2, if_neg e3, if_pos rfl, h4]
    by_cases e5 : z = x5
    · subst e5; rw [if_neg e1, if_neg e2, if_neg e3, if_neg e4, if_pos rfl, h5]
    by_cases e6 : z = x6
    · subst e6; rw [if_neg e1, if_neg e2, if_neg e3, if_neg e4, if_neg e5, if_pos rfl, h6]
    rw [if_neg e1, if_neg e2, if_neg e3, if_neg e4, if_neg e5, if_neg e6]
  rw [e]; exact F
theorem News.sub {h₀ h : Heap} {L : Addr} {news news' : Led} (N : News h₀ L h news) (hs : ∀ p ∈ news', p ∈ news) : News h₀ L h news' := fun p hp => N p (hs p hp)
end -- B15
section -- C11
open PySem.Builtin.Int (intBits)

local macro_rules | `(tactic| walk_at "binaryOp Add int int") => `(tactic| (k_here; (with_reducible refine add_int ?_); (try dsimp only)))
local macro_rules | `(tactic| walk_at "binaryOp Sub int int") => `(tactic| (k_here; (with_reducible refine sub_int ?_); (try dsimp only)))
local macro_rules | `(tactic| walk_at "binaryOp RShift int int") => `(tactic| (k_here; (with_reducible refine shr_rule (by omega) ?_); (try dsimp only)))
local macro_rules | `(tactic| walk_at "inplaceOp RShift int int") => `(tactic| (k_here; (with_reducible refine ishr_rule (by omega) ?_); (try dsimp only)))
local macro_rules | `(tactic| walk_at "binaryOp BitAnd int int") => `(tactic| (k_here; (with_reducible refine band_rule ?_); (try dsimp only)))
local macro_rules | `(tactic| walk_at "call builtin:int.bit_length") => `(tactic| (k_here; (with_reducible refine bl_rule ?_); (try dsimp only)))
local macro_rules | `(tactic| walk_at "compareOp Eq int int") => `(tactic| (k_here; (with_reducible refine eqb_rule ?_); (try dsimp only)))
local macro_rules | `(tactic| walk_at "truthy int") => `(tactic| (k_here; (with_reducible refine tru_rule ?_); (try dsimp only)))
local macro_rules | `(tactic| walk_at "ite") => `(tactic| (k_here; k_openite; first
  | (with_reducible refine ite_yes (by first | assumption | omega) ?_)
  | (with_reducible refine ite_no (by first | assumption | omega) ?_)
  | (with_reducible refine ite_nyes (by first | assumption | omega) ?_)
  | (with_reducible refine ite_nno (by first | assumption | omega) ?_)
  | ((with_reducible refine ite_split ?_ ?_) <;> intro _)
  | ((with_reducible refine ite_nsplit ?_ ?_) <;> intro _)
  | (with_reducible refine ite_pos (by assumption) ?_)
  | (with_reducible refine ite_isFalse (by assumption) ?_)
  | ((with_reducible refine ite_splitb ?_ ?_) <;> intro _)))
local macro_rules | `(tactic| walk_at "binaryOp LShift int int") => `(tactic| (k_here; (with_reducible refine shl_rule (by omega) (by first | omega | assumption) ?_); (try dsimp only)))
local macro_rules | `(tactic| k_mem) => `(tactic| first | with_reducible assumption | (refine' List.mem_cons_of_mem _ ?_; k_mem))

local macro_rules | `(tactic| walk_at "compareOp Eq str str") => `(tactic| (k_here; first | (with_reducible refine eq_n ?_) | (with_reducible refine eq_f ?_) | (with_reducible refine eq_c ?_) | (with_reducible refine eq_d ?_) | (with_reducible refine eq_u ?_)))
local macro_rules | `(tactic| walk_at "subscriptTail") => `(tactic| (k_here; first
  | ((with_reducible refine' sd_rule ?F ?X ?h ?_); (case F => k_asm); (case X => k_asm); (case h => with_reducible assumption); (try dsimp only))
  | ((with_reducible refine' sd2_rule ?F ?X ?h ?g ?_); (case F => k_asm); (case X => k_asm); (case h => with_reducible assumption); (case g => with_reducible assumption))
  | ((with_reducible refine' rec_rule ?F ?X ?_); (case F => k_asm); (case X => k_asm); (try dsimp only))))

local macro_rules | `(tactic| walk_at "binaryOp LShift int int") => `(tactic| (k_here; (with_reducible refine shl1_rule (by omega) (by omega) ?_); (try dsimp only)))
local macro_rules | `(tactic| walk_at "binaryOp BitXor int int") => `(tactic| (k_here; (with_reducible refine xor0_rule (by assumption) ?_); (try dsimp only)))
local macro_rules | `(tactic| walk_at "call builtin:divmod") => `(tactic| (k_here; (with_reducible refine' divmod_rule ?F ?N ?a ?b ?_); (case F => k_asm); (case N => k_asm); (case a => omega); (case b => omega); (intro h' D' F' N'; (try dsimp only); (try k_sweep))))

local macro_rules | `(tactic| walk_at "binaryOp Mult int int") => `(tactic| (k_here; (with_reducible refine mulb_rule (by assumption) (by assumption) (by decide) ?_); (try dsimp only)))
local macro_rules | `(tactic| walk_at "inplaceOp Pow int int") => `(tactic| (k_here; (with_reducible refine iipw_rule (by omega) (by omega) ?_); (try dsimp only)))
local macro_rules | `(tactic| walk_at "binaryOp FloorDiv int int") => `(tactic| (k_here; (with_reducible refine fdv_rule (by omega) (by decide) ?_); (try dsimp only)))
local macro_rules | `(tactic| walk_at "binaryOp Pow int int") => `(tactic| (k_here; (with_reducible refine pow2_rule (by omega) (by omega) ?_); (try dsimp only)))

local macro_rules | `(tactic| walk_at "binaryOp FloorDiv int int") => `(tactic| (k_here; first | (with_reducible refine edivp_rule (by omega) ?_) | (with_reducible refine ediv_rule (by decide) (by decide) ?_); (try dsimp only)))
local macro_rules | `(tactic| walk_at "binaryOp Mod int int") => `(tactic| (k_here; first | (with_reducible refine emodp_rule ?_) | (with_reducible refine emod_rule (by decide) ?_); (try dsimp only)))
local macro_rules | `(tactic| walk_at "compareOp Eq ref ref") => `(tactic| (k_here; k_dflt ((refine' eq4_rule ?h1 ?h2 ?h3 ?_); (case h1 => exact News.get (by k_asm) (by k_mem)); (case h2 => exact News.get (by k_asm) (by k_mem)); (case h3 => first | ktr_units | omega))))
local macro_rules | `(tactic| walk_at "subscriptTail Name Slice") => `(tactic| (k_here; (refine' slice_two (s := ⟨_, _, _, _, _⟩) ?F ?N ?t ?_); (case F => k_asm); (case N => k_asm); (case t => exact tup4 (by k_asm) (by k_mem)); (intro D' h' F' N'; (try dsimp only); (try k_sweep))))

local macro_rules | `(tactic| walk_at "inplaceOp Add int int") => `(tactic| (k_here; (with_reducible refine iadd_int ?_); (try dsimp only)))
local macro_rules | `(tactic| walk_at "compareOp Gt int int") => `(tactic| (k_here; (with_reducible refine gt_int ?_); (try dsimp only)))
local macro_rules | `(tactic| walk_at "compareOp GtE int int") => `(tactic| (k_here; (with_reducible refine ge_int ?_); (try dsimp only)))
local macro_rules | `(tactic| walk_at "compareOp Lt int int") => `(tactic| (k_here; (with_reducible refine lt_int ?_); (try dsimp only)))

local macro_rules | `(tactic| walk_at "exec While") => `(tactic| (k_here; refine halt ?_))
local macro_rules | `(tactic| walk_at "execs cons") => `(tactic| (k_here; (with_reducible show wpAny _ _ (execs [_, _, _, _, _] _) _ _ _); refine halt ?_))
local macro_rules | `(tactic| walk_at "KswEnd") => `(tactic| (refine halt ?_))
theorem loop_facts {size below prec e0 : Int} {c : RL} (hs : 0 < size) (hb : 0 < below) (hsb : intBits size ≤ 5000) (hbb : intBits below ≤ 3000) (hp : 1 ≤ prec) (hp2 : prec ≤ 100) (he : e0 = (intBits size : Int) - intBits below - prec - 1) (h : RInv size below prec e0 c) :
    c.exp + 1 ≤ 7000 ∧ -(c.exp + 1) ≤ 7000 ∧ intBits (ipw 2 (c.exp + 1)) ≤ 7001 ∧ intBits (ipw 2 (-(c.exp + 1))) ≤ 7001 ∧ 0 < mulI below (ipw 2 (c.exp + 1)) ∧ intBits (mulI below (ipw 2 (c.exp + 1))) ≤ 8000 := by
  have g1 := bits_pos1 hs
  have g2 := bits_pos1 hb
  have h1 : e0 ≤ c.exp ∧ c.exp ≤ e0 + 2 := by
    rcases h with ⟨a', _⟩ | ⟨a', b', _⟩ <;> omega
  refine ⟨by omega, by omega, ipw2_bits (k := 7000) (by omega), ipw2_bits (k := 7000) (by omega), ?_, ?_⟩
  · rw [mulI_eq]; exact Int.mul_pos hb (ipw2_pos _)
  · rw [mulI_eq, ipw_eq, bits_mul_pow hb]; omega
theorem rest_bits {num low : Int} {k : Nat} (hl : 0 < low) (h : intBits low ≤ k) : intBits (num % low) ≤ k := by
  have h1 := Int.emod_nonneg num (show low ≠ 0 by omega)
  have h2 := Int.emod_lt_of_pos num hl
  rw [bits_le_iff h1]
  have := (bits_le_iff (Int.le_of_lt hl)).mp h
  omega
/-- the second loop: zeros are stripped -/
def RMInv (E M : Int) (c : RM) : Prop := 0 < c.whole ∧ ∃ t : Nat, c.exp = E + t ∧ c.whole * 2 ^ t = M
theorem RMInv.start {E M : Int} (h : 0 < M) {a b : Tok} : RMInv E M ⟨E, M, a, b⟩ := ⟨h, 0, by show E = E + (0 : Nat); omega, by show M * 2 ^ 0 = M; rw [Int.pow_zero, Int.mul_one]⟩
theorem RMInv.next {E M : Int} {c : RM} (h : RMInv E M c) (he : c.whole % 2 = 0) {a b : Tok} : RMInv E M ⟨c.exp + 1, c.whole / 2, a, b⟩ ∧ (c.whole / 2).toNat < c.whole.toNat := by
  obtain ⟨h1, t, h2, h3⟩ := h
  refine ⟨⟨by show 0 < c.whole / 2; omega, t + 1, by show c.exp + 1 = E + (t + 1 : Nat); omega, ?_⟩, by omega⟩
  show c.whole / 2 * 2 ^ (t + 1) = M
  have e : c.whole = 2 * (c.whole / 2) := by omega
  rw [← h3, Int.pow_succ]
  generalize c.whole / 2 = x at *
  rw [e]; grind
theorem rl_step {size below prec e0 : Int} {cE cW cR cL : Int} {xa xb xc xd : Tok} (hs : 0 < size) (hb : 0 < below) (hp : 1 ≤ prec) (he : e0 = (intBits size : Int) - intBits below - prec - 1) (h : RInv size below prec e0 ⟨cE, cW, cR, cL, xa, xb, xc, xd⟩) (ht : ipw 2 prec ≤ cW)
    {low num : Int} (hl : low = lowE below (cE + 1)) (hn : num = numE size (cE + 1)) (hlb : intBits low ≤ 8000) {a b cc dd : Tok} :
    RInv size below prec e0 ⟨cE + 1, fdv num low, fmd num low, low, a, b, cc, dd⟩ ∧ intBits (fmd num low) ≤ 8000 := by
  have hlp : 0 < low := by rw [hl]; exact lowE_pos hb
  exact ⟨(h.next hs hb hp he ht hl hn).1, by rw [fmd_emod hlp]; exact rest_bits hlp hlb⟩
theorem rl_meas {size below prec e0 : Int} {cE cW cR cL : Int} {xa xb xc xd : Tok} (hs : 0 < size) (hb : 0 < below) (hp : 1 ≤ prec) (he : e0 = (intBits size : Int) - intBits below - prec - 1) (h : RInv size below prec e0 ⟨cE, cW, cR, cL, xa, xb, xc, xd⟩) (ht : ipw 2 prec ≤ cW) :
    (e0 + 2 - (cE + 1)).toNat < (e0 + 2 - cE).toNat := (h.next hs hb hp he ht rfl rfl (a := 0) (b := 0) (cc := 0) (dd := 0)).2
theorem RInv.wpos {size below prec e0 : Int} {c : RL} (h : RInv size below prec e0 c) (ht : ¬ ipw 2 prec ≤ c.whole) : 0 < c.whole := by
  have := (h.done ht).2.2.2.1
  have := tp (prec - 1).toNat
  omega
theorem RMInv.done {r : Rnd} {sg size below prec e0 M : Int} {c : RL} {d : RM} (h : RInv size below prec e0 c) (ht : ¬ ipw 2 prec ≤ c.whole) (hm : RMInv c.exp M d) (ho : ¬ d.whole % 2 = 0) (hR : RFP r sg c.whole c.rest c.low M) : RO r sg size below prec d.whole d.exp (intBits d.whole) := by
  obtain ⟨h1, h2, h3, h4, h5, _, _⟩ := h.done ht
  obtain ⟨g1, t, g2, g3⟩ := hm
  refine ⟨g1, by omega, rfl, c.exp, t, h2 ▸ h4, h2 ▸ h5, ?_, g2⟩
  rw [← h2, ← h3, ← h1, g3]; exact hR
section
variable {r : Rnd} {sg W R L : Int}
theorem is_n (h : r.is .n = true) : r = .n := isn h
theorem rfN1 (h : r.is .n = true) (h1 : L < mulI 2 R) (h2 : 0 < R) : RFP r sg W R L (W + 1) := by
  cases isn h; rw [mulI_eq] at h1
  exact .inl ⟨h2, .inl h1, rfl⟩
theorem rfN2 (h : r.is .n = true) (h1 : mulI 2 R = L) (h3 : W % 2 = 1) (h2 : 0 < R) : RFP r sg W R L (W + 1) := by
  cases isn h; rw [mulI_eq] at h1
  exact .inl ⟨h2, .inr ⟨h1, h3⟩, rfl⟩
theorem rfN3 (h : r.is .n = true) (h1 : ¬ L < mulI 2 R) (h3 : ¬ mulI 2 R = L) : RFP r sg W R L W := by
  cases isn h; rw [mulI_eq] at h1 h3
  refine .inr ⟨?_, rfl⟩
  rintro ⟨_, h | ⟨h, _⟩⟩
  · exact h1 h
  · exact h3 h
theorem rfN4 (h : r.is .n = true) (h1 : ¬ L < mulI 2 R) (h3 : ¬ W % 2 = 1) : RFP r sg W R L W := by
  cases isn h; rw [mulI_eq] at h1
  refine .inr ⟨?_, rfl⟩
  rintro ⟨_, h | ⟨_, h⟩⟩
  · exact h1 h
  · exact h3 h
theorem rf0 (h : ¬ 0 < R) : RFP r sg W R L W := .inr ⟨fun a => h a.1, rfl⟩
theorem rfA (hn : r.is .n = false) (hs : r.sd sg = 0) (h : 0 < R) : RFP r sg W R L (W + 1) := .inl ⟨h, (RAway.nn hn).mpr hs, rfl⟩
theorem rfB (hn : r.is .n = false) (hs : r.sd sg ≠ 0) : RFP r sg W R L W := .inr ⟨fun a => hs ((RAway.nn hn).mp a.2), rfl⟩
theorem rfU (hn : r.is .n = false) (hu : r.is .u = true) (h : 0 < R) : RFP r sg W R L (W + 1) := rfA hn (by cases r <;> first | rfl | cases hu) h
theorem rfC (hn : r.is .n = false) (hu : r.is .c = true) (h : 0 < R) : RFP r 0 W R L (W + 1) := rfA hn (by cases r <;> first | rfl | cases hu) h
theorem rfF (hn : r.is .n = false) (hu : r.is .f = true) (h : 0 < R) : RFP r 1 W R L (W + 1) := rfA hn (by cases r <;> first | rfl | cases hu) h
theorem rfD0 (hn : r.is .n = false) (hu : r.is .u = false) (hc : r.is .c = false) : RFP r 0 W R L W := rfB hn (by cases r <;> first | (cases hu; done) | (cases hc; done) | (cases hn; done) | (show (1 : Int) ≠ 0; decide))
theorem rfD1 (hn : r.is .n = false) (hu : r.is .u = false) (hc : r.is .f = false) : RFP r 1 W R L W := rfB hn (by cases r <;> first | (cases hu; done) | (cases hc; done) | (cases hn; done) | (show (1 : Int) ≠ 0; decide))
end
theorem doneR {P : Int → Int → Int → Int → Prop} {Q : Value → Shared → Prop} {s : Shared} {h₀ : Heap} {L : Addr} {m : Str → Option Value} {news nl : Led} {h' : Heap} {tk' : Nat} {D : Addr} {sg m' e' b' : Int} {ta tb tc td : Tok}
    (hret : ∀ (v : Value) (tl : Led) (h' : Heap) (tk' : Nat), (∃ D sg m' e' b' ta tb tc td, v = .ref D ∧ tl = [(D, ({ cls := .type "tuple", data := .seq #[.int sg ta, .int m' tb, .int e' tc, .int b' td] } : Obj))] ∧ P sg m' e' b') → Fr h₀ L h' m → News h₀ L h' (tl ++ news) → Q v { s with heap := h', toks := tk' })
    (F : Fr h₀ L h' m) (N : News h₀ L h' nl) (hx : (D, ({ cls := .type "tuple", data := .seq #[.int sg ta, .int m' tb, .int e' tc, .int b' td] } : Obj)) ∈ nl) (hn : ∀ p ∈ news, p ∈ nl) (H : P sg m' e' b') : Q (.ref D) { s with heap := h', toks := tk' } :=
  hret _ [_] _ _ ⟨_, _, _, _, _, _, _, _, _, rfl, rfl, H⟩ F (fun p hp => by
    rcases List.mem_cons.mp hp with rfl | hp
    · exact N _ hx
    · exact N _ (hn _ hp))
set_option maxHeartbeats 4000000 in
theorem rounded_tells (w : World) (news : Led) (r : Rnd) (above below prec : Int) (t1 t2 t3 t4 : Tok) (ha : above ≠ 0) (hb : 0 < below) (hba : intBits above ≤ 5000) (hbb : intBits below ≤ 3000) (hp : 1 ≤ prec) (hp2 : prec ≤ 100) :
    Tell w 119 news [.int above t1, .int below t2, .int prec t3, .str r.str t4] 1 (fun v tl => ∃ D sg man exp bc ta tb tc td, v = .ref D ∧ tl = [(D, I4 sg man exp bc ta tb tc td)] ∧ ((above < 0 ∧ sg = 1 ∧ RO r 1 (-above) below prec man exp bc) ∨ (0 < above ∧ sg = 0 ∧ RO r 0 above below prec man exp bc))) := by
  (try unfold Tup4); unfold Tell; k_fill
  intro p loose mean mg mb dp un gd cn cs a ccd cl outer A₀ base h₀ L m s Q E B F X N T hk hd hu hret
  w_top on
  refine wpAny_call ?_
  k_dflt (refine' code_def ?k1 ?k2 ?k3 ?k4 ?k5 ?kA ?kF ?kK ?k6 ?k7 ?k8 ?k9 ?kB ?_ ?c2 ?c3 ?c4 ?c5; (case kA => exact rfl); (case kF => exact rfl); (case kK => assumption); (case k1 => k_asm); (case k2 => k_asm); (case k3 => k_asm); (case k4 => k_asm); (case k5 => k_asm); (case k6 => k_is); (case k7 => k_is); (case k8 => ktr_room); (case k9 => first | exact BindsTo.of_eq rfl | exact binds_K (by k_in) rfl (by k_is) rfl rfl rfl); (case c5 => decide); (case kB => exact locs rfl); (case c2 => exact rfl); (case c3 => exact rfl); (case c4 => exact rfl); k_whole; intro g' L' h' FG' F' N' B' X' T'; (try dsimp only); (try k_lift B'); (try k_fold))

  have hp3 : intBits 2 ≤ 2 := by decide
  have hba2 : intBits (-above) ≤ 5000 := intBits_neg_le hba
  k_steps
  · unfold Halt
    rename Fr _ _ _ _ => lF
    rename News _ _ _ _ => lN
    have hS : 0 < -above := by omega
    refine' rl_while (fun c => RInv (-above) below prec ((intBits (-above) : Int) - intBits below - prec - 1) c ∧ intBits c.rest ≤ 8000) (fun c => ((intBits (-above) : Int) - intBits below - prec - 1 + 2 - c.exp).toNat) lF lN ?h1x ?h2x ?h3x ?h4x ?hpx ?turnx ?hEx
    case h1x => exact rfl
    case h2x => exact rfl
    case h3x => exact rfl
    case h4x => exact rfl
    case hEx => passes_own
    case hpx => exact ⟨.inl ⟨rfl, rfl⟩, by show intBits 0 ≤ 8000; decide⟩
    rintro ⟨cE, cW, cR, cL, xa, xb, xc, xd⟩ h9 tk9 ⟨hI, hcR⟩ F9 N9
    obtain ⟨q1, q2, q3, q4, q5, q6⟩ := loop_facts hS hb hba2 hbb hp hp2 rfl hI
    dsimp only at F9 q1 q2 q3 q4 q5 q6 hcR
    clear lF lN
    (try k_fold)
    k_steps
    iterate 3
      · unfold Halt
        refine' rl_end (by assumption) (by assumption) (by intro p hp; repeat (first | exact hp | refine List.mem_cons_of_mem _ ?_)) (by exact rfl) (by exact rfl) (by exact rfl) (by exact rfl) ?_ ?_ ?_
        · intro z h1 h2 h3 h4
          simp only [h1, h2, h3, h4, if_false]
        · refine rl_step hS hb hp rfl hI (by assumption) ?_ ?_ (by omega)
          · first | exact lowE_eq1 (by assumption) | exact lowE_eq2 (by assumption)
          · first | exact numE_eq1 (by assumption) | exact numE_eq2 (by assumption) | exact numE_eq2 (by omega)
        · exact rl_meas hS hb hp rfl hI (by assumption)
    unfold Halt
    have hnt : ¬ ipw 2 prec ≤ cW := by assumption
    have hW : 0 < cW := hI.wpos hnt
    refine execs_mid (fun s' => ∃ (h' : Heap) (tk' : Nat) (W : Int) (tw te ts : Tok) (m' : Str → Option Value), s' = { s with heap := h', toks := tk' } ∧ Fr g' L' h' m' ∧ News g' L' h' news ∧ m' (Str.ofString "sign") = some (.int 1 ts) ∧ m' (Str.ofString "whole") = some (.int W tw) ∧ m' (Str.ofString "exp") = some (.int cE te) ∧ 0 < W ∧ RFP r 1 cW cR cL W) [_, _, _] [_, _] ?midA ?midB
    case midA =>
      clear hret
      cases r
      all_goals k_steps
      all_goals
        exact ⟨rfl, _, _, _, _, _, _, _, rfl, by assumption, News.sub (by assumption) (by intro p hp; repeat (first | exact hp | refine List.mem_cons_of_mem _ ?_)), by exact rfl, by exact rfl, by exact rfl, by omega, by first
          | exact rf0 (by assumption)
          | exact rfN1 (by first | rfl | assumption) (by first | rfl | assumption) (by first | rfl | assumption)
          | exact rfN2 (by first | rfl | assumption) (by first | rfl | assumption) (by first | rfl | assumption) (by first | rfl | assumption)
          | exact rfN3 (by first | rfl | assumption) (by first | rfl | assumption) (by first | rfl | assumption)
          | exact rfN4 (by first | rfl | assumption) (by first | rfl | assumption) (by first | rfl | assumption)
          | exact rfU (by first | rfl | assumption) (by first | rfl | assumption) (by first | rfl | assumption)
          | exact rfF (by first | rfl | assumption) (by first | rfl | assumption) (by first | rfl | assumption)
          | exact rfD1 (by first | rfl | assumption) (by first | rfl | assumption) (by first | rfl | assumption)⟩
    case midB =>
      rintro _ ⟨h', tk', W, tw, te, ts, m', rfl, F7, N7, m1, m2, m3, hW9, hRF⟩
      have lF := upd4 F7 m1 m2 m3 m3
      clear F7 m1 m2 m3
      rename News _ _ _ news => lN
      k_steps
      unfold Halt
      refine rm_while (RMInv cE W) (fun c => c.whole.toNat) lF lN (by exact rfl) (by exact rfl) (by exact RMInv.start hW9) ?_ (by passes_own)
      rintro ⟨dE, dW, xe, xf⟩ h8 tk8 hM F8 N8
      dsimp only at F8
      clear lF lN
      (try k_fold)
      k_steps
      · unfold Halt
        refine' rm_end (by assumption) (by assumption) (by intro p hp; repeat (first | exact hp | refine List.mem_cons_of_mem _ ?_)) (by exact rfl) (by exact rfl) ?_ ?_ ?_
        · intro z h1 h2
          simp only [h1, h2, if_false]
        · exact (hM.next (by assumption)).1
        · exact (hM.next (by assumption) (a := 0) (b := 0)).2
      · exact doneR hret (by assumption) (by assumption) (.head _) (by intro p hp; repeat (first | exact hp | refine List.mem_cons_of_mem _ ?_)) (.inl ⟨by assumption, rfl, RMInv.done hI hnt hM (by assumption) hRF⟩)
  · unfold Halt
    rename Fr _ _ _ _ => lF
    rename News _ _ _ _ => lN
    have hS : 0 < above := by omega
    refine' rl_while (fun c => RInv above below prec ((intBits above : Int) - intBits below - prec - 1) c ∧ intBits c.rest ≤ 8000) (fun c => ((intBits above : Int) - intBits below - prec - 1 + 2 - c.exp).toNat) lF lN ?h1z ?h2z ?h3z ?h4z ?hpz ?turnz ?hEz
    case h1z => exact rfl
    case h2z => exact rfl
    case h3z => exact rfl
    case h4z => exact rfl
    case hEz => passes_own
    case hpz => exact ⟨.inl ⟨rfl, rfl⟩, by show intBits 0 ≤ 8000; decide⟩
    rintro ⟨cE, cW, cR, cL, xa, xb, xc, xd⟩ h9 tk9 ⟨hI, hcR⟩ F9 N9
    obtain ⟨q1, q2, q3, q4, q5, q6⟩ := loop_facts hS hb hba hbb hp hp2 rfl hI
    dsimp only at F9 q1 q2 q3 q4 q5 q6 hcR
    clear lF lN
    (try k_fold)
    k_steps
    iterate 3
      · unfold Halt
        refine' rl_end (by assumption) (by assumption) (by intro p hp; repeat (first | exact hp | refine List.mem_cons_of_mem _ ?_)) (by exact rfl) (by exact rfl) (by exact rfl) (by exact rfl) ?_ ?_ ?_
        · intro z h1 h2 h3 h4
          simp only [h1, h2, h3, h4, if_false]
        · refine rl_step hS hb hp rfl hI (by assumption) ?_ ?_ (by omega)
          · first | exact lowE_eq1 (by assumption) | exact lowE_eq2 (by assumption)
          · first | exact numE_eq1 (by assumption) | exact numE_eq2 (by assumption) | exact numE_eq2 (by omega)
        · exact rl_meas hS hb hp rfl hI (by assumption)
    unfold Halt
    have hnt : ¬ ipw 2 prec ≤ cW := by assumption
    have hW : 0 < cW := hI.wpos hnt
    refine execs_mid (fun s' => ∃ (h' : Heap) (tk' : Nat) (W : Int) (tw te ts : Tok) (m' : Str → Option Value), s' = { s with heap := h', toks := tk' } ∧ Fr g' L' h' m' ∧ News g' L' h' news ∧ m' (Str.ofString "sign") = some (.int 0 ts) ∧ m' (Str.ofString "whole") = some (.int W tw) ∧ m' (Str.ofString "exp") = some (.int cE te) ∧ 0 < W ∧ RFP r 0 cW cR cL W) [_, _, _] [_, _] ?midA ?midB
    case midA =>
      clear hret
      cases r
      all_goals k_steps
      all_goals
        exact ⟨rfl, _, _, _, _, _, _, _, rfl, by assumption, News.sub (by assumption) (by intro p hp; repeat (first | exact hp | refine List.mem_cons_of_mem _ ?_)), by exact rfl, by exact rfl, by exact rfl, by omega, by first
          | exact rf0 (by assumption)
          | exact rfN1 (by first | rfl | assumption) (by first | rfl | assumption) (by first | rfl | assumption)
          | exact rfN2 (by first | rfl | assumption) (by first | rfl | assumption) (by first | rfl | assumption) (by first | rfl | assumption)
          | exact rfN3 (by first | rfl | assumption) (by first | rfl | assumption) (by first | rfl | assumption)
          | exact rfN4 (by first | rfl | assumption) (by first | rfl | assumption) (by first | rfl | assumption)
          | exact rfU (by first | rfl | assumption) (by first | rfl | assumption) (by first | rfl | assumption)
          | exact rfC (by first | rfl | assumption) (by first | rfl | assumption) (by first | rfl | assumption)
          | exact rfD0 (by first | rfl | assumption) (by first | rfl | assumption) (by first | rfl | assumption)⟩
    case midB =>
      rintro _ ⟨h', tk', W, tw, te, ts, m', rfl, F7, N7, m1, m2, m3, hW9, hRF⟩
      have lF := upd4 F7 m1 m2 m3 m3
      clear F7 m1 m2 m3
      rename News _ _ _ news => lN
      k_steps
      unfold Halt
      refine rm_while (RMInv cE W) (fun c => c.whole.toNat) lF lN (by exact rfl) (by exact rfl) (by exact RMInv.start hW9) ?_ (by passes_own)
      rintro ⟨dE, dW, xe, xf⟩ h8 tk8 hM F8 N8
      dsimp only at F8
      clear lF lN
      (try k_fold)
      k_steps
      · unfold Halt
        refine' rm_end (by assumption) (by assumption) (by intro p hp; repeat (first | exact hp | refine List.mem_cons_of_mem _ ?_)) (by exact rfl) (by exact rfl) ?_ ?_ ?_
        · intro z h1 h2
          simp only [h1, h2, if_false]
        · exact (hM.next (by assumption)).1
        · exact (hM.next (by assumption) (a := 0) (b := 0)).2
      · exact doneR hret (by assumption) (by assumption) (.head _) (by intro p hp; repeat (first | exact hp | refine List.mem_cons_of_mem _ ?_)) (.inr ⟨by assumption, rfl, RMInv.done hI hnt hM (by assumption) hRF⟩)
end -- C11
section -- B7
open PySem.Builtin.Int (intBits)

section
variable {w : World} {A : Around} {E : Value → Shared → Prop} {s : Shared} {h₀ h : Heap} {L : Addr} {m : Str → Option Value} {Q : Value → Shared → Prop} {a b c d : Int} {ta tb tc td : Tok} {D1 : Addr}
theorem at22 (F : Fr h₀ L h m) (X : (Mine.hd.heap_39 w.params).In h₀) : ∃ ta tb tc td, h.get? 22 = some (I4 0 0 0 0 ta tb tc td) := by
  have hp : PySem.Challenge.rw_ah5005_01 = PySem.Challenge.rw_ah5005_01 := rfl
  revert X hp; k_fill; intro X _
  have Y := X.keeps F.keep
  exact ⟨_, _, _, _, Y _ _ (by k_is)⟩
theorem at23 (F : Fr h₀ L h m) (X : (Mine.hd.heap_39 w.params).In h₀) : ∃ ta tb tc td, h.get? 23 = some (I4 0 1 0 1 ta tb tc td) := by
  have hp : PySem.Challenge.rw_ah5005_01 = PySem.Challenge.rw_ah5005_01 := rfl
  revert X hp; k_fill; intro X _
  have Y := X.keeps F.keep
  exact ⟨_, _, _, _, Y _ _ (by k_is)⟩
theorem eqR22 {prog : Program} (F : Fr h₀ L s.heap m) (X : (Mine.hd.heap_39 w.params).In h₀) (h1 : s.heap.get? D1 = some (I4 a b c d ta tb tc td)) (hu : A.units + 64 < cLine) (h : Q (.bool (decide (a = 0 ∧ b = 0 ∧ c = 0 ∧ d = 0))) s) :
    wpAny (model prog w) A (compareOp .Eq (.ref D1) (.ref 22)) Q E s := by
  obtain ⟨_, _, _, _, h2⟩ := at22 F X
  exact eq4_rule h1 h2 hu h
theorem eqL22 {prog : Program} (F : Fr h₀ L s.heap m) (X : (Mine.hd.heap_39 w.params).In h₀) (h1 : s.heap.get? D1 = some (I4 a b c d ta tb tc td)) (hu : A.units + 64 < cLine) (h : Q (.bool (decide (0 = a ∧ 0 = b ∧ 0 = c ∧ 0 = d))) s) :
    wpAny (model prog w) A (compareOp .Eq (.ref 22) (.ref D1)) Q E s := by
  obtain ⟨_, _, _, _, h2⟩ := at22 F X
  exact eq4_rule h2 h1 hu h
theorem eqL23 {prog : Program} (F : Fr h₀ L s.heap m) (X : (Mine.hd.heap_39 w.params).In h₀) (h1 : s.heap.get? D1 = some (I4 a b c d ta tb tc td)) (hu : A.units + 64 < cLine) (h : Q (.bool (decide (0 = a ∧ 1 = b ∧ 0 = c ∧ 1 = d))) s) :
    wpAny (model prog w) A (compareOp .Eq (.ref 23) (.ref D1)) Q E s := by
  obtain ⟨_, _, _, _, h2⟩ := at23 F X
  exact eq4_rule h2 h1 hu h
theorem eqTT {prog : Program} {D1 D2 : Addr} {a' b' c' d' : Int} (h1 : ∃ ta tb tc td, s.heap.get? D1 = some (I4 a b c d ta tb tc td)) (h2 : ∃ ta tb tc td, s.heap.get? D2 = some (I4 a' b' c' d' ta tb tc td)) (hu : A.units + 64 < cLine) (h : Q (.bool (decide (a = a' ∧ b = b' ∧ c = c' ∧ d = d'))) s) :
    wpAny (model prog w) A (compareOp .Eq (.ref D1) (.ref D2)) Q E s := by
  obtain ⟨_, _, _, _, h1⟩ := h1
  obtain ⟨_, _, _, _, h2⟩ := h2
  exact eq4_rule h1 h2 hu h
end
end -- B7
section -- B8
open PySem.Builtin.Int (intBits)

theorem TellB.use {w : World} {f : Addr} {news : Led} {vs : List Value} {d : Nat} {G : Heap → Prop} {R : Value → Led → Prop} (C : TellB w f news vs d G R)
    {p : Program} {loose : List Str} {mean : ExcName → Option Value} {mg mb : Str → Option Value} {dp un : Nat} {gd : Option (List Code)} {cn : Str} {cs : Scope} {a : Addr} {ccd : Value} {cl : List (Str × Addr)} {outer : List Env} {A₀ : Around} {base h₀ : Heap} {L : Addr} {m : Str → Option Value} {s : Shared} {Q E : Value → Shared → Prop}
    (hG : G base) (B : Below A₀ base outer h₀) (F : Fr h₀ L s.heap m) (X : (Mine.hd.heap_39 w.params).In h₀) (N : News h₀ L s.heap news) (T : Top p loose mean mg mb h₀) (hk : cs.kind = .function)
    (hd : dp + d < recursionLimit) (hu : un + 8 * d < cLine)
    (hret : ∀ (v : Value) (tl : Led) (h' : Heap) (tk' : Nat), R v tl → Fr h₀ L h' m → News h₀ L h' (tl ++ news) → Q v { s with heap := h', toks := tk' }) :
    wpAny (model PySem.Challenge.rw_ah5005_01.row.prog w) (ktrTop dp un gd cn cs L a ccd cl outer) (call (.ref f) vs) Q E s := C _ _ _ _ _ _ _ _ _ _ _ _ _ _ _ _ _ _ _ _ _ _ hG B F X N T hk hd hu hret
end -- B8
section -- B9
open PySem.Builtin.Int (intBits)

/-- for a call out of the law's own frame: base and frame's heap are one, no frame lies beneath -/
abbrev TellT (w : World) (f : Addr) (news : Led) (vs : List Value) (d : Nat) (R : Value → Led → Prop) : Prop :=
  ∀ (p : Program) (loose : List Str) (mean : ExcName → Option Value) (mg mb : Str → Option Value) (dp un : Nat) (gd : Option (List Code)) (cn : Str) (cs : Scope) (a : Addr) (ccd : Value) (cl : List (Str × Addr)) (A₀ : Around) (h₀ : Heap) (L : Addr) (m : Str → Option Value) (s : Shared) (Q E : Value → Shared → Prop),
    Below A₀ h₀ [] h₀ → Fr h₀ L s.heap m → (Mine.hd.heap_39 w.params).In h₀ → News h₀ L s.heap news → Top p loose mean mg mb h₀ → cs.kind = .function →
    dp + d < recursionLimit → un + 8 * d < cLine →
    (∀ (v : Value) (tl : Led) (h' : Heap) (tk' : Nat), R v tl → Fr h₀ L h' m → News h₀ L h' (tl ++ news) → Q v { s with heap := h', toks := tk' }) →
    wpAny (model PySem.Challenge.rw_ah5005_01.row.prog w) (ktrTop dp un gd cn cs L a ccd cl []) (call (.ref f) vs) Q E s
theorem TellT.use {w : World} {f : Addr} {news : Led} {vs : List Value} {d : Nat} {R : Value → Led → Prop} (C : TellT w f news vs d R)
    {p : Program} {loose : List Str} {mean : ExcName → Option Value} {mg mb : Str → Option Value} {dp un : Nat} {gd : Option (List Code)} {cn : Str} {cs : Scope} {a : Addr} {ccd : Value} {cl : List (Str × Addr)} {A₀ : Around} {h₀ : Heap} {L : Addr} {m : Str → Option Value} {s : Shared} {Q E : Value → Shared → Prop}
    (B : Below A₀ h₀ [] h₀) (F : Fr h₀ L s.heap m) (X : (Mine.hd.heap_39 w.params).In h₀) (N : News h₀ L s.heap news) (T : Top p loose mean mg mb h₀) (hk : cs.kind = .function)
    (hd : dp + d < recursionLimit) (hu : un + 8 * d < cLine)
    (hret : ∀ (v : Value) (tl : Led) (h' : Heap) (tk' : Nat), R v tl → Fr h₀ L h' m → News h₀ L h' (tl ++ news) → Q v { s with heap := h', toks := tk' }) :
    wpAny (model PySem.Challenge.rw_ah5005_01.row.prog w) (ktrTop dp un gd cn cs L a ccd cl []) (call (.ref f) vs) Q E s := C _ _ _ _ _ _ _ _ _ _ _ _ _ _ _ _ _ _ _ _ B F X N T hk hd hu hret
section
variable {prog : Program} {w : World} {A₀ A : Around} {s : Shared} {base h₀ : Heap} {env : Env} {L : Addr} {m : Str → Option Value} {news : List (Addr × Obj)} {K : Frag} {p : Program} {loose : List Str} {mean : ExcName → Option Value} {mg mb : Str → Option Value}
    {R : Result → Shared → Prop} {name qual : Str} {params : Arguments} {body : List Stmt} {scope : Scope} {dV kV doc pm cdv ct oc : Value} {an od : Option Addr} {osl : Array (Option Value)} {f : Addr} {args : Args} {binds : List (Str × Value)}
/-- the heap without the ledger is the ground of the called frame -/
theorem ground_of (B : Below A₀ base [] h₀) (F : Fr h₀ L s.heap m) (N : News h₀ L s.heap news) (hA : A.frames = some [env]) (hf : env.frame = some L) (hke : env.scope.kind = .function) :
    ∃ G : Heap, G = hideAll s.heap (news.map (·.1)) ∧ h₀.StaysIn G ∧ Below A base [env] G ∧ KtsDicts ([env].filterMap (·.frame)) G ∧
      ∃ oL es ep, G.get? L = some oL ∧ oL.data = .dict es ep ∧ ∀ (sl : Array (Option Value)) h', h'.get? L = some { oL with slots := sl } → Heap.Ns h' L m := by
  refine ⟨_, rfl, ?_⟩
  have out : ∀ b o, h₀.get? b = some o → b ∉ news.map (·.1) := by
    intro b o e hb
    obtain ⟨q, hq, rfl⟩ := List.mem_map.mp hb
    have := (N q hq).2.2
    rw [e] at this
    cases this
  have stay : h₀.StaysIn (hideAll s.heap (news.map (·.1))) := fun b o e => hideAll_get _ (F.keep b o e) (out b o e)
  have away : L ∉ news.map (·.1) := by
    intro hb
    obtain ⟨q, hq, e⟩ := List.mem_map.mp hb
    exact (N q hq).2.1 e
  obtain ⟨oL, es, ep, q1, q2, q3, q4⟩ := F.ns
  have here := hideAll_get (news.map (·.1)) q1 away
  have fresh : base.get? L = none := by
    rcases q : base.get? L with _ | o
    · rfl
    · exact absurd (Nat.lt_of_lt_of_le (Heap.lt_size (B.stays L o q)) F.above) (Nat.lt_irrefl _)
  refine ⟨stay, ⟨hA, fun b o e => stay b o (B.stays b o e), ?_⟩, ?_, oL, es, ep, here, q2, fun sl h' e => ⟨_, es, ep, e, q2, q3, q4⟩⟩
  · exact Heap.FunFrames.cons (by rw [hke]; decide) hf ⟨oL, es, ep, here, q2, q3, q4⟩ fresh trivial
  · intro b hb
    have e : b = L := by simpa [hf] using hb
    subst e
    exact ⟨oL, es, ep, here, q2⟩
theorem code_deep (B : Below A₀ base [] h₀) (F : Fr h₀ L s.heap m) (X₀ : K.In h₀) (N : News h₀ L s.heap news) (T : Top p loose mean mg mb h₀) (hA : A.frames = some [env]) (hf : env.frame = some L) (hke : env.scope.kind = .function)
    (ho : K.lookup f = some ⟨oc, od, .func (fnOf name qual params body scope dV kV doc pm an cdv ct), osl⟩) (hcd : codeIn K cdv qual = true) (hroom : A.depth < recursionLimit)
    (hbind : BindsTo s (fnOf name qual params body scope dV kV doc pm an cdv ct) args binds) (hloc : ∀ y ∈ binds, scope.names.lookup y.1 = some .local)
    (h : ∀ g L' h₁, Fr h₀ L g m → Fr g L' h₁ (fun y => binds.reverse.lookup y) → News g L' h₁ news → Below A base [env] g → K.In g → Top p loose mean mg mb g → KtsDicts ([env].filterMap (·.frame)) g →
      wpAny (model prog w) (A.deeper (envOf qual scope L' f cdv)) (execs body (envOf qual scope L' f cdv))
        (fun fl s' => LeaveS0 ([env].filterMap (·.frame)) h₀ L m g R (match fl with | .ret v => v | _ => .none) s')
        (fun e s' => wpAny (model prog w) (A.deeper (envOf qual scope L' f cdv)) (leaving (envOf qual scope L' f cdv) e) (fun _ s'' => R (.error e) s'') (fun e' s'' => R (.error e') s'') s')
        { s with heap := h₁, toks := s.toks + binds.length })
    (hco : scope.isCoroutine = false) (hgen : scope.isGenerator = false) (hk : scope.kind = .function)
    (hcell : ∀ x ∈ scope.names, x.2 ≠ .cell) : codeAny (model prog w) A (.call (.ref f) args) R s := by
  have X := X₀.keeps F.keep
  obtain ⟨G, hG, stay, below, dicts, oL, es, ep, here, isd, nsOf⟩ := ground_of B F N hA hf hke
  refine codeAny_call_def (fd := fnOf name qual params body scope dV kV doc pm an cdv ct) (body := body) (binds := binds) hroom (X _ _ ho) rfl (T.nolimit.keeps F.keep) (codeRec_of X hcd) rfl hbind hcell hloc (fun h₁ hns hk₁ => ?_) hco hgen hk
  have FG : Fr h₀ L G m := ⟨nsOf oL.slots G here, stay, F.above⟩
  have FL : Fr G s.heap.objs.size h₁ (fun y => binds.reverse.lookup y) := ⟨hns, fun b o e => hk₁ b o (of_hideAll _ (hG ▸ e)), Nat.le_of_eq (by rw [hG]; exact hideAll_size _ _)⟩
  have NL : News G s.heap.objs.size h₁ news := fun q hq => ⟨hk₁ _ _ (N q hq).1, Nat.ne_of_lt (Heap.lt_size (N q hq).1), by rw [hG]; exact hideAll_none _ (List.mem_map_of_mem hq)⟩
  refine wpAny_mono (h _ _ h₁ FG FL NL below (X₀.keeps stay) (T.keeps stay) dicts) (fun fl s' hl => ?_) fun _ _ y => y
  obtain ⟨g', L', m', news', T', F', N', k⟩ := hl
  have none₀ : h₀.get? L = none := kts_self F
  have mem : L ∈ [env].filterMap (·.frame) := by simp [hf]
  obtain ⟨sl, hs⟩ := T'.frame L oL here mem
  have keep0 : ∀ b o, h₀.get? b = some o → g'.get? b = some o := fun b o e => T'.other b o (stay b o e) fun q => by
    have e2 : b = L := by simpa [hf] using q
    rw [e2, none₀] at e
    cases e
  refine k ⟨nsOf sl _ (F'.keep _ _ hs), fun b o e => F'.keep b o (keep0 b o e), F.above⟩ fun q hq => ⟨(N' q hq).1, fun e => ?_, ?_⟩
  · have := (N' q hq).2.2
    rw [e, hs] at this
    cases this
  · rcases z : h₀.get? q.1 with _ | o
    · rfl
    · have := (N' q hq).2.2
      rw [keep0 _ _ z] at this
      cases this
end
end -- B9
section -- C15
local macro_rules | `(tactic| walk_at "pad 22") => `(tactic| skip)
local macro_rules | `(tactic| walk_at "pad 23") => `(tactic| skip)
local macro_rules | `(tactic| walk_at "pad 24") => `(tactic| skip)
local macro_rules | `(tactic| walk_at "pad 25") => `(tactic| skip)
local macro_rules | `(tactic| walk_at "pad 26") => `(tactic| skip)
local macro_rules | `(tactic| walk_at "pad 27") => `(tactic| skip)
local macro_rules | `(tactic| walk_at "pad 28") => `(tactic| skip)
local macro_rules | `(tactic| walk_at "pad 29") => `(tactic| skip)
local macro_rules | `(tactic| walk_at "pad 30") => `(tactic| skip)
open PySem.Builtin.Int (intBits)

local macro_rules | `(tactic| walk_at "binaryOp Add int int") => `(tactic| (k_here; (with_reducible refine add_int ?_); (try dsimp only)))
local macro_rules | `(tactic| walk_at "binaryOp Sub int int") => `(tactic| (k_here; (with_reducible refine sub_int ?_); (try dsimp only)))
local macro_rules | `(tactic| walk_at "binaryOp RShift int int") => `(tactic| (k_here; (with_reducible refine shr_rule (by omega) ?_); (try dsimp only)))
local macro_rules | `(tactic| walk_at "inplaceOp RShift int int") => `(tactic| (k_here; (with_reducible refine ishr_rule (by omega) ?_); (try dsimp only)))
local macro_rules | `(tactic| walk_at "binaryOp BitAnd int int") => `(tactic| (k_here; (with_reducible refine band_rule ?_); (try dsimp only)))
local macro_rules | `(tactic| walk_at "call builtin:int.bit_length") => `(tactic| (k_here; (with_reducible refine bl_rule ?_); (try dsimp only)))
local macro_rules | `(tactic| walk_at "compareOp Eq int int") => `(tactic| (k_here; (with_reducible refine eqb_rule ?_); (try dsimp only)))
local macro_rules | `(tactic| walk_at "truthy int") => `(tactic| (k_here; (with_reducible refine tru_rule ?_); (try dsimp only)))
local macro_rules | `(tactic| walk_at "ite") => `(tactic| (k_here; k_openite; first
  | (with_reducible refine ite_yes (by first | assumption | omega) ?_)
  | (with_reducible refine ite_no (by first | assumption | omega) ?_)
  | (with_reducible refine ite_nyes (by first | assumption | omega) ?_)
  | (with_reducible refine ite_nno (by first | assumption | omega) ?_)
  | ((with_reducible refine ite_split ?_ ?_) <;> intro _)
  | ((with_reducible refine ite_nsplit ?_ ?_) <;> intro _)
  | (with_reducible refine ite_pos (by assumption) ?_)
  | (with_reducible refine ite_isFalse (by assumption) ?_)
  | ((with_reducible refine ite_splitb ?_ ?_) <;> intro _)))
local macro_rules | `(tactic| walk_at "binaryOp LShift int int") => `(tactic| (k_here; (with_reducible refine shl_rule (by omega) (by first | omega | assumption) ?_); (try dsimp only)))
local macro_rules | `(tactic| k_mem) => `(tactic| first | with_reducible assumption | (refine' List.mem_cons_of_mem _ ?_; k_mem))

local macro_rules | `(tactic| walk_at "compareOp Eq str str") => `(tactic| (k_here; first | (with_reducible refine eq_n ?_) | (with_reducible refine eq_f ?_) | (with_reducible refine eq_c ?_) | (with_reducible refine eq_d ?_) | (with_reducible refine eq_u ?_)))
local macro_rules | `(tactic| walk_at "subscriptTail") => `(tactic| (k_here; first
  | ((with_reducible refine' sd_rule ?F ?X ?h ?_); (case F => k_asm); (case X => k_asm); (case h => with_reducible assumption); (try dsimp only))
  | ((with_reducible refine' sd2_rule ?F ?X ?h ?g ?_); (case F => k_asm); (case X => k_asm); (case h => with_reducible assumption); (case g => with_reducible assumption))
  | ((with_reducible refine' rec_rule ?F ?X ?_); (case F => k_asm); (case X => k_asm); (try dsimp only))))

local macro_rules | `(tactic| walk_at "binaryOp LShift int int") => `(tactic| (k_here; (with_reducible refine shl1_rule (by omega) (by omega) ?_); (try dsimp only)))
local macro_rules | `(tactic| walk_at "binaryOp BitXor int int") => `(tactic| (k_here; (with_reducible refine xor0_rule (by assumption) ?_); (try dsimp only)))
local macro_rules | `(tactic| walk_at "call builtin:divmod") => `(tactic| (k_here; (with_reducible refine' divmod_rule ?F ?N ?a ?b ?_); (case F => k_asm); (case N => k_asm); (case a => omega); (case b => omega); (intro h' D' F' N'; (try dsimp only); (try k_sweep))))

local macro_rules | `(tactic| walk_at "binaryOp Mult int int") => `(tactic| (k_here; (with_reducible refine mulb_rule (by assumption) (by assumption) (by decide) ?_); (try dsimp only)))
local macro_rules | `(tactic| walk_at "inplaceOp Pow int int") => `(tactic| (k_here; (with_reducible refine iipw_rule (by omega) (by omega) ?_); (try dsimp only)))
local macro_rules | `(tactic| walk_at "binaryOp FloorDiv int int") => `(tactic| (k_here; (with_reducible refine fdv_rule (by omega) (by decide) ?_); (try dsimp only)))
local macro_rules | `(tactic| walk_at "binaryOp Pow int int") => `(tactic| (k_here; (with_reducible refine pow2_rule (by omega) (by omega) ?_); (try dsimp only)))

set_option maxHeartbeats 4000000 in
theorem pown0_tells (w : World) (news : Led) (r : Rnd) (S : Addr) (sg man exp bc n prec : Int) (t1 t2 t3 t4 t5 t6 t7 : Tok) (hS : (S, I4 sg man exp bc t1 t2 t3 t4) ∈ news) (hm : 0 < man ∨ exp = 0) (hn : n = 0) :
    Tell w 91 news [.ref S, .int n t7, .int prec t5, .str r.str t6] 10 (fun v tl => v = .ref 23 ∧ tl = []) := by
  (try unfold Tup4); unfold Tell; k_fill
  intro p loose mean mg mb dp un gd cn cs a ccd cl outer A₀ base h₀ L m s Q E B F X N T hk hd hu hret
  w_top on
  refine wpAny_call ?_
  k_dflt (refine' code_def ?k1 ?k2 ?k3 ?k4 ?k5 ?kA ?kF ?kK ?k6 ?k7 ?k8 ?k9 ?kB ?_ ?c2 ?c3 ?c4 ?c5; (case kA => exact rfl); (case kF => exact rfl); (case kK => assumption); (case k1 => k_asm); (case k2 => k_asm); (case k3 => k_asm); (case k4 => k_asm); (case k5 => k_asm); (case k6 => k_is); (case k7 => k_is); (case k8 => ktr_room); (case k9 => first | exact BindsTo.of_eq rfl | exact binds_K (by k_in) rfl (by k_is) rfl rfl rfl); (case c5 => decide); (case kB => exact locs rfl); (case c2 => exact rfl); (case c3 => exact rfl); (case c4 => exact rfl); k_whole; intro g' L' h' FG' F' N' B' X' T'; (try dsimp only); (try k_lift B'); (try k_fold))

  k_steps
  all_goals first
    | exact hret _ [] _ _ ⟨rfl, rfl⟩ (by assumption) (by assumption)
    | (exfalso; omega)
set_option maxHeartbeats 4000000 in
theorem norm0z_tells (w : World) (news : Led) (r : Rnd) (sg man exp bc prec : Int) (t1 t2 t3 t4 t5 t6 : Tok) (hm : man = 0) :
    Tell w 38 news [.int sg t1, .int man t2, .int exp t3, .int bc t4, .int prec t5, .str r.str t6] 4 (fun v tl => v = .ref 22 ∧ tl = []) := by
  (try unfold Tup4); unfold Tell; k_fill
  intro p loose mean mg mb dp un gd cn cs a ccd cl outer A₀ base h₀ L m s Q E B F X N T hk hd hu hret
  w_top on
  refine wpAny_call ?_
  k_dflt (refine' code_def ?k1 ?k2 ?k3 ?k4 ?k5 ?kA ?kF ?kK ?k6 ?k7 ?k8 ?k9 ?kB ?_ ?c2 ?c3 ?c4 ?c5; (case kA => exact rfl); (case kF => exact rfl); (case kK => assumption); (case k1 => k_asm); (case k2 => k_asm); (case k3 => k_asm); (case k4 => k_asm); (case k5 => k_asm); (case k6 => k_is); (case k7 => k_is); (case k8 => ktr_room); (case k9 => first | exact BindsTo.of_eq rfl | exact binds_K (by k_in) rfl (by k_is) rfl rfl rfl); (case c5 => decide); (case kB => exact locs rfl); (case c2 => exact rfl); (case c3 => exact rfl); (case c4 => exact rfl); k_whole; intro g' L' h' FG' F' N' B' X' T'; (try dsimp only); (try k_lift B'); (try k_fold))

  k_steps
  all_goals first
    | exact hret _ [] _ _ ⟨rfl, rfl⟩ (by assumption) (by assumption)
    | (exfalso; omega)
section
local macro_rules | `(tactic| walk_at "call ref") => `(tactic| (k_here; (with_reducible show wpAny _ _ (call (Value.ref 38) [Value.int _ _, Value.int _ _, Value.int _ _, Value.int _ _, Value.int _ _, Value.str _ _]) _ _ _); (refine' Tell.use (norm0z_tells _ _ _ _ _ _ _ _ _ _ _ _ _ _ ?p1) ?k1 ?k2 ?k3 ?k4 ?k5 ?k6 ?k7 ?k8 ?_); (case k1 => k_asm); (case k2 => k_asm); (case k3 => k_asm); (case k4 => k_asm); (case k5 => k_asm); (case k6 => first | exact rfl | assumption); (case k7 => first | ktr_room | omega); (case k8 => first | ktr_units | omega); (case p1 => first | assumption | omega | decide); (intro v9 tl9 h9 tk9 R9 F9 N9; obtain ⟨ev9, et9⟩ := R9; subst ev9; subst et9; (try dsimp only [List.cons_append, List.nil_append] at N9); (try dsimp only); (try k_sweep); (try k_fold))))
set_option maxHeartbeats 4000000 in
theorem normz_tells (w : World) (news : Led) (r : Rnd) (sg man exp bc prec : Int) (t1 t2 t3 t4 t5 t6 : Tok) (hm : man = 0) (hbc : bc = intBits man) :
    Tell w 45 news [.int sg t1, .int man t2, .int exp t3, .int bc t4, .int prec t5, .str r.str t6] 5 (fun v tl => v = .ref 22 ∧ tl = []) := by
  (try unfold Tup4); unfold Tell; k_fill
  intro p loose mean mg mb dp un gd cn cs a ccd cl outer A₀ base h₀ L m s Q E B F X N T hk hd hu hret
  w_top on
  refine wpAny_call ?_
  k_dflt (refine' code_def ?k1 ?k2 ?k3 ?k4 ?k5 ?kA ?kF ?kK ?k6 ?k7 ?k8 ?k9 ?kB ?_ ?c2 ?c3 ?c4 ?c5; (case kA => exact rfl); (case kF => exact rfl); (case kK => assumption); (case k1 => k_asm); (case k2 => k_asm); (case k3 => k_asm); (case k4 => k_asm); (case k5 => k_asm); (case k6 => k_is); (case k7 => k_is); (case k8 => ktr_room); (case k9 => first | exact BindsTo.of_eq rfl | exact binds_K (by k_in) rfl (by k_is) rfl rfl rfl); (case c5 => decide); (case kB => exact locs rfl); (case c2 => exact rfl); (case c3 => exact rfl); (case c4 => exact rfl); k_whole; intro g' L' h' FG' F' N' B' X' T'; (try dsimp only); (try k_lift B'); (try k_fold))

  k_steps
  all_goals first
    | exact hret _ [] _ _ ⟨rfl, rfl⟩ (by assumption) (by assumption)
    | (exfalso; omega)
end
section
local macro_rules | `(tactic| walk_at "call ref") => `(tactic| (k_here; (with_reducible show wpAny _ _ (call (Value.ref 45) [Value.int _ _, Value.int _ _, Value.int _ _, Value.int _ _, Value.int _ _, Value.str _ _]) _ _ _); (refine' Tell.use (normz_tells _ _ _ _ _ _ _ _ _ _ _ _ _ _ ?p1 ?p2) ?k1 ?k2 ?k3 ?k4 ?k5 ?k6 ?k7 ?k8 ?_); (case k1 => k_asm); (case k2 => k_asm); (case k3 => k_asm); (case k4 => k_asm); (case k5 => k_asm); (case k6 => first | exact rfl | assumption); (case k7 => first | ktr_room | omega); (case k8 => first | ktr_units | omega); (case p1 => first | assumption | omega | decide); (case p2 => first | assumption | omega | decide); (intro v9 tl9 h9 tk9 R9 F9 N9; obtain ⟨ev9, et9⟩ := R9; subst ev9; subst et9; (try dsimp only [List.cons_append, List.nil_append] at N9); (try dsimp only); (try k_sweep); (try k_fold))))
theorem bits_z : ((0 : Nat) : Int) = intBits 0 := by decide
set_option maxHeartbeats 4000000 in
theorem posz_tells (w : World) (news : Led) (r : Rnd) (S : Addr) (sg prec : Int) (t1 t2 t3 t4 t5 t6 : Tok) (hS : (S, I4 sg 0 0 0 t1 t2 t3 t4) ∈ news) (hp : 1 ≤ prec) :
    Tell w 53 news [.ref S, .int prec t5, .str r.str t6] 6 (fun v tl => v = .ref 22 ∧ tl = []) := by
  (try unfold Tup4); unfold Tell; k_fill
  intro p loose mean mg mb dp un gd cn cs a ccd cl outer A₀ base h₀ L m s Q E B F X N T hk hd hu hret
  w_top on
  refine wpAny_call ?_
  k_dflt (refine' code_def ?k1 ?k2 ?k3 ?k4 ?k5 ?kA ?kF ?kK ?k6 ?k7 ?k8 ?k9 ?kB ?_ ?c2 ?c3 ?c4 ?c5; (case kA => exact rfl); (case kF => exact rfl); (case kK => assumption); (case k1 => k_asm); (case k2 => k_asm); (case k3 => k_asm); (case k4 => k_asm); (case k5 => k_asm); (case k6 => k_is); (case k7 => k_is); (case k8 => ktr_room); (case k9 => first | exact BindsTo.of_eq rfl | exact binds_K (by k_in) rfl (by k_is) rfl rfl rfl); (case c5 => decide); (case kB => exact locs rfl); (case c2 => exact rfl); (case c3 => exact rfl); (case c4 => exact rfl); k_whole; intro g' L' h' FG' F' N' B' X' T'; (try dsimp only); (try k_lift B'); (try k_fold))

  have hz : (0 : Int) = intBits 0 := by decide
  k_steps
  walk_at "call ref"
  k_steps
  all_goals first
    | exact hret _ [] _ _ ⟨rfl, rfl⟩ (by assumption) (by assumption)
    | (exfalso; omega)
local macro_rules | `(tactic| walk_at "call ref") => `(tactic| (k_here; (with_reducible show wpAny _ _ (call (Value.ref 53) [Value.ref _, Value.int _ _, Value.str _ _]) _ _ _); (refine' Tell.use (posz_tells _ _ _ _ _ _ _ _ _ _ _ _ ?p0 ?p1) ?k1 ?k2 ?k3 ?k4 ?k5 ?k6 ?k7 ?k8 ?_); (case k1 => k_asm); (case k2 => k_asm); (case k3 => k_asm); (case k4 => k_asm); (case k5 => k_asm); (case k6 => first | exact rfl | assumption); (case k7 => first | ktr_room | omega); (case k8 => first | ktr_units | omega); (case p0 => first | with_reducible assumption | k_mem | assumption); (case p1 => first | assumption | omega | decide); (intro v9 tl9 h9 tk9 R9 F9 N9; obtain ⟨ev9, et9⟩ := R9; subst ev9; subst et9; (try dsimp only [List.cons_append, List.nil_append] at N9); (try dsimp only); (try k_sweep); (try k_fold))))
set_option maxHeartbeats 4000000 in
theorem pow0_tells (w : World) (news : Led) (r : Rnd) (S : Addr) (sg n prec : Int) (t1 t2 t3 t4 t5 t6 t7 : Tok) (hS : (S, I4 sg 0 0 0 t1 t2 t3 t4) ∈ news) (hn : 1 ≤ n) (hn2 : n ≤ 60) (hp : 1 ≤ prec) :
    Tell w 91 news [.ref S, .int n t7, .int prec t5, .str r.str t6] 20 (fun v tl => v = .ref 22 ∧ tl = []) := by
  (try unfold Tup4); unfold Tell; k_fill
  intro p loose mean mg mb dp un gd cn cs a ccd cl outer A₀ base h₀ L m s Q E B F X N T hk hd hu hret
  w_top on
  refine wpAny_call ?_
  k_dflt (refine' code_def ?k1 ?k2 ?k3 ?k4 ?k5 ?kA ?kF ?kK ?k6 ?k7 ?k8 ?k9 ?kB ?_ ?c2 ?c3 ?c4 ?c5; (case kA => exact rfl); (case kF => exact rfl); (case kK => assumption); (case k1 => k_asm); (case k2 => k_asm); (case k3 => k_asm); (case k4 => k_asm); (case k5 => k_asm); (case k6 => k_is); (case k7 => k_is); (case k8 => ktr_room); (case k9 => first | exact BindsTo.of_eq rfl | exact binds_K (by k_in) rfl (by k_is) rfl rfl rfl); (case c5 => decide); (case kB => exact locs rfl); (case c2 => exact rfl); (case c3 => exact rfl); (case c4 => exact rfl); k_whole; intro g' L' h' FG' F' N' B' X' T'; (try dsimp only); (try k_lift B'); (try k_fold))

  have hz : (0 : Int) ^ n.toNat = 0 := Int.zero_pow (by omega)
  k_steps
  all_goals first
    | exact hret _ [] _ _ ⟨rfl, rfl⟩ (by assumption) (by assumption)
    | (exfalso; omega)
end
end -- C15
section -- C16
local macro_rules | `(tactic| walk_at "pad 21") => `(tactic| skip)
local macro_rules | `(tactic| walk_at "pad 22") => `(tactic| skip)
local macro_rules | `(tactic| walk_at "pad 23") => `(tactic| skip)
local macro_rules | `(tactic| walk_at "pad 24") => `(tactic| skip)
local macro_rules | `(tactic| walk_at "pad 25") => `(tactic| skip)
local macro_rules | `(tactic| walk_at "pad 26") => `(tactic| skip)
local macro_rules | `(tactic| walk_at "pad 27") => `(tactic| skip)
local macro_rules | `(tactic| walk_at "pad 28") => `(tactic| skip)
local macro_rules | `(tactic| walk_at "pad 29") => `(tactic| skip)
local macro_rules | `(tactic| walk_at "pad 30") => `(tactic| skip)
local macro_rules | `(tactic| walk_at "pad 31") => `(tactic| skip)
open PySem.Builtin.Int (intBits)

local macro_rules | `(tactic| walk_at "binaryOp Add int int") => `(tactic| (k_here; (with_reducible refine add_int ?_); (try dsimp only)))
local macro_rules | `(tactic| walk_at "binaryOp Sub int int") => `(tactic| (k_here; (with_reducible refine sub_int ?_); (try dsimp only)))
local macro_rules | `(tactic| walk_at "binaryOp RShift int int") => `(tactic| (k_here; (with_reducible refine shr_rule (by omega) ?_); (try dsimp only)))
local macro_rules | `(tactic| walk_at "inplaceOp RShift int int") => `(tactic| (k_here; (with_reducible refine ishr_rule (by omega) ?_); (try dsimp only)))
local macro_rules | `(tactic| walk_at "binaryOp BitAnd int int") => `(tactic| (k_here; (with_reducible refine band_rule ?_); (try dsimp only)))
local macro_rules | `(tactic| walk_at "call builtin:int.bit_length") => `(tactic| (k_here; (with_reducible refine bl_rule ?_); (try dsimp only)))
local macro_rules | `(tactic| walk_at "compareOp Eq int int") => `(tactic| (k_here; (with_reducible refine eqb_rule ?_); (try dsimp only)))
local macro_rules | `(tactic| walk_at "truthy int") => `(tactic| (k_here; (with_reducible refine tru_rule ?_); (try dsimp only)))
local macro_rules | `(tactic| walk_at "ite") => `(tactic| (k_here; k_openite; first
  | (with_reducible refine ite_yes (by first | assumption | omega) ?_)
  | (with_reducible refine ite_no (by first | assumption | omega) ?_)
  | (with_reducible refine ite_nyes (by first | assumption | omega) ?_)
  | (with_reducible refine ite_nno (by first | assumption | omega) ?_)
  | ((with_reducible refine ite_split ?_ ?_) <;> intro _)
  | ((with_reducible refine ite_nsplit ?_ ?_) <;> intro _)
  | (with_reducible refine ite_pos (by assumption) ?_)
  | (with_reducible refine ite_isFalse (by assumption) ?_)
  | ((with_reducible refine ite_splitb ?_ ?_) <;> intro _)))
local macro_rules | `(tactic| walk_at "binaryOp LShift int int") => `(tactic| (k_here; (with_reducible refine shl_rule (by omega) (by first | omega | assumption) ?_); (try dsimp only)))
local macro_rules | `(tactic| k_mem) => `(tactic| first | with_reducible assumption | (refine' List.mem_cons_of_mem _ ?_; k_mem))

local macro_rules | `(tactic| walk_at "compareOp Eq str str") => `(tactic| (k_here; first | (with_reducible refine eq_n ?_) | (with_reducible refine eq_f ?_) | (with_reducible refine eq_c ?_) | (with_reducible refine eq_d ?_) | (with_reducible refine eq_u ?_)))
local macro_rules | `(tactic| walk_at "subscriptTail") => `(tactic| (k_here; first
  | ((with_reducible refine' sd_rule ?F ?X ?h ?_); (case F => k_asm); (case X => k_asm); (case h => with_reducible assumption); (try dsimp only))
  | ((with_reducible refine' sd2_rule ?F ?X ?h ?g ?_); (case F => k_asm); (case X => k_asm); (case h => with_reducible assumption); (case g => with_reducible assumption))
  | ((with_reducible refine' rec_rule ?F ?X ?_); (case F => k_asm); (case X => k_asm); (try dsimp only))))

local macro_rules | `(tactic| walk_at "binaryOp LShift int int") => `(tactic| (k_here; (with_reducible refine shl1_rule (by omega) (by omega) ?_); (try dsimp only)))
local macro_rules | `(tactic| walk_at "binaryOp BitXor int int") => `(tactic| (k_here; (with_reducible refine xor0_rule (by assumption) ?_); (try dsimp only)))
local macro_rules | `(tactic| walk_at "call builtin:divmod") => `(tactic| (k_here; (with_reducible refine' divmod_rule ?F ?N ?a ?b ?_); (case F => k_asm); (case N => k_asm); (case a => omega); (case b => omega); (intro h' D' F' N'; (try dsimp only); (try k_sweep))))

local macro_rules | `(tactic| walk_at "binaryOp Mult int int") => `(tactic| (k_here; (with_reducible refine mulb_rule (by assumption) (by assumption) (by decide) ?_); (try dsimp only)))
local macro_rules | `(tactic| walk_at "inplaceOp Pow int int") => `(tactic| (k_here; (with_reducible refine iipw_rule (by omega) (by omega) ?_); (try dsimp only)))
local macro_rules | `(tactic| walk_at "binaryOp FloorDiv int int") => `(tactic| (k_here; (with_reducible refine fdv_rule (by omega) (by decide) ?_); (try dsimp only)))
local macro_rules | `(tactic| walk_at "binaryOp Pow int int") => `(tactic| (k_here; (with_reducible refine pow2_rule (by omega) (by omega) ?_); (try dsimp only)))

theorem PowOK.bits9 {r : Rnd} {sg man exp n prec m' e' b' : Int} (h : PowOK r sg man exp n prec m' e' b') : b' = intBits m' := by
  obtain ⟨pm, pe, _, _, h⟩ := h.near
  exact h.bits
theorem PowOK.pos9 {r : Rnd} {sg man exp n prec m' e' b' : Int} (h : PowOK r sg man exp n prec m' e' b') : 0 < m' := by
  obtain ⟨pm, pe, _, _, h⟩ := h.near
  exact h.pos
theorem PowOK.le9 {r : Rnd} {sg man exp n prec m' e' b' : Int} (h : PowOK r sg man exp n prec m' e' b') : (intBits m' : Int) ≤ prec := by
  have e := h.bits9
  obtain ⟨pm, pe, _, _, h⟩ := h.near
  rw [← e]; exact h.le
section
local macro_rules | `(tactic| walk_at "call ref") => `(tactic| (k_here; (with_reducible show wpAny _ _ (call (Value.ref 82) [Value.ref _, Value.ref _, Value.int _ _, Value.str _ _]) _ _ _); (refine' Tell.use (div_tells _ _ _ _ _ _ _ _ _ _ _ _ _ _ ?p0 ?p1 ?p2 ?p3 ?p4 ?p5) ?k1 ?k2 ?k3 ?k4 ?k5 ?k6 ?k7 ?k8 ?_); (case k1 => k_asm); (case k2 => k_asm); (case k3 => k_asm); (case k4 => k_asm); (case k5 => k_asm); (case k6 => first | exact rfl | assumption); (case k7 => first | ktr_room | omega); (case k8 => first | ktr_units | omega); (case p0 => first | with_reducible assumption | k_mem | assumption); (case p1 => first | assumption | omega | decide); (case p2 => first | assumption | omega | decide); (case p3 => first | assumption | omega | decide); (case p4 => first | assumption | omega | decide); (case p5 => first | assumption | omega | decide); (intro v9 tl9 h9 tk9 R9 F9 N9; obtain ⟨D9, m9, e9, b9, ta9, tb9, tc9, td9, ev9, et9, H9⟩ := R9; subst ev9; subst et9; (try dsimp only [List.cons_append, List.nil_append] at N9); (try dsimp only); (try k_sweep); (try k_fold))))
set_option maxHeartbeats 4000000 in
theorem inv_tells (w : World) (news : Led) (r : Rnd) (S : Addr) (sg man exp n prec : Int) (t1 t2 t3 t4 t5 t6 t7 : Tok) (hS : (S, I4 sg man exp (intBits man) t1 t2 t3 t4) ∈ news) (hs : sg = 0 ∨ sg = 1) (hm : 0 < man) (hp : 1 ≤ prec) (hb : intBits man ≤ 1000) (hp2 : prec ≤ 1000) (hn : n = -1) :
    Tup4 w 91 news [.ref S, .int n t7, .int prec t5, .str r.str t6] 20 sg (fun m' e' b' => ∃ q x, DivRel man exp prec q x ∧ NormOK r sg q x prec m' e' b') := by
  (try unfold Tup4); unfold Tell; k_fill
  intro p loose mean mg mb dp un gd cn cs a ccd cl outer A₀ base h₀ L m s Q E B F X N T hk hd hu hret
  w_top on
  refine wpAny_call ?_
  k_dflt (refine' code_def ?k1 ?k2 ?k3 ?k4 ?k5 ?kA ?kF ?kK ?k6 ?k7 ?k8 ?k9 ?kB ?_ ?c2 ?c3 ?c4 ?c5; (case kA => exact rfl); (case kF => exact rfl); (case kK => assumption); (case k1 => k_asm); (case k2 => k_asm); (case k3 => k_asm); (case k4 => k_asm); (case k5 => k_asm); (case k6 => k_is); (case k7 => k_is); (case k8 => ktr_room); (case k9 => first | exact BindsTo.of_eq rfl | exact binds_K (by k_in) rfl (by k_is) rfl rfl rfl); (case c5 => decide); (case kB => exact locs rfl); (case c2 => exact rfl); (case c3 => exact rfl); (case c4 => exact rfl); k_whole; intro g' L' h' FG' F' N' B' X' T'; (try dsimp only); (try k_lift B'); (try k_fold))

  k_steps
  all_goals first
    | (exfalso; omega)
    | (refine done4 hret (by assumption) (by assumption) ?_; assumption)
local macro_rules | `(tactic| walk_at "call ref") => `(tactic| (k_here; (with_reducible show wpAny _ _ (call (Value.ref 91) [Value.ref _, Value.int _ _, Value.int _ _, Value.str _ _]) _ _ _); (refine' Tell.use (pow_tells _ _ _ _ _ _ _ _ _ _ _ _ _ _ _ _ ?p0 ?p1 ?p2 ?p3 ?p4 ?p5 ?p6 ?p7 ?p8) ?k1 ?k2 ?k3 ?k4 ?k5 ?k6 ?k7 ?k8 ?_); (case k1 => k_asm); (case k2 => k_asm); (case k3 => k_asm); (case k4 => k_asm); (case k5 => k_asm); (case k6 => first | exact rfl | assumption); (case k7 => first | ktr_room | omega); (case k8 => first | ktr_units | omega); (case p0 => first | with_reducible assumption | k_mem | assumption); (case p1 => first | assumption | omega | decide); (case p2 => first | assumption | omega | decide); (case p3 => first | assumption | omega | decide); (case p4 => first | assumption | omega | decide); (case p5 => first | assumption | omega | decide); (case p6 => first | assumption | omega | decide); (case p7 => first | assumption | omega | decide); (case p8 => first | assumption | omega | decide); (intro v9 tl9 h9 tk9 R9 F9 N9; obtain ⟨D9, m9, e9, b9, ta9, tb9, tc9, td9, ev9, et9, H9⟩ := R9; subst ev9; subst et9; (have eb9 := PowOK.bits9 H9); subst eb9; (have hm9 := PowOK.pos9 H9); (have hl9 := PowOK.le9 H9); (try dsimp only [List.cons_append, List.nil_append] at N9); (try dsimp only); (try k_sweep); (try k_fold))))
set_option maxHeartbeats 4000000 in
theorem powneg_tells (w : World) (news : Led) (r : Rnd) (S : Addr) (sg man exp n prec : Int) (t1 t2 t3 t4 t5 t6 t7 : Tok) (hS : (S, I4 sg man exp (intBits man) t1 t2 t3 t4) ∈ news) (hs : sg = 0 ∨ sg = 1) (hm : 0 < man) (hp : 1 ≤ prec) (hb : intBits man ≤ 60) (hp2 : prec ≤ 90) (hn : n < -1) (hn2 : -40 ≤ n)
    (hdown : (intBits man : Int) * (-n) < 1000 ∨ -n < 3 ∨ man = 1 ∨ r.rec0.is .n = true ∨ r.rec0.sd (band sg (-n)) ≠ 0) :
    Tup4 w 91 news [.ref S, .int n t7, .int prec t5, .str r.str t6] 30 (band sg (-n)) (fun m' e' b' => ∃ mi ei bi, PowOK r.rec0 (band sg (-n)) man exp (-n) (prec + 5) mi ei bi ∧ ∃ q x, DivRel mi ei prec q x ∧ NormOK r (band sg (-n)) q x prec m' e' b') := by
  (try unfold Tup4); unfold Tell; k_fill
  intro p loose mean mg mb dp un gd cn cs a ccd cl outer A₀ base h₀ L m s Q E B F X N T hk hd hu hret
  w_top on
  refine wpAny_call ?_
  k_dflt (refine' code_def ?k1 ?k2 ?k3 ?k4 ?k5 ?kA ?kF ?kK ?k6 ?k7 ?k8 ?k9 ?kB ?_ ?c2 ?c3 ?c4 ?c5; (case kA => exact rfl); (case kF => exact rfl); (case kK => assumption); (case k1 => k_asm); (case k2 => k_asm); (case k3 => k_asm); (case k4 => k_asm); (case k5 => k_asm); (case k6 => k_is); (case k7 => k_is); (case k8 => ktr_room); (case k9 => first | exact BindsTo.of_eq rfl | exact binds_K (by k_in) rfl (by k_is) rfl rfl rfl); (case c5 => decide); (case kB => exact locs rfl); (case c2 => exact rfl); (case c3 => exact rfl); (case c4 => exact rfl); k_whole; intro g' L' h' FG' F' N' B' X' T'; (try dsimp only); (try k_lift B'); (try k_fold))

  have hsn : band sg (-n) = 0 ∨ band sg (-n) = 1 := band_01 hs
  k_steps
  all_goals first
    | (exfalso; omega)
    | (refine' done4s hret (by assumption) (by assumption) (.head _) in2 ?_; exact ⟨_, _, _, by assumption, by assumption⟩)
end
end -- C16
section -- C17
local macro_rules | `(tactic| walk_at "pad 18") => `(tactic| skip)
local macro_rules | `(tactic| walk_at "pad 19") => `(tactic| skip)
local macro_rules | `(tactic| walk_at "pad 20") => `(tactic| skip)
local macro_rules | `(tactic| walk_at "pad 21") => `(tactic| skip)
local macro_rules | `(tactic| walk_at "pad 22") => `(tactic| skip)
local macro_rules | `(tactic| walk_at "pad 23") => `(tactic| skip)
local macro_rules | `(tactic| walk_at "pad 24") => `(tactic| skip)
local macro_rules | `(tactic| walk_at "pad 25") => `(tactic| skip)
local macro_rules | `(tactic| walk_at "pad 26") => `(tactic| skip)
local macro_rules | `(tactic| walk_at "pad 27") => `(tactic| skip)
local macro_rules | `(tactic| walk_at "pad 28") => `(tactic| skip)
local macro_rules | `(tactic| walk_at "pad 29") => `(tactic| skip)
local macro_rules | `(tactic| walk_at "pad 30") => `(tactic| skip)
local macro_rules | `(tactic| walk_at "pad 31") => `(tactic| skip)
local macro_rules | `(tactic| walk_at "pad 32") => `(tactic| skip)
open PySem.Builtin.Int (intBits)

local macro_rules | `(tactic| walk_at "binaryOp Add int int") => `(tactic| (k_here; (with_reducible refine add_int ?_); (try dsimp only)))
local macro_rules | `(tactic| walk_at "binaryOp Sub int int") => `(tactic| (k_here; (with_reducible refine sub_int ?_); (try dsimp only)))
local macro_rules | `(tactic| walk_at "binaryOp RShift int int") => `(tactic| (k_here; (with_reducible refine shr_rule (by omega) ?_); (try dsimp only)))
local macro_rules | `(tactic| walk_at "inplaceOp RShift int int") => `(tactic| (k_here; (with_reducible refine ishr_rule (by omega) ?_); (try dsimp only)))
local macro_rules | `(tactic| walk_at "binaryOp BitAnd int int") => `(tactic| (k_here; (with_reducible refine band_rule ?_); (try dsimp only)))
local macro_rules | `(tactic| walk_at "call builtin:int.bit_length") => `(tactic| (k_here; (with_reducible refine bl_rule ?_); (try dsimp only)))
local macro_rules | `(tactic| walk_at "compareOp Eq int int") => `(tactic| (k_here; (with_reducible refine eqb_rule ?_); (try dsimp only)))
local macro_rules | `(tactic| walk_at "truthy int") => `(tactic| (k_here; (with_reducible refine tru_rule ?_); (try dsimp only)))
local macro_rules | `(tactic| walk_at "ite") => `(tactic| (k_here; k_openite; first
  | (with_reducible refine ite_yes (by first | assumption | omega) ?_)
  | (with_reducible refine ite_no (by first | assumption | omega) ?_)
  | (with_reducible refine ite_nyes (by first | assumption | omega) ?_)
  | (with_reducible refine ite_nno (by first | assumption | omega) ?_)
  | ((with_reducible refine ite_split ?_ ?_) <;> intro _)
  | ((with_reducible refine ite_nsplit ?_ ?_) <;> intro _)
  | (with_reducible refine ite_pos (by assumption) ?_)
  | (with_reducible refine ite_isFalse (by assumption) ?_)
  | ((with_reducible refine ite_splitb ?_ ?_) <;> intro _)))
local macro_rules | `(tactic| walk_at "binaryOp LShift int int") => `(tactic| (k_here; (with_reducible refine shl_rule (by omega) (by first | omega | assumption) ?_); (try dsimp only)))
local macro_rules | `(tactic| k_mem) => `(tactic| first | with_reducible assumption | (refine' List.mem_cons_of_mem _ ?_; k_mem))

local macro_rules | `(tactic| walk_at "compareOp Eq str str") => `(tactic| (k_here; first | (with_reducible refine eq_n ?_) | (with_reducible refine eq_f ?_) | (with_reducible refine eq_c ?_) | (with_reducible refine eq_d ?_) | (with_reducible refine eq_u ?_)))
local macro_rules | `(tactic| walk_at "subscriptTail") => `(tactic| (k_here; first
  | ((with_reducible refine' sd_rule ?F ?X ?h ?_); (case F => k_asm); (case X => k_asm); (case h => with_reducible assumption); (try dsimp only))
  | ((with_reducible refine' sd2_rule ?F ?X ?h ?g ?_); (case F => k_asm); (case X => k_asm); (case h => with_reducible assumption); (case g => with_reducible assumption))
  | ((with_reducible refine' rec_rule ?F ?X ?_); (case F => k_asm); (case X => k_asm); (try dsimp only))))

local macro_rules | `(tactic| walk_at "binaryOp LShift int int") => `(tactic| (k_here; (with_reducible refine shl1_rule (by omega) (by omega) ?_); (try dsimp only)))
local macro_rules | `(tactic| walk_at "binaryOp BitXor int int") => `(tactic| (k_here; (with_reducible refine xor0_rule (by assumption) ?_); (try dsimp only)))
local macro_rules | `(tactic| walk_at "call builtin:divmod") => `(tactic| (k_here; (with_reducible refine' divmod_rule ?F ?N ?a ?b ?_); (case F => k_asm); (case N => k_asm); (case a => omega); (case b => omega); (intro h' D' F' N'; (try dsimp only); (try k_sweep))))

local macro_rules | `(tactic| walk_at "compareOp Eq ref ref") => `(tactic| (k_here; first
  | ((with_reducible show wpAny _ _ (compareOp _ _ (Value.ref 22)) _ _ _); k_dflt ((refine' eqR22 ?F ?X ?h1 ?h3 ?_); (case F => k_asm); (case X => k_asm); (case h1 => exact News.get (by k_asm) (by k_mem)); (case h3 => first | ktr_units | omega)))
  | ((with_reducible show wpAny _ _ (compareOp _ (Value.ref 22) _) _ _ _); k_dflt ((refine' eqL22 ?F ?X ?h1 ?h3 ?_); (case F => k_asm); (case X => k_asm); (case h1 => exact News.get (by k_asm) (by k_mem)); (case h3 => first | ktr_units | omega)))
  | ((with_reducible show wpAny _ _ (compareOp _ (Value.ref 23) _) _ _ _); k_dflt ((refine' eqL23 ?F ?X ?h1 ?h3 ?_); (case F => k_asm); (case X => k_asm); (case h1 => exact News.get (by k_asm) (by k_mem)); (case h3 => first | ktr_units | omega)))))
local macro_rules | `(tactic| walk_at "compareOp Eq ref ref") => `(tactic| (k_here; first
  | ((with_reducible show wpAny _ _ (compareOp _ (Value.ref 23) (Value.ref 22)) _ _ _); k_dflt ((refine' eqTT (at23 ?F ?X) (at22 ?F2 ?X2) ?h3 ?_); (case F => k_asm); (case X => k_asm); (case F2 => k_asm); (case X2 => k_asm); (case h3 => first | ktr_units | omega)))
  | ((with_reducible show wpAny _ _ (compareOp _ (Value.ref 22) (Value.ref 22)) _ _ _); k_dflt ((refine' eqTT (at22 ?F ?X) (at22 ?F2 ?X2) ?h3 ?_); (case F => k_asm); (case X => k_asm); (case F2 => k_asm); (case X2 => k_asm); (case h3 => first | ktr_units | omega)))))

set_option maxHeartbeats 4000000 in
theorem frexp0_tells (w : World) (news : Led) (S : Addr) (t1 t2 t3 t4 : Tok) (hS : (S, I4 0 0 0 0 t1 t2 t3 t4) ∈ news) :
    Tell w 74 news [.ref S] 12 (fun v tl => ∃ D2 te c, v = .ref D2 ∧ tl = [(D2, { cls := .type "tuple", data := .seq #[.ref 22, .int 0 te] c})]) := by
  (try unfold Tup4); unfold Tell; k_fill
  intro p loose mean mg mb dp un gd cn cs a ccd cl outer A₀ base h₀ L m s Q E B F X N T hk hd hu hret
  w_top on
  refine wpAny_call ?_
  k_dflt (refine' code_def ?k1 ?k2 ?k3 ?k4 ?k5 ?kA ?kF ?kK ?k6 ?k7 ?k8 ?k9 ?kB ?_ ?c2 ?c3 ?c4 ?c5; (case kA => exact rfl); (case kF => exact rfl); (case kK => assumption); (case k1 => k_asm); (case k2 => k_asm); (case k3 => k_asm); (case k4 => k_asm); (case k5 => k_asm); (case k6 => k_is); (case k7 => k_is); (case k8 => ktr_room); (case k9 => first | exact BindsTo.of_eq rfl | exact binds_K (by k_in) rfl (by k_is) rfl rfl rfl); (case c5 => decide); (case kB => exact locs rfl); (case c2 => exact rfl); (case c3 => exact rfl); (case c4 => exact rfl); k_whole; intro g' L' h' FG' F' N' B' X' T'; (try dsimp only); (try k_lift B'); (try k_fold))

  k_steps
  all_goals first
    | exact hret _ [_] _ _ ⟨_, _, _, rfl, rfl⟩ (by assumption) (by assumption)
    | (exfalso; simp_all; done)
local macro_rules | `(tactic| walk_at "call ref") => `(tactic| (k_here; (with_reducible show wpAny _ _ (call (Value.ref 74) [Value.ref _]) _ _ _); (refine' Tell.use (frexp0_tells _ _ _ _ _ _ _ ?p0) ?k1 ?k2 ?k3 ?k4 ?k5 ?k6 ?k7 ?k8 ?_); (case k1 => k_asm); (case k2 => k_asm); (case k3 => k_asm); (case k4 => k_asm); (case k5 => k_asm); (case k6 => first | exact rfl | assumption); (case k7 => first | ktr_room | omega); (case k8 => first | ktr_units | omega); (case p0 => first | with_reducible assumption | k_mem | assumption); (intro v9 tl9 h9 tk9 R9 F9 N9; obtain ⟨D9, te9, c9, ev9, et9⟩ := R9; subst ev9; subst et9; (try dsimp only [List.cons_append, List.nil_append] at N9); (try dsimp only); (try k_sweep); (try k_fold))))
set_option maxHeartbeats 4000000 in
theorem parted0_tells (w : World) (news : Led) (S : Addr) (t1 t2 t3 t4 : Tok) (hS : (S, I4 0 0 0 0 t1 t2 t3 t4) ∈ news) :
    Tell w 140 news [.ref S] 30 (fun v tl => v = .bool true ∧ tl = []) := by
  (try unfold Tup4); unfold Tell; k_fill
  intro p loose mean mg mb dp un gd cn cs a ccd cl outer A₀ base h₀ L m s Q E B F X N T hk hd hu hret
  w_top on
  refine wpAny_call ?_
  k_dflt (refine' code_def ?k1 ?k2 ?k3 ?k4 ?k5 ?kA ?kF ?kK ?k6 ?k7 ?k8 ?k9 ?kB ?_ ?c2 ?c3 ?c4 ?c5; (case kA => exact rfl); (case kF => exact rfl); (case kK => assumption); (case k1 => k_asm); (case k2 => k_asm); (case k3 => k_asm); (case k4 => k_asm); (case k5 => k_asm); (case k6 => k_is); (case k7 => k_is); (case k8 => ktr_room); (case k9 => first | exact BindsTo.of_eq rfl | exact binds_K (by k_in) rfl (by k_is) rfl rfl rfl); (case c5 => decide); (case kB => exact locs rfl); (case c2 => exact rfl); (case c3 => exact rfl); (case c4 => exact rfl); k_whole; intro g' L' h' FG' F' N' B' X' T'; (try dsimp only); (try k_lift B'); (try k_fold))

  k_steps
  all_goals first
    | exact hret _ [] _ _ ⟨rfl, rfl⟩ (by assumption) (cb_drop (by assumption) (by intro p hp; repeat (first | exact hp | refine List.mem_cons_of_mem _ ?_)))
    | (exfalso; simp_all; done)
end -- C17
section -- C18
local macro_rules | `(tactic| walk_at "pad 18") => `(tactic| skip)
local macro_rules | `(tactic| walk_at "pad 19") => `(tactic| skip)
local macro_rules | `(tactic| walk_at "pad 20") => `(tactic| skip)
local macro_rules | `(tactic| walk_at "pad 21") => `(tactic| skip)
local macro_rules | `(tactic| walk_at "pad 22") => `(tactic| skip)
local macro_rules | `(tactic| walk_at "pad 23") => `(tactic| skip)
local macro_rules | `(tactic| walk_at "pad 24") => `(tactic| skip)
local macro_rules | `(tactic| walk_at "pad 25") => `(tactic| skip)
local macro_rules | `(tactic| walk_at "pad 26") => `(tactic| skip)
local macro_rules | `(tactic| walk_at "pad 27") => `(tactic| skip)
local macro_rules | `(tactic| walk_at "pad 28") => `(tactic| skip)
local macro_rules | `(tactic| walk_at "pad 29") => `(tactic| skip)
local macro_rules | `(tactic| walk_at "pad 30") => `(tactic| skip)
local macro_rules | `(tactic| walk_at "pad 31") => `(tactic| skip)
local macro_rules | `(tactic| walk_at "pad 32") => `(tactic| skip)
local macro_rules | `(tactic| walk_at "pad 33") => `(tactic| skip)
open PySem.Builtin.Int (intBits)

local macro_rules | `(tactic| walk_at "binaryOp Add int int") => `(tactic| (k_here; (with_reducible refine add_int ?_); (try dsimp only)))
local macro_rules | `(tactic| walk_at "binaryOp Sub int int") => `(tactic| (k_here; (with_reducible refine sub_int ?_); (try dsimp only)))
local macro_rules | `(tactic| walk_at "binaryOp RShift int int") => `(tactic| (k_here; (with_reducible refine shr_rule (by omega) ?_); (try dsimp only)))
local macro_rules | `(tactic| walk_at "inplaceOp RShift int int") => `(tactic| (k_here; (with_reducible refine ishr_rule (by omega) ?_); (try dsimp only)))
local macro_rules | `(tactic| walk_at "binaryOp BitAnd int int") => `(tactic| (k_here; (with_reducible refine band_rule ?_); (try dsimp only)))
local macro_rules | `(tactic| walk_at "call builtin:int.bit_length") => `(tactic| (k_here; (with_reducible refine bl_rule ?_); (try dsimp only)))
local macro_rules | `(tactic| walk_at "compareOp Eq int int") => `(tactic| (k_here; (with_reducible refine eqb_rule ?_); (try dsimp only)))
local macro_rules | `(tactic| walk_at "truthy int") => `(tactic| (k_here; (with_reducible refine tru_rule ?_); (try dsimp only)))
local macro_rules | `(tactic| walk_at "ite") => `(tactic| (k_here; k_openite; first
  | (with_reducible refine ite_yes (by first | assumption | omega) ?_)
  | (with_reducible refine ite_no (by first | assumption | omega) ?_)
  | (with_reducible refine ite_nyes (by first | assumption | omega) ?_)
  | (with_reducible refine ite_nno (by first | assumption | omega) ?_)
  | ((with_reducible refine ite_split ?_ ?_) <;> intro _)
  | ((with_reducible refine ite_nsplit ?_ ?_) <;> intro _)
  | (with_reducible refine ite_pos (by assumption) ?_)
  | (with_reducible refine ite_isFalse (by assumption) ?_)
  | ((with_reducible refine ite_splitb ?_ ?_) <;> intro _)))
local macro_rules | `(tactic| walk_at "binaryOp LShift int int") => `(tactic| (k_here; (with_reducible refine shl_rule (by omega) (by first | omega | assumption) ?_); (try dsimp only)))
local macro_rules | `(tactic| k_mem) => `(tactic| first | with_reducible assumption | (refine' List.mem_cons_of_mem _ ?_; k_mem))

local macro_rules | `(tactic| walk_at "compareOp Eq str str") => `(tactic| (k_here; first | (with_reducible refine eq_n ?_) | (with_reducible refine eq_f ?_) | (with_reducible refine eq_c ?_) | (with_reducible refine eq_d ?_) | (with_reducible refine eq_u ?_)))
local macro_rules | `(tactic| walk_at "subscriptTail") => `(tactic| (k_here; first
  | ((with_reducible refine' sd_rule ?F ?X ?h ?_); (case F => k_asm); (case X => k_asm); (case h => with_reducible assumption); (try dsimp only))
  | ((with_reducible refine' sd2_rule ?F ?X ?h ?g ?_); (case F => k_asm); (case X => k_asm); (case h => with_reducible assumption); (case g => with_reducible assumption))
  | ((with_reducible refine' rec_rule ?F ?X ?_); (case F => k_asm); (case X => k_asm); (try dsimp only))))

local macro_rules | `(tactic| walk_at "binaryOp LShift int int") => `(tactic| (k_here; (with_reducible refine shl1_rule (by omega) (by omega) ?_); (try dsimp only)))
local macro_rules | `(tactic| walk_at "binaryOp BitXor int int") => `(tactic| (k_here; (with_reducible refine xor0_rule (by assumption) ?_); (try dsimp only)))
local macro_rules | `(tactic| walk_at "call builtin:divmod") => `(tactic| (k_here; (with_reducible refine' divmod_rule ?F ?N ?a ?b ?_); (case F => k_asm); (case N => k_asm); (case a => omega); (case b => omega); (intro h' D' F' N'; (try dsimp only); (try k_sweep))))

local macro_rules | `(tactic| walk_at "compareOp Eq ref ref") => `(tactic| (k_here; first
  | ((with_reducible show wpAny _ _ (compareOp _ _ (Value.ref 22)) _ _ _); k_dflt ((refine' eqR22 ?F ?X ?h1 ?h3 ?_); (case F => k_asm); (case X => k_asm); (case h1 => exact News.get (by k_asm) (by k_mem)); (case h3 => first | ktr_units | omega)))
  | ((with_reducible show wpAny _ _ (compareOp _ (Value.ref 22) _) _ _ _); k_dflt ((refine' eqL22 ?F ?X ?h1 ?h3 ?_); (case F => k_asm); (case X => k_asm); (case h1 => exact News.get (by k_asm) (by k_mem)); (case h3 => first | ktr_units | omega)))
  | ((with_reducible show wpAny _ _ (compareOp _ (Value.ref 23) _) _ _ _); k_dflt ((refine' eqL23 ?F ?X ?h1 ?h3 ?_); (case F => k_asm); (case X => k_asm); (case h1 => exact News.get (by k_asm) (by k_mem)); (case h3 => first | ktr_units | omega)))))
local macro_rules | `(tactic| walk_at "compareOp Eq ref ref") => `(tactic| (k_here; first
  | ((with_reducible show wpAny _ _ (compareOp _ (Value.ref 23) (Value.ref 22)) _ _ _); k_dflt ((refine' eqTT (at23 ?F ?X) (at22 ?F2 ?X2) ?h3 ?_); (case F => k_asm); (case X => k_asm); (case F2 => k_asm); (case X2 => k_asm); (case h3 => first | ktr_units | omega)))
  | ((with_reducible show wpAny _ _ (compareOp _ (Value.ref 22) (Value.ref 22)) _ _ _); k_dflt ((refine' eqTT (at22 ?F ?X) (at22 ?F2 ?X2) ?h3 ?_); (case F => k_asm); (case X => k_asm); (case F2 => k_asm); (case X2 => k_asm); (case h3 => first | ktr_units | omega)))))

local macro_rules | `(tactic| walk_at "exec Raise some none") => `(tactic| (k_here; (with_reducible show wpAny _ _ (exec (Stmt.Raise (some (Expr.Name _ _)) none _) _) _ _ _); (with_reducible rename Fr _ _ _ _ => kF); k_dflt (first
  | (refine' Raise_classB ?hh excClass_ValueError ?hs ?hx ?_; (case hh => rfl); (case hs => (rw [isSubtype_type]; kernel_rfl)); (case hx => (refine' name_B kF ?k1 ?k2 ?k3 ?k4 ?k5 ?_; (case k1 => k_asm); (case k2 => k_asm); (case k3 => k_is); (case k4 => boot_by_name); (case k5 => decide); exact ⟨rfl, rfl⟩)); (intro h' e' S'; (try dsimp only at S' ⊢)))
  | (refine' Raise_classB ?hh excClass_ZeroDivisionError ?hs ?hx ?_; (case hh => rfl); (case hs => (rw [isSubtype_type]; kernel_rfl)); (case hx => (refine' name_B kF ?k1 ?k2 ?k3 ?k4 ?k5 ?_; (case k1 => k_asm); (case k2 => k_asm); (case k3 => k_is); (case k4 => boot_by_name); (case k5 => decide); exact ⟨rfl, rfl⟩)); (intro h' e' S'; (try dsimp only at S' ⊢))))))

local macro_rules | `(tactic| k_room) => `(tactic| ktr_room)
set_option maxHeartbeats 4000000 in
theorem refused1_tells (w : World) (news : Led) (r : Rnd) (k n prec : Int) (t1 t2 t3 t4 : Tok) (hk1 : k = 1 ∨ k = 2 ∨ k = 3) :
    TellT w 133 news [.int k t1, .int n t2, .int prec t3, .str r.str t4] 40 (fun v tl => v = .bool true ∧ tl = []) := by
  rcases hk1 with rfl | rfl | rfl
  all_goals
    unfold TellT; k_fill
    intro p loose mean mg mb dp un gd cn cs a ccd cl A₀ h₀ L m s Q E B F X N T hk hd hu hret
    w_top on
    refine wpAny_call ?_
    k_dflt (refine' code_deep ?k1 ?k2 ?k3 ?k4 ?k5 ?kA ?kF ?kK ?k6 ?k7 ?k8 ?k9 ?kB ?_ ?c2 ?c3 ?c4 ?c5; (case kA => exact rfl); (case kF => exact rfl); (case kK => assumption); (case k1 => k_asm); (case k2 => k_asm); (case k3 => k_asm); (case k4 => k_asm); (case k5 => k_asm); (case k6 => k_is); (case k7 => k_is); (case k8 => ktr_room); (case k9 => first | exact BindsTo.of_eq rfl | exact binds_K (by k_in) rfl (by k_is) rfl rfl rfl); (case c5 => decide); (case kB => exact locs rfl); (case c2 => exact rfl); (case c3 => exact rfl); (case c4 => exact rfl); k_whole; intro g' L' h' FG' F' N' B' X' T' D'; (try dsimp only); (try k_lift B'); (try k_fold))

    k_steps
    all_goals first
      | exact hret _ [] _ _ ⟨rfl, rfl⟩ (by assumption) (cb_drop (by assumption) (by intro p hp; repeat (first | exact hp | refine List.mem_cons_of_mem _ ?_)))
end -- C18
section -- C19
local macro_rules | `(tactic| walk_at "pad 19") => `(tactic| skip)
local macro_rules | `(tactic| walk_at "pad 20") => `(tactic| skip)
local macro_rules | `(tactic| walk_at "pad 21") => `(tactic| skip)
local macro_rules | `(tactic| walk_at "pad 22") => `(tactic| skip)
local macro_rules | `(tactic| walk_at "pad 23") => `(tactic| skip)
local macro_rules | `(tactic| walk_at "pad 24") => `(tactic| skip)
local macro_rules | `(tactic| walk_at "pad 25") => `(tactic| skip)
local macro_rules | `(tactic| walk_at "pad 26") => `(tactic| skip)
local macro_rules | `(tactic| walk_at "pad 27") => `(tactic| skip)
local macro_rules | `(tactic| walk_at "pad 28") => `(tactic| skip)
local macro_rules | `(tactic| walk_at "pad 29") => `(tactic| skip)
local macro_rules | `(tactic| walk_at "pad 30") => `(tactic| skip)
local macro_rules | `(tactic| walk_at "pad 31") => `(tactic| skip)
local macro_rules | `(tactic| walk_at "pad 32") => `(tactic| skip)
local macro_rules | `(tactic| walk_at "pad 33") => `(tactic| skip)
local macro_rules | `(tactic| walk_at "pad 34") => `(tactic| skip)
open PySem.Builtin.Int (intBits)

local macro_rules | `(tactic| walk_at "binaryOp Add int int") => `(tactic| (k_here; (with_reducible refine add_int ?_); (try dsimp only)))
local macro_rules | `(tactic| walk_at "binaryOp Sub int int") => `(tactic| (k_here; (with_reducible refine sub_int ?_); (try dsimp only)))
local macro_rules | `(tactic| walk_at "binaryOp RShift int int") => `(tactic| (k_here; (with_reducible refine shr_rule (by omega) ?_); (try dsimp only)))
local macro_rules | `(tactic| walk_at "inplaceOp RShift int int") => `(tactic| (k_here; (with_reducible refine ishr_rule (by omega) ?_); (try dsimp only)))
local macro_rules | `(tactic| walk_at "binaryOp BitAnd int int") => `(tactic| (k_here; (with_reducible refine band_rule ?_); (try dsimp only)))
local macro_rules | `(tactic| walk_at "call builtin:int.bit_length") => `(tactic| (k_here; (with_reducible refine bl_rule ?_); (try dsimp only)))
local macro_rules | `(tactic| walk_at "compareOp Eq int int") => `(tactic| (k_here; (with_reducible refine eqb_rule ?_); (try dsimp only)))
local macro_rules | `(tactic| walk_at "truthy int") => `(tactic| (k_here; (with_reducible refine tru_rule ?_); (try dsimp only)))
local macro_rules | `(tactic| walk_at "ite") => `(tactic| (k_here; k_openite; first
  | (with_reducible refine ite_yes (by first | assumption | omega) ?_)
  | (with_reducible refine ite_no (by first | assumption | omega) ?_)
  | (with_reducible refine ite_nyes (by first | assumption | omega) ?_)
  | (with_reducible refine ite_nno (by first | assumption | omega) ?_)
  | ((with_reducible refine ite_split ?_ ?_) <;> intro _)
  | ((with_reducible refine ite_nsplit ?_ ?_) <;> intro _)
  | (with_reducible refine ite_pos (by assumption) ?_)
  | (with_reducible refine ite_isFalse (by assumption) ?_)
  | ((with_reducible refine ite_splitb ?_ ?_) <;> intro _)))
local macro_rules | `(tactic| walk_at "binaryOp LShift int int") => `(tactic| (k_here; (with_reducible refine shl_rule (by omega) (by first | omega | assumption) ?_); (try dsimp only)))
local macro_rules | `(tactic| k_mem) => `(tactic| first | with_reducible assumption | (refine' List.mem_cons_of_mem _ ?_; k_mem))

local macro_rules | `(tactic| walk_at "compareOp Eq str str") => `(tactic| (k_here; first | (with_reducible refine eq_n ?_) | (with_reducible refine eq_f ?_) | (with_reducible refine eq_c ?_) | (with_reducible refine eq_d ?_) | (with_reducible refine eq_u ?_)))
local macro_rules | `(tactic| walk_at "subscriptTail") => `(tactic| (k_here; first
  | ((with_reducible refine' sd_rule ?F ?X ?h ?_); (case F => k_asm); (case X => k_asm); (case h => with_reducible assumption); (try dsimp only))
  | ((with_reducible refine' sd2_rule ?F ?X ?h ?g ?_); (case F => k_asm); (case X => k_asm); (case h => with_reducible assumption); (case g => with_reducible assumption))
  | ((with_reducible refine' rec_rule ?F ?X ?_); (case F => k_asm); (case X => k_asm); (try dsimp only))))

local macro_rules | `(tactic| walk_at "binaryOp LShift int int") => `(tactic| (k_here; (with_reducible refine shl1_rule (by omega) (by omega) ?_); (try dsimp only)))
local macro_rules | `(tactic| walk_at "binaryOp BitXor int int") => `(tactic| (k_here; (with_reducible refine xor0_rule (by assumption) ?_); (try dsimp only)))
local macro_rules | `(tactic| walk_at "call builtin:divmod") => `(tactic| (k_here; (with_reducible refine' divmod_rule ?F ?N ?a ?b ?_); (case F => k_asm); (case N => k_asm); (case a => omega); (case b => omega); (intro h' D' F' N'; (try dsimp only); (try k_sweep))))

local macro_rules | `(tactic| walk_at "compareOp Eq ref ref") => `(tactic| (k_here; first
  | ((with_reducible show wpAny _ _ (compareOp _ _ (Value.ref 22)) _ _ _); k_dflt ((refine' eqR22 ?F ?X ?h1 ?h3 ?_); (case F => k_asm); (case X => k_asm); (case h1 => exact News.get (by k_asm) (by k_mem)); (case h3 => first | ktr_units | omega)))
  | ((with_reducible show wpAny _ _ (compareOp _ (Value.ref 22) _) _ _ _); k_dflt ((refine' eqL22 ?F ?X ?h1 ?h3 ?_); (case F => k_asm); (case X => k_asm); (case h1 => exact News.get (by k_asm) (by k_mem)); (case h3 => first | ktr_units | omega)))
  | ((with_reducible show wpAny _ _ (compareOp _ (Value.ref 23) _) _ _ _); k_dflt ((refine' eqL23 ?F ?X ?h1 ?h3 ?_); (case F => k_asm); (case X => k_asm); (case h1 => exact News.get (by k_asm) (by k_mem)); (case h3 => first | ktr_units | omega)))))
local macro_rules | `(tactic| walk_at "compareOp Eq ref ref") => `(tactic| (k_here; first
  | ((with_reducible show wpAny _ _ (compareOp _ (Value.ref 23) (Value.ref 22)) _ _ _); k_dflt ((refine' eqTT (at23 ?F ?X) (at22 ?F2 ?X2) ?h3 ?_); (case F => k_asm); (case X => k_asm); (case F2 => k_asm); (case X2 => k_asm); (case h3 => first | ktr_units | omega)))
  | ((with_reducible show wpAny _ _ (compareOp _ (Value.ref 22) (Value.ref 22)) _ _ _); k_dflt ((refine' eqTT (at22 ?F ?X) (at22 ?F2 ?X2) ?h3 ?_); (case F => k_asm); (case X => k_asm); (case F2 => k_asm); (case X2 => k_asm); (case h3 => first | ktr_units | omega)))))

local macro_rules | `(tactic| walk_at "exec Raise some none") => `(tactic| (k_here; (with_reducible show wpAny _ _ (exec (Stmt.Raise (some (Expr.Name _ _)) none _) _) _ _ _); (with_reducible rename Fr _ _ _ _ => kF); k_dflt (first
  | (refine' Raise_classB ?hh excClass_ValueError ?hs ?hx ?_; (case hh => rfl); (case hs => (rw [isSubtype_type]; kernel_rfl)); (case hx => (refine' name_B kF ?k1 ?k2 ?k3 ?k4 ?k5 ?_; (case k1 => k_asm); (case k2 => k_asm); (case k3 => k_is); (case k4 => boot_by_name); (case k5 => decide); exact ⟨rfl, rfl⟩)); (intro h' e' S'; (try dsimp only at S' ⊢)))
  | (refine' Raise_classB ?hh excClass_ZeroDivisionError ?hs ?hx ?_; (case hh => rfl); (case hs => (rw [isSubtype_type]; kernel_rfl)); (case hx => (refine' name_B kF ?k1 ?k2 ?k3 ?k4 ?k5 ?_; (case k1 => k_asm); (case k2 => k_asm); (case k3 => k_is); (case k4 => boot_by_name); (case k5 => decide); exact ⟨rfl, rfl⟩)); (intro h' e' S'; (try dsimp only at S' ⊢))))))

local macro_rules | `(tactic| walk_at "call ref") => `(tactic| (k_here; refine halt ?_))
local macro_rules | `(tactic| k_room) => `(tactic| ktr_room)
set_option maxHeartbeats 4000000 in
theorem refused0_tells (w : World) (news : Led) (r : Rnd) (n prec : Int) (t1 t2 t3 t4 : Tok) (hn : n ≤ -1) (hn2 : -40 ≤ n) (hp : 1 ≤ prec) (hp2 : prec ≤ 90) :
    TellT w 133 news [.int 0 t1, .int n t2, .int prec t3, .str r.str t4] 40 (fun v tl => v = .bool true ∧ tl = []) := by
  unfold TellT; k_fill
  intro p loose mean mg mb dp un gd cn cs a ccd cl A₀ h₀ L m s Q E B F X N T hk hd hu hret
  w_top on
  refine wpAny_call ?_
  k_dflt (refine' code_deep ?k1 ?k2 ?k3 ?k4 ?k5 ?kA ?kF ?kK ?k6 ?k7 ?k8 ?k9 ?kB ?_ ?c2 ?c3 ?c4 ?c5; (case kA => exact rfl); (case kF => exact rfl); (case kK => assumption); (case k1 => k_asm); (case k2 => k_asm); (case k3 => k_asm); (case k4 => k_asm); (case k5 => k_asm); (case k6 => k_is); (case k7 => k_is); (case k8 => ktr_room); (case k9 => first | exact BindsTo.of_eq rfl | exact binds_K (by k_in) rfl (by k_is) rfl rfl rfl); (case c5 => decide); (case kB => exact locs rfl); (case c2 => exact rfl); (case c3 => exact rfl); (case c4 => exact rfl); k_whole; intro g' L' h' FG' F' N' B' X' T' D'; (try dsimp only); (try k_lift B'); (try k_fold))

  k_steps
  unfold Halt
  k_here
  k_dflt (refine wpAny_call ?_; k_enter)
  k_steps
  · unfold Halt
    k_here
    k_dflt (refine wpAny_call ?_; k_enter)
    k_steps
    all_goals exact hret _ [] _ _ ⟨rfl, rfl⟩ (by assumption) (cb_drop (by assumption) (by intro p hp; repeat (first | exact hp | refine List.mem_cons_of_mem _ ?_)))
  · unfold Halt
    (k_here; (with_reducible show wpAny _ _ (call (Value.ref 91) [Value.ref _, Value.int _ _, Value.int _ _, Value.str _ _]) _ _ _); (refine' Tell.use (pow0_tells _ _ _ _ _ _ _ _ _ _ _ _ _ _ ?p0 ?p1 ?p2 ?p3) ?k1 ?k2 ?k3 ?k4 ?k5 ?k6 ?k7 ?k8 ?_); (case k1 => k_asm); (case k2 => k_asm); (case k3 => k_asm); (case k4 => k_asm); (case k5 => k_asm); (case k6 => first | exact rfl | assumption); (case k7 => first | ktr_room | omega); (case k8 => first | ktr_units | omega); (case p0 => first | with_reducible assumption | k_mem | assumption); (case p1 => first | assumption | omega | decide); (case p2 => first | assumption | omega | decide); (case p3 => first | assumption | omega | decide); (intro v9 tl9 h9 tk9 R9 F9 N9; obtain ⟨ev9, et9⟩ := R9; subst ev9; subst et9; (try dsimp only [List.cons_append, List.nil_append] at N9); (try dsimp only); (try k_sweep); (try k_fold)))
    k_steps
    unfold Halt
    k_here
    k_dflt (refine wpAny_call ?_; k_enter)
    k_steps
    all_goals exact hret _ [] _ _ ⟨rfl, rfl⟩ (by assumption) (cb_drop (by assumption) (by intro p hp; repeat (first | exact hp | refine List.mem_cons_of_mem _ ?_)))
end -- C19
section -- B10
open PySem.Builtin.Int (intBits)

theorem refused_tells (w : World) (news : Led) (r : Rnd) (k n prec : Int) (t1 t2 t3 t4 : Tok) (hk : 0 ≤ k) (hk2 : k ≤ 3) (hn : n ≤ -1) (hn2 : -40 ≤ n) (hp : 1 ≤ prec) (hp2 : prec ≤ 90) :
    TellT w 133 news [.int k t1, .int n t2, .int prec t3, .str r.str t4] 40 (fun v tl => v = .bool true ∧ tl = []) := by
  by_cases h : k = 0
  · subst h; exact refused0_tells w news r n prec t1 t2 t3 t4 hn hn2 hp hp2
  · exact refused1_tells w news r k n prec t1 t2 t3 t4 (by omega)
theorem Tell.deepen {w : World} {f : Addr} {news : Led} {vs : List Value} {d d' : Nat} {R R' : Value → Led → Prop} (h : d ≤ d') (hR : ∀ v tl, R v tl → R' v tl) (C : Tell w f news vs d R) : Tell w f news vs d' R' := by
  unfold Tell at *
  intro p loose mean mg mb dp un gd cn cs a ccd cl outer A₀ base h₀ L m s Q E B F X N T hk hd hu hret
  exact C _ _ _ _ _ _ _ _ _ _ _ _ _ _ _ _ _ _ _ _ _ _ B F X N T hk (by omega) (by omega) fun v tl h' tk' r => hret v tl h' tk' (hR v tl r)
theorem partedR_tells (w : World) (news : Led) (S : Addr) (sg man exp bc : Int) (t1 t2 t3 t4 : Tok) (hS : (S, I4 sg man exp bc t1 t2 t3 t4) ∈ news) (hr : RawOK sg man exp bc) :
    Tell w 140 news [.ref S] 30 (fun v tl => v = .bool true ∧ tl = []) := by
  rcases hr with ⟨rfl, rfl, rfl, rfl⟩ | ⟨h1, h2, h3, h4, h5, rfl⟩
  · exact parted0_tells w news S t1 t2 t3 t4 hS
  · exact (parted_tells w news S sg man exp t1 t2 t3 t4 hS h1 h2 h3).deepen (by decide) fun _ _ h => h
theorem shiftR_tells (w : World) (news : Led) (S : Addr) (sg man exp bc n : Int) (t1 t2 t3 t4 t5 : Tok) (hS : (S, I4 sg man exp bc t1 t2 t3 t4) ∈ news) (hr : RawOK sg man exp bc) :
    Tell w 67 news [.ref S, .int n t5] 1 (fun v tl => (v = .ref S ∧ tl = [] ∧ sg = 0 ∧ man = 0 ∧ exp = 0 ∧ bc = 0) ∨ (((sg = 0 ∨ sg = 1) ∧ 0 < man ∧ intBits man ≤ 60 ∧ -20 ≤ exp ∧ exp ≤ 20 ∧ bc = intBits man) ∧ ∃ D ta tb tc td, v = .ref D ∧ tl = [(D, I4 sg man (exp + n) bc ta tb tc td)])) := by
  rcases hr with ⟨rfl, rfl, rfl, rfl⟩ | h
  · exact (shift0_tells w news S 0 0 0 n t1 t2 t3 t4 t5 hS).deepen (Nat.le_refl _) fun _ _ h => .inl ⟨h.1, h.2, rfl, rfl, rfl, rfl⟩
  · exact (shift_tells w news S sg man exp bc n t1 t2 t3 t4 t5 hS h.2.1).deepen (Nat.le_refl _) fun _ _ h' => .inr ⟨h, h'⟩
section
variable {prog : Program} {w : World} {A : Around} {E : Value → Shared → Prop} {s : Shared} {a b n : Int} {t u : Tok} {Q : Value → Shared → Prop}
theorem ipwb_rule (ha : intBits a ≤ 100) (hn : 0 ≤ n) (hn2 : n ≤ 100) (h : Q (.int (ipw a n) s.toks) { s with toks := s.toks + 1 }) : wpAny (model prog w) A (binaryOp .Pow (.int a t) (.int n u)) Q E s :=
  ipw_rule hn (by
    have h1 : (intBits a : Int) * n ≤ (intBits a : Int) * 100 := Int.mul_le_mul_of_nonneg_left hn2 (by omega)
    omega) h
theorem ipwb_bits (ha : intBits a ≤ 80) (hn : 0 ≤ n) (hn2 : n ≤ 60) : intBits (ipw a n) ≤ 4801 := by
  rw [ipw_eq]
  refine Nat.le_trans (intBits_pow_le ha n.toNat) ?_
  have := Nat.mul_le_mul_left 80 (show n.toNat ≤ 60 by omega)
  omega
end
end -- B10
section -- B11
open PySem.Builtin.Int (intBits)

section
variable {prog : Program} {w : World} {A : Around} {E : Value → Shared → Prop} {s : Shared} {h₀ : Heap} {L : Addr} {m : Str → Option Value} {news : List (Addr × Obj)} {k : Int} {u : Tok} {Q : Value → Shared → Prop} {D : Addr} {t1 t2 t3 t4 t5 : Tok} {c : Nat} {value slice : Expr}
theorem menu_rule (N : News h₀ L s.heap news) (hm : (D, PySem.W.listOf #[.str (Str.ofString "n") t1, .str (Str.ofString "f") t2, .str (Str.ofString "c") t3, .str (Str.ofString "d") t4, .str (Str.ofString "u") t5] c) ∈ news) (h0 : 0 ≤ k) (h5 : k < 5)
    (h : ∀ (r : Rnd) (t : Tok), Q (.str r.str t) s)
    (hs : subscripted slice false (.ref D) (.int k u) = operate [.ref D, .int k u] (getItem (.ref D) (.int k u)) := by with_unfolding_all rfl) :
    wpAny (model prog w) A (subscriptTail value slice (.ref D) (.int k u)) Q E s := by
  have hl := News.isList N hm
  have key : ∀ v, #[Value.str (Str.ofString "n") t1, .str (Str.ofString "f") t2, .str (Str.ofString "c") t3, .str (Str.ofString "d") t4, .str (Str.ofString "u") t5][k.toNat]? = some v → Q v s → wpAny (model prog w) A (subscriptTail value slice (.ref D) (.int k u)) Q E s := fun v hx hq =>
    tail_any hl.typeIs slot_list_getitem.lookup (wpAny_getItem_list hl h0 (by omega) hx hq) hs
  have hk : k = 0 ∨ k = 1 ∨ k = 2 ∨ k = 3 ∨ k = 4 := by omega
  rcases hk with rfl | rfl | rfl | rfl | rfl
  · exact key _ rfl (h .n t1)
  · exact key _ rfl (h .f t2)
  · exact key _ rfl (h .c t3)
  · exact key _ rfl (h .d t4)
  · exact key _ rfl (h .u t5)
end
end -- B11
section -- B12
open PySem.Builtin.Int (intBits)

abbrev Worth (sg man exp x y : Int) : Prop := (0 ≤ exp ∧ x = mulI (if sg = 1 then -man else man) (ipw 2 exp) ∧ y = 1) ∨ (exp < 0 ∧ x = (if sg = 1 then -man else man) ∧ y = ipw 2 (-exp))
theorem worth_bits {sg man exp x y : Int} (hb : intBits man ≤ 60) (he : -20 ≤ exp) (he2 : exp ≤ 20) (h : Worth sg man exp x y) : intBits x ≤ 81 ∧ intBits y ≤ 21 := by
  have h0 : intBits (if sg = 1 then -man else man) ≤ 60 := by
    split
    · exact intBits_neg_le hb
    · exact hb
  rcases h with ⟨h1, rfl, rfl⟩ | ⟨h1, rfl, rfl⟩
  · exact ⟨mulI_bits h0 (ipw2_bits (k := 20) (by omega)) (by decide), by decide⟩
  · exact ⟨by omega, ipw2_bits (k := 20) (by omega)⟩
theorem RawOK.man_nn {sg man exp bc : Int} (h : RawOK sg man exp bc) : 0 ≤ man ∧ intBits man ≤ 60 ∧ (sg = 0 ∨ sg = 1) ∧ -20 ≤ exp ∧ exp ≤ 20 := by
  rcases h with ⟨rfl, rfl, rfl, rfl⟩ | ⟨h1, h2, h3, h4, h5, rfl⟩
  · exact ⟨by decide, by decide, by decide, by decide, by decide⟩
  · exact ⟨by omega, h3, h1, h4, h5⟩
theorem worthR_tells (w : World) (news : Led) (S : Addr) (sg man exp bc : Int) (t1 t2 t3 t4 : Tok) (hS : (S, I4 sg man exp bc t1 t2 t3 t4) ∈ news) (hr : RawOK sg man exp bc) :
    Tell w 112 news [.ref S] 1 (fun v tl => ∃ D x y ta tb, v = .ref D ∧ tl = [(D, I2 x y ta tb)] ∧ Worth sg man exp x y ∧ intBits x ≤ 81 ∧ intBits y ≤ 21) := by
  obtain ⟨h1, h2, h3, h4, h5⟩ := hr.man_nn
  refine (worth_tells w news S sg man exp bc t1 t2 t3 t4 hS h3 h1 (by omega) (by omega) (by omega)).deepen (Nat.le_refl _) ?_
  rintro v tl ⟨D, x, y, ta, tb, e1, e2, H, _, _⟩
  exact ⟨D, x, y, ta, tb, e1, e2, H, worth_bits h2 h4 h5 H⟩
theorem worthG_tells (w : World) (news : Led) (S : Addr) (sg man exp bc : Int) (t1 t2 t3 t4 : Tok) (hS : (S, I4 sg man exp bc t1 t2 t3 t4) ∈ news) (hs : sg = 0 ∨ sg = 1) (hm : 0 < man) (hb : intBits man ≤ 60) (he : exp ≤ 100) (he2 : -100 ≤ exp) :
    Tell w 112 news [.ref S] 1 (fun v tl => ∃ D x y ta tb, v = .ref D ∧ tl = [(D, I2 x y ta tb)] ∧ Worth sg man exp x y ∧ intBits x ≤ 200 ∧ intBits y ≤ 200) := by
  refine (worth_tells w news S sg man exp bc t1 t2 t3 t4 hS hs (by omega) (by omega) (by omega) (by omega)).deepen (Nat.le_refl _) ?_
  rintro v tl ⟨D, x, y, ta, tb, e1, e2, H, _, _⟩
  refine ⟨D, x, y, ta, tb, e1, e2, H, ?_⟩
  have h0 : intBits (if sg = 1 then -man else man) ≤ 60 := by
    split
    · exact intBits_neg_le hb
    · exact hb
  rcases H with ⟨h1, rfl, rfl⟩ | ⟨h1, rfl, rfl⟩
  · exact ⟨mulI_bits h0 (ipw2_bits (k := 100) (by omega)) (by decide), by decide⟩
  · exact ⟨by omega, Nat.le_trans (ipw2_bits (k := 100) (by omega)) (by decide)⟩
/-- what mpf_pow_int hands back -/
def ToldOK (r : Rnd) (sg man exp n prec sg' m' e' b' : Int) : Prop :=
  (1 ≤ n ∧ sg' = band sg n ∧ PowOK r sg' man exp n prec m' e' b') ∨
  (n = -1 ∧ sg' = sg ∧ ∃ q x, DivRel man exp prec q x ∧ NormOK r sg q x prec m' e' b') ∨
  (n < -1 ∧ sg' = band sg (-n) ∧ ∃ mi ei bi, PowOK r.rec0 sg' man exp (-n) (prec + 5) mi ei bi ∧ ∃ q x, DivRel mi ei prec q x ∧ NormOK r sg' q x prec m' e' b')
def LeadsOK (r : Rnd) (sg man n : Int) : Prop := (0 ≤ n → DownOK r sg man n) ∧ (n < 0 → DownOK r.rec0 sg man (-n))
theorem leads_n (sg man n : Int) : LeadsOK .n sg man n := ⟨fun _ => .inr (.inr (.inr (.inl rfl))), fun _ => .inr (.inr (.inr (.inl rfl)))⟩
theorem powL_tells (w : World) (news : Led) (r : Rnd) (S : Addr) (sg man exp n prec : Int) (t1 t2 t3 t4 t5 t6 t7 : Tok) (hS : (S, I4 sg man exp (intBits man) t1 t2 t3 t4) ∈ news) (hs : sg = 0 ∨ sg = 1) (hm : 0 < man) (hb : intBits man ≤ 60) (hp : 1 ≤ prec) (hp2 : prec ≤ 90) (hn : n ≤ 60) (hn2 : -40 ≤ n) (hl : LeadsOK r sg man n) :
    Tell w 91 news [.ref S, .int n t7, .int prec t5, .str r.str t6] 30 (fun v tl => (n = 0 ∧ v = .ref 23 ∧ tl = []) ∨ (n ≠ 0 ∧ ∃ D sg' m' e' b' ta tb tc td, v = .ref D ∧ tl = [(D, I4 sg' m' e' b' ta tb tc td)] ∧ ToldOK r sg man exp n prec sg' m' e' b')) := by
  by_cases h0 : n = 0
  · exact (pown0_tells w news r S sg man exp (intBits man) n prec t1 t2 t3 t4 t5 t6 t7 hS (.inl hm) h0).deepen (by decide) fun _ _ h => .inl ⟨h0, h.1, h.2⟩
  by_cases h1 : 1 ≤ n
  · refine (pow_tells w news r S sg man exp n prec t1 t2 t3 t4 t5 t6 t7 hS hs hm hp hb (by omega) h1 hn (hl.1 (by omega))).deepen (by decide) ?_
    rintro v tl ⟨D, m', e', b', ta, tb, tc, td, e1, e2, H⟩
    exact .inr ⟨h0, D, _, m', e', b', ta, tb, tc, td, e1, e2, .inl ⟨h1, rfl, H⟩⟩
  by_cases h2 : n = -1
  · refine (inv_tells w news r S sg man exp n prec t1 t2 t3 t4 t5 t6 t7 hS hs hm hp (by omega) (by omega) h2).deepen (by decide) ?_
    rintro v tl ⟨D, m', e', b', ta, tb, tc, td, e1, e2, H⟩
    exact .inr ⟨h0, D, _, m', e', b', ta, tb, tc, td, e1, e2, .inr (.inl ⟨h2, rfl, H⟩)⟩
  · refine (powneg_tells w news r S sg man exp n prec t1 t2 t3 t4 t5 t6 t7 hS hs hm hp hb hp2 (by omega) hn2 (hl.2 (by omega))).deepen (Nat.le_refl _) ?_
    rintro v tl ⟨D, m', e', b', ta, tb, tc, td, e1, e2, H⟩
    exact .inr ⟨h0, D, _, m', e', b', ta, tb, tc, td, e1, e2, .inr (.inr ⟨by omega, rfl, H⟩)⟩
theorem leadsL_tells (w : World) (news : Led) (r : Rnd) (S : Addr) (sg man exp n : Int) (t1 t2 t3 t4 t5 t6 : Tok) (hS : (S, I4 sg man exp (intBits man) t1 t2 t3 t4) ∈ news) (hs : sg = 0 ∨ sg = 1) (hb : intBits man ≤ 60) (hn : n ≤ 60) (hn2 : -40 ≤ n) :
    Tell w 147 news [.ref S, .int n t5, .str r.str t6] 2 (fun v tl => tl = [] ∧ (v = .bool true ∨ (v = .bool false ∧ LeadsOK r sg man n))) := by
  refine (leads_tells w news r S sg man exp n t1 t2 t3 t4 t5 t6 hS hs hb hn hn2).deepen (Nat.le_refl _) ?_
  rintro v tl ⟨b, e1, e2, H⟩
  refine ⟨e2, ?_⟩
  cases b
  · exact .inr ⟨e1, H rfl⟩
  · exact .inl e1
end -- B12
section -- B14
open PySem.Builtin.Int (intBits)

section
variable {prog : Program} {w : World} {A : Around} {E : Value → Shared → Prop} {s : Shared} {h₀ : Heap} {L : Addr} {news : Led} {Q : Value → Shared → Prop} {x : Str} {z : Nat} {p q : Pos} {t : Addr} {a b c d : Int} {ta tb tc td u : Tok}
theorem tup2 {h : Heap} (N : News h₀ L h news) (hm : (t, I2 a b ta tb) ∈ news) : IsTup h t #[.int a ta, .int b tb] := ⟨_, N.get hm, rfl, 0, rfl⟩
theorem it4_0 (N : News h₀ L s.heap news) (hm : (t, I4 a b c d ta tb tc td) ∈ news) (h : Q (.int a ta) s) : wpAny (model prog w) A (subscriptTail (.Name x p) (.Constant (.int 0) z q) (.ref t) (.int 0 u)) Q E s := item_tuple (j := 0) (tup4 N hm) (by decide) (by decide) rfl rfl h
theorem it4_1 (N : News h₀ L s.heap news) (hm : (t, I4 a b c d ta tb tc td) ∈ news) (h : Q (.int b tb) s) : wpAny (model prog w) A (subscriptTail (.Name x p) (.Constant (.int 1) z q) (.ref t) (.int 1 u)) Q E s := item_tuple (j := 1) (tup4 N hm) (by decide) (by decide) rfl rfl h
theorem it4_2 (N : News h₀ L s.heap news) (hm : (t, I4 a b c d ta tb tc td) ∈ news) (h : Q (.int c tc) s) : wpAny (model prog w) A (subscriptTail (.Name x p) (.Constant (.int 2) z q) (.ref t) (.int 2 u)) Q E s := item_tuple (j := 2) (tup4 N hm) (by decide) (by decide) rfl rfl h
theorem it4_3 (N : News h₀ L s.heap news) (hm : (t, I4 a b c d ta tb tc td) ∈ news) (h : Q (.int d td) s) : wpAny (model prog w) A (subscriptTail (.Name x p) (.Constant (.int 3) z q) (.ref t) (.int 3 u)) Q E s := item_tuple (j := 3) (tup4 N hm) (by decide) (by decide) rfl rfl h
theorem it2_0 (N : News h₀ L s.heap news) (hm : (t, I2 a b ta tb) ∈ news) (h : Q (.int a ta) s) : wpAny (model prog w) A (subscriptTail (.Name x p) (.Constant (.int 0) z q) (.ref t) (.int 0 u)) Q E s := item_tuple (j := 0) (tup2 N hm) (by decide) (by decide) rfl rfl h
theorem it2_1 (N : News h₀ L s.heap news) (hm : (t, I2 a b ta tb) ∈ news) (h : Q (.int b tb) s) : wpAny (model prog w) A (subscriptTail (.Name x p) (.Constant (.int 1) z q) (.ref t) (.int 1 u)) Q E s := item_tuple (j := 1) (tup2 N hm) (by decide) (by decide) rfl rfl h
end
end -- B14
section -- B13
open PySem.Builtin.Int (intBits)

theorem mulI_bits2 {a b : Int} {k l : Nat} (ha : intBits a ≤ k) (hb : intBits b ≤ l) : intBits (mulI a b) ≤ k + l := by rw [mulI_eq]; exact bits_mul ha hb
theorem ipw2_bits1000 {n : Int} (h : n ≤ 1000) : intBits (ipw 2 n) ≤ 1001 := ipw2_bits (k := 1000) h
theorem bits_abs {x : Int} {m : Nat} {i : Decidable (x < 0)} (h : intBits x ≤ m) : intBits (@ite Int (x < 0) i (-x) x) ≤ m := by
  split
  · exact intBits_neg_le h
  · exact h
def NearP (r : Rnd) (sg man exp above below prec : Int) : Prop := ∀ x y : Int, Worth sg man exp x y →
  (r.is .f = true → ¬ 0 < mulI x below - mulI above y) ∧ (r.is .c = true → ¬ mulI x below - mulI above y < 0) ∧
  (r.is .d = true → ¬ 0 < mulI (mulI x below - mulI above y) above) ∧ (r.is .u = true → ¬ mulI (mulI x below - mulI above y) above < 0) ∧
  mulI (if mulI x below - mulI above y < 0 then -(mulI x below - mulI above y) else mulI x below - mulI above y) (ipw 2 prec) < mulI 4 (mulI (if above < 0 then -above else above) y)
end -- B13
section -- C12
local macro_rules | `(tactic| walk_at "pad 28") => `(tactic| skip)
local macro_rules | `(tactic| walk_at "pad 29") => `(tactic| skip)
local macro_rules | `(tactic| walk_at "pad 30") => `(tactic| skip)
local macro_rules | `(tactic| walk_at "pad 31") => `(tactic| skip)
local macro_rules | `(tactic| walk_at "pad 32") => `(tactic| skip)
local macro_rules | `(tactic| walk_at "pad 33") => `(tactic| skip)
local macro_rules | `(tactic| walk_at "pad 34") => `(tactic| skip)
local macro_rules | `(tactic| walk_at "pad 35") => `(tactic| skip)
open PySem.Builtin.Int (intBits)

local macro_rules | `(tactic| walk_at "binaryOp Add int int") => `(tactic| (k_here; (with_reducible refine add_int ?_); (try dsimp only)))
local macro_rules | `(tactic| walk_at "binaryOp Sub int int") => `(tactic| (k_here; (with_reducible refine sub_int ?_); (try dsimp only)))
local macro_rules | `(tactic| walk_at "binaryOp RShift int int") => `(tactic| (k_here; (with_reducible refine shr_rule (by omega) ?_); (try dsimp only)))
local macro_rules | `(tactic| walk_at "inplaceOp RShift int int") => `(tactic| (k_here; (with_reducible refine ishr_rule (by omega) ?_); (try dsimp only)))
local macro_rules | `(tactic| walk_at "binaryOp BitAnd int int") => `(tactic| (k_here; (with_reducible refine band_rule ?_); (try dsimp only)))
local macro_rules | `(tactic| walk_at "call builtin:int.bit_length") => `(tactic| (k_here; (with_reducible refine bl_rule ?_); (try dsimp only)))
local macro_rules | `(tactic| walk_at "compareOp Eq int int") => `(tactic| (k_here; (with_reducible refine eqb_rule ?_); (try dsimp only)))
local macro_rules | `(tactic| walk_at "truthy int") => `(tactic| (k_here; (with_reducible refine tru_rule ?_); (try dsimp only)))
local macro_rules | `(tactic| walk_at "ite") => `(tactic| (k_here; k_openite; first
  | (with_reducible refine ite_yes (by first | assumption | omega) ?_)
  | (with_reducible refine ite_no (by first | assumption | omega) ?_)
  | (with_reducible refine ite_nyes (by first | assumption | omega) ?_)
  | (with_reducible refine ite_nno (by first | assumption | omega) ?_)
  | ((with_reducible refine ite_split ?_ ?_) <;> intro _)
  | ((with_reducible refine ite_nsplit ?_ ?_) <;> intro _)
  | (with_reducible refine ite_pos (by assumption) ?_)
  | (with_reducible refine ite_isFalse (by assumption) ?_)
  | ((with_reducible refine ite_splitb ?_ ?_) <;> intro _)))
local macro_rules | `(tactic| walk_at "binaryOp LShift int int") => `(tactic| (k_here; (with_reducible refine shl_rule (by omega) (by first | omega | assumption) ?_); (try dsimp only)))
local macro_rules | `(tactic| k_mem) => `(tactic| first | with_reducible assumption | (refine' List.mem_cons_of_mem _ ?_; k_mem))

local macro_rules | `(tactic| walk_at "compareOp Eq str str") => `(tactic| (k_here; first | (with_reducible refine eq_n ?_) | (with_reducible refine eq_f ?_) | (with_reducible refine eq_c ?_) | (with_reducible refine eq_d ?_) | (with_reducible refine eq_u ?_)))
local macro_rules | `(tactic| walk_at "subscriptTail") => `(tactic| (k_here; first
  | ((with_reducible refine' sd_rule ?F ?X ?h ?_); (case F => k_asm); (case X => k_asm); (case h => with_reducible assumption); (try dsimp only))
  | ((with_reducible refine' sd2_rule ?F ?X ?h ?g ?_); (case F => k_asm); (case X => k_asm); (case h => with_reducible assumption); (case g => with_reducible assumption))
  | ((with_reducible refine' rec_rule ?F ?X ?_); (case F => k_asm); (case X => k_asm); (try dsimp only))))

local macro_rules | `(tactic| walk_at "binaryOp LShift int int") => `(tactic| (k_here; (with_reducible refine shl1_rule (by omega) (by omega) ?_); (try dsimp only)))
local macro_rules | `(tactic| walk_at "binaryOp BitXor int int") => `(tactic| (k_here; (with_reducible refine xor0_rule (by assumption) ?_); (try dsimp only)))
local macro_rules | `(tactic| walk_at "call builtin:divmod") => `(tactic| (k_here; (with_reducible refine' divmod_rule ?F ?N ?a ?b ?_); (case F => k_asm); (case N => k_asm); (case a => omega); (case b => omega); (intro h' D' F' N'; (try dsimp only); (try k_sweep))))

local macro_rules | `(tactic| walk_at "binaryOp Mult int int") => `(tactic| (k_here; (with_reducible refine mulb_rule (by assumption) (by assumption) (by decide) ?_); (try dsimp only)))
local macro_rules | `(tactic| walk_at "inplaceOp Pow int int") => `(tactic| (k_here; (with_reducible refine iipw_rule (by omega) (by omega) ?_); (try dsimp only)))
local macro_rules | `(tactic| walk_at "binaryOp FloorDiv int int") => `(tactic| (k_here; (with_reducible refine fdv_rule (by omega) (by decide) ?_); (try dsimp only)))
local macro_rules | `(tactic| walk_at "binaryOp Pow int int") => `(tactic| (k_here; (with_reducible refine pow2_rule (by omega) (by omega) ?_); (try dsimp only)))

local macro_rules | `(tactic| walk_at "binaryOp FloorDiv int int") => `(tactic| (k_here; first | (with_reducible refine edivp_rule (by omega) ?_) | (with_reducible refine ediv_rule (by decide) (by decide) ?_); (try dsimp only)))
local macro_rules | `(tactic| walk_at "binaryOp Mod int int") => `(tactic| (k_here; first | (with_reducible refine emodp_rule ?_) | (with_reducible refine emod_rule (by decide) ?_); (try dsimp only)))
local macro_rules | `(tactic| walk_at "compareOp Eq ref ref") => `(tactic| (k_here; k_dflt ((refine' eq4_rule ?h1 ?h2 ?h3 ?_); (case h1 => exact News.get (by k_asm) (by k_mem)); (case h2 => exact News.get (by k_asm) (by k_mem)); (case h3 => first | ktr_units | omega))))
local macro_rules | `(tactic| walk_at "subscriptTail Name Slice") => `(tactic| (k_here; (refine' slice_two (s := ⟨_, _, _, _, _⟩) ?F ?N ?t ?_); (case F => k_asm); (case N => k_asm); (case t => exact tup4 (by k_asm) (by k_mem)); (intro D' h' F' N'; (try dsimp only); (try k_sweep))))

local macro_rules | `(tactic| ktr_rel) => `(tactic| first
  | with_reducible assumption
  | ((with_reducible apply bits_abs); ktr_rel)
  | ((with_reducible apply ipw2_bits1000); omega)
  | ((with_reducible apply mulI_bits2) <;> ktr_rel)
  | ((with_reducible apply intBits_sub_le) <;> ktr_rel)
  | ((with_reducible apply intBits_neg_le); ktr_rel))
local macro_rules | `(tactic| walk_at "binaryOp Mult int int") => `(tactic| (k_here; (with_reducible refine' mulb_rule ?a ?b ?c ?_); (case a => ktr_rel); (case b => ktr_rel); (case c => decide); (try dsimp only)))
local macro_rules | `(tactic| walk_at "subscriptTail Name Constant ref int") => `(tactic| (k_here; first | ((with_reducible refine' it4_0 ?N ?m ?_); (case N => with_reducible assumption); (case m => k_mem)) | ((with_reducible refine' it4_1 ?N ?m ?_); (case N => with_reducible assumption); (case m => k_mem)) | ((with_reducible refine' it4_2 ?N ?m ?_); (case N => with_reducible assumption); (case m => k_mem)) | ((with_reducible refine' it4_3 ?N ?m ?_); (case N => with_reducible assumption); (case m => k_mem)) | ((with_reducible refine' it2_0 ?N ?m ?_); (case N => with_reducible assumption); (case m => k_mem)) | ((with_reducible refine' it2_1 ?N ?m ?_); (case N => with_reducible assumption); (case m => k_mem))))

local macro_rules | `(tactic| walk_at "call ref") => `(tactic| (k_here; (with_reducible show wpAny _ _ (call (Value.ref 112) [Value.ref _]) _ _ _); (refine' Tell.use (worth_tells _ _ _ _ _ _ _ _ _ _ _ ?p0 ?p1 ?p2 ?p3 ?p4 ?p5) ?k1 ?k2 ?k3 ?k4 ?k5 ?k6 ?k7 ?k8 ?_); (case k1 => k_asm); (case k2 => k_asm); (case k3 => k_asm); (case k4 => k_asm); (case k5 => k_asm); (case k6 => first | exact rfl | assumption); (case k7 => first | ktr_room | omega); (case k8 => first | ktr_units | omega); (case p0 => first | with_reducible assumption | k_mem | assumption); (case p1 => first | assumption | omega | decide); (case p2 => first | assumption | omega | decide); (case p3 => first | assumption | omega | decide); (case p4 => first | assumption | omega | decide); (case p5 => first | assumption | omega | decide); (intro v9 tl9 h9 tk9 R9 F9 N9; obtain ⟨D9, x9, y9, ta9, tb9, ev9, et9, H9, B9, C9⟩ := R9; subst ev9; subst et9; (try dsimp only [List.cons_append, List.nil_append] at N9); (try dsimp only); (try k_sweep); (try k_fold))))
local macro_rules | `(tactic| walk_at "call ref") => `(tactic| (k_here; (with_reducible show wpAny _ _ (call (Value.ref 74) [Value.ref _]) _ _ _); (refine' Tell.use (frexp_tells _ _ _ _ _ _ _ _ _ _ _ ?p0 ?p1) ?k1 ?k2 ?k3 ?k4 ?k5 ?k6 ?k7 ?k8 ?_); (case k1 => k_asm); (case k2 => k_asm); (case k3 => k_asm); (case k4 => k_asm); (case k5 => k_asm); (case k6 => first | exact rfl | assumption); (case k7 => first | ktr_room | omega); (case k8 => first | ktr_units | omega); (case p0 => first | with_reducible assumption | k_mem | assumption); (case p1 => first | assumption | omega | decide); (intro v9 tl9 h9 tk9 R9 F9 N9; obtain ⟨D9, E9, ta9, tb9, tc9, td9, te9, c9, ev9, et9⟩ := R9; subst ev9; subst et9; (try dsimp only [List.cons_append, List.nil_append] at N9); (try dsimp only); (try k_sweep); (try k_fold))))
local macro_rules | `(tactic| walk_at "call ref") => `(tactic| (k_here; (with_reducible show wpAny _ _ (call (Value.ref 67) [Value.ref _, Value.int _ _]) _ _ _); (refine' Tell.use (shift_tells _ _ _ _ _ _ _ _ _ _ _ _ _ ?p0 ?p1) ?k1 ?k2 ?k3 ?k4 ?k5 ?k6 ?k7 ?k8 ?_); (case k1 => k_asm); (case k2 => k_asm); (case k3 => k_asm); (case k4 => k_asm); (case k5 => k_asm); (case k6 => first | exact rfl | assumption); (case k7 => first | ktr_room | omega); (case k8 => first | ktr_units | omega); (case p0 => first | with_reducible assumption | k_mem | assumption); (case p1 => first | assumption | omega | decide); (intro v9 tl9 h9 tk9 R9 F9 N9; obtain ⟨D9, ta9, tb9, tc9, td9, ev9, et9⟩ := R9; subst ev9; subst et9; (try dsimp only [List.cons_append, List.nil_append] at N9); (try dsimp only); (try k_sweep); (try k_fold))))
set_option maxHeartbeats 4000000 in
theorem near_tells (w : World) (news : Led) (r : Rnd) (S : Addr) (sg man exp above below prec : Int) (t1 t2 t3 t4 t5 t6 t7 t8 : Tok) (hS : (S, I4 sg man exp (intBits man) t1 t2 t3 t4) ∈ news) (hs : sg = 0 ∨ sg = 1) (hm : 0 ≤ man) (hb : intBits man ≤ 10000) (he : exp ≤ 20000) (he2 : -20000 ≤ exp)
     (hba : intBits above ≤ 10000) (hbb : intBits below ≤ 10000) (hp : 1 ≤ prec) (hp2 : prec ≤ 100) (ho : man % 2 = 1) (hbp : (intBits man : Int) ≤ prec) (hN : NearP r sg man exp above below prec) :
    Tell w 126 news [.ref S, .int above t5, .int below t6, .int prec t7, .str r.str t8] 20 (fun v tl => v = .bool true ∧ tl = []) := by
  (try unfold Tup4); unfold Tell; k_fill
  intro p loose mean mg mb dp un gd cn cs a ccd cl outer A₀ base h₀ L m s Q E B F X N T hk hd hu hret
  w_top on
  refine wpAny_call ?_
  k_dflt (refine' code_def ?k1 ?k2 ?k3 ?k4 ?k5 ?kA ?kF ?kK ?k6 ?k7 ?k8 ?k9 ?kB ?_ ?c2 ?c3 ?c4 ?c5; (case kA => exact rfl); (case kF => exact rfl); (case kK => assumption); (case k1 => k_asm); (case k2 => k_asm); (case k3 => k_asm); (case k4 => k_asm); (case k5 => k_asm); (case k6 => k_is); (case k7 => k_is); (case k8 => ktr_room); (case k9 => first | exact BindsTo.of_eq rfl | exact binds_K (by k_in) rfl (by k_is) rfl rfl rfl); (case c5 => decide); (case kB => exact locs rfl); (case c2 => exact rfl); (case c3 => exact rfl); (case c4 => exact rfl); k_whole; intro g' L' h' FG' F' N' B' X' T'; (try dsimp only); (try k_lift B'); (try k_fold))

  have hp3 : intBits 4 ≤ 3 := by decide
  refine execs_mid (fun s' => ∃ (h' : Heap) (tk' : Nat) (x y : Int) (tg tl : Tok) (m' : Str → Option Value), s' = { s with heap := h', toks := tk' } ∧ Fr g' L' h' m' ∧ News g' L' h' news ∧ m' (Str.ofString "gap") = some (.int (mulI x below - mulI above y) tg) ∧ m' (Str.ofString "line") = some (.int (mulI (if above < 0 then -above else above) y) tl) ∧ m' (Str.ofString "told") = some (.ref S) ∧ m' (Str.ofString "above") = some (.int above t5) ∧ m' (Str.ofString "prec") = some (.int prec t7) ∧ m' (Str.ofString "rnd") = some (.str r.str t8) ∧ Worth sg man exp x y ∧ intBits x ≤ 40000 ∧ intBits y ≤ 40000) [_, _] [_, _, _] ?midA ?midB
  case midA =>
    clear hret
    k_steps
    all_goals exact ⟨rfl, _, _, _, _, _, _, _, rfl, by assumption, News.sub (by assumption) (by intro p hp; repeat (first | exact hp | refine List.mem_cons_of_mem _ ?_)), by exact rfl, by exact rfl, by exact rfl, by exact rfl, by exact rfl, by exact rfl, by assumption, by assumption, by assumption⟩
  case midB =>
    rintro _ ⟨h', tk', x, y, tg, tl, m', rfl, F7, N7, m1, m2, m3, m4, m5, m6, hW9, hx9, hy9⟩
    have lF := upd6 F7 m1 m2 m3 m4 m5 m6
    have h := hN _ _ hW9
    clear F7 m1 m2 m3 m4 m5 m6 hN hW9
    cases r
    all_goals k_steps
    all_goals (first
    | exact hret _ [] _ _ ⟨congrArg Value.bool (decide_eq_true rfl), rfl⟩ (by assumption) (cb_drop (by assumption) (by intro p hp; repeat (first | exact hp | refine List.mem_cons_of_mem _ ?_)))
    | exact hret _ [] _ _ ⟨rfl, rfl⟩ (by assumption) (cb_drop (by assumption) (by intro p hp; repeat (first | exact hp | refine List.mem_cons_of_mem _ ?_)))
    | (exfalso; exact absurd (by assumption) (h.1 rfl))
    | (exfalso; exact absurd (by assumption) (h.2.1 rfl))
    | (exfalso; exact absurd (by assumption) (h.2.2.1 rfl))
    | (exfalso; exact absurd (by assumption) (h.2.2.2.1 rfl))
    | (exfalso; exact absurd h.2.2.2.2 (by assumption)))
end -- C12
section -- MT
open PySem.Builtin.Int (intBits)

/-- x near y: on the side that the rounding says, and nearer than 4 / 2^prec of y -/
structure NI (r : Rnd) (sg : Int) (P x y : Int) : Prop where
  down : r.is .n = false → r.sd sg ≠ 0 → x ≤ y
  up : r.is .n = false → r.sd sg = 0 → y ≤ x
  hi : (x - y) * P < 4 * y
  lo : (y - x) * P < 4 * y
theorem NI.scale {r : Rnd} {sg P x y x' y' c d : Int} (hc : 0 < c) (hd : 0 < d) (hx : x * c = x' * d) (hy : y * c = y' * d) (h : NI r sg P x y) : NI r sg P x' y' := by
  have key : ∀ {a b a' b' : Int}, a * c = a' * d → b * c = b' * d → (a ≤ b → a' ≤ b') := by
    intro a b a' b' e1 e2 h
    have := Int.mul_le_mul_of_nonneg_right h (Int.le_of_lt hc)
    rw [e1, e2] at this
    exact Int.le_of_mul_le_mul_right this hd
  have key2 : ∀ {a b a' b' : Int}, a * c = a' * d → b * c = b' * d → (a < b → a' < b') := by
    intro a b a' b' e1 e2 h
    have := Int.mul_lt_mul_of_pos_right h hc
    rw [e1, e2] at this
    exact Int.lt_of_mul_lt_mul_right this (Int.le_of_lt hd)
  refine ⟨fun a b => key hx hy (h.down a b), fun a b => key hy hx (h.up a b), key2 ?_ ?_ h.hi, key2 ?_ ?_ h.lo⟩
  · rw [show (x - y) * P * c = (x * c - y * c) * P by grind, hx, hy]; grind
  · rw [show 4 * y * c = 4 * (y * c) by grind, hy]; grind
  · rw [show (y - x) * P * c = (y * c - x * c) * P by grind, hx, hy]; grind
  · rw [show 4 * y * c = 4 * (y * c) by grind, hy]; grind
/-- how near the rounded number lies -/
theorem rfp_near {r : Rnd} {sg num low M P : Int} (hl : 0 < low) (hq : P ≤ num / low) (hP : 0 < P) (h : RFP r sg (num / low) (num % low) low M) :
    (r.is .n = false → r.sd sg ≠ 0 → M * low ≤ num) ∧ (r.is .n = false → r.sd sg = 0 → num ≤ M * low) ∧ (M * low - num) * P ≤ num ∧ (num - M * low) * P ≤ num := by
  have m1 := Int.emod_add_mul_ediv num low
  have m2 := Int.emod_nonneg num (show low ≠ 0 by omega)
  have m3 := Int.emod_lt_of_pos num hl
  generalize num / low = W at *
  generalize num % low = s at *
  have b0 : P * low ≤ W * low := Int.mul_le_mul_of_nonneg_right hq (Int.le_of_lt hl)
  have b1 : low * W = W * low := Int.mul_comm _ _
  have b2 : s * P ≤ low * P := Int.mul_le_mul_of_nonneg_right (Int.le_of_lt m3) (Int.le_of_lt hP)
  have b3 : low * P = P * low := Int.mul_comm _ _
  have b4 : 0 ≤ s * P := Int.mul_nonneg m2 (Int.le_of_lt hP)
  rcases h with ⟨h1, h2, hM⟩ | ⟨h1, hM⟩ <;> rw [hM]
  · have e : (W + 1) * low = W * low + low := by grind
    have e2 : ((W + 1) * low - num) * P = low * P - s * P := by rw [e, ← m1]; grind
    have e3 : (num - (W + 1) * low) * P = s * P - low * P := by rw [e, ← m1]; grind
    refine ⟨fun hn hs => absurd ((RAway.nn hn).mp h2) hs, fun _ _ => by omega, ?_, ?_⟩
    · rw [e2]; omega
    · rw [e3]; omega
  · have e2 : (W * low - num) * P = -(s * P) := by rw [← m1]; grind
    have e3 : (num - W * low) * P = s * P := by rw [← m1]; grind
    refine ⟨fun _ _ => by omega, fun hn hs => ?_, ?_, ?_⟩
    · have : ¬ 0 < s := fun h => h1 ⟨h, (RAway.nn hn).mpr hs⟩
      omega
    · rw [e2]; omega
    · rw [e3]; omega
theorem norm_near {r : Rnd} {sg M X prec m e b : Int} (hM : 0 < M) (hp : 1 ≤ prec) (h : NormOK r sg M X prec m e b) :
    ∃ j : Nat, e = X + j ∧ (r.is .n = false → r.sd sg ≠ 0 → m * 2 ^ j ≤ M) ∧ (r.is .n = false → r.sd sg = 0 → M ≤ m * 2 ^ j) ∧ (m * 2 ^ j - M) * 2 ^ (prec - 1).toNat ≤ M ∧ (M - m * 2 ^ j) * 2 ^ (prec - 1).toNat ≤ M := by
  obtain ⟨h1, h2, h3, h4, t, h5, h6⟩ := h
  have R := rint_rfp r sg M ((intBits M : Int) - prec).toNat
  rw [← h5] at R
  refine ⟨((intBits M : Int) - prec).toNat + t, by omega, ?_⟩
  have e1 : m * 2 ^ (((intBits M : Int) - prec).toNat + t) = m * 2 ^ t * 2 ^ ((intBits M : Int) - prec).toNat := by rw [Int.pow_add]; grind
  rw [e1]
  rcases ilt ((intBits M : Int) - prec) 0 with hk | hk
  · rw [show ((intBits M : Int) - prec).toNat = 0 by omega] at R h5 ⊢
    have e2 : m * 2 ^ t = M := by rw [h5]; unfold rint; rw [if_pos rfl]
    rw [e2, Int.pow_zero, Int.mul_one, Int.sub_self, Int.zero_mul]
    exact ⟨fun _ _ => Int.le_refl _, fun _ _ => Int.le_refl _, by omega, by omega⟩
  · refine rfp_near (tp _) ?_ (tp _) R
    rw [Int.le_ediv_iff_mul_le (tp _), ← Int.pow_add]
    have := bits_ge hM
    rw [show (prec - 1).toNat + ((intBits M : Int) - prec).toNat = intBits M - 1 by omega]
    exact this
theorem ro_near {r : Rnd} {sg size below prec m e b : Int} (hb : 0 < below) (h : RO r sg size below prec m e b) :
    ∃ (E : Int) (t : Nat), e = E + t ∧ (r.is .n = false → r.sd sg ≠ 0 → m * 2 ^ t * lowE below E ≤ numE size E) ∧ (r.is .n = false → r.sd sg = 0 → numE size E ≤ m * 2 ^ t * lowE below E) ∧ (m * 2 ^ t * lowE below E - numE size E) * 2 ^ (prec - 1).toNat ≤ numE size E ∧ (numE size E - m * 2 ^ t * lowE below E) * 2 ^ (prec - 1).toNat ≤ numE size E := by
  obtain ⟨h1, h2, h3, E, t, h4, h5, h6, h7⟩ := h
  exact ⟨E, t, h7, rfp_near (lowE_pos hb) h4 (tp _) h6⟩
theorem two_of {prec : Int} (hp : 1 ≤ prec) : (2 : Int) ^ prec.toNat = 2 * 2 ^ (prec - 1).toNat := by
  rw [show prec.toNat = (prec - 1).toNat + 1 by omega, Int.pow_succ, Int.mul_comm]
/-- the power loop, n from 3 on -/
theorem pow_near {r : Rnd} {sg man exp n prec m e b pm pe : Int} (hm : 0 < man) (hp : 1 ≤ prec) (hpm : 0 < pm) (hN : PowNear man exp n prec pm pe) (h : NormOK r sg pm pe prec m e b) (hd : r.is .n = true ∨ r.sd sg ≠ 0) :
    ∃ D : Nat, e = exp * n + D ∧ NI r sg (2 ^ prec.toNat) (m * 2 ^ D) (man ^ n.toNat) := by
  obtain ⟨d, hpe, u, l⟩ := hN
  obtain ⟨j, hj, d1, d2, d3, d4⟩ := norm_near hpm hp h
  refine ⟨d + j, by omega, ?_⟩
  have e1 : m * 2 ^ (d + j) = m * 2 ^ j * 2 ^ d := by rw [Int.pow_add]; grind
  rw [e1]
  have pD := tp d
  have pP := tp (prec - 1).toNat
  have hT : 0 < man ^ n.toNat := Int.pow_pos hm
  have eK : (2 : Int) ^ (prec.toNat + 8) = 512 * 2 ^ (prec - 1).toNat := by
    rw [Int.pow_add, two_of hp]
    have : (2 : Int) ^ 8 = 256 := by decide
    rw [this]; grind
  rw [two_of hp]
  rw [eK] at l
  generalize (2 : Int) ^ (prec - 1).toNat = P at *
  generalize man ^ n.toNat = T at *
  generalize m * 2 ^ j = v at *
  have f3 : (v - pm) * P * 2 ^ d ≤ pm * 2 ^ d := Int.mul_le_mul_of_nonneg_right d3 (Int.le_of_lt pD)
  have f4 : (pm - v) * P * 2 ^ d ≤ pm * 2 ^ d := Int.mul_le_mul_of_nonneg_right d4 (Int.le_of_lt pD)
  have f1 : r.is .n = false → r.sd sg ≠ 0 → v * 2 ^ d ≤ pm * 2 ^ d := fun a b => Int.mul_le_mul_of_nonneg_right (d1 a b) (Int.le_of_lt pD)
  have e3 : (v - pm) * P * 2 ^ d = (v * 2 ^ d - pm * 2 ^ d) * P := by grind
  have e4 : (pm - v) * P * 2 ^ d = (pm * 2 ^ d - v * 2 ^ d) * P := by grind
  rw [e3] at f3
  rw [e4] at f4
  generalize v * 2 ^ d = V at *
  generalize pm * 2 ^ d = p at *
  have g1 : (V - p) * P = V * P - p * P := by grind
  have g2 : (p - V) * P = p * P - V * P := by grind
  have g3 : T * (512 * P - 1) = 512 * (T * P) - T := by grind
  have g4 : p * (512 * P) = 512 * (p * P) := by grind
  have g5 : (V - T) * (2 * P) = 2 * (V * P) - 2 * (T * P) := by grind
  have g6 : (T - V) * (2 * P) = 2 * (T * P) - 2 * (V * P) := by grind
  have g7 : p * P ≤ T * P := Int.mul_le_mul_of_nonneg_right u (Int.le_of_lt pP)
  refine ⟨fun a b => Int.le_trans (f1 a b) u, fun a b => ?_, ?_, ?_⟩
  · rcases hd with hd | hd
    · rw [a] at hd; cases hd
    · exact absurd b hd
  · rw [g5]; omega
  · rw [g6]; omega
/-- the way back: one over a number that is near the power -/
theorem inv_near {r : Rnd} {sg P i p v U : Int} (hP : 1 ≤ P) (hU : 0 < U) (hp : 0 < p) (hi : 0 < i) (hv : 0 ≤ v)
    (s1 : r.is .n = false → r.sd sg ≠ 0 → p ≤ i) (s2 : r.is .n = false → r.sd sg = 0 → i ≤ p) (a1 : (i - p) * (16 * P) ≤ p) (a2 : (p - i) * (16 * P) ≤ p)
    (t1 : r.is .n = false → r.sd sg ≠ 0 → v * i ≤ U) (t2 : r.is .n = false → r.sd sg = 0 → U ≤ v * i) (b1 : (v * i - U) * P ≤ U) (b2 : (U - v * i) * P ≤ U) : NI r sg (2 * P) (v * p) U := by
  have c1 : v * ((i - p) * (16 * P)) ≤ v * p := Int.mul_le_mul_of_nonneg_left a1 hv
  have c2 : v * ((p - i) * (16 * P)) ≤ v * p := Int.mul_le_mul_of_nonneg_left a2 hv
  have e1 : v * ((i - p) * (16 * P)) = 16 * (v * i * P) - 16 * (v * p * P) := by grind
  have e2 : v * ((p - i) * (16 * P)) = 16 * (v * p * P) - 16 * (v * i * P) := by grind
  have e3 : (v * i - U) * P = v * i * P - U * P := by grind
  have e4 : (U - v * i) * P = U * P - v * i * P := by grind
  have e5 : (v * p - U) * (2 * P) = 2 * (v * p * P) - 2 * (U * P) := by grind
  have e6 : (U - v * p) * (2 * P) = 2 * (U * P) - 2 * (v * p * P) := by grind
  have hvp : 0 ≤ v * p := Int.mul_nonneg hv (Int.le_of_lt hp)
  have q1 : v * p ≤ v * p * P := by
    have := Int.mul_le_mul_of_nonneg_left hP hvp
    omega
  have q2 : U ≤ U * P := by
    have := Int.mul_le_mul_of_nonneg_left hP (Int.le_of_lt hU)
    omega
  have q3 : v * p < 16 * U := by
    rcases ilt (v * p) (16 * U) with h | h
    · exact h
    · exfalso
      have h2 := Int.mul_le_mul_of_nonneg_right h (show 0 ≤ P by omega)
      have e : 16 * U * P = 16 * (U * P) := by grind
      omega
  refine ⟨fun a b => ?_, fun a b => ?_, ?_, ?_⟩
  · exact Int.le_trans (Int.mul_le_mul_of_nonneg_left (s1 a b) hv) (t1 a b)
  · exact Int.le_trans (t2 a b) (Int.mul_le_mul_of_nonneg_left (s2 a b) hv)
  · rw [e5]; omega
  · rw [e6]; omega
end -- MT
section -- MU
open PySem.Builtin.Int (intBits)

theorem rec_n (r : Rnd) : r.rec0.is .n = r.is .n := by cases r <;> rfl
theorem rec_sd {r : Rnd} {sg : Int} (h : r.is .n = false) : r.rec0.sd sg = 0 ↔ r.sd sg ≠ 0 := by
  cases r
  · cases h
  · show (if sg = 0 then (0 : Int) else 1) = 0 ↔ (if sg = 0 then (1 : Int) else 0) ≠ 0
    split <;> simp
  · show (if sg = 0 then (1 : Int) else 0) = 0 ↔ (if sg = 0 then (0 : Int) else 1) ≠ 0
    split <;> simp
  · show (0 : Int) = 0 ↔ (1 : Int) ≠ 0
    decide
  · show (1 : Int) = 0 ↔ (0 : Int) ≠ 0
    decide
/-- the inverse's number: how near the power, on the side of the rounding told -/
theorem inv_side {r : Rnd} {sg man exp N prec mi ei bi : Int} (hm : 0 < man) (hp : 1 ≤ prec) (hN : 1 ≤ N) (h : PowOK r sg man exp N (prec + 5) mi ei bi) (hd : (intBits man : Int) * N < 1000 ∨ N < 3 ∨ man = 1 ∨ r.is .n = true ∨ r.sd sg ≠ 0) :
    ∃ D : Nat, ei = exp * N + D ∧ (r.is .n = false → r.sd sg ≠ 0 → mi * 2 ^ D ≤ man ^ N.toNat) ∧ (r.is .n = false → r.sd sg = 0 → man ^ N.toNat ≤ mi * 2 ^ D) ∧
      (mi * 2 ^ D - man ^ N.toNat) * (16 * 2 ^ (prec - 1).toNat) ≤ man ^ N.toNat ∧ (man ^ N.toNat - mi * 2 ^ D) * (16 * 2 ^ (prec - 1).toNat) ≤ man ^ N.toNat := by
  have eP : (2 : Int) ^ (prec + 5 - 1).toNat = 32 * 2 ^ (prec - 1).toNat := by
    rw [show (prec + 5 - 1).toNat = (prec - 1).toNat + 5 by omega, Int.pow_add]
    have : (2 : Int) ^ 5 = 32 := by decide
    rw [this]; grind
  have pP := tp (prec - 1).toNat
  have hT : 0 < man ^ N.toNat := Int.pow_pos hm
  by_cases hc : (intBits man : Int) * N < 1000 ∨ N < 3 ∨ man = 1
  · obtain ⟨j, hj, d1, d2, d3, d4⟩ := norm_near hT (by omega) (h.exact hc)
    rw [eP] at d3 d4
    refine ⟨j, hj, d1, d2, ?_, ?_⟩
    · generalize man ^ N.toNat = T at *
      generalize mi * 2 ^ j = V at *
      generalize (2 : Int) ^ (prec - 1).toNat = P at *
      have e1 : (V - T) * (32 * P) = 2 * ((V - T) * (16 * P)) := by grind
      omega
    · generalize man ^ N.toNat = T at *
      generalize mi * 2 ^ j = V at *
      generalize (2 : Int) ^ (prec - 1).toNat = P at *
      have e1 : (T - V) * (32 * P) = 2 * ((T - V) * (16 * P)) := by grind
      omega
  · have hd2 : r.is .n = true ∨ r.sd sg ≠ 0 := by
      rcases hd with hd | hd | hd | hd | hd
      · exact absurd (.inl hd) hc
      · exact absurd (.inr (.inl hd)) hc
      · exact absurd (.inr (.inr hd)) hc
      · exact .inl hd
      · exact .inr hd
    obtain ⟨pm, pe, hpm, ⟨d, hpe, u, l⟩, hn⟩ := h.near
    obtain ⟨j, hj, d1, d2, d3, d4⟩ := norm_near hpm (by omega) hn
    rw [eP] at d3 d4
    have eK : (2 : Int) ^ ((prec + 5).toNat + 8) = 16384 * 2 ^ (prec - 1).toNat := by
      rw [show (prec + 5).toNat + 8 = (prec - 1).toNat + 14 by omega, Int.pow_add]
      have : (2 : Int) ^ 14 = 16384 := by decide
      rw [this]; grind
    rw [eK] at l
    have pD := tp d
    refine ⟨d + j, by omega, ?_⟩
    have e1 : mi * 2 ^ (d + j) = mi * 2 ^ j * 2 ^ d := by rw [Int.pow_add]; grind
    rw [e1]
    generalize (2 : Int) ^ (prec - 1).toNat = P at *
    generalize man ^ N.toNat = T at *
    generalize mi * 2 ^ j = v at *
    have f1 : r.is .n = false → r.sd sg ≠ 0 → v * 2 ^ d ≤ pm * 2 ^ d := fun a b => Int.mul_le_mul_of_nonneg_right (d1 a b) (Int.le_of_lt pD)
    have f3 : (v - pm) * (32 * P) * 2 ^ d ≤ pm * 2 ^ d := Int.mul_le_mul_of_nonneg_right d3 (Int.le_of_lt pD)
    have f4 : (pm - v) * (32 * P) * 2 ^ d ≤ pm * 2 ^ d := Int.mul_le_mul_of_nonneg_right d4 (Int.le_of_lt pD)
    have e3 : (v - pm) * (32 * P) * 2 ^ d = 32 * (v * 2 ^ d * P) - 32 * (pm * 2 ^ d * P) := by grind
    have e4 : (pm - v) * (32 * P) * 2 ^ d = 32 * (pm * 2 ^ d * P) - 32 * (v * 2 ^ d * P) := by grind
    rw [e3] at f3
    rw [e4] at f4
    generalize v * 2 ^ d = V at *
    generalize pm * 2 ^ d = p at *
    have g3 : T * (16384 * P - 1) = 16384 * (T * P) - T := by grind
    have g4 : p * (16384 * P) = 16384 * (p * P) := by grind
    have g5 : (V - T) * (16 * P) = 16 * (V * P) - 16 * (T * P) := by grind
    have g6 : (T - V) * (16 * P) = 16 * (T * P) - 16 * (V * P) := by grind
    have g7 : p * P ≤ T * P := Int.mul_le_mul_of_nonneg_right u (Int.le_of_lt pP)
    refine ⟨fun a b => Int.le_trans (f1 a b) u, fun a b => ?_, ?_, ?_⟩
    · rcases hd2 with hd | hd
      · rw [a] at hd; cases hd
      · exact absurd b hd
    · rw [g5]; omega
    · rw [g6]; omega
/-- n below -1 -/
theorem neg_near {r : Rnd} {sg man exp N prec mi ei bi q x m e b : Int} (hm : 0 < man) (hp : 1 ≤ prec) (hN : 1 ≤ N) (h : PowOK r.rec0 sg man exp N (prec + 5) mi ei bi) (hd : (intBits man : Int) * N < 1000 ∨ N < 3 ∨ man = 1 ∨ r.rec0.is .n = true ∨ r.rec0.sd sg ≠ 0) (hq : DivRel mi ei prec q x) (h2 : NormOK r sg q x prec m e b) :
    ∃ α β : Nat, (α : Int) - β = e + exp * N ∧ NI r sg (2 ^ prec.toNat) (m * man ^ N.toNat * 2 ^ α) (2 ^ β) := by
  have hmi : 0 < mi := h.pos9
  obtain ⟨D, hD, s1, s2, a1, a2⟩ := inv_side hm hp hN h hd
  have R := ro_div hmi hp hq h2
  obtain ⟨E, t, hE, t1, t2, b1, b2⟩ := ro_near (Int.mul_pos hmi (tp _)) R
  have hm0 : 0 < m := h2.pos
  have hT : 0 < man ^ N.toNat := Int.pow_pos hm
  have pC := tp (ei.toNat + E.toNat)
  have pD := tp D
  have pP := tp (prec - 1).toNat
  have e1 : m * 2 ^ t * lowE (mi * 2 ^ ei.toNat) E * 2 ^ D = m * 2 ^ t * (mi * 2 ^ D * 2 ^ (ei.toNat + E.toNat)) := by unfold lowE; rw [Int.pow_add]; grind
  have e2 : numE (2 ^ (-ei).toNat) E * 2 ^ D = 2 ^ ((-ei).toNat + (-E).toNat + D) := by unfold numE; rw [Int.pow_add, Int.pow_add]
  refine ⟨t + (ei.toNat + E.toNat), (-ei).toNat + (-E).toNat + D, by omega, ?_⟩
  rw [two_of hp]
  have e3 : m * man ^ N.toNat * 2 ^ (t + (ei.toNat + E.toNat)) = m * 2 ^ t * (man ^ N.toNat * 2 ^ (ei.toNat + E.toNat)) := by rw [Int.pow_add 2 t]; grind
  rw [e3, ← e2]
  have f : ∀ {a b : Int}, a ≤ b → a * 2 ^ D ≤ b * 2 ^ D := fun h => Int.mul_le_mul_of_nonneg_right h (Int.le_of_lt pD)
  have g : ∀ {a b : Int}, a ≤ b → a * 2 ^ (ei.toNat + E.toNat) ≤ b * 2 ^ (ei.toNat + E.toNat) := fun h => Int.mul_le_mul_of_nonneg_right h (Int.le_of_lt pC)
  refine inv_near (i := mi * 2 ^ D * 2 ^ (ei.toNat + E.toNat)) (by omega) ?_ (Int.mul_pos hT pC) (Int.mul_pos (Int.mul_pos hmi pD) pC) (Int.mul_nonneg (Int.le_of_lt hm0) (Int.le_of_lt (tp _))) ?_ ?_ ?_ ?_ ?_ ?_ ?_ ?_
  · rw [e2]; exact tp _
  · exact fun a b => g (s2 (by rw [rec_n]; exact a) ((rec_sd a).mpr b))
  · exact fun a b => g (s1 (by rw [rec_n]; exact a) fun z => (rec_sd a).mp z b)
  · have := g a1
    generalize (2 : Int) ^ (ei.toNat + E.toNat) = C at *
    generalize mi * 2 ^ D = i at *
    generalize man ^ N.toNat = T at *
    rw [show (i * C - T * C) * (16 * 2 ^ (prec - 1).toNat) = (i - T) * (16 * 2 ^ (prec - 1).toNat) * C by grind]; exact this
  · have := g a2
    generalize (2 : Int) ^ (ei.toNat + E.toNat) = C at *
    generalize mi * 2 ^ D = i at *
    generalize man ^ N.toNat = T at *
    rw [show (T * C - i * C) * (16 * 2 ^ (prec - 1).toNat) = (T - i) * (16 * 2 ^ (prec - 1).toNat) * C by grind]; exact this
  · intro a b
    rw [← e1]; exact f (t1 a b)
  · intro a b
    rw [← e1]; exact f (t2 a b)
  · rw [← e1]
    have := f b1
    generalize m * 2 ^ t * lowE (mi * 2 ^ ei.toNat) E = V at *
    generalize numE (2 ^ (-ei).toNat) E = U at *
    rw [show (V * 2 ^ D - U * 2 ^ D) * 2 ^ (prec - 1).toNat = (V - U) * 2 ^ (prec - 1).toNat * 2 ^ D by grind]; exact this
  · rw [← e1]
    have := f b2
    generalize m * 2 ^ t * lowE (mi * 2 ^ ei.toNat) E = V at *
    generalize numE (2 ^ (-ei).toNat) E = U at *
    rw [show (U * 2 ^ D - V * 2 ^ D) * 2 ^ (prec - 1).toNat = (U - V) * 2 ^ (prec - 1).toNat * 2 ^ D by grind]; exact this
end -- MU
section -- MV
open PySem.Builtin.Int (intBits)

/-- the sign put before a size -/
def sgn (sg a : Int) : Int := if sg = 1 then -a else a
theorem sgn0 (a : Int) : sgn 0 a = a := rfl
theorem sgn1 (a : Int) : sgn 1 a = -a := rfl
theorem nearP_of {r : Rnd} {sg m e A below prec : Int} (hs : sg = 0 ∨ sg = 1) (hA : 0 < A) (hm : 0 < m) (hp : 1 ≤ prec) (h : NI r sg (2 ^ prec.toNat) (m * 2 ^ e.toNat * below) (A * 2 ^ (-e).toNat)) : NearP r sg m e (sgn sg A) below prec := by
  intro x y hw
  have hx : x = sgn sg (m * 2 ^ e.toNat) ∧ y = 2 ^ (-e).toNat := by
    rcases hw with ⟨h1, h2, h3⟩ | ⟨h1, h2, h3⟩
    · refine ⟨?_, by rw [h3, show (-e).toNat = 0 by omega, Int.pow_zero]⟩
      rw [h2, mulI_eq, ipw_eq]
      rcases hs with rfl | rfl
      · rw [sgn0, if_neg (by decide)]
      · rw [sgn1, if_pos rfl, Int.neg_mul]
    · refine ⟨?_, by rw [h3, ipw_eq]⟩
      rw [h2, show e.toNat = 0 by omega, Int.pow_zero, Int.mul_one]; rfl
  obtain ⟨rfl, rfl⟩ := hx
  have hy := tp (-e).toNat
  obtain ⟨d, u, hi, lo⟩ := h
  have hAy : 0 < A * 2 ^ (-e).toNat := Int.mul_pos hA hy
  have gap : mulI (sgn sg (m * 2 ^ e.toNat)) below - mulI (sgn sg A) (2 ^ (-e).toNat) = sgn sg (m * 2 ^ e.toNat * below - A * 2 ^ (-e).toNat) := by
    rw [mulI_eq, mulI_eq]
    rcases hs with rfl | rfl
    · simp only [sgn0]
    · simp only [sgn1]; grind
  rw [gap]
  have hab : (if sgn sg A < 0 then -(sgn sg A) else sgn sg A) = A := by
    rcases hs with rfl | rfl
    · rw [sgn0, if_neg (by omega)]
    · rw [sgn1, if_pos (by omega)]; omega
  have eP : ipw 2 prec = 2 ^ prec.toNat := ipw_eq 2 prec
  have pP := tp prec.toNat
  refine ⟨fun hr => ?_, fun hr => ?_, fun hr => ?_, fun hr => ?_, ?_⟩
  · have er : r = .f := by cases r <;> first | rfl | cases hr
    subst er
    rcases hs with rfl | rfl
    · rw [sgn0]; have := d rfl (by show (1 : Int) ≠ 0; decide); omega
    · rw [sgn1]; have := u rfl rfl; omega
  · have er : r = .c := by cases r <;> first | rfl | cases hr
    subst er
    rcases hs with rfl | rfl
    · rw [sgn0]; have := u rfl rfl; omega
    · rw [sgn1]; have := d rfl (by show (1 : Int) ≠ 0; decide); omega
  · have er : r = .d := by cases r <;> first | rfl | cases hr
    subst er
    have h1 := d rfl (by show (1 : Int) ≠ 0; decide)
    have h2 : (m * 2 ^ e.toNat * below - A * 2 ^ (-e).toNat) * A ≤ 0 := Int.mul_nonpos_of_nonpos_of_nonneg (by omega) (Int.le_of_lt hA)
    rw [mulI_eq]
    rcases hs with rfl | rfl
    · rw [sgn0, sgn0]; omega
    · rw [sgn1, sgn1, Int.neg_mul_neg]; omega
  · have er : r = .u := by cases r <;> first | rfl | cases hr
    subst er
    have h1 := u rfl rfl
    have h2 : 0 ≤ (m * 2 ^ e.toNat * below - A * 2 ^ (-e).toNat) * A := Int.mul_nonneg (by omega) (Int.le_of_lt hA)
    rw [mulI_eq]
    rcases hs with rfl | rfl
    · rw [sgn0, sgn0]; omega
    · rw [sgn1, sgn1, Int.neg_mul_neg]; omega
  · rw [hab, eP, mulI_eq, mulI_eq, mulI_eq]
    generalize m * 2 ^ e.toNat * below = X at *
    generalize A * 2 ^ (-e).toNat = Y at *
    rcases hs with rfl | rfl
    · rw [sgn0]
      split
      · rw [show -(X - Y) = Y - X by omega]; exact lo
      · exact hi
    · rw [sgn1]
      split
      · rw [show - -(X - Y) = X - Y by omega]; exact hi
      · rw [show -(X - Y) = Y - X by omega]; exact lo
/-- the worth of a number -/
theorem worth_eq {sg man exp x y : Int} (h : Worth sg man exp x y) : x = sgn sg (man * 2 ^ exp.toNat) ∧ y = 2 ^ (-exp).toNat := by
  rcases h with ⟨h1, h2, h3⟩ | ⟨h1, h2, h3⟩
  · refine ⟨?_, by rw [h3, show (-exp).toNat = 0 by omega, Int.pow_zero]⟩
    rw [h2, mulI_eq, ipw_eq]
    unfold sgn
    split
    · rw [Int.neg_mul]
    · rfl
  · refine ⟨?_, by rw [h3, ipw_eq]⟩
    rw [h2, show exp.toNat = 0 by omega, Int.pow_zero, Int.mul_one]; rfl
theorem neg_pow' (a : Int) : ∀ n : Nat, (-a) ^ n = if n % 2 = 1 then -(a ^ n) else a ^ n := by
  intro n
  induction n with
  | zero => rw [if_neg (by decide), Int.pow_zero, Int.pow_zero]
  | succ n ih =>
    rw [Int.pow_succ, Int.pow_succ, ih]
    by_cases h : n % 2 = 1
    · rw [if_pos h, if_neg (by omega), Int.neg_mul_neg]
    · rw [if_neg h, if_pos (by omega), Int.mul_neg]
theorem sgn_pow {sg a n : Int} (hs : sg = 0 ∨ sg = 1) (hn : 0 ≤ n) : ipw (sgn sg a) n = sgn (band sg n) (a ^ n.toNat) := by
  rw [ipw_eq, band_sgn hs]
  rcases hs with rfl | rfl
  · rw [sgn0, if_neg (by omega), sgn0]
  · rw [sgn1, neg_pow']
    by_cases h : n % 2 = 1
    · rw [if_pos (by omega), if_pos ⟨rfl, h⟩, sgn1]
    · rw [if_neg (by omega), if_neg (fun z => h z.2), sgn0]
theorem pow_dy {man n : Int} {a : Nat} : (man * 2 ^ a) ^ n.toNat = man ^ n.toNat * 2 ^ (a * n.toNat) := by rw [Int.mul_pow, ← Int.pow_mul]
/-- |n|-th powers of the worth -/
theorem above_eq {sg man exp x y n : Int} (hs : sg = 0 ∨ sg = 1) (hn : 0 ≤ n) (h : Worth sg man exp x y) : ipw x n = sgn (band sg n) (man ^ n.toNat * 2 ^ (exp.toNat * n.toNat)) ∧ ipw y n = 2 ^ ((-exp).toNat * n.toNat) := by
  obtain ⟨rfl, rfl⟩ := worth_eq h
  rw [sgn_pow hs hn, pow_dy]
  exact ⟨rfl, by rw [ipw_eq, ← Int.pow_mul]⟩
theorem exp_split {exp n : Int} (hn : 0 ≤ n) : ((exp.toNat * n.toNat : Nat) : Int) - ((-exp).toNat * n.toNat : Nat) = exp * n := by
  rw [Int.natCast_mul, Int.natCast_mul, ← Int.sub_mul]
  have e1 : ((exp.toNat : Int) - (-exp).toNat) = exp := by omega
  have e2 : (n.toNat : Int) = n := by omega
  rw [e1, e2]
theorem pow2_add {a b c d : Nat} (h : a + b = c + d) : (2 : Int) ^ a * 2 ^ b = 2 ^ c * 2 ^ d := by rw [← Int.pow_add, ← Int.pow_add, h]
theorem near_pos {r : Rnd} {sg man exp n prec m e b x y : Int} (hs : sg = 0 ∨ sg = 1) (hm : 0 < man) (hp : 1 ≤ prec) (hn : 1 ≤ n) (hw : Worth sg man exp x y) (hd : LeadsOK r sg man n) (hbig : ¬ ((intBits man : Int) * n < 1000 ∨ n < 3)) (h : PowOK r (band sg n) man exp n prec m e b) :
    NearP r (band sg n) m e (ipw x n) (ipw y n) prec ∧ (0 : Int) < 1 := by
  obtain ⟨e1, e2⟩ := above_eq hs (show 0 ≤ n by omega) hw
  rw [e1, e2]
  have hT : 0 < man ^ n.toNat := Int.pow_pos hm
  have hmm := h.pos9
  refine ⟨nearP_of (band_01 hs) (Int.mul_pos hT (tp _)) hmm hp ?_, by decide⟩
  have hsp := exp_split (exp := exp) (show 0 ≤ n by omega)
  have main : ∃ D : Nat, e = exp * n + D ∧ NI r (band sg n) (2 ^ prec.toNat) (m * 2 ^ D) (man ^ n.toNat) := by
    by_cases h1 : man = 1
    · have hx := h.exact (.inr (.inr h1))
      obtain ⟨j, hj, d1, d2, d3, d4⟩ := norm_near hT hp hx
      refine ⟨j, hj, ⟨d1, d2, ?_, ?_⟩⟩
      · rw [two_of hp]
        generalize m * 2 ^ j = V at *
        generalize man ^ n.toNat = T at *
        rw [show (V - T) * (2 * 2 ^ (prec - 1).toNat) = 2 * ((V - T) * 2 ^ (prec - 1).toNat) by grind]; omega
      · rw [two_of hp]
        generalize m * 2 ^ j = V at *
        generalize man ^ n.toNat = T at *
        rw [show (T - V) * (2 * 2 ^ (prec - 1).toNat) = 2 * ((T - V) * 2 ^ (prec - 1).toNat) by grind]; omega
    · have hd2 : r.is .n = true ∨ r.sd (band sg n) ≠ 0 := by
        rcases hd.1 (by omega) with z | z | z | z | z
        · exact absurd (.inl z) hbig
        · exact absurd (.inr z) hbig
        · exact absurd z h1
        · exact .inl z
        · exact .inr z
      obtain ⟨pm, pe, hpm, hN, hnn⟩ := h.near
      exact pow_near hm hp hpm hN hnn hd2
  obtain ⟨D, hD, hNI⟩ := main
  refine hNI.scale (c := 2 ^ (exp.toNat * n.toNat + (-e).toNat)) (d := 1) (tp _) (by decide) ?_ ?_
  · rw [Int.mul_one, Int.mul_assoc, Int.mul_assoc, pow2_add (a := D) (b := exp.toNat * n.toNat + (-e).toNat) (c := e.toNat) (d := (-exp).toNat * n.toNat) (by omega)]
  · rw [Int.mul_one, Int.pow_add, Int.mul_assoc]
theorem near_neg {r : Rnd} {sg man exp n prec m e b x y mi ei bi q z : Int} (hs : sg = 0 ∨ sg = 1) (hm : 0 < man) (hp : 1 ≤ prec) (hn : n < 0) (hw : Worth sg man exp x y) (hd : LeadsOK r sg man n) (h : PowOK r.rec0 (band sg (-n)) man exp (-n) (prec + 5) mi ei bi) (hq : DivRel mi ei prec q z) (h2 : NormOK r (band sg (-n)) q z prec m e b) :
    (0 < ipw x (-n) → NearP r (band sg (-n)) m e (ipw y (-n)) (ipw x (-n)) prec) ∧ (¬ 0 < ipw x (-n) → NearP r (band sg (-n)) m e (-(ipw y (-n))) (-(ipw x (-n))) prec) := by
  obtain ⟨e1, e2⟩ := above_eq hs (show 0 ≤ -n by omega) hw
  rw [e1, e2]
  have hT : 0 < man ^ (-n).toNat := Int.pow_pos hm
  have hmm := h2.pos
  have hA : 0 < man ^ (-n).toNat * 2 ^ (exp.toNat * (-n).toNat) := Int.mul_pos hT (tp _)
  have hsp := exp_split (exp := exp) (show 0 ≤ -n by omega)
  obtain ⟨α, β, hab, hNI⟩ := neg_near hm hp (show 1 ≤ -n by omega) h (hd.2 hn) hq h2
  have key : NI r (band sg (-n)) (2 ^ prec.toNat) (m * 2 ^ e.toNat * (man ^ (-n).toNat * 2 ^ (exp.toNat * (-n).toNat))) (2 ^ ((-exp).toNat * (-n).toNat) * 2 ^ (-e).toNat) := by
    refine hNI.scale (c := 2 ^ (e.toNat + exp.toNat * (-n).toNat)) (d := 2 ^ α) (tp _) (tp _) ?_ ?_
    · rw [Int.pow_add]; grind
    · rw [← Int.pow_add, ← Int.pow_add, ← Int.pow_add]; congr 1; omega
  have hb := band_01 (n := -n) hs
  generalize band sg (-n) = σ at *
  have base := nearP_of hb (tp ((-exp).toNat * (-n).toNat)) hmm hp key
  rcases hb with rfl | rfl
  · rw [sgn0] at base ⊢
    exact ⟨fun _ => base, fun hc => absurd hA hc⟩
  · rw [sgn1] at base ⊢
    refine ⟨fun hc => ?_, fun _ => ?_⟩
    · omega
    · rw [Int.neg_neg]; exact base
end -- MV
section -- MW
open PySem.Builtin.Int (intBits)

theorem exact_of {r : Rnd} {sg A above below prec m e b sg9 m9 e9 b9 : Int} (hs : sg = 0 ∨ sg = 1) (hA : 0 < A) (hb : 0 < below) (hp : 1 ≤ prec) (ha : above = sgn sg A) (h : RO r sg A below prec m e b)
    (H : (above < 0 ∧ sg9 = 1 ∧ RO r 1 (-above) below prec m9 e9 b9) ∨ (0 < above ∧ sg9 = 0 ∧ RO r 0 above below prec m9 e9 b9)) : sg = sg9 ∧ m = m9 ∧ e = e9 ∧ b = b9 := by
  rcases hs with rfl | rfl
  · rw [sgn0] at ha
    subst ha
    rcases H with ⟨h1, _, _⟩ | ⟨_, h2, h3⟩
    · omega
    · obtain ⟨a1, a2, a3⟩ := h.uniq hp hb h3
      exact ⟨h2.symm, a1, a2, a3⟩
  · rw [sgn1] at ha
    subst ha
    rcases H with ⟨_, h2, h3⟩ | ⟨h1, _, _⟩
    · rw [Int.neg_neg] at h3
      obtain ⟨a1, a2, a3⟩ := h.uniq hp hb h3
      exact ⟨h2.symm, a1, a2, a3⟩
    · omega
theorem exact_pos {r : Rnd} {sg man exp n prec m e b x y sg9 m9 e9 b9 : Int} (hs : sg = 0 ∨ sg = 1) (hm : 0 < man) (hp : 1 ≤ prec) (hn : 1 ≤ n) (hw : Worth sg man exp x y) (hc : (intBits man : Int) * n < 1000 ∨ n < 3) (h : PowOK r (band sg n) man exp n prec m e b)
    (H : (ipw x n < 0 ∧ sg9 = 1 ∧ RO r 1 (-ipw x n) (ipw y n) prec m9 e9 b9) ∨ (0 < ipw x n ∧ sg9 = 0 ∧ RO r 0 (ipw x n) (ipw y n) prec m9 e9 b9)) : band sg n = sg9 ∧ m = m9 ∧ e = e9 ∧ b = b9 := by
  obtain ⟨e1, e2⟩ := above_eq hs (show 0 ≤ n by omega) hw
  have hT : 0 < man ^ n.toNat := Int.pow_pos hm
  have hsp := exp_split (exp := exp) (show 0 ≤ n by omega)
  have R := ro_norm hT hp (h.exact (by rcases hc with hc | hc; exact .inl hc; exact .inr (.inl hc)))
  rw [e2] at H
  refine exact_of (band_01 hs) (Int.mul_pos hT (tp _)) (tp _) hp e1 (R.same (tp _) (tp _) ?_) H
  rw [Int.mul_assoc, Int.mul_assoc, pow2_add (a := (exp * n).toNat) (b := (-exp).toNat * n.toNat) (c := exp.toNat * n.toNat) (d := (-(exp * n)).toNat) (by omega)]
theorem exact_inv {r : Rnd} {sg man exp n prec m e b x y sg9 m9 e9 b9 q z above below : Int} (hs : sg = 0 ∨ sg = 1) (hm : 0 < man) (hp : 1 ≤ prec) (hn : n = -1) (hw : Worth sg man exp x y) (hq : DivRel man exp prec q z) (h : NormOK r sg q z prec m e b)
    (hab : (0 < ipw x (-n) ∧ above = ipw y (-n) ∧ below = ipw x (-n)) ∨ (¬ 0 < ipw x (-n) ∧ above = -(ipw y (-n)) ∧ below = -(ipw x (-n))))
    (H : (above < 0 ∧ sg9 = 1 ∧ RO r 1 (-above) below prec m9 e9 b9) ∨ (0 < above ∧ sg9 = 0 ∧ RO r 0 above below prec m9 e9 b9)) : sg = sg9 ∧ m = m9 ∧ e = e9 ∧ b = b9 := by
  subst hn
  obtain ⟨e1, e2⟩ := above_eq hs (show (0 : Int) ≤ - -1 by decide) hw
  have ebs : band sg (- -1) = sg := by rw [band_sgn hs]; rcases hs with rfl | rfl <;> decide
  rw [ebs, show (- -1 : Int).toNat = 1 from rfl, Int.pow_one, Nat.mul_one] at e1
  rw [show (- -1 : Int).toNat = 1 from rfl, Nat.mul_one] at e2
  rw [e1, e2] at hab
  have R := ro_div hm hp hq h
  have hB : 0 < man * 2 ^ exp.toNat := Int.mul_pos hm (tp _)
  rcases hs with rfl | rfl
  · rw [sgn0] at hab
    rcases hab with ⟨_, h2, h3⟩ | ⟨h1, _, _⟩
    · rw [h3] at H
      exact exact_of (.inl rfl) (tp _) hB hp h2 R H
    · exact absurd hB h1
  · rw [sgn1] at hab
    rcases hab with ⟨h1, _, _⟩ | ⟨_, h2, h3⟩
    · omega
    · rw [h3, Int.neg_neg] at H
      exact exact_of (.inr rfl) (tp _) hB hp h2 R H
theorem exact_zero {r : Rnd} {prec sg9 m9 e9 b9 x y : Int} (hp : 1 ≤ prec)
    (H : (ipw x 0 < 0 ∧ sg9 = 1 ∧ RO r 1 (-ipw x 0) (ipw y 0) prec m9 e9 b9) ∨ (0 < ipw x 0 ∧ sg9 = 0 ∧ RO r 0 (ipw x 0) (ipw y 0) prec m9 e9 b9)) : 0 = sg9 ∧ 1 = m9 ∧ 0 = e9 ∧ 1 = b9 := by
  have e1 : ∀ x : Int, ipw x 0 = 1 := fun x => by rw [ipw_eq]; exact Int.pow_zero x
  rw [e1, e1] at H
  have R := ro_norm (r := r) (sg := 0) (X := 0) (by decide) hp (norm_one hp)
  exact exact_of (.inl rfl) (by decide) (by decide) hp (by rw [sgn0]; rfl) R H
theorem norm_e {r : Rnd} {sg M X prec m e b : Int} (hM : 0 < M) (hp : 1 ≤ prec) (h : NormOK r sg M X prec m e b) : X ≤ e ∧ e ≤ X + intBits M := by
  obtain ⟨j, hj, _, _, d3, _⟩ := norm_near hM hp h
  have pP := tp (prec - 1).toNat
  have hm := h.pos
  have hB := bits_lt (Int.le_of_lt hM)
  have h2 : m * 2 ^ j ≤ 2 * M := by
    rcases ilt (2 * M) (m * 2 ^ j) with z | z
    · exfalso
      have z2 : M < (m * 2 ^ j - M) * 1 := by omega
      have := Int.mul_le_mul_of_nonneg_left (show 1 ≤ (2 : Int) ^ (prec - 1).toNat by omega) (show 0 ≤ m * 2 ^ j - M by omega)
      omega
    · exact z
  have h3 : (2 : Int) ^ j ≤ m * 2 ^ j := by
    have := Int.mul_le_mul_of_nonneg_right (show 1 ≤ m by omega) (Int.le_of_lt (tp j))
    omega
  have h4 : (2 : Int) ^ j < 2 ^ (intBits M + 1) := by rw [Int.pow_succ]; omega
  have := pow_lt_imp h4
  omega
theorem div_e {man exp prec q x : Int} (hm : 0 < man) (hp : 1 ≤ prec) (h : DivRel man exp prec q x) : 0 < q ∧ -exp - (prec + intBits man + 4) - 1 ≤ x ∧ x ≤ -exp ∧ (intBits q : Int) ≤ prec + intBits man + 6 := by
  have hb1 : intBits 1 = 1 := by decide
  rcases h with ⟨rfl, rfl, rfl⟩ | ⟨h1, ex, hex, ⟨hr, rfl, rfl⟩ | ⟨hr, rfl, rfl⟩⟩
  · refine ⟨by decide, by omega, by omega, by omega⟩
  · have hq := Int.ediv_le_self man (show (0 : Int) ≤ 2 ^ ex from Int.le_of_lt (tp _))
    have hq0 := Int.ediv_nonneg (show (0 : Int) ≤ 2 ^ ex from Int.le_of_lt (tp _)) (Int.le_of_lt hm)
    have hne : (2 : Int) ^ ex / man ≠ 0 := by
      intro z
      have := Int.emod_add_mul_ediv (2 ^ ex) man
      rw [z, hr] at this
      have := tp ex
      omega
    have hb := (bits_le_iff (m := ex + 1) hq0).mpr (by rw [Int.pow_succ]; have := tp ex; omega)
    exact ⟨by omega, by omega, by omega, by omega⟩
  · have hq := Int.ediv_le_self man (show (0 : Int) ≤ 2 ^ ex from Int.le_of_lt (tp _))
    have hq0 := Int.ediv_nonneg (show (0 : Int) ≤ 2 ^ ex from Int.le_of_lt (tp _)) (Int.le_of_lt hm)
    have hb := (bits_le_iff (m := ex + 2) (show 0 ≤ 2 * ((2 : Int) ^ ex / man) + 1 by omega)).mpr (by
      have h0 := tp ex
      have h4 : (2 : Int) ^ 2 = 4 := by decide
      rw [Int.pow_add, h4]; omega)
    exact ⟨by omega, by omega, by omega, by omega⟩
theorem pow_e {r : Rnd} {sg man exp n prec m e b : Int} (hm : 0 < man) (hb : intBits man ≤ 60) (hp : 1 ≤ prec) (hn : 1 ≤ n) (hn2 : n ≤ 60) (h : PowOK r sg man exp n prec m e b) : exp * n ≤ e ∧ e ≤ exp * n + 3601 := by
  obtain ⟨pm, pe, hpm, ⟨d, hpe, u, _⟩, hN⟩ := h.near
  obtain ⟨h1, h2⟩ := norm_e hpm hp hN
  have hB : intBits (man ^ n.toNat) ≤ 60 * n.toNat + 1 := intBits_pow_le hb n.toNat
  have h3 : intBits (pm * 2 ^ d) ≤ 60 * n.toNat + 1 := by
    have hT : 0 < man ^ n.toNat := Int.pow_pos hm
    rw [bits_le_iff (Int.le_of_lt (Int.mul_pos hpm (tp _)))]
    have := (bits_le_iff (Int.le_of_lt hT)).mp hB
    omega
  rw [bits_mul_pow hpm] at h3
  omega
theorem exp_bd {exp n : Int} (h1 : -20 ≤ exp) (h2 : exp ≤ 20) (hn : 0 ≤ n) (hn2 : n ≤ 60) : -1200 ≤ exp * n ∧ exp * n ≤ 1200 := by
  have a := Int.mul_le_mul_of_nonneg_right h2 hn
  have b := Int.mul_le_mul_of_nonneg_right h1 hn
  omega
theorem ToldOK.facts {r : Rnd} {sg man exp n prec sg' m e b : Int} (hs : sg = 0 ∨ sg = 1) (hm : 0 < man) (hb : intBits man ≤ 60) (h1 : -20 ≤ exp) (h2 : exp ≤ 20) (hp : 1 ≤ prec) (hp2 : prec ≤ 90) (hn : -40 ≤ n) (hn2 : n ≤ 60) (h : ToldOK r sg man exp n prec sg' m e b) :
    b = intBits m ∧ (sg' = 0 ∨ sg' = 1) ∧ 0 ≤ m ∧ intBits m ≤ 10000 ∧ e ≤ 20000 ∧ -20000 ≤ e ∧ m % 2 = 1 ∧ (intBits m : Int) ≤ prec := by
  have base : ∀ {r : Rnd} {s M X m e b : Int}, NormOK r s M X prec m e b → b = intBits m ∧ 0 ≤ m ∧ intBits m ≤ 10000 ∧ m % 2 = 1 ∧ (intBits m : Int) ≤ prec := by
    intro r s M X m e b h
    have a1 := h.bits
    have a2 := h.le
    have a3 := h.pos
    exact ⟨a1, by omega, by omega, h.odd, by omega⟩
  rcases h with ⟨c1, rfl, H⟩ | ⟨c1, rfl, q, x, hq, hN⟩ | ⟨c1, rfl, mi, ei, bi, H, q, x, hq, hN⟩
  · have hpe := pow_e hm hb hp c1 hn2 H
    have := exp_bd h1 h2 (show 0 ≤ n by omega) hn2
    obtain ⟨pm, pe, _, _, hN⟩ := H.near
    obtain ⟨a1, a2, a3, a4, a5⟩ := base hN
    exact ⟨a1, band_01 hs, a2, a3, by omega, by omega, a4, a5⟩
  · obtain ⟨a1, a2, a3, a4, a5⟩ := base hN
    obtain ⟨d1, d2, d3, d4⟩ := div_e hm hp hq
    have := norm_e d1 hp hN
    exact ⟨a1, hs, a2, a3, by omega, by omega, a4, a5⟩
  · obtain ⟨a1, a2, a3, a4, a5⟩ := base hN
    have hpe := pow_e hm hb (by omega) (show 1 ≤ -n by omega) (by omega) H
    have := exp_bd h1 h2 (show 0 ≤ -n by omega) (by omega)
    have hmi := H.pos9
    have hli := H.le9
    obtain ⟨d1, d2, d3, d4⟩ := div_e hmi hp hq
    have := norm_e d1 hp hN
    exact ⟨a1, band_01 hs, a2, a3, by omega, by omega, a4, a5⟩
/-- the product with a power of 2 -/
theorem shift_law {sg man exp n x1 y1 x2 y2 : Int} (h1 : Worth sg man (exp + n) x1 y1) (h2 : Worth sg man exp x2 y2) {u v : Int} (hu : u.toNat = (-n).toNat) (hv : v.toNat = n.toNat) : mulI (mulI x1 y2) (ipw 2 u) = mulI (mulI x2 y1) (ipw 2 v) := by
  obtain ⟨rfl, rfl⟩ := worth_eq h1
  obtain ⟨rfl, rfl⟩ := worth_eq h2
  rw [mulI_eq, mulI_eq, mulI_eq, mulI_eq, ipw_eq, ipw_eq, hu, hv]
  have key : man * 2 ^ (exp + n).toNat * 2 ^ (-exp).toNat * 2 ^ (-n).toNat = man * 2 ^ exp.toNat * 2 ^ (-(exp + n)).toNat * 2 ^ n.toNat := by
    rw [Int.mul_assoc, Int.mul_assoc, Int.mul_assoc, Int.mul_assoc, ← Int.pow_add, ← Int.pow_add, ← Int.pow_add, ← Int.pow_add]
    congr 2; omega
  unfold sgn
  split
  · rw [Int.neg_mul, Int.neg_mul, Int.neg_mul, Int.neg_mul, key]
  · exact key
theorem shift_law0 {x1 y1 x2 y2 u v : Int} (h1 : Worth 0 0 0 x1 y1) (h2 : Worth 0 0 0 x2 y2) : mulI (mulI x1 y2) u = mulI (mulI x2 y1) v := by
  obtain ⟨rfl, rfl⟩ := worth_eq h1
  obtain ⟨rfl, rfl⟩ := worth_eq h2
  simp only [mulI_eq, sgn0, Int.zero_mul]
end -- MW
section -- C23
local macro_rules | `(tactic| walk_at "pad 23") => `(tactic| skip)
local macro_rules | `(tactic| walk_at "pad 24") => `(tactic| skip)
local macro_rules | `(tactic| walk_at "pad 25") => `(tactic| skip)
local macro_rules | `(tactic| walk_at "pad 26") => `(tactic| skip)
local macro_rules | `(tactic| walk_at "pad 27") => `(tactic| skip)
local macro_rules | `(tactic| walk_at "pad 28") => `(tactic| skip)
local macro_rules | `(tactic| walk_at "pad 29") => `(tactic| skip)
local macro_rules | `(tactic| walk_at "pad 30") => `(tactic| skip)
local macro_rules | `(tactic| walk_at "pad 31") => `(tactic| skip)
local macro_rules | `(tactic| walk_at "pad 32") => `(tactic| skip)
local macro_rules | `(tactic| walk_at "pad 33") => `(tactic| skip)
local macro_rules | `(tactic| walk_at "pad 34") => `(tactic| skip)
local macro_rules | `(tactic| walk_at "pad 35") => `(tactic| skip)
local macro_rules | `(tactic| walk_at "pad 36") => `(tactic| skip)
open PySem.Builtin.Int (intBits)

section
local macro_rules | `(tactic| walk_at "binaryOp Add int int") => `(tactic| (k_here; (with_reducible refine add_int ?_); (try dsimp only)))
local macro_rules | `(tactic| walk_at "binaryOp Sub int int") => `(tactic| (k_here; (with_reducible refine sub_int ?_); (try dsimp only)))
local macro_rules | `(tactic| walk_at "binaryOp RShift int int") => `(tactic| (k_here; (with_reducible refine shr_rule (by omega) ?_); (try dsimp only)))
local macro_rules | `(tactic| walk_at "inplaceOp RShift int int") => `(tactic| (k_here; (with_reducible refine ishr_rule (by omega) ?_); (try dsimp only)))
local macro_rules | `(tactic| walk_at "binaryOp BitAnd int int") => `(tactic| (k_here; (with_reducible refine band_rule ?_); (try dsimp only)))
local macro_rules | `(tactic| walk_at "call builtin:int.bit_length") => `(tactic| (k_here; (with_reducible refine bl_rule ?_); (try dsimp only)))
local macro_rules | `(tactic| walk_at "compareOp Eq int int") => `(tactic| (k_here; (with_reducible refine eqb_rule ?_); (try dsimp only)))
local macro_rules | `(tactic| walk_at "truthy int") => `(tactic| (k_here; (with_reducible refine tru_rule ?_); (try dsimp only)))
local macro_rules | `(tactic| walk_at "ite") => `(tactic| (k_here; k_openite; first
  | (with_reducible refine ite_yes (by first | assumption | omega) ?_)
  | (with_reducible refine ite_no (by first | assumption | omega) ?_)
  | (with_reducible refine ite_nyes (by first | assumption | omega) ?_)
  | (with_reducible refine ite_nno (by first | assumption | omega) ?_)
  | ((with_reducible refine ite_split ?_ ?_) <;> intro _)
  | ((with_reducible refine ite_nsplit ?_ ?_) <;> intro _)
  | (with_reducible refine ite_pos (by assumption) ?_)
  | (with_reducible refine ite_isFalse (by assumption) ?_)
  | ((with_reducible refine ite_splitb ?_ ?_) <;> intro _)))
local macro_rules | `(tactic| walk_at "binaryOp LShift int int") => `(tactic| (k_here; (with_reducible refine shl_rule (by omega) (by first | omega | assumption) ?_); (try dsimp only)))
local macro_rules | `(tactic| k_mem) => `(tactic| first | with_reducible assumption | (refine' List.mem_cons_of_mem _ ?_; k_mem))

local macro_rules | `(tactic| walk_at "compareOp Eq str str") => `(tactic| (k_here; first | (with_reducible refine eq_n ?_) | (with_reducible refine eq_f ?_) | (with_reducible refine eq_c ?_) | (with_reducible refine eq_d ?_) | (with_reducible refine eq_u ?_)))
local macro_rules | `(tactic| walk_at "subscriptTail") => `(tactic| (k_here; first
  | ((with_reducible refine' sd_rule ?F ?X ?h ?_); (case F => k_asm); (case X => k_asm); (case h => with_reducible assumption); (try dsimp only))
  | ((with_reducible refine' sd2_rule ?F ?X ?h ?g ?_); (case F => k_asm); (case X => k_asm); (case h => with_reducible assumption); (case g => with_reducible assumption))
  | ((with_reducible refine' rec_rule ?F ?X ?_); (case F => k_asm); (case X => k_asm); (try dsimp only))))

local macro_rules | `(tactic| walk_at "binaryOp LShift int int") => `(tactic| (k_here; (with_reducible refine shl1_rule (by omega) (by omega) ?_); (try dsimp only)))
local macro_rules | `(tactic| walk_at "binaryOp BitXor int int") => `(tactic| (k_here; (with_reducible refine xor0_rule (by assumption) ?_); (try dsimp only)))
local macro_rules | `(tactic| walk_at "call builtin:divmod") => `(tactic| (k_here; (with_reducible refine' divmod_rule ?F ?N ?a ?b ?_); (case F => k_asm); (case N => k_asm); (case a => omega); (case b => omega); (intro h' D' F' N'; (try dsimp only); (try k_sweep))))

local macro_rules | `(tactic| walk_at "binaryOp Mult int int") => `(tactic| (k_here; (with_reducible refine mulb_rule (by assumption) (by assumption) (by decide) ?_); (try dsimp only)))
local macro_rules | `(tactic| walk_at "inplaceOp Pow int int") => `(tactic| (k_here; (with_reducible refine iipw_rule (by omega) (by omega) ?_); (try dsimp only)))
local macro_rules | `(tactic| walk_at "binaryOp FloorDiv int int") => `(tactic| (k_here; (with_reducible refine fdv_rule (by omega) (by decide) ?_); (try dsimp only)))
local macro_rules | `(tactic| walk_at "binaryOp Pow int int") => `(tactic| (k_here; (with_reducible refine pow2_rule (by omega) (by omega) ?_); (try dsimp only)))

local macro_rules | `(tactic| walk_at "binaryOp FloorDiv int int") => `(tactic| (k_here; first | (with_reducible refine edivp_rule (by omega) ?_) | (with_reducible refine ediv_rule (by decide) (by decide) ?_); (try dsimp only)))
local macro_rules | `(tactic| walk_at "binaryOp Mod int int") => `(tactic| (k_here; first | (with_reducible refine emodp_rule ?_) | (with_reducible refine emod_rule (by decide) ?_); (try dsimp only)))
local macro_rules | `(tactic| walk_at "compareOp Eq ref ref") => `(tactic| (k_here; k_dflt ((refine' eq4_rule ?h1 ?h2 ?h3 ?_); (case h1 => exact News.get (by k_asm) (by k_mem)); (case h2 => exact News.get (by k_asm) (by k_mem)); (case h3 => first | ktr_units | omega))))
local macro_rules | `(tactic| walk_at "subscriptTail Name Slice") => `(tactic| (k_here; (refine' slice_two (s := ⟨_, _, _, _, _⟩) ?F ?N ?t ?_); (case F => k_asm); (case N => k_asm); (case t => exact tup4 (by k_asm) (by k_mem)); (intro D' h' F' N'; (try dsimp only); (try k_sweep))))

set_option maxHeartbeats 4000000 in
theorem rounded0_tells (w : World) (news : Led) (r : Rnd) (above below prec : Int) (t1 t2 t3 t4 : Tok) (ha : above = 0) :
    Tell w 119 news [.int above t1, .int below t2, .int prec t3, .str r.str t4] 1 (fun v tl => ∃ D ta tb tc td, v = .ref D ∧ tl = [(D, I4 0 0 0 0 ta tb tc td)]) := by
  (try unfold Tup4); unfold Tell; k_fill
  intro p loose mean mg mb dp un gd cn cs a ccd cl outer A₀ base h₀ L m s Q E B F X N T hk hd hu hret
  w_top on
  refine wpAny_call ?_
  k_dflt (refine' code_def ?k1 ?k2 ?k3 ?k4 ?k5 ?kA ?kF ?kK ?k6 ?k7 ?k8 ?k9 ?kB ?_ ?c2 ?c3 ?c4 ?c5; (case kA => exact rfl); (case kF => exact rfl); (case kK => assumption); (case k1 => k_asm); (case k2 => k_asm); (case k3 => k_asm); (case k4 => k_asm); (case k5 => k_asm); (case k6 => k_is); (case k7 => k_is); (case k8 => ktr_room); (case k9 => first | exact BindsTo.of_eq rfl | exact binds_K (by k_in) rfl (by k_is) rfl rfl rfl); (case c5 => decide); (case kB => exact locs rfl); (case c2 => exact rfl); (case c3 => exact rfl); (case c4 => exact rfl); k_whole; intro g' L' h' FG' F' N' B' X' T'; (try dsimp only); (try k_lift B'); (try k_fold))

  k_steps
  all_goals exact hret _ [_] _ _ ⟨_, _, _, _, _, rfl, rfl⟩ (by assumption) (by assumption)
set_option maxHeartbeats 4000000 in
theorem leadsZ_tells (w : World) (news : Led) (r : Rnd) (S : Addr) (n : Int) (t1 t2 t3 t4 t5 t6 : Tok) (hS : (S, I4 0 0 0 0 t1 t2 t3 t4) ∈ news) (hn : n ≤ 60) (hn2 : -40 ≤ n) :
    Tell w 147 news [.ref S, .int n t5, .str r.str t6] 2 (fun v tl => v = .bool false ∧ tl = []) := by
  (try unfold Tup4); unfold Tell; k_fill
  intro p loose mean mg mb dp un gd cn cs a ccd cl outer A₀ base h₀ L m s Q E B F X N T hk hd hu hret
  w_top on
  refine wpAny_call ?_
  k_dflt (refine' code_def ?k1 ?k2 ?k3 ?k4 ?k5 ?kA ?kF ?kK ?k6 ?k7 ?k8 ?k9 ?kB ?_ ?c2 ?c3 ?c4 ?c5; (case kA => exact rfl); (case kF => exact rfl); (case kK => assumption); (case k1 => k_asm); (case k2 => k_asm); (case k3 => k_asm); (case k4 => k_asm); (case k5 => k_asm); (case k6 => k_is); (case k7 => k_is); (case k8 => ktr_room); (case k9 => first | exact BindsTo.of_eq rfl | exact binds_K (by k_in) rfl (by k_is) rfl rfl rfl); (case c5 => decide); (case kB => exact locs rfl); (case c2 => exact rfl); (case c3 => exact rfl); (case c4 => exact rfl); k_whole; intro g' L' h' FG' F' N' B' X' T'; (try dsimp only); (try k_lift B'); (try k_fold))

  k_steps
  all_goals first
    | exact hret _ [] _ _ ⟨rfl, rfl⟩ (by assumption) (by assumption)
    | (exfalso; omega)
end
/-- what law makes of the worth -/
def AB (n x y above below : Int) : Prop :=
  (0 ≤ n ∧ above = ipw x n ∧ below = ipw y n) ∨
  (n < 0 ∧ ((0 < ipw x (-n) ∧ above = ipw y (-n) ∧ below = ipw x (-n)) ∨ (¬ 0 < ipw x (-n) ∧ above = -(ipw y (-n)) ∧ below = -(ipw x (-n)))))
def ExactC (man n : Int) : Prop := n = -1 ∨ (0 ≤ n ∧ ((intBits man : Int) * n < 1000 ∨ n < 3))
theorem not_exactC {man n : Int} (h1 : ¬ n = -1) (h2 : n < 0 ∨ (¬ (intBits man : Int) * n < 1000 ∧ ¬ n < 3)) : ¬ ExactC man n := by
  rintro (h | ⟨h, h3 | h3⟩)
  · exact h1 h
  · rcases h2 with h2 | h2
    · omega
    · exact h2.1 h3
  · rcases h2 with h2 | h2
    · omega
    · exact h2.2 h3
theorem zero_above {x y n : Int} (hw : Worth 0 0 0 x y) (hn : 1 ≤ n) : ipw x n = 0 := by
  obtain ⟨rfl, _⟩ := worth_eq hw
  rw [ipw_eq, Int.zero_mul, sgn0]
  exact Int.zero_pow (by omega)
theorem ipw_bits81 {x n : Int} (h : intBits x ≤ 81) (hn : n ≤ 60) : intBits (ipw x n) ≤ 4901 := by
  rw [ipw_eq]
  refine Nat.le_trans (intBits_pow_le h n.toNat) ?_
  have := Nat.mul_le_mul_left 81 (show n.toNat ≤ 60 by omega)
  omega
theorem ipw_bits21 {x n : Int} (h : intBits x ≤ 21) (hn : n ≤ 60) : intBits (ipw x n) ≤ 2000 := by
  rw [ipw_eq]
  refine Nat.le_trans (intBits_pow_le h n.toNat) ?_
  have := Nat.mul_le_mul_left 21 (show n.toNat ≤ 60 by omega)
  omega
theorem sgn_ne {sg A : Int} (h : 0 < A) : sgn sg A ≠ 0 := by unfold sgn; split <;> omega
/-- the fraction at hand: not 0 above, positive below -/
theorem AB.facts {sg man exp n x y above below : Int} (hs : sg = 0 ∨ sg = 1) (hm : 0 < man) (hw : Worth sg man exp x y) (hx : intBits x ≤ 81) (hy : intBits y ≤ 21) (hn : -40 ≤ n) (hn2 : n ≤ 60) (h : AB n x y above below) :
    above ≠ 0 ∧ 0 < below ∧ intBits above ≤ 4901 ∧ intBits below ≤ 4901 := by
  rcases h with ⟨h0, rfl, rfl⟩ | ⟨h0, h⟩
  · obtain ⟨e1, e2⟩ := above_eq hs h0 hw
    refine ⟨?_, ?_, ipw_bits81 hx hn2, Nat.le_trans (ipw_bits21 hy hn2) (by decide)⟩
    · rw [e1]; exact sgn_ne (Int.mul_pos (Int.pow_pos hm) (tp _))
    · rw [e2]; exact tp _
  · obtain ⟨e1, e2⟩ := above_eq hs (show 0 ≤ -n by omega) hw
    have hx0 : ipw x (-n) ≠ 0 := by rw [e1]; exact sgn_ne (Int.mul_pos (Int.pow_pos hm) (tp _))
    have hy0 : 0 < ipw y (-n) := by rw [e2]; exact tp _
    have bx := ipw_bits81 (n := -n) hx (by omega)
    have by' := ipw_bits21 (n := -n) hy (by omega)
    rcases h with ⟨h1, rfl, rfl⟩ | ⟨h1, rfl, rfl⟩
    · exact ⟨by omega, h1, by omega, by omega⟩
    · exact ⟨by omega, by omega, intBits_neg_le (by omega), intBits_neg_le (by omega)⟩
theorem AB.below3 {sg man n x y above below : Int} (hs : sg = 0 ∨ sg = 1) (hm : 0 < man) (hx : intBits x ≤ 81) (hy : intBits y ≤ 21) (hn2 : n ≤ 60) (hc : ExactC man n) (h : AB n x y above below) : intBits below ≤ 3000 := by
  rcases h with ⟨h0, rfl, rfl⟩ | ⟨h0, h⟩
  · exact Nat.le_trans (ipw_bits21 hy hn2) (by decide)
  · have hn : n = -1 := by rcases hc with hc | hc <;> omega
    subst hn
    have e : ipw x (- -1) = x := by rw [ipw_eq, show (- -1 : Int).toNat = 1 from rfl, Int.pow_one]
    rw [e] at h
    rcases h with ⟨h1, rfl, rfl⟩ | ⟨h1, rfl, rfl⟩
    · omega
    · exact intBits_neg_le (by omega)
theorem exact_all {r : Rnd} {sg man exp n prec sg' m e b x y above below sg9 m9 e9 b9 : Int} (hs : sg = 0 ∨ sg = 1) (hm : 0 < man) (hp : 1 ≤ prec) (hw : Worth sg man exp x y) (hab : AB n x y above below) (hc : ExactC man n) (ht : ToldOK r sg man exp n prec sg' m e b)
    (H : (above < 0 ∧ sg9 = 1 ∧ RO r 1 (-above) below prec m9 e9 b9) ∨ (0 < above ∧ sg9 = 0 ∧ RO r 0 above below prec m9 e9 b9)) : sg' = sg9 ∧ m = m9 ∧ e = e9 ∧ b = b9 := by
  rcases ht with ⟨c1, rfl, K⟩ | ⟨c1, rfl, q, z, hq, hN⟩ | ⟨c1, rfl, _⟩
  · rcases hab with ⟨h0, rfl, rfl⟩ | ⟨h0, _⟩
    · exact exact_pos hs hm hp c1 hw (by rcases hc with hc | ⟨_, hc⟩; omega; exact hc) K H
    · omega
  · rcases hab with ⟨h0, _, _⟩ | ⟨h0, h⟩
    · omega
    · exact exact_inv hs hm hp c1 hw hq hN h H
  · exfalso
    rcases hc with hc | hc <;> omega
theorem near_all {r : Rnd} {sg man exp n prec sg' m e b x y above below : Int} (hs : sg = 0 ∨ sg = 1) (hm : 0 < man) (hp : 1 ≤ prec) (hw : Worth sg man exp x y) (hab : AB n x y above below) (hc : ¬ ExactC man n) (hl : LeadsOK r sg man n) (ht : ToldOK r sg man exp n prec sg' m e b) : NearP r sg' m e above below prec := by
  rcases ht with ⟨c1, rfl, K⟩ | ⟨c1, rfl, q, z, hq, hN⟩ | ⟨c1, rfl, mi, ei, bi, K, q, z, hq, hN⟩
  · rcases hab with ⟨h0, rfl, rfl⟩ | ⟨h0, _⟩
    · exact (near_pos hs hm hp c1 hw hl (fun z => hc (.inr ⟨h0, z⟩)) K).1
    · omega
  · exact absurd (.inl c1) hc
  · rcases hab with ⟨h0, _, _⟩ | ⟨h0, h⟩
    · omega
    · obtain ⟨k1, k2⟩ := near_neg hs hm hp h0 hw hl K hq hN
      rcases h with ⟨h1, rfl, rfl⟩ | ⟨h1, rfl, rfl⟩
      · exact k1 h1
      · exact k2 h1
theorem roundedL_tells (w : World) (news : Led) (r : Rnd) (sg man exp n x y sg' m e b above below prec : Int) (t1 t2 t3 t4 : Tok) (hs : sg = 0 ∨ sg = 1) (hm : 0 < man) (hp : 1 ≤ prec) (hp2 : prec ≤ 90) (hw : Worth sg man exp x y) (hx : intBits x ≤ 81) (hy : intBits y ≤ 21) (hn : -40 ≤ n) (hn2 : n ≤ 60)
    (hab : AB n x y above below) (hc : ExactC man n) (ht : ToldOK r sg man exp n prec sg' m e b) :
    Tell w 119 news [.int above t1, .int below t2, .int prec t3, .str r.str t4] 1 (fun v tl => ∃ D ta tb tc td, v = .ref D ∧ tl = [(D, I4 sg' m e b ta tb tc td)]) := by
  obtain ⟨f1, f2, f3, f4⟩ := hab.facts hs hm hw hx hy hn hn2
  refine (rounded_tells w news r above below prec t1 t2 t3 t4 f1 f2 (by omega) (hab.below3 hs hm hx hy hn2 hc) hp (by omega)).deepen (Nat.le_refl _) ?_
  rintro v tl ⟨D, sg9, m9, e9, b9, ta, tb, tc, td, e1, e2, H⟩
  obtain ⟨rfl, rfl, rfl, rfl⟩ := exact_all hs hm hp hw hab hc ht H
  exact ⟨D, ta, tb, tc, td, e1, e2⟩
theorem roundedZ_tells (w : World) (news : Led) (r : Rnd) (n x y above below prec : Int) (t1 t2 t3 t4 : Tok) (hp : 1 ≤ prec) (hp2 : prec ≤ 90) (hn : n = 0) (ha : above = ipw x n) (hb : below = ipw y n) :
    Tell w 119 news [.int above t1, .int below t2, .int prec t3, .str r.str t4] 1 (fun v tl => ∃ D ta tb tc td, v = .ref D ∧ tl = [(D, I4 0 1 0 1 ta tb tc td)]) := by
  subst hn
  have e1 : ∀ x : Int, ipw x 0 = 1 := fun x => by rw [ipw_eq]; exact Int.pow_zero x
  have a1 : above = 1 := by rw [ha, e1]
  have b1 : below = 1 := by rw [hb, e1]
  refine (rounded_tells w news r above below prec t1 t2 t3 t4 (by omega) (by omega) (by rw [a1]; decide) (by rw [b1]; decide) hp (by omega)).deepen (Nat.le_refl _) ?_
  rintro v tl ⟨D, sg9, m9, e9, b9, ta, tb, tc, td, e1, e2, H⟩
  rw [ha, hb] at H
  obtain ⟨rfl, rfl, rfl, rfl⟩ := exact_zero hp H
  exact ⟨D, ta, tb, tc, td, e1, e2⟩
theorem nearL_tells (w : World) (news : Led) (r : Rnd) (S : Addr) (sg man exp n x y sg' m e b above below prec : Int) (t1 t2 t3 t4 t5 t6 t7 t8 : Tok) (hS : (S, I4 sg' m e b t1 t2 t3 t4) ∈ news) (hs : sg = 0 ∨ sg = 1) (hm : 0 < man) (hb : intBits man ≤ 60) (h1 : -20 ≤ exp) (h2 : exp ≤ 20) (hp : 1 ≤ prec) (hp2 : prec ≤ 90) (hw : Worth sg man exp x y) (hx : intBits x ≤ 81) (hy : intBits y ≤ 21) (hn : -40 ≤ n) (hn2 : n ≤ 60)
    (hab : AB n x y above below) (hc : ¬ ExactC man n) (hl : LeadsOK r sg man n) (ht : ToldOK r sg man exp n prec sg' m e b) :
    Tell w 126 news [.ref S, .int above t5, .int below t6, .int prec t7, .str r.str t8] 20 (fun v tl => v = .bool true ∧ tl = []) := by
  obtain ⟨f1, f2, f3, f4⟩ := hab.facts hs hm hw hx hy hn hn2
  obtain ⟨rfl, g2, g3, g4, g5, g6, g7, g8⟩ := ht.facts hs hm hb h1 h2 hp hp2 hn hn2
  exact near_tells w news r S sg' m e above below prec t1 t2 t3 t4 t5 t6 t7 t8 hS g2 g3 g4 g5 g6 (by omega) (by omega) hp (by omega) g7 g8 (near_all hs hm hp hw hab hc hl ht)
section
variable {prog : Program} {w : World} {A : Around} {E : Value → Shared → Prop} {s : Shared} {h₀ : Heap} {L : Addr} {m : Str → Option Value} {a b c d n : Int} {t u ta tb tc td ua ub uc ud : Tok} {Q : Value → Shared → Prop} {D1 D2 : Addr}
theorem eqT_rule (h1 : s.heap.get? D1 = some (I4 a b c d ta tb tc td)) (h2 : s.heap.get? D2 = some (I4 a b c d ua ub uc ud)) (hu : A.units + 64 < cLine) (h : Q (.bool true) s) :
    wpAny (model prog w) A (compareOp .Eq (.ref D1) (.ref D2)) Q E s := eq4_rule h1 h2 hu (by rw [decide_eq_true ⟨rfl, rfl, rfl, rfl⟩]; exact h)
theorem eqT22 (F : Fr h₀ L s.heap m) (X : (Mine.hd.heap_39 w.params).In h₀) (h1 : s.heap.get? D1 = some (I4 0 0 0 0 ta tb tc td)) (hu : A.units + 64 < cLine) (h : Q (.bool true) s) :
    wpAny (model prog w) A (compareOp .Eq (.ref 22) (.ref D1)) Q E s := eqL22 F X h1 hu h
theorem eqT23 (F : Fr h₀ L s.heap m) (X : (Mine.hd.heap_39 w.params).In h₀) (h1 : s.heap.get? D1 = some (I4 0 1 0 1 ta tb tc td)) (hu : A.units + 64 < cLine) (h : Q (.bool true) s) :
    wpAny (model prog w) A (compareOp .Eq (.ref 23) (.ref D1)) Q E s := eqL23 F X h1 hu h
theorem ne_rule (he : a = b) (h : Q (.bool false) s) : wpAny (model prog w) A (compareOp .NotEq (.int a t) (.int b u)) Q E s := PyProof.Rows.ne_int (by subst he; first | simpa using h)
theorem absP (hn : 0 ≤ n) (h : ∀ u tk, Q (.int n u) { s with toks := tk }) : wpAny (model prog w) A (call (.builtin "abs") [.int n t]) Q E s := call_abs_int (fun u tk => by rw [if_neg (by omega)]; exact h u tk)
theorem absN (hn : n < 0) (h : ∀ u tk, Q (.int (-n) u) { s with toks := tk }) : wpAny (model prog w) A (call (.builtin "abs") [.int n t]) Q E s := call_abs_int (fun u tk => by rw [if_pos hn]; exact h u tk)
theorem max0_rule {b : Int} {news : Led} (hh : A.handled = none) (F : Fr h₀ L s.heap m) (N : News h₀ L s.heap news)
    (h : ∀ (c : Int) (tt : Tok) (h' : Heap) (tk : Nat), 0 ≤ c → c.toNat = b.toNat → c ≤ (b.toNat : Int) → Fr h₀ L h' m → News h₀ L h' news → Q (.int c tt) { s with heap := h', toks := tk }) :
    wpAny (model prog w) A (call (.builtin "max") [.int 0 t, .int b u]) Q E s :=
  max_two_N hh F N (fun h' tk F' N' => h _ _ h' tk (by split <;> omega) (by split <;> omega) (by split <;> omega) F' N')
end
end -- C23
section -- L0
open PySem.Builtin.Int (intBits)

def recOf {v : Program} {ls : List Str} {xl sy} {row d b c} {R : Prop} (_ : WalkO v ls xl sy row d b c → R) : DefRec := d
def lawD : DefRec := recOf Mine.hd
abbrev lawCl (L : Addr) : List (Str × Addr) := [(Str.ofString "rnd", L + 1 + 1 + 1), (Str.ofString "prec", L + 1 + 1), (Str.ofString "first", L + 1)]
/-- from statement k of law on -/
abbrev LawTail (w : World) (k : Nat) (PRE : Addr → (Str → Option Value) → Led → Prop) : Prop :=
  ∀ (p : Program) (loose : List Str) (mean : ExcName → Option Value) (mg mb : Str → Option Value) (dp un : Nat) (gd : Option (List Code)) (a : Addr) (ccd : Value) (A₀ : Around) (h₀ : Heap) (L : Addr) (m : Str → Option Value) (news : Led) (s : Shared) (Q : Flow → Shared → Prop) (E : Value → Shared → Prop),
    Below A₀ h₀ [] h₀ → Fr h₀ L s.heap m → (Mine.hd.heap_39 w.params).In h₀ → News h₀ L s.heap news → Top p loose mean mg mb h₀ →
    dp + 100 < recursionLimit → un + 1000 < cLine → PRE L m news →
    (∀ (h' : Heap) (m' : Str → Option Value) (tk' : Nat), Fr h₀ L h' m' → Q (.ret (.bool true)) { s with heap := h', toks := tk' }) →
    wpAny (model PySem.Challenge.rw_ah5005_01.row.prog w) (ktrTop dp un gd lawD.name lawD.scope L a ccd (lawCl L) []) (execs (lawD.body.drop k) (envX lawD.name lawD.scope L a ccd (lawCl L))) Q E s
theorem upd_same {x : Str} {v : Value} {m : Str → Option Value} (h : m x = some v) : m = fun z => if z = x then some v else m z := by
  funext z
  by_cases hz : z = x
  · subst hz; rw [if_pos rfl, h]
  · rw [if_neg hz]
theorem News.pick5 {h₀ h : Heap} {L : Addr} {news : Led} {e1 e2 e3 e4 e5 : Addr × Obj} (N : News h₀ L h news) (h1 : e1 ∈ news) (h2 : e2 ∈ news) (h3 : e3 ∈ news) (h4 : e4 ∈ news) (h5 : e5 ∈ news) : News h₀ L h [e1, e2, e3, e4, e5] := by
  intro p hp
  simp only [List.mem_cons, List.not_mem_nil, or_false] at hp
  rcases hp with rfl | rfl | rfl | rfl | rfl
  · exact N _ h1
  · exact N _ h2
  · exact N _ h3
  · exact N _ h4
  · exact N _ h5
theorem News.pick4 {h₀ h : Heap} {L : Addr} {news : Led} {e1 e2 e3 e4 : Addr × Obj} (N : News h₀ L h news) (h1 : e1 ∈ news) (h2 : e2 ∈ news) (h3 : e3 ∈ news) (h4 : e4 ∈ news) : News h₀ L h [e1, e2, e3, e4] := by
  intro p hp
  simp only [List.mem_cons, List.not_mem_nil, or_false] at hp
  rcases hp with rfl | rfl | rfl | rfl
  · exact N _ h1
  · exact N _ h2
  · exact N _ h3
  · exact N _ h4
theorem roundedQ_tells (w : World) (news : Led) (r : Rnd) (n x y above below prec : Int) (t1 t2 t3 t4 : Tok) (hp : 1 ≤ prec) (hp2 : prec ≤ 90) (hn : n = 0) (hab : AB n x y above below) :
    Tell w 119 news [.int above t1, .int below t2, .int prec t3, .str r.str t4] 1 (fun v tl => ∃ D ta tb tc td, v = .ref D ∧ tl = [(D, I4 0 1 0 1 ta tb tc td)]) := by
  rcases hab with ⟨_, e1, e2⟩ | ⟨h, _⟩
  · exact roundedZ_tells w news r n x y above below prec t1 t2 t3 t4 hp hp2 hn e1 e2
  · omega
end -- L0
section -- L1
local macro_rules | `(tactic| walk_at "pad 33") => `(tactic| skip)
local macro_rules | `(tactic| walk_at "pad 34") => `(tactic| skip)
local macro_rules | `(tactic| walk_at "pad 35") => `(tactic| skip)
local macro_rules | `(tactic| walk_at "pad 36") => `(tactic| skip)
local macro_rules | `(tactic| walk_at "pad 37") => `(tactic| skip)
open PySem.Builtin.Int (intBits)

local macro_rules | `(tactic| walk_at "binaryOp Add int int") => `(tactic| (k_here; (with_reducible refine add_int ?_); (try dsimp only)))
local macro_rules | `(tactic| walk_at "binaryOp Sub int int") => `(tactic| (k_here; (with_reducible refine sub_int ?_); (try dsimp only)))
local macro_rules | `(tactic| walk_at "binaryOp RShift int int") => `(tactic| (k_here; (with_reducible refine shr_rule (by omega) ?_); (try dsimp only)))
local macro_rules | `(tactic| walk_at "inplaceOp RShift int int") => `(tactic| (k_here; (with_reducible refine ishr_rule (by omega) ?_); (try dsimp only)))
local macro_rules | `(tactic| walk_at "binaryOp BitAnd int int") => `(tactic| (k_here; (with_reducible refine band_rule ?_); (try dsimp only)))
local macro_rules | `(tactic| walk_at "call builtin:int.bit_length") => `(tactic| (k_here; (with_reducible refine bl_rule ?_); (try dsimp only)))
local macro_rules | `(tactic| walk_at "compareOp Eq int int") => `(tactic| (k_here; (with_reducible refine eqb_rule ?_); (try dsimp only)))
local macro_rules | `(tactic| walk_at "truthy int") => `(tactic| (k_here; (with_reducible refine tru_rule ?_); (try dsimp only)))
local macro_rules | `(tactic| walk_at "ite") => `(tactic| (k_here; k_openite; first
  | (with_reducible refine ite_yes (by first | assumption | omega) ?_)
  | (with_reducible refine ite_no (by first | assumption | omega) ?_)
  | (with_reducible refine ite_nyes (by first | assumption | omega) ?_)
  | (with_reducible refine ite_nno (by first | assumption | omega) ?_)
  | ((with_reducible refine ite_split ?_ ?_) <;> intro _)
  | ((with_reducible refine ite_nsplit ?_ ?_) <;> intro _)
  | (with_reducible refine ite_pos (by assumption) ?_)
  | (with_reducible refine ite_isFalse (by assumption) ?_)
  | ((with_reducible refine ite_splitb ?_ ?_) <;> intro _)))
local macro_rules | `(tactic| walk_at "binaryOp LShift int int") => `(tactic| (k_here; (with_reducible refine shl_rule (by omega) (by first | omega | assumption) ?_); (try dsimp only)))
local macro_rules | `(tactic| k_mem) => `(tactic| first | with_reducible assumption | (refine' List.mem_cons_of_mem _ ?_; k_mem))

local macro_rules | `(tactic| walk_at "compareOp Eq str str") => `(tactic| (k_here; first | (with_reducible refine eq_n ?_) | (with_reducible refine eq_f ?_) | (with_reducible refine eq_c ?_) | (with_reducible refine eq_d ?_) | (with_reducible refine eq_u ?_)))
local macro_rules | `(tactic| walk_at "subscriptTail") => `(tactic| (k_here; first
  | ((with_reducible refine' sd_rule ?F ?X ?h ?_); (case F => k_asm); (case X => k_asm); (case h => with_reducible assumption); (try dsimp only))
  | ((with_reducible refine' sd2_rule ?F ?X ?h ?g ?_); (case F => k_asm); (case X => k_asm); (case h => with_reducible assumption); (case g => with_reducible assumption))
  | ((with_reducible refine' rec_rule ?F ?X ?_); (case F => k_asm); (case X => k_asm); (try dsimp only))))

local macro_rules | `(tactic| walk_at "binaryOp LShift int int") => `(tactic| (k_here; (with_reducible refine shl1_rule (by omega) (by omega) ?_); (try dsimp only)))
local macro_rules | `(tactic| walk_at "binaryOp BitXor int int") => `(tactic| (k_here; (with_reducible refine xor0_rule (by assumption) ?_); (try dsimp only)))
local macro_rules | `(tactic| walk_at "call builtin:divmod") => `(tactic| (k_here; (with_reducible refine' divmod_rule ?F ?N ?a ?b ?_); (case F => k_asm); (case N => k_asm); (case a => omega); (case b => omega); (intro h' D' F' N'; (try dsimp only); (try k_sweep))))

local macro_rules | `(tactic| walk_at "binaryOp Mult int int") => `(tactic| (k_here; (with_reducible refine mulb_rule (by assumption) (by assumption) (by decide) ?_); (try dsimp only)))
local macro_rules | `(tactic| walk_at "inplaceOp Pow int int") => `(tactic| (k_here; (with_reducible refine iipw_rule (by omega) (by omega) ?_); (try dsimp only)))
local macro_rules | `(tactic| walk_at "binaryOp FloorDiv int int") => `(tactic| (k_here; (with_reducible refine fdv_rule (by omega) (by decide) ?_); (try dsimp only)))
local macro_rules | `(tactic| walk_at "binaryOp Pow int int") => `(tactic| (k_here; (with_reducible refine pow2_rule (by omega) (by omega) ?_); (try dsimp only)))

local macro_rules | `(tactic| walk_at "binaryOp FloorDiv int int") => `(tactic| (k_here; first | (with_reducible refine edivp_rule (by omega) ?_) | (with_reducible refine ediv_rule (by decide) (by decide) ?_); (try dsimp only)))
local macro_rules | `(tactic| walk_at "binaryOp Mod int int") => `(tactic| (k_here; first | (with_reducible refine emodp_rule ?_) | (with_reducible refine emod_rule (by decide) ?_); (try dsimp only)))
local macro_rules | `(tactic| walk_at "compareOp Eq ref ref") => `(tactic| (k_here; k_dflt ((refine' eq4_rule ?h1 ?h2 ?h3 ?_); (case h1 => exact News.get (by k_asm) (by k_mem)); (case h2 => exact News.get (by k_asm) (by k_mem)); (case h3 => first | ktr_units | omega))))
local macro_rules | `(tactic| walk_at "subscriptTail Name Slice") => `(tactic| (k_here; (refine' slice_two (s := ⟨_, _, _, _, _⟩) ?F ?N ?t ?_); (case F => k_asm); (case N => k_asm); (case t => exact tup4 (by k_asm) (by k_mem)); (intro D' h' F' N'; (try dsimp only); (try k_sweep))))

local macro_rules | `(tactic| ktr_rel) => `(tactic| first
  | with_reducible assumption
  | ((with_reducible apply bits_abs); ktr_rel)
  | ((with_reducible apply ipw2_bits1000); omega)
  | ((with_reducible apply mulI_bits2) <;> ktr_rel)
  | ((with_reducible apply intBits_sub_le) <;> ktr_rel)
  | ((with_reducible apply intBits_neg_le); ktr_rel))
local macro_rules | `(tactic| walk_at "binaryOp Mult int int") => `(tactic| (k_here; (with_reducible refine' mulb_rule ?a ?b ?c ?_); (case a => ktr_rel); (case b => ktr_rel); (case c => decide); (try dsimp only)))
local macro_rules | `(tactic| walk_at "subscriptTail Name Constant ref int") => `(tactic| (k_here; first | ((with_reducible refine' it4_0 ?N ?m ?_); (case N => with_reducible assumption); (case m => k_mem)) | ((with_reducible refine' it4_1 ?N ?m ?_); (case N => with_reducible assumption); (case m => k_mem)) | ((with_reducible refine' it4_2 ?N ?m ?_); (case N => with_reducible assumption); (case m => k_mem)) | ((with_reducible refine' it4_3 ?N ?m ?_); (case N => with_reducible assumption); (case m => k_mem)) | ((with_reducible refine' it2_0 ?N ?m ?_); (case N => with_reducible assumption); (case m => k_mem)) | ((with_reducible refine' it2_1 ?N ?m ?_); (case N => with_reducible assumption); (case m => k_mem))))

local macro_rules | `(tactic| walk_at "compareOp Eq ref ref") => `(tactic| (k_here; first
  | ((with_reducible show wpAny _ _ (compareOp _ _ (Value.ref 22)) _ _ _); k_dflt ((refine' eqR22 ?F ?X ?h1 ?h3 ?_); (case F => k_asm); (case X => k_asm); (case h1 => exact News.get (by k_asm) (by k_mem)); (case h3 => first | ktr_units | omega)))
  | ((with_reducible show wpAny _ _ (compareOp _ (Value.ref 22) _) _ _ _); k_dflt ((refine' eqL22 ?F ?X ?h1 ?h3 ?_); (case F => k_asm); (case X => k_asm); (case h1 => exact News.get (by k_asm) (by k_mem)); (case h3 => first | ktr_units | omega)))
  | ((with_reducible show wpAny _ _ (compareOp _ (Value.ref 23) _) _ _ _); k_dflt ((refine' eqL23 ?F ?X ?h1 ?h3 ?_); (case F => k_asm); (case X => k_asm); (case h1 => exact News.get (by k_asm) (by k_mem)); (case h3 => first | ktr_units | omega)))))
local macro_rules | `(tactic| walk_at "compareOp Eq ref ref") => `(tactic| (k_here; first
  | ((with_reducible show wpAny _ _ (compareOp _ (Value.ref 23) (Value.ref 22)) _ _ _); k_dflt ((refine' eqTT (at23 ?F ?X) (at22 ?F2 ?X2) ?h3 ?_); (case F => k_asm); (case X => k_asm); (case F2 => k_asm); (case X2 => k_asm); (case h3 => first | ktr_units | omega)))
  | ((with_reducible show wpAny _ _ (compareOp _ (Value.ref 22) (Value.ref 22)) _ _ _); k_dflt ((refine' eqTT (at22 ?F ?X) (at22 ?F2 ?X2) ?h3 ?_); (case F => k_asm); (case X => k_asm); (case F2 => k_asm); (case X2 => k_asm); (case h3 => first | ktr_units | omega)))))

local macro_rules | `(tactic| walk_at "call ref") => `(tactic| (k_here; refine halt ?_))
local macro_rules | `(tactic| walk_at "call ref") => `(tactic| (k_here; (with_reducible show wpAny _ _ (call (Value.ref 91) [Value.ref _, Value.int _ _, Value.int _ _, Value.str _ _]) _ _ _); k_dflt ((refine' Tell.use (powL_tells _ _ _ _ _ _ _ _ _ _ _ _ _ _ _ _ ?p0 ?p1 ?p2 ?p3 ?p4 ?p5 ?p6 ?p7 ?p8) ?k1 ?k2 ?k3 ?k4 ?k5 ?k6 ?k7 ?k8 ?_); (case k1 => k_asm); (case k2 => k_asm); (case k3 => k_asm); (case k4 => k_asm); (case k5 => k_asm); (case k6 => first | exact rfl | assumption); (case k7 => first | ktr_room | omega); (case k8 => first | ktr_units | omega); (case p0 => first | with_reducible assumption | k_mem | assumption); (case p1 => first | assumption | omega | decide); (case p2 => first | assumption | omega | decide); (case p3 => first | assumption | omega | decide); (case p4 => first | assumption | omega | decide); (case p5 => first | assumption | omega | decide); (case p6 => first | assumption | omega | decide); (case p7 => first | assumption | omega | decide); (case p8 => first | assumption | exact leads_n _ _ _); (intro v9 tl9 h9 tk9 R9 F9 N9; rcases R9 with ⟨q0, ev9, et9⟩ | ⟨q0, D9, sg9, m9, e9, b9, ta9, tb9, tc9, td9, ev9, et9, H9⟩ <;> subst ev9 <;> subst et9; all_goals ((try dsimp only [List.cons_append, List.nil_append] at N9); (try dsimp only); (try k_sweep); (try k_fold))))))
local macro_rules | `(tactic| walk_at "call ref") => `(tactic| (k_here; (with_reducible show wpAny _ _ (call (Value.ref 119) [Value.int _ _, Value.int _ _, Value.int _ _, Value.str _ _]) _ _ _); k_dflt ((refine' Tell.use (roundedL_tells _ _ _ _ _ _ _ _ _ _ _ _ _ _ _ _ _ _ _ _ ?p0 ?p1 ?p2 ?p3 ?p4 ?p5 ?p6 ?p7 ?p8 ?p9 ?p10 ?p11) ?k1 ?k2 ?k3 ?k4 ?k5 ?k6 ?k7 ?k8 ?_); (case k1 => k_asm); (case k2 => k_asm); (case k3 => k_asm); (case k4 => k_asm); (case k5 => k_asm); (case k6 => first | exact rfl | assumption); (case k7 => first | ktr_room | omega); (case k8 => first | ktr_units | omega); (case p11 => assumption); (case p4 => assumption); (case p5 => assumption); (case p6 => assumption); (case p9 => first | assumption | exact Or.inl ⟨by omega, rfl, rfl⟩ | exact Or.inr ⟨by omega, Or.inl ⟨by assumption, rfl, rfl⟩⟩ | exact Or.inr ⟨by omega, Or.inr ⟨by assumption, rfl, rfl⟩⟩); (case p10 => first | exact Or.inl (by assumption) | exact Or.inr ⟨by omega, Or.inl (by assumption)⟩ | exact Or.inr ⟨by omega, Or.inr (by omega)⟩); (case p0 => first | assumption | omega | decide); (case p1 => first | assumption | omega | decide); (case p2 => first | assumption | omega | decide); (case p3 => first | assumption | omega | decide); (case p7 => first | assumption | omega | decide); (case p8 => first | assumption | omega | decide); (intro v9 tl9 h9 tk9 R9 F9 N9; obtain ⟨D9, ta9, tb9, tc9, td9, ev9, et9⟩ := R9; subst ev9; subst et9; (try dsimp only [List.cons_append, List.nil_append] at N9); (try dsimp only); (try k_sweep); (try k_fold)))))
local macro_rules | `(tactic| walk_at "call ref") => `(tactic| (k_here; (with_reducible show wpAny _ _ (call (Value.ref 126) [Value.ref _, Value.int _ _, Value.int _ _, Value.int _ _, Value.str _ _]) _ _ _); k_dflt ((refine' Tell.use (nearL_tells _ _ _ _ _ _ _ _ _ _ _ _ _ _ _ _ _ _ _ _ _ _ _ _ _ ?p0 ?p1 ?p2 ?p3 ?p4 ?p5 ?p6 ?p7 ?p8 ?p9 ?p10 ?p11 ?p12 ?p13 ?p14 ?p15 ?p16) ?k1 ?k2 ?k3 ?k4 ?k5 ?k6 ?k7 ?k8 ?_); (case k1 => k_asm); (case k2 => k_asm); (case k3 => k_asm); (case k4 => k_asm); (case k5 => k_asm); (case k6 => first | exact rfl | assumption); (case k7 => first | ktr_room | omega); (case k8 => first | ktr_units | omega); (case p16 => assumption); (case p0 => first | with_reducible assumption | k_mem | assumption); (case p8 => assumption); (case p9 => assumption); (case p10 => assumption); (case p13 => first | assumption | exact Or.inl ⟨by omega, rfl, rfl⟩ | exact Or.inr ⟨by omega, Or.inl ⟨by assumption, rfl, rfl⟩⟩ | exact Or.inr ⟨by omega, Or.inr ⟨by assumption, rfl, rfl⟩⟩); (case p14 => exact not_exactC (by assumption) (by first | exact Or.inl (by omega) | exact Or.inr ⟨by assumption, by assumption⟩)); (case p15 => first | assumption | exact leads_n _ _ _); (case p1 => first | assumption | omega | decide); (case p2 => first | assumption | omega | decide); (case p3 => first | assumption | omega | decide); (case p4 => first | assumption | omega | decide); (case p5 => first | assumption | omega | decide); (case p6 => first | assumption | omega | decide); (case p7 => first | assumption | omega | decide); (case p11 => first | assumption | omega | decide); (case p12 => first | assumption | omega | decide); (intro v9 tl9 h9 tk9 R9 F9 N9; obtain ⟨ev9, et9⟩ := R9; subst ev9; subst et9; (try dsimp only [List.cons_append, List.nil_append] at N9); (try dsimp only); (try k_sweep); (try k_fold)))))
local macro_rules | `(tactic| walk_at "call ref") => `(tactic| (k_here; (with_reducible show wpAny _ _ (call (Value.ref 119) [Value.int _ _, Value.int _ _, Value.int _ _, Value.str _ _]) _ _ _); k_dflt ((refine' Tell.use (roundedQ_tells _ _ _ _ _ _ _ _ _ _ _ _ _ ?p0 ?p1 ?p2 ?p3) ?k1 ?k2 ?k3 ?k4 ?k5 ?k6 ?k7 ?k8 ?_); (case k1 => k_asm); (case k2 => k_asm); (case k3 => k_asm); (case k4 => k_asm); (case k5 => k_asm); (case k6 => first | exact rfl | assumption); (case k7 => first | ktr_room | omega); (case k8 => first | ktr_units | omega); (case p2 => assumption); (case p3 => assumption); (case p0 => first | assumption | omega | decide); (case p1 => first | assumption | omega | decide); (intro v9 tl9 h9 tk9 R9 F9 N9; obtain ⟨D9, ta9, tb9, tc9, td9, ev9, et9⟩ := R9; subst ev9; subst et9; (try dsimp only [List.cons_append, List.nil_append] at N9); (try dsimp only); (try k_sweep); (try k_fold)))))
local macro_rules | `(tactic| walk_at "compareOp Eq ref ref") => `(tactic| (k_here; first
  | ((with_reducible show wpAny _ _ (compareOp _ (Value.ref 22) (Value.ref _)) _ _ _); k_dflt ((refine' eqT22 ?F ?X ?h1 ?h3 ?_); (case F => k_asm); (case X => k_asm); (case h1 => exact News.get (by k_asm) (by k_mem)); (case h3 => first | ktr_units | omega)))
  | ((with_reducible show wpAny _ _ (compareOp _ (Value.ref 23) (Value.ref _)) _ _ _); k_dflt ((refine' eqT23 ?F ?X ?h1 ?h3 ?_); (case F => k_asm); (case X => k_asm); (case h1 => exact News.get (by k_asm) (by k_mem)); (case h3 => first | ktr_units | omega)))
  | (k_dflt ((refine' eqT_rule ?h1 ?h2 ?h3 ?_); (case h1 => exact News.get (by k_asm) (by k_mem)); (case h2 => exact News.get (by k_asm) (by k_mem)); (case h3 => first | ktr_units | omega)))))
/-- told = .. and what follows, a number that is not 0, n not 0 -/
abbrev PreD (r : Rnd) (S : Addr) (sg man exp n x y above below prec : Int) (L : Addr) (m : Str → Option Value) (news : Led) : Prop :=
  ∃ (t1 t2 t3 t4 t5 t6 t7 t8 t9 : Tok) (oR oP : Obj), (S, I4 sg man exp (intBits man) t1 t2 t3 t4) ∈ news ∧ (L + 1 + 1 + 1, oR) ∈ news ∧ (L + 1 + 1, oP) ∈ news ∧ oR.data = .cell (some (.str r.str t5)) ∧ oP.data = .cell (some (.int prec t6)) ∧
    m (Str.ofString "s") = some (.ref S) ∧ m (Str.ofString "n") = some (.int n t7) ∧ m (Str.ofString "above") = some (.int above t8) ∧ m (Str.ofString "below") = some (.int below t9)
set_option maxHeartbeats 40000000 in
theorem tailD (w : World) (r : Rnd) (S : Addr) (sg man exp n x y above below prec : Int) (hs : sg = 0 ∨ sg = 1) (hm : 0 < man) (hb : intBits man ≤ 60) (h1 : -20 ≤ exp) (h2 : exp ≤ 20) (hp : 1 ≤ prec) (hp2 : prec ≤ 90) (hw : Worth sg man exp x y) (hx : intBits x ≤ 81) (hy : intBits y ≤ 21) (hn : -40 ≤ n) (hn2 : n ≤ 60)
    (hab : AB n x y above below) (hl : LeadsOK r sg man n) : LawTail w 10 (PreD r S sg man exp n x y above below prec) := by
  unfold LawTail; k_fill
  intro p loose mean mg mb dp un gd a ccd A₀ h₀ L m news s Q E B F X N T hd hu ⟨t1, t2, t3, t4, t5, t6, t7, t8, t9, oR, oP, hS, hR, hP, dR, dP, m1, m2, m3, m4⟩ hret
  w_top on
  have F' := upd4 F m1 m2 m3 m4
  clear F m1 m2 m3 m4
  unfold lawD recOf
  dsimp only [List.drop]
  k_steps
  all_goals first
    | exact hret _ _ _ (by assumption)
end -- L1
section -- L2
local macro_rules | `(tactic| walk_at "pad 33") => `(tactic| skip)
local macro_rules | `(tactic| walk_at "pad 34") => `(tactic| skip)
local macro_rules | `(tactic| walk_at "pad 35") => `(tactic| skip)
local macro_rules | `(tactic| walk_at "pad 36") => `(tactic| skip)
local macro_rules | `(tactic| walk_at "pad 37") => `(tactic| skip)
local macro_rules | `(tactic| walk_at "pad 38") => `(tactic| skip)
open PySem.Builtin.Int (intBits)

theorem apart {h₀ h : Heap} {L S c : Addr} {news : Led} {o oc : Obj} {v : Option Value} (N : News h₀ L h news) (h1 : (S, o) ∈ news) (h2 : (c, oc) ∈ news) (hc : oc.data = .cell v) (ho : ∀ v, o.data ≠ .cell v) : @Ne Nat S c := by
  intro e
  have e' : S = c := e
  subst e'
  have a := (N _ h1).1
  have b := (N _ h2).1
  have q : oc = o := Option.some.inj (b.symm.trans a)
  rw [q] at hc
  exact ho v hc
section
variable {prog : Program} {w : World} {A : Around} {E : Value → Shared → Prop} {s : Shared} {a b n : Int} {t u : Tok} {Q : Value → Shared → Prop}
theorem powb_rule (ha : intBits a ≤ 81) (hn : 0 ≤ n) (hn2 : n ≤ 60) (h : intBits (ipw a n) ≤ 4900 → Q (.int (ipw a n) s.toks) { s with toks := s.toks + 1 }) : wpAny (model prog w) A (binaryOp .Pow (.int a t) (.int n u)) Q E s :=
  ipwb_rule (by omega) hn (by omega) (h (by
    rw [ipw_eq]
    refine Nat.le_trans (intBits_pow_le ha n.toNat) ?_
    have := Nat.mul_le_mul_left 81 (show n.toNat ≤ 60 by omega)
    omega))
end
local macro_rules | `(tactic| walk_at "binaryOp Add int int") => `(tactic| (k_here; (with_reducible refine add_int ?_); (try dsimp only)))
local macro_rules | `(tactic| walk_at "binaryOp Sub int int") => `(tactic| (k_here; (with_reducible refine sub_int ?_); (try dsimp only)))
local macro_rules | `(tactic| walk_at "binaryOp RShift int int") => `(tactic| (k_here; (with_reducible refine shr_rule (by omega) ?_); (try dsimp only)))
local macro_rules | `(tactic| walk_at "inplaceOp RShift int int") => `(tactic| (k_here; (with_reducible refine ishr_rule (by omega) ?_); (try dsimp only)))
local macro_rules | `(tactic| walk_at "binaryOp BitAnd int int") => `(tactic| (k_here; (with_reducible refine band_rule ?_); (try dsimp only)))
local macro_rules | `(tactic| walk_at "call builtin:int.bit_length") => `(tactic| (k_here; (with_reducible refine bl_rule ?_); (try dsimp only)))
local macro_rules | `(tactic| walk_at "compareOp Eq int int") => `(tactic| (k_here; (with_reducible refine eqb_rule ?_); (try dsimp only)))
local macro_rules | `(tactic| walk_at "truthy int") => `(tactic| (k_here; (with_reducible refine tru_rule ?_); (try dsimp only)))
local macro_rules | `(tactic| walk_at "ite") => `(tactic| (k_here; k_openite; first
  | (with_reducible refine ite_yes (by first | assumption | omega) ?_)
  | (with_reducible refine ite_no (by first | assumption | omega) ?_)
  | (with_reducible refine ite_nyes (by first | assumption | omega) ?_)
  | (with_reducible refine ite_nno (by first | assumption | omega) ?_)
  | ((with_reducible refine ite_split ?_ ?_) <;> intro _)
  | ((with_reducible refine ite_nsplit ?_ ?_) <;> intro _)
  | (with_reducible refine ite_pos (by assumption) ?_)
  | (with_reducible refine ite_isFalse (by assumption) ?_)
  | ((with_reducible refine ite_splitb ?_ ?_) <;> intro _)))
local macro_rules | `(tactic| walk_at "binaryOp LShift int int") => `(tactic| (k_here; (with_reducible refine shl_rule (by omega) (by first | omega | assumption) ?_); (try dsimp only)))
local macro_rules | `(tactic| k_mem) => `(tactic| first | with_reducible assumption | (refine' List.mem_cons_of_mem _ ?_; k_mem))

local macro_rules | `(tactic| walk_at "compareOp Eq str str") => `(tactic| (k_here; first | (with_reducible refine eq_n ?_) | (with_reducible refine eq_f ?_) | (with_reducible refine eq_c ?_) | (with_reducible refine eq_d ?_) | (with_reducible refine eq_u ?_)))
local macro_rules | `(tactic| walk_at "subscriptTail") => `(tactic| (k_here; first
  | ((with_reducible refine' sd_rule ?F ?X ?h ?_); (case F => k_asm); (case X => k_asm); (case h => with_reducible assumption); (try dsimp only))
  | ((with_reducible refine' sd2_rule ?F ?X ?h ?g ?_); (case F => k_asm); (case X => k_asm); (case h => with_reducible assumption); (case g => with_reducible assumption))
  | ((with_reducible refine' rec_rule ?F ?X ?_); (case F => k_asm); (case X => k_asm); (try dsimp only))))

local macro_rules | `(tactic| walk_at "binaryOp LShift int int") => `(tactic| (k_here; (with_reducible refine shl1_rule (by omega) (by omega) ?_); (try dsimp only)))
local macro_rules | `(tactic| walk_at "binaryOp BitXor int int") => `(tactic| (k_here; (with_reducible refine xor0_rule (by assumption) ?_); (try dsimp only)))
local macro_rules | `(tactic| walk_at "call builtin:divmod") => `(tactic| (k_here; (with_reducible refine' divmod_rule ?F ?N ?a ?b ?_); (case F => k_asm); (case N => k_asm); (case a => omega); (case b => omega); (intro h' D' F' N'; (try dsimp only); (try k_sweep))))

local macro_rules | `(tactic| walk_at "binaryOp Mult int int") => `(tactic| (k_here; (with_reducible refine mulb_rule (by assumption) (by assumption) (by decide) ?_); (try dsimp only)))
local macro_rules | `(tactic| walk_at "inplaceOp Pow int int") => `(tactic| (k_here; (with_reducible refine iipw_rule (by omega) (by omega) ?_); (try dsimp only)))
local macro_rules | `(tactic| walk_at "binaryOp FloorDiv int int") => `(tactic| (k_here; (with_reducible refine fdv_rule (by omega) (by decide) ?_); (try dsimp only)))
local macro_rules | `(tactic| walk_at "binaryOp Pow int int") => `(tactic| (k_here; (with_reducible refine pow2_rule (by omega) (by omega) ?_); (try dsimp only)))

local macro_rules | `(tactic| walk_at "binaryOp FloorDiv int int") => `(tactic| (k_here; first | (with_reducible refine edivp_rule (by omega) ?_) | (with_reducible refine ediv_rule (by decide) (by decide) ?_); (try dsimp only)))
local macro_rules | `(tactic| walk_at "binaryOp Mod int int") => `(tactic| (k_here; first | (with_reducible refine emodp_rule ?_) | (with_reducible refine emod_rule (by decide) ?_); (try dsimp only)))
local macro_rules | `(tactic| walk_at "compareOp Eq ref ref") => `(tactic| (k_here; k_dflt ((refine' eq4_rule ?h1 ?h2 ?h3 ?_); (case h1 => exact News.get (by k_asm) (by k_mem)); (case h2 => exact News.get (by k_asm) (by k_mem)); (case h3 => first | ktr_units | omega))))
local macro_rules | `(tactic| walk_at "subscriptTail Name Slice") => `(tactic| (k_here; (refine' slice_two (s := ⟨_, _, _, _, _⟩) ?F ?N ?t ?_); (case F => k_asm); (case N => k_asm); (case t => exact tup4 (by k_asm) (by k_mem)); (intro D' h' F' N'; (try dsimp only); (try k_sweep))))

local macro_rules | `(tactic| ktr_rel) => `(tactic| first
  | with_reducible assumption
  | ((with_reducible apply bits_abs); ktr_rel)
  | ((with_reducible apply ipw2_bits1000); omega)
  | ((with_reducible apply mulI_bits2) <;> ktr_rel)
  | ((with_reducible apply intBits_sub_le) <;> ktr_rel)
  | ((with_reducible apply intBits_neg_le); ktr_rel))
local macro_rules | `(tactic| walk_at "binaryOp Mult int int") => `(tactic| (k_here; (with_reducible refine' mulb_rule ?a ?b ?c ?_); (case a => ktr_rel); (case b => ktr_rel); (case c => decide); (try dsimp only)))
local macro_rules | `(tactic| walk_at "subscriptTail Name Constant ref int") => `(tactic| (k_here; first | ((with_reducible refine' it4_0 ?N ?m ?_); (case N => with_reducible assumption); (case m => k_mem)) | ((with_reducible refine' it4_1 ?N ?m ?_); (case N => with_reducible assumption); (case m => k_mem)) | ((with_reducible refine' it4_2 ?N ?m ?_); (case N => with_reducible assumption); (case m => k_mem)) | ((with_reducible refine' it4_3 ?N ?m ?_); (case N => with_reducible assumption); (case m => k_mem)) | ((with_reducible refine' it2_0 ?N ?m ?_); (case N => with_reducible assumption); (case m => k_mem)) | ((with_reducible refine' it2_1 ?N ?m ?_); (case N => with_reducible assumption); (case m => k_mem))))

local macro_rules | `(tactic| walk_at "compareOp Eq ref ref") => `(tactic| (k_here; first
  | ((with_reducible show wpAny _ _ (compareOp _ _ (Value.ref 22)) _ _ _); k_dflt ((refine' eqR22 ?F ?X ?h1 ?h3 ?_); (case F => k_asm); (case X => k_asm); (case h1 => exact News.get (by k_asm) (by k_mem)); (case h3 => first | ktr_units | omega)))
  | ((with_reducible show wpAny _ _ (compareOp _ (Value.ref 22) _) _ _ _); k_dflt ((refine' eqL22 ?F ?X ?h1 ?h3 ?_); (case F => k_asm); (case X => k_asm); (case h1 => exact News.get (by k_asm) (by k_mem)); (case h3 => first | ktr_units | omega)))
  | ((with_reducible show wpAny _ _ (compareOp _ (Value.ref 23) _) _ _ _); k_dflt ((refine' eqL23 ?F ?X ?h1 ?h3 ?_); (case F => k_asm); (case X => k_asm); (case h1 => exact News.get (by k_asm) (by k_mem)); (case h3 => first | ktr_units | omega)))))
local macro_rules | `(tactic| walk_at "compareOp Eq ref ref") => `(tactic| (k_here; first
  | ((with_reducible show wpAny _ _ (compareOp _ (Value.ref 23) (Value.ref 22)) _ _ _); k_dflt ((refine' eqTT (at23 ?F ?X) (at22 ?F2 ?X2) ?h3 ?_); (case F => k_asm); (case X => k_asm); (case F2 => k_asm); (case X2 => k_asm); (case h3 => first | ktr_units | omega)))
  | ((with_reducible show wpAny _ _ (compareOp _ (Value.ref 22) (Value.ref 22)) _ _ _); k_dflt ((refine' eqTT (at22 ?F ?X) (at22 ?F2 ?X2) ?h3 ?_); (case F => k_asm); (case X => k_asm); (case F2 => k_asm); (case X2 => k_asm); (case h3 => first | ktr_units | omega)))))

local macro_rules | `(tactic| walk_at "call ref") => `(tactic| (k_here; refine halt ?_))
local macro_rules | `(tactic| walk_at "execs cons") => `(tactic| (k_here; (with_reducible show wpAny _ _ (execs [_, _, _] _) _ _ _); refine halt ?_))
local macro_rules | `(tactic| walk_at "eval Call") => `(tactic| (k_here; first
  | ((with_reducible show wpAny _ _ (eval (Expr.Call (Expr.Name (Str.ofString "_law_leads_up") _) _ [] _) _) _ _ _); k_dflt (refine Call_ ?_))))
local macro_rules | `(tactic| walk_at "binaryOp Pow int int") => `(tactic| (k_here; (refine powb_rule (by assumption) (by omega) (by omega) ?_); intro _; (try dsimp only)))
local macro_rules | `(tactic| walk_at "call builtin:abs") => `(tactic| (k_here; first
  | (k_dflt (refine absP (by omega) ?_); intro u9 tk9; (try dsimp only))
  | (k_dflt (refine absN (by omega) ?_); intro u9 tk9; (try dsimp only))))
local macro_rules | `(tactic| walk_at "call ref") => `(tactic| (k_here; (with_reducible show wpAny _ _ (call (Value.ref 147) [Value.ref _, Value.int _ _, Value.str _ _]) _ _ _); k_dflt ((refine' Tell.use (leadsL_tells _ _ _ _ _ _ _ _ _ _ _ _ _ _ ?p0 ?p1 ?p2 ?p3 ?p4) ?k1 ?k2 ?k3 ?k4 ?k5 ?k6 ?k7 ?k8 ?_); (case k1 => k_asm); (case k2 => k_asm); (case k3 => k_asm); (case k4 => k_asm); (case k5 => k_asm); (case k6 => first | exact rfl | assumption); (case k7 => first | ktr_room | omega); (case k8 => first | ktr_units | omega); (case p0 => first | with_reducible assumption | k_mem | assumption); (case p1 => first | assumption | omega | decide); (case p2 => first | assumption | omega | decide); (case p3 => first | assumption | omega | decide); (case p4 => first | assumption | omega | decide); (intro v9 tl9 h9 tk9 R9 F9 N9; obtain ⟨et9, ev9 | ⟨ev9, H9⟩⟩ := R9 <;> subst et9 <;> subst ev9; all_goals ((try dsimp only [List.cons_append, List.nil_append] at N9); (try dsimp only); (try k_sweep); (try k_fold))))))
abbrev PreC (r : Rnd) (S M : Addr) (sg man exp n x y prec : Int) (L : Addr) (m : Str → Option Value) (news : Led) : Prop :=
  ∃ (t1 t2 t3 t4 t5 t6 t7 t8 t9 : Tok) (oR oP oF : Obj), news = [(M, I2 x y t8 t9), (S, I4 sg man exp (intBits man) t1 t2 t3 t4), (L + 1 + 1 + 1, oR), (L + 1 + 1, oP), (L + 1, oF)] ∧ oR.data = .cell (some (.str r.str t5)) ∧ oP.data = .cell (some (.int prec t6)) ∧
    m (Str.ofString "s") = some (.ref S) ∧ m (Str.ofString "n") = some (.int n t7) ∧ m (Str.ofString "moved") = some (.ref M)
set_option maxHeartbeats 40000000 in
theorem tailC (w : World) (r : Rnd) (S M : Addr) (sg man exp n x y prec : Int) (hs : sg = 0 ∨ sg = 1) (hm : 0 < man) (hb : intBits man ≤ 60) (h1 : -20 ≤ exp) (h2 : exp ≤ 20) (hp : 1 ≤ prec) (hp2 : prec ≤ 90) (hw : Worth sg man exp x y) (hx : intBits x ≤ 81) (hy : intBits y ≤ 21) (hn : -40 ≤ n) (hn2 : n ≤ 60) :
    LawTail w 6 (PreC r S M sg man exp n x y prec) := by
  unfold LawTail; k_fill
  intro p loose mean mg mb dp un gd a ccd A₀ h₀ L m news s Q E B F X N T hd hu hpre hret
  obtain ⟨t1, t2, t3, t4, t5, t6, t7, t8, t9, oR, oP, oF, enews, dR, dP, m1, m2, m3⟩ := hpre
  subst enews
  w_top on
  have F' := upd4 F m1 m2 m3 m3
  clear F m1 m2 m3
  have hSR := apart (S := S) (c := L + 1 + 1 + 1) N (.tail _ (.head _)) (.tail _ (.tail _ (.head _))) dR (fun _ q => nomatch q)
  have hMR := apart (S := M) (c := L + 1 + 1 + 1) N (.head _) (.tail _ (.tail _ (.head _))) dR (fun _ q => nomatch q)
  have hy81 : intBits y ≤ 81 := by omega
  have D1 := fun r above below hab hl => tailD w r S sg man exp n x y above below prec hs hm hb h1 h2 hp hp2 hw hx hy hn hn2 hab hl
  unfold LawTail at D1
  unfold lawD recOf at D1 ⊢
  dsimp only [List.drop] at D1 ⊢
  rcases Int.lt_or_le n 0 with hz | hz
  all_goals k_steps
  all_goals unfold Halt
  all_goals first
    | (refine' D1 r _ _ ?hab ?hl _ _ _ _ _ _ _ _ _ _ _ _ _ _ _ _ _ _ B ?F X ?N T hd hu ?pre ?ret; (case F => k_asm); (case N => k_asm); (case hl => assumption); (case pre => (refine' ⟨_, _, _, _, _, _, _, _, _, _, _, ?a1, ?a2, ?a3, ?a4, ?a5, ?a6, ?a7, ?a8, ?a9⟩; (case a1 => k_mem); (case a2 => k_mem); (case a3 => k_mem); (case a4 => assumption); (case a5 => assumption); (case a6 => exact rfl); (case a7 => exact rfl); (case a8 => exact rfl); (case a9 => exact rfl))); (case hab => first | assumption | exact Or.inl ⟨by omega, rfl, rfl⟩ | exact Or.inr ⟨by omega, Or.inl ⟨by assumption, rfl, rfl⟩⟩ | exact Or.inr ⟨by omega, Or.inr ⟨by assumption, rfl, rfl⟩⟩); (case ret => intro h' m' tk' F9; exact hret h' m' tk' F9))
    | (refine' D1 .n _ _ ?hab ?hl _ _ _ _ _ _ _ _ _ _ _ _ _ _ _ _ _ _ B ?F X ?N T hd hu ?pre ?ret; (case F => k_asm); (case N => k_asm); (case hl => exact leads_n _ _ _); (case pre => (refine' ⟨_, _, _, _, _, _, _, _, _, _, _, ?a1, ?a2, ?a3, ?a4, ?a5, ?a6, ?a7, ?a8, ?a9⟩; (case a1 => k_mem); (case a2 => k_mem); (case a3 => k_mem); (case a4 => assumption); (case a5 => assumption); (case a6 => exact rfl); (case a7 => exact rfl); (case a8 => exact rfl); (case a9 => exact rfl))); (case hab => first | assumption | exact Or.inl ⟨by omega, rfl, rfl⟩ | exact Or.inr ⟨by omega, Or.inl ⟨by assumption, rfl, rfl⟩⟩ | exact Or.inr ⟨by omega, Or.inr ⟨by assumption, rfl, rfl⟩⟩); (case ret => intro h' m' tk' F9; exact hret h' m' tk' F9))
end -- L2
section -- L3
local macro_rules | `(tactic| walk_at "pad 36") => `(tactic| skip)
local macro_rules | `(tactic| walk_at "pad 37") => `(tactic| skip)
local macro_rules | `(tactic| walk_at "pad 38") => `(tactic| skip)
local macro_rules | `(tactic| walk_at "pad 39") => `(tactic| skip)
open PySem.Builtin.Int (intBits)

local macro_rules | `(tactic| walk_at "binaryOp Add int int") => `(tactic| (k_here; (with_reducible refine add_int ?_); (try dsimp only)))
local macro_rules | `(tactic| walk_at "binaryOp Sub int int") => `(tactic| (k_here; (with_reducible refine sub_int ?_); (try dsimp only)))
local macro_rules | `(tactic| walk_at "binaryOp RShift int int") => `(tactic| (k_here; (with_reducible refine shr_rule (by omega) ?_); (try dsimp only)))
local macro_rules | `(tactic| walk_at "inplaceOp RShift int int") => `(tactic| (k_here; (with_reducible refine ishr_rule (by omega) ?_); (try dsimp only)))
local macro_rules | `(tactic| walk_at "binaryOp BitAnd int int") => `(tactic| (k_here; (with_reducible refine band_rule ?_); (try dsimp only)))
local macro_rules | `(tactic| walk_at "call builtin:int.bit_length") => `(tactic| (k_here; (with_reducible refine bl_rule ?_); (try dsimp only)))
local macro_rules | `(tactic| walk_at "compareOp Eq int int") => `(tactic| (k_here; (with_reducible refine eqb_rule ?_); (try dsimp only)))
local macro_rules | `(tactic| walk_at "truthy int") => `(tactic| (k_here; (with_reducible refine tru_rule ?_); (try dsimp only)))
local macro_rules | `(tactic| walk_at "ite") => `(tactic| (k_here; k_openite; first
  | (with_reducible refine ite_yes (by first | assumption | omega) ?_)
  | (with_reducible refine ite_no (by first | assumption | omega) ?_)
  | (with_reducible refine ite_nyes (by first | assumption | omega) ?_)
  | (with_reducible refine ite_nno (by first | assumption | omega) ?_)
  | ((with_reducible refine ite_split ?_ ?_) <;> intro _)
  | ((with_reducible refine ite_nsplit ?_ ?_) <;> intro _)
  | (with_reducible refine ite_pos (by assumption) ?_)
  | (with_reducible refine ite_isFalse (by assumption) ?_)
  | ((with_reducible refine ite_splitb ?_ ?_) <;> intro _)))
local macro_rules | `(tactic| walk_at "binaryOp LShift int int") => `(tactic| (k_here; (with_reducible refine shl_rule (by omega) (by first | omega | assumption) ?_); (try dsimp only)))
local macro_rules | `(tactic| k_mem) => `(tactic| first | with_reducible assumption | (refine' List.mem_cons_of_mem _ ?_; k_mem))

local macro_rules | `(tactic| walk_at "compareOp Eq str str") => `(tactic| (k_here; first | (with_reducible refine eq_n ?_) | (with_reducible refine eq_f ?_) | (with_reducible refine eq_c ?_) | (with_reducible refine eq_d ?_) | (with_reducible refine eq_u ?_)))
local macro_rules | `(tactic| walk_at "subscriptTail") => `(tactic| (k_here; first
  | ((with_reducible refine' sd_rule ?F ?X ?h ?_); (case F => k_asm); (case X => k_asm); (case h => with_reducible assumption); (try dsimp only))
  | ((with_reducible refine' sd2_rule ?F ?X ?h ?g ?_); (case F => k_asm); (case X => k_asm); (case h => with_reducible assumption); (case g => with_reducible assumption))
  | ((with_reducible refine' rec_rule ?F ?X ?_); (case F => k_asm); (case X => k_asm); (try dsimp only))))

local macro_rules | `(tactic| walk_at "binaryOp LShift int int") => `(tactic| (k_here; (with_reducible refine shl1_rule (by omega) (by omega) ?_); (try dsimp only)))
local macro_rules | `(tactic| walk_at "binaryOp BitXor int int") => `(tactic| (k_here; (with_reducible refine xor0_rule (by assumption) ?_); (try dsimp only)))
local macro_rules | `(tactic| walk_at "call builtin:divmod") => `(tactic| (k_here; (with_reducible refine' divmod_rule ?F ?N ?a ?b ?_); (case F => k_asm); (case N => k_asm); (case a => omega); (case b => omega); (intro h' D' F' N'; (try dsimp only); (try k_sweep))))

local macro_rules | `(tactic| walk_at "binaryOp Mult int int") => `(tactic| (k_here; (with_reducible refine mulb_rule (by assumption) (by assumption) (by decide) ?_); (try dsimp only)))
local macro_rules | `(tactic| walk_at "inplaceOp Pow int int") => `(tactic| (k_here; (with_reducible refine iipw_rule (by omega) (by omega) ?_); (try dsimp only)))
local macro_rules | `(tactic| walk_at "binaryOp FloorDiv int int") => `(tactic| (k_here; (with_reducible refine fdv_rule (by omega) (by decide) ?_); (try dsimp only)))
local macro_rules | `(tactic| walk_at "binaryOp Pow int int") => `(tactic| (k_here; (with_reducible refine pow2_rule (by omega) (by omega) ?_); (try dsimp only)))

local macro_rules | `(tactic| walk_at "binaryOp FloorDiv int int") => `(tactic| (k_here; first | (with_reducible refine edivp_rule (by omega) ?_) | (with_reducible refine ediv_rule (by decide) (by decide) ?_); (try dsimp only)))
local macro_rules | `(tactic| walk_at "binaryOp Mod int int") => `(tactic| (k_here; first | (with_reducible refine emodp_rule ?_) | (with_reducible refine emod_rule (by decide) ?_); (try dsimp only)))
local macro_rules | `(tactic| walk_at "compareOp Eq ref ref") => `(tactic| (k_here; k_dflt ((refine' eq4_rule ?h1 ?h2 ?h3 ?_); (case h1 => exact News.get (by k_asm) (by k_mem)); (case h2 => exact News.get (by k_asm) (by k_mem)); (case h3 => first | ktr_units | omega))))
local macro_rules | `(tactic| walk_at "subscriptTail Name Slice") => `(tactic| (k_here; (refine' slice_two (s := ⟨_, _, _, _, _⟩) ?F ?N ?t ?_); (case F => k_asm); (case N => k_asm); (case t => exact tup4 (by k_asm) (by k_mem)); (intro D' h' F' N'; (try dsimp only); (try k_sweep))))

local macro_rules | `(tactic| ktr_rel) => `(tactic| first
  | with_reducible assumption
  | ((with_reducible apply bits_abs); ktr_rel)
  | ((with_reducible apply ipw2_bits1000); omega)
  | ((with_reducible apply mulI_bits2) <;> ktr_rel)
  | ((with_reducible apply intBits_sub_le) <;> ktr_rel)
  | ((with_reducible apply intBits_neg_le); ktr_rel))
local macro_rules | `(tactic| walk_at "binaryOp Mult int int") => `(tactic| (k_here; (with_reducible refine' mulb_rule ?a ?b ?c ?_); (case a => ktr_rel); (case b => ktr_rel); (case c => decide); (try dsimp only)))
local macro_rules | `(tactic| walk_at "subscriptTail Name Constant ref int") => `(tactic| (k_here; first | ((with_reducible refine' it4_0 ?N ?m ?_); (case N => with_reducible assumption); (case m => k_mem)) | ((with_reducible refine' it4_1 ?N ?m ?_); (case N => with_reducible assumption); (case m => k_mem)) | ((with_reducible refine' it4_2 ?N ?m ?_); (case N => with_reducible assumption); (case m => k_mem)) | ((with_reducible refine' it4_3 ?N ?m ?_); (case N => with_reducible assumption); (case m => k_mem)) | ((with_reducible refine' it2_0 ?N ?m ?_); (case N => with_reducible assumption); (case m => k_mem)) | ((with_reducible refine' it2_1 ?N ?m ?_); (case N => with_reducible assumption); (case m => k_mem))))

local macro_rules | `(tactic| walk_at "compareOp Eq ref ref") => `(tactic| (k_here; first
  | ((with_reducible show wpAny _ _ (compareOp _ _ (Value.ref 22)) _ _ _); k_dflt ((refine' eqR22 ?F ?X ?h1 ?h3 ?_); (case F => k_asm); (case X => k_asm); (case h1 => exact News.get (by k_asm) (by k_mem)); (case h3 => first | ktr_units | omega)))
  | ((with_reducible show wpAny _ _ (compareOp _ (Value.ref 22) _) _ _ _); k_dflt ((refine' eqL22 ?F ?X ?h1 ?h3 ?_); (case F => k_asm); (case X => k_asm); (case h1 => exact News.get (by k_asm) (by k_mem)); (case h3 => first | ktr_units | omega)))
  | ((with_reducible show wpAny _ _ (compareOp _ (Value.ref 23) _) _ _ _); k_dflt ((refine' eqL23 ?F ?X ?h1 ?h3 ?_); (case F => k_asm); (case X => k_asm); (case h1 => exact News.get (by k_asm) (by k_mem)); (case h3 => first | ktr_units | omega)))))
local macro_rules | `(tactic| walk_at "compareOp Eq ref ref") => `(tactic| (k_here; first
  | ((with_reducible show wpAny _ _ (compareOp _ (Value.ref 23) (Value.ref 22)) _ _ _); k_dflt ((refine' eqTT (at23 ?F ?X) (at22 ?F2 ?X2) ?h3 ?_); (case F => k_asm); (case X => k_asm); (case F2 => k_asm); (case X2 => k_asm); (case h3 => first | ktr_units | omega)))
  | ((with_reducible show wpAny _ _ (compareOp _ (Value.ref 22) (Value.ref 22)) _ _ _); k_dflt ((refine' eqTT (at22 ?F ?X) (at22 ?F2 ?X2) ?h3 ?_); (case F => k_asm); (case X => k_asm); (case F2 => k_asm); (case X2 => k_asm); (case h3 => first | ktr_units | omega)))))

local macro_rules | `(tactic| walk_at "binaryOp Pow int int") => `(tactic| (k_here; (with_reducible refine pow2_rule (by omega) (by omega) ?_); (try dsimp only)))
local macro_rules | `(tactic| walk_at "call ref") => `(tactic| (k_here; refine halt ?_))
local macro_rules | `(tactic| walk_at "execs cons") => `(tactic| (k_here; (with_reducible show wpAny _ _ (execs [_, _, _, _, _, _, _] _) _ _ _); refine halt ?_))
local macro_rules | `(tactic| walk_at "eval Call") => `(tactic| (k_here; first
  | ((with_reducible show wpAny _ _ (eval (Expr.Call (Expr.Name (Str.ofString "_law_worth") _) _ [] _) _) _ _ _); k_dflt (refine Call_ ?_))
  | ((with_reducible show wpAny _ _ (eval (Expr.Call (Expr.Name (Str.ofString "mpf_shift") _) _ [] _) _) _ _ _); k_dflt (refine Call_ ?_))))
local macro_rules | `(tactic| walk_at "compareOp NotEq int int") => `(tactic| (k_here; first
  | (refine ne_rule (shift_law (by assumption) (by assumption) (by first | assumption | omega) (by first | assumption | omega)) ?_)
  | (refine ne_rule (shift_law0 (by assumption) (by assumption)) ?_)))
local macro_rules | `(tactic| walk_at "call builtin:max") => `(tactic| (k_here; (with_reducible show wpAny _ _ (call (Value.builtin _) [Value.int _ _, Value.int _ _]) _ _ _); k_dflt (refine' max0_rule ?hh ?F ?N ?_; (case hh => rfl); (case F => k_asm); (case N => k_asm); (intro c9 t9 h9 tk9 hc9 hc8 hc7 F9 N9; (try dsimp only); (try k_sweep); (try k_fold)))))
local macro_rules | `(tactic| walk_at "call ref") => `(tactic| (k_here; (with_reducible show wpAny _ _ (call (Value.ref 67) [Value.ref _, Value.int _ _]) _ _ _); k_dflt ((refine' Tell.use (shift_tells _ _ _ _ _ _ _ _ _ _ _ _ _ ?p0 ?p1) ?k1 ?k2 ?k3 ?k4 ?k5 ?k6 ?k7 ?k8 ?_); (case k1 => k_asm); (case k2 => k_asm); (case k3 => k_asm); (case k4 => k_asm); (case k5 => k_asm); (case k6 => first | exact rfl | assumption); (case k7 => first | ktr_room | omega); (case k8 => first | ktr_units | omega); (case p0 => first | with_reducible assumption | k_mem | assumption); (case p1 => first | assumption | omega | decide); (intro v9 tl9 h9 tk9 R9 F9 N9; obtain ⟨D9, ta9, tb9, tc9, td9, ev9, et9⟩ := R9; subst ev9; subst et9; (try dsimp only [List.cons_append, List.nil_append] at N9); (try dsimp only); (try k_sweep); (try k_fold)))))
local macro_rules | `(tactic| walk_at "call ref") => `(tactic| (k_here; (with_reducible show wpAny _ _ (call (Value.ref 112) [Value.ref _]) _ _ _); k_dflt ((refine' Tell.use (worthG_tells _ _ _ _ _ _ _ _ _ _ _ ?p0 ?p1 ?p2 ?p3 ?p4 ?p5) ?k1 ?k2 ?k3 ?k4 ?k5 ?k6 ?k7 ?k8 ?_); (case k1 => k_asm); (case k2 => k_asm); (case k3 => k_asm); (case k4 => k_asm); (case k5 => k_asm); (case k6 => first | exact rfl | assumption); (case k7 => first | ktr_room | omega); (case k8 => first | ktr_units | omega); (case p0 => first | with_reducible assumption | k_mem | assumption); (case p1 => first | assumption | omega | decide); (case p2 => first | assumption | omega | decide); (case p3 => first | assumption | omega | decide); (case p4 => first | assumption | omega | decide); (case p5 => first | assumption | omega | decide); (intro v9 tl9 h9 tk9 R9 F9 N9; obtain ⟨D9, x9, y9, ta9, tb9, ev9, et9, H9, B9, C9⟩ := R9; subst ev9; subst et9; (try dsimp only [List.cons_append, List.nil_append] at N9); (try dsimp only); (try k_sweep); (try k_fold)))))
local macro_rules | `(tactic| walk_at "call ref") => `(tactic| (k_here; (with_reducible show wpAny _ _ (call (Value.ref 112) [Value.ref _]) _ _ _); k_dflt ((refine' Tell.use (worthR_tells _ _ _ _ _ _ _ _ _ _ _ ?p0 ?p1) ?k1 ?k2 ?k3 ?k4 ?k5 ?k6 ?k7 ?k8 ?_); (case k1 => k_asm); (case k2 => k_asm); (case k3 => k_asm); (case k4 => k_asm); (case k5 => k_asm); (case k6 => first | exact rfl | assumption); (case k7 => first | ktr_room | omega); (case k8 => first | ktr_units | omega); (case p0 => first | with_reducible assumption | k_mem | assumption); (case p1 => assumption); (intro v9 tl9 h9 tk9 R9 F9 N9; obtain ⟨D9, x9, y9, ta9, tb9, ev9, et9, H9, B9, C9⟩ := R9; subst ev9; subst et9; (try dsimp only [List.cons_append, List.nil_append] at N9); (try dsimp only); (try k_sweep); (try k_fold)))))
abbrev PreB (r : Rnd) (S : Addr) (sg man exp bc n prec : Int) (L : Addr) (m : Str → Option Value) (news : Led) : Prop :=
  ∃ (t1 t2 t3 t4 t5 t6 t7 : Tok) (oR oP oF : Obj), news = [(S, I4 sg man exp bc t1 t2 t3 t4), (L + 1 + 1 + 1, oR), (L + 1 + 1, oP), (L + 1, oF)] ∧ oR.data = .cell (some (.str r.str t5)) ∧ oP.data = .cell (some (.int prec t6)) ∧
    m (Str.ofString "s") = some (.ref S) ∧ m (Str.ofString "n") = some (.int n t7)
set_option maxHeartbeats 40000000 in
theorem tailB (w : World) (r : Rnd) (S : Addr) (sg man exp n prec : Int) (hs : sg = 0 ∨ sg = 1) (hm : 0 < man) (hb : intBits man ≤ 60) (h1 : -20 ≤ exp) (h2 : exp ≤ 20) (hp : 1 ≤ prec) (hp2 : prec ≤ 90) (hn : -40 ≤ n) (hn2 : n ≤ 60) :
    LawTail w 4 (PreB r S sg man exp (intBits man) n prec) := by
  unfold LawTail; k_fill
  intro p loose mean mg mb dp un gd a ccd A₀ h₀ L m news s Q E B F X N T hd hu hpre hret
  obtain ⟨t1, t2, t3, t4, t5, t6, t7, oR, oP, oF, enews, dR, dP, m1, m2⟩ := hpre
  subst enews
  w_top on
  have F' := upd4 F m1 m2 m2 m2
  clear F m1 m2
  have hr : RawOK sg man exp (intBits man) := .inr ⟨hs, hm, hb, h1, h2, rfl⟩
  have D1 := fun M x y hw hx hy => tailC w r S M sg man exp n x y prec hs hm hb h1 h2 hp hp2 hw hx hy hn hn2
  unfold LawTail at D1
  unfold lawD recOf at D1 ⊢
  dsimp only [List.drop] at D1 ⊢
  k_steps
  all_goals unfold Halt
  all_goals first
    | (refine' D1 _ _ _ ?hw ?hx ?hy _ _ _ _ _ _ _ _ _ _ _ _ _ _ _ _ _ _ B ?F X (News.pick5 ?N ?b1 ?b2 ?b3 ?b4 ?b5) T hd hu ⟨_, _, _, _, _, _, _, _, _, _, _, _, rfl, ?a4, ?a5, ?a6, ?a7, ?a8⟩ ?ret; (case F => k_asm); (case N => k_asm); (case a4 => assumption); (case a5 => assumption); (case a6 => exact rfl); (case a7 => exact rfl); (case a8 => exact rfl); (case b1 => k_mem); (case b2 => k_mem); (case b3 => k_mem); (case b4 => k_mem); (case b5 => k_mem); (case hw => assumption); (case hx => assumption); (case hy => assumption); (case ret => intro h' m' tk' F9; exact hret h' m' tk' F9))
end -- L3
section -- L4
local macro_rules | `(tactic| walk_at "pad 37") => `(tactic| skip)
local macro_rules | `(tactic| walk_at "pad 38") => `(tactic| skip)
local macro_rules | `(tactic| walk_at "pad 39") => `(tactic| skip)
local macro_rules | `(tactic| walk_at "pad 40") => `(tactic| skip)
open PySem.Builtin.Int (intBits)

local macro_rules | `(tactic| walk_at "binaryOp Add int int") => `(tactic| (k_here; (with_reducible refine add_int ?_); (try dsimp only)))
local macro_rules | `(tactic| walk_at "binaryOp Sub int int") => `(tactic| (k_here; (with_reducible refine sub_int ?_); (try dsimp only)))
local macro_rules | `(tactic| walk_at "binaryOp RShift int int") => `(tactic| (k_here; (with_reducible refine shr_rule (by omega) ?_); (try dsimp only)))
local macro_rules | `(tactic| walk_at "inplaceOp RShift int int") => `(tactic| (k_here; (with_reducible refine ishr_rule (by omega) ?_); (try dsimp only)))
local macro_rules | `(tactic| walk_at "binaryOp BitAnd int int") => `(tactic| (k_here; (with_reducible refine band_rule ?_); (try dsimp only)))
local macro_rules | `(tactic| walk_at "call builtin:int.bit_length") => `(tactic| (k_here; (with_reducible refine bl_rule ?_); (try dsimp only)))
local macro_rules | `(tactic| walk_at "compareOp Eq int int") => `(tactic| (k_here; (with_reducible refine eqb_rule ?_); (try dsimp only)))
local macro_rules | `(tactic| walk_at "truthy int") => `(tactic| (k_here; (with_reducible refine tru_rule ?_); (try dsimp only)))
local macro_rules | `(tactic| walk_at "ite") => `(tactic| (k_here; k_openite; first
  | (with_reducible refine ite_yes (by first | assumption | omega) ?_)
  | (with_reducible refine ite_no (by first | assumption | omega) ?_)
  | (with_reducible refine ite_nyes (by first | assumption | omega) ?_)
  | (with_reducible refine ite_nno (by first | assumption | omega) ?_)
  | ((with_reducible refine ite_split ?_ ?_) <;> intro _)
  | ((with_reducible refine ite_nsplit ?_ ?_) <;> intro _)
  | (with_reducible refine ite_pos (by assumption) ?_)
  | (with_reducible refine ite_isFalse (by assumption) ?_)
  | ((with_reducible refine ite_splitb ?_ ?_) <;> intro _)))
local macro_rules | `(tactic| walk_at "binaryOp LShift int int") => `(tactic| (k_here; (with_reducible refine shl_rule (by omega) (by first | omega | assumption) ?_); (try dsimp only)))
local macro_rules | `(tactic| k_mem) => `(tactic| first | with_reducible assumption | (refine' List.mem_cons_of_mem _ ?_; k_mem))

local macro_rules | `(tactic| walk_at "compareOp Eq str str") => `(tactic| (k_here; first | (with_reducible refine eq_n ?_) | (with_reducible refine eq_f ?_) | (with_reducible refine eq_c ?_) | (with_reducible refine eq_d ?_) | (with_reducible refine eq_u ?_)))
local macro_rules | `(tactic| walk_at "subscriptTail") => `(tactic| (k_here; first
  | ((with_reducible refine' sd_rule ?F ?X ?h ?_); (case F => k_asm); (case X => k_asm); (case h => with_reducible assumption); (try dsimp only))
  | ((with_reducible refine' sd2_rule ?F ?X ?h ?g ?_); (case F => k_asm); (case X => k_asm); (case h => with_reducible assumption); (case g => with_reducible assumption))
  | ((with_reducible refine' rec_rule ?F ?X ?_); (case F => k_asm); (case X => k_asm); (try dsimp only))))

local macro_rules | `(tactic| walk_at "binaryOp LShift int int") => `(tactic| (k_here; (with_reducible refine shl1_rule (by omega) (by omega) ?_); (try dsimp only)))
local macro_rules | `(tactic| walk_at "binaryOp BitXor int int") => `(tactic| (k_here; (with_reducible refine xor0_rule (by assumption) ?_); (try dsimp only)))
local macro_rules | `(tactic| walk_at "call builtin:divmod") => `(tactic| (k_here; (with_reducible refine' divmod_rule ?F ?N ?a ?b ?_); (case F => k_asm); (case N => k_asm); (case a => omega); (case b => omega); (intro h' D' F' N'; (try dsimp only); (try k_sweep))))

local macro_rules | `(tactic| walk_at "binaryOp Mult int int") => `(tactic| (k_here; (with_reducible refine mulb_rule (by assumption) (by assumption) (by decide) ?_); (try dsimp only)))
local macro_rules | `(tactic| walk_at "inplaceOp Pow int int") => `(tactic| (k_here; (with_reducible refine iipw_rule (by omega) (by omega) ?_); (try dsimp only)))
local macro_rules | `(tactic| walk_at "binaryOp FloorDiv int int") => `(tactic| (k_here; (with_reducible refine fdv_rule (by omega) (by decide) ?_); (try dsimp only)))
local macro_rules | `(tactic| walk_at "binaryOp Pow int int") => `(tactic| (k_here; (with_reducible refine pow2_rule (by omega) (by omega) ?_); (try dsimp only)))

local macro_rules | `(tactic| walk_at "binaryOp FloorDiv int int") => `(tactic| (k_here; first | (with_reducible refine edivp_rule (by omega) ?_) | (with_reducible refine ediv_rule (by decide) (by decide) ?_); (try dsimp only)))
local macro_rules | `(tactic| walk_at "binaryOp Mod int int") => `(tactic| (k_here; first | (with_reducible refine emodp_rule ?_) | (with_reducible refine emod_rule (by decide) ?_); (try dsimp only)))
local macro_rules | `(tactic| walk_at "compareOp Eq ref ref") => `(tactic| (k_here; k_dflt ((refine' eq4_rule ?h1 ?h2 ?h3 ?_); (case h1 => exact News.get (by k_asm) (by k_mem)); (case h2 => exact News.get (by k_asm) (by k_mem)); (case h3 => first | ktr_units | omega))))
local macro_rules | `(tactic| walk_at "subscriptTail Name Slice") => `(tactic| (k_here; (refine' slice_two (s := ⟨_, _, _, _, _⟩) ?F ?N ?t ?_); (case F => k_asm); (case N => k_asm); (case t => exact tup4 (by k_asm) (by k_mem)); (intro D' h' F' N'; (try dsimp only); (try k_sweep))))

local macro_rules | `(tactic| ktr_rel) => `(tactic| first
  | with_reducible assumption
  | ((with_reducible apply bits_abs); ktr_rel)
  | ((with_reducible apply ipw2_bits1000); omega)
  | ((with_reducible apply mulI_bits2) <;> ktr_rel)
  | ((with_reducible apply intBits_sub_le) <;> ktr_rel)
  | ((with_reducible apply intBits_neg_le); ktr_rel))
local macro_rules | `(tactic| walk_at "binaryOp Mult int int") => `(tactic| (k_here; (with_reducible refine' mulb_rule ?a ?b ?c ?_); (case a => ktr_rel); (case b => ktr_rel); (case c => decide); (try dsimp only)))
local macro_rules | `(tactic| walk_at "subscriptTail Name Constant ref int") => `(tactic| (k_here; first | ((with_reducible refine' it4_0 ?N ?m ?_); (case N => with_reducible assumption); (case m => k_mem)) | ((with_reducible refine' it4_1 ?N ?m ?_); (case N => with_reducible assumption); (case m => k_mem)) | ((with_reducible refine' it4_2 ?N ?m ?_); (case N => with_reducible assumption); (case m => k_mem)) | ((with_reducible refine' it4_3 ?N ?m ?_); (case N => with_reducible assumption); (case m => k_mem)) | ((with_reducible refine' it2_0 ?N ?m ?_); (case N => with_reducible assumption); (case m => k_mem)) | ((with_reducible refine' it2_1 ?N ?m ?_); (case N => with_reducible assumption); (case m => k_mem))))

local macro_rules | `(tactic| walk_at "compareOp Eq ref ref") => `(tactic| (k_here; first
  | ((with_reducible show wpAny _ _ (compareOp _ _ (Value.ref 22)) _ _ _); k_dflt ((refine' eqR22 ?F ?X ?h1 ?h3 ?_); (case F => k_asm); (case X => k_asm); (case h1 => exact News.get (by k_asm) (by k_mem)); (case h3 => first | ktr_units | omega)))
  | ((with_reducible show wpAny _ _ (compareOp _ (Value.ref 22) _) _ _ _); k_dflt ((refine' eqL22 ?F ?X ?h1 ?h3 ?_); (case F => k_asm); (case X => k_asm); (case h1 => exact News.get (by k_asm) (by k_mem)); (case h3 => first | ktr_units | omega)))
  | ((with_reducible show wpAny _ _ (compareOp _ (Value.ref 23) _) _ _ _); k_dflt ((refine' eqL23 ?F ?X ?h1 ?h3 ?_); (case F => k_asm); (case X => k_asm); (case h1 => exact News.get (by k_asm) (by k_mem)); (case h3 => first | ktr_units | omega)))))
local macro_rules | `(tactic| walk_at "compareOp Eq ref ref") => `(tactic| (k_here; first
  | ((with_reducible show wpAny _ _ (compareOp _ (Value.ref 23) (Value.ref 22)) _ _ _); k_dflt ((refine' eqTT (at23 ?F ?X) (at22 ?F2 ?X2) ?h3 ?_); (case F => k_asm); (case X => k_asm); (case F2 => k_asm); (case X2 => k_asm); (case h3 => first | ktr_units | omega)))
  | ((with_reducible show wpAny _ _ (compareOp _ (Value.ref 22) (Value.ref 22)) _ _ _); k_dflt ((refine' eqTT (at22 ?F ?X) (at22 ?F2 ?X2) ?h3 ?_); (case F => k_asm); (case X => k_asm); (case F2 => k_asm); (case X2 => k_asm); (case h3 => first | ktr_units | omega)))))

local macro_rules | `(tactic| walk_at "binaryOp Pow int int") => `(tactic| (k_here; (refine powb_rule (by assumption) (by omega) (by omega) ?_); intro _; (try dsimp only)))
local macro_rules | `(tactic| walk_at "call builtin:abs") => `(tactic| (k_here; first
  | (k_dflt (refine absP (by omega) ?_); intro u9 tk9; (try dsimp only))
  | (k_dflt (refine absN (by omega) ?_); intro u9 tk9; (try dsimp only))))
local macro_rules | `(tactic| walk_at "call ref") => `(tactic| (k_here; refine halt ?_))
local macro_rules | `(tactic| walk_at "eval Call") => `(tactic| (k_here; first
  | ((with_reducible show wpAny _ _ (eval (Expr.Call (Expr.Name (Str.ofString "_law_leads_up") _) _ [] _) _) _ _ _); k_dflt (refine Call_ ?_))
  | ((with_reducible show wpAny _ _ (eval (Expr.Call (Expr.Name (Str.ofString "mpf_pow_int") _) _ [] _) _) _ _ _); k_dflt (refine Call_ ?_))
  | ((with_reducible show wpAny _ _ (eval (Expr.Call (Expr.Name (Str.ofString "_law_rounded") _) _ [] _) _) _ _ _); k_dflt (refine Call_ ?_))))
local macro_rules | `(tactic| walk_at "call ref") => `(tactic| (k_here; (with_reducible show wpAny _ _ (call (Value.ref 147) [Value.ref _, Value.int _ _, Value.str _ _]) _ _ _); k_dflt ((refine' Tell.use (leadsZ_tells _ _ _ _ _ _ _ _ _ _ _ ?p0 ?p1 ?p2) ?k1 ?k2 ?k3 ?k4 ?k5 ?k6 ?k7 ?k8 ?_); (case k1 => k_asm); (case k2 => k_asm); (case k3 => k_asm); (case k4 => k_asm); (case k5 => k_asm); (case k6 => first | exact rfl | assumption); (case k7 => first | ktr_room | omega); (case k8 => first | ktr_units | omega); (case p0 => first | with_reducible assumption | k_mem | assumption); (case p1 => first | assumption | omega | decide); (case p2 => first | assumption | omega | decide); (intro v9 tl9 h9 tk9 R9 F9 N9; obtain ⟨ev9, et9⟩ := R9; subst ev9; subst et9; (try dsimp only [List.cons_append, List.nil_append] at N9); (try dsimp only); (try k_sweep); (try k_fold)))))
local macro_rules | `(tactic| walk_at "call ref") => `(tactic| (k_here; (with_reducible show wpAny _ _ (call (Value.ref 91) [Value.ref _, Value.int _ _, Value.int _ _, Value.str _ _]) _ _ _); k_dflt ((refine' Tell.use (pown0_tells _ _ _ _ _ _ _ _ _ _ _ _ _ _ _ _ _ ?p0 ?p1 ?p2) ?k1 ?k2 ?k3 ?k4 ?k5 ?k6 ?k7 ?k8 ?_); (case k1 => k_asm); (case k2 => k_asm); (case k3 => k_asm); (case k4 => k_asm); (case k5 => k_asm); (case k6 => first | exact rfl | assumption); (case k7 => first | ktr_room | omega); (case k8 => first | ktr_units | omega); (case p0 => first | with_reducible assumption | k_mem | assumption); (case p1 => omega); (case p2 => omega); (intro v9 tl9 h9 tk9 R9 F9 N9; obtain ⟨ev9, et9⟩ := R9; subst ev9; subst et9; (try dsimp only [List.cons_append, List.nil_append] at N9); (try dsimp only); (try k_sweep); (try k_fold)))))
local macro_rules | `(tactic| walk_at "call ref") => `(tactic| (k_here; (with_reducible show wpAny _ _ (call (Value.ref 91) [Value.ref _, Value.int _ _, Value.int _ _, Value.str _ _]) _ _ _); k_dflt ((refine' Tell.use (pow0_tells _ _ _ _ _ _ _ _ _ _ _ _ _ _ ?p0 ?p1 ?p2 ?p3) ?k1 ?k2 ?k3 ?k4 ?k5 ?k6 ?k7 ?k8 ?_); (case k1 => k_asm); (case k2 => k_asm); (case k3 => k_asm); (case k4 => k_asm); (case k5 => k_asm); (case k6 => first | exact rfl | assumption); (case k7 => first | ktr_room | omega); (case k8 => first | ktr_units | omega); (case p0 => first | with_reducible assumption | k_mem | assumption); (case p1 => first | assumption | omega | decide); (case p2 => first | assumption | omega | decide); (case p3 => first | assumption | omega | decide); (intro v9 tl9 h9 tk9 R9 F9 N9; obtain ⟨ev9, et9⟩ := R9; subst ev9; subst et9; (try dsimp only [List.cons_append, List.nil_append] at N9); (try dsimp only); (try k_sweep); (try k_fold)))))
local macro_rules | `(tactic| walk_at "call ref") => `(tactic| (k_here; (with_reducible show wpAny _ _ (call (Value.ref 119) [Value.int _ _, Value.int _ _, Value.int _ _, Value.str _ _]) _ _ _); k_dflt ((refine' Tell.use (rounded0_tells _ _ _ _ _ _ _ _ _ _ ?p0) ?k1 ?k2 ?k3 ?k4 ?k5 ?k6 ?k7 ?k8 ?_); (case k1 => k_asm); (case k2 => k_asm); (case k3 => k_asm); (case k4 => k_asm); (case k5 => k_asm); (case k6 => first | exact rfl | assumption); (case k7 => first | ktr_room | omega); (case k8 => first | ktr_units | omega); (case p0 => exact zero_above (by assumption) (by omega)); (intro v9 tl9 h9 tk9 R9 F9 N9; obtain ⟨D9, ta9, tb9, tc9, td9, ev9, et9⟩ := R9; subst ev9; subst et9; (try dsimp only [List.cons_append, List.nil_append] at N9); (try dsimp only); (try k_sweep); (try k_fold)))))
local macro_rules | `(tactic| walk_at "call ref") => `(tactic| (k_here; (with_reducible show wpAny _ _ (call (Value.ref 119) [Value.int _ _, Value.int _ _, Value.int _ _, Value.str _ _]) _ _ _); k_dflt ((refine' Tell.use (roundedZ_tells _ _ _ _ _ _ _ _ _ _ _ _ _ ?p0 ?p1 ?p2 ?p3 ?p4) ?k1 ?k2 ?k3 ?k4 ?k5 ?k6 ?k7 ?k8 ?_); (case k1 => k_asm); (case k2 => k_asm); (case k3 => k_asm); (case k4 => k_asm); (case k5 => k_asm); (case k6 => first | exact rfl | assumption); (case k7 => first | ktr_room | omega); (case k8 => first | ktr_units | omega); (case p3 => exact rfl); (case p4 => exact rfl); (case p2 => omega); (case p0 => first | assumption | omega | decide); (case p1 => first | assumption | omega | decide); (intro v9 tl9 h9 tk9 R9 F9 N9; obtain ⟨D9, ta9, tb9, tc9, td9, ev9, et9⟩ := R9; subst ev9; subst et9; (try dsimp only [List.cons_append, List.nil_append] at N9); (try dsimp only); (try k_sweep); (try k_fold)))))
local macro_rules | `(tactic| walk_at "compareOp Eq ref ref") => `(tactic| (k_here; first
  | ((with_reducible show wpAny _ _ (compareOp _ (Value.ref 22) (Value.ref _)) _ _ _); k_dflt ((refine' eqT22 ?F ?X ?h1 ?h3 ?_); (case F => k_asm); (case X => k_asm); (case h1 => exact News.get (by k_asm) (by k_mem)); (case h3 => first | ktr_units | omega)))
  | ((with_reducible show wpAny _ _ (compareOp _ (Value.ref 23) (Value.ref _)) _ _ _); k_dflt ((refine' eqT23 ?F ?X ?h1 ?h3 ?_); (case F => k_asm); (case X => k_asm); (case h1 => exact News.get (by k_asm) (by k_mem)); (case h3 => first | ktr_units | omega)))))
abbrev PreC0 (r : Rnd) (S M : Addr) (n x y prec : Int) (L : Addr) (m : Str → Option Value) (news : Led) : Prop :=
  ∃ (t1 t2 t3 t4 t5 t6 t7 t8 t9 : Tok) (oR oP oF : Obj), news = [(M, I2 x y t8 t9), (S, I4 0 0 0 0 t1 t2 t3 t4), (L + 1 + 1 + 1, oR), (L + 1 + 1, oP), (L + 1, oF)] ∧ oR.data = .cell (some (.str r.str t5)) ∧ oP.data = .cell (some (.int prec t6)) ∧
    m (Str.ofString "s") = some (.ref S) ∧ m (Str.ofString "n") = some (.int n t7) ∧ m (Str.ofString "moved") = some (.ref M)
set_option maxHeartbeats 40000000 in
theorem tailC0 (w : World) (r : Rnd) (S M : Addr) (n x y prec : Int) (hp : 1 ≤ prec) (hp2 : prec ≤ 90) (hw : Worth 0 0 0 x y) (hx : intBits x ≤ 81) (hy : intBits y ≤ 21) (hn : -40 ≤ n) (hn2 : n ≤ 60) :
    LawTail w 6 (PreC0 r S M n x y prec) := by
  unfold LawTail; k_fill
  intro p loose mean mg mb dp un gd a ccd A₀ h₀ L m news s Q E B F X N T hd hu hpre hret
  obtain ⟨t1, t2, t3, t4, t5, t6, t7, t8, t9, oR, oP, oF, enews, dR, dP, m1, m2, m3⟩ := hpre
  subst enews
  w_top on
  have F' := upd4 F m1 m2 m3 m3
  clear F m1 m2 m3
  have hy81 : intBits y ≤ 81 := by omega
  unfold lawD recOf
  dsimp only [List.drop]
  have hz : n < 0 ∨ n = 0 ∨ 1 ≤ n := by omega
  rcases hz with hz | hz | hz
  all_goals k_steps
  all_goals first
    | exact hret _ _ _ (by assumption)
end -- L4
section -- L5
local macro_rules | `(tactic| walk_at "pad 35") => `(tactic| skip)
local macro_rules | `(tactic| walk_at "pad 36") => `(tactic| skip)
local macro_rules | `(tactic| walk_at "pad 37") => `(tactic| skip)
local macro_rules | `(tactic| walk_at "pad 38") => `(tactic| skip)
local macro_rules | `(tactic| walk_at "pad 39") => `(tactic| skip)
local macro_rules | `(tactic| walk_at "pad 40") => `(tactic| skip)
local macro_rules | `(tactic| walk_at "pad 41") => `(tactic| skip)
open PySem.Builtin.Int (intBits)

local macro_rules | `(tactic| walk_at "binaryOp Add int int") => `(tactic| (k_here; (with_reducible refine add_int ?_); (try dsimp only)))
local macro_rules | `(tactic| walk_at "binaryOp Sub int int") => `(tactic| (k_here; (with_reducible refine sub_int ?_); (try dsimp only)))
local macro_rules | `(tactic| walk_at "binaryOp RShift int int") => `(tactic| (k_here; (with_reducible refine shr_rule (by omega) ?_); (try dsimp only)))
local macro_rules | `(tactic| walk_at "inplaceOp RShift int int") => `(tactic| (k_here; (with_reducible refine ishr_rule (by omega) ?_); (try dsimp only)))
local macro_rules | `(tactic| walk_at "binaryOp BitAnd int int") => `(tactic| (k_here; (with_reducible refine band_rule ?_); (try dsimp only)))
local macro_rules | `(tactic| walk_at "call builtin:int.bit_length") => `(tactic| (k_here; (with_reducible refine bl_rule ?_); (try dsimp only)))
local macro_rules | `(tactic| walk_at "compareOp Eq int int") => `(tactic| (k_here; (with_reducible refine eqb_rule ?_); (try dsimp only)))
local macro_rules | `(tactic| walk_at "truthy int") => `(tactic| (k_here; (with_reducible refine tru_rule ?_); (try dsimp only)))
local macro_rules | `(tactic| walk_at "ite") => `(tactic| (k_here; k_openite; first
  | (with_reducible refine ite_yes (by first | assumption | omega) ?_)
  | (with_reducible refine ite_no (by first | assumption | omega) ?_)
  | (with_reducible refine ite_nyes (by first | assumption | omega) ?_)
  | (with_reducible refine ite_nno (by first | assumption | omega) ?_)
  | ((with_reducible refine ite_split ?_ ?_) <;> intro _)
  | ((with_reducible refine ite_nsplit ?_ ?_) <;> intro _)
  | (with_reducible refine ite_pos (by assumption) ?_)
  | (with_reducible refine ite_isFalse (by assumption) ?_)
  | ((with_reducible refine ite_splitb ?_ ?_) <;> intro _)))
local macro_rules | `(tactic| walk_at "binaryOp LShift int int") => `(tactic| (k_here; (with_reducible refine shl_rule (by omega) (by first | omega | assumption) ?_); (try dsimp only)))
local macro_rules | `(tactic| k_mem) => `(tactic| first | with_reducible assumption | (refine' List.mem_cons_of_mem _ ?_; k_mem))

local macro_rules | `(tactic| walk_at "compareOp Eq str str") => `(tactic| (k_here; first | (with_reducible refine eq_n ?_) | (with_reducible refine eq_f ?_) | (with_reducible refine eq_c ?_) | (with_reducible refine eq_d ?_) | (with_reducible refine eq_u ?_)))
local macro_rules | `(tactic| walk_at "subscriptTail") => `(tactic| (k_here; first
  | ((with_reducible refine' sd_rule ?F ?X ?h ?_); (case F => k_asm); (case X => k_asm); (case h => with_reducible assumption); (try dsimp only))
  | ((with_reducible refine' sd2_rule ?F ?X ?h ?g ?_); (case F => k_asm); (case X => k_asm); (case h => with_reducible assumption); (case g => with_reducible assumption))
  | ((with_reducible refine' rec_rule ?F ?X ?_); (case F => k_asm); (case X => k_asm); (try dsimp only))))

local macro_rules | `(tactic| walk_at "binaryOp LShift int int") => `(tactic| (k_here; (with_reducible refine shl1_rule (by omega) (by omega) ?_); (try dsimp only)))
local macro_rules | `(tactic| walk_at "binaryOp BitXor int int") => `(tactic| (k_here; (with_reducible refine xor0_rule (by assumption) ?_); (try dsimp only)))
local macro_rules | `(tactic| walk_at "call builtin:divmod") => `(tactic| (k_here; (with_reducible refine' divmod_rule ?F ?N ?a ?b ?_); (case F => k_asm); (case N => k_asm); (case a => omega); (case b => omega); (intro h' D' F' N'; (try dsimp only); (try k_sweep))))

local macro_rules | `(tactic| walk_at "binaryOp Mult int int") => `(tactic| (k_here; (with_reducible refine mulb_rule (by assumption) (by assumption) (by decide) ?_); (try dsimp only)))
local macro_rules | `(tactic| walk_at "inplaceOp Pow int int") => `(tactic| (k_here; (with_reducible refine iipw_rule (by omega) (by omega) ?_); (try dsimp only)))
local macro_rules | `(tactic| walk_at "binaryOp FloorDiv int int") => `(tactic| (k_here; (with_reducible refine fdv_rule (by omega) (by decide) ?_); (try dsimp only)))
local macro_rules | `(tactic| walk_at "binaryOp Pow int int") => `(tactic| (k_here; (with_reducible refine pow2_rule (by omega) (by omega) ?_); (try dsimp only)))

local macro_rules | `(tactic| walk_at "binaryOp FloorDiv int int") => `(tactic| (k_here; first | (with_reducible refine edivp_rule (by omega) ?_) | (with_reducible refine ediv_rule (by decide) (by decide) ?_); (try dsimp only)))
local macro_rules | `(tactic| walk_at "binaryOp Mod int int") => `(tactic| (k_here; first | (with_reducible refine emodp_rule ?_) | (with_reducible refine emod_rule (by decide) ?_); (try dsimp only)))
local macro_rules | `(tactic| walk_at "compareOp Eq ref ref") => `(tactic| (k_here; k_dflt ((refine' eq4_rule ?h1 ?h2 ?h3 ?_); (case h1 => exact News.get (by k_asm) (by k_mem)); (case h2 => exact News.get (by k_asm) (by k_mem)); (case h3 => first | ktr_units | omega))))
local macro_rules | `(tactic| walk_at "subscriptTail Name Slice") => `(tactic| (k_here; (refine' slice_two (s := ⟨_, _, _, _, _⟩) ?F ?N ?t ?_); (case F => k_asm); (case N => k_asm); (case t => exact tup4 (by k_asm) (by k_mem)); (intro D' h' F' N'; (try dsimp only); (try k_sweep))))

local macro_rules | `(tactic| ktr_rel) => `(tactic| first
  | with_reducible assumption
  | ((with_reducible apply bits_abs); ktr_rel)
  | ((with_reducible apply ipw2_bits1000); omega)
  | ((with_reducible apply mulI_bits2) <;> ktr_rel)
  | ((with_reducible apply intBits_sub_le) <;> ktr_rel)
  | ((with_reducible apply intBits_neg_le); ktr_rel))
local macro_rules | `(tactic| walk_at "binaryOp Mult int int") => `(tactic| (k_here; (with_reducible refine' mulb_rule ?a ?b ?c ?_); (case a => ktr_rel); (case b => ktr_rel); (case c => decide); (try dsimp only)))
local macro_rules | `(tactic| walk_at "subscriptTail Name Constant ref int") => `(tactic| (k_here; first | ((with_reducible refine' it4_0 ?N ?m ?_); (case N => with_reducible assumption); (case m => k_mem)) | ((with_reducible refine' it4_1 ?N ?m ?_); (case N => with_reducible assumption); (case m => k_mem)) | ((with_reducible refine' it4_2 ?N ?m ?_); (case N => with_reducible assumption); (case m => k_mem)) | ((with_reducible refine' it4_3 ?N ?m ?_); (case N => with_reducible assumption); (case m => k_mem)) | ((with_reducible refine' it2_0 ?N ?m ?_); (case N => with_reducible assumption); (case m => k_mem)) | ((with_reducible refine' it2_1 ?N ?m ?_); (case N => with_reducible assumption); (case m => k_mem))))

local macro_rules | `(tactic| walk_at "compareOp Eq ref ref") => `(tactic| (k_here; first
  | ((with_reducible show wpAny _ _ (compareOp _ _ (Value.ref 22)) _ _ _); k_dflt ((refine' eqR22 ?F ?X ?h1 ?h3 ?_); (case F => k_asm); (case X => k_asm); (case h1 => exact News.get (by k_asm) (by k_mem)); (case h3 => first | ktr_units | omega)))
  | ((with_reducible show wpAny _ _ (compareOp _ (Value.ref 22) _) _ _ _); k_dflt ((refine' eqL22 ?F ?X ?h1 ?h3 ?_); (case F => k_asm); (case X => k_asm); (case h1 => exact News.get (by k_asm) (by k_mem)); (case h3 => first | ktr_units | omega)))
  | ((with_reducible show wpAny _ _ (compareOp _ (Value.ref 23) _) _ _ _); k_dflt ((refine' eqL23 ?F ?X ?h1 ?h3 ?_); (case F => k_asm); (case X => k_asm); (case h1 => exact News.get (by k_asm) (by k_mem)); (case h3 => first | ktr_units | omega)))))
local macro_rules | `(tactic| walk_at "compareOp Eq ref ref") => `(tactic| (k_here; first
  | ((with_reducible show wpAny _ _ (compareOp _ (Value.ref 23) (Value.ref 22)) _ _ _); k_dflt ((refine' eqTT (at23 ?F ?X) (at22 ?F2 ?X2) ?h3 ?_); (case F => k_asm); (case X => k_asm); (case F2 => k_asm); (case X2 => k_asm); (case h3 => first | ktr_units | omega)))
  | ((with_reducible show wpAny _ _ (compareOp _ (Value.ref 22) (Value.ref 22)) _ _ _); k_dflt ((refine' eqTT (at22 ?F ?X) (at22 ?F2 ?X2) ?h3 ?_); (case F => k_asm); (case X => k_asm); (case F2 => k_asm); (case X2 => k_asm); (case h3 => first | ktr_units | omega)))))

local macro_rules | `(tactic| walk_at "binaryOp Pow int int") => `(tactic| (k_here; (with_reducible refine pow2_rule (by omega) (by omega) ?_); (try dsimp only)))
local macro_rules | `(tactic| walk_at "call ref") => `(tactic| (k_here; refine halt ?_))
local macro_rules | `(tactic| walk_at "execs cons") => `(tactic| (k_here; (with_reducible show wpAny _ _ (execs [_, _, _, _, _, _, _] _) _ _ _); refine halt ?_))
local macro_rules | `(tactic| walk_at "eval Call") => `(tactic| (k_here; first
  | ((with_reducible show wpAny _ _ (eval (Expr.Call (Expr.Name (Str.ofString "_law_worth") _) _ [] _) _) _ _ _); k_dflt (refine Call_ ?_))
  | ((with_reducible show wpAny _ _ (eval (Expr.Call (Expr.Name (Str.ofString "mpf_shift") _) _ [] _) _) _ _ _); k_dflt (refine Call_ ?_))))
local macro_rules | `(tactic| walk_at "compareOp NotEq int int") => `(tactic| (k_here; first
  | (refine ne_rule (shift_law (by assumption) (by assumption) (by first | assumption | omega) (by first | assumption | omega)) ?_)
  | (refine ne_rule (shift_law0 (by assumption) (by assumption)) ?_)))
local macro_rules | `(tactic| walk_at "call builtin:max") => `(tactic| (k_here; (with_reducible show wpAny _ _ (call (Value.builtin _) [Value.int _ _, Value.int _ _]) _ _ _); k_dflt (refine' max0_rule ?hh ?F ?N ?_; (case hh => rfl); (case F => k_asm); (case N => k_asm); (intro c9 t9 h9 tk9 hc9 hc8 hc7 F9 N9; (try dsimp only); (try k_sweep); (try k_fold)))))
local macro_rules | `(tactic| walk_at "call ref") => `(tactic| (k_here; (with_reducible show wpAny _ _ (call (Value.ref 67) [Value.ref _, Value.int _ _]) _ _ _); k_dflt ((refine' Tell.use (shift0_tells _ _ _ _ _ _ _ _ _ _ _ _ ?p0) ?k1 ?k2 ?k3 ?k4 ?k5 ?k6 ?k7 ?k8 ?_); (case k1 => k_asm); (case k2 => k_asm); (case k3 => k_asm); (case k4 => k_asm); (case k5 => k_asm); (case k6 => first | exact rfl | assumption); (case k7 => first | ktr_room | omega); (case k8 => first | ktr_units | omega); (case p0 => first | with_reducible assumption | k_mem | assumption); (intro v9 tl9 h9 tk9 R9 F9 N9; obtain ⟨ev9, et9⟩ := R9; subst ev9; subst et9; (try dsimp only [List.cons_append, List.nil_append] at N9); (try dsimp only); (try k_sweep); (try k_fold)))))
local macro_rules | `(tactic| walk_at "call ref") => `(tactic| (k_here; (with_reducible show wpAny _ _ (call (Value.ref 112) [Value.ref _]) _ _ _); k_dflt ((refine' Tell.use (worthR_tells _ _ _ _ _ _ _ _ _ _ _ ?p0 ?p1) ?k1 ?k2 ?k3 ?k4 ?k5 ?k6 ?k7 ?k8 ?_); (case k1 => k_asm); (case k2 => k_asm); (case k3 => k_asm); (case k4 => k_asm); (case k5 => k_asm); (case k6 => first | exact rfl | assumption); (case k7 => first | ktr_room | omega); (case k8 => first | ktr_units | omega); (case p0 => first | with_reducible assumption | k_mem | assumption); (case p1 => assumption); (intro v9 tl9 h9 tk9 R9 F9 N9; obtain ⟨D9, x9, y9, ta9, tb9, ev9, et9, H9, B9, C9⟩ := R9; subst ev9; subst et9; (try dsimp only [List.cons_append, List.nil_append] at N9); (try dsimp only); (try k_sweep); (try k_fold)))))
set_option maxHeartbeats 40000000 in
theorem tailB0 (w : World) (r : Rnd) (S : Addr) (n prec : Int) (hp : 1 ≤ prec) (hp2 : prec ≤ 90) (hn : -40 ≤ n) (hn2 : n ≤ 60) :
    LawTail w 4 (PreB r S 0 0 0 0 n prec) := by
  unfold LawTail; k_fill
  intro p loose mean mg mb dp un gd a ccd A₀ h₀ L m news s Q E B F X N T hd hu hpre hret
  obtain ⟨t1, t2, t3, t4, t5, t6, t7, oR, oP, oF, enews, dR, dP, m1, m2⟩ := hpre
  subst enews
  w_top on
  have F' := upd4 F m1 m2 m2 m2
  clear F m1 m2
  have hr : RawOK 0 0 0 0 := .inl ⟨rfl, rfl, rfl, rfl⟩
  have D1 := fun M x y hw hx hy => tailC0 w r S M n x y prec hp hp2 hw hx hy hn hn2
  unfold LawTail at D1
  unfold lawD recOf at D1 ⊢
  dsimp only [List.drop] at D1 ⊢
  k_steps
  all_goals unfold Halt
  all_goals first
    | (refine' D1 _ _ _ ?hw ?hx ?hy _ _ _ _ _ _ _ _ _ _ _ _ _ _ _ _ _ _ B ?F X (News.pick5 ?N ?b1 ?b2 ?b3 ?b4 ?b5) T hd hu ⟨_, _, _, _, _, _, _, _, _, _, _, _, rfl, ?a4, ?a5, ?a6, ?a7, ?a8⟩ ?ret; (case F => k_asm); (case N => k_asm); (case a4 => assumption); (case a5 => assumption); (case a6 => exact rfl); (case a7 => exact rfl); (case a8 => exact rfl); (case b1 => k_mem); (case b2 => k_mem); (case b3 => k_mem); (case b4 => k_mem); (case b5 => k_mem); (case hw => assumption); (case hx => assumption); (case hy => assumption); (case ret => intro h' m' tk' F9; exact hret h' m' tk' F9))
theorem tailBR (w : World) (r : Rnd) (S : Addr) (sg man exp bc n prec : Int) (hr : RawOK sg man exp bc) (hp : 1 ≤ prec) (hp2 : prec ≤ 90) (hn : -40 ≤ n) (hn2 : n ≤ 60) :
    LawTail w 4 (PreB r S sg man exp bc n prec) := by
  rcases hr with ⟨rfl, rfl, rfl, rfl⟩ | ⟨h1, h2, h3, h4, h5, rfl⟩
  · exact tailB0 w r S n prec hp hp2 hn hn2
  · exact tailB w r S sg man exp n prec h1 h2 h3 h4 h5 hp hp2 hn hn2
end -- L5
section -- L6
local macro_rules | `(tactic| walk_at "pad 33") => `(tactic| skip)
local macro_rules | `(tactic| walk_at "pad 34") => `(tactic| skip)
local macro_rules | `(tactic| walk_at "pad 35") => `(tactic| skip)
local macro_rules | `(tactic| walk_at "pad 36") => `(tactic| skip)
local macro_rules | `(tactic| walk_at "pad 37") => `(tactic| skip)
local macro_rules | `(tactic| walk_at "pad 38") => `(tactic| skip)
local macro_rules | `(tactic| walk_at "pad 39") => `(tactic| skip)
local macro_rules | `(tactic| walk_at "pad 40") => `(tactic| skip)
local macro_rules | `(tactic| walk_at "pad 41") => `(tactic| skip)
local macro_rules | `(tactic| walk_at "pad 42") => `(tactic| skip)
open PySem.Builtin.Int (intBits)

local macro_rules | `(tactic| walk_at "binaryOp Add int int") => `(tactic| (k_here; (with_reducible refine add_int ?_); (try dsimp only)))
local macro_rules | `(tactic| walk_at "binaryOp Sub int int") => `(tactic| (k_here; (with_reducible refine sub_int ?_); (try dsimp only)))
local macro_rules | `(tactic| walk_at "binaryOp RShift int int") => `(tactic| (k_here; (with_reducible refine shr_rule (by omega) ?_); (try dsimp only)))
local macro_rules | `(tactic| walk_at "inplaceOp RShift int int") => `(tactic| (k_here; (with_reducible refine ishr_rule (by omega) ?_); (try dsimp only)))
local macro_rules | `(tactic| walk_at "binaryOp BitAnd int int") => `(tactic| (k_here; (with_reducible refine band_rule ?_); (try dsimp only)))
local macro_rules | `(tactic| walk_at "call builtin:int.bit_length") => `(tactic| (k_here; (with_reducible refine bl_rule ?_); (try dsimp only)))
local macro_rules | `(tactic| walk_at "compareOp Eq int int") => `(tactic| (k_here; (with_reducible refine eqb_rule ?_); (try dsimp only)))
local macro_rules | `(tactic| walk_at "truthy int") => `(tactic| (k_here; (with_reducible refine tru_rule ?_); (try dsimp only)))
local macro_rules | `(tactic| walk_at "ite") => `(tactic| (k_here; k_openite; first
  | (with_reducible refine ite_yes (by first | assumption | omega) ?_)
  | (with_reducible refine ite_no (by first | assumption | omega) ?_)
  | (with_reducible refine ite_nyes (by first | assumption | omega) ?_)
  | (with_reducible refine ite_nno (by first | assumption | omega) ?_)
  | ((with_reducible refine ite_split ?_ ?_) <;> intro _)
  | ((with_reducible refine ite_nsplit ?_ ?_) <;> intro _)
  | (with_reducible refine ite_pos (by assumption) ?_)
  | (with_reducible refine ite_isFalse (by assumption) ?_)
  | ((with_reducible refine ite_splitb ?_ ?_) <;> intro _)))
local macro_rules | `(tactic| walk_at "binaryOp LShift int int") => `(tactic| (k_here; (with_reducible refine shl_rule (by omega) (by first | omega | assumption) ?_); (try dsimp only)))
local macro_rules | `(tactic| k_mem) => `(tactic| first | with_reducible assumption | (refine' List.mem_cons_of_mem _ ?_; k_mem))

local macro_rules | `(tactic| walk_at "compareOp Eq str str") => `(tactic| (k_here; first | (with_reducible refine eq_n ?_) | (with_reducible refine eq_f ?_) | (with_reducible refine eq_c ?_) | (with_reducible refine eq_d ?_) | (with_reducible refine eq_u ?_)))
local macro_rules | `(tactic| walk_at "subscriptTail") => `(tactic| (k_here; first
  | ((with_reducible refine' sd_rule ?F ?X ?h ?_); (case F => k_asm); (case X => k_asm); (case h => with_reducible assumption); (try dsimp only))
  | ((with_reducible refine' sd2_rule ?F ?X ?h ?g ?_); (case F => k_asm); (case X => k_asm); (case h => with_reducible assumption); (case g => with_reducible assumption))
  | ((with_reducible refine' rec_rule ?F ?X ?_); (case F => k_asm); (case X => k_asm); (try dsimp only))))

local macro_rules | `(tactic| walk_at "binaryOp LShift int int") => `(tactic| (k_here; (with_reducible refine shl1_rule (by omega) (by omega) ?_); (try dsimp only)))
local macro_rules | `(tactic| walk_at "binaryOp BitXor int int") => `(tactic| (k_here; (with_reducible refine xor0_rule (by assumption) ?_); (try dsimp only)))
local macro_rules | `(tactic| walk_at "call builtin:divmod") => `(tactic| (k_here; (with_reducible refine' divmod_rule ?F ?N ?a ?b ?_); (case F => k_asm); (case N => k_asm); (case a => omega); (case b => omega); (intro h' D' F' N'; (try dsimp only); (try k_sweep))))

local macro_rules | `(tactic| walk_at "binaryOp Mult int int") => `(tactic| (k_here; (with_reducible refine mulb_rule (by assumption) (by assumption) (by decide) ?_); (try dsimp only)))
local macro_rules | `(tactic| walk_at "inplaceOp Pow int int") => `(tactic| (k_here; (with_reducible refine iipw_rule (by omega) (by omega) ?_); (try dsimp only)))
local macro_rules | `(tactic| walk_at "binaryOp FloorDiv int int") => `(tactic| (k_here; (with_reducible refine fdv_rule (by omega) (by decide) ?_); (try dsimp only)))
local macro_rules | `(tactic| walk_at "binaryOp Pow int int") => `(tactic| (k_here; (with_reducible refine pow2_rule (by omega) (by omega) ?_); (try dsimp only)))

local macro_rules | `(tactic| walk_at "binaryOp FloorDiv int int") => `(tactic| (k_here; first | (with_reducible refine edivp_rule (by omega) ?_) | (with_reducible refine ediv_rule (by decide) (by decide) ?_); (try dsimp only)))
local macro_rules | `(tactic| walk_at "binaryOp Mod int int") => `(tactic| (k_here; first | (with_reducible refine emodp_rule ?_) | (with_reducible refine emod_rule (by decide) ?_); (try dsimp only)))
local macro_rules | `(tactic| walk_at "compareOp Eq ref ref") => `(tactic| (k_here; k_dflt ((refine' eq4_rule ?h1 ?h2 ?h3 ?_); (case h1 => exact News.get (by k_asm) (by k_mem)); (case h2 => exact News.get (by k_asm) (by k_mem)); (case h3 => first | ktr_units | omega))))
local macro_rules | `(tactic| walk_at "subscriptTail Name Slice") => `(tactic| (k_here; (refine' slice_two (s := ⟨_, _, _, _, _⟩) ?F ?N ?t ?_); (case F => k_asm); (case N => k_asm); (case t => exact tup4 (by k_asm) (by k_mem)); (intro D' h' F' N'; (try dsimp only); (try k_sweep))))

local macro_rules | `(tactic| ktr_rel) => `(tactic| first
  | with_reducible assumption
  | ((with_reducible apply bits_abs); ktr_rel)
  | ((with_reducible apply ipw2_bits1000); omega)
  | ((with_reducible apply mulI_bits2) <;> ktr_rel)
  | ((with_reducible apply intBits_sub_le) <;> ktr_rel)
  | ((with_reducible apply intBits_neg_le); ktr_rel))
local macro_rules | `(tactic| walk_at "binaryOp Mult int int") => `(tactic| (k_here; (with_reducible refine' mulb_rule ?a ?b ?c ?_); (case a => ktr_rel); (case b => ktr_rel); (case c => decide); (try dsimp only)))
local macro_rules | `(tactic| walk_at "subscriptTail Name Constant ref int") => `(tactic| (k_here; first | ((with_reducible refine' it4_0 ?N ?m ?_); (case N => with_reducible assumption); (case m => k_mem)) | ((with_reducible refine' it4_1 ?N ?m ?_); (case N => with_reducible assumption); (case m => k_mem)) | ((with_reducible refine' it4_2 ?N ?m ?_); (case N => with_reducible assumption); (case m => k_mem)) | ((with_reducible refine' it4_3 ?N ?m ?_); (case N => with_reducible assumption); (case m => k_mem)) | ((with_reducible refine' it2_0 ?N ?m ?_); (case N => with_reducible assumption); (case m => k_mem)) | ((with_reducible refine' it2_1 ?N ?m ?_); (case N => with_reducible assumption); (case m => k_mem))))

local macro_rules | `(tactic| walk_at "compareOp Eq ref ref") => `(tactic| (k_here; first
  | ((with_reducible show wpAny _ _ (compareOp _ _ (Value.ref 22)) _ _ _); k_dflt ((refine' eqR22 ?F ?X ?h1 ?h3 ?_); (case F => k_asm); (case X => k_asm); (case h1 => exact News.get (by k_asm) (by k_mem)); (case h3 => first | ktr_units | omega)))
  | ((with_reducible show wpAny _ _ (compareOp _ (Value.ref 22) _) _ _ _); k_dflt ((refine' eqL22 ?F ?X ?h1 ?h3 ?_); (case F => k_asm); (case X => k_asm); (case h1 => exact News.get (by k_asm) (by k_mem)); (case h3 => first | ktr_units | omega)))
  | ((with_reducible show wpAny _ _ (compareOp _ (Value.ref 23) _) _ _ _); k_dflt ((refine' eqL23 ?F ?X ?h1 ?h3 ?_); (case F => k_asm); (case X => k_asm); (case h1 => exact News.get (by k_asm) (by k_mem)); (case h3 => first | ktr_units | omega)))))
local macro_rules | `(tactic| walk_at "compareOp Eq ref ref") => `(tactic| (k_here; first
  | ((with_reducible show wpAny _ _ (compareOp _ (Value.ref 23) (Value.ref 22)) _ _ _); k_dflt ((refine' eqTT (at23 ?F ?X) (at22 ?F2 ?X2) ?h3 ?_); (case F => k_asm); (case X => k_asm); (case F2 => k_asm); (case X2 => k_asm); (case h3 => first | ktr_units | omega)))
  | ((with_reducible show wpAny _ _ (compareOp _ (Value.ref 22) (Value.ref 22)) _ _ _); k_dflt ((refine' eqTT (at22 ?F ?X) (at22 ?F2 ?X2) ?h3 ?_); (case F => k_asm); (case X => k_asm); (case F2 => k_asm); (case X2 => k_asm); (case h3 => first | ktr_units | omega)))))

local macro_rules | `(tactic| walk_at "call ref") => `(tactic| (k_here; refine halt ?_))
local macro_rules | `(tactic| walk_at "execs cons") => `(tactic| (k_here; (with_reducible show wpAny _ _ (execs [_, _, _, _, _, _, _, _, _] _) _ _ _); refine halt ?_))
local macro_rules | `(tactic| walk_at "eval Call") => `(tactic| (k_here; first
  | ((with_reducible show wpAny _ _ (eval (Expr.Call (Expr.Name (Str.ofString "_law_parted") _) _ [] _) _) _ _ _); k_dflt (refine Call_ ?_))))
local macro_rules | `(tactic| walk_at "CompSrc") => `(tactic| (k_here; k_dflt (refine LCg.CompSrc.range (by rfl) (by k_asm) (by k_asm) (by assumption) (by first | decide | rfl) (by first | rfl | decide) (by first | size_fits | exact Nat.le_of_ble_eq_true rfl) ?_; intro g'; lcg_lit)))
local macro_rules | `(tactic| walk_at "call ref") => `(tactic| (k_here; (with_reducible show wpAny _ _ (call (Value.ref 133) [Value.int _ _, Value.int _ _, Value.int _ _, Value.str _ _]) _ _ _); k_dflt ((refine' TellT.use (refused_tells _ _ _ _ _ _ _ _ _ _ ?p0 ?p1 ?p2 ?p3 ?p4 ?p5) ?k1 ?k2 ?k3 ?k4 ?k5 ?k6 ?k7 ?k8 ?_); (case k1 => k_asm); (case k2 => k_asm); (case k3 => k_asm); (case k4 => k_asm); (case k5 => k_asm); (case k6 => first | exact rfl | assumption); (case k7 => first | ktr_room | omega); (case k8 => first | ktr_units | omega); (case p0 => first | assumption | omega | decide); (case p1 => first | assumption | omega | decide); (case p2 => first | assumption | omega | decide); (case p3 => first | assumption | omega | decide); (case p4 => first | assumption | omega | decide); (case p5 => first | assumption | omega | decide); (intro v9 tl9 h9 tk9 R9 F9 N9; obtain ⟨ev9, et9⟩ := R9; subst ev9; subst et9; (try dsimp only [List.cons_append, List.nil_append] at N9); (try dsimp only); (try k_sweep); (try k_fold)))))
local macro_rules | `(tactic| walk_at "call ref") => `(tactic| (k_here; (with_reducible show wpAny _ _ (call (Value.ref 140) [Value.ref _]) _ _ _); k_dflt ((refine' Tell.use (partedR_tells _ _ _ _ _ _ _ _ _ _ _ ?p0 ?p1) ?k1 ?k2 ?k3 ?k4 ?k5 ?k6 ?k7 ?k8 ?_); (case k1 => k_asm); (case k2 => k_asm); (case k3 => k_asm); (case k4 => k_asm); (case k5 => k_asm); (case k6 => first | exact rfl | assumption); (case k7 => first | ktr_room | omega); (case k8 => first | ktr_units | omega); (case p0 => first | with_reducible assumption | k_mem | assumption); (case p1 => assumption); (intro v9 tl9 h9 tk9 R9 F9 N9; obtain ⟨ev9, et9⟩ := R9; subst ev9; subst et9; (repeat (with_reducible rename LCg.NsObj _ _ => z9; clear z9)); (repeat (with_reducible rename InElt _ _ => z9; clear z9)); (repeat (with_reducible rename IsRange _ _ _ _ _ _ _ _ => z9; clear z9)); (repeat (with_reducible rename (_ ≠ _) ∧ _ => z9; clear z9)); (repeat (with_reducible rename ((_ ≠ _) ∧ _) ∧ _ => z9; clear z9)); (repeat (with_reducible rename ∀ (b : Addr) (o : Obj), _ => z9; clear z9)); (try dsimp only [List.cons_append, List.nil_append] at N9); (try dsimp only); (try k_sweep); (try k_fold)))))
abbrev PreA (r : Rnd) (S : Addr) (sg man exp bc n prec first : Int) (L : Addr) (m : Str → Option Value) (news : Led) : Prop :=
  ∃ (t1 t2 t3 t4 t5 t6 t7 t8 : Tok) (oR oP oF : Obj), news = [(S, I4 sg man exp bc t1 t2 t3 t4), (L + 1 + 1 + 1, oR), (L + 1 + 1, oP), (L + 1, oF)] ∧ oR.data = .cell (some (.str r.str t5)) ∧ oP.data = .cell (some (.int prec t6)) ∧ oF.data = .cell (some (.int first t8)) ∧
    m (Str.ofString "s") = some (.ref S) ∧ m (Str.ofString "n") = some (.int n t7)
set_option maxHeartbeats 40000000 in
theorem tailA (w : World) (r : Rnd) (S : Addr) (sg man exp bc n prec first : Int) (hr : RawOK sg man exp bc) (hp : 1 ≤ prec) (hp2 : prec ≤ 90) (hn : -40 ≤ n) (hn2 : n ≤ 60) :
    LawTail w 3 (PreA r S sg man exp bc n prec first) := by
  unfold LawTail; k_fill
  intro p loose mean mg mb dp un gd a ccd A₀ h₀ L m news s Q E B F X N T hd hu hpre hret
  obtain ⟨t1, t2, t3, t4, t5, t6, t7, t8, oR, oP, oF, enews, dR, dP, dF, m1, m2⟩ := hpre
  subst enews
  w_top on
  have F' := upd4 F m1 m2 m2 m2
  clear F m1 m2
  have D1 := tailBR w r S sg man exp bc n prec hr hp hp2 hn hn2
  unfold LawTail at D1
  unfold lawD recOf at D1 ⊢
  dsimp only [List.drop] at D1 ⊢
  k_steps
  all_goals try unfold Halt
  all_goals first
    | (refine' D1 _ _ _ _ _ _ _ _ _ _ _ _ _ _ _ _ _ _ B ?F X (News.pick4 ?N ?b1 ?b2 ?b3 ?b4) T hd hu ⟨_, _, _, _, _, _, _, _, _, _, rfl, ?a4, ?a5, ?a6, ?a7⟩ ?ret; (case F => k_asm); (case N => k_asm); (case a4 => assumption); (case a5 => assumption); (case a6 => exact rfl); (case a7 => exact rfl); (case b1 => k_mem); (case b2 => k_mem); (case b3 => k_mem); (case b4 => k_mem); (case ret => intro h' m' tk' F9; exact hret h' m' tk' F9))
end -- L6
section -- L7
local macro_rules | `(tactic| walk_at "pad 33") => `(tactic| skip)
local macro_rules | `(tactic| walk_at "pad 34") => `(tactic| skip)
local macro_rules | `(tactic| walk_at "pad 35") => `(tactic| skip)
local macro_rules | `(tactic| walk_at "pad 36") => `(tactic| skip)
local macro_rules | `(tactic| walk_at "pad 37") => `(tactic| skip)
local macro_rules | `(tactic| walk_at "pad 38") => `(tactic| skip)
local macro_rules | `(tactic| walk_at "pad 39") => `(tactic| skip)
local macro_rules | `(tactic| walk_at "pad 40") => `(tactic| skip)
local macro_rules | `(tactic| walk_at "pad 41") => `(tactic| skip)
local macro_rules | `(tactic| walk_at "pad 42") => `(tactic| skip)
local macro_rules | `(tactic| walk_at "pad 43") => `(tactic| skip)
open PySem.Builtin.Int (intBits)

local macro_rules | `(tactic| walk_at "binaryOp Add int int") => `(tactic| (k_here; (with_reducible refine add_int ?_); (try dsimp only)))
local macro_rules | `(tactic| walk_at "binaryOp Sub int int") => `(tactic| (k_here; (with_reducible refine sub_int ?_); (try dsimp only)))
local macro_rules | `(tactic| walk_at "binaryOp RShift int int") => `(tactic| (k_here; (with_reducible refine shr_rule (by omega) ?_); (try dsimp only)))
local macro_rules | `(tactic| walk_at "inplaceOp RShift int int") => `(tactic| (k_here; (with_reducible refine ishr_rule (by omega) ?_); (try dsimp only)))
local macro_rules | `(tactic| walk_at "binaryOp BitAnd int int") => `(tactic| (k_here; (with_reducible refine band_rule ?_); (try dsimp only)))
local macro_rules | `(tactic| walk_at "call builtin:int.bit_length") => `(tactic| (k_here; (with_reducible refine bl_rule ?_); (try dsimp only)))
local macro_rules | `(tactic| walk_at "compareOp Eq int int") => `(tactic| (k_here; (with_reducible refine eqb_rule ?_); (try dsimp only)))
local macro_rules | `(tactic| walk_at "truthy int") => `(tactic| (k_here; (with_reducible refine tru_rule ?_); (try dsimp only)))
local macro_rules | `(tactic| walk_at "ite") => `(tactic| (k_here; k_openite; first
  | (with_reducible refine ite_yes (by first | assumption | omega) ?_)
  | (with_reducible refine ite_no (by first | assumption | omega) ?_)
  | (with_reducible refine ite_nyes (by first | assumption | omega) ?_)
  | (with_reducible refine ite_nno (by first | assumption | omega) ?_)
  | ((with_reducible refine ite_split ?_ ?_) <;> intro _)
  | ((with_reducible refine ite_nsplit ?_ ?_) <;> intro _)
  | (with_reducible refine ite_pos (by assumption) ?_)
  | (with_reducible refine ite_isFalse (by assumption) ?_)
  | ((with_reducible refine ite_splitb ?_ ?_) <;> intro _)))
local macro_rules | `(tactic| walk_at "binaryOp LShift int int") => `(tactic| (k_here; (with_reducible refine shl_rule (by omega) (by first | omega | assumption) ?_); (try dsimp only)))
local macro_rules | `(tactic| k_mem) => `(tactic| first | with_reducible assumption | (refine' List.mem_cons_of_mem _ ?_; k_mem))

local macro_rules | `(tactic| walk_at "compareOp Eq str str") => `(tactic| (k_here; first | (with_reducible refine eq_n ?_) | (with_reducible refine eq_f ?_) | (with_reducible refine eq_c ?_) | (with_reducible refine eq_d ?_) | (with_reducible refine eq_u ?_)))
local macro_rules | `(tactic| walk_at "subscriptTail") => `(tactic| (k_here; first
  | ((with_reducible refine' sd_rule ?F ?X ?h ?_); (case F => k_asm); (case X => k_asm); (case h => with_reducible assumption); (try dsimp only))
  | ((with_reducible refine' sd2_rule ?F ?X ?h ?g ?_); (case F => k_asm); (case X => k_asm); (case h => with_reducible assumption); (case g => with_reducible assumption))
  | ((with_reducible refine' rec_rule ?F ?X ?_); (case F => k_asm); (case X => k_asm); (try dsimp only))))

local macro_rules | `(tactic| walk_at "binaryOp LShift int int") => `(tactic| (k_here; (with_reducible refine shl1_rule (by omega) (by omega) ?_); (try dsimp only)))
local macro_rules | `(tactic| walk_at "binaryOp BitXor int int") => `(tactic| (k_here; (with_reducible refine xor0_rule (by assumption) ?_); (try dsimp only)))
local macro_rules | `(tactic| walk_at "call builtin:divmod") => `(tactic| (k_here; (with_reducible refine' divmod_rule ?F ?N ?a ?b ?_); (case F => k_asm); (case N => k_asm); (case a => omega); (case b => omega); (intro h' D' F' N'; (try dsimp only); (try k_sweep))))

local macro_rules | `(tactic| walk_at "binaryOp Mult int int") => `(tactic| (k_here; (with_reducible refine mulb_rule (by assumption) (by assumption) (by decide) ?_); (try dsimp only)))
local macro_rules | `(tactic| walk_at "inplaceOp Pow int int") => `(tactic| (k_here; (with_reducible refine iipw_rule (by omega) (by omega) ?_); (try dsimp only)))
local macro_rules | `(tactic| walk_at "binaryOp FloorDiv int int") => `(tactic| (k_here; (with_reducible refine fdv_rule (by omega) (by decide) ?_); (try dsimp only)))
local macro_rules | `(tactic| walk_at "binaryOp Pow int int") => `(tactic| (k_here; (with_reducible refine pow2_rule (by omega) (by omega) ?_); (try dsimp only)))

local macro_rules | `(tactic| walk_at "binaryOp FloorDiv int int") => `(tactic| (k_here; first | (with_reducible refine edivp_rule (by omega) ?_) | (with_reducible refine ediv_rule (by decide) (by decide) ?_); (try dsimp only)))
local macro_rules | `(tactic| walk_at "binaryOp Mod int int") => `(tactic| (k_here; first | (with_reducible refine emodp_rule ?_) | (with_reducible refine emod_rule (by decide) ?_); (try dsimp only)))
local macro_rules | `(tactic| walk_at "compareOp Eq ref ref") => `(tactic| (k_here; k_dflt ((refine' eq4_rule ?h1 ?h2 ?h3 ?_); (case h1 => exact News.get (by k_asm) (by k_mem)); (case h2 => exact News.get (by k_asm) (by k_mem)); (case h3 => first | ktr_units | omega))))
local macro_rules | `(tactic| walk_at "subscriptTail Name Slice") => `(tactic| (k_here; (refine' slice_two (s := ⟨_, _, _, _, _⟩) ?F ?N ?t ?_); (case F => k_asm); (case N => k_asm); (case t => exact tup4 (by k_asm) (by k_mem)); (intro D' h' F' N'; (try dsimp only); (try k_sweep))))

local macro_rules | `(tactic| ktr_rel) => `(tactic| first
  | with_reducible assumption
  | ((with_reducible apply bits_abs); ktr_rel)
  | ((with_reducible apply ipw2_bits1000); omega)
  | ((with_reducible apply mulI_bits2) <;> ktr_rel)
  | ((with_reducible apply intBits_sub_le) <;> ktr_rel)
  | ((with_reducible apply intBits_neg_le); ktr_rel))
local macro_rules | `(tactic| walk_at "binaryOp Mult int int") => `(tactic| (k_here; (with_reducible refine' mulb_rule ?a ?b ?c ?_); (case a => ktr_rel); (case b => ktr_rel); (case c => decide); (try dsimp only)))
local macro_rules | `(tactic| walk_at "subscriptTail Name Constant ref int") => `(tactic| (k_here; first | ((with_reducible refine' it4_0 ?N ?m ?_); (case N => with_reducible assumption); (case m => k_mem)) | ((with_reducible refine' it4_1 ?N ?m ?_); (case N => with_reducible assumption); (case m => k_mem)) | ((with_reducible refine' it4_2 ?N ?m ?_); (case N => with_reducible assumption); (case m => k_mem)) | ((with_reducible refine' it4_3 ?N ?m ?_); (case N => with_reducible assumption); (case m => k_mem)) | ((with_reducible refine' it2_0 ?N ?m ?_); (case N => with_reducible assumption); (case m => k_mem)) | ((with_reducible refine' it2_1 ?N ?m ?_); (case N => with_reducible assumption); (case m => k_mem))))

local macro_rules | `(tactic| walk_at "compareOp Eq ref ref") => `(tactic| (k_here; first
  | ((with_reducible show wpAny _ _ (compareOp _ _ (Value.ref 22)) _ _ _); k_dflt ((refine' eqR22 ?F ?X ?h1 ?h3 ?_); (case F => k_asm); (case X => k_asm); (case h1 => exact News.get (by k_asm) (by k_mem)); (case h3 => first | ktr_units | omega)))
  | ((with_reducible show wpAny _ _ (compareOp _ (Value.ref 22) _) _ _ _); k_dflt ((refine' eqL22 ?F ?X ?h1 ?h3 ?_); (case F => k_asm); (case X => k_asm); (case h1 => exact News.get (by k_asm) (by k_mem)); (case h3 => first | ktr_units | omega)))
  | ((with_reducible show wpAny _ _ (compareOp _ (Value.ref 23) _) _ _ _); k_dflt ((refine' eqL23 ?F ?X ?h1 ?h3 ?_); (case F => k_asm); (case X => k_asm); (case h1 => exact News.get (by k_asm) (by k_mem)); (case h3 => first | ktr_units | omega)))))
local macro_rules | `(tactic| walk_at "compareOp Eq ref ref") => `(tactic| (k_here; first
  | ((with_reducible show wpAny _ _ (compareOp _ (Value.ref 23) (Value.ref 22)) _ _ _); k_dflt ((refine' eqTT (at23 ?F ?X) (at22 ?F2 ?X2) ?h3 ?_); (case F => k_asm); (case X => k_asm); (case F2 => k_asm); (case X2 => k_asm); (case h3 => first | ktr_units | omega)))
  | ((with_reducible show wpAny _ _ (compareOp _ (Value.ref 22) (Value.ref 22)) _ _ _); k_dflt ((refine' eqTT (at22 ?F ?X) (at22 ?F2 ?X2) ?h3 ?_); (case F => k_asm); (case X => k_asm); (case F2 => k_asm); (case X2 => k_asm); (case h3 => first | ktr_units | omega)))))

local macro_rules | `(tactic| walk_at "call ref") => `(tactic| (k_here; refine halt ?_))
local macro_rules | `(tactic| walk_at "execs cons") => `(tactic| (k_here; (with_reducible show wpAny _ _ (execs [_, _, _, _, _, _, _, _, _, _] _) _ _ _); refine halt ?_))
local macro_rules | `(tactic| walk_at "eval Call") => `(tactic| (k_here; first
  | ((with_reducible show wpAny _ _ (eval (Expr.Call (Expr.Name (Str.ofString "_law_mixed") _) _ [] _) _) _ _ _); k_dflt (refine Call_ ?_))
  | ((with_reducible show wpAny _ _ (eval (Expr.Call (Expr.Name (Str.ofString "_law_raw") _) _ [] _) _) _ _ _); k_dflt (refine Call_ ?_))))
local macro_rules | `(tactic| walk_at "subscriptTail") => `(tactic| (k_here; (with_reducible show wpAny _ _ (subscriptTail _ (Expr.BinOp _ _ _ _) (Value.ref _) (Value.int _ _)) _ _ _); k_dflt (refine' menu_rule ?N ?m ?a ?b ?_; (case N => k_asm); (case m => k_mem); (case a => omega); (case b => omega); intro r9 t9)))
local macro_rules | `(tactic| walk_at "call ref") => `(tactic| (k_here; (with_reducible show wpAny _ _ (call (Value.ref 98) [Value.ref _, Value.int _ _]) _ _ _); k_dflt ((refine' TellB.use (mixed_tells _ _ _ _ _ _ _ ?p0 ?p1 ?p2 ?p3) ?g0 ?k1 ?k2 ?k3 ?k4 ?k5 ?k6 ?k7 ?k8 ?_); (case g0 => first | assumption | with_reducible assumption); (case k1 => k_asm); (case k2 => k_asm); (case k3 => k_asm); (case k4 => k_asm); (case k5 => k_asm); (case k6 => first | exact rfl | assumption); (case k7 => first | ktr_room | omega); (case k8 => first | ktr_units | omega); (case p0 => first | assumption | omega | decide); (case p1 => first | assumption | omega | decide); (case p2 => assumption); (case p3 => first | omega | (have hLen9 := IntsAre.length (by assumption); omega)); (intro v9 tl9 h9 tk9 R9 F9 N9; obtain ⟨x9, t9, ev9, et9, hx9⟩ := R9; subst ev9; subst et9; (try dsimp only [List.cons_append, List.nil_append] at N9); (try dsimp only); (try k_sweep); (try k_fold)))))
local macro_rules | `(tactic| walk_at "call ref") => `(tactic| (k_here; (with_reducible show wpAny _ _ (call (Value.ref 105) [Value.int _ _, Value.int _ _, Value.int _ _]) _ _ _); k_dflt ((refine' Tell.use (raw_tells _ _ _ _ _ _) ?k1 ?k2 ?k3 ?k4 ?k5 ?k6 ?k7 ?k8 ?_); (case k1 => k_asm); (case k2 => k_asm); (case k3 => k_asm); (case k4 => k_asm); (case k5 => k_asm); (case k6 => first | exact rfl | assumption); (case k7 => first | ktr_room | omega); (case k8 => first | ktr_units | omega); (intro v9 tl9 h9 tk9 R9 F9 N9; obtain ⟨D9, sg9, m9, e9, b9, ta9, tb9, tc9, td9, ev9, et9, H9⟩ := R9; subst ev9; subst et9; (try dsimp only [List.cons_append, List.nil_append] at N9); (try dsimp only); (try k_sweep); (try k_fold)))))
set_option maxHeartbeats 40000000 in
theorem tail0 (w : World) (l : Addr) (vs : List Value) (ns : List Int) (hi : IntsAre vs ns) (hfit : ns.length < 2 ^ 62) :
    ∀ (p : Program) (loose : List Str) (mean : ExcName → Option Value) (mg mb : Str → Option Value) (dp un : Nat) (gd : Option (List Code)) (a : Addr) (ccd : Value) (A₀ : Around) (h₀ : Heap) (L : Addr) (m : Str → Option Value) (news : Led) (s : Shared) (Q : Flow → Shared → Prop) (E : Value → Shared → Prop) (oR oP oF : Obj) (vR vP vF : Option Value),
      Below A₀ h₀ [] h₀ → Fr h₀ L s.heap m → (Mine.hd.heap_39 w.params).In h₀ → News h₀ L s.heap news → Top p loose mean mg mb h₀ →
      dp + 100 < recursionLimit → un + 1000 < cLine → h₀.IsList l vs.toArray → news = [(L + 1 + 1 + 1, oR), (L + 1 + 1, oP), (L + 1, oF)] → oR.data = .cell vR → oP.data = .cell vP → oF.data = .cell vF → m (Str.ofString "script") = some (.ref l) →
      (∀ (h' : Heap) (m' : Str → Option Value) (tk' : Nat), Fr h₀ L h' m' → Q (.ret (.bool true)) { s with heap := h', toks := tk' }) →
      wpAny (model PySem.Challenge.rw_ah5005_01.row.prog w) (ktrTop dp un gd lawD.name lawD.scope L a ccd (lawCl L) []) (execs lawD.body (envX lawD.name lawD.scope L a ccd (lawCl L))) Q E s := by
  k_fill
  intro p loose mean mg mb dp un gd a ccd A₀ h₀ L m news s Q E oR oP oF vR vP vF B F X N T hd hu hIs enews dR dP dF m1 hret
  subst enews
  w_top on
  have F' := upd4 F m1 m1 m1 m1
  clear F m1
  have D1 := fun r S sg man exp bc n prec first hr hp hp2 hn hn2 => tailA w r S sg man exp bc n prec first hr hp hp2 hn hn2
  unfold LawTail at D1
  unfold lawD recOf at D1 ⊢
  dsimp only [List.drop] at D1 ⊢
  k_steps
  all_goals try unfold Halt
  all_goals first
    | (refine' D1 _ _ _ _ _ _ _ _ _ ?hr ?hp ?hp2 ?hn ?hn2 _ _ _ _ _ _ _ _ _ _ _ _ _ _ _ _ _ _ B ?F X (News.pick4 ?N ?b1 ?b2 ?b3 ?b4) T hd hu ⟨_, _, _, _, _, _, _, _, _, _, _, rfl, ?a4, ?a5, ?a8, ?a6, ?a7⟩ ?ret; (case F => k_asm); (case N => k_asm); (case a6 => exact rfl); (case a7 => exact rfl); (case b2 => k_mem); (case b3 => k_mem); (case b4 => k_mem); (case a4 => assumption); (case a5 => assumption); (case a8 => assumption); (case b1 => k_mem); (case hr => assumption); (case hp => omega); (case hp2 => omega); (case hn => omega); (case hn2 => omega); (case ret => intro h' m' tk' F9; exact hret h' m' tk' F9))
end -- L7
section -- L8
open PySem.Builtin.Int (intBits)

set_option maxHeartbeats 40000000 in
theorem law_holds : PySem.Challenge.rw_ah5005_01.Holds := Mine.hd (by
  k_go0
  all_goals (try k_fold)
  rename Below _ _ _ _ => B0
  rename Fr _ _ _ _ => F0
  rename News _ _ _ _ => N9
  rename Top _ _ _ _ _ _ => T0
  rename IntsAre _ _ => I0
  rename Heap.IsList _ _ _ => L0
  rename Frag.In _ _ => X9
  k_dflt (refine' tail0 _ _ _ _ I0 ?hfit _ _ _ _ _ _ _ _ _ _ _ _ _ _ _ _ _ _ _ _ _ _ _ _ B0 F0 X9 N9 T0 ?hd ?hu L0 ?en ?dR ?dP ?dF ?m1 ?ret)
  case hfit => omega
  case en => exact rfl
  case dR => assumption
  case dP => assumption
  case dF => assumption
  case m1 => exact rfl
  case hd => decide
  case hu => decide
  case ret =>
    intro h' m' tk' F9
    k_steps)
end -- L8
end Mine
theorem PySem.Challenge.cw_ah5005_01_holds : PySem.Challenge.rw_ah5005_01.Holds := by
  exact Mine.law_holds
