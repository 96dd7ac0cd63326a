import PyProof.Rows.All
import Wide.All
import OpenK.AllK
import Wide.FinOn
import PySem.Challenge.RW_op0053_01
set_option Elab.async false
section -- Hd
open PySem PySem.W PyProof.Rows
namespace Mine
set_option maxRecDepth 100000 in
set_option maxHeartbeats 8000000 in
open_top hd for PySem.Challenge.rw_op0053_01
end Mine
end -- Hd

section -- Base
open PySem PySem.W PyProof.Rows PySem.Calls
namespace Mine
/-- what a call of the def at f does, in whatever frame it is called -/
def Does (w : World) (loose : List Str) (mean : ExcName → Option Value) (mg mb : Str → Option Value) (f : Addr) (vs : List Value) (news : List (Addr × Obj)) (dp' un' : Nat)
    (out : Value → List (Addr × Obj) → Prop) : Prop :=
  ∀ (dp un : Nat) (gd : Option (List Code)) (cn : Str) (cs : Scope) (a : Addr) (ccd : Value) (cl : List (Str × Addr)) (outer : List Env) (A₀ : Around) (base h₀ : Heap) (L : Addr) (m : Str → Option Value) (s : Shared) (Q E : Value → Shared → Prop),
    Below A₀ base outer h₀ → Fr h₀ L s.heap m → (hd.heap_39 w.params).In h₀ → News h₀ L s.heap news → Top topProg loose mean mg mb h₀ → cs.kind = .function →
    dp + dp' < recursionLimit → un + un' < cLine →
    (∀ v news' h' tk', out v news' → Fr h₀ L h' m → News h₀ L h' news' → Q v { s with heap := h', toks := tk' }) →
    wpAny (model PySem.Challenge.rw_op0053_01.row.prog w) (ktrTop dp un gd cn cs L a ccd cl outer) (call (.ref f) vs) Q E s

theorem Does.use {w : World} {loose : List Str} {mean : ExcName → Option Value} {mg mb : Str → Option Value} {f : Addr} {vs : List Value} {news : List (Addr × Obj)} {dp' un' : Nat} {out : Value → List (Addr × Obj) → Prop}
    (H : Does w loose mean mg mb f vs news dp' un' out)
    {dp un : Nat} {gd : Option (List Code)} {cn : Str} {cs : Scope} {a : Addr} {ccd : Value} {cl : List (Str × Addr)} {outer : List Env} {A₀ : Around} {base h₀ : Heap} {L : Addr} {m : Str → Option Value} {s : Shared} {Q E : Value → Shared → Prop}
    (B : Below A₀ base outer h₀) (F : Fr h₀ L s.heap m) (X : (hd.heap_39 w.params).In h₀) (N : News h₀ L s.heap news) (T : Top topProg loose mean mg mb h₀) (hk : cs.kind = .function)
    (hd : dp + dp' < recursionLimit) (hu : un + un' < cLine)
    (ret : ∀ v news' h' tk', out v news' → Fr h₀ L h' m → News h₀ L h' news' → Q v { s with heap := h', toks := tk' }) :
    wpAny (model PySem.Challenge.rw_op0053_01.row.prog w) (ktrTop dp un gd cn cs L a ccd cl outer) (call (.ref f) vs) Q E s :=
  H dp un gd cn cs a ccd cl outer A₀ base h₀ L m s Q E B F X N T hk hd hu ret

theorem filled (P : Prop) (h : PySem.Challenge.rw_op0053_01 = PySem.Challenge.rw_op0053_01 ∧ hd.heap_39 = hd.heap_39 → P) : P := h ⟨rfl, rfl⟩

def spotF (p : Int) : Int := if p < 9 then 9 - p else 36 - 3 * p
def signsF (p : Int) : Str := if p < 9 then (if p % 3 = 0 then "-xSsTt" else if p % 3 = 1 then "-w" else "-r") else if p = 9 then "-Txt" else "-Sxs"
abbrev tupOf (vs : List Value) (c : Nat) : Obj := { cls := .type "tuple", data := .seq vs.toArray c }
end Mine
end -- Base

section -- Base2
open PySem PySem.W PyProof.Rows PySem.Calls
namespace Mine
section
variable {h₀ h' : Heap} {L d : Addr} {m : Str → Option Value} {news n2 : List (Addr × Obj)} {s : Shared} {Q : Value → Shared → Prop} {tk : Nat}
def RetTup2 (news : List (Addr × Obj)) (x : Int) (y : Str) (v : Value) (news' : List (Addr × Obj)) : Prop :=
  ∃ d t1 t2 c, v = .ref d ∧ (∀ p ∈ news, p.1 < d) ∧ news' = (d, tupOf [.int x t1, .str y t2] c) :: news
theorem RetTup2.fin {x x' : Int} {y y' : Str} {t1 t2 : Tok} {c : Nat} (hret : ∀ v news' h' tk', RetTup2 news x y v news' → Fr h₀ L h' m → News h₀ L h' news' → Q v { s with heap := h', toks := tk' })
    (F : Fr h₀ L h' m) (N : News h₀ L h' n2) (hm : (d, tupOf [.int x' t1, .str y' t2] c) ∈ n2) (hs : ∀ p ∈ news, p ∈ n2) (hl : ∀ p ∈ news, p.1 < d) (ex : x' = x) (ey : y' = y) :
    Q (.ref d) { s with heap := h', toks := tk } := by
  subst ex; subst ey
  exact hret _ _ _ _ ⟨d, t1, t2, c, rfl, hl, rfl⟩ F fun p hp => by
    rcases List.mem_cons.mp hp with rfl | hp
    · exact N _ hm
    · exact N _ (hs p hp)
def RetInt (news : List (Addr × Obj)) (x : Int) (v : Value) (news' : List (Addr × Obj)) : Prop := ∃ t, v = .int x t ∧ news' = news
def RetStr (news : List (Addr × Obj)) (x : Str) (v : Value) (news' : List (Addr × Obj)) : Prop := ∃ t, v = .str x t ∧ news' = news
def RetList (news : List (Addr × Obj)) (ns : List Int) (v : Value) (news' : List (Addr × Obj)) : Prop :=
  ∃ d vs c, v = .ref d ∧ IntsAre vs ns ∧ (∀ p ∈ news, p.1 < d) ∧ news' = (d, listOf vs.toArray c) :: news
theorem RetInt.fin {x x' : Int} {t : Tok} (hret : ∀ v news' h' tk', RetInt news x v news' → Fr h₀ L h' m → News h₀ L h' news' → Q v { s with heap := h', toks := tk' })
    (F : Fr h₀ L h' m) (N : News h₀ L h' n2) (hs : ∀ p ∈ news, p ∈ n2) (ex : x' = x) : Q (.int x' t) { s with heap := h', toks := tk } := by
  subst ex
  exact hret _ _ _ _ ⟨t, rfl, rfl⟩ F fun p hp => N _ (hs p hp)
theorem RetStr.fin {x x' : Str} {t : Tok} (hret : ∀ v news' h' tk', RetStr news x v news' → Fr h₀ L h' m → News h₀ L h' news' → Q v { s with heap := h', toks := tk' })
    (F : Fr h₀ L h' m) (N : News h₀ L h' n2) (hs : ∀ p ∈ news, p ∈ n2) (ex : x' = x) : Q (.str x' t) { s with heap := h', toks := tk } := by
  subst ex
  exact hret _ _ _ _ ⟨t, rfl, rfl⟩ F fun p hp => N _ (hs p hp)
theorem RetList.fin {ns : List Int} {vs : List Value} {c : Nat} (hret : ∀ v news' h' tk', RetList news ns v news' → Fr h₀ L h' m → News h₀ L h' news' → Q v { s with heap := h', toks := tk' })
    (F : Fr h₀ L h' m) (N : News h₀ L h' n2) (hm : (d, listOf vs.toArray c) ∈ n2) (hs : ∀ p ∈ news, p ∈ n2) (hl : ∀ p ∈ news, p.1 < d) (hi : IntsAre vs ns) :
    Q (.ref d) { s with heap := h', toks := tk } :=
  hret _ _ _ _ ⟨d, vs, c, rfl, hi, hl, rfl⟩ F fun p hp => by
    rcases List.mem_cons.mp hp with rfl | hp
    · exact N _ hm
    · exact N _ (hs p hp)
end
local macro_rules | `(tactic| walk_at "mine sub") => `(tactic| (intro q hq; repeat' (first | exact hq | refine List.Mem.tail _ ?_)))
local macro_rules | `(tactic| walk_at "mine lt") => `(tactic| first | assumption | (intro q hq; (try simp only [AllLt] at *); first | exact kst_ltOf (by assumption) q hq | (rename _ ∧ AllLt _ _ => hl; exact kst_ltOf hl.2 q hq) | (rename _ ∧ _ ∧ AllLt _ _ => hl; exact kst_ltOf hl.2.2 q hq)))

set_option maxRecDepth 100000 in
set_option maxHeartbeats 8000000 in
theorem pairs {w loose mean mg mb} (p : Int) (t : Tok) (news : List (Addr × Obj)) (h0 : 0 ≤ p) (h1 : p < 12) : Does w loose mean mg mb 89 [.int p t] news 1 8 (RetTup2 news (spotF p) (signsF p)) := by
  k_with_none
  w_top off
  refine filled _ ?_
  k_fill
  intro hfill; clear hfill
  intro dp un gd cn cs a ccd cl outer A₀ base h₀ L m s Q E hB hF hX hN hT hk hd hu hret
  have ef : p.fmod 3 = p % 3 := Int.fmod_eq_emod_of_nonneg p (by decide)
  refine wpAny_call ?_
  k_dflt cell_enter
  k_steps
  · rename p < 9 => hlt
    have e2 : p % 3 = 0 ∨ p % 3 = 1 ∨ p % 3 = 2 := by omega
    rcases e2 with e | e | e <;> rw [ef, e] <;> k_steps <;>
      exact RetTup2.fin hret (by assumption) (by assumption) (by k_mem) (by walk_at "mine sub") (by walk_at "mine lt") (by unfold spotF; omega) (by simp [signsF, e, *])
  · rename ¬ (p < 9) => hlt
    have e2 : p = 9 ∨ p = 10 ∨ p = 11 := by omega
    rcases e2 with e | e | e <;> subst e <;> k_steps <;>
      exact RetTup2.fin hret (by assumption) (by assumption) (by k_mem) (by walk_at "mine sub") (by walk_at "mine lt") (by decide) (by decide)
end Mine
end -- Base2

section -- W2
open PySem PySem.W PyProof.Rows PySem.Calls
namespace Mine
def findF (x : Str) (p : Int) : Int := Txt.find (signsF p) (Txt.item x (spotF p))
def turnedF (x : Str) (p : Int) : Str := Txt.slice x none (some (spotF p)) ++ Txt.item (signsF p) (findF x p + 1 - (findF x p).fmod 2 * 2) ++ Txt.slice x (some (spotF p + 1)) none
structure Fits (x : Str) (p : Int) : Prop where
  len : x.length = 10
  lo : 0 ≤ findF x p
  hi : findF x p + 1 - (findF x p).fmod 2 * 2 < ((signsF p).length : Int)
theorem spot_lo {p : Int} (_ : 0 ≤ p) (h1 : p < 12) : 0 ≤ spotF p := by unfold spotF; split <;> omega
theorem spot_hi {p : Int} (h0 : 0 ≤ p) (_ : p < 12) : spotF p < 10 := by unfold spotF; split <;> omega
theorem signs_len (p : Int) : (signsF p).length ≤ 6 := by
  unfold signsF; repeat' split
  all_goals decide +kernel
local macro_rules | `(tactic| walk_at "call ref") => `(tactic| (k_here; (with_reducible show wpAny _ _ (call (Value.ref 89) _) _ _ _); k_dflt (refine' Does.use (pairs _ _ _ ?ka ?kb) ?k1 ?k2 ?k3 ?k4 ?k5 ?kK ?kd ?ku ?_; (case k1 => k_asm); (case k2 => k_asm); (case k3 => k_asm); (case k4 => k_asm); (case k5 => k_asm); (case kK => first | exact rfl | assumption); (case ka => omega); (case kb => omega); (case kd => ktr_room); (case ku => ktr_units); intro v9 n9 h9 tk9 ho9 F9 N9; obtain ⟨d9, t19, t29, c9, e19, l1, e29⟩ := ho9; subst e19; subst e29; (try dsimp only); (try k_lt l1); (try k_fold))))
set_option maxRecDepth 100000 in
set_option maxHeartbeats 8000000 in
theorem turned {w loose mean mg mb} (x : Str) (p : Int) (t t' : Tok) (news : List (Addr × Obj)) (h0 : 0 ≤ p) (h1 : p < 12) (hx : Fits x p) :
    Does w loose mean mg mb 96 [.str x t', .int p t] news 2 16 (RetStr news (turnedF x p)) := by
  k_with_none
  w_top off
  refine filled _ ?_
  k_fill
  intro hfill; clear hfill
  intro dp un gd cn cs a ccd cl outer A₀ base h₀ L m s Q E hB hF hX hN hT hk hd hu hret
  have hs0 := spot_lo h0 h1
  have hs1 := spot_hi h0 h1
  have hg := signs_len p
  obtain ⟨hx, hk0, hk1⟩ := hx
  unfold turnedF at hret
  unfold findF at hk0 hk1 hret
  have hm0 : 0 ≤ (Txt.find (signsF p) (Txt.item x (spotF p))).fmod 2 := Int.fmod_nonneg_of_pos _ (by decide)
  have hm1 : (Txt.find (signsF p) (Txt.item x (spotF p))).fmod 2 < 2 := Int.fmod_lt_of_pos _ (by decide)
  have hm2 := Int.mul_fdiv_add_fmod (Txt.find (signsF p) (Txt.item x (spotF p))) 2
  refine wpAny_call ?_
  k_dflt cell_enter
  k_steps
  · exfalso; omega
  · exact RetStr.fin hret (by assumption) (by assumption) (by intro q hq; repeat' (first | exact hq | refine List.Mem.tail _ ?_)) rfl
end Mine
end -- W2

section -- Plain1
open PySem PySem.W PyProof.Rows PySem.Calls
namespace Mine
def bitC (b : Bool) (c : Nat) : Nat := if b then c else 45
def xC (x s : Bool) (lo up : Nat) : Nat := if x then (if s then lo else 120) else (if s then up else 45)
def Row (c : Nat) (r : Nat → Bool) : Str := ⟨#[c, bitC (r 8) 114, bitC (r 7) 119, xC (r 6) (r 11) 115 83, bitC (r 5) 114, bitC (r 4) 119, xC (r 3) (r 10) 115 83, bitC (r 2) 114, bitC (r 1) 119, xC (r 0) (r 9) 116 84]⟩
def flipB (r : Nat → Bool) (p : Nat) : Nat → Bool := fun i => if i = p then !r i else r i
set_option maxRecDepth 100000
set_option maxHeartbeats 4000000
theorem cases12 {p : Int} (h0 : 0 ≤ p) (h1 : p < 12) : p = 0 ∨ p = 1 ∨ p = 2 ∨ p = 3 ∨ p = 4 ∨ p = 5 ∨ p = 6 ∨ p = 7 ∨ p = 8 ∨ p = 9 ∨ p = 10 ∨ p = 11 := by omega
theorem turned_row (c : Nat) (r : Nat → Bool) {p : Int} (h0 : 0 ≤ p) (h1 : p < 12) : turnedF (Row c r) p = Row c (flipB r p.toNat) := by
  rcases cases12 h0 h1 with e | e | e | e | e | e | e | e | e | e | e | e <;> subst e <;> simp [Row, flipB]
  · generalize r 0 = x; generalize r 9 = y; cases x <;> cases y <;> kernel_rfl
  · generalize r 1 = x; cases x <;> kernel_rfl
  · generalize r 2 = x; cases x <;> kernel_rfl
  · generalize r 3 = x; generalize r 10 = y; cases x <;> cases y <;> kernel_rfl
  · generalize r 4 = x; cases x <;> kernel_rfl
  · generalize r 5 = x; cases x <;> kernel_rfl
  · generalize r 6 = x; generalize r 11 = y; cases x <;> cases y <;> kernel_rfl
  · generalize r 7 = x; cases x <;> kernel_rfl
  · generalize r 8 = x; cases x <;> kernel_rfl
  · generalize r 0 = x; generalize r 9 = y; cases x <;> cases y <;> kernel_rfl
  · generalize r 3 = x; generalize r 10 = y; cases x <;> cases y <;> kernel_rfl
  · generalize r 6 = x; generalize r 11 = y; cases x <;> cases y <;> kernel_rfl
theorem find_row (c : Nat) (r : Nat → Bool) {p : Int} (h0 : 0 ≤ p) (h1 : p < 12) : ∃ e : Nat, findF (Row c r) p = 2 * e + ((r p.toNat).toNat : Int) ∧ 2 * e + 1 < (signsF p).length := by
  rcases cases12 h0 h1 with e | e | e | e | e | e | e | e | e | e | e | e <;> subst e <;> simp only [Row, Int.reduceToNat, Int.toNat_zero, Int.toNat_one]
  · generalize r 0 = x; generalize r 9 = y; exact ⟨2 * y.toNat, by cases x <;> cases y <;> kernel_rfl, by cases y <;> decide +kernel⟩
  · generalize r 1 = x; exact ⟨0, by cases x <;> kernel_rfl, by decide +kernel⟩
  · generalize r 2 = x; exact ⟨0, by cases x <;> kernel_rfl, by decide +kernel⟩
  · generalize r 3 = x; generalize r 10 = y; exact ⟨y.toNat, by cases x <;> cases y <;> kernel_rfl, by cases y <;> decide +kernel⟩
  · generalize r 4 = x; exact ⟨0, by cases x <;> kernel_rfl, by decide +kernel⟩
  · generalize r 5 = x; exact ⟨0, by cases x <;> kernel_rfl, by decide +kernel⟩
  · generalize r 6 = x; generalize r 11 = y; exact ⟨y.toNat, by cases x <;> cases y <;> kernel_rfl, by cases y <;> decide +kernel⟩
  · generalize r 7 = x; exact ⟨0, by cases x <;> kernel_rfl, by decide +kernel⟩
  · generalize r 8 = x; exact ⟨0, by cases x <;> kernel_rfl, by decide +kernel⟩
  · generalize r 0 = x; generalize r 9 = y; exact ⟨x.toNat, by cases x <;> cases y <;> kernel_rfl, by cases x <;> decide +kernel⟩
  · generalize r 3 = x; generalize r 10 = y; exact ⟨x.toNat, by cases x <;> cases y <;> kernel_rfl, by cases x <;> decide +kernel⟩
  · generalize r 6 = x; generalize r 11 = y; exact ⟨x.toNat, by cases x <;> cases y <;> kernel_rfl, by cases x <;> decide +kernel⟩
theorem fits_row (c : Nat) (r : Nat → Bool) {p : Int} (h0 : 0 ≤ p) (h1 : p < 12) : Fits (Row c r) p := by
  obtain ⟨e, he, hl⟩ := find_row c r h0 h1
  refine ⟨rfl, ?_, ?_⟩
  · rw [he]; omega
  · rw [he, Int.fmod_eq_emod_of_nonneg _ (by decide)]; have := Bool.toNat_le (r p.toNat); omega
theorem find_mod (c : Nat) (r : Nat → Bool) {p : Int} (h0 : 0 ≤ p) (h1 : p < 12) : findF (Row c r) p % 2 = ((r p.toNat).toNat : Int) := by
  obtain ⟨e, he, hl⟩ := find_row c r h0 h1
  rw [he]; have := Bool.toNat_le (r p.toNat); omega
end Mine
end -- Plain1

section -- W3
open PySem PySem.W PyProof.Rows PySem.Calls
namespace Mine
def Stop (P : Prop) : Prop := P
theorem Stop.out {P : Prop} (h : Stop P) : P := h
theorem Stop.mk {P : Prop} (h : P) : Stop P := h
theorem ite_split {c : Prop} [Decidable c] {a b : Prop} (h1 : c → a) (h2 : ¬ c → b) : if c then a else b := by split <;> simp_all
def kch (kind : Int) : Nat := (Txt.charAt "?pc?d?b?-?l?s???" kind).getD 0
def gB (step : Int) (n : Nat) : Bool := ((step.fdiv (2 ^ n) + (step.fdiv (2 ^ n)).fdiv 2).fmod 2 == 1)
noncomputable def rowBits (step turn : Int) : Nat → Nat → Bool
  | 0 => fun _ => false
  | n + 1 => if gB step n then flipB (rowBits step turn n) (((n : Int) - turn).fmod 12).toNat else rowBits step turn n
noncomputable def rowP (step kind turn : Int) (n : Nat) : Str := Row (kch kind) (rowBits step turn n)
theorem row_start (step kind turn : Int) : Txt.item "?pc?d?b?-?l?s???" kind ++ (Str.ofString "---------") = rowP step kind turn 0 := by
  have e : (Str.ofString "---------") = ⟨#[45, 45, 45, 45, 45, 45, 45, 45, 45]⟩ := by decide +kernel
  rw [e]; rfl
theorem row_len (step kind turn : Int) (n : Nat) : (rowP step kind turn n).length = 10 := rfl
theorem row_same {step kind turn k : Int} {n : Nat} (e : k = 0 + (n : Int)) (h : ¬ ((step.fdiv (2 ^ k.toNat) + (step.fdiv (2 ^ k.toNat)).fdiv 2).fmod 2 == 1) = true) : rowP step kind turn n = rowP step kind turn (n + 1) := by
  have e2 : k.toNat = n := by omega
  rw [e2] at h
  unfold rowP
  rw [rowBits, if_neg (by exact h)]
theorem row_turned {step kind turn k : Int} {n : Nat} (e : k = 0 + (n : Int)) (h : ((step.fdiv (2 ^ k.toNat) + (step.fdiv (2 ^ k.toNat)).fdiv 2).fmod 2 == 1) = true) :
    turnedF (rowP step kind turn n) ((k - turn).fmod 12) = rowP step kind turn (n + 1) := by
  have e2 : k.toNat = n := by omega
  rw [e2] at h
  have h0 : 0 ≤ (k - turn).fmod 12 := Int.fmod_nonneg_of_pos _ (by decide)
  have h1 : (k - turn).fmod 12 < 12 := Int.fmod_lt_of_pos _ (by decide)
  unfold rowP
  rw [turned_row _ _ h0 h1]
  rw [rowBits, if_pos (by exact h)]
  have : k = (n : Int) := by omega
  rw [this]
theorem row_fits (step kind turn : Int) (n : Nat) (k : Int) : Fits (rowP step kind turn n) (k.fmod 12) := fits_row _ _ (Int.fmod_nonneg_of_pos _ (by decide)) (Int.fmod_lt_of_pos _ (by decide))
theorem gen_toks {α : Type} {M : Model} {A : Around} {t : Sem α} {Q : α → Shared → Prop} {E : Value → Shared → Prop} {h : Heap} {g : Array GenState} {d : Drawn} {n : Nat} {o : OsState}
    (H : ∀ k, wpAny M A t Q E ⟨h, g, d, k, o⟩) : wpAny M A t Q E ⟨h, g, d, n, o⟩ := H n
local macro_rules | `(tactic| walk_at "execs cons") => `(tactic| (k_here; (refine gen_toks (fun tk9 => ?_)); (with_reducible refine wpAny_execs_cons ?_); (try dsimp only)))
local macro_rules | `(tactic| walk_at "execs nil") => `(tactic| (k_here; (refine gen_toks (fun tk9 => ?_)); refine wpAny_execs_nil ?_))
local macro_rules | `(tactic| walk_at "InvEndN") => `(tactic| kst_close)
local macro_rules | `(tactic| walk_at "pyIter ref") => `(tactic| refine Stop.out ?_)
local macro_rules | `(tactic| walk_at "ite") => `(tactic| refine Stop.out ?_)
local macro_rules | `(tactic| walk_at "call ref") => `(tactic| first | refine Stop.out ?_)
local macro_rules | `(tactic| walk_at "call ref") => `(tactic| (k_here; (with_reducible show wpAny _ _ (call (Value.ref 96) _) _ _ _); k_dflt (refine' Does.use (turned _ _ _ _ _ ?ka ?kb ?kc) ?k1 ?k2 ?k3 ?k4 ?k5 ?kK ?kd ?ku ?_; (case k1 => k_asm); (case k2 => k_asm); (case k3 => k_asm); (case k4 => k_asm); (case k5 => k_asm); (case kK => first | exact rfl | assumption); (case ka => exact Int.fmod_nonneg_of_pos _ (by decide)); (case kb => exact Int.fmod_lt_of_pos _ (by decide)); (case kc => (rename ∀ (_ : Nat) (_ : Int), Fits _ _ => hfit9; exact hfit9 _ _)); (case kd => first | assumption | ((try dsimp only [Around.deeper]); omega)); (case ku => ((try dsimp only [Around.deeper]); omega)); intro v9 n9 h9 tk9 ho9 F9 N9; obtain ⟨t19, e19, e29⟩ := ho9; subst e19; subst e29; (try dsimp only); (try k_fold))))
set_option maxRecDepth 100000 in
set_option maxHeartbeats 1000000 in
theorem row_gen {w loose mean mg mb} (f : Nat → Str) (step kind turn : Int) (t t' t'' : Tok) (news : List (Addr × Obj)) (h0 : 0 ≤ step) (h1 : step < 4096) (hk0 : 0 ≤ kind) (hk1 : kind < 16) (ht0 : 0 ≤ turn) (ht1 : turn < 12)
    (hf0 : Txt.item "?pc?d?b?-?l?s???" kind ++ (Str.ofString "---------") = f 0) (hfit : ∀ n k, Fits (f n) (Int.fmod k 12))
    (hfs : ∀ {n : Nat} {k : Int}, k = 0 + (n : Int) → ¬ ((step.fdiv (2 ^ k.toNat) + (step.fdiv (2 ^ k.toNat)).fdiv 2).fmod 2 == 1) = true → f n = f (n + 1))
    (hft : ∀ {n : Nat} {k : Int}, k = 0 + (n : Int) → ((step.fdiv (2 ^ k.toNat) + (step.fdiv (2 ^ k.toNat)).fdiv 2).fmod 2 == 1) = true → turnedF (f n) ((k - turn).fmod 12) = f (n + 1)) :
    Does w loose mean mg mb 103 [.int step t, .int kind t', .int turn t''] news 3 24 (RetStr news (f 12)) := by
  k_with_none
  w_top off
  refine filled _ ?_
  k_fill
  intro hfill; clear hfill
  intro dp un gd cn cs a ccd cl outer A₀ base h₀ L m s Q E hB hF hX hN hT hk hd hu hret
  refine wpAny_call ?_
  k_dflt cell_enter
  (k_with "pyIter ref" => k_state (fun pre text => text = f pre.length) "text")
  (k_with "state" => first | (rw [List.length_append]; exact hft kEq hc) | (rw [List.length_append]; exact hfs kEq hc) | exact hf0)
  k_steps
  refine Stop.mk ?_
  k_state (fun pre text => text = f pre.length) "text"
  · (try subst kInv)
    k_steps
    refine Stop.mk ?_
    refine ite_split (fun hc => ?_) (fun hc => ?_)
    · k_steps
    · k_steps
  · k_steps
    exact RetStr.fin hret (by assumption) (by assumption) (by intro q hq; repeat' (first | exact hq | refine List.Mem.tail _ ?_)) kInv
theorem row {w loose mean mg mb} (step kind turn : Int) (t t' t'' : Tok) (news : List (Addr × Obj)) (h0 : 0 ≤ step) (h1 : step < 4096) (hk0 : 0 ≤ kind) (hk1 : kind < 16) (ht0 : 0 ≤ turn) (ht1 : turn < 12) :
    Does w loose mean mg mb 103 [.int step t, .int kind t', .int turn t''] news 3 24 (RetStr news (rowP step kind turn 12)) :=
  row_gen (fun n => rowP step kind turn n) step kind turn t t' t'' news h0 h1 hk0 hk1 ht0 ht1 (row_start _ _ _) (fun n k => row_fits _ _ _ _ _) row_same row_turned
end Mine
end -- W3

section -- W4
open PySem PySem.W PyProof.Rows PySem.Calls
namespace Mine
local macro_rules | `(tactic| walk_at "none such") => `(tactic| fail)
local macro_rules | `(tactic| walk_at "none such") => `(tactic| fail)
local macro_rules | `(tactic| walk_at "execs cons") => `(tactic| (k_here; (refine gen_toks (fun tk9 => ?_)); (with_reducible refine wpAny_execs_cons ?_); (try dsimp only)))
local macro_rules | `(tactic| walk_at "execs nil") => `(tactic| (k_here; (refine gen_toks (fun tk9 => ?_)); refine wpAny_execs_nil ?_))
local macro_rules | `(tactic| walk_at "InvEndN") => `(tactic| refine Stop.out ?_)
local macro_rules | `(tactic| walk_at "call builtin:list.insert") => `(tactic| refine Stop.out ?_)
theorem kl_ins0 (l : List Value) (y : Value) : kl_ins l 0 y = y :: l := by simp [kl_ins]
local macro_rules | `(tactic| walk_at "pyIter ref") => `(tactic| refine Stop.out ?_)
local macro_rules | `(tactic| walk_at "call ref") => `(tactic| first | refine Stop.out ?_)
local macro_rules | `(tactic| walk_at "call ref") => `(tactic| (k_here; (with_reducible show wpAny _ _ (call (Value.ref 89) _) _ _ _); k_dflt (refine' Does.use (pairs _ _ _ ?ka ?kb) ?k1 ?k2 ?k3 ?k4 ?k5 ?kK ?kd ?ku ?_; (case k1 => k_asm); (case k2 => k_asm); (case k3 => k_asm); (case k4 => k_asm); (case k5 => k_asm); (case kK => first | exact rfl | assumption); (case ka => exact Int.fmod_nonneg_of_pos _ (by decide)); (case kb => exact Int.fmod_lt_of_pos _ (by decide)); (case kd => first | assumption | ((try dsimp only [Around.deeper]); omega)); (case ku => ((try dsimp only [Around.deeper]); omega)); intro v9 n9 h9 tk9 ho9 F9 N9; obtain ⟨d9, t19, t29, c9, e19, l1, e29⟩ := ho9; subst e19; subst e29; (try dsimp only); (try k_lt l1); (try k_fold))))
structure ReadOk (oddF : Nat → Int) (digF : Nat → List Int) (x : Str) (turn : Int) : Prop where
  fit : ∀ k, Fits x (Int.fmod k 12)
  o0 : oddF 0 = 0
  d0 : digF 0 = []
  os : ∀ n : Nat, oddF (n + 1) = (oddF n + findF x ((11 - (n : Int) - turn).fmod 12)).fmod 2
  ds : ∀ n, digF (n + 1) = oddF (n + 1) :: digF n
  len : ∀ n, (digF n).length = n
theorem ReadOk.start {oddF : Nat → Int} {digF : Nat → List Int} {x : Str} {turn : Int} (H : ReadOk oddF digF x turn) : 0 = oddF ([] : List Int).length ∧ [] = digF ([] : List Int).length := ⟨H.o0.symm, H.d0.symm⟩
theorem read_end {h₀ h' : Heap} {L d D l : Addr} {m' m₀ : Str → Option Value} {od oD : Obj} {o : Int} {t1 t2 : Tok} {vs : List Value} {ns : List Int} {c : Nat} {news own : List (Addr × Obj)} {nm x : Str} {stored : List Str} {c0 : Nat} {s₁ : Shared} {tk : Nat} {o0 : Array Value}
    {P : List Int → Int × Nat × List Value × List Int × Nat → Prop} {pre : List Int}
    (F : Fr h₀ L h' m') (N : News h₀ L h' ((d, od) :: (D, oD) :: (l, listOf (Value.int o t2 :: vs).toArray c) :: (news ++ own))) (hodd : m' nm = some (.int o t1)) (hi : IntsAre vs ns) (hp : P pre (o, t1, .int o t2 :: vs, o :: ns, c))
    (hr : ∀ z, z ≠ x → (∀ p ∈ [(nm, Value.int o t1)], z ≠ p.1) → stored.contains z = false → m' z = m₀ z) :
    InvEndN h₀ L (KstS (fun c : Int × Nat × List Value × List Int × Nat => (D, oD) :: (l, listOf c.2.2.1.toArray c.2.2.2.2) :: news) (fun c => [(nm, Value.int c.1 c.2.1)]) (fun c => IntsAre c.2.2.1 c.2.2.2.1) x stored m₀ P pre) own
      (((D, oD) :: (l, listOf o0 c0) :: news).map (·.1)) s₁ { s₁ with heap := h', toks := tk } := by
  refine kst_end (o, t1, .int o t2 :: vs, o :: ns, c) F N ?_ ?_ rfl (IntsAre.cons _ _ hi) (List.forall_mem_cons.mpr ⟨hodd, List.forall_mem_nil _⟩) hr hp
  · intro q hq
    rcases List.mem_cons.mp hq with e | hq
    · rw [e]; exact .tail _ (.head _)
    rcases List.mem_cons.mp hq with e | hq
    · rw [e]; exact .tail _ (.tail _ (.head _))
    · exact .tail _ (.tail _ (.tail _ (List.mem_append.mpr (.inl hq))))
  · exact fun q hq => .tail _ (.tail _ (.tail _ (List.mem_append.mpr (.inr hq))))
set_option maxRecDepth 100000 in
set_option maxHeartbeats 1000000 in
theorem read_gen {w loose mean mg mb} (oddF : Nat → Int) (digF : Nat → List Int) (x : Str) (turn : Int) (t t' : Tok) (news : List (Addr × Obj)) (H : ReadOk oddF digF x turn) :
    Does w loose mean mg mb 110 [.str x t, .int turn t'] news 2 16 (RetList news (digF 12)) := by
  k_with_none
  w_top off
  refine filled _ ?_
  k_fill
  intro hfill; clear hfill
  intro dp un gd cn cs a ccd cl outer A₀ base h₀ L m s Q E hB hF hX hN hT hk hd hu hret
  refine wpAny_call ?_
  k_dflt cell_enter
  (k_with "pyIter ref" => k_state (fun pre odd digits => odd = oddF pre.length ∧ digits = digF pre.length) "odd" "digits")
  (k_with "state" => first | exact H.start | trace_state)
  k_steps
  refine Stop.mk ?_
  (rename Fr _ _ _ _ => lF'); (rename News _ _ _ _ => lN'); (rename IsRange _ _ _ _ _ _ _ _ => rgX)
  rename_i tkD l' h5 l1a D' h4 l1b h3 h2 h1 F1 N1 tk9 hh0 tkx t1 u1 v1 ha
  with_unfolding_all refine' kst_rangeD (σ := Int × Nat × List Value × List Int × Nat) (fun c => (D', { cls := Value.type "tuple", data := Data.seq #[Value.ref l', Value.int 0 tkD] }) :: (l', listOf c.2.2.1.toArray c.2.2.2.2) :: news) (fun c => [(Str.ofString "odd", Value.int c.1 c.2.1)]) (fun c => IntsAre c.2.2.1 c.2.2.2.1) [Str.ofString "spot", Str.ofString "signs"] (fun pre c => c.1 = oddF pre.length ∧ c.2.2.2.1 = digF pre.length) (0, tkD, [], [], 0) (by rfl) rgX (by decide) (n := 12) (by rfl) lF' ?kn ?kf ?kk ?kp ?_ ?_
  case kn => exact lN'
  case kf => exact IntsAre.nil
  case kk => exact List.forall_mem_cons.mpr ⟨rfl, List.forall_mem_nil _⟩
  case kp => exact H.start
  · rintro ⟨odd, tod, vs, ns, n⟩ kPre kN kT kU kH kTk kOwn kEq kLt kOff kFacts ⟨kI1, kI2⟩ kFr kNews
    dsimp only at kFacts kI1 kI2 kFr kNews
    subst kI1 kI2
    have kM := kstMark
    have hxl := (H.fit 0).len
    have hg0 := spot_lo (Int.fmod_nonneg_of_pos (kN - turn) (show (0:Int) < 12 by decide)) (Int.fmod_lt_of_pos (kN - turn) (by decide))
    have hg1 := spot_hi (Int.fmod_nonneg_of_pos (kN - turn) (show (0:Int) < 12 by decide)) (Int.fmod_lt_of_pos (kN - turn) (by decide))
    have hlo := (H.fit (kN - turn)).lo
    unfold findF at hlo
    clear lF' lN' F1 N1
    k_steps
    · exfalso; omega
    refine Stop.mk ?_
    rename ∀ p ∈ (_ :: _ :: _ ++ _), Prod.fst p < _ => l1c
    refine kl_insert (its := vs.toArray) (n := n) (by assumption) (by assumption) rfl (kl_ins0 _ _) (Upd.tail (Nat.ne_of_gt (l1c _ (.tail _ (.head _)))) (Upd.tail (Nat.ne_of_gt l1b.1) (Upd.head ?_))) ?_ ?_
    · intro q hq
      rcases List.mem_append.mp hq with hq | hq
      · exact Nat.ne_of_lt (l1a q hq)
      · exact kOff q hq _ (.tail _ (.head _))
    · have := IntsAre.length kFacts
      simp only [PySem.sizeLine_eq]
      rw [H.len] at this
      omega
    intro h8 F8 N8
    k_steps
    refine Stop.mk ?_
    have hN1 : oddF (kPre.length + 1) = (oddF kPre.length + Txt.find (signsF ((kN - turn).fmod 12)) (Txt.item x (spotF ((kN - turn).fmod 12)))).fmod 2 := by
      rw [H.os, ← kEq]; rfl
    rw [← hN1] at F8 N8
    refine read_end F8 N8 rfl kFacts ⟨by rw [List.length_append]; rfl, by rw [List.length_append]; exact (H.ds _).symm⟩ ?_
    intro z h1 h2 h3
    have h2' := h2 _ (.head _)
    simp only [List.contains_cons, List.contains_nil, Bool.or_false, Bool.or_eq_false_iff, beq_eq_false_iff_ne, ne_eq] at h3
    simp only [ne_eq] at h1 h2'
    simp [h1, h2', h3, kstB]
  · rintro ⟨odd, tod, vs, ns, n⟩ kU kH kTk kFacts ⟨kI1, kI2⟩ kFr kNews
    dsimp only at kFacts kI1 kI2 kFr kNews
    subst kI1 kI2
    clear lF' lN' F1 N1
    try k_fold
    k_steps

    exact RetList.fin hret (by assumption) (by assumption) (by k_mem) (by intro q hq; repeat' (first | exact hq | refine List.Mem.tail _ ?_)) l1a kFacts
noncomputable def oddR (x : Str) (turn : Int) : Nat → Int
  | 0 => 0
  | n + 1 => (oddR x turn n + findF x ((11 - (n : Int) - turn).fmod 12)).fmod 2
noncomputable def digR (x : Str) (turn : Int) : Nat → List Int
  | 0 => []
  | n + 1 => oddR x turn (n + 1) :: digR x turn n
theorem digR_len (x : Str) (turn : Int) : ∀ n, (digR x turn n).length = n
  | 0 => rfl
  | n + 1 => by rw [digR, List.length_cons, digR_len]
theorem read {w loose mean mg mb} (x : Str) (turn : Int) (t t' : Tok) (news : List (Addr × Obj)) (h : ∀ k, Fits x (Int.fmod k 12)) :
    Does w loose mean mg mb 110 [.str x t, .int turn t'] news 2 16 (RetList news (digR x turn 12)) :=
  read_gen (oddR x turn) (digR x turn) x turn t t' news ⟨h, rfl, rfl, fun _ => rfl, fun _ => rfl, digR_len x turn⟩
end Mine
end -- W4

section -- En
open PySem PySem.W PyProof.Rows PySem.Calls
set_option maxRecDepth 100000
namespace Mine
open AutoSeq1 (wpAny_loadPart')
section
variable {prog : Program} {w : World} {A : Around} {E : Value → Shared → Prop} {s : Shared}
theorem meets_enum_tup (l : Addr) (items : Array Value) (n : Nat) (dct : Option Addr) (sl : Array (Option Value)) :
    Meets (Builtin.«enumerate.__new__» ⟨[.type "enumerate", .ref l], []⟩) (fun _ R s => s.heap.get? l = some { cls := .type "tuple", dict := dct, data := .seq items n, slots := sl } ∧
      R (.ok (.ret (.ref (s.heap.push { cls := .type "tuple_iterator", data := .fields #[.ref l, .int 0 0] }).objs.size)))
        { s with heap := (s.heap.push { cls := .type "tuple_iterator", data := .fields #[.ref l, .int 0 0] }).push { cls := .type "enumerate", data := .fields #[.none, .bool false, .ref s.heap.objs.size, rawInt 0, .none, .none] } }) :=
  .of_wp fun prog w A R s h => by
    obtain ⟨hp, g, d, tk, os⟩ := s; obtain ⟨hl, h⟩ := h
    have hsub := sub_enumerate
    have hL : Heap.IsTuple (Shared.heap ⟨hp, g, d, tk, os⟩) l items := ⟨_, hl, rfl, n, rfl⟩
    wp_walk using wpAny_loadPart' hl
    refine wpAny_stack_any fun st => wpAny_pure ?_
    split
    · rename_i c _ _ _ _ _
      cases (c == Value.type "enumerate")
      · wp_walk using wpAny_loadPart' hl, wpAny_pyIter_tuple hL
        exact ⟨_, rfl, h⟩
      · wp_walk using wpAny_loadPart' hl, wpAny_pyIter_tuple hL
        exact ⟨_, rfl, h⟩
    · wp_walk using wpAny_loadPart' hl, wpAny_pyIter_tuple hL
      exact ⟨_, rfl, h⟩
theorem enum_tup {l : Addr} {items : Array Value} {Q : Value → Shared → Prop} (hL : s.heap.IsTuple l items)
    (h : ∀ h', IsEnum h' (s.heap.objs.size + 1) s.heap.objs.size 0 .none → h'.IsTupleIter s.heap.objs.size l 0 → h'.objs.size = s.heap.objs.size + 2 →
      (∀ b o, s.heap.get? b = some o → h'.get? b = some o) → Q (.ref (s.heap.objs.size + 1)) { s with heap := h' }) :
    wpAny (model prog w) A (call (.type "enumerate") [.ref l]) Q E s := by
  obtain ⟨⟨c, dct, dt, sl⟩, hl, hc, n, hd⟩ := hL
  replace hc : c = .type "tuple" := hc
  replace hd : dt = .seq items n := hd
  subst hc hd
  refine callType_new F.called_enumerate (by decide) (F.typeCall_enumerate_1 _) (F.newCall_enumerate_1 _) (fun obj => F.args_object_init_2 obj _) F.entry_enumerate_new (meets_enum_tup l items n dct sl) ⟨hl, ?_⟩
  have hz : (s.heap.push { cls := .type "tuple_iterator", data := .fields #[.ref l, .int 0 0] }).objs.size = s.heap.objs.size + 1 := Heap.size_push ..
  show _ ∧ _
  rw [hz]
  have he : IsEnum ((s.heap.push { cls := .type "tuple_iterator", data := .fields #[.ref l, .int 0 0] }).push
      { cls := .type "enumerate", data := .fields #[.none, .bool false, .ref s.heap.objs.size, rawInt 0, .none, .none] }) (s.heap.objs.size + 1) s.heap.objs.size 0 .none := by
    have := Heap.get?_push_size (s.heap.push { cls := .type "tuple_iterator", data := .fields #[.ref l, .int 0 0] })
      (o := { cls := .type "enumerate", data := .fields #[.none, .bool false, .ref s.heap.objs.size, rawInt 0, .none, .none] }) rfl
    rw [hz] at this; exact this
  exact ⟨⟨_, he, rfl⟩, h _ he ⟨_, Heap.get?_push_of_some _ (Heap.get?_push_size _ rfl), rfl, rfl⟩ (by rw [Heap.size_push, hz]) fun b o x => Heap.get?_push_of_some _ (Heap.get?_push_of_some _ x)⟩
theorem nextOf_tup_item {it l : Addr} {i : Nat} {items} {x : Value} {Q : Value → Shared → Prop} (hit : s.heap.IsTupleIter it l i)
    (hl : s.heap.IsTuple l items) (hx : items[i]? = some x)
    (hQ : ∀ h', h'.IsTupleIter it l (i + 1) → Heap.SameBut it s.heap h' → Q x { s with heap := h' }) :
    wpAny (model prog w) A (Builtin.SmallTypes.nextOf (.ref it)) Q E s := by
  obtain ⟨o, ho, hc, hd⟩ := id hit
  obtain ⟨ol, hol, _, nl, hdl⟩ := hl
  unfold Builtin.SmallTypes.nextOf
  refine wpAny_bind (wpAny_callSpecial?_slot (name := Str.ofString "__next__") hit.typeIs F.slot_tuple_iterator_next
    (wpAny_call_entry F.slot_tuple_iterator_next hit.typeIs F.entry_tuple_iterator_next ?_ (F.args_tuple_iterator_next_1 _)))
  show wpAny _ _ (field (.ref it) 0 >>= _) _ _ s
  refine wpAny_bind (wpAny_field ho hd (x := .ref l) rfl ?_)
  show wpAny _ _ (if (Value.ref l == Value.none) = true then _ else _) _ _ s
  rw [if_neg (show ¬ ((Value.ref l == Value.none) = true) from Bool.false_ne_true)]
  show wpAny _ _ (field (.ref it) 1 >>= _) _ _ s
  refine wpAny_bind (wpAny_field ho hd (x := .int i 0) rfl ?_)
  show wpAny _ _ (seqItems? (.ref l) >>= _) _ _ s
  refine wpAny_bind (wpAny_seqItems hol hdl ?_)
  simp only [Int.toNat_natCast, hx]
  refine wpAny_bind (wpAny_setField ho hd (by simp) (wpAny_pure ⟨x, rfl, wpAny_pure (hQ _ ?_ (Heap.SameBut.update ..))⟩))
  exact ⟨_, Heap.get?_update_self _ ho (Obj.isFreed_of_fields (Obj.data_mapFields hd _)), (Obj.cls_mapFields ..).trans hc, by
    rw [Obj.data_mapFields hd]; simp [rawInt]⟩
theorem nextOf_tup_end {it l : Addr} {i : Nat} {items} {Q : Value → Shared → Prop} (hh : A.handled = none)
    (hit : s.heap.IsTupleIter it l i) (hl : s.heap.IsTuple l items) (hx : items[i]? = none)
    (hE : ∀ h' e, Heap.ExtBut it s.heap h' → (∃ o, h'.get? e = some o ∧ o.cls = .type "StopIteration") → E (.ref e) { s with heap := h' }) :
    wpAny (model prog w) A (Builtin.SmallTypes.nextOf (.ref it)) Q E s := by
  obtain ⟨o, ho, hc, hd⟩ := id hit
  obtain ⟨ol, hol, _, nl, hdl⟩ := hl
  unfold Builtin.SmallTypes.nextOf
  refine wpAny_bind (wpAny_callSpecial?_slot (name := Str.ofString "__next__") hit.typeIs F.slot_tuple_iterator_next
    (wpAny_call_entry F.slot_tuple_iterator_next hit.typeIs F.entry_tuple_iterator_next ?_ (F.args_tuple_iterator_next_1 _)))
  show wpAny _ _ (field (.ref it) 0 >>= _) _ _ s
  refine wpAny_bind (wpAny_field ho hd (x := .ref l) rfl ?_)
  show wpAny _ _ (if (Value.ref l == Value.none) = true then _ else _) _ _ s
  rw [if_neg (show ¬ ((Value.ref l == Value.none) = true) from Bool.false_ne_true)]
  show wpAny _ _ (field (.ref it) 1 >>= _) _ _ s
  refine wpAny_bind (wpAny_field ho hd (x := .int i 0) rfl ?_)
  show wpAny _ _ (seqItems? (.ref l) >>= _) _ _ s
  refine wpAny_bind (wpAny_seqItems hol hdl ?_)
  simp only [Int.toNat_natCast, hx]
  refine wpAny_bind (wpAny_rule (wpAny_bind (wpAny_setField ho hd (by simp) ?_)))
  show wpAny _ _ (newExc (.type "StopIteration") [] >>= _) _ _ _
  refine wpAny_bind ?_
  simp only [newExc, newTuple]
  refine wpAny_bind (wpAny_newObj_type ?_ (by size_fits))
  refine wpAny_bind (m := firstArgMember _ _) (wpAny_of_eq (a := Value.none) (by first | rfl | (simp only [firstArgMember]; rfl)) ?_)
  refine wpAny_newObj_type ?_ (by size_fits)
  simp only [raiseNew]
  refine wpAny_bind (wpAny_handled ?_)
  first | rw [show A.in1.handled = none from hh] | rw [hh]
  refine wpAny_bind (wpAny_pure (wpAny_throw ?_))
  exact hE _ _ (((Heap.SameBut.update ..).extBut.push _).push _) ⟨_, Heap.get?_push_size _ rfl, rfl⟩
theorem draws_tup (hh : A.handled = none) (it l : Addr) (hne : l ≠ it) (items : Array Value) :
    Draws prog w A it [it, l] items.size (fun i v => items[i]? = some v) (fun i h => h.IsTupleIter it l i ∧ h.IsTuple l items) where
  live := fun _ _ st => let ⟨o, ho, _⟩ := st.1; ⟨o, ho⟩
  frame := fun _ _ _ st hk => ⟨st.1.at fun o e => hk it (by simp) o e, st.2.at fun o e => hk l (by simp) o e⟩
  item := fun i s Q E hi st hQ => by
    refine nextOf_tup_item st.1 st.2 (x := items[i]) (by simp [hi]) fun h' hit' hs' => ?_
    exact hQ _ h' s.toks (by simp [hi]) ⟨hit', st.2.extBut hs'.extBut hne⟩ hs'
  done := fun s Q E st hE => nextOf_tup_end hh st.1 st.2 (by simp) hE
end
end Mine
end -- En

section -- Lp
open PySem PySem.W PyProof.Rows PySem.Calls
set_option maxRecDepth 100000
namespace Mine
section
variable {prog : Program} {w : World} {A : Around} {E : Value → Shared → Prop} {s : Shared} {env : Env} {h₀ : Heap}
/-- a for over a tuple of pairs, with an else -/
theorem tup_for {m₀ : Str → Option Value} {news : List (Addr × Obj)} {tb : Addr} {us : List (Addr × Value × Value)} {x1 x2 : Str} {p1 p2 pt pos : Pos} {k : Nat} {iter : Expr} {body orelse : List Stmt} {Q : Flow → Shared → Prop}
    (hh : A.handled = none) (hx1 : env.kindOf x1 = some .local) (hx2 : env.kindOf x2 = some .local)
    (hp : (env.scope.kind == .class || (env.scope.kind == .module && env.locals != env.globals)) = false)
    (hs : ∀ x, foldedSetIterable iter env x = pure x)
    (hit : ∀ Q' : Value → Shared → Prop, Q' (.ref tb) s → wpAny (model prog w) A (eval iter env) Q' (fun _ _ => False) s)
    (ht : h₀.IsTuple tb (us.map fun u => Value.ref u.1).toArray) (hu : ∀ u ∈ us, h₀.IsTuple u.1 #[u.2.1, u.2.2])
    (F : Fr h₀ env.locals s.heap m₀) (N : News h₀ env.locals s.heap news)
    (G : List (Addr × Value × Value) → Prop) (S : (Str → Option Value) → Prop) (hS : S m₀) (hG : G [])
    (turn : ∀ pre u post m h tk I o, us = pre ++ u :: post → G pre → S m → (∀ p ∈ news, p.1 < I) →
      Fr h₀ env.locals h (fun y => if y = x2 then some u.2.2 else if y = x1 then some u.2.1 else m y) → News h₀ env.locals h ((I, o) :: news) →
      wpAny (model prog w) A (execs body env) (fun f s₃ => match f with
        | .next | .cont => ∃ h' tk' m', s₃ = { s with heap := h', toks := tk' } ∧ Fr h₀ env.locals h' m' ∧ News h₀ env.locals h' ((I, o) :: news) ∧ S m' ∧ G (pre ++ [u])
        | .brk => Q .next s₃
        | .ret v => Q (.ret v) s₃) (fun _ _ => False) { s with heap := h, toks := tk })
    (done : ∀ m h tk, G us → S m → Fr h₀ env.locals h m → News h₀ env.locals h news → wpAny (model prog w) A (execs orelse env) Q (fun _ _ => False) { s with heap := h, toks := tk }) :
    wpAny (model prog w) A (exec (.For (.Tuple [.Name x1 p1, .Name x2 p2] k pt) iter body orelse pos) env) Q E s := by
  refine wpAny_mono (E := fun _ _ => False) ?_ (fun _ _ h => h) (fun _ _ h => h.elim)
  refine wpAny_For (hit _ ?_) hs
  have htS : s.heap.IsTuple tb (us.map fun u => Value.ref u.1).toArray := ht.at fun o e => F.keep tb o e
  refine wpAny_pyIter_tuple htS ?_
  have hLI : env.locals ≠ s.heap.objs.size := Nat.ne_of_lt F.ns.lt
  have hNI : ∀ p ∈ news, p.1 < s.heap.objs.size := fun p hp => Heap.lt_size (N p hp).1
  have hIn : h₀.get? s.heap.objs.size = none := next_is_new F
  have htI : tb ≠ s.heap.objs.size := by obtain ⟨o, e, _⟩ := htS; exact Nat.ne_of_lt (Heap.lt_size e)
  have grow : ∀ (H H' : Heap) (m : Str → Option Value), Heap.ExtBut s.heap.objs.size H H' → Fr h₀ env.locals H m → News h₀ env.locals H news → Fr h₀ env.locals H' m ∧ News h₀ env.locals H' news := fun H H' m hx F' N' =>
    ⟨⟨F'.ns.at' fun o e => hx _ o hLI e, fun b o e => hx b o (fun q => by rw [q, hIn] at e; cases e) (F'.keep b o e), F'.above⟩, fun p hp => ⟨hx _ _ (Nat.ne_of_lt (hNI p hp)) (N' p hp).1, (N' p hp).2⟩⟩
  refine codeAny_forLoop_any (fun n s' => ∃ h tk m i, s' = { s with heap := h, toks := tk } ∧ i ≤ us.length ∧ n = us.length + 1 - i ∧ h.IsTupleIter s.heap.objs.size tb i ∧ Fr h₀ env.locals h m ∧ News h₀ env.locals h news ∧ S m ∧ G (us.take i)) ?_ (us.length + 1)
    ⟨_, s.toks, m₀, 0, rfl, Nat.zero_le _, rfl, ⟨_, Heap.get?_push_size _ rfl, rfl, rfl⟩, F.push _, N.pushKeep _, hS, by simpa using hG⟩
  rintro n s' ⟨h, tk, m, i, rfl, hi, rfl, hti, F', N', hS', hG'⟩
  have htb : h.IsTuple tb (us.map fun u => Value.ref u.1).toArray := ht.at fun o e => F'.keep tb o e
  by_cases hlt : i < us.length
  · obtain ⟨u, hu'⟩ : ∃ u, us[i]? = some u := ⟨us[i], List.getElem?_eq_getElem hlt⟩
    refine wpAny_pyNext_tuple_item hti htb (x := .ref u.1) (by simp [hu']) fun h₁ hti₁ hs₁ => ?_
    obtain ⟨F₁, N₁⟩ := grow h h₁ m hs₁.extBut F' N'
    refine letGo_tupleiter hti₁ ?_
    have hum : h₁.IsTuple u.1 #[u.2.1, u.2.2] := (hu u (List.mem_of_getElem? hu')).at fun o e => F₁.keep _ o e
    refine wpAny_assign_Tuple hh hum rfl rfl fun h₃ hx₃ => ?_
    replace hx₃ : Heap.ExtBut h₁.objs.size h₁ h₃ := hx₃
    have up₃ : ∀ b o, h₁.get? b = some o → h₃.get? b = some o := fun b o x => hx₃ b o (Nat.ne_of_lt (Heap.lt_size x)) x
    have F₃ : Fr h₀ env.locals h₃ m := ⟨F₁.ns.keeps up₃, fun b o e => up₃ b o (F₁.keep b o e), F₁.above⟩
    obtain ⟨oI, hoI, hcI, hdI⟩ := hti₁
    have N₃ : News h₀ env.locals h₃ ((s.heap.objs.size, oI) :: news) := fun p hp => by
      rcases List.mem_cons.mp hp with rfl | hp
      · exact ⟨up₃ _ _ hoI, Ne.symm hLI, hIn⟩
      · exact ⟨up₃ _ _ (N₁ p hp).1, (N₁ p hp).2⟩
    show wpAny _ A (do holding [u.2.2] (assign (.Name x1 p1) env u.2.1); do holding [] (assign (.Name x2 p2) env u.2.2); pure ()) _ _ _
    refine wpAny_bind (wpAny_holding (wpAny_assign_Name (wpAny_storeName_local hx1 F₃.ns (fun h₄ hn₄ hs₄ => ?_) hp)))
    replace hs₄ : Heap.SameBut env.locals h₃ h₄ := hs₄
    have F₄ := F₃.set hn₄ hs₄
    refine wpAny_bind (wpAny_holding (wpAny_assign_Name (wpAny_storeName_local hx2 F₄.ns (fun h₅ hn₅ hs₅ => wpAny_pure ?_) hp)))
    replace hs₅ : Heap.SameBut env.locals h₄ h₅ := hs₅
    have F₅ := F₄.set hn₅ hs₅
    have N₅ := (N₃.set hs₄).set hs₅
    have hsp : us = us.take i ++ u :: us.drop (i + 1) := by
      have := List.take_append_drop (i + 1) us
      rw [List.take_add_one, hu', Option.toList_some, List.append_assoc] at this
      exact this.symm
    refine wpAny_mono (turn (us.take i) u (us.drop (i + 1)) m h₅ _ s.heap.objs.size oI hsp hG' hS' hNI F₅ N₅) (fun f s₃ hf => ?_) fun _ _ q => q.elim
    have nx : (∃ h' tk' m', s₃ = { s with heap := h', toks := tk' } ∧ Fr h₀ env.locals h' m' ∧ News h₀ env.locals h' ((s.heap.objs.size, oI) :: news) ∧ S m' ∧ G (us.take i ++ [u])) →
        ∃ n', n' < us.length + 1 - i ∧ ∃ h tk m i, s₃ = { s with heap := h, toks := tk } ∧ i ≤ us.length ∧ n' = us.length + 1 - i ∧ h.IsTupleIter s.heap.objs.size tb i ∧ Fr h₀ env.locals h m ∧ News h₀ env.locals h news ∧ S m ∧ G (us.take i) := by
      rintro ⟨h', tk', m', rfl, F6, N6, S6, G6⟩
      refine ⟨us.length + 1 - (i + 1), by omega, h', tk', m', i + 1, rfl, hlt, rfl, ⟨oI, (N6 _ (.head _)).1, hcI, hdI⟩, F6, fun p hp => N6 p (.tail _ hp), S6, ?_⟩
      rw [List.take_add_one, hu']
      exact G6
    cases f with
    | next => exact nx hf
    | cont => exact nx hf
    | brk => exact hf
    | ret v => exact hf
  · have hi' : i = us.length := by omega
    subst hi'
    refine wpAny_pyNext_tuple_end hh hti htb (by simp) fun h₁ hx₁ => ?_
    obtain ⟨F₁, N₁⟩ := grow h h₁ m hx₁ F' N'
    rw [List.take_length] at hG'
    exact wpAny_mono (done m h₁ tk hG' hS' F₁ N₁) (fun _ _ q => q) fun _ _ q => q.elim
theorem eqN {a b : Nat} (h : a = b) : a = b := h
theorem leN {a b : Nat} (h : a ≤ b) : a ≤ b := h
/-- enumerate over a tuple of the top -/
theorem enum_for {m₀ : Str → Option Value} {news : List (Addr × Obj)} {tb : Addr} {items : Array Value} {xi xc : Str} {body : List Stmt} {Q : Flow → Shared → Prop}
    (hh : A.handled = none) (ht : h₀.IsTuple tb items) (F : Fr h₀ env.locals s.heap m₀) (N : News h₀ env.locals s.heap news)
    (J : Nat → (Str → Option Value) → List (Addr × Obj) → Prop) (hJ : J 0 m₀ news)
    (turn : ∀ i v t m₁ news₁ h tk own, items[i]? = some v → J i m₁ news₁ → news₁.map (·.1) = news.map (·.1) → OwnOff own (news.map (·.1)) →
      Fr h₀ env.locals h (fun y => if y = xc then some v else if y = xi then some (.int i t) else m₁ y) → News h₀ env.locals h (own ++ news₁) →
      wpAny (model prog w) A (execs body env) (LoopStep3 h₀ env.locals own news₁ (J (i + 1)) { s with heap := h, toks := tk } (fun v s' => Q (.ret v) s') fun s' => Q .next s') E { s with heap := h, toks := tk })
    (done : ∀ m₁ news₁ h tk, J items.size m₁ news₁ → Fr h₀ env.locals h m₁ → News h₀ env.locals h news₁ → Q .next { s with heap := h, toks := tk }) :
    wpAny (model prog w) A (call (.type "enumerate") [.ref tb]) (fun xv s₁ => wpAny (model prog w) A (pyIter xv) (fun it s₂ => PairAt3 prog w A h₀ env xi xc body Q E it s₂) E s₁) E s := by
  have htS : s.heap.IsTuple tb items := ht.at fun o e => F.keep tb o e
  obtain ⟨ot, hot, _⟩ := id ht
  have htl := ltN (Heap.lt_size hot)
  have hLs := ltN F.ns.lt
  have hab := leN F.above
  refine enum_tup htS fun h' he hit hsz hk => ?_
  have F' : Fr h₀ env.locals h' m₀ := ⟨F.ns.keeps hk, fun b o e => hk b o (F.keep b o e), F.above⟩
  have N' : News h₀ env.locals h' news := fun p hp => ⟨hk _ _ (N p hp).1, (N p hp).2⟩
  have nl := fun q hq => ltN (Heap.lt_size (N q hq).1)
  have nt : ∀ q ∈ news, q.1 ≠ tb := fun q hq e => by
    have := (N q hq).2.2
    rw [e, hot] at this; cases this
  refine wpAny_pyIter_enum he ?_
  refine ⟨s.heap.objs.size + 1, [s.heap.objs.size + 1, s.heap.objs.size, tb], [s.heap.objs.size + 1, s.heap.objs.size], items.size, _, _, _, fun i v0 v1 => ∃ t, v0 = .int i t ∧ items[i]? = some v1, m₀, news, J, rfl,
    WalksT.enumerateD (draws_tup (A := A.in1) hh s.heap.objs.size tb (neN (by omega)) items) (s.heap.objs.size + 1) (neN (by omega)) ?_ (by simp), ?_, ?_, ?_, ?_, ⟨⟨_, he⟩, hit, htS.at fun o e => hk tb o e⟩, F', N', hJ, ?_, ?_⟩
  · intro hm
    rcases List.mem_cons.mp hm with e | hm
    · have := eqN e; omega
    · have := eqN (List.mem_singleton.mp hm); omega
  · rintro i vals ⟨t, x, hx, rfl⟩
    exact ⟨_, _, rfl, t, rfl, hx⟩
  · intro hm
    rcases List.mem_cons.mp hm with e | hm
    · have := eqN e; omega
    rcases List.mem_cons.mp hm with e | hm
    · have := eqN e; omega
    · have := eqN (List.mem_singleton.mp hm); omega
  · intro b hb
    rcases List.mem_cons.mp hb with e | hb
    · rw [e]; exact Heap.get?_none_of_le (leN (by omega))
    · rw [List.mem_singleton.mp hb]; exact Heap.get?_none_of_le (leN (by omega))
  · intro p hp hm
    have := nl p hp
    rcases List.mem_cons.mp hm with e | hm
    · have := eqN e; omega
    · have := eqN (List.mem_singleton.mp hm); omega
  · rintro i v0 v1 m₁ news₁ s₁ own ⟨h1, tk1, rfl⟩ hin ⟨t, rfl, hx⟩ hJ1 ha hown F1 N1
    refine turn i v1 t m₁ news₁ h1 tk1 own hx hJ1 ha ?_ F1 N1
    intro p hp b hb e
    obtain ⟨q, hq, rfl⟩ := List.mem_map.mp hb
    have h2 := nl q hq
    rcases List.mem_cons.mp (hown p hp) with e2 | hm
    · have := eqN e; have := eqN e2; omega
    rcases List.mem_cons.mp hm with e2 | hm
    · have := eqN e; have := eqN e2; omega
    · exact nt q hq (e ▸ List.mem_singleton.mp hm)
  · intro h2 tk m' news' F2 N2 _ hJ2
    exact done m' news' h2 tk hJ2 F2 N2
end
end Mine
end -- Lp

section -- W5
open PySem PySem.W PyProof.Rows PySem.Calls
namespace Mine
local macro_rules | `(tactic| walk_at "none such") => `(tactic| fail)
local macro_rules | `(tactic| walk_at "execs cons") => `(tactic| (k_here; (refine gen_toks (fun tk9 => ?_)); (with_reducible refine wpAny_execs_cons ?_); (try dsimp only)))
local macro_rules | `(tactic| walk_at "execs nil") => `(tactic| (k_here; (refine gen_toks (fun tk9 => ?_)); refine wpAny_execs_nil ?_))
set_option maxRecDepth 100000 in
set_option maxHeartbeats 1000000 in
theorem ifmt {w loose mean mg mb} (mode : Int) (t : Tok) (news : List (Addr × Obj)) :
    Does w loose mean mg mb 28 [.int mode t] news 1 8 (RetInt news (Builtin.bitAnd mode 61440)) := by
  k_with_none
  w_top off
  refine filled _ ?_
  k_fill
  intro hfill; clear hfill
  intro dp un gd cn cs a ccd cl outer A₀ base h₀ L m s Q E hB hF hX hN hT hk hd hu hret
  refine wpAny_call ?_
  k_dflt cell_enter
  k_steps
  exact RetInt.fin hret (by assumption) (by assumption) (fun _ h => h) rfl
set_option maxRecDepth 100000 in
set_option maxHeartbeats 1000000 in
theorem imode {w loose mean mg mb} (mode : Int) (t : Tok) (news : List (Addr × Obj)) :
    Does w loose mean mg mb 21 [.int mode t] news 1 8 (RetInt news (Builtin.bitAnd mode 4095)) := by
  k_with_none
  w_top off
  refine filled _ ?_
  k_fill
  intro hfill; clear hfill
  intro dp un gd cn cs a ccd cl outer A₀ base h₀ L m s Q E hB hF hX hN hT hk hd hu hret
  refine wpAny_call ?_
  k_dflt cell_enter
  k_steps
  exact RetInt.fin hret (by assumption) (by assumption) (fun _ h => h) rfl
abbrev Pr := Addr × Int × Tok × Str × Tok
def vOf (u : Pr) : Addr × Value × Value := (u.1, .int u.2.1 u.2.2.1, .str u.2.2.2.1 u.2.2.2.2)
def tabs : List (Addr × List Pr) := [
  (36, [(29, 40960, 213, "l", 241), (30, 49152, 215, "s", 242), (31, 32768, 209, "-", 243), (32, 24576, 207, "b", 244), (33, 16384, 203, "d", 245), (34, 8192, 205, "c", 246), (35, 4096, 211, "p", 247)]),
  (38, [(37, 256, 223, "r", 248)]), (40, [(39, 128, 225, "w", 249)]), (44, [(41, 2112, 250, "s", 251), (42, 2048, 217, "S", 252), (43, 64, 227, "x", 253)]),
  (46, [(45, 32, 229, "r", 254)]), (48, [(47, 16, 231, "w", 255)]), (52, [(49, 1032, 256, "s", 257), (50, 1024, 219, "S", 258), (51, 8, 233, "x", 259)]),
  (54, [(53, 4, 235, "r", 260)]), (56, [(55, 2, 237, "w", 261)]), (60, [(57, 513, 262, "t", 263), (58, 512, 221, "T", 264), (59, 1, 239, "x", 265)])]
def tupObj (vs : List Value) : Obj := { cls := .type "tuple", data := .seq vs.toArray }
set_option maxRecDepth 100000 in
theorem tab61 {h : Heap} {P : Params} (X : (hd.heap_39 P).In h) : h.IsTuple 61 (tabs.map fun p => Value.ref p.1).toArray :=
  ⟨tupObj (tabs.map fun p => Value.ref p.1), X _ _ (by kernel_rfl), rfl, 0, rfl⟩
set_option maxRecDepth 100000 in
theorem tabsK (P : Params) : (tabs.all fun p => decide (((hd.heap_39 P).lookup p.1).map (fun o => (o.cls, match o.data with | .seq its _ => its.toList | _ => [])) = some (.type "tuple", p.2.map fun u => Value.ref u.1)) && p.2.all fun u => decide (((hd.heap_39 P).lookup u.1).map (fun o => (o.cls, match o.data with | .seq its _ => its.toList | _ => [])) = some (.type "tuple", [(vOf u).2.1, (vOf u).2.2]))) = true := by
  kernel_rfl
theorem isTup_of {h : Heap} {P : Params} {a : Addr} {vs : List Value} (X : (hd.heap_39 P).In h) (e : ((hd.heap_39 P).lookup a).map (fun o => (o.cls, match o.data with | .seq its _ => its.toList | _ => [])) = some (.type "tuple", vs)) (hne : vs ≠ []) : h.IsTuple a vs.toArray := by
  cases q : (hd.heap_39 P).lookup a with
  | none => rw [q] at e; cases e
  | some o =>
    rw [q] at e
    obtain ⟨e1, e2⟩ := Prod.mk.inj (Option.some.inj e)
    refine ⟨o, X _ _ q, e1, ?_⟩
    cases hd : o.data with
    | seq its n => rw [hd] at e2; exact ⟨n, by rw [← e2]⟩
    | _ => rw [hd] at e2; exact absurd e2.symm hne
end Mine
end -- W5

section -- W6
open PySem PySem.W PyProof.Rows PySem.Calls
namespace Mine
def testF (mode : Int) (i : Nat) (b : Int) : Bool := if i = 0 then Builtin.bitAnd mode 61440 == b else Builtin.bitAnd mode b == b
def testV (mode : Int) (i : Nat) : Value → Bool
  | .int b _ => testF mode i b
  | _ => false
def cellF (mode : Int) (i : Nat) (tab : List Pr) : Str := match tab.find? (fun u => testF mode i u.2.1) with
  | some u => u.2.2.2.1
  | none => if i = 0 then "?" else "-"
def cells (mode : Int) : List Str := tabs.zipIdx.map fun p => cellF mode p.2 p.1.2
theorem fr_with {h₀ h : Heap} {L : Addr} {m : Str → Option Value} {c b : Str} {vc vb : Option Value} (ps : List (Str × Value)) (hp : ∀ p ∈ ps, m p.1 = some p.2) (F : Fr h₀ L h (fun y => if y = c then vc else if y = b then vb else m y)) :
    Fr h₀ L h (fun y => if y = c then vc else if y = b then vb else kstB m ps y) := by
  have : kstB m ps = m := funext fun z => kstB_eq hp (fun _ => rfl)
  rw [this]; exact F
local macro_rules | `(tactic| walk_at "execs cons") => `(tactic| (k_here; (refine gen_toks (fun tk9 => ?_)); (with_reducible refine wpAny_execs_cons ?_); (try dsimp only)))
local macro_rules | `(tactic| walk_at "execs nil") => `(tactic| (k_here; (refine gen_toks (fun tk9 => ?_)); refine wpAny_execs_nil ?_))
local macro_rules | `(tactic| walk_at "ite") => `(tactic| refine Stop.out ?_)
local macro_rules | `(tactic| walk_at "Exists") => `(tactic| refine Stop.out ?_)
local macro_rules | `(tactic| walk_at "LoopStep3") => `(tactic| refine Stop.out ?_)
local macro_rules | `(tactic| walk_at "call builtin:list.append") => `(tactic| refine Stop.out ?_)
local macro_rules | `(tactic| walk_at "call type:enumerate") => `(tactic| refine Stop.out ?_)
local macro_rules | `(tactic| walk_at "call ref") => `(tactic| refine Stop.out ?_)
local macro_rules | `(tactic| walk_at "call builtin:str.join") => `(tactic| refine Stop.out ?_)
local macro_rules | `(tactic| walk_at "call ref") => `(tactic| (k_here; (with_reducible show wpAny _ _ (call (Value.ref 28) _) _ _ _); k_dflt (refine' Does.use (ifmt _ _ _) ?k1 ?k2 ?k3 ?k4 ?k5 ?kK ?kd ?ku ?_; (case k1 => k_asm); (case k2 => k_asm); (case k3 => k_asm); (case k4 => k_asm); (case k5 => k_asm); (case kK => first | exact rfl | assumption); (case kd => first | assumption | ((try dsimp only [Around.deeper]); omega)); (case ku => ((try dsimp only [Around.deeper]); omega)); intro v9 n9 h9 tk9 ho9 F9 N9; obtain ⟨t19, e19, e29⟩ := ho9; subst e19; subst e29; (try dsimp only); (try k_fold))))
def JF (mode : Int) (t : Tok) (l : Addr) (news : List (Addr × Obj)) (i : Nat) (m : Str → Option Value) (n1 : List (Addr × Obj)) : Prop :=
  m "mode" = some (.int mode t) ∧ m "perm" = some (.ref l) ∧ ∃ vs c, n1 = (l, listOf vs.toArray c) :: news ∧ StrsAre vs ((cells mode).take i)
theorem eqZ_of {i : Nat} (h : ((i : Int) == 0) = true) : i = 0 := by have := eq_of_beq h; omega
theorem neZ_of {i : Nat} (h : ¬ ((i : Int) == 0) = true) : ¬ i = 0 := fun e => h (by rw [e]; rfl)
theorem vOf_inj {u v : Pr} (h : vOf u = vOf v) : u = v := by
  obtain ⟨a, b, c, d, e⟩ := u
  obtain ⟨a', b', c', d', e'⟩ := v
  simp [vOf] at h
  simp [h]
theorem cell_hit {mode : Int} {i : Nat} {tab : List Pr} {u : Pr} {pre post : List (Addr × Value × Value)} (hus : tab.map vOf = pre ++ vOf u :: post) (hG : (pre.all fun u => !testV mode i u.2.1) = true) (ht : testF mode i u.2.1 = true) : cellF mode i tab = u.2.2.2.1 := by
  obtain ⟨p0, r0, rfl, rfl, h2⟩ := List.map_eq_append_iff.mp hus
  obtain ⟨u1, p1, rfl, h3, rfl⟩ := List.map_eq_cons_iff.mp h2
  cases vOf_inj h3
  have hn : p0.find? (fun u => testF mode i u.2.1) = none := by
    rw [List.find?_eq_none]
    intro x hx
    have := List.all_eq_true.mp hG (vOf x) (List.mem_map.mpr ⟨x, hx, rfl⟩)
    simpa [testV, vOf] using this
  unfold cellF
  rw [List.find?_append, hn, Option.none_or, List.find?_cons_of_pos (p := fun u : Pr => testF mode i u.2.1) ht]
theorem cell_none {mode : Int} {i : Nat} {tab : List Pr} (hG : ((tab.map vOf).all fun u => !testV mode i u.2.1) = true) : cellF mode i tab = if i = 0 then (Str.ofString "?") else (Str.ofString "-") := by
  have hn : tab.find? (fun u => testF mode i u.2.1) = none := by
    rw [List.find?_eq_none]
    intro x hx
    have := List.all_eq_true.mp hG (vOf x) (List.mem_map.mpr ⟨x, hx, rfl⟩)
    simpa [testV, vOf] using this
  unfold cellF
  rw [hn]
theorem cells_next {mode : Int} {i : Nat} {q : Addr × List Pr} (hq : tabs[i]? = some q) : (cells mode).take (i + 1) = (cells mode).take i ++ [cellF mode i q.2] := by
  rw [List.take_add_one]
  congr 1
  unfold cells
  rw [List.getElem?_map, List.getElem?_zipIdx, hq]
  simp
theorem tabs_one : ∀ q ∈ tabs, ∀ u ∈ q.2, u.2.2.2.1.length = 1 := by decide +kernel
theorem cell_len {mode : Int} {i : Nat} {q : Addr × List Pr} (hq : q ∈ tabs) : (cellF mode i q.2).length = 1 := by
  unfold cellF
  split
  · rename_i u hu; exact tabs_one q hq u (List.mem_of_find?_eq_some hu)
  · split <;> decide +kernel
theorem sum_ones : ∀ l : List Str, (∀ x ∈ l, x.length = 1) → (l.map (·.length)).sum = l.length
  | [], _ => rfl
  | x :: r, h => by rw [List.map_cons, List.sum_cons, h x (.head _), sum_ones r fun y hy => h y (.tail _ hy), List.length_cons]; omega
theorem cells_len (mode : Int) : ((cells mode).map (·.length)).sum + (cells mode).length ≤ 1048576 := by
  rw [sum_ones]
  · simp [cells, tabs]
  · intro x hx
    obtain ⟨p, hp, rfl⟩ := List.mem_map.mp hx
    exact cell_len (List.fst_mem_of_mem_zipIdx hp)
theorem fm_brk {h₀ h' : Heap} {L l I : Addr} {m' : Str → Option Value} {mode : Int} {t : Tok} {i c : Nat} {q : Addr × List Pr} {vs : List Value} {own news : List (Addr × Obj)} {x : Str} {tx : Tok} {o : Obj} {s₁ : Shared} {tk : Nat} {Qr : Value → Shared → Prop} {Qb : Shared → Prop}
    (hq : tabs[i]? = some q) (hvs : StrsAre vs ((cells mode).take i)) (hx : cellF mode i q.2 = x) (F : Fr h₀ L h' m') (N : News h₀ L h' ((l, listOf (vs.toArray.push (.str x tx)) (c + 1)) :: (((I, o) :: own) ++ news))) (h1 : m' "mode" = some (.int mode t)) (h2 : m' "perm" = some (.ref l)) :
    LoopStep3 h₀ L own ((l, listOf vs.toArray c) :: news) (JF mode t l news (i + 1)) s₁ Qr Qb .next { s₁ with heap := h', toks := tk } := by
  refine LoopStep3.next (LoopStep2.intro (news₂ := (l, listOf (vs ++ [Value.str x tx]).toArray (c + 1)) :: news) F ?_ rfl ⟨h1, h2, vs ++ [Value.str x tx], c + 1, rfl, ?_⟩)
  · rw [List.push_toArray] at N
    exact cb_drop N (by intro p hp; simp only [List.mem_cons, List.mem_append] at hp ⊢; grind)
  · rw [cells_next hq, hx]
    exact PyProof.Rows.StrsAre.append' hvs (.cons _ _ .nil)
theorem fm_els {h₀ h' : Heap} {L l : Addr} {m' : Str → Option Value} {mode : Int} {t : Tok} {i c : Nat} {q : Addr × List Pr} {vs : List Value} {own news : List (Addr × Obj)} {x : Str} {tx : Tok} {s₁ : Shared} {tk : Nat} {Qr : Value → Shared → Prop} {Qb : Shared → Prop}
    (hq : tabs[i]? = some q) (hvs : StrsAre vs ((cells mode).take i)) (hx : cellF mode i q.2 = x) (F : Fr h₀ L h' m') (N : News h₀ L h' ((l, listOf (vs.toArray.push (.str x tx)) (c + 1)) :: (own ++ news))) (h1 : m' "mode" = some (.int mode t)) (h2 : m' "perm" = some (.ref l)) :
    LoopStep3 h₀ L own ((l, listOf vs.toArray c) :: news) (JF mode t l news (i + 1)) s₁ Qr Qb .next { s₁ with heap := h', toks := tk } := by
  refine LoopStep3.next (LoopStep2.intro (news₂ := (l, listOf (vs ++ [Value.str x tx]).toArray (c + 1)) :: news) F ?_ rfl ⟨h1, h2, vs ++ [Value.str x tx], c + 1, rfl, ?_⟩)
  · rw [List.push_toArray] at N
    exact cb_drop N (by intro p hp; simp only [List.mem_cons, List.mem_append] at hp ⊢; grind)
  · rw [cells_next hq, hx]
    exact PyProof.Rows.StrsAre.append' hvs (.cons _ _ .nil)
theorem tabs_ne : ∀ q ∈ tabs, q.2 ≠ [] := by decide
set_option maxRecDepth 100000 in
set_option maxHeartbeats 1000000 in
theorem fmode {w loose mean mg mb} (mode : Int) (t : Tok) (news : List (Addr × Obj)) :
    Does w loose mean mg mb 68 [.int mode t] news 2 16 (RetStr news (Txt.join "" (cells mode))) := by
  k_with_none
  w_top off
  refine filled _ ?_
  k_fill
  intro hfill; clear hfill
  intro dp un gd cn cs a ccd cl outer A₀ base h₀ L m s Q E hB hF hX hN hT hk hd hu hret
  refine wpAny_call ?_
  k_dflt cell_enter
  k_steps
  refine Stop.mk ?_
  rename_i g' L' h1 FG B' X' T' tkA l' h2 l1 h3 F' N' tkB
  with_unfolding_all refine enum_for (hh := rfl) (tab61 X') F' N' (JF mode t l' news) ⟨rfl, rfl, [], 0, rfl, StrsAre.nil⟩ ?_ ?_
  · intro i v ti m₁ news₁ h tk own hv hJ ha hoff F1 N1
    obtain ⟨hm1, hm2, vs, c, rfl, hvs⟩ := hJ
    obtain ⟨q, hq, rfl⟩ : ∃ q, tabs[i]? = some q ∧ v = Value.ref q.1 := by
      rw [List.getElem?_toArray, List.getElem?_map] at hv
      cases e : tabs[i]? with
      | none => rw [e] at hv; cases hv
      | some q => rw [e] at hv; exact ⟨q, rfl, (Option.some.inj hv).symm⟩
    have hTq := List.all_eq_true.mp (tabsK w.params) q (List.mem_of_getElem? hq)
    rw [Bool.and_eq_true, decide_eq_true_eq, List.all_eq_true] at hTq
    clear F' N'
    refine gen_toks (fun tk9 => ?_)
    with_reducible refine wpAny_execs_cons ?_
    refine tup_for (us := q.2.map vOf) (tb := q.1) rfl rfl rfl rfl (by intro _; with_unfolding_all rfl) ?_ ?_ ?_ F1 N1 (fun pre => (pre.all fun u => !testV mode i u.2.1) = true) (fun m => m "mode" = some (.int mode t) ∧ m "perm" = some (.ref l') ∧ m "index" = some (.int i ti)) ⟨hm1, hm2, rfl⟩ rfl ?_ ?_
    · intro Q' hq'
      walk1
      exact hq'
    · have := isTup_of X' hTq.1 (by rw [ne_eq, List.map_eq_nil_iff]; exact tabs_ne _ (List.mem_of_getElem? hq))
      rw [List.map_map]
      exact this
    · intro u hu
      obtain ⟨u0, hu0, rfl⟩ := List.mem_map.mp hu
      exact isTup_of X' (of_decide_eq_true (hTq.2 u0 hu0)) (by simp)
    · rintro pre u post m h8 tk8 I o hus hG ⟨hS1, hS2, hS3⟩ hI F2 N2
      obtain ⟨u0, hu0, rfl⟩ : ∃ u0, u0 ∈ q.2 ∧ vOf u0 = u := List.mem_map.mp (by rw [hus]; simp)
      have F3 := fr_with [("mode", .int mode t), ("perm", .ref l'), ("index", .int i ti)] (by simp [hS1, hS2, hS3]) F2
      have N3 : News g' L' h8 ((l', listOf vs.toArray c) :: (((I, o) :: own) ++ news)) := cb_drop N2 (by intro p hp; simp only [List.mem_cons, List.mem_append] at hp ⊢; grind)
      have hoffA : ∀ p ∈ ((I, o) :: own) ++ news, p.1 ≠ l' := by
        intro p hp
        rcases List.mem_append.mp hp with hp | hp
        · rcases List.mem_cons.mp hp with rfl | hp
          · exact Nat.ne_of_gt (hI (l', listOf vs.toArray c) (by simp))
          · exact hoff p hp l' (by simp)
        · exact Nat.ne_of_lt (l1 p hp)
      have hvl : vs.toArray.size ≤ sizeLine := by
        have h5 := PyProof.Rows.StrsAre.length hvs
        have h6 : ((cells mode).take i).length ≤ 10 := by rw [List.length_take]; exact Nat.le_trans (Nat.min_le_right _ _) (by simp [cells, tabs])
        rw [List.size_toArray, h5, PySem.sizeLine_eq]; omega
      clear F2 N2
      dsimp only [vOf] at F3
      k_steps
      refine Stop.mk ?_
      refine ite_split (fun hc => ?_) (fun hc => ?_)
      · k_steps
        refine Stop.mk ?_
        refine ite_split (fun hd => ?_) (fun hd => ?_)
        · k_steps
          refine Stop.mk ?_
          refine append_K (by assumption) (by assumption) (Upd.head hoffA) ?_ hvl
          intro h6 F6 N6
          k_steps
          refine Stop.mk ?_
          exact fm_brk hq hvs (cell_hit hus hG (by simp [testF, eqZ_of hc, hd])) F6 N6 rfl rfl
        · k_steps
          refine Stop.mk ?_
          refine ⟨_, _, _, rfl, (by assumption), cb_drop (by assumption) ?_, ⟨rfl, rfl, rfl⟩, ?_⟩
          · intro p hp; simp only [List.mem_cons, List.mem_append] at hp ⊢; grind
          · rw [List.all_append, hG]; simp [testV, vOf, testF, eqZ_of hc, hd]
      · k_steps
        refine Stop.mk ?_
        refine ite_split (fun hd => ?_) (fun hd => ?_)
        · k_steps
          refine Stop.mk ?_
          refine append_K (by assumption) (by assumption) (Upd.head hoffA) ?_ hvl
          intro h6 F6 N6
          k_steps
          refine Stop.mk ?_
          exact fm_brk hq hvs (cell_hit hus hG (by simp [testF, neZ_of hc, hd])) F6 N6 rfl rfl
        · k_steps
          refine Stop.mk ?_
          refine ⟨_, _, _, rfl, (by assumption), cb_drop (by assumption) ?_, ⟨rfl, rfl, rfl⟩, ?_⟩
          · intro p hp; simp only [List.mem_cons, List.mem_append] at hp ⊢; grind
          · rw [List.all_append, hG]; simp [testV, vOf, testF, neZ_of hc, hd]
    · rintro m h8 tk8 hG ⟨hS1, hS2, hS3⟩ F2 N2
      have F3 : Fr g' L' h8 (kstB m [("mode", .int mode t), ("perm", .ref l'), ("index", .int i ti)]) := by
        have : kstB m [((Str.ofString "mode"), Value.int mode t), ("perm", .ref l'), ("index", .int i ti)] = m := funext fun z => kstB_eq (by simp [hS1, hS2, hS3]) (fun _ => rfl)
        rw [this]; exact F2
      have N3 : News g' L' h8 ((l', listOf vs.toArray c) :: (own ++ news)) := cb_drop N2 (by intro p hp; simp only [List.mem_cons, List.mem_append] at hp ⊢; grind)
      have hoffA : ∀ p ∈ own ++ news, p.1 ≠ l' := by
        intro p hp
        rcases List.mem_append.mp hp with hp | hp
        · exact hoff p hp l' (by simp)
        · exact Nat.ne_of_lt (l1 p hp)
      have hvl : vs.toArray.size ≤ sizeLine := by
        have h5 := PyProof.Rows.StrsAre.length hvs
        have h6 : ((cells mode).take i).length ≤ 10 := by rw [List.length_take]; exact Nat.le_trans (Nat.min_le_right _ _) (by simp [cells, tabs])
        rw [List.size_toArray, h5, PySem.sizeLine_eq]; omega
      clear F2 N2
      k_steps
      refine Stop.mk ?_
      refine ite_split (fun hc => ?_) (fun hc => ?_)
      · k_steps
        refine Stop.mk ?_
        refine append_K (by assumption) (by assumption) (Upd.head hoffA) ?_ hvl
        intro h6 F6 N6
        k_steps
        refine Stop.mk ?_
        exact fm_els hq hvs (by rw [cell_none hG, if_pos (eqZ_of hc)]) F6 N6 rfl rfl
      · k_steps
        refine Stop.mk ?_
        refine append_K (by assumption) (by assumption) (Upd.head hoffA) ?_ hvl
        intro h6 F6 N6
        k_steps
        refine Stop.mk ?_
        exact fm_els hq hvs (by rw [cell_none hG, if_neg (neZ_of hc)]) F6 N6 rfl rfl
  · rintro m₁ news₁ h tk ⟨hm1, hm2, vs, c, rfl, hvs⟩ F1 N1
    have F3 : Fr g' L' h (kstB m₁ [("perm", .ref l')]) := by
      have : kstB m₁ [((Str.ofString "perm"), Value.ref l')] = m₁ := funext fun z => kstB_eq (by simp [hm2]) (fun _ => rfl)
      rw [this]; exact F1
    clear F1 F' N'
    have N2 : News g' L' h ((l', listOf vs.toArray c) :: news) := N1
    clear N1
    rw [List.take_of_length_le (by simp [cells, tabs])] at hvs
    k_steps
    refine Stop.mk ?_
    refine join_listW (News.isList (by assumption) (.head _)) hvs (by decide +kernel) (cells_len mode) ?_
    intro t8 k8
    k_steps
    exact RetStr.fin hret (by assumption) (by assumption) (fun q hq => .tail _ hq) rfl
end Mine
end -- W6

section -- Df
open PySem PySem.W PyProof.Rows PySem.Calls
set_option maxRecDepth 100000
namespace Mine
def TabFull (pos : Pos) (qual : Str) (o : Obj) (R : List (Addr × Obj)) : Prop :=
  ∃ c' oc vs t, o = tabObj #[rawInt pos.line, rawInt pos.col, .ref c'] ∧ (c', oc) ∈ R ∧ oc.data = .fields vs ∧ vs[1]? = some (.str qual t)
def TabOk (pos : Pos) (qual : Str) (o : Obj) (R : List (Addr × Obj)) : Prop := o = tabObj #[] ∨ TabFull pos qual o R
section
variable {M : Model} {A : Around} {E : Value → Shared → Prop} {s : Shared} {h₀ : Heap} {L a c P : Addr} {m mg mb : Str → Option Value} {cn : Str} {cs : Scope} {ccd : Value} {cl : List (Str × Addr)}
  {p : Program} {loose : List Str} {mean : ExcName → Option Value} {name qual : Str} {params : Arguments} {body : List Stmt} {scope : Scope} {pos : Pos} {firstLine : Nat} {clos : List (Str × Addr)}
theorem def_any {Q : Value → Shared → Prop} {R R0 : List (Addr × Obj)} {o1 : Obj} (F : Fr h₀ L s.heap m) (N : News h₀ L s.heap ((P, o1) :: R)) (T : Top p loose mean mg mb h₀) (C : CodeHd h₀ c P) (hcd : ccd = .ref c) (ho : TabOk pos qual o1 R0) (hR0 : ∀ p ∈ R0, p ∈ R) (hP : ∀ p ∈ R, p.1 ≠ P)
    (hcl : closureFor scope (envX cn cs L a ccd cl) = pure clos)
    (h : ∀ f oF c' oc vs t ctv doc h' tk o1' extra, oF = fnMade name qual params body scope clos doc ((mg "__name__").getD .none) c' ctv → Fr h₀ L h' m → News h₀ L h' ((f, oF) :: (P, o1') :: (extra ++ R)) → (c', oc) ∈ extra ++ R0 → oc.data = .fields vs → vs[1]? = some (.str qual t) →
      TabFull pos qual o1' (extra ++ R0) → (∀ p ∈ extra, ∀ q ∈ (P, o1) :: R, q.1 < p.1) → (∀ q ∈ (P, o1) :: (extra ++ R), q.1 < f) → Q (.ref f) { s with heap := h', toks := tk }) :
    wpAny M A (makeFunction name qual params (.stmts body) scope (envX cn cs L a ccd cl) [] [] [] pos firstLine) Q E s := by
  rcases ho with rfl | ⟨c', oc, vs, t, rfl, hm, hd, hv⟩
  · refine nest_K F N T C hcd (UpdF.head hP) trivial rfl hcl fun f c' oc vs t ctv doc h' tk F' N' hd hv hlt hcf => ?_
    refine h f _ c' oc vs t ctv doc h' tk (tabObj #[rawInt pos.line, rawInt pos.col, .ref c']) [(c', oc)] rfl F' (cb_drop N' ?_) (by simp) hd hv ⟨c', oc, vs, t, rfl, by simp, hd, hv⟩ ?_ ?_
    · intro q hq
      simp only [List.mem_cons, List.mem_append, List.not_mem_nil, or_false] at hq
      rcases hq with rfl | rfl | rfl | hq
      · exact .head _
      · exact .tail _ (.tail _ (.head _))
      · exact .tail _ (.head _)
      · exact .tail _ (.tail _ (.tail _ hq))
    · intro q hq r hr
      rw [List.mem_singleton.mp hq]
      exact hlt r hr
    · intro q hq
      rcases List.mem_cons.mp hq with rfl | hq
      · exact Nat.lt_trans (hlt _ (.head _)) hcf
      rcases List.mem_cons.mp hq with rfl | hq
      · exact hcf
      · exact Nat.lt_trans (hlt _ (.tail _ hq)) hcf
  · refine nestHit_K (c' := c') F N T C hcd (.head _) (by simp [TriplesOk, rawInt]) (by simp [codeAmong, rawInt]) hcl fun f ctv doc h' tk F' N' hlt => ?_
    exact h f _ c' oc vs t ctv doc h' tk _ [] rfl F' N' hm hd hv ⟨c', oc, vs, t, rfl, hm, hd, hv⟩ (fun _ h => nomatch h) hlt
end
end Mine
end -- Df

section -- W7
open PySem PySem.W PyProof.Rows PySem.Calls
namespace Mine
local macro_rules | `(tactic| walk_at "execs cons") => `(tactic| (k_here; (refine gen_toks (fun tk9 => ?_)); (with_reducible refine wpAny_execs_cons ?_); (try dsimp only)))
local macro_rules | `(tactic| walk_at "execs nil") => `(tactic| (k_here; (refine gen_toks (fun tk9 => ?_)); refine wpAny_execs_nil ?_))
local macro_rules | `(tactic| walk_at "ite") => `(tactic| refine Stop.out ?_)
local macro_rules | `(tactic| walk_at "call ref") => `(tactic| refine Stop.out ?_)
local macro_rules | `(tactic| walk_at "exec FunctionDef") => `(tactic| refine Stop.out ?_)
local macro_rules | `(tactic| walk_at "binaryOp Mult int int") => `(tactic| refine Stop.out ?_)
local macro_rules | `(tactic| walk_at "binaryOp LShift int int") => `(tactic| refine Stop.out ?_)
local macro_rules | `(tactic| walk_at "binaryOp RShift int int") => `(tactic| refine Stop.out ?_)
local macro_rules | `(tactic| walk_at "subscriptTail") => `(tactic| refine Stop.out ?_)
local macro_rules | `(tactic| walk_at "subscriptTail Name Name ref int") => `(tactic| refine Stop.out ?_)
local macro_rules | `(tactic| walk_at "truthy ref") => `(tactic| refine Stop.out ?_)
local macro_rules | `(tactic| walk_at "call builtin:len") => `(tactic| refine Stop.out ?_)
local macro_rules | `(tactic| walk_at "mine enterC") => `(tactic| (refine' code_defC ?k1 ?k2 ?k3 ?k4 ?k5 ?kA ?kF ?kK ?k6 ?k7 ?k8 ?k9 ?kB ?kD ?_ ?c2 ?c3 ?c4; (case kA => exact rfl); (case kF => exact rfl); (case kK => assumption); (case k1 => k_asm); (case k2 => k_asm); (case k3 => k_asm); (case k4 => k_asm); (case k5 => k_asm); (case k6 => k_is); (case k7 => k_is); (case k8 => ktr_room); (case k9 => exact BindsTo.of_eq rfl); (case kB => exact rfl); (case kD => decide +kernel); (case c2 => exact rfl); (case c3 => exact rfl); (case c4 => exact rfl); k_whole; intro g' L' h' tk' cells' FG' F' N' Y' B' X' T' l1; (try k_lt l1); k_cells Y'; (try simp only [List.cons_append, List.nil_append] at N'); (try dsimp only); (try k_fold)))
def posD : Pos := ⟨62, 4, 67, 55⟩
def qD : Str := (Str.ofString "_digits2int" ++ Str.ofString ".<locals>.") ++ Str.ofString "inner"
noncomputable def valF (n : Int) : List Int → Int
  | [] => 0
  | x :: r => x + 2 ^ n.toNat * valF n r
theorem valF_append (n : Int) : ∀ xs ys : List Int, valF n (xs ++ ys) = valF n xs + 2 ^ (n.toNat * xs.length) * valF n ys
  | [], ys => by simp [valF]
  | x :: r, ys => by
    rw [List.cons_append, valF, valF, valF_append n r ys, List.length_cons, Int.mul_add, Nat.mul_succ, Nat.add_comm, Int.pow_add, Int.mul_assoc, Int.add_assoc]
theorem valF_bound (n : Int) {xs : List Int} (h : ∀ x ∈ xs, 0 ≤ x ∧ x < 2 ^ n.toNat) : 0 ≤ valF n xs ∧ valF n xs < 2 ^ (n.toNat * xs.length) := by
  induction xs with
  | nil => simp [valF]
  | cons x r ih =>
    obtain ⟨h1, h2⟩ := h x (.head _)
    obtain ⟨h3, h4⟩ := ih fun y hy => h y (.tail _ hy)
    have hp : (0 : Int) < 2 ^ n.toNat := Int.pow_pos (by decide)
    rw [valF, List.length_cons, Nat.mul_succ, Int.pow_add]
    have h5 : 0 ≤ 2 ^ n.toNat * valF n r := Int.mul_nonneg (Int.le_of_lt hp) h3
    have h6 : (2 : Int) ^ n.toNat * (valF n r + 1) ≤ 2 ^ n.toNat * 2 ^ (n.toNat * r.length) := Int.mul_le_mul_of_nonneg_left h4 (Int.le_of_lt hp)
    rw [Int.mul_add, Int.mul_one] at h6
    rw [Int.mul_comm (2 ^ (n.toNat * r.length))]
    constructor <;> omega
theorem val_small {n v : Int} {len k : Nat} (hsz : n.toNat * len ≤ 60) (h : 0 ≤ v ∧ v < 2 ^ (n.toNat * k)) (hk : k ≤ len) : v.natAbs < 2 ^ 64 := by
  have h1 : n.toNat * k ≤ 60 := Nat.le_trans (Nat.mul_le_mul_left _ hk) hsz
  have h2 : (2 : Int) ^ (n.toNat * k) ≤ 2 ^ 60 := by
    have := Nat.pow_le_pow_right (show 0 < 2 by decide) h1
    exact_mod_cast this
  have h3 : (2 : Int) ^ 60 = 1152921504606846976 := by decide
  have h4 : (2 : Nat) ^ 64 = 18446744073709551616 := by decide
  omega
theorem val_one {n Lo : Int} {ns : List Int} (h0 : 0 ≤ Lo) (h1 : Lo < ns.length) : ns.getD Lo.toNat 0 = valF n ((ns.drop Lo.toNat).take (0 + 1)) := by
  have h2 : Lo.toNat < ns.length := by omega
  rw [List.drop_eq_getElem_cons h2, List.take_succ_cons, List.take_zero, valF, valF]
  simp [h2]
theorem val_split {n Lo mid : Int} {ns : List Int} {k k1 k2 : Nat} (hn : n = 1 ∨ n = 12) (h0 : 0 ≤ Lo) (hk : k + 1 = (k2 + 1) + (k1 + 1)) (hh : (mid.toNat : Int) = mid) (hk2 : mid - Lo = (k2 : Int) + 1) (hl : mid ≤ ns.length) :
    valF n ((ns.drop mid.toNat).take (k1 + 1)) * 2 ^ ((mid - Lo) * n).toNat + valF n ((ns.drop Lo.toNat).take (k2 + 1)) = valF n ((ns.drop Lo.toNat).take (k + 1)) := by
  have e1 : mid.toNat = Lo.toNat + (k2 + 1) := by omega
  have e2 : ((ns.drop Lo.toNat).take (k2 + 1)).length = k2 + 1 := by rw [List.length_take, List.length_drop]; omega
  have e3 : ((mid - Lo) * n).toNat = n.toNat * (k2 + 1) := by
    rw [hk2]
    rcases hn with rfl | rfl
    · simp only [Int.toNat_one]; omega
    · simp only [Int.reduceToNat]; omega
  have e4 : (ns.drop Lo.toNat).take (k + 1) = (ns.drop Lo.toNat).take (k2 + 1) ++ (ns.drop mid.toNat).take (k1 + 1) := by
    rw [hk, List.take_add, List.drop_drop, ← e1]
  rw [e4, valF_append, e2, e3, Int.mul_comm, Int.add_comm]
structure Hidden (P : Prop) : Prop where
  out : P
theorem News.named {h₀ h : Heap} {L : Addr} {N0 : List (Addr × Obj)} (N : News h₀ L h N0) : ∃ M, M = N0 ∧ News h₀ L h M := ⟨N0, rfl, N⟩
def RetTab (P : Addr) (pos : Pos) (qual : Str) (o1 : Obj) (rest R0 : List (Addr × Obj)) (V : Value → Prop) (v : Value) (news' : List (Addr × Obj)) : Prop :=
  ∃ o1' extra, V v ∧ TabFull pos qual o1' (extra ++ R0) ∧ (∀ p ∈ extra, ∀ q ∈ (P, o1) :: rest, q.1 < p.1) ∧ news' = (P, o1') :: (extra ++ rest)
theorem RetTab.fin {h₀ h' : Heap} {L P : Addr} {m : Str → Option Value} {pos : Pos} {qual : Str} {o1 o1' : Obj} {rest R0 extra n2 : List (Addr × Obj)} {V : Value → Prop} {v : Value} {s : Shared} {Q : Value → Shared → Prop} {tk : Nat}
    (hret : ∀ v news' h' tk', RetTab P pos qual o1 rest R0 V v news' → Fr h₀ L h' m → News h₀ L h' news' → Q v { s with heap := h', toks := tk' })
    (hv : V v) (F : Fr h₀ L h' m) (N : News h₀ L h' n2) (hT : TabFull pos qual o1' (extra ++ R0)) (hex : ∀ p ∈ extra, ∀ q ∈ (P, o1) :: rest, q.1 < p.1) (hs : ∀ p ∈ (P, o1') :: (extra ++ rest), p ∈ n2) : Q v { s with heap := h', toks := tk } :=
  hret _ _ _ _ ⟨o1', extra, hv, hT, hex, rfl⟩ F (cb_drop N hs)
set_option maxRecDepth 100000 in
set_option maxHeartbeats 1000000 in
theorem d2i {w loose mean mg mb} (l : Addr) (vs : List Value) (ns : List Int) (n : Int) (t : Tok) (c : Nat) (o1 : Obj) (rest : List (Addr × Obj)) (hl : (l, listOf vs.toArray c) ∈ rest) (hi : IntsAre vs ns) (h77 : ∀ p ∈ rest, p.1 ≠ 77)
    (R0 : List (Addr × Obj)) (hR0 : ∀ p ∈ R0, p ∈ rest) (ho : TabOk posD qD o1 R0) (hn : n = 1 ∨ n = 12) (hbd : ∀ x ∈ ns, 0 ≤ x ∧ x < 2 ^ n.toNat) (hsz : n.toNat * ns.length ≤ 60) (hne : 0 < ns.length) (h12 : ns.length ≤ 12) :
    Does w loose mean mg mb 82 [.ref l, .int n t] ((77, o1) :: rest) 16 120 (RetTab 77 posD qD o1 rest R0 (fun v => ∃ t, v = .int (valF n ns) t)) := by
  k_with_none
  w_top off
  refine filled _ ?_
  k_fill
  intro hfill; clear hfill
  intro dp un gd cn cs a ccd cl outer A₀ base h₀ L m s Q E hB hF hX hN hT hk hd hu hret
  refine wpAny_call ?_
  k_dflt (walk_at "mine enterC")
  k_steps
  refine Stop.mk ?_
  rename_i g' L' h1 tkA FG F' B' X' T' l1 oI oN oD dI dN dD N' tkB
  have dI2 : oI.data = .cell none := dI
  have dN2 : oN.data = .cell (some (.int n t)) := dN
  have dD2 : oD.data = .cell (some (.ref l)) := dD
  clear dI dN dD
  k_dflt (refine' nestDef_K ?d0 ?k0 ?a0 ?_; (case d0 => exact rfl); (case k0 => exact rfl); (case a0 => exact rfl))
  have N2 : News g' L' h1 ((77, o1) :: ((L' + 1 + 1 + 1, oI) :: (L' + 1 + 1, oN) :: (L' + 1, oD) :: rest)) := cb_drop N' (by intro p hp; simp only [List.mem_cons] at hp ⊢; grind)
  have hR77 : ∀ p ∈ ((L' + 1 + 1 + 1, oI) :: (L' + 1 + 1, oN) :: (L' + 1, oD) :: rest), p.1 ≠ 77 := by
    have h5 := ltN l1.1
    intro p hp
    rcases List.mem_cons.mp hp with rfl | hp
    · refine neN ?_; omega
    rcases List.mem_cons.mp hp with rfl | hp
    · refine neN ?_; omega
    rcases List.mem_cons.mp hp with rfl | hp
    · refine neN ?_; omega
    · exact h77 p hp
  k_dflt (refine def_any (pos := posD) (qual := qD) F' N2 T' (codeHd_of_K X' (by kernel_rfl)) rfl ho (fun p hp => .tail _ (.tail _ (.tail _ (hR0 p hp)))) hR77 rfl ?_)
  intro f oF c' oc vs2 t2 ctv doc h2 tk2 o1' extra hoF F2 N3 hc hd2 hv2 hTF hex hf
  clear F' N' N2
  have hfI : ∀ p ∈ ((f, oF) :: (77, o1') :: (L' + 1 + 1, oN) :: (L' + 1, oD) :: (extra ++ rest) : List (Addr × Obj)), p.1 ≠ L' + 1 + 1 + 1 := by
    have h5 := ltN l1.1
    intro p hp
    rcases List.mem_cons.mp hp with rfl | hp
    · exact Nat.ne_of_gt (hf (L' + 1 + 1 + 1, oI) (by simp))
    rcases List.mem_cons.mp hp with rfl | hp
    · refine neN ?_; omega
    rcases List.mem_cons.mp hp with rfl | hp
    · refine neN ?_; omega
    rcases List.mem_cons.mp hp with rfl | hp
    · refine neN ?_; omega
    rcases List.mem_append.mp hp with hp | hp
    · exact Nat.ne_of_gt (hex p hp (L' + 1 + 1 + 1, oI) (by simp))
    · have := ltN (kst_ltOf l1.2 p hp); refine neN ?_; omega
  have N4 := cb_drop (news := (L' + 1 + 1 + 1, oI) :: (f, oF) :: (77, o1') :: (L' + 1 + 1, oN) :: (L' + 1, oD) :: (extra ++ rest)) N3 (by intro p hp; simp only [List.mem_cons, List.mem_append] at hp ⊢; grind)
  clear N3
  k_dflt (refine' storeX_C F2 N4 ?hcl (UpdF.head hfI) dI2 ?_ ?hk2 ?hx2; (case hcl => rfl); (case hk2 => rfl); (case hx2 => rfl))
  intro h3 oI2 F3 N5 dI3
  clear F2 N4
  (try dsimp only at N5)
  have N6 : News g' L' h3 ((l, listOf vs.toArray c) :: (L' + 1 + 1 + 1, oI2) :: (f, oF) :: (77, o1') :: (L' + 1 + 1, oN) :: (L' + 1, oD) :: (extra ++ rest)) := cb_drop N5 (by
    intro p hp
    rcases List.mem_cons.mp hp with rfl | hp
    · simp [hl]
    · exact hp)
  clear N5
  have hlen := IntsAre.length hi
  have hnl : ns.length ≤ 60 := by rcases hn with rfl | rfl <;> simp only [Int.toNat_one, Int.reduceToNat] at hsz <;> omega
  have hCH : CodeHd g' 81 77 := codeHd_of_K X' (by kernel_rfl)
  subst hoF
  obtain ⟨M, hM, N7⟩ := News.named N6
  have key : ∀ (k : Nat) (Lo Hi : Int) (tL tR : Tok) (nw : List (Addr × Obj)), (∀ p ∈ M, p ∈ nw) → 0 ≤ Lo → Hi - Lo = k + 1 → Hi ≤ ns.length →
      Does w loose mean mg mb f [.int Lo tL, .int Hi tR] nw (k + 2) (8 * k + 16) (RetInt nw (valF n ((ns.drop Lo.toNat).take (k + 1)))) := by
    intro k
    induction k using Nat.strongRecOn with
    | ind k ih =>
      intro Lo Hi tL tR nw hsub hLo hHi hHn
      clear hB hF hX hN hT hret F3 N6 N7
      intro dp un gd cn cs a ccd cl outer A₀ base h₀ L m s Q E hB hF hX hN hT hk hd hu hret
      have hmf := hsub _ (show _ ∈ M by rw [hM]; exact .tail _ (.tail _ (.head _)))
      have hmI := hsub _ (show _ ∈ M by rw [hM]; exact .tail _ (.head _))
      have hmN := hsub _ (show _ ∈ M by rw [hM]; exact .tail _ (.tail _ (.tail _ (.tail _ (.head _)))))
      have hmD := hsub _ (show _ ∈ M by rw [hM]; exact .tail _ (.tail _ (.tail _ (.tail _ (.tail _ (.head _))))))
      have hml := hsub _ (show _ ∈ M by rw [hM]; exact .head _)
      have hmc : (c', oc) ∈ nw := hsub _ (by rw [hM]; rcases List.mem_append.mp hc with h | h <;> simp [h, hR0])
      have hCH2 : CodeHd h₀ 81 77 := codeHd_of_K hX (by kernel_rfl)
      refine wpAny_call ?_
      k_dflt (refine' code_nest hB hF hX hN hT ?kA ?kF ?kK hmf (codeRec_news hN hmc hd2 hv2) ?k8 ?k9 ?kB ?_ ?c2 ?c3 ?c4 ?c5; (case kA => exact rfl); (case kF => exact rfl); (case kK => exact hk); (case k8 => exact Nat.lt_of_le_of_lt (Nat.le_add_right _ _) hd); (case k9 => exact BindsTo.of_eq rfl); (case c5 => decide); (case kB => exact locs rfl); (case c2 => exact rfl); (case c3 => exact rfl); (case c4 => exact rfl))
      intro g2 L2 h4 FG2 F4 N8 B2 X2 T2
      (try dsimp only)
      (try k_fold)
      k_steps
      refine Stop.mk ?_
      refine ite_split (fun hc1 => ?_) (fun hc1 => ?_)
      · have hk0 : k = 0 := by have := eq_of_beq hc1; omega
        subst hk0
        k_steps
        refine Stop.mk ?_
        refine item_list_ints (News.isList (by assumption) hml) hi hLo (by omega) (by omega) (fun t9 => ?_) (by with_unfolding_all rfl) (by intro _; with_unfolding_all rfl)
        k_steps
        exact RetInt.fin hret (by assumption) (by assumption) (fun _ h => h) (val_one hLo (by omega))
      · have hk0 : k ≠ 0 := by intro e; apply hc1; rw [beq_iff_eq]; omega
        k_steps
        refine Stop.mk ?_
        refine rshift_int (by decide) ?_
        have hmid : (Lo + Hi).fdiv (2 ^ (1 : Int).toNat) = (Lo + Hi) / 2 := Int.fdiv_eq_ediv_of_nonneg _ (by decide)
        rw [hmid]
        obtain ⟨mid, hmd⟩ : ∃ mid, mid = (Lo + Hi) / 2 := ⟨_, rfl⟩
        rw [← hmd]
        have hm1 : Lo < mid := by omega
        have hm2 : mid < Hi := by omega
        k_steps
        refine Stop.mk ?_
        refine mul_int ?_ (IntMulOk.of_right (by rcases hn with rfl | rfl <;> decide))
        k_steps
        refine Stop.mk ?_
        obtain ⟨k1, hk1⟩ : ∃ k1 : Nat, Hi - mid = (k1 : Int) + 1 := ⟨(Hi - mid - 1).toNat, by omega⟩
        obtain ⟨k2, hk2⟩ : ∃ k2 : Nat, mid - Lo = (k2 : Int) + 1 := ⟨(mid - Lo - 1).toNat, by omega⟩
        k_dflt (refine' Does.use (ih k1 (by omega) mid Hi _ _ nw hsub (by omega) hk1 hHn) ?k1 ?k2 ?k3 ?k4 ?k5 ?kK ?kd ?ku ?_; (case k1 => exact B2); (case k2 => assumption); (case k3 => exact X2); (case k4 => assumption); (case k5 => exact T2); (case kK => exact rfl); (case kd => ((try dsimp only [Around.deeper]); omega)); (case ku => ((try dsimp only [Around.deeper]); omega)))
        intro v9 n9 h9 tk9 ho9 F9 N9
        obtain ⟨t19, e19, e29⟩ := ho9
        subst e19
        rw [e29] at N9
        clear e29
        (try dsimp only)
        k_steps
        refine Stop.mk ?_
        refine lshift_int_small (by rcases hn with rfl | rfl <;> omega) (by rcases hn with rfl | rfl <;> omega) (val_small hsz (valF_bound n (fun x hx => hbd x (List.mem_of_mem_drop (List.mem_of_mem_take hx)))) (by rw [List.length_take, List.length_drop]; omega)) ?_
        k_steps
        refine Stop.mk ?_
        k_dflt (refine' Does.use (ih k2 (by omega) Lo mid _ _ nw hsub hLo hk2 (by omega)) ?k1 ?k2 ?k3 ?k4 ?k5 ?kK ?kd ?ku ?_; (case k1 => exact B2); (case k2 => assumption); (case k3 => exact X2); (case k4 => assumption); (case k5 => exact T2); (case kK => exact rfl); (case kd => ((try dsimp only [Around.deeper]); omega)); (case ku => ((try dsimp only [Around.deeper]); omega)))
        intro v8 n8 h8 tk8 ho8 F8 N8b
        obtain ⟨t18, e18, e28⟩ := ho8
        subst e18
        rw [e28] at N8b
        clear e28
        (try dsimp only)
        k_steps
        exact RetInt.fin hret (by assumption) (by assumption) (fun _ h => h) (val_split hn hLo (by omega) (by omega) hk2 (by omega))
  replace key := Hidden.mk key
  clear N7
  k_steps
  refine Stop.mk ?_
  refine truthy_ints_fit (News.isList (by assumption) (.head _)) hi (by omega) ?_
  rw [decide_eq_true hne]
  k_steps
  refine Stop.mk ?_
  rw [if_pos rfl]
  k_steps
  refine Stop.mk ?_
  refine len_list (News.isList (by assumption) (.head _)) (by rw [List.size_toArray, hlen]; omega) ?_
  rw [List.size_toArray, hlen]
  k_steps
  refine Stop.mk ?_
  k_dflt (refine' Does.use (key.out (ns.length - 1) 0 ns.length _ _ M (fun _ h => h) (by omega) (by omega) (by omega)) ?k1 ?k2 ?k3 ?k4 ?k5 ?kK ?kd ?ku ?_; (case k1 => exact B'); (case k2 => assumption); (case k3 => exact X'); (case k4 => (rw [hM]; assumption)); (case k5 => exact T'); (case kK => exact rfl); (case kd => ((try dsimp only [Around.deeper]); omega)); (case ku => ((try dsimp only [Around.deeper]); omega)))
  intro v9 n9 h9 tk9 ho9 F9 N9
  obtain ⟨t19, e19, e29⟩ := ho9
  subst e19
  rw [e29, hM] at N9
  clear e29
  (try dsimp only)
  k_steps
  have hval : valF n ((ns.drop (0 : Int).toNat).take (ns.length - 1 + 1)) = valF n ns := by
    rw [Int.toNat_zero, List.drop_zero, List.take_of_length_le (by omega)]
  rw [hval]
  refine RetTab.fin hret ⟨_, rfl⟩ (by assumption) (by assumption) hTF (fun p hp q hq => hex p hp q ?_) (by intro p hp; simp only [List.mem_cons, List.mem_append] at hp ⊢; grind)
  rcases List.mem_cons.mp hq with rfl | hq
  · exact .head _
  · exact .tail _ (.tail _ (.tail _ (.tail _ hq)))
end Mine
end -- W7

section -- Pl2
open PySem PySem.W PyProof.Rows PySem.Calls
namespace Mine
def dig (n x k : Nat) : List Int := (List.range k).map fun i => ((x / 2 ^ (n * i) % 2 ^ n : Nat) : Int)
theorem dig_len (n x k : Nat) : (dig n x k).length = k := by simp [dig]
theorem dig_add (n x a b : Nat) : dig n x (a + b) = dig n (x % 2 ^ (n * a)) a ++ dig n (x / 2 ^ (n * a)) b := by
  unfold dig
  rw [List.range_add, List.map_append, List.map_map]
  congr 1
  · apply List.map_congr_left
    intro i hi
    have hi := List.mem_range.mp hi
    have e1 : 2 ^ (n * a) = 2 ^ (n * i) * 2 ^ (n * (a - i)) := by rw [← Nat.pow_add, ← Nat.mul_add]; congr 2; omega
    have e2 : (2 : Nat) ^ n ∣ 2 ^ (n * (a - i)) := Nat.pow_dvd_pow 2 (Nat.le_mul_of_pos_right n (by omega))
    rw [e1, Nat.mod_mul_right_div_self, Nat.mod_mod_of_dvd _ e2]
  · apply List.map_congr_left
    intro i _
    show ((x / 2 ^ (n * (a + i)) % 2 ^ n : Nat) : Int) = _
    rw [Nat.div_div_eq_div_mul, ← Nat.pow_add, Nat.mul_add]
theorem dig_one {n x : Nat} (h : x < 2 ^ (n * (0 + 1))) : dig n x (0 + 1) = [(x : Int)] := by
  simp only [Nat.zero_add, Nat.mul_one] at h
  show [((x / 2 ^ (n * 0) % 2 ^ n : Nat) : Int)] = _
  rw [Nat.mul_zero, Nat.pow_zero, Nat.div_one, Nat.mod_eq_of_lt h]
theorem set_split {ns : List Int} {Lo Hi : Int} {x : Int} (h0 : 0 ≤ Lo) (h1 : Hi - Lo = (0 : Nat) + 1) (h2 : Hi ≤ ns.length) : ns.set Lo.toNat x = ns.take Lo.toNat ++ [x] ++ ns.drop Hi.toNat := by
  have e : Hi.toNat = Lo.toNat + 1 := by omega
  rw [List.set_eq_take_append_cons_drop, if_pos (by omega), e, List.append_assoc]
  rfl
theorem two_split {ns d1 d2 : List Int} {Lo mid Hi : Nat} (h1 : Lo ≤ mid) (h2 : mid ≤ Hi) (h3 : Hi ≤ ns.length) (l1 : d1.length = mid - Lo) :
    (ns.take Lo ++ d1 ++ ns.drop mid).take mid ++ d2 ++ (ns.take Lo ++ d1 ++ ns.drop mid).drop Hi = ns.take Lo ++ (d1 ++ d2) ++ ns.drop Hi := by
  have e1 : (ns.take Lo ++ d1).length = mid := by rw [List.length_append, List.length_take, l1]; omega
  rw [List.take_append_of_le_length (by omega), List.take_of_length_le (by omega), List.drop_append, List.drop_eq_nil_of_le (by omega), e1, List.drop_drop, List.nil_append]
  have e2 : mid + (Hi - mid) = Hi := by omega
  rw [e2]
  simp only [List.append_assoc]
theorem and_top (x s : Nat) : x &&& (x / 2 ^ s * 2 ^ s) = x / 2 ^ s * 2 ^ s := by
  apply Nat.eq_of_testBit_eq
  intro i
  rw [Nat.testBit_and, Nat.testBit_mul_two_pow, Nat.testBit_div_two_pow]
  by_cases h : s ≤ i
  · have e : s + (i - s) = i := by omega
    have e2 : i - s + s = i := by omega
    simp [h, e, e2]
  · simp [h]
theorem xor_low (x s : Nat) : Builtin.bitXor (x : Int) (((x / 2 ^ s * 2 ^ s : Nat)) : Int) = ((x % 2 ^ s : Nat) : Int) := by
  rw [bitXor_and, bitAnd_pp (Int.natCast_nonneg _) (Int.natCast_nonneg _), Int.toNat_natCast, Int.toNat_natCast, and_top]
  have := Nat.div_add_mod' x (2 ^ s)
  omega
end Mine
end -- Pl2

section -- W8
open PySem PySem.W PyProof.Rows PySem.Calls
namespace Mine
local macro_rules | `(tactic| walk_at "execs cons") => `(tactic| (k_here; (refine gen_toks (fun tk9 => ?_)); (with_reducible refine wpAny_execs_cons ?_); (try dsimp only)))
local macro_rules | `(tactic| walk_at "execs nil") => `(tactic| (k_here; (refine gen_toks (fun tk9 => ?_)); refine wpAny_execs_nil ?_))
local macro_rules | `(tactic| walk_at "ite") => `(tactic| refine Stop.out ?_)
local macro_rules | `(tactic| walk_at "call ref") => `(tactic| refine Stop.out ?_)
local macro_rules | `(tactic| walk_at "exec FunctionDef") => `(tactic| refine Stop.out ?_)
local macro_rules | `(tactic| walk_at "binaryOp Mult int int") => `(tactic| refine Stop.out ?_)
local macro_rules | `(tactic| walk_at "binaryOp Mult ref int") => `(tactic| refine Stop.out ?_)
local macro_rules | `(tactic| walk_at "binaryOp FloorDiv int int") => `(tactic| refine Stop.out ?_)
local macro_rules | `(tactic| walk_at "binaryOp LShift int int") => `(tactic| refine Stop.out ?_)
local macro_rules | `(tactic| walk_at "binaryOp RShift int int") => `(tactic| refine Stop.out ?_)
local macro_rules | `(tactic| walk_at "binaryOp BitXor int int") => `(tactic| refine Stop.out ?_)
local macro_rules | `(tactic| walk_at "setItem ref int") => `(tactic| refine Stop.out ?_)
local macro_rules | `(tactic| walk_at "truthy ref") => `(tactic| refine Stop.out ?_)
local macro_rules | `(tactic| walk_at "storeName") => `(tactic| first | (k_here; k_dflt (refine' storeX_L ?F ?N ?_ ?a ?b; (case F => k_asm); (case N => k_asm); (case a => rfl); (case b => rfl); k_whole; intro h' F' N'; (try k_sweep))) | refine Stop.out ?_)
local macro_rules | `(tactic| walk_at "call builtin:len") => `(tactic| refine Stop.out ?_)
local macro_rules | `(tactic| walk_at "mine enterC") => `(tactic| (refine' code_defC ?k1 ?k2 ?k3 ?k4 ?k5 ?kA ?kF ?kK ?k6 ?k7 ?k8 ?k9 ?kB ?kD ?_ ?c2 ?c3 ?c4; (case kA => exact rfl); (case kF => exact rfl); (case kK => assumption); (case k1 => k_asm); (case k2 => k_asm); (case k3 => k_asm); (case k4 => k_asm); (case k5 => k_asm); (case k6 => k_is); (case k7 => k_is); (case k8 => ktr_room); (case k9 => exact BindsTo.of_eq rfl); (case kB => exact rfl); (case kD => decide +kernel); (case c2 => exact rfl); (case c3 => exact rfl); (case c4 => exact rfl); k_whole; intro g' L' h' tk' cells' FG' F' N' Y' B' X' T' l1; (try k_lt l1); k_cells Y'; (try simp only [List.cons_append, List.nil_append] at N'); (try dsimp only); (try k_fold)))
def posI : Pos := ⟨47, 4, 56, 28⟩
def qI : Str := (Str.ofString "_int2digits" ++ Str.ofString ".<locals>.") ++ Str.ofString "inner"
def RetTabL (P : Addr) (pos : Pos) (qual : Str) (o1 : Obj) (rest R0 : List (Addr × Obj)) (ns : List Int) (v : Value) (news' : List (Addr × Obj)) : Prop :=
  ∃ o1' extra d vs c, v = .ref d ∧ IntsAre vs ns ∧ TabFull pos qual o1' (extra ++ R0) ∧ (∀ p ∈ extra, ∀ q ∈ (P, o1) :: rest, q.1 < p.1) ∧ (∀ q ∈ (P, o1) :: rest, q.1 < d) ∧ (∀ p ∈ extra, p.1 ≠ d) ∧ news' = (d, listOf vs.toArray c) :: (P, o1') :: (extra ++ rest)
theorem RetTabL.fin {h₀ h' : Heap} {L P d : Addr} {m : Str → Option Value} {pos : Pos} {qual : Str} {o1 o1' : Obj} {rest R0 extra n2 : List (Addr × Obj)} {ns : List Int} {vs : List Value} {c : Nat} {s : Shared} {Q : Value → Shared → Prop} {tk : Nat}
    (hret : ∀ v news' h' tk', RetTabL P pos qual o1 rest R0 ns v news' → Fr h₀ L h' m → News h₀ L h' news' → Q v { s with heap := h', toks := tk' })
    (F : Fr h₀ L h' m) (N : News h₀ L h' n2) (hi : IntsAre vs ns) (hT : TabFull pos qual o1' (extra ++ R0)) (hex : ∀ p ∈ extra, ∀ q ∈ (P, o1) :: rest, q.1 < p.1) (hd : ∀ q ∈ (P, o1) :: rest, q.1 < d) (hed : ∀ p ∈ extra, p.1 ≠ d) (hs : ∀ p ∈ (d, listOf vs.toArray c) :: (P, o1') :: (extra ++ rest), p ∈ n2) : Q (.ref d) { s with heap := h', toks := tk } :=
  hret _ _ _ _ ⟨o1', extra, d, vs, c, rfl, hi, hT, hex, hd, hed, rfl⟩ F (cb_drop N hs)
theorem dig_zero (n : Nat) (k : Nat) : dig n 0 k = List.replicate k 0 := by
  unfold dig
  simp only [Nat.zero_div, Nat.zero_mod]
  induction k with
  | zero => rfl
  | succ k ih => rw [List.range_succ, List.map_append, ih, List.replicate_succ']; rfl
theorem rep_foldA (v : Value) : ∀ (k : Nat) (acc : Array Value), List.foldl (fun x1 x2 => x1 ++ x2) acc (List.replicate k #[v]) = acc ++ (List.replicate k v).toArray
  | 0, acc => by simp
  | k + 1, acc => by
    rw [List.replicate_succ, List.foldl_cons, rep_foldA v k, List.replicate_succ]
    apply Array.toList_inj.mp
    simp
theorem rep_fold (v : Value) (k : Nat) : List.foldl (fun x1 x2 => x1 ++ x2) #[] (List.replicate k #[v]) = (List.replicate k v).toArray := by
  rw [rep_foldA]; simp
theorem rep_ints (t : Tok) : ∀ k : Nat, IntsAre (List.replicate k (Value.int 0 t)) (List.replicate k 0)
  | 0 => .nil
  | k + 1 => .cons 0 t (rep_ints t k)
set_option maxRecDepth 100000 in
set_option maxHeartbeats 1000000 in
theorem i2d {w loose mean mg mb} (x nn : Nat) (t t' : Tok) (o1 : Obj) (rest : List (Addr × Obj)) (h70 : ∀ p ∈ rest, p.1 ≠ 70) (R0 : List (Addr × Obj)) (hR0 : ∀ p ∈ R0, p ∈ rest) (ho : TabOk posI qI o1 R0) (hn : nn = 1 ∨ nn = 12) (K : Nat) (hK : ((Builtin.Int.intBits x : Int) + nn - 1).fdiv nn = K) (hK12 : K ≤ 12) (hK0 : 0 < x → 0 < K) (hx : x < 2 ^ (nn * K)) (hb : nn * K ≤ 60) :
    Does w loose mean mg mb 75 [.int x t, .int nn t'] ((70, o1) :: rest) 16 160 (RetTabL 70 posI qI o1 rest R0 (dig nn x K)) := by
  k_with_none
  w_top off
  refine filled _ ?_
  k_fill
  intro hfill; clear hfill
  intro dp un gd cn cs a ccd cl outer A₀ base h₀ L m s Q E hB hF hX hN hT hk hd hu hret
  refine wpAny_call ?_
  k_dflt (walk_at "mine enterC")
  rename_i g' L' h1 tkA FG F' B' X' T' l1 oI oN oD dI dN dD N'
  have dI2 : oI.data = .cell none := dI
  have dN2 : oN.data = .cell none := dN
  have dD2 : oD.data = .cell (some (.int nn t')) := dD
  clear dI dN dD
  k_steps
  refine Stop.mk ?_
  refine floordiv_int (by omega) ?_
  rw [hK]
  k_steps
  refine Stop.mk ?_
  rename_i tkC l0 h2 F2 N2 l2
  refine mul_list F2 N2 (N2 _ (.head _)).1 (by omega) (by omega) (by show 1 * (K : Int).toNat ≤ 2 ^ 24; omega) ?_
  intro h3 F3 N3
  have e0 : (List.foldl (fun x1 x2 => x1 ++ x2) #[] (List.replicate (if (#[Value.int 0 tkC] : Array Value).isEmpty = true then 0 else (K : Int).toNat) #[Value.int 0 tkC])) = (List.replicate K (Value.int 0 tkC)).toArray := rep_fold _ _
  have hI0 : IntsAre (List.replicate K (Value.int 0 tkC)) (List.replicate K 0) := rep_ints _ _
  obtain ⟨l, hl⟩ : ∃ l, l = h2.objs.size := ⟨_, rfl⟩
  have hlt : ∀ p ∈ ((l0, listOf #[Value.int 0 tkC] 0) :: (L' + 1 + 1 + 1, oI) :: (L' + 1 + 1, oN) :: (L' + 1, oD) :: (70, o1) :: rest), p.1 < l := fun p hp => hl ▸ Heap.lt_size (N2 p hp).1
  have N4 : News g' L' h3 ((l, listOf (List.replicate K (Value.int 0 tkC)).toArray 0) :: (l0, listOf #[Value.int 0 tkC] 0) :: (L' + 1 + 1 + 1, oI) :: (L' + 1 + 1, oN) :: (L' + 1, oD) :: (70, o1) :: rest) := by
    rw [hl, ← e0]; exact N3
  clear N3 N2 F2
  k_steps
  refine Stop.mk ?_
  dsimp only
  rw [← hl]
  have hl1 := ltN l1.1
  have hlL : @LT.lt Nat _ (L' + 1 + 1 + 1) l := hlt (L' + 1 + 1 + 1, oI) (by simp)
  have hrL : ∀ p ∈ rest, @LT.lt Nat _ p.1 L' := fun p hp => kst_ltOf l1.2 p hp
  have offA : ∀ p ∈ ((l, listOf (List.replicate K (Value.int 0 tkC)).toArray 0) :: (L' + 1 + 1 + 1, oI) :: (L' + 1, oD) :: (70, o1) :: rest), p.1 ≠ L' + 1 + 1 := by
    intro p hp
    rcases List.mem_cons.mp hp with rfl | hp
    · refine neN ?_; omega
    rcases List.mem_cons.mp hp with rfl | hp
    · refine neN ?_; omega
    rcases List.mem_cons.mp hp with rfl | hp
    · refine neN ?_; omega
    rcases List.mem_cons.mp hp with rfl | hp
    · refine neN ?_; omega
    · have := hrL p hp; refine neN ?_; omega
  have N5 := cb_drop (news := (L' + 1 + 1, oN) :: (l, listOf (List.replicate K (Value.int 0 tkC)).toArray 0) :: (L' + 1 + 1 + 1, oI) :: (L' + 1, oD) :: (70, o1) :: rest) N4 (by intro p hp; simp only [List.mem_cons] at hp ⊢; grind)
  clear N4
  k_dflt (refine' storeX_C F3 N5 ?hcl (UpdF.head offA) dN2 ?_ ?hk2 ?hx2; (case hcl => rfl); (case hk2 => rfl); (case hx2 => rfl))
  intro h4 oA F4 N6 dA
  clear F3 N5
  (try dsimp only at N6)
  k_steps
  refine Stop.mk ?_
  k_dflt (refine' nestDef_K ?d0 ?k0 ?a0 ?_; (case d0 => exact rfl); (case k0 => exact rfl); (case a0 => exact rfl))
  have N7 : News g' L' h4 ((70, o1) :: ((L' + 1 + 1 + 1, oI) :: (L' + 1 + 1, oA) :: (L' + 1, oD) :: (l, listOf (List.replicate K (Value.int 0 tkC)).toArray 0) :: rest)) := cb_drop N6 (by intro p hp; simp only [List.mem_cons] at hp ⊢; grind)
  clear N6
  have off70 : ∀ p ∈ ((L' + 1 + 1 + 1, oI) :: (L' + 1 + 1, oA) :: (L' + 1, oD) :: (l, listOf (List.replicate K (Value.int 0 tkC)).toArray 0) :: rest), p.1 ≠ 70 := by
    intro p hp
    rcases List.mem_cons.mp hp with rfl | hp
    · refine neN ?_; omega
    rcases List.mem_cons.mp hp with rfl | hp
    · refine neN ?_; omega
    rcases List.mem_cons.mp hp with rfl | hp
    · refine neN ?_; omega
    rcases List.mem_cons.mp hp with rfl | hp
    · refine neN ?_; omega
    · exact h70 p hp
  k_dflt (refine def_any (pos := posI) (qual := qI) F4 N7 T' (codeHd_of_K X' (by kernel_rfl)) rfl ho (fun p hp => .tail _ (.tail _ (.tail _ (.tail _ (hR0 p hp))))) off70 rfl ?_)
  intro f oF c' oc vs2 t2 ctv doc h5 tk2 o1' extra hoF F5 N8 hc hd2 hv2 hTF hex hf
  clear F4 N7
  have offI : ∀ p ∈ ((f, oF) :: (70, o1') :: (L' + 1 + 1, oA) :: (L' + 1, oD) :: (l, listOf (List.replicate K (Value.int 0 tkC)).toArray 0) :: (extra ++ rest) : List (Addr × Obj)), p.1 ≠ L' + 1 + 1 + 1 := by
    intro p hp
    rcases List.mem_cons.mp hp with rfl | hp
    · exact Nat.ne_of_gt (hf (L' + 1 + 1 + 1, oI) (by simp))
    rcases List.mem_cons.mp hp with rfl | hp
    · refine neN ?_; omega
    rcases List.mem_cons.mp hp with rfl | hp
    · refine neN ?_; omega
    rcases List.mem_cons.mp hp with rfl | hp
    · refine neN ?_; omega
    rcases List.mem_cons.mp hp with rfl | hp
    · refine neN ?_; omega
    rcases List.mem_append.mp hp with hp | hp
    · exact Nat.ne_of_gt (hex p hp (L' + 1 + 1 + 1, oI) (by simp))
    · have := hrL p hp; refine neN ?_; omega
  have N9 := cb_drop (news := (L' + 1 + 1 + 1, oI) :: (f, oF) :: (70, o1') :: (L' + 1 + 1, oA) :: (L' + 1, oD) :: (l, listOf (List.replicate K (Value.int 0 tkC)).toArray 0) :: (extra ++ rest)) N8 (by intro p hp; simp only [List.mem_cons, List.mem_append] at hp ⊢; grind)
  clear N8
  k_dflt (refine' storeX_C F5 N9 ?hcl (UpdF.head offI) dI2 ?_ ?hk2 ?hx2; (case hcl => rfl); (case hk2 => rfl); (case hx2 => rfl))
  intro h6 oI2 F6 N10 dI3
  clear F5 N9
  have N11 := cb_drop (news := (l, listOf (List.replicate K (Value.int 0 tkC)).toArray 0) :: (L' + 1 + 1 + 1, oI2) :: (f, oF) :: (70, o1') :: (L' + 1 + 1, oA) :: (L' + 1, oD) :: (extra ++ rest)) N10 (by intro p hp; simp only [List.mem_cons, List.mem_append] at hp ⊢; grind)
  clear N10
  have offL : ∀ p ∈ ((L' + 1 + 1 + 1, oI2) :: (f, oF) :: (70, o1') :: (L' + 1 + 1, oA) :: (L' + 1, oD) :: (extra ++ rest) : List (Addr × Obj)), p.1 ≠ l := by
    intro p hp
    rcases List.mem_cons.mp hp with rfl | hp
    · refine neN ?_; omega
    rcases List.mem_cons.mp hp with rfl | hp
    · exact Nat.ne_of_gt (hf (l, listOf (List.replicate K (Value.int 0 tkC)).toArray 0) (by simp))
    rcases List.mem_cons.mp hp with rfl | hp
    · refine neN ?_; omega
    rcases List.mem_cons.mp hp with rfl | hp
    · refine neN ?_; omega
    rcases List.mem_cons.mp hp with rfl | hp
    · refine neN ?_; omega
    rcases List.mem_append.mp hp with hp | hp
    · exact Nat.ne_of_gt (hex p hp (l, listOf (List.replicate K (Value.int 0 tkC)).toArray 0) (by simp))
    · have := hrL p hp; refine neN ?_; omega
  obtain ⟨M, hM⟩ : ∃ M, M = ((L' + 1 + 1 + 1, oI2) :: (f, oF) :: (70, o1') :: (L' + 1 + 1, oA) :: (L' + 1, oD) :: (extra ++ rest) : List (Addr × Obj)) := ⟨_, rfl⟩
  rw [← hM] at N11 offL
  subst hoF
  have hmf := (show _ ∈ M by rw [hM]; exact .tail _ (.head _))
  have hmI := (show (L' + 1 + 1 + 1, oI2) ∈ M by rw [hM]; exact .head _)
  have hmA := (show (L' + 1 + 1, oA) ∈ M by rw [hM]; simp)
  have hmN := (show (L' + 1, oD) ∈ M by rw [hM]; simp)
  have hmc : (c', oc) ∈ M := by rw [hM]; rcases List.mem_append.mp hc with h | h <;> simp [h, hR0]
  have key : ∀ (k xx : Nat) (Lo Hi : Int) (tx tL tR : Tok) (vs : List Value) (ns : List Int), IntsAre vs ns → ns.length = K → 0 ≤ Lo → Hi - Lo = k + 1 → Hi ≤ K → xx < 2 ^ (nn * (k + 1)) →
      Does w loose mean mg mb f [.int xx tx, .int Lo tL, .int Hi tR] ((l, listOf vs.toArray 0) :: M) (k + 2) (8 * k + 16) (fun v news' => v = .none ∧ ∃ vs', IntsAre vs' (ns.take Lo.toNat ++ dig nn xx (k + 1) ++ ns.drop Hi.toNat) ∧ news' = (l, listOf vs'.toArray 0) :: M) := by
    intro k
    induction k using Nat.strongRecOn with
    | ind k ih =>
      intro xx Lo Hi tx tL tR vs ns hi hlen hLo hHi hHn hxx
      clear hB hF hX hN hT hret F6 N11
      intro dp un gd cn cs a ccd cl outer A₀ base h₀ L m s Q E hB hF hX hN hT hk hd hu hret
      have hCH2 : CodeHd h₀ 74 70 := codeHd_of_K hX (by kernel_rfl)
      have memA : ∀ o, (L' + 1 + 1, oA) ∈ (l, o) :: M := fun _ => .tail _ hmA
      have memI : ∀ o, (L' + 1 + 1 + 1, oI2) ∈ (l, o) :: M := fun _ => .tail _ hmI
      have memN : ∀ o, (L' + 1, oD) ∈ (l, o) :: M := fun _ => .tail _ hmN
      have memA1 := memA (listOf vs.toArray 0)
      have memI1 := memI (listOf vs.toArray 0)
      have memN1 := memN (listOf vs.toArray 0)
      have memF1 : _ ∈ (l, listOf vs.toArray 0) :: M := .tail _ hmf
      refine wpAny_call ?_
      k_dflt (refine' code_nest hB hF hX hN hT ?kA ?kF ?kK (.tail _ hmf) (codeRec_news hN (.tail _ hmc) hd2 hv2) ?k8 ?k9 ?kB ?_ ?c2 ?c3 ?c4 ?c5; (case kA => exact rfl); (case kF => exact rfl); (case kK => exact hk); (case k8 => exact Nat.lt_of_le_of_lt (Nat.le_add_right _ _) hd); (case k9 => exact BindsTo.of_eq rfl); (case c5 => decide); (case kB => exact locs rfl); (case c2 => exact rfl); (case c3 => exact rfl); (case c4 => exact rfl))
      intro g2 L2 h7 FG2 F7 N12 B2 X2 T2
      (try dsimp only)
      (try k_fold)
      k_steps
      refine Stop.mk ?_
      refine ite_split (fun hc1 => ?_) (fun hc1 => ?_)
      · have hk0 : k = 0 := by have := eq_of_beq hc1; omega
        subst hk0
        k_steps
        refine Stop.mk ?_
        refine ksa_set (by assumption) (by assumption) (Upd.head offL) hi hLo (by omega) (by omega) ?_
        intro h8 F8 N13 hi2 _ _
        k_steps
        exact hret _ _ _ _ ⟨rfl, _, by rw [dig_one hxx, ← set_split hLo hHi (by omega)]; exact hi2, rfl⟩ (by assumption) (by assumption)
      · have hk0 : k ≠ 0 := by intro e; apply hc1; rw [beq_iff_eq]; omega
        k_steps
        refine Stop.mk ?_
        refine rshift_int (by decide) ?_
        have hmid : (Lo + Hi).fdiv (2 ^ (1 : Int).toNat) = (Lo + Hi) / 2 := Int.fdiv_eq_ediv_of_nonneg _ (by decide)
        rw [hmid]
        obtain ⟨mid, hmd⟩ : ∃ mid, mid = (Lo + Hi) / 2 := ⟨_, rfl⟩
        rw [← hmd]
        have hm1 : Lo < mid := by omega
        have hm2 : mid < Hi := by omega
        k_steps
        refine Stop.mk ?_
        refine mul_int ?_ (IntMulOk.of_right (by rcases hn with rfl | rfl <;> decide))
        obtain ⟨k1, hk1⟩ : ∃ k1 : Nat, Hi - mid = (k1 : Int) + 1 := ⟨(Hi - mid - 1).toNat, by omega⟩
        obtain ⟨k2, hk2⟩ : ∃ k2 : Nat, mid - Lo = (k2 : Int) + 1 := ⟨(mid - Lo - 1).toNat, by omega⟩
        k_steps
        refine Stop.mk ?_
        refine rshift_int (by rcases hn with rfl | rfl <;> omega) ?_
        have esh : ((mid - Lo) * (nn : Int)).toNat = nn * (k2 + 1) := by
          rw [hk2]
          rcases hn with rfl | rfl
          · simp only [Int.natCast_one]; omega
          · omega
        have eup : (xx : Int).fdiv (2 ^ ((mid - Lo) * (nn : Int)).toNat) = ((xx / 2 ^ (nn * (k2 + 1)) : Nat) : Int) := by
          rw [esh, Int.fdiv_eq_ediv_of_nonneg _ (Int.pow_nonneg (by decide))]
          norm_cast
        rw [eup]
        have hsp : nn * (k + 1) = nn * (k2 + 1) + nn * (k1 + 1) := by rw [← Nat.mul_add]; congr 1; omega
        have hupb : xx / 2 ^ (nn * (k2 + 1)) < 2 ^ (nn * (k1 + 1)) := by
          rw [hsp, Nat.pow_add] at hxx
          exact Nat.div_lt_of_lt_mul hxx
        obtain ⟨up, hup⟩ : ∃ up, up = xx / 2 ^ (nn * (k2 + 1)) := ⟨_, rfl⟩
        rw [← hup] at hupb ⊢
        have hup64 : up < 2 ^ 64 := Nat.lt_of_lt_of_le hupb (Nat.pow_le_pow_right (by decide) (Nat.le_trans (Nat.mul_le_mul_left nn (show k1 + 1 ≤ K by omega)) (by omega)))
        k_steps
        refine Stop.mk ?_
        refine lshift_int_small (by rcases hn with rfl | rfl <;> omega) (by rcases hn with rfl | rfl <;> omega) (by rw [Int.natAbs_natCast]; exact hup64) ?_
        have esl : (up : Int) * 2 ^ ((mid - Lo) * (nn : Int)).toNat = ((xx / 2 ^ (nn * (k2 + 1)) * 2 ^ (nn * (k2 + 1)) : Nat) : Int) := by
          rw [esh, hup]; push_cast; rfl
        rw [esl]
        k_steps
        refine Stop.mk ?_
        refine xor_int ?_
        rw [xor_low]
        have hlob : xx % 2 ^ (nn * (k2 + 1)) < 2 ^ (nn * (k2 + 1)) := Nat.mod_lt _ (Nat.two_pow_pos _)
        k_steps
        refine Stop.mk ?_
        k_dflt (refine' Does.use (ih k2 (by omega) (xx % 2 ^ (nn * (k2 + 1))) Lo mid _ _ _ vs ns hi hlen hLo hk2 (by omega) hlob) ?k1 ?k2 ?k3 ?k4 ?k5 ?kK ?kd ?ku ?_; (case k1 => exact B2); (case k2 => assumption); (case k3 => exact X2); (case k4 => assumption); (case k5 => exact T2); (case kK => exact rfl); (case kd => ((try dsimp only [Around.deeper]); omega)); (case ku => ((try dsimp only [Around.deeper]); omega)))
        rintro v9 n9 h9 tk9 ⟨rfl, vs3, hi3, rfl⟩ F9 N9
        have memA2 := memA (listOf vs3.toArray 0)
        have memI2 := memI (listOf vs3.toArray 0)
        have memN2 := memN (listOf vs3.toArray 0)
        have memF2 : _ ∈ (l, listOf vs3.toArray 0) :: M := .tail _ hmf
        clear memA1 memI1 memN1 memF1
        (try dsimp only)
        k_steps
        refine Stop.mk ?_
        k_dflt (refine' Does.use (ih k1 (by omega) up mid Hi _ _ _ vs3 _ hi3 (by simp only [List.length_append, List.length_take, List.length_drop, dig_len]; omega) (by omega) hk1 hHn hupb) ?k1 ?k2 ?k3 ?k4 ?k5 ?kK ?kd ?ku ?_; (case k1 => exact B2); (case k2 => assumption); (case k3 => exact X2); (case k4 => assumption); (case k5 => exact T2); (case kK => exact rfl); (case kd => ((try dsimp only [Around.deeper]); omega)); (case ku => ((try dsimp only [Around.deeper]); omega)))
        rintro v8 n8 h8 tk8 ⟨rfl, vs4, hi4, rfl⟩ F8 N8
        (try dsimp only)
        k_steps
        refine hret _ _ _ _ ⟨rfl, vs4, ?_, rfl⟩ (by assumption) (by assumption)
        have e5 : k + 1 = (k2 + 1) + (k1 + 1) := by omega
        rw [two_split (by omega) (by omega) (by omega) (by rw [dig_len]; omega)] at hi4
        rw [e5, dig_add, ← hup]
        exact hi4
  replace key := Hidden.mk key
  have hexl : ∀ p ∈ extra, ∀ q ∈ (70, o1) :: rest, q.1 < p.1 := fun p hp q hq => hex p hp q (by
    rcases List.mem_cons.mp hq with rfl | hq
    · exact .head _
    · exact .tail _ (.tail _ (.tail _ (.tail _ (.tail _ hq)))))
  have hdl : ∀ q ∈ (70, o1) :: rest, q.1 < l := fun q hq => hlt q (by
    rcases List.mem_cons.mp hq with rfl | hq
    · simp
    · simp [hq])
  have hedl : ∀ p ∈ extra, p.1 ≠ l := fun p hp => Nat.ne_of_gt (hex p hp (l, listOf (List.replicate K (Value.int 0 tkC)).toArray 0) (by simp))
  have hsubM : ∀ o : Obj, ∀ p ∈ (l, o) :: (70, o1') :: (extra ++ rest), p ∈ (l, o) :: M := by
    intro o p hp
    rw [hM]
    simp only [List.mem_append, List.mem_cons] at hp ⊢
    grind
  have hCH : CodeHd g' 74 70 := codeHd_of_K X' (by kernel_rfl)
  have memA : ∀ o, (L' + 1 + 1, oA) ∈ (l, o) :: M := fun _ => .tail _ hmA
  have memI : ∀ o, (L' + 1 + 1 + 1, oI2) ∈ (l, o) :: M := fun _ => .tail _ hmI
  have memA1 := memA (listOf (List.replicate K (Value.int 0 tkC)).toArray 0)
  have memI1 := memI (listOf (List.replicate K (Value.int 0 tkC)).toArray 0)
  have memF1 : _ ∈ (l, listOf (List.replicate K (Value.int 0 tkC)).toArray 0) :: M := .tail _ hmf
  k_steps
  refine Stop.mk ?_
  refine ite_split (fun hc1 => ?_) (fun hc1 => ?_)
  · have hx0 : 0 < x := by
      rcases Nat.eq_zero_or_pos x with e | e
      · rw [e] at hc1; exact absurd hc1 (by decide)
      · exact e
    have hKp := hK0 hx0
    k_steps
    refine Stop.mk ?_
    refine len_list (News.isList (by assumption) (.head _)) (by rw [List.size_toArray, List.length_replicate]; omega) ?_
    rw [List.size_toArray, List.length_replicate]
    k_steps
    refine Stop.mk ?_
    k_dflt (refine' Does.use (key.out (K - 1) x 0 K _ _ _ _ _ hI0 (List.length_replicate ..) (by omega) (by omega) (by omega) (by rw [show K - 1 + 1 = K by omega]; exact hx)) ?k1 ?k2 ?k3 ?k4 ?k5 ?kK ?kd ?ku ?_; (case k1 => exact B'); (case k2 => assumption); (case k3 => exact X'); (case k4 => assumption); (case k5 => exact T'); (case kK => exact rfl); (case kd => ((try dsimp only [Around.deeper]); omega)); (case ku => ((try dsimp only [Around.deeper]); omega)))
    rintro v9 n9 h9 tk9 ⟨rfl, vs3, hi3, rfl⟩ F9 N9
    have memA2 := memA (listOf vs3.toArray 0)
    clear memA1 memI1 memF1
    (try dsimp only)
    k_steps
    have hi4 : IntsAre vs3 (dig nn x K) := by
      rw [Int.toNat_zero, List.take_zero, List.nil_append, show K - 1 + 1 = K by omega, List.drop_eq_nil_of_le (by rw [List.length_replicate]; omega), List.append_nil] at hi3
      exact hi3
    exact RetTabL.fin hret (by assumption) (by assumption) hi4 hTF hexl hdl hedl (hsubM _)
  · have hx0 : x = 0 := by
      rcases Nat.eq_zero_or_pos x with e | e
      · exact e
      · exact absurd (by simp; omega) hc1
    k_steps
    exact RetTabL.fin hret (by assumption) (by assumption) (by rw [hx0, dig_zero]; exact hI0) hTF hexl hdl hedl (hsubM _)
end Mine
end -- W8

section -- Ls
open PySem PySem.W PyProof.Rows PySem.Calls
set_option maxRecDepth 100000
namespace Mine
section
variable {prog : Program} {w : World} {A : Around} {E : Value → Shared → Prop} {s : Shared} {env : Env} {h₀ : Heap}
/-- a for over a list of the ledger, any target that is no tuple; nothing raises -/
theorem list_for {m₀ : Str → Option Value} {n₀ : List (Addr × Obj)} {l : Addr} {oL : Obj} {vs : List Value} {target : Expr} {body : List Stmt} {Q : Flow → Shared → Prop}
    (hh : A.handled = none) (htg : ∀ it v, letOwnedTupleGo target it v = pure ())
    (hl : ∀ h : Heap, h.get? l = some oL → h.IsList l vs.toArray)
    (F : Fr h₀ env.locals s.heap m₀) (N : News h₀ env.locals s.heap n₀) (hm : (l, oL) ∈ n₀)
    (J : Nat → (Str → Option Value) → List (Addr × Obj) → Prop) (hJ0 : J 0 m₀ n₀) (hJl : ∀ i m n, J i m n → (l, oL) ∈ n)
    (turn : ∀ i v m n h tk I oI, vs[i]? = some v → J i m n → (∀ p ∈ n₀, p.1 < I) → (∀ p ∈ n, p.1 ≠ I) → Fr h₀ env.locals h m → News h₀ env.locals h ((I, oI) :: n) →
      wpAny (model prog w) A (assign target env v) (fun _ s₂ => wpAny (model prog w) A (execs body env) (fun f s₃ => match f with
        | .next | .cont => ∃ h' tk' m' n', s₃ = { s with heap := h', toks := tk' } ∧ Fr h₀ env.locals h' m' ∧ News h₀ env.locals h' ((I, oI) :: n') ∧ (∀ p ∈ n', p.1 ≠ I) ∧ J (i + 1) m' n'
        | .brk => Q .next s₃
        | .ret v => Q (.ret v) s₃) (fun _ _ => False) s₂) (fun _ _ => False) { s with heap := h, toks := tk })
    (done : ∀ m n h tk, J vs.length m n → Fr h₀ env.locals h m → News h₀ env.locals h n → Q .next { s with heap := h, toks := tk }) :
    wpAny (model prog w) A (pyIter (.ref l)) (fun it s₂ => codeAny (model prog w) A (.forLoop target it body [] env) (fun r s' => match r with | .ok f => Q f s' | .error e => cameBackBy (model prog w) A env (fun _ _ => False) e s') s₂) (fun _ _ => False) s := by
  have hlS := hl _ (N _ hm).1
  refine wpAny_pyIter_list hlS ?_
  have hLI : env.locals ≠ s.heap.objs.size := Nat.ne_of_lt F.ns.lt
  have hNI : ∀ p ∈ n₀, p.1 < s.heap.objs.size := fun p hp => Heap.lt_size (N p hp).1
  have hIn : h₀.get? s.heap.objs.size = none := next_is_new F
  have grow : ∀ (H H' : Heap) (m : Str → Option Value) (n : List (Addr × Obj)), Heap.ExtBut s.heap.objs.size H H' → (∀ p ∈ n, p.1 ≠ s.heap.objs.size) → Fr h₀ env.locals H m → News h₀ env.locals H n → Fr h₀ env.locals H' m ∧ News h₀ env.locals H' n := fun H H' m n hx hn F' N' =>
    ⟨⟨F'.ns.at' fun o e => hx _ o hLI e, fun b o e => hx b o (fun q => by rw [q, hIn] at e; cases e) (F'.keep b o e), F'.above⟩, fun p hp => ⟨hx _ _ (hn p hp) (N' p hp).1, (N' p hp).2⟩⟩
  refine codeAny_forLoop_any (fun k s' => ∃ h tk m n i, s' = { s with heap := h, toks := tk } ∧ i ≤ vs.length ∧ k = vs.length + 1 - i ∧ h.IsListIter s.heap.objs.size l i ∧ Fr h₀ env.locals h m ∧ News h₀ env.locals h n ∧ (∀ p ∈ n, p.1 ≠ s.heap.objs.size) ∧ J i m n) ?_ (vs.length + 1)
    ⟨_, s.toks, m₀, n₀, 0, rfl, Nat.zero_le _, rfl, ⟨_, Heap.get?_push_size _ rfl, rfl, rfl⟩, F.push _, N.pushKeep _, fun p hp => Nat.ne_of_lt (hNI p hp), hJ0⟩
  rintro k s' ⟨h, tk, m, n, i, rfl, hi, rfl, hti, F', N', hoff, hJ⟩
  have hlb : h.IsList l vs.toArray := hl _ (N' _ (hJl _ _ _ hJ)).1
  by_cases hlt : i < vs.length
  · obtain ⟨v, hv⟩ : ∃ v, vs[i]? = some v := ⟨vs[i], List.getElem?_eq_getElem hlt⟩
    refine wpAny_pyNext_list_item hti hlb (x := v) (by simpa using hv) fun h₁ hti₁ hs₁ => ?_
    obtain ⟨F₁, N₁⟩ := grow h h₁ m n hs₁.extBut hoff F' N'
    refine wpAny_of_eq (htg _ _) ?_
    obtain ⟨oI, hoI, hcI, hdI⟩ := hti₁
    have N₂ : News h₀ env.locals h₁ ((s.heap.objs.size, oI) :: n) := fun p hp => by
      rcases List.mem_cons.mp hp with rfl | hp
      · exact ⟨hoI, Ne.symm hLI, hIn⟩
      · exact N₁ p hp
    refine wpAny_mono (turn i v m n h₁ _ s.heap.objs.size oI hv hJ hNI hoff F₁ N₂) (fun _ s₂ h₂ => wpAny_mono h₂ (fun f s₃ hf => ?_) fun _ _ q => q.elim) fun _ _ q => q.elim
    have nx : (∃ h' tk' m' n', s₃ = { s with heap := h', toks := tk' } ∧ Fr h₀ env.locals h' m' ∧ News h₀ env.locals h' ((s.heap.objs.size, oI) :: n') ∧ (∀ p ∈ n', p.1 ≠ s.heap.objs.size) ∧ J (i + 1) m' n') →
        ∃ k', k' < vs.length + 1 - i ∧ ∃ h tk m n i, s₃ = { s with heap := h, toks := tk } ∧ i ≤ vs.length ∧ k' = vs.length + 1 - i ∧ h.IsListIter s.heap.objs.size l i ∧ Fr h₀ env.locals h m ∧ News h₀ env.locals h n ∧ (∀ p ∈ n, p.1 ≠ s.heap.objs.size) ∧ J i m n := by
      rintro ⟨h', tk', m', n', rfl, F6, N6, o6, J6⟩
      exact ⟨vs.length + 1 - (i + 1), by omega, h', tk', m', n', i + 1, rfl, hlt, rfl, ⟨oI, (N6 _ (.head _)).1, hcI, hdI⟩, F6, fun p hp => N6 p (.tail _ hp), o6, J6⟩
    cases f with
    | next => exact nx hf
    | cont => exact nx hf
    | brk => exact hf
    | ret v => exact hf
  · have hi' : i = vs.length := by omega
    subst hi'
    refine wpAny_pyNext_list_end hh hti hlb (by simp) fun h₁ hx₁ => ?_
    obtain ⟨F₁, N₁⟩ := grow h h₁ m n hx₁ hoff F' N'
    exact wpAny_execs_nil (done m n h₁ tk hJ F₁ N₁)
end
end Mine
end -- Ls

section -- Lw
open PySem PySem.W PyProof.Rows PySem.Calls
namespace Mine
def lawParts : List Stmt × Scope := match PySem.Challenge.pw_op0053_01.main.body.getLast? with
  | some (.FunctionDef _ _ b _ _ _ sc _ _ _) => (b, sc)
  | _ => ([], { kind := .function, names := [], isGenerator := false, isCoroutine := false })
def lawScope : Scope := lawParts.2
def lawBody : List Stmt := match lawParts.1 with
  | [_, _, _, .For _ _ b _ _, _] => b
  | _ => []
def lawTarget : Expr := match lawParts.1 with
  | [_, _, _, .For t _ _ _ _, _] => t
  | _ => .Name "x" ⟨0, 0, 0, 0⟩
def Far (L a : Addr) : Prop := a ≠ 70 ∧ a ≠ 77 ∧ a ≠ L + 1 + 1 ∧ a ≠ L + 1 + 1 + 1
theorem Far.of_lt {L a : Addr} (hL : @LT.lt Nat _ 77 L) (h : @LT.lt Nat _ (L + 1 + 1 + 1) a) : Far L a :=
  ⟨neN (by omega), neN (by omega), neN (by omega), neN (by omega)⟩
structure LawJ (L l : Addr) (oL : Obj) (Ab T : Int) (ta tt : Tok) (X : Nat → Str) (i : Nat) (m : Str → Option Value) (n : List (Addr × Obj)) : Prop where
  above : m "above" = some (.int Ab ta)
  turn : m "turn" = some (.int T tt)
  text : ∃ tx, m "text" = some (.str (X i) tx)
  led : ∃ oD oT o1 o2 R vT vD, n = (L + 1 + 1 + 1, oD) :: (L + 1 + 1, oT) :: (77, o1) :: (70, o2) :: (l, oL) :: R ∧ oT.data = .cell vT ∧ oD.data = .cell vD ∧ TabOk posD qD o1 R ∧ TabOk posI qI o2 R ∧ ∀ p ∈ R, Far L p.1
end Mine
end -- Lw

section -- Q1
open PySem PySem.W PyProof.Rows PySem.Calls
namespace Mine
theorem bits_facts {x : Nat} (hx : x < 4096) : ∃ K : Nat, K = Builtin.Int.intBits x ∧ K ≤ 12 ∧ (0 < x → 0 < K) ∧ x < 2 ^ (1 * K) ∧ ((Builtin.Int.intBits x : Int) + ((1 : Nat) : Int) - 1).fdiv ((1 : Nat) : Int) = K ∧ ∀ k : Nat, 2 ^ k ≤ x ↔ k < K := by
  by_cases h0 : x = 0
  · subst h0
    refine ⟨0, rfl, by omega, by omega, by decide, by decide, ?_⟩
    intro k
    have : 0 < 2 ^ k := Nat.pow_pos (by omega)
    omega
  · have e : Builtin.Int.intBits x = Nat.log2 x + 1 := by
      unfold Builtin.Int.intBits
      rw [if_neg (by intro q; have := eq_of_beq q; omega), Int.natAbs_natCast]
    refine ⟨Nat.log2 x + 1, e.symm, ?_, ?_, ?_, ?_, ?_⟩
    · have := (Nat.log2_lt h0 (k := 12)).mpr hx; omega
    · omega
    · rw [Nat.one_mul]; exact Nat.lt_log2_self
    · rw [e]
      show ((Nat.log2 x + 1 : Nat) + 1 - 1 : Int).fdiv 1 = _
      rw [Int.fdiv_one]; omega
    · intro k
      have := Nat.le_log2 h0 (k := k)
      omega
theorem rangeKs_12 : rangeKs 0 12 = [0,1,2,3,4,5,6,7,8,9,10,11] := by decide
theorem comp12 {x K : Nat} (hK : K ≤ 12) (h : ∀ k : Nat, 2 ^ k ≤ x ↔ k < K) : (List.foldl (fun (l : List Int) k => if (2:Int) ^ k.toNat ≤ (x : Int) then l ++ [k] else l) [] (rangeKs 0 12)).length = K := by
  have h1 : ∀ k : Int, (2:Int) ^ k.toNat ≤ (x : Int) ↔ k.toNat < K := by
    intro k
    rw [← h k.toNat, ← Int.ofNat_le]
    simp
  have h2 : ∀ k ∈ List.range 13, (List.foldl (fun (l : List Int) j => if j.toNat < k then l ++ [j] else l) [] (rangeKs 0 12)).length = k := by decide
  simp only [h1]
  exact h2 K (by simp; omega)
theorem dig_take (n x : Nat) {K m : Nat} (h : K ≤ m) : (dig n x m).take K = dig n x K := by
  unfold dig
  rw [← List.map_take, List.take_range, Nat.min_eq_left h]
theorem foldl_same {α β : Type} (b : β) (l : List α) : l.foldl (fun a _ => a) b = b := by
  induction l with
  | nil => rfl
  | cons _ _ ih => exact ih
theorem flat_zero (n : Nat) : (List.replicate n [(0 : Int)]).flatten = List.replicate n 0 := by
  induction n with
  | zero => rfl
  | succ n ih => rw [List.replicate_succ, List.flatten_cons, ih]; rfl
theorem dig_zeros (n k : Nat) : dig n 0 k = List.replicate k 0 := by
  unfold dig
  refine List.ext_getElem (by simp) ?_
  intro i h1 h2
  simp
theorem dig_pad {x K : Nat} (hx : x < 2 ^ (1 * K)) (hK : K ≤ 12) : dig 1 x K ++ (List.replicate (13 - (K : Int)).toNat [(0 : Int)]).flatten = dig 1 x 13 := by
  have e : 13 = K + (13 - (K : Int)).toNat := by omega
  rw [flat_zero]
  conv => rhs; rw [e, dig_add, Nat.mod_eq_of_lt hx, Nat.div_eq_of_lt hx, dig_zeros]
end Mine
end -- Q1

section -- Q2
open PySem PySem.W PyProof.Rows PySem.Calls
set_option maxRecDepth 100000
namespace Mine
def codeF (x : Nat) : List Int := List.map (fun k : Int => Builtin.bitXor ((dig 1 x 13).getD k.toNat 0) ((dig 1 x 13).getD (k + 1).toNat 0)) (rangeKs 0 12)
structure TurnOk (X : Nat → Str) (i x p rt ab : Nat) (T : Int) : Prop where
  hab : ab < 4096
  hrt : rt < 4096
  hp : p < 13
  hcb : ∀ c ∈ codeF x, 0 ≤ c ∧ c < 2
  hr : valF 1 ((codeF x).drop T.toNat ++ (codeF x).take T.toNat) = rt
  hcells : Txt.join "" (cells ((rt + 4096 * ab : Nat) : Int)) = X i
  hdig : dig 12 (2 ^ 24 + (rt + 4096 * ab)) 3 = [(rt : Int), (ab : Int), 1]
  hm1 : Builtin.bitAnd ((rt + 4096 * ab : Nat) : Int) 4095 = rt
  hm2 : Builtin.bitAnd ((rt + 4096 * ab : Nat) : Int) 61440 = (ab : Int).fmod 16 * 4096
  hlay : PyData.layable0 (.list ((dig 1 x 13).map .int)) = true
  h0m : (0 : Int) ∈ dig 1 x 13
  hpp : (dig 1 x 13).idxOf 0 = p
  hnext : turnedF (X i) ((min (p : Int) 11 - T).fmod 12) = X (i + 1)
def gray (x k : Nat) : Bool := x.testBit k ^^ x.testBit (k + 1)
theorem bit_mod (x k : Nat) : x / 2 ^ k % 2 = (x.testBit k).toNat := by
  rw [Nat.testBit_eq_decide_div_mod_eq]
  by_cases h : x / 2 ^ k % 2 = 1
  · simp [h]
  · have : x / 2 ^ k % 2 = 0 := by omega
    simp [this]
theorem fdiv_pow (x n : Nat) : (x : Int).fdiv (2 ^ n) = ((x / 2 ^ n : Nat) : Int) := by
  rw [Int.fdiv_eq_ediv_of_nonneg _ (Int.le_of_lt (Int.pow_pos (by decide)))]
  simp
theorem gB_eq (x n : Nat) : gB (x : Int) n = gray x n := by
  have h1 := bit_mod x n
  have h2 := bit_mod x (n + 1)
  rw [Nat.pow_succ, ← Nat.div_div_eq_div_mul] at h2
  unfold gB gray
  rw [fdiv_pow, Int.fdiv_eq_ediv_of_nonneg _ (by decide), Int.fmod_eq_emod_of_nonneg _ (by decide)]
  generalize x / 2 ^ n = y at *
  cases h3 : x.testBit n <;> cases h4 : x.testBit (n + 1) <;> simp [h3, h4] at h1 h2 <;> simp <;> omega
theorem rowBits_eq (x : Nat) (T : Int) (hT0 : 0 ≤ T) (hT1 : T < 12) : ∀ n ≤ 12, ∀ j < 12, rowBits (x : Int) T n j = (decide ((j + T.toNat) % 12 < n) && gray x ((j + T.toNat) % 12))
  | 0, _, j, _ => by simp [rowBits]
  | n + 1, hn, j, hj => by
    have ih := rowBits_eq x T hT0 hT1 n (by omega) j hj
    have hq0 : (((n : Int) - T).fmod 12).toNat = (n + 12 - T.toNat) % 12 := by
      rw [Int.fmod_eq_emod_of_nonneg _ (by decide)]; omega
    rw [rowBits, gB_eq]
    by_cases hj2 : j = (n + 12 - T.toNat) % 12
    · have e : (j + T.toNat) % 12 = n := by omega
      rw [e] at ih ⊢
      cases hg : gray x n
      · simp [ih, hg]
      · simp [hq0, flipB, hj2.symm, ih]
    · have e : (j + T.toNat) % 12 ≠ n := by omega
      have e2 : ((j + T.toNat) % 12 < n + 1) ↔ ((j + T.toNat) % 12 < n) := by omega
      split
      · simp [flipB, hq0, hj2, ih, e2]
      · simp [ih, e2]
theorem Row_congr (c : Nat) {r r' : Nat → Bool} (h : ∀ j < 12, r j = r' j) : Row c r = Row c r' := by
  simp [Row, h]
theorem row_bits (x : Nat) (K T : Int) (hT0 : 0 ≤ T) (hT1 : T < 12) : rowP (x : Int) K T 12 = Row (kch K) (fun j => gray x ((j + T.toNat) % 12)) := by
  refine Row_congr _ fun j hj => ?_
  rw [rowBits_eq x T hT0 hT1 12 (Nat.le_refl _) j hj]
  have : (j + T.toNat) % 12 < 12 := Nat.mod_lt _ (by decide)
  simp [this]
/- dig and the code -/
theorem dig_bits (x k : Nat) : dig 1 x k = (List.range k).map fun i => ((x.testBit i).toNat : Int) := by
  unfold dig
  refine List.map_congr_left fun i _ => ?_
  rw [Nat.one_mul, Nat.pow_one, bit_mod]
theorem dig_getD (x : Nat) {k i : Nat} (h : i < k) : (dig 1 x k).getD i 0 = ((x.testBit i).toNat : Int) := by
  rw [dig_bits, List.getD_eq_getElem?_getD, List.getElem?_map, List.getElem?_range h]; rfl
theorem xor_bits (a b : Bool) : Builtin.bitXor (a.toNat : Int) (b.toNat : Int) = ((a ^^ b).toNat : Int) := by
  cases a <;> cases b <;> decide
theorem code_eq (x : Nat) : codeF x = (List.range 12).map fun i => ((gray x i).toNat : Int) := by
  have h : ∀ i : Nat, i < 12 → Builtin.bitXor ((dig 1 x 13).getD (i : Int).toNat 0) ((dig 1 x 13).getD ((i : Int) + 1).toNat 0) = ((gray x i).toNat : Int) := by
    intro i hi
    have e : ((i : Int) + 1).toNat = i + 1 := by omega
    rw [Int.toNat_natCast, e, dig_getD x (by omega), dig_getD x (by omega), xor_bits]
    rfl
  unfold codeF
  rw [rangeKs_12]
  simp only [List.map_cons, List.map_nil, show List.range 12 = [0,1,2,3,4,5,6,7,8,9,10,11] by decide]
  have h0 := h 0 (by decide); have h1 := h 1 (by decide); have h2 := h 2 (by decide); have h3 := h 3 (by decide)
  have h4 := h 4 (by decide); have h5 := h 5 (by decide); have h6 := h 6 (by decide); have h7 := h 7 (by decide)
  have h8 := h 8 (by decide); have h9 := h 9 (by decide); have h10 := h 10 (by decide); have h11 := h 11 (by decide)
  simp only [Int.cast_ofNat_Int] at h0 h1 h2 h3 h4 h5 h6 h7 h8 h9 h10 h11
  rw [h0, h1, h2, h3, h4, h5, h6, h7, h8, h9, h10, h11]
noncomputable def natOf : List Bool → Nat
  | [] => 0
  | b :: r => b.toNat + 2 * natOf r
theorem natOf_val : ∀ bs : List Bool, valF 1 (bs.map fun b => (b.toNat : Int)) = (natOf bs : Int)
  | [] => rfl
  | b :: r => by
    rw [List.map_cons, valF, natOf_val r, natOf]
    simp
theorem natOf_lt : ∀ bs : List Bool, natOf bs < 2 ^ bs.length
  | [] => by simp [natOf]
  | b :: r => by
    have := natOf_lt r
    have := Bool.toNat_le b
    rw [natOf, List.length_cons, Nat.pow_succ]; omega
theorem natOf_bit : ∀ (bs : List Bool) (j : Nat), (natOf bs).testBit j = bs.getD j false
  | [], j => by simp [natOf]
  | b :: r, 0 => by
    rw [natOf, Nat.testBit_zero]
    cases b <;> simp <;> omega
  | b :: r, j + 1 => by
    have e : (b.toNat + 2 * natOf r) / 2 = natOf r := by have := Bool.toNat_le b; cases b <;> simp <;> omega
    rw [natOf, Nat.testBit_succ, e, natOf_bit r j]
    simp
noncomputable def rights (x : Nat) (t : Nat) : Nat := natOf (((List.range 12).map (gray x)).drop t ++ ((List.range 12).map (gray x)).take t)
theorem rights_val (x t : Nat) : valF 1 ((codeF x).drop t ++ (codeF x).take t) = (rights x t : Int) := by
  unfold rights
  rw [← natOf_val, code_eq, List.map_append, List.map_drop, List.map_take, List.map_map]
  rfl
theorem rights_bit (x : Nat) {t j : Nat} (ht : t < 12) (hj : j < 12) : (rights x t).testBit j = gray x ((j + t) % 12) := by
  unfold rights
  rw [natOf_bit]
  generalize hg : gray x = g
  rw [show List.range 12 = [0,1,2,3,4,5,6,7,8,9,10,11] by decide]
  have h1 : t = 0 ∨ t = 1 ∨ t = 2 ∨ t = 3 ∨ t = 4 ∨ t = 5 ∨ t = 6 ∨ t = 7 ∨ t = 8 ∨ t = 9 ∨ t = 10 ∨ t = 11 := by omega
  have h2 : j = 0 ∨ j = 1 ∨ j = 2 ∨ j = 3 ∨ j = 4 ∨ j = 5 ∨ j = 6 ∨ j = 7 ∨ j = 8 ∨ j = 9 ∨ j = 10 ∨ j = 11 := by omega
  rcases h1 with e | e | e | e | e | e | e | e | e | e | e | e <;> subst e <;>
    rcases h2 with e | e | e | e | e | e | e | e | e | e | e | e <;> subst e <;> rfl
theorem rights_lt (x : Nat) {t : Nat} (ht : t < 12) : rights x t < 4096 := by
  have := natOf_lt (((List.range 12).map (gray x)).drop t ++ ((List.range 12).map (gray x)).take t)
  have e : (((List.range 12).map (gray x)).drop t ++ ((List.range 12).map (gray x)).take t).length = 12 := by simp; omega
  rw [e] at this
  exact this
end Mine
end -- Q2

section -- Q3
open PySem PySem.W PyProof.Rows PySem.Calls
set_option maxRecDepth 100000
namespace Mine
/- the row read back -/
theorem odd_bits {x c : Nat} {T : Int} (hx : x < 4096) (hT0 : 0 ≤ T) (hT1 : T < 12) : ∀ n ≤ 12, oddR (Row c (fun j => gray x ((j + T.toNat) % 12))) T n = ((x.testBit (12 - n)).toNat : Int)
  | 0, _ => by
    have : x.testBit 12 = false := Nat.testBit_lt_two_pow hx
    simp [oddR, this]
  | n + 1, hn => by
    have ih := odd_bits (c := c) hx hT0 hT1 n (by omega)
    have h0 : 0 ≤ ((11 - (n : Int) - T).fmod 12) := Int.fmod_nonneg_of_pos _ (by decide)
    have h1 : ((11 - (n : Int) - T).fmod 12) < 12 := Int.fmod_lt_of_pos _ (by decide)
    have hf := find_mod c (fun j => gray x ((j + T.toNat) % 12)) h0 h1
    have e : (((11 - (n : Int) - T).fmod 12).toNat + T.toNat) % 12 = 11 - n := by
      rw [Int.fmod_eq_emod_of_nonneg _ (by decide)]; omega
    have e2 : 12 - n = 11 - n + 1 := by omega
    have e3 : 12 - (n + 1) = 11 - n := by omega
    rw [oddR, ih, Int.fmod_eq_emod_of_nonneg _ (by decide), Int.add_emod, hf, e, gray, ← e2, e3]
    cases x.testBit (11 - n) <;> cases x.testBit (12 - n) <;> decide
theorem digR_bits {x c : Nat} {T : Int} (hx : x < 4096) (hT0 : 0 ≤ T) (hT1 : T < 12) : ∀ n ≤ 12, digR (Row c (fun j => gray x ((j + T.toNat) % 12))) T n = (List.range n).map fun i => ((x.testBit (12 - n + i)).toNat : Int)
  | 0, _ => rfl
  | n + 1, hn => by
    rw [digR, digR_bits hx hT0 hT1 n (by omega), odd_bits hx hT0 hT1 (n + 1) hn, List.range_succ_eq_map, List.map_cons, List.map_map]
    congr 1
    refine List.map_congr_left fun i hi => ?_
    have e : 11 - n + (i + 1) = 12 - n + i := by omega
    simp [e]
theorem read_back {x c : Nat} {T : Int} (hx : x < 4096) (hT0 : 0 ≤ T) (hT1 : T < 12) : digR (Row c (fun j => gray x ((j + T.toNat) % 12))) T 12 = dig 1 x 12 := by
  rw [digR_bits hx hT0 hT1 12 (Nat.le_refl _), dig_bits]
  simp
/- masks -/
theorem bitAnd_nat (a b : Nat) : Builtin.bitAnd (a : Int) (b : Int) = ((a &&& b : Nat) : Int) := by
  rw [bitAnd_pp (Int.natCast_nonneg _) (Int.natCast_nonneg _), Int.toNat_natCast, Int.toNat_natCast]
theorem mask_low {r a : Nat} (hr : r < 4096) : Builtin.bitAnd ((r + 4096 * a : Nat) : Int) 4095 = r := by
  rw [show (4095 : Int) = ((4095 : Nat) : Int) from rfl, bitAnd_nat]
  have := Nat.and_two_pow_sub_one_eq_mod (r + 4096 * a) 12
  rw [show 2 ^ 12 - 1 = 4095 by decide] at this
  rw [this]; omega
theorem mask_high {r a : Nat} (hr : r < 4096) : (r + 4096 * a) &&& 61440 = a % 16 * 4096 := by
  apply Nat.eq_of_testBit_eq
  intro i
  have e1 : (r + 4096 * a).testBit i = if i < 12 then r.testBit i else a.testBit (i - 12) := by
    rw [Nat.add_comm]; exact Nat.testBit_two_pow_mul_add a (i := 12) hr i
  have e2 : (61440 : Nat) = 2 ^ 12 * (2 ^ 4 - 1) + 0 := by decide
  have e3 : a % 16 * 4096 = 2 ^ 12 * (a % 2 ^ 4) + 0 := by omega
  rw [Nat.testBit_and, e1, e2, e3, Nat.testBit_two_pow_mul_add _ (by decide), Nat.testBit_two_pow_mul_add _ (by decide)]
  split
  · simp
  · rw [Nat.testBit_mod_two_pow, Nat.testBit_two_pow_sub_one, Bool.and_comm]
theorem mask_kind {r a : Nat} (hr : r < 4096) : Builtin.bitAnd ((r + 4096 * a : Nat) : Int) 61440 = (a : Int).fmod 16 * 4096 := by
  rw [show (61440 : Int) = ((61440 : Nat) : Int) from rfl, bitAnd_nat, mask_high hr, Int.fmod_eq_emod_of_nonneg _ (by decide)]
  omega
theorem and_tp (m j : Nat) : m &&& 2 ^ j = (m.testBit j).toNat * 2 ^ j := by
  apply Nat.eq_of_testBit_eq
  intro i
  rw [Nat.testBit_and, Nat.testBit_two_pow]
  by_cases h : j = i
  · subst h; cases m.testBit j <;> simp
  · cases m.testBit j <;> simp [h]
theorem int_beq (a b : Nat) : (((a : Int)) == ((b : Int))) = (a == b) := by
  rw [Bool.eq_iff_iff, beq_iff_eq, beq_iff_eq]; exact Int.ofNat_inj
theorem and_bit (m j : Nat) : (Builtin.bitAnd (m : Int) ((2 ^ j : Nat) : Int) == ((2 ^ j : Nat) : Int)) = m.testBit j := by
  rw [bitAnd_nat, int_beq, and_tp]
  have := Nat.pow_pos (n := j) (show 0 < 2 by decide)
  generalize 2 ^ j = b at *
  cases m.testBit j
  · simp; omega
  · simp
theorem and_bit2 (m j k : Nat) (h : j ≠ k) : (Builtin.bitAnd (m : Int) ((2 ^ j + 2 ^ k : Nat) : Int) == ((2 ^ j + 2 ^ k : Nat) : Int)) = (m.testBit j && m.testBit k) := by
  have e : 2 ^ j + 2 ^ k = 2 ^ j ||| 2 ^ k := by
    apply Nat.eq_of_testBit_eq
    intro i
    rcases Nat.lt_or_gt_of_ne h with h | h
    · rw [Nat.testBit_or]
      have hk : 2 ^ k = 2 ^ (j + 1) * 2 ^ (k - (j + 1)) := by rw [← Nat.pow_add]; congr 1; omega
      rw [Nat.add_comm, hk, Nat.testBit_two_pow_mul_add _ (by rw [Nat.pow_succ]; have := Nat.pow_pos (n := j) (show 0 < 2 by decide); omega), ← hk]
      simp only [Nat.testBit_two_pow]
      split
      · simp; omega
      · have : ¬ j = i := by omega
        simp [this]; omega
    · rw [Nat.testBit_or]
      have hk : 2 ^ j = 2 ^ (k + 1) * 2 ^ (j - (k + 1)) := by rw [← Nat.pow_add]; congr 1; omega
      rw [hk, Nat.testBit_two_pow_mul_add _ (by rw [Nat.pow_succ]; have := Nat.pow_pos (n := k) (show 0 < 2 by decide); omega), ← hk]
      simp only [Nat.testBit_two_pow]
      split
      · simp; omega
      · have : ¬ k = i := by omega
        simp [this]; omega
  have h1 := Nat.pow_pos (n := j) (show 0 < 2 by decide)
  have h2 := Nat.pow_pos (n := k) (show 0 < 2 by decide)
  have e2 : m &&& (2 ^ j + 2 ^ k) = (m.testBit j).toNat * 2 ^ j ||| (m.testBit k).toNat * 2 ^ k := by
    rw [e, Nat.and_or_distrib_left, and_tp, and_tp]
  rw [bitAnd_nat, int_beq, e2]
  generalize 2 ^ j = b at *
  generalize 2 ^ k = c at *
  cases m.testBit j <;> cases m.testBit k <;> simp
  · omega
  · omega
  · omega
  · exact e.symm
/- filemode's row -/
theorem find_kind (a : Nat) : ∃ k, k < 16 ∧ a % 16 = k := ⟨a % 16, Nat.mod_lt _ (by decide), rfl⟩
end Mine
end -- Q3

section -- Q4
open PySem PySem.W PyProof.Rows PySem.Calls
set_option maxRecDepth 100000
namespace Mine
def sg (c : Nat) : Str := ⟨#[c]⟩
theorem testK (m : Int) (b : Int) : testF m 0 b = (Builtin.bitAnd m 61440 == b) := rfl
theorem testB (m j i : Nat) (b : Int) (hb : b = ((2 ^ j : Nat) : Int)) : testF (m : Int) (i + 1) b = m.testBit j := by
  unfold testF
  rw [if_neg (by omega), hb, and_bit]
theorem testB2 (m j k i : Nat) (b : Int) (h : j ≠ k) (hb : b = ((2 ^ j + 2 ^ k : Nat) : Int)) : testF (m : Int) (i + 1) b = (m.testBit j && m.testBit k) := by
  unfold testF
  rw [if_neg (by omega), hb, and_bit2 _ _ _ h]
theorem cell1 (m i : Nat) (a : Addr) (b : Int) (t t' : Tok) (s : Str) (c j : Nat) (hs : s = sg c) (hb : b = ((2 ^ j : Nat) : Int)) : cellF (m : Int) (i + 1) [(a, b, t, s, t')] = sg (bitC (m.testBit j) c) := by
  have hd : ("-" : Str) = sg 45 := by decide +kernel
  unfold cellF
  rw [hs]
  simp only [List.find?, testB m j i b hb]
  cases m.testBit j
  · simp [hd, bitC]
  · simp [bitC]
theorem cell3 (m i : Nat) (a1 a2 a3 : Addr) (b1 b2 b3 : Int) (t1 t2 t3 u1 u2 u3 : Tok) (s1 s2 s3 : Str) (c1 c2 j k : Nat) (hjk : j ≠ k) (h1 : s1 = sg c1) (h2 : s2 = sg c2) (h3 : s3 = sg 120)
    (e1 : b1 = ((2 ^ j + 2 ^ k : Nat) : Int)) (e2 : b2 = ((2 ^ k : Nat) : Int)) (e3 : b3 = ((2 ^ j : Nat) : Int)) :
    cellF (m : Int) (i + 1) [(a1, b1, t1, s1, u1), (a2, b2, t2, s2, u2), (a3, b3, t3, s3, u3)] = sg (xC (m.testBit j) (m.testBit k) c1 c2) := by
  have hd : ("-" : Str) = sg 45 := by decide +kernel
  unfold cellF
  rw [h1, h2, h3]
  simp only [List.find?, testB m j i b3 e3, testB m k i b2 e2, testB2 m j k i b1 hjk e1]
  cases m.testBit j <;> cases m.testBit k <;> simp [hd, xC]
theorem cells_list (m : Int) : cells m = [
    cellF m 0 [(29, 40960, 213, "l", 241), (30, 49152, 215, "s", 242), (31, 32768, 209, "-", 243), (32, 24576, 207, "b", 244), (33, 16384, 203, "d", 245), (34, 8192, 205, "c", 246), (35, 4096, 211, "p", 247)],
    cellF m 1 [(37, 256, 223, "r", 248)], cellF m 2 [(39, 128, 225, "w", 249)], cellF m 3 [(41, 2112, 250, "s", 251), (42, 2048, 217, "S", 252), (43, 64, 227, "x", 253)],
    cellF m 4 [(45, 32, 229, "r", 254)], cellF m 5 [(47, 16, 231, "w", 255)], cellF m 6 [(49, 1032, 256, "s", 257), (50, 1024, 219, "S", 258), (51, 8, 233, "x", 259)],
    cellF m 7 [(53, 4, 235, "r", 260)], cellF m 8 [(55, 2, 237, "w", 261)], cellF m 9 [(57, 513, 262, "t", 263), (58, 512, 221, "T", 264), (59, 1, 239, "x", 265)]] := rfl
theorem cell0 (m : Int) (k : Nat) (hk : k < 16) (hm : Builtin.bitAnd m 61440 = (k : Int) * 4096) :
    cellF m 0 [(29, 40960, 213, "l", 241), (30, 49152, 215, "s", 242), (31, 32768, 209, "-", 243), (32, 24576, 207, "b", 244), (33, 16384, 203, "d", 245), (34, 8192, 205, "c", 246), (35, 4096, 211, "p", 247)] = sg (kch (k : Int)) := by
  unfold cellF
  simp only [testK, hm]
  have h : k = 0 ∨ k = 1 ∨ k = 2 ∨ k = 3 ∨ k = 4 ∨ k = 5 ∨ k = 6 ∨ k = 7 ∨ k = 8 ∨ k = 9 ∨ k = 10 ∨ k = 11 ∨ k = 12 ∨ k = 13 ∨ k = 14 ∨ k = 15 := by omega
  rcases h with e | e | e | e | e | e | e | e | e | e | e | e | e | e | e | e <;> subst e <;> decide +kernel
theorem join10 (a b c d e f g h i j : Nat) : Txt.join "" [sg a, sg b, sg c, sg d, sg e, sg f, sg g, sg h, sg i, sg j] = ⟨#[a, b, c, d, e, f, g, h, i, j]⟩ := by
  have e0 : ("" : Str) = ⟨#[]⟩ := by decide +kernel
  rw [e0]
  rfl
theorem cells_row {r a : Nat} (hr : r < 4096) : Txt.join "" (cells ((r + 4096 * a : Nat) : Int)) = Row (kch ((a : Int).fmod 16)) (fun j => r.testBit j) := by
  have hb : ∀ j < 12, (r + 4096 * a).testBit j = r.testBit j := by
    intro j hj
    have e1 : (r + 4096 * a).testBit j = if j < 12 then r.testBit j else a.testBit (j - 12) := by
      rw [Nat.add_comm]; exact Nat.testBit_two_pow_mul_add a (i := 12) hr j
    rw [e1, if_pos hj]
  have hk : (a : Int).fmod 16 = ((a % 16 : Nat) : Int) := by rw [Int.fmod_eq_emod_of_nonneg _ (by decide)]; omega
  have c0 := cell0 _ (a % 16) (Nat.mod_lt _ (by decide)) (by rw [mask_kind hr, hk])
  rw [cells_list, hk, c0,
    cell1 _ 0 _ _ _ _ _ 114 8 (by decide +kernel) (by decide), cell1 _ 1 _ _ _ _ _ 119 7 (by decide +kernel) (by decide),
    cell3 _ 2 _ _ _ _ _ _ _ _ _ _ _ _ _ _ _ 115 83 6 11 (by decide) (by decide +kernel) (by decide +kernel) (by decide +kernel) (by decide) (by decide) (by decide),
    cell1 _ 3 _ _ _ _ _ 114 5 (by decide +kernel) (by decide), cell1 _ 4 _ _ _ _ _ 119 4 (by decide +kernel) (by decide),
    cell3 _ 5 _ _ _ _ _ _ _ _ _ _ _ _ _ _ _ 115 83 3 10 (by decide) (by decide +kernel) (by decide +kernel) (by decide +kernel) (by decide) (by decide) (by decide),
    cell1 _ 6 _ _ _ _ _ 114 2 (by decide +kernel) (by decide), cell1 _ 7 _ _ _ _ _ 119 1 (by decide +kernel) (by decide),
    cell3 _ 8 _ _ _ _ _ _ _ _ _ _ _ _ _ _ _ 116 84 0 9 (by decide) (by decide +kernel) (by decide +kernel) (by decide +kernel) (by decide) (by decide) (by decide),
    join10]
  simp only [hb 0 (by decide), hb 1 (by decide), hb 2 (by decide), hb 3 (by decide), hb 4 (by decide), hb 5 (by decide), hb 6 (by decide), hb 7 (by decide), hb 8 (by decide), hb 9 (by decide), hb 10 (by decide), hb 11 (by decide)]
  rfl
end Mine
end -- Q4

section -- Q5
open PySem PySem.W PyProof.Rows PySem.Calls
set_option maxRecDepth 100000
namespace Mine
/-- the place of the first nought among the thirteen digits -/
theorem first_nought {x : Nat} (hx : x < 4096) : ∃ p, p < 13 ∧ (dig 1 x 13).idxOf 0 = p ∧ (0 : Int) ∈ dig 1 x 13 ∧ x.testBit p = false ∧ ∀ k < p, x.testBit k = true := by
  have h12 : x.testBit 12 = false := Nat.testBit_lt_two_pow hx
  have hm : (0 : Int) ∈ dig 1 x 13 := by
    rw [dig_bits]
    exact List.mem_map.mpr ⟨12, by decide, by rw [h12]; rfl⟩
  have hl : (dig 1 x 13).idxOf 0 < 13 := by
    have := List.idxOf_lt_length_iff.mpr hm
    rwa [dig_len] at this
  refine ⟨_, hl, rfl, hm, ?_, ?_⟩
  · have h1 : (dig 1 x 13)[(dig 1 x 13).idxOf 0]'(by rw [dig_len]; exact hl) = 0 := List.getElem_idxOf _
    have h2 := dig_getD x hl
    rw [List.getD_eq_getElem?_getD, List.getElem?_eq_getElem (by rw [dig_len]; exact hl), Option.getD_some, h1] at h2
    cases h3 : x.testBit ((dig 1 x 13).idxOf 0)
    · rfl
    · rw [h3] at h2; cases h2
  · intro k hk
    have hk2 : k < (dig 1 x 13).length := by rw [dig_len]; omega
    have h1 := ne_of_lt_idxOf hk hk2
    have h2 := dig_getD x (show k < 13 by omega)
    rw [List.getD_eq_getElem?_getD, List.getElem?_eq_getElem hk2, Option.getD_some] at h2
    cases h3 : x.testBit k
    · rw [h3] at h2
      rw [h2] at h1
      simp at h1
    · rfl
theorem low_ones {x p : Nat} (h0 : x.testBit p = false) (h1 : ∀ k < p, x.testBit k = true) : x = 2 ^ (p + 1) * (x / 2 ^ (p + 1)) + (2 ^ p - 1) := by
  have e : x % 2 ^ (p + 1) = 2 ^ p - 1 := by
    apply Nat.eq_of_testBit_eq
    intro i
    rw [Nat.testBit_mod_two_pow, Nat.testBit_two_pow_sub_one]
    by_cases h : i < p
    · simp [h, h1 i h, Nat.lt_succ_of_lt h]
    · by_cases h2 : i = p
      · subst h2; simp [h0]
      · have : ¬ i < p + 1 := by omega
        simp [h, this]
  have := Nat.div_add_mod x (2 ^ (p + 1))
  omega
theorem gray_next {x p : Nat} (hx : x < 4096) (hp : p < 13) (h0 : x.testBit p = false) (h1 : ∀ k < p, x.testBit k = true) (k : Nat) (hk : k < 12) :
    gray ((x + 1) % 4096) k = if k = min p 11 then !gray x k else gray x k := by
  have e := low_ones h0 h1
  have hpos := Nat.pow_pos (n := p) (show 0 < 2 by decide)
  by_cases h12 : p = 12
  · subst h12
    have hx2 : x = 4095 := by
      have : x / 2 ^ 13 = 0 := Nat.div_eq_of_lt (by omega)
      rw [this] at e; exact e
    subst hx2
    have : ∀ k < 12, gray ((4095 + 1) % 4096) k = if k = min 12 11 then !gray 4095 k else gray 4095 k := by decide +kernel
    exact this k hk
  · have hp2 : p ≤ 11 := by omega
    generalize hq : x / 2 ^ (p + 1) = q at e
    have e1 : x + 1 = 2 ^ (p + 1) * q + 2 ^ p := by omega
    have hlt : x + 1 < 4096 := by
      rcases Nat.lt_or_ge (x + 1) 4096 with h | h
      · exact h
      · have : x = 4095 := by omega
        subst this
        have h2 : ∀ p < 12, Nat.testBit 4095 p = true := by decide +kernel
        rw [h2 p (by omega)] at h0; cases h0
    rw [Nat.mod_eq_of_lt hlt, Nat.min_eq_left hp2]
    have hb1 : 2 ^ p < 2 ^ (p + 1) := by rw [Nat.pow_succ]; omega
    have hb2 : 2 ^ p - 1 < 2 ^ (p + 1) := by omega
    have b1 : ∀ i, (x + 1).testBit i = if i < p + 1 then decide (p = i) else q.testBit (i - (p + 1)) := by
      intro i; rw [e1, Nat.testBit_two_pow_mul_add q hb1, Nat.testBit_two_pow]
    have b2 : ∀ i, x.testBit i = if i < p + 1 then decide (i < p) else q.testBit (i - (p + 1)) := by
      intro i; rw [e, Nat.testBit_two_pow_mul_add q hb2, Nat.testBit_two_pow_sub_one]
    unfold gray
    rw [b1 k, b1 (k + 1), b2 k, b2 (k + 1)]
    rcases Nat.lt_trichotomy k p with h | h | h
    · have a1 : k < p + 1 := by omega
      have a2 : k + 1 < p + 1 := by omega
      have a3 : ¬ k = p := by omega
      have a4 : ¬ p = k := by omega
      rw [if_pos a1, if_pos a2, if_pos a1, if_pos a2, if_neg a3]
      by_cases h2 : p = k + 1
      · subst h2; simp
      · have a5 : k + 1 < p := by omega
        simp [h2, a4, h, a5]
    · subst h
      simp
    · have a1 : ¬ k < p + 1 := by omega
      have a2 : ¬ k + 1 < p + 1 := by omega
      have a3 : ¬ k = p := by omega
      rw [if_neg a1, if_neg a2, if_neg a1, if_neg a2, if_neg a3]
theorem next_row {x p : Nat} {K T : Int} (hT0 : 0 ≤ T) (hT1 : T < 12) (hx : x < 4096) (hp : p < 13) (h0 : x.testBit p = false) (h1 : ∀ k < p, x.testBit k = true) :
    turnedF (rowP (x : Int) K T 12) ((min (p : Int) 11 - T).fmod 12) = rowP (((x + 1) % 4096 : Nat) : Int) K T 12 := by
  have q0 : 0 ≤ (min (p : Int) 11 - T).fmod 12 := Int.fmod_nonneg_of_pos _ (by decide)
  have q1 : (min (p : Int) 11 - T).fmod 12 < 12 := Int.fmod_lt_of_pos _ (by decide)
  rw [row_bits x K T hT0 hT1, row_bits _ K T hT0 hT1, turned_row _ _ q0 q1]
  refine Row_congr _ fun j hj => ?_
  have e : ((min (p : Int) 11 - T).fmod 12).toNat = (min p 11 + 12 - T.toNat) % 12 := by
    rw [Int.fmod_eq_emod_of_nonneg _ (by decide)]; omega
  rw [gray_next hx hp h0 h1 _ (Nat.mod_lt _ (by decide)), flipB, e]
  by_cases h : j = (min p 11 + 12 - T.toNat) % 12
  · have h2 : (j + T.toNat) % 12 = min p 11 := by omega
    rw [if_pos h, if_pos h2]
  · have h2 : ¬ (j + T.toNat) % 12 = min p 11 := by omega
    rw [if_neg h, if_neg h2]
theorem can_ints : ∀ ns : List Int, PyData.canLayAll0 (ns.map .int) = true
  | [] => by simp [PyData.canLayAll0]
  | n :: r => by simp [PyData.canLayAll0, PyData.canLay0, can_ints r]
theorem deep_ints : ∀ ns : List Int, PyData.depthAll (ns.map .int) = 0
  | [] => by simp [PyData.depthAll]
  | n :: r => by simp [PyData.depthAll, PyData.depth, deep_ints r]
theorem weigh_bits : ∀ bs : List Bool, PyData.weightAll ((bs.map fun b => (b.toNat : Int)).map .int) ≤ 2 * bs.length
  | [] => by simp [PyData.weightAll]
  | b :: r => by
    have := weigh_bits r
    have h1 : PyData.weight (.int (b.toNat : Int)) ≤ 1 := by cases b <;> simp [PyData.weight]; decide
    simp only [List.map_cons, PyData.weightAll, List.length_cons]
    omega
theorem lay_dig (x : Nat) : PyData.layable0 (.list ((dig 1 x 13).map .int)) = true := by
  have e : dig 1 x 13 = (List.map x.testBit (List.range 13)).map fun b => (b.toNat : Int) := by
    rw [dig_bits, List.map_map]; rfl
  have h1 := weigh_bits (List.map x.testBit (List.range 13))
  rw [← e, List.length_map, List.length_range] at h1
  unfold PyData.layable0
  simp only [PyData.canLay0, PyData.depth, PyData.weight, can_ints, deep_ints, Bool.true_and, Bool.and_eq_true, decide_eq_true_eq]
  refine ⟨by decide, ?_⟩
  have h2 : (26 : Nat) ≤ 2 ^ 20 := by decide
  exact decide_eq_true (Nat.le_trans h1 h2)
theorem dig_three {r a : Nat} (hr : r < 4096) (ha : a < 4096) : dig 12 (2 ^ 24 + (r + 4096 * a)) 3 = [(r : Int), (a : Int), 1] := by
  unfold dig
  simp only [show List.range 3 = [0, 1, 2] by decide, List.map_cons, List.map_nil, Nat.mul_zero, Nat.pow_zero, Nat.mul_one, Nat.div_one, show 12 * 2 = 24 by decide]
  have e0 : (2 ^ 24 + (r + 4096 * a)) % 2 ^ 12 = r := by omega
  have e1 : (2 ^ 24 + (r + 4096 * a)) / 2 ^ 12 % 2 ^ 12 = a := by omega
  have e2 : (2 ^ 24 + (r + 4096 * a)) / 2 ^ 24 % 2 ^ 12 = 1 := by omega
  rw [e0, e1, e2]
  rfl
theorem turn_ok {X : Nat → Str} {i x ab : Nat} {T : Int} (hx : x < 4096) (hab : ab < 4096) (hT0 : 0 ≤ T) (hT1 : T < 12) (hX : X i = rowP (x : Int) ((ab : Int).fmod 16) T 12)
    (hX1 : X (i + 1) = rowP (((x + 1) % 4096 : Nat) : Int) ((ab : Int).fmod 16) T 12) :
    (∀ k, Fits (X i) (Int.fmod k 12)) ∧ digR (X i) T 12 = dig 1 x 12 ∧ ∃ p rt, TurnOk X i x p rt ab T := by
  have hr := row_bits x ((ab : Int).fmod 16) T hT0 hT1
  have ht : T.toNat < 12 := by omega
  obtain ⟨p, hp, hpp, h0m, h0, h1⟩ := first_nought hx
  have hrl := rights_lt x ht
  refine ⟨fun k => hX ▸ row_fits _ _ _ _ _, ?_, p, rights x T.toNat, hab, hrl, hp, ?_, rights_val x _, ?_, dig_three hrl hab, mask_low hrl, mask_kind hrl, lay_dig x, h0m, hpp, ?_⟩
  · rw [hX, hr]; exact read_back hx hT0 hT1
  · intro c hc
    rw [code_eq] at hc
    obtain ⟨j, _, rfl⟩ := List.mem_map.mp hc
    have := Bool.toNat_le (gray x j)
    omega
  · rw [cells_row hrl, hX, hr]
    exact Row_congr _ fun j hj => rights_bit x ht hj
  · rw [hX, hX1]; exact next_row hT0 hT1 hx hp h0 h1
end Mine
end -- Q5

section -- P11
open PySem PySem.W PyProof.Rows PySem.Calls
namespace Mine
local macro_rules | `(tactic| walk_at "execs cons") => `(tactic| (k_here; (refine gen_toks (fun tk9 => ?_)); (with_reducible refine wpAny_execs_cons ?_); (try dsimp only)))
local macro_rules | `(tactic| walk_at "execs nil") => `(tactic| (k_here; (refine gen_toks (fun tk9 => ?_)); refine wpAny_execs_nil ?_))
local macro_rules | `(tactic| walk_at "ite") => `(tactic| ((with_reducible show (if _ then wpAny _ _ (execs _ _) _ _ _ else _)); refine Stop.out ?_))
local macro_rules | `(tactic| walk_at "call ref") => `(tactic| refine Stop.out ?_)
local macro_rules | `(tactic| walk_at "call builtin:len") => `(tactic| refine Stop.out ?_)
local macro_rules | `(tactic| walk_at "Exists") => `(tactic| refine Stop.out ?_)
local macro_rules | `(tactic| walk_at "call builtin:list.index") => `(tactic| refine Stop.out ?_)
local macro_rules | `(tactic| walk_at "subscriptTail") => `(tactic| refine Stop.out ?_)
local macro_rules | `(tactic| walk_at "subscriptTail Name Name ref int") => `(tactic| refine Stop.out ?_)
local macro_rules | `(tactic| walk_at "subscriptTail Name Slice ref ref") => `(tactic| refine Stop.out ?_)
local macro_rules | `(tactic| walk_at "binaryOp Add ref ref") => `(tactic| refine Stop.out ?_)
local macro_rules | `(tactic| walk_at "call ref") => `(tactic| (k_here; (with_reducible show wpAny _ _ (call (Value.ref 68) _) _ _ _); k_dflt (refine' Does.use (fmode _ _ _) ?k1 ?k2 ?k3 ?k4 ?k5 ?kK ?kd ?ku ?_; (case k1 => k_asm); (case k2 => k_asm); (case k3 => k_asm); (case k4 => k_asm); (case k5 => k_asm); (case kK => first | exact rfl | assumption); (case kd => ktr_room); (case ku => ktr_units); intro v9 n9 h9 tk9 ho9 F9 N9; obtain ⟨t19, e19, e29⟩ := ho9; subst e19; subst e29; (try dsimp only); (try k_fold))))
local macro_rules | `(tactic| walk_at "call ref") => `(tactic| (k_here; (with_reducible show wpAny _ _ (call (Value.ref 28) _) _ _ _); k_dflt (refine' Does.use (ifmt _ _ _) ?k1 ?k2 ?k3 ?k4 ?k5 ?kK ?kd ?ku ?_; (case k1 => k_asm); (case k2 => k_asm); (case k3 => k_asm); (case k4 => k_asm); (case k5 => k_asm); (case kK => first | exact rfl | assumption); (case kd => ktr_room); (case ku => ktr_units); intro v9 n9 h9 tk9 ho9 F9 N9; obtain ⟨t19, e19, e29⟩ := ho9; subst e19; subst e29; (try dsimp only); (try k_fold))))
local macro_rules | `(tactic| walk_at "call ref") => `(tactic| (k_here; (with_reducible show wpAny _ _ (call (Value.ref 21) _) _ _ _); k_dflt (refine' Does.use (imode _ _ _) ?k1 ?k2 ?k3 ?k4 ?k5 ?kK ?kd ?ku ?_; (case k1 => k_asm); (case k2 => k_asm); (case k3 => k_asm); (case k4 => k_asm); (case k5 => k_asm); (case kK => first | exact rfl | assumption); (case kd => ktr_room); (case ku => ktr_units); intro v9 n9 h9 tk9 ho9 F9 N9; obtain ⟨t19, e19, e29⟩ := ho9; subst e19; subst e29; (try dsimp only); (try k_fold))))
local macro_rules | `(tactic| walk_at "call ref") => `(tactic| (k_here; (with_reducible show wpAny _ _ (call (Value.ref 96) _) _ _ _); k_dflt (refine' Does.use (turned _ _ _ _ _ ?ka ?kb ?kc) ?k1 ?k2 ?k3 ?k4 ?k5 ?kK ?kd ?ku ?_; (case k1 => k_asm); (case k2 => k_asm); (case k3 => k_asm); (case k4 => k_asm); (case k5 => k_asm); (case kK => first | exact rfl | assumption); (case ka => exact Int.fmod_nonneg_of_pos _ (by decide)); (case kb => exact Int.fmod_lt_of_pos _ (by decide)); (case kc => (rename ∀ k, Fits _ (Int.fmod k 12) => hf9; exact hf9 _)); (case kd => ktr_room); (case ku => ktr_units); intro v9 n9 h9 tk9 ho9 F9 N9; obtain ⟨t19, e19, e29⟩ := ho9; subst e19; subst e29; (try dsimp only); (try k_fold))))
set_option maxRecDepth 100000 in
set_option maxHeartbeats 1000000 in
theorem law_tail {w : World} {loose : List Str} {mean : ExcName → Option Value} {mg mb : Str → Option Value} {h₀ h : Heap} {L fa D I C E : Addr} {cd : Value} {oI oL o1 o2 oT oD : Obj} {T : Int} {ab rt x p : Nat} {ta tt tx : Tok} {X : Nat → Str} {i : Nat} {m : Str → Option Value} {W R : List (Addr × Obj)} {cs ws : List Value} {code : List Int} {vT : Option Value} {s : Shared} {tk : Nat} {Q : Flow → Shared → Prop}
    (B : Below callerA h₀ [] h₀) (XK : (hd.heap_39 w.params).In h₀) (TT : Top topProg loose mean mg mb h₀)
    (hL : @LT.lt Nat _ 77 L) (hIL : @LT.lt Nat _ (L + 1 + 1 + 1) I) (hID : @LT.lt Nat _ D I)
    (hIW : (I, oI) ∈ W) (hDW : (D, oL) ∈ W) (hRW : ∀ p ∈ R, p ∈ W) (hRI : ∀ p ∈ R, p.1 ≠ I) (hWL : ∀ p ∈ W, Far L p.1)
    (hEL : @LT.lt Nat _ (L + 1 + 1 + 1) E)
    (k1 : TabOk posD qD o1 R) (k2 : TabFull posI qI o2 R) (dT : oT.data = .cell vT) (dD : oD.data = .cell (some (.ref E)))
    (F : Fr h₀ L h (fun z => if z = "code" then some (.ref C) else kstB m [("above", .int (ab : Int) ta), ("turn", .int T tt), ("text", .str (X i) tx)] z))
    (N : News h₀ L h ((C, LCg.lst cs) :: (L + 1 + 1 + 1, oD) :: (E, listOf ws.toArray 0) :: (70, o2) :: (L + 1 + 1, oT) :: (77, o1) :: W))
    (hT0 : 0 ≤ T) (hT1 : T < 12) (hab : ab < 4096) (hrt : rt < 4096) (hx : x < 4096) (hp : p < 13)
    (hcs : IntsAre cs code) (hcl : code.length = 12) (hcb : ∀ c ∈ code, 0 ≤ c ∧ c < 2) (hr : valF 1 (code.drop T.toNat ++ code.take T.toNat) = rt)
    (hws : IntsAre ws (dig 1 x 13)) (hfit : ∀ k, Fits (X i) (Int.fmod k 12))
    (hcells : Txt.join "" (cells ((rt + 4096 * ab : Nat) : Int)) = X i)
    (hdig : dig 12 (2 ^ 24 + (rt + 4096 * ab)) 3 = [(rt : Int), (ab : Int), 1])
    (hm1 : Builtin.bitAnd ((rt + 4096 * ab : Nat) : Int) 4095 = rt) (hm2 : Builtin.bitAnd ((rt + 4096 * ab : Nat) : Int) 61440 = (ab : Int).fmod 16 * 4096)
    (hlay : PyData.layable0 (.list ((dig 1 x 13).map .int)) = true) (h0m : (0 : Int) ∈ dig 1 x 13) (hpp : (dig 1 x 13).idxOf 0 = p) (hnext : turnedF (X i) ((min (p : Int) 11 - T).fmod 12) = X (i + 1)) :
    wpAny (model PySem.Challenge.rw_op0053_01.row.prog w) (callerA.deeper (envOfC "law" lawScope L fa cd)) (execs (lawBody.drop 5) (envOfC "law" lawScope L fa cd)) (fun f s₃ => match f with
        | .next | .cont => ∃ h' tk' m' n', s₃ = { s with heap := h', toks := tk' } ∧ Fr h₀ L h' m' ∧ News h₀ L h' ((I, oI) :: n') ∧ (∀ p ∈ n', p.1 ≠ I) ∧ LawJ L D oL (ab : Int) T ta tt X (i + 1) m' n'
        | .brk => Q .next s₃
        | .ret v => Q (.ret v) s₃) (fun _ _ => False) { s with heap := h, toks := tk } := by
  k_with_none
  w_top off
  refine filled _ ?_
  k_fill
  intro hfill; clear hfill
  have e1 : lawScope = lawScope := rfl
  conv at e1 => rhs; whnf
  have e2 : lawBody.drop 5 = lawBody.drop 5 := rfl
  conv at e2 => rhs; whnf
  rw [e1, e2]
  clear e1 e2
  k_steps
  refine Stop.mk ?_
  k_dflt (refine kba_turn (value' := PySem.Expr.Name (PySem.Str.ofString "_") ⟨0, 0, 0, 0⟩) (fun _ => rfl) ?_)
  k_dflt (refine' kmk_slice_ints (vs := cs) (c := (code.drop T.toNat).length) F N ?z1 ?z2 ?z3 hcs (kmk_from hcs hT0) rfl ?_ ?z4 ?z5 ?z6; (case z1 => kmk_list); (case z2 => kmk_part); (case z3 => kmk_part); (case z4 => with_unfolding_all rfl); (case z5 => kmk_pure); (case z6 => (refine kmk_sz hcs ?_; rw [sizeLine_eq, hcl]; omega)))
  intro D1 ws1 h1 F1 N1 l1 hI1 hC1 hL1
  clear F N hC1 hL1
  k_steps
  refine Stop.mk ?_
  k_dflt (refine kba_turn (value' := PySem.Expr.Name (PySem.Str.ofString "_") ⟨0, 0, 0, 0⟩) (fun _ => rfl) ?_)
  k_dflt (refine' kmk_slice_ints (vs := cs) (c := (code.take T.toNat).length) F1 N1 ?z1 ?z2 ?z3 hcs (kmk_upto hcs hT0) rfl ?_ ?z4 ?z5 ?z6; (case z1 => kmk_list); (case z2 => kmk_part); (case z3 => kmk_part); (case z4 => with_unfolding_all rfl); (case z5 => kmk_pure); (case z6 => (refine kmk_sz hcs ?_; rw [sizeLine_eq, hcl]; omega)))
  intro D2 ws2 h2 F2 N2 l2 hI2 hC2 hL2
  clear F1 N1 hC2 hL2
  k_steps
  refine Stop.mk ?_
  k_dflt (refine' kmk_add_ints F2 N2 ?z1 ?z2 hI1 hI2 ?_ ?z3; (case z1 => kmk_list); (case z2 => kmk_list); (case z3 => (rw [sizeLine_eq, List.length_drop, List.length_take]; omega)))
  intro D3 ws3 h3 F3 N3 l3 hI3
  clear F2 N2
  k_steps
  refine Stop.mk ?_
  have hD3 : @LT.lt Nat _ (L + 1 + 1 + 1) D3 := l3 (L + 1 + 1 + 1, oD) (by simp)
  have N4 := cb_drop (news := (77, o1) :: (D3, listOf ws3.toArray 0) :: (L + 1 + 1 + 1, oD) :: (E, listOf ws.toArray 0) :: (70, o2) :: (L + 1 + 1, oT) :: W) N3 (by intro p hp; simp only [List.mem_cons] at hp ⊢; grind)
  clear N3 hI1 hI2 l1 l2 l3
  have off1 : ∀ p ∈ ((D3, listOf ws3.toArray 0) :: (L + 1 + 1 + 1, oD) :: (E, listOf ws.toArray 0) :: (70, o2) :: (L + 1 + 1, oT) :: W), p.1 ≠ 77 := by
    intro p hp
    simp only [List.mem_cons] at hp
    rcases hp with rfl | rfl | rfl | rfl | rfl | hp
    case _ | _ | _ | _ | _ => refine neN ?_; (try dsimp only); omega
    exact (hWL p hp).2.1
  k_dflt (refine' Does.use (d2i D3 ws3 _ 1 _ 0 o1 _ (.head _) hI3 off1 R ?hR0 k1 (.inl rfl) ?b1 ?b2 ?b3 ?b4) ?k1 ?k2 ?k3 ?k4 ?k5 ?kK ?kd ?ku ?_; (case k1 => exact B); (case k2 => assumption); (case k3 => exact XK); (case k4 => exact N4); (case k5 => exact TT); (case kK => exact rfl); (case kd => ktr_room); (case ku => ktr_units); (case hR0 => (intro p hp; have := hRW p hp; simp [this])); (case b1 => (intro c hc; refine hcb c ?_; rcases List.mem_append.mp hc with hc | hc; exact List.mem_of_mem_drop hc; exact List.mem_of_mem_take hc)); (case b2 => (simp [hcl]; omega)); (case b3 => (simp [hcl]; omega)); (case b4 => (simp [hcl]; omega)))
  rintro v5 n5 h5 tk5 ⟨o1a, ex1, ⟨t5, rfl⟩, hTF1, hex1, rfl⟩ F5 N5
  rw [hr]
  clear F3 N4
  have hW1 : ∀ p ∈ ex1 ++ W, Far L p.1 := by
    intro p hp
    rcases List.mem_append.mp hp with hp | hp
    · exact .of_lt hL (hex1 p hp (L + 1 + 1 + 1, oD) (by simp))
    · exact hWL p hp
  have hR1 : ∀ p ∈ ex1 ++ R, p.1 ≠ I := by
    intro p hp
    rcases List.mem_append.mp hp with hp | hp
    · exact Nat.ne_of_gt (hex1 p hp (I, oI) (by simp [hIW]))
    · exact hRI p hp
  have hRW1 : ∀ p ∈ ex1 ++ R, p ∈ ex1 ++ W := by
    intro p hp
    rcases List.mem_append.mp hp with hp | hp
    · exact List.mem_append_left _ hp
    · exact List.mem_append_right _ (hRW p hp)
  obtain ⟨W1, eW1⟩ : ∃ W1, W1 = ex1 ++ W := ⟨_, rfl⟩
  have hIW1 : (I, oI) ∈ W1 := by rw [eW1]; exact List.mem_append_right _ hIW
  have hDW1 : (D, oL) ∈ W1 := by rw [eW1]; exact List.mem_append_right _ hDW
  have k2a : TabFull posI qI o2 (ex1 ++ R) := by
    obtain ⟨c', oc, vs, t, e1, e2, e3, e4⟩ := k2
    exact ⟨c', oc, vs, t, e1, List.mem_append_right _ e2, e3, e4⟩
  have N6 := cb_drop (news := (L + 1 + 1 + 1, oD) :: (E, listOf ws.toArray 0) :: (70, o2) :: (L + 1 + 1, oT) :: (77, o1a) :: W1) N5 (by rw [eW1]; intro p hp; simp only [List.mem_cons, List.mem_append] at hp ⊢; grind)
  rw [← eW1] at hW1 hRW1
  obtain ⟨R1, eR1⟩ : ∃ R1, R1 = ex1 ++ R := ⟨_, rfl⟩
  rw [← eR1] at hR1 hRW1 k2a hTF1
  clear N5 off1 hex1 eW1 eR1 hWL hRI hRW hIW hDW k1 k2 hI3 hD3
  k_steps
  refine Stop.mk ?_
  rename_i l6 h6 F7 N7 l7
  have hl6 : @LT.lt Nat _ (L + 1 + 1 + 1) l6 := l7.1
  have off2 : ∀ p ∈ ((l6, listOf #[Value.int (rt : Int) t5, Value.int (ab : Int) ta] 0) :: (L + 1 + 1 + 1, oD) :: (E, listOf ws.toArray 0) :: (70, o2) :: (L + 1 + 1, oT) :: W1), p.1 ≠ 77 := by
    intro p hp
    simp only [List.mem_cons] at hp
    rcases hp with rfl | rfl | rfl | rfl | rfl | hp
    case _ | _ | _ | _ | _ => refine neN ?_; (try dsimp only); omega
    exact (hW1 p hp).2.1
  have N8 := cb_drop (news := (77, o1a) :: (l6, listOf #[Value.int (rt : Int) t5, Value.int (ab : Int) ta] 0) :: (L + 1 + 1 + 1, oD) :: (E, listOf ws.toArray 0) :: (70, o2) :: (L + 1 + 1, oT) :: W1) N7 (by intro p hp; simp only [List.mem_cons] at hp ⊢; grind)
  clear N7 l7
  k_dflt (refine' Does.use (d2i l6 [Value.int (rt : Int) t5, Value.int (ab : Int) ta] [(rt : Int), (ab : Int)] 12 _ 0 o1a _ (.head _) (.cons _ _ (.cons _ _ .nil)) off2 R1 ?hR0 (.inr hTF1) (.inr rfl) ?b1 ?b2 ?b3 ?b4) ?k1 ?k2 ?k3 ?k4 ?k5 ?kK ?kd ?ku ?_; (case k1 => exact B); (case k2 => assumption); (case k3 => exact XK); (case k4 => exact N8); (case k5 => exact TT); (case kK => exact rfl); (case kd => ktr_room); (case ku => ktr_units); (case hR0 => (intro p hp; have := hRW1 p hp; simp [this])); (case b1 => (intro c hc; simp only [List.mem_cons, List.not_mem_nil, or_false] at hc; rcases hc with rfl | rfl <;> simp <;> omega)); (case b2 => (show 12 * 2 ≤ 60; decide)); (case b3 => (show 0 < 2; decide)); (case b4 => (show 2 ≤ 12; decide)))
  rintro v9 n9 h9 tk9 ⟨o1b, ex2, ⟨t9, rfl⟩, hTF2, hex2, rfl⟩ F9 N9
  rw [show valF 12 [(rt : Int), (ab : Int)] = ((rt + 4096 * ab : Nat) : Int) by simp [valF]]
  clear F7 N8
  have hW2 : ∀ p ∈ ex2 ++ W1, Far L p.1 := by
    intro p hp
    rcases List.mem_append.mp hp with hp | hp
    · exact .of_lt hL (hex2 p hp (L + 1 + 1 + 1, oD) (by simp))
    · exact hW1 p hp
  have hR2 : ∀ p ∈ ex2 ++ R1, p.1 ≠ I := by
    intro p hp
    rcases List.mem_append.mp hp with hp | hp
    · exact Nat.ne_of_gt (hex2 p hp (I, oI) (by simp [hIW1]))
    · exact hR1 p hp
  have hRW2 : ∀ p ∈ ex2 ++ R1, p ∈ ex2 ++ W1 := by
    intro p hp
    rcases List.mem_append.mp hp with hp | hp
    · exact List.mem_append_left _ hp
    · exact List.mem_append_right _ (hRW1 p hp)
  obtain ⟨W2, eW2⟩ : ∃ W2, W2 = ex2 ++ W1 := ⟨_, rfl⟩
  have hIW2 : (I, oI) ∈ W2 := by rw [eW2]; exact List.mem_append_right _ hIW1
  have hDW2 : (D, oL) ∈ W2 := by rw [eW2]; exact List.mem_append_right _ hDW1
  have k2b : TabFull posI qI o2 (ex2 ++ R1) := by
    obtain ⟨c', oc, vs, t, e1, e2, e3, e4⟩ := k2a
    exact ⟨c', oc, vs, t, e1, List.mem_append_right _ e2, e3, e4⟩
  have N10 := cb_drop (news := (70, o2) :: (L + 1 + 1 + 1, oD) :: (E, listOf ws.toArray 0) :: (L + 1 + 1, oT) :: (77, o1b) :: W2) N9 (by rw [eW2]; intro p hp; simp only [List.mem_cons, List.mem_append] at hp ⊢; grind)
  rw [← eW2] at hW2 hRW2
  obtain ⟨R2, eR2⟩ : ∃ R2, R2 = ex2 ++ R1 := ⟨_, rfl⟩
  rw [← eR2] at hR2 hRW2 k2b hTF2
  clear N9 off2 hex2 eW2 eR2 hW1 hR1 hRW1 hIW1 hDW1 hTF1 k2a hl6
  k_steps
  · refine Stop.mk ?_
    rename (_ != _) = true => hne
    rw [hcells] at hne
    simp at hne
  refine Stop.mk ?_
  rename_i h11 tk11 F11 t11 N11 hne
  clear qk ek hne
  have off3 : ∀ p ∈ ((L + 1 + 1 + 1, oD) :: (E, listOf ws.toArray 0) :: (L + 1 + 1, oT) :: (77, o1b) :: W2), p.1 ≠ 70 := by
    intro p hp
    simp only [List.mem_cons] at hp
    rcases hp with rfl | rfl | rfl | rfl | hp
    case _ | _ | _ | _ => refine neN ?_; (try dsimp only); omega
    exact (hW2 p hp).1
  rw [show (2 : Int) ^ Int.toNat 24 + ((rt + 4096 * ab : Nat) : Int) = ((2 ^ 24 + (rt + 4096 * ab) : Nat) : Int) by simp]
  k_dflt (refine' Does.use (i2d (2 ^ 24 + (rt + 4096 * ab)) 12 _ _ o2 _ off3 R2 ?hR0 (.inr k2b) (.inr rfl) 3 ?c1 (by decide) (fun _ => by decide) ?c2 (by decide)) ?k1 ?k2 ?k3 ?k4 ?k5 ?kK ?kd ?ku ?_; (case k1 => exact B); (case k2 => assumption); (case k3 => exact XK); (case k4 => exact N11); (case k5 => exact TT); (case kK => exact rfl); (case kd => ktr_room); (case ku => ktr_units); (case hR0 => (intro p hp; have := hRW2 p hp; simp [this])))
  case c2 => show _ < 68719476736; omega
  case c1 =>
    have hlog : Nat.log2 (2 ^ 24 + (rt + 4096 * ab)) = 24 := by
      refine (Nat.log2_eq_iff (by omega)).mpr ⟨by omega, ?_⟩
      show _ < 33554432; omega
    unfold Builtin.Int.intBits
    rw [if_neg (by intro q; have := eq_of_beq q; omega), Int.natAbs_natCast, hlog]
    decide
  rintro v12 n12 h12 tk12 ⟨o2a, ex3, d3, vs3, c3, rfl, hi3, hTF3, hex3, hd3, hed3, rfl⟩ F12 N12
  rw [hdig] at hi3
  clear F11 N11
  k_steps
  refine Stop.mk ?_
  rw [if_neg (by decide)]
  rename_i l13 h13 F13 N13 l13
  have hW3 : ∀ p ∈ ex3 ++ W2, Far L p.1 := by
    intro p hp
    rcases List.mem_append.mp hp with hp | hp
    · exact .of_lt hL (hex3 p hp (L + 1 + 1 + 1, oD) (by simp))
    · exact hW2 p hp
  have hR3 : ∀ p ∈ ex3 ++ R2, p.1 ≠ I := by
    intro p hp
    rcases List.mem_append.mp hp with hp | hp
    · exact Nat.ne_of_gt (hex3 p hp (I, oI) (by simp [hIW2]))
    · exact hR2 p hp
  have hRW3 : ∀ p ∈ ex3 ++ R2, p ∈ ex3 ++ W2 := by
    intro p hp
    rcases List.mem_append.mp hp with hp | hp
    · exact List.mem_append_left _ hp
    · exact List.mem_append_right _ (hRW2 p hp)
  obtain ⟨W3, eW3⟩ : ∃ W3, W3 = ex3 ++ W2 := ⟨_, rfl⟩
  have hIW3 : (I, oI) ∈ W3 := by rw [eW3]; exact List.mem_append_right _ hIW2
  have hDW3 : (D, oL) ∈ W3 := by rw [eW3]; exact List.mem_append_right _ hDW2
  have k1b : TabFull posD qD o1b (ex3 ++ R2) := by
    obtain ⟨c', oc, vs, t, e1, e2, e3, e4⟩ := hTF2
    exact ⟨c', oc, vs, t, e1, List.mem_append_right _ e2, e3, e4⟩
  have N14 := cb_drop (news := (L + 1 + 1 + 1, oD) :: (E, listOf ws.toArray 0) :: (L + 1 + 1, oT) :: (77, o1b) :: (70, o2a) :: W3) N13 (by rw [eW3]; intro p hp; simp only [List.mem_cons, List.mem_append] at hp ⊢; grind)
  rw [← eW3] at hW3 hRW3
  obtain ⟨R3, eR3⟩ : ∃ R3, R3 = ex3 ++ R2 := ⟨_, rfl⟩
  rw [← eR3] at hR3 hRW3 k1b hTF3
  clear N13 off3 hex3 eW3 eR3 hW2 hR2 hRW2 hIW2 hDW2 hTF2 k2b hd3 hed3 hi3 l13
  k_steps
  · refine Stop.mk ?_
    exact absurd hm1 (by assumption)
  · refine Stop.mk ?_
    exact absurd hm2 (by assumption)
  refine Stop.mk ?_
  rw [if_neg (by decide)]
  rename_i h17 tk17 F17 t17 N17 _
  clear qk ek
  k_steps
  refine Stop.mk ?_
  k_dflt (refine index_list_ints (News.isList N17 (by k_mem)) hws hlay h0m ?_)
  rw [hpp]
  k_steps
  refine Stop.mk ?_
  rename_i t19 h20 F20 N20 tk20
  have emin : (if (11 : Int) < (p : Int) then (11 : Int) else (p : Int)) = min (p : Int) 11 := by split <;> omega
  rw [emin, hnext] at F20
  have N21 := cb_drop (news := (I, oI) :: (L + 1 + 1 + 1, oD) :: (L + 1 + 1, oT) :: (77, o1b) :: (70, o2a) :: (D, oL) :: R3) N20 (by
    intro q hq
    simp only [List.mem_cons] at hq
    rcases hq with rfl | rfl | rfl | rfl | rfl | rfl | hq
    · simp [hIW3]
    · simp
    · simp
    · simp
    · simp
    · simp [hDW3]
    · have := hRW3 q hq; simp [this])
  refine ⟨_, _, _, _, rfl, F20, N21, ?_, ⟨rfl, rfl, ⟨t19, rfl⟩, oD, oT, o1b, o2a, R3, vT, some (.ref E), rfl, dT, dD, .inr k1b, .inr hTF3, fun q hq => hW3 q (hRW3 q hq)⟩⟩
  intro q hq
  simp only [List.mem_cons] at hq
  rcases hq with rfl | rfl | rfl | rfl | rfl | hq
  case _ | _ | _ | _ | _ => refine neN ?_; (try dsimp only); omega
  exact hR3 q hq
end Mine
end -- P11

section -- P10
open PySem PySem.W PyProof.Rows PySem.Calls
namespace Mine
local macro_rules | `(tactic| walk_at "execs cons") => `(tactic| (k_here; (refine gen_toks (fun tk9 => ?_)); (with_reducible refine wpAny_execs_cons ?_); (try dsimp only)))
local macro_rules | `(tactic| walk_at "execs nil") => `(tactic| (k_here; (refine gen_toks (fun tk9 => ?_)); refine wpAny_execs_nil ?_))
local macro_rules | `(tactic| walk_at "ite") => `(tactic| ((with_reducible show (if _ then wpAny _ _ (execs _ _) _ _ _ else _)); refine Stop.out ?_))
local macro_rules | `(tactic| walk_at "call ref") => `(tactic| refine Stop.out ?_)
local macro_rules | `(tactic| walk_at "call builtin:len") => `(tactic| refine Stop.out ?_)
local macro_rules | `(tactic| walk_at "subscriptTail") => `(tactic| refine Stop.out ?_)
local macro_rules | `(tactic| walk_at "subscriptTail Name Name ref int") => `(tactic| refine Stop.out ?_)
local macro_rules | `(tactic| walk_at "subscriptTail Name Slice ref ref") => `(tactic| refine Stop.out ?_)
local macro_rules | `(tactic| walk_at "binaryOp Add ref ref") => `(tactic| refine Stop.out ?_)
local macro_rules | `(tactic| walk_at "storeName") => `(tactic| refine Stop.out ?_)
local macro_rules | `(tactic| walk_at "CompSrcT") => `(tactic| refine Stop.out ?_)
local macro_rules | `(tactic| walk_at "CompSrc") => `(tactic| refine Stop.out ?_)
local macro_rules | `(tactic| walk_at "CompEnd") => `(tactic| refine Stop.out ?_)
theorem fits_use {x : Str} (h : ∀ k, Fits x (Int.fmod k 12)) : ∀ k, Fits x (Int.fmod k 12) := h
local macro_rules | `(tactic| walk_at "call ref") => `(tactic| (k_here; (with_reducible show wpAny _ _ (call (Value.ref 110) _) _ _ _); k_dflt (refine' Does.use (read _ _ _ _ _ ?ka) ?k1 ?k2 ?k3 ?k4 ?k5 ?kK ?kd ?ku ?_; (case k1 => k_asm); (case k2 => k_asm); (case k3 => k_asm); (case k4 => k_asm); (case k5 => k_asm); (case kK => first | exact rfl | assumption); (case ka => (rename ∀ k, Fits _ (Int.fmod k 12) => hf9; exact hf9)); (case kd => ktr_room); (case ku => ktr_units); intro v9 n9 h9 tk9 ho9 F9 N9; obtain ⟨d9, vs9, c9, e19, hi9, l1, e29⟩ := ho9; subst e19; subst e29; (try dsimp only); (try k_lt l1); (try k_fold))))
set_option maxRecDepth 100000 in
set_option maxHeartbeats 1000000 in
theorem law_turn {w : World} {loose : List Str} {mean : ExcName → Option Value} {mg mb : Str → Option Value} {h₀ h : Heap} {L fa D I : Addr} {cd : Value} {oI oL : Obj} {T : Int} {ab rt p : Nat} {ta tt t : Tok} {X : Nat → Str} {i x : Nat} {m : Str → Option Value} {n : List (Addr × Obj)} {s : Shared} {tk : Nat} {Q : Flow → Shared → Prop}
    (B : Below callerA h₀ [] h₀) (XK : (hd.heap_39 w.params).In h₀) (TT : Top topProg loose mean mg mb h₀)
    (hL : @LT.lt Nat _ 77 L) (hD : Far L D) (hIL : @LT.lt Nat _ (L + 1 + 1 + 1) I) (hID : @LT.lt Nat _ D I)
    (hJ : LawJ L D oL (ab : Int) T ta tt X i m n) (hI : ∀ p ∈ n, p.1 ≠ I)
    (F : Fr h₀ L h m) (N : News h₀ L h ((I, oI) :: n)) (hx : x < 4096) (hfit : ∀ k, Fits (X i) (Int.fmod k 12)) (hrd : digR (X i) T 12 = dig 1 x 12) (hT0 : 0 ≤ T) (hT1 : T < 12)
    (H9 : TurnOk X i x p rt ab T) :
    wpAny (model PySem.Challenge.rw_op0053_01.row.prog w) (callerA.deeper (envOfC "law" lawScope L fa cd)) (assign lawTarget (envOfC "law" lawScope L fa cd) (.int x t)) (fun _ s₂ => wpAny (model PySem.Challenge.rw_op0053_01.row.prog w) (callerA.deeper (envOfC "law" lawScope L fa cd)) (execs lawBody (envOfC "law" lawScope L fa cd)) (fun f s₃ => match f with
        | .next | .cont => ∃ h' tk' m' n', s₃ = { s with heap := h', toks := tk' } ∧ Fr h₀ L h' m' ∧ News h₀ L h' ((I, oI) :: n') ∧ (∀ p ∈ n', p.1 ≠ I) ∧ LawJ L D oL (ab : Int) T ta tt X (i + 1) m' n'
        | .brk => Q .next s₃
        | .ret v => Q (.ret v) s₃) (fun _ _ => False) s₂) (fun _ _ => False) { s with heap := h, toks := tk } := by
  k_with_none
  w_top off
  refine filled _ ?_
  k_fill
  intro hfill; clear hfill
  have e1 : lawScope = lawScope := rfl
  conv at e1 => rhs; whnf
  have e2 : lawBody = lawBody := rfl
  conv at e2 => rhs; whnf
  have e3 : lawTarget = lawTarget := rfl
  conv at e3 => rhs; whnf
  rw [e1, e2, e3]
  clear e1 e2 e3
  obtain ⟨ja, jt, ⟨tx, jx⟩, oD, oT, o1, o2, R, vT, vD, rfl, dT, dD, hT1', hT2, hR⟩ := hJ
  have F1 : Fr h₀ L h (kstB m [("above", .int (ab : Int) ta), ("turn", .int T tt), ("text", .str (X i) tx)]) := by
    have : kstB m [((Str.ofString "above"), Value.int (ab : Int) ta), ("turn", .int T tt), ("text", .str (X i) tx)] = m := funext fun z => kstB_eq (by simp [ja, jt, jx]) (fun _ => rfl)
    rw [this]; exact F
  clear F
  have hRI : ∀ p ∈ ((I, oI) :: (D, oL) :: R), Far L p.1 := by
    intro p hp
    rcases List.mem_cons.mp hp with rfl | hp
    · exact .of_lt hL hIL
    rcases List.mem_cons.mp hp with rfl | hp
    · exact hD
    · exact hR p hp
  obtain ⟨W, hW⟩ : ∃ W, W = (I, oI) :: (D, oL) :: R := ⟨_, rfl⟩
  have N1 : News h₀ L h ((L + 1 + 1, oT) :: (L + 1 + 1 + 1, oD) :: (77, o1) :: (70, o2) :: W) := by
    rw [hW]; exact cb_drop N (by intro p hp; simp only [List.mem_cons] at hp ⊢; grind)
  rw [← hW] at hRI
  clear N
  have offT : ∀ p ∈ ((L + 1 + 1 + 1, oD) :: (77, o1) :: (70, o2) :: W), p.1 ≠ L + 1 + 1 := by
    intro p hp
    rcases List.mem_cons.mp hp with rfl | hp
    · refine neN ?_; omega
    rcases List.mem_cons.mp hp with rfl | hp
    · refine neN ?_; omega
    rcases List.mem_cons.mp hp with rfl | hp
    · refine neN ?_; omega
    · exact (hRI p hp).2.2.1
  k_steps
  k_dflt (refine' storeX_C F1 N1 ?hcl (UpdF.head offT) dT ?_ ?hk2 ?hx2; (case hcl => rfl); (case hk2 => rfl); (case hx2 => rfl))
  intro h2 oT2 F2 N2 dT2
  clear F1 N1
  (try dsimp only at N2)
  k_steps
  refine Stop.mk ?_
  obtain ⟨K, hK, hK12, hK0, hKx, hKf, hKb⟩ := bits_facts hx
  have offI : ∀ p ∈ ((L + 1 + 1, oT2) :: (L + 1 + 1 + 1, oD) :: (77, o1) :: W), p.1 ≠ 70 := by
    intro p hp
    rcases List.mem_cons.mp hp with rfl | hp
    · refine neN ?_; omega
    rcases List.mem_cons.mp hp with rfl | hp
    · refine neN ?_; omega
    rcases List.mem_cons.mp hp with rfl | hp
    · refine neN ?_; omega
    · exact (hRI p hp).1
  have N3 := cb_drop (news := (70, o2) :: (L + 1 + 1, oT2) :: (L + 1 + 1 + 1, oD) :: (77, o1) :: W) N2 (by intro p hp; simp only [List.mem_cons] at hp ⊢; grind)
  clear N2
  k_dflt (refine' Does.use (i2d x 1 _ _ o2 _ offI R ?hR0 hT2 (.inl rfl) K hKf hK12 hK0 hKx (by omega)) ?k1 ?k2 ?k3 ?k4 ?k5 ?kK ?kd ?ku ?_; (case k1 => exact B); (case k2 => assumption); (case k3 => exact XK); (case k4 => exact N3); (case k5 => exact TT); (case kK => exact rfl); (case kd => ktr_room); (case ku => ktr_units); (case hR0 => (intro p hp; rw [hW]; simp [hp])))
  rintro v9 n9 h3 tk9 ⟨o2', ex1, d1, vs1, c1, rfl, hi1, hTF1, hex1, hd1, hed1, rfl⟩ F3 N4
  clear F2 N3
  (try dsimp only)
  have hRI1 : ∀ p ∈ (ex1 ++ W), Far L p.1 := by
    intro p hp
    rcases List.mem_append.mp hp with hp | hp
    · exact .of_lt hL (hex1 p hp (L + 1 + 1 + 1, oD) (by simp))
    · exact hRI p hp
  have hd1D : @LT.lt Nat _ (L + 1 + 1 + 1) d1 := hd1 (L + 1 + 1 + 1, oD) (by simp)
  obtain ⟨W1, hW1⟩ : ∃ W1, W1 = ex1 ++ W := ⟨_, rfl⟩
  have N5 := cb_drop (news := (L + 1 + 1 + 1, oD) :: (d1, listOf vs1.toArray c1) :: (70, o2') :: (L + 1 + 1, oT2) :: (77, o1) :: W1) N4 (by rw [hW1]; intro p hp; simp only [List.mem_cons, List.mem_append] at hp ⊢; grind)
  rw [← hW1] at hRI1
  clear N4
  have offD : ∀ p ∈ ((d1, listOf vs1.toArray c1) :: (70, o2') :: (L + 1 + 1, oT2) :: (77, o1) :: W1), p.1 ≠ L + 1 + 1 + 1 := by
    intro p hp
    rcases List.mem_cons.mp hp with rfl | hp
    · refine neN ?_; omega
    rcases List.mem_cons.mp hp with rfl | hp
    · refine neN ?_; omega
    rcases List.mem_cons.mp hp with rfl | hp
    · refine neN ?_; omega
    rcases List.mem_cons.mp hp with rfl | hp
    · refine neN ?_; omega
    · exact (hRI1 p hp).2.2.2
  k_dflt (refine' storeX_C F3 N5 ?hcl (UpdF.head offD) dD ?_ ?hk2 ?hx2; (case hcl => rfl); (case hk2 => rfl); (case hx2 => rfl))
  intro h4 oD2 F4 N6 dD2
  clear F3 N5
  (try dsimp only at N6)
  k_steps
  rename_i tkq h5 tk5 F5q d9 vs9 c9 hi9 N5q l9 h6 tk6 t1 u1 v1 hRg F6 N6r hk6
  clear F4 N6 F5q N5q
  refine Stop.mk ?_
  k_dflt (refine LCt.CompSrcT.range (by rfl) (by k_asm) (by k_asm) (by assumption) (by decide) (by rfl) (by exact Nat.le_of_ble_eq_true rfl) ?_)
  intro g'
  refine kci_range (fun l k => if (2:Int) ^ k.toNat ≤ (x : Int) then l ++ [k] else l) ?turn1 ?_ ?gr1
  case gr1 =>
    unfold KPfGrows
    intro a b
    dsimp only
    split <;> simp
  case turn1 =>
    intro k' t' I' oI' C' oC' D' m' ys' l' h' tk' E' hlo' hhi' hI' hC' hx' F' N' off' ne' hm'
    clear hRg F6 N6r hk6
    try dsimp only at *
    k_steps
    all_goals (refine Stop.mk ?_)
    · refine ⟨_, _, _, rfl, F', N', off', trivial, rfl, _, _, rfl, ?_⟩
      rw [if_pos ‹_›]
    · refine ⟨_, _, _, rfl, F', N', off', trivial, rfl, ?_⟩
      rw [if_neg ‹_›]
  clear hRg F6 N6r hk6
  unfold KPfDone
  intro ys8 hI8 hL8
  k_steps
  refine Stop.mk ?_
  k_dflt (refine KM.len_K (by k_asm) (by k_mem) (hI8.length.trans (comp12 hK12 hKb)) (by omega) ?_)
  k_steps
  refine Stop.mk ?_
  rename_i D8 h8 tk8 F8 N8 o8
  rw [hrd] at hi9
  k_dflt (refine kba_turn (value' := PySem.Expr.Name (PySem.Str.ofString "_") ⟨0, 0, 0, 0⟩) (fun _ => rfl) ?_)
  k_dflt (refine' kmk_slice_ints (c := ((dig 1 x 12).take (Int.ofNat K).toNat).length) F8 N8 ?z1 ?z2 ?z3 hi9 (kmk_upto hi9 (Int.natCast_nonneg K)) rfl ?_ ?z4 ?z5 ?z6; (case z1 => kmk_list); (case z2 => kmk_part); (case z3 => kmk_part); (case z4 => with_unfolding_all rfl); (case z5 => kmk_pure); (case z6 => (refine kmk_sz hi9 ?_; rw [sizeLine_eq, dig_len]; omega)))
  intro D9 ws9 h9 F9 N9 l91 hI9 hC9 hL9
  clear F8 N8
  k_steps
  refine Stop.mk ?_
  rw [if_neg (by rw [Int.toNat_natCast, dig_take 1 x hK12]; simp)]
  replace N9 := cb_drop (news := (L + 1 + 1 + 1, oD2) :: (d1, listOf vs1.toArray c1) :: (70, o2') :: (L + 1 + 1, oT2) :: (77, o1) :: W1) N9 (by intro p hp; simp only [List.mem_cons] at hp ⊢; grind)
  clear l91 hI9 hC9 hL9 o8 l9 hi9 hI8 hL8
  k_steps
  refine Stop.mk ?_
  k_dflt (refine LCt.CompSrcT.ledger (its := vs1.toArray) (k := c1) (by rfl) F9 N9 (by k_mem) ?sz2 ?_)
  case sz2 => refine kmk_sz hi1 ?_; rw [sizeLine_eq, dig_len]; omega
  intro g2
  refine kci_list (fun l _ => l) hi1 ?turn2 ?_ ?gr2
  case gr2 => intro a b; dsimp only; omega
  case turn2 =>
    intro k' t' I' oI' C' oC' D' m' ys' l' h' tk' E' hlo' hI' hC' hx' F' N' off' ne' hm'
    clear F9 N9
    try dsimp only at *
    k_steps
    refine Stop.mk ?_
    exact ⟨_, _, _, rfl, F', N', off', .inr ⟨_, by k_mem, rfl, _, rfl⟩, rfl, rfl⟩
  unfold KPfDone
  rw [foldl_same]
  intro ys8 hI8 hL8
  clear F9 N9
  k_steps
  refine Stop.mk ?_
  rw [if_neg (by decide)]
  rename_i F10 N10 l10
  replace N10 := cb_drop (news := (L + 1 + 1 + 1, oD2) :: (d1, listOf vs1.toArray c1) :: (70, o2') :: (L + 1 + 1, oT2) :: (77, o1) :: W1) N10 (by intro p hp; simp only [List.mem_cons] at hp ⊢; grind)
  clear l10
  k_steps
  refine Stop.mk ?_
  k_dflt (refine KM.len_K (by k_asm) (by k_mem) (hi1.length.trans (dig_len _ _ _)) (by omega) ?_)
  k_steps
  refine Stop.mk ?_
  rename_i D11 h11 F11 N11 i11 n11 s11 e11 q11 r11 l11
  k_dflt (refine' kmk_add_ints F11 N11 ?z1 ?z2 hi1 i11 ?_ ?z3; (case z1 => kmk_list); (case z2 => kmk_list); (case z3 => (rw [sizeLine_eq, dig_len, e11]; omega)))
  intro D12 ws12 h12 F12 N12 l12 hI12
  rw [dig_pad hKx hK12] at hI12
  have N13 := cb_drop (news := (L + 1 + 1 + 1, oD2) :: (D12, listOf ws12.toArray 0) :: (70, o2') :: (L + 1 + 1, oT2) :: (77, o1) :: W1) N12 (by intro p hp; simp only [List.mem_cons] at hp ⊢; grind)
  have hD12 : @LT.lt Nat _ (L + 1 + 1 + 1) D12 := l12 (L + 1 + 1 + 1, oD2) (by simp)
  clear F11 N11 i11 n11 s11 e11 q11 r11 l11 N12
  have offE : ∀ p ∈ ((D12, listOf ws12.toArray 0) :: (70, o2') :: (L + 1 + 1, oT2) :: (77, o1) :: W1), p.1 ≠ L + 1 + 1 + 1 := by
    intro p hp
    rcases List.mem_cons.mp hp with rfl | hp
    · refine neN ?_; omega
    exact offD p (List.mem_cons_of_mem _ hp)
  k_dflt (refine' storeX_C F12 N13 ?hcl (UpdF.head offE) dD2 ?_ ?hk2 ?hx2; (case hcl => rfl); (case hk2 => rfl); (case hx2 => rfl))
  intro h14 oD3 F14 N14 dD3
  clear F12 N13
  (try dsimp only at N14)
  k_steps
  rename_i F14 N14 tk14 h15 tk15 t15 u15 v15 hRg F15 N15 hk15
  refine Stop.mk ?_
  clear F14 N14 l12
  k_dflt (refine LCg.CompSrc.range (by rfl) F15 N15 hRg (by decide) (by rfl) (by exact Nat.le_of_ble_eq_true rfl) ?_)
  intro g3
  refine kcf_range (fun k => Builtin.bitXor ((dig 1 x 13).getD k.toNat 0) ((dig 1 x 13).getD (k + 1).toNat 0)) ?turn3 ?_
  case turn3 =>
    intro k' t' I' oI' C' oC' D' m' ys' h' tk' E' hlo' hhi' hC' hx' F' N' off' ne' hm'
    clear hRg F15 N15 hk15
    try dsimp only at *
    k_steps
    refine Stop.mk ?_
    k_dflt (refine item_list_ints (News.isList N' (by k_mem)) hI12 hlo' (by rw [dig_len]; omega) (by omega) (fun t9 => ?_) (by with_unfolding_all rfl) (by intro _; with_unfolding_all rfl))
    k_steps
    refine Stop.mk ?_
    k_dflt (refine item_list_ints (News.isList N' (by k_mem)) hI12 (k := k' + 1) (by omega) (by rw [dig_len]; omega) (by omega) (fun t9 => ?_) (by with_unfolding_all rfl) (by intro _; with_unfolding_all rfl))
    k_steps
    refine Stop.mk ?_
    exact ⟨_, _, _, rfl, F', N', off', trivial, rfl, _, rfl⟩
  unfold KPfDone
  intro ys8 hI8
  clear hRg F15 N15 hk15
  intro D16 h16 tk16 F16 N16 o16
  try dsimp only
  obtain ⟨hab, hrt, hp, hcb, hr, hcells, hdig, hm1, hm2, hlay, h0m, hpp, hnext⟩ := H9
  have k2c : TabFull posI qI o2' (ex1 ++ R) := hTF1
  have hRI9 : ∀ q ∈ ex1 ++ R, q.1 ≠ I := by
    intro q hq
    rcases List.mem_append.mp hq with hq | hq
    · exact Nat.ne_of_gt (hex1 q hq (I, oI) (by rw [hW]; simp))
    · exact hI q (by simp [hq])
  have k1c : TabOk posD qD o1 (ex1 ++ R) := by
    rcases hT1' with e | ⟨c', oc, vs, t, e1, e2, e3, e4⟩
    · exact .inl e
    · exact .inr ⟨c', oc, vs, t, e1, List.mem_append_right _ e2, e3, e4⟩
  refine law_tail (C := D16) (E := D12) (W := W1) (R := ex1 ++ R) (code := codeF x) B XK TT hL hIL hID ?_ ?_ ?_ hRI9 hRI1 hD12 k1c k2c dT2 dD3 F16 N16 hT0 hT1 hab hrt hx hp hI8 ?_ hcb hr hI12 hfit hcells hdig hm1 hm2 hlay h0m hpp hnext
  · rw [hW1, hW]; simp
  · rw [hW1, hW]; simp
  · intro q hq
    rw [hW1, hW]
    rcases List.mem_append.mp hq with hq | hq
    · exact List.mem_append_left _ hq
    · exact List.mem_append_right _ (.tail _ (.tail _ hq))
  · unfold codeF; rw [rangeKs_12]; rfl
end Mine
end -- P10

section -- M0
open PySem PySem.W PyProof.Rows PySem.Calls
namespace Mine
local macro_rules | `(tactic| walk_at "execs cons") => `(tactic| (k_here; (refine gen_toks (fun tk9 => ?_)); (with_reducible refine wpAny_execs_cons ?_); (try dsimp only)))
local macro_rules | `(tactic| walk_at "execs nil") => `(tactic| (k_here; (refine gen_toks (fun tk9 => ?_)); refine wpAny_execs_nil ?_))
local macro_rules | `(tactic| walk_at "ite") => `(tactic| refine Stop.out ?_)
local macro_rules | `(tactic| walk_at "call ref") => `(tactic| refine Stop.out ?_)
local macro_rules | `(tactic| walk_at "call ref") => `(tactic| (k_here; (with_reducible show wpAny _ _ (call (Value.ref 103) _) _ _ _); k_dflt (refine' Does.use (row _ _ _ _ _ _ _ ?ka ?kb ?kc ?ke ?kf ?kg) ?k1 ?k2 ?k3 ?k4 ?k5 ?kK ?kd ?ku ?_; (case k1 => k_asm); (case k2 => k_asm); (case k3 => k_asm); (case k4 => k_asm); (case k5 => k_asm); (case kK => first | exact rfl | assumption); (case ka => exact Int.fmod_nonneg_of_pos _ (by decide)); (case kb => exact Int.fmod_lt_of_pos _ (by decide)); (case kc => exact Int.fmod_nonneg_of_pos _ (by decide)); (case ke => exact Int.fmod_lt_of_pos _ (by decide)); (case kf => exact Int.fmod_nonneg_of_pos _ (by decide)); (case kg => exact Int.fmod_lt_of_pos _ (by decide)); (case kd => ktr_room); (case ku => ktr_units); intro v9 n9 h9 tk9 ho9 F9 N9; obtain ⟨t19, e19, e29⟩ := ho9; subst e19; subst e29; (try dsimp only); (try k_fold))))
local macro_rules | `(tactic| walk_at "exec For Name ListComp cons nil") => `(tactic| refine Stop.out ?_)
local macro_rules | `(tactic| walk_at "exec For Name ListComp") => `(tactic| refine Stop.out ?_)
local macro_rules | `(tactic| walk_at "exec For") => `(tactic| refine Stop.out ?_)
theorem frame_named {h₀ h : Heap} {L : Addr} {S kd T Ab : Int} {tx tt ta : Tok} {m : Str → Option Value}
    (F : Fr h₀ L h (fun y => if y = Str.ofString "text" then some (.str (rowP S kd T 12) tx) else if y = Str.ofString "turn" then some (.int T tt) else if y = Str.ofString "above" then some (.int Ab ta) else m y)) :
    ∃ (S' kd' T' Ab' : Int) (tx' tt' ta' : Tok) (m' : Str → Option Value), S' = S ∧ kd' = kd ∧ T' = T ∧ Ab' = Ab ∧ Fr h₀ L h (fun y => if y = Str.ofString "text" then some (.str (rowP S' kd' T' 12) tx') else if y = Str.ofString "turn" then some (.int T' tt') else if y = Str.ofString "above" then some (.int Ab' ta') else m' y) :=
  ⟨S, kd, T, Ab, tx, tt, ta, m, rfl, rfl, rfl, rfl, F⟩
set_option maxRecDepth 100000 in
theorem big {P : Params} {h : Heap} (X : (hd.heap_39 P).In h) : @LT.lt Nat _ 77 h.objs.size := by
  have e : ((hd.heap_39 P).lookup 89).isSome = true := by kernel_rfl
  obtain ⟨o, ho⟩ := Option.isSome_iff_exists.mp e
  exact Nat.lt_trans (by decide) (Heap.lt_size (X _ _ ho))
theorem TabOk.tab {pos : Pos} {q : Str} {o : Obj} {R : List (Addr × Obj)} (h : TabOk pos q o R) : ∃ ps, o = tabObj ps := by
  rcases h with e | ⟨_, _, _, _, e, _⟩
  · exact ⟨_, e⟩
  · exact ⟨_, e⟩
theorem step_ok {S T : Int} {ab : Nat} (hab : ab < 4096) (hT0 : 0 ≤ T) (hT1 : T < 12) (i : Nat) : ∃ x : Nat, x < 4096 ∧ (S + (i : Int)).fmod 4096 = (x : Int) ∧
    (∀ k, Fits (rowP (Int.fmod (S + (i : Int)) 4096) ((ab : Int).fmod 16) T 12) (Int.fmod k 12)) ∧ digR (rowP (Int.fmod (S + (i : Int)) 4096) ((ab : Int).fmod 16) T 12) T 12 = dig 1 x 12 ∧
    ∃ p rt, TurnOk (fun i => rowP (Int.fmod (S + (i : Int)) 4096) ((ab : Int).fmod 16) T 12) i x p rt ab T := by
  have h0 : 0 ≤ (S + (i : Int)).fmod 4096 := Int.fmod_nonneg_of_pos _ (by decide)
  have h1 : (S + (i : Int)).fmod 4096 < 4096 := Int.fmod_lt_of_pos _ (by decide)
  obtain ⟨x, hx⟩ : ∃ x : Nat, (S + (i : Int)).fmod 4096 = (x : Int) := ⟨((S + (i : Int)).fmod 4096).toNat, by omega⟩
  have hx1 : (S + ((i + 1 : Nat) : Int)).fmod 4096 = (((x + 1) % 4096 : Nat) : Int) := by
    rw [Int.fmod_eq_emod_of_nonneg _ (by decide)] at hx ⊢
    omega
  have hxl : x < 4096 := by omega
  obtain ⟨a, b, c⟩ := turn_ok (X := fun i => rowP (Int.fmod (S + (i : Int)) 4096) ((ab : Int).fmod 16) T 12) (i := i) hxl hab hT0 hT1 (by rw [hx]) (by rw [hx1])
  exact ⟨x, hxl, hx, a, b, c⟩
theorem steps_get {S : Int} {ys : List Value} (h : IntsAre ys (List.map (fun k' => (S + k').fmod 4096) (rangeKs 0 (4 - 0 : Int).toNat))) {i : Nat} {v : Value} (hv : ys[i]? = some v) : ∃ t, v = .int ((S + (i : Int)).fmod 4096) t := by
  have hl := h.length
  have e : rangeKs 0 (4 - 0 : Int).toNat = [0, 1, 2, 3] := by decide
  rw [e] at h hl
  have hi : i < ys.length := (List.getElem?_eq_some_iff.mp hv).1
  rw [hl] at hi
  have hi : i < 4 := hi
  have h4 : i = 0 ∨ i = 1 ∨ i = 2 ∨ i = 3 := by omega
  obtain ⟨t, ht⟩ := h.get i ((S + (i : Int)).fmod 4096) (by rcases h4 with e | e | e | e <;> subst e <;> rfl)
  rw [hv] at ht
  exact ⟨t, Option.some.inj ht⟩
set_option maxRecDepth 100000 in
set_option maxHeartbeats 4000000 in
theorem t0 : PySem.Challenge.rw_op0053_01.Holds := hd (by
  k_with_none
  w_top off
  k_go0
  (all_goals try k_fold)
  k_steps
  refine Stop.mk ?_
  refine wpAny_mono (E := fun _ _ => False) ?_ (fun _ _ h => h) (fun _ _ h => h.elim)
  refine wpAny_For ?_ (by intro _; with_unfolding_all rfl)
  k_steps
  rename_i gq hI8 hL8 D h6 tk6 F6 N6 o6
  (rename Top topProg _ _ _ _ _ => T'); (rename Below _ _ _ _ => B'); (rename Frag.In _ _ => X')
  have N7 := cb_drop (news := (_, _) :: (_, _) :: (77, _) :: (70, _) :: (D, LCg.lst ys) :: []) N6 (List.forall_mem_cons.mpr ⟨.tail _ (.tail _ (.tail _ (.tail _ (.tail _ (.head _))))), List.forall_mem_cons.mpr ⟨.tail _ (.tail _ (.tail _ (.tail _ (.tail _ (.tail _ (.head _)))))), List.forall_mem_cons.mpr ⟨.tail _ (.tail _ (.tail _ (.tail _ (.tail _ (.tail _ (.tail _ (.tail _ (.head _)))))))), List.forall_mem_cons.mpr ⟨.tail _ (.tail _ (.tail _ (.tail _ (.tail _ (.tail _ (.tail _ (.tail _ (.tail _ (.head _))))))))), List.forall_mem_cons.mpr ⟨.head _, List.forall_mem_nil _⟩⟩⟩⟩⟩)
  obtain ⟨S, kd, T, Ab, tx, tt, ta, mm, eS, ek, eT, eA, F7⟩ := frame_named F6
  have hS0 : 0 ≤ S := by rw [eS]; exact Int.fmod_nonneg_of_pos _ (by decide)
  have hS1 : S < 4096 := by rw [eS]; exact Int.fmod_lt_of_pos _ (by decide)
  have hA0 : 0 ≤ Ab := by rw [eA]; exact Int.fmod_nonneg_of_pos _ (by decide)
  have hA1 : Ab < 4096 := by rw [eA]; exact Int.fmod_lt_of_pos _ (by decide)
  have hT0 : 0 ≤ T := by rw [eT]; exact Int.fmod_nonneg_of_pos _ (by decide)
  have hT1 : T < 12 := by rw [eT]; exact Int.fmod_lt_of_pos _ (by decide)
  have ekd : kd = Ab.fmod 16 := by rw [ek, eA]
  have hI9 : IntsAre ys (List.map (fun k' => (S + k').fmod 4096) (rangeKs 0 (4 - 0 : Int).toNat)) := by rw [eS]; exact hI8
  clear hI8 hL8 F6 N6 eS ek eT eA
  subst ekd
  obtain ⟨ab, rfl⟩ : ∃ ab : Nat, Ab = (ab : Int) := ⟨Ab.toNat, by omega⟩
  have hab : ab < 4096 := by omega
  have e1 : lawScope = lawScope := rfl
  conv at e1 => rhs; whnf
  have e2 : lawBody = lawBody := rfl
  conv at e2 => rhs; whnf
  have e3 : lawTarget = lawTarget := rfl
  conv at e3 => rhs; whnf
  rw [← e1, ← e2, ← e3]
  have hL : @LT.lt Nat _ 77 _ := big X'
  rw [hideAll_size] at hL
  k_dflt (refine list_for (oL := LCg.lst ys) (vs := ys) rfl (fun _ _ => rfl) (fun h e => ⟨_, e, rfl, _, rfl⟩) F7 N7 (.tail _ (.tail _ (.tail _ (.tail _ (.head _))))) (LawJ _ D (LCg.lst ys) (ab : Int) T ta tt (fun i => rowP (Int.fmod (S + (i : Int)) 4096) ((ab : Int).fmod 16) T 12)) ⟨rfl, rfl, ⟨tx, ?_⟩, _, _, _, _, [], _, _, rfl, by assumption, by assumption, .inl rfl, .inl rfl, fun _ h => nomatch h⟩ ?_ ?_ ?_)
  · have e0 : (S + ((0 : Nat) : Int)).fmod 4096 = S := by
      rw [Int.fmod_eq_emod_of_nonneg _ (by decide)]; omega
    rw [e0]; rfl
  · intro i m n J
    obtain ⟨oD, oT, o1, o2, R, vT, vD, rfl, _⟩ := J.led
    simp
  · intro i v m n h tk I oI hv J hI0 hI1 F8 N8
    obtain ⟨x, hx, ex, hfit, hrd, p, rt, H9⟩ := step_ok (S := S) hab hT0 hT1 i
    obtain ⟨t, rfl⟩ := steps_get hI9 hv
    rw [ex]
    have hFar : Far _ D := ⟨Ne.symm o6.2.2.2.2.2.2.2.2, Ne.symm o6.2.2.2.2.2.2.2.1, Ne.symm o6.2.2.2.2.2.1, Ne.symm o6.2.2.2.2.1⟩
    rename Shared => sA
    refine wpAny_mono (law_turn (s := { heap := h6, gens := sA.gens, drawn := sA.drawn, toks := tk6, os := sA.os }) (Q := fun _ _ => False) B' X' T' hL hFar (hI0 _ (.head _)) (hI0 _ (.tail _ (.tail _ (.tail _ (.tail _ (.head _)))))) J hI1 F8 N8 hx hfit hrd hT0 hT1 H9) (fun _ _ h2 => wpAny_mono h2 (fun f _ hf => ?_) (fun _ _ q => q)) (fun _ _ q => q)
    cases f with
    | next => exact hf
    | cont => exact hf
    | brk => exact hf.elim
    | ret v => exact hf.elim
  · intro m n h tk J F8 N8
    clear F7 N7
    rw [e1]
    obtain ⟨oD, oT, o1, o2, R, vT, vD, rfl, -, -, k1, k2, -⟩ := J.led
    obtain ⟨p1, rfl⟩ := k1.tab
    obtain ⟨p2, rfl⟩ := k2.tab
    clear J k1 k2 hI9 o6 e1 e2 e3 T'
    k_steps
    done)
end Mine
end -- M0
theorem PySem.Challenge.cw_op0053_01_holds : PySem.Challenge.rw_op0053_01.Holds := by
  exact Mine.t0
