import PyProof.Rows.All
import Wide.All
import OpenK.AllK
import KE.BitLaws
import PyProof.NoPylong
import KE.KRevIter
import OpenK.KUnr
import PyProof.ListStr
import KE.KListMore
import KE.KEqSeq
import KE.KLam
import KE.KPopAny
import KE.KOwnIter
import KE.KDictIter
import PyProof.StrLawsTight
import KE.LcTurns
import PyProof.WalksMore
import PyProof.StrWalks
import PyProof.CompMap
import PyProof.CollectIter
import Wide.FinOn
import Lean
import PySem.Challenge.RW_ty0035_02
open PySem PySem.W PyProof.Rows PySem.Spec PySem.Calls
set_option Elab.async false
set_option linter.unusedSimpArgs false
set_option linter.unusedVariables false
set_option linter.unusedSectionVars false
set_option maxRecDepth 100000
set_option maxHeartbeats 16000000
set_option compiler.extract_closed false
namespace Mine
section
noncomputable def keepAt (b : List Stmt) (l : List Nat) : List Stmt := l.map fun i => b.getD i (.Pass ⟨0, 0, 0, 0⟩)
noncomputable def view : Program := { Challenge.pw_ty0035_02 with main := { Challenge.pw_ty0035_02.main with body := keepAt Challenge.pw_ty0035_02.main.body [1, 2, 3, 4, 5, 6, 7, 9, 11, 12, 14, 16, 17, 18, 19, 20, 21, 22, 23] } }
-- the head in one piece, shown by the kernel at once: the compiled file stays small
local macro_rules | `(tactic| o_law) => `(tactic| (refine holds_law (by decide +kernel) fun _ => ?_))
local macro_rules | `(tactic| o_head $H) => `(tactic| (
  refine holds_open (q := Mine.view) (loose := []) (Xt := fun s => xlAt Mine.view [] s && recOk (RowW.records (OpenRow.toRowW (OpenLaw.row Challenge.rw_ty0035_02))) s) (XP := XL Mine.view []) (Yf := Hook.obs $H) (Ya := Hook.val $H) (YP := Hook.says $H) (N := 1930) ?hl (Hook.of $H) (Hook.keeps $H) (fun s e => xl_of s (Bool.and_eq_true_iff.mp e).1) XL.keeps (by rfl) (by rfl) (by rfl) (fun s e => recFacts_of (Bool.and_eq_true_iff.mp e).2) (by rfl) (by first | assumption | decide +kernel) (by decide +kernel) ⟨rfl, rfl, rfl, rfl, rfl, by decide +kernel⟩ ?hw ?hc
  case hl => exact fun w => by kernel_rfl))
open_top hd02 for PySem.Challenge.rw_ty0035_02
end
theorem z_ne1 {a b : Nat} (h : a + 1 ≤ b) : a ≠ b := Nat.ne_of_lt h
theorem z_ne2 {a b : Nat} (h : b + 1 ≤ a) : a ≠ b := Nat.ne_of_gt h
theorem zp1 {A1 A2 : Prop} (h : A1 ∧ A2) : A1 := h.1
theorem ze1 {A1 A2 : Prop} (h : A1 ∧ A2) : A2 := h.2
theorem zp2 {A1 A2 A3 : Prop} (h : A1 ∧ A2 ∧ A3) : A2 := h.2.1
theorem ze2 {A1 A2 A3 : Prop} (h : A1 ∧ A2 ∧ A3) : A3 := h.2.2
theorem zp3 {A1 A2 A3 A4 : Prop} (h : A1 ∧ A2 ∧ A3 ∧ A4) : A3 := h.2.2.1
theorem ze3 {A1 A2 A3 A4 : Prop} (h : A1 ∧ A2 ∧ A3 ∧ A4) : A4 := h.2.2.2
theorem zp4 {A1 A2 A3 A4 A5 : Prop} (h : A1 ∧ A2 ∧ A3 ∧ A4 ∧ A5) : A4 := h.2.2.2.1
theorem ze4 {A1 A2 A3 A4 A5 : Prop} (h : A1 ∧ A2 ∧ A3 ∧ A4 ∧ A5) : A5 := h.2.2.2.2
theorem zp5 {A1 A2 A3 A4 A5 A6 : Prop} (h : A1 ∧ A2 ∧ A3 ∧ A4 ∧ A5 ∧ A6) : A5 := h.2.2.2.2.1
theorem ze5 {A1 A2 A3 A4 A5 A6 : Prop} (h : A1 ∧ A2 ∧ A3 ∧ A4 ∧ A5 ∧ A6) : A6 := h.2.2.2.2.2
theorem zp6 {A1 A2 A3 A4 A5 A6 A7 : Prop} (h : A1 ∧ A2 ∧ A3 ∧ A4 ∧ A5 ∧ A6 ∧ A7) : A6 := h.2.2.2.2.2.1
theorem ze6 {A1 A2 A3 A4 A5 A6 A7 : Prop} (h : A1 ∧ A2 ∧ A3 ∧ A4 ∧ A5 ∧ A6 ∧ A7) : A7 := h.2.2.2.2.2.2
theorem zp7 {A1 A2 A3 A4 A5 A6 A7 A8 : Prop} (h : A1 ∧ A2 ∧ A3 ∧ A4 ∧ A5 ∧ A6 ∧ A7 ∧ A8) : A7 := h.2.2.2.2.2.2.1
theorem ze7 {A1 A2 A3 A4 A5 A6 A7 A8 : Prop} (h : A1 ∧ A2 ∧ A3 ∧ A4 ∧ A5 ∧ A6 ∧ A7 ∧ A8) : A8 := h.2.2.2.2.2.2.2
theorem zp8 {A1 A2 A3 A4 A5 A6 A7 A8 A9 : Prop} (h : A1 ∧ A2 ∧ A3 ∧ A4 ∧ A5 ∧ A6 ∧ A7 ∧ A8 ∧ A9) : A8 := h.2.2.2.2.2.2.2.1
theorem ze8 {A1 A2 A3 A4 A5 A6 A7 A8 A9 : Prop} (h : A1 ∧ A2 ∧ A3 ∧ A4 ∧ A5 ∧ A6 ∧ A7 ∧ A8 ∧ A9) : A9 := h.2.2.2.2.2.2.2.2
theorem zp9 {A1 A2 A3 A4 A5 A6 A7 A8 A9 A10 : Prop} (h : A1 ∧ A2 ∧ A3 ∧ A4 ∧ A5 ∧ A6 ∧ A7 ∧ A8 ∧ A9 ∧ A10) : A9 := h.2.2.2.2.2.2.2.2.1
theorem ze9 {A1 A2 A3 A4 A5 A6 A7 A8 A9 A10 : Prop} (h : A1 ∧ A2 ∧ A3 ∧ A4 ∧ A5 ∧ A6 ∧ A7 ∧ A8 ∧ A9 ∧ A10) : A10 := h.2.2.2.2.2.2.2.2.2
theorem zp10 {A1 A2 A3 A4 A5 A6 A7 A8 A9 A10 A11 : Prop} (h : A1 ∧ A2 ∧ A3 ∧ A4 ∧ A5 ∧ A6 ∧ A7 ∧ A8 ∧ A9 ∧ A10 ∧ A11) : A10 := h.2.2.2.2.2.2.2.2.2.1
theorem ze10 {A1 A2 A3 A4 A5 A6 A7 A8 A9 A10 A11 : Prop} (h : A1 ∧ A2 ∧ A3 ∧ A4 ∧ A5 ∧ A6 ∧ A7 ∧ A8 ∧ A9 ∧ A10 ∧ A11) : A11 := h.2.2.2.2.2.2.2.2.2.2
theorem zp11 {A1 A2 A3 A4 A5 A6 A7 A8 A9 A10 A11 A12 : Prop} (h : A1 ∧ A2 ∧ A3 ∧ A4 ∧ A5 ∧ A6 ∧ A7 ∧ A8 ∧ A9 ∧ A10 ∧ A11 ∧ A12) : A11 := h.2.2.2.2.2.2.2.2.2.2.1
theorem ze11 {A1 A2 A3 A4 A5 A6 A7 A8 A9 A10 A11 A12 : Prop} (h : A1 ∧ A2 ∧ A3 ∧ A4 ∧ A5 ∧ A6 ∧ A7 ∧ A8 ∧ A9 ∧ A10 ∧ A11 ∧ A12) : A12 := h.2.2.2.2.2.2.2.2.2.2.2
theorem zp12 {A1 A2 A3 A4 A5 A6 A7 A8 A9 A10 A11 A12 A13 : Prop} (h : A1 ∧ A2 ∧ A3 ∧ A4 ∧ A5 ∧ A6 ∧ A7 ∧ A8 ∧ A9 ∧ A10 ∧ A11 ∧ A12 ∧ A13) : A12 := h.2.2.2.2.2.2.2.2.2.2.2.1
theorem ze12 {A1 A2 A3 A4 A5 A6 A7 A8 A9 A10 A11 A12 A13 : Prop} (h : A1 ∧ A2 ∧ A3 ∧ A4 ∧ A5 ∧ A6 ∧ A7 ∧ A8 ∧ A9 ∧ A10 ∧ A11 ∧ A12 ∧ A13) : A13 := h.2.2.2.2.2.2.2.2.2.2.2.2
local macro_rules | `(tactic| omega) => `(tactic| first | with_reducible assumption | with_reducible exact Ne.symm (by assumption) | with_reducible exact Nat.le_refl _ | (with_reducible refine And.intro ?_ ?_ <;> omega) | (with_reducible refine Nat.max_le.mpr (And.intro ?_ ?_) <;> omega) | with_reducible exact zp1 (by assumption) | with_reducible exact zp2 (by assumption) | with_reducible exact zp3 (by assumption) | with_reducible exact zp4 (by assumption) | with_reducible exact zp5 (by assumption) | with_reducible exact zp6 (by assumption) | with_reducible exact zp7 (by assumption) | with_reducible exact zp8 (by assumption) | with_reducible exact zp9 (by assumption) | with_reducible exact zp10 (by assumption) | with_reducible exact zp11 (by assumption) | with_reducible exact zp12 (by assumption) | with_reducible exact ze1 (by assumption) | with_reducible exact ze2 (by assumption) | with_reducible exact ze3 (by assumption) | with_reducible exact ze4 (by assumption) | with_reducible exact ze5 (by assumption) | with_reducible exact ze6 (by assumption) | with_reducible exact ze7 (by assumption) | with_reducible exact ze8 (by assumption) | with_reducible exact ze9 (by assumption) | with_reducible exact ze10 (by assumption) | with_reducible exact ze11 (by assumption) | with_reducible exact ze12 (by assumption) | with_reducible exact z_ne1 (by assumption) | with_reducible exact z_ne2 (by assumption) | lia)
section
noncomputable abbrev topL : List Str := looseW view [] ++ (recsOf view).map (·.name) ++ (litsOf view).map (·.1) ++ (clssOf view (looseW view [])).map (·.name)
theorem if_ff {p q : Prop} (h : q) : if (false = true) then p else q := by rw [if_neg (by decide)]; exact h
theorem if_tt {p q : Prop} (h : p) : if (true = true) then p else q := by rw [if_pos rfl]; exact h
noncomputable abbrev Led := List (Addr × Obj)
noncomputable def topA : Led → Nat
  | [] => 0
  | p :: r => max (p.1 + 1) (topA r)
theorem topA_nil : topA [] = 0 := rfl
theorem topA_cons (p : Addr × Obj) (r : Led) : topA (p :: r) = max (p.1 + 1) (topA r) := rfl
theorem topA_app (a b : Led) : topA (a ++ b) = max (topA a) (topA b) := by
  induction a with
  | nil => rw [List.nil_append, topA_nil, Nat.zero_max]
  | cons p r ih => rw [List.cons_append, topA_cons, topA_cons, ih, Nat.max_assoc]
theorem topA_of {d : Nat} {r : Led} (h : ∀ p ∈ r, p.1 < d) : topA r ≤ d := by
  induction r with
  | nil => exact Nat.zero_le _
  | cons p r ih =>
    have h1 : @LT.lt Nat _ p.1 d := h p (.head _)
    have h2 := ih fun q hq => h q (.tail _ hq)
    rw [topA_cons]
    omega
theorem topA_lt {d : Nat} {r : Led} (h : topA r ≤ d) : ∀ p ∈ r, p.1 < d := by
  induction r with
  | nil => intro p hp; cases hp
  | cons p r ih =>
    rw [topA_cons] at h
    intro q hq
    rcases List.mem_cons.mp hq with e | hq
    · subst e; show @LT.lt Nat _ q.1 d; omega
    · exact ih (by omega) q hq
theorem topA_ne {d : Nat} {r : Led} (h : topA r ≤ d) : ∀ p ∈ r, p.1 ≠ d := fun p hp => Nat.ne_of_lt (topA_lt h p hp)
theorem zl_ap {A P : Prop} (h : A) (f : A → P) : P := f h
theorem zl_end {r : Led} {d : Nat} (h : topA r ≤ d) : topA r ≤ d := h
theorem zl_last {a : Addr} {o : Obj} {d : Nat} (h : topA [(a, o)] ≤ d) : a + 1 ≤ d := (Nat.max_le.mp h).1
theorem zl_cons {a : Addr} {o : Obj} {r : Led} {d : Nat} {P : Prop} (f : topA r ≤ d → P) (h : topA ((a, o) :: r) ≤ d) : a + 1 ≤ d ∧ P := ⟨(Nat.max_le.mp h).1, f (Nat.max_le.mp h).2⟩
theorem zl_app {x y : Led} {d : Nat} {P S : Prop} (f : topA x ≤ d → P) (g : topA y ≤ d → S) (h : topA (x ++ y) ≤ d) : P ∧ S := by
  rw [topA_app] at h
  exact ⟨f (Nat.max_le.mp h).1, g (Nat.max_le.mp h).2⟩
theorem zr_nil {d : Nat} : topA [] ≤ d := Nat.zero_le d
theorem zr_cons {a : Addr} {o : Obj} {r : Led} {d : Nat} (h : a + 1 ≤ d) (k : topA r ≤ d) : topA ((a, o) :: r) ≤ d := Nat.max_le.mpr ⟨h, k⟩
theorem zr_app {x y : Led} {d : Nat} (h : topA x ≤ d) (k : topA y ≤ d) : topA (x ++ y) ≤ d := by
  rw [topA_app]
  exact Nat.max_le.mpr ⟨h, k⟩
noncomputable abbrev listO (vs : List Value) (n : Nat) : Obj := { cls := .type "list", data := .seq vs.toArray n }
noncomputable abbrev tupO (vs : List Value) : Obj := { cls := .type "tuple", data := .seq vs.toArray }

noncomputable def Tel (w : World) (d u : Nat) (f : Value) (args : List Value) (news : Led) (R : Value → Led → Prop) : Prop :=
  ∀ (mean : ExcName → Option Value) (mg mb : Str → Option Value) (dp un : Nat) (gd : Option (List Code)) (cn : Str) (cs : Scope) (a : Addr) (ccd : Value) (cl : List (Str × Addr)) (outer : List Env) (A₀ : Around) (base h₀ : Heap) (L : Addr) (m : Str → Option Value) (s : Shared) (Q E : Value → Shared → Prop),
    Below A₀ base outer h₀ → Fr h₀ L s.heap m → (hd02.heap_1 w.params).In h₀ → News h₀ L s.heap news → Top topProg topL mean mg mb h₀ → CodeHd base 135 131 → CodeHd base 41 37 → CodeHd base 34 30 → cs.kind = .function → dp + d < recursionLimit → un + u < cLine →
    (∀ v h' tk' news', Fr h₀ L h' m → News h₀ L h' news' → R v news' → Q v { s with heap := h', toks := tk' }) →
    wpAny (model Challenge.rw_ty0035_02.row.prog w) (ktrTop dp un gd cn cs L a ccd cl outer) (call f args) Q E s

noncomputable def Pg : Program := Challenge.pw_ty0035_02
noncomputable def stmtAt (b : List Stmt) (i : Nat) : Stmt := b.getD i (.Pass ⟨0, 0, 0, 0⟩)
noncomputable def fBody : Stmt → List Stmt
  | .FunctionDef _ _ b .. => b
  | _ => []
noncomputable def fArgs : Stmt → Arguments
  | .FunctionDef _ a .. => a
  | _ => default
noncomputable def fScope : Stmt → Scope
  | .FunctionDef _ _ _ _ _ _ s .. => s
  | _ => default
noncomputable def fn (i : Nat) : Stmt := stmtAt Pg.main.body i
noncomputable def fnIn (i j : Nat) : Stmt := stmtAt (fBody (fn i)) j

section
variable {w : World} {d u : Nat} {f : Value} {args : List Value} {news : Led} {R : Value → Led → Prop}
theorem tel_use (H : Tel w d u f args news R) {mean : ExcName → Option Value} {mg mb : Str → Option Value} {dp un : Nat} {gd : Option (List Code)} {cn : Str} {cs : Scope} {a : Addr} {ccd : Value} {cl : List (Str × Addr)} {outer : List Env} {A₀ : Around} {base h₀ : Heap} {L : Addr} {m : Str → Option Value} {s : Shared} {Q E : Value → Shared → Prop}
    (B : Below A₀ base outer h₀) (F : Fr h₀ L s.heap m) (X : (hd02.heap_1 w.params).In h₀) (N : News h₀ L s.heap news) (T : Top topProg topL mean mg mb h₀) (C1 : CodeHd base 135 131) (C2 : CodeHd base 41 37) (C3 : CodeHd base 34 30)
    (hk : cs.kind = .function) (hd : dp + d < recursionLimit) (hu : un + u < cLine)
    (ret : ∀ v h' tk' news', Fr h₀ L h' m → News h₀ L h' news' → R v news' → Q v { s with heap := h', toks := tk' }) :
    wpAny (model Challenge.rw_ty0035_02.row.prog w) (ktrTop dp un gd cn cs L a ccd cl outer) (call f args) Q E s :=
  H mean mg mb dp un gd cn cs a ccd cl outer A₀ base h₀ L m s Q E B F X N T C1 C2 C3 hk hd hu ret
end

noncomputable def digs (n : Nat) : Nat → Int → List Int
  | 0, _ => []
  | k + 1, x => x % 2 ^ n :: digs n k (x / 2 ^ n)
theorem digs_length (n : Nat) : ∀ (k : Nat) (x : Int), (digs n k x).length = k
  | 0, _ => rfl
  | k + 1, x => by rw [digs, List.length_cons, digs_length n k]
theorem mid_is (lo hi k : Nat) (h : hi = lo + k) : ((lo : Int) + (hi : Int)).fdiv (2 ^ Int.toNat 1) = ((lo + k / 2 : Nat) : Int) := by
  subst h
  rw [Int.fdiv_eq_ediv_of_nonneg _ (by decide)]
  have : (2 : Int) ^ Int.toNat 1 = 2 := by decide
  rw [this]
  push_cast
  omega
theorem shift_is (lo j n : Nat) : (((lo + j : Nat) : Int) - (lo : Int)) * (n : Int) = ((n * j : Nat) : Int) := by
  push_cast
  rw [Int.mul_comm]
  congr 1
  omega
theorem xor_low (x : Int) (s : Nat) (h : 0 ≤ x) : Builtin.bitXor x (x.fdiv (2 ^ s) * 2 ^ s) = x % 2 ^ s := by
  obtain ⟨n, rfl⟩ := Int.eq_ofNat_of_zero_le h
  rw [Int.fdiv_eq_ediv_of_nonneg _ (by exact Int.le_of_lt (Int.pow_pos (by decide)))]
  have e1 : ((n : Int) / 2 ^ s * 2 ^ s) = ((n / 2 ^ s * 2 ^ s : Nat) : Int) := by push_cast; rfl
  have e2 : (n : Int) % 2 ^ s = ((n % 2 ^ s : Nat) : Int) := by push_cast; rfl
  have e3 : Builtin.bitAnd (n : Int) ((n / 2 ^ s * 2 ^ s : Nat) : Int) = ((n &&& (n / 2 ^ s * 2 ^ s) : Nat) : Int) := rfl
  have e4 : n &&& (n / 2 ^ s * 2 ^ s) = n / 2 ^ s * 2 ^ s := by
    apply Nat.eq_of_testBit_eq
    intro i
    rw [Nat.testBit_and, Nat.mul_comm, Nat.testBit_two_pow_mul, Nat.testBit_div_two_pow]
    by_cases hi : s ≤ i
    · simp [hi]
    · simp [hi]
  rw [e1, e2, bitXor_and, e3, e4]
  have := Nat.div_add_mod n (2 ^ s)
  rw [Nat.mul_comm] at this
  omega
theorem digs_split (n : Nat) : ∀ (i j : Nat) (x : Int), 0 ≤ x → digs n (i + j) x = digs n i (x % 2 ^ (n * i)) ++ digs n j (x / 2 ^ (n * i))
  | 0, j, x, h => by simp [digs]
  | i + 1, j, x, h => by
    have hp : ∀ m : Nat, (0 : Int) < 2 ^ m := fun m => Int.pow_pos (by decide)
    have e : i + 1 + j = (i + j) + 1 := by omega
    have em : n * (i + 1) = n + n * i := by rw [Nat.mul_succ]; omega
    rw [e, digs, digs, digs_split n i j _ (Int.ediv_nonneg h (Int.le_of_lt (hp n)))]
    rw [List.cons_append, em, Int.pow_add]
    congr 1
    · rw [Int.emod_emod_of_dvd]
      exact Int.dvd_mul_right _ _
    · congr 1
      · congr 1
        rw [Int.emod_def x (2 ^ n * 2 ^ (n * i)), Int.emod_def (x / 2 ^ n) (2 ^ (n * i)), Int.ediv_ediv_of_nonneg (Int.le_of_lt (hp n))]
        have : x - 2 ^ n * 2 ^ (n * i) * (x / (2 ^ n * 2 ^ (n * i))) = x + 2 ^ n * (-(2 ^ (n * i) * (x / (2 ^ n * 2 ^ (n * i))))) := by
          rw [Int.mul_neg, Int.mul_assoc]; rfl
        rw [this, Int.add_mul_ediv_left _ _ (Int.ne_of_gt (hp n))]
        rfl
      · congr 1
        rw [Int.ediv_ediv_of_nonneg (Int.le_of_lt (hp n))]

noncomputable def TabL (P : Addr) (line col : Int) (qual : Str) (tl : Led) : Prop :=
  tl = [(P, tabObj #[])] ∨ ∃ c' oc vs t, tl = [(c', oc), (P, tabObj #[rawInt line, rawInt col, .ref c'])] ∧ oc.data = .fields vs ∧ vs[1]? = some (.str qual t) ∧ P < c'
noncomputable def Newer (tb tb' : Led) (t : Nat) : Prop := ∀ p ∈ tb', p.1 ∈ tb.map (·.1) ∨ t ≤ p.1
theorem Newer.rfl (tb : Led) (t : Nat) : Newer tb tb t := fun p hp => .inl (List.mem_map.mpr ⟨p, hp, Eq.refl _⟩)
theorem Newer.trans {a b c : Led} {t u : Nat} (h : Newer a b t) (k : Newer b c u) (e : t ≤ u) : Newer a c t := fun p hp => by
  rcases k p hp with h1 | h1
  · obtain ⟨q, hq, e1⟩ := List.mem_map.mp h1
    rw [← e1]
    exact h q hq
  · exact .inr (Nat.le_trans e h1)
theorem Newer.off {tb tb' : Led} {t : Nat} (h : Newer tb tb' t) {d : Addr} (h1 : ∀ p ∈ tb, p.1 ≠ d) (h2 : @LT.lt Nat _ d t) : ∀ p ∈ tb', p.1 ≠ d := fun p hp e => by
  rcases h p hp with h3 | h3
  · obtain ⟨q, hq, e1⟩ := List.mem_map.mp h3
    exact h1 q hq (e1.trans e)
  · have h4 : @LE.le Nat _ t p.1 := h3
    rw [e] at h4
    omega
noncomputable abbrev qual1 : Str := Str.ofString "_int2digits" ++ ".<locals>." ++ Str.ofString "inner"
noncomputable abbrev qual2 : Str := Str.ofString "_digits2int" ++ ".<locals>." ++ Str.ofString "inner"
noncomputable def nDig (n : Nat) (a : Int) : Nat := (Builtin.Int.intBits a + n - 1) / n

theorem news_drop4 {h₀ h : Heap} {L : Addr} {a b c d : Addr × Obj} {t : Led} (N : News h₀ L h (a :: b :: c :: d :: t)) : News h₀ L h (a :: b :: c :: t) := fun p hp => N p (by
  rcases List.mem_cons.mp hp with rfl | hp
  · exact List.mem_cons_self ..
  · rcases List.mem_cons.mp hp with rfl | hp
    · exact List.mem_cons_of_mem _ (List.mem_cons_self ..)
    · rcases List.mem_cons.mp hp with rfl | hp
      · exact List.mem_cons_of_mem _ (List.mem_cons_of_mem _ (List.mem_cons_self ..))
      · exact List.mem_cons_of_mem _ (List.mem_cons_of_mem _ (List.mem_cons_of_mem _ (List.mem_cons_of_mem _ hp))))
theorem bits_pow {a : Int} (ha : 0 ≤ a) (n : Nat) (hn : 0 < n) : a < 2 ^ (n * nDig n a) := by
  have h1 : Builtin.Int.intBits a ≤ n * nDig n a := by
    unfold nDig
    have := Nat.div_add_mod (Builtin.Int.intBits a + n - 1) n
    have := Nat.mod_lt (Builtin.Int.intBits a + n - 1) hn
    omega
  have h2 := intBits_le_iff.mp h1
  have h3 : ((a.natAbs : Nat) : Int) < ((2 ^ (n * nDig n a) : Nat) : Int) := by exact_mod_cast h2
  rw [Int.natAbs_of_nonneg ha] at h3
  push_cast at h3
  exact h3
theorem nDig_pos {a : Int} (ha : a ≠ 0) (n : Nat) (hn : 0 < n) : 0 < nDig n a := by
  have h1 : 1 ≤ Builtin.Int.intBits a := by
    rcases Nat.eq_zero_or_pos (Builtin.Int.intBits a) with h | h
    · have := intBits_le_iff.mp (Nat.le_of_eq h)
      simp at this
      exact absurd this ha
    · exact h
  unfold nDig
  exact Nat.div_pos (by omega) hn
theorem nDig_zero (n : Nat) : nDig n 0 = 0 := by
  unfold nDig
  have : Builtin.Int.intBits 0 = 0 := by decide
  rw [this]
  rcases Nat.eq_zero_or_pos n with h | h
  · subst h; rfl
  · exact Nat.div_eq_of_lt (by omega)
theorem nDig_mul (a : Int) (n : Nat) : n * nDig n a ≤ Builtin.Int.intBits a + n := by
  unfold nDig
  have := Nat.div_add_mod (Builtin.Int.intBits a + n - 1) n
  omega

theorem news_warm {h₀ h : Heap} {L : Addr} {a d l i A n c : Addr × Obj} {t : Led} (N : News h₀ L h (a :: d :: l :: i :: A :: n :: c :: t)) : News h₀ L h (a :: c :: d :: i :: A :: n :: t) := fun p hp => N p (by
  simp only [List.mem_cons] at hp ⊢
  rcases hp with h | h | h | h | h | h | h <;> simp only [h, true_or, or_true])

noncomputable def undig (n : Nat) : List Int → Int
  | [] => 0
  | x :: r => x + undig n r * 2 ^ n
theorem undig_append (n : Nat) : ∀ a b : List Int, undig n (a ++ b) = undig n a + undig n b * 2 ^ (a.length * n)
  | [], b => by simp [undig]
  | x :: r, b => by
    rw [List.cons_append, undig, undig, undig_append n r b, List.length_cons, Nat.succ_mul, Int.pow_add, Int.add_mul, Int.mul_assoc, Int.add_assoc]
theorem undig_nonneg (n : Nat) : ∀ a : List Int, (∀ x ∈ a, 0 ≤ x) → 0 ≤ undig n a
  | [], _ => Int.le_refl _
  | x :: r, h => by
    rw [undig]
    have h1 := h x (.head _)
    have h2 := undig_nonneg n r fun y hy => h y (.tail _ hy)
    have h3 : (0 : Int) ≤ 2 ^ n := Int.le_of_lt (Int.pow_pos (by decide))
    have := Int.mul_nonneg h2 h3
    omega
theorem undig_lt (n : Nat) : ∀ a : List Int, (∀ x ∈ a, x < 2 ^ n) → undig n a < 2 ^ (a.length * n)
  | [], _ => by simp [undig]
  | x :: r, h => by
    rw [undig, List.length_cons, Nat.succ_mul, Int.pow_add]
    have h1 := h x (.head _)
    have h2 := undig_lt n r fun y hy => h y (.tail _ hy)
    have h3 : (0 : Int) ≤ 2 ^ n := Int.le_of_lt (Int.pow_pos (by decide))
    have h4 : (undig n r + 1) * 2 ^ n ≤ 2 ^ (r.length * n) * 2 ^ n := Int.mul_le_mul_of_nonneg_right (by omega) h3
    rw [Int.add_mul, Int.one_mul] at h4
    omega
theorem bits_of_lt {x : Int} {m : Nat} (h0 : 0 ≤ x) (h : x < 2 ^ m) : Builtin.Int.intBits x ≤ m := intBits_le_iff.mpr (by
  have : ((x.natAbs : Nat) : Int) < ((2 ^ m : Nat) : Int) := by rw [Int.natAbs_of_nonneg h0]; push_cast; exact h
  exact_mod_cast this)

theorem news_cold2 {h₀ h : Heap} {L : Addr} {f c i n d t D : Addr × Obj} {r : Led} (N : News h₀ L h (f :: c :: i :: n :: d :: t :: D :: r)) : News h₀ L h (f :: c :: D :: i :: n :: d :: t :: r) := fun p hp => N p (by
  simp only [List.mem_cons] at hp ⊢
  rcases hp with h | h | h | h | h | h | h | h <;> simp only [h, true_or, or_true])
theorem news_warm2 {h₀ h : Heap} {L : Addr} {f c i n d t D : Addr × Obj} {r : Led} (N : News h₀ L h (f :: i :: n :: d :: c :: t :: D :: r)) : News h₀ L h (f :: c :: D :: i :: n :: d :: t :: r) := fun p hp => N p (by
  simp only [List.mem_cons] at hp ⊢
  rcases hp with h | h | h | h | h | h | h | h <;> simp only [h, true_or, or_true])

noncomputable def bindAll (ps : List (Str × Value)) (m : Str → Option Value) (y : Str) : Option Value := match ps.lookup y with
  | some v => some v
  | none => m y
noncomputable def Has (m : Str → Option Value) : List (Str × Value) → Prop
  | [] => True
  | p :: r => m p.1 = some p.2 ∧ Has m r
theorem Has.at {m : Str → Option Value} : ∀ {ps : List (Str × Value)}, Has m ps → ∀ {y : Str} {v : Value}, ps.lookup y = some v → m y = some v
  | [], _, _, _, e => by cases e
  | (x, u) :: r, h, y, v, e => by
    rw [List.lookup_cons] at e
    cases hb : y == x with
    | true =>
      rw [hb] at e
      rw [eq_of_beq hb, h.1]
      exact e
    | false =>
      rw [hb] at e
      exact h.2.at e
theorem bindAll_eq {m : Str → Option Value} {ps : List (Str × Value)} (h : Has m ps) : bindAll ps m = m := by
  funext y
  unfold bindAll
  cases e : ps.lookup y with
  | none => rfl
  | some v => exact (h.at e).symm
theorem fr_all {h₀ h : Heap} {L : Addr} {m : Str → Option Value} {ps : List (Str × Value)} {z : Str} {u : Value} (hv : Has m ps) (F : Fr h₀ L h (fun y => if y = z then some u else m y)) : Fr h₀ L h (fun y => if y = z then some u else bindAll ps m y) := by
  rw [bindAll_eq hv]; exact F
theorem fr_all0 {h₀ h : Heap} {L : Addr} {m : Str → Option Value} {ps : List (Str × Value)} (hv : Has m ps) (F : Fr h₀ L h m) : Fr h₀ L h (bindAll ps m) := by
  rw [bindAll_eq hv]; exact F
inductive Tabs (tb : Led) : Prop
  | mk (t1) (t2) (zh1 : tb = t1 ++ t2) (zh2 : TabL 30 32 4 qual1 t1) (zh3 : TabL 37 47 4 qual2 t2) (zh4 : OwnOff t2 [30]) (zh5 : OwnOff t1 [37])
theorem ownOff_app {a b : Led} {l : List Addr} (h : OwnOff a l) (k : OwnOff b l) : OwnOff (a ++ b) l := fun p hp => by
  rcases List.mem_append.mp hp with q | q
  · exact h p q
  · exact k p q
theorem ownOff_cons {p : Addr × Obj} {b : Led} {l : List Addr} (h : ∀ d ∈ l, p.1 ≠ d) (k : OwnOff b l) : OwnOff (p :: b) l := fun q hq => by
  rcases List.mem_cons.mp hq with e | hq
  · rw [e]; exact h
  · exact k q hq
theorem newer_off {tb tb' : Led} {t : Nat} (h : Newer tb tb' t) {d : Addr} (h1 : OwnOff tb [d]) (h2 : @LT.lt Nat _ d t) : OwnOff tb' [d] := fun p hp e he => by
  rw [List.mem_singleton.mp he]
  exact h.off (fun q hq => h1 q hq d (List.mem_singleton.mpr rfl)) h2 p hp

section
variable {prog : Program} {w : World} {A : Around} {E : Value → Shared → Prop} {s : Shared} {env : Env} {h₀ : Heap} {x : Str} {body : List Stmt} {Q : Flow → Shared → Prop} {I : Addr} {lp : Addr × Obj}
theorem revRest_ind (Inv : List Value → (Str → Option Value) → Led → Prop)
    (zero : ∀ m news, Inv [] m news → ∀ h tk, Fr h₀ env.locals h m → News h₀ env.locals h news → Q .next { s with heap := h, toks := tk })
    (succ : ∀ v r m news, Inv (v :: r) m news → ∀ (it : Obj) h tk, it.cls = .type "list_reverseiterator" → Fr h₀ env.locals h (fun y => if y = x then some v else m y) → News h₀ env.locals h ((I, it) :: news) →
      wpAny (model prog w) A (execs body env) (UnrPost h₀ env.locals { s with heap := h, toks := tk } I it (fun m' n' => lp ∈ n' ∧ Inv r m' n') Q) E { s with heap := h, toks := tk }) :
    ∀ dv m news, Inv dv m news → RevRest prog w A E h₀ env x body Q s I lp dv m news := by
  intro dv
  induction dv with
  | nil => exact fun m news hi => RevRest.zero (zero m news hi)
  | cons v r ih =>
    intro m news hi
    refine RevRest.succ fun it h tk hc F N => wpAny_mono (succ v r m news hi it h tk hc F N) (fun f s₂ p => ?_) fun _ _ e => e
    cases f with
    | ret v => exact p
    | brk => exact p
    | next =>
      obtain ⟨h', tk', m', news', e, F', N', off, hl, hi'⟩ := p
      exact ⟨h', tk', m', news', e, F', N', off, hl, ih m' news' hi'⟩
    | cont =>
      obtain ⟨h', tk', m', news', e, F', N', off, hl, hi'⟩ := p
      exact ⟨h', tk', m', news', e, F', N', off, hl, ih m' news' hi'⟩
theorem listRest_ind (Inv : List Value → (Str → Option Value) → Led → Prop)
    (zero : ∀ m news, Inv [] m news → ∀ h tk, Fr h₀ env.locals h m → News h₀ env.locals h news → Q .next { s with heap := h, toks := tk })
    (succ : ∀ v r m news, Inv (v :: r) m news → ∀ (it : Obj) h tk, it.cls = .type "list_iterator" → Fr h₀ env.locals h (fun y => if y = x then some v else m y) → News h₀ env.locals h ((I, it) :: news) →
      wpAny (model prog w) A (execs body env) (UnrPost h₀ env.locals { s with heap := h, toks := tk } I it (fun m' n' => lp ∈ n' ∧ Inv r m' n') Q) E { s with heap := h, toks := tk }) :
    ∀ dv m news, Inv dv m news → ListRest prog w A E h₀ env x body Q s I lp dv m news := by
  intro dv
  induction dv with
  | nil => exact fun m news hi => ListRest.zero (zero m news hi)
  | cons v r ih =>
    intro m news hi
    refine ListRest.succ fun it h tk hc F N => wpAny_mono (succ v r m news hi it h tk hc F N) (fun f s₂ p => ?_) fun _ _ e => e
    cases f with
    | ret v => exact p
    | brk => exact p
    | next =>
      obtain ⟨h', tk', m', news', e, F', N', off, hl, hi'⟩ := p
      exact ⟨h', tk', m', news', e, F', N', off, hl, ih m' news' hi'⟩
    | cont =>
      obtain ⟨h', tk', m', news', e, F', N', off, hl, hi'⟩ := p
      exact ⟨h', tk', m', news', e, F', N', off, hl, ih m' news' hi'⟩
theorem rangeRest_ind {a : Int} {n : Nat} (Inv : Nat → (Str → Option Value) → Led → Prop)
    (zero : ∀ i m news, Inv i m news → i = n → ∀ h tk, Fr h₀ env.locals h m → News h₀ env.locals h news → Q .next { s with heap := h, toks := tk })
    (succ : ∀ i m news, Inv i m news → i < n → ∀ t h tk, Fr h₀ env.locals h (fun y => if y = x then some (.int (a + (i : Int)) t) else m y) →
      News h₀ env.locals h ((I, itR (a + ((i + 1 : Nat) : Int)) ((n : Int) - ((i + 1 : Nat) : Int))) :: news) →
      wpAny (model prog w) A (execs body env) (UnrPost h₀ env.locals { s with heap := h, toks := tk } I (itR (a + ((i + 1 : Nat) : Int)) ((n : Int) - ((i + 1 : Nat) : Int))) (fun m' n' => Inv (i + 1) m' n') Q) E { s with heap := h, toks := tk }) :
    ∀ k i m news, i + k = n → Inv i m news → RangeRest prog w A E h₀ env x body Q s I a n k i m news := by
  intro k
  induction k with
  | zero => exact fun i m news e hi => RangeRest.zero (zero i m news hi (by omega))
  | succ k ih =>
    intro i m news e hi
    refine RangeRest.succ fun t h tk F N => wpAny_mono (succ i m news hi (by omega) t h tk F N) (fun f s₂ p => ?_) fun _ _ e => e
    cases f with
    | ret v => exact p
    | brk => exact p
    | next =>
      obtain ⟨h', tk', m', news', e', F', N', off, hi'⟩ := p
      exact ⟨h', tk', m', news', e', F', N', off, ih (i + 1) m' news' (by omega) hi'⟩
    | cont =>
      obtain ⟨h', tk', m', news', e', F', N', off, hi'⟩ := p
      exact ⟨h', tk', m', news', e', F', N', off, ih (i + 1) m' news' (by omega) hi'⟩
end
theorem offI_of {I : Addr} {it : Obj} : ∀ {l : Led}, (∀ p ∈ l, p.1 ≠ I) → OffI I it l
  | [], _ => trivial
  | p :: _, h => ⟨.inl (h p (.head _)), offI_of fun q hq => h q (.tail _ hq)⟩

theorem undig_digs (n : Nat) : ∀ (k : Nat) (x : Int), 0 ≤ x → x < 2 ^ (n * k) → undig n (digs n k x) = x
  | 0, x, h0, h1 => by
    simp at h1
    simp [digs, undig]
    omega
  | k + 1, x, h0, h1 => by
    have hp : (0 : Int) < 2 ^ n := Int.pow_pos (by decide)
    have h2 : x / 2 ^ n < 2 ^ (n * k) := by
      apply Int.ediv_lt_of_lt_mul hp
      rw [← Int.pow_add, ← Nat.mul_succ]
      exact h1
    rw [digs, undig, undig_digs n k _ (Int.ediv_nonneg h0 (Int.le_of_lt hp)) h2]
    have := Int.emod_add_mul_ediv x (2 ^ n)
    rw [Int.mul_comm (2 ^ n)] at this
    exact this
theorem digs_bound (n : Nat) : ∀ (k : Nat) (x : Int), ∀ y ∈ digs n k x, 0 ≤ y ∧ y < 2 ^ n
  | 0, x, y, h => by cases h
  | k + 1, x, y, h => by
    have hp : (0 : Int) < 2 ^ n := Int.pow_pos (by decide)
    rw [digs] at h
    rcases List.mem_cons.mp h with rfl | h
    · exact ⟨Int.emod_nonneg _ (Int.ne_of_gt hp), Int.emod_lt_of_pos _ hp⟩
    · exact digs_bound n k _ y h
theorem turn_math {n : Nat} {a b r d q r' : Int} {ds qs : List Int} (h : a = (undig n qs.reverse * b + r) * 2 ^ ((d :: ds).length * n) + undig n (d :: ds).reverse) (e : r * 2 ^ n + d = q * b + r') :
    a = (undig n (qs ++ [q]).reverse * b + r') * 2 ^ (ds.length * n) + undig n ds.reverse := by
  rw [List.reverse_append, List.reverse_cons, List.reverse_nil, List.nil_append, List.singleton_append, undig]
  rw [List.reverse_cons, undig_append, List.length_reverse, undig, undig, List.length_cons, Nat.succ_mul, Int.pow_add, Int.zero_mul, Int.add_zero] at h
  rw [h]
  generalize undig n qs.reverse = U
  generalize undig n ds.reverse = V
  generalize (2 : Int) ^ (ds.length * n) = W
  generalize (2 : Int) ^ n = Z at *
  grind
theorem bits_lt_pow {b : Int} (hb : 0 ≤ b) : b < 2 ^ (Builtin.Int.intBits b) := by
  have h2 := intBits_le_iff.mp (Nat.le_refl (Builtin.Int.intBits b))
  have h3 : ((b.natAbs : Nat) : Int) < ((2 ^ (Builtin.Int.intBits b) : Nat) : Int) := by exact_mod_cast h2
  rw [Int.natAbs_of_nonneg hb] at h3
  push_cast at h3
  exact h3
theorem noPy {a b : Int} (h : Builtin.Int.intBits b ≤ 4000) : Builtin.divisionGoesByPylong a b = false := by
  refine PyProof.noPylong_of_log2 ?_
  by_cases h0 : b.natAbs = 0
  · rw [h0]; decide
  · have := (Nat.log2_lt h0).mpr (intBits_le_iff.mp h)
    omega
theorem long_step {n : Nat} {b r d : Int} (hb : b < 2 ^ n) (hr0 : 0 ≤ r) (hr : r < b) (hd0 : 0 ≤ d) (hd : d < 2 ^ n) : 0 ≤ r * 2 ^ n + d ∧ r * 2 ^ n + d < b * 2 ^ n ∧ r * 2 ^ n + d < 2 ^ (n + n) := by
  have hp : (0 : Int) < 2 ^ n := Int.pow_pos (by decide)
  have h1 := Int.mul_nonneg hr0 (Int.le_of_lt hp)
  have h2 : (r + 1) * 2 ^ n ≤ b * 2 ^ n := Int.mul_le_mul_of_nonneg_right (by omega) (Int.le_of_lt hp)
  have h3 : b * 2 ^ n ≤ 2 ^ n * 2 ^ n := Int.mul_le_mul_of_nonneg_right (by omega) (Int.le_of_lt hp)
  rw [Int.add_mul, Int.one_mul] at h2
  rw [Int.pow_add]
  omega

theorem tabL_top {P : Addr} {l c : Int} {q : Str} {t : Led} (h : TabL P l c q t) : @LT.lt Nat _ P (topA t) := by
  rcases h with rfl | ⟨c', oc, vs, u, rfl, _, _, _⟩
  · simp only [topA_cons, topA_nil]; omega
  · simp only [topA_cons, topA_nil]; omega
theorem Newer.weaken {a b : Led} {t u : Nat} (h : Newer a b t) (e : u ≤ t) : Newer a b u := fun p hp => (h p hp).imp id fun h => Nat.le_trans e h
theorem newer_app {a a' b b' : Led} {t : Nat} (h : Newer a a' t) (k : Newer b b' t) : Newer (a ++ b) (a' ++ b') t := fun p hp => by
  rcases List.mem_append.mp hp with q | q
  · exact (h p q).imp (fun z => by rw [List.map_append]; exact List.mem_append_left _ z) id
  · exact (k p q).imp (fun z => by rw [List.map_append]; exact List.mem_append_right _ z) id
theorem news_swap {h₀ h : Heap} {L : Addr} {x y : Addr × Obj} {a b r : Led} (N : News h₀ L h (x :: y :: (a ++ (b ++ r)))) : News h₀ L h (b ++ x :: y :: (a ++ r)) := fun p hp => N p (by
  simp only [List.mem_cons, List.mem_append] at hp ⊢
  rcases hp with h | h | h | h | h <;> simp only [h, true_or, or_true])
theorem divmod_is {a b q r : Int} (h : a = q * b + r) (h0 : 0 ≤ r) (h1 : r < b) : a / b = q ∧ a % b = r := by
  have hb : 0 < b := by omega
  constructor
  · rw [h, Int.add_comm, Int.add_mul_ediv_right _ _ (by omega), Int.ediv_eq_zero_of_lt h0 h1, Int.zero_add]
  · rw [h, Int.add_comm, Int.add_mul_emod_self_right, Int.emod_eq_of_lt h0 h1]

theorem tel_mono {w : World} {d u d' u' : Nat} {f : Value} {args : List Value} {news : Led} {R : Value → Led → Prop} (H : Tel w d u f args news R) (h1 : d ≤ d') (h2 : u ≤ u') : Tel w d' u' f args news R := by
  intro mean mg mb dp un gd cn cs ad ccd cl outer A₀ base h₀ L m s Q E B F X N T C1 C2 C3 hk hd hu hret
  exact H mean mg mb dp un gd cn cs ad ccd cl outer A₀ base h₀ L m s Q E B F X N T C1 C2 C3 hk (by omega) (by omega) hret
theorem nDig_mono {a a' : Int} {n : Nat} (h : Builtin.Int.intBits a ≤ Builtin.Int.intBits a') : nDig n a ≤ nDig n a' := by
  unfold nDig
  exact Nat.div_le_div_right (Nat.sub_le_sub_right (Nat.add_le_add_right h n) 1)
inductive DivPost (tb rest : Led) (q r : Int) (v : Value) (news' : Led) : Prop
  | mk (d) (tq) (tr) (tb') (zh1 : v = .ref d) (zh2 : topA (tb ++ rest) ≤ d) (zh3 : news' = (d, { cls := .type "tuple", data := .seq #[.int q tq, .int r tr] }) :: (tb' ++ rest)) (zh4 : Tabs tb') (zh5 : Newer tb tb' (topA (tb ++ rest)))
theorem news_skip2 {h₀ h : Heap} {L : Addr} {a b : Addr × Obj} {t : Led} (N : News h₀ L h (a :: b :: t)) : News h₀ L h (a :: t) := fun p hp => by
  rcases List.mem_cons.mp hp with e | hp
  · rw [e]; exact N _ (.head _)
  · exact N p (.tail _ (.tail _ hp))
theorem not_div {a b : Int} (hb : 0 < b) : Builtin.bitNot ((-a - 1) / b) = a / b ∧ b + Builtin.bitNot ((-a - 1) % b) = a % b := by
  have h1 := Int.emod_add_mul_ediv (-a - 1) b
  have h2 := Int.emod_nonneg (-a - 1) (Int.ne_of_gt hb)
  have h3 := Int.emod_lt_of_pos (-a - 1) hb
  generalize (-a - 1) / b = q at *
  generalize (-a - 1) % b = r at *
  have e : a = (-q - 1) * b + (b - r - 1) := by
    have : (-q - 1) * b = - (b * q) - b := by rw [Int.sub_mul, Int.neg_mul, Int.one_mul, Int.mul_comm q b]
    rw [this]; omega
  have := divmod_is e (by omega) (by omega)
  unfold Builtin.bitNot
  rw [this.1, this.2]
  omega
theorem neg_div {a b : Int} (hb : b < 0) : (-a) / (-b) = a.fdiv b ∧ -((-a) % (-b)) = a.fmod b := by
  have e1 : (-a) / (-b) = a.fdiv b := by
    rw [← Int.fdiv_eq_ediv_of_nonneg (-a) (by omega : 0 ≤ -b), Int.neg_fdiv_neg]
  refine ⟨e1, ?_⟩
  rw [Int.emod_def, e1, Int.fmod_def]
  rw [Int.neg_mul]
  omega
end
section
noncomputable abbrev tx (cs : List Nat) : Str := ⟨cs.toArray⟩
inductive TextsAre : List Value → List (List Nat) → Prop
  | nil : TextsAre [] []
  | cons {vs : List Value} {ws : List (List Nat)} (w : List Nat) (t : Tok) (h : TextsAre vs ws) : TextsAre (.str (tx w) t :: vs) (w :: ws)
theorem TextsAre.length {vs : List Value} {ws : List (List Nat)} (h : TextsAre vs ws) : vs.length = ws.length := by
  induction h with
  | nil => rfl
  | cons w t h ih => simp [ih]
theorem TextsAre.append {vs us : List Value} {ws xs : List (List Nat)} (h : TextsAre vs ws) (k : TextsAre us xs) : TextsAre (vs ++ us) (ws ++ xs) := by
  induction h with
  | nil => exact k
  | cons w t h ih => exact .cons w t ih
theorem TextsAre.reverse {vs : List Value} {ws : List (List Nat)} (h : TextsAre vs ws) : TextsAre vs.reverse ws.reverse := by
  induction h with
  | nil => exact .nil
  | cons w t h ih => rw [List.reverse_cons, List.reverse_cons]; exact ih.append (.cons w t .nil)
theorem signs_at (cs : List Nat) : ∀ (vs : List Value) (i : Nat), (∀ j v, vs[j]? = some v → SignAt (tx cs) (i + j) v) → i + vs.length = cs.length → TextsAre vs ((cs.drop i).map fun c => [c])
  | [], i, _, hl => by
    have : cs.drop i = [] := List.drop_of_length_le (by simp at hl; omega)
    rw [this]; exact .nil
  | v :: r, i, h, hl => by
    obtain ⟨c, u, hc, rfl⟩ := h 0 v rfl
    have hi : i < cs.length := by rw [List.length_cons] at hl; omega
    have e : cs.drop i = c :: cs.drop (i + 1) := by
      rw [List.drop_eq_getElem_cons hi]
      congr 1
      simp only [Nat.add_zero, List.getElem?_toArray] at hc
      rw [List.getElem?_eq_getElem hi] at hc
      exact Option.some.inj hc
    rw [e, List.map_cons]
    exact .cons _ u (signs_at cs r (i + 1) (fun j v hj => by
      have := h (j + 1) v (by simpa using hj)
      rw [show i + 1 + j = i + (j + 1) by omega]; exact this) (by rw [List.length_cons] at hl; omega))
section
variable {prog : Program} {w : World} {A : Around} {E : Value → Shared → Prop} {s : Shared} {h₀ : Heap} {L : Addr} {m : Str → Option Value} {news : Led}
theorem list_text {cs : List Nat} {t : Tok} {Q : Value → Shared → Prop} (hh : A.handled = none) (F : Fr h₀ L s.heap m) (N : News h₀ L s.heap news) (hn : cs.length ≤ 2 ^ 20)
    (h : ∀ D vs c h' tk, Fr h₀ L h' m → News h₀ L h' ((D, W.listOf vs.toArray c) :: news) → topA news ≤ D → TextsAre vs (cs.map fun c => [c]) → Q (.ref D) { s with heap := h', toks := tk }) :
    wpAny (model prog w) A (call (.type "list") [.str (tx cs) t]) Q E s := by
  refine call_list_str hh (tx cs) t (fun h' tk acc' c' hk hD hit => ?_) (by simp [sizeLine]; omega)
  have hfresh : h₀.get? s.heap.objs.size = none := Heap.get?_none_of_le (Nat.le_trans F.above (Nat.le_of_lt F.ns.lt))
  refine h s.heap.objs.size acc'.toList c' h' tk ⟨F.ns.keeps hk, fun b o e => hk b o (F.keep b o e), F.above⟩ (fun p hp => ?_) (topA_of fun p hp => Heap.lt_size (N p hp).1) ?_
  · rcases List.mem_cons.mp hp with rfl | hp
    · exact ⟨by rw [Array.toArray_toList]; exact hD, Nat.ne_of_gt F.ns.lt, hfresh⟩
    · exact ⟨hk _ _ (N p hp).1, (N p hp).2⟩
  · have := signs_at cs acc'.toList 0 (fun j v hj => by
      rw [Nat.zero_add]; exact hit.2 j v (by rw [← Array.getElem?_toList]; exact hj)) (by rw [Nat.zero_add, Array.length_toList, hit.1]; simp)
    simpa using this
theorem rev_list {D : Addr} {vs : List Value} {n : Nat} {news' : Led} {Q : Value → Shared → Prop} (F : Fr h₀ L s.heap m) (N : News h₀ L s.heap news) (U : Upd D (W.listOf vs.toArray n) (W.listOf vs.reverse.toArray n) news news') (hz : vs.length ≤ 2 ^ 20)
    (h : ∀ h', Fr h₀ L h' m → News h₀ L h' news' → Q .none { s with heap := h' }) : wpAny (model prog w) A (call (.builtin "list.reverse") [.ref D]) Q E s := kl_reverse F N (by simp) U (by simp [sizeLine]; omega) h
end

theorem tx_inj {a b : List Nat} : tx a = tx b ↔ a = b := by
  constructor
  · intro h
    have := congrArg (fun s : Str => s.cps.toList) h
    simpa using this
  · intro h; rw [h]
theorem tx_carried {vs : List Value} {ws : List (List Nat)} (h : TextsAre vs ws) : CarriedAll vs (ws.map fun w => PyData.str (tx w)) := by
  induction h with
  | nil => exact .nil
  | cons w t _ ih => exact .cons (.str _ t) ih
noncomputable def TxOk (ws : List (List Nat)) : Prop := ∀ w ∈ ws, PyData.strOk (tx w) = true
theorem tx_canLay : ∀ ws : List (List Nat), TxOk ws → PyData.canLayAll0 (ws.map fun w => PyData.str (tx w)) = true
  | [], _ => rfl
  | w :: r, h => by rw [List.map_cons, PyData.canLayAll0, tx_canLay r (fun x hx => h x (.tail _ hx)), PyData.canLay0, h w (.head _)]; rfl
theorem tx_depth : ∀ ws : List (List Nat), PyData.depthAll (ws.map fun w => PyData.str (tx w)) = 0
  | [] => rfl
  | w :: r => by rw [List.map_cons, PyData.depthAll, tx_depth r]; rfl
theorem tx_shaped {ws : List (List Nat)} (h : TxOk ws) : SeqAt.shaped (.list (ws.map fun w => PyData.str (tx w))) = true := by
  unfold SeqAt.shaped
  rw [PyData.canLay0, tx_canLay ws h, PyData.depth, tx_depth]
  rfl
theorem tx_sameAll : ∀ ws us : List (List Nat), PySem.Spec.sameAll (ws.map fun w => PyData.str (tx w)) (us.map fun w => PyData.str (tx w)) = decide (ws = us)
  | [], [] => rfl
  | [], _ :: _ => rfl
  | _ :: _, [] => rfl
  | w :: r, u :: q => by
    rw [List.map_cons, List.map_cons, PySem.Spec.sameAll, tx_sameAll r q, PySem.Spec.same]
    by_cases h : w = u
    · subst h; by_cases h2 : r = q <;> simp [h2]
    · have : tx w ≠ tx u := fun e => h (tx_inj.mp e)
      simp [h]
theorem tx_same (ws us : List (List Nat)) : PySem.Spec.same (.list (ws.map fun w => PyData.str (tx w))) (.list (us.map fun w => PyData.str (tx w))) = decide (ws = us) := by
  rw [PySem.Spec.same, tx_sameAll]
section
variable {prog : Program} {w : World} {A : Around} {E : Value → Shared → Prop} {s : Shared} {a b : Addr} {xs ys : List Value} {ws us : List (List Nat)} {Q : Value → Shared → Prop}
theorem tx_eq (ha : s.heap.IsList a xs.toArray) (hb : s.heap.IsList b ys.toArray) (hi : TextsAre xs ws) (hj : TextsAre ys us) (ok1 : TxOk ws) (ok2 : TxOk us) (hu : A.units + 64 < cLine) (h : Q (.bool (decide (ws = us))) s) :
    wpAny (model prog w) A (compareOp .Eq (.ref a) (.ref b)) Q E s :=
  eq_dataH_same (reads_newData ha (tx_carried hi)) (reads_newData hb (tx_carried hj)) (tx_shaped ok1) (tx_shaped ok2) hu (SeqAt.noMix_of_shape (.list .str) rfl _ _ (list_map_has fun _ => rfl) (list_map_has fun _ => rfl)) (by rw [tx_same]; exact h)
theorem tx_ne (ha : s.heap.IsList a xs.toArray) (hb : s.heap.IsList b ys.toArray) (hi : TextsAre xs ws) (hj : TextsAre ys us) (ok1 : TxOk ws) (ok2 : TxOk us) (hu : A.units + 64 < cLine) (h : Q (.bool (!decide (ws = us))) s) :
    wpAny (model prog w) A (compareOp .NotEq (.ref a) (.ref b)) Q E s :=
  ne_dataH_same (reads_newData ha (tx_carried hi)) (reads_newData hb (tx_carried hj)) (tx_shaped ok1) (tx_shaped ok2) hu (SeqAt.noMix_of_shape (.list .str) rfl _ _ (list_map_has fun _ => rfl) (list_map_has fun _ => rfl)) (by rw [tx_same]; exact h)
end
end
section
noncomputable def lamArgs : Expr → Arguments
  | .Lambda a .. => a
  | _ => default
noncomputable def lamBody : Expr → Expr
  | .Lambda _ b .. => b
  | e => e
noncomputable def lamScope : Expr → Scope
  | .Lambda _ _ s .. => s
  | _ => default
noncomputable def asgVal : Stmt → Expr
  | .Assign _ v _ => v
  | _ => .Constant .none 0 ⟨0, 0, 0, 0⟩
noncomputable def lamX : Expr := asgVal (stmtAt (fBody (fn 19)) 3)
structure LexP where
  X : Addr
  dX : Addr
  S : Addr
  dS : Addr
  Lm : Addr
  cL : Addr
  G : Addr
  cG : Addr
  PB : Addr
  PB2 : Addr
  oL : Obj
  oG : Obj
  k1 : Tok
  k2 : Tok
  k3 : Tok
  k4 : Tok
  k5 : Tok
  k6 : Tok
  k7 : Tok
  k8 : Tok
  k9 : Tok
  tw : Tok
  t5 : Tok
  t7 : Tok
  pm : Value
  ct : Value
  cvs : Array Value
  cq : Tok
noncomputable abbrev wsp : Str := Str.ofString "\n\t\x0d "
noncomputable abbrev ent (w : World) (x : Str) (k : Tok) (v : Value) : DictEntry := { hash := PyData.keyHash w.params x, key := .str x k, val := v }
noncomputable abbrev dLex (w : World) (P : LexP) (line : Int) (tl : Tok) : Obj :=
  W.dictOf [ent w (Str.ofString "lineno") P.k1 (.int line tl), ent w (Str.ofString "instream") P.k2 (.ref P.S), ent w (Str.ofString "whitespace") P.k3 (.str wsp P.tw), ent w (Str.ofString "pushback") P.k4 (.ref P.PB)] 4
noncomputable abbrev dStr (w : World) (P : LexP) : Obj :=
  W.dictOf [ent w (Str.ofString "lineno") P.k5 (.int 1 P.t5), ent w (Str.ofString "instream") P.k6 .none, ent w (Str.ofString "whitespace") P.k7 (.str wsp P.t7), ent w (Str.ofString "pushback") P.k8 (.ref P.PB2), ent w (Str.ofString "read") P.k9 (.ref P.Lm)] 5
noncomputable abbrev qualL : Str := Str.ofString "_law_lexer" ++ ".<locals>." ++ Str.ofString "<lambda>"
noncomputable abbrev LexL (w : World) (P : LexP) (line : Int) (tl : Tok) (pb : List Value) (pe : Nat) (sg : List Value) (ep : Nat) : Led :=
  [(P.PB, W.listOf pb.toArray pe), (P.X, instObj 108 P.dX), (P.dX, dLex w P line tl), (P.Lm, kla_obj (Str.ofString "<lambda>") qualL (lamArgs lamX) (lamBody lamX) (lamScope lamX) [(Str.ofString "signs", P.cG)] P.pm P.cL P.ct), (P.cL, P.oL),
   (P.S, instObj 108 P.dS), (P.dS, dStr w P), (P.G, W.listOf sg.reverse.toArray ep), (P.cG, P.oG)]
structure LexOk (P : LexP) : Prop where
  oL : P.oL.data = .fields P.cvs
  cq : P.cvs[1]? = some (.str qualL P.cq)
  oG : P.oG.data = .cell (some (.ref P.G))
  n1 : @LT.lt Nat _ P.cG P.G
  n2 : @LT.lt Nat _ P.G P.dS
  n3 : @LT.lt Nat _ P.dS P.S
  n4 : @LT.lt Nat _ P.S P.PB2
  n5 : @LT.lt Nat _ P.PB2 P.cL
  n6 : @LT.lt Nat _ P.cL P.Lm
  n7 : @LT.lt Nat _ P.Lm P.dX
  n8 : @LT.lt Nat _ P.dX P.X
  n9 : @LT.lt Nat _ P.X P.PB
section
variable {prog : Program} {w : World} {A : Around} {E : Value → Shared → Prop} {s : Shared} {h₀ : Heap} {L : Addr} {m : Str → Option Value} {news news' : Led}
theorem pop_rev {D : Addr} {x : Value} {sg : List Value} {n : Nat} {Q : Value → Shared → Prop} (F : Fr h₀ L s.heap m) (N : News h₀ L s.heap news) (U : Upd D (W.listOf (x :: sg).reverse.toArray n) (W.listOf sg.reverse.toArray (n + 1)) news news') (hz : sg.length ≤ 2 ^ 20)
    (h : ∀ h', Fr h₀ L h' m → News h₀ L h' news' → Q x { s with heap := h' }) : wpAny (model prog w) A (call (.builtin "list.pop") [.ref D]) Q E s :=
  kl_pop F N (by rw [List.reverse_cons]; exact kpa_last x sg.reverse) U (by simp [sizeLine]; omega) h
end
theorem news_tail {h₀ h : Heap} {L : Addr} {a : Addr × Obj} {t : Led} (N : News h₀ L h (a :: t)) : News h₀ L h t := fun p hp => N p (.tail _ hp)
theorem nl_is : Str.ofString "\n" = tx [10] := by decide +kernel
theorem one_is {c d : Nat} : tx [c] = tx [d] ↔ c = d := by rw [tx_inj]; simp
end
section
theorem owner_ci : Manifest.owners.lookup (String.ofList ['r', 'o', 't', 'a', 'r', 'e', 't', 'i', '_', 'e', 'l', 'b', 'a', 'l', 'l', 'a', 'c'].reverse) = some Manifest.sig_callable_iterator := by kernel_rfl
theorem slot_ci_next : Slot "callable_iterator" "__next__" "callable_iterator.__next__" :=
  .of (owner := "callable_iterator") (n := "__next__") (by rw [typeLookup_type, builtinLookup_eq_fast]; kernel_rfl) (by decide +kernel) (by decide +kernel) (by decide +kernel)
    (by first | exact .inl (by decide +kernel) | exact .inr (by decide +kernel)) (by rw [isSubtype_type]; kernel_rfl)
theorem entry_ci_next : entryFor table "callable_iterator.__next__" = some Builtin.«callable_iterator.__next__» := entryFor_of_tree (by kernel_rfl)
theorem args_ci_next_1 (a : Value) : argsOk "callable_iterator.__next__" ⟨[a], []⟩ := by
  unfold argsOk; rw [signature?_of (id := "callable_iterator.__next__") (n := ['_', '_', 't', 'x', 'e', 'n', '_', '_']) (o := ['r', 'o', 't', 'a', 'r', 'e', 't', 'i', '_', 'e', 'l', 'b', 'a', 'l', 'l', 'a', 'c']) (by kernel_rfl) owner_ci]; kernel_rfl
theorem slot_ci_iter : Slot "callable_iterator" "__iter__" "callable_iterator.__iter__" :=
  .of (owner := "callable_iterator") (n := "__iter__") (by rw [typeLookup_type, builtinLookup_eq_fast]; kernel_rfl) (by decide +kernel) (by decide +kernel) (by decide +kernel)
    (by first | exact .inl (by decide +kernel) | exact .inr (by decide +kernel)) (by rw [isSubtype_type]; kernel_rfl)
theorem args_ci_iter_1 (a : Value) : argsOk "callable_iterator.__iter__" ⟨[a], []⟩ := by
  unfold argsOk; rw [signature?_of (id := "callable_iterator.__iter__") (n := ['_', '_', 'r', 'e', 't', 'i', '_', '_']) (o := ['r', 'o', 't', 'a', 'r', 'e', 't', 'i', '_', 'e', 'l', 'b', 'a', 'l', 'l', 'a', 'c']) (by kernel_rfl) owner_ci]; kernel_rfl
theorem entry_ci_iter : entryFor table "callable_iterator.__iter__" = some Builtin.«dict_keyiterator.__iter__» :=
  entryFor_alias (id' := "dict_keyiterator.__iter__") (by kernel_rfl) (by first | rfl | decide +kernel | (unfold String.splitOn; simp +decide [String.splitOnAux])) (by decide +kernel) (by kernel_rfl)
noncomputable abbrev ciO (f sen : Value) : Obj := { cls := .type "callable_iterator", data := .fields #[f, sen, .bool false] }
section
variable {prog : Program} {w : World} {A : Around} {E : Value → Shared → Prop} {s : Shared}
theorem wpAny_callBorrowed {M : Model} {f : Value} {pos : List Value} {Q : Value → Shared → Prop} (h : wpAny M A (call f pos) Q E s) : wpAny M A (callBorrowed f pos) Q E s := fun Γ p hΓ => by
  have h1 := h Γ p hΓ
  rw [Sem.wp_cmd_call] at h1
  unfold callBorrowed
  rw [Sem.wp_call]
  refine wpCode_mono (fun r s' q => ?_) h1
  cases r with
  | error e => exact q
  | ok f => cases f <;> first | exact q | exact q.elim
theorem borrows_method {M : Model} {q g : Addr} {self : Value} {fo : Obj} {fd : FuncData} {Q : Bool → Shared → Prop} (hq : s.heap.get? q = some (methodObj (.ref g) self)) (hg : s.heap.get? g = some fo) (hf : fo.data = .func fd) (h : Q true s) :
    wpAny M A (borrowsExactly (.ref q)) Q E s := by
  unfold borrowsExactly
  refine wpAny_bind (wpAny_load hq ?_)
  dsimp only [methodObj]
  rw [if_pos (by decide)]
  show wpAny _ _ (load g >>= _) _ _ _
  refine wpAny_bind (wpAny_load hg ?_)
  rw [hf]
  exact wpAny_pure h

theorem ci_next {I q g : Addr} {self : Value} {fo : Obj} {fd : FuncData} {t : Tok} {Q : Option Value → Shared → Prop} (hh : A.handled = none)
    (hI : s.heap.get? I = some (ciO (.ref q) (.str Str.empty t))) (hq : s.heap.get? q = some (methodObj (.ref g) self)) (hg : s.heap.get? g = some fo) (hf : fo.data = .func fd)
    (h : wpAny (model prog w) A.in1 (call (.ref q) []) (fun r s₁ => ∃ x u, r = .str x u ∧ s₁.heap.get? I = some (ciO (.ref q) (.str Str.empty t)) ∧ s₁.heap.get? q = some (methodObj (.ref g) self) ∧ s₁.heap.get? g = some fo ∧
      (if x = Str.empty then ∀ h', Heap.ExtBut I s₁.heap h' → Q none { s₁ with heap := h' } else Q (some (.str x u)) s₁)) (fun _ _ => False) s) :
    wpAny (model prog w) A (pyNext (.ref I)) Q E s := by
  have hT : s.TypeIs (.ref I) "callable_iterator" := ⟨_, hI, rfl⟩
  unfold pyNext
  refine wpAny_bind (wpAny_attempt (wpAny_callSpecial?_slot (name := Str.ofString "__next__") hT slot_ci_next
    (wpAny_call_entry slot_ci_next hT entry_ci_next ?_ (args_ci_next_1 _))))
  unfold Builtin.«callable_iterator.__next__»
  refine wpAny_bind (wpAny_of_eq (a := (Value.ref I, [])) rfl ?_)
  try dsimp only
  refine wpAny_bind (wpAny_field hI rfl (x := .bool false) rfl ?_)
  rw [if_neg (show ¬ ((Value.bool false == Value.bool true) = true) from by decide)]
  try dsimp only
  refine wpAny_bind (wpAny_field hI rfl (x := .ref q) rfl ?_)
  refine wpAny_bind (wpAny_attempt ?_)
  unfold callOutOfASlot
  refine wpAny_bind (borrows_method hq hg hf ?_)
  rw [if_pos rfl]
  refine wpAny_callBorrowed (wpAny_mono h (fun r s₁ hr => ?_) fun _ _ z => z.elim)
  obtain ⟨x, u, rfl, hI1, hq1, hg1, hx⟩ := hr
  try dsimp only
  refine wpAny_bind (wpAny_field hI1 rfl (x := .bool false) rfl ?_)
  rw [if_neg (show ¬ ((Value.bool false == Value.bool true) = true) from by decide)]
  refine wpAny_bind (wpAny_field hI1 rfl (x := .str Str.empty t) rfl ?_)
  refine wpAny_bind (wpAny_holding (wpAny_eqBool_str ?_))
  by_cases he : x = Str.empty
  · subst he
    rw [if_pos rfl] at hx
    rw [decide_eq_true rfl]
    rw [if_neg (show ¬ ((!true) = true) from by decide)]
    refine wpAny_bind (wpAny_rule (wpAny_bind ?_))
    show wpAny _ _ (field (.ref I) 0 >>= fun v => slotLetsGo "callable_iterator.__next__" v _ >>= fun _ => setField (.ref I) 0 .none >>= fun _ => setField (.ref I) 1 .none >>= fun _ => setField (.ref I) 2 (.bool true)) _ _ _
    refine wpAny_bind (wpAny_field hI1 rfl (x := .ref q) rfl ?_)
    refine wpAny_bind ?_
    unfold slotLetsGo
    try dsimp only
    refine wpAny_bind (borrows_method hq1 hg1 hf ?_)
    rw [if_pos rfl]
    refine wpAny_pure ?_
    have up : ∀ (h' : Heap) (f : Obj → Obj), Heap.ExtBut I s₁.heap h' → Heap.ExtBut I s₁.heap (h'.update I f) := fun h' f e b o hb eb => (Heap.get?_update_other _ _ (Ne.symm hb)).trans (e b o hb eb)
    refine wpAny_bind (wpAny_setField hI1 rfl (by simp) ?_)
    refine wpAny_bind (wpAny_setField (Heap.get?_update_self _ hI1 (Obj.isFreed_of_fields (Obj.data_mapFields rfl _))) (Obj.data_mapFields rfl _) (by simp) ?_)
    refine wpAny_setField (Heap.get?_update_self _ (Heap.get?_update_self _ hI1 (Obj.isFreed_of_fields (Obj.data_mapFields rfl _))) (Obj.isFreed_of_fields (Obj.data_mapFields (Obj.data_mapFields rfl _) _))) (Obj.data_mapFields (Obj.data_mapFields rfl _) _) (by simp) ?_
    show wpAny _ _ (newExc (.type "StopIteration") [] >>= _) _ _ _
    refine wpAny_bind ?_
    simp only [newExc, newTuple]
    refine wpAny_bind (wpAny_newObj_type ?_ (by size_fits))
    refine wpAny_bind (m := firstArgMember _ _) (wpAny_of_eq (a := Value.none) (by first | rfl | (simp only [firstArgMember]; rfl)) ?_)
    refine wpAny_newObj_type ?_ (by size_fits)
    simp only [raiseNew]
    refine wpAny_bind (wpAny_handled ?_)
    first | rw [show A.in1.handled = none from hh] | rw [hh]
    refine wpAny_bind (wpAny_pure (wpAny_throw ?_))
    refine wpAny_bind (wpAny_isInstance (T := "StopIteration") (b := true) ⟨_, Heap.get?_push_size _ rfl, rfl⟩ isSubtype_stop ?_)
    exact wpAny_pure (hx _ (((up _ _ (up _ _ (up _ _ (Heap.ExtBut.refl _ _)))).push _).push _))
  · rw [if_neg he] at hx
    rw [decide_eq_false (fun e => he e.symm)]
    rw [if_pos (show (!false) = true from rfl)]
    exact wpAny_pure ⟨_, rfl, wpAny_pure hx⟩
end
end
section
theorem args_iter2 (a b : Value) : argsOk "iter" ⟨[a, b], []⟩ := by unfold argsOk; kernel_rfl
theorem look_method_call : typeLookup (.type "method") "__call__" = pure (some (.builtin "method.__call__")) := by rw [typeLookup_type, builtinLookup_eq_fast]; kernel_rfl
section
variable {prog : Program} {w : World} {A : Around} {E : Value → Shared → Prop} {s : Shared} {h₀ : Heap} {L : Addr} {m : Str → Option Value} {news : Led}
theorem ci_make {q g : Addr} {self sen : Value} {Q : Value → Shared → Prop} (F : Fr h₀ L s.heap m) (N : News h₀ L s.heap news) (hq : (q, methodObj (.ref g) self) ∈ news)
    (h : ∀ I h', Fr h₀ L h' m → News h₀ L h' ((I, ciO (.ref q) sen) :: news) → topA news ≤ I → Q (.ref I) { s with heap := h' }) :
    wpAny (model prog w) A (call (.builtin "iter") [.ref q, sen]) Q E s := by
  have hT : s.TypeIs (.ref q) "method" := ⟨_, (N _ hq).1, rfl⟩
  refine call_function_entry (by decide +kernel) (by decide +kernel) kdk_entry_iter (args_iter2 _ _) ?_
  unfold Builtin.«iter»
  refine wpAny_bind (m := someArgs "iter" 1 2 _) (wpAny_of_eq (a := [Value.ref q, sen]) (by first | rfl | kernel_rfl!) ?_)
  dsimp only
  refine wpAny_bind (wpAny_specialOf (name := Str.ofString "__call__") hT look_method_call ?_)
  refine wpAny_ite_split (fun hab => absurd hab (by decide)) (fun _ => ?_)
  refine wpAny_bind (wpAny_rule (wpAny_bind ?_))
  unfold newFields
  refine wpAny_newObj_type (wpAny_pure ⟨_, rfl, ?_⟩) (by size_fits)
  exact h _ _ (F.push _) (News.push F N _ rfl) (topA_of fun p hp => Heap.lt_size (N p hp).1)
theorem ci_iter {I : Addr} {f sen : Value} {Q : Value → Shared → Prop} (hI : s.heap.get? I = some (ciO f sen)) (h : Q (.ref I) s) : wpAny (model prog w) A (pyIter (.ref I)) Q E s := by
  have hT : s.TypeIs (.ref I) "callable_iterator" := ⟨_, hI, rfl⟩
  refine wpAny_pyIter_slot hT slot_ci_iter (wpAny_call_entry slot_ci_iter hT entry_ci_iter ?_ (args_ci_iter_1 _))
  show wpAny _ _ (ret (.ref I)) _ _ s
  exact wpAny_pure ⟨_, rfl, "callable_iterator", _, hT, slot_ci_next.lookup, h⟩
noncomputable abbrev liO (l : Addr) (i : Int) : Obj := { cls := .type "list_iterator", data := .fields #[.ref l, .int i 0] }
theorem li_iter {l : Addr} {its : Array Value} {n : Nat} {Q : Value → Shared → Prop} (F : Fr h₀ L s.heap m) (N : News h₀ L s.heap news) (hl : (l, W.listOf its n) ∈ news)
    (h : ∀ I h', Fr h₀ L h' m → News h₀ L h' ((I, liO l 0) :: news) → topA news ≤ I → Q (.ref I) { s with heap := h' }) :
    wpAny (model prog w) A (call (.builtin "iter") [.ref l]) Q E s := by
  refine call_function_entry (by decide +kernel) (by decide +kernel) kdk_entry_iter (kdk_args_iter _) ?_
  unfold Builtin.«iter»
  refine wpAny_bind (m := someArgs "iter" 1 2 _) (wpAny_of_eq (a := [Value.ref l]) (by first | rfl | kernel_rfl!) ?_)
  show wpAny _ _ (pyIter (.ref l) >>= _) _ _ _
  refine wpAny_bind (wpAny_pyIter_list (News.isList N hl) ?_)
  exact wpAny_pure ⟨_, rfl, h _ _ (F.push _) (News.push F N _ rfl) (topA_of fun p hp => Heap.lt_size (N p hp).1)⟩
theorem li_next {it l : Addr} {i : Nat} {its : Array Value} {n : Nat} {v : Value} {io : Obj} {g : Obj → Led} {Q : Value → Shared → Prop} (F : Fr h₀ L s.heap m) (N : News h₀ L s.heap news) (U : UpdF it io news g)
    (hc : io.cls = .type "list_iterator") (hd : io.data = .fields #[.ref l, .int i 0]) (hl : (l, W.listOf its n) ∈ news) (hx : its[i]? = some v)
    (h : ∀ h' o', Fr h₀ L h' m → News h₀ L h' (g o') → o'.cls = .type "list_iterator" → o'.data = .fields #[.ref l, .int ((i + 1 : Nat) : Int) 0] → Q v { s with heap := h' }) :
    wpAny (model prog w) A (call (.builtin "next") [.ref it]) Q E s := by
  obtain ⟨pre, post, hlist, hg, a, b⟩ := U.split
  have hmem : (it, io) ∈ news := by rw [hlist]; exact List.mem_append_right _ (.head _)
  have hm := N (it, io) hmem
  have hit : s.heap.IsListIter it l i := ⟨io, hm.1, hc, hd⟩
  have hls := News.isList N hl
  obtain ⟨ol, hol, _, nl, hdl⟩ := id hls
  refine call_function_entry (by decide +kernel) (by decide +kernel) kdk_entry_next (kdk_args_next _) ?_
  unfold Builtin.«next»
  refine wpAny_bind (m := someArgs "next" 1 2 _) (wpAny_of_eq (a := [Value.ref it]) (by first | rfl | kernel_rfl!) ?_)
  dsimp only
  refine wpAny_bind (wpAny_specialOf (name := Str.ofString "__next__") hit.typeIs slot_listiter_next.lookup ?_)
  refine wpAny_ite_split (fun hab => absurd hab (by decide)) (fun _ => ?_)
  refine wpAny_bind (wpAny_callSpecial?_slot (name := Str.ofString "__next__") hit.typeIs slot_listiter_next
    (wpAny_call_entry slot_listiter_next hit.typeIs entry_listiter_next ?_ (args_listiter_next _)))
  show wpAny _ _ (field (.ref it) 0 >>= _) _ _ s
  refine wpAny_bind (wpAny_field hm.1 hd (x := .ref l) rfl ?_)
  show wpAny _ _ (if (Value.ref l == Value.none) = true then _ else _) _ _ s
  rw [if_neg (show ¬ ((Value.ref l == Value.none) = true) from Bool.false_ne_true)]
  show wpAny _ _ (field (.ref it) 1 >>= _) _ _ s
  refine wpAny_bind (wpAny_field hm.1 hd (x := .int i 0) rfl ?_)
  show wpAny _ _ (seqItems? (.ref l) >>= _) _ _ s
  refine wpAny_bind (wpAny_seqItems hol hdl ?_)
  simp only [Int.toNat_natCast, hx]
  have e : io = { cls := .type "list_iterator", dict := io.dict, data := .fields #[.ref l, .int i 0], slots := io.slots } := by
    obtain ⟨c, d, dt, sl⟩ := io
    simp only at hc hd
    rw [hc, hd]
  refine wpAny_bind (wpAny_setField hm.1 hd (by simp) (wpAny_pure ⟨v, rfl, wpAny_pure ⟨_, rfl, ?_⟩⟩))
  refine h _ (Obj.mapFields (·.setIfInBounds 1 (rawInt ((i : Int) + 1))) io) (F.change (Heap.SameBut.update ..) hm.2.1 hm.2.2) ?_ ?_ ?_
  · rw [hg]
    exact (show News h₀ L s.heap (pre ++ (it, io) :: post) from hlist ▸ N).setIn a b (Heap.SameBut.update ..) (Heap.get?_update_self _ hm.1 (Obj.isFreed_of_fields (Obj.data_mapFields hd _)))
  · exact (Obj.cls_mapFields ..).trans hc
  · rw [Obj.data_mapFields hd]; simp [rawInt]
end

noncomputable def TelC (w : World) (d u : Nat) (f : Value) (args : List Value) (news : Led) (R : Value → Led → Prop) : Prop :=
  ∀ (mean : ExcName → Option Value) (mg mb : Str → Option Value) (dp un : Nat) (gd : Option (List Code)) (cn : Str) (cs : Scope) (a : Addr) (ccd : Value) (cl : List (Str × Addr)) (outer : List Env) (A₀ : Around) (base h₀ : Heap) (L : Addr) (m : Str → Option Value) (s : Shared) (Q E : Value → Shared → Prop),
    Below A₀ base outer h₀ → Fr h₀ L s.heap m → (hd02.heap_1 w.params).In h₀ → News h₀ L s.heap news → Top topProg topL mean mg mb h₀ → CodeHd base 135 131 → CodeHd base 41 37 → CodeHd base 34 30 → cs.kind = .function → dp + d < recursionLimit → un + u < cLine →
    (∀ v h' tk' news', Fr h₀ L h' m → News h₀ L h' news' → R v news' → Q v { s with heap := h', toks := tk' }) →
    codeAny (model Challenge.rw_ty0035_02.row.prog w) (ktrTop dp un gd cn cs L a ccd cl outer) (.call f ⟨args, []⟩) (fun r s' => match r with | .ok (.ret v) => Q v s' | .ok _ => False | .error e => E e s') s
theorem TelC.tel {w : World} {d u : Nat} {f : Value} {args : List Value} {news : Led} {R : Value → Led → Prop} (H : TelC w d u f args news R) : Tel w d u f args news R := by
  intro mean mg mb dp un gd cn cs ad ccd cl outer A₀ base h₀ L m s Q E B F X N T C1 C2 C3 hk hd hu hret
  exact wpAny_call (H mean mg mb dp un gd cn cs ad ccd cl outer A₀ base h₀ L m s Q E B F X N T C1 C2 C3 hk hd hu hret)
end
section
structure TelV where
  mean : ExcName → Option Value
  mg : Str → Option Value
  mb : Str → Option Value
  dp : Nat
  un : Nat
  gd : Option (List Code)
  cn : Str
  cs : Scope
  a : Addr
  ccd : Value
  cl : List (Str × Addr)
  outer : List Env
  A₀ : Around
  base : Heap
  h₀ : Heap
  L : Addr
  m : Str → Option Value
  s : Shared
  Q : Value → Shared → Prop
  E : Value → Shared → Prop
theorem telV_ne : Nonempty TelV := ⟨⟨fun _ => none, fun _ => none, fun _ => none, 0, 0, none, Str.empty, fScope (fn 2), 0, .none, [], [], callerA, (start Pg).1.heap, (start Pg).1.heap, 0, fun _ => none, (start Pg).1, fun _ _ => True, fun _ _ => True⟩⟩
noncomputable def vEps (P : TelV → Prop) : TelV := @Classical.epsilon TelV telV_ne (fun v => ¬ P v)
theorem vEps_all {P : TelV → Prop} (h : P (vEps P)) : ∀ v, P v := fun v => Classical.byContradiction fun hv => (Classical.epsilon_spec (p := fun v => ¬ P v) ⟨v, hv⟩) h
noncomputable def eps1 {T : Type} (ne : Nonempty T) (P : T → Prop) : T := @Classical.epsilon T ne (fun v => ¬ P v)
theorem eps1_all {T : Type} {ne : Nonempty T} {P : T → Prop} (h : P (eps1 ne P)) : ∀ v, P v := fun v => Classical.byContradiction fun hv => (Classical.epsilon_spec (p := fun v => ¬ P v) ⟨v, hv⟩) h
noncomputable def TelAt (w : World) (d u : Nat) (f : Value) (args : List Value) (news : Led) (R : Value → Led → Prop) (v : TelV) : Prop :=
  Below v.A₀ v.base v.outer v.h₀ → Fr v.h₀ v.L v.s.heap v.m → (hd02.heap_1 w.params).In v.h₀ → News v.h₀ v.L v.s.heap news → Top topProg topL v.mean v.mg v.mb v.h₀ → CodeHd v.base 135 131 → CodeHd v.base 41 37 → CodeHd v.base 34 30 → v.cs.kind = .function → v.dp + d < recursionLimit → v.un + u < cLine →
    (∀ x h' tk' news', Fr v.h₀ v.L h' v.m → News v.h₀ v.L h' news' → R x news' → v.Q x { v.s with heap := h', toks := tk' }) →
    wpAny (model Challenge.rw_ty0035_02.row.prog w) (ktrTop v.dp v.un v.gd v.cn v.cs v.L v.a v.ccd v.cl v.outer) (call f args) v.Q v.E v.s
theorem tel_of {w : World} {d u : Nat} {f : Value} {args : List Value} {news : Led} {R : Value → Led → Prop} (h : ∀ v, TelAt w d u f args news R v) : Tel w d u f args news R :=
  fun mean mg mb dp un gd cn cs a ccd cl outer A₀ base h₀ L m s Q E => h ⟨mean, mg, mb, dp, un, gd, cn, cs, a, ccd, cl, outer, A₀, base, h₀, L, m, s, Q, E⟩
end
section
theorem ne_prod {A B : Type} (a : Nonempty A) (b : Nonempty B) : Nonempty (A × B) := by obtain ⟨x⟩ := a; obtain ⟨y⟩ := b; exact ⟨(x, y)⟩
theorem ne_nat : Nonempty Nat := ⟨0⟩
theorem ne_int : Nonempty Int := ⟨0⟩
theorem ne_addr : Nonempty Addr := ⟨(0 : Nat)⟩
theorem ne_list {T : Type} : Nonempty (List T) := ⟨[]⟩
theorem ne_led : Nonempty Led := ⟨[]⟩
theorem ne_value : Nonempty Value := ⟨.none⟩
theorem ne_str : Nonempty Str := ⟨Str.empty⟩
theorem ne_obj : Nonempty Obj := ⟨tabObj #[]⟩
theorem ne_tok : Nonempty Tok := ⟨default⟩
theorem ne_world : Nonempty World := ⟨aWorld 1⟩
theorem ne_par : Nonempty (Str → Option Value) := ⟨fun _ => none⟩
theorem ne_lexp : Nonempty LexP := ⟨⟨0, 0, 0, 0, 0, 0, 0, 0, 0, 0, tabObj #[], tabObj #[], 0, 0, 0, 0, 0, 0, 0, 0, 0, default, default, default, .none, .none, #[], default⟩⟩
end
section
noncomputable def TelCAt (w : World) (d u : Nat) (f : Value) (args : List Value) (news : Led) (R : Value → Led → Prop) (v : TelV) : Prop :=
  Below v.A₀ v.base v.outer v.h₀ → Fr v.h₀ v.L v.s.heap v.m → (hd02.heap_1 w.params).In v.h₀ → News v.h₀ v.L v.s.heap news → Top topProg topL v.mean v.mg v.mb v.h₀ → CodeHd v.base 135 131 → CodeHd v.base 41 37 → CodeHd v.base 34 30 → v.cs.kind = .function → v.dp + d < recursionLimit → v.un + u < cLine →
    (∀ x h' tk' news', Fr v.h₀ v.L h' v.m → News v.h₀ v.L h' news' → R x news' → v.Q x { v.s with heap := h', toks := tk' }) →
    codeAny (model Challenge.rw_ty0035_02.row.prog w) (ktrTop v.dp v.un v.gd v.cn v.cs v.L v.a v.ccd v.cl v.outer) (.call f ⟨args, []⟩) (fun r s' => match r with | .ok (.ret x) => v.Q x s' | .ok _ => False | .error e => v.E e s') v.s
theorem telC_of {w : World} {d u : Nat} {f : Value} {args : List Value} {news : Led} {R : Value → Led → Prop} (h : ∀ v, TelCAt w d u f args news R v) : TelC w d u f args news R :=
  fun mean mg mb dp un gd cn cs a ccd cl outer A₀ base h₀ L m s Q E => h ⟨mean, mg, mb, dp, un, gd, cn, cs, a, ccd, cl, outer, A₀, base, h₀, L, m, s, Q, E⟩
end
section
section
variable {prog : Program} {w : World} {A : Around} {E : Value → Shared → Prop} {s : Shared} {env : Env} {h₀ : Heap} {x : Str} {body : List Stmt} {Q : Flow → Shared → Prop} {I : Addr} {lp : Addr × Obj} {L : Addr}
theorem revRest_indR (Inv : List Value → (Str → Option Value) → Led → Prop)
    (zero : ∀ m news, Inv [] m news → ∀ h tk, Fr h₀ env.locals h m → News h₀ env.locals h news → Q .next { s with heap := h, toks := tk })
    (succ : ∀ v r m news, Inv (v :: r) m news → ∀ (it : Obj) h tk, it.cls = .type "list_reverseiterator" → Fr h₀ env.locals h (fun y => if y = x then some v else m y) → News h₀ env.locals h ((I, it) :: news) →
      ∀ R : Flow → Shared → Prop, (∀ f s', UnrPost h₀ env.locals { s with heap := h, toks := tk } I it (fun m' n' => lp ∈ n' ∧ Inv r m' n') Q f s' → R f s') →
      wpAny (model prog w) A (execs body env) R E { s with heap := h, toks := tk }) :
    ∀ dv m news, Inv dv m news → RevRest prog w A E h₀ env x body Q s I lp dv m news :=
  revRest_ind Inv zero fun v r m news hi it h tk hc F N => succ v r m news hi it h tk hc F N _ fun _ _ z => z
theorem listRest_indR (Inv : List Value → (Str → Option Value) → Led → Prop)
    (zero : ∀ m news, Inv [] m news → ∀ h tk, Fr h₀ env.locals h m → News h₀ env.locals h news → Q .next { s with heap := h, toks := tk })
    (succ : ∀ v r m news, Inv (v :: r) m news → ∀ (it : Obj) h tk, it.cls = .type "list_iterator" → Fr h₀ env.locals h (fun y => if y = x then some v else m y) → News h₀ env.locals h ((I, it) :: news) →
      ∀ R : Flow → Shared → Prop, (∀ f s', UnrPost h₀ env.locals { s with heap := h, toks := tk } I it (fun m' n' => lp ∈ n' ∧ Inv r m' n') Q f s' → R f s') →
      wpAny (model prog w) A (execs body env) R E { s with heap := h, toks := tk }) :
    ∀ dv m news, Inv dv m news → ListRest prog w A E h₀ env x body Q s I lp dv m news :=
  listRest_ind Inv zero fun v r m news hi it h tk hc F N => succ v r m news hi it h tk hc F N _ fun _ _ z => z
theorem rangeRest_indR {a : Int} {n : Nat} (Inv : Nat → (Str → Option Value) → Led → Prop)
    (zero : ∀ i m news, Inv i m news → i = n → ∀ h tk, Fr h₀ env.locals h m → News h₀ env.locals h news → Q .next { s with heap := h, toks := tk })
    (succ : ∀ i m news, Inv i m news → i < n → ∀ t h tk, Fr h₀ env.locals h (fun y => if y = x then some (.int (a + (i : Int)) t) else m y) →
      News h₀ env.locals h ((I, itR (a + ((i + 1 : Nat) : Int)) ((n : Int) - ((i + 1 : Nat) : Int))) :: news) →
      ∀ R : Flow → Shared → Prop, (∀ f s', UnrPost h₀ env.locals { s with heap := h, toks := tk } I (itR (a + ((i + 1 : Nat) : Int)) ((n : Int) - ((i + 1 : Nat) : Int))) (fun m' n' => Inv (i + 1) m' n') Q f s' → R f s') →
      wpAny (model prog w) A (execs body env) R E { s with heap := h, toks := tk }) :
    ∀ k i m news, i + k = n → Inv i m news → RangeRest prog w A E h₀ env x body Q s I a n k i m news :=
  rangeRest_ind Inv zero fun i m news hi hl t h tk F N => succ i m news hi hl t h tk F N _ fun _ _ z => z
theorem While_invR {test : Expr} {body : List Stmt} {pos : Pos} {m : Str → Option Value} {news : List (Addr × Obj)} (J : Nat → (Str → Option Value) → List (Addr × Obj) → Prop) {n₀ : Nat}
    (F : Fr h₀ L s.heap m) (N : News h₀ L s.heap news) (hJ : J n₀ m news)
    (turn : ∀ n m₁ news₁ h₁ tk₁, Fr h₀ L h₁ m₁ → News h₀ L h₁ news₁ → J n m₁ news₁ →
      ∀ (R : Flow → Shared → Prop) (R0 : Shared → Prop), (∀ f s', WhileStep2 h₀ L s J Q n f s' → R f s') → (∀ s', Q .next s' → R0 s') →
      wpAny (model prog w) A (isTrue test env (eval test env)) (fun b s₂ =>
        if b = true then wpAny (model prog w) A (execs body env) R E s₂ else R0 s₂) E { s with heap := h₁, toks := tk₁ })
    (hE : PassesOwn (model prog w) A env E := by passes_own) :
    wpAny (model prog w) A (exec (.While test body [] pos) env) Q E s :=
  While_inv2 J F N hJ (fun n m₁ news₁ h₁ tk₁ a b c => turn n m₁ news₁ h₁ tk₁ a b c _ _ (fun _ _ z => z) fun _ z => z) hE
end
end
section
open PySem PySem.W PyProof.Rows PySem.Spec PySem.Calls PyProof.Rows.LCg
theorem compTurn_20 (elt target iter target2 iter2 : Expr) (scope : Scope) (pos : Pos) (it acc : Value) (env : Env) :
    compTurn (.ListComp elt [⟨target, iter, [], 0⟩, ⟨target2, iter2, [], 0⟩] scope pos) 0 it acc env = (standAt iter.pos >>= fun _ => pyNext it >>= fun r => match r with
      | none => pure (.done .next)
      | some v => letOwnedTupleGo target it v >>= fun _ => assign target env v >>= fun _ =>
        eval iter2 env >>= fun x => standAt iter2.pos >>= fun _ => foldedSetIterable iter2 env x >>= fun x => holding [x] (pyIter x) >>= fun i1 => runOwn (.compStart (.ListComp elt [⟨target, iter, [], 0⟩, ⟨target2, iter2, [], 0⟩] scope pos) 1 i1 acc env) env >>= fun _ =>
          again (.compLoop (.ListComp elt [⟨target, iter, [], 0⟩, ⟨target2, iter2, [], 0⟩] scope pos) 0 it acc env)) := by rfl
theorem compTurn_21 (elt target iter : Expr) (g0 : Comprehension) (scope : Scope) (pos : Pos) (it acc : Value) (env : Env) :
    compTurn (.ListComp elt [g0, ⟨target, iter, [], 0⟩] scope pos) 1 it acc env = (standAt iter.pos >>= fun _ => pyNext it >>= fun r => match r with
      | none => pure (.done .next)
      | some v => letOwnedTupleGo target it v >>= fun _ => assign target env v >>= fun _ =>
        (eval elt env >>= fun x => call (.builtin "list.append") [acc, x] >>= fun _ => pure ()) >>= fun _ =>
          again (.compLoop (.ListComp elt [g0, ⟨target, iter, [], 0⟩] scope pos) 1 it acc env)) := by rfl
section
variable {prog : Program} {w : World} {A : Around} {E : Value → Shared → Prop} {R : Result → Shared → Prop} {s : Shared}
theorem loop21 {elt target iter : Expr} {g0 : Comprehension} {scope : Scope} {pos : Pos} {it acc : Value} {env : Env} (I : Nat → Shared → Prop)
    (turn : ∀ n s, I n s → ∀ E', wpAny (model prog w) A (pyNext it) (fun r s₁ => match r with
      | none => R (.ok .next) s₁
      | some v => ∀ E', wpAny (model prog w) A (assign target env v) (fun _ s₂ => ∀ E', wpAny (model prog w) A (eval elt env) (fun x s₃ =>
          ∀ E', wpAny (model prog w) A (call (.builtin "list.append") [acc, x]) (fun _ s₄ => ∃ m, m < n ∧ I m s₄) E' s₃) E' s₂) E' s₁) E' s)
    (n : Nat) (h : I n s) (ht : ∀ v, letOwnedTupleGo target it v = pure () := by intro _; rfl) : codeAny (model prog w) A (.compLoop (.ListComp elt [g0, ⟨target, iter, [], 0⟩] scope pos) 1 it acc env) R s := by
  refine codeAny_loop rfl I (fun n s hI => ?_) n h
  show wpAny _ A ((compTurn (.ListComp elt [g0, ⟨target, iter, [], 0⟩] scope pos) 1 it acc env).onRaise (fun x => do noteFrame x env; theTreesLotGoes x)) _ _ s
  refine wpAny_noted ?_
  rw [compTurn_21]
  refine wpAny_bind (wpAny_standAt (wpAny_bind (wpAny_mono (turn n s hI _) (fun r s₁ h₁ => ?_) fun _ _ h' => h')))
  cases r with
  | none => exact wpAny_pure h₁
  | some v =>
    refine wpAny_bind (wpAny_of_eq (ht v) ?_)
    refine wpAny_bind (wpAny_mono (h₁ _) (fun _ s₂ h₂ => ?_) fun _ _ h' => h')
    exact wpAny_bind (wpAny_bind (wpAny_mono (h₂ _) (fun x s₃ h₃ => wpAny_bind (wpAny_mono (h₃ _) (fun _ s₄ h₄ => wpAny_pure (wpAny_pure ⟨rfl, h₄⟩)) fun _ _ h' => h')) fun _ _ h' => h'))
theorem start21 {elt target iter : Expr} {g0 : Comprehension} {scope : Scope} {pos : Pos} {it acc : Value} {env : Env}
    (h0 : codeAny (model prog w) A (.compLoop (.ListComp elt [g0, ⟨target, iter, [], 0⟩] scope pos) 1 it acc env) R s)
    (h : ∀ E', wpAny (model prog w) A (pyIter it) (fun it' s' => codeAny (model prog w) A (.compLoop (.ListComp elt [g0, ⟨target, iter, [], 0⟩] scope pos) 1 it' acc env) R s') E' s) :
    codeAny (model prog w) A (.compStart (.ListComp elt [g0, ⟨target, iter, [], 0⟩] scope pos) 1 it acc env) R s := by
  refine codeAny_of_tree ?_
  show wpAny _ _ ((compStart (.ListComp elt [g0, ⟨target, iter, [], 0⟩] scope pos) 1 it acc env).onRaise (fun x => do noteFrame x env; standAt theWindowsPlace)) _ _ s
  refine wpAny_notedAt ?_
  unfold compStart
  show wpAny _ _ (ask >>= _) _ _ s
  refine wpAny_bind (wpAny_askSetting (wpAny_ite ?_))
  split
  · first
      | exact wpAny_bind (wpAny_pure (wpAny_pure (And.intro rfl h0)))
      | exact wpAny_pure (And.intro rfl h0)
  · first
      | exact wpAny_bind (wpAny_rule (wpAny_bind (wpAny_standAt (wpAny_bind (wpAny_mono (h _) (fun it' s' h' => wpAny_pure (And.intro rfl h')) fun _ _ x => x)))))
      | (refine wpAny_bind (wpAny_rule ?_); show wpAny _ _ (standAt iter.pos >>= _) _ _ s; exact wpAny_bind (wpAny_standAt (wpAny_bind (wpAny_mono (h _) (fun it' s' h' => wpAny_pure (And.intro rfl h')) fun _ _ x => x))))
theorem loop20 {elt target iter target2 iter2 : Expr} {scope : Scope} {pos : Pos} {it acc : Value} {env : Env} (I : Nat → Shared → Prop)
    (turn : ∀ n s, I n s → ∀ E', wpAny (model prog w) A (pyNext it) (fun r s₁ => match r with
      | none => R (.ok .next) s₁
      | some v => ∀ E', wpAny (model prog w) A (assign target env v) (fun _ s₂ => ∀ E', wpAny (model prog w) A (eval iter2 env) (fun x s₃ =>
          ∀ E', wpAny (model prog w) A (pyIter x) (fun i1 s₄ => ∀ E' : Value → Shared → Prop, codeAny (model prog w) A (.compStart (.ListComp elt [⟨target, iter, [], 0⟩, ⟨target2, iter2, [], 0⟩] scope pos) 1 i1 acc env) (fun r s₅ => match r with | .ok _ => ∃ m, m < n ∧ I m s₅ | .error e => E' e s₅) s₄) E' s₃) E' s₂) E' s₁) E' s)
    (n : Nat) (h : I n s) (ht : ∀ v, letOwnedTupleGo target it v = pure () := by intro _; rfl) (hs : ∀ x, foldedSetIterable iter2 env x = pure x := by intro _; rfl) : codeAny (model prog w) A (.compLoop (.ListComp elt [⟨target, iter, [], 0⟩, ⟨target2, iter2, [], 0⟩] scope pos) 0 it acc env) R s := by
  refine codeAny_loop rfl I (fun n s hI => ?_) n h
  show wpAny _ A ((compTurn (.ListComp elt [⟨target, iter, [], 0⟩, ⟨target2, iter2, [], 0⟩] scope pos) 0 it acc env).onRaise (fun x => do noteFrame x env; theTreesLotGoes x)) _ _ s
  refine wpAny_noted ?_
  rw [compTurn_20]
  refine wpAny_bind (wpAny_standAt (wpAny_bind (wpAny_mono (turn n s hI _) (fun r s₁ h₁ => ?_) fun _ _ h' => h')))
  cases r with
  | none => exact wpAny_pure h₁
  | some v =>
    refine wpAny_bind (wpAny_of_eq (ht v) ?_)
    refine wpAny_bind (wpAny_mono (h₁ _) (fun _ s₂ h₂ => ?_) fun _ _ h' => h')
    refine wpAny_bind (wpAny_mono (h₂ _) (fun x s₃ h₃ => wpAny_bind (wpAny_standAt (wpAny_bind (wpAny_of_eq (hs x) ?_)))) fun _ _ h' => h')
    refine wpAny_bind (wpAny_holding (wpAny_mono (h₃ _) (fun i1 s₄ h₄ => ?_) fun _ _ h' => h'))
    exact wpAny_bind (wpAny_mono (wpAny_runOwn (Q := fun _ s₅ => ∃ m, m < n ∧ I m s₅) (h₄ _)) (fun _ s₅ h₅ => wpAny_pure ⟨rfl, h₅⟩) fun _ _ h' => h')
end
end
section
open PySem PySem.W PyProof.Rows PySem.Spec PySem.Calls PyProof.Rows.LCg
inductive I2Inv (h₀ : Heap) (L : Addr) (m : Str → Option Value) (s : Shared) (us ys : List Value) (St1 : Nat → Heap → Prop) (I C D : Addr) (oI : Obj) (news : Led) (k : Nat) (s' : Shared) : Prop
  | mk (h' : Heap) (tk j : Nat) (m' : Str → Option Value) (zh1 : s' = { s with heap := h', toks := tk }) (zh2 : j ≤ us.length) (zh3 : k = us.length + 1 - j) (zh4 : St1 j h') (zh5 : Fr h₀ L h' m) (zh6 : h'.Ns C m') (zh7 : News h₀ L h' ((I, oI) :: (D, lst (ys ++ us.take j)) :: news))
section
variable {prog : Program} {w : World} {A : Around} {E : Value → Shared → Prop} {R : Result → Shared → Prop} {s : Shared} {h₀ : Heap} {L : Addr} {m : Str → Option Value} {env : Env}
theorem innerC {x2 : Str} {px2 px3 : Pos} {iter2 : Expr} {g0 : Comprehension} {scope : Scope} {pos : Pos} {cl : List (Str × Addr)} {I I1 C D : Addr} {m₂ : Str → Option Value} {oI : Obj} {ys us : List Value} {news : Led} {fp1 : List Addr} {P1 : Nat → Value → Prop} {St1 : Nat → Heap → Prop}
    (W1 : Walks prog w A I1 fp1 [I1] us.length P1 St1) (hP1 : ∀ j v, j < us.length → P1 j v → us[j]? = some v) (hsz : ys.length + us.length ≤ sizeLine)
    (hx2 : scope.names.lookup x2 = some .local) (hkind : scope.kind = .function) (hdb : (x2 == ("__debug__" : Str)) = false)
    (hst : St1 0 s.heap) (hDf : D ∉ fp1) (hCf : C ∉ fp1) (h1L : L ≠ I1) (h1I : I ≠ I1) (h1C : C ≠ I1) (h1D : D ≠ I1) (h1₀ : h₀.get? I1 = none) (h1n : ∀ p ∈ news, p.1 ≠ I1)
    (F : Fr h₀ L s.heap m) (N : News h₀ L s.heap ((I, oI) :: (D, lst ys) :: news)) (hC : s.heap.Ns C m₂) (hC₀ : h₀.get? C = none) (hCL : C ≠ L) (nIC : I ≠ C) (nID : I ≠ D) (nCD : C ≠ D) (off : Off3 I C D news)
    (hR : ∀ h tk m', Fr h₀ L h m → h.Ns C m' → News h₀ L h ((I, oI) :: (D, lst (ys ++ us)) :: news) → R (.ok .next) { s with heap := h, toks := tk }) :
    codeAny (model prog w) A (.compLoop (.ListComp (.Name x2 px3) [g0, ⟨.Name x2 px2, iter2, [], 0⟩] scope pos) 1 (.ref I1) (.ref D) (compEnvC scope cl C env)) R s := by
  have off3 := off.mem
  refine loop21 (I2Inv h₀ L m s us ys St1 I C D oI news) ?_ (us.length + 1) ⟨s.heap, s.toks, 0, m₂, rfl, Nat.zero_le _, rfl, hst, F, hC, by rw [List.take_zero, List.append_nil]; exact N⟩
  rintro k s' ⟨h', tk, j, m', rfl, hj, rfl, hst', F', hn', N'⟩ E'
  by_cases hlt : j < us.length
  · refine W1.item j _ _ _ hlt hst' fun v h₂ tk₂ hPv hst₂ hk₂ => ?_
    have hv := hP1 j v hlt hPv
    intro E'
    refine wpAny_assign_Name (wpAny_storeName_local (lookup_relabel_local hx2) (hn'.at' fun o e => hk₂ _ o (by simpa using h1C) e) (fun h₃ hn₃ hs₃ => ?_) (by simp [compEnvC, relabel, hkind]))
    intro E'
    refine wpAny_Name (wpAny_loadName_local hkind (lookup_relabel_local hx2) hn₃ (v := v) (by simp) ?_) hdb
    intro E'
    have F₃ : Fr h₀ L h₃ m := (fr_but F' hk₂ h1L h1₀).change hs₃ hCL hC₀
    have N₂ : News h₀ L h₂ ((I, oI) :: (D, lst (ys ++ us.take j)) :: news) := news_but N' hk₂ fun p hp => by
      rcases List.mem_cons.mp hp with rfl | hp
      · exact h1I
      rcases List.mem_cons.mp hp with rfl | hp
      · exact h1D
      · exact h1n p hp
    have hst₃ : St1 (j + 1) h₃ := W1.frame _ _ _ hst₂ fun b hb o e => hs₃.extBut b o (fun q => hCf (by have q' : b = C := q; rw [← q']; exact hb)) e
    have N₃ : News h₀ L h₃ ((I, oI) :: (D, lst (ys ++ us.take j)) :: news) := fun p hp => by
      have z := N₂ p hp
      refine ⟨hs₃.extBut _ _ ?_ z.1, z.2⟩
      rcases List.mem_cons.mp hp with rfl | hp
      · exact nIC
      rcases List.mem_cons.mp hp with rfl | hp
      · exact Ne.symm nCD
      · exact (off3 p hp).2.1
    have zD := (N₃ _ (.tail _ (.head _))).1
    have tl : (us.take j).length = j := by rw [List.length_take]; exact Nat.min_eq_left hj
    refine append_at (hsz := by show (ys ++ us.take j).toArray.size ≤ sizeLine; rw [List.size_toArray, List.length_append, tl]; exact Nat.le_trans (Nat.add_le_add_left hj _) hsz) zD fun h₅ hs₅ hD₅ => ?_
    refine ⟨us.length + 1 - (j + 1), by omega, h₅, _, j + 1, _, rfl, hlt, rfl, W1.frame _ _ _ hst₃ fun b hb o e => hs₅.extBut b o (fun q => hDf (q ▸ hb)) e, F₃.change hs₅ ((N₃ _ (.tail _ (.head _))).2.1) ((N₃ _ (.tail _ (.head _))).2.2), hn₃.sameBut hs₅ nCD, ?_⟩
    have e1 : ys ++ us.take (j + 1) = (ys ++ us.take j) ++ [v] := by rw [List.take_add_one, hv]; simp
    rw [e1]
    intro p hp
    rcases List.mem_cons.mp hp with rfl | hp
    · have z := N₃ _ (.head _)
      exact ⟨hs₅.extBut _ _ nID z.1, z.2⟩
    rcases List.mem_cons.mp hp with rfl | hp
    · exact ⟨hD₅.trans (congrArg some (lst_snoc _ v)), (N₃ _ (.tail _ (.head _))).2⟩
    · have z := N₃ p (.tail _ (.tail _ hp))
      exact ⟨hs₅.extBut _ _ (off3 p hp).2.2 z.1, z.2⟩
  · have hje : j = us.length := by omega
    subst hje
    refine W1.done _ _ _ hst' fun h₂ tk₂ hk₂ => ?_
    rw [List.take_length] at N'
    exact hR h₂ tk₂ m' (fr_but F' hk₂ h1L h1₀) (hn'.at' fun o e => hk₂ _ o (by simpa using h1C) e) (news_but N' hk₂ fun p hp => by
      rcases List.mem_cons.mp hp with rfl | hp
      · exact h1I
      rcases List.mem_cons.mp hp with rfl | hp
      · exact h1D
      · exact h1n p hp)
noncomputable def Items (xv : Value) (us : List Value) (news : Led) : Prop := ∃ a o n, xv = .ref a ∧ (a, o) ∈ news ∧ (o.cls = .type "list" ∨ o.cls = .type "tuple") ∧ o.data = .seq us.toArray n
noncomputable def CompRest2 (prog : Program) (w : World) (A : Around) (h₀ : Heap) (L : Addr) (m : Str → Option Value) (env : Env) (iter2 : Expr) (x : Str) (scope : Scope) (cl : List (Str × Addr)) (s : Shared) (S : Led → Prop) (P : Nat → Value → Prop)
    (Fin : List Value → Led → Prop) : Nat → Nat → List Value → Led → Prop
  | 0, _, ys, news => Fin ys news
  | k + 1, i, ys, news => ∀ v I oI C oC D m₂ h tk (E' : Value → Shared → Prop), P i v → NsObj oC m₂ → m₂ x = some v → Fr h₀ L h m → News h₀ L h ((I, oI) :: (C, oC) :: (D, lst ys) :: news) → Off3 I C D news → ((@Ne Nat I C) ∧ (@Ne Nat I D) ∧ (@Ne Nat C D)) →
      wpAny (model prog w) A (eval iter2 (compEnvC scope cl C env)) (CompEnd h₀ L m { s with heap := h, toks := tk } I oI C oC D (lst ys) S (fun xv news' => ∃ us, Items xv us news' ∧ ys.length + us.length ≤ sizeLine ∧ CompRest2 prog w A h₀ L m env iter2 x scope cl s S P Fin k (i + 1) (ys ++ us) news')) E' { s with heap := h, toks := tk }
end
end
section
open PySem PySem.W PyProof.Rows PySem.Spec PySem.Calls PyProof.Rows.LCg
section
variable {prog : Program} {w : World} {A : Around} {E : Value → Shared → Prop} {R : Result → Shared → Prop} {s : Shared} {h₀ : Heap} {L : Addr} {m : Str → Option Value} {env : Env}
theorem inner_start {x2 : Str} {px2 px3 : Pos} {iter2 : Expr} {g0 : Comprehension} {scope : Scope} {pos : Pos} {cl : List (Str × Addr)} {I C D : Addr} {m₂ : Str → Option Value} {oI oC : Obj} {ys us : List Value} {news : Led} {xv : Value}
    (hh : A.handled = none) (hIt : Items xv us news) (hsz : ys.length + us.length ≤ sizeLine)
    (hx2 : scope.names.lookup x2 = some .local) (hkind : scope.kind = .function) (hdb : (x2 == ("__debug__" : Str)) = false)
    (F : Fr h₀ L s.heap m) (N : News h₀ L s.heap ((I, oI) :: (C, oC) :: (D, lst ys) :: news)) (hC : s.heap.Ns C m₂) (nIC : I ≠ C) (nID : I ≠ D) (nCD : C ≠ D) (off : Off3 I C D news)
    (hR : ∀ h tk m', Fr h₀ L h m → h.Ns C m' → News h₀ L h ((I, oI) :: (D, lst (ys ++ us)) :: news) → R (.ok .next) { s with heap := h, toks := tk }) :
    wpAny (model prog w) A (pyIter xv) (fun i1 s₄ => codeAny (model prog w) A (.compStart (.ListComp (.Name x2 px3) [g0, ⟨.Name x2 px2, iter2, [], 0⟩] scope pos) 1 i1 (.ref D) (compEnvC scope cl C env)) R s₄) E s := by
  obtain ⟨a, o, n, rfl, ha, hcls, hdata⟩ := hIt
  have ha' := N (a, o) (.tail _ (.tail _ (.tail _ ha)))
  have hlt : ∀ p ∈ (I, oI) :: (C, oC) :: (D, lst ys) :: news, @LT.lt Nat _ p.1 s.heap.objs.size := fun p hp => Heap.lt_size (N p hp).1
  have lI := hlt _ (.head _)
  have lC := hlt _ (.tail _ (.head _))
  have lD := hlt _ (.tail _ (.tail _ (.head _)))
  have la := hlt _ (.tail _ (.tail _ (.tail _ ha)))
  have lL : @LT.lt Nat _ L s.heap.objs.size := F.ns.lt
  have offa := off.mem (a, o) ha
  have zC := N (C, oC) (.tail _ (.head _))
  have up : ∀ (q : Obj) b o', s.heap.get? b = some o' → (s.heap.push q).get? b = some o' := fun q b o' e => Heap.get?_push_of_some _ e
  have N' : News h₀ L s.heap ((I, oI) :: (D, lst ys) :: news) := fun p hp => N p (by
    rcases List.mem_cons.mp hp with rfl | hp
    · exact .head _
    · exact .tail _ (.tail _ hp))
  have key : ∀ (q : Obj) (P1 : Nat → Value → Prop) (St1 : Nat → Heap → Prop), Walks prog w A s.heap.objs.size [s.heap.objs.size, a] [s.heap.objs.size] us.length P1 St1 → (∀ j v, j < us.length → P1 j v → us[j]? = some v) → St1 0 (s.heap.push q) →
      codeAny (model prog w) A (.compStart (.ListComp (.Name x2 px3) [g0, ⟨.Name x2 px2, iter2, [], 0⟩] scope pos) 1 (.ref s.heap.objs.size) (.ref D) (compEnvC scope cl C env)) R { s with heap := s.heap.push q } := by
    intro q P1 St1 W1 hP1 hst
    have hD0 : D ∉ [s.heap.objs.size, a] := by
      simp only [List.mem_cons, List.not_mem_nil, or_false, not_or]
      exact ⟨Nat.ne_of_lt lD, Ne.symm offa.2.2⟩
    have hC0 : C ∉ [s.heap.objs.size, a] := by
      simp only [List.mem_cons, List.not_mem_nil, or_false, not_or]
      exact ⟨Nat.ne_of_lt lC, Ne.symm offa.2.1⟩
    have main := innerC (prog := prog) (w := w) (A := A) (R := R) (s := { s with heap := s.heap.push q }) (h₀ := h₀) (L := L) (m := m) (env := env) (x2 := x2) (px2 := px2) (px3 := px3) (iter2 := iter2) (g0 := g0) (scope := scope) (pos := pos) (cl := cl) (I := I) (oI := oI) (ys := ys) (us := us) (news := news)
      W1 hP1 hsz hx2 hkind hdb hst hD0 hC0 (Nat.ne_of_lt lL) (Nat.ne_of_lt lI) (Nat.ne_of_lt lC) (Nat.ne_of_lt lD) (next_is_new F) (fun p hp => Nat.ne_of_lt (hlt p (.tail _ (.tail _ (.tail _ hp)))))
      (F.keeps (up q)) (N'.grown (up q)) (hC.at' fun o' e => up q _ o' e) zC.2.2 zC.2.1 nIC nID nCD off hR
    exact start21 main fun E' => W1.self 0 _ _ _ hst main
  rcases hcls with hc | hc
  · have hl : s.heap.IsList a us.toArray := ⟨o, ha'.1, hc, n, hdata⟩
    refine wpAny_pyIter_list hl ?_
    have W := Walks.list (prog := prog) (w := w) hh s.heap.objs.size a (Nat.ne_of_lt la) us.toArray
    rw [List.size_toArray] at W
    exact key _ _ _ W (fun j v _ e => by simpa using e) ⟨⟨_, Heap.get?_push_size _ rfl, rfl, rfl⟩, hl.push _⟩
  · have hl : s.heap.IsTuple a us.toArray := ⟨o, ha'.1, hc, n, hdata⟩
    refine wpAny_pyIter_tuple hl ?_
    have W := Walks.tuple (prog := prog) (w := w) hh s.heap.objs.size a (Nat.ne_of_lt la) us.toArray
    rw [List.size_toArray] at W
    exact key _ _ _ W (fun j v _ e => by simpa using e) ⟨⟨_, Heap.get?_push_size _ rfl, rfl, rfl⟩, hl.at fun o' e => up _ _ o' e⟩
end
end
section
open PySem PySem.W PyProof.Rows PySem.Spec PySem.Calls PyProof.Rows.LCg
inductive B2Inv (prog : Program) (w : World) (A : Around) (h₀ : Heap) (L : Addr) (m : Str → Option Value) (env : Env) (iter2 : Expr) (x : Str) (scope : Scope) (cl : List (Str × Addr)) (s₂ : Shared) (S : Led → Prop) (P : Nat → Value → Prop) (Fin : List Value → Led → Prop) (St : Nat → Heap → Prop) (n : Nat) (I C D : Addr) (k : Nat) (s' : Shared) : Prop
  | mk (h' : Heap) (tk i : Nat) (ys : List Value) (m' : Str → Option Value) (news' : Led) (zh1 : s' = { s₂ with heap := h', toks := tk }) (zh2 : i ≤ n) (zh3 : k = n + 1 - i) (zh4 : St i h') (zh5 : Fr h₀ L h' m) (zh6 : h'.Ns C m') (zh7 : News h₀ L h' ((D, lst ys) :: news')) (zh8 : Off3 I C D news') (zh9 : S news') (zh10 : CompRest2 prog w A h₀ L m env iter2 x scope cl s₂ S P Fin (n - i) i ys news')
section
variable {prog : Program} {w : World} {A : Around} {E : Value → Shared → Prop} {R : Result → Shared → Prop} {s : Shared} {h₀ : Heap} {L : Addr} {m : Str → Option Value} {env : Env}
theorem block2 {iter iter2 : Expr} {x x2 : Str} {px px2 px3 : Pos} {scope : Scope} {cl : List (Str × Addr)} {pos : Pos} {s₂ : Shared} {I : Addr} {fp : List Addr} {n : Nat} {P : Nat → Value → Prop} {St : Nat → Heap → Prop} {S : Led → Prop} {news : Led}
    {Fin : List Value → Led → Prop} {RR : Value → Addr → Result → Shared → Prop}
    (hh : A.handled = none) (hs : ∀ (C : Addr) v, foldedSetIterable iter2 (compEnvC scope cl C env) v = pure v)
    (W : Walks prog w A I fp [I] n P St) (hIo : ∀ i h, St i h → ∃ o, h.get? I = some o)
    (hSt : ∀ i h h' o nw, St i h → h.get? I = some o → h'.get? I = some o → (∀ b o, h₀.get? b = some o → h'.get? b = some o) → News h₀ L h' nw → S nw → St i h')
    (hcell : ∀ y ∈ scope.names, y.2 ≠ .cell) (hkind : scope.kind = .function) (hx : scope.names.lookup x = some .local) (hx2 : scope.names.lookup x2 = some .local) (hdb : (x2 == ("__debug__" : Str)) = false) (hst : St 0 s₂.heap) (hfp : ∀ b ∈ fp, b < s₂.heap.objs.size)
    (F : Fr h₀ L s₂.heap m) (N : News h₀ L s₂.heap news) (hIL : L ≠ I) (hI₀ : h₀.get? I = none) (off : ∀ p ∈ news, p.1 ≠ I) (hS : S news)
    (R : CompRest2 prog w A h₀ L m env iter2 x scope cl s₂ S P Fin n 0 [] news)
    (hRR : ∀ D C h tk m' ys news', Fr h₀ L h m → News h₀ L h ((D, lst ys) :: news') → Off1 D news' → h.Ns C m' → h₀.get? C = none → h₀.get? D = none → C ≠ L → D ≠ L → C ≠ D → (∀ p ∈ news', p.1 ≠ C) → Fin ys news' → RR (.ref D) C (.ok .next) { s₂ with heap := h, toks := tk }) :
    wpAny (model prog w) A (newList []) (fun acc s₃ => wpAny (model prog w) A (newFunctionEnv scope env.globals cl [] env.qual none .none (some env)) (fun cenv s₄ =>
      codeAny (model prog w) A (.compStart (.ListComp (.Name x2 px3) [⟨.Name x px, iter, [], 0⟩, ⟨.Name x2 px2, iter2, [], 0⟩] scope pos) 0 (.ref I) acc { cenv with scope := relabel scope env }) (RR acc cenv.locals) s₄) E s₃) E s₂ := by
  refine wpAny_newObj_type (wpAny_newFunctionEnv hcell (by intro y hy; simp at hy) (fun h₁ hns₁ hsb₁ => ?_) hkind)
  dsimp only at hns₁ hsb₁ ⊢
  generalize hH2 : s₂.heap.push { cls := .type "list", dict := none, data := .seq ([] : List Value).toArray } = H2 at hns₁ hsb₁ ⊢
  have hC : H2.objs.size = s₂.heap.objs.size + 1 := by rw [← hH2, Heap.size_push]
  have hDC : s₂.heap.objs.size ≠ H2.objs.size := by rw [hC]; exact Nat.ne_of_lt (Nat.lt_succ_self _)
  have below : ∀ b, b < s₂.heap.objs.size → b ≠ H2.objs.size ∧ b ≠ s₂.heap.objs.size := fun b hb => ⟨by rw [hC]; exact Nat.ne_of_lt (Nat.lt_succ_of_lt hb), Nat.ne_of_lt hb⟩
  have hDf : s₂.heap.objs.size ∉ fp := fun hm => Nat.lt_irrefl _ (hfp _ hm)
  have hCf : H2.objs.size ∉ fp := fun hm => by have := hfp _ hm; rw [hC] at this; exact Nat.lt_irrefl _ (Nat.lt_of_succ_lt this)
  have hIf : I ∈ fp := W.sub I (List.mem_singleton.mpr rfl)
  have hIlt : I < s₂.heap.objs.size := hfp I hIf
  have old : ∀ b o, s₂.heap.get? b = some o → h₁.get? b = some o := fun b o e => hsb₁.extBut b o (below b (Heap.lt_size e)).1 (Heap.get?_push_of_some _ (hH2 ▸ Heap.get?_push_of_some _ e))
  have hacc : h₁.get? s₂.heap.objs.size = some (lst []) := hsb₁.extBut _ _ hDC (Heap.get?_push_of_some _ (hH2 ▸ Heap.get?_push_size _ rfl))
  have hst₁ : St 0 h₁ := W.frame _ _ _ hst fun b _ o e => old b o e
  have fresh : ∀ a, s₂.heap.objs.size ≤ a → s₂.heap.get? a = none := fun a ha => by
    cases e : s₂.heap.get? a with
    | none => rfl
    | some o' => exact absurd (Heap.lt_size e) (Nat.not_lt.mpr ha)
  have fresh₀ : ∀ a, s₂.heap.objs.size ≤ a → h₀.get? a = none := fun a ha => by
    cases e : h₀.get? a with
    | none => rfl
    | some o' => have := F.keep a o' e; rw [fresh a ha] at this; cases this
  have hD₀ : h₀.get? s₂.heap.objs.size = none := fresh₀ _ (Nat.le_refl _)
  have hC₀ : h₀.get? H2.objs.size = none := fresh₀ _ (by rw [hC]; exact Nat.le_succ _)
  have hLlt : L < s₂.heap.objs.size := F.ns.lt
  have hDL : s₂.heap.objs.size ≠ L := Ne.symm (below L hLlt).2
  have hCL : H2.objs.size ≠ L := Ne.symm (below L hLlt).1
  have hCI : I ≠ H2.objs.size := (below I hIlt).1
  have hDI : I ≠ s₂.heap.objs.size := (below I hIlt).2
  have off₀ : Off3 I H2.objs.size s₂.heap.objs.size news := Off3.of fun p hp => ⟨off p hp, (below _ (Heap.lt_size (N p hp).1)).1, (below _ (Heap.lt_size (N p hp).1)).2⟩
  have loop : ∀ s₃ : Shared, s₃ = { s₂ with heap := h₁, toks := s₂.toks + ([] : List (Str × Value)).length } →
      codeAny (model prog w) A (.compLoop (.ListComp (.Name x2 px3) [⟨.Name x px, iter, [], 0⟩, ⟨.Name x2 px2, iter2, [], 0⟩] scope pos) 0 (.ref I) (.ref s₂.heap.objs.size) (compEnvC scope cl H2.objs.size env))
        (RR (.ref s₂.heap.objs.size) H2.objs.size) s₃ := by
    rintro s₃ rfl
    refine loop20 (hs := hs _)
      (B2Inv prog w A h₀ L m env iter2 x scope cl s₂ S P Fin St n I H2.objs.size s₂.heap.objs.size) ?_ (n + 1)
      ⟨h₁, _, 0, [], _, news, rfl, Nat.zero_le _, rfl, hst₁, F.keeps old, hns₁, fun p hp => ?_, off₀, hS, R⟩
    · rintro k s' ⟨h', tk, i, ys, m', news', rfl, hi, rfl, hst', F', hn', N', off', hS', R'⟩ E'
      by_cases hlt : i < n
      · obtain ⟨j, hj⟩ : ∃ j, n - i = j + 1 := ⟨n - i - 1, by omega⟩
        rw [hj] at R'
        refine W.item i _ _ _ hlt hst' fun v h₂ tk₂ hPv hst₂ hk₂ => ?_
        intro E'
        refine wpAny_assign_Name (wpAny_storeName_local (lookup_relabel_local hx) (hn'.at' fun o e => hk₂ _ o (by simpa using Ne.symm hCI) e) (fun h₃ hn₃ hs₃ => ?_) (by simp [compEnvC, relabel, hkind]))
        intro E'
        have hst₃ : St (i + 1) h₃ := W.frame _ _ _ hst₂ fun b hb o e => hs₃.extBut b o (fun q => hCf (by have q' : b = H2.objs.size := q; rw [← q']; exact hb)) e
        obtain ⟨oI, heI⟩ := hIo _ _ hst₃
        obtain ⟨oC, heC, hoC⟩ := ns_obj hn₃
        have F₃ : Fr h₀ L h₃ m := (fr_but F' hk₂ hIL hI₀).change hs₃ hCL hC₀
        have off3 := off'.mem
        have N₂ : News h₀ L h₂ ((s₂.heap.objs.size, lst ys) :: news') := news_but N' hk₂ fun p hp => by
          rcases List.mem_cons.mp hp with rfl | hp
          · exact Ne.symm hDI
          · exact (off3 p hp).1
        have N₃ : News h₀ L h₃ ((I, oI) :: (H2.objs.size, oC) :: (s₂.heap.objs.size, lst ys) :: news') := fun p hp => by
          rcases List.mem_cons.mp hp with rfl | hp
          · exact ⟨heI, Ne.symm hIL, hI₀⟩
          · rcases List.mem_cons.mp hp with rfl | hp
            · exact ⟨heC, hCL, hC₀⟩
            · have z := N₂ p hp
              refine ⟨hs₃.extBut _ _ ?_ z.1, z.2⟩
              rcases List.mem_cons.mp hp with rfl | hp
              · exact hDC
              · exact (off3 p hp).2.1
        refine wpAny_mono (R' v I oI H2.objs.size oC s₂.heap.objs.size _ h₃ _ _ hPv hoC (by simp) F₃ N₃ off' ⟨hCI, hDI, Ne.symm hDC⟩) (fun xv s₄ h₄ => ?_) fun _ _ e => e
        obtain ⟨h₄, tk₄, news₄, rfl, F₄, N₄, off₄, hS₄, us, hIt, hus, R₄⟩ := h₄
        intro E'
        have zI := (N₄ (I, oI) List.mem_cons_self).1
        have zC := (N₄ (H2.objs.size, oC) (List.mem_cons_of_mem _ List.mem_cons_self)).1
        have main := inner_start (s := { s₂ with heap := h₄, toks := tk₄ }) (prog := prog) (w := w) (A := A) (env := env) (cl := cl) (scope := scope) (x2 := x2) (px2 := px2) (px3 := px3) (iter2 := iter2) (g0 := ⟨.Name x px, iter, [], 0⟩) (pos := pos) (E := E') (R := fun r s₅ => match r with
          | Except.ok _ => (∃ m', m' < n + 1 - i ∧ B2Inv prog w A h₀ L m env iter2 x scope cl s₂ S P Fin St n I H2.objs.size s₂.heap.objs.size m' s₅)
          | Except.error e => False) hh hIt hus hx2 hkind hdb F₄ N₄ (hoC.ns zC) hCI hDI (Ne.symm hDC) off₄ (by
            intro h₅ tk₅ m₅ F₅ hn₅ N₅
            refine ⟨n + 1 - (i + 1), by omega, h₅, tk₅, i + 1, ys ++ us, m₅, news₄, rfl, hlt, rfl, hSt _ _ _ _ _ hst₃ heI (N₅ _ (.head _)).1 F₅.keep (fun p hp => N₅ p (.tail _ (.tail _ hp))) hS₄, F₅, hn₅, fun p hp => N₅ p (.tail _ hp), off₄, hS₄, ?_⟩
            rw [show n - (i + 1) = j by omega]
            exact R₄)
        refine wpAny_mono main (fun i1 s₅ h₅ => ?_) fun _ _ e => e
        intro E'
        exact codeAny_mono h₅ (fun r s₆ h₆ => by
          cases r with
          | ok f => exact h₆
          | error e => exact h₆.elim)
      · obtain rfl : i = n := Nat.le_antisymm hi (Nat.not_lt.mp hlt)
        rw [Nat.sub_self] at R'
        refine W.done _ _ _ hst' fun h₂ tk₂ hk₂ => ?_
        have off3 := off'.mem
        exact hRR _ _ h₂ tk₂ _ ys news' (fr_but F' hk₂ hIL hI₀) (news_but N' hk₂ fun p hp => by
          rcases List.mem_cons.mp hp with rfl | hp
          · exact Ne.symm hDI
          · exact (off3 p hp).1) off'.one (hn'.at' fun o e => hk₂ _ o (by simpa using Ne.symm hCI) e) hC₀ hD₀ hCL hDL (Ne.symm hDC) (fun p hp => (off3 p hp).2.1) R'
    · rcases List.mem_cons.mp hp with rfl | hp
      · exact ⟨hacc, hDL, hD₀⟩
      · exact ⟨old _ _ (N p hp).1, (N p hp).2⟩
  exact codeAny_compStart_list (loop _ rfl) (W.self 0 _ _ _ hst₁ (loop _ rfl))
end
end
section
open PySem PySem.W PyProof.Rows PySem.Spec PySem.Calls PyProof.Rows.LCg
section
variable {prog : Program} {w : World} {A : Around} {E : Value → Shared → Prop} {R : Result → Shared → Prop} {s : Shared} {h₀ : Heap} {L : Addr} {m : Str → Option Value} {env : Env}
noncomputable def Src2 (prog : Program) (w : World) (A : Around) (h₀ : Heap) (L : Addr) (m : Str → Option Value) (env : Env) (iter2 : Expr) (x : Str) (scope : Scope) (cl : List (Str × Addr)) (Q : Value → Shared → Prop) (xv : Value) (s₁ : Shared) : Prop :=
  (∃ (z : Str) (t : Tok) (news : Led), xv = .str z t ∧ Fr h₀ L s₁.heap m ∧ News h₀ L s₁.heap news ∧ ∀ g, CompRest2 prog w A h₀ L m env iter2 x scope cl { s₁ with heap := g } (fun _ => True) (fun i v => SignAt z i v) (FinE h₀ L m { s₁ with heap := g } Q) z.cps.size 0 [] news) ∨
  (∃ (ax : Addr) (its : Array Value) (news : Led), xv = .ref ax ∧ Fr h₀ L s₁.heap m ∧ News h₀ L s₁.heap news ∧ SrcAt h₀ ax its news ∧ ∀ g, CompRest2 prog w A h₀ L m env iter2 x scope cl { s₁ with heap := g } (SrcAt h₀ ax its) (fun i v => its[i]? = some v) (FinE h₀ L m { s₁ with heap := g } Q) its.size 0 [] news)
theorem ListComp_2 {iter iter2 : Expr} {x x2 : Str} {px px2 px3 : Pos} {scope : Scope} {cl : List (Str × Addr)} {pos : Pos} {Q : Value → Shared → Prop} (hh : A.handled = none)
    (hclos : closureFor scope env = pure cl) (hcell : ∀ y ∈ scope.names, y.2 ≠ .cell) (hkind : scope.kind = .function)
    (hnames : ∀ y ∈ scope.names, y.2 = .local → scope.names.lookup y.1 = some .local) (hx : scope.names.lookup x = some .local) (hx2 : scope.names.lookup x2 = some .local) (hdb : (x2 == ("__debug__" : Str)) = false)
    (h : wpAny (model prog w) A (eval iter env) (Src2 prog w A h₀ L m env iter2 x scope cl Q) E s)
    (hs : ∀ x, foldedSetIterable iter env x = pure x := by intro _; rfl) (hs2 : ∀ (C : Addr) v, foldedSetIterable iter2 (compEnvC scope cl C env) v = pure v := by intro _ _; rfl) :
    wpAny (model prog w) A (eval (.ListComp (.Name x2 px3) [⟨.Name x px, iter, [], 0⟩, ⟨.Name x2 px2, iter2, [], 0⟩] scope pos) env) Q E s := by
  rw [eval_ListComp]
  refine wpAny_comprehension_free (use := none) rfl hs hclos hkind hnames (wpAny_mono h (fun xv s₁ h₁ => ?_) fun _ _ e => e)
  have fin : ∀ (g : Heap) (D C : Addr) (h : Heap) (tk : Nat) (m' : Str → Option Value) (ys : List Value) (news' : Led), Fr h₀ L h m → News h₀ L h ((D, lst ys) :: news') → Off1 D news' → h.Ns C m' → h₀.get? C = none → h₀.get? D = none → C ≠ L → D ≠ L → C ≠ D → (∀ p ∈ news', p.1 ≠ C) → FinE h₀ L m { s₁ with heap := g } Q ys news' →
      ∃ m'', h.Ns C m'' ∧ ∀ h'', Heap.SameBut C h h'' → Q (.ref D) { s₁ with heap := h'', toks := tk } := by
    intro g D C h tk m' ys news' F' N' o1 hn hC₀ hD₀ hCL hDL hCD offC fin
    refine ⟨m', hn, fun h'' hs'' => fin D h'' tk (F'.change hs'' hCL hC₀) (fun p hp => ?_) o1⟩
    refine ⟨hs''.extBut _ _ ?_ (N' p hp).1, (N' p hp).2⟩
    rcases List.mem_cons.mp hp with rfl | hp
    · exact Ne.symm hCD
    · exact offC p hp
  rcases h₁ with ⟨z, t, news, rfl, F, N, R⟩ | ⟨ax, its, news, rfl, F, N, S, R⟩
  · have key : ∀ (o : Obj) (K : String), Walks prog w A s₁.heap.objs.size [s₁.heap.objs.size] [s₁.heap.objs.size] z.cps.size (SignAt z) (fun i h => h.IsStrIter s₁.heap.objs.size K z t i) → (s₁.heap.push o).IsStrIter s₁.heap.objs.size K z t 0 → _ := fun o K W hst =>
      block2 (s₂ := { s₁ with heap := s₁.heap.push o }) (px := px) (px2 := px2) (px3 := px3) (iter := iter) (pos := pos) (E := E) (RR := compPost (model prog w) A E none Q) hh hs2 W (fun i h st => let ⟨o, e, _⟩ := st; ⟨o, e⟩) (fun i h h' o' nw st e e' _ _ _ => by obtain ⟨o, q, r⟩ := st; rw [e] at q; cases q; exact ⟨o', e', r⟩) hcell hkind hx hx2 hdb hst (fun b hb => by
          rw [List.mem_singleton.mp hb]
          show s₁.heap.objs.size < (s₁.heap.push _).objs.size
          rw [Heap.size_push]; exact Nat.lt_succ_self _)
        (F.keeps fun b o' e => Heap.get?_push_of_some _ e) (N.grown fun b o' e => Heap.get?_push_of_some _ e) (Nat.ne_of_lt F.ns.lt) (next_is_new F) (fun p hp => Nat.ne_of_lt (Heap.lt_size (N p hp).1)) trivial (R _) (fin _)
    cases ha : z.cps.all (· < 128)
    · exact wpAny_pyIter_wide ha (key _ _ (Walks.strWide hh _ z t) ⟨_, Heap.get?_push_size _ rfl, rfl, rfl⟩)
    · exact wpAny_pyIter_ascii ha (key _ _ (Walks.strAscii hh _ z t) ⟨_, Heap.get?_push_size _ rfl, rfl, rfl⟩)
  · have hl := S.list F.keep N
    have hlt : ax < s₁.heap.objs.size := by obtain ⟨_, e, _⟩ := hl; exact Heap.lt_size e
    refine wpAny_pyIter_list hl ?_
    have up : ∀ b o, s₁.heap.get? b = some o → (s₁.heap.push { cls := .type "list_iterator", data := .fields #[.ref ax, .int 0 0] }).get? b = some o := fun b o e => Heap.get?_push_of_some _ e
    refine block2 hh hs2 (Walks.list hh s₁.heap.objs.size ax (Nat.ne_of_lt hlt) its) (fun i h st => by obtain ⟨o, e, _⟩ := st.1; exact ⟨o, e⟩) list_st hcell hkind hx hx2 hdb ⟨⟨_, Heap.get?_push_size _ rfl, rfl, rfl⟩, hl.push _⟩ (fun b hb => ?_)
      (F.keeps up) (N.grown up) (Nat.ne_of_lt F.ns.lt) (next_is_new F) (fun p hp => Nat.ne_of_lt (Heap.lt_size (N p hp).1)) S (R _) (fin _)
    show b < (s₁.heap.push _).objs.size
    rw [Heap.size_push]
    rcases List.mem_cons.mp hb with rfl | hb
    · exact Nat.lt_succ_self _
    · rw [List.mem_singleton.mp hb]; exact Nat.lt_succ_of_lt hlt
end
end
section
section
variable {prog : Program} {w : World} {A : Around} {E : Value → Shared → Prop} {s : Shared}
theorem walks_done (hh : A.handled = none) (I ax : Addr) (items : Array Value) (hne : ax ≠ I) : Walks prog w A I [I, ax] [I] 0 (fun _ _ => True) (fun _ h => h.IsListIter I ax items.size ∧ h.IsList ax items) where
  sub := fun b hb => by simp at hb; simp [hb]
  frame := fun _ _ _ st hk => ⟨st.1.at fun o e => hk I (by simp) o e, st.2.at fun o e => hk ax (by simp) o e⟩
  item := fun i s Q E hi st hQ => absurd hi (Nat.not_lt_zero i)
  done := fun s Q E st hQ => (Walks.list (prog := prog) (w := w) hh I ax hne items).done s Q E st hQ
  self := fun _ s Q E st hQ => (Walks.list (prog := prog) (w := w) hh I ax hne items).self items.size s Q E st hQ
theorem list_done_ext {R : Result → Shared → Prop} (hh : A.handled = none) {I ax : Addr} {items : Array Value} (hne : ax ≠ I) (S : Addr) (c₀ : Nat) (hit : s.heap.IsListIter I ax items.size) (hl : s.heap.IsList ax items) (hSI : S ≠ I) (hSa : S ≠ ax)
    (hS : s.heap.get? S = some { cls := .type "list", data := .seq #[] c₀ })
    (hR : ∀ h' tk c', (∀ b o, b ≠ S → b ≠ I → s.heap.get? b = some o → h'.get? b = some o) → h'.get? S = some { cls := .type "list", dict := none, data := .seq #[] c', slots := #[] } → R (.ok (.ret .none)) { s with heap := h', toks := tk }) :
    wpAny (model prog w) A.in1 (Builtin.List.listExtendWith (.ref S) (.ref I) .none)
      (fun fin s' => match fin with | .done f => R (.ok f) s' | .again c' => c'.quiet = true ∧ codeAny (model prog w) A c' R s') (fun e s' => R (.error e) s') s := by
  have hT : s.TypeIs (.ref I) "list_iterator" := hit.typeIs
  have W := walks_done (prog := prog) (w := w) (A := A.in1) hh I ax items hne
  have hSf : S ∉ [I, ax] := fun hm => by
    rcases List.mem_cons.mp hm with e | hm
    · exact hSI e
    · exact hSa (List.mem_singleton.mp hm)
  have h1 : Builtin.List.listSameRef (.ref S) (.ref I) = false := by simp [Builtin.List.listSameRef, hSI]
  unfold Builtin.List.listExtendWith
  refine wpAny_bind (wpAny_typeOf hT ?_)
  rw [if_neg (by rw [h1]; decide)]
  refine wpAny_bind (wpAny_pyIter_listiter hit ?_)
  refine wpAny_bind (wpAny_holding ?_)
  unfold Builtin.List.listLengthHint
  refine wpAny_bind (wpAny_specialOf hT F.nolen_li ?_)
  show wpAny _ A.in1 (specialOf (Value.ref I) (Str.ofString "__length_hint__") >>= _) _ _ _
  refine wpAny_bind (wpAny_specialOf hT F.hint_li ?_)
  (generalize hid : ("list_iterator.__length_hint__" : String) = id0; (fail_if_success (clear hid id0)); wp_delta; rw [show splitId id0 = some ("list_iterator", "__length_hint__") from by subst hid; decide +kernel]; subst hid)
  refine wpAny_bind (wpAny_isInstance (b := true) hT (by rw [isSubtype_type]; kernel_rfl) ?_)
  refine wpAny_pure ?_
  rw [if_neg (by decide)]
  refine wpAny_pure ⟨plainId_quiet F.plain_extend_loop _, codeAny_extend_loopS W.toS (Nat.zero_le _) _ hSf _ 0 0 _ _ _ rfl (Nat.zero_le _) ⟨hit, hl⟩ hS (ItemsOf.nil _) fun s' acc' c' hm hS' hacc => ?_⟩
  have e0 : acc' = #[] := Array.eq_empty_of_size_eq_zero hacc.1
  subst e0
  rw [Moved.eq_with hm]
  refine hR s'.heap s'.toks c' (fun b ob hb1 hb2 e => hm.heap b ob (fun hmem => ?_) e) hS'
  rcases List.mem_cons.mp hmem with e' | hmem
  · exact hb1 e'
  · exact hb2 (List.mem_singleton.mp hmem)
theorem call_list_done {I ax : Addr} {items : Array Value} {Q : Value → Shared → Prop} (hh : A.handled = none) (hne : ax ≠ I) (hit : s.heap.IsListIter I ax items.size) (hl : s.heap.IsList ax items)
    (hQ : ∀ h' tk c', (∀ b o, b ≠ I → s.heap.get? b = some o → h'.get? b = some o) → h'.get? s.heap.objs.size = some { cls := .type "list", dict := none, data := .seq #[] c', slots := #[] } → Q (.ref s.heap.objs.size) { s with heap := h', toks := tk }) :
    wpAny (model prog w) A (call (.type "list") [.ref I]) Q E s := by
  have hI : I < s.heap.objs.size := by obtain ⟨o, e, _⟩ := hit; exact Heap.lt_size e
  have ha : ax < s.heap.objs.size := by obtain ⟨o, e, _⟩ := hl; exact Heap.lt_size e
  refine callType_codes (Q₁ := fun obj s₁ => obj = .ref s.heap.objs.size ∧ s₁ = { s with heap := s.heap.push { cls := .type "list", data := .seq #[] } }) F.called_list (F.typeCall_list_1 _) F.entry_list_init
    (code_list_new _ ⟨rfl, rfl⟩) fun obj s₁ h₁ => ?_
  obtain ⟨rfl, rfl⟩ := h₁
  have hS : (s.heap.push { cls := .type "list", data := .seq #[] }).get? s.heap.objs.size = some { cls := .type "list", data := .seq #[] } := Heap.get?_push_size _ rfl
  refine ⟨⟨_, hS, rfl⟩, F.args_list_init_2 _ _, ?_⟩
  show wpAny _ _ (do let old ← Builtin.List.listItems (.ref s.heap.objs.size); Builtin.List.listUpdate (.ref s.heap.objs.size) (fun _ => #[]); letGo old.toList.reverse; Builtin.List.listExtendWith (.ref s.heap.objs.size) (.ref I) .none) _ _ _
  refine wpAny_bind ?_
  unfold Builtin.List.listItems
  refine wpAny_bind (wpAny_seqItems hS rfl (wpAny_pure ?_))
  show wpAny _ _ (updateSeq s.heap.objs.size (fun _ => #[]) >>= fun _ => letGo (#[] : Array Value).toList.reverse >>= fun _ => Builtin.List.listExtendWith (.ref s.heap.objs.size) (.ref I) .none) _ _ _
  refine wpAny_bind (wpAny_updateSeq hS rfl ?_)
  have hS₂ := Heap.get?_update_self (Obj.mapSeq (fun _ => (#[] : Array Value))) hS rfl
  have oth : ∀ b o, b ≠ s.heap.objs.size → s.heap.get? b = some o → ((s.heap.push { cls := .type "list", data := .seq #[] }).update s.heap.objs.size (Obj.mapSeq (fun _ => (#[] : Array Value)))).get? b = some o :=
    fun b o hb e => (Heap.get?_update_other _ _ (Ne.symm hb)).trans (Heap.get?_push_of_some _ e)
  refine wpAny_bind (wpAny_letGo ?_)
  refine list_done_ext (A := A.in1) hh hne _ _ (hit.at fun o e => oth _ o (Nat.ne_of_lt hI) e) (hl.at fun o e => oth _ o (Nat.ne_of_lt ha) e) (Nat.ne_of_gt hI) (Nat.ne_of_gt ha) hS₂ fun h' tk c' hk hS' => ?_
  exact ⟨rfl, hQ h' tk c' (fun b o hb e => hk b o (Nat.ne_of_lt (Heap.lt_size e)) hb (oth b o (Nat.ne_of_lt (Heap.lt_size e)) e)) hS'⟩
end
section
variable {prog : Program} {w : World} {A : Around} {E : Value → Shared → Prop} {s : Shared} {h₀ : Heap} {L : Addr} {m : Str → Option Value} {news : Led}
theorem list_done {I ax : Addr} {vs : List Value} {n : Nat} {io : Obj} {Q : Value → Shared → Prop} (hh : A.handled = none) (F : Fr h₀ L s.heap m) (N : News h₀ L s.heap ((I, io) :: news)) (hc : io.cls = .type "list_iterator") (hd : io.data = .fields #[.ref ax, .int vs.length 0]) (hm : (ax, W.listOf vs.toArray n) ∈ news) (hI : ∀ p ∈ news, p.1 ≠ I)
    (h : ∀ D c h' tk, Fr h₀ L h' m → News h₀ L h' ((D, W.listOf #[] c) :: news) → topA ((I, io) :: news) ≤ D → Q (.ref D) { s with heap := h', toks := tk }) :
    wpAny (model prog w) A (call (.type "list") [.ref I]) Q E s := by
  have hi := N _ (.head _)
  have ha := N _ (.tail _ hm)
  have hfresh : h₀.get? s.heap.objs.size = none := Heap.get?_none_of_le (Nat.le_trans F.above (Nat.le_of_lt F.ns.lt))
  refine call_list_done (items := vs.toArray) hh (hI _ hm) ⟨io, hi.1, hc, by rw [hd]; simp⟩ (News.isList N (.tail _ hm)) fun h' tk c' hk hS => ?_
  refine h s.heap.objs.size c' h' tk ⟨F.ns.at' fun o e => hk _ o (Ne.symm hi.2.1) e, fun b o e => hk b o (fun eb => by rw [eb] at e; rw [hi.2.2] at e; cases e) (F.keep b o e), F.above⟩ (fun p hp => ?_) (topA_of fun p hp => Heap.lt_size (N p hp).1)
  rcases List.mem_cons.mp hp with rfl | hp
  · exact ⟨hS, Nat.ne_of_gt F.ns.lt, hfresh⟩
  · have z := N p (.tail _ hp)
    exact ⟨hk _ _ (hI p hp) z.1, z.2⟩
end
end
section
local macro_rules | `(tactic| k_room) => `(tactic| ktr_room)
local macro_rules | `(tactic| units_room) => `(tactic| ktr_units)
local macro_rules | `(tactic| k_lt $h:ident) => `(tactic| (replace $h := topA_of $h; first | ((try dsimp only [List.cons_append, List.nil_append] at $h:ident); replace $h := zl_ap $h (by walk_at "zl0")) | simp only [topA_nil, topA_cons, topA_app, Nat.max_le, Nat.zero_le, true_and, and_true, List.cons_append, List.nil_append] at $h:ident))
local macro_rules | `(tactic| walk_at "zl") => `(tactic| first | with_reducible exact zl_last | (with_reducible refine' zl_cons ?zf; (case zf => walk_at "zl")) | (with_reducible refine' zl_app ?zf ?zg; (case zf => walk_at "zl"); (case zg => walk_at "zl")) | with_reducible exact zl_end)
local macro_rules | `(tactic| walk_at "zl0") => `(tactic| first | with_reducible exact zl_last | (with_reducible refine' zl_cons ?zf; (case zf => walk_at "zl")) | (with_reducible refine' zl_app ?zf ?zg; (case zf => walk_at "zl"); (case zg => walk_at "zl")))
local macro_rules | `(tactic| walk_at "zr") => `(tactic| first | with_reducible assumption | with_reducible exact zr_nil | (with_reducible refine zr_cons ?_ ?_; (focus omega); (walk_at "zr")) | (with_reducible refine zr_app ?_ ?_; (focus (walk_at "zr")); (walk_at "zr")) | omega)
local macro_rules | `(tactic| k_all) => `(tactic| first | (refine topA_ne ?_; (try dsimp only [List.cons_append, List.nil_append]); walk_at "zr"; done) | (refine topA_ne ?_; (try simp only [topA_app, topA_cons, topA_nil, Nat.max_le, Nat.zero_le, true_and, and_true]); omega))
local macro_rules | `(tactic| walk_at "callWith ref") => `(tactic| (k_here; k_dflt (refine' callWith_K ?k1 ?k2 ?_; (case k1 => k_asm); (case k2 => k_is); k_whole)))
local macro_rules | `(tactic| walk_at "binaryOp LShift int int") => `(tactic| (with_reducible refine lshift_int (by assumption) (by assumption) ?_))
local macro_rules | `(tactic| walk_at "mem one") => `(tactic| first | with_reducible exact List.mem_cons_self | with_reducible assumption | (with_reducible refine List.mem_cons_of_mem _ ?_; walk_at "mem one") | with_reducible exact rfl | (with_reducible refine Or.inl ?_; walk_at "mem one") | (with_reducible refine Or.inr ?_; walk_at "mem one") | (with_reducible refine List.mem_append_left _ ?_; walk_at "mem one") | (with_reducible refine List.mem_append_right _ ?_; walk_at "mem one") | (refine List.Mem.tail _ ?_; walk_at "mem one") | exact List.Mem.head _)
local macro_rules | `(tactic| walk_at "mem all") => `(tactic| first | exact List.forall_mem_nil _ | (refine List.forall_mem_cons.mpr (And.intro ?_ ?_); (focus (walk_at "mem one")); (walk_at "mem all")) | (refine List.forall_mem_append.mpr (And.intro ?_ ?_); (focus (walk_at "mem all")); (walk_at "mem all")) | (intro _ _; walk_at "mem one"))
local macro_rules | `(tactic| walk_at "s1") => `(tactic| ((fail_if_success (with_reducible show wpAny _ _ (call (Value.ref _) _) _ _ _)); (fail_if_success (with_reducible show wpAny _ _ (exec (Stmt.For _ _ _ _ _) _) _ _ _)); (fail_if_success (with_reducible show wpAny _ _ (exec (Stmt.While _ _ _ _) _) _ _ _)); (fail_if_success (with_reducible show wpAny _ _ (pyIter _) _ _ _)); (fail_if_success (with_reducible show wpAny _ _ (call (Value.builtin "list.pop") _) _ _ _)); (fail_if_success (with_reducible show wpAny _ _ (call (Value.type "list") _) _ _ _)); (fail_if_success (with_reducible show wpAny _ _ (call (Value.builtin "list.reverse") _) _ _ _)); (fail_if_success (with_reducible show wpAny _ _ (call (Value.builtin "divmod") _) _ _ _))))
local macro_rules | `(tactic| walk_at "s2") => `(tactic| ((fail_if_success (with_reducible show wpAny _ _ (binaryOp Operator.Add (Value.ref _) (Value.ref _)) _ _ _)); (fail_if_success (with_reducible show wpAny _ _ (compareOp _ (Value.ref _) (Value.ref _)) _ _ _)); (fail_if_success (with_reducible show LCg.CompSrc _ _ _ _ _ _ _ _ _ _ _ _ _ _)); (fail_if_success (with_reducible show LCg.CompEnd _ _ _ _ _ _ _ _ _ _ _ _ _ _))))
local macro_rules | `(tactic| walk_at "t1") => `(tactic| ((fail_if_success (with_reducible show wpAny _ _ (binaryOp Operator.Add (Value.str _ _) (Value.str _ _)) _ _ _))))
local macro_rules | `(tactic| walk_at "t2") => `(tactic| ((fail_if_success (with_reducible show wpAny _ _ (subscriptTail _ _ (Value.ref _) (Value.int _ _)) _ _ _)); (fail_if_success (with_reducible show wpAny _ _ (subscriptTail _ _ (Value.str _ _) (Value.ref _)) _ _ _)); (fail_if_success (with_reducible show wpAny _ _ (call (Value.builtin "list.append") _) _ _ _)); (fail_if_success (with_reducible show wpAny _ _ (truthy (Value.bool (_ == _))) _ _ _)); (fail_if_success (with_reducible show wpAny _ _ (binaryOp Operator.Add (Value.str _ _) (Value.str _ _)) _ _ _)); (fail_if_success (with_reducible show wpAny _ _ (eval (Expr.ListComp _ _ _ _) _) _ _ _)); (fail_if_success (with_reducible show LCp.SrcLP _ _ _ _ _ _ _ _ _ _ _ _ _ _ _))))
local macro_rules | `(tactic| walk_at "t3") => `(tactic| ((with_reducible rename Fr _ _ _ _ => nF9); (with_reducible rename News _ _ _ _ => nN9); (refine newList_K nF9 nN9 (fun D' h' F' N' l1 => ?_) (Nat.le_of_ble_eq_true rfl)); (k_lt l1); (try dsimp only)))
local macro_rules | `(tactic| walk_at "t4") => `(tactic| ((with_reducible rename Fr _ _ _ _ => nF9); (with_reducible rename News _ _ _ _ => nN9); (refine kup_newTuple nF9 nN9 (fun D' h' F' N' l1 => ?_) (Nat.le_of_ble_eq_true rfl)); (k_lt l1); (try dsimp only)))
local macro_rules | `(tactic| walk_at "t5") => `(tactic| ((fail_if_success (with_reducible show wpAny _ _ (subscriptTail _ _ (Value.ref _) (Value.int _ _)) _ _ _)); (fail_if_success (with_reducible show wpAny _ _ (call (Value.builtin "len") _) _ _ _)); (fail_if_success (with_reducible show wpAny _ _ (delItem _ _) _ _ _)); (fail_if_success (with_reducible show wpAny _ _ (PySem.truthy (Value.str _ _)) _ _ _)); (fail_if_success (with_reducible show wpAny _ _ (exec (Stmt.If _ _ _ _) _) _ _ _)); (fail_if_success (with_reducible show wpAny _ _ (call (Value.builtin "str.split") _) _ _ _)); (fail_if_success (with_reducible show wpAny _ _ (call (Value.builtin "str.find") _) _ _ _))))
section
local macro_rules | `(tactic| cell_step) => `(tactic| (walk_at "s1"))
section
theorem div2n1n (w : World) (rest : Led) (a b : Int) (n : Nat) (ta tb tn : Tok) (hb : b ≠ 0) (h1 : Builtin.Int.intBits a ≤ n + 4000) (h2 : Builtin.divisionGoesByPylong a b = false) :
  Tel w 1 9 (.ref 21) [.int a ta, .int b tb, .int n tn] rest (fun v news' => ∃ r tq tr, v = .ref r ∧ topA rest ≤ r ∧ news' = (r, { cls := .type "tuple", data := .seq #[.int (a.fdiv b) tq, .int (a.fmod b) tr] }) :: rest) := by
  intro mean mg mb dp un gd cn cs ad ccd cl outer A₀ base h₀ L m s Q E B F X N T C1 C2 C3 hk hd hu hret
  refine wpAny_call ?_
  k_dflt (first | (refine' code_defC ?k1 ?k2 ?k3 ?k4 ?k5 ?kA ?kF ?kK ?k6 ?k7 ?k8 ?k9 ?kB ?kD ?_ ?c2 ?c3 ?c4; (case kA => exact rfl); (case kF => exact rfl); (case kK => first | exact rfl | assumption); (case k1 => k_asm); (case k2 => k_asm); (case k3 => k_asm); (case k4 => k_asm); (case k5 => k_asm); (case k6 => k_is); (case k7 => k_is); (case k8 => k_room); (case k9 => first | exact BindsTo.of_eq rfl | exact binds_K (by k_in) rfl (by k_is) rfl rfl rfl | fail "k_enter: no rule for these arguments"); (case kB => exact rfl); (case kD => decide +kernel); (case c2 => exact rfl); (case c3 => exact rfl); (case c4 => exact rfl); k_whole; intro z9g z9L z9h z9tk z9cells z9FG z9F z9N z9Y z9B z9X z9T z9l1; (try k_lt z9l1); k_cells z9Y; (try simp only [List.cons_append, List.nil_append] at z9N); (try dsimp only); (try k_lift z9B); (try k_fold)) | cell_enter)
  (repeat' (first | (with_reducible refine if_ff ?_) | (with_reducible refine if_tt ?_) | (k_unfold; (try dsimp only)) | (k_end; wrow_close) | (cell_step; walk1) | (cell_step; dsimp only; walk1) | (leave1; walk_say "STEP leave1"; try dsimp only) | fail "no step"))
  with_reducible rename News _ _ _ _ => dN9
  have dq9 := topA_of fun p hp => Heap.lt_size (dN9 p hp).1
  k_dflt (refine' divmod_N ?dF ?dN ?dB ?_ ?dP; (case dF => k_asm); (case dN => k_asm); (case dB => assumption); (case dP => exact Or.inl (by assumption)))
  intro h' F' N'
  (try dsimp only)
  (repeat' (first | (with_reducible refine if_ff ?_) | (with_reducible refine if_tt ?_) | (k_unfold; (try dsimp only)) | (k_end; wrow_close) | (cell_step; walk1) | (cell_step; dsimp only; walk1) | (leave1; walk_say "STEP leave1"; try dsimp only) | fail "no step"))
  rename Fr h₀ L _ _ => F7
  rename News h₀ L _ _ => N7
  rename topA _ ≤ _ => q7
  exact hret _ _ _ _ F7 N7 ⟨_, _, _, rfl, q7, rfl⟩
end
section
theorem inner1 (w : World) (n : Nat) (hn : 0 < n) (hn2 : n < 2^20) (f c' D cI cA cN : Addr) (oc oI oA oN : Obj) (doc pm ctv : Value) (cvs : Array Value) (ct tn : Tok) (rest : Led)
   (hoc : oc.data = .fields cvs) (hcv : cvs[1]? = some (.str (Str.ofString "_int2digits" ++ ".<locals>." ++ Str.ofString "inner") ct))
   (hI : oI.data = .cell (some (.ref f))) (hA : oA.data = .cell (some (.ref D))) (hN : oN.data = .cell (some (.int n tn)))
   (a1 : @Ne Nat c' D) (a2 : @Ne Nat f D) (a3 : @LT.lt Nat _ cI D) (a4 : @LT.lt Nat _ cA D) (a5 : @LT.lt Nat _ cN D) (a6 : topA rest ≤ D) :
   ∀ (k : Nat) (x : Int) (tx tl th : Tok) (lo hi : Nat) (pre mid post : List Int) (vs : List Value), 0 < k → mid.length = k → pre.length = lo → hi = lo + k → 0 ≤ x → x < 2 ^ (n * k) → lo + k < 2^20 → n * k < 2^20 → IntsAre vs (pre ++ mid ++ post) →
   Tel w k (8 * k) (.ref f) [.int x tx, .int lo tl, .int hi th]
     ((f, fnMade (Str.ofString "inner") (Str.ofString "_int2digits" ++ ".<locals>." ++ Str.ofString "inner") (fArgs (fnIn 4 1)) (fBody (fnIn 4 1)) (fScope (fnIn 4 1)) [(Str.ofString "n", cN), (Str.ofString "inner", cI), (Str.ofString "a_digits", cA)] doc pm c' ctv) :: (c', oc) :: (D, W.listOf vs.toArray 0) :: (cI, oI) :: (cA, oA) :: (cN, oN) :: rest)
     (fun v news' => v = .none ∧ ∃ vs', IntsAre vs' (pre ++ digs n k x ++ post) ∧ news' = ((f, fnMade (Str.ofString "inner") (Str.ofString "_int2digits" ++ ".<locals>." ++ Str.ofString "inner") (fArgs (fnIn 4 1)) (fBody (fnIn 4 1)) (fScope (fnIn 4 1)) [(Str.ofString "n", cN), (Str.ofString "inner", cI), (Str.ofString "a_digits", cA)] doc pm c' ctv) :: (c', oc) :: (D, W.listOf vs'.toArray 0) :: (cI, oI) :: (cA, oA) :: (cN, oN) :: rest)) := by
  intro k
  induction k using Nat.strongRecOn with
  | ind k IH =>
  intro x tx tl th lo hi pre mid post vs hk0 hml hpl hhi hx0 hx1 hb1 hb2 hv
  intro mean mg mb dp un gd cn cs ad ccd cl outer A₀ base h₀ L m s Q E B F X N T C1 C2 C3 hk hd hu hret
  have hmid := mid_is lo hi k hhi
  have hS := shift_is lo (k / 2) n
  have hnk : n * (k / 2) ≤ n * k := Nat.mul_le_mul_left n (Nat.div_le_self k 2)
  have hS2 : ((((lo : Int) + (hi : Int)).fdiv (2 ^ Int.toNat 1) - (lo : Int)) * (n : Int)) = ((n * (k / 2) : Nat) : Int) := by rw [hmid, hS]
  have f1 : 0 ≤ (((lo : Int) + (hi : Int)).fdiv (2 ^ Int.toNat 1) - (lo : Int)) * (n : Int) := by rw [hS2]; exact Int.natCast_nonneg _
  have f2 : (Builtin.Int.intBits (x.fdiv (2 ^ ((((lo : Int) + (hi : Int)).fdiv (2 ^ Int.toNat 1) - (lo : Int)) * (n : Int)).toNat)) : Int) + (((lo : Int) + (hi : Int)).fdiv (2 ^ Int.toNat 1) - (lo : Int)) * (n : Int) ≤ 2 ^ 27 := by
    have b1 : Builtin.Int.intBits x ≤ n * k := intBits_le_iff.mpr (by
      have : ((x.natAbs : Nat) : Int) < ((2 ^ (n * k) : Nat) : Int) := by rw [Int.natAbs_of_nonneg hx0]; push_cast; exact hx1
      exact_mod_cast this)
    have b2 := intBits_fdiv_le (y := (2 ^ ((((lo : Int) + (hi : Int)).fdiv (2 ^ Int.toNat 1) - (lo : Int)) * (n : Int)).toNat)) b1
    rw [hS2] at b2 ⊢
    omega
  refine wpAny_call ?_
  k_dflt (first | (refine' code_nest ?k1 ?k2 ?k3 ?k4 ?k5 ?kA ?kF ?kK ?k6 ?k7 ?k8 ?k9 ?kB ?_ ?c2 ?c3 ?c4 ?c5; (case kA => exact rfl); (case kF => exact rfl); (case kK => first | exact rfl | assumption); (case k1 => k_asm); (case k2 => k_asm); (case k3 => k_asm); (case k4 => k_asm); (case k5 => k_asm); (case k6 => k_mem); (case k7 => exact codeRec_news (by k_asm) (by k_mem) (by assumption) (by assumption)); (case k8 => k_room); (case k9 => exact BindsTo.of_eq rfl); (case c5 => decide); (case kB => exact locs rfl); (case c2 => exact rfl); (case c3 => exact rfl); (case c4 => exact rfl); k_whole; intro z9g z9L z9h z9FG z9F z9N z9B z9X z9T; (try dsimp only); (try k_lift z9B); (try k_fold)) | kn_enter)
  (repeat' (first | (with_reducible refine if_ff ?_) | (with_reducible refine if_tt ?_) | (k_unfold; (try dsimp only)) | (k_end; wrow_close) | (cell_step; walk1) | (cell_step; dsimp only; walk1) | (leave1; walk_say "STEP leave1"; try dsimp only) | fail "no step"))
  · rename ((_ : Int) + 1 = _) => he
    rename Fr h₀ L _ _ => F9
    rename News h₀ L _ _ => N9
    have hk1 : k = 1 := by omega
    subst hk1
    refine hret _ _ _ _ F9 N9 ⟨rfl, _, ?_, rfl⟩
    have h3 := ints_set (x := x) (u := tx) hv lo
    obtain ⟨m0, rfl⟩ : ∃ m0, mid = [m0] := by
      match mid, hml with
      | [m0], _ => exact ⟨m0, rfl⟩
    have e : (pre ++ [m0] ++ post).set lo x = pre ++ digs n 1 x ++ post := by
      rw [digs, digs, Int.emod_eq_of_lt hx0 (by simpa using hx1)]
      subst hpl
      simp
    rw [e] at h3
    simpa using h3
  · rename (¬ ((_ : Int) + 1 = _)) => hne
    have hk2 : 2 ≤ k := by omega
    have eX : Builtin.bitXor x (x.fdiv (2 ^ ((((lo : Int) + (hi : Int)).fdiv (2 ^ Int.toNat 1) - (lo : Int)) * (n : Int)).toNat) * 2 ^ ((((lo : Int) + (hi : Int)).fdiv (2 ^ Int.toNat 1) - (lo : Int)) * (n : Int)).toNat) = x % 2 ^ (n * (k / 2)) := by
      rw [hS2, Int.toNat_natCast]; exact xor_low x _ hx0
    have eU : x.fdiv (2 ^ ((((lo : Int) + (hi : Int)).fdiv (2 ^ Int.toNat 1) - (lo : Int)) * (n : Int)).toNat) = x / 2 ^ (n * (k / 2)) := by
      rw [hS2, Int.toNat_natCast, Int.fdiv_eq_ediv_of_nonneg _ (Int.le_of_lt (Int.pow_pos (by decide)))]
    rw [eX, hmid]
    have hp2 : (0 : Int) < 2 ^ (n * (k / 2)) := Int.pow_pos (by decide)
    have l1 : (mid.take (k / 2)).length = k / 2 := by rw [List.length_take]; omega
    have l2 : (mid.drop (k / 2)).length = k - k / 2 := by rw [List.length_drop]; omega
    have hv1 : IntsAre vs (pre ++ mid.take (k / 2) ++ (mid.drop (k / 2) ++ post)) := by
      have : pre ++ mid.take (k / 2) ++ (mid.drop (k / 2) ++ post) = pre ++ mid ++ post := by
        rw [List.append_assoc, ← List.append_assoc (mid.take _), List.take_append_drop, ← List.append_assoc]
      rw [this]; exact hv
    (refine' tel_use ?tH ?tB ?tF ?tX ?tN ?tT ?tC1 ?tC2 ?tC3 ?tk ?td ?tu ?_; (case tB => k_asm); (case tF => k_asm); (case tX => k_asm); (case tN => k_asm); (case tT => k_asm); (case tC1 => assumption); (case tC2 => assumption); (case tC3 => assumption); (case tk => first | exact rfl | assumption); (case tH => exact (IH (k / 2) (by omega) (x % 2 ^ (n * (k / 2))) _ _ _ lo (lo + k / 2) pre (mid.take (k / 2)) (mid.drop (k / 2) ++ post) vs (by omega) l1 hpl rfl (Int.emod_nonneg _ (Int.ne_of_gt hp2)) (Int.emod_lt_of_pos _ hp2) (by omega) (by omega) hv1)); (case td => ktr_room); (case tu => ktr_units))
    rintro v9 h9 tk9 news9 F9 N9 ⟨rfl, vs9, hi9, rfl⟩
    (try dsimp only)
    (repeat' (first | (with_reducible refine if_ff ?_) | (with_reducible refine if_tt ?_) | (k_unfold; (try dsimp only)) | (k_end; wrow_close) | (cell_step; walk1) | (cell_step; dsimp only; walk1) | (leave1; walk_say "STEP leave1"; try dsimp only) | fail "no step"))
    rw [eU, hmid]
    have hv2 : IntsAre vs9 ((pre ++ digs n (k / 2) (x % 2 ^ (n * (k / 2)))) ++ mid.drop (k / 2) ++ post) := by
      have : (pre ++ digs n (k / 2) (x % 2 ^ (n * (k / 2)))) ++ mid.drop (k / 2) ++ post = pre ++ digs n (k / 2) (x % 2 ^ (n * (k / 2))) ++ (mid.drop (k / 2) ++ post) := by
        rw [List.append_assoc]
      rw [this]; exact hi9
    have hsplit : k / 2 + (k - k / 2) = k := by omega
    have hx2 : x / 2 ^ (n * (k / 2)) < 2 ^ (n * (k - k / 2)) := by
      apply Int.ediv_lt_of_lt_mul hp2
      rw [← Int.pow_add, ← Nat.mul_add, Nat.add_comm, hsplit]
      exact hx1
    (refine' tel_use ?tH ?tB ?tF ?tX ?tN ?tT ?tC1 ?tC2 ?tC3 ?tk ?td ?tu ?_; (case tB => k_asm); (case tF => k_asm); (case tX => k_asm); (case tN => k_asm); (case tT => k_asm); (case tC1 => assumption); (case tC2 => assumption); (case tC3 => assumption); (case tk => first | exact rfl | assumption); (case tH => exact (IH (k - k / 2) (by omega) (x / 2 ^ (n * (k / 2))) _ _ _ (lo + k / 2) hi (pre ++ digs n (k / 2) (x % 2 ^ (n * (k / 2)))) (mid.drop (k / 2)) post vs9 (by omega) l2 (by rw [List.length_append, digs_length, hpl]) (by omega) (Int.ediv_nonneg hx0 (Int.le_of_lt hp2)) hx2 (by omega) (by have := Nat.mul_le_mul_left n (Nat.sub_le k (k / 2)); omega) hv2)); (case td => ktr_room); (case tu => ktr_units))
    rintro v8 h8 tk8 news8 F8 N8 ⟨rfl, vs8, hi8, rfl⟩
    (try dsimp only)
    (repeat' (first | (with_reducible refine if_ff ?_) | (with_reducible refine if_tt ?_) | (k_unfold; (try dsimp only)) | (k_end; wrow_close) | (cell_step; walk1) | (cell_step; dsimp only; walk1) | (leave1; walk_say "STEP leave1"; try dsimp only) | fail "no step"))
    rename Fr h₀ L _ _ => F7
    rename News h₀ L _ _ => N7
    refine hret _ _ _ _ F7 N7 ⟨rfl, vs8, ?_, rfl⟩
    have e := digs_split n (k / 2) (k - k / 2) x hx0
    rw [hsplit] at e
    rw [e]
    simpa only [List.append_assoc] using hi8
end
section
inductive I2dPost (tb : Led) (rest : Led) (a : Int) (n : Nat) (v : Value) (news' : Led) : Prop
  | mk (D : Addr) (vs : List Value) (tb' : Led) (zh1 : v = .ref D) (zh2 : news' = (D, W.listOf vs.toArray 0) :: (tb' ++ rest)) (zh3 : topA (tb ++ rest) ≤ D) (zh4 : TabL 30 32 4 qual1 tb') (zh5 : Newer tb tb' (topA (tb ++ rest))) (zh6 : IntsAre vs (digs n (nDig n a) a))
namespace Vint2digits
noncomputable def At0 (w : World) (rest : Led) (n : Nat) (ta : Tok) (tn : Tok) (z : TelV) : Prop := ∀ (tb : Led) (a : Int) (hn : 0 < n) (ha : 0 ≤ a) (h2 : Builtin.Int.intBits a < 2^19) (hn2 : n < 2^19) (off : OwnOff rest [30]) (ht : TabL 30 32 4 qual1 tb), TelAt w (nDig n a + 2) (8 * nDig n a + 20) (.ref 35) [.int a ta, .int n tn] (tb ++ rest) (I2dPost tb rest a n) z
noncomputable def w : World := eps1 ne_world (fun w => ∀ rest n ta tn z, At0 w rest n ta tn z)
noncomputable def rest : Led := eps1 ne_led (fun rest => ∀ n ta tn z, At0 w rest n ta tn z)
noncomputable def n : Nat := eps1 ne_nat (fun n => ∀ ta tn z, At0 w rest n ta tn z)
noncomputable def ta : Tok := eps1 ne_tok (fun ta => ∀ tn z, At0 w rest n ta tn z)
noncomputable def tn : Tok := eps1 ne_tok (fun tn => ∀ z, At0 w rest n ta tn z)
noncomputable def v0 : TelV := eps1 telV_ne (fun z => At0 w rest n ta tn z)
noncomputable abbrev h₀ := v0.h₀
noncomputable abbrev L := v0.L
theorem aux (tb : Led) (a : Int) (hn : 0 < n) (ha : 0 ≤ a) (h2 : Builtin.Int.intBits a < 2^19) (hn2 : n < 2^19) (off : OwnOff rest [30]) (ht : TabL 30 32 4 qual1 tb) :
  TelAt w (nDig n a + 2) (8 * nDig n a + 20) (.ref 35) [.int a ta, .int n tn] (tb ++ rest) (I2dPost tb rest a n) v0 := by
  intro B F X N T C1 C2 C3 hk hd hu hret
  have hKe : ((Builtin.Int.intBits a : Int) + (n : Int) - 1).fdiv (n : Int) = (nDig n a : Nat) := by
    rw [Int.fdiv_eq_ediv_of_nonneg _ (by omega), nDig]
    push_cast
    congr 1
    omega
  have hK1 : nDig n a < 2 ^ 20 := by
    have := Nat.div_le_self (Builtin.Int.intBits a + n - 1) n
    unfold nDig
    omega
  have hK0 : 0 ≤ ((Builtin.Int.intBits a : Int) + n - 1).fdiv n := by rw [hKe]; omega
  have hK2 : ((Builtin.Int.intBits a : Int) + n - 1).fdiv n < 2^20 := by rw [hKe]; omega
  rcases ht with rfl | ⟨c', oc, cvs, ct, rfl, hoc, hcv, hne⟩
  · have hsub : topA (([(30, tabObj #[])] : Led) ++ rest) = max 31 (topA rest) := rfl
    have htop : Newer [(30, tabObj #[])] [(30, tabObj #[])] (topA (([(30, tabObj #[])] : Led) ++ rest)) := Newer.rfl _ _
    simp only [List.cons_append, List.nil_append] at N
    refine wpAny_call ?_
    k_dflt (first | (refine' code_defC ?k1 ?k2 ?k3 ?k4 ?k5 ?kA ?kF ?kK ?k6 ?k7 ?k8 ?k9 ?kB ?kD ?_ ?c2 ?c3 ?c4; (case kA => exact rfl); (case kF => exact rfl); (case kK => first | exact rfl | assumption); (case k1 => k_asm); (case k2 => k_asm); (case k3 => k_asm); (case k4 => k_asm); (case k5 => k_asm); (case k6 => k_is); (case k7 => k_is); (case k8 => k_room); (case k9 => first | exact BindsTo.of_eq rfl | exact binds_K (by k_in) rfl (by k_is) rfl rfl rfl | fail "k_enter: no rule for these arguments"); (case kB => exact rfl); (case kD => decide +kernel); (case c2 => exact rfl); (case c3 => exact rfl); (case c4 => exact rfl); k_whole; intro z9g z9L z9h z9tk z9cells z9FG z9F z9N z9Y z9B z9X z9T z9l1; (try k_lt z9l1); k_cells z9Y; (try simp only [List.cons_append, List.nil_append] at z9N); (try dsimp only); (try k_lift z9B); (try k_fold)) | cell_enter)
    (repeat' (first | (with_reducible refine if_ff ?_) | (with_reducible refine if_tt ?_) | (k_unfold; (try dsimp only)) | (k_end; wrow_close) | (cell_step; walk1) | (cell_step; dsimp only; walk1) | (leave1; walk_say "STEP leave1"; try dsimp only) | fail "no step"))
    · rename_i oI0 oA0 oN dd1 dd2 hoN l0 h4 q2 D1 h3 i1 n1 s1 e1 e2 e3 q1 h2' oA hoA f1 c1 oc1 vs1 t1 ct1 dc1 h1 tk1 hd1 hd2 q3 q4 h0' oI F1 N1 hoI hane
      have en : n1 = nDig n a := by
        have := e3 hK0
        rw [hKe] at this
        omega
      subst en
      have N2 := news_drop4 N1
      have i2 : IntsAre _ ([] ++ _ ++ []) := (congrArg (IntsAre _) (by rw [List.nil_append, List.append_nil])).mp i1
      (refine' tel_use ?tH ?tB ?tF ?tX ?tN ?tT ?tC1 ?tC2 ?tC3 ?tk ?td ?tu ?_; (case tB => k_asm); (case tF => k_asm); (case tX => k_asm); (case tN => k_asm); (case tT => k_asm); (case tC1 => assumption); (case tC2 => assumption); (case tC3 => assumption); (case tk => first | exact rfl | assumption); (case tH => exact (inner1 w n hn (by omega) f1 c1 D1 _ _ _ oc1 oI oA oN dc1 _ ct1 vs1 t1 tn _ hd1 hd2 hoI hoA hoN (by omega) (by omega) (by omega) (by omega) (by omega) (by simp only [topA_cons]; omega) (nDig n a) a _ _ _ 0 (nDig n a) [] _ [] _ (nDig_pos hane n hn) e1 rfl (by omega) ha (bits_pow ha n hn) (by omega) (by have := nDig_mul a n; omega) i2)); (case td => ktr_room); (case tu => ktr_units))
      rintro v9 h9 tk9 news9 F9 N9 ⟨rfl, vs9, hi9, rfl⟩
      (try dsimp only)
      (repeat' (first | (with_reducible refine if_ff ?_) | (with_reducible refine if_tt ?_) | (k_unfold; (try dsimp only)) | (k_end; wrow_close) | (cell_step; walk1) | (cell_step; dsimp only; walk1) | (leave1; walk_say "STEP leave1"; try dsimp only) | fail "no step"))
      rename Fr h₀ L _ _ => F7
      rename News h₀ L _ _ => N7
      refine hret _ _ _ ((D1, W.listOf vs9.toArray 0) :: (c1, oc1) :: (30, tabObj #[rawInt 32, rawInt 4, .ref c1]) :: rest) F7 (cb_drop N7 (by kcj_all)) ⟨D1, vs9, [(c1, oc1), (30, tabObj #[rawInt 32, rawInt 4, .ref c1])], rfl, rfl, ?_, .inr ⟨c1, oc1, vs1, t1, rfl, hd1, hd2, ?_⟩, ?_, ?_⟩
      · rw [hsub]; omega
      · show @LT.lt Nat _ 30 c1; omega
      · intro p hp
        rcases List.mem_cons.mp hp with rfl | hp
        · right; rw [hsub]; show @LE.le Nat _ _ c1; omega
        · left; rw [List.mem_singleton.mp hp]; simp
      · simpa only [List.nil_append, List.append_nil] using hi9
    · rename_i oI0 oA0 oN dd1 dd2 hoN l0 h4 q2 D1 h3 i1 n1 s1 e1 e2 e3 q1 h2' oA hoA f1 c1 oc1 vs1 t1 ct1 dc1 h1 tk1 hd1 hd2 q3 q4 h0' oI F1 N1 hoI hane kF kN kT kX
      rename Fr h₀ L _ _ => F7
      rename News h₀ L _ _ => N7
      subst hane
      have ev : IntsAre _ (digs n (nDig n 0) 0) := (congrArg (IntsAre _) (by rw [nDig_zero] at hKe ⊢; rw [hKe]; rfl)).mp i1
      refine hret _ _ _ ((D1, W.listOf _ 0) :: (c1, oc1) :: (30, tabObj #[rawInt 32, rawInt 4, .ref c1]) :: rest) F7 (cb_drop N7 (by kcj_all)) ⟨D1, _, [(c1, oc1), (30, tabObj #[rawInt 32, rawInt 4, .ref c1])], rfl, rfl, ?_, .inr ⟨c1, oc1, vs1, t1, rfl, hd1, hd2, ?_⟩, ?_, ev⟩
      · rw [hsub]; omega
      · show @LT.lt Nat _ 30 c1; omega
      · intro p hp
        rcases List.mem_cons.mp hp with rfl | hp
        · right; rw [hsub]; show @LE.le Nat _ _ c1; omega
        · left; rw [List.mem_singleton.mp hp]; simp
  · have hsub : topA (([(c', oc), (30, tabObj #[rawInt 32, rawInt 4, .ref c'])] : Led) ++ rest) = max (c' + 1) (max 31 (topA rest)) := rfl
    have hne' : @LT.lt Nat _ 30 c' := hne
    simp only [List.cons_append, List.nil_append] at N
    refine wpAny_call ?_
    k_dflt (first | (refine' code_defC ?k1 ?k2 ?k3 ?k4 ?k5 ?kA ?kF ?kK ?k6 ?k7 ?k8 ?k9 ?kB ?kD ?_ ?c2 ?c3 ?c4; (case kA => exact rfl); (case kF => exact rfl); (case kK => first | exact rfl | assumption); (case k1 => k_asm); (case k2 => k_asm); (case k3 => k_asm); (case k4 => k_asm); (case k5 => k_asm); (case k6 => k_is); (case k7 => k_is); (case k8 => k_room); (case k9 => first | exact BindsTo.of_eq rfl | exact binds_K (by k_in) rfl (by k_is) rfl rfl rfl | fail "k_enter: no rule for these arguments"); (case kB => exact rfl); (case kD => decide +kernel); (case c2 => exact rfl); (case c3 => exact rfl); (case c4 => exact rfl); k_whole; intro z9g z9L z9h z9tk z9cells z9FG z9F z9N z9Y z9B z9X z9T z9l1; (try k_lt z9l1); k_cells z9Y; (try simp only [List.cons_append, List.nil_append] at z9N); (try dsimp only); (try k_lift z9B); (try k_fold)) | cell_enter)
    (repeat' (first | (with_reducible refine if_ff ?_) | (with_reducible refine if_tt ?_) | (k_unfold; (try dsimp only)) | (k_end; wrow_close) | (cell_step; walk1) | (cell_step; dsimp only; walk1) | (leave1; walk_say "STEP leave1"; try dsimp only) | fail "no step"))
    · rename_i oI0 oA0 oN dd1 dd2 hoN l0 h4 q2 D1 h3 i1 n1 s1 e1 e2 e3 q1 h2' oA hoA f1 ct1 dc1 h1 tk1 q4 h0' oI F1 N1 hoI hane
      have en : n1 = nDig n a := by
        have := e3 hK0
        rw [hKe] at this
        omega
      subst en
      have N2 := news_warm N1
      have i2 : IntsAre _ ([] ++ _ ++ []) := (congrArg (IntsAre _) (by rw [List.nil_append, List.append_nil])).mp i1
      (refine' tel_use ?tH ?tB ?tF ?tX ?tN ?tT ?tC1 ?tC2 ?tC3 ?tk ?td ?tu ?_; (case tB => k_asm); (case tF => k_asm); (case tX => k_asm); (case tN => k_asm); (case tT => k_asm); (case tC1 => assumption); (case tC2 => assumption); (case tC3 => assumption); (case tk => first | exact rfl | assumption); (case tH => exact (inner1 w n hn (by omega) f1 c' D1 _ _ _ oc oI oA oN dc1 _ ct1 cvs ct tn _ hoc hcv hoI hoA hoN (by omega) (by omega) (by omega) (by omega) (by omega) (by simp only [topA_cons]; omega) (nDig n a) a _ _ _ 0 (nDig n a) [] _ [] _ (nDig_pos hane n hn) e1 rfl (by omega) ha (bits_pow ha n hn) (by omega) (by have := nDig_mul a n; omega) i2)); (case td => ktr_room); (case tu => ktr_units))
      rintro v9 h9 tk9 news9 F9 N9 ⟨rfl, vs9, hi9, rfl⟩
      (try dsimp only)
      (repeat' (first | (with_reducible refine if_ff ?_) | (with_reducible refine if_tt ?_) | (k_unfold; (try dsimp only)) | (k_end; wrow_close) | (cell_step; walk1) | (cell_step; dsimp only; walk1) | (leave1; walk_say "STEP leave1"; try dsimp only) | fail "no step"))
      rename Fr h₀ L _ _ => F7
      rename News h₀ L _ _ => N7
      refine hret _ _ _ ((D1, W.listOf vs9.toArray 0) :: (c', oc) :: (30, tabObj #[rawInt 32, rawInt 4, .ref c']) :: rest) F7 (cb_drop N7 (by kcj_all)) ⟨D1, vs9, [(c', oc), (30, tabObj #[rawInt 32, rawInt 4, .ref c'])], rfl, rfl, ?_, .inr ⟨c', oc, cvs, ct, rfl, hoc, hcv, ?_⟩, ?_, ?_⟩
      · rw [hsub]; omega
      · exact hne
      · exact Newer.rfl _ _
      · simpa only [List.nil_append, List.append_nil] using hi9
    · rename_i oI0 oA0 oN dd1 dd2 hoN l0 h4 q2 D1 h3 i1 n1 s1 e1 e2 e3 q1 h2' oA hoA f1 ct1 dc1 h1 tk1 q4 h0' oI F1 N1 hoI hane kF kN kT kX
      rename Fr h₀ L _ _ => F7
      rename News h₀ L _ _ => N7
      subst hane
      have ev : IntsAre _ (digs n (nDig n 0) 0) := (congrArg (IntsAre _) (by rw [nDig_zero] at hKe ⊢; rw [hKe]; rfl)).mp i1
      refine hret _ _ _ ((D1, W.listOf _ 0) :: (c', oc) :: (30, tabObj #[rawInt 32, rawInt 4, .ref c']) :: rest) F7 (cb_drop N7 (by kcj_all)) ⟨D1, _, [(c', oc), (30, tabObj #[rawInt 32, rawInt 4, .ref c'])], rfl, rfl, ?_, .inr ⟨c', oc, cvs, ct, rfl, hoc, hcv, ?_⟩, ?_, ev⟩
      · rw [hsub]; omega
      · exact hne
      · exact Newer.rfl _ _
end Vint2digits
theorem int2digits (w : World) (tb rest : Led) (a : Int) (n : Nat) (ta tn : Tok) (hn : 0 < n) (ha : 0 ≤ a) (h2 : Builtin.Int.intBits a < 2^19) (hn2 : n < 2^19) (off : OwnOff rest [30]) (ht : TabL 30 32 4 qual1 tb) :
  Tel w (nDig n a + 2) (8 * nDig n a + 20) (.ref 35) [.int a ta, .int n tn] (tb ++ rest) (I2dPost tb rest a n) := tel_of fun z => (show ∀ w rest n ta tn z, Vint2digits.At0 w rest n ta tn z from (eps1_all (eps1_all (eps1_all (eps1_all (eps1_all (eps1_all @Vint2digits.aux))))))) w rest n ta tn z tb a hn ha h2 hn2 off ht
end
section
theorem inner2 (w : World) (n : Nat) (hn : 0 < n) (hn2 : n < 2^20) (f c' D cI cD cN : Addr) (oc oI oD oN : Obj) (doc pm ctv : Value) (cvs : Array Value) (ct tn : Tok) (rest : Led) (vs : List Value) (ep : Nat)
   (hoc : oc.data = .fields cvs) (hcv : cvs[1]? = some (.str qual2 ct))
   (hI : oI.data = .cell (some (.ref f))) (hD : oD.data = .cell (some (.ref D))) (hN : oN.data = .cell (some (.int n tn))) :
   ∀ (k : Nat) (tl th : Tok) (lo hi : Nat) (pre mid post : List Int), 0 < k → mid.length = k → pre.length = lo → hi = lo + k → lo + k < 2^20 → k * n < 2^20 → IntsAre vs (pre ++ mid ++ post) → (∀ x ∈ mid, 0 ≤ x ∧ x < 2 ^ n) →
   Tel w k (8 * k) (.ref f) [.int lo tl, .int hi th]
     ((f, fnMade (Str.ofString "inner") qual2 (fArgs (fnIn 5 0)) (fBody (fnIn 5 0)) (fScope (fnIn 5 0)) [(Str.ofString "n", cN), (Str.ofString "inner", cI), (Str.ofString "digits", cD)] doc pm c' ctv) :: (c', oc) :: (D, W.listOf vs.toArray ep) :: (cI, oI) :: (cN, oN) :: (cD, oD) :: rest)
     (fun v news' => ∃ t, v = .int (undig n mid) t ∧ news' = ((f, fnMade (Str.ofString "inner") qual2 (fArgs (fnIn 5 0)) (fBody (fnIn 5 0)) (fScope (fnIn 5 0)) [(Str.ofString "n", cN), (Str.ofString "inner", cI), (Str.ofString "digits", cD)] doc pm c' ctv) :: (c', oc) :: (D, W.listOf vs.toArray ep) :: (cI, oI) :: (cN, oN) :: (cD, oD) :: rest)) := by
  intro k
  induction k using Nat.strongRecOn with
  | ind k IH =>
  intro tl th lo hi pre mid post hk0 hml hpl hhi hb1 hb2 hv hmb
  intro mean mg mb dp un gd cn cs ad ccd cl outer A₀ base h₀ L m s Q E B F X N T C1 C2 C3 hk hd hu hret
  have hlen : (pre ++ mid ++ post).length = lo + k + post.length := by rw [List.length_append, List.length_append, hml, hpl]
  have hmid := mid_is lo hi k hhi
  have hS := shift_is lo (k / 2) n
  have hS2 : ((((lo : Int) + (hi : Int)).fdiv (2 ^ Int.toNat 1) - (lo : Int)) * (n : Int)) = ((n * (k / 2) : Nat) : Int) := by rw [hmid, hS]
  have f1 : 0 ≤ (((lo : Int) + (hi : Int)).fdiv (2 ^ Int.toNat 1) - (lo : Int)) * (n : Int) := by rw [hS2]; exact Int.natCast_nonneg _
  have l1 : (mid.take (k / 2)).length = k / 2 := by rw [List.length_take]; omega
  have l2 : (mid.drop (k / 2)).length = k - k / 2 := by rw [List.length_drop]; omega
  have m1 : ∀ x ∈ mid.take (k / 2), 0 ≤ x ∧ x < 2 ^ n := fun x hx => hmb x (List.mem_of_mem_take hx)
  have m2 : ∀ x ∈ mid.drop (k / 2), 0 ≤ x ∧ x < 2 ^ n := fun x hx => hmb x (List.mem_of_mem_drop hx)
  have f2 : (Builtin.Int.intBits (undig n (mid.drop (k / 2))) : Int) + (((lo : Int) + (hi : Int)).fdiv (2 ^ Int.toNat 1) - (lo : Int)) * (n : Int) ≤ 2 ^ 27 := by
    have b1 := bits_of_lt (undig_nonneg n _ fun x hx => (m2 x hx).1) (undig_lt n _ fun x hx => (m2 x hx).2)
    rw [l2] at b1
    rw [hS2]
    have b2 : (k - k / 2) * n ≤ k * n := Nat.mul_le_mul_right n (Nat.sub_le _ _)
    have b3 : n * (k / 2) ≤ k * n := by rw [Nat.mul_comm]; exact Nat.mul_le_mul_right n (Nat.div_le_self k 2)
    omega
  refine wpAny_call ?_
  k_dflt (first | (refine' code_nest ?k1 ?k2 ?k3 ?k4 ?k5 ?kA ?kF ?kK ?k6 ?k7 ?k8 ?k9 ?kB ?_ ?c2 ?c3 ?c4 ?c5; (case kA => exact rfl); (case kF => exact rfl); (case kK => first | exact rfl | assumption); (case k1 => k_asm); (case k2 => k_asm); (case k3 => k_asm); (case k4 => k_asm); (case k5 => k_asm); (case k6 => k_mem); (case k7 => exact codeRec_news (by k_asm) (by k_mem) (by assumption) (by assumption)); (case k8 => k_room); (case k9 => exact BindsTo.of_eq rfl); (case c5 => decide); (case kB => exact locs rfl); (case c2 => exact rfl); (case c3 => exact rfl); (case c4 => exact rfl); k_whole; intro z9g z9L z9h z9FG z9F z9N z9B z9X z9T; (try dsimp only); (try k_lift z9B); (try k_fold)) | kn_enter)
  (repeat' (first | (with_reducible refine if_ff ?_) | (with_reducible refine if_tt ?_) | (k_unfold; (try dsimp only)) | (k_end; wrow_close) | (cell_step; walk1) | (cell_step; dsimp only; walk1) | (leave1; walk_say "STEP leave1"; try dsimp only) | fail "no step"))
  · rename ((_ : Int) + 1 = _) => he
    rename Fr h₀ L _ _ => F9
    rename News h₀ L _ _ => N9
    have hk1 : k = 1 := by omega
    subst hk1
    obtain ⟨m0, rfl⟩ : ∃ m0, mid = [m0] := by
      match mid, hml with
      | [m0], _ => exact ⟨m0, rfl⟩
    refine hret _ _ _ _ F9 N9 ⟨_, congrArg (fun z => Value.int z _) ?_, rfl⟩
    subst hpl
    simp [undig]
  · rename (¬ ((_ : Int) + 1 = _)) => hne
    have hk2 : 2 ≤ k := by omega
    rw [hmid]
    have hsplit : k / 2 + (k - k / 2) = k := by omega
    have hv2 : IntsAre vs ((pre ++ mid.take (k / 2)) ++ mid.drop (k / 2) ++ post) := by
      have : (pre ++ mid.take (k / 2)) ++ mid.drop (k / 2) ++ post = pre ++ mid ++ post := by
        rw [List.append_assoc pre, List.take_append_drop]
      rw [this]; exact hv
    have hv1 : IntsAre vs (pre ++ mid.take (k / 2) ++ (mid.drop (k / 2) ++ post)) := by
      rw [← List.append_assoc]; exact hv2
    (refine' tel_use ?tH ?tB ?tF ?tX ?tN ?tT ?tC1 ?tC2 ?tC3 ?tk ?td ?tu ?_; (case tB => k_asm); (case tF => k_asm); (case tX => k_asm); (case tN => k_asm); (case tT => k_asm); (case tC1 => assumption); (case tC2 => assumption); (case tC3 => assumption); (case tk => first | exact rfl | assumption); (case tH => exact (IH (k - k / 2) (by omega) _ _ (lo + k / 2) hi (pre ++ mid.take (k / 2)) (mid.drop (k / 2)) post (by omega) l2 (by rw [List.length_append, l1, hpl]) (by omega) (by omega) (by have := Nat.mul_le_mul_right n (Nat.sub_le k (k / 2)); omega) hv2 m2)); (case td => ktr_room); (case tu => ktr_units))
    rintro v9 h9 tk9 news9 F9 N9 ⟨t9, rfl, rfl⟩
    (try dsimp only)
    (repeat' (first | (with_reducible refine if_ff ?_) | (with_reducible refine if_tt ?_) | (k_unfold; (try dsimp only)) | (k_end; wrow_close) | (cell_step; walk1) | (cell_step; dsimp only; walk1) | (leave1; walk_say "STEP leave1"; try dsimp only) | fail "no step"))
    rw [hmid]
    (refine' tel_use ?tH ?tB ?tF ?tX ?tN ?tT ?tC1 ?tC2 ?tC3 ?tk ?td ?tu ?_; (case tB => k_asm); (case tF => k_asm); (case tX => k_asm); (case tN => k_asm); (case tT => k_asm); (case tC1 => assumption); (case tC2 => assumption); (case tC3 => assumption); (case tk => first | exact rfl | assumption); (case tH => exact (IH (k / 2) (by omega) _ _ lo (lo + k / 2) pre (mid.take (k / 2)) (mid.drop (k / 2) ++ post) (by omega) l1 hpl rfl (by omega) (by have := Nat.mul_le_mul_right n (Nat.div_le_self k 2); omega) hv1 m1)); (case td => ktr_room); (case tu => ktr_units))
    rintro v8 h8 tk8 news8 F8 N8 ⟨t8, rfl, rfl⟩
    (try dsimp only)
    (repeat' (first | (with_reducible refine if_ff ?_) | (with_reducible refine if_tt ?_) | (k_unfold; (try dsimp only)) | (k_end; wrow_close) | (cell_step; walk1) | (cell_step; dsimp only; walk1) | (leave1; walk_say "STEP leave1"; try dsimp only) | fail "no step"))
    rename Fr h₀ L _ _ => F7
    rename News h₀ L _ _ => N7
    refine hret _ _ _ _ F7 N7 ⟨_, congrArg (fun z => Value.int z _) ?_, rfl⟩
    rw [hS, Int.toNat_natCast]
    have e := undig_append n (mid.take (k / 2)) (mid.drop (k / 2))
    rw [List.take_append_drop, l1] at e
    rw [e, Nat.mul_comm n]
    omega
end
section
inductive D2iPost (tb : Led) (rest : Led) (D : Addr) (vs : List Value) (ns : List Int) (ep : Nat) (n : Nat) (v : Value) (news' : Led) : Prop
  | mk (t : Tok) (tb' : Led) (zh1 : v = .int (undig n ns) t) (zh2 : news' = (tb' ++ (D, W.listOf vs.toArray ep) :: rest)) (zh3 : TabL 37 47 4 qual2 tb') (zh4 : Newer tb tb' (topA (tb ++ (D, W.listOf vs.toArray ep) :: rest)))
theorem digits2int (w : World) (tb rest : Led) (D : Addr) (vs : List Value) (ns : List Int) (ep n : Nat) (tn : Tok) (hn : 0 < n) (hn2 : n < 2^19) (hl : ns.length < 2^19) (hln : ns.length * n < 2^20) (hv : IntsAre vs ns) (hb : ∀ x ∈ ns, 0 ≤ x ∧ x < 2 ^ n) (off : OwnOff rest [37]) (hD : @LT.lt Nat _ 37 D) (ht : TabL 37 47 4 qual2 tb) :
  Tel w (ns.length + 2) (8 * ns.length + 20) (.ref 42) [.ref D, .int n tn] (tb ++ (D, W.listOf vs.toArray ep) :: rest) (D2iPost tb rest D vs ns ep n) := by
  intro mean mg mb dp un gd cn cs ad ccd cl outer A₀ base h₀ L m s Q E B F X N T C1 C2 C3 hk hd hu hret
  have hvl := hv.length
  rcases ht with rfl | ⟨c', oc, cvs, ct, rfl, hoc, hcv, hne⟩
  · have hsub : topA (([(37, tabObj #[])] : Led) ++ (D, W.listOf vs.toArray ep) :: rest) = max 38 (max (D + 1) (topA rest)) := rfl
    simp only [List.cons_append, List.nil_append] at N
    refine wpAny_call ?_
    k_dflt (first | (refine' code_defC ?k1 ?k2 ?k3 ?k4 ?k5 ?kA ?kF ?kK ?k6 ?k7 ?k8 ?k9 ?kB ?kD ?_ ?c2 ?c3 ?c4; (case kA => exact rfl); (case kF => exact rfl); (case kK => first | exact rfl | assumption); (case k1 => k_asm); (case k2 => k_asm); (case k3 => k_asm); (case k4 => k_asm); (case k5 => k_asm); (case k6 => k_is); (case k7 => k_is); (case k8 => k_room); (case k9 => first | exact BindsTo.of_eq rfl | exact binds_K (by k_in) rfl (by k_is) rfl rfl rfl | fail "k_enter: no rule for these arguments"); (case kB => exact rfl); (case kD => decide +kernel); (case c2 => exact rfl); (case c3 => exact rfl); (case c4 => exact rfl); k_whole; intro z9g z9L z9h z9tk z9cells z9FG z9F z9N z9Y z9B z9X z9T z9l1; (try k_lt z9l1); k_cells z9Y; (try simp only [List.cons_append, List.nil_append] at z9N); (try dsimp only); (try k_lift z9B); (try k_fold)) | cell_enter)
    (repeat' (first | (with_reducible refine if_ff ?_) | (with_reducible refine if_tt ?_) | (k_unfold; (try dsimp only)) | (k_end; wrow_close) | (cell_step; walk1) | (cell_step; dsimp only; walk1) | (leave1; walk_say "STEP leave1"; try dsimp only) | fail "no step"))
    · rename_i oI0 oN oD dd1 hoN hoD f1 c1 oc1 vs1 t1 ct1 dc1 h1 tk1 hd1 hd2 q3 q4 h0' oI F1 N1 hoI hlen
      have N2 := news_cold2 N1
      have hv2 : IntsAre vs ([] ++ ns ++ []) := by rw [List.nil_append, List.append_nil]; exact hv
      (refine' tel_use ?tH ?tB ?tF ?tX ?tN ?tT ?tC1 ?tC2 ?tC3 ?tk ?td ?tu ?_; (case tB => k_asm); (case tF => k_asm); (case tX => k_asm); (case tN => k_asm); (case tT => k_asm); (case tC1 => assumption); (case tC2 => assumption); (case tC3 => assumption); (case tk => first | exact rfl | assumption); (case tH => exact (inner2 w n hn (by omega) f1 c1 D _ _ _ oc1 oI oD oN dc1 _ ct1 vs1 t1 tn _ vs ep hd1 hd2 hoI hoD hoN ns.length _ _ 0 ns.length [] ns [] hlen rfl rfl (by omega) (by omega) hln hv2 hb)); (case td => ktr_room); (case tu => ktr_units))
      rintro v9 h9 tk9 news9 F9 N9 ⟨t9, rfl, rfl⟩
      (try dsimp only)
      (repeat' (first | (with_reducible refine if_ff ?_) | (with_reducible refine if_tt ?_) | (k_unfold; (try dsimp only)) | (k_end; wrow_close) | (cell_step; walk1) | (cell_step; dsimp only; walk1) | (leave1; walk_say "STEP leave1"; try dsimp only) | fail "no step"))
      rename Fr h₀ L _ _ => F7
      rename News h₀ L _ _ => N7
      refine hret _ _ _ ((c1, oc1) :: (37, tabObj #[rawInt 47, rawInt 4, .ref c1]) :: (D, W.listOf vs.toArray ep) :: rest) F7 (cb_drop N7 (by kcj_all)) ⟨_, [(c1, oc1), (37, tabObj #[rawInt 47, rawInt 4, .ref c1])], rfl, rfl, .inr ⟨c1, oc1, vs1, t1, rfl, hd1, hd2, ?_⟩, ?_⟩
      · show @LT.lt Nat _ 37 c1; omega
      · intro p hp
        rcases List.mem_cons.mp hp with rfl | hp
        · right; rw [hsub]; show @LE.le Nat _ _ c1; omega
        · left; rw [List.mem_singleton.mp hp]; simp
    · rename_i oI0 oN oD dd1 hoN hoD f1 c1 oc1 vs1 t1 ct1 dc1 h1 tk1 hd1 hd2 q3 q4 h0' oI F1 N1 hoI hlen kF kN kT kX
      rename Fr h₀ L _ _ => F7
      rename News h₀ L _ _ => N7
      have e0 : ns = [] := List.length_eq_zero_iff.mp (by omega)
      refine hret _ _ _ ((c1, oc1) :: (37, tabObj #[rawInt 47, rawInt 4, .ref c1]) :: (D, W.listOf vs.toArray ep) :: rest) F7 (cb_drop N7 (by kcj_all)) ⟨_, [(c1, oc1), (37, tabObj #[rawInt 47, rawInt 4, .ref c1])], congrArg (fun z => Value.int z _) (by rw [e0]; rfl), rfl, .inr ⟨c1, oc1, vs1, t1, rfl, hd1, hd2, ?_⟩, ?_⟩
      · show @LT.lt Nat _ 37 c1; omega
      · intro p hp
        rcases List.mem_cons.mp hp with rfl | hp
        · right; rw [hsub]; show @LE.le Nat _ _ c1; omega
        · left; rw [List.mem_singleton.mp hp]; simp
  · have hsub : topA (([(c', oc), (37, tabObj #[rawInt 47, rawInt 4, .ref c'])] : Led) ++ (D, W.listOf vs.toArray ep) :: rest) = max (c' + 1) (max 38 (max (D + 1) (topA rest))) := rfl
    have hne' : @LT.lt Nat _ 37 c' := hne
    simp only [List.cons_append, List.nil_append] at N
    refine wpAny_call ?_
    k_dflt (first | (refine' code_defC ?k1 ?k2 ?k3 ?k4 ?k5 ?kA ?kF ?kK ?k6 ?k7 ?k8 ?k9 ?kB ?kD ?_ ?c2 ?c3 ?c4; (case kA => exact rfl); (case kF => exact rfl); (case kK => first | exact rfl | assumption); (case k1 => k_asm); (case k2 => k_asm); (case k3 => k_asm); (case k4 => k_asm); (case k5 => k_asm); (case k6 => k_is); (case k7 => k_is); (case k8 => k_room); (case k9 => first | exact BindsTo.of_eq rfl | exact binds_K (by k_in) rfl (by k_is) rfl rfl rfl | fail "k_enter: no rule for these arguments"); (case kB => exact rfl); (case kD => decide +kernel); (case c2 => exact rfl); (case c3 => exact rfl); (case c4 => exact rfl); k_whole; intro z9g z9L z9h z9tk z9cells z9FG z9F z9N z9Y z9B z9X z9T z9l1; (try k_lt z9l1); k_cells z9Y; (try simp only [List.cons_append, List.nil_append] at z9N); (try dsimp only); (try k_lift z9B); (try k_fold)) | cell_enter)
    (repeat' (first | (with_reducible refine if_ff ?_) | (with_reducible refine if_tt ?_) | (k_unfold; (try dsimp only)) | (k_end; wrow_close) | (cell_step; walk1) | (cell_step; dsimp only; walk1) | (leave1; walk_say "STEP leave1"; try dsimp only) | fail "no step"))
    · rename_i oI0 oN oD dd1 hoN hoD f1 ct1 dc1 h1 tk1 q4 h0' oI F1 N1 hoI hlen
      have N2 := news_warm2 N1
      have hv2 : IntsAre vs ([] ++ ns ++ []) := by rw [List.nil_append, List.append_nil]; exact hv
      (refine' tel_use ?tH ?tB ?tF ?tX ?tN ?tT ?tC1 ?tC2 ?tC3 ?tk ?td ?tu ?_; (case tB => k_asm); (case tF => k_asm); (case tX => k_asm); (case tN => k_asm); (case tT => k_asm); (case tC1 => assumption); (case tC2 => assumption); (case tC3 => assumption); (case tk => first | exact rfl | assumption); (case tH => exact (inner2 w n hn (by omega) f1 c' D _ _ _ oc oI oD oN dc1 _ ct1 cvs ct tn _ vs ep hoc hcv hoI hoD hoN ns.length _ _ 0 ns.length [] ns [] hlen rfl rfl (by omega) (by omega) hln hv2 hb)); (case td => ktr_room); (case tu => ktr_units))
      rintro v9 h9 tk9 news9 F9 N9 ⟨t9, rfl, rfl⟩
      (try dsimp only)
      (repeat' (first | (with_reducible refine if_ff ?_) | (with_reducible refine if_tt ?_) | (k_unfold; (try dsimp only)) | (k_end; wrow_close) | (cell_step; walk1) | (cell_step; dsimp only; walk1) | (leave1; walk_say "STEP leave1"; try dsimp only) | fail "no step"))
      rename Fr h₀ L _ _ => F7
      rename News h₀ L _ _ => N7
      refine hret _ _ _ ((c', oc) :: (37, tabObj #[rawInt 47, rawInt 4, .ref c']) :: (D, W.listOf vs.toArray ep) :: rest) F7 (cb_drop N7 (by kcj_all)) ⟨_, [(c', oc), (37, tabObj #[rawInt 47, rawInt 4, .ref c'])], rfl, rfl, .inr ⟨c', oc, cvs, ct, rfl, hoc, hcv, ?_⟩, ?_⟩
      · exact hne
      · exact Newer.rfl _ _
    · rename_i oI0 oN oD dd1 hoN hoD f1 ct1 dc1 h1 tk1 q4 h0' oI F1 N1 hoI hlen kF kN kT kX
      rename Fr h₀ L _ _ => F7
      rename News h₀ L _ _ => N7
      have e0 : ns = [] := List.length_eq_zero_iff.mp (by omega)
      refine hret _ _ _ ((c', oc) :: (37, tabObj #[rawInt 47, rawInt 4, .ref c']) :: (D, W.listOf vs.toArray ep) :: rest) F7 (cb_drop N7 (by kcj_all)) ⟨_, [(c', oc), (37, tabObj #[rawInt 47, rawInt 4, .ref c'])], congrArg (fun z => Value.int z _) (by rw [e0]; rfl), rfl, .inr ⟨c', oc, cvs, ct, rfl, hoc, hcv, ?_⟩, ?_⟩
      · exact hne
      · exact Newer.rfl _ _
end
section
inductive DmpInv (rest : Led) (a : Int) (b : Int) (t0 : Tok) (Qd : Addr) (D : Addr) (vs : List Value) (t1' : Led) (t2 : Led) (dv : List Value) (m' : Str → Option Value) (nx : Led) : Prop
  | mk (ds : List Int) (qs : List Int) (qv : List Value) (ep : Nat) (r : Int) (tr : Tok) (tn : Tok) (zh1 : IntsAre dv ds) (zh2 : IntsAre qv qs) (zh3 : (∀ x ∈ ds, 0 ≤ x ∧ x < 2 ^ (Builtin.Int.intBits b))) (zh4 : (∀ x ∈ qs, 0 ≤ x ∧ x < 2 ^ (Builtin.Int.intBits b))) (zh5 : 0 ≤ r) (zh6 : r < b) (zh7 : ds.length + qs.length = nDig (Builtin.Int.intBits b) a) (zh8 : a = (undig (Builtin.Int.intBits b) qs.reverse * b + r) * 2 ^ (ds.length * (Builtin.Int.intBits b)) + undig (Builtin.Int.intBits b) ds.reverse) (zh9 : Has m' [(Str.ofString "b", .int b t0), (Str.ofString "n", .int (Builtin.Int.intBits b) tn), (Str.ofString "q_digits", .ref Qd), (Str.ofString "r", .int r tr)]) (zh10 : nx = (Qd, W.listOf qv.toArray ep) :: (D, W.listOf vs.toArray 0) :: (t1' ++ (t2 ++ rest)))
theorem topA_mem {a : Addr} {o : Obj} : ∀ {l : Led}, (a, o) ∈ l → a + 1 ≤ topA l
  | p :: r, h => by
    rw [topA_cons]
    rcases List.mem_cons.mp h with rfl | h
    · exact Nat.le_max_left _ _
    · exact Nat.le_trans (topA_mem h) (Nat.le_max_right _ _)
namespace Vdivmod_pos
noncomputable def At0 (w : World) (rest : Led) (a : Int) (b : Int) (ta : Tok) (t0 : Tok) (z : TelV) : Prop := ∀ (tb : Led) (ha : 0 ≤ a) (hb : 0 < b) (h1 : Builtin.Int.intBits b ≤ 4000) (h2 : Builtin.Int.intBits a < 2^12) (off1 : OwnOff rest [30]) (off2 : OwnOff rest [37]) (ht : Tabs tb), TelAt w (nDig (Builtin.Int.intBits b) a + 4) (8 * nDig (Builtin.Int.intBits b) a + 40) (.ref 49) [.int a ta, .int b t0] (tb ++ rest) (DivPost tb rest (a / b) (a % b)) z
noncomputable def w : World := eps1 ne_world (fun w => ∀ rest a b ta t0 z, At0 w rest a b ta t0 z)
noncomputable def rest : Led := eps1 ne_led (fun rest => ∀ a b ta t0 z, At0 w rest a b ta t0 z)
noncomputable def a : Int := eps1 ne_int (fun a => ∀ b ta t0 z, At0 w rest a b ta t0 z)
noncomputable def b : Int := eps1 ne_int (fun b => ∀ ta t0 z, At0 w rest a b ta t0 z)
noncomputable def ta : Tok := eps1 ne_tok (fun ta => ∀ t0 z, At0 w rest a b ta t0 z)
noncomputable def t0 : Tok := eps1 ne_tok (fun t0 => ∀ z, At0 w rest a b ta t0 z)
noncomputable def v0 : TelV := eps1 telV_ne (fun z => At0 w rest a b ta t0 z)
noncomputable abbrev h₀ := v0.h₀
noncomputable abbrev L := v0.L
theorem aux (tb : Led) (ha : 0 ≤ a) (hb : 0 < b) (h1 : Builtin.Int.intBits b ≤ 4000) (h2 : Builtin.Int.intBits a < 2^12) (off1 : OwnOff rest [30]) (off2 : OwnOff rest [37]) (ht : Tabs tb) :
  TelAt w (nDig (Builtin.Int.intBits b) a + 4) (8 * nDig (Builtin.Int.intBits b) a + 40) (.ref 49) [.int a ta, .int b t0] (tb ++ rest) (DivPost tb rest (a / b) (a % b)) v0 := by
  intro B F X N T C1 C2 C3 hk hd hu hret
  obtain ⟨t1, t2, rfl, ht1, ht2, o1, o2⟩ := ht
  have hbits : 0 < Builtin.Int.intBits b := by
    rcases Nat.eq_zero_or_pos (Builtin.Int.intBits b) with h | h
    · have := intBits_le_iff.mp (Nat.le_of_eq h)
      simp at this
      omega
    · exact h
  rw [List.append_assoc] at N
  refine wpAny_call ?_
  k_dflt (first | (refine' code_defC ?k1 ?k2 ?k3 ?k4 ?k5 ?kA ?kF ?kK ?k6 ?k7 ?k8 ?k9 ?kB ?kD ?_ ?c2 ?c3 ?c4; (case kA => exact rfl); (case kF => exact rfl); (case kK => first | exact rfl | assumption); (case k1 => k_asm); (case k2 => k_asm); (case k3 => k_asm); (case k4 => k_asm); (case k5 => k_asm); (case k6 => k_is); (case k7 => k_is); (case k8 => k_room); (case k9 => first | exact BindsTo.of_eq rfl | exact binds_K (by k_in) rfl (by k_is) rfl rfl rfl | fail "k_enter: no rule for these arguments"); (case kB => exact rfl); (case kD => decide +kernel); (case c2 => exact rfl); (case c3 => exact rfl); (case c4 => exact rfl); k_whole; intro z9g z9L z9h z9tk z9cells z9FG z9F z9N z9Y z9B z9X z9T z9l1; (try k_lt z9l1); k_cells z9Y; (try simp only [List.cons_append, List.nil_append] at z9N); (try dsimp only); (try k_lift z9B); (try k_fold)) | cell_enter)
  (repeat' (first | (with_reducible refine if_ff ?_) | (with_reducible refine if_tt ?_) | (k_unfold; (try dsimp only)) | (k_end; wrow_close) | (cell_step; walk1) | (cell_step; dsimp only; walk1) | (leave1; walk_say "STEP leave1"; try dsimp only) | fail "no step"))
  (refine' tel_use ?tH ?tB ?tF ?tX ?tN ?tT ?tC1 ?tC2 ?tC3 ?tk ?td ?tu ?_; (case tB => k_asm); (case tF => k_asm); (case tX => k_asm); (case tN => k_asm); (case tT => k_asm); (case tC1 => assumption); (case tC2 => assumption); (case tC3 => assumption); (case tk => first | exact rfl | assumption); (case tH => exact (int2digits w t1 (t2 ++ rest) a (Builtin.Int.intBits b) _ _ hbits ha (by omega) (by omega) (ownOff_app o1 off1) ht1)); (case td => ktr_room); (case tu => ktr_units))
  rintro v9 h9 tk9 news9 F9 N9 ⟨D, vs, t1', rfl, rfl, hD, ht1', hnew1, hvs⟩
  (try dsimp only)
  (repeat' (first | (with_reducible refine if_ff ?_) | (with_reducible refine if_tt ?_) | (k_unfold; (try dsimp only)) | (k_end; wrow_close) | (cell_step; walk1) | (cell_step; dsimp only; walk1) | (leave1; walk_say "STEP leave1"; try dsimp only) | fail "no step"))
  (rename Fr _ _ _ _ => lF')
  (with_unfolding_all refine' For_invVF lF' ?k1 ?k2 ?_; (case k1 => exact rfl); (case k2 => exact rfl))
  (repeat' (first | (with_reducible refine if_ff ?_) | (with_reducible refine if_tt ?_) | (k_unfold; (try dsimp only)) | (k_end; wrow_close) | (cell_step; walk1) | (cell_step; dsimp only; walk1) | (leave1; walk_say "STEP leave1"; try dsimp only) | fail "no step"))
  rename_i Qd hA q1 hB D2 hh2 F1 N1 q2
  have hbl := bits_lt_pow (Int.le_of_lt hb)
  have hdb := digs_bound (Builtin.Int.intBits b) (nDig (Builtin.Int.intBits b) a) a
  have hdl := digs_length (Builtin.Int.intBits b) (nDig (Builtin.Int.intBits b) a) a
  have hp2 : (0 : Int) < 2 ^ (Builtin.Int.intBits b) := Int.pow_pos (by decide)
  refine' iter_revUnr (ax := D) (lo := W.listOf vs.toArray 0) (vs := vs) rfl F1 N1 ?hof ?hm rfl rfl ?rest
  case hof => exact offI_of (topA_ne (by simp only [topA_cons, topA_app]; omega))
  case hm => k_mem
  case rest =>
  refine revRest_indR (DmpInv rest a b t0 Qd D vs t1' t2) ?zero ?succ _ _ _ ?init
  case init =>
    refine ⟨(digs (Builtin.Int.intBits b) (nDig (Builtin.Int.intBits b) a) a).reverse, [], [], 0, 0, _, _, IntsAre.reverse hvs, .nil, fun x hx => hdb x (List.mem_reverse.mp hx), (fun _ h => nomatch h), Int.le_refl _, hb, (by simp [hdl]), ?_, ⟨rfl, rfl, rfl, rfl, trivial⟩, rfl⟩
    rw [List.reverse_reverse, undig_digs _ _ _ ha (bits_pow ha _ hbits)]
    simp [undig]
  case zero =>
    rintro m' nx ⟨ds, qs, qv, ep, r, tr, tn, hds, hqs, hdb', hqb, hr0, hr1, hlen, hinv, hM, rfl⟩ h6 tk6 F6 N6
    cases hds
    have F7 := fr_all0 hM F6
    clear F6
    (try dsimp only)
    (repeat' (first | (with_reducible refine if_ff ?_) | (with_reducible refine if_tt ?_) | (k_unfold; (try dsimp only)) | (k_end; wrow_close) | (cell_step; walk1) | (cell_step; dsimp only; walk1) | (leave1; walk_say "STEP leave1"; try dsimp only) | fail "no step"))
    have hql : qs.length ≤ 2 ^ 13 := by
      have : nDig (Builtin.Int.intBits b) a ≤ 2 ^ 13 := by
        have := Nat.div_le_self (Builtin.Int.intBits a + Builtin.Int.intBits b - 1) (Builtin.Int.intBits b)
        unfold nDig
        omega
      simp only [List.length_nil] at hlen
      omega
    have hqv := hqs.length
    k_dflt (refine' kl_reverse (l := qv.reverse) ?vF ?vN ?ve ?vU ?vz ?_; (case vF => k_asm); (case vN => k_asm); (case vU => k_upd); (case ve => simp); (case vz => simp [sizeLine]; omega))
    intro h8 F8 N8
    (try dsimp only)
    (repeat' (first | (with_reducible refine if_ff ?_) | (with_reducible refine if_tt ?_) | (k_unfold; (try dsimp only)) | (k_end; wrow_close) | (cell_step; walk1) | (cell_step; dsimp only; walk1) | (leave1; walk_say "STEP leave1"; try dsimp only) | fail "no step"))
    rename News _ _ _ _ => N5
    have N4 := news_swap N5
    have hP1 := tabL_top ht1
    have hP2 := tabL_top ht2
    have hD0 := hD
    have hass : topA (t1 ++ t2 ++ rest) = topA (t1 ++ (t2 ++ rest)) := by rw [List.append_assoc]
    simp only [topA_app] at hD
    have o3 : OwnOff t1' [37] := newer_off hnew1 o2 (by simp only [topA_app]; omega)
    have o4 : OwnOff ((D, W.listOf vs.toArray 0) :: (t1' ++ rest)) [37] := ownOff_cons (fun d hd => by rw [List.mem_singleton.mp hd]; show @Ne Nat D 37; omega) (ownOff_app o3 off2)
    have hqr : qs.reverse.length ≤ 2 ^ 13 := by rw [List.length_reverse]; exact hql
    have e1 : qs.reverse.length = nDig (Builtin.Int.intBits b) a := by rw [List.length_reverse]; simp only [List.length_nil] at hlen; omega
    have hqn : qs.reverse.length * Builtin.Int.intBits b < 2 ^ 20 := by
      have e2 := nDig_mul a (Builtin.Int.intBits b)
      rw [e1, Nat.mul_comm]
      omega
    (refine' tel_use ?tH ?tB ?tF ?tX ?tN ?tT ?tC1 ?tC2 ?tC3 ?tk ?td ?tu ?_; (case tB => k_asm); (case tF => k_asm); (case tX => k_asm); (case tN => k_asm); (case tT => k_asm); (case tC1 => assumption); (case tC2 => assumption); (case tC3 => assumption); (case tk => first | exact rfl | assumption); (case tH => exact (digits2int w t2 ((D, W.listOf vs.toArray 0) :: (t1' ++ rest)) Qd qv.reverse qs.reverse _ (Builtin.Int.intBits b) _ hbits (by omega) (by omega) hqn (IntsAre.reverse hqs) (fun x hx => hqb x (List.mem_reverse.mp hx)) o4 (by show @LT.lt Nat _ 37 Qd; omega) ht2)); (case td => ktr_room); (case tu => ktr_units))
    rintro v3 h3 tk3 news3 F3 N3 ⟨t3, t2', rfl, rfl, ht2', hnew2⟩
    (try dsimp only)
    (repeat' (first | (with_reducible refine if_ff ?_) | (with_reducible refine if_tt ?_) | (k_unfold; (try dsimp only)) | (k_end; wrow_close) | (cell_step; walk1) | (cell_step; dsimp only; walk1) | (leave1; walk_say "STEP leave1"; try dsimp only) | fail "no step"))
    rename (topA t2' ≤ _ ∧ _) => q9
    rename Fr h₀ L _ _ => F1
    rename News h₀ L _ _ => N1
    have hD9 : D + 1 ≤ topA (t2 ++ (Qd, W.listOf qv.reverse.toArray ep) :: (D, W.listOf vs.toArray 0) :: (t1' ++ rest)) := topA_mem (List.mem_append_right _ (.tail _ (.head _)))
    have hfin := divmod_is (a := a) (b := b) (q := undig (Builtin.Int.intBits b) qs.reverse) (r := r) (by simpa [undig] using hinv) hr0 hr1
    refine hret _ _ _ (_ :: ((t1' ++ t2') ++ rest)) F1 (fun p hp => N1 p ?_) ⟨_, t3, tr, t1' ++ t2', rfl, ?_, by rw [hfin.1, hfin.2], ⟨t1', t2', rfl, ht1', ht2', newer_off hnew2 o1 ?_, o3⟩, newer_app (hnew1.weaken ?_) (hnew2.weaken ?_)⟩
    · simp only [List.mem_cons, List.mem_append] at hp ⊢
      rcases hp with h | ((h | h) | h) <;> simp only [h, true_or, or_true]
    · rw [hass]; exact Nat.le_trans hD0 (Nat.le_of_succ_le q9.2.2.1)
    · exact Nat.lt_of_lt_of_le hP1 (Nat.le_trans (Nat.le_trans (Nat.le_max_left _ _) hD) (Nat.le_of_succ_le hD9))
    · exact Nat.le_of_eq hass
    · rw [hass]; exact Nat.le_trans hD0 (Nat.le_of_succ_le hD9)
  case succ =>
    rintro v rv m' nx ⟨ds, qs, qv, ep, r, tr, tn, hds, hqs, hdb', hqb, hr0, hr1, hlen, hinv, hM, rfl⟩ it h6 tk6 hit F6 N6 R9 hR9
    cases hds with
    | cons d td hds' =>
    rename_i ds'
    have F7 := fr_all hM F6
    clear F6
    have hs := long_step hbl hr0 hr1 (hdb' d (.head _)).1 (hdb' d (.head _)).2
    have hrb : Builtin.Int.intBits r ≤ Builtin.Int.intBits b := bits_of_lt hr0 (by omega)
    have f1 : (0 : Int) ≤ (Builtin.Int.intBits b : Int) := Int.natCast_nonneg _
    have f2 : (Builtin.Int.intBits r : Int) + (Builtin.Int.intBits b : Int) ≤ 2 ^ 27 := by omega
    have hql : qs.length < 2 ^ 20 := by
      have : nDig (Builtin.Int.intBits b) a ≤ 2 ^ 13 := by
        have := Nat.div_le_self (Builtin.Int.intBits a + Builtin.Int.intBits b - 1) (Builtin.Int.intBits b)
        unfold nDig
        omega
      omega
    (repeat' (first | (with_reducible refine if_ff ?_) | (with_reducible refine if_tt ?_) | (k_unfold; (try dsimp only)) | (k_end; wrow_close) | (cell_step; walk1) | (cell_step; dsimp only; walk1) | (leave1; walk_say "STEP leave1"; try dsimp only) | fail "no step"))
    (refine' tel_use ?tH ?tB ?tF ?tX ?tN ?tT ?tC1 ?tC2 ?tC3 ?tk ?td ?tu ?_; (case tB => k_asm); (case tF => k_asm); (case tX => k_asm); (case tN => k_asm); (case tT => k_asm); (case tC1 => assumption); (case tC2 => assumption); (case tC3 => assumption); (case tk => first | exact rfl | assumption); (case tH => exact (div2n1n w _ _ b (Builtin.Int.intBits b) _ _ _ (by omega) (by rw [Int.toNat_natCast]; have := bits_of_lt hs.1 hs.2.2; omega) (noPy h1))); (case td => ktr_room); (case tu => ktr_units))
    rintro v5 h5 tk5 news5 F5 N5 ⟨rt, tq, tr2, rfl, hrt, rfl⟩
    simp only [topA_cons, topA_app] at hrt
    (try dsimp only)
    (repeat' (first | (with_reducible refine if_ff ?_) | (with_reducible refine if_tt ?_) | (k_unfold; (try dsimp only)) | (k_end; wrow_close) | (cell_step; walk1) | (cell_step; dsimp only; walk1) | (leave1; walk_say "STEP leave1"; try dsimp only) | fail "no step"))
    try (
      (k_dflt (refine' append_K ?k1 ?k2 ?k3 ?_ ?z))
      (case k1 => k_asm)
      (case k2 => k_asm)
      (case k3 => k_upd)
      (case z => size_fits)
      (intro h9 F9 N9)
      (try dsimp only)
      (repeat' (first | (with_reducible refine if_ff ?_) | (with_reducible refine if_tt ?_) | (k_unfold; (try dsimp only)) | (k_end; wrow_close) | (cell_step; walk1) | (cell_step; dsimp only; walk1) | (leave1; walk_say "STEP leave1"; try dsimp only) | fail "no step")))
    rename Fr _ _ _ _ => F8
    rename News _ _ _ _ => N8
    (try simp only [List.push_toArray] at N8)
    have hb0 : (0 : Int) ≤ b := Int.le_of_lt hb
    have efd : (r * 2 ^ (Builtin.Int.intBits b : Int).toNat + d).fdiv b = (r * 2 ^ (Builtin.Int.intBits b) + d) / b := by rw [Int.toNat_natCast, Int.fdiv_eq_ediv_of_nonneg _ hb0]
    have efm : (r * 2 ^ (Builtin.Int.intBits b : Int).toNat + d).fmod b = (r * 2 ^ (Builtin.Int.intBits b) + d) % b := by rw [Int.toNat_natCast, Int.fmod_eq_emod_of_nonneg _ hb0]
    rw [efd] at N8 F8
    rw [efm] at F8
    refine hR9 _ _ ?_
    show UnrEnd _ _ _ _ _ _ _
    refine UnrEnd.intro F8 N8 (_ :: (D, W.listOf vs.toArray 0) :: (t1' ++ (t2 ++ rest))) (by kcj_all) (topA_ne (by simp only [topA_cons, topA_app]; omega)) ⟨List.mem_cons_of_mem _ (List.mem_cons_self ..), ds', qs ++ [(r * 2 ^ (Builtin.Int.intBits b) + d) / b], qv ++ [.int ((r * 2 ^ (Builtin.Int.intBits b) + d) / b) tq], _, (r * 2 ^ (Builtin.Int.intBits b) + d) % b, tr2, tn, hds', IntsAre.append hqs (.cons _ _ .nil), fun x hx => hdb' x (.tail _ hx), ?_, Int.emod_nonneg _ (by omega), Int.emod_lt_of_pos _ hb, ?_, turn_math hinv ?_, ⟨rfl, rfl, rfl, rfl, trivial⟩, rfl⟩
    · intro x hx
      rcases List.mem_append.mp hx with hx | hx
      · exact hqb x hx
      · rw [List.mem_singleton.mp hx]
        exact ⟨Int.ediv_nonneg hs.1 hb0, Int.ediv_lt_of_lt_mul hb (by rw [Int.mul_comm _ b]; exact hs.2.1)⟩
    · simp only [List.length_append, List.length_cons, List.length_nil] at hlen ⊢; omega
    · have := Int.emod_add_mul_ediv (r * 2 ^ (Builtin.Int.intBits b) + d) b
      rw [Int.mul_comm b] at this
      omega
end Vdivmod_pos
theorem divmod_pos (w : World) (tb rest : Led) (a b : Int) (ta t0 : Tok) (ha : 0 ≤ a) (hb : 0 < b) (h1 : Builtin.Int.intBits b ≤ 4000) (h2 : Builtin.Int.intBits a < 2^12) (off1 : OwnOff rest [30]) (off2 : OwnOff rest [37]) (ht : Tabs tb) :
  Tel w (nDig (Builtin.Int.intBits b) a + 4) (8 * nDig (Builtin.Int.intBits b) a + 40) (.ref 49) [.int a ta, .int b t0] (tb ++ rest) (DivPost tb rest (a / b) (a % b)) := tel_of fun z => (show ∀ w rest a b ta t0 z, Vdivmod_pos.At0 w rest a b ta t0 z from (eps1_all (eps1_all (eps1_all (eps1_all (eps1_all (eps1_all (eps1_all @Vdivmod_pos.aux)))))))) w rest a b ta t0 z tb ha hb h1 h2 off1 off2 ht
end
section
theorem idm1 (w : World) (tb rest : Led) (a b : Int) (ta t0 : Tok) (ha : 0 ≤ a) (hb : 0 < b) (h1 : Builtin.Int.intBits b ≤ 4000) (h2 : Builtin.Int.intBits a < 2^12) (hK : nDig (Builtin.Int.intBits b) a ≤ 250) (off1 : OwnOff rest [30]) (off2 : OwnOff rest [37]) (ht : Tabs tb) :
  Tel w 256 2100 (.ref 56) [.int a ta, .int b t0] (tb ++ rest) (DivPost tb rest (a / b) (a % b)) := by
  intro mean mg mb dp un gd cn cs ad ccd cl outer A₀ base h₀ L m s Q E B F X N T C1 C2 C3 hk hd hu hret
  refine wpAny_call ?_
  k_dflt (first | (refine' code_defC ?k1 ?k2 ?k3 ?k4 ?k5 ?kA ?kF ?kK ?k6 ?k7 ?k8 ?k9 ?kB ?kD ?_ ?c2 ?c3 ?c4; (case kA => exact rfl); (case kF => exact rfl); (case kK => first | exact rfl | assumption); (case k1 => k_asm); (case k2 => k_asm); (case k3 => k_asm); (case k4 => k_asm); (case k5 => k_asm); (case k6 => k_is); (case k7 => k_is); (case k8 => k_room); (case k9 => first | exact BindsTo.of_eq rfl | exact binds_K (by k_in) rfl (by k_is) rfl rfl rfl | fail "k_enter: no rule for these arguments"); (case kB => exact rfl); (case kD => decide +kernel); (case c2 => exact rfl); (case c3 => exact rfl); (case c4 => exact rfl); k_whole; intro z9g z9L z9h z9tk z9cells z9FG z9F z9N z9Y z9B z9X z9T z9l1; (try k_lt z9l1); k_cells z9Y; (try simp only [List.cons_append, List.nil_append] at z9N); (try dsimp only); (try k_lift z9B); (try k_fold)) | cell_enter)
  (repeat' (first | (with_reducible refine if_ff ?_) | (with_reducible refine if_tt ?_) | (k_unfold; (try dsimp only)) | (k_end; wrow_close) | (cell_step; walk1) | (cell_step; dsimp only; walk1) | (leave1; walk_say "STEP leave1"; try dsimp only) | fail "no step"))
  all_goals first | (exfalso; omega) | skip
  (refine' tel_use ?tH ?tB ?tF ?tX ?tN ?tT ?tC1 ?tC2 ?tC3 ?tk ?td ?tu ?_; (case tB => k_asm); (case tF => k_asm); (case tX => k_asm); (case tN => k_asm); (case tT => k_asm); (case tC1 => assumption); (case tC2 => assumption); (case tC3 => assumption); (case tk => first | exact rfl | assumption); (case tH => exact (divmod_pos w tb rest a b _ _ ha hb h1 h2 off1 off2 ht)); (case td => ktr_room); (case tu => ktr_units))
  rintro v9 h9 tk9 news9 F9 N9 R9
  (try dsimp only)
  (repeat' (first | (with_reducible refine if_ff ?_) | (with_reducible refine if_tt ?_) | (k_unfold; (try dsimp only)) | (k_end; wrow_close) | (cell_step; walk1) | (cell_step; dsimp only; walk1) | (leave1; walk_say "STEP leave1"; try dsimp only) | fail "no step"))
  rename Fr h₀ L _ _ => F1
  rename News h₀ L _ _ => N1
  exact hret _ _ _ _ F1 N1 R9
theorem idm2 (w : World) (tb rest : Led) (a b : Int) (ta t0 : Tok) (hb : 0 < b) (h1 : Builtin.Int.intBits b ≤ 4000) (h2 : Builtin.Int.intBits a < 2^12) (hK : nDig (Builtin.Int.intBits b) a ≤ 250) (off1 : OwnOff rest [30]) (off2 : OwnOff rest [37]) (ht : Tabs tb) :
  Tel w 258 2120 (.ref 56) [.int a ta, .int b t0] (tb ++ rest) (DivPost tb rest (a / b) (a % b)) := by
  by_cases ha : 0 ≤ a
  · exact tel_mono (idm1 w tb rest a b ta t0 ha hb h1 h2 hK off1 off2 ht) (by decide) (by decide)
  · intro mean mg mb dp un gd cn cs ad ccd cl outer A₀ base h₀ L m s Q E B F X N T C1 C2 C3 hk hd hu hret
    refine wpAny_call ?_
    k_dflt (first | (refine' code_defC ?k1 ?k2 ?k3 ?k4 ?k5 ?kA ?kF ?kK ?k6 ?k7 ?k8 ?k9 ?kB ?kD ?_ ?c2 ?c3 ?c4; (case kA => exact rfl); (case kF => exact rfl); (case kK => first | exact rfl | assumption); (case k1 => k_asm); (case k2 => k_asm); (case k3 => k_asm); (case k4 => k_asm); (case k5 => k_asm); (case k6 => k_is); (case k7 => k_is); (case k8 => k_room); (case k9 => first | exact BindsTo.of_eq rfl | exact binds_K (by k_in) rfl (by k_is) rfl rfl rfl | fail "k_enter: no rule for these arguments"); (case kB => exact rfl); (case kD => decide +kernel); (case c2 => exact rfl); (case c3 => exact rfl); (case c4 => exact rfl); k_whole; intro z9g z9L z9h z9tk z9cells z9FG z9F z9N z9Y z9B z9X z9T z9l1; (try k_lt z9l1); k_cells z9Y; (try simp only [List.cons_append, List.nil_append] at z9N); (try dsimp only); (try k_lift z9B); (try k_fold)) | cell_enter)
    (repeat' (first | (with_reducible refine if_ff ?_) | (with_reducible refine if_tt ?_) | (k_unfold; (try dsimp only)) | (k_end; wrow_close) | (cell_step; walk1) | (cell_step; dsimp only; walk1) | (leave1; walk_say "STEP leave1"; try dsimp only) | fail "no step"))
    all_goals first | (exfalso; omega) | skip
    have e1 : Builtin.bitNot a = -a - 1 := by unfold Builtin.bitNot; omega
    rw [e1]
    have hbits : Builtin.Int.intBits (-a - 1) ≤ Builtin.Int.intBits a := intBits_le_of_natAbs (by omega) (Nat.le_refl _)
    (refine' tel_use ?tH ?tB ?tF ?tX ?tN ?tT ?tC1 ?tC2 ?tC3 ?tk ?td ?tu ?_; (case tB => k_asm); (case tF => k_asm); (case tX => k_asm); (case tN => k_asm); (case tT => k_asm); (case tC1 => assumption); (case tC2 => assumption); (case tC3 => assumption); (case tk => first | exact rfl | assumption); (case tH => exact (idm1 w tb rest (-a - 1) b _ _ (by omega) hb h1 (by omega) (Nat.le_trans (nDig_mono hbits) hK) off1 off2 ht)); (case td => ktr_room); (case tu => ktr_units))
    rintro v9 h9 tk9 news9 F9 N9 ⟨d, tq, tr, tb', rfl, hd9, rfl, ht9, hn9⟩
    (try dsimp only)
    (repeat' (first | (with_reducible refine if_ff ?_) | (with_reducible refine if_tt ?_) | (k_unfold; (try dsimp only)) | (k_end; wrow_close) | (cell_step; walk1) | (cell_step; dsimp only; walk1) | (leave1; walk_say "STEP leave1"; try dsimp only) | fail "no step"))
    rename Fr h₀ L _ _ => F1
    rename News h₀ L _ _ => N1
    rename (d + 1 ≤ _ ∧ _) => q1
    rw [(not_div hb).1, (not_div hb).2] at N1
    refine hret _ _ _ (_ :: (tb' ++ rest)) F1 (news_skip2 N1) ⟨_, _, _, tb', rfl, ?_, rfl, ht9, hn9⟩
    simp only [topA_app] at hd9 q1 ⊢
    omega

theorem idm (w : World) (tb rest : Led) (a b : Int) (ta t0 : Tok) (hb : b ≠ 0) (h1 : Builtin.Int.intBits b ≤ 4000) (h2 : Builtin.Int.intBits a < 2^12) (hK : nDig (Builtin.Int.intBits b) a ≤ 250) (off1 : OwnOff rest [30]) (off2 : OwnOff rest [37]) (ht : Tabs tb) :
  Tel w 260 2140 (.ref 56) [.int a ta, .int b t0] (tb ++ rest) (DivPost tb rest (a.fdiv b) (a.fmod b)) := by
  by_cases hb0 : 0 < b
  · rw [Int.fdiv_eq_ediv_of_nonneg _ (Int.le_of_lt hb0), Int.fmod_eq_emod_of_nonneg _ (Int.le_of_lt hb0)]
    exact tel_mono (idm2 w tb rest a b ta t0 hb0 h1 h2 hK off1 off2 ht) (by decide) (by decide)
  · intro mean mg mb dp un gd cn cs ad ccd cl outer A₀ base h₀ L m s Q E B F X N T C1 C2 C3 hk hd hu hret
    refine wpAny_call ?_
    k_dflt (first | (refine' code_defC ?k1 ?k2 ?k3 ?k4 ?k5 ?kA ?kF ?kK ?k6 ?k7 ?k8 ?k9 ?kB ?kD ?_ ?c2 ?c3 ?c4; (case kA => exact rfl); (case kF => exact rfl); (case kK => first | exact rfl | assumption); (case k1 => k_asm); (case k2 => k_asm); (case k3 => k_asm); (case k4 => k_asm); (case k5 => k_asm); (case k6 => k_is); (case k7 => k_is); (case k8 => k_room); (case k9 => first | exact BindsTo.of_eq rfl | exact binds_K (by k_in) rfl (by k_is) rfl rfl rfl | fail "k_enter: no rule for these arguments"); (case kB => exact rfl); (case kD => decide +kernel); (case c2 => exact rfl); (case c3 => exact rfl); (case c4 => exact rfl); k_whole; intro z9g z9L z9h z9tk z9cells z9FG z9F z9N z9Y z9B z9X z9T z9l1; (try k_lt z9l1); k_cells z9Y; (try simp only [List.cons_append, List.nil_append] at z9N); (try dsimp only); (try k_lift z9B); (try k_fold)) | cell_enter)
    (repeat' (first | (with_reducible refine if_ff ?_) | (with_reducible refine if_tt ?_) | (k_unfold; (try dsimp only)) | (k_end; wrow_close) | (cell_step; walk1) | (cell_step; dsimp only; walk1) | (leave1; walk_say "STEP leave1"; try dsimp only) | fail "no step"))
    all_goals first | (exfalso; omega) | skip
    have hbits : Builtin.Int.intBits (-a) ≤ Builtin.Int.intBits a := intBits_le_of_natAbs (by omega) (Nat.le_refl _)
    have hbb : Builtin.Int.intBits (-b) = Builtin.Int.intBits b := Nat.le_antisymm (intBits_le_of_natAbs (by omega) (Nat.le_refl _)) (intBits_le_of_natAbs (by omega) (Nat.le_refl _))
    (refine' tel_use ?tH ?tB ?tF ?tX ?tN ?tT ?tC1 ?tC2 ?tC3 ?tk ?td ?tu ?_; (case tB => k_asm); (case tF => k_asm); (case tX => k_asm); (case tN => k_asm); (case tT => k_asm); (case tC1 => assumption); (case tC2 => assumption); (case tC3 => assumption); (case tk => first | exact rfl | assumption); (case tH => exact (idm2 w tb rest (-a) (-b) _ _ (by omega) (by omega) (by omega) (by rw [hbb]; exact Nat.le_trans (nDig_mono hbits) hK) off1 off2 ht)); (case td => ktr_room); (case tu => ktr_units))
    rintro v9 h9 tk9 news9 F9 N9 ⟨d, tq, tr, tb', rfl, hd9, rfl, ht9, hn9⟩
    (try dsimp only)
    (repeat' (first | (with_reducible refine if_ff ?_) | (with_reducible refine if_tt ?_) | (k_unfold; (try dsimp only)) | (k_end; wrow_close) | (cell_step; walk1) | (cell_step; dsimp only; walk1) | (leave1; walk_say "STEP leave1"; try dsimp only) | fail "no step"))
    rename Fr h₀ L _ _ => F1
    rename News h₀ L _ _ => N1
    rename (d + 1 ≤ _ ∧ _) => q1
    rw [(neg_div (by omega : b < 0)).1, (neg_div (by omega : b < 0)).2] at N1
    refine hret _ _ _ (_ :: (tb' ++ rest)) F1 (news_skip2 N1) ⟨_, _, _, tb', rfl, ?_, rfl, ht9, hn9⟩
    simp only [topA_app] at hd9 q1 ⊢
    omega
end
end
section
local macro_rules | `(tactic| cell_step) => `(tactic| (walk_at "s1"))
local macro_rules | `(tactic| walk_at "getMethod ref") => `(tactic| (k_here; (with_reducible show wpAny _ _ (getMethod (Value.ref _) (PySem.Str.ofString "read") _) _ _ _); walk_at "last getMethod ref"))
section
namespace Vread_char
noncomputable def At0 (w : World) (P : LexP) (rest : Led) (line : Int) (tl : Tok) (pb : List Value) (pe : Nat) (c : Nat) (tc : Tok) (sg : List Value) (cs : List Nat) (ep : Nat) (zvv : TelV) : Prop := ∀ (O : LexOk P) (hr : OwnOff rest [P.G, P.dX]) (hsg : TextsAre sg (cs.map fun c => [c])) (hs : cs.length ≤ 1000) (hc : c < 0x110000) (hcs : ∀ x ∈ cs, x < 0x110000), TelCAt w 5 200 (.ref 91) [.ref P.X] (LexL w P line tl pb pe (.str (tx [c]) tc :: sg) ep ++ rest) (fun v news' => ∃ tl' ep', v = .str (tx [c]) tc ∧ news' = LexL w P (if c = 10 then line + 1 else line) tl' pb pe sg ep' ++ rest) zvv
noncomputable def AtX (x : (World) × (LexP) × (Led) × (Int) × (Tok) × (List Value) × (Nat) × (Nat) × (Tok) × (List Value) × (List Nat) × (Nat) × TelV) : Prop := At0 (x.1) (x.2.1) (x.2.2.1) (x.2.2.2.1) (x.2.2.2.2.1) (x.2.2.2.2.2.1) (x.2.2.2.2.2.2.1) (x.2.2.2.2.2.2.2.1) (x.2.2.2.2.2.2.2.2.1) (x.2.2.2.2.2.2.2.2.2.1) (x.2.2.2.2.2.2.2.2.2.2.1) (x.2.2.2.2.2.2.2.2.2.2.2.1) (x.2.2.2.2.2.2.2.2.2.2.2.2)
noncomputable def cc0 : (World) × (LexP) × (Led) × (Int) × (Tok) × (List Value) × (Nat) × (Nat) × (Tok) × (List Value) × (List Nat) × (Nat) × TelV := eps1 (ne_prod ne_world (ne_prod ne_lexp (ne_prod ne_led (ne_prod ne_int (ne_prod ne_tok (ne_prod ne_list (ne_prod ne_nat (ne_prod ne_nat (ne_prod ne_tok (ne_prod ne_list (ne_prod ne_list (ne_prod ne_nat telV_ne)))))))))))) AtX
noncomputable def w : World := cc0.1
noncomputable def P : LexP := cc0.2.1
noncomputable def rest : Led := cc0.2.2.1
noncomputable def line : Int := cc0.2.2.2.1
noncomputable def tl : Tok := cc0.2.2.2.2.1
noncomputable def pb : List Value := cc0.2.2.2.2.2.1
noncomputable def pe : Nat := cc0.2.2.2.2.2.2.1
noncomputable def c : Nat := cc0.2.2.2.2.2.2.2.1
noncomputable def tc : Tok := cc0.2.2.2.2.2.2.2.2.1
noncomputable def sg : List Value := cc0.2.2.2.2.2.2.2.2.2.1
noncomputable def cs : List Nat := cc0.2.2.2.2.2.2.2.2.2.2.1
noncomputable def ep : Nat := cc0.2.2.2.2.2.2.2.2.2.2.2.1
noncomputable def v0 : TelV := cc0.2.2.2.2.2.2.2.2.2.2.2.2
noncomputable abbrev h₀ := v0.h₀
noncomputable abbrev L := v0.L
theorem aux (O : LexOk P) (hr : OwnOff rest [P.G, P.dX]) (hsg : TextsAre sg (cs.map fun c => [c])) (hs : cs.length ≤ 1000) (hc : c < 0x110000) (hcs : ∀ x ∈ cs, x < 0x110000) :
  TelCAt w 5 200 (.ref 91) [.ref P.X] (LexL w P line tl pb pe (.str (tx [c]) tc :: sg) ep ++ rest) (fun v news' => ∃ tl' ep', v = .str (tx [c]) tc ∧ news' = LexL w P (if c = 10 then line + 1 else line) tl' pb pe sg ep' ++ rest) v0 := by
  intro B F X N T C1 C2 C3 hk hd hu hret
  obtain ⟨o1, o2, o3, n1, n2, n3, n4, n5, n6, n7, n8, n9⟩ := O
  have hlen := hsg.length
  rw [List.length_map] at hlen
  have hsg2 : TextsAre (Value.str (tx [c]) tc :: sg).reverse (([c] :: cs.map fun c => [c]).reverse) := (TextsAre.cons [c] tc hsg).reverse
  have hok : TxOk (([c] :: cs.map fun c => [c]).reverse) := by
    intro x hx
    rcases List.mem_cons.mp (List.mem_reverse.mp hx) with rfl | hx
    · simp [PyData.strOk, hc]
    · obtain ⟨y, hy, rfl⟩ := List.mem_map.mp hx
      simp [PyData.strOk, hcs y hy]
  simp only [LexL, List.cons_append, List.nil_append] at N
  k_dflt (first | (refine' code_defC ?k1 ?k2 ?k3 ?k4 ?k5 ?kA ?kF ?kK ?k6 ?k7 ?k8 ?k9 ?kB ?kD ?_ ?c2 ?c3 ?c4; (case kA => exact rfl); (case kF => exact rfl); (case kK => first | exact rfl | assumption); (case k1 => k_asm); (case k2 => k_asm); (case k3 => k_asm); (case k4 => k_asm); (case k5 => k_asm); (case k6 => k_is); (case k7 => k_is); (case k8 => k_room); (case k9 => first | exact BindsTo.of_eq rfl | exact binds_K (by k_in) rfl (by k_is) rfl rfl rfl | fail "k_enter: no rule for these arguments"); (case kB => exact rfl); (case kD => decide +kernel); (case c2 => exact rfl); (case c3 => exact rfl); (case c4 => exact rfl); k_whole; intro z9g z9L z9h z9tk z9cells z9FG z9F z9N z9Y z9B z9X z9T z9l1; (try k_lt z9l1); k_cells z9Y; (try simp only [List.cons_append, List.nil_append] at z9N); (try dsimp only); (try k_lift z9B); (try k_fold)) | cell_enter)
  (repeat' (first | (with_reducible refine if_ff ?_) | (with_reducible refine if_tt ?_) | (k_unfold; (try dsimp only)) | (k_end; wrow_close) | (cell_step; walk1) | (cell_step; dsimp only; walk1) | (leave1; walk_say "STEP leave1"; try dsimp only) | fail "no step"))
  walk1
  conv in (lamBody lamX) => whnf
  (repeat' (first | (with_reducible refine if_ff ?_) | (with_reducible refine if_tt ?_) | (k_unfold; (try dsimp only)) | (k_end; wrow_close) | (cell_step; walk1) | (cell_step; dsimp only; walk1) | (leave1; walk_say "STEP leave1"; try dsimp only) | fail "no step"))
  k_dflt (refine' tx_ne (ws := ([c] :: cs.map fun c => [c]).reverse) (us := []) ?xa ?xb hsg2 .nil hok (fun _ h => nomatch h) ?xu ?_; (case xa => exact News.isList (by k_asm) (by k_mem)); (case xb => exact News.isList (by k_asm) (by k_mem)); (case xu => ktr_units))
  have hne : (!decide ((([c] :: cs.map fun c => [c]).reverse) = ([] : List (List Nat)))) = true := by simp
  rw [hne]
  (try dsimp only)
  (repeat' (first | (with_reducible refine if_ff ?_) | (with_reducible refine if_tt ?_) | (k_unfold; (try dsimp only)) | (k_end; wrow_close) | (cell_step; walk1) | (cell_step; dsimp only; walk1) | (leave1; walk_say "STEP leave1"; try dsimp only) | fail "no step"))
  k_dflt (refine' pop_rev (x := .str (tx [c]) tc) (sg := sg) ?vF ?vN ?vU (by omega) ?_; (case vF => k_asm); (case vN => k_asm); (case vU => k_upd))
  intro h8 F8 N8
  (try dsimp only)
  (repeat' (first | (with_reducible refine if_ff ?_) | (with_reducible refine if_tt ?_) | (k_unfold; (try dsimp only)) | (k_end; wrow_close) | (cell_step; walk1) | (cell_step; dsimp only; walk1) | (leave1; walk_say "STEP leave1"; try dsimp only) | fail "no step"))
  · rename Fr h₀ L _ _ => F1
    rename News h₀ L _ _ => N1
    rename ((_ == Str.ofString "\n") = true) => hb
    have hc10 : c = 10 := one_is.mp ((eq_of_beq hb).trans nl_is)
    exact hret _ _ _ _ F1 (news_tail N1) ⟨_, _, rfl, congrArg (fun l => LexL w P l _ pb pe sg _ ++ rest) (if_pos hc10).symm⟩
  · rename Fr h₀ L _ _ => F1
    rename News h₀ L _ _ => N1
    rename ((_ == Str.ofString "\n") = false) => hb
    have hc10 : c ≠ 10 := fun e => by rw [e, nl_is] at hb; simp at hb
    exact hret _ _ _ _ F1 (news_tail N1) ⟨_, _, rfl, congrArg (fun l => LexL w P l _ pb pe sg _ ++ rest) (if_neg hc10).symm⟩
end Vread_char
theorem read_char (w : World) (P : LexP) (O : LexOk P) (rest : Led) (line : Int) (tl : Tok) (pb : List Value) (pe : Nat) (c : Nat) (tc : Tok) (sg : List Value) (cs : List Nat) (ep : Nat) (hr : OwnOff rest [P.G, P.dX]) (hsg : TextsAre sg (cs.map fun c => [c])) (hs : cs.length ≤ 1000) (hc : c < 0x110000) (hcs : ∀ x ∈ cs, x < 0x110000) :
  TelC w 5 200 (.ref 91) [.ref P.X] (LexL w P line tl pb pe (.str (tx [c]) tc :: sg) ep ++ rest) (fun v news' => ∃ tl' ep', v = .str (tx [c]) tc ∧ news' = LexL w P (if c = 10 then line + 1 else line) tl' pb pe sg ep' ++ rest) := telC_of fun zvv => (show Vread_char.At0 w P rest line tl pb pe c tc sg cs ep zvv from eps1_all (P := Vread_char.AtX) @Vread_char.aux (w, P, rest, line, tl, pb, pe, c, tc, sg, cs, ep, zvv)) O hr hsg hs hc hcs
theorem read_end (w : World) (P : LexP) (O : LexOk P) (rest : Led) (line : Int) (tl : Tok) (pb : List Value) (pe : Nat) (ep : Nat) :
  TelC w 5 200 (.ref 91) [.ref P.X] (LexL w P line tl pb pe [] ep ++ rest) (fun v news' => ∃ t, v = .str Str.empty t ∧ news' = LexL w P line tl pb pe [] ep ++ rest) := by
  intro mean mg mb dp un gd cn cs' ad ccd cl outer A₀ base h₀ L m s Q E B F X N T C1 C2 C3 hk hd hu hret
  obtain ⟨o1, o2, o3, n1, n2, n3, n4, n5, n6, n7, n8, n9⟩ := O
  simp only [LexL, List.cons_append, List.nil_append] at N
  k_dflt (first | (refine' code_defC ?k1 ?k2 ?k3 ?k4 ?k5 ?kA ?kF ?kK ?k6 ?k7 ?k8 ?k9 ?kB ?kD ?_ ?c2 ?c3 ?c4; (case kA => exact rfl); (case kF => exact rfl); (case kK => first | exact rfl | assumption); (case k1 => k_asm); (case k2 => k_asm); (case k3 => k_asm); (case k4 => k_asm); (case k5 => k_asm); (case k6 => k_is); (case k7 => k_is); (case k8 => k_room); (case k9 => first | exact BindsTo.of_eq rfl | exact binds_K (by k_in) rfl (by k_is) rfl rfl rfl | fail "k_enter: no rule for these arguments"); (case kB => exact rfl); (case kD => decide +kernel); (case c2 => exact rfl); (case c3 => exact rfl); (case c4 => exact rfl); k_whole; intro z9g z9L z9h z9tk z9cells z9FG z9F z9N z9Y z9B z9X z9T z9l1; (try k_lt z9l1); k_cells z9Y; (try simp only [List.cons_append, List.nil_append] at z9N); (try dsimp only); (try k_lift z9B); (try k_fold)) | cell_enter)
  (repeat' (first | (with_reducible refine if_ff ?_) | (with_reducible refine if_tt ?_) | (k_unfold; (try dsimp only)) | (k_end; wrow_close) | (cell_step; walk1) | (cell_step; dsimp only; walk1) | (leave1; walk_say "STEP leave1"; try dsimp only) | fail "no step"))
  walk1
  conv in (lamBody lamX) => whnf
  (repeat' (first | (with_reducible refine if_ff ?_) | (with_reducible refine if_tt ?_) | (k_unfold; (try dsimp only)) | (k_end; wrow_close) | (cell_step; walk1) | (cell_step; dsimp only; walk1) | (leave1; walk_say "STEP leave1"; try dsimp only) | fail "no step"))
  rename Fr h₀ L _ _ => F1
  rename News h₀ L _ _ => N1
  exact hret _ _ _ _ F1 (news_tail N1) ⟨_, congrArg (fun x => Value.str x _) (by decide +kernel), rfl⟩
end
end
section
local macro_rules | `(tactic| cell_step) => `(tactic| (walk_at "s1"))
section
theorem fn91 {w : World} {h₀ : Heap} (X : (hd02.heap_1 w.params).In h₀) : ∃ fo fd, h₀.get? 91 = some fo ∧ fo.data = .func fd := ⟨_, _, X 91 _ (by k_is), rfl⟩
theorem next_char (w : World) (P : LexP) (O : LexOk P) (rest : Led) (I q : Addr) (ts : Tok) (line : Int) (tl : Tok) (pb : List Value) (pe : Nat) (c : Nat) (tc : Tok) (sg : List Value) (cs : List Nat) (ep : Nat) (hr : OwnOff rest [P.G, P.dX]) (hI : @LT.lt Nat _ P.PB I) (hq : @LT.lt Nat _ P.PB q) (hsg : TextsAre sg (cs.map fun c => [c])) (hs : cs.length ≤ 1000) (hc : c < 0x110000) (hcs : ∀ x ∈ cs, x < 0x110000)
    {mean : ExcName → Option Value} {mg mb : Str → Option Value} {dp un : Nat} {gd : Option (List Code)} {cn : Str} {cs' : Scope} {a : Addr} {ccd : Value} {cl : List (Str × Addr)} {outer : List Env} {A₀ : Around} {base h₀ : Heap} {L : Addr} {m : Str → Option Value} {s : Shared} {Q : Option Value → Shared → Prop} {E : Value → Shared → Prop}
    (B : Below A₀ base outer h₀) (F : Fr h₀ L s.heap m) (X : (hd02.heap_1 w.params).In h₀) (N : News h₀ L s.heap ((I, ciO (.ref q) (.str Str.empty ts)) :: (q, methodObj (.ref 91) (.ref P.X)) :: (LexL w P line tl pb pe (.str (tx [c]) tc :: sg) ep ++ rest))) (T : Top topProg topL mean mg mb h₀) (C1 : CodeHd base 135 131) (C2 : CodeHd base 41 37) (C3 : CodeHd base 34 30)
    (hk : cs'.kind = .function) (hd : dp + 5 < recursionLimit) (hu : un + 201 < cLine)
    (ret : ∀ h' tk' tl' ep', Fr h₀ L h' m → News h₀ L h' ((I, ciO (.ref q) (.str Str.empty ts)) :: (q, methodObj (.ref 91) (.ref P.X)) :: (LexL w P (if c = 10 then line + 1 else line) tl' pb pe sg ep' ++ rest)) → Q (some (.str (tx [c]) tc)) { s with heap := h', toks := tk' }) :
    wpAny (model Challenge.rw_ty0035_02.row.prog w) (ktrTop dp un gd cn cs' L a ccd cl outer) (pyNext (.ref I)) Q E s := by
  obtain ⟨fo, fd, hfo, hfd⟩ := fn91 X
  have n := O
  obtain ⟨o1, o2, o3, n1, n2, n3, n4, n5, n6, n7, n8, n9⟩ := n
  refine ci_next rfl (N _ (.head _)).1 (N _ (.tail _ (.head _))).1 (F.keep _ _ hfo) hfd ?_
  refine call_meth N (.tail _ (.head _)) ?_
  have N2 : News h₀ L s.heap (LexL w P line tl pb pe (.str (tx [c]) tc :: sg) ep ++ ((I, ciO (.ref q) (.str Str.empty ts)) :: (q, methodObj (.ref 91) (.ref P.X)) :: rest)) := fun p hp => N p (by
    simp only [List.mem_append, List.mem_cons] at hp ⊢
    rcases hp with h | h | h | h <;> simp only [h, true_or, or_true])
  have off : OwnOff ((I, ciO (.ref q) (.str Str.empty ts)) :: (q, methodObj (.ref 91) (.ref P.X)) :: rest) [P.G, P.dX] := by
    refine ownOff_cons (fun d hd => ?_) (ownOff_cons (fun d hd => ?_) hr)
    · simp only [List.mem_cons, List.not_mem_nil, or_false] at hd
      show @Ne Nat I d
      rcases hd with rfl | rfl <;> omega
    · simp only [List.mem_cons, List.not_mem_nil, or_false] at hd
      show @Ne Nat q d
      rcases hd with rfl | rfl <;> omega
  refine codeAny_mono (read_char w P O _ line tl pb pe c tc sg cs ep off hsg hs hc hcs mean mg mb dp (un + 1) gd cn cs' a ccd cl outer A₀ base h₀ L m s (fun v s' => ∃ h' tk' tl' ep', v = .str (tx [c]) tc ∧ s' = { s with heap := h', toks := tk' } ∧ Fr h₀ L h' m ∧ News h₀ L h' ((I, ciO (.ref q) (.str Str.empty ts)) :: (q, methodObj (.ref 91) (.ref P.X)) :: (LexL w P (if c = 10 then line + 1 else line) tl' pb pe sg ep' ++ rest))) (fun _ _ => False) B F X N2 T C1 C2 C3 hk (by omega) (by omega) ?_) ?_
  · rintro v h' tk' news' F' N' ⟨tl', ep', rfl, rfl⟩
    refine ⟨h', tk', tl', ep', rfl, rfl, F', fun p hp => N' p (by
      simp only [List.mem_append, List.mem_cons] at hp ⊢
      rcases hp with h | h | h | h <;> simp only [h, true_or, or_true])⟩
  · intro r s' hr'
    cases r with
    | error e => exact hr'
    | ok fl =>
      cases fl with
      | ret v =>
        obtain ⟨h', tk', tl', ep', rfl, rfl, F', N'⟩ := hr'
        refine ⟨tx [c], tc, rfl, (N' _ (.head _)).1, (N' _ (.tail _ (.head _))).1, F'.keep _ _ hfo, ?_⟩
        rw [if_neg (show tx [c] ≠ Str.empty from fun e => by have := congrArg (fun s : Str => s.cps.size) e; simp [Str.empty] at this)]
        exact ret h' tk' tl' ep' F' N'
      | _ => exact hr'
theorem next_none (w : World) (P : LexP) (O : LexOk P) (rest : Led) (I q : Addr) (ts : Tok) (line : Int) (tl : Tok) (pb : List Value) (pe : Nat) (ep : Nat)
    (hoff : OwnOff (LexL w P line tl pb pe [] ep ++ rest) [I])
    {mean : ExcName → Option Value} {mg mb : Str → Option Value} {dp un : Nat} {gd : Option (List Code)} {cn : Str} {cs' : Scope} {a : Addr} {ccd : Value} {cl : List (Str × Addr)} {outer : List Env} {A₀ : Around} {base h₀ : Heap} {L : Addr} {m : Str → Option Value} {s : Shared} {Q : Option Value → Shared → Prop} {E : Value → Shared → Prop}
    (B : Below A₀ base outer h₀) (F : Fr h₀ L s.heap m) (X : (hd02.heap_1 w.params).In h₀) (N : News h₀ L s.heap ((I, ciO (.ref q) (.str Str.empty ts)) :: (q, methodObj (.ref 91) (.ref P.X)) :: (LexL w P line tl pb pe [] ep ++ rest))) (T : Top topProg topL mean mg mb h₀) (C1 : CodeHd base 135 131) (C2 : CodeHd base 41 37) (C3 : CodeHd base 34 30)
    (hk : cs'.kind = .function) (hd : dp + 5 < recursionLimit) (hu : un + 201 < cLine)
    (ret : ∀ h' tk', Fr h₀ L h' m → News h₀ L h' (LexL w P line tl pb pe [] ep ++ rest) → Q none { s with heap := h', toks := tk' }) :
    wpAny (model Challenge.rw_ty0035_02.row.prog w) (ktrTop dp un gd cn cs' L a ccd cl outer) (pyNext (.ref I)) Q E s := by
  obtain ⟨fo, fd, hfo, hfd⟩ := fn91 X
  refine ci_next rfl (N _ (.head _)).1 (N _ (.tail _ (.head _))).1 (F.keep _ _ hfo) hfd ?_
  refine call_meth N (.tail _ (.head _)) ?_
  have N2 : News h₀ L s.heap (LexL w P line tl pb pe [] ep ++ ((I, ciO (.ref q) (.str Str.empty ts)) :: (q, methodObj (.ref 91) (.ref P.X)) :: rest)) := fun p hp => N p (by
    simp only [List.mem_append, List.mem_cons] at hp ⊢
    rcases hp with h | h | h | h <;> simp only [h, true_or, or_true])
  refine codeAny_mono (read_end w P O _ line tl pb pe ep mean mg mb dp (un + 1) gd cn cs' a ccd cl outer A₀ base h₀ L m s (fun v s' => ∃ h' tk' t, v = .str Str.empty t ∧ s' = { s with heap := h', toks := tk' } ∧ Fr h₀ L h' m ∧ News h₀ L h' ((I, ciO (.ref q) (.str Str.empty ts)) :: (q, methodObj (.ref 91) (.ref P.X)) :: (LexL w P line tl pb pe [] ep ++ rest))) (fun _ _ => False) B F X N2 T C1 C2 C3 hk (by omega) (by omega) ?_) ?_
  · rintro v h' tk' news' F' N' ⟨t, rfl, rfl⟩
    refine ⟨h', tk', t, rfl, rfl, F', fun p hp => N' p (by
      simp only [List.mem_append, List.mem_cons] at hp ⊢
      rcases hp with h | h | h | h <;> simp only [h, true_or, or_true])⟩
  · intro r s' hr'
    cases r with
    | error e => exact hr'
    | ok fl =>
      cases fl with
      | ret v =>
        obtain ⟨h', tk', t, rfl, rfl, F', N'⟩ := hr'
        refine ⟨Str.empty, t, rfl, (N' _ (.head _)).1, (N' _ (.tail _ (.head _))).1, F'.keep _ _ hfo, ?_⟩
        rw [if_pos rfl]
        intro h'' hx
        have hIN := N' _ (.head _)
        refine ret h'' tk' ⟨F'.ns.extBut hx (Ne.symm hIN.2.1), fun b o e => hx b o (fun q => by rw [q, hIN.2.2] at e; cases e) (F'.keep b o e), F'.above⟩ fun p hp => ?_
        have hp' := N' p (.tail _ (.tail _ hp))
        exact ⟨hx _ _ (hoff p hp I (List.mem_singleton.mpr rfl)) hp'.1, hp'.2⟩
      | _ => exact hr'
end
section
section
variable {prog : Program} {w : World} {A : Around} {E : Value → Shared → Prop} {env : Env} {v : Str} {body : List Stmt} {Q : Flow → Shared → Prop} {I : Addr}
noncomputable def Hold (p : Prop) : Prop := p
theorem Hold.mk {p : Prop} (h : p) : Hold p := h
theorem tx_append (a b : List Nat) : tx a ++ tx b = tx (a ++ b) := by
  show Str.mk (a.toArray ++ b.toArray) = Str.mk (a ++ b).toArray
  simp
theorem owit_ind (Inv : Nat → Shared → Prop) (zero : ∀ s, ¬ Inv 0 s)
    (step : ∀ n s, Inv (n + 1) s → wpAny (model prog w) A (pyNext (.ref I)) (OwitTurn prog w A E env v body Q (fun s' => Hold (Inv n s'))) E s) : ∀ n s, Inv n s → OwitRest prog w A E env v body Q I n s := by
  intro n
  induction n with
  | zero => exact fun s h => (zero s h).elim
  | succ n ih =>
    intro s hi
    refine OwitRest.succ (wpAny_mono (step n s hi) (fun r s₁ hr => ?_) fun _ _ z => z)
    cases r with
    | none => exact hr
    | some y =>
      refine wpAny_mono (hr : wpAny _ _ (storeName env v y) _ _ _) (fun _ s₂ h₂ => wpAny_mono h₂ (fun f s₃ h₃ => ?_) fun _ _ z => z) fun _ _ z => z
      cases f with
      | next => exact ih s₃ h₃
      | cont => exact ih s₃ h₃
      | brk => exact h₃
      | ret u => exact h₃
end
noncomputable def cnt (cs : List Nat) : Int := (cs.count 10 : Nat)
theorem cnt_cons (c : Nat) (cs : List Nat) : cnt (c :: cs) = (if c = 10 then 1 else 0) + cnt cs := by
  unfold cnt
  rw [List.count_cons]
  by_cases h : c = 10
  · simp [h]; omega
  · simp [h]
theorem qt_is : Str.ofString "\"" = tx [34] := by decide +kernel
theorem bs_is : Str.ofString "\\" = tx [92] := by decide +kernel
theorem news_perm1 {h₀ h : Heap} {L : Addr} {a b : Addr × Obj} {l r : Led} (N : News h₀ L h (a :: b :: (l ++ r))) : News h₀ L h (l ++ (a :: b :: r)) := fun p hp => N p (by
  simp only [List.mem_append, List.mem_cons] at hp ⊢
  rcases hp with h | h | h | h <;> simp only [h, true_or, or_true])
theorem news_perm2 {h₀ h : Heap} {L : Addr} {a b : Addr × Obj} {l r : Led} (N : News h₀ L h (l ++ (a :: b :: r))) : News h₀ L h (a :: b :: (l ++ r)) := fun p hp => N p (by
  simp only [List.mem_append, List.mem_cons] at hp ⊢
  rcases hp with h | h | h | h <;> simp only [h, true_or, or_true])
noncomputable def esc (w : List Nat) : List Nat := w.flatMap fun c => if c = 34 ∨ c = 92 then [92, c] else [c]
noncomputable def bsl (w : List Nat) : List Nat := w.flatMap fun c => [92, c]
inductive TokPost (w : World) (P : LexP) (rest : Led) (line : Int) (cs rcs : List Nat) (word : List Nat) (pb : List Value) (pe : Nat) (v : Value) (news' : Led) : Prop
  | mk (t) (line') (tl') (sg') (ep') (zh1 : v = .str (tx word) t) (zh2 : news' = LexL w P line' tl' pb pe sg' ep' ++ rest) (zh3 : TextsAre sg' (rcs.map fun c => [c])) (zh4 : line' + cnt rcs = line + cnt cs)
theorem empty_is : Str.ofString "" = Str.empty := by decide +kernel

theorem off2_of {P : LexP} {rest : Led} {I q : Addr} {a b : Obj} (hoff : OwnOff rest [P.G, P.dX]) (h1 : @LT.lt Nat _ P.G I) (h2 : @LT.lt Nat _ P.dX I) (h3 : @LT.lt Nat _ P.G q) (h4 : @LT.lt Nat _ P.dX q) : OwnOff ((I, a) :: (q, b) :: rest) [P.G, P.dX] := by
  refine ownOff_cons (fun d hd => ?_) (ownOff_cons (fun d hd => ?_) hoff)
  · simp only [List.mem_cons, List.not_mem_nil, or_false] at hd
    show @Ne Nat I d
    rcases hd with rfl | rfl <;> omega
  · simp only [List.mem_cons, List.not_mem_nil, or_false] at hd
    show @Ne Nat q d
    rcases hd with rfl | rfl <;> omega
end
section
inductive TokInv (w : World) (P : LexP) (rest : Led) (s : Shared) (I q : Addr) (g1 : Heap) (L1 : Addr) (pe : Nat) (TOT : Int) (tail : List Nat → List Nat) (n : Nat) (s' : Shared) : Prop
  | mk (h : Heap) (tk : Nat) (m' : Str → Option Value) (pre : List Nat) (sg2 : List Value) (line2 : Int) (tl2 : Tok) (ep2 : Nat) (ts : Tok) (e1 : s' = { s with heap := h, toks := tk }) (e2 : pre.length < n) (e3 : pre = [] ∨ pre = [10])
      (e4 : TextsAre sg2 ((tail pre).map fun c => [c])) (e5 : (tail pre).length ≤ 1000) (e6 : ∀ x ∈ tail pre, x < 0x110000) (e7 : line2 + cnt (tail pre) = TOT) (e8 : Fr g1 L1 h m')
      (e9 : Has m' [(Str.ofString "self", .ref P.X), (Str.ofString "fiter", .ref I)] ∧ ∃ tt, m' (Str.ofString "token") = some (.str (tx []) tt))
      (e10 : News g1 L1 h ((I, ciO (.ref q) (.str Str.empty ts)) :: (q, methodObj (.ref 91) (.ref P.X)) :: (LexL w P line2 tl2 [] pe sg2 ep2 ++ rest)))
inductive TokInv2 (w : World) (P : LexP) (rest : Led) (s : Shared) (I q : Addr) (g1 : Heap) (L1 : Addr) (pe : Nat) (TOT : Int) (word : List Nat) (tail : List Nat → List Nat) (n : Nat) (s' : Shared) : Prop
  | mk (h : Heap) (tk : Nat) (m' : Str → Option Value) (w2 dn : List Nat) (sg2 : List Value) (line2 : Int) (tl2 : Tok) (ep2 : Nat) (ts : Tok) (e1 : s' = { s with heap := h, toks := tk }) (e2 : w2.length < n) (e3 : word = dn ++ w2)
      (e4 : TextsAre sg2 ((tail w2).map fun c => [c])) (e5 : (tail w2).length ≤ 1000) (e6 : ∀ x ∈ tail w2, x < 0x110000) (e7 : line2 + cnt (tail w2) = TOT) (e8 : Fr g1 L1 h m')
      (e9 : Has m' [(Str.ofString "self", .ref P.X), (Str.ofString "fiter", .ref I)] ∧ ∃ tt, m' (Str.ofString "token") = some (.str (tx dn) tt))
      (e10 : News g1 L1 h ((I, ciO (.ref q) (.str Str.empty ts)) :: (q, methodObj (.ref 91) (.ref P.X)) :: (LexL w P line2 tl2 [] pe sg2 ep2 ++ rest)))
section
variable {prog : Program} {w : World} {A : Around} {E : Value → Shared → Prop} {env : Env} {v : Str} {body : List Stmt} {Q : Flow → Shared → Prop} {I : Addr} {n : Nat} {s : Shared}
theorem owit_abs (h : ∀ Q', Q' = Q → OwitRest prog w A E env v body Q' I n s) : OwitRest prog w A E env v body Q I n s := h Q rfl
end
end
section
open PySem PySem.W PyProof.Rows PySem.Spec PySem.Calls PySem.StrLaws PySem.Builtin PySem.Builtin.Str
theorem tx_len (x : List Nat) : (tx x).length = x.length := by simp [Str.length]
theorem at_tx {x y : List Nat} {hi i : Nat} : At (tx x) (tx y) hi i ↔ i + y.length ≤ hi ∧ (x.drop i).take y.length = y := by
  unfold At
  rw [subAt_eq, tx_len]
  simp
theorem sub_tx (x : List Nat) (i j : Nat) : strSub (tx x) i j = tx ((x.drop i).take (j - i)) := by
  apply Str.ext'
  apply Array.toList_inj.mp
  rw [strSub_toList]
noncomputable def dots : List (List Nat) → List Nat
  | [] => []
  | [p] => p
  | p :: q :: r => p ++ 46 :: 46 :: 46 :: dots (q :: r)
theorem split_dots_aux (x : List Nat) : ∀ (parts : List (List Nat)), parts ≠ [] → (∀ p ∈ parts, 46 ∉ p) → ∀ (a : Nat) (cuts : List Nat) (f : Nat), a ≤ x.length → x.drop a = dots parts → ChainG (tx x) (tx [46, 46, 46]) x.length a cuts f → (∀ k, f ≤ k → ¬ At (tx x) (tx [46, 46, 46]) x.length k) → partsFrom (tx x) 3 a cuts = parts.map tx
  | [], hne, _, _, _, _, _, _, _, _ => absurd rfl hne
  | [p], _, hf, a, cuts, f, ha, hx, hG, hn => by
    cases cuts with
    | nil =>
      show [strSub (tx x) a (tx x).length] = _
      rw [sub_tx, tx_len, List.take_of_length_le (by simp), hx]
      rfl
    | cons c r =>
      have h1 := at_tx.mp hG.2.1
      have h2 := hG.1
      have e : x.drop c = p.drop (c - a) := by
        rw [show c = a + (c - a) by omega, ← List.drop_drop, hx]
        simp [dots]
      rw [e] at h1
      have h3 : 46 ∈ p := by
        have : 46 ∈ (p.drop (c - a)).take [46, 46, 46].length := by rw [h1.2]; simp
        exact List.mem_of_mem_drop (List.mem_of_mem_take this)
      exact absurd h3 (hf p (by simp))
  | p :: q :: r, _, hf, a, cuts, f, ha, hx, hG, hn => by
    have hlen : x.length = a + (p.length + 3 + (dots (q :: r)).length) := by
      have := congrArg List.length hx
      simp only [List.length_drop, dots, List.length_append, List.length_cons] at this
      omega
    have hat : At (tx x) (tx [46, 46, 46]) x.length (a + p.length) := by
      rw [at_tx]
      refine ⟨by simp only [List.length_cons, List.length_nil]; omega, ?_⟩
      rw [← List.drop_drop, hx]
      simp [dots]
    cases cuts with
    | nil =>
      have e : f = a := hG
      exact absurd hat (hn _ (by omega))
    | cons c cr =>
      have h2 := hG.1
      have h4 := hG.2.2.1
      have hc : c = a + p.length := by
        rcases Nat.lt_trichotomy c (a + p.length) with h | h | h
        · exfalso
          have h1 := at_tx.mp hG.2.1
          have e : x.drop c = p.drop (c - a) ++ 46 :: 46 :: 46 :: dots (q :: r) := by
            rw [show c = a + (c - a) by omega, ← List.drop_drop, hx]
            simp only [dots]
            rw [show a + (c - a) - a = c - a by omega, List.drop_append_of_le_length (by omega)]
          rw [e] at h1
          obtain ⟨z, zs, hz⟩ : ∃ z zs, p.drop (c - a) = z :: zs := by
            cases hd : p.drop (c - a) with
            | nil => have := congrArg List.length hd; simp at this; omega
            | cons z zs => exact ⟨z, zs, rfl⟩
          rw [hz] at h1
          have : z = 46 := by
            have := h1.2
            simp at this
            exact this.1
          subst this
          exact hf p (by simp) (List.mem_of_mem_drop (i := c - a) (by rw [hz]; simp))
        · exact h
        · exact absurd hat (h4 _ (by omega) h)
      subst hc
      show strSub (tx x) a (a + p.length) :: partsFrom (tx x) 3 (a + p.length + 3) cr = _
      rw [sub_tx, hx, split_dots_aux x (q :: r) (by simp) (fun z hz => hf z (.tail _ hz)) (a + p.length + 3) cr f (by omega) ?_ hG.2.2.2 hn]
      · simp [dots]
      · rw [Nat.add_assoc, ← List.drop_drop, hx]
        simp only [dots]
        rw [← List.drop_drop]
        simp
theorem split_dots {parts : List (List Nat)} (h2 : 2 ≤ parts.length) (hf : ∀ p ∈ parts, 46 ∉ p) : Txt.split (tx (dots parts)) (tx [46, 46, 46]) = parts.map tx := by
  obtain ⟨f, hG, hn⟩ := occ_tight (tx (dots parts)) (tx [46, 46, 46]) (by rw [tx_len]; decide)
  rw [tx_len] at hG hn
  have key := split_dots_aux (dots parts) parts (by rintro rfl; simp at h2) hf 0 _ f (Nat.zero_le _) (by simp) hG hn
  obtain ⟨p, q, r, rfl⟩ : ∃ p q r, parts = p :: q :: r := by
    match parts, h2 with
    | p :: q :: r, _ => exact ⟨p, q, r, rfl⟩
  unfold Txt.split
  rw [if_neg, if_neg]
  · rw [partsBetween_eq, tx_len, tx_len]
    exact key
  · intro he
    rw [tx_len, List.isEmpty_iff] at he
    rw [he] at key
    have := congrArg List.length key
    simp [partsFrom] at this
  · rw [Bool.or_eq_true, decide_eq_true_eq, decide_eq_true_eq, tx_len, tx_len]
    rintro (h | h)
    · simp [dots] at h
      omega
    · have e : Builtin.Str.strKind (tx [46, 46, 46]) = 1 := by decide +kernel
      rw [e] at h
      unfold Builtin.Str.strKind at h
      split at h
      · omega
      · split at h <;> omega
theorem dots_in (p q : List Nat) (r : List (List Nat)) : (occurrences (tx (dots (p :: q :: r))) (tx [46, 46, 46]) 0 (tx (dots (p :: q :: r))).length 1).isEmpty = false := by
  have h := (found_iff (tx (dots (p :: q :: r))) (tx [46, 46, 46])).mpr ⟨p.length, at_tx.mpr ⟨by rw [tx_len]; simp [dots] <;> omega, by simp [dots]⟩⟩
  simpa using h
theorem range'_split2 {n b a : Nat} {pre post : List Nat} (h : List.range' b n = pre ++ a :: post) : b ≤ a ∧ ∀ k, b ≤ k → k < a → k ∈ pre := by
  have hL : n = pre.length + (post.length + 1) := by
    have := congrArg List.length h
    simpa using this
  have hlen : b + pre.length = a := by
    have h1 : (List.range' b n)[pre.length]? = some a := by rw [h]; simp
    rw [List.getElem?_range'] at h1
    · simpa using h1
    · omega
  refine ⟨by omega, fun k hb hk => ?_⟩
  have h2 : (List.range' b n)[k - b]? = pre[k - b]? := by rw [h, List.getElem?_append_left (by omega)]
  rw [List.getElem?_range' (by omega)] at h2
  have h3 : pre[k - b]? = some k := by rw [← h2]; simp; omega
  exact List.mem_of_getElem? h3
theorem occ_from (x y : Str) (lo hi : Nat) :
    (occurrences x y lo hi 1 = [] ∧ ∀ i, lo ≤ i → ¬ At x y hi i) ∨ ∃ i r, occurrences x y lo hi 1 = i :: r ∧ lo ≤ i ∧ At x y hi i ∧ ∀ k, lo ≤ k → k < i → ¬ At x y hi k := by
  rw [occ_eq]
  rcases occ_first x y hi 1 (Nat.le_refl 1) (List.range' lo (hi + 1 - lo)) lo (fun i h => by simp [List.mem_range'] at h; omega) with ⟨h0, hn⟩ | ⟨pre, a, post, e, h0, ha, hn⟩
  · refine .inl ⟨by rw [h0], fun i hb hA => ?_⟩
    exact hn i (by have := hA.1; rw [List.mem_range'_1]; omega) hA
  · obtain ⟨e1, e2⟩ := range'_split2 e
    refine .inr ⟨a, ((forIn (List.range' lo (hi + 1 - lo)) ((#[] : Array Nat), lo) (occBody x y hi 1)).run.fst.toList).tail, ?_, e1, ha, fun k hb hk => hn k (e2 k hb hk)⟩
    generalize (forIn (List.range' lo (hi + 1 - lo)) ((#[] : Array Nat), lo) (occBody x y hi 1)).run.fst = arr at h0
    have h1 : arr.toList[0]? = some a := by simpa using h0
    cases hL : arr.toList with
    | nil => rw [hL] at h1; cases h1
    | cons b t => rw [hL] at h1; simp at h1; rw [h1]; rfl
noncomputable def find4 (x y : Str) (i j : Int) : Int := match occurrences x y (fromIndex x.length i) (min (fromIndex x.length j) x.length) 1 with | k :: _ => (k : Int) | [] => -1
theorem find4_none (x : List Nat) (i j : Nat) (h : i ≤ j) (hj : j ≤ x.length) : find4 (tx x) (tx []) i j = i := by
  have e1 : fromIndex (tx x).length (i : Int) = i := by unfold fromIndex; rw [if_neg (by omega)]; omega
  have e2 : fromIndex (tx x).length (j : Int) = j := by unfold fromIndex; rw [if_neg (by omega)]; omega
  unfold find4
  rw [e1, e2, tx_len, Nat.min_eq_left hj]
  rcases occ_from (tx x) (tx []) i j with ⟨_, h2⟩ | ⟨k, r, h1, h2, h3, h4⟩
  · exact absurd (at_tx.mpr ⟨by simpa using h, by simp⟩) (h2 i (Nat.le_refl _))
  · rw [h1]
    have : ¬ i < k := fun hk => h4 i (Nat.le_refl _) hk (at_tx.mpr ⟨by simpa using h, by simp⟩)
    show (k : Int) = i
    omega
theorem gives_find4 (x y : Str) (i j : Int) (t u v v' : Tok) : Gives («str.find» ⟨[.str x t, .str y u, .int i v, .int j v'], []⟩) (.int (find4 x y i j)) := by
  show Gives (match occurrences x y (fromIndex x.length i) (min (fromIndex x.length j) x.length) 1 with | k :: _ => retInt k | [] => (do rule "str.find.not-found"; retInt (-1))) _
  unfold find4
  cases occurrences x y (fromIndex x.length i) (min (fromIndex x.length j) x.length) 1 with
  | nil => exact .rule (.of_eq rfl)
  | cons k _ => exact .of_eq rfl
section
variable {prog : Program} {w : World} {A : Around} {E : Value → Shared → Prop} {s : Shared}
theorem call_find4 {x y : Str} {t u v v' : Tok} {i j : Int} {Q : Value → Shared → Prop} (hq : Q (.int (find4 x y i j) s.toks) { s with toks := s.toks + 1 }) : wpAny (model prog w) A (call (.builtin "str.find") [.str x t, .str y u, .int i v, .int j v']) Q E s :=
  call_gives F.slot_str_find (typeIs_str _ _ _) F.entry_str_find (F.args_str_find_4 _ _ _ _) (gives_find4 x y i j t u v v') hq
end
end
section
namespace Vget_quoted
noncomputable def At0 (w : World) (P : LexP) (rest : Led) (line : Int) (tl : Tok) (pe : Nat) (sg : List Value) (word : List Nat) (rcs : List Nat) (ep : Nat) (z : TelV) : Prop := ∀ (O : LexOk P) (pre0 : List Nat) (hpre : pre0 = [] ∨ pre0 = [10]) (hr : OwnOff rest [P.G, P.dX]) (hsg : TextsAre sg ((pre0 ++ 34 :: (esc word ++ 34 :: rcs)).map fun c => [c])) (hs : (pre0 ++ 34 :: (esc word ++ 34 :: rcs)).length ≤ 1000) (hc : ∀ x ∈ (pre0 ++ 34 :: (esc word ++ 34 :: rcs)), x < 0x110000) (hw : word.length ≤ 30), TelAt w 8 400 (.ref 98) [.ref P.X] (LexL w P line tl [] pe sg ep ++ rest) (TokPost w P rest line (pre0 ++ 34 :: (esc word ++ 34 :: rcs)) rcs word [] pe) z
noncomputable def w : World := eps1 ne_world (fun w => ∀ P rest line tl pe sg word rcs ep z, At0 w P rest line tl pe sg word rcs ep z)
noncomputable def P : LexP := eps1 ne_lexp (fun P => ∀ rest line tl pe sg word rcs ep z, At0 w P rest line tl pe sg word rcs ep z)
noncomputable def rest : Led := eps1 ne_led (fun rest => ∀ line tl pe sg word rcs ep z, At0 w P rest line tl pe sg word rcs ep z)
noncomputable def line : Int := eps1 ne_int (fun line => ∀ tl pe sg word rcs ep z, At0 w P rest line tl pe sg word rcs ep z)
noncomputable def tl : Tok := eps1 ne_tok (fun tl => ∀ pe sg word rcs ep z, At0 w P rest line tl pe sg word rcs ep z)
noncomputable def pe : Nat := eps1 ne_nat (fun pe => ∀ sg word rcs ep z, At0 w P rest line tl pe sg word rcs ep z)
noncomputable def sg : List Value := eps1 ne_list (fun sg => ∀ word rcs ep z, At0 w P rest line tl pe sg word rcs ep z)
noncomputable def word : List Nat := eps1 ne_list (fun word => ∀ rcs ep z, At0 w P rest line tl pe sg word rcs ep z)
noncomputable def rcs : List Nat := eps1 ne_list (fun rcs => ∀ ep z, At0 w P rest line tl pe sg word rcs ep z)
noncomputable def ep : Nat := eps1 ne_nat (fun ep => ∀ z, At0 w P rest line tl pe sg word rcs ep z)
noncomputable def v0 : TelV := eps1 telV_ne (fun z => At0 w P rest line tl pe sg word rcs ep z)
noncomputable abbrev h₀ := v0.h₀
noncomputable abbrev L := v0.L
noncomputable abbrev s := v0.s
theorem aux (O : LexOk P) (pre0 : List Nat) (hpre : pre0 = [] ∨ pre0 = [10]) (hr : OwnOff rest [P.G, P.dX]) (hsg : TextsAre sg ((pre0 ++ 34 :: (esc word ++ 34 :: rcs)).map fun c => [c])) (hs : (pre0 ++ 34 :: (esc word ++ 34 :: rcs)).length ≤ 1000) (hc : ∀ x ∈ (pre0 ++ 34 :: (esc word ++ 34 :: rcs)), x < 0x110000) (hw : word.length ≤ 30) :
  TelAt w 8 400 (.ref 98) [.ref P.X] (LexL w P line tl [] pe sg ep ++ rest) (TokPost w P rest line (pre0 ++ 34 :: (esc word ++ 34 :: rcs)) rcs word [] pe) v0 := by
  intro B F X N T C1 C2 C3 hk hd hu hret
  have O' := O
  obtain ⟨o1, o2, o3, n1, n2, n3, n4, n5, n6, n7, n8, n9⟩ := O'
  simp only [LexL, List.cons_append, List.nil_append] at N
  refine wpAny_call ?_
  k_dflt (first | (refine' code_defC ?k1 ?k2 ?k3 ?k4 ?k5 ?kA ?kF ?kK ?k6 ?k7 ?k8 ?k9 ?kB ?kD ?_ ?c2 ?c3 ?c4; (case kA => exact rfl); (case kF => exact rfl); (case kK => first | exact rfl | assumption); (case k1 => k_asm); (case k2 => k_asm); (case k3 => k_asm); (case k4 => k_asm); (case k5 => k_asm); (case k6 => k_is); (case k7 => k_is); (case k8 => k_room); (case k9 => first | exact BindsTo.of_eq rfl | exact binds_K (by k_in) rfl (by k_is) rfl rfl rfl | fail "k_enter: no rule for these arguments"); (case kB => exact rfl); (case kD => decide +kernel); (case c2 => exact rfl); (case c3 => exact rfl); (case c4 => exact rfl); k_whole; intro z9g z9L z9h z9tk z9cells z9FG z9F z9N z9Y z9B z9X z9T z9l1; (try k_lt z9l1); k_cells z9Y; (try simp only [List.cons_append, List.nil_append] at z9N); (try dsimp only); (try k_lift z9B); (try k_fold)) | cell_enter)
  rename_i g1 L1 hh1 FG1 FF1 NN1 B1 X1 T1
  (repeat' (first | (with_reducible refine if_ff ?_) | (with_reducible refine if_tt ?_) | (k_unfold; (try dsimp only)) | (k_end; wrow_close) | (cell_step; walk1) | (cell_step; dsimp only; walk1) | (leave1; walk_say "STEP leave1"; try dsimp only) | fail "no step"))
  rename_i q _ _ _ lq
  k_dflt (refine' ci_make ?vF ?vN ?vq ?_; (case vF => k_asm); (case vN => k_asm); (case vq => k_mem))
  intro I hI F8 N8 lI
  simp only [topA_nil, topA_cons, topA_app, Nat.max_le, Nat.zero_le, true_and, and_true] at lI
  rw [empty_is] at N8
  (try dsimp only)
  (repeat' (first | (with_reducible refine if_ff ?_) | (with_reducible refine if_tt ?_) | (k_unfold; (try dsimp only)) | (k_end; wrow_close) | (cell_step; walk1) | (cell_step; dsimp only; walk1) | (leave1; walk_say "STEP leave1"; try dsimp only) | fail "no step"))
  with_unfolding_all refine' owit_for ?_
  (repeat' (first | (with_reducible refine if_ff ?_) | (with_reducible refine if_tt ?_) | (k_unfold; (try dsimp only)) | (k_end; wrow_close) | (cell_step; walk1) | (cell_step; dsimp only; walk1) | (leave1; walk_say "STEP leave1"; try dsimp only) | fail "no step"))
  rename Fr _ _ _ _ => F9
  rename News _ _ _ _ => N9
  refine ci_iter (N9 _ (.head _)).1 ?_
  have hoff : OwnOff rest [P.G, P.dX] := hr
  have lI1 : @LT.lt Nat _ P.PB I := by omega
  have lq1 : @LT.lt Nat _ P.PB q := by omega
  refine OwitAt.intro ?_
  obtain ⟨TOT, hTOT⟩ : ∃ z, z = line + cnt (pre0 ++ 34 :: (esc word ++ 34 :: rcs)) := ⟨_, rfl⟩
  refine owit_abs (fun Q1 hQ1 => ?_)
  refine owit_ind (TokInv w P rest s I q g1 L1 pe TOT (fun pre => pre ++ 34 :: (esc word ++ 34 :: rcs))) ?zo ?so 64 _ ?io
  case zo => rintro s' ⟨_, _, _, _, _, _, _, _, _, _, hz, _⟩; exact Nat.not_lt_zero _ hz
  case io =>
    exact ⟨_, _, _, pre0, sg, line, tl, ep, _, rfl, by rcases hpre with rfl | rfl <;> simp, hpre, hsg, hs, hc, hTOT.symm, F9, ⟨⟨rfl, rfl, trivial⟩, _, congrArg (fun z => some (Value.str z _)) (show Str.ofString "" = tx [] from by decide +kernel)⟩, N9⟩
  case so =>
  rintro n0 s' ⟨h9, tk9, m9, pre, sg9, line9, tl9, ep9, ts9, rfl, hpn, hpe, hsg9, hs9, hc9, hcn9, F9', ⟨⟨hm1, hm2, _⟩, tt9, hm3⟩, N9'⟩
  have hM9 : Has m9 [(Str.ofString "self", .ref P.X), (Str.ofString "fiter", .ref I), (Str.ofString "token", .str (tx []) tt9)] := ⟨hm1, hm2, hm3, trivial⟩
  clear hsg hs hc
  try clear F9
  try clear N9
  rcases hpe with rfl | rfl
  rotate_left
  · rw [List.singleton_append] at hsg9 hs9 hc9 hcn9
    rw [List.map_cons] at hsg9
    cases hsg9 with
    | cons _ tc hsg1 =>
    rename_i sg1
    rw [List.length_cons] at hs9
    refine next_char w P O rest I q ts9 line9 tl9 [] pe 10 tc sg1 (34 :: (esc word ++ 34 :: rcs)) ep9 hoff lI1 lq1 hsg1 (by omega) (by decide) (fun x hx => hc9 x (.tail _ hx)) B1 F9' X1 N9' T1 C1 C2 C3 rfl (by ktr_room) (by ktr_units) ?_
    intro h1 tk1 tl1 ep1 F1 N1
    rw [if_pos rfl] at N1
    have F5 := fr_all0 hM9 F1
    clear F1 F9' N9'
    dsimp only [OwitTurn]
    simp only [LexL, List.cons_append, List.nil_append] at N1
    (repeat' (first | (with_reducible refine if_ff ?_) | (with_reducible refine if_tt ?_) | (k_unfold; (try dsimp only)) | (k_end; wrow_close) | (cell_step; walk1) | (cell_step; dsimp only; walk1) | (leave1; walk_say "STEP leave1"; try dsimp only) | fail "no step"))
    all_goals first | (exfalso; rename ((Builtin.Str.occurrences _ _ _ _ _).isEmpty = true) => hz; revert hz; decide +kernel; done) | skip
    rename Fr _ _ _ _ => FZ
    rename News _ _ _ _ => NZ
    rw [cnt_cons, if_pos rfl] at hcn9
    exact Hold.mk ⟨_, _, _, [], sg1, line9 + 1, tl1, ep1, ts9, rfl, by simp only [List.length_cons, List.length_nil] at hpn ⊢; omega, .inl rfl, hsg1, by rw [List.nil_append]; omega, fun x hx => hc9 x (.tail _ hx), by rw [List.nil_append]; omega, FZ, ⟨⟨rfl, rfl, trivial⟩, tt9, rfl⟩, NZ⟩
  rw [List.nil_append] at hsg9 hs9 hc9 hcn9
  rw [List.map_cons] at hsg9
  cases hsg9 with
  | cons _ tc hsg1 =>
  rename_i sg1
  rw [List.length_cons] at hs9
  refine next_char w P O rest I q ts9 line9 tl9 [] pe 34 tc sg1 (esc word ++ 34 :: rcs) ep9 hoff lI1 lq1 hsg1 (by omega) (by decide) (fun x hx => hc9 x (.tail _ hx)) B1 F9' X1 N9' T1 C1 C2 C3 rfl (by ktr_room) (by ktr_units) ?_
  intro h1 tk1 tl1 ep1 F1 N1
  rw [if_neg (by decide)] at N1
  have F5 := fr_all0 hM9 F1
  clear F1 F9' N9'
  simp only [LexL, List.cons_append, List.nil_append] at N1
  dsimp only [OwitTurn]
  (repeat' (first | (with_reducible refine if_ff ?_) | (with_reducible refine if_tt ?_) | (k_unfold; (try dsimp only)) | (k_end; wrow_close) | (cell_step; walk1) | (cell_step; dsimp only; walk1) | (leave1; walk_say "STEP leave1"; try dsimp only) | fail "no step"))
  all_goals first | (exfalso; rename ((Builtin.Str.occurrences _ _ _ _ _).isEmpty = false) => hz; revert hz; decide +kernel; done) | skip
  rename News _ _ _ _ => N2
  rename Fr _ _ _ _ => F2
  with_unfolding_all refine' owit_for ?_
  (repeat' (first | (with_reducible refine if_ff ?_) | (with_reducible refine if_tt ?_) | (k_unfold; (try dsimp only)) | (k_end; wrow_close) | (cell_step; walk1) | (cell_step; dsimp only; walk1) | (leave1; walk_say "STEP leave1"; try dsimp only) | fail "no step"))
  refine ci_iter (N2 _ (.head _)).1 ?_
  refine OwitAt.intro ?_
  try clear F5
  refine owit_abs (fun Q2 hQ2 => ?_)
  refine owit_ind (TokInv2 w P rest s I q g1 L1 pe TOT (word) (fun w2 => esc w2 ++ 34 :: rcs)) ?zero ?step 64 _ ?init
  case zero => rintro s' ⟨_, _, _, _, _, _, _, _, _, _, _, hz, _⟩; exact Nat.not_lt_zero _ hz
  case init =>
    exact ⟨_, _, _, word, [], sg1, line9, tl1, ep1, ts9, rfl, by omega, rfl, hsg1, by omega, fun x hx => hc9 x (.tail _ hx), by rw [cnt_cons, if_neg (by decide), Int.zero_add] at hcn9; exact hcn9, F2, ⟨⟨rfl, rfl, trivial⟩, tt9, rfl⟩, N2⟩
  case step =>
    rintro n s' ⟨h3, tk3, m3, w2, dn, sg2, line2, tl2, ep2, ts, rfl, hwn, hwd, hsg2, hl2, hc2, hcn, F3, ⟨⟨hM1, hM2, _⟩, tt, hM3⟩, N3⟩
    have hM : Has m3 [(Str.ofString "self", .ref P.X), (Str.ofString "fiter", .ref I), (Str.ofString "token", .str (tx dn) tt)] := ⟨hM1, hM2, hM3, trivial⟩
    try clear F9
    try clear N9
    try clear F1
    try clear N1
    try clear F2
    try clear N2
    cases w2 with
    | nil =>
      have e0 : esc [] ++ 34 :: rcs = 34 :: rcs := rfl
      rw [e0] at hsg2 hl2 hc2 hcn
      rw [List.map_cons] at hsg2
      cases hsg2 with
      | cons _ tc2 hsg3 =>
      rename_i sg3
      rw [List.length_cons] at hl2
      refine next_char w P O rest I q ts line2 tl2 [] pe 34 tc2 sg3 rcs ep2 hoff lI1 lq1 hsg3 (by omega) (by decide) (fun x hx => hc2 x (.tail _ hx)) B1 F3 X1 N3 T1 C1 C2 C3 rfl (by ktr_room) (by ktr_units) ?_
      intro h4 tk4 tl4 ep4 F4 N4
      rw [if_neg (by decide)] at N4
      have F5 := fr_all0 hM F4
      clear F3 F4
      dsimp only [OwitTurn]
      simp only [LexL, List.cons_append, List.nil_append] at N4
      (repeat' (first | (with_reducible refine if_ff ?_) | (with_reducible refine if_tt ?_) | (k_unfold; (try dsimp only)) | (k_end; wrow_close) | (cell_step; walk1) | (cell_step; dsimp only; walk1) | (leave1; walk_say "STEP leave1"; try dsimp only) | fail "no step"))
      rw [hQ2]
      (try dsimp only)
      rw [hQ1]
      (try dsimp only)
      (repeat' (first | (with_reducible refine if_ff ?_) | (with_reducible refine if_tt ?_) | (k_unfold; (try dsimp only)) | (k_end; wrow_close) | (cell_step; walk1) | (cell_step; dsimp only; walk1) | (leave1; walk_say "STEP leave1"; try dsimp only) | fail "no step"))
      rename Fr h₀ L _ _ => F1
      rename News h₀ L _ _ => N1
      have hdn : dn = word := by rw [hwd, List.append_nil]
      rw [cnt_cons, if_neg (by decide), Int.zero_add] at hcn
      exact hret _ _ _ (LexL w P line2 tl4 [] pe sg3 ep4 ++ rest) F1 (news_tail (news_tail N1)) ⟨tt, line2, tl4, sg3, ep4, congrArg (fun z => Value.str (tx z) tt) hdn, rfl, hsg3, hcn.trans hTOT⟩
    | cons c w3 =>
      have off2 := off2_of (I := I) (q := q) (a := ciO (.ref q) (.str Str.empty ts)) (b := methodObj (.ref 91) (.ref P.X)) hoff (by omega) (by omega) (by omega) (by omega)
      have hdl : dn.length ≤ 30 := by
        have := congrArg List.length hwd
        rw [List.length_append] at this
        omega
      by_cases hce : c = 34 ∨ c = 92
      · have e0 : esc (c :: w3) ++ 34 :: rcs = 92 :: c :: (esc w3 ++ 34 :: rcs) := by
          unfold esc
          rw [List.flatMap_cons, if_pos hce]
          rfl
        rw [e0] at hsg2 hl2 hc2 hcn
        rw [List.map_cons, List.map_cons] at hsg2
        cases hsg2 with
        | cons _ tc2 hsg3 =>
        cases hsg3 with
        | cons _ tc3 hsg4 =>
        rename_i sg4
        rw [List.length_cons, List.length_cons] at hl2
        have hc9 : c < 0x110000 := hc2 c (.tail _ (.head _))
        have hc8 : ∀ x ∈ esc w3 ++ 34 :: rcs, x < 0x110000 := fun x hx => hc2 x (.tail _ (.tail _ hx))
        refine next_char w P O rest I q ts line2 tl2 [] pe 92 tc2 (.str (tx [c]) tc3 :: sg4) (c :: (esc w3 ++ 34 :: rcs)) ep2 hoff lI1 lq1 (.cons [c] tc3 hsg4) (by rw [List.length_cons]; omega) (by decide) (fun x hx => hc2 x (.tail _ hx)) B1 F3 X1 N3 T1 C1 C2 C3 rfl (by ktr_room) (by ktr_units) ?_
        intro h4 tk4 tl4 ep4 F4 N4
        rw [if_neg (by decide)] at N4
        have F5 := fr_all0 hM F4
        clear F3 F4
        dsimp only [OwitTurn]
        simp only [LexL, List.cons_append, List.nil_append] at N4
        (repeat' (first | (with_reducible refine if_ff ?_) | (with_reducible refine if_tt ?_) | (k_unfold; (try dsimp only)) | (k_end; wrow_close) | (cell_step; walk1) | (cell_step; dsimp only; walk1) | (leave1; walk_say "STEP leave1"; try dsimp only) | fail "no step"))
        all_goals first | (exfalso; rename ((_ == Str.ofString "\"") = true) => hz; revert hz; decide +kernel; done) | (exfalso; rename ((_ == Str.ofString "\\") = false) => hz; revert hz; decide +kernel; done) | skip
        rename News _ _ _ _ => N6
        have N5 : News g1 L1 _ ((I, ciO (.ref q) (.str Str.empty ts)) :: (q, methodObj (.ref 91) (.ref P.X)) :: (LexL w P line2 tl4 [] pe (.str (tx [c]) tc3 :: sg4) ep4 ++ rest)) := N6
        have N7 := news_perm1 N5
        (refine' tel_use ?tH ?tB ?tF ?tX ?tN ?tT ?tC1 ?tC2 ?tC3 ?tk ?td ?tu ?_; (case tB => k_asm); (case tF => k_asm); (case tX => k_asm); (case tN => k_asm); (case tT => k_asm); (case tC1 => assumption); (case tC2 => assumption); (case tC3 => assumption); (case tk => first | exact rfl | assumption); (case tH => exact (read_char w P O _ line2 tl4 [] pe c tc3 sg4 (esc w3 ++ 34 :: rcs) ep4 off2 hsg4 (by omega) hc9 hc8).tel); (case td => ktr_room); (case tu => ktr_units))
        rintro v9 h9 tk9 news9 F9 N9 ⟨tl9, ep9, rfl, rfl⟩
        have N8 := news_perm2 N9
        clear N9 N7 N5 N6
        simp only [LexL, List.cons_append, List.nil_append] at N8
        (try dsimp only)
        (repeat' (first | (with_reducible refine if_ff ?_) | (with_reducible refine if_tt ?_) | (k_unfold; (try dsimp only)) | (k_end; wrow_close) | (cell_step; walk1) | (cell_step; dsimp only; walk1) | (leave1; walk_say "STEP leave1"; try dsimp only) | fail "no step"))
        rename Fr _ _ _ _ => FZ
        rename News _ _ _ _ => NZ
        have ecn : (if c = 10 then line2 + 1 else line2) + cnt (esc w3 ++ 34 :: rcs) = TOT := by
          rw [cnt_cons, if_neg (by decide), Int.zero_add, cnt_cons] at hcn
          rw [← hcn]
          by_cases h10 : c = 10 <;> simp only [h10, if_true, if_false] <;> omega
        refine Hold.mk ⟨_, _, _, w3, dn ++ [c], sg4, _, tl9, ep9, ts, rfl, by simp only [List.length_cons] at hwn; omega, by rw [hwd, List.append_assoc]; rfl, hsg4, by omega, hc8, ecn, FZ, ⟨⟨rfl, rfl, trivial⟩, _, congrArg (fun z => some (Value.str z _)) (tx_append dn [c])⟩, NZ⟩
      · have hc3 : c ≠ 34 := fun e => hce (.inl e)
        have hc4 : c ≠ 92 := fun e => hce (.inr e)
        have e0 : esc (c :: w3) ++ 34 :: rcs = c :: (esc w3 ++ 34 :: rcs) := by
          unfold esc
          rw [List.flatMap_cons, if_neg hce]
          rfl
        rw [e0] at hsg2 hl2 hc2 hcn
        rw [List.map_cons] at hsg2
        cases hsg2 with
        | cons _ tc3 hsg4 =>
        rename_i sg4
        rw [List.length_cons] at hl2
        have hc9 : c < 0x110000 := hc2 c (.head _)
        have hc8 : ∀ x ∈ esc w3 ++ 34 :: rcs, x < 0x110000 := fun x hx => hc2 x (.tail _ hx)
        refine next_char w P O rest I q ts line2 tl2 [] pe c tc3 sg4 (esc w3 ++ 34 :: rcs) ep2 hoff lI1 lq1 hsg4 (by omega) hc9 hc8 B1 F3 X1 N3 T1 C1 C2 C3 rfl (by ktr_room) (by ktr_units) ?_
        intro h4 tk4 tl4 ep4 F4 N4
        have F5 := fr_all0 hM F4
        clear F3 F4
        dsimp only [OwitTurn]
        simp only [LexL, List.cons_append, List.nil_append] at N4
        (repeat' (first | (with_reducible refine if_ff ?_) | (with_reducible refine if_tt ?_) | (k_unfold; (try dsimp only)) | (k_end; wrow_close) | (cell_step; walk1) | (cell_step; dsimp only; walk1) | (leave1; walk_say "STEP leave1"; try dsimp only) | fail "no step"))
        all_goals first | (exfalso; rename ((_ == Str.ofString "\"") = true) => hz; rw [qt_is] at hz; exact hc3 (one_is.mp (eq_of_beq hz)); done) | (exfalso; rename ((_ == Str.ofString "\\") = true) => hz; rw [bs_is] at hz; exact hc4 (one_is.mp (eq_of_beq hz)); done) | skip
        rename Fr _ _ _ _ => FZ
        rename News _ _ _ _ => NZ
        have ecn : (if c = 10 then line2 + 1 else line2) + cnt (esc w3 ++ 34 :: rcs) = TOT := by
          rw [cnt_cons] at hcn
          rw [← hcn]
          by_cases h10 : c = 10 <;> simp only [h10, if_true, if_false] <;> omega
        exact Hold.mk ⟨_, _, _, w3, dn ++ [c], sg4, _, tl4, ep4, ts, rfl, by simp only [List.length_cons] at hwn; omega, by rw [hwd, List.append_assoc]; rfl, hsg4, by omega, hc8, ecn, FZ, ⟨⟨rfl, rfl, trivial⟩, _, congrArg (fun z => some (Value.str z _)) (tx_append dn [c])⟩, NZ⟩
end Vget_quoted
theorem get_quoted (w : World) (P : LexP) (O : LexOk P) (rest : Led) (line : Int) (tl : Tok) (pe : Nat) (sg : List Value) (word rcs : List Nat) (ep : Nat) (pre0 : List Nat) (hpre : pre0 = [] ∨ pre0 = [10]) (hr : OwnOff rest [P.G, P.dX]) (hsg : TextsAre sg ((pre0 ++ 34 :: (esc word ++ 34 :: rcs)).map fun c => [c])) (hs : (pre0 ++ 34 :: (esc word ++ 34 :: rcs)).length ≤ 1000) (hc : ∀ x ∈ (pre0 ++ 34 :: (esc word ++ 34 :: rcs)), x < 0x110000) (hw : word.length ≤ 30) :
  Tel w 8 400 (.ref 98) [.ref P.X] (LexL w P line tl [] pe sg ep ++ rest) (TokPost w P rest line (pre0 ++ 34 :: (esc word ++ 34 :: rcs)) rcs word [] pe) := tel_of fun z => (show ∀ w P rest line tl pe sg word rcs ep z, Vget_quoted.At0 w P rest line tl pe sg word rcs ep z from (eps1_all (eps1_all (eps1_all (eps1_all (eps1_all (eps1_all (eps1_all (eps1_all (eps1_all (eps1_all (eps1_all @Vget_quoted.aux)))))))))))) w P rest line tl pe sg word rcs ep z O pre0 hpre hr hsg hs hc hw
end
section
namespace Vget_plain
noncomputable def At0 (w : World) (P : LexP) (rest : Led) (line : Int) (tl : Tok) (pe : Nat) (sg : List Value) (c1 : Nat) (w1 : List Nat) (rcs : List Nat) (ep : Nat) (z : TelV) : Prop := ∀ (O : LexOk P) (pre0 : List Nat) (hpre : pre0 = [] ∨ pre0 = [10]) (hr : OwnOff rest [P.G, P.dX]) (hsg : TextsAre sg ((pre0 ++ 92 :: c1 :: (bsl w1 ++ 10 :: rcs)).map fun c => [c])) (hs : (pre0 ++ 92 :: c1 :: (bsl w1 ++ 10 :: rcs)).length ≤ 1000) (hc : ∀ x ∈ (pre0 ++ 92 :: c1 :: (bsl w1 ++ 10 :: rcs)), x < 0x110000) (hw : w1.length ≤ 30), TelAt w 8 400 (.ref 98) [.ref P.X] (LexL w P line tl [] pe sg ep ++ rest) (TokPost w P rest line (pre0 ++ 92 :: c1 :: (bsl w1 ++ 10 :: rcs)) rcs (c1 :: w1) [] pe) z
noncomputable def w : World := eps1 ne_world (fun w => ∀ P rest line tl pe sg c1 w1 rcs ep z, At0 w P rest line tl pe sg c1 w1 rcs ep z)
noncomputable def P : LexP := eps1 ne_lexp (fun P => ∀ rest line tl pe sg c1 w1 rcs ep z, At0 w P rest line tl pe sg c1 w1 rcs ep z)
noncomputable def rest : Led := eps1 ne_led (fun rest => ∀ line tl pe sg c1 w1 rcs ep z, At0 w P rest line tl pe sg c1 w1 rcs ep z)
noncomputable def line : Int := eps1 ne_int (fun line => ∀ tl pe sg c1 w1 rcs ep z, At0 w P rest line tl pe sg c1 w1 rcs ep z)
noncomputable def tl : Tok := eps1 ne_tok (fun tl => ∀ pe sg c1 w1 rcs ep z, At0 w P rest line tl pe sg c1 w1 rcs ep z)
noncomputable def pe : Nat := eps1 ne_nat (fun pe => ∀ sg c1 w1 rcs ep z, At0 w P rest line tl pe sg c1 w1 rcs ep z)
noncomputable def sg : List Value := eps1 ne_list (fun sg => ∀ c1 w1 rcs ep z, At0 w P rest line tl pe sg c1 w1 rcs ep z)
noncomputable def c1 : Nat := eps1 ne_nat (fun c1 => ∀ w1 rcs ep z, At0 w P rest line tl pe sg c1 w1 rcs ep z)
noncomputable def w1 : List Nat := eps1 ne_list (fun w1 => ∀ rcs ep z, At0 w P rest line tl pe sg c1 w1 rcs ep z)
noncomputable def rcs : List Nat := eps1 ne_list (fun rcs => ∀ ep z, At0 w P rest line tl pe sg c1 w1 rcs ep z)
noncomputable def ep : Nat := eps1 ne_nat (fun ep => ∀ z, At0 w P rest line tl pe sg c1 w1 rcs ep z)
noncomputable def v0 : TelV := eps1 telV_ne (fun z => At0 w P rest line tl pe sg c1 w1 rcs ep z)
noncomputable abbrev h₀ := v0.h₀
noncomputable abbrev L := v0.L
noncomputable abbrev s := v0.s
theorem aux (O : LexOk P) (pre0 : List Nat) (hpre : pre0 = [] ∨ pre0 = [10]) (hr : OwnOff rest [P.G, P.dX]) (hsg : TextsAre sg ((pre0 ++ 92 :: c1 :: (bsl w1 ++ 10 :: rcs)).map fun c => [c])) (hs : (pre0 ++ 92 :: c1 :: (bsl w1 ++ 10 :: rcs)).length ≤ 1000) (hc : ∀ x ∈ (pre0 ++ 92 :: c1 :: (bsl w1 ++ 10 :: rcs)), x < 0x110000) (hw : w1.length ≤ 30) :
  TelAt w 8 400 (.ref 98) [.ref P.X] (LexL w P line tl [] pe sg ep ++ rest) (TokPost w P rest line (pre0 ++ 92 :: c1 :: (bsl w1 ++ 10 :: rcs)) rcs (c1 :: w1) [] pe) v0 := by
  intro B F X N T C1 C2 C3 hk hd hu hret
  have O' := O
  obtain ⟨o1, o2, o3, n1, n2, n3, n4, n5, n6, n7, n8, n9⟩ := O'
  simp only [LexL, List.cons_append, List.nil_append] at N
  refine wpAny_call ?_
  k_dflt (first | (refine' code_defC ?k1 ?k2 ?k3 ?k4 ?k5 ?kA ?kF ?kK ?k6 ?k7 ?k8 ?k9 ?kB ?kD ?_ ?c2 ?c3 ?c4; (case kA => exact rfl); (case kF => exact rfl); (case kK => first | exact rfl | assumption); (case k1 => k_asm); (case k2 => k_asm); (case k3 => k_asm); (case k4 => k_asm); (case k5 => k_asm); (case k6 => k_is); (case k7 => k_is); (case k8 => k_room); (case k9 => first | exact BindsTo.of_eq rfl | exact binds_K (by k_in) rfl (by k_is) rfl rfl rfl | fail "k_enter: no rule for these arguments"); (case kB => exact rfl); (case kD => decide +kernel); (case c2 => exact rfl); (case c3 => exact rfl); (case c4 => exact rfl); k_whole; intro z9g z9L z9h z9tk z9cells z9FG z9F z9N z9Y z9B z9X z9T z9l1; (try k_lt z9l1); k_cells z9Y; (try simp only [List.cons_append, List.nil_append] at z9N); (try dsimp only); (try k_lift z9B); (try k_fold)) | cell_enter)
  rename_i g1 L1 hh1 FG1 FF1 NN1 B1 X1 T1
  (repeat' (first | (with_reducible refine if_ff ?_) | (with_reducible refine if_tt ?_) | (k_unfold; (try dsimp only)) | (k_end; wrow_close) | (cell_step; walk1) | (cell_step; dsimp only; walk1) | (leave1; walk_say "STEP leave1"; try dsimp only) | fail "no step"))
  rename_i q _ _ _ lq
  k_dflt (refine' ci_make ?vF ?vN ?vq ?_; (case vF => k_asm); (case vN => k_asm); (case vq => k_mem))
  intro I hI F8 N8 lI
  simp only [topA_nil, topA_cons, topA_app, Nat.max_le, Nat.zero_le, true_and, and_true] at lI
  rw [empty_is] at N8
  (try dsimp only)
  (repeat' (first | (with_reducible refine if_ff ?_) | (with_reducible refine if_tt ?_) | (k_unfold; (try dsimp only)) | (k_end; wrow_close) | (cell_step; walk1) | (cell_step; dsimp only; walk1) | (leave1; walk_say "STEP leave1"; try dsimp only) | fail "no step"))
  with_unfolding_all refine' owit_for ?_
  (repeat' (first | (with_reducible refine if_ff ?_) | (with_reducible refine if_tt ?_) | (k_unfold; (try dsimp only)) | (k_end; wrow_close) | (cell_step; walk1) | (cell_step; dsimp only; walk1) | (leave1; walk_say "STEP leave1"; try dsimp only) | fail "no step"))
  rename Fr _ _ _ _ => F9
  rename News _ _ _ _ => N9
  refine ci_iter (N9 _ (.head _)).1 ?_
  have hoff : OwnOff rest [P.G, P.dX] := hr
  have lI1 : @LT.lt Nat _ P.PB I := by omega
  have lq1 : @LT.lt Nat _ P.PB q := by omega
  refine OwitAt.intro ?_
  obtain ⟨TOT, hTOT⟩ : ∃ z, z = line + cnt (pre0 ++ 92 :: c1 :: (bsl w1 ++ 10 :: rcs)) := ⟨_, rfl⟩
  refine owit_abs (fun Q1 hQ1 => ?_)
  refine owit_ind (TokInv w P rest s I q g1 L1 pe TOT (fun pre => pre ++ 92 :: c1 :: (bsl w1 ++ 10 :: rcs))) ?zo ?so 64 _ ?io
  case zo => rintro s' ⟨_, _, _, _, _, _, _, _, _, _, hz, _⟩; exact Nat.not_lt_zero _ hz
  case io =>
    exact ⟨_, _, _, pre0, sg, line, tl, ep, _, rfl, by rcases hpre with rfl | rfl <;> simp, hpre, hsg, hs, hc, hTOT.symm, F9, ⟨⟨rfl, rfl, trivial⟩, _, congrArg (fun z => some (Value.str z _)) (show Str.ofString "" = tx [] from by decide +kernel)⟩, N9⟩
  case so =>
  rintro n0 s' ⟨h9, tk9, m9, pre, sg9, line9, tl9, ep9, ts9, rfl, hpn, hpe, hsg9, hs9, hc9, hcn9, F9', ⟨⟨hm1, hm2, _⟩, tt9, hm3⟩, N9'⟩
  have hM9 : Has m9 [(Str.ofString "self", .ref P.X), (Str.ofString "fiter", .ref I), (Str.ofString "token", .str (tx []) tt9)] := ⟨hm1, hm2, hm3, trivial⟩
  clear hsg hs hc
  try clear F9
  try clear N9
  rcases hpe with rfl | rfl
  rotate_left
  · rw [List.singleton_append] at hsg9 hs9 hc9 hcn9
    rw [List.map_cons] at hsg9
    cases hsg9 with
    | cons _ tc hsg1 =>
    rename_i sg1
    rw [List.length_cons] at hs9
    refine next_char w P O rest I q ts9 line9 tl9 [] pe 10 tc sg1 (92 :: c1 :: (bsl w1 ++ 10 :: rcs)) ep9 hoff lI1 lq1 hsg1 (by omega) (by decide) (fun x hx => hc9 x (.tail _ hx)) B1 F9' X1 N9' T1 C1 C2 C3 rfl (by ktr_room) (by ktr_units) ?_
    intro h1 tk1 tl1 ep1 F1 N1
    rw [if_pos rfl] at N1
    have F5 := fr_all0 hM9 F1
    clear F1 F9' N9'
    dsimp only [OwitTurn]
    simp only [LexL, List.cons_append, List.nil_append] at N1
    (repeat' (first | (with_reducible refine if_ff ?_) | (with_reducible refine if_tt ?_) | (k_unfold; (try dsimp only)) | (k_end; wrow_close) | (cell_step; walk1) | (cell_step; dsimp only; walk1) | (leave1; walk_say "STEP leave1"; try dsimp only) | fail "no step"))
    all_goals first | (exfalso; rename ((Builtin.Str.occurrences _ _ _ _ _).isEmpty = true) => hz; revert hz; decide +kernel; done) | skip
    rename Fr _ _ _ _ => FZ
    rename News _ _ _ _ => NZ
    rw [cnt_cons, if_pos rfl] at hcn9
    exact Hold.mk ⟨_, _, _, [], sg1, line9 + 1, tl1, ep1, ts9, rfl, by simp only [List.length_cons, List.length_nil] at hpn ⊢; omega, .inl rfl, hsg1, by rw [List.nil_append]; omega, fun x hx => hc9 x (.tail _ hx), by rw [List.nil_append]; omega, FZ, ⟨⟨rfl, rfl, trivial⟩, tt9, rfl⟩, NZ⟩
  rw [List.nil_append] at hsg9 hs9 hc9 hcn9
  rw [List.map_cons] at hsg9
  cases hsg9 with
  | cons _ tc hsg1 =>
  rename_i sg1
  rw [List.length_cons] at hs9
  cases hsg1 with
  | cons _ tc1 hsg0 =>
  rename_i sg0
  rw [List.length_cons] at hs9
  have hc91 : c1 < 0x110000 := hc9 c1 (.tail _ (.head _))
  have hc92 : ∀ x ∈ bsl w1 ++ 10 :: rcs, x < 0x110000 := fun x hx => hc9 x (.tail _ (.tail _ hx))
  refine next_char w P O rest I q ts9 line9 tl9 [] pe 92 tc (.str (tx [c1]) tc1 :: sg0) (c1 :: (bsl w1 ++ 10 :: rcs)) ep9 hoff lI1 lq1 (.cons [c1] tc1 hsg0) (by rw [List.length_cons]; omega) (by decide) (fun x hx => hc9 x (.tail _ hx)) B1 F9' X1 N9' T1 C1 C2 C3 rfl (by ktr_room) (by ktr_units) ?_
  intro h1 tk1 tl1 ep1 F1 N1
  rw [if_neg (by decide)] at N1
  have F5 := fr_all0 hM9 F1
  clear F1 F9' N9'
  simp only [LexL, List.cons_append, List.nil_append] at N1
  dsimp only [OwitTurn]
  (repeat' (first | (with_reducible refine if_ff ?_) | (with_reducible refine if_tt ?_) | (k_unfold; (try dsimp only)) | (k_end; wrow_close) | (cell_step; walk1) | (cell_step; dsimp only; walk1) | (leave1; walk_say "STEP leave1"; try dsimp only) | fail "no step"))
  all_goals first | (exfalso; rename ((Builtin.Str.occurrences _ _ _ _ _).isEmpty = false) => hz; revert hz; decide +kernel; done) | (exfalso; rename ((_ == Str.ofString "\"") = true) => hz; revert hz; decide +kernel; done) | (exfalso; rename ((_ == Str.ofString "\\") = false) => hz; revert hz; decide +kernel; done) | skip
  rename News _ _ _ _ => N6
  have off2' := off2_of (I := I) (q := q) (a := ciO (.ref q) (.str Str.empty ts9)) (b := methodObj (.ref 91) (.ref P.X)) hoff (by omega) (by omega) (by omega) (by omega)
  have N5 : News g1 L1 _ ((I, ciO (.ref q) (.str Str.empty ts9)) :: (q, methodObj (.ref 91) (.ref P.X)) :: (LexL w P line9 tl1 [] pe (.str (tx [c1]) tc1 :: sg0) ep1 ++ rest)) := N6
  have N7 := news_perm1 N5
  (refine' tel_use ?tH ?tB ?tF ?tX ?tN ?tT ?tC1 ?tC2 ?tC3 ?tk ?td ?tu ?_; (case tB => k_asm); (case tF => k_asm); (case tX => k_asm); (case tN => k_asm); (case tT => k_asm); (case tC1 => assumption); (case tC2 => assumption); (case tC3 => assumption); (case tk => first | exact rfl | assumption); (case tH => exact (read_char w P O _ line9 tl1 [] pe c1 tc1 sg0 (bsl w1 ++ 10 :: rcs) ep1 off2' hsg0 (by omega) hc91 hc92).tel); (case td => ktr_room); (case tu => ktr_units))
  rintro v8 h8 tk8 news8 F8 N8 ⟨tl8, ep8, rfl, rfl⟩
  have N0 := news_perm2 N8
  try clear N8
  try clear N7
  try clear N5
  try clear N6
  simp only [LexL, List.cons_append, List.nil_append] at N0
  (try dsimp only)
  (repeat' (first | (with_reducible refine if_ff ?_) | (with_reducible refine if_tt ?_) | (k_unfold; (try dsimp only)) | (k_end; wrow_close) | (cell_step; walk1) | (cell_step; dsimp only; walk1) | (leave1; walk_say "STEP leave1"; try dsimp only) | fail "no step"))
  rename News _ _ _ _ => N2
  rename Fr _ _ _ _ => F2
  with_unfolding_all refine' owit_for ?_
  (repeat' (first | (with_reducible refine if_ff ?_) | (with_reducible refine if_tt ?_) | (k_unfold; (try dsimp only)) | (k_end; wrow_close) | (cell_step; walk1) | (cell_step; dsimp only; walk1) | (leave1; walk_say "STEP leave1"; try dsimp only) | fail "no step"))
  refine ci_iter (N2 _ (.head _)).1 ?_
  refine OwitAt.intro ?_
  try clear F5
  refine owit_abs (fun Q2 hQ2 => ?_)
  refine owit_ind (TokInv2 w P rest s I q g1 L1 pe TOT (c1 :: w1) (fun w2 => bsl w2 ++ 10 :: rcs)) ?zero ?step 64 _ ?init
  case zero => rintro s' ⟨_, _, _, _, _, _, _, _, _, _, _, hz, _⟩; exact Nat.not_lt_zero _ hz
  case init =>
    have ecn : (if c1 = 10 then line9 + 1 else line9) + cnt (bsl w1 ++ 10 :: rcs) = TOT := by
      rw [cnt_cons, if_neg (by decide), Int.zero_add, cnt_cons] at hcn9
      rw [← hcn9]
      by_cases h10 : c1 = 10 <;> simp only [h10, if_true, if_false] <;> omega
    exact ⟨_, _, _, w1, [c1], sg0, _, tl8, ep8, ts9, rfl, by omega, rfl, hsg0, by omega, hc92, ecn, F2, ⟨⟨rfl, rfl, trivial⟩, _, congrArg (fun z => some (Value.str z _)) (tx_append [] [c1])⟩, N2⟩
  case step =>
    rintro n s' ⟨h3, tk3, m3, w2, dn, sg2, line2, tl2, ep2, ts, rfl, hwn, hwd, hsg2, hl2, hc2, hcn, F3, ⟨⟨hM1, hM2, _⟩, tt, hM3⟩, N3⟩
    have hM : Has m3 [(Str.ofString "self", .ref P.X), (Str.ofString "fiter", .ref I), (Str.ofString "token", .str (tx dn) tt)] := ⟨hM1, hM2, hM3, trivial⟩
    try clear F2
    try clear N2
    try clear N0
    try clear F8
    cases w2 with
    | nil =>
      have e0 : bsl [] ++ 10 :: rcs = 10 :: rcs := rfl
      rw [e0] at hsg2 hl2 hc2 hcn
      rw [List.map_cons] at hsg2
      cases hsg2 with
      | cons _ tc2 hsg3 =>
      rename_i sg3
      rw [List.length_cons] at hl2
      refine next_char w P O rest I q ts line2 tl2 [] pe 10 tc2 sg3 rcs ep2 hoff lI1 lq1 hsg3 (by omega) (by decide) (fun x hx => hc2 x (.tail _ hx)) B1 F3 X1 N3 T1 C1 C2 C3 rfl (by ktr_room) (by ktr_units) ?_
      intro h4 tk4 tl4 ep4 F4 N4
      rw [if_pos rfl] at N4
      have F5 := fr_all0 hM F4
      clear F3 F4
      dsimp only [OwitTurn]
      simp only [LexL, List.cons_append, List.nil_append] at N4
      (repeat' (first | (with_reducible refine if_ff ?_) | (with_reducible refine if_tt ?_) | (k_unfold; (try dsimp only)) | (k_end; wrow_close) | (cell_step; walk1) | (cell_step; dsimp only; walk1) | (leave1; walk_say "STEP leave1"; try dsimp only) | fail "no step"))
      all_goals first | (exfalso; rename ((Builtin.Str.occurrences _ _ _ _ _).isEmpty = true) => hz; revert hz; decide +kernel; done) | skip
      rw [hQ2]
      (try dsimp only)
      rw [hQ1]
      (try dsimp only)
      (repeat' (first | (with_reducible refine if_ff ?_) | (with_reducible refine if_tt ?_) | (k_unfold; (try dsimp only)) | (k_end; wrow_close) | (cell_step; walk1) | (cell_step; dsimp only; walk1) | (leave1; walk_say "STEP leave1"; try dsimp only) | fail "no step"))
      rename Fr h₀ L _ _ => F1
      rename News h₀ L _ _ => N1
      have hdn : dn = c1 :: w1 := by rw [hwd, List.append_nil]
      rw [cnt_cons, if_pos rfl] at hcn
      exact hret _ _ _ (LexL w P (line2 + 1) tl4 [] pe sg3 ep4 ++ rest) F1 (news_tail (news_tail N1)) ⟨tt, line2 + 1, tl4, sg3, ep4, congrArg (fun z => Value.str (tx z) tt) hdn, rfl, hsg3, by omega⟩
    | cons c w3 =>
      have off2 := off2_of (I := I) (q := q) (a := ciO (.ref q) (.str Str.empty ts)) (b := methodObj (.ref 91) (.ref P.X)) hoff (by omega) (by omega) (by omega) (by omega)
      have hdl : dn.length ≤ 31 := by
        have := congrArg List.length hwd
        rw [List.length_append, List.length_cons] at this
        omega
      have e0 : bsl (c :: w3) ++ 10 :: rcs = 92 :: c :: (bsl w3 ++ 10 :: rcs) := rfl
      rw [e0] at hsg2 hl2 hc2 hcn
      rw [List.map_cons, List.map_cons] at hsg2
      cases hsg2 with
      | cons _ tc2 hsg3 =>
      cases hsg3 with
      | cons _ tc3 hsg4 =>
      rename_i sg4
      rw [List.length_cons, List.length_cons] at hl2
      have hc9' : c < 0x110000 := hc2 c (.tail _ (.head _))
      have hc8 : ∀ x ∈ bsl w3 ++ 10 :: rcs, x < 0x110000 := fun x hx => hc2 x (.tail _ (.tail _ hx))
      refine next_char w P O rest I q ts line2 tl2 [] pe 92 tc2 (.str (tx [c]) tc3 :: sg4) (c :: (bsl w3 ++ 10 :: rcs)) ep2 hoff lI1 lq1 (.cons [c] tc3 hsg4) (by rw [List.length_cons]; omega) (by decide) (fun x hx => hc2 x (.tail _ hx)) B1 F3 X1 N3 T1 C1 C2 C3 rfl (by ktr_room) (by ktr_units) ?_
      intro h4 tk4 tl4 ep4 F4 N4
      rw [if_neg (by decide)] at N4
      have F5 := fr_all0 hM F4
      clear F3 F4
      dsimp only [OwitTurn]
      simp only [LexL, List.cons_append, List.nil_append] at N4
      (repeat' (first | (with_reducible refine if_ff ?_) | (with_reducible refine if_tt ?_) | (k_unfold; (try dsimp only)) | (k_end; wrow_close) | (cell_step; walk1) | (cell_step; dsimp only; walk1) | (leave1; walk_say "STEP leave1"; try dsimp only) | fail "no step"))
      all_goals first | (exfalso; rename ((Builtin.Str.occurrences _ _ _ _ _).isEmpty = false) => hz; revert hz; decide +kernel; done) | (exfalso; rename ((_ == Str.ofString "\\") = false) => hz; revert hz; decide +kernel; done) | skip
      rename News _ _ _ _ => N6
      have N5 : News g1 L1 _ ((I, ciO (.ref q) (.str Str.empty ts)) :: (q, methodObj (.ref 91) (.ref P.X)) :: (LexL w P line2 tl4 [] pe (.str (tx [c]) tc3 :: sg4) ep4 ++ rest)) := N6
      have N7 := news_perm1 N5
      (refine' tel_use ?tH ?tB ?tF ?tX ?tN ?tT ?tC1 ?tC2 ?tC3 ?tk ?td ?tu ?_; (case tB => k_asm); (case tF => k_asm); (case tX => k_asm); (case tN => k_asm); (case tT => k_asm); (case tC1 => assumption); (case tC2 => assumption); (case tC3 => assumption); (case tk => first | exact rfl | assumption); (case tH => exact (read_char w P O _ line2 tl4 [] pe c tc3 sg4 (bsl w3 ++ 10 :: rcs) ep4 off2 hsg4 (by omega) hc9' hc8).tel); (case td => ktr_room); (case tu => ktr_units))
      rintro v9 h9 tk9 news9 F9 N9 ⟨tl9, ep9, rfl, rfl⟩
      have N8 := news_perm2 N9
      clear N9 N7 N5 N6
      simp only [LexL, List.cons_append, List.nil_append] at N8
      (try dsimp only)
      (repeat' (first | (with_reducible refine if_ff ?_) | (with_reducible refine if_tt ?_) | (k_unfold; (try dsimp only)) | (k_end; wrow_close) | (cell_step; walk1) | (cell_step; dsimp only; walk1) | (leave1; walk_say "STEP leave1"; try dsimp only) | fail "no step"))
      rename Fr _ _ _ _ => FZ
      rename News _ _ _ _ => NZ
      have ecn : (if c = 10 then line2 + 1 else line2) + cnt (bsl w3 ++ 10 :: rcs) = TOT := by
        rw [cnt_cons, if_neg (by decide), Int.zero_add, cnt_cons] at hcn
        rw [← hcn]
        by_cases h10 : c = 10 <;> simp only [h10, if_true, if_false] <;> omega
      exact Hold.mk ⟨_, _, _, w3, dn ++ [c], sg4, _, tl9, ep9, ts, rfl, by simp only [List.length_cons] at hwn; omega, by rw [hwd, List.append_assoc]; rfl, hsg4, by omega, hc8, ecn, FZ, ⟨⟨rfl, rfl, trivial⟩, _, congrArg (fun z => some (Value.str z _)) (tx_append dn [c])⟩, NZ⟩
end Vget_plain
theorem get_plain (w : World) (P : LexP) (O : LexOk P) (rest : Led) (line : Int) (tl : Tok) (pe : Nat) (sg : List Value) (c1 : Nat) (w1 rcs : List Nat) (ep : Nat) (pre0 : List Nat) (hpre : pre0 = [] ∨ pre0 = [10]) (hr : OwnOff rest [P.G, P.dX]) (hsg : TextsAre sg ((pre0 ++ 92 :: c1 :: (bsl w1 ++ 10 :: rcs)).map fun c => [c])) (hs : (pre0 ++ 92 :: c1 :: (bsl w1 ++ 10 :: rcs)).length ≤ 1000) (hc : ∀ x ∈ (pre0 ++ 92 :: c1 :: (bsl w1 ++ 10 :: rcs)), x < 0x110000) (hw : w1.length ≤ 30) :
  Tel w 8 400 (.ref 98) [.ref P.X] (LexL w P line tl [] pe sg ep ++ rest) (TokPost w P rest line (pre0 ++ 92 :: c1 :: (bsl w1 ++ 10 :: rcs)) rcs (c1 :: w1) [] pe) := tel_of fun z => (show ∀ w P rest line tl pe sg c1 w1 rcs ep z, Vget_plain.At0 w P rest line tl pe sg c1 w1 rcs ep z from (eps1_all (eps1_all (eps1_all (eps1_all (eps1_all (eps1_all (eps1_all (eps1_all (eps1_all (eps1_all (eps1_all (eps1_all @Vget_plain.aux))))))))))))) w P rest line tl pe sg c1 w1 rcs ep z O pre0 hpre hr hsg hs hc hw
end
section
theorem pop_first {prog : Program} {w : World} {A : Around} {E : Value → Shared → Prop} {s : Shared} {h₀ : Heap} {L : Addr} {m : Str → Option Value} {news news' : Led} {D : Addr} {x : Value} {sg : List Value} {n : Nat} {u : Tok} {Q : Value → Shared → Prop} (F : Fr h₀ L s.heap m) (N : News h₀ L s.heap news) (U : Upd D (W.listOf (x :: sg).toArray n) (W.listOf sg.toArray (n + 1)) news news') (hz : sg.length ≤ 2 ^ 20)
    (h : ∀ h', Fr h₀ L h' m → News h₀ L h' news' → Q x { s with heap := h' }) : wpAny (model prog w) A (call (.builtin "list.pop") [.ref D, .int 0 u]) Q E s :=
  kl_popAt (i := 0) (k := 0) (p := []) (q := sg) (y := x) F N (by decide +kernel) (by simp [seqIndex?]) (by simp [kl_cut]) U (by simp [sizeLine]; omega) h
namespace Vget_end
noncomputable def At0 (w : World) (P : LexP) (rest : Led) (line : Int) (tl : Tok) (pe : Nat) (ep : Nat) (z : TelV) : Prop := ∀ (O : LexOk P) (sg : List Value) (pre0 : List Nat) (hpre : pre0 = [] ∨ pre0 = [10]) (hr : OwnOff rest [P.G, P.dX]) (hsg : TextsAre sg ((pre0).map fun c => [c])) (hs : (pre0).length ≤ 1000) (hc : ∀ x ∈ (pre0), x < 0x110000), TelAt w 8 400 (.ref 98) [.ref P.X] (LexL w P line tl [] pe sg ep ++ rest) (TokPost w P rest line pre0 [] [] [] pe) z
noncomputable def w : World := eps1 ne_world (fun w => ∀ P rest line tl pe ep z, At0 w P rest line tl pe ep z)
noncomputable def P : LexP := eps1 ne_lexp (fun P => ∀ rest line tl pe ep z, At0 w P rest line tl pe ep z)
noncomputable def rest : Led := eps1 ne_led (fun rest => ∀ line tl pe ep z, At0 w P rest line tl pe ep z)
noncomputable def line : Int := eps1 ne_int (fun line => ∀ tl pe ep z, At0 w P rest line tl pe ep z)
noncomputable def tl : Tok := eps1 ne_tok (fun tl => ∀ pe ep z, At0 w P rest line tl pe ep z)
noncomputable def pe : Nat := eps1 ne_nat (fun pe => ∀ ep z, At0 w P rest line tl pe ep z)
noncomputable def ep : Nat := eps1 ne_nat (fun ep => ∀ z, At0 w P rest line tl pe ep z)
noncomputable def v0 : TelV := eps1 telV_ne (fun z => At0 w P rest line tl pe ep z)
noncomputable abbrev h₀ := v0.h₀
noncomputable abbrev L := v0.L
noncomputable abbrev s := v0.s
theorem aux (O : LexOk P) (sg : List Value) (pre0 : List Nat) (hpre : pre0 = [] ∨ pre0 = [10]) (hr : OwnOff rest [P.G, P.dX]) (hsg : TextsAre sg ((pre0).map fun c => [c])) (hs : (pre0).length ≤ 1000) (hc : ∀ x ∈ (pre0), x < 0x110000) :
  TelAt w 8 400 (.ref 98) [.ref P.X] (LexL w P line tl [] pe sg ep ++ rest) (TokPost w P rest line pre0 [] [] [] pe) v0 := by
  intro B F X N T C1 C2 C3 hk hd hu hret
  have O' := O
  obtain ⟨o1, o2, o3, n1, n2, n3, n4, n5, n6, n7, n8, n9⟩ := O'
  simp only [LexL, List.cons_append, List.nil_append] at N
  refine wpAny_call ?_
  k_dflt (first | (refine' code_defC ?k1 ?k2 ?k3 ?k4 ?k5 ?kA ?kF ?kK ?k6 ?k7 ?k8 ?k9 ?kB ?kD ?_ ?c2 ?c3 ?c4; (case kA => exact rfl); (case kF => exact rfl); (case kK => first | exact rfl | assumption); (case k1 => k_asm); (case k2 => k_asm); (case k3 => k_asm); (case k4 => k_asm); (case k5 => k_asm); (case k6 => k_is); (case k7 => k_is); (case k8 => k_room); (case k9 => first | exact BindsTo.of_eq rfl | exact binds_K (by k_in) rfl (by k_is) rfl rfl rfl | fail "k_enter: no rule for these arguments"); (case kB => exact rfl); (case kD => decide +kernel); (case c2 => exact rfl); (case c3 => exact rfl); (case c4 => exact rfl); k_whole; intro z9g z9L z9h z9tk z9cells z9FG z9F z9N z9Y z9B z9X z9T z9l1; (try k_lt z9l1); k_cells z9Y; (try simp only [List.cons_append, List.nil_append] at z9N); (try dsimp only); (try k_lift z9B); (try k_fold)) | cell_enter)
  rename_i g1 L1 hh1 FG1 FF1 NN1 B1 X1 T1
  (repeat' (first | (with_reducible refine if_ff ?_) | (with_reducible refine if_tt ?_) | (k_unfold; (try dsimp only)) | (k_end; wrow_close) | (cell_step; walk1) | (cell_step; dsimp only; walk1) | (leave1; walk_say "STEP leave1"; try dsimp only) | fail "no step"))
  rename_i q _ _ _ lq
  k_dflt (refine' ci_make ?vF ?vN ?vq ?_; (case vF => k_asm); (case vN => k_asm); (case vq => k_mem))
  intro I hI F8 N8 lI
  simp only [topA_nil, topA_cons, topA_app, Nat.max_le, Nat.zero_le, true_and, and_true] at lI
  rw [empty_is] at N8
  (try dsimp only)
  (repeat' (first | (with_reducible refine if_ff ?_) | (with_reducible refine if_tt ?_) | (k_unfold; (try dsimp only)) | (k_end; wrow_close) | (cell_step; walk1) | (cell_step; dsimp only; walk1) | (leave1; walk_say "STEP leave1"; try dsimp only) | fail "no step"))
  with_unfolding_all refine' owit_for ?_
  (repeat' (first | (with_reducible refine if_ff ?_) | (with_reducible refine if_tt ?_) | (k_unfold; (try dsimp only)) | (k_end; wrow_close) | (cell_step; walk1) | (cell_step; dsimp only; walk1) | (leave1; walk_say "STEP leave1"; try dsimp only) | fail "no step"))
  rename Fr _ _ _ _ => F9
  rename News _ _ _ _ => N9
  refine ci_iter (N9 _ (.head _)).1 ?_
  have hoff : OwnOff rest [P.G, P.dX] := hr
  have lI1 : @LT.lt Nat _ P.PB I := by omega
  have lq1 : @LT.lt Nat _ P.PB q := by omega
  refine OwitAt.intro ?_
  obtain ⟨TOT, hTOT⟩ : ∃ z, z = line + cnt (pre0) := ⟨_, rfl⟩
  refine owit_abs (fun Q1 hQ1 => ?_)
  refine owit_ind (TokInv w P rest s I q g1 L1 pe TOT (fun pre => pre)) ?zo ?so 64 _ ?io
  case zo => rintro s' ⟨_, _, _, _, _, _, _, _, _, _, hz, _⟩; exact Nat.not_lt_zero _ hz
  case io =>
    exact ⟨_, _, _, pre0, sg, line, tl, ep, _, rfl, by rcases hpre with rfl | rfl <;> simp, hpre, hsg, hs, hc, hTOT.symm, F9, ⟨⟨rfl, rfl, trivial⟩, _, congrArg (fun z => some (Value.str z _)) (show Str.ofString "" = tx [] from by decide +kernel)⟩, N9⟩
  case so =>
  rintro n0 s' ⟨h9, tk9, m9, pre, sg9, line9, tl9, ep9, ts9, rfl, hpn, hpe, hsg9, hs9, hc9, hcn9, F9', ⟨⟨hm1, hm2, _⟩, tt9, hm3⟩, N9'⟩
  have hM9 : Has m9 [(Str.ofString "self", .ref P.X), (Str.ofString "fiter", .ref I), (Str.ofString "token", .str (tx []) tt9)] := ⟨hm1, hm2, hm3, trivial⟩
  clear hsg hs hc
  try clear F9
  try clear N9
  rcases hpe with rfl | rfl
  rotate_left
  · rw [List.map_cons] at hsg9
    cases hsg9 with
    | cons _ tc hsg1 =>
    rename_i sg1
    rw [List.length_cons] at hs9
    refine next_char w P O rest I q ts9 line9 tl9 [] pe 10 tc sg1 [] ep9 hoff lI1 lq1 hsg1 (by omega) (by decide) (fun x hx => hc9 x (.tail _ hx)) B1 F9' X1 N9' T1 C1 C2 C3 rfl (by ktr_room) (by ktr_units) ?_
    intro h1 tk1 tl1 ep1 F1 N1
    rw [if_pos rfl] at N1
    have F5 := fr_all0 hM9 F1
    clear F1 F9' N9'
    dsimp only [OwitTurn]
    simp only [LexL, List.cons_append, List.nil_append] at N1
    (repeat' (first | (with_reducible refine if_ff ?_) | (with_reducible refine if_tt ?_) | (k_unfold; (try dsimp only)) | (k_end; wrow_close) | (cell_step; walk1) | (cell_step; dsimp only; walk1) | (leave1; walk_say "STEP leave1"; try dsimp only) | fail "no step"))
    all_goals first | (exfalso; rename ((Builtin.Str.occurrences _ _ _ _ _).isEmpty = true) => hz; revert hz; decide +kernel; done) | skip
    rename Fr _ _ _ _ => FZ
    rename News _ _ _ _ => NZ
    rw [cnt_cons, if_pos rfl] at hcn9
    exact Hold.mk ⟨_, _, _, [], sg1, line9 + 1, tl1, ep1, ts9, rfl, by simp only [List.length_cons, List.length_nil] at hpn ⊢; omega, .inl rfl, hsg1, by simp, fun x hx => hc9 x (.tail _ hx), by omega, FZ, ⟨⟨rfl, rfl, trivial⟩, tt9, rfl⟩, NZ⟩
  cases hsg9
  have hI9 : OwnOff (LexL w P line9 tl9 [] pe [] ep9 ++ rest) [I] := fun p hp d hd => by
    rw [List.mem_singleton.mp hd]
    exact topA_ne (r := LexL w P line9 tl9 [] pe [] ep9 ++ rest) (by simp only [LexL, topA_nil, topA_cons, topA_app, Nat.max_le, Nat.zero_le, true_and, and_true]; omega) p hp
  refine next_none w P O rest I q ts9 line9 tl9 [] pe ep9 hI9 B1 F9' X1 N9' T1 C1 C2 C3 rfl (by ktr_room) (by ktr_units) ?_
  intro h1 tk1 F1 N1
  have F5 := fr_all0 hM9 F1
  clear F1 F9' N9'
  dsimp only [OwitTurn]
  simp only [LexL, List.cons_append, List.nil_append] at N1
  (repeat' (first | (with_reducible refine if_ff ?_) | (with_reducible refine if_tt ?_) | (k_unfold; (try dsimp only)) | (k_end; wrow_close) | (cell_step; walk1) | (cell_step; dsimp only; walk1) | (leave1; walk_say "STEP leave1"; try dsimp only) | fail "no step"))
  rw [hQ1]
  (try dsimp only)
  (repeat' (first | (with_reducible refine if_ff ?_) | (with_reducible refine if_tt ?_) | (k_unfold; (try dsimp only)) | (k_end; wrow_close) | (cell_step; walk1) | (cell_step; dsimp only; walk1) | (leave1; walk_say "STEP leave1"; try dsimp only) | fail "no step"))
  rename Fr h₀ L _ _ => F1
  rename News h₀ L _ _ => N1
  exact hret _ _ _ (LexL w P line9 tl9 [] pe [] ep9 ++ rest) F1 N1 ⟨tt9, line9, tl9, [], ep9, rfl, rfl, .nil, hcn9.trans hTOT⟩
end Vget_end
theorem get_end (w : World) (P : LexP) (O : LexOk P) (rest : Led) (line : Int) (tl : Tok) (pe : Nat) (sg : List Value) (ep : Nat) (pre0 : List Nat) (hpre : pre0 = [] ∨ pre0 = [10]) (hr : OwnOff rest [P.G, P.dX]) (hsg : TextsAre sg ((pre0).map fun c => [c])) (hs : (pre0).length ≤ 1000) (hc : ∀ x ∈ (pre0), x < 0x110000) :
  Tel w 8 400 (.ref 98) [.ref P.X] (LexL w P line tl [] pe sg ep ++ rest) (TokPost w P rest line pre0 [] [] [] pe) := tel_of fun z => (show ∀ w P rest line tl pe ep z, Vget_end.At0 w P rest line tl pe ep z from (eps1_all (eps1_all (eps1_all (eps1_all (eps1_all (eps1_all (eps1_all (eps1_all @Vget_end.aux))))))))) w P rest line tl pe ep z O sg pre0 hpre hr hsg hs hc
theorem pb_off {P : LexP} (O : LexOk P) {rest : Led} {a1 a2 a3 a4 a5 a6 a7 a8 : Obj} (hr : ∀ p ∈ rest, p.1 ≠ P.PB) : ∀ p ∈ (P.X, a1) :: (P.dX, a2) :: (P.Lm, a3) :: (P.cL, a4) :: (P.S, a5) :: (P.dS, a6) :: (P.G, a7) :: (P.cG, a8) :: rest, p.1 ≠ P.PB := by
  obtain ⟨o1, o2, o3, n1, n2, n3, n4, n5, n6, n7, n8, n9⟩ := O
  intro p hp
  simp only [List.mem_cons] at hp
  rcases hp with rfl | rfl | rfl | rfl | rfl | rfl | rfl | rfl | hp
  all_goals first | exact hr p hp | exact Nat.ne_of_lt (by omega)
theorem pushed (w : World) (P : LexP) (O : LexOk P) (rest : Led) (line : Int) (tl : Tok) (x : Str) (t : Tok) (pb : List Value) (pe : Nat) (sg : List Value) (ep : Nat) (hr : ∀ p ∈ rest, p.1 ≠ P.PB) (hl : pb.length ≤ 1000) :
  Tel w 8 400 (.ref 98) [.ref P.X] (LexL w P line tl (.str x t :: pb) pe sg ep ++ rest) (fun v news' => ∃ pe', v = .str x t ∧ news' = LexL w P line tl pb pe' sg ep ++ rest) := by
  intro mean mg mb dp un gd cn cs' ad ccd cl outer A₀ base h₀ L m s Q E B F X N T C1 C2 C3 hk hd hu hret
  obtain ⟨o1, o2, o3, n1, n2, n3, n4, n5, n6, n7, n8, n9⟩ := O
  simp only [LexL, List.cons_append, List.nil_append] at N
  refine wpAny_call ?_
  k_dflt (first | (refine' code_defC ?k1 ?k2 ?k3 ?k4 ?k5 ?kA ?kF ?kK ?k6 ?k7 ?k8 ?k9 ?kB ?kD ?_ ?c2 ?c3 ?c4; (case kA => exact rfl); (case kF => exact rfl); (case kK => first | exact rfl | assumption); (case k1 => k_asm); (case k2 => k_asm); (case k3 => k_asm); (case k4 => k_asm); (case k5 => k_asm); (case k6 => k_is); (case k7 => k_is); (case k8 => k_room); (case k9 => first | exact BindsTo.of_eq rfl | exact binds_K (by k_in) rfl (by k_is) rfl rfl rfl | fail "k_enter: no rule for these arguments"); (case kB => exact rfl); (case kD => decide +kernel); (case c2 => exact rfl); (case c3 => exact rfl); (case c4 => exact rfl); k_whole; intro z9g z9L z9h z9tk z9cells z9FG z9F z9N z9Y z9B z9X z9T z9l1; (try k_lt z9l1); k_cells z9Y; (try simp only [List.cons_append, List.nil_append] at z9N); (try dsimp only); (try k_lift z9B); (try k_fold)) | cell_enter)
  (repeat' (first | (with_reducible refine if_ff ?_) | (with_reducible refine if_tt ?_) | (k_unfold; (try dsimp only)) | (k_end; wrow_close) | (cell_step; walk1) | (cell_step; dsimp only; walk1) | (leave1; walk_say "STEP leave1"; try dsimp only) | fail "no step"))
  k_dflt (refine' pop_first ?vF ?vN ?vU ?vz ?_; (case vF => k_asm); (case vN => k_asm); (case vU => exact .head (pb_off ⟨o1, o2, o3, n1, n2, n3, n4, n5, n6, n7, n8, n9⟩ hr)); (case vz => omega))
  intro h8 F8 N8
  (try dsimp only)
  (repeat' (first | (with_reducible refine if_ff ?_) | (with_reducible refine if_tt ?_) | (k_unfold; (try dsimp only)) | (k_end; wrow_close) | (cell_step; walk1) | (cell_step; dsimp only; walk1) | (leave1; walk_say "STEP leave1"; try dsimp only) | fail "no step"))
  rename Fr h₀ L _ _ => F1
  rename News h₀ L _ _ => N1
  exact hret _ _ _ _ F1 N1 ⟨_, rfl, rfl⟩
end
section
theorem lex_mk (w : World) {h₀ h : Heap} {L : Addr} {PB X dX Lm cL PB2 S dS G cG : Addr} {oL oG : Obj} {k1 k2 k3 k4 k5 k6 k7 k8 k9 tw t5 t7 tl cq : Tok} {pm ct : Value} {cvs : Array Value} {sg : List Value} {ep : Nat} {t rest : Led}
    (N : News h₀ L h ((PB, W.listOf ([] : List Value).toArray 0) :: (X, instObj 108 dX) :: (dX, W.dictOf [ent w (Str.ofString "lineno") k1 (.int 1 tl), ent w (Str.ofString "instream") k2 (.ref S), ent w (Str.ofString "whitespace") k3 (.str wsp tw), ent w (Str.ofString "pushback") k4 (.ref PB)] 4) :: (Lm, kla_obj (Str.ofString "<lambda>") qualL (lamArgs lamX) (lamBody lamX) (lamScope lamX) [(Str.ofString "signs", cG)] pm cL ct) :: (cL, oL) :: (PB2, W.listOf ([] : List Value).toArray 0) :: (S, instObj 108 dS) ::
      (dS, W.dictOf [ent w (Str.ofString "lineno") k5 (.int 1 t5), ent w (Str.ofString "instream") k6 .none, ent w (Str.ofString "whitespace") k7 (.str wsp t7), ent w (Str.ofString "pushback") k8 (.ref PB2), ent w (Str.ofString "read") k9 (.ref Lm)] 5) :: (G, W.listOf sg.reverse.toArray ep) :: (cG, oG) :: t))
    (hsub : ∀ p ∈ rest, p ∈ t) (o1 : oL.data = .fields cvs) (o2 : cvs[1]? = some (.str qualL cq)) (o3 : oG.data = .cell (some (.ref G)))
    (n1 : @LT.lt Nat _ cG G) (n2 : @LT.lt Nat _ G dS) (n3 : @LT.lt Nat _ dS S) (n4 : @LT.lt Nat _ S PB2) (n5 : @LT.lt Nat _ PB2 cL) (n6 : @LT.lt Nat _ cL Lm) (n7 : @LT.lt Nat _ Lm dX) (n8 : @LT.lt Nat _ dX X) (n9 : @LT.lt Nat _ X PB) (hr : topA rest ≤ cG) :
    ∃ P : LexP, P.X = X ∧ LexOk P ∧ topA rest ≤ P.cG ∧ News h₀ L h (LexL w P 1 tl [] 0 sg ep ++ rest) := by
  refine ⟨⟨X, dX, S, dS, Lm, cL, G, cG, PB, PB2, oL, oG, k1, k2, k3, k4, k5, k6, k7, k8, k9, tw, t5, t7, pm, ct, cvs, cq⟩, rfl, ⟨o1, o2, o3, n1, n2, n3, n4, n5, n6, n7, n8, n9⟩, hr, fun p hp => N p ?_⟩
  simp only [LexL, List.cons_append, List.nil_append, List.mem_cons] at hp ⊢
  rcases hp with h | h | h | h | h | h | h | h | h | h
  · exact .inl h
  · exact .inr (.inl h)
  · exact .inr (.inr (.inl h))
  · exact .inr (.inr (.inr (.inl h)))
  · exact .inr (.inr (.inr (.inr (.inl h))))
  · exact .inr (.inr (.inr (.inr (.inr (.inr (.inl h))))))
  · exact .inr (.inr (.inr (.inr (.inr (.inr (.inr (.inl h)))))))
  · exact .inr (.inr (.inr (.inr (.inr (.inr (.inr (.inr (.inl h))))))))
  · exact .inr (.inr (.inr (.inr (.inr (.inr (.inr (.inr (.inr (.inl h)))))))))
  · exact .inr (.inr (.inr (.inr (.inr (.inr (.inr (.inr (.inr (.inr (hsub p h))))))))))
inductive LxPost (w : World) (rest : Led) (cs : List Nat) (v : Value) (news' : Led) : Prop
  | mk (P : LexP) (tl : Tok) (sg : List Value) (ep : Nat) (zh1 : v = .ref P.X) (zh2 : LexOk P) (zh3 : topA rest ≤ P.cG) (zh4 : TextsAre sg (cs.map fun c => [c])) (ps : Array Value) (zh5 : topA ((131, tabObj ps) :: rest) ≤ P.cG) (zh6 : news' = LexL w P 1 tl [] 0 sg ep ++ ((131, tabObj ps) :: rest))
namespace Vlaw_lexer
noncomputable def At0 (w : World) (rest : Led) (cs : List Nat) (t : Tok) (z : TelV) : Prop := ∀ (hx : cs.length ≤ 1000) (off : OwnOff rest [131]), TelAt w 5 60 (.ref 136) [.str (tx cs) t] ((131, tabObj #[]) :: rest) (LxPost w rest cs) z
noncomputable def w : World := eps1 ne_world (fun w => ∀ rest cs t z, At0 w rest cs t z)
noncomputable def rest : Led := eps1 ne_led (fun rest => ∀ cs t z, At0 w rest cs t z)
noncomputable def cs : List Nat := eps1 ne_list (fun cs => ∀ t z, At0 w rest cs t z)
noncomputable def t : Tok := eps1 ne_tok (fun t => ∀ z, At0 w rest cs t z)
noncomputable def v0 : TelV := eps1 telV_ne (fun z => At0 w rest cs t z)
noncomputable abbrev h₀ := v0.h₀
noncomputable abbrev L := v0.L
theorem aux (hx : cs.length ≤ 1000) (off : OwnOff rest [131]) :
  TelAt w 5 60 (.ref 136) [.str (tx cs) t] ((131, tabObj #[]) :: rest) (LxPost w rest cs) v0 := by
  intro B F X N T C1 C2 C3 hk hd hu hret
  refine wpAny_call ?_
  k_dflt (first | (refine' code_defC ?k1 ?k2 ?k3 ?k4 ?k5 ?kA ?kF ?kK ?k6 ?k7 ?k8 ?k9 ?kB ?kD ?_ ?c2 ?c3 ?c4; (case kA => exact rfl); (case kF => exact rfl); (case kK => first | exact rfl | assumption); (case k1 => k_asm); (case k2 => k_asm); (case k3 => k_asm); (case k4 => k_asm); (case k5 => k_asm); (case k6 => k_is); (case k7 => k_is); (case k8 => k_room); (case k9 => first | exact BindsTo.of_eq rfl | exact binds_K (by k_in) rfl (by k_is) rfl rfl rfl | fail "k_enter: no rule for these arguments"); (case kB => exact rfl); (case kD => decide +kernel); (case c2 => exact rfl); (case c3 => exact rfl); (case c4 => exact rfl); k_whole; intro z9g z9L z9h z9tk z9cells z9FG z9F z9N z9Y z9B z9X z9T z9l1; (try k_lt z9l1); k_cells z9Y; (try simp only [List.cons_append, List.nil_append] at z9N); (try dsimp only); (try k_lift z9B); (try k_fold)) | cell_enter)
  (repeat' (first | (with_reducible refine if_ff ?_) | (with_reducible refine if_tt ?_) | (k_unfold; (try dsimp only)) | (k_end; wrow_close) | (cell_step; walk1) | (cell_step; dsimp only; walk1) | (leave1; walk_say "STEP leave1"; try dsimp only) | fail "no step"))
  k_dflt (refine' list_text ?hh ?F ?N ?hn ?_; (case hh => rfl); (case F => k_asm); (case N => k_asm); (case hn => first | assumption | omega))
  intro D' vs' c' h' tk' F' N' l1 hT
  simp only [topA_nil, topA_cons, topA_app, Nat.max_le, Nat.zero_le, true_and, and_true] at l1
  (try dsimp only)
  have hvl := hT.length
  rw [List.length_map] at hvl
  (repeat' (first | (with_reducible refine if_ff ?_) | (with_reducible refine if_tt ?_) | (k_unfold; (try dsimp only)) | (k_end; wrow_close) | (cell_step; walk1) | (cell_step; dsimp only; walk1) | (leave1; walk_say "STEP leave1"; try dsimp only) | fail "no step"))
  k_dflt (refine' rev_list ?vF ?vN ?vU ?vz ?_; (case vF => k_asm); (case vN => k_asm); (case vU => k_upd); (case vz => first | assumption | omega))
  intro h' F' N'
  (try dsimp only)
  (repeat' (first | (with_reducible refine if_ff ?_) | (with_reducible refine if_tt ?_) | (k_unfold; (try dsimp only)) | (k_end; wrow_close) | (cell_step; walk1) | (cell_step; dsimp only; walk1) | (leave1; walk_say "STEP leave1"; try dsimp only) | fail "no step"))
  walk1
  (repeat' (first | (with_reducible refine if_ff ?_) | (with_reducible refine if_tt ?_) | (k_unfold; (try dsimp only)) | (k_end; wrow_close) | (cell_step; walk1) | (cell_step; dsimp only; walk1) | (leave1; walk_say "STEP leave1"; try dsimp only) | fail "no step"))
  walk1
  (repeat' (first | (with_reducible refine if_ff ?_) | (with_reducible refine if_tt ?_) | (k_unfold; (try dsimp only)) | (k_end; wrow_close) | (cell_step; walk1) | (cell_step; dsimp only; walk1) | (leave1; walk_say "STEP leave1"; try dsimp only) | fail "no step"))
  rename Fr h₀ L _ _ => F1
  rename News h₀ L _ _ => N1
  obtain ⟨P, rfl, O, hP, N2⟩ := lex_mk (rest := _ :: rest) w N1 (fun p hp => hp) (by assumption) (by assumption) (by assumption) (by omega) (by omega) (by omega) (by omega) (by omega) (by omega) (by omega) (by omega) (by omega) (by rw [topA_cons]; show Max.max _ _ ≤ _; omega)
  exact hret _ _ _ _ F1 N2 ⟨P, _, _, _, rfl, O, Nat.le_trans (by rw [topA_cons]; exact Nat.le_max_right _ _) hP, hT, _, hP, rfl⟩
end Vlaw_lexer
theorem law_lexer (w : World) (rest : Led) (cs : List Nat) (t : Tok) (hx : cs.length ≤ 1000) (off : OwnOff rest [131]) :
  Tel w 5 60 (.ref 136) [.str (tx cs) t] ((131, tabObj #[]) :: rest) (LxPost w rest cs) := tel_of fun z => (show ∀ w rest cs t z, Vlaw_lexer.At0 w rest cs t z from (eps1_all (eps1_all (eps1_all (eps1_all (eps1_all @Vlaw_lexer.aux)))))) w rest cs t z hx off
end
end
section
local macro_rules | `(tactic| cell_step) => `(tactic| (walk_at "s1"; walk_at "s2"; walk_at "t2"))
section
theorem push (w : World) (P : LexP) (O : LexOk P) (rest : Led) (line : Int) (tl : Tok) (x : Str) (t : Tok) (pb : List Value) (pe : Nat) (sg : List Value) (ep : Nat) (hr : ∀ p ∈ rest, p.1 ≠ P.PB) (hl : pb.length ≤ 1000) :
  Tel w 8 400 (.ref 105) [.ref P.X, .str x t] (LexL w P line tl pb pe sg ep ++ rest) (fun v news' => ∃ pe', v = .none ∧ news' = LexL w P line tl (pb ++ [.str x t]) pe' sg ep ++ rest) := by
  intro mean mg mb dp un gd cn cs' ad ccd cl outer A₀ base h₀ L m s Q E B F X N T C1 C2 C3 hk hd hu hret
  obtain ⟨o1, o2, o3, n1, n2, n3, n4, n5, n6, n7, n8, n9⟩ := O
  simp only [LexL, List.cons_append, List.nil_append] at N
  refine wpAny_call ?_
  k_dflt (first | (refine' code_defC ?k1 ?k2 ?k3 ?k4 ?k5 ?kA ?kF ?kK ?k6 ?k7 ?k8 ?k9 ?kB ?kD ?_ ?c2 ?c3 ?c4; (case kA => exact rfl); (case kF => exact rfl); (case kK => first | exact rfl | assumption); (case k1 => k_asm); (case k2 => k_asm); (case k3 => k_asm); (case k4 => k_asm); (case k5 => k_asm); (case k6 => k_is); (case k7 => k_is); (case k8 => k_room); (case k9 => first | exact BindsTo.of_eq rfl | exact binds_K (by k_in) rfl (by k_is) rfl rfl rfl | fail "k_enter: no rule for these arguments"); (case kB => exact rfl); (case kD => decide +kernel); (case c2 => exact rfl); (case c3 => exact rfl); (case c4 => exact rfl); k_whole; intro z9g z9L z9h z9tk z9cells z9FG z9F z9N z9Y z9B z9X z9T z9l1; (try k_lt z9l1); k_cells z9Y; (try simp only [List.cons_append, List.nil_append] at z9N); (try dsimp only); (try k_lift z9B); (try k_fold)) | cell_enter)
  (repeat' (first | (with_reducible refine if_ff ?_) | (with_reducible refine if_tt ?_) | (k_unfold; (try dsimp only)) | (k_end; wrow_close) | (cell_step; walk1) | (cell_step; dsimp only; walk1) | (leave1; walk_say "STEP leave1"; try dsimp only) | fail "no step"))
  rename Fr _ _ _ _ => F8
  rename News _ _ _ _ => N8
  k_dflt (refine' append_K F8 N8 (.head ?U) ?_ ?z; (case U => exact pb_off ⟨o1, o2, o3, n1, n2, n3, n4, n5, n6, n7, n8, n9⟩ hr); (case z => simp [sizeLine]; omega))
  intro h11 F11 N11
  (try dsimp only)
  (repeat' (first | (with_reducible refine if_ff ?_) | (with_reducible refine if_tt ?_) | (k_unfold; (try dsimp only)) | (k_end; wrow_close) | (cell_step; walk1) | (cell_step; dsimp only; walk1) | (leave1; walk_say "STEP leave1"; try dsimp only) | fail "no step"))
  rename Fr h₀ L _ _ => F1
  rename News h₀ L _ _ => N1
  (try simp only [List.push_toArray] at N1)
  exact hret _ _ _ _ F1 N1 ⟨_, rfl, rfl⟩
end
end
section
local macro_rules | `(tactic| cell_step) => `(tactic| (walk_at "s1"; walk_at "t1"))
section
theorem wpAny_toksge {α : Type} {M : Model} {A : Around} {t : Sem α} {Q : α → Shared → Prop} {E : Value → Shared → Prop} {s : Shared} (n : Nat) (hn : n ≤ s.toks) (h : wpAny M A t (fun a s' => n ≤ s'.toks → Q a s') (fun e s' => n ≤ s'.toks → E e s') s) : wpAny M A t Q E s := fun Γ p hΓ =>
  Sem.wp_mono M Γ t (fun _ _ _ h' => h'.2 h'.1) (fun _ _ _ h' => h'.2 h'.1) p s (Sem.wp_toks M Γ n t _ _ p s hn (h Γ p hΓ))
noncomputable def subst (c : Nat) (z : List Nat) (l : List Nat) : List Nat := l.flatMap fun d => if d = c then z else [d]
theorem subst_append (c : Nat) (z a b : List Nat) : subst c z (a ++ b) = subst c z a ++ subst c z b := List.flatMap_append ..
theorem subst_free (c : Nat) (z : List Nat) : ∀ l : List Nat, c ∉ l → subst c z l = l
  | [], _ => rfl
  | k :: r, h => by
    have h1 : ¬ k = c := fun e => h (e ▸ List.mem_cons_self ..)
    have h2 : c ∉ r := fun m => h (List.mem_cons_of_mem _ m)
    have ih := subst_free c z r h2
    unfold subst at ih ⊢
    rw [List.flatMap_cons, if_neg h1, ih]
    rfl
theorem subst_join (c : Nat) (z : List Nat) : ∀ parts : List Str, (∀ p ∈ parts, c ∉ p.cps.toList) → subst c z (Str.join (tx [c]) parts).cps.toList = (Str.join (tx z) parts).cps.toList
  | [], _ => rfl
  | [p], h => subst_free c z _ (h p (List.mem_singleton.mpr rfl))
  | p :: q :: r, h => by
    have ih := subst_join c z (q :: r) fun a ha => h a (List.mem_cons_of_mem _ ha)
    show subst c z (p ++ tx [c] ++ Str.join (tx [c]) (q :: r)).cps.toList = (p ++ tx z ++ Str.join (tx z) (q :: r)).cps.toList
    simp only [Str.cps_append, Array.toList_append]
    rw [subst_append, subst_append, ih, subst_free c z _ (h p (List.mem_cons_self ..))]
    have e : subst c z [c] = z := by simp [subst]
    show p.cps.toList ++ subst c z [c] ++ _ = _
    rw [e]
theorem replace_is (c : Nat) (z w : List Nat) : Txt.replace (tx w) (tx [c]) (tx z) = tx (subst c z w) := by
  have h1 := subst_join c z (Txt.split (tx w) ⟨#[c]⟩) (StrLaws.split_free (tx w) c)
  have h2 : Str.join (tx [c]) (Txt.split (tx w) ⟨#[c]⟩) = tx w := StrLaws.join_split (tx w) ⟨#[c]⟩
  rw [h2] at h1
  rw [show Txt.replace (tx w) (tx [c]) (tx z) = Str.join (tx z) (Txt.split (tx w) ⟨#[c]⟩) from StrLaws.replace_one (tx w) (tx z) c]
  have h3 : (tx w).cps.toList = w := by simp
  rw [h3] at h1
  generalize Str.join (tx z) (Txt.split (tx w) ⟨#[c]⟩) = J at *
  obtain ⟨⟨J⟩⟩ := J
  simp only at h1
  rw [h1]
theorem esc_is (w : List Nat) : subst 34 [92, 34] (subst 92 [92, 92] w) = esc w := by
  induction w with
  | nil => rfl
  | cons c r ih =>
    have e1 : subst 92 [92, 92] (c :: r) = (if c = 92 then [92, 92] else [c]) ++ subst 92 [92, 92] r := by unfold subst; rw [List.flatMap_cons]
    have e2 : esc (c :: r) = (if c = 34 ∨ c = 92 then [92, c] else [c]) ++ esc r := by unfold esc; rw [List.flatMap_cons]
    rw [e1, subst_append, ih, e2]
    congr 1
    by_cases h1 : c = 92
    · subst h1; rfl
    · by_cases h2 : c = 34
      · subst h2; rfl
      · simp [h1, h2, Mine.subst]
theorem subst_length (c a b : Nat) (l : List Nat) : (subst c [a, b] l).length ≤ 2 * l.length := by
  induction l with
  | nil => simp [subst]
  | cons k r ih =>
    have e1 : subst c [a, b] (k :: r) = (if k = c then [a, b] else [k]) ++ subst c [a, b] r := by unfold subst; rw [List.flatMap_cons]
    rw [e1, List.length_append, List.length_cons]
    split <;> simp only [List.length_cons, List.length_nil] <;> omega
theorem bb_is : Str.ofString "\\\\" = tx [92, 92] := by decide +kernel
theorem bq_is : Str.ofString "\\\"" = tx [92, 34] := by decide +kernel
theorem qn_is : Str.ofString "\"\n" = tx [34, 10] := by decide +kernel
namespace Vspelled_q
noncomputable def At0 (w : World) (rest : Led) (word : List Nat) (t : Tok) (zvv : TelV) : Prop := ∀ (hw : word.length ≤ 30), TelAt w 2 100 (.ref 129) [.str (tx word) t, .bool true] rest (fun v news' => ∃ t', v = .str (tx (34 :: (esc word ++ [34, 10]))) t' ∧ news' = rest) zvv
noncomputable def w : World := eps1 ne_world (fun w => ∀ rest word t zvv, At0 w rest word t zvv)
noncomputable def rest : Led := eps1 ne_led (fun rest => ∀ word t zvv, At0 w rest word t zvv)
noncomputable def word : List Nat := eps1 ne_list (fun word => ∀ t zvv, At0 w rest word t zvv)
noncomputable def t : Tok := eps1 ne_tok (fun t => ∀ zvv, At0 w rest word t zvv)
noncomputable def v0 : TelV := eps1 telV_ne (fun zvv => At0 w rest word t zvv)
noncomputable abbrev h₀ := v0.h₀
noncomputable abbrev L := v0.L
theorem aux (hw : word.length ≤ 30) :
  TelAt w 2 100 (.ref 129) [.str (tx word) t, .bool true] rest (fun v news' => ∃ t', v = .str (tx (34 :: (esc word ++ [34, 10]))) t' ∧ news' = rest) v0 := by
  intro B F X N T C1 C2 C3 hk hd hu hret
  refine wpAny_call ?_
  k_dflt (first | (refine' code_defC ?k1 ?k2 ?k3 ?k4 ?k5 ?kA ?kF ?kK ?k6 ?k7 ?k8 ?k9 ?kB ?kD ?_ ?c2 ?c3 ?c4; (case kA => exact rfl); (case kF => exact rfl); (case kK => first | exact rfl | assumption); (case k1 => k_asm); (case k2 => k_asm); (case k3 => k_asm); (case k4 => k_asm); (case k5 => k_asm); (case k6 => k_is); (case k7 => k_is); (case k8 => k_room); (case k9 => first | exact BindsTo.of_eq rfl | exact binds_K (by k_in) rfl (by k_is) rfl rfl rfl | fail "k_enter: no rule for these arguments"); (case kB => exact rfl); (case kD => decide +kernel); (case c2 => exact rfl); (case c3 => exact rfl); (case c4 => exact rfl); k_whole; intro z9g z9L z9h z9tk z9cells z9FG z9F z9N z9Y z9B z9X z9T z9l1; (try k_lt z9l1); k_cells z9Y; (try simp only [List.cons_append, List.nil_append] at z9N); (try dsimp only); (try k_lift z9B); (try k_fold)) | cell_enter)
  (repeat' (first | (with_reducible refine wpAny_execs_cons ?_) | (with_reducible refine wpAny_execs_nil ?_) | (k_unfold; (try dsimp only)) | (k_end; wrow_close) | (cell_step; walk1) | (cell_step; dsimp only; walk1) | (leave1; walk_say "STEP leave1"; try dsimp only) | fail "no step"))
  refine wpAny_toksge 1 (by first | omega | (simp; done) | (simp; omega)) ?_
  refine SC.replaceW (by first | omega | (simp; done) | (simp; omega)) (by first | omega | (simp; done) | (simp; omega)) (by first | omega | (simp; done) | (simp; omega)) (by decide +kernel) (by simp [Str.length]; omega) (by decide +kernel) ?_
  intro t1 k1 hk1
  (try dsimp only)
  (repeat' (first | (with_reducible refine wpAny_execs_cons ?_) | (with_reducible refine wpAny_execs_nil ?_) | (k_unfold; (try dsimp only)) | (k_end; wrow_close) | (cell_step; walk1) | (cell_step; dsimp only; walk1) | (leave1; walk_say "STEP leave1"; try dsimp only) | fail "no step"))
  have hl1 : Txt.replace (tx word) (Str.ofString "\\") (Str.ofString "\\\\") = tx (subst 92 [92, 92] word) := by rw [bs_is, bb_is, replace_is]
  rw [hl1]
  have hs1 := subst_length 92 92 92 word
  refine SC.replaceW (by have hk2 : 1 ≤ k1 := hk1; show k1 ≠ 0; omega) (by show k1 + 1 ≠ 0; omega) (by show k1 ≠ k1 + 1; omega) (by decide +kernel) (by simp [Str.length]; omega) (by decide +kernel) ?_
  intro t2 k2
  (try dsimp only)
  have hl2 : Txt.replace (tx (subst 92 [92, 92] word)) (Str.ofString "\"") (Str.ofString "\\\"") = tx (esc word) := by rw [qt_is, bq_is, replace_is, esc_is]
  rw [hl2]
  have hel : (esc word).length ≤ 120 := by rw [← esc_is]; have := subst_length 34 92 34 (subst 92 [92, 92] word); omega
  refine PyProof.Rows.add_str (hsz := by rw [qt_is]; simp [Str.length, sizeLine]; omega) ?_
  intro t3 k3
  (try dsimp only)
  rw [qt_is, tx_append]
  (repeat' (first | (with_reducible refine wpAny_execs_cons ?_) | (with_reducible refine wpAny_execs_nil ?_) | (k_unfold; (try dsimp only)) | (k_end; wrow_close) | (cell_step; walk1) | (cell_step; dsimp only; walk1) | (leave1; walk_say "STEP leave1"; try dsimp only) | fail "no step"))
  refine PyProof.Rows.add_str (hsz := by rw [qn_is]; simp [Str.length, sizeLine]; omega) ?_
  intro t4 k4
  (try dsimp only)
  rw [qn_is, tx_append]
  (repeat' (first | (with_reducible refine wpAny_execs_cons ?_) | (with_reducible refine wpAny_execs_nil ?_) | (k_unfold; (try dsimp only)) | (k_end; wrow_close) | (cell_step; walk1) | (cell_step; dsimp only; walk1) | (leave1; walk_say "STEP leave1"; try dsimp only) | fail "no step"))
  rename Fr h₀ L _ _ => F1
  rename News h₀ L _ _ => N1
  exact hret _ _ _ _ F1 N1 ⟨_, congrArg (fun z => Value.str (tx z) _) (by simp), rfl⟩
end Vspelled_q
theorem spelled_q (w : World) (rest : Led) (word : List Nat) (t : Tok) (hw : word.length ≤ 30) :
  Tel w 2 100 (.ref 129) [.str (tx word) t, .bool true] rest (fun v news' => ∃ t', v = .str (tx (34 :: (esc word ++ [34, 10]))) t' ∧ news' = rest) := tel_of fun zvv => (show ∀ w rest word t zvv, Vspelled_q.At0 w rest word t zvv from (eps1_all (eps1_all (eps1_all (eps1_all (eps1_all @Vspelled_q.aux)))))) w rest word t zvv hw
end
section
theorem tx_empty {word : List Nat} (hne : word ≠ []) : ¬ (tx word == Str.ofString "") = true := fun h => by
  have e := eq_of_beq h
  have e2 : (tx word).cps.toList = [] := by rw [e]; rfl
  have e3 : (tx word).cps.toList = word := by simp
  exact hne (e3 ▸ e2)
theorem texts_paired {f : Nat → List Nat} : ∀ {vs : List Value} {ys : List Value} {l : List Nat}, TextsAre vs (l.map fun c => [c]) → Paired (fun v r => ∃ c u t, v = .str (tx [c]) u ∧ r = .str (tx (f c)) t) vs ys → TextsAre ys (l.map f)
  | [], [], [], _, _ => .nil
  | v :: vs, y :: ys, c :: l, h, k => by
    cases k with
    | cons k1 k2 =>
      rw [List.map_cons] at h ⊢
      generalize hq : [c] = q at h
      cases h with
      | cons w' t' h' =>
        obtain ⟨c', u, t, e, rfl⟩ := k1
        injection e with e1 e2
        have e3 := tx_inj.mp e1
        rw [← hq] at e3
        injection e3 with e4
        subst e4
        exact .cons _ _ (texts_paired h' k2)
  | [], _ :: _, _, _, k => by cases k
  | _ :: _, [], _, _, k => by cases k
  | [], _, _ :: _, h, _ => by cases h
  | _ :: _, _, [], h, _ => by cases h
section
variable {prog : Program} {w : World} {A : Around} {E : Value → Shared → Prop} {s₁ : Shared} {h₀ : Heap} {L : Addr} {m : Str → Option Value} {news : Led}
theorem comp_text {env : Env} {elt : Expr} {x : Str} {scope : Scope} {Q : Value → Shared → Prop} {word : List Nat} {t : Tok} (f : Nat → List Nat)
    (hh : A.handled = none) (F : Fr h₀ L s₁.heap m) (N : News h₀ L s₁.heap news)
    (g2 : ∀ C c u s₂ m₂ E', s₂.heap.Ns (compEnv scope C env).locals m₂ → m₂ x = some (.str (tx [c]) u) → s₁.toks ≤ s₂.toks → wpAny (model prog w) A (eval elt (compEnv scope C env)) (fun r s₃ => (∃ t, r = .str (tx (f c)) t) ∧ Keeps s₂ s₃) E' s₂)
    (g3 : ∀ D (ys : List Value) h' tk, Fr h₀ L h' m → News h₀ L h' news → h₀.get? D = none → NewPlain h' news D ys.toArray → TextsAre ys (word.map f) → Q (.ref D) { s₁ with heap := h', toks := tk }) (hsz : word.length ≤ sizeLine) :
    wpAny (model prog w) A (pyIter (.str (tx word) t)) (CompPost prog w A env scope x [] elt Q) E s₁ := by
  unfold CompPost
  refine wpAny_pyIter_str fun o St W hst => ?_
  have up : ∀ (h' : Heap), (∀ b o', b ∉ [s₁.heap.objs.size] → (s₁.heap.push o).get? b = some o' → h'.get? b = some o') → ∀ b o', s₁.heap.get? b = some o' → h'.get? b = some o' :=
    fun h' hk b o' e => hk b o' (old_not_new e) (Heap.get?_push_of_some _ e)
  refine ⟨fun _ => true, fun v r => ∃ c u t, v = .str (tx [c]) u ∧ r = .str (tx (f c)) t, s₁.heap.objs.size, [s₁.heap.objs.size], [s₁.heap.objs.size], (tx word).cps.size, SignAt (tx word), St, rfl, W A hh, (by simpa using hsz), hst, ?_, ⟨?_, ?_⟩, ?_⟩
  · intro b hb
    show b < (s₁.heap.push o).objs.size
    rw [Heap.size_push, List.mem_singleton.mp hb]
    exact Nat.lt_succ_self _
  · intro C i v s₃ m₃ E' hP hn hm _ htk
    exact wpAny_pure ⟨rfl, _, _, rfl, fun _ _ e => e⟩
  · intro C i v s₃ m₃ E' hP hp hn hm _ htk
    obtain ⟨c, u, _, rfl⟩ := hP
    exact wpAny_mono (g2 C c u s₃ m₃ E' hn hm htk) (fun r s₄ h₄ => ⟨let ⟨t, e⟩ := h₄.1; ⟨c, u, t, rfl, e⟩, h₄.2⟩) fun _ _ e => e
  · intro D h' tk ys vs hnew hlD hplD hlen hP hF hk
    have e0 : vs.filter (fun _ => true) = vs := List.filter_eq_self.mpr fun _ _ => rfl
    rw [e0] at hF
    have hT := signs_at word vs 0 (fun j v hv => by rw [Nat.zero_add]; exact hP j v hv) (by rw [Nat.zero_add, hlen]; simp)
    refine g3 D ys.toList h' tk (F.keeps (up h' hk)) (N.grown (up h' hk)) ?_ ⟨by rw [Array.toArray_toList]; exact hplD, fun p hp e => by rw [← e, Heap.get?_push_of_some _ (N p hp).1] at hnew; cases hnew⟩ (texts_paired (by simpa using hT) hF)
    cases e : h₀.get? D with
    | none => rfl
    | some o' => rw [Heap.get?_push_of_some _ (F.keep _ _ e)] at hnew; cases hnew
end
theorem texts_strs {vs : List Value} {ws : List (List Nat)} (h : TextsAre vs ws) : StrsAre vs (ws.map tx) := by
  induction h with
  | nil => exact .nil
  | cons w t _ ih => exact .cons _ _ ih
theorem join_tx : ∀ ws : List (List Nat), Txt.join (Str.ofString "") (ws.map tx) = tx ws.flatten
  | [] => by show Str.empty = _; rfl
  | a :: r => by
    have ih := join_tx r
    change Builtin.Str.glued _ _ = _ at ih ⊢
    rw [StrLaws.glued_eq_join] at ih ⊢
    cases r with
    | nil => show tx a = _; simp
    | cons b q =>
      show tx a ++ Str.ofString "" ++ Str.join _ _ = _
      rw [ih, show Str.ofString "" = tx [] by decide +kernel, tx_append, tx_append]
      simp
theorem bsl_len : ∀ word : List Nat, (((word.map fun c => [92, c]).map tx).map (·.length)).sum = 2 * word.length
  | [] => rfl
  | a :: r => by
    have ih := bsl_len r
    rw [List.map_cons, List.map_cons, List.map_cons, List.sum_cons, ih, List.length_cons]
    show 2 + _ = _
    omega
theorem bsl_length : ∀ word : List Nat, (bsl word).length = 2 * word.length
  | [] => rfl
  | a :: r => by
    have ih := bsl_length r
    unfold bsl at ih ⊢
    rw [List.flatMap_cons, List.length_append, ih]
    simp only [List.length_cons, List.length_nil]
    omega
theorem nl_tx : Str.ofString "\n" = tx [10] := by decide +kernel
namespace Vspelled_p
noncomputable def At0 (w : World) (rest : Led) (word : List Nat) (t : Tok) (zvv : TelV) : Prop := ∀ (hw : word.length ≤ 30) (hne : word ≠ []), TelAt w 2 100 (.ref 129) [.str (tx word) t, .bool false] rest (fun v news' => ∃ t', v = .str (tx (bsl word ++ [10])) t' ∧ news' = rest) zvv
noncomputable def w : World := eps1 ne_world (fun w => ∀ rest word t zvv, At0 w rest word t zvv)
noncomputable def rest : Led := eps1 ne_led (fun rest => ∀ word t zvv, At0 w rest word t zvv)
noncomputable def word : List Nat := eps1 ne_list (fun word => ∀ t zvv, At0 w rest word t zvv)
noncomputable def t : Tok := eps1 ne_tok (fun t => ∀ zvv, At0 w rest word t zvv)
noncomputable def v0 : TelV := eps1 telV_ne (fun zvv => At0 w rest word t zvv)
noncomputable abbrev h₀ := v0.h₀
noncomputable abbrev L := v0.L
theorem aux (hw : word.length ≤ 30) (hne : word ≠ []) :
  TelAt w 2 100 (.ref 129) [.str (tx word) t, .bool false] rest (fun v news' => ∃ t', v = .str (tx (bsl word ++ [10])) t' ∧ news' = rest) v0 := by
  intro B F X N T C1 C2 C3 hk hd hu hret
  refine wpAny_call ?_
  k_dflt (first | (refine' code_defC ?k1 ?k2 ?k3 ?k4 ?k5 ?kA ?kF ?kK ?k6 ?k7 ?k8 ?k9 ?kB ?kD ?_ ?c2 ?c3 ?c4; (case kA => exact rfl); (case kF => exact rfl); (case kK => first | exact rfl | assumption); (case k1 => k_asm); (case k2 => k_asm); (case k3 => k_asm); (case k4 => k_asm); (case k5 => k_asm); (case k6 => k_is); (case k7 => k_is); (case k8 => k_room); (case k9 => first | exact BindsTo.of_eq rfl | exact binds_K (by k_in) rfl (by k_is) rfl rfl rfl | fail "k_enter: no rule for these arguments"); (case kB => exact rfl); (case kD => decide +kernel); (case c2 => exact rfl); (case c3 => exact rfl); (case c4 => exact rfl); k_whole; intro z9g z9L z9h z9tk z9cells z9FG z9F z9N z9Y z9B z9X z9T z9l1; (try k_lt z9l1); k_cells z9Y; (try simp only [List.cons_append, List.nil_append] at z9N); (try dsimp only); (try k_lift z9B); (try k_fold)) | cell_enter)
  (repeat' (first | (with_reducible refine wpAny_execs_cons ?_) | (with_reducible refine wpAny_execs_nil ?_) | (k_unfold; (try dsimp only)) | (k_end; wrow_close) | (cell_step; walk1) | (cell_step; dsimp only; walk1) | (leave1; walk_say "STEP leave1"; try dsimp only) | fail "no step"))
  · exact absurd (by assumption) (tx_empty hne)
  rename Fr _ _ _ _ => F'
  rename News _ _ _ _ => N'
  refine comp_text (fun c => [92, c]) (by with_unfolding_all exact rfl) F' N' ?g2 ?g3 (by simp [sizeLine]; omega)
  case g2 =>
    intro C c u s₂ m₂ E' hn hm htk
    (repeat' (first | (with_reducible refine wpAny_execs_cons ?_) | (with_reducible refine wpAny_execs_nil ?_) | (k_unfold; (try dsimp only)) | (k_end; wrow_close) | (cell_step; walk1) | (cell_step; dsimp only; walk1) | (leave1; walk_say "STEP leave1"; try dsimp only) | fail "no step"))
    refine PyProof.Rows.add_str (hsz := by simp [Str.length, sizeLine]; exact Nat.le_of_ble_eq_true rfl) ?_
    intro t8 k8
    (try dsimp only)
    (repeat' (first | (with_reducible refine wpAny_execs_cons ?_) | (with_reducible refine wpAny_execs_nil ?_) | (k_unfold; (try dsimp only)) | (k_end; wrow_close) | (cell_step; walk1) | (cell_step; dsimp only; walk1) | (leave1; walk_say "STEP leave1"; try dsimp only) | fail "no step"))
    exact ⟨_, _, rfl, fun _ _ e => e⟩
  intro D ys h9 tk9 F9 N9 hD hpl hT
  have hl := hpl.1.isList
  (repeat' (first | (with_reducible refine wpAny_execs_cons ?_) | (with_reducible refine wpAny_execs_nil ?_) | (k_unfold; (try dsimp only)) | (k_end; wrow_close) | (cell_step; walk1) | (cell_step; dsimp only; walk1) | (leave1; walk_say "STEP leave1"; try dsimp only) | fail "no step"))
  refine join_list hl (by rw [List.toList_toArray]; exact texts_strs hT) (by rw [bsl_len, List.length_map, List.length_map, show (Str.ofString "").length = 0 from rfl]; omega) ?_
  intro t1 k1
  (try dsimp only)
  rw [join_tx, show (word.map fun c => [92, c]).flatten = bsl word by unfold bsl; rw [List.flatMap_def]]
  have hbl : (bsl word).length = 2 * word.length := bsl_length word
  (repeat' (first | (with_reducible refine wpAny_execs_cons ?_) | (with_reducible refine wpAny_execs_nil ?_) | (k_unfold; (try dsimp only)) | (k_end; wrow_close) | (cell_step; walk1) | (cell_step; dsimp only; walk1) | (leave1; walk_say "STEP leave1"; try dsimp only) | fail "no step"))
  refine PyProof.Rows.add_str (hsz := by rw [nl_tx]; simp [Str.length, sizeLine]; omega) ?_
  intro t4 k4
  (try dsimp only)
  rw [nl_tx, tx_append]
  (repeat' (first | (with_reducible refine wpAny_execs_cons ?_) | (with_reducible refine wpAny_execs_nil ?_) | (k_unfold; (try dsimp only)) | (k_end; wrow_close) | (cell_step; walk1) | (cell_step; dsimp only; walk1) | (leave1; walk_say "STEP leave1"; try dsimp only) | fail "no step"))
  rename Fr h₀ L _ _ => F1
  rename News h₀ L _ _ => N1
  exact hret _ _ _ _ F1 (news_tail N1) ⟨_, rfl, rfl⟩
end Vspelled_p
theorem spelled_p (w : World) (rest : Led) (word : List Nat) (t : Tok) (hw : word.length ≤ 30) (hne : word ≠ []) :
  Tel w 2 100 (.ref 129) [.str (tx word) t, .bool false] rest (fun v news' => ∃ t', v = .str (tx (bsl word ++ [10])) t' ∧ news' = rest) := tel_of fun zvv => (show ∀ w rest word t zvv, Vspelled_p.At0 w rest word t zvv from (eps1_all (eps1_all (eps1_all (eps1_all (eps1_all @Vspelled_p.aux)))))) w rest word t zvv hw hne
end
end
section
local macro_rules | `(tactic| cell_step) => `(tactic| (walk_at "s1"))
section
noncomputable def sqStep (p : Int × Int × Int × Int) (q : Int) : Int × Int × Int × Int := (p.1 * q + p.2.1, p.1, p.2.2.1 * q + p.2.2.2, p.2.2.1)
noncomputable def sq (qs : List Int) : Int × Int × Int × Int := qs.foldl sqStep (1, 0, 0, 1)
inductive SqPost (rest : Led) (qs : List Int) (v : Value) (news' : Led) : Prop
  | mk (T : Addr) (ta : Tok) (tb : Tok) (tc : Tok) (td : Tok) (zh1 : v = .ref T) (zh2 : news' = (T, { cls := .type "tuple", data := .seq #[.int (sq qs).1 ta, .int (sq qs).2.1 tb, .int (sq qs).2.2.1 tc, .int (sq qs).2.2.2 td] 0 }) :: rest) (zh3 : topA rest ≤ T)
inductive SqInv (rest : Led) (c : Nat) (qs : List Int) (dv : List Value) (m' : Str → Option Value) (nx : Led) : Prop
  | mk (ds : List Int) (p : Int × Int × Int × Int) (ta : Tok) (tb : Tok) (tc : Tok) (td : Tok) (zh1 : IntsAre dv ds) (zh2 : (∀ q ∈ ds, 0 ≤ q ∧ q ≤ 4096)) (zh3 : ds.foldl sqStep p = sq qs) (zh4 : Has m' [(Str.ofString "a", .int p.1 ta), (Str.ofString "b", .int p.2.1 tb), (Str.ofString "c", .int p.2.2.1 tc), (Str.ofString "d", .int p.2.2.2 td)]) (zh5 : nx = rest)
namespace Vsquare
noncomputable def At0 (w : World) (rest : Led) (D : Addr) (vs : List Value) (c : Nat) (qs : List Int) (z : TelV) : Prop := ∀ (hi : IntsAre vs qs) (hm : (D, W.listOf vs.toArray c) ∈ rest) (hq : ∀ q ∈ qs, 0 ≤ q ∧ q ≤ 4096), TelAt w 2 100 (.ref 143) [.ref D] rest (SqPost rest qs) z
noncomputable def w : World := eps1 ne_world (fun w => ∀ rest D vs c qs z, At0 w rest D vs c qs z)
noncomputable def rest : Led := eps1 ne_led (fun rest => ∀ D vs c qs z, At0 w rest D vs c qs z)
noncomputable def D : Addr := eps1 ne_addr (fun D => ∀ vs c qs z, At0 w rest D vs c qs z)
noncomputable def vs : List Value := eps1 ne_list (fun vs => ∀ c qs z, At0 w rest D vs c qs z)
noncomputable def c : Nat := eps1 ne_nat (fun c => ∀ qs z, At0 w rest D vs c qs z)
noncomputable def qs : List Int := eps1 ne_list (fun qs => ∀ z, At0 w rest D vs c qs z)
noncomputable def v0 : TelV := eps1 telV_ne (fun z => At0 w rest D vs c qs z)
noncomputable abbrev h₀ := v0.h₀
noncomputable abbrev L := v0.L
noncomputable abbrev m := v0.m
theorem aux (hi : IntsAre vs qs) (hm : (D, W.listOf vs.toArray c) ∈ rest) (hq : ∀ q ∈ qs, 0 ≤ q ∧ q ≤ 4096) :
  TelAt w 2 100 (.ref 143) [.ref D] rest (SqPost rest qs) v0 := by
  intro B F X N T C1 C2 C3 hk hd hu hret
  refine wpAny_call ?_
  k_dflt (first | (refine' code_defC ?k1 ?k2 ?k3 ?k4 ?k5 ?kA ?kF ?kK ?k6 ?k7 ?k8 ?k9 ?kB ?kD ?_ ?c2 ?c3 ?c4; (case kA => exact rfl); (case kF => exact rfl); (case kK => first | exact rfl | assumption); (case k1 => k_asm); (case k2 => k_asm); (case k3 => k_asm); (case k4 => k_asm); (case k5 => k_asm); (case k6 => k_is); (case k7 => k_is); (case k8 => k_room); (case k9 => first | exact BindsTo.of_eq rfl | exact binds_K (by k_in) rfl (by k_is) rfl rfl rfl | fail "k_enter: no rule for these arguments"); (case kB => exact rfl); (case kD => decide +kernel); (case c2 => exact rfl); (case c3 => exact rfl); (case c4 => exact rfl); k_whole; intro z9g z9L z9h z9tk z9cells z9FG z9F z9N z9Y z9B z9X z9T z9l1; (try k_lt z9l1); k_cells z9Y; (try simp only [List.cons_append, List.nil_append] at z9N); (try dsimp only); (try k_lift z9B); (try k_fold)) | cell_enter)
  (repeat' (first | (with_reducible refine if_ff ?_) | (with_reducible refine if_tt ?_) | (k_unfold; (try dsimp only)) | (k_end; wrow_close) | (cell_step; walk1) | (cell_step; dsimp only; walk1) | (leave1; walk_say "STEP leave1"; try dsimp only) | fail "no step"))
  (rename Fr _ _ _ _ => lF')
  (with_unfolding_all refine' For_invVF lF' ?k1 ?k2 ?_; (case k1 => exact rfl); (case k2 => exact rfl))
  (repeat' (first | (with_reducible refine if_ff ?_) | (with_reducible refine if_tt ?_) | (k_unfold; (try dsimp only)) | (k_end; wrow_close) | (cell_step; walk1) | (cell_step; dsimp only; walk1) | (leave1; walk_say "STEP leave1"; try dsimp only) | fail "no step"))
  rename Fr _ _ _ _ => F1
  rename News _ _ _ _ => N0
  have N1 := news_tail N0
  clear N0
  refine' iter_listUnr (ax := D) (lo := W.listOf vs.toArray c) (vs := vs) rfl F1 N1 hm rfl rfl ?rest
  case rest =>
  intro I hI
  refine listRest_indR (SqInv rest c qs) ?zero ?succ _ _ _ ?init
  case init =>
    exact ⟨qs, (1, 0, 0, 1), _, _, _, _, hi, hq, rfl, ⟨rfl, rfl, rfl, rfl, trivial⟩, rfl⟩
  case zero =>
    rintro m' nx ⟨ds, p, ta, tb, tc, td, hds, hqs, hp, hM, rfl⟩ h6 tk6 F6 N6
    cases hds
    have F7 := fr_all0 hM F6
    clear F6
    (try dsimp only)
    (repeat' (first | (with_reducible refine if_ff ?_) | (with_reducible refine if_tt ?_) | (k_unfold; (try dsimp only)) | (k_end; wrow_close) | (cell_step; walk1) | (cell_step; dsimp only; walk1) | (leave1; walk_say "STEP leave1"; try dsimp only) | fail "no step"))
    rename Fr h₀ L _ _ => F8
    rename News h₀ L _ _ => N8
    have hp' : p = sq qs := hp
    rw [hp'] at N8
    refine hret _ _ _ _ F8 N8 ⟨_, _, _, _, _, rfl, rfl, ?_⟩
    first | omega | exact topA_of (by assumption) | skip
    done
  case succ =>
    rintro v rv m' nx ⟨ds, p, ta, tb, tc, td, hds, hqs, hp, hM, rfl⟩ it h6 tk6 hit F6 N6 R9 hR9
    cases hds with
    | cons d td' hds' =>
    rename_i ds'
    have F7 := fr_all hM F6
    clear F6
    have hd1 := hqs d (.head _)
    have hbd : Builtin.Int.intBits d ≤ 64 := Nat.le_trans (bits_of_lt (m := 13) hd1.1 (by have := hd1.2; show d < 8192; omega)) (by decide)
    have hm1 : IntMulOk p.1 d := IntMulOk.of_right hbd
    have hm2 : IntMulOk p.2.2.1 d := IntMulOk.of_right hbd
    (repeat' (first | (with_reducible refine if_ff ?_) | (with_reducible refine if_tt ?_) | (k_unfold; (try dsimp only)) | (k_end; wrow_close) | (cell_step; walk1) | (cell_step; dsimp only; walk1) | (leave1; walk_say "STEP leave1"; try dsimp only) | fail "no step"))
    rename Fr _ _ _ _ => F8
    rename News _ _ _ _ => N8
    refine hR9 _ _ ?_
    show UnrEnd _ _ _ _ _ _ _
    refine UnrEnd.intro F8 N8 _ (by kcj_all) (topA_ne (by exact topA_of hI)) ⟨hm, ds', sqStep p d, _, _, _, _, hds', fun q hq => hqs q (.tail _ hq), hp, ⟨rfl, rfl, rfl, rfl, trivial⟩, rfl⟩
end Vsquare
theorem square (w : World) (rest : Led) (D : Addr) (vs : List Value) (c : Nat) (qs : List Int) (hi : IntsAre vs qs) (hm : (D, W.listOf vs.toArray c) ∈ rest) (hq : ∀ q ∈ qs, 0 ≤ q ∧ q ≤ 4096) :
  Tel w 2 100 (.ref 143) [.ref D] rest (SqPost rest qs) := tel_of fun z => (show ∀ w rest D vs c qs z, Vsquare.At0 w rest D vs c qs z from (eps1_all (eps1_all (eps1_all (eps1_all (eps1_all (eps1_all (eps1_all @Vsquare.aux)))))))) w rest D vs c qs z hi hm hq
end
section
noncomputable def eu : List Int → Int × Int
  | [] => (1, 1)
  | q :: r => (q * (eu r).1 + (eu r).2, (eu r).1)
theorem eu_sq : ∀ (qs : List Int) (p : Int × Int × Int × Int), (qs.foldl sqStep p).1 + (qs.foldl sqStep p).2.1 = p.1 * (eu qs).1 + p.2.1 * (eu qs).2 ∧ (qs.foldl sqStep p).2.2.1 + (qs.foldl sqStep p).2.2.2 = p.2.2.1 * (eu qs).1 + p.2.2.2 * (eu qs).2
  | [], p => by simp [eu]
  | q :: r, p => by
    rw [List.foldl_cons]
    have := eu_sq r (sqStep p q)
    rw [this.1, this.2]
    simp only [eu, sqStep]
    constructor <;> grind
theorem eu_ok : ∀ (qs : List Int), (∀ q ∈ qs, 1 ≤ q ∧ q ≤ 4096) → 1 ≤ (eu qs).2 ∧ (eu qs).2 ≤ (eu qs).1 ∧ (eu qs).1 < 2 ^ (13 * qs.length + 1) ∧ (qs ≠ [] → (eu qs).2 < (eu qs).1)
  | [], _ => by simp [eu]
  | q :: r, h => by
    obtain ⟨h1, h2, h3, _⟩ := eu_ok r fun x hx => h x (.tail _ hx)
    have hq := h q (.head _)
    have h4 : 1 * (eu r).1 ≤ q * (eu r).1 := Int.mul_le_mul_of_nonneg_right hq.1 (by omega)
    have h5 : q * (eu r).1 ≤ 4096 * (eu r).1 := Int.mul_le_mul_of_nonneg_right hq.2 (by omega)
    have e : (2 : Int) ^ (13 * (r.length + 1) + 1) = 8192 * 2 ^ (13 * r.length + 1) := by
      rw [show 13 * (r.length + 1) + 1 = 13 + (13 * r.length + 1) by omega, Int.pow_add]
      rfl
    simp only [eu, List.length_cons]
    rw [e]
    refine ⟨by omega, by omega, by omega, fun _ => by omega⟩
theorem news_perm {h₀ h : Heap} {L : Addr} {a b : Led} (N : News h₀ L h a) (hs : ∀ p ∈ b, p ∈ a) : News h₀ L h b := fun p hp => N p (hs p hp)
theorem nDig_le {n : Nat} {a : Int} (hn : 0 < n) : nDig n a ≤ Builtin.Int.intBits a := by
  unfold nDig
  generalize Builtin.Int.intBits a = x
  obtain ⟨k, rfl⟩ : ∃ k, n = k + 1 := ⟨n - 1, by omega⟩
  cases x with
  | zero => exact Nat.le_of_eq (Nat.div_eq_of_lt (by omega))
  | succ y =>
    refine Nat.div_le_of_le_mul ?_
    have : (k + 1) * (y + 1) = k * y + k + y + 1 := by grind
    rw [this]
    omega
theorem bits_pos {b : Int} (hb : b ≠ 0) : 0 < Builtin.Int.intBits b := by
  rcases Nat.eq_zero_or_pos (Builtin.Int.intBits b) with h | h
  · have := intBits_le_iff.mp (Nat.le_of_eq h)
    simp at this
    exact absurd this hb
  · exact h
inductive EucPost (tb : Led) (rest : Led) (qs : List Int) (v : Value) (news' : Led) : Prop
  | mk (d) (us) (c') (tb') (zh1 : v = .ref d) (zh2 : IntsAre us qs) (zh3 : topA (tb ++ rest) ≤ d) (zh4 : news' = (d, W.listOf us.toArray c') :: (tb' ++ rest)) (zh5 : Tabs tb') (zh6 : Newer tb tb' (topA (tb ++ rest)))
inductive EucInv (tb : Led) (rest : Led) (qs : List Int) (k : Nat) (m' : Str → Option Value) (nx : Led) : Prop
  | mk (qa : List Int) (qb : List Int) (us : List Value) (ep : Nat) (d : Addr) (tb' : Led) (x : Int) (y : Int) (tt : Tok) (tl : Tok) (zh1 : qs = qa ++ qb) (zh2 : x = (eu qb).1) (zh3 : y = (eu qb).2) (zh4 : IntsAre us qa) (zh5 : k = qb.length) (zh6 : Has m' [(Str.ofString "top", .int x tt), (Str.ofString "low", .int y tl), (Str.ofString "told", .ref d)]) (zh7 : nx = (d, W.listOf us.toArray ep) :: (tb' ++ rest)) (zh8 : topA (tb ++ rest) ≤ d) (zh9 : Tabs tb') (zh10 : Newer tb tb' (topA (tb ++ rest))) (zh11 : OwnOff tb' [d])
namespace Veuclid
noncomputable def At0 (w : World) (rest : Led) (D : Addr) (vs : List Value) (c : Nat) (qs : List Int) (z : TelV) : Prop := ∀ (tb : Led) (hi : IntsAre vs qs) (hm : (D, W.listOf vs.toArray c) ∈ rest) (hq : ∀ q ∈ qs, 1 ≤ q ∧ q ≤ 4096) (hl : qs.length ≤ 18) (off1 : OwnOff rest [30]) (off2 : OwnOff rest [37]) (ht : Tabs tb), TelAt w 270 2400 (.ref 157) [.ref D] (tb ++ rest) (EucPost tb rest qs) z
noncomputable def w : World := eps1 ne_world (fun w => ∀ rest D vs c qs z, At0 w rest D vs c qs z)
noncomputable def rest : Led := eps1 ne_led (fun rest => ∀ D vs c qs z, At0 w rest D vs c qs z)
noncomputable def D : Addr := eps1 ne_addr (fun D => ∀ vs c qs z, At0 w rest D vs c qs z)
noncomputable def vs : List Value := eps1 ne_list (fun vs => ∀ c qs z, At0 w rest D vs c qs z)
noncomputable def c : Nat := eps1 ne_nat (fun c => ∀ qs z, At0 w rest D vs c qs z)
noncomputable def qs : List Int := eps1 ne_list (fun qs => ∀ z, At0 w rest D vs c qs z)
noncomputable def v0 : TelV := eps1 telV_ne (fun z => At0 w rest D vs c qs z)
noncomputable abbrev h₀ := v0.h₀
noncomputable abbrev L := v0.L
theorem aux (tb : Led) (hi : IntsAre vs qs) (hm : (D, W.listOf vs.toArray c) ∈ rest) (hq : ∀ q ∈ qs, 1 ≤ q ∧ q ≤ 4096) (hl : qs.length ≤ 18) (off1 : OwnOff rest [30]) (off2 : OwnOff rest [37]) (ht : Tabs tb) :
  TelAt w 270 2400 (.ref 157) [.ref D] (tb ++ rest) (EucPost tb rest qs) v0 := by
  intro B F X N T C1 C2 C3 hk hd hu hret
  refine wpAny_call ?_
  k_dflt (first | (refine' code_defC ?k1 ?k2 ?k3 ?k4 ?k5 ?kA ?kF ?kK ?k6 ?k7 ?k8 ?k9 ?kB ?kD ?_ ?c2 ?c3 ?c4; (case kA => exact rfl); (case kF => exact rfl); (case kK => first | exact rfl | assumption); (case k1 => k_asm); (case k2 => k_asm); (case k3 => k_asm); (case k4 => k_asm); (case k5 => k_asm); (case k6 => k_is); (case k7 => k_is); (case k8 => k_room); (case k9 => first | exact BindsTo.of_eq rfl | exact binds_K (by k_in) rfl (by k_is) rfl rfl rfl | fail "k_enter: no rule for these arguments"); (case kB => exact rfl); (case kD => decide +kernel); (case c2 => exact rfl); (case c3 => exact rfl); (case c4 => exact rfl); k_whole; intro z9g z9L z9h z9tk z9cells z9FG z9F z9N z9Y z9B z9X z9T z9l1; (try k_lt z9l1); k_cells z9Y; (try simp only [List.cons_append, List.nil_append] at z9N); (try dsimp only); (try k_lift z9B); (try k_fold)) | cell_enter)
  (repeat' (first | (with_reducible refine if_ff ?_) | (with_reducible refine if_tt ?_) | (k_unfold; (try dsimp only)) | (k_end; wrow_close) | (cell_step; walk1) | (cell_step; dsimp only; walk1) | (leave1; walk_say "STEP leave1"; try dsimp only) | fail "no step"))
  (refine' tel_use ?tH ?tB ?tF ?tX ?tN ?tT ?tC1 ?tC2 ?tC3 ?tk ?td ?tu ?_; (case tB => k_asm); (case tF => k_asm); (case tX => k_asm); (case tN => k_asm); (case tT => k_asm); (case tC1 => assumption); (case tC2 => assumption); (case tC3 => assumption); (case tk => first | exact rfl | assumption); (case tH => exact (square w (tb ++ rest) D vs c qs hi (List.mem_append_right _ hm) fun q h => ⟨by have := hq q h; omega, (hq q h).2⟩)); (case td => ktr_room); (case tu => ktr_units))
  rintro v9 h9 tk9 news9 F9 N9 ⟨T9, ta9, tb9, tc9, td9, rfl, rfl, hT9⟩
  (try dsimp only)
  (repeat' (first | (with_reducible refine if_ff ?_) | (with_reducible refine if_tt ?_) | (k_unfold; (try dsimp only)) | (k_end; wrow_close) | (cell_step; walk1) | (cell_step; dsimp only; walk1) | (leave1; walk_say "STEP leave1"; try dsimp only) | fail "no step"))
  rename Fr _ _ _ _ => F1
  rename News _ _ _ _ => N0
  have N1 := news_skip2 (news_skip2 N0)
  clear N0
  have hoff : ∀ d : Addr, topA (tb ++ rest) ≤ d → OwnOff tb [d] := fun d h p hp e he => by
    rw [List.mem_singleton.mp he]
    exact topA_ne (Nat.le_trans (by rw [topA_app]; omega) h) p hp
  have hsq := eu_sq qs (1, 0, 0, 1)
  simp only [Int.one_mul, Int.zero_mul, Int.add_zero, Int.zero_add] at hsq
  with_unfolding_all refine While_invR (n₀ := qs.length) (EucInv tb rest qs) F1 N1 ?hJ ?turn
  case hJ =>
    exact ⟨[], qs, [], _, _, tb, _, _, _, _, rfl, hsq.1, hsq.2, .nil, rfl, ⟨rfl, rfl, rfl, trivial⟩, rfl, (by rw [topA_app]; omega), ht, Newer.rfl _ _, hoff _ (by rw [topA_app]; omega)⟩
  case turn =>
    rintro k m' nx h6 tk6 F6 N6 ⟨qa, qb, us, ep, d, tb', x, y, tt, tl, hqs, hx, hy, hus, rfl, hM, rfl, hd', ht', hnew, hoffd⟩ R9 R8 hR9 hR8
    have F7 := fr_all0 hM F6
    clear F6
    have N7 : News _ _ _ (tb' ++ ((d, W.listOf us.toArray ep) :: rest)) := news_perm N6 (by intro p hp; simp only [List.mem_cons, List.mem_append] at hp ⊢; grind)
    clear N6
    obtain ⟨g1, g2, g3, g4⟩ := eu_ok qb fun q h => hq q (by rw [hqs]; exact List.mem_append_right _ h)
    (repeat' (first | (with_reducible refine if_ff ?_) | (with_reducible refine if_tt ?_) | (k_unfold; (try dsimp only)) | (k_end; wrow_close) | (cell_step; walk1) | (cell_step; dsimp only; walk1) | (leave1; walk_say "STEP leave1"; try dsimp only) | fail "no step"))
    · have hne : x ≠ y := by first | assumption | omega
      cases qb with
      | nil => exact absurd (hx.trans hy.symm) hne
      | cons q r =>
      obtain ⟨k1, k2, k3, _⟩ := eu_ok r fun z h => hq z (by rw [hqs]; exact List.mem_append_right _ (.tail _ h))
      have hq1 := hq q (by rw [hqs]; exact List.mem_append_right _ (.head _))
      simp only [eu] at hx hy g1 g2 g3
      have hlq : (q :: r).length ≤ 18 := by
        have := congrArg List.length hqs
        rw [List.length_append] at this
        omega
      have hmul : 0 ≤ q * (eu r).1 := Int.mul_nonneg (by omega) (by omega)
      have hbig : x - 1 < 2 ^ 235 := by
        have h1 : (2 : Int) ^ (13 * (q :: r).length + 1) ≤ 2 ^ 235 := by
          exact_mod_cast Nat.pow_le_pow_right (n := 2) (by decide) (show 13 * (q :: r).length + 1 ≤ 235 by omega)
        omega
      have hb1 : Builtin.Int.intBits (x - 1) ≤ 235 := bits_of_lt (by omega) hbig
      have hb2 : Builtin.Int.intBits y ≤ 235 := bits_of_lt (by omega) (by omega)
      have hn := nDig_le (n := Builtin.Int.intBits y) (a := x - 1) (bits_pos (by omega))
      have hD30 : ∀ e ∈ [30, 37], d ≠ e := fun e he hde => by
        obtain ⟨t1, t2, rfl, h1, h2, _, _⟩ := ht
        have a1 := tabL_top h1
        have a2 := tabL_top h2
        rw [topA_app, topA_app] at hd'
        rcases List.mem_cons.mp he with rfl | he
        · subst hde; omega
        · rw [List.mem_singleton.mp he] at hde; subst hde; omega
      (refine' tel_use ?tH ?tB ?tF ?tX ?tN ?tT ?tC1 ?tC2 ?tC3 ?tk ?td ?tu ?_; (case tB => k_asm); (case tF => k_asm); (case tX => k_asm); (case tN => k_asm); (case tT => k_asm); (case tC1 => assumption); (case tC2 => assumption); (case tC3 => assumption); (case tk => first | exact rfl | assumption); (case tH => exact (idm w tb' ((d, W.listOf us.toArray ep) :: rest) (x - 1) y _ _ (by omega) (by omega) (by omega) (by omega) (ownOff_cons (fun e he => hD30 e (by simp at he; simp [he])) off1) (ownOff_cons (fun e he => hD30 e (by simp at he; simp [he])) off2) ht')); (case td => ktr_room); (case tu => ktr_units))
      rintro v8 h8 tk8 news8 F8 N8 ⟨d8, tq8, tr8, tb8, rfl, hd8, rfl, ht8, hnew8⟩
      have edm := divmod_is (a := x - 1) (b := y) (q := q) (r := (eu r).2 - 1) (by rw [hx, hy]; omega) (by omega) (by omega)
      rw [Int.fdiv_eq_ediv_of_nonneg _ (by omega), Int.fmod_eq_emod_of_nonneg _ (by omega), edm.1, edm.2] at N8
      have N9 : News _ _ _ ((d, W.listOf us.toArray ep) :: (d8, { cls := .type "tuple", data := .seq #[.int q tq8, .int ((eu r).2 - 1) tr8] }) :: (tb8 ++ rest)) := news_perm N8 (by intro p hp; simp only [List.mem_cons, List.mem_append] at hp ⊢; grind)
      clear N8
      (try dsimp only)
      (repeat' (first | (with_reducible refine if_ff ?_) | (with_reducible refine if_tt ?_) | (k_unfold; (try dsimp only)) | (k_end; wrow_close) | (cell_step; walk1) | (cell_step; dsimp only; walk1) | (leave1; walk_say "STEP leave1"; try dsimp only) | fail "no step"))
      have hul := hus.length
      have hql := congrArg List.length hqs
      rw [List.length_append] at hql
      rename Fr _ _ _ _ => F10
      rename News _ _ _ _ => N10
      rw [topA_app] at hd'
      simp only [topA_app, topA_cons, Nat.max_le] at hd8
      have hoff8 : OwnOff tb8 [d] := newer_off hnew8 hoffd (by show @LT.lt Nat _ d (topA (tb' ++ ((d, W.listOf us.toArray ep) :: rest))); rw [topA_app, topA_cons]; omega)
      k_dflt (refine' append_K F10 N10 (.head ?U) ?_ ?z; (case z => simp [sizeLine]; omega))
      case U =>
        intro p hp
        rcases List.mem_cons.mp hp with rfl | hp
        · show d8 ≠ d
          intro e
          subst e
          omega
        · rcases List.mem_append.mp hp with hp | hp
          · exact hoff8 p hp d (by simp)
          · exact topA_ne (by omega) p hp
      intro h11 F11 N11
      (try dsimp only)
      (repeat' (first | (with_reducible refine if_ff ?_) | (with_reducible refine if_tt ?_) | (k_unfold; (try dsimp only)) | (k_end; wrow_close) | (cell_step; walk1) | (cell_step; dsimp only; walk1) | (leave1; walk_say "STEP leave1"; try dsimp only) | fail "no step"))
      rename Fr _ _ _ _ => F12
      rename News _ _ _ _ => N12
      have N13 : News _ _ _ ((d, W.listOf (us.toArray.push (.int q tq8)) (ep + 1)) :: (tb8 ++ rest)) := news_perm N12 (by intro p hp; simp only [List.mem_cons, List.mem_append] at hp ⊢; grind)
      rw [show us.toArray.push (Value.int q tq8) = (us ++ [Value.int q tq8]).toArray by simp] at N13
      refine hR9 _ _ ?_
      dsimp only [WhileStep2]
      refine ⟨_, _, _, _, r.length, rfl, F12, N13, (by simp), qa ++ [q], r, _, _, d, tb8, _, _, _, _, (by rw [hqs]; simp), ?_, ?_, hus.append (.cons _ _ .nil), rfl, ⟨rfl, rfl, rfl, trivial⟩, rfl, (by rw [topA_app]; omega), ht8, ?_, hoff8⟩
      · exact hy
      · omega
      · exact hnew.trans hnew8 (by rw [topA_app, topA_app, topA_cons]; omega)
    · refine hR8 _ ?_
      (try dsimp only)
      (repeat' (first | (with_reducible refine if_ff ?_) | (with_reducible refine if_tt ?_) | (k_unfold; (try dsimp only)) | (k_end; wrow_close) | (cell_step; walk1) | (cell_step; dsimp only; walk1) | (leave1; walk_say "STEP leave1"; try dsimp only) | fail "no step"))
      rename Fr h₀ L _ _ => F8
      rename News h₀ L _ _ => N8
      have hqb : qb = [] := Decidable.byContradiction fun h => by
        have := g4 h
        have hxy : x = y := by first | assumption | (refine Decidable.of_not_not ?_; assumption) | omega
        omega
      subst hqb
      rw [List.append_nil] at hqs
      subst hqs
      replace N8 : News _ _ _ ((d, W.listOf us.toArray ep) :: (tb' ++ rest)) := news_perm N8 (by intro p hp; simp only [List.mem_cons, List.mem_append] at hp ⊢; grind)
      exact hret _ _ _ _ F8 N8 ⟨_, us, _, tb', rfl, hus, hd', rfl, ht', hnew⟩
end Veuclid
theorem euclid (w : World) (tb rest : Led) (D : Addr) (vs : List Value) (c : Nat) (qs : List Int) (hi : IntsAre vs qs) (hm : (D, W.listOf vs.toArray c) ∈ rest) (hq : ∀ q ∈ qs, 1 ≤ q ∧ q ≤ 4096) (hl : qs.length ≤ 18) (off1 : OwnOff rest [30]) (off2 : OwnOff rest [37]) (ht : Tabs tb) :
  Tel w 270 2400 (.ref 157) [.ref D] (tb ++ rest) (EucPost tb rest qs) := tel_of fun z => (show ∀ w rest D vs c qs z, Veuclid.At0 w rest D vs c qs z from (eps1_all (eps1_all (eps1_all (eps1_all (eps1_all (eps1_all (eps1_all @Veuclid.aux)))))))) w rest D vs c qs z tb hi hm hq hl off1 off2 ht
end
section
noncomputable abbrev envL (L : Addr) (fa : Addr) (cd : Value) : Env := envOfC (Str.ofString "law") (fScope (fn 23)) L fa cd
noncomputable abbrev blk (i k : Nat) : List Stmt := ((fBody (fn 23)).drop i).take k
noncomputable def Stg (w : World) (fa : Addr) (cd : Value) (L : Addr) (i k : Nat) (P : Heap → Prop) (m : Str → Option Value) (news : Led) (R : (Str → Option Value) → Led → Prop) : Prop :=
  ∀ (mean : ExcName → Option Value) (mg mb : Str → Option Value) (base : Heap) (s : Shared) (rest : List Stmt) (Q : Flow → Shared → Prop) (E : Value → Shared → Prop),
    Below callerA base [] base → Fr base L s.heap m → (hd02.heap_1 w.params).In base → News base L s.heap news → Top topProg topL mean mg mb base → CodeHd base 135 131 → CodeHd base 41 37 → CodeHd base 34 30 → PassesOwn (model Challenge.rw_ty0035_02.row.prog w) (callerA.deeper (envL L fa cd)) (envL L fa cd) E → P base →
    (∀ h' tk' m' news', Fr base L h' m' → News base L h' news' → R m' news' → wpAny (model Challenge.rw_ty0035_02.row.prog w) (callerA.deeper (envL L fa cd)) (execs rest (envL L fa cd)) Q E { s with heap := h', toks := tk' }) →
    wpAny (model Challenge.rw_ty0035_02.row.prog w) (callerA.deeper (envL L fa cd)) (execs (blk i k ++ rest) (envL L fa cd)) Q E s
noncomputable abbrev sevn : List Nat := [97, 32, 34, 92, 35, 10, 9]
theorem item_sign {i : Int} (h0 : 0 ≤ i) (h : i < 7) : ∃ u, sevn[i.toNat]? = some u ∧ Txt.item (Str.ofString "a \"\\#\n\t") i = tx [u] := by
  have : i = 0 ∨ i = 1 ∨ i = 2 ∨ i = 3 ∨ i = 4 ∨ i = 5 ∨ i = 6 := by omega
  rcases this with rfl | rfl | rfl | rfl | rfl | rfl | rfl <;> exact ⟨_, rfl, by decide +kernel⟩
noncomputable abbrev cells9 (L : Addr) (o1 o2 o3 o4 o5 o6 o7 o8 o9 : Obj) (tabs : Led) : Led := (L + 1 + 1 + 1 + 1 + 1 + 1 + 1 + 1 + 1, o9) :: (L + 1 + 1 + 1 + 1 + 1 + 1 + 1 + 1, o8) :: (L + 1 + 1 + 1 + 1 + 1 + 1 + 1, o7) :: (L + 1 + 1 + 1 + 1 + 1 + 1, o6) :: (L + 1 + 1 + 1 + 1 + 1, o5) :: (L + 1 + 1 + 1 + 1, o4) :: (L + 1 + 1 + 1, o3) :: (L + 1 + 1, o2) :: (L + 1, o1) :: tabs
noncomputable abbrev tabs3 : Led := [(131, tabObj #[]), (37, tabObj #[]), (30, tabObj #[])]
noncomputable def offC (L : Addr) (tabs : Led) (D : Addr) : Prop := @Ne Nat (L + 1 + 1 + 1 + 1 + 1 + 1 + 1 + 1 + 1) D ∧ @Ne Nat (L + 1 + 1 + 1 + 1 + 1 + 1 + 1 + 1) D ∧ @Ne Nat (L + 1 + 1 + 1 + 1 + 1 + 1 + 1) D ∧ @Ne Nat (L + 1 + 1 + 1 + 1 + 1 + 1) D ∧ @Ne Nat (L + 1 + 1 + 1 + 1 + 1) D ∧ @Ne Nat (L + 1 + 1 + 1 + 1) D ∧ @Ne Nat (L + 1 + 1 + 1) D ∧ @Ne Nat (L + 1 + 1) D ∧ @Ne Nat (L + 1) D ∧ LCg.Off1 D tabs
theorem off1_of {D : Addr} : ∀ {l : Led}, (∀ p ∈ l, p.1 ≠ D) → LCg.Off1 D l
  | [], _ => trivial
  | p :: l, h => ⟨h p (.head _), off1_of fun q hq => h q (.tail _ hq)⟩
theorem offC_top {L D : Addr} {tabs : Led} (h : @LT.lt Nat _ (L + 9) D) (k : topA tabs ≤ D) : offC L tabs D := by
  have : ∀ i ≤ 9, @Ne Nat (L + i) D := fun i hi => Nat.ne_of_lt (Nat.lt_of_le_of_lt (Nat.add_le_add_left hi L) h)
  exact ⟨this 9 (by omega), this 8 (by omega), this 7 (by omega), this 6 (by omega), this 5 (by omega), this 4 (by omega), this 3 (by omega), this 2 (by omega), this 1 (by omega), off1_of (topA_ne k)⟩
theorem off1_own {D : Addr} : ∀ {l : Led}, LCg.Off1 D l → OwnOff l [D]
  | [], _, p, hp => nomatch hp
  | q :: l, h, p, hp => by
    intro b hb e
    rw [List.mem_singleton.mp hb] at e
    rcases List.mem_cons.mp hp with rfl | hp
    · exact h.1 e
    · exact off1_own h.2 p hp D (List.mem_singleton.mpr rfl) e
section
variable {prog : Program} {w : World} {A : Around} {E : Value → Shared → Prop} {s : Shared} {h₀ : Heap} {L : Addr} {m : Str → Option Value} {news : Led}
theorem cat_lists {l b : Addr} {vs ws : List Value} {Q : Value → Shared → Prop} (F : Fr h₀ L s.heap m) (N : News h₀ L s.heap news) (hl : s.heap.IsList l vs.toArray) (hb : s.heap.IsList b ws.toArray)
    (h : ∀ D h', Fr h₀ L h' m → News h₀ L h' ((D, W.listOf (vs ++ ws).toArray 0) :: news) → topA news ≤ D → Q (.ref D) { s with heap := h' }) (hsz : vs.length + ws.length ≤ sizeLine) :
    wpAny (model prog w) A (binaryOp .Add (.ref l) (.ref b)) Q E s :=
  add_lists (hsz := hsz) F N hl hb fun h' F' N' => h _ h' F' N' (topA_of fun p hp => Heap.lt_size (N p hp).1)
end
theorem ne_mod (p q : Int) (h0 : 0 ≤ q) (h1 : q < 6) : (p % 7).toNat ≠ ((p + 1 + q) % 7).toNat := by
  have : q = 0 ∨ q = 1 ∨ q = 2 ∨ q = 3 ∨ q = 4 ∨ q = 5 := by omega
  have ha := Int.emod_nonneg p (show (7 : Int) ≠ 0 by decide)
  have hb := Int.emod_nonneg (p + 1 + q) (show (7 : Int) ≠ 0 by decide)
  intro e
  have e2 : p % 7 = (p + 1 + q) % 7 := by omega
  rcases this with rfl | rfl | rfl | rfl | rfl | rfl <;> omega
theorem m7 (z : Int) : 0 ≤ z.fmod 7 ∧ z.fmod 7 < 7 := by rw [Int.fmod_eq_emod_of_nonneg _ (by decide)]; omega
theorem m6 (z : Int) : 0 ≤ z.fmod 6 ∧ z.fmod 6 < 6 := by rw [Int.fmod_eq_emod_of_nonneg _ (by decide)]; omega
theorem ne_fmod (p r : Int) : (p.fmod 7).toNat ≠ ((p + 1 + r.fmod 6).fmod 7).toNat := by
  rw [Int.fmod_eq_emod_of_nonneg _ (by decide), Int.fmod_eq_emod_of_nonneg _ (by decide)]
  exact ne_mod _ _ (m6 r).1 (m6 r).2
theorem sevn_inj {i j u : Nat} (h : sevn[i]? = some u) (k : sevn[j]? = some u) : i = j := by
  have hi : i < 7 := (List.getElem?_eq_some_iff.mp h).1
  have hj : j < 7 := (List.getElem?_eq_some_iff.mp k).1
  have hnd : ∀ i < 7, ∀ j < 7, sevn[i]? = sevn[j]? → i = j := by decide
  exact hnd i hi j hj (h.trans k.symm)
theorem two_signs (p r : Int) : ∃ u v, u ∈ sevn ∧ v ∈ sevn ∧ u ≠ v ∧ Txt.item (Str.ofString "a \"\\#\n\t") (p.fmod 7) = tx [u] ∧ Txt.item (Str.ofString "a \"\\#\n\t") ((p + 1 + r.fmod 6).fmod 7) = tx [v] := by
  obtain ⟨u, hu1, hu2⟩ := @item_sign (p.fmod 7) (m7 p).1 (m7 p).2
  obtain ⟨v, hv1, hv2⟩ := @item_sign ((p + 1 + r.fmod 6).fmod 7) (m7 _).1 (m7 _).2
  refine ⟨u, v, List.mem_of_getElem? hu1, List.mem_of_getElem? hv1, fun e => ?_, hu2, hv2⟩
  subst e
  exact ne_fmod p r (sevn_inj hu1 hv1)
section
variable {prog : Program} {w : World} {A : Around} {h₀ : Heap} {L : Addr} {m : Str → Option Value} {env : Env} {elt : Expr} {x : Str} {scope : Scope} {cl : List (Str × Addr)} {s : Shared} {S : List (Addr × Obj) → Prop} {P : Nat → Value → Prop} {Fin : List Value → List (Addr × Obj) → Prop}
theorem comp_ind {n : Nat} {news : Led} (Inv : Nat → List Value → Led → Prop) (h0 : Inv 0 [] news)
    (turn : ∀ i v ys news, i < n → P i v → Inv i ys news → ∀ I oI C oC D m₂ h tk (E' : Value → Shared → Prop), LCg.NsObj oC m₂ → m₂ x = some v → Fr h₀ L h m → News h₀ L h ((I, oI) :: (C, oC) :: (D, LCg.lst ys) :: news) → LCg.Off3 I C D news → ((@Ne Nat I C) ∧ (@Ne Nat I D) ∧ (@Ne Nat C D)) →
      wpAny (model prog w) A (eval elt (compEnvC scope cl C env)) (LCg.CompEnd h₀ L m { s with heap := h, toks := tk } I oI C oC D (LCg.lst ys) S (fun y news' => Inv (i + 1) (ys ++ [y]) news')) E' { s with heap := h, toks := tk })
    (fin : ∀ ys news, Inv n ys news → Fin ys news) : LCg.CompRest prog w A h₀ L m env elt x scope cl s S P Fin n 0 [] news := by
  have key : ∀ (j i : Nat) (ys : List Value) (news : Led), i + j = n → Inv i ys news → LCg.CompRest prog w A h₀ L m env elt x scope cl s S P Fin j i ys news := by
    intro j
    induction j with
    | zero =>
      intro i ys news hi hy
      have e : i = n := by omega
      subst e
      exact LCg.CompRest.zero (fin ys news hy)
    | succ j ih =>
      intro i ys news hi hy
      refine LCg.CompRest.succ ?_
      intro v I oI C oC D m₂ h tk E' hv hC hx F N off ne
      refine wpAny_mono (turn i v ys news (by omega) hv hy I oI C oC D m₂ h tk E' hC hx F N off ne) (fun y s₂ hq => ?_) fun _ _ e => e
      obtain ⟨h', tk', nw, e, F', N', off', hS, hi'⟩ := hq
      exact ⟨h', tk', nw, e, F', N', off', hS, ih (i + 1) _ nw (by omega) hi'⟩
  exact key n 0 [] news (by omega) h0
end
inductive P0 (L : Addr) (S : Addr) (xs : List Int) (tabs : Led) (o4 : Obj) (o5 : Obj) (o6 : Obj) (o7 : Obj) (o8 : Obj) (o9 : Obj) (m' : Str → Option Value) (news' : Led) : Prop
  | mk (zh1 : m' = (fun y => if y = Str.ofString "script" then some (.ref S) else none)) (u : Nat) (v : Nat) (t1 : Tok) (t2 : Tok) (t3 : Tok) (p1 : Obj) (p2 : Obj) (p3 : Obj) (zh2 : u ∈ sevn) (zh3 : v ∈ sevn) (zh4 : u ≠ v) (zh5 : news' = cells9 L p1 p2 p3 o4 o5 o6 o7 o8 o9 tabs) (zh6 : p1.data = .cell (some (.int xs.sum t1))) (zh7 : p2.data = .cell (some (.str (tx [u]) t2))) (zh8 : p3.data = .cell (some (.str (tx [v]) t3)))
theorem stage0 (w : World) (fa : Addr) (cd : Value) (L S : Addr) (vs : List Value) (xs : List Int) (hI : IntsAre vs xs) (hl : xs.length ≤ 63) (tabs : Led) (o1 o2 o3 o4 o5 o6 o7 o8 o9 : Obj) (ht : topA tabs ≤ L) (e1 : o1.data = .cell none) (e2 : o2.data = .cell none) (e3 : o3.data = .cell none) :
  Stg w fa cd L 0 3 (fun h => h.IsList S vs.toArray) (fun y => if y = Str.ofString "script" then some (.ref S) else none) (cells9 L o1 o2 o3 o4 o5 o6 o7 o8 o9 tabs)
    (P0 L S xs tabs o4 o5 o6 o7 o8 o9) := by
  intro mean mg mb base s rest Q E B F X N T C1 C2 C3 hE hS hret
  (repeat' (first | (with_reducible refine if_ff ?_) | (with_reducible refine if_tt ?_) | (k_unfold; (try dsimp only)) | (k_end; wrow_close) | (cell_step; walk1) | (cell_step; dsimp only; walk1) | (leave1; walk_say "STEP leave1"; try dsimp only) | fail "no step"))
  rename Fr _ _ _ _ => F1
  rename News _ _ _ _ => N1
  have hq := two_signs (xs.sum.fdiv 8) (xs.sum.fdiv 56)
  refine Exists.elim hq fun u hq => Exists.elim hq fun v hq => ?_
  exact hret _ _ _ _ F1 N1 ⟨rfl, u, v, _, _, _, _, _, _, hq.1, hq.2.1, hq.2.2.1, rfl, by assumption, by rw [← hq.2.2.2.1]; assumption, by rw [← hq.2.2.2.2]; assumption⟩
end
section
structure StgV where
  mean : ExcName → Option Value
  mg : Str → Option Value
  mb : Str → Option Value
  base : Heap
  s : Shared
  rest : List Stmt
  Q : Flow → Shared → Prop
  E : Value → Shared → Prop
theorem stgV_ne : Nonempty StgV := ⟨⟨fun _ => none, fun _ => none, fun _ => none, (start Pg).1.heap, (start Pg).1, [], fun _ _ => True, fun _ _ => True⟩⟩
noncomputable def StgAt (w : World) (fa : Addr) (cd : Value) (L : Addr) (i k : Nat) (P : Heap → Prop) (m : Str → Option Value) (news : Led) (R : (Str → Option Value) → Led → Prop) (v : StgV) : Prop :=
    Below callerA v.base [] v.base → Fr v.base L v.s.heap m → (hd02.heap_1 w.params).In v.base → News v.base L v.s.heap news → Top topProg topL v.mean v.mg v.mb v.base → CodeHd v.base 135 131 → CodeHd v.base 41 37 → CodeHd v.base 34 30 → PassesOwn (model Challenge.rw_ty0035_02.row.prog w) (callerA.deeper (envL L fa cd)) (envL L fa cd) v.E → P v.base →
    (∀ h' tk' m' news', Fr v.base L h' m' → News v.base L h' news' → R m' news' → wpAny (model Challenge.rw_ty0035_02.row.prog w) (callerA.deeper (envL L fa cd)) (execs v.rest (envL L fa cd)) v.Q v.E { v.s with heap := h', toks := tk' }) →
    wpAny (model Challenge.rw_ty0035_02.row.prog w) (callerA.deeper (envL L fa cd)) (execs (blk i k ++ v.rest) (envL L fa cd)) v.Q v.E v.s
theorem stg_of {w : World} {fa : Addr} {cd : Value} {L : Addr} {i k : Nat} {P : Heap → Prop} {m : Str → Option Value} {news : Led} {R : (Str → Option Value) → Led → Prop} (h : ∀ v, StgAt w fa cd L i k P m news R v) : Stg w fa cd L i k P m news R :=
  fun mean mg mb base s rest Q E => h ⟨mean, mg, mb, base, s, rest, Q, E⟩
end
section
theorem ne_mean : Nonempty (ExcName → Option Value) := ⟨fun _ => none⟩
theorem ne_heap : Nonempty Heap := ⟨(start Pg).1.heap⟩
theorem ne_shared : Nonempty Shared := ⟨(start Pg).1⟩
theorem ne_q : Nonempty (Flow → Shared → Prop) := ⟨fun _ _ => True⟩
theorem ne_e : Nonempty (Value → Shared → Prop) := ⟨fun _ _ => True⟩
end
section
theorem kl_ins_zero (l : List Value) (y : Value) : kl_ins l 0 y = y :: l := by
  cases l <;> simp [kl_ins]
noncomputable def octs : Nat → Int → List Int → List Int
  | 0, _, acc => acc
  | k + 1, n, acc => if 63 < n then octs k (n.fdiv 64) (((n.fdiv 64).fmod 64 + 64) :: acc) else acc
theorem octs_more : ∀ (k l : Nat) (x : Int) (acc : List Int), x.toNat ≤ k → x.toNat ≤ l → octs k x acc = octs l x acc
  | 0, 0, _, _, _, _ => rfl
  | 0, l + 1, x, acc, h, _ => by unfold octs; rw [if_neg (by omega)]
  | k + 1, 0, x, acc, _, h => by unfold octs; rw [if_neg (by omega)]
  | k + 1, l + 1, x, acc, h1, h2 => by
    unfold octs
    split
    · have ef : x.fdiv 64 = x / 64 := Int.fdiv_eq_ediv_of_nonneg _ (by decide)
      exact octs_more k l _ _ (by rw [ef]; omega) (by rw [ef]; omega)
    · rfl
inductive OctPost (rest : Led) (n : Int) (v : Value) (news' : Led) : Prop
  | mk (D : Addr) (vs : List Value) (c : Nat) (zh1 : v = .ref D) (zh2 : IntsAre vs (octs n.toNat n [n.fmod 64])) (zh3 : news' = (D, W.listOf vs.toArray c) :: rest) (zh4 : topA rest ≤ D)
inductive OctInv (rest : Led) (n : Int) (k : Nat) (m' : Str → Option Value) (nx : Led) : Prop
  | mk (x : Int) (tx' : Tok) (acc : List Int) (av : List Value) (ep : Nat) (D : Addr) (zh1 : IntsAre av acc) (zh2 : 0 ≤ x) (zh3 : k = x.toNat) (zh4 : octs k x acc = octs n.toNat n [n.fmod 64]) (zh5 : Has m' [(Str.ofString "number", .int x tx'), (Str.ofString "octets", .ref D)]) (zh6 : nx = (D, W.listOf av.toArray ep) :: rest) (zh7 : topA rest ≤ D) (j : Nat) (zh8 : x < 2 ^ j) (zh9 : acc.length + j ≤ 3001)
namespace Voctets
noncomputable def At0 (w : World) (rest : Led) (n : Int) (t : Tok) (z : TelV) : Prop := ∀ (hn : 0 ≤ n) (hb : n < 2 ^ 3000), TelAt w 2 100 (.ref 124) [.int n t] rest (OctPost rest n) z
noncomputable def w : World := eps1 ne_world (fun w => ∀ rest n t z, At0 w rest n t z)
noncomputable def rest : Led := eps1 ne_led (fun rest => ∀ n t z, At0 w rest n t z)
noncomputable def n : Int := eps1 ne_int (fun n => ∀ t z, At0 w rest n t z)
noncomputable def t : Tok := eps1 ne_tok (fun t => ∀ z, At0 w rest n t z)
noncomputable def v0 : TelV := eps1 telV_ne (fun z => At0 w rest n t z)
noncomputable abbrev h₀ := v0.h₀
noncomputable abbrev L := v0.L
theorem aux (hn : 0 ≤ n) (hb : n < 2 ^ 3000) :
  TelAt w 2 100 (.ref 124) [.int n t] rest (OctPost rest n) v0 := by
  intro B F X N T C1 C2 C3 hk hd hu hret
  refine wpAny_call ?_
  k_dflt (first | (refine' code_defC ?k1 ?k2 ?k3 ?k4 ?k5 ?kA ?kF ?kK ?k6 ?k7 ?k8 ?k9 ?kB ?kD ?_ ?c2 ?c3 ?c4; (case kA => exact rfl); (case kF => exact rfl); (case kK => first | exact rfl | assumption); (case k1 => k_asm); (case k2 => k_asm); (case k3 => k_asm); (case k4 => k_asm); (case k5 => k_asm); (case k6 => k_is); (case k7 => k_is); (case k8 => k_room); (case k9 => first | exact BindsTo.of_eq rfl | exact binds_K (by k_in) rfl (by k_is) rfl rfl rfl | fail "k_enter: no rule for these arguments"); (case kB => exact rfl); (case kD => decide +kernel); (case c2 => exact rfl); (case c3 => exact rfl); (case c4 => exact rfl); k_whole; intro z9g z9L z9h z9tk z9cells z9FG z9F z9N z9Y z9B z9X z9T z9l1; (try k_lt z9l1); k_cells z9Y; (try simp only [List.cons_append, List.nil_append] at z9N); (try dsimp only); (try k_lift z9B); (try k_fold)) | cell_enter)
  (repeat' (first | (with_reducible refine if_ff ?_) | (with_reducible refine if_tt ?_) | (k_unfold; (try dsimp only)) | (k_end; wrow_close) | (cell_step; walk1) | (cell_step; dsimp only; walk1) | (leave1; walk_say "STEP leave1"; try dsimp only) | fail "no step"))
  rename Fr _ _ _ _ => F1
  rename News _ _ _ _ => N1
  have l1' := topA_of (by assumption : ∀ p ∈ rest, p.1 < _)
  with_unfolding_all refine While_invR (n₀ := n.toNat) (OctInv rest n) F1 N1 ?hJ ?turn
  case hJ =>
    refine ⟨n, _, _, _, _, _, .cons _ _ .nil, hn, rfl, ?_, ⟨rfl, rfl, trivial⟩, rfl, l1', 3000, hb, by simp⟩
    rfl
  case turn =>
    rintro k m' nx h6 tk6 F6 N6 ⟨x, tx', acc, av, ep, D, hav, hx, rfl, hoc, hM, rfl, hD, j, hj, hlen⟩ R9 R8 hR9 hR8
    have F7 := fr_all0 hM F6
    clear F6
    (repeat' (first | (with_reducible refine if_ff ?_) | (with_reducible refine if_tt ?_) | (k_unfold; (try dsimp only)) | (k_end; wrow_close) | (cell_step; walk1) | (cell_step; dsimp only; walk1) | (leave1; walk_say "STEP leave1"; try dsimp only) | fail "no step"))
    · have hal := hav.length
      have hj0 : j ≠ 0 := fun e => by subst e; simp at hj; omega
      obtain ⟨j', rfl⟩ : ∃ j', j = j' + 1 := ⟨j - 1, by omega⟩
      rename Fr _ _ _ _ => F8
      rename News _ _ _ _ => N8
      k_dflt (refine' kl_insert F8 N8 (by rfl) rfl ?U ?z ?_; (case U => k_upd); (case z => simp [sizeLine]; omega))
      intro h8 F9 N9
      simp only [kl_ins_zero] at N9
      (try dsimp only)
      (repeat' (first | (with_reducible refine if_ff ?_) | (with_reducible refine if_tt ?_) | (k_unfold; (try dsimp only)) | (k_end; wrow_close) | (cell_step; walk1) | (cell_step; dsimp only; walk1) | (leave1; walk_say "STEP leave1"; try dsimp only) | fail "no step"))
      rename Fr _ _ _ _ => F9
      rename News _ _ _ _ => N9
      have ef : x.fdiv 64 = x / 64 := Int.fdiv_eq_ediv_of_nonneg _ (by decide)
      have hlt : (x.fdiv 64).toNat < x.toNat := by rw [ef]; omega
      refine hR9 _ _ ?_
      dsimp only [WhileStep2]
      refine ⟨_, _, _, _, (x.fdiv 64).toNat, rfl, F9, N9, hlt, x.fdiv 64, _, _, _, _, D, .cons _ _ hav, (by rw [ef]; omega), rfl, ?_, ⟨rfl, rfl, trivial⟩, rfl, hD, j', ?_, (by simp only [List.length_cons]; omega)⟩
      · rw [← hoc]
        obtain ⟨k, hk⟩ : ∃ k, x.toNat = k + 1 := ⟨x.toNat - 1, by omega⟩
        rw [hk]
        conv => rhs; unfold octs
        rw [if_pos (by assumption)]
        exact octs_more _ _ _ _ (Nat.le_refl _) (by omega)
      · rw [ef]
        have : (2 : Int) ^ (j' + 1) = 2 ^ j' * 2 := Int.pow_succ _ _
        omega
    · refine hR8 _ ?_
      (try dsimp only)
      (repeat' (first | (with_reducible refine if_ff ?_) | (with_reducible refine if_tt ?_) | (k_unfold; (try dsimp only)) | (k_end; wrow_close) | (cell_step; walk1) | (cell_step; dsimp only; walk1) | (leave1; walk_say "STEP leave1"; try dsimp only) | fail "no step"))
      rename Fr h₀ L _ _ => F8
      rename News h₀ L _ _ => N8
      refine hret _ _ _ _ F8 N8 ⟨_, av, _, rfl, ?_, rfl, hD⟩
      rw [← hoc]
      have e : octs x.toNat x acc = acc := by
        cases x.toNat with
        | zero => rfl
        | succ k => unfold octs; rw [if_neg (by omega)]
      rw [e]
      exact hav
end Voctets
theorem octets (w : World) (rest : Led) (n : Int) (t : Tok) (hn : 0 ≤ n) (hb : n < 2 ^ 3000) :
  Tel w 2 100 (.ref 124) [.int n t] rest (OctPost rest n) := tel_of fun z => (show ∀ w rest n t z, Voctets.At0 w rest n t z from (eps1_all (eps1_all (eps1_all (eps1_all (eps1_all @Voctets.aux)))))) w rest n t z hn hb
end
section
theorem and63 {b : Int} (hb : 0 ≤ b) : Builtin.bitAnd b 63 = b % 64 := by
  rw [bitAnd_pp hb (by decide)]
  have := Nat.and_two_pow_sub_one_eq_mod b.toNat 6
  rw [show (63 : Int).toNat = 2 ^ 6 - 1 from rfl, this]
  omega
theorem and64_nat : ∀ a < 128, (a &&& 64 = 0) = (a < 64) := by decide +kernel
theorem and64 {b : Int} (hb : 0 ≤ b) (h : b < 128) : Builtin.bitAnd b 64 = 0 ↔ b < 64 := by
  rw [bitAnd_pp hb (by decide)]
  have := and64_nat b.toNat (by omega)
  rw [show (64 : Int).toNat = 64 from rfl]
  constructor
  · intro e
    have e2 : b.toNat &&& 64 = 0 := by exact_mod_cast e
    rw [this] at e2
    omega
  · intro e
    have e2 : b.toNat &&& 64 = 0 := by rw [this]; omega
    exact_mod_cast e2
theorem and_high (v d : Nat) (hd : d < 64) : (v * 64) &&& d = 0 := by
  apply Nat.eq_of_testBit_eq
  intro i
  rw [Nat.testBit_and, Nat.zero_testBit, show v * 64 = 2 ^ 6 * v by omega, Nat.testBit_two_pow_mul]
  by_cases h : 6 ≤ i
  · rw [Nat.testBit_lt_two_pow (x := d) (i := i) (Nat.lt_of_lt_of_le hd (show 2 ^ 6 ≤ 2 ^ i from Nat.pow_le_pow_right (by omega) h))]
    simp
  · simp [h]
theorem or_high {v d : Int} (hv : 0 ≤ v) (hd : 0 ≤ d) (h : d < 64) : Builtin.bitOr (v * 2 ^ 6) d = v * 64 + d := by
  rw [bitOr_and, show v * 2 ^ 6 = v * 64 from rfl, bitAnd_pp (by omega) hd, show (v * 64).toNat = v.toNat * 64 by omega, and_high _ _ (by omega)]
  simp
end
section
theorem updF_mid {d : Addr} {o : Obj} : ∀ {pre post : Led}, (∀ p ∈ pre, p.1 ≠ d) → (∀ p ∈ post, p.1 ≠ d) → UpdF d o (pre ++ (d, o) :: post) (fun o' => pre ++ (d, o') :: post)
  | [], _, _, h => .head h
  | p :: pre, post, h, k => .tail (h p (.head _)) (updF_mid (fun q hq => h q (.tail _ hq)) k)
noncomputable def vint (ds : List Int) : Int := ds.foldl (fun a d => a * 64 + d) 0
theorem vint_snoc (ds : List Int) (d : Int) : vint (ds ++ [d]) = vint ds * 64 + d := by unfold vint; rw [List.foldl_append]; rfl
theorem vint_bound : ∀ (ds : List Int) (a : Int) (k : Nat), 0 ≤ a → a < 2 ^ k → (∀ d ∈ ds, 0 ≤ d ∧ d < 64) → 0 ≤ ds.foldl (fun a d => a * 64 + d) a ∧ ds.foldl (fun a d => a * 64 + d) a < 2 ^ (k + 6 * ds.length)
  | [], a, k, h0, h1, _ => ⟨h0, h1⟩
  | d :: r, a, k, h0, h1, h => by
    have hd := h d (.head _)
    have := vint_bound r (a * 64 + d) (k + 6) (by omega) (by rw [Int.pow_add]; omega) (fun q hq => h q (.tail _ hq))
    rw [List.foldl_cons, List.length_cons, show k + 6 * (r.length + 1) = k + 6 + 6 * r.length by omega]
    exact this
theorem vint_lt {ds : List Int} (h : ∀ d ∈ ds, 0 ≤ d ∧ d < 64) : 0 ≤ vint ds ∧ vint ds < 2 ^ (6 * ds.length) := by
  have := vint_bound ds 0 0 (by decide) (by decide) h
  rw [Nat.zero_add] at this
  exact this
theorem ints_get : ∀ {vs : List Value} {zs : List Int} {i : Nat} {z : Int}, IntsAre vs zs → zs[i]? = some z → ∃ t, vs[i]? = some (.int z t)
  | _, _, 0, z, .cons x t h, e => by simp at e; subst e; exact ⟨t, rfl⟩
  | _, _, i + 1, z, .cons x t h, e => by simp at e ⊢; exact ints_get h e
theorem digit_at {front ds back dsA dsB : List Int} {e y : Int} (h : ds ++ [e] = dsA ++ y :: dsB) : (front ++ (ds.map (· + 64) ++ e :: back))[front.length + dsA.length]? = some (y + if dsB = [] then 0 else 64) := by
  rw [List.getElem?_append_right (by omega), Nat.add_sub_cancel_left]
  rcases List.eq_nil_or_concat dsB with rfl | ⟨q, z, rfl⟩
  · obtain ⟨h1, h2⟩ := List.append_inj' h rfl
    subst h1
    injection h2 with h3
    subst h3
    simp
  · rw [List.concat_eq_append, ← List.cons_append, ← List.append_assoc] at h
    obtain ⟨h1, h2⟩ := List.append_inj' h rfl
    subst h1
    simp
inductive VarPost (pre : Led) (post : Led) (it : Addr) (l : Addr) (front : List Int) (ds : List Int) (e : Int) (v : Value) (news' : Led) : Prop
  | mk (t : Tok) (io' : Obj) (zh1 : v = .int (vint (ds ++ [e])) t) (zh2 : news' = pre ++ (it, io') :: post) (zh3 : io'.cls = .type "list_iterator") (zh4 : io'.data = .fields #[.ref l, .int ((front.length + ds.length + 1 : Nat) : Int) 0])
inductive VarInv (pre : Led) (post : Led) (it : Addr) (l : Addr) (front : List Int) (ds : List Int) (e : Int) (k : Nat) (m' : Str → Option Value) (nx : Led) : Prop
  | mk (dsA : List Int) (dsB : List Int) (x : Int) (b : Int) (v : Int) (tb' : Tok) (tv : Tok) (io' : Obj) (zh1 : ds ++ [e] = dsA ++ x :: dsB) (zh2 : k = dsB.length) (zh3 : b = x + (if dsB = [] then 0 else 64)) (zh4 : v = vint (dsA ++ [x])) (zh5 : io'.cls = .type "list_iterator") (zh6 : io'.data = .fields #[.ref l, .int ((front.length + dsA.length + 1 : Nat) : Int) 0]) (zh7 : Has m' [(Str.ofString "b", .int b tb'), (Str.ofString "val", .int v tv), (Str.ofString "iterator", .ref it)]) (zh8 : nx = pre ++ (it, io') :: post)
namespace Vparse_varint
noncomputable def At0 (w : World) (pre : Led) (post : Led) (it : Addr) (l : Addr) (its : List Value) (c : Nat) (io : Obj) (z : TelV) : Prop := ∀ (zs : List Int) (front : List Int) (ds : List Int) (back : List Int) (e : Int) (hA : ∀ p ∈ pre, p.1 ≠ it) (hB : ∀ p ∈ post, p.1 ≠ it) (hio : io.cls = .type "list_iterator") (hid : io.data = .fields #[.ref l, .int front.length 0]) (hm : (l, W.listOf its.toArray c) ∈ pre ++ post) (hz : IntsAre its zs) (hzs : zs = front ++ (ds.map (· + 64) ++ e :: back)) (hds : ∀ d ∈ ds, 0 ≤ d ∧ d < 64) (he : 0 ≤ e ∧ e < 64) (hl : ds.length ≤ 3000), TelAt w 2 100 (.ref 63) [.ref it] (pre ++ (it, io) :: post) (VarPost pre post it l front ds e) z
noncomputable def w : World := eps1 ne_world (fun w => ∀ pre post it l its c io z, At0 w pre post it l its c io z)
noncomputable def pre : Led := eps1 ne_led (fun pre => ∀ post it l its c io z, At0 w pre post it l its c io z)
noncomputable def post : Led := eps1 ne_led (fun post => ∀ it l its c io z, At0 w pre post it l its c io z)
noncomputable def it : Addr := eps1 ne_addr (fun it => ∀ l its c io z, At0 w pre post it l its c io z)
noncomputable def l : Addr := eps1 ne_addr (fun l => ∀ its c io z, At0 w pre post it l its c io z)
noncomputable def its : List Value := eps1 ne_list (fun its => ∀ c io z, At0 w pre post it l its c io z)
noncomputable def c : Nat := eps1 ne_nat (fun c => ∀ io z, At0 w pre post it l its c io z)
noncomputable def io : Obj := eps1 ne_obj (fun io => ∀ z, At0 w pre post it l its c io z)
noncomputable def v0 : TelV := eps1 telV_ne (fun z => At0 w pre post it l its c io z)
theorem aux (zs : List Int) (front : List Int) (ds : List Int) (back : List Int) (e : Int) (hA : ∀ p ∈ pre, p.1 ≠ it) (hB : ∀ p ∈ post, p.1 ≠ it) (hio : io.cls = .type "list_iterator") (hid : io.data = .fields #[.ref l, .int front.length 0]) (hm : (l, W.listOf its.toArray c) ∈ pre ++ post) (hz : IntsAre its zs) (hzs : zs = front ++ (ds.map (· + 64) ++ e :: back)) (hds : ∀ d ∈ ds, 0 ≤ d ∧ d < 64) (he : 0 ≤ e ∧ e < 64) (hl : ds.length ≤ 3000) :
  TelAt w 2 100 (.ref 63) [.ref it] (pre ++ (it, io) :: post) (VarPost pre post it l front ds e) v0 := by
  have hmem : ∀ o : Obj, (l, W.listOf its.toArray c) ∈ pre ++ (it, o) :: post := fun o => by
    rcases List.mem_append.mp hm with h | h
    · exact List.mem_append_left _ h
    · exact List.mem_append_right _ (.tail _ h)
  have hfirst : ∃ b₀ tb, its[front.length]? = some (.int b₀ tb) ∧ 0 ≤ b₀ ∧ b₀ < 128 ∧ ∃ x dsB, ds ++ [e] = x :: dsB ∧ b₀ = x + (if dsB = [] then 0 else 64) := by
    cases ds with
    | nil =>
      obtain ⟨t, ht⟩ := ints_get (i := front.length) (z := e) hz (by rw [hzs]; simp)
      exact ⟨e, t, ht, he.1, by omega, e, [], rfl, by simp⟩
    | cons d r =>
      obtain ⟨t, ht⟩ := ints_get (i := front.length) (z := d + 64) hz (by rw [hzs]; simp)
      have := hds d (.head _)
      exact ⟨d + 64, t, ht, by omega, by omega, d, r ++ [e], rfl, by simp⟩
  obtain ⟨b₀, tb, hb, hb0, hb1, x₀, dsB₀, hx₀, hbx₀⟩ := hfirst
  intro B F X N T C1 C2 C3 hk hd hu hret
  refine wpAny_call ?_
  k_dflt (first | (refine' code_defC ?k1 ?k2 ?k3 ?k4 ?k5 ?kA ?kF ?kK ?k6 ?k7 ?k8 ?k9 ?kB ?kD ?_ ?c2 ?c3 ?c4; (case kA => exact rfl); (case kF => exact rfl); (case kK => first | exact rfl | assumption); (case k1 => k_asm); (case k2 => k_asm); (case k3 => k_asm); (case k4 => k_asm); (case k5 => k_asm); (case k6 => k_is); (case k7 => k_is); (case k8 => k_room); (case k9 => first | exact BindsTo.of_eq rfl | exact binds_K (by k_in) rfl (by k_is) rfl rfl rfl | fail "k_enter: no rule for these arguments"); (case kB => exact rfl); (case kD => decide +kernel); (case c2 => exact rfl); (case c3 => exact rfl); (case c4 => exact rfl); k_whole; intro z9g z9L z9h z9tk z9cells z9FG z9F z9N z9Y z9B z9X z9T z9l1; (try k_lt z9l1); k_cells z9Y; (try simp only [List.cons_append, List.nil_append] at z9N); (try dsimp only); (try k_lift z9B); (try k_fold)) | cell_enter)
  (repeat' (first | (with_reducible refine if_ff ?_) | (with_reducible refine if_tt ?_) | (k_unfold; (try dsimp only)) | (k_end; wrow_close) | (cell_step; walk1) | (cell_step; dsimp only; walk1) | (leave1; walk_say "STEP leave1"; try dsimp only) | fail "no step"))
  rename Fr _ _ _ _ => F1
  rename News _ _ _ _ => N1
  refine li_next (its := its.toArray) F1 N1 (updF_mid hA hB) hio hid (hmem _) (by simpa using hb) ?_
  intro h2 io2 F2 N2 hc2 hd2
  (try dsimp only)
  (repeat' (first | (with_reducible refine if_ff ?_) | (with_reducible refine if_tt ?_) | (k_unfold; (try dsimp only)) | (k_end; wrow_close) | (cell_step; walk1) | (cell_step; dsimp only; walk1) | (leave1; walk_say "STEP leave1"; try dsimp only) | fail "no step"))
  rename Fr _ _ _ _ => F3
  rename News _ _ _ _ => N3
  have hx0 : 0 ≤ x₀ ∧ x₀ < 64 := by
    cases ds with
    | nil => simp at hx₀; omega
    | cons d r => simp at hx₀; have := hds d (.head _); omega
  have hk0 : ds.length = dsB₀.length := by
    have := congrArg List.length hx₀
    simp at this
    omega
  have hv0 : Builtin.bitAnd b₀ 63 = vint ([] ++ [x₀]) := by
    rw [and63 hb0, hbx₀]
    show _ = 0 * 64 + x₀
    split <;> omega
  with_unfolding_all refine While_invR (n₀ := ds.length) (VarInv pre post it l front ds e) F3 N3 ?hJ ?turn
  case hJ =>
    exact ⟨[], dsB₀, x₀, b₀, _, _, _, io2, hx₀, hk0, hbx₀, hv0, hc2, hd2, ⟨rfl, rfl, rfl, trivial⟩, rfl⟩
  case turn =>
    rintro k m' nx h6 tk6 F6 N6 ⟨dsA, dsB, x, b, v, tb', tv, io', hx, rfl, hbx, hv, hc', hd', hM, rfl⟩ R9 R8 hR9 hR8
    have F7 := fr_all0 hM F6
    clear F6
    have hxr : 0 ≤ x ∧ x < 64 := by
      have hm : x ∈ ds ++ [e] := by rw [hx]; simp
      rcases List.mem_append.mp hm with h | h
      · exact hds x h
      · rw [List.mem_singleton.mp h]; exact he
    (repeat' (first | (with_reducible refine if_ff ?_) | (with_reducible refine if_tt ?_) | (k_unfold; (try dsimp only)) | (k_end; wrow_close) | (cell_step; walk1) | (cell_step; dsimp only; walk1) | (leave1; walk_say "STEP leave1"; try dsimp only) | fail "no step"))
    · have hb64 : 64 ≤ b := by
        have h : ¬ b < 64 := fun q => absurd ((and64 (b := b) (by rw [hbx]; split <;> omega) (by rw [hbx]; split <;> omega)).mpr q) (by assumption)
        omega
      cases dsB with
      | nil => simp at hbx; omega
      | cons y dsB' =>
      have hall : ∀ d ∈ dsA ++ x :: y :: dsB', 0 ≤ d ∧ d < 64 := by
        rw [← hx]
        intro d hd
        rcases List.mem_append.mp hd with h | h
        · exact hds d h
        · rw [List.mem_singleton.mp h]; exact he
      have hyr : 0 ≤ y ∧ y < 64 := hall y (by simp)
      have hlen := congrArg List.length hx
      simp only [List.length_append, List.length_cons, List.length_nil] at hlen
      have hvb := vint_lt (ds := dsA ++ [x]) fun d hd => hall d (by
        rcases List.mem_append.mp hd with h | h
        · exact List.mem_append_left _ h
        · rw [List.mem_singleton.mp h]; simp)
      rw [← hv] at hvb
      have hvbits : Builtin.Int.intBits v ≤ 6 * (dsA ++ [x]).length := bits_of_lt hvb.1 hvb.2
      simp only [List.length_append, List.length_cons, List.length_nil] at hvbits
      refine ilshift_int (by omega) (by omega) ?_
      (try dsimp only)
      (repeat' (first | (with_reducible refine if_ff ?_) | (with_reducible refine if_tt ?_) | (k_unfold; (try dsimp only)) | (k_end; wrow_close) | (cell_step; walk1) | (cell_step; dsimp only; walk1) | (leave1; walk_say "STEP leave1"; try dsimp only) | fail "no step"))
      obtain ⟨ty, hty⟩ := ints_get (i := front.length + (dsA ++ [x]).length) (z := y + if dsB' = [] then 0 else 64) hz (by
        rw [hzs]
        exact digit_at (by rw [hx]; simp))
      have hgi : front.length + (dsA ++ [x]).length = front.length + dsA.length + 1 := by simp; omega
      rw [hgi] at hty
      rename Fr _ _ _ _ => F8
      rename News _ _ _ _ => N8
      refine li_next (its := its.toArray) F8 N8 (updF_mid hA hB) hc' hd' (hmem _) (by simpa using hty) ?_
      intro h9 io9 F9 N9 hc9 hd9
      (try dsimp only)
      (repeat' (first | (with_reducible refine if_ff ?_) | (with_reducible refine if_tt ?_) | (k_unfold; (try dsimp only)) | (k_end; wrow_close) | (cell_step; walk1) | (cell_step; dsimp only; walk1) | (leave1; walk_say "STEP leave1"; try dsimp only) | fail "no step"))
      rename Fr _ _ _ _ => F10
      rename News _ _ _ _ => N10
      have hb0' : 0 ≤ y + (if dsB' = [] then 0 else 64) := by split <;> omega
      refine hR9 _ _ ?_
      dsimp only [WhileStep2]
      refine ⟨_, _, _, _, dsB'.length, rfl, F10, N10, (by simp), dsA ++ [x], dsB', y, _, _, _, _, io9, (by rw [hx]; simp), rfl, rfl, ?_, hc9, ?_, ⟨rfl, rfl, rfl, trivial⟩, rfl⟩
      · rw [vint_snoc, ← hv, and63 hb0', show (y + (if dsB' = [] then 0 else 64)) % 64 = y by split <;> omega]
        exact or_high hvb.1 hyr.1 hyr.2
      · rw [hd9, show (dsA ++ [x]).length = dsA.length + 1 by simp]
        rfl
    · have hb64 : b < 64 := (and64 (b := b) (by rw [hbx]; split <;> omega) (by rw [hbx]; split <;> omega)).mp (by first | assumption | exact Decidable.of_not_not (by assumption))
      cases dsB with
      | cons y dsB' => simp at hbx; omega
      | nil =>
        refine hR8 _ ?_
        (try dsimp only)
        (repeat' (first | (with_reducible refine if_ff ?_) | (with_reducible refine if_tt ?_) | (k_unfold; (try dsimp only)) | (k_end; wrow_close) | (cell_step; walk1) | (cell_step; dsimp only; walk1) | (leave1; walk_say "STEP leave1"; try dsimp only) | fail "no step"))
        rename Fr _ _ _ _ => F8
        rename News _ _ _ _ => N8
        obtain ⟨h1, h2⟩ := List.append_inj' (show ds ++ [e] = dsA ++ [x] from hx) rfl
        subst h1
        injection h2 with h3
        subst h3
        refine hret _ _ _ _ F8 N8 ⟨_, io', (by rw [hv]), rfl, hc', hd'⟩
end Vparse_varint
theorem parse_varint (w : World) (pre post : Led) (it l : Addr) (its : List Value) (zs front ds back : List Int) (e : Int) (c : Nat) (io : Obj) (hA : ∀ p ∈ pre, p.1 ≠ it) (hB : ∀ p ∈ post, p.1 ≠ it) (hio : io.cls = .type "list_iterator") (hid : io.data = .fields #[.ref l, .int front.length 0]) (hm : (l, W.listOf its.toArray c) ∈ pre ++ post) (hz : IntsAre its zs) (hzs : zs = front ++ (ds.map (· + 64) ++ e :: back)) (hds : ∀ d ∈ ds, 0 ≤ d ∧ d < 64) (he : 0 ≤ e ∧ e < 64) (hl : ds.length ≤ 3000) :
  Tel w 2 100 (.ref 63) [.ref it] (pre ++ (it, io) :: post) (VarPost pre post it l front ds e) := tel_of fun z => (show ∀ w pre post it l its c io z, Vparse_varint.At0 w pre post it l its c io z from (eps1_all (eps1_all (eps1_all (eps1_all (eps1_all (eps1_all (eps1_all (eps1_all (eps1_all @Vparse_varint.aux)))))))))) w pre post it l its c io z zs front ds back e hA hB hio hid hm hz hzs hds he hl
end
section
noncomputable def octN (n : Int) : List Int := octs n.toNat n [n.fmod 64]
theorem vint_cons (d : Int) : ∀ ds : List Int, vint (d :: ds) = d * 64 ^ ds.length + vint ds := by
  have key : ∀ (ds : List Int) (a : Int), ds.foldl (fun a d => a * 64 + d) a = a * 64 ^ ds.length + vint ds := by
    intro ds
    induction ds with
    | nil => intro a; simp [vint]
    | cons x r ih =>
      intro a
      rw [List.foldl_cons, ih, List.length_cons, Int.pow_succ]
      have : vint (x :: r) = x * 64 ^ r.length + vint r := by
        unfold vint
        rw [List.foldl_cons, show (0 : Int) * 64 + x = x by omega]
        exact ih x
      rw [this]
      grind
  intro ds
  unfold vint
  rw [List.foldl_cons, show (0 : Int) * 64 + d = d by omega]
  exact key ds d
theorem octs_is : ∀ (k : Nat) (x n : Int) (ds : List Int) (e : Int) (j : Nat), 0 ≤ x → x.toNat ≤ k → x < 2 ^ (6 * (j + 1)) → (∀ d ∈ ds, 0 ≤ d ∧ d < 64) → 0 ≤ e ∧ e < 64 → n = (x / 64) * 64 ^ (ds.length + 1) + vint (ds ++ [e]) →
    ∃ ds', octs k x (ds.map (· + 64) ++ [e]) = ds'.map (· + 64) ++ [e] ∧ (∀ d ∈ ds', 0 ≤ d ∧ d < 64) ∧ vint (ds' ++ [e]) = n ∧ ds'.length ≤ ds.length + j
  | 0, x, n, ds, e, j, h0, hk, hj, hd, he, hn => by
    refine ⟨ds, rfl, hd, ?_, by omega⟩
    rw [hn]
    have : x / 64 = 0 := by omega
    rw [this]; omega
  | k + 1, x, n, ds, e, j, h0, hk, hj, hd, he, hn => by
    unfold octs
    split
    · rename_i h63
      have ef : x.fdiv 64 = x / 64 := Int.fdiv_eq_ediv_of_nonneg _ (by decide)
      have em : (x.fdiv 64).fmod 64 = x / 64 % 64 := by rw [ef, Int.fmod_eq_emod_of_nonneg _ (by decide)]
      obtain ⟨j', rfl⟩ : ∃ j', j = j' + 1 := by
        cases j with
        | zero => simp at hj; omega
        | succ j => exact ⟨j, rfl⟩
      have hj2 : x / 64 < 2 ^ (6 * (j' + 1)) := by
        rw [show 6 * (j' + 1 + 1) = 6 * (j' + 1) + 6 by omega, Int.pow_add] at hj
        omega
      have := octs_is k (x / 64) n ((x / 64 % 64) :: ds) e j' (by omega) (by omega) hj2 (fun d hd' => by
        rcases List.mem_cons.mp hd' with rfl | hd'
        · omega
        · exact hd d hd') he (by
        rw [hn, List.cons_append, vint_cons, List.length_append, List.length_singleton, List.length_cons, Int.pow_succ 64 (ds.length + 1)]
        have h1 := Int.emod_add_mul_ediv (x / 64) 64
        generalize (64 : Int) ^ (ds.length + 1) = W at *
        generalize vint (ds ++ [e]) = V
        generalize x / 64 / 64 = a at *
        generalize x / 64 % 64 = b at *
        rw [← h1]
        grind)
      obtain ⟨ds', h1, h2, h3, h4⟩ := this
      refine ⟨ds', ?_, h2, h3, by rw [List.length_cons] at h4; omega⟩
      rw [em, ef]
      rw [← h1, List.map_cons, List.cons_append]
    · refine ⟨ds, rfl, hd, ?_, by omega⟩
      rw [hn]
      have : x / 64 = 0 := by omega
      rw [this]; omega
theorem octN_is {n : Int} {j : Nat} (h0 : 0 ≤ n) (hj : n < 2 ^ (6 * (j + 1))) : ∃ ds e, octN n = ds.map (· + 64) ++ [e] ∧ (∀ d ∈ ds, 0 ≤ d ∧ d < 64) ∧ (0 ≤ e ∧ e < 64) ∧ vint (ds ++ [e]) = n ∧ ds.length ≤ j := by
  have em : n.fmod 64 = n % 64 := Int.fmod_eq_emod_of_nonneg _ (by decide)
  obtain ⟨ds', h1, h2, h3, h4⟩ := octs_is n.toNat n n [] (n.fmod 64) j h0 (Nat.le_refl _) hj (by simp) (by rw [em]; omega) (by
    have h1 := Int.emod_add_mul_ediv n 64
    rw [em]
    simp [vint]
    omega)
  exact ⟨ds', n.fmod 64, h1, h2, by rw [em]; omega, h3, by simpa using h4⟩
noncomputable def trac (qs : List Int) : Int := (sq qs).1 + (sq qs).2.2.2
theorem sq_bound : ∀ (qs : List Int) (p : Int × Int × Int × Int) (B : Nat), (∀ q ∈ qs, 0 ≤ q ∧ q ≤ 4096) → (0 ≤ p.1 ∧ p.1 ≤ 2 ^ B) → (0 ≤ p.2.1 ∧ p.2.1 ≤ 2 ^ B) → (0 ≤ p.2.2.1 ∧ p.2.2.1 ≤ 2 ^ B) → (0 ≤ p.2.2.2 ∧ p.2.2.2 ≤ 2 ^ B) →
    (0 ≤ (qs.foldl sqStep p).1 ∧ (qs.foldl sqStep p).1 ≤ 2 ^ (B + 13 * qs.length)) ∧ (0 ≤ (qs.foldl sqStep p).2.2.2 ∧ (qs.foldl sqStep p).2.2.2 ≤ 2 ^ (B + 13 * qs.length))
  | [], p, B, _, h1, _, _, h4 => ⟨h1, h4⟩
  | q :: r, p, B, hq, h1, h2, h3, h4 => by
    have hq0 := hq q (.head _)
    have e : (2 : Int) ^ (B + 13) = 2 ^ B * 8192 := by rw [Int.pow_add]; rfl
    have a1 := Int.mul_nonneg h1.1 hq0.1
    have a2 : p.1 * q ≤ 2 ^ B * 4096 := Int.mul_le_mul h1.2 hq0.2 hq0.1 (by omega)
    have a3 := Int.mul_nonneg h3.1 hq0.1
    have a4 : p.2.2.1 * q ≤ 2 ^ B * 4096 := Int.mul_le_mul h3.2 hq0.2 hq0.1 (by omega)
    have := sq_bound r (sqStep p q) (B + 13) (fun z hz => hq z (.tail _ hz)) (by simp only [sqStep]; omega) (by simp only [sqStep]; omega) (by simp only [sqStep]; omega) (by simp only [sqStep]; omega)
    rw [List.foldl_cons, List.length_cons, show B + 13 * (r.length + 1) = B + 13 + 13 * r.length by omega]
    exact this
theorem trac_bound {qs : List Int} (hq : ∀ q ∈ qs, 0 ≤ q ∧ q ≤ 4096) (hl : qs.length ≤ 32) : 0 ≤ trac qs ∧ trac qs < 2 ^ (6 * (69 + 1)) := by
  have h := sq_bound qs (1, 0, 0, 1) 0 hq (by simp) (by simp) (by simp) (by simp)
  unfold trac sq
  have e : (2 : Int) ^ (0 + 13 * qs.length) ≤ 2 ^ 416 := by exact_mod_cast Nat.pow_le_pow_right (n := 2) (by decide) (show 0 + 13 * qs.length ≤ 416 by omega)
  have e2 : (2 : Int) ^ (6 * (69 + 1)) = 2 ^ 416 * 16 := by decide +kernel
  rw [e2]
  have h3 : (0 : Int) < 2 ^ 416 := Int.pow_pos (by decide)
  omega
theorem octN_len {n : Int} {j : Nat} (h0 : 0 ≤ n) (hj : n < 2 ^ (6 * (j + 1))) : (octN n).length ≤ j + 1 := by
  obtain ⟨ds, e, h, _, _, _, h5⟩ := octN_is h0 hj
  rw [h]; simp; omega
end
section
namespace Vtrace
noncomputable def At0 (w : World) (rest : Led) (D : Addr) (vs : List Value) (c : Nat) (qs : List Int) (z : TelV) : Prop := ∀ (hi : IntsAre vs qs) (hm : (D, W.listOf vs.toArray c) ∈ rest) (hq : ∀ q ∈ qs, 0 ≤ q ∧ q ≤ 4096), TelAt w 4 120 (.ref 150) [.ref D] rest (fun v news' => ∃ t, v = .int ((sq qs).1 + (sq qs).2.2.2) t ∧ news' = rest) z
noncomputable def w : World := eps1 ne_world (fun w => ∀ rest D vs c qs z, At0 w rest D vs c qs z)
noncomputable def rest : Led := eps1 ne_led (fun rest => ∀ D vs c qs z, At0 w rest D vs c qs z)
noncomputable def D : Addr := eps1 ne_addr (fun D => ∀ vs c qs z, At0 w rest D vs c qs z)
noncomputable def vs : List Value := eps1 ne_list (fun vs => ∀ c qs z, At0 w rest D vs c qs z)
noncomputable def c : Nat := eps1 ne_nat (fun c => ∀ qs z, At0 w rest D vs c qs z)
noncomputable def qs : List Int := eps1 ne_list (fun qs => ∀ z, At0 w rest D vs c qs z)
noncomputable def v0 : TelV := eps1 telV_ne (fun z => At0 w rest D vs c qs z)
noncomputable abbrev h₀ := v0.h₀
noncomputable abbrev L := v0.L
theorem aux (hi : IntsAre vs qs) (hm : (D, W.listOf vs.toArray c) ∈ rest) (hq : ∀ q ∈ qs, 0 ≤ q ∧ q ≤ 4096) :
  TelAt w 4 120 (.ref 150) [.ref D] rest (fun v news' => ∃ t, v = .int ((sq qs).1 + (sq qs).2.2.2) t ∧ news' = rest) v0 := by
  intro B F X N T C1 C2 C3 hk hd hu hret
  refine wpAny_call ?_
  k_dflt (first | (refine' code_defC ?k1 ?k2 ?k3 ?k4 ?k5 ?kA ?kF ?kK ?k6 ?k7 ?k8 ?k9 ?kB ?kD ?_ ?c2 ?c3 ?c4; (case kA => exact rfl); (case kF => exact rfl); (case kK => first | exact rfl | assumption); (case k1 => k_asm); (case k2 => k_asm); (case k3 => k_asm); (case k4 => k_asm); (case k5 => k_asm); (case k6 => k_is); (case k7 => k_is); (case k8 => k_room); (case k9 => first | exact BindsTo.of_eq rfl | exact binds_K (by k_in) rfl (by k_is) rfl rfl rfl | fail "k_enter: no rule for these arguments"); (case kB => exact rfl); (case kD => decide +kernel); (case c2 => exact rfl); (case c3 => exact rfl); (case c4 => exact rfl); k_whole; intro z9g z9L z9h z9tk z9cells z9FG z9F z9N z9Y z9B z9X z9T z9l1; (try k_lt z9l1); k_cells z9Y; (try simp only [List.cons_append, List.nil_append] at z9N); (try dsimp only); (try k_lift z9B); (try k_fold)) | cell_enter)
  (repeat' (first | (with_reducible refine if_ff ?_) | (with_reducible refine if_tt ?_) | (k_unfold; (try dsimp only)) | (k_end; wrow_close) | (cell_step; walk1) | (cell_step; dsimp only; walk1) | (leave1; walk_say "STEP leave1"; try dsimp only) | fail "no step"))
  (refine' tel_use ?tH ?tB ?tF ?tX ?tN ?tT ?tC1 ?tC2 ?tC3 ?tk ?td ?tu ?_; (case tB => k_asm); (case tF => k_asm); (case tX => k_asm); (case tN => k_asm); (case tT => k_asm); (case tC1 => assumption); (case tC2 => assumption); (case tC3 => assumption); (case tk => first | exact rfl | assumption); (case tH => exact (square w rest D vs c qs hi hm hq)); (case td => ktr_room); (case tu => ktr_units))
  rintro v9 h9 tk9 news9 F9 N9 ⟨T9, ta9, tb9, tc9, td9, rfl, rfl, hT9⟩
  (try dsimp only)
  (repeat' (first | (with_reducible refine if_ff ?_) | (with_reducible refine if_tt ?_) | (k_unfold; (try dsimp only)) | (k_end; wrow_close) | (cell_step; walk1) | (cell_step; dsimp only; walk1) | (leave1; walk_say "STEP leave1"; try dsimp only) | fail "no step"))
  rename Fr h₀ L _ _ => F1
  rename News h₀ L _ _ => N1
  exact hret _ _ _ _ F1 (news_tail N1) ⟨_, rfl, rfl⟩
end Vtrace
theorem trace (w : World) (rest : Led) (D : Addr) (vs : List Value) (c : Nat) (qs : List Int) (hi : IntsAre vs qs) (hm : (D, W.listOf vs.toArray c) ∈ rest) (hq : ∀ q ∈ qs, 0 ≤ q ∧ q ≤ 4096) :
  Tel w 4 120 (.ref 150) [.ref D] rest (fun v news' => ∃ t, v = .int ((sq qs).1 + (sq qs).2.2.2) t ∧ news' = rest) := tel_of fun z => (show ∀ w rest D vs c qs z, Vtrace.At0 w rest D vs c qs z from (eps1_all (eps1_all (eps1_all (eps1_all (eps1_all (eps1_all (eps1_all @Vtrace.aux)))))))) w rest D vs c qs z hi hm hq
end
end
section
local macro_rules | `(tactic| cell_step) => `(tactic| (walk_at "s1"; walk_at "s2"))
section
noncomputable def spell (q : Bool) (w : List Nat) : List Nat := if q then 34 :: (esc w ++ [34, 10]) else bsl w ++ [10]
noncomputable def spells : Int → List Nat → List (List Nat)
  | _, [] => []
  | t, c :: r => spell (decide (t.fmod 2 = 0)) [c] :: spells (t + 1) r
theorem spells_snoc (c : Nat) : ∀ (a : List Nat) (t : Int), spells t (a ++ [c]) = spells t a ++ [spell (decide ((t + (a.length : Int)).fmod 2 = 0)) [c]]
  | [], t => by simp [spells]
  | x :: r, t => by
    simp only [List.cons_append, spells, spells_snoc c r (t + 1), List.length_cons]
    rw [show t + 1 + (r.length : Int) = t + ((r.length + 1 : Nat) : Int) by push_cast; omega]
theorem texts_get : ∀ {vs : List Value} {ws : List (List Nat)} {i : Nat} {w : List Nat}, TextsAre vs ws → ws[i]? = some w → ∃ t, vs[i]? = some (.str (tx w) t)
  | _, _, 0, w, .cons x t h, e => by simp at e; subst e; exact ⟨t, rfl⟩
  | _, _, i + 1, w, .cons x t h, e => by simp at e ⊢; exact texts_get h e
theorem spell_len (q : Bool) (c : Nat) : (spell q [c]).length ≤ 5 := by
  unfold spell esc bsl
  split
  · simp only [List.flatMap_cons, List.flatMap_nil]
    split <;> simp
  · simp
theorem spells_len : ∀ (a : List Nat) (t : Int), (((spells t a).map tx).map (·.length)).sum ≤ 5 * a.length ∧ (spells t a).length = a.length
  | [], _ => ⟨Nat.le_refl _, rfl⟩
  | x :: r, t => by
    have ih := spells_len r (t + 1)
    have h1 := spell_len (decide (t.fmod 2 = 0)) x
    simp only [spells, List.map_cons, List.sum_cons, List.length_cons]
    have e : (tx (spell (decide (t.fmod 2 = 0)) [x])).length = (spell (decide (t.fmod 2 = 0)) [x]).length := by simp [Str.length]
    omega
theorem spelled_any (w : World) (rest : Led) (word : List Nat) (t : Tok) (q : Bool) (hw : word.length ≤ 30) (hne : word ≠ []) :
  Tel w 2 100 (.ref 129) [.str (tx word) t, .bool q] rest (fun v news' => ∃ t', v = .str (tx (spell q word)) t' ∧ news' = rest) := by
  cases q with
  | true => exact spelled_q w rest word t hw
  | false => exact spelled_p w rest word t hw hne
namespace Vstage2
noncomputable def At0 (w : World) (fa : Addr) (cd : Value) (L : Addr) (tot : Int) (t1 : Tok) (m : Str → Option Value) (tabs : Led) (o1 : Obj) (o2 : Obj) (o3 : Obj) (o4 : Obj) (o5 : Obj) (o6 : Obj) (o7 : Obj) (o8 : Obj) (o9 : Obj) (N5 : List Nat) (D1 : Addr) (D2 : Addr) (vs1 : List Value) (vs2 : List Value) (k1 : Nat) (k2 : Nat) (z : StgV) : Prop := ∀ (ht : topA tabs ≤ L) (e1 : o1.data = .cell (some (.int tot t1))) (hN5 : N5.length = 5) (hvs2 : TextsAre vs2 (N5.map fun c => [c])) (e4 : o4.data = .cell (some (.ref D2))), StgAt w fa cd L 5 1 (fun h => True) m ((D2, PySem.W.listOf vs2.toArray k2) :: (D1, PySem.W.listOf vs1.toArray k1) :: cells9 L o1 o2 o3 o4 o5 o6 o7 o8 o9 tabs)
    (fun m' news' => ∃ t, m' = (fun y => if y = Str.ofString "text" then some (.str (tx (spells tot N5).flatten) t) else m y) ∧ news' = ((D2, PySem.W.listOf vs2.toArray k2) :: (D1, PySem.W.listOf vs1.toArray k1) :: cells9 L o1 o2 o3 o4 o5 o6 o7 o8 o9 tabs)) z
noncomputable def AtX (x : (World) × (Addr) × (Value) × (Addr) × (Int) × (Tok) × (Str → Option Value) × (Led) × (Obj) × (Obj) × (Obj) × (Obj) × (Obj) × (Obj) × (Obj) × (Obj) × (Obj) × (List Nat) × (Addr) × (Addr) × (List Value) × (List Value) × (Nat) × (Nat) × StgV) : Prop := At0 (x.1) (x.2.1) (x.2.2.1) (x.2.2.2.1) (x.2.2.2.2.1) (x.2.2.2.2.2.1) (x.2.2.2.2.2.2.1) (x.2.2.2.2.2.2.2.1) (x.2.2.2.2.2.2.2.2.1) (x.2.2.2.2.2.2.2.2.2.1) (x.2.2.2.2.2.2.2.2.2.2.1) (x.2.2.2.2.2.2.2.2.2.2.2.1) (x.2.2.2.2.2.2.2.2.2.2.2.2.1) (x.2.2.2.2.2.2.2.2.2.2.2.2.2.1) (x.2.2.2.2.2.2.2.2.2.2.2.2.2.2.1) (x.2.2.2.2.2.2.2.2.2.2.2.2.2.2.2.1) (x.2.2.2.2.2.2.2.2.2.2.2.2.2.2.2.2.1) (x.2.2.2.2.2.2.2.2.2.2.2.2.2.2.2.2.2.1) (x.2.2.2.2.2.2.2.2.2.2.2.2.2.2.2.2.2.2.1) (x.2.2.2.2.2.2.2.2.2.2.2.2.2.2.2.2.2.2.2.1) (x.2.2.2.2.2.2.2.2.2.2.2.2.2.2.2.2.2.2.2.2.1) (x.2.2.2.2.2.2.2.2.2.2.2.2.2.2.2.2.2.2.2.2.2.1) (x.2.2.2.2.2.2.2.2.2.2.2.2.2.2.2.2.2.2.2.2.2.2.1) (x.2.2.2.2.2.2.2.2.2.2.2.2.2.2.2.2.2.2.2.2.2.2.2.1) (x.2.2.2.2.2.2.2.2.2.2.2.2.2.2.2.2.2.2.2.2.2.2.2.2)
noncomputable def cc0 : (World) × (Addr) × (Value) × (Addr) × (Int) × (Tok) × (Str → Option Value) × (Led) × (Obj) × (Obj) × (Obj) × (Obj) × (Obj) × (Obj) × (Obj) × (Obj) × (Obj) × (List Nat) × (Addr) × (Addr) × (List Value) × (List Value) × (Nat) × (Nat) × StgV := eps1 (ne_prod ne_world (ne_prod ne_addr (ne_prod ne_value (ne_prod ne_addr (ne_prod ne_int (ne_prod ne_tok (ne_prod ne_par (ne_prod ne_led (ne_prod ne_obj (ne_prod ne_obj (ne_prod ne_obj (ne_prod ne_obj (ne_prod ne_obj (ne_prod ne_obj (ne_prod ne_obj (ne_prod ne_obj (ne_prod ne_obj (ne_prod ne_list (ne_prod ne_addr (ne_prod ne_addr (ne_prod ne_list (ne_prod ne_list (ne_prod ne_nat (ne_prod ne_nat stgV_ne)))))))))))))))))))))))) AtX
noncomputable def w : World := cc0.1
noncomputable def fa : Addr := cc0.2.1
noncomputable def cd : Value := cc0.2.2.1
noncomputable def L : Addr := cc0.2.2.2.1
noncomputable def tot : Int := cc0.2.2.2.2.1
noncomputable def t1 : Tok := cc0.2.2.2.2.2.1
noncomputable def m : Str → Option Value := cc0.2.2.2.2.2.2.1
noncomputable def tabs : Led := cc0.2.2.2.2.2.2.2.1
noncomputable def o1 : Obj := cc0.2.2.2.2.2.2.2.2.1
noncomputable def o2 : Obj := cc0.2.2.2.2.2.2.2.2.2.1
noncomputable def o3 : Obj := cc0.2.2.2.2.2.2.2.2.2.2.1
noncomputable def o4 : Obj := cc0.2.2.2.2.2.2.2.2.2.2.2.1
noncomputable def o5 : Obj := cc0.2.2.2.2.2.2.2.2.2.2.2.2.1
noncomputable def o6 : Obj := cc0.2.2.2.2.2.2.2.2.2.2.2.2.2.1
noncomputable def o7 : Obj := cc0.2.2.2.2.2.2.2.2.2.2.2.2.2.2.1
noncomputable def o8 : Obj := cc0.2.2.2.2.2.2.2.2.2.2.2.2.2.2.2.1
noncomputable def o9 : Obj := cc0.2.2.2.2.2.2.2.2.2.2.2.2.2.2.2.2.1
noncomputable def N5 : List Nat := cc0.2.2.2.2.2.2.2.2.2.2.2.2.2.2.2.2.2.1
noncomputable def D1 : Addr := cc0.2.2.2.2.2.2.2.2.2.2.2.2.2.2.2.2.2.2.1
noncomputable def D2 : Addr := cc0.2.2.2.2.2.2.2.2.2.2.2.2.2.2.2.2.2.2.2.1
noncomputable def vs1 : List Value := cc0.2.2.2.2.2.2.2.2.2.2.2.2.2.2.2.2.2.2.2.2.1
noncomputable def vs2 : List Value := cc0.2.2.2.2.2.2.2.2.2.2.2.2.2.2.2.2.2.2.2.2.2.1
noncomputable def k1 : Nat := cc0.2.2.2.2.2.2.2.2.2.2.2.2.2.2.2.2.2.2.2.2.2.2.1
noncomputable def k2 : Nat := cc0.2.2.2.2.2.2.2.2.2.2.2.2.2.2.2.2.2.2.2.2.2.2.2.1
noncomputable def v0 : StgV := cc0.2.2.2.2.2.2.2.2.2.2.2.2.2.2.2.2.2.2.2.2.2.2.2.2
theorem aux (ht : topA tabs ≤ L) (e1 : o1.data = .cell (some (.int tot t1))) (hN5 : N5.length = 5) (hvs2 : TextsAre vs2 (N5.map fun c => [c])) (e4 : o4.data = .cell (some (.ref D2))) :
  StgAt w fa cd L 5 1 (fun h => True) m ((D2, PySem.W.listOf vs2.toArray k2) :: (D1, PySem.W.listOf vs1.toArray k1) :: cells9 L o1 o2 o3 o4 o5 o6 o7 o8 o9 tabs)
    (fun m' news' => ∃ t, m' = (fun y => if y = Str.ofString "text" then some (.str (tx (spells tot N5).flatten) t) else m y) ∧ news' = ((D2, PySem.W.listOf vs2.toArray k2) :: (D1, PySem.W.listOf vs1.toArray k1) :: cells9 L o1 o2 o3 o4 o5 o6 o7 o8 o9 tabs)) v0 := by
  intro B F X N T C1 C2 C3 hE hS hret
  (repeat' (first | (with_reducible refine if_ff ?_) | (with_reducible refine if_tt ?_) | (k_unfold; (try dsimp only)) | (k_end; wrow_close) | (cell_step; walk1) | (cell_step; dsimp only; walk1) | (leave1; walk_say "STEP leave1"; try dsimp only) | fail "no step"))
  rename Fr _ _ _ _ => F1
  rename News _ _ _ _ => N1
  refine LCg.CompSrc.range (by rfl) F1 N1 (by assumption) (by decide) (by rfl) (by exact Nat.le_of_ble_eq_true rfl) ?_
  intro g'
  refine comp_ind (fun i ys nx => nx = ((D2, PySem.W.listOf vs2.toArray k2) :: (D1, PySem.W.listOf vs1.toArray k1) :: cells9 L o1 o2 o3 o4 o5 o6 o7 o8 o9 tabs) ∧ TextsAre ys (spells tot (N5.take i))) ⟨rfl, .nil⟩ ?turn ?fin
  case turn =>
    rintro i v9 ys nx hi ⟨tv, rfl⟩ ⟨rfl, hW⟩ I oI C oC D m₂ h tk E' hC hx F2 N2 off ne
    have hi5 : i < 5 := hi
    obtain ⟨c, hc⟩ : ∃ c, N5[i]? = some c := ⟨N5[i], List.getElem?_eq_getElem (by omega)⟩
    obtain ⟨tc, htc⟩ := texts_get (i := i) (w := [c]) hvs2 (by rw [List.getElem?_map, hc]; rfl)
    (repeat' (first | (with_reducible refine if_ff ?_) | (with_reducible refine if_tt ?_) | (k_unfold; (try dsimp only)) | (k_end; wrow_close) | (cell_step; walk1) | (cell_step; dsimp only; walk1) | (leave1; walk_say "STEP leave1"; try dsimp only) | fail "no step"))
    refine PyProof.Rows.item_listL (News.isList N2 (by k_mem)) (by omega) (by omega) (x := .str (tx [c]) tc) (by rw [show (0 + (i : Int)).toNat = i by omega]; exact htc) ?_
    (repeat' (first | (with_reducible refine if_ff ?_) | (with_reducible refine if_tt ?_) | (k_unfold; (try dsimp only)) | (k_end; wrow_close) | (cell_step; walk1) | (cell_step; dsimp only; walk1) | (leave1; walk_say "STEP leave1"; try dsimp only) | fail "no step"))
    (refine' tel_use ?tH ?tB ?tF ?tX ?tN ?tT ?tC1 ?tC2 ?tC3 ?tk ?td ?tu ?_; (case tB => k_asm); (case tF => k_asm); (case tX => k_asm); (case tN => k_asm); (case tT => k_asm); (case tC1 => assumption); (case tC2 => assumption); (case tC3 => assumption); (case tk => first | exact rfl | assumption); (case tH => exact (spelled_any w _ [c] _ _ (by simp) (by simp))); (case td => ktr_room); (case tu => ktr_units))
    rintro v9 h9 tk9 news9 F9 N9 ⟨t9, rfl, rfl⟩
    (try dsimp only)
    refine LCg.CompEnd.intro F9 N9 _ (fun p hp => hp) off trivial ⟨rfl, ?_⟩
    rw [List.take_add_one, hc]
    show TextsAre _ (spells tot (N5.take i ++ [c]))
    rw [spells_snoc, List.length_take, Nat.min_eq_left (by omega)]
    have hz : (tot + (0 + (i : Int))) = tot + (i : Int) := by omega
    rw [hz]
    exact hW.append (.cons _ _ .nil)
  case fin =>
    rintro ys nx ⟨rfl, hW⟩
    rw [show ((5 - 0 - 1) / 1 + 1 : Nat) = 5 from rfl, List.take_of_length_le (by omega)] at hW
    walk1
    (repeat' (first | (with_reducible refine if_ff ?_) | (with_reducible refine if_tt ?_) | (k_unfold; (try dsimp only)) | (k_end; wrow_close) | (cell_step; walk1) | (cell_step; dsimp only; walk1) | (leave1; walk_say "STEP leave1"; try dsimp only) | fail "no step"))
    rename News _ _ _ _ => N3
    have hsl := spells_len N5 tot
    refine join_list (News.isList N3 (.head _)) (by rw [List.toList_toArray]; exact texts_strs hW) (by rw [List.length_map, show (Str.ofString "").length = 0 from rfl]; omega) ?_
    intro t9 k9
    (try dsimp only)
    rw [join_tx]
    (repeat' (first | (with_reducible refine if_ff ?_) | (with_reducible refine if_tt ?_) | (k_unfold; (try dsimp only)) | (k_end; wrow_close) | (cell_step; walk1) | (cell_step; dsimp only; walk1) | (leave1; walk_say "STEP leave1"; try dsimp only) | fail "no step"))
    rename Fr _ _ _ _ => F5
    rename News _ _ _ _ => N5'
    refine hret _ _ _ _ F5 (news_tail N5') ⟨_, rfl, rfl⟩
end Vstage2
theorem stage2 (w : World) (fa : Addr) (cd : Value) (L : Addr) (tot : Int) (t1 : Tok) (m : Str → Option Value) (tabs : Led) (o1 o2 o3 o4 o5 o6 o7 o8 o9 : Obj) (ht : topA tabs ≤ L) (e1 : o1.data = .cell (some (.int tot t1)))
   (N5 : List Nat) (hN5 : N5.length = 5) (D1 D2 : Addr) (vs1 vs2 : List Value) (k1 k2 : Nat) (hvs2 : TextsAre vs2 (N5.map fun c => [c])) (e4 : o4.data = .cell (some (.ref D2))) :
  Stg w fa cd L 5 1 (fun h => True) m ((D2, PySem.W.listOf vs2.toArray k2) :: (D1, PySem.W.listOf vs1.toArray k1) :: cells9 L o1 o2 o3 o4 o5 o6 o7 o8 o9 tabs)
    (fun m' news' => ∃ t, m' = (fun y => if y = Str.ofString "text" then some (.str (tx (spells tot N5).flatten) t) else m y) ∧ news' = ((D2, PySem.W.listOf vs2.toArray k2) :: (D1, PySem.W.listOf vs1.toArray k1) :: cells9 L o1 o2 o3 o4 o5 o6 o7 o8 o9 tabs)) := stg_of fun z => (show Vstage2.At0 w fa cd L tot t1 m tabs o1 o2 o3 o4 o5 o6 o7 o8 o9 N5 D1 D2 vs1 vs2 k1 k2 z from eps1_all (P := Vstage2.AtX) @Vstage2.aux (w, fa, cd, L, tot, t1, m, tabs, o1, o2, o3, o4, o5, o6, o7, o8, o9, N5, D1, D2, vs1, vs2, k1, k2, z)) ht e1 hN5 hvs2 e4
end
section
noncomputable def TelP (w : World) (d u : Nat) (f : Value) (args : List Value) (news : Led) (P : Heap → Prop) (R : Value → Led → Prop) : Prop :=
  ∀ (mean : ExcName → Option Value) (mg mb : Str → Option Value) (dp un : Nat) (gd : Option (List Code)) (cn : Str) (cs : Scope) (a : Addr) (ccd : Value) (cl : List (Str × Addr)) (outer : List Env) (A₀ : Around) (base h₀ : Heap) (L : Addr) (m : Str → Option Value) (s : Shared) (Q E : Value → Shared → Prop),
    P h₀ → Below A₀ base outer h₀ → Fr h₀ L s.heap m → (hd02.heap_1 w.params).In h₀ → News h₀ L s.heap news → Top topProg topL mean mg mb h₀ → CodeHd base 135 131 → CodeHd base 41 37 → CodeHd base 34 30 → cs.kind = .function → dp + d < recursionLimit → un + u < cLine →
    (∀ v h' tk' news', Fr h₀ L h' m → News h₀ L h' news' → R v news' → Q v { s with heap := h', toks := tk' }) →
    wpAny (model Challenge.rw_ty0035_02.row.prog w) (ktrTop dp un gd cn cs L a ccd cl outer) (call f args) Q E s
noncomputable def TelPAt (w : World) (d u : Nat) (f : Value) (args : List Value) (news : Led) (P : Heap → Prop) (R : Value → Led → Prop) (v : TelV) : Prop :=
  P v.h₀ → Below v.A₀ v.base v.outer v.h₀ → Fr v.h₀ v.L v.s.heap v.m → (hd02.heap_1 w.params).In v.h₀ → News v.h₀ v.L v.s.heap news → Top topProg topL v.mean v.mg v.mb v.h₀ → CodeHd v.base 135 131 → CodeHd v.base 41 37 → CodeHd v.base 34 30 → v.cs.kind = .function → v.dp + d < recursionLimit → v.un + u < cLine →
    (∀ x h' tk' news', Fr v.h₀ v.L h' v.m → News v.h₀ v.L h' news' → R x news' → v.Q x { v.s with heap := h', toks := tk' }) →
    wpAny (model Challenge.rw_ty0035_02.row.prog w) (ktrTop v.dp v.un v.gd v.cn v.cs v.L v.a v.ccd v.cl v.outer) (call f args) v.Q v.E v.s
theorem telP_of {w : World} {d u : Nat} {f : Value} {args : List Value} {news : Led} {P : Heap → Prop} {R : Value → Led → Prop} (h : ∀ v, TelPAt w d u f args news P R v) : TelP w d u f args news P R :=
  fun mean mg mb dp un gd cn cs a ccd cl outer A₀ base h₀ L m s Q E => h ⟨mean, mg, mb, dp, un, gd, cn, cs, a, ccd, cl, outer, A₀, base, h₀, L, m, s, Q, E⟩
theorem list_keep {h h' : Heap} {S : Addr} {a : Array Value} (hl : h.IsList S a) (k : ∀ b o, h.get? b = some o → h'.get? b = some o) : h'.IsList S a := by
  obtain ⟨o, e, r⟩ := hl
  exact ⟨o, k _ _ e, r⟩
theorem four_of {l : List Int} (h : l.length = 4) : ∃ a b c d, l = [a, b, c, d] := by
  match l, h with
  | [a, b, c, d], _ => exact ⟨a, b, c, d, rfl⟩
theorem ints_four {ys : List Value} {a b c d : Int} (h : IntsAre ys [a, b, c, d]) : ∃ ta tb tc td, ys = [.int a ta, .int b tb, .int c tc, .int d td] := by
  cases h with
  | cons _ ta h =>
  cases h with
  | cons _ tb h =>
  cases h with
  | cons _ tc h =>
  cases h with
  | cons _ td h =>
  cases h
  exact ⟨ta, tb, tc, td, rfl⟩
theorem cell_ok (a : Int) : 1 ≤ a.fmod 4096 + 1 ∧ a.fmod 4096 + 1 ≤ 4096 := by
  rw [Int.fmod_eq_emod_of_nonneg _ (by decide)]
  omega
theorem off_consW {q : Addr × Obj} {b : Led} {x : Addr} (h : q.1 ≠ x) (k : ∀ p ∈ b, p.1 ≠ x) : ∀ p ∈ q :: b, p.1 ≠ x := fun p hp => by
  rcases List.mem_cons.mp hp with rfl | hp
  · exact h
  · exact k p hp
inductive CellPost (rest : Led) (v : Value) (news' : Led) : Prop
  | mk (D : Addr) (c : Int) (d : Int) (e : Int) (f : Int) (tc : Tok) (td : Tok) (te : Tok) (tf : Tok) (k : Nat) (zh1 : v = .ref D) (zh2 : (1 ≤ c ∧ c ≤ 4096)) (zh3 : (1 ≤ d ∧ d ≤ 4096)) (zh4 : (1 ≤ e ∧ e ≤ 4096)) (zh5 : (1 ≤ f ∧ f ≤ 4096)) (zh6 : OwnOff rest [D]) (zh7 : news' = (D, W.listOf #[.int c tc, .int d td, .int e te, .int f tf] k) :: rest)
inductive CellInv (rest : Led) (S : Addr) (I : Addr) (i : Nat) (m' : Str → Option Value) (nx : Led) : Prop
  | mk (us : List Value) (ns : List Int) (kk : Nat) (D : Addr) (zh1 : IntsAre us ns) (zh2 : ns.length = 4) (zh3 : Has m' [(Str.ofString "cells", .ref D), (Str.ofString "script", .ref S)]) (zh4 : nx = (D, W.listOf us.toArray kk) :: rest) (zh5 : topA rest ≤ D) (zh6 : @LT.lt Nat _ D I)
namespace Vcells
noncomputable def At0 (w : World) (rest : Led) (S : Addr) (vs : List Value) (xs : List Int) (zvv : TelV) : Prop := ∀ (hi : IntsAre vs xs) (hl : xs.length ≤ 63), TelPAt w 2 100 (.ref 117) [.ref S] rest (fun h => h.IsList S vs.toArray) (CellPost rest) zvv
noncomputable def w : World := eps1 ne_world (fun w => ∀ rest S vs xs zvv, At0 w rest S vs xs zvv)
noncomputable def rest : Led := eps1 ne_led (fun rest => ∀ S vs xs zvv, At0 w rest S vs xs zvv)
noncomputable def S : Addr := eps1 ne_addr (fun S => ∀ vs xs zvv, At0 w rest S vs xs zvv)
noncomputable def vs : List Value := eps1 ne_list (fun vs => ∀ xs zvv, At0 w rest S vs xs zvv)
noncomputable def xs : List Int := eps1 ne_list (fun xs => ∀ zvv, At0 w rest S vs xs zvv)
noncomputable def v0 : TelV := eps1 telV_ne (fun zvv => At0 w rest S vs xs zvv)
noncomputable abbrev cl := v0.cl
noncomputable abbrev h₀ := v0.h₀
noncomputable abbrev L := v0.L
theorem aux (hi : IntsAre vs xs) (hl : xs.length ≤ 63) :
  TelPAt w 2 100 (.ref 117) [.ref S] rest (fun h => h.IsList S vs.toArray) (CellPost rest) v0 := by
  intro hS B F X N T C1 C2 C3 hk hd hu hret
  refine wpAny_call ?_
  k_dflt (first | (refine' code_defC ?k1 ?k2 ?k3 ?k4 ?k5 ?kA ?kF ?kK ?k6 ?k7 ?k8 ?k9 ?kB ?kD ?_ ?c2 ?c3 ?c4; (case kA => exact rfl); (case kF => exact rfl); (case kK => first | exact rfl | assumption); (case k1 => k_asm); (case k2 => k_asm); (case k3 => k_asm); (case k4 => k_asm); (case k5 => k_asm); (case k6 => k_is); (case k7 => k_is); (case k8 => k_room); (case k9 => first | exact BindsTo.of_eq rfl | exact binds_K (by k_in) rfl (by k_is) rfl rfl rfl | fail "k_enter: no rule for these arguments"); (case kB => exact rfl); (case kD => decide +kernel); (case c2 => exact rfl); (case c3 => exact rfl); (case c4 => exact rfl); k_whole; intro z9g z9L z9h z9tk z9cells z9FG z9F z9N z9Y z9B z9X z9T z9l1; (try k_lt z9l1); k_cells z9Y; (try simp only [List.cons_append, List.nil_append] at z9N); (try dsimp only); (try k_lift z9B); (try k_fold)) | cell_enter)
  (repeat' (first | (with_reducible refine if_ff ?_) | (with_reducible refine if_tt ?_) | (k_unfold; (try dsimp only)) | (k_end; wrow_close) | (cell_step; walk1) | (cell_step; dsimp only; walk1) | (leave1; walk_say "STEP leave1"; try dsimp only) | fail "no step"))
  (rename Fr _ _ _ _ => lF')
  (with_unfolding_all refine' For_invVF lF' ?k1 ?k2 ?_; (case k1 => exact rfl); (case k2 => exact rfl))
  (repeat' (first | (with_reducible refine if_ff ?_) | (with_reducible refine if_tt ?_) | (k_unfold; (try dsimp only)) | (k_end; wrow_close) | (cell_step; walk1) | (cell_step; dsimp only; walk1) | (leave1; walk_say "STEP leave1"; try dsimp only) | fail "no step"))
  rename Fr h₀ L _ _ => FG
  rename Fr _ _ _ _ => F1
  rename News _ _ _ _ => N1
  have hS1 := list_keep hS FG.keep
  have hlen := hi.length
  refine PyProof.Rows.len_list (list_keep hS1 F1.keep) (by simp; omega) ?_
  (try dsimp only)
  (repeat' (first | (with_reducible refine if_ff ?_) | (with_reducible refine if_tt ?_) | (k_unfold; (try dsimp only)) | (k_end; wrow_close) | (cell_step; walk1) | (cell_step; dsimp only; walk1) | (leave1; walk_say "STEP leave1"; try dsimp only) | fail "no step"))
  rename Fr _ _ _ _ => F2
  rename News _ _ _ _ => N2
  refine' iter_rangeUnr (n := xs.length) rfl (by assumption) (small_one (by decide) (by omega) (by omega) (by omega)) (by first | exact rangeSize_nat _ _ | rfl | (simp [Builtin.Range.rangeSize]; done) | (unfold Builtin.Range.rangeSize; split <;> omega)) F2 N2 ?rest
  case rest =>
  intro I hI
  refine rangeRest_indR (CellInv rest S I) ?zero ?succ _ _ _ _ (by omega) ?init
  case init =>
    exact ⟨_, [0, 0, 1, 1], _, _, .cons _ _ (.cons _ _ (.cons _ _ (.cons _ _ .nil))), rfl, ⟨rfl, rfl, trivial⟩, rfl, topA_of (by assumption), hI _ (.head _)⟩
  case zero =>
    rintro i m' nx ⟨us, ns, kk, D, hus, hns, hM, rfl, hD, hDI⟩ hi6 h6 tk6 F6 N6
    have F7 := fr_all0 hM F6
    clear F6
    (try dsimp only)
    walk1
    walk1
    refine LCg.ListComp_U (cl := []) F7 ?a1 ?a2 ?a3 ?a4 ?a5 ?_
    case a1 => with_unfolding_all rfl
    case a2 => decide
    case a3 => rfl
    case a4 => decide
    case a5 => rfl
    (repeat' (first | (with_reducible refine if_ff ?_) | (with_reducible refine if_tt ?_) | (k_unfold; (try dsimp only)) | (k_end; wrow_close) | (cell_step; walk1) | (cell_step; dsimp only; walk1) | (leave1; walk_say "STEP leave1"; try dsimp only) | fail "no step"))
    rename Fr _ _ _ _ => F9
    rename News _ _ _ _ => N9
    have hul := hus.length
    refine' LCg.CompSrc.ledger ?hh F9 N9 (.head _) ?sz ?_
    case hh => exact rfl
    case sz => simp [sizeLine]; omega
    intro g9
    refine comp_ind (fun i ys nx => nx = (D, W.listOf us.toArray kk) :: rest ∧ ∃ zs : List Int, IntsAre ys zs ∧ zs.length = i ∧ ∀ z ∈ zs, 1 ≤ z ∧ z ≤ 4096) ⟨rfl, [], .nil, rfl, fun z h => nomatch h⟩ ?turn ?fin
    case turn =>
      rintro i v9 ys nx hi9 hv9 ⟨rfl, zs, hzs, hzl, hzb⟩ I9 oI9 C9 oC9 D9 m₉ h9 tk9 E9 hC9 hx9 F10 N10 off9 ne9
      obtain ⟨z, tz, hz1, hz2⟩ := IntsAre.at hus i v9 (by simpa using hv9)
      rw [hz1] at hx9
      (repeat' (first | (with_reducible refine if_ff ?_) | (with_reducible refine if_tt ?_) | (k_unfold; (try dsimp only)) | (k_end; wrow_close) | (cell_step; walk1) | (cell_step; dsimp only; walk1) | (leave1; walk_say "STEP leave1"; try dsimp only) | fail "no step"))
      refine LCg.CompEnd.intro F10 N10 _ (fun p hp => hp) off9 (.inr ⟨_, .head _, rfl, _, rfl⟩) ⟨rfl, zs ++ [z.fmod 4096 + 1], hzs.append (.cons _ _ .nil), by simp [hzl], ?_⟩
      intro x hx
      rcases List.mem_append.mp hx with hx | hx
      · exact hzb x hx
      · rw [List.mem_singleton.mp hx]; exact cell_ok z
    case fin =>
      rintro ys nx ⟨rfl, zs, hzs, hzl, hzb⟩
      have hz4 : zs.length = 4 := by rw [hzl]; simp; omega
      obtain ⟨a, b, c, d, rfl⟩ := four_of hz4
      obtain ⟨ta, tb, tc, td, rfl⟩ := ints_four hzs
      unfold LCg.FinE
      intro D9 h9 tk9 F10 N10 off9
      have off9' := off1_own off9.2
      (repeat' (first | (with_reducible refine if_ff ?_) | (with_reducible refine if_tt ?_) | (k_unfold; (try dsimp only)) | (k_end; wrow_close) | (cell_step; walk1) | (cell_step; dsimp only; walk1) | (leave1; walk_say "STEP leave1"; try dsimp only) | fail "no step"))
      rename Fr h₀ L _ _ => kF
      rename News h₀ L _ _ => kN
      refine hret _ _ _ _ kF (news_skip2 kN) ⟨D9, a, b, c, d, ta, tb, tc, td, _, rfl, hzb a (by simp), hzb b (by simp), hzb c (by simp), hzb d (by simp), off9', rfl⟩
  case succ =>
    rintro i m' nx ⟨us, ns, kk, D, hus, hns, hM, rfl, hD, hDI⟩ hi6 tv h6 tk6 F6 N6 R9 hR9
    have F7 := fr_all hM F6
    clear F6
    (repeat' (first | (with_reducible refine if_ff ?_) | (with_reducible refine if_tt ?_) | (k_unfold; (try dsimp only)) | (k_end; wrow_close) | (cell_step; walk1) | (cell_step; dsimp only; walk1) | (leave1; walk_say "STEP leave1"; try dsimp only) | fail "no step"))
    rename Fr _ _ _ _ => F8
    rename News _ _ _ _ => N8
    refine hR9 _ _ ?_
    show UnrEnd _ _ _ _ _ _ _
    exact UnrEnd.intro F8 N8 _ (by kcj_all) (off_consW (Nat.ne_of_lt hDI) (topA_ne (Nat.le_trans hD (Nat.le_of_lt hDI)))) ⟨_, _, _, D, by assumption, by rw [List.length_set]; exact hns, ⟨rfl, rfl, trivial⟩, rfl, hD, hDI⟩
end Vcells
theorem cells (w : World) (rest : Led) (S : Addr) (vs : List Value) (xs : List Int) (hi : IntsAre vs xs) (hl : xs.length ≤ 63) :
  TelP w 2 100 (.ref 117) [.ref S] rest (fun h => h.IsList S vs.toArray) (CellPost rest) := telP_of fun zvv => (show ∀ w rest S vs xs zvv, Vcells.At0 w rest S vs xs zvv from (eps1_all (eps1_all (eps1_all (eps1_all (eps1_all (eps1_all @Vcells.aux))))))) w rest S vs xs zvv hi hl
end
section
inductive P1 (L : Addr) (u : Nat) (v : Nat) (m : Str → Option Value) (tabs : Led) (o1 : Obj) (o2 : Obj) (o3 : Obj) (o5 : Obj) (o6 : Obj) (o7 : Obj) (o8 : Obj) (o9 : Obj) (m' : Str → Option Value) (news' : Led) : Prop
  | mk (W : List Nat) (D1 : Addr) (D2 : Addr) (vs1 : List Value) (vs2 : List Value) (k1 : Nat) (k2 : Nat) (p4 : Obj) (zh1 : W.length = 3) (zh2 : (∀ c ∈ W, c = u ∨ c = v)) (zh3 : TextsAre vs1 (W.map fun c => [c])) (zh4 : TextsAre vs2 ((W ++ [u, v]).map fun c => [c])) (zh5 : offC L tabs D1) (zh6 : offC L tabs D2) (zh7 : @LT.lt Nat _ D1 D2) (zh8 : p4.data = .cell (some (.ref D2))) (zh9 : m' = (fun y => if y = Str.ofString "way" then some (.ref D1) else m y)) (zh10 : news' = (D2, PySem.W.listOf vs2.toArray k2) :: (D1, PySem.W.listOf vs1.toArray k1) :: cells9 L o1 o2 o3 p4 o5 o6 o7 o8 o9 tabs)
namespace Vstage1
noncomputable def At0 (w : World) (fa : Addr) (cd : Value) (L : Addr) (tot : Int) (u : Nat) (v : Nat) (t1 : Tok) (t2 : Tok) (t3 : Tok) (m : Str → Option Value) (tabs : Led) (o1 : Obj) (o2 : Obj) (o3 : Obj) (o4 : Obj) (o5 : Obj) (o6 : Obj) (o7 : Obj) (o8 : Obj) (o9 : Obj) (z : StgV) : Prop := ∀ (ht : topA tabs ≤ L) (e1 : o1.data = .cell (some (.int tot t1))) (e2 : o2.data = .cell (some (.str (tx [u]) t2))) (e3 : o3.data = .cell (some (.str (tx [v]) t3))) (e4 : o4.data = .cell none), StgAt w fa cd L 3 2 (fun h => True) m (cells9 L o1 o2 o3 o4 o5 o6 o7 o8 o9 tabs)
    (P1 L u v m tabs o1 o2 o3 o5 o6 o7 o8 o9) z
noncomputable def AtX (x : (World) × (Addr) × (Value) × (Addr) × (Int) × (Nat) × (Nat) × (Tok) × (Tok) × (Tok) × (Str → Option Value) × (Led) × (Obj) × (Obj) × (Obj) × (Obj) × (Obj) × (Obj) × (Obj) × (Obj) × (Obj) × StgV) : Prop := At0 (x.1) (x.2.1) (x.2.2.1) (x.2.2.2.1) (x.2.2.2.2.1) (x.2.2.2.2.2.1) (x.2.2.2.2.2.2.1) (x.2.2.2.2.2.2.2.1) (x.2.2.2.2.2.2.2.2.1) (x.2.2.2.2.2.2.2.2.2.1) (x.2.2.2.2.2.2.2.2.2.2.1) (x.2.2.2.2.2.2.2.2.2.2.2.1) (x.2.2.2.2.2.2.2.2.2.2.2.2.1) (x.2.2.2.2.2.2.2.2.2.2.2.2.2.1) (x.2.2.2.2.2.2.2.2.2.2.2.2.2.2.1) (x.2.2.2.2.2.2.2.2.2.2.2.2.2.2.2.1) (x.2.2.2.2.2.2.2.2.2.2.2.2.2.2.2.2.1) (x.2.2.2.2.2.2.2.2.2.2.2.2.2.2.2.2.2.1) (x.2.2.2.2.2.2.2.2.2.2.2.2.2.2.2.2.2.2.1) (x.2.2.2.2.2.2.2.2.2.2.2.2.2.2.2.2.2.2.2.1) (x.2.2.2.2.2.2.2.2.2.2.2.2.2.2.2.2.2.2.2.2.1) (x.2.2.2.2.2.2.2.2.2.2.2.2.2.2.2.2.2.2.2.2.2)
noncomputable def cc0 : (World) × (Addr) × (Value) × (Addr) × (Int) × (Nat) × (Nat) × (Tok) × (Tok) × (Tok) × (Str → Option Value) × (Led) × (Obj) × (Obj) × (Obj) × (Obj) × (Obj) × (Obj) × (Obj) × (Obj) × (Obj) × StgV := eps1 (ne_prod ne_world (ne_prod ne_addr (ne_prod ne_value (ne_prod ne_addr (ne_prod ne_int (ne_prod ne_nat (ne_prod ne_nat (ne_prod ne_tok (ne_prod ne_tok (ne_prod ne_tok (ne_prod ne_par (ne_prod ne_led (ne_prod ne_obj (ne_prod ne_obj (ne_prod ne_obj (ne_prod ne_obj (ne_prod ne_obj (ne_prod ne_obj (ne_prod ne_obj (ne_prod ne_obj (ne_prod ne_obj stgV_ne))))))))))))))))))))) AtX
noncomputable def w : World := cc0.1
noncomputable def fa : Addr := cc0.2.1
noncomputable def cd : Value := cc0.2.2.1
noncomputable def L : Addr := cc0.2.2.2.1
noncomputable def tot : Int := cc0.2.2.2.2.1
noncomputable def u : Nat := cc0.2.2.2.2.2.1
noncomputable def v : Nat := cc0.2.2.2.2.2.2.1
noncomputable def t1 : Tok := cc0.2.2.2.2.2.2.2.1
noncomputable def t2 : Tok := cc0.2.2.2.2.2.2.2.2.1
noncomputable def t3 : Tok := cc0.2.2.2.2.2.2.2.2.2.1
noncomputable def m : Str → Option Value := cc0.2.2.2.2.2.2.2.2.2.2.1
noncomputable def tabs : Led := cc0.2.2.2.2.2.2.2.2.2.2.2.1
noncomputable def o1 : Obj := cc0.2.2.2.2.2.2.2.2.2.2.2.2.1
noncomputable def o2 : Obj := cc0.2.2.2.2.2.2.2.2.2.2.2.2.2.1
noncomputable def o3 : Obj := cc0.2.2.2.2.2.2.2.2.2.2.2.2.2.2.1
noncomputable def o4 : Obj := cc0.2.2.2.2.2.2.2.2.2.2.2.2.2.2.2.1
noncomputable def o5 : Obj := cc0.2.2.2.2.2.2.2.2.2.2.2.2.2.2.2.2.1
noncomputable def o6 : Obj := cc0.2.2.2.2.2.2.2.2.2.2.2.2.2.2.2.2.2.1
noncomputable def o7 : Obj := cc0.2.2.2.2.2.2.2.2.2.2.2.2.2.2.2.2.2.2.1
noncomputable def o8 : Obj := cc0.2.2.2.2.2.2.2.2.2.2.2.2.2.2.2.2.2.2.2.1
noncomputable def o9 : Obj := cc0.2.2.2.2.2.2.2.2.2.2.2.2.2.2.2.2.2.2.2.2.1
noncomputable def v0 : StgV := cc0.2.2.2.2.2.2.2.2.2.2.2.2.2.2.2.2.2.2.2.2.2
theorem aux (ht : topA tabs ≤ L) (e1 : o1.data = .cell (some (.int tot t1))) (e2 : o2.data = .cell (some (.str (tx [u]) t2))) (e3 : o3.data = .cell (some (.str (tx [v]) t3))) (e4 : o4.data = .cell none) :
  StgAt w fa cd L 3 2 (fun h => True) m (cells9 L o1 o2 o3 o4 o5 o6 o7 o8 o9 tabs)
    (P1 L u v m tabs o1 o2 o3 o5 o6 o7 o8 o9) v0 := by
  intro B F X N T C1 C2 C3 hE hS hret
  (repeat' (first | (with_reducible refine if_ff ?_) | (with_reducible refine if_tt ?_) | (k_unfold; (try dsimp only)) | (k_end; wrow_close) | (cell_step; walk1) | (cell_step; dsimp only; walk1) | (leave1; walk_say "STEP leave1"; try dsimp only) | fail "no step"))
  rename Fr _ _ _ _ => F1
  rename News _ _ _ _ => N1
  refine LCg.CompSrc.range (by rfl) F1 N1 (by assumption) (by decide) (by rfl) (by exact Nat.le_of_ble_eq_true rfl) ?_
  intro g'
  refine comp_ind (fun i ys nx => nx = cells9 L o1 o2 o3 o4 o5 o6 o7 o8 o9 tabs ∧ ∃ W : List Nat, TextsAre ys (W.map fun c => [c]) ∧ W.length = i ∧ ∀ c ∈ W, c = u ∨ c = v) ⟨rfl, [], .nil, rfl, fun c h => nomatch h⟩ ?turn ?fin
  case turn =>
    rintro i v9 ys nx hi ⟨tv, rfl⟩ ⟨rfl, W, hW, hWl, hWm⟩ I oI C oC D m₂ h tk E' hC hx F2 N2 off0 ne
    have hp : ¬ ((2 : Int) ^ (0 + (i : Int)).toNat = 0) := Int.ne_of_gt (Int.pow_pos (by decide))
    (repeat' (first | (with_reducible refine if_ff ?_) | (with_reducible refine if_tt ?_) | (k_unfold; (try dsimp only)) | (k_end; wrow_close) | (cell_step; walk1) | (cell_step; dsimp only; walk1) | (leave1; walk_say "STEP leave1"; try dsimp only) | fail "no step"))
    · refine LCg.CompEnd.intro F2 N2 _ (fun p hp => hp) off0 trivial ⟨rfl, W ++ [u], ?_, by simp [hWl], ?_⟩
      · rw [List.map_append]; exact hW.append (.cons _ _ .nil)
      · intro c hc
        rcases List.mem_append.mp hc with hc | hc
        · exact hWm c hc
        · exact .inl (List.mem_singleton.mp hc)
    · refine LCg.CompEnd.intro F2 N2 _ (fun p hp => hp) off0 trivial ⟨rfl, W ++ [v], ?_, by simp [hWl], ?_⟩
      · rw [List.map_append]; exact hW.append (.cons _ _ .nil)
      · intro c hc
        rcases List.mem_append.mp hc with hc | hc
        · exact hWm c hc
        · exact .inr (List.mem_singleton.mp hc)
  case fin =>
    rintro ys nx ⟨rfl, W, hW, hWl, hWm⟩
    have hyl := hW.length
    rw [List.length_map, hWl] at hyl
    have hyl3 : ys.length = 3 := by rw [hyl]
    walk1
    (repeat' (first | (with_reducible refine if_ff ?_) | (with_reducible refine if_tt ?_) | (k_unfold; (try dsimp only)) | (k_end; wrow_close) | (cell_step; walk1) | (cell_step; dsimp only; walk1) | (leave1; walk_say "STEP leave1"; try dsimp only) | fail "no step"))
    rename Fr _ _ _ _ => F3
    rename News _ _ _ _ => N3
    refine cat_lists F3 N3 (News.isList N3 (by k_mem)) (News.isList N3 (by k_mem)) ?_ (by rw [hyl3]; exact Nat.le_of_ble_eq_true rfl)
    intro D2 h3 F4 N4 l4
    simp only [topA_nil, topA_cons, topA_app, Nat.max_le, Nat.zero_le, true_and, and_true, List.cons_append, List.nil_append] at l4
    (try dsimp only)
    (repeat' (first | (with_reducible refine if_ff ?_) | (with_reducible refine if_tt ?_) | (k_unfold; (try dsimp only)) | (k_end; wrow_close) | (cell_step; walk1) | (cell_step; dsimp only; walk1) | (leave1; walk_say "STEP leave1"; try dsimp only) | fail "no step"))
    rename Fr _ _ _ _ => F5
    rename News _ _ _ _ => N5
    rename (@Ne Nat (L + 1 + 1 + 1 + 1 + 1 + 1 + 1 + 1 + 1) _ ∧ _) => oo
    refine hret _ _ _ _ F5 (news_skip2 N5) ⟨W, _, D2, ys, _, _, _, _, hWl, hWm, hW, ?_, oo, ?_, ?_, by assumption, rfl, rfl⟩
    · rw [List.map_append]; exact hW.append (.cons _ _ (.cons _ _ .nil))
    · exact offC_top (by omega) (by omega)
    · show @LT.lt Nat _ _ D2
      omega
end Vstage1
theorem stage1 (w : World) (fa : Addr) (cd : Value) (L : Addr) (tot : Int) (u v : Nat) (t1 t2 t3 : Tok) (m : Str → Option Value) (tabs : Led) (o1 o2 o3 o4 o5 o6 o7 o8 o9 : Obj) (ht : topA tabs ≤ L) (e1 : o1.data = .cell (some (.int tot t1))) (e2 : o2.data = .cell (some (.str (tx [u]) t2))) (e3 : o3.data = .cell (some (.str (tx [v]) t3))) (e4 : o4.data = .cell none) :
  Stg w fa cd L 3 2 (fun h => True) m (cells9 L o1 o2 o3 o4 o5 o6 o7 o8 o9 tabs)
    (P1 L u v m tabs o1 o2 o3 o5 o6 o7 o8 o9) := stg_of fun z => (show Vstage1.At0 w fa cd L tot u v t1 t2 t3 m tabs o1 o2 o3 o4 o5 o6 o7 o8 o9 z from eps1_all (P := Vstage1.AtX) @Vstage1.aux (w, fa, cd, L, tot, u, v, t1, t2, t3, m, tabs, o1, o2, o3, o4, o5, o6, o7, o8, o9, z)) ht e1 e2 e3 e4
end
end
section
local macro_rules | `(tactic| cell_step) => `(tactic| (walk_at "s1"; walk_at "s2"; walk_at "t2"))
section
theorem get_next (w : World) (P : LexP) (O : LexOk P) (rest : Led) (line : Int) (tl : Tok) (pe : Nat) (sg : List Value) (ep : Nat) (pre N : List Nat) (c : Nat) (t : Int) (hpre : pre = [] ∨ pre = [10]) (hr : OwnOff rest [P.G, P.dX]) (hsg : TextsAre sg ((pre ++ (spells t (c :: N)).flatten).map fun c => [c])) (hl : (pre ++ (spells t (c :: N)).flatten).length ≤ 1000) (hc : ∀ x ∈ (pre ++ (spells t (c :: N)).flatten), x < 0x110000) :
  Tel w 8 400 (.ref 98) [.ref P.X] (LexL w P line tl [] pe sg ep ++ rest) (fun v news' => ∃ t' line' tl' sg' ep' pre', (pre' = [] ∨ pre' = [10]) ∧ v = .str (tx [c]) t' ∧ news' = LexL w P line' tl' [] pe sg' ep' ++ rest ∧ TextsAre sg' ((pre' ++ (spells (t + 1) N).flatten).map fun c => [c]) ∧
    line' + cnt (pre' ++ (spells (t + 1) N).flatten) = line + cnt (pre ++ (spells t (c :: N)).flatten) ∧ (pre' ++ (spells (t + 1) N).flatten).length ≤ 1000 ∧ (∀ x ∈ (pre' ++ (spells (t + 1) N).flatten), x < 0x110000)) := by
  have key : ∀ pre' : List Nat, (∃ z, pre ++ (spells t (c :: N)).flatten = z ++ (pre' ++ (spells (t + 1) N).flatten)) → (pre' ++ (spells (t + 1) N).flatten).length ≤ 1000 ∧ (∀ x ∈ (pre' ++ (spells (t + 1) N).flatten), x < 0x110000) := by
    rintro pre' ⟨z, hz⟩
    rw [hz] at hl hc
    refine ⟨?_, fun x hx => hc x (List.mem_append_right _ hx)⟩
    rw [List.length_append] at hl
    omega
  by_cases hq : t.fmod 2 = 0
  · have e : pre ++ (spells t (c :: N)).flatten = pre ++ 34 :: (esc [c] ++ 34 :: ([10] ++ (spells (t + 1) N).flatten)) := by
      simp [spells, spell, hq]
    have hk := key [10] ⟨pre ++ 34 :: (esc [c] ++ [34]), by rw [e]; simp⟩
    rw [e] at hsg hl hc ⊢
    have H := get_quoted w P O rest line tl pe sg [c] ([10] ++ (spells (t + 1) N).flatten) ep pre hpre hr hsg hl hc (by simp)
    intro mean mg mb dp un gd cn cs ad ccd cl outer A₀ base h₀ L m s Q E B F X N T C1 C2 C3 hk' hd hu hret
    refine H mean mg mb dp un gd cn cs ad ccd cl outer A₀ base h₀ L m s Q E B F X N T C1 C2 C3 hk' hd hu ?_
    rintro v h' tk' news' F' N' ⟨t', line', tl', sg', ep', h1, h2, h3, h4⟩
    exact hret v h' tk' news' F' N' ⟨t', line', tl', sg', ep', [10], .inr rfl, h1, h2, h3, h4, hk.1, hk.2⟩
  · have e : pre ++ (spells t (c :: N)).flatten = pre ++ 92 :: c :: (bsl [] ++ 10 :: ([] ++ (spells (t + 1) N).flatten)) := by
      simp [spells, spell, hq, bsl]
    have hk := key [] ⟨pre ++ [92, c, 10], by rw [e]; simp [bsl]⟩
    rw [e] at hsg hl hc ⊢
    have H := get_plain w P O rest line tl pe sg c [] ([] ++ (spells (t + 1) N).flatten) ep pre hpre hr hsg hl hc (by simp)
    intro mean mg mb dp un gd cn cs ad ccd cl outer A₀ base h₀ L m s Q E B F X N T C1 C2 C3 hk' hd hu hret
    refine H mean mg mb dp un gd cn cs ad ccd cl outer A₀ base h₀ L m s Q E B F X N T C1 C2 C3 hk' hd hu ?_
    rintro v h' tk' news' F' N' ⟨t', line', tl', sg', ep', h1, h2, h3, h4⟩
    exact hret v h' tk' news' F' N' ⟨t', line', tl', sg', ep', [], .inl rfl, h1, h2, h3, h4, hk.1, hk.2⟩
end
section
noncomputable abbrev R3 (L D1 D2 : Addr) (vs1 vs2 : List Value) (k1 k2 : Nat) (o1 o2 o3 o4 o5 o6 o7 o8 o9 : Obj) (tb : Led) : Led := (D2, W.listOf vs2.toArray k2) :: (D1, W.listOf vs1.toArray k1) :: cells9 L o1 o2 o3 o4 o5 o6 o7 o8 o9 tb
inductive P3 (w : World) (L : Addr) (m : Str → Option Value) (tb : Led) (o1 : Obj) (o2 : Obj) (o3 : Obj) (o4 : Obj) (o6 : Obj) (o7 : Obj) (o8 : Obj) (o9 : Obj) (D1 : Addr) (D2 : Addr) (vs1 : List Value) (vs2 : List Value) (k1 : Nat) (k2 : Nat) (cs : List Nat) (m' : Str → Option Value) (news' : Led) : Prop
  | mk (zh1 : m' = m) (P : LexP) (tl : Tok) (sg : List Value) (ep : Nat) (p5 : Obj) (ps : Array Value) (zh2 : LexOk P) (zh3 : topA (R3 L D1 D2 vs1 vs2 k1 k2 o1 o2 o3 o4 p5 o6 o7 o8 o9 ((131, tabObj ps) :: tb)) ≤ P.cG) (zh4 : TextsAre sg (cs.map fun c => [c])) (zh5 : p5.data = .cell (some (.ref P.X))) (zh6 : news' = LexL w P 1 tl [] 0 sg ep ++ R3 L D1 D2 vs1 vs2 k1 k2 o1 o2 o3 o4 p5 o6 o7 o8 o9 ((131, tabObj ps) :: tb))
namespace Vstage3
noncomputable def At0 (w : World) (fa : Addr) (cd : Value) (L : Addr) (m : Str → Option Value) (tb : Led) (o1 : Obj) (o2 : Obj) (o3 : Obj) (o4 : Obj) (o5 : Obj) (o6 : Obj) (o7 : Obj) (o8 : Obj) (o9 : Obj) (D1 : Addr) (D2 : Addr) (vs1 : List Value) (vs2 : List Value) (k1 : Nat) (k2 : Nat) (cs : List Nat) (tt : Tok) (z : StgV) : Prop := ∀ (ht : topA tb ≤ L) (h131 : @LT.lt Nat _ 131 L) (hoff : OwnOff tb [131]) (hD1 : offC L ((131, tabObj #[]) :: tb) D1) (hD2 : offC L ((131, tabObj #[]) :: tb) D2) (e5 : o5.data = .cell none) (hm : m (Str.ofString "text") = some (.str (tx cs) tt)) (hcs : cs.length ≤ 1000), StgAt w fa cd L 6 1 (fun h => True) m (R3 L D1 D2 vs1 vs2 k1 k2 o1 o2 o3 o4 o5 o6 o7 o8 o9 ((131, tabObj #[]) :: tb))
    (P3 w L m tb o1 o2 o3 o4 o6 o7 o8 o9 D1 D2 vs1 vs2 k1 k2 cs) z
noncomputable def AtX (x : (World) × (Addr) × (Value) × (Addr) × (Str → Option Value) × (Led) × (Obj) × (Obj) × (Obj) × (Obj) × (Obj) × (Obj) × (Obj) × (Obj) × (Obj) × (Addr) × (Addr) × (List Value) × (List Value) × (Nat) × (Nat) × (List Nat) × (Tok) × StgV) : Prop := At0 (x.1) (x.2.1) (x.2.2.1) (x.2.2.2.1) (x.2.2.2.2.1) (x.2.2.2.2.2.1) (x.2.2.2.2.2.2.1) (x.2.2.2.2.2.2.2.1) (x.2.2.2.2.2.2.2.2.1) (x.2.2.2.2.2.2.2.2.2.1) (x.2.2.2.2.2.2.2.2.2.2.1) (x.2.2.2.2.2.2.2.2.2.2.2.1) (x.2.2.2.2.2.2.2.2.2.2.2.2.1) (x.2.2.2.2.2.2.2.2.2.2.2.2.2.1) (x.2.2.2.2.2.2.2.2.2.2.2.2.2.2.1) (x.2.2.2.2.2.2.2.2.2.2.2.2.2.2.2.1) (x.2.2.2.2.2.2.2.2.2.2.2.2.2.2.2.2.1) (x.2.2.2.2.2.2.2.2.2.2.2.2.2.2.2.2.2.1) (x.2.2.2.2.2.2.2.2.2.2.2.2.2.2.2.2.2.2.1) (x.2.2.2.2.2.2.2.2.2.2.2.2.2.2.2.2.2.2.2.1) (x.2.2.2.2.2.2.2.2.2.2.2.2.2.2.2.2.2.2.2.2.1) (x.2.2.2.2.2.2.2.2.2.2.2.2.2.2.2.2.2.2.2.2.2.1) (x.2.2.2.2.2.2.2.2.2.2.2.2.2.2.2.2.2.2.2.2.2.2.1) (x.2.2.2.2.2.2.2.2.2.2.2.2.2.2.2.2.2.2.2.2.2.2.2)
noncomputable def cc0 : (World) × (Addr) × (Value) × (Addr) × (Str → Option Value) × (Led) × (Obj) × (Obj) × (Obj) × (Obj) × (Obj) × (Obj) × (Obj) × (Obj) × (Obj) × (Addr) × (Addr) × (List Value) × (List Value) × (Nat) × (Nat) × (List Nat) × (Tok) × StgV := eps1 (ne_prod ne_world (ne_prod ne_addr (ne_prod ne_value (ne_prod ne_addr (ne_prod ne_par (ne_prod ne_led (ne_prod ne_obj (ne_prod ne_obj (ne_prod ne_obj (ne_prod ne_obj (ne_prod ne_obj (ne_prod ne_obj (ne_prod ne_obj (ne_prod ne_obj (ne_prod ne_obj (ne_prod ne_addr (ne_prod ne_addr (ne_prod ne_list (ne_prod ne_list (ne_prod ne_nat (ne_prod ne_nat (ne_prod ne_list (ne_prod ne_tok stgV_ne))))))))))))))))))))))) AtX
noncomputable def w : World := cc0.1
noncomputable def fa : Addr := cc0.2.1
noncomputable def cd : Value := cc0.2.2.1
noncomputable def L : Addr := cc0.2.2.2.1
noncomputable def m : Str → Option Value := cc0.2.2.2.2.1
noncomputable def tb : Led := cc0.2.2.2.2.2.1
noncomputable def o1 : Obj := cc0.2.2.2.2.2.2.1
noncomputable def o2 : Obj := cc0.2.2.2.2.2.2.2.1
noncomputable def o3 : Obj := cc0.2.2.2.2.2.2.2.2.1
noncomputable def o4 : Obj := cc0.2.2.2.2.2.2.2.2.2.1
noncomputable def o5 : Obj := cc0.2.2.2.2.2.2.2.2.2.2.1
noncomputable def o6 : Obj := cc0.2.2.2.2.2.2.2.2.2.2.2.1
noncomputable def o7 : Obj := cc0.2.2.2.2.2.2.2.2.2.2.2.2.1
noncomputable def o8 : Obj := cc0.2.2.2.2.2.2.2.2.2.2.2.2.2.1
noncomputable def o9 : Obj := cc0.2.2.2.2.2.2.2.2.2.2.2.2.2.2.1
noncomputable def D1 : Addr := cc0.2.2.2.2.2.2.2.2.2.2.2.2.2.2.2.1
noncomputable def D2 : Addr := cc0.2.2.2.2.2.2.2.2.2.2.2.2.2.2.2.2.1
noncomputable def vs1 : List Value := cc0.2.2.2.2.2.2.2.2.2.2.2.2.2.2.2.2.2.1
noncomputable def vs2 : List Value := cc0.2.2.2.2.2.2.2.2.2.2.2.2.2.2.2.2.2.2.1
noncomputable def k1 : Nat := cc0.2.2.2.2.2.2.2.2.2.2.2.2.2.2.2.2.2.2.2.1
noncomputable def k2 : Nat := cc0.2.2.2.2.2.2.2.2.2.2.2.2.2.2.2.2.2.2.2.2.1
noncomputable def cs : List Nat := cc0.2.2.2.2.2.2.2.2.2.2.2.2.2.2.2.2.2.2.2.2.2.1
noncomputable def tt : Tok := cc0.2.2.2.2.2.2.2.2.2.2.2.2.2.2.2.2.2.2.2.2.2.2.1
noncomputable def v0 : StgV := cc0.2.2.2.2.2.2.2.2.2.2.2.2.2.2.2.2.2.2.2.2.2.2.2
noncomputable abbrev base := v0.base
noncomputable abbrev s := v0.s
theorem aux (ht : topA tb ≤ L) (h131 : @LT.lt Nat _ 131 L) (hoff : OwnOff tb [131]) (hD1 : offC L ((131, tabObj #[]) :: tb) D1) (hD2 : offC L ((131, tabObj #[]) :: tb) D2) (e5 : o5.data = .cell none) (hm : m (Str.ofString "text") = some (.str (tx cs) tt)) (hcs : cs.length ≤ 1000) :
  StgAt w fa cd L 6 1 (fun h => True) m (R3 L D1 D2 vs1 vs2 k1 k2 o1 o2 o3 o4 o5 o6 o7 o8 o9 ((131, tabObj #[]) :: tb))
    (P3 w L m tb o1 o2 o3 o4 o6 o7 o8 o9 D1 D2 vs1 vs2 k1 k2 cs) v0 := by
  intro B F X N T C1 C2 C3 hE hS hret
  have N1 : News base L s.heap ((131, tabObj #[]) :: R3 L D1 D2 vs1 vs2 k1 k2 o1 o2 o3 o4 o5 o6 o7 o8 o9 tb) := news_perm N (by intro p hp; simp only [List.mem_cons] at hp ⊢; grind)
  clear N
  have hM : Has m [(Str.ofString "text", .str (tx cs) tt)] := ⟨hm, trivial⟩
  have F0 := fr_all0 hM F
  clear F
  have hoff' : OwnOff (R3 L D1 D2 vs1 vs2 k1 k2 o1 o2 o3 o4 o5 o6 o7 o8 o9 tb) [131] := by
    have h9 : ∀ i : Nat, ∀ d ∈ [131], @Ne Nat (L + i) d := fun i d hd => by
      rw [List.mem_singleton.mp hd]
      exact Nat.ne_of_gt (Nat.lt_of_lt_of_le h131 (Nat.le_add_right L i))
    obtain ⟨_, _, _, _, _, _, _, _, _, a1, _⟩ := hD1
    obtain ⟨_, _, _, _, _, _, _, _, _, a2, _⟩ := hD2
    refine ownOff_cons (fun d hd => by rw [List.mem_singleton.mp hd]; exact Ne.symm a2) (ownOff_cons (fun d hd => by rw [List.mem_singleton.mp hd]; exact Ne.symm a1) ?_)
    exact ownOff_cons (h9 9) (ownOff_cons (h9 8) (ownOff_cons (h9 7) (ownOff_cons (h9 6) (ownOff_cons (h9 5) (ownOff_cons (h9 4) (ownOff_cons (h9 3) (ownOff_cons (h9 2) (ownOff_cons (h9 1) hoff))))))))
  (repeat' (first | (with_reducible refine if_ff ?_) | (with_reducible refine if_tt ?_) | (k_unfold; (try dsimp only)) | (k_end; wrow_close) | (cell_step; walk1) | (cell_step; dsimp only; walk1) | (leave1; walk_say "STEP leave1"; try dsimp only) | fail "no step"))
  (refine' tel_use ?tH ?tB ?tF ?tX ?tN ?tT ?tC1 ?tC2 ?tC3 ?tk ?td ?tu ?_; (case tB => k_asm); (case tF => k_asm); (case tX => k_asm); (case tN => k_asm); (case tT => k_asm); (case tC1 => assumption); (case tC2 => assumption); (case tC3 => assumption); (case tk => first | exact rfl | assumption); (case tH => exact (law_lexer w (R3 L D1 D2 vs1 vs2 k1 k2 o1 o2 o3 o4 o5 o6 o7 o8 o9 tb) cs _ hcs hoff')); (case td => ktr_room); (case tu => ktr_units))
  rintro v9 h9 tk9 news9 F9 N9 ⟨P, tl, sg, ep, rfl, O, _, hsg, ps, hP, rfl⟩
  (try dsimp only)
  obtain ⟨q1, q2, q3, n1, n2, n3, n4, n5, n6, n7, n8, n9⟩ := O
  simp only [topA_nil, topA_cons, topA_app, Nat.max_le, Nat.zero_le, true_and, and_true, List.cons_append, List.nil_append] at hP
  obtain ⟨b1, b2, b3, b4, b5, b6, b7, b8, b9, _⟩ := hD1
  obtain ⟨c1, c2, c3, c4, c5, c6, c7, c8, c9, _⟩ := hD2
  simp only [LexL, List.cons_append, List.nil_append] at N9
  (repeat' (first | (with_reducible refine if_ff ?_) | (with_reducible refine if_tt ?_) | (k_unfold; (try dsimp only)) | (k_end; wrow_close) | (cell_step; walk1) | (cell_step; dsimp only; walk1) | (leave1; walk_say "STEP leave1"; try dsimp only) | fail "no step"))
  rename Fr _ _ _ _ => F1
  rename News _ _ _ _ => N2
  rw [bindAll_eq hM] at F1
  rename (_ = Data.cell (some (Value.ref P.X))) => e9
  refine hret _ _ (news' := LexL w P 1 tl [] 0 sg ep ++ R3 L D1 D2 vs1 vs2 k1 k2 o1 o2 o3 o4 _ o6 o7 o8 o9 ((131, tabObj ps) :: tb)) _ F1 (news_perm N2 ?pm) ⟨rfl, P, tl, sg, ep, _, ps, ⟨q1, q2, q3, n1, n2, n3, n4, n5, n6, n7, n8, n9⟩, ?_, hsg, e9, rfl⟩
  case pm => simp only [LexL, List.cons_append, List.nil_append]; walk_at "mem all"
  simp only [topA_nil, topA_cons, topA_app, Nat.max_le, Nat.zero_le, true_and, and_true, List.cons_append, List.nil_append]
  omega
end Vstage3
theorem stage3 (w : World) (fa : Addr) (cd : Value) (L : Addr) (m : Str → Option Value) (tb : Led) (o1 o2 o3 o4 o5 o6 o7 o8 o9 : Obj) (ht : topA tb ≤ L) (h131 : @LT.lt Nat _ 131 L) (hoff : OwnOff tb [131]) (D1 D2 : Addr) (hD1 : offC L ((131, tabObj #[]) :: tb) D1) (hD2 : offC L ((131, tabObj #[]) :: tb) D2) (vs1 vs2 : List Value) (k1 k2 : Nat) (e5 : o5.data = .cell none) (cs : List Nat) (tt : Tok) (hm : m (Str.ofString "text") = some (.str (tx cs) tt)) (hcs : cs.length ≤ 1000) :
  Stg w fa cd L 6 1 (fun h => True) m (R3 L D1 D2 vs1 vs2 k1 k2 o1 o2 o3 o4 o5 o6 o7 o8 o9 ((131, tabObj #[]) :: tb))
    (P3 w L m tb o1 o2 o3 o4 o6 o7 o8 o9 D1 D2 vs1 vs2 k1 k2 cs) := stg_of fun z => (show Vstage3.At0 w fa cd L m tb o1 o2 o3 o4 o5 o6 o7 o8 o9 D1 D2 vs1 vs2 k1 k2 cs tt z from eps1_all (P := Vstage3.AtX) @Vstage3.aux (w, fa, cd, L, m, tb, o1, o2, o3, o4, o5, o6, o7, o8, o9, D1, D2, vs1, vs2, k1, k2, cs, tt, z)) ht h131 hoff hD1 hD2 e5 hm hcs
end
end
section
local macro_rules | `(tactic| cell_step) => `(tactic| (walk_at "s1"; walk_at "s2"))
section
inductive LexSt (w : World) (P : LexP) (t : Int) (N : List Nat) (tot0 : Int) (pb : List Value) (rest : Led) (news : Led) : Prop
  | mk (line : Int) (tl : Tok) (pe : Nat) (sg : List Value) (ep : Nat) (pre : List Nat) (zh1 : (pre = [] ∨ pre = [10])) (zh2 : news = LexL w P line tl pb pe sg ep ++ rest) (zh3 : TextsAre sg ((pre ++ (spells t N).flatten).map fun c => [c])) (zh4 : line + cnt (pre ++ (spells t N).flatten) = tot0) (zh5 : (pre ++ (spells t N).flatten).length ≤ 1000) (zh6 : ∀ x ∈ (pre ++ (spells t N).flatten), x < 0x110000)
theorem get_st (w : World) (P : LexP) (O : LexOk P) (rest news : Led) (t : Int) (c : Nat) (N : List Nat) (tot0 : Int) (hr : OwnOff rest [P.G, P.dX]) (h : LexSt w P t (c :: N) tot0 [] rest news) :
  Tel w 8 400 (.ref 98) [.ref P.X] news (fun v news' => ∃ t', v = .str (tx [c]) t' ∧ LexSt w P (t + 1) N tot0 [] rest news') := by
  obtain ⟨line, tl, pe, sg, ep, pre, h1, rfl, h3, h4, h5, h6⟩ := h
  have H := get_next w P O rest line tl pe sg ep pre N c t h1 hr h3 h5 h6
  intro mean mg mb dp un gd cn cs ad ccd cl outer A₀ base h₀ L m s Q E B F X N T C1 C2 C3 hk' hd hu hret
  refine H mean mg mb dp un gd cn cs ad ccd cl outer A₀ base h₀ L m s Q E B F X N T C1 C2 C3 hk' hd hu ?_
  rintro v h' tk' news' F' N' ⟨t', line', tl', sg', ep', pre', g1, g2, g3, g4, g5, g6, g7⟩
  exact hret v h' tk' news' F' N' ⟨t', g2, line', tl', pe, sg', ep', pre', g1, g3, g4, g5.trans h4, g6, g7⟩
theorem in3 {x y z : Addr × Obj} {A B : Led} : ∀ p ∈ A ++ (x :: y :: z :: B), p ∈ x :: y :: z :: (A ++ B) := by
  intro p hp
  simp only [List.mem_append, List.mem_cons] at hp ⊢
  rcases hp with h | h | h | h | h <;> simp only [h, true_or, or_true]
theorem in3' {x y z : Addr × Obj} {A B : Led} : ∀ p ∈ x :: y :: z :: (A ++ B), p ∈ A ++ (x :: y :: z :: B) := by
  intro p hp
  simp only [List.mem_append, List.mem_cons] at hp ⊢
  rcases hp with h | h | h | h | h <;> simp only [h, true_or, or_true]
theorem one_ok : ∀ c < 128, PyData.strOk (tx [c]) = true := by decide +kernel
theorem ones_ok {W : List Nat} (h : ∀ c ∈ W, c < 128) : TxOk (W.map fun c => [c]) := by
  intro w hw
  obtain ⟨c, hc, rfl⟩ := List.mem_map.mp hw
  exact one_ok c (h c hc)
theorem at_drop {l : List Nat} {i n : Nat} (h : l.length = n) (hi : i < n) : ∃ c, l[i]? = some c ∧ l.drop i = c :: l.drop (i + 1) := by
  subst h
  exact ⟨l[i], List.getElem?_eq_getElem hi, List.drop_eq_getElem_cons hi⟩
theorem offG {w : World} {P : LexP} {line : Int} {tl : Tok} {pb : List Value} {pe : Nat} {sg : List Value} {ep : Nat} {I C D : Addr} {rest : Led} {oI oC oD : Obj} (O : LexOk P) (off : LCg.Off3 I C D (LexL w P line tl pb pe sg ep ++ rest)) (ht : topA rest ≤ P.cG) : OwnOff ((I, oI) :: (C, oC) :: (D, oD) :: rest) [P.G, P.dX] := by
  obtain ⟨_, _, x3, _, _, _, _, x8, _, _⟩ := off
  obtain ⟨q1, q2, q3, n1, n2, n3, n4, n5, n6, n7, n8, n9⟩ := O
  refine ownOff_cons (fun d hd => ?_) (ownOff_cons (fun d hd => ?_) (ownOff_cons (fun d hd => ?_) fun p hp d hd => ?_))
  · simp only [List.mem_cons, List.not_mem_nil, or_false] at hd
    rcases hd with rfl | rfl
    · exact Ne.symm x8.1
    · exact Ne.symm x3.1
  · simp only [List.mem_cons, List.not_mem_nil, or_false] at hd
    rcases hd with rfl | rfl
    · exact Ne.symm x8.2.1
    · exact Ne.symm x3.2.1
  · simp only [List.mem_cons, List.not_mem_nil, or_false] at hd
    rcases hd with rfl | rfl
    · exact Ne.symm x8.2.2
    · exact Ne.symm x3.2.2
  · simp only [List.mem_cons, List.not_mem_nil, or_false] at hd
    rcases hd with rfl | rfl
    · exact topA_ne (by omega) p hp
    · exact topA_ne (by omega) p hp
namespace Vstage4
noncomputable def At0 (w : World) (fa : Addr) (cd : Value) (L : Addr) (tot : Int) (tot0 : Int) (m : Str → Option Value) (tb : Led) (o1 : Obj) (o2 : Obj) (o3 : Obj) (o4 : Obj) (o5 : Obj) (o6 : Obj) (o7 : Obj) (o8 : Obj) (o9 : Obj) (D1 : Addr) (D2 : Addr) (vs1 : List Value) (vs2 : List Value) (k1 : Nat) (k2 : Nat) (P : LexP) (Wy : List Nat) (u : Nat) (v : Nat) (z : StgV) : Prop := ∀ (O : LexOk P) (e5 : o5.data = .cell (some (.ref P.X))) (N5 : List Nat) (hW : Wy.length = 3) (hN5 : N5 = Wy ++ [u, v]) (hok : ∀ c ∈ N5, c < 128) (hv1 : TextsAre vs1 (Wy.map fun c => [c])) (htop : topA (R3 L D1 D2 vs1 vs2 k1 k2 o1 o2 o3 o4 o5 o6 o7 o8 o9 tb) ≤ P.cG) (hm : m (Str.ofString "way") = some (.ref D1)) (news : Led) (hst : LexSt w P tot N5 tot0 [] (R3 L D1 D2 vs1 vs2 k1 k2 o1 o2 o3 o4 o5 o6 o7 o8 o9 tb) news), StgAt w fa cd L 7 1 (fun h => True) m news
    (fun m' news' => m' = m ∧ LexSt w P (tot + 3) [u, v] tot0 [] (R3 L D1 D2 vs1 vs2 k1 k2 o1 o2 o3 o4 o5 o6 o7 o8 o9 tb) news') z
noncomputable def AtX (x : (World) × (Addr) × (Value) × (Addr) × (Int) × (Int) × (Str → Option Value) × (Led) × (Obj) × (Obj) × (Obj) × (Obj) × (Obj) × (Obj) × (Obj) × (Obj) × (Obj) × (Addr) × (Addr) × (List Value) × (List Value) × (Nat) × (Nat) × (LexP) × (List Nat) × (Nat) × (Nat) × StgV) : Prop := At0 (x.1) (x.2.1) (x.2.2.1) (x.2.2.2.1) (x.2.2.2.2.1) (x.2.2.2.2.2.1) (x.2.2.2.2.2.2.1) (x.2.2.2.2.2.2.2.1) (x.2.2.2.2.2.2.2.2.1) (x.2.2.2.2.2.2.2.2.2.1) (x.2.2.2.2.2.2.2.2.2.2.1) (x.2.2.2.2.2.2.2.2.2.2.2.1) (x.2.2.2.2.2.2.2.2.2.2.2.2.1) (x.2.2.2.2.2.2.2.2.2.2.2.2.2.1) (x.2.2.2.2.2.2.2.2.2.2.2.2.2.2.1) (x.2.2.2.2.2.2.2.2.2.2.2.2.2.2.2.1) (x.2.2.2.2.2.2.2.2.2.2.2.2.2.2.2.2.1) (x.2.2.2.2.2.2.2.2.2.2.2.2.2.2.2.2.2.1) (x.2.2.2.2.2.2.2.2.2.2.2.2.2.2.2.2.2.2.1) (x.2.2.2.2.2.2.2.2.2.2.2.2.2.2.2.2.2.2.2.1) (x.2.2.2.2.2.2.2.2.2.2.2.2.2.2.2.2.2.2.2.2.1) (x.2.2.2.2.2.2.2.2.2.2.2.2.2.2.2.2.2.2.2.2.2.1) (x.2.2.2.2.2.2.2.2.2.2.2.2.2.2.2.2.2.2.2.2.2.2.1) (x.2.2.2.2.2.2.2.2.2.2.2.2.2.2.2.2.2.2.2.2.2.2.2.1) (x.2.2.2.2.2.2.2.2.2.2.2.2.2.2.2.2.2.2.2.2.2.2.2.2.1) (x.2.2.2.2.2.2.2.2.2.2.2.2.2.2.2.2.2.2.2.2.2.2.2.2.2.1) (x.2.2.2.2.2.2.2.2.2.2.2.2.2.2.2.2.2.2.2.2.2.2.2.2.2.2.1) (x.2.2.2.2.2.2.2.2.2.2.2.2.2.2.2.2.2.2.2.2.2.2.2.2.2.2.2)
noncomputable def cc0 : (World) × (Addr) × (Value) × (Addr) × (Int) × (Int) × (Str → Option Value) × (Led) × (Obj) × (Obj) × (Obj) × (Obj) × (Obj) × (Obj) × (Obj) × (Obj) × (Obj) × (Addr) × (Addr) × (List Value) × (List Value) × (Nat) × (Nat) × (LexP) × (List Nat) × (Nat) × (Nat) × StgV := eps1 (ne_prod ne_world (ne_prod ne_addr (ne_prod ne_value (ne_prod ne_addr (ne_prod ne_int (ne_prod ne_int (ne_prod ne_par (ne_prod ne_led (ne_prod ne_obj (ne_prod ne_obj (ne_prod ne_obj (ne_prod ne_obj (ne_prod ne_obj (ne_prod ne_obj (ne_prod ne_obj (ne_prod ne_obj (ne_prod ne_obj (ne_prod ne_addr (ne_prod ne_addr (ne_prod ne_list (ne_prod ne_list (ne_prod ne_nat (ne_prod ne_nat (ne_prod ne_lexp (ne_prod ne_list (ne_prod ne_nat (ne_prod ne_nat stgV_ne))))))))))))))))))))))))))) AtX
noncomputable def w : World := cc0.1
noncomputable def fa : Addr := cc0.2.1
noncomputable def cd : Value := cc0.2.2.1
noncomputable def L : Addr := cc0.2.2.2.1
noncomputable def tot : Int := cc0.2.2.2.2.1
noncomputable def tot0 : Int := cc0.2.2.2.2.2.1
noncomputable def m : Str → Option Value := cc0.2.2.2.2.2.2.1
noncomputable def tb : Led := cc0.2.2.2.2.2.2.2.1
noncomputable def o1 : Obj := cc0.2.2.2.2.2.2.2.2.1
noncomputable def o2 : Obj := cc0.2.2.2.2.2.2.2.2.2.1
noncomputable def o3 : Obj := cc0.2.2.2.2.2.2.2.2.2.2.1
noncomputable def o4 : Obj := cc0.2.2.2.2.2.2.2.2.2.2.2.1
noncomputable def o5 : Obj := cc0.2.2.2.2.2.2.2.2.2.2.2.2.1
noncomputable def o6 : Obj := cc0.2.2.2.2.2.2.2.2.2.2.2.2.2.1
noncomputable def o7 : Obj := cc0.2.2.2.2.2.2.2.2.2.2.2.2.2.2.1
noncomputable def o8 : Obj := cc0.2.2.2.2.2.2.2.2.2.2.2.2.2.2.2.1
noncomputable def o9 : Obj := cc0.2.2.2.2.2.2.2.2.2.2.2.2.2.2.2.2.1
noncomputable def D1 : Addr := cc0.2.2.2.2.2.2.2.2.2.2.2.2.2.2.2.2.2.1
noncomputable def D2 : Addr := cc0.2.2.2.2.2.2.2.2.2.2.2.2.2.2.2.2.2.2.1
noncomputable def vs1 : List Value := cc0.2.2.2.2.2.2.2.2.2.2.2.2.2.2.2.2.2.2.2.1
noncomputable def vs2 : List Value := cc0.2.2.2.2.2.2.2.2.2.2.2.2.2.2.2.2.2.2.2.2.1
noncomputable def k1 : Nat := cc0.2.2.2.2.2.2.2.2.2.2.2.2.2.2.2.2.2.2.2.2.2.1
noncomputable def k2 : Nat := cc0.2.2.2.2.2.2.2.2.2.2.2.2.2.2.2.2.2.2.2.2.2.2.1
noncomputable def P : LexP := cc0.2.2.2.2.2.2.2.2.2.2.2.2.2.2.2.2.2.2.2.2.2.2.2.1
noncomputable def Wy : List Nat := cc0.2.2.2.2.2.2.2.2.2.2.2.2.2.2.2.2.2.2.2.2.2.2.2.2.1
noncomputable def u : Nat := cc0.2.2.2.2.2.2.2.2.2.2.2.2.2.2.2.2.2.2.2.2.2.2.2.2.2.1
noncomputable def v : Nat := cc0.2.2.2.2.2.2.2.2.2.2.2.2.2.2.2.2.2.2.2.2.2.2.2.2.2.2.1
noncomputable def v0 : StgV := cc0.2.2.2.2.2.2.2.2.2.2.2.2.2.2.2.2.2.2.2.2.2.2.2.2.2.2.2
noncomputable abbrev base := v0.base
theorem aux (O : LexOk P) (e5 : o5.data = .cell (some (.ref P.X))) (N5 : List Nat) (hW : Wy.length = 3) (hN5 : N5 = Wy ++ [u, v]) (hok : ∀ c ∈ N5, c < 128) (hv1 : TextsAre vs1 (Wy.map fun c => [c])) (htop : topA (R3 L D1 D2 vs1 vs2 k1 k2 o1 o2 o3 o4 o5 o6 o7 o8 o9 tb) ≤ P.cG) (hm : m (Str.ofString "way") = some (.ref D1)) (news : Led) (hst : LexSt w P tot N5 tot0 [] (R3 L D1 D2 vs1 vs2 k1 k2 o1 o2 o3 o4 o5 o6 o7 o8 o9 tb) news) :
  StgAt w fa cd L 7 1 (fun h => True) m news
    (fun m' news' => m' = m ∧ LexSt w P (tot + 3) [u, v] tot0 [] (R3 L D1 D2 vs1 vs2 k1 k2 o1 o2 o3 o4 o5 o6 o7 o8 o9 tb) news') v0 := by
  intro B F X N T C1 C2 C3 hE hS hret
  have hst0 : LexSt w P (tot + ((0 : Nat) : Int)) (N5.drop 0) tot0 [] (R3 L D1 D2 vs1 vs2 k1 k2 o1 o2 o3 o4 o5 o6 o7 o8 o9 tb) news := by
    rw [show tot + ((0 : Nat) : Int) = tot from Int.add_zero _, List.drop_zero]
    exact hst
  obtain ⟨line, tl, pe, sg, ep, pre, h1, rfl, h3, h4, h5, h6⟩ := hst
  have hM : Has m [(Str.ofString "way", .ref D1)] := ⟨hm, trivial⟩
  have F0 := fr_all0 hM F
  clear F
  simp only [LexL, List.cons_append, List.nil_append] at N
  (repeat' (first | (with_reducible refine if_ff ?_) | (with_reducible refine if_tt ?_) | (k_unfold; (try dsimp only)) | (k_end; wrow_close) | (cell_step; walk1) | (cell_step; dsimp only; walk1) | (leave1; walk_say "STEP leave1"; try dsimp only) | fail "no step"))
  rename Fr _ _ _ _ => F1
  rename News _ _ _ _ => N1
  refine LCg.CompSrc.range (by rfl) F1 N1 (by assumption) (by decide) (by rfl) (by exact Nat.le_of_ble_eq_true rfl) ?_
  intro g'
  refine comp_ind (fun i ys nx => LexSt w P (tot + (i : Int)) (N5.drop i) tot0 [] (R3 L D1 D2 vs1 vs2 k1 k2 o1 o2 o3 o4 o5 o6 o7 o8 o9 tb) nx ∧ TextsAre ys ((N5.take i).map fun c => [c])) ⟨hst0, .nil⟩ ?turn ?fin
  case turn =>
    rintro i v9 ys nx hi ⟨tv, rfl⟩ ⟨hst, hys⟩ I oI C oC D m₂ h tk E' hC hx F2 N2 off ne
    have hi3 : i < 3 := hi
    have hlen : N5.length = 5 := by rw [hN5]; simp [hW]
    obtain ⟨c, hc, hdr⟩ := at_drop hlen (i := i) (Nat.lt_trans hi3 (by decide))
    rw [hdr] at hst
    obtain ⟨line', tl', pe', sg', ep', pre', h1', rfl, h3', h4', h5', h6'⟩ := hst
    have hoffG : OwnOff ((I, oI) :: (C, oC) :: (D, LCg.lst ys) :: R3 L D1 D2 vs1 vs2 k1 k2 o1 o2 o3 o4 o5 o6 o7 o8 o9 tb) [P.G, P.dX] := offG O off htop
    have N3 : News base L h (LexL w P line' tl' [] pe' sg' ep' ++ ((I, oI) :: (C, oC) :: (D, LCg.lst ys) :: R3 L D1 D2 vs1 vs2 k1 k2 o1 o2 o3 o4 o5 o6 o7 o8 o9 tb)) := news_perm N2 in3
    clear N2 N1
    simp only [LexL, List.cons_append, List.nil_append] at N3
    (repeat' (first | (with_reducible refine if_ff ?_) | (with_reducible refine if_tt ?_) | (k_unfold; (try dsimp only)) | (k_end; wrow_close) | (cell_step; walk1) | (cell_step; dsimp only; walk1) | (leave1; walk_say "STEP leave1"; try dsimp only) | fail "no step"))
    (refine' tel_use ?tH ?tB ?tF ?tX ?tN ?tT ?tC1 ?tC2 ?tC3 ?tk ?td ?tu ?_; (case tB => k_asm); (case tF => k_asm); (case tX => k_asm); (case tN => k_asm); (case tT => k_asm); (case tC1 => assumption); (case tC2 => assumption); (case tC3 => assumption); (case tk => first | exact rfl | assumption); (case tH => exact (get_st w P O ((I, oI) :: (C, oC) :: (D, LCg.lst ys) :: R3 L D1 D2 vs1 vs2 k1 k2 o1 o2 o3 o4 o5 o6 o7 o8 o9 tb) _ (tot + (i : Int)) c (N5.drop (i + 1)) tot0 hoffG ⟨line', tl', pe', sg', ep', pre', h1', rfl, h3', h4', h5', h6'⟩)); (case td => ktr_room); (case tu => ktr_units))
    rintro v8 h8 tk8 news8 F8 N8 ⟨t8, rfl, line8, tl8, pe8, sg8, ep8, pre8, z1, rfl, z3, z4, z5, z6⟩
    (try dsimp only)
    have e8 : tot + (i : Int) + 1 = tot + ((i + 1 : Nat) : Int) := by push_cast; omega
    rw [e8] at z3 z4 z5 z6
    refine LCg.CompEnd.intro F8 N8 (LexL w P line8 tl8 [] pe8 sg8 ep8 ++ R3 L D1 D2 vs1 vs2 k1 k2 o1 o2 o3 o4 o5 o6 o7 o8 o9 tb) in3' off trivial ⟨⟨line8, tl8, pe8, sg8, ep8, pre8, z1, rfl, z3, z4, z5, z6⟩, ?_⟩
    rw [List.take_add_one, hc]
    show TextsAre _ ((N5.take i ++ [c]).map _)
    rw [List.map_append]
    exact hys.append (.cons _ _ .nil)
  case fin =>
    rintro ys nx ⟨hst, hys⟩
    have e3 : ((3 - 0 - 1) / 1 + 1 : Nat) = 3 := rfl
    rw [e3] at hst hys
    have ht3 : N5.take 3 = Wy := by rw [hN5, List.take_append_of_le_length (by omega), List.take_of_length_le (by omega)]
    have hd3 : N5.drop 3 = [u, v] := by rw [hN5, List.drop_append_of_le_length (by omega), List.drop_of_length_le (by omega)]; rfl
    rw [ht3] at hys
    rw [hd3] at hst
    unfold LCg.FinE
    intro D h9 tk9 F9 N9 off9
    obtain ⟨line', tl', pe', sg', ep', pre', h1', rfl, h3', h4', h5', h6'⟩ := hst
    have hD1m : (D1, W.listOf vs1.toArray k1) ∈ R3 L D1 D2 vs1 vs2 k1 k2 o1 o2 o3 o4 o5 o6 o7 o8 o9 tb := .tail _ (.head _)
    have hLd := News.isList N9 (.head _)
    have hL1 := News.isList N9 (.tail _ (List.mem_append_right _ hD1m))
    (repeat' (first | (with_reducible refine if_ff ?_) | (with_reducible refine if_tt ?_) | (k_unfold; (try dsimp only)) | (k_end; wrow_close) | (cell_step; walk1) | (cell_step; dsimp only; walk1) | (leave1; walk_say "STEP leave1"; try dsimp only) | fail "no step"))
    have hok3 : TxOk (Wy.map fun c => [c]) := ones_ok fun c hc => hok c (by rw [hN5]; exact List.mem_append_left _ hc)
    refine tx_ne hLd hL1 hys hv1 hok3 hok3 (Nat.le_of_ble_eq_true rfl) ?_
    (try dsimp only)
    (repeat' (first | (with_reducible refine if_ff ?_) | (with_reducible refine if_tt ?_) | (k_unfold; (try dsimp only)) | (k_end; wrow_close) | (cell_step; walk1) | (cell_step; dsimp only; walk1) | (leave1; walk_say "STEP leave1"; try dsimp only) | fail "no step"))
    · rw [bindAll_eq hM] at F9
      exact hret _ _ _ _ F9 (news_tail N9) ⟨rfl, line', tl', pe', sg', ep', pre', h1', rfl, h3', h4', h5', h6'⟩
    all_goals exact absurd rfl (by assumption)
end Vstage4
theorem stage4 (w : World) (fa : Addr) (cd : Value) (L : Addr) (tot tot0 : Int) (m : Str → Option Value) (tb : Led) (o1 o2 o3 o4 o5 o6 o7 o8 o9 : Obj) (D1 D2 : Addr) (vs1 vs2 : List Value) (k1 k2 : Nat) (P : LexP) (O : LexOk P) (e5 : o5.data = .cell (some (.ref P.X)))
   (Wy N5 : List Nat) (u v : Nat) (hW : Wy.length = 3) (hN5 : N5 = Wy ++ [u, v]) (hok : ∀ c ∈ N5, c < 128) (hv1 : TextsAre vs1 (Wy.map fun c => [c]))
   (htop : topA (R3 L D1 D2 vs1 vs2 k1 k2 o1 o2 o3 o4 o5 o6 o7 o8 o9 tb) ≤ P.cG) (hm : m (Str.ofString "way") = some (.ref D1)) (news : Led) (hst : LexSt w P tot N5 tot0 [] (R3 L D1 D2 vs1 vs2 k1 k2 o1 o2 o3 o4 o5 o6 o7 o8 o9 tb) news) :
  Stg w fa cd L 7 1 (fun h => True) m news
    (fun m' news' => m' = m ∧ LexSt w P (tot + 3) [u, v] tot0 [] (R3 L D1 D2 vs1 vs2 k1 k2 o1 o2 o3 o4 o5 o6 o7 o8 o9 tb) news') := stg_of fun z => (show Vstage4.At0 w fa cd L tot tot0 m tb o1 o2 o3 o4 o5 o6 o7 o8 o9 D1 D2 vs1 vs2 k1 k2 P Wy u v z from eps1_all (P := Vstage4.AtX) @Vstage4.aux (w, fa, cd, L, tot, tot0, m, tb, o1, o2, o3, o4, o5, o6, o7, o8, o9, D1, D2, vs1, vs2, k1, k2, P, Wy, u, v, z)) O e5 N5 hW hN5 hok hv1 htop hm news hst
end
end
section
local macro_rules | `(tactic| cell_step) => `(tactic| (walk_at "s1"; walk_at "s2"; walk_at "t2"))
section
noncomputable abbrev LexTwo (w : World) (P : LexP) (tot tot0 : Int) (u v : Nat) (rest : Led) (f e : List Nat) (news : Led) : Prop :=
  (f = [u] ∧ e = [v] ∧ LexSt w P tot [u, v] tot0 [] rest news) ∨ ∃ t t', LexSt w P (tot + 2) [] tot0 [.str (tx f) t, .str (tx e) t'] rest news
noncomputable abbrev LexOne (w : World) (P : LexP) (tot tot0 : Int) (v : Nat) (rest : Led) (e : List Nat) (news : Led) : Prop :=
  (e = [v] ∧ LexSt w P (tot + 1) [v] tot0 [] rest news) ∨ ∃ t', LexSt w P (tot + 2) [] tot0 [.str (tx e) t'] rest news
theorem tel_post {w : World} {d u : Nat} {f : Value} {args : List Value} {news : Led} {R R' : Value → Led → Prop} (H : Tel w d u f args news R) (h : ∀ v n, R v n → R' v n) : Tel w d u f args news R' := by
  intro mean mg mb dp un gd cn cs ad ccd cl outer A₀ base h₀ L m s Q E B F X N T C1 C2 C3 hk' hd hu hret
  exact H mean mg mb dp un gd cn cs ad ccd cl outer A₀ base h₀ L m s Q E B F X N T C1 C2 C3 hk' hd hu fun v h' tk' news' F' N' hr => hret v h' tk' news' F' N' (h v news' hr)
theorem get_two (w : World) (P : LexP) (O : LexOk P) (rest news : Led) (tot tot0 : Int) (u v : Nat) (f e : List Nat) (hr : OwnOff rest [P.G, P.dX]) (hr2 : ∀ p ∈ rest, p.1 ≠ P.PB) (h : LexTwo w P tot tot0 u v rest f e news) :
  Tel w 8 400 (.ref 98) [.ref P.X] news (fun x news' => ∃ t', x = .str (tx f) t' ∧ LexOne w P tot tot0 v rest e news') := by
  rcases h with ⟨rfl, rfl, h⟩ | ⟨t, t', line, tl, pe, sg, ep, pre, h1, rfl, h3, h4, h5, h6⟩
  · exact tel_post (get_st w P O rest news tot u [v] tot0 hr h) fun x n ⟨t', hx, hs⟩ => ⟨t', hx, .inl ⟨rfl, hs⟩⟩
  · exact tel_post (pushed w P O rest line tl (tx f) t [.str (tx e) t'] pe sg ep hr2 (by simp)) fun x n ⟨pe', hx, hn⟩ => ⟨t, hx, .inr ⟨t', line, tl, pe', sg, ep, pre, h1, hn, h3, h4, h5, h6⟩⟩
theorem get_one (w : World) (P : LexP) (O : LexOk P) (rest news : Led) (tot tot0 : Int) (v : Nat) (e : List Nat) (hr : OwnOff rest [P.G, P.dX]) (hr2 : ∀ p ∈ rest, p.1 ≠ P.PB) (h : LexOne w P tot tot0 v rest e news) :
  Tel w 8 400 (.ref 98) [.ref P.X] news (fun x news' => ∃ t', x = .str (tx e) t' ∧ LexSt w P (tot + 2) [] tot0 [] rest news') := by
  rcases h with ⟨rfl, h⟩ | ⟨t', line, tl, pe, sg, ep, pre, h1, rfl, h3, h4, h5, h6⟩
  · exact tel_post (get_st w P O rest news (tot + 1) v [] tot0 hr h) fun x n ⟨t', hx, hs⟩ => ⟨t', hx, by rw [show tot + 2 = tot + 1 + 1 by omega]; exact hs⟩
  · exact tel_post (pushed w P O rest line tl (tx e) t' [] pe sg ep hr2 (by simp)) fun x n ⟨pe', hx, hn⟩ => ⟨t', hx, line, tl, pe', sg, ep, pre, h1, hn, h3, h4, h5, h6⟩
theorem put_st (w : World) (P : LexP) (O : LexOk P) (rest news : Led) (t tot0 : Int) (N : List Nat) (x : Str) (tk : Tok) (pb : List Value) (hl : pb.length ≤ 1000) (hr2 : ∀ p ∈ rest, p.1 ≠ P.PB) (h : LexSt w P t N tot0 pb rest news) :
  Tel w 8 400 (.ref 105) [.ref P.X, .str x tk] news (fun v news' => v = .none ∧ LexSt w P t N tot0 (pb ++ [.str x tk]) rest news') := by
  obtain ⟨line, tl, pe, sg, ep, pre, h1, rfl, h3, h4, h5, h6⟩ := h
  exact tel_post (push w P O rest line tl x tk pb pe sg ep hr2 hl) fun v n ⟨pe', hx, hn⟩ => ⟨hx, line, tl, pe', sg, ep, pre, h1, hn, h3, h4, h5, h6⟩
theorem end_st (w : World) (P : LexP) (O : LexOk P) (rest news : Led) (t tot0 : Int) (hr : OwnOff rest [P.G, P.dX]) (h : LexSt w P t [] tot0 [] rest news) :
  Tel w 8 400 (.ref 98) [.ref P.X] news (fun x news' => ∃ t' tl pe ep, x = .str (tx []) t' ∧ news' = LexL w P tot0 tl [] pe [] ep ++ rest) := by
  obtain ⟨line, tl, pe, sg, ep, pre, h1, rfl, h3, h4, h5, h6⟩ := h
  rw [show pre ++ (spells t []).flatten = pre by simp [spells]] at h3 h4 h5 h6
  refine tel_post (get_end w P O rest line tl pe sg ep pre h1 hr h3 h5 h6) ?_
  rintro x n ⟨t', line', tl', sg', ep', g1, rfl, g3, g4⟩
  cases g3
  have e : line' = tot0 := by
    have : cnt [] = 0 := rfl
    omega
  subst e
  exact ⟨t', tl', pe, ep', g1, rfl⟩
noncomputable def stepP (u c : Nat) (f e : List Nat) : List Nat × List Nat := if c = u then (f, f ++ e) else (f ++ e, e)
noncomputable def pairsOf (u : Nat) : List Nat → List Nat → List Nat → List (List Nat × List Nat)
  | [], f, e => [(f, e)]
  | c :: r, f, e => (f, e) :: pairsOf u r (stepP u c f e).1 (stepP u c f e).2
inductive PairsAre : List Value → Led → List (List Nat × List Nat) → Prop
  | nil : PairsAre [] [] []
  | snoc {rs : List Value} {TL : Led} {ps : List (List Nat × List Nat)} (h : PairsAre rs TL ps) (T : Addr) (f e : List Nat) (t t' : Tok) : PairsAre (rs ++ [.ref T]) ((T, tupO [.str (tx f) t, .str (tx e) t']) :: TL) (ps ++ [(f, e)])
theorem PairsAre.length {rs : List Value} {TL : Led} {ps : List (List Nat × List Nat)} (h : PairsAre rs TL ps) : rs.length = ps.length := by
  induction h with
  | nil => rfl
  | snoc h T f e t t' ih => simp [ih]
end
section
inductive LexIs (w : World) (P : LexP) (t : Int) (N : List Nat) (tot0 : Int) (pb : List Value) (lx : Led) : Prop
  | mk (line : Int) (tl : Tok) (pe : Nat) (sg : List Value) (ep : Nat) (pre : List Nat) (zh1 : (pre = [] ∨ pre = [10])) (zh2 : lx = LexL w P line tl pb pe sg ep) (zh3 : TextsAre sg ((pre ++ (spells t N).flatten).map fun c => [c])) (zh4 : line + cnt (pre ++ (spells t N).flatten) = tot0) (zh5 : (pre ++ (spells t N).flatten).length ≤ 1000) (zh6 : ∀ x ∈ (pre ++ (spells t N).flatten), x < 0x110000)
theorem is_st {w : World} {P : LexP} {t : Int} {N : List Nat} {tot0 : Int} {pb : List Value} {lx : Led} (h : LexIs w P t N tot0 pb lx) (rest : Led) : LexSt w P t N tot0 pb rest (lx ++ rest) := by
  obtain ⟨line, tl, pe, sg, ep, pre, h1, rfl, h3, h4, h5, h6⟩ := h
  exact ⟨line, tl, pe, sg, ep, pre, h1, rfl, h3, h4, h5, h6⟩
theorem st_is {w : World} {P : LexP} {t : Int} {N : List Nat} {tot0 : Int} {pb : List Value} {rest n : Led} (h : LexSt w P t N tot0 pb rest n) : ∃ lx, n = lx ++ rest ∧ LexIs w P t N tot0 pb lx := by
  obtain ⟨line, tl, pe, sg, ep, pre, h1, rfl, h3, h4, h5, h6⟩ := h
  exact ⟨_, rfl, line, tl, pe, sg, ep, pre, h1, rfl, h3, h4, h5, h6⟩
inductive LexAny (w : World) (P : LexP) (lx : Led) : Prop
  | mk (line : Int) (tl : Tok) (pb : List Value) (pe : Nat) (sg : List Value) (ep : Nat) (zh1 : lx = LexL w P line tl pb pe sg ep)
theorem is_any {w : World} {P : LexP} {t : Int} {N : List Nat} {tot0 : Int} {pb : List Value} {lx : Led} (h : LexIs w P t N tot0 pb lx) : LexAny w P lx := by
  obtain ⟨line, tl, pe, sg, ep, pre, h1, h2, _⟩ := h
  exact ⟨line, tl, pb, pe, sg, ep, h2⟩
noncomputable def LexTwoI (w : World) (P : LexP) (tot tot0 : Int) (u v : Nat) (f e : List Nat) (lx : Led) : Prop :=
  (f = [u] ∧ e = [v] ∧ LexIs w P tot [u, v] tot0 [] lx) ∨ ∃ t t', LexIs w P (tot + 2) [] tot0 [.str (tx f) t, .str (tx e) t'] lx
noncomputable def LexOneI (w : World) (P : LexP) (tot tot0 : Int) (v : Nat) (e : List Nat) (lx : Led) : Prop :=
  (e = [v] ∧ LexIs w P (tot + 1) [v] tot0 [] lx) ∨ ∃ t', LexIs w P (tot + 2) [] tot0 [.str (tx e) t'] lx
theorem LexTwoI.any {w : World} {P : LexP} {tot tot0 : Int} {u v : Nat} {f e : List Nat} {lx : Led} (h : LexTwoI w P tot tot0 u v f e lx) : LexAny w P lx := by
  rcases h with ⟨_, _, h⟩ | ⟨_, _, h⟩ <;> exact is_any h
theorem LexOneI.any {w : World} {P : LexP} {tot tot0 : Int} {v : Nat} {e : List Nat} {lx : Led} (h : LexOneI w P tot tot0 v e lx) : LexAny w P lx := by
  rcases h with ⟨_, h⟩ | ⟨_, h⟩ <;> exact is_any h
theorem get_twoI (w : World) (P : LexP) (O : LexOk P) (rest lx : Led) (tot tot0 : Int) (u v : Nat) (f e : List Nat) (hr : OwnOff rest [P.G, P.dX]) (hr2 : ∀ p ∈ rest, p.1 ≠ P.PB) (h : LexTwoI w P tot tot0 u v f e lx) :
  Tel w 8 400 (.ref 98) [.ref P.X] (lx ++ rest) (fun x news' => ∃ t' lx', x = .str (tx f) t' ∧ news' = lx' ++ rest ∧ LexOneI w P tot tot0 v e lx') := by
  have h' : LexTwo w P tot tot0 u v rest f e (lx ++ rest) := by
    rcases h with ⟨h1, h2, h⟩ | ⟨t, t', h⟩
    · exact .inl ⟨h1, h2, is_st h rest⟩
    · exact .inr ⟨t, t', is_st h rest⟩
  refine tel_post (get_two w P O rest _ tot tot0 u v f e hr hr2 h') ?_
  rintro x n ⟨t', hx, hs⟩
  rcases hs with ⟨h1, hs⟩ | ⟨t2, hs⟩
  · obtain ⟨lx', hn, hi⟩ := st_is hs
    exact ⟨t', lx', hx, hn, .inl ⟨h1, hi⟩⟩
  · obtain ⟨lx', hn, hi⟩ := st_is hs
    exact ⟨t', lx', hx, hn, .inr ⟨t2, hi⟩⟩
theorem get_oneI (w : World) (P : LexP) (O : LexOk P) (rest lx : Led) (tot tot0 : Int) (v : Nat) (e : List Nat) (hr : OwnOff rest [P.G, P.dX]) (hr2 : ∀ p ∈ rest, p.1 ≠ P.PB) (h : LexOneI w P tot tot0 v e lx) :
  Tel w 8 400 (.ref 98) [.ref P.X] (lx ++ rest) (fun x news' => ∃ t' lx', x = .str (tx e) t' ∧ news' = lx' ++ rest ∧ LexIs w P (tot + 2) [] tot0 [] lx') := by
  have h' : LexOne w P tot tot0 v rest e (lx ++ rest) := by
    rcases h with ⟨h1, h⟩ | ⟨t', h⟩
    · exact .inl ⟨h1, is_st h rest⟩
    · exact .inr ⟨t', is_st h rest⟩
  refine tel_post (get_one w P O rest _ tot tot0 v e hr hr2 h') ?_
  rintro x n ⟨t', hx, hs⟩
  obtain ⟨lx', hn, hi⟩ := st_is hs
  exact ⟨t', lx', hx, hn, hi⟩
theorem putI (w : World) (P : LexP) (O : LexOk P) (rest lx : Led) (t tot0 : Int) (N : List Nat) (x : Str) (tk : Tok) (pb : List Value) (hl : pb.length ≤ 1000) (hr2 : ∀ p ∈ rest, p.1 ≠ P.PB) (h : LexIs w P t N tot0 pb lx) :
  Tel w 8 400 (.ref 105) [.ref P.X, .str x tk] (lx ++ rest) (fun v news' => ∃ lx', v = .none ∧ news' = lx' ++ rest ∧ LexIs w P t N tot0 (pb ++ [.str x tk]) lx') := by
  refine tel_post (put_st w P O rest _ t tot0 N x tk pb hl hr2 (is_st h rest)) ?_
  rintro v n ⟨hv, hs⟩
  obtain ⟨lx', hn, hi⟩ := st_is hs
  exact ⟨lx', hv, hn, hi⟩
theorem endI (w : World) (P : LexP) (O : LexOk P) (rest lx : Led) (t tot0 : Int) (hr : OwnOff rest [P.G, P.dX]) (h : LexIs w P t [] tot0 [] lx) :
  Tel w 8 400 (.ref 98) [.ref P.X] (lx ++ rest) (fun x news' => ∃ t' tl pe ep, x = .str (tx []) t' ∧ news' = LexL w P tot0 tl [] pe [] ep ++ rest) :=
  end_st w P O rest _ t tot0 hr (is_st h rest)
theorem lex_le {w : World} {P : LexP} (O : LexOk P) {lx : Led} (h : LexAny w P lx) : ∀ p ∈ lx, @LE.le Nat _ P.cG p.1 ∧ @LE.le Nat _ p.1 P.PB := by
  obtain ⟨line, tl, pb, pe, sg, ep, rfl⟩ := h
  obtain ⟨q1, q2, q3, n1, n2, n3, n4, n5, n6, n7, n8, n9⟩ := O
  intro p hp
  simp only [LexL, List.mem_cons, List.not_mem_nil, or_false] at hp
  rcases hp with rfl | rfl | rfl | rfl | rfl | rfl | rfl | rfl | rfl <;> exact ⟨by show @LE.le Nat _ _ _; omega, by show @LE.le Nat _ _ _; omega⟩
theorem off_app {a b : Led} {x : Addr} (h : ∀ p ∈ a, p.1 ≠ x) (k : ∀ p ∈ b, p.1 ≠ x) : ∀ p ∈ a ++ b, p.1 ≠ x := fun p hp => (List.mem_append.mp hp).elim (h p) (k p)
theorem off_cons {q : Addr × Obj} {b : Led} {x : Addr} (h : q.1 ≠ x) (k : ∀ p ∈ b, p.1 ≠ x) : ∀ p ∈ q :: b, p.1 ≠ x := fun p hp => by
  rcases List.mem_cons.mp hp with rfl | hp
  · exact h
  · exact k p hp
theorem lex_off {w : World} {P : LexP} (O : LexOk P) {lx : Led} (h : LexAny w P lx) {x : Addr} (hx : @LT.lt Nat _ P.PB x) : ∀ p ∈ lx, p.1 ≠ x := fun p hp => Nat.ne_of_lt (Nat.lt_of_le_of_lt (lex_le O h p hp).2 hx)
theorem beside {P : LexP} (O : LexOk P) {l : Led} (h : ∀ p ∈ l, @LT.lt Nat _ P.PB p.1 ∨ @LT.lt Nat _ p.1 P.cG) : OwnOff l [P.G, P.dX] ∧ ∀ p ∈ l, p.1 ≠ P.PB := by
  obtain ⟨q1, q2, q3, n1, n2, n3, n4, n5, n6, n7, n8, n9⟩ := O
  refine ⟨fun p hp d hd => ?_, fun p hp => ?_⟩
  · have := h p hp
    simp only [List.mem_cons, List.not_mem_nil, or_false] at hd
    rcases hd with rfl | rfl
    · rcases this with g | g
      · exact Nat.ne_of_gt (by omega)
      · exact Nat.ne_of_lt (by omega)
    · rcases this with g | g
      · exact Nat.ne_of_gt (by omega)
      · exact Nat.ne_of_lt (by omega)
  · rcases h p hp with g | g
    · exact Nat.ne_of_gt g
    · exact Nat.ne_of_lt (by omega)
end
end
section
local macro_rules | `(tactic| cell_step) => `(tactic| (walk_at "s1"; walk_at "s2"; walk_at "t2"))
local macro_rules | `(tactic| walk_at "newList") => `(tactic| walk_at "t3")
local macro_rules | `(tactic| walk_at "newTuple") => `(tactic| walk_at "t4")
section
theorem to_mid {h₀ h : Heap} {L : Addr} {z : Addr × Obj} {A B : Led} (N : News h₀ L h (z :: (A ++ B))) : News h₀ L h (A ++ z :: B) := news_perm N (by
  intro p hp
  simp only [List.mem_append, List.mem_cons] at hp ⊢
  rcases hp with h | h | h <;> simp only [h, true_or, or_true])
theorem to_front {h₀ h : Heap} {L : Addr} {z : Addr × Obj} {A B : Led} (N : News h₀ L h (A ++ z :: B)) : News h₀ L h (z :: (A ++ B)) := news_perm N (by
  intro p hp
  simp only [List.mem_append, List.mem_cons] at hp ⊢
  rcases hp with h | h | h <;> simp only [h, true_or, or_true])
theorem stage5a (w : World) (fa : Addr) (cd : Value) (L : Addr) (m : Str → Option Value) (P : LexP) (lx : Led) (R : Led) (hlx : LexAny w P lx) :
  Stg w fa cd L 8 1 (fun h => True) m (lx ++ R)
    (fun m' news' => ∃ D4, m' = (fun y => if y = Str.ofString "pairs" then some (.ref D4) else m y) ∧ topA (lx ++ R) ≤ D4 ∧ news' = lx ++ ((D4, PySem.W.listOf #[] 0) :: R)) := by
  intro mean mg mb base s rest Q E B F X N T C1 C2 C3 hE hS hret
  obtain ⟨line, tl, pb, pe, sg, ep, rfl⟩ := hlx
  simp only [LexL, List.cons_append, List.nil_append] at N
  (repeat' (first | (with_reducible refine if_ff ?_) | (with_reducible refine if_tt ?_) | (k_unfold; (try dsimp only)) | (k_end; wrow_close) | (cell_step; walk1) | (cell_step; dsimp only; walk1) | (leave1; walk_say "STEP leave1"; try dsimp only) | fail "no step"))
  rename Fr _ _ _ _ => F3
  rename News _ _ _ _ => N3
  have N4 := to_mid (A := LexL w P line tl pb pe sg ep) (B := R) N3
  refine hret _ _ _ _ F3 N4 ⟨_, rfl, ?_, rfl⟩
  simp only [LexL, topA_nil, topA_cons, topA_app, Nat.max_le, Nat.zero_le, true_and, and_true, List.cons_append, List.nil_append]
  assumption
end
section
noncomputable abbrev names5 (D1 D4 S : Addr) (tcs : Str) (tt : Tok) : List (Str × Value) := [(Str.ofString "way", .ref D1), (Str.ofString "pairs", .ref D4), (Str.ofString "text", .str tcs tt), (Str.ofString "script", .ref S)]
theorem perm5 {h₀ h : Heap} {L : Addr} {x y z : Addr × Obj} {A B : Led} (N : News h₀ L h (x :: y :: (A ++ z :: B))) : News h₀ L h (A ++ z :: x :: B) := news_perm N (by
  intro p hp
  simp only [List.mem_append, List.mem_cons] at hp ⊢
  rcases hp with h | h | h | h <;> simp only [h, true_or, or_true])
theorem in_mid {q : Addr × Obj} {A B : Led} : ∀ p ∈ A ++ q :: B, p ∈ q :: (A ++ B) := by
  intro p hp
  simp only [List.mem_append, List.mem_cons] at hp ⊢
  rcases hp with h | h | h <;> simp only [h, true_or, or_true]
theorem r3_split {L D1 D2 : Addr} {vs1 vs2 : List Value} {k1 k2 : Nat} {o1 o2 o3 o4 o5 o6 o7 o8 o9 : Obj} {tb TL : Led} : ∀ p ∈ R3 L D1 D2 vs1 vs2 k1 k2 o1 o2 o3 o4 o5 o6 o7 o8 o9 (tb ++ TL), p ∈ R3 L D1 D2 vs1 vs2 k1 k2 o1 o2 o3 o4 o5 o6 o7 o8 o9 tb ∨ p ∈ TL := by
  walk_at "mem all"
theorem r3_put {L D1 D2 : Addr} {vs1 vs2 : List Value} {k1 k2 : Nat} {o1 o2 o3 o4 o5 o6 o7 o8 o9 : Obj} {tb TL : Led} {t : Addr × Obj} : ∀ p ∈ R3 L D1 D2 vs1 vs2 k1 k2 o1 o2 o3 o4 o5 o6 o7 o8 o9 (tb ++ t :: TL), p ∈ R3 L D1 D2 vs1 vs2 k1 k2 o1 o2 o3 o4 o5 o6 o7 o8 o9 (tb ++ TL) ∨ p = t := by
  walk_at "mem all"
theorem app_front {h₀ h : Heap} {L : Addr} {t i d : Addr × Obj} {A B : Led} (N : News h₀ L h (t :: (A ++ i :: d :: B))) : News h₀ L h (d :: t :: (A ++ i :: B)) := news_perm N (by
  intro p hp
  simp only [List.mem_append, List.mem_cons] at hp ⊢
  rcases hp with h | h | h | h | h <;> simp only [h, true_or, or_true])
theorem app_back {h₀ h : Heap} {L : Addr} {t i d e : Addr × Obj} {A B B' : Led} (N : News h₀ L h (d :: t :: (A ++ i :: e :: B))) (hB : ∀ p ∈ B', p ∈ B ∨ p = t) : News h₀ L h (A ++ i :: d :: e :: B') := news_perm N (by
  intro p hp
  simp only [List.mem_append, List.mem_cons] at hp ⊢
  rcases hp with h | h | h | h | h
  · simp only [h, true_or, or_true]
  · simp only [h, true_or, or_true]
  · simp only [h, true_or, or_true]
  · simp only [h, true_or, or_true]
  · rcases hB p h with h | h <;> simp only [h, true_or, or_true])
theorem tx_beq (a b : List Nat) : (tx a == tx b) = decide (a = b) := by
  rw [Bool.eq_iff_iff, beq_iff_eq, decide_eq_true_eq, tx_inj]
theorem in_mid2 {q : Addr × Obj} {A B : Led} : ∀ p ∈ q :: (A ++ B), p ∈ A ++ q :: B := by
  intro p hp
  simp only [List.mem_append, List.mem_cons] at hp ⊢
  rcases hp with h | h | h <;> simp only [h, true_or, or_true]
theorem len_step {a b n : Nat} (h : a + b ≤ 2 * 2 ^ (3 - (n + 1))) (hn : n + 1 ≤ 3) : a + (a + b) ≤ 2 * 2 ^ (3 - n) ∧ a + b + b ≤ 2 * 2 ^ (3 - n) := by
  have e : 3 - n = (3 - (n + 1)) + 1 := by omega
  rw [e, Nat.pow_succ]
  omega
theorem empty_tx : Str.ofString "" = tx [] := by decide +kernel
theorem topA_all {l : Led} {x : Nat} (h : topA l ≤ x) : ∀ p ∈ l, @LT.lt Nat _ p.1 x := topA_lt h
inductive P5bInv (w : World) (L : Addr) (tot : Int) (tot0 : Int) (tb : Led) (o1 : Obj) (o2 : Obj) (o3 : Obj) (o4 : Obj) (o5 : Obj) (o6 : Obj) (o7 : Obj) (o8 : Obj) (o9 : Obj) (D1 : Addr) (D2 : Addr) (D4 : Addr) (S : Addr) (tcs : Str) (tt : Tok) (vs1 : List Value) (vs2 : List Value) (k1 : Nat) (k2 : Nat) (P : LexP) (Wy : List Nat) (u : Nat) (v : Nat) (D3 : Addr) (ox : Obj) (I : Addr) (dv : List Value) (m' : Str → Option Value) (nx : Led) : Prop
  | mk (zh1 : Has m' (names5 D1 D4 S tcs tt)) (lx : Led) (rs : List Value) (kk : Nat) (TL : Led) (done : List (List Nat × List Nat)) (zh2 : (∀ p ∈ TL, @LT.lt Nat _ D4 p.1 ∧ p.1 ≠ I)) (zh3 : nx = lx ++ ((D4, PySem.W.listOf rs.toArray kk) :: (D3, ox) :: R3 L D1 D2 vs1 vs2 k1 k2 o1 o2 o3 o4 o5 o6 o7 o8 o9 (tb ++ TL))) (zh4 : PairsAre rs TL done) (zh5 : ((dv = [] ∧ done = pairsOf u Wy [u] [v] ∧ LexIs w P (tot + 2) [] tot0 [] lx) ∨ ∃ (r : List Nat) (f e : List Nat), TextsAre dv ((r.map fun c => [c]) ++ [[]]) ∧ (∀ c ∈ r, c = u ∨ c = v) ∧ done ++ pairsOf u r f e = pairsOf u Wy [u] [v] ∧ LexTwoI w P tot tot0 u v f e lx ∧ f.length + e.length ≤ 2 * 2 ^ (3 - r.length) ∧ r.length ≤ 3 ∧ done.length + r.length = 3))
inductive P5b (w : World) (L : Addr) (tot : Int) (tot0 : Int) (tb : Led) (o1 : Obj) (o2 : Obj) (o3 : Obj) (o4 : Obj) (o5 : Obj) (o6 : Obj) (o7 : Obj) (o8 : Obj) (o9 : Obj) (D1 : Addr) (D2 : Addr) (D4 : Addr) (S : Addr) (tcs : Str) (tt : Tok) (vs1 : List Value) (vs2 : List Value) (k1 : Nat) (k2 : Nat) (P : LexP) (Wy : List Nat) (u : Nat) (v : Nat) (m' : Str → Option Value) (news' : Led) : Prop
  | mk (zh1 : Has m' (names5 D1 D4 S tcs tt)) (lx' : Led) (rs : List Value) (kk : Nat) (TL : Led) (D3 : Addr) (ox : Obj) (zh2 : PairsAre rs TL (pairsOf u Wy [u] [v])) (zh3 : LexIs w P (tot + 2) [] tot0 [] lx') (zh4 : (∀ p ∈ TL, @LT.lt Nat _ D4 p.1)) (zh5 : @LT.lt Nat _ D4 D3) (zh6 : news' = lx' ++ ((D4, PySem.W.listOf rs.toArray kk) :: (D3, ox) :: R3 L D1 D2 vs1 vs2 k1 k2 o1 o2 o3 o4 o5 o6 o7 o8 o9 (tb ++ TL)))
namespace Vstage5b
noncomputable def At0 (w : World) (fa : Addr) (cd : Value) (L : Addr) (tot : Int) (tot0 : Int) (m : Str → Option Value) (tb : Led) (o1 : Obj) (o2 : Obj) (o3 : Obj) (o4 : Obj) (o5 : Obj) (o6 : Obj) (o7 : Obj) (o8 : Obj) (o9 : Obj) (D1 : Addr) (D2 : Addr) (D4 : Addr) (S : Addr) (tcs : Str) (tt : Tok) (vs1 : List Value) (vs2 : List Value) (k1 : Nat) (k2 : Nat) (P : LexP) (Wy : List Nat) (u : Nat) (v : Nat) (t2 : Tok) (t3 : Tok) (z : StgV) : Prop := ∀ (O : LexOk P) (e5 : o5.data = .cell (some (.ref P.X))) (huv : u ≠ v) (hW : Wy.length = 3) (hWm : ∀ c ∈ Wy, c = u ∨ c = v) (hv1 : TextsAre vs1 (Wy.map fun c => [c])) (e2 : o2.data = .cell (some (.str (tx [u]) t2))) (e3 : o3.data = .cell (some (.str (tx [v]) t3))) (htop : topA (R3 L D1 D2 vs1 vs2 k1 k2 o1 o2 o3 o4 o5 o6 o7 o8 o9 tb) ≤ P.cG) (hD4 : @LT.lt Nat _ P.PB D4) (hM : Has m (names5 D1 D4 S tcs tt)) (lx : Led) (hlx : LexIs w P tot [u, v] tot0 [] lx), StgAt w fa cd L 9 1 (fun h => True) m (lx ++ ((D4, PySem.W.listOf #[] 0) :: R3 L D1 D2 vs1 vs2 k1 k2 o1 o2 o3 o4 o5 o6 o7 o8 o9 tb))
    (P5b w L tot tot0 tb o1 o2 o3 o4 o5 o6 o7 o8 o9 D1 D2 D4 S tcs tt vs1 vs2 k1 k2 P Wy u v) z
noncomputable def AtX (x : (World) × (Addr) × (Value) × (Addr) × (Int) × (Int) × (Str → Option Value) × (Led) × (Obj) × (Obj) × (Obj) × (Obj) × (Obj) × (Obj) × (Obj) × (Obj) × (Obj) × (Addr) × (Addr) × (Addr) × (Addr) × (Str) × (Tok) × (List Value) × (List Value) × (Nat) × (Nat) × (LexP) × (List Nat) × (Nat) × (Nat) × (Tok) × (Tok) × StgV) : Prop := At0 (x.1) (x.2.1) (x.2.2.1) (x.2.2.2.1) (x.2.2.2.2.1) (x.2.2.2.2.2.1) (x.2.2.2.2.2.2.1) (x.2.2.2.2.2.2.2.1) (x.2.2.2.2.2.2.2.2.1) (x.2.2.2.2.2.2.2.2.2.1) (x.2.2.2.2.2.2.2.2.2.2.1) (x.2.2.2.2.2.2.2.2.2.2.2.1) (x.2.2.2.2.2.2.2.2.2.2.2.2.1) (x.2.2.2.2.2.2.2.2.2.2.2.2.2.1) (x.2.2.2.2.2.2.2.2.2.2.2.2.2.2.1) (x.2.2.2.2.2.2.2.2.2.2.2.2.2.2.2.1) (x.2.2.2.2.2.2.2.2.2.2.2.2.2.2.2.2.1) (x.2.2.2.2.2.2.2.2.2.2.2.2.2.2.2.2.2.1) (x.2.2.2.2.2.2.2.2.2.2.2.2.2.2.2.2.2.2.1) (x.2.2.2.2.2.2.2.2.2.2.2.2.2.2.2.2.2.2.2.1) (x.2.2.2.2.2.2.2.2.2.2.2.2.2.2.2.2.2.2.2.2.1) (x.2.2.2.2.2.2.2.2.2.2.2.2.2.2.2.2.2.2.2.2.2.1) (x.2.2.2.2.2.2.2.2.2.2.2.2.2.2.2.2.2.2.2.2.2.2.1) (x.2.2.2.2.2.2.2.2.2.2.2.2.2.2.2.2.2.2.2.2.2.2.2.1) (x.2.2.2.2.2.2.2.2.2.2.2.2.2.2.2.2.2.2.2.2.2.2.2.2.1) (x.2.2.2.2.2.2.2.2.2.2.2.2.2.2.2.2.2.2.2.2.2.2.2.2.2.1) (x.2.2.2.2.2.2.2.2.2.2.2.2.2.2.2.2.2.2.2.2.2.2.2.2.2.2.1) (x.2.2.2.2.2.2.2.2.2.2.2.2.2.2.2.2.2.2.2.2.2.2.2.2.2.2.2.1) (x.2.2.2.2.2.2.2.2.2.2.2.2.2.2.2.2.2.2.2.2.2.2.2.2.2.2.2.2.1) (x.2.2.2.2.2.2.2.2.2.2.2.2.2.2.2.2.2.2.2.2.2.2.2.2.2.2.2.2.2.1) (x.2.2.2.2.2.2.2.2.2.2.2.2.2.2.2.2.2.2.2.2.2.2.2.2.2.2.2.2.2.2.1) (x.2.2.2.2.2.2.2.2.2.2.2.2.2.2.2.2.2.2.2.2.2.2.2.2.2.2.2.2.2.2.2.1) (x.2.2.2.2.2.2.2.2.2.2.2.2.2.2.2.2.2.2.2.2.2.2.2.2.2.2.2.2.2.2.2.2.1) (x.2.2.2.2.2.2.2.2.2.2.2.2.2.2.2.2.2.2.2.2.2.2.2.2.2.2.2.2.2.2.2.2.2)
noncomputable def cc0 : (World) × (Addr) × (Value) × (Addr) × (Int) × (Int) × (Str → Option Value) × (Led) × (Obj) × (Obj) × (Obj) × (Obj) × (Obj) × (Obj) × (Obj) × (Obj) × (Obj) × (Addr) × (Addr) × (Addr) × (Addr) × (Str) × (Tok) × (List Value) × (List Value) × (Nat) × (Nat) × (LexP) × (List Nat) × (Nat) × (Nat) × (Tok) × (Tok) × StgV := eps1 (ne_prod ne_world (ne_prod ne_addr (ne_prod ne_value (ne_prod ne_addr (ne_prod ne_int (ne_prod ne_int (ne_prod ne_par (ne_prod ne_led (ne_prod ne_obj (ne_prod ne_obj (ne_prod ne_obj (ne_prod ne_obj (ne_prod ne_obj (ne_prod ne_obj (ne_prod ne_obj (ne_prod ne_obj (ne_prod ne_obj (ne_prod ne_addr (ne_prod ne_addr (ne_prod ne_addr (ne_prod ne_addr (ne_prod ne_str (ne_prod ne_tok (ne_prod ne_list (ne_prod ne_list (ne_prod ne_nat (ne_prod ne_nat (ne_prod ne_lexp (ne_prod ne_list (ne_prod ne_nat (ne_prod ne_nat (ne_prod ne_tok (ne_prod ne_tok stgV_ne))))))))))))))))))))))))))))))))) AtX
noncomputable def w : World := cc0.1
noncomputable def fa : Addr := cc0.2.1
noncomputable def cd : Value := cc0.2.2.1
noncomputable def L : Addr := cc0.2.2.2.1
noncomputable def tot : Int := cc0.2.2.2.2.1
noncomputable def tot0 : Int := cc0.2.2.2.2.2.1
noncomputable def m : Str → Option Value := cc0.2.2.2.2.2.2.1
noncomputable def tb : Led := cc0.2.2.2.2.2.2.2.1
noncomputable def o1 : Obj := cc0.2.2.2.2.2.2.2.2.1
noncomputable def o2 : Obj := cc0.2.2.2.2.2.2.2.2.2.1
noncomputable def o3 : Obj := cc0.2.2.2.2.2.2.2.2.2.2.1
noncomputable def o4 : Obj := cc0.2.2.2.2.2.2.2.2.2.2.2.1
noncomputable def o5 : Obj := cc0.2.2.2.2.2.2.2.2.2.2.2.2.1
noncomputable def o6 : Obj := cc0.2.2.2.2.2.2.2.2.2.2.2.2.2.1
noncomputable def o7 : Obj := cc0.2.2.2.2.2.2.2.2.2.2.2.2.2.2.1
noncomputable def o8 : Obj := cc0.2.2.2.2.2.2.2.2.2.2.2.2.2.2.2.1
noncomputable def o9 : Obj := cc0.2.2.2.2.2.2.2.2.2.2.2.2.2.2.2.2.1
noncomputable def D1 : Addr := cc0.2.2.2.2.2.2.2.2.2.2.2.2.2.2.2.2.2.1
noncomputable def D2 : Addr := cc0.2.2.2.2.2.2.2.2.2.2.2.2.2.2.2.2.2.2.1
noncomputable def D4 : Addr := cc0.2.2.2.2.2.2.2.2.2.2.2.2.2.2.2.2.2.2.2.1
noncomputable def S : Addr := cc0.2.2.2.2.2.2.2.2.2.2.2.2.2.2.2.2.2.2.2.2.1
noncomputable def tcs : Str := cc0.2.2.2.2.2.2.2.2.2.2.2.2.2.2.2.2.2.2.2.2.2.1
noncomputable def tt : Tok := cc0.2.2.2.2.2.2.2.2.2.2.2.2.2.2.2.2.2.2.2.2.2.2.1
noncomputable def vs1 : List Value := cc0.2.2.2.2.2.2.2.2.2.2.2.2.2.2.2.2.2.2.2.2.2.2.2.1
noncomputable def vs2 : List Value := cc0.2.2.2.2.2.2.2.2.2.2.2.2.2.2.2.2.2.2.2.2.2.2.2.2.1
noncomputable def k1 : Nat := cc0.2.2.2.2.2.2.2.2.2.2.2.2.2.2.2.2.2.2.2.2.2.2.2.2.2.1
noncomputable def k2 : Nat := cc0.2.2.2.2.2.2.2.2.2.2.2.2.2.2.2.2.2.2.2.2.2.2.2.2.2.2.1
noncomputable def P : LexP := cc0.2.2.2.2.2.2.2.2.2.2.2.2.2.2.2.2.2.2.2.2.2.2.2.2.2.2.2.1
noncomputable def Wy : List Nat := cc0.2.2.2.2.2.2.2.2.2.2.2.2.2.2.2.2.2.2.2.2.2.2.2.2.2.2.2.2.1
noncomputable def u : Nat := cc0.2.2.2.2.2.2.2.2.2.2.2.2.2.2.2.2.2.2.2.2.2.2.2.2.2.2.2.2.2.1
noncomputable def v : Nat := cc0.2.2.2.2.2.2.2.2.2.2.2.2.2.2.2.2.2.2.2.2.2.2.2.2.2.2.2.2.2.2.1
noncomputable def t2 : Tok := cc0.2.2.2.2.2.2.2.2.2.2.2.2.2.2.2.2.2.2.2.2.2.2.2.2.2.2.2.2.2.2.2.1
noncomputable def t3 : Tok := cc0.2.2.2.2.2.2.2.2.2.2.2.2.2.2.2.2.2.2.2.2.2.2.2.2.2.2.2.2.2.2.2.2.1
noncomputable def v0 : StgV := cc0.2.2.2.2.2.2.2.2.2.2.2.2.2.2.2.2.2.2.2.2.2.2.2.2.2.2.2.2.2.2.2.2.2
noncomputable abbrev rest := v0.rest
theorem aux (O : LexOk P) (e5 : o5.data = .cell (some (.ref P.X))) (huv : u ≠ v) (hW : Wy.length = 3) (hWm : ∀ c ∈ Wy, c = u ∨ c = v) (hv1 : TextsAre vs1 (Wy.map fun c => [c])) (e2 : o2.data = .cell (some (.str (tx [u]) t2))) (e3 : o3.data = .cell (some (.str (tx [v]) t3))) (htop : topA (R3 L D1 D2 vs1 vs2 k1 k2 o1 o2 o3 o4 o5 o6 o7 o8 o9 tb) ≤ P.cG) (hD4 : @LT.lt Nat _ P.PB D4) (hM : Has m (names5 D1 D4 S tcs tt)) (lx : Led) (hlx : LexIs w P tot [u, v] tot0 [] lx) :
  StgAt w fa cd L 9 1 (fun h => True) m (lx ++ ((D4, PySem.W.listOf #[] 0) :: R3 L D1 D2 vs1 vs2 k1 k2 o1 o2 o3 o4 o5 o6 o7 o8 o9 tb))
    (P5b w L tot tot0 tb o1 o2 o3 o4 o5 o6 o7 o8 o9 D1 D2 D4 S tcs tt vs1 vs2 k1 k2 P Wy u v) v0 := by
  intro B F X N T C1 C2 C3 hE hS hret
  have F0 := fr_all0 hM F
  clear F
  obtain ⟨line, tl, pe, sg, ep, pre, h1, hlx', h3, h4, h5, h6⟩ := id hlx
  subst hlx'
  simp only [LexL, List.cons_append, List.nil_append] at N
  (repeat' (first | (with_reducible refine if_ff ?_) | (with_reducible refine if_tt ?_) | (k_unfold; (try dsimp only)) | (k_end; wrow_close) | (cell_step; walk1) | (cell_step; dsimp only; walk1) | (leave1; walk_say "STEP leave1"; try dsimp only) | fail "no step"))
  (rename Fr _ _ _ _ => lF')
  (with_unfolding_all refine' For_invVF (hE := hE) lF' ?k1 ?k2 ?_; (case k1 => exact rfl); (case k2 => exact rfl))
  (repeat' (first | (with_reducible refine if_ff ?_) | (with_reducible refine if_tt ?_) | (k_unfold; (try dsimp only)) | (k_end; wrow_close) | (cell_step; walk1) | (cell_step; dsimp only; walk1) | (leave1; walk_say "STEP leave1"; try dsimp only) | fail "no step"))
  rename Fr _ _ _ _ => F3
  rename News _ _ _ _ => N3
  have hl1 := hv1.length
  rw [List.length_map, hW] at hl1
  have hD1m : (D1, PySem.W.listOf vs1.toArray k1) ∈ R3 L D1 D2 vs1 vs2 k1 k2 o1 o2 o3 o4 o5 o6 o7 o8 o9 tb := .tail _ (.head _)
  refine cat_lists (vs := vs1) F3 N3 (News.isList N3 (.tail _ (List.mem_append_right (LexL w P line tl [] pe sg ep) (.tail _ hD1m)))) (News.isList N3 (.head _)) ?_ (by rw [hl1]; exact Nat.le_of_ble_eq_true rfl)
  intro D3 h3' F4 N4 l4
  simp only [topA_nil, topA_cons, topA_app, Nat.max_le, Nat.zero_le, true_and, and_true, List.cons_append, List.nil_append] at l4
  (try dsimp only)
  rw [empty_tx] at N4
  have N5 := perm5 (A := LexL w P line tl [] pe sg ep) (B := R3 L D1 D2 vs1 vs2 k1 k2 o1 o2 o3 o4 o5 o6 o7 o8 o9 tb) N4
  rw [show tb = tb ++ [] from (List.append_nil tb).symm] at N5
  clear N4 N3
  have hD34 : @LT.lt Nat _ D4 D3 := by omega
  have hv3 : ∀ t, TextsAre (vs1 ++ [.str (tx []) t]) ((Wy.map fun c => [c]) ++ [[]]) := fun t => hv1.append (.cons [] t .nil)
  refine' iter_listUnr (ax := D3) rfl F4 N5 (List.mem_append_right _ (.tail _ (.head _))) rfl rfl ?rest
  case rest =>
  intro I hI
  generalize hox : PySem.W.listOf (vs1 ++ _).toArray 0 = ox at N5 hI ⊢
  refine listRest_indR (P5bInv w L tot tot0 tb o1 o2 o3 o4 o5 o6 o7 o8 o9 D1 D2 D4 S tcs tt vs1 vs2 k1 k2 P Wy u v D3 ox I) ?zero ?succ _ _ _ ?init
  case init =>
    exact ⟨⟨rfl, rfl, rfl, rfl, trivial⟩, _, [], 0, [], [], (fun p hp => nomatch hp), rfl, .nil, .inr ⟨Wy, [u], [v], hv3 _, hWm, rfl, .inl ⟨rfl, rfl, hlx⟩, by rw [hW]; exact Nat.le_refl 2, by omega, by simpa using hW⟩⟩
  case zero =>
    rintro m' nx ⟨hM', lx', rs, kk, TL, done, hTL, rfl, hps, hcase⟩ h6 tk6 F6 N6
    rcases hcase with ⟨_, rfl, hlx6⟩ | ⟨r, f, e, hdv, _⟩
    · exact hret _ _ _ _ F6 N6 ⟨hM', lx', rs, kk, TL, D3, ox, hps, hlx6, fun p hp => (hTL p hp).1, hD34, rfl⟩
    · have := hdv.length
      simp at this
  case succ =>
    rintro vv rv m' nx ⟨hM', lx', rs, kk, TL, done, hTL, rfl, hps, hcase⟩ it h6 tk6 hit F6 N6 R9 hR9
    rcases hcase with ⟨h0, _, _⟩ | ⟨r, f, e, hdv, hrm, hdone, hlx6, hfe, hr3, hdl⟩
    · cases h0
    have F7 := fr_all hM' F6
    clear F6
    have hlI : @LT.lt Nat _ P.PB I := Nat.lt_trans hD4 (hI (D4, PySem.W.listOf #[] 0) (List.mem_append_right _ (.head _)))
    have hRI : ∀ p ∈ R3 L D1 D2 vs1 vs2 k1 k2 o1 o2 o3 o4 o5 o6 o7 o8 o9 tb, @LT.lt Nat _ p.1 P.cG := topA_all htop
    obtain ⟨q1, q2, q3, n1, n2, n3, n4, n5, n6, n7, n8, n9⟩ := id O
    have hcP : @LT.lt Nat _ P.cG P.PB := by omega
    have hD3I : @LT.lt Nat _ D3 I := hI (D3, ox) (List.mem_append_right _ (.tail _ (.head _)))
    have hbes : OwnOff ((I, it) :: (D4, PySem.W.listOf rs.toArray kk) :: (D3, ox) :: R3 L D1 D2 vs1 vs2 k1 k2 o1 o2 o3 o4 o5 o6 o7 o8 o9 (tb ++ TL)) [P.G, P.dX] ∧ ∀ p ∈ (I, it) :: (D4, PySem.W.listOf rs.toArray kk) :: (D3, ox) :: R3 L D1 D2 vs1 vs2 k1 k2 o1 o2 o3 o4 o5 o6 o7 o8 o9 (tb ++ TL), p.1 ≠ P.PB := beside O (fun p hp => by
      rcases List.mem_cons.mp hp with rfl | hp
      · exact .inl hlI
      rcases List.mem_cons.mp hp with rfl | hp
      · exact .inl hD4
      rcases List.mem_cons.mp hp with rfl | hp
      · exact .inl (Nat.lt_trans hD4 hD34)
      rcases r3_split p hp with hp | hp
      · exact .inr (hRI p hp)
      · exact .inl (Nat.lt_trans hD4 (hTL p hp).1))
    have N7 := to_mid N6
    clear N6 N5
    obtain ⟨line7, tl7, pb7, pe7, sg7, ep7, hl7⟩ := hlx6.any
    subst hl7
    simp only [LexL, List.cons_append, List.nil_append] at N7
    (repeat' (first | (with_reducible refine if_ff ?_) | (with_reducible refine if_tt ?_) | (k_unfold; (try dsimp only)) | (k_end; wrow_close) | (cell_step; walk1) | (cell_step; dsimp only; walk1) | (leave1; walk_say "STEP leave1"; try dsimp only) | fail "no step"))
    (refine' tel_use ?tH ?tB ?tF ?tX ?tN ?tT ?tC1 ?tC2 ?tC3 ?tk ?td ?tu ?_; (case tB => k_asm); (case tF => k_asm); (case tX => k_asm); (case tN => k_asm); (case tT => k_asm); (case tC1 => assumption); (case tC2 => assumption); (case tC3 => assumption); (case tk => first | exact rfl | assumption); (case tH => exact (get_twoI w P O _ _ tot tot0 u v f e hbes.1 hbes.2 hlx6)); (case td => ktr_room); (case tu => ktr_units))
    rintro v8 h8 tk8 news8 F8 N8 ⟨tf, lx8, rfl, rfl, hlx8⟩
    (try dsimp only)
    obtain ⟨line8, tl8, pb8, pe8, sg8, ep8, hl8⟩ := hlx8.any
    subst hl8
    simp only [LexL, List.cons_append, List.nil_append] at N8
    (repeat' (first | (with_reducible refine if_ff ?_) | (with_reducible refine if_tt ?_) | (k_unfold; (try dsimp only)) | (k_end; wrow_close) | (cell_step; walk1) | (cell_step; dsimp only; walk1) | (leave1; walk_say "STEP leave1"; try dsimp only) | fail "no step"))
    (refine' tel_use ?tH ?tB ?tF ?tX ?tN ?tT ?tC1 ?tC2 ?tC3 ?tk ?td ?tu ?_; (case tB => k_asm); (case tF => k_asm); (case tX => k_asm); (case tN => k_asm); (case tT => k_asm); (case tC1 => assumption); (case tC2 => assumption); (case tC3 => assumption); (case tk => first | exact rfl | assumption); (case tH => exact (get_oneI w P O _ _ tot tot0 v e hbes.1 hbes.2 hlx8)); (case td => ktr_room); (case tu => ktr_units))
    rintro v9 h9 tk9 news9 F9 N9 ⟨te, lx9, rfl, rfl, hlx9⟩
    (try dsimp only)
    obtain ⟨line9, tl9, pe9, sg9, ep9, pre9, z1, hl9, z3⟩ := id hlx9
    subst hl9
    simp only [LexL, List.cons_append, List.nil_append] at N9
    (repeat' (first | (with_reducible refine if_ff ?_) | (with_reducible refine if_tt ?_) | (k_unfold; (try dsimp only)) | (k_end; wrow_close) | (cell_step; walk1) | (cell_step; dsimp only; walk1) | (leave1; walk_say "STEP leave1"; try dsimp only) | fail "no step"))
    rename Fr _ _ _ _ => F11
    rename News _ _ _ _ => N11
    rename Addr => T
    rename (P.PB + 1 ≤ T ∧ _) => lT
    have hTI : @LT.lt Nat _ I T := by omega
    have hTD : @LT.lt Nat _ D4 T := by omega
    have N12 := app_front (A := LexL w P line9 tl9 [] pe9 sg9 ep9) N11
    have hU : ∀ p ∈ LexL w P line9 tl9 [] pe9 sg9 ep9 ++ (I, it) :: (D3, ox) :: R3 L D1 D2 vs1 vs2 k1 k2 o1 o2 o3 o4 o5 o6 o7 o8 o9 (tb ++ TL), p.1 ≠ D4 := off_app (lex_off O ⟨_, _, _, _, _, _, rfl⟩ hD4) (off_cons (Nat.ne_of_gt (Nat.lt_trans hD34 hD3I)) (off_cons (Nat.ne_of_gt hD34) (fun p hp => by
      rcases r3_split p hp with hp | hp
      · exact Nat.ne_of_lt (Nat.lt_trans (hRI p hp) (Nat.lt_trans hcP hD4))
      · exact Nat.ne_of_gt (hTL p hp).1)))
    have hrl := hps.length
    k_dflt (refine' append_K F11 N12 (.head (off_cons ?U hU)) ?_ ?z; (case z => simp [sizeLine]; omega))
    case U => exact Nat.ne_of_gt hTD
    intro h13 F13 N13
    (try dsimp only)
    simp only [List.push_toArray] at N13
    have N14 := app_back N13 (B' := R3 L D1 D2 vs1 vs2 k1 k2 o1 o2 o3 o4 o5 o6 o7 o8 o9 (tb ++ _ :: TL)) r3_put
    clear N13 N12 N11
    simp only [LexL, List.cons_append, List.nil_append] at N14
    have hTL2 : ∀ p ∈ (T, tupO [.str (tx f) tf, .str (tx e) te]) :: TL, @LT.lt Nat _ D4 p.1 ∧ p.1 ≠ I := fun p hp => by
      rcases List.mem_cons.mp hp with rfl | hp
      · exact ⟨hTD, Nat.ne_of_gt hTI⟩
      · exact hTL p hp
    have hoffI : ∀ p ∈ ((D4, PySem.W.listOf (rs ++ [Value.ref T]).toArray (kk + 1)) :: (D3, ox) :: R3 L D1 D2 vs1 vs2 k1 k2 o1 o2 o3 o4 o5 o6 o7 o8 o9 (tb ++ (T, tupO [.str (tx f) tf, .str (tx e) te]) :: TL)), p.1 ≠ I := off_cons (Nat.ne_of_lt (Nat.lt_trans hD34 hD3I)) (off_cons (Nat.ne_of_lt hD3I) fun p hp => by
      rcases r3_put p hp with hp | rfl
      · rcases r3_split p hp with hp | hp
        · exact Nat.ne_of_lt (Nat.lt_trans (hRI p hp) (Nat.lt_trans hcP hlI))
        · exact (hTL p hp).2
      · exact Nat.ne_of_gt hTI)
    have hbes2 : ∀ p ∈ (I, it) :: (D4, PySem.W.listOf (rs ++ [Value.ref T]).toArray (kk + 1)) :: (D3, ox) :: R3 L D1 D2 vs1 vs2 k1 k2 o1 o2 o3 o4 o5 o6 o7 o8 o9 (tb ++ (T, tupO [.str (tx f) tf, .str (tx e) te]) :: TL), p.1 ≠ P.PB := off_cons (Nat.ne_of_gt hlI) (off_cons (Nat.ne_of_gt hD4) (off_cons (Nat.ne_of_gt (Nat.lt_trans hD4 hD34)) fun p hp => by
      rcases r3_put p hp with hp | rfl
      · rcases r3_split p hp with hp | hp
        · exact Nat.ne_of_lt (Nat.lt_trans (hRI p hp) hcP)
        · exact Nat.ne_of_gt (Nat.lt_trans hD4 (hTL p hp).1)
      · exact Nat.ne_of_gt (Nat.lt_trans hlI hTI)))
    have hmem : ∀ lx : Led, (D3, ox) ∈ lx ++ ((D4, PySem.W.listOf (rs ++ [Value.ref T]).toArray (kk + 1)) :: (D3, ox) :: R3 L D1 D2 vs1 vs2 k1 k2 o1 o2 o3 o4 o5 o6 o7 o8 o9 (tb ++ (T, tupO [.str (tx f) tf, .str (tx e) te]) :: TL)) := fun lx => List.mem_append_right _ (.tail _ (.head _))
    have hfl : f.length + e.length ≤ 16 := Nat.le_trans hfe (Nat.mul_le_mul_left 2 (Nat.pow_le_pow_right (by decide) (Nat.sub_le 3 _)))
    cases r with
    | nil =>
      cases hdv with
      | cons w0 t0 hdv0 =>
      cases hdv0
      (repeat' (first | (with_reducible refine if_ff ?_) | (with_reducible refine if_tt ?_) | (k_unfold; (try dsimp only)) | (k_end; wrow_close) | (cell_step; walk1) | (cell_step; dsimp only; walk1) | (leave1; walk_say "STEP leave1"; try dsimp only) | fail "no step"))
      rw [show (tx [] == tx [u]) = false by rw [tx_beq]; simp]
      (repeat' (first | (with_reducible refine if_ff ?_) | (with_reducible refine if_tt ?_) | (k_unfold; (try dsimp only)) | (k_end; wrow_close) | (cell_step; walk1) | (cell_step; dsimp only; walk1) | (leave1; walk_say "STEP leave1"; try dsimp only) | fail "no step"))
      rw [show (tx [] == tx [v]) = false by rw [tx_beq]; simp]
      (repeat' (first | (with_reducible refine if_ff ?_) | (with_reducible refine if_tt ?_) | (k_unfold; (try dsimp only)) | (k_end; wrow_close) | (cell_step; walk1) | (cell_step; dsimp only; walk1) | (leave1; walk_say "STEP leave1"; try dsimp only) | fail "no step"))
      rename Fr _ _ _ _ => F15
      rename News _ _ _ _ => N15
      refine hR9 _ _ ?_
      show UnrEnd _ _ _ _ _ _ _
      exact UnrEnd.intro F15 N15 (LexL w P line9 tl9 [] pe9 sg9 ep9 ++ ((D4, PySem.W.listOf (rs ++ [Value.ref T]).toArray (kk + 1)) :: (D3, ox) :: R3 L D1 D2 vs1 vs2 k1 k2 o1 o2 o3 o4 o5 o6 o7 o8 o9 (tb ++ (T, tupO [.str (tx f) tf, .str (tx e) te]) :: TL))) in_mid2 (off_app (lex_off O ⟨_, _, _, _, _, _, rfl⟩ hlI) hoffI) ⟨hmem _, ⟨rfl, rfl, rfl, rfl, trivial⟩, _, rs ++ [Value.ref T], kk + 1, _, done ++ [(f, e)], hTL2, rfl, hps.snoc T f e tf te, .inl ⟨rfl, hdone, hlx9⟩⟩
    | cons c r =>
      cases hdv with
      | cons w0 t0 hdv0 =>
      by_cases hcu : c = u
      · subst hcu
        (repeat' (first | (with_reducible refine if_ff ?_) | (with_reducible refine if_tt ?_) | (k_unfold; (try dsimp only)) | (k_end; wrow_close) | (cell_step; walk1) | (cell_step; dsimp only; walk1) | (leave1; walk_say "STEP leave1"; try dsimp only) | fail "no step"))
        rw [show (tx [u] == tx [u]) = true by simp]
        (repeat' (first | (with_reducible refine if_ff ?_) | (with_reducible refine if_tt ?_) | (k_unfold; (try dsimp only)) | (k_end; wrow_close) | (cell_step; walk1) | (cell_step; dsimp only; walk1) | (leave1; walk_say "STEP leave1"; try dsimp only) | fail "no step"))
        (refine' tel_use ?tH ?tB ?tF ?tX ?tN ?tT ?tC1 ?tC2 ?tC3 ?tk ?td ?tu ?_; (case tB => k_asm); (case tF => k_asm); (case tX => k_asm); (case tN => k_asm); (case tT => k_asm); (case tC1 => assumption); (case tC2 => assumption); (case tC3 => assumption); (case tk => first | exact rfl | assumption); (case tH => exact (putI w P O _ _ (tot + 2) tot0 [] (tx f) _ [] (by simp) hbes2 hlx9)); (case td => ktr_room); (case tu => ktr_units))
        rintro v10 h10 tk10 news10 F10 N10 ⟨lx10, rfl, rfl, hlx10⟩
        (try dsimp only)
        obtain ⟨line10, tl10, pe10, sg10, ep10, pre10, zz1, hl10, zz3⟩ := id hlx10
        subst hl10
        simp only [LexL, List.cons_append, List.nil_append] at N10
        (repeat' (first | (with_reducible refine if_ff ?_) | (with_reducible refine if_tt ?_) | (k_unfold; (try dsimp only)) | (k_end; wrow_close) | (cell_step; walk1) | (cell_step; dsimp only; walk1) | (leave1; walk_say "STEP leave1"; try dsimp only) | fail "no step"))
        refine PyProof.Rows.add_str (hsz := by simp only [tx_len]; exact Nat.le_trans hfl (Nat.le_of_ble_eq_true rfl)) ?_
        intro t4 k4
        (try dsimp only)
        rw [tx_append]
        (repeat' (first | (with_reducible refine if_ff ?_) | (with_reducible refine if_tt ?_) | (k_unfold; (try dsimp only)) | (k_end; wrow_close) | (cell_step; walk1) | (cell_step; dsimp only; walk1) | (leave1; walk_say "STEP leave1"; try dsimp only) | fail "no step"))
        (refine' tel_use ?tH ?tB ?tF ?tX ?tN ?tT ?tC1 ?tC2 ?tC3 ?tk ?td ?tu ?_; (case tB => k_asm); (case tF => k_asm); (case tX => k_asm); (case tN => k_asm); (case tT => k_asm); (case tC1 => assumption); (case tC2 => assumption); (case tC3 => assumption); (case tk => first | exact rfl | assumption); (case tH => exact (putI w P O _ _ (tot + 2) tot0 [] (tx (f ++ e)) _ _ (by simp) hbes2 hlx10)); (case td => ktr_room); (case tu => ktr_units))
        rintro v11 h11 tk11 news11 F11' N11' ⟨lx11, rfl, rfl, hlx11⟩
        (try dsimp only)
        (repeat' (first | (with_reducible refine if_ff ?_) | (with_reducible refine if_tt ?_) | (k_unfold; (try dsimp only)) | (k_end; wrow_close) | (cell_step; walk1) | (cell_step; dsimp only; walk1) | (leave1; walk_say "STEP leave1"; try dsimp only) | fail "no step"))
        rename Fr _ _ _ _ => F15
        rename News _ _ _ _ => N15
        have hd2 : done ++ [(f, e)] ++ pairsOf u r f (f ++ e) = pairsOf u Wy [u] [v] := by
          rw [List.append_assoc]
          simpa [pairsOf, stepP] using hdone
        refine hR9 _ _ ?_
        show UnrEnd _ _ _ _ _ _ _
        exact UnrEnd.intro F15 N15 (lx11 ++ ((D4, PySem.W.listOf (rs ++ [Value.ref T]).toArray (kk + 1)) :: (D3, ox) :: R3 L D1 D2 vs1 vs2 k1 k2 o1 o2 o3 o4 o5 o6 o7 o8 o9 (tb ++ (T, tupO [.str (tx f) tf, .str (tx e) te]) :: TL))) in_mid2 (off_app (lex_off O (is_any hlx11) hlI) hoffI) ⟨hmem _, ⟨rfl, rfl, rfl, rfl, trivial⟩, lx11, rs ++ [Value.ref T], kk + 1, _, done ++ [(f, e)], hTL2, rfl, hps.snoc T f e tf te,
          .inr ⟨r, f, f ++ e, hdv0, fun x hx => hrm x (.tail _ hx), hd2, .inr ⟨_, _, hlx11⟩, by rw [List.length_append]; exact (len_step hfe hr3).1, Nat.le_of_succ_le hr3, by rw [List.length_append, ← hdl]; simp only [List.length_cons, List.length_nil]; omega⟩⟩
      · have hcv : c = v := (hrm c (.head _)).resolve_left hcu
        subst hcv
        (repeat' (first | (with_reducible refine if_ff ?_) | (with_reducible refine if_tt ?_) | (k_unfold; (try dsimp only)) | (k_end; wrow_close) | (cell_step; walk1) | (cell_step; dsimp only; walk1) | (leave1; walk_say "STEP leave1"; try dsimp only) | fail "no step"))
        rw [show (tx [v] == tx [u]) = false by rw [tx_beq]; simp [hcu]]
        (repeat' (first | (with_reducible refine if_ff ?_) | (with_reducible refine if_tt ?_) | (k_unfold; (try dsimp only)) | (k_end; wrow_close) | (cell_step; walk1) | (cell_step; dsimp only; walk1) | (leave1; walk_say "STEP leave1"; try dsimp only) | fail "no step"))
        rw [show (tx [v] == tx [v]) = true by simp]
        (repeat' (first | (with_reducible refine if_ff ?_) | (with_reducible refine if_tt ?_) | (k_unfold; (try dsimp only)) | (k_end; wrow_close) | (cell_step; walk1) | (cell_step; dsimp only; walk1) | (leave1; walk_say "STEP leave1"; try dsimp only) | fail "no step"))
        refine PyProof.Rows.add_str (hsz := by simp only [tx_len]; exact Nat.le_trans hfl (Nat.le_of_ble_eq_true rfl)) ?_
        intro t4 k4
        (try dsimp only)
        rw [tx_append]
        (repeat' (first | (with_reducible refine if_ff ?_) | (with_reducible refine if_tt ?_) | (k_unfold; (try dsimp only)) | (k_end; wrow_close) | (cell_step; walk1) | (cell_step; dsimp only; walk1) | (leave1; walk_say "STEP leave1"; try dsimp only) | fail "no step"))
        (refine' tel_use ?tH ?tB ?tF ?tX ?tN ?tT ?tC1 ?tC2 ?tC3 ?tk ?td ?tu ?_; (case tB => k_asm); (case tF => k_asm); (case tX => k_asm); (case tN => k_asm); (case tT => k_asm); (case tC1 => assumption); (case tC2 => assumption); (case tC3 => assumption); (case tk => first | exact rfl | assumption); (case tH => exact (putI w P O _ _ (tot + 2) tot0 [] (tx (f ++ e)) _ [] (by simp) hbes2 hlx9)); (case td => ktr_room); (case tu => ktr_units))
        rintro v10 h10 tk10 news10 F10 N10 ⟨lx10, rfl, rfl, hlx10⟩
        (try dsimp only)
        obtain ⟨line10, tl10, pe10, sg10, ep10, pre10, zz1, hl10, zz3⟩ := id hlx10
        subst hl10
        simp only [LexL, List.cons_append, List.nil_append] at N10
        (repeat' (first | (with_reducible refine if_ff ?_) | (with_reducible refine if_tt ?_) | (k_unfold; (try dsimp only)) | (k_end; wrow_close) | (cell_step; walk1) | (cell_step; dsimp only; walk1) | (leave1; walk_say "STEP leave1"; try dsimp only) | fail "no step"))
        (refine' tel_use ?tH ?tB ?tF ?tX ?tN ?tT ?tC1 ?tC2 ?tC3 ?tk ?td ?tu ?_; (case tB => k_asm); (case tF => k_asm); (case tX => k_asm); (case tN => k_asm); (case tT => k_asm); (case tC1 => assumption); (case tC2 => assumption); (case tC3 => assumption); (case tk => first | exact rfl | assumption); (case tH => exact (putI w P O _ _ (tot + 2) tot0 [] (tx e) _ _ (by simp) hbes2 hlx10)); (case td => ktr_room); (case tu => ktr_units))
        rintro v11 h11 tk11 news11 F11' N11' ⟨lx11, rfl, rfl, hlx11⟩
        (try dsimp only)
        (repeat' (first | (with_reducible refine if_ff ?_) | (with_reducible refine if_tt ?_) | (k_unfold; (try dsimp only)) | (k_end; wrow_close) | (cell_step; walk1) | (cell_step; dsimp only; walk1) | (leave1; walk_say "STEP leave1"; try dsimp only) | fail "no step"))
        rename Fr _ _ _ _ => F15
        rename News _ _ _ _ => N15
        have hd2 : done ++ [(f, e)] ++ pairsOf u r (f ++ e) e = pairsOf u Wy [u] [v] := by
          rw [List.append_assoc]
          simpa [pairsOf, stepP, hcu] using hdone
        refine hR9 _ _ ?_
        show UnrEnd _ _ _ _ _ _ _
        exact UnrEnd.intro F15 N15 (lx11 ++ ((D4, PySem.W.listOf (rs ++ [Value.ref T]).toArray (kk + 1)) :: (D3, ox) :: R3 L D1 D2 vs1 vs2 k1 k2 o1 o2 o3 o4 o5 o6 o7 o8 o9 (tb ++ (T, tupO [.str (tx f) tf, .str (tx e) te]) :: TL))) in_mid2 (off_app (lex_off O (is_any hlx11) hlI) hoffI) ⟨hmem _, ⟨rfl, rfl, rfl, rfl, trivial⟩, lx11, rs ++ [Value.ref T], kk + 1, _, done ++ [(f, e)], hTL2, rfl, hps.snoc T f e tf te,
          .inr ⟨r, f ++ e, e, hdv0, fun x hx => hrm x (.tail _ hx), hd2, .inr ⟨_, _, hlx11⟩, by rw [List.length_append]; exact (len_step hfe hr3).2, Nat.le_of_succ_le hr3, by rw [List.length_append, ← hdl]; simp only [List.length_cons, List.length_nil]; omega⟩⟩
end Vstage5b
theorem stage5b (w : World) (fa : Addr) (cd : Value) (L : Addr) (tot tot0 : Int) (m : Str → Option Value) (tb : Led) (o1 o2 o3 o4 o5 o6 o7 o8 o9 : Obj) (D1 D2 D4 S : Addr) (tcs : Str) (tt : Tok) (vs1 vs2 : List Value) (k1 k2 : Nat) (P : LexP) (O : LexOk P) (e5 : o5.data = .cell (some (.ref P.X)))
   (Wy : List Nat) (u v : Nat) (huv : u ≠ v) (hW : Wy.length = 3) (hWm : ∀ c ∈ Wy, c = u ∨ c = v) (hv1 : TextsAre vs1 (Wy.map fun c => [c])) (t2 t3 : Tok) (e2 : o2.data = .cell (some (.str (tx [u]) t2))) (e3 : o3.data = .cell (some (.str (tx [v]) t3)))
   (htop : topA (R3 L D1 D2 vs1 vs2 k1 k2 o1 o2 o3 o4 o5 o6 o7 o8 o9 tb) ≤ P.cG) (hD4 : @LT.lt Nat _ P.PB D4) (hM : Has m (names5 D1 D4 S tcs tt)) (lx : Led) (hlx : LexIs w P tot [u, v] tot0 [] lx) :
  Stg w fa cd L 9 1 (fun h => True) m (lx ++ ((D4, PySem.W.listOf #[] 0) :: R3 L D1 D2 vs1 vs2 k1 k2 o1 o2 o3 o4 o5 o6 o7 o8 o9 tb))
    (P5b w L tot tot0 tb o1 o2 o3 o4 o5 o6 o7 o8 o9 D1 D2 D4 S tcs tt vs1 vs2 k1 k2 P Wy u v) := stg_of fun z => (show Vstage5b.At0 w fa cd L tot tot0 m tb o1 o2 o3 o4 o5 o6 o7 o8 o9 D1 D2 D4 S tcs tt vs1 vs2 k1 k2 P Wy u v t2 t3 z from eps1_all (P := Vstage5b.AtX) @Vstage5b.aux (w, fa, cd, L, tot, tot0, m, tb, o1, o2, o3, o4, o5, o6, o7, o8, o9, D1, D2, D4, S, tcs, tt, vs1, vs2, k1, k2, P, Wy, u, v, t2, t3, z)) O e5 huv hW hWm hv1 e2 e3 htop hD4 hM lx hlx
end
section
theorem cnt_same : ∀ cs : List Nat, PyProof.Rows.cnt 10 cs = Mine.cnt cs
  | [] => rfl
  | c :: r => by rw [PyProof.Rows.cnt_cons, Mine.cnt_cons, cnt_same r]
theorem count_nl (cs : List Nat) : Txt.count (tx cs) (Str.ofString "\n") = Mine.cnt cs := by
  rw [nl_is, show tx [10] = (⟨#[10]⟩ : Str) from rfl, PyProof.Rows.count_cnt, ← cnt_same]
namespace Vstage6
noncomputable def At0 (w : World) (fa : Addr) (cd : Value) (L : Addr) (tt0 : Int) (tot0 : Int) (m : Str → Option Value) (tb : Led) (o1 : Obj) (o2 : Obj) (o3 : Obj) (o4 : Obj) (o5 : Obj) (o6 : Obj) (o7 : Obj) (o8 : Obj) (o9 : Obj) (D1 : Addr) (D2 : Addr) (D3 : Addr) (D4 : Addr) (S : Addr) (q3 : Obj) (q4 : Obj) (cs : List Nat) (tt : Tok) (vs1 : List Value) (vs2 : List Value) (k1 : Nat) (k2 : Nat) (P : LexP) (z : StgV) : Prop := ∀ (O : LexOk P) (e5 : o5.data = .cell (some (.ref P.X))) (hb : OwnOff ((D4, q4) :: (D3, q3) :: R3 L D1 D2 vs1 vs2 k1 k2 o1 o2 o3 o4 o5 o6 o7 o8 o9 tb) [P.G, P.dX]) (hM : Has m (names5 D1 D4 S (tx cs) tt)) (hcs : cs.length ≤ 1000) (htot : tot0 = 1 + cnt cs) (lx : Led) (hlx : LexIs w P tt0 [] tot0 [] lx), StgAt w fa cd L 10 1 (fun h => True) m (lx ++ ((D4, q4) :: (D3, q3) :: R3 L D1 D2 vs1 vs2 k1 k2 o1 o2 o3 o4 o5 o6 o7 o8 o9 tb))
    (fun m' news' => m' = m ∧ ∃ lx', LexAny w P lx' ∧ news' = lx' ++ ((D4, q4) :: (D3, q3) :: R3 L D1 D2 vs1 vs2 k1 k2 o1 o2 o3 o4 o5 o6 o7 o8 o9 tb)) z
noncomputable def AtX (x : (World) × (Addr) × (Value) × (Addr) × (Int) × (Int) × (Str → Option Value) × (Led) × (Obj) × (Obj) × (Obj) × (Obj) × (Obj) × (Obj) × (Obj) × (Obj) × (Obj) × (Addr) × (Addr) × (Addr) × (Addr) × (Addr) × (Obj) × (Obj) × (List Nat) × (Tok) × (List Value) × (List Value) × (Nat) × (Nat) × (LexP) × StgV) : Prop := At0 (x.1) (x.2.1) (x.2.2.1) (x.2.2.2.1) (x.2.2.2.2.1) (x.2.2.2.2.2.1) (x.2.2.2.2.2.2.1) (x.2.2.2.2.2.2.2.1) (x.2.2.2.2.2.2.2.2.1) (x.2.2.2.2.2.2.2.2.2.1) (x.2.2.2.2.2.2.2.2.2.2.1) (x.2.2.2.2.2.2.2.2.2.2.2.1) (x.2.2.2.2.2.2.2.2.2.2.2.2.1) (x.2.2.2.2.2.2.2.2.2.2.2.2.2.1) (x.2.2.2.2.2.2.2.2.2.2.2.2.2.2.1) (x.2.2.2.2.2.2.2.2.2.2.2.2.2.2.2.1) (x.2.2.2.2.2.2.2.2.2.2.2.2.2.2.2.2.1) (x.2.2.2.2.2.2.2.2.2.2.2.2.2.2.2.2.2.1) (x.2.2.2.2.2.2.2.2.2.2.2.2.2.2.2.2.2.2.1) (x.2.2.2.2.2.2.2.2.2.2.2.2.2.2.2.2.2.2.2.1) (x.2.2.2.2.2.2.2.2.2.2.2.2.2.2.2.2.2.2.2.2.1) (x.2.2.2.2.2.2.2.2.2.2.2.2.2.2.2.2.2.2.2.2.2.1) (x.2.2.2.2.2.2.2.2.2.2.2.2.2.2.2.2.2.2.2.2.2.2.1) (x.2.2.2.2.2.2.2.2.2.2.2.2.2.2.2.2.2.2.2.2.2.2.2.1) (x.2.2.2.2.2.2.2.2.2.2.2.2.2.2.2.2.2.2.2.2.2.2.2.2.1) (x.2.2.2.2.2.2.2.2.2.2.2.2.2.2.2.2.2.2.2.2.2.2.2.2.2.1) (x.2.2.2.2.2.2.2.2.2.2.2.2.2.2.2.2.2.2.2.2.2.2.2.2.2.2.1) (x.2.2.2.2.2.2.2.2.2.2.2.2.2.2.2.2.2.2.2.2.2.2.2.2.2.2.2.1) (x.2.2.2.2.2.2.2.2.2.2.2.2.2.2.2.2.2.2.2.2.2.2.2.2.2.2.2.2.1) (x.2.2.2.2.2.2.2.2.2.2.2.2.2.2.2.2.2.2.2.2.2.2.2.2.2.2.2.2.2.1) (x.2.2.2.2.2.2.2.2.2.2.2.2.2.2.2.2.2.2.2.2.2.2.2.2.2.2.2.2.2.2.1) (x.2.2.2.2.2.2.2.2.2.2.2.2.2.2.2.2.2.2.2.2.2.2.2.2.2.2.2.2.2.2.2)
noncomputable def cc0 : (World) × (Addr) × (Value) × (Addr) × (Int) × (Int) × (Str → Option Value) × (Led) × (Obj) × (Obj) × (Obj) × (Obj) × (Obj) × (Obj) × (Obj) × (Obj) × (Obj) × (Addr) × (Addr) × (Addr) × (Addr) × (Addr) × (Obj) × (Obj) × (List Nat) × (Tok) × (List Value) × (List Value) × (Nat) × (Nat) × (LexP) × StgV := eps1 (ne_prod ne_world (ne_prod ne_addr (ne_prod ne_value (ne_prod ne_addr (ne_prod ne_int (ne_prod ne_int (ne_prod ne_par (ne_prod ne_led (ne_prod ne_obj (ne_prod ne_obj (ne_prod ne_obj (ne_prod ne_obj (ne_prod ne_obj (ne_prod ne_obj (ne_prod ne_obj (ne_prod ne_obj (ne_prod ne_obj (ne_prod ne_addr (ne_prod ne_addr (ne_prod ne_addr (ne_prod ne_addr (ne_prod ne_addr (ne_prod ne_obj (ne_prod ne_obj (ne_prod ne_list (ne_prod ne_tok (ne_prod ne_list (ne_prod ne_list (ne_prod ne_nat (ne_prod ne_nat (ne_prod ne_lexp stgV_ne))))))))))))))))))))))))))))))) AtX
noncomputable def w : World := cc0.1
noncomputable def fa : Addr := cc0.2.1
noncomputable def cd : Value := cc0.2.2.1
noncomputable def L : Addr := cc0.2.2.2.1
noncomputable def tt0 : Int := cc0.2.2.2.2.1
noncomputable def tot0 : Int := cc0.2.2.2.2.2.1
noncomputable def m : Str → Option Value := cc0.2.2.2.2.2.2.1
noncomputable def tb : Led := cc0.2.2.2.2.2.2.2.1
noncomputable def o1 : Obj := cc0.2.2.2.2.2.2.2.2.1
noncomputable def o2 : Obj := cc0.2.2.2.2.2.2.2.2.2.1
noncomputable def o3 : Obj := cc0.2.2.2.2.2.2.2.2.2.2.1
noncomputable def o4 : Obj := cc0.2.2.2.2.2.2.2.2.2.2.2.1
noncomputable def o5 : Obj := cc0.2.2.2.2.2.2.2.2.2.2.2.2.1
noncomputable def o6 : Obj := cc0.2.2.2.2.2.2.2.2.2.2.2.2.2.1
noncomputable def o7 : Obj := cc0.2.2.2.2.2.2.2.2.2.2.2.2.2.2.1
noncomputable def o8 : Obj := cc0.2.2.2.2.2.2.2.2.2.2.2.2.2.2.2.1
noncomputable def o9 : Obj := cc0.2.2.2.2.2.2.2.2.2.2.2.2.2.2.2.2.1
noncomputable def D1 : Addr := cc0.2.2.2.2.2.2.2.2.2.2.2.2.2.2.2.2.2.1
noncomputable def D2 : Addr := cc0.2.2.2.2.2.2.2.2.2.2.2.2.2.2.2.2.2.2.1
noncomputable def D3 : Addr := cc0.2.2.2.2.2.2.2.2.2.2.2.2.2.2.2.2.2.2.2.1
noncomputable def D4 : Addr := cc0.2.2.2.2.2.2.2.2.2.2.2.2.2.2.2.2.2.2.2.2.1
noncomputable def S : Addr := cc0.2.2.2.2.2.2.2.2.2.2.2.2.2.2.2.2.2.2.2.2.2.1
noncomputable def q3 : Obj := cc0.2.2.2.2.2.2.2.2.2.2.2.2.2.2.2.2.2.2.2.2.2.2.1
noncomputable def q4 : Obj := cc0.2.2.2.2.2.2.2.2.2.2.2.2.2.2.2.2.2.2.2.2.2.2.2.1
noncomputable def cs : List Nat := cc0.2.2.2.2.2.2.2.2.2.2.2.2.2.2.2.2.2.2.2.2.2.2.2.2.1
noncomputable def tt : Tok := cc0.2.2.2.2.2.2.2.2.2.2.2.2.2.2.2.2.2.2.2.2.2.2.2.2.2.1
noncomputable def vs1 : List Value := cc0.2.2.2.2.2.2.2.2.2.2.2.2.2.2.2.2.2.2.2.2.2.2.2.2.2.2.1
noncomputable def vs2 : List Value := cc0.2.2.2.2.2.2.2.2.2.2.2.2.2.2.2.2.2.2.2.2.2.2.2.2.2.2.2.1
noncomputable def k1 : Nat := cc0.2.2.2.2.2.2.2.2.2.2.2.2.2.2.2.2.2.2.2.2.2.2.2.2.2.2.2.2.1
noncomputable def k2 : Nat := cc0.2.2.2.2.2.2.2.2.2.2.2.2.2.2.2.2.2.2.2.2.2.2.2.2.2.2.2.2.2.1
noncomputable def P : LexP := cc0.2.2.2.2.2.2.2.2.2.2.2.2.2.2.2.2.2.2.2.2.2.2.2.2.2.2.2.2.2.2.1
noncomputable def v0 : StgV := cc0.2.2.2.2.2.2.2.2.2.2.2.2.2.2.2.2.2.2.2.2.2.2.2.2.2.2.2.2.2.2.2
theorem aux (O : LexOk P) (e5 : o5.data = .cell (some (.ref P.X))) (hb : OwnOff ((D4, q4) :: (D3, q3) :: R3 L D1 D2 vs1 vs2 k1 k2 o1 o2 o3 o4 o5 o6 o7 o8 o9 tb) [P.G, P.dX]) (hM : Has m (names5 D1 D4 S (tx cs) tt)) (hcs : cs.length ≤ 1000) (htot : tot0 = 1 + cnt cs) (lx : Led) (hlx : LexIs w P tt0 [] tot0 [] lx) :
  StgAt w fa cd L 10 1 (fun h => True) m (lx ++ ((D4, q4) :: (D3, q3) :: R3 L D1 D2 vs1 vs2 k1 k2 o1 o2 o3 o4 o5 o6 o7 o8 o9 tb))
    (fun m' news' => m' = m ∧ ∃ lx', LexAny w P lx' ∧ news' = lx' ++ ((D4, q4) :: (D3, q3) :: R3 L D1 D2 vs1 vs2 k1 k2 o1 o2 o3 o4 o5 o6 o7 o8 o9 tb)) v0 := by
  intro B F X N T C1 C2 C3 hE hS hret
  have F0 := fr_all0 hM F
  clear F
  obtain ⟨line, tl, pe, sg, ep, pre, h1, hlx', h3, h4, h5, h6⟩ := id hlx
  subst hlx'
  simp only [LexL, List.cons_append, List.nil_append] at N
  (repeat' (first | (with_reducible refine if_ff ?_) | (with_reducible refine if_tt ?_) | (k_unfold; (try dsimp only)) | (k_end; wrow_close) | (cell_step; walk1) | (cell_step; dsimp only; walk1) | (leave1; walk_say "STEP leave1"; try dsimp only) | fail "no step"))
  (refine' tel_use ?tH ?tB ?tF ?tX ?tN ?tT ?tC1 ?tC2 ?tC3 ?tk ?td ?tu ?_; (case tB => k_asm); (case tF => k_asm); (case tX => k_asm); (case tN => k_asm); (case tT => k_asm); (case tC1 => assumption); (case tC2 => assumption); (case tC3 => assumption); (case tk => first | exact rfl | assumption); (case tH => exact (endI w P O _ _ tt0 tot0 hb hlx)); (case td => ktr_room); (case tu => ktr_units))
  rintro v9 h9 tk9 news9 F9 N9 ⟨t9, tl9, pe9, ep9, rfl, rfl⟩
  (try dsimp only)
  simp only [LexL, List.cons_append, List.nil_append] at N9
  (repeat' (first | (with_reducible refine if_ff ?_) | (with_reducible refine if_tt ?_) | (k_unfold; (try dsimp only)) | (k_end; wrow_close) | (cell_step; walk1) | (cell_step; dsimp only; walk1) | (leave1; walk_say "STEP leave1"; try dsimp only) | fail "no step"))
  · rename (¬ tot0 = _) => hh
    exact absurd (by rw [count_nl]; exact htot) hh
  · rename Fr _ _ _ _ => F10
    rename News _ _ _ _ => N10
    rw [bindAll_eq hM] at F10
    exact hret _ _ _ _ F10 N10 ⟨rfl, LexL w P tot0 tl9 [] pe9 [] ep9, ⟨_, _, _, _, _, _, rfl⟩, rfl⟩
end Vstage6
theorem stage6 (w : World) (fa : Addr) (cd : Value) (L : Addr) (tt0 tot0 : Int) (m : Str → Option Value) (tb : Led) (o1 o2 o3 o4 o5 o6 o7 o8 o9 : Obj) (D1 D2 D3 D4 S : Addr) (q3 q4 : Obj) (cs : List Nat) (tt : Tok) (vs1 vs2 : List Value) (k1 k2 : Nat) (P : LexP) (O : LexOk P) (e5 : o5.data = .cell (some (.ref P.X)))
   (hb : OwnOff ((D4, q4) :: (D3, q3) :: R3 L D1 D2 vs1 vs2 k1 k2 o1 o2 o3 o4 o5 o6 o7 o8 o9 tb) [P.G, P.dX]) (hM : Has m (names5 D1 D4 S (tx cs) tt)) (hcs : cs.length ≤ 1000) (htot : tot0 = 1 + cnt cs) (lx : Led) (hlx : LexIs w P tt0 [] tot0 [] lx) :
  Stg w fa cd L 10 1 (fun h => True) m (lx ++ ((D4, q4) :: (D3, q3) :: R3 L D1 D2 vs1 vs2 k1 k2 o1 o2 o3 o4 o5 o6 o7 o8 o9 tb))
    (fun m' news' => m' = m ∧ ∃ lx', LexAny w P lx' ∧ news' = lx' ++ ((D4, q4) :: (D3, q3) :: R3 L D1 D2 vs1 vs2 k1 k2 o1 o2 o3 o4 o5 o6 o7 o8 o9 tb)) := stg_of fun z => (show Vstage6.At0 w fa cd L tt0 tot0 m tb o1 o2 o3 o4 o5 o6 o7 o8 o9 D1 D2 D3 D4 S q3 q4 cs tt vs1 vs2 k1 k2 P z from eps1_all (P := Vstage6.AtX) @Vstage6.aux (w, fa, cd, L, tt0, tot0, m, tb, o1, o2, o3, o4, o5, o6, o7, o8, o9, D1, D2, D3, D4, S, q3, q4, cs, tt, vs1, vs2, k1, k2, P, z)) O e5 hb hM hcs htot lx hlx
end
end
section
local macro_rules | `(tactic| cell_step) => `(tactic| (walk_at "s1"; walk_at "s2"; walk_at "t2"))
local macro_rules | `(tactic| walk_at "newList") => `(tactic| walk_at "t3")
local macro_rules | `(tactic| walk_at "newTuple") => `(tactic| walk_at "t4")
local macro_rules | `(tactic| k_all) => `(tactic| ((repeat (refine Mine.off_cons (by dsimp only; omega) ?_)); assumption))
section
theorem neL6 {L a : Nat} (h : L + 9 < a) : a ≠ L + 1 + 1 + 1 + 1 + 1 + 1 := Nat.ne_of_gt (Nat.lt_of_le_of_lt (Nat.add_le_add_left (by decide : 6 ≤ 9) L) h)
theorem neM6 {L a : Nat} (h : L + 9 < a) : L + 1 + 1 + 1 + 1 + 1 + 1 ≠ a := Nat.ne_of_lt (Nat.lt_of_le_of_lt (Nat.add_le_add_left (by decide : 6 ≤ 9) L) h)
theorem neL7 {L a : Nat} (h : L + 9 < a) : a ≠ L + 1 + 1 + 1 + 1 + 1 + 1 + 1 := Nat.ne_of_gt (Nat.lt_of_le_of_lt (Nat.add_le_add_left (by decide : 7 ≤ 9) L) h)
theorem neM7 {L a : Nat} (h : L + 9 < a) : L + 1 + 1 + 1 + 1 + 1 + 1 + 1 ≠ a := Nat.ne_of_lt (Nat.lt_of_le_of_lt (Nat.add_le_add_left (by decide : 7 ≤ 9) L) h)
theorem neL8 {L a : Nat} (h : L + 9 < a) : a ≠ L + 1 + 1 + 1 + 1 + 1 + 1 + 1 + 1 := Nat.ne_of_gt (Nat.lt_of_le_of_lt (Nat.add_le_add_left (by decide : 8 ≤ 9) L) h)
theorem neM8 {L a : Nat} (h : L + 9 < a) : L + 1 + 1 + 1 + 1 + 1 + 1 + 1 + 1 ≠ a := Nat.ne_of_lt (Nat.lt_of_le_of_lt (Nat.add_le_add_left (by decide : 8 ≤ 9) L) h)
theorem neL9 {L a : Nat} (h : L + 9 < a) : a ≠ L + 1 + 1 + 1 + 1 + 1 + 1 + 1 + 1 + 1 := Nat.ne_of_gt (Nat.lt_of_le_of_lt (Nat.add_le_add_left (by decide : 9 ≤ 9) L) h)
theorem neM9 {L a : Nat} (h : L + 9 < a) : L + 1 + 1 + 1 + 1 + 1 + 1 + 1 + 1 + 1 ≠ a := Nat.ne_of_lt (Nat.lt_of_le_of_lt (Nat.add_le_add_left (by decide : 9 ≤ 9) L) h)
theorem telP_use {w : World} {d u : Nat} {f : Value} {args : List Value} {news : Led} {P : Heap → Prop} {R : Value → Led → Prop} (H : TelP w d u f args news P R) {mean : ExcName → Option Value} {mg mb : Str → Option Value} {dp un : Nat} {gd : Option (List Code)} {cn : Str} {cs : Scope} {a : Addr} {ccd : Value} {cl : List (Str × Addr)} {outer : List Env} {A₀ : Around} {base h₀ : Heap} {L : Addr} {m : Str → Option Value} {s : Shared} {Q E : Value → Shared → Prop} (hP : P h₀)
    (B : Below A₀ base outer h₀) (F : Fr h₀ L s.heap m) (X : (hd02.heap_1 w.params).In h₀) (N : News h₀ L s.heap news) (T : Top topProg topL mean mg mb h₀) (C1 : CodeHd base 135 131) (C2 : CodeHd base 41 37) (C3 : CodeHd base 34 30)
    (hk : cs.kind = .function) (hd : dp + d < recursionLimit) (hu : un + u < cLine)
    (ret : ∀ v h' tk' news', Fr h₀ L h' m → News h₀ L h' news' → R v news' → Q v { s with heap := h', toks := tk' }) :
    wpAny (model Challenge.rw_ty0035_02.row.prog w) (ktrTop dp un gd cn cs L a ccd cl outer) (call f args) Q E s :=
  H mean mg mb dp un gd cn cs a ccd cl outer A₀ base h₀ L m s Q E hP B F X N T C1 C2 C3 hk hd hu ret
inductive P7 (L : Addr) (m : Str → Option Value) (tb : Led) (o1 : Obj) (o2 : Obj) (o3 : Obj) (o4 : Obj) (o5 : Obj) (D1 : Addr) (D2 : Addr) (D3 : Addr) (D4 : Addr) (q3 : Obj) (q4 : Obj) (vs1 : List Value) (vs2 : List Value) (k1 : Nat) (k2 : Nat) (lx : Led) (m' : Str → Option Value) (news' : Led) : Prop
  | mk (zh1 : m' = m) (c : Int) (d : Int) (e : Int) (f : Int) (tc : Tok) (td : Tok) (te : Tok) (tf : Tok) (p6 : Obj) (p7 : Obj) (p8 : Obj) (p9 : Obj) (zh2 : (1 ≤ c ∧ c ≤ 4096)) (zh3 : (1 ≤ d ∧ d ≤ 4096)) (zh4 : (1 ≤ e ∧ e ≤ 4096)) (zh5 : (1 ≤ f ∧ f ≤ 4096)) (zh6 : p6.data = .cell (some (.int c tc))) (zh7 : p7.data = .cell (some (.int d td))) (zh8 : p8.data = .cell (some (.int e te))) (zh9 : p9.data = .cell (some (.int f tf))) (zh10 : news' = lx ++ ((D4, q4) :: (D3, q3) :: R3 L D1 D2 vs1 vs2 k1 k2 o1 o2 o3 o4 o5 p6 p7 p8 p9 tb))
namespace Vstage7
noncomputable def At0 (w : World) (fa : Addr) (cd : Value) (L : Addr) (m : Str → Option Value) (tb : Led) (o1 : Obj) (o2 : Obj) (o3 : Obj) (o4 : Obj) (o5 : Obj) (o6 : Obj) (o7 : Obj) (o8 : Obj) (o9 : Obj) (D1 : Addr) (D2 : Addr) (D3 : Addr) (D4 : Addr) (S : Addr) (q3 : Obj) (q4 : Obj) (tcs : Str) (tt : Tok) (vs1 : List Value) (vs2 : List Value) (k1 : Nat) (k2 : Nat) (P : LexP) (vs : List Value) (xs : List Int) (z : StgV) : Prop := ∀ (O : LexOk P) (e6 : o6.data = .cell none) (e7 : o7.data = .cell none) (e8 : o8.data = .cell none) (e9 : o9.data = .cell none) (hi : IntsAre vs xs) (hl : xs.length ≤ 63) (hM : Has m (names5 D1 D4 S tcs tt)) (htop : topA (R3 L D1 D2 vs1 vs2 k1 k2 o1 o2 o3 o4 o5 o6 o7 o8 o9 []) ≤ P.cG) (hD4 : @LT.lt Nat _ P.PB D4) (hD3 : @LT.lt Nat _ D4 D3) (hD1 : offC L [] D1) (hD2 : offC L [] D2) (htb : ∀ i : Nat, i ≤ 9 → ∀ p ∈ tb, p.1 ≠ L + i) (lx : Led) (hlx : LexAny w P lx), StgAt w fa cd L 11 1 (fun h => h.IsList S vs.toArray) m (lx ++ ((D4, q4) :: (D3, q3) :: R3 L D1 D2 vs1 vs2 k1 k2 o1 o2 o3 o4 o5 o6 o7 o8 o9 tb))
    (P7 L m tb o1 o2 o3 o4 o5 D1 D2 D3 D4 q3 q4 vs1 vs2 k1 k2 lx) z
noncomputable def AtX (x : (World) × (Addr) × (Value) × (Addr) × (Str → Option Value) × (Led) × (Obj) × (Obj) × (Obj) × (Obj) × (Obj) × (Obj) × (Obj) × (Obj) × (Obj) × (Addr) × (Addr) × (Addr) × (Addr) × (Addr) × (Obj) × (Obj) × (Str) × (Tok) × (List Value) × (List Value) × (Nat) × (Nat) × (LexP) × (List Value) × (List Int) × StgV) : Prop := At0 (x.1) (x.2.1) (x.2.2.1) (x.2.2.2.1) (x.2.2.2.2.1) (x.2.2.2.2.2.1) (x.2.2.2.2.2.2.1) (x.2.2.2.2.2.2.2.1) (x.2.2.2.2.2.2.2.2.1) (x.2.2.2.2.2.2.2.2.2.1) (x.2.2.2.2.2.2.2.2.2.2.1) (x.2.2.2.2.2.2.2.2.2.2.2.1) (x.2.2.2.2.2.2.2.2.2.2.2.2.1) (x.2.2.2.2.2.2.2.2.2.2.2.2.2.1) (x.2.2.2.2.2.2.2.2.2.2.2.2.2.2.1) (x.2.2.2.2.2.2.2.2.2.2.2.2.2.2.2.1) (x.2.2.2.2.2.2.2.2.2.2.2.2.2.2.2.2.1) (x.2.2.2.2.2.2.2.2.2.2.2.2.2.2.2.2.2.1) (x.2.2.2.2.2.2.2.2.2.2.2.2.2.2.2.2.2.2.1) (x.2.2.2.2.2.2.2.2.2.2.2.2.2.2.2.2.2.2.2.1) (x.2.2.2.2.2.2.2.2.2.2.2.2.2.2.2.2.2.2.2.2.1) (x.2.2.2.2.2.2.2.2.2.2.2.2.2.2.2.2.2.2.2.2.2.1) (x.2.2.2.2.2.2.2.2.2.2.2.2.2.2.2.2.2.2.2.2.2.2.1) (x.2.2.2.2.2.2.2.2.2.2.2.2.2.2.2.2.2.2.2.2.2.2.2.1) (x.2.2.2.2.2.2.2.2.2.2.2.2.2.2.2.2.2.2.2.2.2.2.2.2.1) (x.2.2.2.2.2.2.2.2.2.2.2.2.2.2.2.2.2.2.2.2.2.2.2.2.2.1) (x.2.2.2.2.2.2.2.2.2.2.2.2.2.2.2.2.2.2.2.2.2.2.2.2.2.2.1) (x.2.2.2.2.2.2.2.2.2.2.2.2.2.2.2.2.2.2.2.2.2.2.2.2.2.2.2.1) (x.2.2.2.2.2.2.2.2.2.2.2.2.2.2.2.2.2.2.2.2.2.2.2.2.2.2.2.2.1) (x.2.2.2.2.2.2.2.2.2.2.2.2.2.2.2.2.2.2.2.2.2.2.2.2.2.2.2.2.2.1) (x.2.2.2.2.2.2.2.2.2.2.2.2.2.2.2.2.2.2.2.2.2.2.2.2.2.2.2.2.2.2.1) (x.2.2.2.2.2.2.2.2.2.2.2.2.2.2.2.2.2.2.2.2.2.2.2.2.2.2.2.2.2.2.2)
noncomputable def cc0 : (World) × (Addr) × (Value) × (Addr) × (Str → Option Value) × (Led) × (Obj) × (Obj) × (Obj) × (Obj) × (Obj) × (Obj) × (Obj) × (Obj) × (Obj) × (Addr) × (Addr) × (Addr) × (Addr) × (Addr) × (Obj) × (Obj) × (Str) × (Tok) × (List Value) × (List Value) × (Nat) × (Nat) × (LexP) × (List Value) × (List Int) × StgV := eps1 (ne_prod ne_world (ne_prod ne_addr (ne_prod ne_value (ne_prod ne_addr (ne_prod ne_par (ne_prod ne_led (ne_prod ne_obj (ne_prod ne_obj (ne_prod ne_obj (ne_prod ne_obj (ne_prod ne_obj (ne_prod ne_obj (ne_prod ne_obj (ne_prod ne_obj (ne_prod ne_obj (ne_prod ne_addr (ne_prod ne_addr (ne_prod ne_addr (ne_prod ne_addr (ne_prod ne_addr (ne_prod ne_obj (ne_prod ne_obj (ne_prod ne_str (ne_prod ne_tok (ne_prod ne_list (ne_prod ne_list (ne_prod ne_nat (ne_prod ne_nat (ne_prod ne_lexp (ne_prod ne_list (ne_prod ne_list stgV_ne))))))))))))))))))))))))))))))) AtX
noncomputable def w : World := cc0.1
noncomputable def fa : Addr := cc0.2.1
noncomputable def cd : Value := cc0.2.2.1
noncomputable def L : Addr := cc0.2.2.2.1
noncomputable def m : Str → Option Value := cc0.2.2.2.2.1
noncomputable def tb : Led := cc0.2.2.2.2.2.1
noncomputable def o1 : Obj := cc0.2.2.2.2.2.2.1
noncomputable def o2 : Obj := cc0.2.2.2.2.2.2.2.1
noncomputable def o3 : Obj := cc0.2.2.2.2.2.2.2.2.1
noncomputable def o4 : Obj := cc0.2.2.2.2.2.2.2.2.2.1
noncomputable def o5 : Obj := cc0.2.2.2.2.2.2.2.2.2.2.1
noncomputable def o6 : Obj := cc0.2.2.2.2.2.2.2.2.2.2.2.1
noncomputable def o7 : Obj := cc0.2.2.2.2.2.2.2.2.2.2.2.2.1
noncomputable def o8 : Obj := cc0.2.2.2.2.2.2.2.2.2.2.2.2.2.1
noncomputable def o9 : Obj := cc0.2.2.2.2.2.2.2.2.2.2.2.2.2.2.1
noncomputable def D1 : Addr := cc0.2.2.2.2.2.2.2.2.2.2.2.2.2.2.2.1
noncomputable def D2 : Addr := cc0.2.2.2.2.2.2.2.2.2.2.2.2.2.2.2.2.1
noncomputable def D3 : Addr := cc0.2.2.2.2.2.2.2.2.2.2.2.2.2.2.2.2.2.1
noncomputable def D4 : Addr := cc0.2.2.2.2.2.2.2.2.2.2.2.2.2.2.2.2.2.2.1
noncomputable def S : Addr := cc0.2.2.2.2.2.2.2.2.2.2.2.2.2.2.2.2.2.2.2.1
noncomputable def q3 : Obj := cc0.2.2.2.2.2.2.2.2.2.2.2.2.2.2.2.2.2.2.2.2.1
noncomputable def q4 : Obj := cc0.2.2.2.2.2.2.2.2.2.2.2.2.2.2.2.2.2.2.2.2.2.1
noncomputable def tcs : Str := cc0.2.2.2.2.2.2.2.2.2.2.2.2.2.2.2.2.2.2.2.2.2.2.1
noncomputable def tt : Tok := cc0.2.2.2.2.2.2.2.2.2.2.2.2.2.2.2.2.2.2.2.2.2.2.2.1
noncomputable def vs1 : List Value := cc0.2.2.2.2.2.2.2.2.2.2.2.2.2.2.2.2.2.2.2.2.2.2.2.2.1
noncomputable def vs2 : List Value := cc0.2.2.2.2.2.2.2.2.2.2.2.2.2.2.2.2.2.2.2.2.2.2.2.2.2.1
noncomputable def k1 : Nat := cc0.2.2.2.2.2.2.2.2.2.2.2.2.2.2.2.2.2.2.2.2.2.2.2.2.2.2.1
noncomputable def k2 : Nat := cc0.2.2.2.2.2.2.2.2.2.2.2.2.2.2.2.2.2.2.2.2.2.2.2.2.2.2.2.1
noncomputable def P : LexP := cc0.2.2.2.2.2.2.2.2.2.2.2.2.2.2.2.2.2.2.2.2.2.2.2.2.2.2.2.2.1
noncomputable def vs : List Value := cc0.2.2.2.2.2.2.2.2.2.2.2.2.2.2.2.2.2.2.2.2.2.2.2.2.2.2.2.2.2.1
noncomputable def xs : List Int := cc0.2.2.2.2.2.2.2.2.2.2.2.2.2.2.2.2.2.2.2.2.2.2.2.2.2.2.2.2.2.2.1
noncomputable def v0 : StgV := cc0.2.2.2.2.2.2.2.2.2.2.2.2.2.2.2.2.2.2.2.2.2.2.2.2.2.2.2.2.2.2.2
theorem aux (O : LexOk P) (e6 : o6.data = .cell none) (e7 : o7.data = .cell none) (e8 : o8.data = .cell none) (e9 : o9.data = .cell none) (hi : IntsAre vs xs) (hl : xs.length ≤ 63) (hM : Has m (names5 D1 D4 S tcs tt)) (htop : topA (R3 L D1 D2 vs1 vs2 k1 k2 o1 o2 o3 o4 o5 o6 o7 o8 o9 []) ≤ P.cG) (hD4 : @LT.lt Nat _ P.PB D4) (hD3 : @LT.lt Nat _ D4 D3) (hD1 : offC L [] D1) (hD2 : offC L [] D2) (htb : ∀ i : Nat, i ≤ 9 → ∀ p ∈ tb, p.1 ≠ L + i) (lx : Led) (hlx : LexAny w P lx) :
  StgAt w fa cd L 11 1 (fun h => h.IsList S vs.toArray) m (lx ++ ((D4, q4) :: (D3, q3) :: R3 L D1 D2 vs1 vs2 k1 k2 o1 o2 o3 o4 o5 o6 o7 o8 o9 tb))
    (P7 L m tb o1 o2 o3 o4 o5 D1 D2 D3 D4 q3 q4 vs1 vs2 k1 k2 lx) v0 := by
  intro B F X N T C1 C2 C3 hE hS hret
  obtain ⟨line, tl, pb, pe, sg, ep, rfl⟩ := hlx
  have F0 := fr_all0 hM F
  clear F
  (repeat' (first | (with_reducible refine if_ff ?_) | (with_reducible refine if_tt ?_) | (k_unfold; (try dsimp only)) | (k_end; wrow_close) | (cell_step; walk1) | (cell_step; dsimp only; walk1) | (leave1; walk_say "STEP leave1"; try dsimp only) | fail "no step"))
  refine' telP_use (cells w _ S vs xs hi hl) ?tP ?tB ?tF ?tX ?tN ?tT ?tC1 ?tC2 ?tC3 ?tk ?td ?tu ?_
  case tP => exact hS
  case tB => k_asm
  case tF => k_asm
  case tX => k_asm
  case tN => k_asm
  case tT => k_asm
  case tC1 => assumption
  case tC2 => assumption
  case tC3 => assumption
  case tk => exact rfl
  case td => ktr_room
  case tu => ktr_units
  rintro v9 h9 tk9 news9 F9 N9 ⟨D, c, d, e, f, tc, td, te, tf, kk, rfl, hc, hd, he, hf, hoD, rfl⟩
  (try dsimp only)
  have gD : ∀ p ∈ LexL w P line tl pb pe sg ep ++ ((D4, q4) :: (D3, q3) :: R3 L D1 D2 vs1 vs2 k1 k2 o1 o2 o3 o4 o5 o6 o7 o8 o9 tb), p.1 ≠ D := fun p hp => hoD p hp D (List.mem_singleton.mpr rfl)
  have g6 : @Ne Nat (L + 1 + 1 + 1 + 1 + 1 + 1) D := gD _ (List.mem_append_right _ (.tail _ (.tail _ (.tail _ (.tail _ (.tail _ (.tail _ (.tail _ (.head _)))))))))
  have g7 : @Ne Nat (L + 1 + 1 + 1 + 1 + 1 + 1 + 1) D := gD _ (List.mem_append_right _ (.tail _ (.tail _ (.tail _ (.tail _ (.tail _ (.tail _ (.head _))))))))
  have g8 : @Ne Nat (L + 1 + 1 + 1 + 1 + 1 + 1 + 1 + 1) D := gD _ (List.mem_append_right _ (.tail _ (.tail _ (.tail _ (.tail _ (.tail _ (.head _)))))))
  have g9 : @Ne Nat (L + 1 + 1 + 1 + 1 + 1 + 1 + 1 + 1 + 1) D := gD _ (List.mem_append_right _ (.tail _ (.tail _ (.tail _ (.tail _ (.head _))))))
  have z6 : ∀ p ∈ tb, p.1 ≠ L + 1 + 1 + 1 + 1 + 1 + 1 := htb 6 (by decide)
  have z7 : ∀ p ∈ tb, p.1 ≠ L + 1 + 1 + 1 + 1 + 1 + 1 + 1 := htb 7 (by decide)
  have z8 : ∀ p ∈ tb, p.1 ≠ L + 1 + 1 + 1 + 1 + 1 + 1 + 1 + 1 := htb 8 (by decide)
  have z9 : ∀ p ∈ tb, p.1 ≠ L + 1 + 1 + 1 + 1 + 1 + 1 + 1 + 1 + 1 := htb 9 (by decide)
  obtain ⟨q1, q2, q3, n1, n2, n3, n4, n5, n6, n7, n8, n9⟩ := O
  obtain ⟨b9, b8, b7, b6, b5, b4, b3, b2, b1, _⟩ := hD1
  obtain ⟨c9, c8, c7, c6, c5, c4, c3, c2, c1, _⟩ := hD2
  simp only [topA_nil, topA_cons, topA_app, Nat.max_le, Nat.zero_le, true_and, and_true, List.cons_append, List.nil_append] at htop
  have hq0 : @LT.lt Nat _ (L + 9) P.cG := by omega
  have hq1 : @LT.lt Nat _ (L + 9) P.G := Nat.lt_trans hq0 (by omega)
  have hq2 : @LT.lt Nat _ (L + 9) P.dS := Nat.lt_trans hq0 (by omega)
  have hq3 : @LT.lt Nat _ (L + 9) P.S := Nat.lt_trans hq0 (by omega)
  have hq4 : @LT.lt Nat _ (L + 9) P.cL := Nat.lt_trans hq0 (by omega)
  have hq5 : @LT.lt Nat _ (L + 9) P.Lm := Nat.lt_trans hq0 (by omega)
  have hq6 : @LT.lt Nat _ (L + 9) P.dX := Nat.lt_trans hq0 (by omega)
  have hq7 : @LT.lt Nat _ (L + 9) P.X := Nat.lt_trans hq0 (by omega)
  have hq8 : @LT.lt Nat _ (L + 9) P.PB := Nat.lt_trans hq0 (by omega)
  have hq9 : @LT.lt Nat _ (L + 9) D4 := Nat.lt_trans hq8 hD4
  have hqA : @LT.lt Nat _ (L + 9) D3 := Nat.lt_trans hq9 hD3
  simp only [LexL, List.cons_append, List.nil_append] at N9
  (repeat' (first | (with_reducible refine if_ff ?_) | (with_reducible refine if_tt ?_) | (k_unfold; (try dsimp only)) | (k_end; wrow_close) | (cell_step; walk1) | (cell_step; dsimp only; walk1) | (leave1; walk_say "STEP leave1"; try dsimp only) | fail "no step"))
  rename Fr _ _ _ _ => F1
  rename News _ _ _ _ => N1
  rw [bindAll_eq hM] at F1
  exact hret _ _ _ _ F1 (news_tail N1) ⟨rfl, c, d, e, f, _, _, _, _, _, _, _, _, hc, hd, he, hf, by assumption, by assumption, by assumption, by assumption, rfl⟩
end Vstage7
theorem stage7 (w : World) (fa : Addr) (cd : Value) (L : Addr) (m : Str → Option Value) (tb : Led) (o1 o2 o3 o4 o5 o6 o7 o8 o9 : Obj) (D1 D2 D3 D4 S : Addr) (q3 q4 : Obj) (tcs : Str) (tt : Tok) (vs1 vs2 : List Value) (k1 k2 : Nat) (P : LexP) (O : LexOk P)
   (e6 : o6.data = .cell none) (e7 : o7.data = .cell none) (e8 : o8.data = .cell none) (e9 : o9.data = .cell none)
   (vs : List Value) (xs : List Int) (hi : IntsAre vs xs) (hl : xs.length ≤ 63) (hM : Has m (names5 D1 D4 S tcs tt)) (htop : topA (R3 L D1 D2 vs1 vs2 k1 k2 o1 o2 o3 o4 o5 o6 o7 o8 o9 []) ≤ P.cG) (hD4 : @LT.lt Nat _ P.PB D4) (hD3 : @LT.lt Nat _ D4 D3)
   (hD1 : offC L [] D1) (hD2 : offC L [] D2) (htb : ∀ i : Nat, i ≤ 9 → ∀ p ∈ tb, p.1 ≠ L + i) (lx : Led) (hlx : LexAny w P lx) :
  Stg w fa cd L 11 1 (fun h => h.IsList S vs.toArray) m (lx ++ ((D4, q4) :: (D3, q3) :: R3 L D1 D2 vs1 vs2 k1 k2 o1 o2 o3 o4 o5 o6 o7 o8 o9 tb))
    (P7 L m tb o1 o2 o3 o4 o5 D1 D2 D3 D4 q3 q4 vs1 vs2 k1 k2 lx) := stg_of fun z => (show Vstage7.At0 w fa cd L m tb o1 o2 o3 o4 o5 o6 o7 o8 o9 D1 D2 D3 D4 S q3 q4 tcs tt vs1 vs2 k1 k2 P vs xs z from eps1_all (P := Vstage7.AtX) @Vstage7.aux (w, fa, cd, L, m, tb, o1, o2, o3, o4, o5, o6, o7, o8, o9, D1, D2, D3, D4, S, q3, q4, tcs, tt, vs1, vs2, k1, k2, P, vs, xs, z)) O e6 e7 e8 e9 hi hl hM htop hD4 hD3 hD1 hD2 htb lx hlx
end
end
section
local macro_rules | `(tactic| cell_step) => `(tactic| (walk_at "s1"; walk_at "s2"; walk_at "t2"))
local macro_rules | `(tactic| walk_at "newList") => `(tactic| walk_at "t3")
local macro_rules | `(tactic| walk_at "newTuple") => `(tactic| walk_at "t4")
section
section
variable {prog : Program} {w : World} {A : Around} {h₀ : Heap} {L : Addr} {m : Str → Option Value} {env : Env} {elt : Expr} {x x₂ : Str} {scope : Scope} {cl : List (Str × Addr)} {s : Shared} {S : List (Addr × Obj) → Prop} {P : Nat → Value → Prop} {Fin : List Value → List (Addr × Obj) → Prop}
theorem comp_indP {n : Nat} {news : Led} (Inv : Nat → List Value → Led → Prop) (h0 : Inv 0 [] news)
    (turn : ∀ i v ys news, i < n → P i v → Inv i ys news → ∃ (t : Addr) (ot : Obj) (v₁ v₂ : Value) (nt : Nat), v = .ref t ∧ (t, ot) ∈ news ∧ ot.cls = .type "tuple" ∧ ot.data = .seq #[v₁, v₂] nt ∧ ∀ I oI C oC D m₂ h tk (E' : Value → Shared → Prop), LCg.NsObj oC m₂ → m₂ x = some v₁ → m₂ x₂ = some v₂ → Fr h₀ L h m → News h₀ L h ((I, oI) :: (C, oC) :: (D, LCg.lst ys) :: news) → LCg.Off3 I C D news → ((@Ne Nat I C) ∧ (@Ne Nat I D) ∧ (@Ne Nat C D)) →
      wpAny (model prog w) A (eval elt (compEnvC scope cl C env)) (LCg.CompEnd h₀ L m { s with heap := h, toks := tk } I oI C oC D (LCg.lst ys) S (fun y news' => Inv (i + 1) (ys ++ [y]) news')) E' { s with heap := h, toks := tk })
    (fin : ∀ ys news, Inv n ys news → Fin ys news) : LCp.CompRestP prog w A h₀ L m env elt x x₂ scope cl s S P Fin n 0 [] news := by
  have key : ∀ (j i : Nat) (ys : List Value) (news : Led), i + j = n → Inv i ys news → LCp.CompRestP prog w A h₀ L m env elt x x₂ scope cl s S P Fin j i ys news := by
    intro j
    induction j with
    | zero =>
      intro i ys news hi hy
      have e : i = n := by omega
      subst e
      exact LCp.CompRestP.zero (fin ys news hy)
    | succ j ih =>
      intro i ys news hi hy
      refine LCp.CompRestP.succ ?_
      intro v hv
      obtain ⟨t, ot, v₁, v₂, nt, e1, e2, e3, e4, H⟩ := turn i v ys news (by omega) hv hy
      refine ⟨t, ot, v₁, v₂, nt, e1, e2, e3, e4, ?_⟩
      intro I oI C oC D m₂ h tk E' hC hx hx2 F N off ne
      refine wpAny_mono (H I oI C oC D m₂ h tk E' hC hx hx2 F N off ne) (fun y s₂ hq => ?_) fun _ _ e => e
      obtain ⟨h', tk', nw, e, F', N', off', hS, hi'⟩ := hq
      exact ⟨h', tk', nw, e, F', N', off', hS, ih (i + 1) _ nw (by omega) hi'⟩
  exact key n 0 [] news (by omega) h0
end
theorem PairsAre.get {rs : List Value} {TL : Led} {ps : List (List Nat × List Nat)} (h : PairsAre rs TL ps) : ∀ {i : Nat} {v : Value}, rs[i]? = some v → ∃ T f e t t', v = .ref T ∧ (T, tupO [.str (tx f) t, .str (tx e) t']) ∈ TL ∧ ps[i]? = some (f, e) := by
  induction h with
  | nil => intro i v e; simp at e
  | @snoc rs TL ps h T f e t t' ih =>
    intro i v hv
    have hl := h.length
    rcases Nat.lt_trichotomy i rs.length with hlt | heq | hgt
    · rw [List.getElem?_append_left hlt] at hv
      obtain ⟨T', f', e', a, b, h1, h2, h3⟩ := ih hv
      exact ⟨T', f', e', a, b, h1, .tail _ h2, by rw [List.getElem?_append_left (by omega)]; exact h3⟩
    · subst heq
      rw [List.getElem?_append_right (Nat.le_refl _), Nat.sub_self] at hv
      simp at hv
      exact ⟨T, f, e, t, t', hv.symm, .head _, by rw [List.getElem?_append_right (by omega), hl, Nat.sub_self]; rfl⟩
    · rw [List.getElem?_eq_none (by simp; omega)] at hv
      cases hv
noncomputable abbrev R4 (L D1 D4 : Addr) (vs1 rs : List Value) (k1 kk : Nat) (o1 o2 o3 o4 o5 o6 o7 o8 o9 : Obj) (tb TL : Led) : Led := (D4, W.listOf rs.toArray kk) :: (D1, W.listOf vs1.toArray k1) :: cells9 L o1 o2 o3 o4 o5 o6 o7 o8 o9 (tb ++ TL)
inductive P8 (L : Addr) (tb : Led) (TL : Led) (o1 : Obj) (o2 : Obj) (o3 : Obj) (o4 : Obj) (o5 : Obj) (o6 : Obj) (o7 : Obj) (o8 : Obj) (o9 : Obj) (D1 : Addr) (D4 : Addr) (S : Addr) (tcs : Str) (tt : Tok) (vs1 : List Value) (rs : List Value) (k1 : Nat) (kk : Nat) (u : Nat) (v : Nat) (ps : List (List Nat × List Nat)) (m' : Str → Option Value) (news' : Led) : Prop
  | mk (Dw : Addr) (wsv : List Value) (kw : Nat) (zh1 : Has m' ((Str.ofString "words", .ref Dw) :: names5 D1 D4 S tcs tt)) (zh2 : TextsAre wsv ([u] :: [v] :: ps.map fun p => p.1 ++ p.2)) (zh3 : topA (R4 L D1 D4 vs1 rs k1 kk o1 o2 o3 o4 o5 o6 o7 o8 o9 tb TL) ≤ Dw) (zh4 : news' = (Dw, PySem.W.listOf wsv.toArray kw) :: R4 L D1 D4 vs1 rs k1 kk o1 o2 o3 o4 o5 o6 o7 o8 o9 tb TL)
namespace Vstage8
noncomputable def At0 (w : World) (fa : Addr) (cd : Value) (L : Addr) (m : Str → Option Value) (tb : Led) (TL : Led) (o1 : Obj) (o2 : Obj) (o3 : Obj) (o4 : Obj) (o5 : Obj) (o6 : Obj) (o7 : Obj) (o8 : Obj) (o9 : Obj) (D1 : Addr) (D4 : Addr) (S : Addr) (tcs : Str) (tt : Tok) (vs1 : List Value) (rs : List Value) (k1 : Nat) (kk : Nat) (u : Nat) (v : Nat) (t2 : Tok) (t3 : Tok) (ps : List (List Nat × List Nat)) (z : StgV) : Prop := ∀ (e2 : o2.data = .cell (some (.str (tx [u]) t2))) (e3 : o3.data = .cell (some (.str (tx [v]) t3))) (hps : PairsAre rs TL ps) (hlen : ∀ p ∈ ps, p.1.length + p.2.length ≤ 16) (hpl : ps.length = 4) (hM : Has m (names5 D1 D4 S tcs tt)), StgAt w fa cd L 12 1 (fun h => True) m (R4 L D1 D4 vs1 rs k1 kk o1 o2 o3 o4 o5 o6 o7 o8 o9 tb TL)
    (P8 L tb TL o1 o2 o3 o4 o5 o6 o7 o8 o9 D1 D4 S tcs tt vs1 rs k1 kk u v ps) z
noncomputable def AtX (x : (World) × (Addr) × (Value) × (Addr) × (Str → Option Value) × (Led) × (Led) × (Obj) × (Obj) × (Obj) × (Obj) × (Obj) × (Obj) × (Obj) × (Obj) × (Obj) × (Addr) × (Addr) × (Addr) × (Str) × (Tok) × (List Value) × (List Value) × (Nat) × (Nat) × (Nat) × (Nat) × (Tok) × (Tok) × (List (List Nat × List Nat)) × StgV) : Prop := At0 (x.1) (x.2.1) (x.2.2.1) (x.2.2.2.1) (x.2.2.2.2.1) (x.2.2.2.2.2.1) (x.2.2.2.2.2.2.1) (x.2.2.2.2.2.2.2.1) (x.2.2.2.2.2.2.2.2.1) (x.2.2.2.2.2.2.2.2.2.1) (x.2.2.2.2.2.2.2.2.2.2.1) (x.2.2.2.2.2.2.2.2.2.2.2.1) (x.2.2.2.2.2.2.2.2.2.2.2.2.1) (x.2.2.2.2.2.2.2.2.2.2.2.2.2.1) (x.2.2.2.2.2.2.2.2.2.2.2.2.2.2.1) (x.2.2.2.2.2.2.2.2.2.2.2.2.2.2.2.1) (x.2.2.2.2.2.2.2.2.2.2.2.2.2.2.2.2.1) (x.2.2.2.2.2.2.2.2.2.2.2.2.2.2.2.2.2.1) (x.2.2.2.2.2.2.2.2.2.2.2.2.2.2.2.2.2.2.1) (x.2.2.2.2.2.2.2.2.2.2.2.2.2.2.2.2.2.2.2.1) (x.2.2.2.2.2.2.2.2.2.2.2.2.2.2.2.2.2.2.2.2.1) (x.2.2.2.2.2.2.2.2.2.2.2.2.2.2.2.2.2.2.2.2.2.1) (x.2.2.2.2.2.2.2.2.2.2.2.2.2.2.2.2.2.2.2.2.2.2.1) (x.2.2.2.2.2.2.2.2.2.2.2.2.2.2.2.2.2.2.2.2.2.2.2.1) (x.2.2.2.2.2.2.2.2.2.2.2.2.2.2.2.2.2.2.2.2.2.2.2.2.1) (x.2.2.2.2.2.2.2.2.2.2.2.2.2.2.2.2.2.2.2.2.2.2.2.2.2.1) (x.2.2.2.2.2.2.2.2.2.2.2.2.2.2.2.2.2.2.2.2.2.2.2.2.2.2.1) (x.2.2.2.2.2.2.2.2.2.2.2.2.2.2.2.2.2.2.2.2.2.2.2.2.2.2.2.1) (x.2.2.2.2.2.2.2.2.2.2.2.2.2.2.2.2.2.2.2.2.2.2.2.2.2.2.2.2.1) (x.2.2.2.2.2.2.2.2.2.2.2.2.2.2.2.2.2.2.2.2.2.2.2.2.2.2.2.2.2.1) (x.2.2.2.2.2.2.2.2.2.2.2.2.2.2.2.2.2.2.2.2.2.2.2.2.2.2.2.2.2.2)
noncomputable def cc0 : (World) × (Addr) × (Value) × (Addr) × (Str → Option Value) × (Led) × (Led) × (Obj) × (Obj) × (Obj) × (Obj) × (Obj) × (Obj) × (Obj) × (Obj) × (Obj) × (Addr) × (Addr) × (Addr) × (Str) × (Tok) × (List Value) × (List Value) × (Nat) × (Nat) × (Nat) × (Nat) × (Tok) × (Tok) × (List (List Nat × List Nat)) × StgV := eps1 (ne_prod ne_world (ne_prod ne_addr (ne_prod ne_value (ne_prod ne_addr (ne_prod ne_par (ne_prod ne_led (ne_prod ne_led (ne_prod ne_obj (ne_prod ne_obj (ne_prod ne_obj (ne_prod ne_obj (ne_prod ne_obj (ne_prod ne_obj (ne_prod ne_obj (ne_prod ne_obj (ne_prod ne_obj (ne_prod ne_addr (ne_prod ne_addr (ne_prod ne_addr (ne_prod ne_str (ne_prod ne_tok (ne_prod ne_list (ne_prod ne_list (ne_prod ne_nat (ne_prod ne_nat (ne_prod ne_nat (ne_prod ne_nat (ne_prod ne_tok (ne_prod ne_tok (ne_prod ne_list stgV_ne)))))))))))))))))))))))))))))) AtX
noncomputable def w : World := cc0.1
noncomputable def fa : Addr := cc0.2.1
noncomputable def cd : Value := cc0.2.2.1
noncomputable def L : Addr := cc0.2.2.2.1
noncomputable def m : Str → Option Value := cc0.2.2.2.2.1
noncomputable def tb : Led := cc0.2.2.2.2.2.1
noncomputable def TL : Led := cc0.2.2.2.2.2.2.1
noncomputable def o1 : Obj := cc0.2.2.2.2.2.2.2.1
noncomputable def o2 : Obj := cc0.2.2.2.2.2.2.2.2.1
noncomputable def o3 : Obj := cc0.2.2.2.2.2.2.2.2.2.1
noncomputable def o4 : Obj := cc0.2.2.2.2.2.2.2.2.2.2.1
noncomputable def o5 : Obj := cc0.2.2.2.2.2.2.2.2.2.2.2.1
noncomputable def o6 : Obj := cc0.2.2.2.2.2.2.2.2.2.2.2.2.1
noncomputable def o7 : Obj := cc0.2.2.2.2.2.2.2.2.2.2.2.2.2.1
noncomputable def o8 : Obj := cc0.2.2.2.2.2.2.2.2.2.2.2.2.2.2.1
noncomputable def o9 : Obj := cc0.2.2.2.2.2.2.2.2.2.2.2.2.2.2.2.1
noncomputable def D1 : Addr := cc0.2.2.2.2.2.2.2.2.2.2.2.2.2.2.2.2.1
noncomputable def D4 : Addr := cc0.2.2.2.2.2.2.2.2.2.2.2.2.2.2.2.2.2.1
noncomputable def S : Addr := cc0.2.2.2.2.2.2.2.2.2.2.2.2.2.2.2.2.2.2.1
noncomputable def tcs : Str := cc0.2.2.2.2.2.2.2.2.2.2.2.2.2.2.2.2.2.2.2.1
noncomputable def tt : Tok := cc0.2.2.2.2.2.2.2.2.2.2.2.2.2.2.2.2.2.2.2.2.1
noncomputable def vs1 : List Value := cc0.2.2.2.2.2.2.2.2.2.2.2.2.2.2.2.2.2.2.2.2.2.1
noncomputable def rs : List Value := cc0.2.2.2.2.2.2.2.2.2.2.2.2.2.2.2.2.2.2.2.2.2.2.1
noncomputable def k1 : Nat := cc0.2.2.2.2.2.2.2.2.2.2.2.2.2.2.2.2.2.2.2.2.2.2.2.1
noncomputable def kk : Nat := cc0.2.2.2.2.2.2.2.2.2.2.2.2.2.2.2.2.2.2.2.2.2.2.2.2.1
noncomputable def u : Nat := cc0.2.2.2.2.2.2.2.2.2.2.2.2.2.2.2.2.2.2.2.2.2.2.2.2.2.1
noncomputable def v : Nat := cc0.2.2.2.2.2.2.2.2.2.2.2.2.2.2.2.2.2.2.2.2.2.2.2.2.2.2.1
noncomputable def t2 : Tok := cc0.2.2.2.2.2.2.2.2.2.2.2.2.2.2.2.2.2.2.2.2.2.2.2.2.2.2.2.1
noncomputable def t3 : Tok := cc0.2.2.2.2.2.2.2.2.2.2.2.2.2.2.2.2.2.2.2.2.2.2.2.2.2.2.2.2.1
noncomputable def ps : List (List Nat × List Nat) := cc0.2.2.2.2.2.2.2.2.2.2.2.2.2.2.2.2.2.2.2.2.2.2.2.2.2.2.2.2.2.1
noncomputable def v0 : StgV := cc0.2.2.2.2.2.2.2.2.2.2.2.2.2.2.2.2.2.2.2.2.2.2.2.2.2.2.2.2.2.2
theorem aux (e2 : o2.data = .cell (some (.str (tx [u]) t2))) (e3 : o3.data = .cell (some (.str (tx [v]) t3))) (hps : PairsAre rs TL ps) (hlen : ∀ p ∈ ps, p.1.length + p.2.length ≤ 16) (hpl : ps.length = 4) (hM : Has m (names5 D1 D4 S tcs tt)) :
  StgAt w fa cd L 12 1 (fun h => True) m (R4 L D1 D4 vs1 rs k1 kk o1 o2 o3 o4 o5 o6 o7 o8 o9 tb TL)
    (P8 L tb TL o1 o2 o3 o4 o5 o6 o7 o8 o9 D1 D4 S tcs tt vs1 rs k1 kk u v ps) v0 := by
  intro B F X N T C1 C2 C3 hE hS hret
  have F0 := fr_all0 hM F
  clear F
  (repeat' (first | (with_reducible refine if_ff ?_) | (with_reducible refine if_tt ?_) | (k_unfold; (try dsimp only)) | (k_end; wrow_close) | (cell_step; walk1) | (cell_step; dsimp only; walk1) | (leave1; walk_say "STEP leave1"; try dsimp only) | fail "no step"))
  rename Addr => l0
  rename Fr _ _ _ _ => F1
  rename News _ _ _ _ => N1
  refine LCp.ListComp_P (cl := []) F1 ?a1 ?a2 ?a3 ?a4 ?a5 ?a6 ?a7 ?_
  case a1 => with_unfolding_all rfl
  case a2 => decide
  case a3 => rfl
  case a4 => decide
  case a5 => rfl
  case a6 => rfl
  case a7 => decide
  (repeat' (first | (with_reducible refine if_ff ?_) | (with_reducible refine if_tt ?_) | (k_unfold; (try dsimp only)) | (k_end; wrow_close) | (cell_step; walk1) | (cell_step; dsimp only; walk1) | (leave1; walk_say "STEP leave1"; try dsimp only) | fail "no step"))
  rename Fr _ _ _ _ => F2
  rename News _ _ _ _ => N2
  have hrl := hps.length
  refine' LCp.SrcLP.ledger ?hh F2 N2 (.tail _ (.head _)) ?sz ?_
  case hh => exact rfl
  case sz => simp [sizeLine]; omega
  intro g9
  refine comp_indP (fun i ys nx => nx = (l0, PySem.W.listOf #[Value.str (tx [u]) t2, Value.str (tx [v]) t3] 0) :: R4 L D1 D4 vs1 rs k1 kk o1 o2 o3 o4 o5 o6 o7 o8 o9 tb TL ∧ TextsAre ys ((ps.take i).map fun p => p.1 ++ p.2)) ⟨rfl, .nil⟩ ?turn ?fin
  case turn =>
    rintro i v9 ys nx hi9 hv9 ⟨rfl, hys⟩
    obtain ⟨T9, f, e, t, t', rfl, hTm, hpi⟩ := hps.get (i := i) (v := v9) (by simpa using hv9)
    refine ⟨T9, _, _, _, _, rfl, .tail _ (.tail _ (.tail _ (.tail _ (.tail _ (.tail _ (.tail _ (.tail _ (.tail _ (.tail _ (.tail _ (.tail _ (List.mem_append_right _ hTm)))))))))))), rfl, rfl, ?_⟩
    intro I9 oI9 C9 oC9 D9 m₉ h9 tk9 E9 hC9 hx9 hx92 F10 N10 off9 ne9
    have hfl := hlen (f, e) (List.mem_of_getElem? hpi)
    (repeat' (first | (with_reducible refine if_ff ?_) | (with_reducible refine if_tt ?_) | (k_unfold; (try dsimp only)) | (k_end; wrow_close) | (cell_step; walk1) | (cell_step; dsimp only; walk1) | (leave1; walk_say "STEP leave1"; try dsimp only) | fail "no step"))
    refine PyProof.Rows.add_str (hsz := by simp only [tx_len]; exact Nat.le_trans hfl (Nat.le_of_ble_eq_true rfl)) ?_
    intro t4 k4
    (try dsimp only)
    rw [tx_append]
    (repeat' (first | (with_reducible refine if_ff ?_) | (with_reducible refine if_tt ?_) | (k_unfold; (try dsimp only)) | (k_end; wrow_close) | (cell_step; walk1) | (cell_step; dsimp only; walk1) | (leave1; walk_say "STEP leave1"; try dsimp only) | fail "no step"))
    rename Fr _ _ _ _ => F11
    rename News _ _ _ _ => N11
    refine LCg.CompEnd.intro F11 N11 _ (fun p hp => hp) off9 (.inr ⟨_, .tail _ (.head _), rfl, _, rfl⟩) ⟨rfl, ?_⟩
    rw [List.take_add_one, hpi]
    show TextsAre _ ((ps.take i ++ [(f, e)]).map _)
    rw [List.map_append]
    exact hys.append (.cons _ _ .nil)
  case fin =>
    rintro ys nx ⟨rfl, hys⟩
    rw [List.take_of_length_le (by simp; omega)] at hys
    have hyl := hys.length
    rw [List.length_map, hpl] at hyl
    unfold LCg.FinE
    intro D9 h9 tk9 F10 N10 off9
    (repeat' (first | (with_reducible refine if_ff ?_) | (with_reducible refine if_tt ?_) | (k_unfold; (try dsimp only)) | (k_end; wrow_close) | (cell_step; walk1) | (cell_step; dsimp only; walk1) | (leave1; walk_say "STEP leave1"; try dsimp only) | fail "no step"))
    refine cat_lists F10 N10 (News.isList N10 (.tail _ (.head _))) (News.isList N10 (.head _)) ?_ (by rw [hyl]; exact Nat.le_of_ble_eq_true rfl)
    intro Dw h3 F4 N4 l4
    simp only [topA_nil, topA_cons, topA_app, Nat.max_le, Nat.zero_le, true_and, and_true, List.cons_append, List.nil_append] at l4
    (try dsimp only)
    (repeat' (first | (with_reducible refine if_ff ?_) | (with_reducible refine if_tt ?_) | (k_unfold; (try dsimp only)) | (k_end; wrow_close) | (cell_step; walk1) | (cell_step; dsimp only; walk1) | (leave1; walk_say "STEP leave1"; try dsimp only) | fail "no step"))
    rename Fr _ _ _ _ => F5
    rename News _ _ _ _ => N5
    refine hret _ _ _ _ F5 (news_skip2 (news_skip2 N5)) ⟨Dw, _, _, ⟨rfl, rfl, rfl, rfl, rfl, trivial⟩, .cons _ _ (.cons _ _ hys), ?_, rfl⟩
    simp only [topA_nil, topA_cons, topA_app, Nat.max_le, Nat.zero_le, true_and, and_true, List.cons_append, List.nil_append]
    omega
end Vstage8
theorem stage8 (w : World) (fa : Addr) (cd : Value) (L : Addr) (m : Str → Option Value) (tb TL : Led) (o1 o2 o3 o4 o5 o6 o7 o8 o9 : Obj) (D1 D4 S : Addr) (tcs : Str) (tt : Tok) (vs1 rs : List Value) (k1 kk : Nat) (u v : Nat) (t2 t3 : Tok) (e2 : o2.data = .cell (some (.str (tx [u]) t2))) (e3 : o3.data = .cell (some (.str (tx [v]) t3)))
   (ps : List (List Nat × List Nat)) (hps : PairsAre rs TL ps) (hlen : ∀ p ∈ ps, p.1.length + p.2.length ≤ 16) (hpl : ps.length = 4) (hM : Has m (names5 D1 D4 S tcs tt)) :
  Stg w fa cd L 12 1 (fun h => True) m (R4 L D1 D4 vs1 rs k1 kk o1 o2 o3 o4 o5 o6 o7 o8 o9 tb TL)
    (P8 L tb TL o1 o2 o3 o4 o5 o6 o7 o8 o9 D1 D4 S tcs tt vs1 rs k1 kk u v ps) := stg_of fun z => (show Vstage8.At0 w fa cd L m tb TL o1 o2 o3 o4 o5 o6 o7 o8 o9 D1 D4 S tcs tt vs1 rs k1 kk u v t2 t3 ps z from eps1_all (P := Vstage8.AtX) @Vstage8.aux (w, fa, cd, L, m, tb, TL, o1, o2, o3, o4, o5, o6, o7, o8, o9, D1, D4, S, tcs, tt, vs1, rs, k1, kk, u, v, t2, t3, ps, z)) e2 e3 hps hlen hpl hM
end
section
section
variable {prog : Program} {w : World} {A : Around} {h₀ : Heap} {L : Addr} {m : Str → Option Value} {env : Env} {iter2 : Expr} {x : Str} {scope : Scope} {cl : List (Str × Addr)} {s : Shared} {S : List (Addr × Obj) → Prop} {P : Nat → Value → Prop} {Fin : List Value → List (Addr × Obj) → Prop}
theorem comp_ind2 {n : Nat} {news : Led} (Inv : Nat → List Value → Led → Prop) (h0 : Inv 0 [] news)
    (turn : ∀ i v ys news, i < n → P i v → Inv i ys news → ∀ I oI C oC D m₂ h tk (E' : Value → Shared → Prop), LCg.NsObj oC m₂ → m₂ x = some v → Fr h₀ L h m → News h₀ L h ((I, oI) :: (C, oC) :: (D, LCg.lst ys) :: news) → LCg.Off3 I C D news → ((@Ne Nat I C) ∧ (@Ne Nat I D) ∧ (@Ne Nat C D)) →
      wpAny (model prog w) A (eval iter2 (compEnvC scope cl C env)) (LCg.CompEnd h₀ L m { s with heap := h, toks := tk } I oI C oC D (LCg.lst ys) S (fun xv news' => ∃ us, Items xv us news' ∧ ys.length + us.length ≤ sizeLine ∧ Inv (i + 1) (ys ++ us) news')) E' { s with heap := h, toks := tk })
    (fin : ∀ ys news, Inv n ys news → Fin ys news) : CompRest2 prog w A h₀ L m env iter2 x scope cl s S P Fin n 0 [] news := by
  have key : ∀ (j i : Nat) (ys : List Value) (news : Led), i + j = n → Inv i ys news → CompRest2 prog w A h₀ L m env iter2 x scope cl s S P Fin j i ys news := by
    intro j
    induction j with
    | zero =>
      intro i ys news hi hy
      have e : i = n := by omega
      subst e
      exact fin ys news hy
    | succ j ih =>
      intro i ys news hi hy
      intro v I oI C oC D m₂ h tk E' hv hC hx F N off ne
      refine wpAny_mono (turn i v ys news (by omega) hv hy I oI C oC D m₂ h tk E' hC hx F N off ne) (fun y s₂ hq => ?_) fun _ _ e => e
      obtain ⟨h', tk', nw, e, F', N', off', hS, us, h1, h2, hi'⟩ := hq
      exact ⟨h', tk', nw, e, F', N', off', hS, us, h1, h2, ih (i + 1) _ nw (by omega) hi'⟩
  exact key n 0 [] news (by omega) h0
end
theorem texts_at {vs : List Value} {ws : List (List Nat)} (h : TextsAre vs ws) : ∀ {i : Nat} {v : Value}, vs[i]? = some v → ∃ w t, v = .str (tx w) t ∧ ws[i]? = some w := by
  induction h with
  | nil => intro i v e; simp at e
  | cons w t h ih =>
    intro i v e
    cases i with
    | zero =>
      rw [List.getElem?_cons_zero] at e
      exact ⟨w, t, (Option.some.inj e).symm, rfl⟩
    | succ i =>
      rw [List.getElem?_cons_succ] at e ⊢
      exact ih e
theorem off1_mem {D : Addr} {l : Led} (h : LCg.Off1 D l) : ∀ p ∈ l, p.1 ≠ D := fun p hp => off1_own h p hp D (List.mem_singleton.mpr rfl)
theorem perm3 {h₀ h : Heap} {L : Addr} {a b c : Addr × Obj} {K nx : Led} (N : News h₀ L h (a :: b :: c :: nx)) (hs : ∀ p ∈ K, p ∈ nx) : News h₀ L h (a :: b :: c :: K) := news_perm N fun p hp => by
  rcases List.mem_cons.mp hp with rfl | hp
  · exact .head _
  rcases List.mem_cons.mp hp with rfl | hp
  · exact .tail _ (.head _)
  rcases List.mem_cons.mp hp with rfl | hp
  · exact .tail _ (.tail _ (.head _))
  · exact .tail _ (.tail _ (.tail _ (hs p hp)))
theorem sub4 {a b c t : Addr × Obj} {K nx : Led} (h : ∀ p ∈ nx, p ∈ K) : ∀ p ∈ a :: b :: c :: t :: nx, p ∈ t :: a :: b :: c :: K := fun p hp => by
  rcases List.mem_cons.mp hp with rfl | hp
  · exact .tail _ (.head _)
  rcases List.mem_cons.mp hp with rfl | hp
  · exact .tail _ (.tail _ (.head _))
  rcases List.mem_cons.mp hp with rfl | hp
  · exact .tail _ (.tail _ (.tail _ (.head _)))
  rcases List.mem_cons.mp hp with rfl | hp
  · exact .head _
  · exact .tail _ (.tail _ (.tail _ (.tail _ (h p hp))))
theorem mem_cons_all {q : Addr × Obj} {K nx : Led} (h : q ∈ nx) (k : ∀ p ∈ K, p ∈ nx) : ∀ p ∈ q :: K, p ∈ nx := fun p hp => by
  rcases List.mem_cons.mp hp with rfl | hp
  · exact h
  · exact k p hp
theorem r4_app {L D1 D4 : Addr} {vs1 rs : List Value} {k1 kk : Nat} {o1 o2 o3 o4 o5 o6 o7 o8 o9 : Obj} {tb TL nx : Led} : R4 L D1 D4 vs1 rs k1 kk o1 o2 o3 o4 o5 o6 o7 o8 o9 tb (TL ++ nx) = R4 L D1 D4 vs1 rs k1 kk o1 o2 o3 o4 o5 o6 o7 o8 o9 tb TL ++ nx := by
  show (D4, W.listOf rs.toArray kk) :: (D1, W.listOf vs1.toArray k1) :: cells9 L o1 o2 o3 o4 o5 o6 o7 o8 o9 (tb ++ (TL ++ nx)) = _
  rw [← List.append_assoc]
  rfl
theorem r4_more {L D1 D4 : Addr} {vs1 rs : List Value} {k1 kk : Nat} {o1 o2 o3 o4 o5 o6 o7 o8 o9 : Obj} {tb TL nx : Led} (h : ∀ p ∈ R4 L D1 D4 vs1 rs k1 kk o1 o2 o3 o4 o5 o6 o7 o8 o9 tb TL, p ∈ nx) : ∀ p ∈ R4 L D1 D4 vs1 rs k1 kk o1 o2 o3 o4 o5 o6 o7 o8 o9 tb (TL ++ nx), p ∈ nx := by
  intro p hp
  rw [r4_app] at hp
  rcases List.mem_append.mp hp with hp | hp
  · exact h p hp
  · exact hp
theorem r4_in {L D1 D4 : Addr} {vs1 rs : List Value} {k1 kk : Nat} {o1 o2 o3 o4 o5 o6 o7 o8 o9 : Obj} {tb TL nx : Led} : ∀ p ∈ nx, p ∈ R4 L D1 D4 vs1 rs k1 kk o1 o2 o3 o4 o5 o6 o7 o8 o9 tb (TL ++ nx) := by
  intro p hp
  rw [r4_app]
  exact List.mem_append_right _ hp
noncomputable def rowOf (u : Nat) (c d e f : Int) (ws : List Nat) : List Int := ws.flatMap fun z => if z = u then [c, d] else [e, f]
theorem rowOf_snoc (u : Nat) (c d e f : Int) (ws : List Nat) (z : Nat) : rowOf u c d e f (ws ++ [z]) = rowOf u c d e f ws ++ if z = u then [c, d] else [e, f] := by
  unfold rowOf; rw [List.flatMap_append]; simp
theorem rowOf_len (u : Nat) (c d e f : Int) : ∀ ws : List Nat, (rowOf u c d e f ws).length = 2 * ws.length
  | [] => rfl
  | z :: r => by
    have ih := rowOf_len u c d e f r
    unfold rowOf at ih ⊢
    rw [List.flatMap_cons, List.length_append, ih, List.length_cons]
    split <;> simp only [List.length_cons, List.length_nil] <;> omega
inductive RowsIn : List Value → List (List Int) → Led → Prop
  | nil {a : Led} : RowsIn [] [] a
  | snoc {ys : List Value} {qs : List (List Int)} {a : Led} (h : RowsIn ys qs a) (D : Addr) (vs : List Value) (q : List Int) (hm : (D, LCg.lst vs) ∈ a) (hi : IntsAre vs q) : RowsIn (ys ++ [.ref D]) (qs ++ [q]) a
theorem RowsIn.mono {ys : List Value} {qs : List (List Int)} {a b : Led} (h : RowsIn ys qs a) (k : ∀ p ∈ a, p ∈ b) : RowsIn ys qs b := by
  induction h with
  | nil => exact .nil
  | snoc h D vs q hm hi ih => exact .snoc (ih k) D vs q (k _ hm) hi
theorem RowsIn.length {ys : List Value} {qs : List (List Int)} {a : Led} (h : RowsIn ys qs a) : ys.length = qs.length := by
  induction h with
  | nil => rfl
  | snoc h D vs q hm hi ih => simp [ih]
theorem RowsIn.get {ys : List Value} {qs : List (List Int)} {a : Led} (h : RowsIn ys qs a) : ∀ {i : Nat} {v : Value}, ys[i]? = some v → ∃ D vs q, v = .ref D ∧ (D, LCg.lst vs) ∈ a ∧ IntsAre vs q ∧ qs[i]? = some q := by
  induction h with
  | nil => intro i v e; simp at e
  | @snoc ys qs a h D vs q hm hi ih =>
    intro i v hv
    have hl := h.length
    rcases Nat.lt_trichotomy i ys.length with hlt | heq | hgt
    · rw [List.getElem?_append_left hlt] at hv
      obtain ⟨D', vs', q', h1, h2, h3, h4⟩ := ih hv
      exact ⟨D', vs', q', h1, h2, h3, by rw [List.getElem?_append_left (by omega)]; exact h4⟩
    · subst heq
      rw [List.getElem?_append_right (Nat.le_refl _), Nat.sub_self, List.getElem?_cons_zero] at hv
      exact ⟨D, vs, q, (Option.some.inj hv).symm, hm, hi, by rw [List.getElem?_append_right (by omega), hl, Nat.sub_self]; rfl⟩
    · rw [List.getElem?_eq_none (by rw [List.length_append, List.length_singleton]; omega)] at hv
      cases hv
inductive P9 (L : Addr) (tb : Led) (TL : Led) (o1 : Obj) (o2 : Obj) (o3 : Obj) (o4 : Obj) (o5 : Obj) (o6 : Obj) (o7 : Obj) (o8 : Obj) (o9 : Obj) (D1 : Addr) (D4 : Addr) (S : Addr) (tcs : Str) (tt : Tok) (vs1 : List Value) (rs : List Value) (k1 : Nat) (kk : Nat) (u : Nat) (c : Int) (d : Int) (e : Int) (f : Int) (Ws : List (List Nat)) (m' : Str → Option Value) (news' : Led) : Prop
  | mk (Dr : Addr) (ysr : List Value) (nx : Led) (zh1 : Has m' ((Str.ofString "rows", .ref Dr) :: names5 D1 D4 S tcs tt)) (zh2 : RowsIn ysr (Ws.map (rowOf u c d e f)) nx) (zh3 : (∀ p ∈ R4 L D1 D4 vs1 rs k1 kk o1 o2 o3 o4 o5 o6 o7 o8 o9 tb (TL ++ nx), p.1 ≠ Dr)) (zh4 : news' = (Dr, LCg.lst ysr) :: R4 L D1 D4 vs1 rs k1 kk o1 o2 o3 o4 o5 o6 o7 o8 o9 tb (TL ++ nx))
namespace Vstage9
noncomputable def At0 (w : World) (fa : Addr) (cd : Value) (L : Addr) (m : Str → Option Value) (tb : Led) (TL : Led) (o1 : Obj) (o2 : Obj) (o3 : Obj) (o4 : Obj) (o5 : Obj) (o6 : Obj) (o7 : Obj) (o8 : Obj) (o9 : Obj) (D1 : Addr) (D4 : Addr) (Dw : Addr) (S : Addr) (tcs : Str) (tt : Tok) (vs1 : List Value) (rs : List Value) (wsv : List Value) (k1 : Nat) (kk : Nat) (kw : Nat) (u : Nat) (v : Nat) (t2 : Tok) (t3 : Tok) (c : Int) (d : Int) (e : Int) (f : Int) (tc : Tok) (td : Tok) (te : Tok) (tf : Tok) (Ws : List (List Nat)) (z : StgV) : Prop := ∀ (e2 : o2.data = .cell (some (.str (tx [u]) t2))) (e3 : o3.data = .cell (some (.str (tx [v]) t3))) (e6 : o6.data = .cell (some (.int c tc))) (e7 : o7.data = .cell (some (.int d td))) (e8 : o8.data = .cell (some (.int e te))) (e9 : o9.data = .cell (some (.int f tf))) (hWs : TextsAre wsv Ws) (hlen : ∀ p ∈ Ws, p.length ≤ 16) (hWl : Ws.length = 6) (hM : Has m ((Str.ofString "words", .ref Dw) :: names5 D1 D4 S tcs tt)), StgAt w fa cd L 13 1 (fun h => True) m ((Dw, PySem.W.listOf wsv.toArray kw) :: R4 L D1 D4 vs1 rs k1 kk o1 o2 o3 o4 o5 o6 o7 o8 o9 tb TL)
    (P9 L tb TL o1 o2 o3 o4 o5 o6 o7 o8 o9 D1 D4 S tcs tt vs1 rs k1 kk u c d e f Ws) z
noncomputable def AtX (x : (World) × (Addr) × (Value) × (Addr) × (Str → Option Value) × (Led) × (Led) × (Obj) × (Obj) × (Obj) × (Obj) × (Obj) × (Obj) × (Obj) × (Obj) × (Obj) × (Addr) × (Addr) × (Addr) × (Addr) × (Str) × (Tok) × (List Value) × (List Value) × (List Value) × (Nat) × (Nat) × (Nat) × (Nat) × (Nat) × (Tok) × (Tok) × (Int) × (Int) × (Int) × (Int) × (Tok) × (Tok) × (Tok) × (Tok) × (List (List Nat)) × StgV) : Prop := At0 (x.1) (x.2.1) (x.2.2.1) (x.2.2.2.1) (x.2.2.2.2.1) (x.2.2.2.2.2.1) (x.2.2.2.2.2.2.1) (x.2.2.2.2.2.2.2.1) (x.2.2.2.2.2.2.2.2.1) (x.2.2.2.2.2.2.2.2.2.1) (x.2.2.2.2.2.2.2.2.2.2.1) (x.2.2.2.2.2.2.2.2.2.2.2.1) (x.2.2.2.2.2.2.2.2.2.2.2.2.1) (x.2.2.2.2.2.2.2.2.2.2.2.2.2.1) (x.2.2.2.2.2.2.2.2.2.2.2.2.2.2.1) (x.2.2.2.2.2.2.2.2.2.2.2.2.2.2.2.1) (x.2.2.2.2.2.2.2.2.2.2.2.2.2.2.2.2.1) (x.2.2.2.2.2.2.2.2.2.2.2.2.2.2.2.2.2.1) (x.2.2.2.2.2.2.2.2.2.2.2.2.2.2.2.2.2.2.1) (x.2.2.2.2.2.2.2.2.2.2.2.2.2.2.2.2.2.2.2.1) (x.2.2.2.2.2.2.2.2.2.2.2.2.2.2.2.2.2.2.2.2.1) (x.2.2.2.2.2.2.2.2.2.2.2.2.2.2.2.2.2.2.2.2.2.1) (x.2.2.2.2.2.2.2.2.2.2.2.2.2.2.2.2.2.2.2.2.2.2.1) (x.2.2.2.2.2.2.2.2.2.2.2.2.2.2.2.2.2.2.2.2.2.2.2.1) (x.2.2.2.2.2.2.2.2.2.2.2.2.2.2.2.2.2.2.2.2.2.2.2.2.1) (x.2.2.2.2.2.2.2.2.2.2.2.2.2.2.2.2.2.2.2.2.2.2.2.2.2.1) (x.2.2.2.2.2.2.2.2.2.2.2.2.2.2.2.2.2.2.2.2.2.2.2.2.2.2.1) (x.2.2.2.2.2.2.2.2.2.2.2.2.2.2.2.2.2.2.2.2.2.2.2.2.2.2.2.1) (x.2.2.2.2.2.2.2.2.2.2.2.2.2.2.2.2.2.2.2.2.2.2.2.2.2.2.2.2.1) (x.2.2.2.2.2.2.2.2.2.2.2.2.2.2.2.2.2.2.2.2.2.2.2.2.2.2.2.2.2.1) (x.2.2.2.2.2.2.2.2.2.2.2.2.2.2.2.2.2.2.2.2.2.2.2.2.2.2.2.2.2.2.1) (x.2.2.2.2.2.2.2.2.2.2.2.2.2.2.2.2.2.2.2.2.2.2.2.2.2.2.2.2.2.2.2.1) (x.2.2.2.2.2.2.2.2.2.2.2.2.2.2.2.2.2.2.2.2.2.2.2.2.2.2.2.2.2.2.2.2.1) (x.2.2.2.2.2.2.2.2.2.2.2.2.2.2.2.2.2.2.2.2.2.2.2.2.2.2.2.2.2.2.2.2.2.1) (x.2.2.2.2.2.2.2.2.2.2.2.2.2.2.2.2.2.2.2.2.2.2.2.2.2.2.2.2.2.2.2.2.2.2.1) (x.2.2.2.2.2.2.2.2.2.2.2.2.2.2.2.2.2.2.2.2.2.2.2.2.2.2.2.2.2.2.2.2.2.2.2.1) (x.2.2.2.2.2.2.2.2.2.2.2.2.2.2.2.2.2.2.2.2.2.2.2.2.2.2.2.2.2.2.2.2.2.2.2.2.1) (x.2.2.2.2.2.2.2.2.2.2.2.2.2.2.2.2.2.2.2.2.2.2.2.2.2.2.2.2.2.2.2.2.2.2.2.2.2.1) (x.2.2.2.2.2.2.2.2.2.2.2.2.2.2.2.2.2.2.2.2.2.2.2.2.2.2.2.2.2.2.2.2.2.2.2.2.2.2.1) (x.2.2.2.2.2.2.2.2.2.2.2.2.2.2.2.2.2.2.2.2.2.2.2.2.2.2.2.2.2.2.2.2.2.2.2.2.2.2.2.1) (x.2.2.2.2.2.2.2.2.2.2.2.2.2.2.2.2.2.2.2.2.2.2.2.2.2.2.2.2.2.2.2.2.2.2.2.2.2.2.2.2.1) (x.2.2.2.2.2.2.2.2.2.2.2.2.2.2.2.2.2.2.2.2.2.2.2.2.2.2.2.2.2.2.2.2.2.2.2.2.2.2.2.2.2)
noncomputable def cc0 : (World) × (Addr) × (Value) × (Addr) × (Str → Option Value) × (Led) × (Led) × (Obj) × (Obj) × (Obj) × (Obj) × (Obj) × (Obj) × (Obj) × (Obj) × (Obj) × (Addr) × (Addr) × (Addr) × (Addr) × (Str) × (Tok) × (List Value) × (List Value) × (List Value) × (Nat) × (Nat) × (Nat) × (Nat) × (Nat) × (Tok) × (Tok) × (Int) × (Int) × (Int) × (Int) × (Tok) × (Tok) × (Tok) × (Tok) × (List (List Nat)) × StgV := eps1 (ne_prod ne_world (ne_prod ne_addr (ne_prod ne_value (ne_prod ne_addr (ne_prod ne_par (ne_prod ne_led (ne_prod ne_led (ne_prod ne_obj (ne_prod ne_obj (ne_prod ne_obj (ne_prod ne_obj (ne_prod ne_obj (ne_prod ne_obj (ne_prod ne_obj (ne_prod ne_obj (ne_prod ne_obj (ne_prod ne_addr (ne_prod ne_addr (ne_prod ne_addr (ne_prod ne_addr (ne_prod ne_str (ne_prod ne_tok (ne_prod ne_list (ne_prod ne_list (ne_prod ne_list (ne_prod ne_nat (ne_prod ne_nat (ne_prod ne_nat (ne_prod ne_nat (ne_prod ne_nat (ne_prod ne_tok (ne_prod ne_tok (ne_prod ne_int (ne_prod ne_int (ne_prod ne_int (ne_prod ne_int (ne_prod ne_tok (ne_prod ne_tok (ne_prod ne_tok (ne_prod ne_tok (ne_prod ne_list stgV_ne))))))))))))))))))))))))))))))))))))))))) AtX
noncomputable def w : World := cc0.1
noncomputable def fa : Addr := cc0.2.1
noncomputable def cd : Value := cc0.2.2.1
noncomputable def L : Addr := cc0.2.2.2.1
noncomputable def m : Str → Option Value := cc0.2.2.2.2.1
noncomputable def tb : Led := cc0.2.2.2.2.2.1
noncomputable def TL : Led := cc0.2.2.2.2.2.2.1
noncomputable def o1 : Obj := cc0.2.2.2.2.2.2.2.1
noncomputable def o2 : Obj := cc0.2.2.2.2.2.2.2.2.1
noncomputable def o3 : Obj := cc0.2.2.2.2.2.2.2.2.2.1
noncomputable def o4 : Obj := cc0.2.2.2.2.2.2.2.2.2.2.1
noncomputable def o5 : Obj := cc0.2.2.2.2.2.2.2.2.2.2.2.1
noncomputable def o6 : Obj := cc0.2.2.2.2.2.2.2.2.2.2.2.2.1
noncomputable def o7 : Obj := cc0.2.2.2.2.2.2.2.2.2.2.2.2.2.1
noncomputable def o8 : Obj := cc0.2.2.2.2.2.2.2.2.2.2.2.2.2.2.1
noncomputable def o9 : Obj := cc0.2.2.2.2.2.2.2.2.2.2.2.2.2.2.2.1
noncomputable def D1 : Addr := cc0.2.2.2.2.2.2.2.2.2.2.2.2.2.2.2.2.1
noncomputable def D4 : Addr := cc0.2.2.2.2.2.2.2.2.2.2.2.2.2.2.2.2.2.1
noncomputable def Dw : Addr := cc0.2.2.2.2.2.2.2.2.2.2.2.2.2.2.2.2.2.2.1
noncomputable def S : Addr := cc0.2.2.2.2.2.2.2.2.2.2.2.2.2.2.2.2.2.2.2.1
noncomputable def tcs : Str := cc0.2.2.2.2.2.2.2.2.2.2.2.2.2.2.2.2.2.2.2.2.1
noncomputable def tt : Tok := cc0.2.2.2.2.2.2.2.2.2.2.2.2.2.2.2.2.2.2.2.2.2.1
noncomputable def vs1 : List Value := cc0.2.2.2.2.2.2.2.2.2.2.2.2.2.2.2.2.2.2.2.2.2.2.1
noncomputable def rs : List Value := cc0.2.2.2.2.2.2.2.2.2.2.2.2.2.2.2.2.2.2.2.2.2.2.2.1
noncomputable def wsv : List Value := cc0.2.2.2.2.2.2.2.2.2.2.2.2.2.2.2.2.2.2.2.2.2.2.2.2.1
noncomputable def k1 : Nat := cc0.2.2.2.2.2.2.2.2.2.2.2.2.2.2.2.2.2.2.2.2.2.2.2.2.2.1
noncomputable def kk : Nat := cc0.2.2.2.2.2.2.2.2.2.2.2.2.2.2.2.2.2.2.2.2.2.2.2.2.2.2.1
noncomputable def kw : Nat := cc0.2.2.2.2.2.2.2.2.2.2.2.2.2.2.2.2.2.2.2.2.2.2.2.2.2.2.2.1
noncomputable def u : Nat := cc0.2.2.2.2.2.2.2.2.2.2.2.2.2.2.2.2.2.2.2.2.2.2.2.2.2.2.2.2.1
noncomputable def v : Nat := cc0.2.2.2.2.2.2.2.2.2.2.2.2.2.2.2.2.2.2.2.2.2.2.2.2.2.2.2.2.2.1
noncomputable def t2 : Tok := cc0.2.2.2.2.2.2.2.2.2.2.2.2.2.2.2.2.2.2.2.2.2.2.2.2.2.2.2.2.2.2.1
noncomputable def t3 : Tok := cc0.2.2.2.2.2.2.2.2.2.2.2.2.2.2.2.2.2.2.2.2.2.2.2.2.2.2.2.2.2.2.2.1
noncomputable def c : Int := cc0.2.2.2.2.2.2.2.2.2.2.2.2.2.2.2.2.2.2.2.2.2.2.2.2.2.2.2.2.2.2.2.2.1
noncomputable def d : Int := cc0.2.2.2.2.2.2.2.2.2.2.2.2.2.2.2.2.2.2.2.2.2.2.2.2.2.2.2.2.2.2.2.2.2.1
noncomputable def e : Int := cc0.2.2.2.2.2.2.2.2.2.2.2.2.2.2.2.2.2.2.2.2.2.2.2.2.2.2.2.2.2.2.2.2.2.2.1
noncomputable def f : Int := cc0.2.2.2.2.2.2.2.2.2.2.2.2.2.2.2.2.2.2.2.2.2.2.2.2.2.2.2.2.2.2.2.2.2.2.2.1
noncomputable def tc : Tok := cc0.2.2.2.2.2.2.2.2.2.2.2.2.2.2.2.2.2.2.2.2.2.2.2.2.2.2.2.2.2.2.2.2.2.2.2.2.1
noncomputable def td : Tok := cc0.2.2.2.2.2.2.2.2.2.2.2.2.2.2.2.2.2.2.2.2.2.2.2.2.2.2.2.2.2.2.2.2.2.2.2.2.2.1
noncomputable def te : Tok := cc0.2.2.2.2.2.2.2.2.2.2.2.2.2.2.2.2.2.2.2.2.2.2.2.2.2.2.2.2.2.2.2.2.2.2.2.2.2.2.1
noncomputable def tf : Tok := cc0.2.2.2.2.2.2.2.2.2.2.2.2.2.2.2.2.2.2.2.2.2.2.2.2.2.2.2.2.2.2.2.2.2.2.2.2.2.2.2.1
noncomputable def Ws : List (List Nat) := cc0.2.2.2.2.2.2.2.2.2.2.2.2.2.2.2.2.2.2.2.2.2.2.2.2.2.2.2.2.2.2.2.2.2.2.2.2.2.2.2.2.1
noncomputable def v0 : StgV := cc0.2.2.2.2.2.2.2.2.2.2.2.2.2.2.2.2.2.2.2.2.2.2.2.2.2.2.2.2.2.2.2.2.2.2.2.2.2.2.2.2.2
noncomputable abbrev base := v0.base
theorem aux (e2 : o2.data = .cell (some (.str (tx [u]) t2))) (e3 : o3.data = .cell (some (.str (tx [v]) t3))) (e6 : o6.data = .cell (some (.int c tc))) (e7 : o7.data = .cell (some (.int d td))) (e8 : o8.data = .cell (some (.int e te))) (e9 : o9.data = .cell (some (.int f tf))) (hWs : TextsAre wsv Ws) (hlen : ∀ p ∈ Ws, p.length ≤ 16) (hWl : Ws.length = 6) (hM : Has m ((Str.ofString "words", .ref Dw) :: names5 D1 D4 S tcs tt)) :
  StgAt w fa cd L 13 1 (fun h => True) m ((Dw, PySem.W.listOf wsv.toArray kw) :: R4 L D1 D4 vs1 rs k1 kk o1 o2 o3 o4 o5 o6 o7 o8 o9 tb TL)
    (P9 L tb TL o1 o2 o3 o4 o5 o6 o7 o8 o9 D1 D4 S tcs tt vs1 rs k1 kk u c d e f Ws) v0 := by
  intro B F X N T C1 C2 C3 hE hS hret
  have F0 := fr_all0 hM F
  clear F
  walk1
  refine' LCg.Assign_ListComp_U F0 rfl ?a0 ?a1 ?a2 ?a3 ?a4 ?a5 ?a6 ?a7 ?_
  case a1 => with_unfolding_all rfl
  case a0 => with_unfolding_all rfl
  case a2 => decide
  case a3 => rfl
  case a4 => decide
  case a5 => rfl
  case a6 => rfl
  case a7 => rfl
  (repeat' (first | (with_reducible refine if_ff ?_) | (with_reducible refine if_tt ?_) | (k_unfold; (try dsimp only)) | (k_end; wrow_close) | (cell_step; walk1) | (cell_step; dsimp only; walk1) | (leave1; walk_say "STEP leave1"; try dsimp only) | fail "no step"))
  rename Fr _ _ _ _ => F1
  rename News _ _ _ _ => N1
  have hwl := hWs.length
  refine' LCg.CompSrc.ledger ?hh F1 N1 (.head _) ?sz ?_
  case hh => exact rfl
  case sz => simp [sizeLine]; omega
  intro g9
  refine comp_ind (fun i ys nx => (∀ p ∈ (Dw, PySem.W.listOf wsv.toArray kw) :: R4 L D1 D4 vs1 rs k1 kk o1 o2 o3 o4 o5 o6 o7 o8 o9 tb TL, p ∈ nx) ∧ RowsIn ys ((Ws.take i).map (rowOf u c d e f)) nx) ⟨fun p hp => hp, .nil⟩ ?turn ?fin
  case turn =>
    rintro i v9 ys nx hi hv9 ⟨hsub, hrows⟩ I oI C oC D m₂ h tk E' hC hx F2 N2 off ne
    obtain ⟨wd, twd, rfl, hwi⟩ := texts_at (i := i) (v := v9) hWs (by simpa using hv9)
    have N3 : News base L h ((I, oI) :: (C, oC) :: (D, LCg.lst ys) :: (Dw, PySem.W.listOf wsv.toArray kw) :: R4 L D1 D4 vs1 rs k1 kk o1 o2 o3 o4 o5 o6 o7 o8 o9 tb (TL ++ nx)) := perm3 N2 (mem_cons_all (hsub _ (.head _)) (r4_more fun q hq => hsub q (.tail _ hq)))
    refine' ListComp_2 (h₀ := base) (L := L) (m := (bindAll ((Str.ofString "words", .ref Dw) :: names5 D1 D4 S tcs tt) m)) rfl ?b1 ?b2 ?b3 ?b4 ?b5 ?b6 ?b7 ?_
    case b1 => with_unfolding_all rfl
    case b2 => decide
    case b3 => rfl
    case b4 => decide
    case b5 => rfl
    case b6 => rfl
    case b7 => decide
    (repeat' (first | (with_reducible refine if_ff ?_) | (with_reducible refine if_tt ?_) | (k_unfold; (try dsimp only)) | (k_end; wrow_close) | (cell_step; walk1) | (cell_step; dsimp only; walk1) | (leave1; walk_say "STEP leave1"; try dsimp only) | fail "no step"))
    rename Fr _ _ _ _ => F4
    rename News _ _ _ _ => N4
    have hwl16 := hlen wd (List.mem_of_getElem? hwi)
    have N5 : News base L _ ((I, oI) :: (C, oC) :: (D, LCg.lst ys) :: nx) := perm3 N4 fun p hp => .tail _ (r4_in p hp)
    refine .inl ⟨tx wd, twd, _, rfl, F4, N5, fun g5 => ?_⟩
    have htl : (tx wd).cps.size = wd.length := by simp
    rw [htl]
    refine comp_ind2 (fun j zs nx2 => (∀ p ∈ (I, oI) :: (C, oC) :: (D, LCg.lst ys) :: nx, p ∈ nx2) ∧ IntsAre zs (rowOf u c d e f (wd.take j))) ⟨fun p hp => hp, .nil⟩ ?turn2 ?fin2
    case turn2 =>
      rintro j v8 zs nx2 hj ⟨z, tz, hz, rfl⟩ ⟨hsub2, hzs⟩ I6 oI6 C6 oC6 D6 m₆ h6 tk6 E6 hC6 hx6 F6 N6 off6 ne6
      have hzi : wd[j]? = some z := by simpa using hz
      have hnx : ∀ p ∈ (Dw, PySem.W.listOf wsv.toArray kw) :: R4 L D1 D4 vs1 rs k1 kk o1 o2 o3 o4 o5 o6 o7 o8 o9 tb TL, p ∈ nx2 := fun p hp => hsub2 p (.tail _ (.tail _ (.tail _ (hsub p hp))))
      have N7 : News base L h6 ((I6, oI6) :: (C6, oC6) :: (D6, LCg.lst zs) :: (I, oI) :: (C, oC) :: (D, LCg.lst ys) :: (Dw, PySem.W.listOf wsv.toArray kw) :: R4 L D1 D4 vs1 rs k1 kk o1 o2 o3 o4 o5 o6 o7 o8 o9 tb (TL ++ nx2)) := perm3 N6 (mem_cons_all (hsub2 _ (.head _)) (mem_cons_all (hsub2 _ (.tail _ (.head _))) (mem_cons_all (hsub2 _ (.tail _ (.tail _ (.head _)))) (mem_cons_all (hnx _ (.head _)) (r4_more fun q hq => hnx q (.tail _ hq))))))
      have hl6 := hzs.length
      rw [rowOf_len] at hl6
      have hj2 : (wd.take j).length ≤ 16 := by rw [List.length_take]; omega
      have eadd : rowOf u c d e f (wd.take (j + 1)) = rowOf u c d e f (wd.take j) ++ if z = u then [c, d] else [e, f] := by
        rw [List.take_add_one, hzi]
        exact rowOf_snoc u c d e f (wd.take j) z
      have top6 := topA_of fun p hp => Heap.lt_size (N6 p hp).1
      (repeat' (first | (with_reducible refine if_ff ?_) | (with_reducible refine if_tt ?_) | (k_unfold; (try dsimp only)) | (k_end; wrow_close) | (cell_step; walk1) | (cell_step; dsimp only; walk1) | (leave1; walk_say "STEP leave1"; try dsimp only) | fail "no step"))
      change wpAny _ _ (truthy (Value.bool (tx [z] == tx [u]))) _ _ _
      by_cases hzu : z = u
      · rw [show (tx [z] == tx [u]) = true by rw [hzu]; simp]
        (repeat' (first | (with_reducible refine if_ff ?_) | (with_reducible refine if_tt ?_) | (k_unfold; (try dsimp only)) | (k_end; wrow_close) | (cell_step; walk1) | (cell_step; dsimp only; walk1) | (leave1; walk_say "STEP leave1"; try dsimp only) | fail "no step"))
        rename Addr => T6
        rename (I6 + 1 ≤ T6 ∧ _) => lT
        rename Fr _ _ _ _ => F8
        rename News _ _ _ _ => N8
        refine LCg.CompEnd.intro F8 N8 (_ :: nx2) (sub4 fun p hp => .tail _ (.tail _ (.tail _ (.tail _ (r4_in p hp))))) ⟨⟨Nat.ne_of_gt (by omega), Nat.ne_of_gt (by omega), Nat.ne_of_gt (by omega)⟩, off6⟩ trivial ⟨[Value.int c tc, Value.int d td], ⟨T6, _, _, rfl, .head _, .inr rfl, rfl⟩, by rw [hl6]; simp only [List.length_cons, List.length_nil, sizeLine_eq]; omega, fun p hp => .tail _ (hsub2 p hp), ?_⟩
        rw [eadd, if_pos hzu]
        exact hzs.append (.cons _ _ (.cons _ _ .nil))
      · rw [show (tx [z] == tx [u]) = false by rw [tx_beq]; simp [hzu]]
        (repeat' (first | (with_reducible refine if_ff ?_) | (with_reducible refine if_tt ?_) | (k_unfold; (try dsimp only)) | (k_end; wrow_close) | (cell_step; walk1) | (cell_step; dsimp only; walk1) | (leave1; walk_say "STEP leave1"; try dsimp only) | fail "no step"))
        rename Addr => T6
        rename (I6 + 1 ≤ T6 ∧ _) => lT
        rename Fr _ _ _ _ => F8
        rename News _ _ _ _ => N8
        refine LCg.CompEnd.intro F8 N8 (_ :: nx2) (sub4 fun p hp => .tail _ (.tail _ (.tail _ (.tail _ (r4_in p hp))))) ⟨⟨Nat.ne_of_gt (by omega), Nat.ne_of_gt (by omega), Nat.ne_of_gt (by omega)⟩, off6⟩ trivial ⟨[Value.int e te, Value.int f tf], ⟨T6, _, _, rfl, .head _, .inr rfl, rfl⟩, by rw [hl6]; simp only [List.length_cons, List.length_nil, sizeLine_eq]; omega, fun p hp => .tail _ (hsub2 p hp), ?_⟩
        rw [eadd, if_neg hzu]
        exact hzs.append (.cons _ _ (.cons _ _ .nil))
    case fin2 =>
      rintro zs nx2 ⟨hsub2, hzs⟩
      rw [List.take_of_length_le (Nat.le_refl _)] at hzs
      unfold LCg.FinE
      intro D8 h8 tk8 F8 N8 off8
      have hoff8 := off1_mem off8
      have N9 : News base L h8 ((I, oI) :: (C, oC) :: (D, LCg.lst ys) :: (D8, LCg.lst zs) :: nx) := fun p hp => by
        rcases List.mem_cons.mp hp with rfl | hp
        · exact N8 _ (.tail _ (hsub2 _ (.head _)))
        rcases List.mem_cons.mp hp with rfl | hp
        · exact N8 _ (.tail _ (hsub2 _ (.tail _ (.head _))))
        rcases List.mem_cons.mp hp with rfl | hp
        · exact N8 _ (.tail _ (hsub2 _ (.tail _ (.tail _ (.head _)))))
        rcases List.mem_cons.mp hp with rfl | hp
        · exact N8 _ (.head _)
        · exact N8 _ (.tail _ (hsub2 _ (.tail _ (.tail _ (.tail _ hp)))))
      refine LCg.CompEnd.intro F8 N9 ((D8, LCg.lst zs) :: nx) (fun p hp => hp) ⟨⟨Ne.symm (hoff8 _ (hsub2 _ (.head _))), Ne.symm (hoff8 _ (hsub2 _ (.tail _ (.head _)))), Ne.symm (hoff8 _ (hsub2 _ (.tail _ (.tail _ (.head _)))))⟩, off⟩ (.inr ⟨_, .tail _ (hsub _ (.head _)), rfl, _, rfl⟩) ⟨fun p hp => .tail _ (hsub p hp), ?_⟩
      rw [List.take_add_one, hwi]
      show RowsIn _ ((Ws.take i ++ [wd]).map _) _
      rw [List.map_append]
      exact .snoc (hrows.mono fun p hp => .tail _ hp) D8 zs _ (.head _) hzs
  case fin =>
    rintro ys nx ⟨hsub, hrows⟩
    rw [show wsv.toArray.size = 6 by simp; omega, List.take_of_length_le (by omega)] at hrows
    unfold LCg.FinA
    intro D9 h9 tk9 F10 N10 off9
    have hoff9 := off1_mem off9
    have hK : ∀ p ∈ R4 L D1 D4 vs1 rs k1 kk o1 o2 o3 o4 o5 o6 o7 o8 o9 tb (TL ++ nx), p ∈ nx := r4_more fun q hq => hsub q (.tail _ hq)
    exact hret _ _ _ _ F10 (news_perm N10 (mem_cons_all (.head _) fun p hp => .tail _ (hK p hp))) ⟨D9, ys, nx, ⟨rfl, rfl, rfl, rfl, rfl, trivial⟩, hrows, fun p hp => hoff9 p (hK p hp), rfl⟩
end Vstage9
theorem stage9 (w : World) (fa : Addr) (cd : Value) (L : Addr) (m : Str → Option Value) (tb TL : Led) (o1 o2 o3 o4 o5 o6 o7 o8 o9 : Obj) (D1 D4 Dw S : Addr) (tcs : Str) (tt : Tok) (vs1 rs wsv : List Value) (k1 kk kw : Nat) (u v : Nat) (t2 t3 : Tok) (e2 : o2.data = .cell (some (.str (tx [u]) t2))) (e3 : o3.data = .cell (some (.str (tx [v]) t3)))
   (c d e f : Int) (tc td te tf : Tok) (e6 : o6.data = .cell (some (.int c tc))) (e7 : o7.data = .cell (some (.int d td))) (e8 : o8.data = .cell (some (.int e te))) (e9 : o9.data = .cell (some (.int f tf)))
   (Ws : List (List Nat)) (hWs : TextsAre wsv Ws) (hlen : ∀ p ∈ Ws, p.length ≤ 16) (hWl : Ws.length = 6) (hM : Has m ((Str.ofString "words", .ref Dw) :: names5 D1 D4 S tcs tt)) :
  Stg w fa cd L 13 1 (fun h => True) m ((Dw, PySem.W.listOf wsv.toArray kw) :: R4 L D1 D4 vs1 rs k1 kk o1 o2 o3 o4 o5 o6 o7 o8 o9 tb TL)
    (P9 L tb TL o1 o2 o3 o4 o5 o6 o7 o8 o9 D1 D4 S tcs tt vs1 rs k1 kk u c d e f Ws) := stg_of fun z => (show Vstage9.At0 w fa cd L m tb TL o1 o2 o3 o4 o5 o6 o7 o8 o9 D1 D4 Dw S tcs tt vs1 rs wsv k1 kk kw u v t2 t3 c d e f tc td te tf Ws z from eps1_all (P := Vstage9.AtX) @Vstage9.aux (w, fa, cd, L, m, tb, TL, o1, o2, o3, o4, o5, o6, o7, o8, o9, D1, D4, Dw, S, tcs, tt, vs1, rs, wsv, k1, kk, kw, u, v, t2, t3, c, d, e, f, tc, td, te, tf, Ws, z)) e2 e3 e6 e7 e8 e9 hWs hlen hWl hM
end
section
noncomputable abbrev tapeOf (rows : List (List Int)) : List Int := rows.flatMap fun r => octN (trac r)
theorem tapeOf_snoc (rows : List (List Int)) (r : List Int) : tapeOf (rows ++ [r]) = tapeOf rows ++ octN (trac r) := by
  unfold tapeOf; rw [List.flatMap_append]; simp
theorem tapeOf_len : ∀ (rows : List (List Int)), (∀ r ∈ rows, r.length ≤ 32 ∧ ∀ q ∈ r, 0 ≤ q ∧ q ≤ 4096) → (tapeOf rows).length ≤ 70 * rows.length
  | [], _ => by simp [tapeOf]
  | r :: rs, h => by
    have ih := tapeOf_len rs fun z hz => h z (.tail _ hz)
    have h1 := h r (.head _)
    have hb := trac_bound h1.2 h1.1
    have h2 := octN_len hb.1 hb.2
    unfold tapeOf at ih ⊢
    rw [List.flatMap_cons, List.length_append, List.length_cons]
    omega
inductive P10 (L : Addr) (tb : Led) (TL : Led) (o1 : Obj) (o2 : Obj) (o3 : Obj) (o4 : Obj) (o5 : Obj) (o6 : Obj) (o7 : Obj) (o8 : Obj) (o9 : Obj) (D1 : Addr) (D4 : Addr) (Dr : Addr) (S : Addr) (tcs : Str) (tt : Tok) (vs1 : List Value) (rs : List Value) (ysr : List Value) (k1 : Nat) (kk : Nat) (rows : List (List Int)) (m' : Str → Option Value) (news' : Led) : Prop
  | mk (Dt : Addr) (I : Addr) (zs : List Value) (zh1 : Has m' ((Str.ofString "tape", .ref I) :: (Str.ofString "rows", .ref Dr) :: names5 D1 D4 S tcs tt)) (zh2 : IntsAre zs (tapeOf rows)) (zh3 : topA ((Dr, LCg.lst ysr) :: R4 L D1 D4 vs1 rs k1 kk o1 o2 o3 o4 o5 o6 o7 o8 o9 tb TL) ≤ I) (zh4 : Dt ≠ I) (zh5 : news' = (I, liO Dt 0) :: (Dt, LCg.lst zs) :: (Dr, LCg.lst ysr) :: R4 L D1 D4 vs1 rs k1 kk o1 o2 o3 o4 o5 o6 o7 o8 o9 tb TL)
namespace Vstage10
noncomputable def At0 (w : World) (fa : Addr) (cd : Value) (L : Addr) (m : Str → Option Value) (tb : Led) (TL : Led) (o1 : Obj) (o2 : Obj) (o3 : Obj) (o4 : Obj) (o5 : Obj) (o6 : Obj) (o7 : Obj) (o8 : Obj) (o9 : Obj) (D1 : Addr) (D4 : Addr) (Dr : Addr) (S : Addr) (tcs : Str) (tt : Tok) (vs1 : List Value) (rs : List Value) (ysr : List Value) (k1 : Nat) (kk : Nat) (rows : List (List Int)) (z : StgV) : Prop := ∀ (hR : RowsIn ysr rows TL) (hrl : rows.length = 6) (hrq : ∀ r ∈ rows, r.length ≤ 32 ∧ ∀ q ∈ r, 0 ≤ q ∧ q ≤ 4096) (hM : Has m ((Str.ofString "rows", .ref Dr) :: names5 D1 D4 S tcs tt)), StgAt w fa cd L 14 1 (fun h => True) m ((Dr, LCg.lst ysr) :: R4 L D1 D4 vs1 rs k1 kk o1 o2 o3 o4 o5 o6 o7 o8 o9 tb TL)
    (P10 L tb TL o1 o2 o3 o4 o5 o6 o7 o8 o9 D1 D4 Dr S tcs tt vs1 rs ysr k1 kk rows) z
noncomputable def AtX (x : (World) × (Addr) × (Value) × (Addr) × (Str → Option Value) × (Led) × (Led) × (Obj) × (Obj) × (Obj) × (Obj) × (Obj) × (Obj) × (Obj) × (Obj) × (Obj) × (Addr) × (Addr) × (Addr) × (Addr) × (Str) × (Tok) × (List Value) × (List Value) × (List Value) × (Nat) × (Nat) × (List (List Int)) × StgV) : Prop := At0 (x.1) (x.2.1) (x.2.2.1) (x.2.2.2.1) (x.2.2.2.2.1) (x.2.2.2.2.2.1) (x.2.2.2.2.2.2.1) (x.2.2.2.2.2.2.2.1) (x.2.2.2.2.2.2.2.2.1) (x.2.2.2.2.2.2.2.2.2.1) (x.2.2.2.2.2.2.2.2.2.2.1) (x.2.2.2.2.2.2.2.2.2.2.2.1) (x.2.2.2.2.2.2.2.2.2.2.2.2.1) (x.2.2.2.2.2.2.2.2.2.2.2.2.2.1) (x.2.2.2.2.2.2.2.2.2.2.2.2.2.2.1) (x.2.2.2.2.2.2.2.2.2.2.2.2.2.2.2.1) (x.2.2.2.2.2.2.2.2.2.2.2.2.2.2.2.2.1) (x.2.2.2.2.2.2.2.2.2.2.2.2.2.2.2.2.2.1) (x.2.2.2.2.2.2.2.2.2.2.2.2.2.2.2.2.2.2.1) (x.2.2.2.2.2.2.2.2.2.2.2.2.2.2.2.2.2.2.2.1) (x.2.2.2.2.2.2.2.2.2.2.2.2.2.2.2.2.2.2.2.2.1) (x.2.2.2.2.2.2.2.2.2.2.2.2.2.2.2.2.2.2.2.2.2.1) (x.2.2.2.2.2.2.2.2.2.2.2.2.2.2.2.2.2.2.2.2.2.2.1) (x.2.2.2.2.2.2.2.2.2.2.2.2.2.2.2.2.2.2.2.2.2.2.2.1) (x.2.2.2.2.2.2.2.2.2.2.2.2.2.2.2.2.2.2.2.2.2.2.2.2.1) (x.2.2.2.2.2.2.2.2.2.2.2.2.2.2.2.2.2.2.2.2.2.2.2.2.2.1) (x.2.2.2.2.2.2.2.2.2.2.2.2.2.2.2.2.2.2.2.2.2.2.2.2.2.2.1) (x.2.2.2.2.2.2.2.2.2.2.2.2.2.2.2.2.2.2.2.2.2.2.2.2.2.2.2.1) (x.2.2.2.2.2.2.2.2.2.2.2.2.2.2.2.2.2.2.2.2.2.2.2.2.2.2.2.2)
noncomputable def cc0 : (World) × (Addr) × (Value) × (Addr) × (Str → Option Value) × (Led) × (Led) × (Obj) × (Obj) × (Obj) × (Obj) × (Obj) × (Obj) × (Obj) × (Obj) × (Obj) × (Addr) × (Addr) × (Addr) × (Addr) × (Str) × (Tok) × (List Value) × (List Value) × (List Value) × (Nat) × (Nat) × (List (List Int)) × StgV := eps1 (ne_prod ne_world (ne_prod ne_addr (ne_prod ne_value (ne_prod ne_addr (ne_prod ne_par (ne_prod ne_led (ne_prod ne_led (ne_prod ne_obj (ne_prod ne_obj (ne_prod ne_obj (ne_prod ne_obj (ne_prod ne_obj (ne_prod ne_obj (ne_prod ne_obj (ne_prod ne_obj (ne_prod ne_obj (ne_prod ne_addr (ne_prod ne_addr (ne_prod ne_addr (ne_prod ne_addr (ne_prod ne_str (ne_prod ne_tok (ne_prod ne_list (ne_prod ne_list (ne_prod ne_list (ne_prod ne_nat (ne_prod ne_nat (ne_prod ne_list stgV_ne)))))))))))))))))))))))))))) AtX
noncomputable def w : World := cc0.1
noncomputable def fa : Addr := cc0.2.1
noncomputable def cd : Value := cc0.2.2.1
noncomputable def L : Addr := cc0.2.2.2.1
noncomputable def m : Str → Option Value := cc0.2.2.2.2.1
noncomputable def tb : Led := cc0.2.2.2.2.2.1
noncomputable def TL : Led := cc0.2.2.2.2.2.2.1
noncomputable def o1 : Obj := cc0.2.2.2.2.2.2.2.1
noncomputable def o2 : Obj := cc0.2.2.2.2.2.2.2.2.1
noncomputable def o3 : Obj := cc0.2.2.2.2.2.2.2.2.2.1
noncomputable def o4 : Obj := cc0.2.2.2.2.2.2.2.2.2.2.1
noncomputable def o5 : Obj := cc0.2.2.2.2.2.2.2.2.2.2.2.1
noncomputable def o6 : Obj := cc0.2.2.2.2.2.2.2.2.2.2.2.2.1
noncomputable def o7 : Obj := cc0.2.2.2.2.2.2.2.2.2.2.2.2.2.1
noncomputable def o8 : Obj := cc0.2.2.2.2.2.2.2.2.2.2.2.2.2.2.1
noncomputable def o9 : Obj := cc0.2.2.2.2.2.2.2.2.2.2.2.2.2.2.2.1
noncomputable def D1 : Addr := cc0.2.2.2.2.2.2.2.2.2.2.2.2.2.2.2.2.1
noncomputable def D4 : Addr := cc0.2.2.2.2.2.2.2.2.2.2.2.2.2.2.2.2.2.1
noncomputable def Dr : Addr := cc0.2.2.2.2.2.2.2.2.2.2.2.2.2.2.2.2.2.2.1
noncomputable def S : Addr := cc0.2.2.2.2.2.2.2.2.2.2.2.2.2.2.2.2.2.2.2.1
noncomputable def tcs : Str := cc0.2.2.2.2.2.2.2.2.2.2.2.2.2.2.2.2.2.2.2.2.1
noncomputable def tt : Tok := cc0.2.2.2.2.2.2.2.2.2.2.2.2.2.2.2.2.2.2.2.2.2.1
noncomputable def vs1 : List Value := cc0.2.2.2.2.2.2.2.2.2.2.2.2.2.2.2.2.2.2.2.2.2.2.1
noncomputable def rs : List Value := cc0.2.2.2.2.2.2.2.2.2.2.2.2.2.2.2.2.2.2.2.2.2.2.2.1
noncomputable def ysr : List Value := cc0.2.2.2.2.2.2.2.2.2.2.2.2.2.2.2.2.2.2.2.2.2.2.2.2.1
noncomputable def k1 : Nat := cc0.2.2.2.2.2.2.2.2.2.2.2.2.2.2.2.2.2.2.2.2.2.2.2.2.2.1
noncomputable def kk : Nat := cc0.2.2.2.2.2.2.2.2.2.2.2.2.2.2.2.2.2.2.2.2.2.2.2.2.2.2.1
noncomputable def rows : List (List Int) := cc0.2.2.2.2.2.2.2.2.2.2.2.2.2.2.2.2.2.2.2.2.2.2.2.2.2.2.2.1
noncomputable def v0 : StgV := cc0.2.2.2.2.2.2.2.2.2.2.2.2.2.2.2.2.2.2.2.2.2.2.2.2.2.2.2.2
noncomputable abbrev base := v0.base
theorem aux (hR : RowsIn ysr rows TL) (hrl : rows.length = 6) (hrq : ∀ r ∈ rows, r.length ≤ 32 ∧ ∀ q ∈ r, 0 ≤ q ∧ q ≤ 4096) (hM : Has m ((Str.ofString "rows", .ref Dr) :: names5 D1 D4 S tcs tt)) :
  StgAt w fa cd L 14 1 (fun h => True) m ((Dr, LCg.lst ysr) :: R4 L D1 D4 vs1 rs k1 kk o1 o2 o3 o4 o5 o6 o7 o8 o9 tb TL)
    (P10 L tb TL o1 o2 o3 o4 o5 o6 o7 o8 o9 D1 D4 Dr S tcs tt vs1 rs ysr k1 kk rows) v0 := by
  intro B F X N T C1 C2 C3 hE hS hret
  have F0 := fr_all0 hM F
  clear F
  have hyl := hR.length
  (repeat' (first | (with_reducible refine if_ff ?_) | (with_reducible refine if_tt ?_) | (k_unfold; (try dsimp only)) | (k_end; wrow_close) | (cell_step; walk1) | (cell_step; dsimp only; walk1) | (leave1; walk_say "STEP leave1"; try dsimp only) | fail "no step"))
  rename Fr _ _ _ _ => F1
  rename News _ _ _ _ => N1
  refine' ListComp_2 (h₀ := base) (L := L) (m := (bindAll ((Str.ofString "rows", .ref Dr) :: names5 D1 D4 S tcs tt) m)) rfl ?b1 ?b2 ?b3 ?b4 ?b5 ?b6 ?b7 ?_
  case b1 => with_unfolding_all rfl
  case b2 => decide
  case b3 => rfl
  case b4 => decide
  case b5 => rfl
  case b6 => rfl
  case b7 => decide
  (repeat' (first | (with_reducible refine if_ff ?_) | (with_reducible refine if_tt ?_) | (k_unfold; (try dsimp only)) | (k_end; wrow_close) | (cell_step; walk1) | (cell_step; dsimp only; walk1) | (leave1; walk_say "STEP leave1"; try dsimp only) | fail "no step"))
  rename Fr _ _ _ _ => F2
  rename News _ _ _ _ => N2
  refine .inr ⟨Dr, ysr.toArray, _, rfl, F2, N2, .inr ⟨_, .head _, rfl, _, rfl⟩, fun g5 => ?_⟩
  refine comp_ind2 (fun i zs nx => (∀ p ∈ (Dr, LCg.lst ysr) :: R4 L D1 D4 vs1 rs k1 kk o1 o2 o3 o4 o5 o6 o7 o8 o9 tb TL, p ∈ nx) ∧ IntsAre zs (tapeOf (rows.take i))) ⟨fun p hp => hp, .nil⟩ ?turn ?fin
  case turn =>
    rintro i v9 zs nx hi hv9 ⟨hsub, hzs⟩ I oI C oC D m₂ h tk E' hC hx F3 N3 off ne
    obtain ⟨Dq, vq, q, rfl, hDq, hq, hqi⟩ := hR.get (i := i) (v := v9) (by simpa using hv9)
    have hqm := hrq q (List.mem_of_getElem? hqi)
    have hb := trac_bound hqm.2 hqm.1
    have N4 : News base L h ((I, oI) :: (C, oC) :: (D, LCg.lst zs) :: (Dr, LCg.lst ysr) :: R4 L D1 D4 vs1 rs k1 kk o1 o2 o3 o4 o5 o6 o7 o8 o9 tb (TL ++ nx)) := perm3 N3 (mem_cons_all (hsub _ (.head _)) (r4_more fun q hq => hsub q (.tail _ hq)))
    clear N3
    have hDq' : (Dq, W.listOf vq.toArray vq.length) ∈ TL := hDq
    have hmem : (Dq, W.listOf vq.toArray vq.length) ∈ (I, oI) :: (C, oC) :: (D, LCg.lst zs) :: (Dr, LCg.lst ysr) :: R4 L D1 D4 vs1 rs k1 kk o1 o2 o3 o4 o5 o6 o7 o8 o9 tb (TL ++ nx) := .tail _ (.tail _ (.tail _ (.tail _ (r4_in (TL := []) _ (List.mem_append_left _ hDq')))))
    (repeat' (first | (with_reducible refine if_ff ?_) | (with_reducible refine if_tt ?_) | (k_unfold; (try dsimp only)) | (k_end; wrow_close) | (cell_step; walk1) | (cell_step; dsimp only; walk1) | (leave1; walk_say "STEP leave1"; try dsimp only) | fail "no step"))
    (refine' tel_use ?tH ?tB ?tF ?tX ?tN ?tT ?tC1 ?tC2 ?tC3 ?tk ?td ?tu ?_; (case tB => k_asm); (case tF => k_asm); (case tX => k_asm); (case tN => k_asm); (case tT => k_asm); (case tC1 => assumption); (case tC2 => assumption); (case tC3 => assumption); (case tk => first | exact rfl | assumption); (case tH => exact (trace w _ Dq vq vq.length q hq hmem hqm.2)); (case td => ktr_room); (case tu => ktr_units))
    rintro v8 h8 tk8 news8 F8 N8 ⟨t8, rfl, rfl⟩
    (try dsimp only)
    (repeat' (first | (with_reducible refine if_ff ?_) | (with_reducible refine if_tt ?_) | (k_unfold; (try dsimp only)) | (k_end; wrow_close) | (cell_step; walk1) | (cell_step; dsimp only; walk1) | (leave1; walk_say "STEP leave1"; try dsimp only) | fail "no step"))
    (refine' tel_use ?tH ?tB ?tF ?tX ?tN ?tT ?tC1 ?tC2 ?tC3 ?tk ?td ?tu ?_; (case tB => k_asm); (case tF => k_asm); (case tX => k_asm); (case tN => k_asm); (case tT => k_asm); (case tC1 => assumption); (case tC2 => assumption); (case tC3 => assumption); (case tk => first | exact rfl | assumption); (case tH => exact (octets w _ (trac q) t8 hb.1 (Int.lt_trans hb.2 (by decide +kernel)))); (case td => ktr_room); (case tu => ktr_units))
    rintro v7 h7 tk7 news7 F7 N7 ⟨Do, vo, co, rfl, hvo, rfl, hDo⟩
    (try dsimp only)
    have hDo2 := hDo
    simp only [topA_nil, topA_cons, topA_app, Nat.max_le, Nat.zero_le, true_and, and_true, List.cons_append, List.nil_append] at hDo2
    have hzl := hzs.length
    have hvl := hvo.length
    have htl := tapeOf_len (rows.take i) fun r hr => hrq r (List.mem_of_mem_take hr)
    have hol := octN_len hb.1 hb.2
    refine LCg.CompEnd.intro F7 N7 (_ :: nx) (sub4 fun p hp => .tail _ (r4_in p hp)) ⟨⟨Nat.ne_of_gt (by omega), Nat.ne_of_gt (by omega), Nat.ne_of_gt (by omega)⟩, off⟩ (.inr ⟨_, .tail _ (hsub _ (.head _)), rfl, _, rfl⟩) ⟨vo, ⟨Do, _, _, rfl, .head _, .inl rfl, rfl⟩, ?_, fun p hp => .tail _ (hsub p hp), ?_⟩
    · have h1 : (rows.take i).length ≤ 6 := by rw [List.length_take]; omega
      have h2 : (octs (trac q).toNat (trac q) [(trac q).fmod 64]).length = (octN (trac q)).length := rfl
      rw [sizeLine_eq]
      omega
    · rw [List.take_add_one, hqi]
      show IntsAre _ (tapeOf (rows.take i ++ [q]))
      rw [tapeOf_snoc]
      exact hzs.append hvo
  case fin =>
    rintro zs nx ⟨hsub, hzs⟩
    rw [List.take_of_length_le (by simp; omega)] at hzs
    unfold LCg.FinE
    intro D9 h9 tk9 F10 N10 off9
    have N11 : News base L h9 ((D9, LCg.lst zs) :: (Dr, LCg.lst ysr) :: R4 L D1 D4 vs1 rs k1 kk o1 o2 o3 o4 o5 o6 o7 o8 o9 tb TL) := news_perm N10 (mem_cons_all (.head _) fun p hp => .tail _ (hsub p hp))
    clear N10
    (repeat' (first | (with_reducible refine if_ff ?_) | (with_reducible refine if_tt ?_) | (k_unfold; (try dsimp only)) | (k_end; wrow_close) | (cell_step; walk1) | (cell_step; dsimp only; walk1) | (leave1; walk_say "STEP leave1"; try dsimp only) | fail "no step"))
    rename Fr _ _ _ _ => F10
    rename News _ _ _ _ => N11
    refine li_iter (l := D9) (its := zs.toArray) (n := zs.length) F10 N11 (.head _) ?_
    intro I h11 F12 N12 hI
    (try dsimp only)
    (repeat' (first | (with_reducible refine if_ff ?_) | (with_reducible refine if_tt ?_) | (k_unfold; (try dsimp only)) | (k_end; wrow_close) | (cell_step; walk1) | (cell_step; dsimp only; walk1) | (leave1; walk_say "STEP leave1"; try dsimp only) | fail "no step"))
    rename Fr _ _ _ _ => F13
    rename News _ _ _ _ => N13
    have hI2 := hI
    rw [topA_cons] at hI2
    exact hret _ _ _ _ F13 N13 ⟨D9, I, zs, ⟨rfl, rfl, rfl, rfl, rfl, rfl, trivial⟩, hzs, by omega, Nat.ne_of_lt (by omega), rfl⟩
end Vstage10
theorem stage10 (w : World) (fa : Addr) (cd : Value) (L : Addr) (m : Str → Option Value) (tb TL : Led) (o1 o2 o3 o4 o5 o6 o7 o8 o9 : Obj) (D1 D4 Dr S : Addr) (tcs : Str) (tt : Tok) (vs1 rs ysr : List Value) (k1 kk : Nat)
   (rows : List (List Int)) (hR : RowsIn ysr rows TL) (hrl : rows.length = 6) (hrq : ∀ r ∈ rows, r.length ≤ 32 ∧ ∀ q ∈ r, 0 ≤ q ∧ q ≤ 4096) (hM : Has m ((Str.ofString "rows", .ref Dr) :: names5 D1 D4 S tcs tt)) :
  Stg w fa cd L 14 1 (fun h => True) m ((Dr, LCg.lst ysr) :: R4 L D1 D4 vs1 rs k1 kk o1 o2 o3 o4 o5 o6 o7 o8 o9 tb TL)
    (P10 L tb TL o1 o2 o3 o4 o5 o6 o7 o8 o9 D1 D4 Dr S tcs tt vs1 rs ysr k1 kk rows) := stg_of fun z => (show Vstage10.At0 w fa cd L m tb TL o1 o2 o3 o4 o5 o6 o7 o8 o9 D1 D4 Dr S tcs tt vs1 rs ysr k1 kk rows z from eps1_all (P := Vstage10.AtX) @Vstage10.aux (w, fa, cd, L, m, tb, TL, o1, o2, o3, o4, o5, o6, o7, o8, o9, D1, D4, Dr, S, tcs, tt, vs1, rs, ysr, k1, kk, rows, z)) hR hrl hrq hM
end
end
section
local macro_rules | `(tactic| cell_step) => `(tactic| (walk_at "s1"; walk_at "t5"))
section
theorem dots3 : Str.ofString "..." = tx [46, 46, 46] := by decide +kernel
theorem texts_of : ∀ {l : List (Str × Tok)} {ws : List (List Nat)}, l.map (·.1) = ws.map tx → TextsAre (strValues l) ws
  | [], [], _ => .nil
  | [], _ :: _, h => by simp at h
  | _ :: _, [], h => by simp at h
  | (x, t) :: r, w :: ws, h => by
    simp only [List.map_cons, List.cons.injEq] at h
    obtain ⟨h1, h2⟩ := h
    subst h1
    exact .cons w t (texts_of h2)
section
variable {prog : Program} {w : World} {A : Around} {E : Value → Shared → Prop} {s : Shared} {h₀ : Heap} {L : Addr} {m : Str → Option Value} {news : Led}
theorem split_tx {parts : List (List Nat)} {t u : Tok} {Q : Value → Shared → Prop} (F : Fr h₀ L s.heap m) (N : News h₀ L s.heap news) (h2 : 2 ≤ parts.length) (hf : ∀ p ∈ parts, 46 ∉ p) (hl : (dots parts).length ≤ 1000)
    (h : ∀ D vs h' k, TextsAre vs parts → Fr h₀ L h' m → News h₀ L h' ((D, W.listOf vs.toArray 0) :: news) → topA news ≤ D → Q (.ref D) { s with heap := h', toks := k }) :
    wpAny (model prog w) A (call (.builtin "str.split") [.str (tx (dots parts)) t, .str (Str.ofString "...") u]) Q E s := by
  refine KSpl.split1 F N (by decide +kernel) (fun D l h' k e _ F' N' hD => ?_) (by rw [tx_len, sizeLine_eq]; omega)
  rw [dots3, split_dots h2 hf] at e
  exact h D _ h' k (texts_of e) F' N' (topA_of hD)
theorem item_last {value slice : Expr} {l : Addr} {vs : List Value} {u : Tok} {x : Value} {Q : Value → Shared → Prop} (hl : s.heap.IsList l (vs ++ [x]).toArray) (h : Q x s)
    (hs : subscripted slice false (.ref l) (.int (-1) u) = operate [.ref l, .int (-1) u] (getItem (.ref l) (.int (-1) u)) := by with_unfolding_all rfl) (hg : ∀ r, letTemporaryGo value (.ref l) r = pure () := by intro _; with_unfolding_all rfl) :
    wpAny (model prog w) A (subscriptTail value slice (.ref l) (.int (-1) u)) Q E s :=
  subscriptTail_builtin hl.typeIs slot_list_getitem.lookup (wpAny_getItem_list_neg hl (by decide) (by simp; omega) (by decide) (by simp [show ((-1 : Int) + ((vs.length : Int) + 1)).toNat = vs.length by omega]) h) hs hg
end
theorem texts_split : ∀ {a b : List (List Nat)} {vs : List Value}, TextsAre vs (a ++ b) → ∃ va vb, vs = va ++ vb ∧ TextsAre va a ∧ TextsAre vb b
  | [], b, vs, h => ⟨[], vs, rfl, .nil, h⟩
  | w :: a, b, _, .cons _ t h => by
    obtain ⟨va, vb, rfl, h1, h2⟩ := texts_split h
    exact ⟨_ :: va, vb, rfl, .cons w t h1, h2⟩
noncomputable def ellFind (g : List Nat) (s e : Int) : List (List Nat) → Bool
  | [] => true
  | p :: r => if find4 (tx g) (tx p) s e < 0 then false else ellFind g (find4 (tx g) (tx p) s e + (p.length : Int)) e r
noncomputable def ellW (p : List Nat) : List (List Nat) := if p = [] then [[]] else []
noncomputable def ellQ (p0 pl : List Nat) (mid : List (List Nat)) (g : List Nat) : Bool :=
  Txt.startswith (tx g) (tx p0) && (Txt.endswith (tx g) (tx pl) && (decide ((p0.length : Int) ≤ (g.length : Int) - (pl.length : Int)) && ellFind g (p0.length : Int) ((g.length : Int) - (pl.length : Int)) (ellW p0 ++ (mid ++ ellW pl))))
theorem dots_mem_len : ∀ {parts : List (List Nat)}, ∀ p ∈ parts, p.length ≤ (dots parts).length
  | [q], p, h => by
    rw [List.mem_singleton.mp h]
    exact Nat.le_refl _
  | q :: r :: l, p, h => by
    have e : (dots (q :: r :: l)).length = q.length + 3 + (dots (r :: l)).length := by simp only [dots, List.length_append, List.length_cons]; omega
    rw [e]
    rcases List.mem_cons.mp h with rfl | h
    · omega
    · have := dots_mem_len p h
      omega
theorem starts_nil (g : List Nat) : Txt.startswith (tx g) (tx []) = true := by
  unfold Txt.startswith
  rw [Bool.and_eq_true, StrLaws.subAt_eq]
  simp [Str.length]
theorem seq_first {n : Nat} (h : 0 < n) : seqIndex? 0 n = some 0 := by
  unfold seqIndex?
  simp
  omega
theorem seq_last {n : Nat} : seqIndex? (-1) (n + 1) = some n := by
  unfold seqIndex?
  simp
  omega
theorem ends_nil (g : List Nat) : Txt.endswith (tx g) (tx []) = true := by
  unfold Txt.endswith
  rw [Bool.and_eq_true, StrLaws.subAt_eq]
  simp [Str.length]
theorem fr_name {h₀ h : Heap} {L : Addr} {m : Str → Option Value} (F : Fr h₀ L h m) {P : Prop} (k : ∀ g l, g = h₀ → l = L → P) : P := k _ _ rfl rfl
inductive MidGo (b : Bool) (t' : Tok) (g p : List Nat) (D : Addr) (g1 : Heap) (L1 : Addr) (zend : Int) (ds : List (List Nat)) (lv : List Value → List Value) (rest : Led) (f : Flow) (h' : Heap) : Prop
  | mk (e : f = .next) (e2 : b = true) (m' : Str → Option Value) (va : List Value) (k' : Nat) (ts te : Tok) (hM : Has m' [(Str.ofString "ws", .ref D), (Str.ofString "got", .str (tx g) t'), (Str.ofString "startpos", .int (p.length : Int) ts), (Str.ofString "endpos", .int zend te)]) (hva : TextsAre va ds) (hF : Fr g1 L1 h' m') (hN : News g1 L1 h' ((D, W.listOf (lv va).toArray k') :: rest))
inductive MidNo (b : Bool) (g1 : Heap) (L1 : Addr) (rest : Led) (f : Flow) (h' : Heap) : Prop
  | mk (e : f = .ret (.bool false)) (e2 : b = false) (m' : Str → Option Value) (hF : Fr g1 L1 h' m') (hN : News g1 L1 h' rest)
inductive EllInv (rest : Led) (p0 : List Nat) (pl : List Nat) (mid : List (List Nat)) (g : List Nat) (t' : Tok) (te : Tok) (D : Addr) (va : List Value) (k' : Nat) (dv : List Value) (m' : Str → Option Value) (nx : Led) : Prop
  | mk (ds : List (List Nat)) (x : Int) (tx' : Tok) (zh1 : TextsAre dv ds) (zh2 : (∀ p ∈ ds, p.length ≤ 1000)) (zh3 : ellFind g x ((g.length : Int) - (pl.length : Int)) ds = ellQ p0 pl mid g) (zh4 : Has m' [(Str.ofString "got", .str (tx g) t'), (Str.ofString "startpos", .int x tx'), (Str.ofString "endpos", .int ((g.length : Int) - (pl.length : Int)) te)]) (zh5 : nx = (D, W.listOf va.toArray k') :: rest)
theorem wp_hide {prog : Program} {w : World} {A : Around} {e : Sem Flow} {Q : Flow → Shared → Prop} {E : Value → Shared → Prop} {s : Shared} (h : ∀ R : Flow → Shared → Prop, (∀ f s', Q f s' → R f s') → wpAny (model prog w) A e R E s) : wpAny (model prog w) A e Q E s := h Q fun _ _ z => z
namespace Vell_match
noncomputable def At0 (w : World) (rest : Led) (p0 : List Nat) (pl : List Nat) (g : List Nat) (t : Tok) (t' : Tok) (z : TelV) : Prop := ∀ (mid : List (List Nat)) (hf : ∀ p ∈ p0 :: (mid ++ [pl]), 46 ∉ p) (hl : (dots (p0 :: (mid ++ [pl]))).length ≤ 1000) (hpl : (mid ++ [pl]).length ≤ 100) (hg : g.length ≤ 1000), TelAt w 2 100 (.ref 70) [.str (tx (dots (p0 :: (mid ++ [pl])))) t, .str (tx g) t'] rest (fun v news' => v = .bool (ellQ p0 pl mid g) ∧ news' = rest) z
noncomputable def w : World := eps1 ne_world (fun w => ∀ rest p0 pl g t t' z, At0 w rest p0 pl g t t' z)
noncomputable def rest : Led := eps1 ne_led (fun rest => ∀ p0 pl g t t' z, At0 w rest p0 pl g t t' z)
noncomputable def p0 : List Nat := eps1 ne_list (fun p0 => ∀ pl g t t' z, At0 w rest p0 pl g t t' z)
noncomputable def pl : List Nat := eps1 ne_list (fun pl => ∀ g t t' z, At0 w rest p0 pl g t t' z)
noncomputable def g : List Nat := eps1 ne_list (fun g => ∀ t t' z, At0 w rest p0 pl g t t' z)
noncomputable def t : Tok := eps1 ne_tok (fun t => ∀ t' z, At0 w rest p0 pl g t t' z)
noncomputable def t' : Tok := eps1 ne_tok (fun t' => ∀ z, At0 w rest p0 pl g t t' z)
noncomputable def v0 : TelV := eps1 telV_ne (fun z => At0 w rest p0 pl g t t' z)
noncomputable abbrev h₀ := v0.h₀
noncomputable abbrev L := v0.L
noncomputable abbrev s := v0.s
noncomputable abbrev Q := v0.Q
theorem aux (mid : List (List Nat)) (hf : ∀ p ∈ p0 :: (mid ++ [pl]), 46 ∉ p) (hl : (dots (p0 :: (mid ++ [pl]))).length ≤ 1000) (hpl : (mid ++ [pl]).length ≤ 100) (hg : g.length ≤ 1000) :
  TelAt w 2 100 (.ref 70) [.str (tx (dots (p0 :: (mid ++ [pl])))) t, .str (tx g) t'] rest (fun v news' => v = .bool (ellQ p0 pl mid g) ∧ news' = rest) v0 := by
  intro B F X N T C1 C2 C3 hk hd hu hret
  have hlen : ∀ p ∈ p0 :: (mid ++ [pl]), p.length ≤ 1000 := fun p hp => Nat.le_trans (dots_mem_len p hp) hl
  have hp0l := hlen p0 (.head _)
  have hpll := hlen pl (.tail _ (List.mem_append_right _ (.head _)))
  refine wpAny_call ?_
  k_dflt (first | (refine' code_defC ?k1 ?k2 ?k3 ?k4 ?k5 ?kA ?kF ?kK ?k6 ?k7 ?k8 ?k9 ?kB ?kD ?_ ?c2 ?c3 ?c4; (case kA => exact rfl); (case kF => exact rfl); (case kK => first | exact rfl | assumption); (case k1 => k_asm); (case k2 => k_asm); (case k3 => k_asm); (case k4 => k_asm); (case k5 => k_asm); (case k6 => k_is); (case k7 => k_is); (case k8 => k_room); (case k9 => first | exact BindsTo.of_eq rfl | exact binds_K (by k_in) rfl (by k_is) rfl rfl rfl | fail "k_enter: no rule for these arguments"); (case kB => exact rfl); (case kD => decide +kernel); (case c2 => exact rfl); (case c3 => exact rfl); (case c4 => exact rfl); k_whole; intro z9g z9L z9h z9tk z9cells z9FG z9F z9N z9Y z9B z9X z9T z9l1; (try k_lt z9l1); k_cells z9Y; (try simp only [List.cons_append, List.nil_append] at z9N); (try dsimp only); (try k_lift z9B); (try k_fold)) | cell_enter)
  (repeat' (first | (with_reducible refine if_ff ?_) | (with_reducible refine if_tt ?_) | (k_unfold; (try dsimp only)) | (k_end; wrow_close) | (cell_step; walk1) | (cell_step; dsimp only; walk1) | (leave1; walk_say "STEP leave1"; try dsimp only) | fail "no step"))
  walk1
  (repeat' (first | (with_reducible refine if_ff ?_) | (with_reducible refine if_tt ?_) | (k_unfold; (try dsimp only)) | (k_end; wrow_close) | (cell_step; walk1) | (cell_step; dsimp only; walk1) | (leave1; walk_say "STEP leave1"; try dsimp only) | fail "no step"))
  · rename (_ = true) => hh
    have hh2 : (Builtin.Str.occurrences (tx (dots (p0 :: (mid ++ [pl])))) (tx [46, 46, 46]) 0 (tx (dots (p0 :: (mid ++ [pl])))).length 1).isEmpty = false := by
      cases mid with
      | nil => exact dots_in p0 pl []
      | cons q r => exact dots_in p0 q (r ++ [pl])
    rw [dots3, hh2] at hh
    cases hh
  · rename Fr _ _ _ _ => F1
    rename News _ _ _ _ => N1
    refine split_tx F1 N1 (by simp) hf hl ?_
    intro D vs h4 k4 hvs F4 N4 hD
    (try dsimp only)
    (repeat' (first | (with_reducible refine if_ff ?_) | (with_reducible refine if_tt ?_) | (k_unfold; (try dsimp only)) | (k_end; wrow_close) | (cell_step; walk1) | (cell_step; dsimp only; walk1) | (leave1; walk_say "STEP leave1"; try dsimp only) | fail "no step"))
    rename Fr _ _ _ _ => F5
    rename News _ _ _ _ => N5
    have hvl := hvs.length
    rw [List.length_cons] at hvl
    have hvl2 : 2 ≤ vs.length := by rw [hvl, List.length_append, List.length_singleton]; omega
    refine PyProof.Rows.len_list (News.isList N5 (.head _)) (by rw [List.size_toArray]; omega) ?_
    (try dsimp only)
    (repeat' (first | (with_reducible refine if_ff ?_) | (with_reducible refine if_tt ?_) | (k_unfold; (try dsimp only)) | (k_end; wrow_close) | (cell_step; walk1) | (cell_step; dsimp only; walk1) | (leave1; walk_say "STEP leave1"; try dsimp only) | fail "no step"))
    refine PySem.P.len_str (by rw [tx_len]; omega) ?_
    (try dsimp only)
    rw [tx_len]
    (repeat' (first | (with_reducible refine if_ff ?_) | (with_reducible refine if_tt ?_) | (k_unfold; (try dsimp only)) | (k_end; wrow_close) | (cell_step; walk1) | (cell_step; dsimp only; walk1) | (leave1; walk_say "STEP leave1"; try dsimp only) | fail "no step"))
    rename Fr _ _ _ _ => F6
    rename News _ _ _ _ => N6
    obtain ⟨v0, vm, vl, rfl, hv0, hvm, tl, rfl⟩ : ∃ v0 vm vl, vs = v0 :: (vm ++ [vl]) ∧ (∃ t0, v0 = .str (tx p0) t0) ∧ TextsAre vm mid ∧ ∃ tl, vl = .str (tx pl) tl := by
      cases hvs with
      | cons _ t0 hvs =>
      obtain ⟨va, vb, rfl, h1, h2⟩ := texts_split hvs
      cases h2 with
      | cons _ tl h2 =>
      cases h2
      exact ⟨_, va, _, rfl, ⟨t0, rfl⟩, h1, tl, rfl⟩
    obtain ⟨t0, rfl⟩ := hv0
    refine PyProof.Rows.item_listL (News.isList N6 (.tail _ (.head _))) (by decide) (by decide) (x := .str (tx p0) t0) rfl ?_
    (repeat' (first | (with_reducible refine if_ff ?_) | (with_reducible refine if_tt ?_) | (k_unfold; (try dsimp only)) | (k_end; wrow_close) | (cell_step; walk1) | (cell_step; dsimp only; walk1) | (leave1; walk_say "STEP leave1"; try dsimp only) | fail "no step"))
    rename Fr _ _ _ _ => F7
    rename News _ _ _ _ => N7
    refine fr_name F7 fun g1 L1 eg eL => ?_
    subst eg eL
    have N8 := news_tail N7
    clear N7
    have hD0 : ∀ p ∈ rest, p.1 ≠ D := topA_ne hD
    have F8 := fr_all0 (ps := [(Str.ofString "ws", .ref D), (Str.ofString "w", .str (tx p0) t0), (Str.ofString "got", .str (tx g) t'), (Str.ofString "startpos", .int 0 _), (Str.ofString "endpos", .int (g.length : Int) _)]) ⟨rfl, rfl, rfl, rfl, rfl, trivial⟩ F7
    clear F7
    refine wpAny_mono (Q := fun f s' => ∃ h' tk', s' = { s with heap := h', toks := tk' } ∧ (MidGo (Txt.startswith (tx g) (tx p0)) t' g p0 D g1 L1 (g.length : Int) (ellW p0 ++ mid) (fun va => va ++ [Value.str (tx pl) tl]) rest f h' ∨ MidNo (Txt.startswith (tx g) (tx p0)) g1 L1 rest f h')) ?first ?second (fun _ _ e => e)
    case first =>
      refine wp_hide (fun R9 hR9 => ?_)
      walk1
      (repeat' (first | (with_reducible refine if_ff ?_) | (with_reducible refine if_tt ?_) | (k_unfold; (try dsimp only)) | (k_end; wrow_close) | (cell_step; walk1) | (cell_step; dsimp only; walk1) | (leave1; walk_say "STEP leave1"; try dsimp only) | fail "no step"))
      by_cases hp0 : p0 = []
      · refine KXt.truthy (b := false) (by rw [hp0]; rfl) (by rw [tx_len, hp0]; decide) (fun k7 => ?_)
        (repeat' (first | (with_reducible refine if_ff ?_) | (with_reducible refine if_tt ?_) | (k_unfold; (try dsimp only)) | (k_end; wrow_close) | (cell_step; walk1) | (cell_step; dsimp only; walk1) | (leave1; walk_say "STEP leave1"; try dsimp only) | fail "no step"))
        have hta : TextsAre (.str (tx p0) t0 :: vm) (ellW p0 ++ mid) := by
          unfold ellW
          rw [if_pos hp0, hp0]
          exact .cons _ _ hvm
        refine hR9 _ _ ?_
        exact ⟨_, _, rfl, .inl ⟨rfl, by rw [hp0]; exact starts_nil g, _, .str (tx p0) t0 :: vm, 0, _, _, ⟨rfl, rfl, by rw [hp0]; rfl, rfl, trivial⟩, hta, F8, N8⟩⟩
      · refine KXt.truthy (b := true) (by rw [tx_len]; simp [hp0]) (by rw [tx_len]; omega) (fun k7 => ?_)
        (repeat' (first | (with_reducible refine if_ff ?_) | (with_reducible refine if_tt ?_) | (k_unfold; (try dsimp only)) | (k_end; wrow_close) | (cell_step; walk1) | (cell_step; dsimp only; walk1) | (leave1; walk_say "STEP leave1"; try dsimp only) | fail "no step"))
        walk1
        (repeat' (first | (with_reducible refine if_ff ?_) | (with_reducible refine if_tt ?_) | (k_unfold; (try dsimp only)) | (k_end; wrow_close) | (cell_step; walk1) | (cell_step; dsimp only; walk1) | (leave1; walk_say "STEP leave1"; try dsimp only) | fail "no step"))
        · refine PySem.P.len_str (by rw [tx_len]; omega) ?_
          (try dsimp only)
          rw [tx_len]
          (repeat' (first | (with_reducible refine if_ff ?_) | (with_reducible refine if_tt ?_) | (k_unfold; (try dsimp only)) | (k_end; wrow_close) | (cell_step; walk1) | (cell_step; dsimp only; walk1) | (leave1; walk_say "STEP leave1"; try dsimp only) | fail "no step"))
          rename Fr _ _ _ _ => F9
          rename News _ _ _ _ => N9
          refine delItem_head F9 N9 hD0 (by decide) (seq_first (by simp)) ?_ (by rw [List.size_toArray, sizeLine_eq, hvl]; omega)
          intro h10 F10 N10
          (try dsimp only)
          (repeat' (first | (with_reducible refine if_ff ?_) | (with_reducible refine if_tt ?_) | (k_unfold; (try dsimp only)) | (k_end; wrow_close) | (cell_step; walk1) | (cell_step; dsimp only; walk1) | (leave1; walk_say "STEP leave1"; try dsimp only) | fail "no step"))
          rename Fr _ _ _ _ => F11
          rename News _ _ _ _ => N11
          have hta : TextsAre vm (ellW p0 ++ mid) := by
            unfold ellW
            rw [if_neg hp0]
            exact hvm
          refine hR9 _ _ ?_
          exact ⟨_, _, rfl, .inl ⟨rfl, by assumption, _, vm, _, _, _, ⟨rfl, rfl, rfl, rfl, trivial⟩, hta, F11, N11⟩⟩
        · rename Fr _ _ _ _ => F9
          rename News _ _ _ _ => N9
          refine hR9 _ _ ?_
          exact ⟨_, _, rfl, .inr ⟨rfl, by assumption, _, F9, news_tail N9⟩⟩
    case second =>
      rintro f s' ⟨h', tk', rfl, ⟨rfl, hst, m', va, k', ts, te, hM, hva, F10, N10⟩ | ⟨rfl, hst, m', F10, N10⟩⟩
      · (try dsimp only)
        have F11 := fr_all0 hM F10
        clear F10
        have hval := hva.length
        rw [List.length_append] at hval
        have hw0 : (ellW p0).length ≤ 1 := by unfold ellW; split <;> simp
        rw [List.length_append, List.length_singleton] at hpl
        (repeat' (first | (with_reducible refine if_ff ?_) | (with_reducible refine if_tt ?_) | (k_unfold; (try dsimp only)) | (k_end; wrow_close) | (cell_step; walk1) | (cell_step; dsimp only; walk1) | (leave1; walk_say "STEP leave1"; try dsimp only) | fail "no step"))
        refine item_last (News.isList N10 (.head _)) ?_
        (repeat' (first | (with_reducible refine if_ff ?_) | (with_reducible refine if_tt ?_) | (k_unfold; (try dsimp only)) | (k_end; wrow_close) | (cell_step; walk1) | (cell_step; dsimp only; walk1) | (leave1; walk_say "STEP leave1"; try dsimp only) | fail "no step"))
        rename Fr _ _ _ _ => F12
        refine wpAny_mono (Q := fun f s' => ∃ h' tk', s' = { s with heap := h', toks := tk' } ∧ (MidGo (Txt.endswith (tx g) (tx pl)) t' g p0 D g1 L1 ((g.length : Int) - (pl.length : Int)) (ellW p0 ++ (mid ++ ellW pl)) (fun va => va) rest f h' ∨ MidNo (Txt.endswith (tx g) (tx pl)) g1 L1 rest f h')) ?third ?fourth (fun _ _ e => e)
        case third =>
          refine wp_hide (fun R9 hR9 => ?_)
          walk1
          (repeat' (first | (with_reducible refine if_ff ?_) | (with_reducible refine if_tt ?_) | (k_unfold; (try dsimp only)) | (k_end; wrow_close) | (cell_step; walk1) | (cell_step; dsimp only; walk1) | (leave1; walk_say "STEP leave1"; try dsimp only) | fail "no step"))
          by_cases hp1 : pl = []
          · refine KXt.truthy (b := false) (by rw [hp1]; rfl) (by rw [tx_len, hp1]; decide) (fun k7 => ?_)
            (repeat' (first | (with_reducible refine if_ff ?_) | (with_reducible refine if_tt ?_) | (k_unfold; (try dsimp only)) | (k_end; wrow_close) | (cell_step; walk1) | (cell_step; dsimp only; walk1) | (leave1; walk_say "STEP leave1"; try dsimp only) | fail "no step"))
            have hta : TextsAre (va ++ [Value.str (tx pl) tl]) (ellW p0 ++ (mid ++ ellW pl)) := by
              rw [← List.append_assoc]
              refine hva.append ?_
              unfold ellW
              rw [if_pos hp1, hp1]
              exact .cons _ _ .nil
            have hz : (g.length : Int) - (pl.length : Int) = (g.length : Int) := by rw [hp1]; exact Int.sub_zero _
            rename Fr _ _ _ _ => F13
            rename News _ _ _ _ => N13
            refine hR9 _ _ ?_
            rw [hz]
            exact ⟨_, _, rfl, .inl ⟨rfl, by rw [hp1]; exact ends_nil g, _, _, _, ts, te, ⟨rfl, rfl, rfl, rfl, trivial⟩, hta, F13, N13⟩⟩
          · refine KXt.truthy (b := true) (by rw [tx_len]; simp [hp1]) (by rw [tx_len]; omega) (fun k7 => ?_)
            (repeat' (first | (with_reducible refine if_ff ?_) | (with_reducible refine if_tt ?_) | (k_unfold; (try dsimp only)) | (k_end; wrow_close) | (cell_step; walk1) | (cell_step; dsimp only; walk1) | (leave1; walk_say "STEP leave1"; try dsimp only) | fail "no step"))
            walk1
            (repeat' (first | (with_reducible refine if_ff ?_) | (with_reducible refine if_tt ?_) | (k_unfold; (try dsimp only)) | (k_end; wrow_close) | (cell_step; walk1) | (cell_step; dsimp only; walk1) | (leave1; walk_say "STEP leave1"; try dsimp only) | fail "no step"))
            · refine PySem.P.len_str (by rw [tx_len]; omega) ?_
              (try dsimp only)
              rw [tx_len]
              (repeat' (first | (with_reducible refine if_ff ?_) | (with_reducible refine if_tt ?_) | (k_unfold; (try dsimp only)) | (k_end; wrow_close) | (cell_step; walk1) | (cell_step; dsimp only; walk1) | (leave1; walk_say "STEP leave1"; try dsimp only) | fail "no step"))
              rename Fr _ _ _ _ => F13
              rename News _ _ _ _ => N13
              refine delItem_head F13 N13 hD0 (by decide) (k := va.length) (by rw [List.size_toArray, List.length_append, List.length_singleton]; exact seq_last) ?_ (by rw [List.size_toArray, sizeLine_eq, List.length_append, List.length_singleton]; omega)
              intro h14 F14 N14
              (try dsimp only)
              (repeat' (first | (with_reducible refine if_ff ?_) | (with_reducible refine if_tt ?_) | (k_unfold; (try dsimp only)) | (k_end; wrow_close) | (cell_step; walk1) | (cell_step; dsimp only; walk1) | (leave1; walk_say "STEP leave1"; try dsimp only) | fail "no step"))
              rename Fr _ _ _ _ => F15
              rename News _ _ _ _ => N15
              have hta : TextsAre va (ellW p0 ++ (mid ++ ellW pl)) := by
                unfold ellW at hva ⊢
                rw [if_neg hp1, List.append_nil]
                exact hva
              have hcut : ((va ++ [Value.str (tx pl) tl]).toArray.toList.eraseIdx va.length) = va := by
                rw [List.toList_toArray, List.eraseIdx_append_of_length_le (Nat.le_refl _), Nat.sub_self]
                simp
              rw [hcut] at N15
              refine hR9 _ _ ?_
              exact ⟨_, _, rfl, .inl ⟨rfl, by assumption, _, va, _, _, _, ⟨rfl, rfl, rfl, rfl, trivial⟩, hta, F15, N15⟩⟩
            · rename Fr _ _ _ _ => F13
              rename News _ _ _ _ => N13
              refine hR9 _ _ ?_
              exact ⟨_, _, rfl, .inr ⟨rfl, by assumption, _, F13, news_tail N13⟩⟩
        case fourth =>
          rintro f s' ⟨h', tk', rfl, ⟨rfl, hen, m', va, k', ts, te, hM, hva, F20, N20⟩ | ⟨rfl, hen, m', F20, N20⟩⟩
          · (try dsimp only)
            have F21 := fr_all0 hM F20
            clear F20
            (repeat' (first | (with_reducible refine if_ff ?_) | (with_reducible refine if_tt ?_) | (k_unfold; (try dsimp only)) | (k_end; wrow_close) | (cell_step; walk1) | (cell_step; dsimp only; walk1) | (leave1; walk_say "STEP leave1"; try dsimp only) | fail "no step"))
            walk1
            (repeat' (first | (with_reducible refine if_ff ?_) | (with_reducible refine if_tt ?_) | (k_unfold; (try dsimp only)) | (k_end; wrow_close) | (cell_step; walk1) | (cell_step; dsimp only; walk1) | (leave1; walk_say "STEP leave1"; try dsimp only) | fail "no step"))
            · rename Fr h₀ L _ _ => kF
              rename News h₀ L _ _ => kN
              rename ((g.length : Int) - (pl.length : Int) < _) => hh
              exact hret _ _ _ _ kF (news_tail kN) ⟨by unfold ellQ; rw [decide_eq_false (by omega), Bool.false_and, Bool.and_false, Bool.and_false], rfl⟩
            rename (¬ (_ < _)) => hh
            have hQ : ellQ p0 pl mid g = ellFind g (p0.length : Int) ((g.length : Int) - (pl.length : Int)) (ellW p0 ++ (mid ++ ellW pl)) := by unfold ellQ; rw [hst, hen, decide_eq_true (by omega), Bool.true_and, Bool.true_and, Bool.true_and]
            (rename Fr _ _ _ _ => lF')
            (with_unfolding_all refine' For_invVF lF' ?k1 ?k2 ?_; (case k1 => exact rfl); (case k2 => exact rfl))
            (repeat' (first | (with_reducible refine if_ff ?_) | (with_reducible refine if_tt ?_) | (k_unfold; (try dsimp only)) | (k_end; wrow_close) | (cell_step; walk1) | (cell_step; dsimp only; walk1) | (leave1; walk_say "STEP leave1"; try dsimp only) | fail "no step"))
            rename Fr _ _ _ _ => F22
            rename News _ _ _ _ => N22
            refine' iter_listUnr (ax := D) (lo := W.listOf va.toArray k') (vs := va) rfl F22 N22 (.head _) rfl rfl ?rest
            case rest =>
            intro I hI
            have hws : ∀ p ∈ ellW p0 ++ (mid ++ ellW pl), p.length ≤ 1000 := by
              intro p hp
              rcases List.mem_append.mp hp with hp | hp
              · unfold ellW at hp
                split at hp
                · rw [List.mem_singleton.mp hp]; simp
                · cases hp
              · rcases List.mem_append.mp hp with hp | hp
                · exact hlen p (.tail _ (List.mem_append_left _ hp))
                · unfold ellW at hp
                  split at hp
                  · rw [List.mem_singleton.mp hp]; simp
                  · cases hp
            refine listRest_indR (EllInv rest p0 pl mid g t' te D va k') ?zero ?succ _ _ _ ?init
            case init =>
              exact ⟨_, _, ts, hva, hws, hQ.symm, ⟨rfl, rfl, rfl, trivial⟩, rfl⟩
            case zero =>
              rintro m6 nx ⟨ds, x, tx', hds, hdl, hx, hM6, rfl⟩ h6 tk6 F6 N6
              cases hds
              (try dsimp only)
              (repeat' (first | (with_reducible refine if_ff ?_) | (with_reducible refine if_tt ?_) | (k_unfold; (try dsimp only)) | (k_end; wrow_close) | (cell_step; walk1) | (cell_step; dsimp only; walk1) | (leave1; walk_say "STEP leave1"; try dsimp only) | fail "no step"))
              rename Fr h₀ L _ _ => kF
              rename News h₀ L _ _ => kN
              exact hret _ _ _ _ kF (news_tail kN) ⟨by rw [← hx]; rfl, rfl⟩
            case succ =>
              rintro v rv m6 nx ⟨ds, x, tx', hds, hdl, hx, hM6, rfl⟩ it h6 tk6 hit F6 N6 R9 hR9
              cases hds with
              | cons p tp hds' =>
              rename_i ds'
              have F7 := fr_all hM6 F6
              clear F6
              have hpp := hdl p (.head _)
              (repeat' (first | (with_reducible refine if_ff ?_) | (with_reducible refine if_tt ?_) | (k_unfold; (try dsimp only)) | (k_end; wrow_close) | (cell_step; walk1) | (cell_step; dsimp only; walk1) | (leave1; walk_say "STEP leave1"; try dsimp only) | fail "no step"))
              refine call_find4 ?_
              (try dsimp only)
              (repeat' (first | (with_reducible refine if_ff ?_) | (with_reducible refine if_tt ?_) | (k_unfold; (try dsimp only)) | (k_end; wrow_close) | (cell_step; walk1) | (cell_step; dsimp only; walk1) | (leave1; walk_say "STEP leave1"; try dsimp only) | fail "no step"))
              walk1
              (repeat' (first | (with_reducible refine if_ff ?_) | (with_reducible refine if_tt ?_) | (k_unfold; (try dsimp only)) | (k_end; wrow_close) | (cell_step; walk1) | (cell_step; dsimp only; walk1) | (leave1; walk_say "STEP leave1"; try dsimp only) | fail "no step"))
              · refine hR9 _ _ ?_
                (try dsimp only [UnrPost])
                (repeat' (first | (with_reducible refine if_ff ?_) | (with_reducible refine if_tt ?_) | (k_unfold; (try dsimp only)) | (k_end; wrow_close) | (cell_step; walk1) | (cell_step; dsimp only; walk1) | (leave1; walk_say "STEP leave1"; try dsimp only) | fail "no step"))
                rename Fr h₀ L _ _ => kF
                rename News h₀ L _ _ => kN
                rename (find4 _ _ _ _ < 0) => hneg
                exact hret _ _ _ _ kF (news_tail (news_tail kN)) ⟨by rw [← hx]; unfold ellFind; rw [if_pos hneg], rfl⟩
              · refine PySem.P.len_str (by rw [tx_len]; omega) ?_
                (try dsimp only)
                rw [tx_len]
                (repeat' (first | (with_reducible refine if_ff ?_) | (with_reducible refine if_tt ?_) | (k_unfold; (try dsimp only)) | (k_end; wrow_close) | (cell_step; walk1) | (cell_step; dsimp only; walk1) | (leave1; walk_say "STEP leave1"; try dsimp only) | fail "no step"))
                rename Fr _ _ _ _ => F8
                rename News _ _ _ _ => N8
                rename (¬ (find4 _ _ _ _ < 0)) => hpos
                refine hR9 _ _ ?_
                show UnrEnd _ _ _ _ _ _ _
                refine UnrEnd.intro F8 N8 _ (fun p hp => hp) (topA_ne (by exact topA_of hI)) ⟨.head _, ds', _, _, hds', fun q hq => hdl q (.tail _ hq), ?_, ⟨rfl, rfl, rfl, trivial⟩, rfl⟩
                rw [← hx]
                conv => rhs; unfold ellFind
                rw [if_neg hpos]
          · (try dsimp only)
            (repeat' (first | (with_reducible refine if_ff ?_) | (with_reducible refine if_tt ?_) | (k_unfold; (try dsimp only)) | (k_end; wrow_close) | (cell_step; walk1) | (cell_step; dsimp only; walk1) | (leave1; walk_say "STEP leave1"; try dsimp only) | fail "no step"))
            rename Fr h₀ L _ _ => kF
            rename News h₀ L _ _ => kN
            exact hret _ _ _ _ kF kN ⟨by unfold ellQ; rw [hen, Bool.false_and, Bool.and_false], rfl⟩
      · (try dsimp only)
        (repeat' (first | (with_reducible refine if_ff ?_) | (with_reducible refine if_tt ?_) | (k_unfold; (try dsimp only)) | (k_end; wrow_close) | (cell_step; walk1) | (cell_step; dsimp only; walk1) | (leave1; walk_say "STEP leave1"; try dsimp only) | fail "no step"))
        rename Fr h₀ L _ _ => kF
        rename News h₀ L _ _ => kN
        exact hret _ _ _ _ kF kN ⟨by unfold ellQ; rw [hst]; rfl, rfl⟩
end Vell_match
theorem ell_match (w : World) (rest : Led) (p0 pl : List Nat) (mid : List (List Nat)) (g : List Nat) (t t' : Tok) (hf : ∀ p ∈ p0 :: (mid ++ [pl]), 46 ∉ p) (hl : (dots (p0 :: (mid ++ [pl]))).length ≤ 1000) (hpl : (mid ++ [pl]).length ≤ 100) (hg : g.length ≤ 1000) :
  Tel w 2 100 (.ref 70) [.str (tx (dots (p0 :: (mid ++ [pl])))) t, .str (tx g) t'] rest (fun v news' => v = .bool (ellQ p0 pl mid g) ∧ news' = rest) := tel_of fun z => (show ∀ w rest p0 pl g t t' z, Vell_match.At0 w rest p0 pl g t t' z from (eps1_all (eps1_all (eps1_all (eps1_all (eps1_all (eps1_all (eps1_all (eps1_all @Vell_match.aux))))))))) w rest p0 pl g t t' z mid hf hl hpl hg
end
section
theorem starts_is (g p : List Nat) : Txt.startswith (tx g) (tx p) = decide (p <+: g) := by
  unfold Txt.startswith
  rw [StrLaws.subAt_eq, Bool.eq_iff_iff, Bool.and_eq_true, decide_eq_true_eq, decide_eq_true_eq, beq_iff_eq]
  simp only [Str.length, List.size_toArray, Nat.zero_add, List.drop_zero]
  constructor
  · rintro ⟨_, h⟩
    rw [← h]
    exact List.take_prefix _ _
  · intro h
    exact ⟨h.length_le, (List.prefix_iff_eq_take.mp h).symm⟩
theorem ends_is (g p : List Nat) : Txt.endswith (tx g) (tx p) = decide (p <:+ g) := by
  unfold Txt.endswith
  rw [StrLaws.subAt_eq, Bool.eq_iff_iff, Bool.and_eq_true, decide_eq_true_eq, decide_eq_true_eq, beq_iff_eq]
  simp only [Str.length, List.size_toArray, Nat.zero_add]
  constructor
  · rintro ⟨h1, h⟩
    rw [List.take_of_length_le (by rw [List.length_drop]; omega)] at h
    rw [← h]
    exact List.drop_suffix _ _
  · intro h
    refine ⟨h.length_le, ?_⟩
    have h2 := List.suffix_iff_eq_drop.mp h
    rw [List.take_of_length_le (by rw [List.length_drop]; omega)]
    exact h2.symm
theorem ellW_find (g p : List Nat) (s e : Nat) (r : List (List Nat)) (h : s ≤ e) (he : e ≤ g.length) : ellFind g s e (ellW p ++ r) = ellFind g s e r := by
  unfold ellW
  split
  · show ellFind g s e ([] :: r) = _
    rw [ellFind, find4_none g s e h he, if_neg (by omega)]
    simp
  · rfl
theorem ellQ_two (a b g : List Nat) : ellQ a b [] g = (decide (a <+: g) && (decide (b <:+ g) && decide (a.length + b.length ≤ g.length))) := by
  unfold ellQ
  rw [starts_is, ends_is]
  by_cases h1 : a <+: g
  · by_cases h2 : b <:+ g
    · by_cases h3 : a.length + b.length ≤ g.length
      · have hz : (g.length : Int) - (b.length : Int) = ((g.length - b.length : Nat) : Int) := by omega
        rw [decide_eq_true h1, decide_eq_true h2, decide_eq_true h3, decide_eq_true (by omega), hz, ellW_find g a _ _ _ (by omega) (by omega), List.nil_append, ← List.append_nil (ellW b), ellW_find g b _ _ _ (by omega) (by omega)]
        rfl
      · rw [decide_eq_false h3, decide_eq_false (show ¬ ((a.length : Int) ≤ (g.length : Int) - (b.length : Int)) by omega)]
        simp
    · rw [decide_eq_false h2]; simp
  · rw [decide_eq_false h1]; simp
theorem ell_gap (a m b : List Nat) : ellQ a b [] (a ++ m ++ b) = true := by
  rw [ellQ_two, decide_eq_true (by rw [List.append_assoc]; exact List.prefix_append _ _), decide_eq_true (List.suffix_append _ _), decide_eq_true (by simp only [List.length_append]; omega)]
  rfl
theorem ell_front (a r b : List Nat) (u v : Nat) (h : u ≠ v) : ellQ (a ++ [v]) b [] (a ++ u :: r) = false := by
  rw [ellQ_two, decide_eq_false, Bool.false_and]
  intro hp
  have h1 := (List.prefix_append_right_inj a).mp hp
  obtain ⟨t, ht⟩ := h1
  simp at ht
  exact h ht.1.symm
theorem ell_end (a r b : List Nat) (u v : Nat) (h : u ≠ v) : ellQ a (u :: b) [] (r ++ v :: b) = false := by
  rw [ellQ_two, decide_eq_false (p := (u :: b) <:+ (r ++ v :: b)), Bool.false_and, Bool.and_false]
  rintro ⟨t, ht⟩
  have h2 := congrArg List.length ht
  simp only [List.length_append, List.length_cons] at h2
  obtain ⟨_, h3⟩ := List.append_inj ht (by omega)
  simp at h3
  exact h h3
end
end
section
local macro_rules | `(tactic| cell_step) => `(tactic| (walk_at "s1"; walk_at "s2"; walk_at "t2"))
local macro_rules | `(tactic| walk_at "binaryOp Mult int int") => `(tactic| (with_reducible refine mul_int (hm := by assumption) ?_))
local macro_rules | `(tactic| walk_at "binaryOp Pow int int") => `(tactic| (with_reducible refine pow_int_small (by decide) (by decide) (by assumption) ?_))
local macro_rules | `(tactic| walk_at "newList") => `(tactic| walk_at "t3")
local macro_rules | `(tactic| walk_at "newTuple") => `(tactic| walk_at "t4")
section
theorem tape_at (A B : List (List Int)) (r : List Int) (hb : 0 ≤ trac r ∧ trac r < 2 ^ (6 * (69 + 1))) : ∃ ds e, tapeOf (A ++ r :: B) = tapeOf A ++ (ds.map (· + 64) ++ e :: tapeOf B) ∧ (∀ d ∈ ds, 0 ≤ d ∧ d < 64) ∧ (0 ≤ e ∧ e < 64) ∧ vint (ds ++ [e]) = trac r ∧ ds.length ≤ 3000 ∧ (tapeOf (A ++ [r])).length = (tapeOf A).length + ds.length + 1 := by
  obtain ⟨ds, e, h1, h2, h3, h4, h5⟩ := octN_is hb.1 hb.2
  refine ⟨ds, e, ?_, h2, h3, h4, by omega, ?_⟩
  · unfold tapeOf
    rw [List.flatMap_append, List.flatMap_cons, h1]
    simp
  · rw [tapeOf_snoc, h1]
    simp
    omega
noncomputable def TapeAt (io : Obj) (Dt : Addr) (n : Nat) : Prop := io.cls = .type "list_iterator" ∧ io.data = .fields #[.ref Dt, .int n 0]
theorem next_num (w : World) (post : Led) (I Dt : Addr) (zs : List Value) (A B : List (List Int)) (r : List Int) (io : Obj) (hI : ∀ p ∈ post, p.1 ≠ I) (hio : TapeAt io Dt (tapeOf A).length) (hm : (Dt, LCg.lst zs) ∈ post) (hz : IntsAre zs (tapeOf (A ++ r :: B))) (hb : 0 ≤ trac r ∧ trac r < 2 ^ (6 * (69 + 1))) :
  Tel w 2 100 (.ref 63) [.ref I] ((I, io) :: post) (fun v news' => ∃ t io', v = .int (trac r) t ∧ news' = (I, io') :: post ∧ TapeAt io' Dt (tapeOf (A ++ [r])).length) := by
  obtain ⟨ds, e, h1, h2, h3, h4, h5, h6⟩ := tape_at A B r hb
  have H := parse_varint w [] post I Dt zs _ (tapeOf A) ds (tapeOf B) e zs.length io (fun p hp => nomatch hp) hI hio.1 hio.2 hm hz h1 h2 h3 h5
  intro mean mg mb dp un gd cn cs ad ccd cl outer A₀ base h₀ L m s Q E B' F X N T C1 C2 C3 hk' hd hu hret
  refine H mean mg mb dp un gd cn cs ad ccd cl outer A₀ base h₀ L m s Q E B' F X N T C1 C2 C3 hk' hd hu ?_
  rintro v h' tk' news' F' N' ⟨t, io', rfl, rfl, g1, g2⟩
  rw [h4] at *
  exact hret _ h' tk' _ F' N' ⟨t, io', rfl, rfl, g1, by rw [h6]; exact g2⟩
theorem it_shaped (ns : List Int) : SeqAt.shaped (.tuple (ns.map PyData.int)) = true := by
  simp [SeqAt.shaped, PyData.canLay0, PyData.depth, ke_canLayAll0, ke_depthAll]
theorem it_same (ns ms : List Int) : PySem.Spec.same (.tuple (ns.map PyData.int)) (.tuple (ms.map PyData.int)) = decide (ns = ms) := by
  simp only [PySem.Spec.same]; exact ke_sameAll ns ms
section
variable {prog : Program} {w : World} {A : Around} {E : Value → Shared → Prop} {s : Shared} {a b : Addr} {xs ys : List Value} {ns ms : List Int} {Q : Value → Shared → Prop}
theorem it_ne (ha : IsTup s.heap a xs.toArray) (hb : IsTup s.heap b ys.toArray) (hi : IntsAre xs ns) (hj : IntsAre ys ms) (hu : A.units + 64 < cLine) (h : Q (.bool (!decide (ns = ms))) s) :
    wpAny (model prog w) A (compareOp .NotEq (.ref a) (.ref b)) Q E s :=
  ne_dataH_same (reads_newDataT ha (ke_carried hi)) (reads_newDataT hb (ke_carried hj)) (it_shaped _) (it_shaped _) hu (SeqAt.noMix_of_shape (.tuples .int) rfl _ _ (tuples_map_has fun _ => rfl) (tuples_map_has fun _ => rfl)) (by rw [it_same]; exact h)
end
theorem trac_two (a b : Int) : trac [a, b] = a * b + 2 := by
  simp [trac, sq, sqStep]
  omega
theorem row_u (u : Nat) (c d e f : Int) : rowOf u c d e f [u] = [c, d] := by simp [rowOf]
theorem row_v (u v : Nat) (c d e f : Int) (h : u ≠ v) : rowOf u c d e f [v] = [e, f] := by simp [rowOf, Ne.symm h]
theorem bits64 {x : Int} (h1 : -(2 ^ 63) ≤ x) (h2 : x ≤ 2 ^ 63) : Builtin.Int.intBits x ≤ 64 := intBits_le_iff.mpr (by
  have : x.natAbs ≤ 2 ^ 63 := by omega
  omega)
theorem prod_small {a b : Int} (ha : 1 ≤ a ∧ a ≤ 4096) (hb : 1 ≤ b ∧ b ≤ 4096) : 1 ≤ a * b ∧ a * b ≤ 2 ^ 24 := by
  constructor
  · exact Int.mul_pos (by omega) (by omega)
  · exact Int.le_trans (Int.mul_le_mul ha.2 hb.2 (by omega) (by decide)) (by decide)
noncomputable abbrev R5 (L D1 D4 Dr Dt : Addr) (vs1 rs ysr zs : List Value) (k1 kk : Nat) (o1 o2 o3 o4 o5 o6 o7 o8 o9 : Obj) (tb TL : Led) : Led := (Dt, LCg.lst zs) :: (Dr, LCg.lst ysr) :: R4 L D1 D4 vs1 rs k1 kk o1 o2 o3 o4 o5 o6 o7 o8 o9 tb TL
inductive P11 (L : Addr) (tb : Led) (TL : Led) (o1 : Obj) (o2 : Obj) (o3 : Obj) (o4 : Obj) (o5 : Obj) (o6 : Obj) (o7 : Obj) (o8 : Obj) (o9 : Obj) (D1 : Addr) (D4 : Addr) (Dr : Addr) (Dt : Addr) (I : Addr) (S : Addr) (tcs : Str) (tt : Tok) (vs1 : List Value) (rs : List Value) (ysr : List Value) (zs : List Value) (k1 : Nat) (kk : Nat) (c : Int) (d : Int) (e : Int) (f : Int) (m' : Str → Option Value) (news' : Led) : Prop
  | mk (tx') (tz') (td') (tk') (io : Obj) (zh1 : Has m' ((Str.ofString "x", .int (c * d + 2) tx') :: (Str.ofString "z", .int (e * f + 2) tz') :: (Str.ofString "due", .int ((c * d + 1) * (e * f + 1) + c * f + d * e + 1) td') :: (Str.ofString "kept", .int (4 + (c * f - d * e) ^ 2 - c * d * e * f * (c - e) * (d - f)) tk') :: (Str.ofString "tape", .ref I) :: (Str.ofString "rows", .ref Dr) :: names5 D1 D4 S tcs tt)) (zh2 : TapeAt io Dt (tapeOf [[c, d], [e, f]]).length) (zh3 : news' = (I, io) :: R5 L D1 D4 Dr Dt vs1 rs ysr zs k1 kk o1 o2 o3 o4 o5 o6 o7 o8 o9 tb TL)
namespace Vstage11
noncomputable def At0 (w : World) (fa : Addr) (cd : Value) (L : Addr) (m : Str → Option Value) (tb : Led) (TL : Led) (o1 : Obj) (o2 : Obj) (o3 : Obj) (o4 : Obj) (o5 : Obj) (o6 : Obj) (o7 : Obj) (o8 : Obj) (o9 : Obj) (D1 : Addr) (D4 : Addr) (Dr : Addr) (Dt : Addr) (I : Addr) (S : Addr) (tcs : Str) (tt : Tok) (vs1 : List Value) (rs : List Value) (ysr : List Value) (zs : List Value) (k1 : Nat) (kk : Nat) (c : Int) (d : Int) (e : Int) (f : Int) (tc : Tok) (td : Tok) (te : Tok) (tf : Tok) (B : List (List Int)) (z : StgV) : Prop := ∀ (e6 : o6.data = .cell (some (.int c tc))) (e7 : o7.data = .cell (some (.int d td))) (e8 : o8.data = .cell (some (.int e te))) (e9 : o9.data = .cell (some (.int f tf))) (hc : 1 ≤ c ∧ c ≤ 4096) (hd : 1 ≤ d ∧ d ≤ 4096) (he : 1 ≤ e ∧ e ≤ 4096) (hf : 1 ≤ f ∧ f ≤ 4096) (hz : IntsAre zs (tapeOf ([c, d] :: [e, f] :: B))) (hI : ∀ p ∈ R5 L D1 D4 Dr Dt vs1 rs ysr zs k1 kk o1 o2 o3 o4 o5 o6 o7 o8 o9 tb TL, p.1 ≠ I) (hM : Has m ((Str.ofString "tape", .ref I) :: (Str.ofString "rows", .ref Dr) :: names5 D1 D4 S tcs tt)), StgAt w fa cd L 15 5 (fun h => True) m ((I, liO Dt 0) :: R5 L D1 D4 Dr Dt vs1 rs ysr zs k1 kk o1 o2 o3 o4 o5 o6 o7 o8 o9 tb TL)
    (P11 L tb TL o1 o2 o3 o4 o5 o6 o7 o8 o9 D1 D4 Dr Dt I S tcs tt vs1 rs ysr zs k1 kk c d e f) z
noncomputable def AtX (x : (World) × (Addr) × (Value) × (Addr) × (Str → Option Value) × (Led) × (Led) × (Obj) × (Obj) × (Obj) × (Obj) × (Obj) × (Obj) × (Obj) × (Obj) × (Obj) × (Addr) × (Addr) × (Addr) × (Addr) × (Addr) × (Addr) × (Str) × (Tok) × (List Value) × (List Value) × (List Value) × (List Value) × (Nat) × (Nat) × (Int) × (Int) × (Int) × (Int) × (Tok) × (Tok) × (Tok) × (Tok) × (List (List Int)) × StgV) : Prop := At0 (x.1) (x.2.1) (x.2.2.1) (x.2.2.2.1) (x.2.2.2.2.1) (x.2.2.2.2.2.1) (x.2.2.2.2.2.2.1) (x.2.2.2.2.2.2.2.1) (x.2.2.2.2.2.2.2.2.1) (x.2.2.2.2.2.2.2.2.2.1) (x.2.2.2.2.2.2.2.2.2.2.1) (x.2.2.2.2.2.2.2.2.2.2.2.1) (x.2.2.2.2.2.2.2.2.2.2.2.2.1) (x.2.2.2.2.2.2.2.2.2.2.2.2.2.1) (x.2.2.2.2.2.2.2.2.2.2.2.2.2.2.1) (x.2.2.2.2.2.2.2.2.2.2.2.2.2.2.2.1) (x.2.2.2.2.2.2.2.2.2.2.2.2.2.2.2.2.1) (x.2.2.2.2.2.2.2.2.2.2.2.2.2.2.2.2.2.1) (x.2.2.2.2.2.2.2.2.2.2.2.2.2.2.2.2.2.2.1) (x.2.2.2.2.2.2.2.2.2.2.2.2.2.2.2.2.2.2.2.1) (x.2.2.2.2.2.2.2.2.2.2.2.2.2.2.2.2.2.2.2.2.1) (x.2.2.2.2.2.2.2.2.2.2.2.2.2.2.2.2.2.2.2.2.2.1) (x.2.2.2.2.2.2.2.2.2.2.2.2.2.2.2.2.2.2.2.2.2.2.1) (x.2.2.2.2.2.2.2.2.2.2.2.2.2.2.2.2.2.2.2.2.2.2.2.1) (x.2.2.2.2.2.2.2.2.2.2.2.2.2.2.2.2.2.2.2.2.2.2.2.2.1) (x.2.2.2.2.2.2.2.2.2.2.2.2.2.2.2.2.2.2.2.2.2.2.2.2.2.1) (x.2.2.2.2.2.2.2.2.2.2.2.2.2.2.2.2.2.2.2.2.2.2.2.2.2.2.1) (x.2.2.2.2.2.2.2.2.2.2.2.2.2.2.2.2.2.2.2.2.2.2.2.2.2.2.2.1) (x.2.2.2.2.2.2.2.2.2.2.2.2.2.2.2.2.2.2.2.2.2.2.2.2.2.2.2.2.1) (x.2.2.2.2.2.2.2.2.2.2.2.2.2.2.2.2.2.2.2.2.2.2.2.2.2.2.2.2.2.1) (x.2.2.2.2.2.2.2.2.2.2.2.2.2.2.2.2.2.2.2.2.2.2.2.2.2.2.2.2.2.2.1) (x.2.2.2.2.2.2.2.2.2.2.2.2.2.2.2.2.2.2.2.2.2.2.2.2.2.2.2.2.2.2.2.1) (x.2.2.2.2.2.2.2.2.2.2.2.2.2.2.2.2.2.2.2.2.2.2.2.2.2.2.2.2.2.2.2.2.1) (x.2.2.2.2.2.2.2.2.2.2.2.2.2.2.2.2.2.2.2.2.2.2.2.2.2.2.2.2.2.2.2.2.2.1) (x.2.2.2.2.2.2.2.2.2.2.2.2.2.2.2.2.2.2.2.2.2.2.2.2.2.2.2.2.2.2.2.2.2.2.1) (x.2.2.2.2.2.2.2.2.2.2.2.2.2.2.2.2.2.2.2.2.2.2.2.2.2.2.2.2.2.2.2.2.2.2.2.1) (x.2.2.2.2.2.2.2.2.2.2.2.2.2.2.2.2.2.2.2.2.2.2.2.2.2.2.2.2.2.2.2.2.2.2.2.2.1) (x.2.2.2.2.2.2.2.2.2.2.2.2.2.2.2.2.2.2.2.2.2.2.2.2.2.2.2.2.2.2.2.2.2.2.2.2.2.1) (x.2.2.2.2.2.2.2.2.2.2.2.2.2.2.2.2.2.2.2.2.2.2.2.2.2.2.2.2.2.2.2.2.2.2.2.2.2.2.1) (x.2.2.2.2.2.2.2.2.2.2.2.2.2.2.2.2.2.2.2.2.2.2.2.2.2.2.2.2.2.2.2.2.2.2.2.2.2.2.2)
noncomputable def cc0 : (World) × (Addr) × (Value) × (Addr) × (Str → Option Value) × (Led) × (Led) × (Obj) × (Obj) × (Obj) × (Obj) × (Obj) × (Obj) × (Obj) × (Obj) × (Obj) × (Addr) × (Addr) × (Addr) × (Addr) × (Addr) × (Addr) × (Str) × (Tok) × (List Value) × (List Value) × (List Value) × (List Value) × (Nat) × (Nat) × (Int) × (Int) × (Int) × (Int) × (Tok) × (Tok) × (Tok) × (Tok) × (List (List Int)) × StgV := eps1 (ne_prod ne_world (ne_prod ne_addr (ne_prod ne_value (ne_prod ne_addr (ne_prod ne_par (ne_prod ne_led (ne_prod ne_led (ne_prod ne_obj (ne_prod ne_obj (ne_prod ne_obj (ne_prod ne_obj (ne_prod ne_obj (ne_prod ne_obj (ne_prod ne_obj (ne_prod ne_obj (ne_prod ne_obj (ne_prod ne_addr (ne_prod ne_addr (ne_prod ne_addr (ne_prod ne_addr (ne_prod ne_addr (ne_prod ne_addr (ne_prod ne_str (ne_prod ne_tok (ne_prod ne_list (ne_prod ne_list (ne_prod ne_list (ne_prod ne_list (ne_prod ne_nat (ne_prod ne_nat (ne_prod ne_int (ne_prod ne_int (ne_prod ne_int (ne_prod ne_int (ne_prod ne_tok (ne_prod ne_tok (ne_prod ne_tok (ne_prod ne_tok (ne_prod ne_list stgV_ne))))))))))))))))))))))))))))))))))))))) AtX
noncomputable def w : World := cc0.1
noncomputable def fa : Addr := cc0.2.1
noncomputable def cd : Value := cc0.2.2.1
noncomputable def L : Addr := cc0.2.2.2.1
noncomputable def m : Str → Option Value := cc0.2.2.2.2.1
noncomputable def tb : Led := cc0.2.2.2.2.2.1
noncomputable def TL : Led := cc0.2.2.2.2.2.2.1
noncomputable def o1 : Obj := cc0.2.2.2.2.2.2.2.1
noncomputable def o2 : Obj := cc0.2.2.2.2.2.2.2.2.1
noncomputable def o3 : Obj := cc0.2.2.2.2.2.2.2.2.2.1
noncomputable def o4 : Obj := cc0.2.2.2.2.2.2.2.2.2.2.1
noncomputable def o5 : Obj := cc0.2.2.2.2.2.2.2.2.2.2.2.1
noncomputable def o6 : Obj := cc0.2.2.2.2.2.2.2.2.2.2.2.2.1
noncomputable def o7 : Obj := cc0.2.2.2.2.2.2.2.2.2.2.2.2.2.1
noncomputable def o8 : Obj := cc0.2.2.2.2.2.2.2.2.2.2.2.2.2.2.1
noncomputable def o9 : Obj := cc0.2.2.2.2.2.2.2.2.2.2.2.2.2.2.2.1
noncomputable def D1 : Addr := cc0.2.2.2.2.2.2.2.2.2.2.2.2.2.2.2.2.1
noncomputable def D4 : Addr := cc0.2.2.2.2.2.2.2.2.2.2.2.2.2.2.2.2.2.1
noncomputable def Dr : Addr := cc0.2.2.2.2.2.2.2.2.2.2.2.2.2.2.2.2.2.2.1
noncomputable def Dt : Addr := cc0.2.2.2.2.2.2.2.2.2.2.2.2.2.2.2.2.2.2.2.1
noncomputable def I : Addr := cc0.2.2.2.2.2.2.2.2.2.2.2.2.2.2.2.2.2.2.2.2.1
noncomputable def S : Addr := cc0.2.2.2.2.2.2.2.2.2.2.2.2.2.2.2.2.2.2.2.2.2.1
noncomputable def tcs : Str := cc0.2.2.2.2.2.2.2.2.2.2.2.2.2.2.2.2.2.2.2.2.2.2.1
noncomputable def tt : Tok := cc0.2.2.2.2.2.2.2.2.2.2.2.2.2.2.2.2.2.2.2.2.2.2.2.1
noncomputable def vs1 : List Value := cc0.2.2.2.2.2.2.2.2.2.2.2.2.2.2.2.2.2.2.2.2.2.2.2.2.1
noncomputable def rs : List Value := cc0.2.2.2.2.2.2.2.2.2.2.2.2.2.2.2.2.2.2.2.2.2.2.2.2.2.1
noncomputable def ysr : List Value := cc0.2.2.2.2.2.2.2.2.2.2.2.2.2.2.2.2.2.2.2.2.2.2.2.2.2.2.1
noncomputable def zs : List Value := cc0.2.2.2.2.2.2.2.2.2.2.2.2.2.2.2.2.2.2.2.2.2.2.2.2.2.2.2.1
noncomputable def k1 : Nat := cc0.2.2.2.2.2.2.2.2.2.2.2.2.2.2.2.2.2.2.2.2.2.2.2.2.2.2.2.2.1
noncomputable def kk : Nat := cc0.2.2.2.2.2.2.2.2.2.2.2.2.2.2.2.2.2.2.2.2.2.2.2.2.2.2.2.2.2.1
noncomputable def c : Int := cc0.2.2.2.2.2.2.2.2.2.2.2.2.2.2.2.2.2.2.2.2.2.2.2.2.2.2.2.2.2.2.1
noncomputable def d : Int := cc0.2.2.2.2.2.2.2.2.2.2.2.2.2.2.2.2.2.2.2.2.2.2.2.2.2.2.2.2.2.2.2.1
noncomputable def e : Int := cc0.2.2.2.2.2.2.2.2.2.2.2.2.2.2.2.2.2.2.2.2.2.2.2.2.2.2.2.2.2.2.2.2.1
noncomputable def f : Int := cc0.2.2.2.2.2.2.2.2.2.2.2.2.2.2.2.2.2.2.2.2.2.2.2.2.2.2.2.2.2.2.2.2.2.1
noncomputable def tc : Tok := cc0.2.2.2.2.2.2.2.2.2.2.2.2.2.2.2.2.2.2.2.2.2.2.2.2.2.2.2.2.2.2.2.2.2.2.1
noncomputable def td : Tok := cc0.2.2.2.2.2.2.2.2.2.2.2.2.2.2.2.2.2.2.2.2.2.2.2.2.2.2.2.2.2.2.2.2.2.2.2.1
noncomputable def te : Tok := cc0.2.2.2.2.2.2.2.2.2.2.2.2.2.2.2.2.2.2.2.2.2.2.2.2.2.2.2.2.2.2.2.2.2.2.2.2.1
noncomputable def tf : Tok := cc0.2.2.2.2.2.2.2.2.2.2.2.2.2.2.2.2.2.2.2.2.2.2.2.2.2.2.2.2.2.2.2.2.2.2.2.2.2.1
noncomputable def B : List (List Int) := cc0.2.2.2.2.2.2.2.2.2.2.2.2.2.2.2.2.2.2.2.2.2.2.2.2.2.2.2.2.2.2.2.2.2.2.2.2.2.2.1
noncomputable def v0 : StgV := cc0.2.2.2.2.2.2.2.2.2.2.2.2.2.2.2.2.2.2.2.2.2.2.2.2.2.2.2.2.2.2.2.2.2.2.2.2.2.2.2
theorem aux (e6 : o6.data = .cell (some (.int c tc))) (e7 : o7.data = .cell (some (.int d td))) (e8 : o8.data = .cell (some (.int e te))) (e9 : o9.data = .cell (some (.int f tf))) (hc : 1 ≤ c ∧ c ≤ 4096) (hd : 1 ≤ d ∧ d ≤ 4096) (he : 1 ≤ e ∧ e ≤ 4096) (hf : 1 ≤ f ∧ f ≤ 4096) (hz : IntsAre zs (tapeOf ([c, d] :: [e, f] :: B))) (hI : ∀ p ∈ R5 L D1 D4 Dr Dt vs1 rs ysr zs k1 kk o1 o2 o3 o4 o5 o6 o7 o8 o9 tb TL, p.1 ≠ I) (hM : Has m ((Str.ofString "tape", .ref I) :: (Str.ofString "rows", .ref Dr) :: names5 D1 D4 S tcs tt)) :
  StgAt w fa cd L 15 5 (fun h => True) m ((I, liO Dt 0) :: R5 L D1 D4 Dr Dt vs1 rs ysr zs k1 kk o1 o2 o3 o4 o5 o6 o7 o8 o9 tb TL)
    (P11 L tb TL o1 o2 o3 o4 o5 o6 o7 o8 o9 D1 D4 Dr Dt I S tcs tt vs1 rs ysr zs k1 kk c d e f) v0 := by
  intro B' F X N T C1 C2 C3 hE hS hret
  have F0 := fr_all0 hM F
  clear F
  have p1 := prod_small he hf
  have p2 := prod_small hc hf
  have p3 := prod_small hd he
  have M1 : IntMulOk c d := IntMulOk.of_right (bits64 (by omega) (by omega))
  have M2 : IntMulOk e f := IntMulOk.of_right (bits64 (by omega) (by omega))
  have M3 : IntMulOk (c * d + 1) (e * f + 1) := IntMulOk.of_right (bits64 (by omega) (by omega))
  have M4 : IntMulOk c f := IntMulOk.of_right (bits64 (by omega) (by omega))
  have M5 : IntMulOk d e := IntMulOk.of_right (bits64 (by omega) (by omega))
  have M6 : IntMulOk (c * d) e := IntMulOk.of_right (bits64 (by omega) (by omega))
  have M7 : IntMulOk (c * d * e) f := IntMulOk.of_right (bits64 (by omega) (by omega))
  have M8 : IntMulOk (c * d * e * f) (c - e) := IntMulOk.of_right (bits64 (by omega) (by omega))
  have M9 : IntMulOk (c * d * e * f * (c - e)) (d - f) := IntMulOk.of_right (bits64 (by omega) (by omega))
  have M10 : (c * f - d * e).natAbs < 2 ^ 64 := by omega
  have hm1 : (Dt, LCg.lst zs) ∈ R5 L D1 D4 Dr Dt vs1 rs ysr zs k1 kk o1 o2 o3 o4 o5 o6 o7 o8 o9 tb TL := .head _
  have hb1 : 0 ≤ trac [c, d] ∧ trac [c, d] < 2 ^ (6 * (69 + 1)) := trac_bound (fun q hq => by simp at hq; omega) (by simp)
  have hb2 : 0 ≤ trac [e, f] ∧ trac [e, f] < 2 ^ (6 * (69 + 1)) := trac_bound (fun q hq => by simp at hq; omega) (by simp)
  (repeat' (first | (with_reducible refine if_ff ?_) | (with_reducible refine if_tt ?_) | (k_unfold; (try dsimp only)) | (k_end; wrow_close) | (cell_step; walk1) | (cell_step; dsimp only; walk1) | (leave1; walk_say "STEP leave1"; try dsimp only) | fail "no step"))
  (refine' tel_use ?tH ?tB ?tF ?tX ?tN ?tT ?tC1 ?tC2 ?tC3 ?tk ?td ?tu ?_; (case tB => k_asm); (case tF => k_asm); (case tX => k_asm); (case tN => k_asm); (case tT => k_asm); (case tC1 => assumption); (case tC2 => assumption); (case tC3 => assumption); (case tk => first | exact rfl | assumption); (case tH => exact (next_num w _ I Dt zs [] ([e, f] :: B) [c, d] _ hI ⟨rfl, rfl⟩ hm1 hz hb1)); (case td => ktr_room); (case tu => ktr_units))
  rintro v8 h8 tk8 news8 F8 N8 ⟨t8, io8, rfl, rfl, hio8⟩
  (try dsimp only)
  rw [trac_two]
  (repeat' (first | (with_reducible refine if_ff ?_) | (with_reducible refine if_tt ?_) | (k_unfold; (try dsimp only)) | (k_end; wrow_close) | (cell_step; walk1) | (cell_step; dsimp only; walk1) | (leave1; walk_say "STEP leave1"; try dsimp only) | fail "no step"))
  (refine' tel_use ?tH ?tB ?tF ?tX ?tN ?tT ?tC1 ?tC2 ?tC3 ?tk ?td ?tu ?_; (case tB => k_asm); (case tF => k_asm); (case tX => k_asm); (case tN => k_asm); (case tT => k_asm); (case tC1 => assumption); (case tC2 => assumption); (case tC3 => assumption); (case tk => first | exact rfl | assumption); (case tH => exact (next_num w _ I Dt zs [[c, d]] B [e, f] _ hI hio8 hm1 hz hb2)); (case td => ktr_room); (case tu => ktr_units))
  rintro v9 h9 tk9 news9 F9 N9 ⟨t9, io9, rfl, rfl, hio9⟩
  (try dsimp only)
  rw [trac_two]
  (repeat' (first | (with_reducible refine if_ff ?_) | (with_reducible refine if_tt ?_) | (k_unfold; (try dsimp only)) | (k_end; wrow_close) | (cell_step; walk1) | (cell_step; dsimp only; walk1) | (leave1; walk_say "STEP leave1"; try dsimp only) | fail "no step"))
  rename Fr _ _ _ _ => F10
  rename News _ _ _ _ => N10
  refine it_ne (News.isTup N10 (.tail _ (.head _))) (News.isTup N10 (.head _)) (.cons _ _ (.cons _ _ .nil)) (.cons _ _ (.cons _ _ .nil)) (by units_room) ?_
  rw [show (!decide ([c * d + 2, e * f + 2] = [c * d + 2, e * f + 2])) = false by simp]
  (repeat' (first | (with_reducible refine if_ff ?_) | (with_reducible refine if_tt ?_) | (k_unfold; (try dsimp only)) | (k_end; wrow_close) | (cell_step; walk1) | (cell_step; dsimp only; walk1) | (leave1; walk_say "STEP leave1"; try dsimp only) | fail "no step"))
  rename Fr _ _ _ _ => F11
  rename News _ _ _ _ => N11
  exact hret _ _ _ _ F11 (news_tail (news_tail N11)) ⟨_, _, _, _, io9, ⟨rfl, rfl, rfl, rfl, rfl, rfl, rfl, rfl, rfl, rfl, trivial⟩, hio9, rfl⟩
end Vstage11
theorem stage11 (w : World) (fa : Addr) (cd : Value) (L : Addr) (m : Str → Option Value) (tb TL : Led) (o1 o2 o3 o4 o5 o6 o7 o8 o9 : Obj) (D1 D4 Dr Dt I S : Addr) (tcs : Str) (tt : Tok) (vs1 rs ysr zs : List Value) (k1 kk : Nat)
   (c d e f : Int) (tc td te tf : Tok) (e6 : o6.data = .cell (some (.int c tc))) (e7 : o7.data = .cell (some (.int d td))) (e8 : o8.data = .cell (some (.int e te))) (e9 : o9.data = .cell (some (.int f tf)))
   (hc : 1 ≤ c ∧ c ≤ 4096) (hd : 1 ≤ d ∧ d ≤ 4096) (he : 1 ≤ e ∧ e ≤ 4096) (hf : 1 ≤ f ∧ f ≤ 4096)
   (B : List (List Int)) (hz : IntsAre zs (tapeOf ([c, d] :: [e, f] :: B))) (hI : ∀ p ∈ R5 L D1 D4 Dr Dt vs1 rs ysr zs k1 kk o1 o2 o3 o4 o5 o6 o7 o8 o9 tb TL, p.1 ≠ I) (hM : Has m ((Str.ofString "tape", .ref I) :: (Str.ofString "rows", .ref Dr) :: names5 D1 D4 S tcs tt)) :
  Stg w fa cd L 15 5 (fun h => True) m ((I, liO Dt 0) :: R5 L D1 D4 Dr Dt vs1 rs ysr zs k1 kk o1 o2 o3 o4 o5 o6 o7 o8 o9 tb TL)
    (P11 L tb TL o1 o2 o3 o4 o5 o6 o7 o8 o9 D1 D4 Dr Dt I S tcs tt vs1 rs ysr zs k1 kk c d e f) := stg_of fun z => (show Vstage11.At0 w fa cd L m tb TL o1 o2 o3 o4 o5 o6 o7 o8 o9 D1 D4 Dr Dt I S tcs tt vs1 rs ysr zs k1 kk c d e f tc td te tf B z from eps1_all (P := Vstage11.AtX) @Vstage11.aux (w, fa, cd, L, m, tb, TL, o1, o2, o3, o4, o5, o6, o7, o8, o9, D1, D4, Dr, Dt, I, S, tcs, tt, vs1, rs, ysr, zs, k1, kk, c, d, e, f, tc, td, te, tf, B, z)) e6 e7 e8 e9 hc hd he hf hz hI hM
end
section
noncomputable def StgB (w : World) (fa : Addr) (cd : Value) (L : Addr) (b : List Stmt) (m : Str → Option Value) (news : Led) (R : (Str → Option Value) → Led → Prop) : Prop :=
  ∀ (mean : ExcName → Option Value) (mg mb : Str → Option Value) (base : Heap) (s : Shared) (rest : List Stmt) (Q : Flow → Shared → Prop) (E : Value → Shared → Prop),
    Below callerA base [] base → Fr base L s.heap m → (hd02.heap_1 w.params).In base → News base L s.heap news → Top topProg topL mean mg mb base → CodeHd base 135 131 → CodeHd base 41 37 → CodeHd base 34 30 → PassesOwn (model Challenge.rw_ty0035_02.row.prog w) (callerA.deeper (envL L fa cd)) (envL L fa cd) E →
    (∀ h' tk' m' news', Fr base L h' m' → News base L h' news' → R m' news' → wpAny (model Challenge.rw_ty0035_02.row.prog w) (callerA.deeper (envL L fa cd)) (execs rest (envL L fa cd)) Q E { s with heap := h', toks := tk' }) →
    wpAny (model Challenge.rw_ty0035_02.row.prog w) (callerA.deeper (envL L fa cd)) (execs (b ++ rest) (envL L fa cd)) Q E s
noncomputable def forB : Stmt → List Stmt
  | .For _ _ b _ _ => b
  | _ => []
noncomputable abbrev blkF (i k : Nat) : List Stmt := ((forB (stmtAt (fBody (fn 23)) 20)).drop i).take k
theorem bits_of {x : Int} {m : Nat} (h1 : -(2 ^ m) < x) (h2 : x < 2 ^ m) : Builtin.Int.intBits x ≤ m := intBits_le_iff.mpr (by
  have h3 : ((x.natAbs : Nat) : Int) < ((2 ^ m : Nat) : Int) := by
    push_cast
    generalize (2 : Int) ^ m = W at *
    omega
  exact_mod_cast h3)
theorem mulOk_of {a b : Int} {m n : Nat} (ha : Builtin.Int.intBits a ≤ m) (hb : Builtin.Int.intBits b ≤ n) (h : m + n ≤ 134217728) : IntMulOk a b := IntMulOk.of_le ha hb h
theorem nDig_few {a b : Int} (hb : 3 ≤ b.natAbs) (ha : Builtin.Int.intBits a ≤ 498) : nDig (Builtin.Int.intBits b) a ≤ 250 := by
  have h2 : 2 ≤ Builtin.Int.intBits b := by
    rcases Nat.lt_or_ge (Builtin.Int.intBits b) 2 with h | h
    · have := intBits_le_iff.mp (Nat.le_of_lt_succ h)
      omega
    · exact h
  unfold nDig
  generalize Builtin.Int.intBits a = A at *
  generalize Builtin.Int.intBits b = B at *
  refine Nat.div_le_of_le_mul ?_
  have : 2 * 250 + (B - 2) * 250 = B * 250 := by omega
  omega
structure Small (x z y : Int) : Prop where
  x3 : 3 ≤ x
  z3 : 3 ≤ z
  y3 : 3 ≤ y
  xl : x < 2 ^ 212
  zl : z < 2 ^ 212
  yl : y < 2 ^ 212
  xz : x * z < 2 ^ 212
theorem p212 : (0 : Int) < 2 ^ 212 := Int.pow_pos (by decide)
theorem bits212 {x : Int} (h0 : 0 ≤ x) (h : x < 2 ^ 212) : Builtin.Int.intBits x ≤ 212 := bits_of (by have := p212; omega) h
theorem sq_lt {y : Int} (h0 : 0 ≤ y) (h : y < 2 ^ 212) : y * y < 2 ^ 424 := by
  have := p212
  have e : (2 : Int) ^ 424 = 2 ^ 212 * 2 ^ 212 := by rw [← Int.pow_add]
  rw [e]
  exact Int.lt_of_le_of_lt (Int.mul_le_mul_of_nonneg_right (Int.le_of_lt h) h0) (Int.mul_lt_mul_of_pos_left h this)
theorem prod_lt {a b : Int} (ha : 0 ≤ a) (hb : 0 ≤ b) (h : a < 2 ^ 212) (k : b < 2 ^ 212) : a * b < 2 ^ 424 := by
  have := p212
  have e : (2 : Int) ^ 424 = 2 ^ 212 * 2 ^ 212 := by rw [← Int.pow_add]
  rw [e]
  exact Int.lt_of_le_of_lt (Int.mul_le_mul_of_nonneg_right (Int.le_of_lt h) hb) (Int.mul_lt_mul_of_pos_left k this)
theorem quo_bits {x z y : Int} (h : Small x z y) : -(2 ^ 425) < y * (x * z - y) ∧ y * (x * z - y) < 2 ^ 425 := by
  obtain ⟨x3, z3, y3, xl, zl, yl, xz⟩ := h
  have h1 : 0 ≤ x * z := Int.mul_nonneg (by omega) (by omega)
  have h2 := prod_lt (by omega : 0 ≤ y) h1 yl xz
  have h3 := sq_lt (by omega : 0 ≤ y) yl
  have h4 : 0 ≤ y * (x * z) := Int.mul_nonneg (by omega) h1
  have h5 : 0 ≤ y * y := Int.mul_nonneg (by omega) (by omega)
  have e : (2 : Int) ^ 425 = 2 ^ 424 * 2 := by rw [Int.pow_succ]
  rw [Int.mul_sub, e]
  generalize (2 : Int) ^ 424 = W at *
  omega
theorem divPos_is {a b q : Int} (hb : 0 < b) (h : a = b * q) : a.fdiv b = q ∧ a.fmod b = 0 := by
  rw [Int.fdiv_eq_ediv_of_nonneg _ (by omega), Int.fmod_eq_emod_of_nonneg _ (by omega)]
  exact divmod_is (by rw [h, Int.mul_comm]; omega) (by omega) hb
theorem divNeg_is {a y q : Int} (hy : 1 < y) (h : a = y * q) : (1 - a).fdiv (-y) = q - 1 ∧ (1 - a).fmod (-y) = 1 - y := by
  have h2 : (-(1 - a)) / (-(-y)) = q - 1 ∧ (-(1 - a)) % (-(-y)) = y - 1 := by
    rw [Int.neg_neg]
    exact divmod_is (by rw [h, Int.sub_mul, Int.mul_comm]; omega) (by omega) (by omega)
  have h3 := @neg_div (1 - a) (-y) (by omega)
  rw [← h3.1, ← h3.2, h2.1, h2.2]
  omega
theorem tabs_top {tb : Led} (h : Tabs tb) : @LT.lt Nat _ 37 (topA tb) ∧ @LT.lt Nat _ 30 (topA tb) := by
  obtain ⟨t1, t2, rfl, h1, h2, _, _⟩ := h
  have a1 := tabL_top h1
  have a2 := tabL_top h2
  rw [topA_app]
  omega
theorem off_new {tb K : Led} {d : Addr} {o : Obj} {a : Addr} (ha : @LT.lt Nat _ a (topA tb)) (hd : topA (tb ++ K) ≤ d) (h : OwnOff K [a]) : OwnOff ((d, o) :: K) [a] := ownOff_cons (fun e he => by
  rw [List.mem_singleton.mp he]
  rw [topA_app] at hd
  exact Nat.ne_of_gt (by omega)) h
end
section
noncomputable def StgBAt (w : World) (fa : Addr) (cd : Value) (L : Addr) (b : List Stmt) (m : Str → Option Value) (news : Led) (R : (Str → Option Value) → Led → Prop) (v : StgV) : Prop :=
    Below callerA v.base [] v.base → Fr v.base L v.s.heap m → (hd02.heap_1 w.params).In v.base → News v.base L v.s.heap news → Top topProg topL v.mean v.mg v.mb v.base → CodeHd v.base 135 131 → CodeHd v.base 41 37 → CodeHd v.base 34 30 → PassesOwn (model Challenge.rw_ty0035_02.row.prog w) (callerA.deeper (envL L fa cd)) (envL L fa cd) v.E →
    (∀ h' tk' m' news', Fr v.base L h' m' → News v.base L h' news' → R m' news' → wpAny (model Challenge.rw_ty0035_02.row.prog w) (callerA.deeper (envL L fa cd)) (execs v.rest (envL L fa cd)) v.Q v.E { v.s with heap := h', toks := tk' }) →
    wpAny (model Challenge.rw_ty0035_02.row.prog w) (callerA.deeper (envL L fa cd)) (execs (b ++ v.rest) (envL L fa cd)) v.Q v.E v.s
theorem stgB_of {w : World} {fa : Addr} {cd : Value} {L : Addr} {b : List Stmt} {m : Str → Option Value} {news : Led} {R : (Str → Option Value) → Led → Prop} (h : ∀ v, StgBAt w fa cd L b m news R v) : StgB w fa cd L b m news R :=
  fun mean mg mb base s rest Q E => h ⟨mean, mg, mb, base, s, rest, Q, E⟩
end
section
namespace VturnB2
noncomputable def At0 (w : World) (fa : Addr) (cd : Value) (L : Addr) (m : Str → Option Value) (K : Led) (x : Int) (z : Int) (y : Int) (kept : Int) (tx' : Tok) (tz : Tok) (ty : Tok) (td : Tok) (tk : Tok) (zvv : StgV) : Prop := ∀ (tb : Led) (hs : Small x z y) (hk : x * x + z * z - kept = y * (x * z - y)) (off1 : OwnOff K [30]) (off2 : OwnOff K [37]) (ht : Tabs tb) (hM : Has m [(Str.ofString "y", .int y ty), (Str.ofString "x", .int x tx'), (Str.ofString "z", .int z tz), (Str.ofString "due", .int y td), (Str.ofString "kept", .int kept tk)]), StgBAt w fa cd L (blkF 1 2) m (tb ++ K) (fun m' news' => m' = m ∧ ∃ tb', news' = tb' ++ K ∧ Tabs tb' ∧ Newer tb tb' (topA (tb ++ K))) zvv
noncomputable def AtX (x : (World) × (Addr) × (Value) × (Addr) × (Str → Option Value) × (Led) × (Int) × (Int) × (Int) × (Int) × (Tok) × (Tok) × (Tok) × (Tok) × (Tok) × StgV) : Prop := At0 (x.1) (x.2.1) (x.2.2.1) (x.2.2.2.1) (x.2.2.2.2.1) (x.2.2.2.2.2.1) (x.2.2.2.2.2.2.1) (x.2.2.2.2.2.2.2.1) (x.2.2.2.2.2.2.2.2.1) (x.2.2.2.2.2.2.2.2.2.1) (x.2.2.2.2.2.2.2.2.2.2.1) (x.2.2.2.2.2.2.2.2.2.2.2.1) (x.2.2.2.2.2.2.2.2.2.2.2.2.1) (x.2.2.2.2.2.2.2.2.2.2.2.2.2.1) (x.2.2.2.2.2.2.2.2.2.2.2.2.2.2.1) (x.2.2.2.2.2.2.2.2.2.2.2.2.2.2.2)
noncomputable def cc0 : (World) × (Addr) × (Value) × (Addr) × (Str → Option Value) × (Led) × (Int) × (Int) × (Int) × (Int) × (Tok) × (Tok) × (Tok) × (Tok) × (Tok) × StgV := eps1 (ne_prod ne_world (ne_prod ne_addr (ne_prod ne_value (ne_prod ne_addr (ne_prod ne_par (ne_prod ne_led (ne_prod ne_int (ne_prod ne_int (ne_prod ne_int (ne_prod ne_int (ne_prod ne_tok (ne_prod ne_tok (ne_prod ne_tok (ne_prod ne_tok (ne_prod ne_tok stgV_ne))))))))))))))) AtX
noncomputable def w : World := cc0.1
noncomputable def fa : Addr := cc0.2.1
noncomputable def cd : Value := cc0.2.2.1
noncomputable def L : Addr := cc0.2.2.2.1
noncomputable def m : Str → Option Value := cc0.2.2.2.2.1
noncomputable def K : Led := cc0.2.2.2.2.2.1
noncomputable def x : Int := cc0.2.2.2.2.2.2.1
noncomputable def z : Int := cc0.2.2.2.2.2.2.2.1
noncomputable def y : Int := cc0.2.2.2.2.2.2.2.2.1
noncomputable def kept : Int := cc0.2.2.2.2.2.2.2.2.2.1
noncomputable def tx' : Tok := cc0.2.2.2.2.2.2.2.2.2.2.1
noncomputable def tz : Tok := cc0.2.2.2.2.2.2.2.2.2.2.2.1
noncomputable def ty : Tok := cc0.2.2.2.2.2.2.2.2.2.2.2.2.1
noncomputable def td : Tok := cc0.2.2.2.2.2.2.2.2.2.2.2.2.2.1
noncomputable def tk : Tok := cc0.2.2.2.2.2.2.2.2.2.2.2.2.2.2.1
noncomputable def v0 : StgV := cc0.2.2.2.2.2.2.2.2.2.2.2.2.2.2.2
theorem aux (tb : Led) (hs : Small x z y) (hk : x * x + z * z - kept = y * (x * z - y)) (off1 : OwnOff K [30]) (off2 : OwnOff K [37]) (ht : Tabs tb) (hM : Has m [(Str.ofString "y", .int y ty), (Str.ofString "x", .int x tx'), (Str.ofString "z", .int z tz), (Str.ofString "due", .int y td), (Str.ofString "kept", .int kept tk)]) :
  StgBAt w fa cd L (blkF 1 2) m (tb ++ K) (fun m' news' => m' = m ∧ ∃ tb', news' = tb' ++ K ∧ Tabs tb' ∧ Newer tb tb' (topA (tb ++ K))) v0 := by
  intro B' F X N T C1 C2 C3 hE hret
  have F0 := fr_all0 hM F
  clear F
  obtain ⟨x3, z3, y3, xl, zl, yl, xz⟩ := id hs
  have M1 : IntMulOk x x := mulOk_of (bits212 (by omega) xl) (bits212 (by omega) xl) (by decide)
  have M2 : IntMulOk z z := mulOk_of (bits212 (by omega) zl) (bits212 (by omega) zl) (by decide)
  have M3 : IntMulOk x z := mulOk_of (bits212 (by omega) xl) (bits212 (by omega) zl) (by decide)
  have hqb := quo_bits hs
  (repeat' (first | (with_reducible refine if_ff ?_) | (with_reducible refine if_tt ?_) | (k_unfold; (try dsimp only)) | (k_end; wrow_close) | (cell_step; walk1) | (cell_step; dsimp only; walk1) | (leave1; walk_say "STEP leave1"; try dsimp only) | fail "no step"))
  all_goals try (rename (¬ y = y) => hh; exact absurd rfl hh)
  have hb1 : Builtin.Int.intBits y ≤ 4000 := Nat.le_trans (bits212 (by omega) yl) (by decide)
  have hb2 : Builtin.Int.intBits (x * x + z * z - kept) ≤ 425 := by rw [hk]; exact bits_of hqb.1 hqb.2
  have hq := divPos_is (by omega : 0 < y) hk
  (refine' tel_use ?tH ?tB ?tF ?tX ?tN ?tT ?tC1 ?tC2 ?tC3 ?tk ?td ?tu ?_; (case tB => k_asm); (case tF => k_asm); (case tX => k_asm); (case tN => k_asm); (case tT => k_asm); (case tC1 => assumption); (case tC2 => assumption); (case tC3 => assumption); (case tk => first | exact rfl | assumption); (case tH => exact (idm w tb K (x * x + z * z - kept) y _ _ (by omega) hb1 (by omega) (nDig_few (by omega) (by omega)) off1 off2 ht)); (case td => ktr_room); (case tu => ktr_units))
  rintro v8 h8 tk8 news8 F8 N8 ⟨d, tq, tr, tb1, rfl, hd1, rfl, ht1, hn1⟩
  (try dsimp only)
  rw [hq.1, hq.2] at N8
  (repeat' (first | (with_reducible refine if_ff ?_) | (with_reducible refine if_tt ?_) | (k_unfold; (try dsimp only)) | (k_end; wrow_close) | (cell_step; walk1) | (cell_step; dsimp only; walk1) | (leave1; walk_say "STEP leave1"; try dsimp only) | fail "no step"))
  rename Fr _ _ _ _ => F9
  rename News _ _ _ _ => N9
  refine it_ne (News.isTup N9 (.tail _ (.head _))) (News.isTup N9 (.head _)) (.cons _ _ (.cons _ _ .nil)) (.cons _ _ (.cons _ _ .nil)) (by units_room) ?_
  rw [show (!decide ([x * z - y, (0 : Int)] = [x * z - y, 0])) = false by simp]
  (repeat' (first | (with_reducible refine if_ff ?_) | (with_reducible refine if_tt ?_) | (k_unfold; (try dsimp only)) | (k_end; wrow_close) | (cell_step; walk1) | (cell_step; dsimp only; walk1) | (leave1; walk_say "STEP leave1"; try dsimp only) | fail "no step"))
  rename Fr _ _ _ _ => F10
  rename News _ _ _ _ => N10
  have N11 := news_perm (news_tail N10) (in_mid (A := tb1) (B := K))
  clear N10
  have hy1 : Builtin.Int.intBits (-y) ≤ 4000 := Nat.le_trans (intBits_neg_le (bits212 (by omega) yl)) (by decide)
  have he : kept + 1 - x * x - z * z = 1 - (x * x + z * z - kept) := by omega
  have hb3 : Builtin.Int.intBits (kept + 1 - x * x - z * z) ≤ 426 := by
    rw [he, hk]
    have e : (2 : Int) ^ 426 = 2 ^ 425 * 2 := Int.pow_succ _ _
    have e0 : (0 : Int) < 2 ^ 425 := Int.pow_pos (by decide)
    refine bits_of ?_ ?_ <;> rw [e] <;> omega
  have hq2 := divNeg_is (by omega : 1 < y) hk
  rw [← he] at hq2
  have htt := tabs_top ht
  (refine' tel_use ?tH ?tB ?tF ?tX ?tN ?tT ?tC1 ?tC2 ?tC3 ?tk ?td ?tu ?_; (case tB => k_asm); (case tF => k_asm); (case tX => k_asm); (case tN => k_asm); (case tT => k_asm); (case tC1 => assumption); (case tC2 => assumption); (case tC3 => assumption); (case tk => first | exact rfl | assumption); (case tH => exact (idm w tb1 ((d, { cls := .type "tuple", data := .seq #[.int (x * z - y) tq, .int 0 tr] }) :: K) (kept + 1 - x * x - z * z) (-y) _ _ (by omega) hy1 (by omega) (nDig_few (by omega) (by omega)) (off_new htt.2 hd1 off1) (off_new htt.1 hd1 off2) ht1)); (case td => ktr_room); (case tu => ktr_units))
  rintro v7 h7 tk7 news7 F7 N7 ⟨d7, tq7, tr7, tb7, rfl, hd7, rfl, ht7, hn7⟩
  (try dsimp only)
  rw [hq2.1, hq2.2] at N7
  (repeat' (first | (with_reducible refine if_ff ?_) | (with_reducible refine if_tt ?_) | (k_unfold; (try dsimp only)) | (k_end; wrow_close) | (cell_step; walk1) | (cell_step; dsimp only; walk1) | (leave1; walk_say "STEP leave1"; try dsimp only) | fail "no step"))
  rename Fr _ _ _ _ => F12
  rename News _ _ _ _ => N12
  refine it_ne (News.isTup N12 (.tail _ (.head _))) (News.isTup N12 (.head _)) (.cons _ _ (.cons _ _ .nil)) (.cons _ _ (.cons _ _ .nil)) (by units_room) ?_
  rw [show (!decide ([x * z - y - 1, 1 - y] = [x * z - y - 1, 1 - y])) = false by simp]
  (repeat' (first | (with_reducible refine if_ff ?_) | (with_reducible refine if_tt ?_) | (k_unfold; (try dsimp only)) | (k_end; wrow_close) | (cell_step; walk1) | (cell_step; dsimp only; walk1) | (leave1; walk_say "STEP leave1"; try dsimp only) | fail "no step"))
  rename Fr _ _ _ _ => F13
  rename News _ _ _ _ => N13
  rw [bindAll_eq hM] at F13
  refine hret _ _ _ _ F13 (news_perm (news_tail (news_tail N13)) (fun p hp => ?_)) ⟨rfl, tb7, rfl, ht7, hn1.trans hn7 ?_⟩
  · rcases List.mem_append.mp hp with hp | hp
    · exact List.mem_append_left _ hp
    · exact List.mem_append_right _ (.tail _ hp)
  · rw [topA_app] at hd1 ⊢
    rw [topA_app, topA_cons]
    show Max.max (topA tb) (topA K) ≤ Max.max (topA tb1) (Max.max (d + 1) (topA K))
    omega
end VturnB2
theorem turnB2 (w : World) (fa : Addr) (cd : Value) (L : Addr) (m : Str → Option Value) (tb K : Led) (x z y kept : Int) (tx' tz ty td tk : Tok) (hs : Small x z y) (hk : x * x + z * z - kept = y * (x * z - y))
   (off1 : OwnOff K [30]) (off2 : OwnOff K [37]) (ht : Tabs tb) (hM : Has m [(Str.ofString "y", .int y ty), (Str.ofString "x", .int x tx'), (Str.ofString "z", .int z tz), (Str.ofString "due", .int y td), (Str.ofString "kept", .int kept tk)]) :
  StgB w fa cd L (blkF 1 2) m (tb ++ K) (fun m' news' => m' = m ∧ ∃ tb', news' = tb' ++ K ∧ Tabs tb' ∧ Newer tb tb' (topA (tb ++ K))) := stgB_of fun zvv => (show VturnB2.At0 w fa cd L m K x z y kept tx' tz ty td tk zvv from eps1_all (P := VturnB2.AtX) @VturnB2.aux (w, fa, cd, L, m, K, x, z, y, kept, tx', tz, ty, td, tk, zvv)) tb hs hk off1 off2 ht hM
end
section
theorem has_put {x : Str} {u : Value} : ∀ {ps : List (Str × Value)} {m : Str → Option Value}, Has m ps → (ps.map (·.1)).all (fun k => k != x) = true → Has (fun y => if y = x then some u else m y) ps
  | [], _, _, _ => trivial
  | p :: r, m, h, k => by
    rw [List.map_cons, List.all_cons, Bool.and_eq_true] at k
    refine ⟨?_, has_put h.2 k.2⟩
    show (if p.1 = x then some u else m p.1) = some p.2
    rw [if_neg (by simpa using k.1)]
    exact h.1
namespace VturnB1
noncomputable def At0 (w : World) (fa : Addr) (cd : Value) (L : Addr) (m : Str → Option Value) (K : Led) (I : Addr) (Dt : Addr) (zs : List Value) (A : List (List Int)) (B : List (List Int)) (r : List Int) (io : Obj) (ps : List (Str × Value)) (z : StgV) : Prop := ∀ (hI : ∀ p ∈ K, p.1 ≠ I) (hio : TapeAt io Dt (tapeOf A).length) (hm : (Dt, LCg.lst zs) ∈ K) (hz : IntsAre zs (tapeOf (A ++ r :: B))) (hb : 0 ≤ trac r ∧ trac r < 2 ^ (6 * (69 + 1))) (hM : Has m ((Str.ofString "tape", .ref I) :: ps)) (hk : (ps.map (·.1)).all (fun k => k != Str.ofString "y") = true), StgBAt w fa cd L (blkF 0 1) m ((I, io) :: K) (fun m' news' => ∃ ty io', Has m' ((Str.ofString "y", .int (trac r) ty) :: (Str.ofString "tape", .ref I) :: ps) ∧ TapeAt io' Dt (tapeOf (A ++ [r])).length ∧ news' = (I, io') :: K) z
noncomputable def AtX (x : (World) × (Addr) × (Value) × (Addr) × (Str → Option Value) × (Led) × (Addr) × (Addr) × (List Value) × (List (List Int)) × (List (List Int)) × (List Int) × (Obj) × (List (Str × Value)) × StgV) : Prop := At0 (x.1) (x.2.1) (x.2.2.1) (x.2.2.2.1) (x.2.2.2.2.1) (x.2.2.2.2.2.1) (x.2.2.2.2.2.2.1) (x.2.2.2.2.2.2.2.1) (x.2.2.2.2.2.2.2.2.1) (x.2.2.2.2.2.2.2.2.2.1) (x.2.2.2.2.2.2.2.2.2.2.1) (x.2.2.2.2.2.2.2.2.2.2.2.1) (x.2.2.2.2.2.2.2.2.2.2.2.2.1) (x.2.2.2.2.2.2.2.2.2.2.2.2.2.1) (x.2.2.2.2.2.2.2.2.2.2.2.2.2.2)
noncomputable def cc0 : (World) × (Addr) × (Value) × (Addr) × (Str → Option Value) × (Led) × (Addr) × (Addr) × (List Value) × (List (List Int)) × (List (List Int)) × (List Int) × (Obj) × (List (Str × Value)) × StgV := eps1 (ne_prod ne_world (ne_prod ne_addr (ne_prod ne_value (ne_prod ne_addr (ne_prod ne_par (ne_prod ne_led (ne_prod ne_addr (ne_prod ne_addr (ne_prod ne_list (ne_prod ne_list (ne_prod ne_list (ne_prod ne_list (ne_prod ne_obj (ne_prod ne_list stgV_ne)))))))))))))) AtX
noncomputable def w : World := cc0.1
noncomputable def fa : Addr := cc0.2.1
noncomputable def cd : Value := cc0.2.2.1
noncomputable def L : Addr := cc0.2.2.2.1
noncomputable def m : Str → Option Value := cc0.2.2.2.2.1
noncomputable def K : Led := cc0.2.2.2.2.2.1
noncomputable def I : Addr := cc0.2.2.2.2.2.2.1
noncomputable def Dt : Addr := cc0.2.2.2.2.2.2.2.1
noncomputable def zs : List Value := cc0.2.2.2.2.2.2.2.2.1
noncomputable def A : List (List Int) := cc0.2.2.2.2.2.2.2.2.2.1
noncomputable def B : List (List Int) := cc0.2.2.2.2.2.2.2.2.2.2.1
noncomputable def r : List Int := cc0.2.2.2.2.2.2.2.2.2.2.2.1
noncomputable def io : Obj := cc0.2.2.2.2.2.2.2.2.2.2.2.2.1
noncomputable def ps : List (Str × Value) := cc0.2.2.2.2.2.2.2.2.2.2.2.2.2.1
noncomputable def v0 : StgV := cc0.2.2.2.2.2.2.2.2.2.2.2.2.2.2
theorem aux (hI : ∀ p ∈ K, p.1 ≠ I) (hio : TapeAt io Dt (tapeOf A).length) (hm : (Dt, LCg.lst zs) ∈ K) (hz : IntsAre zs (tapeOf (A ++ r :: B))) (hb : 0 ≤ trac r ∧ trac r < 2 ^ (6 * (69 + 1))) (hM : Has m ((Str.ofString "tape", .ref I) :: ps)) (hk : (ps.map (·.1)).all (fun k => k != Str.ofString "y") = true) :
  StgBAt w fa cd L (blkF 0 1) m ((I, io) :: K) (fun m' news' => ∃ ty io', Has m' ((Str.ofString "y", .int (trac r) ty) :: (Str.ofString "tape", .ref I) :: ps) ∧ TapeAt io' Dt (tapeOf (A ++ [r])).length ∧ news' = (I, io') :: K) v0 := by
  intro B' F X N T C1 C2 C3 hE hret
  have hM1 : Has m [(Str.ofString "tape", .ref I)] := ⟨hM.1, trivial⟩
  have F0 := fr_all0 hM1 F
  clear F
  (repeat' (first | (with_reducible refine if_ff ?_) | (with_reducible refine if_tt ?_) | (k_unfold; (try dsimp only)) | (k_end; wrow_close) | (cell_step; walk1) | (cell_step; dsimp only; walk1) | (leave1; walk_say "STEP leave1"; try dsimp only) | fail "no step"))
  (refine' tel_use ?tH ?tB ?tF ?tX ?tN ?tT ?tC1 ?tC2 ?tC3 ?tk ?td ?tu ?_; (case tB => k_asm); (case tF => k_asm); (case tX => k_asm); (case tN => k_asm); (case tT => k_asm); (case tC1 => assumption); (case tC2 => assumption); (case tC3 => assumption); (case tk => first | exact rfl | assumption); (case tH => exact (next_num w K I Dt zs A B r _ hI hio hm hz hb)); (case td => ktr_room); (case tu => ktr_units))
  rintro v8 h8 tk8 news8 F8 N8 ⟨t8, io8, rfl, rfl, hio8⟩
  (try dsimp only)
  (repeat' (first | (with_reducible refine if_ff ?_) | (with_reducible refine if_tt ?_) | (k_unfold; (try dsimp only)) | (k_end; wrow_close) | (cell_step; walk1) | (cell_step; dsimp only; walk1) | (leave1; walk_say "STEP leave1"; try dsimp only) | fail "no step"))
  rename Fr _ _ _ _ => F9
  rename News _ _ _ _ => N9
  rw [bindAll_eq hM1] at F9
  exact hret _ _ _ _ F9 N9 ⟨_, io8, ⟨rfl, hM.1, has_put hM.2 hk⟩, hio8, rfl⟩
end VturnB1
theorem turnB1 (w : World) (fa : Addr) (cd : Value) (L : Addr) (m : Str → Option Value) (K : Led) (I Dt : Addr) (zs : List Value) (A B : List (List Int)) (r : List Int) (io : Obj) (ps : List (Str × Value)) (hI : ∀ p ∈ K, p.1 ≠ I) (hio : TapeAt io Dt (tapeOf A).length) (hm : (Dt, LCg.lst zs) ∈ K) (hz : IntsAre zs (tapeOf (A ++ r :: B))) (hb : 0 ≤ trac r ∧ trac r < 2 ^ (6 * (69 + 1)))
   (hM : Has m ((Str.ofString "tape", .ref I) :: ps)) (hk : (ps.map (·.1)).all (fun k => k != Str.ofString "y") = true) :
  StgB w fa cd L (blkF 0 1) m ((I, io) :: K) (fun m' news' => ∃ ty io', Has m' ((Str.ofString "y", .int (trac r) ty) :: (Str.ofString "tape", .ref I) :: ps) ∧ TapeAt io' Dt (tapeOf (A ++ [r])).length ∧ news' = (I, io') :: K) := stgB_of fun z => (show VturnB1.At0 w fa cd L m K I Dt zs A B r io ps z from eps1_all (P := VturnB1.AtX) @VturnB1.aux (w, fa, cd, L, m, K, I, Dt, zs, A, B, r, io, ps, z)) hI hio hm hz hb hM hk
theorem cut_last (a : List Nat) (v : Nat) : Txt.slice (tx (a ++ [v])) none (some (-1)) = tx a := by
  have h := @StrLaws.sliceText_to_neg (tx (a ++ [v])) (-1) (by decide) (by rw [tx_len, List.length_append, List.length_singleton]; omega)
  refine Eq.trans h ?_
  have e : ((-1 : Int) + ((tx (a ++ [v])).length : Int) - 0).toNat = a.length := by rw [tx_len, List.length_append, List.length_singleton]; omega
  rw [e]
  simp
theorem cut_first (a : List Nat) (u : Nat) : Txt.slice (tx (u :: a)) (some 1) none = tx a := by
  have h := @StrLaws.sliceText_from (tx (u :: a)) 1 ⟨by decide, by simp; omega⟩
  refine Eq.trans h ?_
  simp
namespace VturnB4
noncomputable def At0 (w : World) (fa : Addr) (cd : Value) (L : Addr) (m : Str → Option Value) (K : Led) (u : Nat) (v : Nat) (f' : List Nat) (e' : List Nat) (tf : Tok) (te : Tok) (z : StgV) : Prop := ∀ (huv : u ≠ v) (hT : u :: f' ++ (e' ++ [v]) = e' ++ u :: v :: f') (hd1 : 46 ∉ f') (hd2 : 46 ∉ e') (hu : u ≠ 46) (hv : v ≠ 46) (hl : f'.length + e'.length ≤ 14) (hM : Has m [(Str.ofString "front", .str (tx (u :: f')) tf), (Str.ofString "end", .str (tx (e' ++ [v])) te)]), StgBAt w fa cd L (blkF 3 1) m K (fun m' news' => m' = m ∧ news' = K) z
noncomputable def AtX (x : (World) × (Addr) × (Value) × (Addr) × (Str → Option Value) × (Led) × (Nat) × (Nat) × (List Nat) × (List Nat) × (Tok) × (Tok) × StgV) : Prop := At0 (x.1) (x.2.1) (x.2.2.1) (x.2.2.2.1) (x.2.2.2.2.1) (x.2.2.2.2.2.1) (x.2.2.2.2.2.2.1) (x.2.2.2.2.2.2.2.1) (x.2.2.2.2.2.2.2.2.1) (x.2.2.2.2.2.2.2.2.2.1) (x.2.2.2.2.2.2.2.2.2.2.1) (x.2.2.2.2.2.2.2.2.2.2.2.1) (x.2.2.2.2.2.2.2.2.2.2.2.2)
noncomputable def cc0 : (World) × (Addr) × (Value) × (Addr) × (Str → Option Value) × (Led) × (Nat) × (Nat) × (List Nat) × (List Nat) × (Tok) × (Tok) × StgV := eps1 (ne_prod ne_world (ne_prod ne_addr (ne_prod ne_value (ne_prod ne_addr (ne_prod ne_par (ne_prod ne_led (ne_prod ne_nat (ne_prod ne_nat (ne_prod ne_list (ne_prod ne_list (ne_prod ne_tok (ne_prod ne_tok stgV_ne)))))))))))) AtX
noncomputable def w : World := cc0.1
noncomputable def fa : Addr := cc0.2.1
noncomputable def cd : Value := cc0.2.2.1
noncomputable def L : Addr := cc0.2.2.2.1
noncomputable def m : Str → Option Value := cc0.2.2.2.2.1
noncomputable def K : Led := cc0.2.2.2.2.2.1
noncomputable def u : Nat := cc0.2.2.2.2.2.2.1
noncomputable def v : Nat := cc0.2.2.2.2.2.2.2.1
noncomputable def f' : List Nat := cc0.2.2.2.2.2.2.2.2.1
noncomputable def e' : List Nat := cc0.2.2.2.2.2.2.2.2.2.1
noncomputable def tf : Tok := cc0.2.2.2.2.2.2.2.2.2.2.1
noncomputable def te : Tok := cc0.2.2.2.2.2.2.2.2.2.2.2.1
noncomputable def v0 : StgV := cc0.2.2.2.2.2.2.2.2.2.2.2.2
theorem aux (huv : u ≠ v) (hT : u :: f' ++ (e' ++ [v]) = e' ++ u :: v :: f') (hd1 : 46 ∉ f') (hd2 : 46 ∉ e') (hu : u ≠ 46) (hv : v ≠ 46) (hl : f'.length + e'.length ≤ 14) (hM : Has m [(Str.ofString "front", .str (tx (u :: f')) tf), (Str.ofString "end", .str (tx (e' ++ [v])) te)]) :
  StgBAt w fa cd L (blkF 3 1) m K (fun m' news' => m' = m ∧ news' = K) v0 := by
  intro B' F X N T C1 C2 C3 hE hret
  have F0 := fr_all0 hM F
  clear F
  (repeat' (first | (with_reducible refine if_ff ?_) | (with_reducible refine if_tt ?_) | (k_unfold; (try dsimp only)) | (k_end; wrow_close) | (cell_step; walk1) | (cell_step; dsimp only; walk1) | (leave1; walk_say "STEP leave1"; try dsimp only) | fail "no step"))
  refine slice_strN_ns F0 N ?_ (hsz := by rw [tx_len, sizeLine_eq]; simp; omega)
  intro h1 t1 k1 F1 N1
  rw [cut_last]
  (repeat' (first | (with_reducible refine if_ff ?_) | (with_reducible refine if_tt ?_) | (k_unfold; (try dsimp only)) | (k_end; wrow_close) | (cell_step; walk1) | (cell_step; dsimp only; walk1) | (leave1; walk_say "STEP leave1"; try dsimp only) | fail "no step"))
  rw [dots3]
  refine PyProof.Rows.add_str (hsz := by simp only [tx_len, sizeLine_eq, List.length_cons, List.length_nil]; omega) ?_
  intro t2 k2
  (try dsimp only)
  rw [tx_append]
  (repeat' (first | (with_reducible refine if_ff ?_) | (with_reducible refine if_tt ?_) | (k_unfold; (try dsimp only)) | (k_end; wrow_close) | (cell_step; walk1) | (cell_step; dsimp only; walk1) | (leave1; walk_say "STEP leave1"; try dsimp only) | fail "no step"))
  rename Fr _ _ _ _ => F2
  rename News _ _ _ _ => N2
  refine slice_strN_sn F2 N2 ?_ (hsz := by rw [tx_len, sizeLine_eq, List.length_cons]; omega)
  intro h3 t3 k3 F3 N3
  rw [cut_first]
  (repeat' (first | (with_reducible refine if_ff ?_) | (with_reducible refine if_tt ?_) | (k_unfold; (try dsimp only)) | (k_end; wrow_close) | (cell_step; walk1) | (cell_step; dsimp only; walk1) | (leave1; walk_say "STEP leave1"; try dsimp only) | fail "no step"))
  refine PyProof.Rows.add_str (hsz := by simp only [tx_len, sizeLine_eq, List.length_append, List.length_cons, List.length_nil]; omega) ?_
  intro t4 k4
  (try dsimp only)
  rw [tx_append, show e' ++ [46, 46, 46] ++ f' = dots (e' :: ([] ++ [f'])) by simp [dots]]
  (repeat' (first | (with_reducible refine if_ff ?_) | (with_reducible refine if_tt ?_) | (k_unfold; (try dsimp only)) | (k_end; wrow_close) | (cell_step; walk1) | (cell_step; dsimp only; walk1) | (leave1; walk_say "STEP leave1"; try dsimp only) | fail "no step"))
  refine PyProof.Rows.add_str (hsz := by simp only [tx_len, sizeLine_eq, List.length_append, List.length_cons, List.length_nil]; omega) ?_
  intro t5 k5
  (try dsimp only)
  rw [tx_append]
  (repeat' (first | (with_reducible refine if_ff ?_) | (with_reducible refine if_tt ?_) | (k_unfold; (try dsimp only)) | (k_end; wrow_close) | (cell_step; walk1) | (cell_step; dsimp only; walk1) | (leave1; walk_say "STEP leave1"; try dsimp only) | fail "no step"))
  (refine' tel_use ?tH ?tB ?tF ?tX ?tN ?tT ?tC1 ?tC2 ?tC3 ?tk ?td ?tu ?_; (case tB => k_asm); (case tF => k_asm); (case tX => k_asm); (case tN => k_asm); (case tT => k_asm); (case tC1 => assumption); (case tC2 => assumption); (case tC3 => assumption); (case tk => first | exact rfl | assumption); (case tH => exact (ell_match w K e' f' [] (u :: f' ++ (e' ++ [v])) _ _ (by simp; exact ⟨hd2, hd1⟩) (by simp [dots]; omega) (by simp) (by simp; omega))); (case td => ktr_room); (case tu => ktr_units))
  rintro v8 h8 tk8 news8 F8 N8 ⟨rfl, rfl⟩
  (try dsimp only)
  rw [show ellQ e' f' [] (u :: f' ++ (e' ++ [v])) = true by rw [hT, show e' ++ u :: v :: f' = e' ++ [u, v] ++ f' by simp]; exact ell_gap e' [u, v] f']
  (repeat' (first | (with_reducible refine if_ff ?_) | (with_reducible refine if_tt ?_) | (k_unfold; (try dsimp only)) | (k_end; wrow_close) | (cell_step; walk1) | (cell_step; dsimp only; walk1) | (leave1; walk_say "STEP leave1"; try dsimp only) | fail "no step"))
  rw [bindAll_eq hM] at F8
  exact hret _ _ _ _ F8 N8 ⟨rfl, rfl⟩
end VturnB4
theorem turnB4 (w : World) (fa : Addr) (cd : Value) (L : Addr) (m : Str → Option Value) (K : Led) (u v : Nat) (f' e' : List Nat) (tf te : Tok) (huv : u ≠ v) (hT : u :: f' ++ (e' ++ [v]) = e' ++ u :: v :: f') (hd1 : 46 ∉ f') (hd2 : 46 ∉ e') (hu : u ≠ 46) (hv : v ≠ 46) (hl : f'.length + e'.length ≤ 14)
   (hM : Has m [(Str.ofString "front", .str (tx (u :: f')) tf), (Str.ofString "end", .str (tx (e' ++ [v])) te)]) :
  StgB w fa cd L (blkF 3 1) m K (fun m' news' => m' = m ∧ news' = K) := stgB_of fun z => (show VturnB4.At0 w fa cd L m K u v f' e' tf te z from eps1_all (P := VturnB4.AtX) @VturnB4.aux (w, fa, cd, L, m, K, u, v, f', e', tf, te, z)) huv hT hd1 hd2 hu hv hl hM
end
section
theorem led_name3 {h₀ h : Heap} {L a b c : Addr} {oa ob oc : Obj} {K : Led} (N : News h₀ L h ((a, oa) :: (b, ob) :: (c, oc) :: K)) {P : Prop} (k : ∀ x y z, x = a → y = b → z = c → P) : P := k _ _ _ rfl rfl rfl
theorem endW {L : Addr} {its : Led} {rest : (Str → Option Value) → Led → Prop} {h₀ : Heap} {s₁ : Shared} {h' : Heap} {tk : Nat} {m' : Str → Option Value} (news' : Led) (F : Fr h₀ L h' m') (N : News h₀ L h' (its ++ news')) (off : ∀ p ∈ news', ∀ q ∈ its, p.1 ≠ q.1) (r : rest m' news') : UnrEndW h₀ L s₁ its rest { s₁ with heap := h', toks := tk } := ⟨h', tk, m', news', rfl, F, N, off, r⟩
namespace VturnB5
noncomputable def At0 (w : World) (fa : Addr) (cd : Value) (L : Addr) (m : Str → Option Value) (K : Led) (u : Nat) (v : Nat) (f' : List Nat) (e' : List Nat) (tf : Tok) (te : Tok) (ps : List (Str × Value)) (z : StgV) : Prop := ∀ (huv : u ≠ v) (hT : u :: f' ++ (e' ++ [v]) = e' ++ u :: v :: f') (hd1 : 46 ∉ f') (hd2 : 46 ∉ e') (hu : u ≠ 46) (hv : v ≠ 46) (hl : f'.length + e'.length ≤ 14) (hM : Has m ((Str.ofString "front", .str (tx (u :: f')) tf) :: (Str.ofString "end", .str (tx (e' ++ [v])) te) :: ps)) (hk1 : (ps.map (·.1)).all (fun k => k != Str.ofString "start") = true) (hk2 : (ps.map (·.1)).all (fun k => k != Str.ofString "rest") = true), StgBAt w fa cd L (blkF 4 1) m K (fun m' news' => Has m' ((Str.ofString "front", .str (tx (u :: f')) tf) :: (Str.ofString "end", .str (tx (e' ++ [v])) te) :: ps) ∧ news' = K) z
noncomputable def AtX (x : (World) × (Addr) × (Value) × (Addr) × (Str → Option Value) × (Led) × (Nat) × (Nat) × (List Nat) × (List Nat) × (Tok) × (Tok) × (List (Str × Value)) × StgV) : Prop := At0 (x.1) (x.2.1) (x.2.2.1) (x.2.2.2.1) (x.2.2.2.2.1) (x.2.2.2.2.2.1) (x.2.2.2.2.2.2.1) (x.2.2.2.2.2.2.2.1) (x.2.2.2.2.2.2.2.2.1) (x.2.2.2.2.2.2.2.2.2.1) (x.2.2.2.2.2.2.2.2.2.2.1) (x.2.2.2.2.2.2.2.2.2.2.2.1) (x.2.2.2.2.2.2.2.2.2.2.2.2.1) (x.2.2.2.2.2.2.2.2.2.2.2.2.2)
noncomputable def cc0 : (World) × (Addr) × (Value) × (Addr) × (Str → Option Value) × (Led) × (Nat) × (Nat) × (List Nat) × (List Nat) × (Tok) × (Tok) × (List (Str × Value)) × StgV := eps1 (ne_prod ne_world (ne_prod ne_addr (ne_prod ne_value (ne_prod ne_addr (ne_prod ne_par (ne_prod ne_led (ne_prod ne_nat (ne_prod ne_nat (ne_prod ne_list (ne_prod ne_list (ne_prod ne_tok (ne_prod ne_tok (ne_prod ne_list stgV_ne))))))))))))) AtX
noncomputable def w : World := cc0.1
noncomputable def fa : Addr := cc0.2.1
noncomputable def cd : Value := cc0.2.2.1
noncomputable def L : Addr := cc0.2.2.2.1
noncomputable def m : Str → Option Value := cc0.2.2.2.2.1
noncomputable def K : Led := cc0.2.2.2.2.2.1
noncomputable def u : Nat := cc0.2.2.2.2.2.2.1
noncomputable def v : Nat := cc0.2.2.2.2.2.2.2.1
noncomputable def f' : List Nat := cc0.2.2.2.2.2.2.2.2.1
noncomputable def e' : List Nat := cc0.2.2.2.2.2.2.2.2.2.1
noncomputable def tf : Tok := cc0.2.2.2.2.2.2.2.2.2.2.1
noncomputable def te : Tok := cc0.2.2.2.2.2.2.2.2.2.2.2.1
noncomputable def ps : List (Str × Value) := cc0.2.2.2.2.2.2.2.2.2.2.2.2.1
noncomputable def v0 : StgV := cc0.2.2.2.2.2.2.2.2.2.2.2.2.2
noncomputable abbrev rest := v0.rest
theorem aux (huv : u ≠ v) (hT : u :: f' ++ (e' ++ [v]) = e' ++ u :: v :: f') (hd1 : 46 ∉ f') (hd2 : 46 ∉ e') (hu : u ≠ 46) (hv : v ≠ 46) (hl : f'.length + e'.length ≤ 14) (hM : Has m ((Str.ofString "front", .str (tx (u :: f')) tf) :: (Str.ofString "end", .str (tx (e' ++ [v])) te) :: ps)) (hk1 : (ps.map (·.1)).all (fun k => k != Str.ofString "start") = true) (hk2 : (ps.map (·.1)).all (fun k => k != Str.ofString "rest") = true) :
  StgBAt w fa cd L (blkF 4 1) m K (fun m' news' => Has m' ((Str.ofString "front", .str (tx (u :: f')) tf) :: (Str.ofString "end", .str (tx (e' ++ [v])) te) :: ps) ∧ news' = K) v0 := by
  intro B' F X N T C1 C2 C3 hE hret
  have F0 := fr_all0 hM F
  clear F
  (repeat' (first | (with_reducible refine if_ff ?_) | (with_reducible refine if_tt ?_) | (k_unfold; (try dsimp only)) | (k_end; wrow_close) | (cell_step; walk1) | (cell_step; dsimp only; walk1) | (leave1; walk_say "STEP leave1"; try dsimp only) | fail "no step"))
  (rename Fr _ _ _ _ => lF')
  (with_unfolding_all refine' For_turns (hE := hE) lF' ?_)
  (repeat' (first | (with_reducible refine if_ff ?_) | (with_reducible refine if_tt ?_) | (k_unfold; (try dsimp only)) | (k_end; wrow_close) | (cell_step; walk1) | (cell_step; dsimp only; walk1) | (leave1; walk_say "STEP leave1"; try dsimp only) | fail "no step"))
  rename Fr _ _ _ _ => F1
  rename News _ _ _ _ => N1
  refine slice_strN_sn F1 N1 ?_ (hsz := by rw [tx_len, sizeLine_eq, List.length_cons]; omega)
  intro h2 t2 k2 F2 N2
  rw [cut_first]
  (repeat' (first | (with_reducible refine if_ff ?_) | (with_reducible refine if_tt ?_) | (k_unfold; (try dsimp only)) | (k_end; wrow_close) | (cell_step; walk1) | (cell_step; dsimp only; walk1) | (leave1; walk_say "STEP leave1"; try dsimp only) | fail "no step"))
  rename Fr _ _ _ _ => F3
  rename News _ _ _ _ => N3
  refine slice_strN_ns F3 N3 ?_ (hsz := by rw [tx_len, sizeLine_eq, List.length_append, List.length_singleton]; omega)
  intro h4 t4 k4 F4 N4
  rw [cut_last]
  (repeat' (first | (with_reducible refine if_ff ?_) | (with_reducible refine if_tt ?_) | (k_unfold; (try dsimp only)) | (k_end; wrow_close) | (cell_step; walk1) | (cell_step; dsimp only; walk1) | (leave1; walk_say "STEP leave1"; try dsimp only) | fail "no step"))
  rename Fr _ _ _ _ => F5
  rename News _ _ _ _ => N5
  refine led_name3 N5 fun Dc Db Da e1 e2 e3 => ?_
  subst e1 e2 e3
  refine iter_tupTurns (vs := [.ref Da, .ref Db]) (by rfl) F5 N5 (.head _) rfl rfl ?_
  intro I hI
  refine ItemsRest.val (fun h6 tk6 F6 => ?_)
  ktu_objs
  rename News _ _ _ _ => N6
  (repeat' (first | (with_reducible refine if_ff ?_) | (with_reducible refine if_tt ?_) | (k_unfold; (try dsimp only)) | (k_end; wrow_close) | (cell_step; walk1) | (cell_step; dsimp only; walk1) | (leave1; walk_say "STEP leave1"; try dsimp only) | fail "no step"))
  (try rw [dots3])
  refine PyProof.Rows.add_str (hsz := by simp only [tx_len, sizeLine_eq, List.length_append, List.length_cons, List.length_nil]; omega) ?_
  intro t71 k71
  (try dsimp only)
  rw [tx_append]
  (repeat' (first | (with_reducible refine if_ff ?_) | (with_reducible refine if_tt ?_) | (k_unfold; (try dsimp only)) | (k_end; wrow_close) | (cell_step; walk1) | (cell_step; dsimp only; walk1) | (leave1; walk_say "STEP leave1"; try dsimp only) | fail "no step"))
  refine PyProof.Rows.add_str (hsz := by simp only [tx_len, sizeLine_eq, List.length_append, List.length_cons, List.length_nil]; omega) ?_
  intro t72 k72
  (try dsimp only)
  rw [tx_append, show (e' ++ [v]) ++ [46, 46, 46] ++ f' = dots ((e' ++ [v]) :: ([] ++ [f'])) by simp [dots]]
  (repeat' (first | (with_reducible refine if_ff ?_) | (with_reducible refine if_tt ?_) | (k_unfold; (try dsimp only)) | (k_end; wrow_close) | (cell_step; walk1) | (cell_step; dsimp only; walk1) | (leave1; walk_say "STEP leave1"; try dsimp only) | fail "no step"))
  refine PyProof.Rows.add_str (hsz := by simp only [tx_len, sizeLine_eq, List.length_append, List.length_cons, List.length_nil]; omega) ?_
  intro t73 k73
  (try dsimp only)
  rw [tx_append]
  (repeat' (first | (with_reducible refine if_ff ?_) | (with_reducible refine if_tt ?_) | (k_unfold; (try dsimp only)) | (k_end; wrow_close) | (cell_step; walk1) | (cell_step; dsimp only; walk1) | (leave1; walk_say "STEP leave1"; try dsimp only) | fail "no step"))
  (refine' tel_use ?tH ?tB ?tF ?tX ?tN ?tT ?tC1 ?tC2 ?tC3 ?tk ?td ?tu ?_; (case tB => k_asm); (case tF => k_asm); (case tX => k_asm); (case tN => k_asm); (case tT => k_asm); (case tC1 => assumption); (case tC2 => assumption); (case tC3 => assumption); (case tk => first | exact rfl | assumption); (case tH => exact (ell_match w _ (e' ++ [v]) f' [] (u :: f' ++ (e' ++ [v])) _ _ (by simp; exact ⟨⟨hd2, fun h => hv h.symm⟩, hd1⟩) (by simp [dots]; omega) (by simp) (by simp; omega))); (case td => ktr_room); (case tu => ktr_units))
  rintro v7 h74 tk74 news74 F74 N74 ⟨rfl, rfl⟩
  (try dsimp only)
  rw [show ellQ (e' ++ [v]) f' [] (u :: f' ++ (e' ++ [v])) = false by rw [hT]; exact ell_front e' (v :: f') f' u v huv]
  (repeat' (first | (with_reducible refine if_ff ?_) | (with_reducible refine if_tt ?_) | (k_unfold; (try dsimp only)) | (k_end; wrow_close) | (cell_step; walk1) | (cell_step; dsimp only; walk1) | (leave1; walk_say "STEP leave1"; try dsimp only) | fail "no step"))
  refine endW _ F74 N74 (fun p hp q hq => by rw [List.mem_singleton.mp hq]; exact Nat.ne_of_lt (hI p hp)) ⟨⟨.head _, trivial⟩, ?_⟩
  refine ItemsRest.val (fun h8 tk8 F8 => ?_)
  ktu_objs
  rename News _ _ _ _ => N8
  (repeat' (first | (with_reducible refine if_ff ?_) | (with_reducible refine if_tt ?_) | (k_unfold; (try dsimp only)) | (k_end; wrow_close) | (cell_step; walk1) | (cell_step; dsimp only; walk1) | (leave1; walk_say "STEP leave1"; try dsimp only) | fail "no step"))
  (try rw [dots3])
  refine PyProof.Rows.add_str (hsz := by simp only [tx_len, sizeLine_eq, List.length_append, List.length_cons, List.length_nil]; omega) ?_
  intro t91 k91
  (try dsimp only)
  rw [tx_append]
  (repeat' (first | (with_reducible refine if_ff ?_) | (with_reducible refine if_tt ?_) | (k_unfold; (try dsimp only)) | (k_end; wrow_close) | (cell_step; walk1) | (cell_step; dsimp only; walk1) | (leave1; walk_say "STEP leave1"; try dsimp only) | fail "no step"))
  refine PyProof.Rows.add_str (hsz := by simp only [tx_len, sizeLine_eq, List.length_append, List.length_cons, List.length_nil]; omega) ?_
  intro t92 k92
  (try dsimp only)
  rw [tx_append, show e' ++ [46, 46, 46] ++ (u :: f') = dots (e' :: ([] ++ [(u :: f')])) by simp [dots]]
  (repeat' (first | (with_reducible refine if_ff ?_) | (with_reducible refine if_tt ?_) | (k_unfold; (try dsimp only)) | (k_end; wrow_close) | (cell_step; walk1) | (cell_step; dsimp only; walk1) | (leave1; walk_say "STEP leave1"; try dsimp only) | fail "no step"))
  refine PyProof.Rows.add_str (hsz := by simp only [tx_len, sizeLine_eq, List.length_append, List.length_cons, List.length_nil]; omega) ?_
  intro t93 k93
  (try dsimp only)
  rw [tx_append]
  (repeat' (first | (with_reducible refine if_ff ?_) | (with_reducible refine if_tt ?_) | (k_unfold; (try dsimp only)) | (k_end; wrow_close) | (cell_step; walk1) | (cell_step; dsimp only; walk1) | (leave1; walk_say "STEP leave1"; try dsimp only) | fail "no step"))
  (refine' tel_use ?tH ?tB ?tF ?tX ?tN ?tT ?tC1 ?tC2 ?tC3 ?tk ?td ?tu ?_; (case tB => k_asm); (case tF => k_asm); (case tX => k_asm); (case tN => k_asm); (case tT => k_asm); (case tC1 => assumption); (case tC2 => assumption); (case tC3 => assumption); (case tk => first | exact rfl | assumption); (case tH => exact (ell_match w _ e' (u :: f') [] (u :: f' ++ (e' ++ [v])) _ _ (by simp; exact ⟨hd2, fun h => hu h.symm, hd1⟩) (by simp [dots]; omega) (by simp) (by simp; omega))); (case td => ktr_room); (case tu => ktr_units))
  rintro v9 h94 tk94 news94 F94 N94 ⟨rfl, rfl⟩
  (try dsimp only)
  rw [show ellQ e' (u :: f') [] (u :: f' ++ (e' ++ [v])) = false by rw [hT]; have := ell_end e' (e' ++ [u]) f' u v huv; simpa using this]
  (repeat' (first | (with_reducible refine if_ff ?_) | (with_reducible refine if_tt ?_) | (k_unfold; (try dsimp only)) | (k_end; wrow_close) | (cell_step; walk1) | (cell_step; dsimp only; walk1) | (leave1; walk_say "STEP leave1"; try dsimp only) | fail "no step"))
  refine endW _ F94 N94 (fun p hp q hq => by rw [List.mem_singleton.mp hq]; exact Nat.ne_of_lt (hI p hp)) ⟨⟨.head _, trivial⟩, ?_⟩
  refine ItemsRest.zero (fun h5 tk5 F5 N5 => ?_)
  (try dsimp only)
  (repeat' (first | (with_reducible refine if_ff ?_) | (with_reducible refine if_tt ?_) | (k_unfold; (try dsimp only)) | (k_end; wrow_close) | (cell_step; walk1) | (cell_step; dsimp only; walk1) | (leave1; walk_say "STEP leave1"; try dsimp only) | fail "no step"))
  rename Fr _ _ _ _ => F6
  rw [bindAll_eq hM] at F6
  exact hret _ _ _ _ F6 (news_tail (news_tail (news_tail N5))) ⟨has_put (has_put (has_put (has_put hM (by rw [List.map_cons, List.map_cons, List.all_cons, List.all_cons, hk1]; rfl)) (by rw [List.map_cons, List.map_cons, List.all_cons, List.all_cons, hk2]; rfl)) (by rw [List.map_cons, List.map_cons, List.all_cons, List.all_cons, hk1]; rfl)) (by rw [List.map_cons, List.map_cons, List.all_cons, List.all_cons, hk2]; rfl), rfl⟩
end VturnB5
theorem turnB5 (w : World) (fa : Addr) (cd : Value) (L : Addr) (m : Str → Option Value) (K : Led) (u v : Nat) (f' e' : List Nat) (tf te : Tok) (ps : List (Str × Value)) (huv : u ≠ v) (hT : u :: f' ++ (e' ++ [v]) = e' ++ u :: v :: f') (hd1 : 46 ∉ f') (hd2 : 46 ∉ e') (hu : u ≠ 46) (hv : v ≠ 46) (hl : f'.length + e'.length ≤ 14)
   (hM : Has m ((Str.ofString "front", .str (tx (u :: f')) tf) :: (Str.ofString "end", .str (tx (e' ++ [v])) te) :: ps)) (hk1 : (ps.map (·.1)).all (fun k => k != Str.ofString "start") = true) (hk2 : (ps.map (·.1)).all (fun k => k != Str.ofString "rest") = true) :
  StgB w fa cd L (blkF 4 1) m K (fun m' news' => Has m' ((Str.ofString "front", .str (tx (u :: f')) tf) :: (Str.ofString "end", .str (tx (e' ++ [v])) te) :: ps) ∧ news' = K) := stgB_of fun z => (show VturnB5.At0 w fa cd L m K u v f' e' tf te ps z from eps1_all (P := VturnB5.AtX) @VturnB5.aux (w, fa, cd, L, m, K, u, v, f', e', tf, te, ps, z)) huv hT hd1 hd2 hu hv hl hM hk1 hk2
end
section
noncomputable abbrev KC (L : Addr) (o2 o3 : Obj) (K : Led) : Led := (L + 1 + 1, o2) :: (L + 1 + 1 + 1, o3) :: K
theorem kc_front {L : Addr} {o2 o3 : Obj} {tb K : Led} : ∀ p ∈ tb ++ KC L o2 o3 K, p ∈ KC L o2 o3 (tb ++ K) := by
  intro p hp
  simp only [List.mem_append, List.mem_cons] at hp ⊢
  rcases hp with h | h | h | h <;> simp only [h, true_or, or_true]
theorem kc_back {L : Addr} {o2 o3 : Obj} {tb K : Led} : ∀ p ∈ KC L o2 o3 (tb ++ K), p ∈ tb ++ KC L o2 o3 K := by
  intro p hp
  simp only [List.mem_append, List.mem_cons] at hp ⊢
  rcases hp with h | h | h | h <;> simp only [h, true_or, or_true]
inductive PB6a (L : Addr) (tb : Led) (K : Led) (o2 : Obj) (o3 : Obj) (x : Int) (z : Int) (y : Int) (kept : Int) (tx' : Tok) (ty : Tok) (tk : Tok) (ps : List (Str × Value)) (m' : Str → Option Value) (news' : Led) : Prop
  | mk (td : Tok) (tb' : Led) (zh1 : Has m' ((Str.ofString "x", .int x tx') :: (Str.ofString "z", .int y ty) :: (Str.ofString "due", .int (x * y - z) td) :: (Str.ofString "kept", .int kept tk) :: ps)) (zh2 : news' = KC L o2 o3 (tb' ++ K)) (zh3 : Tabs tb') (zh4 : Newer tb tb' (topA (tb ++ KC L o2 o3 K)))
namespace VturnB6a
noncomputable def At0 (w : World) (fa : Addr) (cd : Value) (L : Addr) (m : Str → Option Value) (K : Led) (o2 : Obj) (o3 : Obj) (u : Nat) (t2 : Tok) (tt : Tok) (x : Int) (z : Int) (y : Int) (kept : Int) (tx' : Tok) (tz : Tok) (ty : Tok) (tk : Tok) (ps : List (Str × Value)) (zvv : StgV) : Prop := ∀ (tb : Led) (e2 : o2.data = .cell (some (.str (tx [u]) t2))) (hs : Small x y z) (hk : x * x + y * y - kept = z * (x * y - z)) (off1 : OwnOff (KC L o2 o3 K) [30]) (off2 : OwnOff (KC L o2 o3 K) [37]) (ht : Tabs tb) (hM : Has m ((Str.ofString "turn", .str (tx [u]) tt) :: (Str.ofString "x", .int x tx') :: (Str.ofString "z", .int z tz) :: (Str.ofString "y", .int y ty) :: (Str.ofString "kept", .int kept tk) :: ps)) (hk1 : (ps.map (·.1)).all (fun k => k != Str.ofString "due") = true) (hk2 : (ps.map (·.1)).all (fun k => k != Str.ofString "z") = true), StgBAt w fa cd L (blkF 5 1) m (KC L o2 o3 (tb ++ K)) (PB6a L tb K o2 o3 x z y kept tx' ty tk ps) zvv
noncomputable def AtX (x : (World) × (Addr) × (Value) × (Addr) × (Str → Option Value) × (Led) × (Obj) × (Obj) × (Nat) × (Tok) × (Tok) × (Int) × (Int) × (Int) × (Int) × (Tok) × (Tok) × (Tok) × (Tok) × (List (Str × Value)) × StgV) : Prop := At0 (x.1) (x.2.1) (x.2.2.1) (x.2.2.2.1) (x.2.2.2.2.1) (x.2.2.2.2.2.1) (x.2.2.2.2.2.2.1) (x.2.2.2.2.2.2.2.1) (x.2.2.2.2.2.2.2.2.1) (x.2.2.2.2.2.2.2.2.2.1) (x.2.2.2.2.2.2.2.2.2.2.1) (x.2.2.2.2.2.2.2.2.2.2.2.1) (x.2.2.2.2.2.2.2.2.2.2.2.2.1) (x.2.2.2.2.2.2.2.2.2.2.2.2.2.1) (x.2.2.2.2.2.2.2.2.2.2.2.2.2.2.1) (x.2.2.2.2.2.2.2.2.2.2.2.2.2.2.2.1) (x.2.2.2.2.2.2.2.2.2.2.2.2.2.2.2.2.1) (x.2.2.2.2.2.2.2.2.2.2.2.2.2.2.2.2.2.1) (x.2.2.2.2.2.2.2.2.2.2.2.2.2.2.2.2.2.2.1) (x.2.2.2.2.2.2.2.2.2.2.2.2.2.2.2.2.2.2.2.1) (x.2.2.2.2.2.2.2.2.2.2.2.2.2.2.2.2.2.2.2.2)
noncomputable def cc0 : (World) × (Addr) × (Value) × (Addr) × (Str → Option Value) × (Led) × (Obj) × (Obj) × (Nat) × (Tok) × (Tok) × (Int) × (Int) × (Int) × (Int) × (Tok) × (Tok) × (Tok) × (Tok) × (List (Str × Value)) × StgV := eps1 (ne_prod ne_world (ne_prod ne_addr (ne_prod ne_value (ne_prod ne_addr (ne_prod ne_par (ne_prod ne_led (ne_prod ne_obj (ne_prod ne_obj (ne_prod ne_nat (ne_prod ne_tok (ne_prod ne_tok (ne_prod ne_int (ne_prod ne_int (ne_prod ne_int (ne_prod ne_int (ne_prod ne_tok (ne_prod ne_tok (ne_prod ne_tok (ne_prod ne_tok (ne_prod ne_list stgV_ne)))))))))))))))))))) AtX
noncomputable def w : World := cc0.1
noncomputable def fa : Addr := cc0.2.1
noncomputable def cd : Value := cc0.2.2.1
noncomputable def L : Addr := cc0.2.2.2.1
noncomputable def m : Str → Option Value := cc0.2.2.2.2.1
noncomputable def K : Led := cc0.2.2.2.2.2.1
noncomputable def o2 : Obj := cc0.2.2.2.2.2.2.1
noncomputable def o3 : Obj := cc0.2.2.2.2.2.2.2.1
noncomputable def u : Nat := cc0.2.2.2.2.2.2.2.2.1
noncomputable def t2 : Tok := cc0.2.2.2.2.2.2.2.2.2.1
noncomputable def tt : Tok := cc0.2.2.2.2.2.2.2.2.2.2.1
noncomputable def x : Int := cc0.2.2.2.2.2.2.2.2.2.2.2.1
noncomputable def z : Int := cc0.2.2.2.2.2.2.2.2.2.2.2.2.1
noncomputable def y : Int := cc0.2.2.2.2.2.2.2.2.2.2.2.2.2.1
noncomputable def kept : Int := cc0.2.2.2.2.2.2.2.2.2.2.2.2.2.2.1
noncomputable def tx' : Tok := cc0.2.2.2.2.2.2.2.2.2.2.2.2.2.2.2.1
noncomputable def tz : Tok := cc0.2.2.2.2.2.2.2.2.2.2.2.2.2.2.2.2.1
noncomputable def ty : Tok := cc0.2.2.2.2.2.2.2.2.2.2.2.2.2.2.2.2.2.1
noncomputable def tk : Tok := cc0.2.2.2.2.2.2.2.2.2.2.2.2.2.2.2.2.2.2.1
noncomputable def ps : List (Str × Value) := cc0.2.2.2.2.2.2.2.2.2.2.2.2.2.2.2.2.2.2.2.1
noncomputable def v0 : StgV := cc0.2.2.2.2.2.2.2.2.2.2.2.2.2.2.2.2.2.2.2.2
theorem aux (tb : Led) (e2 : o2.data = .cell (some (.str (tx [u]) t2))) (hs : Small x y z) (hk : x * x + y * y - kept = z * (x * y - z)) (off1 : OwnOff (KC L o2 o3 K) [30]) (off2 : OwnOff (KC L o2 o3 K) [37]) (ht : Tabs tb) (hM : Has m ((Str.ofString "turn", .str (tx [u]) tt) :: (Str.ofString "x", .int x tx') :: (Str.ofString "z", .int z tz) :: (Str.ofString "y", .int y ty) :: (Str.ofString "kept", .int kept tk) :: ps)) (hk1 : (ps.map (·.1)).all (fun k => k != Str.ofString "due") = true) (hk2 : (ps.map (·.1)).all (fun k => k != Str.ofString "z") = true) :
  StgBAt w fa cd L (blkF 5 1) m (KC L o2 o3 (tb ++ K)) (PB6a L tb K o2 o3 x z y kept tx' ty tk ps) v0 := by
  intro B' F X N T C1 C2 C3 hE hret
  have F0 := fr_all0 hM F
  clear F
  obtain ⟨x3, y3, z3, xl, yl, zl, xy⟩ := id hs
  have M1 : IntMulOk x x := mulOk_of (bits212 (by omega) xl) (bits212 (by omega) xl) (by decide)
  have M2 : IntMulOk y y := mulOk_of (bits212 (by omega) yl) (bits212 (by omega) yl) (by decide)
  have M3 : IntMulOk x y := mulOk_of (bits212 (by omega) xl) (bits212 (by omega) yl) (by decide)
  have hqb := quo_bits hs
  (repeat' (first | (with_reducible refine if_ff ?_) | (with_reducible refine if_tt ?_) | (k_unfold; (try dsimp only)) | (k_end; wrow_close) | (cell_step; walk1) | (cell_step; dsimp only; walk1) | (leave1; walk_say "STEP leave1"; try dsimp only) | fail "no step"))
  rw [show (tx [u] == tx [u]) = true by simp]
  (repeat' (first | (with_reducible refine if_ff ?_) | (with_reducible refine if_tt ?_) | (k_unfold; (try dsimp only)) | (k_end; wrow_close) | (cell_step; walk1) | (cell_step; dsimp only; walk1) | (leave1; walk_say "STEP leave1"; try dsimp only) | fail "no step"))
  rename News _ _ _ _ => N1
  have N2 := news_perm N1 (kc_front (o2 := o2) (o3 := o3) (tb := tb) (K := K))
  clear N1
  have hb1 : Builtin.Int.intBits z ≤ 4000 := Nat.le_trans (bits212 (by omega) zl) (by decide)
  have hb2 : Builtin.Int.intBits (x * x + y * y - kept) ≤ 425 := by rw [hk]; exact bits_of hqb.1 hqb.2
  have hq := divPos_is (by omega : 0 < z) hk
  (refine' tel_use ?tH ?tB ?tF ?tX ?tN ?tT ?tC1 ?tC2 ?tC3 ?tk ?td ?tu ?_; (case tB => k_asm); (case tF => k_asm); (case tX => k_asm); (case tN => k_asm); (case tT => k_asm); (case tC1 => assumption); (case tC2 => assumption); (case tC3 => assumption); (case tk => first | exact rfl | assumption); (case tH => exact (idm w tb (KC L o2 o3 K) (x * x + y * y - kept) z _ _ (by omega) hb1 (by omega) (nDig_few (by omega) (by omega)) off1 off2 ht)); (case td => ktr_room); (case tu => ktr_units))
  rintro v8 h8 tk8 news8 F8 N8 ⟨d, tq, tr, tb1, rfl, hd1, rfl, ht1, hn1⟩
  (try dsimp only)
  rw [hq.1, hq.2] at N8
  (repeat' (first | (with_reducible refine if_ff ?_) | (with_reducible refine if_tt ?_) | (k_unfold; (try dsimp only)) | (k_end; wrow_close) | (cell_step; walk1) | (cell_step; dsimp only; walk1) | (leave1; walk_say "STEP leave1"; try dsimp only) | fail "no step"))
  rename Fr _ _ _ _ => F9
  rename News _ _ _ _ => N9
  refine it_ne (News.isTup N9 (.tail _ (.head _))) (News.isTup N9 (.head _)) (.cons _ _ (.cons _ _ .nil)) (.cons _ _ (.cons _ _ .nil)) (by units_room) ?_
  rw [show (!decide ([x * y - z, (0 : Int)] = [x * y - z, 0])) = false by simp]
  (repeat' (first | (with_reducible refine if_ff ?_) | (with_reducible refine if_tt ?_) | (k_unfold; (try dsimp only)) | (k_end; wrow_close) | (cell_step; walk1) | (cell_step; dsimp only; walk1) | (leave1; walk_say "STEP leave1"; try dsimp only) | fail "no step"))
  rename Fr _ _ _ _ => F10
  rename News _ _ _ _ => N10
  rw [bindAll_eq hM] at F10
  exact hret _ _ _ _ F10 (news_perm (news_tail (news_tail N10)) kc_back) ⟨_, tb1, ⟨hM.2.1, rfl, rfl, hM.2.2.2.2.1, has_put (has_put hM.2.2.2.2.2 hk1) hk2⟩, rfl, ht1, hn1⟩
end VturnB6a
theorem turnB6a (w : World) (fa : Addr) (cd : Value) (L : Addr) (m : Str → Option Value) (tb K : Led) (o2 o3 : Obj) (u : Nat) (t2 tt : Tok) (e2 : o2.data = .cell (some (.str (tx [u]) t2))) (x z y kept : Int) (tx' tz ty tk : Tok) (ps : List (Str × Value)) (hs : Small x y z) (hk : x * x + y * y - kept = z * (x * y - z))
   (off1 : OwnOff (KC L o2 o3 K) [30]) (off2 : OwnOff (KC L o2 o3 K) [37]) (ht : Tabs tb) (hM : Has m ((Str.ofString "turn", .str (tx [u]) tt) :: (Str.ofString "x", .int x tx') :: (Str.ofString "z", .int z tz) :: (Str.ofString "y", .int y ty) :: (Str.ofString "kept", .int kept tk) :: ps))
   (hk1 : (ps.map (·.1)).all (fun k => k != Str.ofString "due") = true) (hk2 : (ps.map (·.1)).all (fun k => k != Str.ofString "z") = true) :
  StgB w fa cd L (blkF 5 1) m (KC L o2 o3 (tb ++ K)) (PB6a L tb K o2 o3 x z y kept tx' ty tk ps) := stgB_of fun zvv => (show VturnB6a.At0 w fa cd L m K o2 o3 u t2 tt x z y kept tx' tz ty tk ps zvv from eps1_all (P := VturnB6a.AtX) @VturnB6a.aux (w, fa, cd, L, m, K, o2, o3, u, t2, tt, x, z, y, kept, tx', tz, ty, tk, ps, zvv)) tb e2 hs hk off1 off2 ht hM hk1 hk2
inductive PB6b (L : Addr) (tb : Led) (K : Led) (o2 : Obj) (o3 : Obj) (x : Int) (z : Int) (y : Int) (kept : Int) (tz : Tok) (ty : Tok) (tk : Tok) (ps : List (Str × Value)) (m' : Str → Option Value) (news' : Led) : Prop
  | mk (td : Tok) (tb' : Led) (zh1 : Has m' ((Str.ofString "x", .int y ty) :: (Str.ofString "z", .int z tz) :: (Str.ofString "due", .int (y * z - x) td) :: (Str.ofString "kept", .int kept tk) :: ps)) (zh2 : news' = KC L o2 o3 (tb' ++ K)) (zh3 : Tabs tb') (zh4 : Newer tb tb' (topA (tb ++ KC L o2 o3 K)))
namespace VturnB6b
noncomputable def At0 (w : World) (fa : Addr) (cd : Value) (L : Addr) (m : Str → Option Value) (K : Led) (o2 : Obj) (o3 : Obj) (u : Nat) (v : Nat) (t2 : Tok) (t3 : Tok) (tt : Tok) (x : Int) (z : Int) (y : Int) (kept : Int) (tx' : Tok) (tz : Tok) (ty : Tok) (tk : Tok) (ps : List (Str × Value)) (zvv : StgV) : Prop := ∀ (tb : Led) (huv : u ≠ v) (e2 : o2.data = .cell (some (.str (tx [u]) t2))) (e3 : o3.data = .cell (some (.str (tx [v]) t3))) (hs : Small y z x) (hk : y * y + z * z - kept = x * (y * z - x)) (off1 : OwnOff (KC L o2 o3 K) [30]) (off2 : OwnOff (KC L o2 o3 K) [37]) (ht : Tabs tb) (hM : Has m ((Str.ofString "turn", .str (tx [v]) tt) :: (Str.ofString "x", .int x tx') :: (Str.ofString "z", .int z tz) :: (Str.ofString "y", .int y ty) :: (Str.ofString "kept", .int kept tk) :: ps)) (hk1 : (ps.map (·.1)).all (fun k => k != Str.ofString "due") = true) (hk2 : (ps.map (·.1)).all (fun k => k != Str.ofString "x") = true), StgBAt w fa cd L (blkF 5 1) m (KC L o2 o3 (tb ++ K)) (PB6b L tb K o2 o3 x z y kept tz ty tk ps) zvv
noncomputable def AtX (x : (World) × (Addr) × (Value) × (Addr) × (Str → Option Value) × (Led) × (Obj) × (Obj) × (Nat) × (Nat) × (Tok) × (Tok) × (Tok) × (Int) × (Int) × (Int) × (Int) × (Tok) × (Tok) × (Tok) × (Tok) × (List (Str × Value)) × StgV) : Prop := At0 (x.1) (x.2.1) (x.2.2.1) (x.2.2.2.1) (x.2.2.2.2.1) (x.2.2.2.2.2.1) (x.2.2.2.2.2.2.1) (x.2.2.2.2.2.2.2.1) (x.2.2.2.2.2.2.2.2.1) (x.2.2.2.2.2.2.2.2.2.1) (x.2.2.2.2.2.2.2.2.2.2.1) (x.2.2.2.2.2.2.2.2.2.2.2.1) (x.2.2.2.2.2.2.2.2.2.2.2.2.1) (x.2.2.2.2.2.2.2.2.2.2.2.2.2.1) (x.2.2.2.2.2.2.2.2.2.2.2.2.2.2.1) (x.2.2.2.2.2.2.2.2.2.2.2.2.2.2.2.1) (x.2.2.2.2.2.2.2.2.2.2.2.2.2.2.2.2.1) (x.2.2.2.2.2.2.2.2.2.2.2.2.2.2.2.2.2.1) (x.2.2.2.2.2.2.2.2.2.2.2.2.2.2.2.2.2.2.1) (x.2.2.2.2.2.2.2.2.2.2.2.2.2.2.2.2.2.2.2.1) (x.2.2.2.2.2.2.2.2.2.2.2.2.2.2.2.2.2.2.2.2.1) (x.2.2.2.2.2.2.2.2.2.2.2.2.2.2.2.2.2.2.2.2.2.1) (x.2.2.2.2.2.2.2.2.2.2.2.2.2.2.2.2.2.2.2.2.2.2)
noncomputable def cc0 : (World) × (Addr) × (Value) × (Addr) × (Str → Option Value) × (Led) × (Obj) × (Obj) × (Nat) × (Nat) × (Tok) × (Tok) × (Tok) × (Int) × (Int) × (Int) × (Int) × (Tok) × (Tok) × (Tok) × (Tok) × (List (Str × Value)) × StgV := eps1 (ne_prod ne_world (ne_prod ne_addr (ne_prod ne_value (ne_prod ne_addr (ne_prod ne_par (ne_prod ne_led (ne_prod ne_obj (ne_prod ne_obj (ne_prod ne_nat (ne_prod ne_nat (ne_prod ne_tok (ne_prod ne_tok (ne_prod ne_tok (ne_prod ne_int (ne_prod ne_int (ne_prod ne_int (ne_prod ne_int (ne_prod ne_tok (ne_prod ne_tok (ne_prod ne_tok (ne_prod ne_tok (ne_prod ne_list stgV_ne)))))))))))))))))))))) AtX
noncomputable def w : World := cc0.1
noncomputable def fa : Addr := cc0.2.1
noncomputable def cd : Value := cc0.2.2.1
noncomputable def L : Addr := cc0.2.2.2.1
noncomputable def m : Str → Option Value := cc0.2.2.2.2.1
noncomputable def K : Led := cc0.2.2.2.2.2.1
noncomputable def o2 : Obj := cc0.2.2.2.2.2.2.1
noncomputable def o3 : Obj := cc0.2.2.2.2.2.2.2.1
noncomputable def u : Nat := cc0.2.2.2.2.2.2.2.2.1
noncomputable def v : Nat := cc0.2.2.2.2.2.2.2.2.2.1
noncomputable def t2 : Tok := cc0.2.2.2.2.2.2.2.2.2.2.1
noncomputable def t3 : Tok := cc0.2.2.2.2.2.2.2.2.2.2.2.1
noncomputable def tt : Tok := cc0.2.2.2.2.2.2.2.2.2.2.2.2.1
noncomputable def x : Int := cc0.2.2.2.2.2.2.2.2.2.2.2.2.2.1
noncomputable def z : Int := cc0.2.2.2.2.2.2.2.2.2.2.2.2.2.2.1
noncomputable def y : Int := cc0.2.2.2.2.2.2.2.2.2.2.2.2.2.2.2.1
noncomputable def kept : Int := cc0.2.2.2.2.2.2.2.2.2.2.2.2.2.2.2.2.1
noncomputable def tx' : Tok := cc0.2.2.2.2.2.2.2.2.2.2.2.2.2.2.2.2.2.1
noncomputable def tz : Tok := cc0.2.2.2.2.2.2.2.2.2.2.2.2.2.2.2.2.2.2.1
noncomputable def ty : Tok := cc0.2.2.2.2.2.2.2.2.2.2.2.2.2.2.2.2.2.2.2.1
noncomputable def tk : Tok := cc0.2.2.2.2.2.2.2.2.2.2.2.2.2.2.2.2.2.2.2.2.1
noncomputable def ps : List (Str × Value) := cc0.2.2.2.2.2.2.2.2.2.2.2.2.2.2.2.2.2.2.2.2.2.1
noncomputable def v0 : StgV := cc0.2.2.2.2.2.2.2.2.2.2.2.2.2.2.2.2.2.2.2.2.2.2
theorem aux (tb : Led) (huv : u ≠ v) (e2 : o2.data = .cell (some (.str (tx [u]) t2))) (e3 : o3.data = .cell (some (.str (tx [v]) t3))) (hs : Small y z x) (hk : y * y + z * z - kept = x * (y * z - x)) (off1 : OwnOff (KC L o2 o3 K) [30]) (off2 : OwnOff (KC L o2 o3 K) [37]) (ht : Tabs tb) (hM : Has m ((Str.ofString "turn", .str (tx [v]) tt) :: (Str.ofString "x", .int x tx') :: (Str.ofString "z", .int z tz) :: (Str.ofString "y", .int y ty) :: (Str.ofString "kept", .int kept tk) :: ps)) (hk1 : (ps.map (·.1)).all (fun k => k != Str.ofString "due") = true) (hk2 : (ps.map (·.1)).all (fun k => k != Str.ofString "x") = true) :
  StgBAt w fa cd L (blkF 5 1) m (KC L o2 o3 (tb ++ K)) (PB6b L tb K o2 o3 x z y kept tz ty tk ps) v0 := by
  intro B' F X N T C1 C2 C3 hE hret
  have F0 := fr_all0 hM F
  clear F
  obtain ⟨y3, z3, x3, yl, zl, xl, yz⟩ := id hs
  have M1 : IntMulOk z z := mulOk_of (bits212 (by omega) zl) (bits212 (by omega) zl) (by decide)
  have M2 : IntMulOk y y := mulOk_of (bits212 (by omega) yl) (bits212 (by omega) yl) (by decide)
  have M3 : IntMulOk y z := mulOk_of (bits212 (by omega) yl) (bits212 (by omega) zl) (by decide)
  have hqb := quo_bits hs
  (repeat' (first | (with_reducible refine if_ff ?_) | (with_reducible refine if_tt ?_) | (k_unfold; (try dsimp only)) | (k_end; wrow_close) | (cell_step; walk1) | (cell_step; dsimp only; walk1) | (leave1; walk_say "STEP leave1"; try dsimp only) | fail "no step"))
  rw [show (tx [v] == tx [u]) = false by rw [tx_beq]; simp [Ne.symm huv]]
  (repeat' (first | (with_reducible refine if_ff ?_) | (with_reducible refine if_tt ?_) | (k_unfold; (try dsimp only)) | (k_end; wrow_close) | (cell_step; walk1) | (cell_step; dsimp only; walk1) | (leave1; walk_say "STEP leave1"; try dsimp only) | fail "no step"))
  rw [show (tx [v] == tx [v]) = true by simp]
  (repeat' (first | (with_reducible refine if_ff ?_) | (with_reducible refine if_tt ?_) | (k_unfold; (try dsimp only)) | (k_end; wrow_close) | (cell_step; walk1) | (cell_step; dsimp only; walk1) | (leave1; walk_say "STEP leave1"; try dsimp only) | fail "no step"))
  rename News _ _ _ _ => N1
  have N2 := news_perm N1 (kc_front (o2 := o2) (o3 := o3) (tb := tb) (K := K))
  clear N1
  have hb1 : Builtin.Int.intBits x ≤ 4000 := Nat.le_trans (bits212 (by omega) xl) (by decide)
  have hb2 : Builtin.Int.intBits (y * y + z * z - kept) ≤ 425 := by rw [hk]; exact bits_of hqb.1 hqb.2
  have hq := divPos_is (by omega : 0 < x) hk
  (refine' tel_use ?tH ?tB ?tF ?tX ?tN ?tT ?tC1 ?tC2 ?tC3 ?tk ?td ?tu ?_; (case tB => k_asm); (case tF => k_asm); (case tX => k_asm); (case tN => k_asm); (case tT => k_asm); (case tC1 => assumption); (case tC2 => assumption); (case tC3 => assumption); (case tk => first | exact rfl | assumption); (case tH => exact (idm w tb (KC L o2 o3 K) (y * y + z * z - kept) x _ _ (by omega) hb1 (by omega) (nDig_few (by omega) (by omega)) off1 off2 ht)); (case td => ktr_room); (case tu => ktr_units))
  rintro v8 h8 tk8 news8 F8 N8 ⟨d, tq, tr, tb1, rfl, hd1, rfl, ht1, hn1⟩
  (try dsimp only)
  rw [hq.1, hq.2] at N8
  (repeat' (first | (with_reducible refine if_ff ?_) | (with_reducible refine if_tt ?_) | (k_unfold; (try dsimp only)) | (k_end; wrow_close) | (cell_step; walk1) | (cell_step; dsimp only; walk1) | (leave1; walk_say "STEP leave1"; try dsimp only) | fail "no step"))
  rename Fr _ _ _ _ => F9
  rename News _ _ _ _ => N9
  refine it_ne (News.isTup N9 (.tail _ (.head _))) (News.isTup N9 (.head _)) (.cons _ _ (.cons _ _ .nil)) (.cons _ _ (.cons _ _ .nil)) (by units_room) ?_
  rw [show (!decide ([y * z - x, (0 : Int)] = [y * z - x, 0])) = false by simp]
  (repeat' (first | (with_reducible refine if_ff ?_) | (with_reducible refine if_tt ?_) | (k_unfold; (try dsimp only)) | (k_end; wrow_close) | (cell_step; walk1) | (cell_step; dsimp only; walk1) | (leave1; walk_say "STEP leave1"; try dsimp only) | fail "no step"))
  rename Fr _ _ _ _ => F10
  rename News _ _ _ _ => N10
  rw [bindAll_eq hM] at F10
  exact hret _ _ _ _ F10 (news_perm (news_tail (news_tail N10)) kc_back) ⟨_, tb1, ⟨rfl, hM.2.2.1, rfl, hM.2.2.2.2.1, has_put (has_put hM.2.2.2.2.2 hk1) hk2⟩, rfl, ht1, hn1⟩
end VturnB6b
theorem turnB6b (w : World) (fa : Addr) (cd : Value) (L : Addr) (m : Str → Option Value) (tb K : Led) (o2 o3 : Obj) (u v : Nat) (huv : u ≠ v) (t2 t3 tt : Tok) (e2 : o2.data = .cell (some (.str (tx [u]) t2))) (e3 : o3.data = .cell (some (.str (tx [v]) t3))) (x z y kept : Int) (tx' tz ty tk : Tok) (ps : List (Str × Value)) (hs : Small y z x) (hk : y * y + z * z - kept = x * (y * z - x))
   (off1 : OwnOff (KC L o2 o3 K) [30]) (off2 : OwnOff (KC L o2 o3 K) [37]) (ht : Tabs tb) (hM : Has m ((Str.ofString "turn", .str (tx [v]) tt) :: (Str.ofString "x", .int x tx') :: (Str.ofString "z", .int z tz) :: (Str.ofString "y", .int y ty) :: (Str.ofString "kept", .int kept tk) :: ps))
   (hk1 : (ps.map (·.1)).all (fun k => k != Str.ofString "due") = true) (hk2 : (ps.map (·.1)).all (fun k => k != Str.ofString "x") = true) :
  StgB w fa cd L (blkF 5 1) m (KC L o2 o3 (tb ++ K)) (PB6b L tb K o2 o3 x z y kept tz ty tk ps) := stgB_of fun zvv => (show VturnB6b.At0 w fa cd L m K o2 o3 u v t2 t3 tt x z y kept tx' tz ty tk ps zvv from eps1_all (P := VturnB6b.AtX) @VturnB6b.aux (w, fa, cd, L, m, K, o2, o3, u, v, t2, t3, tt, x, z, y, kept, tx', tz, ty, tk, ps, zvv)) tb huv e2 e3 hs hk off1 off2 ht hM hk1 hk2
theorem turnB6c (w : World) (fa : Addr) (cd : Value) (L : Addr) (m : Str → Option Value) (K : Led) (o2 o3 : Obj) (u v : Nat) (t2 t3 tt : Tok) (e2 : o2.data = .cell (some (.str (tx [u]) t2))) (e3 : o3.data = .cell (some (.str (tx [v]) t3)))
   (hM : Has m [(Str.ofString "turn", .str (tx []) tt)]) :
  StgB w fa cd L (blkF 5 1) m (KC L o2 o3 K) (fun m' news' => m' = m ∧ news' = KC L o2 o3 K) := by
  intro mean mg mb base s rest Q E B' F X N T C1 C2 C3 hE hret
  have F0 := fr_all0 hM F
  clear F
  (repeat' (first | (with_reducible refine if_ff ?_) | (with_reducible refine if_tt ?_) | (k_unfold; (try dsimp only)) | (k_end; wrow_close) | (cell_step; walk1) | (cell_step; dsimp only; walk1) | (leave1; walk_say "STEP leave1"; try dsimp only) | fail "no step"))
  rw [show (tx [] == tx [u]) = false by rw [tx_beq]; simp]
  (repeat' (first | (with_reducible refine if_ff ?_) | (with_reducible refine if_tt ?_) | (k_unfold; (try dsimp only)) | (k_end; wrow_close) | (cell_step; walk1) | (cell_step; dsimp only; walk1) | (leave1; walk_say "STEP leave1"; try dsimp only) | fail "no step"))
  rw [show (tx [] == tx [v]) = false by rw [tx_beq]; simp]
  (repeat' (first | (with_reducible refine if_ff ?_) | (with_reducible refine if_tt ?_) | (k_unfold; (try dsimp only)) | (k_end; wrow_close) | (cell_step; walk1) | (cell_step; dsimp only; walk1) | (leave1; walk_say "STEP leave1"; try dsimp only) | fail "no step"))
  rename Fr _ _ _ _ => F10
  rename News _ _ _ _ => N10
  rw [bindAll_eq hM] at F10
  exact hret _ _ _ _ F10 N10 ⟨rfl, rfl⟩
end
section
section
variable {w : World} {fa : Addr} {cd : Value} {L : Addr} {b b2 : List Stmt} {m : Str → Option Value} {news : Led} {R R2 : (Str → Option Value) → Led → Prop}
theorem StgB.seq (h : StgB w fa cd L b m news R) (k : ∀ m' news', R m' news' → StgB w fa cd L b2 m' news' R2) : StgB w fa cd L (b ++ b2) m news R2 := by
  intro mean mg mb base s rest Q E B' F X N T C1 C2 C3 hE hret
  rw [List.append_assoc]
  refine h mean mg mb base s (b2 ++ rest) Q E B' F X N T C1 C2 C3 hE fun h' tk' m' news' F' N' r => ?_
  exact k m' news' r mean mg mb base { s with heap := h', toks := tk' } rest Q E B' F' X N' T C1 C2 C3 hE fun h2 tk2 m2 news2 F2 N2 r2 => hret h2 tk2 m2 news2 F2 N2 r2
theorem StgB.perm {news2 : Led} (h : StgB w fa cd L b m news R) (k : ∀ p ∈ news, p ∈ news2) : StgB w fa cd L b m news2 R := by
  intro mean mg mb base s rest Q E B' F X N T C1 C2 C3 hE hret
  exact h mean mg mb base s rest Q E B' F X (news_perm N k) T C1 C2 C3 hE hret
theorem StgB.post {R2 : (Str → Option Value) → Led → Prop} (h : StgB w fa cd L b m news R) (k : ∀ m' news', R m' news' → ∃ news2, (∀ p ∈ news2, p ∈ news') ∧ R2 m' news2) : StgB w fa cd L b m news R2 := by
  intro mean mg mb base s rest Q E B' F X N T C1 C2 C3 hE hret
  refine h mean mg mb base s rest Q E B' F X N T C1 C2 C3 hE fun h' tk' m' news' F' N' r => ?_
  obtain ⟨news2, h1, h2⟩ := k m' news' r
  exact hret h' tk' m' news2 F' (news_perm N' h1) h2
end
theorem blkF_add (i j k : Nat) : blkF i (j + k) = blkF i j ++ blkF (i + j) k := by
  unfold blkF
  rw [List.take_add, List.drop_drop]
theorem newer_apart {tb tb' : Led} {t : Nat} (h : Newer tb tb' t) {a : Addr} (h1 : ∀ p ∈ tb, p.1 ≠ a) (h2 : @LT.lt Nat _ a t) : ∀ p ∈ tb', p.1 ≠ a := h.off h1 h2
theorem top_mem {l : Led} {p : Addr × Obj} (h : p ∈ l) : @LT.lt Nat _ p.1 (topA l) := topA_lt (Nat.le_refl _) p h
noncomputable def keysT : List Str := [Str.ofString "y", Str.ofString "start", Str.ofString "rest", Str.ofString "due", Str.ofString "z", Str.ofString "x", Str.ofString "front", Str.ofString "end", Str.ofString "turn"]
noncomputable def KeysOff (ps : List (Str × Value)) : Prop := ∀ k ∈ keysT, (ps.map (·.1)).all (fun x => x != k) = true
theorem all_cons {ps : List (Str × Value)} {k k0 : Str} {v0 : Value} (h : (ps.map (·.1)).all (fun x => x != k) = true) (hp : (k0 != k) = true) : (((k0, v0) :: ps).map (·.1)).all (fun x => x != k) = true := by
  rw [List.map_cons, List.all_cons, hp, h]; rfl
noncomputable abbrev TL1 (L I : Addr) (io o2 o3 : Obj) (its tb K : Led) : Led := its ++ ((I, io) :: KC L o2 o3 (tb ++ K))
section
variable {L I : Addr} {io o2 o3 : Obj} {its tb K : Led}
theorem tl_one : ∀ p ∈ (I, io) :: (its ++ KC L o2 o3 (tb ++ K)), p ∈ TL1 L I io o2 o3 its tb K := by
  intro p hp
  simp only [List.mem_append, List.mem_cons] at hp ⊢
  rcases hp with h | h | h | h | h | h <;> simp only [h, true_or, or_true]
theorem tl_two : ∀ p ∈ tb ++ (its ++ ((I, io) :: KC L o2 o3 K)), p ∈ (I, io) :: (its ++ KC L o2 o3 (tb ++ K)) := by
  intro p hp
  simp only [List.mem_append, List.mem_cons] at hp ⊢
  rcases hp with h | h | h | h | h | h <;> simp only [h, true_or, or_true]
theorem tl_six : ∀ p ∈ KC L o2 o3 (tb ++ (its ++ ((I, io) :: K))), p ∈ tb ++ (its ++ ((I, io) :: KC L o2 o3 K)) := by
  intro p hp
  simp only [List.mem_append, List.mem_cons] at hp ⊢
  rcases hp with h | h | h | h | h | h <;> simp only [h, true_or, or_true]
theorem tl_end : ∀ p ∈ TL1 L I io o2 o3 its tb K, p ∈ KC L o2 o3 (tb ++ (its ++ ((I, io) :: K))) := by
  intro p hp
  simp only [List.mem_append, List.mem_cons] at hp ⊢
  rcases hp with h | h | h | h | h | h <;> simp only [h, true_or, or_true]
end
structure Beside (L I T0 : Addr) (o2 o3 : Obj) (its tb K : Led) : Prop where
  tabs : Tabs tb
  i30 : @LT.lt Nat _ 37 I
  l30 : @LT.lt Nat _ 37 L
  its30 : ∀ p ∈ its, @LT.lt Nat _ 37 p.1
  k30 : OwnOff K [30]
  k37 : OwnOff K [37]
  itsI : ∀ p ∈ its, p.1 ≠ I
  kI : ∀ p ∈ KC L o2 o3 K, p.1 ≠ I
  big : ∀ p ∈ tb, p.1 ≤ 37 ∨ T0 ≤ p.1
  iT : @LT.lt Nat _ I T0
  tT : T0 = topA its
theorem off_big {l : Led} {a : Nat} (h : ∀ p ∈ l, @LT.lt Nat _ a p.1) : OwnOff l [a] := fun p hp d hd => by
  rw [List.mem_singleton.mp hd]
  exact Nat.ne_of_gt (h p hp)
theorem off_big2 {l : Led} {a c : Nat} (h : ∀ p ∈ l, @LT.lt Nat _ a p.1) (hc : c ≤ a) : OwnOff l [c] := off_big fun p hp => Nat.lt_of_le_of_lt hc (h p hp)
section
variable {L I T0 : Addr} {o2 o3 : Obj} {its tb tb' K : Led}
theorem Beside.offs (h : Beside L I T0 o2 o3 its tb K) (io : Obj) : OwnOff (its ++ ((I, io) :: KC L o2 o3 K)) [30] ∧ OwnOff (its ++ ((I, io) :: KC L o2 o3 K)) [37] := by
  have key : ∀ c : Nat, c ≤ 37 → OwnOff K [c] → OwnOff (its ++ ((I, io) :: KC L o2 o3 K)) [c] := fun c hc hK => ownOff_app (off_big2 h.its30 hc) (ownOff_cons (fun d hd => by
    rw [List.mem_singleton.mp hd]; exact Nat.ne_of_gt (Nat.lt_of_le_of_lt hc h.i30)) (ownOff_cons (fun d hd => by
    rw [List.mem_singleton.mp hd]; exact Nat.ne_of_gt (Nat.lt_of_le_of_lt hc (Nat.lt_of_lt_of_le h.l30 (Nat.le_add_right L 2)))) (ownOff_cons (fun d hd => by
    rw [List.mem_singleton.mp hd]; exact Nat.ne_of_gt (Nat.lt_of_le_of_lt hc (Nat.lt_of_lt_of_le h.l30 (Nat.le_add_right L 3)))) hK)))
  exact ⟨key 30 (by decide) h.k30, key 37 (by decide) h.k37⟩
theorem Beside.offs6 (h : Beside L I T0 o2 o3 its tb K) (io : Obj) : OwnOff (KC L o2 o3 (its ++ ((I, io) :: K))) [30] ∧ OwnOff (KC L o2 o3 (its ++ ((I, io) :: K))) [37] := by
  have hs : ∀ p ∈ KC L o2 o3 (its ++ ((I, io) :: K)), p ∈ its ++ ((I, io) :: KC L o2 o3 K) := by
    intro p hp
    simp only [List.mem_append, List.mem_cons] at hp ⊢
    rcases hp with h | h | h | h | h <;> simp only [h, true_or, or_true]
  have := h.offs io
  exact ⟨fun p hp => this.1 p (hs p hp), fun p hp => this.2 p (hs p hp)⟩
theorem Beside.next (h : Beside L I T0 o2 o3 its tb K) (ht : Tabs tb') {X : Led} (hX : ∀ p ∈ its, p ∈ X) (hn : Newer tb tb' (topA X)) : Beside L I T0 o2 o3 its tb' K :=
  ⟨ht, h.i30, h.l30, h.its30, h.k30, h.k37, h.itsI, h.kI, fun p hp => by
    rcases hn p hp with h1 | h1
    · obtain ⟨q, hq, e⟩ := List.mem_map.mp h1
      rw [← e]
      exact h.big q hq
    · refine .inr (Nat.le_trans ?_ h1)
      rw [h.tT]
      have key : ∀ {a b : Led}, (∀ p ∈ a, p ∈ b) → topA a ≤ topA b := by
        intro a
        induction a with
        | nil => intro b _; exact Nat.zero_le _
        | cons q r ih =>
          intro b hs
          rw [topA_cons]
          have h1 := top_mem (hs q (.head _))
          have h2 := ih fun p hp => hs p (.tail _ hp)
          omega
      exact key hX, h.iT, h.tT⟩
theorem Beside.offI (h : Beside L I T0 o2 o3 its tb K) : ∀ p ∈ its ++ KC L o2 o3 (tb ++ K), p.1 ≠ I := fun p hp => by
  rcases List.mem_append.mp hp with hp | hp
  · exact h.itsI p hp
  rcases List.mem_cons.mp hp with rfl | hp
  · exact h.kI _ (.head _)
  rcases List.mem_cons.mp hp with rfl | hp
  · exact h.kI _ (.tail _ (.head _))
  rcases List.mem_append.mp hp with hp | hp
  · have h1 := h.i30
    have h2 := h.iT
    rcases h.big p hp with h3 | h3
    · exact Nat.ne_of_lt (Nat.lt_of_le_of_lt h3 h1)
    · exact Nat.ne_of_gt (Nat.lt_of_lt_of_le h2 h3)
  · exact h.kI p (.tail _ (.tail _ hp))
end
noncomputable abbrev nmT (f' e' t : List Nat) (u v : Nat) (tf te tt : Tok) : List (Str × Value) := [(Str.ofString "front", .str (tx (u :: f')) tf), (Str.ofString "end", .str (tx (e' ++ [v])) te), (Str.ofString "turn", .str (tx t) tt)]
noncomputable abbrev nmX (x z due kept : Int) (t1 t2 t3 t4 : Tok) (I : Addr) (ps : List (Str × Value)) : List (Str × Value) := (Str.ofString "x", .int x t1) :: (Str.ofString "z", .int z t2) :: (Str.ofString "due", .int due t3) :: (Str.ofString "kept", .int kept t4) :: (Str.ofString "tape", .ref I) :: ps
inductive THead (L : Addr) (I : Addr) (T0 : Addr) (Dt : Addr) (its : Led) (K : Led) (o2 : Obj) (o3 : Obj) (u : Nat) (v : Nat) (f' : List Nat) (e' : List Nat) (t : List Nat) (tf : Tok) (te : Tok) (tt : Tok) (t1 : Tok) (t2 : Tok) (t3 : Tok) (t4 : Tok) (x : Int) (z : Int) (kept : Int) (ps : List (Str × Value)) (A : List (List Int)) (r : List Int) (m' : Str → Option Value) (news' : Led) : Prop
  | mk (ty : Tok) (io' : Obj) (tb' : Led) (zh1 : Has m' (nmT f' e' t u v tf te tt ++ (Str.ofString "y", .int (trac r) ty) :: nmX x z (trac r) kept t1 t2 t3 t4 I ps)) (zh2 : TapeAt io' Dt (tapeOf (A ++ [r])).length) (zh3 : Beside L I T0 o2 o3 its tb' K) (zh4 : news' = KC L o2 o3 (tb' ++ (its ++ ((I, io') :: K))))
theorem turn_head (w : World) (fa : Addr) (cd : Value) (L I T0 Dt : Addr) (m : Str → Option Value) (its tb K : Led) (io o2 o3 : Obj) (u v : Nat) (f' e' t : List Nat) (tf te tt t1 t2 t3 t4 : Tok) (x z kept : Int) (ps : List (Str × Value)) (hp : KeysOff ps) (zs : List Value) (A B : List (List Int)) (r : List Int)
   (hb : Beside L I T0 o2 o3 its tb K) (hio : TapeAt io Dt (tapeOf A).length) (hm : (Dt, LCg.lst zs) ∈ K) (hz : IntsAre zs (tapeOf (A ++ r :: B))) (hr : 0 ≤ trac r ∧ trac r < 2 ^ (6 * (69 + 1)))
   (hs : Small x z (trac r)) (hk : x * x + z * z - kept = trac r * (x * z - trac r))
   (huv : u ≠ v) (hT : u :: f' ++ (e' ++ [v]) = e' ++ u :: v :: f') (hd1 : 46 ∉ f') (hd2 : 46 ∉ e') (hu : u ≠ 46) (hv : v ≠ 46) (hl : f'.length + e'.length ≤ 14)
   (hM : Has m (nmT f' e' t u v tf te tt ++ nmX x z (trac r) kept t1 t2 t3 t4 I ps)) :
  StgB w fa cd L (blkF 0 5) m (TL1 L I io o2 o3 its tb K) (THead L I T0 Dt its K o2 o3 u v f' e' t tf te tt t1 t2 t3 t4 x z kept ps A r) := by
  obtain ⟨hfr, hen, htu, hx, hz', hdu, hke, hta, hpsM⟩ := hM
  rw [show (5 : Nat) = 1 + (2 + (1 + 1)) from rfl, blkF_add, blkF_add, blkF_add]
  refine StgB.seq (StgB.perm (turnB1 w fa cd L m (its ++ KC L o2 o3 (tb ++ K)) I Dt zs A B r io ((Str.ofString "front", .str (tx (u :: f')) tf) :: (Str.ofString "end", .str (tx (e' ++ [v])) te) :: (Str.ofString "turn", .str (tx t) tt) :: (Str.ofString "x", .int x t1) :: (Str.ofString "z", .int z t2) :: (Str.ofString "due", .int (trac r) t3) :: (Str.ofString "kept", .int kept t4) :: ps) hb.offI hio (List.mem_append_right _ (.tail _ (.tail _ (List.mem_append_right _ hm)))) hz hr ⟨hta, hfr, hen, htu, hx, hz', hdu, hke, hpsM⟩ ?k1) tl_one) ?_
  case k1 =>
    have := hp (Str.ofString "y") (by simp [keysT])
    refine all_cons (all_cons (all_cons (all_cons (all_cons (all_cons (all_cons this ?_) ?_) ?_) ?_) ?_) ?_) ?_ <;> decide +kernel
  rintro m1 n1 ⟨ty, io1, ⟨hy1, hta1, hfr1, hen1, htu1, hx1, hz1, hdu1, hke1, hps1⟩, hio1, rfl⟩
  have ho := hb.offs io1
  refine StgB.seq (StgB.perm (turnB2 w fa cd L m1 tb (its ++ ((I, io1) :: KC L o2 o3 K)) x z (trac r) kept t1 t2 ty t3 t4 hs hk ho.1 ho.2 hb.tabs ⟨hy1, hx1, hz1, hdu1, hke1, trivial⟩) tl_two) ?_
  rintro m2 n2 ⟨rfl, tb2, rfl, ht2, hn2⟩
  have hb2 := hb.next ht2 (X := tb ++ (its ++ ((I, io1) :: KC L o2 o3 K))) (fun p hp => List.mem_append_right _ (List.mem_append_left _ hp)) hn2
  refine StgB.seq (turnB4 w fa cd L m2 _ u v f' e' tf te huv hT hd1 hd2 hu hv hl ⟨hfr1, hen1, trivial⟩) ?_
  rintro m4 n4 ⟨rfl, rfl⟩
  refine StgB.post (turnB5 w fa cd L m4 _ u v f' e' tf te ((Str.ofString "turn", .str (tx t) tt) :: (Str.ofString "y", .int (trac r) ty) :: nmX x z (trac r) kept t1 t2 t3 t4 I ps) huv hT hd1 hd2 hu hv hl ⟨hfr1, hen1, htu1, hy1, hx1, hz1, hdu1, hke1, hta1, hps1⟩ ?k2 ?k3) ?_
  case k2 =>
    have := hp (Str.ofString "start") (by simp [keysT])
    refine all_cons (all_cons (all_cons (all_cons (all_cons (all_cons (all_cons this ?_) ?_) ?_) ?_) ?_) ?_) ?_ <;> decide +kernel
  case k3 =>
    have := hp (Str.ofString "rest") (by simp [keysT])
    refine all_cons (all_cons (all_cons (all_cons (all_cons (all_cons (all_cons this ?_) ?_) ?_) ?_) ?_) ?_) ?_ <;> decide +kernel
  rintro m5 n5 ⟨hM5, rfl⟩
  exact ⟨_, tl_six, ty, io1, tb2, hM5, hio1, hb2, rfl⟩
end
section
inductive TurnP (L I T0 Dt : Addr) (o2 o3 : Obj) (its K : Led) (A : List (List Int)) (r : List Int) (x1 x2 x3 kept : Int) (ps : List (Str × Value)) (m' : Str → Option Value) (news' : Led) : Prop
  | mk (n1 n2 n3 n4 : Tok) (io' : Obj) (tb' : Led) (zh1 : Has m' (nmX x1 x2 x3 kept n1 n2 n3 n4 I ps)) (zh2 : TapeAt io' Dt (tapeOf (A ++ [r])).length) (zh3 : Beside L I T0 o2 o3 its tb' K) (zh4 : news' = TL1 L I io' o2 o3 its tb' K)
section
variable (w : World) (fa : Addr) (cd : Value) (L I T0 Dt : Addr) (m : Str → Option Value) (its tb K : Led) (io o2 o3 : Obj) (u v : Nat) (s2 s3 : Tok) (e2 : o2.data = .cell (some (.str (tx [u]) s2))) (e3 : o3.data = .cell (some (.str (tx [v]) s3))) (f' e' : List Nat) (tf te tt t1 t2 t3 t4 : Tok) (x z kept : Int) (ps : List (Str × Value)) (hp : KeysOff ps) (zs : List Value) (A B : List (List Int)) (r : List Int)
   (hb : Beside L I T0 o2 o3 its tb K) (hio : TapeAt io Dt (tapeOf A).length) (hm : (Dt, LCg.lst zs) ∈ K) (hz : IntsAre zs (tapeOf (A ++ r :: B))) (hr : 0 ≤ trac r ∧ trac r < 2 ^ (6 * (69 + 1)))
   (hs : Small x z (trac r)) (hk : x * x + z * z - kept = trac r * (x * z - trac r))
   (huv : u ≠ v) (hT : u :: f' ++ (e' ++ [v]) = e' ++ u :: v :: f') (hd1 : 46 ∉ f') (hd2 : 46 ∉ e') (hu : u ≠ 46) (hv : v ≠ 46) (hl : f'.length + e'.length ≤ 14)
include e2 e3 hp hb hio hm hz hr hs hk huv hT hd1 hd2 hu hv hl
theorem turn_a (hs2 : Small x (trac r) z) (hk2 : x * x + trac r * trac r - kept = z * (x * trac r - z)) (hM : Has m (nmT f' e' [u] u v tf te tt ++ nmX x z (trac r) kept t1 t2 t3 t4 I ps)) :
  StgB w fa cd L (blkF 0 6) m (TL1 L I io o2 o3 its tb K) (TurnP L I T0 Dt o2 o3 its K A r x (trac r) (x * trac r - z) kept ps) := by
  rw [show (6 : Nat) = 5 + 1 from rfl, blkF_add]
  refine StgB.seq (turn_head w fa cd L I T0 Dt m its tb K io o2 o3 u v f' e' [u] tf te tt t1 t2 t3 t4 x z kept ps hp zs A B r hb hio hm hz hr hs hk huv hT hd1 hd2 hu hv hl hM) ?_
  rintro m1 n1 ⟨ty, io1, tb1, ⟨hfr, hen, htu, hy, hx, hz', hdu, hke, hta, hpsM⟩, hio1, hb1, rfl⟩
  have ho := hb1.offs6 io1
  refine StgB.post (turnB6a w fa cd L m1 tb1 (its ++ ((I, io1) :: K)) o2 o3 u s2 tt e2 x z (trac r) kept t1 t2 ty t4 ((Str.ofString "tape", .ref I) :: ps) hs2 hk2 ho.1 ho.2 hb1.tabs ⟨htu, hx, hz', hy, hke, hta, hpsM⟩ (all_cons (hp _ (by simp [keysT])) (by decide +kernel)) (all_cons (hp _ (by simp [keysT])) (by decide +kernel))) ?_
  rintro m2 n2 ⟨td, tb2, hM2, rfl, ht2, hn2⟩
  exact ⟨_, tl_end, _, _, _, _, io1, tb2, hM2, hio1, hb1.next ht2 (X := tb1 ++ KC L o2 o3 (its ++ ((I, io1) :: K))) (fun p hp => List.mem_append_right _ (.tail _ (.tail _ (List.mem_append_left _ hp)))) hn2, rfl⟩
theorem turn_b (hs2 : Small (trac r) z x) (hk2 : trac r * trac r + z * z - kept = x * (trac r * z - x)) (hM : Has m (nmT f' e' [v] u v tf te tt ++ nmX x z (trac r) kept t1 t2 t3 t4 I ps)) :
  StgB w fa cd L (blkF 0 6) m (TL1 L I io o2 o3 its tb K) (TurnP L I T0 Dt o2 o3 its K A r (trac r) z (trac r * z - x) kept ps) := by
  rw [show (6 : Nat) = 5 + 1 from rfl, blkF_add]
  refine StgB.seq (turn_head w fa cd L I T0 Dt m its tb K io o2 o3 u v f' e' [v] tf te tt t1 t2 t3 t4 x z kept ps hp zs A B r hb hio hm hz hr hs hk huv hT hd1 hd2 hu hv hl hM) ?_
  rintro m1 n1 ⟨ty, io1, tb1, ⟨hfr, hen, htu, hy, hx, hz', hdu, hke, hta, hpsM⟩, hio1, hb1, rfl⟩
  have ho := hb1.offs6 io1
  refine StgB.post (turnB6b w fa cd L m1 tb1 (its ++ ((I, io1) :: K)) o2 o3 u v huv s2 s3 tt e2 e3 x z (trac r) kept t1 t2 ty t4 ((Str.ofString "tape", .ref I) :: ps) hs2 hk2 ho.1 ho.2 hb1.tabs ⟨htu, hx, hz', hy, hke, hta, hpsM⟩ (all_cons (hp _ (by simp [keysT])) (by decide +kernel)) (all_cons (hp _ (by simp [keysT])) (by decide +kernel))) ?_
  rintro m2 n2 ⟨td, tb2, hM2, rfl, ht2, hn2⟩
  exact ⟨_, tl_end, _, _, _, _, io1, tb2, hM2, hio1, hb1.next ht2 (X := tb1 ++ KC L o2 o3 (its ++ ((I, io1) :: K))) (fun p hp => List.mem_append_right _ (.tail _ (.tail _ (List.mem_append_left _ hp)))) hn2, rfl⟩
theorem turn_c (hM : Has m (nmT f' e' [] u v tf te tt ++ nmX x z (trac r) kept t1 t2 t3 t4 I ps)) :
  StgB w fa cd L (blkF 0 6) m (TL1 L I io o2 o3 its tb K) (TurnP L I T0 Dt o2 o3 its K A r x z (trac r) kept ps) := by
  rw [show (6 : Nat) = 5 + 1 from rfl, blkF_add]
  refine StgB.seq (turn_head w fa cd L I T0 Dt m its tb K io o2 o3 u v f' e' [] tf te tt t1 t2 t3 t4 x z kept ps hp zs A B r hb hio hm hz hr hs hk huv hT hd1 hd2 hu hv hl hM) ?_
  rintro m1 n1 ⟨ty, io1, tb1, ⟨hfr, hen, htu, hy, hx, hz', hdu, hke, hta, hpsM⟩, hio1, hb1, rfl⟩
  refine StgB.post (turnB6c w fa cd L m1 (tb1 ++ (its ++ ((I, io1) :: K))) o2 o3 u v s2 s3 tt e2 e3 ⟨htu, trivial⟩) ?_
  rintro m2 n2 ⟨rfl, rfl⟩
  exact ⟨_, tl_end, _, _, _, _, io1, tb1, ⟨hx, hz', hdu, hke, hta, hpsM⟩, hio1, hb1, rfl⟩
end
end
section
noncomputable abbrev Q4 := Int × Int × Int × Int
noncomputable def mulQ (p q : Q4) : Q4 := (p.1 * q.1 + p.2.1 * q.2.2.1, p.1 * q.2.1 + p.2.1 * q.2.2.2, p.2.2.1 * q.1 + p.2.2.2 * q.2.2.1, p.2.2.1 * q.2.1 + p.2.2.2 * q.2.2.2)
noncomputable def detQ (p : Q4) : Int := p.1 * p.2.2.2 - p.2.1 * p.2.2.1
theorem mulQ_assoc (p q r : Q4) : mulQ (mulQ p q) r = mulQ p (mulQ q r) := by
  obtain ⟨a, b, c, d⟩ := p
  obtain ⟨e, f, g, h⟩ := q
  obtain ⟨i, j, k, l⟩ := r
  simp only [mulQ, Prod.mk.injEq]
  refine ⟨?_, ?_, ?_, ?_⟩ <;> grind
theorem detQ_mul (p q : Q4) : detQ (mulQ p q) = detQ p * detQ q := by
  obtain ⟨a, b, c, d⟩ := p
  obtain ⟨e, f, g, h⟩ := q
  simp only [mulQ, detQ]
  grind
theorem sqStep_mul (M : Q4) (x : Int) : sqStep M x = mulQ M (sqStep (1, 0, 0, 1) x) := by
  obtain ⟨a, b, c, d⟩ := M
  simp only [sqStep, mulQ, Prod.mk.injEq]
  refine ⟨?_, ?_, ?_, ?_⟩ <;> grind
theorem one_mulQ (M : Q4) : mulQ M (1, 0, 0, 1) = M := by
  obtain ⟨a, b, c, d⟩ := M
  simp [mulQ]
theorem sq_fold : ∀ (q : List Int) (M : Q4), q.foldl sqStep M = mulQ M (sq q)
  | [], M => (one_mulQ M).symm
  | x :: r, M => by
    have h1 := sq_fold r (sqStep M x)
    have h2 := sq_fold r (sqStep (1, 0, 0, 1) x)
    rw [List.foldl_cons, h1]
    have h3 : sq (x :: r) = mulQ (sqStep (1, 0, 0, 1) x) (sq r) := h2
    rw [h3, ← mulQ_assoc, ← sqStep_mul]
theorem sq_app (p q : List Int) : sq (p ++ q) = mulQ (sq p) (sq q) := by
  unfold sq
  rw [List.foldl_append]
  exact sq_fold q _
section
variable (u : Nat) (c d e f : Int)
theorem rowOf_app (a b : List Nat) : rowOf u c d e f (a ++ b) = rowOf u c d e f a ++ rowOf u c d e f b := by
  unfold rowOf; rw [List.flatMap_append]
noncomputable abbrev mx (w : List Nat) : Q4 := sq (rowOf u c d e f w)
noncomputable abbrev X (w : List Nat) : Int := trac (rowOf u c d e f w)
theorem mx_app (a b : List Nat) : mx u c d e f (a ++ b) = mulQ (mx u c d e f a) (mx u c d e f b) := by
  show sq _ = _
  rw [rowOf_app, sq_app]
theorem mx_one (z : Nat) : mx u c d e f [z] = (if z = u then (c * d + 1, c, d, 1) else (e * f + 1, e, f, 1)) := by
  show sq (rowOf u c d e f [z]) = _
  unfold rowOf
  rw [List.flatMap_cons, List.flatMap_nil, List.append_nil]
  split <;> simp [sq, sqStep]
theorem mx_det : ∀ w : List Nat, detQ (mx u c d e f w) = 1
  | [] => by simp [mx, rowOf, sq, detQ]
  | z :: r => by
    rw [show z :: r = [z] ++ r from rfl, mx_app, detQ_mul, mx_det r, mx_one]
    split <;> simp only [detQ] <;> grind
variable {c d e f}
theorem mx_pos (hc : 1 ≤ c) (hd : 1 ≤ d) (he : 1 ≤ e) (hf : 1 ≤ f) : ∀ w : List Nat, w ≠ [] → 2 ≤ (mx u c d e f w).1 ∧ 1 ≤ (mx u c d e f w).2.1 ∧ 1 ≤ (mx u c d e f w).2.2.1 ∧ 1 ≤ (mx u c d e f w).2.2.2
  | [], h => absurd rfl h
  | [z], _ => by
    rw [mx_one]
    have h1 : 1 ≤ c * d := Int.mul_pos (by omega) (by omega)
    have h2 : 1 ≤ e * f := Int.mul_pos (by omega) (by omega)
    split
    · exact ⟨by show 2 ≤ c * d + 1; omega, hc, hd, Int.le_refl _⟩
    · exact ⟨by show 2 ≤ e * f + 1; omega, he, hf, Int.le_refl _⟩
  | z :: y :: r, _ => by
    have ih := mx_pos hc hd he hf (y :: r) (by simp)
    rw [show z :: y :: r = [z] ++ y :: r from rfl, mx_app, mx_one]
    generalize mx u c d e f (y :: r) = M at *
    obtain ⟨p, q, s, t⟩ := M
    simp only at ih
    obtain ⟨i1, i2, i3, i4⟩ := ih
    have key : ∀ a b g h : Int, 1 ≤ a → 1 ≤ b → 1 ≤ g → 1 ≤ h → 2 ≤ a * p + b * s ∧ 1 ≤ a * q + b * t ∧ 1 ≤ g * p + h * s ∧ 1 ≤ g * q + h * t := by
      intro a b g h ha hb hg hh
      have a1 : 1 ≤ a * p := Int.mul_pos (by omega) (by omega)
      have a2 : 1 ≤ b * s := Int.mul_pos (by omega) (by omega)
      have a3 : 1 ≤ a * q := Int.mul_pos (by omega) (by omega)
      have a4 : 1 ≤ b * t := Int.mul_pos (by omega) (by omega)
      have a5 : 1 ≤ g * p := Int.mul_pos (by omega) (by omega)
      have a6 : 1 ≤ h * s := Int.mul_pos (by omega) (by omega)
      have a7 : 1 ≤ g * q := Int.mul_pos (by omega) (by omega)
      have a8 : 1 ≤ h * t := Int.mul_pos (by omega) (by omega)
      omega
    have h1 : 1 ≤ c * d := Int.mul_pos (by omega) (by omega)
    have h2 : 1 ≤ e * f := Int.mul_pos (by omega) (by omega)
    split
    · exact key _ _ _ _ (by omega) hc hd (Int.le_refl _)
    · exact key _ _ _ _ (by omega) he hf (Int.le_refl _)
theorem X_ge (hc : 1 ≤ c) (hd : 1 ≤ d) (he : 1 ≤ e) (hf : 1 ≤ f) {w : List Nat} (hw : w ≠ []) : 3 ≤ X u c d e f w := by
  have := mx_pos u hc hd he hf w hw
  show 3 ≤ (mx u c d e f w).1 + (mx u c d e f w).2.2.2
  omega
variable (c d e f)
theorem X_left (a b : List Nat) : X u c d e f (a ++ (a ++ b)) = X u c d e f a * X u c d e f (a ++ b) - X u c d e f b := by
  show (mx u c d e f (a ++ (a ++ b))).1 + (mx u c d e f (a ++ (a ++ b))).2.2.2 = ((mx u c d e f a).1 + (mx u c d e f a).2.2.2) * ((mx u c d e f (a ++ b)).1 + (mx u c d e f (a ++ b)).2.2.2) - ((mx u c d e f b).1 + (mx u c d e f b).2.2.2)
  have h := mx_det u c d e f a
  rw [mx_app, mx_app]
  generalize mx u c d e f a = A at *
  generalize mx u c d e f b = B at *
  obtain ⟨a, b, c, d⟩ := A
  obtain ⟨p, q, r, s⟩ := B
  simp only [mulQ, detQ] at *
  grind
theorem X_right (a b : List Nat) : X u c d e f (a ++ b ++ b) = X u c d e f (a ++ b) * X u c d e f b - X u c d e f a := by
  show (mx u c d e f (a ++ b ++ b)).1 + (mx u c d e f (a ++ b ++ b)).2.2.2 = ((mx u c d e f (a ++ b)).1 + (mx u c d e f (a ++ b)).2.2.2) * ((mx u c d e f b).1 + (mx u c d e f b).2.2.2) - ((mx u c d e f a).1 + (mx u c d e f a).2.2.2)
  have h := mx_det u c d e f b
  rw [mx_app, mx_app]
  generalize mx u c d e f a = A at *
  generalize mx u c d e f b = B at *
  obtain ⟨a, b, c, d⟩ := A
  obtain ⟨p, q, r, s⟩ := B
  simp only [mulQ, detQ] at *
  grind
theorem X_two (v : Nat) (h : u ≠ v) : X u c d e f ([u] ++ [v]) = (c * d + 1) * (e * f + 1) + c * f + d * e + 1 := by
  show (mx u c d e f ([u] ++ [v])).1 + (mx u c d e f ([u] ++ [v])).2.2.2 = _
  rw [mx_app, mx_one, mx_one, if_pos rfl, if_neg (Ne.symm h)]
  simp only [mulQ]
  grind
theorem kept_is : 4 + (c * f - d * e) ^ 2 - c * d * e * f * (c - e) * (d - f) = (c * d + 2) * (c * d + 2) + ((c * d + 1) * (e * f + 1) + c * f + d * e + 1) * ((c * d + 1) * (e * f + 1) + c * f + d * e + 1) + (e * f + 2) * (e * f + 2) - (c * d + 2) * ((c * d + 1) * (e * f + 1) + c * f + d * e + 1) * (e * f + 2) := by
  grind
end
end
section
section
variable (u : Nat) {c d e f : Int} (hc : 1 ≤ c ∧ c ≤ 4096) (hd : 1 ≤ d ∧ d ≤ 4096) (he : 1 ≤ e ∧ e ≤ 4096) (hf : 1 ≤ f ∧ f ≤ 4096)
include hc hd he hf
theorem rowOf_in : ∀ w : List Nat, ∀ q ∈ rowOf u c d e f w, 1 ≤ q ∧ q ≤ 4096
  | [], q, h => nomatch h
  | z :: r, q, h => by
    rw [show z :: r = [z] ++ r from rfl, rowOf_app] at h
    rcases List.mem_append.mp h with h | h
    · simp only [rowOf, List.flatMap_cons, List.flatMap_nil, List.append_nil] at h
      split at h <;> (simp at h; rcases h with h | h <;> (rw [h]; assumption))
    · exact rowOf_in r q h
theorem X_lt (w : List Nat) : 0 ≤ X u c d e f w ∧ X u c d e f w ≤ 2 ^ (26 * w.length + 1) := by
  have h := sq_bound (rowOf u c d e f w) (1, 0, 0, 1) 0 (fun q hq => by have := rowOf_in u hc hd he hf w q hq; omega) (by simp) (by simp) (by simp) (by simp)
  rw [rowOf_len] at h
  rw [show 0 + 13 * (2 * w.length) = 26 * w.length by omega] at h
  show 0 ≤ (sq (rowOf u c d e f w)).1 + (sq (rowOf u c d e f w)).2.2.2 ∧ (sq (rowOf u c d e f w)).1 + (sq (rowOf u c d e f w)).2.2.2 ≤ _
  unfold sq
  rw [Int.pow_succ]
  omega
theorem X_lt2 {w : List Nat} {n : Nat} (h : w.length ≤ n) : X u c d e f w < 2 ^ (26 * n + 2) := by
  have h1 := (X_lt u hc hd he hf w).2
  have h2 : (2 : Int) ^ (26 * w.length + 1) ≤ 2 ^ (26 * n + 1) := by exact_mod_cast Nat.pow_le_pow_right (n := 2) (by decide) (show 26 * w.length + 1 ≤ 26 * n + 1 by omega)
  have h3 : (0 : Int) < 2 ^ (26 * n + 1) := Int.pow_pos (by decide)
  rw [show 26 * n + 2 = 26 * n + 1 + 1 by omega, Int.pow_succ]
  omega
theorem small_of {a b g : List Nat} (ha : a ≠ []) (hb : b ≠ []) (hg : g ≠ []) (h1 : a.length + b.length ≤ 8) (h2 : g.length ≤ 8) : Small (X u c d e f a) (X u c d e f b) (X u c d e f g) := by
  have e210 : (2 : Int) ^ (26 * 8 + 2) < 2 ^ 212 := by decide +kernel
  have ge := fun (w : List Nat) (hw : w ≠ []) => X_ge u hc.1 hd.1 he.1 hf.1 hw
  refine ⟨ge a ha, ge b hb, ge g hg, ?_, ?_, ?_, ?_⟩
  · exact Int.lt_trans (X_lt2 u hc hd he hf (by omega)) e210
  · exact Int.lt_trans (X_lt2 u hc hd he hf (by omega)) e210
  · exact Int.lt_trans (X_lt2 u hc hd he hf h2) e210
  · have a1 := X_lt u hc hd he hf a
    have b1 := X_lt u hc hd he hf b
    have h3 : X u c d e f a * X u c d e f b ≤ 2 ^ (26 * a.length + 1) * 2 ^ (26 * b.length + 1) := Int.mul_le_mul a1.2 b1.2 b1.1 (Int.le_of_lt (Int.pow_pos (by decide)))
    rw [← Int.pow_add] at h3
    have h4 : (2 : Int) ^ (26 * a.length + 1 + (26 * b.length + 1)) ≤ 2 ^ (26 * 8 + 2) := by exact_mod_cast Nat.pow_le_pow_right (n := 2) (by decide) (by omega)
    exact Int.lt_of_le_of_lt (Int.le_trans h3 h4) e210
end
noncomputable def lenS : Nat → Nat
  | 0 => 8
  | 1 => 5
  | 2 => 3
  | _ => 2
noncomputable def lenM : Nat → Nat
  | 0 => 5
  | 1 => 3
  | 2 => 2
  | _ => 1
structure WInv (u v : Nat) (c d e f kept : Int) (f' e' : List Nat) (k : Nat) : Prop where
  cat : u :: f' ++ (e' ++ [v]) = e' ++ u :: v :: f'
  inF : ∀ x ∈ f', x = u ∨ x = v
  inE : ∀ x ∈ e', x = u ∨ x = v
  sum : (u :: f').length + (e' ++ [v]).length ≤ lenS k
  mf : (u :: f').length ≤ lenM k
  me : (e' ++ [v]).length ≤ lenM k
  k3 : k ≤ 3
  kept : kept = X u c d e f (u :: f') * X u c d e f (u :: f') + X u c d e f (u :: f' ++ (e' ++ [v])) * X u c d e f (u :: f' ++ (e' ++ [v])) + X u c d e f (e' ++ [v]) * X u c d e f (e' ++ [v]) - X u c d e f (u :: f') * X u c d e f (u :: f' ++ (e' ++ [v])) * X u c d e f (e' ++ [v])
theorem lens_step {k : Nat} (h : k + 1 ≤ 3) : lenS (k + 1) + lenM (k + 1) ≤ lenS k ∧ lenS (k + 1) ≤ lenM k ∧ lenM (k + 1) ≤ lenM k := by
  have : k = 0 ∨ k = 1 ∨ k = 2 := by omega
  rcases this with rfl | rfl | rfl <;> decide
theorem winv_start {u v : Nat} {c d e f : Int} (h : u ≠ v) : WInv u v c d e f (4 + (c * f - d * e) ^ 2 - c * d * e * f * (c - e) * (d - f)) [] [] 3 := by
  refine ⟨rfl, (fun x hx => nomatch hx), (fun x hx => nomatch hx), Nat.le_refl 2, Nat.le_refl 1, Nat.le_refl 1, Nat.le_refl 3, ?_⟩
  have h1 := X_two u c d e f v h
  have h2 : X u c d e f [u] = c * d + 2 := by show trac (rowOf u c d e f [u]) = _; rw [row_u, trac_two]
  have h3 : X u c d e f [v] = e * f + 2 := by show trac (rowOf u c d e f [v]) = _; rw [row_v u v c d e f h, trac_two]
  show _ = X u c d e f [u] * X u c d e f [u] + X u c d e f ([u] ++ [v]) * X u c d e f ([u] ++ [v]) + X u c d e f [v] * X u c d e f [v] - X u c d e f [u] * X u c d e f ([u] ++ [v]) * X u c d e f [v]
  rw [h1, h2, h3]
  exact kept_is c d e f
theorem WInv.left {u v : Nat} {c d e f kept : Int} {f' e' : List Nat} {k : Nat} (h : WInv u v c d e f kept f' e' (k + 1)) : WInv u v c d e f kept f' (u :: f' ++ e') k := by
  have hl := lens_step h.k3
  have e1 : u :: f' ++ e' ++ [v] = u :: f' ++ (e' ++ [v]) := List.append_assoc _ _ _
  refine ⟨?_, h.inF, ?_, ?_, ?_, ?_, by have := h.k3; omega, ?_⟩
  · rw [e1, h.cat]
    simp
  · intro x hx
    rcases List.mem_append.mp hx with hx | hx
    · rcases List.mem_cons.mp hx with rfl | hx
      · exact .inl rfl
      · exact h.inF x hx
    · exact h.inE x hx
  · have h1 := h.sum
    have h2 := h.mf
    rw [e1, List.length_append]
    omega
  · have h2 := h.mf
    omega
  · have h1 := h.sum
    rw [e1, List.length_append]
    omega
  · rw [e1, X_left]
    have h1 := h.kept
    generalize X u c d e f (u :: f') = x at *
    generalize X u c d e f (e' ++ [v]) = z at *
    generalize X u c d e f (u :: f' ++ (e' ++ [v])) = y at *
    grind
theorem WInv.right {u v : Nat} {c d e f kept : Int} {f' e' : List Nat} {k : Nat} (h : WInv u v c d e f kept f' e' (k + 1)) : WInv u v c d e f kept (f' ++ (e' ++ [v])) e' k := by
  have hl := lens_step h.k3
  have e1 : u :: (f' ++ (e' ++ [v])) = u :: f' ++ (e' ++ [v]) := rfl
  refine ⟨?_, ?_, h.inE, ?_, ?_, ?_, by have := h.k3; omega, ?_⟩
  · rw [e1, h.cat]
    simp
  · intro x hx
    rcases List.mem_append.mp hx with hx | hx
    · exact h.inF x hx
    · rcases List.mem_append.mp hx with hx | hx
      · exact h.inE x hx
      · exact .inr (List.mem_singleton.mp hx)
  · have h1 := h.sum
    have h2 := h.me
    rw [e1, List.length_append]
    omega
  · have h1 := h.sum
    rw [e1, List.length_append]
    omega
  · have h2 := h.me
    omega
  · rw [e1, X_right]
    have h1 := h.kept
    generalize X u c d e f (u :: f') = x at *
    generalize X u c d e f (e' ++ [v]) = z at *
    generalize X u c d e f (u :: f' ++ (e' ++ [v])) = y at *
    grind
end
section
noncomputable def forT : Stmt → Expr
  | .For t _ _ _ _ => t
  | _ => .Constant .none 0 ⟨0, 0, 0, 0⟩
theorem turn_assign (w : World) (fa : Addr) (cd : Value) (L T Tp : Addr) (base : Heap) (m : Str → Option Value) (s : Shared) (news : Led) (f e t : List Nat) (tf te tt : Tok) (Q : Unit → Shared → Prop) (E : Value → Shared → Prop)
  (F : Fr base L s.heap m) (N : News base L s.heap news) (hT : IsTup s.heap T #[.ref Tp, .str (tx t) tt]) (hp : (Tp, tupO [.str (tx f) tf, .str (tx e) te]) ∈ news)
  (B' : Below callerA base [] base) (X : (hd02.heap_1 w.params).In base) (mean : ExcName → Option Value) (mg mb : Str → Option Value) (TT : Top topProg topL mean mg mb base)
  (h : ∀ h' tk', Fr base L h' (fun y => if y = Str.ofString "turn" then some (.str (tx t) tt) else if y = Str.ofString "end" then some (.str (tx e) te) else if y = Str.ofString "front" then some (.str (tx f) tf) else m y) → News base L h' news → Q () { s with heap := h', toks := tk' }) :
  wpAny (model Challenge.rw_ty0035_02.row.prog w) (callerA.deeper (envL L fa cd)) (assign (forT (stmtAt (fBody (fn 23)) 20)) (envL L fa cd) (.ref T)) Q E s := by
  with_unfolding_all (refine' unpackN_ F N hT ?hh ?k1 ?k2 ?_; (case hh => exact rfl); (case k1 => exact rfl); (case k2 => exact rfl))
  intro h1 F1 N1
  (try dsimp only)
  (repeat' (first | (with_reducible refine if_ff ?_) | (with_reducible refine if_tt ?_) | (k_unfold; (try dsimp only)) | (k_end; wrow_close) | (cell_step; walk1) | (cell_step; dsimp only; walk1) | (leave1; walk_say "STEP leave1"; try dsimp only) | fail "no step"))
  rename Fr _ _ _ _ => F9
  rename News _ _ _ _ => N9
  exact h _ _ F9 N9
end
section
noncomputable def PV (xs : List Value) (K : Led) : List (List Nat × List Nat) → Prop
  | [] => xs = []
  | p :: ps => ∃ T t t' r, xs = .ref T :: r ∧ (T, tupO [.str (tx p.1) t, .str (tx p.2) t']) ∈ K ∧ PV r K ps
theorem PV.mono {K K' : Led} (h : ∀ p ∈ K, p ∈ K') : ∀ {ps : List (List Nat × List Nat)} {xs : List Value}, PV xs K ps → PV xs K' ps
  | [], _, k => k
  | p :: ps, _, ⟨T, t, t', r, e, k1, k2⟩ => ⟨T, t, t', r, e, h _ k1, PV.mono h k2⟩
theorem PV.snoc {K : Led} {T : Addr} {f e : List Nat} {t t' : Tok} (hT : (T, tupO [.str (tx f) t, .str (tx e) t']) ∈ K) : ∀ {ps : List (List Nat × List Nat)} {xs : List Value}, PV xs K ps → PV (xs ++ [.ref T]) K (ps ++ [(f, e)])
  | [], _, k => by
    have k' : _ = [] := k
    subst k'
    exact ⟨T, t, t', [], rfl, hT, rfl⟩
  | p :: ps, _, ⟨T0, t0, t0', r, e, k1, k2⟩ => by
    subst e
    exact ⟨T0, t0, t0', _, rfl, k1, PV.snoc hT k2⟩
theorem PairsAre.pv {rs : List Value} {TL : Led} {ps : List (List Nat × List Nat)} (h : PairsAre rs TL ps) : PV rs TL ps := by
  induction h with
  | nil => rfl
  | snoc h T f e t t' ih => exact PV.snoc (.head _) (ih.mono fun p hp => .tail _ hp)
noncomputable abbrev its5 (I0 : Addr) (a b c d e : Obj) : Led := [(I0 + 4, a), (I0 + 2, b), (I0 + 3, c), (I0, d), (I0 + 1, e)]
theorem its5_top (I0 : Nat) (a b c d e : Obj) : I0 + 5 = topA (its5 I0 a b c d e) := by
  simp only [topA_cons, topA_nil]
  show I0 + 5 = Max.max (I0 + 4 + 1) (Max.max (I0 + 2 + 1) (Max.max (I0 + 3 + 1) (Max.max (I0 + 1) (Max.max (I0 + 1 + 1) 0))))
  omega
theorem its5_ge {I0 : Nat} {a b c d e : Obj} : ∀ p ∈ its5 I0 a b c d e, I0 ≤ p.1 := by
  intro p hp
  simp only [List.mem_cons, List.not_mem_nil, or_false] at hp
  rcases hp with rfl | rfl | rfl | rfl | rfl
  · exact Nat.le_add_right I0 4
  · exact Nat.le_add_right I0 2
  · exact Nat.le_add_right I0 3
  · exact Nat.le_refl I0
  · exact Nat.le_add_right I0 1
structure Fixed (L I I0 : Addr) (o2 o3 : Obj) (K : Led) : Prop where
  i30 : @LT.lt Nat _ 37 I
  l30 : @LT.lt Nat _ 37 L
  iI : @LT.lt Nat _ I I0
  lI : @LT.lt Nat _ (L + 9) I0
  kt : ∀ p ∈ K, @LT.lt Nat _ p.1 I0
  k30 : OwnOff K [30]
  k37 : OwnOff K [37]
  kI : ∀ p ∈ KC L o2 o3 K, p.1 ≠ I
section
variable {L I I0 : Addr} {o2 o3 : Obj} {K : Led}
theorem Fixed.beside (h : Fixed L I I0 o2 o3 K) {tb : Led} (ht : Tabs tb) (hbig : ∀ p ∈ tb, p.1 ≤ 37 ∨ I0 + 5 ≤ p.1) (a b c d e : Obj) : Beside L I (I0 + 5) o2 o3 (its5 I0 a b c d e) tb K :=
  ⟨ht, h.i30, h.l30, fun p hp => Nat.lt_of_lt_of_le (Nat.lt_trans h.i30 h.iI) (its5_ge p hp), h.k30, h.k37, fun p hp => Nat.ne_of_gt (Nat.lt_of_lt_of_le h.iI (its5_ge p hp)), h.kI, hbig, Nat.lt_of_lt_of_le h.iI (Nat.le_add_right I0 5), its5_top I0 a b c d e⟩
theorem Fixed.off (h : Fixed L I I0 o2 o3 K) {tb : Led} (hbig : ∀ p ∈ tb, p.1 ≤ 37 ∨ I0 + 5 ≤ p.1) (io a b c d e : Obj) : ∀ p ∈ (I, io) :: KC L o2 o3 (tb ++ K), ∀ q ∈ its5 I0 a b c d e, p.1 ≠ q.1 := by
  intro p hp q hq
  have h1 := its5_ge q hq
  have h2 : @LT.lt Nat _ q.1 (I0 + 5) := by rw [its5_top I0 a b c d e]; exact top_mem hq
  have hi := h.iI
  have hl := h.lI
  have h37 := h.i30
  rcases List.mem_cons.mp hp with rfl | hp
  · exact Nat.ne_of_lt (Nat.lt_of_lt_of_le hi h1)
  rcases List.mem_cons.mp hp with rfl | hp
  · exact Nat.ne_of_lt (Nat.lt_of_lt_of_le (Nat.lt_of_le_of_lt (Nat.add_le_add_left (by decide : 2 ≤ 9) L) hl) h1)
  rcases List.mem_cons.mp hp with rfl | hp
  · exact Nat.ne_of_lt (Nat.lt_of_lt_of_le (Nat.lt_of_le_of_lt (Nat.add_le_add_left (by decide : 3 ≤ 9) L) hl) h1)
  rcases List.mem_append.mp hp with hp | hp
  · rcases hbig p hp with h3 | h3
    · exact Nat.ne_of_lt (Nat.lt_of_lt_of_le (Nat.lt_of_le_of_lt h3 (Nat.lt_trans h37 hi)) h1)
    · exact Nat.ne_of_gt (Nat.lt_of_lt_of_le h2 h3)
  · exact Nat.ne_of_lt (Nat.lt_of_lt_of_le (h.kt p hp) h1)
end
noncomputable abbrev stF : Stmt := stmtAt (fBody (fn 23)) 20
theorem body_is : forB stF = blkF 0 6 ++ [] := by with_unfolding_all rfl
noncomputable abbrev rowP (u : Nat) (c d e f : Int) (p : List Nat × List Nat) : List Int := rowOf u c d e f (p.1 ++ p.2)
theorem nm_put {m : Str → Option Value} {x z due kept : Int} {n1 n2 n3 n4 : Tok} {I : Addr} {ps : List (Str × Value)} (h : Has m (nmX x z due kept n1 n2 n3 n4 I ps)) (hp : KeysOff ps) (f' e' t : List Nat) (u v : Nat) (tf te tt : Tok) :
    Has (fun y => if y = Str.ofString "turn" then some (.str (tx t) tt) else if y = Str.ofString "end" then some (.str (tx (e' ++ [v])) te) else if y = Str.ofString "front" then some (.str (tx (u :: f')) tf) else m y) (nmT f' e' t u v tf te tt ++ nmX x z due kept n1 n2 n3 n4 I ps) := by
  refine ⟨rfl, rfl, rfl, has_put (has_put (has_put h ?_) ?_) ?_⟩
  · have := hp (Str.ofString "front") (by simp [keysT])
    refine all_cons (all_cons (all_cons (all_cons (all_cons this ?_) ?_) ?_) ?_) ?_ <;> decide +kernel
  · have := hp (Str.ofString "end") (by simp [keysT])
    refine all_cons (all_cons (all_cons (all_cons (all_cons this ?_) ?_) ?_) ?_) ?_ <;> decide +kernel
  · have := hp (Str.ofString "turn") (by simp [keysT])
    refine all_cons (all_cons (all_cons (all_cons (all_cons this ?_) ?_) ?_) ?_) ?_ <;> decide +kernel
theorem kept_y {x y z kept : Int} (h : kept = x * x + y * y + z * z - x * y * z) : x * x + z * z - kept = y * (x * z - y) ∧ x * x + y * y - kept = z * (x * y - z) ∧ y * y + z * z - kept = x * (y * z - x) := by
  subst h
  refine ⟨?_, ?_, ?_⟩ <;> grind
theorem WInv.dots {u v : Nat} {c d e f kept : Int} {f' e' : List Nat} {k : Nat} (h : WInv u v c d e f kept f' e' k) (hu : u ≠ 46) (hv : v ≠ 46) : 46 ∉ f' ∧ 46 ∉ e' := by
  constructor
  · intro hx
    rcases h.inF _ hx with e | e
    · exact hu e.symm
    · exact hv e.symm
  · intro hx
    rcases h.inE _ hx with e | e
    · exact hu e.symm
    · exact hv e.symm
theorem lenS_le (k : Nat) : lenS k ≤ 8 := by
  match k with
  | 0 => decide
  | 1 => decide
  | 2 => decide
  | k + 3 => exact (by decide : 2 ≤ 8)
section
variable (w : World) (fa : Addr) (cd : Value) (L I I0 Dt : Addr) (K : Led) (o2 o3 : Obj) (u v : Nat) (s2 s3 : Tok) (e2 : o2.data = .cell (some (.str (tx [u]) s2))) (e3 : o3.data = .cell (some (.str (tx [v]) s3))) (c d e f kept : Int) (hc : 1 ≤ c ∧ c ≤ 4096) (hd : 1 ≤ d ∧ d ≤ 4096) (he : 1 ≤ e ∧ e ≤ 4096) (hf : 1 ≤ f ∧ f ≤ 4096)
   (ps : List (Str × Value)) (hp : KeysOff ps) (zs : List Value) (all : List (List Int)) (hz : IntsAre zs (tapeOf all)) (hm : (Dt, LCg.lst zs) ∈ K) (hX : Fixed L I I0 o2 o3 K) (huv : u ≠ v) (hu : u ≠ 46) (hv : v ≠ 46)
   (base : Heap) (s : Shared) (Q : Flow → Shared → Prop) (E : Value → Shared → Prop) (mean : ExcName → Option Value) (mg mb : Str → Option Value)
   (B' : Below callerA base [] base) (X : (hd02.heap_1 w.params).In base) (T : Top topProg topL mean mg mb base) (C1 : CodeHd base 135 131) (C2 : CodeHd base 41 37) (C3 : CodeHd base 34 30) (hE : PassesOwn (model Challenge.rw_ty0035_02.row.prog w) (callerA.deeper (envL L fa cd)) (envL L fa cd) E)
   (keep : Led) (hkeep : ∀ n : Led, (∀ p ∈ K, p ∈ n) → SubL keep n)
   (fin : ∀ h tk m' tb' io' x z due n1 n2 n3 n4, Fr base L h m' → News base L h ((I, io') :: KC L o2 o3 (tb' ++ K)) → Tabs tb' → (∀ p ∈ tb', p.1 ≤ 37 ∨ I0 + 5 ≤ p.1) → TapeAt io' Dt (tapeOf all).length → Has m' (nmX x z due kept n1 n2 n3 n4 I ps) → Q .next { s with heap := h, toks := tk })
include e2 e3 hc hd he hf hp hz hm hX huv hu hv B' X T C1 C2 C3 hE hkeep fin
theorem loop_rest : ∀ (r : List Nat) (f' e' : List Nat) (xs ys : List Value) (A : List (List Int)) (m : Str → Option Value) (tb : Led) (io : Obj) (n1 n2 n3 n4 : Tok), (∀ a ∈ r, a = u ∨ a = v) → WInv u v c d e f kept f' e' r.length → PV xs K (pairsOf u r (u :: f') (e' ++ [v])) → TextsAre ys ((r.map fun a => [a]) ++ [[]]) →
    A ++ (pairsOf u r (u :: f') (e' ++ [v])).map (rowP u c d e f) = all → TapeAt io Dt (tapeOf A).length → Tabs tb → (∀ p ∈ tb, p.1 ≤ 37 ∨ I0 + 5 ≤ p.1) →
    Has m (nmX (Mine.X u c d e f (u :: f')) (Mine.X u c d e f (e' ++ [v])) (Mine.X u c d e f (u :: f' ++ (e' ++ [v]))) kept n1 n2 n3 n4 I ps) →
    ItemsRest Challenge.rw_ty0035_02.row.prog w (callerA.deeper (envL L fa cd)) E base (envL L fa cd) (forT stF) (forB stF) Q s [(I0 + 4, "zip"), (I0 + 2, "tuple"), (I0 + 3, "tuple"), (I0, "list_iterator"), (I0 + 1, "list_iterator")] keep (zipItems xs ys) m ((I, io) :: KC L o2 o3 (tb ++ K)) := by
  intro r
  induction r with
  | nil =>
    intro f' e' xs ys A m tb io n1 n2 n3 n4 hin hW hPV hys hall hio ht hbig hM
    obtain ⟨Tp, tf, te, xr, rfl, hTp, hxr⟩ := hPV
    have hxr' : xr = [] := hxr
    subst hxr'
    cases hys with
    | cons _ tt hys =>
    cases hys
    have hs8 := hW.sum
    have hS := lenS_le 0
    have hdots := hW.dots hu hv
    have hk := kept_y hW.kept
    have hrow := rowOf_in u hc hd he hf (u :: f' ++ (e' ++ [v]))
    have hrl : (rowOf u c d e f (u :: f' ++ (e' ++ [v]))).length ≤ 32 := by rw [rowOf_len, List.length_append]; simp only [List.length_nil] at hs8; omega
    have hsum8 : (u :: f').length + (e' ++ [v]).length ≤ 8 := by simp only [List.length_nil] at hs8; omega
    have hs := small_of u hc hd he hf (a := u :: f') (b := e' ++ [v]) (g := u :: f' ++ (e' ++ [v])) (by simp) (by simp) (by simp) hsum8 (by rw [List.length_append]; exact hsum8)
    refine ItemsRest.pair (fun Tt tt0 h tk hTt F => ?_)
    refine AllObj.cons (fun oa ca => AllObj.cons fun ob cb => AllObj.cons fun oc cc => AllObj.cons fun od cd' => AllObj.cons fun oe ce => AllObj.nil fun N => ?_)
    refine turn_assign w fa cd L Tt Tp base m _ _ (u :: f') (e' ++ [v]) [] tf te tt _ _ F N hTt (List.mem_append_right _ (.tail _ (.tail _ (.tail _ (List.mem_append_right _ hTp))))) B' X mean mg mb T (fun h1 tk1 F1 N1 => ?_)
    rw [body_is]
    have hb := hX.beside ht hbig oa ob oc od oe
    refine turn_c w fa cd L I (I0 + 5) Dt _ (its5 I0 oa ob oc od oe) tb K io o2 o3 u v s2 s3 e2 e3 f' e' tf te tt n1 n2 n3 n4 _ _ kept ps hp zs A [] (rowOf u c d e f (u :: f' ++ (e' ++ [v]))) hb hio hm (by rw [← hall] at hz; exact hz) (trac_bound (fun q hq => by have := hrow q hq; omega) hrl) hs hk.1 huv hW.cat hdots.1 hdots.2 hu hv (by simp only [List.length_cons, List.length_append, List.length_nil] at hsum8; omega) (nm_put hM hp f' e' [] u v tf te tt) mean mg mb base _ [] _ E B' F1 X N1 T C1 C2 C3 hE (fun h2 tk2 m2 news2 F2 N2 hR => ?_)
    obtain ⟨k1, k2, k3, k4, io', tb', hM2, hio2, hb2, rfl⟩ := hR
    refine wpAny_execs_nil ?_
    refine endW _ F2 N2 (hX.off hb2.big io' oa ob oc od oe) ⟨hkeep _ (fun p hp => .tail _ (.tail _ (.tail _ (List.mem_append_right _ hp)))), ?_⟩
    refine ItemsRest.zero (fun h3 tk3 F3 N3 => ?_)
    exact fin h3 tk3 m2 tb' io' _ _ _ _ _ _ _ F3 N3 hb2.tabs hb2.big (by rw [← hall]; exact hio2) hM2
  | cons a r ih =>
    intro f' e' xs ys A m tb io n1 n2 n3 n4 hin hW hPV hys hall hio ht hbig hM
    obtain ⟨Tp, tf, te, xr, rfl, hTp, hxr⟩ := hPV
    cases hys with
    | cons _ tt hys =>
    have hs8 := hW.sum
    have hmf := hW.mf
    have hme := hW.me
    have hstep := lens_step hW.k3
    have hS0 := lenS_le r.length
    have hdots := hW.dots hu hv
    have hk := kept_y hW.kept
    have hrow := rowOf_in u hc hd he hf (u :: f' ++ (e' ++ [v]))
    simp only [List.length_cons] at hs8 hmf hme hstep
    have hsum8 : (u :: f').length + (e' ++ [v]).length ≤ 8 := by rw [List.length_cons]; omega
    have hrl : (rowOf u c d e f (u :: f' ++ (e' ++ [v]))).length ≤ 32 := by rw [rowOf_len, List.length_append]; omega
    have hs := small_of u hc hd he hf (a := u :: f') (b := e' ++ [v]) (g := u :: f' ++ (e' ++ [v])) (by simp) (by simp) (by simp) hsum8 (by rw [List.length_append]; exact hsum8)
    have hl14 : f'.length + e'.length ≤ 14 := by simp only [List.length_cons, List.length_append, List.length_nil] at hsum8; omega
    have hlen1 : (u :: f').length = f'.length + 1 := rfl
    refine ItemsRest.pair (fun Tt tt0 h tk hTt F => ?_)
    refine AllObj.cons (fun oa ca => AllObj.cons fun ob cb => AllObj.cons fun oc cc => AllObj.cons fun od cd' => AllObj.cons fun oe ce => AllObj.nil fun N => ?_)
    refine turn_assign w fa cd L Tt Tp base m _ _ (u :: f') (e' ++ [v]) [a] tf te tt _ _ F N hTt (List.mem_append_right _ (.tail _ (.tail _ (.tail _ (List.mem_append_right _ hTp))))) B' X mean mg mb T (fun h1 tk1 F1 N1 => ?_)
    rw [body_is]
    have hb := hX.beside ht hbig oa ob oc od oe
    rcases hin a (.head _) with hau | hau
    · replace hau := hau.symm
      subst hau
      have hst : stepP u u (u :: f') (e' ++ [v]) = (u :: f', u :: f' ++ (e' ++ [v])) := by
        unfold stepP
        rw [if_pos rfl]
      have hpo : pairsOf u (u :: r) (u :: f') (e' ++ [v]) = (u :: f', e' ++ [v]) :: pairsOf u r (u :: f') (u :: f' ++ (e' ++ [v])) := by
        show (u :: f', e' ++ [v]) :: pairsOf u r (stepP u u (u :: f') (e' ++ [v])).1 (stepP u u (u :: f') (e' ++ [v])).2 = _
        rw [hst]
      rw [hpo, List.map_cons] at hall
      have hxr' : PV xr K (pairsOf u r (u :: f') (u :: f' ++ (e' ++ [v]))) := by rw [hst] at hxr; exact hxr
      have hs2 := small_of u hc hd he hf (a := u :: f') (b := u :: f' ++ (e' ++ [v])) (g := e' ++ [v]) (by simp) (by simp) (by simp) (by rw [List.length_append]; omega) (by omega)
      refine turn_a w fa cd L I (I0 + 5) Dt _ (its5 I0 oa ob oc od oe) tb K io o2 o3 u v s2 s3 e2 e3 f' e' tf te tt n1 n2 n3 n4 _ _ kept ps hp zs A ((pairsOf u r (u :: f') (u :: f' ++ (e' ++ [v]))).map (rowP u c d e f)) (rowOf u c d e f (u :: f' ++ (e' ++ [v]))) hb hio hm (by rw [← hall] at hz; exact hz) (trac_bound (fun q hq => by have := hrow q hq; omega) hrl) hs hk.1 huv hW.cat hdots.1 hdots.2 hu hv hl14 hs2 hk.2.1 (nm_put hM hp f' e' [u] u v tf te tt) mean mg mb base _ [] _ E B' F1 X N1 T C1 C2 C3 hE (fun h2 tk2 m2 news2 F2 N2 hR => ?_)
      obtain ⟨k1, k2, k3, k4, io', tb', hM2, hio2, hb2, rfl⟩ := hR
      refine wpAny_execs_nil ?_
      refine endW _ F2 N2 (hX.off hb2.big io' oa ob oc od oe) ⟨hkeep _ (fun p hp => .tail _ (.tail _ (.tail _ (List.mem_append_right _ hp)))), ?_⟩
      have e1 : u :: f' ++ e' ++ [v] = u :: f' ++ (e' ++ [v]) := List.append_assoc _ _ _
      have hx4 : Mine.X u c d e f (u :: f' ++ (u :: f' ++ e' ++ [v])) = Mine.X u c d e f (u :: f') * Mine.X u c d e f (u :: f' ++ (e' ++ [v])) - Mine.X u c d e f (e' ++ [v]) := by rw [e1]; exact X_left u c d e f (u :: f') (e' ++ [v])
      refine ih f' (u :: f' ++ e') xr _ (A ++ [rowOf u c d e f (u :: f' ++ (e' ++ [v]))]) m2 tb' io' k1 k2 k3 k4 (fun x hx => hin x (.tail _ hx)) hW.left (by rw [e1]; exact hxr') hys (by rw [← hall, e1, List.append_assoc]; rfl) hio2 hb2.tabs hb2.big ?_
      rw [hx4, e1]; exact hM2
    · replace hau := hau.symm
      subst hau
      have hst : stepP u v (u :: f') (e' ++ [v]) = (u :: f' ++ (e' ++ [v]), e' ++ [v]) := by
        unfold stepP
        rw [if_neg (Ne.symm huv)]
      have hpo : pairsOf u (v :: r) (u :: f') (e' ++ [v]) = (u :: f', e' ++ [v]) :: pairsOf u r (u :: f' ++ (e' ++ [v])) (e' ++ [v]) := by
        show (u :: f', e' ++ [v]) :: pairsOf u r (stepP u v (u :: f') (e' ++ [v])).1 (stepP u v (u :: f') (e' ++ [v])).2 = _
        rw [hst]
      rw [hpo, List.map_cons] at hall
      have hxr' : PV xr K (pairsOf u r (u :: f' ++ (e' ++ [v])) (e' ++ [v])) := by rw [hst] at hxr; exact hxr
      have hs2 := small_of u hc hd he hf (a := u :: f' ++ (e' ++ [v])) (b := e' ++ [v]) (g := u :: f') (by simp) (by simp) (by simp) (by rw [List.length_append]; omega) (by omega)
      refine turn_b w fa cd L I (I0 + 5) Dt _ (its5 I0 oa ob oc od oe) tb K io o2 o3 u v s2 s3 e2 e3 f' e' tf te tt n1 n2 n3 n4 _ _ kept ps hp zs A ((pairsOf u r (u :: f' ++ (e' ++ [v])) (e' ++ [v])).map (rowP u c d e f)) (rowOf u c d e f (u :: f' ++ (e' ++ [v]))) hb hio hm (by rw [← hall] at hz; exact hz) (trac_bound (fun q hq => by have := hrow q hq; omega) hrl) hs hk.1 huv hW.cat hdots.1 hdots.2 hu hv hl14 hs2 hk.2.2 (nm_put hM hp f' e' [v] u v tf te tt) mean mg mb base _ [] _ E B' F1 X N1 T C1 C2 C3 hE (fun h2 tk2 m2 news2 F2 N2 hR => ?_)
      obtain ⟨k1, k2, k3, k4, io', tb', hM2, hio2, hb2, rfl⟩ := hR
      refine wpAny_execs_nil ?_
      refine endW _ F2 N2 (hX.off hb2.big io' oa ob oc od oe) ⟨hkeep _ (fun p hp => .tail _ (.tail _ (.tail _ (List.mem_append_right _ hp)))), ?_⟩
      have e1 : u :: (f' ++ (e' ++ [v])) = u :: f' ++ (e' ++ [v]) := rfl
      have hx4 : Mine.X u c d e f (u :: f' ++ (e' ++ [v]) ++ (e' ++ [v])) = Mine.X u c d e f (u :: f' ++ (e' ++ [v])) * Mine.X u c d e f (e' ++ [v]) - Mine.X u c d e f (u :: f') := X_right u c d e f (u :: f') (e' ++ [v])
      refine ih (f' ++ (e' ++ [v])) e' xr _ (A ++ [rowOf u c d e f (u :: f' ++ (e' ++ [v]))]) m2 tb' io' k1 k2 k3 k4 (fun x hx => hin x (.tail _ hx)) hW.right (by rw [e1]; exact hxr') hys (by rw [← hall, e1, List.append_assoc]; rfl) hio2 hb2.tabs hb2.big ?_
      rw [e1, hx4]; exact hM2
end
end
section
noncomputable abbrev K20 (L D1 D3 D4 Dr Dt : Addr) (vs1 rs ysr zs : List Value) (k1 kk : Nat) (ox o1 o4 o5 o6 o7 o8 o9 : Obj) (TL : Led) : Led := (D3, ox) :: (Dt, LCg.lst zs) :: (Dr, LCg.lst ysr) :: (D4, W.listOf rs.toArray kk) :: (D1, W.listOf vs1.toArray k1) :: (L + 1 + 1 + 1 + 1 + 1 + 1 + 1 + 1 + 1, o9) :: (L + 1 + 1 + 1 + 1 + 1 + 1 + 1 + 1, o8) :: (L + 1 + 1 + 1 + 1 + 1 + 1 + 1, o7) :: (L + 1 + 1 + 1 + 1 + 1 + 1, o6) :: (L + 1 + 1 + 1 + 1 + 1, o5) :: (L + 1 + 1 + 1 + 1, o4) :: (L + 1, o1) :: TL
section
variable {L I D1 D3 D4 Dr Dt : Addr} {vs1 rs ysr zs : List Value} {k1 kk : Nat} {io ox o1 o2 o3 o4 o5 o6 o7 o8 o9 : Obj} {tb TL : Led} {x : Addr × Obj}
theorem k20_in : ∀ p ∈ (I, io) :: KC L o2 o3 (tb ++ K20 L D1 D3 D4 Dr Dt vs1 rs ysr zs k1 kk ox o1 o4 o5 o6 o7 o8 o9 TL), p ∈ (D3, ox) :: x :: (I, io) :: R5 L D1 D4 Dr Dt vs1 rs ysr zs k1 kk o1 o2 o3 o4 o5 o6 o7 o8 o9 tb TL := by
  walk_at "mem all"
theorem k20_r5 : ∀ p ∈ KC L o2 o3 (K20 L D1 D3 D4 Dr Dt vs1 rs ysr zs k1 kk ox o1 o4 o5 o6 o7 o8 o9 TL), p = (D3, ox) ∨ p ∈ R5 L D1 D4 Dr Dt vs1 rs ysr zs k1 kk o1 o2 o3 o4 o5 o6 o7 o8 o9 [] TL := by
  walk_at "mem all"
end
theorem names_off (D1 D4 S Dr : Addr) (tcs : Str) (tt : Tok) : KeysOff ((Str.ofString "rows", .ref Dr) :: names5 D1 D4 S tcs tt) := by
  intro k hk
  simp only [List.map_cons, List.map_nil]
  simp only [keysT, List.mem_cons, List.not_mem_nil, or_false] at hk
  rcases hk with rfl | rfl | rfl | rfl | rfl | rfl | rfl | rfl | rfl <;> decide +kernel
inductive P20 (L : Addr) (TL : Led) (o1 : Obj) (o2 : Obj) (o3 : Obj) (o4 : Obj) (o5 : Obj) (o6 : Obj) (o7 : Obj) (o8 : Obj) (o9 : Obj) (D1 : Addr) (D4 : Addr) (Dr : Addr) (Dt : Addr) (I : Addr) (S : Addr) (tcs : Str) (tt : Tok) (vs1 : List Value) (rs : List Value) (ysr : List Value) (zs : List Value) (k1 : Nat) (kk : Nat) (u : Nat) (v : Nat) (c : Int) (d : Int) (e : Int) (f : Int) (Wy : List Nat) (m' : Str → Option Value) (news' : Led) : Prop
  | mk (tb' : Led) (io' : Obj) (D3 : Addr) (I0 : Addr) (ox : Obj) (zh1 : Has m' ((Str.ofString "tape", .ref I) :: (Str.ofString "rows", .ref Dr) :: names5 D1 D4 S tcs tt)) (zh2 : Tabs tb') (zh3 : (∀ p ∈ tb', p.1 ≤ 37 ∨ I0 + 5 ≤ p.1)) (zh4 : TapeAt io' Dt (tapeOf ([c, d] :: [e, f] :: (pairsOf u Wy [u] [v]).map (rowP u c d e f))).length) (zh5 : Fixed L I I0 o2 o3 (K20 L D1 D3 D4 Dr Dt vs1 rs ysr zs k1 kk ox o1 o4 o5 o6 o7 o8 o9 TL)) (zh6 : news' = (I, io') :: KC L o2 o3 (tb' ++ K20 L D1 D3 D4 Dr Dt vs1 rs ysr zs k1 kk ox o1 o4 o5 o6 o7 o8 o9 TL))
theorem stage20 (w : World) (fa : Addr) (cd : Value) (L : Addr) (m : Str → Option Value) (tb TL : Led) (o1 o2 o3 o4 o5 o6 o7 o8 o9 io : Obj) (D1 D4 Dr Dt I S : Addr) (tcs : Str) (tt : Tok) (vs1 rs ysr zs : List Value) (k1 kk : Nat) (u v : Nat) (s2 s3 : Tok) (e2 : o2.data = .cell (some (.str (tx [u]) s2))) (e3 : o3.data = .cell (some (.str (tx [v]) s3)))
   (c d e f : Int) (hc : 1 ≤ c ∧ c ≤ 4096) (hd : 1 ≤ d ∧ d ≤ 4096) (he : 1 ≤ e ∧ e ≤ 4096) (hf : 1 ≤ f ∧ f ≤ 4096) (huv : u ≠ v) (hu : u ≠ 46) (hv : v ≠ 46)
   (Wy : List Nat) (hW : Wy.length = 3) (hWm : ∀ a ∈ Wy, a = u ∨ a = v) (hv1 : TextsAre vs1 (Wy.map fun c => [c])) (hPV : PV rs TL (pairsOf u Wy [u] [v]))
   (hz : IntsAre zs (tapeOf ([c, d] :: [e, f] :: (pairsOf u Wy [u] [v]).map (rowP u c d e f)))) (hio : TapeAt io Dt (tapeOf [[c, d], [e, f]]).length) (ht : Tabs tb) (hsm : ∀ p ∈ tb, p.1 ≤ 37) (h37 : @LT.lt Nat _ 37 L)
   (hbig : ∀ p ∈ R5 L D1 D4 Dr Dt vs1 rs ysr zs k1 kk o1 o2 o3 o4 o5 o6 o7 o8 o9 [] TL, p.1 ≠ 30 ∧ p.1 ≠ 37) (hI : ∀ p ∈ R5 L D1 D4 Dr Dt vs1 rs ysr zs k1 kk o1 o2 o3 o4 o5 o6 o7 o8 o9 [] TL, p.1 ≠ I) (hI37 : @LT.lt Nat _ 37 I)
   (n1 n2 n3 n4 : Tok) (hM : Has m (nmX (c * d + 2) (e * f + 2) ((c * d + 1) * (e * f + 1) + c * f + d * e + 1) (4 + (c * f - d * e) ^ 2 - c * d * e * f * (c - e) * (d - f)) n1 n2 n3 n4 I ((Str.ofString "rows", .ref Dr) :: names5 D1 D4 S tcs tt))) :
  Stg w fa cd L 20 1 (fun h => True) m ((I, io) :: R5 L D1 D4 Dr Dt vs1 rs ysr zs k1 kk o1 o2 o3 o4 o5 o6 o7 o8 o9 tb TL)
    (P20 L TL o1 o2 o3 o4 o5 o6 o7 o8 o9 D1 D4 Dr Dt I S tcs tt vs1 rs ysr zs k1 kk u v c d e f Wy) := by
  intro mean mg mb base s rest Q E B' F X N T C1 C2 C3 hE hS hret
  have F0 := fr_all0 hM F
  clear F
  have hl1 := hv1.length
  rw [List.length_map, hW] at hl1
  (repeat' (first | (with_reducible refine if_ff ?_) | (with_reducible refine if_tt ?_) | (k_unfold; (try dsimp only)) | (k_end; wrow_close) | (cell_step; walk1) | (cell_step; dsimp only; walk1) | (leave1; walk_say "STEP leave1"; try dsimp only) | fail "no step"))
  (rename Fr _ _ _ _ => lF')
  (with_unfolding_all refine' For_turns (hE := hE) lF' ?_)
  (repeat' (first | (with_reducible refine if_ff ?_) | (with_reducible refine if_tt ?_) | (k_unfold; (try dsimp only)) | (k_end; wrow_close) | (cell_step; walk1) | (cell_step; dsimp only; walk1) | (leave1; walk_say "STEP leave1"; try dsimp only) | fail "no step"))
  rename Fr _ _ _ _ => F3
  rename News _ _ _ _ => N3
  refine cat_lists (vs := vs1) F3 N3 (News.isList N3 (.tail _ (.tail _ (.tail _ (.tail _ (.tail _ (.head _))))))) (News.isList N3 (.head _)) ?_ (by rw [hl1]; exact Nat.le_of_ble_eq_true rfl)
  intro D3 h3' F4 N4 l4
  (try dsimp only)
  (repeat' (first | (with_reducible refine if_ff ?_) | (with_reducible refine if_tt ?_) | (k_unfold; (try dsimp only)) | (k_end; wrow_close) | (cell_step; walk1) | (cell_step; dsimp only; walk1) | (leave1; walk_say "STEP leave1"; try dsimp only) | fail "no step"))
  rename Fr _ _ _ _ => F5
  rename News _ _ _ _ => N5
  rw [bindAll_eq hM] at F5
  rw [empty_tx] at N5
  have hv3 : ∀ t, TextsAre (vs1 ++ [Value.str (tx []) t]) ((Wy.map fun c => [c]) ++ [[]]) := fun t => hv1.append (.cons [] t .nil)
  have l5 := l4
  simp only [topA_nil, topA_cons, topA_app, Nat.max_le, Nat.zero_le, true_and, and_true, List.cons_append, List.nil_append] at l5
  generalize hox : PySem.W.listOf (vs1 ++ [Value.str (tx []) _]).toArray 0 = ox at N5
  have N6 : News base L h3' ((I, io) :: KC L o2 o3 (tb ++ K20 L D1 D3 D4 Dr Dt vs1 rs ysr zs k1 kk ox o1 o4 o5 o6 o7 o8 o9 TL)) := news_perm N5 k20_in
  have hID : @LT.lt Nat _ I D3 := by omega
  have hsub : ∀ p ∈ KC L o2 o3 (K20 L D1 D3 D4 Dr Dt vs1 rs ysr zs k1 kk ox o1 o4 o5 o6 o7 o8 o9 TL), p ∈ (I, io) :: KC L o2 o3 (tb ++ K20 L D1 D3 D4 Dr Dt vs1 rs ysr zs k1 kk ox o1 o4 o5 o6 o7 o8 o9 TL) := fun p hp => by
    rcases List.mem_cons.mp hp with rfl | hp
    · exact .tail _ (.head _)
    rcases List.mem_cons.mp hp with rfl | hp
    · exact .tail _ (.tail _ (.head _))
    · exact .tail _ (.tail _ (.tail _ (List.mem_append_right _ hp)))
  have hoff : ∀ a : Nat, a ≤ 37 → (∀ x : Addr, (x ≠ 30 ∧ x ≠ 37) → x ≠ a) → OwnOff (K20 L D1 D3 D4 Dr Dt vs1 rs ysr zs k1 kk ox o1 o4 o5 o6 o7 o8 o9 TL) [a] := fun a ha hx p hp d hd => by
    rw [List.mem_singleton.mp hd]
    rcases k20_r5 (o2 := o2) (o3 := o3) p (.tail _ (.tail _ hp)) with rfl | h
    · exact Nat.ne_of_gt (Nat.lt_of_le_of_lt ha (Nat.lt_trans hI37 hID))
    · exact hx _ (hbig p h)
  have hkI : ∀ p ∈ KC L o2 o3 (K20 L D1 D3 D4 Dr Dt vs1 rs ysr zs k1 kk ox o1 o4 o5 o6 o7 o8 o9 TL), p.1 ≠ I := fun p hp => by
    rcases k20_r5 p hp with rfl | h
    · exact Nat.ne_of_gt hID
    · exact hI p h
  refine ktu_zip (lo1 := W.listOf rs.toArray kk) (lo2 := ox) (xs := rs) (ys := vs1 ++ [Value.str (tx []) _]) (by rfl) F5 N6 (.tail _ (.tail _ (.tail _ (List.mem_append_right _ (.tail _ (.tail _ (.tail _ (.head _)))))))) rfl rfl (.tail _ (.tail _ (.tail _ (List.mem_append_right _ (.head _))))) (by rw [← hox]) (by rw [← hox]) ?_
  intro I0 hI0
  have hX : Fixed L I I0 o2 o3 (K20 L D1 D3 D4 Dr Dt vs1 rs ysr zs k1 kk ox o1 o4 o5 o6 o7 o8 o9 TL) :=
    ⟨hI37, h37, hI0 _ (.head _), hI0 (L + 1 + 1 + 1 + 1 + 1 + 1 + 1 + 1 + 1, o9) (.tail _ (.tail _ (.tail _ (List.mem_append_right _ (.tail _ (.tail _ (.tail _ (.tail _ (.tail _ (.head _)))))))))), fun p hp => hI0 p (.tail _ (.tail _ (.tail _ (List.mem_append_right _ hp)))), hoff 30 (by decide) (fun x h => h.1), hoff 37 (by decide) (fun x h => h.2), hkI⟩
  have hx0 : Mine.X u c d e f [u] = c * d + 2 := by show trac (rowOf u c d e f [u]) = _; rw [row_u, trac_two]
  have hz0 : Mine.X u c d e f [v] = e * f + 2 := by show trac (rowOf u c d e f [v]) = _; rw [row_v u v c d e f huv, trac_two]
  refine loop_rest w fa cd L I I0 Dt _ o2 o3 u v s2 s3 e2 e3 c d e f (4 + (c * f - d * e) ^ 2 - c * d * e * f * (c - e) * (d - f)) hc hd he hf ((Str.ofString "rows", .ref Dr) :: names5 D1 D4 S tcs tt) (names_off D1 D4 S Dr tcs tt) zs _ hz (.tail _ (.head _)) hX huv hu hv base _ _ E mean mg mb B' X T C1 C2 C3 hE [(D4, W.listOf rs.toArray kk), (D3, ox)] (fun n hn => ⟨hn _ (.tail _ (.tail _ (.tail _ (.head _)))), hn _ (.head _), trivial⟩) ?fin Wy [] [] rs _ [[c, d], [e, f]] m tb io n1 n2 n3 n4 hWm (by rw [hW]; exact winv_start huv) (hPV.mono fun p hp => .tail _ (.tail _ (.tail _ (.tail _ (.tail _ (.tail _ (.tail _ (.tail _ (.tail _ (.tail _ (.tail _ (.tail _ hp)))))))))))) (hv3 _) rfl hio ht (fun p hp => .inl (hsm p hp)) ?hm
  case hm =>
    rw [show u :: ([] : List Nat) ++ (([] : List Nat) ++ [v]) = [u] ++ [v] from rfl, X_two u c d e f v huv, show u :: ([] : List Nat) = [u] from rfl, show ([] : List Nat) ++ [v] = [v] from rfl, hx0, hz0]
    exact hM
  case fin =>
    intro h tk m' tb' io' x z due a1 a2 a3 a4 F9 N9 ht9 hb9 hio9 hM9
    (try dsimp only)
    (repeat' (first | (with_reducible refine if_ff ?_) | (with_reducible refine if_tt ?_) | (k_unfold; (try dsimp only)) | (k_end; wrow_close) | (cell_step; walk1) | (cell_step; dsimp only; walk1) | (leave1; walk_say "STEP leave1"; try dsimp only) | fail "no step"))
    exact hret _ _ _ _ F9 N9 ⟨tb', io', D3, I0, ox, hM9.2.2.2.2, ht9, hb9, hio9, hX, rfl⟩
end
section
theorem stage21 (w : World) (fa : Addr) (cd : Value) (L : Addr) (m : Str → Option Value) (tb K : Led) (o2 o3 io : Obj) (Dr Dt I : Addr) (ysr zs : List Value) (ps : List (Str × Value)) (rows : List (List Int)) (q : List Int) (TL : Led)
   (hR : RowsIn ysr (rows ++ [q]) TL) (hTL : ∀ p ∈ TL, p ∈ K) (hDr : (Dr, LCg.lst ysr) ∈ K) (hDt : (Dt, LCg.lst zs) ∈ K) (hq : ∀ x ∈ q, 1 ≤ x ∧ x ≤ 4096) (hl : q.length ≤ 18)
   (hio : TapeAt io Dt zs.length) (ht : Tabs tb) (off1 : OwnOff (KC L o2 o3 K) [30]) (off2 : OwnOff (KC L o2 o3 K) [37]) (hI : ∀ p ∈ KC L o2 o3 (tb ++ K), p.1 ≠ I)
   (hM : Has m ((Str.ofString "tape", .ref I) :: (Str.ofString "rows", .ref Dr) :: ps))
   (mean : ExcName → Option Value) (mg mb : Str → Option Value) (base : Heap) (s : Shared) (Q : Flow → Shared → Prop) (E : Value → Shared → Prop)
   (B' : Below callerA base [] base) (F : Fr base L s.heap m) (X : (hd02.heap_1 w.params).In base) (N : News base L s.heap ((I, io) :: KC L o2 o3 (tb ++ K))) (T : Top topProg topL mean mg mb base) (C1 : CodeHd base 135 131) (C2 : CodeHd base 41 37) (C3 : CodeHd base 34 30)
   (hE : PassesOwn (model Challenge.rw_ty0035_02.row.prog w) (callerA.deeper (envL L fa cd)) (envL L fa cd) E)
   (hret : ∀ h' tk' m' news' tb9, Fr base L h' m' → News base L h' news' → Tabs tb9 → (∀ p ∈ tb9, p ∈ news') → (∀ p ∈ K, p ∈ news') → Q (.ret (.bool true)) { s with heap := h', toks := tk' }) :
    wpAny (model Challenge.rw_ty0035_02.row.prog w) (callerA.deeper (envL L fa cd)) (execs (blk 21 1) (envL L fa cd)) Q E s := by
  have hM1 : Has m [(Str.ofString "tape", .ref I), (Str.ofString "rows", .ref Dr)] := ⟨hM.1, hM.2.1, trivial⟩
  have F0 := fr_all0 hM1 F
  clear F
  obtain ⟨ys0, Dq, vq, rfl, hDq, hvq⟩ : ∃ ys0 Dq vq, ysr = ys0 ++ [.ref Dq] ∧ (Dq, LCg.lst vq) ∈ TL ∧ IntsAre vq q := by
    have hlen := hR.length
    obtain ⟨D, vs, q', h1, h2, h3, h4⟩ := hR.get (i := rows.length) (v := (ysr[rows.length]?).getD .none) (by
      rw [List.length_append, List.length_singleton] at hlen
      rw [List.getElem?_eq_getElem (by omega)]; rfl)
    rw [List.getElem?_append_right (Nat.le_refl _), Nat.sub_self] at h4
    have h5 : q = q' := by simpa using h4
    subst h5
    refine ⟨ysr.take rows.length, D, vs, ?_, h2, h3⟩
    rw [List.length_append, List.length_singleton] at hlen
    have h6 : ysr[rows.length]? = some (.ref D) := by
      rw [List.getElem?_eq_getElem (by omega)] at h1 ⊢
      exact congrArg some h1
    have h7 := List.take_add_one (l := ysr) (i := rows.length)
    rw [h6] at h7
    rw [List.take_of_length_le (by omega)] at h7
    exact h7
  (repeat' (first | (with_reducible refine if_ff ?_) | (with_reducible refine if_tt ?_) | (k_unfold; (try dsimp only)) | (k_end; wrow_close) | (cell_step; walk1) | (cell_step; dsimp only; walk1) | (leave1; walk_say "STEP leave1"; try dsimp only) | fail "no step"))
  rename Fr _ _ _ _ => F1
  rename News _ _ _ _ => N1
  refine list_done (vs := zs) (n := zs.length) (by rfl) F1 N1 hio.1 hio.2 (.tail _ (.tail _ (List.mem_append_right _ hDt))) hI ?_
  intro D2 c2 h2 tk2 F2 N2 hD2
  (try dsimp only)
  (repeat' (first | (with_reducible refine if_ff ?_) | (with_reducible refine if_tt ?_) | (k_unfold; (try dsimp only)) | (k_end; wrow_close) | (cell_step; walk1) | (cell_step; dsimp only; walk1) | (leave1; walk_say "STEP leave1"; try dsimp only) | fail "no step"))
  rename Fr _ _ _ _ => F3
  rename News _ _ _ _ => N3
  refine ke_eq_ints (News.isList N3 (.tail _ (.head _))) (News.isList N3 (.head _)) .nil .nil (by units_room) ?_
  rw [show decide (([] : List Int) = []) = true by decide]
  (repeat' (first | (with_reducible refine if_ff ?_) | (with_reducible refine if_tt ?_) | (k_unfold; (try dsimp only)) | (k_end; wrow_close) | (cell_step; walk1) | (cell_step; dsimp only; walk1) | (leave1; walk_say "STEP leave1"; try dsimp only) | fail "no step"))
  rename Fr _ _ _ _ => F4
  rename News _ _ _ _ => N4
  refine item_last (vs := ys0) (x := .ref Dq) (News.isList N4 (.tail _ (.tail _ (.tail _ (.tail _ (List.mem_append_right _ hDr)))))) ?_
  (repeat' (first | (with_reducible refine if_ff ?_) | (with_reducible refine if_tt ?_) | (k_unfold; (try dsimp only)) | (k_end; wrow_close) | (cell_step; walk1) | (cell_step; dsimp only; walk1) | (leave1; walk_say "STEP leave1"; try dsimp only) | fail "no step"))
  have hs1 : ∀ p ∈ tb ++ KC L o2 o3 K, p ∈ KC L o2 o3 (tb ++ K) := kc_front
  rename Fr _ _ _ _ => F5
  rename News _ _ _ _ => N5
  have N6 := news_perm (news_tail (news_tail N5)) hs1
  clear N5
  (refine' tel_use ?tH ?tB ?tF ?tX ?tN ?tT ?tC1 ?tC2 ?tC3 ?tk ?td ?tu ?_; (case tB => k_asm); (case tF => k_asm); (case tX => k_asm); (case tN => k_asm); (case tT => k_asm); (case tC1 => assumption); (case tC2 => assumption); (case tC3 => assumption); (case tk => first | exact rfl | assumption); (case tH => exact (euclid w tb (KC L o2 o3 K) Dq vq vq.length q hvq (.tail _ (.tail _ (hTL _ hDq))) hq hl off1 off2 ht)); (case td => ktr_room); (case tu => ktr_units))
  rintro v9 h9 tk9 news9 F9 N9 ⟨d9, us9, c9, tb9, rfl, hus9, hd9, rfl, ht9, hn9⟩
  (try dsimp only)
  (repeat' (first | (with_reducible refine if_ff ?_) | (with_reducible refine if_tt ?_) | (k_unfold; (try dsimp only)) | (k_end; wrow_close) | (cell_step; walk1) | (cell_step; dsimp only; walk1) | (leave1; walk_say "STEP leave1"; try dsimp only) | fail "no step"))
  rename Fr _ _ _ _ => F10
  rename News _ _ _ _ => N10
  refine item_last (vs := ys0) (x := .ref Dq) (News.isList N10 (.tail _ (List.mem_append_right _ (.tail _ (.tail _ hDr))))) ?_
  (repeat' (first | (with_reducible refine if_ff ?_) | (with_reducible refine if_tt ?_) | (k_unfold; (try dsimp only)) | (k_end; wrow_close) | (cell_step; walk1) | (cell_step; dsimp only; walk1) | (leave1; walk_say "STEP leave1"; try dsimp only) | fail "no step"))
  rename Fr _ _ _ _ => F11
  rename News _ _ _ _ => N11
  refine ke_eq_ints (News.isList N11 (.head _)) (News.isList N11 (.tail _ (List.mem_append_right _ (.tail _ (.tail _ (hTL _ hDq)))))) hus9 hvq (by units_room) ?_
  rw [show decide (q = q) = true by simp]
  (repeat' (first | (with_reducible refine if_ff ?_) | (with_reducible refine if_tt ?_) | (k_unfold; (try dsimp only)) | (k_end; wrow_close) | (cell_step; walk1) | (cell_step; dsimp only; walk1) | (leave1; walk_say "STEP leave1"; try dsimp only) | fail "no step"))
  rename Fr _ _ _ _ => F12
  rename News _ _ _ _ => N12
  exact hret _ _ _ _ tb9 F12 N12 ht9 (fun p hp => .tail _ (List.mem_append_left _ hp)) (fun p hp => .tail _ (List.mem_append_right _ (.tail _ (.tail _ hp))))
end
end
section
section
theorem body23 : fBody (fn 23) = blk 0 3 ++ (blk 3 2 ++ (blk 5 1 ++ (blk 6 1 ++ (blk 7 1 ++ (blk 8 1 ++ (blk 9 1 ++ (blk 10 1 ++ (blk 11 1 ++ (blk 12 1 ++ (blk 13 1 ++ (blk 14 1 ++ (blk 15 5 ++ (blk 20 1 ++ blk 21 1))))))))))))) := by with_unfolding_all rfl
theorem pairs_len (u : Nat) : ∀ (r f e : List Nat), r.length ≤ 3 → f.length + e.length ≤ lenS r.length → f.length ≤ lenM r.length → e.length ≤ lenM r.length → ∀ p ∈ pairsOf u r f e, p.1.length + p.2.length ≤ 8
  | [], f, e, _, h, _, _, p, hp => by
    rw [List.mem_singleton.mp hp]
    exact h
  | a :: r, f, e, hr, h, hf, he, p, hp => by
    have hs := lens_step (k := r.length) hr
    rw [List.length_cons] at h hf he
    rcases List.mem_cons.mp hp with rfl | hp
    · exact Nat.le_trans h (lenS_le _)
    · rw [List.length_cons] at hr
      unfold stepP at hp
      split at hp
      · exact pairs_len u r f (f ++ e) (by omega) (by rw [List.length_append]; omega) (by omega) (by rw [List.length_append]; omega) p hp
      · exact pairs_len u r (f ++ e) e (by omega) (by rw [List.length_append]; omega) (by rw [List.length_append]; omega) (by omega) p hp
theorem pairs_num (u : Nat) : ∀ (r f e : List Nat), (pairsOf u r f e).length = r.length + 1
  | [], _, _ => rfl
  | a :: r, f, e => by
    show (pairsOf u r _ _).length + 1 = _
    rw [pairs_num u r]
    rfl
theorem flat_len : ∀ (l : List (List Nat)), l.flatten.length = ((l.map tx).map (·.length)).sum
  | [] => rfl
  | x :: r => by
    rw [List.flatten_cons, List.length_append, flat_len r]
    simp [Str.length]
theorem sevn_le : ∀ x ∈ sevn, x < 128 ∧ x ≠ 46 ∧ x < 0x110000 := by decide
theorem spell_in (q : Bool) (c : Nat) (hc : c < 0x110000) : ∀ x ∈ spell q [c], x < 0x110000 := by
  intro x hx
  unfold spell esc bsl at hx
  split at hx
  · simp only [List.flatMap_cons, List.flatMap_nil, List.append_nil, List.mem_cons, List.mem_append, List.not_mem_nil, or_false] at hx
    rcases hx with rfl | hx | rfl | rfl
    · decide
    · split at hx
      · simp at hx; omega
      · simp at hx; omega
    · decide
    · decide
  · simp at hx
    omega
theorem spells_in : ∀ (l : List Nat) (t : Int), (∀ c ∈ l, c < 0x110000) → ∀ x ∈ (spells t l).flatten, x < 0x110000
  | [], _, _, x, hx => by simp [spells] at hx
  | c :: r, t, h, x, hx => by
    rw [spells, List.flatten_cons, List.mem_append] at hx
    rcases hx with hx | hx
    · exact spell_in _ c (h c (.head _)) x hx
    · exact spells_in r (t + 1) (fun d hd => h d (.tail _ hd)) x hx
theorem RowsIn.shrink {ys : List Value} {qs : List (List Int)} {a : Led} (h : RowsIn ys qs a) : ∃ b, RowsIn ys qs b ∧ ∀ p ∈ b, p ∈ a ∧ ∃ vs, p.2 = LCg.lst vs := by
  induction h with
  | nil => exact ⟨[], .nil, fun p hp => nomatch hp⟩
  | snoc h D vs q hm hi ih =>
    obtain ⟨b, h1, h2⟩ := ih
    refine ⟨(D, LCg.lst vs) :: b, .snoc (h1.mono fun p hp => .tail _ hp) D vs q (.head _) hi, fun p hp => ?_⟩
    rcases List.mem_cons.mp hp with rfl | hp
    · exact ⟨hm, vs, rfl⟩
    · exact h2 p hp
theorem tab_ne {h₀ h : Heap} {L : Addr} {l : Led} (N : News h₀ L h l) {a : Addr} (ha : (a, tabObj #[]) ∈ l) {p : Addr × Obj} (hp : p ∈ l) {vs : List Value} (hv : p.2 = LCg.lst vs) : p.1 ≠ a := by
  intro e
  have h1 := (N _ ha).1
  have h2 := (N _ hp).1
  rw [e, h1] at h2
  rw [hv] at h2
  cases h2
noncomputable abbrev tb0 : Led := [(30, tabObj #[]), (37, tabObj #[])]
theorem tb0_tabs : Tabs tb0 := ⟨[(30, tabObj #[])], [(37, tabObj #[])], rfl, .inl rfl, .inl rfl, by intro p hp d hd; simp at hp hd; subst hp; subst hd; decide, by intro p hp d hd; simp at hp hd; subst hp; subst hd; decide⟩
theorem tabs_30 {tb news : Led} (h : Tabs tb) (hs : ∀ p ∈ tb, p ∈ news) : ∃ ps, (30, tabObj ps) ∈ news := by
  obtain ⟨t1, t2, rfl, h1, h2, _, _⟩ := h
  rcases h1 with rfl | ⟨c', oc, vs, t, rfl, _⟩
  · exact ⟨_, hs _ (.head _)⟩
  · exact ⟨_, hs _ (.tail _ (.head _))⟩
theorem tabs_37 {tb news : Led} (h : Tabs tb) (hs : ∀ p ∈ tb, p ∈ news) : ∃ ps, (37, tabObj ps) ∈ news := by
  obtain ⟨t1, t2, rfl, h1, h2, _, _⟩ := h
  rcases h2 with rfl | ⟨c', oc, vs, t, rfl, _⟩
  · exact ⟨_, hs _ (List.mem_append_right _ (.head _))⟩
  · exact ⟨_, hs _ (List.mem_append_right _ (.tail _ (.head _)))⟩
section
variable {L I D1 D2 D4 Dr Dt : Addr} {vs1 vs2 rs ysr zs : List Value} {j1 j2 kk : Nat} {p1 p2 p3 p4 p5 p6 p7 p8 p9 io : Obj} {a : Addr × Obj} {T : Led}
theorem m_r3 : ∀ p ∈ R3 L D1 D2 vs1 vs2 j1 j2 p1 p2 p3 p4 p5 p6 p7 p8 p9 ((131, tabObj #[]) :: tb0), p ∈ (D2, PySem.W.listOf vs2.toArray j2) :: (D1, PySem.W.listOf vs1.toArray j1) :: cells9 L p1 p2 p3 p4 p5 p6 p7 p8 p9 tabs3 := by
  walk_at "mem all"
theorem m_r5 : ∀ p ∈ R5 L D1 D4 Dr Dt vs1 rs ysr zs j1 kk p1 p2 p3 p4 p5 p6 p7 p8 p9 tb0 (a :: T), p ∈ R5 L D1 D4 Dr Dt vs1 rs ysr zs j1 kk p1 p2 p3 p4 p5 p6 p7 p8 p9 (a :: tb0) T := by
  walk_at "mem all"
theorem m_r5n : ∀ p ∈ R5 L D1 D4 Dr Dt vs1 rs ysr zs j1 kk p1 p2 p3 p4 p5 p6 p7 p8 p9 [] (a :: T), p ∈ R5 L D1 D4 Dr Dt vs1 rs ysr zs j1 kk p1 p2 p3 p4 p5 p6 p7 p8 p9 tb0 (a :: T) := by
  walk_at "mem all"
end
namespace Vlaw_body
noncomputable def At0 (w : World) (fa : Addr) (cd : Value) (L : Addr) (S : Addr) (vs : List Value) (xs : List Int) (o1 : Obj) (o2 : Obj) (o3 : Obj) (o4 : Obj) (o5 : Obj) (o6 : Obj) (o7 : Obj) (o8 : Obj) (o9 : Obj) (mean : ExcName → Option Value) (mg : Str → Option Value) (mb : Str → Option Value) (base : Heap) (s : Shared) (Q : Flow → Shared → Prop) (E : Value → Shared → Prop) : Prop := ∀ (hi : IntsAre vs xs) (hl : xs.length ≤ 63) (hL : topA tabs3 ≤ L) (e1 : o1.data = .cell none) (e2 : o2.data = .cell none) (e3 : o3.data = .cell none) (e4 : o4.data = .cell none) (e5 : o5.data = .cell none) (e6 : o6.data = .cell none) (e7 : o7.data = .cell none) (e8 : o8.data = .cell none) (e9 : o9.data = .cell none) (B' : Below callerA base [] base) (F : Fr base L s.heap (fun y => if y = Str.ofString "script" then some (.ref S) else none)) (X : (hd02.heap_1 w.params).In base) (N : News base L s.heap (cells9 L o1 o2 o3 o4 o5 o6 o7 o8 o9 tabs3)) (T : Top topProg topL mean mg mb base) (C1 : CodeHd base 135 131) (C2 : CodeHd base 41 37) (C3 : CodeHd base 34 30) (hE : PassesOwn (model Challenge.rw_ty0035_02.row.prog w) (callerA.deeper (envL L fa cd)) (envL L fa cd) E) (hS : base.IsList S vs.toArray) (hret : ∀ h' tk' m' news', Fr base L h' m' → News base L h' news' → (∃ ps, (131, tabObj ps) ∈ news') → (∃ ps, (37, tabObj ps) ∈ news') → (∃ ps, (30, tabObj ps) ∈ news') → Q (.ret (.bool true)) { s with heap := h', toks := tk' }), wpAny (model Challenge.rw_ty0035_02.row.prog w) (callerA.deeper (envL L fa cd)) (execs (fBody (fn 23)) (envL L fa cd)) Q E s
noncomputable def AtX (x : (World) × (Addr) × (Value) × (Addr) × (Addr) × (List Value) × (List Int) × (Obj) × (Obj) × (Obj) × (Obj) × (Obj) × (Obj) × (Obj) × (Obj) × (Obj) × (ExcName → Option Value) × (Str → Option Value) × (Str → Option Value) × (Heap) × (Shared) × (Flow → Shared → Prop) × (Value → Shared → Prop)) : Prop := At0 (x.1) (x.2.1) (x.2.2.1) (x.2.2.2.1) (x.2.2.2.2.1) (x.2.2.2.2.2.1) (x.2.2.2.2.2.2.1) (x.2.2.2.2.2.2.2.1) (x.2.2.2.2.2.2.2.2.1) (x.2.2.2.2.2.2.2.2.2.1) (x.2.2.2.2.2.2.2.2.2.2.1) (x.2.2.2.2.2.2.2.2.2.2.2.1) (x.2.2.2.2.2.2.2.2.2.2.2.2.1) (x.2.2.2.2.2.2.2.2.2.2.2.2.2.1) (x.2.2.2.2.2.2.2.2.2.2.2.2.2.2.1) (x.2.2.2.2.2.2.2.2.2.2.2.2.2.2.2.1) (x.2.2.2.2.2.2.2.2.2.2.2.2.2.2.2.2.1) (x.2.2.2.2.2.2.2.2.2.2.2.2.2.2.2.2.2.1) (x.2.2.2.2.2.2.2.2.2.2.2.2.2.2.2.2.2.2.1) (x.2.2.2.2.2.2.2.2.2.2.2.2.2.2.2.2.2.2.2.1) (x.2.2.2.2.2.2.2.2.2.2.2.2.2.2.2.2.2.2.2.2.1) (x.2.2.2.2.2.2.2.2.2.2.2.2.2.2.2.2.2.2.2.2.2.1) (x.2.2.2.2.2.2.2.2.2.2.2.2.2.2.2.2.2.2.2.2.2.2)
noncomputable def cc0 : (World) × (Addr) × (Value) × (Addr) × (Addr) × (List Value) × (List Int) × (Obj) × (Obj) × (Obj) × (Obj) × (Obj) × (Obj) × (Obj) × (Obj) × (Obj) × (ExcName → Option Value) × (Str → Option Value) × (Str → Option Value) × (Heap) × (Shared) × (Flow → Shared → Prop) × (Value → Shared → Prop) := eps1 (ne_prod ne_world (ne_prod ne_addr (ne_prod ne_value (ne_prod ne_addr (ne_prod ne_addr (ne_prod ne_list (ne_prod ne_list (ne_prod ne_obj (ne_prod ne_obj (ne_prod ne_obj (ne_prod ne_obj (ne_prod ne_obj (ne_prod ne_obj (ne_prod ne_obj (ne_prod ne_obj (ne_prod ne_obj (ne_prod ne_mean (ne_prod ne_par (ne_prod ne_par (ne_prod ne_heap (ne_prod ne_shared (ne_prod ne_q ne_e)))))))))))))))))))))) AtX
noncomputable def w : World := cc0.1
noncomputable def fa : Addr := cc0.2.1
noncomputable def cd : Value := cc0.2.2.1
noncomputable def L : Addr := cc0.2.2.2.1
noncomputable def S : Addr := cc0.2.2.2.2.1
noncomputable def vs : List Value := cc0.2.2.2.2.2.1
noncomputable def xs : List Int := cc0.2.2.2.2.2.2.1
noncomputable def o1 : Obj := cc0.2.2.2.2.2.2.2.1
noncomputable def o2 : Obj := cc0.2.2.2.2.2.2.2.2.1
noncomputable def o3 : Obj := cc0.2.2.2.2.2.2.2.2.2.1
noncomputable def o4 : Obj := cc0.2.2.2.2.2.2.2.2.2.2.1
noncomputable def o5 : Obj := cc0.2.2.2.2.2.2.2.2.2.2.2.1
noncomputable def o6 : Obj := cc0.2.2.2.2.2.2.2.2.2.2.2.2.1
noncomputable def o7 : Obj := cc0.2.2.2.2.2.2.2.2.2.2.2.2.2.1
noncomputable def o8 : Obj := cc0.2.2.2.2.2.2.2.2.2.2.2.2.2.2.1
noncomputable def o9 : Obj := cc0.2.2.2.2.2.2.2.2.2.2.2.2.2.2.2.1
noncomputable def mean : ExcName → Option Value := cc0.2.2.2.2.2.2.2.2.2.2.2.2.2.2.2.2.1
noncomputable def mg : Str → Option Value := cc0.2.2.2.2.2.2.2.2.2.2.2.2.2.2.2.2.2.1
noncomputable def mb : Str → Option Value := cc0.2.2.2.2.2.2.2.2.2.2.2.2.2.2.2.2.2.2.1
noncomputable def base : Heap := cc0.2.2.2.2.2.2.2.2.2.2.2.2.2.2.2.2.2.2.2.1
noncomputable def s : Shared := cc0.2.2.2.2.2.2.2.2.2.2.2.2.2.2.2.2.2.2.2.2.1
noncomputable def Q : Flow → Shared → Prop := cc0.2.2.2.2.2.2.2.2.2.2.2.2.2.2.2.2.2.2.2.2.2.1
noncomputable def E : Value → Shared → Prop := cc0.2.2.2.2.2.2.2.2.2.2.2.2.2.2.2.2.2.2.2.2.2.2
theorem aux (hi : IntsAre vs xs) (hl : xs.length ≤ 63) (hL : topA tabs3 ≤ L) (e1 : o1.data = .cell none) (e2 : o2.data = .cell none) (e3 : o3.data = .cell none) (e4 : o4.data = .cell none) (e5 : o5.data = .cell none) (e6 : o6.data = .cell none) (e7 : o7.data = .cell none) (e8 : o8.data = .cell none) (e9 : o9.data = .cell none) (B' : Below callerA base [] base) (F : Fr base L s.heap (fun y => if y = Str.ofString "script" then some (.ref S) else none)) (X : (hd02.heap_1 w.params).In base) (N : News base L s.heap (cells9 L o1 o2 o3 o4 o5 o6 o7 o8 o9 tabs3)) (T : Top topProg topL mean mg mb base) (C1 : CodeHd base 135 131) (C2 : CodeHd base 41 37) (C3 : CodeHd base 34 30) (hE : PassesOwn (model Challenge.rw_ty0035_02.row.prog w) (callerA.deeper (envL L fa cd)) (envL L fa cd) E) (hS : base.IsList S vs.toArray) (hret : ∀ h' tk' m' news', Fr base L h' m' → News base L h' news' → (∃ ps, (131, tabObj ps) ∈ news') → (∃ ps, (37, tabObj ps) ∈ news') → (∃ ps, (30, tabObj ps) ∈ news') → Q (.ret (.bool true)) { s with heap := h', toks := tk' }) :
  wpAny (model Challenge.rw_ty0035_02.row.prog w) (callerA.deeper (envL L fa cd)) (execs (fBody (fn 23)) (envL L fa cd)) Q E s := by
  have hL131 : @LT.lt Nat _ 131 L := hL
  rw [body23]
  refine stage0 w fa cd L S vs xs hi hl tabs3 o1 o2 o3 o4 o5 o6 o7 o8 o9 hL e1 e2 e3 mean mg mb base s _ Q E B' F X N T C1 C2 C3 hE hS ?_
  rintro h0 k0 m0 n0 F0 N0 ⟨rfl, u, v, t1, t2, t3, p1, p2, p3, hu, hv, huv, rfl, f1, f2, f3⟩
  refine stage1 w fa cd L xs.sum u v t1 t2 t3 _ tabs3 p1 p2 p3 o4 o5 o6 o7 o8 o9 hL f1 f2 f3 e4 mean mg mb base _ _ Q E B' F0 X N0 T C1 C2 C3 hE trivial ?_
  rintro h1 k1 m1 n1 F1 N1 ⟨W, D1, D2, vs1, vs2, j1, j2, p4, hW, hWm, hv1, hv2, hD1, hD2, hD12, f4, rfl, rfl⟩
  refine stage2 w fa cd L xs.sum t1 _ tabs3 p1 p2 p3 p4 o5 o6 o7 o8 o9 hL f1 (W ++ [u, v]) (by simp [hW]) D1 D2 vs1 vs2 j1 j2 hv2 f4 mean mg mb base _ _ Q E B' F1 X N1 T C1 C2 C3 hE trivial ?_
  rintro h2 k2 m2 n2 F2 N2 ⟨tt, rfl, rfl⟩
  have hN5 : ∀ c ∈ W ++ [u, v], c ∈ sevn := by
    intro c hc
    rcases List.mem_append.mp hc with hc | hc
    · rcases hWm c hc with rfl | rfl
      · exact hu
      · exact hv
    · simp only [List.mem_cons, List.not_mem_nil, or_false] at hc
      rcases hc with rfl | rfl
      · exact hu
      · exact hv
  generalize hcs : (spells xs.sum (W ++ [u, v])).flatten = cs at *
  have hcl : cs.length ≤ 25 := by
    have h3 := (spells_len (W ++ [u, v]) xs.sum).1
    rw [← flat_len, hcs, List.length_append, hW] at h3
    exact h3
  have hci : ∀ x ∈ cs, x < 0x110000 := by
    rw [← hcs]
    exact spells_in _ _ fun c hc => (sevn_le c (hN5 c hc)).2.2
  have hD1' : offC L ((131, tabObj #[]) :: tb0) D1 := ⟨hD1.1, hD1.2.1, hD1.2.2.1, hD1.2.2.2.1, hD1.2.2.2.2.1, hD1.2.2.2.2.2.1, hD1.2.2.2.2.2.2.1, hD1.2.2.2.2.2.2.2.1, hD1.2.2.2.2.2.2.2.2.1, hD1.2.2.2.2.2.2.2.2.2.1, hD1.2.2.2.2.2.2.2.2.2.2.2.1, hD1.2.2.2.2.2.2.2.2.2.2.1, trivial⟩
  have hD2' : offC L ((131, tabObj #[]) :: tb0) D2 := ⟨hD2.1, hD2.2.1, hD2.2.2.1, hD2.2.2.2.1, hD2.2.2.2.2.1, hD2.2.2.2.2.2.1, hD2.2.2.2.2.2.2.1, hD2.2.2.2.2.2.2.2.1, hD2.2.2.2.2.2.2.2.2.1, hD2.2.2.2.2.2.2.2.2.2.1, hD2.2.2.2.2.2.2.2.2.2.2.2.1, hD2.2.2.2.2.2.2.2.2.2.2.1, trivial⟩
  have N2' : News base L h2 (R3 L D1 D2 vs1 vs2 j1 j2 p1 p2 p3 p4 o5 o6 o7 o8 o9 ((131, tabObj #[]) :: tb0)) := news_perm N2 m_r3
  refine stage3 w fa cd L _ tb0 p1 p2 p3 p4 o5 o6 o7 o8 o9 (by have : topA tb0 = 38 := rfl; omega) hL131 (by intro p hp d hd; simp at hp hd; rcases hp with rfl | rfl <;> (subst hd; decide)) D1 D2 hD1' hD2' vs1 vs2 j1 j2 e5 cs tt rfl (by omega) mean mg mb base _ _ Q E B' F2 X N2' T C1 C2 C3 hE trivial ?_
  rintro h3 k3 m3 n3 F3 N3 ⟨rfl, P, tl, sg, ep, p5, tps, O, htop, hsg, f5, rfl⟩
  refine stage4 w fa cd L xs.sum (1 + cnt cs) _ ((131, tabObj tps) :: tb0) p1 p2 p3 p4 p5 o6 o7 o8 o9 D1 D2 vs1 vs2 j1 j2 P O f5 W (W ++ [u, v]) u v hW rfl (fun c hc => (sevn_le c (hN5 c hc)).1) hv1 htop rfl _ ⟨1, tl, 0, sg, ep, [], .inl rfl, rfl, by rw [hcs]; exact hsg, by rw [hcs]; rfl, by rw [hcs]; show cs.length ≤ 1000; omega, by rw [hcs]; exact hci⟩ mean mg mb base _ _ Q E B' F3 X N3 T C1 C2 C3 hE trivial ?_
  rintro h4 k4 m4 n4 F4 N4 ⟨rfl, hst4⟩
  obtain ⟨lx4, rfl, hlx4⟩ := st_is hst4
  refine stage5a w fa cd L _ P lx4 _ (is_any hlx4) mean mg mb base _ _ Q E B' F4 X N4 T C1 C2 C3 hE trivial ?_
  rintro h5 k5 m5 n5 F5 N5 ⟨D4, rfl, hD4, rfl⟩
  have hPB : @LT.lt Nat _ P.PB D4 := by
    obtain ⟨line, tl4, pb4, pe4, sg4, ep4, e⟩ := is_any hlx4
    rw [topA_app] at hD4
    have h6 : (P.PB, PySem.W.listOf pb4.toArray pe4) ∈ lx4 := by rw [e]; exact .head _
    exact Nat.lt_of_lt_of_le (top_mem h6) (by omega)
  refine stage5b w fa cd L (xs.sum + 3) (1 + cnt cs) _ ((131, tabObj tps) :: tb0) p1 p2 p3 p4 p5 o6 o7 o8 o9 D1 D2 D4 S (tx cs) tt vs1 vs2 j1 j2 P O f5 W u v huv hW hWm hv1 t2 t3 f2 f3 htop hPB ⟨rfl, rfl, rfl, rfl, trivial⟩ lx4 hlx4 mean mg mb base _ _ Q E B' F5 X N5 T C1 C2 C3 hE trivial ?_
  rintro h6 k6 m6 n6 F6 N6 ⟨hM6, lx6, rs, kk, TL, D3, ox, hps, hlx6, hTL, hD34, rfl⟩
  have hcPB : @LT.lt Nat _ P.cG P.PB := by
    obtain ⟨q1, q2, q3, n1, n2, n3, n4, n5, n6, n7, n8, n9⟩ := O
    omega
  have hbes := beside (l := (D4, PySem.W.listOf rs.toArray kk) :: (D3, ox) :: R3 L D1 D2 vs1 vs2 j1 j2 p1 p2 p3 p4 p5 o6 o7 o8 o9 (((131, tabObj tps) :: tb0) ++ TL)) O (fun p hp => by
    rcases List.mem_cons.mp hp with rfl | hp
    · exact .inl hPB
    rcases List.mem_cons.mp hp with rfl | hp
    · exact .inl (Nat.lt_trans hPB hD34)
    rcases r3_split p hp with hp | hp
    · exact .inr (Nat.lt_of_lt_of_le (top_mem hp) htop)
    · exact .inl (Nat.lt_trans hPB (hTL p hp)))
  refine stage6 w fa cd L (xs.sum + 3 + 2) (1 + cnt cs) _ (((131, tabObj tps) :: tb0) ++ TL) p1 p2 p3 p4 p5 o6 o7 o8 o9 D1 D2 D3 D4 S ox _ cs tt vs1 vs2 j1 j2 P O f5 hbes.1 hM6 (by omega) rfl lx6 hlx6 mean mg mb base _ _ Q E B' F6 X N6 T C1 C2 C3 hE trivial ?_
  rintro h7 k7 m7 n7 F7 N7 ⟨rfl, lx7, hlx7, rfl⟩
  have htop0 : topA (R3 L D1 D2 vs1 vs2 j1 j2 p1 p2 p3 p4 p5 o6 o7 o8 o9 []) ≤ P.cG := by
    simp only [topA_nil, topA_cons, Nat.max_le, Nat.zero_le, true_and, and_true] at htop ⊢
    omega
  have hLc : @LT.lt Nat _ (L + 9) P.cG := by
    simp only [topA_nil, topA_cons, Nat.max_le, Nat.zero_le, true_and, and_true] at htop0
    omega
  refine stage7 w fa cd L _ (((131, tabObj tps) :: tb0) ++ TL) p1 p2 p3 p4 p5 o6 o7 o8 o9 D1 D2 D3 D4 S ox _ (tx cs) tt vs1 vs2 j1 j2 P O e6 e7 e8 e9 vs xs hi hl hM6 htop0 hPB hD34 ⟨hD1.1, hD1.2.1, hD1.2.2.1, hD1.2.2.2.1, hD1.2.2.2.2.1, hD1.2.2.2.2.2.1, hD1.2.2.2.2.2.2.1, hD1.2.2.2.2.2.2.2.1, hD1.2.2.2.2.2.2.2.2.1, trivial⟩ ⟨hD2.1, hD2.2.1, hD2.2.2.1, hD2.2.2.2.1, hD2.2.2.2.2.1, hD2.2.2.2.2.2.1, hD2.2.2.2.2.2.2.1, hD2.2.2.2.2.2.2.2.1, hD2.2.2.2.2.2.2.2.2.1, trivial⟩ (by
      intro i hi9 p hp
      rcases List.mem_append.mp hp with hp | hp
      · have : p.1 ≤ 131 := by simp at hp; rcases hp with rfl | rfl | rfl <;> first | exact (by decide : (131 : Nat) ≤ 131) | exact (by decide : (30 : Nat) ≤ 131) | exact (by decide : (37 : Nat) ≤ 131)
        exact Nat.ne_of_lt (Nat.lt_of_le_of_lt this (by omega))
      · have := hTL p hp
        exact Nat.ne_of_gt (by omega)) lx7 hlx7 mean mg mb base _ _ Q E B' F7 X N7 T C1 C2 C3 hE hS ?_
  rintro h8 k8 m8 n8 F8 N8 ⟨rfl, c, d, e, f, tc, td, te, tf, p6, p7, p8, p9, hc, hd, he, hf, f6, f7, f8, f9, rfl⟩
  have N8' : News base L h8 (R4 L D1 D4 vs1 rs j1 kk p1 p2 p3 p4 p5 p6 p7 p8 p9 ((131, tabObj tps) :: tb0) TL) := news_perm N8 (fun p hp => by
    rcases List.mem_cons.mp hp with rfl | hp
    · exact List.mem_append_right _ (.head _)
    rcases List.mem_cons.mp hp with rfl | hp
    · exact List.mem_append_right _ (.tail _ (.tail _ (.tail _ (.head _))))
    · exact List.mem_append_right _ (.tail _ (.tail _ (.tail _ (.tail _ hp)))))
  have hp8 := pairs_len u W [u] [v] (by omega) (by rw [hW]; exact Nat.le_refl 2) (by rw [hW]; exact Nat.le_refl 1) (by rw [hW]; exact Nat.le_refl 1)
  have hpn : (pairsOf u W [u] [v]).length = 4 := by rw [pairs_num, hW]
  refine stage8 w fa cd L _ ((131, tabObj tps) :: tb0) TL p1 p2 p3 p4 p5 p6 p7 p8 p9 D1 D4 S (tx cs) tt vs1 rs j1 kk u v t2 t3 f2 f3 (pairsOf u W [u] [v]) hps (fun p hp => Nat.le_trans (hp8 p hp) (by decide)) hpn hM6 mean mg mb base _ _ Q E B' F8 X N8' T C1 C2 C3 hE trivial ?_
  rintro h9 k9 m9 n9 F9 N9 ⟨Dw, wsv, kw, hM9, hwsv, htopw, rfl⟩
  have hWs8 : ∀ p ∈ [u] :: [v] :: (pairsOf u W [u] [v]).map fun p => p.1 ++ p.2, p.length ≤ 8 := by
    intro p hp
    rcases List.mem_cons.mp hp with rfl | hp
    · exact (by decide : 1 ≤ 8)
    rcases List.mem_cons.mp hp with rfl | hp
    · exact (by decide : 1 ≤ 8)
    obtain ⟨q, hq, rfl⟩ := List.mem_map.mp hp
    rw [List.length_append]
    exact hp8 q hq
  generalize hWs : ([u] :: [v] :: (pairsOf u W [u] [v]).map fun p => p.1 ++ p.2) = Ws at *
  have hWn : Ws.length = 6 := by rw [← hWs]; simp [hpn]
  refine stage9 w fa cd L _ ((131, tabObj tps) :: tb0) TL p1 p2 p3 p4 p5 p6 p7 p8 p9 D1 D4 Dw S (tx cs) tt vs1 rs wsv j1 kk kw u v t2 t3 f2 f3 c d e f tc td te tf f6 f7 f8 f9 Ws hwsv (fun p hp => Nat.le_trans (hWs8 p hp) (by decide)) hWn hM9 mean mg mb base _ _ Q E B' F9 X N9 T C1 C2 C3 hE trivial ?_
  rintro h10 k10 m10 n10 F10 N10 ⟨Dr, ysr, nx, hM10, hrows, hDr, rfl⟩
  obtain ⟨nx', hR', hnx'⟩ := hrows.shrink
  have N10' : News base L h10 ((Dr, LCg.lst ysr) :: R4 L D1 D4 vs1 rs j1 kk p1 p2 p3 p4 p5 p6 p7 p8 p9 ((131, tabObj tps) :: tb0) (TL ++ nx')) := news_perm N10 (fun p hp => by
    rcases List.mem_cons.mp hp with rfl | hp
    · exact .head _
    rw [r4_app] at hp
    refine .tail _ ?_
    rw [r4_app]
    rcases List.mem_append.mp hp with hp | hp
    · exact List.mem_append_left _ hp
    · exact List.mem_append_right _ (hnx' p hp).1)
  have hrq : ∀ r ∈ Ws.map (rowOf u c d e f), r.length ≤ 16 ∧ ∀ q ∈ r, 1 ≤ q ∧ q ≤ 4096 := by
    intro r hr
    obtain ⟨wd, hwd, rfl⟩ := List.mem_map.mp hr
    have h8 := hWs8 wd hwd
    exact ⟨by rw [rowOf_len]; omega, rowOf_in u hc hd he hf wd⟩
  have hrl : (Ws.map (rowOf u c d e f)).length = 6 := by rw [List.length_map, hWn]
  refine stage10 w fa cd L _ ((131, tabObj tps) :: tb0) (TL ++ nx') p1 p2 p3 p4 p5 p6 p7 p8 p9 D1 D4 Dr S (tx cs) tt vs1 rs ysr j1 kk (Ws.map (rowOf u c d e f)) (hR'.mono fun p hp => List.mem_append_right _ hp) hrl (fun r hr => ⟨Nat.le_trans (hrq r hr).1 (by decide), fun q hq => by have := (hrq r hr).2 q hq; omega⟩) hM10 mean mg mb base _ _ Q E B' F10 X N10' T C1 C2 C3 hE trivial ?_
  rintro h11 k11 m11 n11 F11 N11 ⟨Dt, I, zs, hM11, hzs, hI, hDtI, rfl⟩
  have hrows2 : Ws.map (rowOf u c d e f) = [c, d] :: [e, f] :: (pairsOf u W [u] [v]).map (rowP u c d e f) := by
    rw [← hWs, List.map_cons, List.map_cons, row_u, row_v u v c d e f huv, List.map_map]
    rfl
  have hI5 : ∀ p ∈ R5 L D1 D4 Dr Dt vs1 rs ysr zs j1 kk p1 p2 p3 p4 p5 p6 p7 p8 p9 ((131, tabObj tps) :: tb0) (TL ++ nx'), p.1 ≠ I := fun p hp => by
    rcases List.mem_cons.mp hp with rfl | hp
    · exact hDtI
    · exact Nat.ne_of_lt (Nat.lt_of_lt_of_le (top_mem hp) hI)
  rw [hrows2] at hzs
  refine stage11 w fa cd L _ ((131, tabObj tps) :: tb0) (TL ++ nx') p1 p2 p3 p4 p5 p6 p7 p8 p9 D1 D4 Dr Dt I S (tx cs) tt vs1 rs ysr zs j1 kk c d e f tc td te tf f6 f7 f8 f9 hc hd he hf _ hzs hI5 hM11 mean mg mb base _ _ Q E B' F11 X N11 T C1 C2 C3 hE trivial ?_
  rintro h12 k12 m12 n12 F12 N12 ⟨a1, a2, a3, a4, io, hM12, hio, rfl⟩
  have N12' : News base L h12 ((I, io) :: R5 L D1 D4 Dr Dt vs1 rs ysr zs j1 kk p1 p2 p3 p4 p5 p6 p7 p8 p9 tb0 ((131, tabObj tps) :: (TL ++ nx'))) := news_perm N12 (fun p hp => by
    rcases List.mem_cons.mp hp with rfl | hp
    · exact .head _
    · exact .tail _ (m_r5 p hp))
  have hI6 : ∀ p ∈ R5 L D1 D4 Dr Dt vs1 rs ysr zs j1 kk p1 p2 p3 p4 p5 p6 p7 p8 p9 tb0 ((131, tabObj tps) :: (TL ++ nx')), p.1 ≠ I := fun p hp => hI5 p (m_r5 p hp)
  clear N12 hI5
  have hsub : ∀ p ∈ R5 L D1 D4 Dr Dt vs1 rs ysr zs j1 kk p1 p2 p3 p4 p5 p6 p7 p8 p9 [] ((131, tabObj tps) :: (TL ++ nx')), p ∈ R5 L D1 D4 Dr Dt vs1 rs ysr zs j1 kk p1 p2 p3 p4 p5 p6 p7 p8 p9 tb0 ((131, tabObj tps) :: (TL ++ nx')) := m_r5n
  have h30 : ∀ p ∈ R5 L D1 D4 Dr Dt vs1 rs ysr zs j1 kk p1 p2 p3 p4 p5 p6 p7 p8 p9 [] ((131, tabObj tps) :: (TL ++ nx')), p.1 ≠ 30 ∧ p.1 ≠ 37 := fun p hp => by
    have hm := hsub p hp
    have ha : (30, tabObj #[]) ∈ (I, io) :: R5 L D1 D4 Dr Dt vs1 rs ysr zs j1 kk p1 p2 p3 p4 p5 p6 p7 p8 p9 tb0 ((131, tabObj tps) :: (TL ++ nx')) := .tail _ (.tail _ (.tail _ (.tail _ (.tail _ (.tail _ (.tail _ (.tail _ (.tail _ (.tail _ (.tail _ (.tail _ (.tail _ (.tail _ (.head _))))))))))))))
    have hb : (37, tabObj #[]) ∈ (I, io) :: R5 L D1 D4 Dr Dt vs1 rs ysr zs j1 kk p1 p2 p3 p4 p5 p6 p7 p8 p9 tb0 ((131, tabObj tps) :: (TL ++ nx')) := .tail _ (.tail _ (.tail _ (.tail _ (.tail _ (.tail _ (.tail _ (.tail _ (.tail _ (.tail _ (.tail _ (.tail _ (.tail _ (.tail _ (.tail _ (.head _)))))))))))))))
    have lst2 : ∀ q : Addr × Obj, q ∈ R5 L D1 D4 Dr Dt vs1 rs ysr zs j1 kk p1 p2 p3 p4 p5 p6 p7 p8 p9 tb0 ((131, tabObj tps) :: (TL ++ nx')) → (∃ vs, q.2 = LCg.lst vs) → q.1 ≠ 30 ∧ q.1 ≠ 37 := fun q hq hv => by
      obtain ⟨vs, hv⟩ := hv
      exact ⟨tab_ne N12' ha (.tail _ hq) hv, tab_ne N12' hb (.tail _ hq) hv⟩
    have big : ∀ x : Nat, 38 ≤ x → (x : Addr) ≠ 30 ∧ (x : Addr) ≠ 37 := fun x hx => ⟨Nat.ne_of_gt (by omega), Nat.ne_of_gt (by omega)⟩
    rcases List.mem_cons.mp hp with rfl | hp
    · exact lst2 _ hm ⟨_, rfl⟩
    rcases List.mem_cons.mp hp with rfl | hp
    · exact lst2 _ hm ⟨_, rfl⟩
    rcases List.mem_cons.mp hp with rfl | hp
    · exact big _ (show @LE.le Nat _ 38 D4 by omega)
    rcases List.mem_cons.mp hp with rfl | hp
    · exact ⟨Ne.symm hD1.2.2.2.2.2.2.2.2.2.2.2.1, Ne.symm hD1.2.2.2.2.2.2.2.2.2.2.1⟩
    have hLi : ∀ i : Nat, @LE.le Nat _ 38 (L + i) := fun i => Nat.le_trans (Nat.le_trans (by decide : 38 ≤ 131) (Nat.le_of_lt hL131)) (Nat.le_add_right L i)
    rcases List.mem_cons.mp hp with rfl | hp
    · exact big _ (hLi 9)
    rcases List.mem_cons.mp hp with rfl | hp
    · exact big _ (hLi 8)
    rcases List.mem_cons.mp hp with rfl | hp
    · exact big _ (hLi 7)
    rcases List.mem_cons.mp hp with rfl | hp
    · exact big _ (hLi 6)
    rcases List.mem_cons.mp hp with rfl | hp
    · exact big _ (hLi 5)
    rcases List.mem_cons.mp hp with rfl | hp
    · exact big _ (hLi 4)
    rcases List.mem_cons.mp hp with rfl | hp
    · exact big _ (hLi 3)
    rcases List.mem_cons.mp hp with rfl | hp
    · exact big _ (hLi 2)
    rcases List.mem_cons.mp hp with rfl | hp
    · exact big _ (hLi 1)
    rw [List.nil_append] at hp
    rcases List.mem_cons.mp hp with rfl | hp
    · exact big 131 (by decide)
    rcases List.mem_append.mp hp with hp | hp
    · have := hTL p hp
      exact big _ (by omega)
    · exact lst2 _ hm (hnx' p hp).2
  have hLI : @LT.lt Nat _ (L + 9) I := Nat.lt_of_lt_of_le (top_mem (l := (Dr, LCg.lst ysr) :: R4 L D1 D4 vs1 rs j1 kk p1 p2 p3 p4 p5 p6 p7 p8 p9 ((131, tabObj tps) :: tb0) (TL ++ nx')) (p := (L + 1 + 1 + 1 + 1 + 1 + 1 + 1 + 1 + 1, p9)) (.tail _ (.tail _ (.tail _ (.head _))))) hI
  have hu46 := (sevn_le u hu).2.1
  have hv46 := (sevn_le v hv).2.1
  refine stage20 w fa cd L _ tb0 ((131, tabObj tps) :: (TL ++ nx')) p1 p2 p3 p4 p5 p6 p7 p8 p9 io D1 D4 Dr Dt I S (tx cs) tt vs1 rs ysr zs j1 kk u v t2 t3 f2 f3 c d e f hc hd he hf huv hu46 hv46 W hW hWm hv1 (hps.pv.mono fun p hp => .tail _ (List.mem_append_left _ hp)) hzs hio tb0_tabs (by intro p hp; simp at hp; rcases hp with rfl | rfl <;> decide) (by omega) h30 (fun p hp => hI6 p (hsub p hp)) (by omega) a1 a2 a3 a4 hM12 mean mg mb base _ _ Q E B' F12 X N12' T C1 C2 C3 hE trivial ?_
  rintro h13 k13 m13 n13 F13 N13 ⟨tb', io', D3', I0, ox', hM13, ht', hb', hio', hX, rfl⟩
  obtain ⟨q, hq⟩ : ∃ q, Ws.map (rowOf u c d e f) = (Ws.map (rowOf u c d e f)).dropLast ++ [q] := by
    have hne : Ws.map (rowOf u c d e f) ≠ [] := fun h => by rw [h] at hrl; cases hrl
    exact ⟨_, (List.dropLast_concat_getLast hne).symm⟩
  have hqm : q ∈ Ws.map (rowOf u c d e f) := by rw [hq]; exact List.mem_append_right _ (.head _)
  rw [hq] at hR'
  have hzl := hzs.length
  have off : ∀ a : Nat, a ≤ 37 → OwnOff (K20 L D1 D3' D4 Dr Dt vs1 rs ysr zs j1 kk ox' p1 p4 p5 p6 p7 p8 p9 ((131, tabObj tps) :: (TL ++ nx'))) [a] → OwnOff (KC L p2 p3 (K20 L D1 D3' D4 Dr Dt vs1 rs ysr zs j1 kk ox' p1 p4 p5 p6 p7 p8 p9 ((131, tabObj tps) :: (TL ++ nx')))) [a] := fun a ha h => ownOff_cons (fun d hd => by
      rw [List.mem_singleton.mp hd]
      exact Nat.ne_of_gt (Nat.lt_of_lt_of_le (by omega : a < L) (Nat.le_add_right L 2))) (ownOff_cons (fun d hd => by
      rw [List.mem_singleton.mp hd]
      exact Nat.ne_of_gt (Nat.lt_of_lt_of_le (by omega : a < L) (Nat.le_add_right L 3))) h)
  refine stage21 w fa cd L _ tb' _ p2 p3 io' Dr Dt I ysr zs (names5 D1 D4 S (tx cs) tt) _ q nx' hR' (fun p hp => .tail _ (.tail _ (.tail _ (.tail _ (.tail _ (.tail _ (.tail _ (.tail _ (.tail _ (.tail _ (.tail _ (.tail _ (.tail _ (List.mem_append_right _ hp)))))))))))))) (.tail _ (.tail _ (.head _))) (.tail _ (.head _)) (hrq q hqm).2 (Nat.le_trans (hrq q hqm).1 (by decide)) (by rw [hzl]; exact hio') ht' (off 30 (by decide) hX.k30) (off 37 (by decide) hX.k37) (fun p hp => ?_) hM13 mean mg mb base _ Q E B' F13 X N13 T C1 C2 C3 hE (fun h' tk' m' news' tb9 F' N' ht9 hs1 hs2 => hret h' tk' m' news' F' N' ⟨tps, hs2 _ (.tail _ (.tail _ (.tail _ (.tail _ (.tail _ (.tail _ (.tail _ (.tail _ (.tail _ (.tail _ (.tail _ (.tail _ (.head _)))))))))))))⟩ (tabs_37 ht9 hs1) (tabs_30 ht9 hs1))
  rcases List.mem_cons.mp hp with rfl | hp
  · exact hX.kI _ (.head _)
  rcases List.mem_cons.mp hp with rfl | hp
  · exact hX.kI _ (.tail _ (.head _))
  rcases List.mem_append.mp hp with hp | hp
  · have h1 := hX.i30
    have h2 := hX.iI
    rcases hb' p hp with h3 | h3
    · exact Nat.ne_of_lt (Nat.lt_of_le_of_lt h3 h1)
    · exact Nat.ne_of_gt (Nat.lt_of_lt_of_le h2 (Nat.le_trans (Nat.le_add_right I0 5) h3))
  · exact hX.kI p (.tail _ (.tail _ hp))
end Vlaw_body
theorem law_body (w : World) (fa : Addr) (cd : Value) (L S : Addr) (vs : List Value) (xs : List Int) (hi : IntsAre vs xs) (hl : xs.length ≤ 63) (hL : topA tabs3 ≤ L) (o1 o2 o3 o4 o5 o6 o7 o8 o9 : Obj)
   (e1 : o1.data = .cell none) (e2 : o2.data = .cell none) (e3 : o3.data = .cell none) (e4 : o4.data = .cell none) (e5 : o5.data = .cell none) (e6 : o6.data = .cell none) (e7 : o7.data = .cell none) (e8 : o8.data = .cell none) (e9 : o9.data = .cell none)
   (mean : ExcName → Option Value) (mg mb : Str → Option Value) (base : Heap) (s : Shared) (Q : Flow → Shared → Prop) (E : Value → Shared → Prop)
   (B' : Below callerA base [] base) (F : Fr base L s.heap (fun y => if y = Str.ofString "script" then some (.ref S) else none)) (X : (hd02.heap_1 w.params).In base) (N : News base L s.heap (cells9 L o1 o2 o3 o4 o5 o6 o7 o8 o9 tabs3)) (T : Top topProg topL mean mg mb base) (C1 : CodeHd base 135 131) (C2 : CodeHd base 41 37) (C3 : CodeHd base 34 30)
   (hE : PassesOwn (model Challenge.rw_ty0035_02.row.prog w) (callerA.deeper (envL L fa cd)) (envL L fa cd) E) (hS : base.IsList S vs.toArray)
   (hret : ∀ h' tk' m' news', Fr base L h' m' → News base L h' news' → (∃ ps, (131, tabObj ps) ∈ news') → (∃ ps, (37, tabObj ps) ∈ news') → (∃ ps, (30, tabObj ps) ∈ news') → Q (.ret (.bool true)) { s with heap := h', toks := tk' }) :
  wpAny (model Challenge.rw_ty0035_02.row.prog w) (callerA.deeper (envL L fa cd)) (execs (fBody (fn 23)) (envL L fa cd)) Q E s := (show Vlaw_body.At0 w fa cd L S vs xs o1 o2 o3 o4 o5 o6 o7 o8 o9 mean mg mb base s Q E from eps1_all (P := Vlaw_body.AtX) @Vlaw_body.aux (w, fa, cd, L, S, vs, xs, o1, o2, o3, o4, o5, o6, o7, o8, o9, mean, mg, mb, base, s, Q, E)) hi hl hL e1 e2 e3 e4 e5 e6 e7 e8 e9 B' F X N T C1 C2 C3 hE hS hret
end
end
end
section
inductive Nine (cm : Str → Option Value) (n₁ n₂ n₃ n₄ n₅ n₆ n₇ n₈ n₉ : Str) (c₁ c₂ c₃ c₄ c₅ c₆ c₇ c₈ c₉ : Addr) (cells : List (Addr × Obj)) : Prop
  | mk (o₁ o₂ o₃ o₄ o₅ o₆ o₇ o₈ o₉ : Obj) (zh0 : cells = [(c₁, o₁), (c₂, o₂), (c₃, o₃), (c₄, o₄), (c₅, o₅), (c₆, o₆), (c₇, o₇), (c₈, o₈), (c₉, o₉)]) (zh1 : o₁.data = .cell (cm n₁)) (zh2 : o₂.data = .cell (cm n₂)) (zh3 : o₃.data = .cell (cm n₃)) (zh4 : o₄.data = .cell (cm n₄)) (zh5 : o₅.data = .cell (cm n₅)) (zh6 : o₆.data = .cell (cm n₆)) (zh7 : o₇.data = .cell (cm n₇)) (zh8 : o₈.data = .cell (cm n₈)) (zh9 : o₉.data = .cell (cm n₉))
theorem kc_nine {cm : Str → Option Value} {n₁ n₂ n₃ n₄ n₅ n₆ n₇ n₈ n₉ : Str} {c₁ c₂ c₃ c₄ c₅ c₆ c₇ c₈ c₉ : Addr} {cells : List (Addr × Obj)} (x : CellsAre cm [(n₁, c₁), (n₂, c₂), (n₃, c₃), (n₄, c₄), (n₅, c₅), (n₆, c₆), (n₇, c₇), (n₈, c₈), (n₉, c₉)] cells) :
    Nine cm n₁ n₂ n₃ n₄ n₅ n₆ n₇ n₈ n₉ c₁ c₂ c₃ c₄ c₅ c₆ c₇ c₈ c₉ cells := by
  cases x with | cons h r => obtain ⟨o₂, o₃, o₄, o₅, o₆, o₇, o₈, o₉, rfl, h₂, h₃, h₄, h₅, h₆, h₇, h₈, h₉⟩ := kc_eight r; exact ⟨_, o₂, o₃, o₄, o₅, o₆, o₇, o₈, o₉, rfl, h, h₂, h₃, h₄, h₅, h₆, h₇, h₈, h₉⟩
theorem t02 : PySem.Challenge.rw_ty0035_02.Holds := hd02 (by
  k_fill
  intro w s₀ s₁ mg mb G Y fa o pm cd doc dV kV ho hd hcd hD hmg hg args vals as hpre hlay hrd hwl hlo
  have KX := km_in_of Y
  km_tabs Y
  have X := (Ground.X G).1
  have V := (Ground.X G).2
  refine Ground.open G ?_
  intro T B D TE TW
  try (refine guard_noD D (by decide +kernel) ?_; clear D)
  km_lay T hmg ho hd cd
  clear hmg
  wrow_args hpre hlay hrd hwl hlo
  first | refine callC_kw (enter_call ?_) | refine enter_call ?_
  w_top on
  kn_posts
  have he := Dflts.none hD rfl
  subst he
  have he := Dflts.noKw hD
  subst he
  refine call_cellsN (by decide) ho (fd_plain hd) (Top.nolimit T) hcd rfl (kinds_of (by kinds_ok)) (by decide) fun h₁ tk₁ cells F N0 X0 => ?_
  obtain ⟨o1, o2, o3, o4, o5, o6, o7, o8, o9, he, d1, d2, d3, d4, d5, d6, d7, d8, d9⟩ := kc_nine X0
  subst he
  clear hd
  kn_ghosts F T
  k_drop
  rename (¬ (63 : Int) < _) => hc63
  rename Below _ _ _ _ => BB
  rename Fr _ _ _ _ => FF
  rename News _ _ _ _ => NN
  rename Heap.IsList _ _ _ => LL
  rename IntsAre _ _ => II
  rename (131 < _ ∧ _) => l0
  rename Frag.In _ _ => XX
  have TT := ghost_top hT9 T
  have CC := ghost_code hT9
  with_unfolding_all refine law_body w fa cd s₁.heap.objs.size _ _ _ II ?hl ?hL o9 o8 o7 o6 o5 o4 o3 o2 o1 d9 d8 d7 d6 d5 d4 d3 d2 d1 _ mg mb _ _ _ _ BB FF XX NN TT CC.1 CC.2.1 CC.2.2.1 ?hE LL ?hret
  case hl => omega
  case hL => exact l0.1
  case hE => passes_own
  case hret =>
    intro h' tk' m' news' F9 N9 h131 h37 h30
    refine ⟨?gg, ?gr⟩
    case gg => wrow_close
    case gr =>
      exact ⟨h131.elim fun ps hm => GrownAt.of N9 hm, h37.elim fun ps hm => GrownAt.of N9 hm, h30.elim fun ps hm => GrownAt.of N9 hm, trivial⟩)
end
end Mine
theorem PySem.Challenge.cw_ty0035_02_holds : PySem.Challenge.rw_ty0035_02.Holds := by
  exact Mine.t02
