import PyProof.Rows.All
import Wide.All
import OpenK.AllK
import KE.BitLaws
import PyProof.NoPylong
import KE.KRevIter
import OpenK.KUnr
import PyProof.ListStr
import KE.KListMore
import KE.KEqSeq
import KE.KLam
import KE.KPopAny
import KE.KOwnIter
import KE.KDictIter
import KE.LcTurns
import PyProof.WalksMore
import PyProof.StrWalks
import PyProof.CompMap
import PyProof.CollectIter
import PyProof.StrLawsTight
import Wide.FinOn
import Lean
import PySem.Challenge.RW_ty0035_01
open PySem PySem.W PyProof.Rows PySem.Spec PySem.Calls
set_option Elab.async false
set_option linter.unusedSimpArgs false
set_option linter.unusedVariables false
set_option linter.unusedSectionVars false
set_option maxRecDepth 100000
set_option maxHeartbeats 16000000
set_option compiler.extract_closed false
namespace Mine
section
noncomputable def keepAt (b : List Stmt) (l : List Nat) : List Stmt := l.map fun i => b.getD i (.Pass ⟨0, 0, 0, 0⟩)
noncomputable def view : Program := { Challenge.pw_ty0035_01 with main := { Challenge.pw_ty0035_01.main with body := keepAt Challenge.pw_ty0035_01.main.body [1, 2, 4, 5, 6, 7, 8, 9, 10, 12, 14, 16, 17, 18, 19, 20, 21, 22, 23, 24] } }
-- the head in one piece, shown by the kernel at once: the compiled file stays small
local macro_rules | `(tactic| o_law) => `(tactic| (refine holds_law (by decide +kernel) fun _ => ?_))
local macro_rules | `(tactic| o_head $H) => `(tactic| (
  refine holds_open (q := Mine.view) (loose := []) (Xt := fun s => xlAt Mine.view [] s && recOk (RowW.records (OpenRow.toRowW (OpenLaw.row Challenge.rw_ty0035_01))) s) (XP := XL Mine.view []) (Yf := Hook.obs $H) (Ya := Hook.val $H) (YP := Hook.says $H) (N := 2200) ?hl (Hook.of $H) (Hook.keeps $H) (fun s e => xl_of s (Bool.and_eq_true_iff.mp e).1) XL.keeps (by rfl) (by rfl) (by rfl) (fun s e => recFacts_of (Bool.and_eq_true_iff.mp e).2) (by rfl) (by first | assumption | decide +kernel) (by decide +kernel) ⟨rfl, rfl, rfl, rfl, rfl, by decide +kernel⟩ ?hw ?hc
  case hl => exact fun w => by kernel_rfl))
open_top hd01 for PySem.Challenge.rw_ty0035_01
end
theorem z_ne1 {a b : Nat} (h : a + 1 ≤ b) : a ≠ b := Nat.ne_of_lt h
theorem z_ne2 {a b : Nat} (h : b + 1 ≤ a) : a ≠ b := Nat.ne_of_gt h
theorem zp1 {A1 A2 : Prop} (h : A1 ∧ A2) : A1 := h.1
theorem ze1 {A1 A2 : Prop} (h : A1 ∧ A2) : A2 := h.2
theorem zp2 {A1 A2 A3 : Prop} (h : A1 ∧ A2 ∧ A3) : A2 := h.2.1
theorem ze2 {A1 A2 A3 : Prop} (h : A1 ∧ A2 ∧ A3) : A3 := h.2.2
theorem zp3 {A1 A2 A3 A4 : Prop} (h : A1 ∧ A2 ∧ A3 ∧ A4) : A3 := h.2.2.1
theorem ze3 {A1 A2 A3 A4 : Prop} (h : A1 ∧ A2 ∧ A3 ∧ A4) : A4 := h.2.2.2
theorem zp4 {A1 A2 A3 A4 A5 : Prop} (h : A1 ∧ A2 ∧ A3 ∧ A4 ∧ A5) : A4 := h.2.2.2.1
theorem ze4 {A1 A2 A3 A4 A5 : Prop} (h : A1 ∧ A2 ∧ A3 ∧ A4 ∧ A5) : A5 := h.2.2.2.2
theorem zp5 {A1 A2 A3 A4 A5 A6 : Prop} (h : A1 ∧ A2 ∧ A3 ∧ A4 ∧ A5 ∧ A6) : A5 := h.2.2.2.2.1
theorem ze5 {A1 A2 A3 A4 A5 A6 : Prop} (h : A1 ∧ A2 ∧ A3 ∧ A4 ∧ A5 ∧ A6) : A6 := h.2.2.2.2.2
theorem zp6 {A1 A2 A3 A4 A5 A6 A7 : Prop} (h : A1 ∧ A2 ∧ A3 ∧ A4 ∧ A5 ∧ A6 ∧ A7) : A6 := h.2.2.2.2.2.1
theorem ze6 {A1 A2 A3 A4 A5 A6 A7 : Prop} (h : A1 ∧ A2 ∧ A3 ∧ A4 ∧ A5 ∧ A6 ∧ A7) : A7 := h.2.2.2.2.2.2
theorem zp7 {A1 A2 A3 A4 A5 A6 A7 A8 : Prop} (h : A1 ∧ A2 ∧ A3 ∧ A4 ∧ A5 ∧ A6 ∧ A7 ∧ A8) : A7 := h.2.2.2.2.2.2.1
theorem ze7 {A1 A2 A3 A4 A5 A6 A7 A8 : Prop} (h : A1 ∧ A2 ∧ A3 ∧ A4 ∧ A5 ∧ A6 ∧ A7 ∧ A8) : A8 := h.2.2.2.2.2.2.2
theorem zp8 {A1 A2 A3 A4 A5 A6 A7 A8 A9 : Prop} (h : A1 ∧ A2 ∧ A3 ∧ A4 ∧ A5 ∧ A6 ∧ A7 ∧ A8 ∧ A9) : A8 := h.2.2.2.2.2.2.2.1
theorem ze8 {A1 A2 A3 A4 A5 A6 A7 A8 A9 : Prop} (h : A1 ∧ A2 ∧ A3 ∧ A4 ∧ A5 ∧ A6 ∧ A7 ∧ A8 ∧ A9) : A9 := h.2.2.2.2.2.2.2.2
theorem zp9 {A1 A2 A3 A4 A5 A6 A7 A8 A9 A10 : Prop} (h : A1 ∧ A2 ∧ A3 ∧ A4 ∧ A5 ∧ A6 ∧ A7 ∧ A8 ∧ A9 ∧ A10) : A9 := h.2.2.2.2.2.2.2.2.1
theorem ze9 {A1 A2 A3 A4 A5 A6 A7 A8 A9 A10 : Prop} (h : A1 ∧ A2 ∧ A3 ∧ A4 ∧ A5 ∧ A6 ∧ A7 ∧ A8 ∧ A9 ∧ A10) : A10 := h.2.2.2.2.2.2.2.2.2
theorem zp10 {A1 A2 A3 A4 A5 A6 A7 A8 A9 A10 A11 : Prop} (h : A1 ∧ A2 ∧ A3 ∧ A4 ∧ A5 ∧ A6 ∧ A7 ∧ A8 ∧ A9 ∧ A10 ∧ A11) : A10 := h.2.2.2.2.2.2.2.2.2.1
theorem ze10 {A1 A2 A3 A4 A5 A6 A7 A8 A9 A10 A11 : Prop} (h : A1 ∧ A2 ∧ A3 ∧ A4 ∧ A5 ∧ A6 ∧ A7 ∧ A8 ∧ A9 ∧ A10 ∧ A11) : A11 := h.2.2.2.2.2.2.2.2.2.2
theorem zp11 {A1 A2 A3 A4 A5 A6 A7 A8 A9 A10 A11 A12 : Prop} (h : A1 ∧ A2 ∧ A3 ∧ A4 ∧ A5 ∧ A6 ∧ A7 ∧ A8 ∧ A9 ∧ A10 ∧ A11 ∧ A12) : A11 := h.2.2.2.2.2.2.2.2.2.2.1
theorem ze11 {A1 A2 A3 A4 A5 A6 A7 A8 A9 A10 A11 A12 : Prop} (h : A1 ∧ A2 ∧ A3 ∧ A4 ∧ A5 ∧ A6 ∧ A7 ∧ A8 ∧ A9 ∧ A10 ∧ A11 ∧ A12) : A12 := h.2.2.2.2.2.2.2.2.2.2.2
theorem zp12 {A1 A2 A3 A4 A5 A6 A7 A8 A9 A10 A11 A12 A13 : Prop} (h : A1 ∧ A2 ∧ A3 ∧ A4 ∧ A5 ∧ A6 ∧ A7 ∧ A8 ∧ A9 ∧ A10 ∧ A11 ∧ A12 ∧ A13) : A12 := h.2.2.2.2.2.2.2.2.2.2.2.1
theorem ze12 {A1 A2 A3 A4 A5 A6 A7 A8 A9 A10 A11 A12 A13 : Prop} (h : A1 ∧ A2 ∧ A3 ∧ A4 ∧ A5 ∧ A6 ∧ A7 ∧ A8 ∧ A9 ∧ A10 ∧ A11 ∧ A12 ∧ A13) : A13 := h.2.2.2.2.2.2.2.2.2.2.2.2
local macro_rules | `(tactic| omega) => `(tactic| first | with_reducible assumption | with_reducible exact Ne.symm (by assumption) | with_reducible exact Nat.le_refl _ | (with_reducible refine And.intro ?_ ?_ <;> omega) | (with_reducible refine Nat.max_le.mpr (And.intro ?_ ?_) <;> omega) | with_reducible exact zp1 (by assumption) | with_reducible exact zp2 (by assumption) | with_reducible exact zp3 (by assumption) | with_reducible exact zp4 (by assumption) | with_reducible exact zp5 (by assumption) | with_reducible exact zp6 (by assumption) | with_reducible exact zp7 (by assumption) | with_reducible exact zp8 (by assumption) | with_reducible exact zp9 (by assumption) | with_reducible exact zp10 (by assumption) | with_reducible exact zp11 (by assumption) | with_reducible exact zp12 (by assumption) | with_reducible exact ze1 (by assumption) | with_reducible exact ze2 (by assumption) | with_reducible exact ze3 (by assumption) | with_reducible exact ze4 (by assumption) | with_reducible exact ze5 (by assumption) | with_reducible exact ze6 (by assumption) | with_reducible exact ze7 (by assumption) | with_reducible exact ze8 (by assumption) | with_reducible exact ze9 (by assumption) | with_reducible exact ze10 (by assumption) | with_reducible exact ze11 (by assumption) | with_reducible exact ze12 (by assumption) | with_reducible exact z_ne1 (by assumption) | with_reducible exact z_ne2 (by assumption) | lia)
section
noncomputable abbrev topL : List Str := looseW view [] ++ (recsOf view).map (·.name) ++ (litsOf view).map (·.1) ++ (clssOf view (looseW view [])).map (·.name)
theorem if_ff {p q : Prop} (h : q) : if (false = true) then p else q := by rw [if_neg (by decide)]; exact h
theorem if_tt {p q : Prop} (h : p) : if (true = true) then p else q := by rw [if_pos rfl]; exact h
noncomputable abbrev Led := List (Addr × Obj)
noncomputable def topA : Led → Nat
  | [] => 0
  | p :: r => max (p.1 + 1) (topA r)
theorem topA_nil : topA [] = 0 := rfl
theorem topA_cons (p : Addr × Obj) (r : Led) : topA (p :: r) = max (p.1 + 1) (topA r) := rfl
theorem topA_app (a b : Led) : topA (a ++ b) = max (topA a) (topA b) := by
  induction a with
  | nil => rw [List.nil_append, topA_nil, Nat.zero_max]
  | cons p r ih => rw [List.cons_append, topA_cons, topA_cons, ih, Nat.max_assoc]
theorem topA_of {d : Nat} {r : Led} (h : ∀ p ∈ r, p.1 < d) : topA r ≤ d := by
  induction r with
  | nil => exact Nat.zero_le _
  | cons p r ih =>
    have h1 : @LT.lt Nat _ p.1 d := h p (.head _)
    have h2 := ih fun q hq => h q (.tail _ hq)
    rw [topA_cons]
    omega
theorem topA_lt {d : Nat} {r : Led} (h : topA r ≤ d) : ∀ p ∈ r, p.1 < d := by
  induction r with
  | nil => intro p hp; cases hp
  | cons p r ih =>
    rw [topA_cons] at h
    intro q hq
    rcases List.mem_cons.mp hq with e | hq
    · subst e; show @LT.lt Nat _ q.1 d; omega
    · exact ih (by omega) q hq
theorem topA_ne {d : Nat} {r : Led} (h : topA r ≤ d) : ∀ p ∈ r, p.1 ≠ d := fun p hp => Nat.ne_of_lt (topA_lt h p hp)
theorem zl_ap {A P : Prop} (h : A) (f : A → P) : P := f h
theorem zl_end {r : Led} {d : Nat} (h : topA r ≤ d) : topA r ≤ d := h
theorem zl_last {a : Addr} {o : Obj} {d : Nat} (h : topA [(a, o)] ≤ d) : a + 1 ≤ d := (Nat.max_le.mp h).1
theorem zl_cons {a : Addr} {o : Obj} {r : Led} {d : Nat} {P : Prop} (f : topA r ≤ d → P) (h : topA ((a, o) :: r) ≤ d) : a + 1 ≤ d ∧ P := ⟨(Nat.max_le.mp h).1, f (Nat.max_le.mp h).2⟩
theorem zl_app {x y : Led} {d : Nat} {P S : Prop} (f : topA x ≤ d → P) (g : topA y ≤ d → S) (h : topA (x ++ y) ≤ d) : P ∧ S := by
  rw [topA_app] at h
  exact ⟨f (Nat.max_le.mp h).1, g (Nat.max_le.mp h).2⟩
theorem zr_nil {d : Nat} : topA [] ≤ d := Nat.zero_le d
theorem zr_cons {a : Addr} {o : Obj} {r : Led} {d : Nat} (h : a + 1 ≤ d) (k : topA r ≤ d) : topA ((a, o) :: r) ≤ d := Nat.max_le.mpr ⟨h, k⟩
theorem zr_app {x y : Led} {d : Nat} (h : topA x ≤ d) (k : topA y ≤ d) : topA (x ++ y) ≤ d := by
  rw [topA_app]
  exact Nat.max_le.mpr ⟨h, k⟩
noncomputable abbrev listO (vs : List Value) (n : Nat) : Obj := { cls := .type "list", data := .seq vs.toArray n }
noncomputable abbrev tupO (vs : List Value) : Obj := { cls := .type "tuple", data := .seq vs.toArray }

noncomputable def Tel (w : World) (d u : Nat) (f : Value) (args : List Value) (news : Led) (R : Value → Led → Prop) : Prop :=
  ∀ (mean : ExcName → Option Value) (mg mb : Str → Option Value) (dp un : Nat) (gd : Option (List Code)) (cn : Str) (cs : Scope) (a : Addr) (ccd : Value) (cl : List (Str × Addr)) (outer : List Env) (A₀ : Around) (base h₀ : Heap) (L : Addr) (m : Str → Option Value) (s : Shared) (Q E : Value → Shared → Prop),
    Below A₀ base outer h₀ → Fr h₀ L s.heap m → (hd01.heap_1 w.params).In h₀ → News h₀ L s.heap news → Top topProg topL mean mg mb h₀ → CodeHd base 135 131 → CodeHd base 48 44 → CodeHd base 41 37 → cs.kind = .function → dp + d < recursionLimit → un + u < cLine →
    (∀ v h' tk' news', Fr h₀ L h' m → News h₀ L h' news' → R v news' → Q v { s with heap := h', toks := tk' }) →
    wpAny (model Challenge.rw_ty0035_01.row.prog w) (ktrTop dp un gd cn cs L a ccd cl outer) (call f args) Q E s

noncomputable def Pg : Program := Challenge.pw_ty0035_01
noncomputable def stmtAt (b : List Stmt) (i : Nat) : Stmt := b.getD i (.Pass ⟨0, 0, 0, 0⟩)
noncomputable def fBody : Stmt → List Stmt
  | .FunctionDef _ _ b .. => b
  | _ => []
noncomputable def fArgs : Stmt → Arguments
  | .FunctionDef _ a .. => a
  | _ => default
noncomputable def fScope : Stmt → Scope
  | .FunctionDef _ _ _ _ _ _ s .. => s
  | _ => default
noncomputable def fn (i : Nat) : Stmt := stmtAt Pg.main.body i
noncomputable def fnIn (i j : Nat) : Stmt := stmtAt (fBody (fn i)) j

section
variable {w : World} {d u : Nat} {f : Value} {args : List Value} {news : Led} {R : Value → Led → Prop}
theorem tel_use (H : Tel w d u f args news R) {mean : ExcName → Option Value} {mg mb : Str → Option Value} {dp un : Nat} {gd : Option (List Code)} {cn : Str} {cs : Scope} {a : Addr} {ccd : Value} {cl : List (Str × Addr)} {outer : List Env} {A₀ : Around} {base h₀ : Heap} {L : Addr} {m : Str → Option Value} {s : Shared} {Q E : Value → Shared → Prop}
    (B : Below A₀ base outer h₀) (F : Fr h₀ L s.heap m) (X : (hd01.heap_1 w.params).In h₀) (N : News h₀ L s.heap news) (T : Top topProg topL mean mg mb h₀) (C1 : CodeHd base 135 131) (C2 : CodeHd base 48 44) (C3 : CodeHd base 41 37)
    (hk : cs.kind = .function) (hd : dp + d < recursionLimit) (hu : un + u < cLine)
    (ret : ∀ v h' tk' news', Fr h₀ L h' m → News h₀ L h' news' → R v news' → Q v { s with heap := h', toks := tk' }) :
    wpAny (model Challenge.rw_ty0035_01.row.prog w) (ktrTop dp un gd cn cs L a ccd cl outer) (call f args) Q E s :=
  H mean mg mb dp un gd cn cs a ccd cl outer A₀ base h₀ L m s Q E B F X N T C1 C2 C3 hk hd hu ret
end

noncomputable def digs (n : Nat) : Nat → Int → List Int
  | 0, _ => []
  | k + 1, x => x % 2 ^ n :: digs n k (x / 2 ^ n)
theorem digs_length (n : Nat) : ∀ (k : Nat) (x : Int), (digs n k x).length = k
  | 0, _ => rfl
  | k + 1, x => by rw [digs, List.length_cons, digs_length n k]
theorem mid_is (lo hi k : Nat) (h : hi = lo + k) : ((lo : Int) + (hi : Int)).fdiv (2 ^ Int.toNat 1) = ((lo + k / 2 : Nat) : Int) := by
  subst h
  rw [Int.fdiv_eq_ediv_of_nonneg _ (by decide)]
  have : (2 : Int) ^ Int.toNat 1 = 2 := by decide
  rw [this]
  push_cast
  omega
theorem shift_is (lo j n : Nat) : (((lo + j : Nat) : Int) - (lo : Int)) * (n : Int) = ((n * j : Nat) : Int) := by
  push_cast
  rw [Int.mul_comm]
  congr 1
  omega
theorem xor_low (x : Int) (s : Nat) (h : 0 ≤ x) : Builtin.bitXor x (x.fdiv (2 ^ s) * 2 ^ s) = x % 2 ^ s := by
  obtain ⟨n, rfl⟩ := Int.eq_ofNat_of_zero_le h
  rw [Int.fdiv_eq_ediv_of_nonneg _ (by exact Int.le_of_lt (Int.pow_pos (by decide)))]
  have e1 : ((n : Int) / 2 ^ s * 2 ^ s) = ((n / 2 ^ s * 2 ^ s : Nat) : Int) := by push_cast; rfl
  have e2 : (n : Int) % 2 ^ s = ((n % 2 ^ s : Nat) : Int) := by push_cast; rfl
  have e3 : Builtin.bitAnd (n : Int) ((n / 2 ^ s * 2 ^ s : Nat) : Int) = ((n &&& (n / 2 ^ s * 2 ^ s) : Nat) : Int) := rfl
  have e4 : n &&& (n / 2 ^ s * 2 ^ s) = n / 2 ^ s * 2 ^ s := by
    apply Nat.eq_of_testBit_eq
    intro i
    rw [Nat.testBit_and, Nat.mul_comm, Nat.testBit_two_pow_mul, Nat.testBit_div_two_pow]
    by_cases hi : s ≤ i
    · simp [hi]
    · simp [hi]
  rw [e1, e2, bitXor_and, e3, e4]
  have := Nat.div_add_mod n (2 ^ s)
  rw [Nat.mul_comm] at this
  omega
theorem digs_split (n : Nat) : ∀ (i j : Nat) (x : Int), 0 ≤ x → digs n (i + j) x = digs n i (x % 2 ^ (n * i)) ++ digs n j (x / 2 ^ (n * i))
  | 0, j, x, h => by simp [digs]
  | i + 1, j, x, h => by
    have hp : ∀ m : Nat, (0 : Int) < 2 ^ m := fun m => Int.pow_pos (by decide)
    have e : i + 1 + j = (i + j) + 1 := by omega
    have em : n * (i + 1) = n + n * i := by rw [Nat.mul_succ]; omega
    rw [e, digs, digs, digs_split n i j _ (Int.ediv_nonneg h (Int.le_of_lt (hp n)))]
    rw [List.cons_append, em, Int.pow_add]
    congr 1
    · rw [Int.emod_emod_of_dvd]
      exact Int.dvd_mul_right _ _
    · congr 1
      · congr 1
        rw [Int.emod_def x (2 ^ n * 2 ^ (n * i)), Int.emod_def (x / 2 ^ n) (2 ^ (n * i)), Int.ediv_ediv_of_nonneg (Int.le_of_lt (hp n))]
        have : x - 2 ^ n * 2 ^ (n * i) * (x / (2 ^ n * 2 ^ (n * i))) = x + 2 ^ n * (-(2 ^ (n * i) * (x / (2 ^ n * 2 ^ (n * i))))) := by
          rw [Int.mul_neg, Int.mul_assoc]; rfl
        rw [this, Int.add_mul_ediv_left _ _ (Int.ne_of_gt (hp n))]
        rfl
      · congr 1
        rw [Int.ediv_ediv_of_nonneg (Int.le_of_lt (hp n))]

noncomputable def TabL (P : Addr) (line col : Int) (qual : Str) (tl : Led) : Prop :=
  tl = [(P, tabObj #[])] ∨ ∃ c' oc vs t, tl = [(c', oc), (P, tabObj #[rawInt line, rawInt col, .ref c'])] ∧ oc.data = .fields vs ∧ vs[1]? = some (.str qual t) ∧ P < c'
noncomputable def Newer (tb tb' : Led) (t : Nat) : Prop := ∀ p ∈ tb', p.1 ∈ tb.map (·.1) ∨ t ≤ p.1
theorem Newer.rfl (tb : Led) (t : Nat) : Newer tb tb t := fun p hp => .inl (List.mem_map.mpr ⟨p, hp, Eq.refl _⟩)
theorem Newer.trans {a b c : Led} {t u : Nat} (h : Newer a b t) (k : Newer b c u) (e : t ≤ u) : Newer a c t := fun p hp => by
  rcases k p hp with h1 | h1
  · obtain ⟨q, hq, e1⟩ := List.mem_map.mp h1
    rw [← e1]
    exact h q hq
  · exact .inr (Nat.le_trans e h1)
theorem Newer.off {tb tb' : Led} {t : Nat} (h : Newer tb tb' t) {d : Addr} (h1 : ∀ p ∈ tb, p.1 ≠ d) (h2 : @LT.lt Nat _ d t) : ∀ p ∈ tb', p.1 ≠ d := fun p hp e => by
  rcases h p hp with h3 | h3
  · obtain ⟨q, hq, e1⟩ := List.mem_map.mp h3
    exact h1 q hq (e1.trans e)
  · have h4 : @LE.le Nat _ t p.1 := h3
    rw [e] at h4
    omega
noncomputable abbrev qual1 : Str := Str.ofString "_int2digits" ++ ".<locals>." ++ Str.ofString "inner"
noncomputable abbrev qual2 : Str := Str.ofString "_digits2int" ++ ".<locals>." ++ Str.ofString "inner"
noncomputable def nDig (n : Nat) (a : Int) : Nat := (Builtin.Int.intBits a + n - 1) / n

theorem news_drop4 {h₀ h : Heap} {L : Addr} {a b c d : Addr × Obj} {t : Led} (N : News h₀ L h (a :: b :: c :: d :: t)) : News h₀ L h (a :: b :: c :: t) := fun p hp => N p (by
  rcases List.mem_cons.mp hp with rfl | hp
  · exact List.mem_cons_self ..
  · rcases List.mem_cons.mp hp with rfl | hp
    · exact List.mem_cons_of_mem _ (List.mem_cons_self ..)
    · rcases List.mem_cons.mp hp with rfl | hp
      · exact List.mem_cons_of_mem _ (List.mem_cons_of_mem _ (List.mem_cons_self ..))
      · exact List.mem_cons_of_mem _ (List.mem_cons_of_mem _ (List.mem_cons_of_mem _ (List.mem_cons_of_mem _ hp))))
theorem bits_pow {a : Int} (ha : 0 ≤ a) (n : Nat) (hn : 0 < n) : a < 2 ^ (n * nDig n a) := by
  have h1 : Builtin.Int.intBits a ≤ n * nDig n a := by
    unfold nDig
    have := Nat.div_add_mod (Builtin.Int.intBits a + n - 1) n
    have := Nat.mod_lt (Builtin.Int.intBits a + n - 1) hn
    omega
  have h2 := intBits_le_iff.mp h1
  have h3 : ((a.natAbs : Nat) : Int) < ((2 ^ (n * nDig n a) : Nat) : Int) := by exact_mod_cast h2
  rw [Int.natAbs_of_nonneg ha] at h3
  push_cast at h3
  exact h3
theorem nDig_pos {a : Int} (ha : a ≠ 0) (n : Nat) (hn : 0 < n) : 0 < nDig n a := by
  have h1 : 1 ≤ Builtin.Int.intBits a := by
    rcases Nat.eq_zero_or_pos (Builtin.Int.intBits a) with h | h
    · have := intBits_le_iff.mp (Nat.le_of_eq h)
      simp at this
      exact absurd this ha
    · exact h
  unfold nDig
  exact Nat.div_pos (by omega) hn
theorem nDig_zero (n : Nat) : nDig n 0 = 0 := by
  unfold nDig
  have : Builtin.Int.intBits 0 = 0 := by decide
  rw [this]
  rcases Nat.eq_zero_or_pos n with h | h
  · subst h; rfl
  · exact Nat.div_eq_of_lt (by omega)
theorem nDig_mul (a : Int) (n : Nat) : n * nDig n a ≤ Builtin.Int.intBits a + n := by
  unfold nDig
  have := Nat.div_add_mod (Builtin.Int.intBits a + n - 1) n
  omega

theorem news_warm {h₀ h : Heap} {L : Addr} {a d l i A n c : Addr × Obj} {t : Led} (N : News h₀ L h (a :: d :: l :: i :: A :: n :: c :: t)) : News h₀ L h (a :: c :: d :: i :: A :: n :: t) := fun p hp => N p (by
  simp only [List.mem_cons] at hp ⊢
  rcases hp with h | h | h | h | h | h | h <;> simp only [h, true_or, or_true])

noncomputable def undig (n : Nat) : List Int → Int
  | [] => 0
  | x :: r => x + undig n r * 2 ^ n
theorem undig_append (n : Nat) : ∀ a b : List Int, undig n (a ++ b) = undig n a + undig n b * 2 ^ (a.length * n)
  | [], b => by simp [undig]
  | x :: r, b => by
    rw [List.cons_append, undig, undig, undig_append n r b, List.length_cons, Nat.succ_mul, Int.pow_add, Int.add_mul, Int.mul_assoc, Int.add_assoc]
theorem undig_nonneg (n : Nat) : ∀ a : List Int, (∀ x ∈ a, 0 ≤ x) → 0 ≤ undig n a
  | [], _ => Int.le_refl _
  | x :: r, h => by
    rw [undig]
    have h1 := h x (.head _)
    have h2 := undig_nonneg n r fun y hy => h y (.tail _ hy)
    have h3 : (0 : Int) ≤ 2 ^ n := Int.le_of_lt (Int.pow_pos (by decide))
    have := Int.mul_nonneg h2 h3
    omega
theorem undig_lt (n : Nat) : ∀ a : List Int, (∀ x ∈ a, x < 2 ^ n) → undig n a < 2 ^ (a.length * n)
  | [], _ => by simp [undig]
  | x :: r, h => by
    rw [undig, List.length_cons, Nat.succ_mul, Int.pow_add]
    have h1 := h x (.head _)
    have h2 := undig_lt n r fun y hy => h y (.tail _ hy)
    have h3 : (0 : Int) ≤ 2 ^ n := Int.le_of_lt (Int.pow_pos (by decide))
    have h4 : (undig n r + 1) * 2 ^ n ≤ 2 ^ (r.length * n) * 2 ^ n := Int.mul_le_mul_of_nonneg_right (by omega) h3
    rw [Int.add_mul, Int.one_mul] at h4
    omega
theorem bits_of_lt {x : Int} {m : Nat} (h0 : 0 ≤ x) (h : x < 2 ^ m) : Builtin.Int.intBits x ≤ m := intBits_le_iff.mpr (by
  have : ((x.natAbs : Nat) : Int) < ((2 ^ m : Nat) : Int) := by rw [Int.natAbs_of_nonneg h0]; push_cast; exact h
  exact_mod_cast this)

theorem news_cold2 {h₀ h : Heap} {L : Addr} {f c i n d t D : Addr × Obj} {r : Led} (N : News h₀ L h (f :: c :: i :: n :: d :: t :: D :: r)) : News h₀ L h (f :: c :: D :: i :: n :: d :: t :: r) := fun p hp => N p (by
  simp only [List.mem_cons] at hp ⊢
  rcases hp with h | h | h | h | h | h | h | h <;> simp only [h, true_or, or_true])
theorem news_warm2 {h₀ h : Heap} {L : Addr} {f c i n d t D : Addr × Obj} {r : Led} (N : News h₀ L h (f :: i :: n :: d :: c :: t :: D :: r)) : News h₀ L h (f :: c :: D :: i :: n :: d :: t :: r) := fun p hp => N p (by
  simp only [List.mem_cons] at hp ⊢
  rcases hp with h | h | h | h | h | h | h | h <;> simp only [h, true_or, or_true])

noncomputable def bindAll (ps : List (Str × Value)) (m : Str → Option Value) (y : Str) : Option Value := match ps.lookup y with
  | some v => some v
  | none => m y
noncomputable def Has (m : Str → Option Value) : List (Str × Value) → Prop
  | [] => True
  | p :: r => m p.1 = some p.2 ∧ Has m r
theorem Has.at {m : Str → Option Value} : ∀ {ps : List (Str × Value)}, Has m ps → ∀ {y : Str} {v : Value}, ps.lookup y = some v → m y = some v
  | [], _, _, _, e => by cases e
  | (x, u) :: r, h, y, v, e => by
    rw [List.lookup_cons] at e
    cases hb : y == x with
    | true =>
      rw [hb] at e
      rw [eq_of_beq hb, h.1]
      exact e
    | false =>
      rw [hb] at e
      exact h.2.at e
theorem bindAll_eq {m : Str → Option Value} {ps : List (Str × Value)} (h : Has m ps) : bindAll ps m = m := by
  funext y
  unfold bindAll
  cases e : ps.lookup y with
  | none => rfl
  | some v => exact (h.at e).symm
theorem fr_all {h₀ h : Heap} {L : Addr} {m : Str → Option Value} {ps : List (Str × Value)} {z : Str} {u : Value} (hv : Has m ps) (F : Fr h₀ L h (fun y => if y = z then some u else m y)) : Fr h₀ L h (fun y => if y = z then some u else bindAll ps m y) := by
  rw [bindAll_eq hv]; exact F
theorem fr_all0 {h₀ h : Heap} {L : Addr} {m : Str → Option Value} {ps : List (Str × Value)} (hv : Has m ps) (F : Fr h₀ L h m) : Fr h₀ L h (bindAll ps m) := by
  rw [bindAll_eq hv]; exact F
inductive Tabs (tb : Led) : Prop
  | mk (t1) (t2) (zh1 : tb = t1 ++ t2) (zh2 : TabL 37 62 4 qual1 t1) (zh3 : TabL 44 77 4 qual2 t2) (zh4 : OwnOff t2 [37]) (zh5 : OwnOff t1 [44])
theorem ownOff_app {a b : Led} {l : List Addr} (h : OwnOff a l) (k : OwnOff b l) : OwnOff (a ++ b) l := fun p hp => by
  rcases List.mem_append.mp hp with q | q
  · exact h p q
  · exact k p q
theorem ownOff_cons {p : Addr × Obj} {b : Led} {l : List Addr} (h : ∀ d ∈ l, p.1 ≠ d) (k : OwnOff b l) : OwnOff (p :: b) l := fun q hq => by
  rcases List.mem_cons.mp hq with e | hq
  · rw [e]; exact h
  · exact k q hq
theorem newer_off {tb tb' : Led} {t : Nat} (h : Newer tb tb' t) {d : Addr} (h1 : OwnOff tb [d]) (h2 : @LT.lt Nat _ d t) : OwnOff tb' [d] := fun p hp e he => by
  rw [List.mem_singleton.mp he]
  exact h.off (fun q hq => h1 q hq d (List.mem_singleton.mpr rfl)) h2 p hp

section
variable {prog : Program} {w : World} {A : Around} {E : Value → Shared → Prop} {s : Shared} {env : Env} {h₀ : Heap} {x : Str} {body : List Stmt} {Q : Flow → Shared → Prop} {I : Addr} {lp : Addr × Obj}
theorem revRest_ind (Inv : List Value → (Str → Option Value) → Led → Prop)
    (zero : ∀ m news, Inv [] m news → ∀ h tk, Fr h₀ env.locals h m → News h₀ env.locals h news → Q .next { s with heap := h, toks := tk })
    (succ : ∀ v r m news, Inv (v :: r) m news → ∀ (it : Obj) h tk, it.cls = .type "list_reverseiterator" → Fr h₀ env.locals h (fun y => if y = x then some v else m y) → News h₀ env.locals h ((I, it) :: news) →
      wpAny (model prog w) A (execs body env) (UnrPost h₀ env.locals { s with heap := h, toks := tk } I it (fun m' n' => lp ∈ n' ∧ Inv r m' n') Q) E { s with heap := h, toks := tk }) :
    ∀ dv m news, Inv dv m news → RevRest prog w A E h₀ env x body Q s I lp dv m news := by
  intro dv
  induction dv with
  | nil => exact fun m news hi => RevRest.zero (zero m news hi)
  | cons v r ih =>
    intro m news hi
    refine RevRest.succ fun it h tk hc F N => wpAny_mono (succ v r m news hi it h tk hc F N) (fun f s₂ p => ?_) fun _ _ e => e
    cases f with
    | ret v => exact p
    | brk => exact p
    | next =>
      obtain ⟨h', tk', m', news', e, F', N', off, hl, hi'⟩ := p
      exact ⟨h', tk', m', news', e, F', N', off, hl, ih m' news' hi'⟩
    | cont =>
      obtain ⟨h', tk', m', news', e, F', N', off, hl, hi'⟩ := p
      exact ⟨h', tk', m', news', e, F', N', off, hl, ih m' news' hi'⟩
theorem listRest_ind (Inv : List Value → (Str → Option Value) → Led → Prop)
    (zero : ∀ m news, Inv [] m news → ∀ h tk, Fr h₀ env.locals h m → News h₀ env.locals h news → Q .next { s with heap := h, toks := tk })
    (succ : ∀ v r m news, Inv (v :: r) m news → ∀ (it : Obj) h tk, it.cls = .type "list_iterator" → Fr h₀ env.locals h (fun y => if y = x then some v else m y) → News h₀ env.locals h ((I, it) :: news) →
      wpAny (model prog w) A (execs body env) (UnrPost h₀ env.locals { s with heap := h, toks := tk } I it (fun m' n' => lp ∈ n' ∧ Inv r m' n') Q) E { s with heap := h, toks := tk }) :
    ∀ dv m news, Inv dv m news → ListRest prog w A E h₀ env x body Q s I lp dv m news := by
  intro dv
  induction dv with
  | nil => exact fun m news hi => ListRest.zero (zero m news hi)
  | cons v r ih =>
    intro m news hi
    refine ListRest.succ fun it h tk hc F N => wpAny_mono (succ v r m news hi it h tk hc F N) (fun f s₂ p => ?_) fun _ _ e => e
    cases f with
    | ret v => exact p
    | brk => exact p
    | next =>
      obtain ⟨h', tk', m', news', e, F', N', off, hl, hi'⟩ := p
      exact ⟨h', tk', m', news', e, F', N', off, hl, ih m' news' hi'⟩
    | cont =>
      obtain ⟨h', tk', m', news', e, F', N', off, hl, hi'⟩ := p
      exact ⟨h', tk', m', news', e, F', N', off, hl, ih m' news' hi'⟩
theorem rangeRest_ind {a : Int} {n : Nat} (Inv : Nat → (Str → Option Value) → Led → Prop)
    (zero : ∀ i m news, Inv i m news → i = n → ∀ h tk, Fr h₀ env.locals h m → News h₀ env.locals h news → Q .next { s with heap := h, toks := tk })
    (succ : ∀ i m news, Inv i m news → i < n → ∀ t h tk, Fr h₀ env.locals h (fun y => if y = x then some (.int (a + (i : Int)) t) else m y) →
      News h₀ env.locals h ((I, itR (a + ((i + 1 : Nat) : Int)) ((n : Int) - ((i + 1 : Nat) : Int))) :: news) →
      wpAny (model prog w) A (execs body env) (UnrPost h₀ env.locals { s with heap := h, toks := tk } I (itR (a + ((i + 1 : Nat) : Int)) ((n : Int) - ((i + 1 : Nat) : Int))) (fun m' n' => Inv (i + 1) m' n') Q) E { s with heap := h, toks := tk }) :
    ∀ k i m news, i + k = n → Inv i m news → RangeRest prog w A E h₀ env x body Q s I a n k i m news := by
  intro k
  induction k with
  | zero => exact fun i m news e hi => RangeRest.zero (zero i m news hi (by omega))
  | succ k ih =>
    intro i m news e hi
    refine RangeRest.succ fun t h tk F N => wpAny_mono (succ i m news hi (by omega) t h tk F N) (fun f s₂ p => ?_) fun _ _ e => e
    cases f with
    | ret v => exact p
    | brk => exact p
    | next =>
      obtain ⟨h', tk', m', news', e', F', N', off, hi'⟩ := p
      exact ⟨h', tk', m', news', e', F', N', off, ih (i + 1) m' news' (by omega) hi'⟩
    | cont =>
      obtain ⟨h', tk', m', news', e', F', N', off, hi'⟩ := p
      exact ⟨h', tk', m', news', e', F', N', off, ih (i + 1) m' news' (by omega) hi'⟩
end
theorem offI_of {I : Addr} {it : Obj} : ∀ {l : Led}, (∀ p ∈ l, p.1 ≠ I) → OffI I it l
  | [], _ => trivial
  | p :: _, h => ⟨.inl (h p (.head _)), offI_of fun q hq => h q (.tail _ hq)⟩

theorem undig_digs (n : Nat) : ∀ (k : Nat) (x : Int), 0 ≤ x → x < 2 ^ (n * k) → undig n (digs n k x) = x
  | 0, x, h0, h1 => by
    simp at h1
    simp [digs, undig]
    omega
  | k + 1, x, h0, h1 => by
    have hp : (0 : Int) < 2 ^ n := Int.pow_pos (by decide)
    have h2 : x / 2 ^ n < 2 ^ (n * k) := by
      apply Int.ediv_lt_of_lt_mul hp
      rw [← Int.pow_add, ← Nat.mul_succ]
      exact h1
    rw [digs, undig, undig_digs n k _ (Int.ediv_nonneg h0 (Int.le_of_lt hp)) h2]
    have := Int.emod_add_mul_ediv x (2 ^ n)
    rw [Int.mul_comm (2 ^ n)] at this
    exact this
theorem digs_bound (n : Nat) : ∀ (k : Nat) (x : Int), ∀ y ∈ digs n k x, 0 ≤ y ∧ y < 2 ^ n
  | 0, x, y, h => by cases h
  | k + 1, x, y, h => by
    have hp : (0 : Int) < 2 ^ n := Int.pow_pos (by decide)
    rw [digs] at h
    rcases List.mem_cons.mp h with rfl | h
    · exact ⟨Int.emod_nonneg _ (Int.ne_of_gt hp), Int.emod_lt_of_pos _ hp⟩
    · exact digs_bound n k _ y h
theorem turn_math {n : Nat} {a b r d q r' : Int} {ds qs : List Int} (h : a = (undig n qs.reverse * b + r) * 2 ^ ((d :: ds).length * n) + undig n (d :: ds).reverse) (e : r * 2 ^ n + d = q * b + r') :
    a = (undig n (qs ++ [q]).reverse * b + r') * 2 ^ (ds.length * n) + undig n ds.reverse := by
  rw [List.reverse_append, List.reverse_cons, List.reverse_nil, List.nil_append, List.singleton_append, undig]
  rw [List.reverse_cons, undig_append, List.length_reverse, undig, undig, List.length_cons, Nat.succ_mul, Int.pow_add, Int.zero_mul, Int.add_zero] at h
  rw [h]
  generalize undig n qs.reverse = U
  generalize undig n ds.reverse = V
  generalize (2 : Int) ^ (ds.length * n) = W
  generalize (2 : Int) ^ n = Z at *
  grind
theorem bits_lt_pow {b : Int} (hb : 0 ≤ b) : b < 2 ^ (Builtin.Int.intBits b) := by
  have h2 := intBits_le_iff.mp (Nat.le_refl (Builtin.Int.intBits b))
  have h3 : ((b.natAbs : Nat) : Int) < ((2 ^ (Builtin.Int.intBits b) : Nat) : Int) := by exact_mod_cast h2
  rw [Int.natAbs_of_nonneg hb] at h3
  push_cast at h3
  exact h3
theorem noPy {a b : Int} (h : Builtin.Int.intBits b ≤ 4000) : Builtin.divisionGoesByPylong a b = false := by
  refine PyProof.noPylong_of_log2 ?_
  by_cases h0 : b.natAbs = 0
  · rw [h0]; decide
  · have := (Nat.log2_lt h0).mpr (intBits_le_iff.mp h)
    omega
theorem long_step {n : Nat} {b r d : Int} (hb : b < 2 ^ n) (hr0 : 0 ≤ r) (hr : r < b) (hd0 : 0 ≤ d) (hd : d < 2 ^ n) : 0 ≤ r * 2 ^ n + d ∧ r * 2 ^ n + d < b * 2 ^ n ∧ r * 2 ^ n + d < 2 ^ (n + n) := by
  have hp : (0 : Int) < 2 ^ n := Int.pow_pos (by decide)
  have h1 := Int.mul_nonneg hr0 (Int.le_of_lt hp)
  have h2 : (r + 1) * 2 ^ n ≤ b * 2 ^ n := Int.mul_le_mul_of_nonneg_right (by omega) (Int.le_of_lt hp)
  have h3 : b * 2 ^ n ≤ 2 ^ n * 2 ^ n := Int.mul_le_mul_of_nonneg_right (by omega) (Int.le_of_lt hp)
  rw [Int.add_mul, Int.one_mul] at h2
  rw [Int.pow_add]
  omega

theorem tabL_top {P : Addr} {l c : Int} {q : Str} {t : Led} (h : TabL P l c q t) : @LT.lt Nat _ P (topA t) := by
  rcases h with rfl | ⟨c', oc, vs, u, rfl, _, _, _⟩
  · simp only [topA_cons, topA_nil]; omega
  · simp only [topA_cons, topA_nil]; omega
theorem Newer.weaken {a b : Led} {t u : Nat} (h : Newer a b t) (e : u ≤ t) : Newer a b u := fun p hp => (h p hp).imp id fun h => Nat.le_trans e h
theorem newer_app {a a' b b' : Led} {t : Nat} (h : Newer a a' t) (k : Newer b b' t) : Newer (a ++ b) (a' ++ b') t := fun p hp => by
  rcases List.mem_append.mp hp with q | q
  · exact (h p q).imp (fun z => by rw [List.map_append]; exact List.mem_append_left _ z) id
  · exact (k p q).imp (fun z => by rw [List.map_append]; exact List.mem_append_right _ z) id
theorem news_swap {h₀ h : Heap} {L : Addr} {x y : Addr × Obj} {a b r : Led} (N : News h₀ L h (x :: y :: (a ++ (b ++ r)))) : News h₀ L h (b ++ x :: y :: (a ++ r)) := fun p hp => N p (by
  simp only [List.mem_cons, List.mem_append] at hp ⊢
  rcases hp with h | h | h | h | h <;> simp only [h, true_or, or_true])
theorem divmod_is {a b q r : Int} (h : a = q * b + r) (h0 : 0 ≤ r) (h1 : r < b) : a / b = q ∧ a % b = r := by
  have hb : 0 < b := by omega
  constructor
  · rw [h, Int.add_comm, Int.add_mul_ediv_right _ _ (by omega), Int.ediv_eq_zero_of_lt h0 h1, Int.zero_add]
  · rw [h, Int.add_comm, Int.add_mul_emod_self_right, Int.emod_eq_of_lt h0 h1]

theorem tel_mono {w : World} {d u d' u' : Nat} {f : Value} {args : List Value} {news : Led} {R : Value → Led → Prop} (H : Tel w d u f args news R) (h1 : d ≤ d') (h2 : u ≤ u') : Tel w d' u' f args news R := by
  intro mean mg mb dp un gd cn cs ad ccd cl outer A₀ base h₀ L m s Q E B F X N T C1 C2 C3 hk hd hu hret
  exact H mean mg mb dp un gd cn cs ad ccd cl outer A₀ base h₀ L m s Q E B F X N T C1 C2 C3 hk (by omega) (by omega) hret
theorem nDig_mono {a a' : Int} {n : Nat} (h : Builtin.Int.intBits a ≤ Builtin.Int.intBits a') : nDig n a ≤ nDig n a' := by
  unfold nDig
  exact Nat.div_le_div_right (Nat.sub_le_sub_right (Nat.add_le_add_right h n) 1)
inductive DivPost (tb rest : Led) (q r : Int) (v : Value) (news' : Led) : Prop
  | mk (d) (tq) (tr) (tb') (zh1 : v = .ref d) (zh2 : topA (tb ++ rest) ≤ d) (zh3 : news' = (d, { cls := .type "tuple", data := .seq #[.int q tq, .int r tr] }) :: (tb' ++ rest)) (zh4 : Tabs tb') (zh5 : Newer tb tb' (topA (tb ++ rest)))
theorem news_skip2 {h₀ h : Heap} {L : Addr} {a b : Addr × Obj} {t : Led} (N : News h₀ L h (a :: b :: t)) : News h₀ L h (a :: t) := fun p hp => by
  rcases List.mem_cons.mp hp with e | hp
  · rw [e]; exact N _ (.head _)
  · exact N p (.tail _ (.tail _ hp))
theorem not_div {a b : Int} (hb : 0 < b) : Builtin.bitNot ((-a - 1) / b) = a / b ∧ b + Builtin.bitNot ((-a - 1) % b) = a % b := by
  have h1 := Int.emod_add_mul_ediv (-a - 1) b
  have h2 := Int.emod_nonneg (-a - 1) (Int.ne_of_gt hb)
  have h3 := Int.emod_lt_of_pos (-a - 1) hb
  generalize (-a - 1) / b = q at *
  generalize (-a - 1) % b = r at *
  have e : a = (-q - 1) * b + (b - r - 1) := by
    have : (-q - 1) * b = - (b * q) - b := by rw [Int.sub_mul, Int.neg_mul, Int.one_mul, Int.mul_comm q b]
    rw [this]; omega
  have := divmod_is e (by omega) (by omega)
  unfold Builtin.bitNot
  rw [this.1, this.2]
  omega
theorem neg_div {a b : Int} (hb : b < 0) : (-a) / (-b) = a.fdiv b ∧ -((-a) % (-b)) = a.fmod b := by
  have e1 : (-a) / (-b) = a.fdiv b := by
    rw [← Int.fdiv_eq_ediv_of_nonneg (-a) (by omega : 0 ≤ -b), Int.neg_fdiv_neg]
  refine ⟨e1, ?_⟩
  rw [Int.emod_def, e1, Int.fmod_def]
  rw [Int.neg_mul]
  omega
end
section
structure TelV where
  mean : ExcName → Option Value
  mg : Str → Option Value
  mb : Str → Option Value
  dp : Nat
  un : Nat
  gd : Option (List Code)
  cn : Str
  cs : Scope
  a : Addr
  ccd : Value
  cl : List (Str × Addr)
  outer : List Env
  A₀ : Around
  base : Heap
  h₀ : Heap
  L : Addr
  m : Str → Option Value
  s : Shared
  Q : Value → Shared → Prop
  E : Value → Shared → Prop
theorem telV_ne : Nonempty TelV := ⟨⟨fun _ => none, fun _ => none, fun _ => none, 0, 0, none, Str.empty, fScope (fn 5), 0, .none, [], [], callerA, (start Pg).1.heap, (start Pg).1.heap, 0, fun _ => none, (start Pg).1, fun _ _ => True, fun _ _ => True⟩⟩
noncomputable def vEps (P : TelV → Prop) : TelV := @Classical.epsilon TelV telV_ne (fun v => ¬ P v)
theorem vEps_all {P : TelV → Prop} (h : P (vEps P)) : ∀ v, P v := fun v => Classical.byContradiction fun hv => (Classical.epsilon_spec (p := fun v => ¬ P v) ⟨v, hv⟩) h
noncomputable def eps1 {T : Type} (ne : Nonempty T) (P : T → Prop) : T := @Classical.epsilon T ne (fun v => ¬ P v)
theorem eps1_all {T : Type} {ne : Nonempty T} {P : T → Prop} (h : P (eps1 ne P)) : ∀ v, P v := fun v => Classical.byContradiction fun hv => (Classical.epsilon_spec (p := fun v => ¬ P v) ⟨v, hv⟩) h
noncomputable def TelAt (w : World) (d u : Nat) (f : Value) (args : List Value) (news : Led) (R : Value → Led → Prop) (v : TelV) : Prop :=
  Below v.A₀ v.base v.outer v.h₀ → Fr v.h₀ v.L v.s.heap v.m → (hd01.heap_1 w.params).In v.h₀ → News v.h₀ v.L v.s.heap news → Top topProg topL v.mean v.mg v.mb v.h₀ → CodeHd v.base 135 131 → CodeHd v.base 48 44 → CodeHd v.base 41 37 → v.cs.kind = .function → v.dp + d < recursionLimit → v.un + u < cLine →
    (∀ x h' tk' news', Fr v.h₀ v.L h' v.m → News v.h₀ v.L h' news' → R x news' → v.Q x { v.s with heap := h', toks := tk' }) →
    wpAny (model Challenge.rw_ty0035_01.row.prog w) (ktrTop v.dp v.un v.gd v.cn v.cs v.L v.a v.ccd v.cl v.outer) (call f args) v.Q v.E v.s
theorem tel_of {w : World} {d u : Nat} {f : Value} {args : List Value} {news : Led} {R : Value → Led → Prop} (h : ∀ v, TelAt w d u f args news R v) : Tel w d u f args news R :=
  fun mean mg mb dp un gd cn cs a ccd cl outer A₀ base h₀ L m s Q E => h ⟨mean, mg, mb, dp, un, gd, cn, cs, a, ccd, cl, outer, A₀, base, h₀, L, m, s, Q, E⟩
end
section
noncomputable abbrev tx (cs : List Nat) : Str := ⟨cs.toArray⟩
inductive TextsAre : List Value → List (List Nat) → Prop
  | nil : TextsAre [] []
  | cons {vs : List Value} {ws : List (List Nat)} (w : List Nat) (t : Tok) (h : TextsAre vs ws) : TextsAre (.str (tx w) t :: vs) (w :: ws)
theorem TextsAre.length {vs : List Value} {ws : List (List Nat)} (h : TextsAre vs ws) : vs.length = ws.length := by
  induction h with
  | nil => rfl
  | cons w t h ih => simp [ih]
theorem TextsAre.append {vs us : List Value} {ws xs : List (List Nat)} (h : TextsAre vs ws) (k : TextsAre us xs) : TextsAre (vs ++ us) (ws ++ xs) := by
  induction h with
  | nil => exact k
  | cons w t h ih => exact .cons w t ih
theorem TextsAre.reverse {vs : List Value} {ws : List (List Nat)} (h : TextsAre vs ws) : TextsAre vs.reverse ws.reverse := by
  induction h with
  | nil => exact .nil
  | cons w t h ih => rw [List.reverse_cons, List.reverse_cons]; exact ih.append (.cons w t .nil)
theorem signs_at (cs : List Nat) : ∀ (vs : List Value) (i : Nat), (∀ j v, vs[j]? = some v → SignAt (tx cs) (i + j) v) → i + vs.length = cs.length → TextsAre vs ((cs.drop i).map fun c => [c])
  | [], i, _, hl => by
    have : cs.drop i = [] := List.drop_of_length_le (by simp at hl; omega)
    rw [this]; exact .nil
  | v :: r, i, h, hl => by
    obtain ⟨c, u, hc, rfl⟩ := h 0 v rfl
    have hi : i < cs.length := by rw [List.length_cons] at hl; omega
    have e : cs.drop i = c :: cs.drop (i + 1) := by
      rw [List.drop_eq_getElem_cons hi]
      congr 1
      simp only [Nat.add_zero, List.getElem?_toArray] at hc
      rw [List.getElem?_eq_getElem hi] at hc
      exact Option.some.inj hc
    rw [e, List.map_cons]
    exact .cons _ u (signs_at cs r (i + 1) (fun j v hj => by
      have := h (j + 1) v (by simpa using hj)
      rw [show i + 1 + j = i + (j + 1) by omega]; exact this) (by rw [List.length_cons] at hl; omega))
section
variable {prog : Program} {w : World} {A : Around} {E : Value → Shared → Prop} {s : Shared} {h₀ : Heap} {L : Addr} {m : Str → Option Value} {news : Led}
theorem list_text {cs : List Nat} {t : Tok} {Q : Value → Shared → Prop} (hh : A.handled = none) (F : Fr h₀ L s.heap m) (N : News h₀ L s.heap news) (hn : cs.length ≤ 2 ^ 20)
    (h : ∀ D vs c h' tk, Fr h₀ L h' m → News h₀ L h' ((D, W.listOf vs.toArray c) :: news) → topA news ≤ D → TextsAre vs (cs.map fun c => [c]) → Q (.ref D) { s with heap := h', toks := tk }) :
    wpAny (model prog w) A (call (.type "list") [.str (tx cs) t]) Q E s := by
  refine call_list_str hh (tx cs) t (fun h' tk acc' c' hk hD hit => ?_) (by simp [sizeLine]; omega)
  have hfresh : h₀.get? s.heap.objs.size = none := Heap.get?_none_of_le (Nat.le_trans F.above (Nat.le_of_lt F.ns.lt))
  refine h s.heap.objs.size acc'.toList c' h' tk ⟨F.ns.keeps hk, fun b o e => hk b o (F.keep b o e), F.above⟩ (fun p hp => ?_) (topA_of fun p hp => Heap.lt_size (N p hp).1) ?_
  · rcases List.mem_cons.mp hp with rfl | hp
    · exact ⟨by rw [Array.toArray_toList]; exact hD, Nat.ne_of_gt F.ns.lt, hfresh⟩
    · exact ⟨hk _ _ (N p hp).1, (N p hp).2⟩
  · have := signs_at cs acc'.toList 0 (fun j v hj => by
      rw [Nat.zero_add]; exact hit.2 j v (by rw [← Array.getElem?_toList]; exact hj)) (by rw [Nat.zero_add, Array.length_toList, hit.1]; simp)
    simpa using this
theorem rev_list {D : Addr} {vs : List Value} {n : Nat} {news' : Led} {Q : Value → Shared → Prop} (F : Fr h₀ L s.heap m) (N : News h₀ L s.heap news) (U : Upd D (W.listOf vs.toArray n) (W.listOf vs.reverse.toArray n) news news') (hz : vs.length ≤ 2 ^ 20)
    (h : ∀ h', Fr h₀ L h' m → News h₀ L h' news' → Q .none { s with heap := h' }) : wpAny (model prog w) A (call (.builtin "list.reverse") [.ref D]) Q E s := kl_reverse F N (by simp) U (by simp [sizeLine]; omega) h
end

theorem tx_inj {a b : List Nat} : tx a = tx b ↔ a = b := by
  constructor
  · intro h
    have := congrArg (fun s : Str => s.cps.toList) h
    simpa using this
  · intro h; rw [h]
theorem tx_carried {vs : List Value} {ws : List (List Nat)} (h : TextsAre vs ws) : CarriedAll vs (ws.map fun w => PyData.str (tx w)) := by
  induction h with
  | nil => exact .nil
  | cons w t _ ih => exact .cons (.str _ t) ih
noncomputable def TxOk (ws : List (List Nat)) : Prop := ∀ w ∈ ws, PyData.strOk (tx w) = true
theorem tx_canLay : ∀ ws : List (List Nat), TxOk ws → PyData.canLayAll0 (ws.map fun w => PyData.str (tx w)) = true
  | [], _ => rfl
  | w :: r, h => by rw [List.map_cons, PyData.canLayAll0, tx_canLay r (fun x hx => h x (.tail _ hx)), PyData.canLay0, h w (.head _)]; rfl
theorem tx_depth : ∀ ws : List (List Nat), PyData.depthAll (ws.map fun w => PyData.str (tx w)) = 0
  | [] => rfl
  | w :: r => by rw [List.map_cons, PyData.depthAll, tx_depth r]; rfl
theorem tx_shaped {ws : List (List Nat)} (h : TxOk ws) : SeqAt.shaped (.list (ws.map fun w => PyData.str (tx w))) = true := by
  unfold SeqAt.shaped
  rw [PyData.canLay0, tx_canLay ws h, PyData.depth, tx_depth]
  rfl
theorem tx_sameAll : ∀ ws us : List (List Nat), PySem.Spec.sameAll (ws.map fun w => PyData.str (tx w)) (us.map fun w => PyData.str (tx w)) = decide (ws = us)
  | [], [] => rfl
  | [], _ :: _ => rfl
  | _ :: _, [] => rfl
  | w :: r, u :: q => by
    rw [List.map_cons, List.map_cons, PySem.Spec.sameAll, tx_sameAll r q, PySem.Spec.same]
    by_cases h : w = u
    · subst h; by_cases h2 : r = q <;> simp [h2]
    · have : tx w ≠ tx u := fun e => h (tx_inj.mp e)
      simp [h]
theorem tx_same (ws us : List (List Nat)) : PySem.Spec.same (.list (ws.map fun w => PyData.str (tx w))) (.list (us.map fun w => PyData.str (tx w))) = decide (ws = us) := by
  rw [PySem.Spec.same, tx_sameAll]
section
variable {prog : Program} {w : World} {A : Around} {E : Value → Shared → Prop} {s : Shared} {a b : Addr} {xs ys : List Value} {ws us : List (List Nat)} {Q : Value → Shared → Prop}
theorem tx_eq (ha : s.heap.IsList a xs.toArray) (hb : s.heap.IsList b ys.toArray) (hi : TextsAre xs ws) (hj : TextsAre ys us) (ok1 : TxOk ws) (ok2 : TxOk us) (hu : A.units + 64 < cLine) (h : Q (.bool (decide (ws = us))) s) :
    wpAny (model prog w) A (compareOp .Eq (.ref a) (.ref b)) Q E s :=
  eq_dataH_same (reads_newData ha (tx_carried hi)) (reads_newData hb (tx_carried hj)) (tx_shaped ok1) (tx_shaped ok2) hu (SeqAt.noMix_of_shape (.list .str) rfl _ _ (list_map_has fun _ => rfl) (list_map_has fun _ => rfl)) (by rw [tx_same]; exact h)
theorem tx_ne (ha : s.heap.IsList a xs.toArray) (hb : s.heap.IsList b ys.toArray) (hi : TextsAre xs ws) (hj : TextsAre ys us) (ok1 : TxOk ws) (ok2 : TxOk us) (hu : A.units + 64 < cLine) (h : Q (.bool (!decide (ws = us))) s) :
    wpAny (model prog w) A (compareOp .NotEq (.ref a) (.ref b)) Q E s :=
  ne_dataH_same (reads_newData ha (tx_carried hi)) (reads_newData hb (tx_carried hj)) (tx_shaped ok1) (tx_shaped ok2) hu (SeqAt.noMix_of_shape (.list .str) rfl _ _ (list_map_has fun _ => rfl) (list_map_has fun _ => rfl)) (by rw [tx_same]; exact h)
end
end
section
noncomputable def lamArgs : Expr → Arguments
  | .Lambda a .. => a
  | _ => default
noncomputable def lamBody : Expr → Expr
  | .Lambda _ b .. => b
  | e => e
noncomputable def lamScope : Expr → Scope
  | .Lambda _ _ s .. => s
  | _ => default
noncomputable def asgVal : Stmt → Expr
  | .Assign _ v _ => v
  | _ => .Constant .none 0 ⟨0, 0, 0, 0⟩
noncomputable def lamX : Expr := asgVal (stmtAt (fBody (fn 19)) 3)
structure LexP where
  X : Addr
  dX : Addr
  S : Addr
  dS : Addr
  Lm : Addr
  cL : Addr
  G : Addr
  cG : Addr
  PB : Addr
  PB2 : Addr
  oL : Obj
  oG : Obj
  k1 : Tok
  k2 : Tok
  k3 : Tok
  k4 : Tok
  k5 : Tok
  k6 : Tok
  k7 : Tok
  k8 : Tok
  k9 : Tok
  tw : Tok
  t5 : Tok
  t7 : Tok
  pm : Value
  ct : Value
  cvs : Array Value
  cq : Tok
noncomputable abbrev wsp : Str := Str.ofString "\n\t\x0d "
noncomputable abbrev ent (w : World) (x : Str) (k : Tok) (v : Value) : DictEntry := { hash := PyData.keyHash w.params x, key := .str x k, val := v }
noncomputable abbrev dLex (w : World) (P : LexP) (line : Int) (tl : Tok) : Obj :=
  W.dictOf [ent w (Str.ofString "lineno") P.k1 (.int line tl), ent w (Str.ofString "instream") P.k2 (.ref P.S), ent w (Str.ofString "whitespace") P.k3 (.str wsp P.tw), ent w (Str.ofString "pushback") P.k4 (.ref P.PB)] 4
noncomputable abbrev dStr (w : World) (P : LexP) : Obj :=
  W.dictOf [ent w (Str.ofString "lineno") P.k5 (.int 1 P.t5), ent w (Str.ofString "instream") P.k6 .none, ent w (Str.ofString "whitespace") P.k7 (.str wsp P.t7), ent w (Str.ofString "pushback") P.k8 (.ref P.PB2), ent w (Str.ofString "read") P.k9 (.ref P.Lm)] 5
noncomputable abbrev qualL : Str := Str.ofString "_law_lexer" ++ ".<locals>." ++ Str.ofString "<lambda>"
noncomputable abbrev LexL (w : World) (P : LexP) (line : Int) (tl : Tok) (pb : List Value) (pe : Nat) (sg : List Value) (ep : Nat) : Led :=
  [(P.PB, W.listOf pb.toArray pe), (P.X, instObj 108 P.dX), (P.dX, dLex w P line tl), (P.Lm, kla_obj (Str.ofString "<lambda>") qualL (lamArgs lamX) (lamBody lamX) (lamScope lamX) [(Str.ofString "signs", P.cG)] P.pm P.cL P.ct), (P.cL, P.oL),
   (P.S, instObj 108 P.dS), (P.dS, dStr w P), (P.G, W.listOf sg.reverse.toArray ep), (P.cG, P.oG)]
structure LexOk (P : LexP) : Prop where
  oL : P.oL.data = .fields P.cvs
  cq : P.cvs[1]? = some (.str qualL P.cq)
  oG : P.oG.data = .cell (some (.ref P.G))
  n1 : @LT.lt Nat _ P.cG P.G
  n2 : @LT.lt Nat _ P.G P.dS
  n3 : @LT.lt Nat _ P.dS P.S
  n4 : @LT.lt Nat _ P.S P.PB2
  n5 : @LT.lt Nat _ P.PB2 P.cL
  n6 : @LT.lt Nat _ P.cL P.Lm
  n7 : @LT.lt Nat _ P.Lm P.dX
  n8 : @LT.lt Nat _ P.dX P.X
  n9 : @LT.lt Nat _ P.X P.PB
section
variable {prog : Program} {w : World} {A : Around} {E : Value → Shared → Prop} {s : Shared} {h₀ : Heap} {L : Addr} {m : Str → Option Value} {news news' : Led}
theorem pop_rev {D : Addr} {x : Value} {sg : List Value} {n : Nat} {Q : Value → Shared → Prop} (F : Fr h₀ L s.heap m) (N : News h₀ L s.heap news) (U : Upd D (W.listOf (x :: sg).reverse.toArray n) (W.listOf sg.reverse.toArray (n + 1)) news news') (hz : sg.length ≤ 2 ^ 20)
    (h : ∀ h', Fr h₀ L h' m → News h₀ L h' news' → Q x { s with heap := h' }) : wpAny (model prog w) A (call (.builtin "list.pop") [.ref D]) Q E s :=
  kl_pop F N (by rw [List.reverse_cons]; exact kpa_last x sg.reverse) U (by simp [sizeLine]; omega) h
end
theorem news_tail {h₀ h : Heap} {L : Addr} {a : Addr × Obj} {t : Led} (N : News h₀ L h (a :: t)) : News h₀ L h t := fun p hp => N p (.tail _ hp)
theorem nl_is : Str.ofString "\n" = tx [10] := by decide +kernel
theorem one_is {c d : Nat} : tx [c] = tx [d] ↔ c = d := by rw [tx_inj]; simp
end
section
theorem ne_prod {A B : Type} (a : Nonempty A) (b : Nonempty B) : Nonempty (A × B) := by obtain ⟨x⟩ := a; obtain ⟨y⟩ := b; exact ⟨(x, y)⟩
theorem ne_nat : Nonempty Nat := ⟨0⟩
theorem ne_int : Nonempty Int := ⟨0⟩
theorem ne_addr : Nonempty Addr := ⟨(0 : Nat)⟩
theorem ne_list {T : Type} : Nonempty (List T) := ⟨[]⟩
theorem ne_led : Nonempty Led := ⟨[]⟩
theorem ne_value : Nonempty Value := ⟨.none⟩
theorem ne_str : Nonempty Str := ⟨Str.empty⟩
theorem ne_obj : Nonempty Obj := ⟨tabObj #[]⟩
theorem ne_tok : Nonempty Tok := ⟨default⟩
theorem ne_world : Nonempty World := ⟨aWorld 1⟩
theorem ne_par : Nonempty (Str → Option Value) := ⟨fun _ => none⟩
theorem ne_lexp : Nonempty LexP := ⟨⟨0, 0, 0, 0, 0, 0, 0, 0, 0, 0, tabObj #[], tabObj #[], 0, 0, 0, 0, 0, 0, 0, 0, 0, default, default, default, .none, .none, #[], default⟩⟩
end
section
section
variable {prog : Program} {w : World} {A : Around} {E : Value → Shared → Prop} {s : Shared} {env : Env} {h₀ : Heap} {x : Str} {body : List Stmt} {Q : Flow → Shared → Prop} {I : Addr} {lp : Addr × Obj} {L : Addr}
theorem revRest_indR (Inv : List Value → (Str → Option Value) → Led → Prop)
    (zero : ∀ m news, Inv [] m news → ∀ h tk, Fr h₀ env.locals h m → News h₀ env.locals h news → Q .next { s with heap := h, toks := tk })
    (succ : ∀ v r m news, Inv (v :: r) m news → ∀ (it : Obj) h tk, it.cls = .type "list_reverseiterator" → Fr h₀ env.locals h (fun y => if y = x then some v else m y) → News h₀ env.locals h ((I, it) :: news) →
      ∀ R : Flow → Shared → Prop, (∀ f s', UnrPost h₀ env.locals { s with heap := h, toks := tk } I it (fun m' n' => lp ∈ n' ∧ Inv r m' n') Q f s' → R f s') →
      wpAny (model prog w) A (execs body env) R E { s with heap := h, toks := tk }) :
    ∀ dv m news, Inv dv m news → RevRest prog w A E h₀ env x body Q s I lp dv m news :=
  revRest_ind Inv zero fun v r m news hi it h tk hc F N => succ v r m news hi it h tk hc F N _ fun _ _ z => z
theorem listRest_indR (Inv : List Value → (Str → Option Value) → Led → Prop)
    (zero : ∀ m news, Inv [] m news → ∀ h tk, Fr h₀ env.locals h m → News h₀ env.locals h news → Q .next { s with heap := h, toks := tk })
    (succ : ∀ v r m news, Inv (v :: r) m news → ∀ (it : Obj) h tk, it.cls = .type "list_iterator" → Fr h₀ env.locals h (fun y => if y = x then some v else m y) → News h₀ env.locals h ((I, it) :: news) →
      ∀ R : Flow → Shared → Prop, (∀ f s', UnrPost h₀ env.locals { s with heap := h, toks := tk } I it (fun m' n' => lp ∈ n' ∧ Inv r m' n') Q f s' → R f s') →
      wpAny (model prog w) A (execs body env) R E { s with heap := h, toks := tk }) :
    ∀ dv m news, Inv dv m news → ListRest prog w A E h₀ env x body Q s I lp dv m news :=
  listRest_ind Inv zero fun v r m news hi it h tk hc F N => succ v r m news hi it h tk hc F N _ fun _ _ z => z
theorem rangeRest_indR {a : Int} {n : Nat} (Inv : Nat → (Str → Option Value) → Led → Prop)
    (zero : ∀ i m news, Inv i m news → i = n → ∀ h tk, Fr h₀ env.locals h m → News h₀ env.locals h news → Q .next { s with heap := h, toks := tk })
    (succ : ∀ i m news, Inv i m news → i < n → ∀ t h tk, Fr h₀ env.locals h (fun y => if y = x then some (.int (a + (i : Int)) t) else m y) →
      News h₀ env.locals h ((I, itR (a + ((i + 1 : Nat) : Int)) ((n : Int) - ((i + 1 : Nat) : Int))) :: news) →
      ∀ R : Flow → Shared → Prop, (∀ f s', UnrPost h₀ env.locals { s with heap := h, toks := tk } I (itR (a + ((i + 1 : Nat) : Int)) ((n : Int) - ((i + 1 : Nat) : Int))) (fun m' n' => Inv (i + 1) m' n') Q f s' → R f s') →
      wpAny (model prog w) A (execs body env) R E { s with heap := h, toks := tk }) :
    ∀ k i m news, i + k = n → Inv i m news → RangeRest prog w A E h₀ env x body Q s I a n k i m news :=
  rangeRest_ind Inv zero fun i m news hi hl t h tk F N => succ i m news hi hl t h tk F N _ fun _ _ z => z
theorem While_invR {test : Expr} {body : List Stmt} {pos : Pos} {m : Str → Option Value} {news : List (Addr × Obj)} (J : Nat → (Str → Option Value) → List (Addr × Obj) → Prop) {n₀ : Nat}
    (F : Fr h₀ L s.heap m) (N : News h₀ L s.heap news) (hJ : J n₀ m news)
    (turn : ∀ n m₁ news₁ h₁ tk₁, Fr h₀ L h₁ m₁ → News h₀ L h₁ news₁ → J n m₁ news₁ →
      ∀ (R : Flow → Shared → Prop) (R0 : Shared → Prop), (∀ f s', WhileStep2 h₀ L s J Q n f s' → R f s') → (∀ s', Q .next s' → R0 s') →
      wpAny (model prog w) A (isTrue test env (eval test env)) (fun b s₂ =>
        if b = true then wpAny (model prog w) A (execs body env) R E s₂ else R0 s₂) E { s with heap := h₁, toks := tk₁ })
    (hE : PassesOwn (model prog w) A env E := by passes_own) :
    wpAny (model prog w) A (exec (.While test body [] pos) env) Q E s :=
  While_inv2 J F N hJ (fun n m₁ news₁ h₁ tk₁ a b c => turn n m₁ news₁ h₁ tk₁ a b c _ _ (fun _ _ z => z) fun _ z => z) hE
end
end
section
theorem owner_ci : Manifest.owners.lookup (String.ofList ['r', 'o', 't', 'a', 'r', 'e', 't', 'i', '_', 'e', 'l', 'b', 'a', 'l', 'l', 'a', 'c'].reverse) = some Manifest.sig_callable_iterator := by kernel_rfl
theorem slot_ci_next : Slot "callable_iterator" "__next__" "callable_iterator.__next__" :=
  .of (owner := "callable_iterator") (n := "__next__") (by rw [typeLookup_type, builtinLookup_eq_fast]; kernel_rfl) (by decide +kernel) (by decide +kernel) (by decide +kernel)
    (by first | exact .inl (by decide +kernel) | exact .inr (by decide +kernel)) (by rw [isSubtype_type]; kernel_rfl)
theorem entry_ci_next : entryFor table "callable_iterator.__next__" = some Builtin.«callable_iterator.__next__» := entryFor_of_tree (by kernel_rfl)
theorem args_ci_next_1 (a : Value) : argsOk "callable_iterator.__next__" ⟨[a], []⟩ := by
  unfold argsOk; rw [signature?_of (id := "callable_iterator.__next__") (n := ['_', '_', 't', 'x', 'e', 'n', '_', '_']) (o := ['r', 'o', 't', 'a', 'r', 'e', 't', 'i', '_', 'e', 'l', 'b', 'a', 'l', 'l', 'a', 'c']) (by kernel_rfl) owner_ci]; kernel_rfl
theorem slot_ci_iter : Slot "callable_iterator" "__iter__" "callable_iterator.__iter__" :=
  .of (owner := "callable_iterator") (n := "__iter__") (by rw [typeLookup_type, builtinLookup_eq_fast]; kernel_rfl) (by decide +kernel) (by decide +kernel) (by decide +kernel)
    (by first | exact .inl (by decide +kernel) | exact .inr (by decide +kernel)) (by rw [isSubtype_type]; kernel_rfl)
theorem args_ci_iter_1 (a : Value) : argsOk "callable_iterator.__iter__" ⟨[a], []⟩ := by
  unfold argsOk; rw [signature?_of (id := "callable_iterator.__iter__") (n := ['_', '_', 'r', 'e', 't', 'i', '_', '_']) (o := ['r', 'o', 't', 'a', 'r', 'e', 't', 'i', '_', 'e', 'l', 'b', 'a', 'l', 'l', 'a', 'c']) (by kernel_rfl) owner_ci]; kernel_rfl
theorem entry_ci_iter : entryFor table "callable_iterator.__iter__" = some Builtin.«dict_keyiterator.__iter__» :=
  entryFor_alias (id' := "dict_keyiterator.__iter__") (by kernel_rfl) (by first | rfl | decide +kernel | (unfold String.splitOn; simp +decide [String.splitOnAux])) (by decide +kernel) (by kernel_rfl)
noncomputable abbrev ciO (f sen : Value) : Obj := { cls := .type "callable_iterator", data := .fields #[f, sen, .bool false] }
section
variable {prog : Program} {w : World} {A : Around} {E : Value → Shared → Prop} {s : Shared}
theorem wpAny_callBorrowed {M : Model} {f : Value} {pos : List Value} {Q : Value → Shared → Prop} (h : wpAny M A (call f pos) Q E s) : wpAny M A (callBorrowed f pos) Q E s := fun Γ p hΓ => by
  have h1 := h Γ p hΓ
  rw [Sem.wp_cmd_call] at h1
  unfold callBorrowed
  rw [Sem.wp_call]
  refine wpCode_mono (fun r s' q => ?_) h1
  cases r with
  | error e => exact q
  | ok f => cases f <;> first | exact q | exact q.elim
theorem borrows_method {M : Model} {q g : Addr} {self : Value} {fo : Obj} {fd : FuncData} {Q : Bool → Shared → Prop} (hq : s.heap.get? q = some (methodObj (.ref g) self)) (hg : s.heap.get? g = some fo) (hf : fo.data = .func fd) (h : Q true s) :
    wpAny M A (borrowsExactly (.ref q)) Q E s := by
  unfold borrowsExactly
  refine wpAny_bind (wpAny_load hq ?_)
  dsimp only [methodObj]
  rw [if_pos (by decide)]
  show wpAny _ _ (load g >>= _) _ _ _
  refine wpAny_bind (wpAny_load hg ?_)
  rw [hf]
  exact wpAny_pure h

theorem ci_next {I q g : Addr} {self : Value} {fo : Obj} {fd : FuncData} {t : Tok} {Q : Option Value → Shared → Prop} (hh : A.handled = none)
    (hI : s.heap.get? I = some (ciO (.ref q) (.str Str.empty t))) (hq : s.heap.get? q = some (methodObj (.ref g) self)) (hg : s.heap.get? g = some fo) (hf : fo.data = .func fd)
    (h : wpAny (model prog w) A.in1 (call (.ref q) []) (fun r s₁ => ∃ x u, r = .str x u ∧ s₁.heap.get? I = some (ciO (.ref q) (.str Str.empty t)) ∧ s₁.heap.get? q = some (methodObj (.ref g) self) ∧ s₁.heap.get? g = some fo ∧
      (if x = Str.empty then ∀ h', Heap.ExtBut I s₁.heap h' → Q none { s₁ with heap := h' } else Q (some (.str x u)) s₁)) (fun _ _ => False) s) :
    wpAny (model prog w) A (pyNext (.ref I)) Q E s := by
  have hT : s.TypeIs (.ref I) "callable_iterator" := ⟨_, hI, rfl⟩
  unfold pyNext
  refine wpAny_bind (wpAny_attempt (wpAny_callSpecial?_slot (name := Str.ofString "__next__") hT slot_ci_next
    (wpAny_call_entry slot_ci_next hT entry_ci_next ?_ (args_ci_next_1 _))))
  unfold Builtin.«callable_iterator.__next__»
  refine wpAny_bind (wpAny_of_eq (a := (Value.ref I, [])) rfl ?_)
  try dsimp only
  refine wpAny_bind (wpAny_field hI rfl (x := .bool false) rfl ?_)
  rw [if_neg (show ¬ ((Value.bool false == Value.bool true) = true) from by decide)]
  try dsimp only
  refine wpAny_bind (wpAny_field hI rfl (x := .ref q) rfl ?_)
  refine wpAny_bind (wpAny_attempt ?_)
  unfold callOutOfASlot
  refine wpAny_bind (borrows_method hq hg hf ?_)
  rw [if_pos rfl]
  refine wpAny_callBorrowed (wpAny_mono h (fun r s₁ hr => ?_) fun _ _ z => z.elim)
  obtain ⟨x, u, rfl, hI1, hq1, hg1, hx⟩ := hr
  try dsimp only
  refine wpAny_bind (wpAny_field hI1 rfl (x := .bool false) rfl ?_)
  rw [if_neg (show ¬ ((Value.bool false == Value.bool true) = true) from by decide)]
  refine wpAny_bind (wpAny_field hI1 rfl (x := .str Str.empty t) rfl ?_)
  refine wpAny_bind (wpAny_holding (wpAny_eqBool_str ?_))
  by_cases he : x = Str.empty
  · subst he
    rw [if_pos rfl] at hx
    rw [decide_eq_true rfl]
    rw [if_neg (show ¬ ((!true) = true) from by decide)]
    refine wpAny_bind (wpAny_rule (wpAny_bind ?_))
    show wpAny _ _ (field (.ref I) 0 >>= fun v => slotLetsGo "callable_iterator.__next__" v _ >>= fun _ => setField (.ref I) 0 .none >>= fun _ => setField (.ref I) 1 .none >>= fun _ => setField (.ref I) 2 (.bool true)) _ _ _
    refine wpAny_bind (wpAny_field hI1 rfl (x := .ref q) rfl ?_)
    refine wpAny_bind ?_
    unfold slotLetsGo
    try dsimp only
    refine wpAny_bind (borrows_method hq1 hg1 hf ?_)
    rw [if_pos rfl]
    refine wpAny_pure ?_
    have up : ∀ (h' : Heap) (f : Obj → Obj), Heap.ExtBut I s₁.heap h' → Heap.ExtBut I s₁.heap (h'.update I f) := fun h' f e b o hb eb => (Heap.get?_update_other _ _ (Ne.symm hb)).trans (e b o hb eb)
    refine wpAny_bind (wpAny_setField hI1 rfl (by simp) ?_)
    refine wpAny_bind (wpAny_setField (Heap.get?_update_self _ hI1 (Obj.isFreed_of_fields (Obj.data_mapFields rfl _))) (Obj.data_mapFields rfl _) (by simp) ?_)
    refine wpAny_setField (Heap.get?_update_self _ (Heap.get?_update_self _ hI1 (Obj.isFreed_of_fields (Obj.data_mapFields rfl _))) (Obj.isFreed_of_fields (Obj.data_mapFields (Obj.data_mapFields rfl _) _))) (Obj.data_mapFields (Obj.data_mapFields rfl _) _) (by simp) ?_
    show wpAny _ _ (newExc (.type "StopIteration") [] >>= _) _ _ _
    refine wpAny_bind ?_
    simp only [newExc, newTuple]
    refine wpAny_bind (wpAny_newObj_type ?_ (by size_fits))
    refine wpAny_bind (m := firstArgMember _ _) (wpAny_of_eq (a := Value.none) (by first | rfl | (simp only [firstArgMember]; rfl)) ?_)
    refine wpAny_newObj_type ?_ (by size_fits)
    simp only [raiseNew]
    refine wpAny_bind (wpAny_handled ?_)
    first | rw [show A.in1.handled = none from hh] | rw [hh]
    refine wpAny_bind (wpAny_pure (wpAny_throw ?_))
    refine wpAny_bind (wpAny_isInstance (T := "StopIteration") (b := true) ⟨_, Heap.get?_push_size _ rfl, rfl⟩ isSubtype_stop ?_)
    exact wpAny_pure (hx _ (((up _ _ (up _ _ (up _ _ (Heap.ExtBut.refl _ _)))).push _).push _))
  · rw [if_neg he] at hx
    rw [decide_eq_false (fun e => he e.symm)]
    rw [if_pos (show (!false) = true from rfl)]
    exact wpAny_pure ⟨_, rfl, wpAny_pure hx⟩
end
end
section
theorem args_iter2 (a b : Value) : argsOk "iter" ⟨[a, b], []⟩ := by unfold argsOk; kernel_rfl
theorem look_method_call : typeLookup (.type "method") "__call__" = pure (some (.builtin "method.__call__")) := by rw [typeLookup_type, builtinLookup_eq_fast]; kernel_rfl
section
variable {prog : Program} {w : World} {A : Around} {E : Value → Shared → Prop} {s : Shared} {h₀ : Heap} {L : Addr} {m : Str → Option Value} {news : Led}
theorem ci_make {q g : Addr} {self sen : Value} {Q : Value → Shared → Prop} (F : Fr h₀ L s.heap m) (N : News h₀ L s.heap news) (hq : (q, methodObj (.ref g) self) ∈ news)
    (h : ∀ I h', Fr h₀ L h' m → News h₀ L h' ((I, ciO (.ref q) sen) :: news) → topA news ≤ I → Q (.ref I) { s with heap := h' }) :
    wpAny (model prog w) A (call (.builtin "iter") [.ref q, sen]) Q E s := by
  have hT : s.TypeIs (.ref q) "method" := ⟨_, (N _ hq).1, rfl⟩
  refine call_function_entry (by decide +kernel) (by decide +kernel) kdk_entry_iter (args_iter2 _ _) ?_
  unfold Builtin.«iter»
  refine wpAny_bind (m := someArgs "iter" 1 2 _) (wpAny_of_eq (a := [Value.ref q, sen]) (by first | rfl | kernel_rfl!) ?_)
  dsimp only
  refine wpAny_bind (wpAny_specialOf (name := Str.ofString "__call__") hT look_method_call ?_)
  refine wpAny_ite_split (fun hab => absurd hab (by decide)) (fun _ => ?_)
  refine wpAny_bind (wpAny_rule (wpAny_bind ?_))
  unfold newFields
  refine wpAny_newObj_type (wpAny_pure ⟨_, rfl, ?_⟩) (by size_fits)
  exact h _ _ (F.push _) (News.push F N _ rfl) (topA_of fun p hp => Heap.lt_size (N p hp).1)
theorem ci_iter {I : Addr} {f sen : Value} {Q : Value → Shared → Prop} (hI : s.heap.get? I = some (ciO f sen)) (h : Q (.ref I) s) : wpAny (model prog w) A (pyIter (.ref I)) Q E s := by
  have hT : s.TypeIs (.ref I) "callable_iterator" := ⟨_, hI, rfl⟩
  refine wpAny_pyIter_slot hT slot_ci_iter (wpAny_call_entry slot_ci_iter hT entry_ci_iter ?_ (args_ci_iter_1 _))
  show wpAny _ _ (ret (.ref I)) _ _ s
  exact wpAny_pure ⟨_, rfl, "callable_iterator", _, hT, slot_ci_next.lookup, h⟩
noncomputable abbrev liO (l : Addr) (i : Int) : Obj := { cls := .type "list_iterator", data := .fields #[.ref l, .int i 0] }
theorem li_iter {l : Addr} {its : Array Value} {n : Nat} {Q : Value → Shared → Prop} (F : Fr h₀ L s.heap m) (N : News h₀ L s.heap news) (hl : (l, W.listOf its n) ∈ news)
    (h : ∀ I h', Fr h₀ L h' m → News h₀ L h' ((I, liO l 0) :: news) → topA news ≤ I → Q (.ref I) { s with heap := h' }) :
    wpAny (model prog w) A (call (.builtin "iter") [.ref l]) Q E s := by
  refine call_function_entry (by decide +kernel) (by decide +kernel) kdk_entry_iter (kdk_args_iter _) ?_
  unfold Builtin.«iter»
  refine wpAny_bind (m := someArgs "iter" 1 2 _) (wpAny_of_eq (a := [Value.ref l]) (by first | rfl | kernel_rfl!) ?_)
  show wpAny _ _ (pyIter (.ref l) >>= _) _ _ _
  refine wpAny_bind (wpAny_pyIter_list (News.isList N hl) ?_)
  exact wpAny_pure ⟨_, rfl, h _ _ (F.push _) (News.push F N _ rfl) (topA_of fun p hp => Heap.lt_size (N p hp).1)⟩
theorem li_next {it l : Addr} {i : Nat} {its : Array Value} {n : Nat} {v : Value} {io : Obj} {g : Obj → Led} {Q : Value → Shared → Prop} (F : Fr h₀ L s.heap m) (N : News h₀ L s.heap news) (U : UpdF it io news g)
    (hc : io.cls = .type "list_iterator") (hd : io.data = .fields #[.ref l, .int i 0]) (hl : (l, W.listOf its n) ∈ news) (hx : its[i]? = some v)
    (h : ∀ h' o', Fr h₀ L h' m → News h₀ L h' (g o') → o'.cls = .type "list_iterator" → o'.data = .fields #[.ref l, .int ((i + 1 : Nat) : Int) 0] → Q v { s with heap := h' }) :
    wpAny (model prog w) A (call (.builtin "next") [.ref it]) Q E s := by
  obtain ⟨pre, post, hlist, hg, a, b⟩ := U.split
  have hmem : (it, io) ∈ news := by rw [hlist]; exact List.mem_append_right _ (.head _)
  have hm := N (it, io) hmem
  have hit : s.heap.IsListIter it l i := ⟨io, hm.1, hc, hd⟩
  have hls := News.isList N hl
  obtain ⟨ol, hol, _, nl, hdl⟩ := id hls
  refine call_function_entry (by decide +kernel) (by decide +kernel) kdk_entry_next (kdk_args_next _) ?_
  unfold Builtin.«next»
  refine wpAny_bind (m := someArgs "next" 1 2 _) (wpAny_of_eq (a := [Value.ref it]) (by first | rfl | kernel_rfl!) ?_)
  dsimp only
  refine wpAny_bind (wpAny_specialOf (name := Str.ofString "__next__") hit.typeIs slot_listiter_next.lookup ?_)
  refine wpAny_ite_split (fun hab => absurd hab (by decide)) (fun _ => ?_)
  refine wpAny_bind (wpAny_callSpecial?_slot (name := Str.ofString "__next__") hit.typeIs slot_listiter_next
    (wpAny_call_entry slot_listiter_next hit.typeIs entry_listiter_next ?_ (args_listiter_next _)))
  show wpAny _ _ (field (.ref it) 0 >>= _) _ _ s
  refine wpAny_bind (wpAny_field hm.1 hd (x := .ref l) rfl ?_)
  show wpAny _ _ (if (Value.ref l == Value.none) = true then _ else _) _ _ s
  rw [if_neg (show ¬ ((Value.ref l == Value.none) = true) from Bool.false_ne_true)]
  show wpAny _ _ (field (.ref it) 1 >>= _) _ _ s
  refine wpAny_bind (wpAny_field hm.1 hd (x := .int i 0) rfl ?_)
  show wpAny _ _ (seqItems? (.ref l) >>= _) _ _ s
  refine wpAny_bind (wpAny_seqItems hol hdl ?_)
  simp only [Int.toNat_natCast, hx]
  have e : io = { cls := .type "list_iterator", dict := io.dict, data := .fields #[.ref l, .int i 0], slots := io.slots } := by
    obtain ⟨c, d, dt, sl⟩ := io
    simp only at hc hd
    rw [hc, hd]
  refine wpAny_bind (wpAny_setField hm.1 hd (by simp) (wpAny_pure ⟨v, rfl, wpAny_pure ⟨_, rfl, ?_⟩⟩))
  refine h _ (Obj.mapFields (·.setIfInBounds 1 (rawInt ((i : Int) + 1))) io) (F.change (Heap.SameBut.update ..) hm.2.1 hm.2.2) ?_ ?_ ?_
  · rw [hg]
    exact (show News h₀ L s.heap (pre ++ (it, io) :: post) from hlist ▸ N).setIn a b (Heap.SameBut.update ..) (Heap.get?_update_self _ hm.1 (Obj.isFreed_of_fields (Obj.data_mapFields hd _)))
  · exact (Obj.cls_mapFields ..).trans hc
  · rw [Obj.data_mapFields hd]; simp [rawInt]
end

noncomputable def TelC (w : World) (d u : Nat) (f : Value) (args : List Value) (news : Led) (R : Value → Led → Prop) : Prop :=
  ∀ (mean : ExcName → Option Value) (mg mb : Str → Option Value) (dp un : Nat) (gd : Option (List Code)) (cn : Str) (cs : Scope) (a : Addr) (ccd : Value) (cl : List (Str × Addr)) (outer : List Env) (A₀ : Around) (base h₀ : Heap) (L : Addr) (m : Str → Option Value) (s : Shared) (Q E : Value → Shared → Prop),
    Below A₀ base outer h₀ → Fr h₀ L s.heap m → (hd01.heap_1 w.params).In h₀ → News h₀ L s.heap news → Top topProg topL mean mg mb h₀ → CodeHd base 135 131 → CodeHd base 48 44 → CodeHd base 41 37 → cs.kind = .function → dp + d < recursionLimit → un + u < cLine →
    (∀ v h' tk' news', Fr h₀ L h' m → News h₀ L h' news' → R v news' → Q v { s with heap := h', toks := tk' }) →
    codeAny (model Challenge.rw_ty0035_01.row.prog w) (ktrTop dp un gd cn cs L a ccd cl outer) (.call f ⟨args, []⟩) (fun r s' => match r with | .ok (.ret v) => Q v s' | .ok _ => False | .error e => E e s') s
theorem TelC.tel {w : World} {d u : Nat} {f : Value} {args : List Value} {news : Led} {R : Value → Led → Prop} (H : TelC w d u f args news R) : Tel w d u f args news R := by
  intro mean mg mb dp un gd cn cs ad ccd cl outer A₀ base h₀ L m s Q E B F X N T C1 C2 C3 hk hd hu hret
  exact wpAny_call (H mean mg mb dp un gd cn cs ad ccd cl outer A₀ base h₀ L m s Q E B F X N T C1 C2 C3 hk hd hu hret)
end
section
noncomputable def TelCAt (w : World) (d u : Nat) (f : Value) (args : List Value) (news : Led) (R : Value → Led → Prop) (v : TelV) : Prop :=
  Below v.A₀ v.base v.outer v.h₀ → Fr v.h₀ v.L v.s.heap v.m → (hd01.heap_1 w.params).In v.h₀ → News v.h₀ v.L v.s.heap news → Top topProg topL v.mean v.mg v.mb v.h₀ → CodeHd v.base 135 131 → CodeHd v.base 48 44 → CodeHd v.base 41 37 → v.cs.kind = .function → v.dp + d < recursionLimit → v.un + u < cLine →
    (∀ x h' tk' news', Fr v.h₀ v.L h' v.m → News v.h₀ v.L h' news' → R x news' → v.Q x { v.s with heap := h', toks := tk' }) →
    codeAny (model Challenge.rw_ty0035_01.row.prog w) (ktrTop v.dp v.un v.gd v.cn v.cs v.L v.a v.ccd v.cl v.outer) (.call f ⟨args, []⟩) (fun r s' => match r with | .ok (.ret x) => v.Q x s' | .ok _ => False | .error e => v.E e s') v.s
theorem telC_of {w : World} {d u : Nat} {f : Value} {args : List Value} {news : Led} {R : Value → Led → Prop} (h : ∀ v, TelCAt w d u f args news R v) : TelC w d u f args news R :=
  fun mean mg mb dp un gd cn cs a ccd cl outer A₀ base h₀ L m s Q E => h ⟨mean, mg, mb, dp, un, gd, cn, cs, a, ccd, cl, outer, A₀, base, h₀, L, m, s, Q, E⟩
end
section
noncomputable abbrev Mat := Int × Int × Int × Int
noncomputable def mulM (p q : Mat) : Mat := (p.1 * q.1 + p.2.1 * q.2.2.1, p.1 * q.2.1 + p.2.1 * q.2.2.2, p.2.2.1 * q.1 + p.2.2.2 * q.2.2.1, p.2.2.1 * q.2.1 + p.2.2.2 * q.2.2.2)
noncomputable def invM (p : Mat) : Mat := (p.2.2.2, -p.2.1, -p.2.2.1, p.1)
noncomputable abbrev oneM : Mat := (1, 0, 0, 1)
noncomputable def detM (p : Mat) : Int := p.1 * p.2.2.2 - p.2.1 * p.2.2.1
noncomputable def nnM (p : Mat) : Prop := 0 ≤ p.1 ∧ 0 ≤ p.2.1 ∧ 0 ≤ p.2.2.1 ∧ 0 ≤ p.2.2.2
noncomputable def gen (b : Bool) : Mat := if b then (1, 1, 0, 1) else (1, 0, 1, 1)
noncomputable def mw : List Bool → Mat
  | [] => oneM
  | b :: r => mulM (gen b) (mw r)
theorem mat_eq {p q : Mat} (h1 : p.1 = q.1) (h2 : p.2.1 = q.2.1) (h3 : p.2.2.1 = q.2.2.1) (h4 : p.2.2.2 = q.2.2.2) : p = q := Prod.ext h1 (Prod.ext h2 (Prod.ext h3 h4))
theorem mul_assoc (p q r : Mat) : mulM (mulM p q) r = mulM p (mulM q r) := by
  apply mat_eq <;> simp only [mulM] <;> grind
theorem one_mulM (p : Mat) : mulM oneM p = p := by apply mat_eq <;> simp [mulM]
theorem mul_oneM (p : Mat) : mulM p oneM = p := by apply mat_eq <;> simp [mulM]
theorem det_mul (p q : Mat) : detM (mulM p q) = detM p * detM q := by simp only [detM, mulM]; grind
theorem inv_mulM {p : Mat} (h : detM p = 1) : mulM (invM p) p = oneM := by
  simp only [detM] at h
  apply mat_eq <;> simp only [mulM, invM] <;> grind
theorem mul_invM {p : Mat} (h : detM p = 1) : mulM p (invM p) = oneM := by
  simp only [detM] at h
  apply mat_eq <;> simp only [mulM, invM] <;> grind
theorem det_inv (p : Mat) : detM (invM p) = detM p := by simp only [detM, invM]; grind
theorem gen_det (b : Bool) : detM (gen b) = 1 := by cases b <;> rfl
theorem mw_det : ∀ x, detM (mw x) = 1
  | [] => rfl
  | b :: r => by rw [mw, det_mul, gen_det, mw_det r]; rfl
theorem mw_tt (r : List Bool) : mw (true :: r) = ((mw r).1 + (mw r).2.2.1, (mw r).2.1 + (mw r).2.2.2, (mw r).2.2.1, (mw r).2.2.2) := by
  rw [mw]; apply mat_eq <;> simp [mulM, gen]
theorem mw_ff (r : List Bool) : mw (false :: r) = ((mw r).1, (mw r).2.1, (mw r).1 + (mw r).2.2.1, (mw r).2.1 + (mw r).2.2.2) := by
  rw [mw]; apply mat_eq <;> simp [mulM, gen]
theorem mw_nn : ∀ x, nnM (mw x)
  | [] => ⟨by decide, by decide, by decide, by decide⟩
  | true :: r => by
    obtain ⟨h1, h2, h3, h4⟩ := mw_nn r
    rw [mw_tt]
    exact ⟨by show 0 ≤ (mw r).1 + _; omega, by show 0 ≤ (mw r).2.1 + _; omega, h3, h4⟩
  | false :: r => by
    obtain ⟨h1, h2, h3, h4⟩ := mw_nn r
    rw [mw_ff]
    exact ⟨h1, h2, by show 0 ≤ (mw r).1 + _; omega, by show 0 ≤ (mw r).2.1 + _; omega⟩
theorem mw_app : ∀ x y, mw (x ++ y) = mulM (mw x) (mw y)
  | [], y => (one_mulM _).symm
  | b :: r, y => by rw [List.cons_append, mw, mw, mul_assoc, mw_app r y]
noncomputable def topM (p : Mat) : Int := p.1 + p.2.1
noncomputable def lowM (p : Mat) : Int := p.2.2.1 + p.2.2.2
theorem rows_pos {p : Mat} (h : nnM p) (hd : detM p = 1) : 1 ≤ topM p ∧ 1 ≤ lowM p := by
  obtain ⟨h1, h2, h3, h4⟩ := h
  simp only [detM] at hd
  constructor
  · refine Decidable.byContradiction fun hc => ?_
    have e1 : p.1 = 0 := by simp only [topM] at hc; omega
    have e2 : p.2.1 = 0 := by simp only [topM] at hc; omega
    rw [e1, e2] at hd
    simp at hd
  · refine Decidable.byContradiction fun hc => ?_
    have e1 : p.2.2.1 = 0 := by simp only [lowM] at hc; omega
    have e2 : p.2.2.2 = 0 := by simp only [lowM] at hc; omega
    rw [e1, e2] at hd
    simp at hd
theorem mw_pos (x : List Bool) : 1 ≤ topM (mw x) ∧ 1 ≤ lowM (mw x) := rows_pos (mw_nn x) (mw_det x)
theorem top_tt (r : List Bool) : topM (mw (true :: r)) = topM (mw r) + lowM (mw r) ∧ lowM (mw (true :: r)) = lowM (mw r) := by
  rw [mw_tt]; exact ⟨by simp only [topM, lowM]; grind, rfl⟩
theorem top_ff (r : List Bool) : topM (mw (false :: r)) = topM (mw r) ∧ lowM (mw (false :: r)) = topM (mw r) + lowM (mw r) := by
  rw [mw_ff]; exact ⟨rfl, by simp only [topM, lowM]; grind⟩
theorem top_nil : topM (mw []) = 1 ∧ lowM (mw []) = 1 := ⟨rfl, rfl⟩
theorem mul_left_inj {a p q : Mat} (ha : detM a = 1) (h : mulM a p = mulM a q) : p = q := by
  have := congrArg (mulM (invM a)) h
  rwa [← mul_assoc, ← mul_assoc, inv_mulM ha, one_mulM, one_mulM] at this
theorem lt_tt (r : List Bool) : lowM (mw (true :: r)) < topM (mw (true :: r)) := by
  rw [(top_tt r).1, (top_tt r).2]
  exact Int.lt_add_of_pos_left _ (Int.lt_of_lt_of_le (by decide) (mw_pos r).1)
theorem lt_ff (r : List Bool) : topM (mw (false :: r)) < lowM (mw (false :: r)) := by
  rw [(top_ff r).1, (top_ff r).2]
  exact Int.lt_add_of_pos_right _ (Int.lt_of_lt_of_le (by decide) (mw_pos r).2)
theorem mw_inj : ∀ x y, mw x = mw y → x = y
  | [], [], _ => rfl
  | [], true :: r, h => absurd (h ▸ lt_tt r : lowM (mw []) < topM (mw [])) (by decide)
  | [], false :: r, h => absurd (h ▸ lt_ff r : topM (mw []) < lowM (mw [])) (by decide)
  | true :: r, [], h => absurd (h ▸ lt_tt r : lowM (mw []) < topM (mw [])) (by decide)
  | false :: r, [], h => absurd (h ▸ lt_ff r : topM (mw []) < lowM (mw [])) (by decide)
  | true :: r, false :: t, h => absurd (h ▸ lt_tt r) (Int.lt_asymm (lt_ff t))
  | false :: r, true :: t, h => absurd (h ▸ lt_ff r) (Int.lt_asymm (lt_tt t))
  | true :: r, true :: t, h => by rw [mw_inj r t (mul_left_inj (gen_det true) h)]
  | false :: r, false :: t, h => by rw [mw_inj r t (mul_left_inj (gen_det false) h)]
theorem det_zero {a b c d : Int} (h : a * d - b * c = 1) (h1 : a = 0 ∨ d = 0) (h2 : b = 0 ∨ c = 0) : False := by
  have e1 : a * d = 0 := by rcases h1 with rfl | rfl <;> simp
  have e2 : b * c = 0 := by rcases h2 with rfl | rfl <;> simp
  rw [e1, e2] at h
  cases h
theorem mul_lt' {a b c d : Int} (h1 : c < a) (h2 : b < d) (hb : 0 ≤ b) (hc : 0 ≤ c) : b * c + (b + c) < a * d := by
  have e1 : (c + 1) * (b + 1) ≤ a * d := Int.mul_le_mul h1 h2 (Int.le_trans hb (Int.le_of_lt (Int.lt_succ b))) (Int.le_trans hc (Int.le_of_lt h1))
  have e2 : (c + 1) * (b + 1) = b * c + (b + c) + 1 := by grind
  rw [e2] at e1
  exact e1
theorem mw_surj : ∀ (n : Nat) (a b c d : Int), 0 ≤ a → 0 ≤ b → 0 ≤ c → 0 ≤ d → a * d - b * c = 1 → a + b + c + d ≤ n → ∃ x, mw x = (a, b, c, d) := by
  intro n
  induction n with
  | zero =>
    intro a b c d ha hb hc hd h hn
    exact (det_zero h (.inl (by omega)) (.inl (by omega))).elim
  | succ n ih =>
    intro a b c d ha hb hc hd h hn
    by_cases h1 : c ≤ a ∧ d ≤ b
    · have hp : c + d ≠ 0 := fun e => det_zero h (.inr (by omega)) (.inr (by omega))
      obtain ⟨x, hx⟩ := ih (a - c) (b - d) c d (by omega) (by omega) hc hd (by grind) (by omega)
      refine ⟨true :: x, ?_⟩
      rw [mw_tt, hx]
      apply mat_eq <;> simp
    · by_cases h2 : a ≤ c ∧ b ≤ d
      · have hp : a + b ≠ 0 := fun e => det_zero h (.inl (by omega)) (.inl (by omega))
        obtain ⟨x, hx⟩ := ih a b (c - a) (d - b) ha hb (by omega) (by omega) (by grind) (by omega)
        refine ⟨false :: x, ?_⟩
        rw [mw_ff, hx]
        apply mat_eq <;> simp <;> omega
      · by_cases h3 : c < a
        · have hbd : b < d := by omega
          have e1 := mul_lt' h3 hbd hb hc
          have hb0 : b = 0 := by omega
          have hc0 : c = 0 := by omega
          subst hb0 hc0
          have hd1 : d = 1 := by
            have e3 : 1 * d ≤ a * d := Int.mul_le_mul_of_nonneg_right h3 hd
            omega
          subst hd1
          have ha1 : a = 1 := by omega
          subst ha1
          exact ⟨[], rfl⟩
        · exfalso
          by_cases h4 : a = c
          · omega
          have e1 := mul_lt' (a := c) (c := a) (b := d) (d := b) (by omega) (by omega) hd ha
          have e2 : d * a = a * d := Int.mul_comm _ _
          have e3 : c * b = b * c := Int.mul_comm _ _
          omega
theorem mw_of {p : Mat} (h : nnM p) (hd : detM p = 1) : ∃ x, mw x = p := by
  obtain ⟨a, b, c, d⟩ := p
  obtain ⟨h1, h2, h3, h4⟩ := h
  simp only [] at h1 h2 h3 h4
  exact mw_surj (a + b + c + d).toNat a b c d h1 h2 h3 h4 hd (by omega)
theorem left_app (x z : List Bool) : mulM (invM (mw x)) (mw (x ++ z)) = mw z := by
  rw [mw_app, ← mul_assoc, inv_mulM (mw_det x), one_mulM]
theorem right_app (z y : List Bool) : mulM (mw (z ++ y)) (invM (mw y)) = mw z := by
  rw [mw_app, mul_assoc, mul_invM (mw_det y), mul_oneM]
theorem left_det (x : List Bool) {p : Mat} (h : detM p = 1) : detM (mulM (invM (mw x)) p) = 1 := by rw [det_mul, det_inv, mw_det, h]; rfl
theorem right_det (x : List Bool) {p : Mat} (h : detM p = 1) : detM (mulM p (invM (mw x))) = 1 := by rw [det_mul, det_inv, mw_det, h]; rfl
theorem left_back (x : List Bool) (p : Mat) : mulM (mw x) (mulM (invM (mw x)) p) = p := by rw [← mul_assoc, mul_invM (mw_det x), one_mulM]
theorem right_back (x : List Bool) (p : Mat) : mulM (mulM p (invM (mw x))) (mw x) = p := by rw [mul_assoc, inv_mulM (mw_det x), mul_oneM]
theorem left_one (x y : List Bool) : mulM (invM (mw x)) (mw y) = oneM ↔ x = y := by
  constructor
  · intro h
    have := left_back x (mw y)
    rw [h, mul_oneM] at this
    exact mw_inj _ _ this
  · rintro rfl
    exact inv_mulM (mw_det x)
theorem left_nn (x y : List Bool) : nnM (mulM (invM (mw x)) (mw y)) ↔ x <+: y := by
  constructor
  · intro h
    obtain ⟨z, hz⟩ := mw_of h (left_det x (mw_det y))
    have := left_back x (mw y)
    rw [← hz, ← mw_app] at this
    exact ⟨z, mw_inj _ _ this⟩
  · rintro ⟨z, rfl⟩
    rw [left_app]
    exact mw_nn z
theorem both_nn (x y t : List Bool) : nnM (mulM (mulM (invM (mw x)) (mw y)) (invM (mw t))) ↔ ∃ z, y = x ++ z ++ t := by
  constructor
  · intro h
    obtain ⟨z, hz⟩ := mw_of h (right_det t (left_det x (mw_det y)))
    have h1 := right_back t (mulM (invM (mw x)) (mw y))
    rw [← hz, ← mw_app] at h1
    have h2 := left_back x (mw y)
    rw [← h1, ← mw_app, ← List.append_assoc] at h2
    exact ⟨z, (mw_inj _ _ h2).symm⟩
  · rintro ⟨z, rfl⟩
    rw [List.append_assoc, left_app, right_app]
    exact mw_nn z
theorem both_is (x z t : List Bool) : mulM (mulM (invM (mw x)) (mw (x ++ z ++ t))) (invM (mw t)) = mw z := by
  rw [List.append_assoc, left_app, right_app]
noncomputable def beh {α : Type} [DecidableEq α] (k : List α) : List α → Option (List α)
  | [] => if k = [] then some [] else none
  | x :: r => if k <+: x :: r then some ((x :: r).drop k.length) else beh k r
theorem beh_map {α β : Type} [DecidableEq α] [DecidableEq β] (f : α → β) (hf : ∀ a b, f a = f b → a = b) (k : List α) : ∀ m, beh (k.map f) (m.map f) = (beh k m).map (·.map f)
  | [] => by simp only [List.map_nil, beh, List.map_eq_nil_iff]; split <;> rfl
  | x :: r => by
    have e : (k.map f <+: (x :: r).map f) ↔ k <+: x :: r := by
      constructor
      · intro h
        have h1 := List.prefix_iff_eq_take.mp h
        rw [List.length_map, ← List.map_take] at h1
        have h2 := (List.map_inj_right hf).mp h1
        rw [h2]
        exact List.take_prefix _ _
      · exact fun h => h.map f
    show (if k.map f <+: f x :: r.map f then some ((f x :: r.map f).drop (k.map f).length) else beh (k.map f) (r.map f)) = _
    rw [← List.map_cons, List.length_map, ← List.map_drop]
    show _ = (if k <+: x :: r then some ((x :: r).drop k.length) else beh k r).map _
    by_cases h : k <+: x :: r
    · rw [if_pos h, if_pos (e.mpr h)]; rfl
    · rw [if_neg h, if_neg (fun z => h (e.mp z)), beh_map f hf k r]
theorem run_tt : ∀ r, lowM (mw r) < topM (mw r) → ∃ n r', r = List.replicate (n + 1) true ++ r' ∧ topM (mw r) = ((n + 1 : Nat) : Int) * lowM (mw r) + topM (mw r') ∧ lowM (mw r') = lowM (mw r) ∧ topM (mw r') ≤ lowM (mw r')
  | [], h => by have := top_nil; omega
  | false :: t, h => by have := top_ff t; have := mw_pos t; omega
  | true :: t, h => by
    obtain ⟨e1, e2⟩ := top_tt t
    by_cases hc : lowM (mw t) < topM (mw t)
    · obtain ⟨n, r', f1, f2, f3, f4⟩ := run_tt t hc
      refine ⟨n + 1, r', by rw [f1]; rfl, ?_, by rw [f3, e2], f4⟩
      rw [e1, e2, f2]
      push_cast
      grind
    · refine ⟨0, t, rfl, ?_, by rw [e2], by omega⟩
      rw [e1, e2]
      push_cast
      grind
theorem run_ff : ∀ r, topM (mw r) < lowM (mw r) → ∃ n r', r = List.replicate (n + 1) false ++ r' ∧ lowM (mw r) = ((n + 1 : Nat) : Int) * topM (mw r) + lowM (mw r') ∧ topM (mw r') = topM (mw r) ∧ lowM (mw r') ≤ topM (mw r')
  | [], h => by have := top_nil; omega
  | true :: t, h => by have := top_tt t; have := mw_pos t; omega
  | false :: t, h => by
    obtain ⟨e1, e2⟩ := top_ff t
    by_cases hc : topM (mw t) < lowM (mw t)
    · obtain ⟨n, r', f1, f2, f3, f4⟩ := run_ff t hc
      refine ⟨n + 1, r', by rw [f1]; rfl, ?_, by rw [f3, e1], f4⟩
      rw [e1, e2, f2]
      push_cast
      grind
    · refine ⟨0, t, rfl, ?_, by rw [e1], by omega⟩
      rw [e1, e2]
      push_cast
      grind
theorem top_eq : ∀ r, topM (mw r) = lowM (mw r) → r = []
  | [], _ => rfl
  | true :: t, h => by have := top_tt t; have := mw_pos t; omega
  | false :: t, h => by have := top_ff t; have := mw_pos t; omega
theorem suff_le (r : List Bool) : ∀ d, topM (mw r) ≤ topM (mw (d ++ r)) ∧ lowM (mw r) ≤ lowM (mw (d ++ r))
  | [] => ⟨Int.le_refl _, Int.le_refl _⟩
  | true :: d => by have := top_tt (d ++ r); have := mw_pos (d ++ r); have := suff_le r d; rw [List.cons_append]; omega
  | false :: d => by have := top_ff (d ++ r); have := mw_pos (d ++ r); have := suff_le r d; rw [List.cons_append]; omega
noncomputable def sgn (u v : Nat) (x : List Bool) : List Nat := x.map fun b => if b then u else v
theorem sgn_app (u v : Nat) (x y : List Bool) : sgn u v (x ++ y) = sgn u v x ++ sgn u v y := List.map_append
theorem sgn_len (u v : Nat) (x : List Bool) : (sgn u v x).length = x.length := List.length_map ..
theorem sgn_rep (u v n : Nat) (b : Bool) : sgn u v (List.replicate n b) = List.replicate n (if b then u else v) := List.map_replicate
theorem sgn_tt (u v n : Nat) : sgn u v (List.replicate n true) = List.replicate n u := by simp [sgn]
theorem sgn_ff (u v n : Nat) : sgn u v (List.replicate n false) = List.replicate n v := by simp [sgn]
theorem sgn_inj {u v : Nat} (h : u ≠ v) {x y : List Bool} (e : sgn u v x = sgn u v y) : x = y :=
  (List.map_inj_right (fun a b => by cases a <;> cases b <;> simp <;> omega)).mp e
theorem beh_pos {k r : List Bool} (h : k <+: r) : beh k r = some (r.drop k.length) := by
  cases r with
  | nil =>
    have : k = [] := List.prefix_nil.mp h
    subst this
    rfl
  | cons b r => exact if_pos h
theorem beh_neg {k r : List Bool} {b : Bool} (h : ¬ k <+: b :: r) : beh k (b :: r) = beh k r := if_neg h
theorem beh_none {k : List Bool} (h : ¬ k <+: []) : beh k [] = none := if_neg fun e => h (by rw [e]; exact List.prefix_refl _)
noncomputable def smallI (x : Int) : Prop := -(2 ^ 60) < x ∧ x < 2 ^ 60
noncomputable def smallM (p : Mat) : Prop := smallI p.1 ∧ smallI p.2.1 ∧ smallI p.2.2.1 ∧ smallI p.2.2.2
theorem small_of {p : Mat} (h : nnM p) (h1 : topM p < 2 ^ 60) (h2 : lowM p < 2 ^ 60) : smallM p := by
  obtain ⟨a1, a2, a3, a4⟩ := h
  simp only [topM, lowM] at h1 h2
  refine ⟨⟨?_, ?_⟩, ⟨?_, ?_⟩, ⟨?_, ?_⟩, ⟨?_, ?_⟩⟩ <;> omega
end
section
open PySem PySem.W PyProof.Rows PySem.Spec PySem.Calls PyProof.Rows.LCg
theorem compTurn_20 (elt target iter target2 iter2 : Expr) (scope : Scope) (pos : Pos) (it acc : Value) (env : Env) :
    compTurn (.ListComp elt [⟨target, iter, [], 0⟩, ⟨target2, iter2, [], 0⟩] scope pos) 0 it acc env = (standAt iter.pos >>= fun _ => pyNext it >>= fun r => match r with
      | none => pure (.done .next)
      | some v => letOwnedTupleGo target it v >>= fun _ => assign target env v >>= fun _ =>
        eval iter2 env >>= fun x => standAt iter2.pos >>= fun _ => foldedSetIterable iter2 env x >>= fun x => holding [x] (pyIter x) >>= fun i1 => runOwn (.compStart (.ListComp elt [⟨target, iter, [], 0⟩, ⟨target2, iter2, [], 0⟩] scope pos) 1 i1 acc env) env >>= fun _ =>
          again (.compLoop (.ListComp elt [⟨target, iter, [], 0⟩, ⟨target2, iter2, [], 0⟩] scope pos) 0 it acc env)) := by rfl
theorem compTurn_21 (elt target iter : Expr) (g0 : Comprehension) (scope : Scope) (pos : Pos) (it acc : Value) (env : Env) :
    compTurn (.ListComp elt [g0, ⟨target, iter, [], 0⟩] scope pos) 1 it acc env = (standAt iter.pos >>= fun _ => pyNext it >>= fun r => match r with
      | none => pure (.done .next)
      | some v => letOwnedTupleGo target it v >>= fun _ => assign target env v >>= fun _ =>
        (eval elt env >>= fun x => call (.builtin "list.append") [acc, x] >>= fun _ => pure ()) >>= fun _ =>
          again (.compLoop (.ListComp elt [g0, ⟨target, iter, [], 0⟩] scope pos) 1 it acc env)) := by rfl
section
variable {prog : Program} {w : World} {A : Around} {E : Value → Shared → Prop} {R : Result → Shared → Prop} {s : Shared}
theorem loop21 {elt target iter : Expr} {g0 : Comprehension} {scope : Scope} {pos : Pos} {it acc : Value} {env : Env} (I : Nat → Shared → Prop)
    (turn : ∀ n s, I n s → ∀ E', wpAny (model prog w) A (pyNext it) (fun r s₁ => match r with
      | none => R (.ok .next) s₁
      | some v => ∀ E', wpAny (model prog w) A (assign target env v) (fun _ s₂ => ∀ E', wpAny (model prog w) A (eval elt env) (fun x s₃ =>
          ∀ E', wpAny (model prog w) A (call (.builtin "list.append") [acc, x]) (fun _ s₄ => ∃ m, m < n ∧ I m s₄) E' s₃) E' s₂) E' s₁) E' s)
    (n : Nat) (h : I n s) (ht : ∀ v, letOwnedTupleGo target it v = pure () := by intro _; rfl) : codeAny (model prog w) A (.compLoop (.ListComp elt [g0, ⟨target, iter, [], 0⟩] scope pos) 1 it acc env) R s := by
  refine codeAny_loop rfl I (fun n s hI => ?_) n h
  show wpAny _ A ((compTurn (.ListComp elt [g0, ⟨target, iter, [], 0⟩] scope pos) 1 it acc env).onRaise (fun x => do noteFrame x env; theTreesLotGoes x)) _ _ s
  refine wpAny_noted ?_
  rw [compTurn_21]
  refine wpAny_bind (wpAny_standAt (wpAny_bind (wpAny_mono (turn n s hI _) (fun r s₁ h₁ => ?_) fun _ _ h' => h')))
  cases r with
  | none => exact wpAny_pure h₁
  | some v =>
    refine wpAny_bind (wpAny_of_eq (ht v) ?_)
    refine wpAny_bind (wpAny_mono (h₁ _) (fun _ s₂ h₂ => ?_) fun _ _ h' => h')
    exact wpAny_bind (wpAny_bind (wpAny_mono (h₂ _) (fun x s₃ h₃ => wpAny_bind (wpAny_mono (h₃ _) (fun _ s₄ h₄ => wpAny_pure (wpAny_pure ⟨rfl, h₄⟩)) fun _ _ h' => h')) fun _ _ h' => h'))
theorem start21 {elt target iter : Expr} {g0 : Comprehension} {scope : Scope} {pos : Pos} {it acc : Value} {env : Env}
    (h0 : codeAny (model prog w) A (.compLoop (.ListComp elt [g0, ⟨target, iter, [], 0⟩] scope pos) 1 it acc env) R s)
    (h : ∀ E', wpAny (model prog w) A (pyIter it) (fun it' s' => codeAny (model prog w) A (.compLoop (.ListComp elt [g0, ⟨target, iter, [], 0⟩] scope pos) 1 it' acc env) R s') E' s) :
    codeAny (model prog w) A (.compStart (.ListComp elt [g0, ⟨target, iter, [], 0⟩] scope pos) 1 it acc env) R s := by
  refine codeAny_of_tree ?_
  show wpAny _ _ ((compStart (.ListComp elt [g0, ⟨target, iter, [], 0⟩] scope pos) 1 it acc env).onRaise (fun x => do noteFrame x env; standAt theWindowsPlace)) _ _ s
  refine wpAny_notedAt ?_
  unfold compStart
  show wpAny _ _ (ask >>= _) _ _ s
  refine wpAny_bind (wpAny_askSetting (wpAny_ite ?_))
  split
  · first
      | exact wpAny_bind (wpAny_pure (wpAny_pure (And.intro rfl h0)))
      | exact wpAny_pure (And.intro rfl h0)
  · first
      | exact wpAny_bind (wpAny_rule (wpAny_bind (wpAny_standAt (wpAny_bind (wpAny_mono (h _) (fun it' s' h' => wpAny_pure (And.intro rfl h')) fun _ _ x => x)))))
      | (refine wpAny_bind (wpAny_rule ?_); show wpAny _ _ (standAt iter.pos >>= _) _ _ s; exact wpAny_bind (wpAny_standAt (wpAny_bind (wpAny_mono (h _) (fun it' s' h' => wpAny_pure (And.intro rfl h')) fun _ _ x => x))))
theorem loop20 {elt target iter target2 iter2 : Expr} {scope : Scope} {pos : Pos} {it acc : Value} {env : Env} (I : Nat → Shared → Prop)
    (turn : ∀ n s, I n s → ∀ E', wpAny (model prog w) A (pyNext it) (fun r s₁ => match r with
      | none => R (.ok .next) s₁
      | some v => ∀ E', wpAny (model prog w) A (assign target env v) (fun _ s₂ => ∀ E', wpAny (model prog w) A (eval iter2 env) (fun x s₃ =>
          ∀ E', wpAny (model prog w) A (pyIter x) (fun i1 s₄ => ∀ E' : Value → Shared → Prop, codeAny (model prog w) A (.compStart (.ListComp elt [⟨target, iter, [], 0⟩, ⟨target2, iter2, [], 0⟩] scope pos) 1 i1 acc env) (fun r s₅ => match r with | .ok _ => ∃ m, m < n ∧ I m s₅ | .error e => E' e s₅) s₄) E' s₃) E' s₂) E' s₁) E' s)
    (n : Nat) (h : I n s) (ht : ∀ v, letOwnedTupleGo target it v = pure () := by intro _; rfl) (hs : ∀ x, foldedSetIterable iter2 env x = pure x := by intro _; rfl) : codeAny (model prog w) A (.compLoop (.ListComp elt [⟨target, iter, [], 0⟩, ⟨target2, iter2, [], 0⟩] scope pos) 0 it acc env) R s := by
  refine codeAny_loop rfl I (fun n s hI => ?_) n h
  show wpAny _ A ((compTurn (.ListComp elt [⟨target, iter, [], 0⟩, ⟨target2, iter2, [], 0⟩] scope pos) 0 it acc env).onRaise (fun x => do noteFrame x env; theTreesLotGoes x)) _ _ s
  refine wpAny_noted ?_
  rw [compTurn_20]
  refine wpAny_bind (wpAny_standAt (wpAny_bind (wpAny_mono (turn n s hI _) (fun r s₁ h₁ => ?_) fun _ _ h' => h')))
  cases r with
  | none => exact wpAny_pure h₁
  | some v =>
    refine wpAny_bind (wpAny_of_eq (ht v) ?_)
    refine wpAny_bind (wpAny_mono (h₁ _) (fun _ s₂ h₂ => ?_) fun _ _ h' => h')
    refine wpAny_bind (wpAny_mono (h₂ _) (fun x s₃ h₃ => wpAny_bind (wpAny_standAt (wpAny_bind (wpAny_of_eq (hs x) ?_)))) fun _ _ h' => h')
    refine wpAny_bind (wpAny_holding (wpAny_mono (h₃ _) (fun i1 s₄ h₄ => ?_) fun _ _ h' => h'))
    exact wpAny_bind (wpAny_mono (wpAny_runOwn (Q := fun _ s₅ => ∃ m, m < n ∧ I m s₅) (h₄ _)) (fun _ s₅ h₅ => wpAny_pure ⟨rfl, h₅⟩) fun _ _ h' => h')
end
end
section
open PySem PySem.W PyProof.Rows PySem.Spec PySem.Calls PyProof.Rows.LCg
inductive I2Inv (h₀ : Heap) (L : Addr) (m : Str → Option Value) (s : Shared) (us ys : List Value) (St1 : Nat → Heap → Prop) (I C D : Addr) (oI : Obj) (news : Led) (k : Nat) (s' : Shared) : Prop
  | mk (h' : Heap) (tk j : Nat) (m' : Str → Option Value) (zh1 : s' = { s with heap := h', toks := tk }) (zh2 : j ≤ us.length) (zh3 : k = us.length + 1 - j) (zh4 : St1 j h') (zh5 : Fr h₀ L h' m) (zh6 : h'.Ns C m') (zh7 : News h₀ L h' ((I, oI) :: (D, lst (ys ++ us.take j)) :: news))
section
variable {prog : Program} {w : World} {A : Around} {E : Value → Shared → Prop} {R : Result → Shared → Prop} {s : Shared} {h₀ : Heap} {L : Addr} {m : Str → Option Value} {env : Env}
theorem innerC {x2 : Str} {px2 px3 : Pos} {iter2 : Expr} {g0 : Comprehension} {scope : Scope} {pos : Pos} {cl : List (Str × Addr)} {I I1 C D : Addr} {m₂ : Str → Option Value} {oI : Obj} {ys us : List Value} {news : Led} {fp1 : List Addr} {P1 : Nat → Value → Prop} {St1 : Nat → Heap → Prop}
    (W1 : Walks prog w A I1 fp1 [I1] us.length P1 St1) (hP1 : ∀ j v, j < us.length → P1 j v → us[j]? = some v) (hsz : ys.length + us.length ≤ sizeLine)
    (hx2 : scope.names.lookup x2 = some .local) (hkind : scope.kind = .function) (hdb : (x2 == ("__debug__" : Str)) = false)
    (hst : St1 0 s.heap) (hDf : D ∉ fp1) (hCf : C ∉ fp1) (h1L : L ≠ I1) (h1I : I ≠ I1) (h1C : C ≠ I1) (h1D : D ≠ I1) (h1₀ : h₀.get? I1 = none) (h1n : ∀ p ∈ news, p.1 ≠ I1)
    (F : Fr h₀ L s.heap m) (N : News h₀ L s.heap ((I, oI) :: (D, lst ys) :: news)) (hC : s.heap.Ns C m₂) (hC₀ : h₀.get? C = none) (hCL : C ≠ L) (nIC : I ≠ C) (nID : I ≠ D) (nCD : C ≠ D) (off : Off3 I C D news)
    (hR : ∀ h tk m', Fr h₀ L h m → h.Ns C m' → News h₀ L h ((I, oI) :: (D, lst (ys ++ us)) :: news) → R (.ok .next) { s with heap := h, toks := tk }) :
    codeAny (model prog w) A (.compLoop (.ListComp (.Name x2 px3) [g0, ⟨.Name x2 px2, iter2, [], 0⟩] scope pos) 1 (.ref I1) (.ref D) (compEnvC scope cl C env)) R s := by
  have off3 := off.mem
  refine loop21 (I2Inv h₀ L m s us ys St1 I C D oI news) ?_ (us.length + 1) ⟨s.heap, s.toks, 0, m₂, rfl, Nat.zero_le _, rfl, hst, F, hC, by rw [List.take_zero, List.append_nil]; exact N⟩
  rintro k s' ⟨h', tk, j, m', rfl, hj, rfl, hst', F', hn', N'⟩ E'
  by_cases hlt : j < us.length
  · refine W1.item j _ _ _ hlt hst' fun v h₂ tk₂ hPv hst₂ hk₂ => ?_
    have hv := hP1 j v hlt hPv
    intro E'
    refine wpAny_assign_Name (wpAny_storeName_local (lookup_relabel_local hx2) (hn'.at' fun o e => hk₂ _ o (by simpa using h1C) e) (fun h₃ hn₃ hs₃ => ?_) (by simp [compEnvC, relabel, hkind]))
    intro E'
    refine wpAny_Name (wpAny_loadName_local hkind (lookup_relabel_local hx2) hn₃ (v := v) (by simp) ?_) hdb
    intro E'
    have F₃ : Fr h₀ L h₃ m := (fr_but F' hk₂ h1L h1₀).change hs₃ hCL hC₀
    have N₂ : News h₀ L h₂ ((I, oI) :: (D, lst (ys ++ us.take j)) :: news) := news_but N' hk₂ fun p hp => by
      rcases List.mem_cons.mp hp with rfl | hp
      · exact h1I
      rcases List.mem_cons.mp hp with rfl | hp
      · exact h1D
      · exact h1n p hp
    have hst₃ : St1 (j + 1) h₃ := W1.frame _ _ _ hst₂ fun b hb o e => hs₃.extBut b o (fun q => hCf (by have q' : b = C := q; rw [← q']; exact hb)) e
    have N₃ : News h₀ L h₃ ((I, oI) :: (D, lst (ys ++ us.take j)) :: news) := fun p hp => by
      have z := N₂ p hp
      refine ⟨hs₃.extBut _ _ ?_ z.1, z.2⟩
      rcases List.mem_cons.mp hp with rfl | hp
      · exact nIC
      rcases List.mem_cons.mp hp with rfl | hp
      · exact Ne.symm nCD
      · exact (off3 p hp).2.1
    have zD := (N₃ _ (.tail _ (.head _))).1
    have tl : (us.take j).length = j := by rw [List.length_take]; exact Nat.min_eq_left hj
    refine append_at (hsz := by show (ys ++ us.take j).toArray.size ≤ sizeLine; rw [List.size_toArray, List.length_append, tl]; exact Nat.le_trans (Nat.add_le_add_left hj _) hsz) zD fun h₅ hs₅ hD₅ => ?_
    refine ⟨us.length + 1 - (j + 1), by omega, h₅, _, j + 1, _, rfl, hlt, rfl, W1.frame _ _ _ hst₃ fun b hb o e => hs₅.extBut b o (fun q => hDf (q ▸ hb)) e, F₃.change hs₅ ((N₃ _ (.tail _ (.head _))).2.1) ((N₃ _ (.tail _ (.head _))).2.2), hn₃.sameBut hs₅ nCD, ?_⟩
    have e1 : ys ++ us.take (j + 1) = (ys ++ us.take j) ++ [v] := by rw [List.take_add_one, hv]; simp
    rw [e1]
    intro p hp
    rcases List.mem_cons.mp hp with rfl | hp
    · have z := N₃ _ (.head _)
      exact ⟨hs₅.extBut _ _ nID z.1, z.2⟩
    rcases List.mem_cons.mp hp with rfl | hp
    · exact ⟨hD₅.trans (congrArg some (lst_snoc _ v)), (N₃ _ (.tail _ (.head _))).2⟩
    · have z := N₃ p (.tail _ (.tail _ hp))
      exact ⟨hs₅.extBut _ _ (off3 p hp).2.2 z.1, z.2⟩
  · have hje : j = us.length := by omega
    subst hje
    refine W1.done _ _ _ hst' fun h₂ tk₂ hk₂ => ?_
    rw [List.take_length] at N'
    exact hR h₂ tk₂ m' (fr_but F' hk₂ h1L h1₀) (hn'.at' fun o e => hk₂ _ o (by simpa using h1C) e) (news_but N' hk₂ fun p hp => by
      rcases List.mem_cons.mp hp with rfl | hp
      · exact h1I
      rcases List.mem_cons.mp hp with rfl | hp
      · exact h1D
      · exact h1n p hp)
noncomputable def Items (xv : Value) (us : List Value) (news : Led) : Prop := ∃ a o n, xv = .ref a ∧ (a, o) ∈ news ∧ (o.cls = .type "list" ∨ o.cls = .type "tuple") ∧ o.data = .seq us.toArray n
noncomputable def CompRest2 (prog : Program) (w : World) (A : Around) (h₀ : Heap) (L : Addr) (m : Str → Option Value) (env : Env) (iter2 : Expr) (x : Str) (scope : Scope) (cl : List (Str × Addr)) (s : Shared) (S : Led → Prop) (P : Nat → Value → Prop)
    (Fin : List Value → Led → Prop) : Nat → Nat → List Value → Led → Prop
  | 0, _, ys, news => Fin ys news
  | k + 1, i, ys, news => ∀ v I oI C oC D m₂ h tk (E' : Value → Shared → Prop), P i v → NsObj oC m₂ → m₂ x = some v → Fr h₀ L h m → News h₀ L h ((I, oI) :: (C, oC) :: (D, lst ys) :: news) → Off3 I C D news → ((@Ne Nat I C) ∧ (@Ne Nat I D) ∧ (@Ne Nat C D)) →
      wpAny (model prog w) A (eval iter2 (compEnvC scope cl C env)) (CompEnd h₀ L m { s with heap := h, toks := tk } I oI C oC D (lst ys) S (fun xv news' => ∃ us, Items xv us news' ∧ ys.length + us.length ≤ sizeLine ∧ CompRest2 prog w A h₀ L m env iter2 x scope cl s S P Fin k (i + 1) (ys ++ us) news')) E' { s with heap := h, toks := tk }
end
end
section
open PySem PySem.W PyProof.Rows PySem.Spec PySem.Calls PyProof.Rows.LCg
section
variable {prog : Program} {w : World} {A : Around} {E : Value → Shared → Prop} {R : Result → Shared → Prop} {s : Shared} {h₀ : Heap} {L : Addr} {m : Str → Option Value} {env : Env}
theorem inner_start {x2 : Str} {px2 px3 : Pos} {iter2 : Expr} {g0 : Comprehension} {scope : Scope} {pos : Pos} {cl : List (Str × Addr)} {I C D : Addr} {m₂ : Str → Option Value} {oI oC : Obj} {ys us : List Value} {news : Led} {xv : Value}
    (hh : A.handled = none) (hIt : Items xv us news) (hsz : ys.length + us.length ≤ sizeLine)
    (hx2 : scope.names.lookup x2 = some .local) (hkind : scope.kind = .function) (hdb : (x2 == ("__debug__" : Str)) = false)
    (F : Fr h₀ L s.heap m) (N : News h₀ L s.heap ((I, oI) :: (C, oC) :: (D, lst ys) :: news)) (hC : s.heap.Ns C m₂) (nIC : I ≠ C) (nID : I ≠ D) (nCD : C ≠ D) (off : Off3 I C D news)
    (hR : ∀ h tk m', Fr h₀ L h m → h.Ns C m' → News h₀ L h ((I, oI) :: (D, lst (ys ++ us)) :: news) → R (.ok .next) { s with heap := h, toks := tk }) :
    wpAny (model prog w) A (pyIter xv) (fun i1 s₄ => codeAny (model prog w) A (.compStart (.ListComp (.Name x2 px3) [g0, ⟨.Name x2 px2, iter2, [], 0⟩] scope pos) 1 i1 (.ref D) (compEnvC scope cl C env)) R s₄) E s := by
  obtain ⟨a, o, n, rfl, ha, hcls, hdata⟩ := hIt
  have ha' := N (a, o) (.tail _ (.tail _ (.tail _ ha)))
  have hlt : ∀ p ∈ (I, oI) :: (C, oC) :: (D, lst ys) :: news, @LT.lt Nat _ p.1 s.heap.objs.size := fun p hp => Heap.lt_size (N p hp).1
  have lI := hlt _ (.head _)
  have lC := hlt _ (.tail _ (.head _))
  have lD := hlt _ (.tail _ (.tail _ (.head _)))
  have la := hlt _ (.tail _ (.tail _ (.tail _ ha)))
  have lL : @LT.lt Nat _ L s.heap.objs.size := F.ns.lt
  have offa := off.mem (a, o) ha
  have zC := N (C, oC) (.tail _ (.head _))
  have up : ∀ (q : Obj) b o', s.heap.get? b = some o' → (s.heap.push q).get? b = some o' := fun q b o' e => Heap.get?_push_of_some _ e
  have N' : News h₀ L s.heap ((I, oI) :: (D, lst ys) :: news) := fun p hp => N p (by
    rcases List.mem_cons.mp hp with rfl | hp
    · exact .head _
    · exact .tail _ (.tail _ hp))
  have key : ∀ (q : Obj) (P1 : Nat → Value → Prop) (St1 : Nat → Heap → Prop), Walks prog w A s.heap.objs.size [s.heap.objs.size, a] [s.heap.objs.size] us.length P1 St1 → (∀ j v, j < us.length → P1 j v → us[j]? = some v) → St1 0 (s.heap.push q) →
      codeAny (model prog w) A (.compStart (.ListComp (.Name x2 px3) [g0, ⟨.Name x2 px2, iter2, [], 0⟩] scope pos) 1 (.ref s.heap.objs.size) (.ref D) (compEnvC scope cl C env)) R { s with heap := s.heap.push q } := by
    intro q P1 St1 W1 hP1 hst
    have hD0 : D ∉ [s.heap.objs.size, a] := by
      simp only [List.mem_cons, List.not_mem_nil, or_false, not_or]
      exact ⟨Nat.ne_of_lt lD, Ne.symm offa.2.2⟩
    have hC0 : C ∉ [s.heap.objs.size, a] := by
      simp only [List.mem_cons, List.not_mem_nil, or_false, not_or]
      exact ⟨Nat.ne_of_lt lC, Ne.symm offa.2.1⟩
    have main := innerC (prog := prog) (w := w) (A := A) (R := R) (s := { s with heap := s.heap.push q }) (h₀ := h₀) (L := L) (m := m) (env := env) (x2 := x2) (px2 := px2) (px3 := px3) (iter2 := iter2) (g0 := g0) (scope := scope) (pos := pos) (cl := cl) (I := I) (oI := oI) (ys := ys) (us := us) (news := news)
      W1 hP1 hsz hx2 hkind hdb hst hD0 hC0 (Nat.ne_of_lt lL) (Nat.ne_of_lt lI) (Nat.ne_of_lt lC) (Nat.ne_of_lt lD) (next_is_new F) (fun p hp => Nat.ne_of_lt (hlt p (.tail _ (.tail _ (.tail _ hp)))))
      (F.keeps (up q)) (N'.grown (up q)) (hC.at' fun o' e => up q _ o' e) zC.2.2 zC.2.1 nIC nID nCD off hR
    exact start21 main fun E' => W1.self 0 _ _ _ hst main
  rcases hcls with hc | hc
  · have hl : s.heap.IsList a us.toArray := ⟨o, ha'.1, hc, n, hdata⟩
    refine wpAny_pyIter_list hl ?_
    have W := Walks.list (prog := prog) (w := w) hh s.heap.objs.size a (Nat.ne_of_lt la) us.toArray
    rw [List.size_toArray] at W
    exact key _ _ _ W (fun j v _ e => by simpa using e) ⟨⟨_, Heap.get?_push_size _ rfl, rfl, rfl⟩, hl.push _⟩
  · have hl : s.heap.IsTuple a us.toArray := ⟨o, ha'.1, hc, n, hdata⟩
    refine wpAny_pyIter_tuple hl ?_
    have W := Walks.tuple (prog := prog) (w := w) hh s.heap.objs.size a (Nat.ne_of_lt la) us.toArray
    rw [List.size_toArray] at W
    exact key _ _ _ W (fun j v _ e => by simpa using e) ⟨⟨_, Heap.get?_push_size _ rfl, rfl, rfl⟩, hl.at fun o' e => up _ _ o' e⟩
end
end
section
open PySem PySem.W PyProof.Rows PySem.Spec PySem.Calls PyProof.Rows.LCg
inductive B2Inv (prog : Program) (w : World) (A : Around) (h₀ : Heap) (L : Addr) (m : Str → Option Value) (env : Env) (iter2 : Expr) (x : Str) (scope : Scope) (cl : List (Str × Addr)) (s₂ : Shared) (S : Led → Prop) (P : Nat → Value → Prop) (Fin : List Value → Led → Prop) (St : Nat → Heap → Prop) (n : Nat) (I C D : Addr) (k : Nat) (s' : Shared) : Prop
  | mk (h' : Heap) (tk i : Nat) (ys : List Value) (m' : Str → Option Value) (news' : Led) (zh1 : s' = { s₂ with heap := h', toks := tk }) (zh2 : i ≤ n) (zh3 : k = n + 1 - i) (zh4 : St i h') (zh5 : Fr h₀ L h' m) (zh6 : h'.Ns C m') (zh7 : News h₀ L h' ((D, lst ys) :: news')) (zh8 : Off3 I C D news') (zh9 : S news') (zh10 : CompRest2 prog w A h₀ L m env iter2 x scope cl s₂ S P Fin (n - i) i ys news')
section
variable {prog : Program} {w : World} {A : Around} {E : Value → Shared → Prop} {R : Result → Shared → Prop} {s : Shared} {h₀ : Heap} {L : Addr} {m : Str → Option Value} {env : Env}
theorem block2 {iter iter2 : Expr} {x x2 : Str} {px px2 px3 : Pos} {scope : Scope} {cl : List (Str × Addr)} {pos : Pos} {s₂ : Shared} {I : Addr} {fp : List Addr} {n : Nat} {P : Nat → Value → Prop} {St : Nat → Heap → Prop} {S : Led → Prop} {news : Led}
    {Fin : List Value → Led → Prop} {RR : Value → Addr → Result → Shared → Prop}
    (hh : A.handled = none) (hs : ∀ (C : Addr) v, foldedSetIterable iter2 (compEnvC scope cl C env) v = pure v)
    (W : Walks prog w A I fp [I] n P St) (hIo : ∀ i h, St i h → ∃ o, h.get? I = some o)
    (hSt : ∀ i h h' o nw, St i h → h.get? I = some o → h'.get? I = some o → (∀ b o, h₀.get? b = some o → h'.get? b = some o) → News h₀ L h' nw → S nw → St i h')
    (hcell : ∀ y ∈ scope.names, y.2 ≠ .cell) (hkind : scope.kind = .function) (hx : scope.names.lookup x = some .local) (hx2 : scope.names.lookup x2 = some .local) (hdb : (x2 == ("__debug__" : Str)) = false) (hst : St 0 s₂.heap) (hfp : ∀ b ∈ fp, b < s₂.heap.objs.size)
    (F : Fr h₀ L s₂.heap m) (N : News h₀ L s₂.heap news) (hIL : L ≠ I) (hI₀ : h₀.get? I = none) (off : ∀ p ∈ news, p.1 ≠ I) (hS : S news)
    (R : CompRest2 prog w A h₀ L m env iter2 x scope cl s₂ S P Fin n 0 [] news)
    (hRR : ∀ D C h tk m' ys news', Fr h₀ L h m → News h₀ L h ((D, lst ys) :: news') → Off1 D news' → h.Ns C m' → h₀.get? C = none → h₀.get? D = none → C ≠ L → D ≠ L → C ≠ D → (∀ p ∈ news', p.1 ≠ C) → Fin ys news' → RR (.ref D) C (.ok .next) { s₂ with heap := h, toks := tk }) :
    wpAny (model prog w) A (newList []) (fun acc s₃ => wpAny (model prog w) A (newFunctionEnv scope env.globals cl [] env.qual none .none (some env)) (fun cenv s₄ =>
      codeAny (model prog w) A (.compStart (.ListComp (.Name x2 px3) [⟨.Name x px, iter, [], 0⟩, ⟨.Name x2 px2, iter2, [], 0⟩] scope pos) 0 (.ref I) acc { cenv with scope := relabel scope env }) (RR acc cenv.locals) s₄) E s₃) E s₂ := by
  refine wpAny_newObj_type (wpAny_newFunctionEnv hcell (by intro y hy; simp at hy) (fun h₁ hns₁ hsb₁ => ?_) hkind)
  dsimp only at hns₁ hsb₁ ⊢
  generalize hH2 : s₂.heap.push { cls := .type "list", dict := none, data := .seq ([] : List Value).toArray } = H2 at hns₁ hsb₁ ⊢
  have hC : H2.objs.size = s₂.heap.objs.size + 1 := by rw [← hH2, Heap.size_push]
  have hDC : s₂.heap.objs.size ≠ H2.objs.size := by rw [hC]; exact Nat.ne_of_lt (Nat.lt_succ_self _)
  have below : ∀ b, b < s₂.heap.objs.size → b ≠ H2.objs.size ∧ b ≠ s₂.heap.objs.size := fun b hb => ⟨by rw [hC]; exact Nat.ne_of_lt (Nat.lt_succ_of_lt hb), Nat.ne_of_lt hb⟩
  have hDf : s₂.heap.objs.size ∉ fp := fun hm => Nat.lt_irrefl _ (hfp _ hm)
  have hCf : H2.objs.size ∉ fp := fun hm => by have := hfp _ hm; rw [hC] at this; exact Nat.lt_irrefl _ (Nat.lt_of_succ_lt this)
  have hIf : I ∈ fp := W.sub I (List.mem_singleton.mpr rfl)
  have hIlt : I < s₂.heap.objs.size := hfp I hIf
  have old : ∀ b o, s₂.heap.get? b = some o → h₁.get? b = some o := fun b o e => hsb₁.extBut b o (below b (Heap.lt_size e)).1 (Heap.get?_push_of_some _ (hH2 ▸ Heap.get?_push_of_some _ e))
  have hacc : h₁.get? s₂.heap.objs.size = some (lst []) := hsb₁.extBut _ _ hDC (Heap.get?_push_of_some _ (hH2 ▸ Heap.get?_push_size _ rfl))
  have hst₁ : St 0 h₁ := W.frame _ _ _ hst fun b _ o e => old b o e
  have fresh : ∀ a, s₂.heap.objs.size ≤ a → s₂.heap.get? a = none := fun a ha => by
    cases e : s₂.heap.get? a with
    | none => rfl
    | some o' => exact absurd (Heap.lt_size e) (Nat.not_lt.mpr ha)
  have fresh₀ : ∀ a, s₂.heap.objs.size ≤ a → h₀.get? a = none := fun a ha => by
    cases e : h₀.get? a with
    | none => rfl
    | some o' => have := F.keep a o' e; rw [fresh a ha] at this; cases this
  have hD₀ : h₀.get? s₂.heap.objs.size = none := fresh₀ _ (Nat.le_refl _)
  have hC₀ : h₀.get? H2.objs.size = none := fresh₀ _ (by rw [hC]; exact Nat.le_succ _)
  have hLlt : L < s₂.heap.objs.size := F.ns.lt
  have hDL : s₂.heap.objs.size ≠ L := Ne.symm (below L hLlt).2
  have hCL : H2.objs.size ≠ L := Ne.symm (below L hLlt).1
  have hCI : I ≠ H2.objs.size := (below I hIlt).1
  have hDI : I ≠ s₂.heap.objs.size := (below I hIlt).2
  have off₀ : Off3 I H2.objs.size s₂.heap.objs.size news := Off3.of fun p hp => ⟨off p hp, (below _ (Heap.lt_size (N p hp).1)).1, (below _ (Heap.lt_size (N p hp).1)).2⟩
  have loop : ∀ s₃ : Shared, s₃ = { s₂ with heap := h₁, toks := s₂.toks + ([] : List (Str × Value)).length } →
      codeAny (model prog w) A (.compLoop (.ListComp (.Name x2 px3) [⟨.Name x px, iter, [], 0⟩, ⟨.Name x2 px2, iter2, [], 0⟩] scope pos) 0 (.ref I) (.ref s₂.heap.objs.size) (compEnvC scope cl H2.objs.size env))
        (RR (.ref s₂.heap.objs.size) H2.objs.size) s₃ := by
    rintro s₃ rfl
    refine loop20 (hs := hs _)
      (B2Inv prog w A h₀ L m env iter2 x scope cl s₂ S P Fin St n I H2.objs.size s₂.heap.objs.size) ?_ (n + 1)
      ⟨h₁, _, 0, [], _, news, rfl, Nat.zero_le _, rfl, hst₁, F.keeps old, hns₁, fun p hp => ?_, off₀, hS, R⟩
    · rintro k s' ⟨h', tk, i, ys, m', news', rfl, hi, rfl, hst', F', hn', N', off', hS', R'⟩ E'
      by_cases hlt : i < n
      · obtain ⟨j, hj⟩ : ∃ j, n - i = j + 1 := ⟨n - i - 1, by omega⟩
        rw [hj] at R'
        refine W.item i _ _ _ hlt hst' fun v h₂ tk₂ hPv hst₂ hk₂ => ?_
        intro E'
        refine wpAny_assign_Name (wpAny_storeName_local (lookup_relabel_local hx) (hn'.at' fun o e => hk₂ _ o (by simpa using Ne.symm hCI) e) (fun h₃ hn₃ hs₃ => ?_) (by simp [compEnvC, relabel, hkind]))
        intro E'
        have hst₃ : St (i + 1) h₃ := W.frame _ _ _ hst₂ fun b hb o e => hs₃.extBut b o (fun q => hCf (by have q' : b = H2.objs.size := q; rw [← q']; exact hb)) e
        obtain ⟨oI, heI⟩ := hIo _ _ hst₃
        obtain ⟨oC, heC, hoC⟩ := ns_obj hn₃
        have F₃ : Fr h₀ L h₃ m := (fr_but F' hk₂ hIL hI₀).change hs₃ hCL hC₀
        have off3 := off'.mem
        have N₂ : News h₀ L h₂ ((s₂.heap.objs.size, lst ys) :: news') := news_but N' hk₂ fun p hp => by
          rcases List.mem_cons.mp hp with rfl | hp
          · exact Ne.symm hDI
          · exact (off3 p hp).1
        have N₃ : News h₀ L h₃ ((I, oI) :: (H2.objs.size, oC) :: (s₂.heap.objs.size, lst ys) :: news') := fun p hp => by
          rcases List.mem_cons.mp hp with rfl | hp
          · exact ⟨heI, Ne.symm hIL, hI₀⟩
          · rcases List.mem_cons.mp hp with rfl | hp
            · exact ⟨heC, hCL, hC₀⟩
            · have z := N₂ p hp
              refine ⟨hs₃.extBut _ _ ?_ z.1, z.2⟩
              rcases List.mem_cons.mp hp with rfl | hp
              · exact hDC
              · exact (off3 p hp).2.1
        refine wpAny_mono (R' v I oI H2.objs.size oC s₂.heap.objs.size _ h₃ _ _ hPv hoC (by simp) F₃ N₃ off' ⟨hCI, hDI, Ne.symm hDC⟩) (fun xv s₄ h₄ => ?_) fun _ _ e => e
        obtain ⟨h₄, tk₄, news₄, rfl, F₄, N₄, off₄, hS₄, us, hIt, hus, R₄⟩ := h₄
        intro E'
        have zI := (N₄ (I, oI) List.mem_cons_self).1
        have zC := (N₄ (H2.objs.size, oC) (List.mem_cons_of_mem _ List.mem_cons_self)).1
        have main := inner_start (s := { s₂ with heap := h₄, toks := tk₄ }) (prog := prog) (w := w) (A := A) (env := env) (cl := cl) (scope := scope) (x2 := x2) (px2 := px2) (px3 := px3) (iter2 := iter2) (g0 := ⟨.Name x px, iter, [], 0⟩) (pos := pos) (E := E') (R := fun r s₅ => match r with
          | Except.ok _ => (∃ m', m' < n + 1 - i ∧ B2Inv prog w A h₀ L m env iter2 x scope cl s₂ S P Fin St n I H2.objs.size s₂.heap.objs.size m' s₅)
          | Except.error e => False) hh hIt hus hx2 hkind hdb F₄ N₄ (hoC.ns zC) hCI hDI (Ne.symm hDC) off₄ (by
            intro h₅ tk₅ m₅ F₅ hn₅ N₅
            refine ⟨n + 1 - (i + 1), by omega, h₅, tk₅, i + 1, ys ++ us, m₅, news₄, rfl, hlt, rfl, hSt _ _ _ _ _ hst₃ heI (N₅ _ (.head _)).1 F₅.keep (fun p hp => N₅ p (.tail _ (.tail _ hp))) hS₄, F₅, hn₅, fun p hp => N₅ p (.tail _ hp), off₄, hS₄, ?_⟩
            rw [show n - (i + 1) = j by omega]
            exact R₄)
        refine wpAny_mono main (fun i1 s₅ h₅ => ?_) fun _ _ e => e
        intro E'
        exact codeAny_mono h₅ (fun r s₆ h₆ => by
          cases r with
          | ok f => exact h₆
          | error e => exact h₆.elim)
      · obtain rfl : i = n := Nat.le_antisymm hi (Nat.not_lt.mp hlt)
        rw [Nat.sub_self] at R'
        refine W.done _ _ _ hst' fun h₂ tk₂ hk₂ => ?_
        have off3 := off'.mem
        exact hRR _ _ h₂ tk₂ _ ys news' (fr_but F' hk₂ hIL hI₀) (news_but N' hk₂ fun p hp => by
          rcases List.mem_cons.mp hp with rfl | hp
          · exact Ne.symm hDI
          · exact (off3 p hp).1) off'.one (hn'.at' fun o e => hk₂ _ o (by simpa using Ne.symm hCI) e) hC₀ hD₀ hCL hDL (Ne.symm hDC) (fun p hp => (off3 p hp).2.1) R'
    · rcases List.mem_cons.mp hp with rfl | hp
      · exact ⟨hacc, hDL, hD₀⟩
      · exact ⟨old _ _ (N p hp).1, (N p hp).2⟩
  exact codeAny_compStart_list (loop _ rfl) (W.self 0 _ _ _ hst₁ (loop _ rfl))
end
end
section
open PySem PySem.W PyProof.Rows PySem.Spec PySem.Calls PyProof.Rows.LCg
section
variable {prog : Program} {w : World} {A : Around} {E : Value → Shared → Prop} {R : Result → Shared → Prop} {s : Shared} {h₀ : Heap} {L : Addr} {m : Str → Option Value} {env : Env}
noncomputable def Src2 (prog : Program) (w : World) (A : Around) (h₀ : Heap) (L : Addr) (m : Str → Option Value) (env : Env) (iter2 : Expr) (x : Str) (scope : Scope) (cl : List (Str × Addr)) (Q : Value → Shared → Prop) (xv : Value) (s₁ : Shared) : Prop :=
  (∃ (z : Str) (t : Tok) (news : Led), xv = .str z t ∧ Fr h₀ L s₁.heap m ∧ News h₀ L s₁.heap news ∧ ∀ g, CompRest2 prog w A h₀ L m env iter2 x scope cl { s₁ with heap := g } (fun _ => True) (fun i v => SignAt z i v) (FinE h₀ L m { s₁ with heap := g } Q) z.cps.size 0 [] news) ∨
  (∃ (ax : Addr) (its : Array Value) (news : Led), xv = .ref ax ∧ Fr h₀ L s₁.heap m ∧ News h₀ L s₁.heap news ∧ SrcAt h₀ ax its news ∧ ∀ g, CompRest2 prog w A h₀ L m env iter2 x scope cl { s₁ with heap := g } (SrcAt h₀ ax its) (fun i v => its[i]? = some v) (FinE h₀ L m { s₁ with heap := g } Q) its.size 0 [] news)
theorem ListComp_2 {iter iter2 : Expr} {x x2 : Str} {px px2 px3 : Pos} {scope : Scope} {cl : List (Str × Addr)} {pos : Pos} {Q : Value → Shared → Prop} (hh : A.handled = none)
    (hclos : closureFor scope env = pure cl) (hcell : ∀ y ∈ scope.names, y.2 ≠ .cell) (hkind : scope.kind = .function)
    (hnames : ∀ y ∈ scope.names, y.2 = .local → scope.names.lookup y.1 = some .local) (hx : scope.names.lookup x = some .local) (hx2 : scope.names.lookup x2 = some .local) (hdb : (x2 == ("__debug__" : Str)) = false)
    (h : wpAny (model prog w) A (eval iter env) (Src2 prog w A h₀ L m env iter2 x scope cl Q) E s)
    (hs : ∀ x, foldedSetIterable iter env x = pure x := by intro _; rfl) (hs2 : ∀ (C : Addr) v, foldedSetIterable iter2 (compEnvC scope cl C env) v = pure v := by intro _ _; rfl) :
    wpAny (model prog w) A (eval (.ListComp (.Name x2 px3) [⟨.Name x px, iter, [], 0⟩, ⟨.Name x2 px2, iter2, [], 0⟩] scope pos) env) Q E s := by
  rw [eval_ListComp]
  refine wpAny_comprehension_free (use := none) rfl hs hclos hkind hnames (wpAny_mono h (fun xv s₁ h₁ => ?_) fun _ _ e => e)
  have fin : ∀ (g : Heap) (D C : Addr) (h : Heap) (tk : Nat) (m' : Str → Option Value) (ys : List Value) (news' : Led), Fr h₀ L h m → News h₀ L h ((D, lst ys) :: news') → Off1 D news' → h.Ns C m' → h₀.get? C = none → h₀.get? D = none → C ≠ L → D ≠ L → C ≠ D → (∀ p ∈ news', p.1 ≠ C) → FinE h₀ L m { s₁ with heap := g } Q ys news' →
      ∃ m'', h.Ns C m'' ∧ ∀ h'', Heap.SameBut C h h'' → Q (.ref D) { s₁ with heap := h'', toks := tk } := by
    intro g D C h tk m' ys news' F' N' o1 hn hC₀ hD₀ hCL hDL hCD offC fin
    refine ⟨m', hn, fun h'' hs'' => fin D h'' tk (F'.change hs'' hCL hC₀) (fun p hp => ?_) o1⟩
    refine ⟨hs''.extBut _ _ ?_ (N' p hp).1, (N' p hp).2⟩
    rcases List.mem_cons.mp hp with rfl | hp
    · exact Ne.symm hCD
    · exact offC p hp
  rcases h₁ with ⟨z, t, news, rfl, F, N, R⟩ | ⟨ax, its, news, rfl, F, N, S, R⟩
  · have key : ∀ (o : Obj) (K : String), Walks prog w A s₁.heap.objs.size [s₁.heap.objs.size] [s₁.heap.objs.size] z.cps.size (SignAt z) (fun i h => h.IsStrIter s₁.heap.objs.size K z t i) → (s₁.heap.push o).IsStrIter s₁.heap.objs.size K z t 0 → _ := fun o K W hst =>
      block2 (s₂ := { s₁ with heap := s₁.heap.push o }) (px := px) (px2 := px2) (px3 := px3) (iter := iter) (pos := pos) (E := E) (RR := compPost (model prog w) A E none Q) hh hs2 W (fun i h st => let ⟨o, e, _⟩ := st; ⟨o, e⟩) (fun i h h' o' nw st e e' _ _ _ => by obtain ⟨o, q, r⟩ := st; rw [e] at q; cases q; exact ⟨o', e', r⟩) hcell hkind hx hx2 hdb hst (fun b hb => by
          rw [List.mem_singleton.mp hb]
          show s₁.heap.objs.size < (s₁.heap.push _).objs.size
          rw [Heap.size_push]; exact Nat.lt_succ_self _)
        (F.keeps fun b o' e => Heap.get?_push_of_some _ e) (N.grown fun b o' e => Heap.get?_push_of_some _ e) (Nat.ne_of_lt F.ns.lt) (next_is_new F) (fun p hp => Nat.ne_of_lt (Heap.lt_size (N p hp).1)) trivial (R _) (fin _)
    cases ha : z.cps.all (· < 128)
    · exact wpAny_pyIter_wide ha (key _ _ (Walks.strWide hh _ z t) ⟨_, Heap.get?_push_size _ rfl, rfl, rfl⟩)
    · exact wpAny_pyIter_ascii ha (key _ _ (Walks.strAscii hh _ z t) ⟨_, Heap.get?_push_size _ rfl, rfl, rfl⟩)
  · have hl := S.list F.keep N
    have hlt : ax < s₁.heap.objs.size := by obtain ⟨_, e, _⟩ := hl; exact Heap.lt_size e
    refine wpAny_pyIter_list hl ?_
    have up : ∀ b o, s₁.heap.get? b = some o → (s₁.heap.push { cls := .type "list_iterator", data := .fields #[.ref ax, .int 0 0] }).get? b = some o := fun b o e => Heap.get?_push_of_some _ e
    refine block2 hh hs2 (Walks.list hh s₁.heap.objs.size ax (Nat.ne_of_lt hlt) its) (fun i h st => by obtain ⟨o, e, _⟩ := st.1; exact ⟨o, e⟩) list_st hcell hkind hx hx2 hdb ⟨⟨_, Heap.get?_push_size _ rfl, rfl, rfl⟩, hl.push _⟩ (fun b hb => ?_)
      (F.keeps up) (N.grown up) (Nat.ne_of_lt F.ns.lt) (next_is_new F) (fun p hp => Nat.ne_of_lt (Heap.lt_size (N p hp).1)) S (R _) (fin _)
    show b < (s₁.heap.push _).objs.size
    rw [Heap.size_push]
    rcases List.mem_cons.mp hb with rfl | hb
    · exact Nat.lt_succ_self _
    · rw [List.mem_singleton.mp hb]; exact Nat.lt_succ_of_lt hlt
end
end
section
section
variable {prog : Program} {w : World} {A : Around} {E : Value → Shared → Prop} {s : Shared}
theorem walks_done (hh : A.handled = none) (I ax : Addr) (items : Array Value) (hne : ax ≠ I) : Walks prog w A I [I, ax] [I] 0 (fun _ _ => True) (fun _ h => h.IsListIter I ax items.size ∧ h.IsList ax items) where
  sub := fun b hb => by simp at hb; simp [hb]
  frame := fun _ _ _ st hk => ⟨st.1.at fun o e => hk I (by simp) o e, st.2.at fun o e => hk ax (by simp) o e⟩
  item := fun i s Q E hi st hQ => absurd hi (Nat.not_lt_zero i)
  done := fun s Q E st hQ => (Walks.list (prog := prog) (w := w) hh I ax hne items).done s Q E st hQ
  self := fun _ s Q E st hQ => (Walks.list (prog := prog) (w := w) hh I ax hne items).self items.size s Q E st hQ
theorem list_done_ext {R : Result → Shared → Prop} (hh : A.handled = none) {I ax : Addr} {items : Array Value} (hne : ax ≠ I) (S : Addr) (c₀ : Nat) (hit : s.heap.IsListIter I ax items.size) (hl : s.heap.IsList ax items) (hSI : S ≠ I) (hSa : S ≠ ax)
    (hS : s.heap.get? S = some { cls := .type "list", data := .seq #[] c₀ })
    (hR : ∀ h' tk c', (∀ b o, b ≠ S → b ≠ I → s.heap.get? b = some o → h'.get? b = some o) → h'.get? S = some { cls := .type "list", dict := none, data := .seq #[] c', slots := #[] } → R (.ok (.ret .none)) { s with heap := h', toks := tk }) :
    wpAny (model prog w) A.in1 (Builtin.List.listExtendWith (.ref S) (.ref I) .none)
      (fun fin s' => match fin with | .done f => R (.ok f) s' | .again c' => c'.quiet = true ∧ codeAny (model prog w) A c' R s') (fun e s' => R (.error e) s') s := by
  have hT : s.TypeIs (.ref I) "list_iterator" := hit.typeIs
  have W := walks_done (prog := prog) (w := w) (A := A.in1) hh I ax items hne
  have hSf : S ∉ [I, ax] := fun hm => by
    rcases List.mem_cons.mp hm with e | hm
    · exact hSI e
    · exact hSa (List.mem_singleton.mp hm)
  have h1 : Builtin.List.listSameRef (.ref S) (.ref I) = false := by simp [Builtin.List.listSameRef, hSI]
  unfold Builtin.List.listExtendWith
  refine wpAny_bind (wpAny_typeOf hT ?_)
  rw [if_neg (by rw [h1]; decide)]
  refine wpAny_bind (wpAny_pyIter_listiter hit ?_)
  refine wpAny_bind (wpAny_holding ?_)
  unfold Builtin.List.listLengthHint
  refine wpAny_bind (wpAny_specialOf hT F.nolen_li ?_)
  show wpAny _ A.in1 (specialOf (Value.ref I) (Str.ofString "__length_hint__") >>= _) _ _ _
  refine wpAny_bind (wpAny_specialOf hT F.hint_li ?_)
  (generalize hid : ("list_iterator.__length_hint__" : String) = id0; (fail_if_success (clear hid id0)); wp_delta; rw [show splitId id0 = some ("list_iterator", "__length_hint__") from by subst hid; decide +kernel]; subst hid)
  refine wpAny_bind (wpAny_isInstance (b := true) hT (by rw [isSubtype_type]; kernel_rfl) ?_)
  refine wpAny_pure ?_
  rw [if_neg (by decide)]
  refine wpAny_pure ⟨plainId_quiet F.plain_extend_loop _, codeAny_extend_loopS W.toS (Nat.zero_le _) _ hSf _ 0 0 _ _ _ rfl (Nat.zero_le _) ⟨hit, hl⟩ hS (ItemsOf.nil _) fun s' acc' c' hm hS' hacc => ?_⟩
  have e0 : acc' = #[] := Array.eq_empty_of_size_eq_zero hacc.1
  subst e0
  rw [Moved.eq_with hm]
  refine hR s'.heap s'.toks c' (fun b ob hb1 hb2 e => hm.heap b ob (fun hmem => ?_) e) hS'
  rcases List.mem_cons.mp hmem with e' | hmem
  · exact hb1 e'
  · exact hb2 (List.mem_singleton.mp hmem)
theorem call_list_done {I ax : Addr} {items : Array Value} {Q : Value → Shared → Prop} (hh : A.handled = none) (hne : ax ≠ I) (hit : s.heap.IsListIter I ax items.size) (hl : s.heap.IsList ax items)
    (hQ : ∀ h' tk c', (∀ b o, b ≠ I → s.heap.get? b = some o → h'.get? b = some o) → h'.get? s.heap.objs.size = some { cls := .type "list", dict := none, data := .seq #[] c', slots := #[] } → Q (.ref s.heap.objs.size) { s with heap := h', toks := tk }) :
    wpAny (model prog w) A (call (.type "list") [.ref I]) Q E s := by
  have hI : I < s.heap.objs.size := by obtain ⟨o, e, _⟩ := hit; exact Heap.lt_size e
  have ha : ax < s.heap.objs.size := by obtain ⟨o, e, _⟩ := hl; exact Heap.lt_size e
  refine callType_codes (Q₁ := fun obj s₁ => obj = .ref s.heap.objs.size ∧ s₁ = { s with heap := s.heap.push { cls := .type "list", data := .seq #[] } }) F.called_list (F.typeCall_list_1 _) F.entry_list_init
    (code_list_new _ ⟨rfl, rfl⟩) fun obj s₁ h₁ => ?_
  obtain ⟨rfl, rfl⟩ := h₁
  have hS : (s.heap.push { cls := .type "list", data := .seq #[] }).get? s.heap.objs.size = some { cls := .type "list", data := .seq #[] } := Heap.get?_push_size _ rfl
  refine ⟨⟨_, hS, rfl⟩, F.args_list_init_2 _ _, ?_⟩
  show wpAny _ _ (do let old ← Builtin.List.listItems (.ref s.heap.objs.size); Builtin.List.listUpdate (.ref s.heap.objs.size) (fun _ => #[]); letGo old.toList.reverse; Builtin.List.listExtendWith (.ref s.heap.objs.size) (.ref I) .none) _ _ _
  refine wpAny_bind ?_
  unfold Builtin.List.listItems
  refine wpAny_bind (wpAny_seqItems hS rfl (wpAny_pure ?_))
  show wpAny _ _ (updateSeq s.heap.objs.size (fun _ => #[]) >>= fun _ => letGo (#[] : Array Value).toList.reverse >>= fun _ => Builtin.List.listExtendWith (.ref s.heap.objs.size) (.ref I) .none) _ _ _
  refine wpAny_bind (wpAny_updateSeq hS rfl ?_)
  have hS₂ := Heap.get?_update_self (Obj.mapSeq (fun _ => (#[] : Array Value))) hS rfl
  have oth : ∀ b o, b ≠ s.heap.objs.size → s.heap.get? b = some o → ((s.heap.push { cls := .type "list", data := .seq #[] }).update s.heap.objs.size (Obj.mapSeq (fun _ => (#[] : Array Value)))).get? b = some o :=
    fun b o hb e => (Heap.get?_update_other _ _ (Ne.symm hb)).trans (Heap.get?_push_of_some _ e)
  refine wpAny_bind (wpAny_letGo ?_)
  refine list_done_ext (A := A.in1) hh hne _ _ (hit.at fun o e => oth _ o (Nat.ne_of_lt hI) e) (hl.at fun o e => oth _ o (Nat.ne_of_lt ha) e) (Nat.ne_of_gt hI) (Nat.ne_of_gt ha) hS₂ fun h' tk c' hk hS' => ?_
  exact ⟨rfl, hQ h' tk c' (fun b o hb e => hk b o (Nat.ne_of_lt (Heap.lt_size e)) hb (oth b o (Nat.ne_of_lt (Heap.lt_size e)) e)) hS'⟩
end
section
variable {prog : Program} {w : World} {A : Around} {E : Value → Shared → Prop} {s : Shared} {h₀ : Heap} {L : Addr} {m : Str → Option Value} {news : Led}
theorem list_done {I ax : Addr} {vs : List Value} {n : Nat} {io : Obj} {Q : Value → Shared → Prop} (hh : A.handled = none) (F : Fr h₀ L s.heap m) (N : News h₀ L s.heap ((I, io) :: news)) (hc : io.cls = .type "list_iterator") (hd : io.data = .fields #[.ref ax, .int vs.length 0]) (hm : (ax, W.listOf vs.toArray n) ∈ news) (hI : ∀ p ∈ news, p.1 ≠ I)
    (h : ∀ D c h' tk, Fr h₀ L h' m → News h₀ L h' ((D, W.listOf #[] c) :: news) → topA ((I, io) :: news) ≤ D → Q (.ref D) { s with heap := h', toks := tk }) :
    wpAny (model prog w) A (call (.type "list") [.ref I]) Q E s := by
  have hi := N _ (.head _)
  have ha := N _ (.tail _ hm)
  have hfresh : h₀.get? s.heap.objs.size = none := Heap.get?_none_of_le (Nat.le_trans F.above (Nat.le_of_lt F.ns.lt))
  refine call_list_done (items := vs.toArray) hh (hI _ hm) ⟨io, hi.1, hc, by rw [hd]; simp⟩ (News.isList N (.tail _ hm)) fun h' tk c' hk hS => ?_
  refine h s.heap.objs.size c' h' tk ⟨F.ns.at' fun o e => hk _ o (Ne.symm hi.2.1) e, fun b o e => hk b o (fun eb => by rw [eb] at e; rw [hi.2.2] at e; cases e) (F.keep b o e), F.above⟩ (fun p hp => ?_) (topA_of fun p hp => Heap.lt_size (N p hp).1)
  rcases List.mem_cons.mp hp with rfl | hp
  · exact ⟨hS, Nat.ne_of_gt F.ns.lt, hfresh⟩
  · have z := N p (.tail _ hp)
    exact ⟨hk _ _ (hI p hp) z.1, z.2⟩
end
end
section
local macro_rules | `(tactic| k_room) => `(tactic| ktr_room)
local macro_rules | `(tactic| units_room) => `(tactic| ktr_units)
local macro_rules | `(tactic| k_lt $h:ident) => `(tactic| (replace $h := topA_of $h; first | ((try dsimp only [List.cons_append, List.nil_append] at $h:ident); replace $h := zl_ap $h (by walk_at "zl0")) | simp only [topA_nil, topA_cons, topA_app, Nat.max_le, Nat.zero_le, true_and, and_true, List.cons_append, List.nil_append] at $h:ident))
local macro_rules | `(tactic| walk_at "zl") => `(tactic| first | with_reducible exact zl_last | (with_reducible refine' zl_cons ?zf; (case zf => walk_at "zl")) | (with_reducible refine' zl_app ?zf ?zg; (case zf => walk_at "zl"); (case zg => walk_at "zl")) | with_reducible exact zl_end)
local macro_rules | `(tactic| walk_at "zl0") => `(tactic| first | with_reducible exact zl_last | (with_reducible refine' zl_cons ?zf; (case zf => walk_at "zl")) | (with_reducible refine' zl_app ?zf ?zg; (case zf => walk_at "zl"); (case zg => walk_at "zl")))
local macro_rules | `(tactic| walk_at "zr") => `(tactic| first | with_reducible assumption | with_reducible exact zr_nil | (with_reducible refine zr_cons ?_ ?_; (focus omega); (walk_at "zr")) | (with_reducible refine zr_app ?_ ?_; (focus (walk_at "zr")); (walk_at "zr")) | omega)
local macro_rules | `(tactic| k_all) => `(tactic| first | (refine topA_ne ?_; (try dsimp only [List.cons_append, List.nil_append]); walk_at "zr"; done) | (refine topA_ne ?_; (try simp only [topA_app, topA_cons, topA_nil, Nat.max_le, Nat.zero_le, true_and, and_true]); omega))
local macro_rules | `(tactic| walk_at "callWith ref") => `(tactic| (k_here; k_dflt (refine' callWith_K ?k1 ?k2 ?_; (case k1 => k_asm); (case k2 => k_is); k_whole)))
local macro_rules | `(tactic| walk_at "binaryOp LShift int int") => `(tactic| (with_reducible refine lshift_int (by assumption) (by assumption) ?_))
local macro_rules | `(tactic| walk_at "mem one") => `(tactic| first | with_reducible exact List.mem_cons_self | with_reducible assumption | (with_reducible refine List.mem_cons_of_mem _ ?_; walk_at "mem one") | with_reducible exact rfl | (with_reducible refine Or.inl ?_; walk_at "mem one") | (with_reducible refine Or.inr ?_; walk_at "mem one") | (with_reducible refine List.mem_append_left _ ?_; walk_at "mem one") | (with_reducible refine List.mem_append_right _ ?_; walk_at "mem one") | (refine List.Mem.tail _ ?_; walk_at "mem one") | exact List.Mem.head _)
local macro_rules | `(tactic| walk_at "mem all") => `(tactic| first | exact List.forall_mem_nil _ | (refine List.forall_mem_cons.mpr (And.intro ?_ ?_); (focus (walk_at "mem one")); (walk_at "mem all")) | (refine List.forall_mem_append.mpr (And.intro ?_ ?_); (focus (walk_at "mem all")); (walk_at "mem all")) | (intro _ _; walk_at "mem one"))
local macro_rules | `(tactic| walk_at "binaryOp Mult int int") => `(tactic| (with_reducible refine mul_int (hm := by assumption) ?_))
local macro_rules | `(tactic| walk_at "binaryOp Pow int int") => `(tactic| (with_reducible refine pow_int_small (by decide) (by decide) (by assumption) ?_))
local macro_rules | `(tactic| walk_at "s1") => `(tactic| ((fail_if_success (with_reducible show wpAny _ _ (call (Value.ref _) _) _ _ _)); (fail_if_success (with_reducible show wpAny _ _ (exec (Stmt.For _ _ _ _ _) _) _ _ _)); (fail_if_success (with_reducible show wpAny _ _ (exec (Stmt.While _ _ _ _) _) _ _ _)); (fail_if_success (with_reducible show wpAny _ _ (pyIter _) _ _ _)); (fail_if_success (with_reducible show wpAny _ _ (call (Value.builtin "list.pop") _) _ _ _)); (fail_if_success (with_reducible show wpAny _ _ (call (Value.type "list") _) _ _ _)); (fail_if_success (with_reducible show wpAny _ _ (call (Value.builtin "list.reverse") _) _ _ _)); (fail_if_success (with_reducible show wpAny _ _ (call (Value.builtin "divmod") _) _ _ _))))
local macro_rules | `(tactic| walk_at "s2") => `(tactic| ((fail_if_success (with_reducible show wpAny _ _ (binaryOp Operator.Add (Value.ref _) (Value.ref _)) _ _ _)); (fail_if_success (with_reducible show wpAny _ _ (compareOp _ (Value.ref _) (Value.ref _)) _ _ _)); (fail_if_success (with_reducible show LCg.CompSrc _ _ _ _ _ _ _ _ _ _ _ _ _ _)); (fail_if_success (with_reducible show LCg.CompEnd _ _ _ _ _ _ _ _ _ _ _ _ _ _))))
local macro_rules | `(tactic| walk_at "t1") => `(tactic| ((fail_if_success (with_reducible show wpAny _ _ (binaryOp Operator.Add (Value.str _ _) (Value.str _ _)) _ _ _))))
local macro_rules | `(tactic| walk_at "t2") => `(tactic| ((fail_if_success (with_reducible show wpAny _ _ (binaryOp Operator.Mult (Value.str _ _) (Value.int _ _)) _ _ _)); (fail_if_success (with_reducible show wpAny _ _ (subscriptTail _ _ (Value.ref _) (Value.int _ _)) _ _ _)); (fail_if_success (with_reducible show wpAny _ _ (subscriptTail _ _ (Value.str _ _) (Value.ref _)) _ _ _)); (fail_if_success (with_reducible show wpAny _ _ (call (Value.builtin "list.append") _) _ _ _)); (fail_if_success (with_reducible show wpAny _ _ (truthy (Value.bool (_ == _))) _ _ _)); (fail_if_success (with_reducible show wpAny _ _ (binaryOp Operator.Add (Value.str _ _) (Value.str _ _)) _ _ _)); (fail_if_success (with_reducible show wpAny _ _ (eval (Expr.ListComp _ _ _ _) _) _ _ _)); (fail_if_success (with_reducible show LCp.SrcLP _ _ _ _ _ _ _ _ _ _ _ _ _ _ _))))
local macro_rules | `(tactic| walk_at "t3") => `(tactic| ((with_reducible rename Fr _ _ _ _ => nF9); (with_reducible rename News _ _ _ _ => nN9); (refine newList_K nF9 nN9 (fun D' h' F' N' l1 => ?_) (Nat.le_of_ble_eq_true rfl)); (k_lt l1); (try dsimp only)))
local macro_rules | `(tactic| walk_at "t4") => `(tactic| ((with_reducible rename Fr _ _ _ _ => nF9); (with_reducible rename News _ _ _ _ => nN9); (refine kup_newTuple nF9 nN9 (fun D' h' F' N' l1 => ?_) (Nat.le_of_ble_eq_true rfl)); (k_lt l1); (try dsimp only)))
local macro_rules | `(tactic| walk_at "t5") => `(tactic| ((fail_if_success (with_reducible show wpAny _ _ (subscriptTail _ _ (Value.ref _) (Value.int _ _)) _ _ _)); (fail_if_success (with_reducible show wpAny _ _ (call (Value.builtin "len") _) _ _ _)); (fail_if_success (with_reducible show wpAny _ _ (delItem _ _) _ _ _)); (fail_if_success (with_reducible show wpAny _ _ (PySem.truthy (Value.str _ _)) _ _ _)); (fail_if_success (with_reducible show wpAny _ _ (exec (Stmt.If _ _ _ _) _) _ _ _)); (fail_if_success (with_reducible show wpAny _ _ (call (Value.builtin "str.split") _) _ _ _)); (fail_if_success (with_reducible show wpAny _ _ (call (Value.builtin "str.find") _) _ _ _))))
section
local macro_rules | `(tactic| cell_step) => `(tactic| (walk_at "s1"))
section
theorem div2n1n (w : World) (rest : Led) (a b : Int) (n : Nat) (ta tb tn : Tok) (hb : b ≠ 0) (h1 : Builtin.Int.intBits a ≤ n + 4000) (h2 : Builtin.divisionGoesByPylong a b = false) :
  Tel w 1 9 (.ref 28) [.int a ta, .int b tb, .int n tn] rest (fun v news' => ∃ r tq tr, v = .ref r ∧ topA rest ≤ r ∧ news' = (r, { cls := .type "tuple", data := .seq #[.int (a.fdiv b) tq, .int (a.fmod b) tr] }) :: rest) := by
  intro mean mg mb dp un gd cn cs ad ccd cl outer A₀ base h₀ L m s Q E B F X N T C1 C2 C3 hk hd hu hret
  refine wpAny_call ?_
  k_dflt (first | (refine' code_defC ?k1 ?k2 ?k3 ?k4 ?k5 ?kA ?kF ?kK ?k6 ?k7 ?k8 ?k9 ?kB ?kD ?_ ?c2 ?c3 ?c4; (case kA => exact rfl); (case kF => exact rfl); (case kK => first | exact rfl | assumption); (case k1 => k_asm); (case k2 => k_asm); (case k3 => k_asm); (case k4 => k_asm); (case k5 => k_asm); (case k6 => k_is); (case k7 => k_is); (case k8 => k_room); (case k9 => first | exact BindsTo.of_eq rfl | exact binds_K (by k_in) rfl (by k_is) rfl rfl rfl | fail "k_enter: no rule for these arguments"); (case kB => exact rfl); (case kD => decide +kernel); (case c2 => exact rfl); (case c3 => exact rfl); (case c4 => exact rfl); k_whole; intro z9g z9L z9h z9tk z9cells z9FG z9F z9N z9Y z9B z9X z9T z9l1; (try k_lt z9l1); k_cells z9Y; (try simp only [List.cons_append, List.nil_append] at z9N); (try dsimp only); (try k_lift z9B); (try k_fold)) | cell_enter)
  (repeat' (first | (with_reducible refine if_ff ?_) | (with_reducible refine if_tt ?_) | (k_unfold; (try dsimp only)) | (k_end; wrow_close) | (cell_step; walk1) | (cell_step; dsimp only; walk1) | (leave1; walk_say "STEP leave1"; try dsimp only) | fail "no step"))
  with_reducible rename News _ _ _ _ => dN9
  have dq9 := topA_of fun p hp => Heap.lt_size (dN9 p hp).1
  k_dflt (refine' divmod_N ?dF ?dN ?dB ?_ ?dP; (case dF => k_asm); (case dN => k_asm); (case dB => assumption); (case dP => exact Or.inl (by assumption)))
  intro h' F' N'
  (try dsimp only)
  (repeat' (first | (with_reducible refine if_ff ?_) | (with_reducible refine if_tt ?_) | (k_unfold; (try dsimp only)) | (k_end; wrow_close) | (cell_step; walk1) | (cell_step; dsimp only; walk1) | (leave1; walk_say "STEP leave1"; try dsimp only) | fail "no step"))
  rename Fr h₀ L _ _ => F7
  rename News h₀ L _ _ => N7
  rename topA _ ≤ _ => q7
  exact hret _ _ _ _ F7 N7 ⟨_, _, _, rfl, q7, rfl⟩
end
section
theorem inner1 (w : World) (n : Nat) (hn : 0 < n) (hn2 : n < 2^20) (f c' D cI cA cN : Addr) (oc oI oA oN : Obj) (doc pm ctv : Value) (cvs : Array Value) (ct tn : Tok) (rest : Led)
   (hoc : oc.data = .fields cvs) (hcv : cvs[1]? = some (.str (Str.ofString "_int2digits" ++ ".<locals>." ++ Str.ofString "inner") ct))
   (hI : oI.data = .cell (some (.ref f))) (hA : oA.data = .cell (some (.ref D))) (hN : oN.data = .cell (some (.int n tn)))
   (a1 : @Ne Nat c' D) (a2 : @Ne Nat f D) (a3 : @LT.lt Nat _ cI D) (a4 : @LT.lt Nat _ cA D) (a5 : @LT.lt Nat _ cN D) (a6 : topA rest ≤ D) :
   ∀ (k : Nat) (x : Int) (tx tl th : Tok) (lo hi : Nat) (pre mid post : List Int) (vs : List Value), 0 < k → mid.length = k → pre.length = lo → hi = lo + k → 0 ≤ x → x < 2 ^ (n * k) → lo + k < 2^20 → n * k < 2^20 → IntsAre vs (pre ++ mid ++ post) →
   Tel w k (8 * k) (.ref f) [.int x tx, .int lo tl, .int hi th]
     ((f, fnMade (Str.ofString "inner") (Str.ofString "_int2digits" ++ ".<locals>." ++ Str.ofString "inner") (fArgs (fnIn 7 1)) (fBody (fnIn 7 1)) (fScope (fnIn 7 1)) [(Str.ofString "n", cN), (Str.ofString "inner", cI), (Str.ofString "a_digits", cA)] doc pm c' ctv) :: (c', oc) :: (D, W.listOf vs.toArray 0) :: (cI, oI) :: (cA, oA) :: (cN, oN) :: rest)
     (fun v news' => v = .none ∧ ∃ vs', IntsAre vs' (pre ++ digs n k x ++ post) ∧ news' = ((f, fnMade (Str.ofString "inner") (Str.ofString "_int2digits" ++ ".<locals>." ++ Str.ofString "inner") (fArgs (fnIn 7 1)) (fBody (fnIn 7 1)) (fScope (fnIn 7 1)) [(Str.ofString "n", cN), (Str.ofString "inner", cI), (Str.ofString "a_digits", cA)] doc pm c' ctv) :: (c', oc) :: (D, W.listOf vs'.toArray 0) :: (cI, oI) :: (cA, oA) :: (cN, oN) :: rest)) := by
  intro k
  induction k using Nat.strongRecOn with
  | ind k IH =>
  intro x tx tl th lo hi pre mid post vs hk0 hml hpl hhi hx0 hx1 hb1 hb2 hv
  intro mean mg mb dp un gd cn cs ad ccd cl outer A₀ base h₀ L m s Q E B F X N T C1 C2 C3 hk hd hu hret
  have hmid := mid_is lo hi k hhi
  have hS := shift_is lo (k / 2) n
  have hnk : n * (k / 2) ≤ n * k := Nat.mul_le_mul_left n (Nat.div_le_self k 2)
  have hS2 : ((((lo : Int) + (hi : Int)).fdiv (2 ^ Int.toNat 1) - (lo : Int)) * (n : Int)) = ((n * (k / 2) : Nat) : Int) := by rw [hmid, hS]
  have f1 : 0 ≤ (((lo : Int) + (hi : Int)).fdiv (2 ^ Int.toNat 1) - (lo : Int)) * (n : Int) := by rw [hS2]; exact Int.natCast_nonneg _
  have f2 : (Builtin.Int.intBits (x.fdiv (2 ^ ((((lo : Int) + (hi : Int)).fdiv (2 ^ Int.toNat 1) - (lo : Int)) * (n : Int)).toNat)) : Int) + (((lo : Int) + (hi : Int)).fdiv (2 ^ Int.toNat 1) - (lo : Int)) * (n : Int) ≤ 2 ^ 27 := by
    have b1 : Builtin.Int.intBits x ≤ n * k := intBits_le_iff.mpr (by
      have : ((x.natAbs : Nat) : Int) < ((2 ^ (n * k) : Nat) : Int) := by rw [Int.natAbs_of_nonneg hx0]; push_cast; exact hx1
      exact_mod_cast this)
    have b2 := intBits_fdiv_le (y := (2 ^ ((((lo : Int) + (hi : Int)).fdiv (2 ^ Int.toNat 1) - (lo : Int)) * (n : Int)).toNat)) b1
    rw [hS2] at b2 ⊢
    omega
  refine wpAny_call ?_
  k_dflt (first | (refine' code_nest ?k1 ?k2 ?k3 ?k4 ?k5 ?kA ?kF ?kK ?k6 ?k7 ?k8 ?k9 ?kB ?_ ?c2 ?c3 ?c4 ?c5; (case kA => exact rfl); (case kF => exact rfl); (case kK => first | exact rfl | assumption); (case k1 => k_asm); (case k2 => k_asm); (case k3 => k_asm); (case k4 => k_asm); (case k5 => k_asm); (case k6 => k_mem); (case k7 => exact codeRec_news (by k_asm) (by k_mem) (by assumption) (by assumption)); (case k8 => k_room); (case k9 => exact BindsTo.of_eq rfl); (case c5 => decide); (case kB => exact locs rfl); (case c2 => exact rfl); (case c3 => exact rfl); (case c4 => exact rfl); k_whole; intro z9g z9L z9h z9FG z9F z9N z9B z9X z9T; (try dsimp only); (try k_lift z9B); (try k_fold)) | kn_enter)
  (repeat' (first | (with_reducible refine if_ff ?_) | (with_reducible refine if_tt ?_) | (k_unfold; (try dsimp only)) | (k_end; wrow_close) | (cell_step; walk1) | (cell_step; dsimp only; walk1) | (leave1; walk_say "STEP leave1"; try dsimp only) | fail "no step"))
  · rename ((_ : Int) + 1 = _) => he
    rename Fr h₀ L _ _ => F9
    rename News h₀ L _ _ => N9
    have hk1 : k = 1 := by omega
    subst hk1
    refine hret _ _ _ _ F9 N9 ⟨rfl, _, ?_, rfl⟩
    have h3 := ints_set (x := x) (u := tx) hv lo
    obtain ⟨m0, rfl⟩ : ∃ m0, mid = [m0] := by
      match mid, hml with
      | [m0], _ => exact ⟨m0, rfl⟩
    have e : (pre ++ [m0] ++ post).set lo x = pre ++ digs n 1 x ++ post := by
      rw [digs, digs, Int.emod_eq_of_lt hx0 (by simpa using hx1)]
      subst hpl
      simp
    rw [e] at h3
    simpa using h3
  · rename (¬ ((_ : Int) + 1 = _)) => hne
    have hk2 : 2 ≤ k := by omega
    have eX : Builtin.bitXor x (x.fdiv (2 ^ ((((lo : Int) + (hi : Int)).fdiv (2 ^ Int.toNat 1) - (lo : Int)) * (n : Int)).toNat) * 2 ^ ((((lo : Int) + (hi : Int)).fdiv (2 ^ Int.toNat 1) - (lo : Int)) * (n : Int)).toNat) = x % 2 ^ (n * (k / 2)) := by
      rw [hS2, Int.toNat_natCast]; exact xor_low x _ hx0
    have eU : x.fdiv (2 ^ ((((lo : Int) + (hi : Int)).fdiv (2 ^ Int.toNat 1) - (lo : Int)) * (n : Int)).toNat) = x / 2 ^ (n * (k / 2)) := by
      rw [hS2, Int.toNat_natCast, Int.fdiv_eq_ediv_of_nonneg _ (Int.le_of_lt (Int.pow_pos (by decide)))]
    rw [eX, hmid]
    have hp2 : (0 : Int) < 2 ^ (n * (k / 2)) := Int.pow_pos (by decide)
    have l1 : (mid.take (k / 2)).length = k / 2 := by rw [List.length_take]; omega
    have l2 : (mid.drop (k / 2)).length = k - k / 2 := by rw [List.length_drop]; omega
    have hv1 : IntsAre vs (pre ++ mid.take (k / 2) ++ (mid.drop (k / 2) ++ post)) := by
      have : pre ++ mid.take (k / 2) ++ (mid.drop (k / 2) ++ post) = pre ++ mid ++ post := by
        rw [List.append_assoc, ← List.append_assoc (mid.take _), List.take_append_drop, ← List.append_assoc]
      rw [this]; exact hv
    (refine' tel_use ?tH ?tB ?tF ?tX ?tN ?tT ?tC1 ?tC2 ?tC3 ?tk ?td ?tu ?_; (case tB => k_asm); (case tF => k_asm); (case tX => k_asm); (case tN => k_asm); (case tT => k_asm); (case tC1 => assumption); (case tC2 => assumption); (case tC3 => assumption); (case tk => first | exact rfl | assumption); (case tH => exact (IH (k / 2) (by omega) (x % 2 ^ (n * (k / 2))) _ _ _ lo (lo + k / 2) pre (mid.take (k / 2)) (mid.drop (k / 2) ++ post) vs (by omega) l1 hpl rfl (Int.emod_nonneg _ (Int.ne_of_gt hp2)) (Int.emod_lt_of_pos _ hp2) (by omega) (by omega) hv1)); (case td => ktr_room); (case tu => ktr_units))
    rintro v9 h9 tk9 news9 F9 N9 ⟨rfl, vs9, hi9, rfl⟩
    (try dsimp only)
    (repeat' (first | (with_reducible refine if_ff ?_) | (with_reducible refine if_tt ?_) | (k_unfold; (try dsimp only)) | (k_end; wrow_close) | (cell_step; walk1) | (cell_step; dsimp only; walk1) | (leave1; walk_say "STEP leave1"; try dsimp only) | fail "no step"))
    rw [eU, hmid]
    have hv2 : IntsAre vs9 ((pre ++ digs n (k / 2) (x % 2 ^ (n * (k / 2)))) ++ mid.drop (k / 2) ++ post) := by
      have : (pre ++ digs n (k / 2) (x % 2 ^ (n * (k / 2)))) ++ mid.drop (k / 2) ++ post = pre ++ digs n (k / 2) (x % 2 ^ (n * (k / 2))) ++ (mid.drop (k / 2) ++ post) := by
        rw [List.append_assoc]
      rw [this]; exact hi9
    have hsplit : k / 2 + (k - k / 2) = k := by omega
    have hx2 : x / 2 ^ (n * (k / 2)) < 2 ^ (n * (k - k / 2)) := by
      apply Int.ediv_lt_of_lt_mul hp2
      rw [← Int.pow_add, ← Nat.mul_add, Nat.add_comm, hsplit]
      exact hx1
    (refine' tel_use ?tH ?tB ?tF ?tX ?tN ?tT ?tC1 ?tC2 ?tC3 ?tk ?td ?tu ?_; (case tB => k_asm); (case tF => k_asm); (case tX => k_asm); (case tN => k_asm); (case tT => k_asm); (case tC1 => assumption); (case tC2 => assumption); (case tC3 => assumption); (case tk => first | exact rfl | assumption); (case tH => exact (IH (k - k / 2) (by omega) (x / 2 ^ (n * (k / 2))) _ _ _ (lo + k / 2) hi (pre ++ digs n (k / 2) (x % 2 ^ (n * (k / 2)))) (mid.drop (k / 2)) post vs9 (by omega) l2 (by rw [List.length_append, digs_length, hpl]) (by omega) (Int.ediv_nonneg hx0 (Int.le_of_lt hp2)) hx2 (by omega) (by have := Nat.mul_le_mul_left n (Nat.sub_le k (k / 2)); omega) hv2)); (case td => ktr_room); (case tu => ktr_units))
    rintro v8 h8 tk8 news8 F8 N8 ⟨rfl, vs8, hi8, rfl⟩
    (try dsimp only)
    (repeat' (first | (with_reducible refine if_ff ?_) | (with_reducible refine if_tt ?_) | (k_unfold; (try dsimp only)) | (k_end; wrow_close) | (cell_step; walk1) | (cell_step; dsimp only; walk1) | (leave1; walk_say "STEP leave1"; try dsimp only) | fail "no step"))
    rename Fr h₀ L _ _ => F7
    rename News h₀ L _ _ => N7
    refine hret _ _ _ _ F7 N7 ⟨rfl, vs8, ?_, rfl⟩
    have e := digs_split n (k / 2) (k - k / 2) x hx0
    rw [hsplit] at e
    rw [e]
    simpa only [List.append_assoc] using hi8
end
section
inductive I2dPost (tb : Led) (rest : Led) (a : Int) (n : Nat) (v : Value) (news' : Led) : Prop
  | mk (D : Addr) (vs : List Value) (tb' : Led) (zh1 : v = .ref D) (zh2 : news' = (D, W.listOf vs.toArray 0) :: (tb' ++ rest)) (zh3 : topA (tb ++ rest) ≤ D) (zh4 : TabL 37 62 4 qual1 tb') (zh5 : Newer tb tb' (topA (tb ++ rest))) (zh6 : IntsAre vs (digs n (nDig n a) a))
namespace Vint2digits
noncomputable def At0 (w : World) (rest : Led) (n : Nat) (ta : Tok) (tn : Tok) (z : TelV) : Prop := ∀ (tb : Led) (a : Int) (hn : 0 < n) (ha : 0 ≤ a) (h2 : Builtin.Int.intBits a < 2^19) (hn2 : n < 2^19) (off : OwnOff rest [37]) (ht : TabL 37 62 4 qual1 tb), TelAt w (nDig n a + 2) (8 * nDig n a + 20) (.ref 42) [.int a ta, .int n tn] (tb ++ rest) (I2dPost tb rest a n) z
noncomputable def w : World := eps1 ne_world (fun w => ∀ rest n ta tn z, At0 w rest n ta tn z)
noncomputable def rest : Led := eps1 ne_led (fun rest => ∀ n ta tn z, At0 w rest n ta tn z)
noncomputable def n : Nat := eps1 ne_nat (fun n => ∀ ta tn z, At0 w rest n ta tn z)
noncomputable def ta : Tok := eps1 ne_tok (fun ta => ∀ tn z, At0 w rest n ta tn z)
noncomputable def tn : Tok := eps1 ne_tok (fun tn => ∀ z, At0 w rest n ta tn z)
noncomputable def v0 : TelV := eps1 telV_ne (fun z => At0 w rest n ta tn z)
noncomputable abbrev h₀ := v0.h₀
noncomputable abbrev L := v0.L
theorem aux (tb : Led) (a : Int) (hn : 0 < n) (ha : 0 ≤ a) (h2 : Builtin.Int.intBits a < 2^19) (hn2 : n < 2^19) (off : OwnOff rest [37]) (ht : TabL 37 62 4 qual1 tb) :
  TelAt w (nDig n a + 2) (8 * nDig n a + 20) (.ref 42) [.int a ta, .int n tn] (tb ++ rest) (I2dPost tb rest a n) v0 := by
  intro B F X N T C1 C2 C3 hk hd hu hret
  have hKe : ((Builtin.Int.intBits a : Int) + (n : Int) - 1).fdiv (n : Int) = (nDig n a : Nat) := by
    rw [Int.fdiv_eq_ediv_of_nonneg _ (by omega), nDig]
    push_cast
    congr 1
    omega
  have hK1 : nDig n a < 2 ^ 20 := by
    have := Nat.div_le_self (Builtin.Int.intBits a + n - 1) n
    unfold nDig
    omega
  have hK0 : 0 ≤ ((Builtin.Int.intBits a : Int) + n - 1).fdiv n := by rw [hKe]; omega
  have hK2 : ((Builtin.Int.intBits a : Int) + n - 1).fdiv n < 2^20 := by rw [hKe]; omega
  rcases ht with rfl | ⟨c', oc, cvs, ct, rfl, hoc, hcv, hne⟩
  · have hsub : topA (([(37, tabObj #[])] : Led) ++ rest) = max 38 (topA rest) := rfl
    have htop : Newer [(37, tabObj #[])] [(37, tabObj #[])] (topA (([(37, tabObj #[])] : Led) ++ rest)) := Newer.rfl _ _
    simp only [List.cons_append, List.nil_append] at N
    refine wpAny_call ?_
    k_dflt (first | (refine' code_defC ?k1 ?k2 ?k3 ?k4 ?k5 ?kA ?kF ?kK ?k6 ?k7 ?k8 ?k9 ?kB ?kD ?_ ?c2 ?c3 ?c4; (case kA => exact rfl); (case kF => exact rfl); (case kK => first | exact rfl | assumption); (case k1 => k_asm); (case k2 => k_asm); (case k3 => k_asm); (case k4 => k_asm); (case k5 => k_asm); (case k6 => k_is); (case k7 => k_is); (case k8 => k_room); (case k9 => first | exact BindsTo.of_eq rfl | exact binds_K (by k_in) rfl (by k_is) rfl rfl rfl | fail "k_enter: no rule for these arguments"); (case kB => exact rfl); (case kD => decide +kernel); (case c2 => exact rfl); (case c3 => exact rfl); (case c4 => exact rfl); k_whole; intro z9g z9L z9h z9tk z9cells z9FG z9F z9N z9Y z9B z9X z9T z9l1; (try k_lt z9l1); k_cells z9Y; (try simp only [List.cons_append, List.nil_append] at z9N); (try dsimp only); (try k_lift z9B); (try k_fold)) | cell_enter)
    (repeat' (first | (with_reducible refine if_ff ?_) | (with_reducible refine if_tt ?_) | (k_unfold; (try dsimp only)) | (k_end; wrow_close) | (cell_step; walk1) | (cell_step; dsimp only; walk1) | (leave1; walk_say "STEP leave1"; try dsimp only) | fail "no step"))
    · rename_i oI0 oA0 oN dd1 dd2 hoN l0 h4 q2 D1 h3 i1 n1 s1 e1 e2 e3 q1 h2' oA hoA f1 c1 oc1 vs1 t1 ct1 dc1 h1 tk1 hd1 hd2 q3 q4 h0' oI F1 N1 hoI hane
      have en : n1 = nDig n a := by
        have := e3 hK0
        rw [hKe] at this
        omega
      subst en
      have N2 := news_drop4 N1
      have i2 : IntsAre _ ([] ++ _ ++ []) := (congrArg (IntsAre _) (by rw [List.nil_append, List.append_nil])).mp i1
      (refine' tel_use ?tH ?tB ?tF ?tX ?tN ?tT ?tC1 ?tC2 ?tC3 ?tk ?td ?tu ?_; (case tB => k_asm); (case tF => k_asm); (case tX => k_asm); (case tN => k_asm); (case tT => k_asm); (case tC1 => assumption); (case tC2 => assumption); (case tC3 => assumption); (case tk => first | exact rfl | assumption); (case tH => exact (inner1 w n hn (by omega) f1 c1 D1 _ _ _ oc1 oI oA oN dc1 _ ct1 vs1 t1 tn _ hd1 hd2 hoI hoA hoN (by omega) (by omega) (by omega) (by omega) (by omega) (by simp only [topA_cons]; omega) (nDig n a) a _ _ _ 0 (nDig n a) [] _ [] _ (nDig_pos hane n hn) e1 rfl (by omega) ha (bits_pow ha n hn) (by omega) (by have := nDig_mul a n; omega) i2)); (case td => ktr_room); (case tu => ktr_units))
      rintro v9 h9 tk9 news9 F9 N9 ⟨rfl, vs9, hi9, rfl⟩
      (try dsimp only)
      (repeat' (first | (with_reducible refine if_ff ?_) | (with_reducible refine if_tt ?_) | (k_unfold; (try dsimp only)) | (k_end; wrow_close) | (cell_step; walk1) | (cell_step; dsimp only; walk1) | (leave1; walk_say "STEP leave1"; try dsimp only) | fail "no step"))
      rename Fr h₀ L _ _ => F7
      rename News h₀ L _ _ => N7
      refine hret _ _ _ ((D1, W.listOf vs9.toArray 0) :: (c1, oc1) :: (37, tabObj #[rawInt 62, rawInt 4, .ref c1]) :: rest) F7 (cb_drop N7 (by kcj_all)) ⟨D1, vs9, [(c1, oc1), (37, tabObj #[rawInt 62, rawInt 4, .ref c1])], rfl, rfl, ?_, .inr ⟨c1, oc1, vs1, t1, rfl, hd1, hd2, ?_⟩, ?_, ?_⟩
      · rw [hsub]; omega
      · show @LT.lt Nat _ 37 c1; omega
      · intro p hp
        rcases List.mem_cons.mp hp with rfl | hp
        · right; rw [hsub]; show @LE.le Nat _ _ c1; omega
        · left; rw [List.mem_singleton.mp hp]; simp
      · simpa only [List.nil_append, List.append_nil] using hi9
    · rename_i oI0 oA0 oN dd1 dd2 hoN l0 h4 q2 D1 h3 i1 n1 s1 e1 e2 e3 q1 h2' oA hoA f1 c1 oc1 vs1 t1 ct1 dc1 h1 tk1 hd1 hd2 q3 q4 h0' oI F1 N1 hoI hane kF kN kT kX
      rename Fr h₀ L _ _ => F7
      rename News h₀ L _ _ => N7
      subst hane
      have ev : IntsAre _ (digs n (nDig n 0) 0) := (congrArg (IntsAre _) (by rw [nDig_zero] at hKe ⊢; rw [hKe]; rfl)).mp i1
      refine hret _ _ _ ((D1, W.listOf _ 0) :: (c1, oc1) :: (37, tabObj #[rawInt 62, rawInt 4, .ref c1]) :: rest) F7 (cb_drop N7 (by kcj_all)) ⟨D1, _, [(c1, oc1), (37, tabObj #[rawInt 62, rawInt 4, .ref c1])], rfl, rfl, ?_, .inr ⟨c1, oc1, vs1, t1, rfl, hd1, hd2, ?_⟩, ?_, ev⟩
      · rw [hsub]; omega
      · show @LT.lt Nat _ 37 c1; omega
      · intro p hp
        rcases List.mem_cons.mp hp with rfl | hp
        · right; rw [hsub]; show @LE.le Nat _ _ c1; omega
        · left; rw [List.mem_singleton.mp hp]; simp
  · have hsub : topA (([(c', oc), (37, tabObj #[rawInt 62, rawInt 4, .ref c'])] : Led) ++ rest) = max (c' + 1) (max 38 (topA rest)) := rfl
    have hne' : @LT.lt Nat _ 37 c' := hne
    simp only [List.cons_append, List.nil_append] at N
    refine wpAny_call ?_
    k_dflt (first | (refine' code_defC ?k1 ?k2 ?k3 ?k4 ?k5 ?kA ?kF ?kK ?k6 ?k7 ?k8 ?k9 ?kB ?kD ?_ ?c2 ?c3 ?c4; (case kA => exact rfl); (case kF => exact rfl); (case kK => first | exact rfl | assumption); (case k1 => k_asm); (case k2 => k_asm); (case k3 => k_asm); (case k4 => k_asm); (case k5 => k_asm); (case k6 => k_is); (case k7 => k_is); (case k8 => k_room); (case k9 => first | exact BindsTo.of_eq rfl | exact binds_K (by k_in) rfl (by k_is) rfl rfl rfl | fail "k_enter: no rule for these arguments"); (case kB => exact rfl); (case kD => decide +kernel); (case c2 => exact rfl); (case c3 => exact rfl); (case c4 => exact rfl); k_whole; intro z9g z9L z9h z9tk z9cells z9FG z9F z9N z9Y z9B z9X z9T z9l1; (try k_lt z9l1); k_cells z9Y; (try simp only [List.cons_append, List.nil_append] at z9N); (try dsimp only); (try k_lift z9B); (try k_fold)) | cell_enter)
    (repeat' (first | (with_reducible refine if_ff ?_) | (with_reducible refine if_tt ?_) | (k_unfold; (try dsimp only)) | (k_end; wrow_close) | (cell_step; walk1) | (cell_step; dsimp only; walk1) | (leave1; walk_say "STEP leave1"; try dsimp only) | fail "no step"))
    · rename_i oI0 oA0 oN dd1 dd2 hoN l0 h4 q2 D1 h3 i1 n1 s1 e1 e2 e3 q1 h2' oA hoA f1 ct1 dc1 h1 tk1 q4 h0' oI F1 N1 hoI hane
      have en : n1 = nDig n a := by
        have := e3 hK0
        rw [hKe] at this
        omega
      subst en
      have N2 := news_warm N1
      have i2 : IntsAre _ ([] ++ _ ++ []) := (congrArg (IntsAre _) (by rw [List.nil_append, List.append_nil])).mp i1
      (refine' tel_use ?tH ?tB ?tF ?tX ?tN ?tT ?tC1 ?tC2 ?tC3 ?tk ?td ?tu ?_; (case tB => k_asm); (case tF => k_asm); (case tX => k_asm); (case tN => k_asm); (case tT => k_asm); (case tC1 => assumption); (case tC2 => assumption); (case tC3 => assumption); (case tk => first | exact rfl | assumption); (case tH => exact (inner1 w n hn (by omega) f1 c' D1 _ _ _ oc oI oA oN dc1 _ ct1 cvs ct tn _ hoc hcv hoI hoA hoN (by omega) (by omega) (by omega) (by omega) (by omega) (by simp only [topA_cons]; omega) (nDig n a) a _ _ _ 0 (nDig n a) [] _ [] _ (nDig_pos hane n hn) e1 rfl (by omega) ha (bits_pow ha n hn) (by omega) (by have := nDig_mul a n; omega) i2)); (case td => ktr_room); (case tu => ktr_units))
      rintro v9 h9 tk9 news9 F9 N9 ⟨rfl, vs9, hi9, rfl⟩
      (try dsimp only)
      (repeat' (first | (with_reducible refine if_ff ?_) | (with_reducible refine if_tt ?_) | (k_unfold; (try dsimp only)) | (k_end; wrow_close) | (cell_step; walk1) | (cell_step; dsimp only; walk1) | (leave1; walk_say "STEP leave1"; try dsimp only) | fail "no step"))
      rename Fr h₀ L _ _ => F7
      rename News h₀ L _ _ => N7
      refine hret _ _ _ ((D1, W.listOf vs9.toArray 0) :: (c', oc) :: (37, tabObj #[rawInt 62, rawInt 4, .ref c']) :: rest) F7 (cb_drop N7 (by kcj_all)) ⟨D1, vs9, [(c', oc), (37, tabObj #[rawInt 62, rawInt 4, .ref c'])], rfl, rfl, ?_, .inr ⟨c', oc, cvs, ct, rfl, hoc, hcv, ?_⟩, ?_, ?_⟩
      · rw [hsub]; omega
      · exact hne
      · exact Newer.rfl _ _
      · simpa only [List.nil_append, List.append_nil] using hi9
    · rename_i oI0 oA0 oN dd1 dd2 hoN l0 h4 q2 D1 h3 i1 n1 s1 e1 e2 e3 q1 h2' oA hoA f1 ct1 dc1 h1 tk1 q4 h0' oI F1 N1 hoI hane kF kN kT kX
      rename Fr h₀ L _ _ => F7
      rename News h₀ L _ _ => N7
      subst hane
      have ev : IntsAre _ (digs n (nDig n 0) 0) := (congrArg (IntsAre _) (by rw [nDig_zero] at hKe ⊢; rw [hKe]; rfl)).mp i1
      refine hret _ _ _ ((D1, W.listOf _ 0) :: (c', oc) :: (37, tabObj #[rawInt 62, rawInt 4, .ref c']) :: rest) F7 (cb_drop N7 (by kcj_all)) ⟨D1, _, [(c', oc), (37, tabObj #[rawInt 62, rawInt 4, .ref c'])], rfl, rfl, ?_, .inr ⟨c', oc, cvs, ct, rfl, hoc, hcv, ?_⟩, ?_, ev⟩
      · rw [hsub]; omega
      · exact hne
      · exact Newer.rfl _ _
end Vint2digits
theorem int2digits (w : World) (tb rest : Led) (a : Int) (n : Nat) (ta tn : Tok) (hn : 0 < n) (ha : 0 ≤ a) (h2 : Builtin.Int.intBits a < 2^19) (hn2 : n < 2^19) (off : OwnOff rest [37]) (ht : TabL 37 62 4 qual1 tb) :
  Tel w (nDig n a + 2) (8 * nDig n a + 20) (.ref 42) [.int a ta, .int n tn] (tb ++ rest) (I2dPost tb rest a n) := tel_of fun z => (show ∀ w rest n ta tn z, Vint2digits.At0 w rest n ta tn z from (eps1_all (eps1_all (eps1_all (eps1_all (eps1_all (eps1_all @Vint2digits.aux))))))) w rest n ta tn z tb a hn ha h2 hn2 off ht
end
section
theorem inner2 (w : World) (n : Nat) (hn : 0 < n) (hn2 : n < 2^20) (f c' D cI cD cN : Addr) (oc oI oD oN : Obj) (doc pm ctv : Value) (cvs : Array Value) (ct tn : Tok) (rest : Led) (vs : List Value) (ep : Nat)
   (hoc : oc.data = .fields cvs) (hcv : cvs[1]? = some (.str qual2 ct))
   (hI : oI.data = .cell (some (.ref f))) (hD : oD.data = .cell (some (.ref D))) (hN : oN.data = .cell (some (.int n tn))) :
   ∀ (k : Nat) (tl th : Tok) (lo hi : Nat) (pre mid post : List Int), 0 < k → mid.length = k → pre.length = lo → hi = lo + k → lo + k < 2^20 → k * n < 2^20 → IntsAre vs (pre ++ mid ++ post) → (∀ x ∈ mid, 0 ≤ x ∧ x < 2 ^ n) →
   Tel w k (8 * k) (.ref f) [.int lo tl, .int hi th]
     ((f, fnMade (Str.ofString "inner") qual2 (fArgs (fnIn 8 0)) (fBody (fnIn 8 0)) (fScope (fnIn 8 0)) [(Str.ofString "n", cN), (Str.ofString "inner", cI), (Str.ofString "digits", cD)] doc pm c' ctv) :: (c', oc) :: (D, W.listOf vs.toArray ep) :: (cI, oI) :: (cN, oN) :: (cD, oD) :: rest)
     (fun v news' => ∃ t, v = .int (undig n mid) t ∧ news' = ((f, fnMade (Str.ofString "inner") qual2 (fArgs (fnIn 8 0)) (fBody (fnIn 8 0)) (fScope (fnIn 8 0)) [(Str.ofString "n", cN), (Str.ofString "inner", cI), (Str.ofString "digits", cD)] doc pm c' ctv) :: (c', oc) :: (D, W.listOf vs.toArray ep) :: (cI, oI) :: (cN, oN) :: (cD, oD) :: rest)) := by
  intro k
  induction k using Nat.strongRecOn with
  | ind k IH =>
  intro tl th lo hi pre mid post hk0 hml hpl hhi hb1 hb2 hv hmb
  intro mean mg mb dp un gd cn cs ad ccd cl outer A₀ base h₀ L m s Q E B F X N T C1 C2 C3 hk hd hu hret
  have hlen : (pre ++ mid ++ post).length = lo + k + post.length := by rw [List.length_append, List.length_append, hml, hpl]
  have hmid := mid_is lo hi k hhi
  have hS := shift_is lo (k / 2) n
  have hS2 : ((((lo : Int) + (hi : Int)).fdiv (2 ^ Int.toNat 1) - (lo : Int)) * (n : Int)) = ((n * (k / 2) : Nat) : Int) := by rw [hmid, hS]
  have f1 : 0 ≤ (((lo : Int) + (hi : Int)).fdiv (2 ^ Int.toNat 1) - (lo : Int)) * (n : Int) := by rw [hS2]; exact Int.natCast_nonneg _
  have l1 : (mid.take (k / 2)).length = k / 2 := by rw [List.length_take]; omega
  have l2 : (mid.drop (k / 2)).length = k - k / 2 := by rw [List.length_drop]; omega
  have m1 : ∀ x ∈ mid.take (k / 2), 0 ≤ x ∧ x < 2 ^ n := fun x hx => hmb x (List.mem_of_mem_take hx)
  have m2 : ∀ x ∈ mid.drop (k / 2), 0 ≤ x ∧ x < 2 ^ n := fun x hx => hmb x (List.mem_of_mem_drop hx)
  have f2 : (Builtin.Int.intBits (undig n (mid.drop (k / 2))) : Int) + (((lo : Int) + (hi : Int)).fdiv (2 ^ Int.toNat 1) - (lo : Int)) * (n : Int) ≤ 2 ^ 27 := by
    have b1 := bits_of_lt (undig_nonneg n _ fun x hx => (m2 x hx).1) (undig_lt n _ fun x hx => (m2 x hx).2)
    rw [l2] at b1
    rw [hS2]
    have b2 : (k - k / 2) * n ≤ k * n := Nat.mul_le_mul_right n (Nat.sub_le _ _)
    have b3 : n * (k / 2) ≤ k * n := by rw [Nat.mul_comm]; exact Nat.mul_le_mul_right n (Nat.div_le_self k 2)
    omega
  refine wpAny_call ?_
  k_dflt (first | (refine' code_nest ?k1 ?k2 ?k3 ?k4 ?k5 ?kA ?kF ?kK ?k6 ?k7 ?k8 ?k9 ?kB ?_ ?c2 ?c3 ?c4 ?c5; (case kA => exact rfl); (case kF => exact rfl); (case kK => first | exact rfl | assumption); (case k1 => k_asm); (case k2 => k_asm); (case k3 => k_asm); (case k4 => k_asm); (case k5 => k_asm); (case k6 => k_mem); (case k7 => exact codeRec_news (by k_asm) (by k_mem) (by assumption) (by assumption)); (case k8 => k_room); (case k9 => exact BindsTo.of_eq rfl); (case c5 => decide); (case kB => exact locs rfl); (case c2 => exact rfl); (case c3 => exact rfl); (case c4 => exact rfl); k_whole; intro z9g z9L z9h z9FG z9F z9N z9B z9X z9T; (try dsimp only); (try k_lift z9B); (try k_fold)) | kn_enter)
  (repeat' (first | (with_reducible refine if_ff ?_) | (with_reducible refine if_tt ?_) | (k_unfold; (try dsimp only)) | (k_end; wrow_close) | (cell_step; walk1) | (cell_step; dsimp only; walk1) | (leave1; walk_say "STEP leave1"; try dsimp only) | fail "no step"))
  · rename ((_ : Int) + 1 = _) => he
    rename Fr h₀ L _ _ => F9
    rename News h₀ L _ _ => N9
    have hk1 : k = 1 := by omega
    subst hk1
    obtain ⟨m0, rfl⟩ : ∃ m0, mid = [m0] := by
      match mid, hml with
      | [m0], _ => exact ⟨m0, rfl⟩
    refine hret _ _ _ _ F9 N9 ⟨_, congrArg (fun z => Value.int z _) ?_, rfl⟩
    subst hpl
    simp [undig]
  · rename (¬ ((_ : Int) + 1 = _)) => hne
    have hk2 : 2 ≤ k := by omega
    rw [hmid]
    have hsplit : k / 2 + (k - k / 2) = k := by omega
    have hv2 : IntsAre vs ((pre ++ mid.take (k / 2)) ++ mid.drop (k / 2) ++ post) := by
      have : (pre ++ mid.take (k / 2)) ++ mid.drop (k / 2) ++ post = pre ++ mid ++ post := by
        rw [List.append_assoc pre, List.take_append_drop]
      rw [this]; exact hv
    have hv1 : IntsAre vs (pre ++ mid.take (k / 2) ++ (mid.drop (k / 2) ++ post)) := by
      rw [← List.append_assoc]; exact hv2
    (refine' tel_use ?tH ?tB ?tF ?tX ?tN ?tT ?tC1 ?tC2 ?tC3 ?tk ?td ?tu ?_; (case tB => k_asm); (case tF => k_asm); (case tX => k_asm); (case tN => k_asm); (case tT => k_asm); (case tC1 => assumption); (case tC2 => assumption); (case tC3 => assumption); (case tk => first | exact rfl | assumption); (case tH => exact (IH (k - k / 2) (by omega) _ _ (lo + k / 2) hi (pre ++ mid.take (k / 2)) (mid.drop (k / 2)) post (by omega) l2 (by rw [List.length_append, l1, hpl]) (by omega) (by omega) (by have := Nat.mul_le_mul_right n (Nat.sub_le k (k / 2)); omega) hv2 m2)); (case td => ktr_room); (case tu => ktr_units))
    rintro v9 h9 tk9 news9 F9 N9 ⟨t9, rfl, rfl⟩
    (try dsimp only)
    (repeat' (first | (with_reducible refine if_ff ?_) | (with_reducible refine if_tt ?_) | (k_unfold; (try dsimp only)) | (k_end; wrow_close) | (cell_step; walk1) | (cell_step; dsimp only; walk1) | (leave1; walk_say "STEP leave1"; try dsimp only) | fail "no step"))
    rw [hmid]
    (refine' tel_use ?tH ?tB ?tF ?tX ?tN ?tT ?tC1 ?tC2 ?tC3 ?tk ?td ?tu ?_; (case tB => k_asm); (case tF => k_asm); (case tX => k_asm); (case tN => k_asm); (case tT => k_asm); (case tC1 => assumption); (case tC2 => assumption); (case tC3 => assumption); (case tk => first | exact rfl | assumption); (case tH => exact (IH (k / 2) (by omega) _ _ lo (lo + k / 2) pre (mid.take (k / 2)) (mid.drop (k / 2) ++ post) (by omega) l1 hpl rfl (by omega) (by have := Nat.mul_le_mul_right n (Nat.div_le_self k 2); omega) hv1 m1)); (case td => ktr_room); (case tu => ktr_units))
    rintro v8 h8 tk8 news8 F8 N8 ⟨t8, rfl, rfl⟩
    (try dsimp only)
    (repeat' (first | (with_reducible refine if_ff ?_) | (with_reducible refine if_tt ?_) | (k_unfold; (try dsimp only)) | (k_end; wrow_close) | (cell_step; walk1) | (cell_step; dsimp only; walk1) | (leave1; walk_say "STEP leave1"; try dsimp only) | fail "no step"))
    rename Fr h₀ L _ _ => F7
    rename News h₀ L _ _ => N7
    refine hret _ _ _ _ F7 N7 ⟨_, congrArg (fun z => Value.int z _) ?_, rfl⟩
    rw [hS, Int.toNat_natCast]
    have e := undig_append n (mid.take (k / 2)) (mid.drop (k / 2))
    rw [List.take_append_drop, l1] at e
    rw [e, Nat.mul_comm n]
    omega
end
section
inductive D2iPost (tb : Led) (rest : Led) (D : Addr) (vs : List Value) (ns : List Int) (ep : Nat) (n : Nat) (v : Value) (news' : Led) : Prop
  | mk (t : Tok) (tb' : Led) (zh1 : v = .int (undig n ns) t) (zh2 : news' = (tb' ++ (D, W.listOf vs.toArray ep) :: rest)) (zh3 : TabL 44 77 4 qual2 tb') (zh4 : Newer tb tb' (topA (tb ++ (D, W.listOf vs.toArray ep) :: rest)))
theorem digits2int (w : World) (tb rest : Led) (D : Addr) (vs : List Value) (ns : List Int) (ep n : Nat) (tn : Tok) (hn : 0 < n) (hn2 : n < 2^19) (hl : ns.length < 2^19) (hln : ns.length * n < 2^20) (hv : IntsAre vs ns) (hb : ∀ x ∈ ns, 0 ≤ x ∧ x < 2 ^ n) (off : OwnOff rest [44]) (hD : @LT.lt Nat _ 44 D) (ht : TabL 44 77 4 qual2 tb) :
  Tel w (ns.length + 2) (8 * ns.length + 20) (.ref 49) [.ref D, .int n tn] (tb ++ (D, W.listOf vs.toArray ep) :: rest) (D2iPost tb rest D vs ns ep n) := by
  intro mean mg mb dp un gd cn cs ad ccd cl outer A₀ base h₀ L m s Q E B F X N T C1 C2 C3 hk hd hu hret
  have hvl := hv.length
  rcases ht with rfl | ⟨c', oc, cvs, ct, rfl, hoc, hcv, hne⟩
  · have hsub : topA (([(44, tabObj #[])] : Led) ++ (D, W.listOf vs.toArray ep) :: rest) = max 45 (max (D + 1) (topA rest)) := rfl
    simp only [List.cons_append, List.nil_append] at N
    refine wpAny_call ?_
    k_dflt (first | (refine' code_defC ?k1 ?k2 ?k3 ?k4 ?k5 ?kA ?kF ?kK ?k6 ?k7 ?k8 ?k9 ?kB ?kD ?_ ?c2 ?c3 ?c4; (case kA => exact rfl); (case kF => exact rfl); (case kK => first | exact rfl | assumption); (case k1 => k_asm); (case k2 => k_asm); (case k3 => k_asm); (case k4 => k_asm); (case k5 => k_asm); (case k6 => k_is); (case k7 => k_is); (case k8 => k_room); (case k9 => first | exact BindsTo.of_eq rfl | exact binds_K (by k_in) rfl (by k_is) rfl rfl rfl | fail "k_enter: no rule for these arguments"); (case kB => exact rfl); (case kD => decide +kernel); (case c2 => exact rfl); (case c3 => exact rfl); (case c4 => exact rfl); k_whole; intro z9g z9L z9h z9tk z9cells z9FG z9F z9N z9Y z9B z9X z9T z9l1; (try k_lt z9l1); k_cells z9Y; (try simp only [List.cons_append, List.nil_append] at z9N); (try dsimp only); (try k_lift z9B); (try k_fold)) | cell_enter)
    (repeat' (first | (with_reducible refine if_ff ?_) | (with_reducible refine if_tt ?_) | (k_unfold; (try dsimp only)) | (k_end; wrow_close) | (cell_step; walk1) | (cell_step; dsimp only; walk1) | (leave1; walk_say "STEP leave1"; try dsimp only) | fail "no step"))
    · rename_i oI0 oN oD dd1 hoN hoD f1 c1 oc1 vs1 t1 ct1 dc1 h1 tk1 hd1 hd2 q3 q4 h0' oI F1 N1 hoI hlen
      have N2 := news_cold2 N1
      have hv2 : IntsAre vs ([] ++ ns ++ []) := by rw [List.nil_append, List.append_nil]; exact hv
      (refine' tel_use ?tH ?tB ?tF ?tX ?tN ?tT ?tC1 ?tC2 ?tC3 ?tk ?td ?tu ?_; (case tB => k_asm); (case tF => k_asm); (case tX => k_asm); (case tN => k_asm); (case tT => k_asm); (case tC1 => assumption); (case tC2 => assumption); (case tC3 => assumption); (case tk => first | exact rfl | assumption); (case tH => exact (inner2 w n hn (by omega) f1 c1 D _ _ _ oc1 oI oD oN dc1 _ ct1 vs1 t1 tn _ vs ep hd1 hd2 hoI hoD hoN ns.length _ _ 0 ns.length [] ns [] hlen rfl rfl (by omega) (by omega) hln hv2 hb)); (case td => ktr_room); (case tu => ktr_units))
      rintro v9 h9 tk9 news9 F9 N9 ⟨t9, rfl, rfl⟩
      (try dsimp only)
      (repeat' (first | (with_reducible refine if_ff ?_) | (with_reducible refine if_tt ?_) | (k_unfold; (try dsimp only)) | (k_end; wrow_close) | (cell_step; walk1) | (cell_step; dsimp only; walk1) | (leave1; walk_say "STEP leave1"; try dsimp only) | fail "no step"))
      rename Fr h₀ L _ _ => F7
      rename News h₀ L _ _ => N7
      refine hret _ _ _ ((c1, oc1) :: (44, tabObj #[rawInt 77, rawInt 4, .ref c1]) :: (D, W.listOf vs.toArray ep) :: rest) F7 (cb_drop N7 (by kcj_all)) ⟨_, [(c1, oc1), (44, tabObj #[rawInt 77, rawInt 4, .ref c1])], rfl, rfl, .inr ⟨c1, oc1, vs1, t1, rfl, hd1, hd2, ?_⟩, ?_⟩
      · show @LT.lt Nat _ 44 c1; omega
      · intro p hp
        rcases List.mem_cons.mp hp with rfl | hp
        · right; rw [hsub]; show @LE.le Nat _ _ c1; omega
        · left; rw [List.mem_singleton.mp hp]; simp
    · rename_i oI0 oN oD dd1 hoN hoD f1 c1 oc1 vs1 t1 ct1 dc1 h1 tk1 hd1 hd2 q3 q4 h0' oI F1 N1 hoI hlen kF kN kT kX
      rename Fr h₀ L _ _ => F7
      rename News h₀ L _ _ => N7
      have e0 : ns = [] := List.length_eq_zero_iff.mp (by omega)
      refine hret _ _ _ ((c1, oc1) :: (44, tabObj #[rawInt 77, rawInt 4, .ref c1]) :: (D, W.listOf vs.toArray ep) :: rest) F7 (cb_drop N7 (by kcj_all)) ⟨_, [(c1, oc1), (44, tabObj #[rawInt 77, rawInt 4, .ref c1])], congrArg (fun z => Value.int z _) (by rw [e0]; rfl), rfl, .inr ⟨c1, oc1, vs1, t1, rfl, hd1, hd2, ?_⟩, ?_⟩
      · show @LT.lt Nat _ 44 c1; omega
      · intro p hp
        rcases List.mem_cons.mp hp with rfl | hp
        · right; rw [hsub]; show @LE.le Nat _ _ c1; omega
        · left; rw [List.mem_singleton.mp hp]; simp
  · have hsub : topA (([(c', oc), (44, tabObj #[rawInt 77, rawInt 4, .ref c'])] : Led) ++ (D, W.listOf vs.toArray ep) :: rest) = max (c' + 1) (max 45 (max (D + 1) (topA rest))) := rfl
    have hne' : @LT.lt Nat _ 44 c' := hne
    simp only [List.cons_append, List.nil_append] at N
    refine wpAny_call ?_
    k_dflt (first | (refine' code_defC ?k1 ?k2 ?k3 ?k4 ?k5 ?kA ?kF ?kK ?k6 ?k7 ?k8 ?k9 ?kB ?kD ?_ ?c2 ?c3 ?c4; (case kA => exact rfl); (case kF => exact rfl); (case kK => first | exact rfl | assumption); (case k1 => k_asm); (case k2 => k_asm); (case k3 => k_asm); (case k4 => k_asm); (case k5 => k_asm); (case k6 => k_is); (case k7 => k_is); (case k8 => k_room); (case k9 => first | exact BindsTo.of_eq rfl | exact binds_K (by k_in) rfl (by k_is) rfl rfl rfl | fail "k_enter: no rule for these arguments"); (case kB => exact rfl); (case kD => decide +kernel); (case c2 => exact rfl); (case c3 => exact rfl); (case c4 => exact rfl); k_whole; intro z9g z9L z9h z9tk z9cells z9FG z9F z9N z9Y z9B z9X z9T z9l1; (try k_lt z9l1); k_cells z9Y; (try simp only [List.cons_append, List.nil_append] at z9N); (try dsimp only); (try k_lift z9B); (try k_fold)) | cell_enter)
    (repeat' (first | (with_reducible refine if_ff ?_) | (with_reducible refine if_tt ?_) | (k_unfold; (try dsimp only)) | (k_end; wrow_close) | (cell_step; walk1) | (cell_step; dsimp only; walk1) | (leave1; walk_say "STEP leave1"; try dsimp only) | fail "no step"))
    · rename_i oI0 oN oD dd1 hoN hoD f1 ct1 dc1 h1 tk1 q4 h0' oI F1 N1 hoI hlen
      have N2 := news_warm2 N1
      have hv2 : IntsAre vs ([] ++ ns ++ []) := by rw [List.nil_append, List.append_nil]; exact hv
      (refine' tel_use ?tH ?tB ?tF ?tX ?tN ?tT ?tC1 ?tC2 ?tC3 ?tk ?td ?tu ?_; (case tB => k_asm); (case tF => k_asm); (case tX => k_asm); (case tN => k_asm); (case tT => k_asm); (case tC1 => assumption); (case tC2 => assumption); (case tC3 => assumption); (case tk => first | exact rfl | assumption); (case tH => exact (inner2 w n hn (by omega) f1 c' D _ _ _ oc oI oD oN dc1 _ ct1 cvs ct tn _ vs ep hoc hcv hoI hoD hoN ns.length _ _ 0 ns.length [] ns [] hlen rfl rfl (by omega) (by omega) hln hv2 hb)); (case td => ktr_room); (case tu => ktr_units))
      rintro v9 h9 tk9 news9 F9 N9 ⟨t9, rfl, rfl⟩
      (try dsimp only)
      (repeat' (first | (with_reducible refine if_ff ?_) | (with_reducible refine if_tt ?_) | (k_unfold; (try dsimp only)) | (k_end; wrow_close) | (cell_step; walk1) | (cell_step; dsimp only; walk1) | (leave1; walk_say "STEP leave1"; try dsimp only) | fail "no step"))
      rename Fr h₀ L _ _ => F7
      rename News h₀ L _ _ => N7
      refine hret _ _ _ ((c', oc) :: (44, tabObj #[rawInt 77, rawInt 4, .ref c']) :: (D, W.listOf vs.toArray ep) :: rest) F7 (cb_drop N7 (by kcj_all)) ⟨_, [(c', oc), (44, tabObj #[rawInt 77, rawInt 4, .ref c'])], rfl, rfl, .inr ⟨c', oc, cvs, ct, rfl, hoc, hcv, ?_⟩, ?_⟩
      · exact hne
      · exact Newer.rfl _ _
    · rename_i oI0 oN oD dd1 hoN hoD f1 ct1 dc1 h1 tk1 q4 h0' oI F1 N1 hoI hlen kF kN kT kX
      rename Fr h₀ L _ _ => F7
      rename News h₀ L _ _ => N7
      have e0 : ns = [] := List.length_eq_zero_iff.mp (by omega)
      refine hret _ _ _ ((c', oc) :: (44, tabObj #[rawInt 77, rawInt 4, .ref c']) :: (D, W.listOf vs.toArray ep) :: rest) F7 (cb_drop N7 (by kcj_all)) ⟨_, [(c', oc), (44, tabObj #[rawInt 77, rawInt 4, .ref c'])], congrArg (fun z => Value.int z _) (by rw [e0]; rfl), rfl, .inr ⟨c', oc, cvs, ct, rfl, hoc, hcv, ?_⟩, ?_⟩
      · exact hne
      · exact Newer.rfl _ _
end
section
inductive DmpInv (rest : Led) (a : Int) (b : Int) (t0 : Tok) (Qd : Addr) (D : Addr) (vs : List Value) (t1' : Led) (t2 : Led) (dv : List Value) (m' : Str → Option Value) (nx : Led) : Prop
  | mk (ds : List Int) (qs : List Int) (qv : List Value) (ep : Nat) (r : Int) (tr : Tok) (tn : Tok) (zh1 : IntsAre dv ds) (zh2 : IntsAre qv qs) (zh3 : (∀ x ∈ ds, 0 ≤ x ∧ x < 2 ^ (Builtin.Int.intBits b))) (zh4 : (∀ x ∈ qs, 0 ≤ x ∧ x < 2 ^ (Builtin.Int.intBits b))) (zh5 : 0 ≤ r) (zh6 : r < b) (zh7 : ds.length + qs.length = nDig (Builtin.Int.intBits b) a) (zh8 : a = (undig (Builtin.Int.intBits b) qs.reverse * b + r) * 2 ^ (ds.length * (Builtin.Int.intBits b)) + undig (Builtin.Int.intBits b) ds.reverse) (zh9 : Has m' [(Str.ofString "b", .int b t0), (Str.ofString "n", .int (Builtin.Int.intBits b) tn), (Str.ofString "q_digits", .ref Qd), (Str.ofString "r", .int r tr)]) (zh10 : nx = (Qd, W.listOf qv.toArray ep) :: (D, W.listOf vs.toArray 0) :: (t1' ++ (t2 ++ rest)))
theorem topA_mem {a : Addr} {o : Obj} : ∀ {l : Led}, (a, o) ∈ l → a + 1 ≤ topA l
  | p :: r, h => by
    rw [topA_cons]
    rcases List.mem_cons.mp h with rfl | h
    · exact Nat.le_max_left _ _
    · exact Nat.le_trans (topA_mem h) (Nat.le_max_right _ _)
namespace Vdivmod_pos
noncomputable def At0 (w : World) (rest : Led) (a : Int) (b : Int) (ta : Tok) (t0 : Tok) (z : TelV) : Prop := ∀ (tb : Led) (ha : 0 ≤ a) (hb : 0 < b) (h1 : Builtin.Int.intBits b ≤ 4000) (h2 : Builtin.Int.intBits a < 2^12) (off1 : OwnOff rest [37]) (off2 : OwnOff rest [44]) (ht : Tabs tb), TelAt w (nDig (Builtin.Int.intBits b) a + 4) (8 * nDig (Builtin.Int.intBits b) a + 40) (.ref 56) [.int a ta, .int b t0] (tb ++ rest) (DivPost tb rest (a / b) (a % b)) z
noncomputable def w : World := eps1 ne_world (fun w => ∀ rest a b ta t0 z, At0 w rest a b ta t0 z)
noncomputable def rest : Led := eps1 ne_led (fun rest => ∀ a b ta t0 z, At0 w rest a b ta t0 z)
noncomputable def a : Int := eps1 ne_int (fun a => ∀ b ta t0 z, At0 w rest a b ta t0 z)
noncomputable def b : Int := eps1 ne_int (fun b => ∀ ta t0 z, At0 w rest a b ta t0 z)
noncomputable def ta : Tok := eps1 ne_tok (fun ta => ∀ t0 z, At0 w rest a b ta t0 z)
noncomputable def t0 : Tok := eps1 ne_tok (fun t0 => ∀ z, At0 w rest a b ta t0 z)
noncomputable def v0 : TelV := eps1 telV_ne (fun z => At0 w rest a b ta t0 z)
noncomputable abbrev h₀ := v0.h₀
noncomputable abbrev L := v0.L
theorem aux (tb : Led) (ha : 0 ≤ a) (hb : 0 < b) (h1 : Builtin.Int.intBits b ≤ 4000) (h2 : Builtin.Int.intBits a < 2^12) (off1 : OwnOff rest [37]) (off2 : OwnOff rest [44]) (ht : Tabs tb) :
  TelAt w (nDig (Builtin.Int.intBits b) a + 4) (8 * nDig (Builtin.Int.intBits b) a + 40) (.ref 56) [.int a ta, .int b t0] (tb ++ rest) (DivPost tb rest (a / b) (a % b)) v0 := by
  intro B F X N T C1 C2 C3 hk hd hu hret
  obtain ⟨t1, t2, rfl, ht1, ht2, o1, o2⟩ := ht
  have hbits : 0 < Builtin.Int.intBits b := by
    rcases Nat.eq_zero_or_pos (Builtin.Int.intBits b) with h | h
    · have := intBits_le_iff.mp (Nat.le_of_eq h)
      simp at this
      omega
    · exact h
  rw [List.append_assoc] at N
  refine wpAny_call ?_
  k_dflt (first | (refine' code_defC ?k1 ?k2 ?k3 ?k4 ?k5 ?kA ?kF ?kK ?k6 ?k7 ?k8 ?k9 ?kB ?kD ?_ ?c2 ?c3 ?c4; (case kA => exact rfl); (case kF => exact rfl); (case kK => first | exact rfl | assumption); (case k1 => k_asm); (case k2 => k_asm); (case k3 => k_asm); (case k4 => k_asm); (case k5 => k_asm); (case k6 => k_is); (case k7 => k_is); (case k8 => k_room); (case k9 => first | exact BindsTo.of_eq rfl | exact binds_K (by k_in) rfl (by k_is) rfl rfl rfl | fail "k_enter: no rule for these arguments"); (case kB => exact rfl); (case kD => decide +kernel); (case c2 => exact rfl); (case c3 => exact rfl); (case c4 => exact rfl); k_whole; intro z9g z9L z9h z9tk z9cells z9FG z9F z9N z9Y z9B z9X z9T z9l1; (try k_lt z9l1); k_cells z9Y; (try simp only [List.cons_append, List.nil_append] at z9N); (try dsimp only); (try k_lift z9B); (try k_fold)) | cell_enter)
  (repeat' (first | (with_reducible refine if_ff ?_) | (with_reducible refine if_tt ?_) | (k_unfold; (try dsimp only)) | (k_end; wrow_close) | (cell_step; walk1) | (cell_step; dsimp only; walk1) | (leave1; walk_say "STEP leave1"; try dsimp only) | fail "no step"))
  (refine' tel_use ?tH ?tB ?tF ?tX ?tN ?tT ?tC1 ?tC2 ?tC3 ?tk ?td ?tu ?_; (case tB => k_asm); (case tF => k_asm); (case tX => k_asm); (case tN => k_asm); (case tT => k_asm); (case tC1 => assumption); (case tC2 => assumption); (case tC3 => assumption); (case tk => first | exact rfl | assumption); (case tH => exact (int2digits w t1 (t2 ++ rest) a (Builtin.Int.intBits b) _ _ hbits ha (by omega) (by omega) (ownOff_app o1 off1) ht1)); (case td => ktr_room); (case tu => ktr_units))
  rintro v9 h9 tk9 news9 F9 N9 ⟨D, vs, t1', rfl, rfl, hD, ht1', hnew1, hvs⟩
  (try dsimp only)
  (repeat' (first | (with_reducible refine if_ff ?_) | (with_reducible refine if_tt ?_) | (k_unfold; (try dsimp only)) | (k_end; wrow_close) | (cell_step; walk1) | (cell_step; dsimp only; walk1) | (leave1; walk_say "STEP leave1"; try dsimp only) | fail "no step"))
  (rename Fr _ _ _ _ => lF')
  (with_unfolding_all refine' For_invVF lF' ?k1 ?k2 ?_; (case k1 => exact rfl); (case k2 => exact rfl))
  (repeat' (first | (with_reducible refine if_ff ?_) | (with_reducible refine if_tt ?_) | (k_unfold; (try dsimp only)) | (k_end; wrow_close) | (cell_step; walk1) | (cell_step; dsimp only; walk1) | (leave1; walk_say "STEP leave1"; try dsimp only) | fail "no step"))
  rename_i Qd hA q1 hB D2 hh2 F1 N1 q2
  have hbl := bits_lt_pow (Int.le_of_lt hb)
  have hdb := digs_bound (Builtin.Int.intBits b) (nDig (Builtin.Int.intBits b) a) a
  have hdl := digs_length (Builtin.Int.intBits b) (nDig (Builtin.Int.intBits b) a) a
  have hp2 : (0 : Int) < 2 ^ (Builtin.Int.intBits b) := Int.pow_pos (by decide)
  refine' iter_revUnr (ax := D) (lo := W.listOf vs.toArray 0) (vs := vs) rfl F1 N1 ?hof ?hm rfl rfl ?rest
  case hof => exact offI_of (topA_ne (by simp only [topA_cons, topA_app]; omega))
  case hm => k_mem
  case rest =>
  refine revRest_indR (DmpInv rest a b t0 Qd D vs t1' t2) ?zero ?succ _ _ _ ?init
  case init =>
    refine ⟨(digs (Builtin.Int.intBits b) (nDig (Builtin.Int.intBits b) a) a).reverse, [], [], 0, 0, _, _, IntsAre.reverse hvs, .nil, fun x hx => hdb x (List.mem_reverse.mp hx), (fun _ h => nomatch h), Int.le_refl _, hb, (by simp [hdl]), ?_, ⟨rfl, rfl, rfl, rfl, trivial⟩, rfl⟩
    rw [List.reverse_reverse, undig_digs _ _ _ ha (bits_pow ha _ hbits)]
    simp [undig]
  case zero =>
    rintro m' nx ⟨ds, qs, qv, ep, r, tr, tn, hds, hqs, hdb', hqb, hr0, hr1, hlen, hinv, hM, rfl⟩ h6 tk6 F6 N6
    cases hds
    have F7 := fr_all0 hM F6
    clear F6
    (try dsimp only)
    (repeat' (first | (with_reducible refine if_ff ?_) | (with_reducible refine if_tt ?_) | (k_unfold; (try dsimp only)) | (k_end; wrow_close) | (cell_step; walk1) | (cell_step; dsimp only; walk1) | (leave1; walk_say "STEP leave1"; try dsimp only) | fail "no step"))
    have hql : qs.length ≤ 2 ^ 13 := by
      have : nDig (Builtin.Int.intBits b) a ≤ 2 ^ 13 := by
        have := Nat.div_le_self (Builtin.Int.intBits a + Builtin.Int.intBits b - 1) (Builtin.Int.intBits b)
        unfold nDig
        omega
      simp only [List.length_nil] at hlen
      omega
    have hqv := hqs.length
    k_dflt (refine' kl_reverse (l := qv.reverse) ?vF ?vN ?ve ?vU ?vz ?_; (case vF => k_asm); (case vN => k_asm); (case vU => k_upd); (case ve => simp); (case vz => simp [sizeLine]; omega))
    intro h8 F8 N8
    (try dsimp only)
    (repeat' (first | (with_reducible refine if_ff ?_) | (with_reducible refine if_tt ?_) | (k_unfold; (try dsimp only)) | (k_end; wrow_close) | (cell_step; walk1) | (cell_step; dsimp only; walk1) | (leave1; walk_say "STEP leave1"; try dsimp only) | fail "no step"))
    rename News _ _ _ _ => N5
    have N4 := news_swap N5
    have hP1 := tabL_top ht1
    have hP2 := tabL_top ht2
    have hD0 := hD
    have hass : topA (t1 ++ t2 ++ rest) = topA (t1 ++ (t2 ++ rest)) := by rw [List.append_assoc]
    simp only [topA_app] at hD
    have o3 : OwnOff t1' [44] := newer_off hnew1 o2 (by simp only [topA_app]; omega)
    have o4 : OwnOff ((D, W.listOf vs.toArray 0) :: (t1' ++ rest)) [44] := ownOff_cons (fun d hd => by rw [List.mem_singleton.mp hd]; show @Ne Nat D 44; omega) (ownOff_app o3 off2)
    have hqr : qs.reverse.length ≤ 2 ^ 13 := by rw [List.length_reverse]; exact hql
    have e1 : qs.reverse.length = nDig (Builtin.Int.intBits b) a := by rw [List.length_reverse]; simp only [List.length_nil] at hlen; omega
    have hqn : qs.reverse.length * Builtin.Int.intBits b < 2 ^ 20 := by
      have e2 := nDig_mul a (Builtin.Int.intBits b)
      rw [e1, Nat.mul_comm]
      omega
    (refine' tel_use ?tH ?tB ?tF ?tX ?tN ?tT ?tC1 ?tC2 ?tC3 ?tk ?td ?tu ?_; (case tB => k_asm); (case tF => k_asm); (case tX => k_asm); (case tN => k_asm); (case tT => k_asm); (case tC1 => assumption); (case tC2 => assumption); (case tC3 => assumption); (case tk => first | exact rfl | assumption); (case tH => exact (digits2int w t2 ((D, W.listOf vs.toArray 0) :: (t1' ++ rest)) Qd qv.reverse qs.reverse _ (Builtin.Int.intBits b) _ hbits (by omega) (by omega) hqn (IntsAre.reverse hqs) (fun x hx => hqb x (List.mem_reverse.mp hx)) o4 (by show @LT.lt Nat _ 44 Qd; omega) ht2)); (case td => ktr_room); (case tu => ktr_units))
    rintro v3 h3 tk3 news3 F3 N3 ⟨t3, t2', rfl, rfl, ht2', hnew2⟩
    (try dsimp only)
    (repeat' (first | (with_reducible refine if_ff ?_) | (with_reducible refine if_tt ?_) | (k_unfold; (try dsimp only)) | (k_end; wrow_close) | (cell_step; walk1) | (cell_step; dsimp only; walk1) | (leave1; walk_say "STEP leave1"; try dsimp only) | fail "no step"))
    rename (topA t2' ≤ _ ∧ _) => q9
    rename Fr h₀ L _ _ => F1
    rename News h₀ L _ _ => N1
    have hD9 : D + 1 ≤ topA (t2 ++ (Qd, W.listOf qv.reverse.toArray ep) :: (D, W.listOf vs.toArray 0) :: (t1' ++ rest)) := topA_mem (List.mem_append_right _ (.tail _ (.head _)))
    have hfin := divmod_is (a := a) (b := b) (q := undig (Builtin.Int.intBits b) qs.reverse) (r := r) (by simpa [undig] using hinv) hr0 hr1
    refine hret _ _ _ (_ :: ((t1' ++ t2') ++ rest)) F1 (fun p hp => N1 p ?_) ⟨_, t3, tr, t1' ++ t2', rfl, ?_, by rw [hfin.1, hfin.2], ⟨t1', t2', rfl, ht1', ht2', newer_off hnew2 o1 ?_, o3⟩, newer_app (hnew1.weaken ?_) (hnew2.weaken ?_)⟩
    · simp only [List.mem_cons, List.mem_append] at hp ⊢
      rcases hp with h | ((h | h) | h) <;> simp only [h, true_or, or_true]
    · rw [hass]; exact Nat.le_trans hD0 (Nat.le_of_succ_le q9.2.2.1)
    · exact Nat.lt_of_lt_of_le hP1 (Nat.le_trans (Nat.le_trans (Nat.le_max_left _ _) hD) (Nat.le_of_succ_le hD9))
    · exact Nat.le_of_eq hass
    · rw [hass]; exact Nat.le_trans hD0 (Nat.le_of_succ_le hD9)
  case succ =>
    rintro v rv m' nx ⟨ds, qs, qv, ep, r, tr, tn, hds, hqs, hdb', hqb, hr0, hr1, hlen, hinv, hM, rfl⟩ it h6 tk6 hit F6 N6 R9 hR9
    cases hds with
    | cons d td hds' =>
    rename_i ds'
    have F7 := fr_all hM F6
    clear F6
    have hs := long_step hbl hr0 hr1 (hdb' d (.head _)).1 (hdb' d (.head _)).2
    have hrb : Builtin.Int.intBits r ≤ Builtin.Int.intBits b := bits_of_lt hr0 (by omega)
    have f1 : (0 : Int) ≤ (Builtin.Int.intBits b : Int) := Int.natCast_nonneg _
    have f2 : (Builtin.Int.intBits r : Int) + (Builtin.Int.intBits b : Int) ≤ 2 ^ 27 := by omega
    have hql : qs.length < 2 ^ 20 := by
      have : nDig (Builtin.Int.intBits b) a ≤ 2 ^ 13 := by
        have := Nat.div_le_self (Builtin.Int.intBits a + Builtin.Int.intBits b - 1) (Builtin.Int.intBits b)
        unfold nDig
        omega
      omega
    (repeat' (first | (with_reducible refine if_ff ?_) | (with_reducible refine if_tt ?_) | (k_unfold; (try dsimp only)) | (k_end; wrow_close) | (cell_step; walk1) | (cell_step; dsimp only; walk1) | (leave1; walk_say "STEP leave1"; try dsimp only) | fail "no step"))
    (refine' tel_use ?tH ?tB ?tF ?tX ?tN ?tT ?tC1 ?tC2 ?tC3 ?tk ?td ?tu ?_; (case tB => k_asm); (case tF => k_asm); (case tX => k_asm); (case tN => k_asm); (case tT => k_asm); (case tC1 => assumption); (case tC2 => assumption); (case tC3 => assumption); (case tk => first | exact rfl | assumption); (case tH => exact (div2n1n w _ _ b (Builtin.Int.intBits b) _ _ _ (by omega) (by rw [Int.toNat_natCast]; have := bits_of_lt hs.1 hs.2.2; omega) (noPy h1))); (case td => ktr_room); (case tu => ktr_units))
    rintro v5 h5 tk5 news5 F5 N5 ⟨rt, tq, tr2, rfl, hrt, rfl⟩
    simp only [topA_cons, topA_app] at hrt
    (try dsimp only)
    (repeat' (first | (with_reducible refine if_ff ?_) | (with_reducible refine if_tt ?_) | (k_unfold; (try dsimp only)) | (k_end; wrow_close) | (cell_step; walk1) | (cell_step; dsimp only; walk1) | (leave1; walk_say "STEP leave1"; try dsimp only) | fail "no step"))
    try (
      (k_dflt (refine' append_K ?k1 ?k2 ?k3 ?_ ?z))
      (case k1 => k_asm)
      (case k2 => k_asm)
      (case k3 => k_upd)
      (case z => size_fits)
      (intro h9 F9 N9)
      (try dsimp only)
      (repeat' (first | (with_reducible refine if_ff ?_) | (with_reducible refine if_tt ?_) | (k_unfold; (try dsimp only)) | (k_end; wrow_close) | (cell_step; walk1) | (cell_step; dsimp only; walk1) | (leave1; walk_say "STEP leave1"; try dsimp only) | fail "no step")))
    rename Fr _ _ _ _ => F8
    rename News _ _ _ _ => N8
    (try simp only [List.push_toArray] at N8)
    have hb0 : (0 : Int) ≤ b := Int.le_of_lt hb
    have efd : (r * 2 ^ (Builtin.Int.intBits b : Int).toNat + d).fdiv b = (r * 2 ^ (Builtin.Int.intBits b) + d) / b := by rw [Int.toNat_natCast, Int.fdiv_eq_ediv_of_nonneg _ hb0]
    have efm : (r * 2 ^ (Builtin.Int.intBits b : Int).toNat + d).fmod b = (r * 2 ^ (Builtin.Int.intBits b) + d) % b := by rw [Int.toNat_natCast, Int.fmod_eq_emod_of_nonneg _ hb0]
    rw [efd] at N8 F8
    rw [efm] at F8
    refine hR9 _ _ ?_
    show UnrEnd _ _ _ _ _ _ _
    refine UnrEnd.intro F8 N8 (_ :: (D, W.listOf vs.toArray 0) :: (t1' ++ (t2 ++ rest))) (by kcj_all) (topA_ne (by simp only [topA_cons, topA_app]; omega)) ⟨List.mem_cons_of_mem _ (List.mem_cons_self ..), ds', qs ++ [(r * 2 ^ (Builtin.Int.intBits b) + d) / b], qv ++ [.int ((r * 2 ^ (Builtin.Int.intBits b) + d) / b) tq], _, (r * 2 ^ (Builtin.Int.intBits b) + d) % b, tr2, tn, hds', IntsAre.append hqs (.cons _ _ .nil), fun x hx => hdb' x (.tail _ hx), ?_, Int.emod_nonneg _ (by omega), Int.emod_lt_of_pos _ hb, ?_, turn_math hinv ?_, ⟨rfl, rfl, rfl, rfl, trivial⟩, rfl⟩
    · intro x hx
      rcases List.mem_append.mp hx with hx | hx
      · exact hqb x hx
      · rw [List.mem_singleton.mp hx]
        exact ⟨Int.ediv_nonneg hs.1 hb0, Int.ediv_lt_of_lt_mul hb (by rw [Int.mul_comm _ b]; exact hs.2.1)⟩
    · simp only [List.length_append, List.length_cons, List.length_nil] at hlen ⊢; omega
    · have := Int.emod_add_mul_ediv (r * 2 ^ (Builtin.Int.intBits b) + d) b
      rw [Int.mul_comm b] at this
      omega
end Vdivmod_pos
theorem divmod_pos (w : World) (tb rest : Led) (a b : Int) (ta t0 : Tok) (ha : 0 ≤ a) (hb : 0 < b) (h1 : Builtin.Int.intBits b ≤ 4000) (h2 : Builtin.Int.intBits a < 2^12) (off1 : OwnOff rest [37]) (off2 : OwnOff rest [44]) (ht : Tabs tb) :
  Tel w (nDig (Builtin.Int.intBits b) a + 4) (8 * nDig (Builtin.Int.intBits b) a + 40) (.ref 56) [.int a ta, .int b t0] (tb ++ rest) (DivPost tb rest (a / b) (a % b)) := tel_of fun z => (show ∀ w rest a b ta t0 z, Vdivmod_pos.At0 w rest a b ta t0 z from (eps1_all (eps1_all (eps1_all (eps1_all (eps1_all (eps1_all (eps1_all @Vdivmod_pos.aux)))))))) w rest a b ta t0 z tb ha hb h1 h2 off1 off2 ht
end
section
theorem idm1 (w : World) (tb rest : Led) (a b : Int) (ta t0 : Tok) (ha : 0 ≤ a) (hb : 0 < b) (h1 : Builtin.Int.intBits b ≤ 4000) (h2 : Builtin.Int.intBits a < 2^12) (hK : nDig (Builtin.Int.intBits b) a ≤ 250) (off1 : OwnOff rest [37]) (off2 : OwnOff rest [44]) (ht : Tabs tb) :
  Tel w 256 2100 (.ref 63) [.int a ta, .int b t0] (tb ++ rest) (DivPost tb rest (a / b) (a % b)) := by
  intro mean mg mb dp un gd cn cs ad ccd cl outer A₀ base h₀ L m s Q E B F X N T C1 C2 C3 hk hd hu hret
  refine wpAny_call ?_
  k_dflt (first | (refine' code_defC ?k1 ?k2 ?k3 ?k4 ?k5 ?kA ?kF ?kK ?k6 ?k7 ?k8 ?k9 ?kB ?kD ?_ ?c2 ?c3 ?c4; (case kA => exact rfl); (case kF => exact rfl); (case kK => first | exact rfl | assumption); (case k1 => k_asm); (case k2 => k_asm); (case k3 => k_asm); (case k4 => k_asm); (case k5 => k_asm); (case k6 => k_is); (case k7 => k_is); (case k8 => k_room); (case k9 => first | exact BindsTo.of_eq rfl | exact binds_K (by k_in) rfl (by k_is) rfl rfl rfl | fail "k_enter: no rule for these arguments"); (case kB => exact rfl); (case kD => decide +kernel); (case c2 => exact rfl); (case c3 => exact rfl); (case c4 => exact rfl); k_whole; intro z9g z9L z9h z9tk z9cells z9FG z9F z9N z9Y z9B z9X z9T z9l1; (try k_lt z9l1); k_cells z9Y; (try simp only [List.cons_append, List.nil_append] at z9N); (try dsimp only); (try k_lift z9B); (try k_fold)) | cell_enter)
  (repeat' (first | (with_reducible refine if_ff ?_) | (with_reducible refine if_tt ?_) | (k_unfold; (try dsimp only)) | (k_end; wrow_close) | (cell_step; walk1) | (cell_step; dsimp only; walk1) | (leave1; walk_say "STEP leave1"; try dsimp only) | fail "no step"))
  all_goals first | (exfalso; omega) | skip
  (refine' tel_use ?tH ?tB ?tF ?tX ?tN ?tT ?tC1 ?tC2 ?tC3 ?tk ?td ?tu ?_; (case tB => k_asm); (case tF => k_asm); (case tX => k_asm); (case tN => k_asm); (case tT => k_asm); (case tC1 => assumption); (case tC2 => assumption); (case tC3 => assumption); (case tk => first | exact rfl | assumption); (case tH => exact (divmod_pos w tb rest a b _ _ ha hb h1 h2 off1 off2 ht)); (case td => ktr_room); (case tu => ktr_units))
  rintro v9 h9 tk9 news9 F9 N9 R9
  (try dsimp only)
  (repeat' (first | (with_reducible refine if_ff ?_) | (with_reducible refine if_tt ?_) | (k_unfold; (try dsimp only)) | (k_end; wrow_close) | (cell_step; walk1) | (cell_step; dsimp only; walk1) | (leave1; walk_say "STEP leave1"; try dsimp only) | fail "no step"))
  rename Fr h₀ L _ _ => F1
  rename News h₀ L _ _ => N1
  exact hret _ _ _ _ F1 N1 R9
theorem idm2 (w : World) (tb rest : Led) (a b : Int) (ta t0 : Tok) (hb : 0 < b) (h1 : Builtin.Int.intBits b ≤ 4000) (h2 : Builtin.Int.intBits a < 2^12) (hK : nDig (Builtin.Int.intBits b) a ≤ 250) (off1 : OwnOff rest [37]) (off2 : OwnOff rest [44]) (ht : Tabs tb) :
  Tel w 258 2120 (.ref 63) [.int a ta, .int b t0] (tb ++ rest) (DivPost tb rest (a / b) (a % b)) := by
  by_cases ha : 0 ≤ a
  · exact tel_mono (idm1 w tb rest a b ta t0 ha hb h1 h2 hK off1 off2 ht) (by decide) (by decide)
  · intro mean mg mb dp un gd cn cs ad ccd cl outer A₀ base h₀ L m s Q E B F X N T C1 C2 C3 hk hd hu hret
    refine wpAny_call ?_
    k_dflt (first | (refine' code_defC ?k1 ?k2 ?k3 ?k4 ?k5 ?kA ?kF ?kK ?k6 ?k7 ?k8 ?k9 ?kB ?kD ?_ ?c2 ?c3 ?c4; (case kA => exact rfl); (case kF => exact rfl); (case kK => first | exact rfl | assumption); (case k1 => k_asm); (case k2 => k_asm); (case k3 => k_asm); (case k4 => k_asm); (case k5 => k_asm); (case k6 => k_is); (case k7 => k_is); (case k8 => k_room); (case k9 => first | exact BindsTo.of_eq rfl | exact binds_K (by k_in) rfl (by k_is) rfl rfl rfl | fail "k_enter: no rule for these arguments"); (case kB => exact rfl); (case kD => decide +kernel); (case c2 => exact rfl); (case c3 => exact rfl); (case c4 => exact rfl); k_whole; intro z9g z9L z9h z9tk z9cells z9FG z9F z9N z9Y z9B z9X z9T z9l1; (try k_lt z9l1); k_cells z9Y; (try simp only [List.cons_append, List.nil_append] at z9N); (try dsimp only); (try k_lift z9B); (try k_fold)) | cell_enter)
    (repeat' (first | (with_reducible refine if_ff ?_) | (with_reducible refine if_tt ?_) | (k_unfold; (try dsimp only)) | (k_end; wrow_close) | (cell_step; walk1) | (cell_step; dsimp only; walk1) | (leave1; walk_say "STEP leave1"; try dsimp only) | fail "no step"))
    all_goals first | (exfalso; omega) | skip
    have e1 : Builtin.bitNot a = -a - 1 := by unfold Builtin.bitNot; omega
    rw [e1]
    have hbits : Builtin.Int.intBits (-a - 1) ≤ Builtin.Int.intBits a := intBits_le_of_natAbs (by omega) (Nat.le_refl _)
    (refine' tel_use ?tH ?tB ?tF ?tX ?tN ?tT ?tC1 ?tC2 ?tC3 ?tk ?td ?tu ?_; (case tB => k_asm); (case tF => k_asm); (case tX => k_asm); (case tN => k_asm); (case tT => k_asm); (case tC1 => assumption); (case tC2 => assumption); (case tC3 => assumption); (case tk => first | exact rfl | assumption); (case tH => exact (idm1 w tb rest (-a - 1) b _ _ (by omega) hb h1 (by omega) (Nat.le_trans (nDig_mono hbits) hK) off1 off2 ht)); (case td => ktr_room); (case tu => ktr_units))
    rintro v9 h9 tk9 news9 F9 N9 ⟨d, tq, tr, tb', rfl, hd9, rfl, ht9, hn9⟩
    (try dsimp only)
    (repeat' (first | (with_reducible refine if_ff ?_) | (with_reducible refine if_tt ?_) | (k_unfold; (try dsimp only)) | (k_end; wrow_close) | (cell_step; walk1) | (cell_step; dsimp only; walk1) | (leave1; walk_say "STEP leave1"; try dsimp only) | fail "no step"))
    rename Fr h₀ L _ _ => F1
    rename News h₀ L _ _ => N1
    rename (d + 1 ≤ _ ∧ _) => q1
    rw [(not_div hb).1, (not_div hb).2] at N1
    refine hret _ _ _ (_ :: (tb' ++ rest)) F1 (news_skip2 N1) ⟨_, _, _, tb', rfl, ?_, rfl, ht9, hn9⟩
    simp only [topA_app] at hd9 q1 ⊢
    omega

theorem idm (w : World) (tb rest : Led) (a b : Int) (ta t0 : Tok) (hb : b ≠ 0) (h1 : Builtin.Int.intBits b ≤ 4000) (h2 : Builtin.Int.intBits a < 2^12) (hK : nDig (Builtin.Int.intBits b) a ≤ 250) (off1 : OwnOff rest [37]) (off2 : OwnOff rest [44]) (ht : Tabs tb) :
  Tel w 260 2140 (.ref 63) [.int a ta, .int b t0] (tb ++ rest) (DivPost tb rest (a.fdiv b) (a.fmod b)) := by
  by_cases hb0 : 0 < b
  · rw [Int.fdiv_eq_ediv_of_nonneg _ (Int.le_of_lt hb0), Int.fmod_eq_emod_of_nonneg _ (Int.le_of_lt hb0)]
    exact tel_mono (idm2 w tb rest a b ta t0 hb0 h1 h2 hK off1 off2 ht) (by decide) (by decide)
  · intro mean mg mb dp un gd cn cs ad ccd cl outer A₀ base h₀ L m s Q E B F X N T C1 C2 C3 hk hd hu hret
    refine wpAny_call ?_
    k_dflt (first | (refine' code_defC ?k1 ?k2 ?k3 ?k4 ?k5 ?kA ?kF ?kK ?k6 ?k7 ?k8 ?k9 ?kB ?kD ?_ ?c2 ?c3 ?c4; (case kA => exact rfl); (case kF => exact rfl); (case kK => first | exact rfl | assumption); (case k1 => k_asm); (case k2 => k_asm); (case k3 => k_asm); (case k4 => k_asm); (case k5 => k_asm); (case k6 => k_is); (case k7 => k_is); (case k8 => k_room); (case k9 => first | exact BindsTo.of_eq rfl | exact binds_K (by k_in) rfl (by k_is) rfl rfl rfl | fail "k_enter: no rule for these arguments"); (case kB => exact rfl); (case kD => decide +kernel); (case c2 => exact rfl); (case c3 => exact rfl); (case c4 => exact rfl); k_whole; intro z9g z9L z9h z9tk z9cells z9FG z9F z9N z9Y z9B z9X z9T z9l1; (try k_lt z9l1); k_cells z9Y; (try simp only [List.cons_append, List.nil_append] at z9N); (try dsimp only); (try k_lift z9B); (try k_fold)) | cell_enter)
    (repeat' (first | (with_reducible refine if_ff ?_) | (with_reducible refine if_tt ?_) | (k_unfold; (try dsimp only)) | (k_end; wrow_close) | (cell_step; walk1) | (cell_step; dsimp only; walk1) | (leave1; walk_say "STEP leave1"; try dsimp only) | fail "no step"))
    all_goals first | (exfalso; omega) | skip
    have hbits : Builtin.Int.intBits (-a) ≤ Builtin.Int.intBits a := intBits_le_of_natAbs (by omega) (Nat.le_refl _)
    have hbb : Builtin.Int.intBits (-b) = Builtin.Int.intBits b := Nat.le_antisymm (intBits_le_of_natAbs (by omega) (Nat.le_refl _)) (intBits_le_of_natAbs (by omega) (Nat.le_refl _))
    (refine' tel_use ?tH ?tB ?tF ?tX ?tN ?tT ?tC1 ?tC2 ?tC3 ?tk ?td ?tu ?_; (case tB => k_asm); (case tF => k_asm); (case tX => k_asm); (case tN => k_asm); (case tT => k_asm); (case tC1 => assumption); (case tC2 => assumption); (case tC3 => assumption); (case tk => first | exact rfl | assumption); (case tH => exact (idm2 w tb rest (-a) (-b) _ _ (by omega) (by omega) (by omega) (by rw [hbb]; exact Nat.le_trans (nDig_mono hbits) hK) off1 off2 ht)); (case td => ktr_room); (case tu => ktr_units))
    rintro v9 h9 tk9 news9 F9 N9 ⟨d, tq, tr, tb', rfl, hd9, rfl, ht9, hn9⟩
    (try dsimp only)
    (repeat' (first | (with_reducible refine if_ff ?_) | (with_reducible refine if_tt ?_) | (k_unfold; (try dsimp only)) | (k_end; wrow_close) | (cell_step; walk1) | (cell_step; dsimp only; walk1) | (leave1; walk_say "STEP leave1"; try dsimp only) | fail "no step"))
    rename Fr h₀ L _ _ => F1
    rename News h₀ L _ _ => N1
    rename (d + 1 ≤ _ ∧ _) => q1
    rw [(neg_div (by omega : b < 0)).1, (neg_div (by omega : b < 0)).2] at N1
    refine hret _ _ _ (_ :: (tb' ++ rest)) F1 (news_skip2 N1) ⟨_, _, _, tb', rfl, ?_, rfl, ht9, hn9⟩
    simp only [topA_app] at hd9 q1 ⊢
    omega
end
end
section
local macro_rules | `(tactic| cell_step) => `(tactic| (walk_at "s1"))
local macro_rules | `(tactic| walk_at "getMethod ref") => `(tactic| (k_here; (with_reducible show wpAny _ _ (getMethod (Value.ref _) (PySem.Str.ofString "read") _) _ _ _); walk_at "last getMethod ref"))
section
namespace Vread_char
noncomputable def At0 (w : World) (P : LexP) (rest : Led) (line : Int) (tl : Tok) (pb : List Value) (pe : Nat) (c : Nat) (tc : Tok) (sg : List Value) (cs : List Nat) (ep : Nat) (zvv : TelV) : Prop := ∀ (O : LexOk P) (hr : OwnOff rest [P.G, P.dX]) (hsg : TextsAre sg (cs.map fun c => [c])) (hs : cs.length ≤ 1000) (hc : c < 0x110000) (hcs : ∀ x ∈ cs, x < 0x110000), TelCAt w 5 200 (.ref 91) [.ref P.X] (LexL w P line tl pb pe (.str (tx [c]) tc :: sg) ep ++ rest) (fun v news' => ∃ tl' ep', v = .str (tx [c]) tc ∧ news' = LexL w P (if c = 10 then line + 1 else line) tl' pb pe sg ep' ++ rest) zvv
noncomputable def AtX (x : (World) × (LexP) × (Led) × (Int) × (Tok) × (List Value) × (Nat) × (Nat) × (Tok) × (List Value) × (List Nat) × (Nat) × TelV) : Prop := At0 (x.1) (x.2.1) (x.2.2.1) (x.2.2.2.1) (x.2.2.2.2.1) (x.2.2.2.2.2.1) (x.2.2.2.2.2.2.1) (x.2.2.2.2.2.2.2.1) (x.2.2.2.2.2.2.2.2.1) (x.2.2.2.2.2.2.2.2.2.1) (x.2.2.2.2.2.2.2.2.2.2.1) (x.2.2.2.2.2.2.2.2.2.2.2.1) (x.2.2.2.2.2.2.2.2.2.2.2.2)
noncomputable def cc0 : (World) × (LexP) × (Led) × (Int) × (Tok) × (List Value) × (Nat) × (Nat) × (Tok) × (List Value) × (List Nat) × (Nat) × TelV := eps1 (ne_prod ne_world (ne_prod ne_lexp (ne_prod ne_led (ne_prod ne_int (ne_prod ne_tok (ne_prod ne_list (ne_prod ne_nat (ne_prod ne_nat (ne_prod ne_tok (ne_prod ne_list (ne_prod ne_list (ne_prod ne_nat telV_ne)))))))))))) AtX
noncomputable def w : World := cc0.1
noncomputable def P : LexP := cc0.2.1
noncomputable def rest : Led := cc0.2.2.1
noncomputable def line : Int := cc0.2.2.2.1
noncomputable def tl : Tok := cc0.2.2.2.2.1
noncomputable def pb : List Value := cc0.2.2.2.2.2.1
noncomputable def pe : Nat := cc0.2.2.2.2.2.2.1
noncomputable def c : Nat := cc0.2.2.2.2.2.2.2.1
noncomputable def tc : Tok := cc0.2.2.2.2.2.2.2.2.1
noncomputable def sg : List Value := cc0.2.2.2.2.2.2.2.2.2.1
noncomputable def cs : List Nat := cc0.2.2.2.2.2.2.2.2.2.2.1
noncomputable def ep : Nat := cc0.2.2.2.2.2.2.2.2.2.2.2.1
noncomputable def v0 : TelV := cc0.2.2.2.2.2.2.2.2.2.2.2.2
noncomputable abbrev h₀ := v0.h₀
noncomputable abbrev L := v0.L
theorem aux (O : LexOk P) (hr : OwnOff rest [P.G, P.dX]) (hsg : TextsAre sg (cs.map fun c => [c])) (hs : cs.length ≤ 1000) (hc : c < 0x110000) (hcs : ∀ x ∈ cs, x < 0x110000) :
  TelCAt w 5 200 (.ref 91) [.ref P.X] (LexL w P line tl pb pe (.str (tx [c]) tc :: sg) ep ++ rest) (fun v news' => ∃ tl' ep', v = .str (tx [c]) tc ∧ news' = LexL w P (if c = 10 then line + 1 else line) tl' pb pe sg ep' ++ rest) v0 := by
  intro B F X N T C1 C2 C3 hk hd hu hret
  obtain ⟨o1, o2, o3, n1, n2, n3, n4, n5, n6, n7, n8, n9⟩ := O
  have hlen := hsg.length
  rw [List.length_map] at hlen
  have hsg2 : TextsAre (Value.str (tx [c]) tc :: sg).reverse (([c] :: cs.map fun c => [c]).reverse) := (TextsAre.cons [c] tc hsg).reverse
  have hok : TxOk (([c] :: cs.map fun c => [c]).reverse) := by
    intro x hx
    rcases List.mem_cons.mp (List.mem_reverse.mp hx) with rfl | hx
    · simp [PyData.strOk, hc]
    · obtain ⟨y, hy, rfl⟩ := List.mem_map.mp hx
      simp [PyData.strOk, hcs y hy]
  simp only [LexL, List.cons_append, List.nil_append] at N
  k_dflt (first | (refine' code_defC ?k1 ?k2 ?k3 ?k4 ?k5 ?kA ?kF ?kK ?k6 ?k7 ?k8 ?k9 ?kB ?kD ?_ ?c2 ?c3 ?c4; (case kA => exact rfl); (case kF => exact rfl); (case kK => first | exact rfl | assumption); (case k1 => k_asm); (case k2 => k_asm); (case k3 => k_asm); (case k4 => k_asm); (case k5 => k_asm); (case k6 => k_is); (case k7 => k_is); (case k8 => k_room); (case k9 => first | exact BindsTo.of_eq rfl | exact binds_K (by k_in) rfl (by k_is) rfl rfl rfl | fail "k_enter: no rule for these arguments"); (case kB => exact rfl); (case kD => decide +kernel); (case c2 => exact rfl); (case c3 => exact rfl); (case c4 => exact rfl); k_whole; intro z9g z9L z9h z9tk z9cells z9FG z9F z9N z9Y z9B z9X z9T z9l1; (try k_lt z9l1); k_cells z9Y; (try simp only [List.cons_append, List.nil_append] at z9N); (try dsimp only); (try k_lift z9B); (try k_fold)) | cell_enter)
  (repeat' (first | (with_reducible refine if_ff ?_) | (with_reducible refine if_tt ?_) | (k_unfold; (try dsimp only)) | (k_end; wrow_close) | (cell_step; walk1) | (cell_step; dsimp only; walk1) | (leave1; walk_say "STEP leave1"; try dsimp only) | fail "no step"))
  walk1
  conv in (lamBody lamX) => whnf
  (repeat' (first | (with_reducible refine if_ff ?_) | (with_reducible refine if_tt ?_) | (k_unfold; (try dsimp only)) | (k_end; wrow_close) | (cell_step; walk1) | (cell_step; dsimp only; walk1) | (leave1; walk_say "STEP leave1"; try dsimp only) | fail "no step"))
  k_dflt (refine' tx_ne (ws := ([c] :: cs.map fun c => [c]).reverse) (us := []) ?xa ?xb hsg2 .nil hok (fun _ h => nomatch h) ?xu ?_; (case xa => exact News.isList (by k_asm) (by k_mem)); (case xb => exact News.isList (by k_asm) (by k_mem)); (case xu => ktr_units))
  have hne : (!decide ((([c] :: cs.map fun c => [c]).reverse) = ([] : List (List Nat)))) = true := by simp
  rw [hne]
  (try dsimp only)
  (repeat' (first | (with_reducible refine if_ff ?_) | (with_reducible refine if_tt ?_) | (k_unfold; (try dsimp only)) | (k_end; wrow_close) | (cell_step; walk1) | (cell_step; dsimp only; walk1) | (leave1; walk_say "STEP leave1"; try dsimp only) | fail "no step"))
  k_dflt (refine' pop_rev (x := .str (tx [c]) tc) (sg := sg) ?vF ?vN ?vU (by omega) ?_; (case vF => k_asm); (case vN => k_asm); (case vU => k_upd))
  intro h8 F8 N8
  (try dsimp only)
  (repeat' (first | (with_reducible refine if_ff ?_) | (with_reducible refine if_tt ?_) | (k_unfold; (try dsimp only)) | (k_end; wrow_close) | (cell_step; walk1) | (cell_step; dsimp only; walk1) | (leave1; walk_say "STEP leave1"; try dsimp only) | fail "no step"))
  · rename Fr h₀ L _ _ => F1
    rename News h₀ L _ _ => N1
    rename ((_ == Str.ofString "\n") = true) => hb
    have hc10 : c = 10 := one_is.mp ((eq_of_beq hb).trans nl_is)
    exact hret _ _ _ _ F1 (news_tail N1) ⟨_, _, rfl, congrArg (fun l => LexL w P l _ pb pe sg _ ++ rest) (if_pos hc10).symm⟩
  · rename Fr h₀ L _ _ => F1
    rename News h₀ L _ _ => N1
    rename ((_ == Str.ofString "\n") = false) => hb
    have hc10 : c ≠ 10 := fun e => by rw [e, nl_is] at hb; simp at hb
    exact hret _ _ _ _ F1 (news_tail N1) ⟨_, _, rfl, congrArg (fun l => LexL w P l _ pb pe sg _ ++ rest) (if_neg hc10).symm⟩
end Vread_char
theorem read_char (w : World) (P : LexP) (O : LexOk P) (rest : Led) (line : Int) (tl : Tok) (pb : List Value) (pe : Nat) (c : Nat) (tc : Tok) (sg : List Value) (cs : List Nat) (ep : Nat) (hr : OwnOff rest [P.G, P.dX]) (hsg : TextsAre sg (cs.map fun c => [c])) (hs : cs.length ≤ 1000) (hc : c < 0x110000) (hcs : ∀ x ∈ cs, x < 0x110000) :
  TelC w 5 200 (.ref 91) [.ref P.X] (LexL w P line tl pb pe (.str (tx [c]) tc :: sg) ep ++ rest) (fun v news' => ∃ tl' ep', v = .str (tx [c]) tc ∧ news' = LexL w P (if c = 10 then line + 1 else line) tl' pb pe sg ep' ++ rest) := telC_of fun zvv => (show Vread_char.At0 w P rest line tl pb pe c tc sg cs ep zvv from eps1_all (P := Vread_char.AtX) @Vread_char.aux (w, P, rest, line, tl, pb, pe, c, tc, sg, cs, ep, zvv)) O hr hsg hs hc hcs
theorem read_end (w : World) (P : LexP) (O : LexOk P) (rest : Led) (line : Int) (tl : Tok) (pb : List Value) (pe : Nat) (ep : Nat) :
  TelC w 5 200 (.ref 91) [.ref P.X] (LexL w P line tl pb pe [] ep ++ rest) (fun v news' => ∃ t, v = .str Str.empty t ∧ news' = LexL w P line tl pb pe [] ep ++ rest) := by
  intro mean mg mb dp un gd cn cs' ad ccd cl outer A₀ base h₀ L m s Q E B F X N T C1 C2 C3 hk hd hu hret
  obtain ⟨o1, o2, o3, n1, n2, n3, n4, n5, n6, n7, n8, n9⟩ := O
  simp only [LexL, List.cons_append, List.nil_append] at N
  k_dflt (first | (refine' code_defC ?k1 ?k2 ?k3 ?k4 ?k5 ?kA ?kF ?kK ?k6 ?k7 ?k8 ?k9 ?kB ?kD ?_ ?c2 ?c3 ?c4; (case kA => exact rfl); (case kF => exact rfl); (case kK => first | exact rfl | assumption); (case k1 => k_asm); (case k2 => k_asm); (case k3 => k_asm); (case k4 => k_asm); (case k5 => k_asm); (case k6 => k_is); (case k7 => k_is); (case k8 => k_room); (case k9 => first | exact BindsTo.of_eq rfl | exact binds_K (by k_in) rfl (by k_is) rfl rfl rfl | fail "k_enter: no rule for these arguments"); (case kB => exact rfl); (case kD => decide +kernel); (case c2 => exact rfl); (case c3 => exact rfl); (case c4 => exact rfl); k_whole; intro z9g z9L z9h z9tk z9cells z9FG z9F z9N z9Y z9B z9X z9T z9l1; (try k_lt z9l1); k_cells z9Y; (try simp only [List.cons_append, List.nil_append] at z9N); (try dsimp only); (try k_lift z9B); (try k_fold)) | cell_enter)
  (repeat' (first | (with_reducible refine if_ff ?_) | (with_reducible refine if_tt ?_) | (k_unfold; (try dsimp only)) | (k_end; wrow_close) | (cell_step; walk1) | (cell_step; dsimp only; walk1) | (leave1; walk_say "STEP leave1"; try dsimp only) | fail "no step"))
  walk1
  conv in (lamBody lamX) => whnf
  (repeat' (first | (with_reducible refine if_ff ?_) | (with_reducible refine if_tt ?_) | (k_unfold; (try dsimp only)) | (k_end; wrow_close) | (cell_step; walk1) | (cell_step; dsimp only; walk1) | (leave1; walk_say "STEP leave1"; try dsimp only) | fail "no step"))
  rename Fr h₀ L _ _ => F1
  rename News h₀ L _ _ => N1
  exact hret _ _ _ _ F1 (news_tail N1) ⟨_, congrArg (fun x => Value.str x _) (by decide +kernel), rfl⟩
end
end
section
local macro_rules | `(tactic| cell_step) => `(tactic| (walk_at "s1"))
section
theorem fn91 {w : World} {h₀ : Heap} (X : (hd01.heap_1 w.params).In h₀) : ∃ fo fd, h₀.get? 91 = some fo ∧ fo.data = .func fd := ⟨_, _, X 91 _ (by k_is), rfl⟩
theorem next_char (w : World) (P : LexP) (O : LexOk P) (rest : Led) (I q : Addr) (ts : Tok) (line : Int) (tl : Tok) (pb : List Value) (pe : Nat) (c : Nat) (tc : Tok) (sg : List Value) (cs : List Nat) (ep : Nat) (hr : OwnOff rest [P.G, P.dX]) (hI : @LT.lt Nat _ P.PB I) (hq : @LT.lt Nat _ P.PB q) (hsg : TextsAre sg (cs.map fun c => [c])) (hs : cs.length ≤ 1000) (hc : c < 0x110000) (hcs : ∀ x ∈ cs, x < 0x110000)
    {mean : ExcName → Option Value} {mg mb : Str → Option Value} {dp un : Nat} {gd : Option (List Code)} {cn : Str} {cs' : Scope} {a : Addr} {ccd : Value} {cl : List (Str × Addr)} {outer : List Env} {A₀ : Around} {base h₀ : Heap} {L : Addr} {m : Str → Option Value} {s : Shared} {Q : Option Value → Shared → Prop} {E : Value → Shared → Prop}
    (B : Below A₀ base outer h₀) (F : Fr h₀ L s.heap m) (X : (hd01.heap_1 w.params).In h₀) (N : News h₀ L s.heap ((I, ciO (.ref q) (.str Str.empty ts)) :: (q, methodObj (.ref 91) (.ref P.X)) :: (LexL w P line tl pb pe (.str (tx [c]) tc :: sg) ep ++ rest))) (T : Top topProg topL mean mg mb h₀) (C1 : CodeHd base 135 131) (C2 : CodeHd base 48 44) (C3 : CodeHd base 41 37)
    (hk : cs'.kind = .function) (hd : dp + 5 < recursionLimit) (hu : un + 201 < cLine)
    (ret : ∀ h' tk' tl' ep', Fr h₀ L h' m → News h₀ L h' ((I, ciO (.ref q) (.str Str.empty ts)) :: (q, methodObj (.ref 91) (.ref P.X)) :: (LexL w P (if c = 10 then line + 1 else line) tl' pb pe sg ep' ++ rest)) → Q (some (.str (tx [c]) tc)) { s with heap := h', toks := tk' }) :
    wpAny (model Challenge.rw_ty0035_01.row.prog w) (ktrTop dp un gd cn cs' L a ccd cl outer) (pyNext (.ref I)) Q E s := by
  obtain ⟨fo, fd, hfo, hfd⟩ := fn91 X
  have n := O
  obtain ⟨o1, o2, o3, n1, n2, n3, n4, n5, n6, n7, n8, n9⟩ := n
  refine ci_next rfl (N _ (.head _)).1 (N _ (.tail _ (.head _))).1 (F.keep _ _ hfo) hfd ?_
  refine call_meth N (.tail _ (.head _)) ?_
  have N2 : News h₀ L s.heap (LexL w P line tl pb pe (.str (tx [c]) tc :: sg) ep ++ ((I, ciO (.ref q) (.str Str.empty ts)) :: (q, methodObj (.ref 91) (.ref P.X)) :: rest)) := fun p hp => N p (by
    simp only [List.mem_append, List.mem_cons] at hp ⊢
    rcases hp with h | h | h | h <;> simp only [h, true_or, or_true])
  have off : OwnOff ((I, ciO (.ref q) (.str Str.empty ts)) :: (q, methodObj (.ref 91) (.ref P.X)) :: rest) [P.G, P.dX] := by
    refine ownOff_cons (fun d hd => ?_) (ownOff_cons (fun d hd => ?_) hr)
    · simp only [List.mem_cons, List.not_mem_nil, or_false] at hd
      show @Ne Nat I d
      rcases hd with rfl | rfl <;> omega
    · simp only [List.mem_cons, List.not_mem_nil, or_false] at hd
      show @Ne Nat q d
      rcases hd with rfl | rfl <;> omega
  refine codeAny_mono (read_char w P O _ line tl pb pe c tc sg cs ep off hsg hs hc hcs mean mg mb dp (un + 1) gd cn cs' a ccd cl outer A₀ base h₀ L m s (fun v s' => ∃ h' tk' tl' ep', v = .str (tx [c]) tc ∧ s' = { s with heap := h', toks := tk' } ∧ Fr h₀ L h' m ∧ News h₀ L h' ((I, ciO (.ref q) (.str Str.empty ts)) :: (q, methodObj (.ref 91) (.ref P.X)) :: (LexL w P (if c = 10 then line + 1 else line) tl' pb pe sg ep' ++ rest))) (fun _ _ => False) B F X N2 T C1 C2 C3 hk (by omega) (by omega) ?_) ?_
  · rintro v h' tk' news' F' N' ⟨tl', ep', rfl, rfl⟩
    refine ⟨h', tk', tl', ep', rfl, rfl, F', fun p hp => N' p (by
      simp only [List.mem_append, List.mem_cons] at hp ⊢
      rcases hp with h | h | h | h <;> simp only [h, true_or, or_true])⟩
  · intro r s' hr'
    cases r with
    | error e => exact hr'
    | ok fl =>
      cases fl with
      | ret v =>
        obtain ⟨h', tk', tl', ep', rfl, rfl, F', N'⟩ := hr'
        refine ⟨tx [c], tc, rfl, (N' _ (.head _)).1, (N' _ (.tail _ (.head _))).1, F'.keep _ _ hfo, ?_⟩
        rw [if_neg (show tx [c] ≠ Str.empty from fun e => by have := congrArg (fun s : Str => s.cps.size) e; simp [Str.empty] at this)]
        exact ret h' tk' tl' ep' F' N'
      | _ => exact hr'
theorem next_none (w : World) (P : LexP) (O : LexOk P) (rest : Led) (I q : Addr) (ts : Tok) (line : Int) (tl : Tok) (pb : List Value) (pe : Nat) (ep : Nat)
    (hoff : OwnOff (LexL w P line tl pb pe [] ep ++ rest) [I])
    {mean : ExcName → Option Value} {mg mb : Str → Option Value} {dp un : Nat} {gd : Option (List Code)} {cn : Str} {cs' : Scope} {a : Addr} {ccd : Value} {cl : List (Str × Addr)} {outer : List Env} {A₀ : Around} {base h₀ : Heap} {L : Addr} {m : Str → Option Value} {s : Shared} {Q : Option Value → Shared → Prop} {E : Value → Shared → Prop}
    (B : Below A₀ base outer h₀) (F : Fr h₀ L s.heap m) (X : (hd01.heap_1 w.params).In h₀) (N : News h₀ L s.heap ((I, ciO (.ref q) (.str Str.empty ts)) :: (q, methodObj (.ref 91) (.ref P.X)) :: (LexL w P line tl pb pe [] ep ++ rest))) (T : Top topProg topL mean mg mb h₀) (C1 : CodeHd base 135 131) (C2 : CodeHd base 48 44) (C3 : CodeHd base 41 37)
    (hk : cs'.kind = .function) (hd : dp + 5 < recursionLimit) (hu : un + 201 < cLine)
    (ret : ∀ h' tk', Fr h₀ L h' m → News h₀ L h' (LexL w P line tl pb pe [] ep ++ rest) → Q none { s with heap := h', toks := tk' }) :
    wpAny (model Challenge.rw_ty0035_01.row.prog w) (ktrTop dp un gd cn cs' L a ccd cl outer) (pyNext (.ref I)) Q E s := by
  obtain ⟨fo, fd, hfo, hfd⟩ := fn91 X
  refine ci_next rfl (N _ (.head _)).1 (N _ (.tail _ (.head _))).1 (F.keep _ _ hfo) hfd ?_
  refine call_meth N (.tail _ (.head _)) ?_
  have N2 : News h₀ L s.heap (LexL w P line tl pb pe [] ep ++ ((I, ciO (.ref q) (.str Str.empty ts)) :: (q, methodObj (.ref 91) (.ref P.X)) :: rest)) := fun p hp => N p (by
    simp only [List.mem_append, List.mem_cons] at hp ⊢
    rcases hp with h | h | h | h <;> simp only [h, true_or, or_true])
  refine codeAny_mono (read_end w P O _ line tl pb pe ep mean mg mb dp (un + 1) gd cn cs' a ccd cl outer A₀ base h₀ L m s (fun v s' => ∃ h' tk' t, v = .str Str.empty t ∧ s' = { s with heap := h', toks := tk' } ∧ Fr h₀ L h' m ∧ News h₀ L h' ((I, ciO (.ref q) (.str Str.empty ts)) :: (q, methodObj (.ref 91) (.ref P.X)) :: (LexL w P line tl pb pe [] ep ++ rest))) (fun _ _ => False) B F X N2 T C1 C2 C3 hk (by omega) (by omega) ?_) ?_
  · rintro v h' tk' news' F' N' ⟨t, rfl, rfl⟩
    refine ⟨h', tk', t, rfl, rfl, F', fun p hp => N' p (by
      simp only [List.mem_append, List.mem_cons] at hp ⊢
      rcases hp with h | h | h | h <;> simp only [h, true_or, or_true])⟩
  · intro r s' hr'
    cases r with
    | error e => exact hr'
    | ok fl =>
      cases fl with
      | ret v =>
        obtain ⟨h', tk', t, rfl, rfl, F', N'⟩ := hr'
        refine ⟨Str.empty, t, rfl, (N' _ (.head _)).1, (N' _ (.tail _ (.head _))).1, F'.keep _ _ hfo, ?_⟩
        rw [if_pos rfl]
        intro h'' hx
        have hIN := N' _ (.head _)
        refine ret h'' tk' ⟨F'.ns.extBut hx (Ne.symm hIN.2.1), fun b o e => hx b o (fun q => by rw [q, hIN.2.2] at e; cases e) (F'.keep b o e), F'.above⟩ fun p hp => ?_
        have hp' := N' p (.tail _ (.tail _ hp))
        exact ⟨hx _ _ (hoff p hp I (List.mem_singleton.mpr rfl)) hp'.1, hp'.2⟩
      | _ => exact hr'
end
section
section
variable {prog : Program} {w : World} {A : Around} {E : Value → Shared → Prop} {env : Env} {v : Str} {body : List Stmt} {Q : Flow → Shared → Prop} {I : Addr}
noncomputable def Hold (p : Prop) : Prop := p
theorem Hold.mk {p : Prop} (h : p) : Hold p := h
theorem tx_append (a b : List Nat) : tx a ++ tx b = tx (a ++ b) := by
  show Str.mk (a.toArray ++ b.toArray) = Str.mk (a ++ b).toArray
  simp
theorem owit_ind (Inv : Nat → Shared → Prop) (zero : ∀ s, ¬ Inv 0 s)
    (step : ∀ n s, Inv (n + 1) s → wpAny (model prog w) A (pyNext (.ref I)) (OwitTurn prog w A E env v body Q (fun s' => Hold (Inv n s'))) E s) : ∀ n s, Inv n s → OwitRest prog w A E env v body Q I n s := by
  intro n
  induction n with
  | zero => exact fun s h => (zero s h).elim
  | succ n ih =>
    intro s hi
    refine OwitRest.succ (wpAny_mono (step n s hi) (fun r s₁ hr => ?_) fun _ _ z => z)
    cases r with
    | none => exact hr
    | some y =>
      refine wpAny_mono (hr : wpAny _ _ (storeName env v y) _ _ _) (fun _ s₂ h₂ => wpAny_mono h₂ (fun f s₃ h₃ => ?_) fun _ _ z => z) fun _ _ z => z
      cases f with
      | next => exact ih s₃ h₃
      | cont => exact ih s₃ h₃
      | brk => exact h₃
      | ret u => exact h₃
end
noncomputable def cnt (cs : List Nat) : Int := (cs.count 10 : Nat)
theorem cnt_cons (c : Nat) (cs : List Nat) : cnt (c :: cs) = (if c = 10 then 1 else 0) + cnt cs := by
  unfold cnt
  rw [List.count_cons]
  by_cases h : c = 10
  · simp [h]; omega
  · simp [h]
theorem qt_is : Str.ofString "\"" = tx [34] := by decide +kernel
theorem bs_is : Str.ofString "\\" = tx [92] := by decide +kernel
theorem news_perm1 {h₀ h : Heap} {L : Addr} {a b : Addr × Obj} {l r : Led} (N : News h₀ L h (a :: b :: (l ++ r))) : News h₀ L h (l ++ (a :: b :: r)) := fun p hp => N p (by
  simp only [List.mem_append, List.mem_cons] at hp ⊢
  rcases hp with h | h | h | h <;> simp only [h, true_or, or_true])
theorem news_perm2 {h₀ h : Heap} {L : Addr} {a b : Addr × Obj} {l r : Led} (N : News h₀ L h (l ++ (a :: b :: r))) : News h₀ L h (a :: b :: (l ++ r)) := fun p hp => N p (by
  simp only [List.mem_append, List.mem_cons] at hp ⊢
  rcases hp with h | h | h | h <;> simp only [h, true_or, or_true])
noncomputable def esc (w : List Nat) : List Nat := w.flatMap fun c => if c = 34 ∨ c = 92 then [92, c] else [c]
noncomputable def bsl (w : List Nat) : List Nat := w.flatMap fun c => [92, c]
inductive TokPost (w : World) (P : LexP) (rest : Led) (line : Int) (cs rcs : List Nat) (word : List Nat) (pb : List Value) (pe : Nat) (v : Value) (news' : Led) : Prop
  | mk (t) (line') (tl') (sg') (ep') (zh1 : v = .str (tx word) t) (zh2 : news' = LexL w P line' tl' pb pe sg' ep' ++ rest) (zh3 : TextsAre sg' (rcs.map fun c => [c])) (zh4 : line' + cnt rcs = line + cnt cs)
theorem empty_is : Str.ofString "" = Str.empty := by decide +kernel

theorem off2_of {P : LexP} {rest : Led} {I q : Addr} {a b : Obj} (hoff : OwnOff rest [P.G, P.dX]) (h1 : @LT.lt Nat _ P.G I) (h2 : @LT.lt Nat _ P.dX I) (h3 : @LT.lt Nat _ P.G q) (h4 : @LT.lt Nat _ P.dX q) : OwnOff ((I, a) :: (q, b) :: rest) [P.G, P.dX] := by
  refine ownOff_cons (fun d hd => ?_) (ownOff_cons (fun d hd => ?_) hoff)
  · simp only [List.mem_cons, List.not_mem_nil, or_false] at hd
    show @Ne Nat I d
    rcases hd with rfl | rfl <;> omega
  · simp only [List.mem_cons, List.not_mem_nil, or_false] at hd
    show @Ne Nat q d
    rcases hd with rfl | rfl <;> omega
end
section
inductive TokInv (w : World) (P : LexP) (rest : Led) (s : Shared) (I q : Addr) (g1 : Heap) (L1 : Addr) (pe : Nat) (TOT : Int) (tail : List Nat → List Nat) (n : Nat) (s' : Shared) : Prop
  | mk (h : Heap) (tk : Nat) (m' : Str → Option Value) (pre : List Nat) (sg2 : List Value) (line2 : Int) (tl2 : Tok) (ep2 : Nat) (ts : Tok) (e1 : s' = { s with heap := h, toks := tk }) (e2 : pre.length < n) (e3 : pre = [] ∨ pre = [10])
      (e4 : TextsAre sg2 ((tail pre).map fun c => [c])) (e5 : (tail pre).length ≤ 1000) (e6 : ∀ x ∈ tail pre, x < 0x110000) (e7 : line2 + cnt (tail pre) = TOT) (e8 : Fr g1 L1 h m')
      (e9 : Has m' [(Str.ofString "self", .ref P.X), (Str.ofString "fiter", .ref I)] ∧ ∃ tt, m' (Str.ofString "token") = some (.str (tx []) tt))
      (e10 : News g1 L1 h ((I, ciO (.ref q) (.str Str.empty ts)) :: (q, methodObj (.ref 91) (.ref P.X)) :: (LexL w P line2 tl2 [] pe sg2 ep2 ++ rest)))
inductive TokInv2 (w : World) (P : LexP) (rest : Led) (s : Shared) (I q : Addr) (g1 : Heap) (L1 : Addr) (pe : Nat) (TOT : Int) (word : List Nat) (tail : List Nat → List Nat) (n : Nat) (s' : Shared) : Prop
  | mk (h : Heap) (tk : Nat) (m' : Str → Option Value) (w2 dn : List Nat) (sg2 : List Value) (line2 : Int) (tl2 : Tok) (ep2 : Nat) (ts : Tok) (e1 : s' = { s with heap := h, toks := tk }) (e2 : w2.length < n) (e3 : word = dn ++ w2)
      (e4 : TextsAre sg2 ((tail w2).map fun c => [c])) (e5 : (tail w2).length ≤ 1000) (e6 : ∀ x ∈ tail w2, x < 0x110000) (e7 : line2 + cnt (tail w2) = TOT) (e8 : Fr g1 L1 h m')
      (e9 : Has m' [(Str.ofString "self", .ref P.X), (Str.ofString "fiter", .ref I)] ∧ ∃ tt, m' (Str.ofString "token") = some (.str (tx dn) tt))
      (e10 : News g1 L1 h ((I, ciO (.ref q) (.str Str.empty ts)) :: (q, methodObj (.ref 91) (.ref P.X)) :: (LexL w P line2 tl2 [] pe sg2 ep2 ++ rest)))
section
variable {prog : Program} {w : World} {A : Around} {E : Value → Shared → Prop} {env : Env} {v : Str} {body : List Stmt} {Q : Flow → Shared → Prop} {I : Addr} {n : Nat} {s : Shared}
theorem owit_abs (h : ∀ Q', Q' = Q → OwitRest prog w A E env v body Q' I n s) : OwitRest prog w A E env v body Q I n s := h Q rfl
end
end
section
open PySem PySem.W PyProof.Rows PySem.Spec PySem.Calls PySem.StrLaws PySem.Builtin PySem.Builtin.Str
theorem tx_len (x : List Nat) : (tx x).length = x.length := by simp [Str.length]
theorem at_tx {x y : List Nat} {hi i : Nat} : At (tx x) (tx y) hi i ↔ i + y.length ≤ hi ∧ (x.drop i).take y.length = y := by
  unfold At
  rw [subAt_eq, tx_len]
  simp
theorem sub_tx (x : List Nat) (i j : Nat) : strSub (tx x) i j = tx ((x.drop i).take (j - i)) := by
  apply Str.ext'
  apply Array.toList_inj.mp
  rw [strSub_toList]
noncomputable def dots : List (List Nat) → List Nat
  | [] => []
  | [p] => p
  | p :: q :: r => p ++ 46 :: 46 :: 46 :: dots (q :: r)
theorem split_dots_aux (x : List Nat) : ∀ (parts : List (List Nat)), parts ≠ [] → (∀ p ∈ parts, 46 ∉ p) → ∀ (a : Nat) (cuts : List Nat) (f : Nat), a ≤ x.length → x.drop a = dots parts → ChainG (tx x) (tx [46, 46, 46]) x.length a cuts f → (∀ k, f ≤ k → ¬ At (tx x) (tx [46, 46, 46]) x.length k) → partsFrom (tx x) 3 a cuts = parts.map tx
  | [], hne, _, _, _, _, _, _, _, _ => absurd rfl hne
  | [p], _, hf, a, cuts, f, ha, hx, hG, hn => by
    cases cuts with
    | nil =>
      show [strSub (tx x) a (tx x).length] = _
      rw [sub_tx, tx_len, List.take_of_length_le (by simp), hx]
      rfl
    | cons c r =>
      have h1 := at_tx.mp hG.2.1
      have h2 := hG.1
      have e : x.drop c = p.drop (c - a) := by
        rw [show c = a + (c - a) by omega, ← List.drop_drop, hx]
        simp [dots]
      rw [e] at h1
      have h3 : 46 ∈ p := by
        have : 46 ∈ (p.drop (c - a)).take [46, 46, 46].length := by rw [h1.2]; simp
        exact List.mem_of_mem_drop (List.mem_of_mem_take this)
      exact absurd h3 (hf p (by simp))
  | p :: q :: r, _, hf, a, cuts, f, ha, hx, hG, hn => by
    have hlen : x.length = a + (p.length + 3 + (dots (q :: r)).length) := by
      have := congrArg List.length hx
      simp only [List.length_drop, dots, List.length_append, List.length_cons] at this
      omega
    have hat : At (tx x) (tx [46, 46, 46]) x.length (a + p.length) := by
      rw [at_tx]
      refine ⟨by simp only [List.length_cons, List.length_nil]; omega, ?_⟩
      rw [← List.drop_drop, hx]
      simp [dots]
    cases cuts with
    | nil =>
      have e : f = a := hG
      exact absurd hat (hn _ (by omega))
    | cons c cr =>
      have h2 := hG.1
      have h4 := hG.2.2.1
      have hc : c = a + p.length := by
        rcases Nat.lt_trichotomy c (a + p.length) with h | h | h
        · exfalso
          have h1 := at_tx.mp hG.2.1
          have e : x.drop c = p.drop (c - a) ++ 46 :: 46 :: 46 :: dots (q :: r) := by
            rw [show c = a + (c - a) by omega, ← List.drop_drop, hx]
            simp only [dots]
            rw [show a + (c - a) - a = c - a by omega, List.drop_append_of_le_length (by omega)]
          rw [e] at h1
          obtain ⟨z, zs, hz⟩ : ∃ z zs, p.drop (c - a) = z :: zs := by
            cases hd : p.drop (c - a) with
            | nil => have := congrArg List.length hd; simp at this; omega
            | cons z zs => exact ⟨z, zs, rfl⟩
          rw [hz] at h1
          have : z = 46 := by
            have := h1.2
            simp at this
            exact this.1
          subst this
          exact hf p (by simp) (List.mem_of_mem_drop (i := c - a) (by rw [hz]; simp))
        · exact h
        · exact absurd hat (h4 _ (by omega) h)
      subst hc
      show strSub (tx x) a (a + p.length) :: partsFrom (tx x) 3 (a + p.length + 3) cr = _
      rw [sub_tx, hx, split_dots_aux x (q :: r) (by simp) (fun z hz => hf z (.tail _ hz)) (a + p.length + 3) cr f (by omega) ?_ hG.2.2.2 hn]
      · simp [dots]
      · rw [Nat.add_assoc, ← List.drop_drop, hx]
        simp only [dots]
        rw [← List.drop_drop]
        simp
theorem split_dots {parts : List (List Nat)} (h2 : 2 ≤ parts.length) (hf : ∀ p ∈ parts, 46 ∉ p) : Txt.split (tx (dots parts)) (tx [46, 46, 46]) = parts.map tx := by
  obtain ⟨f, hG, hn⟩ := occ_tight (tx (dots parts)) (tx [46, 46, 46]) (by rw [tx_len]; decide)
  rw [tx_len] at hG hn
  have key := split_dots_aux (dots parts) parts (by rintro rfl; simp at h2) hf 0 _ f (Nat.zero_le _) (by simp) hG hn
  obtain ⟨p, q, r, rfl⟩ : ∃ p q r, parts = p :: q :: r := by
    match parts, h2 with
    | p :: q :: r, _ => exact ⟨p, q, r, rfl⟩
  unfold Txt.split
  rw [if_neg, if_neg]
  · rw [partsBetween_eq, tx_len, tx_len]
    exact key
  · intro he
    rw [tx_len, List.isEmpty_iff] at he
    rw [he] at key
    have := congrArg List.length key
    simp [partsFrom] at this
  · rw [Bool.or_eq_true, decide_eq_true_eq, decide_eq_true_eq, tx_len, tx_len]
    rintro (h | h)
    · simp [dots] at h
      omega
    · have e : Builtin.Str.strKind (tx [46, 46, 46]) = 1 := by decide +kernel
      rw [e] at h
      unfold Builtin.Str.strKind at h
      split at h
      · omega
      · split at h <;> omega
theorem dots_in (p q : List Nat) (r : List (List Nat)) : (occurrences (tx (dots (p :: q :: r))) (tx [46, 46, 46]) 0 (tx (dots (p :: q :: r))).length 1).isEmpty = false := by
  have h := (found_iff (tx (dots (p :: q :: r))) (tx [46, 46, 46])).mpr ⟨p.length, at_tx.mpr ⟨by rw [tx_len]; simp [dots] <;> omega, by simp [dots]⟩⟩
  simpa using h
theorem range'_split2 {n b a : Nat} {pre post : List Nat} (h : List.range' b n = pre ++ a :: post) : b ≤ a ∧ ∀ k, b ≤ k → k < a → k ∈ pre := by
  have hL : n = pre.length + (post.length + 1) := by
    have := congrArg List.length h
    simpa using this
  have hlen : b + pre.length = a := by
    have h1 : (List.range' b n)[pre.length]? = some a := by rw [h]; simp
    rw [List.getElem?_range'] at h1
    · simpa using h1
    · omega
  refine ⟨by omega, fun k hb hk => ?_⟩
  have h2 : (List.range' b n)[k - b]? = pre[k - b]? := by rw [h, List.getElem?_append_left (by omega)]
  rw [List.getElem?_range' (by omega)] at h2
  have h3 : pre[k - b]? = some k := by rw [← h2]; simp; omega
  exact List.mem_of_getElem? h3
theorem occ_from (x y : Str) (lo hi : Nat) :
    (occurrences x y lo hi 1 = [] ∧ ∀ i, lo ≤ i → ¬ At x y hi i) ∨ ∃ i r, occurrences x y lo hi 1 = i :: r ∧ lo ≤ i ∧ At x y hi i ∧ ∀ k, lo ≤ k → k < i → ¬ At x y hi k := by
  rw [occ_eq]
  rcases occ_first x y hi 1 (Nat.le_refl 1) (List.range' lo (hi + 1 - lo)) lo (fun i h => by simp [List.mem_range'] at h; omega) with ⟨h0, hn⟩ | ⟨pre, a, post, e, h0, ha, hn⟩
  · refine .inl ⟨by rw [h0], fun i hb hA => ?_⟩
    exact hn i (by have := hA.1; rw [List.mem_range'_1]; omega) hA
  · obtain ⟨e1, e2⟩ := range'_split2 e
    refine .inr ⟨a, ((forIn (List.range' lo (hi + 1 - lo)) ((#[] : Array Nat), lo) (occBody x y hi 1)).run.fst.toList).tail, ?_, e1, ha, fun k hb hk => hn k (e2 k hb hk)⟩
    generalize (forIn (List.range' lo (hi + 1 - lo)) ((#[] : Array Nat), lo) (occBody x y hi 1)).run.fst = arr at h0
    have h1 : arr.toList[0]? = some a := by simpa using h0
    cases hL : arr.toList with
    | nil => rw [hL] at h1; cases h1
    | cons b t => rw [hL] at h1; simp at h1; rw [h1]; rfl
noncomputable def find4 (x y : Str) (i j : Int) : Int := match occurrences x y (fromIndex x.length i) (min (fromIndex x.length j) x.length) 1 with | k :: _ => (k : Int) | [] => -1
theorem find4_none (x : List Nat) (i j : Nat) (h : i ≤ j) (hj : j ≤ x.length) : find4 (tx x) (tx []) i j = i := by
  have e1 : fromIndex (tx x).length (i : Int) = i := by unfold fromIndex; rw [if_neg (by omega)]; omega
  have e2 : fromIndex (tx x).length (j : Int) = j := by unfold fromIndex; rw [if_neg (by omega)]; omega
  unfold find4
  rw [e1, e2, tx_len, Nat.min_eq_left hj]
  rcases occ_from (tx x) (tx []) i j with ⟨_, h2⟩ | ⟨k, r, h1, h2, h3, h4⟩
  · exact absurd (at_tx.mpr ⟨by simpa using h, by simp⟩) (h2 i (Nat.le_refl _))
  · rw [h1]
    have : ¬ i < k := fun hk => h4 i (Nat.le_refl _) hk (at_tx.mpr ⟨by simpa using h, by simp⟩)
    show (k : Int) = i
    omega
theorem gives_find4 (x y : Str) (i j : Int) (t u v v' : Tok) : Gives («str.find» ⟨[.str x t, .str y u, .int i v, .int j v'], []⟩) (.int (find4 x y i j)) := by
  show Gives (match occurrences x y (fromIndex x.length i) (min (fromIndex x.length j) x.length) 1 with | k :: _ => retInt k | [] => (do rule "str.find.not-found"; retInt (-1))) _
  unfold find4
  cases occurrences x y (fromIndex x.length i) (min (fromIndex x.length j) x.length) 1 with
  | nil => exact .rule (.of_eq rfl)
  | cons k _ => exact .of_eq rfl
section
variable {prog : Program} {w : World} {A : Around} {E : Value → Shared → Prop} {s : Shared}
theorem call_find4 {x y : Str} {t u v v' : Tok} {i j : Int} {Q : Value → Shared → Prop} (hq : Q (.int (find4 x y i j) s.toks) { s with toks := s.toks + 1 }) : wpAny (model prog w) A (call (.builtin "str.find") [.str x t, .str y u, .int i v, .int j v']) Q E s :=
  call_gives F.slot_str_find (typeIs_str _ _ _) F.entry_str_find (F.args_str_find_4 _ _ _ _) (gives_find4 x y i j t u v v') hq
end
end
section
theorem pop_first {prog : Program} {w : World} {A : Around} {E : Value → Shared → Prop} {s : Shared} {h₀ : Heap} {L : Addr} {m : Str → Option Value} {news news' : Led} {D : Addr} {x : Value} {sg : List Value} {n : Nat} {u : Tok} {Q : Value → Shared → Prop} (F : Fr h₀ L s.heap m) (N : News h₀ L s.heap news) (U : Upd D (W.listOf (x :: sg).toArray n) (W.listOf sg.toArray (n + 1)) news news') (hz : sg.length ≤ 2 ^ 20)
    (h : ∀ h', Fr h₀ L h' m → News h₀ L h' news' → Q x { s with heap := h' }) : wpAny (model prog w) A (call (.builtin "list.pop") [.ref D, .int 0 u]) Q E s :=
  kl_popAt (i := 0) (k := 0) (p := []) (q := sg) (y := x) F N (by decide +kernel) (by simp [seqIndex?]) (by simp [kl_cut]) U (by simp [sizeLine]; omega) h
namespace Vget_end
noncomputable def At0 (w : World) (P : LexP) (rest : Led) (line : Int) (tl : Tok) (pe : Nat) (ep : Nat) (z : TelV) : Prop := ∀ (O : LexOk P) (sg : List Value) (pre0 : List Nat) (hpre : pre0 = [] ∨ pre0 = [10]) (hr : OwnOff rest [P.G, P.dX]) (hsg : TextsAre sg ((pre0).map fun c => [c])) (hs : (pre0).length ≤ 1000) (hc : ∀ x ∈ (pre0), x < 0x110000), TelAt w 8 400 (.ref 98) [.ref P.X] (LexL w P line tl [] pe sg ep ++ rest) (TokPost w P rest line pre0 [] [] [] pe) z
noncomputable def w : World := eps1 ne_world (fun w => ∀ P rest line tl pe ep z, At0 w P rest line tl pe ep z)
noncomputable def P : LexP := eps1 ne_lexp (fun P => ∀ rest line tl pe ep z, At0 w P rest line tl pe ep z)
noncomputable def rest : Led := eps1 ne_led (fun rest => ∀ line tl pe ep z, At0 w P rest line tl pe ep z)
noncomputable def line : Int := eps1 ne_int (fun line => ∀ tl pe ep z, At0 w P rest line tl pe ep z)
noncomputable def tl : Tok := eps1 ne_tok (fun tl => ∀ pe ep z, At0 w P rest line tl pe ep z)
noncomputable def pe : Nat := eps1 ne_nat (fun pe => ∀ ep z, At0 w P rest line tl pe ep z)
noncomputable def ep : Nat := eps1 ne_nat (fun ep => ∀ z, At0 w P rest line tl pe ep z)
noncomputable def v0 : TelV := eps1 telV_ne (fun z => At0 w P rest line tl pe ep z)
noncomputable abbrev h₀ := v0.h₀
noncomputable abbrev L := v0.L
noncomputable abbrev s := v0.s
theorem aux (O : LexOk P) (sg : List Value) (pre0 : List Nat) (hpre : pre0 = [] ∨ pre0 = [10]) (hr : OwnOff rest [P.G, P.dX]) (hsg : TextsAre sg ((pre0).map fun c => [c])) (hs : (pre0).length ≤ 1000) (hc : ∀ x ∈ (pre0), x < 0x110000) :
  TelAt w 8 400 (.ref 98) [.ref P.X] (LexL w P line tl [] pe sg ep ++ rest) (TokPost w P rest line pre0 [] [] [] pe) v0 := by
  intro B F X N T C1 C2 C3 hk hd hu hret
  have O' := O
  obtain ⟨o1, o2, o3, n1, n2, n3, n4, n5, n6, n7, n8, n9⟩ := O'
  simp only [LexL, List.cons_append, List.nil_append] at N
  refine wpAny_call ?_
  k_dflt (first | (refine' code_defC ?k1 ?k2 ?k3 ?k4 ?k5 ?kA ?kF ?kK ?k6 ?k7 ?k8 ?k9 ?kB ?kD ?_ ?c2 ?c3 ?c4; (case kA => exact rfl); (case kF => exact rfl); (case kK => first | exact rfl | assumption); (case k1 => k_asm); (case k2 => k_asm); (case k3 => k_asm); (case k4 => k_asm); (case k5 => k_asm); (case k6 => k_is); (case k7 => k_is); (case k8 => k_room); (case k9 => first | exact BindsTo.of_eq rfl | exact binds_K (by k_in) rfl (by k_is) rfl rfl rfl | fail "k_enter: no rule for these arguments"); (case kB => exact rfl); (case kD => decide +kernel); (case c2 => exact rfl); (case c3 => exact rfl); (case c4 => exact rfl); k_whole; intro z9g z9L z9h z9tk z9cells z9FG z9F z9N z9Y z9B z9X z9T z9l1; (try k_lt z9l1); k_cells z9Y; (try simp only [List.cons_append, List.nil_append] at z9N); (try dsimp only); (try k_lift z9B); (try k_fold)) | cell_enter)
  rename_i g1 L1 hh1 FG1 FF1 NN1 B1 X1 T1
  (repeat' (first | (with_reducible refine if_ff ?_) | (with_reducible refine if_tt ?_) | (k_unfold; (try dsimp only)) | (k_end; wrow_close) | (cell_step; walk1) | (cell_step; dsimp only; walk1) | (leave1; walk_say "STEP leave1"; try dsimp only) | fail "no step"))
  rename_i q _ _ _ lq
  k_dflt (refine' ci_make ?vF ?vN ?vq ?_; (case vF => k_asm); (case vN => k_asm); (case vq => k_mem))
  intro I hI F8 N8 lI
  simp only [topA_nil, topA_cons, topA_app, Nat.max_le, Nat.zero_le, true_and, and_true] at lI
  rw [empty_is] at N8
  (try dsimp only)
  (repeat' (first | (with_reducible refine if_ff ?_) | (with_reducible refine if_tt ?_) | (k_unfold; (try dsimp only)) | (k_end; wrow_close) | (cell_step; walk1) | (cell_step; dsimp only; walk1) | (leave1; walk_say "STEP leave1"; try dsimp only) | fail "no step"))
  with_unfolding_all refine' owit_for ?_
  (repeat' (first | (with_reducible refine if_ff ?_) | (with_reducible refine if_tt ?_) | (k_unfold; (try dsimp only)) | (k_end; wrow_close) | (cell_step; walk1) | (cell_step; dsimp only; walk1) | (leave1; walk_say "STEP leave1"; try dsimp only) | fail "no step"))
  rename Fr _ _ _ _ => F9
  rename News _ _ _ _ => N9
  refine ci_iter (N9 _ (.head _)).1 ?_
  have hoff : OwnOff rest [P.G, P.dX] := hr
  have lI1 : @LT.lt Nat _ P.PB I := by omega
  have lq1 : @LT.lt Nat _ P.PB q := by omega
  refine OwitAt.intro ?_
  obtain ⟨TOT, hTOT⟩ : ∃ z, z = line + cnt (pre0) := ⟨_, rfl⟩
  refine owit_abs (fun Q1 hQ1 => ?_)
  refine owit_ind (TokInv w P rest s I q g1 L1 pe TOT (fun pre => pre)) ?zo ?so 64 _ ?io
  case zo => rintro s' ⟨_, _, _, _, _, _, _, _, _, _, hz, _⟩; exact Nat.not_lt_zero _ hz
  case io =>
    exact ⟨_, _, _, pre0, sg, line, tl, ep, _, rfl, by rcases hpre with rfl | rfl <;> simp, hpre, hsg, hs, hc, hTOT.symm, F9, ⟨⟨rfl, rfl, trivial⟩, _, congrArg (fun z => some (Value.str z _)) (show Str.ofString "" = tx [] from by decide +kernel)⟩, N9⟩
  case so =>
  rintro n0 s' ⟨h9, tk9, m9, pre, sg9, line9, tl9, ep9, ts9, rfl, hpn, hpe, hsg9, hs9, hc9, hcn9, F9', ⟨⟨hm1, hm2, _⟩, tt9, hm3⟩, N9'⟩
  have hM9 : Has m9 [(Str.ofString "self", .ref P.X), (Str.ofString "fiter", .ref I), (Str.ofString "token", .str (tx []) tt9)] := ⟨hm1, hm2, hm3, trivial⟩
  clear hsg hs hc
  try clear F9
  try clear N9
  rcases hpe with rfl | rfl
  rotate_left
  · rw [List.map_cons] at hsg9
    cases hsg9 with
    | cons _ tc hsg1 =>
    rename_i sg1
    rw [List.length_cons] at hs9
    refine next_char w P O rest I q ts9 line9 tl9 [] pe 10 tc sg1 [] ep9 hoff lI1 lq1 hsg1 (by omega) (by decide) (fun x hx => hc9 x (.tail _ hx)) B1 F9' X1 N9' T1 C1 C2 C3 rfl (by ktr_room) (by ktr_units) ?_
    intro h1 tk1 tl1 ep1 F1 N1
    rw [if_pos rfl] at N1
    have F5 := fr_all0 hM9 F1
    clear F1 F9' N9'
    dsimp only [OwitTurn]
    simp only [LexL, List.cons_append, List.nil_append] at N1
    (repeat' (first | (with_reducible refine if_ff ?_) | (with_reducible refine if_tt ?_) | (k_unfold; (try dsimp only)) | (k_end; wrow_close) | (cell_step; walk1) | (cell_step; dsimp only; walk1) | (leave1; walk_say "STEP leave1"; try dsimp only) | fail "no step"))
    all_goals first | (exfalso; rename ((Builtin.Str.occurrences _ _ _ _ _).isEmpty = true) => hz; revert hz; decide +kernel; done) | skip
    rename Fr _ _ _ _ => FZ
    rename News _ _ _ _ => NZ
    rw [cnt_cons, if_pos rfl] at hcn9
    exact Hold.mk ⟨_, _, _, [], sg1, line9 + 1, tl1, ep1, ts9, rfl, by simp only [List.length_cons, List.length_nil] at hpn ⊢; omega, .inl rfl, hsg1, by simp, fun x hx => hc9 x (.tail _ hx), by omega, FZ, ⟨⟨rfl, rfl, trivial⟩, tt9, rfl⟩, NZ⟩
  cases hsg9
  have hI9 : OwnOff (LexL w P line9 tl9 [] pe [] ep9 ++ rest) [I] := fun p hp d hd => by
    rw [List.mem_singleton.mp hd]
    exact topA_ne (r := LexL w P line9 tl9 [] pe [] ep9 ++ rest) (by simp only [LexL, topA_nil, topA_cons, topA_app, Nat.max_le, Nat.zero_le, true_and, and_true]; omega) p hp
  refine next_none w P O rest I q ts9 line9 tl9 [] pe ep9 hI9 B1 F9' X1 N9' T1 C1 C2 C3 rfl (by ktr_room) (by ktr_units) ?_
  intro h1 tk1 F1 N1
  have F5 := fr_all0 hM9 F1
  clear F1 F9' N9'
  dsimp only [OwitTurn]
  simp only [LexL, List.cons_append, List.nil_append] at N1
  (repeat' (first | (with_reducible refine if_ff ?_) | (with_reducible refine if_tt ?_) | (k_unfold; (try dsimp only)) | (k_end; wrow_close) | (cell_step; walk1) | (cell_step; dsimp only; walk1) | (leave1; walk_say "STEP leave1"; try dsimp only) | fail "no step"))
  rw [hQ1]
  (try dsimp only)
  (repeat' (first | (with_reducible refine if_ff ?_) | (with_reducible refine if_tt ?_) | (k_unfold; (try dsimp only)) | (k_end; wrow_close) | (cell_step; walk1) | (cell_step; dsimp only; walk1) | (leave1; walk_say "STEP leave1"; try dsimp only) | fail "no step"))
  rename Fr h₀ L _ _ => F1
  rename News h₀ L _ _ => N1
  exact hret _ _ _ (LexL w P line9 tl9 [] pe [] ep9 ++ rest) F1 N1 ⟨tt9, line9, tl9, [], ep9, rfl, rfl, .nil, hcn9.trans hTOT⟩
end Vget_end
theorem get_end (w : World) (P : LexP) (O : LexOk P) (rest : Led) (line : Int) (tl : Tok) (pe : Nat) (sg : List Value) (ep : Nat) (pre0 : List Nat) (hpre : pre0 = [] ∨ pre0 = [10]) (hr : OwnOff rest [P.G, P.dX]) (hsg : TextsAre sg ((pre0).map fun c => [c])) (hs : (pre0).length ≤ 1000) (hc : ∀ x ∈ (pre0), x < 0x110000) :
  Tel w 8 400 (.ref 98) [.ref P.X] (LexL w P line tl [] pe sg ep ++ rest) (TokPost w P rest line pre0 [] [] [] pe) := tel_of fun z => (show ∀ w P rest line tl pe ep z, Vget_end.At0 w P rest line tl pe ep z from (eps1_all (eps1_all (eps1_all (eps1_all (eps1_all (eps1_all (eps1_all (eps1_all @Vget_end.aux))))))))) w P rest line tl pe ep z O sg pre0 hpre hr hsg hs hc
theorem pb_off {P : LexP} (O : LexOk P) {rest : Led} {a1 a2 a3 a4 a5 a6 a7 a8 : Obj} (hr : ∀ p ∈ rest, p.1 ≠ P.PB) : ∀ p ∈ (P.X, a1) :: (P.dX, a2) :: (P.Lm, a3) :: (P.cL, a4) :: (P.S, a5) :: (P.dS, a6) :: (P.G, a7) :: (P.cG, a8) :: rest, p.1 ≠ P.PB := by
  obtain ⟨o1, o2, o3, n1, n2, n3, n4, n5, n6, n7, n8, n9⟩ := O
  intro p hp
  simp only [List.mem_cons] at hp
  rcases hp with rfl | rfl | rfl | rfl | rfl | rfl | rfl | rfl | hp
  all_goals first | exact hr p hp | exact Nat.ne_of_lt (by omega)
end
section
theorem lex_mk (w : World) {h₀ h : Heap} {L : Addr} {PB X dX Lm cL PB2 S dS G cG : Addr} {oL oG : Obj} {k1 k2 k3 k4 k5 k6 k7 k8 k9 tw t5 t7 tl cq : Tok} {pm ct : Value} {cvs : Array Value} {sg : List Value} {ep : Nat} {t rest : Led}
    (N : News h₀ L h ((PB, W.listOf ([] : List Value).toArray 0) :: (X, instObj 108 dX) :: (dX, W.dictOf [ent w (Str.ofString "lineno") k1 (.int 1 tl), ent w (Str.ofString "instream") k2 (.ref S), ent w (Str.ofString "whitespace") k3 (.str wsp tw), ent w (Str.ofString "pushback") k4 (.ref PB)] 4) :: (Lm, kla_obj (Str.ofString "<lambda>") qualL (lamArgs lamX) (lamBody lamX) (lamScope lamX) [(Str.ofString "signs", cG)] pm cL ct) :: (cL, oL) :: (PB2, W.listOf ([] : List Value).toArray 0) :: (S, instObj 108 dS) ::
      (dS, W.dictOf [ent w (Str.ofString "lineno") k5 (.int 1 t5), ent w (Str.ofString "instream") k6 .none, ent w (Str.ofString "whitespace") k7 (.str wsp t7), ent w (Str.ofString "pushback") k8 (.ref PB2), ent w (Str.ofString "read") k9 (.ref Lm)] 5) :: (G, W.listOf sg.reverse.toArray ep) :: (cG, oG) :: t))
    (hsub : ∀ p ∈ rest, p ∈ t) (o1 : oL.data = .fields cvs) (o2 : cvs[1]? = some (.str qualL cq)) (o3 : oG.data = .cell (some (.ref G)))
    (n1 : @LT.lt Nat _ cG G) (n2 : @LT.lt Nat _ G dS) (n3 : @LT.lt Nat _ dS S) (n4 : @LT.lt Nat _ S PB2) (n5 : @LT.lt Nat _ PB2 cL) (n6 : @LT.lt Nat _ cL Lm) (n7 : @LT.lt Nat _ Lm dX) (n8 : @LT.lt Nat _ dX X) (n9 : @LT.lt Nat _ X PB) (hr : topA rest ≤ cG) :
    ∃ P : LexP, P.X = X ∧ LexOk P ∧ topA rest ≤ P.cG ∧ News h₀ L h (LexL w P 1 tl [] 0 sg ep ++ rest) := by
  refine ⟨⟨X, dX, S, dS, Lm, cL, G, cG, PB, PB2, oL, oG, k1, k2, k3, k4, k5, k6, k7, k8, k9, tw, t5, t7, pm, ct, cvs, cq⟩, rfl, ⟨o1, o2, o3, n1, n2, n3, n4, n5, n6, n7, n8, n9⟩, hr, fun p hp => N p ?_⟩
  simp only [LexL, List.cons_append, List.nil_append, List.mem_cons] at hp ⊢
  rcases hp with h | h | h | h | h | h | h | h | h | h
  · exact .inl h
  · exact .inr (.inl h)
  · exact .inr (.inr (.inl h))
  · exact .inr (.inr (.inr (.inl h)))
  · exact .inr (.inr (.inr (.inr (.inl h))))
  · exact .inr (.inr (.inr (.inr (.inr (.inr (.inl h))))))
  · exact .inr (.inr (.inr (.inr (.inr (.inr (.inr (.inl h)))))))
  · exact .inr (.inr (.inr (.inr (.inr (.inr (.inr (.inr (.inl h))))))))
  · exact .inr (.inr (.inr (.inr (.inr (.inr (.inr (.inr (.inr (.inl h)))))))))
  · exact .inr (.inr (.inr (.inr (.inr (.inr (.inr (.inr (.inr (.inr (hsub p h))))))))))
inductive LxPost (w : World) (rest : Led) (cs : List Nat) (v : Value) (news' : Led) : Prop
  | mk (P : LexP) (tl : Tok) (sg : List Value) (ep : Nat) (zh1 : v = .ref P.X) (zh2 : LexOk P) (zh3 : topA rest ≤ P.cG) (zh4 : TextsAre sg (cs.map fun c => [c])) (ps : Array Value) (zh5 : topA ((131, tabObj ps) :: rest) ≤ P.cG) (zh6 : news' = LexL w P 1 tl [] 0 sg ep ++ ((131, tabObj ps) :: rest))
namespace Vlaw_lexer
noncomputable def At0 (w : World) (rest : Led) (cs : List Nat) (t : Tok) (z : TelV) : Prop := ∀ (hx : cs.length ≤ 1000) (off : OwnOff rest [131]), TelAt w 5 60 (.ref 136) [.str (tx cs) t] ((131, tabObj #[]) :: rest) (LxPost w rest cs) z
noncomputable def w : World := eps1 ne_world (fun w => ∀ rest cs t z, At0 w rest cs t z)
noncomputable def rest : Led := eps1 ne_led (fun rest => ∀ cs t z, At0 w rest cs t z)
noncomputable def cs : List Nat := eps1 ne_list (fun cs => ∀ t z, At0 w rest cs t z)
noncomputable def t : Tok := eps1 ne_tok (fun t => ∀ z, At0 w rest cs t z)
noncomputable def v0 : TelV := eps1 telV_ne (fun z => At0 w rest cs t z)
noncomputable abbrev h₀ := v0.h₀
noncomputable abbrev L := v0.L
theorem aux (hx : cs.length ≤ 1000) (off : OwnOff rest [131]) :
  TelAt w 5 60 (.ref 136) [.str (tx cs) t] ((131, tabObj #[]) :: rest) (LxPost w rest cs) v0 := by
  intro B F X N T C1 C2 C3 hk hd hu hret
  refine wpAny_call ?_
  k_dflt (first | (refine' code_defC ?k1 ?k2 ?k3 ?k4 ?k5 ?kA ?kF ?kK ?k6 ?k7 ?k8 ?k9 ?kB ?kD ?_ ?c2 ?c3 ?c4; (case kA => exact rfl); (case kF => exact rfl); (case kK => first | exact rfl | assumption); (case k1 => k_asm); (case k2 => k_asm); (case k3 => k_asm); (case k4 => k_asm); (case k5 => k_asm); (case k6 => k_is); (case k7 => k_is); (case k8 => k_room); (case k9 => first | exact BindsTo.of_eq rfl | exact binds_K (by k_in) rfl (by k_is) rfl rfl rfl | fail "k_enter: no rule for these arguments"); (case kB => exact rfl); (case kD => decide +kernel); (case c2 => exact rfl); (case c3 => exact rfl); (case c4 => exact rfl); k_whole; intro z9g z9L z9h z9tk z9cells z9FG z9F z9N z9Y z9B z9X z9T z9l1; (try k_lt z9l1); k_cells z9Y; (try simp only [List.cons_append, List.nil_append] at z9N); (try dsimp only); (try k_lift z9B); (try k_fold)) | cell_enter)
  (repeat' (first | (with_reducible refine if_ff ?_) | (with_reducible refine if_tt ?_) | (k_unfold; (try dsimp only)) | (k_end; wrow_close) | (cell_step; walk1) | (cell_step; dsimp only; walk1) | (leave1; walk_say "STEP leave1"; try dsimp only) | fail "no step"))
  k_dflt (refine' list_text ?hh ?F ?N ?hn ?_; (case hh => rfl); (case F => k_asm); (case N => k_asm); (case hn => first | assumption | omega))
  intro D' vs' c' h' tk' F' N' l1 hT
  simp only [topA_nil, topA_cons, topA_app, Nat.max_le, Nat.zero_le, true_and, and_true] at l1
  (try dsimp only)
  have hvl := hT.length
  rw [List.length_map] at hvl
  (repeat' (first | (with_reducible refine if_ff ?_) | (with_reducible refine if_tt ?_) | (k_unfold; (try dsimp only)) | (k_end; wrow_close) | (cell_step; walk1) | (cell_step; dsimp only; walk1) | (leave1; walk_say "STEP leave1"; try dsimp only) | fail "no step"))
  k_dflt (refine' rev_list ?vF ?vN ?vU ?vz ?_; (case vF => k_asm); (case vN => k_asm); (case vU => k_upd); (case vz => first | assumption | omega))
  intro h' F' N'
  (try dsimp only)
  (repeat' (first | (with_reducible refine if_ff ?_) | (with_reducible refine if_tt ?_) | (k_unfold; (try dsimp only)) | (k_end; wrow_close) | (cell_step; walk1) | (cell_step; dsimp only; walk1) | (leave1; walk_say "STEP leave1"; try dsimp only) | fail "no step"))
  walk1
  (repeat' (first | (with_reducible refine if_ff ?_) | (with_reducible refine if_tt ?_) | (k_unfold; (try dsimp only)) | (k_end; wrow_close) | (cell_step; walk1) | (cell_step; dsimp only; walk1) | (leave1; walk_say "STEP leave1"; try dsimp only) | fail "no step"))
  walk1
  (repeat' (first | (with_reducible refine if_ff ?_) | (with_reducible refine if_tt ?_) | (k_unfold; (try dsimp only)) | (k_end; wrow_close) | (cell_step; walk1) | (cell_step; dsimp only; walk1) | (leave1; walk_say "STEP leave1"; try dsimp only) | fail "no step"))
  rename Fr h₀ L _ _ => F1
  rename News h₀ L _ _ => N1
  obtain ⟨P, rfl, O, hP, N2⟩ := lex_mk (rest := _ :: rest) w N1 (fun p hp => hp) (by assumption) (by assumption) (by assumption) (by omega) (by omega) (by omega) (by omega) (by omega) (by omega) (by omega) (by omega) (by omega) (by rw [topA_cons]; show Max.max _ _ ≤ _; omega)
  exact hret _ _ _ _ F1 N2 ⟨P, _, _, _, rfl, O, Nat.le_trans (by rw [topA_cons]; exact Nat.le_max_right _ _) hP, hT, _, hP, rfl⟩
end Vlaw_lexer
theorem law_lexer (w : World) (rest : Led) (cs : List Nat) (t : Tok) (hx : cs.length ≤ 1000) (off : OwnOff rest [131]) :
  Tel w 5 60 (.ref 136) [.str (tx cs) t] ((131, tabObj #[]) :: rest) (LxPost w rest cs) := tel_of fun z => (show ∀ w rest cs t z, Vlaw_lexer.At0 w rest cs t z from (eps1_all (eps1_all (eps1_all (eps1_all (eps1_all @Vlaw_lexer.aux)))))) w rest cs t z hx off
end
section
namespace Vget_quoted
noncomputable def At0 (w : World) (P : LexP) (rest : Led) (line : Int) (tl : Tok) (pe : Nat) (sg : List Value) (word : List Nat) (rcs : List Nat) (ep : Nat) (z : TelV) : Prop := ∀ (O : LexOk P) (pre0 : List Nat) (hpre : pre0 = [] ∨ pre0 = [10]) (hr : OwnOff rest [P.G, P.dX]) (hsg : TextsAre sg ((pre0 ++ 34 :: (esc word ++ 34 :: rcs)).map fun c => [c])) (hs : (pre0 ++ 34 :: (esc word ++ 34 :: rcs)).length ≤ 1000) (hc : ∀ x ∈ (pre0 ++ 34 :: (esc word ++ 34 :: rcs)), x < 0x110000) (hw : word.length ≤ 30), TelAt w 8 400 (.ref 98) [.ref P.X] (LexL w P line tl [] pe sg ep ++ rest) (TokPost w P rest line (pre0 ++ 34 :: (esc word ++ 34 :: rcs)) rcs word [] pe) z
noncomputable def w : World := eps1 ne_world (fun w => ∀ P rest line tl pe sg word rcs ep z, At0 w P rest line tl pe sg word rcs ep z)
noncomputable def P : LexP := eps1 ne_lexp (fun P => ∀ rest line tl pe sg word rcs ep z, At0 w P rest line tl pe sg word rcs ep z)
noncomputable def rest : Led := eps1 ne_led (fun rest => ∀ line tl pe sg word rcs ep z, At0 w P rest line tl pe sg word rcs ep z)
noncomputable def line : Int := eps1 ne_int (fun line => ∀ tl pe sg word rcs ep z, At0 w P rest line tl pe sg word rcs ep z)
noncomputable def tl : Tok := eps1 ne_tok (fun tl => ∀ pe sg word rcs ep z, At0 w P rest line tl pe sg word rcs ep z)
noncomputable def pe : Nat := eps1 ne_nat (fun pe => ∀ sg word rcs ep z, At0 w P rest line tl pe sg word rcs ep z)
noncomputable def sg : List Value := eps1 ne_list (fun sg => ∀ word rcs ep z, At0 w P rest line tl pe sg word rcs ep z)
noncomputable def word : List Nat := eps1 ne_list (fun word => ∀ rcs ep z, At0 w P rest line tl pe sg word rcs ep z)
noncomputable def rcs : List Nat := eps1 ne_list (fun rcs => ∀ ep z, At0 w P rest line tl pe sg word rcs ep z)
noncomputable def ep : Nat := eps1 ne_nat (fun ep => ∀ z, At0 w P rest line tl pe sg word rcs ep z)
noncomputable def v0 : TelV := eps1 telV_ne (fun z => At0 w P rest line tl pe sg word rcs ep z)
noncomputable abbrev h₀ := v0.h₀
noncomputable abbrev L := v0.L
noncomputable abbrev s := v0.s
theorem aux (O : LexOk P) (pre0 : List Nat) (hpre : pre0 = [] ∨ pre0 = [10]) (hr : OwnOff rest [P.G, P.dX]) (hsg : TextsAre sg ((pre0 ++ 34 :: (esc word ++ 34 :: rcs)).map fun c => [c])) (hs : (pre0 ++ 34 :: (esc word ++ 34 :: rcs)).length ≤ 1000) (hc : ∀ x ∈ (pre0 ++ 34 :: (esc word ++ 34 :: rcs)), x < 0x110000) (hw : word.length ≤ 30) :
  TelAt w 8 400 (.ref 98) [.ref P.X] (LexL w P line tl [] pe sg ep ++ rest) (TokPost w P rest line (pre0 ++ 34 :: (esc word ++ 34 :: rcs)) rcs word [] pe) v0 := by
  intro B F X N T C1 C2 C3 hk hd hu hret
  have O' := O
  obtain ⟨o1, o2, o3, n1, n2, n3, n4, n5, n6, n7, n8, n9⟩ := O'
  simp only [LexL, List.cons_append, List.nil_append] at N
  refine wpAny_call ?_
  k_dflt (first | (refine' code_defC ?k1 ?k2 ?k3 ?k4 ?k5 ?kA ?kF ?kK ?k6 ?k7 ?k8 ?k9 ?kB ?kD ?_ ?c2 ?c3 ?c4; (case kA => exact rfl); (case kF => exact rfl); (case kK => first | exact rfl | assumption); (case k1 => k_asm); (case k2 => k_asm); (case k3 => k_asm); (case k4 => k_asm); (case k5 => k_asm); (case k6 => k_is); (case k7 => k_is); (case k8 => k_room); (case k9 => first | exact BindsTo.of_eq rfl | exact binds_K (by k_in) rfl (by k_is) rfl rfl rfl | fail "k_enter: no rule for these arguments"); (case kB => exact rfl); (case kD => decide +kernel); (case c2 => exact rfl); (case c3 => exact rfl); (case c4 => exact rfl); k_whole; intro z9g z9L z9h z9tk z9cells z9FG z9F z9N z9Y z9B z9X z9T z9l1; (try k_lt z9l1); k_cells z9Y; (try simp only [List.cons_append, List.nil_append] at z9N); (try dsimp only); (try k_lift z9B); (try k_fold)) | cell_enter)
  rename_i g1 L1 hh1 FG1 FF1 NN1 B1 X1 T1
  (repeat' (first | (with_reducible refine if_ff ?_) | (with_reducible refine if_tt ?_) | (k_unfold; (try dsimp only)) | (k_end; wrow_close) | (cell_step; walk1) | (cell_step; dsimp only; walk1) | (leave1; walk_say "STEP leave1"; try dsimp only) | fail "no step"))
  rename_i q _ _ _ lq
  k_dflt (refine' ci_make ?vF ?vN ?vq ?_; (case vF => k_asm); (case vN => k_asm); (case vq => k_mem))
  intro I hI F8 N8 lI
  simp only [topA_nil, topA_cons, topA_app, Nat.max_le, Nat.zero_le, true_and, and_true] at lI
  rw [empty_is] at N8
  (try dsimp only)
  (repeat' (first | (with_reducible refine if_ff ?_) | (with_reducible refine if_tt ?_) | (k_unfold; (try dsimp only)) | (k_end; wrow_close) | (cell_step; walk1) | (cell_step; dsimp only; walk1) | (leave1; walk_say "STEP leave1"; try dsimp only) | fail "no step"))
  with_unfolding_all refine' owit_for ?_
  (repeat' (first | (with_reducible refine if_ff ?_) | (with_reducible refine if_tt ?_) | (k_unfold; (try dsimp only)) | (k_end; wrow_close) | (cell_step; walk1) | (cell_step; dsimp only; walk1) | (leave1; walk_say "STEP leave1"; try dsimp only) | fail "no step"))
  rename Fr _ _ _ _ => F9
  rename News _ _ _ _ => N9
  refine ci_iter (N9 _ (.head _)).1 ?_
  have hoff : OwnOff rest [P.G, P.dX] := hr
  have lI1 : @LT.lt Nat _ P.PB I := by omega
  have lq1 : @LT.lt Nat _ P.PB q := by omega
  refine OwitAt.intro ?_
  obtain ⟨TOT, hTOT⟩ : ∃ z, z = line + cnt (pre0 ++ 34 :: (esc word ++ 34 :: rcs)) := ⟨_, rfl⟩
  refine owit_abs (fun Q1 hQ1 => ?_)
  refine owit_ind (TokInv w P rest s I q g1 L1 pe TOT (fun pre => pre ++ 34 :: (esc word ++ 34 :: rcs))) ?zo ?so 64 _ ?io
  case zo => rintro s' ⟨_, _, _, _, _, _, _, _, _, _, hz, _⟩; exact Nat.not_lt_zero _ hz
  case io =>
    exact ⟨_, _, _, pre0, sg, line, tl, ep, _, rfl, by rcases hpre with rfl | rfl <;> simp, hpre, hsg, hs, hc, hTOT.symm, F9, ⟨⟨rfl, rfl, trivial⟩, _, congrArg (fun z => some (Value.str z _)) (show Str.ofString "" = tx [] from by decide +kernel)⟩, N9⟩
  case so =>
  rintro n0 s' ⟨h9, tk9, m9, pre, sg9, line9, tl9, ep9, ts9, rfl, hpn, hpe, hsg9, hs9, hc9, hcn9, F9', ⟨⟨hm1, hm2, _⟩, tt9, hm3⟩, N9'⟩
  have hM9 : Has m9 [(Str.ofString "self", .ref P.X), (Str.ofString "fiter", .ref I), (Str.ofString "token", .str (tx []) tt9)] := ⟨hm1, hm2, hm3, trivial⟩
  clear hsg hs hc
  try clear F9
  try clear N9
  rcases hpe with rfl | rfl
  rotate_left
  · rw [List.singleton_append] at hsg9 hs9 hc9 hcn9
    rw [List.map_cons] at hsg9
    cases hsg9 with
    | cons _ tc hsg1 =>
    rename_i sg1
    rw [List.length_cons] at hs9
    refine next_char w P O rest I q ts9 line9 tl9 [] pe 10 tc sg1 (34 :: (esc word ++ 34 :: rcs)) ep9 hoff lI1 lq1 hsg1 (by omega) (by decide) (fun x hx => hc9 x (.tail _ hx)) B1 F9' X1 N9' T1 C1 C2 C3 rfl (by ktr_room) (by ktr_units) ?_
    intro h1 tk1 tl1 ep1 F1 N1
    rw [if_pos rfl] at N1
    have F5 := fr_all0 hM9 F1
    clear F1 F9' N9'
    dsimp only [OwitTurn]
    simp only [LexL, List.cons_append, List.nil_append] at N1
    (repeat' (first | (with_reducible refine if_ff ?_) | (with_reducible refine if_tt ?_) | (k_unfold; (try dsimp only)) | (k_end; wrow_close) | (cell_step; walk1) | (cell_step; dsimp only; walk1) | (leave1; walk_say "STEP leave1"; try dsimp only) | fail "no step"))
    all_goals first | (exfalso; rename ((Builtin.Str.occurrences _ _ _ _ _).isEmpty = true) => hz; revert hz; decide +kernel; done) | skip
    rename Fr _ _ _ _ => FZ
    rename News _ _ _ _ => NZ
    rw [cnt_cons, if_pos rfl] at hcn9
    exact Hold.mk ⟨_, _, _, [], sg1, line9 + 1, tl1, ep1, ts9, rfl, by simp only [List.length_cons, List.length_nil] at hpn ⊢; omega, .inl rfl, hsg1, by rw [List.nil_append]; omega, fun x hx => hc9 x (.tail _ hx), by rw [List.nil_append]; omega, FZ, ⟨⟨rfl, rfl, trivial⟩, tt9, rfl⟩, NZ⟩
  rw [List.nil_append] at hsg9 hs9 hc9 hcn9
  rw [List.map_cons] at hsg9
  cases hsg9 with
  | cons _ tc hsg1 =>
  rename_i sg1
  rw [List.length_cons] at hs9
  refine next_char w P O rest I q ts9 line9 tl9 [] pe 34 tc sg1 (esc word ++ 34 :: rcs) ep9 hoff lI1 lq1 hsg1 (by omega) (by decide) (fun x hx => hc9 x (.tail _ hx)) B1 F9' X1 N9' T1 C1 C2 C3 rfl (by ktr_room) (by ktr_units) ?_
  intro h1 tk1 tl1 ep1 F1 N1
  rw [if_neg (by decide)] at N1
  have F5 := fr_all0 hM9 F1
  clear F1 F9' N9'
  simp only [LexL, List.cons_append, List.nil_append] at N1
  dsimp only [OwitTurn]
  (repeat' (first | (with_reducible refine if_ff ?_) | (with_reducible refine if_tt ?_) | (k_unfold; (try dsimp only)) | (k_end; wrow_close) | (cell_step; walk1) | (cell_step; dsimp only; walk1) | (leave1; walk_say "STEP leave1"; try dsimp only) | fail "no step"))
  all_goals first | (exfalso; rename ((Builtin.Str.occurrences _ _ _ _ _).isEmpty = false) => hz; revert hz; decide +kernel; done) | skip
  rename News _ _ _ _ => N2
  rename Fr _ _ _ _ => F2
  with_unfolding_all refine' owit_for ?_
  (repeat' (first | (with_reducible refine if_ff ?_) | (with_reducible refine if_tt ?_) | (k_unfold; (try dsimp only)) | (k_end; wrow_close) | (cell_step; walk1) | (cell_step; dsimp only; walk1) | (leave1; walk_say "STEP leave1"; try dsimp only) | fail "no step"))
  refine ci_iter (N2 _ (.head _)).1 ?_
  refine OwitAt.intro ?_
  try clear F5
  refine owit_abs (fun Q2 hQ2 => ?_)
  refine owit_ind (TokInv2 w P rest s I q g1 L1 pe TOT (word) (fun w2 => esc w2 ++ 34 :: rcs)) ?zero ?step 64 _ ?init
  case zero => rintro s' ⟨_, _, _, _, _, _, _, _, _, _, _, hz, _⟩; exact Nat.not_lt_zero _ hz
  case init =>
    exact ⟨_, _, _, word, [], sg1, line9, tl1, ep1, ts9, rfl, by omega, rfl, hsg1, by omega, fun x hx => hc9 x (.tail _ hx), by rw [cnt_cons, if_neg (by decide), Int.zero_add] at hcn9; exact hcn9, F2, ⟨⟨rfl, rfl, trivial⟩, tt9, rfl⟩, N2⟩
  case step =>
    rintro n s' ⟨h3, tk3, m3, w2, dn, sg2, line2, tl2, ep2, ts, rfl, hwn, hwd, hsg2, hl2, hc2, hcn, F3, ⟨⟨hM1, hM2, _⟩, tt, hM3⟩, N3⟩
    have hM : Has m3 [(Str.ofString "self", .ref P.X), (Str.ofString "fiter", .ref I), (Str.ofString "token", .str (tx dn) tt)] := ⟨hM1, hM2, hM3, trivial⟩
    try clear F9
    try clear N9
    try clear F1
    try clear N1
    try clear F2
    try clear N2
    cases w2 with
    | nil =>
      have e0 : esc [] ++ 34 :: rcs = 34 :: rcs := rfl
      rw [e0] at hsg2 hl2 hc2 hcn
      rw [List.map_cons] at hsg2
      cases hsg2 with
      | cons _ tc2 hsg3 =>
      rename_i sg3
      rw [List.length_cons] at hl2
      refine next_char w P O rest I q ts line2 tl2 [] pe 34 tc2 sg3 rcs ep2 hoff lI1 lq1 hsg3 (by omega) (by decide) (fun x hx => hc2 x (.tail _ hx)) B1 F3 X1 N3 T1 C1 C2 C3 rfl (by ktr_room) (by ktr_units) ?_
      intro h4 tk4 tl4 ep4 F4 N4
      rw [if_neg (by decide)] at N4
      have F5 := fr_all0 hM F4
      clear F3 F4
      dsimp only [OwitTurn]
      simp only [LexL, List.cons_append, List.nil_append] at N4
      (repeat' (first | (with_reducible refine if_ff ?_) | (with_reducible refine if_tt ?_) | (k_unfold; (try dsimp only)) | (k_end; wrow_close) | (cell_step; walk1) | (cell_step; dsimp only; walk1) | (leave1; walk_say "STEP leave1"; try dsimp only) | fail "no step"))
      rw [hQ2]
      (try dsimp only)
      rw [hQ1]
      (try dsimp only)
      (repeat' (first | (with_reducible refine if_ff ?_) | (with_reducible refine if_tt ?_) | (k_unfold; (try dsimp only)) | (k_end; wrow_close) | (cell_step; walk1) | (cell_step; dsimp only; walk1) | (leave1; walk_say "STEP leave1"; try dsimp only) | fail "no step"))
      rename Fr h₀ L _ _ => F1
      rename News h₀ L _ _ => N1
      have hdn : dn = word := by rw [hwd, List.append_nil]
      rw [cnt_cons, if_neg (by decide), Int.zero_add] at hcn
      exact hret _ _ _ (LexL w P line2 tl4 [] pe sg3 ep4 ++ rest) F1 (news_tail (news_tail N1)) ⟨tt, line2, tl4, sg3, ep4, congrArg (fun z => Value.str (tx z) tt) hdn, rfl, hsg3, hcn.trans hTOT⟩
    | cons c w3 =>
      have off2 := off2_of (I := I) (q := q) (a := ciO (.ref q) (.str Str.empty ts)) (b := methodObj (.ref 91) (.ref P.X)) hoff (by omega) (by omega) (by omega) (by omega)
      have hdl : dn.length ≤ 30 := by
        have := congrArg List.length hwd
        rw [List.length_append] at this
        omega
      by_cases hce : c = 34 ∨ c = 92
      · have e0 : esc (c :: w3) ++ 34 :: rcs = 92 :: c :: (esc w3 ++ 34 :: rcs) := by
          unfold esc
          rw [List.flatMap_cons, if_pos hce]
          rfl
        rw [e0] at hsg2 hl2 hc2 hcn
        rw [List.map_cons, List.map_cons] at hsg2
        cases hsg2 with
        | cons _ tc2 hsg3 =>
        cases hsg3 with
        | cons _ tc3 hsg4 =>
        rename_i sg4
        rw [List.length_cons, List.length_cons] at hl2
        have hc9 : c < 0x110000 := hc2 c (.tail _ (.head _))
        have hc8 : ∀ x ∈ esc w3 ++ 34 :: rcs, x < 0x110000 := fun x hx => hc2 x (.tail _ (.tail _ hx))
        refine next_char w P O rest I q ts line2 tl2 [] pe 92 tc2 (.str (tx [c]) tc3 :: sg4) (c :: (esc w3 ++ 34 :: rcs)) ep2 hoff lI1 lq1 (.cons [c] tc3 hsg4) (by rw [List.length_cons]; omega) (by decide) (fun x hx => hc2 x (.tail _ hx)) B1 F3 X1 N3 T1 C1 C2 C3 rfl (by ktr_room) (by ktr_units) ?_
        intro h4 tk4 tl4 ep4 F4 N4
        rw [if_neg (by decide)] at N4
        have F5 := fr_all0 hM F4
        clear F3 F4
        dsimp only [OwitTurn]
        simp only [LexL, List.cons_append, List.nil_append] at N4
        (repeat' (first | (with_reducible refine if_ff ?_) | (with_reducible refine if_tt ?_) | (k_unfold; (try dsimp only)) | (k_end; wrow_close) | (cell_step; walk1) | (cell_step; dsimp only; walk1) | (leave1; walk_say "STEP leave1"; try dsimp only) | fail "no step"))
        all_goals first | (exfalso; rename ((_ == Str.ofString "\"") = true) => hz; revert hz; decide +kernel; done) | (exfalso; rename ((_ == Str.ofString "\\") = false) => hz; revert hz; decide +kernel; done) | skip
        rename News _ _ _ _ => N6
        have N5 : News g1 L1 _ ((I, ciO (.ref q) (.str Str.empty ts)) :: (q, methodObj (.ref 91) (.ref P.X)) :: (LexL w P line2 tl4 [] pe (.str (tx [c]) tc3 :: sg4) ep4 ++ rest)) := N6
        have N7 := news_perm1 N5
        (refine' tel_use ?tH ?tB ?tF ?tX ?tN ?tT ?tC1 ?tC2 ?tC3 ?tk ?td ?tu ?_; (case tB => k_asm); (case tF => k_asm); (case tX => k_asm); (case tN => k_asm); (case tT => k_asm); (case tC1 => assumption); (case tC2 => assumption); (case tC3 => assumption); (case tk => first | exact rfl | assumption); (case tH => exact (read_char w P O _ line2 tl4 [] pe c tc3 sg4 (esc w3 ++ 34 :: rcs) ep4 off2 hsg4 (by omega) hc9 hc8).tel); (case td => ktr_room); (case tu => ktr_units))
        rintro v9 h9 tk9 news9 F9 N9 ⟨tl9, ep9, rfl, rfl⟩
        have N8 := news_perm2 N9
        clear N9 N7 N5 N6
        simp only [LexL, List.cons_append, List.nil_append] at N8
        (try dsimp only)
        (repeat' (first | (with_reducible refine if_ff ?_) | (with_reducible refine if_tt ?_) | (k_unfold; (try dsimp only)) | (k_end; wrow_close) | (cell_step; walk1) | (cell_step; dsimp only; walk1) | (leave1; walk_say "STEP leave1"; try dsimp only) | fail "no step"))
        rename Fr _ _ _ _ => FZ
        rename News _ _ _ _ => NZ
        have ecn : (if c = 10 then line2 + 1 else line2) + cnt (esc w3 ++ 34 :: rcs) = TOT := by
          rw [cnt_cons, if_neg (by decide), Int.zero_add, cnt_cons] at hcn
          rw [← hcn]
          by_cases h10 : c = 10 <;> simp only [h10, if_true, if_false] <;> omega
        refine Hold.mk ⟨_, _, _, w3, dn ++ [c], sg4, _, tl9, ep9, ts, rfl, by simp only [List.length_cons] at hwn; omega, by rw [hwd, List.append_assoc]; rfl, hsg4, by omega, hc8, ecn, FZ, ⟨⟨rfl, rfl, trivial⟩, _, congrArg (fun z => some (Value.str z _)) (tx_append dn [c])⟩, NZ⟩
      · have hc3 : c ≠ 34 := fun e => hce (.inl e)
        have hc4 : c ≠ 92 := fun e => hce (.inr e)
        have e0 : esc (c :: w3) ++ 34 :: rcs = c :: (esc w3 ++ 34 :: rcs) := by
          unfold esc
          rw [List.flatMap_cons, if_neg hce]
          rfl
        rw [e0] at hsg2 hl2 hc2 hcn
        rw [List.map_cons] at hsg2
        cases hsg2 with
        | cons _ tc3 hsg4 =>
        rename_i sg4
        rw [List.length_cons] at hl2
        have hc9 : c < 0x110000 := hc2 c (.head _)
        have hc8 : ∀ x ∈ esc w3 ++ 34 :: rcs, x < 0x110000 := fun x hx => hc2 x (.tail _ hx)
        refine next_char w P O rest I q ts line2 tl2 [] pe c tc3 sg4 (esc w3 ++ 34 :: rcs) ep2 hoff lI1 lq1 hsg4 (by omega) hc9 hc8 B1 F3 X1 N3 T1 C1 C2 C3 rfl (by ktr_room) (by ktr_units) ?_
        intro h4 tk4 tl4 ep4 F4 N4
        have F5 := fr_all0 hM F4
        clear F3 F4
        dsimp only [OwitTurn]
        simp only [LexL, List.cons_append, List.nil_append] at N4
        (repeat' (first | (with_reducible refine if_ff ?_) | (with_reducible refine if_tt ?_) | (k_unfold; (try dsimp only)) | (k_end; wrow_close) | (cell_step; walk1) | (cell_step; dsimp only; walk1) | (leave1; walk_say "STEP leave1"; try dsimp only) | fail "no step"))
        all_goals first | (exfalso; rename ((_ == Str.ofString "\"") = true) => hz; rw [qt_is] at hz; exact hc3 (one_is.mp (eq_of_beq hz)); done) | (exfalso; rename ((_ == Str.ofString "\\") = true) => hz; rw [bs_is] at hz; exact hc4 (one_is.mp (eq_of_beq hz)); done) | skip
        rename Fr _ _ _ _ => FZ
        rename News _ _ _ _ => NZ
        have ecn : (if c = 10 then line2 + 1 else line2) + cnt (esc w3 ++ 34 :: rcs) = TOT := by
          rw [cnt_cons] at hcn
          rw [← hcn]
          by_cases h10 : c = 10 <;> simp only [h10, if_true, if_false] <;> omega
        exact Hold.mk ⟨_, _, _, w3, dn ++ [c], sg4, _, tl4, ep4, ts, rfl, by simp only [List.length_cons] at hwn; omega, by rw [hwd, List.append_assoc]; rfl, hsg4, by omega, hc8, ecn, FZ, ⟨⟨rfl, rfl, trivial⟩, _, congrArg (fun z => some (Value.str z _)) (tx_append dn [c])⟩, NZ⟩
end Vget_quoted
theorem get_quoted (w : World) (P : LexP) (O : LexOk P) (rest : Led) (line : Int) (tl : Tok) (pe : Nat) (sg : List Value) (word rcs : List Nat) (ep : Nat) (pre0 : List Nat) (hpre : pre0 = [] ∨ pre0 = [10]) (hr : OwnOff rest [P.G, P.dX]) (hsg : TextsAre sg ((pre0 ++ 34 :: (esc word ++ 34 :: rcs)).map fun c => [c])) (hs : (pre0 ++ 34 :: (esc word ++ 34 :: rcs)).length ≤ 1000) (hc : ∀ x ∈ (pre0 ++ 34 :: (esc word ++ 34 :: rcs)), x < 0x110000) (hw : word.length ≤ 30) :
  Tel w 8 400 (.ref 98) [.ref P.X] (LexL w P line tl [] pe sg ep ++ rest) (TokPost w P rest line (pre0 ++ 34 :: (esc word ++ 34 :: rcs)) rcs word [] pe) := tel_of fun z => (show ∀ w P rest line tl pe sg word rcs ep z, Vget_quoted.At0 w P rest line tl pe sg word rcs ep z from (eps1_all (eps1_all (eps1_all (eps1_all (eps1_all (eps1_all (eps1_all (eps1_all (eps1_all (eps1_all (eps1_all @Vget_quoted.aux)))))))))))) w P rest line tl pe sg word rcs ep z O pre0 hpre hr hsg hs hc hw
end
section
namespace Vget_plain
noncomputable def At0 (w : World) (P : LexP) (rest : Led) (line : Int) (tl : Tok) (pe : Nat) (sg : List Value) (c1 : Nat) (w1 : List Nat) (rcs : List Nat) (ep : Nat) (z : TelV) : Prop := ∀ (O : LexOk P) (pre0 : List Nat) (hpre : pre0 = [] ∨ pre0 = [10]) (hr : OwnOff rest [P.G, P.dX]) (hsg : TextsAre sg ((pre0 ++ 92 :: c1 :: (bsl w1 ++ 10 :: rcs)).map fun c => [c])) (hs : (pre0 ++ 92 :: c1 :: (bsl w1 ++ 10 :: rcs)).length ≤ 1000) (hc : ∀ x ∈ (pre0 ++ 92 :: c1 :: (bsl w1 ++ 10 :: rcs)), x < 0x110000) (hw : w1.length ≤ 30), TelAt w 8 400 (.ref 98) [.ref P.X] (LexL w P line tl [] pe sg ep ++ rest) (TokPost w P rest line (pre0 ++ 92 :: c1 :: (bsl w1 ++ 10 :: rcs)) rcs (c1 :: w1) [] pe) z
noncomputable def w : World := eps1 ne_world (fun w => ∀ P rest line tl pe sg c1 w1 rcs ep z, At0 w P rest line tl pe sg c1 w1 rcs ep z)
noncomputable def P : LexP := eps1 ne_lexp (fun P => ∀ rest line tl pe sg c1 w1 rcs ep z, At0 w P rest line tl pe sg c1 w1 rcs ep z)
noncomputable def rest : Led := eps1 ne_led (fun rest => ∀ line tl pe sg c1 w1 rcs ep z, At0 w P rest line tl pe sg c1 w1 rcs ep z)
noncomputable def line : Int := eps1 ne_int (fun line => ∀ tl pe sg c1 w1 rcs ep z, At0 w P rest line tl pe sg c1 w1 rcs ep z)
noncomputable def tl : Tok := eps1 ne_tok (fun tl => ∀ pe sg c1 w1 rcs ep z, At0 w P rest line tl pe sg c1 w1 rcs ep z)
noncomputable def pe : Nat := eps1 ne_nat (fun pe => ∀ sg c1 w1 rcs ep z, At0 w P rest line tl pe sg c1 w1 rcs ep z)
noncomputable def sg : List Value := eps1 ne_list (fun sg => ∀ c1 w1 rcs ep z, At0 w P rest line tl pe sg c1 w1 rcs ep z)
noncomputable def c1 : Nat := eps1 ne_nat (fun c1 => ∀ w1 rcs ep z, At0 w P rest line tl pe sg c1 w1 rcs ep z)
noncomputable def w1 : List Nat := eps1 ne_list (fun w1 => ∀ rcs ep z, At0 w P rest line tl pe sg c1 w1 rcs ep z)
noncomputable def rcs : List Nat := eps1 ne_list (fun rcs => ∀ ep z, At0 w P rest line tl pe sg c1 w1 rcs ep z)
noncomputable def ep : Nat := eps1 ne_nat (fun ep => ∀ z, At0 w P rest line tl pe sg c1 w1 rcs ep z)
noncomputable def v0 : TelV := eps1 telV_ne (fun z => At0 w P rest line tl pe sg c1 w1 rcs ep z)
noncomputable abbrev h₀ := v0.h₀
noncomputable abbrev L := v0.L
noncomputable abbrev s := v0.s
theorem aux (O : LexOk P) (pre0 : List Nat) (hpre : pre0 = [] ∨ pre0 = [10]) (hr : OwnOff rest [P.G, P.dX]) (hsg : TextsAre sg ((pre0 ++ 92 :: c1 :: (bsl w1 ++ 10 :: rcs)).map fun c => [c])) (hs : (pre0 ++ 92 :: c1 :: (bsl w1 ++ 10 :: rcs)).length ≤ 1000) (hc : ∀ x ∈ (pre0 ++ 92 :: c1 :: (bsl w1 ++ 10 :: rcs)), x < 0x110000) (hw : w1.length ≤ 30) :
  TelAt w 8 400 (.ref 98) [.ref P.X] (LexL w P line tl [] pe sg ep ++ rest) (TokPost w P rest line (pre0 ++ 92 :: c1 :: (bsl w1 ++ 10 :: rcs)) rcs (c1 :: w1) [] pe) v0 := by
  intro B F X N T C1 C2 C3 hk hd hu hret
  have O' := O
  obtain ⟨o1, o2, o3, n1, n2, n3, n4, n5, n6, n7, n8, n9⟩ := O'
  simp only [LexL, List.cons_append, List.nil_append] at N
  refine wpAny_call ?_
  k_dflt (first | (refine' code_defC ?k1 ?k2 ?k3 ?k4 ?k5 ?kA ?kF ?kK ?k6 ?k7 ?k8 ?k9 ?kB ?kD ?_ ?c2 ?c3 ?c4; (case kA => exact rfl); (case kF => exact rfl); (case kK => first | exact rfl | assumption); (case k1 => k_asm); (case k2 => k_asm); (case k3 => k_asm); (case k4 => k_asm); (case k5 => k_asm); (case k6 => k_is); (case k7 => k_is); (case k8 => k_room); (case k9 => first | exact BindsTo.of_eq rfl | exact binds_K (by k_in) rfl (by k_is) rfl rfl rfl | fail "k_enter: no rule for these arguments"); (case kB => exact rfl); (case kD => decide +kernel); (case c2 => exact rfl); (case c3 => exact rfl); (case c4 => exact rfl); k_whole; intro z9g z9L z9h z9tk z9cells z9FG z9F z9N z9Y z9B z9X z9T z9l1; (try k_lt z9l1); k_cells z9Y; (try simp only [List.cons_append, List.nil_append] at z9N); (try dsimp only); (try k_lift z9B); (try k_fold)) | cell_enter)
  rename_i g1 L1 hh1 FG1 FF1 NN1 B1 X1 T1
  (repeat' (first | (with_reducible refine if_ff ?_) | (with_reducible refine if_tt ?_) | (k_unfold; (try dsimp only)) | (k_end; wrow_close) | (cell_step; walk1) | (cell_step; dsimp only; walk1) | (leave1; walk_say "STEP leave1"; try dsimp only) | fail "no step"))
  rename_i q _ _ _ lq
  k_dflt (refine' ci_make ?vF ?vN ?vq ?_; (case vF => k_asm); (case vN => k_asm); (case vq => k_mem))
  intro I hI F8 N8 lI
  simp only [topA_nil, topA_cons, topA_app, Nat.max_le, Nat.zero_le, true_and, and_true] at lI
  rw [empty_is] at N8
  (try dsimp only)
  (repeat' (first | (with_reducible refine if_ff ?_) | (with_reducible refine if_tt ?_) | (k_unfold; (try dsimp only)) | (k_end; wrow_close) | (cell_step; walk1) | (cell_step; dsimp only; walk1) | (leave1; walk_say "STEP leave1"; try dsimp only) | fail "no step"))
  with_unfolding_all refine' owit_for ?_
  (repeat' (first | (with_reducible refine if_ff ?_) | (with_reducible refine if_tt ?_) | (k_unfold; (try dsimp only)) | (k_end; wrow_close) | (cell_step; walk1) | (cell_step; dsimp only; walk1) | (leave1; walk_say "STEP leave1"; try dsimp only) | fail "no step"))
  rename Fr _ _ _ _ => F9
  rename News _ _ _ _ => N9
  refine ci_iter (N9 _ (.head _)).1 ?_
  have hoff : OwnOff rest [P.G, P.dX] := hr
  have lI1 : @LT.lt Nat _ P.PB I := by omega
  have lq1 : @LT.lt Nat _ P.PB q := by omega
  refine OwitAt.intro ?_
  obtain ⟨TOT, hTOT⟩ : ∃ z, z = line + cnt (pre0 ++ 92 :: c1 :: (bsl w1 ++ 10 :: rcs)) := ⟨_, rfl⟩
  refine owit_abs (fun Q1 hQ1 => ?_)
  refine owit_ind (TokInv w P rest s I q g1 L1 pe TOT (fun pre => pre ++ 92 :: c1 :: (bsl w1 ++ 10 :: rcs))) ?zo ?so 64 _ ?io
  case zo => rintro s' ⟨_, _, _, _, _, _, _, _, _, _, hz, _⟩; exact Nat.not_lt_zero _ hz
  case io =>
    exact ⟨_, _, _, pre0, sg, line, tl, ep, _, rfl, by rcases hpre with rfl | rfl <;> simp, hpre, hsg, hs, hc, hTOT.symm, F9, ⟨⟨rfl, rfl, trivial⟩, _, congrArg (fun z => some (Value.str z _)) (show Str.ofString "" = tx [] from by decide +kernel)⟩, N9⟩
  case so =>
  rintro n0 s' ⟨h9, tk9, m9, pre, sg9, line9, tl9, ep9, ts9, rfl, hpn, hpe, hsg9, hs9, hc9, hcn9, F9', ⟨⟨hm1, hm2, _⟩, tt9, hm3⟩, N9'⟩
  have hM9 : Has m9 [(Str.ofString "self", .ref P.X), (Str.ofString "fiter", .ref I), (Str.ofString "token", .str (tx []) tt9)] := ⟨hm1, hm2, hm3, trivial⟩
  clear hsg hs hc
  try clear F9
  try clear N9
  rcases hpe with rfl | rfl
  rotate_left
  · rw [List.singleton_append] at hsg9 hs9 hc9 hcn9
    rw [List.map_cons] at hsg9
    cases hsg9 with
    | cons _ tc hsg1 =>
    rename_i sg1
    rw [List.length_cons] at hs9
    refine next_char w P O rest I q ts9 line9 tl9 [] pe 10 tc sg1 (92 :: c1 :: (bsl w1 ++ 10 :: rcs)) ep9 hoff lI1 lq1 hsg1 (by omega) (by decide) (fun x hx => hc9 x (.tail _ hx)) B1 F9' X1 N9' T1 C1 C2 C3 rfl (by ktr_room) (by ktr_units) ?_
    intro h1 tk1 tl1 ep1 F1 N1
    rw [if_pos rfl] at N1
    have F5 := fr_all0 hM9 F1
    clear F1 F9' N9'
    dsimp only [OwitTurn]
    simp only [LexL, List.cons_append, List.nil_append] at N1
    (repeat' (first | (with_reducible refine if_ff ?_) | (with_reducible refine if_tt ?_) | (k_unfold; (try dsimp only)) | (k_end; wrow_close) | (cell_step; walk1) | (cell_step; dsimp only; walk1) | (leave1; walk_say "STEP leave1"; try dsimp only) | fail "no step"))
    all_goals first | (exfalso; rename ((Builtin.Str.occurrences _ _ _ _ _).isEmpty = true) => hz; revert hz; decide +kernel; done) | skip
    rename Fr _ _ _ _ => FZ
    rename News _ _ _ _ => NZ
    rw [cnt_cons, if_pos rfl] at hcn9
    exact Hold.mk ⟨_, _, _, [], sg1, line9 + 1, tl1, ep1, ts9, rfl, by simp only [List.length_cons, List.length_nil] at hpn ⊢; omega, .inl rfl, hsg1, by rw [List.nil_append]; omega, fun x hx => hc9 x (.tail _ hx), by rw [List.nil_append]; omega, FZ, ⟨⟨rfl, rfl, trivial⟩, tt9, rfl⟩, NZ⟩
  rw [List.nil_append] at hsg9 hs9 hc9 hcn9
  rw [List.map_cons] at hsg9
  cases hsg9 with
  | cons _ tc hsg1 =>
  rename_i sg1
  rw [List.length_cons] at hs9
  cases hsg1 with
  | cons _ tc1 hsg0 =>
  rename_i sg0
  rw [List.length_cons] at hs9
  have hc91 : c1 < 0x110000 := hc9 c1 (.tail _ (.head _))
  have hc92 : ∀ x ∈ bsl w1 ++ 10 :: rcs, x < 0x110000 := fun x hx => hc9 x (.tail _ (.tail _ hx))
  refine next_char w P O rest I q ts9 line9 tl9 [] pe 92 tc (.str (tx [c1]) tc1 :: sg0) (c1 :: (bsl w1 ++ 10 :: rcs)) ep9 hoff lI1 lq1 (.cons [c1] tc1 hsg0) (by rw [List.length_cons]; omega) (by decide) (fun x hx => hc9 x (.tail _ hx)) B1 F9' X1 N9' T1 C1 C2 C3 rfl (by ktr_room) (by ktr_units) ?_
  intro h1 tk1 tl1 ep1 F1 N1
  rw [if_neg (by decide)] at N1
  have F5 := fr_all0 hM9 F1
  clear F1 F9' N9'
  simp only [LexL, List.cons_append, List.nil_append] at N1
  dsimp only [OwitTurn]
  (repeat' (first | (with_reducible refine if_ff ?_) | (with_reducible refine if_tt ?_) | (k_unfold; (try dsimp only)) | (k_end; wrow_close) | (cell_step; walk1) | (cell_step; dsimp only; walk1) | (leave1; walk_say "STEP leave1"; try dsimp only) | fail "no step"))
  all_goals first | (exfalso; rename ((Builtin.Str.occurrences _ _ _ _ _).isEmpty = false) => hz; revert hz; decide +kernel; done) | (exfalso; rename ((_ == Str.ofString "\"") = true) => hz; revert hz; decide +kernel; done) | (exfalso; rename ((_ == Str.ofString "\\") = false) => hz; revert hz; decide +kernel; done) | skip
  rename News _ _ _ _ => N6
  have off2' := off2_of (I := I) (q := q) (a := ciO (.ref q) (.str Str.empty ts9)) (b := methodObj (.ref 91) (.ref P.X)) hoff (by omega) (by omega) (by omega) (by omega)
  have N5 : News g1 L1 _ ((I, ciO (.ref q) (.str Str.empty ts9)) :: (q, methodObj (.ref 91) (.ref P.X)) :: (LexL w P line9 tl1 [] pe (.str (tx [c1]) tc1 :: sg0) ep1 ++ rest)) := N6
  have N7 := news_perm1 N5
  (refine' tel_use ?tH ?tB ?tF ?tX ?tN ?tT ?tC1 ?tC2 ?tC3 ?tk ?td ?tu ?_; (case tB => k_asm); (case tF => k_asm); (case tX => k_asm); (case tN => k_asm); (case tT => k_asm); (case tC1 => assumption); (case tC2 => assumption); (case tC3 => assumption); (case tk => first | exact rfl | assumption); (case tH => exact (read_char w P O _ line9 tl1 [] pe c1 tc1 sg0 (bsl w1 ++ 10 :: rcs) ep1 off2' hsg0 (by omega) hc91 hc92).tel); (case td => ktr_room); (case tu => ktr_units))
  rintro v8 h8 tk8 news8 F8 N8 ⟨tl8, ep8, rfl, rfl⟩
  have N0 := news_perm2 N8
  try clear N8
  try clear N7
  try clear N5
  try clear N6
  simp only [LexL, List.cons_append, List.nil_append] at N0
  (try dsimp only)
  (repeat' (first | (with_reducible refine if_ff ?_) | (with_reducible refine if_tt ?_) | (k_unfold; (try dsimp only)) | (k_end; wrow_close) | (cell_step; walk1) | (cell_step; dsimp only; walk1) | (leave1; walk_say "STEP leave1"; try dsimp only) | fail "no step"))
  rename News _ _ _ _ => N2
  rename Fr _ _ _ _ => F2
  with_unfolding_all refine' owit_for ?_
  (repeat' (first | (with_reducible refine if_ff ?_) | (with_reducible refine if_tt ?_) | (k_unfold; (try dsimp only)) | (k_end; wrow_close) | (cell_step; walk1) | (cell_step; dsimp only; walk1) | (leave1; walk_say "STEP leave1"; try dsimp only) | fail "no step"))
  refine ci_iter (N2 _ (.head _)).1 ?_
  refine OwitAt.intro ?_
  try clear F5
  refine owit_abs (fun Q2 hQ2 => ?_)
  refine owit_ind (TokInv2 w P rest s I q g1 L1 pe TOT (c1 :: w1) (fun w2 => bsl w2 ++ 10 :: rcs)) ?zero ?step 64 _ ?init
  case zero => rintro s' ⟨_, _, _, _, _, _, _, _, _, _, _, hz, _⟩; exact Nat.not_lt_zero _ hz
  case init =>
    have ecn : (if c1 = 10 then line9 + 1 else line9) + cnt (bsl w1 ++ 10 :: rcs) = TOT := by
      rw [cnt_cons, if_neg (by decide), Int.zero_add, cnt_cons] at hcn9
      rw [← hcn9]
      by_cases h10 : c1 = 10 <;> simp only [h10, if_true, if_false] <;> omega
    exact ⟨_, _, _, w1, [c1], sg0, _, tl8, ep8, ts9, rfl, by omega, rfl, hsg0, by omega, hc92, ecn, F2, ⟨⟨rfl, rfl, trivial⟩, _, congrArg (fun z => some (Value.str z _)) (tx_append [] [c1])⟩, N2⟩
  case step =>
    rintro n s' ⟨h3, tk3, m3, w2, dn, sg2, line2, tl2, ep2, ts, rfl, hwn, hwd, hsg2, hl2, hc2, hcn, F3, ⟨⟨hM1, hM2, _⟩, tt, hM3⟩, N3⟩
    have hM : Has m3 [(Str.ofString "self", .ref P.X), (Str.ofString "fiter", .ref I), (Str.ofString "token", .str (tx dn) tt)] := ⟨hM1, hM2, hM3, trivial⟩
    try clear F2
    try clear N2
    try clear N0
    try clear F8
    cases w2 with
    | nil =>
      have e0 : bsl [] ++ 10 :: rcs = 10 :: rcs := rfl
      rw [e0] at hsg2 hl2 hc2 hcn
      rw [List.map_cons] at hsg2
      cases hsg2 with
      | cons _ tc2 hsg3 =>
      rename_i sg3
      rw [List.length_cons] at hl2
      refine next_char w P O rest I q ts line2 tl2 [] pe 10 tc2 sg3 rcs ep2 hoff lI1 lq1 hsg3 (by omega) (by decide) (fun x hx => hc2 x (.tail _ hx)) B1 F3 X1 N3 T1 C1 C2 C3 rfl (by ktr_room) (by ktr_units) ?_
      intro h4 tk4 tl4 ep4 F4 N4
      rw [if_pos rfl] at N4
      have F5 := fr_all0 hM F4
      clear F3 F4
      dsimp only [OwitTurn]
      simp only [LexL, List.cons_append, List.nil_append] at N4
      (repeat' (first | (with_reducible refine if_ff ?_) | (with_reducible refine if_tt ?_) | (k_unfold; (try dsimp only)) | (k_end; wrow_close) | (cell_step; walk1) | (cell_step; dsimp only; walk1) | (leave1; walk_say "STEP leave1"; try dsimp only) | fail "no step"))
      all_goals first | (exfalso; rename ((Builtin.Str.occurrences _ _ _ _ _).isEmpty = true) => hz; revert hz; decide +kernel; done) | skip
      rw [hQ2]
      (try dsimp only)
      rw [hQ1]
      (try dsimp only)
      (repeat' (first | (with_reducible refine if_ff ?_) | (with_reducible refine if_tt ?_) | (k_unfold; (try dsimp only)) | (k_end; wrow_close) | (cell_step; walk1) | (cell_step; dsimp only; walk1) | (leave1; walk_say "STEP leave1"; try dsimp only) | fail "no step"))
      rename Fr h₀ L _ _ => F1
      rename News h₀ L _ _ => N1
      have hdn : dn = c1 :: w1 := by rw [hwd, List.append_nil]
      rw [cnt_cons, if_pos rfl] at hcn
      exact hret _ _ _ (LexL w P (line2 + 1) tl4 [] pe sg3 ep4 ++ rest) F1 (news_tail (news_tail N1)) ⟨tt, line2 + 1, tl4, sg3, ep4, congrArg (fun z => Value.str (tx z) tt) hdn, rfl, hsg3, by omega⟩
    | cons c w3 =>
      have off2 := off2_of (I := I) (q := q) (a := ciO (.ref q) (.str Str.empty ts)) (b := methodObj (.ref 91) (.ref P.X)) hoff (by omega) (by omega) (by omega) (by omega)
      have hdl : dn.length ≤ 31 := by
        have := congrArg List.length hwd
        rw [List.length_append, List.length_cons] at this
        omega
      have e0 : bsl (c :: w3) ++ 10 :: rcs = 92 :: c :: (bsl w3 ++ 10 :: rcs) := rfl
      rw [e0] at hsg2 hl2 hc2 hcn
      rw [List.map_cons, List.map_cons] at hsg2
      cases hsg2 with
      | cons _ tc2 hsg3 =>
      cases hsg3 with
      | cons _ tc3 hsg4 =>
      rename_i sg4
      rw [List.length_cons, List.length_cons] at hl2
      have hc9' : c < 0x110000 := hc2 c (.tail _ (.head _))
      have hc8 : ∀ x ∈ bsl w3 ++ 10 :: rcs, x < 0x110000 := fun x hx => hc2 x (.tail _ (.tail _ hx))
      refine next_char w P O rest I q ts line2 tl2 [] pe 92 tc2 (.str (tx [c]) tc3 :: sg4) (c :: (bsl w3 ++ 10 :: rcs)) ep2 hoff lI1 lq1 (.cons [c] tc3 hsg4) (by rw [List.length_cons]; omega) (by decide) (fun x hx => hc2 x (.tail _ hx)) B1 F3 X1 N3 T1 C1 C2 C3 rfl (by ktr_room) (by ktr_units) ?_
      intro h4 tk4 tl4 ep4 F4 N4
      rw [if_neg (by decide)] at N4
      have F5 := fr_all0 hM F4
      clear F3 F4
      dsimp only [OwitTurn]
      simp only [LexL, List.cons_append, List.nil_append] at N4
      (repeat' (first | (with_reducible refine if_ff ?_) | (with_reducible refine if_tt ?_) | (k_unfold; (try dsimp only)) | (k_end; wrow_close) | (cell_step; walk1) | (cell_step; dsimp only; walk1) | (leave1; walk_say "STEP leave1"; try dsimp only) | fail "no step"))
      all_goals first | (exfalso; rename ((Builtin.Str.occurrences _ _ _ _ _).isEmpty = false) => hz; revert hz; decide +kernel; done) | (exfalso; rename ((_ == Str.ofString "\\") = false) => hz; revert hz; decide +kernel; done) | skip
      rename News _ _ _ _ => N6
      have N5 : News g1 L1 _ ((I, ciO (.ref q) (.str Str.empty ts)) :: (q, methodObj (.ref 91) (.ref P.X)) :: (LexL w P line2 tl4 [] pe (.str (tx [c]) tc3 :: sg4) ep4 ++ rest)) := N6
      have N7 := news_perm1 N5
      (refine' tel_use ?tH ?tB ?tF ?tX ?tN ?tT ?tC1 ?tC2 ?tC3 ?tk ?td ?tu ?_; (case tB => k_asm); (case tF => k_asm); (case tX => k_asm); (case tN => k_asm); (case tT => k_asm); (case tC1 => assumption); (case tC2 => assumption); (case tC3 => assumption); (case tk => first | exact rfl | assumption); (case tH => exact (read_char w P O _ line2 tl4 [] pe c tc3 sg4 (bsl w3 ++ 10 :: rcs) ep4 off2 hsg4 (by omega) hc9' hc8).tel); (case td => ktr_room); (case tu => ktr_units))
      rintro v9 h9 tk9 news9 F9 N9 ⟨tl9, ep9, rfl, rfl⟩
      have N8 := news_perm2 N9
      clear N9 N7 N5 N6
      simp only [LexL, List.cons_append, List.nil_append] at N8
      (try dsimp only)
      (repeat' (first | (with_reducible refine if_ff ?_) | (with_reducible refine if_tt ?_) | (k_unfold; (try dsimp only)) | (k_end; wrow_close) | (cell_step; walk1) | (cell_step; dsimp only; walk1) | (leave1; walk_say "STEP leave1"; try dsimp only) | fail "no step"))
      rename Fr _ _ _ _ => FZ
      rename News _ _ _ _ => NZ
      have ecn : (if c = 10 then line2 + 1 else line2) + cnt (bsl w3 ++ 10 :: rcs) = TOT := by
        rw [cnt_cons, if_neg (by decide), Int.zero_add, cnt_cons] at hcn
        rw [← hcn]
        by_cases h10 : c = 10 <;> simp only [h10, if_true, if_false] <;> omega
      exact Hold.mk ⟨_, _, _, w3, dn ++ [c], sg4, _, tl9, ep9, ts, rfl, by simp only [List.length_cons] at hwn; omega, by rw [hwd, List.append_assoc]; rfl, hsg4, by omega, hc8, ecn, FZ, ⟨⟨rfl, rfl, trivial⟩, _, congrArg (fun z => some (Value.str z _)) (tx_append dn [c])⟩, NZ⟩
end Vget_plain
theorem get_plain (w : World) (P : LexP) (O : LexOk P) (rest : Led) (line : Int) (tl : Tok) (pe : Nat) (sg : List Value) (c1 : Nat) (w1 rcs : List Nat) (ep : Nat) (pre0 : List Nat) (hpre : pre0 = [] ∨ pre0 = [10]) (hr : OwnOff rest [P.G, P.dX]) (hsg : TextsAre sg ((pre0 ++ 92 :: c1 :: (bsl w1 ++ 10 :: rcs)).map fun c => [c])) (hs : (pre0 ++ 92 :: c1 :: (bsl w1 ++ 10 :: rcs)).length ≤ 1000) (hc : ∀ x ∈ (pre0 ++ 92 :: c1 :: (bsl w1 ++ 10 :: rcs)), x < 0x110000) (hw : w1.length ≤ 30) :
  Tel w 8 400 (.ref 98) [.ref P.X] (LexL w P line tl [] pe sg ep ++ rest) (TokPost w P rest line (pre0 ++ 92 :: c1 :: (bsl w1 ++ 10 :: rcs)) rcs (c1 :: w1) [] pe) := tel_of fun z => (show ∀ w P rest line tl pe sg c1 w1 rcs ep z, Vget_plain.At0 w P rest line tl pe sg c1 w1 rcs ep z from (eps1_all (eps1_all (eps1_all (eps1_all (eps1_all (eps1_all (eps1_all (eps1_all (eps1_all (eps1_all (eps1_all (eps1_all @Vget_plain.aux))))))))))))) w P rest line tl pe sg c1 w1 rcs ep z O pre0 hpre hr hsg hs hc hw
end
end
section
local macro_rules | `(tactic| cell_step) => `(tactic| (walk_at "s1"; walk_at "s2"; walk_at "t2"))
local macro_rules | `(tactic| walk_at "newList") => `(tactic| walk_at "t3")
local macro_rules | `(tactic| walk_at "newTuple") => `(tactic| walk_at "t4")
section
theorem pushed (w : World) (P : LexP) (O : LexOk P) (rest : Led) (line : Int) (tl : Tok) (x : Str) (t : Tok) (pb : List Value) (pe : Nat) (sg : List Value) (ep : Nat) (hr : ∀ p ∈ rest, p.1 ≠ P.PB) (hl : pb.length ≤ 1000) :
  Tel w 8 400 (.ref 98) [.ref P.X] (LexL w P line tl (.str x t :: pb) pe sg ep ++ rest) (fun v news' => ∃ pe', v = .str x t ∧ news' = LexL w P line tl pb pe' sg ep ++ rest) := by
  intro mean mg mb dp un gd cn cs' ad ccd cl outer A₀ base h₀ L m s Q E B F X N T C1 C2 C3 hk hd hu hret
  obtain ⟨o1, o2, o3, n1, n2, n3, n4, n5, n6, n7, n8, n9⟩ := O
  simp only [LexL, List.cons_append, List.nil_append] at N
  refine wpAny_call ?_
  k_dflt (first | (refine' code_defC ?k1 ?k2 ?k3 ?k4 ?k5 ?kA ?kF ?kK ?k6 ?k7 ?k8 ?k9 ?kB ?kD ?_ ?c2 ?c3 ?c4; (case kA => exact rfl); (case kF => exact rfl); (case kK => first | exact rfl | assumption); (case k1 => k_asm); (case k2 => k_asm); (case k3 => k_asm); (case k4 => k_asm); (case k5 => k_asm); (case k6 => k_is); (case k7 => k_is); (case k8 => k_room); (case k9 => first | exact BindsTo.of_eq rfl | exact binds_K (by k_in) rfl (by k_is) rfl rfl rfl | fail "k_enter: no rule for these arguments"); (case kB => exact rfl); (case kD => decide +kernel); (case c2 => exact rfl); (case c3 => exact rfl); (case c4 => exact rfl); k_whole; intro z9g z9L z9h z9tk z9cells z9FG z9F z9N z9Y z9B z9X z9T z9l1; (try k_lt z9l1); k_cells z9Y; (try simp only [List.cons_append, List.nil_append] at z9N); (try dsimp only); (try k_lift z9B); (try k_fold)) | cell_enter)
  (repeat' (first | (with_reducible refine if_ff ?_) | (with_reducible refine if_tt ?_) | (k_unfold; (try dsimp only)) | (k_end; wrow_close) | (cell_step; walk1) | (cell_step; dsimp only; walk1) | (leave1; walk_say "STEP leave1"; try dsimp only) | fail "no step"))
  k_dflt (refine' pop_first ?vF ?vN ?vU ?vz ?_; (case vF => k_asm); (case vN => k_asm); (case vU => exact .head (pb_off ⟨o1, o2, o3, n1, n2, n3, n4, n5, n6, n7, n8, n9⟩ hr)); (case vz => omega))
  intro h8 F8 N8
  (try dsimp only)
  (repeat' (first | (with_reducible refine if_ff ?_) | (with_reducible refine if_tt ?_) | (k_unfold; (try dsimp only)) | (k_end; wrow_close) | (cell_step; walk1) | (cell_step; dsimp only; walk1) | (leave1; walk_say "STEP leave1"; try dsimp only) | fail "no step"))
  rename Fr h₀ L _ _ => F1
  rename News h₀ L _ _ => N1
  exact hret _ _ _ _ F1 N1 ⟨_, rfl, rfl⟩
theorem push (w : World) (P : LexP) (O : LexOk P) (rest : Led) (line : Int) (tl : Tok) (x : Str) (t : Tok) (pb : List Value) (pe : Nat) (sg : List Value) (ep : Nat) (hr : ∀ p ∈ rest, p.1 ≠ P.PB) (hl : pb.length ≤ 1000) :
  Tel w 8 400 (.ref 105) [.ref P.X, .str x t] (LexL w P line tl pb pe sg ep ++ rest) (fun v news' => ∃ pe', v = .none ∧ news' = LexL w P line tl (pb ++ [.str x t]) pe' sg ep ++ rest) := by
  intro mean mg mb dp un gd cn cs' ad ccd cl outer A₀ base h₀ L m s Q E B F X N T C1 C2 C3 hk hd hu hret
  obtain ⟨o1, o2, o3, n1, n2, n3, n4, n5, n6, n7, n8, n9⟩ := O
  simp only [LexL, List.cons_append, List.nil_append] at N
  refine wpAny_call ?_
  k_dflt (first | (refine' code_defC ?k1 ?k2 ?k3 ?k4 ?k5 ?kA ?kF ?kK ?k6 ?k7 ?k8 ?k9 ?kB ?kD ?_ ?c2 ?c3 ?c4; (case kA => exact rfl); (case kF => exact rfl); (case kK => first | exact rfl | assumption); (case k1 => k_asm); (case k2 => k_asm); (case k3 => k_asm); (case k4 => k_asm); (case k5 => k_asm); (case k6 => k_is); (case k7 => k_is); (case k8 => k_room); (case k9 => first | exact BindsTo.of_eq rfl | exact binds_K (by k_in) rfl (by k_is) rfl rfl rfl | fail "k_enter: no rule for these arguments"); (case kB => exact rfl); (case kD => decide +kernel); (case c2 => exact rfl); (case c3 => exact rfl); (case c4 => exact rfl); k_whole; intro z9g z9L z9h z9tk z9cells z9FG z9F z9N z9Y z9B z9X z9T z9l1; (try k_lt z9l1); k_cells z9Y; (try simp only [List.cons_append, List.nil_append] at z9N); (try dsimp only); (try k_lift z9B); (try k_fold)) | cell_enter)
  (repeat' (first | (with_reducible refine if_ff ?_) | (with_reducible refine if_tt ?_) | (k_unfold; (try dsimp only)) | (k_end; wrow_close) | (cell_step; walk1) | (cell_step; dsimp only; walk1) | (leave1; walk_say "STEP leave1"; try dsimp only) | fail "no step"))
  rename Fr _ _ _ _ => F8
  rename News _ _ _ _ => N8
  k_dflt (refine' append_K F8 N8 (.head ?U) ?_ ?z; (case U => exact pb_off ⟨o1, o2, o3, n1, n2, n3, n4, n5, n6, n7, n8, n9⟩ hr); (case z => simp [sizeLine]; omega))
  intro h11 F11 N11
  (try dsimp only)
  (repeat' (first | (with_reducible refine if_ff ?_) | (with_reducible refine if_tt ?_) | (k_unfold; (try dsimp only)) | (k_end; wrow_close) | (cell_step; walk1) | (cell_step; dsimp only; walk1) | (leave1; walk_say "STEP leave1"; try dsimp only) | fail "no step"))
  rename Fr h₀ L _ _ => F1
  rename News h₀ L _ _ => N1
  (try simp only [List.push_toArray] at N1)
  exact hret _ _ _ _ F1 N1 ⟨_, rfl, rfl⟩
end
end
section
local macro_rules | `(tactic| cell_step) => `(tactic| (walk_at "s1"; walk_at "t1"))
section
theorem wpAny_toksge {α : Type} {M : Model} {A : Around} {t : Sem α} {Q : α → Shared → Prop} {E : Value → Shared → Prop} {s : Shared} (n : Nat) (hn : n ≤ s.toks) (h : wpAny M A t (fun a s' => n ≤ s'.toks → Q a s') (fun e s' => n ≤ s'.toks → E e s') s) : wpAny M A t Q E s := fun Γ p hΓ =>
  Sem.wp_mono M Γ t (fun _ _ _ h' => h'.2 h'.1) (fun _ _ _ h' => h'.2 h'.1) p s (Sem.wp_toks M Γ n t _ _ p s hn (h Γ p hΓ))
noncomputable def subst (c : Nat) (z : List Nat) (l : List Nat) : List Nat := l.flatMap fun d => if d = c then z else [d]
theorem subst_append (c : Nat) (z a b : List Nat) : subst c z (a ++ b) = subst c z a ++ subst c z b := List.flatMap_append ..
theorem subst_free (c : Nat) (z : List Nat) : ∀ l : List Nat, c ∉ l → subst c z l = l
  | [], _ => rfl
  | k :: r, h => by
    have h1 : ¬ k = c := fun e => h (e ▸ List.mem_cons_self ..)
    have h2 : c ∉ r := fun m => h (List.mem_cons_of_mem _ m)
    have ih := subst_free c z r h2
    unfold subst at ih ⊢
    rw [List.flatMap_cons, if_neg h1, ih]
    rfl
theorem subst_join (c : Nat) (z : List Nat) : ∀ parts : List Str, (∀ p ∈ parts, c ∉ p.cps.toList) → subst c z (Str.join (tx [c]) parts).cps.toList = (Str.join (tx z) parts).cps.toList
  | [], _ => rfl
  | [p], h => subst_free c z _ (h p (List.mem_singleton.mpr rfl))
  | p :: q :: r, h => by
    have ih := subst_join c z (q :: r) fun a ha => h a (List.mem_cons_of_mem _ ha)
    show subst c z (p ++ tx [c] ++ Str.join (tx [c]) (q :: r)).cps.toList = (p ++ tx z ++ Str.join (tx z) (q :: r)).cps.toList
    simp only [Str.cps_append, Array.toList_append]
    rw [subst_append, subst_append, ih, subst_free c z _ (h p (List.mem_cons_self ..))]
    have e : subst c z [c] = z := by simp [subst]
    show p.cps.toList ++ subst c z [c] ++ _ = _
    rw [e]
theorem replace_is (c : Nat) (z w : List Nat) : Txt.replace (tx w) (tx [c]) (tx z) = tx (subst c z w) := by
  have h1 := subst_join c z (Txt.split (tx w) ⟨#[c]⟩) (StrLaws.split_free (tx w) c)
  have h2 : Str.join (tx [c]) (Txt.split (tx w) ⟨#[c]⟩) = tx w := StrLaws.join_split (tx w) ⟨#[c]⟩
  rw [h2] at h1
  rw [show Txt.replace (tx w) (tx [c]) (tx z) = Str.join (tx z) (Txt.split (tx w) ⟨#[c]⟩) from StrLaws.replace_one (tx w) (tx z) c]
  have h3 : (tx w).cps.toList = w := by simp
  rw [h3] at h1
  generalize Str.join (tx z) (Txt.split (tx w) ⟨#[c]⟩) = J at *
  obtain ⟨⟨J⟩⟩ := J
  simp only at h1
  rw [h1]
theorem esc_is (w : List Nat) : subst 34 [92, 34] (subst 92 [92, 92] w) = esc w := by
  induction w with
  | nil => rfl
  | cons c r ih =>
    have e1 : subst 92 [92, 92] (c :: r) = (if c = 92 then [92, 92] else [c]) ++ subst 92 [92, 92] r := by unfold subst; rw [List.flatMap_cons]
    have e2 : esc (c :: r) = (if c = 34 ∨ c = 92 then [92, c] else [c]) ++ esc r := by unfold esc; rw [List.flatMap_cons]
    rw [e1, subst_append, ih, e2]
    congr 1
    by_cases h1 : c = 92
    · subst h1; rfl
    · by_cases h2 : c = 34
      · subst h2; rfl
      · simp [h1, h2, Mine.subst]
theorem subst_length (c a b : Nat) (l : List Nat) : (subst c [a, b] l).length ≤ 2 * l.length := by
  induction l with
  | nil => simp [subst]
  | cons k r ih =>
    have e1 : subst c [a, b] (k :: r) = (if k = c then [a, b] else [k]) ++ subst c [a, b] r := by unfold subst; rw [List.flatMap_cons]
    rw [e1, List.length_append, List.length_cons]
    split <;> simp only [List.length_cons, List.length_nil] <;> omega
theorem bb_is : Str.ofString "\\\\" = tx [92, 92] := by decide +kernel
theorem bq_is : Str.ofString "\\\"" = tx [92, 34] := by decide +kernel
theorem qn_is : Str.ofString "\"\n" = tx [34, 10] := by decide +kernel
namespace Vspelled_q
noncomputable def At0 (w : World) (rest : Led) (word : List Nat) (t : Tok) (zvv : TelV) : Prop := ∀ (hw : word.length ≤ 30), TelAt w 2 100 (.ref 129) [.str (tx word) t, .bool true] rest (fun v news' => ∃ t', v = .str (tx (34 :: (esc word ++ [34, 10]))) t' ∧ news' = rest) zvv
noncomputable def w : World := eps1 ne_world (fun w => ∀ rest word t zvv, At0 w rest word t zvv)
noncomputable def rest : Led := eps1 ne_led (fun rest => ∀ word t zvv, At0 w rest word t zvv)
noncomputable def word : List Nat := eps1 ne_list (fun word => ∀ t zvv, At0 w rest word t zvv)
noncomputable def t : Tok := eps1 ne_tok (fun t => ∀ zvv, At0 w rest word t zvv)
noncomputable def v0 : TelV := eps1 telV_ne (fun zvv => At0 w rest word t zvv)
noncomputable abbrev h₀ := v0.h₀
noncomputable abbrev L := v0.L
theorem aux (hw : word.length ≤ 30) :
  TelAt w 2 100 (.ref 129) [.str (tx word) t, .bool true] rest (fun v news' => ∃ t', v = .str (tx (34 :: (esc word ++ [34, 10]))) t' ∧ news' = rest) v0 := by
  intro B F X N T C1 C2 C3 hk hd hu hret
  refine wpAny_call ?_
  k_dflt (first | (refine' code_defC ?k1 ?k2 ?k3 ?k4 ?k5 ?kA ?kF ?kK ?k6 ?k7 ?k8 ?k9 ?kB ?kD ?_ ?c2 ?c3 ?c4; (case kA => exact rfl); (case kF => exact rfl); (case kK => first | exact rfl | assumption); (case k1 => k_asm); (case k2 => k_asm); (case k3 => k_asm); (case k4 => k_asm); (case k5 => k_asm); (case k6 => k_is); (case k7 => k_is); (case k8 => k_room); (case k9 => first | exact BindsTo.of_eq rfl | exact binds_K (by k_in) rfl (by k_is) rfl rfl rfl | fail "k_enter: no rule for these arguments"); (case kB => exact rfl); (case kD => decide +kernel); (case c2 => exact rfl); (case c3 => exact rfl); (case c4 => exact rfl); k_whole; intro z9g z9L z9h z9tk z9cells z9FG z9F z9N z9Y z9B z9X z9T z9l1; (try k_lt z9l1); k_cells z9Y; (try simp only [List.cons_append, List.nil_append] at z9N); (try dsimp only); (try k_lift z9B); (try k_fold)) | cell_enter)
  (repeat' (first | (with_reducible refine wpAny_execs_cons ?_) | (with_reducible refine wpAny_execs_nil ?_) | (k_unfold; (try dsimp only)) | (k_end; wrow_close) | (cell_step; walk1) | (cell_step; dsimp only; walk1) | (leave1; walk_say "STEP leave1"; try dsimp only) | fail "no step"))
  refine wpAny_toksge 1 (by first | omega | (simp; done) | (simp; omega)) ?_
  refine SC.replaceW (by first | omega | (simp; done) | (simp; omega)) (by first | omega | (simp; done) | (simp; omega)) (by first | omega | (simp; done) | (simp; omega)) (by decide +kernel) (by simp [Str.length]; omega) (by decide +kernel) ?_
  intro t1 k1 hk1
  (try dsimp only)
  (repeat' (first | (with_reducible refine wpAny_execs_cons ?_) | (with_reducible refine wpAny_execs_nil ?_) | (k_unfold; (try dsimp only)) | (k_end; wrow_close) | (cell_step; walk1) | (cell_step; dsimp only; walk1) | (leave1; walk_say "STEP leave1"; try dsimp only) | fail "no step"))
  have hl1 : Txt.replace (tx word) (Str.ofString "\\") (Str.ofString "\\\\") = tx (subst 92 [92, 92] word) := by rw [bs_is, bb_is, replace_is]
  rw [hl1]
  have hs1 := subst_length 92 92 92 word
  refine SC.replaceW (by have hk2 : 1 ≤ k1 := hk1; show k1 ≠ 0; omega) (by show k1 + 1 ≠ 0; omega) (by show k1 ≠ k1 + 1; omega) (by decide +kernel) (by simp [Str.length]; omega) (by decide +kernel) ?_
  intro t2 k2
  (try dsimp only)
  have hl2 : Txt.replace (tx (subst 92 [92, 92] word)) (Str.ofString "\"") (Str.ofString "\\\"") = tx (esc word) := by rw [qt_is, bq_is, replace_is, esc_is]
  rw [hl2]
  have hel : (esc word).length ≤ 120 := by rw [← esc_is]; have := subst_length 34 92 34 (subst 92 [92, 92] word); omega
  refine PyProof.Rows.add_str (hsz := by rw [qt_is]; simp [Str.length, sizeLine]; omega) ?_
  intro t3 k3
  (try dsimp only)
  rw [qt_is, tx_append]
  (repeat' (first | (with_reducible refine wpAny_execs_cons ?_) | (with_reducible refine wpAny_execs_nil ?_) | (k_unfold; (try dsimp only)) | (k_end; wrow_close) | (cell_step; walk1) | (cell_step; dsimp only; walk1) | (leave1; walk_say "STEP leave1"; try dsimp only) | fail "no step"))
  refine PyProof.Rows.add_str (hsz := by rw [qn_is]; simp [Str.length, sizeLine]; omega) ?_
  intro t4 k4
  (try dsimp only)
  rw [qn_is, tx_append]
  (repeat' (first | (with_reducible refine wpAny_execs_cons ?_) | (with_reducible refine wpAny_execs_nil ?_) | (k_unfold; (try dsimp only)) | (k_end; wrow_close) | (cell_step; walk1) | (cell_step; dsimp only; walk1) | (leave1; walk_say "STEP leave1"; try dsimp only) | fail "no step"))
  rename Fr h₀ L _ _ => F1
  rename News h₀ L _ _ => N1
  exact hret _ _ _ _ F1 N1 ⟨_, congrArg (fun z => Value.str (tx z) _) (by simp), rfl⟩
end Vspelled_q
theorem spelled_q (w : World) (rest : Led) (word : List Nat) (t : Tok) (hw : word.length ≤ 30) :
  Tel w 2 100 (.ref 129) [.str (tx word) t, .bool true] rest (fun v news' => ∃ t', v = .str (tx (34 :: (esc word ++ [34, 10]))) t' ∧ news' = rest) := tel_of fun zvv => (show ∀ w rest word t zvv, Vspelled_q.At0 w rest word t zvv from (eps1_all (eps1_all (eps1_all (eps1_all (eps1_all @Vspelled_q.aux)))))) w rest word t zvv hw
end
section
theorem tx_empty {word : List Nat} (hne : word ≠ []) : ¬ (tx word == Str.ofString "") = true := fun h => by
  have e := eq_of_beq h
  have e2 : (tx word).cps.toList = [] := by rw [e]; rfl
  have e3 : (tx word).cps.toList = word := by simp
  exact hne (e3 ▸ e2)
theorem texts_paired {f : Nat → List Nat} : ∀ {vs : List Value} {ys : List Value} {l : List Nat}, TextsAre vs (l.map fun c => [c]) → Paired (fun v r => ∃ c u t, v = .str (tx [c]) u ∧ r = .str (tx (f c)) t) vs ys → TextsAre ys (l.map f)
  | [], [], [], _, _ => .nil
  | v :: vs, y :: ys, c :: l, h, k => by
    cases k with
    | cons k1 k2 =>
      rw [List.map_cons] at h ⊢
      generalize hq : [c] = q at h
      cases h with
      | cons w' t' h' =>
        obtain ⟨c', u, t, e, rfl⟩ := k1
        injection e with e1 e2
        have e3 := tx_inj.mp e1
        rw [← hq] at e3
        injection e3 with e4
        subst e4
        exact .cons _ _ (texts_paired h' k2)
  | [], _ :: _, _, _, k => by cases k
  | _ :: _, [], _, _, k => by cases k
  | [], _, _ :: _, h, _ => by cases h
  | _ :: _, _, [], h, _ => by cases h
section
variable {prog : Program} {w : World} {A : Around} {E : Value → Shared → Prop} {s₁ : Shared} {h₀ : Heap} {L : Addr} {m : Str → Option Value} {news : Led}
theorem comp_text {env : Env} {elt : Expr} {x : Str} {scope : Scope} {Q : Value → Shared → Prop} {word : List Nat} {t : Tok} (f : Nat → List Nat)
    (hh : A.handled = none) (F : Fr h₀ L s₁.heap m) (N : News h₀ L s₁.heap news)
    (g2 : ∀ C c u s₂ m₂ E', s₂.heap.Ns (compEnv scope C env).locals m₂ → m₂ x = some (.str (tx [c]) u) → s₁.toks ≤ s₂.toks → wpAny (model prog w) A (eval elt (compEnv scope C env)) (fun r s₃ => (∃ t, r = .str (tx (f c)) t) ∧ Keeps s₂ s₃) E' s₂)
    (g3 : ∀ D (ys : List Value) h' tk, Fr h₀ L h' m → News h₀ L h' news → h₀.get? D = none → NewPlain h' news D ys.toArray → TextsAre ys (word.map f) → Q (.ref D) { s₁ with heap := h', toks := tk }) (hsz : word.length ≤ sizeLine) :
    wpAny (model prog w) A (pyIter (.str (tx word) t)) (CompPost prog w A env scope x [] elt Q) E s₁ := by
  unfold CompPost
  refine wpAny_pyIter_str fun o St W hst => ?_
  have up : ∀ (h' : Heap), (∀ b o', b ∉ [s₁.heap.objs.size] → (s₁.heap.push o).get? b = some o' → h'.get? b = some o') → ∀ b o', s₁.heap.get? b = some o' → h'.get? b = some o' :=
    fun h' hk b o' e => hk b o' (old_not_new e) (Heap.get?_push_of_some _ e)
  refine ⟨fun _ => true, fun v r => ∃ c u t, v = .str (tx [c]) u ∧ r = .str (tx (f c)) t, s₁.heap.objs.size, [s₁.heap.objs.size], [s₁.heap.objs.size], (tx word).cps.size, SignAt (tx word), St, rfl, W A hh, (by simpa using hsz), hst, ?_, ⟨?_, ?_⟩, ?_⟩
  · intro b hb
    show b < (s₁.heap.push o).objs.size
    rw [Heap.size_push, List.mem_singleton.mp hb]
    exact Nat.lt_succ_self _
  · intro C i v s₃ m₃ E' hP hn hm _ htk
    exact wpAny_pure ⟨rfl, _, _, rfl, fun _ _ e => e⟩
  · intro C i v s₃ m₃ E' hP hp hn hm _ htk
    obtain ⟨c, u, _, rfl⟩ := hP
    exact wpAny_mono (g2 C c u s₃ m₃ E' hn hm htk) (fun r s₄ h₄ => ⟨let ⟨t, e⟩ := h₄.1; ⟨c, u, t, rfl, e⟩, h₄.2⟩) fun _ _ e => e
  · intro D h' tk ys vs hnew hlD hplD hlen hP hF hk
    have e0 : vs.filter (fun _ => true) = vs := List.filter_eq_self.mpr fun _ _ => rfl
    rw [e0] at hF
    have hT := signs_at word vs 0 (fun j v hv => by rw [Nat.zero_add]; exact hP j v hv) (by rw [Nat.zero_add, hlen]; simp)
    refine g3 D ys.toList h' tk (F.keeps (up h' hk)) (N.grown (up h' hk)) ?_ ⟨by rw [Array.toArray_toList]; exact hplD, fun p hp e => by rw [← e, Heap.get?_push_of_some _ (N p hp).1] at hnew; cases hnew⟩ (texts_paired (by simpa using hT) hF)
    cases e : h₀.get? D with
    | none => rfl
    | some o' => rw [Heap.get?_push_of_some _ (F.keep _ _ e)] at hnew; cases hnew
end
theorem texts_strs {vs : List Value} {ws : List (List Nat)} (h : TextsAre vs ws) : StrsAre vs (ws.map tx) := by
  induction h with
  | nil => exact .nil
  | cons w t _ ih => exact .cons _ _ ih
theorem join_tx : ∀ ws : List (List Nat), Txt.join (Str.ofString "") (ws.map tx) = tx ws.flatten
  | [] => by show Str.empty = _; rfl
  | a :: r => by
    have ih := join_tx r
    change Builtin.Str.glued _ _ = _ at ih ⊢
    rw [StrLaws.glued_eq_join] at ih ⊢
    cases r with
    | nil => show tx a = _; simp
    | cons b q =>
      show tx a ++ Str.ofString "" ++ Str.join _ _ = _
      rw [ih, show Str.ofString "" = tx [] by decide +kernel, tx_append, tx_append]
      simp
theorem bsl_len : ∀ word : List Nat, (((word.map fun c => [92, c]).map tx).map (·.length)).sum = 2 * word.length
  | [] => rfl
  | a :: r => by
    have ih := bsl_len r
    rw [List.map_cons, List.map_cons, List.map_cons, List.sum_cons, ih, List.length_cons]
    show 2 + _ = _
    omega
theorem bsl_length : ∀ word : List Nat, (bsl word).length = 2 * word.length
  | [] => rfl
  | a :: r => by
    have ih := bsl_length r
    unfold bsl at ih ⊢
    rw [List.flatMap_cons, List.length_append, ih]
    simp only [List.length_cons, List.length_nil]
    omega
theorem nl_tx : Str.ofString "\n" = tx [10] := by decide +kernel
namespace Vspelled_p
noncomputable def At0 (w : World) (rest : Led) (word : List Nat) (t : Tok) (zvv : TelV) : Prop := ∀ (hw : word.length ≤ 30) (hne : word ≠ []), TelAt w 2 100 (.ref 129) [.str (tx word) t, .bool false] rest (fun v news' => ∃ t', v = .str (tx (bsl word ++ [10])) t' ∧ news' = rest) zvv
noncomputable def w : World := eps1 ne_world (fun w => ∀ rest word t zvv, At0 w rest word t zvv)
noncomputable def rest : Led := eps1 ne_led (fun rest => ∀ word t zvv, At0 w rest word t zvv)
noncomputable def word : List Nat := eps1 ne_list (fun word => ∀ t zvv, At0 w rest word t zvv)
noncomputable def t : Tok := eps1 ne_tok (fun t => ∀ zvv, At0 w rest word t zvv)
noncomputable def v0 : TelV := eps1 telV_ne (fun zvv => At0 w rest word t zvv)
noncomputable abbrev h₀ := v0.h₀
noncomputable abbrev L := v0.L
theorem aux (hw : word.length ≤ 30) (hne : word ≠ []) :
  TelAt w 2 100 (.ref 129) [.str (tx word) t, .bool false] rest (fun v news' => ∃ t', v = .str (tx (bsl word ++ [10])) t' ∧ news' = rest) v0 := by
  intro B F X N T C1 C2 C3 hk hd hu hret
  refine wpAny_call ?_
  k_dflt (first | (refine' code_defC ?k1 ?k2 ?k3 ?k4 ?k5 ?kA ?kF ?kK ?k6 ?k7 ?k8 ?k9 ?kB ?kD ?_ ?c2 ?c3 ?c4; (case kA => exact rfl); (case kF => exact rfl); (case kK => first | exact rfl | assumption); (case k1 => k_asm); (case k2 => k_asm); (case k3 => k_asm); (case k4 => k_asm); (case k5 => k_asm); (case k6 => k_is); (case k7 => k_is); (case k8 => k_room); (case k9 => first | exact BindsTo.of_eq rfl | exact binds_K (by k_in) rfl (by k_is) rfl rfl rfl | fail "k_enter: no rule for these arguments"); (case kB => exact rfl); (case kD => decide +kernel); (case c2 => exact rfl); (case c3 => exact rfl); (case c4 => exact rfl); k_whole; intro z9g z9L z9h z9tk z9cells z9FG z9F z9N z9Y z9B z9X z9T z9l1; (try k_lt z9l1); k_cells z9Y; (try simp only [List.cons_append, List.nil_append] at z9N); (try dsimp only); (try k_lift z9B); (try k_fold)) | cell_enter)
  (repeat' (first | (with_reducible refine wpAny_execs_cons ?_) | (with_reducible refine wpAny_execs_nil ?_) | (k_unfold; (try dsimp only)) | (k_end; wrow_close) | (cell_step; walk1) | (cell_step; dsimp only; walk1) | (leave1; walk_say "STEP leave1"; try dsimp only) | fail "no step"))
  · exact absurd (by assumption) (tx_empty hne)
  rename Fr _ _ _ _ => F'
  rename News _ _ _ _ => N'
  refine comp_text (fun c => [92, c]) (by with_unfolding_all exact rfl) F' N' ?g2 ?g3 (by simp [sizeLine]; omega)
  case g2 =>
    intro C c u s₂ m₂ E' hn hm htk
    (repeat' (first | (with_reducible refine wpAny_execs_cons ?_) | (with_reducible refine wpAny_execs_nil ?_) | (k_unfold; (try dsimp only)) | (k_end; wrow_close) | (cell_step; walk1) | (cell_step; dsimp only; walk1) | (leave1; walk_say "STEP leave1"; try dsimp only) | fail "no step"))
    refine PyProof.Rows.add_str (hsz := by simp [Str.length, sizeLine]; exact Nat.le_of_ble_eq_true rfl) ?_
    intro t8 k8
    (try dsimp only)
    (repeat' (first | (with_reducible refine wpAny_execs_cons ?_) | (with_reducible refine wpAny_execs_nil ?_) | (k_unfold; (try dsimp only)) | (k_end; wrow_close) | (cell_step; walk1) | (cell_step; dsimp only; walk1) | (leave1; walk_say "STEP leave1"; try dsimp only) | fail "no step"))
    exact ⟨_, _, rfl, fun _ _ e => e⟩
  intro D ys h9 tk9 F9 N9 hD hpl hT
  have hl := hpl.1.isList
  (repeat' (first | (with_reducible refine wpAny_execs_cons ?_) | (with_reducible refine wpAny_execs_nil ?_) | (k_unfold; (try dsimp only)) | (k_end; wrow_close) | (cell_step; walk1) | (cell_step; dsimp only; walk1) | (leave1; walk_say "STEP leave1"; try dsimp only) | fail "no step"))
  refine join_list hl (by rw [List.toList_toArray]; exact texts_strs hT) (by rw [bsl_len, List.length_map, List.length_map, show (Str.ofString "").length = 0 from rfl]; omega) ?_
  intro t1 k1
  (try dsimp only)
  rw [join_tx, show (word.map fun c => [92, c]).flatten = bsl word by unfold bsl; rw [List.flatMap_def]]
  have hbl : (bsl word).length = 2 * word.length := bsl_length word
  (repeat' (first | (with_reducible refine wpAny_execs_cons ?_) | (with_reducible refine wpAny_execs_nil ?_) | (k_unfold; (try dsimp only)) | (k_end; wrow_close) | (cell_step; walk1) | (cell_step; dsimp only; walk1) | (leave1; walk_say "STEP leave1"; try dsimp only) | fail "no step"))
  refine PyProof.Rows.add_str (hsz := by rw [nl_tx]; simp [Str.length, sizeLine]; omega) ?_
  intro t4 k4
  (try dsimp only)
  rw [nl_tx, tx_append]
  (repeat' (first | (with_reducible refine wpAny_execs_cons ?_) | (with_reducible refine wpAny_execs_nil ?_) | (k_unfold; (try dsimp only)) | (k_end; wrow_close) | (cell_step; walk1) | (cell_step; dsimp only; walk1) | (leave1; walk_say "STEP leave1"; try dsimp only) | fail "no step"))
  rename Fr h₀ L _ _ => F1
  rename News h₀ L _ _ => N1
  exact hret _ _ _ _ F1 (news_tail N1) ⟨_, rfl, rfl⟩
end Vspelled_p
theorem spelled_p (w : World) (rest : Led) (word : List Nat) (t : Tok) (hw : word.length ≤ 30) (hne : word ≠ []) :
  Tel w 2 100 (.ref 129) [.str (tx word) t, .bool false] rest (fun v news' => ∃ t', v = .str (tx (bsl word ++ [10])) t' ∧ news' = rest) := tel_of fun zvv => (show ∀ w rest word t zvv, Vspelled_p.At0 w rest word t zvv from (eps1_all (eps1_all (eps1_all (eps1_all (eps1_all @Vspelled_p.aux)))))) w rest word t zvv hw hne
end
end
section
local macro_rules | `(tactic| cell_step) => `(tactic| (walk_at "s1"))
section
noncomputable abbrev envL (L : Addr) (fa : Addr) (cd : Value) : Env := envOfC (Str.ofString "law") (fScope (fn 24)) L fa cd
noncomputable abbrev blk (i k : Nat) : List Stmt := ((fBody (fn 24)).drop i).take k
noncomputable def Stg (w : World) (fa : Addr) (cd : Value) (L : Addr) (i k : Nat) (P : Heap → Prop) (m : Str → Option Value) (news : Led) (R : (Str → Option Value) → Led → Prop) : Prop :=
  ∀ (mean : ExcName → Option Value) (mg mb : Str → Option Value) (base : Heap) (s : Shared) (rest : List Stmt) (Q : Flow → Shared → Prop) (E : Value → Shared → Prop),
    Below callerA base [] base → Fr base L s.heap m → (hd01.heap_1 w.params).In base → News base L s.heap news → Top topProg topL mean mg mb base → CodeHd base 135 131 → CodeHd base 48 44 → CodeHd base 41 37 → PassesOwn (model Challenge.rw_ty0035_01.row.prog w) (callerA.deeper (envL L fa cd)) (envL L fa cd) E → P base →
    (∀ h' tk' m' news', Fr base L h' m' → News base L h' news' → R m' news' → wpAny (model Challenge.rw_ty0035_01.row.prog w) (callerA.deeper (envL L fa cd)) (execs rest (envL L fa cd)) Q E { s with heap := h', toks := tk' }) →
    wpAny (model Challenge.rw_ty0035_01.row.prog w) (callerA.deeper (envL L fa cd)) (execs (blk i k ++ rest) (envL L fa cd)) Q E s
noncomputable abbrev sevn : List Nat := [97, 32, 34, 92, 35, 10, 9]
theorem item_sign {i : Int} (h0 : 0 ≤ i) (h : i < 7) : ∃ u, sevn[i.toNat]? = some u ∧ Txt.item (Str.ofString "a \"\\#\n\t") i = tx [u] := by
  have : i = 0 ∨ i = 1 ∨ i = 2 ∨ i = 3 ∨ i = 4 ∨ i = 5 ∨ i = 6 := by omega
  rcases this with rfl | rfl | rfl | rfl | rfl | rfl | rfl <;> exact ⟨_, rfl, by decide +kernel⟩
noncomputable abbrev cells7 (L : Addr) (o1 o2 o3 o4 o5 o6 o7 : Obj) (tabs : Led) : Led := (L + 1 + 1 + 1 + 1 + 1 + 1 + 1, o7) :: (L + 1 + 1 + 1 + 1 + 1 + 1, o6) :: (L + 1 + 1 + 1 + 1 + 1, o5) :: (L + 1 + 1 + 1 + 1, o4) :: (L + 1 + 1 + 1, o3) :: (L + 1 + 1, o2) :: (L + 1, o1) :: tabs
noncomputable abbrev tabs3 : Led := [(131, tabObj #[]), (44, tabObj #[]), (37, tabObj #[])]
noncomputable def offC (L : Addr) (tabs : Led) (D : Addr) : Prop := @Ne Nat (L + 1 + 1 + 1 + 1 + 1 + 1 + 1) D ∧ @Ne Nat (L + 1 + 1 + 1 + 1 + 1 + 1) D ∧ @Ne Nat (L + 1 + 1 + 1 + 1 + 1) D ∧ @Ne Nat (L + 1 + 1 + 1 + 1) D ∧ @Ne Nat (L + 1 + 1 + 1) D ∧ @Ne Nat (L + 1 + 1) D ∧ @Ne Nat (L + 1) D ∧ LCg.Off1 D tabs
theorem off1_of {D : Addr} : ∀ {l : Led}, (∀ p ∈ l, p.1 ≠ D) → LCg.Off1 D l
  | [], _ => trivial
  | p :: l, h => ⟨h p (.head _), off1_of fun q hq => h q (.tail _ hq)⟩
theorem offC_top {L D : Addr} {tabs : Led} (h : @LT.lt Nat _ (L + 7) D) (k : topA tabs ≤ D) : offC L tabs D := by
  have : ∀ i ≤ 7, @Ne Nat (L + i) D := fun i hi => Nat.ne_of_lt (Nat.lt_of_le_of_lt (Nat.add_le_add_left hi L) h)
  exact ⟨this 7 (by omega), this 6 (by omega), this 5 (by omega), this 4 (by omega), this 3 (by omega), this 2 (by omega), this 1 (by omega), off1_of (topA_ne k)⟩
theorem off1_own {D : Addr} : ∀ {l : Led}, LCg.Off1 D l → OwnOff l [D]
  | [], _, p, hp => nomatch hp
  | q :: l, h, p, hp => by
    intro b hb e
    rw [List.mem_singleton.mp hb] at e
    rcases List.mem_cons.mp hp with rfl | hp
    · exact h.1 e
    · exact off1_own h.2 p hp D (List.mem_singleton.mpr rfl) e
section
variable {prog : Program} {w : World} {A : Around} {E : Value → Shared → Prop} {s : Shared} {h₀ : Heap} {L : Addr} {m : Str → Option Value} {news : Led}
theorem cat_lists {l b : Addr} {vs ws : List Value} {Q : Value → Shared → Prop} (F : Fr h₀ L s.heap m) (N : News h₀ L s.heap news) (hl : s.heap.IsList l vs.toArray) (hb : s.heap.IsList b ws.toArray)
    (h : ∀ D h', Fr h₀ L h' m → News h₀ L h' ((D, W.listOf (vs ++ ws).toArray 0) :: news) → topA news ≤ D → Q (.ref D) { s with heap := h' }) (hsz : vs.length + ws.length ≤ sizeLine) :
    wpAny (model prog w) A (binaryOp .Add (.ref l) (.ref b)) Q E s :=
  add_lists (hsz := hsz) F N hl hb fun h' F' N' => h _ h' F' N' (topA_of fun p hp => Heap.lt_size (N p hp).1)
end
theorem ne_mod (p q : Int) (h0 : 0 ≤ q) (h1 : q < 6) : (p % 7).toNat ≠ ((p + 1 + q) % 7).toNat := by
  have : q = 0 ∨ q = 1 ∨ q = 2 ∨ q = 3 ∨ q = 4 ∨ q = 5 := by omega
  have ha := Int.emod_nonneg p (show (7 : Int) ≠ 0 by decide)
  have hb := Int.emod_nonneg (p + 1 + q) (show (7 : Int) ≠ 0 by decide)
  intro e
  have e2 : p % 7 = (p + 1 + q) % 7 := by omega
  rcases this with rfl | rfl | rfl | rfl | rfl | rfl <;> omega
theorem m7 (z : Int) : 0 ≤ z.fmod 7 ∧ z.fmod 7 < 7 := by rw [Int.fmod_eq_emod_of_nonneg _ (by decide)]; omega
theorem m6 (z : Int) : 0 ≤ z.fmod 6 ∧ z.fmod 6 < 6 := by rw [Int.fmod_eq_emod_of_nonneg _ (by decide)]; omega
theorem ne_fmod (p r : Int) : (p.fmod 7).toNat ≠ ((p + 1 + r.fmod 6).fmod 7).toNat := by
  rw [Int.fmod_eq_emod_of_nonneg _ (by decide), Int.fmod_eq_emod_of_nonneg _ (by decide)]
  exact ne_mod _ _ (m6 r).1 (m6 r).2
theorem sevn_inj {i j u : Nat} (h : sevn[i]? = some u) (k : sevn[j]? = some u) : i = j := by
  have hi : i < 7 := (List.getElem?_eq_some_iff.mp h).1
  have hj : j < 7 := (List.getElem?_eq_some_iff.mp k).1
  have hnd : ∀ i < 7, ∀ j < 7, sevn[i]? = sevn[j]? → i = j := by decide
  exact hnd i hi j hj (h.trans k.symm)
theorem two_signs (p r : Int) : ∃ u v, u ∈ sevn ∧ v ∈ sevn ∧ u ≠ v ∧ Txt.item (Str.ofString "a \"\\#\n\t") (p.fmod 7) = tx [u] ∧ Txt.item (Str.ofString "a \"\\#\n\t") ((p + 1 + r.fmod 6).fmod 7) = tx [v] := by
  obtain ⟨u, hu1, hu2⟩ := @item_sign (p.fmod 7) (m7 p).1 (m7 p).2
  obtain ⟨v, hv1, hv2⟩ := @item_sign ((p + 1 + r.fmod 6).fmod 7) (m7 _).1 (m7 _).2
  refine ⟨u, v, List.mem_of_getElem? hu1, List.mem_of_getElem? hv1, fun e => ?_, hu2, hv2⟩
  subst e
  exact ne_fmod p r (sevn_inj hu1 hv1)
section
variable {prog : Program} {w : World} {A : Around} {h₀ : Heap} {L : Addr} {m : Str → Option Value} {env : Env} {elt : Expr} {x : Str} {scope : Scope} {cl : List (Str × Addr)} {s : Shared} {S : List (Addr × Obj) → Prop} {P : Nat → Value → Prop} {Fin : List Value → List (Addr × Obj) → Prop}
theorem comp_ind {n : Nat} {news : Led} (Inv : Nat → List Value → Led → Prop) (h0 : Inv 0 [] news)
    (turn : ∀ i v ys news, i < n → P i v → Inv i ys news → ∀ I oI C oC D m₂ h tk (E' : Value → Shared → Prop), LCg.NsObj oC m₂ → m₂ x = some v → Fr h₀ L h m → News h₀ L h ((I, oI) :: (C, oC) :: (D, LCg.lst ys) :: news) → LCg.Off3 I C D news → ((@Ne Nat I C) ∧ (@Ne Nat I D) ∧ (@Ne Nat C D)) →
      wpAny (model prog w) A (eval elt (compEnvC scope cl C env)) (LCg.CompEnd h₀ L m { s with heap := h, toks := tk } I oI C oC D (LCg.lst ys) S (fun y news' => Inv (i + 1) (ys ++ [y]) news')) E' { s with heap := h, toks := tk })
    (fin : ∀ ys news, Inv n ys news → Fin ys news) : LCg.CompRest prog w A h₀ L m env elt x scope cl s S P Fin n 0 [] news := by
  have key : ∀ (j i : Nat) (ys : List Value) (news : Led), i + j = n → Inv i ys news → LCg.CompRest prog w A h₀ L m env elt x scope cl s S P Fin j i ys news := by
    intro j
    induction j with
    | zero =>
      intro i ys news hi hy
      have e : i = n := by omega
      subst e
      exact LCg.CompRest.zero (fin ys news hy)
    | succ j ih =>
      intro i ys news hi hy
      refine LCg.CompRest.succ ?_
      intro v I oI C oC D m₂ h tk E' hv hC hx F N off ne
      refine wpAny_mono (turn i v ys news (by omega) hv hy I oI C oC D m₂ h tk E' hC hx F N off ne) (fun y s₂ hq => ?_) fun _ _ e => e
      obtain ⟨h', tk', nw, e, F', N', off', hS, hi'⟩ := hq
      exact ⟨h', tk', nw, e, F', N', off', hS, ih (i + 1) _ nw (by omega) hi'⟩
  exact key n 0 [] news (by omega) h0
end
end
section
section
variable {prog : Program} {w : World} {A : Around} {E : Value → Shared → Prop} {s : Shared} {h₀ : Heap} {L : Addr} {m : Str → Option Value} {env : Env}
noncomputable abbrev tupOf (its : Array Value) : Obj := { cls := .type "tuple", data := .seq its }
theorem tup_at {its : Array Value} {ax : Addr} {h : Heap} {news : Led} (N : News h₀ L h news) (hm : (ax, tupOf its) ∈ news) : h.IsTuple ax its := ⟨_, (N _ hm).1, rfl, 0, rfl⟩
noncomputable def SrcT (prog : Program) (w : World) (A : Around) (h₀ : Heap) (L : Addr) (m : Str → Option Value) (env : Env) (elt : Expr) (x : Str) (scope : Scope) (cl : List (Str × Addr)) (Fin : Shared → List Value → Led → Prop) (xv : Value) (s₁ : Shared) : Prop :=
  ∃ ax its news, xv = .ref ax ∧ A.handled = none ∧ Fr h₀ L s₁.heap m ∧ News h₀ L s₁.heap news ∧ (ax, tupOf its) ∈ news ∧ its.size ≤ sizeLine ∧
    ∀ s₂ : Shared, (∃ h, s₂ = { s₁ with heap := h }) → LCg.CompRest prog w A h₀ L m env elt x scope cl s₂ (fun nw => (ax, tupOf its) ∈ nw) (fun i v => its[i]? = some v) (Fin s₂) its.size 0 [] news
theorem tup_st {ax I : Addr} {its : Array Value} : ∀ i (h h' : Heap) (o : Obj) (nw : Led), (h.IsTupleIter I ax i ∧ h.IsTuple ax its) → h.get? I = some o → h'.get? I = some o → (∀ b o, h₀.get? b = some o → h'.get? b = some o) → News h₀ L h' nw → (ax, tupOf its) ∈ nw → (h'.IsTupleIter I ax i ∧ h'.IsTuple ax its) :=
  fun i h h' o nw st e e' _ N S => ⟨by obtain ⟨o', q, r⟩ := st.1; rw [e] at q; cases q; exact ⟨o, e', r⟩, tup_at N S⟩
theorem ListComp_T {elt iter : Expr} {x : Str} {px : Pos} {scope : Scope} {cl : List (Str × Addr)} {pos : Pos} {Q : Value → Shared → Prop} (F₀ : Fr h₀ L s.heap m)
    (hclos : closureFor scope env = pure cl) (hcell : ∀ y ∈ scope.names, y.2 ≠ .cell) (hkind : scope.kind = .function)
    (hnames : ∀ y ∈ scope.names, y.2 = .local → scope.names.lookup y.1 = some .local) (hx : scope.names.lookup x = some .local)
    (h : wpAny (model prog w) A (eval iter env) (SrcT prog w A h₀ L m env elt x scope cl (fun s₂ => LCg.FinE h₀ L m s₂ Q)) E s)
    (hs : ∀ x, foldedSetIterable iter env x = pure x := by intro _; rfl) :
    wpAny (model prog w) A (eval (.ListComp elt [⟨.Name x px, iter, [], 0⟩] scope pos) env) Q E s := by
  rw [eval_ListComp]
  refine wpAny_comprehension_free (use := none) rfl hs hclos hkind hnames (wpAny_mono h (fun xv s₁ h₁ => ?_) fun _ _ e => e)
  obtain ⟨ax, its, news, rfl, hh, F, N, S, hsz, R⟩ := h₁
  have hl := tup_at N S
  have hlt : ax < s₁.heap.objs.size := by obtain ⟨_, e, _⟩ := hl; exact Heap.lt_size e
  refine wpAny_pyIter_tuple hl ?_
  have up : ∀ b o, s₁.heap.get? b = some o → (s₁.heap.push { cls := .type "tuple_iterator", data := .fields #[.ref ax, .int 0 0] }).get? b = some o := fun b o e => Heap.get?_push_of_some _ e
  refine LCg.block_U (Walks.tuple hh s₁.heap.objs.size ax (Nat.ne_of_lt hlt) its) hsz (fun i h st => by obtain ⟨o, e, _⟩ := st.1; exact ⟨o, e⟩) tup_st hcell hkind hx ⟨⟨_, Heap.get?_push_size _ rfl, rfl, rfl⟩, hl.push _⟩ (fun b hb => ?_)
    (F.keeps up) (N.grown up) (Nat.ne_of_lt F.ns.lt) (next_is_new F) (fun p hp => Nat.ne_of_lt (Heap.lt_size (N p hp).1)) S (R _ ⟨_, rfl⟩) ?_
  · show b < (s₁.heap.push _).objs.size
    rw [Heap.size_push]
    rcases List.mem_cons.mp hb with rfl | hb
    · exact Nat.lt_succ_self _
    · rw [List.mem_singleton.mp hb]; exact Nat.lt_succ_of_lt hlt
  · intro D C h tk m' ys news' F' N' o1 hn hC₀ hD₀ hCL hDL hCD offC fin
    refine ⟨m', hn, fun h'' hs'' => fin D h'' tk (F'.change hs'' hCL hC₀) (fun p hp => ?_) o1⟩
    refine ⟨hs''.extBut _ _ ?_ (N' p hp).1, (N' p hp).2⟩
    rcases List.mem_cons.mp hp with rfl | hp
    · exact Ne.symm hCD
    · exact offC p hp
end
end
section
structure StgV where
  mean : ExcName → Option Value
  mg : Str → Option Value
  mb : Str → Option Value
  base : Heap
  s : Shared
  rest : List Stmt
  Q : Flow → Shared → Prop
  E : Value → Shared → Prop
theorem stgV_ne : Nonempty StgV := ⟨⟨fun _ => none, fun _ => none, fun _ => none, (start Pg).1.heap, (start Pg).1, [], fun _ _ => True, fun _ _ => True⟩⟩
noncomputable def StgAt (w : World) (fa : Addr) (cd : Value) (L : Addr) (i k : Nat) (P : Heap → Prop) (m : Str → Option Value) (news : Led) (R : (Str → Option Value) → Led → Prop) (v : StgV) : Prop :=
    Below callerA v.base [] v.base → Fr v.base L v.s.heap m → (hd01.heap_1 w.params).In v.base → News v.base L v.s.heap news → Top topProg topL v.mean v.mg v.mb v.base → CodeHd v.base 135 131 → CodeHd v.base 48 44 → CodeHd v.base 41 37 → PassesOwn (model Challenge.rw_ty0035_01.row.prog w) (callerA.deeper (envL L fa cd)) (envL L fa cd) v.E → P v.base →
    (∀ h' tk' m' news', Fr v.base L h' m' → News v.base L h' news' → R m' news' → wpAny (model Challenge.rw_ty0035_01.row.prog w) (callerA.deeper (envL L fa cd)) (execs v.rest (envL L fa cd)) v.Q v.E { v.s with heap := h', toks := tk' }) →
    wpAny (model Challenge.rw_ty0035_01.row.prog w) (callerA.deeper (envL L fa cd)) (execs (blk i k ++ v.rest) (envL L fa cd)) v.Q v.E v.s
theorem stg_of {w : World} {fa : Addr} {cd : Value} {L : Addr} {i k : Nat} {P : Heap → Prop} {m : Str → Option Value} {news : Led} {R : (Str → Option Value) → Led → Prop} (h : ∀ v, StgAt w fa cd L i k P m news R v) : Stg w fa cd L i k P m news R :=
  fun mean mg mb base s rest Q E => h ⟨mean, mg, mb, base, s, rest, Q, E⟩
end
section
theorem ne_mean : Nonempty (ExcName → Option Value) := ⟨fun _ => none⟩
theorem ne_heap : Nonempty Heap := ⟨(start Pg).1.heap⟩
theorem ne_shared : Nonempty Shared := ⟨(start Pg).1⟩
theorem ne_q : Nonempty (Flow → Shared → Prop) := ⟨fun _ _ => True⟩
theorem ne_e : Nonempty (Value → Shared → Prop) := ⟨fun _ _ => True⟩
end
section
theorem kl_ins_zero (l : List Value) (y : Value) : kl_ins l 0 y = y :: l := by
  cases l <;> simp [kl_ins]
noncomputable def octs : Nat → Int → List Int → List Int
  | 0, _, acc => acc
  | k + 1, n, acc => if 63 < n then octs k (n.fdiv 64) (((n.fdiv 64).fmod 64 + 64) :: acc) else acc
theorem octs_more : ∀ (k l : Nat) (x : Int) (acc : List Int), x.toNat ≤ k → x.toNat ≤ l → octs k x acc = octs l x acc
  | 0, 0, _, _, _, _ => rfl
  | 0, l + 1, x, acc, h, _ => by unfold octs; rw [if_neg (by omega)]
  | k + 1, 0, x, acc, _, h => by unfold octs; rw [if_neg (by omega)]
  | k + 1, l + 1, x, acc, h1, h2 => by
    unfold octs
    split
    · have ef : x.fdiv 64 = x / 64 := Int.fdiv_eq_ediv_of_nonneg _ (by decide)
      exact octs_more k l _ _ (by rw [ef]; omega) (by rw [ef]; omega)
    · rfl
inductive OctPost (rest : Led) (n : Int) (v : Value) (news' : Led) : Prop
  | mk (D : Addr) (vs : List Value) (c : Nat) (zh1 : v = .ref D) (zh2 : IntsAre vs (octs n.toNat n [n.fmod 64])) (zh3 : news' = (D, W.listOf vs.toArray c) :: rest) (zh4 : topA rest ≤ D)
inductive OctInv (rest : Led) (n : Int) (k : Nat) (m' : Str → Option Value) (nx : Led) : Prop
  | mk (x : Int) (tx' : Tok) (acc : List Int) (av : List Value) (ep : Nat) (D : Addr) (zh1 : IntsAre av acc) (zh2 : 0 ≤ x) (zh3 : k = x.toNat) (zh4 : octs k x acc = octs n.toNat n [n.fmod 64]) (zh5 : Has m' [(Str.ofString "number", .int x tx'), (Str.ofString "octets", .ref D)]) (zh6 : nx = (D, W.listOf av.toArray ep) :: rest) (zh7 : topA rest ≤ D) (j : Nat) (zh8 : x < 2 ^ j) (zh9 : acc.length + j ≤ 3001)
namespace Voctets
noncomputable def At0 (w : World) (rest : Led) (n : Int) (t : Tok) (z : TelV) : Prop := ∀ (hn : 0 ≤ n) (hb : n < 2 ^ 3000), TelAt w 2 100 (.ref 124) [.int n t] rest (OctPost rest n) z
noncomputable def w : World := eps1 ne_world (fun w => ∀ rest n t z, At0 w rest n t z)
noncomputable def rest : Led := eps1 ne_led (fun rest => ∀ n t z, At0 w rest n t z)
noncomputable def n : Int := eps1 ne_int (fun n => ∀ t z, At0 w rest n t z)
noncomputable def t : Tok := eps1 ne_tok (fun t => ∀ z, At0 w rest n t z)
noncomputable def v0 : TelV := eps1 telV_ne (fun z => At0 w rest n t z)
noncomputable abbrev h₀ := v0.h₀
noncomputable abbrev L := v0.L
theorem aux (hn : 0 ≤ n) (hb : n < 2 ^ 3000) :
  TelAt w 2 100 (.ref 124) [.int n t] rest (OctPost rest n) v0 := by
  intro B F X N T C1 C2 C3 hk hd hu hret
  refine wpAny_call ?_
  k_dflt (first | (refine' code_defC ?k1 ?k2 ?k3 ?k4 ?k5 ?kA ?kF ?kK ?k6 ?k7 ?k8 ?k9 ?kB ?kD ?_ ?c2 ?c3 ?c4; (case kA => exact rfl); (case kF => exact rfl); (case kK => first | exact rfl | assumption); (case k1 => k_asm); (case k2 => k_asm); (case k3 => k_asm); (case k4 => k_asm); (case k5 => k_asm); (case k6 => k_is); (case k7 => k_is); (case k8 => k_room); (case k9 => first | exact BindsTo.of_eq rfl | exact binds_K (by k_in) rfl (by k_is) rfl rfl rfl | fail "k_enter: no rule for these arguments"); (case kB => exact rfl); (case kD => decide +kernel); (case c2 => exact rfl); (case c3 => exact rfl); (case c4 => exact rfl); k_whole; intro z9g z9L z9h z9tk z9cells z9FG z9F z9N z9Y z9B z9X z9T z9l1; (try k_lt z9l1); k_cells z9Y; (try simp only [List.cons_append, List.nil_append] at z9N); (try dsimp only); (try k_lift z9B); (try k_fold)) | cell_enter)
  (repeat' (first | (with_reducible refine if_ff ?_) | (with_reducible refine if_tt ?_) | (k_unfold; (try dsimp only)) | (k_end; wrow_close) | (cell_step; walk1) | (cell_step; dsimp only; walk1) | (leave1; walk_say "STEP leave1"; try dsimp only) | fail "no step"))
  rename Fr _ _ _ _ => F1
  rename News _ _ _ _ => N1
  have l1' := topA_of (by assumption : ∀ p ∈ rest, p.1 < _)
  with_unfolding_all refine While_invR (n₀ := n.toNat) (OctInv rest n) F1 N1 ?hJ ?turn
  case hJ =>
    refine ⟨n, _, _, _, _, _, .cons _ _ .nil, hn, rfl, ?_, ⟨rfl, rfl, trivial⟩, rfl, l1', 3000, hb, by simp⟩
    rfl
  case turn =>
    rintro k m' nx h6 tk6 F6 N6 ⟨x, tx', acc, av, ep, D, hav, hx, rfl, hoc, hM, rfl, hD, j, hj, hlen⟩ R9 R8 hR9 hR8
    have F7 := fr_all0 hM F6
    clear F6
    (repeat' (first | (with_reducible refine if_ff ?_) | (with_reducible refine if_tt ?_) | (k_unfold; (try dsimp only)) | (k_end; wrow_close) | (cell_step; walk1) | (cell_step; dsimp only; walk1) | (leave1; walk_say "STEP leave1"; try dsimp only) | fail "no step"))
    · have hal := hav.length
      have hj0 : j ≠ 0 := fun e => by subst e; simp at hj; omega
      obtain ⟨j', rfl⟩ : ∃ j', j = j' + 1 := ⟨j - 1, by omega⟩
      rename Fr _ _ _ _ => F8
      rename News _ _ _ _ => N8
      k_dflt (refine' kl_insert F8 N8 (by rfl) rfl ?U ?z ?_; (case U => k_upd); (case z => simp [sizeLine]; omega))
      intro h8 F9 N9
      simp only [kl_ins_zero] at N9
      (try dsimp only)
      (repeat' (first | (with_reducible refine if_ff ?_) | (with_reducible refine if_tt ?_) | (k_unfold; (try dsimp only)) | (k_end; wrow_close) | (cell_step; walk1) | (cell_step; dsimp only; walk1) | (leave1; walk_say "STEP leave1"; try dsimp only) | fail "no step"))
      rename Fr _ _ _ _ => F9
      rename News _ _ _ _ => N9
      have ef : x.fdiv 64 = x / 64 := Int.fdiv_eq_ediv_of_nonneg _ (by decide)
      have hlt : (x.fdiv 64).toNat < x.toNat := by rw [ef]; omega
      refine hR9 _ _ ?_
      dsimp only [WhileStep2]
      refine ⟨_, _, _, _, (x.fdiv 64).toNat, rfl, F9, N9, hlt, x.fdiv 64, _, _, _, _, D, .cons _ _ hav, (by rw [ef]; omega), rfl, ?_, ⟨rfl, rfl, trivial⟩, rfl, hD, j', ?_, (by simp only [List.length_cons]; omega)⟩
      · rw [← hoc]
        obtain ⟨k, hk⟩ : ∃ k, x.toNat = k + 1 := ⟨x.toNat - 1, by omega⟩
        rw [hk]
        conv => rhs; unfold octs
        rw [if_pos (by assumption)]
        exact octs_more _ _ _ _ (Nat.le_refl _) (by omega)
      · rw [ef]
        have : (2 : Int) ^ (j' + 1) = 2 ^ j' * 2 := Int.pow_succ _ _
        omega
    · refine hR8 _ ?_
      (try dsimp only)
      (repeat' (first | (with_reducible refine if_ff ?_) | (with_reducible refine if_tt ?_) | (k_unfold; (try dsimp only)) | (k_end; wrow_close) | (cell_step; walk1) | (cell_step; dsimp only; walk1) | (leave1; walk_say "STEP leave1"; try dsimp only) | fail "no step"))
      rename Fr h₀ L _ _ => F8
      rename News h₀ L _ _ => N8
      refine hret _ _ _ _ F8 N8 ⟨_, av, _, rfl, ?_, rfl, hD⟩
      rw [← hoc]
      have e : octs x.toNat x acc = acc := by
        cases x.toNat with
        | zero => rfl
        | succ k => unfold octs; rw [if_neg (by omega)]
      rw [e]
      exact hav
end Voctets
theorem octets (w : World) (rest : Led) (n : Int) (t : Tok) (hn : 0 ≤ n) (hb : n < 2 ^ 3000) :
  Tel w 2 100 (.ref 124) [.int n t] rest (OctPost rest n) := tel_of fun z => (show ∀ w rest n t z, Voctets.At0 w rest n t z from (eps1_all (eps1_all (eps1_all (eps1_all (eps1_all @Voctets.aux)))))) w rest n t z hn hb
end
section
theorem and63 {b : Int} (hb : 0 ≤ b) : Builtin.bitAnd b 63 = b % 64 := by
  rw [bitAnd_pp hb (by decide)]
  have := Nat.and_two_pow_sub_one_eq_mod b.toNat 6
  rw [show (63 : Int).toNat = 2 ^ 6 - 1 from rfl, this]
  omega
theorem and64_nat : ∀ a < 128, (a &&& 64 = 0) = (a < 64) := by decide +kernel
theorem and64 {b : Int} (hb : 0 ≤ b) (h : b < 128) : Builtin.bitAnd b 64 = 0 ↔ b < 64 := by
  rw [bitAnd_pp hb (by decide)]
  have := and64_nat b.toNat (by omega)
  rw [show (64 : Int).toNat = 64 from rfl]
  constructor
  · intro e
    have e2 : b.toNat &&& 64 = 0 := by exact_mod_cast e
    rw [this] at e2
    omega
  · intro e
    have e2 : b.toNat &&& 64 = 0 := by rw [this]; omega
    exact_mod_cast e2
theorem and_high (v d : Nat) (hd : d < 64) : (v * 64) &&& d = 0 := by
  apply Nat.eq_of_testBit_eq
  intro i
  rw [Nat.testBit_and, Nat.zero_testBit, show v * 64 = 2 ^ 6 * v by omega, Nat.testBit_two_pow_mul]
  by_cases h : 6 ≤ i
  · rw [Nat.testBit_lt_two_pow (x := d) (i := i) (Nat.lt_of_lt_of_le hd (show 2 ^ 6 ≤ 2 ^ i from Nat.pow_le_pow_right (by omega) h))]
    simp
  · simp [h]
theorem or_high {v d : Int} (hv : 0 ≤ v) (hd : 0 ≤ d) (h : d < 64) : Builtin.bitOr (v * 2 ^ 6) d = v * 64 + d := by
  rw [bitOr_and, show v * 2 ^ 6 = v * 64 from rfl, bitAnd_pp (by omega) hd, show (v * 64).toNat = v.toNat * 64 by omega, and_high _ _ (by omega)]
  simp
end
section
theorem updF_mid {d : Addr} {o : Obj} : ∀ {pre post : Led}, (∀ p ∈ pre, p.1 ≠ d) → (∀ p ∈ post, p.1 ≠ d) → UpdF d o (pre ++ (d, o) :: post) (fun o' => pre ++ (d, o') :: post)
  | [], _, _, h => .head h
  | p :: pre, post, h, k => .tail (h p (.head _)) (updF_mid (fun q hq => h q (.tail _ hq)) k)
noncomputable def vint (ds : List Int) : Int := ds.foldl (fun a d => a * 64 + d) 0
theorem vint_snoc (ds : List Int) (d : Int) : vint (ds ++ [d]) = vint ds * 64 + d := by unfold vint; rw [List.foldl_append]; rfl
theorem vint_bound : ∀ (ds : List Int) (a : Int) (k : Nat), 0 ≤ a → a < 2 ^ k → (∀ d ∈ ds, 0 ≤ d ∧ d < 64) → 0 ≤ ds.foldl (fun a d => a * 64 + d) a ∧ ds.foldl (fun a d => a * 64 + d) a < 2 ^ (k + 6 * ds.length)
  | [], a, k, h0, h1, _ => ⟨h0, h1⟩
  | d :: r, a, k, h0, h1, h => by
    have hd := h d (.head _)
    have := vint_bound r (a * 64 + d) (k + 6) (by omega) (by rw [Int.pow_add]; omega) (fun q hq => h q (.tail _ hq))
    rw [List.foldl_cons, List.length_cons, show k + 6 * (r.length + 1) = k + 6 + 6 * r.length by omega]
    exact this
theorem vint_lt {ds : List Int} (h : ∀ d ∈ ds, 0 ≤ d ∧ d < 64) : 0 ≤ vint ds ∧ vint ds < 2 ^ (6 * ds.length) := by
  have := vint_bound ds 0 0 (by decide) (by decide) h
  rw [Nat.zero_add] at this
  exact this
theorem ints_get : ∀ {vs : List Value} {zs : List Int} {i : Nat} {z : Int}, IntsAre vs zs → zs[i]? = some z → ∃ t, vs[i]? = some (.int z t)
  | _, _, 0, z, .cons x t h, e => by simp at e; subst e; exact ⟨t, rfl⟩
  | _, _, i + 1, z, .cons x t h, e => by simp at e ⊢; exact ints_get h e
theorem digit_at {front ds back dsA dsB : List Int} {e y : Int} (h : ds ++ [e] = dsA ++ y :: dsB) : (front ++ (ds.map (· + 64) ++ e :: back))[front.length + dsA.length]? = some (y + if dsB = [] then 0 else 64) := by
  rw [List.getElem?_append_right (by omega), Nat.add_sub_cancel_left]
  rcases List.eq_nil_or_concat dsB with rfl | ⟨q, z, rfl⟩
  · obtain ⟨h1, h2⟩ := List.append_inj' h rfl
    subst h1
    injection h2 with h3
    subst h3
    simp
  · rw [List.concat_eq_append, ← List.cons_append, ← List.append_assoc] at h
    obtain ⟨h1, h2⟩ := List.append_inj' h rfl
    subst h1
    simp
inductive VarPost (pre : Led) (post : Led) (it : Addr) (l : Addr) (front : List Int) (ds : List Int) (e : Int) (v : Value) (news' : Led) : Prop
  | mk (t : Tok) (io' : Obj) (zh1 : v = .int (vint (ds ++ [e])) t) (zh2 : news' = pre ++ (it, io') :: post) (zh3 : io'.cls = .type "list_iterator") (zh4 : io'.data = .fields #[.ref l, .int ((front.length + ds.length + 1 : Nat) : Int) 0])
inductive VarInv (pre : Led) (post : Led) (it : Addr) (l : Addr) (front : List Int) (ds : List Int) (e : Int) (k : Nat) (m' : Str → Option Value) (nx : Led) : Prop
  | mk (dsA : List Int) (dsB : List Int) (x : Int) (b : Int) (v : Int) (tb' : Tok) (tv : Tok) (io' : Obj) (zh1 : ds ++ [e] = dsA ++ x :: dsB) (zh2 : k = dsB.length) (zh3 : b = x + (if dsB = [] then 0 else 64)) (zh4 : v = vint (dsA ++ [x])) (zh5 : io'.cls = .type "list_iterator") (zh6 : io'.data = .fields #[.ref l, .int ((front.length + dsA.length + 1 : Nat) : Int) 0]) (zh7 : Has m' [(Str.ofString "b", .int b tb'), (Str.ofString "val", .int v tv), (Str.ofString "iterator", .ref it)]) (zh8 : nx = pre ++ (it, io') :: post)
namespace Vparse_varint
noncomputable def At0 (w : World) (pre : Led) (post : Led) (it : Addr) (l : Addr) (its : List Value) (c : Nat) (io : Obj) (z : TelV) : Prop := ∀ (zs : List Int) (front : List Int) (ds : List Int) (back : List Int) (e : Int) (hA : ∀ p ∈ pre, p.1 ≠ it) (hB : ∀ p ∈ post, p.1 ≠ it) (hio : io.cls = .type "list_iterator") (hid : io.data = .fields #[.ref l, .int front.length 0]) (hm : (l, W.listOf its.toArray c) ∈ pre ++ post) (hz : IntsAre its zs) (hzs : zs = front ++ (ds.map (· + 64) ++ e :: back)) (hds : ∀ d ∈ ds, 0 ≤ d ∧ d < 64) (he : 0 ≤ e ∧ e < 64) (hl : ds.length ≤ 3000), TelAt w 2 100 (.ref 70) [.ref it] (pre ++ (it, io) :: post) (VarPost pre post it l front ds e) z
noncomputable def w : World := eps1 ne_world (fun w => ∀ pre post it l its c io z, At0 w pre post it l its c io z)
noncomputable def pre : Led := eps1 ne_led (fun pre => ∀ post it l its c io z, At0 w pre post it l its c io z)
noncomputable def post : Led := eps1 ne_led (fun post => ∀ it l its c io z, At0 w pre post it l its c io z)
noncomputable def it : Addr := eps1 ne_addr (fun it => ∀ l its c io z, At0 w pre post it l its c io z)
noncomputable def l : Addr := eps1 ne_addr (fun l => ∀ its c io z, At0 w pre post it l its c io z)
noncomputable def its : List Value := eps1 ne_list (fun its => ∀ c io z, At0 w pre post it l its c io z)
noncomputable def c : Nat := eps1 ne_nat (fun c => ∀ io z, At0 w pre post it l its c io z)
noncomputable def io : Obj := eps1 ne_obj (fun io => ∀ z, At0 w pre post it l its c io z)
noncomputable def v0 : TelV := eps1 telV_ne (fun z => At0 w pre post it l its c io z)
theorem aux (zs : List Int) (front : List Int) (ds : List Int) (back : List Int) (e : Int) (hA : ∀ p ∈ pre, p.1 ≠ it) (hB : ∀ p ∈ post, p.1 ≠ it) (hio : io.cls = .type "list_iterator") (hid : io.data = .fields #[.ref l, .int front.length 0]) (hm : (l, W.listOf its.toArray c) ∈ pre ++ post) (hz : IntsAre its zs) (hzs : zs = front ++ (ds.map (· + 64) ++ e :: back)) (hds : ∀ d ∈ ds, 0 ≤ d ∧ d < 64) (he : 0 ≤ e ∧ e < 64) (hl : ds.length ≤ 3000) :
  TelAt w 2 100 (.ref 70) [.ref it] (pre ++ (it, io) :: post) (VarPost pre post it l front ds e) v0 := by
  have hmem : ∀ o : Obj, (l, W.listOf its.toArray c) ∈ pre ++ (it, o) :: post := fun o => by
    rcases List.mem_append.mp hm with h | h
    · exact List.mem_append_left _ h
    · exact List.mem_append_right _ (.tail _ h)
  have hfirst : ∃ b₀ tb, its[front.length]? = some (.int b₀ tb) ∧ 0 ≤ b₀ ∧ b₀ < 128 ∧ ∃ x dsB, ds ++ [e] = x :: dsB ∧ b₀ = x + (if dsB = [] then 0 else 64) := by
    cases ds with
    | nil =>
      obtain ⟨t, ht⟩ := ints_get (i := front.length) (z := e) hz (by rw [hzs]; simp)
      exact ⟨e, t, ht, he.1, by omega, e, [], rfl, by simp⟩
    | cons d r =>
      obtain ⟨t, ht⟩ := ints_get (i := front.length) (z := d + 64) hz (by rw [hzs]; simp)
      have := hds d (.head _)
      exact ⟨d + 64, t, ht, by omega, by omega, d, r ++ [e], rfl, by simp⟩
  obtain ⟨b₀, tb, hb, hb0, hb1, x₀, dsB₀, hx₀, hbx₀⟩ := hfirst
  intro B F X N T C1 C2 C3 hk hd hu hret
  refine wpAny_call ?_
  k_dflt (first | (refine' code_defC ?k1 ?k2 ?k3 ?k4 ?k5 ?kA ?kF ?kK ?k6 ?k7 ?k8 ?k9 ?kB ?kD ?_ ?c2 ?c3 ?c4; (case kA => exact rfl); (case kF => exact rfl); (case kK => first | exact rfl | assumption); (case k1 => k_asm); (case k2 => k_asm); (case k3 => k_asm); (case k4 => k_asm); (case k5 => k_asm); (case k6 => k_is); (case k7 => k_is); (case k8 => k_room); (case k9 => first | exact BindsTo.of_eq rfl | exact binds_K (by k_in) rfl (by k_is) rfl rfl rfl | fail "k_enter: no rule for these arguments"); (case kB => exact rfl); (case kD => decide +kernel); (case c2 => exact rfl); (case c3 => exact rfl); (case c4 => exact rfl); k_whole; intro z9g z9L z9h z9tk z9cells z9FG z9F z9N z9Y z9B z9X z9T z9l1; (try k_lt z9l1); k_cells z9Y; (try simp only [List.cons_append, List.nil_append] at z9N); (try dsimp only); (try k_lift z9B); (try k_fold)) | cell_enter)
  (repeat' (first | (with_reducible refine if_ff ?_) | (with_reducible refine if_tt ?_) | (k_unfold; (try dsimp only)) | (k_end; wrow_close) | (cell_step; walk1) | (cell_step; dsimp only; walk1) | (leave1; walk_say "STEP leave1"; try dsimp only) | fail "no step"))
  rename Fr _ _ _ _ => F1
  rename News _ _ _ _ => N1
  refine li_next (its := its.toArray) F1 N1 (updF_mid hA hB) hio hid (hmem _) (by simpa using hb) ?_
  intro h2 io2 F2 N2 hc2 hd2
  (try dsimp only)
  (repeat' (first | (with_reducible refine if_ff ?_) | (with_reducible refine if_tt ?_) | (k_unfold; (try dsimp only)) | (k_end; wrow_close) | (cell_step; walk1) | (cell_step; dsimp only; walk1) | (leave1; walk_say "STEP leave1"; try dsimp only) | fail "no step"))
  rename Fr _ _ _ _ => F3
  rename News _ _ _ _ => N3
  have hx0 : 0 ≤ x₀ ∧ x₀ < 64 := by
    cases ds with
    | nil => simp at hx₀; omega
    | cons d r => simp at hx₀; have := hds d (.head _); omega
  have hk0 : ds.length = dsB₀.length := by
    have := congrArg List.length hx₀
    simp at this
    omega
  have hv0 : Builtin.bitAnd b₀ 63 = vint ([] ++ [x₀]) := by
    rw [and63 hb0, hbx₀]
    show _ = 0 * 64 + x₀
    split <;> omega
  with_unfolding_all refine While_invR (n₀ := ds.length) (VarInv pre post it l front ds e) F3 N3 ?hJ ?turn
  case hJ =>
    exact ⟨[], dsB₀, x₀, b₀, _, _, _, io2, hx₀, hk0, hbx₀, hv0, hc2, hd2, ⟨rfl, rfl, rfl, trivial⟩, rfl⟩
  case turn =>
    rintro k m' nx h6 tk6 F6 N6 ⟨dsA, dsB, x, b, v, tb', tv, io', hx, rfl, hbx, hv, hc', hd', hM, rfl⟩ R9 R8 hR9 hR8
    have F7 := fr_all0 hM F6
    clear F6
    have hxr : 0 ≤ x ∧ x < 64 := by
      have hm : x ∈ ds ++ [e] := by rw [hx]; simp
      rcases List.mem_append.mp hm with h | h
      · exact hds x h
      · rw [List.mem_singleton.mp h]; exact he
    (repeat' (first | (with_reducible refine if_ff ?_) | (with_reducible refine if_tt ?_) | (k_unfold; (try dsimp only)) | (k_end; wrow_close) | (cell_step; walk1) | (cell_step; dsimp only; walk1) | (leave1; walk_say "STEP leave1"; try dsimp only) | fail "no step"))
    · have hb64 : 64 ≤ b := by
        have h : ¬ b < 64 := fun q => absurd ((and64 (b := b) (by rw [hbx]; split <;> omega) (by rw [hbx]; split <;> omega)).mpr q) (by assumption)
        omega
      cases dsB with
      | nil => simp at hbx; omega
      | cons y dsB' =>
      have hall : ∀ d ∈ dsA ++ x :: y :: dsB', 0 ≤ d ∧ d < 64 := by
        rw [← hx]
        intro d hd
        rcases List.mem_append.mp hd with h | h
        · exact hds d h
        · rw [List.mem_singleton.mp h]; exact he
      have hyr : 0 ≤ y ∧ y < 64 := hall y (by simp)
      have hlen := congrArg List.length hx
      simp only [List.length_append, List.length_cons, List.length_nil] at hlen
      have hvb := vint_lt (ds := dsA ++ [x]) fun d hd => hall d (by
        rcases List.mem_append.mp hd with h | h
        · exact List.mem_append_left _ h
        · rw [List.mem_singleton.mp h]; simp)
      rw [← hv] at hvb
      have hvbits : Builtin.Int.intBits v ≤ 6 * (dsA ++ [x]).length := bits_of_lt hvb.1 hvb.2
      simp only [List.length_append, List.length_cons, List.length_nil] at hvbits
      refine ilshift_int (by omega) (by omega) ?_
      (try dsimp only)
      (repeat' (first | (with_reducible refine if_ff ?_) | (with_reducible refine if_tt ?_) | (k_unfold; (try dsimp only)) | (k_end; wrow_close) | (cell_step; walk1) | (cell_step; dsimp only; walk1) | (leave1; walk_say "STEP leave1"; try dsimp only) | fail "no step"))
      obtain ⟨ty, hty⟩ := ints_get (i := front.length + (dsA ++ [x]).length) (z := y + if dsB' = [] then 0 else 64) hz (by
        rw [hzs]
        exact digit_at (by rw [hx]; simp))
      have hgi : front.length + (dsA ++ [x]).length = front.length + dsA.length + 1 := by simp; omega
      rw [hgi] at hty
      rename Fr _ _ _ _ => F8
      rename News _ _ _ _ => N8
      refine li_next (its := its.toArray) F8 N8 (updF_mid hA hB) hc' hd' (hmem _) (by simpa using hty) ?_
      intro h9 io9 F9 N9 hc9 hd9
      (try dsimp only)
      (repeat' (first | (with_reducible refine if_ff ?_) | (with_reducible refine if_tt ?_) | (k_unfold; (try dsimp only)) | (k_end; wrow_close) | (cell_step; walk1) | (cell_step; dsimp only; walk1) | (leave1; walk_say "STEP leave1"; try dsimp only) | fail "no step"))
      rename Fr _ _ _ _ => F10
      rename News _ _ _ _ => N10
      have hb0' : 0 ≤ y + (if dsB' = [] then 0 else 64) := by split <;> omega
      refine hR9 _ _ ?_
      dsimp only [WhileStep2]
      refine ⟨_, _, _, _, dsB'.length, rfl, F10, N10, (by simp), dsA ++ [x], dsB', y, _, _, _, _, io9, (by rw [hx]; simp), rfl, rfl, ?_, hc9, ?_, ⟨rfl, rfl, rfl, trivial⟩, rfl⟩
      · rw [vint_snoc, ← hv, and63 hb0', show (y + (if dsB' = [] then 0 else 64)) % 64 = y by split <;> omega]
        exact or_high hvb.1 hyr.1 hyr.2
      · rw [hd9, show (dsA ++ [x]).length = dsA.length + 1 by simp]
        rfl
    · have hb64 : b < 64 := (and64 (b := b) (by rw [hbx]; split <;> omega) (by rw [hbx]; split <;> omega)).mp (by first | assumption | exact Decidable.of_not_not (by assumption))
      cases dsB with
      | cons y dsB' => simp at hbx; omega
      | nil =>
        refine hR8 _ ?_
        (try dsimp only)
        (repeat' (first | (with_reducible refine if_ff ?_) | (with_reducible refine if_tt ?_) | (k_unfold; (try dsimp only)) | (k_end; wrow_close) | (cell_step; walk1) | (cell_step; dsimp only; walk1) | (leave1; walk_say "STEP leave1"; try dsimp only) | fail "no step"))
        rename Fr _ _ _ _ => F8
        rename News _ _ _ _ => N8
        obtain ⟨h1, h2⟩ := List.append_inj' (show ds ++ [e] = dsA ++ [x] from hx) rfl
        subst h1
        injection h2 with h3
        subst h3
        refine hret _ _ _ _ F8 N8 ⟨_, io', (by rw [hv]), rfl, hc', hd'⟩
end Vparse_varint
theorem parse_varint (w : World) (pre post : Led) (it l : Addr) (its : List Value) (zs front ds back : List Int) (e : Int) (c : Nat) (io : Obj) (hA : ∀ p ∈ pre, p.1 ≠ it) (hB : ∀ p ∈ post, p.1 ≠ it) (hio : io.cls = .type "list_iterator") (hid : io.data = .fields #[.ref l, .int front.length 0]) (hm : (l, W.listOf its.toArray c) ∈ pre ++ post) (hz : IntsAre its zs) (hzs : zs = front ++ (ds.map (· + 64) ++ e :: back)) (hds : ∀ d ∈ ds, 0 ≤ d ∧ d < 64) (he : 0 ≤ e ∧ e < 64) (hl : ds.length ≤ 3000) :
  Tel w 2 100 (.ref 70) [.ref it] (pre ++ (it, io) :: post) (VarPost pre post it l front ds e) := tel_of fun z => (show ∀ w pre post it l its c io z, Vparse_varint.At0 w pre post it l its c io z from (eps1_all (eps1_all (eps1_all (eps1_all (eps1_all (eps1_all (eps1_all (eps1_all (eps1_all @Vparse_varint.aux)))))))))) w pre post it l its c io z zs front ds back e hA hB hio hid hm hz hzs hds he hl
end
section
noncomputable def octN (n : Int) : List Int := octs n.toNat n [n.fmod 64]
theorem vint_cons (d : Int) : ∀ ds : List Int, vint (d :: ds) = d * 64 ^ ds.length + vint ds := by
  have key : ∀ (ds : List Int) (a : Int), ds.foldl (fun a d => a * 64 + d) a = a * 64 ^ ds.length + vint ds := by
    intro ds
    induction ds with
    | nil => intro a; simp [vint]
    | cons x r ih =>
      intro a
      rw [List.foldl_cons, ih, List.length_cons, Int.pow_succ]
      have : vint (x :: r) = x * 64 ^ r.length + vint r := by
        unfold vint
        rw [List.foldl_cons, show (0 : Int) * 64 + x = x by omega]
        exact ih x
      rw [this]
      grind
  intro ds
  unfold vint
  rw [List.foldl_cons, show (0 : Int) * 64 + d = d by omega]
  exact key ds d
theorem octs_is : ∀ (k : Nat) (x n : Int) (ds : List Int) (e : Int) (j : Nat), 0 ≤ x → x.toNat ≤ k → x < 2 ^ (6 * (j + 1)) → (∀ d ∈ ds, 0 ≤ d ∧ d < 64) → 0 ≤ e ∧ e < 64 → n = (x / 64) * 64 ^ (ds.length + 1) + vint (ds ++ [e]) →
    ∃ ds', octs k x (ds.map (· + 64) ++ [e]) = ds'.map (· + 64) ++ [e] ∧ (∀ d ∈ ds', 0 ≤ d ∧ d < 64) ∧ vint (ds' ++ [e]) = n ∧ ds'.length ≤ ds.length + j
  | 0, x, n, ds, e, j, h0, hk, hj, hd, he, hn => by
    refine ⟨ds, rfl, hd, ?_, by omega⟩
    rw [hn]
    have : x / 64 = 0 := by omega
    rw [this]; omega
  | k + 1, x, n, ds, e, j, h0, hk, hj, hd, he, hn => by
    unfold octs
    split
    · rename_i h63
      have ef : x.fdiv 64 = x / 64 := Int.fdiv_eq_ediv_of_nonneg _ (by decide)
      have em : (x.fdiv 64).fmod 64 = x / 64 % 64 := by rw [ef, Int.fmod_eq_emod_of_nonneg _ (by decide)]
      obtain ⟨j', rfl⟩ : ∃ j', j = j' + 1 := by
        cases j with
        | zero => simp at hj; omega
        | succ j => exact ⟨j, rfl⟩
      have hj2 : x / 64 < 2 ^ (6 * (j' + 1)) := by
        rw [show 6 * (j' + 1 + 1) = 6 * (j' + 1) + 6 by omega, Int.pow_add] at hj
        omega
      have := octs_is k (x / 64) n ((x / 64 % 64) :: ds) e j' (by omega) (by omega) hj2 (fun d hd' => by
        rcases List.mem_cons.mp hd' with rfl | hd'
        · omega
        · exact hd d hd') he (by
        rw [hn, List.cons_append, vint_cons, List.length_append, List.length_singleton, List.length_cons, Int.pow_succ 64 (ds.length + 1)]
        have h1 := Int.emod_add_mul_ediv (x / 64) 64
        generalize (64 : Int) ^ (ds.length + 1) = W at *
        generalize vint (ds ++ [e]) = V
        generalize x / 64 / 64 = a at *
        generalize x / 64 % 64 = b at *
        rw [← h1]
        grind)
      obtain ⟨ds', h1, h2, h3, h4⟩ := this
      refine ⟨ds', ?_, h2, h3, by rw [List.length_cons] at h4; omega⟩
      rw [em, ef]
      rw [← h1, List.map_cons, List.cons_append]
    · refine ⟨ds, rfl, hd, ?_, by omega⟩
      rw [hn]
      have : x / 64 = 0 := by omega
      rw [this]; omega
theorem octN_is {n : Int} {j : Nat} (h0 : 0 ≤ n) (hj : n < 2 ^ (6 * (j + 1))) : ∃ ds e, octN n = ds.map (· + 64) ++ [e] ∧ (∀ d ∈ ds, 0 ≤ d ∧ d < 64) ∧ (0 ≤ e ∧ e < 64) ∧ vint (ds ++ [e]) = n ∧ ds.length ≤ j := by
  have em : n.fmod 64 = n % 64 := Int.fmod_eq_emod_of_nonneg _ (by decide)
  obtain ⟨ds', h1, h2, h3, h4⟩ := octs_is n.toNat n n [] (n.fmod 64) j h0 (Nat.le_refl _) hj (by simp) (by rw [em]; omega) (by
    have h1 := Int.emod_add_mul_ediv n 64
    rw [em]
    simp [vint]
    omega)
  exact ⟨ds', n.fmod 64, h1, h2, by rw [em]; omega, h3, by simpa using h4⟩
theorem octN_len {n : Int} {j : Nat} (h0 : 0 ≤ n) (hj : n < 2 ^ (6 * (j + 1))) : (octN n).length ≤ j + 1 := by
  obtain ⟨ds, e, h, _, _, _, h5⟩ := octN_is h0 hj
  rw [h]; simp; omega
end
section
inductive P0 (L : Addr) (S : Addr) (xs : List Int) (tabs : Led) (o4 : Obj) (o5 : Obj) (o6 : Obj) (o7 : Obj) (m' : Str → Option Value) (news' : Led) : Prop
  | mk (zh1 : m' = (fun y => if y = Str.ofString "script" then some (.ref S) else none)) (u : Nat) (v : Nat) (t1 : Tok) (t2 : Tok) (t3 : Tok) (p1 : Obj) (p2 : Obj) (p3 : Obj) (zh2 : u ∈ sevn) (zh3 : v ∈ sevn) (zh4 : u ≠ v) (zh5 : news' = cells7 L p1 p2 p3 o4 o5 o6 o7 tabs) (zh6 : p1.data = .cell (some (.int xs.sum t1))) (zh7 : p2.data = .cell (some (.str (tx [u]) t2))) (zh8 : p3.data = .cell (some (.str (tx [v]) t3)))
namespace Vstage0
noncomputable def At0 (w : World) (fa : Addr) (cd : Value) (L : Addr) (S : Addr) (vs : List Value) (xs : List Int) (tabs : Led) (o1 : Obj) (o2 : Obj) (o3 : Obj) (o4 : Obj) (o5 : Obj) (o6 : Obj) (o7 : Obj) (zvv : StgV) : Prop := ∀ (hI : IntsAre vs xs) (hl : xs.length ≤ 63) (ht : topA tabs ≤ L) (e1 : o1.data = .cell none) (e2 : o2.data = .cell none) (e3 : o3.data = .cell none), StgAt w fa cd L 0 3 (fun h => h.IsList S vs.toArray) (fun y => if y = Str.ofString "script" then some (.ref S) else none) (cells7 L o1 o2 o3 o4 o5 o6 o7 tabs)
    (P0 L S xs tabs o4 o5 o6 o7) zvv
noncomputable def AtX (x : (World) × (Addr) × (Value) × (Addr) × (Addr) × (List Value) × (List Int) × (Led) × (Obj) × (Obj) × (Obj) × (Obj) × (Obj) × (Obj) × (Obj) × StgV) : Prop := At0 (x.1) (x.2.1) (x.2.2.1) (x.2.2.2.1) (x.2.2.2.2.1) (x.2.2.2.2.2.1) (x.2.2.2.2.2.2.1) (x.2.2.2.2.2.2.2.1) (x.2.2.2.2.2.2.2.2.1) (x.2.2.2.2.2.2.2.2.2.1) (x.2.2.2.2.2.2.2.2.2.2.1) (x.2.2.2.2.2.2.2.2.2.2.2.1) (x.2.2.2.2.2.2.2.2.2.2.2.2.1) (x.2.2.2.2.2.2.2.2.2.2.2.2.2.1) (x.2.2.2.2.2.2.2.2.2.2.2.2.2.2.1) (x.2.2.2.2.2.2.2.2.2.2.2.2.2.2.2)
noncomputable def cc0 : (World) × (Addr) × (Value) × (Addr) × (Addr) × (List Value) × (List Int) × (Led) × (Obj) × (Obj) × (Obj) × (Obj) × (Obj) × (Obj) × (Obj) × StgV := eps1 (ne_prod ne_world (ne_prod ne_addr (ne_prod ne_value (ne_prod ne_addr (ne_prod ne_addr (ne_prod ne_list (ne_prod ne_list (ne_prod ne_led (ne_prod ne_obj (ne_prod ne_obj (ne_prod ne_obj (ne_prod ne_obj (ne_prod ne_obj (ne_prod ne_obj (ne_prod ne_obj stgV_ne))))))))))))))) AtX
noncomputable def w : World := cc0.1
noncomputable def fa : Addr := cc0.2.1
noncomputable def cd : Value := cc0.2.2.1
noncomputable def L : Addr := cc0.2.2.2.1
noncomputable def S : Addr := cc0.2.2.2.2.1
noncomputable def vs : List Value := cc0.2.2.2.2.2.1
noncomputable def xs : List Int := cc0.2.2.2.2.2.2.1
noncomputable def tabs : Led := cc0.2.2.2.2.2.2.2.1
noncomputable def o1 : Obj := cc0.2.2.2.2.2.2.2.2.1
noncomputable def o2 : Obj := cc0.2.2.2.2.2.2.2.2.2.1
noncomputable def o3 : Obj := cc0.2.2.2.2.2.2.2.2.2.2.1
noncomputable def o4 : Obj := cc0.2.2.2.2.2.2.2.2.2.2.2.1
noncomputable def o5 : Obj := cc0.2.2.2.2.2.2.2.2.2.2.2.2.1
noncomputable def o6 : Obj := cc0.2.2.2.2.2.2.2.2.2.2.2.2.2.1
noncomputable def o7 : Obj := cc0.2.2.2.2.2.2.2.2.2.2.2.2.2.2.1
noncomputable def v0 : StgV := cc0.2.2.2.2.2.2.2.2.2.2.2.2.2.2.2
theorem aux (hI : IntsAre vs xs) (hl : xs.length ≤ 63) (ht : topA tabs ≤ L) (e1 : o1.data = .cell none) (e2 : o2.data = .cell none) (e3 : o3.data = .cell none) :
  StgAt w fa cd L 0 3 (fun h => h.IsList S vs.toArray) (fun y => if y = Str.ofString "script" then some (.ref S) else none) (cells7 L o1 o2 o3 o4 o5 o6 o7 tabs)
    (P0 L S xs tabs o4 o5 o6 o7) v0 := by
  intro B F X N T C1 C2 C3 hE hS hret
  (repeat' (first | (with_reducible refine if_ff ?_) | (with_reducible refine if_tt ?_) | (k_unfold; (try dsimp only)) | (k_end; wrow_close) | (cell_step; walk1) | (cell_step; dsimp only; walk1) | (leave1; walk_say "STEP leave1"; try dsimp only) | fail "no step"))
  rename Fr _ _ _ _ => F1
  rename News _ _ _ _ => N1
  have hq := two_signs xs.sum (xs.sum.fdiv 7)
  refine Exists.elim hq fun u hq => Exists.elim hq fun v hq => ?_
  exact hret _ _ _ _ F1 N1 ⟨rfl, u, v, _, _, _, _, _, _, hq.1, hq.2.1, hq.2.2.1, rfl, by assumption, by rw [← hq.2.2.2.1]; assumption, by rw [← hq.2.2.2.2]; assumption⟩
end Vstage0
theorem stage0 (w : World) (fa : Addr) (cd : Value) (L S : Addr) (vs : List Value) (xs : List Int) (hI : IntsAre vs xs) (hl : xs.length ≤ 63) (tabs : Led) (o1 o2 o3 o4 o5 o6 o7 : Obj) (ht : topA tabs ≤ L) (e1 : o1.data = .cell none) (e2 : o2.data = .cell none) (e3 : o3.data = .cell none) :
  Stg w fa cd L 0 3 (fun h => h.IsList S vs.toArray) (fun y => if y = Str.ofString "script" then some (.ref S) else none) (cells7 L o1 o2 o3 o4 o5 o6 o7 tabs)
    (P0 L S xs tabs o4 o5 o6 o7) := stg_of fun zvv => (show Vstage0.At0 w fa cd L S vs xs tabs o1 o2 o3 o4 o5 o6 o7 zvv from eps1_all (P := Vstage0.AtX) @Vstage0.aux (w, fa, cd, L, S, vs, xs, tabs, o1, o2, o3, o4, o5, o6, o7, zvv)) hI hl ht e1 e2 e3
end
end
section
local macro_rules | `(tactic| cell_step) => `(tactic| (walk_at "s1"; walk_at "s2"; walk_at "t2"))
local macro_rules | `(tactic| walk_at "newList") => `(tactic| walk_at "t3")
local macro_rules | `(tactic| walk_at "newTuple") => `(tactic| walk_at "t4")
section
noncomputable abbrev tup4 (p : Mat) (ta tb tc td : Tok) : Obj := { cls := .type "tuple", data := .seq #[.int p.1 ta, .int p.2.1 tb, .int p.2.2.1 tc, .int p.2.2.2 td] }
theorem small_bits {x : Int} (h : smallI x) : Builtin.Int.intBits x ≤ 64 := by
  refine intBits_le_iff.mpr ?_
  have h1 := h.1
  have h2 := h.2
  have e : (2 : Int) ^ 60 = 1152921504606846976 := by decide
  have e2 : (2 : Nat) ^ 64 = 18446744073709551616 := by decide
  rw [e] at h1 h2
  rw [e2]
  omega
theorem small_ok {x y : Int} (h : smallI y) : IntMulOk x y := IntMulOk.of_right (small_bits h)
inductive TupPost (rest : Led) (p : Mat) (v : Value) (news' : Led) : Prop
  | mk (T : Addr) (ta tb tc td : Tok) (zh1 : v = .ref T) (zh2 : news' = (T, tup4 p ta tb tc td) :: rest) (zh3 : topA rest ≤ T)
theorem news_cons {h₀ h : Heap} {L : Addr} {a : Addr × Obj} {b : Led} (N : News h₀ L h b) (ha : a ∈ b) : News h₀ L h (a :: b) := fun p hp => by
  rcases List.mem_cons.mp hp with rfl | hp
  · exact N _ ha
  · exact N _ hp
namespace Vtimes
noncomputable def At0 (w : World) (rest : Led) (A : Addr) (B : Addr) (p : Mat) (q : Mat) (ta : Tok) (tb : Tok) (tc : Tok) (td : Tok) (t1 : Tok) (t2 : Tok) (t3 : Tok) (t4 : Tok) (zvv : TelV) : Prop := ∀ (hA : (A, tup4 p ta tb tc td) ∈ rest) (hB : (B, tup4 q t1 t2 t3 t4) ∈ rest) (hq : smallM q), TelAt w 2 100 (.ref 143) [.ref A, .ref B] rest (TupPost rest (mulM p q)) zvv
noncomputable def AtX (x : (World) × (Led) × (Addr) × (Addr) × (Mat) × (Mat) × (Tok) × (Tok) × (Tok) × (Tok) × (Tok) × (Tok) × (Tok) × (Tok) × TelV) : Prop := At0 (x.1) (x.2.1) (x.2.2.1) (x.2.2.2.1) (x.2.2.2.2.1) (x.2.2.2.2.2.1) (x.2.2.2.2.2.2.1) (x.2.2.2.2.2.2.2.1) (x.2.2.2.2.2.2.2.2.1) (x.2.2.2.2.2.2.2.2.2.1) (x.2.2.2.2.2.2.2.2.2.2.1) (x.2.2.2.2.2.2.2.2.2.2.2.1) (x.2.2.2.2.2.2.2.2.2.2.2.2.1) (x.2.2.2.2.2.2.2.2.2.2.2.2.2.1) (x.2.2.2.2.2.2.2.2.2.2.2.2.2.2)
noncomputable def cc0 : (World) × (Led) × (Addr) × (Addr) × (Mat) × (Mat) × (Tok) × (Tok) × (Tok) × (Tok) × (Tok) × (Tok) × (Tok) × (Tok) × TelV := eps1 (ne_prod ne_world (ne_prod ne_led (ne_prod ne_addr (ne_prod ne_addr (ne_prod (ne_prod ne_int (ne_prod ne_int (ne_prod ne_int ne_int))) (ne_prod (ne_prod ne_int (ne_prod ne_int (ne_prod ne_int ne_int))) (ne_prod ne_tok (ne_prod ne_tok (ne_prod ne_tok (ne_prod ne_tok (ne_prod ne_tok (ne_prod ne_tok (ne_prod ne_tok (ne_prod ne_tok telV_ne)))))))))))))) AtX
noncomputable def w : World := cc0.1
noncomputable def rest : Led := cc0.2.1
noncomputable def A : Addr := cc0.2.2.1
noncomputable def B : Addr := cc0.2.2.2.1
noncomputable def p : Mat := cc0.2.2.2.2.1
noncomputable def q : Mat := cc0.2.2.2.2.2.1
noncomputable def ta : Tok := cc0.2.2.2.2.2.2.1
noncomputable def tb : Tok := cc0.2.2.2.2.2.2.2.1
noncomputable def tc : Tok := cc0.2.2.2.2.2.2.2.2.1
noncomputable def td : Tok := cc0.2.2.2.2.2.2.2.2.2.1
noncomputable def t1 : Tok := cc0.2.2.2.2.2.2.2.2.2.2.1
noncomputable def t2 : Tok := cc0.2.2.2.2.2.2.2.2.2.2.2.1
noncomputable def t3 : Tok := cc0.2.2.2.2.2.2.2.2.2.2.2.2.1
noncomputable def t4 : Tok := cc0.2.2.2.2.2.2.2.2.2.2.2.2.2.1
noncomputable def v0 : TelV := cc0.2.2.2.2.2.2.2.2.2.2.2.2.2.2
noncomputable abbrev h₀ := v0.h₀
noncomputable abbrev L := v0.L
theorem aux (hA : (A, tup4 p ta tb tc td) ∈ rest) (hB : (B, tup4 q t1 t2 t3 t4) ∈ rest) (hq : smallM q) :
  TelAt w 2 100 (.ref 143) [.ref A, .ref B] rest (TupPost rest (mulM p q)) v0 := by
  intro B' F X N T C1 C2 C3 hk hd hu hret
  refine wpAny_call ?_
  have N9 := news_cons (news_cons N hB) (.tail _ hA)
  clear N
  have hm1 : ∀ x, IntMulOk x q.1 := fun x => small_ok hq.1
  have hm2 : ∀ x, IntMulOk x q.2.1 := fun x => small_ok hq.2.1
  have hm3 : ∀ x, IntMulOk x q.2.2.1 := fun x => small_ok hq.2.2.1
  have hm4 : ∀ x, IntMulOk x q.2.2.2 := fun x => small_ok hq.2.2.2
  have k1 := hm1 p.1
  have k2 := hm3 p.2.1
  have k3 := hm2 p.1
  have k4 := hm4 p.2.1
  have k5 := hm1 p.2.2.1
  have k6 := hm3 p.2.2.2
  have k7 := hm2 p.2.2.1
  have k8 := hm4 p.2.2.2
  k_dflt (first | (refine' code_defC ?k1 ?k2 ?k3 ?k4 ?k5 ?kA ?kF ?kK ?k6 ?k7 ?k8 ?k9 ?kB ?kD ?_ ?c2 ?c3 ?c4; (case kA => exact rfl); (case kF => exact rfl); (case kK => first | exact rfl | assumption); (case k1 => k_asm); (case k2 => k_asm); (case k3 => k_asm); (case k4 => k_asm); (case k5 => k_asm); (case k6 => k_is); (case k7 => k_is); (case k8 => k_room); (case k9 => first | exact BindsTo.of_eq rfl | exact binds_K (by k_in) rfl (by k_is) rfl rfl rfl | fail "k_enter: no rule for these arguments"); (case kB => exact rfl); (case kD => decide +kernel); (case c2 => exact rfl); (case c3 => exact rfl); (case c4 => exact rfl); k_whole; intro z9g z9L z9h z9tk z9cells z9FG z9F z9N z9Y z9B z9X z9T z9l1; (try k_lt z9l1); k_cells z9Y; (try simp only [List.cons_append, List.nil_append] at z9N); (try dsimp only); (try k_lift z9B); (try k_fold)) | cell_enter)
  (repeat' (first | (with_reducible refine if_ff ?_) | (with_reducible refine if_tt ?_) | (k_unfold; (try dsimp only)) | (k_end; wrow_close) | (cell_step; walk1) | (cell_step; dsimp only; walk1) | (leave1; walk_say "STEP leave1"; try dsimp only) | fail "no step"))
  rename Fr h₀ L _ _ => F8
  rename News h₀ L _ _ => N8
  rename (_ ∧ _) => l8
  refine hret _ _ _ _ F8 (news_skip2 (news_skip2 N8)) ⟨_, _, _, _, _, rfl, rfl, l8.2.2⟩
end Vtimes
theorem times (w : World) (rest : Led) (A B : Addr) (p q : Mat) (ta tb tc td t1 t2 t3 t4 : Tok) (hA : (A, tup4 p ta tb tc td) ∈ rest) (hB : (B, tup4 q t1 t2 t3 t4) ∈ rest) (hq : smallM q) :
  Tel w 2 100 (.ref 143) [.ref A, .ref B] rest (TupPost rest (mulM p q)) := tel_of fun zvv => (show Vtimes.At0 w rest A B p q ta tb tc td t1 t2 t3 t4 zvv from eps1_all (P := Vtimes.AtX) @Vtimes.aux (w, rest, A, B, p, q, ta, tb, tc, td, t1, t2, t3, t4, zvv)) hA hB hq
namespace Vinverse
noncomputable def At0 (w : World) (rest : Led) (A : Addr) (p : Mat) (ta : Tok) (tb : Tok) (tc : Tok) (td : Tok) (zvv : TelV) : Prop := ∀ (hA : (A, tup4 p ta tb tc td) ∈ rest), TelAt w 2 100 (.ref 150) [.ref A] rest (TupPost rest (invM p)) zvv
noncomputable def w : World := eps1 ne_world (fun w => ∀ rest A p ta tb tc td zvv, At0 w rest A p ta tb tc td zvv)
noncomputable def rest : Led := eps1 ne_led (fun rest => ∀ A p ta tb tc td zvv, At0 w rest A p ta tb tc td zvv)
noncomputable def A : Addr := eps1 ne_addr (fun A => ∀ p ta tb tc td zvv, At0 w rest A p ta tb tc td zvv)
noncomputable def p : Mat := eps1 (ne_prod ne_int (ne_prod ne_int (ne_prod ne_int ne_int))) (fun p => ∀ ta tb tc td zvv, At0 w rest A p ta tb tc td zvv)
noncomputable def ta : Tok := eps1 ne_tok (fun ta => ∀ tb tc td zvv, At0 w rest A p ta tb tc td zvv)
noncomputable def tb : Tok := eps1 ne_tok (fun tb => ∀ tc td zvv, At0 w rest A p ta tb tc td zvv)
noncomputable def tc : Tok := eps1 ne_tok (fun tc => ∀ td zvv, At0 w rest A p ta tb tc td zvv)
noncomputable def td : Tok := eps1 ne_tok (fun td => ∀ zvv, At0 w rest A p ta tb tc td zvv)
noncomputable def v0 : TelV := eps1 telV_ne (fun zvv => At0 w rest A p ta tb tc td zvv)
noncomputable abbrev h₀ := v0.h₀
noncomputable abbrev L := v0.L
theorem aux (hA : (A, tup4 p ta tb tc td) ∈ rest) :
  TelAt w 2 100 (.ref 150) [.ref A] rest (TupPost rest (invM p)) v0 := by
  intro B' F X N T C1 C2 C3 hk hd hu hret
  refine wpAny_call ?_
  have N9 := news_cons N hA
  clear N
  k_dflt (first | (refine' code_defC ?k1 ?k2 ?k3 ?k4 ?k5 ?kA ?kF ?kK ?k6 ?k7 ?k8 ?k9 ?kB ?kD ?_ ?c2 ?c3 ?c4; (case kA => exact rfl); (case kF => exact rfl); (case kK => first | exact rfl | assumption); (case k1 => k_asm); (case k2 => k_asm); (case k3 => k_asm); (case k4 => k_asm); (case k5 => k_asm); (case k6 => k_is); (case k7 => k_is); (case k8 => k_room); (case k9 => first | exact BindsTo.of_eq rfl | exact binds_K (by k_in) rfl (by k_is) rfl rfl rfl | fail "k_enter: no rule for these arguments"); (case kB => exact rfl); (case kD => decide +kernel); (case c2 => exact rfl); (case c3 => exact rfl); (case c4 => exact rfl); k_whole; intro z9g z9L z9h z9tk z9cells z9FG z9F z9N z9Y z9B z9X z9T z9l1; (try k_lt z9l1); k_cells z9Y; (try simp only [List.cons_append, List.nil_append] at z9N); (try dsimp only); (try k_lift z9B); (try k_fold)) | cell_enter)
  (repeat' (first | (with_reducible refine if_ff ?_) | (with_reducible refine if_tt ?_) | (k_unfold; (try dsimp only)) | (k_end; wrow_close) | (cell_step; walk1) | (cell_step; dsimp only; walk1) | (leave1; walk_say "STEP leave1"; try dsimp only) | fail "no step"))
  rename Fr h₀ L _ _ => F8
  rename News h₀ L _ _ => N8
  rename (_ ∧ _) => l8
  refine hret _ _ _ _ F8 (news_skip2 N8) ⟨_, _, _, _, _, rfl, rfl, l8.2⟩
end Vinverse
theorem inverse (w : World) (rest : Led) (A : Addr) (p : Mat) (ta tb tc td : Tok) (hA : (A, tup4 p ta tb tc td) ∈ rest) :
  Tel w 2 100 (.ref 150) [.ref A] rest (TupPost rest (invM p)) := tel_of fun zvv => (show ∀ w rest A p ta tb tc td zvv, Vinverse.At0 w rest A p ta tb tc td zvv from (eps1_all (eps1_all (eps1_all (eps1_all (eps1_all (eps1_all (eps1_all (eps1_all (eps1_all @Vinverse.aux)))))))))) w rest A p ta tb tc td zvv hA
end
section
theorem mul_one_tx (u : Nat) (n : Int) (h : 0 ≤ n) : Txt.mul (tx [u]) n = tx (List.replicate n.toNat u) := by
  unfold Txt.mul
  by_cases h1 : n < 1
  · obtain rfl : n = 0 := by omega
    rfl
  · rw [if_neg h1]
    by_cases h2 : n = 1
    · subst h2; rfl
    · rw [if_neg (by simp [h2, Str.length])]
      have key : ∀ (k : Nat) (a : List Nat), (List.replicate k (#[u] : Array Nat)).foldl (· ++ ·) a.toArray = (a ++ List.replicate k u).toArray := by
        intro k
        induction k with
        | zero => intro a; simp
        | succ k ih =>
          intro a
          rw [List.replicate_succ, List.foldl_cons, show a.toArray ++ #[u] = (a ++ [u]).toArray by simp, ih, List.replicate_succ]
          simp
      have := key n.toNat []
      simp only [List.nil_append] at this
      exact congrArg Str.mk this
section
variable {prog : Program} {w : World} {A : Around} {E : Value → Shared → Prop} {s : Shared}
theorem mul_sign {u : Nat} {n : Int} {t k : Tok} {Q : Value → Shared → Prop} (h0 : 0 ≤ n) (h1 : n ≤ 4095) (h : ∀ t' k', Q (.str (tx (List.replicate n.toNat u)) t') { s with toks := k' }) :
    wpAny (model prog w) A (binaryOp .Mult (.str (tx [u]) t) (.int n k)) Q E s := by
  refine SB.mul (mulOk_of 4095 4095 (by simp [Str.length]) h1 (by omega) (by decide) (by decide)) fun t' k' => ?_
  rw [mul_one_tx u n h0]
  exact h t' k'
end
inductive WordPost (tb rest : Led) (r : List Nat) (v : Value) (news' : Led) : Prop
  | mk (t : Tok) (tb' : Led) (zh1 : v = .str (tx r) t) (zh2 : news' = tb' ++ rest) (zh3 : Tabs tb') (zh4 : Newer tb tb' (topA rest))
inductive WordInv (tb rest : Led) (x : List Bool) (u v : Nat) (tf ts : Tok) (k : Nat) (m' : Str → Option Value) (nx : Led) : Prop
  | mk (d r : List Bool) (tt tl tw : Tok) (tb' : Led) (zh1 : x = d ++ r) (zh2 : k = r.length) (zh3 : Has m' [(Str.ofString "top", .int (topM (mw r)) tt), (Str.ofString "low", .int (lowM (mw r)) tl), (Str.ofString "word", .str (tx (sgn u v d)) tw), (Str.ofString "first", .str (tx [u]) tf), (Str.ofString "second", .str (tx [v]) ts)]) (zh4 : nx = tb' ++ rest) (zh5 : Tabs tb') (zh6 : Newer tb tb' (topA rest))
theorem news_perm {h₀ h : Heap} {L : Addr} {a b : Led} (N : News h₀ L h a) (hs : ∀ p ∈ b, p ∈ a) : News h₀ L h b := fun p hp => N p (hs p hp)
theorem nDig_le {n : Nat} {a : Int} (hn : 0 < n) : nDig n a ≤ Builtin.Int.intBits a := by
  unfold nDig
  generalize Builtin.Int.intBits a = x
  obtain ⟨k, rfl⟩ : ∃ k, n = k + 1 := ⟨n - 1, by omega⟩
  cases x with
  | zero => exact Nat.le_of_eq (Nat.div_eq_of_lt (by omega))
  | succ y =>
    refine Nat.div_le_of_le_mul ?_
    have : (k + 1) * (y + 1) = k * y + k + y + 1 := by grind
    rw [this]
    omega
theorem bits_pos {b : Int} (hb : b ≠ 0) : 0 < Builtin.Int.intBits b := by
  rcases Nat.eq_zero_or_pos (Builtin.Int.intBits b) with h | h
  · have := intBits_le_iff.mp (Nat.le_of_eq h)
    simp at this
    exact absurd this hb
  · exact h
theorem top_right (a b : Led) : topA b ≤ topA (a ++ b) := by rw [topA_app]; exact Nat.le_max_right _ _
theorem word (w : World) (tb rest : Led) (A : Addr) (x : List Bool) (u v : Nat) (ta tc t1 t2 tf ts : Tok) (hA : (A, tup4 (mw x) ta tc t1 t2) ∈ rest) (hx : x.length ≤ 100) (hb1 : topM (mw x) < 2 ^ 60) (hb2 : lowM (mw x) < 2 ^ 60) (off1 : OwnOff rest [37]) (off2 : OwnOff rest [44]) (ht : Tabs tb) :
  Tel w 270 2400 (.ref 157) [.ref A, .str (tx [u]) tf, .str (tx [v]) ts] (tb ++ rest) (WordPost tb rest (sgn u v x)) := by
  intro mean mg mb dp un gd cn cs a ccd cl outer A₀ base h₀ L m s Q E B' F X N T C1 C2 C3 hk hd hu hret
  refine wpAny_call ?_
  have N9 := news_cons N (List.mem_append_right _ hA)
  clear N
  k_dflt (first | (refine' code_defC ?k1 ?k2 ?k3 ?k4 ?k5 ?kA ?kF ?kK ?k6 ?k7 ?k8 ?k9 ?kB ?kD ?_ ?c2 ?c3 ?c4; (case kA => exact rfl); (case kF => exact rfl); (case kK => first | exact rfl | assumption); (case k1 => k_asm); (case k2 => k_asm); (case k3 => k_asm); (case k4 => k_asm); (case k5 => k_asm); (case k6 => k_is); (case k7 => k_is); (case k8 => k_room); (case k9 => first | exact BindsTo.of_eq rfl | exact binds_K (by k_in) rfl (by k_is) rfl rfl rfl | fail "k_enter: no rule for these arguments"); (case kB => exact rfl); (case kD => decide +kernel); (case c2 => exact rfl); (case c3 => exact rfl); (case c4 => exact rfl); k_whole; intro z9g z9L z9h z9tk z9cells z9FG z9F z9N z9Y z9B z9X z9T z9l1; (try k_lt z9l1); k_cells z9Y; (try simp only [List.cons_append, List.nil_append] at z9N); (try dsimp only); (try k_lift z9B); (try k_fold)) | cell_enter)
  (repeat' (first | (with_reducible refine if_ff ?_) | (with_reducible refine if_tt ?_) | (k_unfold; (try dsimp only)) | (k_end; wrow_close) | (cell_step; walk1) | (cell_step; dsimp only; walk1) | (leave1; walk_say "STEP leave1"; try dsimp only) | fail "no step"))
  walk1
  (repeat' (first | (with_reducible refine if_ff ?_) | (with_reducible refine if_tt ?_) | (k_unfold; (try dsimp only)) | (k_end; wrow_close) | (cell_step; walk1) | (cell_step; dsimp only; walk1) | (leave1; walk_say "STEP leave1"; try dsimp only) | fail "no step"))
  walk1
  (repeat' (first | (with_reducible refine if_ff ?_) | (with_reducible refine if_tt ?_) | (k_unfold; (try dsimp only)) | (k_end; wrow_close) | (cell_step; walk1) | (cell_step; dsimp only; walk1) | (leave1; walk_say "STEP leave1"; try dsimp only) | fail "no step"))
  walk1
  (repeat' (first | (with_reducible refine if_ff ?_) | (with_reducible refine if_tt ?_) | (k_unfold; (try dsimp only)) | (k_end; wrow_close) | (cell_step; walk1) | (cell_step; dsimp only; walk1) | (leave1; walk_say "STEP leave1"; try dsimp only) | fail "no step"))
  walk1
  (repeat' (first | (with_reducible refine if_ff ?_) | (with_reducible refine if_tt ?_) | (k_unfold; (try dsimp only)) | (k_end; wrow_close) | (cell_step; walk1) | (cell_step; dsimp only; walk1) | (leave1; walk_say "STEP leave1"; try dsimp only) | fail "no step"))
  rename Fr _ _ _ _ => F1
  rename News _ _ _ _ => N0
  have N1 := news_tail N0
  clear N0
  with_unfolding_all refine While_invR (n₀ := x.length) (WordInv tb rest x u v tf ts) F1 N1 ?hJ ?turn
  case hJ =>
    exact ⟨[], x, _, _, _, tb, rfl, rfl, ⟨rfl, rfl, rfl, rfl, rfl, trivial⟩, rfl, ht, Newer.rfl _ _⟩
  case turn =>
    rintro k m' nx h6 tk6 F6 N6 ⟨d, r, tt, tl, tw, tb', hx6, rfl, hM, rfl, ht', hnew⟩ R9 R8 hR9 hR8
    have F7 := fr_all0 hM F6
    clear F6
    obtain ⟨p1, p2⟩ := mw_pos r
    have q1 := suff_le r d
    rw [← hx6] at q1
    have hl6 := congrArg List.length hx6
    rw [List.length_append] at hl6
    have hdl := sgn_len u v d
    (repeat' (first | (with_reducible refine if_ff ?_) | (with_reducible refine if_tt ?_) | (k_unfold; (try dsimp only)) | (k_end; wrow_close) | (cell_step; walk1) | (cell_step; dsimp only; walk1) | (leave1; walk_say "STEP leave1"; try dsimp only) | fail "no step"))
    · rename (lowM (mw r) < topM (mw r)) => hlt
      obtain ⟨n, r', f1, f2, f3, f4⟩ := run_tt r (by omega)
      have p3 := mw_pos r'
      have hrl := congrArg List.length f1
      rw [List.length_append, List.length_replicate] at hrl
      have hb6 : Builtin.Int.intBits (topM (mw r) - 1) ≤ 60 := bits_of_lt (by omega) (by omega)
      have hb7 : Builtin.Int.intBits (lowM (mw r)) ≤ 60 := bits_of_lt (by omega) (by omega)
      have hn := nDig_le (n := Builtin.Int.intBits (lowM (mw r))) (a := topM (mw r) - 1) (bits_pos (by omega))
      (refine' tel_use ?tH ?tB ?tF ?tX ?tN ?tT ?tC1 ?tC2 ?tC3 ?tk ?td ?tu ?_; (case tB => k_asm); (case tF => k_asm); (case tX => k_asm); (case tN => k_asm); (case tT => k_asm); (case tC1 => assumption); (case tC2 => assumption); (case tC3 => assumption); (case tk => first | exact rfl | assumption); (case tH => exact (idm w tb' rest (topM (mw r) - 1) (lowM (mw r)) _ _ (by omega) (by omega) (Nat.lt_of_le_of_lt hb6 (by decide)) (by omega) off1 off2 ht')); (case td => ktr_room); (case tu => ktr_units))
      rintro v8 h8 tk8 news8 F8 N8 ⟨d8, tq8, tr8, tb8, rfl, hd8, rfl, ht8, hnew8⟩
      have edm := divmod_is (a := topM (mw r) - 1) (b := lowM (mw r)) (q := ((n + 1 : Nat) : Int)) (r := topM (mw r') - 1) (by rw [f2]; omega) (by omega) (by omega)
      rw [Int.fdiv_eq_ediv_of_nonneg _ (by omega), Int.fmod_eq_emod_of_nonneg _ (by omega), edm.1, edm.2] at N8
      (try dsimp only)
      (repeat' (first | (with_reducible refine if_ff ?_) | (with_reducible refine if_tt ?_) | (k_unfold; (try dsimp only)) | (k_end; wrow_close) | (cell_step; walk1) | (cell_step; dsimp only; walk1) | (leave1; walk_say "STEP leave1"; try dsimp only) | fail "no step"))
      refine mul_sign (by omega) (by omega) fun t9 k9 => ?_
      (try dsimp only)
      rw [show ((n + 1 : Nat) : Int).toNat = n + 1 from rfl]
      (repeat' (first | (with_reducible refine if_ff ?_) | (with_reducible refine if_tt ?_) | (k_unfold; (try dsimp only)) | (k_end; wrow_close) | (cell_step; walk1) | (cell_step; dsimp only; walk1) | (leave1; walk_say "STEP leave1"; try dsimp only) | fail "no step"))
      refine PyProof.Rows.add_str (hsz := by simp only [show ∀ z : List Nat, (tx z).length = z.length from fun z => by simp [Str.length], sizeLine_eq, hdl, List.length_replicate]; omega) ?_
      intro t10 k10
      (try dsimp only)
      (repeat' (first | (with_reducible refine if_ff ?_) | (with_reducible refine if_tt ?_) | (k_unfold; (try dsimp only)) | (k_end; wrow_close) | (cell_step; walk1) | (cell_step; dsimp only; walk1) | (leave1; walk_say "STEP leave1"; try dsimp only) | fail "no step"))
      rename Fr _ _ _ _ => F9
      rename News _ _ _ _ => N9
      refine hR9 _ _ ?_
      dsimp only [WhileStep2]
      simp only [Int.sub_add_cancel] at F9
      rw [← f3, tx_append, ← sgn_tt u v (n + 1), ← sgn_app] at F9
      refine ⟨_, _, _, _, r'.length, rfl, F9, news_tail N9, by omega, d ++ List.replicate (n + 1) true, r', _, _, _, tb8, by rw [hx6, f1, List.append_assoc], rfl, ⟨rfl, rfl, rfl, rfl, rfl, trivial⟩, rfl, ht8, hnew.trans (hnew8.weaken (top_right _ _)) (Nat.le_refl _)⟩
    · rename (¬ lowM (mw r) < topM (mw r)) => hlt
      obtain ⟨n, r', f1, f2, f3, f4⟩ := run_ff r (by omega)
      have p3 := mw_pos r'
      have hrl := congrArg List.length f1
      rw [List.length_append, List.length_replicate] at hrl
      have hb6 : Builtin.Int.intBits (lowM (mw r) - 1) ≤ 60 := bits_of_lt (by omega) (by omega)
      have hb7 : Builtin.Int.intBits (topM (mw r)) ≤ 60 := bits_of_lt (by omega) (by omega)
      have hn := nDig_le (n := Builtin.Int.intBits (topM (mw r))) (a := lowM (mw r) - 1) (bits_pos (by omega))
      (refine' tel_use ?tH ?tB ?tF ?tX ?tN ?tT ?tC1 ?tC2 ?tC3 ?tk ?td ?tu ?_; (case tB => k_asm); (case tF => k_asm); (case tX => k_asm); (case tN => k_asm); (case tT => k_asm); (case tC1 => assumption); (case tC2 => assumption); (case tC3 => assumption); (case tk => first | exact rfl | assumption); (case tH => exact (idm w tb' rest (lowM (mw r) - 1) (topM (mw r)) _ _ (by omega) (by omega) (Nat.lt_of_le_of_lt hb6 (by decide)) (by omega) off1 off2 ht')); (case td => ktr_room); (case tu => ktr_units))
      rintro v8 h8 tk8 news8 F8 N8 ⟨d8, tq8, tr8, tb8, rfl, hd8, rfl, ht8, hnew8⟩
      have edm := divmod_is (a := lowM (mw r) - 1) (b := topM (mw r)) (q := ((n + 1 : Nat) : Int)) (r := lowM (mw r') - 1) (by rw [f2]; omega) (by omega) (by omega)
      rw [Int.fdiv_eq_ediv_of_nonneg _ (by omega), Int.fmod_eq_emod_of_nonneg _ (by omega), edm.1, edm.2] at N8
      (try dsimp only)
      (repeat' (first | (with_reducible refine if_ff ?_) | (with_reducible refine if_tt ?_) | (k_unfold; (try dsimp only)) | (k_end; wrow_close) | (cell_step; walk1) | (cell_step; dsimp only; walk1) | (leave1; walk_say "STEP leave1"; try dsimp only) | fail "no step"))
      refine mul_sign (by omega) (by omega) fun t9 k9 => ?_
      (try dsimp only)
      rw [show ((n + 1 : Nat) : Int).toNat = n + 1 from rfl]
      (repeat' (first | (with_reducible refine if_ff ?_) | (with_reducible refine if_tt ?_) | (k_unfold; (try dsimp only)) | (k_end; wrow_close) | (cell_step; walk1) | (cell_step; dsimp only; walk1) | (leave1; walk_say "STEP leave1"; try dsimp only) | fail "no step"))
      refine PyProof.Rows.add_str (hsz := by simp only [show ∀ z : List Nat, (tx z).length = z.length from fun z => by simp [Str.length], sizeLine_eq, hdl, List.length_replicate]; omega) ?_
      intro t10 k10
      (try dsimp only)
      (repeat' (first | (with_reducible refine if_ff ?_) | (with_reducible refine if_tt ?_) | (k_unfold; (try dsimp only)) | (k_end; wrow_close) | (cell_step; walk1) | (cell_step; dsimp only; walk1) | (leave1; walk_say "STEP leave1"; try dsimp only) | fail "no step"))
      rename Fr _ _ _ _ => F9
      rename News _ _ _ _ => N9
      refine hR9 _ _ ?_
      dsimp only [WhileStep2]
      simp only [Int.sub_add_cancel] at F9
      rw [← f3, tx_append, ← sgn_ff u v (n + 1), ← sgn_app] at F9
      refine ⟨_, _, _, _, r'.length, rfl, F9, news_tail N9, by omega, d ++ List.replicate (n + 1) false, r', _, _, _, tb8, by rw [hx6, f1, List.append_assoc], rfl, ⟨rfl, rfl, rfl, rfl, rfl, trivial⟩, rfl, ht8, hnew.trans (hnew8.weaken (top_right _ _)) (Nat.le_refl _)⟩
    · refine hR8 _ ?_
      (try dsimp only)
      (repeat' (first | (with_reducible refine if_ff ?_) | (with_reducible refine if_tt ?_) | (k_unfold; (try dsimp only)) | (k_end; wrow_close) | (cell_step; walk1) | (cell_step; dsimp only; walk1) | (leave1; walk_say "STEP leave1"; try dsimp only) | fail "no step"))
      rename Fr h₀ L _ _ => F8
      rename News h₀ L _ _ => N8
      obtain rfl := top_eq r (by assumption)
      rw [List.append_nil] at hx6
      subst hx6
      exact hret _ _ _ _ F8 N8 ⟨_, tb', rfl, rfl, ht', hnew⟩
end
section
noncomputable def TelP (w : World) (d u : Nat) (f : Value) (args : List Value) (news : Led) (P : Heap → Prop) (R : Value → Led → Prop) : Prop :=
  ∀ (mean : ExcName → Option Value) (mg mb : Str → Option Value) (dp un : Nat) (gd : Option (List Code)) (cn : Str) (cs : Scope) (a : Addr) (ccd : Value) (cl : List (Str × Addr)) (outer : List Env) (A₀ : Around) (base h₀ : Heap) (L : Addr) (m : Str → Option Value) (s : Shared) (Q E : Value → Shared → Prop),
    P h₀ → Below A₀ base outer h₀ → Fr h₀ L s.heap m → (hd01.heap_1 w.params).In h₀ → News h₀ L s.heap news → Top topProg topL mean mg mb h₀ → CodeHd base 135 131 → CodeHd base 48 44 → CodeHd base 41 37 → cs.kind = .function → dp + d < recursionLimit → un + u < cLine →
    (∀ v h' tk' news', Fr h₀ L h' m → News h₀ L h' news' → R v news' → Q v { s with heap := h', toks := tk' }) →
    wpAny (model Challenge.rw_ty0035_01.row.prog w) (ktrTop dp un gd cn cs L a ccd cl outer) (call f args) Q E s
noncomputable def TelPAt (w : World) (d u : Nat) (f : Value) (args : List Value) (news : Led) (P : Heap → Prop) (R : Value → Led → Prop) (v : TelV) : Prop :=
  P v.h₀ → Below v.A₀ v.base v.outer v.h₀ → Fr v.h₀ v.L v.s.heap v.m → (hd01.heap_1 w.params).In v.h₀ → News v.h₀ v.L v.s.heap news → Top topProg topL v.mean v.mg v.mb v.h₀ → CodeHd v.base 135 131 → CodeHd v.base 48 44 → CodeHd v.base 41 37 → v.cs.kind = .function → v.dp + d < recursionLimit → v.un + u < cLine →
    (∀ x h' tk' news', Fr v.h₀ v.L h' v.m → News v.h₀ v.L h' news' → R x news' → v.Q x { v.s with heap := h', toks := tk' }) →
    wpAny (model Challenge.rw_ty0035_01.row.prog w) (ktrTop v.dp v.un v.gd v.cn v.cs v.L v.a v.ccd v.cl v.outer) (call f args) v.Q v.E v.s
theorem telP_of {w : World} {d u : Nat} {f : Value} {args : List Value} {news : Led} {P : Heap → Prop} {R : Value → Led → Prop} (h : ∀ v, TelPAt w d u f args news P R v) : TelP w d u f args news P R :=
  fun mean mg mb dp un gd cn cs a ccd cl outer A₀ base h₀ L m s Q E => h ⟨mean, mg, mb, dp, un, gd, cn, cs, a, ccd, cl, outer, A₀, base, h₀, L, m, s, Q, E⟩
theorem list_keep {h h' : Heap} {S : Addr} {a : Array Value} (hl : h.IsList S a) (k : ∀ b o, h.get? b = some o → h'.get? b = some o) : h'.IsList S a := by
  obtain ⟨o, e, r⟩ := hl
  exact ⟨o, k _ _ e, r⟩
theorem cell_ok (a : Int) : 0 ≤ a.fmod (10 ^ Int.toNat 9) ∧ a.fmod (10 ^ Int.toNat 9) < 1000000000 := by
  have e : (10 : Int) ^ Int.toNat 9 = 1000000000 := by decide
  rw [e, Int.fmod_eq_emod_of_nonneg _ (by decide)]
  omega
theorem lack_ok : ∀ n ∈ ([64, 64, 66, 69, 71, 67, 100, 70, 3] : List Int), 0 ≤ n ∧ n < 1000000000 := by decide
inductive CellPost (rest : Led) (v : Value) (news' : Led) : Prop
  | mk (D : Addr) (us : List Value) (ns : List Int) (k : Nat) (zh1 : v = .ref D) (zh2 : IntsAre us ns) (zh3 : ns.length = 9) (zh4 : ∀ n ∈ ns, 0 ≤ n ∧ n < 1000000000) (zh5 : topA rest ≤ D) (zh6 : news' = (D, W.listOf us.toArray k) :: rest)
namespace Vcells
noncomputable def At0 (w : World) (rest : Led) (S : Addr) (vs : List Value) (xs : List Int) (zvv : TelV) : Prop := ∀ (hi : IntsAre vs xs) (hl : xs.length ≤ 63), TelPAt w 2 100 (.ref 117) [.ref S] rest (fun h => h.IsList S vs.toArray) (CellPost rest) zvv
noncomputable def w : World := eps1 ne_world (fun w => ∀ rest S vs xs zvv, At0 w rest S vs xs zvv)
noncomputable def rest : Led := eps1 ne_led (fun rest => ∀ S vs xs zvv, At0 w rest S vs xs zvv)
noncomputable def S : Addr := eps1 ne_addr (fun S => ∀ vs xs zvv, At0 w rest S vs xs zvv)
noncomputable def vs : List Value := eps1 ne_list (fun vs => ∀ xs zvv, At0 w rest S vs xs zvv)
noncomputable def xs : List Int := eps1 ne_list (fun xs => ∀ zvv, At0 w rest S vs xs zvv)
noncomputable def v0 : TelV := eps1 telV_ne (fun zvv => At0 w rest S vs xs zvv)
noncomputable abbrev cl := v0.cl
noncomputable abbrev h₀ := v0.h₀
noncomputable abbrev L := v0.L
theorem aux (hi : IntsAre vs xs) (hl : xs.length ≤ 63) :
  TelPAt w 2 100 (.ref 117) [.ref S] rest (fun h => h.IsList S vs.toArray) (CellPost rest) v0 := by
  intro hS B F X N T C1 C2 C3 hk hd hu hret
  refine wpAny_call ?_
  k_dflt (first | (refine' code_defC ?k1 ?k2 ?k3 ?k4 ?k5 ?kA ?kF ?kK ?k6 ?k7 ?k8 ?k9 ?kB ?kD ?_ ?c2 ?c3 ?c4; (case kA => exact rfl); (case kF => exact rfl); (case kK => first | exact rfl | assumption); (case k1 => k_asm); (case k2 => k_asm); (case k3 => k_asm); (case k4 => k_asm); (case k5 => k_asm); (case k6 => k_is); (case k7 => k_is); (case k8 => k_room); (case k9 => first | exact BindsTo.of_eq rfl | exact binds_K (by k_in) rfl (by k_is) rfl rfl rfl | fail "k_enter: no rule for these arguments"); (case kB => exact rfl); (case kD => decide +kernel); (case c2 => exact rfl); (case c3 => exact rfl); (case c4 => exact rfl); k_whole; intro z9g z9L z9h z9tk z9cells z9FG z9F z9N z9Y z9B z9X z9T z9l1; (try k_lt z9l1); k_cells z9Y; (try simp only [List.cons_append, List.nil_append] at z9N); (try dsimp only); (try k_lift z9B); (try k_fold)) | cell_enter)
  (repeat' (first | (with_reducible refine if_ff ?_) | (with_reducible refine if_tt ?_) | (k_unfold; (try dsimp only)) | (k_end; wrow_close) | (cell_step; walk1) | (cell_step; dsimp only; walk1) | (leave1; walk_say "STEP leave1"; try dsimp only) | fail "no step"))
  rename Fr h₀ L _ _ => FG
  rename Fr _ _ _ _ => F7
  rename News _ _ _ _ => N7
  have hS1 := list_keep hS FG.keep
  have hlen := hi.length
  refine LCg.ListComp_U (cl := []) F7 ?a1 ?a2 ?a3 ?a4 ?a5 ?_
  case a1 => with_unfolding_all rfl
  case a2 => decide
  case a3 => rfl
  case a4 => decide
  case a5 => rfl
  (repeat' (first | (with_reducible refine if_ff ?_) | (with_reducible refine if_tt ?_) | (k_unfold; (try dsimp only)) | (k_end; wrow_close) | (cell_step; walk1) | (cell_step; dsimp only; walk1) | (leave1; walk_say "STEP leave1"; try dsimp only) | fail "no step"))
  rename (IntsAre _ (List.take 9 xs)) => hI9
  rename Fr _ _ _ _ => F9
  rename News _ _ _ _ => N9
  have hul := hI9.length
  rw [List.length_take] at hul
  refine' LCg.CompSrc.ledger ?hh F9 N9 (.head _) ?sz ?_
  case hh => exact rfl
  case sz => simp [sizeLine]; omega
  intro g9
  refine comp_ind (fun i ys nx => nx = _ ∧ ∃ zs : List Int, IntsAre ys zs ∧ zs.length = i ∧ ∀ z ∈ zs, 0 ≤ z ∧ z < 1000000000) ⟨rfl, [], .nil, rfl, fun z h => nomatch h⟩ ?turn ?fin
  case turn =>
    rintro i v9 ys nx hi9 hv9 ⟨rfl, zs, hzs, hzl, hzb⟩ I9 oI9 C9 oC9 D9 m₉ h9 tk9 E9 hC9 hx9 F10 N10 off9 ne9
    obtain ⟨z, tz, hz1, hz2⟩ := IntsAre.at hI9 i v9 (by simpa using hv9)
    rw [hz1] at hx9
    (repeat' (first | (with_reducible refine if_ff ?_) | (with_reducible refine if_tt ?_) | (k_unfold; (try dsimp only)) | (k_end; wrow_close) | (cell_step; walk1) | (cell_step; dsimp only; walk1) | (leave1; walk_say "STEP leave1"; try dsimp only) | fail "no step"))
    refine LCg.CompEnd.intro F10 N10 _ (fun p hp => hp) off9 (.inr ⟨_, .head _, rfl, _, rfl⟩) ⟨rfl, zs ++ [_], hzs.append (.cons _ _ .nil), by simp [hzl], ?_⟩
    intro x hx
    rcases List.mem_append.mp hx with hx | hx
    · exact hzb x hx
    · rw [List.mem_singleton.mp hx]; exact cell_ok z
  case fin =>
    rintro ys nx ⟨rfl, zs, hzs, hzl, hzb⟩
    unfold LCg.FinE
    intro D9 h9 tk9 F10 N10 off9
    (repeat' (first | (with_reducible refine if_ff ?_) | (with_reducible refine if_tt ?_) | (k_unfold; (try dsimp only)) | (k_end; wrow_close) | (cell_step; walk1) | (cell_step; dsimp only; walk1) | (leave1; walk_say "STEP leave1"; try dsimp only) | fail "no step"))
    rename (IntsAre _ (List.drop _ _)) => hI8
    rename Fr _ _ _ _ => F11
    rename News _ _ _ _ => N11
    rename (D9 + 1 ≤ _ ∧ _) => l9
    have hul8 := hI8.length
    have hyl := hzs.length
    rw [List.length_drop] at hul8
    simp only [List.size_toArray, List.length_cons, List.length_nil, Int.toNat_natCast] at hzl hul8
    refine cat_lists F11 N11 (News.isList N11 (by k_mem)) (News.isList N11 (by k_mem)) ?_ (by rw [hyl, hul8, sizeLine_eq]; omega)
    intro D8 h8 F12 N12 l8
    (try dsimp only)
    (repeat' (first | (with_reducible refine if_ff ?_) | (with_reducible refine if_tt ?_) | (k_unfold; (try dsimp only)) | (k_end; wrow_close) | (cell_step; walk1) | (cell_step; dsimp only; walk1) | (leave1; walk_say "STEP leave1"; try dsimp only) | fail "no step"))
    rename Fr h₀ L _ _ => kF
    rename News h₀ L _ _ => kN
    refine hret _ _ _ _ kF (news_skip2 (news_skip2 (news_skip2 (news_skip2 kN)))) ⟨D8, _, zs ++ _, _, rfl, hzs.append hI8, ?_, ?_, ?_, rfl⟩
    · rw [List.length_append, List.length_drop]
      simp only [List.length_cons, List.length_nil, Int.toNat_natCast]
      omega
    · intro n hn
      rcases List.mem_append.mp hn with hn | hn
      · exact hzb n hn
      · exact lack_ok n (List.mem_of_mem_drop hn)
    · simp only [topA_cons, Nat.max_le] at l8
      exact l8.2.2.2.2
end Vcells
theorem cells (w : World) (rest : Led) (S : Addr) (vs : List Value) (xs : List Int) (hi : IntsAre vs xs) (hl : xs.length ≤ 63) :
  TelP w 2 100 (.ref 117) [.ref S] rest (fun h => h.IsList S vs.toArray) (CellPost rest) := telP_of fun zvv => (show ∀ w rest S vs xs zvv, Vcells.At0 w rest S vs xs zvv from (eps1_all (eps1_all (eps1_all (eps1_all (eps1_all (eps1_all @Vcells.aux))))))) w rest S vs xs zvv hi hl
end
section
theorem telP_use {w : World} {d u : Nat} {f : Value} {args : List Value} {news : Led} {P : Heap → Prop} {R : Value → Led → Prop} (H : TelP w d u f args news P R) {mean : ExcName → Option Value} {mg mb : Str → Option Value} {dp un : Nat} {gd : Option (List Code)} {cn : Str} {cs : Scope} {a : Addr} {ccd : Value} {cl : List (Str × Addr)} {outer : List Env} {A₀ : Around} {base h₀ : Heap} {L : Addr} {m : Str → Option Value} {s : Shared} {Q E : Value → Shared → Prop} (hP : P h₀)
    (B : Below A₀ base outer h₀) (F : Fr h₀ L s.heap m) (X : (hd01.heap_1 w.params).In h₀) (N : News h₀ L s.heap news) (T : Top topProg topL mean mg mb h₀) (C1 : CodeHd base 135 131) (C2 : CodeHd base 48 44) (C3 : CodeHd base 41 37)
    (hk : cs.kind = .function) (hd : dp + d < recursionLimit) (hu : un + u < cLine)
    (ret : ∀ v h' tk' news', Fr h₀ L h' m → News h₀ L h' news' → R v news' → Q v { s with heap := h', toks := tk' }) :
    wpAny (model Challenge.rw_ty0035_01.row.prog w) (ktrTop dp un gd cn cs L a ccd cl outer) (call f args) Q E s :=
  H mean mg mb dp un gd cn cs a ccd cl outer A₀ base h₀ L m s Q E hP B F X N T C1 C2 C3 hk hd hu ret
theorem ints_get1 : ∀ {vs : List Value} {ns : List Int} {i : Nat} {z : Int}, IntsAre vs ns → ns[i]? = some z → ∃ t, vs[i]? = some (.int z t)
  | _, _, 0, z, .cons x t h, e => by simp at e; subst e; exact ⟨t, rfl⟩
  | _, _, i + 1, z, .cons x t h, e => by simp at e ⊢; exact ints_get1 h e
inductive P1 (L : Addr) (m : Str → Option Value) (tabs : Led) (o1 o2 o3 o5 o6 o7 : Obj) (m' : Str → Option Value) (news' : Led) : Prop
  | mk (D : Addr) (us : List Value) (ns : List Int) (k : Nat) (p4 : Obj) (zh1 : IntsAre us ns) (zh2 : ns.length = 9) (zh3 : ∀ n ∈ ns, 0 ≤ n ∧ n < 1000000000) (zh4 : @LT.lt Nat _ (L + 7) D) (zh5 : topA tabs ≤ D) (zh6 : p4.data = .cell (some (.ref D))) (zh7 : m' = m) (zh8 : news' = (D, W.listOf us.toArray k) :: cells7 L o1 o2 o3 p4 o5 o6 o7 tabs)
namespace Vstage1
noncomputable def At0 (w : World) (fa : Addr) (cd : Value) (L : Addr) (S : Addr) (vs : List Value) (xs : List Int) (tabs : Led) (o1 : Obj) (o2 : Obj) (o3 : Obj) (o4 : Obj) (o5 : Obj) (o6 : Obj) (o7 : Obj) (zvv : StgV) : Prop := ∀ (hi : IntsAre vs xs) (hl : xs.length ≤ 63) (ht : topA tabs ≤ L) (e4 : o4.data = .cell none), StgAt w fa cd L 3 1 (fun h => h.IsList S vs.toArray) (fun y => if y = Str.ofString "script" then some (.ref S) else none) (cells7 L o1 o2 o3 o4 o5 o6 o7 tabs)
    (P1 L (fun y => if y = Str.ofString "script" then some (.ref S) else none) tabs o1 o2 o3 o5 o6 o7) zvv
noncomputable def AtX (x : (World) × (Addr) × (Value) × (Addr) × (Addr) × (List Value) × (List Int) × (Led) × (Obj) × (Obj) × (Obj) × (Obj) × (Obj) × (Obj) × (Obj) × StgV) : Prop := At0 (x.1) (x.2.1) (x.2.2.1) (x.2.2.2.1) (x.2.2.2.2.1) (x.2.2.2.2.2.1) (x.2.2.2.2.2.2.1) (x.2.2.2.2.2.2.2.1) (x.2.2.2.2.2.2.2.2.1) (x.2.2.2.2.2.2.2.2.2.1) (x.2.2.2.2.2.2.2.2.2.2.1) (x.2.2.2.2.2.2.2.2.2.2.2.1) (x.2.2.2.2.2.2.2.2.2.2.2.2.1) (x.2.2.2.2.2.2.2.2.2.2.2.2.2.1) (x.2.2.2.2.2.2.2.2.2.2.2.2.2.2.1) (x.2.2.2.2.2.2.2.2.2.2.2.2.2.2.2)
noncomputable def cc0 : (World) × (Addr) × (Value) × (Addr) × (Addr) × (List Value) × (List Int) × (Led) × (Obj) × (Obj) × (Obj) × (Obj) × (Obj) × (Obj) × (Obj) × StgV := eps1 (ne_prod ne_world (ne_prod ne_addr (ne_prod ne_value (ne_prod ne_addr (ne_prod ne_addr (ne_prod ne_list (ne_prod ne_list (ne_prod ne_led (ne_prod ne_obj (ne_prod ne_obj (ne_prod ne_obj (ne_prod ne_obj (ne_prod ne_obj (ne_prod ne_obj (ne_prod ne_obj stgV_ne))))))))))))))) AtX
noncomputable def w : World := cc0.1
noncomputable def fa : Addr := cc0.2.1
noncomputable def cd : Value := cc0.2.2.1
noncomputable def L : Addr := cc0.2.2.2.1
noncomputable def S : Addr := cc0.2.2.2.2.1
noncomputable def vs : List Value := cc0.2.2.2.2.2.1
noncomputable def xs : List Int := cc0.2.2.2.2.2.2.1
noncomputable def tabs : Led := cc0.2.2.2.2.2.2.2.1
noncomputable def o1 : Obj := cc0.2.2.2.2.2.2.2.2.1
noncomputable def o2 : Obj := cc0.2.2.2.2.2.2.2.2.2.1
noncomputable def o3 : Obj := cc0.2.2.2.2.2.2.2.2.2.2.1
noncomputable def o4 : Obj := cc0.2.2.2.2.2.2.2.2.2.2.2.1
noncomputable def o5 : Obj := cc0.2.2.2.2.2.2.2.2.2.2.2.2.1
noncomputable def o6 : Obj := cc0.2.2.2.2.2.2.2.2.2.2.2.2.2.1
noncomputable def o7 : Obj := cc0.2.2.2.2.2.2.2.2.2.2.2.2.2.2.1
noncomputable def v0 : StgV := cc0.2.2.2.2.2.2.2.2.2.2.2.2.2.2.2
theorem aux (hi : IntsAre vs xs) (hl : xs.length ≤ 63) (ht : topA tabs ≤ L) (e4 : o4.data = .cell none) :
  StgAt w fa cd L 3 1 (fun h => h.IsList S vs.toArray) (fun y => if y = Str.ofString "script" then some (.ref S) else none) (cells7 L o1 o2 o3 o4 o5 o6 o7 tabs)
    (P1 L (fun y => if y = Str.ofString "script" then some (.ref S) else none) tabs o1 o2 o3 o5 o6 o7) v0 := by
  intro B F X N T C1 C2 C3 hE hS hret
  (repeat' (first | (with_reducible refine if_ff ?_) | (with_reducible refine if_tt ?_) | (k_unfold; (try dsimp only)) | (k_end; wrow_close) | (cell_step; walk1) | (cell_step; dsimp only; walk1) | (leave1; walk_say "STEP leave1"; try dsimp only) | fail "no step"))
  refine' telP_use (cells w _ S vs xs hi hl) ?tP ?tB ?tF ?tX ?tN ?tT ?tC1 ?tC2 ?tC3 ?tk ?td ?tu ?_
  case tP => exact hS
  case tB => k_asm
  case tF => k_asm
  case tX => k_asm
  case tN => k_asm
  case tT => k_asm
  case tC1 => assumption
  case tC2 => assumption
  case tC3 => assumption
  case tk => exact rfl
  case td => ktr_room
  case tu => ktr_units
  rintro v9 h9 tk9 news9 F9 N9 ⟨D, us, ns, k, rfl, h1, h2, h3, hD, rfl⟩
  (try dsimp only)
  simp only [cells7, topA_cons, Nat.max_le] at hD
  (repeat' (first | (with_reducible refine if_ff ?_) | (with_reducible refine if_tt ?_) | (k_unfold; (try dsimp only)) | (k_end; wrow_close) | (cell_step; walk1) | (cell_step; dsimp only; walk1) | (leave1; walk_say "STEP leave1"; try dsimp only) | fail "no step"))
  rename Fr _ _ _ _ => F1
  rename News _ _ _ _ => N1
  refine hret _ _ _ _ F1 N1 ⟨D, us, ns, k, _, h1, h2, h3, hD.1, ?_, by assumption, rfl, rfl⟩
  exact hD.2.2.2.2.2.2.2
end Vstage1
theorem stage1 (w : World) (fa : Addr) (cd : Value) (L S : Addr) (vs : List Value) (xs : List Int) (hi : IntsAre vs xs) (hl : xs.length ≤ 63) (tabs : Led) (o1 o2 o3 o4 o5 o6 o7 : Obj) (ht : topA tabs ≤ L) (e4 : o4.data = .cell none) :
  Stg w fa cd L 3 1 (fun h => h.IsList S vs.toArray) (fun y => if y = Str.ofString "script" then some (.ref S) else none) (cells7 L o1 o2 o3 o4 o5 o6 o7 tabs)
    (P1 L (fun y => if y = Str.ofString "script" then some (.ref S) else none) tabs o1 o2 o3 o5 o6 o7) := stg_of fun zvv => (show Vstage1.At0 w fa cd L S vs xs tabs o1 o2 o3 o4 o5 o6 o7 zvv from eps1_all (P := Vstage1.AtX) @Vstage1.aux (w, fa, cd, L, S, vs, xs, tabs, o1, o2, o3, o4, o5, o6, o7, zvv)) hi hl ht e4
noncomputable def wd (a b c : Int) : List Bool := List.replicate (a.fmod 3).toNat true ++ (List.replicate (b.fmod 7).toNat false ++ List.replicate (c.fmod 3).toNat true)
noncomputable def wds : List Int → List (List Bool)
  | a :: b :: c :: r => wd a b c :: wds r
  | _ => []
theorem nine_of {l : List Int} (h : l.length = 9) : ∃ a b c d e f g i j, l = [a, b, c, d, e, f, g, i, j] := by
  match l, h with
  | [a, b, c, d, e, f, g, i, j], _ => exact ⟨a, b, c, d, e, f, g, i, j, rfl⟩
theorem wd_len (a b c : Int) : (wd a b c).length ≤ 10 := by
  unfold wd
  simp only [List.length_append, List.length_replicate, Int.fmod_eq_emod_of_nonneg _ (show (0 : Int) ≤ 3 by decide), Int.fmod_eq_emod_of_nonneg _ (show (0 : Int) ≤ 7 by decide)]
  omega
theorem wd_sgn (u v : Nat) (a b c : Int) : tx (List.replicate (a.fmod 3).toNat u) ++ tx (List.replicate (b.fmod 7).toNat v) ++ tx (List.replicate (c.fmod 3).toNat u) = tx (sgn u v (wd a b c)) := by
  rw [tx_append, tx_append]
  unfold wd
  rw [sgn_app, sgn_app, sgn_tt, sgn_tt, sgn_ff, List.append_assoc]
theorem m3 (z : Int) : 0 ≤ z.fmod 3 ∧ z.fmod 3 ≤ 2 := by rw [Int.fmod_eq_emod_of_nonneg _ (by decide)]; omega
theorem m7' (z : Int) : 0 ≤ z.fmod 7 ∧ z.fmod 7 ≤ 6 := by rw [Int.fmod_eq_emod_of_nonneg _ (by decide)]; omega
section
variable {prog : Program} {w : World} {A : Around} {h₀ : Heap} {L : Addr} {m : Str → Option Value} {env : Env}
theorem src_t {elt : Expr} {x : Str} {scope : Scope} {cl : List (Str × Addr)} {Fin : Shared → List Value → Led → Prop} {ax : Addr} {its : Array Value} {news : Led} {s₁ : Shared} (hh : A.handled = none) (F : Fr h₀ L s₁.heap m) (N : News h₀ L s₁.heap news) (hm : (ax, tupOf its) ∈ news) (hsz : its.size ≤ sizeLine)
    (h : ∀ g, LCg.CompRest prog w A h₀ L m env elt x scope cl { s₁ with heap := g } (fun nw => (ax, tupOf its) ∈ nw) (fun i v => its[i]? = some v) (Fin { s₁ with heap := g }) its.size 0 [] news) :
    SrcT prog w A h₀ L m env elt x scope cl Fin (.ref ax) s₁ := ⟨ax, its, news, rfl, hh, F, N, hm, hsz, fun _ ⟨g, e⟩ => e ▸ h g⟩
end
theorem tri_at {t0 t1 t2 : Tok} {i : Nat} {v : Value} (h : (#[.int 0 t0, .int 3 t1, .int 6 t2] : Array Value)[i]? = some v) : i < 3 ∧ ∃ t, v = .int ((3 * i : Nat) : Int) t := by
  match i, h with
  | 0, h => simp at h; exact ⟨by decide, t0, h.symm⟩
  | 1, h => simp at h; exact ⟨by decide, t1, h.symm⟩
  | 2, h => simp at h; exact ⟨by decide, t2, h.symm⟩
  | i + 3, h => simp at h
theorem wds_at {n0 n1 n2 n3 n4 n5 n6 n7 n8 : Int} {i : Nat} (h : i < 3) : ∃ a b c, [n0, n1, n2, n3, n4, n5, n6, n7, n8][3 * i]? = some a ∧ [n0, n1, n2, n3, n4, n5, n6, n7, n8][3 * i + 1]? = some b ∧ [n0, n1, n2, n3, n4, n5, n6, n7, n8][3 * i + 2]? = some c ∧ (wds [n0, n1, n2, n3, n4, n5, n6, n7, n8])[i]? = some (wd a b c) := by
  match i, h with
  | 0, _ => exact ⟨_, _, _, rfl, rfl, rfl, rfl⟩
  | 1, _ => exact ⟨_, _, _, rfl, rfl, rfl, rfl⟩
  | 2, _ => exact ⟨_, _, _, rfl, rfl, rfl, rfl⟩
inductive P2 (L : Addr) (D : Addr) (us : List Value) (k : Nat) (u v : Nat) (W : List (List Bool)) (m : Str → Option Value) (tabs : Led) (o1 o2 o3 o4 o6 o7 : Obj) (m' : Str → Option Value) (news' : Led) : Prop
  | mk (Dw : Addr) (ys : List Value) (kw : Nat) (p5 : Obj) (zh1 : TextsAre ys (W.map (sgn u v))) (zh2 : @Ne Nat D Dw) (zh2' : offC L tabs Dw) (zh3 : p5.data = .cell (some (.ref Dw))) (zh4 : m' = m) (zh5 : news' = (Dw, PySem.W.listOf ys.toArray kw) :: (D, PySem.W.listOf us.toArray k) :: cells7 L o1 o2 o3 o4 p5 o6 o7 tabs)
namespace Vstage2
noncomputable def At0 (w : World) (fa : Addr) (cd : Value) (L : Addr) (D : Addr) (us : List Value) (k : Nat) (t2 : Tok) (t3 : Tok) (m : Str → Option Value) (tabs : Led) (o1 : Obj) (o2 : Obj) (o3 : Obj) (o4 : Obj) (o5 : Obj) (o6 : Obj) (o7 : Obj) (zvv : StgV) : Prop := ∀ (ns : List Int) (u : Nat) (v : Nat) (hus : IntsAre us ns) (hn9 : ns.length = 9) (e2 : o2.data = .cell (some (.str (tx [u]) t2))) (e3 : o3.data = .cell (some (.str (tx [v]) t3))) (e4 : o4.data = .cell (some (.ref D))) (e5 : o5.data = .cell none) (hD : @LT.lt Nat _ (L + 7) D) (ht : topA tabs ≤ L), StgAt w fa cd L 4 1 (fun _ => True) m ((D, PySem.W.listOf us.toArray k) :: cells7 L o1 o2 o3 o4 o5 o6 o7 tabs)
    (P2 L D us k u v (wds ns) m tabs o1 o2 o3 o4 o6 o7) zvv
noncomputable def AtX (x : (World) × (Addr) × (Value) × (Addr) × (Addr) × (List Value) × (Nat) × (Tok) × (Tok) × (Str → Option Value) × (Led) × (Obj) × (Obj) × (Obj) × (Obj) × (Obj) × (Obj) × (Obj) × StgV) : Prop := At0 (x.1) (x.2.1) (x.2.2.1) (x.2.2.2.1) (x.2.2.2.2.1) (x.2.2.2.2.2.1) (x.2.2.2.2.2.2.1) (x.2.2.2.2.2.2.2.1) (x.2.2.2.2.2.2.2.2.1) (x.2.2.2.2.2.2.2.2.2.1) (x.2.2.2.2.2.2.2.2.2.2.1) (x.2.2.2.2.2.2.2.2.2.2.2.1) (x.2.2.2.2.2.2.2.2.2.2.2.2.1) (x.2.2.2.2.2.2.2.2.2.2.2.2.2.1) (x.2.2.2.2.2.2.2.2.2.2.2.2.2.2.1) (x.2.2.2.2.2.2.2.2.2.2.2.2.2.2.2.1) (x.2.2.2.2.2.2.2.2.2.2.2.2.2.2.2.2.1) (x.2.2.2.2.2.2.2.2.2.2.2.2.2.2.2.2.2.1) (x.2.2.2.2.2.2.2.2.2.2.2.2.2.2.2.2.2.2)
noncomputable def cc0 : (World) × (Addr) × (Value) × (Addr) × (Addr) × (List Value) × (Nat) × (Tok) × (Tok) × (Str → Option Value) × (Led) × (Obj) × (Obj) × (Obj) × (Obj) × (Obj) × (Obj) × (Obj) × StgV := eps1 (ne_prod ne_world (ne_prod ne_addr (ne_prod ne_value (ne_prod ne_addr (ne_prod ne_addr (ne_prod ne_list (ne_prod ne_nat (ne_prod ne_tok (ne_prod ne_tok (ne_prod ne_par (ne_prod ne_led (ne_prod ne_obj (ne_prod ne_obj (ne_prod ne_obj (ne_prod ne_obj (ne_prod ne_obj (ne_prod ne_obj (ne_prod ne_obj stgV_ne)))))))))))))))))) AtX
noncomputable def w : World := cc0.1
noncomputable def fa : Addr := cc0.2.1
noncomputable def cd : Value := cc0.2.2.1
noncomputable def L : Addr := cc0.2.2.2.1
noncomputable def D : Addr := cc0.2.2.2.2.1
noncomputable def us : List Value := cc0.2.2.2.2.2.1
noncomputable def k : Nat := cc0.2.2.2.2.2.2.1
noncomputable def t2 : Tok := cc0.2.2.2.2.2.2.2.1
noncomputable def t3 : Tok := cc0.2.2.2.2.2.2.2.2.1
noncomputable def m : Str → Option Value := cc0.2.2.2.2.2.2.2.2.2.1
noncomputable def tabs : Led := cc0.2.2.2.2.2.2.2.2.2.2.1
noncomputable def o1 : Obj := cc0.2.2.2.2.2.2.2.2.2.2.2.1
noncomputable def o2 : Obj := cc0.2.2.2.2.2.2.2.2.2.2.2.2.1
noncomputable def o3 : Obj := cc0.2.2.2.2.2.2.2.2.2.2.2.2.2.1
noncomputable def o4 : Obj := cc0.2.2.2.2.2.2.2.2.2.2.2.2.2.2.1
noncomputable def o5 : Obj := cc0.2.2.2.2.2.2.2.2.2.2.2.2.2.2.2.1
noncomputable def o6 : Obj := cc0.2.2.2.2.2.2.2.2.2.2.2.2.2.2.2.2.1
noncomputable def o7 : Obj := cc0.2.2.2.2.2.2.2.2.2.2.2.2.2.2.2.2.2.1
noncomputable def v0 : StgV := cc0.2.2.2.2.2.2.2.2.2.2.2.2.2.2.2.2.2.2
theorem aux (ns : List Int) (u : Nat) (v : Nat) (hus : IntsAre us ns) (hn9 : ns.length = 9) (e2 : o2.data = .cell (some (.str (tx [u]) t2))) (e3 : o3.data = .cell (some (.str (tx [v]) t3))) (e4 : o4.data = .cell (some (.ref D))) (e5 : o5.data = .cell none) (hD : @LT.lt Nat _ (L + 7) D) (ht : topA tabs ≤ L) :
  StgAt w fa cd L 4 1 (fun _ => True) m ((D, PySem.W.listOf us.toArray k) :: cells7 L o1 o2 o3 o4 o5 o6 o7 tabs)
    (P2 L D us k u v (wds ns) m tabs o1 o2 o3 o4 o6 o7) v0 := by
  intro B F X N T C1 C2 C3 hE _ hret
  (repeat' (first | (with_reducible refine if_ff ?_) | (with_reducible refine if_tt ?_) | (k_unfold; (try dsimp only)) | (k_end; wrow_close) | (cell_step; walk1) | (cell_step; dsimp only; walk1) | (leave1; walk_say "STEP leave1"; try dsimp only) | fail "no step"))
  refine' ListComp_T F ?a1 ?a2 ?a3 ?a4 ?a5 ?_
  case a1 => with_unfolding_all rfl
  case a2 => decide
  case a3 => rfl
  case a4 => decide
  case a5 => rfl
  (repeat' (first | (with_reducible refine if_ff ?_) | (with_reducible refine if_tt ?_) | (k_unfold; (try dsimp only)) | (k_end; wrow_close) | (cell_step; walk1) | (cell_step; dsimp only; walk1) | (leave1; walk_say "STEP leave1"; try dsimp only) | fail "no step"))
  rename Fr _ _ _ _ => F1
  rename News _ _ _ _ => N1
  rename (D + 1 ≤ _ ∧ _) => l1
  refine src_t (by rfl) F1 N1 (.head _) (Nat.le_of_ble_eq_true rfl) ?_
  intro g'
  obtain ⟨n0, n1, n2, n3, n4, n5, n6, n7, n8, rfl⟩ := nine_of hn9
  refine comp_ind (fun i ys nx => nx = _ ∧ TextsAre ys (((wds [n0, n1, n2, n3, n4, n5, n6, n7, n8]).take i).map (sgn u v))) ⟨rfl, .nil⟩ ?turn ?fin
  case turn =>
    rintro i v9 ys nx hi hv9 ⟨rfl, hW⟩ I oI C oC D9 m₂ h tk E' hC hx F2 N2 off ne
    obtain ⟨hi3, tv, rfl⟩ := tri_at hv9
    obtain ⟨a, b, c, ha, hb, hc, hwd⟩ := wds_at (n0 := n0) (n1 := n1) (n2 := n2) (n3 := n3) (n4 := n4) (n5 := n5) (n6 := n6) (n7 := n7) (n8 := n8) hi3
    obtain ⟨qa, ha'⟩ := ints_get1 hus ha
    obtain ⟨qb, hb'⟩ := ints_get1 hus hb
    obtain ⟨qc, hc'⟩ := ints_get1 hus hc
    (repeat' (first | (with_reducible refine if_ff ?_) | (with_reducible refine if_tt ?_) | (k_unfold; (try dsimp only)) | (k_end; wrow_close) | (cell_step; walk1) | (cell_step; dsimp only; walk1) | (leave1; walk_say "STEP leave1"; try dsimp only) | fail "no step"))
    refine PyProof.Rows.item_listL (News.isList N2 (by k_mem)) (by omega) (by omega) (x := .int a qa) (by rw [show ((3 * i : Nat) : Int).toNat = 3 * i by omega]; exact ha') ?_
    (repeat' (first | (with_reducible refine if_ff ?_) | (with_reducible refine if_tt ?_) | (k_unfold; (try dsimp only)) | (k_end; wrow_close) | (cell_step; walk1) | (cell_step; dsimp only; walk1) | (leave1; walk_say "STEP leave1"; try dsimp only) | fail "no step"))
    refine mul_sign (m3 a).1 (Int.le_trans (m3 a).2 (by decide)) fun t9 k9 => ?_
    (try dsimp only)
    (repeat' (first | (with_reducible refine if_ff ?_) | (with_reducible refine if_tt ?_) | (k_unfold; (try dsimp only)) | (k_end; wrow_close) | (cell_step; walk1) | (cell_step; dsimp only; walk1) | (leave1; walk_say "STEP leave1"; try dsimp only) | fail "no step"))
    refine PyProof.Rows.item_listL (News.isList N2 (by k_mem)) (by omega) (by omega) (x := .int b qb) (by rw [show (((3 * i : Nat) : Int) + 1).toNat = 3 * i + 1 by omega]; exact hb') ?_
    (repeat' (first | (with_reducible refine if_ff ?_) | (with_reducible refine if_tt ?_) | (k_unfold; (try dsimp only)) | (k_end; wrow_close) | (cell_step; walk1) | (cell_step; dsimp only; walk1) | (leave1; walk_say "STEP leave1"; try dsimp only) | fail "no step"))
    refine mul_sign (m7' b).1 (Int.le_trans (m7' b).2 (by decide)) fun t9 k9 => ?_
    (try dsimp only)
    (repeat' (first | (with_reducible refine if_ff ?_) | (with_reducible refine if_tt ?_) | (k_unfold; (try dsimp only)) | (k_end; wrow_close) | (cell_step; walk1) | (cell_step; dsimp only; walk1) | (leave1; walk_say "STEP leave1"; try dsimp only) | fail "no step"))
    have hla : (List.replicate (a.fmod 3).toNat u).length ≤ 2 := by rw [List.length_replicate]; have := m3 a; omega
    have hlb : (List.replicate (b.fmod 7).toNat v).length ≤ 6 := by rw [List.length_replicate]; have := m7' b; omega
    have hlc : (List.replicate (c.fmod 3).toNat u).length ≤ 2 := by rw [List.length_replicate]; have := m3 c; omega
    refine PyProof.Rows.add_str (hsz := by simp only [Str.length, List.size_toArray, sizeLine_eq]; omega) ?_
    intro t8 k8
    (try dsimp only)
    (repeat' (first | (with_reducible refine if_ff ?_) | (with_reducible refine if_tt ?_) | (k_unfold; (try dsimp only)) | (k_end; wrow_close) | (cell_step; walk1) | (cell_step; dsimp only; walk1) | (leave1; walk_say "STEP leave1"; try dsimp only) | fail "no step"))
    refine PyProof.Rows.item_listL (News.isList N2 (by k_mem)) (by omega) (by omega) (x := .int c qc) (by rw [show (((3 * i : Nat) : Int) + 2).toNat = 3 * i + 2 by omega]; exact hc') ?_
    (repeat' (first | (with_reducible refine if_ff ?_) | (with_reducible refine if_tt ?_) | (k_unfold; (try dsimp only)) | (k_end; wrow_close) | (cell_step; walk1) | (cell_step; dsimp only; walk1) | (leave1; walk_say "STEP leave1"; try dsimp only) | fail "no step"))
    refine mul_sign (m3 c).1 (Int.le_trans (m3 c).2 (by decide)) fun t7 k7 => ?_
    (try dsimp only)
    (repeat' (first | (with_reducible refine if_ff ?_) | (with_reducible refine if_tt ?_) | (k_unfold; (try dsimp only)) | (k_end; wrow_close) | (cell_step; walk1) | (cell_step; dsimp only; walk1) | (leave1; walk_say "STEP leave1"; try dsimp only) | fail "no step"))
    rw [tx_append]
    refine PyProof.Rows.add_str (hsz := by simp only [Str.length, List.size_toArray, List.length_append, sizeLine_eq]; omega) ?_
    intro t6 k6
    (try dsimp only)
    rw [← tx_append, wd_sgn]
    refine LCg.CompEnd.intro F2 N2 _ (fun p hp => hp) off (.head _) ⟨rfl, ?_⟩
    rw [List.take_add_one, hwd]
    show TextsAre _ (List.map (sgn u v) ((wds [n0, n1, n2, n3, n4, n5, n6, n7, n8]).take i ++ [wd a b c]))
    rw [List.map_append]
    exact hW.append (.cons _ _ .nil)
  case fin =>
    rintro ys nx ⟨rfl, hW⟩
    unfold LCg.FinE
    intro D9 h9 tk9 F10 N10 off9
    obtain ⟨b1, b2, c7, c6, c5, c4, c3, c2, c1, btab⟩ := off9
    have z5 : ∀ p ∈ tabs, p.1 ≠ L + 1 + 1 + 1 + 1 + 1 := topA_ne (by omega)
    (repeat' (first | (with_reducible refine if_ff ?_) | (with_reducible refine if_tt ?_) | (k_unfold; (try dsimp only)) | (k_end; wrow_close) | (cell_step; walk1) | (cell_step; dsimp only; walk1) | (leave1; walk_say "STEP leave1"; try dsimp only) | fail "no step"))
    rename Fr _ _ _ _ => F11
    rename News _ _ _ _ => N11
    rw [show (#[Value.int 0 _, Value.int 3 _, Value.int 6 _] : Array Value).size = 3 from rfl, List.take_of_length_le (Nat.le_refl 3)] at hW
    refine hret _ _ _ _ F11 (news_skip2 N11) ⟨D9, ys, _, _, hW, b2, ⟨c7, c6, c5, c4, c3, c2, c1, btab⟩, by assumption, rfl, rfl⟩
end Vstage2
theorem stage2 (w : World) (fa : Addr) (cd : Value) (L D : Addr) (us : List Value) (ns : List Int) (k : Nat) (u v : Nat) (t2 t3 : Tok) (m : Str → Option Value) (tabs : Led) (o1 o2 o3 o4 o5 o6 o7 : Obj) (hus : IntsAre us ns) (hn9 : ns.length = 9) (e2 : o2.data = .cell (some (.str (tx [u]) t2))) (e3 : o3.data = .cell (some (.str (tx [v]) t3))) (e4 : o4.data = .cell (some (.ref D))) (e5 : o5.data = .cell none) (hD : @LT.lt Nat _ (L + 7) D) (ht : topA tabs ≤ L) :
  Stg w fa cd L 4 1 (fun _ => True) m ((D, PySem.W.listOf us.toArray k) :: cells7 L o1 o2 o3 o4 o5 o6 o7 tabs)
    (P2 L D us k u v (wds ns) m tabs o1 o2 o3 o4 o6 o7) := stg_of fun zvv => (show Vstage2.At0 w fa cd L D us k t2 t3 m tabs o1 o2 o3 o4 o5 o6 o7 zvv from eps1_all (P := Vstage2.AtX) @Vstage2.aux (w, fa, cd, L, D, us, k, t2, t3, m, tabs, o1, o2, o3, o4, o5, o6, o7, zvv)) ns u v hus hn9 e2 e3 e4 e5 hD ht
end
section
theorem it_shaped (ns : List Int) : SeqAt.shaped (.tuple (ns.map PyData.int)) = true := by
  simp [SeqAt.shaped, PyData.canLay0, PyData.depth, ke_canLayAll0, ke_depthAll]
theorem it_same (ns ms : List Int) : PySem.Spec.same (.tuple (ns.map PyData.int)) (.tuple (ms.map PyData.int)) = decide (ns = ms) := by
  simp only [PySem.Spec.same]; exact ke_sameAll ns ms
noncomputable def numsM (p : Mat) : List Int := [p.1, p.2.1, p.2.2.1, p.2.2.2]
theorem numsM_inj {p q : Mat} : numsM p = numsM q ↔ p = q := by
  constructor
  · intro h
    simp only [numsM, List.cons.injEq, and_true] at h
    exact mat_eq h.1 h.2.1 h.2.2.1 h.2.2.2
  · rintro rfl; rfl
theorem ints_tup (p : Mat) (ta tb tc td : Tok) : IntsAre [.int p.1 ta, .int p.2.1 tb, .int p.2.2.1 tc, .int p.2.2.2 td] (numsM p) := .cons _ _ (.cons _ _ (.cons _ _ (.cons _ _ .nil)))
section
variable {prog : Program} {w : World} {A : Around} {E : Value → Shared → Prop} {s : Shared} {h₀ : Heap} {L : Addr} {m : Str → Option Value} {news : Led} {Q : Value → Shared → Prop}
theorem tup_is {a : Addr} {p : Mat} {ta tb tc td : Tok} (N : News h₀ L s.heap news) (ha : (a, tup4 p ta tb tc td) ∈ news) : IsTup s.heap a [.int p.1 ta, .int p.2.1 tb, .int p.2.2.1 tc, .int p.2.2.2 td].toArray := ⟨_, (N _ ha).1, rfl, 0, rfl⟩
theorem eq_tups {a b : Addr} {p q : Mat} {ta tb tc td t1 t2 t3 t4 : Tok} (N : News h₀ L s.heap news) (ha : (a, tup4 p ta tb tc td) ∈ news) (hb : (b, tup4 q t1 t2 t3 t4) ∈ news) (hu : A.units + 64 < cLine) (h : Q (.bool (decide (p = q))) s) :
    wpAny (model prog w) A (compareOp .Eq (.ref a) (.ref b)) Q E s :=
  eq_dataH_same (reads_newDataT (tup_is N ha) (ke_carried (ints_tup p ta tb tc td))) (reads_newDataT (tup_is N hb) (ke_carried (ints_tup q t1 t2 t3 t4))) (it_shaped _) (it_shaped _) hu (SeqAt.noMix_of_shape (.tuples .int) rfl _ _ (tuples_map_has fun _ => rfl) (tuples_map_has fun _ => rfl)) (by rw [it_same, show decide (numsM p = numsM q) = decide (p = q) from decide_eq_decide.mpr numsM_inj]; exact h)
theorem min_tup {a : Addr} {p : Mat} {ta tb tc td : Tok} (hh : A.handled = none) (F : Fr h₀ L s.heap m) (N : News h₀ L s.heap news) (ha : (a, tup4 p ta tb tc td) ∈ news)
    (h : ∀ h' M (t : Tok) tk, Fr h₀ L h' m → News h₀ L h' news → (M < 0 ↔ ¬ nnM p) → Q (.int M t) { s with heap := h', toks := tk }) :
    wpAny (model prog w) A (call (.builtin "min") [.ref a]) Q E s := by
  have hT : s.heap.IsTuple a (intItems #[(p.1, ta), (p.2.1, tb), (p.2.2.1, tc), (p.2.2.2, td)]) := ⟨_, (N _ ha).1, rfl, 0, by simp [intItems]⟩
  have hlt : a < s.heap.objs.size := Heap.lt_size (N _ ha).1
  refine call_min_walk (wpAny_pyIter_tuple hT ?_)
  refine ⟨_, [_, a], [_], _, _, _, _, rfl, Walks.tuple (A := A.in1) hh _ a (Nat.ne_of_lt hlt) _, ⟨⟨_, Heap.get?_push_size _ rfl, rfl, rfl⟩, hT.push _⟩, fun c hc => ?_, by simp [intItems], CmpOf.ints_lt (numAt #[(p.1, ta), (p.2.1, tb), (p.2.2.1, tc), (p.2.2.2, td)]) (fun _ _ => intItems_at), fun v h' tk hP hk => ?_⟩
  · show c < (s.heap.push _).objs.size
    rw [Heap.size_push]
    rcases List.mem_cons.mp hc with rfl | hc
    · exact Nat.lt_succ_self _
    · rcases List.mem_cons.mp hc with rfl | hc
      · exact Nat.lt_succ_of_lt hlt
      · cases hc
  · have hold : ∀ b o, s.heap.get? b = some o → h'.get? b = some o := fun b o e => by
      refine hk b o (fun hm => ?_) (Heap.get?_push_of_some _ e)
      rcases List.mem_cons.mp hm with e1 | hm
      · exact absurd (e1 ▸ Heap.lt_size e) (Nat.lt_irrefl _)
      · cases hm
    obtain ⟨t, rfl⟩ := intItems_at hP
    refine h _ _ t tk (F.grownK hold) (N.grown hold) ?_
    obtain ⟨h1, h2⟩ := argBest_lt (numAt #[(p.1, ta), (p.2.1, tb), (p.2.2.1, tc), (p.2.2.2, td)]) 3
    have e3 : (intItems #[(p.1, ta), (p.2.1, tb), (p.2.2.1, tc), (p.2.2.2, td)]).size - 1 = 3 := by simp [intItems]
    rw [e3]
    generalize argBest _ 3 = z at h1 h2
    have g0 := h2 0 (by omega)
    have g1 := h2 1 (by omega)
    have g2 := h2 2 (by omega)
    have g3 := h2 3 (by omega)
    have v0 : numAt #[(p.1, ta), (p.2.1, tb), (p.2.2.1, tc), (p.2.2.2, td)] 0 = p.1 := rfl
    have v1 : numAt #[(p.1, ta), (p.2.1, tb), (p.2.2.1, tc), (p.2.2.2, td)] 1 = p.2.1 := rfl
    have v2 : numAt #[(p.1, ta), (p.2.1, tb), (p.2.2.1, tc), (p.2.2.2, td)] 2 = p.2.2.1 := rfl
    have v3 : numAt #[(p.1, ta), (p.2.1, tb), (p.2.2.1, tc), (p.2.2.2, td)] 3 = p.2.2.2 := rfl
    unfold nnM
    have hz : z = 0 ∨ z = 1 ∨ z = 2 ∨ z = 3 := by omega
    rcases hz with rfl | rfl | rfl | rfl <;> omega
end
theorem news_tup {h₀ h : Heap} {L : Addr} {p q : Mat} (e : p = q) {D : Addr} {ta tb tc td : Tok} {rest : Led} (N : News h₀ L h ((D, tup4 p ta tb tc td) :: rest)) : News h₀ L h ((D, tup4 q ta tb tc td) :: rest) := e ▸ N
inductive BehPost (rest : Led) (r : Option (List Bool)) (v : Value) (news' : Led) : Prop
  | no (zh1 : r = none) (zh2 : v = .none) (zh3 : news' = rest)
  | yes (z : List Bool) (T : Addr) (ta tb tc td : Tok) (zh1 : r = some z) (zh2 : v = .ref T) (zh3 : news' = (T, tup4 (mw z) ta tb tc td) :: rest) (zh4 : topA rest ≤ T)
inductive BehInv (rest : Led) (A : Addr) (k x : List Bool) (n : Nat) (m' : Str → Option Value) (nx : Led) : Prop
  | mk (d r : List Bool) (Tl Ts : Addr) (ta tb tc td t1 t2 t3 t4 : Tok) (zh0 : x = d ++ r) (zh1 : beh k r = beh k x) (zh2 : n = r.length) (zh3 : Has m' [(Str.ofString "inverse", .ref A), (Str.ofString "square", .ref Ts), (Str.ofString "left", .ref Tl)]) (zh4 : nx = (Tl, tup4 (mulM (invM (mw k)) (mw r)) ta tb tc td) :: (Ts, tup4 (mw r) t1 t2 t3 t4) :: rest) (zh5 : topA rest ≤ Tl)
namespace Vbehind
noncomputable def At0 (w : World) (rest : Led) (A : Addr) (B : Addr) (k : List Bool) (x : List Bool) (ta : Tok) (tb : Tok) (tc : Tok) (td : Tok) (t1 : Tok) (t2 : Tok) (t3 : Tok) (t4 : Tok) (zvv : TelV) : Prop := ∀ (hA : (A, tup4 (invM (mw k)) ta tb tc td) ∈ rest) (hB : (B, tup4 (mw x) t1 t2 t3 t4) ∈ rest) (hb1 : topM (mw x) < 2 ^ 60) (hb2 : lowM (mw x) < 2 ^ 60), TelAt w 12 400 (.ref 164) [.ref A, .ref B] rest (BehPost rest (beh k x)) zvv
noncomputable def AtX (x : (World) × (Led) × (Addr) × (Addr) × (List Bool) × (List Bool) × (Tok) × (Tok) × (Tok) × (Tok) × (Tok) × (Tok) × (Tok) × (Tok) × TelV) : Prop := At0 (x.1) (x.2.1) (x.2.2.1) (x.2.2.2.1) (x.2.2.2.2.1) (x.2.2.2.2.2.1) (x.2.2.2.2.2.2.1) (x.2.2.2.2.2.2.2.1) (x.2.2.2.2.2.2.2.2.1) (x.2.2.2.2.2.2.2.2.2.1) (x.2.2.2.2.2.2.2.2.2.2.1) (x.2.2.2.2.2.2.2.2.2.2.2.1) (x.2.2.2.2.2.2.2.2.2.2.2.2.1) (x.2.2.2.2.2.2.2.2.2.2.2.2.2.1) (x.2.2.2.2.2.2.2.2.2.2.2.2.2.2)
noncomputable def cc0 : (World) × (Led) × (Addr) × (Addr) × (List Bool) × (List Bool) × (Tok) × (Tok) × (Tok) × (Tok) × (Tok) × (Tok) × (Tok) × (Tok) × TelV := eps1 (ne_prod ne_world (ne_prod ne_led (ne_prod ne_addr (ne_prod ne_addr (ne_prod ne_list (ne_prod ne_list (ne_prod ne_tok (ne_prod ne_tok (ne_prod ne_tok (ne_prod ne_tok (ne_prod ne_tok (ne_prod ne_tok (ne_prod ne_tok (ne_prod ne_tok telV_ne)))))))))))))) AtX
noncomputable def w : World := cc0.1
noncomputable def rest : Led := cc0.2.1
noncomputable def A : Addr := cc0.2.2.1
noncomputable def B : Addr := cc0.2.2.2.1
noncomputable def k : List Bool := cc0.2.2.2.2.1
noncomputable def x : List Bool := cc0.2.2.2.2.2.1
noncomputable def ta : Tok := cc0.2.2.2.2.2.2.1
noncomputable def tb : Tok := cc0.2.2.2.2.2.2.2.1
noncomputable def tc : Tok := cc0.2.2.2.2.2.2.2.2.1
noncomputable def td : Tok := cc0.2.2.2.2.2.2.2.2.2.1
noncomputable def t1 : Tok := cc0.2.2.2.2.2.2.2.2.2.2.1
noncomputable def t2 : Tok := cc0.2.2.2.2.2.2.2.2.2.2.2.1
noncomputable def t3 : Tok := cc0.2.2.2.2.2.2.2.2.2.2.2.2.1
noncomputable def t4 : Tok := cc0.2.2.2.2.2.2.2.2.2.2.2.2.2.1
noncomputable def v0 : TelV := cc0.2.2.2.2.2.2.2.2.2.2.2.2.2.2
noncomputable abbrev h₀ := v0.h₀
noncomputable abbrev L := v0.L
theorem aux (hA : (A, tup4 (invM (mw k)) ta tb tc td) ∈ rest) (hB : (B, tup4 (mw x) t1 t2 t3 t4) ∈ rest) (hb1 : topM (mw x) < 2 ^ 60) (hb2 : lowM (mw x) < 2 ^ 60) :
  TelAt w 12 400 (.ref 164) [.ref A, .ref B] rest (BehPost rest (beh k x)) v0 := by
  intro B' F X N T C1 C2 C3 hk hd hu hret
  refine wpAny_call ?_
  k_dflt (first | (refine' code_defC ?k1 ?k2 ?k3 ?k4 ?k5 ?kA ?kF ?kK ?k6 ?k7 ?k8 ?k9 ?kB ?kD ?_ ?c2 ?c3 ?c4; (case kA => exact rfl); (case kF => exact rfl); (case kK => first | exact rfl | assumption); (case k1 => k_asm); (case k2 => k_asm); (case k3 => k_asm); (case k4 => k_asm); (case k5 => k_asm); (case k6 => k_is); (case k7 => k_is); (case k8 => k_room); (case k9 => first | exact BindsTo.of_eq rfl | exact binds_K (by k_in) rfl (by k_is) rfl rfl rfl | fail "k_enter: no rule for these arguments"); (case kB => exact rfl); (case kD => decide +kernel); (case c2 => exact rfl); (case c3 => exact rfl); (case c4 => exact rfl); k_whole; intro z9g z9L z9h z9tk z9cells z9FG z9F z9N z9Y z9B z9X z9T z9l1; (try k_lt z9l1); k_cells z9Y; (try simp only [List.cons_append, List.nil_append] at z9N); (try dsimp only); (try k_lift z9B); (try k_fold)) | cell_enter)
  (repeat' (first | (with_reducible refine if_ff ?_) | (with_reducible refine if_tt ?_) | (k_unfold; (try dsimp only)) | (k_end; wrow_close) | (cell_step; walk1) | (cell_step; dsimp only; walk1) | (leave1; walk_say "STEP leave1"; try dsimp only) | fail "no step"))
  (refine' tel_use ?tH ?tB ?tF ?tX ?tN ?tT ?tC1 ?tC2 ?tC3 ?tk ?td ?tu ?_; (case tB => k_asm); (case tF => k_asm); (case tX => k_asm); (case tN => k_asm); (case tT => k_asm); (case tC1 => assumption); (case tC2 => assumption); (case tC3 => assumption); (case tk => first | exact rfl | assumption); (case tH => exact (times w rest A B _ _ _ _ _ _ _ _ _ _ hA hB (small_of (mw_nn x) hb1 hb2))); (case td => ktr_room); (case tu => ktr_units))
  rintro v9 h9 tk9 news9 F9 N9 ⟨T9, ta9, tb9, tc9, td9, rfl, rfl, hT9⟩
  (try dsimp only)
  (repeat' (first | (with_reducible refine if_ff ?_) | (with_reducible refine if_tt ?_) | (k_unfold; (try dsimp only)) | (k_end; wrow_close) | (cell_step; walk1) | (cell_step; dsimp only; walk1) | (leave1; walk_say "STEP leave1"; try dsimp only) | fail "no step"))
  rename Fr _ _ _ _ => F1
  rename News _ _ _ _ => N0
  have N1 : News _ _ _ ((T9, tup4 (mulM (invM (mw k)) (mw x)) ta9 tb9 tc9 td9) :: (B, tup4 (mw x) t1 t2 t3 t4) :: rest) := news_perm (news_cons N0 (.tail _ hB)) (fun p hp => by rcases List.mem_cons.mp hp with rfl | hp; exact .tail _ (.head _); rcases List.mem_cons.mp hp with rfl | hp; exact .head _; exact .tail _ (.tail _ hp))
  clear N0
  with_unfolding_all refine While_invR (n₀ := x.length) (BehInv rest A k x) F1 N1 ?hJ ?turn
  case hJ =>
    exact ⟨[], x, _, _, _, _, _, _, _, _, _, _, rfl, rfl, rfl, ⟨rfl, rfl, rfl, trivial⟩, rfl, hT9⟩
  case turn =>
    rintro n m' nx h6 tk6 F6 N6 ⟨d, r, Tl, Ts, ta, tb, tc, td, t1, t2, t3, t4, hx6, hbe, rfl, hM, rfl, hTl⟩ R9 R8 hR9 hR8
    have F7 := fr_all0 hM F6
    clear F6
    have q1 := suff_le r d
    rw [← hx6] at q1
    (repeat' (first | (with_reducible refine if_ff ?_) | (with_reducible refine if_tt ?_) | (k_unfold; (try dsimp only)) | (k_end; wrow_close) | (cell_step; walk1) | (cell_step; dsimp only; walk1) | (leave1; walk_say "STEP leave1"; try dsimp only) | fail "no step"))
    rename Fr _ _ _ _ => F8
    rename News _ _ _ _ => N8
    refine min_tup (by with_unfolding_all rfl) F8 N8 (.head _) ?_
    intro h9 M tM kM F9 N9 hmin
    (try dsimp only)
    (repeat' (first | (with_reducible refine if_ff ?_) | (with_reducible refine if_tt ?_) | (k_unfold; (try dsimp only)) | (k_end; wrow_close) | (cell_step; walk1) | (cell_step; dsimp only; walk1) | (leave1; walk_say "STEP leave1"; try dsimp only) | fail "no step"))
    · have hnp : ¬ k <+: r := fun z => hmin.mp (by assumption) ((left_nn k r).mpr z)
      rename Fr _ _ _ _ => F10
      rename News _ _ _ _ => N10
      refine eq_tups (q := oneM) N10 (.tail _ (.tail _ (.head _))) (.head _) (by units_room) ?_
      (try dsimp only)
      (repeat' (first | (with_reducible refine if_ff ?_) | (with_reducible refine if_tt ?_) | (k_unfold; (try dsimp only)) | (k_end; wrow_close) | (cell_step; walk1) | (cell_step; dsimp only; walk1) | (leave1; walk_say "STEP leave1"; try dsimp only) | fail "no step"))
      · rename (mw r = oneM) => hr0
        obtain rfl : r = [] := mw_inj r [] hr0
        dsimp only
        refine hR9 (.ret .none) _ ?_
        dsimp only [WhileStep2]
        (repeat' (first | (with_reducible refine if_ff ?_) | (with_reducible refine if_tt ?_) | (k_unfold; (try dsimp only)) | (k_end; wrow_close) | (cell_step; walk1) | (cell_step; dsimp only; walk1) | (leave1; walk_say "STEP leave1"; try dsimp only) | fail "no step"))
        rename Fr h₀ L _ _ => F11
        rename News h₀ L _ _ => N11
        exact hret _ _ _ _ F11 (news_tail (news_tail (news_tail N11))) (.no (by rw [← hbe, beh_none hnp]) rfl rfl)
      · rename (¬ mw r = oneM) => hr0
        rename (_ + _ < _ + _) => hc
        obtain ⟨r', rfl⟩ : ∃ r', r = true :: r' := by
          cases r with
          | nil => exact absurd rfl hr0
          | cons b r' =>
            cases b with
            | true => exact ⟨r', rfl⟩
            | false =>
              exfalso
              have e1 := top_ff r'
              have e2 := mw_pos r'
              simp only [topM, lowM] at e1 e2
              omega
        rename Fr _ _ _ _ => F11
        rename News _ _ _ _ => N11
        have e0 : (((mw (true :: r')).1 - (mw (true :: r')).2.2.1, (mw (true :: r')).2.1 - (mw (true :: r')).2.2.2, (mw (true :: r')).2.2.1, (mw (true :: r')).2.2.2) : Mat) = mw r' := by
          rw [mw_tt]; apply mat_eq <;> simp <;> omega
        have N12 := news_skip2 (news_skip2 (news_skip2 (news_tup e0 N11)))
        clear N11
        have q2 := suff_le r' (d ++ [true])
        rw [List.append_assoc, List.singleton_append, ← hx6] at q2
        (refine' tel_use ?tH ?tB ?tF ?tX ?tN ?tT ?tC1 ?tC2 ?tC3 ?tk ?td ?tu ?_; (case tB => k_asm); (case tF => k_asm); (case tX => k_asm); (case tN => k_asm); (case tT => k_asm); (case tC1 => assumption); (case tC2 => assumption); (case tC3 => assumption); (case tk => first | exact rfl | assumption); (case tH => exact (times w (_ :: rest) A _ _ _ _ _ _ _ _ _ _ _ (.tail _ hA) (.head _) (small_of (mw_nn r') (by omega) (by omega)))); (case td => ktr_room); (case tu => ktr_units))
        rintro v9 h9 tk9 news9 F9 N9 ⟨T9, ta9, tb9, tc9, td9, rfl, rfl, hT9⟩
        (try dsimp only)
        (repeat' (first | (with_reducible refine if_ff ?_) | (with_reducible refine if_tt ?_) | (k_unfold; (try dsimp only)) | (k_end; wrow_close) | (cell_step; walk1) | (cell_step; dsimp only; walk1) | (leave1; walk_say "STEP leave1"; try dsimp only) | fail "no step"))
        rename Fr _ _ _ _ => F13
        rename News _ _ _ _ => N13
        refine hR9 _ _ ?_
        dsimp only [WhileStep2]
        refine ⟨_, _, _, _, r'.length, rfl, F13, N13, Nat.lt_succ_self _, d ++ [true], r', _, _, _, _, _, _, _, _, _, _, by rw [hx6, List.append_assoc]; rfl, by rw [← hbe, beh_neg hnp], rfl, ⟨rfl, rfl, rfl, trivial⟩, rfl, ?_⟩
        rw [topA_cons] at hT9
        exact (Nat.max_le.mp hT9).2
      · rename (¬ mw r = oneM) => hr0
        rename (¬ _ + _ < _ + _) => hc
        obtain ⟨r', rfl⟩ : ∃ r', r = false :: r' := by
          cases r with
          | nil => exact absurd rfl hr0
          | cons b r' =>
            cases b with
            | false => exact ⟨r', rfl⟩
            | true =>
              exfalso
              have e1 := top_tt r'
              have e2 := mw_pos r'
              simp only [topM, lowM] at e1 e2
              omega
        rename Fr _ _ _ _ => F11
        rename News _ _ _ _ => N11
        have e0 : (((mw (false :: r')).1, (mw (false :: r')).2.1, (mw (false :: r')).2.2.1 - (mw (false :: r')).1, (mw (false :: r')).2.2.2 - (mw (false :: r')).2.1) : Mat) = mw r' := by
          rw [mw_ff]; apply mat_eq <;> simp <;> omega
        have N12 := news_skip2 (news_skip2 (news_skip2 (news_tup e0 N11)))
        clear N11
        have q2 := suff_le r' (d ++ [false])
        rw [List.append_assoc, List.singleton_append, ← hx6] at q2
        (refine' tel_use ?tH ?tB ?tF ?tX ?tN ?tT ?tC1 ?tC2 ?tC3 ?tk ?td ?tu ?_; (case tB => k_asm); (case tF => k_asm); (case tX => k_asm); (case tN => k_asm); (case tT => k_asm); (case tC1 => assumption); (case tC2 => assumption); (case tC3 => assumption); (case tk => first | exact rfl | assumption); (case tH => exact (times w (_ :: rest) A _ _ _ _ _ _ _ _ _ _ _ (.tail _ hA) (.head _) (small_of (mw_nn r') (by omega) (by omega)))); (case td => ktr_room); (case tu => ktr_units))
        rintro v9 h9 tk9 news9 F9 N9 ⟨T9, ta9, tb9, tc9, td9, rfl, rfl, hT9⟩
        (try dsimp only)
        (repeat' (first | (with_reducible refine if_ff ?_) | (with_reducible refine if_tt ?_) | (k_unfold; (try dsimp only)) | (k_end; wrow_close) | (cell_step; walk1) | (cell_step; dsimp only; walk1) | (leave1; walk_say "STEP leave1"; try dsimp only) | fail "no step"))
        rename Fr _ _ _ _ => F13
        rename News _ _ _ _ => N13
        refine hR9 _ _ ?_
        dsimp only [WhileStep2]
        refine ⟨_, _, _, _, r'.length, rfl, F13, N13, Nat.lt_succ_self _, d ++ [false], r', _, _, _, _, _, _, _, _, _, _, by rw [hx6, List.append_assoc]; rfl, by rw [← hbe, beh_neg hnp], rfl, ⟨rfl, rfl, rfl, trivial⟩, rfl, ?_⟩
        rw [topA_cons] at hT9
        exact (Nat.max_le.mp hT9).2
    · have hp : k <+: r := (left_nn k r).mp (Classical.byContradiction fun z => (by assumption : ¬ M < 0) (hmin.mpr z))
      refine hR8 _ ?_
      (try dsimp only)
      (repeat' (first | (with_reducible refine if_ff ?_) | (with_reducible refine if_tt ?_) | (k_unfold; (try dsimp only)) | (k_end; wrow_close) | (cell_step; walk1) | (cell_step; dsimp only; walk1) | (leave1; walk_say "STEP leave1"; try dsimp only) | fail "no step"))
      rename Fr h₀ L _ _ => F10
      rename News h₀ L _ _ => N10
      obtain ⟨z, rfl⟩ := hp
      rw [left_app] at N10
      exact hret _ _ _ _ F10 (news_skip2 N10) (.yes z Tl _ _ _ _ (by rw [← hbe, beh_pos (List.prefix_append _ _), List.drop_left]) rfl rfl hTl)
end Vbehind
theorem behind (w : World) (rest : Led) (A B : Addr) (k x : List Bool) (ta tb tc td t1 t2 t3 t4 : Tok) (hA : (A, tup4 (invM (mw k)) ta tb tc td) ∈ rest) (hB : (B, tup4 (mw x) t1 t2 t3 t4) ∈ rest) (hb1 : topM (mw x) < 2 ^ 60) (hb2 : lowM (mw x) < 2 ^ 60) :
  Tel w 12 400 (.ref 164) [.ref A, .ref B] rest (BehPost rest (beh k x)) := tel_of fun zvv => (show Vbehind.At0 w rest A B k x ta tb tc td t1 t2 t3 t4 zvv from eps1_all (P := Vbehind.AtX) @Vbehind.aux (w, rest, A, B, k, x, ta, tb, tc, td, t1, t2, t3, t4, zvv)) hA hB hb1 hb2
end
end
section
local macro_rules | `(tactic| cell_step) => `(tactic| (walk_at "s1"; walk_at "t1"))
section
theorem tx_nil : (tx [] == Str.ofString "") = true := by decide +kernel
theorem spelled_e (w : World) (rest : Led) (t : Tok) :
  Tel w 2 100 (.ref 129) [.str (tx []) t, .bool false] rest (fun v news' => ∃ t', v = .str (tx (34 :: (esc [] ++ [34, 10]))) t' ∧ news' = rest) := by
  have hw : ([] : List Nat).length ≤ 30 := by decide
  intro mean mg mb dp un gd cn cs' ad ccd cl outer A₀ base h₀ L m s Q E B F X N T C1 C2 C3 hk hd hu hret
  refine wpAny_call ?_
  k_dflt (first | (refine' code_defC ?k1 ?k2 ?k3 ?k4 ?k5 ?kA ?kF ?kK ?k6 ?k7 ?k8 ?k9 ?kB ?kD ?_ ?c2 ?c3 ?c4; (case kA => exact rfl); (case kF => exact rfl); (case kK => first | exact rfl | assumption); (case k1 => k_asm); (case k2 => k_asm); (case k3 => k_asm); (case k4 => k_asm); (case k5 => k_asm); (case k6 => k_is); (case k7 => k_is); (case k8 => k_room); (case k9 => first | exact BindsTo.of_eq rfl | exact binds_K (by k_in) rfl (by k_is) rfl rfl rfl | fail "k_enter: no rule for these arguments"); (case kB => exact rfl); (case kD => decide +kernel); (case c2 => exact rfl); (case c3 => exact rfl); (case c4 => exact rfl); k_whole; intro z9g z9L z9h z9tk z9cells z9FG z9F z9N z9Y z9B z9X z9T z9l1; (try k_lt z9l1); k_cells z9Y; (try simp only [List.cons_append, List.nil_append] at z9N); (try dsimp only); (try k_lift z9B); (try k_fold)) | cell_enter)
  (repeat' (first | (with_reducible refine wpAny_execs_cons ?_) | (with_reducible refine wpAny_execs_nil ?_) | (k_unfold; (try dsimp only)) | (k_end; wrow_close) | (cell_step; walk1) | (cell_step; dsimp only; walk1) | (leave1; walk_say "STEP leave1"; try dsimp only) | fail "no step"))
  all_goals (try (exact absurd tx_nil (by assumption)))
  refine wpAny_toksge 1 (by first | omega | (simp; done) | (simp; omega)) ?_
  refine SC.replaceW (by first | omega | (simp; done) | (simp; omega)) (by first | omega | (simp; done) | (simp; omega)) (by first | omega | (simp; done) | (simp; omega)) (by decide +kernel) (by simp [Str.length] <;> omega) (by decide +kernel) ?_
  intro t1 k1 hk1
  (try dsimp only)
  (repeat' (first | (with_reducible refine wpAny_execs_cons ?_) | (with_reducible refine wpAny_execs_nil ?_) | (k_unfold; (try dsimp only)) | (k_end; wrow_close) | (cell_step; walk1) | (cell_step; dsimp only; walk1) | (leave1; walk_say "STEP leave1"; try dsimp only) | fail "no step"))
  have hl1 : Txt.replace (tx ([] : List Nat)) (Str.ofString "\\") (Str.ofString "\\\\") = tx (subst 92 [92, 92] ([] : List Nat)) := by rw [bs_is, bb_is, replace_is]
  rw [hl1]
  have hs1 := subst_length 92 92 92 ([] : List Nat)
  refine SC.replaceW (by have hk2 : 1 ≤ k1 := hk1; show k1 ≠ 0; omega) (by show k1 + 1 ≠ 0; omega) (by show k1 ≠ k1 + 1; omega) (by decide +kernel) (by simp [Str.length] <;> omega) (by decide +kernel) ?_
  intro t2 k2
  (try dsimp only)
  have hl2 : Txt.replace (tx (subst 92 [92, 92] ([] : List Nat))) (Str.ofString "\"") (Str.ofString "\\\"") = tx (esc ([] : List Nat)) := by rw [qt_is, bq_is, replace_is, esc_is]
  rw [hl2]
  have hel : (esc ([] : List Nat)).length ≤ 120 := by rw [← esc_is]; have := subst_length 34 92 34 (subst 92 [92, 92] ([] : List Nat)); omega
  refine PyProof.Rows.add_str (hsz := by rw [qt_is]; simp [Str.length, sizeLine] <;> omega) ?_
  intro t3 k3
  (try dsimp only)
  rw [qt_is, tx_append]
  (repeat' (first | (with_reducible refine wpAny_execs_cons ?_) | (with_reducible refine wpAny_execs_nil ?_) | (k_unfold; (try dsimp only)) | (k_end; wrow_close) | (cell_step; walk1) | (cell_step; dsimp only; walk1) | (leave1; walk_say "STEP leave1"; try dsimp only) | fail "no step"))
  refine PyProof.Rows.add_str (hsz := by rw [qn_is]; simp [Str.length, sizeLine] <;> omega) ?_
  intro t4 k4
  (try dsimp only)
  rw [qn_is, tx_append]
  (repeat' (first | (with_reducible refine wpAny_execs_cons ?_) | (with_reducible refine wpAny_execs_nil ?_) | (k_unfold; (try dsimp only)) | (k_end; wrow_close) | (cell_step; walk1) | (cell_step; dsimp only; walk1) | (leave1; walk_say "STEP leave1"; try dsimp only) | fail "no step"))
  rename Fr h₀ L _ _ => F1
  rename News h₀ L _ _ => N1
  exact hret _ _ _ _ F1 N1 ⟨_, congrArg (fun z => Value.str (tx z) _) (by simp), rfl⟩
end
end
section
local macro_rules | `(tactic| cell_step) => `(tactic| (walk_at "s1"; walk_at "s2"; walk_at "t2"))
local macro_rules | `(tactic| walk_at "newList") => `(tactic| walk_at "t3")
local macro_rules | `(tactic| walk_at "newTuple") => `(tactic| walk_at "t4")
section
noncomputable def spell (q : Bool) (w : List Nat) : List Nat := if q = true ∨ w = [] then 34 :: (esc w ++ [34, 10]) else bsl w ++ [10]
noncomputable def spells : Int → List (List Nat) → List (List Nat)
  | _, [] => []
  | t, c :: r => spell (decide (t.fmod 2 = 0)) c :: spells (t + 1) r
theorem spells_snoc (c : List Nat) : ∀ (a : List (List Nat)) (t : Int), spells t (a ++ [c]) = spells t a ++ [spell (decide ((t + (a.length : Int)).fmod 2 = 0)) c]
  | [], t => by simp [spells]
  | x :: r, t => by
    simp only [List.cons_append, spells, spells_snoc c r (t + 1), List.length_cons]
    rw [show t + 1 + (r.length : Int) = t + ((r.length + 1 : Nat) : Int) by push_cast; omega]
theorem texts_get : ∀ {vs : List Value} {ws : List (List Nat)} {i : Nat} {w : List Nat}, TextsAre vs ws → ws[i]? = some w → ∃ t, vs[i]? = some (.str (tx w) t)
  | _, _, 0, w, .cons x t h, e => by simp at e; subst e; exact ⟨t, rfl⟩
  | _, _, i + 1, w, .cons x t h, e => by simp at e ⊢; exact texts_get h e
theorem esc_len : ∀ w : List Nat, (esc w).length ≤ 2 * w.length
  | [] => Nat.le_refl _
  | c :: r => by
    have ih := esc_len r
    have e : esc (c :: r) = (if c = 34 ∨ c = 92 then [92, c] else [c]) ++ esc r := rfl
    rw [e, List.length_append, List.length_cons]
    have h : (if c = 34 ∨ c = 92 then [92, c] else [c]).length ≤ 2 := by split <;> simp
    omega
theorem bsl_len2 : ∀ w : List Nat, (bsl w).length = 2 * w.length
  | [] => rfl
  | c :: r => by
    have e : bsl (c :: r) = [92, c] ++ bsl r := rfl
    rw [e, List.length_append, bsl_len2 r, List.length_cons]
    simp only [List.length_cons, List.length_nil]
    omega
theorem spell_len (q : Bool) (w : List Nat) : (spell q w).length ≤ 2 * w.length + 3 := by
  unfold spell
  split
  · have := esc_len w
    simp only [List.length_cons, List.length_append, List.length_nil]
    omega
  · rw [List.length_append, bsl_len2]
    simp only [List.length_cons, List.length_nil]
    omega
theorem spells_len : ∀ (a : List (List Nat)) (t : Int), (∀ w ∈ a, w.length ≤ 10) → (((spells t a).map tx).map (·.length)).sum ≤ 23 * a.length ∧ (spells t a).length = a.length
  | [], t, _ => ⟨Nat.le_refl _, rfl⟩
  | x :: r, t, h => by
    have ih := spells_len r (t + 1) fun w hw => h w (.tail _ hw)
    have h1 := spell_len (decide (t.fmod 2 = 0)) x
    have h2 := h x (.head _)
    simp only [spells, List.map_cons, List.sum_cons, List.length_cons]
    have e : (tx (spell (decide (t.fmod 2 = 0)) x)).length = (spell (decide (t.fmod 2 = 0)) x).length := by simp [Str.length]
    omega
theorem spelled_any (w : World) (rest : Led) (word : List Nat) (t : Tok) (q : Bool) (hw : word.length ≤ 30) :
  Tel w 2 100 (.ref 129) [.str (tx word) t, .bool q] rest (fun v news' => ∃ t', v = .str (tx (spell q word)) t' ∧ news' = rest) := by
  cases q with
  | true => exact spelled_q w rest word t hw
  | false =>
    by_cases hne : word = []
    · subst hne
      exact spelled_e w rest t
    · have e : spell false word = bsl word ++ [10] := by unfold spell; rw [if_neg (by simp [hne])]
      rw [e]
      exact spelled_p w rest word t hw hne
inductive P3 (tot : Int) (WS : List (List Nat)) (m : Str → Option Value) (news : Led) (m' : Str → Option Value) (news' : Led) : Prop
  | mk (t : Tok) (zh1 : m' = (fun y => if y = Str.ofString "text" then some (.str (tx (spells tot WS).flatten) t) else m y)) (zh2 : news' = news)
namespace Vstage3
noncomputable def At0 (w : World) (fa : Addr) (cd : Value) (L : Addr) (D : Addr) (Dw : Addr) (us : List Value) (ys : List Value) (k : Nat) (kw : Nat) (tot : Int) (WS : List (List Nat)) (t1 : Tok) (m : Str → Option Value) (tabs : Led) (o1 : Obj) (o2 : Obj) (o3 : Obj) (o4 : Obj) (o5 : Obj) (o6 : Obj) (o7 : Obj) (zvv : StgV) : Prop := ∀ (e1 : o1.data = .cell (some (.int tot t1))) (e5 : o5.data = .cell (some (.ref Dw))) (hy : TextsAre ys WS) (h3 : WS.length = 3) (h10 : ∀ w ∈ WS, w.length ≤ 10), StgAt w fa cd L 5 1 (fun _ => True) m ((Dw, PySem.W.listOf ys.toArray kw) :: (D, PySem.W.listOf us.toArray k) :: cells7 L o1 o2 o3 o4 o5 o6 o7 tabs)
    (P3 tot WS m ((Dw, PySem.W.listOf ys.toArray kw) :: (D, PySem.W.listOf us.toArray k) :: cells7 L o1 o2 o3 o4 o5 o6 o7 tabs)) zvv
noncomputable def AtX (x : (World) × (Addr) × (Value) × (Addr) × (Addr) × (Addr) × (List Value) × (List Value) × (Nat) × (Nat) × (Int) × (List (List Nat)) × (Tok) × (Str → Option Value) × (Led) × (Obj) × (Obj) × (Obj) × (Obj) × (Obj) × (Obj) × (Obj) × StgV) : Prop := At0 (x.1) (x.2.1) (x.2.2.1) (x.2.2.2.1) (x.2.2.2.2.1) (x.2.2.2.2.2.1) (x.2.2.2.2.2.2.1) (x.2.2.2.2.2.2.2.1) (x.2.2.2.2.2.2.2.2.1) (x.2.2.2.2.2.2.2.2.2.1) (x.2.2.2.2.2.2.2.2.2.2.1) (x.2.2.2.2.2.2.2.2.2.2.2.1) (x.2.2.2.2.2.2.2.2.2.2.2.2.1) (x.2.2.2.2.2.2.2.2.2.2.2.2.2.1) (x.2.2.2.2.2.2.2.2.2.2.2.2.2.2.1) (x.2.2.2.2.2.2.2.2.2.2.2.2.2.2.2.1) (x.2.2.2.2.2.2.2.2.2.2.2.2.2.2.2.2.1) (x.2.2.2.2.2.2.2.2.2.2.2.2.2.2.2.2.2.1) (x.2.2.2.2.2.2.2.2.2.2.2.2.2.2.2.2.2.2.1) (x.2.2.2.2.2.2.2.2.2.2.2.2.2.2.2.2.2.2.2.1) (x.2.2.2.2.2.2.2.2.2.2.2.2.2.2.2.2.2.2.2.2.1) (x.2.2.2.2.2.2.2.2.2.2.2.2.2.2.2.2.2.2.2.2.2.1) (x.2.2.2.2.2.2.2.2.2.2.2.2.2.2.2.2.2.2.2.2.2.2)
noncomputable def cc0 : (World) × (Addr) × (Value) × (Addr) × (Addr) × (Addr) × (List Value) × (List Value) × (Nat) × (Nat) × (Int) × (List (List Nat)) × (Tok) × (Str → Option Value) × (Led) × (Obj) × (Obj) × (Obj) × (Obj) × (Obj) × (Obj) × (Obj) × StgV := eps1 (ne_prod ne_world (ne_prod ne_addr (ne_prod ne_value (ne_prod ne_addr (ne_prod ne_addr (ne_prod ne_addr (ne_prod ne_list (ne_prod ne_list (ne_prod ne_nat (ne_prod ne_nat (ne_prod ne_int (ne_prod ne_list (ne_prod ne_tok (ne_prod ne_par (ne_prod ne_led (ne_prod ne_obj (ne_prod ne_obj (ne_prod ne_obj (ne_prod ne_obj (ne_prod ne_obj (ne_prod ne_obj (ne_prod ne_obj stgV_ne)))))))))))))))))))))) AtX
noncomputable def w : World := cc0.1
noncomputable def fa : Addr := cc0.2.1
noncomputable def cd : Value := cc0.2.2.1
noncomputable def L : Addr := cc0.2.2.2.1
noncomputable def D : Addr := cc0.2.2.2.2.1
noncomputable def Dw : Addr := cc0.2.2.2.2.2.1
noncomputable def us : List Value := cc0.2.2.2.2.2.2.1
noncomputable def ys : List Value := cc0.2.2.2.2.2.2.2.1
noncomputable def k : Nat := cc0.2.2.2.2.2.2.2.2.1
noncomputable def kw : Nat := cc0.2.2.2.2.2.2.2.2.2.1
noncomputable def tot : Int := cc0.2.2.2.2.2.2.2.2.2.2.1
noncomputable def WS : List (List Nat) := cc0.2.2.2.2.2.2.2.2.2.2.2.1
noncomputable def t1 : Tok := cc0.2.2.2.2.2.2.2.2.2.2.2.2.1
noncomputable def m : Str → Option Value := cc0.2.2.2.2.2.2.2.2.2.2.2.2.2.1
noncomputable def tabs : Led := cc0.2.2.2.2.2.2.2.2.2.2.2.2.2.2.1
noncomputable def o1 : Obj := cc0.2.2.2.2.2.2.2.2.2.2.2.2.2.2.2.1
noncomputable def o2 : Obj := cc0.2.2.2.2.2.2.2.2.2.2.2.2.2.2.2.2.1
noncomputable def o3 : Obj := cc0.2.2.2.2.2.2.2.2.2.2.2.2.2.2.2.2.2.1
noncomputable def o4 : Obj := cc0.2.2.2.2.2.2.2.2.2.2.2.2.2.2.2.2.2.2.1
noncomputable def o5 : Obj := cc0.2.2.2.2.2.2.2.2.2.2.2.2.2.2.2.2.2.2.2.1
noncomputable def o6 : Obj := cc0.2.2.2.2.2.2.2.2.2.2.2.2.2.2.2.2.2.2.2.2.1
noncomputable def o7 : Obj := cc0.2.2.2.2.2.2.2.2.2.2.2.2.2.2.2.2.2.2.2.2.2.1
noncomputable def v0 : StgV := cc0.2.2.2.2.2.2.2.2.2.2.2.2.2.2.2.2.2.2.2.2.2.2
theorem aux (e1 : o1.data = .cell (some (.int tot t1))) (e5 : o5.data = .cell (some (.ref Dw))) (hy : TextsAre ys WS) (h3 : WS.length = 3) (h10 : ∀ w ∈ WS, w.length ≤ 10) :
  StgAt w fa cd L 5 1 (fun _ => True) m ((Dw, PySem.W.listOf ys.toArray kw) :: (D, PySem.W.listOf us.toArray k) :: cells7 L o1 o2 o3 o4 o5 o6 o7 tabs)
    (P3 tot WS m ((Dw, PySem.W.listOf ys.toArray kw) :: (D, PySem.W.listOf us.toArray k) :: cells7 L o1 o2 o3 o4 o5 o6 o7 tabs)) v0 := by
  intro B F X N T C1 C2 C3 hE _ hret
  (repeat' (first | (with_reducible refine if_ff ?_) | (with_reducible refine if_tt ?_) | (k_unfold; (try dsimp only)) | (k_end; wrow_close) | (cell_step; walk1) | (cell_step; dsimp only; walk1) | (leave1; walk_say "STEP leave1"; try dsimp only) | fail "no step"))
  refine' LCg.ListComp_U F ?a1 ?a2 ?a3 ?a4 ?a5 ?_
  case a1 => with_unfolding_all rfl
  case a2 => decide
  case a3 => rfl
  case a4 => decide
  case a5 => rfl
  (repeat' (first | (with_reducible refine if_ff ?_) | (with_reducible refine if_tt ?_) | (k_unfold; (try dsimp only)) | (k_end; wrow_close) | (cell_step; walk1) | (cell_step; dsimp only; walk1) | (leave1; walk_say "STEP leave1"; try dsimp only) | fail "no step"))
  rename Fr _ _ _ _ => F1
  rename News _ _ _ _ => N1
  refine LCg.CompSrc.range (by rfl) F1 N1 (by assumption) (by decide) (by rfl) (by exact Nat.le_of_ble_eq_true rfl) ?_
  intro g'
  refine comp_ind (fun i zs nx => nx = _ ∧ TextsAre zs (spells tot (WS.take i))) ⟨rfl, .nil⟩ ?turn ?fin
  case turn =>
    rintro i v9 zs nx hi ⟨tv, rfl⟩ ⟨rfl, hW⟩ I oI C oC D9 m₂ h tk E' hC hx F2 N2 off ne
    have hi5 : i < 3 := hi
    obtain ⟨c, hc⟩ : ∃ c, WS[i]? = some c := ⟨WS[i], List.getElem?_eq_getElem (by omega)⟩
    have hcl := h10 c (List.mem_of_getElem? hc)
    obtain ⟨tc, htc⟩ := texts_get (i := i) (w := c) hy hc
    (repeat' (first | (with_reducible refine if_ff ?_) | (with_reducible refine if_tt ?_) | (k_unfold; (try dsimp only)) | (k_end; wrow_close) | (cell_step; walk1) | (cell_step; dsimp only; walk1) | (leave1; walk_say "STEP leave1"; try dsimp only) | fail "no step"))
    refine PyProof.Rows.item_listL (News.isList N2 (by k_mem)) (by omega) (by omega) (x := .str (tx c) tc) (by rw [show (0 + (i : Int)).toNat = i by omega]; exact htc) ?_
    (repeat' (first | (with_reducible refine if_ff ?_) | (with_reducible refine if_tt ?_) | (k_unfold; (try dsimp only)) | (k_end; wrow_close) | (cell_step; walk1) | (cell_step; dsimp only; walk1) | (leave1; walk_say "STEP leave1"; try dsimp only) | fail "no step"))
    (refine' tel_use ?tH ?tB ?tF ?tX ?tN ?tT ?tC1 ?tC2 ?tC3 ?tk ?td ?tu ?_; (case tB => k_asm); (case tF => k_asm); (case tX => k_asm); (case tN => k_asm); (case tT => k_asm); (case tC1 => assumption); (case tC2 => assumption); (case tC3 => assumption); (case tk => first | exact rfl | assumption); (case tH => exact (spelled_any w _ c _ _ (by omega))); (case td => ktr_room); (case tu => ktr_units))
    rintro v9 h9 tk9 news9 F9 N9 ⟨t9, rfl, rfl⟩
    (try dsimp only)
    refine LCg.CompEnd.intro F9 N9 _ (fun p hp => hp) off trivial ⟨rfl, ?_⟩
    rw [List.take_add_one, hc]
    show TextsAre _ (spells tot (WS.take i ++ [c]))
    rw [spells_snoc, List.length_take, Nat.min_eq_left (by omega)]
    have hz : (tot + (0 + (i : Int))) = tot + (i : Int) := by omega
    rw [hz]
    exact hW.append (.cons _ _ .nil)
  case fin =>
    rintro zs nx ⟨rfl, hW⟩
    rw [show ((3 - 0 - 1) / 1 + 1 : Nat) = 3 from rfl, List.take_of_length_le (by omega)] at hW
    unfold LCg.FinE
    intro D9 h9 tk9 F10 N10 off9
    (repeat' (first | (with_reducible refine if_ff ?_) | (with_reducible refine if_tt ?_) | (k_unfold; (try dsimp only)) | (k_end; wrow_close) | (cell_step; walk1) | (cell_step; dsimp only; walk1) | (leave1; walk_say "STEP leave1"; try dsimp only) | fail "no step"))
    rename Fr _ _ _ _ => F3
    rename News _ _ _ _ => N3
    have hsl := spells_len WS tot h10
    refine join_list (News.isList N3 (.head _)) (by rw [List.toList_toArray]; exact texts_strs hW) (by rw [List.length_map, show (Str.ofString "").length = 0 from rfl]; omega) ?_
    intro t9 k9
    (try dsimp only)
    rw [join_tx]
    (repeat' (first | (with_reducible refine if_ff ?_) | (with_reducible refine if_tt ?_) | (k_unfold; (try dsimp only)) | (k_end; wrow_close) | (cell_step; walk1) | (cell_step; dsimp only; walk1) | (leave1; walk_say "STEP leave1"; try dsimp only) | fail "no step"))
    rename Fr _ _ _ _ => F5
    rename News _ _ _ _ => N5'
    refine hret _ _ _ _ F5 (news_tail N5') ⟨_, rfl, rfl⟩
end Vstage3
theorem stage3 (w : World) (fa : Addr) (cd : Value) (L D Dw : Addr) (us ys : List Value) (k kw : Nat) (tot : Int) (WS : List (List Nat)) (t1 : Tok) (m : Str → Option Value) (tabs : Led) (o1 o2 o3 o4 o5 o6 o7 : Obj) (e1 : o1.data = .cell (some (.int tot t1))) (e5 : o5.data = .cell (some (.ref Dw))) (hy : TextsAre ys WS) (h3 : WS.length = 3) (h10 : ∀ w ∈ WS, w.length ≤ 10) :
  Stg w fa cd L 5 1 (fun _ => True) m ((Dw, PySem.W.listOf ys.toArray kw) :: (D, PySem.W.listOf us.toArray k) :: cells7 L o1 o2 o3 o4 o5 o6 o7 tabs)
    (P3 tot WS m ((Dw, PySem.W.listOf ys.toArray kw) :: (D, PySem.W.listOf us.toArray k) :: cells7 L o1 o2 o3 o4 o5 o6 o7 tabs)) := stg_of fun zvv => (show Vstage3.At0 w fa cd L D Dw us ys k kw tot WS t1 m tabs o1 o2 o3 o4 o5 o6 o7 zvv from eps1_all (P := Vstage3.AtX) @Vstage3.aux (w, fa, cd, L, D, Dw, us, ys, k, kw, tot, WS, t1, m, tabs, o1, o2, o3, o4, o5, o6, o7, zvv)) e1 e5 hy h3 h10
end
section
noncomputable abbrev R3 (L D Dw : Addr) (us ys : List Value) (k kw : Nat) (o1 o2 o3 o4 o5 o6 o7 : Obj) (tb : Led) : Led := (Dw, W.listOf ys.toArray kw) :: (D, W.listOf us.toArray k) :: cells7 L o1 o2 o3 o4 o5 o6 o7 tb
inductive P4 (w : World) (L D Dw : Addr) (us ys : List Value) (k kw : Nat) (m : Str → Option Value) (tb : Led) (o1 o2 o3 o4 o5 o7 : Obj) (cs : List Nat) (m' : Str → Option Value) (news' : Led) : Prop
  | mk (zh1 : m' = m) (P : LexP) (tl : Tok) (sg : List Value) (ep : Nat) (p6 : Obj) (ps : Array Value) (zh2 : LexOk P) (zh3 : topA (R3 L D Dw us ys k kw o1 o2 o3 o4 o5 p6 o7 ((131, tabObj ps) :: tb)) ≤ P.cG) (zh4 : TextsAre sg (cs.map fun c => [c])) (zh5 : p6.data = .cell (some (.ref P.X))) (zh6 : news' = LexL w P 1 tl [] 0 sg ep ++ R3 L D Dw us ys k kw o1 o2 o3 o4 o5 p6 o7 ((131, tabObj ps) :: tb))
namespace Vstage4
noncomputable def At0 (w : World) (fa : Addr) (cd : Value) (L : Addr) (D : Addr) (Dw : Addr) (us : List Value) (ys : List Value) (k : Nat) (kw : Nat) (m : Str → Option Value) (tb : Led) (o1 : Obj) (o2 : Obj) (o3 : Obj) (o4 : Obj) (o5 : Obj) (o6 : Obj) (o7 : Obj) (cs : List Nat) (tt : Tok) (zvv : StgV) : Prop := ∀ (ht : topA tb ≤ L) (h131 : @LT.lt Nat _ 131 L) (hoff : OwnOff tb [131]) (hD : offC L ((131, tabObj #[]) :: tb) D) (hDw : offC L ((131, tabObj #[]) :: tb) Dw) (e6 : o6.data = .cell none) (hm : m (Str.ofString "text") = some (.str (tx cs) tt)) (hcs : cs.length ≤ 1000), StgAt w fa cd L 6 1 (fun h => True) m (R3 L D Dw us ys k kw o1 o2 o3 o4 o5 o6 o7 ((131, tabObj #[]) :: tb))
    (P4 w L D Dw us ys k kw m tb o1 o2 o3 o4 o5 o7 cs) zvv
noncomputable def AtX (x : (World) × (Addr) × (Value) × (Addr) × (Addr) × (Addr) × (List Value) × (List Value) × (Nat) × (Nat) × (Str → Option Value) × (Led) × (Obj) × (Obj) × (Obj) × (Obj) × (Obj) × (Obj) × (Obj) × (List Nat) × (Tok) × StgV) : Prop := At0 (x.1) (x.2.1) (x.2.2.1) (x.2.2.2.1) (x.2.2.2.2.1) (x.2.2.2.2.2.1) (x.2.2.2.2.2.2.1) (x.2.2.2.2.2.2.2.1) (x.2.2.2.2.2.2.2.2.1) (x.2.2.2.2.2.2.2.2.2.1) (x.2.2.2.2.2.2.2.2.2.2.1) (x.2.2.2.2.2.2.2.2.2.2.2.1) (x.2.2.2.2.2.2.2.2.2.2.2.2.1) (x.2.2.2.2.2.2.2.2.2.2.2.2.2.1) (x.2.2.2.2.2.2.2.2.2.2.2.2.2.2.1) (x.2.2.2.2.2.2.2.2.2.2.2.2.2.2.2.1) (x.2.2.2.2.2.2.2.2.2.2.2.2.2.2.2.2.1) (x.2.2.2.2.2.2.2.2.2.2.2.2.2.2.2.2.2.1) (x.2.2.2.2.2.2.2.2.2.2.2.2.2.2.2.2.2.2.1) (x.2.2.2.2.2.2.2.2.2.2.2.2.2.2.2.2.2.2.2.1) (x.2.2.2.2.2.2.2.2.2.2.2.2.2.2.2.2.2.2.2.2.1) (x.2.2.2.2.2.2.2.2.2.2.2.2.2.2.2.2.2.2.2.2.2)
noncomputable def cc0 : (World) × (Addr) × (Value) × (Addr) × (Addr) × (Addr) × (List Value) × (List Value) × (Nat) × (Nat) × (Str → Option Value) × (Led) × (Obj) × (Obj) × (Obj) × (Obj) × (Obj) × (Obj) × (Obj) × (List Nat) × (Tok) × StgV := eps1 (ne_prod ne_world (ne_prod ne_addr (ne_prod ne_value (ne_prod ne_addr (ne_prod ne_addr (ne_prod ne_addr (ne_prod ne_list (ne_prod ne_list (ne_prod ne_nat (ne_prod ne_nat (ne_prod ne_par (ne_prod ne_led (ne_prod ne_obj (ne_prod ne_obj (ne_prod ne_obj (ne_prod ne_obj (ne_prod ne_obj (ne_prod ne_obj (ne_prod ne_obj (ne_prod ne_list (ne_prod ne_tok stgV_ne))))))))))))))))))))) AtX
noncomputable def w : World := cc0.1
noncomputable def fa : Addr := cc0.2.1
noncomputable def cd : Value := cc0.2.2.1
noncomputable def L : Addr := cc0.2.2.2.1
noncomputable def D : Addr := cc0.2.2.2.2.1
noncomputable def Dw : Addr := cc0.2.2.2.2.2.1
noncomputable def us : List Value := cc0.2.2.2.2.2.2.1
noncomputable def ys : List Value := cc0.2.2.2.2.2.2.2.1
noncomputable def k : Nat := cc0.2.2.2.2.2.2.2.2.1
noncomputable def kw : Nat := cc0.2.2.2.2.2.2.2.2.2.1
noncomputable def m : Str → Option Value := cc0.2.2.2.2.2.2.2.2.2.2.1
noncomputable def tb : Led := cc0.2.2.2.2.2.2.2.2.2.2.2.1
noncomputable def o1 : Obj := cc0.2.2.2.2.2.2.2.2.2.2.2.2.1
noncomputable def o2 : Obj := cc0.2.2.2.2.2.2.2.2.2.2.2.2.2.1
noncomputable def o3 : Obj := cc0.2.2.2.2.2.2.2.2.2.2.2.2.2.2.1
noncomputable def o4 : Obj := cc0.2.2.2.2.2.2.2.2.2.2.2.2.2.2.2.1
noncomputable def o5 : Obj := cc0.2.2.2.2.2.2.2.2.2.2.2.2.2.2.2.2.1
noncomputable def o6 : Obj := cc0.2.2.2.2.2.2.2.2.2.2.2.2.2.2.2.2.2.1
noncomputable def o7 : Obj := cc0.2.2.2.2.2.2.2.2.2.2.2.2.2.2.2.2.2.2.1
noncomputable def cs : List Nat := cc0.2.2.2.2.2.2.2.2.2.2.2.2.2.2.2.2.2.2.2.1
noncomputable def tt : Tok := cc0.2.2.2.2.2.2.2.2.2.2.2.2.2.2.2.2.2.2.2.2.1
noncomputable def v0 : StgV := cc0.2.2.2.2.2.2.2.2.2.2.2.2.2.2.2.2.2.2.2.2.2
noncomputable abbrev base := v0.base
noncomputable abbrev s := v0.s
theorem aux (ht : topA tb ≤ L) (h131 : @LT.lt Nat _ 131 L) (hoff : OwnOff tb [131]) (hD : offC L ((131, tabObj #[]) :: tb) D) (hDw : offC L ((131, tabObj #[]) :: tb) Dw) (e6 : o6.data = .cell none) (hm : m (Str.ofString "text") = some (.str (tx cs) tt)) (hcs : cs.length ≤ 1000) :
  StgAt w fa cd L 6 1 (fun h => True) m (R3 L D Dw us ys k kw o1 o2 o3 o4 o5 o6 o7 ((131, tabObj #[]) :: tb))
    (P4 w L D Dw us ys k kw m tb o1 o2 o3 o4 o5 o7 cs) v0 := by
  intro B F X N T C1 C2 C3 hE hS hret
  have N1 : News base L s.heap ((131, tabObj #[]) :: R3 L D Dw us ys k kw o1 o2 o3 o4 o5 o6 o7 tb) := news_perm N (by intro p hp; simp only [List.mem_cons] at hp ⊢; grind)
  clear N
  have hM : Has m [(Str.ofString "text", .str (tx cs) tt)] := ⟨hm, trivial⟩
  have F0 := fr_all0 hM F
  clear F
  have hoff' : OwnOff (R3 L D Dw us ys k kw o1 o2 o3 o4 o5 o6 o7 tb) [131] := by
    have h9 : ∀ i : Nat, ∀ d ∈ [131], @Ne Nat (L + i) d := fun i d hd => by
      rw [List.mem_singleton.mp hd]
      exact Nat.ne_of_gt (Nat.lt_of_lt_of_le h131 (Nat.le_add_right L i))
    obtain ⟨_, _, _, _, _, _, _, a1, _⟩ := hD
    obtain ⟨_, _, _, _, _, _, _, a2, _⟩ := hDw
    refine ownOff_cons (fun d hd => by rw [List.mem_singleton.mp hd]; exact Ne.symm a2) (ownOff_cons (fun d hd => by rw [List.mem_singleton.mp hd]; exact Ne.symm a1) ?_)
    exact ownOff_cons (h9 7) (ownOff_cons (h9 6) (ownOff_cons (h9 5) (ownOff_cons (h9 4) (ownOff_cons (h9 3) (ownOff_cons (h9 2) (ownOff_cons (h9 1) hoff))))))
  (repeat' (first | (with_reducible refine if_ff ?_) | (with_reducible refine if_tt ?_) | (k_unfold; (try dsimp only)) | (k_end; wrow_close) | (cell_step; walk1) | (cell_step; dsimp only; walk1) | (leave1; walk_say "STEP leave1"; try dsimp only) | fail "no step"))
  (refine' tel_use ?tH ?tB ?tF ?tX ?tN ?tT ?tC1 ?tC2 ?tC3 ?tk ?td ?tu ?_; (case tB => k_asm); (case tF => k_asm); (case tX => k_asm); (case tN => k_asm); (case tT => k_asm); (case tC1 => assumption); (case tC2 => assumption); (case tC3 => assumption); (case tk => first | exact rfl | assumption); (case tH => exact (law_lexer w (R3 L D Dw us ys k kw o1 o2 o3 o4 o5 o6 o7 tb) cs _ hcs hoff')); (case td => ktr_room); (case tu => ktr_units))
  rintro v9 h9 tk9 news9 F9 N9 ⟨P, tl, sg, ep, rfl, O, _, hsg, ps, hP, rfl⟩
  (try dsimp only)
  obtain ⟨q1, q2, q3, n1, n2, n3, n4, n5, n6, n7, n8, n9⟩ := O
  simp only [topA_nil, topA_cons, topA_app, Nat.max_le, Nat.zero_le, true_and, and_true, List.cons_append, List.nil_append] at hP
  obtain ⟨b1, b2, b3, b4, b5, b6, b7, _⟩ := hD
  obtain ⟨c1, c2, c3, c4, c5, c6, c7, _⟩ := hDw
  simp only [LexL, List.cons_append, List.nil_append] at N9
  (repeat' (first | (with_reducible refine if_ff ?_) | (with_reducible refine if_tt ?_) | (k_unfold; (try dsimp only)) | (k_end; wrow_close) | (cell_step; walk1) | (cell_step; dsimp only; walk1) | (leave1; walk_say "STEP leave1"; try dsimp only) | fail "no step"))
  rename Fr _ _ _ _ => F1
  rename News _ _ _ _ => N2
  rw [bindAll_eq hM] at F1
  rename (_ = Data.cell (some (Value.ref P.X))) => e9
  refine hret _ _ (news' := LexL w P 1 tl [] 0 sg ep ++ R3 L D Dw us ys k kw o1 o2 o3 o4 o5 _ o7 ((131, tabObj ps) :: tb)) _ F1 (news_perm N2 ?pm) ⟨rfl, P, tl, sg, ep, _, ps, ⟨q1, q2, q3, n1, n2, n3, n4, n5, n6, n7, n8, n9⟩, ?_, hsg, e9, rfl⟩
  case pm => simp only [LexL, List.cons_append, List.nil_append]; walk_at "mem all"
  simp only [topA_nil, topA_cons, topA_app, Nat.max_le, Nat.zero_le, true_and, and_true, List.cons_append, List.nil_append]
  omega
end Vstage4
theorem stage4 (w : World) (fa : Addr) (cd : Value) (L D Dw : Addr) (us ys : List Value) (k kw : Nat) (m : Str → Option Value) (tb : Led) (o1 o2 o3 o4 o5 o6 o7 : Obj) (cs : List Nat) (tt : Tok) (ht : topA tb ≤ L) (h131 : @LT.lt Nat _ 131 L) (hoff : OwnOff tb [131]) (hD : offC L ((131, tabObj #[]) :: tb) D) (hDw : offC L ((131, tabObj #[]) :: tb) Dw) (e6 : o6.data = .cell none) (hm : m (Str.ofString "text") = some (.str (tx cs) tt)) (hcs : cs.length ≤ 1000) :
  Stg w fa cd L 6 1 (fun h => True) m (R3 L D Dw us ys k kw o1 o2 o3 o4 o5 o6 o7 ((131, tabObj #[]) :: tb))
    (P4 w L D Dw us ys k kw m tb o1 o2 o3 o4 o5 o7 cs) := stg_of fun zvv => (show Vstage4.At0 w fa cd L D Dw us ys k kw m tb o1 o2 o3 o4 o5 o6 o7 cs tt zvv from eps1_all (P := Vstage4.AtX) @Vstage4.aux (w, fa, cd, L, D, Dw, us, ys, k, kw, m, tb, o1, o2, o3, o4, o5, o6, o7, cs, tt, zvv)) ht h131 hoff hD hDw e6 hm hcs
end
section
theorem str_ok {w : List Nat} (h : ∀ x ∈ w, x < 0x110000) : PyData.strOk (tx w) = true := by
  unfold PyData.strOk
  simpa using h
theorem get_next (w : World) (P : LexP) (O : LexOk P) (rest : Led) (line : Int) (tl : Tok) (pe : Nat) (sg : List Value) (ep : Nat) (pre c : List Nat) (N : List (List Nat)) (t : Int) (hpre : pre = [] ∨ pre = [10]) (hr : OwnOff rest [P.G, P.dX]) (hsg : TextsAre sg ((pre ++ (spells t (c :: N)).flatten).map fun c => [c])) (hl : (pre ++ (spells t (c :: N)).flatten).length ≤ 1000) (hc : ∀ x ∈ (pre ++ (spells t (c :: N)).flatten), x < 0x110000) (hcl : c.length ≤ 10) :
  Tel w 8 400 (.ref 98) [.ref P.X] (LexL w P line tl [] pe sg ep ++ rest) (fun v news' => ∃ t' line' tl' sg' ep' pre', (pre' = [] ∨ pre' = [10]) ∧ v = .str (tx c) t' ∧ news' = LexL w P line' tl' [] pe sg' ep' ++ rest ∧ TextsAre sg' ((pre' ++ (spells (t + 1) N).flatten).map fun c => [c]) ∧
    line' + cnt (pre' ++ (spells (t + 1) N).flatten) = line + cnt (pre ++ (spells t (c :: N)).flatten) ∧ (pre' ++ (spells (t + 1) N).flatten).length ≤ 1000 ∧ (∀ x ∈ (pre' ++ (spells (t + 1) N).flatten), x < 0x110000)) := by
  have key : ∀ pre' : List Nat, (∃ z, pre ++ (spells t (c :: N)).flatten = z ++ (pre' ++ (spells (t + 1) N).flatten)) → (pre' ++ (spells (t + 1) N).flatten).length ≤ 1000 ∧ (∀ x ∈ (pre' ++ (spells (t + 1) N).flatten), x < 0x110000) := by
    rintro pre' ⟨z, hz⟩
    rw [hz] at hl hc
    refine ⟨?_, fun x hx => hc x (List.mem_append_right _ hx)⟩
    rw [List.length_append] at hl
    omega
  by_cases hq : decide (t.fmod 2 = 0) = true ∨ c = []
  · have e : pre ++ (spells t (c :: N)).flatten = pre ++ 34 :: (esc c ++ 34 :: ([10] ++ (spells (t + 1) N).flatten)) := by
      rw [spells, spell, if_pos hq]
      simp
    have hk := key [10] ⟨pre ++ 34 :: (esc c ++ [34]), by rw [e]; simp⟩
    rw [e] at hsg hl hc ⊢
    have H := get_quoted w P O rest line tl pe sg c ([10] ++ (spells (t + 1) N).flatten) ep pre hpre hr hsg hl hc (by omega)
    intro mean mg mb dp un gd cn cs ad ccd cl outer A₀ base h₀ L m s Q E B F X N T C1 C2 C3 hk' hd hu hret
    refine H mean mg mb dp un gd cn cs ad ccd cl outer A₀ base h₀ L m s Q E B F X N T C1 C2 C3 hk' hd hu ?_
    rintro v h' tk' news' F' N' ⟨t', line', tl', sg', ep', h1, h2, h3, h4⟩
    exact hret v h' tk' news' F' N' ⟨t', line', tl', sg', ep', [10], .inr rfl, h1, h2, h3, h4, hk.1, hk.2⟩
  · obtain ⟨c1, w1, rfl⟩ : ∃ c1 w1, c = c1 :: w1 := by
      cases c with
      | nil => exact absurd (.inr rfl) hq
      | cons c1 w1 => exact ⟨c1, w1, rfl⟩
    have e : pre ++ (spells t ((c1 :: w1) :: N)).flatten = pre ++ 92 :: c1 :: (bsl w1 ++ 10 :: ([] ++ (spells (t + 1) N).flatten)) := by
      rw [spells, spell, if_neg hq]
      simp [bsl]
    have hk := key [] ⟨pre ++ 92 :: c1 :: (bsl w1 ++ [10]), by rw [e]; simp⟩
    rw [e] at hsg hl hc ⊢
    have H := get_plain w P O rest line tl pe sg c1 w1 ([] ++ (spells (t + 1) N).flatten) ep pre hpre hr hsg hl hc (by rw [List.length_cons] at hcl; omega)
    intro mean mg mb dp un gd cn cs ad ccd cl outer A₀ base h₀ L m s Q E B F X N T C1 C2 C3 hk' hd hu hret
    refine H mean mg mb dp un gd cn cs ad ccd cl outer A₀ base h₀ L m s Q E B F X N T C1 C2 C3 hk' hd hu ?_
    rintro v h' tk' news' F' N' ⟨t', line', tl', sg', ep', h1, h2, h3, h4⟩
    exact hret v h' tk' news' F' N' ⟨t', line', tl', sg', ep', [], .inl rfl, h1, h2, h3, h4, hk.1, hk.2⟩
inductive LexSt (w : World) (P : LexP) (t : Int) (N : List (List Nat)) (tot0 : Int) (rest : Led) (news : Led) : Prop
  | mk (line : Int) (tl : Tok) (pe : Nat) (sg : List Value) (ep : Nat) (pre : List Nat) (zh1 : (pre = [] ∨ pre = [10])) (zh2 : news = LexL w P line tl [] pe sg ep ++ rest) (zh3 : TextsAre sg ((pre ++ (spells t N).flatten).map fun c => [c])) (zh4 : line + cnt (pre ++ (spells t N).flatten) = tot0) (zh5 : (pre ++ (spells t N).flatten).length ≤ 1000) (zh6 : ∀ x ∈ (pre ++ (spells t N).flatten), x < 0x110000)
inductive LexTo (w : World) (P : LexP) (tot : Int) (N : List (List Nat)) (tot0 : Int) (rest : Led) (i : Nat) (news : Led) : Prop
  | on (h : i ≤ N.length) (st : LexSt w P (tot + (i : Int)) (N.drop i) tot0 rest news)
  | done (h : i = N.length + 1) (tl : Tok) (pe ep : Nat) (zh : news = LexL w P tot0 tl [] pe [] ep ++ rest)
theorem LexTo.led {w : World} {P : LexP} {tot : Int} {N : List (List Nat)} {tot0 : Int} {rest : Led} {i : Nat} {news : Led} (h : LexTo w P tot N tot0 rest i news) : ∃ line tl pe sg ep, news = LexL w P line tl [] pe sg ep ++ rest := by
  rcases h with ⟨_, line, tl, pe, sg, ep, pre, _, rfl, _⟩ | ⟨_, tl, pe, ep, rfl⟩
  · exact ⟨_, _, _, _, _, rfl⟩
  · exact ⟨_, _, _, _, _, rfl⟩
theorem lexL_inj {w : World} {P : LexP} {l1 l2 : Int} {t1 t2 : Tok} {e1 e2 : Nat} {s1 s2 : List Value} {p1 p2 : Nat} {r1 r2 : Led} (h : LexL w P l1 t1 [] e1 s1 p1 ++ r1 = LexL w P l2 t2 [] e2 s2 p2 ++ r2) (k : r1 = r2) : ∀ r3, LexL w P l1 t1 [] e1 s1 p1 ++ r3 = LexL w P l2 t2 [] e2 s2 p2 ++ r3 := by
  subst k
  intro r3
  rw [List.append_cancel_right h]
theorem LexTo.other {w : World} {P : LexP} {tot : Int} {N : List (List Nat)} {tot0 : Int} {rest : Led} {i : Nat} {line : Int} {tl : Tok} {pe : Nat} {sg : List Value} {ep : Nat} (h : LexTo w P tot N tot0 rest i (LexL w P line tl [] pe sg ep ++ rest)) (r3 : Led) : LexTo w P tot N tot0 r3 i (LexL w P line tl [] pe sg ep ++ r3) := by
  rcases h with ⟨a, line, tl, pe, sg, ep, pre, b1, b2, b3, b4, b5, b6⟩ | ⟨a, tl, pe, ep, b⟩
  · exact .on a ⟨line, tl, pe, sg, ep, pre, b1, lexL_inj b2 rfl r3, b3, b4, b5, b6⟩
  · exact .done a tl pe ep (lexL_inj b rfl r3)
theorem get_any (w : World) (P : LexP) (O : LexOk P) (rest news : Led) (tot : Int) (c : List Nat) (N : List (List Nat)) (tot0 : Int) (i : Nat) (hr : OwnOff rest [P.G, P.dX]) (h10 : ∀ w ∈ N, w.length ≤ 10) (hc : (N ++ [[]])[i]? = some c) (h : LexTo w P tot N tot0 rest i news) :
  Tel w 8 400 (.ref 98) [.ref P.X] news (fun v news' => ∃ t', v = .str (tx c) t' ∧ LexTo w P tot N tot0 rest (i + 1) news') := by
  have hi : i < N.length + 1 := by
    have := (List.getElem?_eq_some_iff.mp hc).1
    simpa using this
  rcases h with ⟨hiN, line, tl, pe, sg, ep, pre, h1, rfl, h3, h4, h5, h6⟩ | ⟨a, tl, pe, ep, b⟩
  · by_cases hlt : i < N.length
    · rw [List.getElem?_append_left hlt] at hc
      have hd : N.drop i = c :: N.drop (i + 1) := by
        rw [List.drop_eq_getElem_cons hlt]
        rw [List.getElem?_eq_getElem hlt] at hc
        simp at hc
        rw [hc]
      rw [hd] at h3 h4 h5 h6
      have H := get_next w P O rest line tl pe sg ep pre c (N.drop (i + 1)) (tot + (i : Int)) h1 hr h3 h5 h6 (h10 c (List.mem_of_getElem? hc))
      intro mean mg mb dp un gd cn cs ad ccd cl outer A₀ base h₀ L m s Q E B F X N T C1 C2 C3 hk' hd hu hret
      refine H mean mg mb dp un gd cn cs ad ccd cl outer A₀ base h₀ L m s Q E B F X N T C1 C2 C3 hk' hd hu ?_
      rintro v h' tk' news' F' N' ⟨t', line', tl', sg', ep', pre', g1, g2, g3, g4, g5, g6, g7⟩
      have e8 : tot + (i : Int) + 1 = tot + ((i + 1 : Nat) : Int) := by push_cast; omega
      rw [e8] at g4 g5 g6 g7
      exact hret v h' tk' news' F' N' ⟨t', g2, .on hlt ⟨line', tl', pe, sg', ep', pre', g1, g3, g4, g5.trans h4, g6, g7⟩⟩
    · obtain rfl : i = N.length := by omega
      rw [List.getElem?_append_right (Nat.le_refl _), Nat.sub_self] at hc
      obtain rfl : [] = c := by simpa using hc
      rw [List.drop_length] at h3 h4 h5 h6
      simp only [spells, List.flatten_nil, List.append_nil] at h3 h4 h5 h6
      have H := get_end w P O rest line tl pe sg ep pre h1 hr h3 h5 h6
      intro mean mg mb dp un gd cn cs ad ccd cl outer A₀ base h₀ L m s Q E B F X N T C1 C2 C3 hk' hd hu hret
      refine H mean mg mb dp un gd cn cs ad ccd cl outer A₀ base h₀ L m s Q E B F X N T C1 C2 C3 hk' hd hu ?_
      rintro v h' tk' news' F' N' ⟨t', line', tl', sg', ep', g1, g2, g3, g4⟩
      have e9 : line' = tot0 := by
        have e0 : cnt [] = 0 := rfl
        rw [e0] at g4
        omega
      have e10 : sg' = [] := by
        cases g3
        rfl
      subst e9 e10
      exact hret v h' tk' news' F' N' ⟨t', g1, .done rfl tl' pe ep' g2⟩
  · omega
theorem in3 {x y z : Addr × Obj} {A B : Led} : ∀ p ∈ A ++ (x :: y :: z :: B), p ∈ x :: y :: z :: (A ++ B) := by
  intro p hp
  simp only [List.mem_append, List.mem_cons] at hp ⊢
  rcases hp with h | h | h | h | h <;> simp only [h, true_or, or_true]
theorem in3' {x y z : Addr × Obj} {A B : Led} : ∀ p ∈ x :: y :: z :: (A ++ B), p ∈ A ++ (x :: y :: z :: B) := by
  intro p hp
  simp only [List.mem_append, List.mem_cons] at hp ⊢
  rcases hp with h | h | h | h | h <;> simp only [h, true_or, or_true]
theorem offG {w : World} {P : LexP} {line : Int} {tl : Tok} {pb : List Value} {pe : Nat} {sg : List Value} {ep : Nat} {I C D : Addr} {rest : Led} {oI oC oD : Obj} (O : LexOk P) (off : LCg.Off3 I C D (LexL w P line tl pb pe sg ep ++ rest)) (ht : topA rest ≤ P.cG) : OwnOff ((I, oI) :: (C, oC) :: (D, oD) :: rest) [P.G, P.dX] := by
  obtain ⟨_, _, x3, _, _, _, _, x8, _, _⟩ := off
  obtain ⟨q1, q2, q3, n1, n2, n3, n4, n5, n6, n7, n8, n9⟩ := O
  refine ownOff_cons (fun d hd => ?_) (ownOff_cons (fun d hd => ?_) (ownOff_cons (fun d hd => ?_) fun p hp d hd => ?_))
  · simp only [List.mem_cons, List.not_mem_nil, or_false] at hd
    rcases hd with rfl | rfl
    · exact Ne.symm x8.1
    · exact Ne.symm x3.1
  · simp only [List.mem_cons, List.not_mem_nil, or_false] at hd
    rcases hd with rfl | rfl
    · exact Ne.symm x8.2.1
    · exact Ne.symm x3.2.1
  · simp only [List.mem_cons, List.not_mem_nil, or_false] at hd
    rcases hd with rfl | rfl
    · exact Ne.symm x8.2.2
    · exact Ne.symm x3.2.2
  · simp only [List.mem_cons, List.not_mem_nil, or_false] at hd
    rcases hd with rfl | rfl
    · exact topA_ne (by omega) p hp
    · exact topA_ne (by omega) p hp
theorem cnt_same : ∀ cs : List Nat, PyProof.Rows.cnt 10 cs = Mine.cnt cs
  | [] => rfl
  | c :: r => by rw [PyProof.Rows.cnt_cons, Mine.cnt_cons, cnt_same r]
theorem count_nl (cs : List Nat) : Txt.count (tx cs) (Str.ofString "\n") = Mine.cnt cs := by
  rw [nl_is, show tx [10] = (⟨#[10]⟩ : Str) from rfl, PyProof.Rows.count_cnt, ← cnt_same]
theorem ex_get {l : List (List Nat)} {i : Nat} (h : i < l.length) : ∃ c, l[i]? = some c := ⟨l[i], List.getElem?_eq_getElem h⟩
inductive P5 (w : World) (P : LexP) (tot0 : Int) (m : Str → Option Value) (rest : Led) (m' : Str → Option Value) (news' : Led) : Prop
  | mk (zh1 : m' = m) (tl : Tok) (pe ep : Nat) (zh2 : news' = LexL w P tot0 tl [] pe [] ep ++ rest)
namespace Vstage5
noncomputable def At0 (w : World) (fa : Addr) (cd : Value) (L : Addr) (D : Addr) (Dw : Addr) (us : List Value) (ys : List Value) (k : Nat) (kw : Nat) (tot : Int) (tot0 : Int) (WS : List (List Nat)) (m : Str → Option Value) (tb : Led) (o1 : Obj) (o2 : Obj) (o3 : Obj) (o4 : Obj) (o5 : Obj) (o6 : Obj) (o7 : Obj) (P : LexP) (cs : List Nat) (tt : Tok) (zvv : StgV) : Prop := ∀ (O : LexOk P) (e5 : o5.data = .cell (some (.ref Dw))) (e6 : o6.data = .cell (some (.ref P.X))) (h3 : WS.length = 3) (h10 : ∀ w ∈ WS, w.length ≤ 10) (hok : ∀ w ∈ WS, ∀ x ∈ w, x < 0x110000) (hy : TextsAre ys WS) (htop : topA (R3 L D Dw us ys k kw o1 o2 o3 o4 o5 o6 o7 tb) ≤ P.cG) (hm : m (Str.ofString "text") = some (.str (tx cs) tt)) (hcs : cs.length ≤ 1000) (htot : tot0 = 1 + cnt cs) (news : Led) (hst : LexTo w P tot WS tot0 (R3 L D Dw us ys k kw o1 o2 o3 o4 o5 o6 o7 tb) 0 news), StgAt w fa cd L 7 1 (fun _ => True) m news (P5 w P tot0 m (R3 L D Dw us ys k kw o1 o2 o3 o4 o5 o6 o7 tb)) zvv
noncomputable def AtX (x : (World) × (Addr) × (Value) × (Addr) × (Addr) × (Addr) × (List Value) × (List Value) × (Nat) × (Nat) × (Int) × (Int) × (List (List Nat)) × (Str → Option Value) × (Led) × (Obj) × (Obj) × (Obj) × (Obj) × (Obj) × (Obj) × (Obj) × (LexP) × (List Nat) × (Tok) × StgV) : Prop := At0 (x.1) (x.2.1) (x.2.2.1) (x.2.2.2.1) (x.2.2.2.2.1) (x.2.2.2.2.2.1) (x.2.2.2.2.2.2.1) (x.2.2.2.2.2.2.2.1) (x.2.2.2.2.2.2.2.2.1) (x.2.2.2.2.2.2.2.2.2.1) (x.2.2.2.2.2.2.2.2.2.2.1) (x.2.2.2.2.2.2.2.2.2.2.2.1) (x.2.2.2.2.2.2.2.2.2.2.2.2.1) (x.2.2.2.2.2.2.2.2.2.2.2.2.2.1) (x.2.2.2.2.2.2.2.2.2.2.2.2.2.2.1) (x.2.2.2.2.2.2.2.2.2.2.2.2.2.2.2.1) (x.2.2.2.2.2.2.2.2.2.2.2.2.2.2.2.2.1) (x.2.2.2.2.2.2.2.2.2.2.2.2.2.2.2.2.2.1) (x.2.2.2.2.2.2.2.2.2.2.2.2.2.2.2.2.2.2.1) (x.2.2.2.2.2.2.2.2.2.2.2.2.2.2.2.2.2.2.2.1) (x.2.2.2.2.2.2.2.2.2.2.2.2.2.2.2.2.2.2.2.2.1) (x.2.2.2.2.2.2.2.2.2.2.2.2.2.2.2.2.2.2.2.2.2.1) (x.2.2.2.2.2.2.2.2.2.2.2.2.2.2.2.2.2.2.2.2.2.2.1) (x.2.2.2.2.2.2.2.2.2.2.2.2.2.2.2.2.2.2.2.2.2.2.2.1) (x.2.2.2.2.2.2.2.2.2.2.2.2.2.2.2.2.2.2.2.2.2.2.2.2.1) (x.2.2.2.2.2.2.2.2.2.2.2.2.2.2.2.2.2.2.2.2.2.2.2.2.2)
noncomputable def cc0 : (World) × (Addr) × (Value) × (Addr) × (Addr) × (Addr) × (List Value) × (List Value) × (Nat) × (Nat) × (Int) × (Int) × (List (List Nat)) × (Str → Option Value) × (Led) × (Obj) × (Obj) × (Obj) × (Obj) × (Obj) × (Obj) × (Obj) × (LexP) × (List Nat) × (Tok) × StgV := eps1 (ne_prod ne_world (ne_prod ne_addr (ne_prod ne_value (ne_prod ne_addr (ne_prod ne_addr (ne_prod ne_addr (ne_prod ne_list (ne_prod ne_list (ne_prod ne_nat (ne_prod ne_nat (ne_prod ne_int (ne_prod ne_int (ne_prod ne_list (ne_prod ne_par (ne_prod ne_led (ne_prod ne_obj (ne_prod ne_obj (ne_prod ne_obj (ne_prod ne_obj (ne_prod ne_obj (ne_prod ne_obj (ne_prod ne_obj (ne_prod ne_lexp (ne_prod ne_list (ne_prod ne_tok stgV_ne))))))))))))))))))))))))) AtX
noncomputable def w : World := cc0.1
noncomputable def fa : Addr := cc0.2.1
noncomputable def cd : Value := cc0.2.2.1
noncomputable def L : Addr := cc0.2.2.2.1
noncomputable def D : Addr := cc0.2.2.2.2.1
noncomputable def Dw : Addr := cc0.2.2.2.2.2.1
noncomputable def us : List Value := cc0.2.2.2.2.2.2.1
noncomputable def ys : List Value := cc0.2.2.2.2.2.2.2.1
noncomputable def k : Nat := cc0.2.2.2.2.2.2.2.2.1
noncomputable def kw : Nat := cc0.2.2.2.2.2.2.2.2.2.1
noncomputable def tot : Int := cc0.2.2.2.2.2.2.2.2.2.2.1
noncomputable def tot0 : Int := cc0.2.2.2.2.2.2.2.2.2.2.2.1
noncomputable def WS : List (List Nat) := cc0.2.2.2.2.2.2.2.2.2.2.2.2.1
noncomputable def m : Str → Option Value := cc0.2.2.2.2.2.2.2.2.2.2.2.2.2.1
noncomputable def tb : Led := cc0.2.2.2.2.2.2.2.2.2.2.2.2.2.2.1
noncomputable def o1 : Obj := cc0.2.2.2.2.2.2.2.2.2.2.2.2.2.2.2.1
noncomputable def o2 : Obj := cc0.2.2.2.2.2.2.2.2.2.2.2.2.2.2.2.2.1
noncomputable def o3 : Obj := cc0.2.2.2.2.2.2.2.2.2.2.2.2.2.2.2.2.2.1
noncomputable def o4 : Obj := cc0.2.2.2.2.2.2.2.2.2.2.2.2.2.2.2.2.2.2.1
noncomputable def o5 : Obj := cc0.2.2.2.2.2.2.2.2.2.2.2.2.2.2.2.2.2.2.2.1
noncomputable def o6 : Obj := cc0.2.2.2.2.2.2.2.2.2.2.2.2.2.2.2.2.2.2.2.2.1
noncomputable def o7 : Obj := cc0.2.2.2.2.2.2.2.2.2.2.2.2.2.2.2.2.2.2.2.2.2.1
noncomputable def P : LexP := cc0.2.2.2.2.2.2.2.2.2.2.2.2.2.2.2.2.2.2.2.2.2.2.1
noncomputable def cs : List Nat := cc0.2.2.2.2.2.2.2.2.2.2.2.2.2.2.2.2.2.2.2.2.2.2.2.1
noncomputable def tt : Tok := cc0.2.2.2.2.2.2.2.2.2.2.2.2.2.2.2.2.2.2.2.2.2.2.2.2.1
noncomputable def v0 : StgV := cc0.2.2.2.2.2.2.2.2.2.2.2.2.2.2.2.2.2.2.2.2.2.2.2.2.2
noncomputable abbrev base := v0.base
theorem aux (O : LexOk P) (e5 : o5.data = .cell (some (.ref Dw))) (e6 : o6.data = .cell (some (.ref P.X))) (h3 : WS.length = 3) (h10 : ∀ w ∈ WS, w.length ≤ 10) (hok : ∀ w ∈ WS, ∀ x ∈ w, x < 0x110000) (hy : TextsAre ys WS) (htop : topA (R3 L D Dw us ys k kw o1 o2 o3 o4 o5 o6 o7 tb) ≤ P.cG) (hm : m (Str.ofString "text") = some (.str (tx cs) tt)) (hcs : cs.length ≤ 1000) (htot : tot0 = 1 + cnt cs) (news : Led) (hst : LexTo w P tot WS tot0 (R3 L D Dw us ys k kw o1 o2 o3 o4 o5 o6 o7 tb) 0 news) :
  StgAt w fa cd L 7 1 (fun _ => True) m news (P5 w P tot0 m (R3 L D Dw us ys k kw o1 o2 o3 o4 o5 o6 o7 tb)) v0 := by
  intro B F X N T C1 C2 C3 hE _ hret
  have hM : Has m [(Str.ofString "text", .str (tx cs) tt)] := ⟨hm, trivial⟩
  have F0 := fr_all0 hM F
  clear F
  obtain ⟨line, tl, pe, sg, ep, rfl⟩ := hst.led
  simp only [LexL, List.cons_append, List.nil_append] at N
  (repeat' (first | (with_reducible refine if_ff ?_) | (with_reducible refine if_tt ?_) | (k_unfold; (try dsimp only)) | (k_end; wrow_close) | (cell_step; walk1) | (cell_step; dsimp only; walk1) | (leave1; walk_say "STEP leave1"; try dsimp only) | fail "no step"))
  refine' LCg.ListComp_U F0 ?a1 ?a2 ?a3 ?a4 ?a5 ?_
  case a1 => with_unfolding_all rfl
  case a2 => decide
  case a3 => rfl
  case a4 => decide
  case a5 => rfl
  (repeat' (first | (with_reducible refine if_ff ?_) | (with_reducible refine if_tt ?_) | (k_unfold; (try dsimp only)) | (k_end; wrow_close) | (cell_step; walk1) | (cell_step; dsimp only; walk1) | (leave1; walk_say "STEP leave1"; try dsimp only) | fail "no step"))
  rename Fr _ _ _ _ => F1
  rename News _ _ _ _ => N1
  refine LCg.CompSrc.range (by rfl) F1 N1 (by assumption) (by decide) (by rfl) (by exact Nat.le_of_ble_eq_true rfl) ?_
  intro g'
  refine comp_ind (fun i zs nx => LexTo w P tot WS tot0 (R3 L D Dw us ys k kw o1 o2 o3 o4 o5 o6 o7 tb) i nx ∧ TextsAre zs ((WS ++ [[]]).take i)) ⟨hst, .nil⟩ ?turn ?fin
  case turn =>
    rintro i v9 zs nx hi ⟨tv, rfl⟩ ⟨hst, hys⟩ I oI C oC D9 m₂ h tk E' hC hx F2 N2 off ne
    have hi4 : i < 4 := hi
    obtain ⟨c, hc⟩ := ex_get (l := WS ++ [[]]) (i := i) (by rw [List.length_append, h3]; exact hi4)
    obtain ⟨line', tl', pe', sg', ep', rfl⟩ := hst.led
    have hoffG : OwnOff ((I, oI) :: (C, oC) :: (D9, LCg.lst zs) :: R3 L D Dw us ys k kw o1 o2 o3 o4 o5 o6 o7 tb) [P.G, P.dX] := offG O off htop
    have N3 : News base L h (LexL w P line' tl' [] pe' sg' ep' ++ ((I, oI) :: (C, oC) :: (D9, LCg.lst zs) :: R3 L D Dw us ys k kw o1 o2 o3 o4 o5 o6 o7 tb)) := news_perm N2 in3
    clear N2 N1
    simp only [LexL, List.cons_append, List.nil_append] at N3
    (repeat' (first | (with_reducible refine if_ff ?_) | (with_reducible refine if_tt ?_) | (k_unfold; (try dsimp only)) | (k_end; wrow_close) | (cell_step; walk1) | (cell_step; dsimp only; walk1) | (leave1; walk_say "STEP leave1"; try dsimp only) | fail "no step"))
    (refine' tel_use ?tH ?tB ?tF ?tX ?tN ?tT ?tC1 ?tC2 ?tC3 ?tk ?td ?tu ?_; (case tB => k_asm); (case tF => k_asm); (case tX => k_asm); (case tN => k_asm); (case tT => k_asm); (case tC1 => assumption); (case tC2 => assumption); (case tC3 => assumption); (case tk => first | exact rfl | assumption); (case tH => exact (get_any w P O ((I, oI) :: (C, oC) :: (D9, LCg.lst zs) :: R3 L D Dw us ys k kw o1 o2 o3 o4 o5 o6 o7 tb) _ tot c WS tot0 i hoffG h10 hc (hst.other _))); (case td => ktr_room); (case tu => ktr_units))
    rintro v8 h8 tk8 news8 F8 N8 ⟨t8, rfl, hst8⟩
    (try dsimp only)
    obtain ⟨line8, tl8, pe8, sg8, ep8, rfl⟩ := hst8.led
    refine LCg.CompEnd.intro F8 N8 (LexL w P line8 tl8 [] pe8 sg8 ep8 ++ R3 L D Dw us ys k kw o1 o2 o3 o4 o5 o6 o7 tb) in3' off trivial ⟨hst8.other _, ?_⟩
    rw [List.take_add_one, hc]
    exact hys.append (.cons _ _ .nil)
  case fin =>
    rintro zs nx ⟨hst, hys⟩
    rw [show ((4 - 0 - 1) / 1 + 1 : Nat) = 4 from rfl] at hst hys
    rw [List.take_of_length_le (by simp; omega)] at hys
    unfold LCg.FinE
    intro D9 h9 tk9 F9 N9 off9
    obtain ⟨tl', pe', ep', rfl⟩ : ∃ tl pe ep, nx = LexL w P tot0 tl [] pe [] ep ++ R3 L D Dw us ys k kw o1 o2 o3 o4 o5 o6 o7 tb := by
      rcases hst with ⟨a, _⟩ | ⟨a, tl, pe, ep, b⟩
      · omega
      · exact ⟨_, _, _, b⟩
    simp only [LexL, List.cons_append, List.nil_append] at N9
    (repeat' (first | (with_reducible refine if_ff ?_) | (with_reducible refine if_tt ?_) | (k_unfold; (try dsimp only)) | (k_end; wrow_close) | (cell_step; walk1) | (cell_step; dsimp only; walk1) | (leave1; walk_say "STEP leave1"; try dsimp only) | fail "no step"))
    rename Fr _ _ _ _ => F11
    rename News _ _ _ _ => N11
    refine cat_lists F11 N11 (News.isList N11 (by k_mem)) (News.isList N11 (.head _)) ?_ (by rw [hy.length, h3]; exact Nat.le_of_ble_eq_true rfl)
    intro D8 h8 F12 N12 l8
    (try dsimp only)
    have hy2 : ∀ t9, TextsAre (ys ++ [Value.str (Str.ofString "") t9]) (WS ++ [[]]) := fun t9 => hy.append (by rw [empty_is]; exact .cons [] _ .nil)
    have hokW : TxOk (WS ++ [[]]) := fun x hx => by
      rcases List.mem_append.mp hx with hx | hx
      · exact str_ok (hok x hx)
      · rw [List.mem_singleton.mp hx]; exact str_ok fun x hx => nomatch hx
    have hcn : tot0 = 1 + Txt.count (tx cs) (Str.ofString "\n") := by rw [count_nl]; exact htot
    have hLd := News.isList N12 (.head _)
    have hL1 := News.isList N12 (.tail _ (.tail _ (.head _)))
    (repeat' (first | (with_reducible refine if_ff ?_) | (with_reducible refine if_tt ?_) | (k_unfold; (try dsimp only)) | (k_end; wrow_close) | (cell_step; walk1) | (cell_step; dsimp only; walk1) | (leave1; walk_say "STEP leave1"; try dsimp only) | fail "no step"))
    refine tx_ne hL1 hLd hys (hy2 _) hokW hokW (Nat.le_of_ble_eq_true rfl) ?_
    (try dsimp only)
    (repeat' (first | (with_reducible refine if_ff ?_) | (with_reducible refine if_tt ?_) | (k_unfold; (try dsimp only)) | (k_end; wrow_close) | (cell_step; walk1) | (cell_step; dsimp only; walk1) | (leave1; walk_say "STEP leave1"; try dsimp only) | fail "no step"))
    all_goals first | exact absurd hcn (by assumption) | skip
    all_goals first | exact absurd rfl (by assumption) | skip
    (try dsimp only)
    rename Fr _ _ _ _ => F13
    rename News _ _ _ _ => N13
    rw [bindAll_eq hM] at F13
    exact hret _ _ _ _ F13 (news_tail (news_tail (news_tail N13))) ⟨rfl, tl', pe', ep', rfl⟩
end Vstage5
theorem stage5 (w : World) (fa : Addr) (cd : Value) (L D Dw : Addr) (us ys : List Value) (k kw : Nat) (tot tot0 : Int) (WS : List (List Nat)) (m : Str → Option Value) (tb : Led) (o1 o2 o3 o4 o5 o6 o7 : Obj) (P : LexP) (cs : List Nat) (tt : Tok) (O : LexOk P) (e5 : o5.data = .cell (some (.ref Dw))) (e6 : o6.data = .cell (some (.ref P.X))) (h3 : WS.length = 3) (h10 : ∀ w ∈ WS, w.length ≤ 10) (hok : ∀ w ∈ WS, ∀ x ∈ w, x < 0x110000) (hy : TextsAre ys WS)
   (htop : topA (R3 L D Dw us ys k kw o1 o2 o3 o4 o5 o6 o7 tb) ≤ P.cG) (hm : m (Str.ofString "text") = some (.str (tx cs) tt)) (hcs : cs.length ≤ 1000) (htot : tot0 = 1 + cnt cs) (news : Led) (hst : LexTo w P tot WS tot0 (R3 L D Dw us ys k kw o1 o2 o3 o4 o5 o6 o7 tb) 0 news) :
  Stg w fa cd L 7 1 (fun _ => True) m news (P5 w P tot0 m (R3 L D Dw us ys k kw o1 o2 o3 o4 o5 o6 o7 tb)) := stg_of fun zvv => (show Vstage5.At0 w fa cd L D Dw us ys k kw tot tot0 WS m tb o1 o2 o3 o4 o5 o6 o7 P cs tt zvv from eps1_all (P := Vstage5.AtX) @Vstage5.aux (w, fa, cd, L, D, Dw, us, ys, k, kw, tot, tot0, WS, m, tb, o1, o2, o3, o4, o5, o6, o7, P, cs, tt, zvv)) O e5 e6 h3 h10 hok hy htop hm hcs htot news hst
end
section
section
variable {prog : Program} {w : World} {A : Around} {h₀ : Heap} {L : Addr} {m : Str → Option Value} {env : Env} {iter2 : Expr} {x : Str} {scope : Scope} {cl : List (Str × Addr)} {s : Shared} {S : List (Addr × Obj) → Prop} {P : Nat → Value → Prop} {Fin : List Value → List (Addr × Obj) → Prop}
theorem comp_ind2 {n : Nat} {news : Led} (Inv : Nat → List Value → Led → Prop) (h0 : Inv 0 [] news)
    (turn : ∀ i v ys news, i < n → P i v → Inv i ys news → ∀ I oI C oC D m₂ h tk (E' : Value → Shared → Prop), LCg.NsObj oC m₂ → m₂ x = some v → Fr h₀ L h m → News h₀ L h ((I, oI) :: (C, oC) :: (D, LCg.lst ys) :: news) → LCg.Off3 I C D news → ((@Ne Nat I C) ∧ (@Ne Nat I D) ∧ (@Ne Nat C D)) →
      wpAny (model prog w) A (eval iter2 (compEnvC scope cl C env)) (LCg.CompEnd h₀ L m { s with heap := h, toks := tk } I oI C oC D (LCg.lst ys) S (fun xv news' => ∃ us, Items xv us news' ∧ ys.length + us.length ≤ sizeLine ∧ Inv (i + 1) (ys ++ us) news')) E' { s with heap := h, toks := tk })
    (fin : ∀ ys news, Inv n ys news → Fin ys news) : CompRest2 prog w A h₀ L m env iter2 x scope cl s S P Fin n 0 [] news := by
  have key : ∀ (j i : Nat) (ys : List Value) (news : Led), i + j = n → Inv i ys news → CompRest2 prog w A h₀ L m env iter2 x scope cl s S P Fin j i ys news := by
    intro j
    induction j with
    | zero =>
      intro i ys news hi hy
      have e : i = n := by omega
      subst e
      exact fin ys news hy
    | succ j ih =>
      intro i ys news hi hy
      intro v I oI C oC D m₂ h tk E' hv hC hx F N off ne
      refine wpAny_mono (turn i v ys news (by omega) hv hy I oI C oC D m₂ h tk E' hC hx F N off ne) (fun y s₂ hq => ?_) fun _ _ e => e
      obtain ⟨h', tk', nw, e, F', N', off', hS, us, h1, h2, hi'⟩ := hq
      exact ⟨h', tk', nw, e, F', N', off', hS, us, h1, h2, ih (i + 1) _ nw (by omega) hi'⟩
  exact key n 0 [] news (by omega) h0
end
theorem perm3 {h₀ h : Heap} {L : Addr} {a b c : Addr × Obj} {K nx : Led} (N : News h₀ L h (a :: b :: c :: nx)) (hs : ∀ p ∈ K, p ∈ nx) : News h₀ L h (a :: b :: c :: K) := news_perm N fun p hp => by
  rcases List.mem_cons.mp hp with rfl | hp
  · exact .head _
  rcases List.mem_cons.mp hp with rfl | hp
  · exact .tail _ (.head _)
  rcases List.mem_cons.mp hp with rfl | hp
  · exact .tail _ (.tail _ (.head _))
  · exact .tail _ (.tail _ (.tail _ (hs p hp)))
theorem sub4 {a b c t : Addr × Obj} {K nx : Led} (h : ∀ p ∈ nx, p ∈ K) : ∀ p ∈ a :: b :: c :: t :: nx, p ∈ t :: a :: b :: c :: K := fun p hp => by
  rcases List.mem_cons.mp hp with rfl | hp
  · exact .tail _ (.head _)
  rcases List.mem_cons.mp hp with rfl | hp
  · exact .tail _ (.tail _ (.head _))
  rcases List.mem_cons.mp hp with rfl | hp
  · exact .tail _ (.tail _ (.tail _ (.head _)))
  rcases List.mem_cons.mp hp with rfl | hp
  · exact .head _
  · exact .tail _ (.tail _ (.tail _ (.tail _ (h p hp))))
theorem mem_cons_all {q : Addr × Obj} {K nx : Led} (h : q ∈ nx) (k : ∀ p ∈ K, p ∈ nx) : ∀ p ∈ q :: K, p ∈ nx := fun p hp => by
  rcases List.mem_cons.mp hp with rfl | hp
  · exact h
  · exact k p hp
noncomputable abbrev tapeOf (ns : List Int) : List Int := ns.flatMap octN
theorem tapeOf_snoc (ns : List Int) (n : Int) : tapeOf (ns ++ [n]) = tapeOf ns ++ octN n := by simp [tapeOf]
theorem tapeOf_len : ∀ (ns : List Int), (∀ n ∈ ns, 0 ≤ n ∧ n < 1000000000) → (tapeOf ns).length ≤ 5 * ns.length
  | [], _ => Nat.le_refl _
  | n :: r, h => by
    have h1 := octN_len (j := 4) (h n (.head _)).1 (by have := (h n (.head _)).2; show n < 2 ^ 30; omega)
    have h2 := tapeOf_len r fun x hx => h x (.tail _ hx)
    simp only [tapeOf, List.flatMap_cons, List.length_append, List.length_cons] at h2 ⊢
    omega
theorem ints_at2 {vs : List Value} {ns : List Int} (h : IntsAre vs ns) {i : Nat} {v : Value} (e : vs[i]? = some v) : ∃ n t, v = .int n t ∧ ns[i]? = some n := by
  obtain ⟨z, tz, h1, h2⟩ := IntsAre.at h i v e
  exact ⟨z, tz, h1, h2⟩
theorem off1_mem {D : Addr} : ∀ {l : Led}, LCg.Off1 D l → ∀ p ∈ l, p.1 ≠ D
  | [], _, p, hp => nomatch hp
  | q :: l, h, p, hp => by
    rcases List.mem_cons.mp hp with rfl | hp
    · exact h.1
    · exact off1_mem h.2 p hp
theorem off1_sub {D : Addr} {l K : Led} (hs : ∀ p ∈ K, p ∈ l) (h : LCg.Off1 D l) : ∀ p ∈ K, p.1 ≠ D := fun p hp => off1_mem h p (hs p hp)
theorem off_cons {q : Addr × Obj} {b : Led} {x : Addr} (h : q.1 ≠ x) (k : ∀ p ∈ b, p.1 ≠ x) : ∀ p ∈ q :: b, p.1 ≠ x := fun p hp => by
  rcases List.mem_cons.mp hp with rfl | hp
  · exact h
  · exact k p hp
noncomputable def TapeAt (io : Obj) (Dt : Addr) (n : Nat) : Prop := io.cls = .type "list_iterator" ∧ io.data = .fields #[.ref Dt, .int n 0]
inductive P6 (L D : Addr) (us : List Value) (k : Nat) (ns : List Int) (m : Str → Option Value) (K : Led) (o1 o2 o3 o4 o5 o6 : Obj) (m' : Str → Option Value) (news' : Led) : Prop
  | mk (zh1 : m' = m) (Dt I : Addr) (zs : List Value) (kz : Nat) (io p7 : Obj) (zh2 : IntsAre zs (tapeOf ns)) (zh3 : p7.data = .cell (some (.ref I))) (zh4 : TapeAt io Dt 0) (zh5 : topA ((Dt, W.listOf zs.toArray kz) :: (D, W.listOf us.toArray k) :: cells7 L o1 o2 o3 o4 o5 o6 p7 K) ≤ I) (zh6 : news' = (I, io) :: (Dt, W.listOf zs.toArray kz) :: (D, W.listOf us.toArray k) :: cells7 L o1 o2 o3 o4 o5 o6 p7 K)
namespace Vstage6
noncomputable def At0 (w : World) (fa : Addr) (cd : Value) (L : Addr) (D : Addr) (us : List Value) (k : Nat) (ns : List Int) (m : Str → Option Value) (K : Led) (o1 : Obj) (o2 : Obj) (o3 : Obj) (o4 : Obj) (o5 : Obj) (o6 : Obj) (o7 : Obj) (zvv : StgV) : Prop := ∀ (hus : IntsAre us ns) (hn9 : ns.length = 9) (hnb : ∀ n ∈ ns, 0 ≤ n ∧ n < 1000000000) (e4 : o4.data = .cell (some (.ref D))) (e7 : o7.data = .cell none) (hD : @Ne Nat D (L + 1 + 1 + 1 + 1 + 1 + 1 + 1)) (hK : ∀ p ∈ K, p.1 ≠ L + 1 + 1 + 1 + 1 + 1 + 1 + 1), StgAt w fa cd L 8 1 (fun _ => True) m ((D, W.listOf us.toArray k) :: cells7 L o1 o2 o3 o4 o5 o6 o7 K)
    (P6 L D us k ns m K o1 o2 o3 o4 o5 o6) zvv
noncomputable def AtX (x : (World) × (Addr) × (Value) × (Addr) × (Addr) × (List Value) × (Nat) × (List Int) × (Str → Option Value) × (Led) × (Obj) × (Obj) × (Obj) × (Obj) × (Obj) × (Obj) × (Obj) × StgV) : Prop := At0 (x.1) (x.2.1) (x.2.2.1) (x.2.2.2.1) (x.2.2.2.2.1) (x.2.2.2.2.2.1) (x.2.2.2.2.2.2.1) (x.2.2.2.2.2.2.2.1) (x.2.2.2.2.2.2.2.2.1) (x.2.2.2.2.2.2.2.2.2.1) (x.2.2.2.2.2.2.2.2.2.2.1) (x.2.2.2.2.2.2.2.2.2.2.2.1) (x.2.2.2.2.2.2.2.2.2.2.2.2.1) (x.2.2.2.2.2.2.2.2.2.2.2.2.2.1) (x.2.2.2.2.2.2.2.2.2.2.2.2.2.2.1) (x.2.2.2.2.2.2.2.2.2.2.2.2.2.2.2.1) (x.2.2.2.2.2.2.2.2.2.2.2.2.2.2.2.2.1) (x.2.2.2.2.2.2.2.2.2.2.2.2.2.2.2.2.2)
noncomputable def cc0 : (World) × (Addr) × (Value) × (Addr) × (Addr) × (List Value) × (Nat) × (List Int) × (Str → Option Value) × (Led) × (Obj) × (Obj) × (Obj) × (Obj) × (Obj) × (Obj) × (Obj) × StgV := eps1 (ne_prod ne_world (ne_prod ne_addr (ne_prod ne_value (ne_prod ne_addr (ne_prod ne_addr (ne_prod ne_list (ne_prod ne_nat (ne_prod ne_list (ne_prod ne_par (ne_prod ne_led (ne_prod ne_obj (ne_prod ne_obj (ne_prod ne_obj (ne_prod ne_obj (ne_prod ne_obj (ne_prod ne_obj (ne_prod ne_obj stgV_ne))))))))))))))))) AtX
noncomputable def w : World := cc0.1
noncomputable def fa : Addr := cc0.2.1
noncomputable def cd : Value := cc0.2.2.1
noncomputable def L : Addr := cc0.2.2.2.1
noncomputable def D : Addr := cc0.2.2.2.2.1
noncomputable def us : List Value := cc0.2.2.2.2.2.1
noncomputable def k : Nat := cc0.2.2.2.2.2.2.1
noncomputable def ns : List Int := cc0.2.2.2.2.2.2.2.1
noncomputable def m : Str → Option Value := cc0.2.2.2.2.2.2.2.2.1
noncomputable def K : Led := cc0.2.2.2.2.2.2.2.2.2.1
noncomputable def o1 : Obj := cc0.2.2.2.2.2.2.2.2.2.2.1
noncomputable def o2 : Obj := cc0.2.2.2.2.2.2.2.2.2.2.2.1
noncomputable def o3 : Obj := cc0.2.2.2.2.2.2.2.2.2.2.2.2.1
noncomputable def o4 : Obj := cc0.2.2.2.2.2.2.2.2.2.2.2.2.2.1
noncomputable def o5 : Obj := cc0.2.2.2.2.2.2.2.2.2.2.2.2.2.2.1
noncomputable def o6 : Obj := cc0.2.2.2.2.2.2.2.2.2.2.2.2.2.2.2.1
noncomputable def o7 : Obj := cc0.2.2.2.2.2.2.2.2.2.2.2.2.2.2.2.2.1
noncomputable def v0 : StgV := cc0.2.2.2.2.2.2.2.2.2.2.2.2.2.2.2.2.2
noncomputable abbrev base := v0.base
theorem aux (hus : IntsAre us ns) (hn9 : ns.length = 9) (hnb : ∀ n ∈ ns, 0 ≤ n ∧ n < 1000000000) (e4 : o4.data = .cell (some (.ref D))) (e7 : o7.data = .cell none) (hD : @Ne Nat D (L + 1 + 1 + 1 + 1 + 1 + 1 + 1)) (hK : ∀ p ∈ K, p.1 ≠ L + 1 + 1 + 1 + 1 + 1 + 1 + 1) :
  StgAt w fa cd L 8 1 (fun _ => True) m ((D, W.listOf us.toArray k) :: cells7 L o1 o2 o3 o4 o5 o6 o7 K)
    (P6 L D us k ns m K o1 o2 o3 o4 o5 o6) v0 := by
  intro B F X N T C1 C2 C3 hE _ hret
  have hyl := hus.length
  (repeat' (first | (with_reducible refine if_ff ?_) | (with_reducible refine if_tt ?_) | (k_unfold; (try dsimp only)) | (k_end; wrow_close) | (cell_step; walk1) | (cell_step; dsimp only; walk1) | (leave1; walk_say "STEP leave1"; try dsimp only) | fail "no step"))
  refine' ListComp_2 (h₀ := base) (L := L) (m := m) rfl ?b1 ?b2 ?b3 ?b4 ?b5 ?b6 ?b7 ?_
  case b1 => with_unfolding_all rfl
  case b2 => decide
  case b3 => rfl
  case b4 => decide
  case b5 => rfl
  case b6 => rfl
  case b7 => decide
  (repeat' (first | (with_reducible refine if_ff ?_) | (with_reducible refine if_tt ?_) | (k_unfold; (try dsimp only)) | (k_end; wrow_close) | (cell_step; walk1) | (cell_step; dsimp only; walk1) | (leave1; walk_say "STEP leave1"; try dsimp only) | fail "no step"))
  rename Fr _ _ _ _ => F2
  rename News _ _ _ _ => N2
  refine .inr ⟨D, us.toArray, _, rfl, F2, N2, .inr ⟨_, .head _, rfl, _, rfl⟩, fun g5 => ?_⟩
  refine comp_ind2 (fun i zs nx => (∀ p ∈ (D, W.listOf us.toArray k) :: cells7 L o1 o2 o3 o4 o5 o6 o7 K, p ∈ nx) ∧ IntsAre zs (tapeOf (ns.take i))) ⟨fun p hp => hp, .nil⟩ ?turn ?fin
  case turn =>
    rintro i v9 zs nx hi hv9 ⟨hsub, hzs⟩ I oI C oC D9 m₂ h tk E' hC hx F3 N3 off ne
    obtain ⟨n, tn, rfl, hni⟩ := ints_at2 hus (i := i) (v := v9) (by simpa using hv9)
    have hb := hnb n (List.mem_of_getElem? hni)
    (repeat' (first | (with_reducible refine if_ff ?_) | (with_reducible refine if_tt ?_) | (k_unfold; (try dsimp only)) | (k_end; wrow_close) | (cell_step; walk1) | (cell_step; dsimp only; walk1) | (leave1; walk_say "STEP leave1"; try dsimp only) | fail "no step"))
    (refine' tel_use ?tH ?tB ?tF ?tX ?tN ?tT ?tC1 ?tC2 ?tC3 ?tk ?td ?tu ?_; (case tB => k_asm); (case tF => k_asm); (case tX => k_asm); (case tN => k_asm); (case tT => k_asm); (case tC1 => assumption); (case tC2 => assumption); (case tC3 => assumption); (case tk => first | exact rfl | assumption); (case tH => exact (octets w _ n tn hb.1 (Int.lt_trans hb.2 (by decide +kernel)))); (case td => ktr_room); (case tu => ktr_units))
    rintro v7 h7 tk7 news7 F7 N7 ⟨Do, vo, co, rfl, hvo, rfl, hDo⟩
    (try dsimp only)
    have hDo2 := hDo
    simp only [topA_nil, topA_cons, topA_app, Nat.max_le, Nat.zero_le, true_and, and_true, List.cons_append, List.nil_append] at hDo2
    have hzl := hzs.length
    have hvl := hvo.length
    have htl := tapeOf_len (ns.take i) fun r hr => hnb r (List.mem_of_mem_take hr)
    have hol := octN_len (n := n) (j := 4) hb.1 (by show n < 2 ^ 30; omega)
    refine LCg.CompEnd.intro F7 N7 (_ :: nx) (sub4 fun p hp => hp) ⟨⟨Nat.ne_of_gt (by omega), Nat.ne_of_gt (by omega), Nat.ne_of_gt (by omega)⟩, off⟩ (.inr ⟨_, .tail _ (hsub _ (.head _)), rfl, _, rfl⟩) ⟨vo, ⟨Do, _, _, rfl, .head _, .inl rfl, rfl⟩, ?_, fun p hp => .tail _ (hsub p hp), ?_⟩
    · have h1 : (ns.take i).length ≤ 9 := by rw [List.length_take]; omega
      have h2 : (octs n.toNat n [n.fmod 64]).length = (octN n).length := rfl
      rw [sizeLine_eq]
      omega
    · rw [List.take_add_one, hni]
      show IntsAre _ (tapeOf (ns.take i ++ [n]))
      rw [tapeOf_snoc]
      exact hzs.append hvo
  case fin =>
    rintro zs nx ⟨hsub, hzs⟩
    rw [List.take_of_length_le (by simp; omega)] at hzs
    unfold LCg.FinE
    intro D9 h9 tk9 F10 N10 off9
    have hq := off1_sub hsub off9
    have N11 : News base L h9 ((D9, LCg.lst zs) :: (D, W.listOf us.toArray k) :: cells7 L o1 o2 o3 o4 o5 o6 o7 K) := news_perm N10 (mem_cons_all (.head _) fun p hp => .tail _ (hsub p hp))
    clear N10
    (repeat' (first | (with_reducible refine if_ff ?_) | (with_reducible refine if_tt ?_) | (k_unfold; (try dsimp only)) | (k_end; wrow_close) | (cell_step; walk1) | (cell_step; dsimp only; walk1) | (leave1; walk_say "STEP leave1"; try dsimp only) | fail "no step"))
    rename Fr _ _ _ _ => F10
    rename News _ _ _ _ => N11
    refine li_iter (l := D9) (its := zs.toArray) (n := zs.length) F10 N11 (.head _) ?_
    intro I h11 F12 N12 hI
    (try dsimp only)
    have hI2 := hI
    simp only [cells7, topA_cons, Nat.max_le] at hI2
    have g9 : @Ne Nat D9 (L + 1 + 1 + 1 + 1 + 1 + 1 + 1) := Ne.symm (hq _ (.tail _ (.head _)))
    have gI : @Ne Nat I (L + 1 + 1 + 1 + 1 + 1 + 1 + 1) := Nat.ne_of_gt (hI2.2.2.1)
    have nC : ∀ i < 7, @Ne Nat (L + i) (L + 1 + 1 + 1 + 1 + 1 + 1 + 1) := fun i hi => Nat.ne_of_lt (Nat.add_lt_add_left hi L)
    have hK7 : ∀ p ∈ (L + 1 + 1 + 1 + 1 + 1 + 1, o6) :: (L + 1 + 1 + 1 + 1 + 1, o5) :: (L + 1 + 1 + 1 + 1, o4) :: (L + 1 + 1 + 1, o3) :: (L + 1 + 1, o2) :: (L + 1, o1) :: K, p.1 ≠ L + 1 + 1 + 1 + 1 + 1 + 1 + 1 := off_cons (nC 6 (by decide)) (off_cons (nC 5 (by decide)) (off_cons (nC 4 (by decide)) (off_cons (nC 3 (by decide)) (off_cons (nC 2 (by decide)) (off_cons (nC 1 (by decide)) hK)))))
    k_dflt (refine' storeX_C ?F ?N ?c ?U ?d ?_ ?a ?b; (case a => rfl); (case b => rfl); (case F => k_asm); (case N => k_asm); (case c => rfl); (case U => exact .tail gI (.tail g9 (.tail hD (.head hK7)))); (case d => k_asm))
    intro h' o' F' N' d'
    (try dsimp only at N')
    (try dsimp only)
    rename Fr _ _ _ _ => F13
    rename News _ _ _ _ => N13
    exact hret _ _ _ _ F13 N13 ⟨rfl, D9, I, zs, _, _, _, hzs, d', ⟨rfl, rfl⟩, hI, rfl⟩
end Vstage6
theorem stage6 (w : World) (fa : Addr) (cd : Value) (L D : Addr) (us : List Value) (k : Nat) (ns : List Int) (m : Str → Option Value) (K : Led) (o1 o2 o3 o4 o5 o6 o7 : Obj) (hus : IntsAre us ns) (hn9 : ns.length = 9) (hnb : ∀ n ∈ ns, 0 ≤ n ∧ n < 1000000000) (e4 : o4.data = .cell (some (.ref D))) (e7 : o7.data = .cell none) (hD : @Ne Nat D (L + 1 + 1 + 1 + 1 + 1 + 1 + 1)) (hK : ∀ p ∈ K, p.1 ≠ L + 1 + 1 + 1 + 1 + 1 + 1 + 1) :
  Stg w fa cd L 8 1 (fun _ => True) m ((D, W.listOf us.toArray k) :: cells7 L o1 o2 o3 o4 o5 o6 o7 K)
    (P6 L D us k ns m K o1 o2 o3 o4 o5 o6) := stg_of fun zvv => (show Vstage6.At0 w fa cd L D us k ns m K o1 o2 o3 o4 o5 o6 o7 zvv from eps1_all (P := Vstage6.AtX) @Vstage6.aux (w, fa, cd, L, D, us, k, ns, m, K, o1, o2, o3, o4, o5, o6, o7, zvv)) hus hn9 hnb e4 e7 hD hK
end
section
theorem ex_getI {l : List Int} {i : Nat} (h : i < l.length) : ∃ c, l[i]? = some c := ⟨l[i], List.getElem?_eq_getElem h⟩
theorem news_swp {h₀ h : Heap} {L : Addr} {a b : Addr × Obj} {t : Led} (N : News h₀ L h (a :: b :: t)) : News h₀ L h (b :: a :: t) := fun p hp => N p (by
  rcases List.mem_cons.mp hp with rfl | hp
  · exact .tail _ (.head _)
  rcases List.mem_cons.mp hp with rfl | hp
  · exact .head _
  · exact .tail _ (.tail _ hp))
theorem tape_split {ns ds : List Int} {n e : Int} {i : Nat} (hn : ns[i]? = some n) (hd : octN n = ds.map (· + 64) ++ [e]) : tapeOf ns = tapeOf (ns.take i) ++ (ds.map (· + 64) ++ e :: tapeOf (ns.drop (i + 1))) := by
  have hi := (List.getElem?_eq_some_iff.mp hn).1
  have h1 : ns = ns.take i ++ n :: ns.drop (i + 1) := by
    have h2 := List.drop_eq_getElem_cons hi
    have h3 := (List.getElem?_eq_some_iff.mp hn).2
    rw [h3] at h2
    rw [← h2, List.take_append_drop]
  conv => lhs; rw [h1]
  simp only [tapeOf, List.flatMap_append, List.flatMap_cons]
  rw [hd]
  simp
noncomputable abbrev R4 (L Dt D : Addr) (zs us : List Value) (kz k : Nat) (o1 o2 o3 o4 o5 o6 o7 : Obj) (K : Led) : Led := (Dt, W.listOf zs.toArray kz) :: (D, W.listOf us.toArray k) :: cells7 L o1 o2 o3 o4 o5 o6 o7 K
inductive NumsInv (L I Dt D : Addr) (zs us : List Value) (kz k : Nat) (ns : List Int) (o1 o2 o3 o4 o5 o6 o7 : Obj) (K : Led) (i : Nat) (ys : List Value) (nx : Led) : Prop
  | mk (io : Obj) (zh1 : TapeAt io Dt (tapeOf (ns.take i)).length) (zh2 : nx = (I, io) :: R4 L Dt D zs us kz k o1 o2 o3 o4 o5 o6 o7 K) (zh3 : IntsAre ys (ns.take i))
inductive P7 (L I Dt D : Addr) (zs us : List Value) (kz k : Nat) (ns : List Int) (m : Str → Option Value) (K : Led) (o1 o2 o3 o4 o5 o6 o7 : Obj) (m' : Str → Option Value) (news' : Led) : Prop
  | mk (Dn : Addr) (ys : List Value) (kn : Nat) (io : Obj) (zh1 : m' = (fun y => if y = Str.ofString "numbers" then some (.ref Dn) else m y)) (zh2 : IntsAre ys ns) (zh3 : TapeAt io Dt zs.length) (zh4 : @Ne Nat Dn I) (zh5 : news' = (Dn, W.listOf ys.toArray kn) :: (I, io) :: R4 L Dt D zs us kz k o1 o2 o3 o4 o5 o6 o7 K) (zh6 : ∀ p ∈ R4 L Dt D zs us kz k o1 o2 o3 o4 o5 o6 o7 K, p.1 ≠ Dn)
namespace Vstage7
noncomputable def At0 (w : World) (fa : Addr) (cd : Value) (L : Addr) (I : Addr) (Dt : Addr) (D : Addr) (zs : List Value) (us : List Value) (kz : Nat) (k : Nat) (ns : List Int) (m : Str → Option Value) (K : Led) (o1 : Obj) (o2 : Obj) (o3 : Obj) (o4 : Obj) (o5 : Obj) (o6 : Obj) (o7 : Obj) (io : Obj) (zvv : StgV) : Prop := ∀ (hz : IntsAre zs (tapeOf ns)) (hn9 : ns.length = 9) (hnb : ∀ n ∈ ns, 0 ≤ n ∧ n < 1000000000) (e7 : o7.data = .cell (some (.ref I))) (hio : TapeAt io Dt 0) (hI : topA (R4 L Dt D zs us kz k o1 o2 o3 o4 o5 o6 o7 K) ≤ I), StgAt w fa cd L 9 1 (fun _ => True) m ((I, io) :: R4 L Dt D zs us kz k o1 o2 o3 o4 o5 o6 o7 K)
    (P7 L I Dt D zs us kz k ns m K o1 o2 o3 o4 o5 o6 o7) zvv
noncomputable def AtX (x : (World) × (Addr) × (Value) × (Addr) × (Addr) × (Addr) × (Addr) × (List Value) × (List Value) × (Nat) × (Nat) × (List Int) × (Str → Option Value) × (Led) × (Obj) × (Obj) × (Obj) × (Obj) × (Obj) × (Obj) × (Obj) × (Obj) × StgV) : Prop := At0 (x.1) (x.2.1) (x.2.2.1) (x.2.2.2.1) (x.2.2.2.2.1) (x.2.2.2.2.2.1) (x.2.2.2.2.2.2.1) (x.2.2.2.2.2.2.2.1) (x.2.2.2.2.2.2.2.2.1) (x.2.2.2.2.2.2.2.2.2.1) (x.2.2.2.2.2.2.2.2.2.2.1) (x.2.2.2.2.2.2.2.2.2.2.2.1) (x.2.2.2.2.2.2.2.2.2.2.2.2.1) (x.2.2.2.2.2.2.2.2.2.2.2.2.2.1) (x.2.2.2.2.2.2.2.2.2.2.2.2.2.2.1) (x.2.2.2.2.2.2.2.2.2.2.2.2.2.2.2.1) (x.2.2.2.2.2.2.2.2.2.2.2.2.2.2.2.2.1) (x.2.2.2.2.2.2.2.2.2.2.2.2.2.2.2.2.2.1) (x.2.2.2.2.2.2.2.2.2.2.2.2.2.2.2.2.2.2.1) (x.2.2.2.2.2.2.2.2.2.2.2.2.2.2.2.2.2.2.2.1) (x.2.2.2.2.2.2.2.2.2.2.2.2.2.2.2.2.2.2.2.2.1) (x.2.2.2.2.2.2.2.2.2.2.2.2.2.2.2.2.2.2.2.2.2.1) (x.2.2.2.2.2.2.2.2.2.2.2.2.2.2.2.2.2.2.2.2.2.2)
noncomputable def cc0 : (World) × (Addr) × (Value) × (Addr) × (Addr) × (Addr) × (Addr) × (List Value) × (List Value) × (Nat) × (Nat) × (List Int) × (Str → Option Value) × (Led) × (Obj) × (Obj) × (Obj) × (Obj) × (Obj) × (Obj) × (Obj) × (Obj) × StgV := eps1 (ne_prod ne_world (ne_prod ne_addr (ne_prod ne_value (ne_prod ne_addr (ne_prod ne_addr (ne_prod ne_addr (ne_prod ne_addr (ne_prod ne_list (ne_prod ne_list (ne_prod ne_nat (ne_prod ne_nat (ne_prod ne_list (ne_prod ne_par (ne_prod ne_led (ne_prod ne_obj (ne_prod ne_obj (ne_prod ne_obj (ne_prod ne_obj (ne_prod ne_obj (ne_prod ne_obj (ne_prod ne_obj (ne_prod ne_obj stgV_ne)))))))))))))))))))))) AtX
noncomputable def w : World := cc0.1
noncomputable def fa : Addr := cc0.2.1
noncomputable def cd : Value := cc0.2.2.1
noncomputable def L : Addr := cc0.2.2.2.1
noncomputable def I : Addr := cc0.2.2.2.2.1
noncomputable def Dt : Addr := cc0.2.2.2.2.2.1
noncomputable def D : Addr := cc0.2.2.2.2.2.2.1
noncomputable def zs : List Value := cc0.2.2.2.2.2.2.2.1
noncomputable def us : List Value := cc0.2.2.2.2.2.2.2.2.1
noncomputable def kz : Nat := cc0.2.2.2.2.2.2.2.2.2.1
noncomputable def k : Nat := cc0.2.2.2.2.2.2.2.2.2.2.1
noncomputable def ns : List Int := cc0.2.2.2.2.2.2.2.2.2.2.2.1
noncomputable def m : Str → Option Value := cc0.2.2.2.2.2.2.2.2.2.2.2.2.1
noncomputable def K : Led := cc0.2.2.2.2.2.2.2.2.2.2.2.2.2.1
noncomputable def o1 : Obj := cc0.2.2.2.2.2.2.2.2.2.2.2.2.2.2.1
noncomputable def o2 : Obj := cc0.2.2.2.2.2.2.2.2.2.2.2.2.2.2.2.1
noncomputable def o3 : Obj := cc0.2.2.2.2.2.2.2.2.2.2.2.2.2.2.2.2.1
noncomputable def o4 : Obj := cc0.2.2.2.2.2.2.2.2.2.2.2.2.2.2.2.2.2.1
noncomputable def o5 : Obj := cc0.2.2.2.2.2.2.2.2.2.2.2.2.2.2.2.2.2.2.1
noncomputable def o6 : Obj := cc0.2.2.2.2.2.2.2.2.2.2.2.2.2.2.2.2.2.2.2.1
noncomputable def o7 : Obj := cc0.2.2.2.2.2.2.2.2.2.2.2.2.2.2.2.2.2.2.2.2.1
noncomputable def io : Obj := cc0.2.2.2.2.2.2.2.2.2.2.2.2.2.2.2.2.2.2.2.2.2.1
noncomputable def v0 : StgV := cc0.2.2.2.2.2.2.2.2.2.2.2.2.2.2.2.2.2.2.2.2.2.2
theorem aux (hz : IntsAre zs (tapeOf ns)) (hn9 : ns.length = 9) (hnb : ∀ n ∈ ns, 0 ≤ n ∧ n < 1000000000) (e7 : o7.data = .cell (some (.ref I))) (hio : TapeAt io Dt 0) (hI : topA (R4 L Dt D zs us kz k o1 o2 o3 o4 o5 o6 o7 K) ≤ I) :
  StgAt w fa cd L 9 1 (fun _ => True) m ((I, io) :: R4 L Dt D zs us kz k o1 o2 o3 o4 o5 o6 o7 K)
    (P7 L I Dt D zs us kz k ns m K o1 o2 o3 o4 o5 o6 o7) v0 := by
  intro B F X N T C1 C2 C3 hE _ hret
  have hIne := topA_ne hI
  have hzK : True → IntsAre zs (tapeOf ns) := fun _ => hz
  (repeat' (first | (with_reducible refine if_ff ?_) | (with_reducible refine if_tt ?_) | (k_unfold; (try dsimp only)) | (k_end; wrow_close) | (cell_step; walk1) | (cell_step; dsimp only; walk1) | (leave1; walk_say "STEP leave1"; try dsimp only) | fail "no step"))
  rename Fr _ _ _ _ => F1
  rename News _ _ _ _ => N1
  refine LCg.CompSrc.range (by rfl) F1 N1 (by assumption) (by decide) (by rfl) (by exact Nat.le_of_ble_eq_true rfl) ?_
  intro g'
  refine comp_ind (NumsInv L I Dt D zs us kz k ns o1 o2 o3 o4 o5 o6 o7 K) ⟨io, hio, rfl, .nil⟩ ?turn ?fin
  case turn =>
    rintro i v9 ys nx hi ⟨tv, rfl⟩ ⟨io2, hio2, rfl, hys⟩ I9 oI C oC D9 m₂ h tk E' hC hx F2 N2 off ne
    have hi9 : i < 9 := hi
    obtain ⟨n, hn⟩ := ex_getI (l := ns) (i := i) (by rw [hn9]; exact hi9)
    have hb := hnb n (List.mem_of_getElem? hn)
    obtain ⟨ds, e, d1, d2, d3, d4, d5⟩ := octN_is (n := n) (j := 4) hb.1 (by show n < 2 ^ 30; omega)
    have hsp := tape_split hn d1
    (repeat' (first | (with_reducible refine if_ff ?_) | (with_reducible refine if_tt ?_) | (k_unfold; (try dsimp only)) | (k_end; wrow_close) | (cell_step; walk1) | (cell_step; dsimp only; walk1) | (leave1; walk_say "STEP leave1"; try dsimp only) | fail "no step"))
    (refine' tel_use ?tH ?tB ?tF ?tX ?tN ?tT ?tC1 ?tC2 ?tC3 ?tk ?td ?tu ?_; (case tB => k_asm); (case tF => k_asm); (case tX => k_asm); (case tN => k_asm); (case tT => k_asm); (case tC1 => assumption); (case tC2 => assumption); (case tC3 => assumption); (case tk => first | exact rfl | assumption); (case tH => exact (parse_varint w [(I9, oI), (C, oC), (D9, LCg.lst ys)] (R4 L Dt D zs us kz k o1 o2 o3 o4 o5 o6 o7 K) I Dt zs (tapeOf ns) (tapeOf (ns.take i)) ds (tapeOf (ns.drop (i + 1))) e kz io2 (off_cons (Ne.symm off.1.1) (off_cons (Ne.symm off.1.2.1) (off_cons (Ne.symm off.1.2.2) (fun p hp => nomatch hp)))) hIne hio2.1 hio2.2 (List.mem_append_right _ (.head _)) (hzK trivial) hsp d2 d3 (by omega))); (case td => ktr_room); (case tu => ktr_units))
    rintro v8 h8 tk8 news8 F8 N8 ⟨t8, io8, rfl, rfl, g1, g2⟩
    (try dsimp only)
    rw [d4]
    have htl : (tapeOf (ns.take i)).length + ds.length + 1 = (tapeOf (ns.take (i + 1))).length := by
      rw [List.take_add_one, hn]
      show _ = (tapeOf (ns.take i ++ [n])).length
      rw [tapeOf_snoc, d1]
      simp
      omega
    rw [htl] at g2
    refine LCg.CompEnd.intro F8 N8 ((I, io8) :: R4 L Dt D zs us kz k o1 o2 o3 o4 o5 o6 o7 K) (fun p hp => hp) ⟨off.1, off.2⟩ trivial ⟨io8, ⟨g1, g2⟩, rfl, ?_⟩
    rw [List.take_add_one, hn]
    exact hys.append (.cons _ _ .nil)
  case fin =>
    rintro ys nx ⟨io2, hio2, rfl, hys⟩
    rw [show ((9 - 0 - 1) / 1 + 1 : Nat) = 9 from rfl, List.take_of_length_le (by omega)] at hio2 hys
    unfold LCg.FinA
    intro D9 h9 tk9 F10 N10 off9
    (repeat' (first | (with_reducible refine if_ff ?_) | (with_reducible refine if_tt ?_) | (k_unfold; (try dsimp only)) | (k_end; wrow_close) | (cell_step; walk1) | (cell_step; dsimp only; walk1) | (leave1; walk_say "STEP leave1"; try dsimp only) | fail "no step"))
    rename Fr _ _ _ _ => F11
    rename News _ _ _ _ => N11
    have hzl := (hzK trivial).length
    rw [← hzl] at hio2
    exact hret _ _ _ _ F11 N11 ⟨D9, ys, _, io2, rfl, hys, hio2, Ne.symm off9.1, rfl, off1_mem off9.2⟩
end Vstage7
theorem stage7 (w : World) (fa : Addr) (cd : Value) (L I Dt D : Addr) (zs us : List Value) (kz k : Nat) (ns : List Int) (m : Str → Option Value) (K : Led) (o1 o2 o3 o4 o5 o6 o7 io : Obj) (hz : IntsAre zs (tapeOf ns)) (hn9 : ns.length = 9) (hnb : ∀ n ∈ ns, 0 ≤ n ∧ n < 1000000000) (e7 : o7.data = .cell (some (.ref I))) (hio : TapeAt io Dt 0) (hI : topA (R4 L Dt D zs us kz k o1 o2 o3 o4 o5 o6 o7 K) ≤ I) :
  Stg w fa cd L 9 1 (fun _ => True) m ((I, io) :: R4 L Dt D zs us kz k o1 o2 o3 o4 o5 o6 o7 K)
    (P7 L I Dt D zs us kz k ns m K o1 o2 o3 o4 o5 o6 o7) := stg_of fun zvv => (show Vstage7.At0 w fa cd L I Dt D zs us kz k ns m K o1 o2 o3 o4 o5 o6 o7 io zvv from eps1_all (P := Vstage7.AtX) @Vstage7.aux (w, fa, cd, L, I, Dt, D, zs, us, kz, k, ns, m, K, o1, o2, o3, o4, o5, o6, o7, io, zvv)) hz hn9 hnb e7 hio hI
inductive P8 (L Dn Dt D : Addr) (ys zs us : List Value) (kn kz k : Nat) (m : Str → Option Value) (K : Led) (o1 o2 o3 o4 o5 o6 o7 : Obj) (m' : Str → Option Value) (news' : Led) : Prop
  | mk (zh1 : m' = m) (zh2 : news' = (Dn, W.listOf ys.toArray kn) :: R4 L Dt D zs us kz k o1 o2 o3 o4 o5 o6 o7 K)
namespace Vstage8
noncomputable def At0 (w : World) (fa : Addr) (cd : Value) (L : Addr) (I : Addr) (Dn : Addr) (Dt : Addr) (D : Addr) (ys : List Value) (zs : List Value) (us : List Value) (kn : Nat) (kz : Nat) (k : Nat) (ns : List Int) (m : Str → Option Value) (K : Led) (o1 : Obj) (o2 : Obj) (o3 : Obj) (o4 : Obj) (o5 : Obj) (o6 : Obj) (o7 : Obj) (io : Obj) (zvv : StgV) : Prop := ∀ (hy : IntsAre ys ns) (hu : IntsAre us ns) (e4 : o4.data = .cell (some (.ref D))) (e7 : o7.data = .cell (some (.ref I))) (hio : TapeAt io Dt zs.length) (hDn : @Ne Nat Dn I) (hI : topA (R4 L Dt D zs us kz k o1 o2 o3 o4 o5 o6 o7 K) ≤ I) (hm : m (Str.ofString "numbers") = some (.ref Dn)), StgAt w fa cd L 10 1 (fun _ => True) m ((Dn, W.listOf ys.toArray kn) :: (I, io) :: R4 L Dt D zs us kz k o1 o2 o3 o4 o5 o6 o7 K)
    (P8 L Dn Dt D ys zs us kn kz k m K o1 o2 o3 o4 o5 o6 o7) zvv
noncomputable def AtX (x : (World) × (Addr) × (Value) × (Addr) × (Addr) × (Addr) × (Addr) × (Addr) × (List Value) × (List Value) × (List Value) × (Nat) × (Nat) × (Nat) × (List Int) × (Str → Option Value) × (Led) × (Obj) × (Obj) × (Obj) × (Obj) × (Obj) × (Obj) × (Obj) × (Obj) × StgV) : Prop := At0 (x.1) (x.2.1) (x.2.2.1) (x.2.2.2.1) (x.2.2.2.2.1) (x.2.2.2.2.2.1) (x.2.2.2.2.2.2.1) (x.2.2.2.2.2.2.2.1) (x.2.2.2.2.2.2.2.2.1) (x.2.2.2.2.2.2.2.2.2.1) (x.2.2.2.2.2.2.2.2.2.2.1) (x.2.2.2.2.2.2.2.2.2.2.2.1) (x.2.2.2.2.2.2.2.2.2.2.2.2.1) (x.2.2.2.2.2.2.2.2.2.2.2.2.2.1) (x.2.2.2.2.2.2.2.2.2.2.2.2.2.2.1) (x.2.2.2.2.2.2.2.2.2.2.2.2.2.2.2.1) (x.2.2.2.2.2.2.2.2.2.2.2.2.2.2.2.2.1) (x.2.2.2.2.2.2.2.2.2.2.2.2.2.2.2.2.2.1) (x.2.2.2.2.2.2.2.2.2.2.2.2.2.2.2.2.2.2.1) (x.2.2.2.2.2.2.2.2.2.2.2.2.2.2.2.2.2.2.2.1) (x.2.2.2.2.2.2.2.2.2.2.2.2.2.2.2.2.2.2.2.2.1) (x.2.2.2.2.2.2.2.2.2.2.2.2.2.2.2.2.2.2.2.2.2.1) (x.2.2.2.2.2.2.2.2.2.2.2.2.2.2.2.2.2.2.2.2.2.2.1) (x.2.2.2.2.2.2.2.2.2.2.2.2.2.2.2.2.2.2.2.2.2.2.2.1) (x.2.2.2.2.2.2.2.2.2.2.2.2.2.2.2.2.2.2.2.2.2.2.2.2.1) (x.2.2.2.2.2.2.2.2.2.2.2.2.2.2.2.2.2.2.2.2.2.2.2.2.2)
noncomputable def cc0 : (World) × (Addr) × (Value) × (Addr) × (Addr) × (Addr) × (Addr) × (Addr) × (List Value) × (List Value) × (List Value) × (Nat) × (Nat) × (Nat) × (List Int) × (Str → Option Value) × (Led) × (Obj) × (Obj) × (Obj) × (Obj) × (Obj) × (Obj) × (Obj) × (Obj) × StgV := eps1 (ne_prod ne_world (ne_prod ne_addr (ne_prod ne_value (ne_prod ne_addr (ne_prod ne_addr (ne_prod ne_addr (ne_prod ne_addr (ne_prod ne_addr (ne_prod ne_list (ne_prod ne_list (ne_prod ne_list (ne_prod ne_nat (ne_prod ne_nat (ne_prod ne_nat (ne_prod ne_list (ne_prod ne_par (ne_prod ne_led (ne_prod ne_obj (ne_prod ne_obj (ne_prod ne_obj (ne_prod ne_obj (ne_prod ne_obj (ne_prod ne_obj (ne_prod ne_obj (ne_prod ne_obj stgV_ne))))))))))))))))))))))))) AtX
noncomputable def w : World := cc0.1
noncomputable def fa : Addr := cc0.2.1
noncomputable def cd : Value := cc0.2.2.1
noncomputable def L : Addr := cc0.2.2.2.1
noncomputable def I : Addr := cc0.2.2.2.2.1
noncomputable def Dn : Addr := cc0.2.2.2.2.2.1
noncomputable def Dt : Addr := cc0.2.2.2.2.2.2.1
noncomputable def D : Addr := cc0.2.2.2.2.2.2.2.1
noncomputable def ys : List Value := cc0.2.2.2.2.2.2.2.2.1
noncomputable def zs : List Value := cc0.2.2.2.2.2.2.2.2.2.1
noncomputable def us : List Value := cc0.2.2.2.2.2.2.2.2.2.2.1
noncomputable def kn : Nat := cc0.2.2.2.2.2.2.2.2.2.2.2.1
noncomputable def kz : Nat := cc0.2.2.2.2.2.2.2.2.2.2.2.2.1
noncomputable def k : Nat := cc0.2.2.2.2.2.2.2.2.2.2.2.2.2.1
noncomputable def ns : List Int := cc0.2.2.2.2.2.2.2.2.2.2.2.2.2.2.1
noncomputable def m : Str → Option Value := cc0.2.2.2.2.2.2.2.2.2.2.2.2.2.2.2.1
noncomputable def K : Led := cc0.2.2.2.2.2.2.2.2.2.2.2.2.2.2.2.2.1
noncomputable def o1 : Obj := cc0.2.2.2.2.2.2.2.2.2.2.2.2.2.2.2.2.2.1
noncomputable def o2 : Obj := cc0.2.2.2.2.2.2.2.2.2.2.2.2.2.2.2.2.2.2.1
noncomputable def o3 : Obj := cc0.2.2.2.2.2.2.2.2.2.2.2.2.2.2.2.2.2.2.2.1
noncomputable def o4 : Obj := cc0.2.2.2.2.2.2.2.2.2.2.2.2.2.2.2.2.2.2.2.2.1
noncomputable def o5 : Obj := cc0.2.2.2.2.2.2.2.2.2.2.2.2.2.2.2.2.2.2.2.2.2.1
noncomputable def o6 : Obj := cc0.2.2.2.2.2.2.2.2.2.2.2.2.2.2.2.2.2.2.2.2.2.2.1
noncomputable def o7 : Obj := cc0.2.2.2.2.2.2.2.2.2.2.2.2.2.2.2.2.2.2.2.2.2.2.2.1
noncomputable def io : Obj := cc0.2.2.2.2.2.2.2.2.2.2.2.2.2.2.2.2.2.2.2.2.2.2.2.2.1
noncomputable def v0 : StgV := cc0.2.2.2.2.2.2.2.2.2.2.2.2.2.2.2.2.2.2.2.2.2.2.2.2.2
theorem aux (hy : IntsAre ys ns) (hu : IntsAre us ns) (e4 : o4.data = .cell (some (.ref D))) (e7 : o7.data = .cell (some (.ref I))) (hio : TapeAt io Dt zs.length) (hDn : @Ne Nat Dn I) (hI : topA (R4 L Dt D zs us kz k o1 o2 o3 o4 o5 o6 o7 K) ≤ I) (hm : m (Str.ofString "numbers") = some (.ref Dn)) :
  StgAt w fa cd L 10 1 (fun _ => True) m ((Dn, W.listOf ys.toArray kn) :: (I, io) :: R4 L Dt D zs us kz k o1 o2 o3 o4 o5 o6 o7 K)
    (P8 L Dn Dt D ys zs us kn kz k m K o1 o2 o3 o4 o5 o6 o7) v0 := by
  intro B F X N T C1 C2 C3 hE _ hret
  have hM : Has m [(Str.ofString "numbers", .ref Dn)] := ⟨hm, trivial⟩
  have F0 := fr_all0 hM F
  clear F
  (repeat' (first | (with_reducible refine if_ff ?_) | (with_reducible refine if_tt ?_) | (k_unfold; (try dsimp only)) | (k_end; wrow_close) | (cell_step; walk1) | (cell_step; dsimp only; walk1) | (leave1; walk_say "STEP leave1"; try dsimp only) | fail "no step"))
  rename Fr _ _ _ _ => F1
  rename News _ _ _ _ => N1
  refine ke_ne_ints (News.isList N1 (.head _)) (News.isList N1 (.tail _ (.tail _ (.tail _ (.head _))))) hy hu (by units_room) ?_
  rw [show decide (ns = ns) = true by simp]
  (try dsimp only)
  (repeat' (first | (with_reducible refine if_ff ?_) | (with_reducible refine if_tt ?_) | (k_unfold; (try dsimp only)) | (k_end; wrow_close) | (cell_step; walk1) | (cell_step; dsimp only; walk1) | (leave1; walk_say "STEP leave1"; try dsimp only) | fail "no step"))
  rename Fr _ _ _ _ => F2
  rename News _ _ _ _ => N2
  have N3 : News _ _ _ ((I, io) :: (Dn, W.listOf ys.toArray kn) :: R4 L Dt D zs us kz k o1 o2 o3 o4 o5 o6 o7 K) := news_swp N2
  refine list_done (vs := zs) (n := kz) (by rfl) F2 N3 hio.1 hio.2 (.tail _ (.head _)) (off_cons hDn (topA_ne hI)) ?_
  intro D2 c2 h2 tk2 F3 N4 hD2
  (try dsimp only)
  (repeat' (first | (with_reducible refine if_ff ?_) | (with_reducible refine if_tt ?_) | (k_unfold; (try dsimp only)) | (k_end; wrow_close) | (cell_step; walk1) | (cell_step; dsimp only; walk1) | (leave1; walk_say "STEP leave1"; try dsimp only) | fail "no step"))
  rename Fr _ _ _ _ => F5
  rename News _ _ _ _ => N5
  refine ke_ne_ints (News.isList N5 (.tail _ (.head _))) (News.isList N5 (.head _)) .nil .nil (by units_room) ?_
  rw [show decide (([] : List Int) = []) = true by decide]
  (try dsimp only)
  (repeat' (first | (with_reducible refine if_ff ?_) | (with_reducible refine if_tt ?_) | (k_unfold; (try dsimp only)) | (k_end; wrow_close) | (cell_step; walk1) | (cell_step; dsimp only; walk1) | (leave1; walk_say "STEP leave1"; try dsimp only) | fail "no step"))
  (try dsimp only)
  rename Fr _ _ _ _ => F7
  rename News _ _ _ _ => N7
  rw [bindAll_eq hM] at F7
  exact hret _ _ _ _ F7 (news_tail (news_tail N7)) ⟨rfl, rfl⟩
end Vstage8
theorem stage8 (w : World) (fa : Addr) (cd : Value) (L I Dn Dt D : Addr) (ys zs us : List Value) (kn kz k : Nat) (ns : List Int) (m : Str → Option Value) (K : Led) (o1 o2 o3 o4 o5 o6 o7 io : Obj) (hy : IntsAre ys ns) (hu : IntsAre us ns) (e4 : o4.data = .cell (some (.ref D))) (e7 : o7.data = .cell (some (.ref I))) (hio : TapeAt io Dt zs.length) (hDn : @Ne Nat Dn I) (hI : topA (R4 L Dt D zs us kz k o1 o2 o3 o4 o5 o6 o7 K) ≤ I) (hm : m (Str.ofString "numbers") = some (.ref Dn)) :
  Stg w fa cd L 10 1 (fun _ => True) m ((Dn, W.listOf ys.toArray kn) :: (I, io) :: R4 L Dt D zs us kz k o1 o2 o3 o4 o5 o6 o7 K)
    (P8 L Dn Dt D ys zs us kn kz k m K o1 o2 o3 o4 o5 o6 o7) := stg_of fun zvv => (show Vstage8.At0 w fa cd L I Dn Dt D ys zs us kn kz k ns m K o1 o2 o3 o4 o5 o6 o7 io zvv from eps1_all (P := Vstage8.AtX) @Vstage8.aux (w, fa, cd, L, I, Dn, Dt, D, ys, zs, us, kn, kz, k, ns, m, K, o1, o2, o3, o4, o5, o6, o7, io, zvv)) hy hu e4 e7 hio hDn hI hm
end
end
section
local macro_rules | `(tactic| cell_step) => `(tactic| (walk_at "s1"; walk_at "t5"))
section
theorem dots3 : Str.ofString "..." = tx [46, 46, 46] := by decide +kernel
theorem texts_of : ∀ {l : List (Str × Tok)} {ws : List (List Nat)}, l.map (·.1) = ws.map tx → TextsAre (strValues l) ws
  | [], [], _ => .nil
  | [], _ :: _, h => by simp at h
  | _ :: _, [], h => by simp at h
  | (x, t) :: r, w :: ws, h => by
    simp only [List.map_cons, List.cons.injEq] at h
    obtain ⟨h1, h2⟩ := h
    subst h1
    exact .cons w t (texts_of h2)
section
variable {prog : Program} {w : World} {A : Around} {E : Value → Shared → Prop} {s : Shared} {h₀ : Heap} {L : Addr} {m : Str → Option Value} {news : Led}
theorem split_tx {parts : List (List Nat)} {t u : Tok} {Q : Value → Shared → Prop} (F : Fr h₀ L s.heap m) (N : News h₀ L s.heap news) (h2 : 2 ≤ parts.length) (hf : ∀ p ∈ parts, 46 ∉ p) (hl : (dots parts).length ≤ 1000)
    (h : ∀ D vs h' k, TextsAre vs parts → Fr h₀ L h' m → News h₀ L h' ((D, W.listOf vs.toArray 0) :: news) → topA news ≤ D → Q (.ref D) { s with heap := h', toks := k }) :
    wpAny (model prog w) A (call (.builtin "str.split") [.str (tx (dots parts)) t, .str (Str.ofString "...") u]) Q E s := by
  refine KSpl.split1 F N (by decide +kernel) (fun D l h' k e _ F' N' hD => ?_) (by rw [tx_len, sizeLine_eq]; omega)
  rw [dots3, split_dots h2 hf] at e
  exact h D _ h' k (texts_of e) F' N' (topA_of hD)
theorem item_last {value slice : Expr} {l : Addr} {vs : List Value} {u : Tok} {x : Value} {Q : Value → Shared → Prop} (hl : s.heap.IsList l (vs ++ [x]).toArray) (h : Q x s)
    (hs : subscripted slice false (.ref l) (.int (-1) u) = operate [.ref l, .int (-1) u] (getItem (.ref l) (.int (-1) u)) := by with_unfolding_all rfl) (hg : ∀ r, letTemporaryGo value (.ref l) r = pure () := by intro _; with_unfolding_all rfl) :
    wpAny (model prog w) A (subscriptTail value slice (.ref l) (.int (-1) u)) Q E s :=
  subscriptTail_builtin hl.typeIs slot_list_getitem.lookup (wpAny_getItem_list_neg hl (by decide) (by simp; omega) (by decide) (by simp [show ((-1 : Int) + ((vs.length : Int) + 1)).toNat = vs.length by omega]) h) hs hg
end
theorem texts_split : ∀ {a b : List (List Nat)} {vs : List Value}, TextsAre vs (a ++ b) → ∃ va vb, vs = va ++ vb ∧ TextsAre va a ∧ TextsAre vb b
  | [], b, vs, h => ⟨[], vs, rfl, .nil, h⟩
  | w :: a, b, _, .cons _ t h => by
    obtain ⟨va, vb, rfl, h1, h2⟩ := texts_split h
    exact ⟨_ :: va, vb, rfl, .cons w t h1, h2⟩
noncomputable def ellFind (g : List Nat) (s e : Int) : List (List Nat) → Bool
  | [] => true
  | p :: r => if find4 (tx g) (tx p) s e < 0 then false else ellFind g (find4 (tx g) (tx p) s e + (p.length : Int)) e r
noncomputable def ellW (p : List Nat) : List (List Nat) := if p = [] then [[]] else []
noncomputable def ellQ (p0 pl : List Nat) (mid : List (List Nat)) (g : List Nat) : Bool :=
  Txt.startswith (tx g) (tx p0) && (Txt.endswith (tx g) (tx pl) && (decide ((p0.length : Int) ≤ (g.length : Int) - (pl.length : Int)) && ellFind g (p0.length : Int) ((g.length : Int) - (pl.length : Int)) (ellW p0 ++ (mid ++ ellW pl))))
theorem dots_mem_len : ∀ {parts : List (List Nat)}, ∀ p ∈ parts, p.length ≤ (dots parts).length
  | [q], p, h => by
    rw [List.mem_singleton.mp h]
    exact Nat.le_refl _
  | q :: r :: l, p, h => by
    have e : (dots (q :: r :: l)).length = q.length + 3 + (dots (r :: l)).length := by simp only [dots, List.length_append, List.length_cons]; omega
    rw [e]
    rcases List.mem_cons.mp h with rfl | h
    · omega
    · have := dots_mem_len p h
      omega
theorem starts_nil (g : List Nat) : Txt.startswith (tx g) (tx []) = true := by
  unfold Txt.startswith
  rw [Bool.and_eq_true, StrLaws.subAt_eq]
  simp [Str.length]
theorem seq_first {n : Nat} (h : 0 < n) : seqIndex? 0 n = some 0 := by
  unfold seqIndex?
  simp
  omega
theorem seq_last {n : Nat} : seqIndex? (-1) (n + 1) = some n := by
  unfold seqIndex?
  simp
  omega
theorem ends_nil (g : List Nat) : Txt.endswith (tx g) (tx []) = true := by
  unfold Txt.endswith
  rw [Bool.and_eq_true, StrLaws.subAt_eq]
  simp [Str.length]
theorem fr_name {h₀ h : Heap} {L : Addr} {m : Str → Option Value} (F : Fr h₀ L h m) {P : Prop} (k : ∀ g l, g = h₀ → l = L → P) : P := k _ _ rfl rfl
inductive MidGo (b : Bool) (t' : Tok) (g p : List Nat) (D : Addr) (g1 : Heap) (L1 : Addr) (zend : Int) (ds : List (List Nat)) (lv : List Value → List Value) (rest : Led) (f : Flow) (h' : Heap) : Prop
  | mk (e : f = .next) (e2 : b = true) (m' : Str → Option Value) (va : List Value) (k' : Nat) (ts te : Tok) (hM : Has m' [(Str.ofString "ws", .ref D), (Str.ofString "got", .str (tx g) t'), (Str.ofString "startpos", .int (p.length : Int) ts), (Str.ofString "endpos", .int zend te)]) (hva : TextsAre va ds) (hF : Fr g1 L1 h' m') (hN : News g1 L1 h' ((D, W.listOf (lv va).toArray k') :: rest))
inductive MidNo (b : Bool) (g1 : Heap) (L1 : Addr) (rest : Led) (f : Flow) (h' : Heap) : Prop
  | mk (e : f = .ret (.bool false)) (e2 : b = false) (m' : Str → Option Value) (hF : Fr g1 L1 h' m') (hN : News g1 L1 h' rest)
inductive EllInv (rest : Led) (p0 : List Nat) (pl : List Nat) (mid : List (List Nat)) (g : List Nat) (t' : Tok) (te : Tok) (D : Addr) (va : List Value) (k' : Nat) (dv : List Value) (m' : Str → Option Value) (nx : Led) : Prop
  | mk (ds : List (List Nat)) (x : Int) (tx' : Tok) (zh1 : TextsAre dv ds) (zh2 : (∀ p ∈ ds, p.length ≤ 1000)) (zh3 : ellFind g x ((g.length : Int) - (pl.length : Int)) ds = ellQ p0 pl mid g) (zh4 : Has m' [(Str.ofString "got", .str (tx g) t'), (Str.ofString "startpos", .int x tx'), (Str.ofString "endpos", .int ((g.length : Int) - (pl.length : Int)) te)]) (zh5 : nx = (D, W.listOf va.toArray k') :: rest)
theorem wp_hide {prog : Program} {w : World} {A : Around} {e : Sem Flow} {Q : Flow → Shared → Prop} {E : Value → Shared → Prop} {s : Shared} (h : ∀ R : Flow → Shared → Prop, (∀ f s', Q f s' → R f s') → wpAny (model prog w) A e R E s) : wpAny (model prog w) A e Q E s := h Q fun _ _ z => z
namespace Vell_match
noncomputable def At0 (w : World) (rest : Led) (p0 : List Nat) (pl : List Nat) (g : List Nat) (t : Tok) (t' : Tok) (z : TelV) : Prop := ∀ (mid : List (List Nat)) (hf : ∀ p ∈ p0 :: (mid ++ [pl]), 46 ∉ p) (hl : (dots (p0 :: (mid ++ [pl]))).length ≤ 1000) (hpl : (mid ++ [pl]).length ≤ 100) (hg : g.length ≤ 1000), TelAt w 2 100 (.ref 21) [.str (tx (dots (p0 :: (mid ++ [pl])))) t, .str (tx g) t'] rest (fun v news' => v = .bool (ellQ p0 pl mid g) ∧ news' = rest) z
noncomputable def w : World := eps1 ne_world (fun w => ∀ rest p0 pl g t t' z, At0 w rest p0 pl g t t' z)
noncomputable def rest : Led := eps1 ne_led (fun rest => ∀ p0 pl g t t' z, At0 w rest p0 pl g t t' z)
noncomputable def p0 : List Nat := eps1 ne_list (fun p0 => ∀ pl g t t' z, At0 w rest p0 pl g t t' z)
noncomputable def pl : List Nat := eps1 ne_list (fun pl => ∀ g t t' z, At0 w rest p0 pl g t t' z)
noncomputable def g : List Nat := eps1 ne_list (fun g => ∀ t t' z, At0 w rest p0 pl g t t' z)
noncomputable def t : Tok := eps1 ne_tok (fun t => ∀ t' z, At0 w rest p0 pl g t t' z)
noncomputable def t' : Tok := eps1 ne_tok (fun t' => ∀ z, At0 w rest p0 pl g t t' z)
noncomputable def v0 : TelV := eps1 telV_ne (fun z => At0 w rest p0 pl g t t' z)
noncomputable abbrev h₀ := v0.h₀
noncomputable abbrev L := v0.L
noncomputable abbrev s := v0.s
noncomputable abbrev Q := v0.Q
theorem aux (mid : List (List Nat)) (hf : ∀ p ∈ p0 :: (mid ++ [pl]), 46 ∉ p) (hl : (dots (p0 :: (mid ++ [pl]))).length ≤ 1000) (hpl : (mid ++ [pl]).length ≤ 100) (hg : g.length ≤ 1000) :
  TelAt w 2 100 (.ref 21) [.str (tx (dots (p0 :: (mid ++ [pl])))) t, .str (tx g) t'] rest (fun v news' => v = .bool (ellQ p0 pl mid g) ∧ news' = rest) v0 := by
  intro B F X N T C1 C2 C3 hk hd hu hret
  have hlen : ∀ p ∈ p0 :: (mid ++ [pl]), p.length ≤ 1000 := fun p hp => Nat.le_trans (dots_mem_len p hp) hl
  have hp0l := hlen p0 (.head _)
  have hpll := hlen pl (.tail _ (List.mem_append_right _ (.head _)))
  refine wpAny_call ?_
  k_dflt (first | (refine' code_defC ?k1 ?k2 ?k3 ?k4 ?k5 ?kA ?kF ?kK ?k6 ?k7 ?k8 ?k9 ?kB ?kD ?_ ?c2 ?c3 ?c4; (case kA => exact rfl); (case kF => exact rfl); (case kK => first | exact rfl | assumption); (case k1 => k_asm); (case k2 => k_asm); (case k3 => k_asm); (case k4 => k_asm); (case k5 => k_asm); (case k6 => k_is); (case k7 => k_is); (case k8 => k_room); (case k9 => first | exact BindsTo.of_eq rfl | exact binds_K (by k_in) rfl (by k_is) rfl rfl rfl | fail "k_enter: no rule for these arguments"); (case kB => exact rfl); (case kD => decide +kernel); (case c2 => exact rfl); (case c3 => exact rfl); (case c4 => exact rfl); k_whole; intro z9g z9L z9h z9tk z9cells z9FG z9F z9N z9Y z9B z9X z9T z9l1; (try k_lt z9l1); k_cells z9Y; (try simp only [List.cons_append, List.nil_append] at z9N); (try dsimp only); (try k_lift z9B); (try k_fold)) | cell_enter)
  (repeat' (first | (with_reducible refine if_ff ?_) | (with_reducible refine if_tt ?_) | (k_unfold; (try dsimp only)) | (k_end; wrow_close) | (cell_step; walk1) | (cell_step; dsimp only; walk1) | (leave1; walk_say "STEP leave1"; try dsimp only) | fail "no step"))
  walk1
  (repeat' (first | (with_reducible refine if_ff ?_) | (with_reducible refine if_tt ?_) | (k_unfold; (try dsimp only)) | (k_end; wrow_close) | (cell_step; walk1) | (cell_step; dsimp only; walk1) | (leave1; walk_say "STEP leave1"; try dsimp only) | fail "no step"))
  · rename (_ = true) => hh
    have hh2 : (Builtin.Str.occurrences (tx (dots (p0 :: (mid ++ [pl])))) (tx [46, 46, 46]) 0 (tx (dots (p0 :: (mid ++ [pl])))).length 1).isEmpty = false := by
      cases mid with
      | nil => exact dots_in p0 pl []
      | cons q r => exact dots_in p0 q (r ++ [pl])
    rw [dots3, hh2] at hh
    cases hh
  · rename Fr _ _ _ _ => F1
    rename News _ _ _ _ => N1
    refine split_tx F1 N1 (by simp) hf hl ?_
    intro D vs h4 k4 hvs F4 N4 hD
    (try dsimp only)
    (repeat' (first | (with_reducible refine if_ff ?_) | (with_reducible refine if_tt ?_) | (k_unfold; (try dsimp only)) | (k_end; wrow_close) | (cell_step; walk1) | (cell_step; dsimp only; walk1) | (leave1; walk_say "STEP leave1"; try dsimp only) | fail "no step"))
    rename Fr _ _ _ _ => F5
    rename News _ _ _ _ => N5
    have hvl := hvs.length
    rw [List.length_cons] at hvl
    have hvl2 : 2 ≤ vs.length := by rw [hvl, List.length_append, List.length_singleton]; omega
    refine PyProof.Rows.len_list (News.isList N5 (.head _)) (by rw [List.size_toArray]; omega) ?_
    (try dsimp only)
    (repeat' (first | (with_reducible refine if_ff ?_) | (with_reducible refine if_tt ?_) | (k_unfold; (try dsimp only)) | (k_end; wrow_close) | (cell_step; walk1) | (cell_step; dsimp only; walk1) | (leave1; walk_say "STEP leave1"; try dsimp only) | fail "no step"))
    refine PySem.P.len_str (by rw [tx_len]; omega) ?_
    (try dsimp only)
    rw [tx_len]
    (repeat' (first | (with_reducible refine if_ff ?_) | (with_reducible refine if_tt ?_) | (k_unfold; (try dsimp only)) | (k_end; wrow_close) | (cell_step; walk1) | (cell_step; dsimp only; walk1) | (leave1; walk_say "STEP leave1"; try dsimp only) | fail "no step"))
    rename Fr _ _ _ _ => F6
    rename News _ _ _ _ => N6
    obtain ⟨v0, vm, vl, rfl, hv0, hvm, tl, rfl⟩ : ∃ v0 vm vl, vs = v0 :: (vm ++ [vl]) ∧ (∃ t0, v0 = .str (tx p0) t0) ∧ TextsAre vm mid ∧ ∃ tl, vl = .str (tx pl) tl := by
      cases hvs with
      | cons _ t0 hvs =>
      obtain ⟨va, vb, rfl, h1, h2⟩ := texts_split hvs
      cases h2 with
      | cons _ tl h2 =>
      cases h2
      exact ⟨_, va, _, rfl, ⟨t0, rfl⟩, h1, tl, rfl⟩
    obtain ⟨t0, rfl⟩ := hv0
    refine PyProof.Rows.item_listL (News.isList N6 (.tail _ (.head _))) (by decide) (by decide) (x := .str (tx p0) t0) rfl ?_
    (repeat' (first | (with_reducible refine if_ff ?_) | (with_reducible refine if_tt ?_) | (k_unfold; (try dsimp only)) | (k_end; wrow_close) | (cell_step; walk1) | (cell_step; dsimp only; walk1) | (leave1; walk_say "STEP leave1"; try dsimp only) | fail "no step"))
    rename Fr _ _ _ _ => F7
    rename News _ _ _ _ => N7
    refine fr_name F7 fun g1 L1 eg eL => ?_
    subst eg eL
    have N8 := news_tail N7
    clear N7
    have hD0 : ∀ p ∈ rest, p.1 ≠ D := topA_ne hD
    have F8 := fr_all0 (ps := [(Str.ofString "ws", .ref D), (Str.ofString "w", .str (tx p0) t0), (Str.ofString "got", .str (tx g) t'), (Str.ofString "startpos", .int 0 _), (Str.ofString "endpos", .int (g.length : Int) _)]) ⟨rfl, rfl, rfl, rfl, rfl, trivial⟩ F7
    clear F7
    refine wpAny_mono (Q := fun f s' => ∃ h' tk', s' = { s with heap := h', toks := tk' } ∧ (MidGo (Txt.startswith (tx g) (tx p0)) t' g p0 D g1 L1 (g.length : Int) (ellW p0 ++ mid) (fun va => va ++ [Value.str (tx pl) tl]) rest f h' ∨ MidNo (Txt.startswith (tx g) (tx p0)) g1 L1 rest f h')) ?first ?second (fun _ _ e => e)
    case first =>
      refine wp_hide (fun R9 hR9 => ?_)
      walk1
      (repeat' (first | (with_reducible refine if_ff ?_) | (with_reducible refine if_tt ?_) | (k_unfold; (try dsimp only)) | (k_end; wrow_close) | (cell_step; walk1) | (cell_step; dsimp only; walk1) | (leave1; walk_say "STEP leave1"; try dsimp only) | fail "no step"))
      by_cases hp0 : p0 = []
      · refine KXt.truthy (b := false) (by rw [hp0]; rfl) (by rw [tx_len, hp0]; decide) (fun k7 => ?_)
        (repeat' (first | (with_reducible refine if_ff ?_) | (with_reducible refine if_tt ?_) | (k_unfold; (try dsimp only)) | (k_end; wrow_close) | (cell_step; walk1) | (cell_step; dsimp only; walk1) | (leave1; walk_say "STEP leave1"; try dsimp only) | fail "no step"))
        have hta : TextsAre (.str (tx p0) t0 :: vm) (ellW p0 ++ mid) := by
          unfold ellW
          rw [if_pos hp0, hp0]
          exact .cons _ _ hvm
        refine hR9 _ _ ?_
        exact ⟨_, _, rfl, .inl ⟨rfl, by rw [hp0]; exact starts_nil g, _, .str (tx p0) t0 :: vm, 0, _, _, ⟨rfl, rfl, by rw [hp0]; rfl, rfl, trivial⟩, hta, F8, N8⟩⟩
      · refine KXt.truthy (b := true) (by rw [tx_len]; simp [hp0]) (by rw [tx_len]; omega) (fun k7 => ?_)
        (repeat' (first | (with_reducible refine if_ff ?_) | (with_reducible refine if_tt ?_) | (k_unfold; (try dsimp only)) | (k_end; wrow_close) | (cell_step; walk1) | (cell_step; dsimp only; walk1) | (leave1; walk_say "STEP leave1"; try dsimp only) | fail "no step"))
        walk1
        (repeat' (first | (with_reducible refine if_ff ?_) | (with_reducible refine if_tt ?_) | (k_unfold; (try dsimp only)) | (k_end; wrow_close) | (cell_step; walk1) | (cell_step; dsimp only; walk1) | (leave1; walk_say "STEP leave1"; try dsimp only) | fail "no step"))
        · refine PySem.P.len_str (by rw [tx_len]; omega) ?_
          (try dsimp only)
          rw [tx_len]
          (repeat' (first | (with_reducible refine if_ff ?_) | (with_reducible refine if_tt ?_) | (k_unfold; (try dsimp only)) | (k_end; wrow_close) | (cell_step; walk1) | (cell_step; dsimp only; walk1) | (leave1; walk_say "STEP leave1"; try dsimp only) | fail "no step"))
          rename Fr _ _ _ _ => F9
          rename News _ _ _ _ => N9
          refine delItem_head F9 N9 hD0 (by decide) (seq_first (by simp)) ?_ (by rw [List.size_toArray, sizeLine_eq, hvl]; omega)
          intro h10 F10 N10
          (try dsimp only)
          (repeat' (first | (with_reducible refine if_ff ?_) | (with_reducible refine if_tt ?_) | (k_unfold; (try dsimp only)) | (k_end; wrow_close) | (cell_step; walk1) | (cell_step; dsimp only; walk1) | (leave1; walk_say "STEP leave1"; try dsimp only) | fail "no step"))
          rename Fr _ _ _ _ => F11
          rename News _ _ _ _ => N11
          have hta : TextsAre vm (ellW p0 ++ mid) := by
            unfold ellW
            rw [if_neg hp0]
            exact hvm
          refine hR9 _ _ ?_
          exact ⟨_, _, rfl, .inl ⟨rfl, by assumption, _, vm, _, _, _, ⟨rfl, rfl, rfl, rfl, trivial⟩, hta, F11, N11⟩⟩
        · rename Fr _ _ _ _ => F9
          rename News _ _ _ _ => N9
          refine hR9 _ _ ?_
          exact ⟨_, _, rfl, .inr ⟨rfl, by assumption, _, F9, news_tail N9⟩⟩
    case second =>
      rintro f s' ⟨h', tk', rfl, ⟨rfl, hst, m', va, k', ts, te, hM, hva, F10, N10⟩ | ⟨rfl, hst, m', F10, N10⟩⟩
      · (try dsimp only)
        have F11 := fr_all0 hM F10
        clear F10
        have hval := hva.length
        rw [List.length_append] at hval
        have hw0 : (ellW p0).length ≤ 1 := by unfold ellW; split <;> simp
        rw [List.length_append, List.length_singleton] at hpl
        (repeat' (first | (with_reducible refine if_ff ?_) | (with_reducible refine if_tt ?_) | (k_unfold; (try dsimp only)) | (k_end; wrow_close) | (cell_step; walk1) | (cell_step; dsimp only; walk1) | (leave1; walk_say "STEP leave1"; try dsimp only) | fail "no step"))
        refine item_last (News.isList N10 (.head _)) ?_
        (repeat' (first | (with_reducible refine if_ff ?_) | (with_reducible refine if_tt ?_) | (k_unfold; (try dsimp only)) | (k_end; wrow_close) | (cell_step; walk1) | (cell_step; dsimp only; walk1) | (leave1; walk_say "STEP leave1"; try dsimp only) | fail "no step"))
        rename Fr _ _ _ _ => F12
        refine wpAny_mono (Q := fun f s' => ∃ h' tk', s' = { s with heap := h', toks := tk' } ∧ (MidGo (Txt.endswith (tx g) (tx pl)) t' g p0 D g1 L1 ((g.length : Int) - (pl.length : Int)) (ellW p0 ++ (mid ++ ellW pl)) (fun va => va) rest f h' ∨ MidNo (Txt.endswith (tx g) (tx pl)) g1 L1 rest f h')) ?third ?fourth (fun _ _ e => e)
        case third =>
          refine wp_hide (fun R9 hR9 => ?_)
          walk1
          (repeat' (first | (with_reducible refine if_ff ?_) | (with_reducible refine if_tt ?_) | (k_unfold; (try dsimp only)) | (k_end; wrow_close) | (cell_step; walk1) | (cell_step; dsimp only; walk1) | (leave1; walk_say "STEP leave1"; try dsimp only) | fail "no step"))
          by_cases hp1 : pl = []
          · refine KXt.truthy (b := false) (by rw [hp1]; rfl) (by rw [tx_len, hp1]; decide) (fun k7 => ?_)
            (repeat' (first | (with_reducible refine if_ff ?_) | (with_reducible refine if_tt ?_) | (k_unfold; (try dsimp only)) | (k_end; wrow_close) | (cell_step; walk1) | (cell_step; dsimp only; walk1) | (leave1; walk_say "STEP leave1"; try dsimp only) | fail "no step"))
            have hta : TextsAre (va ++ [Value.str (tx pl) tl]) (ellW p0 ++ (mid ++ ellW pl)) := by
              rw [← List.append_assoc]
              refine hva.append ?_
              unfold ellW
              rw [if_pos hp1, hp1]
              exact .cons _ _ .nil
            have hz : (g.length : Int) - (pl.length : Int) = (g.length : Int) := by rw [hp1]; exact Int.sub_zero _
            rename Fr _ _ _ _ => F13
            rename News _ _ _ _ => N13
            refine hR9 _ _ ?_
            rw [hz]
            exact ⟨_, _, rfl, .inl ⟨rfl, by rw [hp1]; exact ends_nil g, _, _, _, ts, te, ⟨rfl, rfl, rfl, rfl, trivial⟩, hta, F13, N13⟩⟩
          · refine KXt.truthy (b := true) (by rw [tx_len]; simp [hp1]) (by rw [tx_len]; omega) (fun k7 => ?_)
            (repeat' (first | (with_reducible refine if_ff ?_) | (with_reducible refine if_tt ?_) | (k_unfold; (try dsimp only)) | (k_end; wrow_close) | (cell_step; walk1) | (cell_step; dsimp only; walk1) | (leave1; walk_say "STEP leave1"; try dsimp only) | fail "no step"))
            walk1
            (repeat' (first | (with_reducible refine if_ff ?_) | (with_reducible refine if_tt ?_) | (k_unfold; (try dsimp only)) | (k_end; wrow_close) | (cell_step; walk1) | (cell_step; dsimp only; walk1) | (leave1; walk_say "STEP leave1"; try dsimp only) | fail "no step"))
            · refine PySem.P.len_str (by rw [tx_len]; omega) ?_
              (try dsimp only)
              rw [tx_len]
              (repeat' (first | (with_reducible refine if_ff ?_) | (with_reducible refine if_tt ?_) | (k_unfold; (try dsimp only)) | (k_end; wrow_close) | (cell_step; walk1) | (cell_step; dsimp only; walk1) | (leave1; walk_say "STEP leave1"; try dsimp only) | fail "no step"))
              rename Fr _ _ _ _ => F13
              rename News _ _ _ _ => N13
              refine delItem_head F13 N13 hD0 (by decide) (k := va.length) (by rw [List.size_toArray, List.length_append, List.length_singleton]; exact seq_last) ?_ (by rw [List.size_toArray, sizeLine_eq, List.length_append, List.length_singleton]; omega)
              intro h14 F14 N14
              (try dsimp only)
              (repeat' (first | (with_reducible refine if_ff ?_) | (with_reducible refine if_tt ?_) | (k_unfold; (try dsimp only)) | (k_end; wrow_close) | (cell_step; walk1) | (cell_step; dsimp only; walk1) | (leave1; walk_say "STEP leave1"; try dsimp only) | fail "no step"))
              rename Fr _ _ _ _ => F15
              rename News _ _ _ _ => N15
              have hta : TextsAre va (ellW p0 ++ (mid ++ ellW pl)) := by
                unfold ellW at hva ⊢
                rw [if_neg hp1, List.append_nil]
                exact hva
              have hcut : ((va ++ [Value.str (tx pl) tl]).toArray.toList.eraseIdx va.length) = va := by
                rw [List.toList_toArray, List.eraseIdx_append_of_length_le (Nat.le_refl _), Nat.sub_self]
                simp
              rw [hcut] at N15
              refine hR9 _ _ ?_
              exact ⟨_, _, rfl, .inl ⟨rfl, by assumption, _, va, _, _, _, ⟨rfl, rfl, rfl, rfl, trivial⟩, hta, F15, N15⟩⟩
            · rename Fr _ _ _ _ => F13
              rename News _ _ _ _ => N13
              refine hR9 _ _ ?_
              exact ⟨_, _, rfl, .inr ⟨rfl, by assumption, _, F13, news_tail N13⟩⟩
        case fourth =>
          rintro f s' ⟨h', tk', rfl, ⟨rfl, hen, m', va, k', ts, te, hM, hva, F20, N20⟩ | ⟨rfl, hen, m', F20, N20⟩⟩
          · (try dsimp only)
            have F21 := fr_all0 hM F20
            clear F20
            (repeat' (first | (with_reducible refine if_ff ?_) | (with_reducible refine if_tt ?_) | (k_unfold; (try dsimp only)) | (k_end; wrow_close) | (cell_step; walk1) | (cell_step; dsimp only; walk1) | (leave1; walk_say "STEP leave1"; try dsimp only) | fail "no step"))
            walk1
            (repeat' (first | (with_reducible refine if_ff ?_) | (with_reducible refine if_tt ?_) | (k_unfold; (try dsimp only)) | (k_end; wrow_close) | (cell_step; walk1) | (cell_step; dsimp only; walk1) | (leave1; walk_say "STEP leave1"; try dsimp only) | fail "no step"))
            · rename Fr h₀ L _ _ => kF
              rename News h₀ L _ _ => kN
              rename ((g.length : Int) - (pl.length : Int) < _) => hh
              exact hret _ _ _ _ kF (news_tail kN) ⟨by unfold ellQ; rw [decide_eq_false (by omega), Bool.false_and, Bool.and_false, Bool.and_false], rfl⟩
            rename (¬ (_ < _)) => hh
            have hQ : ellQ p0 pl mid g = ellFind g (p0.length : Int) ((g.length : Int) - (pl.length : Int)) (ellW p0 ++ (mid ++ ellW pl)) := by unfold ellQ; rw [hst, hen, decide_eq_true (by omega), Bool.true_and, Bool.true_and, Bool.true_and]
            (rename Fr _ _ _ _ => lF')
            (with_unfolding_all refine' For_invVF lF' ?k1 ?k2 ?_; (case k1 => exact rfl); (case k2 => exact rfl))
            (repeat' (first | (with_reducible refine if_ff ?_) | (with_reducible refine if_tt ?_) | (k_unfold; (try dsimp only)) | (k_end; wrow_close) | (cell_step; walk1) | (cell_step; dsimp only; walk1) | (leave1; walk_say "STEP leave1"; try dsimp only) | fail "no step"))
            rename Fr _ _ _ _ => F22
            rename News _ _ _ _ => N22
            refine' iter_listUnr (ax := D) (lo := W.listOf va.toArray k') (vs := va) rfl F22 N22 (.head _) rfl rfl ?rest
            case rest =>
            intro I hI
            have hws : ∀ p ∈ ellW p0 ++ (mid ++ ellW pl), p.length ≤ 1000 := by
              intro p hp
              rcases List.mem_append.mp hp with hp | hp
              · unfold ellW at hp
                split at hp
                · rw [List.mem_singleton.mp hp]; simp
                · cases hp
              · rcases List.mem_append.mp hp with hp | hp
                · exact hlen p (.tail _ (List.mem_append_left _ hp))
                · unfold ellW at hp
                  split at hp
                  · rw [List.mem_singleton.mp hp]; simp
                  · cases hp
            refine listRest_indR (EllInv rest p0 pl mid g t' te D va k') ?zero ?succ _ _ _ ?init
            case init =>
              exact ⟨_, _, ts, hva, hws, hQ.symm, ⟨rfl, rfl, rfl, trivial⟩, rfl⟩
            case zero =>
              rintro m6 nx ⟨ds, x, tx', hds, hdl, hx, hM6, rfl⟩ h6 tk6 F6 N6
              cases hds
              (try dsimp only)
              (repeat' (first | (with_reducible refine if_ff ?_) | (with_reducible refine if_tt ?_) | (k_unfold; (try dsimp only)) | (k_end; wrow_close) | (cell_step; walk1) | (cell_step; dsimp only; walk1) | (leave1; walk_say "STEP leave1"; try dsimp only) | fail "no step"))
              rename Fr h₀ L _ _ => kF
              rename News h₀ L _ _ => kN
              exact hret _ _ _ _ kF (news_tail kN) ⟨by rw [← hx]; rfl, rfl⟩
            case succ =>
              rintro v rv m6 nx ⟨ds, x, tx', hds, hdl, hx, hM6, rfl⟩ it h6 tk6 hit F6 N6 R9 hR9
              cases hds with
              | cons p tp hds' =>
              rename_i ds'
              have F7 := fr_all hM6 F6
              clear F6
              have hpp := hdl p (.head _)
              (repeat' (first | (with_reducible refine if_ff ?_) | (with_reducible refine if_tt ?_) | (k_unfold; (try dsimp only)) | (k_end; wrow_close) | (cell_step; walk1) | (cell_step; dsimp only; walk1) | (leave1; walk_say "STEP leave1"; try dsimp only) | fail "no step"))
              refine call_find4 ?_
              (try dsimp only)
              (repeat' (first | (with_reducible refine if_ff ?_) | (with_reducible refine if_tt ?_) | (k_unfold; (try dsimp only)) | (k_end; wrow_close) | (cell_step; walk1) | (cell_step; dsimp only; walk1) | (leave1; walk_say "STEP leave1"; try dsimp only) | fail "no step"))
              walk1
              (repeat' (first | (with_reducible refine if_ff ?_) | (with_reducible refine if_tt ?_) | (k_unfold; (try dsimp only)) | (k_end; wrow_close) | (cell_step; walk1) | (cell_step; dsimp only; walk1) | (leave1; walk_say "STEP leave1"; try dsimp only) | fail "no step"))
              · refine hR9 _ _ ?_
                (try dsimp only [UnrPost])
                (repeat' (first | (with_reducible refine if_ff ?_) | (with_reducible refine if_tt ?_) | (k_unfold; (try dsimp only)) | (k_end; wrow_close) | (cell_step; walk1) | (cell_step; dsimp only; walk1) | (leave1; walk_say "STEP leave1"; try dsimp only) | fail "no step"))
                rename Fr h₀ L _ _ => kF
                rename News h₀ L _ _ => kN
                rename (find4 _ _ _ _ < 0) => hneg
                exact hret _ _ _ _ kF (news_tail (news_tail kN)) ⟨by rw [← hx]; unfold ellFind; rw [if_pos hneg], rfl⟩
              · refine PySem.P.len_str (by rw [tx_len]; omega) ?_
                (try dsimp only)
                rw [tx_len]
                (repeat' (first | (with_reducible refine if_ff ?_) | (with_reducible refine if_tt ?_) | (k_unfold; (try dsimp only)) | (k_end; wrow_close) | (cell_step; walk1) | (cell_step; dsimp only; walk1) | (leave1; walk_say "STEP leave1"; try dsimp only) | fail "no step"))
                rename Fr _ _ _ _ => F8
                rename News _ _ _ _ => N8
                rename (¬ (find4 _ _ _ _ < 0)) => hpos
                refine hR9 _ _ ?_
                show UnrEnd _ _ _ _ _ _ _
                refine UnrEnd.intro F8 N8 _ (fun p hp => hp) (topA_ne (by exact topA_of hI)) ⟨.head _, ds', _, _, hds', fun q hq => hdl q (.tail _ hq), ?_, ⟨rfl, rfl, rfl, trivial⟩, rfl⟩
                rw [← hx]
                conv => rhs; unfold ellFind
                rw [if_neg hpos]
          · (try dsimp only)
            (repeat' (first | (with_reducible refine if_ff ?_) | (with_reducible refine if_tt ?_) | (k_unfold; (try dsimp only)) | (k_end; wrow_close) | (cell_step; walk1) | (cell_step; dsimp only; walk1) | (leave1; walk_say "STEP leave1"; try dsimp only) | fail "no step"))
            rename Fr h₀ L _ _ => kF
            rename News h₀ L _ _ => kN
            exact hret _ _ _ _ kF kN ⟨by unfold ellQ; rw [hen, Bool.false_and, Bool.and_false], rfl⟩
      · (try dsimp only)
        (repeat' (first | (with_reducible refine if_ff ?_) | (with_reducible refine if_tt ?_) | (k_unfold; (try dsimp only)) | (k_end; wrow_close) | (cell_step; walk1) | (cell_step; dsimp only; walk1) | (leave1; walk_say "STEP leave1"; try dsimp only) | fail "no step"))
        rename Fr h₀ L _ _ => kF
        rename News h₀ L _ _ => kN
        exact hret _ _ _ _ kF kN ⟨by unfold ellQ; rw [hst]; rfl, rfl⟩
end Vell_match
theorem ell_match (w : World) (rest : Led) (p0 pl : List Nat) (mid : List (List Nat)) (g : List Nat) (t t' : Tok) (hf : ∀ p ∈ p0 :: (mid ++ [pl]), 46 ∉ p) (hl : (dots (p0 :: (mid ++ [pl]))).length ≤ 1000) (hpl : (mid ++ [pl]).length ≤ 100) (hg : g.length ≤ 1000) :
  Tel w 2 100 (.ref 21) [.str (tx (dots (p0 :: (mid ++ [pl])))) t, .str (tx g) t'] rest (fun v news' => v = .bool (ellQ p0 pl mid g) ∧ news' = rest) := tel_of fun z => (show ∀ w rest p0 pl g t t' z, Vell_match.At0 w rest p0 pl g t t' z from (eps1_all (eps1_all (eps1_all (eps1_all (eps1_all (eps1_all (eps1_all (eps1_all @Vell_match.aux))))))))) w rest p0 pl g t t' z mid hf hl hpl hg
end
section
theorem starts_is (g p : List Nat) : Txt.startswith (tx g) (tx p) = decide (p <+: g) := by
  unfold Txt.startswith
  rw [StrLaws.subAt_eq, Bool.eq_iff_iff, Bool.and_eq_true, decide_eq_true_eq, decide_eq_true_eq, beq_iff_eq]
  simp only [Str.length, List.size_toArray, Nat.zero_add, List.drop_zero]
  constructor
  · rintro ⟨_, h⟩
    rw [← h]
    exact List.take_prefix _ _
  · intro h
    exact ⟨h.length_le, (List.prefix_iff_eq_take.mp h).symm⟩
theorem ends_is (g p : List Nat) : Txt.endswith (tx g) (tx p) = decide (p <:+ g) := by
  unfold Txt.endswith
  rw [StrLaws.subAt_eq, Bool.eq_iff_iff, Bool.and_eq_true, decide_eq_true_eq, decide_eq_true_eq, beq_iff_eq]
  simp only [Str.length, List.size_toArray, Nat.zero_add]
  constructor
  · rintro ⟨h1, h⟩
    rw [List.take_of_length_le (by rw [List.length_drop]; omega)] at h
    rw [← h]
    exact List.drop_suffix _ _
  · intro h
    refine ⟨h.length_le, ?_⟩
    have h2 := List.suffix_iff_eq_drop.mp h
    rw [List.take_of_length_le (by rw [List.length_drop]; omega)]
    exact h2.symm
theorem ellW_find (g p : List Nat) (s e : Nat) (r : List (List Nat)) (h : s ≤ e) (he : e ≤ g.length) : ellFind g s e (ellW p ++ r) = ellFind g s e r := by
  unfold ellW
  split
  · show ellFind g s e ([] :: r) = _
    rw [ellFind, find4_none g s e h he, if_neg (by omega)]
    simp
  · rfl
theorem ellQ_two (a b g : List Nat) : ellQ a b [] g = (decide (a <+: g) && (decide (b <:+ g) && decide (a.length + b.length ≤ g.length))) := by
  unfold ellQ
  rw [starts_is, ends_is]
  by_cases h1 : a <+: g
  · by_cases h2 : b <:+ g
    · by_cases h3 : a.length + b.length ≤ g.length
      · have hz : (g.length : Int) - (b.length : Int) = ((g.length - b.length : Nat) : Int) := by omega
        rw [decide_eq_true h1, decide_eq_true h2, decide_eq_true h3, decide_eq_true (by omega), hz, ellW_find g a _ _ _ (by omega) (by omega), List.nil_append, ← List.append_nil (ellW b), ellW_find g b _ _ _ (by omega) (by omega)]
        rfl
      · rw [decide_eq_false h3, decide_eq_false (show ¬ ((a.length : Int) ≤ (g.length : Int) - (b.length : Int)) by omega)]
        simp
    · rw [decide_eq_false h2]; simp
  · rw [decide_eq_false h1]; simp
theorem ell_gap (a m b : List Nat) : ellQ a b [] (a ++ m ++ b) = true := by
  rw [ellQ_two, decide_eq_true (by rw [List.append_assoc]; exact List.prefix_append _ _), decide_eq_true (List.suffix_append _ _), decide_eq_true (by simp only [List.length_append]; omega)]
  rfl
theorem ell_front (a r b : List Nat) (u v : Nat) (h : u ≠ v) : ellQ (a ++ [v]) b [] (a ++ u :: r) = false := by
  rw [ellQ_two, decide_eq_false, Bool.false_and]
  intro hp
  have h1 := (List.prefix_append_right_inj a).mp hp
  obtain ⟨t, ht⟩ := h1
  simp at ht
  exact h ht.1.symm
theorem ell_end (a r b : List Nat) (u v : Nat) (h : u ≠ v) : ellQ a (u :: b) [] (r ++ v :: b) = false := by
  rw [ellQ_two, decide_eq_false (p := (u :: b) <:+ (r ++ v :: b)), Bool.false_and, Bool.and_false]
  rintro ⟨t, ht⟩
  have h2 := congrArg List.length ht
  simp only [List.length_append, List.length_cons] at h2
  obtain ⟨_, h3⟩ := List.append_inj ht (by omega)
  simp at h3
  exact h h3
end
section
open PySem PySem.W PyProof.Rows PySem.Spec PySem.Calls PySem.StrLaws PySem.Builtin PySem.Builtin.Str
theorem beh_some {k : List Nat} : ∀ {z r : List Nat}, beh k z = some r → ∃ n, k <+: z.drop n ∧ (∀ j, j < n → ¬ k <+: z.drop j) ∧ r = (z.drop n).drop k.length ∧ z.length = n + (k.length + r.length)
  | [], r, h => by
    have h1 : (if k = [] then some [] else none : Option (List Nat)) = some r := h
    split at h1
    · rename_i hk
      subst hk
      cases h1
      exact ⟨0, List.prefix_refl _, fun j hj => absurd hj (Nat.not_lt_zero j), rfl, rfl⟩
    · cases h1
  | c :: z, r, h => by
    have h1 : (if k <+: c :: z then some ((c :: z).drop k.length) else beh k z) = some r := h
    by_cases hp : k <+: c :: z
    · rw [if_pos hp] at h1
      cases h1
      exact ⟨0, hp, fun j hj => absurd hj (Nat.not_lt_zero j), rfl, by rw [Nat.zero_add, List.length_drop, Nat.add_sub_cancel' hp.length_le]⟩
    · rw [if_neg hp] at h1
      obtain ⟨n, h3, h4, h5, h6⟩ := beh_some h1
      refine ⟨n + 1, h3, fun j hj => ?_, h5, by rw [List.length_cons, h6, Nat.add_right_comm]⟩
      cases j with
      | zero => exact hp
      | succ j => exact h4 j (Nat.lt_of_succ_lt_succ hj)
theorem beh_no {k : List Nat} : ∀ {z : List Nat}, beh k z = none → ∀ n, ¬ k <+: z.drop n
  | [], h, n, hp => by
    have h1 : (if k = [] then some [] else none : Option (List Nat)) = none := h
    rw [List.drop_nil] at hp
    rw [if_pos (List.prefix_nil.mp hp)] at h1
    cases h1
  | c :: z, h, n, hp => by
    have h1 : (if k <+: c :: z then some ((c :: z).drop k.length) else beh k z) = none := h
    by_cases hq : k <+: c :: z
    · rw [if_pos hq] at h1; cases h1
    · rw [if_neg hq] at h1
      cases n with
      | zero => exact hq hp
      | succ n => exact beh_no h1 n hp
theorem at_mid (A z B p : List Nat) (n : Nat) : At (tx (A ++ z ++ B)) (tx p) (A.length + z.length) (A.length + n) ↔ n ≤ z.length ∧ p <+: z.drop n := by
  rw [at_tx]
  have e : (A ++ z ++ B).drop (A.length + n) = (z ++ B).drop n := by rw [List.append_assoc, ← List.drop_drop, List.drop_left]
  rw [e]
  constructor
  · rintro ⟨h1, h2⟩
    have h3 : n + p.length ≤ z.length := by omega
    refine ⟨by omega, ?_⟩
    rw [List.drop_append_of_le_length (by omega), List.take_append_of_le_length (by rw [List.length_drop]; omega)] at h2
    exact List.prefix_iff_eq_take.mpr h2.symm
  · rintro ⟨h1, h2⟩
    have h3 := h2.length_le
    rw [List.length_drop] at h3
    refine ⟨by omega, ?_⟩
    rw [List.drop_append_of_le_length h1, List.take_append_of_le_length (by rw [List.length_drop]; omega)]
    exact (List.prefix_iff_eq_take.mp h2).symm
theorem from_nat (a n : Nat) : fromIndex a (n : Int) = n := by
  unfold fromIndex
  rw [if_neg (Int.not_lt.mpr (Int.natCast_nonneg n))]
  rw [Int.max_eq_right (Int.natCast_nonneg n), Int.toNat_natCast]
theorem find_mid (A z B p : List Nat) : find4 (tx (A ++ z ++ B)) (tx p) (A.length : Int) ((A.length + z.length : Nat) : Int) = match beh p z with
    | none => -1
    | some r => ((A.length + (z.length - (p.length + r.length)) : Nat) : Int) := by
  have hg : (tx (A ++ z ++ B)).length = A.length + z.length + B.length := by rw [tx_len]; simp only [List.length_append]
  have l1 : A.length + z.length ≤ (tx (A ++ z ++ B)).length := by rw [hg]; exact Nat.le_add_right _ _
  unfold find4
  rw [from_nat, from_nat, Nat.min_eq_left l1]
  rcases occ_from (tx (A ++ z ++ B)) (tx p) A.length (A.length + z.length) with ⟨h1, h2⟩ | ⟨i, r, h1, h2, h3, h4⟩
  · rw [h1]
    cases hb : beh p z with
    | none => rfl
    | some r =>
      obtain ⟨n, g2, _, _, g5⟩ := beh_some hb
      exact absurd ((at_mid A z B p n).mpr ⟨by rw [g5]; exact Nat.le_add_right _ _, g2⟩) (h2 _ (Nat.le_add_right _ _))
  · rw [h1]
    obtain ⟨n, rfl⟩ : ∃ n, i = A.length + n := ⟨i - A.length, (Nat.add_sub_cancel' h2).symm⟩
    obtain ⟨g1, g2⟩ := (at_mid A z B p n).mp h3
    cases hb : beh p z with
    | none => exact absurd g2 (beh_no hb n)
    | some r' =>
      obtain ⟨n', f2, f3, f4, f5⟩ := beh_some hb
      have e : n' = n := by
        rcases Nat.lt_trichotomy n' n with h | h | h
        · exact absurd ((at_mid A z B p n').mpr ⟨by rw [f5]; exact Nat.le_add_right _ _, f2⟩) (h4 _ (Nat.le_add_right _ _) (Nat.add_lt_add_left h _))
        · exact h
        · exact absurd g2 (f3 n h)
      subst e
      show ((A.length + n' : Nat) : Int) = ((A.length + (z.length - (p.length + r'.length)) : Nat) : Int)
      rw [f5, Nat.add_sub_cancel]
theorem find_next (A z B p : List Nat) (ps : List (List Nat)) : ellFind (A ++ z ++ B) (A.length : Int) ((A.length + z.length : Nat) : Int) (p :: ps) = match beh p z with
    | none => false
    | some r => ellFind (A ++ z ++ B) ((A.length + (z.length - r.length) : Nat) : Int) ((A.length + z.length : Nat) : Int) ps := by
  rw [ellFind, find_mid]
  cases hb : beh p z with
  | none => rfl
  | some r =>
    obtain ⟨n', f2, f3, f4, f5⟩ := beh_some hb
    show (if ((A.length + (z.length - (p.length + r.length)) : Nat) : Int) < 0 then false else ellFind _ (((A.length + (z.length - (p.length + r.length)) : Nat) : Int) + (p.length : Int)) _ ps) = ellFind (A ++ z ++ B) ((A.length + (z.length - r.length) : Nat) : Int) ((A.length + z.length : Nat) : Int) ps
    have e : ((A.length + (z.length - (p.length + r.length)) : Nat) : Int) + (p.length : Int) = ((A.length + (z.length - r.length) : Nat) : Int) := by
      rw [f5, Nat.add_sub_cancel, ← Nat.add_assoc n', Nat.add_sub_cancel, ← Nat.add_assoc, Int.natCast_add (A.length + n')]
    rw [if_neg (Int.not_lt.mpr (Int.natCast_nonneg _)), e]
theorem beh_suff {p z r : List Nat} (h : beh p z = some r) : ∃ d, z = d ++ r ∧ d.length = z.length - r.length := by
  obtain ⟨n', f2, f3, f4, f5⟩ := beh_some h
  have e : z = z.take (n' + p.length) ++ r := by rw [f4, List.drop_drop, List.take_append_drop]
  have hl := congrArg List.length e
  rw [List.length_append] at hl
  exact ⟨_, e, by rw [hl, Nat.add_sub_cancel]⟩
noncomputable def behs : List (List Nat) → List Nat → Bool
  | [], _ => true
  | p :: ps, z => match beh p z with
    | none => false
    | some r => behs ps r
theorem finds_are (b : List Nat) : ∀ (ps : List (List Nat)) (A z B : List Nat), ellFind (A ++ z ++ B) (A.length : Int) ((A.length + z.length : Nat) : Int) (ps ++ ellW b) = behs ps z
  | [], A, z, B => by
    rw [List.nil_append, ← List.append_nil (ellW b), ellW_find (A ++ z ++ B) b A.length (A.length + z.length) [] (by omega) (by simp only [List.length_append]; omega)]
    rfl
  | p :: ps, A, z, B => by
    rw [List.cons_append, find_next]
    show _ = match beh p z with | none => false | some r => behs ps r
    cases hb : beh p z with
    | none => rfl
    | some r =>
      obtain ⟨d, h1, h2⟩ := beh_suff hb
      have ih := finds_are b ps (A ++ d) r B
      have e : A ++ d ++ r ++ B = A ++ z ++ B := by rw [h1]; simp only [List.append_assoc]
      have hl := congrArg List.length h1
      rw [List.length_append] at hl
      rw [e, List.length_append] at ih
      show ellFind _ _ _ _ = behs ps r
      rw [← ih, h2, show A.length + (z.length - r.length) + r.length = A.length + z.length by omega]
theorem ell_in (a z b : List Nat) (mid : List (List Nat)) : ellQ a b mid (a ++ z ++ b) = behs mid z := by
  unfold ellQ
  rw [starts_is, ends_is, decide_eq_true (show a <+: a ++ z ++ b by rw [List.append_assoc]; exact List.prefix_append _ _), decide_eq_true (show b <:+ a ++ z ++ b from List.suffix_append _ _)]
  have hl : ((a ++ z ++ b).length : Int) - (b.length : Int) = ((a.length + z.length : Nat) : Int) := by simp only [List.length_append]; omega
  rw [hl, decide_eq_true (show (a.length : Int) ≤ ((a.length + z.length : Nat) : Int) by omega), ellW_find (a ++ z ++ b) a _ _ _ (by omega) (by simp only [List.length_append]; omega), finds_are]
  rfl
theorem ell_out {a b g : List Nat} (mid : List (List Nat)) (h : ¬ ∃ z, g = a ++ z ++ b) : ellQ a b mid g = false := by
  unfold ellQ
  rw [starts_is, ends_is]
  by_cases h1 : a <+: g
  · by_cases h2 : b <:+ g
    · rw [decide_eq_false (p := (a.length : Int) ≤ _), Bool.false_and, Bool.and_false, Bool.and_false]
      intro h3
      refine h ?_
      obtain ⟨t, rfl⟩ := h1
      obtain ⟨q, hq⟩ := h2
      have hl := congrArg List.length hq
      simp only [List.length_append] at hl h3
      have h4 : a <+: q := by
        have := List.prefix_of_prefix_length_le (l₃ := a ++ t) (List.prefix_append a t) (by rw [← hq]; exact List.prefix_append _ _) (by omega : a.length ≤ q.length)
        exact this
      obtain ⟨z, rfl⟩ := h4
      exact ⟨z, hq.symm⟩
    · rw [decide_eq_false h2]; simp
  · rw [decide_eq_false h1]; simp
section
variable {u v : Nat} (huv : u ≠ v)
include huv
theorem sgn_parts {x t y : List Bool} : (∃ z, sgn u v y = sgn u v x ++ z ++ sgn u v t) ↔ ∃ z, y = x ++ z ++ t := by
  constructor
  · rintro ⟨z, hz⟩
    have hl := congrArg List.length hz
    simp only [List.length_append, sgn_len] at hl
    refine ⟨(y.drop x.length).take z.length, sgn_inj huv ?_⟩
    have h1 := congrArg (fun l => (l.drop x.length).take z.length) hz
    rw [List.append_assoc, show (sgn u v x ++ (z ++ sgn u v t)).drop x.length = z ++ sgn u v t by rw [← sgn_len u v x, List.drop_left], List.take_left] at h1
    have h2 : sgn u v ((y.drop x.length).take z.length) = z := by rw [show sgn u v ((y.drop x.length).take z.length) = ((sgn u v y).drop x.length).take z.length by unfold sgn; rw [List.map_take, List.map_drop]]; exact h1
    rw [sgn_app, sgn_app, h2, hz]
  · rintro ⟨z, rfl⟩
    exact ⟨sgn u v z, by rw [sgn_app, sgn_app]⟩
theorem beh_sgn (k z : List Bool) : beh (sgn u v k) (sgn u v z) = (beh k z).map (sgn u v) :=
  beh_map (fun b : Bool => if b then u else v) (fun a b => by cases a <;> cases b <;> simp <;> omega) k z
theorem ell_two (x t y : List Bool) : ellQ (sgn u v x) (sgn u v t) [] (sgn u v y) = true ↔ nnM (mulM (mulM (invM (mw x)) (mw y)) (invM (mw t))) := by
  rw [both_nn]
  constructor
  · intro h
    refine (sgn_parts huv).mp (Classical.byContradiction fun hc => ?_)
    rw [ell_out [] hc] at h
    cases h
  · rintro ⟨z, rfl⟩
    rw [sgn_app, sgn_app, ell_in]
    rfl
theorem ell_three (x z t k : List Bool) : ellQ (sgn u v x) (sgn u v t) [sgn u v k] (sgn u v (x ++ z ++ t)) = (beh k z).isSome := by
  rw [sgn_app, sgn_app, ell_in]
  show (match beh (sgn u v k) (sgn u v z) with | none => false | some r => behs [] r) = _
  rw [beh_sgn huv]
  cases beh k z <;> rfl
theorem ell_four {x z t k r : List Bool} (h : beh k z = some r) : ellQ (sgn u v x) (sgn u v t) [sgn u v k, sgn u v k] (sgn u v (x ++ z ++ t)) = (beh k r).isSome := by
  rw [sgn_app, sgn_app, ell_in]
  show (match beh (sgn u v k) (sgn u v z) with | none => false | some r => behs [sgn u v k] r) = _
  rw [beh_sgn huv, h]
  show (match beh (sgn u v k) (sgn u v r) with | none => false | some r => behs [] r) = _
  rw [beh_sgn huv]
  cases beh k r <;> rfl
theorem ell_nofit {x t y : List Bool} (mid : List (List Nat)) (h : ¬ nnM (mulM (mulM (invM (mw x)) (mw y)) (invM (mw t)))) : ellQ (sgn u v x) (sgn u v t) mid (sgn u v y) = false :=
  ell_out mid fun hz => h ((both_nn x y t).mpr ((sgn_parts huv).mp hz))
end
theorem sum_le : ∀ x, topM (mw x) + lowM (mw x) ≤ 2 ^ (x.length + 1)
  | [] => by decide
  | true :: r => by
    have h1 := top_tt r
    have h2 := sum_le r
    have h3 := mw_pos r
    rw [List.length_cons, Int.pow_succ]
    omega
  | false :: r => by
    have h1 := top_ff r
    have h2 := sum_le r
    have h3 := mw_pos r
    rw [List.length_cons, Int.pow_succ]
    omega
theorem sum_lt {x : List Bool} (h : x.length ≤ 40) : topM (mw x) < 2 ^ 60 ∧ lowM (mw x) < 2 ^ 60 := by
  have h1 := sum_le x
  have h2 := mw_pos x
  have h3 : (2 : Int) ^ (x.length + 1) ≤ 2 ^ 41 := by
    have := Nat.pow_le_pow_right (show 0 < 2 by decide) (show x.length + 1 ≤ 41 by omega)
    exact_mod_cast this
  have e : (2 : Int) ^ 41 = 2199023255552 := by decide
  have e2 : (2 : Int) ^ 60 = 1152921504606846976 := by decide
  rw [e] at h3
  rw [e2]
  omega
theorem small_mw {x : List Bool} (h : x.length ≤ 40) : smallM (mw x) := small_of (mw_nn x) (sum_lt h).1 (sum_lt h).2
theorem small_inv {x : List Bool} (h : x.length ≤ 40) : smallM (invM (mw x)) := by
  obtain ⟨h1, h2, h3, h4⟩ := small_mw h
  unfold smallI at h1 h2 h3 h4
  refine ⟨?_, ?_, ?_, ?_⟩ <;> (unfold smallI invM; dsimp only; constructor <;> omega)
theorem beh_len {k z r : List Bool} (h : beh k z = some r) : r.length ≤ z.length := by
  have h1 := beh_sgn (u := 0) (v := 1) (by decide) k z
  rw [h] at h1
  obtain ⟨d, e, _⟩ := beh_suff h1
  have := congrArg List.length e
  rw [List.length_append, sgn_len, sgn_len] at this
  omega
theorem mw_reps (n : Nat) : mw (List.replicate n true) = (1, (n : Int), 0, 1) ∧ mw (List.replicate n false) = (1, 0, (n : Int), 1) := by
  induction n with
  | zero => exact ⟨rfl, rfl⟩
  | succ n ih =>
    rw [List.replicate_succ, List.replicate_succ, mw_tt, mw_ff, ih.1, ih.2]
    constructor <;> apply mat_eq <;> simp <;> omega
end
end
section
local macro_rules | `(tactic| cell_step) => `(tactic| (walk_at "s1"; walk_at "s2"; walk_at "t2"))
local macro_rules | `(tactic| walk_at "newList") => `(tactic| walk_at "t3")
local macro_rules | `(tactic| walk_at "newTuple") => `(tactic| walk_at "t4")
section
theorem tx_beq (a b : List Nat) : (tx a == tx b) = decide (a = b) := by
  rw [Bool.eq_iff_iff, beq_iff_eq, decide_eq_true_eq, tx_inj]
theorem dots_not (a : List Nat) (h : 46 ∉ a) : (Builtin.Str.occurrences (tx a) (tx [46, 46, 46]) 0 (tx a).length 1).isEmpty = true := by
  rcases occ_from (tx a) (tx [46, 46, 46]) 0 (tx a).length with ⟨h1, _⟩ | ⟨i, r, _, _, h3, _⟩
  · rw [h1]; rfl
  · exfalso
    have h4 := (at_tx.mp h3).2
    have : 46 ∈ (a.drop i).take [46, 46, 46].length := by rw [h4]; simp
    exact h (List.mem_of_mem_drop (List.mem_of_mem_take this))
theorem ell_plain (w : World) (rest : Led) (a g : List Nat) (t t' : Tok) (ha : 46 ∉ a) (hl : a.length ≤ 1000) (hg : g.length ≤ 1000) :
  Tel w 2 100 (.ref 21) [.str (tx a) t, .str (tx g) t'] rest (fun v news' => v = .bool (decide (a = g)) ∧ news' = rest) := by
  intro mean mg mb dp un gd cn cs ad ccd cl outer A₀ base h₀ L m s Q E B F X N T C1 C2 C3 hk hd hu hret
  refine wpAny_call ?_
  k_dflt (first | (refine' code_defC ?k1 ?k2 ?k3 ?k4 ?k5 ?kA ?kF ?kK ?k6 ?k7 ?k8 ?k9 ?kB ?kD ?_ ?c2 ?c3 ?c4; (case kA => exact rfl); (case kF => exact rfl); (case kK => first | exact rfl | assumption); (case k1 => k_asm); (case k2 => k_asm); (case k3 => k_asm); (case k4 => k_asm); (case k5 => k_asm); (case k6 => k_is); (case k7 => k_is); (case k8 => k_room); (case k9 => first | exact BindsTo.of_eq rfl | exact binds_K (by k_in) rfl (by k_is) rfl rfl rfl | fail "k_enter: no rule for these arguments"); (case kB => exact rfl); (case kD => decide +kernel); (case c2 => exact rfl); (case c3 => exact rfl); (case c4 => exact rfl); k_whole; intro z9g z9L z9h z9tk z9cells z9FG z9F z9N z9Y z9B z9X z9T z9l1; (try k_lt z9l1); k_cells z9Y; (try simp only [List.cons_append, List.nil_append] at z9N); (try dsimp only); (try k_lift z9B); (try k_fold)) | cell_enter)
  have hd0 : (Builtin.Str.occurrences (tx a) (Str.ofString "...") 0 (tx a).length 1).isEmpty = true := by rw [dots3]; exact dots_not a ha
  (repeat' (first | (with_reducible refine if_ff ?_) | (with_reducible refine if_tt ?_) | (k_unfold; (try dsimp only)) | (k_end; wrow_close) | (cell_step; walk1) | (cell_step; dsimp only; walk1) | (leave1; walk_say "STEP leave1"; try dsimp only) | fail "no step"))
  · rename Fr h₀ L _ _ => F1
    rename News h₀ L _ _ => N1
    exact hret _ _ _ _ F1 N1 ⟨by rw [tx_beq], rfl⟩
  all_goals (run_tac do
      let g ← Lean.Elab.Tactic.getMainGoal
      g.withContext do
      let t ← Lean.instantiateMVars (← g.getType)
      let mut out : Lean.MessageData := m!"GOAL "
      for d in (← Lean.getLCtx) do
        if d.isImplementationDetail then continue
        let ty ← Lean.instantiateMVars d.type
        unless ← Lean.Meta.isProp ty do continue
        let ty ← Lean.Meta.whnfR ty
        let fn := ty.getAppFn
        if fn.isConstOf ``Eq || fn.isConstOf ``LE.le || fn.isConstOf ``LT.lt || fn.isConstOf ``Not || fn.isConstOf ``Ne || fn.isConstOf ``And || fn.isConstOf ``PyProof.Rows.IntsAre then
          out := out ++ m!"\n  {d.userName} : {ty}"
      let tree := if t.isAppOf ``PySem.wpAny then t.getAppArgs[3]! else t
      out := out ++ m!"\n ⊢ {tree}"
      Lean.logInfo out)
end
end
section
section
noncomputable def StgB (w : World) (fa : Addr) (cd : Value) (L : Addr) (b : List Stmt) (m : Str → Option Value) (news : Led) (R : (Str → Option Value) → Led → Prop) : Prop :=
  ∀ (mean : ExcName → Option Value) (mg mb : Str → Option Value) (base : Heap) (s : Shared) (rest : List Stmt) (Q : Flow → Shared → Prop) (E : Value → Shared → Prop),
    Below callerA base [] base → Fr base L s.heap m → (hd01.heap_1 w.params).In base → News base L s.heap news → Top topProg topL mean mg mb base → CodeHd base 135 131 → CodeHd base 48 44 → CodeHd base 41 37 → PassesOwn (model Challenge.rw_ty0035_01.row.prog w) (callerA.deeper (envL L fa cd)) (envL L fa cd) E →
    (∀ h' tk' m' news', Fr base L h' m' → News base L h' news' → R m' news' → wpAny (model Challenge.rw_ty0035_01.row.prog w) (callerA.deeper (envL L fa cd)) (execs rest (envL L fa cd)) Q E { s with heap := h', toks := tk' }) →
    wpAny (model Challenge.rw_ty0035_01.row.prog w) (callerA.deeper (envL L fa cd)) (execs (b ++ rest) (envL L fa cd)) Q E s
noncomputable def forB : Stmt → List Stmt
  | .For _ _ b _ _ => b
  | _ => []
noncomputable abbrev stF : Stmt := stmtAt (fBody (fn 24)) 12
noncomputable abbrev stR : Stmt := stmtAt (fBody (fn 24)) 15
noncomputable abbrev stI : Stmt := stmtAt (forB stR) 0
noncomputable abbrev stJ : Stmt := stmtAt (forB stI) 2
noncomputable abbrev blkS (st : Stmt) (i k : Nat) : List Stmt := ((forB st).drop i).take k
theorem blkS_add (st : Stmt) (i j k : Nat) : blkS st i (j + k) = blkS st i j ++ blkS st (i + j) k := by
  unfold blkS
  rw [List.take_add, List.drop_drop]
section
variable {w : World} {fa : Addr} {cd : Value} {L : Addr} {b b2 : List Stmt} {m : Str → Option Value} {news : Led} {R R2 : (Str → Option Value) → Led → Prop}
theorem StgB.seq (h : StgB w fa cd L b m news R) (k : ∀ m' news', R m' news' → StgB w fa cd L b2 m' news' R2) : StgB w fa cd L (b ++ b2) m news R2 := by
  intro mean mg mb base s rest Q E B' F X N T C1 C2 C3 hE hret
  rw [List.append_assoc]
  refine h mean mg mb base s (b2 ++ rest) Q E B' F X N T C1 C2 C3 hE fun h' tk' m' news' F' N' r => ?_
  exact k m' news' r mean mg mb base { s with heap := h', toks := tk' } rest Q E B' F' X N' T C1 C2 C3 hE fun h2 tk2 m2 news2 F2 N2 r2 => hret h2 tk2 m2 news2 F2 N2 r2
theorem StgB.perm {news2 : Led} (h : StgB w fa cd L b m news R) (k : ∀ p ∈ news, p ∈ news2) : StgB w fa cd L b m news2 R := by
  intro mean mg mb base s rest Q E B' F X N T C1 C2 C3 hE hret
  exact h mean mg mb base s rest Q E B' F X (news_perm N k) T C1 C2 C3 hE hret
theorem StgB.post {R2 : (Str → Option Value) → Led → Prop} (h : StgB w fa cd L b m news R) (k : ∀ m' news', R m' news' → ∃ news2, (∀ p ∈ news2, p ∈ news') ∧ R2 m' news2) : StgB w fa cd L b m news R2 := by
  intro mean mg mb base s rest Q E B' F X N T C1 C2 C3 hE hret
  refine h mean mg mb base s rest Q E B' F X N T C1 C2 C3 hE fun h' tk' m' news' F' N' r => ?_
  obtain ⟨news2, h1, h2⟩ := k m' news' r
  exact hret h' tk' m' news2 F' (news_perm N' h1) h2
end
theorem StgB.stg {w : World} {fa : Addr} {cd : Value} {L : Addr} {i k : Nat} {m : Str → Option Value} {news : Led} {R : (Str → Option Value) → Led → Prop} (h : StgB w fa cd L (blk i k) m news R) : Stg w fa cd L i k (fun _ => True) m news R := by
  intro mean mg mb base s rest Q E B' F X N T C1 C2 C3 hE _ hret
  exact h mean mg mb base s rest Q E B' F X N T C1 C2 C3 hE hret
noncomputable abbrev KC4 (L : Addr) (o2 o3 o5 o6 : Obj) (Y : Led) : Led := (L + 1 + 1, o2) :: (L + 1 + 1 + 1, o3) :: (L + 1 + 1 + 1 + 1 + 1, o5) :: (L + 1 + 1 + 1 + 1 + 1 + 1, o6) :: Y
inductive LexQ (w : World) (P : LexP) (tot0 : Int) (ws : List (List Nat)) (lx : Led) : Prop
  | mk (tl : Tok) (pb : List Value) (pe ep : Nat) (zh1 : TextsAre pb ws) (zh2 : lx = LexL w P tot0 tl pb pe [] ep)
theorem lexL_adr {w : World} {P : LexP} (O : LexOk P) {line : Int} {tl : Tok} {pb sg : List Value} {pe ep : Nat} : ∀ p ∈ LexL w P line tl pb pe sg ep, @LE.le Nat _ P.cG p.1 ∧ @LE.le Nat _ p.1 P.PB := by
  obtain ⟨_, _, _, n1, n2, n3, n4, n5, n6, n7, n8, n9⟩ := O
  intro p hp
  simp only [LexL, List.mem_cons, List.not_mem_nil, or_false] at hp
  rcases hp with rfl | rfl | rfl | rfl | rfl | rfl | rfl | rfl | rfl | rfl <;> constructor <;> (dsimp only; omega)
theorem lexQ_adr {w : World} {P : LexP} (O : LexOk P) {tot0 : Int} {ws : List (List Nat)} {lx : Led} (h : LexQ w P tot0 ws lx) : ∀ p ∈ lx, @LE.le Nat _ P.cG p.1 ∧ @LE.le Nat _ p.1 P.PB := by
  obtain ⟨tl, pb, pe, ep, _, rfl⟩ := h
  exact lexL_adr O
structure Fix2 (P : LexP) (L : Addr) : Prop where
  O : LexOk P
  lo : @LT.lt Nat _ 131 L
  hL : @LT.lt Nat _ (L + 7) P.cG
theorem Fix2.cP {P : LexP} {L : Addr} (f : Fix2 P L) : @LT.lt Nat _ P.cG P.PB := by
  obtain ⟨⟨_, _, _, n1, n2, n3, n4, n5, n6, n7, n8, n9⟩, _, _⟩ := f
  omega
theorem Fix2.LP {P : LexP} {L : Addr} (f : Fix2 P L) : @LT.lt Nat _ (L + 7) P.PB := Nat.lt_trans f.hL f.cP
theorem Fix2.P44 {P : LexP} {L : Addr} (f : Fix2 P L) : @LT.lt Nat _ 44 P.PB := Nat.lt_trans (Nat.lt_of_lt_of_le (Nat.lt_trans (by decide : 44 < 131) f.lo) (Nat.le_add_right L 7)) f.LP
structure ZOk (P : LexP) (Z : Led) : Prop where
  zP : ∀ p ∈ Z, p.1 ≠ P.PB
  z37 : ∀ p ∈ Z, p.1 ≠ 37
  z44 : ∀ p ∈ Z, p.1 ≠ 44
theorem ZOk.cons {P : LexP} {L : Addr} {Z : Led} {I : Addr} {o : Obj} (h : ZOk P Z) (f : Fix2 P L) (hI : @LT.lt Nat _ P.PB I) : ZOk P ((I, o) :: Z) := by
  have hk : ∀ a : Nat, @LE.le Nat _ a 44 → @Ne Nat I a := fun a ha => Nat.ne_of_gt (Nat.lt_of_le_of_lt ha (Nat.lt_trans f.P44 hI))
  refine ⟨fun p hp => ?_, fun p hp => ?_, fun p hp => ?_⟩ <;> rcases List.mem_cons.mp hp with rfl | hp
  · exact Nat.ne_of_gt hI
  · exact h.zP p hp
  · exact hk 37 (by decide)
  · exact h.z37 p hp
  · exact hk 44 (by decide)
  · exact h.z44 p hp
noncomputable def TbO (As : List Addr) (tb : Led) : Prop := Tabs tb ∧ OwnOff tb As
theorem top_mem {l : Led} {p : Addr × Obj} (h : p ∈ l) : @LT.lt Nat _ p.1 (topA l) := topA_lt (Nat.le_refl _) p h
theorem top_sub {a b : Led} (h : ∀ p ∈ a, p ∈ b) : topA a ≤ topA b := by
  induction a with
  | nil => exact Nat.zero_le _
  | cons q r ih =>
    rw [topA_cons]
    have h1 := top_mem (h q (.head _))
    have h2 := ih fun p hp => h p (.tail _ hp)
    exact Nat.max_le.mpr ⟨h1, h2⟩
theorem TbO.newer {As : List Addr} {tb tb' Z : Led} (h : TbO As tb) (ht : Tabs tb') (hn : Newer tb tb' (topA Z)) (hA : ∀ a ∈ As, @LT.lt Nat _ a (topA Z)) : TbO As tb' := ⟨ht, fun p hp a ha e => hn.off (fun q hq => h.2 q hq a ha) (hA a ha) p hp e⟩
theorem TbO.cons {As : List Addr} {tb : Led} {I : Addr} (h : TbO As tb) (hI : topA tb ≤ I) : TbO (I :: As) tb := ⟨h.1, fun p hp a ha => by
  rcases List.mem_cons.mp ha with rfl | ha
  · exact topA_ne hI p hp
  · exact h.2 p hp a ha⟩
theorem TbO.tail {As : List Addr} {tb : Led} {I : Addr} (h : TbO (I :: As) tb) : TbO As tb := ⟨h.1, fun p hp a ha => h.2 p hp a (.tail _ ha)⟩
theorem newer_top {a b : Led} {X Y : Led} (h : Newer a b (topA X)) (k : ∀ p ∈ Y, p ∈ X) : Newer a b (topA Y) := h.weaken (top_sub k)
theorem wd_bound {u v : Nat} {x : List Bool} (hu : u ≠ 46) (hv : v ≠ 46) : 46 ∉ sgn u v x := by
  intro h
  obtain ⟨b, _, e⟩ := List.mem_map.mp h
  cases b
  · exact hv e
  · exact hu e
section
variable {L : Addr} {o2 o3 o5 o6 : Obj} {A B C : Led} {x y : Addr × Obj}
theorem kc_front : ∀ p ∈ A ++ KC4 L o2 o3 o5 o6 B, p ∈ KC4 L o2 o3 o5 o6 (A ++ B) := by
  walk_at "mem all"
theorem kc_back : ∀ p ∈ KC4 L o2 o3 o5 o6 (A ++ B), p ∈ A ++ KC4 L o2 o3 o5 o6 B := by
  walk_at "mem all"
theorem kc_sub (h : ∀ p ∈ A, p ∈ B) : ∀ p ∈ KC4 L o2 o3 o5 o6 A, p ∈ KC4 L o2 o3 o5 o6 B := by
  intro p hp
  simp only [List.mem_cons] at hp ⊢
  rcases hp with h1 | h1 | h1 | h1 | h1
  · simp only [h1, true_or, or_true]
  · simp only [h1, true_or, or_true]
  · simp only [h1, true_or, or_true]
  · simp only [h1, true_or, or_true]
  · simp only [h p h1, or_true]
theorem kc_in {p : Addr × Obj} (h : p ∈ A) : p ∈ KC4 L o2 o3 o5 o6 A := .tail _ (.tail _ (.tail _ (.tail _ h)))
theorem mem_swap : ∀ p ∈ A ++ (B ++ C), p ∈ B ++ (A ++ C) := by
  walk_at "mem all"
theorem mem_one : ∀ p ∈ A ++ (B ++ x :: C), p ∈ x :: (A ++ (B ++ C)) := by
  walk_at "mem all"
theorem mem_one' : ∀ p ∈ x :: (A ++ (B ++ C)), p ∈ A ++ (B ++ x :: C) := by
  walk_at "mem all"
theorem kc_mid : ∀ p ∈ B ++ KC4 L o2 o3 o5 o6 (A ++ C), p ∈ KC4 L o2 o3 o5 o6 (A ++ (B ++ C)) := by
  walk_at "mem all"
theorem kc_mid' : ∀ p ∈ KC4 L o2 o3 o5 o6 (A ++ (B ++ C)), p ∈ B ++ KC4 L o2 o3 o5 o6 (A ++ C) := by
  walk_at "mem all"
theorem kc_one : ∀ p ∈ KC4 L o2 o3 o5 o6 (A ++ (B ++ x :: C)), p ∈ x :: KC4 L o2 o3 o5 o6 (A ++ (B ++ C)) := by
  walk_at "mem all"
theorem kc_two : ∀ p ∈ x :: KC4 L o2 o3 o5 o6 (A ++ (B ++ y :: C)), p ∈ KC4 L o2 o3 o5 o6 (A ++ (B ++ y :: x :: C)) := by
  walk_at "mem all"
theorem kc_one' : ∀ p ∈ x :: KC4 L o2 o3 o5 o6 (A ++ (B ++ C)), p ∈ KC4 L o2 o3 o5 o6 (A ++ (B ++ x :: C)) := by
  walk_at "mem all"
end
section
variable {P : LexP} {L : Addr} {o2 o3 o5 o6 : Obj} {w : World} {tot0 : Int} {ws : List (List Nat)} {lx tb Z Y : Led}
theorem kc_adr {p : Addr × Obj} (h : p ∈ KC4 L o2 o3 o5 o6 Y) : (@LT.lt Nat _ L p.1 ∧ @LE.le Nat _ p.1 (L + 7)) ∨ p ∈ Y := by
  simp only [List.mem_cons] at h
  have key : ∀ i : Nat, 0 < i → i ≤ 7 → @LT.lt Nat _ L (L + i) ∧ @LE.le Nat _ (L + i) (L + 7) := fun i h0 h7 => ⟨Nat.lt_add_of_pos_right h0, Nat.add_le_add_left h7 L⟩
  rcases h with rfl | rfl | rfl | rfl | h
  · exact .inl (key 2 (by decide) (by decide))
  · exact .inl (key 3 (by decide) (by decide))
  · exact .inl (key 5 (by decide) (by decide))
  · exact .inl (key 6 (by decide) (by decide))
  · exact .inr h
theorem kc_PB (f : Fix2 P L) (h : ∀ p ∈ Y, p.1 ≠ P.PB) : ∀ p ∈ KC4 L o2 o3 o5 o6 Y, p.1 ≠ P.PB := fun p hp => by
  rcases kc_adr hp with ⟨_, h1⟩ | h1
  · exact Nat.ne_of_lt (Nat.lt_of_le_of_lt h1 f.LP)
  · exact h p h1
theorem kc_tab (f : Fix2 P L) (hl : LexQ w P tot0 ws lx) {a : Addr} (ha : @LE.le Nat _ a 44) (h : ∀ p ∈ Z, p.1 ≠ a) : OwnOff (KC4 L o2 o3 o5 o6 (lx ++ Z)) [a] := fun p hp d hd => by
  rw [List.mem_singleton.mp hd]
  have h44 : @LT.lt Nat _ a L := Nat.lt_of_le_of_lt ha (Nat.lt_trans (by decide : 44 < 131) f.lo)
  rcases kc_adr hp with ⟨h1, _⟩ | h1
  · exact Nat.ne_of_gt (Nat.lt_trans h44 h1)
  rcases List.mem_append.mp h1 with h1 | h1
  · exact Nat.ne_of_gt (Nat.lt_of_lt_of_le (Nat.lt_trans h44 (Nat.lt_of_le_of_lt (Nat.le_add_right L 7) f.hL)) (lexQ_adr f.O hl p h1).1)
  · exact h p h1
theorem kc_new (f : Fix2 P L) (hl : LexQ w P tot0 ws lx) {I : Addr} (hP : @LT.lt Nat _ P.PB I) (h : ∀ p ∈ Y, p.1 ≠ I) : ∀ p ∈ KC4 L o2 o3 o5 o6 (lx ++ Y), p.1 ≠ I := fun p hp => by
  rcases kc_adr hp with ⟨_, h1⟩ | h1
  · exact Nat.ne_of_lt (Nat.lt_of_le_of_lt h1 (Nat.lt_trans f.LP hP))
  rcases List.mem_append.mp h1 with h1 | h1
  · exact Nat.ne_of_lt (Nat.lt_of_le_of_lt (lexQ_adr f.O hl p h1).2 hP)
  · exact h p h1
theorem lexQ_PB (hl : LexQ w P tot0 ws lx) : ∃ o, (P.PB, o) ∈ lx := by
  obtain ⟨tl, pb, pe, ep, _, rfl⟩ := hl
  exact ⟨_, .head _⟩
end
noncomputable def SqIn (vs : List Value) (W : List (List Bool)) (Z : Led) : Prop := vs.length = W.length ∧ ∀ (i : Nat) (x : List Bool), W[i]? = some x → ∃ S ta tb tc td, vs[i]? = some (.ref S) ∧ (S, tup4 (mw x) ta tb tc td) ∈ Z
theorem SqIn.mono {vs : List Value} {W : List (List Bool)} {Z Z' : Led} (h : SqIn vs W Z) (k : ∀ p ∈ Z, p ∈ Z') : SqIn vs W Z' := ⟨h.1, fun i x hx => by
  obtain ⟨S, ta, tb, tc, td, h1, h2⟩ := h.2 i x hx
  exact ⟨S, ta, tb, tc, td, h1, k _ h2⟩⟩
theorem SqIn.snoc {vs : List Value} {W : List (List Bool)} {Z : Led} (h : SqIn vs W Z) (x : List Bool) (S : Addr) (ta tb tc td : Tok) : SqIn (vs ++ [.ref S]) (W ++ [x]) ((S, tup4 (mw x) ta tb tc td) :: Z) := ⟨by rw [List.length_append, List.length_append, h.1]; rfl, fun i y hy => by
  by_cases hi : i < W.length
  · rw [List.getElem?_append_left hi] at hy
    obtain ⟨S', t1, t2, t3, t4, h1, h2⟩ := h.2 i y hy
    exact ⟨S', t1, t2, t3, t4, by rw [List.getElem?_append_left (by rw [h.1]; exact hi)]; exact h1, .tail _ h2⟩
  · have e : i = W.length := by
      have := (List.getElem?_eq_some_iff.mp hy).1
      rw [List.length_append, List.length_singleton] at this
      omega
    subst e
    rw [List.getElem?_append_right (Nat.le_refl _), Nat.sub_self] at hy
    have e2 : x = y := by simpa using hy
    subst e2
    exact ⟨S, ta, tb, tc, td, by rw [← h.1, List.getElem?_append_right (Nat.le_refl _), Nat.sub_self]; rfl, .head _⟩⟩
theorem texts_at : ∀ {vs : List Value} {ws : List (List Nat)} {i : Nat} {w : List Nat}, TextsAre vs ws → ws[i]? = some w → ∃ t, vs[i]? = some (.str (tx w) t)
  | _, _, 0, w, .cons x t h, e => by simp at e; subst e; exact ⟨t, rfl⟩
  | _, _, i + 1, w, .cons x t h, e => by simp at e ⊢; exact texts_at h e
end
section
noncomputable def StgBAt (w : World) (fa : Addr) (cd : Value) (L : Addr) (b : List Stmt) (m : Str → Option Value) (news : Led) (R : (Str → Option Value) → Led → Prop) (v : StgV) : Prop :=
    Below callerA v.base [] v.base → Fr v.base L v.s.heap m → (hd01.heap_1 w.params).In v.base → News v.base L v.s.heap news → Top topProg topL v.mean v.mg v.mb v.base → CodeHd v.base 135 131 → CodeHd v.base 48 44 → CodeHd v.base 41 37 → PassesOwn (model Challenge.rw_ty0035_01.row.prog w) (callerA.deeper (envL L fa cd)) (envL L fa cd) v.E →
    (∀ h' tk' m' news', Fr v.base L h' m' → News v.base L h' news' → R m' news' → wpAny (model Challenge.rw_ty0035_01.row.prog w) (callerA.deeper (envL L fa cd)) (execs v.rest (envL L fa cd)) v.Q v.E { v.s with heap := h', toks := tk' }) →
    wpAny (model Challenge.rw_ty0035_01.row.prog w) (callerA.deeper (envL L fa cd)) (execs (b ++ v.rest) (envL L fa cd)) v.Q v.E v.s
theorem stgB_of {w : World} {fa : Addr} {cd : Value} {L : Addr} {b : List Stmt} {m : Str → Option Value} {news : Led} {R : (Str → Option Value) → Led → Prop} (h : ∀ v, StgBAt w fa cd L b m news R v) : StgB w fa cd L b m news R :=
  fun mean mg mb base s rest Q E => h ⟨mean, mg, mb, base, s, rest, Q, E⟩
end
end
section
local macro_rules | `(tactic| cell_step) => `(tactic| (walk_at "s1"; walk_at "s2"; walk_at "t2"))
local macro_rules | `(tactic| walk_at "newList") => `(tactic| walk_at "t3")
local macro_rules | `(tactic| walk_at "newTuple") => `(tactic| walk_at "t4")
section
theorem mw_wd (a b c : Int) : mulM (mulM (1, a.fmod 3, 0, 1) (1, 0, b.fmod 7, 1)) (1, c.fmod 3, 0, 1) = mw (wd a b c) := by
  unfold wd
  rw [mw_app, mw_app, (mw_reps _).1, (mw_reps _).2, (mw_reps _).1, mul_assoc]
  have h1 := (m3 a).1
  have h2 := (m7' b).1
  have h3 := (m3 c).1
  rw [Int.toNat_of_nonneg h1, Int.toNat_of_nonneg h2, Int.toNat_of_nonneg h3]
theorem sm_run {x : Int} (h0 : 0 ≤ x) (h : x ≤ 6) : smallM (1, 0, x, 1) ∧ smallM (1, x, 0, 1) := by
  unfold smallM smallI
  have e : (2 : Int) ^ 60 = 1152921504606846976 := by decide
  rw [e]
  dsimp only
  omega
noncomputable abbrev nmF (Ds Dn : Addr) : List (Str × Value) := [(Str.ofString "squares", .ref Ds), (Str.ofString "numbers", .ref Dn)]
inductive PF1 (w : World) (P : LexP) (tot0 : Int) (L : Addr) (o2 o3 o5 o6 : Obj) (Y : Led) (ws : List (List Nat)) (m : Str → Option Value) (m' : Str → Option Value) (news' : Led) : Prop
  | mk (lx' : Led) (zh1 : m' = m) (zh2 : LexQ w P tot0 ws lx') (zh3 : news' = KC4 L o2 o3 o5 o6 (lx' ++ Y))
namespace VturnF1
noncomputable def At0 (w : World) (fa : Addr) (cd : Value) (L : Addr) (Ds : Addr) (Dw : Addr) (Dn : Addr) (m : Str → Option Value) (P : LexP) (tot0 : Int) (Y : Led) (o2 : Obj) (o3 : Obj) (o5 : Obj) (o6 : Obj) (ws : List (List Nat)) (wsv : List Value) (kw : Nat) (WS : List (List Nat)) (i : Nat) (ti : Tok) (x : List Nat) (zvv : StgV) : Prop := ∀ (f : Fix2 P L) (lx : Led) (e5 : o5.data = .cell (some (.ref Dw))) (e6 : o6.data = .cell (some (.ref P.X))) (hlx : LexQ w P tot0 ws lx) (hws : ws.length ≤ 10) (hY : ∀ p ∈ Y, p.1 ≠ P.PB) (hwv : TextsAre wsv WS) (hw3 : WS.length ≤ 10) (hDw : (Dw, W.listOf wsv.toArray kw) ∈ Y) (hx : WS[i]? = some x) (hM : Has m ((Str.ofString "k", .int (i : Int) ti) :: nmF Ds Dn)), StgBAt w fa cd L (blkS stF 0 1) m (KC4 L o2 o3 o5 o6 (lx ++ Y)) (PF1 w P tot0 L o2 o3 o5 o6 Y (ws ++ [x]) m) zvv
noncomputable def AtX (x : (World) × (Addr) × (Value) × (Addr) × (Addr) × (Addr) × (Addr) × (Str → Option Value) × (LexP) × (Int) × (Led) × (Obj) × (Obj) × (Obj) × (Obj) × (List (List Nat)) × (List Value) × (Nat) × (List (List Nat)) × (Nat) × (Tok) × (List Nat) × StgV) : Prop := At0 (x.1) (x.2.1) (x.2.2.1) (x.2.2.2.1) (x.2.2.2.2.1) (x.2.2.2.2.2.1) (x.2.2.2.2.2.2.1) (x.2.2.2.2.2.2.2.1) (x.2.2.2.2.2.2.2.2.1) (x.2.2.2.2.2.2.2.2.2.1) (x.2.2.2.2.2.2.2.2.2.2.1) (x.2.2.2.2.2.2.2.2.2.2.2.1) (x.2.2.2.2.2.2.2.2.2.2.2.2.1) (x.2.2.2.2.2.2.2.2.2.2.2.2.2.1) (x.2.2.2.2.2.2.2.2.2.2.2.2.2.2.1) (x.2.2.2.2.2.2.2.2.2.2.2.2.2.2.2.1) (x.2.2.2.2.2.2.2.2.2.2.2.2.2.2.2.2.1) (x.2.2.2.2.2.2.2.2.2.2.2.2.2.2.2.2.2.1) (x.2.2.2.2.2.2.2.2.2.2.2.2.2.2.2.2.2.2.1) (x.2.2.2.2.2.2.2.2.2.2.2.2.2.2.2.2.2.2.2.1) (x.2.2.2.2.2.2.2.2.2.2.2.2.2.2.2.2.2.2.2.2.1) (x.2.2.2.2.2.2.2.2.2.2.2.2.2.2.2.2.2.2.2.2.2.1) (x.2.2.2.2.2.2.2.2.2.2.2.2.2.2.2.2.2.2.2.2.2.2)
noncomputable def cc0 : (World) × (Addr) × (Value) × (Addr) × (Addr) × (Addr) × (Addr) × (Str → Option Value) × (LexP) × (Int) × (Led) × (Obj) × (Obj) × (Obj) × (Obj) × (List (List Nat)) × (List Value) × (Nat) × (List (List Nat)) × (Nat) × (Tok) × (List Nat) × StgV := eps1 (ne_prod ne_world (ne_prod ne_addr (ne_prod ne_value (ne_prod ne_addr (ne_prod ne_addr (ne_prod ne_addr (ne_prod ne_addr (ne_prod ne_par (ne_prod ne_lexp (ne_prod ne_int (ne_prod ne_led (ne_prod ne_obj (ne_prod ne_obj (ne_prod ne_obj (ne_prod ne_obj (ne_prod ne_list (ne_prod ne_list (ne_prod ne_nat (ne_prod ne_list (ne_prod ne_nat (ne_prod ne_tok (ne_prod ne_list stgV_ne)))))))))))))))))))))) AtX
noncomputable def w : World := cc0.1
noncomputable def fa : Addr := cc0.2.1
noncomputable def cd : Value := cc0.2.2.1
noncomputable def L : Addr := cc0.2.2.2.1
noncomputable def Ds : Addr := cc0.2.2.2.2.1
noncomputable def Dw : Addr := cc0.2.2.2.2.2.1
noncomputable def Dn : Addr := cc0.2.2.2.2.2.2.1
noncomputable def m : Str → Option Value := cc0.2.2.2.2.2.2.2.1
noncomputable def P : LexP := cc0.2.2.2.2.2.2.2.2.1
noncomputable def tot0 : Int := cc0.2.2.2.2.2.2.2.2.2.1
noncomputable def Y : Led := cc0.2.2.2.2.2.2.2.2.2.2.1
noncomputable def o2 : Obj := cc0.2.2.2.2.2.2.2.2.2.2.2.1
noncomputable def o3 : Obj := cc0.2.2.2.2.2.2.2.2.2.2.2.2.1
noncomputable def o5 : Obj := cc0.2.2.2.2.2.2.2.2.2.2.2.2.2.1
noncomputable def o6 : Obj := cc0.2.2.2.2.2.2.2.2.2.2.2.2.2.2.1
noncomputable def ws : List (List Nat) := cc0.2.2.2.2.2.2.2.2.2.2.2.2.2.2.2.1
noncomputable def wsv : List Value := cc0.2.2.2.2.2.2.2.2.2.2.2.2.2.2.2.2.1
noncomputable def kw : Nat := cc0.2.2.2.2.2.2.2.2.2.2.2.2.2.2.2.2.2.1
noncomputable def WS : List (List Nat) := cc0.2.2.2.2.2.2.2.2.2.2.2.2.2.2.2.2.2.2.1
noncomputable def i : Nat := cc0.2.2.2.2.2.2.2.2.2.2.2.2.2.2.2.2.2.2.2.1
noncomputable def ti : Tok := cc0.2.2.2.2.2.2.2.2.2.2.2.2.2.2.2.2.2.2.2.2.1
noncomputable def x : List Nat := cc0.2.2.2.2.2.2.2.2.2.2.2.2.2.2.2.2.2.2.2.2.2.1
noncomputable def v0 : StgV := cc0.2.2.2.2.2.2.2.2.2.2.2.2.2.2.2.2.2.2.2.2.2.2
theorem aux (f : Fix2 P L) (lx : Led) (e5 : o5.data = .cell (some (.ref Dw))) (e6 : o6.data = .cell (some (.ref P.X))) (hlx : LexQ w P tot0 ws lx) (hws : ws.length ≤ 10) (hY : ∀ p ∈ Y, p.1 ≠ P.PB) (hwv : TextsAre wsv WS) (hw3 : WS.length ≤ 10) (hDw : (Dw, W.listOf wsv.toArray kw) ∈ Y) (hx : WS[i]? = some x) (hM : Has m ((Str.ofString "k", .int (i : Int) ti) :: nmF Ds Dn)) :
  StgBAt w fa cd L (blkS stF 0 1) m (KC4 L o2 o3 o5 o6 (lx ++ Y)) (PF1 w P tot0 L o2 o3 o5 o6 Y (ws ++ [x]) m) v0 := by
  intro B' F X N T C1 C2 C3 hE hret
  have F0 := fr_all0 hM F
  clear F
  obtain ⟨tl, pb, pe, ep, hpb, rfl⟩ := hlx
  have hpbl := hpb.length
  obtain ⟨tx', htx⟩ := texts_at hwv hx
  have hi := (List.getElem?_eq_some_iff.mp htx).1
  have hwl := hwv.length
  have N1 := news_perm N (kc_front (A := LexL w P tot0 tl pb pe [] ep) (B := Y))
  clear N
  simp only [LexL, List.cons_append, List.nil_append] at N1
  (repeat' (first | (with_reducible refine if_ff ?_) | (with_reducible refine if_tt ?_) | (k_unfold; (try dsimp only)) | (k_end; wrow_close) | (cell_step; walk1) | (cell_step; dsimp only; walk1) | (leave1; walk_say "STEP leave1"; try dsimp only) | fail "no step"))
  refine PyProof.Rows.item_listL (News.isList N1 (by exact List.mem_append_right (LexL w P tot0 tl pb pe [] ep) (kc_in hDw))) (by omega) (by omega) (x := .str (tx x) tx') (by rw [show ((i : Nat) : Int).toNat = i from rfl]; exact htx) ?_
  (repeat' (first | (with_reducible refine if_ff ?_) | (with_reducible refine if_tt ?_) | (k_unfold; (try dsimp only)) | (k_end; wrow_close) | (cell_step; walk1) | (cell_step; dsimp only; walk1) | (leave1; walk_say "STEP leave1"; try dsimp only) | fail "no step"))
  (refine' tel_use ?tH ?tB ?tF ?tX ?tN ?tT ?tC1 ?tC2 ?tC3 ?tk ?td ?tu ?_; (case tB => k_asm); (case tF => k_asm); (case tX => k_asm); (case tN => k_asm); (case tT => k_asm); (case tC1 => assumption); (case tC2 => assumption); (case tC3 => assumption); (case tk => first | exact rfl | assumption); (case tH => exact (push w P f.O (KC4 L o2 o3 o5 o6 Y) tot0 tl (tx x) tx' pb pe [] ep (kc_PB f hY) (by omega))); (case td => ktr_room); (case tu => ktr_units))
  rintro v9 h9 tk9 news9 F9 N9 ⟨pe', rfl, rfl⟩
  (try dsimp only)
  (repeat' (first | (with_reducible refine if_ff ?_) | (with_reducible refine if_tt ?_) | (k_unfold; (try dsimp only)) | (k_end; wrow_close) | (cell_step; walk1) | (cell_step; dsimp only; walk1) | (leave1; walk_say "STEP leave1"; try dsimp only) | fail "no step"))
  rename Fr _ _ _ _ => F1
  rename News _ _ _ _ => N2
  rw [bindAll_eq hM] at F1
  exact hret _ _ _ _ F1 (news_perm N2 (kc_back (A := LexL w P tot0 tl (pb ++ [.str (tx x) tx']) pe' [] ep) (B := Y))) ⟨_, rfl, ⟨tl, _, pe', ep, hpb.append (.cons x tx' .nil), rfl⟩, rfl⟩
end VturnF1
theorem turnF1 (w : World) (fa : Addr) (cd : Value) (L Ds Dw Dn : Addr) (m : Str → Option Value) (P : LexP) (f : Fix2 P L) (tot0 : Int) (lx Y : Led) (o2 o3 o5 o6 : Obj) (e5 : o5.data = .cell (some (.ref Dw))) (e6 : o6.data = .cell (some (.ref P.X))) (ws : List (List Nat)) (hlx : LexQ w P tot0 ws lx) (hws : ws.length ≤ 10) (hY : ∀ p ∈ Y, p.1 ≠ P.PB)
   (wsv : List Value) (kw : Nat) (WS : List (List Nat)) (hwv : TextsAre wsv WS) (hw3 : WS.length ≤ 10) (hDw : (Dw, W.listOf wsv.toArray kw) ∈ Y) (i : Nat) (ti : Tok) (x : List Nat) (hx : WS[i]? = some x) (hM : Has m ((Str.ofString "k", .int (i : Int) ti) :: nmF Ds Dn)) :
  StgB w fa cd L (blkS stF 0 1) m (KC4 L o2 o3 o5 o6 (lx ++ Y)) (PF1 w P tot0 L o2 o3 o5 o6 Y (ws ++ [x]) m) := stgB_of fun zvv => (show VturnF1.At0 w fa cd L Ds Dw Dn m P tot0 Y o2 o3 o5 o6 ws wsv kw WS i ti x zvv from eps1_all (P := VturnF1.AtX) @VturnF1.aux (w, fa, cd, L, Ds, Dw, Dn, m, P, tot0, Y, o2, o3, o5, o6, ws, wsv, kw, WS, i, ti, x, zvv)) f lx e5 e6 hlx hws hY hwv hw3 hDw hx hM
inductive PF2 (L Ds Dn : Addr) (o2 o3 o5 o6 : Obj) (Y : Led) (p : Mat) (i : Nat) (ti : Tok) (m' : Str → Option Value) (news' : Led) : Prop
  | mk (S : Addr) (ta tb tc td : Tok) (zh1 : Has m' ((Str.ofString "square", .ref S) :: (Str.ofString "k", .int (i : Int) ti) :: nmF Ds Dn)) (zh2 : topA (KC4 L o2 o3 o5 o6 Y) ≤ S) (zh3 : news' = (S, tup4 p ta tb tc td) :: KC4 L o2 o3 o5 o6 Y)
namespace VturnF2
noncomputable def At0 (w : World) (fa : Addr) (cd : Value) (L : Addr) (Ds : Addr) (Dn : Addr) (m : Str → Option Value) (Y : Led) (o2 : Obj) (o3 : Obj) (o5 : Obj) (o6 : Obj) (nv : List Value) (kn : Nat) (ns : List Int) (i : Nat) (ti : Tok) (a : Int) (b : Int) (c : Int) (zvv : StgV) : Prop := ∀ (hnv : IntsAre nv ns) (hn9 : ns.length = 9) (hDn : (Dn, W.listOf nv.toArray kn) ∈ Y) (hi : i < 3) (ha : ns[3 * i]? = some a) (hb : ns[3 * i + 1]? = some b) (hc : ns[3 * i + 2]? = some c) (hM : Has m ((Str.ofString "k", .int (i : Int) ti) :: nmF Ds Dn)), StgBAt w fa cd L (blkS stF 1 3) m (KC4 L o2 o3 o5 o6 Y) (PF2 L Ds Dn o2 o3 o5 o6 Y (mw (wd a b c)) i ti) zvv
noncomputable def AtX (x : (World) × (Addr) × (Value) × (Addr) × (Addr) × (Addr) × (Str → Option Value) × (Led) × (Obj) × (Obj) × (Obj) × (Obj) × (List Value) × (Nat) × (List Int) × (Nat) × (Tok) × (Int) × (Int) × (Int) × StgV) : Prop := At0 (x.1) (x.2.1) (x.2.2.1) (x.2.2.2.1) (x.2.2.2.2.1) (x.2.2.2.2.2.1) (x.2.2.2.2.2.2.1) (x.2.2.2.2.2.2.2.1) (x.2.2.2.2.2.2.2.2.1) (x.2.2.2.2.2.2.2.2.2.1) (x.2.2.2.2.2.2.2.2.2.2.1) (x.2.2.2.2.2.2.2.2.2.2.2.1) (x.2.2.2.2.2.2.2.2.2.2.2.2.1) (x.2.2.2.2.2.2.2.2.2.2.2.2.2.1) (x.2.2.2.2.2.2.2.2.2.2.2.2.2.2.1) (x.2.2.2.2.2.2.2.2.2.2.2.2.2.2.2.1) (x.2.2.2.2.2.2.2.2.2.2.2.2.2.2.2.2.1) (x.2.2.2.2.2.2.2.2.2.2.2.2.2.2.2.2.2.1) (x.2.2.2.2.2.2.2.2.2.2.2.2.2.2.2.2.2.2.1) (x.2.2.2.2.2.2.2.2.2.2.2.2.2.2.2.2.2.2.2.1) (x.2.2.2.2.2.2.2.2.2.2.2.2.2.2.2.2.2.2.2.2)
noncomputable def cc0 : (World) × (Addr) × (Value) × (Addr) × (Addr) × (Addr) × (Str → Option Value) × (Led) × (Obj) × (Obj) × (Obj) × (Obj) × (List Value) × (Nat) × (List Int) × (Nat) × (Tok) × (Int) × (Int) × (Int) × StgV := eps1 (ne_prod ne_world (ne_prod ne_addr (ne_prod ne_value (ne_prod ne_addr (ne_prod ne_addr (ne_prod ne_addr (ne_prod ne_par (ne_prod ne_led (ne_prod ne_obj (ne_prod ne_obj (ne_prod ne_obj (ne_prod ne_obj (ne_prod ne_list (ne_prod ne_nat (ne_prod ne_list (ne_prod ne_nat (ne_prod ne_tok (ne_prod ne_int (ne_prod ne_int (ne_prod ne_int stgV_ne)))))))))))))))))))) AtX
noncomputable def w : World := cc0.1
noncomputable def fa : Addr := cc0.2.1
noncomputable def cd : Value := cc0.2.2.1
noncomputable def L : Addr := cc0.2.2.2.1
noncomputable def Ds : Addr := cc0.2.2.2.2.1
noncomputable def Dn : Addr := cc0.2.2.2.2.2.1
noncomputable def m : Str → Option Value := cc0.2.2.2.2.2.2.1
noncomputable def Y : Led := cc0.2.2.2.2.2.2.2.1
noncomputable def o2 : Obj := cc0.2.2.2.2.2.2.2.2.1
noncomputable def o3 : Obj := cc0.2.2.2.2.2.2.2.2.2.1
noncomputable def o5 : Obj := cc0.2.2.2.2.2.2.2.2.2.2.1
noncomputable def o6 : Obj := cc0.2.2.2.2.2.2.2.2.2.2.2.1
noncomputable def nv : List Value := cc0.2.2.2.2.2.2.2.2.2.2.2.2.1
noncomputable def kn : Nat := cc0.2.2.2.2.2.2.2.2.2.2.2.2.2.1
noncomputable def ns : List Int := cc0.2.2.2.2.2.2.2.2.2.2.2.2.2.2.1
noncomputable def i : Nat := cc0.2.2.2.2.2.2.2.2.2.2.2.2.2.2.2.1
noncomputable def ti : Tok := cc0.2.2.2.2.2.2.2.2.2.2.2.2.2.2.2.2.1
noncomputable def a : Int := cc0.2.2.2.2.2.2.2.2.2.2.2.2.2.2.2.2.2.1
noncomputable def b : Int := cc0.2.2.2.2.2.2.2.2.2.2.2.2.2.2.2.2.2.2.1
noncomputable def c : Int := cc0.2.2.2.2.2.2.2.2.2.2.2.2.2.2.2.2.2.2.2.1
noncomputable def v0 : StgV := cc0.2.2.2.2.2.2.2.2.2.2.2.2.2.2.2.2.2.2.2.2
theorem aux (hnv : IntsAre nv ns) (hn9 : ns.length = 9) (hDn : (Dn, W.listOf nv.toArray kn) ∈ Y) (hi : i < 3) (ha : ns[3 * i]? = some a) (hb : ns[3 * i + 1]? = some b) (hc : ns[3 * i + 2]? = some c) (hM : Has m ((Str.ofString "k", .int (i : Int) ti) :: nmF Ds Dn)) :
  StgBAt w fa cd L (blkS stF 1 3) m (KC4 L o2 o3 o5 o6 Y) (PF2 L Ds Dn o2 o3 o5 o6 Y (mw (wd a b c)) i ti) v0 := by
  intro B' F X N T C1 C2 C3 hE hret
  have F0 := fr_all0 hM F
  clear F
  obtain ⟨qa, ha'⟩ := ints_get1 hnv ha
  obtain ⟨qb, hb'⟩ := ints_get1 hnv hb
  obtain ⟨qc, hc'⟩ := ints_get1 hnv hc
  have hnl := hnv.length
  (repeat' (first | (with_reducible refine if_ff ?_) | (with_reducible refine if_tt ?_) | (k_unfold; (try dsimp only)) | (k_end; wrow_close) | (cell_step; walk1) | (cell_step; dsimp only; walk1) | (leave1; walk_say "STEP leave1"; try dsimp only) | fail "no step"))
  refine PyProof.Rows.item_listL (News.isList N (kc_in hDn)) (by omega) (by omega) (x := .int a qa) (by rw [show (3 * (i : Int)).toNat = 3 * i by omega]; exact ha') ?_
  (repeat' (first | (with_reducible refine if_ff ?_) | (with_reducible refine if_tt ?_) | (k_unfold; (try dsimp only)) | (k_end; wrow_close) | (cell_step; walk1) | (cell_step; dsimp only; walk1) | (leave1; walk_say "STEP leave1"; try dsimp only) | fail "no step"))
  rename Fr _ _ _ _ => F1
  rename News _ _ _ _ => N1
  refine PyProof.Rows.item_listL (News.isList N1 (.tail _ (kc_in hDn))) (by omega) (by omega) (x := .int b qb) (by rw [show (3 * (i : Int) + 1).toNat = 3 * i + 1 by omega]; exact hb') ?_
  (repeat' (first | (with_reducible refine if_ff ?_) | (with_reducible refine if_tt ?_) | (k_unfold; (try dsimp only)) | (k_end; wrow_close) | (cell_step; walk1) | (cell_step; dsimp only; walk1) | (leave1; walk_say "STEP leave1"; try dsimp only) | fail "no step"))
  have q3 := m3 a
  have q7 := m7' b
  have q3' := m3 c
  (refine' tel_use ?tH ?tB ?tF ?tX ?tN ?tT ?tC1 ?tC2 ?tC3 ?tk ?td ?tu ?_; (case tB => k_asm); (case tF => k_asm); (case tX => k_asm); (case tN => k_asm); (case tT => k_asm); (case tC1 => assumption); (case tC2 => assumption); (case tC3 => assumption); (case tk => first | exact rfl | assumption); (case tH => exact (times w (_ :: _ :: KC4 L o2 o3 o5 o6 Y) _ _ (1, a.fmod 3, 0, 1) (1, 0, b.fmod 7, 1) _ _ _ _ _ _ _ _ (.tail _ (.head _)) (.head _) (sm_run q7.1 q7.2).1)); (case td => ktr_room); (case tu => ktr_units))
  rintro v9 h9 tk9 news9 F9 N9 ⟨T9, ta9, tb9, tc9, td9, rfl, rfl, hT9⟩
  (try dsimp only)
  (repeat' (first | (with_reducible refine if_ff ?_) | (with_reducible refine if_tt ?_) | (k_unfold; (try dsimp only)) | (k_end; wrow_close) | (cell_step; walk1) | (cell_step; dsimp only; walk1) | (leave1; walk_say "STEP leave1"; try dsimp only) | fail "no step"))
  rename Fr _ _ _ _ => F2
  rename News _ _ _ _ => N2
  refine PyProof.Rows.item_listL (News.isList N2 (.tail _ (.tail _ (.tail _ (kc_in hDn))))) (by omega) (by omega) (x := .int c qc) (by rw [show (3 * (i : Int) + 2).toNat = 3 * i + 2 by omega]; exact hc') ?_
  (repeat' (first | (with_reducible refine if_ff ?_) | (with_reducible refine if_tt ?_) | (k_unfold; (try dsimp only)) | (k_end; wrow_close) | (cell_step; walk1) | (cell_step; dsimp only; walk1) | (leave1; walk_say "STEP leave1"; try dsimp only) | fail "no step"))
  (refine' tel_use ?tH ?tB ?tF ?tX ?tN ?tT ?tC1 ?tC2 ?tC3 ?tk ?td ?tu ?_; (case tB => k_asm); (case tF => k_asm); (case tX => k_asm); (case tN => k_asm); (case tT => k_asm); (case tC1 => assumption); (case tC2 => assumption); (case tC3 => assumption); (case tk => first | exact rfl | assumption); (case tH => exact (times w (_ :: _ :: _ :: _ :: KC4 L o2 o3 o5 o6 Y) _ _ (mulM (1, a.fmod 3, 0, 1) (1, 0, b.fmod 7, 1)) (1, c.fmod 3, 0, 1) _ _ _ _ _ _ _ _ (.tail _ (.head _)) (.head _) (sm_run q3'.1 (Int.le_trans q3'.2 (by decide))).2)); (case td => ktr_room); (case tu => ktr_units))
  rintro v8 h8 tk8 news8 F8 N8 ⟨T8, ta8, tb8, tc8, td8, rfl, rfl, hT8⟩
  (try dsimp only)
  (repeat' (first | (with_reducible refine if_ff ?_) | (with_reducible refine if_tt ?_) | (k_unfold; (try dsimp only)) | (k_end; wrow_close) | (cell_step; walk1) | (cell_step; dsimp only; walk1) | (leave1; walk_say "STEP leave1"; try dsimp only) | fail "no step"))
  rename Fr _ _ _ _ => F3
  rename News _ _ _ _ => N3
  rw [mw_wd] at N3
  refine hret _ _ _ _ F3 (news_skip2 (news_skip2 (news_skip2 (news_skip2 N3)))) ⟨T8, ta8, tb8, tc8, td8, ⟨rfl, rfl, rfl, rfl, trivial⟩, ?_, rfl⟩
  exact Nat.le_trans (top_sub fun p hp => .tail _ (.tail _ (.tail _ (.tail _ hp)))) hT8
end VturnF2
theorem turnF2 (w : World) (fa : Addr) (cd : Value) (L Ds Dn : Addr) (m : Str → Option Value) (Y : Led) (o2 o3 o5 o6 : Obj)
   (nv : List Value) (kn : Nat) (ns : List Int) (hnv : IntsAre nv ns) (hn9 : ns.length = 9) (hDn : (Dn, W.listOf nv.toArray kn) ∈ Y) (i : Nat) (hi : i < 3) (ti : Tok) (a b c : Int) (ha : ns[3 * i]? = some a) (hb : ns[3 * i + 1]? = some b) (hc : ns[3 * i + 2]? = some c) (hM : Has m ((Str.ofString "k", .int (i : Int) ti) :: nmF Ds Dn)) :
  StgB w fa cd L (blkS stF 1 3) m (KC4 L o2 o3 o5 o6 Y) (PF2 L Ds Dn o2 o3 o5 o6 Y (mw (wd a b c)) i ti) := stgB_of fun zvv => (show VturnF2.At0 w fa cd L Ds Dn m Y o2 o3 o5 o6 nv kn ns i ti a b c zvv from eps1_all (P := VturnF2.AtX) @VturnF2.aux (w, fa, cd, L, Ds, Dn, m, Y, o2, o3, o5, o6, nv, kn, ns, i, ti, a, b, c, zvv)) hnv hn9 hDn hi ha hb hc hM
end
section
inductive PTab (P : LexP) (L : Addr) (o2 o3 o5 o6 : Obj) (As : List Addr) (lx tb Z : Led) (m : Str → Option Value) (m' : Str → Option Value) (news' : Led) : Prop
  | mk (tb' : Led) (zh1 : m' = m) (zh2 : TbO As tb') (zh3 : Newer tb tb' (topA Z)) (zh4 : news' = KC4 L o2 o3 o5 o6 (lx ++ (tb' ++ Z)))
namespace VturnF3
noncomputable def At0 (w : World) (fa : Addr) (cd : Value) (L : Addr) (S : Addr) (Dw : Addr) (m : Str → Option Value) (P : LexP) (tot0 : Int) (lx : Led) (tb : Led) (Z : Led) (o2 : Obj) (o3 : Obj) (o5 : Obj) (o6 : Obj) (t2 : Tok) (t3 : Tok) (ws : List (List Nat)) (As : List Addr) (wsv : List Value) (kw : Nat) (WS : List (List Nat)) (i : Nat) (ti : Tok) (ta : Tok) (tb' : Tok) (tc : Tok) (td : Tok) (ps : List (Str × Value)) (zvv : StgV) : Prop := ∀ (f : Fix2 P L) (u : Nat) (v : Nat) (e2 : o2.data = .cell (some (.str (tx [u]) t2))) (e3 : o3.data = .cell (some (.str (tx [v]) t3))) (e5 : o5.data = .cell (some (.ref Dw))) (hlx : LexQ w P tot0 ws lx) (hZ : ZOk P Z) (htb : TbO As tb) (hA : ∀ a ∈ As, @LT.lt Nat _ a (topA Z)) (hwv : TextsAre wsv WS) (hw3 : WS.length ≤ 10) (hDw : (Dw, W.listOf wsv.toArray kw) ∈ Z) (x : List Bool) (hx : WS[i]? = some (sgn u v x)) (hxl : x.length ≤ 40) (hS : (S, tup4 (mw x) ta tb' tc td) ∈ Z) (hM : Has m ((Str.ofString "square", .ref S) :: (Str.ofString "k", .int (i : Int) ti) :: ps)), StgBAt w fa cd L (blkS stF 4 1) m (KC4 L o2 o3 o5 o6 (lx ++ (tb ++ Z))) (PTab P L o2 o3 o5 o6 As lx tb Z m) zvv
noncomputable def AtX (x : (World) × (Addr) × (Value) × (Addr) × (Addr) × (Addr) × (Str → Option Value) × (LexP) × (Int) × (Led) × (Led) × (Led) × (Obj) × (Obj) × (Obj) × (Obj) × (Tok) × (Tok) × (List (List Nat)) × (List Addr) × (List Value) × (Nat) × (List (List Nat)) × (Nat) × (Tok) × (Tok) × (Tok) × (Tok) × (Tok) × (List (Str × Value)) × StgV) : Prop := At0 (x.1) (x.2.1) (x.2.2.1) (x.2.2.2.1) (x.2.2.2.2.1) (x.2.2.2.2.2.1) (x.2.2.2.2.2.2.1) (x.2.2.2.2.2.2.2.1) (x.2.2.2.2.2.2.2.2.1) (x.2.2.2.2.2.2.2.2.2.1) (x.2.2.2.2.2.2.2.2.2.2.1) (x.2.2.2.2.2.2.2.2.2.2.2.1) (x.2.2.2.2.2.2.2.2.2.2.2.2.1) (x.2.2.2.2.2.2.2.2.2.2.2.2.2.1) (x.2.2.2.2.2.2.2.2.2.2.2.2.2.2.1) (x.2.2.2.2.2.2.2.2.2.2.2.2.2.2.2.1) (x.2.2.2.2.2.2.2.2.2.2.2.2.2.2.2.2.1) (x.2.2.2.2.2.2.2.2.2.2.2.2.2.2.2.2.2.1) (x.2.2.2.2.2.2.2.2.2.2.2.2.2.2.2.2.2.2.1) (x.2.2.2.2.2.2.2.2.2.2.2.2.2.2.2.2.2.2.2.1) (x.2.2.2.2.2.2.2.2.2.2.2.2.2.2.2.2.2.2.2.2.1) (x.2.2.2.2.2.2.2.2.2.2.2.2.2.2.2.2.2.2.2.2.2.1) (x.2.2.2.2.2.2.2.2.2.2.2.2.2.2.2.2.2.2.2.2.2.2.1) (x.2.2.2.2.2.2.2.2.2.2.2.2.2.2.2.2.2.2.2.2.2.2.2.1) (x.2.2.2.2.2.2.2.2.2.2.2.2.2.2.2.2.2.2.2.2.2.2.2.2.1) (x.2.2.2.2.2.2.2.2.2.2.2.2.2.2.2.2.2.2.2.2.2.2.2.2.2.1) (x.2.2.2.2.2.2.2.2.2.2.2.2.2.2.2.2.2.2.2.2.2.2.2.2.2.2.1) (x.2.2.2.2.2.2.2.2.2.2.2.2.2.2.2.2.2.2.2.2.2.2.2.2.2.2.2.1) (x.2.2.2.2.2.2.2.2.2.2.2.2.2.2.2.2.2.2.2.2.2.2.2.2.2.2.2.2.1) (x.2.2.2.2.2.2.2.2.2.2.2.2.2.2.2.2.2.2.2.2.2.2.2.2.2.2.2.2.2.1) (x.2.2.2.2.2.2.2.2.2.2.2.2.2.2.2.2.2.2.2.2.2.2.2.2.2.2.2.2.2.2)
noncomputable def cc0 : (World) × (Addr) × (Value) × (Addr) × (Addr) × (Addr) × (Str → Option Value) × (LexP) × (Int) × (Led) × (Led) × (Led) × (Obj) × (Obj) × (Obj) × (Obj) × (Tok) × (Tok) × (List (List Nat)) × (List Addr) × (List Value) × (Nat) × (List (List Nat)) × (Nat) × (Tok) × (Tok) × (Tok) × (Tok) × (Tok) × (List (Str × Value)) × StgV := eps1 (ne_prod ne_world (ne_prod ne_addr (ne_prod ne_value (ne_prod ne_addr (ne_prod ne_addr (ne_prod ne_addr (ne_prod ne_par (ne_prod ne_lexp (ne_prod ne_int (ne_prod ne_led (ne_prod ne_led (ne_prod ne_led (ne_prod ne_obj (ne_prod ne_obj (ne_prod ne_obj (ne_prod ne_obj (ne_prod ne_tok (ne_prod ne_tok (ne_prod ne_list (ne_prod ne_list (ne_prod ne_list (ne_prod ne_nat (ne_prod ne_list (ne_prod ne_nat (ne_prod ne_tok (ne_prod ne_tok (ne_prod ne_tok (ne_prod ne_tok (ne_prod ne_tok (ne_prod ne_list stgV_ne)))))))))))))))))))))))))))))) AtX
noncomputable def w : World := cc0.1
noncomputable def fa : Addr := cc0.2.1
noncomputable def cd : Value := cc0.2.2.1
noncomputable def L : Addr := cc0.2.2.2.1
noncomputable def S : Addr := cc0.2.2.2.2.1
noncomputable def Dw : Addr := cc0.2.2.2.2.2.1
noncomputable def m : Str → Option Value := cc0.2.2.2.2.2.2.1
noncomputable def P : LexP := cc0.2.2.2.2.2.2.2.1
noncomputable def tot0 : Int := cc0.2.2.2.2.2.2.2.2.1
noncomputable def lx : Led := cc0.2.2.2.2.2.2.2.2.2.1
noncomputable def tb : Led := cc0.2.2.2.2.2.2.2.2.2.2.1
noncomputable def Z : Led := cc0.2.2.2.2.2.2.2.2.2.2.2.1
noncomputable def o2 : Obj := cc0.2.2.2.2.2.2.2.2.2.2.2.2.1
noncomputable def o3 : Obj := cc0.2.2.2.2.2.2.2.2.2.2.2.2.2.1
noncomputable def o5 : Obj := cc0.2.2.2.2.2.2.2.2.2.2.2.2.2.2.1
noncomputable def o6 : Obj := cc0.2.2.2.2.2.2.2.2.2.2.2.2.2.2.2.1
noncomputable def t2 : Tok := cc0.2.2.2.2.2.2.2.2.2.2.2.2.2.2.2.2.1
noncomputable def t3 : Tok := cc0.2.2.2.2.2.2.2.2.2.2.2.2.2.2.2.2.2.1
noncomputable def ws : List (List Nat) := cc0.2.2.2.2.2.2.2.2.2.2.2.2.2.2.2.2.2.2.1
noncomputable def As : List Addr := cc0.2.2.2.2.2.2.2.2.2.2.2.2.2.2.2.2.2.2.2.1
noncomputable def wsv : List Value := cc0.2.2.2.2.2.2.2.2.2.2.2.2.2.2.2.2.2.2.2.2.1
noncomputable def kw : Nat := cc0.2.2.2.2.2.2.2.2.2.2.2.2.2.2.2.2.2.2.2.2.2.1
noncomputable def WS : List (List Nat) := cc0.2.2.2.2.2.2.2.2.2.2.2.2.2.2.2.2.2.2.2.2.2.2.1
noncomputable def i : Nat := cc0.2.2.2.2.2.2.2.2.2.2.2.2.2.2.2.2.2.2.2.2.2.2.2.1
noncomputable def ti : Tok := cc0.2.2.2.2.2.2.2.2.2.2.2.2.2.2.2.2.2.2.2.2.2.2.2.2.1
noncomputable def ta : Tok := cc0.2.2.2.2.2.2.2.2.2.2.2.2.2.2.2.2.2.2.2.2.2.2.2.2.2.1
noncomputable def tb' : Tok := cc0.2.2.2.2.2.2.2.2.2.2.2.2.2.2.2.2.2.2.2.2.2.2.2.2.2.2.1
noncomputable def tc : Tok := cc0.2.2.2.2.2.2.2.2.2.2.2.2.2.2.2.2.2.2.2.2.2.2.2.2.2.2.2.1
noncomputable def td : Tok := cc0.2.2.2.2.2.2.2.2.2.2.2.2.2.2.2.2.2.2.2.2.2.2.2.2.2.2.2.2.1
noncomputable def ps : List (Str × Value) := cc0.2.2.2.2.2.2.2.2.2.2.2.2.2.2.2.2.2.2.2.2.2.2.2.2.2.2.2.2.2.1
noncomputable def v0 : StgV := cc0.2.2.2.2.2.2.2.2.2.2.2.2.2.2.2.2.2.2.2.2.2.2.2.2.2.2.2.2.2.2
theorem aux (f : Fix2 P L) (u : Nat) (v : Nat) (e2 : o2.data = .cell (some (.str (tx [u]) t2))) (e3 : o3.data = .cell (some (.str (tx [v]) t3))) (e5 : o5.data = .cell (some (.ref Dw))) (hlx : LexQ w P tot0 ws lx) (hZ : ZOk P Z) (htb : TbO As tb) (hA : ∀ a ∈ As, @LT.lt Nat _ a (topA Z)) (hwv : TextsAre wsv WS) (hw3 : WS.length ≤ 10) (hDw : (Dw, W.listOf wsv.toArray kw) ∈ Z) (x : List Bool) (hx : WS[i]? = some (sgn u v x)) (hxl : x.length ≤ 40) (hS : (S, tup4 (mw x) ta tb' tc td) ∈ Z) (hM : Has m ((Str.ofString "square", .ref S) :: (Str.ofString "k", .int (i : Int) ti) :: ps)) :
  StgBAt w fa cd L (blkS stF 4 1) m (KC4 L o2 o3 o5 o6 (lx ++ (tb ++ Z))) (PTab P L o2 o3 o5 o6 As lx tb Z m) v0 := by
  intro B' F X N T C1 C2 C3 hE hret
  have hM2 : Has m [(Str.ofString "square", .ref S), (Str.ofString "k", .int (i : Int) ti)] := ⟨hM.1, hM.2.1, trivial⟩
  have F0 := fr_all0 hM2 F
  clear F
  obtain ⟨tx', htx⟩ := texts_at hwv hx
  have hi := (List.getElem?_eq_some_iff.mp htx).1
  have hwl := hwv.length
  have hsum := sum_lt hxl
  (repeat' (first | (with_reducible refine if_ff ?_) | (with_reducible refine if_tt ?_) | (k_unfold; (try dsimp only)) | (k_end; wrow_close) | (cell_step; walk1) | (cell_step; dsimp only; walk1) | (leave1; walk_say "STEP leave1"; try dsimp only) | fail "no step"))
  rename Fr _ _ _ _ => F1
  rename News _ _ _ _ => N1
  have N2 := news_perm N1 (kc_mid (A := lx) (B := tb) (C := Z))
  clear N1
  (refine' tel_use ?tH ?tB ?tF ?tX ?tN ?tT ?tC1 ?tC2 ?tC3 ?tk ?td ?tu ?_; (case tB => k_asm); (case tF => k_asm); (case tX => k_asm); (case tN => k_asm); (case tT => k_asm); (case tC1 => assumption); (case tC2 => assumption); (case tC3 => assumption); (case tk => first | exact rfl | assumption); (case tH => exact (word w tb (KC4 L o2 o3 o5 o6 (lx ++ Z)) S x u v _ _ _ _ _ _ (kc_in (List.mem_append_right _ hS)) (by omega) hsum.1 hsum.2 (kc_tab f hlx (by decide) hZ.z37) (kc_tab f hlx (by decide) hZ.z44) htb.1)); (case td => ktr_room); (case tu => ktr_units))
  rintro v9 h9 tk9 news9 F9 N9 ⟨t9, tb9, rfl, rfl, ht9, hn9⟩
  (try dsimp only)
  have N3 := news_perm N9 (kc_mid' (A := lx) (B := tb9) (C := Z))
  clear N9 N2
  (repeat' (first | (with_reducible refine if_ff ?_) | (with_reducible refine if_tt ?_) | (k_unfold; (try dsimp only)) | (k_end; wrow_close) | (cell_step; walk1) | (cell_step; dsimp only; walk1) | (leave1; walk_say "STEP leave1"; try dsimp only) | fail "no step"))
  rename Fr _ _ _ _ => F2
  rename News _ _ _ _ => N4
  refine PyProof.Rows.item_listL (News.isList N4 (kc_in (List.mem_append_right _ (List.mem_append_right _ hDw)))) (by omega) (by omega) (x := .str (tx (sgn u v x)) tx') (by rw [show ((i : Nat) : Int).toNat = i from rfl]; exact htx) ?_
  (repeat' (first | (with_reducible refine if_ff ?_) | (with_reducible refine if_tt ?_) | (k_unfold; (try dsimp only)) | (k_end; wrow_close) | (cell_step; walk1) | (cell_step; dsimp only; walk1) | (leave1; walk_say "STEP leave1"; try dsimp only) | fail "no step"))
  rename Fr _ _ _ _ => F3
  rename News _ _ _ _ => N5
  rw [bindAll_eq hM2] at F3
  exact hret _ _ _ _ F3 N5 ⟨tb9, rfl, htb.newer ht9 (newer_top hn9 fun p hp => kc_in (List.mem_append_right _ hp)) hA, newer_top hn9 fun p hp => kc_in (List.mem_append_right _ hp), rfl⟩
end VturnF3
theorem turnF3 (w : World) (fa : Addr) (cd : Value) (L S Dw : Addr) (m : Str → Option Value) (P : LexP) (f : Fix2 P L) (tot0 : Int) (lx tb Z : Led) (o2 o3 o5 o6 : Obj) (u v : Nat) (t2 t3 : Tok) (e2 : o2.data = .cell (some (.str (tx [u]) t2))) (e3 : o3.data = .cell (some (.str (tx [v]) t3))) (e5 : o5.data = .cell (some (.ref Dw))) (ws : List (List Nat)) (hlx : LexQ w P tot0 ws lx) (hZ : ZOk P Z)
   (As : List Addr) (htb : TbO As tb) (hA : ∀ a ∈ As, @LT.lt Nat _ a (topA Z))
   (wsv : List Value) (kw : Nat) (WS : List (List Nat)) (hwv : TextsAre wsv WS) (hw3 : WS.length ≤ 10) (hDw : (Dw, W.listOf wsv.toArray kw) ∈ Z) (i : Nat) (ti : Tok) (x : List Bool) (hx : WS[i]? = some (sgn u v x)) (hxl : x.length ≤ 40)
   (ta tb' tc td : Tok) (hS : (S, tup4 (mw x) ta tb' tc td) ∈ Z) (ps : List (Str × Value)) (hM : Has m ((Str.ofString "square", .ref S) :: (Str.ofString "k", .int (i : Int) ti) :: ps)) :
  StgB w fa cd L (blkS stF 4 1) m (KC4 L o2 o3 o5 o6 (lx ++ (tb ++ Z))) (PTab P L o2 o3 o5 o6 As lx tb Z m) := stgB_of fun zvv => (show VturnF3.At0 w fa cd L S Dw m P tot0 lx tb Z o2 o3 o5 o6 t2 t3 ws As wsv kw WS i ti ta tb' tc td ps zvv from eps1_all (P := VturnF3.AtX) @VturnF3.aux (w, fa, cd, L, S, Dw, m, P, tot0, lx, tb, Z, o2, o3, o5, o6, t2, t3, ws, As, wsv, kw, WS, i, ti, ta, tb', tc, td, ps, zvv)) f u v e2 e3 e5 hlx hZ htb hA hwv hw3 hDw x hx hxl hS hM
inductive PF4 (L Ds : Addr) (o2 o3 o5 o6 : Obj) (sqv : List Value) (S : Addr) (Y : Led) (m : Str → Option Value) (m' : Str → Option Value) (news' : Led) : Prop
  | mk (e' : Nat) (zh1 : m' = m) (zh2 : news' = (Ds, W.listOf (sqv ++ [Value.ref S]).toArray e') :: KC4 L o2 o3 o5 o6 Y)
namespace VturnF4
noncomputable def At0 (w : World) (fa : Addr) (cd : Value) (L : Addr) (S : Addr) (Ds : Addr) (m : Str → Option Value) (Y : Led) (o2 : Obj) (o3 : Obj) (o5 : Obj) (o6 : Obj) (sqv : List Value) (e : Nat) (ps : List (Str × Value)) (zvv : StgV) : Prop := ∀ (hsl : sqv.length ≤ 10) (hoff : ∀ p ∈ KC4 L o2 o3 o5 o6 Y, p.1 ≠ Ds) (hM : Has m ((Str.ofString "square", .ref S) :: (Str.ofString "squares", .ref Ds) :: ps)), StgBAt w fa cd L (blkS stF 5 1) m ((Ds, W.listOf sqv.toArray e) :: KC4 L o2 o3 o5 o6 Y) (PF4 L Ds o2 o3 o5 o6 sqv S Y m) zvv
noncomputable def AtX (x : (World) × (Addr) × (Value) × (Addr) × (Addr) × (Addr) × (Str → Option Value) × (Led) × (Obj) × (Obj) × (Obj) × (Obj) × (List Value) × (Nat) × (List (Str × Value)) × StgV) : Prop := At0 (x.1) (x.2.1) (x.2.2.1) (x.2.2.2.1) (x.2.2.2.2.1) (x.2.2.2.2.2.1) (x.2.2.2.2.2.2.1) (x.2.2.2.2.2.2.2.1) (x.2.2.2.2.2.2.2.2.1) (x.2.2.2.2.2.2.2.2.2.1) (x.2.2.2.2.2.2.2.2.2.2.1) (x.2.2.2.2.2.2.2.2.2.2.2.1) (x.2.2.2.2.2.2.2.2.2.2.2.2.1) (x.2.2.2.2.2.2.2.2.2.2.2.2.2.1) (x.2.2.2.2.2.2.2.2.2.2.2.2.2.2.1) (x.2.2.2.2.2.2.2.2.2.2.2.2.2.2.2)
noncomputable def cc0 : (World) × (Addr) × (Value) × (Addr) × (Addr) × (Addr) × (Str → Option Value) × (Led) × (Obj) × (Obj) × (Obj) × (Obj) × (List Value) × (Nat) × (List (Str × Value)) × StgV := eps1 (ne_prod ne_world (ne_prod ne_addr (ne_prod ne_value (ne_prod ne_addr (ne_prod ne_addr (ne_prod ne_addr (ne_prod ne_par (ne_prod ne_led (ne_prod ne_obj (ne_prod ne_obj (ne_prod ne_obj (ne_prod ne_obj (ne_prod ne_list (ne_prod ne_nat (ne_prod ne_list stgV_ne))))))))))))))) AtX
noncomputable def w : World := cc0.1
noncomputable def fa : Addr := cc0.2.1
noncomputable def cd : Value := cc0.2.2.1
noncomputable def L : Addr := cc0.2.2.2.1
noncomputable def S : Addr := cc0.2.2.2.2.1
noncomputable def Ds : Addr := cc0.2.2.2.2.2.1
noncomputable def m : Str → Option Value := cc0.2.2.2.2.2.2.1
noncomputable def Y : Led := cc0.2.2.2.2.2.2.2.1
noncomputable def o2 : Obj := cc0.2.2.2.2.2.2.2.2.1
noncomputable def o3 : Obj := cc0.2.2.2.2.2.2.2.2.2.1
noncomputable def o5 : Obj := cc0.2.2.2.2.2.2.2.2.2.2.1
noncomputable def o6 : Obj := cc0.2.2.2.2.2.2.2.2.2.2.2.1
noncomputable def sqv : List Value := cc0.2.2.2.2.2.2.2.2.2.2.2.2.1
noncomputable def e : Nat := cc0.2.2.2.2.2.2.2.2.2.2.2.2.2.1
noncomputable def ps : List (Str × Value) := cc0.2.2.2.2.2.2.2.2.2.2.2.2.2.2.1
noncomputable def v0 : StgV := cc0.2.2.2.2.2.2.2.2.2.2.2.2.2.2.2
theorem aux (hsl : sqv.length ≤ 10) (hoff : ∀ p ∈ KC4 L o2 o3 o5 o6 Y, p.1 ≠ Ds) (hM : Has m ((Str.ofString "square", .ref S) :: (Str.ofString "squares", .ref Ds) :: ps)) :
  StgBAt w fa cd L (blkS stF 5 1) m ((Ds, W.listOf sqv.toArray e) :: KC4 L o2 o3 o5 o6 Y) (PF4 L Ds o2 o3 o5 o6 sqv S Y m) v0 := by
  intro B' F X N T C1 C2 C3 hE hret
  have hM2 : Has m [(Str.ofString "square", .ref S), (Str.ofString "squares", .ref Ds)] := ⟨hM.1, hM.2.1, trivial⟩
  have F0 := fr_all0 hM2 F
  clear F
  (repeat' (first | (with_reducible refine if_ff ?_) | (with_reducible refine if_tt ?_) | (k_unfold; (try dsimp only)) | (k_end; wrow_close) | (cell_step; walk1) | (cell_step; dsimp only; walk1) | (leave1; walk_say "STEP leave1"; try dsimp only) | fail "no step"))
  rename Fr _ _ _ _ => F1
  rename News _ _ _ _ => N1
  k_dflt (refine' append_K F1 N1 (.head hoff) ?_ ?z; (case z => simp [sizeLine]; omega))
  intro h11 F11 N11
  (try dsimp only)
  simp only [List.push_toArray] at N11
  (repeat' (first | (with_reducible refine if_ff ?_) | (with_reducible refine if_tt ?_) | (k_unfold; (try dsimp only)) | (k_end; wrow_close) | (cell_step; walk1) | (cell_step; dsimp only; walk1) | (leave1; walk_say "STEP leave1"; try dsimp only) | fail "no step"))
  rename Fr _ _ _ _ => F3
  rename News _ _ _ _ => N5
  rw [bindAll_eq hM2] at F3
  exact hret _ _ _ _ F3 N5 ⟨_, rfl, rfl⟩
end VturnF4
theorem turnF4 (w : World) (fa : Addr) (cd : Value) (L S Ds : Addr) (m : Str → Option Value) (Y : Led) (o2 o3 o5 o6 : Obj) (sqv : List Value) (e : Nat) (hsl : sqv.length ≤ 10) (hoff : ∀ p ∈ KC4 L o2 o3 o5 o6 Y, p.1 ≠ Ds)
   (ps : List (Str × Value)) (hM : Has m ((Str.ofString "square", .ref S) :: (Str.ofString "squares", .ref Ds) :: ps)) :
  StgB w fa cd L (blkS stF 5 1) m ((Ds, W.listOf sqv.toArray e) :: KC4 L o2 o3 o5 o6 Y) (PF4 L Ds o2 o3 o5 o6 sqv S Y m) := stgB_of fun zvv => (show VturnF4.At0 w fa cd L S Ds m Y o2 o3 o5 o6 sqv e ps zvv from eps1_all (P := VturnF4.AtX) @VturnF4.aux (w, fa, cd, L, S, Ds, m, Y, o2, o3, o5, o6, sqv, e, ps, zvv)) hsl hoff hM
end
section
inductive PF (w : World) (P : LexP) (tot0 : Int) (L Ds Dn : Addr) (o2 o3 o5 o6 : Obj) (ws : List (List Nat)) (x : List Bool) (As : List Addr) (sqv : List Value) (Z : Led) (m' : Str → Option Value) (news' : Led) : Prop
  | mk (lx' tb' : Led) (S : Addr) (ta tb tc td : Tok) (e' : Nat) (zh1 : Has m' (nmF Ds Dn)) (zh2 : LexQ w P tot0 ws lx') (zh3 : TbO As tb') (zh4 : @LT.lt Nat _ Ds S ∧ ∀ p ∈ Z, @LT.lt Nat _ p.1 S) (zh5 : news' = KC4 L o2 o3 o5 o6 (lx' ++ (tb' ++ (Ds, W.listOf (sqv ++ [Value.ref S]).toArray e') :: (S, tup4 (mw x) ta tb tc td) :: Z)))
theorem turnF (w : World) (fa : Addr) (cd : Value) (L Ds Dw Dn : Addr) (m : Str → Option Value) (P : LexP) (f : Fix2 P L) (tot0 : Int) (lx tb Z : Led) (o2 o3 o5 o6 : Obj) (u v : Nat) (t2 t3 : Tok) (e2 : o2.data = .cell (some (.str (tx [u]) t2))) (e3 : o3.data = .cell (some (.str (tx [v]) t3))) (e5 : o5.data = .cell (some (.ref Dw))) (e6 : o6.data = .cell (some (.ref P.X))) (ws : List (List Nat)) (hlx : LexQ w P tot0 ws lx) (hws : ws.length ≤ 9) (hZ : ZOk P Z) (hPs : @LT.lt Nat _ P.PB Ds)
   (As : List Addr) (htb : TbO As tb) (hA : ∀ a ∈ As, @LT.lt Nat _ a (topA ((Ds, W.listOf #[] 0) :: Z))) (hP : P.PB ∈ As) (hDA : Ds ∈ As) (hZD : ∀ p ∈ Z, p.1 ≠ Ds)
   (wsv : List Value) (kw : Nat) (WS : List (List Nat)) (hwv : TextsAre wsv WS) (hw3 : WS.length ≤ 10) (hDw : (Dw, W.listOf wsv.toArray kw) ∈ Z)
   (nv : List Value) (kn : Nat) (ns : List Int) (hnv : IntsAre nv ns) (hn9 : ns.length = 9) (hDn : (Dn, W.listOf nv.toArray kn) ∈ Z) (i : Nat) (hi : i < 3) (ti : Tok) (a b c : Int) (ha : ns[3 * i]? = some a) (hb : ns[3 * i + 1]? = some b) (hc : ns[3 * i + 2]? = some c) (hx : WS[i]? = some (sgn u v (wd a b c)))
   (sqv : List Value) (e : Nat) (hsl : sqv.length ≤ 10) (hM : Has m ((Str.ofString "k", .int (i : Int) ti) :: nmF Ds Dn)) :
  StgB w fa cd L (blkS stF 0 6) m (KC4 L o2 o3 o5 o6 (lx ++ (tb ++ (Ds, W.listOf sqv.toArray e) :: Z))) (PF w P tot0 L Ds Dn o2 o3 o5 o6 (ws ++ [sgn u v (wd a b c)]) (wd a b c) As sqv Z) := by
  have hA2 : ∀ (o : Obj), ∀ a ∈ As, @LT.lt Nat _ a (topA ((Ds, o) :: Z)) := fun o a ha => by
    have := hA a ha
    rw [topA_cons] at this ⊢
    exact this
  have htbP : ∀ p ∈ tb, p.1 ≠ P.PB := fun p hp => htb.2 p hp _ hP
  rw [show (6 : Nat) = 1 + (3 + (1 + 1)) from rfl, blkS_add, blkS_add, blkS_add]
  refine StgB.seq (turnF1 w fa cd L Ds Dw Dn m P f tot0 lx (tb ++ (Ds, W.listOf sqv.toArray e) :: Z) o2 o3 o5 o6 e5 e6 ws hlx (by omega) ?k1 wsv kw WS hwv hw3 (List.mem_append_right _ (.tail _ hDw)) i ti (sgn u v (wd a b c)) hx hM) ?_
  case k1 =>
    intro p hp
    rcases List.mem_append.mp hp with hp | hp
    · exact htbP p hp
    rcases List.mem_cons.mp hp with rfl | hp
    · exact Nat.ne_of_gt hPs
    · exact hZ.zP p hp
  rintro m1 n1 ⟨lx1, rfl, hlx1, rfl⟩
  refine StgB.seq (turnF2 w fa cd L Ds Dn m1 (lx1 ++ (tb ++ (Ds, W.listOf sqv.toArray e) :: Z)) o2 o3 o5 o6 nv kn ns hnv hn9 (List.mem_append_right _ (List.mem_append_right _ (.tail _ hDn))) i hi ti a b c ha hb hc hM) ?_
  rintro m2 n2 ⟨S, ta, tb2, tc, td, hM2, hS, rfl⟩
  have hSZ : ∀ p ∈ (Ds, W.listOf sqv.toArray e) :: Z, @LT.lt Nat _ p.1 S := fun p hp => topA_lt hS p (kc_in (List.mem_append_right _ (List.mem_append_right _ hp)))
  have hZS : ZOk P ((S, tup4 (mw (wd a b c)) ta tb2 tc td) :: (Ds, W.listOf sqv.toArray e) :: Z) := (hZ.cons f hPs).cons f (Nat.lt_trans hPs (hSZ _ (.head _)))
  refine StgB.seq (StgB.perm (turnF3 w fa cd L S Dw m2 P f tot0 lx1 tb ((S, tup4 (mw (wd a b c)) ta tb2 tc td) :: (Ds, W.listOf sqv.toArray e) :: Z) o2 o3 o5 o6 u v t2 t3 e2 e3 e5 _ hlx1 hZS As htb ?k2 wsv kw WS hwv hw3 (.tail _ (.tail _ hDw)) i ti (wd a b c) hx (Nat.le_trans (wd_len a b c) (by decide)) ta tb2 tc td (.head _) _ hM2) kc_one) ?_
  case k2 =>
    intro a ha
    rw [topA_cons]
    exact Nat.lt_of_lt_of_le (hA2 _ a ha) (Nat.le_max_right _ _)
  rintro m3 n3 ⟨tb3, rfl, htb3, hn3, rfl⟩
  refine StgB.post (StgB.perm (turnF4 w fa cd L S Ds m3 (lx1 ++ (tb3 ++ (S, tup4 (mw (wd a b c)) ta tb2 tc td) :: Z)) o2 o3 o5 o6 sqv e hsl ?k3 [] ⟨hM2.1, hM2.2.2.1, trivial⟩) kc_two) ?_
  case k3 =>
    refine kc_new f hlx1 hPs fun p hp => ?_
    rcases List.mem_append.mp hp with hp | hp
    · exact htb3.2 p hp _ hDA
    rcases List.mem_cons.mp hp with rfl | hp
    · exact Nat.ne_of_gt (hSZ _ (.head _))
    · exact hZD p hp
  rintro m4 n4 ⟨e', rfl, rfl⟩
  exact ⟨_, kc_one, lx1, tb3, S, ta, tb2, tc, td, e', hM2.2.2, hlx1, htb3, ⟨hSZ _ (.head _), fun p hp => hSZ p (.tail _ hp)⟩, rfl⟩
end
section
theorem news_name {h₀ h : Heap} {L D : Addr} {o : Obj} {Y : Led} (N : News h₀ L h ((D, o) :: Y)) {Pp : Prop} (k : ∀ d, d = D → Pp) : Pp := k D rfl
theorem kc_three {L : Addr} {o2 o3 o5 o6 : Obj} {A B C : Led} {x y : Addr × Obj} : ∀ p ∈ KC4 L o2 o3 o5 o6 (A ++ (B ++ y :: x :: C)), p ∈ x :: KC4 L o2 o3 o5 o6 (A ++ (B ++ y :: C)) := by
  intro p hp
  simp only [List.mem_append, List.mem_cons] at hp ⊢
  rcases hp with h | h | h | h | h | h | h | h | h <;> simp only [h, true_or, or_true]
theorem kc_four {L : Addr} {o2 o3 o5 o6 : Obj} {A B C : Led} {x y z : Addr × Obj} : ∀ p ∈ x :: KC4 L o2 o3 o5 o6 (A ++ (B ++ y :: z :: C)), p ∈ KC4 L o2 o3 o5 o6 (A ++ (B ++ y :: z :: x :: C)) := by
  intro p hp
  simp only [List.mem_append, List.mem_cons] at hp ⊢
  rcases hp with h | h | h | h | h | h | h | h | h | h <;> simp only [h, true_or, or_true]
inductive FInv (w : World) (P : LexP) (tot0 : Int) (L Ds Dn I : Addr) (o2 o3 o5 o6 : Obj) (u v : Nat) (W0 : List (List Bool)) (Z : Led) (i : Nat) (m' : Str → Option Value) (nx : Led) : Prop
  | mk (lx tb TL : Led) (sqv : List Value) (e : Nat) (zh1 : Has m' (nmF Ds Dn)) (zh2 : LexQ w P tot0 ((W0.take i).map (sgn u v)) lx) (zh3 : TbO [P.PB, Ds, I] tb) (zh4 : SqIn sqv (W0.take i) TL) (zh5 : ∀ p ∈ TL, @LT.lt Nat _ I p.1) (zh6 : nx = KC4 L o2 o3 o5 o6 (lx ++ (tb ++ (Ds, W.listOf sqv.toArray e) :: (TL ++ Z))))
inductive P9 (w : World) (P : LexP) (tot0 : Int) (L Dn : Addr) (o2 o3 o5 o6 : Obj) (u v : Nat) (W0 : List (List Bool)) (Y : Led) (m' : Str → Option Value) (news' : Led) : Prop
  | mk (Ds : Addr) (lx tb TL : Led) (sqv : List Value) (e : Nat) (zh1 : Has m' (nmF Ds Dn)) (zh2 : LexQ w P tot0 (W0.map (sgn u v)) lx) (zh3 : TbO [P.PB] tb) (zh4 : SqIn sqv W0 TL) (zh5 : (∀ p ∈ TL, @LT.lt Nat _ Ds p.1) ∧ @LT.lt Nat _ P.PB Ds) (zh6 : news' = KC4 L o2 o3 o5 o6 (lx ++ (tb ++ (Ds, W.listOf sqv.toArray e) :: (TL ++ Y))))
namespace Vstage9
noncomputable def At0 (w : World) (fa : Addr) (cd : Value) (L : Addr) (Dw : Addr) (Dn : Addr) (m : Str → Option Value) (P : LexP) (tot0 : Int) (lx : Led) (tb : Led) (Z : Led) (o2 : Obj) (o3 : Obj) (o5 : Obj) (o6 : Obj) (u : Nat) (v : Nat) (t2 : Tok) (t3 : Tok) (W0 : List (List Bool)) (wsv : List Value) (kw : Nat) (nv : List Value) (kn : Nat) (ns : List Int) (zvv : StgV) : Prop := ∀ (f : Fix2 P L) (e2 : o2.data = .cell (some (.str (tx [u]) t2))) (e3 : o3.data = .cell (some (.str (tx [v]) t3))) (e5 : o5.data = .cell (some (.ref Dw))) (e6 : o6.data = .cell (some (.ref P.X))) (hlx : LexQ w P tot0 [] lx) (hZ : ZOk P Z) (htb : TbO [P.PB] tb) (hW3 : W0.length = 3) (hwv : TextsAre wsv (W0.map (sgn u v))) (hDw : (Dw, W.listOf wsv.toArray kw) ∈ Z) (hnv : IntsAre nv ns) (hn9 : ns.length = 9) (hDn : (Dn, W.listOf nv.toArray kn) ∈ Z) (hns : ∀ i < 3, ∃ a b c, ns[3 * i]? = some a ∧ ns[3 * i + 1]? = some b ∧ ns[3 * i + 2]? = some c ∧ W0[i]? = some (wd a b c)) (hm : m (Str.ofString "numbers") = some (.ref Dn)), StgBAt w fa cd L (blk 11 2) m (KC4 L o2 o3 o5 o6 (lx ++ (tb ++ Z))) (P9 w P tot0 L Dn o2 o3 o5 o6 u v W0 Z) zvv
noncomputable def AtX (x : (World) × (Addr) × (Value) × (Addr) × (Addr) × (Addr) × (Str → Option Value) × (LexP) × (Int) × (Led) × (Led) × (Led) × (Obj) × (Obj) × (Obj) × (Obj) × (Nat) × (Nat) × (Tok) × (Tok) × (List (List Bool)) × (List Value) × (Nat) × (List Value) × (Nat) × (List Int) × StgV) : Prop := At0 (x.1) (x.2.1) (x.2.2.1) (x.2.2.2.1) (x.2.2.2.2.1) (x.2.2.2.2.2.1) (x.2.2.2.2.2.2.1) (x.2.2.2.2.2.2.2.1) (x.2.2.2.2.2.2.2.2.1) (x.2.2.2.2.2.2.2.2.2.1) (x.2.2.2.2.2.2.2.2.2.2.1) (x.2.2.2.2.2.2.2.2.2.2.2.1) (x.2.2.2.2.2.2.2.2.2.2.2.2.1) (x.2.2.2.2.2.2.2.2.2.2.2.2.2.1) (x.2.2.2.2.2.2.2.2.2.2.2.2.2.2.1) (x.2.2.2.2.2.2.2.2.2.2.2.2.2.2.2.1) (x.2.2.2.2.2.2.2.2.2.2.2.2.2.2.2.2.1) (x.2.2.2.2.2.2.2.2.2.2.2.2.2.2.2.2.2.1) (x.2.2.2.2.2.2.2.2.2.2.2.2.2.2.2.2.2.2.1) (x.2.2.2.2.2.2.2.2.2.2.2.2.2.2.2.2.2.2.2.1) (x.2.2.2.2.2.2.2.2.2.2.2.2.2.2.2.2.2.2.2.2.1) (x.2.2.2.2.2.2.2.2.2.2.2.2.2.2.2.2.2.2.2.2.2.1) (x.2.2.2.2.2.2.2.2.2.2.2.2.2.2.2.2.2.2.2.2.2.2.1) (x.2.2.2.2.2.2.2.2.2.2.2.2.2.2.2.2.2.2.2.2.2.2.2.1) (x.2.2.2.2.2.2.2.2.2.2.2.2.2.2.2.2.2.2.2.2.2.2.2.2.1) (x.2.2.2.2.2.2.2.2.2.2.2.2.2.2.2.2.2.2.2.2.2.2.2.2.2.1) (x.2.2.2.2.2.2.2.2.2.2.2.2.2.2.2.2.2.2.2.2.2.2.2.2.2.2)
noncomputable def cc0 : (World) × (Addr) × (Value) × (Addr) × (Addr) × (Addr) × (Str → Option Value) × (LexP) × (Int) × (Led) × (Led) × (Led) × (Obj) × (Obj) × (Obj) × (Obj) × (Nat) × (Nat) × (Tok) × (Tok) × (List (List Bool)) × (List Value) × (Nat) × (List Value) × (Nat) × (List Int) × StgV := eps1 (ne_prod ne_world (ne_prod ne_addr (ne_prod ne_value (ne_prod ne_addr (ne_prod ne_addr (ne_prod ne_addr (ne_prod ne_par (ne_prod ne_lexp (ne_prod ne_int (ne_prod ne_led (ne_prod ne_led (ne_prod ne_led (ne_prod ne_obj (ne_prod ne_obj (ne_prod ne_obj (ne_prod ne_obj (ne_prod ne_nat (ne_prod ne_nat (ne_prod ne_tok (ne_prod ne_tok (ne_prod ne_list (ne_prod ne_list (ne_prod ne_nat (ne_prod ne_list (ne_prod ne_nat (ne_prod ne_list stgV_ne)))))))))))))))))))))))))) AtX
noncomputable def w : World := cc0.1
noncomputable def fa : Addr := cc0.2.1
noncomputable def cd : Value := cc0.2.2.1
noncomputable def L : Addr := cc0.2.2.2.1
noncomputable def Dw : Addr := cc0.2.2.2.2.1
noncomputable def Dn : Addr := cc0.2.2.2.2.2.1
noncomputable def m : Str → Option Value := cc0.2.2.2.2.2.2.1
noncomputable def P : LexP := cc0.2.2.2.2.2.2.2.1
noncomputable def tot0 : Int := cc0.2.2.2.2.2.2.2.2.1
noncomputable def lx : Led := cc0.2.2.2.2.2.2.2.2.2.1
noncomputable def tb : Led := cc0.2.2.2.2.2.2.2.2.2.2.1
noncomputable def Z : Led := cc0.2.2.2.2.2.2.2.2.2.2.2.1
noncomputable def o2 : Obj := cc0.2.2.2.2.2.2.2.2.2.2.2.2.1
noncomputable def o3 : Obj := cc0.2.2.2.2.2.2.2.2.2.2.2.2.2.1
noncomputable def o5 : Obj := cc0.2.2.2.2.2.2.2.2.2.2.2.2.2.2.1
noncomputable def o6 : Obj := cc0.2.2.2.2.2.2.2.2.2.2.2.2.2.2.2.1
noncomputable def u : Nat := cc0.2.2.2.2.2.2.2.2.2.2.2.2.2.2.2.2.1
noncomputable def v : Nat := cc0.2.2.2.2.2.2.2.2.2.2.2.2.2.2.2.2.2.1
noncomputable def t2 : Tok := cc0.2.2.2.2.2.2.2.2.2.2.2.2.2.2.2.2.2.2.1
noncomputable def t3 : Tok := cc0.2.2.2.2.2.2.2.2.2.2.2.2.2.2.2.2.2.2.2.1
noncomputable def W0 : List (List Bool) := cc0.2.2.2.2.2.2.2.2.2.2.2.2.2.2.2.2.2.2.2.2.1
noncomputable def wsv : List Value := cc0.2.2.2.2.2.2.2.2.2.2.2.2.2.2.2.2.2.2.2.2.2.1
noncomputable def kw : Nat := cc0.2.2.2.2.2.2.2.2.2.2.2.2.2.2.2.2.2.2.2.2.2.2.1
noncomputable def nv : List Value := cc0.2.2.2.2.2.2.2.2.2.2.2.2.2.2.2.2.2.2.2.2.2.2.2.1
noncomputable def kn : Nat := cc0.2.2.2.2.2.2.2.2.2.2.2.2.2.2.2.2.2.2.2.2.2.2.2.2.1
noncomputable def ns : List Int := cc0.2.2.2.2.2.2.2.2.2.2.2.2.2.2.2.2.2.2.2.2.2.2.2.2.2.1
noncomputable def v0 : StgV := cc0.2.2.2.2.2.2.2.2.2.2.2.2.2.2.2.2.2.2.2.2.2.2.2.2.2.2
noncomputable abbrev mean := v0.mean
noncomputable abbrev mg := v0.mg
noncomputable abbrev mb := v0.mb
noncomputable abbrev base := v0.base
noncomputable abbrev rest := v0.rest
noncomputable abbrev E := v0.E
theorem aux (f : Fix2 P L) (e2 : o2.data = .cell (some (.str (tx [u]) t2))) (e3 : o3.data = .cell (some (.str (tx [v]) t3))) (e5 : o5.data = .cell (some (.ref Dw))) (e6 : o6.data = .cell (some (.ref P.X))) (hlx : LexQ w P tot0 [] lx) (hZ : ZOk P Z) (htb : TbO [P.PB] tb) (hW3 : W0.length = 3) (hwv : TextsAre wsv (W0.map (sgn u v))) (hDw : (Dw, W.listOf wsv.toArray kw) ∈ Z) (hnv : IntsAre nv ns) (hn9 : ns.length = 9) (hDn : (Dn, W.listOf nv.toArray kn) ∈ Z) (hns : ∀ i < 3, ∃ a b c, ns[3 * i]? = some a ∧ ns[3 * i + 1]? = some b ∧ ns[3 * i + 2]? = some c ∧ W0[i]? = some (wd a b c)) (hm : m (Str.ofString "numbers") = some (.ref Dn)) :
  StgBAt w fa cd L (blk 11 2) m (KC4 L o2 o3 o5 o6 (lx ++ (tb ++ Z))) (P9 w P tot0 L Dn o2 o3 o5 o6 u v W0 Z) v0 := by
  intro B F X N T C1 C2 C3 hE hret
  have hnvK : True → IntsAre nv ns := fun _ => hnv
  have hM : Has m [(Str.ofString "numbers", .ref Dn)] := ⟨hm, trivial⟩
  have F0 := fr_all0 hM F
  clear F
  (repeat' (first | (with_reducible refine if_ff ?_) | (with_reducible refine if_tt ?_) | (k_unfold; (try dsimp only)) | (k_end; wrow_close) | (cell_step; walk1) | (cell_step; dsimp only; walk1) | (leave1; walk_say "STEP leave1"; try dsimp only) | fail "no step"))
  (rename Fr _ _ _ _ => lF')
  (with_unfolding_all refine' For_invVF (hE := hE) lF' ?k1 ?k2 ?_; (case k1 => exact rfl); (case k2 => exact rfl))
  (repeat' (first | (with_reducible refine if_ff ?_) | (with_reducible refine if_tt ?_) | (k_unfold; (try dsimp only)) | (k_end; wrow_close) | (cell_step; walk1) | (cell_step; dsimp only; walk1) | (leave1; walk_say "STEP leave1"; try dsimp only) | fail "no step"))
  rename Fr _ _ _ _ => F1
  rename News _ _ _ _ => N1
  refine news_name N1 fun Ds hDs => ?_
  subst hDs
  rename (_ ∧ _ ∧ _ ∧ _ ∧ _) => l1
  obtain ⟨_, _, _, _, llx, ltb, lZ⟩ := l1
  obtain ⟨oP, hoP⟩ := lexQ_PB hlx
  have hPs : @LT.lt Nat _ P.PB Ds := topA_lt llx _ hoP
  have hZs : ∀ p ∈ Z, @LT.lt Nat _ p.1 Ds := topA_lt lZ
  have N2 : News base L _ (KC4 L o2 o3 o5 o6 (lx ++ (tb ++ (Ds, W.listOf ([] : List Value).toArray 0) :: ([] ++ Z)))) := news_perm N1 kc_one
  clear N1
  refine' iter_rangeUnr (n := 3) rfl (by assumption) (by rfl) (by rfl) F1 N2 ?rest
  case rest =>
  intro I hI
  have hDI : @LT.lt Nat _ Ds I := hI _ (kc_in (List.mem_append_right _ (List.mem_append_right _ (.head _))))
  have hPI : @LT.lt Nat _ P.PB I := Nat.lt_trans hPs hDI
  refine rangeRest_indR (FInv w P tot0 L Ds Dn I o2 o3 o5 o6 u v W0 Z) ?zero ?succ _ _ _ _ (by omega) ?init
  case init =>
    refine ⟨lx, tb, [], [], 0, ⟨rfl, rfl, trivial⟩, hlx, ⟨htb.1, fun p hp a ha => ?_⟩, ⟨rfl, fun i x hx => by simp at hx⟩, (fun p hp => nomatch hp), rfl⟩
    rcases List.mem_cons.mp ha with rfl | ha
    · exact htb.2 p hp _ (.head _)
    rcases List.mem_cons.mp ha with rfl | ha
    · exact Nat.ne_of_lt (topA_lt ltb p hp)
    · rw [List.mem_singleton.mp ha]
      exact Nat.ne_of_lt (Nat.lt_trans (topA_lt ltb p hp) hDI)
  case zero =>
    rintro i m' nx ⟨lx', tb', TL, sqv, e, hM', hlx', htb', hsq, hTL, rfl⟩ hi6 h6 tk6 F6 N6
    subst hi6
    rw [List.take_of_length_le (by rw [hW3]; exact Nat.le_refl 3)] at hlx' hsq
    (try dsimp only)
    (repeat' (first | (with_reducible refine if_ff ?_) | (with_reducible refine if_tt ?_) | (k_unfold; (try dsimp only)) | (k_end; wrow_close) | (cell_step; walk1) | (cell_step; dsimp only; walk1) | (leave1; walk_say "STEP leave1"; try dsimp only) | fail "no step"))
    exact hret _ _ _ _ F6 N6 ⟨Ds, lx', tb', TL, sqv, e, hM', hlx', ⟨htb'.1, fun p hp a ha => htb'.2 p hp a (by rw [List.mem_singleton.mp ha]; exact .head _)⟩, hsq, ⟨fun p hp => Nat.lt_trans hDI (hTL p hp), hPs⟩, rfl⟩
  case succ =>
    rintro i m' nx ⟨lx', tb', TL, sqv, e, hM', hlx', htb', hsq, hTL, rfl⟩ hi6 tv h6 tk6 F6 N6 R9 hR9
    have hsl : sqv.length ≤ 3 := by rw [hsq.1, List.length_take]; omega
    obtain ⟨a, b, c, ha, hb, hc, hx⟩ := hns i hi6
    have N7 := news_perm N6 kc_three
    clear N6 N2
    have hTZ : ∀ p ∈ TL ++ Z, p.1 ≠ I := fun p hp => by
      rcases List.mem_append.mp hp with hp | hp
      · exact Nat.ne_of_gt (hTL p hp)
      · exact Nat.ne_of_lt (Nat.lt_trans (hZs p hp) hDI)
    have hZT : ∀ (a : Nat), @LT.lt Nat _ a I → (∀ p ∈ Z, p.1 ≠ a) → ∀ p ∈ (I, itR (0 + ((i + 1 : Nat) : Int)) (((3 : Nat) : Int) - ((i + 1 : Nat) : Int))) :: (TL ++ Z), p.1 ≠ a := fun a ha hz p hp => by
      rcases List.mem_cons.mp hp with rfl | hp
      · exact Nat.ne_of_gt ha
      rcases List.mem_append.mp hp with hp | hp
      · exact Nat.ne_of_gt (Nat.lt_trans ha (hTL p hp))
      · exact hz p hp
    have hZ9 : ZOk P ((I, itR (0 + ((i + 1 : Nat) : Int)) (((3 : Nat) : Int) - ((i + 1 : Nat) : Int))) :: (TL ++ Z)) := ⟨hZT _ hPI hZ.zP, hZT _ (Nat.lt_trans (by decide : 37 < 44) (Nat.lt_trans f.P44 hPI)) hZ.z37, hZT _ (Nat.lt_trans f.P44 hPI) hZ.z44⟩
    rw [Int.zero_add] at F6
    with_unfolding_all refine turnF w fa cd L Ds Dw Dn (fun y => if y = Str.ofString "k" then some (.int (i : Int) tv) else m' y) P f tot0 lx' tb' ((I, itR (0 + ((i + 1 : Nat) : Int)) (((3 : Nat) : Int) - ((i + 1 : Nat) : Int))) :: (TL ++ Z)) o2 o3 o5 o6 u v t2 t3 e2 e3 e5 e6 _ hlx' (by rw [List.length_map, List.length_take]; omega) hZ9 hPs [P.PB, Ds, I] htb' ?hA (.head _) (.tail _ (.head _)) (hZT _ hDI fun p hp => Nat.ne_of_lt (hZs p hp)) wsv kw _ hwv (by rw [List.length_map, hW3]; decide) (.tail _ (List.mem_append_right _ hDw)) nv kn ns (hnvK trivial) hn9 (.tail _ (List.mem_append_right _ hDn)) i hi6 tv a b c ha hb hc ?hx sqv e (by omega) ⟨rfl, hM'.1, hM'.2.1, trivial⟩ mean mg mb base _ [] _ E B F6 X N7 T C1 C2 C3 hE ?hr
    case hA =>
      intro a ha
      have h1 : @LT.lt Nat _ I (topA ((Ds, W.listOf #[] 0) :: (I, itR (0 + ((i + 1 : Nat) : Int)) (((3 : Nat) : Int) - ((i + 1 : Nat) : Int))) :: (TL ++ Z))) := by
        rw [topA_cons, topA_cons]
        exact Nat.lt_of_lt_of_le (Nat.lt_succ_self I) (Nat.le_trans (Nat.le_max_left _ _) (Nat.le_max_right _ _))
      rcases List.mem_cons.mp ha with rfl | ha
      · exact Nat.lt_trans hPI h1
      rcases List.mem_cons.mp ha with rfl | ha
      · exact Nat.lt_trans hDI h1
      · rw [List.mem_singleton.mp ha]; exact h1
    case hx => rw [List.getElem?_map, hx]; rfl
    case hr =>
      rintro h8 tk8 m8 n8 F8 N8 ⟨lx8, tb8, S, ta, tc, td, te, e8, hM8, hlx8, htb8, hS8, rfl⟩
      have N9 := news_perm N8 kc_four
      have hSI : @LT.lt Nat _ I S := hS8.2 _ (.head _)
      refine wpAny_execs_nil ?_
      refine hR9 _ _ ?_
      show UnrEnd _ _ _ _ _ _ _
      have e9 : (W0.take i).map (sgn u v) ++ [sgn u v (wd a b c)] = (W0.take (i + 1)).map (sgn u v) := by rw [List.take_add_one, hx, List.map_append]; rfl
      rw [e9] at hlx8
      refine UnrEnd.intro F8 N9 (KC4 L o2 o3 o5 o6 (lx8 ++ (tb8 ++ (Ds, W.listOf (sqv ++ [Value.ref S]).toArray e8) :: (((S, tup4 (mw (wd a b c)) ta tc td te) :: TL) ++ Z)))) (fun p hp => hp) (kc_new f hlx8 hPI fun p hp => ?_) ⟨lx8, tb8, _, _, _, ⟨hM8.1, hM8.2.1, trivial⟩, hlx8, htb8, ?_, ?_, rfl⟩
      · rcases List.mem_append.mp hp with hp | hp
        · exact htb8.2 p hp _ (.tail _ (.tail _ (.head _)))
        rcases List.mem_cons.mp hp with rfl | hp
        · exact Nat.ne_of_lt hDI
        rcases List.mem_cons.mp hp with rfl | hp
        · exact Nat.ne_of_gt hSI
        · exact hTZ p hp
      · rw [List.take_add_one, hx]
        exact hsq.snoc _ S ta tc td te
      · intro p hp
        rcases List.mem_cons.mp hp with rfl | hp
        · exact hSI
        · exact hTL p hp
end Vstage9
theorem stage9 (w : World) (fa : Addr) (cd : Value) (L Dw Dn : Addr) (m : Str → Option Value) (P : LexP) (f : Fix2 P L) (tot0 : Int) (lx tb Z : Led) (o2 o3 o5 o6 : Obj) (u v : Nat) (t2 t3 : Tok) (e2 : o2.data = .cell (some (.str (tx [u]) t2))) (e3 : o3.data = .cell (some (.str (tx [v]) t3))) (e5 : o5.data = .cell (some (.ref Dw))) (e6 : o6.data = .cell (some (.ref P.X))) (hlx : LexQ w P tot0 [] lx) (hZ : ZOk P Z)
   (htb : TbO [P.PB] tb) (W0 : List (List Bool)) (hW3 : W0.length = 3)
   (wsv : List Value) (kw : Nat) (hwv : TextsAre wsv (W0.map (sgn u v))) (hDw : (Dw, W.listOf wsv.toArray kw) ∈ Z)
   (nv : List Value) (kn : Nat) (ns : List Int) (hnv : IntsAre nv ns) (hn9 : ns.length = 9) (hDn : (Dn, W.listOf nv.toArray kn) ∈ Z) (hns : ∀ i < 3, ∃ a b c, ns[3 * i]? = some a ∧ ns[3 * i + 1]? = some b ∧ ns[3 * i + 2]? = some c ∧ W0[i]? = some (wd a b c))
   (hm : m (Str.ofString "numbers") = some (.ref Dn)) :
  StgB w fa cd L (blk 11 2) m (KC4 L o2 o3 o5 o6 (lx ++ (tb ++ Z))) (P9 w P tot0 L Dn o2 o3 o5 o6 u v W0 Z) := stgB_of fun zvv => (show Vstage9.At0 w fa cd L Dw Dn m P tot0 lx tb Z o2 o3 o5 o6 u v t2 t3 W0 wsv kw nv kn ns zvv from eps1_all (P := Vstage9.AtX) @Vstage9.aux (w, fa, cd, L, Dw, Dn, m, P, tot0, lx, tb, Z, o2, o3, o5, o6, u, v, t2, t3, W0, wsv, kw, nv, kn, ns, zvv)) f e2 e3 e5 e6 hlx hZ htb hW3 hwv hDw hnv hn9 hDn hns hm
end
section
noncomputable abbrev rowO (y : List Nat) (t : Tok) (S : Addr) : Obj := { cls := .type "tuple", data := .seq #[.str (tx y) t, .ref S] }
noncomputable def RowIn (u v : Nat) (rv : List Value) (Y : List (List Bool)) (Z : Led) : Prop := rv.length = Y.length ∧ ∀ (i : Nat) (y : List Bool), Y[i]? = some y → ∃ T S t ta tb tc td, rv[i]? = some (.ref T) ∧ (T, rowO (sgn u v y) t S) ∈ Z ∧ (S, tup4 (mw y) ta tb tc td) ∈ Z
inductive P13 (P : LexP) (L Ds : Addr) (o2 o3 o5 o6 : Obj) (u v : Nat) (x0 x1 x2 : List Bool) (lx tb Z : Led) (m' : Str → Option Value) (news' : Led) : Prop
  | mk (Dr : Addr) (rv : List Value) (er : Nat) (RT : Led) (zh1 : Has m' [(Str.ofString "squares", .ref Ds), (Str.ofString "rows", .ref Dr)]) (zh2 : RowIn u v rv [x1, x0 ++ x1, x2 ++ (x0 ++ x1)] (RT ++ Z)) (zh3 : ∀ p ∈ (Dr, W.listOf rv.toArray er) :: RT, @LT.lt Nat _ P.PB p.1) (zh4 : news' = KC4 L o2 o3 o5 o6 (lx ++ (tb ++ (Dr, W.listOf rv.toArray er) :: (RT ++ Z))))
namespace Vstage13
noncomputable def At0 (w : World) (fa : Addr) (cd : Value) (L : Addr) (Ds : Addr) (Dw : Addr) (Dn : Addr) (m : Str → Option Value) (P : LexP) (tot0 : Int) (lx : Led) (tb : Led) (Z : Led) (o2 : Obj) (o3 : Obj) (o5 : Obj) (o6 : Obj) (ws : List (List Nat)) (wsv : List Value) (kw : Nat) (sqv : List Value) (es : Nat) (zvv : StgV) : Prop := ∀ (f : Fix2 P L) (u : Nat) (v : Nat) (e5 : o5.data = .cell (some (.ref Dw))) (hlx : LexQ w P tot0 ws lx) (x0 : List Bool) (x1 : List Bool) (x2 : List Bool) (h0 : x0.length ≤ 10) (h1 : x1.length ≤ 10) (h2 : x2.length ≤ 10) (hwv : TextsAre wsv [sgn u v x0, sgn u v x1, sgn u v x2]) (hDw : (Dw, W.listOf wsv.toArray kw) ∈ Z) (hsq : SqIn sqv [x0, x1, x2] Z) (hDs : (Ds, W.listOf sqv.toArray es) ∈ Z) (hM : Has m (nmF Ds Dn)), StgBAt w fa cd L (blk 13 2) m (KC4 L o2 o3 o5 o6 (lx ++ (tb ++ Z))) (P13 P L Ds o2 o3 o5 o6 u v x0 x1 x2 lx tb Z) zvv
noncomputable def AtX (x : (World) × (Addr) × (Value) × (Addr) × (Addr) × (Addr) × (Addr) × (Str → Option Value) × (LexP) × (Int) × (Led) × (Led) × (Led) × (Obj) × (Obj) × (Obj) × (Obj) × (List (List Nat)) × (List Value) × (Nat) × (List Value) × (Nat) × StgV) : Prop := At0 (x.1) (x.2.1) (x.2.2.1) (x.2.2.2.1) (x.2.2.2.2.1) (x.2.2.2.2.2.1) (x.2.2.2.2.2.2.1) (x.2.2.2.2.2.2.2.1) (x.2.2.2.2.2.2.2.2.1) (x.2.2.2.2.2.2.2.2.2.1) (x.2.2.2.2.2.2.2.2.2.2.1) (x.2.2.2.2.2.2.2.2.2.2.2.1) (x.2.2.2.2.2.2.2.2.2.2.2.2.1) (x.2.2.2.2.2.2.2.2.2.2.2.2.2.1) (x.2.2.2.2.2.2.2.2.2.2.2.2.2.2.1) (x.2.2.2.2.2.2.2.2.2.2.2.2.2.2.2.1) (x.2.2.2.2.2.2.2.2.2.2.2.2.2.2.2.2.1) (x.2.2.2.2.2.2.2.2.2.2.2.2.2.2.2.2.2.1) (x.2.2.2.2.2.2.2.2.2.2.2.2.2.2.2.2.2.2.1) (x.2.2.2.2.2.2.2.2.2.2.2.2.2.2.2.2.2.2.2.1) (x.2.2.2.2.2.2.2.2.2.2.2.2.2.2.2.2.2.2.2.2.1) (x.2.2.2.2.2.2.2.2.2.2.2.2.2.2.2.2.2.2.2.2.2.1) (x.2.2.2.2.2.2.2.2.2.2.2.2.2.2.2.2.2.2.2.2.2.2)
noncomputable def cc0 : (World) × (Addr) × (Value) × (Addr) × (Addr) × (Addr) × (Addr) × (Str → Option Value) × (LexP) × (Int) × (Led) × (Led) × (Led) × (Obj) × (Obj) × (Obj) × (Obj) × (List (List Nat)) × (List Value) × (Nat) × (List Value) × (Nat) × StgV := eps1 (ne_prod ne_world (ne_prod ne_addr (ne_prod ne_value (ne_prod ne_addr (ne_prod ne_addr (ne_prod ne_addr (ne_prod ne_addr (ne_prod ne_par (ne_prod ne_lexp (ne_prod ne_int (ne_prod ne_led (ne_prod ne_led (ne_prod ne_led (ne_prod ne_obj (ne_prod ne_obj (ne_prod ne_obj (ne_prod ne_obj (ne_prod ne_list (ne_prod ne_list (ne_prod ne_nat (ne_prod ne_list (ne_prod ne_nat stgV_ne)))))))))))))))))))))) AtX
noncomputable def w : World := cc0.1
noncomputable def fa : Addr := cc0.2.1
noncomputable def cd : Value := cc0.2.2.1
noncomputable def L : Addr := cc0.2.2.2.1
noncomputable def Ds : Addr := cc0.2.2.2.2.1
noncomputable def Dw : Addr := cc0.2.2.2.2.2.1
noncomputable def Dn : Addr := cc0.2.2.2.2.2.2.1
noncomputable def m : Str → Option Value := cc0.2.2.2.2.2.2.2.1
noncomputable def P : LexP := cc0.2.2.2.2.2.2.2.2.1
noncomputable def tot0 : Int := cc0.2.2.2.2.2.2.2.2.2.1
noncomputable def lx : Led := cc0.2.2.2.2.2.2.2.2.2.2.1
noncomputable def tb : Led := cc0.2.2.2.2.2.2.2.2.2.2.2.1
noncomputable def Z : Led := cc0.2.2.2.2.2.2.2.2.2.2.2.2.1
noncomputable def o2 : Obj := cc0.2.2.2.2.2.2.2.2.2.2.2.2.2.1
noncomputable def o3 : Obj := cc0.2.2.2.2.2.2.2.2.2.2.2.2.2.2.1
noncomputable def o5 : Obj := cc0.2.2.2.2.2.2.2.2.2.2.2.2.2.2.2.1
noncomputable def o6 : Obj := cc0.2.2.2.2.2.2.2.2.2.2.2.2.2.2.2.2.1
noncomputable def ws : List (List Nat) := cc0.2.2.2.2.2.2.2.2.2.2.2.2.2.2.2.2.2.1
noncomputable def wsv : List Value := cc0.2.2.2.2.2.2.2.2.2.2.2.2.2.2.2.2.2.2.1
noncomputable def kw : Nat := cc0.2.2.2.2.2.2.2.2.2.2.2.2.2.2.2.2.2.2.2.1
noncomputable def sqv : List Value := cc0.2.2.2.2.2.2.2.2.2.2.2.2.2.2.2.2.2.2.2.2.1
noncomputable def es : Nat := cc0.2.2.2.2.2.2.2.2.2.2.2.2.2.2.2.2.2.2.2.2.2.1
noncomputable def v0 : StgV := cc0.2.2.2.2.2.2.2.2.2.2.2.2.2.2.2.2.2.2.2.2.2.2
theorem aux (f : Fix2 P L) (u : Nat) (v : Nat) (e5 : o5.data = .cell (some (.ref Dw))) (hlx : LexQ w P tot0 ws lx) (x0 : List Bool) (x1 : List Bool) (x2 : List Bool) (h0 : x0.length ≤ 10) (h1 : x1.length ≤ 10) (h2 : x2.length ≤ 10) (hwv : TextsAre wsv [sgn u v x0, sgn u v x1, sgn u v x2]) (hDw : (Dw, W.listOf wsv.toArray kw) ∈ Z) (hsq : SqIn sqv [x0, x1, x2] Z) (hDs : (Ds, W.listOf sqv.toArray es) ∈ Z) (hM : Has m (nmF Ds Dn)) :
  StgBAt w fa cd L (blk 13 2) m (KC4 L o2 o3 o5 o6 (lx ++ (tb ++ Z))) (P13 P L Ds o2 o3 o5 o6 u v x0 x1 x2 lx tb Z) v0 := by
  intro B F X N T C1 C2 C3 hE hret
  have F0 := fr_all0 hM F
  clear F
  obtain ⟨S0, a0, b0, c0, d0, q0, z0⟩ := hsq.2 0 x0 rfl
  obtain ⟨S1, a1, b1, c1, d1, q1, z1⟩ := hsq.2 1 x1 rfl
  obtain ⟨S2, a2, b2, c2, d2, q2, z2⟩ := hsq.2 2 x2 rfl
  have hsl := hsq.1
  have hwl := hwv.length
  obtain ⟨t0, r0⟩ := texts_at (i := 0) hwv rfl
  obtain ⟨t1, r1⟩ := texts_at (i := 1) hwv rfl
  obtain ⟨t2, r2⟩ := texts_at (i := 2) hwv rfl
  obtain ⟨oP, hoP⟩ := lexQ_PB hlx
  simp only [List.length_cons, List.length_nil] at hsl hwl
  have inZ : ∀ {p : Addr × Obj}, p ∈ Z → p ∈ KC4 L o2 o3 o5 o6 (lx ++ (tb ++ Z)) := fun h => kc_in (List.mem_append_right _ (List.mem_append_right _ h))
  (repeat' (first | (with_reducible refine if_ff ?_) | (with_reducible refine if_tt ?_) | (k_unfold; (try dsimp only)) | (k_end; wrow_close) | (cell_step; walk1) | (cell_step; dsimp only; walk1) | (leave1; walk_say "STEP leave1"; try dsimp only) | fail "no step"))
  refine PyProof.Rows.item_listL (News.isList N (inZ hDs)) (by omega) (by omega) (x := .ref S0) q0 ?_
  (repeat' (first | (with_reducible refine if_ff ?_) | (with_reducible refine if_tt ?_) | (k_unfold; (try dsimp only)) | (k_end; wrow_close) | (cell_step; walk1) | (cell_step; dsimp only; walk1) | (leave1; walk_say "STEP leave1"; try dsimp only) | fail "no step"))
  refine PyProof.Rows.item_listL (News.isList N (inZ hDs)) (by omega) (by omega) (x := .ref S1) q1 ?_
  (repeat' (first | (with_reducible refine if_ff ?_) | (with_reducible refine if_tt ?_) | (k_unfold; (try dsimp only)) | (k_end; wrow_close) | (cell_step; walk1) | (cell_step; dsimp only; walk1) | (leave1; walk_say "STEP leave1"; try dsimp only) | fail "no step"))
  (refine' tel_use ?tH ?tB ?tF ?tX ?tN ?tT ?tC1 ?tC2 ?tC3 ?tk ?td ?tu ?_; (case tB => k_asm); (case tF => k_asm); (case tX => k_asm); (case tN => k_asm); (case tT => k_asm); (case tC1 => assumption); (case tC2 => assumption); (case tC3 => assumption); (case tk => first | exact rfl | assumption); (case tH => exact (times w (KC4 L o2 o3 o5 o6 (lx ++ (tb ++ Z))) S0 S1 (mw x0) (mw x1) _ _ _ _ _ _ _ _ (inZ z0) (inZ z1) (small_mw (by omega)))); (case td => ktr_room); (case tu => ktr_units))
  rintro v9 h9 tk9 news9 F9 N9 ⟨T9, ta9, tb9, tc9, td9, rfl, rfl, hT9⟩
  (try dsimp only)
  rw [← mw_app] at N9
  have hPT : @LT.lt Nat _ P.PB T9 := topA_lt hT9 _ (kc_in (List.mem_append_left _ hoP))
  (repeat' (first | (with_reducible refine if_ff ?_) | (with_reducible refine if_tt ?_) | (k_unfold; (try dsimp only)) | (k_end; wrow_close) | (cell_step; walk1) | (cell_step; dsimp only; walk1) | (leave1; walk_say "STEP leave1"; try dsimp only) | fail "no step"))
  rename Fr _ _ _ _ => G1
  rename News _ _ _ _ => N1
  refine PyProof.Rows.item_listL (News.isList N1 (.tail _ (inZ hDw))) (by omega) (by omega) (x := .str (tx (sgn u v x1)) t1) r1 ?_
  (repeat' (first | (with_reducible refine if_ff ?_) | (with_reducible refine if_tt ?_) | (k_unfold; (try dsimp only)) | (k_end; wrow_close) | (cell_step; walk1) | (cell_step; dsimp only; walk1) | (leave1; walk_say "STEP leave1"; try dsimp only) | fail "no step"))
  refine PyProof.Rows.item_listL (News.isList N1 (.tail _ (inZ hDs))) (by omega) (by omega) (x := .ref S1) q1 ?_
  (repeat' (first | (with_reducible refine if_ff ?_) | (with_reducible refine if_tt ?_) | (k_unfold; (try dsimp only)) | (k_end; wrow_close) | (cell_step; walk1) | (cell_step; dsimp only; walk1) | (leave1; walk_say "STEP leave1"; try dsimp only) | fail "no step"))
  rename Fr _ _ _ _ => G2
  rename News _ _ _ _ => N2
  refine PyProof.Rows.item_listL (News.isList N2 (.tail _ (.tail _ (inZ hDw)))) (by omega) (by omega) (x := .str (tx (sgn u v x0)) t0) r0 ?_
  (repeat' (first | (with_reducible refine if_ff ?_) | (with_reducible refine if_tt ?_) | (k_unfold; (try dsimp only)) | (k_end; wrow_close) | (cell_step; walk1) | (cell_step; dsimp only; walk1) | (leave1; walk_say "STEP leave1"; try dsimp only) | fail "no step"))
  refine PyProof.Rows.item_listL (News.isList N2 (.tail _ (.tail _ (inZ hDw)))) (by omega) (by omega) (x := .str (tx (sgn u v x1)) t1) r1 ?_
  (repeat' (first | (with_reducible refine if_ff ?_) | (with_reducible refine if_tt ?_) | (k_unfold; (try dsimp only)) | (k_end; wrow_close) | (cell_step; walk1) | (cell_step; dsimp only; walk1) | (leave1; walk_say "STEP leave1"; try dsimp only) | fail "no step"))
  have hs0 := sgn_len u v x0
  have hs1 := sgn_len u v x1
  have hs2 := sgn_len u v x2
  refine PyProof.Rows.add_str (hsz := by simp only [tx_len, sizeLine_eq]; omega) ?_
  intro t8 k8
  (try dsimp only)
  rw [tx_append, ← sgn_app]
  (repeat' (first | (with_reducible refine if_ff ?_) | (with_reducible refine if_tt ?_) | (k_unfold; (try dsimp only)) | (k_end; wrow_close) | (cell_step; walk1) | (cell_step; dsimp only; walk1) | (leave1; walk_say "STEP leave1"; try dsimp only) | fail "no step"))
  rename Fr _ _ _ _ => G3
  rename News _ _ _ _ => N3
  refine PyProof.Rows.item_listL (News.isList N3 (.tail _ (.tail _ (.tail _ (inZ hDw))))) (by omega) (by omega) (x := .str (tx (sgn u v x2)) t2) r2 ?_
  (repeat' (first | (with_reducible refine if_ff ?_) | (with_reducible refine if_tt ?_) | (k_unfold; (try dsimp only)) | (k_end; wrow_close) | (cell_step; walk1) | (cell_step; dsimp only; walk1) | (leave1; walk_say "STEP leave1"; try dsimp only) | fail "no step"))
  refine PyProof.Rows.item_listL (News.isList N3 (.tail _ (.tail _ (.tail _ (inZ hDw))))) (by omega) (by omega) (x := .str (tx (sgn u v x0)) t0) r0 ?_
  (repeat' (first | (with_reducible refine if_ff ?_) | (with_reducible refine if_tt ?_) | (k_unfold; (try dsimp only)) | (k_end; wrow_close) | (cell_step; walk1) | (cell_step; dsimp only; walk1) | (leave1; walk_say "STEP leave1"; try dsimp only) | fail "no step"))
  refine PyProof.Rows.add_str (hsz := by simp only [tx_len, sizeLine_eq]; omega) ?_
  intro t7 k7
  (try dsimp only)
  rw [tx_append, ← sgn_app]
  (repeat' (first | (with_reducible refine if_ff ?_) | (with_reducible refine if_tt ?_) | (k_unfold; (try dsimp only)) | (k_end; wrow_close) | (cell_step; walk1) | (cell_step; dsimp only; walk1) | (leave1; walk_say "STEP leave1"; try dsimp only) | fail "no step"))
  refine PyProof.Rows.item_listL (News.isList N3 (.tail _ (.tail _ (.tail _ (inZ hDw))))) (by omega) (by omega) (x := .str (tx (sgn u v x1)) t1) r1 ?_
  (repeat' (first | (with_reducible refine if_ff ?_) | (with_reducible refine if_tt ?_) | (k_unfold; (try dsimp only)) | (k_end; wrow_close) | (cell_step; walk1) | (cell_step; dsimp only; walk1) | (leave1; walk_say "STEP leave1"; try dsimp only) | fail "no step"))
  refine PyProof.Rows.add_str (hsz := by simp only [tx_len, sgn_len, List.length_append, sizeLine_eq]; omega) ?_
  intro t6 k6
  (try dsimp only)
  rw [tx_append, ← sgn_app, List.append_assoc]
  (repeat' (first | (with_reducible refine if_ff ?_) | (with_reducible refine if_tt ?_) | (k_unfold; (try dsimp only)) | (k_end; wrow_close) | (cell_step; walk1) | (cell_step; dsimp only; walk1) | (leave1; walk_say "STEP leave1"; try dsimp only) | fail "no step"))
  refine PyProof.Rows.item_listL (News.isList N3 (.tail _ (.tail _ (.tail _ (inZ hDs))))) (by omega) (by omega) (x := .ref S2) q2 ?_
  (repeat' (first | (with_reducible refine if_ff ?_) | (with_reducible refine if_tt ?_) | (k_unfold; (try dsimp only)) | (k_end; wrow_close) | (cell_step; walk1) | (cell_step; dsimp only; walk1) | (leave1; walk_say "STEP leave1"; try dsimp only) | fail "no step"))
  (refine' tel_use ?tH ?tB ?tF ?tX ?tN ?tT ?tC1 ?tC2 ?tC3 ?tk ?td ?tu ?_; (case tB => k_asm); (case tF => k_asm); (case tX => k_asm); (case tN => k_asm); (case tT => k_asm); (case tC1 => assumption); (case tC2 => assumption); (case tC3 => assumption); (case tk => first | exact rfl | assumption); (case tH => exact (times w (_ :: _ :: _ :: KC4 L o2 o3 o5 o6 (lx ++ (tb ++ Z))) S2 T9 (mw x2) (mw (x0 ++ x1)) _ _ _ _ _ _ _ _ (.tail _ (.tail _ (.tail _ (inZ z2)))) (.tail _ (.tail _ (.head _))) (small_mw (by rw [List.length_append]; omega)))); (case td => ktr_room); (case tu => ktr_units))
  rintro v8 h8 tk8 news8 F8 N8 ⟨T8, ta8, tb8, tc8, td8, rfl, rfl, hT8⟩
  (try dsimp only)
  rw [← mw_app] at N8
  (repeat' (first | (with_reducible refine if_ff ?_) | (with_reducible refine if_tt ?_) | (k_unfold; (try dsimp only)) | (k_end; wrow_close) | (cell_step; walk1) | (cell_step; dsimp only; walk1) | (leave1; walk_say "STEP leave1"; try dsimp only) | fail "no step"))
  rename Fr _ _ _ _ => F1
  rename News _ _ _ _ => N1
  rename_i g5 R0 g4 k0 R1 g3 k1 R2 g2 k2 Dr g1 k3 g0
  have j0 := k0.1
  have j1 := k1.1
  have j2 : R1 + 1 ≤ T8 := Nat.le_trans (by rw [topA_cons]; exact Nat.le_max_left _ _) hT8
  have j3 := k2.1
  have j4 := k3.1
  refine hret _ _ _ _ F1 (news_perm N1 ?pm) ⟨Dr, [.ref R0, .ref R1, .ref R2], 0, [(R2, rowO (sgn u v (x2 ++ (x0 ++ x1))) t6 T8), (T8, tup4 (mw (x2 ++ (x0 ++ x1))) ta8 tb8 tc8 td8), (R1, rowO (sgn u v (x0 ++ x1)) t8 T9), (R0, rowO (sgn u v x1) t1 S1), (T9, tup4 (mw (x0 ++ x1)) ta9 tb9 tc9 td9)], ⟨rfl, rfl, trivial⟩, ⟨rfl, ?row⟩, ?big, rfl⟩
  case pm =>
    intro p hp
    simp only [List.mem_cons, List.mem_append, List.cons_append, List.nil_append] at hp ⊢
    rcases hp with h | h | h | h | h | h | h | h | h | h | h | h | h <;> simp only [h, true_or, or_true]
  case row =>
    intro i y hy
    match i, hy with
    | 0, hy =>
      obtain rfl : x1 = y := by simpa using hy
      exact ⟨R0, S1, _, _, _, _, _, rfl, .tail _ (.tail _ (.tail _ (.head _))), List.mem_append_right _ z1⟩
    | 1, hy =>
      obtain rfl : x0 ++ x1 = y := by simpa using hy
      exact ⟨R1, T9, _, _, _, _, _, rfl, .tail _ (.tail _ (.head _)), .tail _ (.tail _ (.tail _ (.tail _ (.head _))))⟩
    | 2, hy =>
      obtain rfl : x2 ++ (x0 ++ x1) = y := by simpa using hy
      exact ⟨R2, T8, _, _, _, _, _, rfl, .head _, .tail _ (.head _)⟩
    | i + 3, hy => simp at hy
  case big =>
    intro p hp
    simp only [List.mem_cons, List.not_mem_nil, or_false] at hp
    rcases hp with rfl | rfl | rfl | rfl | rfl | rfl <;> (dsimp only; omega)
end Vstage13
theorem stage13 (w : World) (fa : Addr) (cd : Value) (L Ds Dw Dn : Addr) (m : Str → Option Value) (P : LexP) (f : Fix2 P L) (tot0 : Int) (lx tb Z : Led) (o2 o3 o5 o6 : Obj) (u v : Nat) (e5 : o5.data = .cell (some (.ref Dw))) (ws : List (List Nat)) (hlx : LexQ w P tot0 ws lx) 
   (x0 x1 x2 : List Bool) (h0 : x0.length ≤ 10) (h1 : x1.length ≤ 10) (h2 : x2.length ≤ 10)
   (wsv : List Value) (kw : Nat) (hwv : TextsAre wsv [sgn u v x0, sgn u v x1, sgn u v x2]) (hDw : (Dw, W.listOf wsv.toArray kw) ∈ Z)
   (sqv : List Value) (es : Nat) (hsq : SqIn sqv [x0, x1, x2] Z) (hDs : (Ds, W.listOf sqv.toArray es) ∈ Z) (hM : Has m (nmF Ds Dn)) :
  StgB w fa cd L (blk 13 2) m (KC4 L o2 o3 o5 o6 (lx ++ (tb ++ Z))) (P13 P L Ds o2 o3 o5 o6 u v x0 x1 x2 lx tb Z) := stgB_of fun zvv => (show Vstage13.At0 w fa cd L Ds Dw Dn m P tot0 lx tb Z o2 o3 o5 o6 ws wsv kw sqv es zvv from eps1_all (P := Vstage13.AtX) @Vstage13.aux (w, fa, cd, L, Ds, Dw, Dn, m, P, tot0, lx, tb, Z, o2, o3, o5, o6, ws, wsv, kw, sqv, es, zvv)) f u v e5 hlx x0 x1 x2 h0 h1 h2 hwv hDw hsq hDs hM
end
section
noncomputable abbrev nmI (Ds Sq : Addr) (y : List Nat) (ty : Tok) : List (Str × Value) := [(Str.ofString "squares", .ref Ds), (Str.ofString "row", .str (tx y) ty), (Str.ofString "square", .ref Sq)]
noncomputable abbrev nmJ (Ds Sq Lf : Addr) (y : List Nat) (ty ti : Tok) (i : Nat) : List (Str × Value) := (Str.ofString "left", .ref Lf) :: (Str.ofString "i", .int (i : Int) ti) :: nmI Ds Sq y ty
noncomputable abbrev nmE (Ds Sq Lf : Addr) (y t : List Nat) (ty ti tj te : Tok) (i j : Nat) : List (Str × Value) := (Str.ofString "end", .str (tx t) te) :: (Str.ofString "j", .int (j : Int) tj) :: nmJ Ds Sq Lf y ty ti i
inductive PJ1 (w : World) (P : LexP) (tot0 : Int) (L Ds Sq Lf : Addr) (o2 o3 o5 o6 : Obj) (Y : Led) (ws : List (List Nat)) (y t : List Nat) (ty ti tj : Tok) (i j : Nat) (m' : Str → Option Value) (news' : Led) : Prop
  | mk (lx' : Led) (te : Tok) (zh1 : Has m' (nmE Ds Sq Lf y t ty ti tj te i j)) (zh2 : LexQ w P tot0 ws lx') (zh3 : news' = KC4 L o2 o3 o5 o6 (lx' ++ Y))
namespace VturnJ1
noncomputable def At0 (w : World) (fa : Addr) (cd : Value) (L : Addr) (Ds : Addr) (Sq : Addr) (Lf : Addr) (m : Str → Option Value) (P : LexP) (tot0 : Int) (Y : Led) (o2 : Obj) (o3 : Obj) (o5 : Obj) (o6 : Obj) (t : List Nat) (ws : List (List Nat)) (y : List Nat) (ty : Tok) (ti : Tok) (tj : Tok) (i : Nat) (j : Nat) (zvv : StgV) : Prop := ∀ (f : Fix2 P L) (lx : Led) (e6 : o6.data = .cell (some (.ref P.X))) (hlx : LexQ w P tot0 (t :: ws) lx) (hws : ws.length ≤ 10) (hY : ∀ p ∈ Y, p.1 ≠ P.PB) (hM : Has m ((Str.ofString "j", .int (j : Int) tj) :: nmJ Ds Sq Lf y ty ti i)), StgBAt w fa cd L (blkS stJ 0 2) m (KC4 L o2 o3 o5 o6 (lx ++ Y)) (PJ1 w P tot0 L Ds Sq Lf o2 o3 o5 o6 Y (ws ++ [t]) y t ty ti tj i j) zvv
noncomputable def AtX (x : (World) × (Addr) × (Value) × (Addr) × (Addr) × (Addr) × (Addr) × (Str → Option Value) × (LexP) × (Int) × (Led) × (Obj) × (Obj) × (Obj) × (Obj) × (List Nat) × (List (List Nat)) × (List Nat) × (Tok) × (Tok) × (Tok) × (Nat) × (Nat) × StgV) : Prop := At0 (x.1) (x.2.1) (x.2.2.1) (x.2.2.2.1) (x.2.2.2.2.1) (x.2.2.2.2.2.1) (x.2.2.2.2.2.2.1) (x.2.2.2.2.2.2.2.1) (x.2.2.2.2.2.2.2.2.1) (x.2.2.2.2.2.2.2.2.2.1) (x.2.2.2.2.2.2.2.2.2.2.1) (x.2.2.2.2.2.2.2.2.2.2.2.1) (x.2.2.2.2.2.2.2.2.2.2.2.2.1) (x.2.2.2.2.2.2.2.2.2.2.2.2.2.1) (x.2.2.2.2.2.2.2.2.2.2.2.2.2.2.1) (x.2.2.2.2.2.2.2.2.2.2.2.2.2.2.2.1) (x.2.2.2.2.2.2.2.2.2.2.2.2.2.2.2.2.1) (x.2.2.2.2.2.2.2.2.2.2.2.2.2.2.2.2.2.1) (x.2.2.2.2.2.2.2.2.2.2.2.2.2.2.2.2.2.2.1) (x.2.2.2.2.2.2.2.2.2.2.2.2.2.2.2.2.2.2.2.1) (x.2.2.2.2.2.2.2.2.2.2.2.2.2.2.2.2.2.2.2.2.1) (x.2.2.2.2.2.2.2.2.2.2.2.2.2.2.2.2.2.2.2.2.2.1) (x.2.2.2.2.2.2.2.2.2.2.2.2.2.2.2.2.2.2.2.2.2.2.1) (x.2.2.2.2.2.2.2.2.2.2.2.2.2.2.2.2.2.2.2.2.2.2.2)
noncomputable def cc0 : (World) × (Addr) × (Value) × (Addr) × (Addr) × (Addr) × (Addr) × (Str → Option Value) × (LexP) × (Int) × (Led) × (Obj) × (Obj) × (Obj) × (Obj) × (List Nat) × (List (List Nat)) × (List Nat) × (Tok) × (Tok) × (Tok) × (Nat) × (Nat) × StgV := eps1 (ne_prod ne_world (ne_prod ne_addr (ne_prod ne_value (ne_prod ne_addr (ne_prod ne_addr (ne_prod ne_addr (ne_prod ne_addr (ne_prod ne_par (ne_prod ne_lexp (ne_prod ne_int (ne_prod ne_led (ne_prod ne_obj (ne_prod ne_obj (ne_prod ne_obj (ne_prod ne_obj (ne_prod ne_list (ne_prod ne_list (ne_prod ne_list (ne_prod ne_tok (ne_prod ne_tok (ne_prod ne_tok (ne_prod ne_nat (ne_prod ne_nat stgV_ne))))))))))))))))))))))) AtX
noncomputable def w : World := cc0.1
noncomputable def fa : Addr := cc0.2.1
noncomputable def cd : Value := cc0.2.2.1
noncomputable def L : Addr := cc0.2.2.2.1
noncomputable def Ds : Addr := cc0.2.2.2.2.1
noncomputable def Sq : Addr := cc0.2.2.2.2.2.1
noncomputable def Lf : Addr := cc0.2.2.2.2.2.2.1
noncomputable def m : Str → Option Value := cc0.2.2.2.2.2.2.2.1
noncomputable def P : LexP := cc0.2.2.2.2.2.2.2.2.1
noncomputable def tot0 : Int := cc0.2.2.2.2.2.2.2.2.2.1
noncomputable def Y : Led := cc0.2.2.2.2.2.2.2.2.2.2.1
noncomputable def o2 : Obj := cc0.2.2.2.2.2.2.2.2.2.2.2.1
noncomputable def o3 : Obj := cc0.2.2.2.2.2.2.2.2.2.2.2.2.1
noncomputable def o5 : Obj := cc0.2.2.2.2.2.2.2.2.2.2.2.2.2.1
noncomputable def o6 : Obj := cc0.2.2.2.2.2.2.2.2.2.2.2.2.2.2.1
noncomputable def t : List Nat := cc0.2.2.2.2.2.2.2.2.2.2.2.2.2.2.2.1
noncomputable def ws : List (List Nat) := cc0.2.2.2.2.2.2.2.2.2.2.2.2.2.2.2.2.1
noncomputable def y : List Nat := cc0.2.2.2.2.2.2.2.2.2.2.2.2.2.2.2.2.2.1
noncomputable def ty : Tok := cc0.2.2.2.2.2.2.2.2.2.2.2.2.2.2.2.2.2.2.1
noncomputable def ti : Tok := cc0.2.2.2.2.2.2.2.2.2.2.2.2.2.2.2.2.2.2.2.1
noncomputable def tj : Tok := cc0.2.2.2.2.2.2.2.2.2.2.2.2.2.2.2.2.2.2.2.2.1
noncomputable def i : Nat := cc0.2.2.2.2.2.2.2.2.2.2.2.2.2.2.2.2.2.2.2.2.2.1
noncomputable def j : Nat := cc0.2.2.2.2.2.2.2.2.2.2.2.2.2.2.2.2.2.2.2.2.2.2.1
noncomputable def v0 : StgV := cc0.2.2.2.2.2.2.2.2.2.2.2.2.2.2.2.2.2.2.2.2.2.2.2
theorem aux (f : Fix2 P L) (lx : Led) (e6 : o6.data = .cell (some (.ref P.X))) (hlx : LexQ w P tot0 (t :: ws) lx) (hws : ws.length ≤ 10) (hY : ∀ p ∈ Y, p.1 ≠ P.PB) (hM : Has m ((Str.ofString "j", .int (j : Int) tj) :: nmJ Ds Sq Lf y ty ti i)) :
  StgBAt w fa cd L (blkS stJ 0 2) m (KC4 L o2 o3 o5 o6 (lx ++ Y)) (PJ1 w P tot0 L Ds Sq Lf o2 o3 o5 o6 Y (ws ++ [t]) y t ty ti tj i j) v0 := by
  intro B' F X N T C1 C2 C3 hE hret
  have F0 := fr_all0 hM F
  clear F
  obtain ⟨tl, pb, pe, ep, hpb, rfl⟩ := hlx
  cases hpb with
  | cons _ t1 hpb =>
  rename_i pb
  have hpbl := hpb.length
  have N1 := news_perm N (kc_front (A := LexL w P tot0 tl (.str (tx t) t1 :: pb) pe [] ep) (B := Y))
  clear N
  simp only [LexL, List.cons_append, List.nil_append] at N1
  (repeat' (first | (with_reducible refine if_ff ?_) | (with_reducible refine if_tt ?_) | (k_unfold; (try dsimp only)) | (k_end; wrow_close) | (cell_step; walk1) | (cell_step; dsimp only; walk1) | (leave1; walk_say "STEP leave1"; try dsimp only) | fail "no step"))
  (refine' tel_use ?tH ?tB ?tF ?tX ?tN ?tT ?tC1 ?tC2 ?tC3 ?tk ?td ?tu ?_; (case tB => k_asm); (case tF => k_asm); (case tX => k_asm); (case tN => k_asm); (case tT => k_asm); (case tC1 => assumption); (case tC2 => assumption); (case tC3 => assumption); (case tk => first | exact rfl | assumption); (case tH => exact (pushed w P f.O (KC4 L o2 o3 o5 o6 Y) tot0 tl (tx t) t1 pb pe [] ep (kc_PB f hY) (by omega))); (case td => ktr_room); (case tu => ktr_units))
  rintro v9 h9 tk9 news9 F9 N9 ⟨pe', rfl, rfl⟩
  (try dsimp only)
  simp only [LexL, List.cons_append, List.nil_append] at N9
  (repeat' (first | (with_reducible refine if_ff ?_) | (with_reducible refine if_tt ?_) | (k_unfold; (try dsimp only)) | (k_end; wrow_close) | (cell_step; walk1) | (cell_step; dsimp only; walk1) | (leave1; walk_say "STEP leave1"; try dsimp only) | fail "no step"))
  (refine' tel_use ?tH ?tB ?tF ?tX ?tN ?tT ?tC1 ?tC2 ?tC3 ?tk ?td ?tu ?_; (case tB => k_asm); (case tF => k_asm); (case tX => k_asm); (case tN => k_asm); (case tT => k_asm); (case tC1 => assumption); (case tC2 => assumption); (case tC3 => assumption); (case tk => first | exact rfl | assumption); (case tH => exact (push w P f.O (KC4 L o2 o3 o5 o6 Y) tot0 tl (tx t) t1 pb pe' [] ep (kc_PB f hY) (by omega))); (case td => ktr_room); (case tu => ktr_units))
  rintro v8 h8 tk8 news8 F8 N8 ⟨pe8, rfl, rfl⟩
  (try dsimp only)
  (repeat' (first | (with_reducible refine if_ff ?_) | (with_reducible refine if_tt ?_) | (k_unfold; (try dsimp only)) | (k_end; wrow_close) | (cell_step; walk1) | (cell_step; dsimp only; walk1) | (leave1; walk_say "STEP leave1"; try dsimp only) | fail "no step"))
  rename Fr _ _ _ _ => F1
  rename News _ _ _ _ => N2
  exact hret _ _ _ _ F1 (news_perm N2 (kc_back (A := LexL w P tot0 tl (pb ++ [.str (tx t) t1]) pe8 [] ep) (B := Y))) ⟨_, t1, ⟨rfl, rfl, rfl, rfl, rfl, rfl, rfl, trivial⟩, ⟨tl, _, pe8, ep, hpb.append (.cons t t1 .nil), rfl⟩, rfl⟩
end VturnJ1
theorem turnJ1 (w : World) (fa : Addr) (cd : Value) (L Ds Sq Lf : Addr) (m : Str → Option Value) (P : LexP) (f : Fix2 P L) (tot0 : Int) (lx Y : Led) (o2 o3 o5 o6 : Obj) (e6 : o6.data = .cell (some (.ref P.X))) (t : List Nat) (ws : List (List Nat)) (hlx : LexQ w P tot0 (t :: ws) lx) (hws : ws.length ≤ 10) (hY : ∀ p ∈ Y, p.1 ≠ P.PB)
   (y : List Nat) (ty ti tj : Tok) (i j : Nat) (hM : Has m ((Str.ofString "j", .int (j : Int) tj) :: nmJ Ds Sq Lf y ty ti i)) :
  StgB w fa cd L (blkS stJ 0 2) m (KC4 L o2 o3 o5 o6 (lx ++ Y)) (PJ1 w P tot0 L Ds Sq Lf o2 o3 o5 o6 Y (ws ++ [t]) y t ty ti tj i j) := stgB_of fun zvv => (show VturnJ1.At0 w fa cd L Ds Sq Lf m P tot0 Y o2 o3 o5 o6 t ws y ty ti tj i j zvv from eps1_all (P := VturnJ1.AtX) @VturnJ1.aux (w, fa, cd, L, Ds, Sq, Lf, m, P, tot0, Y, o2, o3, o5, o6, t, ws, y, ty, ti, tj, i, j, zvv)) f lx e6 hlx hws hY hM
noncomputable abbrev nmK (Ds Sq Lf In : Addr) (y t : List Nat) (ty ti tj te : Tok) (i j : Nat) (b : Bool) : List (Str × Value) := (Str.ofString "inner", .ref In) :: (Str.ofString "fits", .bool b) :: nmE Ds Sq Lf y t ty ti tj te i j
noncomputable def nnB (p : Mat) : Bool := decide (0 ≤ p.1 ∧ 0 ≤ p.2.1 ∧ 0 ≤ p.2.2.1 ∧ 0 ≤ p.2.2.2)
theorem nnB_iff (p : Mat) : nnB p = true ↔ nnM p := decide_eq_true_iff
inductive PJ2 (P : LexP) (L Ds Sq Lf : Addr) (o2 o3 o5 o6 : Obj) (lx tb Z : Led) (y t : List Nat) (ty ti tj te : Tok) (i j : Nat) (p : Mat) (m' : Str → Option Value) (news' : Led) : Prop
  | mk (In : Addr) (ta tc td t9 : Tok) (zh1 : Has m' (nmK Ds Sq Lf In y t ty ti tj te i j (nnB p))) (zh2 : @LT.lt Nat _ P.PB In) (zh3 : news' = KC4 L o2 o3 o5 o6 (lx ++ (tb ++ (In, tup4 p ta tc td t9) :: Z)))
namespace VturnJ2
noncomputable def At0 (w : World) (fa : Addr) (cd : Value) (L : Addr) (Ds : Addr) (Sq : Addr) (Lf : Addr) (m : Str → Option Value) (P : LexP) (tot0 : Int) (lx : Led) (tb : Led) (Z : Led) (o2 : Obj) (o3 : Obj) (o5 : Obj) (o6 : Obj) (ws : List (List Nat)) (sqv : List Value) (es : Nat) (W0 : List (List Bool)) (ta : Tok) (tc : Tok) (td : Tok) (tf : Tok) (lp : Mat) (x : List Bool) (y : List Nat) (t : List Nat) (ty : Tok) (ti : Tok) (tj : Tok) (te : Tok) (i : Nat) (j : Nat) (zvv : StgV) : Prop := ∀ (f : Fix2 P L) (hlx : LexQ w P tot0 ws lx) (hW : W0.length ≤ 10) (hsq : SqIn sqv W0 Z) (hDs : (Ds, W.listOf sqv.toArray es) ∈ Z) (hLf : (Lf, tup4 lp ta tc td tf) ∈ Z) (hxl : x.length ≤ 10) (hj : W0[j]? = some x) (hM : Has m (nmE Ds Sq Lf y t ty ti tj te i j)), StgBAt w fa cd L (blkS stJ 2 2) m (KC4 L o2 o3 o5 o6 (lx ++ (tb ++ Z))) (PJ2 P L Ds Sq Lf o2 o3 o5 o6 lx tb Z y t ty ti tj te i j (mulM lp (invM (mw x)))) zvv
noncomputable def AtX (x : (World) × (Addr) × (Value) × (Addr) × (Addr) × (Addr) × (Addr) × (Str → Option Value) × (LexP) × (Int) × (Led) × (Led) × (Led) × (Obj) × (Obj) × (Obj) × (Obj) × (List (List Nat)) × (List Value) × (Nat) × (List (List Bool)) × (Tok) × (Tok) × (Tok) × (Tok) × (Mat) × (List Bool) × (List Nat) × (List Nat) × (Tok) × (Tok) × (Tok) × (Tok) × (Nat) × (Nat) × StgV) : Prop := At0 (x.1) (x.2.1) (x.2.2.1) (x.2.2.2.1) (x.2.2.2.2.1) (x.2.2.2.2.2.1) (x.2.2.2.2.2.2.1) (x.2.2.2.2.2.2.2.1) (x.2.2.2.2.2.2.2.2.1) (x.2.2.2.2.2.2.2.2.2.1) (x.2.2.2.2.2.2.2.2.2.2.1) (x.2.2.2.2.2.2.2.2.2.2.2.1) (x.2.2.2.2.2.2.2.2.2.2.2.2.1) (x.2.2.2.2.2.2.2.2.2.2.2.2.2.1) (x.2.2.2.2.2.2.2.2.2.2.2.2.2.2.1) (x.2.2.2.2.2.2.2.2.2.2.2.2.2.2.2.1) (x.2.2.2.2.2.2.2.2.2.2.2.2.2.2.2.2.1) (x.2.2.2.2.2.2.2.2.2.2.2.2.2.2.2.2.2.1) (x.2.2.2.2.2.2.2.2.2.2.2.2.2.2.2.2.2.2.1) (x.2.2.2.2.2.2.2.2.2.2.2.2.2.2.2.2.2.2.2.1) (x.2.2.2.2.2.2.2.2.2.2.2.2.2.2.2.2.2.2.2.2.1) (x.2.2.2.2.2.2.2.2.2.2.2.2.2.2.2.2.2.2.2.2.2.1) (x.2.2.2.2.2.2.2.2.2.2.2.2.2.2.2.2.2.2.2.2.2.2.1) (x.2.2.2.2.2.2.2.2.2.2.2.2.2.2.2.2.2.2.2.2.2.2.2.1) (x.2.2.2.2.2.2.2.2.2.2.2.2.2.2.2.2.2.2.2.2.2.2.2.2.1) (x.2.2.2.2.2.2.2.2.2.2.2.2.2.2.2.2.2.2.2.2.2.2.2.2.2.1) (x.2.2.2.2.2.2.2.2.2.2.2.2.2.2.2.2.2.2.2.2.2.2.2.2.2.2.1) (x.2.2.2.2.2.2.2.2.2.2.2.2.2.2.2.2.2.2.2.2.2.2.2.2.2.2.2.1) (x.2.2.2.2.2.2.2.2.2.2.2.2.2.2.2.2.2.2.2.2.2.2.2.2.2.2.2.2.1) (x.2.2.2.2.2.2.2.2.2.2.2.2.2.2.2.2.2.2.2.2.2.2.2.2.2.2.2.2.2.1) (x.2.2.2.2.2.2.2.2.2.2.2.2.2.2.2.2.2.2.2.2.2.2.2.2.2.2.2.2.2.2.1) (x.2.2.2.2.2.2.2.2.2.2.2.2.2.2.2.2.2.2.2.2.2.2.2.2.2.2.2.2.2.2.2.1) (x.2.2.2.2.2.2.2.2.2.2.2.2.2.2.2.2.2.2.2.2.2.2.2.2.2.2.2.2.2.2.2.2.1) (x.2.2.2.2.2.2.2.2.2.2.2.2.2.2.2.2.2.2.2.2.2.2.2.2.2.2.2.2.2.2.2.2.2.1) (x.2.2.2.2.2.2.2.2.2.2.2.2.2.2.2.2.2.2.2.2.2.2.2.2.2.2.2.2.2.2.2.2.2.2.1) (x.2.2.2.2.2.2.2.2.2.2.2.2.2.2.2.2.2.2.2.2.2.2.2.2.2.2.2.2.2.2.2.2.2.2.2)
noncomputable def cc0 : (World) × (Addr) × (Value) × (Addr) × (Addr) × (Addr) × (Addr) × (Str → Option Value) × (LexP) × (Int) × (Led) × (Led) × (Led) × (Obj) × (Obj) × (Obj) × (Obj) × (List (List Nat)) × (List Value) × (Nat) × (List (List Bool)) × (Tok) × (Tok) × (Tok) × (Tok) × (Mat) × (List Bool) × (List Nat) × (List Nat) × (Tok) × (Tok) × (Tok) × (Tok) × (Nat) × (Nat) × StgV := eps1 (ne_prod ne_world (ne_prod ne_addr (ne_prod ne_value (ne_prod ne_addr (ne_prod ne_addr (ne_prod ne_addr (ne_prod ne_addr (ne_prod ne_par (ne_prod ne_lexp (ne_prod ne_int (ne_prod ne_led (ne_prod ne_led (ne_prod ne_led (ne_prod ne_obj (ne_prod ne_obj (ne_prod ne_obj (ne_prod ne_obj (ne_prod ne_list (ne_prod ne_list (ne_prod ne_nat (ne_prod ne_list (ne_prod ne_tok (ne_prod ne_tok (ne_prod ne_tok (ne_prod ne_tok (ne_prod (ne_prod ne_int (ne_prod ne_int (ne_prod ne_int ne_int))) (ne_prod ne_list (ne_prod ne_list (ne_prod ne_list (ne_prod ne_tok (ne_prod ne_tok (ne_prod ne_tok (ne_prod ne_tok (ne_prod ne_nat (ne_prod ne_nat stgV_ne))))))))))))))))))))))))))))))))))) AtX
noncomputable def w : World := cc0.1
noncomputable def fa : Addr := cc0.2.1
noncomputable def cd : Value := cc0.2.2.1
noncomputable def L : Addr := cc0.2.2.2.1
noncomputable def Ds : Addr := cc0.2.2.2.2.1
noncomputable def Sq : Addr := cc0.2.2.2.2.2.1
noncomputable def Lf : Addr := cc0.2.2.2.2.2.2.1
noncomputable def m : Str → Option Value := cc0.2.2.2.2.2.2.2.1
noncomputable def P : LexP := cc0.2.2.2.2.2.2.2.2.1
noncomputable def tot0 : Int := cc0.2.2.2.2.2.2.2.2.2.1
noncomputable def lx : Led := cc0.2.2.2.2.2.2.2.2.2.2.1
noncomputable def tb : Led := cc0.2.2.2.2.2.2.2.2.2.2.2.1
noncomputable def Z : Led := cc0.2.2.2.2.2.2.2.2.2.2.2.2.1
noncomputable def o2 : Obj := cc0.2.2.2.2.2.2.2.2.2.2.2.2.2.1
noncomputable def o3 : Obj := cc0.2.2.2.2.2.2.2.2.2.2.2.2.2.2.1
noncomputable def o5 : Obj := cc0.2.2.2.2.2.2.2.2.2.2.2.2.2.2.2.1
noncomputable def o6 : Obj := cc0.2.2.2.2.2.2.2.2.2.2.2.2.2.2.2.2.1
noncomputable def ws : List (List Nat) := cc0.2.2.2.2.2.2.2.2.2.2.2.2.2.2.2.2.2.1
noncomputable def sqv : List Value := cc0.2.2.2.2.2.2.2.2.2.2.2.2.2.2.2.2.2.2.1
noncomputable def es : Nat := cc0.2.2.2.2.2.2.2.2.2.2.2.2.2.2.2.2.2.2.2.1
noncomputable def W0 : List (List Bool) := cc0.2.2.2.2.2.2.2.2.2.2.2.2.2.2.2.2.2.2.2.2.1
noncomputable def ta : Tok := cc0.2.2.2.2.2.2.2.2.2.2.2.2.2.2.2.2.2.2.2.2.2.1
noncomputable def tc : Tok := cc0.2.2.2.2.2.2.2.2.2.2.2.2.2.2.2.2.2.2.2.2.2.2.1
noncomputable def td : Tok := cc0.2.2.2.2.2.2.2.2.2.2.2.2.2.2.2.2.2.2.2.2.2.2.2.1
noncomputable def tf : Tok := cc0.2.2.2.2.2.2.2.2.2.2.2.2.2.2.2.2.2.2.2.2.2.2.2.2.1
noncomputable def lp : Mat := cc0.2.2.2.2.2.2.2.2.2.2.2.2.2.2.2.2.2.2.2.2.2.2.2.2.2.1
noncomputable def x : List Bool := cc0.2.2.2.2.2.2.2.2.2.2.2.2.2.2.2.2.2.2.2.2.2.2.2.2.2.2.1
noncomputable def y : List Nat := cc0.2.2.2.2.2.2.2.2.2.2.2.2.2.2.2.2.2.2.2.2.2.2.2.2.2.2.2.1
noncomputable def t : List Nat := cc0.2.2.2.2.2.2.2.2.2.2.2.2.2.2.2.2.2.2.2.2.2.2.2.2.2.2.2.2.1
noncomputable def ty : Tok := cc0.2.2.2.2.2.2.2.2.2.2.2.2.2.2.2.2.2.2.2.2.2.2.2.2.2.2.2.2.2.1
noncomputable def ti : Tok := cc0.2.2.2.2.2.2.2.2.2.2.2.2.2.2.2.2.2.2.2.2.2.2.2.2.2.2.2.2.2.2.1
noncomputable def tj : Tok := cc0.2.2.2.2.2.2.2.2.2.2.2.2.2.2.2.2.2.2.2.2.2.2.2.2.2.2.2.2.2.2.2.1
noncomputable def te : Tok := cc0.2.2.2.2.2.2.2.2.2.2.2.2.2.2.2.2.2.2.2.2.2.2.2.2.2.2.2.2.2.2.2.2.1
noncomputable def i : Nat := cc0.2.2.2.2.2.2.2.2.2.2.2.2.2.2.2.2.2.2.2.2.2.2.2.2.2.2.2.2.2.2.2.2.2.1
noncomputable def j : Nat := cc0.2.2.2.2.2.2.2.2.2.2.2.2.2.2.2.2.2.2.2.2.2.2.2.2.2.2.2.2.2.2.2.2.2.2.1
noncomputable def v0 : StgV := cc0.2.2.2.2.2.2.2.2.2.2.2.2.2.2.2.2.2.2.2.2.2.2.2.2.2.2.2.2.2.2.2.2.2.2.2
theorem aux (f : Fix2 P L) (hlx : LexQ w P tot0 ws lx) (hW : W0.length ≤ 10) (hsq : SqIn sqv W0 Z) (hDs : (Ds, W.listOf sqv.toArray es) ∈ Z) (hLf : (Lf, tup4 lp ta tc td tf) ∈ Z) (hxl : x.length ≤ 10) (hj : W0[j]? = some x) (hM : Has m (nmE Ds Sq Lf y t ty ti tj te i j)) :
  StgBAt w fa cd L (blkS stJ 2 2) m (KC4 L o2 o3 o5 o6 (lx ++ (tb ++ Z))) (PJ2 P L Ds Sq Lf o2 o3 o5 o6 lx tb Z y t ty ti tj te i j (mulM lp (invM (mw x)))) v0 := by
  intro B' F X N T C1 C2 C3 hE hret
  have F0 := fr_all0 hM F
  clear F
  obtain ⟨S, a0, b0, c0, d0, q0, z0⟩ := hsq.2 j x hj
  have hsl := hsq.1
  have hjl := (List.getElem?_eq_some_iff.mp q0).1
  have inZ : ∀ {p : Addr × Obj}, p ∈ Z → p ∈ KC4 L o2 o3 o5 o6 (lx ++ (tb ++ Z)) := fun h => kc_in (List.mem_append_right _ (List.mem_append_right _ h))
  obtain ⟨oP, hoP⟩ := lexQ_PB hlx
  (repeat' (first | (with_reducible refine if_ff ?_) | (with_reducible refine if_tt ?_) | (k_unfold; (try dsimp only)) | (k_end; wrow_close) | (cell_step; walk1) | (cell_step; dsimp only; walk1) | (leave1; walk_say "STEP leave1"; try dsimp only) | fail "no step"))
  refine PyProof.Rows.item_listL (News.isList N (inZ hDs)) (by omega) (by omega) (x := .ref S) (by rw [show ((j : Nat) : Int).toNat = j from rfl]; exact q0) ?_
  (repeat' (first | (with_reducible refine if_ff ?_) | (with_reducible refine if_tt ?_) | (k_unfold; (try dsimp only)) | (k_end; wrow_close) | (cell_step; walk1) | (cell_step; dsimp only; walk1) | (leave1; walk_say "STEP leave1"; try dsimp only) | fail "no step"))
  (refine' tel_use ?tH ?tB ?tF ?tX ?tN ?tT ?tC1 ?tC2 ?tC3 ?tk ?td ?tu ?_; (case tB => k_asm); (case tF => k_asm); (case tX => k_asm); (case tN => k_asm); (case tT => k_asm); (case tC1 => assumption); (case tC2 => assumption); (case tC3 => assumption); (case tk => first | exact rfl | assumption); (case tH => exact (inverse w (KC4 L o2 o3 o5 o6 (lx ++ (tb ++ Z))) S (mw x) _ _ _ _ (inZ z0))); (case td => ktr_room); (case tu => ktr_units))
  rintro v9 h9 tk9 news9 F9 N9 ⟨T9, ta9, tb9, tc9, td9, rfl, rfl, hT9⟩
  (try dsimp only)
  (repeat' (first | (with_reducible refine if_ff ?_) | (with_reducible refine if_tt ?_) | (k_unfold; (try dsimp only)) | (k_end; wrow_close) | (cell_step; walk1) | (cell_step; dsimp only; walk1) | (leave1; walk_say "STEP leave1"; try dsimp only) | fail "no step"))
  (refine' tel_use ?tH ?tB ?tF ?tX ?tN ?tT ?tC1 ?tC2 ?tC3 ?tk ?td ?tu ?_; (case tB => k_asm); (case tF => k_asm); (case tX => k_asm); (case tN => k_asm); (case tT => k_asm); (case tC1 => assumption); (case tC2 => assumption); (case tC3 => assumption); (case tk => first | exact rfl | assumption); (case tH => exact (times w (_ :: KC4 L o2 o3 o5 o6 (lx ++ (tb ++ Z))) Lf T9 lp (invM (mw x)) _ _ _ _ _ _ _ _ (.tail _ (inZ hLf)) (.head _) (small_inv (by omega)))); (case td => ktr_room); (case tu => ktr_units))
  rintro v8 h8 tk8 news8 F8 N8 ⟨T8, ta8, tb8, tc8, td8, rfl, rfl, hT8⟩
  (try dsimp only)
  (repeat' (first | (with_reducible refine if_ff ?_) | (with_reducible refine if_tt ?_) | (k_unfold; (try dsimp only)) | (k_end; wrow_close) | (cell_step; walk1) | (cell_step; dsimp only; walk1) | (leave1; walk_say "STEP leave1"; try dsimp only) | fail "no step"))
  rename Fr _ _ _ _ => F1
  rename News _ _ _ _ => N1
  refine min_tup (by with_unfolding_all rfl) F1 N1 (.head _) ?_
  intro h7 M tM kM F7 N7 hmin
  (try dsimp only)
  (repeat' (first | (with_reducible refine if_ff ?_) | (with_reducible refine if_tt ?_) | (k_unfold; (try dsimp only)) | (k_end; wrow_close) | (cell_step; walk1) | (cell_step; dsimp only; walk1) | (leave1; walk_say "STEP leave1"; try dsimp only) | fail "no step"))
  rename Fr _ _ _ _ => F2
  rename News _ _ _ _ => N2
  have hPI : @LT.lt Nat _ P.PB T8 := Nat.lt_trans (topA_lt hT9 _ (kc_in (List.mem_append_left _ hoP))) (topA_lt hT8 _ (.head _))
  have hb : (Value.bool (decide (0 ≤ M))) = .bool (nnB (mulM lp (invM (mw x)))) := by
    congr 1
    rw [Bool.eq_iff_iff, decide_eq_true_iff, nnB_iff]
    constructor
    · intro h
      exact Classical.byContradiction fun hc => absurd (hmin.mpr hc) (by omega)
    · intro h
      exact Int.not_lt.mp fun hc => (hmin.mp hc) h
  refine hret _ _ _ _ F2 (news_perm (news_skip2 N2) kc_one) ⟨T8, _, _, _, _, ⟨rfl, congrArg some hb, rfl, rfl, rfl, rfl, rfl, rfl, rfl, trivial⟩, hPI, rfl⟩
end VturnJ2
theorem turnJ2 (w : World) (fa : Addr) (cd : Value) (L Ds Sq Lf : Addr) (m : Str → Option Value) (P : LexP) (f : Fix2 P L) (tot0 : Int) (lx tb Z : Led) (o2 o3 o5 o6 : Obj) (ws : List (List Nat)) (hlx : LexQ w P tot0 ws lx)
   (sqv : List Value) (es : Nat) (W0 : List (List Bool)) (hW : W0.length ≤ 10) (hsq : SqIn sqv W0 Z) (hDs : (Ds, W.listOf sqv.toArray es) ∈ Z) (ta tc td tf : Tok) (lp : Mat) (hLf : (Lf, tup4 lp ta tc td tf) ∈ Z) (x : List Bool) (hxl : x.length ≤ 10)
   (y t : List Nat) (ty ti tj te : Tok) (i j : Nat) (hj : W0[j]? = some x) (hM : Has m (nmE Ds Sq Lf y t ty ti tj te i j)) :
  StgB w fa cd L (blkS stJ 2 2) m (KC4 L o2 o3 o5 o6 (lx ++ (tb ++ Z))) (PJ2 P L Ds Sq Lf o2 o3 o5 o6 lx tb Z y t ty ti tj te i j (mulM lp (invM (mw x)))) := stgB_of fun zvv => (show VturnJ2.At0 w fa cd L Ds Sq Lf m P tot0 lx tb Z o2 o3 o5 o6 ws sqv es W0 ta tc td tf lp x y t ty ti tj te i j zvv from eps1_all (P := VturnJ2.AtX) @VturnJ2.aux (w, fa, cd, L, Ds, Sq, Lf, m, P, tot0, lx, tb, Z, o2, o3, o5, o6, ws, sqv, es, W0, ta, tc, td, tf, lp, x, y, t, ty, ti, tj, te, i, j, zvv)) f hlx hW hsq hDs hLf hxl hj hM
end
section
theorem dots_two (a b : List Nat) : a ++ [46, 46, 46] ++ b = dots (a :: ([] ++ [b])) := by simp [dots]
theorem dots_three (a b c : List Nat) : a ++ [46, 46, 46] ++ b ++ [46, 46, 46] ++ c = dots (a :: ([b] ++ [c])) := by simp [dots]
theorem mem_two {a c : List Nat} (h1 : 46 ∉ a) (h2 : 46 ∉ c) : ∀ p ∈ a :: ([] ++ [c]), 46 ∉ p := by
  intro p hp
  simp only [List.nil_append, List.mem_cons, List.not_mem_nil, or_false] at hp
  rcases hp with rfl | rfl <;> assumption
inductive PSame (m : Str → Option Value) (news : Led) (m' : Str → Option Value) (news' : Led) : Prop
  | mk (zh1 : m' = m) (zh2 : news' = news)
namespace VturnJ4
noncomputable def At0 (w : World) (fa : Addr) (cd : Value) (L : Addr) (Ds : Addr) (Dw : Addr) (Sq : Addr) (Lf : Addr) (In : Addr) (m : Str → Option Value) (Y : Led) (o2 : Obj) (o3 : Obj) (o5 : Obj) (o6 : Obj) (wsv : List Value) (kw : Nat) (WS : List (List Nat)) (ty : Tok) (ti : Tok) (tj : Tok) (te : Tok) (i : Nat) (j : Nat) (zvv : StgV) : Prop := ∀ (e5 : o5.data = .cell (some (.ref Dw))) (hwv : TextsAre wsv WS) (hw3 : WS.length ≤ 10) (hDw : (Dw, W.listOf wsv.toArray kw) ∈ Y) (x : List Nat) (y : List Nat) (t : List Nat) (hx : WS[i]? = some x) (hxl : x.length ≤ 30) (htl : t.length ≤ 30) (hyl : y.length ≤ 100) (hxd : 46 ∉ x) (htd : 46 ∉ t) (b : Bool) (hb : ellQ x t [] y = b) (hM : Has m (nmK Ds Sq Lf In y t ty ti tj te i j b)), StgBAt w fa cd L (blkS stJ 4 1) m (KC4 L o2 o3 o5 o6 Y) (PSame m (KC4 L o2 o3 o5 o6 Y)) zvv
noncomputable def AtX (x : (World) × (Addr) × (Value) × (Addr) × (Addr) × (Addr) × (Addr) × (Addr) × (Addr) × (Str → Option Value) × (Led) × (Obj) × (Obj) × (Obj) × (Obj) × (List Value) × (Nat) × (List (List Nat)) × (Tok) × (Tok) × (Tok) × (Tok) × (Nat) × (Nat) × StgV) : Prop := At0 (x.1) (x.2.1) (x.2.2.1) (x.2.2.2.1) (x.2.2.2.2.1) (x.2.2.2.2.2.1) (x.2.2.2.2.2.2.1) (x.2.2.2.2.2.2.2.1) (x.2.2.2.2.2.2.2.2.1) (x.2.2.2.2.2.2.2.2.2.1) (x.2.2.2.2.2.2.2.2.2.2.1) (x.2.2.2.2.2.2.2.2.2.2.2.1) (x.2.2.2.2.2.2.2.2.2.2.2.2.1) (x.2.2.2.2.2.2.2.2.2.2.2.2.2.1) (x.2.2.2.2.2.2.2.2.2.2.2.2.2.2.1) (x.2.2.2.2.2.2.2.2.2.2.2.2.2.2.2.1) (x.2.2.2.2.2.2.2.2.2.2.2.2.2.2.2.2.1) (x.2.2.2.2.2.2.2.2.2.2.2.2.2.2.2.2.2.1) (x.2.2.2.2.2.2.2.2.2.2.2.2.2.2.2.2.2.2.1) (x.2.2.2.2.2.2.2.2.2.2.2.2.2.2.2.2.2.2.2.1) (x.2.2.2.2.2.2.2.2.2.2.2.2.2.2.2.2.2.2.2.2.1) (x.2.2.2.2.2.2.2.2.2.2.2.2.2.2.2.2.2.2.2.2.2.1) (x.2.2.2.2.2.2.2.2.2.2.2.2.2.2.2.2.2.2.2.2.2.2.1) (x.2.2.2.2.2.2.2.2.2.2.2.2.2.2.2.2.2.2.2.2.2.2.2.1) (x.2.2.2.2.2.2.2.2.2.2.2.2.2.2.2.2.2.2.2.2.2.2.2.2)
noncomputable def cc0 : (World) × (Addr) × (Value) × (Addr) × (Addr) × (Addr) × (Addr) × (Addr) × (Addr) × (Str → Option Value) × (Led) × (Obj) × (Obj) × (Obj) × (Obj) × (List Value) × (Nat) × (List (List Nat)) × (Tok) × (Tok) × (Tok) × (Tok) × (Nat) × (Nat) × StgV := eps1 (ne_prod ne_world (ne_prod ne_addr (ne_prod ne_value (ne_prod ne_addr (ne_prod ne_addr (ne_prod ne_addr (ne_prod ne_addr (ne_prod ne_addr (ne_prod ne_addr (ne_prod ne_par (ne_prod ne_led (ne_prod ne_obj (ne_prod ne_obj (ne_prod ne_obj (ne_prod ne_obj (ne_prod ne_list (ne_prod ne_nat (ne_prod ne_list (ne_prod ne_tok (ne_prod ne_tok (ne_prod ne_tok (ne_prod ne_tok (ne_prod ne_nat (ne_prod ne_nat stgV_ne)))))))))))))))))))))))) AtX
noncomputable def w : World := cc0.1
noncomputable def fa : Addr := cc0.2.1
noncomputable def cd : Value := cc0.2.2.1
noncomputable def L : Addr := cc0.2.2.2.1
noncomputable def Ds : Addr := cc0.2.2.2.2.1
noncomputable def Dw : Addr := cc0.2.2.2.2.2.1
noncomputable def Sq : Addr := cc0.2.2.2.2.2.2.1
noncomputable def Lf : Addr := cc0.2.2.2.2.2.2.2.1
noncomputable def In : Addr := cc0.2.2.2.2.2.2.2.2.1
noncomputable def m : Str → Option Value := cc0.2.2.2.2.2.2.2.2.2.1
noncomputable def Y : Led := cc0.2.2.2.2.2.2.2.2.2.2.1
noncomputable def o2 : Obj := cc0.2.2.2.2.2.2.2.2.2.2.2.1
noncomputable def o3 : Obj := cc0.2.2.2.2.2.2.2.2.2.2.2.2.1
noncomputable def o5 : Obj := cc0.2.2.2.2.2.2.2.2.2.2.2.2.2.1
noncomputable def o6 : Obj := cc0.2.2.2.2.2.2.2.2.2.2.2.2.2.2.1
noncomputable def wsv : List Value := cc0.2.2.2.2.2.2.2.2.2.2.2.2.2.2.2.1
noncomputable def kw : Nat := cc0.2.2.2.2.2.2.2.2.2.2.2.2.2.2.2.2.1
noncomputable def WS : List (List Nat) := cc0.2.2.2.2.2.2.2.2.2.2.2.2.2.2.2.2.2.1
noncomputable def ty : Tok := cc0.2.2.2.2.2.2.2.2.2.2.2.2.2.2.2.2.2.2.1
noncomputable def ti : Tok := cc0.2.2.2.2.2.2.2.2.2.2.2.2.2.2.2.2.2.2.2.1
noncomputable def tj : Tok := cc0.2.2.2.2.2.2.2.2.2.2.2.2.2.2.2.2.2.2.2.2.1
noncomputable def te : Tok := cc0.2.2.2.2.2.2.2.2.2.2.2.2.2.2.2.2.2.2.2.2.2.1
noncomputable def i : Nat := cc0.2.2.2.2.2.2.2.2.2.2.2.2.2.2.2.2.2.2.2.2.2.2.1
noncomputable def j : Nat := cc0.2.2.2.2.2.2.2.2.2.2.2.2.2.2.2.2.2.2.2.2.2.2.2.1
noncomputable def v0 : StgV := cc0.2.2.2.2.2.2.2.2.2.2.2.2.2.2.2.2.2.2.2.2.2.2.2.2
theorem aux (e5 : o5.data = .cell (some (.ref Dw))) (hwv : TextsAre wsv WS) (hw3 : WS.length ≤ 10) (hDw : (Dw, W.listOf wsv.toArray kw) ∈ Y) (x : List Nat) (y : List Nat) (t : List Nat) (hx : WS[i]? = some x) (hxl : x.length ≤ 30) (htl : t.length ≤ 30) (hyl : y.length ≤ 100) (hxd : 46 ∉ x) (htd : 46 ∉ t) (b : Bool) (hb : ellQ x t [] y = b) (hM : Has m (nmK Ds Sq Lf In y t ty ti tj te i j b)) :
  StgBAt w fa cd L (blkS stJ 4 1) m (KC4 L o2 o3 o5 o6 Y) (PSame m (KC4 L o2 o3 o5 o6 Y)) v0 := by
  intro B' F X N T C1 C2 C3 hE hret
  have F0 := fr_all0 hM F
  clear F
  obtain ⟨tx', htx⟩ := texts_at hwv hx
  have hi := (List.getElem?_eq_some_iff.mp htx).1
  have hwl := hwv.length
  (repeat' (first | (with_reducible refine if_ff ?_) | (with_reducible refine if_tt ?_) | (k_unfold; (try dsimp only)) | (k_end; wrow_close) | (cell_step; walk1) | (cell_step; dsimp only; walk1) | (leave1; walk_say "STEP leave1"; try dsimp only) | fail "no step"))
  refine PyProof.Rows.item_listL (News.isList N (kc_in hDw)) (by omega) (by omega) (x := .str (tx x) tx') (by rw [show ((i : Nat) : Int).toNat = i from rfl]; exact htx) ?_
  (repeat' (first | (with_reducible refine if_ff ?_) | (with_reducible refine if_tt ?_) | (k_unfold; (try dsimp only)) | (k_end; wrow_close) | (cell_step; walk1) | (cell_step; dsimp only; walk1) | (leave1; walk_say "STEP leave1"; try dsimp only) | fail "no step"))
  refine PyProof.Rows.add_str (hsz := by rw [dots3]; simp only [tx_len, List.length_cons, List.length_nil, sizeLine_eq]; omega) ?_
  intro t8 k8
  (try dsimp only)
  rw [dots3, tx_append]
  (repeat' (first | (with_reducible refine if_ff ?_) | (with_reducible refine if_tt ?_) | (k_unfold; (try dsimp only)) | (k_end; wrow_close) | (cell_step; walk1) | (cell_step; dsimp only; walk1) | (leave1; walk_say "STEP leave1"; try dsimp only) | fail "no step"))
  refine PyProof.Rows.add_str (hsz := by simp only [tx_len, List.length_append, List.length_cons, List.length_nil, sizeLine_eq]; omega) ?_
  intro t7 k7
  (try dsimp only)
  rw [tx_append, dots_two]
  (repeat' (first | (with_reducible refine if_ff ?_) | (with_reducible refine if_tt ?_) | (k_unfold; (try dsimp only)) | (k_end; wrow_close) | (cell_step; walk1) | (cell_step; dsimp only; walk1) | (leave1; walk_say "STEP leave1"; try dsimp only) | fail "no step"))
  (refine' tel_use ?tH ?tB ?tF ?tX ?tN ?tT ?tC1 ?tC2 ?tC3 ?tk ?td ?tu ?_; (case tB => k_asm); (case tF => k_asm); (case tX => k_asm); (case tN => k_asm); (case tT => k_asm); (case tC1 => assumption); (case tC2 => assumption); (case tC3 => assumption); (case tk => first | exact rfl | assumption); (case tH => exact (ell_match w (KC4 L o2 o3 o5 o6 Y) x t [] y _ _ (mem_two hxd htd) (by simp [dots]; omega) (by simp) (by omega))); (case td => ktr_room); (case tu => ktr_units))
  rintro v9 h9 tk9 news9 F9 N9 ⟨rfl, rfl⟩
  (try dsimp only)
  rw [hb]
  cases b
  all_goals (repeat' (first | (with_reducible refine if_ff ?_) | (with_reducible refine if_tt ?_) | (k_unfold; (try dsimp only)) | (k_end; wrow_close) | (cell_step; walk1) | (cell_step; dsimp only; walk1) | (leave1; walk_say "STEP leave1"; try dsimp only) | fail "no step"))
  all_goals (rename Fr _ _ _ _ => F1; rename News _ _ _ _ => N1; rw [bindAll_eq hM] at F1; exact hret _ _ _ _ F1 N1 ⟨rfl, rfl⟩)
end VturnJ4
theorem turnJ4 (w : World) (fa : Addr) (cd : Value) (L Ds Dw Sq Lf In : Addr) (m : Str → Option Value) (Y : Led) (o2 o3 o5 o6 : Obj) (e5 : o5.data = .cell (some (.ref Dw)))
   (wsv : List Value) (kw : Nat) (WS : List (List Nat)) (hwv : TextsAre wsv WS) (hw3 : WS.length ≤ 10) (hDw : (Dw, W.listOf wsv.toArray kw) ∈ Y) (x y t : List Nat) (ty ti tj te : Tok) (i j : Nat) (hx : WS[i]? = some x) (hxl : x.length ≤ 30) (htl : t.length ≤ 30) (hyl : y.length ≤ 100) (hxd : 46 ∉ x) (htd : 46 ∉ t) (b : Bool) (hb : ellQ x t [] y = b)
   (hM : Has m (nmK Ds Sq Lf In y t ty ti tj te i j b)) :
  StgB w fa cd L (blkS stJ 4 1) m (KC4 L o2 o3 o5 o6 Y) (PSame m (KC4 L o2 o3 o5 o6 Y)) := stgB_of fun zvv => (show VturnJ4.At0 w fa cd L Ds Dw Sq Lf In m Y o2 o3 o5 o6 wsv kw WS ty ti tj te i j zvv from eps1_all (P := VturnJ4.AtX) @VturnJ4.aux (w, fa, cd, L, Ds, Dw, Sq, Lf, In, m, Y, o2, o3, o5, o6, wsv, kw, WS, ty, ti, tj, te, i, j, zvv)) e5 hwv hw3 hDw x y t hx hxl htl hyl hxd htd b hb hM
namespace VturnJ5f
noncomputable def At0 (w : World) (fa : Addr) (cd : Value) (L : Addr) (Ds : Addr) (Sq : Addr) (Lf : Addr) (In : Addr) (m : Str → Option Value) (Y : Led) (o2 : Obj) (o3 : Obj) (o5 : Obj) (o6 : Obj) (y : List Nat) (t : List Nat) (ty : Tok) (ti : Tok) (tj : Tok) (te : Tok) (i : Nat) (j : Nat) (zvv : StgV) : Prop := ∀ (hM : Has m (nmK Ds Sq Lf In y t ty ti tj te i j false)), StgBAt w fa cd L (blkS stJ 5 1) m (KC4 L o2 o3 o5 o6 Y) (PSame m (KC4 L o2 o3 o5 o6 Y)) zvv
noncomputable def AtX (x : (World) × (Addr) × (Value) × (Addr) × (Addr) × (Addr) × (Addr) × (Addr) × (Str → Option Value) × (Led) × (Obj) × (Obj) × (Obj) × (Obj) × (List Nat) × (List Nat) × (Tok) × (Tok) × (Tok) × (Tok) × (Nat) × (Nat) × StgV) : Prop := At0 (x.1) (x.2.1) (x.2.2.1) (x.2.2.2.1) (x.2.2.2.2.1) (x.2.2.2.2.2.1) (x.2.2.2.2.2.2.1) (x.2.2.2.2.2.2.2.1) (x.2.2.2.2.2.2.2.2.1) (x.2.2.2.2.2.2.2.2.2.1) (x.2.2.2.2.2.2.2.2.2.2.1) (x.2.2.2.2.2.2.2.2.2.2.2.1) (x.2.2.2.2.2.2.2.2.2.2.2.2.1) (x.2.2.2.2.2.2.2.2.2.2.2.2.2.1) (x.2.2.2.2.2.2.2.2.2.2.2.2.2.2.1) (x.2.2.2.2.2.2.2.2.2.2.2.2.2.2.2.1) (x.2.2.2.2.2.2.2.2.2.2.2.2.2.2.2.2.1) (x.2.2.2.2.2.2.2.2.2.2.2.2.2.2.2.2.2.1) (x.2.2.2.2.2.2.2.2.2.2.2.2.2.2.2.2.2.2.1) (x.2.2.2.2.2.2.2.2.2.2.2.2.2.2.2.2.2.2.2.1) (x.2.2.2.2.2.2.2.2.2.2.2.2.2.2.2.2.2.2.2.2.1) (x.2.2.2.2.2.2.2.2.2.2.2.2.2.2.2.2.2.2.2.2.2.1) (x.2.2.2.2.2.2.2.2.2.2.2.2.2.2.2.2.2.2.2.2.2.2)
noncomputable def cc0 : (World) × (Addr) × (Value) × (Addr) × (Addr) × (Addr) × (Addr) × (Addr) × (Str → Option Value) × (Led) × (Obj) × (Obj) × (Obj) × (Obj) × (List Nat) × (List Nat) × (Tok) × (Tok) × (Tok) × (Tok) × (Nat) × (Nat) × StgV := eps1 (ne_prod ne_world (ne_prod ne_addr (ne_prod ne_value (ne_prod ne_addr (ne_prod ne_addr (ne_prod ne_addr (ne_prod ne_addr (ne_prod ne_addr (ne_prod ne_par (ne_prod ne_led (ne_prod ne_obj (ne_prod ne_obj (ne_prod ne_obj (ne_prod ne_obj (ne_prod ne_list (ne_prod ne_list (ne_prod ne_tok (ne_prod ne_tok (ne_prod ne_tok (ne_prod ne_tok (ne_prod ne_nat (ne_prod ne_nat stgV_ne)))))))))))))))))))))) AtX
noncomputable def w : World := cc0.1
noncomputable def fa : Addr := cc0.2.1
noncomputable def cd : Value := cc0.2.2.1
noncomputable def L : Addr := cc0.2.2.2.1
noncomputable def Ds : Addr := cc0.2.2.2.2.1
noncomputable def Sq : Addr := cc0.2.2.2.2.2.1
noncomputable def Lf : Addr := cc0.2.2.2.2.2.2.1
noncomputable def In : Addr := cc0.2.2.2.2.2.2.2.1
noncomputable def m : Str → Option Value := cc0.2.2.2.2.2.2.2.2.1
noncomputable def Y : Led := cc0.2.2.2.2.2.2.2.2.2.1
noncomputable def o2 : Obj := cc0.2.2.2.2.2.2.2.2.2.2.1
noncomputable def o3 : Obj := cc0.2.2.2.2.2.2.2.2.2.2.2.1
noncomputable def o5 : Obj := cc0.2.2.2.2.2.2.2.2.2.2.2.2.1
noncomputable def o6 : Obj := cc0.2.2.2.2.2.2.2.2.2.2.2.2.2.1
noncomputable def y : List Nat := cc0.2.2.2.2.2.2.2.2.2.2.2.2.2.2.1
noncomputable def t : List Nat := cc0.2.2.2.2.2.2.2.2.2.2.2.2.2.2.2.1
noncomputable def ty : Tok := cc0.2.2.2.2.2.2.2.2.2.2.2.2.2.2.2.2.1
noncomputable def ti : Tok := cc0.2.2.2.2.2.2.2.2.2.2.2.2.2.2.2.2.2.1
noncomputable def tj : Tok := cc0.2.2.2.2.2.2.2.2.2.2.2.2.2.2.2.2.2.2.1
noncomputable def te : Tok := cc0.2.2.2.2.2.2.2.2.2.2.2.2.2.2.2.2.2.2.2.1
noncomputable def i : Nat := cc0.2.2.2.2.2.2.2.2.2.2.2.2.2.2.2.2.2.2.2.2.1
noncomputable def j : Nat := cc0.2.2.2.2.2.2.2.2.2.2.2.2.2.2.2.2.2.2.2.2.2.1
noncomputable def v0 : StgV := cc0.2.2.2.2.2.2.2.2.2.2.2.2.2.2.2.2.2.2.2.2.2.2
theorem aux (hM : Has m (nmK Ds Sq Lf In y t ty ti tj te i j false)) :
  StgBAt w fa cd L (blkS stJ 5 1) m (KC4 L o2 o3 o5 o6 Y) (PSame m (KC4 L o2 o3 o5 o6 Y)) v0 := by
  intro B' F X N T C1 C2 C3 hE hret
  have F0 := fr_all0 hM F
  clear F
  (repeat' (first | (with_reducible refine if_ff ?_) | (with_reducible refine if_tt ?_) | (k_unfold; (try dsimp only)) | (k_end; wrow_close) | (cell_step; walk1) | (cell_step; dsimp only; walk1) | (leave1; walk_say "STEP leave1"; try dsimp only) | fail "no step"))
  rename Fr _ _ _ _ => F1
  rename News _ _ _ _ => N1
  rw [bindAll_eq hM] at F1
  exact hret _ _ _ _ F1 N1 ⟨rfl, rfl⟩
end VturnJ5f
theorem turnJ5f (w : World) (fa : Addr) (cd : Value) (L Ds Sq Lf In : Addr) (m : Str → Option Value) (Y : Led) (o2 o3 o5 o6 : Obj) (y t : List Nat) (ty ti tj te : Tok) (i j : Nat) (hM : Has m (nmK Ds Sq Lf In y t ty ti tj te i j false)) :
  StgB w fa cd L (blkS stJ 5 1) m (KC4 L o2 o3 o5 o6 Y) (PSame m (KC4 L o2 o3 o5 o6 Y)) := stgB_of fun zvv => (show VturnJ5f.At0 w fa cd L Ds Sq Lf In m Y o2 o3 o5 o6 y t ty ti tj te i j zvv from eps1_all (P := VturnJ5f.AtX) @VturnJ5f.aux (w, fa, cd, L, Ds, Sq, Lf, In, m, Y, o2, o3, o5, o6, y, t, ty, ti, tj, te, i, j, zvv)) hM
namespace VturnJ5
noncomputable def At0 (w : World) (fa : Addr) (cd : Value) (L : Addr) (Ds : Addr) (Dw : Addr) (Sq : Addr) (Lf : Addr) (In : Addr) (m : Str → Option Value) (P : LexP) (tot0 : Int) (lx : Led) (tb : Led) (Z : Led) (o2 : Obj) (o3 : Obj) (o5 : Obj) (o6 : Obj) (t2 : Tok) (t3 : Tok) (ws : List (List Nat)) (As : List Addr) (wsv : List Value) (kw : Nat) (WS : List (List Nat)) (ty : Tok) (ti : Tok) (tj : Tok) (te : Tok) (i : Nat) (j : Nat) (ta : Tok) (tb' : Tok) (tc : Tok) (td : Tok) (zvv : StgV) : Prop := ∀ (f : Fix2 P L) (u : Nat) (v : Nat) (e2 : o2.data = .cell (some (.str (tx [u]) t2))) (e3 : o3.data = .cell (some (.str (tx [v]) t3))) (e5 : o5.data = .cell (some (.ref Dw))) (hlx : LexQ w P tot0 ws lx) (hZ : ZOk P Z) (htb : TbO As tb) (hA : ∀ a ∈ As, @LT.lt Nat _ a (topA Z)) (hwv : TextsAre wsv WS) (hw3 : WS.length ≤ 10) (hDw : (Dw, W.listOf wsv.toArray kw) ∈ Z) (x : List Nat) (t : List Nat) (z : List Bool) (hx : WS[i]? = some x) (hxl : x.length ≤ 30) (htl : t.length ≤ 30) (hzl : z.length ≤ 40) (hIn : (In, tup4 (mw z) ta tb' tc td) ∈ Z) (hM : Has m (nmK Ds Sq Lf In (x ++ sgn u v z ++ t) t ty ti tj te i j true)), StgBAt w fa cd L (blkS stJ 5 1) m (KC4 L o2 o3 o5 o6 (lx ++ (tb ++ Z))) (PTab P L o2 o3 o5 o6 As lx tb Z m) zvv
noncomputable def AtX (x : (World) × (Addr) × (Value) × (Addr) × (Addr) × (Addr) × (Addr) × (Addr) × (Addr) × (Str → Option Value) × (LexP) × (Int) × (Led) × (Led) × (Led) × (Obj) × (Obj) × (Obj) × (Obj) × (Tok) × (Tok) × (List (List Nat)) × (List Addr) × (List Value) × (Nat) × (List (List Nat)) × (Tok) × (Tok) × (Tok) × (Tok) × (Nat) × (Nat) × (Tok) × (Tok) × (Tok) × (Tok) × StgV) : Prop := At0 (x.1) (x.2.1) (x.2.2.1) (x.2.2.2.1) (x.2.2.2.2.1) (x.2.2.2.2.2.1) (x.2.2.2.2.2.2.1) (x.2.2.2.2.2.2.2.1) (x.2.2.2.2.2.2.2.2.1) (x.2.2.2.2.2.2.2.2.2.1) (x.2.2.2.2.2.2.2.2.2.2.1) (x.2.2.2.2.2.2.2.2.2.2.2.1) (x.2.2.2.2.2.2.2.2.2.2.2.2.1) (x.2.2.2.2.2.2.2.2.2.2.2.2.2.1) (x.2.2.2.2.2.2.2.2.2.2.2.2.2.2.1) (x.2.2.2.2.2.2.2.2.2.2.2.2.2.2.2.1) (x.2.2.2.2.2.2.2.2.2.2.2.2.2.2.2.2.1) (x.2.2.2.2.2.2.2.2.2.2.2.2.2.2.2.2.2.1) (x.2.2.2.2.2.2.2.2.2.2.2.2.2.2.2.2.2.2.1) (x.2.2.2.2.2.2.2.2.2.2.2.2.2.2.2.2.2.2.2.1) (x.2.2.2.2.2.2.2.2.2.2.2.2.2.2.2.2.2.2.2.2.1) (x.2.2.2.2.2.2.2.2.2.2.2.2.2.2.2.2.2.2.2.2.2.1) (x.2.2.2.2.2.2.2.2.2.2.2.2.2.2.2.2.2.2.2.2.2.2.1) (x.2.2.2.2.2.2.2.2.2.2.2.2.2.2.2.2.2.2.2.2.2.2.2.1) (x.2.2.2.2.2.2.2.2.2.2.2.2.2.2.2.2.2.2.2.2.2.2.2.2.1) (x.2.2.2.2.2.2.2.2.2.2.2.2.2.2.2.2.2.2.2.2.2.2.2.2.2.1) (x.2.2.2.2.2.2.2.2.2.2.2.2.2.2.2.2.2.2.2.2.2.2.2.2.2.2.1) (x.2.2.2.2.2.2.2.2.2.2.2.2.2.2.2.2.2.2.2.2.2.2.2.2.2.2.2.1) (x.2.2.2.2.2.2.2.2.2.2.2.2.2.2.2.2.2.2.2.2.2.2.2.2.2.2.2.2.1) (x.2.2.2.2.2.2.2.2.2.2.2.2.2.2.2.2.2.2.2.2.2.2.2.2.2.2.2.2.2.1) (x.2.2.2.2.2.2.2.2.2.2.2.2.2.2.2.2.2.2.2.2.2.2.2.2.2.2.2.2.2.2.1) (x.2.2.2.2.2.2.2.2.2.2.2.2.2.2.2.2.2.2.2.2.2.2.2.2.2.2.2.2.2.2.2.1) (x.2.2.2.2.2.2.2.2.2.2.2.2.2.2.2.2.2.2.2.2.2.2.2.2.2.2.2.2.2.2.2.2.1) (x.2.2.2.2.2.2.2.2.2.2.2.2.2.2.2.2.2.2.2.2.2.2.2.2.2.2.2.2.2.2.2.2.2.1) (x.2.2.2.2.2.2.2.2.2.2.2.2.2.2.2.2.2.2.2.2.2.2.2.2.2.2.2.2.2.2.2.2.2.2.1) (x.2.2.2.2.2.2.2.2.2.2.2.2.2.2.2.2.2.2.2.2.2.2.2.2.2.2.2.2.2.2.2.2.2.2.2.1) (x.2.2.2.2.2.2.2.2.2.2.2.2.2.2.2.2.2.2.2.2.2.2.2.2.2.2.2.2.2.2.2.2.2.2.2.2)
noncomputable def cc0 : (World) × (Addr) × (Value) × (Addr) × (Addr) × (Addr) × (Addr) × (Addr) × (Addr) × (Str → Option Value) × (LexP) × (Int) × (Led) × (Led) × (Led) × (Obj) × (Obj) × (Obj) × (Obj) × (Tok) × (Tok) × (List (List Nat)) × (List Addr) × (List Value) × (Nat) × (List (List Nat)) × (Tok) × (Tok) × (Tok) × (Tok) × (Nat) × (Nat) × (Tok) × (Tok) × (Tok) × (Tok) × StgV := eps1 (ne_prod ne_world (ne_prod ne_addr (ne_prod ne_value (ne_prod ne_addr (ne_prod ne_addr (ne_prod ne_addr (ne_prod ne_addr (ne_prod ne_addr (ne_prod ne_addr (ne_prod ne_par (ne_prod ne_lexp (ne_prod ne_int (ne_prod ne_led (ne_prod ne_led (ne_prod ne_led (ne_prod ne_obj (ne_prod ne_obj (ne_prod ne_obj (ne_prod ne_obj (ne_prod ne_tok (ne_prod ne_tok (ne_prod ne_list (ne_prod ne_list (ne_prod ne_list (ne_prod ne_nat (ne_prod ne_list (ne_prod ne_tok (ne_prod ne_tok (ne_prod ne_tok (ne_prod ne_tok (ne_prod ne_nat (ne_prod ne_nat (ne_prod ne_tok (ne_prod ne_tok (ne_prod ne_tok (ne_prod ne_tok stgV_ne)))))))))))))))))))))))))))))))))))) AtX
noncomputable def w : World := cc0.1
noncomputable def fa : Addr := cc0.2.1
noncomputable def cd : Value := cc0.2.2.1
noncomputable def L : Addr := cc0.2.2.2.1
noncomputable def Ds : Addr := cc0.2.2.2.2.1
noncomputable def Dw : Addr := cc0.2.2.2.2.2.1
noncomputable def Sq : Addr := cc0.2.2.2.2.2.2.1
noncomputable def Lf : Addr := cc0.2.2.2.2.2.2.2.1
noncomputable def In : Addr := cc0.2.2.2.2.2.2.2.2.1
noncomputable def m : Str → Option Value := cc0.2.2.2.2.2.2.2.2.2.1
noncomputable def P : LexP := cc0.2.2.2.2.2.2.2.2.2.2.1
noncomputable def tot0 : Int := cc0.2.2.2.2.2.2.2.2.2.2.2.1
noncomputable def lx : Led := cc0.2.2.2.2.2.2.2.2.2.2.2.2.1
noncomputable def tb : Led := cc0.2.2.2.2.2.2.2.2.2.2.2.2.2.1
noncomputable def Z : Led := cc0.2.2.2.2.2.2.2.2.2.2.2.2.2.2.1
noncomputable def o2 : Obj := cc0.2.2.2.2.2.2.2.2.2.2.2.2.2.2.2.1
noncomputable def o3 : Obj := cc0.2.2.2.2.2.2.2.2.2.2.2.2.2.2.2.2.1
noncomputable def o5 : Obj := cc0.2.2.2.2.2.2.2.2.2.2.2.2.2.2.2.2.2.1
noncomputable def o6 : Obj := cc0.2.2.2.2.2.2.2.2.2.2.2.2.2.2.2.2.2.2.1
noncomputable def t2 : Tok := cc0.2.2.2.2.2.2.2.2.2.2.2.2.2.2.2.2.2.2.2.1
noncomputable def t3 : Tok := cc0.2.2.2.2.2.2.2.2.2.2.2.2.2.2.2.2.2.2.2.2.1
noncomputable def ws : List (List Nat) := cc0.2.2.2.2.2.2.2.2.2.2.2.2.2.2.2.2.2.2.2.2.2.1
noncomputable def As : List Addr := cc0.2.2.2.2.2.2.2.2.2.2.2.2.2.2.2.2.2.2.2.2.2.2.1
noncomputable def wsv : List Value := cc0.2.2.2.2.2.2.2.2.2.2.2.2.2.2.2.2.2.2.2.2.2.2.2.1
noncomputable def kw : Nat := cc0.2.2.2.2.2.2.2.2.2.2.2.2.2.2.2.2.2.2.2.2.2.2.2.2.1
noncomputable def WS : List (List Nat) := cc0.2.2.2.2.2.2.2.2.2.2.2.2.2.2.2.2.2.2.2.2.2.2.2.2.2.1
noncomputable def ty : Tok := cc0.2.2.2.2.2.2.2.2.2.2.2.2.2.2.2.2.2.2.2.2.2.2.2.2.2.2.1
noncomputable def ti : Tok := cc0.2.2.2.2.2.2.2.2.2.2.2.2.2.2.2.2.2.2.2.2.2.2.2.2.2.2.2.1
noncomputable def tj : Tok := cc0.2.2.2.2.2.2.2.2.2.2.2.2.2.2.2.2.2.2.2.2.2.2.2.2.2.2.2.2.1
noncomputable def te : Tok := cc0.2.2.2.2.2.2.2.2.2.2.2.2.2.2.2.2.2.2.2.2.2.2.2.2.2.2.2.2.2.1
noncomputable def i : Nat := cc0.2.2.2.2.2.2.2.2.2.2.2.2.2.2.2.2.2.2.2.2.2.2.2.2.2.2.2.2.2.2.1
noncomputable def j : Nat := cc0.2.2.2.2.2.2.2.2.2.2.2.2.2.2.2.2.2.2.2.2.2.2.2.2.2.2.2.2.2.2.2.1
noncomputable def ta : Tok := cc0.2.2.2.2.2.2.2.2.2.2.2.2.2.2.2.2.2.2.2.2.2.2.2.2.2.2.2.2.2.2.2.2.1
noncomputable def tb' : Tok := cc0.2.2.2.2.2.2.2.2.2.2.2.2.2.2.2.2.2.2.2.2.2.2.2.2.2.2.2.2.2.2.2.2.2.1
noncomputable def tc : Tok := cc0.2.2.2.2.2.2.2.2.2.2.2.2.2.2.2.2.2.2.2.2.2.2.2.2.2.2.2.2.2.2.2.2.2.2.1
noncomputable def td : Tok := cc0.2.2.2.2.2.2.2.2.2.2.2.2.2.2.2.2.2.2.2.2.2.2.2.2.2.2.2.2.2.2.2.2.2.2.2.1
noncomputable def v0 : StgV := cc0.2.2.2.2.2.2.2.2.2.2.2.2.2.2.2.2.2.2.2.2.2.2.2.2.2.2.2.2.2.2.2.2.2.2.2.2
theorem aux (f : Fix2 P L) (u : Nat) (v : Nat) (e2 : o2.data = .cell (some (.str (tx [u]) t2))) (e3 : o3.data = .cell (some (.str (tx [v]) t3))) (e5 : o5.data = .cell (some (.ref Dw))) (hlx : LexQ w P tot0 ws lx) (hZ : ZOk P Z) (htb : TbO As tb) (hA : ∀ a ∈ As, @LT.lt Nat _ a (topA Z)) (hwv : TextsAre wsv WS) (hw3 : WS.length ≤ 10) (hDw : (Dw, W.listOf wsv.toArray kw) ∈ Z) (x : List Nat) (t : List Nat) (z : List Bool) (hx : WS[i]? = some x) (hxl : x.length ≤ 30) (htl : t.length ≤ 30) (hzl : z.length ≤ 40) (hIn : (In, tup4 (mw z) ta tb' tc td) ∈ Z) (hM : Has m (nmK Ds Sq Lf In (x ++ sgn u v z ++ t) t ty ti tj te i j true)) :
  StgBAt w fa cd L (blkS stJ 5 1) m (KC4 L o2 o3 o5 o6 (lx ++ (tb ++ Z))) (PTab P L o2 o3 o5 o6 As lx tb Z m) v0 := by
  intro B' F X N T C1 C2 C3 hE hret
  have F0 := fr_all0 hM F
  clear F
  obtain ⟨tx', htx⟩ := texts_at hwv hx
  have hi := (List.getElem?_eq_some_iff.mp htx).1
  have hwl := hwv.length
  have hsum := sum_lt hzl
  have hzs := sgn_len u v z
  (repeat' (first | (with_reducible refine if_ff ?_) | (with_reducible refine if_tt ?_) | (k_unfold; (try dsimp only)) | (k_end; wrow_close) | (cell_step; walk1) | (cell_step; dsimp only; walk1) | (leave1; walk_say "STEP leave1"; try dsimp only) | fail "no step"))
  refine PyProof.Rows.item_listL (News.isList N (kc_in (List.mem_append_right _ (List.mem_append_right _ hDw)))) (by omega) (by omega) (x := .str (tx x) tx') (by rw [show ((i : Nat) : Int).toNat = i from rfl]; exact htx) ?_
  (repeat' (first | (with_reducible refine if_ff ?_) | (with_reducible refine if_tt ?_) | (k_unfold; (try dsimp only)) | (k_end; wrow_close) | (cell_step; walk1) | (cell_step; dsimp only; walk1) | (leave1; walk_say "STEP leave1"; try dsimp only) | fail "no step"))
  rename Fr _ _ _ _ => F1
  have N2 := news_perm N (kc_mid (A := lx) (B := tb) (C := Z))
  clear N
  (refine' tel_use ?tH ?tB ?tF ?tX ?tN ?tT ?tC1 ?tC2 ?tC3 ?tk ?td ?tu ?_; (case tB => k_asm); (case tF => k_asm); (case tX => k_asm); (case tN => k_asm); (case tT => k_asm); (case tC1 => assumption); (case tC2 => assumption); (case tC3 => assumption); (case tk => first | exact rfl | assumption); (case tH => exact (word w tb (KC4 L o2 o3 o5 o6 (lx ++ Z)) In z u v _ _ _ _ _ _ (kc_in (List.mem_append_right _ hIn)) (by omega) hsum.1 hsum.2 (kc_tab f hlx (by decide) hZ.z37) (kc_tab f hlx (by decide) hZ.z44) htb.1)); (case td => ktr_room); (case tu => ktr_units))
  rintro v9 h9 tk9 news9 F9 N9 ⟨t9, tb9, rfl, rfl, ht9, hn9⟩
  (try dsimp only)
  have N3 := news_perm N9 (kc_mid' (A := lx) (B := tb9) (C := Z))
  clear N9 N2
  (repeat' (first | (with_reducible refine if_ff ?_) | (with_reducible refine if_tt ?_) | (k_unfold; (try dsimp only)) | (k_end; wrow_close) | (cell_step; walk1) | (cell_step; dsimp only; walk1) | (leave1; walk_say "STEP leave1"; try dsimp only) | fail "no step"))
  refine PyProof.Rows.add_str (hsz := by simp only [tx_len, sizeLine_eq]; omega) ?_
  intro t8 k8
  (try dsimp only)
  rw [tx_append]
  (repeat' (first | (with_reducible refine if_ff ?_) | (with_reducible refine if_tt ?_) | (k_unfold; (try dsimp only)) | (k_end; wrow_close) | (cell_step; walk1) | (cell_step; dsimp only; walk1) | (leave1; walk_say "STEP leave1"; try dsimp only) | fail "no step"))
  refine PyProof.Rows.add_str (hsz := by simp only [tx_len, List.length_append, sizeLine_eq]; omega) ?_
  intro t7 k7
  (try dsimp only)
  rw [tx_append]
  (repeat' (first | (with_reducible refine if_ff ?_) | (with_reducible refine if_tt ?_) | (k_unfold; (try dsimp only)) | (k_end; wrow_close) | (cell_step; walk1) | (cell_step; dsimp only; walk1) | (leave1; walk_say "STEP leave1"; try dsimp only) | fail "no step"))
  rename Fr _ _ _ _ => F3
  rename News _ _ _ _ => N5
  rw [bindAll_eq hM] at F3
  exact hret _ _ _ _ F3 N5 ⟨tb9, rfl, htb.newer ht9 (newer_top hn9 fun p hp => kc_in (List.mem_append_right _ hp)) hA, newer_top hn9 fun p hp => kc_in (List.mem_append_right _ hp), rfl⟩
end VturnJ5
theorem turnJ5 (w : World) (fa : Addr) (cd : Value) (L Ds Dw Sq Lf In : Addr) (m : Str → Option Value) (P : LexP) (f : Fix2 P L) (tot0 : Int) (lx tb Z : Led) (o2 o3 o5 o6 : Obj) (u v : Nat) (t2 t3 : Tok) (e2 : o2.data = .cell (some (.str (tx [u]) t2))) (e3 : o3.data = .cell (some (.str (tx [v]) t3))) (e5 : o5.data = .cell (some (.ref Dw))) (ws : List (List Nat)) (hlx : LexQ w P tot0 ws lx) (hZ : ZOk P Z)
   (As : List Addr) (htb : TbO As tb) (hA : ∀ a ∈ As, @LT.lt Nat _ a (topA Z))
   (wsv : List Value) (kw : Nat) (WS : List (List Nat)) (hwv : TextsAre wsv WS) (hw3 : WS.length ≤ 10) (hDw : (Dw, W.listOf wsv.toArray kw) ∈ Z)
   (x t : List Nat) (z : List Bool) (ty ti tj te : Tok) (i j : Nat) (hx : WS[i]? = some x) (hxl : x.length ≤ 30) (htl : t.length ≤ 30) (hzl : z.length ≤ 40) (ta tb' tc td : Tok) (hIn : (In, tup4 (mw z) ta tb' tc td) ∈ Z)
   (hM : Has m (nmK Ds Sq Lf In (x ++ sgn u v z ++ t) t ty ti tj te i j true)) :
  StgB w fa cd L (blkS stJ 5 1) m (KC4 L o2 o3 o5 o6 (lx ++ (tb ++ Z))) (PTab P L o2 o3 o5 o6 As lx tb Z m) := stgB_of fun zvv => (show VturnJ5.At0 w fa cd L Ds Dw Sq Lf In m P tot0 lx tb Z o2 o3 o5 o6 t2 t3 ws As wsv kw WS ty ti tj te i j ta tb' tc td zvv from eps1_all (P := VturnJ5.AtX) @VturnJ5.aux (w, fa, cd, L, Ds, Dw, Sq, Lf, In, m, P, tot0, lx, tb, Z, o2, o3, o5, o6, t2, t3, ws, As, wsv, kw, WS, ty, ti, tj, te, i, j, ta, tb', tc, td, zvv)) f u v e2 e3 e5 hlx hZ htb hA hwv hw3 hDw x t z hx hxl htl hzl hIn hM
end
section
theorem kc_ones {L : Addr} {o2 o3 o5 o6 : Obj} {A B C : Led} {x y : Addr × Obj} : ∀ p ∈ KC4 L o2 o3 o5 o6 (A ++ (B ++ x :: y :: C)), p ∈ x :: y :: KC4 L o2 o3 o5 o6 (A ++ (B ++ C)) := by
  intro p hp
  simp only [List.mem_append, List.mem_cons] at hp ⊢
  rcases hp with h | h | h | h | h | h | h | h | h <;> simp only [h, true_or, or_true]
noncomputable abbrev nmB (Ds Sq Lf In Iv : Addr) (y t : List Nat) (ty ti tj te tk : Tok) (i j k : Nat) (b : Bool) (bv : Value) : List (Str × Value) := (Str.ofString "behind", bv) :: (Str.ofString "inverse", .ref Iv) :: (Str.ofString "k", .int (k : Int) tk) :: nmK Ds Sq Lf In y t ty ti tj te i j b
inductive PJ6 (P : LexP) (L Ds Sq Lf In : Addr) (o2 o3 o5 o6 : Obj) (lx tb Z : Led) (y t : List Nat) (ty ti tj te : Tok) (i j k : Nat) (b : Bool) (q : List Bool) (r : Option (List Bool)) (m' : Str → Option Value) (news' : Led) : Prop
  | no (Iv : Addr) (tk ta tc td t9 : Tok) (zh0 : r = none) (zh1 : Has m' (nmB Ds Sq Lf In Iv y t ty ti tj te tk i j k b .none)) (zh2 : @LT.lt Nat _ P.PB Iv) (zh3 : news' = KC4 L o2 o3 o5 o6 (lx ++ (tb ++ (Iv, tup4 (invM (mw q)) ta tc td t9) :: Z)))
  | yes (Iv Bh : Addr) (c : List Bool) (tk ta tc td t9 t5 t6 t7 t8 : Tok) (zh0 : r = some c) (zh1 : Has m' (nmB Ds Sq Lf In Iv y t ty ti tj te tk i j k b (.ref Bh))) (zh2 : @LT.lt Nat _ P.PB Iv ∧ @LT.lt Nat _ P.PB Bh) (zh3 : news' = KC4 L o2 o3 o5 o6 (lx ++ (tb ++ (Bh, tup4 (mw c) t5 t6 t7 t8) :: (Iv, tup4 (invM (mw q)) ta tc td t9) :: Z)))
section
variable (w : World) (fa : Addr) (cd : Value) (L Ds Sq Lf In : Addr) (m : Str → Option Value) (P : LexP) (f : Fix2 P L) (tot0 : Int) (lx tb Z : Led) (o2 o3 o5 o6 : Obj) (ws : List (List Nat)) (hlx : LexQ w P tot0 ws lx)
   (sqv : List Value) (es : Nat) (W0 : List (List Bool)) (hW : W0.length ≤ 10) (hsq : SqIn sqv W0 Z) (hDs : (Ds, W.listOf sqv.toArray es) ∈ Z)
   (y t : List Nat) (ty ti tj te : Tok) (i j k : Nat) (hk : ((i : Int) + (j : Int) + 1).fmod 3 = (k : Int)) (q : List Bool) (hq : W0[k]? = some q)
include hlx hW hsq hDs hk hq
theorem turnJ6f (hM : Has m (nmK Ds Sq Lf In y t ty ti tj te i j false)) :
  StgB w fa cd L (blkS stJ 6 3) m (KC4 L o2 o3 o5 o6 (lx ++ (tb ++ Z))) (PJ6 P L Ds Sq Lf In o2 o3 o5 o6 lx tb Z y t ty ti tj te i j k false q none) := by
  intro mean mg mb base s rest Q E B' F X N T C1 C2 C3 hE hret
  have F0 := fr_all0 hM F
  clear F
  obtain ⟨S, a0, b0, c0, d0, q0, z0⟩ := hsq.2 k q hq
  have hsl := hsq.1
  have hkl := (List.getElem?_eq_some_iff.mp q0).1
  have inZ : ∀ {p : Addr × Obj}, p ∈ Z → p ∈ KC4 L o2 o3 o5 o6 (lx ++ (tb ++ Z)) := fun h => kc_in (List.mem_append_right _ (List.mem_append_right _ h))
  obtain ⟨oP, hoP⟩ := lexQ_PB hlx
  (repeat' (first | (with_reducible refine if_ff ?_) | (with_reducible refine if_tt ?_) | (k_unfold; (try dsimp only)) | (k_end; wrow_close) | (cell_step; walk1) | (cell_step; dsimp only; walk1) | (leave1; walk_say "STEP leave1"; try dsimp only) | fail "no step"))
  rename Fr _ _ _ _ => F1
  rename News _ _ _ _ => N1
  rw [hk] at F1
  refine PyProof.Rows.item_listL (News.isList N1 (inZ hDs)) (by omega) (by omega) (x := .ref S) (by rw [hk, show ((k : Nat) : Int).toNat = k from rfl]; exact q0) ?_
  (repeat' (first | (with_reducible refine if_ff ?_) | (with_reducible refine if_tt ?_) | (k_unfold; (try dsimp only)) | (k_end; wrow_close) | (cell_step; walk1) | (cell_step; dsimp only; walk1) | (leave1; walk_say "STEP leave1"; try dsimp only) | fail "no step"))
  (refine' tel_use ?tH ?tB ?tF ?tX ?tN ?tT ?tC1 ?tC2 ?tC3 ?tk ?td ?tu ?_; (case tB => k_asm); (case tF => k_asm); (case tX => k_asm); (case tN => k_asm); (case tT => k_asm); (case tC1 => assumption); (case tC2 => assumption); (case tC3 => assumption); (case tk => first | exact rfl | assumption); (case tH => exact (inverse w (KC4 L o2 o3 o5 o6 (lx ++ (tb ++ Z))) S (mw q) _ _ _ _ (inZ z0))); (case td => ktr_room); (case tu => ktr_units))
  rintro v9 h9 tk9 news9 F9 N9 ⟨T9, ta9, tb9, tc9, td9, rfl, rfl, hT9⟩
  (try dsimp only)
  have hPT : @LT.lt Nat _ P.PB T9 := topA_lt hT9 _ (kc_in (List.mem_append_left _ hoP))
  (repeat' (first | (with_reducible refine if_ff ?_) | (with_reducible refine if_tt ?_) | (k_unfold; (try dsimp only)) | (k_end; wrow_close) | (cell_step; walk1) | (cell_step; dsimp only; walk1) | (leave1; walk_say "STEP leave1"; try dsimp only) | fail "no step"))
  rename Fr _ _ _ _ => F2
  rename News _ _ _ _ => N2
  refine hret _ _ _ _ F2 (news_perm N2 kc_one) (.no T9 _ _ _ _ _ rfl ⟨rfl, rfl, rfl, rfl, rfl, rfl, rfl, rfl, rfl, rfl, rfl, rfl, trivial⟩ hPT rfl)
theorem turnJ6 (z : List Bool) (hzl : z.length ≤ 40) (t1 t5 t6 t7 : Tok) (hIn : (In, tup4 (mw z) t1 t5 t6 t7) ∈ Z) (hM : Has m (nmK Ds Sq Lf In y t ty ti tj te i j true)) :
  StgB w fa cd L (blkS stJ 6 3) m (KC4 L o2 o3 o5 o6 (lx ++ (tb ++ Z))) (PJ6 P L Ds Sq Lf In o2 o3 o5 o6 lx tb Z y t ty ti tj te i j k true q (beh q z)) := by
  intro mean mg mb base s rest Q E B' F X N T C1 C2 C3 hE hret
  have F0 := fr_all0 hM F
  clear F
  obtain ⟨S, a0, b0, c0, d0, q0, z0⟩ := hsq.2 k q hq
  have hsl := hsq.1
  have hkl := (List.getElem?_eq_some_iff.mp q0).1
  have inZ : ∀ {p : Addr × Obj}, p ∈ Z → p ∈ KC4 L o2 o3 o5 o6 (lx ++ (tb ++ Z)) := fun h => kc_in (List.mem_append_right _ (List.mem_append_right _ h))
  obtain ⟨oP, hoP⟩ := lexQ_PB hlx
  (repeat' (first | (with_reducible refine if_ff ?_) | (with_reducible refine if_tt ?_) | (k_unfold; (try dsimp only)) | (k_end; wrow_close) | (cell_step; walk1) | (cell_step; dsimp only; walk1) | (leave1; walk_say "STEP leave1"; try dsimp only) | fail "no step"))
  rename Fr _ _ _ _ => F1
  rename News _ _ _ _ => N1
  rw [hk] at F1
  refine PyProof.Rows.item_listL (News.isList N1 (inZ hDs)) (by omega) (by omega) (x := .ref S) (by rw [hk, show ((k : Nat) : Int).toNat = k from rfl]; exact q0) ?_
  (repeat' (first | (with_reducible refine if_ff ?_) | (with_reducible refine if_tt ?_) | (k_unfold; (try dsimp only)) | (k_end; wrow_close) | (cell_step; walk1) | (cell_step; dsimp only; walk1) | (leave1; walk_say "STEP leave1"; try dsimp only) | fail "no step"))
  (refine' tel_use ?tH ?tB ?tF ?tX ?tN ?tT ?tC1 ?tC2 ?tC3 ?tk ?td ?tu ?_; (case tB => k_asm); (case tF => k_asm); (case tX => k_asm); (case tN => k_asm); (case tT => k_asm); (case tC1 => assumption); (case tC2 => assumption); (case tC3 => assumption); (case tk => first | exact rfl | assumption); (case tH => exact (inverse w (KC4 L o2 o3 o5 o6 (lx ++ (tb ++ Z))) S (mw q) _ _ _ _ (inZ z0))); (case td => ktr_room); (case tu => ktr_units))
  rintro v9 h9 tk9 news9 F9 N9 ⟨T9, ta9, tb9, tc9, td9, rfl, rfl, hT9⟩
  (try dsimp only)
  have hPT : @LT.lt Nat _ P.PB T9 := topA_lt hT9 _ (kc_in (List.mem_append_left _ hoP))
  (repeat' (first | (with_reducible refine if_ff ?_) | (with_reducible refine if_tt ?_) | (k_unfold; (try dsimp only)) | (k_end; wrow_close) | (cell_step; walk1) | (cell_step; dsimp only; walk1) | (leave1; walk_say "STEP leave1"; try dsimp only) | fail "no step"))
  have hsum := sum_lt hzl
  rename Fr _ _ _ _ => F2
  rename News _ _ _ _ => N2
  (refine' tel_use ?tH ?tB ?tF ?tX ?tN ?tT ?tC1 ?tC2 ?tC3 ?tk ?td ?tu ?_; (case tB => k_asm); (case tF => k_asm); (case tX => k_asm); (case tN => k_asm); (case tT => k_asm); (case tC1 => assumption); (case tC2 => assumption); (case tC3 => assumption); (case tk => first | exact rfl | assumption); (case tH => exact (behind w ((T9, tup4 (invM (mw q)) ta9 tb9 tc9 td9) :: KC4 L o2 o3 o5 o6 (lx ++ (tb ++ Z))) T9 In q z _ _ _ _ _ _ _ _ (.head _) (.tail _ (inZ hIn)) hsum.1 hsum.2)); (case td => ktr_room); (case tu => ktr_units))
  rintro v8 h8 tk8 news8 F8 N8 (⟨hr, rfl, rfl⟩ | ⟨c, T8, ta8, tb8, tc8, td8, hr, rfl, rfl, hT8⟩)
  · (try dsimp only)
    (repeat' (first | (with_reducible refine if_ff ?_) | (with_reducible refine if_tt ?_) | (k_unfold; (try dsimp only)) | (k_end; wrow_close) | (cell_step; walk1) | (cell_step; dsimp only; walk1) | (leave1; walk_say "STEP leave1"; try dsimp only) | fail "no step"))
    rename Fr _ _ _ _ => F3
    rename News _ _ _ _ => N3
    exact hret _ _ _ _ F3 (news_perm N3 kc_one) (.no T9 _ _ _ _ _ hr ⟨rfl, rfl, rfl, rfl, rfl, rfl, rfl, rfl, rfl, rfl, rfl, rfl, trivial⟩ hPT rfl)
  · (try dsimp only)
    (repeat' (first | (with_reducible refine if_ff ?_) | (with_reducible refine if_tt ?_) | (k_unfold; (try dsimp only)) | (k_end; wrow_close) | (cell_step; walk1) | (cell_step; dsimp only; walk1) | (leave1; walk_say "STEP leave1"; try dsimp only) | fail "no step"))
    rename Fr _ _ _ _ => F3
    rename News _ _ _ _ => N3
    exact hret _ _ _ _ F3 (news_perm N3 kc_ones) (.yes T9 T8 c _ _ _ _ _ _ _ _ _ hr ⟨rfl, rfl, rfl, rfl, rfl, rfl, rfl, rfl, rfl, rfl, rfl, rfl, trivial⟩ ⟨hPT, Nat.lt_trans hPT (topA_lt hT8 _ (.head _))⟩ rfl)
end
end
section
theorem mul_two (x : List Nat) : Txt.mul (tx x) 2 = tx (x ++ x) := by
  have e : List.replicate (Int.toNat 2) (#[] : Array Nat) = [#[], #[]] := rfl
  unfold Txt.mul
  rw [if_neg (by decide)]
  by_cases hx : x = []
  · subst hx; rfl
  · rw [if_neg]
    · refine congrArg Str.mk ?_
      rw [show Int.toNat 2 = 2 from rfl]
      simp [List.replicate]
    · intro h
      simp at h
      rw [tx_len] at h
      exact hx (List.eq_nil_of_length_eq_zero h)
theorem dots_four (a b c : List Nat) : a ++ (([46, 46, 46] ++ b) ++ ([46, 46, 46] ++ b)) ++ [46, 46, 46] ++ c = dots (a :: ([b, b] ++ [c])) := by simp [dots]
theorem mem_three {a b c : List Nat} (h1 : 46 ∉ a) (h2 : 46 ∉ b) (h3 : 46 ∉ c) : ∀ p ∈ a :: ([b] ++ [c]), 46 ∉ p := by
  intro p hp
  simp only [List.cons_append, List.nil_append, List.mem_cons, List.not_mem_nil, or_false] at hp
  rcases hp with rfl | rfl | rfl <;> assumption
theorem mem_four {a b c : List Nat} (h1 : 46 ∉ a) (h2 : 46 ∉ b) (h3 : 46 ∉ c) : ∀ p ∈ a :: ([b, b] ++ [c]), 46 ∉ p := by
  intro p hp
  simp only [List.cons_append, List.nil_append, List.mem_cons, List.not_mem_nil, or_false] at hp
  rcases hp with rfl | rfl | rfl | rfl <;> assumption
section
variable {prog : Program} {w : World} {A : Around} {E : Value → Shared → Prop} {s : Shared}
theorem isnot_none {v : Value} {bb : Bool} {Q : Value → Shared → Prop} (h : (v = .none ∧ bb = false) ∨ ∃ B, v = .ref B ∧ bb = true) (hq : Q (.bool bb) s) : wpAny (model prog w) A (compareOp .IsNot v .none) Q E s := by
  rcases h with ⟨rfl, rfl⟩ | ⟨B, rfl, rfl⟩
  all_goals (walk1; exact hq)
end
section
variable (w : World) (fa : Addr) (cd : Value) (L Ds Dw Sq Lf In Iv : Addr) (m : Str → Option Value) (Y : Led) (o2 o3 o5 o6 : Obj) (e5 : o5.data = .cell (some (.ref Dw)))
   (wsv : List Value) (kw : Nat) (WS : List (List Nat)) (hwv : TextsAre wsv WS) (hw3 : WS.length ≤ 10) (hDw : (Dw, W.listOf wsv.toArray kw) ∈ Y) (x y t q : List Nat) (ty ti tj te tk : Tok) (i j k : Nat) (hx : WS[i]? = some x) (hq : WS[k]? = some q) (hxl : x.length ≤ 30) (hql : q.length ≤ 30) (htl : t.length ≤ 30) (hyl : y.length ≤ 100) (hxd : 46 ∉ x) (hqd : 46 ∉ q) (htd : 46 ∉ t) (b : Bool)
include e5 hwv hw3 hDw hx hq hxl hql htl hyl hxd hqd htd
theorem turnJ9 (bv : Value) (bb : Bool) (hbv : (bv = .none ∧ bb = false) ∨ ∃ B, bv = .ref B ∧ bb = true) (hb : ellQ x t [q] y = bb)
   (hM : Has m (nmB Ds Sq Lf In Iv y t ty ti tj te tk i j k b bv)) :
  StgB w fa cd L (blkS stJ 9 1) m (KC4 L o2 o3 o5 o6 Y) (PSame m (KC4 L o2 o3 o5 o6 Y)) := by
  intro mean mg mb base s rest Q E B' F X N T C1 C2 C3 hE hret
  have F0 := fr_all0 hM F
  clear F
  obtain ⟨tx', htx⟩ := texts_at hwv hx
  obtain ⟨tq', htq⟩ := texts_at hwv hq
  have hi := (List.getElem?_eq_some_iff.mp htx).1
  have hk := (List.getElem?_eq_some_iff.mp htq).1
  have hwl := hwv.length
  (repeat' (first | (with_reducible refine if_ff ?_) | (with_reducible refine if_tt ?_) | (k_unfold; (try dsimp only)) | (k_end; wrow_close) | (cell_step; walk1) | (cell_step; dsimp only; walk1) | (leave1; walk_say "STEP leave1"; try dsimp only) | fail "no step"))
  refine PyProof.Rows.item_listL (News.isList N (kc_in hDw)) (by omega) (by omega) (x := .str (tx x) tx') (by rw [show ((i : Nat) : Int).toNat = i from rfl]; exact htx) ?_
  (repeat' (first | (with_reducible refine if_ff ?_) | (with_reducible refine if_tt ?_) | (k_unfold; (try dsimp only)) | (k_end; wrow_close) | (cell_step; walk1) | (cell_step; dsimp only; walk1) | (leave1; walk_say "STEP leave1"; try dsimp only) | fail "no step"))
  refine PyProof.Rows.add_str (hsz := by rw [dots3]; simp only [tx_len, List.length_cons, List.length_nil, sizeLine_eq]; omega) ?_
  intro t8 k8
  (try dsimp only)
  rw [dots3, tx_append]
  (repeat' (first | (with_reducible refine if_ff ?_) | (with_reducible refine if_tt ?_) | (k_unfold; (try dsimp only)) | (k_end; wrow_close) | (cell_step; walk1) | (cell_step; dsimp only; walk1) | (leave1; walk_say "STEP leave1"; try dsimp only) | fail "no step"))
  refine PyProof.Rows.item_listL (News.isList N (kc_in hDw)) (by omega) (by omega) (x := .str (tx q) tq') (by rw [show ((k : Nat) : Int).toNat = k from rfl]; exact htq) ?_
  (repeat' (first | (with_reducible refine if_ff ?_) | (with_reducible refine if_tt ?_) | (k_unfold; (try dsimp only)) | (k_end; wrow_close) | (cell_step; walk1) | (cell_step; dsimp only; walk1) | (leave1; walk_say "STEP leave1"; try dsimp only) | fail "no step"))
  refine PyProof.Rows.add_str (hsz := by simp only [tx_len, List.length_append, List.length_cons, List.length_nil, sizeLine_eq]; omega) ?_
  intro t7 k7
  (try dsimp only)
  rw [tx_append]
  (repeat' (first | (with_reducible refine if_ff ?_) | (with_reducible refine if_tt ?_) | (k_unfold; (try dsimp only)) | (k_end; wrow_close) | (cell_step; walk1) | (cell_step; dsimp only; walk1) | (leave1; walk_say "STEP leave1"; try dsimp only) | fail "no step"))
  refine PyProof.Rows.add_str (hsz := by simp only [tx_len, List.length_append, List.length_cons, List.length_nil, sizeLine_eq]; omega) ?_
  intro t6 k6
  (try dsimp only)
  rw [tx_append]
  (repeat' (first | (with_reducible refine if_ff ?_) | (with_reducible refine if_tt ?_) | (k_unfold; (try dsimp only)) | (k_end; wrow_close) | (cell_step; walk1) | (cell_step; dsimp only; walk1) | (leave1; walk_say "STEP leave1"; try dsimp only) | fail "no step"))
  refine PyProof.Rows.add_str (hsz := by simp only [tx_len, List.length_append, List.length_cons, List.length_nil, sizeLine_eq]; omega) ?_
  intro t5 k5
  (try dsimp only)
  rw [tx_append, dots_three]
  (repeat' (first | (with_reducible refine if_ff ?_) | (with_reducible refine if_tt ?_) | (k_unfold; (try dsimp only)) | (k_end; wrow_close) | (cell_step; walk1) | (cell_step; dsimp only; walk1) | (leave1; walk_say "STEP leave1"; try dsimp only) | fail "no step"))
  (refine' tel_use ?tH ?tB ?tF ?tX ?tN ?tT ?tC1 ?tC2 ?tC3 ?tk ?td ?tu ?_; (case tB => k_asm); (case tF => k_asm); (case tX => k_asm); (case tN => k_asm); (case tT => k_asm); (case tC1 => assumption); (case tC2 => assumption); (case tC3 => assumption); (case tk => first | exact rfl | assumption); (case tH => exact (ell_match w (KC4 L o2 o3 o5 o6 Y) x t [q] y _ _ (mem_three hxd hqd htd) (by simp [dots]; omega) (by simp) (by omega))); (case td => ktr_room); (case tu => ktr_units))
  rintro v9 h9 tk9 news9 F9 N9 ⟨rfl, rfl⟩
  (try dsimp only)
  rw [hb]
  rcases hbv with ⟨rfl, rfl⟩ | ⟨B, rfl, rfl⟩
  all_goals (repeat' (first | (with_reducible refine if_ff ?_) | (with_reducible refine if_tt ?_) | (k_unfold; (try dsimp only)) | (k_end; wrow_close) | (cell_step; walk1) | (cell_step; dsimp only; walk1) | (leave1; walk_say "STEP leave1"; try dsimp only) | fail "no step"))
  all_goals (rename Fr _ _ _ _ => F1; rename News _ _ _ _ => N1; rw [bindAll_eq hM] at F1; exact hret _ _ _ _ F1 N1 ⟨rfl, rfl⟩)
inductive PJ10 (L Ds Sq Lf : Addr) (o2 o3 o5 o6 : Obj) (Y : Led) (y : List Nat) (ty ti : Tok) (i : Nat) (m' : Str → Option Value) (news' : Led) : Prop
  | mk (zh1 : Has m' (nmJ Ds Sq Lf y ty ti i)) (zh2 : news' = KC4 L o2 o3 o5 o6 Y)
omit e5 hwv hw3 hDw hx hq hxl hql htl hyl hxd hqd htd in
theorem turnJ10n (hM : Has m (nmB Ds Sq Lf In Iv y t ty ti tj te tk i j k b .none)) :
  StgB w fa cd L (blkS stJ 10 1) m (KC4 L o2 o3 o5 o6 Y) (PJ10 L Ds Sq Lf o2 o3 o5 o6 Y y ty ti i) := by
  intro mean mg mb base s rest Q E B' F X N T C1 C2 C3 hE hret
  have F0 := fr_all0 hM F
  clear F
  (repeat' (first | (with_reducible refine if_ff ?_) | (with_reducible refine if_tt ?_) | (k_unfold; (try dsimp only)) | (k_end; wrow_close) | (cell_step; walk1) | (cell_step; dsimp only; walk1) | (leave1; walk_say "STEP leave1"; try dsimp only) | fail "no step"))
  rename Fr _ _ _ _ => F1
  rename News _ _ _ _ => N1
  exact hret _ _ _ _ F1 N1 ⟨⟨rfl, rfl, rfl, rfl, rfl, trivial⟩, rfl⟩
theorem turnJ10 (Bh : Addr) (p c : List Bool) (hcl : c.length ≤ 40) (t1 t2 t3 t4 t5 t6 t7 t8 : Tok) (hBh : (Bh, tup4 (mw c) t1 t2 t3 t4) ∈ Y) (hIv : (Iv, tup4 (invM (mw p)) t5 t6 t7 t8) ∈ Y) (hb : ellQ x t [q, q] y = (beh p c).isSome)
   (hM : Has m (nmB Ds Sq Lf In Iv y t ty ti tj te tk i j k b (.ref Bh))) :
  StgB w fa cd L (blkS stJ 10 1) m (KC4 L o2 o3 o5 o6 Y) (PJ10 L Ds Sq Lf o2 o3 o5 o6 Y y ty ti i) := by
  intro mean mg mb base s rest Q E B' F X N T C1 C2 C3 hE hret
  have F0 := fr_all0 hM F
  clear F
  obtain ⟨tx', htx⟩ := texts_at hwv hx
  obtain ⟨tq', htq⟩ := texts_at hwv hq
  have hi := (List.getElem?_eq_some_iff.mp htx).1
  have hk := (List.getElem?_eq_some_iff.mp htq).1
  have hwl := hwv.length
  have hsum := sum_lt hcl
  (repeat' (first | (with_reducible refine if_ff ?_) | (with_reducible refine if_tt ?_) | (k_unfold; (try dsimp only)) | (k_end; wrow_close) | (cell_step; walk1) | (cell_step; dsimp only; walk1) | (leave1; walk_say "STEP leave1"; try dsimp only) | fail "no step"))
  (refine' tel_use ?tH ?tB ?tF ?tX ?tN ?tT ?tC1 ?tC2 ?tC3 ?tk ?td ?tu ?_; (case tB => k_asm); (case tF => k_asm); (case tX => k_asm); (case tN => k_asm); (case tT => k_asm); (case tC1 => assumption); (case tC2 => assumption); (case tC3 => assumption); (case tk => first | exact rfl | assumption); (case tH => exact (behind w (KC4 L o2 o3 o5 o6 Y) Iv Bh p c _ _ _ _ _ _ _ _ (kc_in hIv) (kc_in hBh) hsum.1 hsum.2)); (case td => ktr_room); (case tu => ktr_units))
  intro v8 h8 tk8 news8 F8 N8 hB8
  (try dsimp only)
  obtain ⟨D8, hv8, hn8⟩ : ∃ D8 : Led, ((v8 = .none ∧ (beh p c).isSome = false) ∨ ∃ B, v8 = .ref B ∧ (beh p c).isSome = true) ∧ news8 = D8 ++ KC4 L o2 o3 o5 o6 Y := by
    rcases hB8 with ⟨hr, rfl, rfl⟩ | ⟨z, T8, ta8, tb8, tc8, td8, hr, rfl, rfl, hT8⟩
    · exact ⟨[], .inl ⟨rfl, by rw [hr]; rfl⟩, rfl⟩
    · exact ⟨[_], .inr ⟨T8, rfl, by rw [hr]; rfl⟩, rfl⟩
  subst hn8
  have N9 := news_perm N8 (fun p hp => List.mem_append_right D8 hp)
  clear N8 hB8
  have hv9 : ∃ bb, bb = (beh p c).isSome ∧ ((v8 = .none ∧ bb = false) ∨ ∃ B, v8 = .ref B ∧ bb = true) := ⟨_, rfl, hv8⟩
  obtain ⟨bb, hbb, hv9⟩ := hv9
  rw [← hbb] at hb
  clear hbb hv8
  (repeat' (first | (with_reducible refine if_ff ?_) | (with_reducible refine if_tt ?_) | (k_unfold; (try dsimp only)) | (k_end; wrow_close) | (cell_step; walk1) | (cell_step; dsimp only; walk1) | (leave1; walk_say "STEP leave1"; try dsimp only) | fail "no step"))
  refine isnot_none hv9 ?_
  (try dsimp only)
  (repeat' (first | (with_reducible refine if_ff ?_) | (with_reducible refine if_tt ?_) | (k_unfold; (try dsimp only)) | (k_end; wrow_close) | (cell_step; walk1) | (cell_step; dsimp only; walk1) | (leave1; walk_say "STEP leave1"; try dsimp only) | fail "no step"))
  rename News _ _ _ _ => N9
  refine PyProof.Rows.item_listL (News.isList N9 (kc_in hDw)) (by omega) (by omega) (x := .str (tx x) tx') (by rw [show ((i : Nat) : Int).toNat = i from rfl]; exact htx) ?_
  (repeat' (first | (with_reducible refine if_ff ?_) | (with_reducible refine if_tt ?_) | (k_unfold; (try dsimp only)) | (k_end; wrow_close) | (cell_step; walk1) | (cell_step; dsimp only; walk1) | (leave1; walk_say "STEP leave1"; try dsimp only) | fail "no step"))
  refine PyProof.Rows.item_listL (News.isList N9 (kc_in hDw)) (by omega) (by omega) (x := .str (tx q) tq') (by rw [show ((k : Nat) : Int).toNat = k from rfl]; exact htq) ?_
  (repeat' (first | (with_reducible refine if_ff ?_) | (with_reducible refine if_tt ?_) | (k_unfold; (try dsimp only)) | (k_end; wrow_close) | (cell_step; walk1) | (cell_step; dsimp only; walk1) | (leave1; walk_say "STEP leave1"; try dsimp only) | fail "no step"))
  rw [dots3]
  refine PyProof.Rows.add_str (hsz := by simp only [tx_len, List.length_cons, List.length_nil, sizeLine_eq]; omega) ?_
  intro t7 k7
  (try dsimp only)
  rw [tx_append]
  (repeat' (first | (with_reducible refine if_ff ?_) | (with_reducible refine if_tt ?_) | (k_unfold; (try dsimp only)) | (k_end; wrow_close) | (cell_step; walk1) | (cell_step; dsimp only; walk1) | (leave1; walk_say "STEP leave1"; try dsimp only) | fail "no step"))
  refine SB.mul (PyProof.Rows.mulOk_of 40 2 (by simp only [tx_len, List.length_append, List.length_cons, List.length_nil]; omega) (by decide) (by decide) (by decide) (by decide)) fun t6 k6 => ?_
  rw [mul_two]
  (try dsimp only)
  (repeat' (first | (with_reducible refine if_ff ?_) | (with_reducible refine if_tt ?_) | (k_unfold; (try dsimp only)) | (k_end; wrow_close) | (cell_step; walk1) | (cell_step; dsimp only; walk1) | (leave1; walk_say "STEP leave1"; try dsimp only) | fail "no step"))
  refine PyProof.Rows.add_str (hsz := by simp only [tx_len, List.length_append, List.length_cons, List.length_nil, sizeLine_eq]; omega) ?_
  intro t5 k5
  (try dsimp only)
  rw [tx_append]
  (repeat' (first | (with_reducible refine if_ff ?_) | (with_reducible refine if_tt ?_) | (k_unfold; (try dsimp only)) | (k_end; wrow_close) | (cell_step; walk1) | (cell_step; dsimp only; walk1) | (leave1; walk_say "STEP leave1"; try dsimp only) | fail "no step"))
  refine PyProof.Rows.add_str (hsz := by simp only [tx_len, List.length_append, List.length_cons, List.length_nil, sizeLine_eq]; omega) ?_
  intro t4 k4
  (try dsimp only)
  rw [tx_append]
  (repeat' (first | (with_reducible refine if_ff ?_) | (with_reducible refine if_tt ?_) | (k_unfold; (try dsimp only)) | (k_end; wrow_close) | (cell_step; walk1) | (cell_step; dsimp only; walk1) | (leave1; walk_say "STEP leave1"; try dsimp only) | fail "no step"))
  refine PyProof.Rows.add_str (hsz := by simp only [tx_len, List.length_append, List.length_cons, List.length_nil, sizeLine_eq]; omega) ?_
  intro t3 k3
  (try dsimp only)
  rw [tx_append, dots_four]
  (repeat' (first | (with_reducible refine if_ff ?_) | (with_reducible refine if_tt ?_) | (k_unfold; (try dsimp only)) | (k_end; wrow_close) | (cell_step; walk1) | (cell_step; dsimp only; walk1) | (leave1; walk_say "STEP leave1"; try dsimp only) | fail "no step"))
  (refine' tel_use ?tH ?tB ?tF ?tX ?tN ?tT ?tC1 ?tC2 ?tC3 ?tk ?td ?tu ?_; (case tB => k_asm); (case tF => k_asm); (case tX => k_asm); (case tN => k_asm); (case tT => k_asm); (case tC1 => assumption); (case tC2 => assumption); (case tC3 => assumption); (case tk => first | exact rfl | assumption); (case tH => exact (ell_match w (KC4 L o2 o3 o5 o6 Y) x t [q, q] y _ _ (mem_four hxd hqd htd) (by simp [dots]; omega) (by simp) (by omega))); (case td => ktr_room); (case tu => ktr_units))
  rintro v9 h9 tk9 news9 F9 N10 ⟨rfl, rfl⟩
  (try dsimp only)
  rw [hb]
  cases bb
  all_goals (repeat' (first | (with_reducible refine if_ff ?_) | (with_reducible refine if_tt ?_) | (k_unfold; (try dsimp only)) | (k_end; wrow_close) | (cell_step; walk1) | (cell_step; dsimp only; walk1) | (leave1; walk_say "STEP leave1"; try dsimp only) | fail "no step"))
  all_goals (rename Fr _ _ _ _ => F1; rename News _ _ _ _ => N1; exact hret _ _ _ _ F1 N1 ⟨⟨rfl, rfl, rfl, rfl, rfl, trivial⟩, rfl⟩)
end
end
section
inductive PJ (w : World) (P : LexP) (tot0 : Int) (L Ds Sq Lf : Addr) (o2 o3 o5 o6 : Obj) (As : List Addr) (tb Z : Led) (ws : List (List Nat)) (y : List Nat) (ty ti : Tok) (i : Nat) (m' : Str → Option Value) (news' : Led) : Prop
  | mk (lx' tb' : Led) (zh1 : Has m' (nmJ Ds Sq Lf y ty ti i)) (zh2 : LexQ w P tot0 ws lx') (zh3 : TbO As tb') (zh4 : Newer tb tb' (topA Z)) (zh5 : news' = KC4 L o2 o3 o5 o6 (lx' ++ (tb' ++ Z)))
theorem top_cons_lt {a : Nat} {q : Addr × Obj} {Z : Led} (h : @LT.lt Nat _ a (topA Z)) : @LT.lt Nat _ a (topA (q :: Z)) := Nat.lt_of_lt_of_le h (by rw [topA_cons]; exact Nat.le_max_right _ _)
theorem drop_one {L : Addr} {o2 o3 o5 o6 : Obj} {A B C : Led} {x : Addr × Obj} : ∀ p ∈ KC4 L o2 o3 o5 o6 (A ++ (B ++ C)), p ∈ KC4 L o2 o3 o5 o6 (A ++ (B ++ x :: C)) := kc_sub fun p hp => by
  rcases List.mem_append.mp hp with hp | hp
  · exact List.mem_append_left _ hp
  rcases List.mem_append.mp hp with hp | hp
  · exact List.mem_append_right _ (List.mem_append_left _ hp)
  · exact List.mem_append_right _ (List.mem_append_right _ (.tail _ hp))
structure Env1 (P : LexP) (L Ds Dw : Addr) (o2 o3 o5 o6 : Obj) (u v : Nat) (W0 : List (List Bool)) (Z : Led) : Prop where
  f : Fix2 P L
  e2 : ∃ t, o2.data = .cell (some (.str (tx [u]) t))
  e3 : ∃ t, o3.data = .cell (some (.str (tx [v]) t))
  e5 : o5.data = .cell (some (.ref Dw))
  e6 : o6.data = .cell (some (.ref P.X))
  huv : u ≠ v
  hu : u ≠ 46
  hv : v ≠ 46
  hW : W0.length = 3
  h10 : ∀ x ∈ W0, x.length ≤ 10
  hw : ∃ wsv kw, TextsAre wsv (W0.map (sgn u v)) ∧ (Dw, W.listOf wsv.toArray kw) ∈ Z
  hs : ∃ sqv es, SqIn sqv W0 Z ∧ (Ds, W.listOf sqv.toArray es) ∈ Z
  hZ : ZOk P Z
theorem Env1.cons {P : LexP} {L Ds Dw : Addr} {o2 o3 o5 o6 : Obj} {u v : Nat} {W0 : List (List Bool)} {Z : Led} (h : Env1 P L Ds Dw o2 o3 o5 o6 u v W0 Z) {I : Addr} {o : Obj} (hI : @LT.lt Nat _ P.PB I) : Env1 P L Ds Dw o2 o3 o5 o6 u v W0 ((I, o) :: Z) :=
  ⟨h.f, h.e2, h.e3, h.e5, h.e6, h.huv, h.hu, h.hv, h.hW, h.h10, by obtain ⟨a, b, c, d⟩ := h.hw; exact ⟨a, b, c, .tail _ d⟩, by obtain ⟨a, b, c, d⟩ := h.hs; exact ⟨a, b, c.mono fun p hp => .tail _ hp, .tail _ d⟩, h.hZ.cons h.f hI⟩
section
variable (w : World) (fa : Addr) (cd : Value) (L Ds Dw Sq Lf : Addr) (m : Str → Option Value) (P : LexP) (tot0 : Int) (lx tb Z : Led) (o2 o3 o5 o6 : Obj) (u v : Nat) (W0 : List (List Bool)) (e : Env1 P L Ds Dw o2 o3 o5 o6 u v W0 Z) (ws : List (List Nat)) (t : List Bool) (hlx : LexQ w P tot0 (sgn u v t :: ws) lx) (hws : ws.length ≤ 10)
   (As : List Addr) (htb : TbO As tb) (hA : ∀ a ∈ As, @LT.lt Nat _ a (topA Z)) (hP : P.PB ∈ As)
   (x y q : List Bool) (hyl : y.length ≤ 40) (ta tc td tf : Tok) (hLf : (Lf, tup4 (mulM (invM (mw x)) (mw y)) ta tc td tf) ∈ Z) (ty ti tj : Tok) (i j k : Nat) (hx : W0[i]? = some x) (ht : W0[j]? = some t) (hq : W0[k]? = some q) (hk : ((i : Int) + (j : Int) + 1).fmod 3 = (k : Int))
   (hM : Has m ((Str.ofString "j", .int (j : Int) tj) :: nmJ Ds Sq Lf (sgn u v y) ty ti i))
include e hlx hws htb hA hP hyl hLf hx ht hq hk hM
theorem turnJ : StgB w fa cd L (blkS stJ 0 11) m (KC4 L o2 o3 o5 o6 (lx ++ (tb ++ Z))) (PJ w P tot0 L Ds Sq Lf o2 o3 o5 o6 As tb Z (ws ++ [sgn u v t]) (sgn u v y) ty ti i) := by
  obtain ⟨f, ⟨t2, e2⟩, ⟨t3, e3⟩, e5, e6, huv, hu, hv, hW, h10, ⟨wsv, kw, hwv, hDw⟩, ⟨sqv, es, hsq, hDs⟩, hZ⟩ := e
  have hxl := h10 x (List.mem_of_getElem? hx)
  have htl := h10 t (List.mem_of_getElem? ht)
  have hql := h10 q (List.mem_of_getElem? hq)
  have hxs : (W0.map (sgn u v))[i]? = some (sgn u v x) := by rw [List.getElem?_map, hx]; rfl
  have hqs : (W0.map (sgn u v))[k]? = some (sgn u v q) := by rw [List.getElem?_map, hq]; rfl
  have hw3 : (W0.map (sgn u v)).length ≤ 10 := by rw [List.length_map, hW]; decide
  have lx1 : (sgn u v x).length ≤ 30 := by rw [sgn_len]; omega
  have lt1 : (sgn u v t).length ≤ 30 := by rw [sgn_len]; omega
  have lq1 : (sgn u v q).length ≤ 30 := by rw [sgn_len]; omega
  have ly1 : (sgn u v y).length ≤ 100 := by rw [sgn_len]; omega
  have dx := wd_bound (x := x) hu hv
  have dt := wd_bound (x := t) hu hv
  have dq := wd_bound (x := q) hu hv
  have htbP : ∀ p ∈ tb ++ Z, p.1 ≠ P.PB := fun p hp => by
    rcases List.mem_append.mp hp with hp | hp
    · exact htb.2 p hp _ hP
    · exact hZ.zP p hp
  rw [show (11 : Nat) = 2 + (2 + (1 + (1 + (3 + (1 + 1))))) from rfl, blkS_add, blkS_add, blkS_add, blkS_add, blkS_add, blkS_add]
  refine StgB.seq (turnJ1 w fa cd L Ds Sq Lf m P f tot0 lx (tb ++ Z) o2 o3 o5 o6 e6 (sgn u v t) ws hlx hws htbP (sgn u v y) ty ti tj i j hM) ?_
  rintro m1 n1 ⟨lx1', te, hM1, hlx1, rfl⟩
  refine StgB.seq (turnJ2 w fa cd L Ds Sq Lf m1 P f tot0 lx1' tb Z o2 o3 o5 o6 _ hlx1 sqv es W0 (by omega) hsq hDs ta tc td tf _ hLf t htl (sgn u v y) (sgn u v t) ty ti tj te i j ht hM1) ?_
  rintro m2 n2 ⟨In, a1, a2, a3, a4, hM2, hPIn, rfl⟩
  have hZ5 : ZOk P ((In, tup4 (mulM (mulM (invM (mw x)) (mw y)) (invM (mw t))) a1 a2 a3 a4) :: Z) := hZ.cons f hPIn
  have hA5 : ∀ a ∈ As, @LT.lt Nat _ a (topA ((In, tup4 (mulM (mulM (invM (mw x)) (mw y)) (invM (mw t))) a1 a2 a3 a4) :: Z)) := fun a ha => top_cons_lt (hA a ha)
  have in5 : ∀ {p : Addr × Obj} {B : Led} {q : Addr × Obj}, p ∈ Z → p ∈ lx1' ++ (B ++ q :: Z) := fun h => List.mem_append_right _ (List.mem_append_right _ (.tail _ h))
  refine StgB.seq (turnJ4 w fa cd L Ds Dw Sq Lf In m2 (lx1' ++ (tb ++ (In, tup4 (mulM (mulM (invM (mw x)) (mw y)) (invM (mw t))) a1 a2 a3 a4) :: Z)) o2 o3 o5 o6 e5 wsv kw _ hwv hw3 (in5 hDw) (sgn u v x) (sgn u v y) (sgn u v t) ty ti tj te i j hxs lx1 lt1 ly1 dx dt _ ?k4 hM2) ?_
  case k4 => rw [Bool.eq_iff_iff, nnB_iff]; exact ell_two huv x t y
  rintro m4 n4 ⟨rfl, rfl⟩
  by_cases hn : nnM (mulM (mulM (invM (mw x)) (mw y)) (invM (mw t)))
  · obtain ⟨z, rfl⟩ := (both_nn x y t).mp hn
    have hb1 : nnB (mulM (mulM (invM (mw x)) (mw (x ++ z ++ t))) (invM (mw t))) = true := (nnB_iff _).mpr hn
    rw [hb1] at hM2
    rw [both_is] at hZ5 hA5 ⊢
    have hzl : z.length ≤ 40 := by simp only [List.length_append] at hyl; omega
    have hM3 := hM2
    rw [sgn_app, sgn_app] at hM3
    refine StgB.seq (turnJ5 w fa cd L Ds Dw Sq Lf In m4 P f tot0 lx1' tb ((In, tup4 (mw z) a1 a2 a3 a4) :: Z) o2 o3 o5 o6 u v t2 t3 e2 e3 e5 _ hlx1 hZ5 As htb hA5 wsv kw _ hwv hw3 (.tail _ hDw) (sgn u v x) (sgn u v t) z ty ti tj te i j hxs lx1 lt1 hzl a1 a2 a3 a4 (.head _) hM3) ?_
    rintro m5 n5 ⟨tb5, rfl, htb5, hn5, rfl⟩
    have hn5' : Newer tb tb5 (topA Z) := newer_top hn5 fun p hp => .tail _ hp
    refine StgB.seq (turnJ6 w fa cd L Ds Sq Lf In m5 P tot0 lx1' tb5 ((In, tup4 (mw z) a1 a2 a3 a4) :: Z) o2 o3 o5 o6 _ hlx1 sqv es W0 (by omega) (hsq.mono fun p hp => .tail _ hp) (.tail _ hDs) _ (sgn u v t) ty ti tj te i j k hk q hq z hzl a1 a2 a3 a4 (.head _) hM2) ?_
    rintro m6 n6 (⟨Iv, tk, b1, b2, b3, b4, hr, hM6, hPI, rfl⟩ | ⟨Iv, Bh, c, tk, b1, b2, b3, b4, b5, b6, b7, b8, hr, hM6, hPI, rfl⟩)
    · have hD9 : (Dw, W.listOf wsv.toArray kw) ∈ lx1' ++ (tb5 ++ (Iv, tup4 (invM (mw q)) b1 b2 b3 b4) :: (In, tup4 (mw z) a1 a2 a3 a4) :: Z) := List.mem_append_right _ (List.mem_append_right _ (.tail _ (.tail _ hDw)))
      refine StgB.seq (turnJ9 w fa cd L Ds Dw Sq Lf In Iv m6 _ o2 o3 o5 o6 e5 wsv kw _ hwv hw3 hD9 (sgn u v x) _ (sgn u v t) (sgn u v q) ty ti tj te tk i j k hxs hqs lx1 lq1 lt1 ly1 dx dq dt true .none false (.inl ⟨rfl, rfl⟩) (by rw [ell_three huv, hr]; rfl) hM6) ?_
      rintro m9 n9 ⟨rfl, rfl⟩
      refine StgB.post (turnJ10n w fa cd L Ds Sq Lf In Iv m9 _ o2 o3 o5 o6 _ (sgn u v t) ty ti tj te tk i j k true hM6) ?_
      rintro m10 n10 ⟨hM10, rfl⟩
      exact ⟨_, fun p hp => drop_one p (drop_one p hp), lx1', tb5, hM10, hlx1, htb5, hn5', rfl⟩
    · have hD9 : (Dw, W.listOf wsv.toArray kw) ∈ lx1' ++ (tb5 ++ (Bh, tup4 (mw c) b5 b6 b7 b8) :: (Iv, tup4 (invM (mw q)) b1 b2 b3 b4) :: (In, tup4 (mw z) a1 a2 a3 a4) :: Z) := List.mem_append_right _ (List.mem_append_right _ (.tail _ (.tail _ (.tail _ hDw))))
      refine StgB.seq (turnJ9 w fa cd L Ds Dw Sq Lf In Iv m6 _ o2 o3 o5 o6 e5 wsv kw _ hwv hw3 hD9 (sgn u v x) _ (sgn u v t) (sgn u v q) ty ti tj te tk i j k hxs hqs lx1 lq1 lt1 ly1 dx dq dt true (.ref Bh) true (.inr ⟨Bh, rfl, rfl⟩) (by rw [ell_three huv, hr]; rfl) hM6) ?_
      rintro m9 n9 ⟨rfl, rfl⟩
      have hcl := beh_len hr
      refine StgB.post (turnJ10 w fa cd L Ds Dw Sq Lf In Iv m9 _ o2 o3 o5 o6 e5 wsv kw _ hwv hw3 hD9 (sgn u v x) _ (sgn u v t) (sgn u v q) ty ti tj te tk i j k hxs hqs lx1 lq1 lt1 ly1 dx dq dt true Bh q c (by omega) b5 b6 b7 b8 b1 b2 b3 b4 (List.mem_append_right _ (List.mem_append_right _ (.head _))) (List.mem_append_right _ (List.mem_append_right _ (.tail _ (.head _)))) (ell_four huv hr) hM6) ?_
      rintro m10 n10 ⟨hM10, rfl⟩
      exact ⟨_, fun p hp => drop_one p (drop_one p (drop_one p hp)), lx1', tb5, hM10, hlx1, htb5, hn5', rfl⟩
  · have hb1 : nnB (mulM (mulM (invM (mw x)) (mw y)) (invM (mw t))) = false := Bool.eq_false_iff.mpr fun h => hn ((nnB_iff _).mp h)
    rw [hb1] at hM2
    refine StgB.seq (turnJ5f w fa cd L Ds Sq Lf In m4 _ o2 o3 o5 o6 (sgn u v y) (sgn u v t) ty ti tj te i j hM2) ?_
    rintro m5 n5 ⟨rfl, rfl⟩
    refine StgB.seq (turnJ6f w fa cd L Ds Sq Lf In m5 P tot0 lx1' tb ((In, tup4 (mulM (mulM (invM (mw x)) (mw y)) (invM (mw t))) a1 a2 a3 a4) :: Z) o2 o3 o5 o6 _ hlx1 sqv es W0 (by omega) (hsq.mono fun p hp => .tail _ hp) (.tail _ hDs) (sgn u v y) (sgn u v t) ty ti tj te i j k hk q hq hM2) ?_
    rintro m6 n6 (⟨Iv, tk, b1, b2, b3, b4, hr, hM6, hPI, rfl⟩ | ⟨Iv, Bh, c, tk, b1, b2, b3, b4, b5, b6, b7, b8, hr, hM6, hPI, rfl⟩)
    · have hD9 : (Dw, W.listOf wsv.toArray kw) ∈ lx1' ++ (tb ++ (Iv, tup4 (invM (mw q)) b1 b2 b3 b4) :: (In, tup4 (mulM (mulM (invM (mw x)) (mw y)) (invM (mw t))) a1 a2 a3 a4) :: Z) := List.mem_append_right _ (List.mem_append_right _ (.tail _ (.tail _ hDw)))
      refine StgB.seq (turnJ9 w fa cd L Ds Dw Sq Lf In Iv m6 _ o2 o3 o5 o6 e5 wsv kw _ hwv hw3 hD9 (sgn u v x) _ (sgn u v t) (sgn u v q) ty ti tj te tk i j k hxs hqs lx1 lq1 lt1 ly1 dx dq dt false .none false (.inl ⟨rfl, rfl⟩) (ell_nofit huv [sgn u v q] hn) hM6) ?_
      rintro m9 n9 ⟨rfl, rfl⟩
      refine StgB.post (turnJ10n w fa cd L Ds Sq Lf In Iv m9 _ o2 o3 o5 o6 _ (sgn u v t) ty ti tj te tk i j k false hM6) ?_
      rintro m10 n10 ⟨hM10, rfl⟩
      exact ⟨_, fun p hp => drop_one p (drop_one p hp), lx1', tb, hM10, hlx1, htb, Newer.rfl _ _, rfl⟩
    · cases hr
end
end
section
inductive JInv (w : World) (P : LexP) (tot0 : Int) (L Ds Sq Lf I : Addr) (o2 o3 o5 o6 : Obj) (As : List Addr) (tb Z : Led) (WS : List (List Nat)) (y : List Nat) (ty ti : Tok) (i : Nat) (j : Nat) (m' : Str → Option Value) (nx : Led) : Prop
  | mk (lx' tb' : Led) (zh1 : Has m' (nmJ Ds Sq Lf y ty ti i)) (zh2 : LexQ w P tot0 (WS.drop j ++ WS.take j) lx') (zh3 : TbO (I :: As) tb') (zh4 : Newer tb tb' (topA Z)) (zh5 : nx = KC4 L o2 o3 o5 o6 (lx' ++ (tb' ++ Z)))
theorem mod3_is (i j : Nat) : ((i : Int) + (j : Int) + 1).fmod 3 = (((i + j + 1) % 3 : Nat) : Int) := by
  rw [Int.fmod_eq_emod_of_nonneg _ (by decide)]
  push_cast
  rfl
theorem ex_at {W0 : List (List Bool)} (h : W0.length = 3) {i : Nat} (hi : i < 3) : ∃ x, W0[i]? = some x := ⟨W0[i], List.getElem?_eq_getElem (by omega)⟩
theorem turn_words {WS : List (List Nat)} {j : Nat} {t : List Nat} (h : WS[j]? = some t) : WS.drop j ++ WS.take j = t :: (WS.drop (j + 1) ++ WS.take j) ∧ (WS.drop (j + 1) ++ WS.take j) ++ [t] = WS.drop (j + 1) ++ WS.take (j + 1) := by
  have hj := (List.getElem?_eq_some_iff.mp h).1
  have h3 := (List.getElem?_eq_some_iff.mp h).2
  constructor
  · rw [List.drop_eq_getElem_cons hj, h3]; rfl
  · rw [List.take_add_one, h]
    simp
namespace VloopJ
noncomputable def At0 (w : World) (fa : Addr) (cd : Value) (L : Addr) (Ds : Addr) (Dw : Addr) (Sq : Addr) (Lf : Addr) (m : Str → Option Value) (P : LexP) (tot0 : Int) (lx : Led) (tb : Led) (Z : Led) (o2 : Obj) (o3 : Obj) (o5 : Obj) (o6 : Obj) (u : Nat) (v : Nat) (W0 : List (List Bool)) (As : List Addr) (x : List Bool) (y : List Bool) (ta : Tok) (tc : Tok) (td : Tok) (tf : Tok) (ty : Tok) (ti : Tok) (i : Nat) (zvv : StgV) : Prop := ∀ (e : Env1 P L Ds Dw o2 o3 o5 o6 u v W0 Z) (hlx : LexQ w P tot0 (W0.map (sgn u v)) lx) (htb : TbO As tb) (hA : ∀ a ∈ As, @LT.lt Nat _ a (topA Z)) (hP : P.PB ∈ As) (hyl : y.length ≤ 40) (hLf : (Lf, tup4 (mulM (invM (mw x)) (mw y)) ta tc td tf) ∈ Z) (hx : W0[i]? = some x) (hM : Has m (nmJ Ds Sq Lf (sgn u v y) ty ti i)), StgBAt w fa cd L (blkS stI 2 1) m (KC4 L o2 o3 o5 o6 (lx ++ (tb ++ Z))) (PJ w P tot0 L Ds Sq Lf o2 o3 o5 o6 As tb Z (W0.map (sgn u v)) (sgn u v y) ty ti i) zvv
noncomputable def AtX (x : (World) × (Addr) × (Value) × (Addr) × (Addr) × (Addr) × (Addr) × (Addr) × (Str → Option Value) × (LexP) × (Int) × (Led) × (Led) × (Led) × (Obj) × (Obj) × (Obj) × (Obj) × (Nat) × (Nat) × (List (List Bool)) × (List Addr) × (List Bool) × (List Bool) × (Tok) × (Tok) × (Tok) × (Tok) × (Tok) × (Tok) × (Nat) × StgV) : Prop := At0 (x.1) (x.2.1) (x.2.2.1) (x.2.2.2.1) (x.2.2.2.2.1) (x.2.2.2.2.2.1) (x.2.2.2.2.2.2.1) (x.2.2.2.2.2.2.2.1) (x.2.2.2.2.2.2.2.2.1) (x.2.2.2.2.2.2.2.2.2.1) (x.2.2.2.2.2.2.2.2.2.2.1) (x.2.2.2.2.2.2.2.2.2.2.2.1) (x.2.2.2.2.2.2.2.2.2.2.2.2.1) (x.2.2.2.2.2.2.2.2.2.2.2.2.2.1) (x.2.2.2.2.2.2.2.2.2.2.2.2.2.2.1) (x.2.2.2.2.2.2.2.2.2.2.2.2.2.2.2.1) (x.2.2.2.2.2.2.2.2.2.2.2.2.2.2.2.2.1) (x.2.2.2.2.2.2.2.2.2.2.2.2.2.2.2.2.2.1) (x.2.2.2.2.2.2.2.2.2.2.2.2.2.2.2.2.2.2.1) (x.2.2.2.2.2.2.2.2.2.2.2.2.2.2.2.2.2.2.2.1) (x.2.2.2.2.2.2.2.2.2.2.2.2.2.2.2.2.2.2.2.2.1) (x.2.2.2.2.2.2.2.2.2.2.2.2.2.2.2.2.2.2.2.2.2.1) (x.2.2.2.2.2.2.2.2.2.2.2.2.2.2.2.2.2.2.2.2.2.2.1) (x.2.2.2.2.2.2.2.2.2.2.2.2.2.2.2.2.2.2.2.2.2.2.2.1) (x.2.2.2.2.2.2.2.2.2.2.2.2.2.2.2.2.2.2.2.2.2.2.2.2.1) (x.2.2.2.2.2.2.2.2.2.2.2.2.2.2.2.2.2.2.2.2.2.2.2.2.2.1) (x.2.2.2.2.2.2.2.2.2.2.2.2.2.2.2.2.2.2.2.2.2.2.2.2.2.2.1) (x.2.2.2.2.2.2.2.2.2.2.2.2.2.2.2.2.2.2.2.2.2.2.2.2.2.2.2.1) (x.2.2.2.2.2.2.2.2.2.2.2.2.2.2.2.2.2.2.2.2.2.2.2.2.2.2.2.2.1) (x.2.2.2.2.2.2.2.2.2.2.2.2.2.2.2.2.2.2.2.2.2.2.2.2.2.2.2.2.2.1) (x.2.2.2.2.2.2.2.2.2.2.2.2.2.2.2.2.2.2.2.2.2.2.2.2.2.2.2.2.2.2.1) (x.2.2.2.2.2.2.2.2.2.2.2.2.2.2.2.2.2.2.2.2.2.2.2.2.2.2.2.2.2.2.2)
noncomputable def cc0 : (World) × (Addr) × (Value) × (Addr) × (Addr) × (Addr) × (Addr) × (Addr) × (Str → Option Value) × (LexP) × (Int) × (Led) × (Led) × (Led) × (Obj) × (Obj) × (Obj) × (Obj) × (Nat) × (Nat) × (List (List Bool)) × (List Addr) × (List Bool) × (List Bool) × (Tok) × (Tok) × (Tok) × (Tok) × (Tok) × (Tok) × (Nat) × StgV := eps1 (ne_prod ne_world (ne_prod ne_addr (ne_prod ne_value (ne_prod ne_addr (ne_prod ne_addr (ne_prod ne_addr (ne_prod ne_addr (ne_prod ne_addr (ne_prod ne_par (ne_prod ne_lexp (ne_prod ne_int (ne_prod ne_led (ne_prod ne_led (ne_prod ne_led (ne_prod ne_obj (ne_prod ne_obj (ne_prod ne_obj (ne_prod ne_obj (ne_prod ne_nat (ne_prod ne_nat (ne_prod ne_list (ne_prod ne_list (ne_prod ne_list (ne_prod ne_list (ne_prod ne_tok (ne_prod ne_tok (ne_prod ne_tok (ne_prod ne_tok (ne_prod ne_tok (ne_prod ne_tok (ne_prod ne_nat stgV_ne))))))))))))))))))))))))))))))) AtX
noncomputable def w : World := cc0.1
noncomputable def fa : Addr := cc0.2.1
noncomputable def cd : Value := cc0.2.2.1
noncomputable def L : Addr := cc0.2.2.2.1
noncomputable def Ds : Addr := cc0.2.2.2.2.1
noncomputable def Dw : Addr := cc0.2.2.2.2.2.1
noncomputable def Sq : Addr := cc0.2.2.2.2.2.2.1
noncomputable def Lf : Addr := cc0.2.2.2.2.2.2.2.1
noncomputable def m : Str → Option Value := cc0.2.2.2.2.2.2.2.2.1
noncomputable def P : LexP := cc0.2.2.2.2.2.2.2.2.2.1
noncomputable def tot0 : Int := cc0.2.2.2.2.2.2.2.2.2.2.1
noncomputable def lx : Led := cc0.2.2.2.2.2.2.2.2.2.2.2.1
noncomputable def tb : Led := cc0.2.2.2.2.2.2.2.2.2.2.2.2.1
noncomputable def Z : Led := cc0.2.2.2.2.2.2.2.2.2.2.2.2.2.1
noncomputable def o2 : Obj := cc0.2.2.2.2.2.2.2.2.2.2.2.2.2.2.1
noncomputable def o3 : Obj := cc0.2.2.2.2.2.2.2.2.2.2.2.2.2.2.2.1
noncomputable def o5 : Obj := cc0.2.2.2.2.2.2.2.2.2.2.2.2.2.2.2.2.1
noncomputable def o6 : Obj := cc0.2.2.2.2.2.2.2.2.2.2.2.2.2.2.2.2.2.1
noncomputable def u : Nat := cc0.2.2.2.2.2.2.2.2.2.2.2.2.2.2.2.2.2.2.1
noncomputable def v : Nat := cc0.2.2.2.2.2.2.2.2.2.2.2.2.2.2.2.2.2.2.2.1
noncomputable def W0 : List (List Bool) := cc0.2.2.2.2.2.2.2.2.2.2.2.2.2.2.2.2.2.2.2.2.1
noncomputable def As : List Addr := cc0.2.2.2.2.2.2.2.2.2.2.2.2.2.2.2.2.2.2.2.2.2.1
noncomputable def x : List Bool := cc0.2.2.2.2.2.2.2.2.2.2.2.2.2.2.2.2.2.2.2.2.2.2.1
noncomputable def y : List Bool := cc0.2.2.2.2.2.2.2.2.2.2.2.2.2.2.2.2.2.2.2.2.2.2.2.1
noncomputable def ta : Tok := cc0.2.2.2.2.2.2.2.2.2.2.2.2.2.2.2.2.2.2.2.2.2.2.2.2.1
noncomputable def tc : Tok := cc0.2.2.2.2.2.2.2.2.2.2.2.2.2.2.2.2.2.2.2.2.2.2.2.2.2.1
noncomputable def td : Tok := cc0.2.2.2.2.2.2.2.2.2.2.2.2.2.2.2.2.2.2.2.2.2.2.2.2.2.2.1
noncomputable def tf : Tok := cc0.2.2.2.2.2.2.2.2.2.2.2.2.2.2.2.2.2.2.2.2.2.2.2.2.2.2.2.1
noncomputable def ty : Tok := cc0.2.2.2.2.2.2.2.2.2.2.2.2.2.2.2.2.2.2.2.2.2.2.2.2.2.2.2.2.1
noncomputable def ti : Tok := cc0.2.2.2.2.2.2.2.2.2.2.2.2.2.2.2.2.2.2.2.2.2.2.2.2.2.2.2.2.2.1
noncomputable def i : Nat := cc0.2.2.2.2.2.2.2.2.2.2.2.2.2.2.2.2.2.2.2.2.2.2.2.2.2.2.2.2.2.2.1
noncomputable def v0 : StgV := cc0.2.2.2.2.2.2.2.2.2.2.2.2.2.2.2.2.2.2.2.2.2.2.2.2.2.2.2.2.2.2.2
noncomputable abbrev mean := v0.mean
noncomputable abbrev mg := v0.mg
noncomputable abbrev mb := v0.mb
noncomputable abbrev base := v0.base
noncomputable abbrev rest := v0.rest
noncomputable abbrev E := v0.E
theorem aux (e : Env1 P L Ds Dw o2 o3 o5 o6 u v W0 Z) (hlx : LexQ w P tot0 (W0.map (sgn u v)) lx) (htb : TbO As tb) (hA : ∀ a ∈ As, @LT.lt Nat _ a (topA Z)) (hP : P.PB ∈ As) (hyl : y.length ≤ 40) (hLf : (Lf, tup4 (mulM (invM (mw x)) (mw y)) ta tc td tf) ∈ Z) (hx : W0[i]? = some x) (hM : Has m (nmJ Ds Sq Lf (sgn u v y) ty ti i)) :
  StgBAt w fa cd L (blkS stI 2 1) m (KC4 L o2 o3 o5 o6 (lx ++ (tb ++ Z))) (PJ w P tot0 L Ds Sq Lf o2 o3 o5 o6 As tb Z (W0.map (sgn u v)) (sgn u v y) ty ti i) v0 := by
  intro B F X N T C1 C2 C3 hE hret
  have F0 := fr_all0 hM F
  clear F
  (repeat' (first | (with_reducible refine if_ff ?_) | (with_reducible refine if_tt ?_) | (k_unfold; (try dsimp only)) | (k_end; wrow_close) | (cell_step; walk1) | (cell_step; dsimp only; walk1) | (leave1; walk_say "STEP leave1"; try dsimp only) | fail "no step"))
  (rename Fr _ _ _ _ => lF')
  (with_unfolding_all refine' For_invVF (hE := hE) lF' ?k1 ?k2 ?_; (case k1 => exact rfl); (case k2 => exact rfl))
  (repeat' (first | (with_reducible refine if_ff ?_) | (with_reducible refine if_tt ?_) | (k_unfold; (try dsimp only)) | (k_end; wrow_close) | (cell_step; walk1) | (cell_step; dsimp only; walk1) | (leave1; walk_say "STEP leave1"; try dsimp only) | fail "no step"))
  rename Fr _ _ _ _ => F1
  rename News _ _ _ _ => N1
  refine' iter_rangeUnr (n := 3) rfl (by assumption) (by rfl) (by rfl) F1 N1 ?rest
  case rest =>
  intro I hI
  have hZI : ∀ p ∈ Z, @LT.lt Nat _ p.1 I := fun p hp => hI p (kc_in (List.mem_append_right _ (List.mem_append_right _ hp)))
  have htI : ∀ p ∈ tb, @LT.lt Nat _ p.1 I := fun p hp => hI p (kc_in (List.mem_append_right _ (List.mem_append_left _ hp)))
  obtain ⟨oP, hoP⟩ := lexQ_PB hlx
  have hPI : @LT.lt Nat _ P.PB I := hI _ (kc_in (List.mem_append_left _ hoP))
  have hW := e.hW
  refine rangeRest_indR (JInv w P tot0 L Ds Sq Lf I o2 o3 o5 o6 As tb Z (W0.map (sgn u v)) (sgn u v y) ty ti i) ?zero ?succ _ _ _ _ (by omega) ?init
  case init =>
    exact ⟨lx, tb, ⟨rfl, rfl, rfl, rfl, rfl, trivial⟩, by rw [List.drop_zero, List.take_zero, List.append_nil]; exact hlx, htb.cons (topA_of htI), Newer.rfl _ _, rfl⟩
  case zero =>
    rintro j m' nx ⟨lx', tb', hM', hlx', htb', hn', rfl⟩ hj6 h6 tk6 F6 N6
    subst hj6
    rw [List.drop_eq_nil_of_le (by rw [List.length_map, hW]; exact Nat.le_refl 3), List.take_of_length_le (by rw [List.length_map, hW]; exact Nat.le_refl 3), List.nil_append] at hlx'
    (try dsimp only)
    (repeat' (first | (with_reducible refine if_ff ?_) | (with_reducible refine if_tt ?_) | (k_unfold; (try dsimp only)) | (k_end; wrow_close) | (cell_step; walk1) | (cell_step; dsimp only; walk1) | (leave1; walk_say "STEP leave1"; try dsimp only) | fail "no step"))
    exact hret _ _ _ _ F6 N6 ⟨lx', tb', hM', hlx', htb'.tail, hn', rfl⟩
  case succ =>
    rintro j m' nx ⟨lx', tb', hM', hlx', htb', hn', rfl⟩ hj6 tj h6 tk6 F6 N6 R9 hR9
    obtain ⟨t, ht⟩ := ex_at hW hj6
    obtain ⟨q, hq⟩ := ex_at hW (Nat.mod_lt (i + j + 1) (by decide : 0 < 3))
    have hts : (W0.map (sgn u v))[j]? = some (sgn u v t) := by rw [List.getElem?_map, ht]; rfl
    obtain ⟨hd1, hd2⟩ := turn_words hts
    rw [hd1] at hlx'
    have N7 := news_perm N6 kc_one
    clear N6 N1
    rw [Int.zero_add] at F6
    have hA7 : ∀ a ∈ I :: As, @LT.lt Nat _ a (topA ((I, itR (0 + ((j + 1 : Nat) : Int)) (((3 : Nat) : Int) - ((j + 1 : Nat) : Int))) :: Z)) := fun a ha => by
      rcases List.mem_cons.mp ha with rfl | ha
      · rw [topA_cons]; exact Nat.lt_of_lt_of_le (Nat.lt_succ_self _) (Nat.le_max_left _ _)
      · exact top_cons_lt (hA a ha)
    with_unfolding_all refine turnJ w fa cd L Ds Dw Sq Lf (fun y => if y = Str.ofString "j" then some (.int (j : Int) tj) else m' y) P tot0 lx' tb' ((I, itR (0 + ((j + 1 : Nat) : Int)) (((3 : Nat) : Int) - ((j + 1 : Nat) : Int))) :: Z) o2 o3 o5 o6 u v W0 (e.cons hPI) (List.drop (j + 1) (W0.map (sgn u v)) ++ List.take j (W0.map (sgn u v))) t hlx' (by rw [List.length_append, List.length_drop, List.length_take, List.length_map]; omega) (I :: As) htb' hA7 (.tail _ hP) x y q hyl ta tc td tf (.tail _ hLf) ty ti tj i j _ hx ht hq (mod3_is i j) ⟨rfl, hM'.1, hM'.2.1, hM'.2.2.1, hM'.2.2.2.1, hM'.2.2.2.2.1, trivial⟩ mean mg mb base _ [] _ E B F6 X N7 T C1 C2 C3 hE ?hr
    case hr =>
      rintro h8 tk8 m8 n8 F8 N8 ⟨lx8, tb8, hM8, hlx8, htb8, hn8, rfl⟩
      rw [hd2] at hlx8
      refine wpAny_execs_nil ?_
      refine hR9 _ _ ?_
      show UnrEnd _ _ _ _ _ _ _
      refine UnrEnd.intro F8 (news_perm N8 kc_one') (KC4 L o2 o3 o5 o6 (lx8 ++ (tb8 ++ Z))) (fun p hp => hp) (kc_new e.f hlx8 hPI fun p hp => ?_) ⟨lx8, tb8, hM8, hlx8, htb8, hn'.trans (newer_top hn8 fun p hp => .tail _ hp) (Nat.le_refl _), rfl⟩
      rcases List.mem_append.mp hp with hp | hp
      · exact htb8.2 p hp _ (.head _)
      · exact Nat.ne_of_lt (hZI p hp)
end VloopJ
theorem loopJ (w : World) (fa : Addr) (cd : Value) (L Ds Dw Sq Lf : Addr) (m : Str → Option Value) (P : LexP) (tot0 : Int) (lx tb Z : Led) (o2 o3 o5 o6 : Obj) (u v : Nat) (W0 : List (List Bool)) (e : Env1 P L Ds Dw o2 o3 o5 o6 u v W0 Z) (hlx : LexQ w P tot0 (W0.map (sgn u v)) lx)
   (As : List Addr) (htb : TbO As tb) (hA : ∀ a ∈ As, @LT.lt Nat _ a (topA Z)) (hP : P.PB ∈ As)
   (x y : List Bool) (hyl : y.length ≤ 40) (ta tc td tf : Tok) (hLf : (Lf, tup4 (mulM (invM (mw x)) (mw y)) ta tc td tf) ∈ Z) (ty ti : Tok) (i : Nat) (hx : W0[i]? = some x)
   (hM : Has m (nmJ Ds Sq Lf (sgn u v y) ty ti i)) :
  StgB w fa cd L (blkS stI 2 1) m (KC4 L o2 o3 o5 o6 (lx ++ (tb ++ Z))) (PJ w P tot0 L Ds Sq Lf o2 o3 o5 o6 As tb Z (W0.map (sgn u v)) (sgn u v y) ty ti i) := stgB_of fun zvv => (show VloopJ.At0 w fa cd L Ds Dw Sq Lf m P tot0 lx tb Z o2 o3 o5 o6 u v W0 As x y ta tc td tf ty ti i zvv from eps1_all (P := VloopJ.AtX) @VloopJ.aux (w, fa, cd, L, Ds, Dw, Sq, Lf, m, P, tot0, lx, tb, Z, o2, o3, o5, o6, u, v, W0, As, x, y, ta, tc, td, tf, ty, ti, i, zvv)) e hlx htb hA hP hyl hLf hx hM
end
section
inductive PI1 (P : LexP) (L Ds Sq : Addr) (o2 o3 o5 o6 : Obj) (lx tb Z : Led) (p : Mat) (y : List Nat) (ty ti : Tok) (i : Nat) (m' : Str → Option Value) (news' : Led) : Prop
  | mk (Lf : Addr) (ta tc td tf : Tok) (zh1 : Has m' (nmJ Ds Sq Lf y ty ti i)) (zh2 : @LT.lt Nat _ P.PB Lf) (zh3 : news' = KC4 L o2 o3 o5 o6 (lx ++ (tb ++ (Lf, tup4 p ta tc td tf) :: Z)))
namespace VturnI1
noncomputable def At0 (w : World) (fa : Addr) (cd : Value) (L : Addr) (Ds : Addr) (Dw : Addr) (Sq : Addr) (m : Str → Option Value) (P : LexP) (tot0 : Int) (lx : Led) (tb : Led) (Z : Led) (o2 : Obj) (o3 : Obj) (o5 : Obj) (o6 : Obj) (W0 : List (List Bool)) (ws : List (List Nat)) (ta : Tok) (tc : Tok) (td : Tok) (tf : Tok) (ty : Tok) (ti : Tok) (i : Nat) (zvv : StgV) : Prop := ∀ (u : Nat) (v : Nat) (e : Env1 P L Ds Dw o2 o3 o5 o6 u v W0 Z) (hlx : LexQ w P tot0 ws lx) (x : List Bool) (y : List Bool) (hyl : y.length ≤ 40) (hSq : (Sq, tup4 (mw y) ta tc td tf) ∈ Z) (hx : W0[i]? = some x) (hM : Has m ((Str.ofString "i", .int (i : Int) ti) :: nmI Ds Sq (sgn u v y) ty)), StgBAt w fa cd L (blkS stI 0 2) m (KC4 L o2 o3 o5 o6 (lx ++ (tb ++ Z))) (PI1 P L Ds Sq o2 o3 o5 o6 lx tb Z (mulM (invM (mw x)) (mw y)) (sgn u v y) ty ti i) zvv
noncomputable def AtX (x : (World) × (Addr) × (Value) × (Addr) × (Addr) × (Addr) × (Addr) × (Str → Option Value) × (LexP) × (Int) × (Led) × (Led) × (Led) × (Obj) × (Obj) × (Obj) × (Obj) × (List (List Bool)) × (List (List Nat)) × (Tok) × (Tok) × (Tok) × (Tok) × (Tok) × (Tok) × (Nat) × StgV) : Prop := At0 (x.1) (x.2.1) (x.2.2.1) (x.2.2.2.1) (x.2.2.2.2.1) (x.2.2.2.2.2.1) (x.2.2.2.2.2.2.1) (x.2.2.2.2.2.2.2.1) (x.2.2.2.2.2.2.2.2.1) (x.2.2.2.2.2.2.2.2.2.1) (x.2.2.2.2.2.2.2.2.2.2.1) (x.2.2.2.2.2.2.2.2.2.2.2.1) (x.2.2.2.2.2.2.2.2.2.2.2.2.1) (x.2.2.2.2.2.2.2.2.2.2.2.2.2.1) (x.2.2.2.2.2.2.2.2.2.2.2.2.2.2.1) (x.2.2.2.2.2.2.2.2.2.2.2.2.2.2.2.1) (x.2.2.2.2.2.2.2.2.2.2.2.2.2.2.2.2.1) (x.2.2.2.2.2.2.2.2.2.2.2.2.2.2.2.2.2.1) (x.2.2.2.2.2.2.2.2.2.2.2.2.2.2.2.2.2.2.1) (x.2.2.2.2.2.2.2.2.2.2.2.2.2.2.2.2.2.2.2.1) (x.2.2.2.2.2.2.2.2.2.2.2.2.2.2.2.2.2.2.2.2.1) (x.2.2.2.2.2.2.2.2.2.2.2.2.2.2.2.2.2.2.2.2.2.1) (x.2.2.2.2.2.2.2.2.2.2.2.2.2.2.2.2.2.2.2.2.2.2.1) (x.2.2.2.2.2.2.2.2.2.2.2.2.2.2.2.2.2.2.2.2.2.2.2.1) (x.2.2.2.2.2.2.2.2.2.2.2.2.2.2.2.2.2.2.2.2.2.2.2.2.1) (x.2.2.2.2.2.2.2.2.2.2.2.2.2.2.2.2.2.2.2.2.2.2.2.2.2.1) (x.2.2.2.2.2.2.2.2.2.2.2.2.2.2.2.2.2.2.2.2.2.2.2.2.2.2)
noncomputable def cc0 : (World) × (Addr) × (Value) × (Addr) × (Addr) × (Addr) × (Addr) × (Str → Option Value) × (LexP) × (Int) × (Led) × (Led) × (Led) × (Obj) × (Obj) × (Obj) × (Obj) × (List (List Bool)) × (List (List Nat)) × (Tok) × (Tok) × (Tok) × (Tok) × (Tok) × (Tok) × (Nat) × StgV := eps1 (ne_prod ne_world (ne_prod ne_addr (ne_prod ne_value (ne_prod ne_addr (ne_prod ne_addr (ne_prod ne_addr (ne_prod ne_addr (ne_prod ne_par (ne_prod ne_lexp (ne_prod ne_int (ne_prod ne_led (ne_prod ne_led (ne_prod ne_led (ne_prod ne_obj (ne_prod ne_obj (ne_prod ne_obj (ne_prod ne_obj (ne_prod ne_list (ne_prod ne_list (ne_prod ne_tok (ne_prod ne_tok (ne_prod ne_tok (ne_prod ne_tok (ne_prod ne_tok (ne_prod ne_tok (ne_prod ne_nat stgV_ne)))))))))))))))))))))))))) AtX
noncomputable def w : World := cc0.1
noncomputable def fa : Addr := cc0.2.1
noncomputable def cd : Value := cc0.2.2.1
noncomputable def L : Addr := cc0.2.2.2.1
noncomputable def Ds : Addr := cc0.2.2.2.2.1
noncomputable def Dw : Addr := cc0.2.2.2.2.2.1
noncomputable def Sq : Addr := cc0.2.2.2.2.2.2.1
noncomputable def m : Str → Option Value := cc0.2.2.2.2.2.2.2.1
noncomputable def P : LexP := cc0.2.2.2.2.2.2.2.2.1
noncomputable def tot0 : Int := cc0.2.2.2.2.2.2.2.2.2.1
noncomputable def lx : Led := cc0.2.2.2.2.2.2.2.2.2.2.1
noncomputable def tb : Led := cc0.2.2.2.2.2.2.2.2.2.2.2.1
noncomputable def Z : Led := cc0.2.2.2.2.2.2.2.2.2.2.2.2.1
noncomputable def o2 : Obj := cc0.2.2.2.2.2.2.2.2.2.2.2.2.2.1
noncomputable def o3 : Obj := cc0.2.2.2.2.2.2.2.2.2.2.2.2.2.2.1
noncomputable def o5 : Obj := cc0.2.2.2.2.2.2.2.2.2.2.2.2.2.2.2.1
noncomputable def o6 : Obj := cc0.2.2.2.2.2.2.2.2.2.2.2.2.2.2.2.2.1
noncomputable def W0 : List (List Bool) := cc0.2.2.2.2.2.2.2.2.2.2.2.2.2.2.2.2.2.1
noncomputable def ws : List (List Nat) := cc0.2.2.2.2.2.2.2.2.2.2.2.2.2.2.2.2.2.2.1
noncomputable def ta : Tok := cc0.2.2.2.2.2.2.2.2.2.2.2.2.2.2.2.2.2.2.2.1
noncomputable def tc : Tok := cc0.2.2.2.2.2.2.2.2.2.2.2.2.2.2.2.2.2.2.2.2.1
noncomputable def td : Tok := cc0.2.2.2.2.2.2.2.2.2.2.2.2.2.2.2.2.2.2.2.2.2.1
noncomputable def tf : Tok := cc0.2.2.2.2.2.2.2.2.2.2.2.2.2.2.2.2.2.2.2.2.2.2.1
noncomputable def ty : Tok := cc0.2.2.2.2.2.2.2.2.2.2.2.2.2.2.2.2.2.2.2.2.2.2.2.1
noncomputable def ti : Tok := cc0.2.2.2.2.2.2.2.2.2.2.2.2.2.2.2.2.2.2.2.2.2.2.2.2.1
noncomputable def i : Nat := cc0.2.2.2.2.2.2.2.2.2.2.2.2.2.2.2.2.2.2.2.2.2.2.2.2.2.1
noncomputable def v0 : StgV := cc0.2.2.2.2.2.2.2.2.2.2.2.2.2.2.2.2.2.2.2.2.2.2.2.2.2.2
theorem aux (u : Nat) (v : Nat) (e : Env1 P L Ds Dw o2 o3 o5 o6 u v W0 Z) (hlx : LexQ w P tot0 ws lx) (x : List Bool) (y : List Bool) (hyl : y.length ≤ 40) (hSq : (Sq, tup4 (mw y) ta tc td tf) ∈ Z) (hx : W0[i]? = some x) (hM : Has m ((Str.ofString "i", .int (i : Int) ti) :: nmI Ds Sq (sgn u v y) ty)) :
  StgBAt w fa cd L (blkS stI 0 2) m (KC4 L o2 o3 o5 o6 (lx ++ (tb ++ Z))) (PI1 P L Ds Sq o2 o3 o5 o6 lx tb Z (mulM (invM (mw x)) (mw y)) (sgn u v y) ty ti i) v0 := by
  intro B' F X N T C1 C2 C3 hE hret
  have F0 := fr_all0 hM F
  clear F
  obtain ⟨f, _, _, e5, e6, huv, hu, hv, hW, h10, ⟨wsv, kw, hwv, hDw⟩, ⟨sqv, es, hsq, hDs⟩, hZ⟩ := e
  have hxl := h10 x (List.mem_of_getElem? hx)
  have hxs : (W0.map (sgn u v))[i]? = some (sgn u v x) := by rw [List.getElem?_map, hx]; rfl
  obtain ⟨tx', htx⟩ := texts_at hwv hxs
  obtain ⟨S, a0, b0, c0, d0, q0, z0⟩ := hsq.2 i x hx
  have hsl := hsq.1
  have hi := (List.getElem?_eq_some_iff.mp q0).1
  have hi2 := (List.getElem?_eq_some_iff.mp htx).1
  have hwl := hwv.length
  rw [List.length_map] at hwl
  have lx1 := sgn_len u v x
  have ly1 := sgn_len u v y
  have dx := wd_bound (x := x) hu hv
  have inZ : ∀ {p : Addr × Obj}, p ∈ Z → p ∈ KC4 L o2 o3 o5 o6 (lx ++ (tb ++ Z)) := fun h => kc_in (List.mem_append_right _ (List.mem_append_right _ h))
  obtain ⟨oP, hoP⟩ := lexQ_PB hlx
  (repeat' (first | (with_reducible refine if_ff ?_) | (with_reducible refine if_tt ?_) | (k_unfold; (try dsimp only)) | (k_end; wrow_close) | (cell_step; walk1) | (cell_step; dsimp only; walk1) | (leave1; walk_say "STEP leave1"; try dsimp only) | fail "no step"))
  refine PyProof.Rows.item_listL (News.isList N (inZ hDs)) (by omega) (by omega) (x := .ref S) (by rw [show ((i : Nat) : Int).toNat = i from rfl]; exact q0) ?_
  (repeat' (first | (with_reducible refine if_ff ?_) | (with_reducible refine if_tt ?_) | (k_unfold; (try dsimp only)) | (k_end; wrow_close) | (cell_step; walk1) | (cell_step; dsimp only; walk1) | (leave1; walk_say "STEP leave1"; try dsimp only) | fail "no step"))
  (refine' tel_use ?tH ?tB ?tF ?tX ?tN ?tT ?tC1 ?tC2 ?tC3 ?tk ?td ?tu ?_; (case tB => k_asm); (case tF => k_asm); (case tX => k_asm); (case tN => k_asm); (case tT => k_asm); (case tC1 => assumption); (case tC2 => assumption); (case tC3 => assumption); (case tk => first | exact rfl | assumption); (case tH => exact (inverse w (KC4 L o2 o3 o5 o6 (lx ++ (tb ++ Z))) S (mw x) _ _ _ _ (inZ z0))); (case td => ktr_room); (case tu => ktr_units))
  rintro v9 h9 tk9 news9 F9 N9 ⟨T9, ta9, tb9, tc9, td9, rfl, rfl, hT9⟩
  (try dsimp only)
  (repeat' (first | (with_reducible refine if_ff ?_) | (with_reducible refine if_tt ?_) | (k_unfold; (try dsimp only)) | (k_end; wrow_close) | (cell_step; walk1) | (cell_step; dsimp only; walk1) | (leave1; walk_say "STEP leave1"; try dsimp only) | fail "no step"))
  (refine' tel_use ?tH ?tB ?tF ?tX ?tN ?tT ?tC1 ?tC2 ?tC3 ?tk ?td ?tu ?_; (case tB => k_asm); (case tF => k_asm); (case tX => k_asm); (case tN => k_asm); (case tT => k_asm); (case tC1 => assumption); (case tC2 => assumption); (case tC3 => assumption); (case tk => first | exact rfl | assumption); (case tH => exact (times w (_ :: KC4 L o2 o3 o5 o6 (lx ++ (tb ++ Z))) T9 Sq (invM (mw x)) (mw y) _ _ _ _ _ _ _ _ (.head _) (.tail _ (inZ hSq)) (small_mw hyl))); (case td => ktr_room); (case tu => ktr_units))
  rintro v8 h8 tk8 news8 F8 N8 ⟨T8, ta8, tb8, tc8, td8, rfl, rfl, hT8⟩
  (try dsimp only)
  have hPI : @LT.lt Nat _ P.PB T8 := Nat.lt_trans (topA_lt hT9 _ (kc_in (List.mem_append_left _ hoP))) (topA_lt hT8 _ (.head _))
  have N7 := news_skip2 N8
  clear N8 N9
  (repeat' (first | (with_reducible refine if_ff ?_) | (with_reducible refine if_tt ?_) | (k_unfold; (try dsimp only)) | (k_end; wrow_close) | (cell_step; walk1) | (cell_step; dsimp only; walk1) | (leave1; walk_say "STEP leave1"; try dsimp only) | fail "no step"))
  rename Fr _ _ _ _ => F1
  rename News _ _ _ _ => N1
  refine PyProof.Rows.item_listL (News.isList N1 (.tail _ (inZ hDw))) (by omega) (by omega) (x := .str (tx (sgn u v x)) tx') (by rw [show ((i : Nat) : Int).toNat = i from rfl]; exact htx) ?_
  (repeat' (first | (with_reducible refine if_ff ?_) | (with_reducible refine if_tt ?_) | (k_unfold; (try dsimp only)) | (k_end; wrow_close) | (cell_step; walk1) | (cell_step; dsimp only; walk1) | (leave1; walk_say "STEP leave1"; try dsimp only) | fail "no step"))
  (refine' tel_use ?tH ?tB ?tF ?tX ?tN ?tT ?tC1 ?tC2 ?tC3 ?tk ?td ?tu ?_; (case tB => k_asm); (case tF => k_asm); (case tX => k_asm); (case tN => k_asm); (case tT => k_asm); (case tC1 => assumption); (case tC2 => assumption); (case tC3 => assumption); (case tk => first | exact rfl | assumption); (case tH => exact (ell_plain w ((T8, tup4 (mulM (invM (mw x)) (mw y)) ta8 tb8 tc8 td8) :: KC4 L o2 o3 o5 o6 (lx ++ (tb ++ Z))) (sgn u v x) (sgn u v y) _ _ dx (by omega) (by omega))); (case td => ktr_room); (case tu => ktr_units))
  rintro v6 h6 tk6 news6 F6 N6 ⟨rfl, rfl⟩
  (try dsimp only)
  (repeat' (first | (with_reducible refine if_ff ?_) | (with_reducible refine if_tt ?_) | (k_unfold; (try dsimp only)) | (k_end; wrow_close) | (cell_step; walk1) | (cell_step; dsimp only; walk1) | (leave1; walk_say "STEP leave1"; try dsimp only) | fail "no step"))
  rename Fr _ _ _ _ => F5
  rename News _ _ _ _ => N5
  have hdd : decide (mulM (invM (mw x)) (mw y) = oneM) = decide (sgn u v x = sgn u v y) := decide_eq_decide.mpr ((left_one x y).trans ⟨fun h => congrArg (sgn u v) h, fun h => sgn_inj huv h⟩)
  refine eq_tups (q := oneM) N5 (.tail _ (.head _)) (.head _) (by units_room) ?_
  rw [hdd]
  generalize decide (sgn u v x = sgn u v y) = b
  cases b
  all_goals (repeat' (first | (with_reducible refine if_ff ?_) | (with_reducible refine if_tt ?_) | (k_unfold; (try dsimp only)) | (k_end; wrow_close) | (cell_step; walk1) | (cell_step; dsimp only; walk1) | (leave1; walk_say "STEP leave1"; try dsimp only) | fail "no step"))
  all_goals (rename Fr _ _ _ _ => F3; rename News _ _ _ _ => N3; exact hret _ _ _ _ F3 (news_perm (news_tail N3) kc_one) ⟨T8, ta8, tb8, tc8, td8, ⟨rfl, rfl, rfl, rfl, rfl, trivial⟩, hPI, rfl⟩)
end VturnI1
theorem turnI1 (w : World) (fa : Addr) (cd : Value) (L Ds Dw Sq : Addr) (m : Str → Option Value) (P : LexP) (tot0 : Int) (lx tb Z : Led) (o2 o3 o5 o6 : Obj) (u v : Nat) (W0 : List (List Bool)) (e : Env1 P L Ds Dw o2 o3 o5 o6 u v W0 Z) (ws : List (List Nat)) (hlx : LexQ w P tot0 ws lx)
   (x y : List Bool) (hyl : y.length ≤ 40) (ta tc td tf : Tok) (hSq : (Sq, tup4 (mw y) ta tc td tf) ∈ Z) (ty ti : Tok) (i : Nat) (hx : W0[i]? = some x)
   (hM : Has m ((Str.ofString "i", .int (i : Int) ti) :: nmI Ds Sq (sgn u v y) ty)) :
  StgB w fa cd L (blkS stI 0 2) m (KC4 L o2 o3 o5 o6 (lx ++ (tb ++ Z))) (PI1 P L Ds Sq o2 o3 o5 o6 lx tb Z (mulM (invM (mw x)) (mw y)) (sgn u v y) ty ti i) := stgB_of fun zvv => (show VturnI1.At0 w fa cd L Ds Dw Sq m P tot0 lx tb Z o2 o3 o5 o6 W0 ws ta tc td tf ty ti i zvv from eps1_all (P := VturnI1.AtX) @VturnI1.aux (w, fa, cd, L, Ds, Dw, Sq, m, P, tot0, lx, tb, Z, o2, o3, o5, o6, W0, ws, ta, tc, td, tf, ty, ti, i, zvv)) u v e hlx x y hyl hSq hx hM
end
section
inductive PI (w : World) (P : LexP) (tot0 : Int) (L Ds Sq : Addr) (o2 o3 o5 o6 : Obj) (As : List Addr) (tb Z : Led) (ws : List (List Nat)) (y : List Nat) (ty : Tok) (m' : Str → Option Value) (news' : Led) : Prop
  | mk (lx' tb' : Led) (zh1 : Has m' (nmI Ds Sq y ty)) (zh2 : LexQ w P tot0 ws lx') (zh3 : TbO As tb') (zh4 : Newer tb tb' (topA Z)) (zh5 : news' = KC4 L o2 o3 o5 o6 (lx' ++ (tb' ++ Z)))
theorem turnI (w : World) (fa : Addr) (cd : Value) (L Ds Dw Sq : Addr) (m : Str → Option Value) (P : LexP) (tot0 : Int) (lx tb Z : Led) (o2 o3 o5 o6 : Obj) (u v : Nat) (W0 : List (List Bool)) (e : Env1 P L Ds Dw o2 o3 o5 o6 u v W0 Z) (hlx : LexQ w P tot0 (W0.map (sgn u v)) lx)
   (As : List Addr) (htb : TbO As tb) (hA : ∀ a ∈ As, @LT.lt Nat _ a (topA Z)) (hP : P.PB ∈ As)
   (x y : List Bool) (hyl : y.length ≤ 40) (ta tc td tf : Tok) (hSq : (Sq, tup4 (mw y) ta tc td tf) ∈ Z) (ty ti : Tok) (i : Nat) (hx : W0[i]? = some x)
   (hM : Has m ((Str.ofString "i", .int (i : Int) ti) :: nmI Ds Sq (sgn u v y) ty)) :
  StgB w fa cd L (blkS stI 0 3) m (KC4 L o2 o3 o5 o6 (lx ++ (tb ++ Z))) (PI w P tot0 L Ds Sq o2 o3 o5 o6 As tb Z (W0.map (sgn u v)) (sgn u v y) ty) := by
  rw [show (3 : Nat) = 2 + 1 from rfl, blkS_add]
  refine StgB.seq (turnI1 w fa cd L Ds Dw Sq m P tot0 lx tb Z o2 o3 o5 o6 u v W0 e _ hlx x y hyl ta tc td tf hSq ty ti i hx hM) ?_
  rintro m1 n1 ⟨Lf, a1, a2, a3, a4, hM1, hPL, rfl⟩
  refine StgB.post (loopJ w fa cd L Ds Dw Sq Lf m1 P tot0 lx tb ((Lf, tup4 (mulM (invM (mw x)) (mw y)) a1 a2 a3 a4) :: Z) o2 o3 o5 o6 u v W0 (e.cons hPL) hlx As htb (fun a ha => top_cons_lt (hA a ha)) hP x y hyl a1 a2 a3 a4 (.head _) ty ti i hx hM1) ?_
  rintro m2 n2 ⟨lx', tb', hM2, hlx2, htb2, hn2, rfl⟩
  exact ⟨_, drop_one, lx', tb', hM2.2.2, hlx2, htb2, newer_top hn2 fun p hp => .tail _ hp, rfl⟩
inductive IInv (w : World) (P : LexP) (tot0 : Int) (L Ds Sq I : Addr) (o2 o3 o5 o6 : Obj) (As : List Addr) (tb Z : Led) (WS : List (List Nat)) (y : List Nat) (ty : Tok) (i : Nat) (m' : Str → Option Value) (nx : Led) : Prop
  | mk (lx' tb' : Led) (zh1 : Has m' (nmI Ds Sq y ty)) (zh2 : LexQ w P tot0 WS lx') (zh3 : TbO (I :: As) tb') (zh4 : Newer tb tb' (topA Z)) (zh5 : nx = KC4 L o2 o3 o5 o6 (lx' ++ (tb' ++ Z)))
namespace VloopI
noncomputable def At0 (w : World) (fa : Addr) (cd : Value) (L : Addr) (Ds : Addr) (Dw : Addr) (Sq : Addr) (m : Str → Option Value) (P : LexP) (tot0 : Int) (lx : Led) (tb : Led) (Z : Led) (o2 : Obj) (o3 : Obj) (o5 : Obj) (o6 : Obj) (u : Nat) (v : Nat) (W0 : List (List Bool)) (As : List Addr) (y : List Bool) (ta : Tok) (tc : Tok) (td : Tok) (tf : Tok) (ty : Tok) (zvv : StgV) : Prop := ∀ (e : Env1 P L Ds Dw o2 o3 o5 o6 u v W0 Z) (hlx : LexQ w P tot0 (W0.map (sgn u v)) lx) (htb : TbO As tb) (hA : ∀ a ∈ As, @LT.lt Nat _ a (topA Z)) (hP : P.PB ∈ As) (hyl : y.length ≤ 40) (hSq : (Sq, tup4 (mw y) ta tc td tf) ∈ Z) (hM : Has m (nmI Ds Sq (sgn u v y) ty)), StgBAt w fa cd L (blkS stR 0 1) m (KC4 L o2 o3 o5 o6 (lx ++ (tb ++ Z))) (PI w P tot0 L Ds Sq o2 o3 o5 o6 As tb Z (W0.map (sgn u v)) (sgn u v y) ty) zvv
noncomputable def AtX (x : (World) × (Addr) × (Value) × (Addr) × (Addr) × (Addr) × (Addr) × (Str → Option Value) × (LexP) × (Int) × (Led) × (Led) × (Led) × (Obj) × (Obj) × (Obj) × (Obj) × (Nat) × (Nat) × (List (List Bool)) × (List Addr) × (List Bool) × (Tok) × (Tok) × (Tok) × (Tok) × (Tok) × StgV) : Prop := At0 (x.1) (x.2.1) (x.2.2.1) (x.2.2.2.1) (x.2.2.2.2.1) (x.2.2.2.2.2.1) (x.2.2.2.2.2.2.1) (x.2.2.2.2.2.2.2.1) (x.2.2.2.2.2.2.2.2.1) (x.2.2.2.2.2.2.2.2.2.1) (x.2.2.2.2.2.2.2.2.2.2.1) (x.2.2.2.2.2.2.2.2.2.2.2.1) (x.2.2.2.2.2.2.2.2.2.2.2.2.1) (x.2.2.2.2.2.2.2.2.2.2.2.2.2.1) (x.2.2.2.2.2.2.2.2.2.2.2.2.2.2.1) (x.2.2.2.2.2.2.2.2.2.2.2.2.2.2.2.1) (x.2.2.2.2.2.2.2.2.2.2.2.2.2.2.2.2.1) (x.2.2.2.2.2.2.2.2.2.2.2.2.2.2.2.2.2.1) (x.2.2.2.2.2.2.2.2.2.2.2.2.2.2.2.2.2.2.1) (x.2.2.2.2.2.2.2.2.2.2.2.2.2.2.2.2.2.2.2.1) (x.2.2.2.2.2.2.2.2.2.2.2.2.2.2.2.2.2.2.2.2.1) (x.2.2.2.2.2.2.2.2.2.2.2.2.2.2.2.2.2.2.2.2.2.1) (x.2.2.2.2.2.2.2.2.2.2.2.2.2.2.2.2.2.2.2.2.2.2.1) (x.2.2.2.2.2.2.2.2.2.2.2.2.2.2.2.2.2.2.2.2.2.2.2.1) (x.2.2.2.2.2.2.2.2.2.2.2.2.2.2.2.2.2.2.2.2.2.2.2.2.1) (x.2.2.2.2.2.2.2.2.2.2.2.2.2.2.2.2.2.2.2.2.2.2.2.2.2.1) (x.2.2.2.2.2.2.2.2.2.2.2.2.2.2.2.2.2.2.2.2.2.2.2.2.2.2.1) (x.2.2.2.2.2.2.2.2.2.2.2.2.2.2.2.2.2.2.2.2.2.2.2.2.2.2.2)
noncomputable def cc0 : (World) × (Addr) × (Value) × (Addr) × (Addr) × (Addr) × (Addr) × (Str → Option Value) × (LexP) × (Int) × (Led) × (Led) × (Led) × (Obj) × (Obj) × (Obj) × (Obj) × (Nat) × (Nat) × (List (List Bool)) × (List Addr) × (List Bool) × (Tok) × (Tok) × (Tok) × (Tok) × (Tok) × StgV := eps1 (ne_prod ne_world (ne_prod ne_addr (ne_prod ne_value (ne_prod ne_addr (ne_prod ne_addr (ne_prod ne_addr (ne_prod ne_addr (ne_prod ne_par (ne_prod ne_lexp (ne_prod ne_int (ne_prod ne_led (ne_prod ne_led (ne_prod ne_led (ne_prod ne_obj (ne_prod ne_obj (ne_prod ne_obj (ne_prod ne_obj (ne_prod ne_nat (ne_prod ne_nat (ne_prod ne_list (ne_prod ne_list (ne_prod ne_list (ne_prod ne_tok (ne_prod ne_tok (ne_prod ne_tok (ne_prod ne_tok (ne_prod ne_tok stgV_ne))))))))))))))))))))))))))) AtX
noncomputable def w : World := cc0.1
noncomputable def fa : Addr := cc0.2.1
noncomputable def cd : Value := cc0.2.2.1
noncomputable def L : Addr := cc0.2.2.2.1
noncomputable def Ds : Addr := cc0.2.2.2.2.1
noncomputable def Dw : Addr := cc0.2.2.2.2.2.1
noncomputable def Sq : Addr := cc0.2.2.2.2.2.2.1
noncomputable def m : Str → Option Value := cc0.2.2.2.2.2.2.2.1
noncomputable def P : LexP := cc0.2.2.2.2.2.2.2.2.1
noncomputable def tot0 : Int := cc0.2.2.2.2.2.2.2.2.2.1
noncomputable def lx : Led := cc0.2.2.2.2.2.2.2.2.2.2.1
noncomputable def tb : Led := cc0.2.2.2.2.2.2.2.2.2.2.2.1
noncomputable def Z : Led := cc0.2.2.2.2.2.2.2.2.2.2.2.2.1
noncomputable def o2 : Obj := cc0.2.2.2.2.2.2.2.2.2.2.2.2.2.1
noncomputable def o3 : Obj := cc0.2.2.2.2.2.2.2.2.2.2.2.2.2.2.1
noncomputable def o5 : Obj := cc0.2.2.2.2.2.2.2.2.2.2.2.2.2.2.2.1
noncomputable def o6 : Obj := cc0.2.2.2.2.2.2.2.2.2.2.2.2.2.2.2.2.1
noncomputable def u : Nat := cc0.2.2.2.2.2.2.2.2.2.2.2.2.2.2.2.2.2.1
noncomputable def v : Nat := cc0.2.2.2.2.2.2.2.2.2.2.2.2.2.2.2.2.2.2.1
noncomputable def W0 : List (List Bool) := cc0.2.2.2.2.2.2.2.2.2.2.2.2.2.2.2.2.2.2.2.1
noncomputable def As : List Addr := cc0.2.2.2.2.2.2.2.2.2.2.2.2.2.2.2.2.2.2.2.2.1
noncomputable def y : List Bool := cc0.2.2.2.2.2.2.2.2.2.2.2.2.2.2.2.2.2.2.2.2.2.1
noncomputable def ta : Tok := cc0.2.2.2.2.2.2.2.2.2.2.2.2.2.2.2.2.2.2.2.2.2.2.1
noncomputable def tc : Tok := cc0.2.2.2.2.2.2.2.2.2.2.2.2.2.2.2.2.2.2.2.2.2.2.2.1
noncomputable def td : Tok := cc0.2.2.2.2.2.2.2.2.2.2.2.2.2.2.2.2.2.2.2.2.2.2.2.2.1
noncomputable def tf : Tok := cc0.2.2.2.2.2.2.2.2.2.2.2.2.2.2.2.2.2.2.2.2.2.2.2.2.2.1
noncomputable def ty : Tok := cc0.2.2.2.2.2.2.2.2.2.2.2.2.2.2.2.2.2.2.2.2.2.2.2.2.2.2.1
noncomputable def v0 : StgV := cc0.2.2.2.2.2.2.2.2.2.2.2.2.2.2.2.2.2.2.2.2.2.2.2.2.2.2.2
noncomputable abbrev mean := v0.mean
noncomputable abbrev mg := v0.mg
noncomputable abbrev mb := v0.mb
noncomputable abbrev base := v0.base
noncomputable abbrev rest := v0.rest
noncomputable abbrev E := v0.E
theorem aux (e : Env1 P L Ds Dw o2 o3 o5 o6 u v W0 Z) (hlx : LexQ w P tot0 (W0.map (sgn u v)) lx) (htb : TbO As tb) (hA : ∀ a ∈ As, @LT.lt Nat _ a (topA Z)) (hP : P.PB ∈ As) (hyl : y.length ≤ 40) (hSq : (Sq, tup4 (mw y) ta tc td tf) ∈ Z) (hM : Has m (nmI Ds Sq (sgn u v y) ty)) :
  StgBAt w fa cd L (blkS stR 0 1) m (KC4 L o2 o3 o5 o6 (lx ++ (tb ++ Z))) (PI w P tot0 L Ds Sq o2 o3 o5 o6 As tb Z (W0.map (sgn u v)) (sgn u v y) ty) v0 := by
  intro B F X N T C1 C2 C3 hE hret
  have F0 := fr_all0 hM F
  clear F
  (repeat' (first | (with_reducible refine if_ff ?_) | (with_reducible refine if_tt ?_) | (k_unfold; (try dsimp only)) | (k_end; wrow_close) | (cell_step; walk1) | (cell_step; dsimp only; walk1) | (leave1; walk_say "STEP leave1"; try dsimp only) | fail "no step"))
  (rename Fr _ _ _ _ => lF')
  (with_unfolding_all refine' For_invVF (hE := hE) lF' ?k1 ?k2 ?_; (case k1 => exact rfl); (case k2 => exact rfl))
  (repeat' (first | (with_reducible refine if_ff ?_) | (with_reducible refine if_tt ?_) | (k_unfold; (try dsimp only)) | (k_end; wrow_close) | (cell_step; walk1) | (cell_step; dsimp only; walk1) | (leave1; walk_say "STEP leave1"; try dsimp only) | fail "no step"))
  rename Fr _ _ _ _ => F1
  rename News _ _ _ _ => N1
  refine' iter_rangeUnr (n := 3) rfl (by assumption) (by rfl) (by rfl) F1 N1 ?rest
  case rest =>
  intro I hI
  have hZI : ∀ p ∈ Z, @LT.lt Nat _ p.1 I := fun p hp => hI p (kc_in (List.mem_append_right _ (List.mem_append_right _ hp)))
  have htI : ∀ p ∈ tb, @LT.lt Nat _ p.1 I := fun p hp => hI p (kc_in (List.mem_append_right _ (List.mem_append_left _ hp)))
  obtain ⟨oP, hoP⟩ := lexQ_PB hlx
  have hPI : @LT.lt Nat _ P.PB I := hI _ (kc_in (List.mem_append_left _ hoP))
  have hW := e.hW
  refine rangeRest_indR (IInv w P tot0 L Ds Sq I o2 o3 o5 o6 As tb Z (W0.map (sgn u v)) (sgn u v y) ty) ?zero ?succ _ _ _ _ (by omega) ?init
  case init =>
    exact ⟨lx, tb, ⟨rfl, rfl, rfl, trivial⟩, hlx, htb.cons (topA_of htI), Newer.rfl _ _, rfl⟩
  case zero =>
    rintro i m' nx ⟨lx', tb', hM', hlx', htb', hn', rfl⟩ hj6 h6 tk6 F6 N6
    (try dsimp only)
    (repeat' (first | (with_reducible refine if_ff ?_) | (with_reducible refine if_tt ?_) | (k_unfold; (try dsimp only)) | (k_end; wrow_close) | (cell_step; walk1) | (cell_step; dsimp only; walk1) | (leave1; walk_say "STEP leave1"; try dsimp only) | fail "no step"))
    exact hret _ _ _ _ F6 N6 ⟨lx', tb', hM', hlx', htb'.tail, hn', rfl⟩
  case succ =>
    rintro i m' nx ⟨lx', tb', hM', hlx', htb', hn', rfl⟩ hi6 ti h6 tk6 F6 N6 R9 hR9
    obtain ⟨x, hx⟩ := ex_at hW hi6
    have N7 := news_perm N6 kc_one
    clear N6 N1
    rw [Int.zero_add] at F6
    have hA7 : ∀ a ∈ I :: As, @LT.lt Nat _ a (topA ((I, itR (0 + ((i + 1 : Nat) : Int)) (((3 : Nat) : Int) - ((i + 1 : Nat) : Int))) :: Z)) := fun a ha => by
      rcases List.mem_cons.mp ha with rfl | ha
      · rw [topA_cons]; exact Nat.lt_of_lt_of_le (Nat.lt_succ_self _) (Nat.le_max_left _ _)
      · exact top_cons_lt (hA a ha)
    with_unfolding_all refine turnI w fa cd L Ds Dw Sq (fun y => if y = Str.ofString "i" then some (.int (i : Int) ti) else m' y) P tot0 lx' tb' ((I, itR (0 + ((i + 1 : Nat) : Int)) (((3 : Nat) : Int) - ((i + 1 : Nat) : Int))) :: Z) o2 o3 o5 o6 u v W0 (e.cons hPI) hlx' (I :: As) htb' hA7 (.tail _ hP) x y hyl ta tc td tf (.tail _ hSq) ty ti i hx ⟨rfl, hM'.1, hM'.2.1, hM'.2.2.1, trivial⟩ mean mg mb base _ [] _ E B F6 X N7 T C1 C2 C3 hE ?hr
    case hr =>
      rintro h8 tk8 m8 n8 F8 N8 ⟨lx8, tb8, hM8, hlx8, htb8, hn8, rfl⟩
      refine wpAny_execs_nil ?_
      refine hR9 _ _ ?_
      show UnrEnd _ _ _ _ _ _ _
      refine UnrEnd.intro F8 (news_perm N8 kc_one') (KC4 L o2 o3 o5 o6 (lx8 ++ (tb8 ++ Z))) (fun p hp => hp) (kc_new e.f hlx8 hPI fun p hp => ?_) ⟨lx8, tb8, hM8, hlx8, htb8, hn'.trans (newer_top hn8 fun p hp => .tail _ hp) (Nat.le_refl _), rfl⟩
      rcases List.mem_append.mp hp with hp | hp
      · exact htb8.2 p hp _ (.head _)
      · exact Nat.ne_of_lt (hZI p hp)
end VloopI
theorem loopI (w : World) (fa : Addr) (cd : Value) (L Ds Dw Sq : Addr) (m : Str → Option Value) (P : LexP) (tot0 : Int) (lx tb Z : Led) (o2 o3 o5 o6 : Obj) (u v : Nat) (W0 : List (List Bool)) (e : Env1 P L Ds Dw o2 o3 o5 o6 u v W0 Z) (hlx : LexQ w P tot0 (W0.map (sgn u v)) lx)
   (As : List Addr) (htb : TbO As tb) (hA : ∀ a ∈ As, @LT.lt Nat _ a (topA Z)) (hP : P.PB ∈ As)
   (y : List Bool) (hyl : y.length ≤ 40) (ta tc td tf : Tok) (hSq : (Sq, tup4 (mw y) ta tc td tf) ∈ Z) (ty : Tok)
   (hM : Has m (nmI Ds Sq (sgn u v y) ty)) :
  StgB w fa cd L (blkS stR 0 1) m (KC4 L o2 o3 o5 o6 (lx ++ (tb ++ Z))) (PI w P tot0 L Ds Sq o2 o3 o5 o6 As tb Z (W0.map (sgn u v)) (sgn u v y) ty) := stgB_of fun zvv => (show VloopI.At0 w fa cd L Ds Dw Sq m P tot0 lx tb Z o2 o3 o5 o6 u v W0 As y ta tc td tf ty zvv from eps1_all (P := VloopI.AtX) @VloopI.aux (w, fa, cd, L, Ds, Dw, Sq, m, P, tot0, lx, tb, Z, o2, o3, o5, o6, u, v, W0, As, y, ta, tc, td, tf, ty, zvv)) e hlx htb hA hP hyl hSq hM
noncomputable def forT : Stmt → Expr
  | .For t _ _ _ _ => t
  | _ => .Constant .none 0 ⟨0, 0, 0, 0⟩
theorem body_R : forB stR = blkS stR 0 1 ++ [] := by with_unfolding_all rfl
theorem row_assign (w : World) (fa : Addr) (cd : Value) (L T S : Addr) (base : Heap) (m : Str → Option Value) (s : Shared) (news : Led) (y : List Nat) (ty : Tok) (Q : Unit → Shared → Prop) (E : Value → Shared → Prop)
  (F : Fr base L s.heap m) (N : News base L s.heap news) (hT : (T, rowO y ty S) ∈ news)
  (B' : Below callerA base [] base) (X : (hd01.heap_1 w.params).In base) (mean : ExcName → Option Value) (mg mb : Str → Option Value) (TT : Top topProg topL mean mg mb base)
  (h : ∀ h' tk', Fr base L h' (fun z => if z = Str.ofString "square" then some (.ref S) else if z = Str.ofString "row" then some (.str (tx y) ty) else m z) → News base L h' news → Q () { s with heap := h', toks := tk' }) :
  wpAny (model Challenge.rw_ty0035_01.row.prog w) (callerA.deeper (envL L fa cd)) (assign (forT stR) (envL L fa cd) (.ref T)) Q E s := by
  have hI : IsTup s.heap T #[.str (tx y) ty, .ref S] := ⟨_, (N _ hT).1, rfl, 0, rfl⟩
  with_unfolding_all (refine' unpackN_ F N hI ?hh ?k1 ?k2 ?_; (case hh => exact rfl); (case k1 => exact rfl); (case k2 => exact rfl))
  intro h1 F1 N1
  (try dsimp only)
  (repeat' (first | (with_reducible refine if_ff ?_) | (with_reducible refine if_tt ?_) | (k_unfold; (try dsimp only)) | (k_end; wrow_close) | (cell_step; walk1) | (cell_step; dsimp only; walk1) | (leave1; walk_say "STEP leave1"; try dsimp only) | fail "no step"))
  rename Fr _ _ _ _ => F9
  rename News _ _ _ _ => N9
  exact h _ _ F9 N9
end
section
theorem endW {L : Addr} {its : Led} {rest : (Str → Option Value) → Led → Prop} {h₀ : Heap} {s₁ : Shared} {h' : Heap} {tk : Nat} {m' : Str → Option Value} (news' : Led) (F : Fr h₀ L h' m') (N : News h₀ L h' (its ++ news')) (off : ∀ p ∈ news', ∀ q ∈ its, p.1 ≠ q.1) (r : rest m' news') : UnrEndW h₀ L s₁ its rest { s₁ with heap := h', toks := tk } := ⟨h', tk, m', news', rfl, F, N, off, r⟩
theorem rowIn_cons {u v : Nat} {rv : List Value} {y : List Bool} {Y : List (List Bool)} {Z : Led} (h : RowIn u v rv (y :: Y) Z) : ∃ T S t ta tb tc td rv', rv = .ref T :: rv' ∧ (T, rowO (sgn u v y) t S) ∈ Z ∧ (S, tup4 (mw y) ta tb tc td) ∈ Z ∧ RowIn u v rv' Y Z := by
  obtain ⟨h1, h2⟩ := h
  obtain ⟨T, S, t, ta, tb, tc, td, e1, e2, e3⟩ := h2 0 y rfl
  cases rv with
  | nil => cases e1
  | cons a rv' =>
    have e4 : a = .ref T := by simpa using e1
    subst e4
    exact ⟨T, S, t, ta, tb, tc, td, rv', rfl, e2, e3, by simpa using h1, fun i y' hy => h2 (i + 1) y' hy⟩
inductive PR (w : World) (P : LexP) (tot0 : Int) (L : Addr) (o2 o3 o5 o6 : Obj) (Z : Led) (ws : List (List Nat)) (news' : Led) : Prop
  | mk (lx' tb' : Led) (zh2 : LexQ w P tot0 ws lx') (zh3 : Tabs tb') (zh5 : news' = KC4 L o2 o3 o5 o6 (lx' ++ (tb' ++ Z)))
section
variable (w : World) (fa : Addr) (cd : Value) (L Ds Dw Dr I : Addr) (P : LexP) (tot0 : Int) (Z : Led) (lo : Obj) (o2 o3 o5 o6 : Obj) (u v : Nat) (W0 : List (List Bool)) (e : Env1 P L Ds Dw o2 o3 o5 o6 u v W0 Z) (hDr : (Dr, lo) ∈ Z) (hPI : @LT.lt Nat _ P.PB I) (hZI : ∀ p ∈ Z, @LT.lt Nat _ p.1 I) (hPZ : @LT.lt Nat _ P.PB (topA Z))
   (base : Heap) (s : Shared) (Q : Flow → Shared → Prop) (E : Value → Shared → Prop) (mean : ExcName → Option Value) (mg mb : Str → Option Value)
   (B' : Below callerA base [] base) (X : (hd01.heap_1 w.params).In base) (T : Top topProg topL mean mg mb base) (C1 : CodeHd base 135 131) (C2 : CodeHd base 48 44) (C3 : CodeHd base 41 37) (hE : PassesOwn (model Challenge.rw_ty0035_01.row.prog w) (callerA.deeper (envL L fa cd)) (envL L fa cd) E)
   (fin : ∀ h tk m' n', Fr base L h m' → News base L h n' → PR w P tot0 L o2 o3 o5 o6 Z (W0.map (sgn u v)) n' → Q .next { s with heap := h, toks := tk })
include e hDr hPI hZI hPZ B' X T C1 C2 C3 hE fin
theorem loop_rows : ∀ (Y : List (List Bool)) (rv : List Value) (m : Str → Option Value) (lx tb : Led), RowIn u v rv Y Z → (∀ y ∈ Y, y.length ≤ 40) → m (Str.ofString "squares") = some (.ref Ds) → LexQ w P tot0 (W0.map (sgn u v)) lx → TbO [I, P.PB] tb →
    ItemsRest Challenge.rw_ty0035_01.row.prog w (callerA.deeper (envL L fa cd)) E base (envL L fa cd) (forT stR) (forB stR) Q s [(I, "list_iterator")] [(Dr, lo)] (rv.map .val) m (KC4 L o2 o3 o5 o6 (lx ++ (tb ++ Z))) := by
  intro Y
  induction Y with
  | nil =>
    intro rv m lx tb hR _ hm hlx htb
    have hrv : rv = [] := List.eq_nil_of_length_eq_zero hR.1
    subst hrv
    exact ItemsRest.zero fun h tk F N => fin h tk _ _ F N ⟨lx, tb, hlx, htb.1, rfl⟩
  | cons y Y ih =>
    intro rv m lx tb hR hY hm hlx htb
    obtain ⟨T1, S, t, ta, tb1, tc, td, rv', rfl, hT1, hS, hR'⟩ := rowIn_cons hR
    rw [List.map_cons]
    refine ItemsRest.val fun h tk F => AllObj.cons fun o co => AllObj.nil fun N => ?_
    refine row_assign w fa cd L T1 S base m _ _ (sgn u v y) t _ _ F N (.tail _ (kc_in (List.mem_append_right _ (List.mem_append_right _ hT1)))) B' X mean mg mb T (fun h1 tk1 F1 N1 => ?_)
    rw [body_R]
    have N2 := news_perm N1 (kc_one (x := (I, o)))
    have hA : ∀ a ∈ [I, P.PB], @LT.lt Nat _ a (topA ((I, o) :: Z)) := fun a ha => by
      rcases List.mem_cons.mp ha with rfl | ha
      · rw [topA_cons]; exact Nat.lt_of_lt_of_le (Nat.lt_succ_self _) (Nat.le_max_left _ _)
      · rw [List.mem_singleton.mp ha]; exact top_cons_lt hPZ
    refine loopI w fa cd L Ds Dw S (fun z => if z = Str.ofString "square" then some (.ref S) else if z = Str.ofString "row" then some (.str (tx (sgn u v y)) t) else m z) P tot0 lx tb ((I, o) :: Z) o2 o3 o5 o6 u v W0 (e.cons hPI) hlx [I, P.PB] htb hA (.tail _ (.head _)) y (hY y (.head _)) ta tb1 tc td (.tail _ hS) t ⟨hm, rfl, rfl, trivial⟩ mean mg mb base _ [] _ E B' F1 X N2 T C1 C2 C3 hE ?_
    rintro h8 tk8 m8 n8 F8 N8 ⟨lx8, tb8, hM8, hlx8, htb8, hn8, rfl⟩
    refine wpAny_execs_nil ?_
    have hoff : ∀ p ∈ KC4 L o2 o3 o5 o6 (lx8 ++ (tb8 ++ Z)), p.1 ≠ I := kc_new e.f hlx8 hPI fun p hp => by
      rcases List.mem_append.mp hp with hp | hp
      · exact htb8.2 p hp _ (.head _)
      · exact Nat.ne_of_lt (hZI p hp)
    exact endW (KC4 L o2 o3 o5 o6 (lx8 ++ (tb8 ++ Z))) F8 (news_perm N8 kc_one') (fun p hp q hq => by rw [List.mem_singleton.mp hq]; exact hoff p hp) ⟨⟨kc_in (List.mem_append_right _ (List.mem_append_right _ hDr)), trivial⟩, ih rv' m8 lx8 tb8 hR' (fun y hy => hY y (.tail _ hy)) hM8.1 hlx8 htb8⟩
end
theorem stage15 (w : World) (fa : Addr) (cd : Value) (L Ds Dw Dr : Addr) (m : Str → Option Value) (P : LexP) (tot0 : Int) (lx tb Z : Led) (o2 o3 o5 o6 : Obj) (u v : Nat) (W0 : List (List Bool)) (e : Env1 P L Ds Dw o2 o3 o5 o6 u v W0 Z) (hlx : LexQ w P tot0 (W0.map (sgn u v)) lx) (htb : TbO [P.PB] tb) (hPZ : @LT.lt Nat _ P.PB (topA Z))
   (rv : List Value) (er : Nat) (Y : List (List Bool)) (hR : RowIn u v rv Y Z) (hDr : (Dr, W.listOf rv.toArray er) ∈ Z) (hY : ∀ y ∈ Y, y.length ≤ 40) (hM : Has m [(Str.ofString "squares", .ref Ds), (Str.ofString "rows", .ref Dr)])
   (mean : ExcName → Option Value) (mg mb : Str → Option Value) (base : Heap) (s : Shared) (Q : Flow → Shared → Prop) (E : Value → Shared → Prop)
   (B' : Below callerA base [] base) (F : Fr base L s.heap m) (X : (hd01.heap_1 w.params).In base) (N : News base L s.heap (KC4 L o2 o3 o5 o6 (lx ++ (tb ++ Z)))) (T : Top topProg topL mean mg mb base) (C1 : CodeHd base 135 131) (C2 : CodeHd base 48 44) (C3 : CodeHd base 41 37)
   (hE : PassesOwn (model Challenge.rw_ty0035_01.row.prog w) (callerA.deeper (envL L fa cd)) (envL L fa cd) E)
   (hret : ∀ h' tk' m' news', Fr base L h' m' → News base L h' news' → PR w P tot0 L o2 o3 o5 o6 Z (W0.map (sgn u v)) news' → Q (.ret (.bool true)) { s with heap := h', toks := tk' }) :
    wpAny (model Challenge.rw_ty0035_01.row.prog w) (callerA.deeper (envL L fa cd)) (execs (blk 15 2) (envL L fa cd)) Q E s := by
  have F0 := fr_all0 hM F
  clear F
  (repeat' (first | (with_reducible refine if_ff ?_) | (with_reducible refine if_tt ?_) | (k_unfold; (try dsimp only)) | (k_end; wrow_close) | (cell_step; walk1) | (cell_step; dsimp only; walk1) | (leave1; walk_say "STEP leave1"; try dsimp only) | fail "no step"))
  (rename Fr _ _ _ _ => lF')
  (with_unfolding_all refine' For_turns (hE := hE) lF' ?_)
  (repeat' (first | (with_reducible refine if_ff ?_) | (with_reducible refine if_tt ?_) | (k_unfold; (try dsimp only)) | (k_end; wrow_close) | (cell_step; walk1) | (cell_step; dsimp only; walk1) | (leave1; walk_say "STEP leave1"; try dsimp only) | fail "no step"))
  rename Fr _ _ _ _ => F1
  rename News _ _ _ _ => N1
  refine iter_listTurns (ax := Dr) (lo := W.listOf rv.toArray er) (vs := rv) (n := er) (by rfl) F1 N1 (kc_in (List.mem_append_right _ (List.mem_append_right _ hDr))) rfl rfl ?_
  intro I hI
  have hZI : ∀ p ∈ Z, @LT.lt Nat _ p.1 I := fun p hp => hI p (kc_in (List.mem_append_right _ (List.mem_append_right _ hp)))
  obtain ⟨oP, hoP⟩ := lexQ_PB hlx
  have hPI : @LT.lt Nat _ P.PB I := hI _ (kc_in (List.mem_append_left _ hoP))
  refine loop_rows w fa cd L Ds Dw Dr I P tot0 Z (W.listOf rv.toArray er) o2 o3 o5 o6 u v W0 e hDr hPI hZI hPZ base _ _ E mean mg mb B' X T C1 C2 C3 hE ?fin Y rv _ lx tb hR hY rfl hlx (htb.cons (topA_of fun p hp => hI p (kc_in (List.mem_append_right _ (List.mem_append_left _ hp)))))
  case fin =>
    intro h tk m' n' F9 N9 hP9
    (try dsimp only)
    (repeat' (first | (with_reducible refine if_ff ?_) | (with_reducible refine if_tt ?_) | (k_unfold; (try dsimp only)) | (k_end; wrow_close) | (cell_step; walk1) | (cell_step; dsimp only; walk1) | (leave1; walk_say "STEP leave1"; try dsimp only) | fail "no step"))
    rename Fr _ _ _ _ => F10
    rename News _ _ _ _ => N10
    exact hret _ _ _ _ F10 N10 hP9
end
end
section
section
theorem body24 : fBody (fn 24) = blk 0 3 ++ (blk 3 1 ++ (blk 4 1 ++ (blk 5 1 ++ (blk 6 1 ++ (blk 7 1 ++ (blk 8 1 ++ (blk 9 1 ++ (blk 10 1 ++ (blk 11 2 ++ (blk 13 2 ++ blk 15 2)))))))))) := by with_unfolding_all rfl
theorem flat_len : ∀ (l : List (List Nat)), l.flatten.length = ((l.map tx).map (·.length)).sum
  | [] => rfl
  | x :: r => by
    rw [List.flatten_cons, List.length_append, flat_len r]
    simp [Str.length]
theorem sevn_le : ∀ x ∈ sevn, x < 128 ∧ x ≠ 46 ∧ x < 0x110000 := by decide
theorem esc_in {w : List Nat} (h : ∀ c ∈ w, c < 0x110000) : ∀ x ∈ esc w, x < 0x110000 := by
  intro x hx
  unfold esc at hx
  obtain ⟨c, hc, hx⟩ := List.mem_flatMap.mp hx
  have := h c hc
  split at hx
  · simp at hx; omega
  · simp at hx; omega
theorem bsl_in {w : List Nat} (h : ∀ c ∈ w, c < 0x110000) : ∀ x ∈ bsl w, x < 0x110000 := by
  intro x hx
  unfold bsl at hx
  obtain ⟨c, hc, hx⟩ := List.mem_flatMap.mp hx
  have := h c hc
  simp at hx; omega
theorem spell_in (q : Bool) {w : List Nat} (h : ∀ c ∈ w, c < 0x110000) : ∀ x ∈ spell q w, x < 0x110000 := by
  intro x hx
  unfold spell at hx
  split at hx
  · simp only [List.mem_cons, List.mem_append, List.not_mem_nil, or_false] at hx
    rcases hx with rfl | hx | rfl | rfl
    · decide
    · exact esc_in h x hx
    · decide
    · decide
  · simp only [List.mem_cons, List.mem_append, List.not_mem_nil, or_false] at hx
    rcases hx with hx | rfl
    · exact bsl_in h x hx
    · decide
theorem spells_in : ∀ (l : List (List Nat)) (t : Int), (∀ w ∈ l, ∀ c ∈ w, c < 0x110000) → ∀ x ∈ (spells t l).flatten, x < 0x110000
  | [], _, _, x, hx => by simp [spells] at hx
  | c :: r, t, h, x, hx => by
    rw [spells, List.flatten_cons, List.mem_append] at hx
    rcases hx with hx | hx
    · exact spell_in _ (h c (.head _)) x hx
    · exact spells_in r (t + 1) (fun d hd => h d (.tail _ hd)) x hx
theorem sgn_in {u v : Nat} {P : Nat → Prop} (hu : P u) (hv : P v) (x : List Bool) : ∀ c ∈ sgn u v x, P c := by
  intro c hc
  obtain ⟨b, _, rfl⟩ := List.mem_map.mp hc
  cases b
  · exact hv
  · exact hu
theorem wds_three : ∀ {ns : List Int}, ns.length = 9 → (wds ns).length = 3 ∧ (∀ x ∈ wds ns, x.length ≤ 10) ∧ ∀ i < 3, ∃ a b c, ns[3 * i]? = some a ∧ ns[3 * i + 1]? = some b ∧ ns[3 * i + 2]? = some c ∧ (wds ns)[i]? = some (wd a b c) := by
  intro ns hn
  obtain ⟨n0, n1, n2, n3, n4, n5, n6, n7, n8, rfl⟩ := nine_of hn
  refine ⟨rfl, ?_, fun i hi => wds_at hi⟩
  intro x hx
  simp only [wds, List.mem_cons, List.not_mem_nil, or_false] at hx
  rcases hx with rfl | rfl | rfl <;> exact wd_len _ _ _
theorem three_of {l : List (List Bool)} (h : l.length = 3) : ∃ a b c, l = [a, b, c] := by
  match l, h with
  | [a, b, c], _ => exact ⟨a, b, c, rfl⟩
noncomputable abbrev tb0 : Led := [(37, tabObj #[]), (44, tabObj #[])]
theorem tb0_tabs : Tabs tb0 := ⟨[(37, tabObj #[])], [(44, tabObj #[])], rfl, .inl rfl, .inl rfl, by intro p hp d hd; simp at hp hd; subst hp; subst hd; decide, by intro p hp d hd; simp at hp hd; subst hp; subst hd; decide⟩
theorem top_mem' {l : Led} {d : Nat} (h : topA l ≤ d) {p : Addr × Obj} (hp : p ∈ l) : @LT.lt Nat _ p.1 d := topA_lt h p hp
theorem zok_app {P : LexP} {L : Addr} (f : Fix2 P L) {A B : Led} (h : ∀ p ∈ A, @LT.lt Nat _ P.PB p.1) (k : ZOk P B) : ZOk P (A ++ B) := by
  have h44 := f.P44
  refine ⟨fun p hp => ?_, fun p hp => ?_, fun p hp => ?_⟩ <;> rcases List.mem_append.mp hp with hp | hp
  · exact Nat.ne_of_gt (h p hp)
  · exact k.zP p hp
  · exact Nat.ne_of_gt (Nat.lt_trans (by decide : 37 < 44) (Nat.lt_trans h44 (h p hp)))
  · exact k.z37 p hp
  · exact Nat.ne_of_gt (Nat.lt_trans h44 (h p hp))
  · exact k.z44 p hp
theorem tabs_37 {tb news : Led} (h : Tabs tb) (hs : ∀ p ∈ tb, p ∈ news) : ∃ ps, (37, tabObj ps) ∈ news := by
  obtain ⟨t1, t2, rfl, h1, h2, _, _⟩ := h
  rcases h1 with rfl | ⟨c', oc, vs, t, rfl, _⟩
  · exact ⟨_, hs _ (.head _)⟩
  · exact ⟨_, hs _ (.tail _ (.head _))⟩
theorem tabs_44 {tb news : Led} (h : Tabs tb) (hs : ∀ p ∈ tb, p ∈ news) : ∃ ps, (44, tabObj ps) ∈ news := by
  obtain ⟨t1, t2, rfl, h1, h2, _, _⟩ := h
  rcases h2 with rfl | ⟨c', oc, vs, t, rfl, _⟩
  · exact ⟨_, hs _ (List.mem_append_right _ (.head _))⟩
  · exact ⟨_, hs _ (List.mem_append_right _ (.tail _ (.head _)))⟩
section
variable {w : World} {L D Dw Dn Dt I : Addr} {us ys zs nv : List Value} {k kw kz kn : Nat} {p1 p2 p3 p4 p5 p6 p7 io : Obj} {lx : Led} {ps : Array Value}
theorem m_r3 : ∀ p ∈ R3 L D Dw us ys k kw p1 p2 p3 p4 p5 p6 p7 ((131, tabObj #[]) :: tb0), p ∈ (Dw, W.listOf ys.toArray kw) :: (D, W.listOf us.toArray k) :: cells7 L p1 p2 p3 p4 p5 p6 p7 tabs3 := by
  walk_at "mem all"
theorem m_r6 : ∀ p ∈ (D, W.listOf us.toArray k) :: cells7 L p1 p2 p3 p4 p5 p6 p7 (lx ++ ((Dw, W.listOf ys.toArray kw) :: (131, tabObj ps) :: tb0)), p ∈ lx ++ R3 L D Dw us ys k kw p1 p2 p3 p4 p5 p6 p7 ((131, tabObj ps) :: tb0) := by
  walk_at "mem all"
theorem m_top : ∀ p ∈ cells7 L p7 p6 p5 p4 p3 p2 p1 tabs3, p ∈ cells7 L p7 p6 p5 p4 p3 p2 p1 [(44, tabObj #[]), (37, tabObj #[]), (131, tabObj #[])] := by
  walk_at "mem all"
theorem m_r9 : ∀ p ∈ KC4 L p2 p3 p5 p6 (lx ++ (tb0 ++ [(Dn, W.listOf nv.toArray kn), (Dw, W.listOf ys.toArray kw), (131, tabObj ps)])), p ∈ (Dn, W.listOf nv.toArray kn) :: R4 L Dt D zs us kz k p1 p2 p3 p4 p5 p6 p7 (lx ++ ((Dw, W.listOf ys.toArray kw) :: (131, tabObj ps) :: tb0)) := by
  walk_at "mem all"
end
namespace Vlaw_body
noncomputable def At0 (w : World) (fa : Addr) (cd : Value) (L : Addr) (S : Addr) (vs : List Value) (xs : List Int) (o1 : Obj) (o2 : Obj) (o3 : Obj) (o4 : Obj) (o5 : Obj) (o6 : Obj) (o7 : Obj) (mean : ExcName → Option Value) (mg : Str → Option Value) (mb : Str → Option Value) (base : Heap) (s : Shared) (Q : Flow → Shared → Prop) (E : Value → Shared → Prop) : Prop := ∀ (hi : IntsAre vs xs) (hl : xs.length ≤ 63) (hL : topA tabs3 ≤ L) (e1 : o1.data = .cell none) (e2 : o2.data = .cell none) (e3 : o3.data = .cell none) (e4 : o4.data = .cell none) (e5 : o5.data = .cell none) (e6 : o6.data = .cell none) (e7 : o7.data = .cell none) (B' : Below callerA base [] base) (F : Fr base L s.heap (fun y => if y = Str.ofString "script" then some (.ref S) else none)) (X : (hd01.heap_1 w.params).In base) (N : News base L s.heap (cells7 L o1 o2 o3 o4 o5 o6 o7 tabs3)) (T : Top topProg topL mean mg mb base) (C1 : CodeHd base 135 131) (C2 : CodeHd base 48 44) (C3 : CodeHd base 41 37) (hE : PassesOwn (model Challenge.rw_ty0035_01.row.prog w) (callerA.deeper (envL L fa cd)) (envL L fa cd) E) (hS : base.IsList S vs.toArray) (hret : ∀ h' tk' m' news', Fr base L h' m' → News base L h' news' → (∃ ps, (131, tabObj ps) ∈ news') → (∃ ps, (44, tabObj ps) ∈ news') → (∃ ps, (37, tabObj ps) ∈ news') → Q (.ret (.bool true)) { s with heap := h', toks := tk' }), wpAny (model Challenge.rw_ty0035_01.row.prog w) (callerA.deeper (envL L fa cd)) (execs (fBody (fn 24)) (envL L fa cd)) Q E s
noncomputable def AtX (x : (World) × (Addr) × (Value) × (Addr) × (Addr) × (List Value) × (List Int) × (Obj) × (Obj) × (Obj) × (Obj) × (Obj) × (Obj) × (Obj) × (ExcName → Option Value) × (Str → Option Value) × (Str → Option Value) × (Heap) × (Shared) × (Flow → Shared → Prop) × (Value → Shared → Prop)) : Prop := At0 (x.1) (x.2.1) (x.2.2.1) (x.2.2.2.1) (x.2.2.2.2.1) (x.2.2.2.2.2.1) (x.2.2.2.2.2.2.1) (x.2.2.2.2.2.2.2.1) (x.2.2.2.2.2.2.2.2.1) (x.2.2.2.2.2.2.2.2.2.1) (x.2.2.2.2.2.2.2.2.2.2.1) (x.2.2.2.2.2.2.2.2.2.2.2.1) (x.2.2.2.2.2.2.2.2.2.2.2.2.1) (x.2.2.2.2.2.2.2.2.2.2.2.2.2.1) (x.2.2.2.2.2.2.2.2.2.2.2.2.2.2.1) (x.2.2.2.2.2.2.2.2.2.2.2.2.2.2.2.1) (x.2.2.2.2.2.2.2.2.2.2.2.2.2.2.2.2.1) (x.2.2.2.2.2.2.2.2.2.2.2.2.2.2.2.2.2.1) (x.2.2.2.2.2.2.2.2.2.2.2.2.2.2.2.2.2.2.1) (x.2.2.2.2.2.2.2.2.2.2.2.2.2.2.2.2.2.2.2.1) (x.2.2.2.2.2.2.2.2.2.2.2.2.2.2.2.2.2.2.2.2)
noncomputable def cc0 : (World) × (Addr) × (Value) × (Addr) × (Addr) × (List Value) × (List Int) × (Obj) × (Obj) × (Obj) × (Obj) × (Obj) × (Obj) × (Obj) × (ExcName → Option Value) × (Str → Option Value) × (Str → Option Value) × (Heap) × (Shared) × (Flow → Shared → Prop) × (Value → Shared → Prop) := eps1 (ne_prod ne_world (ne_prod ne_addr (ne_prod ne_value (ne_prod ne_addr (ne_prod ne_addr (ne_prod ne_list (ne_prod ne_list (ne_prod ne_obj (ne_prod ne_obj (ne_prod ne_obj (ne_prod ne_obj (ne_prod ne_obj (ne_prod ne_obj (ne_prod ne_obj (ne_prod ne_mean (ne_prod ne_par (ne_prod ne_par (ne_prod ne_heap (ne_prod ne_shared (ne_prod ne_q ne_e)))))))))))))))))))) AtX
noncomputable def w : World := cc0.1
noncomputable def fa : Addr := cc0.2.1
noncomputable def cd : Value := cc0.2.2.1
noncomputable def L : Addr := cc0.2.2.2.1
noncomputable def S : Addr := cc0.2.2.2.2.1
noncomputable def vs : List Value := cc0.2.2.2.2.2.1
noncomputable def xs : List Int := cc0.2.2.2.2.2.2.1
noncomputable def o1 : Obj := cc0.2.2.2.2.2.2.2.1
noncomputable def o2 : Obj := cc0.2.2.2.2.2.2.2.2.1
noncomputable def o3 : Obj := cc0.2.2.2.2.2.2.2.2.2.1
noncomputable def o4 : Obj := cc0.2.2.2.2.2.2.2.2.2.2.1
noncomputable def o5 : Obj := cc0.2.2.2.2.2.2.2.2.2.2.2.1
noncomputable def o6 : Obj := cc0.2.2.2.2.2.2.2.2.2.2.2.2.1
noncomputable def o7 : Obj := cc0.2.2.2.2.2.2.2.2.2.2.2.2.2.1
noncomputable def mean : ExcName → Option Value := cc0.2.2.2.2.2.2.2.2.2.2.2.2.2.2.1
noncomputable def mg : Str → Option Value := cc0.2.2.2.2.2.2.2.2.2.2.2.2.2.2.2.1
noncomputable def mb : Str → Option Value := cc0.2.2.2.2.2.2.2.2.2.2.2.2.2.2.2.2.1
noncomputable def base : Heap := cc0.2.2.2.2.2.2.2.2.2.2.2.2.2.2.2.2.2.1
noncomputable def s : Shared := cc0.2.2.2.2.2.2.2.2.2.2.2.2.2.2.2.2.2.2.1
noncomputable def Q : Flow → Shared → Prop := cc0.2.2.2.2.2.2.2.2.2.2.2.2.2.2.2.2.2.2.2.1
noncomputable def E : Value → Shared → Prop := cc0.2.2.2.2.2.2.2.2.2.2.2.2.2.2.2.2.2.2.2.2
theorem aux (hi : IntsAre vs xs) (hl : xs.length ≤ 63) (hL : topA tabs3 ≤ L) (e1 : o1.data = .cell none) (e2 : o2.data = .cell none) (e3 : o3.data = .cell none) (e4 : o4.data = .cell none) (e5 : o5.data = .cell none) (e6 : o6.data = .cell none) (e7 : o7.data = .cell none) (B' : Below callerA base [] base) (F : Fr base L s.heap (fun y => if y = Str.ofString "script" then some (.ref S) else none)) (X : (hd01.heap_1 w.params).In base) (N : News base L s.heap (cells7 L o1 o2 o3 o4 o5 o6 o7 tabs3)) (T : Top topProg topL mean mg mb base) (C1 : CodeHd base 135 131) (C2 : CodeHd base 48 44) (C3 : CodeHd base 41 37) (hE : PassesOwn (model Challenge.rw_ty0035_01.row.prog w) (callerA.deeper (envL L fa cd)) (envL L fa cd) E) (hS : base.IsList S vs.toArray) (hret : ∀ h' tk' m' news', Fr base L h' m' → News base L h' news' → (∃ ps, (131, tabObj ps) ∈ news') → (∃ ps, (44, tabObj ps) ∈ news') → (∃ ps, (37, tabObj ps) ∈ news') → Q (.ret (.bool true)) { s with heap := h', toks := tk' }) :
  wpAny (model Challenge.rw_ty0035_01.row.prog w) (callerA.deeper (envL L fa cd)) (execs (fBody (fn 24)) (envL L fa cd)) Q E s := by
  have hL131 : @LT.lt Nat _ 131 L := hL
  rw [body24]
  refine stage0 w fa cd L S vs xs hi hl tabs3 o1 o2 o3 o4 o5 o6 o7 hL e1 e2 e3 mean mg mb base s _ Q E B' F X N T C1 C2 C3 hE hS ?_
  rintro h0 k0 m0 n0 F0 N0 ⟨rfl, u, v, t1, t2, t3, p1, p2, p3, hu, hv, huv, rfl, f1, f2, f3⟩
  refine stage1 w fa cd L S vs xs hi hl tabs3 p1 p2 p3 o4 o5 o6 o7 hL e4 mean mg mb base _ _ Q E B' F0 X N0 T C1 C2 C3 hE hS ?_
  rintro h1 k1 m1 n1 F1 N1 ⟨D, us, ns, kk, p4, hus, hn9, hnb, hD, htD, f4, rfl, rfl⟩
  refine stage2 w fa cd L D us ns kk u v t2 t3 _ tabs3 p1 p2 p3 p4 o5 o6 o7 hus hn9 f2 f3 f4 e5 hD hL mean mg mb base _ _ Q E B' F1 X N1 T C1 C2 C3 hE trivial ?_
  rintro h2 k2 m2 n2 F2 N2 ⟨Dw, ys, kw, p5, hys, hDDw, hoff, f5, rfl, rfl⟩
  obtain ⟨hW3, hW10, hWat⟩ := wds_three hn9
  generalize hW0 : wds ns = W0 at *
  have hWS3 : (W0.map (sgn u v)).length = 3 := by rw [List.length_map]; exact hW3
  have hWS10 : ∀ w ∈ W0.map (sgn u v), w.length ≤ 10 := by
    intro w hw
    obtain ⟨x, hx, rfl⟩ := List.mem_map.mp hw
    rw [sgn_len]
    exact hW10 x hx
  have hu9 := sevn_le u hu
  have hv9 := sevn_le v hv
  have hWSin : ∀ w ∈ W0.map (sgn u v), ∀ c ∈ w, c < 0x110000 := by
    intro w hw
    obtain ⟨x, hx, rfl⟩ := List.mem_map.mp hw
    exact sgn_in (P := fun c => c < 0x110000) hu9.2.2 hv9.2.2 x
  refine stage3 w fa cd L D Dw us ys kk kw xs.sum (W0.map (sgn u v)) t1 _ tabs3 p1 p2 p3 p4 p5 o6 o7 f1 f5 hys hWS3 hWS10 mean mg mb base _ _ Q E B' F2 X N2 T C1 C2 C3 hE trivial ?_
  rintro h3 k3 m3 n3 F3 N3 ⟨tt, rfl, rfl⟩
  have hcl : (spells xs.sum (W0.map (sgn u v))).flatten.length ≤ 1000 := by
    have h3 := (spells_len (W0.map (sgn u v)) xs.sum hWS10).1
    rw [← flat_len, hWS3] at h3
    omega
  have hci := spells_in (W0.map (sgn u v)) xs.sum hWSin
  have hD' : offC L ((131, tabObj #[]) :: tb0) D := offC_top hD htD
  have hDw' : offC L ((131, tabObj #[]) :: tb0) Dw := ⟨hoff.1, hoff.2.1, hoff.2.2.1, hoff.2.2.2.1, hoff.2.2.2.2.1, hoff.2.2.2.2.2.1, hoff.2.2.2.2.2.2.1, hoff.2.2.2.2.2.2.2.1, hoff.2.2.2.2.2.2.2.2.2.1, hoff.2.2.2.2.2.2.2.2.1, trivial⟩
  refine stage4 w fa cd L D Dw us ys kk kw _ tb0 p1 p2 p3 p4 p5 o6 o7 (spells xs.sum (W0.map (sgn u v))).flatten tt (Nat.le_trans (by decide : topA tb0 ≤ 132) hL) hL131 (by intro p hp d hd; simp at hp hd; rcases hp with rfl | rfl <;> (subst hd; decide)) hD' hDw' e6 rfl hcl mean mg mb base _ _ Q E B' F3 X (news_perm N3 m_r3) T C1 C2 C3 hE trivial ?_
  rintro h4 k4 m4 n4 F4 N4 ⟨rfl, P, tl, sg, ep, p6, tps, O, htop, hsg, f6, rfl⟩
  refine stage5 w fa cd L D Dw us ys kk kw xs.sum (1 + cnt (spells xs.sum (W0.map (sgn u v))).flatten) (W0.map (sgn u v)) _ ((131, tabObj tps) :: tb0) p1 p2 p3 p4 p5 p6 o7 P (spells xs.sum (W0.map (sgn u v))).flatten tt O f5 f6 hWS3 hWS10 hWSin hys htop rfl hcl rfl _ (.on (Nat.zero_le _) ⟨1, tl, 0, sg, ep, [], .inl rfl, rfl, ?a1, ?a2, ?a3, ?a4⟩) mean mg mb base _ _ Q E B' F4 X N4 T C1 C2 C3 hE trivial ?_
  case a1 => rw [List.drop_zero, List.nil_append, show xs.sum + ((0 : Nat) : Int) = xs.sum from Int.add_zero _]; exact hsg
  case a2 => rw [List.drop_zero, List.nil_append, show xs.sum + ((0 : Nat) : Int) = xs.sum from Int.add_zero _]
  case a3 => rw [List.drop_zero, List.nil_append, show xs.sum + ((0 : Nat) : Int) = xs.sum from Int.add_zero _]; exact hcl
  case a4 => rw [List.drop_zero, List.nil_append, show xs.sum + ((0 : Nat) : Int) = xs.sum from Int.add_zero _]; exact hci
  rintro h5 k5 m5 n5 F5 N5 ⟨rfl, tl5, pe5, ep5, rfl⟩
  generalize htot0 : (1 + cnt (spells xs.sum (W0.map (sgn u v))).flatten) = tot0 at *
  have hLc : @LT.lt Nat _ (L + 7) P.cG := top_mem' htop (.tail _ (.tail _ (.head _)))
  have f : Fix2 P L := ⟨O, hL131, hLc⟩
  have hDwc : @LT.lt Nat _ Dw P.cG := top_mem' htop (.head _)
  have hDwP : @LT.lt Nat _ Dw P.PB := Nat.lt_trans hDwc f.cP
  generalize hlx : LexL w P tot0 tl5 [] pe5 [] ep5 = lx at *
  have hlx0 : LexQ w P tot0 [] lx := ⟨tl5, [], pe5, ep5, .nil, hlx.symm⟩
  have hK7 : ∀ p ∈ lx ++ ((Dw, W.listOf ys.toArray kw) :: (131, tabObj tps) :: tb0), p.1 ≠ L + 1 + 1 + 1 + 1 + 1 + 1 + 1 := by
    intro p hp
    rcases List.mem_append.mp hp with hp | hp
    · exact Nat.ne_of_gt (Nat.lt_of_lt_of_le hLc (lexQ_adr O hlx0 p hp).1)
    rcases List.mem_cons.mp hp with rfl | hp
    · exact Ne.symm hoff.1
    · have h131 : @LE.le Nat _ p.1 131 := by
        simp only [List.mem_cons, List.not_mem_nil, or_false] at hp
        rcases hp with rfl | rfl | rfl
        · exact Nat.le_refl 131
        · exact (by decide : (37 : Nat) ≤ 131)
        · exact (by decide : (44 : Nat) ≤ 131)
      exact Nat.ne_of_lt (Nat.lt_of_le_of_lt h131 (Nat.lt_of_lt_of_le hL131 (Nat.le_add_right L 7)))
  refine stage6 w fa cd L D us kk ns _ (lx ++ ((Dw, W.listOf ys.toArray kw) :: (131, tabObj tps) :: tb0)) p1 p2 p3 p4 p5 p6 o7 hus hn9 hnb f4 e7 (Nat.ne_of_gt hD) hK7 mean mg mb base _ _ Q E B' F5 X (news_perm N5 m_r6) T C1 C2 C3 hE trivial ?_
  rintro h6 k6 m6 n6 F6 N6 ⟨rfl, Dt, I, zs, kz, io, p7, hz, f7, hio, hI, rfl⟩
  refine stage7 w fa cd L I Dt D zs us kz kk ns _ (lx ++ ((Dw, W.listOf ys.toArray kw) :: (131, tabObj tps) :: tb0)) p1 p2 p3 p4 p5 p6 p7 io hz hn9 hnb f7 hio hI mean mg mb base _ _ Q E B' F6 X N6 T C1 C2 C3 hE trivial ?_
  rintro h7 k7 m7 n7 F7 N7 ⟨Dn, nv, kn, io', rfl, hnv, hio', hDnI, rfl, hDn⟩
  refine stage8 w fa cd L I Dn Dt D nv zs us kn kz kk ns _ (lx ++ ((Dw, W.listOf ys.toArray kw) :: (131, tabObj tps) :: tb0)) p1 p2 p3 p4 p5 p6 p7 io' hnv hus f4 f7 hio' hDnI hI rfl mean mg mb base _ _ Q E B' F7 X N7 T C1 C2 C3 hE trivial ?_
  rintro h8 k8 m8 n8 F8 N8 ⟨rfl, rfl⟩
  have inK : ∀ {p : Addr × Obj}, p ∈ lx ++ ((Dw, W.listOf ys.toArray kw) :: (131, tabObj tps) :: tb0) → p ∈ R4 L Dt D zs us kz kk p1 p2 p3 p4 p5 p6 p7 (lx ++ ((Dw, W.listOf ys.toArray kw) :: (131, tabObj tps) :: tb0)) := fun h => .tail _ (.tail _ (.tail _ (.tail _ (.tail _ (.tail _ (.tail _ (.tail _ (.tail _ h))))))))
  obtain ⟨oP, hoP⟩ := lexQ_PB hlx0
  have hPB37 := f.P44
  have hZ : ZOk P [(Dn, W.listOf nv.toArray kn), (Dw, W.listOf ys.toArray kw), (131, tabObj tps)] := by
    refine ⟨fun p hp => ?_, fun p hp => ?_, fun p hp => ?_⟩ <;> simp only [List.mem_cons, List.not_mem_nil, or_false] at hp <;> rcases hp with rfl | rfl | rfl
    · exact Ne.symm (hDn _ (inK (List.mem_append_left _ hoP)))
    · exact Nat.ne_of_lt hDwP
    · exact Nat.ne_of_lt (Nat.lt_trans hL131 (Nat.lt_of_le_of_lt (Nat.le_add_right L 7) f.LP))
    · exact Ne.symm (hDn _ (inK (List.mem_append_right _ (.tail _ (.tail _ (.head _))))))
    · exact Ne.symm hDw'.2.2.2.2.2.2.2.2.1
    · exact (by decide : (131 : Nat) ≠ 37)
    · exact Ne.symm (hDn _ (inK (List.mem_append_right _ (.tail _ (.tail _ (.tail _ (.head _)))))))
    · exact Ne.symm hDw'.2.2.2.2.2.2.2.2.2.1
    · exact (by decide : (131 : Nat) ≠ 44)
  have htb : TbO [P.PB] tb0 := ⟨tb0_tabs, fun p hp a ha => by
    rw [List.mem_singleton.mp ha]
    simp only [List.mem_cons, List.not_mem_nil, or_false] at hp
    rcases hp with rfl | rfl
    · exact Nat.ne_of_lt (Nat.lt_trans (by decide : 37 < 44) hPB37)
    · exact Nat.ne_of_lt hPB37⟩
  refine (stage9 w fa cd L Dw Dn _ P f tot0 lx tb0 [(Dn, W.listOf nv.toArray kn), (Dw, W.listOf ys.toArray kw), (131, tabObj tps)] p2 p3 p5 p6 u v t2 t3 f2 f3 f5 f6 hlx0 hZ htb W0 hW3 ys kw hys (.tail _ (.head _)) nv kn ns hnv hn9 (.head _) hWat rfl) mean mg mb base _ _ Q E B' F8 X (news_perm N8 m_r9) T C1 C2 C3 hE ?_
  rintro h9 k9 m9 n9 F9 N9 ⟨Ds, lx9, tb9, TL, sqv, e9, hM9, hlx9, htb9, hsq, ⟨hTL, hPDs⟩, rfl⟩
  obtain ⟨x0, x1, x2, hW⟩ := three_of hW3
  subst hW
  have l0 := hW10 x0 (.head _)
  have l1 := hW10 x1 (.tail _ (.head _))
  have l2 := hW10 x2 (.tail _ (.tail _ (.head _)))
  have hZ9 : ZOk P ((Ds, W.listOf sqv.toArray e9) :: (TL ++ [(Dn, W.listOf nv.toArray kn), (Dw, W.listOf ys.toArray kw), (131, tabObj tps)])) := by
    refine ZOk.cons ?_ f hPDs
    exact zok_app f (fun p hp => Nat.lt_trans hPDs (hTL p hp)) hZ
  refine stage13 w fa cd L Ds Dw Dn m9 P f tot0 lx9 tb9 ((Ds, W.listOf sqv.toArray e9) :: (TL ++ [(Dn, W.listOf nv.toArray kn), (Dw, W.listOf ys.toArray kw), (131, tabObj tps)])) p2 p3 p5 p6 u v f5 _ hlx9 x0 x1 x2 l0 l1 l2 ys kw hys (.tail _ (List.mem_append_right _ (.tail _ (.head _)))) sqv e9 (hsq.mono fun p hp => .tail _ (List.mem_append_left _ hp)) (.head _) hM9 mean mg mb base _ _ Q E B' F9 X N9 T C1 C2 C3 hE ?_
  rintro h10 k10 m10 n10 F10 N10 ⟨Dr, rv, er, RT, hM10, hrow, hbig, rfl⟩
  have hZ10 : ZOk P (((Dr, W.listOf rv.toArray er) :: RT) ++ ((Ds, W.listOf sqv.toArray e9) :: (TL ++ [(Dn, W.listOf nv.toArray kn), (Dw, W.listOf ys.toArray kw), (131, tabObj tps)]))) := zok_app f hbig hZ9
  have hPr := hbig _ (.head _)
  refine stage15 w fa cd L Ds Dw Dr m10 P tot0 lx9 tb9 ((Dr, W.listOf rv.toArray er) :: (RT ++ ((Ds, W.listOf sqv.toArray e9) :: (TL ++ [(Dn, W.listOf nv.toArray kn), (Dw, W.listOf ys.toArray kw), (131, tabObj tps)])))) p2 p3 p5 p6 u v [x0, x1, x2] ⟨f, ⟨t2, f2⟩, ⟨t3, f3⟩, f5, f6, huv, hu9.2.1, hv9.2.1, rfl, hW10, ⟨ys, kw, hys, .tail _ (List.mem_append_right _ (.tail _ (List.mem_append_right _ (.tail _ (.head _)))))⟩, ⟨sqv, e9, hsq.mono fun p hp => .tail _ (List.mem_append_right _ (.tail _ (List.mem_append_left _ hp))), .tail _ (List.mem_append_right _ (.head _))⟩, hZ10⟩ hlx9 htb9 ?hPZ rv er [x1, x0 ++ x1, x2 ++ (x0 ++ x1)] ?hR (.head _) ?hY hM10 mean mg mb base _ Q E B' F10 X N10 T C1 C2 C3 hE ?_
  case hPZ => rw [topA_cons]; exact Nat.lt_of_lt_of_le (Nat.lt_succ_of_lt hPr) (Nat.le_max_left _ _)
  case hR => exact ⟨hrow.1, fun i y hy => by
      obtain ⟨T', S', t', a', b', c', d', g1, g2, g3⟩ := hrow.2 i y hy
      exact ⟨T', S', t', a', b', c', d', g1, .tail _ g2, .tail _ g3⟩⟩
  case hY =>
    intro y hy
    simp only [List.mem_cons, List.not_mem_nil, or_false] at hy
    rcases hy with rfl | rfl | rfl
    · omega
    · rw [List.length_append]; omega
    · rw [List.length_append, List.length_append]; omega
  rintro h11 k11 m11 n11 F11 N11 ⟨lx11, tb11, hlx11, ht11, rfl⟩
  exact hret h11 k11 m11 _ F11 N11 ⟨tps, kc_in (List.mem_append_right _ (List.mem_append_right _ (.tail _ (List.mem_append_right _ (.tail _ (List.mem_append_right _ (.tail _ (.tail _ (.head _)))))))))⟩ (tabs_44 ht11 fun p hp => kc_in (List.mem_append_right _ (List.mem_append_left _ hp))) (tabs_37 ht11 fun p hp => kc_in (List.mem_append_right _ (List.mem_append_left _ hp)))
end Vlaw_body
theorem law_body (w : World) (fa : Addr) (cd : Value) (L S : Addr) (vs : List Value) (xs : List Int) (hi : IntsAre vs xs) (hl : xs.length ≤ 63) (hL : topA tabs3 ≤ L) (o1 o2 o3 o4 o5 o6 o7 : Obj)
   (e1 : o1.data = .cell none) (e2 : o2.data = .cell none) (e3 : o3.data = .cell none) (e4 : o4.data = .cell none) (e5 : o5.data = .cell none) (e6 : o6.data = .cell none) (e7 : o7.data = .cell none)
   (mean : ExcName → Option Value) (mg mb : Str → Option Value) (base : Heap) (s : Shared) (Q : Flow → Shared → Prop) (E : Value → Shared → Prop)
   (B' : Below callerA base [] base) (F : Fr base L s.heap (fun y => if y = Str.ofString "script" then some (.ref S) else none)) (X : (hd01.heap_1 w.params).In base) (N : News base L s.heap (cells7 L o1 o2 o3 o4 o5 o6 o7 tabs3)) (T : Top topProg topL mean mg mb base) (C1 : CodeHd base 135 131) (C2 : CodeHd base 48 44) (C3 : CodeHd base 41 37)
   (hE : PassesOwn (model Challenge.rw_ty0035_01.row.prog w) (callerA.deeper (envL L fa cd)) (envL L fa cd) E) (hS : base.IsList S vs.toArray)
   (hret : ∀ h' tk' m' news', Fr base L h' m' → News base L h' news' → (∃ ps, (131, tabObj ps) ∈ news') → (∃ ps, (44, tabObj ps) ∈ news') → (∃ ps, (37, tabObj ps) ∈ news') → Q (.ret (.bool true)) { s with heap := h', toks := tk' }) :
  wpAny (model Challenge.rw_ty0035_01.row.prog w) (callerA.deeper (envL L fa cd)) (execs (fBody (fn 24)) (envL L fa cd)) Q E s := (show Vlaw_body.At0 w fa cd L S vs xs o1 o2 o3 o4 o5 o6 o7 mean mg mb base s Q E from eps1_all (P := Vlaw_body.AtX) @Vlaw_body.aux (w, fa, cd, L, S, vs, xs, o1, o2, o3, o4, o5, o6, o7, mean, mg, mb, base, s, Q, E)) hi hl hL e1 e2 e3 e4 e5 e6 e7 B' F X N T C1 C2 C3 hE hS hret
end
end
end
section
inductive Seven (cm : Str → Option Value) (n₁ n₂ n₃ n₄ n₅ n₆ n₇ : Str) (c₁ c₂ c₃ c₄ c₅ c₆ c₇ : Addr) (cells : List (Addr × Obj)) : Prop
  | mk (o₁ o₂ o₃ o₄ o₅ o₆ o₇ : Obj) (zh0 : cells = [(c₁, o₁), (c₂, o₂), (c₃, o₃), (c₄, o₄), (c₅, o₅), (c₆, o₆), (c₇, o₇)]) (zh1 : o₁.data = .cell (cm n₁)) (zh2 : o₂.data = .cell (cm n₂)) (zh3 : o₃.data = .cell (cm n₃)) (zh4 : o₄.data = .cell (cm n₄)) (zh5 : o₅.data = .cell (cm n₅)) (zh6 : o₆.data = .cell (cm n₆)) (zh7 : o₇.data = .cell (cm n₇))
theorem kc_seven9 {cm : Str → Option Value} {n₁ n₂ n₃ n₄ n₅ n₆ n₇ : Str} {c₁ c₂ c₃ c₄ c₅ c₆ c₇ : Addr} {cells : List (Addr × Obj)} (x : CellsAre cm [(n₁, c₁), (n₂, c₂), (n₃, c₃), (n₄, c₄), (n₅, c₅), (n₆, c₆), (n₇, c₇)] cells) :
    Seven cm n₁ n₂ n₃ n₄ n₅ n₆ n₇ c₁ c₂ c₃ c₄ c₅ c₆ c₇ cells := by
  obtain ⟨o₁, o₂, o₃, o₄, o₅, o₆, o₇, rfl, h₁, h₂, h₃, h₄, h₅, h₆, h₇⟩ := kc_seven x; exact ⟨o₁, o₂, o₃, o₄, o₅, o₆, o₇, rfl, h₁, h₂, h₃, h₄, h₅, h₆, h₇⟩
theorem t01 : PySem.Challenge.rw_ty0035_01.Holds := hd01 (by
  k_fill
  intro w s₀ s₁ mg mb G Y fa o pm cd doc dV kV ho hd hcd hD hmg hg args vals as hpre hlay hrd hwl hlo
  have KX := km_in_of Y
  km_tabs Y
  have X := (Ground.X G).1
  have V := (Ground.X G).2
  refine Ground.open G ?_
  intro T B D TE TW
  try (refine guard_noD D (by decide +kernel) ?_; clear D)
  km_lay T hmg ho hd cd
  clear hmg
  wrow_args hpre hlay hrd hwl hlo
  first | refine callC_kw (enter_call ?_) | refine enter_call ?_
  w_top on
  kn_posts
  have he := Dflts.none hD rfl
  subst he
  have he := Dflts.noKw hD
  subst he
  refine call_cellsN (by decide) ho (fd_plain hd) (Top.nolimit T) hcd rfl (kinds_of (by kinds_ok)) (by decide) fun h₁ tk₁ cells F N0 X0 => ?_
  obtain ⟨o1, o2, o3, o4, o5, o6, o7, he, d1, d2, d3, d4, d5, d6, d7⟩ := kc_seven9 X0
  subst he
  clear hd
  kn_ghosts F T
  k_drop
  rename (¬ (63 : Int) < _) => hc63
  rename Below _ _ _ _ => BB
  rename Fr _ _ _ _ => FF
  rename News _ _ _ _ => NN
  rename Heap.IsList _ _ _ => LL
  rename IntsAre _ _ => II
  rename (44 < _ ∧ _) => l0
  rename Frag.In _ _ => XX
  have TT := ghost_top hT9 T
  have CC := ghost_code hT9
  with_unfolding_all refine law_body w fa cd s₁.heap.objs.size _ _ _ II ?hl ?hL o7 o6 o5 o4 o3 o2 o1 d7 d6 d5 d4 d3 d2 d1 _ mg mb _ _ _ _ BB FF XX (news_perm NN ?pm) TT CC.2.2.1 CC.1 CC.2.1 ?hE LL ?hret
  case hl => omega
  case hL => exact l0.2.2
  case pm => exact m_top
  case hE => passes_own
  case hret =>
    intro h' tk' m' news' F9 N9 h131 h44 h37
    refine ⟨?gg, ?gr⟩
    case gg => wrow_close
    case gr =>
      exact ⟨h44.elim fun ps hm => GrownAt.of N9 hm, h37.elim fun ps hm => GrownAt.of N9 hm, h131.elim fun ps hm => GrownAt.of N9 hm, trivial⟩)
end
end Mine
theorem PySem.Challenge.cw_ty0035_01_holds : PySem.Challenge.rw_ty0035_01.Holds := by
  exact Mine.t01
