import PyProof.Rows.All
import Wide.All
import OpenK.AllK
import Wide.FinOn
import PySem.Challenge.RW_pg0118_01
open PySem PySem.W PyProof.Rows
set_option Elab.async false
/-! PgTop -/
section
set_option maxRecDepth 100000
set_option maxHeartbeats 8000000
namespace Pg
open_top hd for PySem.Challenge.rw_pg0118_01
end Pg
end
/-! PgBase -/
section
set_option maxRecDepth 100000
set_option maxHeartbeats 8000000
namespace Pg
def Hold (P : Prop) : Prop := P
theorem Hold.out {P : Prop} (h : Hold P) : P := h
theorem Hold.mk {P : Prop} (h : P) : Hold P := h
structure Parts where
  name : Str
  args : Arguments
  body : List Stmt
  scope : Scope
  pos : Pos
def partsOf : Stmt → Option Parts
  | .FunctionDef name args body _ _ _ scope _ _ pos => some ⟨name, args, body, scope, pos⟩
  | _ => none
def topAt (i : Nat) : Option Parts := (PySem.Challenge.rw_pg0118_01.row.prog.main.body)[i]?.bind partsOf
def subAt (i j : Nat) : Option Parts := (topAt i).bind fun d => d.body[j]?.bind partsOf
def inner1P : { d : Parts // subAt 6 1 = some d } := ⟨_, rfl⟩
def inner2P : { d : Parts // subAt 7 0 = some d } := ⟨_, rfl⟩
end Pg
end
/-! PgMath -/
section
namespace Pg
def undigs (b : Int) : List Int → Int
  | [] => 0
  | d :: ds => d + b * undigs b ds
theorem undigs_append (b : Int) : ∀ (A B : List Int), undigs b (A ++ B) = undigs b A + b ^ A.length * undigs b B
  | [], B => by simp [undigs]
  | d :: A, B => by
    have := undigs_append b A B
    simp only [List.cons_append, undigs, List.length_cons, this, Int.pow_succ]
    rw [Int.mul_add, Int.add_assoc, ← Int.mul_assoc, Int.mul_comm b (b ^ A.length)]
theorem pow2_pos (n : Nat) : (0 : Int) < 2 ^ n := Int.pow_pos (by decide)
theorem fdiv_pow (x : Int) (n : Nat) : x.fdiv (2 ^ n) = x / 2 ^ n := Int.fdiv_eq_ediv_of_nonneg _ (Int.le_of_lt (pow2_pos n))
theorem and_low (k n : Nat) : k &&& (k / 2 ^ n * 2 ^ n) = k / 2 ^ n * 2 ^ n := by
  rw [← Nat.shiftRight_eq_div_pow, ← Nat.shiftLeft_eq]
  apply Nat.eq_of_testBit_eq
  intro i
  rw [Nat.testBit_and, Nat.testBit_shiftLeft, Nat.testBit_shiftRight]
  by_cases h : i ≥ n
  · simp [h, show n + (i - n) = i by omega]
  · simp [h]
theorem xor_low (x : Int) (n : Nat) (hx : 0 ≤ x) : Builtin.bitXor x (x.fdiv (2 ^ n) * 2 ^ n) = x - x.fdiv (2 ^ n) * 2 ^ n := by
  obtain ⟨k, rfl⟩ := Int.eq_ofNat_of_zero_le hx
  have e1 : ((k : Nat) : Int).fdiv (2 ^ n) * 2 ^ n = ((k / 2 ^ n * 2 ^ n : Nat) : Int) := by
    rw [fdiv_pow]
    simp
  rw [bitXor_and, e1]
  have e2 : Builtin.bitAnd (k : Int) ((k / 2 ^ n * 2 ^ n : Nat) : Int) = ((k / 2 ^ n * 2 ^ n : Nat) : Int) := by
    unfold Builtin.bitAnd
    have h1 : decide ((0 : Int) ≤ (k : Int)) = true := by simp
    have h2 : decide ((0 : Int) ≤ ((k / 2 ^ n * 2 ^ n : Nat) : Int)) = true := decide_eq_true (Int.natCast_nonneg _)
    rw [h1, h2]
    simp only [Int.toNat_natCast]
    rw [and_low]
  rw [e2]
  omega
theorem fdiv_low (x : Int) (n : Nat) (hx : 0 ≤ x) : 0 ≤ x.fdiv (2 ^ n) ∧ x.fdiv (2 ^ n) ≤ x ∧ 0 ≤ x - x.fdiv (2 ^ n) * 2 ^ n ∧ x - x.fdiv (2 ^ n) * 2 ^ n ≤ x := by
  rw [fdiv_pow]
  have h1 := Int.ediv_nonneg hx (Int.le_of_lt (pow2_pos n))
  have h2 := Int.ediv_le_self (b := 2 ^ n) (a := x) hx
  have h3 := Int.ediv_mul_le x (b := 2 ^ n) (Int.ne_of_gt (pow2_pos n))
  have h4 : 0 ≤ x / 2 ^ n * 2 ^ n := Int.mul_nonneg h1 (Int.le_of_lt (pow2_pos n))
  refine ⟨h1, h2, ?_, ?_⟩ <;> omega
theorem pow_shift (nb k : Int) (hnb : 0 ≤ nb) (hk : 0 ≤ k) : (2 : Int) ^ (k * nb).toNat = (2 ^ nb.toNat) ^ k.toNat := by
  rw [← Int.pow_mul]
  congr 1
  rw [Int.toNat_mul hk hnb, Nat.mul_comm]
end Pg
end
/-! PgIn1 -/
section
set_option maxRecDepth 100000
set_option maxHeartbeats 1000000
namespace Pg
theorem updF_mem {d : Addr} {o : Obj} {l : List (Addr × Obj)} {g : Obj → List (Addr × Obj)} (U : UpdF d o l g) : (d, o) ∈ l := by
  obtain ⟨pre, post, rfl, _, _, _⟩ := U.split
  exact List.mem_append_right _ (.head _)
theorem updF_new {d : Addr} {o : Obj} {l : List (Addr × Obj)} {g : Obj → List (Addr × Obj)} (U : UpdF d o l g) (o' : Obj) : UpdF d o' (g o') g := by
  induction U with
  | head h => exact .head h
  | tail h _ ih => exact .tail h ih
theorem updF_keep {d : Addr} {o : Obj} {l : List (Addr × Obj)} {g : Obj → List (Addr × Obj)} (U : UpdF d o l g) (o' : Obj) {q : Addr × Obj} (hq : q ∈ l) (hne : q.1 ≠ d) : q ∈ g o' := by
  obtain ⟨pre, post, rfl, hg, _, _⟩ := U.split
  rw [hg]
  rcases List.mem_append.mp hq with h | h
  · exact List.mem_append_left _ h
  · rcases List.mem_cons.mp h with rfl | h
    · exact absurd rfl hne
    · exact List.mem_append_right _ (.tail _ h)
theorem updF_upd {d : Addr} {o : Obj} {l : List (Addr × Obj)} {g : Obj → List (Addr × Obj)} (U : UpdF d o l g) (o' : Obj) : Upd d o o' l (g o') := by
  induction U with
  | head h => exact .head h
  | tail h _ ih => exact .tail h ih
theorem ne_of_news {h₀ h : Heap} {L a b : Addr} {o o' : Obj} {news : List (Addr × Obj)} (N : News h₀ L h news) (h1 : (a, o) ∈ news) (h2 : (b, o') ∈ news) (hne : o.data = o'.data → False) : a ≠ b := by
  intro e
  have e1 := (N _ h1).1
  have e2 := (N _ h2).1
  simp only at e1 e2
  rw [e, e2] at e1
  exact hne (by rw [Option.some.inj e1])
theorem take_set_drop {ns : List Int} {x : Int} {i : Nat} (h : i < ns.length) : ns.set i x = ns.take i ++ [x] ++ ns.drop (i + 1) := by
  rw [List.set_eq_take_append_cons_drop, if_pos h]
  simp
theorem two_parts {ns ds1 ds2 : List Int} {lo mid hi : Nat} (h1 : lo ≤ mid) (h2 : mid ≤ hi) (h3 : hi ≤ ns.length) (e1 : ds1.length = mid - lo) :
    (ns.take lo ++ ds1 ++ ns.drop mid).take mid ++ ds2 ++ (ns.take lo ++ ds1 ++ ns.drop mid).drop hi = ns.take lo ++ (ds1 ++ ds2) ++ ns.drop hi := by
  have hl : (ns.take lo ++ ds1).length = mid := by rw [List.length_append, List.length_take, e1]; omega
  rw [List.take_append_of_le_length (by omega), List.take_of_length_le (by omega), List.drop_append, List.drop_eq_nil_of_le (by omega), hl, List.drop_drop]
  rw [show mid + (hi - mid) = hi by omega]
  simp
local macro_rules | `(tactic| walk_at "call ref") => `(tactic| refine Hold.out ?_)
local macro_rules | `(tactic| walk_at "setItem ref int") => `(tactic| refine Hold.out ?_)
local macro_rules | `(tactic| walk_at "callWith ref") => `(tactic| (k_dflt (refine' callWith_F ?k1 ?_; (case k1 => exact FnAt.of (by k_asm) (by assumption)); k_whole)))
local macro_rules | `(tactic| walk_at "FnAt") => `(tactic| (k_dflt (exact FnAt.of (by k_asm) (by assumption))))
local macro_rules | `(tactic| walk_at "eval Name") => `(tactic| (k_dflt (refine' nameX_F ?N ?c ?m ?d ?_ ?a ?b; (case a => rfl); (case b => rfl); (case N => k_asm); (case c => rfl); (case m => assumption); (case d => assumption); k_whole)))
local macro_rules | `(tactic| walk_at "binaryOp RShift int int") => `(tactic| refine rshift_int (Hold.out ?_) ?_)
local macro_rules | `(tactic| walk_at "binaryOp LShift int int") => `(tactic| refine lshift_int_small (Hold.out ?_) (Hold.out ?_) (Hold.out ?_) ?_)
local macro_rules | `(tactic| walk_at "LeaveK") => `(tactic| refine Hold.out ?_)
local macro_rules | `(tactic| walk_at "go") => `(tactic| repeat' (first | (k_unfold; (try dsimp only)) | walk1 | (dsimp only; walk1)))
theorem inner1 {w : World} {p : Program} {loose : List Str} {mean : ExcName → Option Value} {mg mb : Str → Option Value} {f c' cA cI cN l : Addr} {oc oA oI oN : Obj} {vsC : Array Value} {qual : Str} {tq tn : Tok} {nb : Int} {doc pm ctv : Value} {ep : Nat}
  (hnb : 0 < nb) (hnb' : nb < 100)
  (hoc : oc.data = .fields vsC) (hq : vsC[1]? = some (.str qual tq)) (hA : oA.data = .cell (some (.ref l))) (hI : oI.data = .cell (some (.ref f))) (hN : oN.data = .cell (some (.int nb tn))) :
  ∀ (k : Nat) {dp un : Nat} {gd : Option (List Code)} {cn : Str} {cs : Scope} {a : Addr} {ccd : Value} {cl : List (Str × Addr)} {outer : List Env} {A₀ : Around} {base h₀ : Heap} {L : Addr} {m : Str → Option Value} {news : List (Addr × Obj)} {g : Obj → List (Addr × Obj)} {s : Shared} {vs : List Value} {ns : List Int} {x lo hi : Int} {tx tl th : Tok} {Q E : Value → Shared → Prop}
  (_hk : (hi - lo).toNat ≤ k)
  (_B : Below A₀ base outer h₀) (_F : Fr h₀ L s.heap m) (_X : (hd.heap_39 w.params).In h₀) (_N : News h₀ L s.heap news) (_T : Top p loose mean mg mb h₀) (_hcs : cs.kind = .function)
  (_m1 : (f, fnMade inner1P.1.name qual inner1P.1.args inner1P.1.body inner1P.1.scope [("n", cN), ("inner", cI), ("a_digits", cA)] doc pm c' ctv) ∈ news) (_m2 : (c', oc) ∈ news) (_m3 : (cA, oA) ∈ news) (_m4 : (cI, oI) ∈ news) (_m5 : (cN, oN) ∈ news)
  (_U : UpdF l (listOf vs.toArray ep) news g) (_I : IntsAre vs ns) (_h0 : 0 ≤ lo) (_h1 : lo < hi) (_h2 : hi ≤ ns.length) (_h3 : hi ≤ 60) (_hx : 0 ≤ x) (_hx' : x < 2 ^ 60)
  (_hd1 : dp + k < 900) (_hu : un + 8 * k < 9000)
  (_ret : ∀ vs' ds h' tk', ds.length = (hi - lo).toNat → (∀ d ∈ ds, 0 ≤ d ∧ d ≤ x) → undigs (2 ^ nb.toNat) ds = x → IntsAre vs' (ns.take lo.toNat ++ ds ++ ns.drop hi.toNat) → Fr h₀ L h' m → News h₀ L h' (g (listOf vs'.toArray ep)) → Q .none { s with heap := h', toks := tk' }),
  wpAny (model PySem.Challenge.rw_pg0118_01.row.prog w) (ktrTop dp un gd cn cs L a ccd cl outer) (call (.ref f) [.int x tx, .int lo tl, .int hi th]) Q E s := by
  intro k
  induction k with
  | zero => intro dp un gd cn cs a ccd cl outer A₀ base h₀ L m news g s vs ns x lo hi tx tl th Q E hk B F X N T hcs m1 m2 m3 m4 m5 U I h0 h1 h2 h3 hx hx' hd1 hu ret; omega
  | succ k ih =>
    intro dp un gd cn cs a ccd cl outer A₀ base h₀ L m news g s vs ns x lo hi tx tl th Q E hk B F X N T hcs m1 m2 m3 m4 m5 U I h0 h1 h2 h3 hx hx' hd1 hu ret
    revert X
    k_fill
    intro X
    w_on
    w_top on
    refine wpAny_call ?_
    refine' code_nest (body := inner1P.1.body) ?k1 ?k2 ?k3 ?k4 ?k5 ?kA ?kF ?kK ?k6 ?k7 ?k8 ?k9 ?kB ?_ ?c2 ?c3 ?c4 ?c5; (case kA => exact rfl); (case kF => exact rfl); (case kK => assumption); (case k1 => k_asm); (case k2 => k_asm); (case k3 => k_asm); (case k4 => k_asm); (case k5 => k_asm); (case k6 => assumption); (case k7 => exact codeRec_news N m2 hoc hq); (case k8 => show dp < 1000; omega); (case k9 => exact BindsTo.of_eq rfl); (case c5 => decide); (case kB => exact locs rfl); (case c2 => exact rfl); (case c3 => exact rfl); (case c4 => exact rfl); k_whole; intro g' L' h' FG' F' N' B' X' T'
    dsimp only [inner1P] at F' ⊢
    k_fold
    have hM : (lo + hi).fdiv (2 ^ Int.toNat 1) = (lo + hi) / 2 := Int.fdiv_eq_ediv_of_nonneg _ (by decide)
    have n1 := ne_of_news N m1 (updF_mem U) (by intro e; cases e)
    have n2 := ne_of_news N m2 (updF_mem U) (by rw [hoc]; intro e; cases e)
    have n3 := ne_of_news N m3 (updF_mem U) (by rw [hA]; intro e; cases e)
    have n4 := ne_of_news N m4 (updF_mem U) (by rw [hI]; intro e; cases e)
    have n5 := ne_of_news N m5 (updF_mem U) (by rw [hN]; intro e; cases e)
    have hlen := I.length
    walk_at "go"
    · refine ksa_set (by assumption) (by assumption) (updF_upd U _) I h0 (by omega) (by omega) ?_
      intro h2 F2 N2 I2 l2 _
      dsimp only
      walk_at "go"
      refine Hold.mk (leaveK_ F2 N2 (fun kF kN => ?_))
      refine ret _ [x] _ _ (by simp; omega) (by simp; omega) (by simp [undigs]) ?_ kF kN
      rw [take_set_drop (by omega)] at I2
      rw [show hi.toNat = lo.toNat + 1 by omega]
      exact I2
    · exact (by decide : (0 : Int) ≤ 1)
    · show (0 : Int) ≤ _
      rw [hM]; exact Int.mul_nonneg (by omega) (by omega)
    · show (0 : Int) ≤ _
      rw [hM]; exact Int.mul_nonneg (by omega) (by omega)
    · show _ ≤ (1000000 : Int)
      rw [hM]
      have := Int.mul_le_mul (a := (lo + hi) / 2 - lo) (b := nb) (c := 60) (d := 100) (by omega) (by omega) (by omega) (by omega)
      omega
    · show _ < _
      have := fdiv_low x (((lo + hi).fdiv (2 ^ Int.toNat 1) - lo) * nb).toNat hx
      omega
    · rename Fr _ _ _ _ => F2
      rename News _ _ _ _ => N2
      refine Hold.mk ?_
      generalize hmid : (lo + hi).fdiv (2 ^ Int.toNat 1) = mid at *
      have hx2 := fdiv_low x ((mid - lo) * nb).toNat hx
      rw [xor_low x ((mid - lo) * nb).toNat hx]
      rw [pow_shift nb (mid - lo) (by omega) (by omega)] at *
      refine ih (?_) B' F2 X' N2 T' rfl m1 m2 m3 m4 m5 U I h0 ?_ ?_ ?_ ?_ ?_ ?_ ?_ ?_
      · omega
      · omega
      · omega
      · omega
      · omega
      · omega
      · show dp + 1 + k < 900
        omega
      · show un + 3 + 8 * k < 9000
        omega
      clear N2 F2
      intro vs1 ds1 h1 tk1 e1 b1 u1 I1 F1 N1
      dsimp only
      have m1' := updF_keep U (listOf vs1.toArray ep) m1 n1
      have m2' := updF_keep U (listOf vs1.toArray ep) m2 n2
      have m3' := updF_keep U (listOf vs1.toArray ep) m3 n3
      have m4' := updF_keep U (listOf vs1.toArray ep) m4 n4
      have m5' := updF_keep U (listOf vs1.toArray ep) m5 n5
      have U' := updF_new U (listOf vs1.toArray ep)
      walk_at "go"
      refine Hold.mk ?_
      refine ih (?_) B' F1 X' N1 T' rfl m1' m2' m3' m4' m5' U' I1 ?_ ?_ ?_ ?_ ?_ ?_ ?_ ?_ ?_
      · omega
      · omega
      · omega
      · simp only [List.length_append, List.length_take, List.length_drop, e1]; omega
      · omega
      · omega
      · omega
      · show dp + 1 + k < 900
        omega
      · show un + 3 + 8 * k < 9000
        omega
      clear N1 F1
      intro vs2 ds2 h2 tk2 e2 b2 u2 I2 F2 N2
      dsimp only
      walk_at "go"
      trace_state
      refine Hold.mk (leaveK_ F2 N2 (fun kF kN => ?_))
      refine ret _ (ds1 ++ ds2) _ _ ?_ ?_ ?_ ?_ kF kN
      · rw [List.length_append]; omega
      · intro d hd
        rcases List.mem_append.mp hd with hd | hd
        · have := b1 d hd; omega
        · have := b2 d hd; omega
      · rw [undigs_append, u1, u2, e1, Int.mul_comm ((2 ^ nb.toNat) ^ (mid - lo).toNat)]; omega
      · rw [two_parts (by omega) (by omega) (by omega) (by omega)] at I2
        exact I2
end Pg
end
/-! PgIn2 -/
section
set_option maxRecDepth 100000
set_option maxHeartbeats 1000000
namespace Pg
theorem undigs_nonneg {b : Int} (hb : 0 ≤ b) : ∀ {A : List Int}, (∀ d ∈ A, 0 ≤ d) → 0 ≤ undigs b A
  | [], _ => Int.le_refl _
  | d :: A, h => by
    have h1 := h d (.head _)
    have h2 := undigs_nonneg hb (A := A) fun e he => h e (.tail _ he)
    have h3 := Int.mul_nonneg hb h2
    simp only [undigs]; omega
def segOf (ns : List Int) (lo hi : Int) : List Int := (ns.drop lo.toNat).take (hi - lo).toNat
theorem segOf_mem {ns : List Int} {lo hi d : Int} (h : d ∈ segOf ns lo hi) : d ∈ ns := List.mem_of_mem_drop (List.mem_of_mem_take h)
theorem segOf_one {ns : List Int} {lo hi : Int} (h0 : 0 ≤ lo) (h1 : lo + 1 = hi) (h2 : hi ≤ ns.length) : segOf ns lo hi = [ns.getD lo.toNat 0] := by
  unfold segOf
  rw [show (hi - lo).toNat = 1 by omega]
  have hl : lo.toNat < ns.length := by omega
  rw [List.drop_eq_getElem_cons hl, List.take_succ_cons, List.take_zero, List.getD_eq_getElem?_getD, List.getElem?_eq_getElem hl]
  rfl
theorem segOf_two {ns : List Int} {lo mid hi : Int} (h0 : 0 ≤ lo) (h1 : lo ≤ mid) (h2 : mid ≤ hi) : segOf ns lo hi = segOf ns lo mid ++ segOf ns mid hi := by
  unfold segOf
  rw [show (hi - lo).toNat = (mid - lo).toNat + (hi - mid).toNat by omega, List.take_add, List.drop_drop]
  rw [show lo.toNat + (mid - lo).toNat = mid.toNat by omega]
theorem segOf_length {ns : List Int} {lo hi : Int} (h0 : 0 ≤ lo) (h1 : lo ≤ hi) (h2 : hi ≤ ns.length) : (segOf ns lo hi).length = (hi - lo).toNat := by
  unfold segOf
  rw [List.length_take, List.length_drop]; omega
theorem segOf_all {ns : List Int} {hi : Int} (h : hi = ns.length) : segOf ns 0 hi = ns := by
  unfold segOf
  subst h
  simp
local macro_rules | `(tactic| walk_at "call ref") => `(tactic| refine Hold.out ?_)
local macro_rules | `(tactic| walk_at "subscriptTail") => `(tactic| refine Hold.out ?_)
local macro_rules | `(tactic| walk_at "callWith ref") => `(tactic| (k_dflt (refine' callWith_F ?k1 ?_; (case k1 => exact FnAt.of (by k_asm) (by assumption)); k_whole)))
local macro_rules | `(tactic| walk_at "FnAt") => `(tactic| (k_dflt (exact FnAt.of (by k_asm) (by assumption))))
local macro_rules | `(tactic| walk_at "eval Name") => `(tactic| (k_dflt (refine' nameX_F ?N ?c ?m ?d ?_ ?a ?b; (case a => rfl); (case b => rfl); (case N => k_asm); (case c => rfl); (case m => assumption); (case d => assumption); k_whole)))
local macro_rules | `(tactic| walk_at "binaryOp RShift int int") => `(tactic| refine rshift_int (Hold.out ?_) ?_)
local macro_rules | `(tactic| walk_at "binaryOp LShift int int") => `(tactic| refine lshift_int_small (Hold.out ?_) (Hold.out ?_) (Hold.out ?_) ?_)
local macro_rules | `(tactic| walk_at "LeaveK") => `(tactic| refine Hold.out ?_)
local macro_rules | `(tactic| walk_at "go") => `(tactic| repeat' (first | (k_unfold; (try dsimp only)) | walk1 | (dsimp only; walk1)))
theorem inner2 {w : World} {p : Program} {loose : List Str} {mean : ExcName → Option Value} {mg mb : Str → Option Value} {f c' cA cI cN l : Addr} {oc oA oI oN : Obj} {vsC : Array Value} {qual : Str} {tq tn : Tok} {nb : Int} {doc pm ctv : Value} {ep : Nat} {vs : List Value} {ns : List Int}
  (hnb : 0 < nb) (hnb' : nb < 100)
  (hoc : oc.data = .fields vsC) (hq : vsC[1]? = some (.str qual tq)) (hA : oA.data = .cell (some (.ref l))) (hI : oI.data = .cell (some (.ref f))) (hN : oN.data = .cell (some (.int nb tn)))
  (I : IntsAre vs ns) (hns : ∀ d ∈ ns, 0 ≤ d) :
  ∀ (k : Nat) {dp un : Nat} {gd : Option (List Code)} {cn : Str} {cs : Scope} {a : Addr} {ccd : Value} {cl : List (Str × Addr)} {outer : List Env} {A₀ : Around} {base h₀ : Heap} {L : Addr} {m : Str → Option Value} {news : List (Addr × Obj)} {s : Shared} {lo hi : Int} {tl th : Tok} {Q E : Value → Shared → Prop}
  (_hk : (hi - lo).toNat ≤ k)
  (_B : Below A₀ base outer h₀) (_F : Fr h₀ L s.heap m) (_X : (hd.heap_39 w.params).In h₀) (_N : News h₀ L s.heap news) (_T : Top p loose mean mg mb h₀) (_hcs : cs.kind = .function)
  (_m1 : (f, fnMade inner2P.1.name qual inner2P.1.args inner2P.1.body inner2P.1.scope [("n", cN), ("inner", cI), ("digits", cA)] doc pm c' ctv) ∈ news) (_m2 : (c', oc) ∈ news) (_m3 : (cA, oA) ∈ news) (_m4 : (cI, oI) ∈ news) (_m5 : (cN, oN) ∈ news)
  (_m6 : (l, listOf vs.toArray ep) ∈ news) (_h0 : 0 ≤ lo) (_h1 : lo < hi) (_h2 : hi ≤ ns.length) (_h3 : hi ≤ 60) (_hx' : undigs (2 ^ nb.toNat) (segOf ns lo hi) < 2 ^ 60)
  (_hd1 : dp + k < 900) (_hu : un + 8 * k < 9000)
  (_ret : ∀ t' h' tk', Fr h₀ L h' m → News h₀ L h' news → Q (.int (undigs (2 ^ nb.toNat) (segOf ns lo hi)) t') { s with heap := h', toks := tk' }),
  wpAny (model PySem.Challenge.rw_pg0118_01.row.prog w) (ktrTop dp un gd cn cs L a ccd cl outer) (call (.ref f) [.int lo tl, .int hi th]) Q E s := by
  intro k
  induction k with
  | zero => intro dp un gd cn cs a ccd cl outer A₀ base h₀ L m news s lo hi tl th Q E hk B F X N T hcs m1 m2 m3 m4 m5 m6 h0 h1 h2 h3 hx' hd1 hu ret; omega
  | succ k ih =>
    intro dp un gd cn cs a ccd cl outer A₀ base h₀ L m news s lo hi tl th Q E hk B F X N T hcs m1 m2 m3 m4 m5 m6 h0 h1 h2 h3 hx' hd1 hu ret
    revert X
    k_fill
    intro X
    w_on
    w_top on
    refine wpAny_call ?_
    refine' code_nest (body := inner2P.1.body) ?k1 ?k2 ?k3 ?k4 ?k5 ?kA ?kF ?kK ?k6 ?k7 ?k8 ?k9 ?kB ?_ ?c2 ?c3 ?c4 ?c5; (case kA => exact rfl); (case kF => exact rfl); (case kK => assumption); (case k1 => k_asm); (case k2 => k_asm); (case k3 => k_asm); (case k4 => k_asm); (case k5 => k_asm); (case k6 => assumption); (case k7 => exact codeRec_news N m2 hoc hq); (case k8 => show dp < 1000; omega); (case k9 => exact BindsTo.of_eq rfl); (case c5 => decide); (case kB => exact locs rfl); (case c2 => exact rfl); (case c3 => exact rfl); (case c4 => exact rfl); k_whole; intro g' L' h' FG' F' N' B' X' T'
    dsimp only [inner2P] at F' ⊢
    k_fold
    have hM : (lo + hi).fdiv (2 ^ Int.toNat 1) = (lo + hi) / 2 := Int.fdiv_eq_ediv_of_nonneg _ (by decide)
    have hlen := I.length
    walk_at "go"
    · refine Hold.mk (ksa_sub (by assumption) m6 I h0 (by omega) (by omega) ?_ (by with_unfolding_all rfl))
      intro t
      walk_at "go"
      rename Fr _ _ _ _ => F2
      rename News _ _ _ _ => N2
      refine Hold.mk (leaveK_ F2 N2 (fun kF kN => ?_))
      refine cb_retI ret ?_ kF kN
      rw [segOf_one h0 (by assumption) h2]
      simp [undigs]
    · exact (by decide : (0 : Int) ≤ 1)
    · rename Fr _ _ _ _ => F2
      rename News _ _ _ _ => N2
      refine Hold.mk ?_
      generalize hmid : (lo + hi).fdiv (2 ^ Int.toNat 1) = mid at *
      have e1 := segOf_two (ns := ns) (lo := lo) (mid := mid) (hi := hi) (by omega) (by omega) (by omega)
      have e2 := segOf_length (ns := ns) (lo := lo) (hi := mid) (by omega) (by omega) (by omega)
      have e3 := undigs_append (2 ^ nb.toNat) (segOf ns lo mid) (segOf ns mid hi)
      rw [← e1, e2] at e3
      have p1 := undigs_nonneg (Int.le_of_lt (pow2_pos nb.toNat)) (A := segOf ns lo mid) fun d hd => hns d (segOf_mem hd)
      have p2 := undigs_nonneg (Int.le_of_lt (pow2_pos nb.toNat)) (A := segOf ns mid hi) fun d hd => hns d (segOf_mem hd)
      have p3 : (1 : Int) ≤ (2 ^ nb.toNat) ^ (mid - lo).toNat := Int.pow_pos (pow2_pos _)
      have p4 : undigs (2 ^ nb.toNat) (segOf ns mid hi) ≤ (2 ^ nb.toNat) ^ (mid - lo).toNat * undigs (2 ^ nb.toNat) (segOf ns mid hi) := by
        have := Int.mul_le_mul_of_nonneg_right p3 p2
        omega
      refine ih (?_) B' F2 X' N2 T' rfl m1 m2 m3 m4 m5 m6 ?_ ?_ ?_ ?_ ?_ ?_ ?_ ?_
      · omega
      · omega
      · omega
      · omega
      · omega
      · omega
      · show dp + 1 + k < 900
        omega
      · show un + 3 + 8 * k < 9000
        omega
      clear N2 F2
      intro t1 h1 tk1 F1 N1
      dsimp only
      walk_at "go"
      · show (0 : Int) ≤ _
        exact Int.mul_nonneg (by omega) (by omega)
      · show _ ≤ (1000000 : Int)
        have := Int.mul_le_mul (a := mid - lo) (b := nb) (c := 60) (d := 100) (by omega) (by omega) (by omega) (by omega)
        omega
      · show _ < _
        omega
      refine Hold.mk ?_
      refine ih (?_) B' F1 X' N1 T' rfl m1 m2 m3 m4 m5 m6 ?_ ?_ ?_ ?_ ?_ ?_ ?_ ?_
      · omega
      · omega
      · omega
      · omega
      · omega
      · omega
      · show dp + 1 + k < 900
        omega
      · show un + 3 + 8 * k < 9000
        omega
      clear N1 F1
      intro t2 h2 tk2 F2 N2
      dsimp only
      walk_at "go"
      refine Hold.mk (leaveK_ F2 N2 (fun kF kN => ?_))
      refine cb_retI ret ?_ kF kN
      rw [pow_shift nb (mid - lo) (by omega) (by omega), e3, Int.mul_comm ((2 ^ nb.toNat) ^ (mid - lo).toNat)]
      omega
end Pg
end
/-! PgTab -/
section
namespace Pg
/-- a code table of a def that makes a def: still empty, or with the one code object -/
inductive TabOk (P : Addr) (pos : Pos) (qual : Str) : List (Addr × Obj) → Prop
  | empty : TabOk P pos qual [(P, tabObj #[])]
  | full {c : Addr} {oc : Obj} {vs : Array Value} {t : Tok} : @LT.lt Nat _ 82 c → oc.data = .fields vs → vs[1]? = some (.str qual t) → TabOk P pos qual [(P, tabObj #[rawInt pos.line, rawInt pos.col, .ref c]), (c, oc)]
theorem TabOk.apart {P P' : Addr} {pos : Pos} {qual : Str} {tab : List (Addr × Obj)} (h : TabOk P pos qual tab) (hP : P' ≠ P) (h2 : P' ≤ 82) : ∀ q ∈ tab, q.1 ≠ P' := by
  cases h with
  | empty => intro q hq; cases hq with
    | head => exact Ne.symm hP
    | tail _ h => cases h
  | full hc _ _ => intro q hq; cases hq with
    | head => exact Ne.symm hP
    | tail _ h => cases h with
      | head => exact Nat.ne_of_gt (Nat.lt_of_le_of_lt h2 hc)
      | tail _ h => cases h
theorem all_ne_lt {d c : Nat} : ∀ {r : List (Addr × Obj)}, AllLt d r → d ≤ c → ∀ p ∈ r, p.1 ≠ c
  | [], _, _, _, h => nomatch h
  | q :: r, h, hd, p, hp => by
    rcases List.mem_cons.mp hp with rfl | hp
    · exact Nat.ne_of_lt (Nat.lt_of_lt_of_le h.1 hd)
    · exact all_ne_lt h.2 hd p hp
theorem big_frame {w : World} {g h : Heap} {L : Addr} {m : Str → Option Value} (X : (hd.heap_39 w.params).In g) (F : Fr g L h m) : @LT.lt Nat _ 82 L := by
  have : ∃ o, (hd.heap_39 w.params).lookup 82 = some o := ⟨_, rfl⟩
  obtain ⟨o, ho⟩ := this
  exact Nat.lt_of_lt_of_le (Heap.lt_size (X _ _ ho)) F.above
theorem sub_refl {l : List (Addr × Obj)} : ∀ q ∈ l, q ∈ l := fun _ h => h
theorem sub_cons {p : Addr × Obj} {r l : List (Addr × Obj)} (h : p ∈ l) (hr : ∀ q ∈ r, q ∈ l) : ∀ q ∈ p :: r, q ∈ l := List.forall_mem_cons.mpr ⟨h, hr⟩
theorem sub_tail {p : Addr × Obj} {r l : List (Addr × Obj)} (h : ∀ q ∈ r, q ∈ l) : ∀ q ∈ r, q ∈ p :: l := fun q hq => .tail _ (h q hq)
theorem sub_nil {l : List (Addr × Obj)} : ∀ q ∈ ([] : List (Addr × Obj)), q ∈ l := fun _ h => nomatch h
abbrev q37 : Str := "_int2digits.<locals>.inner"
abbrev q44 : Str := "_digits2int.<locals>.inner"
abbrev Tab37 : List (Addr × Obj) → Prop := TabOk 37 inner1P.1.pos q37
abbrev Tab44 : List (Addr × Obj) → Prop := TabOk 44 inner2P.1.pos q44
theorem cnt_facts {x n : Int} (hx : 0 ≤ x) (hx' : x < 2 ^ 60) (hn : 0 < n) : 0 ≤ ((Builtin.Int.intBits x : Int) + n - 1).fdiv n ∧ ((Builtin.Int.intBits x : Int) + n - 1).fdiv n ≤ 60 ∧ (0 < x → 1 ≤ ((Builtin.Int.intBits x : Int) + n - 1).fdiv n) := by
  have hb : Builtin.Int.intBits x ≤ 60 := intBits_le_iff.mpr (by omega)
  rw [Int.fdiv_eq_ediv_of_nonneg _ (by omega)]
  refine ⟨Int.ediv_nonneg (by omega) (by omega), ?_, fun h => ?_⟩
  · refine Int.ediv_le_of_le_mul hn ?_
    have : (60 : Int) * 1 ≤ 60 * n := Int.mul_le_mul_of_nonneg_left (by omega) (by decide)
    have h2 : 60 * n - 60 - n + 1 = 59 * (n - 1) := by omega
    have h3 : 0 ≤ 59 * (n - 1) := by omega
    omega
  · have : 1 ≤ Builtin.Int.intBits x := by
      unfold Builtin.Int.intBits
      split
      · rename_i h0; simp at h0; omega
      · omega
    refine (Int.le_ediv_iff_mul_le hn).mpr (by omega)
end Pg
end
/-! PgI2d -/
section
set_option maxRecDepth 100000
set_option maxHeartbeats 1000000
namespace Pg
local macro_rules | `(tactic| k_all) => `(tactic| first | assumption | exact all_ne_lt (by assumption) (by omega))
local macro_rules | `(tactic| walk_at "call ref") => `(tactic| refine Hold.out ?_)
local macro_rules | `(tactic| walk_at "binaryOp Mult ref int") => `(tactic| refine Hold.out ?_)
local macro_rules | `(tactic| walk_at "LeaveK") => `(tactic| refine Hold.out ?_)
local macro_rules | `(tactic| walk_at "sub") => `(tactic| (repeat (first | exact sub_refl | exact sub_nil | refine sub_cons (by k_mem) ?_ | refine sub_tail ?_)))
local macro_rules | `(tactic| walk_at "go") => `(tactic| repeat' (first | (k_unfold; (try dsimp only)) | walk1 | (dsimp only; walk1)))
theorem int2digits {w : World} {p : Program} {loose : List Str} {mean : ExcName → Option Value} {mg mb : Str → Option Value} {dp un : Nat} {gd : Option (List Code)} {cn : Str} {cs : Scope} {a : Addr} {ccd : Value} {cl : List (Str × Addr)} {outer : List Env} {A₀ : Around} {base h₀ : Heap} {L : Addr} {m : Str → Option Value} {s : Shared} {Q E : Value → Shared → Prop} {x n : Int} {tx tn : Tok} {tab rest : List (Addr × Obj)}
  (B : Below A₀ base outer h₀) (F : Fr h₀ L s.heap m) (X : (hd.heap_39 w.params).In h₀) (N : News h₀ L s.heap (tab ++ rest)) (C : CodeHd h₀ 41 37) (T : Top p loose mean mg mb h₀) (hk : cs.kind = .function) (hT : Tab37 tab) (hr : ∀ q ∈ rest, q.1 ≠ 37)
  (hx : 0 ≤ x) (hx' : x < 2 ^ 60) (hn : 0 < n) (hn' : n < 100) (hd1 : dp + 70 < 900) (hu : un + 600 < 9000)
  (ret : ∀ l vs' ds ep h' tk' tab', Tab37 tab' → IntsAre vs' ds → ds.length ≤ 60 → (∀ d ∈ ds, 0 ≤ d ∧ d ≤ x) → undigs (2 ^ n.toNat) ds = x → Fr h₀ L h' m → News h₀ L h' ((l, listOf vs'.toArray ep) :: (tab' ++ rest)) → Q (.ref l) { s with heap := h', toks := tk' }) :
  wpAny (model PySem.Challenge.rw_pg0118_01.row.prog w) (ktrTop dp un gd cn cs L a ccd cl outer) (call (.ref 42) [.int x tx, .int n tn]) Q E s := by
  revert X
  k_fill
  intro X
  w_on
  w_top on
  cases hT with
  | empty =>
    simp only [List.cons_append, List.nil_append] at N
    refine wpAny_call ?_
    refine' code_defC ?k1 ?k2 ?k3 ?k4 ?k5 ?kA ?kF ?kK ?k6 ?k7 ?k8 ?k9 ?kB ?kD ?_ ?c2 ?c3 ?c4; (case kA => exact rfl); (case kF => exact rfl); (case kK => assumption); (case k1 => k_asm); (case k2 => k_asm); (case k3 => k_asm); (case k4 => k_asm); (case k5 => k_asm); (case k6 => k_is); (case k7 => k_is); (case k8 => show dp < 1000; omega); (case k9 => exact BindsTo.of_eq rfl); (case kB => exact rfl); (case kD => decide +kernel); (case c2 => exact rfl); (case c3 => exact rfl); (case c4 => exact rfl); k_whole; intro g' L' h' tk' cells' FG' F' N' Y' B' X' T' l1
    k_lt l1
    k_cells Y'
    simp only [List.cons_append, List.nil_append] at N'
    obtain ⟨l1a, l1b⟩ := l1
    rename_i o1 o2 o3 d1 d2 d3
    have d1 : o1.data = .cell none := d1
    have d2 : o2.data = .cell none := d2
    have d3 : o3.data = .cell (some (.int n tn)) := d3
    have F' : Fr g' L' h' (fun y => if y = "a" then some (.int x tx) else none) := F'
    (with_reducible show wpAny _ _ _ _ _ _)
    k_fold
    have C' := CodeHd.keeps C FG'.keep
    have hbig := big_frame X' F'
    obtain ⟨hc0, hc1, hc2⟩ := cnt_facts hx hx' hn
    walk_at "go"
    rename Fr _ _ _ _ => F2
    rename News _ _ _ _ => N2
    refine Hold.mk (KM.mul (ns := [0]) F2 N2 (News.isList N2 (by k_mem)) (.cons _ _ .nil) (by omega) (by omega) ?_ ?_)
    · simp; omega
    clear F2 N2
    intro l h2 F2 N2 l2 I2 N9 e2 e3 e4 e5
    dsimp only at *
    k_lt l2
    have er : (List.replicate (((Builtin.Int.intBits x : Int) + n - 1).fdiv n).toNat ([0] : List Int)).flatten = List.replicate (((Builtin.Int.intBits x : Int) + n - 1).fdiv n).toNat 0 := lm_rep_flat_one _ _
    rw [er] at I2 e3
    rw [List.length_replicate] at e3
    generalize (List.replicate (((Builtin.Int.intBits x : Int) + n - 1).fdiv n).toNat _).flatten = vs2 at *
    walk_at "go"
    · rename Fr _ _ _ _ => F3
      rename News _ _ _ _ => N3
      refine Hold.mk (inner1 (nb := n) (l := l) hn hn' (by assumption) (by assumption) (by assumption) (by assumption) d3 60 ?_ B' F3 X' N3 T' rfl (by k_mem) (by k_mem) (by k_mem) (by k_mem) (by k_mem) (by k_updF) I2 ?_ ?_ ?_ ?_ hx hx' ?_ ?_ ?_)
      · omega
      · omega
      · omega
      · rw [List.length_replicate]; omega
      · omega
      · show dp + 1 + 60 < 900
        omega
      · show un + 3 + 8 * 60 < 9000
        omega
      clear F3 N3
      intro vs3 ds3 h3 tk3 f1 f2 f3 I3 F3 N3
      dsimp only
      walk_at "go"
      refine Hold.mk (leaveK_ F3 N3 (fun kF kN => ?_))
      rw [List.drop_eq_nil_of_le (by rw [List.length_replicate]; omega)] at I3
      simp only [Int.toNat_zero, List.take_zero, List.nil_append, List.append_nil] at I3
      refine' ret l vs3 ds3 0 h3 tk3 _ (TabOk.full (c := ?zc) ?z1 (by assumption) (by assumption)) I3 (by omega) f2 f3 kF (cb_drop kN ?z2)
      case z2 => walk_at "sub"
      case z1 => omega
    · rename Fr _ _ _ _ => F3
      rename News _ _ _ _ => N3
      refine Hold.mk (leaveK_ F3 N3 (fun kF kN => ?_))
      have hx0 : x = 0 := by omega
      have h00 : N9 = 0 := by
        rw [← e3, hx0, Int.fdiv_eq_ediv_of_nonneg _ (by omega), Int.ediv_eq_zero_of_lt] <;> simp [Builtin.Int.intBits] <;> omega
      rw [e3, h00, List.replicate_zero] at I2
      refine' ret l vs2 [] 0 _ _ _ (TabOk.full (c := ?yc) ?y1 (by assumption) (by assumption)) I2 (by simp) (by simp) hx0.symm kF (cb_drop kN ?y2)
      case y2 => walk_at "sub"
      case y1 => omega
  | full hc hoc hq =>
    simp only [List.cons_append, List.nil_append] at N
    refine wpAny_call ?_
    refine' code_defC ?k1 ?k2 ?k3 ?k4 ?k5 ?kA ?kF ?kK ?k6 ?k7 ?k8 ?k9 ?kB ?kD ?_ ?c2 ?c3 ?c4; (case kA => exact rfl); (case kF => exact rfl); (case kK => assumption); (case k1 => k_asm); (case k2 => k_asm); (case k3 => k_asm); (case k4 => k_asm); (case k5 => k_asm); (case k6 => k_is); (case k7 => k_is); (case k8 => show dp < 1000; omega); (case k9 => exact BindsTo.of_eq rfl); (case kB => exact rfl); (case kD => decide +kernel); (case c2 => exact rfl); (case c3 => exact rfl); (case c4 => exact rfl); k_whole; intro g' L' h' tk' cells' FG' F' N' Y' B' X' T' l1
    k_lt l1
    k_cells Y'
    simp only [List.cons_append, List.nil_append] at N'
    obtain ⟨l1a, l1c, l1b⟩ := l1
    rename_i o1 o2 o3 d1 d2 d3
    have d1 : o1.data = .cell none := d1
    have d2 : o2.data = .cell none := d2
    have d3 : o3.data = .cell (some (.int n tn)) := d3
    have F' : Fr g' L' h' (fun y => if y = "a" then some (.int x tx) else none) := F'
    (with_reducible show wpAny _ _ _ _ _ _)
    k_fold
    have C' := CodeHd.keeps C FG'.keep
    have hbig := big_frame X' F'
    obtain ⟨hc0, hc1, hc2⟩ := cnt_facts hx hx' hn
    walk_at "go"
    rename Fr _ _ _ _ => F2
    rename News _ _ _ _ => N2
    refine Hold.mk (KM.mul (ns := [0]) F2 N2 (News.isList N2 (by k_mem)) (.cons _ _ .nil) (by omega) (by omega) ?_ ?_)
    · simp; omega
    clear F2 N2
    intro l h2 F2 N2 l2 I2 N9 e2 e3 e4 e5
    dsimp only at *
    k_lt l2
    have er : (List.replicate (((Builtin.Int.intBits x : Int) + n - 1).fdiv n).toNat ([0] : List Int)).flatten = List.replicate (((Builtin.Int.intBits x : Int) + n - 1).fdiv n).toNat 0 := lm_rep_flat_one _ _
    rw [er] at I2 e3
    rw [List.length_replicate] at e3
    generalize (List.replicate (((Builtin.Int.intBits x : Int) + n - 1).fdiv n).toNat _).flatten = vs2 at *
    walk_at "go"
    · rename Fr _ _ _ _ => F3
      rename News _ _ _ _ => N3
      refine Hold.mk (inner1 (nb := n) (l := l) hn hn' (by assumption) (by assumption) (by assumption) (by assumption) d3 60 ?_ B' F3 X' N3 T' rfl (by k_mem) (by k_mem) (by k_mem) (by k_mem) (by k_mem) (by k_updF) I2 ?_ ?_ ?_ ?_ hx hx' ?_ ?_ ?_)
      · omega
      · omega
      · omega
      · rw [List.length_replicate]; omega
      · omega
      · show dp + 1 + 60 < 900
        omega
      · show un + 3 + 8 * 60 < 9000
        omega
      clear F3 N3
      intro vs3 ds3 h3 tk3 f1 f2 f3 I3 F3 N3
      dsimp only
      walk_at "go"
      refine Hold.mk (leaveK_ F3 N3 (fun kF kN => ?_))
      rw [List.drop_eq_nil_of_le (by rw [List.length_replicate]; omega)] at I3
      simp only [Int.toNat_zero, List.take_zero, List.nil_append, List.append_nil] at I3
      refine' ret l vs3 ds3 0 h3 tk3 _ (TabOk.full (c := ?uc) ?u1 (by assumption) (by assumption)) I3 (by omega) f2 f3 kF (cb_drop kN ?u2)
      case u2 => walk_at "sub"
      case u1 => omega
    · rename Fr _ _ _ _ => F3
      rename News _ _ _ _ => N3
      refine Hold.mk (leaveK_ F3 N3 (fun kF kN => ?_))
      have hx0 : x = 0 := by omega
      have h00 : N9 = 0 := by
        rw [← e3, hx0, Int.fdiv_eq_ediv_of_nonneg _ (by omega), Int.ediv_eq_zero_of_lt] <;> simp [Builtin.Int.intBits] <;> omega
      rw [e3, h00, List.replicate_zero] at I2
      refine' ret l vs2 [] 0 _ _ _ (TabOk.full (c := ?vc) ?v1 (by assumption) (by assumption)) I2 (by simp) (by simp) hx0.symm kF (cb_drop kN ?v2)
      case v2 => walk_at "sub"
      case v1 => omega
end Pg
end
/-! PgD2i -/
section
set_option maxRecDepth 100000
set_option maxHeartbeats 1000000
namespace Pg
local macro_rules | `(tactic| k_all) => `(tactic| first | assumption | exact all_ne_lt (by assumption) (by omega))
local macro_rules | `(tactic| walk_at "call ref") => `(tactic| refine Hold.out ?_)
local macro_rules | `(tactic| walk_at "LeaveK") => `(tactic| refine Hold.out ?_)
local macro_rules | `(tactic| walk_at "sub") => `(tactic| (repeat (first | exact sub_refl | exact sub_nil | refine sub_cons (by k_mem) ?_ | refine sub_tail ?_)))
local macro_rules | `(tactic| walk_at "go") => `(tactic| repeat' (first | (k_unfold; (try dsimp only)) | walk1 | (dsimp only; walk1)))
theorem digits2int {w : World} {p : Program} {loose : List Str} {mean : ExcName → Option Value} {mg mb : Str → Option Value} {dp un : Nat} {gd : Option (List Code)} {cn : Str} {cs : Scope} {a : Addr} {ccd : Value} {cl : List (Str × Addr)} {outer : List Env} {A₀ : Around} {base h₀ : Heap} {L : Addr} {m : Str → Option Value} {s : Shared} {Q E : Value → Shared → Prop} {n : Int} {tn : Tok} {tab rest : List (Addr × Obj)} {l : Addr} {vs : List Value} {ns : List Int} {ep : Nat}
  (B : Below A₀ base outer h₀) (F : Fr h₀ L s.heap m) (X : (hd.heap_39 w.params).In h₀) (N : News h₀ L s.heap (tab ++ (l, listOf vs.toArray ep) :: rest)) (C : CodeHd h₀ 48 44) (T : Top p loose mean mg mb h₀) (hk : cs.kind = .function) (hT : Tab44 tab) (hr : ∀ q ∈ rest, q.1 ≠ 44) (hl : @Ne Nat l 44)
  (I : IntsAre vs ns) (hns : ∀ d ∈ ns, 0 ≤ d) (hlen : ns.length ≤ 60) (hx' : undigs (2 ^ n.toNat) ns < 2 ^ 60) (hn : 0 < n) (hn' : n < 100) (hd1 : dp + 70 < 900) (hu : un + 600 < 9000)
  (ret : ∀ t h' tk' tab', Tab44 tab' → Fr h₀ L h' m → News h₀ L h' (tab' ++ (l, listOf vs.toArray ep) :: rest) → Q (.int (undigs (2 ^ n.toNat) ns) t) { s with heap := h', toks := tk' }) :
  wpAny (model PySem.Challenge.rw_pg0118_01.row.prog w) (ktrTop dp un gd cn cs L a ccd cl outer) (call (.ref 49) [.ref l, .int n tn]) Q E s := by
  revert X
  k_fill
  intro X
  w_on
  w_top on
  cases hT with
  | empty =>
    simp only [List.cons_append, List.nil_append] at N
    refine wpAny_call ?_
    refine' code_defC ?k1 ?k2 ?k3 ?k4 ?k5 ?kA ?kF ?kK ?k6 ?k7 ?k8 ?k9 ?kB ?kD ?_ ?c2 ?c3 ?c4; (case kA => exact rfl); (case kF => exact rfl); (case kK => assumption); (case k1 => k_asm); (case k2 => k_asm); (case k3 => k_asm); (case k4 => k_asm); (case k5 => k_asm); (case k6 => k_is); (case k7 => k_is); (case k8 => show dp < 1000; omega); (case k9 => exact BindsTo.of_eq rfl); (case kB => exact rfl); (case kD => decide +kernel); (case c2 => exact rfl); (case c3 => exact rfl); (case c4 => exact rfl); k_whole; intro g' L' h' tk' cells' FG' F' N' Y' B' X' T' l1
    k_lt l1
    k_cells Y'
    simp only [List.cons_append, List.nil_append] at N'
    obtain ⟨l1a, l1c, l1b⟩ := l1
    rename_i o1 o2 o3 d1 d2 d3
    have d1 : o1.data = .cell none := d1
    have d2 : o2.data = .cell (some (.int n tn)) := d2
    have d3 : o3.data = .cell (some (.ref l)) := d3
    have F' : Fr g' L' h' (fun y => none) := F'
    (with_reducible show wpAny _ _ _ _ _ _)
    k_fold
    have C' := CodeHd.keeps C FG'.keep
    have hbig := big_frame X' F'
    have hsz : vs.toArray.size = ns.length := by rw [List.size_toArray]; exact I.length
    walk_at "go"
    · rename Fr _ _ _ _ => F3
      rename News _ _ _ _ => N3
      refine Hold.mk (inner2 (nb := n) (l := l) (vs := vs) (ns := ns) hn hn' (by assumption) (by assumption) d3 (by assumption) d2 I hns 60 ?_ B' F3 X' N3 T' rfl (by k_mem) (by k_mem) (by k_mem) (by k_mem) (by k_mem) (by k_mem) ?_ ?_ ?_ ?_ ?_ ?_ ?_ ?_)
      · omega
      · omega
      · omega
      · omega
      · omega
      · rw [segOf_all rfl]; exact hx'
      · show dp + 1 + 60 < 900
        omega
      · show un + 3 + 8 * 60 < 9000
        omega
      clear F3 N3
      intro t3 h3 tk3 F3 N3
      dsimp only
      walk_at "go"
      refine Hold.mk (leaveK_ F3 N3 (fun kF kN => ?_))
      have hs := segOf_all (ns := ns) rfl
      rw [hs]
      refine' ret t3 h3 tk3 _ (TabOk.full (c := ?zce) ?z1e (by assumption) (by assumption)) kF (cb_drop kN ?z2e)
      case z2e => walk_at "sub"
      case z1e => omega
    · rename Fr _ _ _ _ => F3
      rename News _ _ _ _ => N3
      refine Hold.mk (leaveK_ F3 N3 (fun kF kN => ?_))
      have h00 : ns = [] := by
        have : ns.length = 0 := by omega
        exact List.length_eq_zero_iff.mp this
      have hu0 : undigs (2 ^ n.toNat) ns = 0 := by rw [h00]; rfl
      rw [hu0] at ret
      refine' ret _ _ _ _ (TabOk.full (c := ?yce) ?y1e (by assumption) (by assumption)) kF (cb_drop kN ?y2e)
      case y2e => walk_at "sub"
      case y1e => omega
  | full hc hoc hq =>
    simp only [List.cons_append, List.nil_append] at N
    refine wpAny_call ?_
    refine' code_defC ?k1 ?k2 ?k3 ?k4 ?k5 ?kA ?kF ?kK ?k6 ?k7 ?k8 ?k9 ?kB ?kD ?_ ?c2 ?c3 ?c4; (case kA => exact rfl); (case kF => exact rfl); (case kK => assumption); (case k1 => k_asm); (case k2 => k_asm); (case k3 => k_asm); (case k4 => k_asm); (case k5 => k_asm); (case k6 => k_is); (case k7 => k_is); (case k8 => show dp < 1000; omega); (case k9 => exact BindsTo.of_eq rfl); (case kB => exact rfl); (case kD => decide +kernel); (case c2 => exact rfl); (case c3 => exact rfl); (case c4 => exact rfl); k_whole; intro g' L' h' tk' cells' FG' F' N' Y' B' X' T' l1
    k_lt l1
    k_cells Y'
    simp only [List.cons_append, List.nil_append] at N'
    obtain ⟨l1a, l1d, l1c, l1b⟩ := l1
    rename_i o1 o2 o3 d1 d2 d3
    have d1 : o1.data = .cell none := d1
    have d2 : o2.data = .cell (some (.int n tn)) := d2
    have d3 : o3.data = .cell (some (.ref l)) := d3
    have F' : Fr g' L' h' (fun y => none) := F'
    (with_reducible show wpAny _ _ _ _ _ _)
    k_fold
    have C' := CodeHd.keeps C FG'.keep
    have hbig := big_frame X' F'
    have hsz : vs.toArray.size = ns.length := by rw [List.size_toArray]; exact I.length
    walk_at "go"
    · rename Fr _ _ _ _ => F3
      rename News _ _ _ _ => N3
      refine Hold.mk (inner2 (nb := n) (l := l) (vs := vs) (ns := ns) hn hn' (by assumption) (by assumption) d3 (by assumption) d2 I hns 60 ?_ B' F3 X' N3 T' rfl (by k_mem) (by k_mem) (by k_mem) (by k_mem) (by k_mem) (by k_mem) ?_ ?_ ?_ ?_ ?_ ?_ ?_ ?_)
      · omega
      · omega
      · omega
      · omega
      · omega
      · rw [segOf_all rfl]; exact hx'
      · show dp + 1 + 60 < 900
        omega
      · show un + 3 + 8 * 60 < 9000
        omega
      clear F3 N3
      intro t3 h3 tk3 F3 N3
      dsimp only
      walk_at "go"
      refine Hold.mk (leaveK_ F3 N3 (fun kF kN => ?_))
      have hs := segOf_all (ns := ns) rfl
      rw [hs]
      refine' ret t3 h3 tk3 _ (TabOk.full (c := ?zcf) ?z1f (by assumption) (by assumption)) kF (cb_drop kN ?z2f)
      case z2f => walk_at "sub"
      case z1f => omega
    · rename Fr _ _ _ _ => F3
      rename News _ _ _ _ => N3
      refine Hold.mk (leaveK_ F3 N3 (fun kF kN => ?_))
      have h00 : ns = [] := by
        have : ns.length = 0 := by omega
        exact List.length_eq_zero_iff.mp this
      have hu0 : undigs (2 ^ n.toNat) ns = 0 := by rw [h00]; rfl
      rw [hu0] at ret
      refine' ret _ _ _ _ (TabOk.full (c := ?ycf) ?y1f (by assumption) (by assumption)) kF (cb_drop kN ?y2f)
      case y2f => walk_at "sub"
      case y1f => omega
end Pg
end
/-! PgDiv -/
section
set_option maxRecDepth 100000
set_option maxHeartbeats 1000000
namespace Pg
abbrev tup2 (v1 v2 : Value) : Obj := { cls := .type "tuple", data := .seq #[v1, v2] }
local macro_rules | `(tactic| walk_at "call ref") => `(tactic| refine Hold.out ?_)
local macro_rules | `(tactic| walk_at "call builtin:divmod") => `(tactic| refine Hold.out ?_)
local macro_rules | `(tactic| walk_at "LeaveK") => `(tactic| refine Hold.out ?_)
local macro_rules | `(tactic| walk_at "go") => `(tactic| repeat' (first | (k_unfold; (try dsimp only)) | walk1 | (dsimp only; walk1)))
theorem div2n1n {w : World} {p : Program} {loose : List Str} {mean : ExcName → Option Value} {mg mb : Str → Option Value} {dp un : Nat} {gd : Option (List Code)} {cn : Str} {cs : Scope} {a : Addr} {ccd : Value} {cl : List (Str × Addr)} {outer : List Env} {A₀ : Around} {base h₀ : Heap} {L : Addr} {m : Str → Option Value} {news : List (Addr × Obj)} {s : Shared} {Q E : Value → Shared → Prop} {x y n : Int} {tx ty tn : Tok}
  (B : Below A₀ base outer h₀) (F : Fr h₀ L s.heap m) (X : (hd.heap_39 w.params).In h₀) (N : News h₀ L s.heap news) (T : Top p loose mean mg mb h₀) (hk : cs.kind = .function) (hd1 : dp + 5 < 900) (hu : un + 50 < 9000)
  (hx : 0 ≤ x) (hx' : x < 2 ^ 60) (hy : 0 < y) (hy' : y < 2 ^ 20) (hn : 0 ≤ n) (hn' : n < 100)
  (ret : ∀ D t1 t2 h' tk', Fr h₀ L h' m → News h₀ L h' ((D, tup2 (.int (x.fdiv y) t1) (.int (x.fmod y) t2)) :: news) → (∀ q ∈ news, q.1 < D) → Q (.ref D) { s with heap := h', toks := tk' }) :
  wpAny (model PySem.Challenge.rw_pg0118_01.row.prog w) (ktrTop dp un gd cn cs L a ccd cl outer) (call (.ref 28) [.int x tx, .int y ty, .int n tn]) Q E s := by
  revert X
  k_fill
  intro X
  w_on
  w_top on
  have hb : Builtin.Int.intBits x ≤ 60 := intBits_le_iff.mpr (by omega)
  refine wpAny_call ?_
  k_dflt (refine' code_def ?k1 ?k2 ?k3 ?k4 ?k5 ?kA ?kF ?kK ?k6 ?k7 ?k8 ?k9 ?kB ?_ ?c2 ?c3 ?c4 ?c5; (case kA => exact rfl); (case kF => exact rfl); (case kK => assumption); (case k1 => k_asm); (case k2 => k_asm); (case k3 => k_asm); (case k4 => k_asm); (case k5 => k_asm); (case k6 => k_is); (case k7 => k_is); (case k8 => show dp < 1000; omega); (case k9 => exact BindsTo.of_eq rfl); (case c5 => decide); (case kB => exact locs rfl); (case c2 => exact rfl); (case c3 => exact rfl); (case c4 => exact rfl); k_whole; intro g' L' h' FG' F' N' B' X' T')
  have F' : Fr g' L' h' (fun z => List.lookup z [("n", .int n tn), ("b", .int y ty), ("a", .int x tx)]) := F'
  (with_reducible show wpAny _ _ _ _ _ _)
  k_fold
  walk_at "go"
  rename Fr _ _ _ _ => F2
  rename News _ _ _ _ => N2
  refine Hold.mk (divmod_N F2 N2 (by omega) ?_ (Or.inl (PyProof.noPylong_small (by omega))))
  intro h3 F3 N3
  walk_at "go"
  refine Hold.mk (leaveK_ F3 N3 (fun kF kN => ?_))
  exact ret _ _ _ _ _ kF kN (fun q hq => Heap.lt_size (N2 q hq).1)
end Pg
end
/-! PgDmpL -/
section
set_option maxRecDepth 100000
set_option maxHeartbeats 1000000
namespace Pg
def forBody : Stmt → Option (List Stmt)
  | .For _ _ body _ _ => some body
  | _ => none
def dmpP : { d : Parts // topAt 8 = some d } := ⟨_, rfl⟩
def dmpF : { b : List Stmt // (topAt 8).bind (fun d => d.body[4]?.bind forBody) = some b } := ⟨_, rfl⟩
theorem step_eq (U P b d Qv y rr qd rm : Int) (h : y * qd + rm = rr * b + d) : U + P * d + P * b * (Qv * y + rr) = U + P * ((qd + b * Qv) * y + rm) := by grind
local macro_rules | `(tactic| k_all) => `(tactic| first | assumption | exact all_ne_lt (by assumption) (by omega))
local macro_rules | `(tactic| walk_at "call ref") => `(tactic| refine Hold.out ?_)
local macro_rules | `(tactic| walk_at "call builtin:list.append") => `(tactic| refine Hold.out ?_)
local macro_rules | `(tactic| walk_at "UnrEnd") => `(tactic| refine Hold.out ?_)
local macro_rules | `(tactic| walk_at "UnrPost") => `(tactic| refine Hold.out ?_)
local macro_rules | `(tactic| walk_at "binaryOp LShift int int") => `(tactic| refine lshift_int_small (Hold.out ?_) (Hold.out ?_) (Hold.out ?_) ?_)
local macro_rules | `(tactic| walk_at "eval Name") => `(tactic| (k_dflt (refine' ld ?k1 ?k2 ?_; (case k1 => k_asm); (case k2 => assumption); k_whole)))
local macro_rules | `(tactic| walk_at "sub") => `(tactic| (repeat (first | exact sub_refl | exact sub_nil | refine sub_cons (by k_mem) ?_ | refine sub_tail ?_)))
local macro_rules | `(tactic| walk_at "go") => `(tactic| repeat' (first | (k_unfold; (try dsimp only)) | walk1 | (dsimp only; walk1)))
theorem dmpLoop {w : World} {p : Program} {loose : List Str} {mean : ExcName → Option Value} {mg mb : Str → Option Value} {dp un : Nat} {gd : Option (List Code)} {outer : List Env} {A₀ : Around} {base g : Heap} {L lq l1 I : Addr} {vs1 : List Value} {ep1 : Nat} {tail : List (Addr × Obj)} {s : Shared} {Q : Flow → Shared → Prop} {E : Value → Shared → Prop} {x y n : Int} {ty tn : Tok}
  (B : Below A₀ base outer g) (X : (hd.heap_39 w.params).In g) (T : Top p loose mean mg mb g)
  (hd1 : dp + 80 < 900) (hu : un + 700 < 9000) (hx' : x < 2 ^ 40) (hy : 0 < y) (hy' : y < 2 ^ 16) (hn : 0 < n) (hn' : n ≤ 16)
  (o1 : @LT.lt Nat _ l1 lq) (o2 : @LT.lt Nat _ lq I) (o3 : AllLt lq tail)
  (fin : ∀ m qvs qs rr tr eq h' tk', IntsAre qvs qs → (∀ d ∈ qs, 0 ≤ d) → qs.length ≤ 60 → 0 ≤ rr → rr < y → x = undigs (2 ^ n.toNat) qs.reverse * y + rr → m "q_digits" = some (.ref lq) → m "n" = some (.int n tn) → m "b" = some (.int y ty) → m "r" = some (.int rr tr) → Fr g L h' m → News g L h' ((lq, listOf qvs.toArray eq) :: (l1, listOf vs1.toArray ep1) :: tail) → Q .next { s with heap := h', toks := tk' }) :
  ∀ (r : List Value) (ns : List Int) (m : Str → Option Value) (qvs : List Value) (qs : List Int) (rr : Int) (tr : Tok) (eq : Nat),
    IntsAre r ns → IntsAre qvs qs → (∀ d ∈ ns, 0 ≤ d ∧ d ≤ x) → (∀ d ∈ qs, 0 ≤ d) → qs.length + ns.length ≤ 60 → 0 ≤ rr → rr < y →
    x = undigs (2 ^ n.toNat) ns.reverse + (2 ^ n.toNat) ^ ns.length * (undigs (2 ^ n.toNat) qs.reverse * y + rr) →
    m "q_digits" = some (.ref lq) → m "n" = some (.int n tn) → m "b" = some (.int y ty) → m "r" = some (.int rr tr) →
    RevRest PySem.Challenge.rw_pg0118_01.row.prog w (ktrTop dp un gd dmpP.1.name dmpP.1.scope L 56 (.ref 55) [] outer) E g (envOf dmpP.1.name dmpP.1.scope L 56 (.ref 55)) "a_digit" dmpF.1 Q s I (l1, listOf vs1.toArray ep1) r m ((lq, listOf qvs.toArray eq) :: (l1, listOf vs1.toArray ep1) :: tail) := by
  intro r
  induction r with
  | nil =>
    intro ns m qvs qs rr tr eq I1 I2 b1 b2 hl h0 h1 hV m1 m2 m3 m4
    cases I1
    refine RevRest.zero (fun h' tk' F' N' => ?_)
    refine fin m qvs qs rr tr eq h' tk' I2 b2 (by simpa using hl) h0 h1 ?_ m1 m2 m3 m4 F' N'
    simpa [undigs] using hV
  | cons v r ih =>
    intro ns m qvs qs rr tr eq I1 I2 b1 b2 hl h0 h1 hV m1 m2 m3 m4
    cases I1 with
    | @cons d td _ ns' I1 =>
    refine RevRest.succ (fun it' h' tk' hit' F' N' => ?_)
    dsimp only [dmpP, dmpF] at F' N' ⊢
    revert X
    k_fill
    intro X
    w_on
    w_top on
    (with_reducible show wpAny _ _ _ _ _ _)
    k_fold
    have hb := b1 d (.head _)
    have hp : (2 : Int) ^ n.toNat ≤ 65536 := by
      have h1 : 2 ^ n.toNat ≤ 2 ^ 16 := Nat.pow_le_pow_right (by decide) (show n.toNat ≤ 16 by omega)
      have h2 : ((2 ^ n.toNat : Nat) : Int) = (2 : Int) ^ n.toNat := by simp
      omega
    have hp0 := pow2_pos n.toNat
    have hrr : 0 ≤ rr * 2 ^ n.toNat := Int.mul_nonneg h0 (by omega)
    have hrr2 : rr * 2 ^ n.toNat ≤ 65536 * 65536 := Int.mul_le_mul (by omega) hp (by omega) (by omega)
    walk_at "go"
    · show (0 : Int) ≤ n
      omega
    · show n ≤ (1000000 : Int)
      omega
    · show rr.natAbs < 2 ^ 64
      omega
    rename Fr _ _ _ _ => F2
    rename News _ _ _ _ => N2
    refine Hold.mk (div2n1n B F2 X N2 T rfl (by omega) (by omega) (by omega) (by omega) hy (by omega) (by omega) (by omega) ?_)
    clear F2 N2
    intro D t1 t2 h2 tk2 F2 N2 lD
    k_lt lD
    dsimp only
    walk_at "go"
    rename Fr _ _ _ _ => F3
    rename News _ _ _ _ => N3
    refine Hold.mk ?_
    have hlq : qvs.length = qs.length := I2.length
    refine append_K (its := qvs.toArray) (n := eq) F3 N3 (by k_upd) ?_ ?_
    rotate_left
    · rw [List.size_toArray, sizeLine_eq]; omega
    clear F3 N3
    intro h4 F4 N4
    rw [List.push_toArray] at N4
    dsimp only
    walk_at "go"
    have hz := fdiv_fmod_facts (rr * 2 ^ n.toNat + d) y
    have hq1 : (rr * 2 ^ n.toNat + d).fdiv y = (rr * 2 ^ n.toNat + d) / y := Int.fdiv_eq_ediv_of_nonneg _ (by omega)
    have hq2 : (rr * 2 ^ n.toNat + d).fmod y = (rr * 2 ^ n.toNat + d) % y := Int.fmod_eq_emod_of_nonneg _ (by omega)
    have hq3 := Int.emod_nonneg (rr * 2 ^ n.toNat + d) (show y ≠ 0 by omega)
    have hq4 := Int.emod_lt_of_pos (rr * 2 ^ n.toNat + d) hy
    have hq5 := Int.ediv_nonneg (a := rr * 2 ^ n.toNat + d) (b := y) (by omega) (by omega)
    have hq6 := Int.mul_ediv_add_emod (rr * 2 ^ n.toNat + d) y
    refine Hold.mk (UnrEnd.intro F4 N4 ((lq, listOf (qvs ++ [Value.int ((rr * 2 ^ n.toNat + d).fdiv y) t1]).toArray (eq + 1)) :: (l1, listOf vs1.toArray ep1) :: tail) ?_ ?_ ⟨?_, ?_⟩)
    · walk_at "sub"
    · refine List.forall_mem_cons.mpr ⟨Nat.ne_of_lt o2, List.forall_mem_cons.mpr ⟨Nat.ne_of_lt (Nat.lt_trans o1 o2), ?_⟩⟩
      exact all_ne_lt o3 (Nat.le_of_lt o2)
    · exact .tail _ (.head _)
    · refine ih ns' _ _ (qs ++ [(rr * 2 ^ n.toNat + d).fdiv y]) ((rr * 2 ^ n.toNat + d).fmod y) t2 _ I1 (IntsAre.append I2 (.cons _ _ .nil)) (fun e he => b1 e (.tail _ he)) ?_ ?_ ?_ ?_ ?_ m1 m2 m3 rfl
      · intro e he
        rcases List.mem_append.mp he with he | he
        · exact b2 e he
        · rw [List.mem_singleton.mp he, hq1]; exact hq5
      · rw [List.length_append, List.length_singleton]
        rw [List.length_cons] at hl
        omega
      · omega
      · omega
      · rw [hV]
        simp only [List.reverse_cons, List.length_cons, List.reverse_append, List.reverse_nil, List.nil_append, List.singleton_append, undigs, undigs_append, List.length_reverse, Int.pow_succ, Int.mul_zero, Int.add_zero]
        rw [hq1, hq2]
        exact step_eq _ _ _ _ _ _ _ _ _ hq6
end Pg
end
/-! PgDmp -/
section
set_option maxRecDepth 100000
set_option maxHeartbeats 1000000
namespace Pg
theorem offI_lt {I : Addr} {it : Obj} : ∀ {r : List (Addr × Obj)}, (∀ p ∈ r, p.1 < I) → OffI I it r
  | [], _ => trivial
  | p :: r, h => ⟨.inl (Nat.ne_of_lt (h p (.head _))), offI_lt fun q hq => h q (.tail _ hq)⟩
theorem of_allLt {d : Nat} : ∀ {r : List (Addr × Obj)}, AllLt d r → ∀ p ∈ r, p.1 < d
  | [], _, _, h => nomatch h
  | q :: r, h, p, hp => by
    rcases List.mem_cons.mp hp with rfl | hp
    · exact h.1
    · exact of_allLt h.2 p hp
theorem ints_reverse : ∀ {vs : List Value} {ns : List Int}, IntsAre vs ns → IntsAre vs.reverse ns.reverse
  | _, _, .nil => .nil
  | _, _, .cons i t h => by
    rw [List.reverse_cons, List.reverse_cons]
    exact IntsAre.append (ints_reverse h) (.cons _ _ .nil)
theorem TabOk.mem {P : Addr} {pos : Pos} {qual : Str} {tab : List (Addr × Obj)} (h : TabOk P pos qual tab) : ∃ ps, (P, tabObj ps) ∈ tab := by
  cases h with
  | empty => exact ⟨_, .head _⟩
  | full => exact ⟨_, .head _⟩
theorem divmod_unique {x y q r : Int} (h : x = q * y + r) (h0 : 0 ≤ r) (h1 : r < y) : x / y = q ∧ x % y = r := by
  have hy : 0 < y := by omega
  exact (Int.ediv_emod_unique hy).mpr ⟨by rw [h, Int.mul_comm q y]; omega, h0, h1⟩
local macro_rules | `(tactic| k_all) => `(tactic| first | assumption | exact all_ne_lt (by assumption) (by omega))
local macro_rules | `(tactic| walk_at "call ref") => `(tactic| refine Hold.out ?_)
local macro_rules | `(tactic| walk_at "LeaveK") => `(tactic| refine Hold.out ?_)
local macro_rules | `(tactic| walk_at "pyIter ref") => `(tactic| refine Hold.out ?_)
local macro_rules | `(tactic| walk_at "call builtin:list.reverse") => `(tactic| refine Hold.out ?_)
local macro_rules | `(tactic| walk_at "eval Name") => `(tactic| (k_dflt (refine' ld ?k1 ?k2 ?_; (case k1 => k_asm); (case k2 => assumption); k_whole)))
local macro_rules | `(tactic| walk_at "go") => `(tactic| repeat' (first | (k_unfold; (try dsimp only)) | walk1 | (dsimp only; walk1)))
theorem divmodPos {w : World} {p : Program} {loose : List Str} {mean : ExcName → Option Value} {mg mb : Str → Option Value} {dp un : Nat} {gd : Option (List Code)} {cn : Str} {cs : Scope} {a : Addr} {ccd : Value} {cl : List (Str × Addr)} {outer : List Env} {A₀ : Around} {base h₀ : Heap} {L : Addr} {m : Str → Option Value} {tab1 tab2 rest : List (Addr × Obj)} {s : Shared} {Q E : Value → Shared → Prop} {x y : Int} {tx ty : Tok}
  (B : Below A₀ base outer h₀) (F : Fr h₀ L s.heap m) (X : (hd.heap_39 w.params).In h₀) (N : News h₀ L s.heap (tab1 ++ (tab2 ++ rest))) (C1 : CodeHd h₀ 41 37) (C2 : CodeHd h₀ 48 44) (T : Top p loose mean mg mb h₀) (hk : cs.kind = .function) (hT1 : Tab37 tab1) (hT2 : Tab44 tab2) (hr1 : ∀ q ∈ rest, q.1 ≠ 37) (hr2 : ∀ q ∈ rest, q.1 ≠ 44)
  (hd1 : dp + 90 < 900) (hu : un + 800 < 9000)
  (hx : 0 ≤ x) (hx' : x < 2 ^ 40) (hy : 0 < y) (hy' : y < 2 ^ 16)
  (ret : ∀ D t1 t2 h' tk' tab1' tab2', Tab37 tab1' → Tab44 tab2' → Fr h₀ L h' m → News h₀ L h' ((D, tup2 (.int (x / y) t1) (.int (x % y) t2)) :: (tab1' ++ (tab2' ++ rest))) → Q (.ref D) { s with heap := h', toks := tk' }) :
  wpAny (model PySem.Challenge.rw_pg0118_01.row.prog w) (ktrTop dp un gd cn cs L a ccd cl outer) (call (.ref 56) [.int x tx, .int y ty]) Q E s := by
  revert X
  k_fill
  intro X
  w_on
  w_top on
  have hb : Builtin.Int.intBits y ≤ 16 := intBits_le_iff.mpr (by omega)
  have hb1 : 1 ≤ Builtin.Int.intBits y := by
    unfold Builtin.Int.intBits
    split
    · rename_i h0; simp at h0; omega
    · omega
  refine wpAny_call ?_
  k_dflt (refine' code_def ?k1 ?k2 ?k3 ?k4 ?k5 ?kA ?kF ?kK ?k6 ?k7 ?k8 ?k9 ?kB ?_ ?c2 ?c3 ?c4 ?c5; (case kA => exact rfl); (case kF => exact rfl); (case kK => assumption); (case k1 => k_asm); (case k2 => k_asm); (case k3 => k_asm); (case k4 => k_asm); (case k5 => k_asm); (case k6 => k_is); (case k7 => k_is); (case k8 => show dp < 1000; omega); (case k9 => exact BindsTo.of_eq rfl); (case c5 => decide); (case kB => exact locs rfl); (case c2 => exact rfl); (case c3 => exact rfl); (case c4 => exact rfl); k_whole; intro g' L' h' FG' F' N' B' X' T')
  have F' : Fr g' L' h' (fun z => List.lookup z [("b", .int y ty), ("a", .int x tx)]) := F'
  have C1' := CodeHd.keeps C1 FG'.keep
  have C2' := CodeHd.keeps C2 FG'.keep
  (with_reducible show wpAny _ _ _ _ _ _)
  k_fold
  walk_at "go"
  rename Fr _ _ _ _ => F2
  rename News _ _ _ _ => N2
  refine Hold.mk (int2digits B' F2 X' N2 C1' T' rfl hT1 ?_ hx (by omega) (by omega) (by omega) ?_ ?_ ?_)
  · intro q hq
    rcases List.mem_append.mp hq with hq | hq
    · exact hT2.apart (by decide) (by decide) q hq
    · exact hr1 q hq
  · show dp + 1 + 70 < 900
    omega
  · show un + 3 + 600 < 9000
    omega
  clear F2 N2
  intro l1 vs1 ds1 ep1 h1 tk1 tab1' hT1' I1 hl1 b1 u1 F2 N2
  dsimp only
  walk_at "go"
  rename_i lq _ lqa _ I' _ F3 N3 lqb
  refine Hold.mk (iter_revUnr (lo := listOf vs1.toArray ep1) (vs := vs1) (n := ep1) rfl F3 N3 ?_ (by k_mem) rfl rfl ?_)
  · exact offI_lt (of_allLt ⟨lqb.1, lqb.2⟩)
  refine dmpLoop (dp := dp + 1) (un := un + 3) (outer := envX cn cs L a ccd cl :: outer) (x := x) (y := y) (n := (Builtin.Int.intBits y : Int)) B' X' T' (by omega) (by omega) (by omega) hy hy' (by omega) (by omega) lqa.1 lqb.1 lqa.2 ?_ vs1.reverse ds1.reverse _ [] [] 0 _ 0 (ints_reverse I1) .nil ?_ ?_ ?_ ?_ hy ?_ rfl rfl rfl rfl
  · clear F3 N3
    intro m9 qvs qs rr tr eq h9 tk9 I9 c1 c2 c3 c4 c5 m1 m2 m3 m4 F9 N9
    dsimp only
    obtain ⟨lqa1, lqa2⟩ := lqa
    have hlq : qvs.length = qs.length := I9.length
    have hp0 := pow2_pos ((Builtin.Int.intBits y : Int)).toNat
    have p1 := undigs_nonneg (Int.le_of_lt hp0) (A := qs.reverse) fun d hd => c1 d (List.mem_reverse.mp hd)
    have p2 : undigs (2 ^ ((Builtin.Int.intBits y : Int)).toNat) qs.reverse * 1 ≤ undigs (2 ^ ((Builtin.Int.intBits y : Int)).toNat) qs.reverse * y := Int.mul_le_mul_of_nonneg_left hy p1
    walk_at "go"
    refine Hold.mk (kl_reverse (its := qvs.toArray) (l := qvs.reverse) (n := eq) F9 N9 rfl (by k_upd) ?_ ?_)
    · rw [sizeLine_eq]; show qvs.length ≤ _; omega
    clear F9 N9
    intro h10 F10 N10
    dsimp only
    have hsz : qvs.reverse.toArray.size = qs.reverse.length := by simp [hlq]
    walk_at "go"
    rename Fr _ _ _ _ => F10
    rename News _ _ _ _ => N10
    refine Hold.mk (digits2int (rest := (l1, listOf vs1.toArray ep1) :: (tab1' ++ rest)) (tab := tab2) (vs := qvs.reverse) (ns := qs.reverse) (ep := eq) B' F10 X' (cb_drop N10 ?_) C2' T' rfl hT2 ?_ ?_ (ints_reverse I9) ?_ ?_ ?_ ?_ ?_ ?_ ?_ ?_)
    · intro q hq
      rcases List.mem_append.mp hq with hq | hq
      · exact .tail _ (.tail _ (List.mem_append_right _ (List.mem_append_left _ hq)))
      · rcases List.mem_cons.mp hq with rfl | hq
        · exact .head _
        · rcases List.mem_cons.mp hq with rfl | hq
          · exact .tail _ (.head _)
          · rcases List.mem_append.mp hq with hq | hq
            · exact .tail _ (.tail _ (List.mem_append_left _ hq))
            · exact .tail _ (.tail _ (List.mem_append_right _ (List.mem_append_right _ hq)))
    · obtain ⟨ps, hps⟩ := hT2.mem
      refine List.forall_mem_cons.mpr ⟨ne_of_news N10 (.tail _ (.head _)) (.tail _ (.tail _ (List.mem_append_right _ (List.mem_append_left _ hps)))) (by intro e; cases e), ?_⟩
      intro q hq
      rcases List.mem_append.mp hq with hq | hq
      · exact hT1'.apart (by decide) (by decide) q hq
      · exact hr2 q hq
    · obtain ⟨ps, hps⟩ := hT2.mem
      exact ne_of_news N10 (.head _) (.tail _ (.tail _ (List.mem_append_right _ (List.mem_append_left _ hps)))) (by intro e; cases e)
    · intro d hd; exact c1 d (List.mem_reverse.mp hd)
    · simpa using c2
    · show _ < _
      omega
    · omega
    · omega
    · show dp + 1 + 70 < 900
      omega
    · show un + 3 + 600 < 9000
      omega
    clear F10 N10
    intro t11 h11 tk11 tab2' hT2' F11 N11
    dsimp only
    walk_at "go"
    rename Fr _ _ _ _ => F12
    rename News _ _ _ _ => N12
    obtain ⟨e1, e2⟩ := divmod_unique c5 c3 c4
    rw [← e1] at N12
    rw [← e2] at N12
    refine Hold.mk (leaveK_ F12 N12 (fun kF kN => ?_))
    refine ret _ t11 tr _ _ tab1' tab2' hT1' hT2' kF (cb_drop kN ?_)
    intro q hq
    rcases List.mem_cons.mp hq with rfl | hq
    · exact .head _
    · refine .tail _ ?_
      rcases List.mem_append.mp hq with hq | hq
      · exact List.mem_append_right _ (.tail _ (.tail _ (List.mem_append_left _ hq)))
      · rcases List.mem_append.mp hq with hq | hq
        · exact List.mem_append_left _ hq
        · exact List.mem_append_right _ (.tail _ (.tail _ (List.mem_append_right _ hq)))
  · intro d hd
    exact b1 d (List.mem_reverse.mp hd)
  · intro d hd; cases hd
  · simpa using hl1
  · exact Int.le_refl _
  · rw [List.reverse_reverse, u1]
    simp [undigs]
end Pg
end
/-! PgIdm -/
section
set_option maxRecDepth 100000
set_option maxHeartbeats 1000000
namespace Pg
local macro_rules | `(tactic| walk_at "call ref") => `(tactic| refine Hold.out ?_)
local macro_rules | `(tactic| walk_at "LeaveK") => `(tactic| refine Hold.out ?_)
local macro_rules | `(tactic| walk_at "go") => `(tactic| repeat' (first | (k_unfold; (try dsimp only)) | walk1 | (dsimp only; walk1)))
theorem intDivmod {w : World} {p : Program} {loose : List Str} {mean : ExcName → Option Value} {mg mb : Str → Option Value} {dp un : Nat} {gd : Option (List Code)} {cn : Str} {cs : Scope} {a : Addr} {ccd : Value} {cl : List (Str × Addr)} {outer : List Env} {A₀ : Around} {base h₀ : Heap} {L : Addr} {m : Str → Option Value} {tab1 tab2 rest : List (Addr × Obj)} {s : Shared} {Q E : Value → Shared → Prop} {x y : Int} {tx ty : Tok}
  (B : Below A₀ base outer h₀) (F : Fr h₀ L s.heap m) (X : (hd.heap_39 w.params).In h₀) (N : News h₀ L s.heap (tab1 ++ (tab2 ++ rest))) (C1 : CodeHd h₀ 41 37) (C2 : CodeHd h₀ 48 44) (T : Top p loose mean mg mb h₀) (hk : cs.kind = .function) (hT1 : Tab37 tab1) (hT2 : Tab44 tab2) (hr1 : ∀ q ∈ rest, q.1 ≠ 37) (hr2 : ∀ q ∈ rest, q.1 ≠ 44)
  (hd1 : dp + 100 < 900) (hu : un + 900 < 9000)
  (hx : 0 ≤ x) (hx' : x < 2 ^ 40) (hy : 0 < y) (hy' : y < 2 ^ 16)
  (ret : ∀ D t1 t2 h' tk' tab1' tab2', Tab37 tab1' → Tab44 tab2' → Fr h₀ L h' m → News h₀ L h' ((D, tup2 (.int (x / y) t1) (.int (x % y) t2)) :: (tab1' ++ (tab2' ++ rest))) → Q (.ref D) { s with heap := h', toks := tk' }) :
  wpAny (model PySem.Challenge.rw_pg0118_01.row.prog w) (ktrTop dp un gd cn cs L a ccd cl outer) (call (.ref 63) [.int x tx, .int y ty]) Q E s := by
  revert X
  k_fill
  intro X
  w_on
  w_top on
  refine wpAny_call ?_
  k_dflt (refine' code_def ?k1 ?k2 ?k3 ?k4 ?k5 ?kA ?kF ?kK ?k6 ?k7 ?k8 ?k9 ?kB ?_ ?c2 ?c3 ?c4 ?c5; (case kA => exact rfl); (case kF => exact rfl); (case kK => assumption); (case k1 => k_asm); (case k2 => k_asm); (case k3 => k_asm); (case k4 => k_asm); (case k5 => k_asm); (case k6 => k_is); (case k7 => k_is); (case k8 => show dp < 1000; omega); (case k9 => exact BindsTo.of_eq rfl); (case c5 => decide); (case kB => exact locs rfl); (case c2 => exact rfl); (case c3 => exact rfl); (case c4 => exact rfl); k_whole; intro g' L' h' FG' F' N' B' X' T')
  have F' : Fr g' L' h' (fun z => List.lookup z [("b", .int y ty), ("a", .int x tx)]) := F'
  have C1' := CodeHd.keeps C1 FG'.keep
  have C2' := CodeHd.keeps C2 FG'.keep
  (with_reducible show wpAny _ _ _ _ _ _)
  k_fold
  walk_at "go"
  · exfalso; omega
  rename Fr _ _ _ _ => F2
  rename News _ _ _ _ => N2
  refine Hold.mk (divmodPos B' F2 X' N2 C1' C2' T' rfl hT1 hT2 hr1 hr2 ?_ ?_ hx hx' hy hy' ?_)
  · show dp + 1 + 90 < 900
    omega
  · show un + 3 + 800 < 9000
    omega
  clear F2 N2
  intro D t1 t2 h1 tk1 tab1' tab2' hT1' hT2' F2 N2
  dsimp only
  walk_at "go"
  refine Hold.mk (leaveK_ F2 N2 (fun kF kN => ?_))
  exact ret D t1 t2 _ _ tab1' tab2' hT1' hT2' kF kN
end Pg
end
/-! PgIdm0 -/
section
set_option maxRecDepth 100000
set_option maxHeartbeats 1000000
namespace Pg
local macro_rules | `(tactic| walk_at "call ref") => `(tactic| refine Hold.out ?_)
local macro_rules | `(tactic| walk_at "exec Raise some none") => `(tactic| refine Hold.out ?_)
local macro_rules | `(tactic| walk_at "LeaveK") => `(tactic| refine Hold.out ?_)
local macro_rules | `(tactic| walk_at "go") => `(tactic| repeat' (first | (k_unfold; (try dsimp only)) | walk1 | (dsimp only; walk1)))
theorem zself : isSubtype (.type "ZeroDivisionError") (.type "ZeroDivisionError") = pure true := by
  rw [isSubtype_type]; kernel_rfl
theorem intDivmod0 {w : World} {p : Program} {loose : List Str} {mean : ExcName → Option Value} {mg mb : Str → Option Value} {dp un : Nat} {gd : Option (List Code)} {cn : Str} {cs : Scope} {a : Addr} {ccd : Value} {cl : List (Str × Addr)} {outer : List Env} {A₀ : Around} {base h₀ : Heap} {L : Addr} {m : Str → Option Value} {news : List (Addr × Obj)} {s : Shared} {Q E : Value → Shared → Prop} {x y : Int} {tx ty : Tok}
  (B : Below A₀ base outer h₀) (F : Fr h₀ L s.heap m) (X : (hd.heap_39 w.params).In h₀) (N : News h₀ L s.heap news) (T : Top p loose mean mg mb h₀) (hk : cs.kind = .function)
  (hd1 : dp + 100 < 900) (hu : un + 900 < 9000) (hy : y = 0)
  (err : ∀ g' e h' tk', Fr h₀ L g' m → RaisedSN base g' (envX cn cs L a ccd cl :: outer) e (.type "ZeroDivisionError") news h' → g'.UpToSlots h' → E (.ref e) { s with heap := h', toks := tk' }) :
  wpAny (model PySem.Challenge.rw_pg0118_01.row.prog w) (ktrTop dp un gd cn cs L a ccd cl outer) (call (.ref 63) [.int x tx, .int y ty]) Q E s := by
  revert X
  k_fill
  intro X
  w_on
  w_top on
  refine wpAny_call ?_
  k_dflt (refine' code_def ?k1 ?k2 ?k3 ?k4 ?k5 ?kA ?kF ?kK ?k6 ?k7 ?k8 ?k9 ?kB ?_ ?c2 ?c3 ?c4 ?c5; (case kA => exact rfl); (case kF => exact rfl); (case kK => assumption); (case k1 => k_asm); (case k2 => k_asm); (case k3 => k_asm); (case k4 => k_asm); (case k5 => k_asm); (case k6 => k_is); (case k7 => k_is); (case k8 => show dp < 1000; omega); (case k9 => exact BindsTo.of_eq rfl); (case c5 => decide); (case kB => exact locs rfl); (case c2 => exact rfl); (case c3 => exact rfl); (case c4 => exact rfl); k_whole; intro g' L' h' FG' F' N' B' X' T')
  have F' : Fr g' L' h' (fun z => List.lookup z [("b", .int y ty), ("a", .int x tx)]) := F'
  (with_reducible show wpAny _ _ _ _ _ _)
  walk_at "go"
  · rename Fr _ _ _ _ => F2
    rename News _ _ _ _ => N2
    refine Hold.mk (Raise_classB rfl excClass_ZeroDivisionError zself (name_B F2 X' (topRead_of T') (by k_is) (ExcClass.boot excClass_ZeroDivisionError) (by decide) ⟨rfl, rfl⟩) ?_)
    intro h3 e hx
    dsimp only
    refine leave_newS B' hx F2 N2 ?_
    intro h4 R _ U
    exact err g' e _ _ FG' R U
  all_goals (exfalso; omega)
end Pg
end
/-! PgRunL -/
section
set_option maxRecDepth 100000
set_option maxHeartbeats 1000000
namespace Pg
def pairOf (lo hi : Str) (i : Nat) (t : Int) : Str × Str := if i % 2 = 0 then (hi, Txt.mul lo t ++ hi) else (lo, lo ++ Txt.mul hi t)
def pairsFrom (lo hi : Str) : Nat → List Int → List (Str × Str)
  | _, [] => []
  | i, t :: ts => pairOf lo hi i t :: pairsFrom lo hi (i + 1) ts
theorem mul_len {x : Str} {n : Int} (hx : x.length = 1) (h0 : 0 ≤ n) (hn : n < 100) : (Txt.mul x n).length ≤ 100 := by
  have e := len_mul x n
  rw [if_neg (fun c => absurd (of_decide_eq_true c) (by omega)), hx] at e
  omega
def runP : { d : Parts // topAt 11 = some d } := ⟨_, rfl⟩
def runF : { b : List Stmt // (topAt 11).bind (fun d => d.body[1]?.bind forBody) = some b } := ⟨_, rfl⟩
/-- Euclid's run: the quotients and the counts at the end -/
def runQ : Nat → Nat → Int → Int → List Int × Int × Int
  | 0, _, f, s => ([], f, s)
  | k + 1, i, f, s =>
    if i % 2 = 0 then (if s = 0 then ([], f, s) else (f / s :: (runQ k (i + 1) (f % s) s).1, (runQ k (i + 1) (f % s) s).2))
    else (if f = 0 then ([], f, s) else (s / f :: (runQ k (i + 1) f (s % f)).1, (runQ k (i + 1) f (s % f)).2))
inductive TupsAre : List (Addr × Obj) → List (Str × Str) → Prop
  | nil : TupsAre [] []
  | cons {d : Addr} {a b : Str} {t u : Tok} {r : List (Addr × Obj)} {ps : List (Str × Str)} : TupsAre r ps → TupsAre ((d, tup2 (.str a t) (.str b u)) :: r) ((a, b) :: ps)
theorem news_fun {h₀ h : Heap} {L : Addr} {all : List (Addr × Obj)} (N : News h₀ L h all) {q r : Addr × Obj} (hq : q ∈ all) (hr : r ∈ all) (e : q.1 = r.1) : q.2 = r.2 := by
  have e1 := (N q hq).1
  have e2 := (N r hr).1
  rw [e, e2] at e1
  exact (Option.some.inj e1).symm
theorem TupsAre.cls {tups : List (Addr × Obj)} {ps : List (Str × Str)} (h : TupsAre tups ps) : ∀ q ∈ tups, q.2.cls = .type "tuple" := by
  induction h with
  | nil => intro q hq; cases hq
  | cons _ ih => intro q hq; rcases List.mem_cons.mp hq with rfl | hq; rfl; exact ih q hq
theorem TupsAre.off {h₀ h : Heap} {L b : Addr} {o : Obj} {all tups : List (Addr × Obj)} {ps : List (Str × Str)} (N : News h₀ L h all) (hT : TupsAre tups ps) (sub : ∀ q ∈ tups, q ∈ all) (hb : (b, o) ∈ all) (ho : o.cls ≠ .type "tuple") : ∀ q ∈ tups, q.1 ≠ b := by
  intro q hq e
  have z : q.2 = o := news_fun N (sub q hq) hb e
  exact ho (by rw [← z]; exact hT.cls q hq)
theorem TabOk.offD {P b : Addr} {pos : Pos} {qual : Str} {h₀ h : Heap} {L : Addr} {o : Obj} {all tab : List (Addr × Obj)} (N : News h₀ L h all) (hT : TabOk P pos qual tab) (sub : ∀ q ∈ tab, q ∈ all) (hb : (b, o) ∈ all) (h1 : o.cls ≠ .none) (h2 : ∀ vs t x, o.data = .fields vs → vs[1]? ≠ some (.str x t)) : ∀ q ∈ tab, q.1 ≠ b := by
  cases hT with
  | empty =>
    intro q hq e
    have z := news_fun N (sub q hq) hb e
    cases hq with
    | head => simp only at z; exact h1 (by rw [← z])
    | tail _ h => cases h
  | full hc hd hv =>
    intro q hq e
    have z := news_fun N (sub q hq) hb e
    cases hq with
    | head => simp only at z; exact h1 (by rw [← z])
    | tail _ h => cases h with
      | head => simp only at z; subst z; exact h2 _ _ _ hd hv
      | tail _ h => cases h
theorem TupsAre.snoc {tups : List (Addr × Obj)} {ps : List (Str × Str)} {d : Addr} {a b : Str} {t u : Tok} (h : TupsAre tups ps) : TupsAre (tups ++ [(d, tup2 (.str a t) (.str b u))]) (ps ++ [(a, b)]) := by
  induction h with
  | nil => exact .cons .nil
  | cons _ ih => exact .cons ih
theorem itR_one (x y : Int) : ∀ vs t z, (itR x y).data = .fields vs → vs[1]? ≠ some (.str z t) := by
  intro vs t z e
  cases e
  simp [rawInt]
theorem listOf_one (a : Array Value) (n : Nat) : ∀ vs t z, (listOf a n).data = .fields vs → vs[1]? ≠ some (.str z t) := by
  intro vs t z e
  cases e
theorem tup_one (a b : Value) : ∀ vs t z, (tup2 a b).data = .fields vs → vs[1]? ≠ some (.str z t) := by
  intro vs t z e
  cases e
local macro_rules | `(tactic| k_all) => `(tactic| first | assumption | exact all_ne_lt (by assumption) (by omega))
local macro_rules | `(tactic| walk_at "call ref") => `(tactic| refine Hold.out ?_)
local macro_rules | `(tactic| walk_at "call builtin:list.append") => `(tactic| refine Hold.out ?_)
local macro_rules | `(tactic| walk_at "noteFrame") => `(tactic| refine Hold.out ?_)
local macro_rules | `(tactic| walk_at "UnrEnd") => `(tactic| refine Hold.out ?_)
local macro_rules | `(tactic| walk_at "UnrPost") => `(tactic| refine Hold.out ?_)
local macro_rules | `(tactic| walk_at "eval Name") => `(tactic| (k_dflt (refine' ld ?k1 ?k2 ?_; (case k1 => k_asm); (case k2 => assumption); k_whole)))
local macro_rules | `(tactic| walk_at "sub") => `(tactic| (repeat (first | exact sub_refl | exact sub_nil | refine sub_cons (by k_mem) ?_ | refine sub_tail ?_)))
local macro_rules | `(tactic| walk_at "binaryOp Mult str int") => `(tactic| (refine SB.mul (Hold.out ?_) (fun _ _ => ?_)))
local macro_rules | `(tactic| walk_at "binaryOp Add str str") => `(tactic| (refine add_str (fun _ _ => ?_) (Hold.out ?_)))
local macro_rules | `(tactic| walk_at "go") => `(tactic| repeat' (first | (k_unfold; (try dsimp only)) | walk1 | (dsimp only; walk1)))
/-- what a turn needs to know of the ledger's addresses -/
theorem run_apart {h₀ h : Heap} {L lp I : Addr} {its : Array Value} {ep : Nat} {x y : Int} {all tups tab1 tab2 rest : List (Addr × Obj)} {ps : List (Str × Str)} (N : News h₀ L h all) (TA : TupsAre tups ps) (T1 : Tab37 tab1) (T2 : Tab44 tab2)
    (sI : (I, itR x y) ∈ all) (sl : (lp, listOf its ep) ∈ all) (su : ∀ q ∈ tups, q ∈ all) (s1 : ∀ q ∈ tab1, q ∈ all) (s2 : ∀ q ∈ tab2, q ∈ all)
    (hr1 : ∀ q ∈ rest, q.1 ≠ 37) (hr2 : ∀ q ∈ rest, q.1 ≠ 44) (hr3 : ∀ q ∈ rest, q.1 ≠ lp) (hr4 : ∀ q ∈ rest, q.1 ≠ I) :
    (∀ q ∈ (I, itR x y) :: (lp, listOf its ep) :: (tups ++ rest), q.1 ≠ 37) ∧ (∀ q ∈ (I, itR x y) :: (lp, listOf its ep) :: (tups ++ rest), q.1 ≠ 44) ∧
    (∀ q ∈ tups ++ (tab1 ++ (tab2 ++ rest)), q.1 ≠ lp) ∧ (∀ q ∈ tups ++ (tab1 ++ (tab2 ++ rest)), q.1 ≠ I) := by
  obtain ⟨p1, m1⟩ := T1.mem
  obtain ⟨p2, m2⟩ := T2.mem
  have cls_ne : ∀ {a b : Addr} {o o' : Obj}, (a, o) ∈ all → (b, o') ∈ all → o.cls ≠ o'.cls → a ≠ b := fun {a b o o'} h1 h2 hc e => hc (by
    have z : o = o' := news_fun N h1 h2 e
    rw [z])
  have three : ∀ {P : Addr} {pp : Array Value}, (P, tabObj pp) ∈ all → (∀ q ∈ rest, q.1 ≠ P) → ∀ q ∈ (I, itR x y) :: (lp, listOf its ep) :: (tups ++ rest), q.1 ≠ P := by
    intro P pp hm hr q hq
    rcases List.mem_cons.mp hq with rfl | hq
    · exact cls_ne sI hm (by intro e; cases e)
    · rcases List.mem_cons.mp hq with rfl | hq
      · exact cls_ne sl hm (by intro e; cases e)
      · rcases List.mem_append.mp hq with hq | hq
        · exact TA.off N su hm (by intro e; cases e) q hq
        · exact hr q hq
  have four : ∀ {b : Addr} {o : Obj}, (b, o) ∈ all → o.cls ≠ .type "tuple" → o.cls ≠ .none → (∀ vs t z, o.data = .fields vs → vs[1]? ≠ some (.str z t)) → (∀ q ∈ rest, q.1 ≠ b) → ∀ q ∈ tups ++ (tab1 ++ (tab2 ++ rest)), q.1 ≠ b := by
    intro b o hb h1 h2 h3 hr q hq
    rcases List.mem_append.mp hq with hq | hq
    · exact TA.off N su hb h1 q hq
    · rcases List.mem_append.mp hq with hq | hq
      · exact T1.offD N s1 hb h2 h3 q hq
      · rcases List.mem_append.mp hq with hq | hq
        · exact T2.offD N s2 hb h2 h3 q hq
        · exact hr q hq
  exact ⟨three (s1 _ m1) hr1, three (s2 _ m2) hr2, four sl (by show Value.type "list" ≠ Value.type "tuple"; decide) (by intro e; cases e) (listOf_one _ _) hr3, four sI (by show Value.type "range_iterator" ≠ Value.type "tuple"; decide) (by intro e; cases e) (itR_one _ _) hr4⟩
theorem hnotTuple : isSubtype (.type ((Manifest.find? "ZeroDivisionError").elim "type" fun y => y.metatype)) (.type "tuple") = pure false := by
  rw [isSubtype_type]; kernel_rfl
theorem runLoop {w : World} {p : Program} {loose : List Str} {mean : ExcName → Option Value} {mg mb : Str → Option Value} {dp un : Nat} {gd : Option (List Code)} {outer : List Env} {base g : Heap} {L lp I : Addr} {rest : List (Addr × Obj)} {s : Shared} {Q : Flow → Shared → Prop} {lo hi : Str} {tl th : Tok} {R0 : List (Str × Str) × Int × Int} (hlo : lo.length = 1) (hhi : hi.length = 1)
  (B : Below { handled := none, depth := dp, frames := some outer, guards := gd, units := un } base outer g) (X : (hd.heap_39 w.params).In g) (T : Top p loose mean mg mb g) (XB : (hd.heap_39 w.params).In base) (TB : Top p loose mean mg mb base) (C1 : CodeHd base 41 37) (C2 : CodeHd base 48 44)
  (D : KtsDicts (outer.filterMap (·.frame)) g)
  (hd1 : dp + 120 < 900) (hu : un + 1000 < 9000) (hr1 : ∀ q ∈ rest, q.1 ≠ 37) (hr2 : ∀ q ∈ rest, q.1 ≠ 44) (hr3 : ∀ q ∈ rest, q.1 ≠ lp) (hr4 : ∀ q ∈ rest, q.1 ≠ I) (hI : @LT.lt Nat _ lp I)
  (fin : ∀ g' m f sc tf ts tups tab1 tab2 ps ep h' tk', KtsTurn (outer.filterMap (·.frame)) g g' → Below { handled := none, depth := dp, frames := some outer, guards := gd, units := un } base outer g' → TupsAre tups ps → Tab37 tab1 → Tab44 tab2 → (ps, f, sc) = R0 →
    m "first" = some (.int f tf) → m "second" = some (.int sc ts) → m "pairs" = some (.ref lp) → Fr g' L h' m → News g' L h' ((lp, listOf (tups.map fun q => Value.ref q.1).toArray ep) :: (tups ++ (tab1 ++ (tab2 ++ rest)))) → Q .next { s with heap := h', toks := tk' }) :
  ∀ (k i : Nat) (f sc : Int) (tf ts : Tok) (m : Str → Option Value) (tups tab1 tab2 : List (Addr × Obj)) (ps : List (Str × Str)) (ep : Nat),
    k + i = 12 → 0 ≤ f → f < 100 → 0 ≤ sc → sc < 100 → TupsAre tups ps → Tab37 tab1 → Tab44 tab2 → (ps ++ pairsFrom lo hi i (runQ k i f sc).1, (runQ k i f sc).2) = R0 → tups.length = i →
    m "first" = some (.int f tf) → m "second" = some (.int sc ts) → m "low" = some (.str lo tl) → m "high" = some (.str hi th) → m "pairs" = some (.ref lp) →
    RangeRest PySem.Challenge.rw_pg0118_01.row.prog w (({ handled := none, depth := dp, frames := some outer, guards := gd, units := un } : Around).deeper (envOf runP.1.name runP.1.scope L 70 (.ref 69))) (fun _ _ => False) g (envOf runP.1.name runP.1.scope L 70 (.ref 69)) "turn" runF.1 Q s I 0 12 k i m ((lp, listOf (tups.map fun q => Value.ref q.1).toArray ep) :: (tups ++ (tab1 ++ (tab2 ++ rest)))) := by
  intro k
  induction k with
  | zero =>
    intro i f sc tf ts m tups tab1 tab2 ps ep hki hf0 hf1 hs0 hs1 TA T1 T2 hR hlt m1 m2 m3 m4 m5
    refine RangeRest.zero (fun h tk F' N' => ?_)
    refine fin g m f sc tf ts tups tab1 tab2 ps ep h tk KtsTurn.refl B TA T1 T2 ?_ m1 m2 m5 F' N'
    simpa [runQ, pairsFrom] using hR
  | succ k ih =>
    intro i f sc tf ts m tups tab1 tab2 ps ep hki hf0 hf1 hs0 hs1 TA T1 T2 hR hlt m1 m2 m3 m4 m5
    refine RangeRest.succ (fun t h tk F' N' => ?_)
    dsimp only [runP, runF] at F' N' ⊢
    revert X
    k_fill
    intro X
    w_on
    w_top on
    (with_reducible show wpAny _ _ _ _ _ _)
    have hmemI : ∀ q ∈ tab1 ++ (tab2 ++ ((I, itR (0 + ((i + 1 : Nat) : Int)) ((12 : Nat) - ((i + 1 : Nat) : Int))) :: (lp, listOf (tups.map fun q => Value.ref q.1).toArray ep) :: (tups ++ rest))), q ∈ (I, itR (0 + ((i + 1 : Nat) : Int)) ((12 : Nat) - ((i + 1 : Nat) : Int))) :: (lp, listOf (tups.map fun q => Value.ref q.1).toArray ep) :: (tups ++ (tab1 ++ (tab2 ++ rest))) := by
      intro q hq
      simp only [List.mem_append, List.mem_cons] at hq ⊢
      grind
    obtain ⟨ap1, ap2, ap3, ap4⟩ := run_apart N' TA T1 T2 (.head _) (.tail _ (.head _)) (fun q hq => .tail _ (.tail _ (List.mem_append_left _ hq))) (fun q hq => hmemI q (List.mem_append_left _ hq)) (fun q hq => hmemI q (List.mem_append_right _ (List.mem_append_left _ hq))) hr1 hr2 hr3 hr4
    walk_at "go"
    · rename Fr _ _ _ _ => F2
      rename News _ _ _ _ => N2
      have hpar : i % 2 = 0 := by
        have e := Int.fmod_eq_emod_of_nonneg (0 + (i : Int)) (b := 2) (by decide)
        omega
      refine Hold.mk ?_
      by_cases hz : sc = 0
      · have hq : runQ (k + 1) i f sc = ([], f, sc) := by
          simp only [runQ, if_pos hpar, if_pos hz]
        rw [hq] at hR
        refine intDivmod0 B F2 X N2 T rfl ?_ ?_ hz ?_
        · show dp + 1 + 100 < 900
          omega
        · show un + 3 + 900 < 9000
          omega
        intro g' e h' tk' FG R U
        dsimp only
        refine caught_SN0 R FG B U XB TB D KtsTurn.refl (by k_is) (ExcClass.boot excClass_ZeroDivisionError) (by decide) excClass_ZeroDivisionError.base hnotTuple zself ?_ (hE := PassesOwnAt.never)
        intro h3 g3 KT F3 N3 B3 X3 T3 D3
        walk_at "go"
        refine Hold.mk ?_
        dsimp only [UnrPost]
        refine fin g3 (fun y => if y = "turn" then some (Value.int (0 + (i : Int)) t) else m y) f sc tf ts tups tab1 tab2 ps ep h3 _ KT B3 TA T1 T2 ?_ m1 m2 m5 F3 (cb_drop N3 ?_)
        · simpa [pairsFrom] using hR
        · walk_at "sub"
      · have hq : runQ (k + 1) i f sc = (f / sc :: (runQ k (i + 1) (f % sc) sc).1, (runQ k (i + 1) (f % sc) sc).2) := by
          simp only [runQ, if_pos hpar, if_neg hz]
        rw [hq] at hR
        have b1 := Int.emod_nonneg f hz
        have b2 := Int.emod_lt_of_pos f (show 0 < sc by omega)
        have b3 := Int.ediv_nonneg hf0 hs0
        have b4 := Int.ediv_le_self (b := sc) (a := f) hf0
        have b5 := mul_len hlo b3 (by omega)
        refine intDivmod B F2 X (cb_drop N2 hmemI) (C1.keeps B.stays) (C2.keeps B.stays) T rfl T1 T2 ap1 ap2 ?_ ?_ hf0 (by omega) (by omega) (by omega) ?_
        · show dp + 1 + 100 < 900
          omega
        · show un + 3 + 900 < 9000
          omega
        clear F2 N2
        intro D1 t1 t2 h1 tk1 tab1' tab2' T1' T2' F2 N2
        have N3 : News g L h1 ((D1, tup2 (.int (f / sc) t1) (.int (f % sc) t2)) :: (I, itR (0 + ((i + 1 : Nat) : Int)) ((12 : Nat) - ((i + 1 : Nat) : Int))) :: (lp, listOf (tups.map fun q => Value.ref q.1).toArray ep) :: (tups ++ (tab1' ++ (tab2' ++ rest)))) := cb_drop N2 (by
          intro q hq
          simp only [List.mem_append, List.mem_cons] at hq ⊢
          grind)
        clear N2
        dsimp only
        walk_at "go"
        · exact mulOk_of 16 1048576 (by omega) (by omega) (by omega) (by decide) (by decide)
        · rename_i tA nA tB nB DD hB F5 N5 lt5
          obtain ⟨_, _, bp3, bp4⟩ := run_apart N5 TA T1' T2' (.tail _ (.tail _ (.head _))) (.tail _ (.tail _ (.tail _ (.head _)))) (fun q hq => .tail _ (.tail _ (.tail _ (.tail _ (List.mem_append_left _ hq))))) (fun q hq => .tail _ (.tail _ (.tail _ (.tail _ (List.mem_append_right _ (List.mem_append_left _ hq)))))) (fun q hq => .tail _ (.tail _ (.tail _ (.tail _ (List.mem_append_right _ (List.mem_append_right _ (List.mem_append_left _ hq))))))) hr1 hr2 hr3 hr4
          refine Hold.mk ?_
          have N6 : News g L hB ((lp, listOf (tups.map fun q => Value.ref q.1).toArray ep) :: (DD, tup2 (.str hi th) (.str (Txt.mul lo (f / sc) ++ hi) tB)) :: (I, itR (0 + ((i + 1 : Nat) : Int)) ((12 : Nat) - ((i + 1 : Nat) : Int))) :: (tups ++ (tab1' ++ (tab2' ++ rest)))) := cb_drop N5 (by walk_at "sub")
          refine append_K (its := (tups.map fun q => Value.ref q.1).toArray) (n := ep) F5 N6 (Upd.head ?_) ?_ ?_
          · exact List.forall_mem_cons.mpr ⟨Nat.ne_of_gt lt5.2.2.1, List.forall_mem_cons.mpr ⟨Nat.ne_of_gt hI, bp3⟩⟩
          · intro h7 F7 N7
            rw [List.push_toArray] at N7
            dsimp only
            walk_at "go"
            have emap : (tups ++ [(DD, tup2 (.str hi th) (.str (Txt.mul lo (f / sc) ++ hi) tB))]).map (fun q => Value.ref q.1) = tups.map (fun q => Value.ref q.1) ++ [Value.ref DD] := by simp
            rw [← emap] at N7
            refine Hold.mk (UnrEnd.intro F7 N7 ((lp, listOf ((tups ++ [(DD, tup2 (.str hi th) (.str (Txt.mul lo (f / sc) ++ hi) tB))]).map fun q => Value.ref q.1).toArray (ep + 1)) :: ((tups ++ [(DD, tup2 (.str hi th) (.str (Txt.mul lo (f / sc) ++ hi) tB))]) ++ (tab1' ++ (tab2' ++ rest)))) ?_ ?_ ?_)
            · intro q hq
              simp only [List.mem_append, List.mem_cons] at hq ⊢
              grind
            · refine List.forall_mem_cons.mpr ⟨Nat.ne_of_lt hI, ?_⟩
              intro q hq
              rcases List.mem_append.mp hq with hq | hq
              · rcases List.mem_append.mp hq with hq | hq
                · exact bp4 q (List.mem_append_left _ hq)
                · rw [List.mem_singleton.mp hq]; exact Nat.ne_of_gt lt5.2.1
              · exact bp4 q (List.mem_append_right _ hq)
            · refine ih (i + 1) (f % sc) sc t2 ts _ _ tab1' tab2' (ps ++ [(hi, Txt.mul lo (f / sc) ++ hi)]) (ep + 1) (by omega) (by omega) (by omega) (by omega) (by omega) TA.snoc T1' T2' ?_ (by rw [List.length_append, List.length_singleton, hlt]) rfl m2 m3 m4 m5
              rw [← hR]
              simp [pairsFrom, pairOf, hpar]
          · rw [List.size_toArray, List.length_map, sizeLine_eq]; omega
        · show _ ≤ sizeLine
          rw [sizeLine_eq]; omega
    · rename Fr _ _ _ _ => F2
      rename News _ _ _ _ => N2
      have hpar : ¬ i % 2 = 0 := by
        have e := Int.fmod_eq_emod_of_nonneg (0 + (i : Int)) (b := 2) (by decide)
        omega
      refine Hold.mk ?_
      by_cases hz : f = 0
      · have hq : runQ (k + 1) i f sc = ([], f, sc) := by
          simp only [runQ, if_neg hpar, if_pos hz]
        rw [hq] at hR
        refine intDivmod0 B F2 X N2 T rfl ?_ ?_ hz ?_
        · show dp + 1 + 100 < 900
          omega
        · show un + 3 + 900 < 9000
          omega
        intro g' e h' tk' FG R U
        dsimp only
        refine caught_SN0 R FG B U XB TB D KtsTurn.refl (by k_is) (ExcClass.boot excClass_ZeroDivisionError) (by decide) excClass_ZeroDivisionError.base hnotTuple zself ?_ (hE := PassesOwnAt.never)
        intro h3 g3 KT F3 N3 B3 X3 T3 D3
        walk_at "go"
        refine Hold.mk ?_
        dsimp only [UnrPost]
        refine fin g3 (fun y => if y = "turn" then some (Value.int (0 + (i : Int)) t) else m y) f sc tf ts tups tab1 tab2 ps ep h3 _ KT B3 TA T1 T2 ?_ m1 m2 m5 F3 (cb_drop N3 ?_)
        · simpa [pairsFrom] using hR
        · walk_at "sub"
      · have hq : runQ (k + 1) i f sc = (sc / f :: (runQ k (i + 1) f (sc % f)).1, (runQ k (i + 1) f (sc % f)).2) := by
          simp only [runQ, if_neg hpar, if_neg hz]
        rw [hq] at hR
        have b1 := Int.emod_nonneg sc hz
        have b2 := Int.emod_lt_of_pos sc (show 0 < f by omega)
        have b3 := Int.ediv_nonneg hs0 hf0
        have b4 := Int.ediv_le_self (b := f) (a := sc) hs0
        have b5 := mul_len hhi b3 (by omega)
        refine intDivmod B F2 X (cb_drop N2 hmemI) (C1.keeps B.stays) (C2.keeps B.stays) T rfl T1 T2 ap1 ap2 ?_ ?_ hs0 (by omega) (by omega) (by omega) ?_
        · show dp + 1 + 100 < 900
          omega
        · show un + 3 + 900 < 9000
          omega
        clear F2 N2
        intro D1 t1 t2 h1 tk1 tab1' tab2' T1' T2' F2 N2
        have N3 : News g L h1 ((D1, tup2 (.int (sc / f) t1) (.int (sc % f) t2)) :: (I, itR (0 + ((i + 1 : Nat) : Int)) ((12 : Nat) - ((i + 1 : Nat) : Int))) :: (lp, listOf (tups.map fun q => Value.ref q.1).toArray ep) :: (tups ++ (tab1' ++ (tab2' ++ rest)))) := cb_drop N2 (by
          intro q hq
          simp only [List.mem_append, List.mem_cons] at hq ⊢
          grind)
        clear N2
        dsimp only
        walk_at "go"
        · exact mulOk_of 16 1048576 (by omega) (by omega) (by omega) (by decide) (by decide)
        · rename_i tA nA tB nB DD hB F5 N5 lt5
          obtain ⟨_, _, bp3, bp4⟩ := run_apart N5 TA T1' T2' (.tail _ (.tail _ (.head _))) (.tail _ (.tail _ (.tail _ (.head _)))) (fun q hq => .tail _ (.tail _ (.tail _ (.tail _ (List.mem_append_left _ hq))))) (fun q hq => .tail _ (.tail _ (.tail _ (.tail _ (List.mem_append_right _ (List.mem_append_left _ hq)))))) (fun q hq => .tail _ (.tail _ (.tail _ (.tail _ (List.mem_append_right _ (List.mem_append_right _ (List.mem_append_left _ hq))))))) hr1 hr2 hr3 hr4
          refine Hold.mk ?_
          have N6 : News g L hB ((lp, listOf (tups.map fun q => Value.ref q.1).toArray ep) :: (DD, tup2 (.str lo tl) (.str (lo ++ Txt.mul hi (sc / f)) tB)) :: (I, itR (0 + ((i + 1 : Nat) : Int)) ((12 : Nat) - ((i + 1 : Nat) : Int))) :: (tups ++ (tab1' ++ (tab2' ++ rest)))) := cb_drop N5 (by walk_at "sub")
          refine append_K (its := (tups.map fun q => Value.ref q.1).toArray) (n := ep) F5 N6 (Upd.head ?_) ?_ ?_
          · exact List.forall_mem_cons.mpr ⟨Nat.ne_of_gt lt5.2.2.1, List.forall_mem_cons.mpr ⟨Nat.ne_of_gt hI, bp3⟩⟩
          · intro h7 F7 N7
            rw [List.push_toArray] at N7
            dsimp only
            walk_at "go"
            have emap : (tups ++ [(DD, tup2 (.str lo tl) (.str (lo ++ Txt.mul hi (sc / f)) tB))]).map (fun q => Value.ref q.1) = tups.map (fun q => Value.ref q.1) ++ [Value.ref DD] := by simp
            rw [← emap] at N7
            refine Hold.mk (UnrEnd.intro F7 N7 ((lp, listOf ((tups ++ [(DD, tup2 (.str lo tl) (.str (lo ++ Txt.mul hi (sc / f)) tB))]).map fun q => Value.ref q.1).toArray (ep + 1)) :: ((tups ++ [(DD, tup2 (.str lo tl) (.str (lo ++ Txt.mul hi (sc / f)) tB))]) ++ (tab1' ++ (tab2' ++ rest)))) ?_ ?_ ?_)
            · intro q hq
              simp only [List.mem_append, List.mem_cons] at hq ⊢
              grind
            · refine List.forall_mem_cons.mpr ⟨Nat.ne_of_lt hI, ?_⟩
              intro q hq
              rcases List.mem_append.mp hq with hq | hq
              · rcases List.mem_append.mp hq with hq | hq
                · exact bp4 q (List.mem_append_left _ hq)
                · rw [List.mem_singleton.mp hq]; exact Nat.ne_of_gt lt5.2.1
              · exact bp4 q (List.mem_append_right _ hq)
            · refine ih (i + 1) f (sc % f) tf t2 _ _ tab1' tab2' (ps ++ [(lo, lo ++ Txt.mul hi (sc / f))]) (ep + 1) (by omega) (by omega) (by omega) (by omega) (by omega) TA.snoc T1' T2' ?_ (by rw [List.length_append, List.length_singleton, hlt]) m1 rfl m3 m4 m5
              rw [← hR]
              simp [pairsFrom, pairOf, hpar]
          · rw [List.size_toArray, List.length_map, sizeLine_eq]; omega
        · show _ ≤ sizeLine
          rw [sizeLine_eq]; omega
end Pg
end
/-! PgRun -/
section
set_option maxRecDepth 100000
set_option maxHeartbeats 1000000
namespace Pg
abbrev tup3 (v1 v2 v3 : Value) : Obj := { cls := .type "tuple", data := .seq #[v1, v2, v3] }
local macro_rules | `(tactic| k_all) => `(tactic| first | assumption | exact all_ne_lt (by assumption) (by omega))
local macro_rules | `(tactic| walk_at "call ref") => `(tactic| refine Hold.out ?_)
local macro_rules | `(tactic| walk_at "pyIter ref") => `(tactic| refine Hold.out ?_)
local macro_rules | `(tactic| walk_at "LeaveS0") => `(tactic| refine Hold.out ?_)
local macro_rules | `(tactic| walk_at "eval Name") => `(tactic| (k_dflt (refine' ld ?k1 ?k2 ?_; (case k1 => k_asm); (case k2 => assumption); k_whole)))
local macro_rules | `(tactic| walk_at "go") => `(tactic| repeat' (first | (k_unfold; (try dsimp only)) | walk1 | (dsimp only; walk1)))
theorem lawRun {w : World} {p : Program} {loose : List Str} {mean : ExcName → Option Value} {mg mb : Str → Option Value} {dp un : Nat} {gd : Option (List Code)} {cn : Str} {cs : Scope} {a : Addr} {ccd : Value} {A₀ : Around} {base h₀ : Heap} {L : Addr} {m : Str → Option Value} {tab1 tab2 rest : List (Addr × Obj)} {s : Shared} {Q E : Value → Shared → Prop} {f sc : Int} {lo hi : Str} {tf ts tl th : Tok} (hlo : lo.length = 1) (hhi : hi.length = 1)
  (B : Below A₀ base [] h₀) (F : Fr h₀ L s.heap m) (X : (hd.heap_39 w.params).In h₀) (N : News h₀ L s.heap (tab1 ++ (tab2 ++ rest))) (T : Top p loose mean mg mb h₀) (XB : (hd.heap_39 w.params).In base) (TB : Top p loose mean mg mb base) (C1 : CodeHd base 41 37) (C2 : CodeHd base 48 44) (hk : cs.kind = .function) (hT1 : Tab37 tab1) (hT2 : Tab44 tab2) (hr1 : ∀ q ∈ rest, q.1 ≠ 37) (hr2 : ∀ q ∈ rest, q.1 ≠ 44)
  (hd1 : dp + 130 < 900) (hu : un + 1100 < 9000) (hf0 : 0 ≤ f) (hf1 : f < 100) (hs0 : 0 ≤ sc) (hs1 : sc < 100)
  (ret : ∀ D lp tups tab1' tab2' ep ps f' sc' t1 t2 h' tk', TupsAre tups ps → Tab37 tab1' → Tab44 tab2' → (ps, f', sc') = (pairsFrom lo hi 0 (runQ 12 0 f sc).1, (runQ 12 0 f sc).2) → Fr h₀ L h' m →
    News h₀ L h' ((D, tup3 (.ref lp) (.int f' t1) (.int sc' t2)) :: (lp, listOf (tups.map fun q => Value.ref q.1).toArray ep) :: (tups ++ (tab1' ++ (tab2' ++ rest)))) → Q (.ref D) { s with heap := h', toks := tk' }) :
  wpAny (model PySem.Challenge.rw_pg0118_01.row.prog w) (ktrTop dp un gd cn cs L a ccd [] []) (call (.ref 70) [.int f tf, .int sc ts, .str lo tl, .str hi th]) Q E s := by
  revert X
  k_fill
  intro X
  w_on
  w_top on
  refine wpAny_call ?_
  k_dflt (refine' code_defS0 ?k1 ?k2 ?k3 ?k4 ?k5 ?kA ?k6 ?k7 ?k8 ?k9 ?kB ?_ ?c1 ?c2 ?c3 ?c4 ?c5; (case kA => exact rfl); (case k1 => k_asm); (case k2 => k_asm); (case k3 => k_asm); (case k4 => k_asm); (case k5 => k_asm); (case k6 => k_is); (case k7 => k_is); (case k8 => show dp < 1000; omega); (case k9 => exact BindsTo.of_eq rfl); (case c5 => decide); (case kB => exact locs rfl); (case c1 => assumption); (case c2 => exact rfl); (case c3 => exact rfl); (case c4 => exact rfl); k_whole; intro g' L' h' FG' F' N' B' X' T' D')
  have F' : Fr g' L' h' (fun z => List.lookup z [("high", .str hi th), ("low", .str lo tl), ("second", .int sc ts), ("first", .int f tf)]) := F'
  refine wpAny_mono (E := fun _ _ => False) ?_ (fun _ _ h => h) (fun _ _ h => h.elim)
  (with_reducible show wpAny _ _ _ _ _ _)
  k_fold
  walk_at "go"
  rename_i lp _ ltp _ F0 N0 h2 tk2 _ _ _ hR F2 N2 _
  clear F0 N0
  refine Hold.mk (iter_rangeUnr (n := 12) rfl hR (by decide) (by decide) F2 N2 ?_)
  intro I ltI
  refine runLoop (dp := dp) (un := un) (gd := gd) (tl := tl) (th := th) (outer := [envX cn cs L a ccd []]) (rest := rest) (R0 := (pairsFrom lo hi 0 (runQ 12 0 f sc).1, (runQ 12 0 f sc).2)) hlo hhi ?_ X' T' XB TB C1 C2 D' (by omega) (by omega) hr1 hr2 (fun q hq => Nat.ne_of_lt (ltp q (List.mem_append_right _ (List.mem_append_right _ hq)))) (fun q hq => Nat.ne_of_lt (ltI q (.tail _ (List.mem_append_right _ (List.mem_append_right _ hq))))) (ltI _ (.head _)) ?_ 12 0 f sc tf ts _ [] tab1 tab2 [] 0 rfl hf0 hf1 hs0 hs1 .nil hT1 hT2 ?_ rfl ?_ ?_ ?_ ?_ ?_
  · exact B'
  rotate_left
  · rw [List.nil_append]
  · exact rfl
  · exact rfl
  · exact rfl
  · exact rfl
  · exact rfl
  clear F2 N2
  intro g3 m3 f3 sc3 tf3 ts3 tups tab1' tab2' ps ep h3 tk3 KT B3 TA T1' T2' hR0 n1 n2 n3 F3 N3
  dsimp only
  have X3 : (hd.heap_39 w.params).In g3 := XB.keeps B3.stays
  have T3 : Top p loose mean mg mb g3 := TB.keeps B3.stays
  clear B' X' T' D' N F B X T
  walk_at "go"
  rename Fr _ _ _ _ => F4
  rename News _ _ _ _ => N4
  refine Hold.mk (leaveS0_ F4 N4 KT (fun kF kN => ?_))
  exact ret _ lp tups tab1' tab2' ep ps f3 sc3 tf3 ts3 _ _ TA T1' T2' hR0 kF kN
end Pg
end
/-! PgRep -/
section
set_option maxRecDepth 100000
set_option maxHeartbeats 1000000
namespace Pg
def repP : { d : Parts // topAt 1 = some d } := ⟨_, rfl⟩
def repl : Str → List (Str × Str) → Str
  | x, [] => x
  | x, (a, b) :: r => repl (Txt.join b (Txt.split x a)) r
def Fits : Str → List (Str × Str) → Prop
  | _, [] => True
  | x, (a, b) :: r => x.length ≤ 1000 ∧ 1 ≤ a.length ∧ b.length ≤ 64 ∧ Fits (Txt.join b (Txt.split x a)) r
inductive FlatAre : List Value → List (Str × Str) → Prop
  | nil : FlatAre [] []
  | cons {a b : Str} {t u : Tok} {r : List Value} {ps : List (Str × Str)} : FlatAre r ps → FlatAre (.str a t :: .str b u :: r) ((a, b) :: ps)
abbrev tupOf (vs : List Value) : Obj := { cls := .type "tuple", data := .seq vs.toArray }
theorem split_many (x y : Str) : (Txt.split x y).length ≤ x.length + 2 := by
  unfold Txt.split
  split
  · simp
  · split
    · simp
    · have e1 := StrLaws.occ_length_le x y 0 x.length (x.length + 1)
      rw [length_partsBetween]
      omega
theorem sum_le_many : ∀ (l : List Str) (k : Nat), (∀ a ∈ l, a.length ≤ k) → (l.map (·.length)).sum ≤ l.length * k
  | [], _, _ => by simp
  | a :: l, k, h => by
    have h1 := h a (.head _)
    have h2 := sum_le_many l k fun b hb => h b (.tail _ hb)
    simp only [List.map_cons, List.sum_cons, List.length_cons, Nat.succ_mul]
    omega
local macro_rules | `(tactic| walk_at "truthy ref") => `(tactic| refine Hold.out ?_)
local macro_rules | `(tactic| walk_at "WhlIf") => `(tactic| refine Hold.out ?_)
local macro_rules | `(tactic| walk_at "WhlPost") => `(tactic| refine Hold.out ?_)
local macro_rules | `(tactic| walk_at "subscriptTail") => `(tactic| refine Hold.out ?_)
local macro_rules | `(tactic| walk_at "call builtin:str.split") => `(tactic| refine Hold.out ?_)
local macro_rules | `(tactic| walk_at "call builtin:str.join") => `(tactic| refine Hold.out ?_)
local macro_rules | `(tactic| walk_at "exec While") => `(tactic| refine Hold.out ?_)
local macro_rules | `(tactic| walk_at "call ref") => `(tactic| refine Hold.out ?_)
local macro_rules | `(tactic| walk_at "LeaveK") => `(tactic| refine Hold.out ?_)
local macro_rules | `(tactic| walk_at "eval Name") => `(tactic| (k_dflt (refine' ld ?k1 ?k2 ?_; (case k1 => k_asm); (case k2 => assumption); k_whole)))
local macro_rules | `(tactic| walk_at "go") => `(tactic| repeat' (first | (k_unfold; (try dsimp only)) | walk1 | (dsimp only; walk1)))
theorem rep_bind {K : Frag} {S : Setting} {v : Value} {vs : List Value} {dV kV doc pm cdv ct : Value} {an : Option Addr} (hd : dV = .none) (hk : kV = .none) (hsz : vs.length ≤ 1000) :
  peek1 K S (bindArgs (fnOf "replace" "replace" repP.1.args repP.1.body repP.1.scope dV kV doc pm an cdv ct) ⟨v :: vs, []⟩) = some (({ cls := .type "tuple", data := .seq vs.toArray } : Obj), fun D => some [(Str.ofString "text", v), (Str.ofString "pairs", .ref D)]) := by
  subst hd hk
  unfold bindArgs
  dsimp only [repP]
  simp only [List.map_nil, List.map_cons, List.nil_append, List.length_cons, List.length_nil, List.zip_cons_cons, List.zip_nil_left, forIn, List.forIn'_nil, Option.isNone, Bool.and_false]
  have e : ∀ t : Sem (List (Str × Value)), t = (newTuple vs >>= fun d => pure [(Str.ofString "text", v), (Str.ofString "pairs", d)]) → peek1 K S t = some (({ cls := .type "tuple", data := .seq vs.toArray } : Obj), fun D => some [(Str.ofString "text", v), (Str.ofString "pairs", .ref D)]) := by
    intro t ht
    rw [ht]
    unfold newTuple newObj
    dsimp only
    rw [if_neg (by rw [List.size_toArray, sizeLine_eq]; omega)]
    rfl
  refine e _ ?_
  with_unfolding_all rfl
theorem sub_all_tail {p : Addr × Obj} {l : List (Addr × Obj)} : ∀ q ∈ l, q ∈ p :: l := fun q hq => .tail _ hq
theorem seqAt {k n : Nat} (h : k < n) : seqIndex? (k : Int) n = some k := by
  unfold seqIndex?
  have h1 : ¬ ((k : Int) < 0) := by omega
  simp only [if_neg h1]
  rw [if_pos (by simp; omega)]
  simp
def whileParts : Stmt → Option (Expr × List Stmt × List Stmt)
  | .While test body orelse _ => some (test, body, orelse)
  | _ => none
def repW : { b : Expr × List Stmt × List Stmt // (topAt 1).bind (fun d => d.body[0]?.bind whileParts) = some b } := ⟨_, rfl⟩
theorem repLoop {w : World} {p : Program} {loose : List Str} {mean : ExcName → Option Value} {mg mb : Str → Option Value} {dp un : Nat} {gd : Option (List Code)} {outer : List Env} {A₀ : Around} {base g : Heap} {L : Addr} {news : List (Addr × Obj)} {Q : Flow → Shared → Prop} {s₀ : Shared} {R0 : Str}
  (B : Below A₀ base outer g) (X : (hd.heap_39 w.params).In g) (T : Top p loose mean mg mb g) (hd1 : dp + 20 < 900) (hu : un + 100 < 9000)
  (fin : ∀ m h tk t, m "text" = some (.str R0 t) → Fr g L h m → News g L h news → Q .next { s₀ with heap := h, toks := tk }) :
  ∀ (ps : List (Str × Str)) (vs : List Value) (D : Addr) (x : Str) (tx : Tok) (m : Str → Option Value) (h : Heap) (tk : Nat),
    FlatAre vs ps → Fits x ps → vs.length ≤ 1000 → repl x ps = R0 → m "text" = some (.str x tx) → m "pairs" = some (.ref D) → Fr g L h m → News g L h ((D, tupOf vs) :: news) →
    WhlRest PySem.Challenge.rw_pg0118_01.row.prog w (ktrTop dp un gd repP.1.name repP.1.scope L 21 (.ref 20) [] outer) (fun _ _ => False) (envOf repP.1.name repP.1.scope L 21 (.ref 20)) repW.1.1 repW.1.2.1 repW.1.2.2 Q 1 { s₀ with heap := h, toks := tk } := by
  intro ps
  induction ps with
  | nil =>
    intro vs D x tx m h tk FA hF hl hR m1 m2 F N
    cases FA
    refine whl_turn (fun _ _ h => h.elim) ?_
    dsimp only [repP, repW]
    revert X
    k_fill
    intro X
    w_on
    w_top on
    (with_reducible show wpAny _ _ _ _ _ _)
    walk_at "go"
    refine Hold.mk (ktl_truthyK N (.head _) hl ?_)
    refine WhlIf.no rfl ?_
    walk_at "go"
    exact fin m h _ tx (hR ▸ m1) F (cb_drop N sub_all_tail)
  | cons q ps ih =>
    intro vs D x tx m h tk FA hF hl hR m1 m2 F N
    cases FA with
    | @cons a b ta tb r _ FA =>
    obtain ⟨f1, f2, f3, f4⟩ := hF
    refine whl_turn (fun _ _ h => h.elim) ?_
    dsimp only [repP, repW]
    revert X
    k_fill
    intro X
    w_on
    w_top on
    (with_reducible show wpAny _ _ _ _ _ _)
    walk_at "go"
    refine Hold.mk (ktl_truthyK N (.head _) hl ?_)
    refine WhlIf.yes rfl ?_
    walk_at "go"
    refine Hold.mk (item_tupleL (l := Value.str a ta :: Value.str b tb :: r) (j := 1) (x := .str b tb) (News.isTup N (.head _)) (by decide) (by decide) (seqAt (by simp)) rfl ?_)
    walk_at "go"
    refine Hold.mk (item_tupleL (l := Value.str a ta :: Value.str b tb :: r) (j := 0) (x := .str a ta) (News.isTup N (.head _)) (by decide) (by decide) (seqAt (by simp)) rfl ?_)
    walk_at "go"
    have hl1 : x.length + 2 ≤ sizeLine := by rw [sizeLine_eq]; omega
    refine Hold.mk (splitN1A (hsz := hl1) F N (by simp; omega) ?_)
    intro l h2 k2 el SA short IL F2 N2
    walk_at "go"
    have cnt := split_many x a
    rw [← el] at cnt
    have tot := sum_le_many (l.map (·.1)) 1000 (fun c hc => Nat.le_trans (short c hc) f1)
    have hok : ((l.map (·.1)).map (·.length)).sum + (l.map (·.1)).length * 64 ≤ 16777216 := by
      have h1 : (l.map (·.1)).length * 1000 ≤ 1002 * 1000 := Nat.mul_le_mul_right _ (by omega)
      have h2 : (l.map (·.1)).length * 64 ≤ 1002 * 64 := Nat.mul_le_mul_right _ (by omega)
      omega
    refine Hold.mk (join_listC (ys := l.map (·.1)) IL SA f3 hok ?_)
    intro t3 k3
    rw [el]
    walk_at "go"
    rename Fr _ _ _ _ => F3
    rename News _ _ _ _ => N3
    have hl2 : (Value.str a ta :: Value.str b tb :: r).toArray.size ≤ sizeLine := by rw [List.size_toArray, sizeLine_eq]; omega
    refine Hold.mk (slice_tuple_from (hsz := hl2) (s := ⟨_, _, _, _, _⟩) (a := 2) (items := (Value.str a ta :: Value.str b tb :: r).toArray) F3 N3 (News.isTup N3 (.tail _ (.head _))) (by decide) (by rw [List.size_toArray]; simp) ?_)
    clear F3 N3
    intro h4 F4 N4
    walk_at "go"
    rename Fr _ _ _ _ => F5
    rename News _ _ _ _ => N5
    refine Hold.mk (ih r _ _ _ _ _ _ FA f4 ?_ hR rfl rfl F5 (cb_drop N5 ?_))
    · simp only [List.length_cons] at hl
      omega
    · refine sub_cons (.head _) ?_
      exact sub_tail (sub_tail (sub_tail sub_refl))
theorem repCall {w : World} {p : Program} {loose : List Str} {mean : ExcName → Option Value} {mg mb : Str → Option Value} {dp un : Nat} {gd : Option (List Code)} {cn : Str} {cs : Scope} {a : Addr} {ccd : Value} {cl : List (Str × Addr)} {outer : List Env} {A₀ : Around} {base h₀ : Heap} {L : Addr} {m : Str → Option Value} {news : List (Addr × Obj)} {s : Shared} {Q E : Value → Shared → Prop} {x : Str} {tx : Tok} {vs : List Value} {ps : List (Str × Str)}
  (B : Below A₀ base outer h₀) (F : Fr h₀ L s.heap m) (X : (hd.heap_39 w.params).In h₀) (N : News h₀ L s.heap news) (T : Top p loose mean mg mb h₀) (hk : cs.kind = .function) (hd1 : dp + 30 < 900) (hu : un + 150 < 9000)
  (FA : FlatAre vs ps) (hF : Fits x ps) (hl : vs.length ≤ 1000)
  (ret : ∀ t h' tk', Fr h₀ L h' m → News h₀ L h' news → Q (.str (repl x ps) t) { s with heap := h', toks := tk' }) :
  wpAny (model PySem.Challenge.rw_pg0118_01.row.prog w) (ktrTop dp un gd cn cs L a ccd cl outer) (call (.ref 21) (.str x tx :: vs)) Q E s := by
  revert X
  k_fill
  intro X
  w_on
  w_top on
  refine wpAny_call ?_
  k_dflt (refine' kp_rest (vs := vs) ?k1 ?k2 ?k3 ?k4 ?k5 ?kA ?kF ?kK ?k6 ?k7 ?k8 ?kV ?kP ?kG ?kB ?_ ?c2 ?c3 ?c4 ?c5; (case kA => exact rfl); (case kF => exact rfl); (case kK => assumption); (case k1 => k_asm); (case k2 => k_asm); (case k3 => k_asm); (case k4 => k_asm); (case k5 => k_asm); (case k6 => k_is); (case k7 => k_is); (case k8 => show dp < 1000; omega); (case kV => exact rfl); (case kP => exact rep_bind rfl rfl hl); (case kG => exact fun _ => rfl); (case kB => exact fun _ => locs rfl); (case c5 => decide); (case c2 => exact rfl); (case c3 => exact rfl); (case c4 => exact rfl); k_whole; intro D' g' L' h' l1 FG' F' N' B' X' T')
  have F' : Fr g' L' h' (fun z => List.lookup z [("pairs", .ref D'), ("text", .str x tx)]) := F'
  refine wpAny_mono (E := fun _ _ => False) ?_ (fun _ _ h => h) (fun _ _ h => h.elim)
  (with_reducible show wpAny _ _ _ _ _ _)
  walk_at "go"
  refine Hold.mk (whl_start 1 ?_)
  refine repLoop (dp := dp + 1) (un := un + 3) (outer := envX cn cs L a ccd cl :: outer) (R0 := repl x ps) (s₀ := s) B' X' T' (by omega) (by omega) ?_ ps vs D' x tx _ _ _ FA hF hl rfl rfl rfl F' N'
  intro m3 h3 tk3 t3 n1 F3 N3
  dsimp only
  walk_at "go"
  refine Hold.mk (leaveK_ F3 N3 (fun kF kN => ?_))
  exact ret t3 h3 _ kF kN
end Pg
end
/-! PgLin -/
section
set_option maxRecDepth 100000
set_option maxHeartbeats 1000000
namespace Pg
def LineAt (word lo hi : Str) (f sc : Int) (i : Nat) : Prop :=
  (0 + (i : Int)) * sc / (f + sc) = Txt.count (Txt.slice word none (some (0 + (i : Int)))) hi ∧
  (0 + (i : Int)) * sc % (f + sc) = (0 + (i : Int)) * sc - Txt.count (Txt.slice word none (some (0 + (i : Int)))) hi * (f + sc) ∧
  Txt.item word (0 + (i : Int)) = (if f ≤ (0 + (i : Int)) * sc - Txt.count (Txt.slice word none (some (0 + (i : Int)))) hi * (f + sc) then hi else lo)
def linP : { d : Parts // topAt 12 = some d } := ⟨_, rfl⟩
def linF : { b : List Stmt // (topAt 12).bind (fun d => d.body[2]?.bind forBody) = some b } := ⟨_, rfl⟩
local macro_rules | `(tactic| walk_at "call ref") => `(tactic| refine Hold.out ?_)
local macro_rules | `(tactic| walk_at "pyIter ref") => `(tactic| refine Hold.out ?_)
local macro_rules | `(tactic| walk_at "LeaveK") => `(tactic| refine Hold.out ?_)
local macro_rules | `(tactic| walk_at "UnrEnd") => `(tactic| refine Hold.out ?_)
local macro_rules | `(tactic| walk_at "UnrPost") => `(tactic| refine Hold.out ?_)
local macro_rules | `(tactic| walk_at "subscriptTail") => `(tactic| refine Hold.out ?_)
local macro_rules | `(tactic| walk_at "eval Name") => `(tactic| (k_dflt (refine' ld ?k1 ?k2 ?_; (case k1 => k_asm); (case k2 => assumption); k_whole)))
local macro_rules | `(tactic| walk_at "go") => `(tactic| repeat' (first | (k_unfold; (try dsimp only)) | walk1 | (dsimp only; walk1)))
theorem linLoop {w : World} {p : Program} {loose : List Str} {mean : ExcName → Option Value} {mg mb : Str → Option Value} {dp un : Nat} {gd : Option (List Code)} {outer : List Env} {A₀ : Around} {base g : Heap} {L I : Addr} {s : Shared} {Q : Flow → Shared → Prop} {word lo hi : Str} {f sc : Int} {tw tl th tf ts tz : Tok} {n : Nat} {rest : List (Addr × Obj)}
  (hr1 : ∀ q ∈ rest, q.1 ≠ 37) (hr2 : ∀ q ∈ rest, q.1 ≠ 44) (hr3 : ∀ q ∈ rest, q.1 ≠ I) (B : Below A₀ base outer g) (X : (hd.heap_39 w.params).In g) (T : Top p loose mean mg mb g) (C1 : CodeHd g 41 37) (C2 : CodeHd g 48 44)
  (hd1 : dp + 120 < 900) (hu : un + 1000 < 9000) (hf0 : 0 ≤ f) (hf1 : f < 100) (hs0 : 0 ≤ sc) (hs1 : sc < 100) (hn : (n : Int) = f + sc) (hw : word.length = n) (hline : ∀ i, i < n → LineAt word lo hi f sc i)
  (fin : ∀ m tab1 tab2 h' tk', Tab37 tab1 → Tab44 tab2 → Fr g L h' m → News g L h' (tab1 ++ (tab2 ++ rest)) → Q .next { s with heap := h', toks := tk' }) :
  ∀ (k i : Nat) (m : Str → Option Value) (tab1 tab2 : List (Addr × Obj)),
    k + i = n → Tab37 tab1 → Tab44 tab2 →
    m "first" = some (.int f tf) → m "second" = some (.int sc ts) → m "low" = some (.str lo tl) → m "high" = some (.str hi th) → m "word" = some (.str word tw) → m "size" = some (.int (f + sc) tz) →
    RangeRest PySem.Challenge.rw_pg0118_01.row.prog w (ktrTop dp un gd linP.1.name linP.1.scope L 77 (.ref 76) [] outer) (fun _ _ => False) g (envOf linP.1.name linP.1.scope L 77 (.ref 76)) "place" linF.1 Q s I 0 n k i m (tab1 ++ (tab2 ++ rest)) := by
  intro k
  induction k with
  | zero =>
    intro i m tab1 tab2 hki T1 T2 m1 m2 m3 m4 m5 m6
    exact RangeRest.zero (fun h tk F' N' => fin m tab1 tab2 h tk T1 T2 F' N')
  | succ k ih =>
    intro i m tab1 tab2 hki T1 T2 m1 m2 m3 m4 m5 m6
    refine RangeRest.succ (fun t h tk F' N' => ?_)
    dsimp only [linP, linF] at F' N' ⊢
    revert X
    k_fill
    intro X
    w_on
    w_top on
    (with_reducible show wpAny _ _ _ _ _ _)
    obtain ⟨q1, q2, q3⟩ := hline i (by omega)
    have hp1 : 0 ≤ (0 + (i : Int)) * sc := Int.mul_nonneg (by omega) hs0
    have hp2 : (0 + (i : Int)) * sc ≤ 200 * 100 := Int.mul_le_mul (by omega) (by omega) hs0 (by omega)
    have hmem : ∀ q ∈ tab1 ++ (tab2 ++ ((I, itR (0 + ((i + 1 : Nat) : Int)) ((n : Nat) - ((i + 1 : Nat) : Int))) :: rest)), q ∈ (I, itR (0 + ((i + 1 : Nat) : Int)) ((n : Nat) - ((i + 1 : Nat) : Int))) :: (tab1 ++ (tab2 ++ rest)) := by
      intro q hq
      simp only [List.mem_append, List.mem_cons] at hq ⊢
      grind
    obtain ⟨p1, k1⟩ := T1.mem
    obtain ⟨p2, k2⟩ := T2.mem
    have cls_ne : ∀ {a b : Addr} {o o' : Obj}, (a, o) ∈ (I, itR (0 + ((i + 1 : Nat) : Int)) ((n : Nat) - ((i + 1 : Nat) : Int))) :: (tab1 ++ (tab2 ++ rest)) → (b, o') ∈ (I, itR (0 + ((i + 1 : Nat) : Int)) ((n : Nat) - ((i + 1 : Nat) : Int))) :: (tab1 ++ (tab2 ++ rest)) → o.cls ≠ o'.cls → a ≠ b := fun {a b o o'} h1 h2 hc e => hc (by
      have z : o = o' := news_fun N' h1 h2 e
      rw [z])
    have i1 : I ≠ 37 := cls_ne (.head _) (.tail _ (List.mem_append_left _ k1)) (by intro e; cases e)
    have i2 : I ≠ 44 := cls_ne (.head _) (.tail _ (List.mem_append_right _ (List.mem_append_left _ k2))) (by intro e; cases e)
    walk_at "go"
    rename Fr _ _ _ _ => F2
    rename News _ _ _ _ => N2
    refine Hold.mk (intDivmod B F2 X (cb_drop N2 hmem) C1 C2 T rfl T1 T2 ?_ ?_ ?_ ?_ hp1 (by omega) (by omega) (by omega) ?_)
    · intro q hq; rcases List.mem_cons.mp hq with rfl | hq
      · exact i1
      · exact hr1 q hq
    · intro q hq; rcases List.mem_cons.mp hq with rfl | hq
      · exact i2
      · exact hr2 q hq
    · omega
    · omega
    clear F2 N2
    intro D1 t1 t2 h1 tk1 tab1' tab2' T1' T2' F2 N2
    rw [q1, q2] at N2
    dsimp only
    walk_at "go"
    · exfalso
      have hne : (Txt.item word (0 + (i : Int)) != hi) = true := by assumption
      rw [q3, if_pos (by assumption)] at hne
      simp at hne
    · rename Fr _ _ _ _ => F3
      rename News _ _ _ _ => N3
      refine Hold.mk (UnrEnd.intro F3 N3 (tab1' ++ (tab2' ++ rest)) ?_ ?_ ?_)
      · intro q hq
        simp only [List.mem_append, List.mem_cons] at hq ⊢
        grind
      · have sI : (I, itR (0 + ((i + 1 : Nat) : Int)) ((n : Nat) - ((i + 1 : Nat) : Int))) ∈ tab1' ++ (tab2' ++ ((I, itR (0 + ((i + 1 : Nat) : Int)) ((n : Nat) - ((i + 1 : Nat) : Int))) :: rest)) := List.mem_append_right _ (List.mem_append_right _ (.head _))
        intro q hq
        rcases List.mem_append.mp hq with hq | hq
        · exact T1'.offD N3 (fun r hr => .tail _ (.tail _ (List.mem_append_left _ hr))) (.tail _ (.tail _ sI)) (by intro e; cases e) (itR_one _ _) q hq
        · rcases List.mem_append.mp hq with hq | hq
          · exact T2'.offD N3 (fun r hr => .tail _ (.tail _ (List.mem_append_right _ (List.mem_append_left _ hr)))) (.tail _ (.tail _ sI)) (by intro e; cases e) (itR_one _ _) q hq
          · exact hr3 q hq
      · exact ih (i + 1) _ tab1' tab2' (by omega) T1' T2' m1 m2 m3 m4 m5 m6
    · exfalso
      have hne : (Txt.item word (0 + (i : Int)) != lo) = true := by assumption
      rw [q3, if_neg (by assumption)] at hne
      simp at hne
    · rename Fr _ _ _ _ => F3
      rename News _ _ _ _ => N3
      refine Hold.mk (UnrEnd.intro F3 N3 (tab1' ++ (tab2' ++ rest)) ?_ ?_ ?_)
      · intro q hq
        simp only [List.mem_append, List.mem_cons] at hq ⊢
        grind
      · have sI : (I, itR (0 + ((i + 1 : Nat) : Int)) ((n : Nat) - ((i + 1 : Nat) : Int))) ∈ tab1' ++ (tab2' ++ ((I, itR (0 + ((i + 1 : Nat) : Int)) ((n : Nat) - ((i + 1 : Nat) : Int))) :: rest)) := List.mem_append_right _ (List.mem_append_right _ (.head _))
        intro q hq
        rcases List.mem_append.mp hq with hq | hq
        · exact T1'.offD N3 (fun r hr => .tail _ (.tail _ (List.mem_append_left _ hr))) (.tail _ (.tail _ sI)) (by intro e; cases e) (itR_one _ _) q hq
        · rcases List.mem_append.mp hq with hq | hq
          · exact T2'.offD N3 (fun r hr => .tail _ (.tail _ (List.mem_append_right _ (List.mem_append_left _ hr)))) (.tail _ (.tail _ sI)) (by intro e; cases e) (itR_one _ _) q hq
          · exact hr3 q hq
      · exact ih (i + 1) _ tab1' tab2' (by omega) T1' T2' m1 m2 m3 m4 m5 m6
theorem size_of {n : Int} (h0 : 0 ≤ n) : Builtin.Range.rangeSize 0 n 1 = n := by
  unfold Builtin.Range.rangeSize
  rw [if_pos (by decide)]
  split <;> omega
theorem small_of {n : Int} (h0 : 0 ≤ n) (h1 : n < 1000) : Builtin.Range.small 0 n 1 = true := by
  unfold Builtin.Range.small
  rw [size_of h0]
  have e : ∀ x : Int, 0 ≤ x → x < 2000 → Builtin.Range.rangeFitsLong x = true := by
    intro x a b
    unfold Builtin.Range.rangeFitsLong
    simp
    omega
  rw [e 0 (by decide) (by decide), e n h0 (by omega), e 1 (by decide) (by decide), if_pos (by decide), e (n + (1 - 1)) (by omega) (by omega)]
  simp
theorem lawLine {w : World} {p : Program} {loose : List Str} {mean : ExcName → Option Value} {mg mb : Str → Option Value} {dp un : Nat} {gd : Option (List Code)} {cn : Str} {cs : Scope} {a : Addr} {ccd : Value} {cl : List (Str × Addr)} {outer : List Env} {A₀ : Around} {base h₀ : Heap} {L : Addr} {m : Str → Option Value} {tab1 tab2 rest : List (Addr × Obj)} {s : Shared} {Q E : Value → Shared → Prop} {word lo hi : Str} {f sc : Int} {tw tl th tf ts : Tok}
  (B : Below A₀ base outer h₀) (F : Fr h₀ L s.heap m) (X : (hd.heap_39 w.params).In h₀) (N : News h₀ L s.heap (tab1 ++ (tab2 ++ rest))) (C1 : CodeHd h₀ 41 37) (C2 : CodeHd h₀ 48 44) (T : Top p loose mean mg mb h₀) (hk : cs.kind = .function) (hT1 : Tab37 tab1) (hT2 : Tab44 tab2) (hr1 : ∀ q ∈ rest, q.1 ≠ 37) (hr2 : ∀ q ∈ rest, q.1 ≠ 44)
  (hd1 : dp + 130 < 900) (hu : un + 1100 < 9000) (hf0 : 0 ≤ f) (hf1 : f < 100) (hs0 : 0 ≤ sc) (hs1 : sc < 100) (hw : (word.length : Int) = f + sc) (hline : ∀ i, i < word.length → LineAt word lo hi f sc i)
  (ret : ∀ tab1' tab2' h' tk', Tab37 tab1' → Tab44 tab2' → Fr h₀ L h' m → News h₀ L h' (tab1' ++ (tab2' ++ rest)) → Q (.bool true) { s with heap := h', toks := tk' }) :
  wpAny (model PySem.Challenge.rw_pg0118_01.row.prog w) (ktrTop dp un gd cn cs L a ccd cl outer) (call (.ref 77) [.str word tw, .int f tf, .int sc ts, .str lo tl, .str hi th]) Q E s := by
  revert X
  k_fill
  intro X
  w_on
  w_top on
  refine wpAny_call ?_
  k_dflt (refine' code_def ?k1 ?k2 ?k3 ?k4 ?k5 ?kA ?kF ?kK ?k6 ?k7 ?k8 ?k9 ?kB ?_ ?c2 ?c3 ?c4 ?c5; (case kA => exact rfl); (case kF => exact rfl); (case kK => assumption); (case k1 => k_asm); (case k2 => k_asm); (case k3 => k_asm); (case k4 => k_asm); (case k5 => k_asm); (case k6 => k_is); (case k7 => k_is); (case k8 => show dp < 1000; omega); (case k9 => exact BindsTo.of_eq rfl); (case c5 => decide); (case kB => exact locs rfl); (case c2 => exact rfl); (case c3 => exact rfl); (case c4 => exact rfl); k_whole; intro g' L' h' FG' F' N' B' X' T')
  have F' : Fr g' L' h' (fun z => List.lookup z [("high", .str hi th), ("low", .str lo tl), ("second", .int sc ts), ("first", .int f tf), ("word", .str word tw)]) := F'
  have C1' := CodeHd.keeps C1 FG'.keep
  have C2' := CodeHd.keeps C2 FG'.keep
  refine wpAny_mono (E := fun _ _ => False) ?_ (fun _ _ h => h) (fun _ _ h => h.elim)
  (with_reducible show wpAny _ _ _ _ _ _)
  k_fold
  walk_at "go"
  · exfalso; omega
  rename_i F0 N0 hlen h2 tk2 _ _ _ hR F2 N2 _
  clear F0 N0
  refine Hold.mk (iter_rangeUnr (n := word.length) rfl hR ?_ ?_ F2 N2 ?_)
  · exact small_of (by omega) (by omega)
  · rw [size_of (by omega)]; omega
  intro I ltI
  refine' linLoop (tz := ?tz) (dp := dp + 1) (un := un + 3) (gd := gd) (outer := envX cn cs L a ccd cl :: outer) (tl := tl) (th := th) (tw := tw) (tf := tf) (ts := ts) (f := f) (sc := sc) (word := word) (lo := lo) (hi := hi) (rest := rest) hr1 hr2 (fun q hq => Nat.ne_of_lt (ltI q (List.mem_append_right _ (List.mem_append_right _ hq)))) B' X' T' C1' C2' (by omega) (by omega) hf0 hf1 hs0 hs1 hw rfl hline ?fin word.length 0 _ tab1 tab2 rfl hT1 hT2 ?e1 ?e2 ?e3 ?e4 ?e5 ?e6
  case e1 => exact rfl
  case e2 => exact rfl
  case e3 => exact rfl
  case e4 => exact rfl
  case e5 => exact rfl
  case e6 => exact rfl
  clear F2 N2
  intro m3 tab1' tab2' h3 tk3 T1' T2' F3 N3
  dsimp only
  walk_at "go"
  rename Fr _ _ _ _ => F4
  rename News _ _ _ _ => N4
  refine Hold.mk (leaveK_ F4 N4 (fun kF kN => ?_))
  exact ret tab1' tab2' _ _ T1' T2' kF kN
end Pg
end
/-! PgComp -/
section
set_option maxRecDepth 100000
set_option maxHeartbeats 1000000
namespace Pg
abbrev comp2 (elt iter0 iter1 : Expr) (x y : Str) (px py : Pos) (scope : Scope) (pos : Pos) : Expr := .ListComp elt [⟨.Name x px, iter0, [], 0⟩, ⟨.Name y py, iter1, [], 0⟩] scope pos
theorem compTurn_in (elt iter0 iter1 : Expr) (x y : Str) (px py : Pos) (scope : Scope) (pos : Pos) (it acc : Value) (env : Env) :
    compTurn (comp2 elt iter0 iter1 x y px py scope pos) 1 it acc env = (standAt iter1.pos >>= fun _ => pyNext it >>= fun r => match r with
      | none => pure (.done .next)
      | some v => letOwnedTupleGo (.Name y py) it v >>= fun _ => assign (.Name y py) env v >>= fun _ =>
        (eval elt env >>= fun x => call (.builtin "list.append") [acc, x] >>= fun _ => pure ()) >>= fun _ =>
          again (.compLoop (comp2 elt iter0 iter1 x y px py scope pos) 1 it acc env)) := by rfl
theorem compTurn_out (elt iter0 iter1 : Expr) (x y : Str) (px py : Pos) (scope : Scope) (pos : Pos) (it acc : Value) (env : Env) :
    compTurn (comp2 elt iter0 iter1 x y px py scope pos) 0 it acc env = (standAt iter0.pos >>= fun _ => pyNext it >>= fun r => match r with
      | none => pure (.done .next)
      | some v => letOwnedTupleGo (.Name x px) it v >>= fun _ => assign (.Name x px) env v >>= fun _ =>
        eval iter1 env >>= fun z => standAt iter1.pos >>= fun _ => foldedSetIterable iter1 env z >>= fun z => holding [z] (pyIter z) >>= fun j =>
          runOwn (.compStart (comp2 elt iter0 iter1 x y px py scope pos) 1 j acc env) env >>= fun _ =>
          again (.compLoop (comp2 elt iter0 iter1 x y px py scope pos) 0 it acc env)) := by rfl
section
variable {prog : Program} {w : World} {A : Around} {R : Result → Shared → Prop} {s : Shared} {elt iter0 iter1 : Expr} {x y : Str} {px py pe : Pos} {scope : Scope} {pos : Pos} {cenv : Env}
theorem compStart_in {it acc : Value}
    (h0 : codeAny (model prog w) A (.compLoop (comp2 elt iter0 iter1 x y px py scope pos) 1 it acc cenv) R s)
    (h : wpAny (model prog w) A (pyIter it) (fun it' s' => codeAny (model prog w) A (.compLoop (comp2 elt iter0 iter1 x y px py scope pos) 1 it' acc cenv) R s')
      (notedBy (model prog w) A cenv fun x s' => R (.error x) s') s) :
    codeAny (model prog w) A (.compStart (comp2 elt iter0 iter1 x y px py scope pos) 1 it acc cenv) R s := by
  refine codeAny_of_tree ?_
  show wpAny _ _ ((compStart (comp2 elt iter0 iter1 x y px py scope pos) 1 it acc cenv).onRaise (fun x => do noteFrame x cenv; standAt theWindowsPlace)) _ _ s
  refine wpAny_notedAt ?_
  unfold compStart
  show wpAny _ _ (ask >>= _) _ _ s
  refine wpAny_bind (wpAny_askSetting (wpAny_ite ?_))
  split
  · first
      | exact wpAny_bind (wpAny_pure (wpAny_pure (And.intro rfl h0)))
      | exact wpAny_pure (And.intro rfl h0)
  · first
      | exact wpAny_bind (wpAny_rule (wpAny_bind (wpAny_standAt (wpAny_bind (wpAny_mono h (fun it' s' h' => wpAny_pure (And.intro rfl h')) fun _ _ x => x)))))
      | (refine wpAny_bind (wpAny_rule ?_); show wpAny _ _ (standAt iter1.pos >>= _) _ _ s; exact wpAny_bind (wpAny_standAt (wpAny_bind (wpAny_mono h (fun it' s' h' => wpAny_pure (And.intro rfl h')) fun _ _ x => x))))
theorem take_more {α : Type} {l : List α} {i : Nat} {v : α} (h : l[i]? = some v) : l.take (i + 1) = l.take i ++ [v] := by
  rw [List.take_add_one, h]; rfl
theorem comp_inner {I t D : Addr} {items ys : List Value} {m : Str → Option Value} (hh : A.handled = none)
    (hy : cenv.kindOf y = some .local) (hk : cenv.scope.kind = .function) (hdbg : (y == ("__debug__" : Str)) = false)
    (hID : I ≠ D) (hIC : I ≠ cenv.locals) (hIt : t ≠ I) (hDC : D ≠ cenv.locals) (htD : t ≠ D) (htC : t ≠ cenv.locals)
    (hit : s.heap.IsTupleIter I t 0) (ht : s.heap.IsTuple t items.toArray) (hD : s.heap.PlainList D ys.toArray) (hn : s.heap.Ns cenv.locals m) (hsz : ys.length + items.length ≤ sizeLine)
    (hR : ∀ h' tk m', h'.PlainList D (ys ++ items).toArray → h'.Ns cenv.locals m' → (∀ b o, b ≠ I → b ≠ D → b ≠ cenv.locals → s.heap.get? b = some o → h'.get? b = some o) → R (.ok .next) { s with heap := h', toks := tk }) :
    codeAny (model prog w) A (.compLoop (comp2 (.Name y pe) iter0 iter1 x y px py scope pos) 1 (.ref I) (.ref D) cenv) R s := by
  refine codeAny_loop rfl
    (fun k s' => ∃ h' tk i m', s' = { s with heap := h', toks := tk } ∧ i ≤ items.length ∧ k = items.length + 1 - i ∧ h'.IsTupleIter I t i ∧ h'.IsTuple t items.toArray ∧ h'.PlainList D (ys ++ items.take i).toArray ∧ h'.Ns cenv.locals m' ∧
      (∀ b o, b ≠ I → b ≠ D → b ≠ cenv.locals → s.heap.get? b = some o → h'.get? b = some o)) ?_ (items.length + 1)
    ⟨s.heap, s.toks, 0, m, rfl, Nat.zero_le _, rfl, hit, ht, by rw [List.take_zero, List.append_nil]; exact hD, hn, fun _ _ _ _ _ e => e⟩
  rintro k s' ⟨h', tk, i, m', rfl, hi, rfl, hit', ht', hD', hn', kp⟩
  show wpAny _ A ((compTurn (comp2 (.Name y pe) iter0 iter1 x y px py scope pos) 1 (.ref I) (.ref D) cenv).onRaise (fun x => do noteFrame x cenv; theTreesLotGoes x)) _ _ _
  refine wpAny_noted ?_
  rw [compTurn_in]
  refine wpAny_bind (wpAny_standAt (wpAny_bind ?_))
  by_cases hlt : i < items.length
  · obtain ⟨v, hv⟩ : ∃ v, items[i]? = some v := ⟨items[i], by simp [hlt]⟩
    have hv' : items.toArray[i]? = some v := by simpa using hv
    refine wpAny_pyNext_tuple_item hit' ht' hv' fun h₁ hit₁ hs₁ => ?_
    refine wpAny_bind (wpAny_pure (wpAny_bind ?_))
    refine wpAny_assign_Name (wpAny_storeName_local hy (hn'.at' fun o e => hs₁.extBut _ o (Ne.symm hIC) e) (fun h₂ hn₂ hs₂ => ?_) (by rw [hk]; rfl))
    refine wpAny_bind (wpAny_bind (wpAny_Name (wpAny_loadName_local hk hy hn₂ (v := v) (by simp) ?_) hdbg))
    refine wpAny_bind (wpAny_list_append_plain ((hD'.extBut hs₁.extBut (Ne.symm hID)).extBut hs₂.extBut hDC) (fun h₃ hp₃ hs₃ => ?_) ?_)
    · refine wpAny_pure (wpAny_pure ⟨rfl, items.length + 1 - (i + 1), by omega, h₃, _, i + 1, _, rfl, hlt, rfl, ?_, ?_, ?_, hn₂.sameBut hs₃ (Ne.symm hDC), ?_⟩)
      · exact (hit₁.extBut hs₂.extBut hIC).extBut hs₃.extBut hID
      · exact ((ht'.extBut hs₁.extBut hIt).extBut hs₂.extBut htC).extBut hs₃.extBut htD
      · rw [take_more hv, ← List.append_assoc, ← List.push_toArray]; exact hp₃
      · intro b o b1 b2 b3 e
        exact hs₃.extBut b o b2 (hs₂.extBut b o b3 (hs₁.extBut b o b1 (kp b o b1 b2 b3 e)))
    · rw [List.size_toArray, List.length_append, List.length_take]; omega
  · have hi' : i = items.length := by omega
    subst hi'
    refine wpAny_pyNext_tuple_end hh hit' ht' (by simp) fun h₁ he₁ => ?_
    refine wpAny_pure (hR h₁ _ m' ?_ (hn'.at' fun o e => he₁ _ o (Ne.symm hIC) e) ?_)
    · rw [List.take_length] at hD'
      exact hD'.extBut he₁ (Ne.symm hID)
    · intro b o b1 b2 b3 e
      exact he₁ b o b1 (kp b o b1 b2 b3 e)
end
end Pg
end
/-! PgComp2 -/
section
set_option maxRecDepth 100000
set_option maxHeartbeats 1000000
namespace Pg
section
variable {prog : Program} {w : World} {A : Around} {R : Result → Shared → Prop} {s : Shared} {elt iter0 iter1 : Expr} {x y : Str} {px py pe : Pos} {scope : Scope} {pos : Pos} {cenv : Env}
theorem tup_ne_list {h : Heap} {t D : Addr} {xs ys : Array Value} (ht : h.IsTuple t xs) (hD : h.PlainList D ys) : t ≠ D := by
  rintro rfl
  obtain ⟨o, ho, hc, _⟩ := ht
  obtain ⟨n, e⟩ := hD
  rw [ho] at e
  cases e
  exact absurd hc (by simp)
theorem tup_ne_ns {h : Heap} {t C : Addr} {xs : Array Value} {m : Str → Option Value} (ht : h.IsTuple t xs) (hn : h.Ns C m) : t ≠ C := by
  rintro rfl
  obtain ⟨o, ho, hc, n, hd⟩ := ht
  obtain ⟨o', es, ep, ho', hd', _⟩ := hn
  rw [ho] at ho'
  cases ho'
  rw [hd] at hd'
  cases hd'
theorem comp_outer {I S D : Addr} {items ys : List Value} {m : Str → Option Value} {parts : List (List Value)} (hh : A.handled = none)
    (hx : cenv.kindOf x = some .local) (hy : cenv.kindOf y = some .local) (hk : cenv.scope.kind = .function) (hdbg : (y == ("__debug__" : Str)) = false)
    (hID : I ≠ D) (hIC : I ≠ cenv.locals) (hSI : S ≠ I) (hDC : D ≠ cenv.locals) (hSD : S ≠ D) (hSC : S ≠ cenv.locals)
    (hfs : ∀ v, foldedSetIterable iter1 cenv v = pure v)
    (hit : s.heap.IsListIter I S 0) (hS : s.heap.IsList S items.toArray) (hD : s.heap.PlainList D ys.toArray) (hn : s.heap.Ns cenv.locals m) (hsz : ys.length + parts.flatten.length ≤ sizeLine) (hlen : parts.length = items.length)
    (hiter : ∀ (i : Nat) (v : Value) (ps : List Value) (h' : Heap) (tk : Nat) (m' : Str → Option Value) (E' : Value → Shared → Prop), items[i]? = some v → parts[i]? = some ps → h'.Ns cenv.locals m' → m' x = some v → (∀ b o, b ≠ I → b ≠ D → b ≠ cenv.locals → s.heap.get? b = some o → h'.get? b = some o) →
      wpAny (model prog w) (A.under (.compLoop (comp2 (.Name y pe) iter0 iter1 x y px py scope pos) 0 (.ref I) (.ref D) cenv)) (eval iter1 cenv) (fun z s' => ∃ t h'' tk'', z = .ref t ∧ s' = { s with heap := h'', toks := tk'' } ∧ h''.IsTuple t ps.toArray ∧ (∀ b o, h'.get? b = some o → h''.get? b = some o)) E' { s with heap := h', toks := tk })
    (hR : ∀ h' tk m', h'.PlainList D (ys ++ parts.flatten).toArray → h'.Ns cenv.locals m' → (∀ b o, b ≠ I → b ≠ D → b ≠ cenv.locals → s.heap.get? b = some o → h'.get? b = some o) → R (.ok .next) { s with heap := h', toks := tk }) :
    codeAny (model prog w) A (.compLoop (comp2 (.Name y pe) iter0 iter1 x y px py scope pos) 0 (.ref I) (.ref D) cenv) R s := by
  refine codeAny_loop rfl
    (fun k s' => ∃ h' tk i m', s' = { s with heap := h', toks := tk } ∧ i ≤ items.length ∧ k = items.length + 1 - i ∧ h'.IsListIter I S i ∧ h'.IsList S items.toArray ∧ h'.PlainList D (ys ++ (parts.take i).flatten).toArray ∧ h'.Ns cenv.locals m' ∧
      (∀ b o, b ≠ I → b ≠ D → b ≠ cenv.locals → s.heap.get? b = some o → h'.get? b = some o)) ?_ (items.length + 1)
    ⟨s.heap, s.toks, 0, m, rfl, Nat.zero_le _, rfl, hit, hS, by rw [List.take_zero, List.flatten_nil, List.append_nil]; exact hD, hn, fun _ _ _ _ _ e => e⟩
  rintro k s' ⟨h', tk, i, m', rfl, hi, rfl, hit', hS', hD', hn', kp⟩
  show wpAny _ (A.under _) ((compTurn (comp2 (.Name y pe) iter0 iter1 x y px py scope pos) 0 (.ref I) (.ref D) cenv).onRaise (fun x => do noteFrame x cenv; theTreesLotGoes x)) _ _ _
  refine wpAny_noted ?_
  rw [compTurn_out]
  refine wpAny_bind (wpAny_standAt (wpAny_bind ?_))
  by_cases hlt : i < items.length
  · obtain ⟨v, hv⟩ : ∃ v, items[i]? = some v := ⟨items[i], by simp [hlt]⟩
    obtain ⟨ps, hps⟩ : ∃ ps, parts[i]? = some ps := ⟨parts[i]'(by omega), by simp [hlen, hlt]⟩
    have hv' : items.toArray[i]? = some v := by simpa using hv
    refine wpAny_pyNext_list_item hit' hS' hv' fun h₁ hit₁ hs₁ => ?_
    refine wpAny_bind (wpAny_pure (wpAny_bind ?_))
    refine wpAny_assign_Name (wpAny_storeName_local hx (hn'.at' fun o e => hs₁.extBut _ o (Ne.symm hIC) e) (fun h₂ hn₂ hs₂ => ?_) (by rw [hk]; rfl))
    have kp₂ : ∀ b o, b ≠ I → b ≠ D → b ≠ cenv.locals → s.heap.get? b = some o → h₂.get? b = some o := fun b o b1 b2 b3 e => hs₂.extBut b o b3 (hs₁.extBut b o b1 (kp b o b1 b2 b3 e))
    have hD₂ : h₂.PlainList D (ys ++ (parts.take i).flatten).toArray := (hD'.extBut hs₁.extBut (Ne.symm hID)).extBut hs₂.extBut hDC
    have hS₂ : h₂.IsList S items.toArray := (hS'.extBut hs₁.extBut hSI).extBut hs₂.extBut hSC
    have hI₂ : h₂.IsListIter I S (i + 1) := hit₁.extBut hs₂.extBut hIC
    refine wpAny_bind (wpAny_mono (hiter i v ps h₂ _ _ _ hv hps hn₂ (by simp) kp₂) (fun z s' hz => ?_) fun _ _ e => e)
    obtain ⟨t, h₃, tk₃, rfl, rfl, ht₃, up₃⟩ := hz
    have hn₃ := hn₂.at' (fun o e => up₃ _ o e)
    have hD₃ := hD₂.at (fun o e => up₃ _ o e)
    refine wpAny_bind (wpAny_standAt (wpAny_bind (wpAny_of_eq (hfs _) (wpAny_bind (wpAny_holding ?_)))))
    refine wpAny_pyIter_tuple ht₃ ?_
    have fr : ∀ {b o}, h₃.get? b = some o → b ≠ h₃.objs.size := fun e => Nat.ne_of_lt (Heap.lt_size e)
    have up₄ : ∀ b o, h₃.get? b = some o → (h₃.push { cls := .type "tuple_iterator", data := .fields #[.ref t, .int 0 0] }).get? b = some o := fun b o e => Heap.get?_push_of_some _ e
    have hCJ : cenv.locals ≠ h₃.objs.size := Nat.ne_of_lt hn₃.lt
    have hDJ : D ≠ h₃.objs.size := by obtain ⟨_, e⟩ := hD₃; exact fr e
    have htJ : t ≠ h₃.objs.size := by obtain ⟨_, e, _⟩ := id ht₃; exact fr e
    have hIJ : I ≠ h₃.objs.size := by obtain ⟨_, e, _⟩ := id hI₂; exact fr (up₃ _ _ e)
    have hSJ : S ≠ h₃.objs.size := by obtain ⟨_, e, _⟩ := id hS₂; exact fr (up₃ _ _ e)
    have hcat : (parts.take (i + 1)).flatten = (parts.take i).flatten ++ ps := by
      rw [take_more hps, List.flatten_append, List.flatten_cons, List.flatten_nil, List.append_nil]
    have hle : (parts.take (i + 1)).flatten.length ≤ parts.flatten.length := by
      have : parts.flatten = (parts.take (i + 1)).flatten ++ (parts.drop (i + 1)).flatten := by rw [← List.flatten_append, List.take_append_drop]
      rw [this, List.length_append]; omega
    have hinner : ∀ s₅ : Shared, s₅ = { s with heap := h₃.push { cls := .type "tuple_iterator", data := .fields #[.ref t, .int 0 0] }, toks := tk₃ } →
        codeAny (model prog w) ((A.under (.compLoop (comp2 (.Name y pe) iter0 iter1 x y px py scope pos) 0 (.ref I) (.ref D) cenv)).mark none) (.compLoop (comp2 (.Name y pe) iter0 iter1 x y px py scope pos) 1 (.ref h₃.objs.size) (.ref D) cenv)
          (fun r s' => match r with
            | .ok _ => ∃ h' tk m', s' = { s with heap := h', toks := tk } ∧ h'.PlainList D (ys ++ (parts.take (i + 1)).flatten).toArray ∧ h'.Ns cenv.locals m' ∧ (∀ b o, b ≠ h₃.objs.size → b ≠ D → b ≠ cenv.locals → s₅.heap.get? b = some o → h'.get? b = some o)
            | .error _ => False) s₅ := by
      rintro s₅ rfl
      refine comp_inner (ys := ys ++ (parts.take i).flatten) (items := ps) (t := t) (m := _) hh hy hk hdbg (Ne.symm hDJ) (Ne.symm hCJ) htJ hDC (tup_ne_list ht₃ hD₃) (tup_ne_ns ht₃ hn₃) ⟨_, Heap.get?_push_size _ rfl, rfl, rfl⟩ (ht₃.push _) (hD₃.at fun o e => up₄ _ o e) (hn₃.at' fun o e => up₄ _ o e) ?_ ?_
      · rw [List.length_append, Nat.add_assoc, ← List.length_append, ← hcat]; omega
      · intro h' tk m' a b c
        refine ⟨h', tk, m', rfl, ?_, b, c⟩
        rw [hcat, ← List.append_assoc]; exact a
    refine wpAny_bind (wpAny_runOwn (codeAny_mono (compStart_in (hinner _ rfl) (wpAny_pyIter_tupleiter ⟨_, Heap.get?_push_size _ rfl, rfl, rfl⟩ (hinner _ rfl))) (fun r s' hr => ?_)))
    cases r with
    | error e => exact hr.elim
    | ok f =>
      obtain ⟨h₆, tk₆, m₆, rfl, hD₆, hn₆, kp₆⟩ := hr
      refine wpAny_pure ⟨rfl, items.length + 1 - (i + 1), by omega, h₆, tk₆, i + 1, m₆, rfl, hlt, rfl, ?_, ?_, hD₆, hn₆, ?_⟩
      · obtain ⟨o, e, r⟩ := hI₂
        exact ⟨o, kp₆ _ _ hIJ hID hIC (up₄ _ _ (up₃ _ _ e)), r⟩
      · obtain ⟨o, e, r⟩ := hS₂
        exact ⟨o, kp₆ _ _ hSJ hSD hSC (up₄ _ _ (up₃ _ _ e)), r⟩
      · intro b o b1 b2 b3 e
        have e₃ := up₃ b o (kp₂ b o b1 b2 b3 e)
        exact kp₆ b o (fr e₃) b2 b3 (up₄ b o e₃)
  · have hi' : i = items.length := by omega
    subst hi'
    refine wpAny_pyNext_list_end hh hit' hS' (by simp) fun h₁ he₁ => ?_
    refine wpAny_pure (hR h₁ _ m' ?_ (hn'.at' fun o e => he₁ _ o (Ne.symm hIC) e) ?_)
    · rw [← hlen, List.take_length] at hD'
      exact hD'.extBut he₁ (Ne.symm hID)
    · intro b o b1 b2 b3 e
      exact he₁ b o b1 (kp b o b1 b2 b3 e)
end
end Pg
end
/-! PgComp3 -/
section
set_option maxRecDepth 100000
set_option maxHeartbeats 1000000
namespace Pg
section
variable {prog : Program} {w : World} {A : Around} {E : Value → Shared → Prop} {s : Shared} {iter0 iter1 : Expr} {x y z : Str} {px py pz pe : Pos} {scope : Scope} {pos spos : Pos} {env : Env} {cl : List (Str × Addr)}
/-- what the second clause's source gives, in the comprehension's own frame -/
def IterOk (prog : Program) (w : World) (iter1 : Expr) (x : Str) (scope : Scope) (cl : List (Str × Addr)) (env : Env) (items : List Value) (parts : List (List Value)) (s : Shared) : Prop :=
  ∀ (A' : Around) (C : Addr) (i : Nat) (v : Value) (ps : List Value) (h' : Heap) (tk : Nat) (m' : Str → Option Value) (E' : Value → Shared → Prop), items[i]? = some v → parts[i]? = some ps → h'.Ns C m' → m' x = some v → (∀ b o, s.heap.get? b = some o → h'.get? b = some o) →
    wpAny (model prog w) A' (eval iter1 (compEnvC scope cl C env)) (fun z s' => ∃ t h'' tk'', z = .ref t ∧ s' = { s with heap := h'', toks := tk'' } ∧ h''.IsTuple t ps.toArray ∧ (∀ b o, h'.get? b = some o → h''.get? b = some o)) E' { s with heap := h', toks := tk }
theorem comp2_block {s₁ : Shared} {S : Addr} {items : List Value} {parts : List (List Value)} {RR : Value → Addr → Result → Shared → Prop} (hh : A.handled = none)
    (hcell : ∀ y ∈ scope.names, y.2 ≠ .cell) (hkind : scope.kind = .function) (hx : scope.names.lookup x = some .local) (hy : scope.names.lookup y = some .local) (hdbg : (y == ("__debug__" : Str)) = false)
    (hfs : ∀ env v, foldedSetIterable iter1 env v = pure v)
    (hS : s₁.heap.IsList S items.toArray) (hsz : parts.flatten.length ≤ sizeLine) (hlen : parts.length = items.length) (hiter : IterOk prog w iter1 x scope cl env items parts s₁)
    (hRR : ∀ D C h' tk m', s₁.heap.get? D = none → s₁.heap.get? C = none → D ≠ C → s₁.heap.objs.size ≤ D → h'.Ns C m' → h'.PlainList D parts.flatten.toArray → (∀ b o, s₁.heap.get? b = some o → h'.get? b = some o) → RR (.ref D) C (.ok .next) { s₁ with heap := h', toks := tk }) :
    wpAny (model prog w) A (pyIter (.ref S)) (fun it s₂ => wpAny (model prog w) A (newList []) (fun acc s₃ => wpAny (model prog w) A (newFunctionEnv scope env.globals cl [] env.qual none .none (some env)) (fun cenv s₄ =>
      codeAny (model prog w) A (.compStart (comp2 (.Name y pe) iter0 iter1 x y px py scope pos) 0 it acc { cenv with scope := relabel scope env }) (RR acc cenv.locals) s₄) E s₃) E s₂) E s₁ := by
  refine wpAny_pyIter_list hS ?_
  have up₁ : ∀ b o, s₁.heap.get? b = some o → (s₁.heap.push { cls := .type "list_iterator", data := .fields #[.ref S, .int 0 0] }).get? b = some o := fun b o e => Heap.get?_push_of_some _ e
  have hIS : (s₁.heap.push { cls := .type "list_iterator", data := .fields #[.ref S, .int 0 0] }).IsListIter s₁.heap.objs.size S 0 := ⟨_, Heap.get?_push_size _ rfl, rfl, rfl⟩
  have hS₂ := hS.push { cls := .type "list_iterator", data := .fields #[.ref S, .int 0 0] }
  have hSlt : S < s₁.heap.objs.size := by obtain ⟨_, e, _⟩ := hS; exact Heap.lt_size e
  generalize hH1 : s₁.heap.push { cls := .type "list_iterator", data := .fields #[.ref S, .int 0 0] } = H1 at up₁ hIS hS₂
  have hz1 : H1.objs.size = s₁.heap.objs.size + 1 := by rw [← hH1, Heap.size_push]
  refine wpAny_newObj_type (wpAny_newFunctionEnv hcell (by intro y hy; simp at hy) (fun h₁ hns₁ hsb₁ => ?_) hkind)
  dsimp only at hns₁ hsb₁ ⊢
  generalize hH2 : H1.push { cls := .type "list", dict := none, data := .seq ([] : List Value).toArray } = H2 at hns₁ hsb₁ ⊢
  have hC : H2.objs.size = H1.objs.size + 1 := by rw [← hH2, Heap.size_push]
  have hDC : H1.objs.size ≠ H2.objs.size := by rw [hC]; exact Nat.ne_of_lt (Nat.lt_succ_self _)
  have below : ∀ b, b < H1.objs.size → b ≠ H2.objs.size ∧ b ≠ H1.objs.size := fun b hb => ⟨by rw [hC]; exact Nat.ne_of_lt (Nat.lt_succ_of_lt hb), Nat.ne_of_lt hb⟩
  have old : ∀ b o, H1.get? b = some o → h₁.get? b = some o := fun b o e => hsb₁.extBut b o (below b (Heap.lt_size e)).1 (Heap.get?_push_of_some _ (hH2 ▸ Heap.get?_push_of_some _ e))
  have hacc : h₁.PlainList H1.objs.size #[] := ⟨_, hsb₁.extBut _ _ hDC (Heap.get?_push_of_some _ (hH2 ▸ Heap.get?_push_size _ rfl))⟩
  have fresh : ∀ a, s₁.heap.objs.size ≤ a → s₁.heap.get? a = none := fun a ha => by
    cases e : s₁.heap.get? a with
    | none => rfl
    | some o' => exact absurd (Heap.lt_size e) (Nat.not_lt.mpr ha)
  have hI1 : s₁.heap.objs.size < H1.objs.size := by rw [hz1]; exact Nat.lt_succ_self _
  have hS1 : S < H1.objs.size := Nat.lt_trans hSlt hI1
  have loop : ∀ s₃ : Shared, s₃ = { s₁ with heap := h₁, toks := s₁.toks + ([] : List (Str × Value)).length } →
      codeAny (model prog w) A (.compLoop (comp2 (.Name y pe) iter0 iter1 x y px py scope pos) 0 (.ref s₁.heap.objs.size) (.ref H1.objs.size) (compEnvC scope cl H2.objs.size env))
        (RR (.ref H1.objs.size) H2.objs.size) s₃ := by
    rintro s₃ rfl
    refine comp_outer (ys := []) (cenv := compEnvC scope cl H2.objs.size env) (I := s₁.heap.objs.size) (S := S) (D := H1.objs.size) hh (lookup_relabel_local hx) (lookup_relabel_local hy) hkind hdbg (below _ hI1).2 (below _ hI1).1 (Nat.ne_of_lt hSlt) hDC (below _ hS1).2 (below _ hS1).1 (hfs _)
      ?_ ?_ hacc hns₁ ?_ hlen ?_ ?_
    · obtain ⟨o, e, r⟩ := hIS; exact ⟨o, old _ _ e, r⟩
    · obtain ⟨o, e, r⟩ := hS₂; exact ⟨o, old _ _ e, r⟩
    · rw [List.length_nil, Nat.zero_add]; exact hsz
    · intro i v ps h' tk m' E' hv hp hn hm hk
      refine hiter _ _ i v ps h' tk m' E' hv hp hn hm (fun b o e => ?_)
      have lt := Heap.lt_size e
      exact hk b o (Nat.ne_of_lt lt) (below b (Nat.lt_trans lt hI1)).2 (below b (Nat.lt_trans lt hI1)).1 (old b o (up₁ b o e))
    · intro h' tk m' hp hn hk
      refine hRR _ _ h' tk m' (fresh _ (Nat.le_of_lt hI1)) (fresh _ (by rw [hC]; exact Nat.le_succ_of_le (Nat.le_of_lt hI1))) hDC (Nat.le_of_lt hI1) hn hp (fun b o e => ?_)
      have lt := Heap.lt_size e
      exact hk b o (Nat.ne_of_lt lt) (below b (Nat.lt_trans lt hI1)).2 (below b (Nat.lt_trans lt hI1)).1 (old b o (up₁ b o e))
  exact codeAny_compStart_list (loop _ rfl) (wpAny_pyIter_listiter (by obtain ⟨o, e, r⟩ := hIS; exact ⟨o, old _ _ e, r⟩) (loop _ rfl))
theorem Assign_comp2 {h₀ : Heap} {L : Addr} {m : Str → Option Value} {Q : Flow → Shared → Prop} (_F₀ : Fr h₀ L s.heap m) (hLe : env.locals = L) (hh : A.handled = none)
    (hsw : swapsWith (comp2 (.Name y pe) iter0 iter1 x y px py scope pos) (some (.Name z pz)) spos.line env = pure true)
    (hclos : closureFor scope env = pure cl) (hcell : ∀ z ∈ scope.names, z.2 ≠ .cell) (hkind : scope.kind = .function)
    (hnames : ∀ z ∈ scope.names, z.2 = .local → scope.names.lookup z.1 = some .local) (hx : scope.names.lookup x = some .local) (hy : scope.names.lookup y = some .local) (hdbg : (y == ("__debug__" : Str)) = false)
    (hz : env.kindOf z = some .local) (hp : (env.scope.kind == .class || (env.scope.kind == .module && env.locals != env.globals)) = false)
    (hfs : ∀ env v, foldedSetIterable iter1 env v = pure v) (hs : ∀ v, foldedSetIterable iter0 env v = pure v)
    (h : wpAny (model prog w) A (eval iter0 env) (fun xv s₁ => Hold (∃ S items parts news, xv = .ref S ∧ Fr h₀ L s₁.heap m ∧ News h₀ L s₁.heap news ∧ s₁.heap.IsList S items.toArray ∧ parts.length = items.length ∧ parts.flatten.length ≤ sizeLine ∧ IterOk prog w iter1 x scope cl env items parts s₁ ∧
      (∀ D n h' tk, Fr h₀ L h' (fun q => if q = z then some (.ref D) else m q) → News h₀ L h' ((D, listOf parts.flatten.toArray n) :: news) → (∀ p ∈ news, p.1 < D) → Q .next { s₁ with heap := h', toks := tk }))) E s) :
    wpAny (model prog w) A (exec (.Assign [.Name z pz] (comp2 (.Name y pe) iter0 iter1 x y px py scope pos) spos) env) Q E s := by
  subst hLe
  rw [exec_Assign_Name_used _ _ _ _ hsw]
  refine wpAny_bind (wpAny_standAt (wpAny_bind ?_))
  show wpAny _ A (do let _ ← comprehension (comp2 (.Name y pe) iter0 iter1 x y px py scope pos) scope env _ (newList []) false (eval iter0 env) (some (assign (.Name z pz) env))) _ _ s
  refine wpAny_bind (wpAny_mono (wpAny_comprehension_free (use := some (assign (.Name z pz) env)) (Q := fun _ s' => Q .next s') rfl hs hclos hkind hnames
    (wpAny_mono h (fun xv s₁ h₁ => ?_) fun _ _ e => e)) (fun _ s' hq => wpAny_pure (wpAny_pure hq)) fun _ _ e => e)
  obtain ⟨S, items, parts, news, rfl, F, N, hS, hlen, hsz, hit, fin⟩ := h₁
  refine comp2_block (RR := fun acc C => compPost (model prog w) A E (some (assign (.Name z pz) env)) (fun _ s' => Q .next s') acc C) hh hcell hkind hx hy hdbg hfs hS hsz hlen hit ?_
  intro D C h' tk m' hD hC hDC hDge hn hpl hk
  have F' := F.keeps hk
  have N' := N.grown hk
  have none₀ : ∀ a, s₁.heap.get? a = none → h₀.get? a = none := fun a e => by
    cases e' : h₀.get? a with
    | none => rfl
    | some o => rw [F.keep a o e'] at e; cases e
  have hLlt : env.locals < s₁.heap.objs.size := F.ns.lt
  have hLD : D ≠ env.locals := by
    intro e; rw [e] at hDge; exact absurd hLlt (Nat.not_lt.mpr hDge)
  have hLC : C ≠ env.locals := by
    rintro rfl; obtain ⟨o, _, _, ho, _⟩ := F.ns; rw [hC] at ho; cases ho
  show wpAny _ A (assign (.Name z pz) env (.ref D)) _ _ _
  refine wpAny_assign_Name (wpAny_storeName_local hz F'.ns (fun h₂ hn₂ hs₂ => ?_) hp)
  have hL₀ : h₀.get? env.locals = none := Heap.get?_none_of_le F'.above
  have F₂ : Fr h₀ env.locals h₂ (fun q => if q = z then some (.ref D) else m q) := ⟨hn₂, fun b o e => hs₂.extBut b o (fun q => by rw [q, hL₀] at e; cases e) (F'.keep b o e), F'.above⟩
  obtain ⟨n, hpl⟩ := hpl
  refine ⟨m', hn.sameBut hs₂ hLC, fun h'' hs'' => fin D n h'' _ (F₂.change hs'' hLC (none₀ _ hC)) (fun p hp => ?_) (fun p hp => ?_)⟩
  · rcases List.mem_cons.mp hp with rfl | hp
    · exact ⟨hs''.extBut _ _ hDC (hs₂.extBut _ _ hLD hpl), hLD, none₀ _ hD⟩
    · refine ⟨hs''.extBut _ _ ?_ (hs₂.extBut _ _ (N' p hp).2.1 (N' p hp).1), (N' p hp).2⟩
      intro e
      have := (N p hp).1
      rw [e, hC] at this
      cases this
  · exact Nat.lt_of_lt_of_le (Heap.lt_size (N p hp).1) hDge
end
end Pg
end
/-! PgComp4 -/
section
set_option maxRecDepth 100000
set_option maxHeartbeats 1000000
namespace Pg
section
variable {prog : Program} {w : World} {A : Around} {E : Value → Shared → Prop} {s : Shared}
theorem places_rev (n : Nat) : Builtin.Slice.slicePlaces ((n : Int) - 1) (-1) (-1) = n := by
  unfold Builtin.Slice.slicePlaces
  have h1 : ¬ ((-1 : Int) > 0) := by omega
  simp only [h1, if_false]
  split
  · rw [show (-(-1 : Int)) = 1 by omega, Int.ediv_one]; omega
  · omega
theorem sliceApplied_rev {sl : Addr} {n : Nat} {u : Tok} {Q : Int × Int × Nat → Shared → Prop} (hs : s.heap.IsSliceOf sl .none .none (.int (-1) u)) (h : Q ((n : Int) - 1, -1, n) s) :
    wpAny (model prog w) A (Builtin.Slice.sliceApplied (.ref sl) (pure (n : Int))) Q E s := by
  obtain ⟨os, hos, hcs, hds⟩ := id hs
  unfold Builtin.Slice.sliceApplied Builtin.Slice.sliceFields
  refine wpAny_bind (wpAny_bind (wpAny_field hos hds (x := .none) rfl (wpAny_bind (wpAny_field hos hds (x := .none) rfl (wpAny_bind (wpAny_field hos hds (x := .int (-1) u) rfl (wpAny_pure ?_)))))))
  refine wpAny_bind (slicePart_int ?_)
  show wpAny _ _ (if ((-1 : Int) == 0) = true then _ else _) _ _ s
  rw [if_neg (by decide)]
  refine wpAny_bind (slicePart_none (wpAny_bind (slicePart_none (wpAny_bind (wpAny_pure ?_)))))
  show wpAny _ _ (pure ((n : Int) - 1, (-1 : Int), Builtin.Slice.slicePlaces ((n : Int) - 1) (-1) (-1))) _ _ s
  rw [places_rev]
  exact wpAny_pure h
theorem fm_congr {α β : Type} {f g : α → Option β} : ∀ (l : List α), (∀ x ∈ l, f x = g x) → l.filterMap f = l.filterMap g
  | [], _ => rfl
  | a :: l, h => by
    have ih := fm_congr l fun x hx => h x (.tail _ hx)
    rw [List.filterMap_cons, List.filterMap_cons, h a (.head _), ih]
theorem pick_rev (xs : Array Value) : ((List.range xs.size).filterMap fun (k : Nat) => xs[(((xs.size : Int) - 1) + (k : Int) * (-1)).toNat]?).toArray = xs.toList.reverse.toArray := by
  have e : (List.range xs.size).filterMap (fun (k : Nat) => xs[(((xs.size : Int) - 1) + (k : Int) * (-1)).toNat]?) = ((List.range xs.size).map fun k => xs.size - 1 - k).filterMap (xs[·]?) := by
    rw [List.filterMap_map]
    apply fm_congr
    intro k hk
    have := List.mem_range.mp hk
    have e : (((xs.size : Int) - 1) + (k : Int) * (-1)).toNat = xs.size - 1 - k := by omega
    rw [e]; rfl
  rw [e, krv_range, List.filterMap_reverse, krv_all]
theorem getItem_tuple_rev {t sl : Addr} {items : Array Value} {u : Tok} {Q : Value → Shared → Prop} (ht : IsTup s.heap t items) (hs : s.heap.IsSliceOf sl .none .none (.int (-1) u))
    (h : Q (.ref s.heap.objs.size) { s with heap := s.heap.push { cls := .type "tuple", data := .seq items.toList.reverse.toArray } })
    (hsz : items.size ≤ sizeLine) : wpAny (model prog w) A (getItem (.ref t) (.ref sl)) Q E s := by
  have hdrop : sizeOk (.seq items.toList.reverse.toArray) := by
    show items.toList.reverse.toArray.size ≤ sizeLine
    rw [List.size_toArray, List.length_reverse, Array.length_toList]
    omega
  obtain ⟨os, hos, hcs, hds⟩ := id hs
  have hTs : s.TypeIs (.ref sl) "slice" := ⟨os, hos, hcs⟩
  unfold getItem
  try with_reducible refine wpAny_holding ?_
  first | refine wpAny_bind (wpAny_pure ?_) | skip
  refine wpAny_bind (wpAny_sequenceKey ht.typeIs (by decide) ?_)
  refine wpAny_bind (wpAny_callSpecial?_slot (name := Str.ofString "__getitem__") ht.typeIs slot_tuple_getitem
    (wpAny_call_entry slot_tuple_getitem ht.typeIs entry_tuple_getitem ?_ (args_tuple_getitem _ _)))
  show wpAny _ _ (Builtin.Tuple.tupleItemsOf (.ref t) >>= _) _ _ s
  refine wpAny_bind (tupleItemsOf_ ht ?_)
  refine wpAny_bind (wpAny_typeOf hTs ?_)
  rw [if_pos (by decide)]
  refine wpAny_bind (sliceApplied_rev (n := items.size) hs ?_)
  have hno : ¬ (((items.size : Int) - 1 == 0 && (-1 : Int) == 1 && items.size == items.size) = true) := by
    have : ((-1 : Int) == 1) = false := by decide
    rw [this]; simp
  show wpAny _ _ (if ((items.size : Int) - 1 == 0 && (-1 : Int) == 1 && items.size == items.size) = true then _ else _) _ _ s
  rw [if_neg hno, pick_rev items]
  first
    | exact wpAny_bind (m := Builtin.Tuple.tupleExact _) (wpAny_newObj_type (wpAny_pure ⟨_, rfl, wpAny_pure h⟩) hdrop)
    | exact wpAny_bind (m := Builtin.Tuple.tupleExact _) (wpAny_newObj_type (wpAny_bind (wpAny_pure (wpAny_pure ⟨_, rfl, wpAny_pure h⟩))) hdrop)
    | exact wpAny_bind (wpAny_bind (m := Builtin.Tuple.tupleExact _) (wpAny_newObj_type (wpAny_pure (wpAny_pure ⟨_, rfl, wpAny_pure h⟩)) hdrop))
    | exact wpAny_bind (wpAny_bind (m := Builtin.Tuple.tupleExact _) (wpAny_newObj_type (wpAny_pure ⟨_, rfl, wpAny_pure h⟩) hdrop))
variable {x : Str} {scope : Scope} {cl : List (Str × Addr)} {env : Env} {items : List Value} {parts : List (List Value)}
theorem iterName {p : Pos} (hkind : scope.kind = .function) (hx : scope.names.lookup x = some .local) (hdbg : (x == ("__debug__" : Str)) = false)
    (h : ∀ (i : Nat) (v : Value) (ps : List Value), items[i]? = some v → parts[i]? = some ps → ∃ t, v = .ref t ∧ s.heap.IsTuple t ps.toArray) : IterOk prog w (.Name x p) x scope cl env items parts s := by
  intro A' C i v ps h' tk m' E' hv hp hn hm hk
  obtain ⟨t, rfl, o, ho, r⟩ := h i v ps hv hp
  refine wpAny_Name (wpAny_loadName_local (env := compEnvC scope cl C env) hkind (lookup_relabel_local hx) hn hm ?_) hdbg
  exact ⟨t, h', tk, rfl, rfl, ⟨o, hk _ _ ho, r⟩, fun _ _ e => e⟩
theorem iterRev {p p1 p2 p3 p4 : Pos} {kd : Nat} (hkind : scope.kind = .function) (hx : scope.names.lookup x = some .local) (hdbg : (x == ("__debug__" : Str)) = false)
    (h : ∀ (i : Nat) (v : Value) (ps : List Value), items[i]? = some v → parts[i]? = some ps → ∃ t, v = .ref t ∧ ps.length ≤ sizeLine ∧ s.heap.IsTuple t ps.reverse.toArray) :
    IterOk prog w (.Subscript (.Name x p) (.Slice none none (some (.UnaryOp .USub (.Constant (.int 1) kd p1) p2)) p3) p4) x scope cl env items parts s := by
  intro A' C i v ps h' tk m' E' hv hp hn hm hk
  obtain ⟨t, rfl, hsz, o, ho, r⟩ := h i v ps hv hp
  refine wpAny_Subscript_Slice_step (T := "tuple") slot_tuple_getitem.lookup ?_
  refine wpAny_Name (wpAny_loadName_local (env := compEnvC scope cl C env) hkind (lookup_relabel_local hx) hn hm ?_) hdbg
  refine wpAny_Slice ?_
  rw [evalPart_none, evalPart_some]
  refine wpAny_pure (wpAny_pure ?_)
  refine UnaryOp_ (wpAny_Constant_int (PyProof.Rows.neg_int ?_))
  have ht : IsTup (h'.push { cls := .type "slice", data := .fields #[.none, .none, .int (-1) (tk + 1)] }) t ps.reverse.toArray := ⟨o, Heap.get?_push_of_some _ (hk _ _ ho), r⟩
  have e : ps.reverse.toArray.toList.reverse = ps := by simp
  refine ⟨?_, getItem_tuple_rev (s := { s with heap := h'.push { cls := .type "slice", data := .fields #[.none, .none, .int (-1) (tk + 1)] }, toks := tk + 1 + 1 }) ht (Heap.IsSliceOf.new ..) ?_ ?_⟩
  · obtain ⟨o, ho, hc, _⟩ := ht
    exact ⟨o, ho, hc⟩
  · rw [e]
    exact ⟨_, _, _, rfl, rfl, ⟨_, Heap.get?_push_size _ rfl, rfl, _, rfl⟩, fun b o e => Heap.get?_push_of_some _ (Heap.get?_push_of_some _ e)⟩
  · rw [List.size_toArray, List.length_reverse]; exact hsz
end
end Pg
end
/-! PgParts -/
section
namespace Pg
def valsOf (q : Addr × Obj) : List Value := match q.2.data with
  | .seq xs _ => xs.toList
  | _ => []
def swapP (p : Str × Str) : Str × Str := (p.2, p.1)
inductive PartsAre : List (List Value) → List (Str × Str) → Prop
  | nil : PartsAre [] []
  | cons {a b : Str} {t u : Tok} {r : List (List Value)} {ps : List (Str × Str)} : PartsAre r ps → PartsAre ([.str a t, .str b u] :: r) ((a, b) :: ps)
theorem TupsAre.length {tups : List (Addr × Obj)} {ps : List (Str × Str)} (h : TupsAre tups ps) : tups.length = ps.length := by
  induction h with
  | nil => rfl
  | cons _ ih => rw [List.length_cons, List.length_cons, ih]
theorem TupsAre.parts {tups : List (Addr × Obj)} {ps : List (Str × Str)} (h : TupsAre tups ps) : PartsAre (tups.map valsOf) ps := by
  induction h with
  | nil => exact .nil
  | cons _ ih => exact .cons ih
theorem TupsAre.at {tups : List (Addr × Obj)} {ps : List (Str × Str)} (h : TupsAre tups ps) : ∀ q ∈ tups, (valsOf q).length = 2 ∧ q.2 = tupOf (valsOf q) := by
  induction h with
  | nil => intro q hq; cases hq
  | cons _ ih =>
    intro q hq
    rcases List.mem_cons.mp hq with rfl | hq
    · exact ⟨rfl, rfl⟩
    · exact ih q hq
theorem PartsAre.snoc {l : List (List Value)} {ps : List (Str × Str)} {a b : Str} {t u : Tok} (h : PartsAre l ps) : PartsAre (l ++ [[.str a t, .str b u]]) (ps ++ [(a, b)]) := by
  induction h with
  | nil => exact .cons .nil
  | cons _ ih => exact .cons ih
theorem PartsAre.reverse {l : List (List Value)} {ps : List (Str × Str)} (h : PartsAre l ps) : PartsAre l.reverse ps.reverse := by
  induction h with
  | nil => exact .nil
  | cons _ ih => rw [List.reverse_cons, List.reverse_cons]; exact ih.snoc
theorem PartsAre.swap {l : List (List Value)} {ps : List (Str × Str)} (h : PartsAre l ps) : PartsAre (l.map List.reverse) (ps.map swapP) := by
  induction h with
  | nil => exact .nil
  | cons _ ih => exact .cons ih
theorem PartsAre.flat {l : List (List Value)} {ps : List (Str × Str)} (h : PartsAre l ps) : FlatAre l.flatten ps := by
  induction h with
  | nil => exact .nil
  | cons _ ih => exact .cons ih
theorem PartsAre.len {l : List (List Value)} {ps : List (Str × Str)} (h : PartsAre l ps) : l.flatten.length = 2 * ps.length := by
  induction h with
  | nil => rfl
  | cons _ ih => simp only [List.flatten_cons, List.length_append, List.length_cons, List.length_nil, ih]; omega
theorem tup_in {h₀ h : Heap} {L : Addr} {all tups : List (Addr × Obj)} {ps : List (Str × Str)} (N : News h₀ L h all) (TA : TupsAre tups ps) (sub : ∀ q ∈ tups, q ∈ all) : ∀ q ∈ tups, h.IsTuple q.1 (valsOf q).toArray := by
  intro q hq
  have e := (N q (sub q hq)).1
  rw [(TA.at q hq).2] at e
  exact ⟨_, e, rfl, _, rfl⟩
theorem in_map {tt : List (Addr × Obj)} {f : Addr × Obj → List Value} {i : Nat} {v : Value} {ps : List Value} (hv : (tt.map fun q => Value.ref q.1)[i]? = some v) (hp : (tt.map f)[i]? = some ps) : ∃ q ∈ tt, v = .ref q.1 ∧ ps = f q := by
  rw [List.getElem?_map] at hv hp
  cases e : tt[i]? with
  | none => rw [e] at hv; cases hv
  | some q =>
    rw [e] at hv hp
    cases hv
    cases hp
    exact ⟨q, List.mem_of_getElem? e, rfl, rfl⟩
end Pg
end
/-! PgLaw -/
section
set_option maxRecDepth 100000
set_option maxHeartbeats 1000000
namespace Pg
def lawP : { d : Parts // topAt 13 = some d } := ⟨_, rfl⟩
def lawB : { b : List Stmt // (topAt 13).map (fun d => d.body.drop 5) = some b } := ⟨_, rfl⟩
local macro_rules | `(tactic| walk_at "call ref") => `(tactic| refine Hold.out ?_)
local macro_rules | `(tactic| walk_at "eval ListComp") => `(tactic| refine Hold.out ?_)
local macro_rules | `(tactic| walk_at "exec Assign cons ListComp") => `(tactic| refine Hold.out ?_)
local macro_rules | `(tactic| walk_at "subscriptTail Name Slice ref ref") => `(tactic| refine Hold.out ?_)
local macro_rules | `(tactic| walk_at "subscriptTail") => `(tactic| refine Hold.out ?_)
local macro_rules | `(tactic| walk_at "eval Name") => `(tactic| (k_dflt (refine' ld ?k1 ?k2 ?_; (case k1 => k_asm); (case k2 => assumption); k_whole)))
local macro_rules | `(tactic| walk_at "binaryOp Mult str int") => `(tactic| (refine SB.mul (Hold.out ?_) (fun _ _ => ?_)))
local macro_rules | `(tactic| walk_at "binaryOp Add str str") => `(tactic| (refine add_str (fun _ _ => ?_) (Hold.out ?_)))
local macro_rules | `(tactic| walk_at "go") => `(tactic| repeat' (first | (k_unfold; (try dsimp only)) | walk1 | (dsimp only; walk1)))
theorem mulOk_one {x : Str} {n : Int} (hx : x.length = 1) (h0 : 0 ≤ n) (hn : n < 100) : MulOk x n := mulOk_of 1 100 (by omega) (by omega) (by omega) (by decide) (by decide)
theorem lawTail {w : World} {p : Program} {loose : List Str} {mean : ExcName → Option Value} {mg mb : Str → Option Value} {dp un : Nat} {gd : Option (List Code)} {cd : Value} {a : Addr} {A₀ : Around} {base g : Heap} {L ld lp : Addr} {m : Str → Option Value} {s : Shared} {Q : Flow → Shared → Prop} {E : Value → Shared → Prop} {lo hi W : Str} {tl th tf ts : Tok} {d0 d1 f sc : Int} {dvs : List Value} {tups tab1 tab2 : List (Addr × Obj)} {ps : List (Str × Str)} {ep dn : Nat}
  (B : Below A₀ base [] g) (X : (hd.heap_39 w.params).In g) (T : Top p loose mean mg mb g) (C1 : CodeHd g 41 37) (C2 : CodeHd g 48 44)
  (hd1 : dp + 150 < 900) (hu : un + 1200 < 9000) (TA : TupsAre tups ps) (T1 : Tab37 tab1) (T2 : Tab44 tab2) (ID : IntsAre dvs [d0, d1]) (hlo : lo.length = 1) (hhi : hi.length = 1)
  (hf0 : 0 ≤ f) (hf1 : f < 100) (hs0 : 0 ≤ sc) (hs1 : sc < 100) (hlp : ps.length < 12) (hz : [sc, f].getD (((ps.length : Nat) : Int).fmod 2).toNat 0 = 0)
  (hF1 : Fits (Txt.mul lo f ++ Txt.mul hi sc) ps.reverse) (hW : repl (Txt.mul lo f ++ Txt.mul hi sc) ps.reverse = W) (hF2 : Fits W (ps.map swapP)) (hback : repl W (ps.map swapP) = Txt.mul lo f ++ Txt.mul hi sc)
  (hlenW : (W.length : Int) = d0.fmod 22 + d1.fmod 22) (hline : ∀ i, i < W.length → LineAt W lo hi (d0.fmod 22) (d1.fmod 22) i)
  (m1 : m "drawn" = some (.ref ld)) (m2 : m "low" = some (.str lo tl)) (m3 : m "high" = some (.str hi th)) (m4 : m "pairs" = some (.ref lp)) (m5 : m "left" = some (.int f tf)) (m6 : m "right" = some (.int sc ts))
  (F : Fr g L s.heap m) (N : News g L s.heap ((ld, listOf dvs.toArray dn) :: (lp, listOf (tups.map fun q => Value.ref q.1).toArray ep) :: (tups ++ (tab1 ++ (tab2 ++ [])))))
  (fin : ∀ m' h' tk' tab1 tab2, Tab37 tab1 → Tab44 tab2 → Fr g L h' m' → News g L h' (tab1 ++ (tab2 ++ [])) → Q (.ret (.bool true)) { s with heap := h', toks := tk' }) :
  wpAny (model PySem.Challenge.rw_pg0118_01.row.prog w) (ktrTop dp un gd lawP.1.name lawP.1.scope L a cd [] []) (execs lawB.1 (envOf lawP.1.name lawP.1.scope L a cd)) Q E s := by
  revert X
  k_fill
  intro X
  w_on
  w_top on
  dsimp only [lawP, lawB]
  (with_reducible show wpAny _ _ _ _ _ _)
  have hlen := TA.length
  have hsz : (tups.map fun q => Value.ref q.1).toArray.size = tups.length := by simp
  have hP := TA.parts
  rw [← hlen] at hz hlp
  walk_at "go"
  · exfalso; omega
  have hmod : ((tups.length : Nat) : Int).fmod 2 = (tups.length : Int) % 2 := Int.fmod_eq_emod_of_nonneg _ (by decide)
  rename Fr _ _ _ _ => F2
  rename News _ _ _ _ => N2
  refine Hold.mk (ksa_sub (ns := [sc, f]) N2 (by k_mem) (.cons _ _ (.cons _ _ .nil)) (by omega) (by simp; omega) (by omega) ?_ (by with_unfolding_all rfl))
  intro t5
  rw [hz]
  walk_at "go"
  · exact Hold.mk (mulOk_one hlo hf0 hf1)
  · exact Hold.mk (mulOk_one hhi hs0 hs1)
  rotate_left
  · exact Hold.mk (by have e1 := mul_len hlo hf0 hf1; have e2 := mul_len hhi hs0 hs1; rw [sizeLine_eq]; omega)
  rename Fr _ _ _ _ => F2
  rename News _ _ _ _ => N2
  refine Hold.mk (Assign_comp2 (cl := []) F2 rfl rfl (by with_unfolding_all rfl) (by with_unfolding_all rfl) (by decide) rfl (by decide) rfl rfl (by decide) rfl rfl (fun _ _ => rfl) (fun _ => rfl) ?_)
  walk_at "go"
  refine Hold.mk (krv_lit F2 N2 (News.isList N2 (by k_mem)) (IsPart.int _ _) rfl ?_ (by with_unfolding_all rfl) (by intro _; with_unfolding_all rfl) (by rw [hsz, sizeLine_eq]; omega))
  intro R3 h3 F3 N3 l3
  dsimp only
  have TA3 : ∀ q ∈ tups, h3.IsTuple q.1 (valsOf q).toArray := tup_in N3 TA (fun q hq => .tail _ (.tail _ (.tail _ (.tail _ (List.mem_append_left _ hq)))))
  refine Hold.mk ⟨R3, (tups.map fun q => Value.ref q.1).reverse, (tups.map valsOf).reverse, _, rfl, F3, N3, News.isList N3 (.head _), by simp, ?_, iterName rfl rfl (by decide) ?_, ?_⟩
  · rw [hP.reverse.len, List.length_reverse, sizeLine_eq]; omega
  · rw [← List.map_reverse, ← List.map_reverse]
    intro i v pv hv hp
    obtain ⟨q, hq, rfl, rfl⟩ := in_map hv hp
    exact ⟨_, rfl, TA3 q (List.mem_reverse.mp hq)⟩
  intro lt3 n3 h4 tk4 F4 N4 l4
  clear TA3 F3 N3 l3 F2 N2
  walk_at "go"
  refine Hold.mk (Assign_comp2 (cl := []) F4 rfl rfl (by with_unfolding_all rfl) (by with_unfolding_all rfl) (by decide) rfl (by decide) rfl rfl (by decide) rfl rfl (fun _ _ => rfl) (fun _ => rfl) ?_)
  walk_at "go"
  have TA4 : ∀ q ∈ tups, h4.IsTuple q.1 (valsOf q).toArray := tup_in N4 TA (fun q hq => .tail _ (.tail _ (.tail _ (.tail _ (.tail _ (List.mem_append_left _ hq))))))
  refine Hold.mk ⟨lp, (tups.map fun q => Value.ref q.1), ((tups.map valsOf).map List.reverse), _, rfl, F4, N4, News.isList N4 (by k_mem), by simp, ?_, iterRev rfl rfl (by decide) ?_, ?_⟩
  · rw [hP.swap.len, List.length_map, sizeLine_eq]; omega
  · rw [List.map_map]
    intro i v pv hv hp
    obtain ⟨q, hq, rfl, rfl⟩ := in_map hv hp
    refine ⟨_, rfl, ?_, ?_⟩
    · show (valsOf q).reverse.length ≤ _
      rw [List.length_reverse, (TA.at q hq).1, sizeLine_eq]; omega
    · show Heap.IsTuple _ _ (valsOf q).reverse.reverse.toArray
      rw [List.reverse_reverse]
      exact TA4 q hq
  intro lb4 n4 h5 tk5 F5 N5 l5
  clear TA4 F4 N4 l4
  walk_at "go"
  have eL1 : (tups.map valsOf).reverse.flatten.length = 2 * ps.length := by rw [hP.reverse.len, List.length_reverse]
  have eL2 : ((tups.map valsOf).map List.reverse).flatten.length = 2 * ps.length := by rw [hP.swap.len, List.length_map]
  refine star_seq F5 N5 (.tail _ (.head _)) rfl rfl (.inl rfl) rfl (by rw [List.size_toArray, eL1, sizeLine_eq]; omega) ?_
  clear F5 N5
  intro h6 F6 N6
  walk_at "go"
  refine Hold.mk (repCall (ps := ps.reverse) B F6 X N6 T rfl (by omega) (by omega) (by rw [List.append_nil]; exact hP.reverse.flat) hF1 (by rw [List.length_append, eL1, List.length_nil]; omega) ?_)
  clear F6 N6
  rw [hW]
  intro t6 h7 k7 F7 N7
  dsimp only
  walk_at "go"
  rename Fr _ _ _ _ => F8
  rename News _ _ _ _ => N8
  obtain ⟨p1, k1⟩ := T1.mem
  obtain ⟨p2, k2⟩ := T2.mem
  have b37 : lb4 ≠ 37 := Nat.ne_of_gt (l5 (37, _) (.tail _ (.tail _ (.tail _ (.tail _ (.tail _ (List.mem_append_right _ (List.mem_append_left _ k1))))))))
  have b44 : lb4 ≠ 44 := Nat.ne_of_gt (l5 (44, _) (.tail _ (.tail _ (.tail _ (.tail _ (.tail _ (List.mem_append_right _ (List.mem_append_right _ (List.mem_append_left _ k2)))))))))
  have e0 := Int.fmod_eq_emod_of_nonneg d0 (b := 22) (by decide)
  have e1 := Int.fmod_eq_emod_of_nonneg d1 (b := 22) (by decide)
  refine Hold.mk (lawLine (f := d0.fmod 22) (sc := d1.fmod 22) (rest := [(lb4, PySem.W.listOf (List.map List.reverse (List.map valsOf tups)).flatten.toArray n4)]) B F8 X (cb_drop N8 ?_) C1 C2 T rfl T1 T2 ?_ ?_ (by omega) (by omega) (by omega) (by omega) (by omega) (by omega) hlenW hline ?_)
  · intro q hq
    simp only [List.mem_append, List.mem_cons] at hq ⊢
    grind
  · intro q hq; rw [List.mem_singleton.mp hq]; exact b37
  · intro q hq; rw [List.mem_singleton.mp hq]; exact b44
  clear F8 N8
  intro tab1' tab2' h9 k9 T1' T2' F9 N9
  dsimp only
  walk_at "go"
  refine star_seq F9 N9 (List.mem_append_right _ (List.mem_append_right _ (.head _))) rfl rfl (.inl rfl) rfl (by rw [List.size_toArray, eL2, sizeLine_eq]; omega) ?_
  clear F9 N9
  intro h10 F10 N10
  walk_at "go"
  refine Hold.mk (repCall (ps := ps.map swapP) B F10 X N10 T rfl (by omega) (by omega) (by rw [List.append_nil]; exact hP.swap.flat) hF2 (by rw [List.length_append, eL2, List.length_nil]; omega) ?_)
  clear F10 N10
  rw [hback]
  intro t11 h11 k11 F11 N11
  dsimp only
  walk_at "go"
  rw [beq_self_eq_true]
  exact fin _ h11 _ tab1' tab2' T1' T2' F11 (cb_drop N11 (by
    intro q hq
    simp only [List.mem_append] at hq ⊢
    grind))
end Pg
end
/-! PgHead -/
section
set_option maxRecDepth 100000
set_option maxHeartbeats 1000000
namespace Pg
theorem drawn_two {vs : List Value} {ns : List Int} (h : IntsAre vs ((ns ++ ([5, 3] : List Int).drop ns.length).take 2)) : ∃ d0 d1, IntsAre vs [d0, d1] ∧ (ns ++ ([5, 3] : List Int).drop ns.length).take 2 = [d0, d1] := by
  match ns with
  | [] => exact ⟨_, _, h, rfl⟩
  | [a] => exact ⟨_, _, h, rfl⟩
  | a :: b :: r => exact ⟨a, b, by simpa using h, by simp⟩
local macro_rules | `(tactic| walk_at "call ref") => `(tactic| refine Hold.out ?_)
local macro_rules | `(tactic| walk_at "execs cons") => `(tactic| ((with_reducible show wpAny _ _ (execs (Stmt.If _ _ _ _ :: _) _) _ _ _); refine Hold.out ?_))
local macro_rules | `(tactic| walk_at "subscriptTail") => `(tactic| refine Hold.out ?_)
local macro_rules | `(tactic| walk_at "subscriptTail Name Slice ref ref") => `(tactic| refine Hold.out ?_)
local macro_rules | `(tactic| walk_at "subscriptTail List Slice ref ref") => `(tactic| refine Hold.out ?_)
local macro_rules | `(tactic| walk_at "binaryOp Add ref ref") => `(tactic| refine Hold.out ?_)
local macro_rules | `(tactic| walk_at "eval Name") => `(tactic| (k_dflt (refine' ld ?k1 ?k2 ?_; (case k1 => k_asm); (case k2 => assumption); k_whole)))
local macro_rules | `(tactic| walk_at "go") => `(tactic| repeat' (first | (k_unfold; (try dsimp only)) | walk1 | (dsimp only; walk1)))
def loOf (d0 : Int) : Str := ⟨#[((97 + d0.fdiv 22).fmod 55296).toNat]⟩
def hiOf (d0 d1 : Int) : Str := ⟨#[(((97 + d0.fdiv 22).fmod 55296 + 1 + (d1.fdiv 22).fmod 55295).fmod 55296).toNat]⟩
/-- the law of plain lists: what the pairs are asked to do -/
structure Plain (lo hi : Str) (f sc : Int) (ps : List (Str × Str)) (f' sc' : Int) : Prop where
  f0 : 0 ≤ f'
  f1 : f' < 100
  s0 : 0 ≤ sc'
  s1 : sc' < 100
  len : ps.length < 12
  zero : [sc', f'].getD (((ps.length : Nat) : Int).fmod 2).toNat 0 = 0
  fits1 : Fits (Txt.mul lo f' ++ Txt.mul hi sc') ps.reverse
  fits2 : Fits (repl (Txt.mul lo f' ++ Txt.mul hi sc') ps.reverse) (ps.map swapP)
  back : repl (repl (Txt.mul lo f' ++ Txt.mul hi sc') ps.reverse) (ps.map swapP) = Txt.mul lo f' ++ Txt.mul hi sc'
  size : ((repl (Txt.mul lo f' ++ Txt.mul hi sc') ps.reverse).length : Int) = f + sc
  line : ∀ i, i < (repl (Txt.mul lo f' ++ Txt.mul hi sc') ps.reverse).length → LineAt (repl (Txt.mul lo f' ++ Txt.mul hi sc') ps.reverse) lo hi f sc i
theorem lawHead {w : World} {p : Program} {loose : List Str} {mean : ExcName → Option Value} {mg mb : Str → Option Value} {dp un : Nat} {gd : Option (List Code)} {cd : Value} {a : Addr} {A₀ : Around} {g : Heap} {L ls : Addr} {m : Str → Option Value} {s : Shared} {Q : Flow → Shared → Prop} {E : Value → Shared → Prop} {vs : List Value} {ns : List Int} {tab1 tab2 : List (Addr × Obj)}
  (B : Below A₀ g [] g) (X : (hd.heap_39 w.params).In g) (T : Top p loose mean mg mb g) (C1 : CodeHd g 41 37) (C2 : CodeHd g 48 44)
  (hd1 : dp + 150 < 900) (hu : un + 1200 < 9000) (T1 : Tab37 tab1) (T2 : Tab44 tab2) (hS : g.IsList ls vs.toArray) (hI : IntsAre vs ns) (hn : ns.length ≤ 63)
  (plain : ∀ d0 d1 : Int, Plain (loOf d0) (hiOf d0 d1) (d0.fmod 22) (d1.fmod 22) (pairsFrom (loOf d0) (hiOf d0 d1) 0 (runQ 12 0 (d0.fmod 22) (d1.fmod 22)).1) (runQ 12 0 (d0.fmod 22) (d1.fmod 22)).2.1 (runQ 12 0 (d0.fmod 22) (d1.fmod 22)).2.2)
  (m1 : m "script" = some (.ref ls)) (F : Fr g L s.heap m) (N : News g L s.heap (tab1 ++ (tab2 ++ [])))
  (fin : ∀ m' h' tk' tab1 tab2, Tab37 tab1 → Tab44 tab2 → Fr g L h' m' → News g L h' (tab1 ++ (tab2 ++ [])) → Q (.ret (.bool true)) { s with heap := h', toks := tk' }) :
  wpAny (model PySem.Challenge.rw_pg0118_01.row.prog w) (ktrTop dp un gd lawP.1.name lawP.1.scope L a cd [] []) (execs lawP.1.body (envOf lawP.1.name lawP.1.scope L a cd)) Q E s := by
  revert X
  k_fill
  intro X
  w_on
  w_top on
  dsimp only [lawP]
  (with_reducible show wpAny _ _ _ _ _ _)
  have lN := hI.length
  walk_at "go"
  rename Fr _ _ _ _ => F2
  rename News _ _ _ _ => N2
  have e1 : [(5 : Int), 3].drop ((ns.length : Int)).toNat = ([5, 3] : List Int).drop ns.length := by rw [Int.toNat_natCast]
  refine Hold.mk (kba_turn (value' := PySem.Expr.Name (PySem.Str.ofString "_") ⟨0, 0, 0, 0⟩) (fun _ => rfl) (kmk_slice_ints (vs := [_, _]) (ns := [5, 3]) F2 N2 (News.isList N2 (.head _)) (IsPart.int _ _) .none (.cons _ _ (.cons _ _ .nil)) (kmk_from (.cons _ _ (.cons _ _ .nil)) (Int.natCast_nonneg _)) rfl ?_ (by with_unfolding_all rfl) (fun _ => rfl) (by rw [sizeLine_eq]; simp)))
  intro D3 ws3 h3 F3 N3 l3 I3 _ len3
  rw [e1] at I3 len3
  simp only [List.length_cons, List.length_nil] at len3
  refine Hold.mk ?_
  refine kmk_add_ints F3 N3 (Fr.lst F3 hS) (News.isList N3 (.head _)) hI I3 ?_ (by rw [sizeLine_eq]; omega)
  intro D4 ws4 h4 F4 N4 l4 I4
  walk_at "go"
  refine Hold.mk (kba_turn (value' := PySem.Expr.Name (PySem.Str.ofString "_") ⟨0, 0, 0, 0⟩) (fun _ => rfl) (kmk_slice_ints (vs := ws4) F4 N4 (News.isList N4 (.head _)) .none (IsPart.int _ _) I4 (kmk_upto I4 (by decide)) rfl ?_ (by with_unfolding_all rfl) (fun _ => rfl) (by rw [List.size_toArray, I4.length, List.length_append, sizeLine_eq]; omega)))
  intro D5 ws5 h5 F5 N5 l5 I5 _ _
  obtain ⟨d0, d1, I6, hd01⟩ := drawn_two (ns := ns) I5
  have N6 := cb_drop (news := (D5, W.listOf ws5.toArray 0) :: (tab1 ++ (tab2 ++ []))) N5 (fun q hq => by
    rcases List.mem_cons.mp hq with rfl | hq
    · exact .head _
    · exact .tail _ (.tail _ (.tail _ (.tail _ hq))))
  have l6 : ∀ p ∈ tab1 ++ (tab2 ++ []), p.1 < D5 := fun q hq => l5 q (.tail _ (.tail _ (.tail _ hq)))
  clear N5 I5 l5 F4 N4 l4 I4 F3 N3 l3 I3 F2 N2
  walk_at "go"
  rename Fr _ _ _ _ => F7
  rename News _ _ _ _ => N7
  obtain ⟨p1, k1⟩ := T1.mem
  obtain ⟨p2, k2⟩ := T2.mem
  have b37 : D5 ≠ 37 := Nat.ne_of_gt (l6 (37, _) (List.mem_append_left _ k1))
  have b44 : D5 ≠ 44 := Nat.ne_of_gt (l6 (44, _) (List.mem_append_right _ (List.mem_append_left _ k2)))
  have z0 := Int.fmod_eq_emod_of_nonneg d0 (b := 22) (by decide)
  have z1 := Int.fmod_eq_emod_of_nonneg d1 (b := 22) (by decide)
  have P := plain d0 d1
  refine Hold.mk (lawRun (f := d0.fmod 22) (sc := d1.fmod 22) (lo := loOf d0) (hi := hiOf d0 d1) (rest := [(D5, W.listOf ws5.toArray 0)]) rfl rfl B F7 X (cb_drop N7 ?_) T X T C1 C2 rfl T1 T2 ?_ ?_ (by omega) (by omega) (by omega) (by omega) (by omega) (by omega) ?_)
  · intro q hq
    simp only [List.mem_append, List.mem_cons] at hq ⊢
    grind
  · intro q hq; rw [List.mem_singleton.mp hq]; exact b37
  · intro q hq; rw [List.mem_singleton.mp hq]; exact b44
  clear N7
  intro D8 lp tups tab1' tab2' ep ps f' sc' t1 t2 h8 k8 TA T1' T2' heq F8 N8
  clear F7
  dsimp only
  walk_at "go"
  rename Fr _ _ _ _ => F9
  rename News _ _ _ _ => N9
  have hps : ps = _ := congrArg (fun x => x.1) heq
  have hf : f' = _ := congrArg (fun x => x.2.1) heq
  have hsc : sc' = _ := congrArg (fun x => x.2.2) heq
  dsimp only at hps hf hsc
  rw [← hps, ← hf, ← hsc] at P
  refine Hold.mk (lawTail (base := g) (ld := D5) (lp := lp) (lo := loOf d0) (hi := hiOf d0 d1) (W := repl (Txt.mul (loOf d0) f' ++ Txt.mul (hiOf d0 d1) sc') ps.reverse) (d0 := d0) (d1 := d1) (f := f') (sc := sc') (dvs := ws5) (tups := tups) (tab1 := tab1') (tab2 := tab2') (ps := ps) (ep := ep) (dn := 0) B X T C1 C2 hd1 hu TA T1' T2' I6 rfl rfl P.f0 P.f1 P.s0 P.s1 P.len P.zero P.fits1 rfl P.fits2 P.back P.size P.line rfl rfl rfl rfl rfl rfl F9 (cb_drop N9 ?_) fin)
  intro q hq
  simp only [List.mem_append, List.mem_cons] at hq ⊢
  grind
end Pg
end
/-! PgPlain -/
section
namespace Pg
open PySem.StrLaws PySem.Builtin PySem.Builtin.Str
/-- y is x with each p replaced by b, from the left -/
inductive Rep {α : Type} (p b : List α) : List α → List α → Prop
  | nil : Rep p b [] []
  | hit {r r' : List α} : Rep p b r r' → Rep p b (p ++ r) (b ++ r')
  | miss {a : α} {r r' : List α} : (a :: r).take p.length ≠ p → Rep p b r r' → Rep p b (a :: r) (a :: r')
theorem Rep.map {α β : Type} {φ : α → β} (inj : ∀ a b, φ a = φ b → a = b) {p b x y : List α} (h : Rep p b x y) : Rep (p.map φ) (b.map φ) (x.map φ) (y.map φ) := by
  induction h with
  | nil => exact .nil
  | hit _ ih => rw [List.map_append, List.map_append]; exact .hit ih
  | miss hn _ ih =>
    refine .miss (fun e => hn ?_) ih
    rw [List.length_map, ← List.map_cons, ← List.map_take] at e
    exact (List.map_inj_right (fun a b h => inj a b h)).mp e
def tailJ (b : Str) : List Str → List Nat
  | [] => []
  | q :: r => b.cps.toList ++ (Str.join b (q :: r)).cps.toList
theorem join_cons_list (b p : Str) (q : List Str) : (Str.join b (p :: q)).cps.toList = p.cps.toList ++ tailJ b q := by
  cases q with
  | nil => simp [Str.join, tailJ]
  | cons u v =>
    show (p ++ b ++ Str.join b (u :: v)).cps.toList = _
    simp [tailJ, Str.cps_append]
theorem at_iff (x y : Str) (a : Nat) (ha : a ≤ x.length) : At x y x.length a ↔ (x.cps.toList.drop a).take y.cps.toList.length = y.cps.toList := by
  have e : y.cps.toList.length = y.length := by simp [Str.length]
  unfold At
  rw [subAt_eq, e]
  constructor
  · intro h; exact eq_of_beq h.2
  · intro h
    refine ⟨?_, by rw [h]; exact beq_self_eq_true _⟩
    have hl := congrArg List.length h
    rw [e] at hl
    simp only [List.length_take, List.length_drop, Array.length_toList] at hl
    have : x.cps.size = x.length := rfl
    omega
theorem rep_parts (x y b : Str) (hy : 1 ≤ y.length) {l r : List Nat} (h : Rep y.cps.toList b.cps.toList l r) : ∀ (a f : Nat) (cuts : List Nat), x.cps.toList.drop a = l → a ≤ x.length → ChainG x y x.length a cuts f → (∀ k, f ≤ k → ¬ At x y x.length k) →
    (Str.join b (partsFrom x y.length a cuts)).cps.toList = r := by
  have ey : y.cps.toList.length = y.length := by simp [Str.length]
  have ex : x.cps.toList.length = x.length := by simp [Str.length]
  induction h with
  | nil =>
    intro a f cuts hl ha hc hn
    have hlen := congrArg List.length hl
    simp only [List.length_drop, ex, List.length_nil] at hlen
    cases cuts with
    | nil => show (strSub x a x.length).cps.toList = []; rw [strSub_toList, hl]; simp
    | cons c t => have := hc.1; have := hc.2.1.1; omega
  | @hit r r' _ ih =>
    intro a f cuts hl ha hc hn
    have hA : At x y x.length a := (at_iff x y a ha).mpr (by rw [hl]; simp)
    have hb := hA.1
    cases cuts with
    | nil => have e : f = a := hc; exact absurd hA (hn a (by omega))
    | cons c t =>
      have hca : c = a := by
        rcases Nat.lt_or_ge a c with h1 | h1
        · exact absurd hA (hc.2.2.1 a (Nat.le_refl _) h1)
        · have := hc.1; omega
      subst hca
      have hd : x.cps.toList.drop (c + y.length) = r := by
        rw [← List.drop_drop, hl, ← ey, List.drop_left]
      have := ih (c + y.length) f t hd hb hc.2.2.2 hn
      show (Str.join b (strSub x c c :: partsFrom x y.length (c + y.length) t)).cps.toList = _
      obtain ⟨p, q, e⟩ := partsFrom_ne x y.length (c + y.length) t
      rw [join_cons_list, e]
      rw [e] at this
      rw [strSub_toList, Nat.sub_self, List.take_zero, List.nil_append]
      show b.cps.toList ++ _ = _
      rw [this]
  | @miss h0 r r' hm _ ih =>
    intro a f cuts hl ha hc hn
    have hA : ¬ At x y x.length a := fun h => hm (by rw [← hl]; exact (at_iff x y a ha).mp h)
    have hlen := congrArg List.length hl
    simp only [List.length_drop, ex, List.length_cons] at hlen
    have hd : x.cps.toList.drop (a + 1) = r := by
      rw [← List.drop_drop, hl]; rfl
    cases cuts with
    | nil =>
      have e : f = a := hc
      have := ih (a + 1) (a + 1) [] hd (by omega) rfl (fun k hk => hn k (by omega))
      have t1 : (strSub x (a + 1) x.length).cps.toList = r' := this
      show (strSub x a x.length).cps.toList = _
      rw [strSub_toList] at t1 ⊢
      rw [hd] at t1
      rw [hl, show x.length - a = (x.length - (a + 1)) + 1 by omega, List.take_succ_cons, t1]
    | cons c t =>
      have hca : a + 1 ≤ c := by
        rcases Nat.lt_or_ge a c with h1 | h1
        · exact h1
        · have : c = a := by have := hc.1; omega
          exact absurd (this ▸ hc.2.1) hA
      have hcx := hc.2.1.1
      have := ih (a + 1) f (c :: t) hd (by omega) ⟨hca, hc.2.1, fun k h1 h2 => hc.2.2.1 k (by omega) h2, hc.2.2.2⟩ hn
      have t1 : (Str.join b (strSub x (a + 1) c :: partsFrom x y.length (c + y.length) t)).cps.toList = r' := this
      show (Str.join b (strSub x a c :: partsFrom x y.length (c + y.length) t)).cps.toList = _
      rw [join_cons_list] at t1 ⊢
      rw [← t1, strSub_toList, strSub_toList, hd, hl, show c - a = (c - (a + 1)) + 1 by omega, List.take_succ_cons, List.cons_append]
theorem kind_at {x y : Str} {i : Nat} (h : At x y x.length i) : Builtin.Str.strKind y ≤ Builtin.Str.strKind x := by
  have h2 := h.2
  rw [subAt_eq] at h2
  have e := eq_of_beq h2
  have sub : ∀ B : Nat, x.cps.all (· < B) = true → y.cps.all (· < B) = true := fun B hB => by
    rw [← Array.all_toList] at hB ⊢
    rw [List.all_eq_true] at hB ⊢
    intro c hc
    rw [← e] at hc
    exact hB c (List.mem_of_mem_drop (List.mem_of_mem_take hc))
  unfold Builtin.Str.strKind
  by_cases a1 : x.cps.all (· < 256) = true
  · rw [if_pos a1, if_pos (sub _ a1)]; omega
  · rw [if_neg a1]
    by_cases a2 : x.cps.all (· < 65536) = true
    · rw [if_pos a2, if_pos (sub _ a2)]; split <;> omega
    · rw [if_neg a2]; split
      · omega
      · split <;> omega
theorem split_chain (x y : Str) (hy : 1 ≤ y.length) : ∃ cuts f, Txt.split x y = partsFrom x y.length 0 cuts ∧ ChainG x y x.length 0 cuts f ∧ ∀ k, f ≤ k → ¬ At x y x.length k := by
  obtain ⟨f, hG, hn⟩ := occ_tight x y hy
  have none : (∀ k, ¬ At x y x.length k) → ∃ cuts f, [x] = partsFrom x y.length 0 cuts ∧ ChainG x y x.length 0 cuts f ∧ ∀ k, f ≤ k → ¬ At x y x.length k := fun h =>
    ⟨[], 0, by show [x] = [strSub x 0 x.length]; rw [sub_whole], rfl, fun k _ => h k⟩
  unfold Txt.split
  split
  · rename_i hc
    refine none (fun k hk => ?_)
    rw [Bool.or_eq_true, decide_eq_true_eq, decide_eq_true_eq] at hc
    rcases hc with h | h
    · have := hk.1; omega
    · have := kind_at hk; omega
  · split
    · rename_i he
      rw [List.isEmpty_iff] at he
      rw [he] at hG
      have e0 : f = 0 := hG
      exact none (fun k => hn k (by omega))
    · exact ⟨_, f, partsBetween_eq _ _ _, hG, hn⟩
theorem rep_is (x y b : Str) (hy : 1 ≤ y.length) {r : List Nat} (h : Rep y.cps.toList b.cps.toList x.cps.toList r) : Txt.join b (Txt.split x y) = ⟨r.toArray⟩ := by
  obtain ⟨cuts, f, e, hG, hn⟩ := split_chain x y hy
  show glued b (Txt.split x y) = _
  rw [glued_eq_join, e]
  apply Str.ext'
  apply Array.toList_inj.mp
  exact rep_parts x y b hy h 0 f cuts (by simp) (Nat.zero_le _) hG hn
end Pg
end
/-! PgWord -/
section
namespace Pg
def keyB (i : Nat) : Bool := i % 2 == 0
def valB (i t : Nat) : List Bool := if i % 2 = 0 then List.replicate t false ++ [true] else false :: List.replicate t true
def mapB (i t : Nat) : List Bool → List Bool
  | [] => []
  | c :: r => if c = keyB i then valB i t ++ mapB i t r else c :: mapB i t r
def thereB : Nat → List Nat → List Bool → List Bool
  | _, [], g => g
  | i, t :: ts, g => mapB i t (thereB (i + 1) ts g)
def genB (f s : Nat) : Nat → Nat → List Bool
  | _, 0 => []
  | r, n + 1 => decide (f ≤ r) :: genB f s (if f ≤ r then r - f else r + s) n
theorem val_len (i t : Nat) : (valB i t).length = t + 1 := by
  unfold valB
  split <;> simp
theorem gen_len (f s : Nat) : ∀ n r, (genB f s r n).length = n
  | 0, _ => rfl
  | n + 1, r => by
    show (genB f s _ n).length + 1 = n + 1
    rw [gen_len f s n]
theorem gen_lo {f s r n : Nat} (h : r < f) : genB f s r (n + 1) = false :: genB f s (r + s) n := by
  show decide (f ≤ r) :: genB f s (if f ≤ r then r - f else r + s) n = _
  rw [decide_eq_false (by omega), if_neg (by omega)]
theorem gen_hi {f s r n : Nat} (h : f ≤ r) : genB f s r (n + 1) = true :: genB f s (r - f) n := by
  show decide (f ≤ r) :: genB f s (if f ≤ r then r - f else r + s) n = _
  rw [decide_eq_true h, if_pos h]
theorem gen_los (F s : Nat) : ∀ t r m, r + t * s < F + s → genB F s r (t + m) = List.replicate t false ++ genB F s (r + t * s) m
  | 0, r, m, _ => by simp
  | t + 1, r, m, h => by
    have e : (t + 1) * s = t * s + s := Nat.succ_mul t s
    rw [show t + 1 + m = t + m + 1 by omega, gen_lo (by omega), gen_los F s t (r + s) m (by omega), List.replicate_succ, List.cons_append, show r + s + t * s = r + (t + 1) * s by omega]
theorem gen_his (f S : Nat) : ∀ t r m, genB f S (r + t * f) (t + m) = List.replicate t true ++ genB f S r m
  | 0, r, m => by simp
  | t + 1, r, m => by
    have e : (t + 1) * f = t * f + f := Nat.succ_mul t f
    rw [show t + 1 + m = t + m + 1 by omega, gen_hi (by omega), show r + (t + 1) * f - f = r + t * f by omega, gen_his f S t r m, List.replicate_succ, List.cons_append]
/-- a turn of the first kind, told backwards -/
theorem step_even (i t f s : Nat) (hi : i % 2 = 0) : ∀ n r, r < f + s → mapB i t (genB f s r n) = genB (f + t * s) s r (n + t * (genB f s r n).count true)
  | 0, _, _ => rfl
  | n + 1, r, hr => by
    have key : keyB i = true := by simp [keyB, hi]
    by_cases h : r < f
    · have ih := step_even i t f s hi n (r + s) (by omega)
      rw [gen_lo h]
      unfold mapB
      rw [key, if_neg (by decide), ih, List.count_cons, if_neg (by decide), show n + 1 + t * ((genB f s (r + s) n).count true + 0) = n + t * (genB f s (r + s) n).count true + 1 by rw [Nat.add_zero ((genB f s (r + s) n).count true)]; omega, gen_lo (f := f + t * s) (by omega)]
    · have hf : f ≤ r := by omega
      have ih := step_even i t f s hi n (r - f) (by omega)
      rw [gen_hi hf]
      unfold mapB valB
      rw [key, if_pos rfl, if_pos hi, ih, List.count_cons, if_pos (by decide), Nat.mul_succ]
      generalize t * (genB f s (r - f) n).count true = c
      rw [show n + 1 + (c + t) = t + (n + c + 1) by omega, gen_los (f + t * s) s t r _ (by omega), gen_hi (f := f + t * s) (by omega), show r + t * s - (f + t * s) = r - f by omega, List.append_assoc]
      rfl
/-- a turn of the second kind, told backwards -/
theorem step_odd (i t f s : Nat) (hi : ¬ i % 2 = 0) : ∀ n r, r < f + s → mapB i t (genB f s r n) = genB f (s + t * f) r (n + t * (genB f s r n).count false)
  | 0, _, _ => rfl
  | n + 1, r, hr => by
    have key : keyB i = false := by simp [keyB]; omega
    by_cases h : r < f
    · have ih := step_odd i t f s hi n (r + s) (by omega)
      rw [gen_lo h]
      unfold mapB valB
      rw [key, if_pos rfl, if_neg hi, ih, List.count_cons, if_pos (by decide), Nat.mul_succ]
      generalize t * (genB f s (r + s) n).count false = c
      rw [show n + 1 + (c + t) = t + (n + c) + 1 by omega, gen_lo (s := s + t * f) h, show r + (s + t * f) = r + s + t * f by omega, gen_his f (s + t * f) t (r + s) _]
      rfl
    · have hf : f ≤ r := by omega
      have ih := step_odd i t f s hi n (r - f) (by omega)
      rw [gen_hi hf]
      unfold mapB
      rw [key, if_neg (by decide), ih, List.count_cons, if_neg (by decide), show n + 1 + t * ((genB f s (r - f) n).count false + 0) = n + t * (genB f s (r - f) n).count false + 1 by rw [Nat.add_zero ((genB f s (r - f) n).count false)]; omega, gen_hi (s := s + t * f) hf]
theorem gen_end (f s : Nat) : ∀ n r : Nat, r < f + s → ∃ q : Nat, (q : Int) = r + (n : Int) * s - ((genB f s r n).count true : Nat) * ((f : Int) + s) ∧ q < f + s
  | 0, r, hr => ⟨r, by simp [genB], hr⟩
  | n + 1, r, hr => by
    have e1 : ((n + 1 : Nat) : Int) * s = (n : Int) * s + s := by rw [Int.natCast_succ, Int.add_mul, Int.one_mul]
    by_cases h : r < f
    · obtain ⟨q, h1, h2⟩ := gen_end f s n (r + s) (by omega)
      refine ⟨q, ?_, h2⟩
      rw [gen_lo h, List.count_cons, if_neg (by decide), Nat.add_zero ((genB f s (r + s) n).count true), h1, e1]
      omega
    · have hf : f ≤ r := by omega
      obtain ⟨q, h1, h2⟩ := gen_end f s n (r - f) (by omega)
      refine ⟨q, ?_, h2⟩
      have e2 : (((genB f s (r - f) n).count true + 1 : Nat) : Int) * ((f : Int) + s) = ((genB f s (r - f) n).count true : Nat) * ((f : Int) + s) + (f + s) := by rw [Int.natCast_succ, Int.add_mul, Int.one_mul]
      rw [gen_hi hf, List.count_cons, if_pos (by decide), h1, e1, e2]
      omega
theorem gen_count (f s : Nat) : (genB f s 0 (f + s)).count true = s := by
  by_cases h0 : f + s = 0
  · have : s = 0 := by omega
    subst this
    rw [h0]; rfl
  obtain ⟨q, h1, h2⟩ := gen_end f s (f + s) 0 (by omega)
  generalize (genB f s 0 (f + s)).count true = c at h1 ⊢
  have e : ((f + s : Nat) : Int) * s - (c : Int) * ((f : Int) + s) = ((s : Int) - c) * ((f : Int) + s) := by
    rw [Int.sub_mul, Int.mul_comm ((f + s : Nat) : Int) s, Int.natCast_add]
  have h3 : (q : Int) = ((s : Int) - c) * ((f : Int) + s) := by
    rw [h1, ← e]; omega
  rcases Int.lt_trichotomy (c : Int) s with hc | hc | hc
  · have : (1 : Int) * ((f : Int) + s) ≤ ((s : Int) - c) * ((f : Int) + s) := Int.mul_le_mul_of_nonneg_right (by omega) (by omega)
    omega
  · omega
  · have : ((s : Int) - c) * ((f : Int) + s) ≤ (-1) * ((f : Int) + s) := Int.mul_le_mul_of_nonneg_right (by omega) (by omega)
    omega
theorem count_two : ∀ l : List Bool, l.count true + l.count false = l.length
  | [] => rfl
  | c :: l => by
    have := count_two l
    cases c <;> simp [List.count_cons] <;> omega
theorem gen_zero (f : Nat) (h : 0 < f) : ∀ n, genB f 0 0 n = List.replicate n false
  | 0 => rfl
  | n + 1 => by rw [gen_lo h, gen_zero f h n, List.replicate_succ]
theorem gen_ones (s : Nat) : ∀ n r, genB 0 s r n = List.replicate n true
  | 0, _ => rfl
  | n + 1, r => by rw [gen_hi (Nat.zero_le _), gen_ones s n, List.replicate_succ]
theorem there_nil (i : Nat) (g : List Bool) : thereB i [] g = g := rfl
theorem there_cons (i t : Nat) (ts : List Nat) (g : List Bool) : thereB i (t :: ts) g = mapB i t (thereB (i + 1) ts g) := rfl
/-- Euclid's run, told backwards, makes the line -/
theorem there_gen : ∀ (k i f s : Nat), (runQ k i f s).1.length < k →
    thereB i ((runQ k i f s).1.map Int.toNat) (List.replicate (runQ k i f s).2.1.toNat false ++ List.replicate (runQ k i f s).2.2.toNat true) = genB f s 0 (f + s)
  | 0, _, _, _, h => absurd h (Nat.not_lt_zero _)
  | k + 1, i, f, s, h => by
    unfold runQ at h ⊢
    by_cases hi : i % 2 = 0
    · rw [if_pos hi] at h ⊢
      by_cases hs : (s : Int) = 0
      · rw [if_pos hs] at h ⊢
        have : s = 0 := by omega
        subst this
        dsimp only [List.map_nil]
        rw [List.map_nil, there_nil]
        simp only [Int.toNat_natCast, Nat.add_zero]
        rcases Nat.eq_zero_or_pos f with rfl | hf
        · rfl
        · rw [gen_zero f hf]; simp
      · rw [if_neg hs] at h ⊢
        dsimp only [List.map_cons, List.length_cons] at h ⊢
        rw [List.map_cons, there_cons]
        have ih := there_gen k (i + 1) (f % s) s (by rw [Int.natCast_emod]; omega)
        rw [Int.natCast_emod] at ih
        rw [ih, ← Int.natCast_ediv, Int.toNat_natCast, step_even i (f / s) (f % s) s hi _ _ (by omega), gen_count, show f % s + f / s * s = f by rw [Nat.mul_comm]; exact Nat.mod_add_div f s, show f % s + s + f / s * s = f + s by
          have := Nat.mod_add_div f s
          rw [Nat.mul_comm] at this
          omega]
    · rw [if_neg hi] at h ⊢
      by_cases hf : (f : Int) = 0
      · rw [if_pos hf] at h ⊢
        have : f = 0 := by omega
        subst this
        dsimp only [List.map_nil]
        rw [List.map_nil, there_nil, gen_ones]
        simp
      · rw [if_neg hf] at h ⊢
        dsimp only [List.map_cons, List.length_cons] at h ⊢
        rw [List.map_cons, there_cons]
        have ih := there_gen k (i + 1) f (s % f) (by rw [Int.natCast_emod]; omega)
        rw [Int.natCast_emod] at ih
        have hc : (genB f (s % f) 0 (f + s % f)).count false = f := by
          have h1 := count_two (genB f (s % f) 0 (f + s % f))
          rw [gen_count, gen_len] at h1
          omega
        rw [ih, ← Int.natCast_ediv, Int.toNat_natCast, step_odd i (s / f) f (s % f) hi _ _ (by omega), hc, show s % f + s / f * f = s by rw [Nat.mul_comm]; exact Nat.mod_add_div s f, show f + s % f + s / f * f = f + s by
          have := Nat.mod_add_div s f
          rw [Nat.mul_comm] at this
          omega]
def checkB (f s : Nat) : Bool :=
  let r := runQ 12 0 f s
  decide (r.1.length < 12) && [r.2.2, r.2.1].getD (((r.1.length : Nat) : Int).fmod 2).toNat 0 == 0 && decide (0 ≤ r.2.1) && decide (r.2.1 < 100) && decide (0 ≤ r.2.2) && decide (r.2.2 < 100) && r.1.all (fun q => decide (q ≤ 60))
theorem check_all : (List.range 22).all (fun f => (List.range 22).all fun s => checkB f s) = true := by decide +kernel
end Pg
end
/-! PgPlain2 -/
section
namespace Pg
def sg (a b : Nat) (c : Bool) : Nat := if c then b else a
def enc (a b : Nat) (l : List Bool) : Str := ⟨(l.map (sg a b)).toArray⟩
section
variable {a b : Nat}
theorem enc_list (l : List Bool) : (enc a b l).cps.toList = l.map (sg a b) := by simp [enc]
theorem enc_len (l : List Bool) : (enc a b l).length = l.length := by simp [enc, Str.length]
theorem sg_inj (h : a ≠ b) : ∀ x y, sg a b x = sg a b y → x = y := by
  intro x y e
  cases x <;> cases y <;> simp [sg] at e <;> first | rfl | exact absurd e h | exact absurd e.symm h
theorem join_enc (h : a ≠ b) {p q x y : List Bool} (hp : p ≠ []) (R : Rep p q x y) : Txt.join (enc a b q) (Txt.split (enc a b x) (enc a b p)) = enc a b y := by
  have hy : 1 ≤ (enc a b p).length := by
    rw [enc_len]
    cases p with
    | nil => exact absurd rfl hp
    | cons _ _ => simp
  have R' := R.map (sg_inj h)
  rw [← enc_list (a := a) (b := b), ← enc_list (a := a) (b := b), ← enc_list (a := a) (b := b)] at R'
  exact rep_is _ _ _ hy R'
theorem rep_there (i t : Nat) : ∀ w, Rep [keyB i] (valB i t) w (mapB i t w)
  | [] => .nil
  | c :: r => by
    unfold mapB
    split
    · rename_i h
      subst h
      exact .hit (p := [keyB i]) (rep_there i t r)
    · rename_i h
      refine .miss ?_ (rep_there i t r)
      simpa using h
theorem lead (i t : Nat) (hi : i % 2 = 0) : ∀ (w : List Bool) (k : Nat), k < t → (mapB i t w).take (k + 1) ≠ List.replicate k false ++ [true]
  | [], k, _, e => by
    have := congrArg List.length e
    simp [mapB] at this
  | c :: r, k, hk, e => by
    have key : keyB i = true := by simp [keyB, hi]
    unfold mapB at e
    rw [key] at e
    cases c with
    | true =>
      rw [if_pos rfl] at e
      unfold valB at e
      rw [if_pos hi, List.append_assoc, List.take_append_of_le_length (by simp; omega), List.take_replicate, show min (k + 1) t = k + 1 by omega, List.replicate_succ'] at e
      have := List.append_cancel_left e
      simp at this
    | false =>
      rw [if_neg (by decide)] at e
      cases k with
      | zero => simp at e
      | succ k =>
        rw [List.take_succ_cons, List.replicate_succ, List.cons_append] at e
        exact lead i t hi r k (by omega) (List.cons.inj e).2
theorem rep_back (i t : Nat) : ∀ w, Rep (valB i t) [keyB i] (mapB i t w) w
  | [] => .nil
  | c :: r => by
    have ih := rep_back i t r
    unfold mapB
    split
    · rename_i h
      subst h
      exact .hit (b := [keyB i]) ih
    · rename_i h
      refine .miss (fun e => ?_) ih
      rw [val_len, List.take_succ_cons] at e
      by_cases hi : i % 2 = 0
      · have key : keyB i = true := by simp [keyB, hi]
        have hc : c = false := by cases c; rfl; exact absurd key.symm h
        subst hc
        unfold valB at e
        rw [if_pos hi] at e
        cases t with
        | zero => simp at e
        | succ t =>
          rw [List.replicate_succ, List.cons_append] at e
          exact lead i (t + 1) hi r t (by omega) (List.cons.inj e).2
      · have key : keyB i = false := by simp [keyB]; omega
        have hc : c = true := by cases c; exact absurd key.symm h; rfl
        subst hc
        unfold valB at e
        rw [if_neg hi] at e
        have := (List.cons.inj e).1
        cases this
theorem map_le (i t : Nat) : ∀ w : List Bool, w.length ≤ (mapB i t w).length
  | [] => Nat.le_refl _
  | c :: r => by
    have ih := map_le i t r
    unfold mapB
    split
    · rw [List.length_append, val_len, List.length_cons]; omega
    · rw [List.length_cons, List.length_cons]; omega
abbrev one (c : Nat) : Str := ⟨#[c]⟩
theorem mul_enc_lo (n : Int) : Txt.mul (one a) n = enc a b (List.replicate n.toNat false) := by
  apply ext_toList
  rw [mul_one_list, enc_list]
  simp [sg]
theorem mul_enc_hi (n : Int) : Txt.mul (one b) n = enc a b (List.replicate n.toNat true) := by
  apply ext_toList
  rw [mul_one_list, enc_list]
  simp [sg]
theorem enc_append (l m : List Bool) : enc a b l ++ enc a b m = enc a b (l ++ m) := by
  apply ext_toList
  rw [Str.cps_append, Array.toList_append, enc_list, enc_list, enc_list, List.map_append]
theorem pair_enc (i : Nat) (t : Int) : pairOf (one a) (one b) i t = (enc a b [keyB i], enc a b (valB i t.toNat)) := by
  have e0 : one a = enc a b [false] := rfl
  have e1 : one b = enc a b [true] := rfl
  unfold pairOf
  by_cases hi : i % 2 = 0
  · have key : keyB i = true := by simp [keyB, hi]
    rw [if_pos hi, key, mul_enc_lo (b := b)]
    unfold valB
    rw [if_pos hi, ← enc_append, ← e1]
  · have key : keyB i = false := by simp [keyB]; omega
    rw [if_neg hi, key, mul_enc_hi (a := a)]
    unfold valB
    rw [if_neg hi, ← e0, e0, enc_append]
    rfl
theorem repl_append : ∀ (l : List (Str × Str)) (x : Str) (m : List (Str × Str)), repl x (l ++ m) = repl (repl x l) m
  | [], _, _ => rfl
  | (p, q) :: l, x, m => by
    show repl (Txt.join q (Txt.split x p)) (l ++ m) = repl (repl (Txt.join q (Txt.split x p)) l) m
    exact repl_append l _ m
theorem fits_append : ∀ (l : List (Str × Str)) (x : Str) (m : List (Str × Str)), Fits x l → Fits (repl x l) m → Fits x (l ++ m)
  | [], _, _, _, h => h
  | (_, _) :: l, _, m, ⟨h1, h2, h3, h4⟩, h => ⟨h1, h2, h3, fits_append l _ m h4 h⟩
theorem val_ne (i t : Nat) : valB i t ≠ [] := by
  intro e
  have := val_len i t
  rw [e] at this
  simp at this
theorem there_enc (h : a ≠ b) : ∀ (qs : List Int) (i : Nat) (g : List Bool), repl (enc a b g) (pairsFrom (one a) (one b) i qs).reverse = enc a b (thereB i (qs.map Int.toNat) g)
  | [], _, _ => rfl
  | t :: ts, i, g => by
    unfold pairsFrom
    rw [List.reverse_cons, repl_append, there_enc h ts (i + 1) g, pair_enc]
    show Txt.join (enc a b (valB i t.toNat)) (Txt.split _ (enc a b [keyB i])) = _
    exact join_enc h (by simp) (rep_there i t.toNat _)
theorem back_enc (h : a ≠ b) : ∀ (qs : List Int) (i : Nat) (g : List Bool), repl (enc a b (thereB i (qs.map Int.toNat) g)) ((pairsFrom (one a) (one b) i qs).map swapP) = enc a b g
  | [], _, _ => rfl
  | t :: ts, i, g => by
    unfold pairsFrom
    rw [List.map_cons, pair_enc]
    show repl (Txt.join (enc a b [keyB i]) (Txt.split (enc a b (mapB i t.toNat (thereB (i + 1) (ts.map Int.toNat) g))) (enc a b (valB i t.toNat)))) _ = _
    rw [join_enc h (val_ne _ _) (rep_back i t.toNat _)]
    exact back_enc h ts (i + 1) g
theorem fits_there (h : a ≠ b) : ∀ (qs : List Int) (i : Nat) (g : List Bool), (∀ q ∈ qs, q ≤ 60) → (thereB i (qs.map Int.toNat) g).length ≤ 1000 → Fits (enc a b g) (pairsFrom (one a) (one b) i qs).reverse
  | [], _, _, _, _ => trivial
  | t :: ts, i, g, hq, hl => by
    have hm : (thereB (i + 1) (ts.map Int.toNat) g).length ≤ 1000 := Nat.le_trans (map_le i t.toNat _) hl
    have ht := hq t (.head _)
    unfold pairsFrom
    rw [List.reverse_cons]
    refine fits_append _ _ _ (fits_there h ts (i + 1) g (fun q hq' => hq q (.tail _ hq')) hm) ?_
    rw [there_enc h ts (i + 1) g, pair_enc]
    refine ⟨by rw [enc_len]; exact hm, by rw [enc_len]; simp, ?_, trivial⟩
    rw [enc_len, val_len]; omega
theorem fits_back (h : a ≠ b) : ∀ (qs : List Int) (i : Nat) (g : List Bool), (thereB i (qs.map Int.toNat) g).length ≤ 1000 → Fits (enc a b (thereB i (qs.map Int.toNat) g)) ((pairsFrom (one a) (one b) i qs).map swapP)
  | [], _, _, _ => trivial
  | t :: ts, i, g, hl => by
    have hm : (thereB (i + 1) (ts.map Int.toNat) g).length ≤ 1000 := Nat.le_trans (map_le i t.toNat _) hl
    unfold pairsFrom
    rw [List.map_cons, pair_enc]
    refine ⟨by rw [enc_len]; exact hl, ?_, ?_, ?_⟩
    · show 1 ≤ (enc a b (valB i t.toNat)).length
      rw [enc_len, val_len]; omega
    · show (enc a b [keyB i]).length ≤ 64
      rw [enc_len]; simp
    · show Fits (Txt.join (enc a b [keyB i]) (Txt.split (enc a b (mapB i t.toNat (thereB (i + 1) (ts.map Int.toNat) g))) (enc a b (valB i t.toNat)))) _
      rw [join_enc h (val_ne _ _) (rep_back i t.toNat _)]
      exact fits_back h ts (i + 1) g hm
end
end Pg
end
/-! PgPlain3 -/
section
namespace Pg
theorem gen_at (f s : Nat) : ∀ (n r i : Nat), r < f + s → i < n → ∃ q : Nat, (q : Int) = r + (i : Int) * s - (((genB f s r n).take i).count true : Nat) * ((f : Int) + s) ∧ q < f + s ∧ (genB f s r n)[i]? = some (decide (f ≤ q))
  | 0, _, _, _, h => absurd h (Nat.not_lt_zero _)
  | n + 1, r, 0, hr, _ => ⟨r, by simp, hr, rfl⟩
  | n + 1, r, i + 1, hr, hi => by
    have hr' : (if f ≤ r then r - f else r + s) < f + s := by split <;> omega
    obtain ⟨q, h1, h2, h3⟩ := gen_at f s n (if f ≤ r then r - f else r + s) i hr' (by omega)
    refine ⟨q, ?_, h2, ?_⟩
    · rw [h1]
      have e0 : genB f s r (n + 1) = decide (f ≤ r) :: genB f s (if f ≤ r then r - f else r + s) n := rfl
      rw [e0, List.take_succ_cons, List.count_cons]
      by_cases hfr : f ≤ r
      · rw [if_pos hfr, decide_eq_true hfr, if_pos (by decide)]
        have e1 : ((i + 1 : Nat) : Int) * s = (i : Int) * s + s := by rw [Int.natCast_succ, Int.add_mul, Int.one_mul]
        have e2 : ((((genB f s (r - f) n).take i).count true + 1 : Nat) : Int) * ((f : Int) + s) = (((genB f s (r - f) n).take i).count true : Nat) * ((f : Int) + s) + (f + s) := by rw [Int.natCast_succ, Int.add_mul, Int.one_mul]
        rw [e1, e2]
        omega
      · rw [if_neg hfr, decide_eq_false hfr, if_neg (by decide)]
        have e1 : ((i + 1 : Nat) : Int) * s = (i : Int) * s + s := by rw [Int.natCast_succ, Int.add_mul, Int.one_mul]
        rw [e1, Nat.add_zero]
        omega
    · show (decide (f ≤ r) :: genB f s (if f ≤ r then r - f else r + s) n)[i + 1]? = _
      rw [List.getElem?_cons_succ]
      exact h3
section
variable {a b : Nat}
theorem cnt_enc (h : a ≠ b) : ∀ l : List Bool, cnt b (l.map (sg a b)) = (l.count true : Nat)
  | [] => rfl
  | c :: l => by
    rw [List.map_cons, cnt_cons, cnt_enc h l, List.count_cons]
    cases c with
    | true => simp [sg]; omega
    | false => simp [sg, h]
theorem line_enc (h : a ≠ b) (f s : Nat) (i : Nat) (hi : i < f + s) : LineAt (enc a b (genB f s 0 (f + s))) (one a) (one b) f s i := by
  obtain ⟨q, h1, h2, h3⟩ := gen_at f s (f + s) 0 i (by omega) hi
  have hlen := gen_len f s (f + s) 0
  generalize genB f s 0 (f + s) = w at h1 h3 hlen ⊢
  have hsl : Txt.slice (enc a b w) none (some (0 + (i : Int))) = enc a b (w.take i) := by
    have hj : 0 ≤ (0 + (i : Int)) ∧ (0 + (i : Int)) ≤ (enc a b w).cps.toList.length := by
      rw [enc_list, List.length_map, hlen]; omega
    rw [eq_of_beq (slice_closes_to hj)]
    apply ext_toList
    have e : ((0 + (i : Int)) - 0).toNat = i := by omega
    rw [e, enc_list, enc_list, List.map_take]
    simp
  have hc : Txt.count (enc a b (w.take i)) (one b) = ((w.take i).count true : Nat) := by
    rw [count_cnt, enc_list, cnt_enc h]
  have hit : Txt.item (enc a b w) (0 + (i : Int)) = if decide (f ≤ q) = true then one b else one a := by
    rw [item_meets (i := 0 + (i : Int)) (n := sg a b (decide (f ≤ q))) (by omega) ?_]
    · by_cases hq : f ≤ q
      · rw [decide_eq_true hq]; rfl
      · rw [decide_eq_false hq]; rfl
    · have e : (0 + (i : Int)).toNat = i := by omega
      rw [e, ← Array.getElem?_toList, enc_list, List.getElem?_map, h3]
      rfl
  unfold LineAt
  rw [hsl, hc, hit]
  have z : (0 + (i : Int)) * s = (((w.take i).count true : Nat) : Int) * ((f : Int) + s) + q := by
    rw [h1, Int.zero_add]; simp
    omega
  obtain ⟨d1, d2⟩ := divmod_unique z (by omega) (by omega)
  refine ⟨d1, by rw [d2, z]; omega, ?_⟩
  rw [z]
  have e : (((w.take i).count true : Nat) : Int) * ((f : Int) + s) + q - (((w.take i).count true : Nat) : Int) * ((f : Int) + s) = q := by omega
  rw [e]
  by_cases hq : f ≤ q
  · rw [if_pos (by simpa using hq), if_pos (by omega)]
  · rw [if_neg (by simpa using hq), if_neg (by omega)]
theorem pairs_len (lo hi : Str) : ∀ (qs : List Int) (i : Nat), (pairsFrom lo hi i qs).length = qs.length
  | [], _ => rfl
  | _ :: ts, i => by
    show (pairsFrom lo hi (i + 1) ts).length + 1 = ts.length + 1
    rw [pairs_len lo hi ts]
theorem plain_two (h : a ≠ b) (f s : Nat) (hf : f < 22) (hs : s < 22) : Plain (one a) (one b) f s (pairsFrom (one a) (one b) 0 (runQ 12 0 f s).1) (runQ 12 0 f s).2.1 (runQ 12 0 f s).2.2 := by
  have hck := List.all_eq_true.mp (List.all_eq_true.mp check_all f (List.mem_range.mpr hf)) s (List.mem_range.mpr hs)
  have hth := there_gen 12 0 f s
  unfold checkB at hck
  dsimp only at hck
  generalize runQ 12 0 f s = r at hck hth ⊢
  obtain ⟨qs, f', s'⟩ := r
  dsimp only at hck hth ⊢
  simp only [Bool.and_eq_true, decide_eq_true_eq, beq_iff_eq, List.all_eq_true] at hck
  obtain ⟨⟨⟨⟨⟨⟨c1, c2⟩, c3⟩, c4⟩, c5⟩, c6⟩, c7⟩ := hck
  have c8 := hth c1
  have hg : Txt.mul (one a) f' ++ Txt.mul (one b) s' = enc a b (List.replicate f'.toNat false ++ List.replicate s'.toNat true) := by
    rw [mul_enc_lo (b := b), mul_enc_hi (a := a), enc_append]
  have hW : repl (Txt.mul (one a) f' ++ Txt.mul (one b) s') (pairsFrom (one a) (one b) 0 qs).reverse = enc a b (genB f s 0 (f + s)) := by
    rw [hg, there_enc h, c8]
  have hl : (thereB 0 (qs.map Int.toNat) (List.replicate f'.toNat false ++ List.replicate s'.toNat true)).length ≤ 1000 := by
    rw [c8, gen_len]; omega
  constructor
  · exact c3
  · exact c4
  · exact c5
  · exact c6
  · rw [pairs_len]; exact c1
  · rw [pairs_len]; exact c2
  · rw [hg]; exact fits_there h qs 0 _ c7 hl
  · rw [hW, ← c8]; exact fits_back h qs 0 _ hl
  · rw [hW, hg, ← c8]; exact back_enc h qs 0 _
  · rw [hW, enc_len, gen_len]; omega
  · rw [hW, enc_len, gen_len]
    exact fun i hi => line_enc h f s i hi
end
theorem plainAll (d0 d1 : Int) : Plain (loOf d0) (hiOf d0 d1) (d0.fmod 22) (d1.fmod 22) (pairsFrom (loOf d0) (hiOf d0 d1) 0 (runQ 12 0 (d0.fmod 22) (d1.fmod 22)).1) (runQ 12 0 (d0.fmod 22) (d1.fmod 22)).2.1 (runQ 12 0 (d0.fmod 22) (d1.fmod 22)).2.2 := by
  rw [Int.fmod_eq_emod_of_nonneg d0 (b := 22) (by decide), Int.fmod_eq_emod_of_nonneg d1 (b := 22) (by decide)]
  obtain ⟨f, hf⟩ := Int.eq_ofNat_of_zero_le (Int.emod_nonneg d0 (by decide : (22 : Int) ≠ 0))
  obtain ⟨s, hs⟩ := Int.eq_ofNat_of_zero_le (Int.emod_nonneg d1 (by decide : (22 : Int) ≠ 0))
  have h1 := Int.emod_lt_of_pos d0 (show (0 : Int) < 22 by decide)
  have h2 := Int.emod_lt_of_pos d1 (show (0 : Int) < 22 by decide)
  rw [hf, hs]
  refine plain_two ?_ f s (by omega) (by omega)
  rw [Int.fmod_eq_emod_of_nonneg _ (b := 55296) (by decide), Int.fmod_eq_emod_of_nonneg _ (b := 55296) (by decide), Int.fmod_eq_emod_of_nonneg _ (b := 55295) (by decide)]
  omega
end Pg
end
/-! PgMain -/
section
set_option maxRecDepth 100000
set_option maxHeartbeats 2000000
namespace Pg
theorem main : PySem.Challenge.rw_pg0118_01.Holds := hd (by
  w_on
  k_go0
  refine' lawHead (tab1 := [(37, tabObj #[])]) (tab2 := [(44, tabObj #[])]) ?B ?X ?T ?C1 ?C2 ?hd1 ?hu ?T1 ?T2 ?hS ?hI ?hn plainAll ?m1 ?F ?N ?fin
  case B => assumption
  case X => assumption
  case T => assumption
  case C1 => assumption
  case C2 => assumption
  case T1 => exact .empty
  case T2 => exact .empty
  case hS => assumption
  case hI => assumption
  case F => assumption
  case m1 => exact rfl
  case hd1 => decide
  case hu => decide
  case N => exact cb_drop (by assumption) (by intro q hq; simp at hq ⊢; grind)
  case hn => omega
  intro m' h' tk' tab1 tab2 T1 T2 F9 N9
  obtain ⟨p1, k1⟩ := T1.mem
  obtain ⟨p2, k2⟩ := T2.mem
  refine ⟨?_, GrownAt.of (P := 44) N9 (List.mem_append_right _ (List.mem_append_left _ k2)), GrownAt.of (P := 37) N9 (List.mem_append_left _ k1), True.intro⟩
  dsimp only
  wrow_close)
end Pg
end
set_option maxRecDepth 100000 in
set_option maxHeartbeats 8000000 in
theorem PySem.Challenge.cw_pg0118_01_holds : PySem.Challenge.rw_pg0118_01.Holds := by
  exact Pg.main
