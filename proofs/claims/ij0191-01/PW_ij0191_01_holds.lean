import PyProof.Rows.All
import Wide.All
import OpenK.AllK
import Wide.FinOn
import Open.Tops
import Lean
import PySem.Challenge.RW_ij0191_01
set_option Elab.async false
set_option linter.all false
set_option maxRecDepth 100000
set_option maxHeartbeats 0
set_option compiler.extract_closed false
set_option tactic.hygienic false
section
namespace Mine
inductive A3 (p1 p2 p3 : Prop) : Prop
  | mk (h1 : p1) (h2 : p2) (h3 : p3)
inductive A4 (p1 p2 p3 p4 : Prop) : Prop
  | mk (h1 : p1) (h2 : p2) (h3 : p3) (h4 : p4)
inductive A5 (p1 p2 p3 p4 p5 : Prop) : Prop
  | mk (h1 : p1) (h2 : p2) (h3 : p3) (h4 : p4) (h5 : p5)
inductive A6 (p1 p2 p3 p4 p5 p6 : Prop) : Prop
  | mk (h1 : p1) (h2 : p2) (h3 : p3) (h4 : p4) (h5 : p5) (h6 : p6)
inductive A7 (p1 p2 p3 p4 p5 p6 p7 : Prop) : Prop
  | mk (h1 : p1) (h2 : p2) (h3 : p3) (h4 : p4) (h5 : p5) (h6 : p6) (h7 : p7)
inductive A8 (p1 p2 p3 p4 p5 p6 p7 p8 : Prop) : Prop
  | mk (h1 : p1) (h2 : p2) (h3 : p3) (h4 : p4) (h5 : p5) (h6 : p6) (h7 : p7) (h8 : p8)
inductive A9 (p1 p2 p3 p4 p5 p6 p7 p8 p9 : Prop) : Prop
  | mk (h1 : p1) (h2 : p2) (h3 : p3) (h4 : p4) (h5 : p5) (h6 : p6) (h7 : p7) (h8 : p8) (h9 : p9)
inductive A10 (p1 p2 p3 p4 p5 p6 p7 p8 p9 p10 : Prop) : Prop
  | mk (h1 : p1) (h2 : p2) (h3 : p3) (h4 : p4) (h5 : p5) (h6 : p6) (h7 : p7) (h8 : p8) (h9 : p9) (h10 : p10)
inductive A11 (p1 p2 p3 p4 p5 p6 p7 p8 p9 p10 p11 : Prop) : Prop
  | mk (h1 : p1) (h2 : p2) (h3 : p3) (h4 : p4) (h5 : p5) (h6 : p6) (h7 : p7) (h8 : p8) (h9 : p9) (h10 : p10) (h11 : p11)
inductive A12 (p1 p2 p3 p4 p5 p6 p7 p8 p9 p10 p11 p12 : Prop) : Prop
  | mk (h1 : p1) (h2 : p2) (h3 : p3) (h4 : p4) (h5 : p5) (h6 : p6) (h7 : p7) (h8 : p8) (h9 : p9) (h10 : p10) (h11 : p11) (h12 : p12)
theorem eLe {a b c : Nat} (h : a = b) (h' : b <= c) : a <= c := h ▸ h'
theorem eLt {a b c : Nat} (h : a = b) (h' : b < c) : a < c := h ▸ h'
theorem sLe {a b c : Nat} (h : b = a) (h' : b <= c) : a <= c := h ▸ h'
theorem sLt {a b c : Nat} (h : b = a) (h' : b < c) : a < c := h ▸ h'
theorem leE {a b c : Nat} (h : b = c) (h' : a <= b) : a <= c := h ▸ h'
theorem ltE {a b c : Nat} (h : b = c) (h' : a < b) : a < c := h ▸ h'
theorem leS {a b c : Nat} (h : c = b) (h' : a <= b) : a <= c := h ▸ h'
theorem ltS {a b c : Nat} (h : c = b) (h' : a < b) : a < c := h ▸ h'
theorem leL {a k n : Nat} (h : a <= k) (hk : Nat.ble k n = true) : a <= n := Nat.le_trans h (Nat.le_of_ble_eq_true hk)
theorem ltL {a k n : Nat} (h : a < k) (hk : Nat.ble k n = true) : a < n := Nat.lt_of_lt_of_le h (Nat.le_of_ble_eq_true hk)
theorem lltL {a k n : Nat} (h : a <= k) (hk : Nat.ble (k + 1) n = true) : a < n := Nat.lt_of_le_of_lt h (Nat.le_of_ble_eq_true hk)
theorem ltlL {a k n : Nat} (h : a < k) (hk : Nat.ble k (n + 1) = true) : a <= n := Nat.le_of_lt_succ (Nat.lt_of_lt_of_le h (Nat.le_of_ble_eq_true hk))
theorem adL {a k n c : Nat} (h : a + k < n) (hk : Nat.ble c k = true) : a + c < n := Nat.lt_of_le_of_lt (Nat.add_le_add_left (Nat.le_of_ble_eq_true hk) a) h
theorem ad0 {a k n : Nat} (h : a + k < n) : a < n := Nat.lt_of_le_of_lt (Nat.le_add_right a k) h
theorem ad0l {a k n : Nat} (h : a + k <= n) : a <= n := Nat.le_trans (Nat.le_add_right a k) h
theorem ads {a k n : Nat} (h : a + (k + 1) <= n) : a < n := Nat.lt_of_lt_of_le (Nat.lt_add_of_pos_right k.succ_pos) h
theorem suL {a k n : Nat} (h : a <= k) (hk : Nat.ble (k + 1) n = true) : a + 1 <= n := Nat.le_trans (Nat.succ_le_succ h) (Nat.le_of_ble_eq_true hk)
theorem icl {a b : Nat} (h : (a : Int) < b) : a < b := Int.ofNat_lt.mp h
theorem icn {a b : Nat} (h : ¬ (a : Int) < b) : b <= a := Nat.le_of_not_lt λ x => h (Int.ofNat_lt.mpr x)
theorem icm {a b : Nat} (h : ¬ (a : Int) <= b) : b < a := Nat.lt_of_not_le λ x => h (Int.ofNat_le.mpr x)
theorem ubz {m n : Nat} (h : ¬ 0 < n) : n <= m := Nat.le_trans (Nat.le_of_not_lt h) (Nat.zero_le m)
theorem nlS {a b : Nat} (h : a < b + 1) (hn : ¬ a < b) : a = b := Nat.le_antisymm (Nat.le_of_lt_succ h) (Nat.le_of_not_lt hn)
theorem fll {a m c : Nat} (h2 : m <= c) (h1 : a < m) : a < c := Nat.lt_of_lt_of_le h1 h2
theorem flt {a m c : Nat} (h2 : m < c) (h1 : a <= m) : a < c := Nat.lt_of_le_of_lt h1 h2
theorem fle {a m c : Nat} (h2 : m <= c) (h1 : a <= m) : a <= c := Nat.le_trans h1 h2
theorem sw1 {k f p : Nat} (h : k + (f + 1) <= p) : k + 1 + f <= p := by rw [Nat.add_assoc, Nat.add_comm 1 f]; exact h
theorem sw2 {k f p : Nat} (h : p <= k + 1 + f) : p <= k + (f + 1) := by rw [Nat.add_assoc, Nat.add_comm 1 f] at h; exact h
theorem elL {a b k n : Nat} (e : a = b) (h : b <= k) (hk : Nat.ble k n = true) : a <= n := leL (eLe e h) hk
theorem etL {a b k n : Nat} (e : a = b) (h : b < k) (hk : Nat.ble k (n + 1) = true) : a <= n := ltlL (eLt e h) hk
theorem tlL {a b k n : Nat} (e : a <= b) (h : b <= k) (hk : Nat.ble k n = true) : a <= n := leL (Nat.le_trans e h) hk
theorem ttL {a b k n : Nat} (e : a <= b) (h : b < k) (hk : Nat.ble k (n + 1) = true) : a <= n := ltlL (Nat.lt_of_le_of_lt e h) hk
theorem tuL {a b k n : Nat} (e : a <= b) (h : b < k) (hk : Nat.ble k n = true) : a < n := ltL (Nat.lt_of_le_of_lt e h) hk
theorem tvL {a b k n : Nat} (e : a < b) (h : b < k) (hk : Nat.ble k n = true) : a < n := ltL (Nat.lt_trans e h) hk
theorem etlL {a b c k n : Nat} (e : a = b) (e2 : b <= c) (h : c < k) (hk : Nat.ble k (n + 1) = true) : a <= n := ltlL (eLt e (Nat.lt_of_le_of_lt e2 h)) hk
theorem etL2 {a b c k n : Nat} (e : a = b) (e2 : b <= c) (h : c <= k) (hk : Nat.ble k n = true) : a <= n := leL (eLe e (Nat.le_trans e2 h)) hk
theorem ss1 {a i k : Nat} (h : a - i = k + 1) : a - (i + 1) = k := by rw [Nat.sub_add_eq, h]; rfl
theorem ss2 {n k j : Nat} (h : n - k = j + 1) : k < n := Nat.lt_of_sub_eq_succ h
theorem ss3 {n k : Nat} (h : n - k = 0) (h2 : k <= n) : k = n := Nat.le_antisymm h2 (Nat.le_of_sub_eq_zero h)
theorem ss4 {x k : Nat} (h : k <= x) : x - k + k <= x := Nat.le_of_eq (Nat.sub_add_cancel h)
theorem ss5 {m n : Nat} (h : m < n) : m + (n - m) <= n := Nat.le_of_eq (Nat.add_sub_of_le (Nat.le_of_lt h))
theorem ss6 {k : Nat} (h : 0 < k) : k = k - 1 + 1 := (Nat.sub_add_cancel h).symm
theorem ss7 {n m : Nat} (h : n <= m) (h0 : 1 <= n) : n - 1 < m := Nat.lt_of_lt_of_le (Nat.sub_lt h0 Nat.one_pos) h
theorem ss8 {a b : Nat} (h : a = b + 1) : b < a := h ▸ Nat.lt_succ_self b
theorem ss9 {a b : Nat} (h : a = b + 1) : 0 < a := h ▸ Nat.succ_pos b
theorem ssa {a b : Nat} (h : a = b + 1) : a - 1 < a := h ▸ Nat.lt_succ_self b
theorem ad2 {a b c n : Nat} (h : a + b + c < n) : a < n := ad0 (ad0 h)
theorem ad3 {a k b c n : Nat} (h : a + k < n) (hk : Nat.ble (b + c) k = true) : a + b + c < n := by rw [Nat.add_assoc]; exact adL h hk
theorem ad4 {a m n r : Nat} (h : m <= n) (h2 : a + n < r) : a + m < r := Nat.lt_of_le_of_lt (Nat.add_le_add_left h a) h2
theorem ad5 {a b k l n : Nat} (h : a <= k) (h2 : b <= l) (hk : Nat.ble (k + l + 1) n = true) : a + b < n := Nat.lt_of_lt_of_le (Nat.lt_succ_of_le (Nat.add_le_add h h2)) (Nat.le_of_ble_eq_true hk)
theorem ad6 {a b k l n : Nat} (h : a <= k) (h2 : b <= l) (hk : Nat.ble (k + l) n = true) : a + b <= n := Nat.le_trans (Nat.add_le_add h h2) (Nat.le_of_ble_eq_true hk)
theorem ad7 {a c k n : Nat} (h : a <= k) (hk : Nat.ble (0 + c * k) n = true) : 0 + c * a <= n := Nat.le_trans (Nat.add_le_add_left (Nat.mul_le_mul_left c h) 0) (Nat.le_of_ble_eq_true hk)
theorem ad8 {a k n : Nat} (h : a = k) (hk : Nat.ble (k + 1) n = true) : a < n := h ▸ Nat.le_of_ble_eq_true hk
theorem ad9 {a b : Nat} (h : a + 1 + 1 <= b + 1) : a <= b := Nat.le_of_succ_le (Nat.le_of_succ_le_succ h)
theorem ada {a b : Nat} (h : a + 1 + 1 <= b) : a <= b := Nat.le_of_succ_le (Nat.le_of_succ_le h)
theorem adb {n k : Nat} {P : Prop} (h : n < k) (h2 : k <= n) : P := absurd h (Nat.not_lt_of_le h2)
theorem adc {a b c k n : Nat} (e : a < b) (e2 : b <= c) (h : c < k) (hk : Nat.ble k n = true) : a < n := ltL (Nat.lt_trans (Nat.lt_of_lt_of_le e e2) h) hk
theorem adk {a b c k n : Nat} (e : a <= b) (e2 : b <= c) (h : c < k) (hk : Nat.ble k n = true) : a < n := ltL (Nat.lt_of_le_of_lt e (Nat.lt_of_le_of_lt e2 h)) hk
theorem ade {a b c k n : Nat} (e : a = b) (e2 : b < c) (h : c <= k) (hk : Nat.ble k n = true) : a <= n := leL (Nat.le_of_lt (eLt e (Nat.lt_of_lt_of_le e2 h))) hk
theorem adf {a b c k n : Nat} (e : a <= b) (e2 : b < c) (h : c <= k) (hk : Nat.ble k n = true) : a <= n := leL (Nat.le_of_lt (Nat.lt_of_le_of_lt e (Nat.lt_of_lt_of_le e2 h))) hk
theorem adg {a b c k n : Nat} (e : a <= b) (e2 : b < c) (h : c < k) (hk : Nat.ble k (n + 1) = true) : a <= n := ltlL (Nat.lt_trans (Nat.lt_of_le_of_lt e e2) h) hk
theorem adh {a b c k n : Nat} (e : a = b) (e2 : b = c) (h : c <= k) (hk : Nat.ble k n = true) : a <= n := leL (eLe e (eLe e2 h)) hk
theorem adi {a b k n : Nat} (e : a = b) (h : b < k) (hk : Nat.ble k n = true) : a < n := ltL (eLt e h) hk
theorem bq1 {n p : Nat} (h : (n == p) = true) : n <= p := Nat.le_of_eq (eq_of_beq h)
theorem ic0 {n : Nat} : ((n : Int) - 0).toNat = n := by rw [Int.sub_zero]; rfl
theorem ic1 {k : Nat} : (0 + (k : Int) * 1).toNat = k := by rw [Int.mul_one, Int.zero_add]; rfl
theorem ic2 {k : Nat} : (0 + 1 * (k : Int)).toNat = k := by rw [Int.one_mul, Int.zero_add]; rfl
theorem ic3 {n : Nat} : (-1 + ((n : Int) + 1)).toNat = n := by rw [Int.add_comm, Int.add_neg_cancel_right]; rfl
theorem ic4 {a : Int} {k : Nat} : a + (k : Int) + 1 = a + ((k + 1 : Nat) : Int) := Int.add_assoc a k 1
theorem ic5 {n : Nat} : -1 + ((n + 1 : Nat) : Int) = (n : Int) := by rw [Int.add_comm]; exact Int.add_neg_cancel_right (n : Int) 1
theorem nle {a b : Nat} (h : b + 1 <= a -> False) : a <= b := Nat.le_of_not_lt h
theorem nlt {a b : Nat} (h : b <= a -> False) : a < b := Nat.lt_of_not_le h
def subS (n : Nat) (f : Lean.Syntax -> Lean.Syntax) : Lean.Syntax -> Lean.Syntax := (List.range n).foldl (λ g o_ s => f (s.setArgs (s.getArgs.map g))) id
def pickS (f : String -> Lean.Term) (st : List Lean.Term) (w : String) : List Lean.Term := match w.splitOn ":" with
  | [n, c] => Lean.Syntax.mkApp (Lean.mkIdent n.toName) ⟨(st.take c.toNat!).reverse⟩ :: st.drop c.toNat!
  | _ => f w :: st
def tmS (f : String -> Lean.Term) (w : String) : Lean.Syntax := ((w.splitOn ",").foldl (pickS f) []).headD (f "")
def idS (x y : Lean.Syntax) (z : Lean.Syntax) : Lean.Syntax := if z.isIdent then (if z.getId.eraseMacroScopes == `x then x else y) else z
def altS (f : String -> Lean.Term) (s : Lean.Syntax) (w : String) : Lean.Syntax := match w.splitOn "/" with
  | [r, "H"] => subS 20 (idS (tmS f r) s) (s.getArg 4)
  | [r, q] => subS 20 (idS (tmS f q) (tmS f r)) (s.getArg 1)
  | _ => if w == "T" then s.getArg 3 else subS 20 (idS (tmS f w) s) (s.getArg 2)
def altsS (f : String -> Lean.Term) (s : Lean.Syntax) (a : Array Lean.Syntax) (l : List String) : Lean.Syntax := s.setArgs (l.foldl (λ a w => a.push (altS f s w)) a)
end Mine
end
local macro_rules | `(tactic| ac_nf) => do
  let a <- `(by assumption)
  let r <- `(by decide)
  let h <- `(_)
  let y <- `(λ h__ => by lia)
  let t <- `(tactic| first | with_reducible assumption | (first | lia | omega) | with_reducible refine x)
  return Mine.subS 20 (λ s => if s.getNumArgs == 3 && s.isOfKind `null then
    let n := Mine.altsS (λ w => if w == "a" then a else if w == "r" then r else if w == "y" then y else h) s #[s.getArg 0] ("a,Nat.le_of_lt:1 a,Nat.le_of_eq:1 a,Eq.symm:1,Nat.le_of_eq:1 a,Nat.le_of_not_lt:1 a,Nat.lt_of_not_le:1 _,_,Nat.le_add_right:2 _,_,Nat.le_add_left:2 a,Nat.pos_of_ne_zero:1 a,Nat.lt_of_succ_le:1 a,Nat.succ_le_of_lt:1 a,a,Nat.lt_trans:2 a,icl:1 a,icn:1 a,icm:1 a,Nat.le_of_succ_le_succ:1 a,ad0:1 a,ad0l:1 a,ads:1 a,r,adL:2 a,ubz:1 a,sw1:1 a,sw2:1 a,a,Nat.add_le_add:2 a,_,Nat.add_lt_add_left:2 a,_,Nat.add_le_add_right:2 a,r,ltlL:2 a,r,lltL:2 a,r,ltL:2 a,r,leL:2 a,r,suL:2 a,And.left:1 a,And.right:1 a,And.right:1,And.left:1 a,And.right:1,And.right:1 a,And.right:1,And.right:1,And.left:1 a,And.left:1,Nat.le_of_lt:1 a,a,nlS:2 a,a,Nat.lt_of_lt_of_le:2 a,a,fll:2 a,a,Nat.lt_of_le_of_lt:2 a,a,flt:2 a,a,Nat.le_trans:2 a,a,fle:2 a,a,eLe:2 a,a,eLt:2 a,a,sLe:2 a,a,sLt:2 a,a,leE:2 a,a,ltE:2 a,a,leS:2 a,a,ltS:2 a,a,r,elL:3 a,a,r,etL:3 a,a,r,tlL:3 a,a,r,ttL:3 a,a,r,tuL:3 a,a,r,tvL:3 a,a,a,r,etlL:4 a,a,a,r,etL2:4 a,ss1:1 a,ss2:1 a,a,ss3:2 a,Nat.le_of_sub_eq_zero:1 _,_,Nat.add_sub_cancel:2 a,Nat.sub_add_cancel:1 a,ss4:1 a,ss5:1 a,ss6:1 a,a,ss7:2 a,ss8:1 a,ss9:1 a,ssa:1 a,ad2:1 a,r,ad3:2 a,a,ad4:2 a,a,r,ad5:3 a,a,r,ad6:3 a,r,ad7:2 a,r,ad8:2 a,ad9:1 a,ada:1 a,a,adb:2 a,Nat.le_of_lt:1,Nat.min_eq_left:1 a,Nat.le_succ_of_le:1 a,Nat.le_sub_one_of_lt:1 a,bq1:1 ic0:0 ic1:0 ic2:0 ic3:0 ic4:0 ic5:0 a,a,r,adi:3 a,a,a,r,adc:4 a,a,a,r,adk:4 a,a,a,r,ade:4 a,a,a,r,adf:4 a,a,a,r,adg:4 a,a,a,r,adh:4 y,nlt:1 y,nle:1".splitOn " ")
    n.setArgs (n.getArgs.push (s.getArg 1)) else s) t.raw
section
namespace Mine
end Mine
end
section
open PySem PySem.W PySem.W.X PyProof.Rows
namespace Mine
noncomputable def lAny (p : Nat -> Bool) (l : List Nat) : Bool := @List.rec Nat (λ o_ => Bool) false (λ a o_ r => @Bool.rec (λ o_ => Bool) r true (p a)) l
theorem lAny_eq (p : Nat -> Bool) : ∀ l : List Nat, lAny p l = l.any p
  | [] => rfl
  | a :: l => by
    show @Bool.rec (λ o_ => Bool) (lAny p l) true (p a) = _
    rw [List.any_cons, lAny_eq p l]
    cases p a <;> rfl
noncomputable def anyQ (as : Array Nat) (p : Nat -> Bool) (start : Nat) (stop : Nat) : Bool :=
  @Bool.rec (λ o_ => Bool) (as.any p start stop) (@Bool.rec (λ o_ => Bool) (as.any p start stop) (lAny p as.toList) (Nat.beq stop as.size)) (Nat.beq start 0)
theorem anyQ_eq : @Array.any Nat = anyQ := by
  funext as p start stop
  unfold anyQ
  cases h : Nat.beq start 0 with
  | false => rfl
  | true =>
    have h1 : start = 0 := Nat.eq_of_beq_eq_true h
    cases h' : Nat.beq stop as.size with
    | false => rfl
    | true =>
      have h2 : stop = as.size := Nat.eq_of_beq_eq_true h'
      show as.any p start stop = lAny p as.toList
      rw [lAny_eq, h1, h2, Array.any_toList]
abbrev AnyT := Array Nat -> (Nat -> Bool) -> Nat -> Nat -> Bool
def Carry (_ : Builtin) : Type := Builtin
def carry (f : Builtin) : Carry f := f
noncomputable def newF : AnyT -> Builtin := by
  refine (λ (F : AnyT -> Builtin) (_ : True) => F) ?F ?c
  case c =>
    obtain h_ : Carry PySem.W.Fast.tw4202317264376624991 := by
      delta PySem.W.Fast.tw4202317264376624991
      generalize (@Array.any Nat : AnyT) = a
      exact carry (?F @a)
    exact trivial
theorem newF_at : PySem.W.Fast.tw4202317264376624991 = newF (@Array.any Nat) := by kernel_rfl
noncomputable def newQ : Builtin := newF anyQ
theorem newQ_eq : PySem.Builtin.«type.__new__» = newQ := PySem.W.Fast.te4202317264376624991.trans (newF_at.trans (congrArg newF anyQ_eq))
noncomputable def tbQ (id : String) : Option Builtin := @Bool.rec (λ o_ => Option Builtin) (PySem.W.Fast.tw14364793385576792824 id) (some newQ) (Nat.beq (PySem.code id) (PySem.code "type.__new__"))
theorem at_new : treeTable "type.__new__" = some PySem.Builtin.«type.__new__» := by kernel_rfl!
theorem tbQ_eq : treeTable = tbQ := by
  funext id
  unfold tbQ
  cases h : Nat.beq (PySem.code id) (PySem.code "type.__new__") with
  | false => exact congrFun PySem.W.Fast.te14364793385576792824 id
  | true =>
    have e := PySem.code_inj _ _ (Nat.eq_of_beq_eq_true h)
    show treeTable id = some newQ
    rw [e, at_new, newQ_eq]
noncomputable def o1 (_ : Params) : Obj := { cls := .type "tuple", data := .seq #[] }
noncomputable def o2 (_ : Params) : Obj := { cls := .none, data := .fields #[] }
noncomputable def o3 (_ : Params) : Obj := { cls := .type "code", data := .fields #[.str "<module>" 182, .str "<module>" 183, .str "/claim/cut.py" 184, .int 1 0, .int 0 0, .int 0 0, .int 0 0, .int 0 0, .ref 11, .bool false, .int 181 0, .ref 12, .none, .none, .none, .none, .int 185 0, .int 1 0, .str "/claim/cut.py" 186] }
noncomputable def o4 (_ : Params) : Obj := { cls := .type "frame", slots := #[some (.ref 13), some (.ref 3), some (.ref 3), none, some (.str "__main__" 164), none, some (.ref 0)] }
noncomputable def tree4 (P : Params) : BT :=
  .node (boot_o_0 P)
    (.node (boot_o_1 P) (.node (boot_o_3 P) (.node (boot_o_7 P) .nil .nil) (.node (o1 P) .nil .nil)) (.node (boot_o_5 P) (.node (boot_o_9 P) .nil .nil) (.node (o3 P) .nil .nil)))
    (.node (boot_o_2 P) (.node (boot_o_4 P) (.node (boot_o_8 P) .nil .nil) (.node (o2 P) .nil .nil)) (.node (boot_o_6 P) (.node (boot_o_10 P) .nil .nil) (.node (o4 P) .nil .nil)))
abbrev pw : Program := PySem.Challenge.pw_ij0191_01
def CarryP (_ : Program) : Type := Program
def carryP (f : Program) : CarryP f := f
noncomputable def pF : (String -> Str) -> Program := by
  refine (λ (F : (String -> Str) -> Program) (_ : True) => F) ?F ?c
  case c =>
    obtain h_ : CarryP PySem.Challenge.pw_ij0191_01 := by
      delta PySem.Challenge.pw_ij0191_01
      generalize Str.ofString = g
      exact carryP (?F g)
    exact trivial
noncomputable def numsOf (l : List UInt8) : List Nat := @List.rec UInt8 (λ o_ => List Nat) [] (λ b o_ r => b.toNat :: r) l
theorem numsOf_eq : ∀ l : List UInt8, S.allLow l = true -> numsOf l = (S.decA l).map Char.toNat
  | [], _ => rfl
  | b :: l, h => by
    rw [S.allLow_cons, Bool.and_eq_true] at h
    have h1 : b.toNat <= 127 := Nat.le_of_ble_eq_true h.1
    show b.toNat :: numsOf l = (Char.ofNat b.toNat).toNat :: (S.decA l).map Char.toNat
    rw [numsOf_eq l h.2]
    have : (Char.ofNat b.toNat).toNat = b.toNat := by
      have v : b.toNat.isValidChar := .inl (by ac_nf)
      unfold Char.ofNat
      rw [dif_pos v]
      rfl
    rw [this]
noncomputable def quickOf (s : String) : Str := @Bool.rec (λ o_ => Str) (Str.ofString s) ⟨⟨numsOf (S.bytesOf s)⟩⟩ (S.allLow (S.bytesOf s))
theorem quickOf_eq : Str.ofString = quickOf := by
  funext s
  unfold quickOf
  cases h : S.allLow (S.bytesOf s) with
  | false => rfl
  | true =>
    have e : s.toList = S.decA (S.bytesOf s) := by
      rw [S.toListS_eq]
      show @Bool.rec (λ o_ => List Char) s.toList (S.decA (S.bytesOf s)) (S.allLow (S.bytesOf s)) = _
      rw [h]
    rw [Str.ofString_eq_toList, e]
    show _ = (⟨⟨numsOf (S.bytesOf s)⟩⟩ : Str)
    rw [numsOf_eq _ h]
noncomputable def docIn (q : Program) : Str := match q.main.body.drop 7 with
  | .ClassDef _ _ _ (.Expr (.Constant (.str d) _ _) _ :: _) _ _ _ _ _ _ _ :: _ => d
  | _ => ""
noncomputable def withDoc (st : Stmt) (d : Str) : Stmt := match st with
  | .ClassDef a b c (.Expr (.Constant (.str _) k p) p2 :: rest) e f g h i j l => .ClassDef a b c (.Expr (.Constant (.str d) k p) p2 :: rest) e f g h i j l
  | s => s
noncomputable def setDoc (q : Program) (d : Str) : Program := { q with main := { q.main with body := q.main.body.take 7 ++ (match q.main.body.drop 7 with
  | x :: y => withDoc x d :: y
  | [] => []) } }
def CarryS (_ : Str) : Type := Str
def carryS (f : Str) : CarryS f := f
noncomputable def docF (g : String -> Str) : Str := by
  refine (λ (d : Str) (_ : True) => d) ?d ?c
  case c =>
    obtain h_ : CarryS (docIn (pF g)) := by
      conv => arg 1; whnf
      exact carryS ?d
    exact trivial
noncomputable def docCs : List Char := by
  refine (λ (l : List Char) (_ : docF = λ g => g (String.ofList l)) => l) ?l ?c
  case c =>
    delta docF
    rfl
noncomputable def numsC (l : List Char) : List Nat := @List.rec Char (λ o_ => List Nat) [] (λ c o_ r => c.val.toNat :: r) l
theorem numsC_eq : ∀ l : List Char, numsC l = l.map Char.toNat
  | [] => rfl
  | c :: l => congrArg (c.toNat :: ·) (numsC_eq l)
noncomputable def docY : Str := ⟨⟨numsC docCs⟩⟩
theorem docY_eq : docF Str.ofString = docY := by
  have h : docF Str.ofString = Str.ofString (String.ofList docCs) := by kernel_rfl!
  rw [h, PySem.W.Fast.ofString_ofList, <- numsC_eq]
  rfl
noncomputable def pq : Program := setDoc (pF quickOf) docY
theorem pq_eq : pw = pq := by
  have h : pw = setDoc (pF Str.ofString) (docF Str.ofString) := by kernel_rfl!
  rw [h, docY_eq, quickOf_eq]
  rfl
noncomputable def posF : Pos := ⟨0, 0, 0, 0⟩
noncomputable def envG (q : Program) : Env := { scope := q.main.scope, locals := mainNs, globals := mainNs, cells := [], code := .ref 13, frame := some 14 }
noncomputable def cG (q : Program) : Code := .body (behindTheImports q) (envG q)
noncomputable def S4 (w : World) (os : OsState) : SharedT := ⟨tree4 w.params, 15, {}, ⟨[]⟩, {}, 187, os⟩
noncomputable def runG (q : Program) (w : World) (os : OsState) : Option (Flow × SharedT × Code × Pos) :=
  segRunT tbQ q w 11 (some (.ref 6)) 1 6930 (S4 w os) (piecesOf (behindTheImports q) (envG q) (cG q) posF [topFrame posF])
theorem runG_self : runG = runG := rfl
name_quick runY for Mine.runG by Mine.runG_self
noncomputable def qvG (q : Program) : Program := { q with main := { q.main with body := q.main.body.drop 16 } }
noncomputable def qv : Program := qvG pw
noncomputable def cE : Code := cG pw
noncomputable def jV : List Str := ["_wall", "Flags", "_tuplegetter", "Match", "_calculate_ratio", "SequenceMatcher", "_law_drawn", "_law_do", "_law_marks", "_law_junk", "_law_best", "_law_blocks", "_law_told"]
noncomputable def S0 (w : World) (os : OsState) : Shared := ⟨boot_heap w.params, ⟨[]⟩, boot_drawn, boot_toks, os⟩
noncomputable def preG (q : Program) (w : World) (os : OsState) : Option (Shared × Thread) := topGo treeTable q w 11 (some (.ref 6)) 12 (S0 w os) (topStub q)
theorem preG_self : preG = preG := rfl
name_quick preY for Mine.preG by Mine.preG_self
noncomputable def preV (q : Program) (w : World) (os : OsState) : Option (Shared × Thread) := some ((S4 w os).abs, ⟨denote treeTable (cG q), cG q, posF, [topFrame posF]⟩)
theorem preV_self : preV = preV := rfl
name_quick preZ for Mine.preV by Mine.preV_self
theorem pre_eq (w : World) (os : OsState) : preG pw w os = preV pw w os := by
  rw [pq_eq, PySem.W.Fast.preY_eq, PySem.W.Fast.preZ_eq]
  kernel_rfl!
theorem blk_eq (w : World) (os : OsState) : segRun treeTable pw w 11 (some (.ref 6)) 1 1 (S4 w os).abs (blockOf (behindTheImports pw) (envG pw) cE posF [topFrame posF]) = some (.next, (S4 w os).abs, cE, posF) := by
  kernel_rfl!
theorem size_eq (w : World) : ((boot_heap w.params).isNs mainGlobals && (⟨[]⟩ : Array GenState).size == 0, (boot_heap w.params).objs.size, (boot_heap w.params).nsMap mainGlobals "__annotations__") = (true, 11, some (.ref 6)) := by kernel_rfl!
noncomputable def stAtG (q : Program) (k : Nat) : Stmt := (q.main.body[k]?).getD (.Pass ⟨0, 0, 0, 0⟩)
noncomputable def stAt (k : Nat) : Stmt := stAtG pw k
noncomputable def clsBodyG (q : Program) (k : Nat) : List Stmt := match stAtG q k with
  | .ClassDef _ _ _ b _ _ _ _ _ _ _ => b
  | _ => []
noncomputable def clsBody (k : Nat) : List Stmt := clsBodyG pw k
noncomputable def mAtG (q : Program) (k i : Nat) : Stmt := ((clsBodyG q k)[i]?).getD (.Pass ⟨0, 0, 0, 0⟩)
noncomputable def mAt (k i : Nat) : Stmt := mAtG pw k i
noncomputable def docVal (b : List Stmt) (t : Tok) : Value := match PySem.docOf b with
  | some s => .str s t
  | none => .none
noncomputable def defRec (st : Stmt) : DefRec := match st with
  | .FunctionDef n a b _ _ _ sc _ _ pos => ⟨n, a, b, sc, pos⟩
  | _ => ⟨⟨#[]⟩, ⟨[], [], none, [], [], none, []⟩, [], ⟨.function, [], false, false, []⟩, ⟨0, 0, 0, 0⟩⟩
noncomputable def yi (st : Stmt) (qual : Str) (dflt pm cd : Value) (dt : Tok) (an : Option Addr) : FuncData :=
  { name := (defRec st).name, qualname := qual, params := (defRec st).params, body := .stmts (defRec st).body, scope := (defRec st).scope, globals := mainGlobals, closure := [], defaults := dflt, kwdefaults := .none,
    doc := docVal (defRec st).body dt, pyModule := pm, annotations := an, code := cd, closureTuple := .none, builtins := builtinsNs }
noncomputable def en (rd : String -> Str) (kh : Params -> Str -> Int) (P : Params) (k : String) (t : Tok) (v : Value) : DictEntry := ⟨kh P (rd k), .str (rd k) t, v⟩
noncomputable def zw (o : Option Obj) : Option Str := match o with
  | some o => (match o.data with
    | .fields vs => (match vs.toList with
      | _ :: .str n _ :: _ => some n
      | _ => none)
    | _ => none)
  | none => none
noncomputable def fFInitR (rd : String -> Str) (q : Program) : FuncData := (yi (mAtG q 2 3) (rd "Flags.__init__") (.none) (.str (rd "cpy313.tomllib._parser") 194) (.ref 34) 0 none)
noncomputable def fFInit : FuncData := fFInitR Str.ofString pw
noncomputable def fUnsetR (rd : String -> Str) (q : Program) : FuncData := (yi (mAtG q 2 6) (rd "Flags.unset_all") (.none) (.str (rd "cpy313.tomllib._parser") 194) (.ref 55) 0 none)
noncomputable def fUnset : FuncData := fUnsetR Str.ofString pw
noncomputable def fSetR (rd : String -> Str) (q : Program) : FuncData := (yi (mAtG q 2 7) (rd "Flags.set") (.none) (.str (rd "cpy313.tomllib._parser") 194) (.ref 62) 0 none)
noncomputable def fSet : FuncData := fSetR Str.ofString pw
noncomputable def fIsR (rd : String -> Str) (q : Program) : FuncData := (yi (mAtG q 2 8) (rd "Flags.is_") (.none) (.str (rd "cpy313.tomllib._parser") 194) (.ref 69) 0 none)
noncomputable def fIs : FuncData := fIsR Str.ofString pw
noncomputable def fMNewR (rd : String -> Str) (q : Program) : FuncData := (yi (mAtG q 5 4) (rd "Match.__new__") (.none) (.str (rd "cpy313.difflib") 284) (.ref 137) 373 none)
noncomputable def fMNew : FuncData := fMNewR Str.ofString pw
noncomputable def fMMakeR (rd : String -> Str) (q : Program) : FuncData := (yi (mAtG q 5 5) (rd "Match._make") (.none) (.str (rd "cpy313.difflib") 284) (.ref 144) 383 (some 148))
noncomputable def fMMake : FuncData := fMMakeR Str.ofString pw
noncomputable def fSInitR (rd : String -> Str) (q : Program) : FuncData := (yi (mAtG q 7 1) (rd "SequenceMatcher.__init__") (.ref 209) (.str (rd "cpy313.difflib") 284) (.ref 215) 506 none)
noncomputable def fSInit : FuncData := fSInitR Str.ofString pw
noncomputable def fSeqsR (rd : String -> Str) (q : Program) : FuncData := (yi (mAtG q 7 2) (rd "SequenceMatcher.set_seqs") (.none) (.str (rd "cpy313.difflib") 284) (.ref 222) 516 none)
noncomputable def fSeqs : FuncData := fSeqsR Str.ofString pw
noncomputable def fSeq1R (rd : String -> Str) (q : Program) : FuncData := (yi (mAtG q 7 3) (rd "SequenceMatcher.set_seq1") (.none) (.str (rd "cpy313.difflib") 284) (.ref 229) 525 none)
noncomputable def fSeq1 : FuncData := fSeq1R Str.ofString pw
noncomputable def fSeq2R (rd : String -> Str) (q : Program) : FuncData := (yi (mAtG q 7 4) (rd "SequenceMatcher.set_seq2") (.none) (.str (rd "cpy313.difflib") 284) (.ref 236) 534 none)
noncomputable def fSeq2 : FuncData := fSeq2R Str.ofString pw
noncomputable def fChainR (rd : String -> Str) (q : Program) : FuncData := (yi (mAtG q 7 5) (rd "SequenceMatcher.__chain_b") (.none) (.str (rd "cpy313.difflib") 284) (.ref 243) 0 none)
noncomputable def fChain : FuncData := fChainR Str.ofString pw
noncomputable def fFindR (rd : String -> Str) (q : Program) : FuncData := (yi (mAtG q 7 6) (rd "SequenceMatcher.find_longest_match") (.ref 245) (.str (rd "cpy313.difflib") 284) (.ref 251) 580 none)
noncomputable def fFind : FuncData := fFindR Str.ofString pw
noncomputable def fBlkR (rd : String -> Str) (q : Program) : FuncData := (yi (mAtG q 7 7) (rd "SequenceMatcher.get_matching_blocks") (.none) (.str (rd "cpy313.difflib") 284) (.ref 258) 607 none)
noncomputable def fBlk : FuncData := fBlkR Str.ofString pw
noncomputable def fLDrawnR (rd : String -> Str) (q : Program) : FuncData := (yi (stAtG q 9) (rd "_law_drawn") (.none) (.str (rd "law_ij0191_01") 665) (.ref 308) 0 none)
noncomputable def fLDrawn : FuncData := fLDrawnR Str.ofString pw
noncomputable def fLDoR (rd : String -> Str) (q : Program) : FuncData := (yi (stAtG q 10) (rd "_law_do") (.none) (.str (rd "law_ij0191_01") 665) (.ref 315) 0 none)
noncomputable def fLDo : FuncData := fLDoR Str.ofString pw
noncomputable def fLMarksR (rd : String -> Str) (q : Program) : FuncData := (yi (stAtG q 11) (rd "_law_marks") (.none) (.str (rd "law_ij0191_01") 665) (.ref 320) 0 none)
noncomputable def yA : FuncData := fLMarksR Str.ofString pw
noncomputable def fLJunkR (rd : String -> Str) (q : Program) : FuncData := (yi (stAtG q 12) (rd "_law_junk") (.none) (.str (rd "law_ij0191_01") 665) (.ref 327) 0 none)
noncomputable def fLJunk : FuncData := fLJunkR Str.ofString pw
noncomputable def fLBestR (rd : String -> Str) (q : Program) : FuncData := (yi (stAtG q 13) (rd "_law_best") (.none) (.str (rd "law_ij0191_01") 665) (.ref 334) 0 none)
noncomputable def yt : FuncData := fLBestR Str.ofString pw
noncomputable def fLBlocksR (rd : String -> Str) (q : Program) : FuncData := (yi (stAtG q 14) (rd "_law_blocks") (.none) (.str (rd "law_ij0191_01") 665) (.ref 339) 0 none)
noncomputable def yd : FuncData := fLBlocksR Str.ofString pw
noncomputable def fLToldR (rd : String -> Str) (q : Program) : FuncData := (yi (stAtG q 15) (rd "_law_told") (.none) (.str (rd "law_ij0191_01") 665) (.ref 344) 0 none)
noncomputable def fLTold : FuncData := fLToldR Str.ofString pw
noncomputable def fLRunR (rd : String -> Str) (q : Program) : FuncData := (yi (stAtG q 16) (rd "_law_run") (.none) (.str (rd "law_ij0191_01") 665) (.ref 351) 0 none)
noncomputable def yc : FuncData := fLRunR Str.ofString pw
noncomputable def fLawR (rd : String -> Str) (q : Program) : FuncData := (yi (stAtG q 17) (rd "law") (.none) (.str (rd "law_ij0191_01") 665) (.ref 358) 0 none)
noncomputable def fLaw : FuncData := fLawR Str.ofString pw
noncomputable def k3R (rd : String -> Str) (kh : Params -> Str -> Int) (_ : Program) (P : Params) : Obj := ⟨.type "dict", none, .dict [en rd kh P "__name__" 165 (.str (rd "law_ij0191_01") 665), en rd kh P "__doc__" 166 (.none), en rd kh P "__package__" 167 (.none), en rd kh P "__loader__" 168 (.builtin "__main__.__loader__#opaque"), en rd kh P "__spec__" 169 (.none), en rd kh P "__annotations__" 170 (.ref 6), en rd kh P "__builtins__" 171 (.ref 4), en rd kh P "__file__" 173 (.str (rd "/claim/cut.py") 172), en rd kh P "__cached__" 174 (.none), en rd kh P "_wall" 193 (.ref 21), en rd kh P "Flags" 283 (.ref 73), en rd kh P "_tuplegetter" 342 (.ref 116), en rd kh P "Match" 470 (.ref 191), en rd kh P "_calculate_ratio" 478 (.ref 201), en rd kh P "SequenceMatcher" 664 (.ref 298), en rd kh P "_law_drawn" 683 (.ref 309), en rd kh P "_law_do" 694 (.ref 316), en rd kh P "_law_marks" 700 (.ref 321), en rd kh P "_law_junk" 712 (.ref 328), en rd kh P "_law_best" 729 (.ref 335), en rd kh P "_law_blocks" 735 (.ref 340), en rd kh P "_law_told" 741 (.ref 345), en rd kh P "_law_run" 754 (.ref 352), en rd kh P "law" 769 (.ref 359)].toArray 24, #[]⟩
noncomputable def k3 (P : Params) : Obj := k3R Str.ofString PyData.keyHash pw P
noncomputable def k35R (rd : String -> Str) (kh : Params -> Str -> Int) (q : Program) (P : Params) : Obj := ⟨.type "function", none, .func (fFInitR rd q), #[]⟩
noncomputable def k35 (P : Params) : Obj := k35R Str.ofString PyData.keyHash pw P
noncomputable def k56R (rd : String -> Str) (kh : Params -> Str -> Int) (q : Program) (P : Params) : Obj := ⟨.type "function", none, .func (fUnsetR rd q), #[]⟩
noncomputable def k56 (P : Params) : Obj := k56R Str.ofString PyData.keyHash pw P
noncomputable def k63R (rd : String -> Str) (kh : Params -> Str -> Int) (q : Program) (P : Params) : Obj := ⟨.type "function", none, .func (fSetR rd q), #[]⟩
noncomputable def k63 (P : Params) : Obj := k63R Str.ofString PyData.keyHash pw P
noncomputable def k70R (rd : String -> Str) (kh : Params -> Str -> Int) (q : Program) (P : Params) : Obj := ⟨.type "function", none, .func (fIsR rd q), #[]⟩
noncomputable def k70 (P : Params) : Obj := k70R Str.ofString PyData.keyHash pw P
noncomputable def k72R (rd : String -> Str) (kh : Params -> Str -> Int) (q : Program) (P : Params) : Obj := ⟨.type "dict", none, .dict [en rd kh P "__module__" 203 (.str (rd "cpy313.tomllib._parser") 194), en rd kh P "__firstlineno__" 207 (.int 5 206), en rd kh P "__doc__" 209 ((docVal (clsBodyG q 2) 208)), en rd kh P "FROZEN" 212 (.int 0 211), en rd kh P "EXPLICIT_NEST" 214 (.int 1 213), en rd kh P "__init__" 221 (.ref 35), en rd kh P "add_pending" 230 (.ref 42), en rd kh P "finalize_pending" 237 (.ref 49), en rd kh P "unset_all" 247 (.ref 56), en rd kh P "set" 261 (.ref 63), en rd kh P "is_" 274 (.ref 70), en rd kh P "__static_attributes__" 277 (.ref 71), en rd kh P "__dict__" 279 (.ref 74), en rd kh P "__weakref__" 281 (.ref 75)].toArray 3, #[]⟩
noncomputable def k72 (P : Params) : Obj := k72R Str.ofString PyData.keyHash pw P
noncomputable def k73R (rd : String -> Str) (kh : Params -> Str -> Int) (_ : Program) (P : Params) : Obj := ⟨.type "type", none, .cls { name := (rd "Flags"), bases := [.type "object"], mro := [.ref 73, .type "object"], ns := 72, qualname := (rd "Flags"), hasDict := true, slotNames := [], subclasses := [], abstract := false, collection := none, hasDel := false }, [none, none, some (.str (rd "Flags") 196), some (.str (rd "Flags") 204), some (.builtin "object.__new__"), some (.bool true)].toArray⟩
noncomputable def k73 (P : Params) : Obj := k73R Str.ofString PyData.keyHash pw P
noncomputable def k138R (rd : String -> Str) (kh : Params -> Str -> Int) (q : Program) (P : Params) : Obj := ⟨.type "function", none, .func (fMNewR rd q), #[]⟩
noncomputable def k138 (P : Params) : Obj := k138R Str.ofString PyData.keyHash pw P
noncomputable def k145R (rd : String -> Str) (kh : Params -> Str -> Int) (q : Program) (P : Params) : Obj := ⟨.type "function", none, .func (fMMakeR rd q), #[]⟩
noncomputable def k145 (P : Params) : Obj := k145R Str.ofString PyData.keyHash pw P
noncomputable def k147R (rd : String -> Str) (kh : Params -> Str -> Int) (_ : Program) (P : Params) : Obj := ⟨.type "classmethod", some 146, .fields [.ref 145, .bool false].toArray, #[]⟩
noncomputable def k147 (P : Params) : Obj := k147R Str.ofString PyData.keyHash pw P
noncomputable def k190R (rd : String -> Str) (kh : Params -> Str -> Int) (q : Program) (P : Params) : Obj := ⟨.type "dict", none, .dict [en rd kh P "__module__" 350 (.str (rd "cpy313.difflib") 284), en rd kh P "__firstlineno__" 354 (.int 74 353), en rd kh P "__doc__" 356 ((docVal (clsBodyG q 5) 355)), en rd kh P "__slots__" 358 (.ref 129), en rd kh P "_fields" 362 (.ref 130), en rd kh P "_field_defaults" 363 (.ref 131), en rd kh P "__new__" 374 (.ref 192), en rd kh P "_make" 396 (.ref 147), en rd kh P "_replace" 407 (.ref 156), en rd kh P "__replace__" 408 (.ref 156), en rd kh P "__repr__" 416 (.ref 163), en rd kh P "_asdict" 423 (.ref 170), en rd kh P "__getnewargs__" 431 (.ref 177), en rd kh P "__match_args__" 435 (.ref 178), en rd kh P "a" 445 (.ref 180), en rd kh P "b" 455 (.ref 183), en rd kh P "size" 465 (.ref 186), en rd kh P "__static_attributes__" 466 (.ref 188)].toArray 2, #[]⟩
noncomputable def k190 (P : Params) : Obj := k190R Str.ofString PyData.keyHash pw P
noncomputable def k191R (rd : String -> Str) (kh : Params -> Str -> Int) (_ : Program) (P : Params) : Obj := ⟨.type "type", none, .cls { name := (rd "Match"), bases := [.type "tuple"], mro := [.ref 191, .type "tuple", .type "object"], ns := 190, qualname := (rd "Match"), hasDict := false, slotNames := [], subclasses := [], abstract := false, collection := none, hasDel := false }, [some (.ref 121), none, some (.str (rd "Match") 343), some (.str (rd "Match") 351), some (.none), some (.bool false)].toArray⟩
noncomputable def k191 (P : Params) : Obj := k191R Str.ofString PyData.keyHash pw P
noncomputable def k192R (rd : String -> Str) (kh : Params -> Str -> Int) (_ : Program) (P : Params) : Obj := ⟨.type "staticmethod", none, .fields [.ref 138].toArray, #[]⟩
noncomputable def k192 (P : Params) : Obj := k192R Str.ofString PyData.keyHash pw P
noncomputable def k209R (rd : String -> Str) (kh : Params -> Str -> Int) (_ : Program) (P : Params) : Obj := ⟨.type "tuple", none, .seq [.none, .str (rd "") 494, .str (rd "") 495, .bool true].toArray 0, #[]⟩
noncomputable def k209 (P : Params) : Obj := k209R Str.ofString PyData.keyHash pw P
noncomputable def k216R (rd : String -> Str) (kh : Params -> Str -> Int) (q : Program) (P : Params) : Obj := ⟨.type "function", none, .func (fSInitR rd q), #[]⟩
noncomputable def k216 (P : Params) : Obj := k216R Str.ofString PyData.keyHash pw P
noncomputable def k223R (rd : String -> Str) (kh : Params -> Str -> Int) (q : Program) (P : Params) : Obj := ⟨.type "function", none, .func (fSeqsR rd q), #[]⟩
noncomputable def k223 (P : Params) : Obj := k223R Str.ofString PyData.keyHash pw P
noncomputable def k230R (rd : String -> Str) (kh : Params -> Str -> Int) (q : Program) (P : Params) : Obj := ⟨.type "function", none, .func (fSeq1R rd q), #[]⟩
noncomputable def k230 (P : Params) : Obj := k230R Str.ofString PyData.keyHash pw P
noncomputable def k237R (rd : String -> Str) (kh : Params -> Str -> Int) (q : Program) (P : Params) : Obj := ⟨.type "function", none, .func (fSeq2R rd q), #[]⟩
noncomputable def k237 (P : Params) : Obj := k237R Str.ofString PyData.keyHash pw P
noncomputable def k244R (rd : String -> Str) (kh : Params -> Str -> Int) (q : Program) (P : Params) : Obj := ⟨.type "function", none, .func (fChainR rd q), #[]⟩
noncomputable def k244 (P : Params) : Obj := k244R Str.ofString PyData.keyHash pw P
noncomputable def k245R (rd : String -> Str) (kh : Params -> Str -> Int) (_ : Program) (P : Params) : Obj := ⟨.type "tuple", none, .seq [.int 0 554, .none, .int 0 555, .none].toArray 0, #[]⟩
noncomputable def k245 (P : Params) : Obj := k245R Str.ofString PyData.keyHash pw P
noncomputable def k252R (rd : String -> Str) (kh : Params -> Str -> Int) (q : Program) (P : Params) : Obj := ⟨.type "function", none, .func (fFindR rd q), #[]⟩
noncomputable def k252 (P : Params) : Obj := k252R Str.ofString PyData.keyHash pw P
noncomputable def k259R (rd : String -> Str) (kh : Params -> Str -> Int) (q : Program) (P : Params) : Obj := ⟨.type "function", none, .func (fBlkR rd q), #[]⟩
noncomputable def k259 (P : Params) : Obj := k259R Str.ofString PyData.keyHash pw P
noncomputable def k297R (rd : String -> Str) (kh : Params -> Str -> Int) (q : Program) (P : Params) : Obj := ⟨.type "dict", none, .dict [en rd kh P "__module__" 486 (.str (rd "cpy313.difflib") 284), en rd kh P "__firstlineno__" 490 (.int 121 489), en rd kh P "__doc__" 492 ((docVal (clsBodyG q 7) 491)), en rd kh P "__init__" 507 (.ref 216), en rd kh P "set_seqs" 517 (.ref 223), en rd kh P "set_seq1" 526 (.ref 230), en rd kh P "set_seq2" 535 (.ref 237), en rd kh P "_SequenceMatcher__chain_b" 553 (.ref 244), en rd kh P "find_longest_match" 581 (.ref 252), en rd kh P "get_matching_blocks" 608 (.ref 259), en rd kh P "get_opcodes" 615 (.ref 266), en rd kh P "get_grouped_opcodes" 624 (.ref 274), en rd kh P "ratio" 633 (.ref 281), en rd kh P "quick_ratio" 640 (.ref 288), en rd kh P "real_quick_ratio" 647 (.ref 295), en rd kh P "__static_attributes__" 658 (.ref 296), en rd kh P "__dict__" 660 (.ref 299), en rd kh P "__weakref__" 662 (.ref 300)].toArray 3, #[]⟩
noncomputable def k297 (P : Params) : Obj := k297R Str.ofString PyData.keyHash pw P
noncomputable def k298R (rd : String -> Str) (kh : Params -> Str -> Int) (_ : Program) (P : Params) : Obj := ⟨.type "type", none, .cls { name := (rd "SequenceMatcher"), bases := [.type "object"], mro := [.ref 298, .type "object"], ns := 297, qualname := (rd "SequenceMatcher"), hasDict := true, slotNames := [], subclasses := [], abstract := false, collection := none, hasDel := false }, [none, none, some (.str (rd "SequenceMatcher") 479), some (.str (rd "SequenceMatcher") 487), some (.builtin "object.__new__"), some (.bool true)].toArray⟩
noncomputable def k298 (P : Params) : Obj := k298R Str.ofString PyData.keyHash pw P
noncomputable def k309R (rd : String -> Str) (kh : Params -> Str -> Int) (q : Program) (P : Params) : Obj := ⟨.type "function", none, .func (fLDrawnR rd q), #[]⟩
noncomputable def k309 (P : Params) : Obj := k309R Str.ofString PyData.keyHash pw P
noncomputable def k316R (rd : String -> Str) (kh : Params -> Str -> Int) (q : Program) (P : Params) : Obj := ⟨.type "function", none, .func (fLDoR rd q), #[]⟩
noncomputable def k316 (P : Params) : Obj := k316R Str.ofString PyData.keyHash pw P
noncomputable def k321R (rd : String -> Str) (kh : Params -> Str -> Int) (q : Program) (P : Params) : Obj := ⟨.type "function", none, .func (fLMarksR rd q), #[]⟩
noncomputable def k321 (P : Params) : Obj := k321R Str.ofString PyData.keyHash pw P
noncomputable def k328R (rd : String -> Str) (kh : Params -> Str -> Int) (q : Program) (P : Params) : Obj := ⟨.type "function", none, .func (fLJunkR rd q), #[]⟩
noncomputable def k328 (P : Params) : Obj := k328R Str.ofString PyData.keyHash pw P
noncomputable def k335R (rd : String -> Str) (kh : Params -> Str -> Int) (q : Program) (P : Params) : Obj := ⟨.type "function", none, .func (fLBestR rd q), #[]⟩
noncomputable def k335 (P : Params) : Obj := k335R Str.ofString PyData.keyHash pw P
noncomputable def k340R (rd : String -> Str) (kh : Params -> Str -> Int) (q : Program) (P : Params) : Obj := ⟨.type "function", none, .func (fLBlocksR rd q), #[]⟩
noncomputable def k340 (P : Params) : Obj := k340R Str.ofString PyData.keyHash pw P
noncomputable def k345R (rd : String -> Str) (kh : Params -> Str -> Int) (q : Program) (P : Params) : Obj := ⟨.type "function", none, .func (fLToldR rd q), #[]⟩
noncomputable def k345 (P : Params) : Obj := k345R Str.ofString PyData.keyHash pw P
noncomputable def k352R (rd : String -> Str) (kh : Params -> Str -> Int) (q : Program) (P : Params) : Obj := ⟨.type "function", none, .func (fLRunR rd q), #[]⟩
noncomputable def k352 (P : Params) : Obj := k352R Str.ofString PyData.keyHash pw P
noncomputable def k359R (rd : String -> Str) (kh : Params -> Str -> Int) (q : Program) (P : Params) : Obj := ⟨.type "function", none, .func (fLawR rd q), #[]⟩
noncomputable def k359 (P : Params) : Obj := k359R Str.ofString PyData.keyHash pw P
noncomputable def KqG (q : Program) (P : Params) : Frag := [(3, k3R Str.ofString PyData.keyHash q P), (35, k35R Str.ofString PyData.keyHash q P), (56, k56R Str.ofString PyData.keyHash q P), (63, k63R Str.ofString PyData.keyHash q P), (70, k70R Str.ofString PyData.keyHash q P), (72, k72R Str.ofString PyData.keyHash q P), (73, k73R Str.ofString PyData.keyHash q P), (138, k138R Str.ofString PyData.keyHash q P), (145, k145R Str.ofString PyData.keyHash q P), (147, k147R Str.ofString PyData.keyHash q P), (190, k190R Str.ofString PyData.keyHash q P), (191, k191R Str.ofString PyData.keyHash q P), (192, k192R Str.ofString PyData.keyHash q P), (209, k209R Str.ofString PyData.keyHash q P), (216, k216R Str.ofString PyData.keyHash q P), (223, k223R Str.ofString PyData.keyHash q P), (230, k230R Str.ofString PyData.keyHash q P), (237, k237R Str.ofString PyData.keyHash q P), (244, k244R Str.ofString PyData.keyHash q P), (245, k245R Str.ofString PyData.keyHash q P), (252, k252R Str.ofString PyData.keyHash q P), (259, k259R Str.ofString PyData.keyHash q P), (297, k297R Str.ofString PyData.keyHash q P), (298, k298R Str.ofString PyData.keyHash q P), (309, k309R Str.ofString PyData.keyHash q P), (316, k316R Str.ofString PyData.keyHash q P), (321, k321R Str.ofString PyData.keyHash q P), (328, k328R Str.ofString PyData.keyHash q P), (335, k335R Str.ofString PyData.keyHash q P), (340, k340R Str.ofString PyData.keyHash q P), (345, k345R Str.ofString PyData.keyHash q P), (352, k352R Str.ofString PyData.keyHash q P), (359, k359R Str.ofString PyData.keyHash q P)]
noncomputable def Kq (P : Params) : Frag := KqG pw P
noncomputable def asQ : List Addr := [3, 35, 56, 63, 70, 72, 73, 138, 145, 147, 190, 191, 192, 209, 216, 223, 230, 237, 244, 245, 252, 259, 297, 298, 309, 316, 321, 328, 335, 340, 345, 352, 359]
noncomputable def cdsQ : List (Addr × Str) := [(34, "Flags.__init__"), (55, "Flags.unset_all"), (62, "Flags.set"), (69, "Flags.is_"), (137, "Match.__new__"), (144, "Match._make"), (215, "SequenceMatcher.__init__"), (222, "SequenceMatcher.set_seqs"), (229, "SequenceMatcher.set_seq1"), (236, "SequenceMatcher.set_seq2"), (243, "SequenceMatcher.__chain_b"), (251, "SequenceMatcher.find_longest_match"), (258, "SequenceMatcher.get_matching_blocks"), (308, "_law_drawn"), (315, "_law_do"), (320, "_law_marks"), (327, "_law_junk"), (334, "_law_best"), (339, "_law_blocks"), (344, "_law_told"), (351, "_law_run"), (358, "law")]
noncomputable def codeP (o : Obj) : Option (Value × List (Option Value)) := match o.data with
  | .fields vs => some (o.cls, [vs[11]?, vs[18]?, vs[7]?, vs[9]?, vs[10]?])
  | _ => none
noncomputable def stP (o : Obj) : Bool := match o.data with
  | .dict es _ => (nsFind es "thirdparty.any").isNone
  | _ => false
abbrev ObsT := List (Option Obj) × List (Option Str) × Nat × Option (Option (Value × List (Option Value))) × Option Obj × Option Bool
noncomputable def obsT (cds : List (Addr × Str)) (S : SharedT) : ObsT := (asQ.map S.tree.get, cds.map (λ c => zw (S.tree.get c.1)), S.n, (S.tree.get 351).map codeP, S.tree.get 347, (S.tree.get 2).map stP)
noncomputable def obsQ (s : Shared) : ObsT := (asQ.map s.heap.get?, cdsQ.map (λ c => zw (s.heap.get? c.1)), s.heap.objs.size, (s.heap.get? 351).map codeP, s.heap.get? 347, (s.heap.get? 2).map stP)
noncomputable def valR (rd : String -> Str) (kh : Params -> Str -> Int) (q : Program) (w : World) : ObsT := ([some (k3R rd kh q w.params), some (k35R rd kh q w.params), some (k56R rd kh q w.params), some (k63R rd kh q w.params), some (k70R rd kh q w.params), some (k72R rd kh q w.params), some (k73R rd kh q w.params), some (k138R rd kh q w.params), some (k145R rd kh q w.params), some (k147R rd kh q w.params), some (k190R rd kh q w.params), some (k191R rd kh q w.params), some (k192R rd kh q w.params), some (k209R rd kh q w.params), some (k216R rd kh q w.params), some (k223R rd kh q w.params), some (k230R rd kh q w.params), some (k237R rd kh q w.params), some (k244R rd kh q w.params), some (k245R rd kh q w.params), some (k252R rd kh q w.params), some (k259R rd kh q w.params), some (k297R rd kh q w.params), some (k298R rd kh q w.params), some (k309R rd kh q w.params), some (k316R rd kh q w.params), some (k321R rd kh q w.params), some (k328R rd kh q w.params), some (k335R rd kh q w.params), some (k340R rd kh q w.params), some (k345R rd kh q w.params), some (k352R rd kh q w.params), some (k359R rd kh q w.params)], [some (rd "Flags.__init__"), some (rd "Flags.unset_all"), some (rd "Flags.set"), some (rd "Flags.is_"), some (rd "Match.__new__"), some (rd "Match._make"), some (rd "SequenceMatcher.__init__"), some (rd "SequenceMatcher.set_seqs"), some (rd "SequenceMatcher.set_seq1"), some (rd "SequenceMatcher.set_seq2"), some (rd "SequenceMatcher.__chain_b"), some (rd "SequenceMatcher.find_longest_match"), some (rd "SequenceMatcher.get_matching_blocks"), some (rd "_law_drawn"), some (rd "_law_do"), some (rd "_law_marks"), some (rd "_law_junk"), some (rd "_law_best"), some (rd "_law_blocks"), some (rd "_law_told"), some (rd "_law_run"), some (rd "law")], 360, some (some (.type "code", [some (.ref 347), some (.str (rd "/claim/cut.py") 753), some (.int 3 0), some (.bool true), some (.int 181 0)])), some ⟨.none, none, .fields #[], #[]⟩, some true)
noncomputable def valQG (q : Program) (w : World) : ObsT := valR Str.ofString PyData.keyHash q w
noncomputable def valQ (w : World) : ObsT := valQG pw w
noncomputable def looksG (q : Program) (w : World) (s : Shared) := (staticsOk (importedModules q.main.body) (boot_heap w.params) s.heap && namesBound q s.heap && gensDone s && laidKept (boot_heap w.params) s.heap, openSeen (qvG q) jV (importedModules q.main.body) (λ o_ => true) true s)
noncomputable def runF (cds : List (Addr × Str)) (q : Program) (w : World) (os : OsState) := (runG q w os).map λ r => (r.1, r.2.2.1, r.2.2.2, looksG q w r.2.1.abs, obsT cds r.2.1)
theorem runF_self : runF = runF := rfl
name_quick runZ for Mine.runF by Mine.runF_self
noncomputable def runV (q : Program) (w : World) (_ : OsState) := some (Flow.next, cG q, (⟨567, 0, 573, 54⟩ : Pos), (true, openGood (qvG q) jV), valQG q w)
noncomputable def runU (q : Program) (x : ObsT) := some (Flow.next, cG q, (⟨567, 0, 573, 54⟩ : Pos), (true, openGood (qvG q) jV), x)
theorem runVU (q : Program) (w : World) (os : OsState) : runV q w os = runU q (valR quickOf PyData.keyHash q w) := by unfold runV runU valQG; rw [quickOf_eq]
theorem runU_self : runU = runU := rfl
name_quick runW for Mine.runU by Mine.runU_self
theorem runF_eq (w : World) (os : OsState) : runF cdsQ pw w os = runV pw w os := by
  rw [runVU, pq_eq, PySem.W.Fast.runZ_eq, PySem.W.Fast.runW_eq]
  kernel_rfl!
theorem top_eq (w : World) (os : OsState) : ∃ S : SharedT, topRun treeTable pw w 11 (some (.ref 6)) 7000 (S0 w os) (topStub pw) = some S.abs /\ looksG pw w S.abs = (true, openGood qv jV) /\ obsT cdsQ S = valQ w := by
  have h := runF_eq w os
  unfold runF runV at h
  obtain ⟨⟨f, S, c, p⟩, hr, hv⟩ := Option.map_eq_some_iff.mp h
  dsimp only at hv
  injection hv with e1 hv
  injection hv with e2 hv
  injection hv with e3 hv
  injection hv with e4 e5
  subst e1 e2 e3
  refine ⟨S, ?_, e4, e5⟩
  unfold runG at hr
  rw [<- tbQ_eq] at hr
  have h1 := segRun_of hr
  have fin : topRun treeTable pw w 11 (some (.ref 6)) 2 S.abs ⟨doneF .next, cG pw, ⟨567, 0, 573, 54⟩, [topFrame posF]⟩ = some S.abs := by
    generalize S.abs = s
    obtain ⟨a, b, c, d, e⟩ := s
    rfl
  have k := piece_app (rest := []) h1 (piece_nil fin)
  rw [List.append_nil] at k
  have k3 := piece_block (blk_eq w os) k
  have k4 := go_top (pre_eq w os) k3
  have k5 := topRun_mono 55 _ _ _ _ k4
  have en : 12 + (1 + (6930 + 2)) + 55 = 7000 := by decide
  rw [en] at k5
  exact k5
theorem alive_get {T : BT} {n : Nat} {life : Life} {a : Addr} {o : Obj} (h : a < n) (g : T.get a = some o) (hf : o.isFreed = false) : (absHeap T n life).get? a = some o := by
  rw [abs_get h g]
  obtain ⟨c, d, dt, sl⟩ := o
  cases dt <;> first | rfl | (simp [Obj.isFreed] at hf)
theorem map_abs {T : BT} {n : Nat} {life : Life} : ∀ (as : List Addr) (os : List Obj), as.map T.get = os.map some -> (as.all λ a => Nat.blt a n) = true -> (os.all λ o => !o.isFreed) = true -> as.map (absHeap T n life).get? = os.map some
  | [], [], _, _, _ => rfl
  | [], _ :: _, h, _, _ => by cases h
  | _ :: _, [], h, _, _ => by cases h
  | a :: as, o :: os, h, h1, h2 => by
    rw [List.map_cons, List.map_cons] at h ⊢
    injection h with e1 e2
    rw [List.all_cons, Bool.and_eq_true] at h1 h2
    rw [map_abs as os e2 h1.2 h2.2, alive_get (Nat.le_of_ble_eq_true h1.1) e1 (by simpa using h2.1)]
theorem name_abs {T : BT} {n : Nat} {life : Life} {a : Addr} {x : Str} (h : Nat.blt a n = true) (g : zw (T.get a) = some x) : zw ((absHeap T n life).get? a) = some x := by
  cases e : T.get a with
  | none => rw [e] at g; cases g
  | some o =>
    rw [alive_get (Nat.le_of_ble_eq_true h) e ?_, <- e]
    . exact g
    . rw [e] at g
      obtain ⟨c, d, dt, sl⟩ := o
      cases dt <;> first | rfl | (simp [zw] at g)
theorem names_abs {T : BT} {n : Nat} {life : Life} : ∀ (cs : List (Addr × Str)) (xs : List Str), cs.map (λ c => zw (T.get c.1)) = xs.map some -> (cs.all λ c => Nat.blt c.1 n) = true -> cs.map (λ c => zw ((absHeap T n life).get? c.1)) = xs.map some
  | [], [], _, _ => rfl
  | [], _ :: _, h, _ => by cases h
  | _ :: _, [], h, _ => by cases h
  | a :: as, o :: os, h, h1 => by
    rw [List.map_cons, List.map_cons] at h ⊢
    injection h with e1 e2
    rw [List.all_cons, Bool.and_eq_true] at h1
    rw [names_abs as os e2 h1.2, name_abs h1.1 e1]
theorem bit_abs {β : Type} {T : BT} {n : Nat} {life : Life} {a : Addr} {f : Obj -> β} {x : β} (h : Nat.blt a n = true) (hf : ∀ o, f o = x -> o.isFreed = false) (g : (T.get a).map f = some x) : ((absHeap T n life).get? a).map f = some x := by
  obtain ⟨o, ho, e⟩ := Option.map_eq_some_iff.mp g
  rw [alive_get (Nat.le_of_ble_eq_true h) ho (hf o e), Option.map_some, e]
theorem obs_abs {S : SharedT} {w : World} (h : obsT cdsQ S = valQ w) : obsQ S.abs = valQ w := by
  obtain ⟨T, n, life, g, d, t, os⟩ := S
  unfold obsT valQ valQG valR at h
  injection h with h1 h
  injection h with h2 h
  injection h with h3 h
  injection h with h4 h
  injection h with h5 h6
  dsimp only at h1 h2 h3 h4 h5 h6
  subst h3
  unfold obsQ valQ valQG valR
  have e1 := map_abs (T := T) (n := 360) (life := life) asQ ((Kq w.params).map Prod.snd) h1 (by decide) (by rfl)
  have e2 := names_abs (T := T) (n := 360) (life := life) cdsQ (cdsQ.map Prod.snd) h2 (by decide)
  have e3 : (absHeap T 360 life).objs.size = 360 := absHeap_size T 360 life
  have e4 := bit_abs (T := T) (n := 360) (life := life) (a := 351) (f := codeP) (by decide) (λ o e => by
    obtain ⟨c, d, dt, sl⟩ := o
    cases dt <;> first | rfl | (simp [codeP] at e)) h4
  have e5 : (absHeap T 360 life).get? 347 = some ⟨.none, none, .fields #[], #[]⟩ := alive_get (by decide) h5 rfl
  have e6 := bit_abs (T := T) (n := 360) (life := life) (a := 2) (f := stP) (by decide) (λ o e => by
    obtain ⟨c, d, dt, sl⟩ := o
    cases dt <;> first | rfl | (simp [stP] at e)) h6
  show (asQ.map (absHeap T 360 life).get?, cdsQ.map (λ c => zw ((absHeap T 360 life).get? c.1)), (absHeap T 360 life).objs.size, ((absHeap T 360 life).get? 351).map codeP, (absHeap T 360 life).get? 347, ((absHeap T 360 life).get? 2).map stP) = _
  rw [e1, e2, e3, e4, e5, e6]
  rfl
theorem opening_eq : opening pw = plainProg pw.main.scope.names := by kernel_rfl!
theorem fence_eq (s : Shared) : fenceModules? pw s = some s := by kernel_rfl!
theorem left_gen {p q : Program} {loose : List Str} {Xt : Shared -> Bool} {α : Type} {Yf : Shared -> α} {Ya : World -> α} {N : Nat} {g0 : Bool} {H0 : Params -> Heap} {gs0 : Array GenState} {d0z : Drawn} {k0z : Nat} {m0 : Nat} {ann : Option Value}
    (open_ : ∀ w : World, (fencedOpening treeTable p w N).map (λ s => (s.heap, s.gens, s.drawn, s.toks)) = some (H0 w.params, gs0, d0z, k0z))
    (size : ∀ w : World, ((H0 w.params).isNs mainGlobals && gs0.size == 0, (H0 w.params).objs.size, (H0 w.params).nsMap mainGlobals "__annotations__") = (true, m0, ann))
    (run : ∀ (w : World) (os : OsState), ∃ s, topRun treeTable p w m0 ann N ⟨H0 w.params, gs0, d0z, k0z, os⟩ (topStub p) = some s /\
      (staticsOk (importedModules p.main.body) (H0 w.params) s.heap && namesBound p s.heap && gensDone s && laidKept (H0 w.params) s.heap, openSeen q loose (importedModules p.main.body) Xt g0 s, Yf s) = (true, openGood q loose, Ya w)) : LeftO p q loose Xt Yf Ya N g0 := λ w => by
  obtain ⟨⟨h, gs, d, k, os⟩, e, e'⟩ := Option.map_eq_some_iff.mp (open_ w)
  obtain ⟨rfl, rfl, rfl, rfl⟩ : h = H0 w.params /\ gs = gs0 /\ d = d0z /\ k = k0z := by simpa using e'
  obtain ⟨z1, z2, z3⟩ : _ /\ _ /\ _ := by simpa only [Prod.mk.injEq] using size w
  obtain ⟨s, hr, hl⟩ := run w os
  obtain ⟨l1, l2, l3⟩ : _ /\ _ /\ _ := by simpa only [Prod.mk.injEq] using hl
  have t : topFrom treeTable p w N ⟨H0 w.params, gs, d, k, os⟩ = some s := by
    unfold topFrom
    dsimp only
    rw [z1, z2, z3, hr]
    show (match staticsOk (importedModules p.main.body) (H0 w.params) s.heap && namesBound p s.heap && gensDone s && laidKept (H0 w.params) s.heap with | true => some s | false => none) = some s
    rw [l1]
  unfold openEnds
  rw [e]
  show (topFrom treeTable p w N _).map _ = _
  rw [t]
  exact congrArg some (Prod.ext l2 l3)
theorem left : LeftO pw qv jV (λ o_ => true) obsQ valQ 7000 := left_gen (boot_open (p := pw) (N := 7000) opening_eq (by decide) fence_eq) size_eq λ w os => by
  obtain ⟨S, h1, h2, h3⟩ := top_eq w os
  have h3' := obs_abs h3
  refine ⟨S.abs, h1, ?_⟩
  rw [<- h3']
  unfold looksG at h2
  injection h2 with a b
  exact Prod.ext a (Prod.ext b rfl)
abbrev rO : OpenRow := OpenLaw.row PySem.Challenge.rw_ij0191_01
noncomputable def lawD : DefRec := defRec (stAt 17)
theorem def_eq : defOf qv "law" = some (lawD, []) := by kernel_rfl!
theorem the_eq : pw.theDef "law" = some (lawD.params, lawD.body, lawD.scope) := by kernel_rfl!
theorem kw_eq : kwWritten? lawD.params.kwonlyargs lawD.params.kw_defaults = some [] := by kernel_rfl!
theorem ok_eq : (chainsOk qv && opensWell pw && (frees rO.toRowW && rO.toRowW.within.isEmpty)) = true := by kernel_rfl!
theorem bare_eq : pw.bare := ⟨rfl, rfl, rfl, rfl, rfl, by decide +kernel⟩
theorem prom_eq : rO.toRowW.promised := by w_witness2
noncomputable def lawG (q : Program) : OpenLaw := { prog := q, name := "law", about := ["Flags", "is_"], foot := 9, most := some 63, bound := none, writes := false }
noncomputable def saidG (q : Program) : Bool := OpenLaw.wellSaid (lawG q)
theorem saidG_self : saidG = saidG := rfl
name_quick saidY for Mine.saidG by Mine.saidG_self
theorem said_eq : OpenLaw.wellSaid PySem.Challenge.rw_ij0191_01 = true := by
  have h : saidG pw = true := by
    rw [pq_eq, PySem.W.Fast.saidY_eq]
    kernel_rfl!
  exact h
theorem law_of (call : WalkX qv jV (λ o_ o_ => True) obsQ valQ rO.toRowW lawD [] λ f vs => PySem.call f vs) : PySem.Challenge.rw_ij0191_01.Holds := by
  refine holds_law said_eq λ o_ => ?_
  exact holds_openX (r := rO) (q := qv) (loose := jV) (Xt := λ o_ => true) (XP := λ o_ o_ => True) (Yf := obsQ) (Ya := valQ) (N := 7000) left (λ o_ o_ => trivial) (λ o_ o_ o_ o_ o_ => trivial) def_eq the_eq kw_eq (λ s o_ => recFacts_of (by rfl)) (by rfl) (by assumption) ok_eq bare_eq prom_eq call
end Mine
end
section
namespace Mine
def Run (ok : Nat -> Nat -> Prop) (x y k : Nat) : Prop := ∀ t, t < k -> ok (x + t) (y + t)
structure BestTo (ok : Nat -> Nat -> Prop) (p0 q0 : Nat) (D : Nat -> Nat -> Prop) (i j n : Nat) : Prop where
  most : ∀ x y, D x y -> ∀ k, Run ok x y k -> k <= n
  zero : n = 0 -> i = p0 /\ j = q0
  inD : 0 < n -> D i j
  run : Run ok i j n
  first : 0 < n -> ∀ x y, D x y -> Run ok x y n -> i < x \/ (i = x /\ j <= y)
theorem BestTo.start {ok : Nat -> Nat -> Prop} {p0 q0 : Nat} {D : Nat -> Nat -> Prop} (h : ∀ x y, ¬ D x y) : BestTo ok p0 q0 D p0 q0 0 :=
  ⟨λ x y d => absurd d (h x y), λ o_ => ⟨rfl, rfl⟩, λ h => absurd h (by ac_nf), λ t h => absurd h (by ac_nf), λ h => absurd h (by ac_nf)⟩
theorem BestTo.cong {ok : Nat -> Nat -> Prop} {p0 q0 i j n : Nat} {D D' : Nat -> Nat -> Prop} (h : BestTo ok p0 q0 D i j n) (e : ∀ x y, D x y ↔ D' x y) : BestTo ok p0 q0 D' i j n := by
  have : D = D' := by funext x y; exact propext (e x y)
  exact this ▸ h
theorem BestTo.more {ok : Nat -> Nat -> Prop} {p0 q0 i j n p r k : Nat} {D D' : Nat -> Nat -> Prop} (h : BestTo ok p0 q0 D i j n) (hr : Run ok p r k) (hk : n < k) (hno : ¬ ok (p + k) (r + k))
    (e : ∀ x y, D' x y ↔ (D x y \/ (x = p /\ y = r))) : BestTo ok p0 q0 D' p r k := by
  refine ⟨λ x y d l hl => ?_, λ h => by ac_nf, λ o_ => (e p r).mpr (.inr ⟨rfl, rfl⟩), hr, λ o_ x y d hl => ?_⟩
  . rcases (e x y).mp d with d | ⟨rfl, rfl⟩
    . have := h.most x y d l hl; ac_nf
    . refine Nat.le_of_not_lt λ hlt => hno (hl k hlt)
  . rcases (e x y).mp d with d | ⟨rfl, rfl⟩
    . have := h.most x y d k hl; ac_nf
    . exact .inr ⟨rfl, Nat.le_refl _⟩
theorem BestTo.less {ok : Nat -> Nat -> Prop} {p0 q0 i j n p r k : Nat} {D D' : Nat -> Nat -> Prop} (h : BestTo ok p0 q0 D i j n) (hk : k <= n) (hno : ¬ ok (p + k) (r + k))
    (e : ∀ x y, D' x y ↔ (D x y \/ (x = p /\ y = r))) (hD : ∀ x y, D x y -> x < p \/ (x = p /\ y < r)) : BestTo ok p0 q0 D' i j n := by
  refine ⟨λ x y d l hl => ?_, h.zero, λ hn => (e i j).mpr (.inl (h.inD hn)), h.run, λ hn x y d hl => ?_⟩
  . rcases (e x y).mp d with d | ⟨rfl, rfl⟩
    . exact h.most x y d l hl
    . refine Nat.le_trans (Nat.le_of_not_lt λ hlt => hno (hl k hlt)) hk
  . rcases (e x y).mp d with d | ⟨rfl, rfl⟩
    . exact h.first hn x y d hl
    . rcases hD i j (h.inD hn) with a | ⟨a, b⟩
      . exact .inl a
      . exact .inr ⟨a, by ac_nf⟩
theorem BestTo.uniq {ok : Nat -> Nat -> Prop} {p0 q0 i j n i' j' n' : Nat} {D : Nat -> Nat -> Prop} (h : BestTo ok p0 q0 D i j n) (h' : BestTo ok p0 q0 D i' j' n') : i = i' /\ j = j' /\ n = n' := by
  have hn : n = n' := by
    apply Nat.le_antisymm
    . by_cases hn : 0 < n
      . exact h'.most _ _ (h.inD hn) _ h.run
      . ac_nf
    . by_cases hn : 0 < n'
      . exact h.most _ _ (h'.inD hn) _ h'.run
      . ac_nf
  subst hn
  by_cases hn : 0 < n
  . have a := h.first hn _ _ (h'.inD hn) h'.run
    have b := h'.first hn _ _ (h.inD hn) h.run
    exact ⟨by ac_nf, by ac_nf, rfl⟩
  . have a := h.zero (by ac_nf)
    have b := h'.zero (by ac_nf)
    exact ⟨by ac_nf, by ac_nf, rfl⟩
def InBox (p0 p1 q0 q1 : Nat) (x y : Nat) : Prop := p0 <= x /\ x < p1 /\ q0 <= y /\ y < q1
def At (a b : List α) (J : α -> Bool) (v : Bool) (x y : Nat) : Prop := ∃ e, a[x]? = some e /\ b[y]? = some e /\ J e = v
def Ok (a b : List α) (J : α -> Bool) (p1 q1 : Nat) (x y : Nat) : Prop := x < p1 /\ y < q1 /\ At a b J false x y
def Fw (a b : List α) (J : α -> Bool) (p1 q1 : Nat) (x y : Nat) : Prop := x < p1 /\ y < q1 /\ At a b J true x y
def Bk (a b : List α) (J : α -> Bool) (p0 q0 : Nat) (x y : Nat) : Prop := p0 < x /\ q0 < y /\ At a b J true (x - 1) (y - 1)
def Fws (a b : List α) (J : α -> Bool) (p1 q1 : Nat) (x y r : Nat) : Prop := ∀ t, t < r -> Fw a b J p1 q1 (x + t) (y + t)
def Bks (a b : List α) (J : α -> Bool) (p0 q0 : Nat) (x y h : Nat) : Prop := ∀ t, t < h -> Bk a b J p0 q0 (x + t + 1) (y + t + 1)
structure ResAt (a b : List α) (J : α -> Bool) (p0 p1 q0 q1 : Nat) (i' j' n' : Nat) (i j n h r : Nat) : Prop where
  best : BestTo (Ok a b J p1 q1) p0 q0 (InBox p0 p1 q0 q1) i j n
  back : Bks a b J p0 q0 i' j' h
  stop : ¬ Bk a b J p0 q0 i' j'
  forth : Fws a b J p1 q1 (i + n) (j + n) r
  full : ¬ Fw a b J p1 q1 (i + n + r) (j + n + r)
  ei : i' + h = i
  ej : j' + h = j
  en : n' = n + r + h
def Res (a b : List α) (J : α -> Bool) (p0 p1 q0 q1 : Nat) (i' j' n' : Nat) : Prop := ∃ i j n h r, ResAt a b J p0 p1 q0 q1 i' j' n' i j n h r
section
variable {a b : List α} {J : α -> Bool} {p0 p1 q0 q1 x y h r : Nat}
theorem Bks.zero : Bks a b J p0 q0 x y 0 := λ o_ ht => absurd ht (Nat.not_lt_zero _)
theorem Fws.zero : Fws a b J p1 q1 x y 0 := λ o_ ht => absurd ht (Nat.not_lt_zero _)
theorem Bks.step (k : Bk a b J p0 q0 (x + 1) (y + 1)) (l : Bks a b J p0 q0 (x + 1) (y + 1) h) : Bks a b J p0 q0 x y (h + 1) := λ t ht => by
  cases t with
  | zero => exact k
  | succ t =>
    have := l t (Nat.lt_of_succ_lt_succ ht)
    rw [Nat.add_right_comm x 1 t, Nat.add_right_comm y 1 t] at this
    exact this
theorem Fws.step (l : Fws a b J p1 q1 x y r) (k : Fw a b J p1 q1 (x + r) (y + r)) : Fws a b J p1 q1 x y (r + 1) := λ t ht => by
  rcases Nat.lt_succ_iff_lt_or_eq.mp ht with e | rfl
  . exact l t e
  . exact k
theorem Bks.lows (l : Bks a b J p0 q0 x y h) (hx : p0 <= x + h) (hy : q0 <= y + h) : p0 <= x /\ q0 <= y := by
  cases h with
  | zero => exact ⟨hx, hy⟩
  | succ h => exact ⟨Nat.le_of_lt_succ (l 0 (Nat.zero_lt_succ h)).1, Nat.le_of_lt_succ (l 0 (Nat.zero_lt_succ h)).2.1⟩
theorem Fws.tops (l : Fws a b J p1 q1 x y r) (hx : x <= p1) (hy : y <= q1) : x + r <= p1 /\ y + r <= q1 := by
  cases r with
  | zero => exact ⟨hx, hy⟩
  | succ r => exact ⟨(l r (Nat.lt_succ_self r)).1, (l r (Nat.lt_succ_self r)).2.1⟩
end
theorem first_uniq {P : Nat -> Prop} {h h' : Nat} (a : ∀ t, t < h -> P t) (b : ¬ P h) (a' : ∀ t, t < h' -> P t) (b' : ¬ P h') : h = h' := by
  apply Nat.le_antisymm
  . exact Nat.le_of_not_lt λ hlt => b' (a _ hlt)
  . exact Nat.le_of_not_lt λ hlt => b (a' _ hlt)
theorem Bks.le {a b : List α} {J : α -> Bool} {p0 q0 x y x' y' h h' : Nat} (s : ¬ Bk a b J p0 q0 x y) (l : Bks a b J p0 q0 x' y' h') (ex : x + h = x' + h') (ey : y + h = y' + h') : h' <= h :=
  Nat.le_of_not_lt λ hlt => by
    obtain ⟨d, rfl⟩ := Nat.exists_eq_add_of_lt hlt
    have e1 : x = x' + d + 1 := Nat.add_right_cancel (m := h) (by rw [ex]; ac_rfl)
    have e2 : y = y' + d + 1 := Nat.add_right_cancel (m := h) (by rw [ey]; ac_rfl)
    have k := l d (by rw [Nat.add_assoc, Nat.add_comm]; exact Nat.lt_of_lt_of_le (Nat.lt_succ_self d) (Nat.le_add_right _ _))
    rw [<- e1, <- e2] at k
    exact s k
theorem Res.uniq {a b : List α} {J : α -> Bool} {p0 p1 q0 q1 i j n i' j' n' : Nat} (x : Res a b J p0 p1 q0 q1 i j n) (y : Res a b J p0 p1 q0 q1 i' j' n') : i = i' /\ j = j' /\ n = n' := by
  obtain ⟨i1z, j1z, n1z, h₁, r1z, X⟩ := x
  obtain ⟨i2z, j2z, n2z, h2z, r2z, Y⟩ := y
  obtain ⟨rfl, rfl, rfl⟩ := X.best.uniq Y.best
  have ei := X.ei.trans Y.ei.symm
  have ej := X.ej.trans Y.ej.symm
  have hh : h₁ = h2z := Nat.le_antisymm (Bks.le Y.stop X.back ei.symm ej.symm) (Bks.le X.stop Y.back ei ej)
  have hr : r1z = r2z := first_uniq (P := λ t => Fw a b J p1 q1 (i1z + n1z + t) (j1z + n1z + t)) X.forth X.full Y.forth Y.full
  subst hh hr
  exact ⟨Nat.add_right_cancel ei, Nat.add_right_cancel ej, X.en.trans Y.en.symm⟩
section
variable {a b : List α} {J : α -> Bool} {v : Bool} {p0 p1 q0 q1 x y h r : Nat} {w w' : α}
theorem At.snd (k : At a b J v x y) (g : b[y]? = some w) : J w = v := by
  obtain ⟨e, -, e2, e3⟩ := k
  exact Option.some.inj (e2.symm.trans g) ▸ e3
theorem At.fst (k : At a b J v x y) (g : a[x]? = some w) : J w = v := by
  obtain ⟨e, e2, -, e3⟩ := k
  exact Option.some.inj (e2.symm.trans g) ▸ e3
theorem At.eq (k : At a b J v x y) (g : a[x]? = some w) (g' : b[y]? = some w') : w = w' := by
  obtain ⟨e, e1, e2, -⟩ := k
  exact Option.some.inj (g.symm.trans (e1.trans (e2.symm.trans g')))
theorem At.of (g : a[x]? = some w) (g' : b[y]? = some w') (e : w = w') (hJ : J w' = v) : At a b J v x y := ⟨w', e ▸ g, g', hJ⟩
theorem Bks.back (k : Bk a b J p0 q0 x y) (l : Bks a b J p0 q0 x y h) : Bks a b J p0 q0 (x - 1) (y - 1) (h + 1) := by
  obtain ⟨x, rfl⟩ := Nat.exists_eq_succ_of_ne_zero (Nat.ne_of_gt (Nat.lt_of_le_of_lt (Nat.zero_le _) k.1))
  obtain ⟨y, rfl⟩ := Nat.exists_eq_succ_of_ne_zero (Nat.ne_of_gt (Nat.lt_of_le_of_lt (Nat.zero_le _) k.2.1))
  exact Bks.step k l
end
theorem qp {l : List α} {k : Nat} {w : α} (g : l[k]? = some w) (h : l.length < 2 ^ 20) : k < 2 ^ 63 := Nat.lt_trans (Nat.lt_trans (List.getElem?_eq_some_iff.mp g).1 h) (by decide)
theorem of64 {n : Nat} (h : n < 64) : n < 2 ^ 20 := Nat.lt_trans h (by decide)
theorem jE {p u : Nat} (h : p < u) : (u : Int) - 1 = ((u - 1 : Nat) : Int) := by ac_nf
theorem pred_add {p g b : Nat} : ∀ {u : Nat}, p < u -> u + g = b -> (u - 1) + (g + 1) = b
  | 0, h, _ => absurd h (Nat.not_lt_zero p)
  | u + 1, _, e => (Nat.add_right_comm u g 1).trans e
theorem pred_lt {p u : Nat} (h : p < u) : u - 1 < u := Nat.sub_lt (Nat.lt_of_le_of_lt (Nat.zero_le p) h) Nat.one_pos
theorem fuel_step {x p : Nat} : ∀ {f : Nat}, x + f = p -> x < p -> ∃ f', f' < f /\ (x + 1) + f' = p
  | 0, e, h => absurd h (by rw [<- e]; exact Nat.lt_irrefl x)
  | f + 1, e, _ => ⟨f, Nat.lt_succ_self f, (Nat.add_right_comm x 1 f).trans e⟩
theorem sum_cast {u g b n r : Nat} (e : u + g = b) : (u : Int) + ((n + g + r : Nat) : Int) = ((b + n + r : Nat) : Int) := by ac_nf
theorem sub_cast {u g b : Nat} (e : u + g = b) : (b : Int) - (g : Int) = (u : Int) := by ac_nf
theorem sub_cast1 {p u g b : Nat} (e : u + g = b) (h : p < u) : (b : Int) - (g : Int) - 1 = ((u - 1 : Nat) : Int) := by ac_nf
section
variable {a b : List α} {J : α -> Bool} {p0 p1 q0 q1 i j n : Nat}
theorem BestTo.no_back (B : BestTo (Ok a b J p1 q1) p0 q0 (InBox p0 p1 q0 q1) i j n) (hi : i <= p1) (hj : j <= q1) (h1 : p0 < i) (h2 : q0 < j) (k : At a b J false (i - 1) (j - 1)) : False := by
  have hr : Run (Ok a b J p1 q1) (i - 1) (j - 1) (n + 1) := λ t ht => by
    cases t with
    | zero => exact ⟨by ac_nf, by ac_nf, k⟩
    | succ t =>
      have := B.run t (by ac_nf)
      rw [show i - 1 + (t + 1) = i + t by ac_nf, show j - 1 + (t + 1) = j + t by ac_nf]; exact this
  have := B.most (i - 1) (j - 1) ⟨by ac_nf, by ac_nf, by ac_nf, by ac_nf⟩ _ hr
  ac_nf
theorem BestTo.no_forth (B : BestTo (Ok a b J p1 q1) p0 q0 (InBox p0 p1 q0 q1) i j n) (hi : p0 <= i) (hj : q0 <= j) (h1 : i + n < p1) (h2 : j + n < q1) (k : At a b J false (i + n) (j + n)) : False := by
  have hr : Run (Ok a b J p1 q1) i j (n + 1) := λ t ht => by
    rcases Nat.lt_succ_iff_lt_or_eq.mp ht with e | rfl
    . exact B.run t e
    . exact ⟨h1, h2, k⟩
  exact absurd (B.most i j ⟨hi, Nat.lt_of_le_of_lt (Nat.le_add_right _ _) h1, hj, Nat.lt_of_le_of_lt (Nat.le_add_right _ _) h2⟩ _ hr) (Nat.not_le.mpr (Nat.lt_succ_self n))
theorem BestTo.lies (B : BestTo (Ok a b J p1 q1) p0 q0 (InBox p0 p1 q0 q1) i j n) (hp : p0 <= p1) (hq : q0 <= q1) : p0 <= i /\ i + n <= p1 /\ q0 <= j /\ j + n <= q1 := by
  cases n with
  | zero =>
    obtain ⟨e1, e2⟩ := B.zero rfl
    exact ⟨Nat.le_of_eq e1.symm, e1 ▸ hp, Nat.le_of_eq e2.symm, e2 ▸ hq⟩
  | succ k =>
    obtain ⟨a1, -, a3, -⟩ := B.inD (Nat.zero_lt_succ k)
    have b := B.run k (Nat.lt_succ_self k)
    exact ⟨a1, b.1, a3, b.2.1⟩
end
def ColD (p0 p1 q0 q1 x : Nat) (u v : Nat) : Prop := InBox p0 p1 q0 q1 u v /\ u < x
def RowD (p0 p1 q0 q1 p y : Nat) (u v : Nat) : Prop := InBox p0 p1 q0 q1 u v /\ (u < p \/ (u = p /\ v < y))
section
variable {p0 p1 q0 q1 p y u v : Nat}
theorem ColD.none : ¬ ColD p0 p1 q0 q1 p0 u v := λ h => absurd h.1.1 (Nat.not_le.mpr h.2)
theorem ColD.all (u v : Nat) : ColD p0 p1 q0 q1 (max p0 p1) u v ↔ InBox p0 p1 q0 q1 u v := ⟨λ h => h.1, λ h => ⟨h, Nat.lt_of_lt_of_le h.2.1 (Nat.le_max_right _ _)⟩⟩
theorem RowD.first (u v : Nat) : ColD p0 p1 q0 q1 p u v ↔ RowD p0 p1 q0 q1 p q0 u v := ⟨λ h => ⟨h.1, .inl h.2⟩, λ h => ⟨h.1, h.2.elim id λ z => absurd h.1.2.2.1 (Nat.not_le.mpr z.2)⟩⟩
theorem RowD.last (u v : Nat) : RowD p0 p1 q0 q1 p (max q0 q1) u v ↔ ColD p0 p1 q0 q1 (p + 1) u v := by
  refine ⟨λ h => ⟨h.1, ?_⟩, λ h => ⟨h.1, ?_⟩⟩
  . rcases h.2 with z | ⟨rfl, _⟩
    . exact Nat.lt_succ_of_lt z
    . exact Nat.lt_succ_self _
  . rcases Nat.lt_succ_iff_lt_or_eq.mp h.2 with z | z
    . exact .inl z
    . exact .inr ⟨z, Nat.lt_of_lt_of_le h.1.2.2.2 (Nat.le_max_right _ _)⟩
theorem RowD.step (a : p0 <= p) (b : p < p1) (c : q0 <= y) (d : y < q1) (u v : Nat) : RowD p0 p1 q0 q1 p (y + 1) u v ↔ (RowD p0 p1 q0 q1 p y u v \/ (u = p /\ v = y)) := by
  constructor
  . rintro ⟨h1, h2⟩
    rcases h2 with z | ⟨rfl, z⟩
    . exact .inl ⟨h1, .inl z⟩
    . rcases Nat.lt_succ_iff_lt_or_eq.mp z with z | z
      . exact .inl ⟨h1, .inr ⟨rfl, z⟩⟩
      . exact .inr ⟨rfl, z⟩
  . rintro (⟨h1, h2⟩ | ⟨rfl, rfl⟩)
    . exact ⟨h1, h2.imp_right λ z => ⟨z.1, Nat.lt_succ_of_lt z.2⟩⟩
    . exact ⟨⟨a, b, c, d⟩, .inr ⟨rfl, Nat.lt_succ_self _⟩⟩
end
abbrev qA := Nat × Nat × Nat
inductive Blocks {α : Type} (a b : List α) (J : α -> Bool) : Nat -> Nat -> Nat -> Nat -> List qA -> Prop
  | none {p0 p1 q0 q1 i j : Nat} (h : Res a b J p0 p1 q0 q1 i j 0) : Blocks a b J p0 p1 q0 q1 []
  | node {p0 p1 q0 q1 i j n : Nat} {l r : List qA} (h : Res a b J p0 p1 q0 q1 i j n) (hn : 0 < n) (hl : Blocks a b J p0 i q0 j l) (hr : Blocks a b J (i + n) p1 (j + n) q1 r) : Blocks a b J p0 p1 q0 q1 (l ++ (i, j, n) :: r)
theorem Blocks.uniq {α : Type} {a b : List α} {J : α -> Bool} {p0 p1 q0 q1 : Nat} {l : List qA} (x : Blocks a b J p0 p1 q0 q1 l) : ∀ {l' : List qA}, Blocks a b J p0 p1 q0 q1 l' -> l = l' := by
  induction x with
  | none h =>
    intro l' y
    cases y with
    | none h' => rfl
    | node h' hn' hl' hr' => have := (h.uniq h').2.2; ac_nf
  | node h hn hl hr ihl ihr =>
    intro l' y
    cases y with
    | none h' => have := (h.uniq h').2.2; ac_nf
    | node h' hn' hl' hr' =>
      obtain ⟨rfl, rfl, rfl⟩ := h.uniq h'
      rw [ihl hl', ihr hr']
theorem Blocks.empty {α : Type} {a b : List α} {J : α -> Bool} {p0 p1 q0 q1 : Nat} (h : p1 <= p0 \/ q1 <= q0) : Blocks a b J p0 p1 q0 q1 [] := by
  have no : ∀ x y, p0 <= x -> x < p1 -> q0 <= y -> y < q1 -> False := λ x y h1 h2 h3 h4 => h.elim (λ e => absurd (Nat.lt_of_le_of_lt h1 h2) (Nat.not_lt.mpr e)) λ e => absurd (Nat.lt_of_le_of_lt h3 h4) (Nat.not_lt.mpr e)
  refine .none (i := p0) (j := q0) ⟨p0, q0, 0, 0, 0, BestTo.start λ x y hxy => no x y hxy.1 hxy.2.1 hxy.2.2.1 hxy.2.2.2, Bks.zero, λ hc => Nat.lt_irrefl _ hc.1, Fws.zero, λ hc => no _ _ (Nat.le_refl _) hc.1 (Nat.le_refl _) hc.2.1, rfl, rfl, rfl⟩
theorem Res.within {α : Type} {a b : List α} {J : α -> Bool} {p0 p1 q0 q1 i j n : Nat} (x : Res a b J p0 p1 q0 q1 i j n) (hp : p0 <= p1) (hq : q0 <= q1) : p0 <= i /\ i + n <= p1 /\ q0 <= j /\ j + n <= q1 := by
  obtain ⟨i', j', n', h, r, B, l1, l2, l3, l4, rfl, rfl, rfl⟩ := x
  have hB := B.lies hp hq
  have c := l1.lows hB.1 hB.2.2.1
  have d := l3.tops hB.2.1 hB.2.2.2
  have e : ∀ x, x + (n' + r + h) = x + h + n' + r := λ x => by ac_rfl
  exact ⟨c.1, e i ▸ d.1, c.2, e j ▸ d.2⟩
abbrev yx := Nat × Nat × Nat × Nat
def qE {α : Type} (a b : List α) (J : α -> Bool) (bs : List yx) (ls : List (List qA)) : Prop := bs.length = ls.length /\ ∀ (k : Nat) (box : yx) (l : List qA), bs[k]? = some box -> ls[k]? = some l -> Blocks a b J box.1 box.2.1 box.2.2.1 box.2.2.2 l
def yD {α : Type} (a b : List α) (J : α -> Bool) (b0 : yx) (found : List qA) (bs : List yx) : Prop :=
  ∀ ls, qE a b J bs ls -> ∃ T, Blocks a b J b0.1 b0.2.1 b0.2.2.1 b0.2.2.2 T /\ T.Perm (found ++ ls.flatten)
theorem qE.nil {α : Type} {a b : List α} {J : α -> Bool} : qE a b J [] [] := ⟨rfl, λ k box l h => by simp at h⟩
theorem qE.split {α : Type} {a b : List α} {J : α -> Bool} {bs : List yx} {box : yx} {ls : List (List qA)} (h : qE a b J (bs ++ [box]) ls) : ∃ ls' l, ls = ls' ++ [l] /\ qE a b J bs ls' /\ Blocks a b J box.1 box.2.1 box.2.2.1 box.2.2.2 l := by
  obtain ⟨hl, h⟩ := h
  rcases List.eq_nil_or_concat ls with rfl | ⟨ls', l, rfl⟩
  . simp at hl
  . rw [List.concat_eq_append] at h hl ⊢
    have hl' : bs.length = ls'.length := by simpa using hl
    refine ⟨ls', l, rfl, ⟨hl', λ k box' l' h1 h2 => h k box' l' ?_ ?_⟩, h bs.length box l (by simp) (by rw [hl']; simp)⟩
    . rw [List.getElem?_append_left]; exact h1
      exact (List.getElem?_eq_some_iff.mp h1).1
    . rw [List.getElem?_append_left]; exact h2
      exact (List.getElem?_eq_some_iff.mp h2).1
theorem qE.push {α : Type} {a b : List α} {J : α -> Bool} {bs : List yx} {box : yx} {ls : List (List qA)} {l : List qA} (h : qE a b J bs ls) (hb : Blocks a b J box.1 box.2.1 box.2.2.1 box.2.2.2 l) : qE a b J (bs ++ [box]) (ls ++ [l]) := by
  obtain ⟨hl, h⟩ := h
  refine ⟨by simp [hl], λ k box' l' h1 h2 => ?_⟩
  by_cases hk : k < bs.length
  . rw [List.getElem?_append_left hk] at h1
    rw [List.getElem?_append_left (by ac_nf)] at h2
    exact h k box' l' h1 h2
  . rw [List.getElem?_append_right (by ac_nf)] at h1
    rw [List.getElem?_append_right (by ac_nf)] at h2
    have hk0 : k - bs.length = 0 := by
      have := (List.getElem?_eq_some_iff.mp h1).1
      simp at this; ac_nf
    rw [hk0] at h1
    rw [show k - ls.length = 0 by ac_nf] at h2
    simp at h1 h2
    subst h1 h2
    exact hb
theorem yD.start {α : Type} {a b : List α} {J : α -> Bool} {b0 : yx} : yD a b J b0 [] [b0] := λ ls h => by
  obtain ⟨ls', l, rfl, h1, h2⟩ := qE.split (bs := []) h
  have : ls' = [] := List.length_eq_zero_iff.mp h1.1.symm
  subst this
  exact ⟨l, h2, by simp⟩
theorem yD.zero {α : Type} {a b : List α} {J : α -> Bool} {b0 box : yx} {found : List qA} {bs : List yx} {i j : Nat} (h : yD a b J b0 found (bs ++ [box])) (hr : Res a b J box.1 box.2.1 box.2.2.1 box.2.2.2 i j 0) : yD a b J b0 found bs := λ ls hls => by
  obtain ⟨T, h1, h2⟩ := h _ (hls.push (.none hr))
  exact ⟨T, h1, by simpa using h2⟩
theorem yD.drop {α : Type} {a b : List α} {J : α -> Bool} {b0 box : yx} {found : List qA} {bs : List yx} (h : yD a b J b0 found (bs ++ [box])) (he : box.2.1 <= box.1 \/ box.2.2.2 <= box.2.2.1) : yD a b J b0 found bs := λ ls hls => by
  obtain ⟨T, h1, h2⟩ := h _ (hls.push (Blocks.empty he))
  exact ⟨T, h1, by simpa using h2⟩
theorem yD.node {α : Type} {a b : List α} {J : α -> Bool} {b0 : yx} {p0 p1 q0 q1 : Nat} {found : List qA} {bs : List yx} {i j n : Nat} (h : yD a b J b0 found (bs ++ [(p0, p1, q0, q1)])) (hr : Res a b J p0 p1 q0 q1 i j n) (hn : 0 < n) :
    yD a b J b0 (found ++ [(i, j, n)]) (bs ++ [(p0, i, q0, j)] ++ [(i + n, p1, j + n, q1)]) := λ ls hls => by
  obtain ⟨ls', r, rfl, h1, hr'⟩ := qE.split hls
  obtain ⟨ls'', l, rfl, h2, hl'⟩ := qE.split h1
  obtain ⟨T, hT, hP⟩ := h _ (h2.push (box := (p0, p1, q0, q1)) (.node hr hn hl' hr'))
  refine ⟨T, hT, hP.trans ?_⟩
  simp only [List.flatten_append, List.flatten_cons, List.flatten_nil, List.append_nil, List.append_assoc]
  refine List.Perm.append_left _ ?_
  have : (ls''.flatten ++ (l ++ (i, j, n) :: r)).Perm ((i, j, n) :: (ls''.flatten ++ (l ++ r))) := by
    rw [<- List.append_assoc, <- List.append_assoc]
    exact List.perm_middle
  exact this
theorem yD.fin {α : Type} {a b : List α} {J : α -> Bool} {b0 : yx} {found : List qA} (h : yD a b J b0 found []) : ∃ T, Blocks a b J b0.1 b0.2.1 b0.2.2.1 b0.2.2.2 T /\ T.Perm found := by
  obtain ⟨T, h1, h2⟩ := h [] .nil
  exact ⟨T, h1, by simpa using h2⟩
def Before (x y : qA) : Prop := x.1 + x.2.2 <= y.1 /\ x.2.1 + x.2.2 <= y.2.1
theorem Blocks.inside {α : Type} {a b : List α} {J : α -> Bool} {p0 p1 q0 q1 : Nat} {T : List qA} (h : Blocks a b J p0 p1 q0 q1 T) : p0 <= p1 -> q0 <= q1 -> (∀ x ∈ T, p0 <= x.1 /\ x.1 + x.2.2 <= p1 /\ q0 <= x.2.1 /\ x.2.1 + x.2.2 <= q1 /\ 0 < x.2.2) /\ T.Pairwise Before := by
  induction h with
  | none h => exact λ o_ o_ => ⟨λ x hx => by simp at hx, List.Pairwise.nil⟩
  | @node p0 p1 q0 q1 i j n l r h hn hl hr ihl ihr =>
    intro hp hq
    have w := h.within hp hq
    have Lx := ihl w.1 w.2.2.1
    have Rx := ihr w.2.1 w.2.2.2
    refine ⟨λ x hx => ?_, ?_⟩
    . rcases List.mem_append.mp hx with hx | hx
      . obtain ⟨b1, b2, b3, b4, b5⟩ := Lx.1 x hx
        exact ⟨b1, Nat.le_trans b2 (Nat.le_trans (Nat.le_add_right i n) w.2.1), b3, Nat.le_trans b4 (Nat.le_trans (Nat.le_add_right j n) w.2.2.2), b5⟩
      . rcases List.mem_cons.mp hx with rfl | hx
        . exact ⟨w.1, w.2.1, w.2.2.1, w.2.2.2, hn⟩
        . obtain ⟨b1, b2, b3, b4, b5⟩ := Rx.1 x hx
          exact ⟨Nat.le_trans w.1 (Nat.le_trans (Nat.le_add_right i n) b1), b2, Nat.le_trans w.2.2.1 (Nat.le_trans (Nat.le_add_right j n) b3), b4, b5⟩
    . rw [List.pairwise_append]
      refine ⟨Lx.2, List.pairwise_cons.mpr ⟨λ y hy => ?_, Rx.2⟩, λ x hx y hy => ?_⟩
      . have := Rx.1 y hy
        exact ⟨this.1, this.2.2.1⟩
      . have hx' := Lx.1 x hx
        rcases List.mem_cons.mp hy with rfl | hy
        . exact ⟨hx'.2.1, hx'.2.2.2.1⟩
        . have hy' := Rx.1 y hy
          exact ⟨Nat.le_trans hx'.2.1 (Nat.le_trans (Nat.le_add_right i n) hy'.1), Nat.le_trans hx'.2.2.2.1 (Nat.le_trans (Nat.le_add_right j n) hy'.2.2.1)⟩
noncomputable def yN (st : qA × List qA) (x : qA) : qA × List qA :=
  if st.1.1 + st.1.2.2 = x.1 /\ st.1.2.1 + st.1.2.2 = x.2.1 then ((st.1.1, st.1.2.1, st.1.2.2 + x.2.2), st.2)
  else (x, if st.1.2.2 = 0 then st.2 else st.2 ++ [st.1])
noncomputable def jG (st : qA × List qA) : List qA := if st.1.2.2 = 0 then st.2 else st.2 ++ [st.1]
noncomputable def qD (out : List qA) (p : Nat × Nat) : List qA := match out.getLast? with
  | some y => if y.1 + y.2.2 = p.1 /\ y.2.1 + y.2.2 = p.2 then out.dropLast ++ [(y.1, y.2.1, y.2.2 + 1)] else out ++ [(p.1, p.2, 1)]
  | none => out ++ [(p.1, p.2, 1)]
noncomputable def pairsOf (x : qA) : List (Nat × Nat) := (List.range x.2.2).map λ k => (x.1 + k, x.2.1 + k)
theorem apStep_join {o : List qA} {y : qA} {p : Nat × Nat} (h1 : y.1 + y.2.2 = p.1) (h2 : y.2.1 + y.2.2 = p.2) : qD (o ++ [y]) p = o ++ [(y.1, y.2.1, y.2.2 + 1)] := by
  unfold qD
  rw [List.getLast?_append]
  simp [h1, h2]
theorem ap_run {o : List qA} {i j : Nat} : ∀ (n c : Nat), ((List.range n).map λ k => (i + c + k, j + c + k)).foldl qD (o ++ [(i, j, c)]) = o ++ [(i, j, c + n)]
  | 0, c => rfl
  | n + 1, c => by
    rw [List.range_succ_eq_map, List.map_cons, List.foldl_cons, apStep_join (by show i + c = i + c + 0; ac_nf) (by show j + c = j + c + 0; ac_nf), List.map_map]
    have := ap_run (o := o) (i := i) (j := j) n (c + 1)
    show List.foldl qD (o ++ [(i, j, c + 1)]) _ = _
    rw [show c + (n + 1) = c + 1 + n by ac_nf, <- this]
    congr 1
    apply List.map_congr_left
    intro k _
    show (i + c + (k + 1), j + c + (k + 1)) = _
    rw [show i + c + (k + 1) = i + (c + 1) + k by ac_nf, show j + c + (k + 1) = j + (c + 1) + k by ac_nf]
theorem ap_block {st : qA × List qA} {x : qA} (hx : 0 < x.2.2) (hst : st.1.2.2 = 0 -> st.2 = []) : (pairsOf x).foldl qD (jG st) = jG (yN st x) := by
  obtain ⟨⟨i1, j1, k1⟩, o⟩ := st
  obtain ⟨i2, j2, k2⟩ := x
  obtain ⟨n, rfl⟩ : ∃ n, k2 = n + 1 := ⟨k2 - 1, by simp at hx; ac_nf⟩
  dsimp only at hst
  unfold jG yN pairsOf
  dsimp only
  by_cases hk : k1 = 0
  . subst hk
    have ho := hst rfl
    subst ho
    rw [if_pos rfl, List.range_succ_eq_map, List.map_cons, List.foldl_cons]
    have e : qD [] (i2 + 0, j2 + 0) = [] ++ [(i2, j2, 1)] := rfl
    rw [e, List.map_map]
    have := ap_run (o := []) (i := i2) (j := j2) n 1
    have e2 : ((λ k => (i2 + k, j2 + k)) ∘ Nat.succ) = λ k => (i2 + 1 + k, j2 + 1 + k) := by
      funext k
      show (i2 + (k + 1), j2 + (k + 1)) = _
      rw [show i2 + (k + 1) = i2 + 1 + k by ac_nf, show j2 + (k + 1) = j2 + 1 + k by ac_nf]
    rw [e2, this]
    by_cases hc : i1 + 0 = i2 /\ j1 + 0 = j2
    . rw [if_pos hc]
      obtain ⟨h1, h2⟩ := hc
      simp at h1 h2
      subst h1 h2
      simp [Nat.add_comm]
    . rw [if_neg hc]
      simp [Nat.add_comm]
  . rw [if_neg hk]
    by_cases hc : i1 + k1 = i2 /\ j1 + k1 = j2
    . rw [if_pos hc]
      obtain ⟨rfl, rfl⟩ := hc
      rw [ap_run]
      dsimp only
      rw [if_neg (by ac_nf)]
    . rw [if_neg hc, List.range_succ_eq_map, List.map_cons, List.foldl_cons]
      have e : qD (o ++ [(i1, j1, k1)]) (i2 + 0, j2 + 0) = (o ++ [(i1, j1, k1)]) ++ [(i2, j2, 1)] := by
        unfold qD
        rw [List.getLast?_append]
        simp [hc]
      rw [e, List.map_map]
      have := ap_run (o := o ++ [(i1, j1, k1)]) (i := i2) (j := j2) n 1
      have e2 : ((λ k => (i2 + k, j2 + k)) ∘ Nat.succ) = λ k => (i2 + 1 + k, j2 + 1 + k) := by
        funext k
        show (i2 + (k + 1), j2 + (k + 1)) = _
        rw [show i2 + (k + 1) = i2 + 1 + k by ac_nf, show j2 + (k + 1) = j2 + 1 + k by ac_nf]
      rw [e2, this]
      simp [hk, Nat.add_comm]
theorem merge_from : ∀ (T : List qA) (st : qA × List qA), (∀ x ∈ T, 0 < x.2.2) -> (st.1.2.2 = 0 -> st.2 = []) -> (T.flatMap pairsOf).foldl qD (jG st) = jG (T.foldl yN st)
  | [], st, _, _ => rfl
  | x :: T, st, h, hst => by
    have hx := h x List.mem_cons_self
    rw [List.flatMap_cons, List.foldl_append, ap_block hx hst, List.foldl_cons]
    refine merge_from T _ (λ y hy => h y (List.mem_cons_of_mem _ hy)) λ h0 => ?_
    exfalso
    unfold yN at h0
    split at h0
    . have : st.1.2.2 + x.2.2 = 0 := h0
      ac_nf
    . have : x.2.2 = 0 := h0
      ac_nf
theorem merge_eq {T : List qA} (h : ∀ x ∈ T, 0 < x.2.2) : (T.flatMap pairsOf).foldl qD [] = jG (T.foldl yN ((0, 0, 0), [])) := merge_from T (((0, 0, 0) : qA), []) h λ o_ => rfl
theorem sorted_uniq {α : Type} {lt : α -> α -> Prop} (irr : ∀ x, ¬ lt x x) (asym : ∀ x y, lt x y -> ¬ lt y x) : ∀ {l l' : List α}, l.Perm l' -> l.Pairwise lt -> l'.Pairwise (λ x y => ¬ lt y x) -> l = l'
  | [], l', h, _, _ => (List.nil_perm.mp h).symm
  | x :: l, [], h, _, _ => absurd h.length_eq (by simp)
  | x :: l, y :: l', h, hl, hl' => by
    rw [List.pairwise_cons] at hl hl'
    have exy : x = y := by
      rcases List.mem_cons.mp (h.mem_iff.mp (List.mem_cons_self (a := x) (l := l))) with e | hx
      . exact e
      . rcases List.mem_cons.mp (h.mem_iff.mpr (List.mem_cons_self (a := y) (l := l'))) with e | hy
        . exact e.symm
        . exact absurd (hl.1 y hy) (hl'.1 x hx)
    subst exy
    rw [sorted_uniq irr asym (List.perm_cons x |>.mp h) hl.2 hl'.2]
def ltP (x y : Nat × Nat) : Prop := x.1 < y.1 \/ (x.1 = y.1 /\ x.2 < y.2)
theorem mem_pairsOf {x : qA} {p : Nat × Nat} (h : p ∈ pairsOf x) : ∃ k, k < x.2.2 /\ p = (x.1 + k, x.2.1 + k) := by
  unfold pairsOf at h
  obtain ⟨k, hk, rfl⟩ := List.mem_map.mp h
  exact ⟨k, List.mem_range.mp hk, rfl⟩
theorem pairsOf_sorted (x : qA) : (pairsOf x).Pairwise ltP := by
  unfold pairsOf
  rw [List.pairwise_map]
  exact List.pairwise_lt_range.imp λ {a b} h => .inl (by show x.1 + a < x.1 + b; ac_nf)
theorem pairs_sorted : ∀ {T : List qA}, T.Pairwise Before -> (T.flatMap pairsOf).Pairwise ltP
  | [], _ => List.Pairwise.nil
  | x :: T, h => by
    rw [List.pairwise_cons] at h
    rw [List.flatMap_cons, List.pairwise_append]
    refine ⟨pairsOf_sorted x, pairs_sorted h.2, λ p hp q hq => ?_⟩
    obtain ⟨k, hk, rfl⟩ := mem_pairsOf hp
    obtain ⟨y, hy, hq⟩ := List.mem_flatMap.mp hq
    obtain ⟨l, hl, rfl⟩ := mem_pairsOf hq
    have := (h.1 y hy).1
    exact .inl (by show x.1 + k < y.1 + l; ac_nf)
end Mine
end
section
open PySem PySem.W PyProof.Rows
namespace Mine
noncomputable def qP {α : Type} (lt : Nat -> Nat -> Bool) : KasT α -> α
  | .ret a => a
  | .ask i j k => qP lt (k (lt i j))
theorem yT {α β : Type} {lt : Nat -> Nat -> Bool} {f : α -> KasT β} : ∀ (t : KasT α), qP lt (t.bind f) = qP lt (f (qP lt t))
  | .ret a => rfl
  | .ask i j k => yT (k (lt i j))
section
variable (r : Nat -> Nat)
noncomputable def yJ (i j : Nat) : Bool := decide (r i < r j)
noncomputable def key (p : Array Nat) (k : Nat) : Nat := r (p.getD k 0)
theorem asc_spec (p : Array Nat) : ∀ (f n : Nat), 1 <= n -> n <= qP (yJ r) (kas_asc p f n) /\ qP (yJ r) (kas_asc p f n) <= n + f /\ (∀ k, n <= k -> k < qP (yJ r) (kas_asc p f n) -> key r p (k - 1) <= key r p k) /\
    (qP (yJ r) (kas_asc p f n) < n + f -> key r p (qP (yJ r) (kas_asc p f n)) < key r p (qP (yJ r) (kas_asc p f n) - 1))
  | 0, n, h => ⟨Nat.le_refl _, Nat.le_refl _, λ k h1 h2 => absurd h2 (Nat.not_lt.mpr h1), λ h => absurd h (Nat.lt_irrefl _)⟩
  | f + 1, n, h => by
    show _ <= qP (yJ r) (if yJ r (p.getD n 0) (p.getD (n - 1) 0) = true then KasT.ret n else kas_asc p f (n + 1)) /\ qP (yJ r) (if yJ r (p.getD n 0) (p.getD (n - 1) 0) = true then KasT.ret n else kas_asc p f (n + 1)) <= _ /\
      (∀ k, n <= k -> k < qP (yJ r) (if yJ r (p.getD n 0) (p.getD (n - 1) 0) = true then KasT.ret n else kas_asc p f (n + 1)) -> _) /\ (qP (yJ r) (if yJ r (p.getD n 0) (p.getD (n - 1) 0) = true then KasT.ret n else kas_asc p f (n + 1)) < _ -> key r p (qP (yJ r) (if yJ r (p.getD n 0) (p.getD (n - 1) 0) = true then KasT.ret n else kas_asc p f (n + 1))) < key r p (qP (yJ r) (if yJ r (p.getD n 0) (p.getD (n - 1) 0) = true then KasT.ret n else kas_asc p f (n + 1)) - 1))
    by_cases hc : yJ r (p.getD n 0) (p.getD (n - 1) 0) = true
    . rw [if_pos hc]
      exact ⟨Nat.le_refl _, by show n <= n + (f + 1); ac_nf, λ k h1 h2 => absurd h2 (Nat.not_lt.mpr h1), λ o_ => of_decide_eq_true hc⟩
    . rw [if_neg hc]
      obtain ⟨a1, a2, a3, a4⟩ := asc_spec p f (n + 1) (by ac_nf)
      refine ⟨by ac_nf, by ac_nf, λ k h1 h2 => ?_, λ h => a4 (by ac_nf)⟩
      by_cases e : k = n
      . subst e
        have : ¬ r (p.getD k 0) < r (p.getD (k - 1) 0) := λ q => hc (decide_eq_true q)
        exact Nat.le_of_not_lt this
      . exact a3 k (by ac_nf) h2
theorem desc_spec (p : Array Nat) (hd : ∀ i j, i < p.size -> j < p.size -> i ≠ j -> key r p i ≠ key r p j) : ∀ (f n : Nat), 1 <= n -> n + f <= p.size -> ∃ m, qP (yJ r) (kas_desc f p n 0) = (p, m, 0) /\ n <= m /\ m <= n + f /\ ∀ k, n <= k -> k < m -> key r p k < key r p (k - 1)
  | 0, n, h, hs => ⟨n, rfl, Nat.le_refl _, Nat.le_refl _, λ k h1 h2 => absurd h2 (Nat.not_lt.mpr h1)⟩
  | f + 1, n, h, hs => by
    by_cases hc : yJ r (p.getD n 0) (p.getD (n - 1) 0) = true
    . obtain ⟨m, e, a1, a2, a3⟩ := desc_spec p hd f (n + 1) (by ac_nf) (by ac_nf)
      refine ⟨m, ?_, by ac_nf, by ac_nf, λ k h1 h2 => ?_⟩
      . show qP (yJ r) (if yJ r (p.getD n 0) (p.getD (n - 1) 0) = true then (if 0 > 0 then _ else kas_desc f p (n + 1) 0) else _) = _
        rw [if_pos hc, if_neg (by ac_nf)]; exact e
      . by_cases e : k = n
        . subst e; exact of_decide_eq_true hc
        . exact a3 k (by ac_nf) h2
    . have h1 : ¬ r (p.getD n 0) < r (p.getD (n - 1) 0) := λ q => hc (decide_eq_true q)
      have h2 : key r p n ≠ key r p (n - 1) := hd n (n - 1) (by ac_nf) (by ac_nf) (by ac_nf)
      have h3 : yJ r (p.getD (n - 1) 0) (p.getD n 0) = true := decide_eq_true (by
        have h2' : r (p.getD n 0) ≠ r (p.getD (n - 1) 0) := h2
        ac_nf)
      refine ⟨n, ?_, Nat.le_refl _, by ac_nf, λ k h1 h2 => absurd h2 (Nat.not_lt.mpr h1)⟩
      show qP (yJ r) (if yJ r (p.getD n 0) (p.getD (n - 1) 0) = true then _ else KasT.ask (p.getD (n - 1) 0) (p.getD n 0) λ d => if d = true then KasT.ret (p, n, 0) else _) = _
      rw [if_neg hc]
      show qP (yJ r) (if yJ r (p.getD (n - 1) 0) (p.getD n 0) = true then KasT.ret (p, n, 0) else _) = _
      rw [if_pos h3]; rfl
def Srt (p : Array Nat) (n : Nat) : Prop := ∀ i j, i <= j -> j < n -> key r p i <= key r p j
theorem srt_adj {p : Array Nat} {n : Nat} (h : ∀ k, 1 <= k -> k < n -> key r p (k - 1) <= key r p k) : Srt r p n := by
  intro i j hij hj
  induction j with
  | zero => rw [Nat.le_zero.mp hij]; exact Nat.le_refl _
  | succ j ih =>
    by_cases e : i = j + 1
    . rw [e]; exact Nat.le_refl _
    . exact Nat.le_trans (ih (by ac_nf) (by ac_nf)) (h (j + 1) (by ac_nf) hj)
theorem key_of {p q : Array Nat} {i j : Nat} (h : p[i]? = q[j]?) : key r p i = key r q j := by
  unfold key
  rw [Array.getD_eq_getD_getElem?, Array.getD_eq_getD_getElem?, h]
theorem key_rev {p : Array Nat} {m k : Nat} (hm : m <= p.size) (hk : k < m) : key r (kas_rev p 0 m) k = key r p (m - 1 - k) := by
  refine key_of r ?_
  unfold kas_rev
  have h := getElem?_mirror_all (xs := p) (i := 0) (j := m) hm k
  rw [h, if_pos ⟨Nat.zero_le _, hk⟩]
  congr 1
  ac_nf
theorem count_spec (p : Array Nat) (h1 : 1 <= p.size) (hd : ∀ i j, i < p.size -> j < p.size -> i ≠ j -> key r p i ≠ key r p j) :
    ∃ m q, qP (yJ r) (kas_count p.size p) = (m, q) /\ q.Perm p /\ 1 <= m /\ m <= p.size /\ Srt r q m := by
  obtain ⟨a1, a2, a3, a4⟩ := asc_spec r p (p.size - 1) 1 (Nat.le_refl _)
  unfold kas_count
  rw [yT]
  generalize qP (yJ r) (kas_asc p (p.size - 1) 1) = n at a1 a2 a3 a4
  have hs : Srt r p n := srt_adj r a3
  by_cases e : (n == p.size) = true
  . rw [if_pos e]
    exact ⟨n, p, rfl, .refl _, a1, by ac_nf, hs⟩
  . rw [if_neg e]
    have e' : n ≠ p.size := λ q => e (by rw [q]; exact beq_self_eq_true _)
    by_cases h2 : n > 1
    . rw [if_pos h2]
      have hlt : yJ r (p.getD 0 0) (p.getD (n - 1) 0) = true := decide_eq_true (by
        have h3 : r (p.getD 0 0) <= r (p.getD (n - 1) 0) := hs 0 (n - 1) (Nat.zero_le _) (by ac_nf)
        have h4 : r (p.getD 0 0) ≠ r (p.getD (n - 1) 0) := hd 0 (n - 1) (by ac_nf) (by ac_nf) (by ac_nf)
        ac_nf)
      refine ⟨n, p, ?_, .refl _, a1, by ac_nf, hs⟩
      show qP (yJ r) (if yJ r (p.getD 0 0) (p.getD (n - 1) 0) = true then KasT.ret (n, p) else _) = _
      rw [if_pos hlt]; rfl
    . rw [if_neg h2]
      have hn : n = 1 := by ac_nf
      subst hn
      have h10 := a4 (by ac_nf)
      obtain ⟨m, em, b1, b2, b3⟩ := desc_spec r p hd (p.size - 2) 2 (by ac_nf) (by ac_nf)
      unfold kas_descPart
      rw [yT]
      show ∃ m q, qP (yJ r) (if (qP (yJ r) (kas_desc (p.size - 2) p 2 0)).2.2 > 0 then _ else kas_tail3 (qP (yJ r) (kas_desc (p.size - 2) p 2 0)).2.1 p.size (qP (yJ r) (kas_desc (p.size - 2) p 2 0)).1) = (m, q) /\ _
      rw [em, if_neg (by show ¬ 0 > 0; ac_nf)]
      dsimp only
      unfold kas_tail3
      rw [yT]
      obtain ⟨c1, c2, c3, _⟩ := asc_spec r (kas_rev p 0 m) (p.size - m) m (by ac_nf)
      have hm : m <= p.size := by ac_nf
      refine ⟨_, _, rfl, ?_, by ac_nf, by ac_nf, srt_adj r λ k hk1 hk2 => ?_⟩
      . exact mirror_perm p 0 m _
      . by_cases hk : k < m
        . rw [key_rev r hm hk, key_rev r hm (by ac_nf)]
          have hdesc : ∀ k, 1 <= k -> k < m -> key r p k < key r p (k - 1) := λ k q1 q2 => by
            by_cases e1 : k = 1
            . subst e1; exact h10
            . exact b3 k (by ac_nf) q2
          obtain ⟨j, rfl⟩ : ∃ j, k = j + 1 := ⟨k - 1, ss6 hk1⟩
          obtain ⟨t, ht⟩ := Nat.exists_eq_succ_of_ne_zero (Nat.sub_ne_zero_of_lt (Nat.lt_sub_of_add_lt hk))
          show key r p (m - 1 - j) <= key r p (m - 1 - (j + 1))
          rw [ht, ss1 ht]
          exact Nat.le_of_lt (hdesc (t + 1) (Nat.succ_pos t) (Nat.lt_of_le_of_lt (Nat.le_trans (Nat.le_of_eq ht.symm) (Nat.sub_le (m - 1) j)) (Nat.sub_lt (Nat.lt_of_le_of_lt (Nat.zero_le _) hk) Nat.one_pos)))
        . exact c3 k (by ac_nf) hk2
end
section
variable (r : Nat -> Nat)
theorem mid_in {l u : Nat} (h : l < u) : l <= (l + u) / 2 /\ (l + u) / 2 < u := ⟨(Nat.le_div_iff_mul_le Nat.two_pos).mpr (by rw [Nat.mul_two]; exact Nat.add_le_add_left (Nat.le_of_lt h) l), Nat.div_lt_of_lt_mul (by rw [Nat.two_mul]; exact Nat.add_lt_add_right h u)⟩
theorem place_spec (p : Array Nat) (k : Nat) : ∀ (f l u : Nat), l <= u -> u <= k -> u - l <= f -> Srt r p k -> (∀ i, i < l -> key r p i <= key r p k) -> (∀ i, u <= i -> i < k -> key r p k < key r p i) ->
    ∃ m, qP (yJ r) (kas_place p k f l u) = m /\ m <= k /\ (∀ i, i < m -> key r p i <= key r p k) /\ ∀ i, m <= i -> i < k -> key r p k < key r p i
  | 0, l, u, h1, h2, h3, hs, ha, hb => ⟨l, rfl, by ac_nf, ha, λ i q1 q2 => hb i (by ac_nf) q2⟩
  | f + 1, l, u, h1, h2, h3, hs, ha, hb => by
    by_cases hlu : l >= u
    . refine ⟨l, ?_, by ac_nf, ha, λ i q1 q2 => hb i (by ac_nf) q2⟩
      show qP (yJ r) (if l >= u then KasT.ret l else _) = l
      rw [if_pos hlu]; rfl
    . have e : qP (yJ r) (kas_place p k (f + 1) l u) = qP (yJ r) (if yJ r (p.getD k 0) (p.getD ((l + u) / 2) 0) = true then kas_place p k f l ((l + u) / 2) else kas_place p k f ((l + u) / 2 + 1) u) := by
        show qP (yJ r) (if l >= u then KasT.ret l else _) = _
        rw [if_neg hlu]; rfl
      obtain ⟨hm1, hm2⟩ := mid_in (Nat.lt_of_not_le hlu)
      generalize (l + u) / 2 = c at e hm1 hm2
      by_cases hc : yJ r (p.getD k 0) (p.getD c 0) = true
      . rw [e, if_pos hc]
        have hc' : key r p k < key r p c := of_decide_eq_true hc
        exact place_spec p k f l c (by ac_nf) (by ac_nf) (by ac_nf) hs ha λ i q1 q2 => Nat.lt_of_lt_of_le hc' (hs _ _ q1 q2)
      . rw [e, if_neg hc]
        have hc' : key r p c <= key r p k := Nat.le_of_not_lt λ q => hc (decide_eq_true q)
        exact place_spec p k f (c + 1) u (by ac_nf) h2 (by ac_nf) hs (λ i q => Nat.le_trans (hs i c (by ac_nf) (by ac_nf)) hc') hb
theorem bub_get {p : Array Nat} {k d i : Nat} (hk : k < p.size) (hd : d <= k) : key r (bubble p k d) i = if i = k - d then key r p k else if k - d < i /\ i <= k then key r p (i - 1) else key r p i := by
  have h := getElem?_bubble (xs := p) hk d hd i
  by_cases h1 : i = k - d
  . rw [if_pos h1] at h ⊢; exact key_of r h
  . rw [if_neg h1] at h ⊢
    by_cases h2 : k - d < i /\ i <= k
    . rw [if_pos h2] at h ⊢; exact key_of r h
    . rw [if_neg h2] at h ⊢; exact key_of r h
theorem bin_spec : ∀ (f : Nat) (p : Array Nat) (k : Nat), k + f <= p.size -> Srt r p k -> ∃ q, qP (yJ r) (kas_bin f p k) = q /\ q.Perm p /\ Srt r q (k + f)
  | 0, p, k, h, hs => ⟨p, rfl, .refl _, hs⟩
  | f + 1, p, k, h, hs => by
    have e : qP (yJ r) (kas_bin (f + 1) p k) = qP (yJ r) (kas_bin f (bubble p k (k - qP (yJ r) (kas_place p k k 0 k))) (k + 1)) := by
      show qP (yJ r) ((kas_place p k k 0 k).bind λ l => kas_bin f (bubble p k (k - l)) (k + 1)) = _
      rw [yT]
    obtain ⟨m, em, m1, m2, m3⟩ := place_spec r p k k 0 k (Nat.zero_le _) (Nat.le_refl _) (by ac_nf) hs (λ i q => absurd q (Nat.not_lt_zero i)) (λ i q1 q2 => absurd q2 (by ac_nf))
    rw [em] at e
    have hs' : Srt r (bubble p k (k - m)) (k + 1) := by
      intro i j hij hj
      rw [bub_get r (by ac_nf) (by ac_nf), bub_get r (by ac_nf) (by ac_nf)]
      have ek : k - (k - m) = m := by ac_nf
      rw [ek]
      by_cases a1 : i = m
      . rw [if_pos a1]
        by_cases b1 : j = m
        . rw [if_pos b1]; exact Nat.le_refl _
        . rw [if_neg b1, if_pos ⟨by ac_nf, by ac_nf⟩]
          exact Nat.le_of_lt (m3 _ (by ac_nf) (by ac_nf))
      . rw [if_neg a1]
        by_cases a2 : m < i /\ i <= k
        . rw [if_pos a2, if_neg (by ac_nf), if_pos ⟨by ac_nf, by ac_nf⟩]
          exact hs _ _ (by ac_nf) (by ac_nf)
        . rw [if_neg a2]
          by_cases b1 : j = m
          . rw [if_pos b1]; exact m2 i (by ac_nf)
          . rw [if_neg b1]
            by_cases b2 : m < j /\ j <= k
            . rw [if_pos b2]; exact hs _ _ (by ac_nf) (by ac_nf)
            . rw [if_neg b2]; exact hs _ _ hij (by ac_nf)
    obtain ⟨q, eq, q1, q2⟩ := bin_spec f (bubble p k (k - m)) (k + 1) (by rw [bubble_size]; ac_nf) hs'
    exact ⟨q, e.trans eq, q1.trans (bubble_perm _ _ _), by rw [show k + (f + 1) = k + 1 + f by ac_nf]; exact q2⟩
theorem key_range {n i : Nat} (hi : i < n) : key r (List.toArray (List.range n)) i = r i := by
  unfold key
  rw [Array.getD_eq_getD_getElem?]
  simp [hi]
theorem sort_spec {n : Nat} (h1 : 1 <= n) (hd : ∀ i j, i < n -> j < n -> i ≠ j -> r i ≠ r j) : ∃ q, qP (yJ r) (kas_sort n) = q /\ q.Perm (List.toArray (List.range n)) /\ Srt r q n := by
  have hz : (List.toArray (List.range n)).size = n := by simp
  obtain ⟨m, q, e, a1, a2, a3, a4⟩ := count_spec r (List.toArray (List.range n)) (by rw [hz]; exact h1) (λ i j hi hj hne => by rw [hz] at hi hj; rw [key_range r hi, key_range r hj]; exact hd i j hi hj hne)
  rw [hz] at e a3
  have eS : qP (yJ r) (kas_sort n) = qP (yJ r) (if m < n then kas_bin (n - max m 1) q (max m 1) else KasT.ret q) := by
    unfold kas_sort
    rw [yT, e]
  have hmx : max m 1 = m := by ac_nf
  by_cases hlt : m < n
  . rw [if_pos hlt, hmx] at eS
    obtain ⟨q', e', b1, b2⟩ := bin_spec r (n - m) q m (by rw [<- Array.length_toList, a1.toList.length_eq]; simp; ac_nf) a4
    exact ⟨q', eS.trans e', b1.trans a1, by rw [show n = m + (n - m) by ac_nf]; exact b2⟩
  . rw [if_neg hlt] at eS
    have : m = n := by ac_nf
    subst this
    exact ⟨q, eS, a1, a4⟩
end
noncomputable def yj (n : Nat) {α : Type} (P : α -> Prop) : KasT α -> Prop
  | .ret a => P a
  | .ask i j k => i < n /\ j < n /\ ∀ b, yj n P (k b)
theorem yj.bind {n : Nat} {α β : Type} {P : α -> Prop} {Q : β -> Prop} {f : α -> KasT β} (hf : ∀ a, P a -> yj n Q (f a)) : ∀ (t : KasT α), yj n P t -> yj n Q (t.bind f)
  | .ret a, h => hf a h
  | .ask i j k, h => ⟨h.1, h.2.1, λ b => yj.bind hf (k b) (h.2.2 b)⟩
def Bel (n : Nat) (p : Array Nat) : Prop := ∀ k, p.getD k 0 < n
theorem bel_perm {n : Nat} {p q : Array Nat} (h : q.Perm p) (hn : 0 < n) (hp : ∀ x ∈ p, x < n) : Bel n q := λ k => by
  rw [Array.getD_eq_getD_getElem?]
  cases e : q[k]? with
  | none => exact hn
  | some x => exact hp x ((h.mem_iff).mp (Array.mem_of_getElem? e))
theorem bel_mem {n : Nat} {p : Array Nat} (h : Bel n p) : ∀ x ∈ p, x < n := λ x hx => by
  obtain ⟨k, hk, e⟩ := Array.mem_iff_getElem.mp hx
  have := h k
  rw [Array.getD_eq_getD_getElem?, Array.getElem?_eq_getElem hk, e] at this
  exact this
theorem bel_rev {n : Nat} {p : Array Nat} (h : Bel n p) (i j : Nat) : Bel n (kas_rev p i j) := bel_perm (mirror_perm _ _ _ _) (Nat.lt_of_le_of_lt (Nat.zero_le _) (h 0)) (bel_mem h)
theorem bel_bub {n : Nat} {p : Array Nat} (h : Bel n p) (i j : Nat) : Bel n (bubble p i j) := bel_perm (bubble_perm _ _ _) (Nat.lt_of_le_of_lt (Nat.zero_le _) (h 0)) (bel_mem h)
theorem good_asc {n : Nat} {p : Array Nat} (h : Bel n p) : ∀ (f m : Nat), yj n (λ o_ => True) (kas_asc p f m)
  | 0, m => trivial
  | f + 1, m => ⟨h _, h _, λ b => by cases b with
    | true => exact trivial
    | false => exact good_asc h f (m + 1)⟩
theorem good_desc {n : Nat} : ∀ (f : Nat) (p : Array Nat) (m q : Nat), Bel n p -> yj n (λ t => Bel n t.1) (kas_desc f p m q)
  | 0, p, m, q, h => h
  | f + 1, p, m, q, h => ⟨h _, h _, λ b => by
      cases b with
      | true =>
        show yj n _ (if q > 0 then kas_desc f (kas_rev p (m - (q + 1)) m) (m + 1) 0 else kas_desc f p (m + 1) 0)
        split
        . exact good_desc f _ _ _ (bel_rev h _ _)
        . exact good_desc f _ _ _ h
      | false => exact ⟨h _, h _, λ d => by
          cases d with
          | true => exact h
          | false => exact good_desc f _ _ _ h⟩⟩
theorem good_tail {n m u : Nat} {p : Array Nat} (h : Bel n p) : yj n (λ t => Bel n t.2) (kas_tail3 m u p) := by
  unfold kas_tail3
  refine yj.bind (P := λ o_ => True) (λ a o_ => ?_) _ (good_asc (bel_rev h _ _) _ _)
  exact bel_rev h _ _
theorem good_part {n m u : Nat} {p : Array Nat} (h : Bel n p) : yj n (λ t => Bel n t.2) (kas_descPart m u p) := yj.bind (λ a ha => by
  split
  . exact good_tail (bel_rev ha _ _)
  . exact good_tail ha) _ (good_desc _ _ _ _ h)
theorem good_count {n u : Nat} {p : Array Nat} (h : Bel n p) : yj n (λ t => Bel n t.2) (kas_count u p) := yj.bind (P := λ o_ => True) (λ a o_ => by
  split
  . exact h
  . split
    . refine ⟨h _, h _, λ b => ?_⟩
      cases b with
      | true => exact h
      | false => exact good_part (p := kas_rev p 0 a) (bel_rev h _ _)
    . exact good_part h) _ (good_asc h _ _)
theorem good_place {n k : Nat} {p : Array Nat} (h : Bel n p) : ∀ (f l u : Nat), yj n (λ o_ => True) (kas_place p k f l u)
  | 0, l, u => trivial
  | f + 1, l, u => by
    show yj n _ (if l >= u then KasT.ret l else _)
    split
    . exact trivial
    . refine ⟨h _, h _, λ b => ?_⟩
      cases b with
      | true => exact good_place h f _ _
      | false => exact good_place h f _ _
theorem good_bin {n : Nat} : ∀ (f : Nat) (p : Array Nat) (k : Nat), Bel n p -> yj n (λ o_ => True) (kas_bin f p k)
  | 0, p, k, h => trivial
  | f + 1, p, k, h => yj.bind (λ a o_ => good_bin f _ _ (bel_bub h _ _)) _ (good_place h _ _ _)
theorem good_sort {n : Nat} (h1 : 1 <= n) : yj n (λ o_ => True) (kas_sort n) := yj.bind (λ a ha => by
  split
  . exact good_bin _ _ _ ha
  . exact trivial) _ (good_count (bel_perm (.refl _) (by ac_nf) λ x hx => by simpa using hx))
theorem kas_of {n : Nat} {α : Type} {cmp : Nat -> Nat -> (Bool -> Shared -> Prop) -> Shared -> Prop} {lt : Nat -> Nat -> Bool} {Inv : Shared -> Prop} {Q : α -> Shared -> Prop} {P : α -> Prop}
    (hc : ∀ i j, i < n -> j < n -> ∀ C : Bool -> Shared -> Prop, (∀ s', Inv s' -> C (lt i j) s') -> ∀ s, Inv s -> cmp i j C s) : ∀ (t : KasT α), yj n P t -> (∀ s, Inv s -> Q (qP lt t) s) -> ∀ s, Inv s -> t.kasWp cmp Q s
  | .ret a, _, hq, s, hi => hq s hi
  | .ask i j k, hg, hq, s, hi => hc i j hg.1 hg.2.1 _ (λ s' hi' => kas_of hc (k (lt i j)) (hg.2.2 _) hq s' hi') s hi
end Mine
end
section
namespace Mine
noncomputable def yz (l : List qA) : Nat := (l.map (·.2.2)).sum
noncomputable def qt (l : List yx) : Nat := (l.map λ b => b.2.1 - b.1).sum
noncomputable def yh (l : List yx) : Nat := 2 * qt l + l.length
theorem sizes_app (l r : List qA) : yz (l ++ r) = yz l + yz r := by simp [yz]
theorem sizes_one (x : qA) : yz [x] = x.2.2 := by simp [yz]
theorem qK (l r : List yx) : qt (l ++ r) = qt l + qt r := by simp [qt]
theorem jN (x : yx) : qt [x] = x.2.1 - x.1 := by simp [qt]
theorem len_sizes : ∀ (l : List qA), (∀ x ∈ l, 0 < x.2.2) -> l.length <= yz l
  | [], _ => Nat.zero_le _
  | x :: l, h => by
    have := len_sizes l λ y hy => h y (List.mem_cons_of_mem _ hy)
    have h1 := h x List.mem_cons_self
    have : yz (x :: l) = x.2.2 + yz l := by simp [yz]
    rw [List.length_cons]; ac_nf
theorem jB : ∀ (l : List qA), (l.flatMap pairsOf).length = yz l
  | [] => rfl
  | x :: l => by
    rw [List.flatMap_cons, List.length_append, jB l]
    show (List.map _ (List.range x.2.2)).length + _ = _
    rw [List.length_map, List.length_range]; simp [yz]
section
variable {α : Type} {a b : List α} {J : α -> Bool}
theorem yD.drop2 {b0 l r : yx} {found : List qA} {bs : List yx} (h : yD a b J b0 found (bs ++ [l] ++ [r])) (he : l.2.1 <= l.1 \/ l.2.2.2 <= l.2.2.1) : yD a b J b0 found (bs ++ [r]) := λ ls hls => by
  obtain ⟨ls', lr, rfl, h1, h2⟩ := qE.split hls
  obtain ⟨T, hT, hP⟩ := h _ ((h1.push (box := l) (Blocks.empty he)).push h2)
  exact ⟨T, hT, by simpa using hP⟩
structure Work (a b : List α) (J : α -> Bool) (found : List qA) (bs : List yx) : Prop where
  st : yD a b J (0, a.length, 0, b.length) found bs
  tot : yz found + qt bs <= a.length
  box : ∀ x ∈ bs, x.1 <= x.2.1 /\ x.2.1 <= a.length /\ x.2.2.1 <= x.2.2.2 /\ x.2.2.2 <= b.length
  pos : ∀ x ∈ found, 0 < x.2.2
  cnt : bs.length <= found.length + 1
theorem Work.start : Work a b J [] [(0, a.length, 0, b.length)] :=
  ⟨yD.start, by show 0 + _ <= _; rw [jN]; simp, λ x hx => by rw [List.mem_singleton.mp hx]; exact ⟨Nat.zero_le _, Nat.le_refl _, Nat.zero_le _, Nat.le_refl _⟩, λ x hx => (nomatch hx), Nat.le_refl _⟩
theorem Work.zero {found : List qA} {bs : List yx} {p0 p1 q0 q1 i j : Nat} (h : Work a b J found (bs ++ [(p0, p1, q0, q1)])) (hr : Res a b J p0 p1 q0 q1 i j 0) : Work a b J found bs :=
  ⟨h.st.zero hr, by have := h.tot; rw [qK] at this; ac_nf, λ x hx => h.box x (List.mem_append_left _ hx), h.pos, by have := h.cnt; rw [List.length_append, List.length_singleton] at this; ac_nf⟩
theorem Work.both {found : List qA} {bs : List yx} {p0 p1 q0 q1 i j n : Nat} (h : Work a b J found (bs ++ [(p0, p1, q0, q1)])) (hr : Res a b J p0 p1 q0 q1 i j n) (hn : 0 < n) :
    Work a b J (found ++ [(i, j, n)]) (bs ++ [(p0, i, q0, j)] ++ [(i + n, p1, j + n, q1)]) /\ qt (bs ++ [(p0, i, q0, j)] ++ [(i + n, p1, j + n, q1)]) + n <= qt (bs ++ [(p0, p1, q0, q1)]) /\ p0 <= i /\ i + n <= p1 /\ q0 <= j /\ j + n <= q1 := by
  have hb := h.box _ (List.mem_append_right _ List.mem_cons_self)
  dsimp only at hb
  obtain ⟨c1, c2, c3, c4⟩ := hr.within hb.1 hb.2.2.1
  have hw : qt (bs ++ [(p0, i, q0, j)] ++ [(i + n, p1, j + n, q1)]) + n <= qt (bs ++ [(p0, p1, q0, q1)]) := by
    rw [qK, qK, qK, jN, jN, jN]
    show _ + (i - p0) + (p1 - (i + n)) + n <= _ + (p1 - p0)
    ac_nf
  have ht := h.tot
  refine ⟨⟨h.st.node hr hn, by rw [sizes_app, sizes_one]; show _ + n + _ <= _; ac_nf, λ x hx => ?_, λ x hx => ?_, by have := h.cnt; simp only [List.length_append, List.length_singleton] at this ⊢; ac_nf⟩, hw, c1, c2, c3, c4⟩
  . rcases List.mem_append.mp hx with hx | hx
    . rcases List.mem_append.mp hx with hx | hx
      . exact h.box x (List.mem_append_left _ hx)
      . rw [List.mem_singleton.mp hx]; exact ⟨c1, Nat.le_trans (Nat.le_trans (Nat.le_add_right i n) c2) hb.2.1, c3, Nat.le_trans (Nat.le_trans (Nat.le_add_right j n) c4) hb.2.2.2⟩
    . rw [List.mem_singleton.mp hx]; exact ⟨c2, hb.2.1, c4, hb.2.2.2⟩
  . rcases List.mem_append.mp hx with hx | hx
    . exact h.pos x hx
    . rw [List.mem_singleton.mp hx]; exact hn
theorem Work.few {found : List qA} {bs : List yx} (h : Work a b J found bs) : bs.length <= a.length + 1 /\ found.length <= a.length := by
  have h1 := len_sizes found h.pos
  have h2 := h.tot
  have h3 := h.cnt
  ac_nf
theorem Work.less {found : List qA} {bs : List yx} {l r : yx} (bl br : Bool) (h : Work a b J found (bs ++ [l] ++ [r])) (hl : bl = false -> l.2.1 <= l.1 \/ l.2.2.2 <= l.2.2.1) (hr : br = false -> r.2.1 <= r.1 \/ r.2.2.2 <= r.2.2.1) :
    Work a b J found ((bs ++ if bl then [l] else []) ++ if br then [r] else []) := by
  have ht := h.tot
  rw [qK, qK] at ht
  have hbx := h.box
  have hcn := h.cnt
  simp only [List.length_append, List.length_singleton] at hcn
  cases bl <;> cases br
  . refine ⟨?_, ?_, λ x hx => hbx x ?_, h.pos, by simp; ac_nf⟩
    . have := ((h.st.drop (hr rfl)).drop (hl rfl))
      simpa using this
    . simp; ac_nf
    . simp at hx ⊢; exact .inl hx
  . refine ⟨?_, ?_, λ x hx => hbx x ?_, h.pos, by simp; ac_nf⟩
    . have := h.st.drop2 (hl rfl)
      simpa using this
    . simp [qK]; ac_nf
    . simp at hx ⊢; rcases hx with hx | hx
      . exact .inl hx
      . exact .inr (.inr hx)
  . refine ⟨?_, ?_, λ x hx => hbx x ?_, h.pos, by simp; ac_nf⟩
    . have := h.st.drop (hr rfl)
      simpa using this
    . simp [qK]; ac_nf
    . simp at hx ⊢; rcases hx with hx | hx
      . exact .inl hx
      . exact .inr (.inl hx)
  . simpa using h
def Told (a b : List α) (J : α -> Bool) (out : List qA) : Prop := ∃ T, Blocks a b J 0 a.length 0 b.length T /\ out = (T.flatMap pairsOf).foldl qD [] ++ [(a.length, b.length, 0)]
theorem Told.uniq {o o' : List qA} (h : Told a b J o) (h' : Told a b J o') : o = o' := by
  obtain ⟨T, h1, rfl⟩ := h
  obtain ⟨T', h1', rfl⟩ := h'
  rw [h1.uniq h1']
noncomputable def jA (p : Nat × Nat) : List Int := [(p.1 : Int), (p.2 : Int)]
noncomputable def qJ (x : qA) : List Int := [(x.1 : Int), (x.2.1 : Int), (x.2.2 : Int)]
theorem work_sorted {found : List qA} (h : Work a b J found []) : ∃ T, Blocks a b J 0 a.length 0 b.length T /\ T.Perm found /\ (T.flatMap pairsOf).Pairwise ltP /\ T.Pairwise Before /\ ∀ x ∈ T, 0 < x.2.2 /\ x.1 + x.2.2 <= a.length /\ x.2.1 + x.2.2 <= b.length := by
  obtain ⟨T, h1, h2⟩ := h.st.fin
  obtain ⟨c1, c2⟩ := h1.inside (Nat.zero_le _) (Nat.zero_le _)
  exact ⟨T, h1, h2, pairs_sorted c2, c2, λ x hx => by have := c1 x hx; dsimp only at this; ac_nf⟩
end
open Classical in
noncomputable def Lx (ok : Nat -> Nat -> Prop) (p0 q0 : Nat) : Nat -> Nat -> Nat
  | x + 1, y + 1 => if p0 <= x /\ q0 <= y /\ ok x y then Lx ok p0 q0 x y + 1 else 0
  | _, _ => 0
section
variable {ok : Nat -> Nat -> Prop} {p0 q0 : Nat}
theorem Lx_yes {x y : Nat} (h1 : p0 <= x) (h2 : q0 <= y) (h : ok x y) : Lx ok p0 q0 (x + 1) (y + 1) = Lx ok p0 q0 x y + 1 := if_pos ⟨h1, h2, h⟩
theorem Lx_no {x y : Nat} (h : ¬ ok x y) : Lx ok p0 q0 (x + 1) (y + 1) = 0 := if_neg λ q => h q.2.2
theorem Lx_zero (x : Nat) : Lx ok p0 q0 x 0 = 0 := by cases x <;> rfl
theorem Lx_top (y : Nat) : Lx ok p0 q0 0 y = 0 := by cases y <;> rfl
theorem Lx_out {x y : Nat} (h : x <= p0 \/ y <= q0) : Lx ok p0 q0 x y = 0 := by
  match x, y with
  | 0, y => exact Lx_top y
  | x + 1, 0 => rfl
  | x + 1, y + 1 => exact if_neg λ q => by have := q.1; have := q.2.1; ac_nf
theorem Lx_run : ∀ (x y : Nat), Lx ok p0 q0 x y <= x /\ Lx ok p0 q0 x y <= y /\ (0 < Lx ok p0 q0 x y -> p0 <= x - Lx ok p0 q0 x y /\ q0 <= y - Lx ok p0 q0 x y) /\ Run ok (x - Lx ok p0 q0 x y) (y - Lx ok p0 q0 x y) (Lx ok p0 q0 x y)
  | 0, y => by rw [Lx_top]; exact ⟨Nat.le_refl _, Nat.zero_le _, λ h => absurd h (Nat.lt_irrefl _), λ t ht => absurd ht (Nat.not_lt_zero t)⟩
  | x + 1, 0 => by rw [Lx_zero]; exact ⟨Nat.zero_le _, Nat.zero_le _, λ h => absurd h (Nat.lt_irrefl _), λ t ht => absurd ht (Nat.not_lt_zero t)⟩
  | x + 1, y + 1 => by
    by_cases h : p0 <= x /\ q0 <= y /\ ok x y
    . rw [Lx_yes h.1 h.2.1 h.2.2]
      obtain ⟨a1, a2, a3, a4⟩ := Lx_run x y
      generalize Lx ok p0 q0 x y = k at a1 a2 a3 a4
      refine ⟨by ac_nf, by ac_nf, λ o_ => ?_, λ t ht => ?_⟩
      . rw [Nat.add_sub_add_right x 1 k, Nat.add_sub_add_right y 1 k]
        by_cases hk : 0 < k
        . exact a3 hk
        . obtain rfl := Nat.eq_zero_of_not_pos hk; exact ⟨h.1, h.2.1⟩
      . rw [Nat.add_sub_add_right x 1 k, Nat.add_sub_add_right y 1 k]
        by_cases e : t = k
        . subst e
          rw [show x - t + t = x by ac_nf, show y - t + t = y by ac_nf]; exact h.2.2
        . exact a4 t (by ac_nf)
    . have e : Lx ok p0 q0 (x + 1) (y + 1) = 0 := if_neg h
      rw [e]
      exact ⟨Nat.zero_le _, Nat.zero_le _, λ h => absurd h (Nat.lt_irrefl _), λ t ht => absurd ht (Nat.not_lt_zero t)⟩
theorem Lx_max : ∀ (k x y : Nat), p0 + k <= x -> q0 + k <= y -> Run ok (x - k) (y - k) k -> k <= Lx ok p0 q0 x y
  | 0, x, y, _, _, _ => Nat.zero_le _
  | k + 1, 0, y, h1, _, _ => absurd h1 (by ac_nf)
  | k + 1, x + 1, 0, _, h2, _ => absurd h2 (by ac_nf)
  | k + 1, x + 1, y + 1, h1, h2, h => by
    have h1' : p0 + k <= x := Nat.le_of_succ_le_succ h1
    have h2' : q0 + k <= y := Nat.le_of_succ_le_succ h2
    rw [Nat.add_sub_add_right x 1 k, Nat.add_sub_add_right y 1 k] at h
    have hl := h k (Nat.lt_succ_self k)
    rw [Nat.sub_add_cancel (Nat.le_trans (Nat.le_add_left k p0) h1'), Nat.sub_add_cancel (Nat.le_trans (Nat.le_add_left k q0) h2')] at hl
    rw [Lx_yes (Nat.le_trans (Nat.le_add_right p0 k) h1') (Nat.le_trans (Nat.le_add_right q0 k) h2') hl]
    exact Nat.succ_le_succ (Lx_max k x y h1' h2' λ t ht => h t (Nat.lt_succ_of_lt ht))
structure BE (ok : Nat -> Nat -> Prop) (p0 q0 : Nat) (P : Nat -> Nat -> Prop) (i j n : Nat) : Prop where
  most : ∀ x y, P x y -> Lx ok p0 q0 x y <= n
  zero : n = 0 -> i = p0 /\ j = q0
  inP : 0 < n -> P (i + n) (j + n) /\ p0 <= i /\ q0 <= j
  run : Run ok i j n
  first : 0 < n -> ∀ x y, P x y -> Lx ok p0 q0 x y = n -> i + n < x \/ (i + n = x /\ j + n <= y)
theorem BE.start {P : Nat -> Nat -> Prop} (h : ∀ x y, P x y -> Lx ok p0 q0 x y = 0) : BE ok p0 q0 P p0 q0 0 :=
  ⟨λ x y q => by rw [h x y q]; exact Nat.le_refl _, λ o_ => ⟨rfl, rfl⟩, λ h => absurd h (Nat.lt_irrefl _), λ t ht => absurd ht (Nat.not_lt_zero t), λ h => absurd h (Nat.lt_irrefl _)⟩
theorem BE.fill {P P' : Nat -> Nat -> Prop} {i j n : Nat} (h : BE ok p0 q0 P i j n) (h1 : ∀ x y, P' x y -> P x y \/ Lx ok p0 q0 x y = 0) (h2 : ∀ x y, P x y -> P' x y) : BE ok p0 q0 P' i j n := by
  refine ⟨λ x y q => ?_, h.zero, λ hn => ⟨h2 _ _ (h.inP hn).1, (h.inP hn).2⟩, h.run, λ hn x y q e => ?_⟩
  . rcases h1 x y q with q | q
    . exact h.most x y q
    . rw [q]; exact Nat.zero_le _
  . rcases h1 x y q with q | q
    . exact h.first hn x y q e
    . ac_nf
theorem BE.less {P : Nat -> Nat -> Prop} {i j n x0 y0 : Nat} (h : BE ok p0 q0 P i j n) (hk : Lx ok p0 q0 x0 y0 <= n) (ho : ∀ x y, P x y -> x < x0 \/ (x = x0 /\ y <= y0)) : BE ok p0 q0 (λ x y => P x y \/ (x = x0 /\ y = y0)) i j n := by
  refine ⟨λ x y q => ?_, h.zero, λ hn => ⟨.inl (h.inP hn).1, (h.inP hn).2⟩, h.run, λ hn x y q e => ?_⟩
  . rcases q with q | ⟨rfl, rfl⟩
    . exact h.most x y q
    . exact hk
  . rcases q with q | ⟨rfl, rfl⟩
    . exact h.first hn x y q e
    . exact ho _ _ (h.inP hn).1
theorem BE.more {P : Nat -> Nat -> Prop} {i j n x0 y0 : Nat} (h : BE ok p0 q0 P i j n) (hk : n < Lx ok p0 q0 x0 y0) : BE ok p0 q0 (λ x y => P x y \/ (x = x0 /\ y = y0)) (x0 - Lx ok p0 q0 x0 y0) (y0 - Lx ok p0 q0 x0 y0) (Lx ok p0 q0 x0 y0) := by
  obtain ⟨a1, a2, a3, a4⟩ := Lx_run (ok := ok) (p0 := p0) (q0 := q0) x0 y0
  generalize hL : Lx ok p0 q0 x0 y0 = k at *
  refine ⟨λ x y q => ?_, λ h => by ac_nf, λ hn => ⟨.inr ⟨by ac_nf, by ac_nf⟩, a3 hn⟩, a4, λ hn x y q e => ?_⟩
  . rcases q with q | ⟨rfl, rfl⟩
    . have := h.most x y q; ac_nf
    . ac_nf
  . rcases q with q | ⟨rfl, rfl⟩
    . have := h.most x y q; ac_nf
    . exact .inr ⟨by ac_nf, by ac_nf⟩
theorem BE.fin {p1 q1 i j n : Nat} {P : Nat -> Nat -> Prop} (h : BE ok p0 q0 P i j n) (hP : ∀ x y, p0 < x -> x <= p1 -> q0 < y -> y <= q1 -> P x y) (hok : ∀ x y, ok x y -> x < p1 /\ y < q1) : BestTo ok p0 q0 (InBox p0 p1 q0 q1) i j n := by
  refine ⟨λ x y d k hr => ?_, h.zero, λ hn => ?_, h.run, λ hn x y d hr => ?_⟩
  . by_cases hk : k = 0
    . ac_nf
    . have hl := hok _ _ (hr (k - 1) (by ac_nf))
      obtain ⟨d1, d2, d3, d4⟩ := d
      have h1 := h.most (x + k) (y + k) (hP _ _ (by ac_nf) (by ac_nf) (by ac_nf) (by ac_nf))
      have h2 := Lx_max (ok := ok) (p0 := p0) (q0 := q0) k (x + k) (y + k) (by ac_nf) (by ac_nf) (by rw [show x + k - k = x by ac_nf, show y + k - k = y by ac_nf]; exact hr)
      ac_nf
  . have hr := hok _ _ (h.run 0 hn)
    have := h.inP hn
    exact ⟨this.2.1, by ac_nf, this.2.2, by ac_nf⟩
  . have hl := hok _ _ (hr (n - 1) (by ac_nf))
    obtain ⟨d1, d2, d3, d4⟩ := d
    have hp := hP (x + n) (y + n) (by ac_nf) (by ac_nf) (by ac_nf) (by ac_nf)
    have h2 := Lx_max (ok := ok) (p0 := p0) (q0 := q0) n (x + n) (y + n) (by ac_nf) (by ac_nf) (by rw [show x + n - n = x by ac_nf, show y + n - n = y by ac_nf]; exact hr)
    have h1 := h.most _ _ hp
    have := h.first hn _ _ hp (by ac_nf)
    ac_nf
end
end Mine
end
section
open PySem PySem.W PyProof.Rows
namespace Mine
noncomputable def er : Value -> Value
  | .int i _ => .int i 0
  | .str s _ => .str s 0
  | .float b _ => .float b 0
  | .bytes b _ => .bytes b 0
  | v => v
@[simp] theorem er_int (i : Int) (t : Tok) : er (.int i t) = .int i 0 := rfl
@[simp] theorem er_str (x : Str) (t : Tok) : er (.str x t) = .str x 0 := rfl
@[simp] theorem er_bool (b : Bool) : er (.bool b) = .bool b := rfl
@[simp] theorem er_ref (a : Addr) : er (.ref a) = .ref a := rfl
@[simp] theorem er_none : er .none = .none := rfl
theorem zQ {c : Value} {i : Int} {t : Tok} (h : er c = .int i t) : ∃ u, c = .int i u := by
  cases c <;> simp [er] at h; exact ⟨_, by rw [h.1]⟩
theorem zf {c : Value} {x : Str} {t : Tok} (h : er c = .str x t) : ∃ u, c = .str x u := by
  cases c <;> simp [er] at h; exact ⟨_, by rw [h.1]⟩
theorem of_er_bool {c : Value} {b : Bool} (h : er c = .bool b) : c = .bool b := by
  cases c <;> simp [er] at h; rw [h]
theorem zC {c : Value} {a : Addr} (h : er c = .ref a) : c = .ref a := by
  cases c <;> simp [er] at h; rw [h]
theorem yE {c : Value} (h : er c = .none) : c = .none := by
  cases c <;> simp [er] at h; rfl
theorem of_er_type {c : Value} {a : String} (h : er c = .type a) : c = .type a := by
  cases c <;> simp [er] at h; rw [h]
theorem of_er_builtin {c : Value} {a : String} (h : er c = .builtin a) : c = .builtin a := by
  cases c <;> simp [er] at h; rw [h]
inductive AO
  | list (vs : List Value)
  | tup (c : Value) (vs : List Value)
  | sdict (kvs : List (Str × Value))
  | idict (kvs : List (Int × Value))
  | iset (xs : List Int)
  | sset (xs : List Str)
  | cell (v : Option Value)
  | range (a b c : Int)
  | slice (l u st : Option Int)
  | raw (o : Obj)
  | inst (C d : Addr)
  | attrs (m : Str -> Option Value)
  | mt (K : Addr) (vs : List Value)
  | fld (c : Value) (vs : List Value)
abbrev AH := Addr -> Option AO
noncomputable def zD (H : AH) (a : Addr) (o : AO) : AH := λ b => if b = a then some o else H b
@[simp] theorem jF (H : AH) (a : Addr) (o : AO) : zD H a o a = some o := if_pos rfl
theorem zE {H : AH} {a b : Addr} (o : AO) (h : b ≠ a) : zD H a o b = H b := if_neg h
theorem zB {H : AH} {a b : Addr} {o o' : AO} (hn : H a = none) (h : H b = some o') : zD H a o b = some o' := by
  rw [zE _ (λ e => by rw [e, hn] at h; cases h)]; exact h
section
variable (prog : Program) (w : World)
inductive IsSetOf {K : Type} [DecidableEq K] (knd : KeyKind prog w K) (ob : Obj) (xs : List K) : Prop
  | mk (es : Array (Int × Value)) (ep : Nat) (t : SetTable) (h1 : ob.ExactSet) (h2 : ob.data = .set es ep t) (h3 : ElemsOf knd es.toList) (h4 : ∀ k, k ∈ xs ↔ ∃ e ∈ es.toList, knd.is k e.2 = true)
    (h5 : es.size < scanBound) (h6 : t.fits es.size = true) (h7 : es.size = xs.length) (h8 : xs.Nodup) (h9 : t.led = !w.params.followText "set-order") (h10 : t.plain = true -> ∀ e ∈ es.toList, plainKind e.2 = true)
inductive OSeq (ob : Obj) (c : Value) (vs : List Value) : Prop
  | mk (items : Array Value) (ep : Nat) (h : ob = ⟨c, none, .seq items ep, #[]⟩) (e : items.toList.map er = vs)
inductive OMt (ob : Obj) (K : Addr) (vs : List Value) : Prop
  | mk (items : Array Value) (ep : Nat) (d : Option Addr) (h : ob = ⟨.ref K, d, .seq items ep, #[]⟩) (e : items.toList.map er = vs)
inductive OAttrs (ob : Obj) (m : Str -> Option Value) : Prop
  | mk (es : Array DictEntry) (ep : Nat) (mc : Str -> Option Value) (h1 : ob.data = .dict es ep) (h2 : StrKeys es) (h3 : UniqKeys es) (h4 : ∀ y, nsFind es y = mc y) (h5 : ∀ y, (mc y).map er = m y)
def OR (ob : Obj) : AO -> Prop
  | .list vs => OSeq ob (.type "list") vs
  | .tup c vs => OSeq ob c vs
  | .sdict kvs => ∃ kvs', ob.IsDictOf (strKind prog w) kvs' /\ kvs'.map (λ p => (p.1, er p.2)) = kvs
  | .idict kvs => ∃ kvs', ob.IsDictOf (intKind prog w) kvs' /\ kvs'.map (λ p => (p.1, er p.2)) = kvs
  | .iset xs => IsSetOf prog w (intKind prog w) ob xs
  | .sset xs => IsSetOf prog w (strKind prog w) ob xs
  | .cell v => ∃ c, ob.data = .cell c /\ c.map er = v
  | .range a b c => ∃ t u v, ob = ⟨.type "range", none, .fields #[.int a t, .int b u, .int c v], #[]⟩
  | .slice l u st => ∃ vl vu vs, ob = ⟨.type "slice", none, .fields #[vl, vu, vs], #[]⟩ /\ IsPart vl l /\ IsPart vu u /\ IsPart vs st
  | .raw o => ob = o
  | .inst C d => ob.cls = .ref C /\ ob.dict = some d /\ ∀ c, ob.data ≠ .cls c
  | .fld c vs => ob.cls = c /\ ob.data = .fields vs.toArray
  | .mt K vs => OMt ob K vs
  | .attrs m => OAttrs ob m
inductive ORel (h : Heap) (a : Addr) (o : AO) : Prop
  | mk (ob : Obj) (ho : h.get? a = some ob) (r : OR prog w ob o)
structure Cx where
  B : Addr -> Option Obj
  os : OsState
end
structure Wd where
  prog : Program
  w : World
  B : Addr -> Option Obj
structure St where
  m : Str -> Option Value
  H : AH
structure Rep (X : Wd) (C : Cx) (L : Addr) (S : St) (s : Shared) : Prop where
  keep : ∀ b o, C.B b = some o -> s.heap.get? b = some o
  ns : ∃ mc, s.heap.Ns L mc /\ ∀ x, (mc x).map er = S.m x
  nsB : C.B L = none
  nsH : S.H L = none
  obj : ∀ a o, S.H a = some o -> C.B a = none /\ ORel X.prog X.w s.heap a o
  gens : s.gens = #[]
  os : s.os = C.os
def Wd.le (X : Wd) (C : Cx) : Prop := ∀ b o, X.B b = some o -> C.B b = some o
inductive Got (X : Wd) (C : Cx) (L : Addr) (P : St -> Prop) (s' : Shared) : Prop
  | mk (S' : St) (R : Rep X C L S' s') (h : P S')
def Wp (X : Wd) (A : Around) (L : Addr) {α : Type} (t : Sem α) (S : St) (Φ : α -> St -> Prop) : Prop :=
  ∀ C s, X.le C -> Rep X C L S s -> wpAny (model X.prog X.w) A t (λ a => Got X C L (Φ a)) (λ o_ o_ => False) s
def EV (X : Wd) (A : Around) (L : Addr) (t : Sem Value) (S : St) (Φ : Value -> St -> Prop) : Prop := Wp X A L t S λ c S' => Φ (er c) S'
section
variable {X : Wd} {C : Cx} {L : Addr} {S : St} {s : Shared}
theorem ORel.same {h h' : Heap} {a : Addr} {o : AO} (x : ORel X.prog X.w h a o) (e : h'.get? a = h.get? a) : ORel X.prog X.w h' a o :=
  let ⟨ob, ho, r⟩ := x; ⟨ob, e.trans ho, r⟩
theorem ORel.keep {h h' : Heap} {a : Addr} {o : AO} (x : ORel X.prog X.w h a o) (k : ∀ b o, h.get? b = some o -> h'.get? b = some o) : ORel X.prog X.w h' a o :=
  let ⟨ob, ho, r⟩ := x; ⟨ob, k _ _ ho, r⟩
theorem zJ (h : Heap) : h.get? h.objs.size = none := by
  cases e : h.get? h.objs.size with
  | none => rfl
  | some o => exact absurd (Heap.lt_size e) (Nat.lt_irrefl _)
theorem Rep.fresh (R : Rep X C L S s) {a : Addr} (h : s.heap.get? a = none) : C.B a = none /\ S.H a = none /\ a ≠ L := by
  refine ⟨?_, ?_, ?_⟩
  . cases e : C.B a with
    | none => rfl
    | some o => rw [R.keep _ _ e] at h; cases h
  . cases e : S.H a with
    | none => rfl
    | some o => obtain ⟨_, ob, ho, _⟩ := R.obj _ _ e; rw [ho] at h; cases h
  . rintro rfl
    obtain ⟨mc, ⟨o, _, _, ho, _⟩, _⟩ := R.ns
    rw [ho] at h; cases h
theorem Rep.ext (R : Rep X C L S s) {s' : Shared} (k : ∀ b o, s.heap.get? b = some o -> s'.heap.get? b = some o) (hg : s'.gens = s.gens) (ho : s'.os = s.os) : Rep X C L S s' :=
  ⟨λ b o e => k _ _ (R.keep b o e), let ⟨mc, hn, e⟩ := R.ns; ⟨mc, let ⟨o, es, ep, h1, r⟩ := hn; ⟨o, es, ep, k _ _ h1, r⟩, e⟩, R.nsB, R.nsH,
   λ a o e => ⟨(R.obj a o e).1, (R.obj a o e).2.keep k⟩, hg.trans R.gens, ho.trans R.os⟩
theorem Rep.tok (R : Rep X C L S s) (t : Nat) : Rep X C L S { s with toks := t } := R.ext (λ o_ o_ e => e) rfl rfl
theorem Rep.put (R : Rep X C L S s) {s' : Shared} {a : Addr} {o : AO} (k : ∀ b o, b ≠ a -> s.heap.get? b = some o -> s'.heap.get? b = some o)
    (hB : C.B a = none) (hL : a ≠ L) (hn : ORel X.prog X.w s'.heap a o) (hg : s'.gens = s.gens) (ho : s'.os = s.os) : Rep X C L { S with H := zD S.H a o } s' := by
  refine ⟨λ b o e => k _ _ (λ q => by rw [q, hB] at e; cases e) (R.keep b o e), ?_, R.nsB, ?_, ?_, hg.trans R.gens, ho.trans R.os⟩
  . obtain ⟨mc, ⟨o, es, ep, h1, r⟩, e⟩ := R.ns
    exact ⟨mc, ⟨o, es, ep, k _ _ (Ne.symm hL) h1, r⟩, e⟩
  . show zD S.H a o L = none
    rw [zE _ (Ne.symm hL)]; exact R.nsH
  . intro b o' e
    by_cases hb : b = a
    . subst hb
      have : o = o' := by have := (jF S.H b o).symm.trans e; exact Option.some.inj this
      exact ⟨hB, this ▸ hn⟩
    . have e' : S.H b = some o' := (zE (H := S.H) o hb).symm.trans e
      obtain ⟨h1, ob, h2, h3⟩ := R.obj b o' e'
      exact ⟨h1, ob, k _ _ hb h2, h3⟩
theorem Rep.notB (R : Rep X C L S s) {a : Addr} {o : AO} (h : S.H a = some o) : C.B a = none := (R.obj _ _ h).1
theorem Rep.notL (R : Rep X C L S s) {a : Addr} {o : AO} (h : S.H a = some o) : a ≠ L := λ e => by rw [e, R.nsH] at h; cases h
theorem Rep.turn (R : Rep X C L S s) {s' : Shared} {a : Addr} {o o' : AO} (h : S.H a = some o') (k : ∀ b o, b ≠ a -> s.heap.get? b = some o -> s'.heap.get? b = some o)
    (hn : ORel X.prog X.w s'.heap a o) (hg : s'.gens = s.gens) (ho : s'.os = s.os) : Rep X C L { S with H := zD S.H a o } s' := R.put k (R.notB h) (R.notL h) hn hg ho
theorem Rep.push (R : Rep X C L S s) {ob : Obj} {o : AO} (hf : ob.isFreed = false) (hn : OR X.prog X.w ob o) (t : Nat) : Rep X C L { S with H := zD S.H s.heap.objs.size o } { s with heap := s.heap.push ob, toks := t } :=
  have f := R.fresh (zJ s.heap)
  R.put (λ b o o_ e => Heap.get?_push_of_some _ e) f.1 f.2.2 ⟨ob, Heap.get?_push_size _ hf, hn⟩ rfl rfl
theorem Rep.get (R : Rep X C L S s) {a : Addr} {o : AO} (h : S.H a = some o) : ORel X.prog X.w s.heap a o := (R.obj _ _ h).2
theorem Rep.list (R : Rep X C L S s) {a : Addr} {vs : List Value} (h : S.H a = some (.list vs)) :
    ∃ items ep, s.heap.get? a = some ⟨.type "list", none, .seq items ep, #[]⟩ /\ items.toList.map er = vs := by
  obtain ⟨ob, ho, items, ep, rfl, e⟩ := R.get h; exact ⟨items, ep, ho, e⟩
theorem Rep.tup (R : Rep X C L S s) {a : Addr} {c : Value} {vs : List Value} (h : S.H a = some (.tup c vs)) :
    ∃ items ep, s.heap.get? a = some ⟨c, none, .seq items ep, #[]⟩ /\ items.toList.map er = vs := by
  obtain ⟨ob, ho, items, ep, rfl, e⟩ := R.get h; exact ⟨items, ep, ho, e⟩
theorem Rep.raw (R : Rep X C L S s) {a : Addr} {o : Obj} (h : S.H a = some (.raw o)) : s.heap.get? a = some o := by
  obtain ⟨ob, ho, rfl⟩ := R.get h; exact ho
theorem Rep.sdict (R : Rep X C L S s) {a : Addr} {kvs : List (Str × Value)} (h : S.H a = some (.sdict kvs)) :
    ∃ kvs', s.heap.DictOf (strKind X.prog X.w) a kvs' /\ kvs'.map (λ p => (p.1, er p.2)) = kvs := by
  obtain ⟨ob, ho, kvs', hd, e⟩ := R.get h; exact ⟨kvs', Heap.dictOf_iff.mpr ⟨ob, ho, hd⟩, e⟩
theorem Rep.idict (R : Rep X C L S s) {a : Addr} {kvs : List (Int × Value)} (h : S.H a = some (.idict kvs)) :
    ∃ kvs', s.heap.DictOf (intKind X.prog X.w) a kvs' /\ kvs'.map (λ p => (p.1, er p.2)) = kvs := by
  obtain ⟨ob, ho, kvs', hd, e⟩ := R.get h; exact ⟨kvs', Heap.dictOf_iff.mpr ⟨ob, ho, hd⟩, e⟩
end
section
variable {X : Wd} {A : Around} {L : Addr} {S : St} {α β : Type}
theorem Wp.mono {t : Sem α} {Φ Ψ : α -> St -> Prop} (h : Wp X A L t S Φ) (k : ∀ a S', Φ a S' -> Ψ a S') : Wp X A L t S Ψ :=
  λ C s hB R => wpAny_mono (h C s hB R) (λ a o_ ⟨S', R', p⟩ => ⟨S', R', k a S' p⟩) λ o_ o_ x => x
theorem Wp.then {t : Sem α} {Ψ : α -> St -> Prop} {Q : α -> Shared -> Prop} {C : Cx} {s : Shared} (hB : X.le C) (R : Rep X C L S s) (h : Wp X A L t S Ψ)
    (k : ∀ a S' s', Rep X C L S' s' -> Ψ a S' -> Q a s') : wpAny (model X.prog X.w) A t Q (λ o_ o_ => False) s :=
  wpAny_mono (h C s hB R) (λ a s' ⟨S', R', p⟩ => k a S' s' R' p) λ o_ o_ x => x
theorem Wp.thenE {t : Sem α} {Ψ : α -> St -> Prop} {Q : α -> Shared -> Prop} {E : Value -> Shared -> Prop} {C : Cx} {s : Shared} (hB : X.le C) (R : Rep X C L S s) (h : Wp X A L t S Ψ)
    (k : ∀ a S' s', Rep X C L S' s' -> Ψ a S' -> Q a s') : wpAny (model X.prog X.w) A t Q E s :=
  wpAny_mono (h C s hB R) (λ a s' ⟨S', R', p⟩ => k a S' s' R' p) λ o_ o_ x => x.elim
end
noncomputable def zb (m : Str -> Option Value) (x : Str) (v : Value) : Str -> Option Value := λ y => if y = x then some v else m y
noncomputable def qk (k : NameKind) (env : Env) (x : Str) : Bool := (env.scope.kind == .function && env.kindOf x == some k) && !(x == ("__debug__" : Str))
theorem qg {k : NameKind} {env : Env} {x : Str} (h : true = qk k env x) : env.scope.kind = .function /\ env.kindOf x = some k /\ (x == ("__debug__" : Str)) = false := by
  have h := h.symm
  unfold qk at h
  rw [Bool.and_eq_true, Bool.and_eq_true] at h
  exact ⟨by have := h.1.1; revert this; cases env.scope.kind <;> first | (intro _; rfl) | (intro z; cases z), eq_of_beq h.1.2, by simpa using h.2⟩
section
variable {X : Wd} {A : Around} {L : Addr} {S : St} {env : Env}
theorem ev_local {x : Str} {pos : Pos} {v : Value} {Φ : Value -> St -> Prop} (hv : S.m x = some v) (h : Φ v S)
    (hl : true = qk .local env x := by with_unfolding_all rfl) (hL : L = env.locals := by with_unfolding_all rfl) :
    EV X A L (eval (.Name x pos) env) S Φ := λ C s hB R => by
  obtain ⟨hk, hl, hd⟩ := qg hl
  obtain ⟨mc, hn, e⟩ := R.ns
  have ex := e x
  rw [hv] at ex
  obtain ⟨c, hc, rfl⟩ := Option.map_eq_some_iff.mp ex
  exact wpAny_Name (wpAny_loadName_local hk hl (hL ▸ hn) hc ⟨S, R, h⟩) hd
theorem Rep.store {C : Cx} {s : Shared} (R : Rep X C L S s) {mc : Str -> Option Value} {h' : Heap} {x : Str} {c : Value} (e : ∀ y, (mc y).map er = S.m y)
    (hn : h'.Ns L λ y => if y = x then some c else mc y) (hs : Heap.SameBut L s.heap h') (t : Nat) : Rep X C L { S with m := zb S.m x (er c) } { s with heap := h', toks := t } := by
  refine ⟨λ b o q => ?_, ⟨_, hn, λ y => ?_⟩, R.nsB, R.nsH, λ a o q => ⟨R.notB q, (R.obj a o q).2.same (hs.2 a (R.notL q))⟩, R.gens, R.os⟩
  . exact (hs.2 b (λ z => by rw [z, R.nsB] at q; cases q)).trans (R.keep b o q)
  . show (if y = x then some c else mc y).map er = if y = x then some (er c) else S.m y
    by_cases hy : y = x
    . rw [if_pos hy, if_pos hy]; rfl
    . rw [if_neg hy, if_neg hy]; exact e y
theorem wp_store {x : Str} {c v : Value} {Φ : Unit -> St -> Prop} (hc : er c = v) (h : Φ () { S with m := zb S.m x v })
    (hl : env.kindOf x = some .local := by rfl) (hL : env.locals = L := by rfl)
    (hp : (env.scope.kind == .class || (env.scope.kind == .module && env.locals != env.globals)) = false := by rfl) :
    Wp X A L (storeName env x c) S Φ := λ C s hB R => by
  obtain ⟨mc, hn, e⟩ := R.ns
  refine wpAny_storeName_local hl (hL ▸ hn) (λ h' hn' hs => ?_) hp
  rw [hL] at hn' hs
  exact ⟨_, R.store e hn' hs _, by rw [hc]; exact h⟩
theorem ev_int {i : Int} {k : Nat} {pos : Pos} {Φ : Value -> St -> Prop} (h : Φ (.int i 0) S) : EV X A L (eval (.Constant (.int i) k pos) env) S Φ :=
  λ C s hB R => wpAny_Constant_int ⟨S, R.tok _, h⟩
theorem ev_str {x : Str} {k : Nat} {pos : Pos} {Φ : Value -> St -> Prop} (h : Φ (.str x 0) S) : EV X A L (eval (.Constant (.str x) k pos) env) S Φ :=
  λ C s hB R => wpAny_Constant_str ⟨S, R.tok _, h⟩
theorem ev_none {k : Nat} {pos : Pos} {Φ : Value -> St -> Prop} (h : Φ .none S) : EV X A L (eval (.Constant .none k pos) env) S Φ :=
  λ C s hB R => wpAny_Constant_none ⟨S, R, h⟩
theorem ev_bool {b : Bool} {k : Nat} {pos : Pos} {Φ : Value -> St -> Prop} (h : Φ (.bool b) S) : EV X A L (eval (.Constant (.bool b) k pos) env) S Φ :=
  λ C s hB R => wpAny_Constant_bool ⟨S, R, h⟩
def BinE (X : Wd) (A : Around) (L : Addr) (op : Operator) (u v : Value) (S : St) (Φ : Value -> St -> Prop) : Prop := ∀ c d, er c = u -> er d = v -> EV X A L (binaryOp op c d) S Φ
def yL (X : Wd) (A : Around) (L : Addr) (op : CmpOp) (u v : Value) (S : St) (Φ : Value -> St -> Prop) : Prop := ∀ c d, er c = u -> er d = v -> EV X A L (compareOp op c d) S Φ
def TruE (X : Wd) (A : Around) (L : Addr) (u : Value) (S : St) (Φ : Bool -> St -> Prop) : Prop := ∀ c, er c = u -> Wp X A L (truthy c) S Φ
def zO (X : Wd) (A : Around) (L : Addr) (f : Value) (vs : List Value) (S : St) (Φ : Value -> St -> Prop) : Prop := ∀ cs, cs.map er = vs -> EV X A L (call f cs) S Φ
theorem ev_BinOp {l r : Expr} {op : Operator} {pos : Pos} {Φ : Value -> St -> Prop} (h : EV X A L (eval l env) S λ u S1 => EV X A L (eval r env) S1 λ v S2 => BinE X A L op u v S2 Φ) :
    EV X A L (eval (.BinOp l op r pos) env) S Φ := λ C s hB R =>
  wpAny_BinOp (h.then hB R λ c S1 s1z R1z h₁ => Wp.then hB R1z h₁ λ d S2 s2z R2z h2z => h2z c d rfl rfl C s2z hB R2z)
theorem ev_Compare {l r : Expr} {op : CmpOp} {pos : Pos} {Φ : Value -> St -> Prop} (h : EV X A L (eval l env) S λ u S1 => EV X A L (eval r env) S1 λ v S2 => yL X A L op u v S2 Φ)
    (hm : false = behindInMarks op r := by with_unfolding_all rfl) : EV X A L (eval (.Compare l [op] [r] pos) env) S Φ := λ C s hB R =>
  wpAny_Compare1 (h.then hB R λ c S1 s1z R1z h₁ => Wp.then hB R1z h₁ λ d S2 s2z R2z h2z => h2z c d rfl rfl C s2z hB R2z) hm.symm
def TV (X : Wd) (A : Around) (L : Addr) (e : Expr) (env : Env) (S : St) (Φ : Bool -> St -> Prop) : Prop := Wp X A L (isTrue e env (eval e env)) S Φ
theorem tv_Compare {l r : Expr} {op : CmpOp} {pos : Pos} {Φ : Bool -> St -> Prop} (h : EV X A L (eval l env) S λ u S1 => EV X A L (eval r env) S1 λ v S2 => yL X A L op u v S2 λ b S3 => TruE X A L b S3 Φ)
    (hm : false = behindInMarks op r := by with_unfolding_all rfl) : TV X A L (.Compare l [op] [r] pos) env S Φ := λ C s hB R =>
  wpAny_isTrue_Compare1 (h.then hB R λ c S1 s1z R1z h₁ => Wp.then hB R1z h₁ λ d S2 s2z R2z h2z => Wp.then hB R2z (h2z c d rfl rfl) λ b S3 s3z R3z h3z => h3z b rfl C s3z hB R3z) hm.symm
theorem tv_Not {x : Expr} {pos : Pos} {Φ : Bool -> St -> Prop} (h : TV X A L x env S λ b S1 => Φ (!b) S1) : TV X A L (.UnaryOp .Not x pos) env S Φ := λ C s hB R =>
  wpAny_isTrue_Not (Wp.then hB R h λ b S1 s1z R1z h₁ => ⟨S1, R1z, h₁⟩)
theorem tv_value {e : Expr} {Φ : Bool -> St -> Prop} (h : EV X A L (eval e env) S λ v S1 => TruE X A L v S1 Φ)
    (he : isTrue e env (eval e env) = (do let v <- eval e env; standAt e.pos; holding [v] (truthy v)) := by with_unfolding_all rfl) : TV X A L e env S Φ := λ C s hB R =>
  wpAny_isTrue_value (h.then hB R λ c S1 s1z R1z h₁ => h₁ c rfl C s1z hB R1z) he
theorem tv_BoolOp {op : BoolOp} {values : List Expr} {pos : Pos} {Φ : Bool -> St -> Prop} (h : Wp X A L (allTrue op values env) S Φ) : TV X A L (.BoolOp op values pos) env S Φ := λ C s hB R =>
  wpAny_isTrue_BoolOp (h C s hB R)
theorem all_And_nil {Φ : Bool -> St -> Prop} (h : Φ true S) : Wp X A L (allTrue .And [] env) S Φ := λ C s hB R => wpAny_allTrue_And_nil ⟨S, R, h⟩
theorem all_Or_nil {Φ : Bool -> St -> Prop} (h : Φ false S) : Wp X A L (allTrue .Or [] env) S Φ := λ C s hB R => wpAny_allTrue_Or_nil ⟨S, R, h⟩
def Ways (b : Bool) (P Q : Prop) : Prop := (b = true -> P) /\ (b = false -> Q)
theorem all_And_cons {x : Expr} {rest : List Expr} {Φ : Bool -> St -> Prop} (h : TV X A L x env S λ b S1 => Ways b (Wp X A L (allTrue .And rest env) S1 Φ) (Φ false S1)) : Wp X A L (allTrue .And (x :: rest) env) S Φ := λ C s hB R =>
  wpAny_allTrue_And_cons (Wp.then hB R h λ b S1 s1z R1z h₁ => by
    cases b
    . rw [if_neg (by decide)]; exact ⟨S1, R1z, h₁.2 rfl⟩
    . rw [if_pos rfl]; exact h₁.1 rfl C s1z hB R1z)
theorem all_Or_cons {x : Expr} {rest : List Expr} {Φ : Bool -> St -> Prop} (h : TV X A L x env S λ b S1 => Ways b (Φ true S1) (Wp X A L (allTrue .Or rest env) S1 Φ)) : Wp X A L (allTrue .Or (x :: rest) env) S Φ := λ C s hB R =>
  wpAny_allTrue_Or_cons (Wp.then hB R h λ b S1 s1z R1z h₁ => by
    cases b
    . rw [if_neg (by decide)]; exact h₁.2 rfl C s1z hB R1z
    . rw [if_pos rfl]; exact ⟨S1, R1z, h₁.1 rfl⟩)
theorem ev_IfExp {test body orelse : Expr} {pos : Pos} {Φ : Value -> St -> Prop} (h : TV X A L test env S λ b S1 => Ways b (EV X A L (eval body env) S1 Φ) (EV X A L (eval orelse env) S1 Φ)) :
    EV X A L (eval (.IfExp test body orelse pos) env) S Φ := λ C s hB R =>
  wpAny_IfExp (Wp.then hB R h λ b S1 s1z R1z h₁ => by
    cases b
    . rw [if_neg (by decide)]; exact h₁.2 rfl C s1z hB R1z
    . rw [if_pos rfl]; exact h₁.1 rfl C s1z hB R1z)
theorem ev_Or2 {x y : Expr} {pos : Pos} {Φ : Value -> St -> Prop} (h : EV X A L (eval x env) S λ v S1 => TruE X A L v S1 λ b S2 => Ways b (Φ v S2) (EV X A L (eval y env) S2 Φ)) :
    EV X A L (eval (.BoolOp .Or [x, y] pos) env) S Φ := λ C s hB R =>
  wpAny_Or2 (h.then hB R λ c S1 s1z R1z h₁ => Wp.then hB R1z (h₁ c rfl) λ b S2 s2z R2z h2z => by
    cases b
    . rw [if_neg (by decide)]; exact h2z.2 rfl C s2z hB R2z
    . rw [if_pos rfl]; exact ⟨S2, R2z, h2z.1 rfl⟩)
def Then (X : Wd) (A : Around) (L : Addr) (rest : List Stmt) (env : Env) (Φ : Flow -> St -> Prop) (f : Flow) (S : St) : Prop := match f with
  | .next => Wp X A L (execs rest env) S Φ
  | f => Φ f S
theorem zM {st : Stmt} {rest : List Stmt} {Φ : Flow -> St -> Prop} (h : Wp X A L (exec st env) S (Then X A L rest env Φ)) : Wp X A L (execs (st :: rest) env) S Φ := λ C s hB R =>
  wpAny_execs_cons (Wp.then hB R h λ f S1 s1z R1z h₁ => by
    cases f with
    | next => exact h₁ C s1z hB R1z
    | brk => exact ⟨S1, R1z, h₁⟩
    | cont => exact ⟨S1, R1z, h₁⟩
    | ret v => exact ⟨S1, R1z, h₁⟩)
theorem qB {Φ : Flow -> St -> Prop} (h : Φ .next S) : Wp X A L (execs [] env) S Φ := λ C s hB R => wpAny_execs_nil ⟨S, R, h⟩
theorem zq {rest : List Stmt} {Φ : Flow -> St -> Prop} (h : Wp X A L (execs rest env) S Φ) : Then X A L rest env Φ .next S := h
theorem qW {rest : List Stmt} {Φ : Flow -> St -> Prop} {v : Value} (h : Φ (.ret v) S) : Then X A L rest env Φ (.ret v) S := h
theorem then_brk {rest : List Stmt} {Φ : Flow -> St -> Prop} (h : Φ .brk S) : Then X A L rest env Φ .brk S := h
theorem then_cont {rest : List Stmt} {Φ : Flow -> St -> Prop} (h : Φ .cont S) : Then X A L rest env Φ .cont S := h
theorem ex_Assign {x : Str} {px : Pos} {value : Expr} {pos : Pos} {Φ : Flow -> St -> Prop} (h : EV X A L (eval value env) S λ v S1 => Φ .next { S1 with m := zb S1.m x v })
    (hL : L = env.locals := by with_unfolding_all rfl) (hs : pure false = swapsWith value (some (.Name x px)) pos.line env := by with_unfolding_all rfl) (hl : true = qk .local env x := by with_unfolding_all rfl) : Wp X A L (exec (.Assign [.Name x px] value pos) env) S Φ := λ C s hB R =>
  have ⟨hk, hl, _⟩ := qg hl
  wpAny_Assign_Name (h.then hB R λ c S1 s1z R1z h₁ => (wp_store (Φ := λ o_ => Φ .next) (rfl : er c = er c) h₁ hl hL.symm (by rw [hk]; rfl)) C s1z hB R1z) hs.symm
theorem ex_AugAssign {x : Str} {px : Pos} {op : Operator} {value : Expr} {pos : Pos} {Φ : Flow -> St -> Prop} {u : Value} (hu : S.m x = some u) (h : EV X A L (eval value env) S λ v S1 => ∀ c d, er c = u -> er d = v -> EV X A L (inplaceOp op c d) S1 λ r S2 => Φ .next { S2 with m := zb S2.m x r })
    (hl : true = qk .local env x := by with_unfolding_all rfl) (hL : L = env.locals := by with_unfolding_all rfl) : Wp X A L (exec (.AugAssign (.Name x px) op value pos) env) S Φ := λ C s hB R => by
  obtain ⟨hk, hl, -⟩ := qg hl
  obtain ⟨mc, hn, e⟩ := R.ns
  have ex := e x
  rw [hu] at ex
  obtain ⟨c, hc, rfl⟩ := Option.map_eq_some_iff.mp ex
  refine wpAny_AugAssign_Name (wpAny_loadName_local hk hl (hL ▸ hn) hc (h.then hB R λ d S1 s1z R1z h₁ => Wp.then hB R1z (h₁ c d rfl rfl) λ r S2 s2z R2z h2z => ?_))
  exact (wp_store (Φ := λ o_ => Φ .next) (rfl : er r = er r) h2z hl hL.symm (by rw [hk]; rfl)) C s2z hB R2z
theorem ex_Expr {e : Expr} {pos : Pos} {Φ : Flow -> St -> Prop} (h : EV X A L (eval e env) S λ o_ S1 => Φ .next S1) (hi : false = interactive env := by with_unfolding_all rfl) (hs : pure false = swapsWith e none pos.line env := by with_unfolding_all rfl) :
    Wp X A L (exec (.Expr e pos) env) S Φ := λ C s hB R => wpAny_Expr_any (h.then hB R λ c S1 s1z R1z h₁ => ⟨S1, R1z, h₁⟩) hi.symm hs.symm
theorem ex_If {test : Expr} {body orelse : List Stmt} {pos : Pos} {Φ : Flow -> St -> Prop} (h : TV X A L test env S λ b S1 => Ways b (Wp X A L (execs body env) S1 Φ) (Wp X A L (execs orelse env) S1 Φ)) :
    Wp X A L (exec (.If test body orelse pos) env) S Φ := λ C s hB R =>
  wpAny_If (Wp.then hB R h λ b S1 s1z R1z h₁ => by
    cases b
    . rw [if_neg (by decide)]; exact h₁.2 rfl C s1z hB R1z
    . rw [if_pos rfl]; exact h₁.1 rfl C s1z hB R1z)
theorem ex_Return {e : Expr} {pos : Pos} {Φ : Flow -> St -> Prop} (h : EV X A L (eval e env) S λ v S1 => ∀ c, er c = v -> Φ (.ret c) S1) : Wp X A L (exec (.Return (some e) pos) env) S Φ := λ C s hB R =>
  wpAny_Return_some (h.then hB R λ c S1 s1z R1z h₁ => ⟨S1, R1z, h₁ c rfl⟩)
theorem ex_ReturnNone {pos : Pos} {Φ : Flow -> St -> Prop} (h : Φ (.ret .none) S) : Wp X A L (exec (.Return none pos) env) S Φ := λ C s hB R => wpAny_Return_none ⟨S, R, h⟩
theorem ex_Break {pos : Pos} {Φ : Flow -> St -> Prop} (h : Φ .brk S) : Wp X A L (exec (.Break pos) env) S Φ := λ C s hB R => wpAny_Break ⟨S, R, h⟩
theorem ex_Continue {pos : Pos} {Φ : Flow -> St -> Prop} (h : Φ .cont S) : Wp X A L (exec (.Continue pos) env) S Φ := λ C s hB R => wpAny_Continue ⟨S, R, h⟩
end
section
variable {X : Wd} {A : Around} {L : Addr} {S : St} {env : Env}
section
variable {i j : Int} {x y : Str} {Φ : Value -> St -> Prop}
theorem bin_ints {op : Operator} (h : ∀ t u C s, X.le C -> Rep X C L S s -> wpAny (model X.prog X.w) A (binaryOp op (.int i t) (.int j u)) (λ a => Got X C L (Φ (er a))) (λ o_ o_ => False) s) : BinE X A L op (.int i 0) (.int j 0) S Φ := by
  intro c d hc hd C s hB R; obtain ⟨t, rfl⟩ := zQ hc; obtain ⟨u, rfl⟩ := zQ hd; exact h t u C s hB R
theorem cmp_ints {op : CmpOp} (h : ∀ t u C s, X.le C -> Rep X C L S s -> wpAny (model X.prog X.w) A (compareOp op (.int i t) (.int j u)) (λ a => Got X C L (Φ (er a))) (λ o_ o_ => False) s) : yL X A L op (.int i 0) (.int j 0) S Φ := by
  intro c d hc hd C s hB R; obtain ⟨t, rfl⟩ := zQ hc; obtain ⟨u, rfl⟩ := zQ hd; exact h t u C s hB R
theorem cmp_strs {op : CmpOp} (h : ∀ t u C s, X.le C -> Rep X C L S s -> wpAny (model X.prog X.w) A (compareOp op (.str x t) (.str y u)) (λ a => Got X C L (Φ (er a))) (λ o_ o_ => False) s) : yL X A L op (.str x 0) (.str y 0) S Φ := by
  intro c d hc hd C s hB R; obtain ⟨t, rfl⟩ := zf hc; obtain ⟨u, rfl⟩ := zf hd; exact h t u C s hB R
theorem bin_add (h : Φ (.int (i + j) 0) S) : BinE X A L .Add (.int i 0) (.int j 0) S Φ := bin_ints λ t u C s hB R => wpAny_add_int ⟨S, R.tok _, h⟩
theorem bin_sub (h : Φ (.int (i - j) 0) S) : BinE X A L .Sub (.int i 0) (.int j 0) S Φ := bin_ints λ t u C s hB R => SiftDown.sub_int ⟨S, R.tok _, h⟩
theorem bin_mul (hm : IntMulOk i j) (h : Φ (.int (i * j) 0) S) : BinE X A L .Mult (.int i 0) (.int j 0) S Φ := bin_ints λ t u C s hB R => PyProof.Rows.mul_int ⟨S, R.tok _, h⟩ hm
theorem bin_mod (hj : j ≠ 0) (h : Φ (.int (i.fmod j) 0) S) : BinE X A L .Mod (.int i 0) (.int j 0) S Φ := bin_ints λ t u C s hB R => PyProof.Rows.mod_int' hj ⟨S, R.tok _, h⟩
theorem bin_div (hj : j ≠ 0) (hp : Builtin.divisionGoesByPylong i j = false) (h : Φ (.int (i.fdiv j) 0) S) : BinE X A L .FloorDiv (.int i 0) (.int j 0) S Φ := bin_ints λ t u C s hB R => PyProof.Rows.floordiv_int hj ⟨S, R.tok _, h⟩ (.inl hp)
theorem cmp_lt (h : Φ (.bool (decide (i < j))) S) : yL X A L .Lt (.int i 0) (.int j 0) S Φ := cmp_ints λ t u C s hB R => wpAny_lt_int ⟨S, R, h⟩
theorem cmp_gt (h : Φ (.bool (decide (j < i))) S) : yL X A L .Gt (.int i 0) (.int j 0) S Φ := cmp_ints λ t u C s hB R => SiftDown.gt_int ⟨S, R, h⟩
theorem cmp_ge (h : Φ (.bool (decide (j <= i))) S) : yL X A L .GtE (.int i 0) (.int j 0) S Φ := cmp_ints λ t u C s hB R => PyProof.Rows.ge_int ⟨S, R, h⟩
theorem cmp_eq (h : Φ (.bool (i == j)) S) : yL X A L .Eq (.int i 0) (.int j 0) S Φ := cmp_ints λ t u C s hB R => IsLeap.wpAny_eq_int' ⟨S, R, h⟩
theorem cmp_ne (h : Φ (.bool (i != j)) S) : yL X A L .NotEq (.int i 0) (.int j 0) S Φ := cmp_ints λ t u C s hB R => IsLeap.wpAny_ne_int ⟨S, R, h⟩
theorem cmp_eqs (h : Φ (.bool (x == y)) S) : yL X A L .Eq (.str x 0) (.str y 0) S Φ := cmp_strs λ t u C s hB R => PyProof.Rows.eq_str ⟨S, R, h⟩
theorem cmp_nes (h : Φ (.bool (x != y)) S) : yL X A L .NotEq (.str x 0) (.str y 0) S Φ := cmp_strs λ t u C s hB R => PyProof.Rows.ne_str ⟨S, R, h⟩
theorem zd {b : Bool} {Φ : Bool -> St -> Prop} (h : Φ b S) : TruE X A L (.bool b) S Φ := by
  intro c hc C s hB R
  rw [of_er_bool hc]
  exact wpAny_truthy_bool ⟨S, R, h⟩
theorem un_neg (h : Φ (.int (-i) 0) S) : EV X A L (eval (.UnaryOp .USub (.Constant (.int i) 0 p) q) env) S Φ := λ C s hB R =>
  wpAny_UnaryOp (wpAny_Constant_int (PyProof.Rows.neg_int ⟨S, R.ext (λ o_ o_ e => e) rfl rfl, h⟩))
theorem cmp_isNotNone {v : Value} (hv : v = .none \/ ∃ a, v = .ref a) (h : Φ (.bool (!(v == .none))) S) : yL X A L .IsNot v .none S Φ := by
  intro c d hc hd C s hB R
  rw [yE hd]
  rcases hv with rfl | ⟨a, rfl⟩
  . rw [yE hc]; exact wpAny_isNot_plain rfl ⟨S, R, h⟩
  . rw [zC hc]; exact wpAny_isNot_plain rfl ⟨S, R, h⟩
end
end
def Wd.kept (X : Wd) (h : Heap) : Prop := ∀ b o, X.B b = some o -> h.get? b = some o
theorem Rep.kept {X : Wd} {C : Cx} {L : Addr} {S : St} {s : Shared} (hB : X.le C) (R : Rep X C L S s) : X.kept s.heap := λ b o e => R.keep b o (hB b o e)
noncomputable def yQ (names : List Str) (vs : List Value) : Str -> Option Value := λ y => (names.zip vs).reverse.lookup y
theorem lookup_er (y : Str) : ∀ (l : List (Str × Value)), (l.lookup y).map er = (l.map λ p => (p.1, er p.2)).lookup y
  | [] => rfl
  | (a, v) :: l => by
    simp only [List.lookup_cons, List.map_cons]
    cases y == a
    . exact lookup_er y l
    . rfl
theorem yb (names : List Str) (cs : List Value) (y : Str) : ((names.zip cs).reverse.lookup y).map er = yQ names (cs.map er) y := by
  rw [lookup_er, List.map_reverse]
  unfold yQ
  congr 2
  rw [List.zip_map_right]
  congr 1
noncomputable def retOf : Flow -> Value
  | .ret v => er v
  | _ => .none
structure IsDef (X : Wd) (fa : Addr) (fd : FuncData) (body : List Stmt) : Prop where
  at_ : ∃ o : Obj, o.data = .func fd /\ ∀ h, X.kept h -> h.get? fa = some o
  lim : ∀ h, X.kept h -> h.NoLimit
  code : ∀ h, X.kept h -> h.CodeRec fd.code fd.qualname
  body : fd.body = .stmts body
  co : fd.scope.isCoroutine = false
  gen : fd.scope.isGenerator = false
  kind : fd.scope.kind = .function
theorem cell_of {l : List (Str × NameKind)} (h : (l.all λ x => x.2 != .cell) = true) : ∀ x ∈ l, x.2 ≠ .cell := λ x hx => by
  have := List.all_eq_true.mp h x hx
  exact λ e => by rw [e] at this; exact absurd this (by decide)
theorem loc_of {l : List (Str × NameKind)} {names : List Str} (h : (names.all λ x => l.lookup x == some .local) = true) {x : Str} (hx : x ∈ names) : l.lookup x = some .local := eq_of_beq (List.all_eq_true.mp h x hx)
section
variable {X : Wd} {A : Around} {L : Addr} {S : St} {env : Env} {C : Cx} {s : Shared}
theorem Rep.enter (R : Rep X C L S s) {h₀ : Heap} {tk : Nat} {mc : Str -> Option Value} {m : Str -> Option Value} (hns : h₀.Ns s.heap.objs.size mc) (hm : ∀ y, (mc y).map er = m y)
    (hk : ∀ b o, s.heap.get? b = some o -> h₀.get? b = some o) :
    Rep X { C with B := λ b => if b = L then s.heap.get? L else C.B b } s.heap.objs.size ⟨m, S.H⟩ { s with heap := h₀, toks := tk } := by
  have fr := R.fresh (zJ s.heap)
  refine ⟨λ b o e => ?_, ⟨mc, hns, hm⟩, ?_, fr.2.1, λ a o e => ⟨?_, (R.obj a o e).2.keep hk⟩, R.gens, R.os⟩
  . have e : (if b = L then s.heap.get? L else C.B b) = some o := e
    by_cases hb : b = L
    . rw [if_pos hb] at e; rw [hb]; exact hk _ _ e
    . rw [if_neg hb] at e; exact hk _ _ (R.keep _ _ e)
  . show (if s.heap.objs.size = L then s.heap.get? L else C.B s.heap.objs.size) = none
    rw [if_neg fr.2.2]; exact fr.1
  . show (if a = L then s.heap.get? L else C.B a) = none
    rw [if_neg (R.notL e)]; exact R.notB e
theorem Rep.leave (R : Rep X C L S s) {L' : Addr} {S' : St} {s' : Shared} (R' : Rep X { C with B := λ b => if b = L then s.heap.get? L else C.B b } L' S' s') : Rep X C L ⟨S.m, S'.H⟩ s' := by
  obtain ⟨mc, ⟨oL, es, ep, hL, r⟩, hm⟩ := R.ns
  have hL' : s'.heap.get? L = some oL := R'.keep L oL (by show (if L = L then s.heap.get? L else C.B L) = some oL; rw [if_pos rfl]; exact hL)
  have ne : ∀ a o, S'.H a = some o -> a ≠ L := λ a o e q => by
    have := (R'.obj a o e).1
    rw [q] at this
    have h2 : (if L = L then s.heap.get? L else C.B L) = none := this
    rw [if_pos rfl, hL] at h2; cases h2
  refine ⟨λ b o e => R'.keep b o ?_, ⟨mc, ⟨oL, es, ep, hL', r⟩, hm⟩, R.nsB, ?_, λ a o e => ⟨?_, (R'.obj a o e).2⟩, R'.gens, R'.os⟩
  . show (if b = L then s.heap.get? L else C.B b) = some o
    rw [if_neg (λ q => by rw [q, R.nsB] at e; cases e)]; exact e
  . show S'.H L = none
    cases e : S'.H L with
    | none => rfl
    | some o => exact absurd rfl (ne _ _ e)
  . have h2 : (if a = L then s.heap.get? L else C.B a) = none := (R'.obj a o e).1
    rw [if_neg (ne a o e)] at h2; exact h2
theorem Wd.le_enter {X : Wd} {C : Cx} {L : Addr} {S : St} {s : Shared} (hB : X.le C) (R : Rep X C L S s) : X.le { C with B := λ b => if b = L then s.heap.get? L else C.B b } := λ b o e => by
  show (if b = L then s.heap.get? L else C.B b) = some o
  rw [if_neg (λ q => by have := hB b o e; rw [q, R.nsB] at this; cases this)]
  exact hB b o e
theorem qT {fa : Addr} {fd : FuncData} {body : List Stmt} {names : List Str} {vs : List Value} {Φ : Value -> St -> Prop} (D : IsDef X fa fd body) (hroom : A.depth < recursionLimit)
    (hbind : ∀ cs : List Value, cs.map er = vs -> bindArgs fd ⟨cs, []⟩ = pure (names.zip cs)) (hcell : (fd.scope.names.all λ x => x.2 != .cell) = true) (hloc : (names.all λ x => fd.scope.names.lookup x == some .local) = true)
    (h : ∀ L', S.H L' = none -> Wp X (A.deeper (callEnv fd L' fa)) L' (execs body (callEnv fd L' fa)) ⟨yQ names vs, S.H⟩ (λ fl S' => Φ (retOf fl) ⟨S.m, S'.H⟩)) :
    zO X A L (.ref fa) vs S Φ := λ cs hcs C s hB R => by
  obtain ⟨o, hd, ho'⟩ := D.at_
  have ho := ho' _ (R.kept hB)
  refine wpAny_call (codeAny_call_def (fd := fd) (binds := names.zip cs) hroom ho hd (D.lim _ (R.kept hB)) (D.code _ (R.kept hB)) D.body (.of_eq (hbind cs hcs)) (cell_of hcell) (λ x hx => loc_of hloc (List.of_mem_zip hx).1) (λ h₀ hns hk => ?_) D.co D.gen D.kind)
  have Rn := R.enter (tk := s.toks + (names.zip cs).length) hns (λ y => by rw [yb, hcs]) hk
  refine wpAny_mono (h s.heap.objs.size (R.fresh (zJ s.heap)).2.1 _ _ (Wd.le_enter hB R) Rn) (λ fl s' h' => ?_) λ o_ o_ x => x.elim
  obtain ⟨S', R', p⟩ := h'
  refine ⟨⟨S.m, S'.H⟩, R.leave R', ?_⟩
  cases fl with
  | ret v => exact p
  | next => exact p
  | brk => exact p
  | cont => exact p
end
abbrev Fa {α : Type} : α -> Shared -> Prop := λ o_ o_ => False
noncomputable def Cx.over (C : Cx) (fp : List Addr) (h : Heap) : Cx := { C with B := λ b => match C.B b with | some o => some o | none => if b ∈ fp then h.get? b else none }
def jK (C : Cx) (S : St) (L : Addr) (fp : List Addr) : Prop := ∀ b ∈ fp, C.B b = none /\ S.H b = none /\ b ≠ L
section
variable {X : Wd} {A : Around} {L : Addr} {S : St} {env : Env} {C : Cx} {s : Shared} {fp : List Addr}
theorem Cx.over_some {h : Heap} {b : Addr} {o : Obj} (e : C.B b = some o) : (C.over fp h).B b = some o := by
  show (match C.B b with | some o => some o | none => if b ∈ fp then h.get? b else none) = some o
  rw [e]
theorem Cx.over_none {h : Heap} {b : Addr} (e : C.B b = none) : (C.over fp h).B b = if b ∈ fp then h.get? b else none := by
  show (match C.B b with | some o => some o | none => if b ∈ fp then h.get? b else none) = _
  rw [e]
theorem Rep.freeze (R : Rep X C L S s) (hd : jK C S L fp) : Rep X (C.over fp s.heap) L S s := by
  refine ⟨λ b o e => ?_, R.ns, ?_, R.nsH, λ a o e => ⟨?_, (R.obj a o e).2⟩, R.gens, R.os⟩
  . cases q : C.B b with
    | some o' => rw [Cx.over_some q] at e; cases e; exact R.keep _ _ q
    | none =>
      rw [Cx.over_none q] at e
      by_cases hb : b ∈ fp
      . rw [if_pos hb] at e; exact e
      . rw [if_neg hb] at e; cases e
  . rw [Cx.over_none R.nsB, if_neg λ hb => (hd _ hb).2.2 rfl]
  . rw [Cx.over_none (R.notB e), if_neg λ hb => by rw [(hd _ hb).2.1] at e; cases e]
theorem Rep.thaw {C' : Cx} {S' : St} {s' : Shared} (R : Rep X C' L S' s') (hB : ∀ b o, C.B b = some o -> C'.B b = some o) (ho : C'.os = C.os) : Rep X C L S' s' := by
  refine ⟨λ b o e => R.keep _ _ (hB _ _ e), R.ns, ?_, R.nsH, λ a o e => ⟨?_, (R.obj a o e).2⟩, R.gens, R.os.trans ho⟩
  . cases q : C.B L with
    | none => rfl
    | some o => have := hB _ _ q; rw [R.nsB] at this; cases this
  . cases q : C.B a with
    | none => rfl
    | some o => have := hB _ _ q; rw [R.notB e] at this; cases this
theorem jK.back {S' : St} {s' : Shared} (hd : jK C S L fp) (live : ∀ b ∈ fp, ∃ o, s.heap.get? b = some o) (R : Rep X (C.over fp s.heap) L S' s') : jK C S' L fp /\ ∀ b ∈ fp, ∀ o, s.heap.get? b = some o -> s'.heap.get? b = some o := by
  have key : ∀ b ∈ fp, (C.over fp s.heap).B b = s.heap.get? b := λ b hb => by rw [Cx.over_none (hd b hb).1, if_pos hb]
  refine ⟨λ b hb => ⟨(hd b hb).1, ?_, (hd b hb).2.2⟩, λ b hb o e => R.keep b o ((key b hb).trans e)⟩
  cases q : S'.H b with
  | none => rfl
  | some o =>
    obtain ⟨o', ho'⟩ := live b hb
    have := R.notB q
    rw [key b hb, ho'] at this; cases this
theorem Wd.le_over {h : Heap} (hB : X.le C) : X.le (C.over fp h) := λ b o e => Cx.over_some (hB b o e)
end
inductive ItemAt (X : Wd) (C : Cx) (L : Addr) (fp : List Addr) (Y : St -> Prop) (At : Heap -> Prop) (s2z : Shared) : Prop
  | mk (S2 : St) (R : Rep X C L S2 s2z) (hd : jK C S2 L fp) (hY : Y S2) (hat : At s2z.heap)
structure Walk (X : Wd) (A : Around) (target : Expr) (it : Value) (fp : List Addr) (n : Nat) (src : AH -> Prop) (At : Nat -> Heap -> Prop) (Y : Nat -> Value -> St -> St -> Prop) : Prop where
  keeps : ∀ k h h', At k h -> (∀ b ∈ fp, ∀ o, h.get? b = some o -> h'.get? b = some o) -> At k h'
  lives : ∀ k h, At k h -> ∀ b ∈ fp, ∃ o, h.get? b = some o
  self : ∀ k (s : Shared) (Q : Value -> Shared -> Prop) (E : Value -> Shared -> Prop), At k s.heap -> Q it s -> wpAny (model X.prog X.w) A (pyIter it) Q E s
  item : ∀ k, k < n -> ∀ L C S s, X.le C -> Rep X C L S s -> jK C S L fp -> src S.H -> At k s.heap -> wpAny (model X.prog X.w) A (pyNext it) (λ r s1z => ∃ x, r = some x /\
    wpAny (model X.prog X.w) A (letOwnedTupleGo target it x) (λ o_ s2z => ItemAt X C L fp (Y k (er x) S) (At (k + 1)) s2z) Fa s1z) Fa s
  done : ∀ L C S s, X.le C -> Rep X C L S s -> jK C S L fp -> src S.H -> At n s.heap -> wpAny (model X.prog X.w) A (pyNext it) (λ r s1z => r = none /\ Rep X C L S s1z) Fa s
inductive IterAt (X : Wd) (A : Around) (target : Expr) (n : Nat) (src : AH -> Prop) (Y : Nat -> Value -> St -> St -> Prop) (C : Cx) (S : St) (L : Addr) (it : Value) (s' : Shared) : Prop
  | mk (fp : List Addr) (At : Nat -> Heap -> Prop) (W : Walk X A target it fp n src At Y) (hd : jK C S L fp) (hat : At 0 s'.heap) (R : Rep X C L S s')
def IterE (X : Wd) (A : Around) (L : Addr) (target : Expr) (v : Value) (S : St) (n : Nat) (src : AH -> Prop) (Y : Nat -> Value -> St -> St -> Prop) : Prop :=
  ∀ c, er c = v -> ∀ C s, X.le C -> Rep X C L S s -> wpAny (model X.prog X.w) A (pyIter c) (λ it s' => IterAt X A target n src Y C S L it s') Fa s
def qs (X : Wd) (A : Around) (L : Addr) (target : Expr) (env : Env) (u : Value) (S : St) (Ψ : St -> Prop) : Prop := ∀ c, er c = u -> Wp X A L (assign target env c) S λ o_ => Ψ
def Turn (I : St -> Prop) (Φ : Flow -> St -> Prop) (f : Flow) (S : St) : Prop := match f with
  | .next | .cont => I S
  | .brk => Φ .next S
  | .ret v => Φ (.ret v) S
inductive ForE (X : Wd) (A : Around) (L : Addr) (target : Expr) (body : List Stmt) (env : Env) (v : Value) (S : St) (Φ : Flow -> St -> Prop) : Prop
  | mk (n : Nat) (src : AH -> Prop) (Y : Nat -> Value -> St -> St -> Prop) (I : Nat -> St -> Prop) (hit : IterE X A L target v S n src Y) (h0 : I 0 S) (hsrc : ∀ k S, I k S -> src S.H)
    (step : ∀ k S u S1, k < n -> I k S -> Y k u S S1 -> qs X A L target env u S1 λ S2 => Wp X A L (execs body env) S2 (Turn (I (k + 1)) Φ)) (fin : ∀ S, I n S -> Φ .next S)
inductive LoopAt (X : Wd) (C : Cx) (L : Addr) (fp : List Addr) (I : Nat -> St -> Prop) (At : Nat -> Heap -> Prop) (n m : Nat) (s : Shared) : Prop
  | mk (k : Nat) (S : St) (e : k + m = n) (R : Rep X C L S s) (hd : jK C S L fp) (hat : At k s.heap) (hI : I k S)
theorem loop_step {k n : Nat} : ∀ {m : Nat}, k + m = n -> k < n -> ∃ m', m' < m /\ k + 1 + m' = n
  | 0, e, h => absurd h (by rw [<- e]; exact Nat.lt_irrefl k)
  | m + 1, e, _ => ⟨m, Nat.lt_succ_self m, (Nat.add_right_comm k 1 m).trans e⟩
theorem loop_end {k m n : Nat} (e : k + m = n) (h : ¬ k < n) : k = n := Nat.le_antisymm (Nat.le_trans (Nat.le_add_right k m) (Nat.le_of_eq e)) (Nat.le_of_not_lt h)
section
variable {X : Wd} {A : Around} {L : Addr} {S : St} {env : Env} {C : Cx} {s : Shared}
theorem zH {x : Str} {px : Pos} {u : Value} {Ψ : St -> Prop} (h : Ψ { S with m := zb S.m x u })
    (hl : true = qk .local env x := by with_unfolding_all rfl) (hL : L = env.locals := by with_unfolding_all rfl) : qs X A L (.Name x px) env u S Ψ := λ c hc C s hB R =>
  have ⟨hk, hl, _⟩ := qg hl
  wpAny_assign_Name (wp_store (Φ := λ o_ => Ψ) hc h hl hL.symm (by rw [hk]; rfl) C s hB R)
theorem for_core {target : Expr} {body : List Stmt} {Φ : Flow -> St -> Prop} {it : Value} {fp : List Addr} {n : Nat} {src : AH -> Prop} {At : Nat -> Heap -> Prop} {Y : Nat -> Value -> St -> St -> Prop} {R : Result -> Shared -> Prop} (I : Nat -> St -> Prop)
    (W : Walk X A target it fp n src At Y) (hB : X.le C) (R2z : Rep X C L S s) (hd : jK C S L fp) (hat : At 0 s.heap) (h0 : I 0 S) (hsrc : ∀ k S, I k S -> src S.H)
    (step : ∀ k S u S1, k < n -> I k S -> Y k u S S1 -> qs X A L target env u S1 λ S2 => Wp X A L (execs body env) S2 (Turn (I (k + 1)) Φ)) (fin : ∀ S, I n S -> Φ .next S)
    (hR : ∀ f S' s', Rep X C L S' s' -> Φ f S' -> R (.ok f) s') : codeAny (model X.prog X.w) A (.forLoop target it body [] env) R s := by
  refine codeAny_forLoop_any (LoopAt X C L fp I At n) (λ m s ⟨k, S', hkm, R', hd', hat', hI⟩ => ?_) n ⟨0, S, Nat.zero_add n, R2z, hd, hat, h0⟩
  by_cases hk : k < n
  . obtain ⟨m', hm, e'⟩ := loop_step hkm hk
    refine wpAny_mono (W.item k hk L C S' s hB R' hd' (hsrc k S' hI) hat') (λ r s1' ⟨x, hr, hx⟩ => ?_) λ o_ o_ x => x.elim
    subst hr
    refine wpAny_mono hx (λ o_ s2' ⟨S2, R2', hd2z, hY, hat2⟩ => ?_) λ o_ o_ x => x.elim
    refine Wp.thenE (Wd.le_over hB) (R2'.freeze hd2z) (step k S' (er x) S2 hk hI hY x rfl) λ o_ S3 s3z R3z h3z => Wp.thenE (Wd.le_over hB) R3z h3z λ f S4z s4z R4 h4z => ?_
    have bk := hd2z.back (W.lives _ _ hat2) R4
    have R5 : Rep X C L S4z s4z := R4.thaw (λ b o e => Cx.over_some e) rfl
    cases f with
    | next => exact ⟨m', hm, k + 1, S4z, e', R5, bk.1, W.keeps _ _ _ hat2 bk.2, h4z⟩
    | cont => exact ⟨m', hm, k + 1, S4z, e', R5, bk.1, W.keeps _ _ _ hat2 bk.2, h4z⟩
    | brk => exact hR _ S4z _ R5 h4z
    | ret v => exact hR _ S4z _ R5 h4z
  . obtain rfl := loop_end hkm hk
    refine wpAny_mono (W.done L C S' s hB R' hd' (hsrc _ _ hI) hat') (λ r s1' ⟨hr, R1'⟩ => ?_) λ o_ o_ x => x.elim
    subst hr
    exact wpAny_execs_nil (hR _ S' _ R1' (fin _ hI))
theorem ex_For {target iter : Expr} {body : List Stmt} {pos : Pos} {Φ : Flow -> St -> Prop} (h : EV X A L (eval iter env) S λ v S1 => ForE X A L target body env v S1 Φ)
    (hs : ∀ x, pure x = foldedSetIterable iter env x := by intro _; with_unfolding_all rfl) : Wp X A L (exec (.For target iter body [] pos) env) S Φ := λ C s hB R =>
  wpAny_For (Wp.then hB R h λ c S1 s1z R1z ⟨n, src, Y, I, hit, h0, hsrc, step, fin⟩ =>
    wpAny_mono (hit c rfl C s1z hB R1z) (λ it s2z ⟨fp, At, W, hd, hat, R2z⟩ => for_core I W hB R2z hd hat h0 hsrc step fin λ f S' s' R' p => ⟨S', R', p⟩) λ o_ o_ x => x.elim) (λ z => (hs z).symm)
def Plain (vs : List Value) (k : Nat) (u : Value) (S S1 : St) : Prop := vs[k]? = some u /\ S1 = S
end
section
variable {X : Wd} {A : Around} {L : Addr} {S : St} {env : Env}
def yC (X : Wd) (A : Around) (L : Addr) (pos : Pos) (es : List Expr) (env : Env) (S : St) (Φ : List Value -> St -> Prop) : Prop := Wp X A L (spliced (backTo pos (starEach es env))) S λ vs S' => Φ (vs.map er) S'
noncomputable def qj : Expr -> Bool
  | .Starred .. => false
  | _ => true
theorem star_cons {env : Env} {e : Expr} {es : List Expr} (h : qj e = true) : starEach (e :: es) env = (false, eval e env) :: starEach es env := by
  cases e <;> first | rfl | cases h
theorem star_any {env : Env} {pos : Pos} : ∀ {es : List Expr}, es.all qj = true -> (backTo pos (starEach es env)).any (·.1) = false
  | [], _ => rfl
  | e :: es, h => by
    rw [List.all_cons, Bool.and_eq_true] at h
    rw [star_cons h.1]
    show (false || (backTo pos (starEach es env)).any (·.1)) = false
    rw [star_any h.2]; rfl
theorem yy {env : Env} {pos : Pos} {e : Expr} {es : List Expr} (h : true = (e :: es).all qj) : starEach (e :: es) env = (false, eval e env) :: starEach es env /\ (backTo pos (starEach es env)).any (·.1) = false := by
  have h := h.symm
  rw [List.all_cons, Bool.and_eq_true] at h
  exact ⟨star_cons h.1, star_any h.2⟩
theorem items_nil {pos : Pos} {Φ : List Value -> St -> Prop} (h : Φ [] S) : yC X A L pos [] env S Φ := λ C s hB R => wpAny_items_nil ⟨S, R, h⟩
theorem items_cons {pos : Pos} {e : Expr} {rest : List Expr} {Φ : List Value -> St -> Prop} (h : EV X A L (eval e env) S λ v S1 => yC X A L pos rest env S1 λ vs S2 => Φ (v :: vs) S2)
    (he : true = qj e := by with_unfolding_all rfl) : yC X A L pos (e :: rest) env S Φ := λ C s hB R =>
  wpAny_items_cons (h.then hB R λ c S1 s1z R1z h₁ => Wp.then hB R1z h₁ λ vs S2 s2z R2z h2z => ⟨S2, R2z, h2z⟩) (star_cons he.symm)
def New (S : St) (o : AO) (Φ : Value -> St -> Prop) : Prop := ∀ a, S.H a = none -> Φ (.ref a) { S with H := zD S.H a o }
theorem ev_List {es : List Expr} {pos : Pos} {Φ : Value -> St -> Prop} (h : yC X A L pos es env S λ vs S1 => vs.length <= sizeLine /\ New S1 (.list vs) Φ) : EV X A L (eval (.List es pos) env) S Φ := λ C s hB R =>
  wpAny_List (Wp.then hB R h λ vs S1 s1z R1z h₁ => ⟨by have := h₁.1; rwa [List.length_map] at this,
    _, R1z.push (o := .list (vs.map er)) rfl ⟨_, _, rfl, by simp⟩ _, h₁.2 _ (R1z.fresh (zJ _)).2.1⟩)
theorem ev_Tuple {es : List Expr} {k : Nat} {pos : Pos} {Φ : Value -> St -> Prop} (h : yC X A L pos es env S λ vs S1 => vs.length <= sizeLine /\ New S1 (.tup (.type "tuple") vs) Φ) : EV X A L (eval (.Tuple es k pos) env) S Φ := λ C s hB R =>
  wpAny_Tuple (Wp.then hB R h λ vs S1 s1z R1z h₁ => ⟨by have := h₁.1; rwa [List.length_map] at this,
    _, R1z.push (o := .tup (.type "tuple") (vs.map er)) rfl ⟨_, _, rfl, by simp⟩ _, h₁.2 _ (R1z.fresh (zJ _)).2.1⟩)
inductive Callee (X : Wd) : Value -> Prop
  | builtin (id : String) : Callee X (.builtin id)
  | type (T : String) : Callee X (.type T)
  | fn {fa : Addr} {fd : FuncData} {body : List Stmt} (D : IsDef X fa fd body) : Callee X (.ref fa)
def jL (X : Wd) (A : Around) (L : Addr) (pos : Pos) (f : Value) (first : List Value) (es : List Expr) (env : Env) (S : St) (Φ : Value -> St -> Prop) : Prop :=
  ∀ cs, cs.map er = first -> EV X A L (callWith pos f cs (backTo pos (starEach es env)) []) S Φ
theorem yG {pos : Pos} {f : Value} {first : List Value} {Φ : Value -> St -> Prop} (hf : Callee X f) (h : zO X A L f first S Φ) : jL X A L pos f first [] env S Φ := by
  intro cs hcs C s hB R
  have hb := h cs hcs C s hB R
  show wpAny _ A (callWith pos f cs [] []) _ _ s
  cases hf with
  | builtin id => exact Calls.callWith_builtin rfl (PySem.evalArgs_none (by simpa using hb))
  | type T => exact PySem.callWith_type rfl (PySem.evalArgs_none (by simpa using hb))
  | @fn fa fd body D =>
    obtain ⟨o, hd, ho⟩ := D.at_
    exact Calls.callWith_function (o := o) (fd := fd) (PySem.evalArgs_none ⟨⟨ho _ (R.kept hB), hd⟩, by simpa using hb⟩)
theorem zW {pos : Pos} {f : Value} {first : List Value} {e : Expr} {es : List Expr} {Φ : Value -> St -> Prop} (hf : Callee X f) (h : yC X A L pos (e :: es) env S λ vs S1 => zO X A L f (first ++ vs) S1 Φ)
    (hn : true = (e :: es).all qj := by with_unfolding_all rfl) : jL X A L pos f first (e :: es) env S Φ := by
  obtain ⟨he, hp⟩ := yy (env := env) (pos := pos) hn
  intro cs hcs C s hB R
  have hb : wpAny (model X.prog X.w) A (spliced (backTo pos (starEach (e :: es) env))) (λ vs s1z => X.kept s1z.heap /\ wpAny (model X.prog X.w) A (call f (cs ++ vs) []) (λ a => Got X C L (Φ (er a))) Fa s1z) Fa s :=
      Wp.then hB R h λ vs S1 s1z R1z h₁ => ⟨R1z.kept hB, h₁ _ (by rw [List.map_append, hcs]) C s1z hB R1z⟩
  rw [he] at hb ⊢
  have hpl : (backTo pos ((false, eval e env) :: starEach es env)).any (·.1) = false := by
    show (false || (backTo pos (starEach es env)).any (·.1)) = false
    rw [hp]; rfl
  cases hf with
  | builtin id => exact Calls.callWith_builtin hpl (Calls.evalArgs_plain (wpAny_mono hb (λ o_ o_ h' => h'.2) λ o_ o_ x => x))
  | type T => exact PySem.callWith_type hpl (Calls.evalArgs_plain (wpAny_mono hb (λ o_ o_ h' => h'.2) λ o_ o_ x => x))
  | @fn fa fd body D =>
    obtain ⟨o, hd, ho⟩ := D.at_
    exact Calls.callWith_function (o := o) (fd := fd) (Calls.evalArgs_plain (wpAny_mono hb (λ o_ o_ h' => ⟨⟨ho _ h'.1, hd⟩, h'.2⟩) λ o_ o_ x => x))
theorem yp {id : String} {pos : Pos} {e : Expr} {es : List Expr} {Φ : Value -> St -> Prop} (h : yC X A L pos (e :: es) env S λ vs S1 => zO X A L (.builtin id) vs S1 Φ)
    (hn : true = (e :: es).all qj := by with_unfolding_all rfl) : ∀ c, er c = .builtin id -> jL X A L pos c [] (e :: es) env S Φ := λ c hc => by
  rw [of_er_builtin hc]; exact zW (.builtin _) h hn
theorem yo {id : String} {pos : Pos} {e : Expr} {es : List Expr} {Φ : Value -> St -> Prop} (h : yC X A L pos (e :: es) env S λ vs S1 => zO X A L (.type id) vs S1 Φ)
    (hn : true = (e :: es).all qj := by with_unfolding_all rfl) : ∀ c, er c = .type id -> jL X A L pos c [] (e :: es) env S Φ := λ c hc => by
  rw [of_er_type hc]; exact zW (.type _) h hn
theorem jT {id : String} {Q : Value -> Prop} (h : Q (.type id)) : ∀ c, er c = .type id -> Q c := λ c hc => of_er_type hc ▸ h
theorem qF {a : Addr} {Q : Value -> Prop} (h : Q (.ref a)) : ∀ c, er c = .ref a -> Q c := λ c hc => zC hc ▸ h
theorem ev_CallName {x : Str} {p pos : Pos} {es : List Expr} {Φ : Value -> St -> Prop} (h : EV X A L (eval (.Name x p) env) S λ v S1 => ∀ c, er c = v -> jL X A L pos c [] es env S1 Φ) : EV X A L (eval (.Call (.Name x p) es [] pos) env) S Φ := λ C s hB R =>
  wpAny_Call_NameR (h.then hB R λ c S1 s1z R1z h₁ => h₁ c rfl [] rfl C s1z hB R1z)
def yf (X : Wd) (A : Around) (L : Addr) (v : Value) (name : Str) (S : St) (Ψ : Value -> List Value -> St -> Prop) : Prop := ∀ c, er c = v -> ∀ pl C s, X.le C -> Rep X C L S s ->
  wpAny (model X.prog X.w) A (getMethod c name pl) (λ r => Got X C L (Ψ r.1 (r.2.map er))) Fa s
theorem ev_CallMeth {o : Expr} {name : Str} {apos pos : Pos} {es : List Expr} {Φ : Value -> St -> Prop} (h : EV X A L (eval o env) S λ v S1 => yf X A L v name S1 λ f first S2 => jL X A L pos f first es env S2 Φ)
    (hbase : eval o env = attributeBase o name env (eval o env) := by with_unfolding_all rfl)
    (hfew : true = ((backTo pos (starEach es env)).all (λ x => !x.1) && (backToKw pos (keywordEach [] env)).all (λ x => x.1.isSome)
      && decide (es.length + ([] : List Keyword).length + (if ([] : List Keyword).isEmpty then 0 else 1) < 30)) := by with_unfolding_all rfl)
    (hline : true = (apos.endLine == pos.line) := by with_unfolding_all rfl) : EV X A L (eval (.Call (.Attribute o name apos) es [] pos) env) S Φ := λ C s hB R => by
  rw [arm_eval_Call, <- hbase]
  refine wpAny_bind (Wp.then hB R h λ ov S1 s1z R1z h₁ => wpAny_bind (wpAny_standAt ?_))
  have hform : methodCallForm (es.length + ([] : List Keyword).length) (backTo pos (starEach es env)) (backToKw pos (keywordEach [] env)) = true := hfew.symm
  have hpos : methodCallPos true o env apos pos = pure pos := by unfold methodCallPos; simp [<- hline]
  unfold methodCall
  rw [hform]
  refine wpAny_bind (wpAny_holding (Wp.thenE hB R1z (h₁ ov rfl _) λ r S2 s2z R2z h2z => ?_))
  exact wpAny_bind (wpAny_of_eq hpos (h2z r.2 rfl C s2z hB R2z))
theorem qI {v : Value} {T : String} {name : Str} {id : String} {Ψ : Value -> List Value -> St -> Prop} (hT : ∀ c C s, er c = v -> Rep X C L S s -> s.TypeIs c T /\ ∀ a, c = .ref a -> ∃ o, s.heap.get? a = some o /\ o.dict = none) (pa : PlainAttrs T) (slot : Slot T name id)
    (hty : typeOf (.builtin id) = pure (.type "method_descriptor")) (h : Ψ (.builtin id) [v] S) : yf X A L v name S Ψ := λ c hc pl C s hB R =>
  getMethod_builtin (hT c C s hc R).1 pa slot hty (hT c C s hc R).2 ⟨S, R, by
    show Ψ (.builtin id) ([c].map er) S
    rw [List.map_cons, hc]; exact h⟩
end
theorem map0 {cs : List Value} (h : cs.map er = []) : cs = [] := List.map_eq_nil_iff.mp h
theorem yX {cs : List Value} {u : Value} (h : cs.map er = [u]) : ∃ c, cs = [c] /\ er c = u := by
  cases cs with
  | nil => cases h
  | cons c cs => rw [List.map_cons, List.cons.injEq] at h; exact ⟨c, by rw [map0 h.2], h.1⟩
theorem map2 {cs : List Value} {u v : Value} (h : cs.map er = [u, v]) : ∃ c d, cs = [c, d] /\ er c = u /\ er d = v := by
  cases cs with
  | nil => cases h
  | cons c cs => rw [List.map_cons, List.cons.injEq] at h; obtain ⟨d, rfl, hd⟩ := yX h.2; exact ⟨c, d, rfl, h.1, hd⟩
theorem map3 {cs : List Value} {u v x : Value} (h : cs.map er = [u, v, x]) : ∃ c d e, cs = [c, d, e] /\ er c = u /\ er d = v /\ er e = x := by
  cases cs with
  | nil => cases h
  | cons c cs => rw [List.map_cons, List.cons.injEq] at h; obtain ⟨d, e, rfl, hd, he⟩ := map2 h.2; exact ⟨c, d, e, rfl, h.1, hd, he⟩
def yg (X : Wd) (g : Addr) (x : Str) (v : Value) : Prop := ∀ h, X.kept h -> ∃ mg, h.Ns g mg /\ mg x = some v
def qG (X : Wd) (g b : Addr) (x : Str) (v : Value) : Prop := ∀ h, X.kept h -> ∃ mg mb, h.Ns g mg /\ mg x = none /\ h.Ns b mb /\ mb x = some v
section
variable {X : Wd} {A : Around} {L : Addr} {S : St} {env : Env}
theorem ev_global {x : Str} {pos : Pos} {v : Value} {Φ : Value -> St -> Prop} {g : Addr} (hv : yg X g x v) (h : Φ (er v) S) (hg : g = env.globals := by with_unfolding_all rfl)
    (hx : true = qk .globalImplicit env x := by with_unfolding_all rfl) : EV X A L (eval (.Name x pos) env) S Φ := λ C s hB R => by
  obtain ⟨hk, hx, hd⟩ := qg hx
  subst hg
  obtain ⟨mg, hg, e⟩ := hv _ (R.kept hB)
  exact Calls.Name_function_global hk hx (Calls.loadGlobal_global hg e ⟨S, R, h⟩) hd
theorem ev_builtin {x : Str} {pos : Pos} {v : Value} {Φ : Value -> St -> Prop} {g b : Addr} (hv : qG X g b x v) (h : Φ (er v) S) (hg : g = env.globals := by with_unfolding_all rfl) (hb : b = env.builtins := by with_unfolding_all rfl)
    (hx : true = qk .globalImplicit env x := by with_unfolding_all rfl) : EV X A L (eval (.Name x pos) env) S Φ := λ C s hB R => by
  obtain ⟨hk, hx, hd⟩ := qg hx
  subst hg hb
  obtain ⟨mg, mb, hg, hm, hb, e⟩ := hv _ (R.kept hB)
  exact Calls.Name_function_global hk hx (Calls.loadGlobal_builtin hg hm hb e ⟨S, R, h⟩) hd
def ItemOf (s : Shared) (c : Value) : Prop := ∃ T id, typeLookup (.type T) "__getitem__" = pure (some (.builtin id)) /\ s.TypeIs c T
def jJ (X : Wd) (A : Around) (L : Addr) (u v : Value) (S : St) (Φ : Value -> St -> Prop) : Prop := ∀ c d, er c = u -> er d = v -> ∀ C s, X.le C -> Rep X C L S s ->
  ItemOf s c /\ wpAny (model X.prog X.w) A (getItem c d) (λ a => Got X C L (Φ (er a))) Fa s
theorem subscripted_go {slice : Expr} {o i : Value} {s : Shared} {prog : Program} {w : World} {Q : Value -> Shared -> Prop} (h : wpAny (model prog w) A (getItem o i) Q Fa s) : wpAny (model prog w) A (subscripted slice false o i) Q Fa s := by
  have k : ∀ l, wpAny (model prog w) A (operate l (getItem o i)) Q Fa s := λ l => wpAny_operating h
  cases slice with
  | Slice a b c d => cases c with
    | none => exact k [i, o]
    | some e => exact k [o, i]
  | _ => exact k [o, i]
theorem getitem_go {o : Value} {s : Shared} {prog : Program} {w : World} {Q : Bool -> Shared -> Prop} (ho : ItemOf s o) (h : Q false s) : wpAny (model prog w) A (getitemInPython o) Q Fa s := by
  obtain ⟨T, id, hl, hT⟩ := ho
  rw [getitemInPython_of_ne hT.not_modules]
  refine wpAny_bind (wpAny_specialOf hT hl ?_)
  exact wpAny_pure h
theorem ev_Sub {value slice : Expr} {pos : Pos} {Φ : Value -> St -> Prop} (h : EV X A L (eval value env) S λ u S1 => EV X A L (eval slice env) S1 λ v S2 => jJ X A L u v S2 Φ) : EV X A L (eval (.Subscript value slice pos) env) S Φ := λ C s hB R => by
  rw [eval_Subscript]
  refine wpAny_bind (Wp.then hB R h λ o S1 s1z R1z h₁ => wpAny_bind (wpAny_holding (Wp.then hB R1z h₁ λ i S2 s2z R2z h2z => wpAny_bind (wpAny_standAt ?_))))
  obtain ⟨hi, hg⟩ := h2z o i rfl rfl C s2z hB R2z
  refine wpAny_bind (getitem_go hi (wpAny_bind (subscripted_go (wpAny_mono hg (λ r s3z ⟨S3, R3z, h3z⟩ => wpAny_bind (wpAny_letTemporaryGo (wpAny_pure ⟨S3, R3z, h3z⟩))) λ o_ o_ x => x))))
theorem yP {items : Array Value} {vs : List Value} {k : Nat} {v : Value} (e : items.toList.map er = vs) (h : vs[k]? = some v) : ∃ c, items[k]? = some c /\ er c = v := by
  rw [<- e, List.getElem?_map, Option.map_eq_some_iff] at h
  obtain ⟨c, hc, e'⟩ := h
  exact ⟨c, by rw [<- Array.getElem?_toList]; exact hc, e'⟩
theorem zP {items : Array Value} {vs : List Value} (e : items.toList.map er = vs) : items.size = vs.length := by rw [<- e, List.length_map, Array.length_toList]
theorem zL {h : Heap} {a : Addr} {items : Array Value} {ep : Nat} (e : h.get? a = some ⟨.type "list", none, .seq items ep, #[]⟩) : h.IsList a items := ⟨_, e, rfl, ep, rfl⟩
theorem ya {h : Heap} {a : Addr} {items : Array Value} {ep : Nat} (e : h.get? a = some ⟨.type "tuple", none, .seq items ep, #[]⟩) : h.IsTuple a items := ⟨_, e, rfl, ep, rfl⟩
theorem item_list {a : Addr} {vs : List Value} {k : Int} {v : Value} {Φ : Value -> St -> Prop} (hl : S.H a = some (.list vs)) (h0 : 0 <= k) (hk : k < 2 ^ 63) (hv : vs[k.toNat]? = some v) (h : Φ v S) : jJ X A L (.ref a) (.int k 0) S Φ := by
  intro c d hc hd C s hB R
  rw [zC hc]
  obtain ⟨t, rfl⟩ := zQ hd
  obtain ⟨items, ep, ho, e⟩ := R.list hl
  obtain ⟨x, hx, rfl⟩ := yP e hv
  exact ⟨⟨"list", _, slot_list_getitem.lookup, (zL ho).typeIs⟩, wpAny_getItem_list (zL ho) h0 hk hx ⟨S, R, h⟩⟩
theorem item_listNeg {a : Addr} {vs : List Value} {k : Int} {v : Value} {Φ : Value -> St -> Prop} (hl : S.H a = some (.list vs)) (h0 : k < 0) (h1 : -(vs.length : Int) <= k) (hk : -(2 ^ 63) <= k) (hv : vs[(k + vs.length).toNat]? = some v) (h : Φ v S) : jJ X A L (.ref a) (.int k 0) S Φ := by
  intro c d hc hd C s hB R
  rw [zC hc]
  obtain ⟨t, rfl⟩ := zQ hd
  obtain ⟨items, ep, ho, e⟩ := R.list hl
  obtain ⟨x, hx, rfl⟩ := yP e hv
  exact ⟨⟨"list", _, slot_list_getitem.lookup, (zL ho).typeIs⟩, wpAny_getItem_list_neg (zL ho) h0 (by rw [zP e]; exact h1) hk (by rw [zP e]; exact hx) ⟨S, R, h⟩⟩
theorem Rep.mapSeq {C : Cx} {s : Shared} (R : Rep X C L S s) {a : Addr} {vs vs' : List Value} {items : Array Value} {ep : Nat} {tk : Nat} (hl : S.H a = some (.list vs)) (ho : s.heap.get? a = some ⟨.type "list", none, .seq items ep, #[]⟩)
    {f : Array Value -> Array Value} (he : (f items).toList.map er = vs') : Rep X C L { S with H := zD S.H a (.list vs') } { s with heap := s.heap.update a (Obj.mapSeq f), toks := tk } := by
  have hob : Obj.mapSeq f ⟨.type "list", none, .seq items ep, #[]⟩ = ⟨.type "list", none, .seq (f items) (if (f items).size == items.size then ep else ep + 1), #[]⟩ := by
    simp only [Obj.mapSeq]
  have ho' := Heap.get?_update_self (f := Obj.mapSeq f) ho (by rw [hob]; rfl)
  rw [hob] at ho'
  have hs := Heap.SameBut.update s.heap a (Obj.mapSeq f)
  exact R.turn hl (λ b o hb q => (hs.2 b hb).trans q) (o := .list vs') ⟨_, ho', _, _, rfl, he⟩ rfl rfl
theorem jQ {a : Addr} {vs : List Value} (hl : S.H a = some (.list vs)) : ∀ c C s, er c = .ref a -> Rep X C L S s -> s.TypeIs c "list" /\ ∀ b, c = .ref b -> ∃ o, s.heap.get? b = some o /\ o.dict = none := λ c C s hc R => by
  obtain ⟨items, ep, ho, e⟩ := R.list hl
  rw [zC hc]
  exact ⟨(zL ho).typeIs, λ b q => by cases q; exact ⟨_, ho, rfl⟩⟩
theorem zT {a : Addr} {vs : List Value} {Ψ : Value -> List Value -> St -> Prop} (hl : S.H a = some (.list vs)) (h : Ψ (.builtin "list.append") [.ref a] S) : yf X A L (.ref a) "append" S Ψ :=
  qI (jQ hl) F.plainAttrs_list F.slot_list_append F.type_list_append h
theorem zU {a : Addr} {vs : List Value} {v : Value} {Φ : Value -> St -> Prop} (hl : S.H a = some (.list vs)) (hn : vs.length <= sizeLine) (h : Φ .none { S with H := zD S.H a (.list (vs ++ [v])) }) :
    zO X A L (.builtin "list.append") [.ref a, v] S Φ := λ cs hcs C s hB R => by
  obtain ⟨c, d, rfl, hc, hd⟩ := map2 hcs
  rw [zC hc]
  obtain ⟨items, ep, ho, e⟩ := R.list hl
  refine wpAny_list_append_plain ⟨ep, ho⟩ (λ h' ⟨n, ho'⟩ hs => ⟨_, R.turn hl (λ b o hb q => (hs.2 b hb).trans q) (o := .list (vs ++ [v])) ⟨_, ho', _, _, rfl, ?_⟩ rfl rfl, h⟩) (by rw [zP e]; exact hn)
  rw [Array.toList_push, List.map_append, e, List.map_cons, List.map_nil, hd]
theorem meth_pop {a : Addr} {vs : List Value} {Ψ : Value -> List Value -> St -> Prop} (hl : S.H a = some (.list vs)) (h : Ψ (.builtin "list.pop") [.ref a] S) : yf X A L (.ref a) "pop" S Ψ :=
  qI (jQ hl) F.plainAttrs_list F.slot_list_pop F.type_list_pop h
theorem call_pop {a : Addr} {vs : List Value} {v : Value} {Φ : Value -> St -> Prop} (hl : S.H a = some (.list (vs ++ [v]))) (hn : vs.length < sizeLine) (h : Φ v { S with H := zD S.H a (.list vs) }) :
    zO X A L (.builtin "list.pop") [.ref a] S Φ := λ cs hcs C s hB R => by
  obtain ⟨c, rfl, hc⟩ := yX hcs
  rw [zC hc]
  obtain ⟨items, ep, ho, e⟩ := R.list hl
  have hz : items.size = vs.length + 1 := by rw [zP e, List.length_append]; rfl
  obtain ⟨y, hy, rfl⟩ := yP (k := items.size - 1) e (v := v) (by rw [hz]; simp)
  refine call_meets F.slot_list_pop (zL ho).typeIs F.entry_list_pop (F.args_list_pop_1 _) (PySem.MeetsSeq.list_pop_last a items ep y hy (by rw [hz]; exact hn)) ⟨ho, ?_⟩
  refine ⟨_, R.mapSeq hl ho (vs' := vs) ?_, h⟩
  have hl' : (items.eraseIdxIfInBounds (items.size - 1)).toList = items.toList.dropLast := by
    have hlt : items.size - 1 < items.size := by ac_nf
    rw [Array.toList_eraseIdxIfInBounds, List.eraseIdx_eq_take_drop_succ, List.dropLast_eq_take, Array.length_toList, List.drop_of_length_le (by rw [Array.length_toList]; ac_nf), List.append_nil]
  rw [hl', List.map_dropLast, e, List.dropLast_concat]
theorem qe {a : Addr} {vs : List Value} {Φ : Value -> St -> Prop} (hl : S.H a = some (.list vs)) (hn : vs.length < 2 ^ 63) (h : Φ (.int vs.length 0) S) : zO X A L (.builtin "len") [.ref a] S Φ := λ cs hcs C s hB R => by
  obtain ⟨c, rfl, hc⟩ := yX hcs
  rw [zC hc]
  obtain ⟨items, ep, ho, e⟩ := R.list hl
  exact PySem.Calls.call_len_list (zL ho) (by rw [zP e]; exact_mod_cast hn) ⟨S, R.tok _, by rw [zP e]; exact h⟩
theorem tru_list {a : Addr} {vs : List Value} {Φ : Bool -> St -> Prop} (hl : S.H a = some (.list vs)) (hn : vs.length < 2 ^ 63) (h : Φ (!vs.isEmpty) S) : TruE X A L (.ref a) S Φ := λ c hc C s hB R => by
  rw [zC hc]
  obtain ⟨items, ep, ho, e⟩ := R.list hl
  refine wpAny_truthy_list (zL ho) (by rw [zP e]; exact_mod_cast hn) ⟨S, R.tok _, ?_⟩
  have : items.isEmpty = vs.isEmpty := by
    have := zP e
    cases vs with
    | nil => simp only [List.length_nil] at this; simp [Array.isEmpty, this]
    | cons v vs => simp only [List.length_cons] at this; simp [Array.isEmpty, this]
  rw [this]; exact h
end
section
variable {X : Wd} {A : Around} {L : Addr} {S : St} {env : Env} {C : Cx} {s : Shared} {fp : List Addr}
theorem Rep.hid (R : Rep X C L S s) (hd : jK C S L fp) {s' : Shared} (k : ∀ b o, b ∉ fp -> s.heap.get? b = some o -> s'.heap.get? b = some o) (hg : s'.gens = s.gens) (ho : s'.os = s.os) : Rep X C L S s' := by
  refine ⟨λ b o e => k _ _ (λ hb => by rw [(hd b hb).1] at e; cases e) (R.keep b o e), ?_, R.nsB, R.nsH, λ a o e => ⟨R.notB e, ?_⟩, hg.trans R.gens, ho.trans R.os⟩
  . obtain ⟨mc, ⟨o, es, ep, h1, r⟩, e⟩ := R.ns
    exact ⟨mc, ⟨o, es, ep, k _ _ (λ hb => (hd _ hb).2.2 rfl) h1, r⟩, e⟩
  . obtain ⟨_, ob, h1, h2⟩ := R.obj a o e
    exact ⟨ob, k _ _ (λ hb => by rw [(hd a hb).2.1] at e; cases e) h1, h2⟩
theorem hid_one {I : Addr} (R : Rep X C L S s) (h : s.heap.get? I = none) : jK C S L [I] := λ b hb => by
  rw [List.mem_singleton.mp hb]; exact ⟨(R.fresh h).1, (R.fresh h).2.1, (R.fresh h).2.2⟩
theorem iter_list {target : Expr} {a : Addr} {vs : List Value} (hh : A.handled = none) (hl : S.H a = some (.list vs)) : IterE X A L target (.ref a) S vs.length (λ H => H a = some (.list vs)) (Plain vs) := λ c hc C s hB R => by
  rw [zC hc]
  obtain ⟨items, ep, ho, e⟩ := R.list hl
  refine wpAny_pyIter_list (zL ho) ⟨[s.heap.objs.size], λ k h => h.IsListIter s.heap.objs.size a k, ⟨?_, ?_, λ k s Q E h q => wpAny_pyIter_listiter h q, ?_, ?_⟩, hid_one R (zJ _), ⟨_, Heap.get?_push_size _ rfl, rfl, rfl⟩, R.ext (λ b o e => Heap.get?_push_of_some _ e) rfl rfl⟩
  . intro k h h' ⟨o, h1, h2⟩ hk
    exact ⟨o, hk _ (List.mem_singleton.mpr rfl) _ h1, h2⟩
  . intro k h ⟨o, h1, h2⟩ b hb
    rw [List.mem_singleton.mp hb]; exact ⟨o, h1⟩
  . intro k hk L' C' S' s' hB' R' hd' hl' hat
    obtain ⟨items', ep', ho', e'⟩ := R'.list hl'
    obtain ⟨x, hx, hxe⟩ := yP e' (List.getElem?_eq_getElem hk)
    refine wpAny_pyNext_list_item hat (zL ho') hx (λ h' hit' hs' => ⟨x, rfl, letGo_listiter hit' ⟨S', ?_, hd', ⟨by rw [hxe]; exact List.getElem?_eq_getElem hk, rfl⟩, hit'⟩⟩)
    exact R'.hid hd' (λ b o hb q => (hs'.2 b (λ z => hb (List.mem_singleton.mpr z))).trans q) rfl rfl
  . intro L' C' S' s' hB' R' hd' hl' hat
    obtain ⟨items', ep', ho', e'⟩ := R'.list hl'
    refine wpAny_pyNext_list_end hh hat (zL ho') (Array.getElem?_eq_none (by rw [zP e']; exact Nat.le_refl _)) (λ h' hs' => ⟨rfl, ?_⟩)
    exact R'.hid hd' (λ b o hb q => hs' b o (λ z => hb (List.mem_singleton.mpr z)) q) rfl rfl
theorem iter_tuple {target : Expr} {a : Addr} {vs : List Value} (hh : A.handled = none) (hl : S.H a = some (.tup (.type "tuple") vs)) : IterE X A L target (.ref a) S vs.length (λ H => H a = some (.tup (.type "tuple") vs)) (Plain vs) := λ c hc C s hB R => by
  rw [zC hc]
  obtain ⟨items, ep, ho, e⟩ := R.tup hl
  refine wpAny_pyIter_tuple (ya ho) ⟨[s.heap.objs.size], λ k h => h.IsTupleIter s.heap.objs.size a k, ⟨?_, ?_, λ k s Q E h q => wpAny_pyIter_tupleiter h q, ?_, ?_⟩, hid_one R (zJ _), ⟨_, Heap.get?_push_size _ rfl, rfl, rfl⟩, R.ext (λ b o e => Heap.get?_push_of_some _ e) rfl rfl⟩
  . intro k h h' ⟨o, h1, h2⟩ hk
    exact ⟨o, hk _ (List.mem_singleton.mpr rfl) _ h1, h2⟩
  . intro k h ⟨o, h1, h2⟩ b hb
    rw [List.mem_singleton.mp hb]; exact ⟨o, h1⟩
  . intro k hk L' C' S' s' hB' R' hd' hl' hat
    obtain ⟨items', ep', ho', e'⟩ := R'.tup hl'
    obtain ⟨x, hx, hxe⟩ := yP e' (List.getElem?_eq_getElem hk)
    refine wpAny_pyNext_tuple_item hat (ya ho') hx (λ h' hit' hs' => ⟨x, rfl, letGo_tupleiter hit' ⟨S', ?_, hd', ⟨by rw [hxe]; exact List.getElem?_eq_getElem hk, rfl⟩, hit'⟩⟩)
    exact R'.hid hd' (λ b o hb q => (hs'.2 b (λ z => hb (List.mem_singleton.mpr z))).trans q) rfl rfl
  . intro L' C' S' s' hB' R' hd' hl' hat
    obtain ⟨items', ep', ho', e'⟩ := R'.tup hl'
    refine wpAny_pyNext_tuple_end hh hat (ya ho') (Array.getElem?_eq_none (by rw [zP e']; exact Nat.le_refl _)) (λ h' hs' => ⟨rfl, ?_⟩)
    exact R'.hid hd' (λ b o hb q => hs' b o (λ z => hb (List.mem_singleton.mpr z)) q) rfl rfl
theorem letGo_rangeiter {target : Expr} {I : Addr} {x l c : Int} {v : Value} {Q' : Unit -> Shared -> Prop} {s' : Shared} {prog : Program} {w : World} (hit : IsRangeIter s'.heap I x l c) (h : Q' () s') :
    wpAny (model prog w) A (letOwnedTupleGo target (.ref I) v) Q' Fa s' := by
  have ho : s'.heap.get? I = some _ := hit
  unfold letOwnedTupleGo
  cases target <;> first
    | exact wpAny_pure h
    | (cases v <;> first
        | exact wpAny_pure h
        | (refine wpAny_bind (wpAny_load ho ?_)
           exact wpAny_pure h))
def Counts (a : Int) (k : Nat) (u : Value) (S S1 : St) : Prop := u = .int (a + k) 0 /\ S1 = S
theorem iter_range {target : Expr} {r : Addr} {a b : Int} (hh : A.handled = none) (hl : S.H r = some (.range a b 1)) (hsmall : Builtin.Range.small a b 1 = true) : IterE X A L target (.ref r) S (b - a).toNat (λ o_ => True) (Counts a) := λ c hc C s hB R => by
  rw [zC hc]
  obtain ⟨ob, ho, t, u, v, rfl⟩ := R.get hl
  have hsz : Builtin.Range.rangeSize a b 1 = (((b - a).toNat : Nat) : Int) := by
    rw [rangeSize_one]; split <;> ac_nf
  refine wpAny_pyIter_range (t := t) (u := u) (v := v) ho hsmall ⟨[s.heap.objs.size], λ k h => IsRangeIter h s.heap.objs.size (a + k) ((b - a).toNat - k) 1, ⟨?_, ?_, λ k s Q E h q => wpAny_pyIter_rangeiter h q, ?_, ?_⟩, hid_one R (zJ _), ?_, R.ext (λ b o e => Heap.get?_push_of_some _ e) rfl rfl⟩
  . intro k h h' h1 hk
    exact hk _ (List.mem_singleton.mpr rfl) _ h1
  . intro k h h1 b hb
    rw [List.mem_singleton.mp hb]; exact ⟨_, h1⟩
  . intro k hk L' C' S' s' hB' R' hd' hl' hat
    refine wpAny_pyNext_range_item hat (by ac_nf) (λ h' hit' hs' => ⟨_, rfl, letGo_rangeiter hit' ⟨S', ?_, hd', ⟨rfl, rfl⟩, ?_⟩⟩)
    . exact R'.hid hd' (λ b o hb q => (hs'.2 b (λ z => hb (List.mem_singleton.mpr z))).trans q) rfl rfl
    . have e1 : a + (k : Int) + 1 = a + ((k + 1 : Nat) : Int) := by ac_nf
      have e2 : ((b - a).toNat : Int) - (k : Int) - 1 = ((b - a).toNat : Int) - ((k + 1 : Nat) : Int) := by ac_nf
      rw [e1, e2] at hit'; exact hit'
  . intro L' C' S' s' hB' R' hd' hl' hat
    refine wpAny_pyNext_range_end hh hat (by ac_nf) (λ h' hs' => ⟨rfl, ?_⟩)
    exact R'.hid hd' (λ b o hb q => hs' b o (λ z => hb (List.mem_singleton.mpr z)) q) rfl rfl
  . have := Heap.get?_push_size s.heap (o := { cls := .type "range_iterator", data := .fields #[rawInt a, rawInt (Builtin.Range.rangeSize a b 1), rawInt 1] }) rfl
    rw [hsz] at this ⊢
    simpa using this
theorem call_range1 {n : Int} {Φ : Value -> St -> Prop} (h : New S (.range 0 n 1) Φ) : zO X A L (.type "range") [.int n 0] S Φ := λ cs hcs C s hB R => by
  obtain ⟨c, rfl, hc⟩ := yX hcs
  obtain ⟨t, rfl⟩ := zQ hc
  exact call_range_1 ⟨_, R.push (o := .range 0 n 1) rfl ⟨_, _, _, rfl⟩ _, h _ (R.fresh (zJ _)).2.1⟩
theorem call_range2 {a b : Int} {Φ : Value -> St -> Prop} (h : New S (.range a b 1) Φ) : zO X A L (.type "range") [.int a 0, .int b 0] S Φ := λ cs hcs C s hB R => by
  obtain ⟨c, d, rfl, hc, hd⟩ := map2 hcs
  obtain ⟨t, rfl⟩ := zQ hc
  obtain ⟨u, rfl⟩ := zQ hd
  exact call_range_2 ⟨_, R.push (o := .range a b 1) rfl ⟨_, _, _, rfl⟩ _, h _ (R.fresh (zJ _)).2.1⟩
theorem for_list {target : Expr} {body : List Stmt} {a : Addr} {vs : List Value} {Φ : Flow -> St -> Prop} (hh : A.handled = none) (hl : S.H a = some (.list vs)) (I : Nat -> St -> Prop) (h0 : I 0 S) (hsrc : ∀ k S, I k S -> S.H a = some (.list vs))
    (step : ∀ k u S1, vs[k]? = some u -> I k S1 -> qs X A L target env u S1 λ S2 => Wp X A L (execs body env) S2 (Turn (I (k + 1)) Φ)) (fin : ∀ S, I vs.length S -> Φ .next S) : ForE X A L target body env (.ref a) S Φ :=
  ⟨vs.length, _, _, I, iter_list hh hl, h0, hsrc, λ k S u S1 hk hI ⟨hu, e⟩ => by subst e; exact step k u _ hu hI, fin⟩
theorem for_tuple {target : Expr} {body : List Stmt} {a : Addr} {vs : List Value} {Φ : Flow -> St -> Prop} (hh : A.handled = none) (hl : S.H a = some (.tup (.type "tuple") vs)) (I : Nat -> St -> Prop) (h0 : I 0 S) (hsrc : ∀ k S, I k S -> S.H a = some (.tup (.type "tuple") vs))
    (step : ∀ k u S1, vs[k]? = some u -> I k S1 -> qs X A L target env u S1 λ S2 => Wp X A L (execs body env) S2 (Turn (I (k + 1)) Φ)) (fin : ∀ S, I vs.length S -> Φ .next S) : ForE X A L target body env (.ref a) S Φ :=
  ⟨vs.length, _, _, I, iter_tuple hh hl, h0, hsrc, λ k S u S1 hk hI ⟨hu, e⟩ => by subst e; exact step k u _ hu hI, fin⟩
theorem for_range {target : Expr} {body : List Stmt} {r : Addr} {a b : Int} {Φ : Flow -> St -> Prop} (hh : A.handled = none) (hl : S.H r = some (.range a b 1)) (hsmall : Builtin.Range.small a b 1 = true) (I : Nat -> St -> Prop) (h0 : I 0 S)
    (step : ∀ (k : Nat) S1, k < (b - a).toNat -> I k S1 -> qs X A L target env (.int (a + k) 0) S1 λ S2 => Wp X A L (execs body env) S2 (Turn (I (k + 1)) Φ)) (fin : ∀ S, I (b - a).toNat S -> Φ .next S) : ForE X A L target body env (.ref r) S Φ :=
  ⟨_, _, _, I, iter_range hh hl hsmall, h0, λ o_ o_ o_ => trivial, λ k S u S1 hk hI ⟨hu, e⟩ => by subst e; subst hu; exact step k _ hk hI, fin⟩
noncomputable def AsgAll (X : Wd) (A : Around) (L : Addr) (ts : List Expr) (env : Env) (vs : List Value) (S : St) (Ψ : St -> Prop) : Prop := match ts, vs with
  | t :: ts, v :: vs => qs X A L t env v S λ S1 => AsgAll X A L ts env vs S1 Ψ
  | _, _ => Ψ S
theorem yI : ∀ {ts : List Expr}, ts.all qj = true -> assignEach ts env = ts.map λ t => (false, assign t env)
  | [], _ => rfl
  | t :: ts, h => by
    rw [List.all_cons, Bool.and_eq_true] at h
    have ih := yI h.2
    cases t with
    | Starred a b => cases h.1
    | _ => show (false, _) :: assignEach ts env = _; rw [ih]; rfl
theorem asg_all : ∀ {ts : List Expr} {cs vs : List Value} {S : St} {Ψ : St -> Prop} {C : Cx} {s : Shared}, cs.map er = vs -> AsgAll X A L ts env vs S Ψ -> X.le C -> Rep X C L S s ->
    wpAny (model X.prog X.w) A (assignInOrder (ts.map λ t => assign t env) cs) (λ o_ => Got X C L (Ψ)) Fa s
  | [], cs, vs, S, Ψ, C, s, e, h, hB, R => by
    have : Ψ S := by cases vs <;> exact h
    cases cs <;> exact wpAny_pure ⟨S, R, this⟩
  | t :: ts, [], vs, S, Ψ, C, s, e, h, hB, R => by
    cases vs with
    | nil => exact wpAny_pure ⟨S, R, h⟩
    | cons v vs => cases e
  | t :: ts, c :: cs, vs, S, Ψ, C, s, e, h, hB, R => by
    cases vs with
    | nil => cases e
    | cons v vs =>
      rw [List.map_cons, List.cons.injEq] at e
      exact wpAny_bind (wpAny_holding (Wp.then hB R (h c e.1) λ o_ S1 s1z R1z h₁ => asg_all e.2 h₁ hB R1z))
theorem wpAny_draw_list {prog : Program} {w : World} {it t : Addr} {items : Array Value} (hne : t ≠ it) : ∀ (n i : Nat) (s : Shared) (Q : List Value -> Shared -> Prop), s.heap.IsListIter it t i -> s.heap.IsList t items -> i + n <= items.size ->
    (∀ h', h'.IsListIter it t (i + n) -> Heap.SameBut it s.heap h' -> Q ((items.toList.drop i).take n) { s with heap := h' }) -> wpAny (model prog w) A (draw (.ref it) n) Q Fa s
  | 0, i, s, Q, hit, _, _, hQ => by
    show wpAny _ _ (pure []) Q Fa s
    exact wpAny_pure (by simpa using hQ s.heap hit (Heap.SameBut.refl ..))
  | n + 1, i, s, Q, hit, ht, hle, hQ => by
    have hlt : i < items.size := by ac_nf
    show wpAny _ _ (pyNext (.ref it) >>= _) Q Fa s
    refine wpAny_bind (wpAny_pyNext_list_item hit ht (x := items[i]) (by simp [hlt]) λ h₁ hit1 hs1z => ?_)
    refine wpAny_bind (wpAny_holding (wpAny_draw_list hne n (i + 1) _ _ hit1 (ht.extBut hs1z.extBut hne) (by ac_nf) λ h2z hit2 hs2 => wpAny_pure ?_))
    have hd : items.toList.drop i = items[i] :: items.toList.drop (i + 1) := by simp [List.drop_eq_getElem_cons, hlt]
    have := hQ h2z (by rw [show i + (n + 1) = i + 1 + n by ac_nf]; exact hit2) (hs1z.trans hs2)
    rw [hd, List.take_succ_cons] at this
    exact this
theorem jM {prog : Program} {w : World} {t : Addr} {items : Array Value} {Q : List Value -> Shared -> Prop} (hh : A.handled = none) (ht : s.heap.IsList t items)
    (hQ : ∀ h', Heap.ExtBut s.heap.objs.size s.heap h' -> Q items.toList { s with heap := h' }) : wpAny (model prog w) A (unpackItems (.ref t) items.size none) Q Fa s := by
  have hlt : t ≠ s.heap.objs.size := by obtain ⟨o, ho, _⟩ := ht; exact Nat.ne_of_lt (Heap.lt_size ho)
  unfold unpackItems
  refine wpAny_bind ?_
  . unfold notIterableAtAll
    refine wpAny_bind (wpAny_specialOf ht.typeIs slot_list_iter.lookup ?_)
    refine wpAny_pure ?_
    simp only [Bool.false_eq_true, if_false]
    refine wpAny_bind (wpAny_holding (wpAny_pyIter_list ht ?_))
    refine wpAny_bind (wpAny_holding (wpAny_draw_list hlt items.size 0 _ _ ⟨_, Heap.get?_push_size _ rfl, rfl, rfl⟩ (ht.push _) (by ac_nf) λ h₁ hit1 hs1z => ?_))
    have hall : List.take items.size (List.drop 0 items.toList) = items.toList := by
      rw [List.drop_zero]; exact List.take_of_length_le (by simp)
    rw [hall]
    rw [if_neg (by simp)]
    have ht1z : h₁.IsList t items := (ht.push _).extBut hs1z.extBut hlt
    refine wpAny_bind (wpAny_holding (wpAny_pyNext_list_end hh hit1 ht1z (by simp) λ h2z he2 => ?_))
    simp only [Option.isSome_none, Bool.false_eq_true, if_false]
    refine wpAny_pure (hQ h2z λ b o hb e => he2 b o hb (hs1z.extBut b o hb (Heap.get?_push_of_some _ e)))
theorem Rep.extNew (R : Rep X C L S s) {h' : Heap} (hs : Heap.ExtBut s.heap.objs.size s.heap h') : Rep X C L S { s with heap := h' } :=
  R.ext (λ b o e => hs b o (Nat.ne_of_lt (Heap.lt_size e)) e) rfl rfl
theorem jY {ts : List Expr} : (ts.map λ t => (false, assign t env)).findIdx? (·.1) = none := by
  rw [List.findIdx?_eq_none_iff]
  intro x hx
  obtain ⟨t, _, rfl⟩ := List.mem_map.mp hx
  rfl
theorem asg_list {ts : List Expr} {k : Nat} {pos : Pos} {a : Addr} {vs : List Value} {Ψ : St -> Prop} (hh : A.handled = none) (hl : S.H a = some (.list vs)) (hn : ts.length = vs.length) (h : AsgAll X A L ts env vs S Ψ) (hst : ts.all qj = true := by rfl) : qs X A L (.Tuple ts k pos) env (.ref a) S Ψ := λ c hc C s hB R => by
  rw [zC hc]
  obtain ⟨items, ep, ho, e⟩ := R.list hl
  rw [arm_assign_Tuple, yI hst]
  refine wpAny_bind (wpAny_standAt ?_)
  unfold unpack
  rw [jY, List.length_map, hn, <- zP e, List.map_map]
  exact wpAny_bind (wpAny_holding (jM hh (zL ho) λ h' hs => asg_all e h hB (R.extNew hs)))
theorem jI {ts : List Expr} {k : Nat} {pos : Pos} {a : Addr} {vs : List Value} {Ψ : St -> Prop} (hh : A.handled = none) (hl : S.H a = some (.tup (.type "tuple") vs)) (hn : ts.length = vs.length) (h : AsgAll X A L ts env vs S Ψ) (hst : ts.all qj = true := by rfl) : qs X A L (.Tuple ts k pos) env (.ref a) S Ψ := λ c hc C s hB R => by
  rw [zC hc]
  obtain ⟨items, ep, ho, e⟩ := R.tup hl
  rw [arm_assign_Tuple, yI hst]
  refine wpAny_bind (wpAny_standAt ?_)
  unfold unpack
  rw [jY, List.length_map, hn, <- zP e, List.map_map]
  exact wpAny_bind (wpAny_holding (wpAny_unpackItems_tuple hh (ya ho) λ h' hs => asg_all e h hB (R.extNew hs)))
end
section
variable {X : Wd} {A : Around} {L : Addr} {S : St} {env : Env}
theorem ex_While {test : Expr} {body : List Stmt} {pos : Pos} {Φ : Flow -> St -> Prop} (I : Nat -> St -> Prop) (n : Nat) (h0 : I n S)
    (turn : ∀ n S, I n S -> TV X A L test env S λ b S1 => Ways b (Wp X A L (execs body env) S1 (Turn (λ S2 => ∃ m, m < n /\ I m S2) Φ)) (Φ .next S1)) : Wp X A L (exec (.While test body [] pos) env) S Φ := λ C s hB R =>
  wpAny_While (codeAny_whileLoop (λ m s => ∃ S, Rep X C L S s /\ I m S) (λ m s ⟨S', R', hI⟩ => by
    refine Wp.thenE hB R' (turn m S' hI) λ b S1 s1z R1z h₁ => ?_
    cases b
    . rw [if_neg (by decide)]
      exact wpAny_execs_nil ⟨S1, R1z, h₁.2 rfl⟩
    . rw [if_pos rfl]
      refine Wp.thenE hB R1z (h₁.1 rfl) λ f S2 s2z R2z h2z => ?_
      cases f with
      | next => obtain ⟨k, hk, hI'⟩ := h2z; exact ⟨k, hk, S2, R2z, hI'⟩
      | cont => obtain ⟨k, hk, hI'⟩ := h2z; exact ⟨k, hk, S2, R2z, hI'⟩
      | brk => exact ⟨S2, R2z, h2z⟩
      | ret v => exact ⟨S2, R2z, h2z⟩) n ⟨S, R, h0⟩)
theorem bin_addList {a b : Addr} {us vs : List Value} {Φ : Value -> St -> Prop} (ha : S.H a = some (.list us)) (hb : S.H b = some (.list vs)) (hn : us.length + vs.length <= sizeLine) (h : New S (.list (us ++ vs)) Φ) : BinE X A L .Add (.ref a) (.ref b) S Φ := by
  intro c d hc hd C s hB R
  rw [zC hc, zC hd]
  obtain ⟨items, ep, ho, e⟩ := R.list ha
  obtain ⟨items2, ep2, ho2, e2⟩ := R.list hb
  refine P.add_list ho ho2 ⟨_, R.push (o := .list (us ++ vs)) rfl ⟨_, _, rfl, ?_⟩ _, h _ (R.fresh (zJ _)).2.1⟩ (by rw [zP e, zP e2]; exact hn)
  rw [Array.toList_append, List.map_append, e, e2]
theorem any_strs {items : Array Value} {ss : List Str} {x : Str} (e : items.toList.map er = ss.map (.str · 0)) : ∃ f : Value -> Bool, (∀ y ∈ items, ∀ A s u, SeqAt.EqAt A s y (.str x u) (f y)) /\ items.any f = ss.contains x := by
  refine ⟨λ y => match y with | .str z _ => z == x | _ => false, λ y hy A s u => ?_, ?_⟩
  . have : er y ∈ ss.map (Value.str · 0) := e ▸ List.mem_map_of_mem (Array.mem_toList_iff.mpr hy)
    obtain ⟨z, _, hz⟩ := List.mem_map.mp this
    obtain ⟨t, rfl⟩ := zf hz.symm
    exact SeqAt.EqAt.str_str z t x u
  . rw [<- Array.any_toList]
    generalize items.toList = l at e
    induction l generalizing ss with
    | nil => cases ss with | nil => rfl | cons z zs => cases e
    | cons y l ih =>
      cases ss with
      | nil => cases e
      | cons z zs =>
        rw [List.map_cons, List.map_cons, List.cons.injEq] at e
        obtain ⟨t, rfl⟩ := zf e.1
        rw [List.any_cons, ih e.2, List.contains_cons]
        congr 1
        exact BEq.comm
theorem any_ints {items : Array Value} {ss : List Int} {x : Int} (e : items.toList.map er = ss.map (.int · 0)) : ∃ f : Value -> Bool, (∀ y ∈ items, ∀ A s u, SeqAt.EqAt A s y (.int x u) (f y)) /\ items.any f = ss.contains x := by
  refine ⟨λ y => match y with | .int z _ => z == x | _ => false, λ y hy A s u => ?_, ?_⟩
  . have : er y ∈ ss.map (Value.int · 0) := e ▸ List.mem_map_of_mem (Array.mem_toList_iff.mpr hy)
    obtain ⟨z, _, hz⟩ := List.mem_map.mp this
    obtain ⟨t, rfl⟩ := zQ hz.symm
    exact SeqAt.EqAt.int_int z t x u
  . rw [<- Array.any_toList]
    generalize items.toList = l at e
    induction l generalizing ss with
    | nil => cases ss with | nil => rfl | cons z zs => cases e
    | cons y l ih =>
      cases ss with
      | nil => cases e
      | cons z zs =>
        rw [List.map_cons, List.map_cons, List.cons.injEq] at e
        obtain ⟨t, rfl⟩ := zQ e.1
        rw [List.any_cons, ih e.2, List.contains_cons]
        congr 1
        exact BEq.comm
theorem cmp_inStrs {a : Addr} {ss : List Str} {x : Str} {Φ : Value -> St -> Prop} (ha : S.H a = some (.list (ss.map (.str · 0)))) (h : Φ (.bool (ss.contains x)) S) : yL X A L .In (.str x 0) (.ref a) S Φ := by
  intro c d hc hd C s hB R
  obtain ⟨u, rfl⟩ := zf hc
  rw [zC hd]
  obtain ⟨items, ep, ho, e⟩ := R.list ha
  obtain ⟨f, hf, hany⟩ := any_strs (x := x) e
  exact SeqAt.in_listAt f (zL ho) (λ y hy => hf y hy _ _ _) ⟨S, R, by rw [hany]; exact h⟩
theorem cmp_notInStrs {a : Addr} {ss : List Str} {x : Str} {Φ : Value -> St -> Prop} (ha : S.H a = some (.list (ss.map (.str · 0)))) (h : Φ (.bool (!ss.contains x)) S) : yL X A L .NotIn (.str x 0) (.ref a) S Φ := by
  intro c d hc hd C s hB R
  obtain ⟨u, rfl⟩ := zf hc
  rw [zC hd]
  obtain ⟨items, ep, ho, e⟩ := R.list ha
  obtain ⟨f, hf, hany⟩ := any_strs (x := x) e
  exact SeqAt.notIn_listAt f (zL ho) (λ y hy => hf y hy _ _ _) ⟨S, R, by rw [hany]; exact h⟩
theorem cmp_inInts {a : Addr} {ss : List Int} {x : Int} {Φ : Value -> St -> Prop} (ha : S.H a = some (.list (ss.map (.int · 0)))) (h : Φ (.bool (ss.contains x)) S) : yL X A L .In (.int x 0) (.ref a) S Φ := by
  intro c d hc hd C s hB R
  obtain ⟨u, rfl⟩ := zQ hc
  rw [zC hd]
  obtain ⟨items, ep, ho, e⟩ := R.list ha
  obtain ⟨f, hf, hany⟩ := any_ints (x := x) e
  exact SeqAt.in_listAt f (zL ho) (λ y hy => hf y hy _ _ _) ⟨S, R, by rw [hany]; exact h⟩
theorem cmp_neNil {a b : Addr} {vs : List Value} {Φ : Value -> St -> Prop} (hu : A.units < cLine) (ha : S.H a = some (.list vs)) (hb : S.H b = some (.list [])) (h : Φ (.bool (!vs.isEmpty)) S) : yL X A L .NotEq (.ref a) (.ref b) S Φ := by
  intro c d hc hd C s hB R
  rw [zC hc, zC hd]
  obtain ⟨items, ep, ho, e⟩ := R.list ha
  obtain ⟨items2, ep2, ho2, e2⟩ := R.list hb
  have h2 := zP e2
  show wpAny _ A (richCompare .NotEq (.ref a) (.ref b)) _ _ s
  cases vs with
  | nil =>
    refine richCompare_meets_room (op := .NotEq) (zL ho).typeIs (zL ho2).typeIs F.slot_list_ne F.entry_list_ne (F.args_list_ne_2 _ _)
      (SeqAt.list_neAt a b items items2 ep ep2 none none #[] #[] ((zP e).trans h2.symm) (λ o_ => true)) ⟨ho, ho2, λ j h1 o_ => absurd h1 (by have := zP e; simp at this; simp [this]), ?_, ⟨S, R, ?_⟩⟩ hu
    . exact λ x => nomatch x
    . have : items.size = 0 := zP e
      rw [this]; exact h
  | cons v vs =>
    refine richCompare_meets_room (op := .NotEq) (zL ho).typeIs (zL ho2).typeIs F.slot_list_ne F.entry_list_ne (F.args_list_ne_2 _ _)
      (SeqAt.list_ne_lengthsAt a b items items2 ep ep2 none none #[] #[] (by rw [zP e, h2]; rfl)) ⟨ho, ho2, ?_, ⟨S, R, h⟩⟩ hu
    exact λ x => nomatch x
end
theorem mset_hit {m : Str -> Option Value} {x : Str} {v : Value} : zb m x v x = some v := if_pos rfl
theorem yS {m : Str -> Option Value} {x y : Str} {v : Value} {r : Option Value} (h : ¬ y = x) (e : m y = r) : zb m x v y = r := (if_neg h).trans e
theorem zA {H : AH} {a : Addr} {o : AO} : zD H a o a = some o := if_pos rfl
theorem hset_miss {H : AH} {a b : Addr} {o : AO} {r : Option AO} (h : b ≠ a) (e : H b = r) : zD H a o b = r := (if_neg h).trans e
noncomputable def bodyOf (fd : FuncData) : List Stmt := match fd.body with | .stmts b => b | _ => []
def zm (H H' : AH) : Prop := ∀ a o, H a = some o -> H' a = some o
theorem zm.refl (H : AH) : zm H H := λ o_ o_ h => h
theorem zm.trans {H H' H'' : AH} (h : zm H H') (h' : zm H' H'') : zm H H'' := λ a o e => h' _ _ (h _ _ e)
theorem zm.new {H H' : AH} {a : Addr} {o : AO} (h : zm H H') (hn : H' a = none) : zm H (zD H' a o) := λ b o' e => zB hn (h _ _ e)
theorem zm.get {H H' : AH} {a : Addr} {o : AO} (h : zm H H') (e : H a = some o) : H' a = some o := h _ _ e
theorem args4 {cs : List Value} {u v x y : Value} (h : cs.map er = [u, v, x, y]) : ∃ c d e f, cs = [c, d, e, f] /\ True := by
  cases cs with
  | nil => cases h
  | cons c cs => rw [List.map_cons, List.cons.injEq] at h; obtain ⟨d, e, f, rfl, _⟩ := map3 h.2; exact ⟨c, d, e, f, rfl, trivial⟩
theorem args5 {cs : List Value} {u v x y z : Value} (h : cs.map er = [u, v, x, y, z]) : ∃ c d e f g, cs = [c, d, e, f, g] /\ True := by
  cases cs with
  | nil => cases h
  | cons c cs => rw [List.map_cons, List.cons.injEq] at h; obtain ⟨d, e, f, g, rfl, _⟩ := args4 h.2; exact ⟨c, d, e, f, g, rfl, trivial⟩
structure Room (A : Around) (n : Nat) : Prop where
  hh : A.handled = none
  dp : A.depth + n < recursionLimit
  un : A.units + 3 * n + 50 < cLine
theorem Room.deep {A : Around} {n : Nat} {env : Env} (h : Room A (n + 1)) : Room (A.deeper env) n :=
  ⟨h.hh, by have := h.dp; show A.depth + 1 + n < recursionLimit; ac_nf, by have := h.un; show A.units + 3 + 3 * n + 50 < cLine; ac_nf⟩
theorem Room.less {A : Around} {n m : Nat} (h : Room A n) (hm : m <= n) : Room A m := ⟨h.hh, by have := h.dp; ac_nf, by have := h.un; ac_nf⟩
noncomputable def zZ (l : List Str) : List Value := l.map (.str · 0)
noncomputable def qo (l : List Int) : List Value := l.map (.int · 0)
theorem ze (l : List Str) : (zZ l).length = l.length := List.length_map ..
theorem small_nat {p q : Nat} (hp : p < 2 ^ 62) (hq : q < 2 ^ 62) : Builtin.Range.small (p : Int) (q : Int) 1 = true := by
  have e : Builtin.Range.rangeSize (p : Int) (q : Int) 1 = if (p : Int) < q then (q : Int) - p else 0 := rangeSize_one _ _
  unfold Builtin.Range.small Builtin.Range.rangeFitsLong
  rw [e]
  have h1 : (p : Int) < 2 ^ 62 := by exact_mod_cast hp
  have h2 : (q : Int) < 2 ^ 62 := by exact_mod_cast hq
  split <;> simp <;> ac_nf
section
variable {X : Wd} {A : Around} {L : Addr} {S : St} {env : Env}
theorem zj {a : Addr} {l : List Str} {k : Int} {e : Str} {Φ : Value -> St -> Prop} (hl : S.H a = some (.list (zZ l))) (x : Nat) (hk : k = x) (hx : x < 2 ^ 63) (hv : l[x]? = some e) (h : Φ (.str e 0) S) : jJ X A L (.ref a) (.int k 0) S Φ := by
  subst hk
  exact item_list hl (by ac_nf) (by ac_nf) (by show (l.map _)[_]? = _; rw [List.getElem?_map, Int.toNat_natCast, hv]; rfl) h
theorem zh {a : Addr} {vs : List Value} {v : Value} {k : Nat} {Φ : Value -> St -> Prop} (hl : S.H a = some (.list vs)) (hx : k < 2 ^ 63) (hv : vs[k]? = some v) (h : Φ v S) : jJ X A L (.ref a) (.int (k : Int) 0) S Φ :=
  item_list hl (by ac_nf) (by ac_nf) (by rw [Int.toNat_natCast]; exact hv) h
theorem wp_seq {st : Stmt} {rest : List Stmt} {Φ : Flow -> St -> Prop} (Ψ : St -> Prop) (h : Wp X A L (exec st env) S λ f S' => f = .next /\ Ψ S') (k : ∀ S', Ψ S' -> Wp X A L (execs rest env) S' Φ) : Wp X A L (execs (st :: rest) env) S Φ :=
  zM (h.mono λ f S' ⟨e, p⟩ => by subst e; exact zq (k S' p))
theorem cmp_inS {a : Addr} {ss : List Str} {x : Str} {Φ : Value -> St -> Prop} (ha : S.H a = some (.list (zZ ss))) (h : Φ (.bool (ss.contains x)) S) : yL X A L .In (.str x 0) (.ref a) S Φ := cmp_inStrs ha h
theorem cmp_notInS {a : Addr} {ss : List Str} {x : Str} {Φ : Value -> St -> Prop} (ha : S.H a = some (.list (zZ ss))) (h : Φ (.bool (!ss.contains x)) S) : yL X A L .NotIn (.str x 0) (.ref a) S Φ := cmp_notInStrs ha h
theorem wp_cut {st : Stmt} {Φ : Flow -> St -> Prop} (Ψ : St -> Prop) (h : Wp X A L (exec st env) S λ f S' => f = .next /\ Ψ S') (k : ∀ S', Ψ S' -> Φ .next S') : Wp X A L (exec st env) S Φ :=
  h.mono λ f S' ⟨e, p⟩ => by subst e; exact k S' p
theorem yW {e : Expr} {Ψ : Bool -> St -> Prop} (P : Prop) (h : TV X A L e env S λ b S' => S' = S /\ (b = true ↔ P)) (k1 : P -> Ψ true S) (k2 : ¬ P -> Ψ false S) : TV X A L e env S Ψ :=
  Wp.mono h λ b S' ⟨e, q⟩ => by
    subst e
    cases b
    . exact k2 λ p => Bool.noConfusion (q.mpr p)
    . exact k1 (q.mp rfl)
theorem for_rangeN {target : Expr} {body : List Stmt} {r : Addr} {p q : Nat} {Φ : Flow -> St -> Prop} (hh : A.handled = none) (hl : S.H r = some (.range (p : Int) (q : Int) 1)) (hp : p < 2 ^ 62) (hq : q < 2 ^ 62) (I : Nat -> St -> Prop) (h0 : I p S)
    (step : ∀ x S1, p <= x -> x < q -> I x S1 -> qs X A L target env (.int (x : Int) 0) S1 λ S2 => Wp X A L (execs body env) S2 (Turn (I (x + 1)) Φ)) (fin : ∀ S, I (max p q) S -> Φ .next S) : ForE X A L target body env (.ref r) S Φ :=
  for_range hh hl (small_nat hp hq) (λ k S => I (p + k) S) h0 (λ k S1 hk hI => step (p + k) S1 (Nat.le_add_right p k) (Nat.add_lt_of_lt_sub' (by rw [Int.toNat_sub] at hk; exact hk)) hI) (λ S hI => fin S (by
    rw [Int.toNat_sub, Nat.add_comm, Nat.sub_add_eq_max, Nat.max_comm] at hI; exact hI))
end
theorem zY {P : Prop} (h : ¬ P) : (false = true) ↔ P := ⟨λ e => Bool.noConfusion e, λ p => absurd p h⟩
theorem qz {P : Prop} (h : P) : (true = true) ↔ P := ⟨λ o_ => h, λ o_ => rfl⟩
theorem zN {p : Prop} [Decidable p] {P Q : Prop} (h : p -> P) (h' : ¬ p -> Q) : Ways (decide p) P Q := ⟨λ e => h (of_decide_eq_true e), λ e => h' (of_decide_eq_false e)⟩
theorem zI {P Q : Prop} (h : Q) : Ways false P Q := ⟨λ e => Bool.noConfusion e, λ o_ => h⟩
theorem zV {P Q : Prop} (h : P) : Ways true P Q := ⟨λ o_ => h, λ e => Bool.noConfusion e⟩
theorem qN {α : Type} [BEq α] [LawfulBEq α] {x y : α} {P Q : Prop} (h : x = y -> P) (h' : x ≠ y -> Q) : Ways (x == y) P Q := ⟨λ e => h (eq_of_beq e), λ e => h' (λ q => by rw [q, beq_self_eq_true] at e; cases e)⟩
theorem ways_not {b : Bool} {P Q : Prop} (h : Ways b Q P) : Ways (!b) P Q := by
  cases b
  . exact ⟨λ o_ => h.2 rfl, λ e => Bool.noConfusion e⟩
  . exact ⟨λ e => Bool.noConfusion e, λ o_ => h.1 rfl⟩
theorem qO {b : Bool} {P Q : Prop} (h : b = true -> P) (h' : b = false -> Q) : Ways b P Q := ⟨h, h'⟩
section
variable {X : Wd} {A : Around} {L : Addr} {S : St} {env : Env} {C : Cx} {s : Shared}
theorem ev_cell {x : Str} {pos : Pos} {c : Addr} {v : Value} {Φ : Value -> St -> Prop} (hc : env.cells.lookup x = some c) (hv : S.H c = some (.cell (some v))) (h : Φ v S)
    (hl : true = qk .cell env x := by with_unfolding_all rfl) : EV X A L (eval (.Name x pos) env) S Φ := λ C s hB R => by
  obtain ⟨hk, hl, hd⟩ := qg hl
  obtain ⟨ob, ho, w, hd', e⟩ := R.get hv
  obtain ⟨c', rfl, rfl⟩ := Option.map_eq_some_iff.mp e
  exact wpAny_Name (wpAny_loadName_cell hk hl hc ⟨ob, ho, hd'⟩ ⟨S, R, h⟩) hd
theorem wp_storeCell {x : Str} {c : Addr} {d v : Value} {v0z : Option Value} {Φ : Unit -> St -> Prop} (hc : env.cells.lookup x = some c) (hv : S.H c = some (.cell v0z)) (hd : er d = v) (h : Φ () { S with H := zD S.H c (.cell (some v)) })
    (hk : env.scope.kind = .function := by rfl) (hl : env.kindOf x = some .cell := by rfl) : Wp X A L (storeName env x d) S Φ := λ C s hB R => by
  obtain ⟨ob, ho, w, hd', e⟩ := R.get hv
  refine wpAny_storeName_cell hk hl hc ⟨ob, ho, hd'⟩ λ h' ⟨ob', ho', hd''⟩ hs => ⟨_, R.turn hv (λ b o hb q => (hs.2 b hb).trans q) (o := .cell (some v)) ⟨ob', ho', _, hd'', by rw [Option.map_some, hd]⟩ rfl rfl, h⟩
theorem qV {x : Str} {px : Pos} {c : Addr} {u : Value} {v0z : Option Value} {Ψ : St -> Prop} (hc : env.cells.lookup x = some c) (hv : S.H c = some (.cell v0z)) (h : Ψ { S with H := zD S.H c (.cell (some u)) })
    (hl : true = qk .cell env x := by with_unfolding_all rfl) : qs X A L (.Name x px) env u S Ψ := λ d hd C s hB R =>
  have ⟨hk, hl, _⟩ := qg hl
  wpAny_assign_Name (wp_storeCell (Φ := λ o_ => Ψ) hc hv hd h hk hl C s hB R)
def TestsE (X : Wd) (A : Around) (L : Addr) (ifs : List Expr) (env : Env) (S : St) (Φ : Bool -> St -> Prop) : Prop := match ifs with
  | [] => Φ true S
  | c :: _ => TV X A L c env S Φ
inductive CompE (X : Wd) (A : Around) (target elt : Expr) (ifs : List Expr) (env' : Addr -> Env) (L : Addr) (v : Value) (S : St) (Φ : List Value -> AH -> Prop) : Prop
  | mk (n : Nat) (src : AH -> Prop) (Y : Nat -> Value -> St -> St -> Prop) (I : Nat -> List Value -> AH -> Prop) (hit : IterE X A L target v S n src Y) (hn : n <= sizeLine) (h0 : I 0 [] S.H) (hsrc : ∀ k acc H, I k acc H -> src H)
   (step : ∀ L' k acc m H u S1, k < n -> I k acc H -> Y k u ⟨m, H⟩ S1 -> qs X A L' target (env' L') u S1 λ S2 => TestsE X A L' ifs (env' L') S2 λ b S3 => Ways b (EV X A L' (eval elt (env' L')) S3 λ v S4z => I (k + 1) (acc ++ [v]) S4z.H) (I (k + 1) acc S3.H))
   (fin : ∀ acc H, I n acc H -> Φ acc H)
inductive CompAt (X : Wd) (C : Cx) (L' D : Addr) (fp : List Addr) (At : Nat -> Heap -> Prop) (I : Nat -> List Value -> AH -> Prop) (k : Nat) (s : Shared) : Prop
  | mk (acc : List Value) (m : Str -> Option Value) (H : AH) (ys : Array Value) (R : Rep X C L' ⟨m, H⟩ s) (hd : jK C ⟨m, H⟩ L' (D :: fp)) (hat : At k s.heap) (hpl : s.heap.PlainList D ys) (e : ys.toList.map er = acc) (len : acc.length <= k) (hI : I k acc H)
inductive CompNext (X : Wd) (C : Cx) (L' D : Addr) (fp : List Addr) (At : Heap -> Prop) (Y : St -> St -> Prop) (I : List Value -> AH -> Prop) (k : Nat) (s2z : Shared) : Prop
  | mk (acc : List Value) (m : Str -> Option Value) (H : AH) (S2 : St) (ys : Array Value) (hI : I acc H) (len : acc.length <= k) (hY : Y ⟨m, H⟩ S2) (R : Rep X C L' S2 s2z) (hd : jK C S2 L' (D :: fp)) (hat : At s2z.heap) (hpl : s2z.heap.PlainList D ys) (e : ys.toList.map er = acc)
theorem comp_step {target : Expr} {it : Value} {fp : List Addr} {n : Nat} {src : AH -> Prop} {At : Nat -> Heap -> Prop} {Y : Nat -> Value -> St -> St -> Prop} {L' D : Addr} {I : Nat -> List Value -> AH -> Prop} {k : Nat}
    (W : Walk X A target it fp n src At Y) (hD : D ∉ fp) (hk : k < n) (hn : n <= sizeLine) (hB : X.le C) (hc : CompAt X C L' D fp At I k s) (hsrc : ∀ k acc H, I k acc H -> src H) :
    wpAny (model X.prog X.w) A (pyNext it) (λ r s1z => ∃ x, r = some x /\ wpAny (model X.prog X.w) A (letOwnedTupleGo target it x) (λ o_ s2z => CompNext X C L' D fp (At (k + 1)) (Y k (er x)) (I k) k s2z) Fa s1z) Fa s := by
  obtain ⟨acc, m, H, ys, R, hd, hat, hpl, hacc, hlen, hI⟩ := hc
  have hdD : jK C ⟨m, H⟩ L' [D] := λ b hb => hd b (by rw [List.mem_singleton.mp hb]; exact List.mem_cons_self)
  have R1z := R.freeze hdD
  have hd1z : jK (C.over [D] s.heap) ⟨m, H⟩ L' fp := λ b hb => by
    have := hd b (List.mem_cons_of_mem _ hb)
    refine ⟨?_, this.2⟩
    rw [Cx.over_none this.1, if_neg (λ h => hD (by rw [<- List.mem_singleton.mp h]; exact hb))]
  refine wpAny_mono (W.item k hk L' _ _ s (Wd.le_over hB) R1z hd1z (hsrc _ _ _ hI) hat) (λ r s1z ⟨x, hr, hx⟩ => ⟨x, hr, ?_⟩) λ o_ o_ x => x.elim
  refine wpAny_mono hx (λ o_ s2z ⟨S2, R2z, hd2z, hY, hat2⟩ => ?_) λ o_ o_ x => x.elim
  have bk := hdD.back (s := s) (λ b hb => by obtain ⟨ep, ho⟩ := hpl; rw [List.mem_singleton.mp hb]; exact ⟨_, ho⟩) R2z
  refine ⟨acc, m, H, S2, ys, hI, hlen, hY, R2z.thaw (λ b o e => Cx.over_some e) rfl, λ b hb => ?_, hat2, hpl.at λ o e => bk.2 D (List.mem_singleton.mpr rfl) o e, hacc⟩
  rcases List.mem_cons.mp hb with rfl | hb
  . exact bk.1 _ (List.mem_singleton.mpr rfl)
  . have := hd2z b hb
    exact ⟨(hd b (List.mem_cons_of_mem _ hb)).1, this.2⟩
end
section
variable {X : Wd} {A : Around} {L : Addr} {S : St} {env : Env} {C : Cx} {s : Shared}
theorem comp_push {fp : List Addr} {At : Nat -> Heap -> Prop} {L' D : Addr} {I : Nat -> List Value -> AH -> Prop} {k : Nat} {S4z : St} {acc : List Value} {ys : Array Value} {c : Value} {Q : Value -> Shared -> Prop}
    (keeps : ∀ k h h', At k h -> (∀ b ∈ fp, ∀ o, h.get? b = some o -> h'.get? b = some o) -> At k h') (hD : D ∉ fp)
    (R : Rep X C L' S4z s) (hd : jK C S4z L' (D :: fp)) (hat : At (k + 1) s.heap) (hpl : s.heap.PlainList D ys) (hacc : ys.toList.map er = acc) (hlen : acc.length <= k) (hk : k <= sizeLine) (hI : I (k + 1) (acc ++ [er c]) S4z.H)
    (h : ∀ v s', CompAt X C L' D fp At I (k + 1) s' -> Q v s') : wpAny (model X.prog X.w) A (call (.builtin "list.append") [.ref D, c]) Q Fa s := by
  refine wpAny_list_append_plain hpl (λ h' hpl' hs => h _ _ ⟨acc ++ [er c], S4z.m, S4z.H, _, ?_, hd, ?_, hpl', ?_, ?_, hI⟩) ?_
  . have hdD : jK C S4z L' [D] := λ b hb => hd b (by rw [List.mem_singleton.mp hb]; exact List.mem_cons_self)
    exact R.hid hdD (λ b o hb q => (hs.2 b (λ z => hb (List.mem_singleton.mpr z))).trans q) rfl rfl
  . exact keeps _ _ _ hat λ b hb o q => (hs.2 b (λ z => hD (by rw [<- z]; exact hb))).trans q
  . rw [Array.toList_push, List.map_append, hacc]; rfl
  . rw [List.length_append]; simp; ac_nf
  . have : ys.size = acc.length := by rw [<- hacc, List.length_map, Array.length_toList]
    ac_nf
inductive CompEnd (X : Wd) (C : Cx) (L' D : Addr) (I : Nat -> List Value -> AH -> Prop) (k : Nat) (s : Shared) : Prop
  | mk (acc : List Value) (m : Str -> Option Value) (H : AH) (ys : Array Value) (R : Rep X C L' ⟨m, H⟩ s) (hd : jK C ⟨m, H⟩ L' [D]) (hpl : s.heap.PlainList D ys) (e : ys.toList.map er = acc) (len : acc.length <= k) (hI : I k acc H)
def CompStep (X : Wd) (A : Around) (target elt : Expr) (ifs : List Expr) (env' : Env) (L' : Addr) (n : Nat) (Y : Nat -> Value -> St -> St -> Prop) (I : Nat -> List Value -> AH -> Prop) : Prop :=
  ∀ k acc m H u S1, k < n -> I k acc H -> Y k u ⟨m, H⟩ S1 -> qs X A L' target env' u S1 λ S2 => TestsE X A L' ifs env' S2 λ b S3 => Ways b (EV X A L' (eval elt env') S3 λ v S4z => I (k + 1) (acc ++ [v]) S4z.H) (I (k + 1) acc S3.H)
inductive CompAtN (X : Wd) (C : Cx) (L' D : Addr) (fp : List Addr) (At : Nat -> Heap -> Prop) (I : Nat -> List Value -> AH -> Prop) (n m : Nat) (s : Shared) : Prop
  | mk (k : Nat) (e : k + m = n) (h : CompAt X C L' D fp At I k s)
theorem comp_live {fp : List Addr} {D : Addr} {At : Nat -> Heap -> Prop} {k : Nat} {ys : Array Value} {h : Heap} (lives : ∀ k h, At k h -> ∀ b ∈ fp, ∃ o, h.get? b = some o) (hat : At k h) (hpl : h.PlainList D ys) : ∀ b ∈ D :: fp, ∃ o, h.get? b = some o := λ b hb => by
  rcases List.mem_cons.mp hb with rfl | hb
  . obtain ⟨ep, ho⟩ := hpl; exact ⟨_, ho⟩
  . exact lives _ _ hat b hb
theorem comp_loop {target elt iter : Expr} {ifs : List Expr} {scope : Scope} {pos : Pos} {env' : Env} {it : Value} {fp : List Addr} {n : Nat} {src : AH -> Prop} {At : Nat -> Heap -> Prop} {Y : Nat -> Value -> St -> St -> Prop} {L' D : Addr} {I : Nat -> List Value -> AH -> Prop} {R : Result -> Shared -> Prop}
    (W : Walk X A target it fp n src At Y) (hD : D ∉ fp) (hn : n <= sizeLine) (hB : X.le C) (hsrc : ∀ k acc H, I k acc H -> src H) (step : CompStep X A target elt ifs env' L' n Y I)
    (hifs : ifs = [] \/ ∃ c, ifs = [c]) (h : ∀ s', CompEnd X C L' D I n s' -> R (.ok .next) s') (h0 : CompAt X C L' D fp At I 0 s) : codeAny (model X.prog X.w) A (.compLoop (.ListComp elt [⟨target, iter, ifs, 0⟩] scope pos) 0 it (.ref D) env') R s := by
  have fin : ∀ s, CompAt X C L' D fp At I n s -> ∀ (Q : Option Value -> Shared -> Prop), (∀ s', CompEnd X C L' D I n s' -> Q none s') -> wpAny (model X.prog X.w) A (pyNext it) Q Fa s := by
    intro s hc Q hQ
    obtain ⟨acc, m, H, ys, R, hd, hat, hpl, hacc, hlen, hI⟩ := hc
    have hdD : jK C ⟨m, H⟩ L' (D :: fp) := hd
    have hd1z : jK (C.over [D] s.heap) ⟨m, H⟩ L' fp := λ b hb => by
      have := hd b (List.mem_cons_of_mem _ hb)
      refine ⟨?_, this.2⟩
      rw [Cx.over_none this.1, if_neg (λ h => hD (by rw [<- List.mem_singleton.mp h]; exact hb))]
    have hd1 : jK C ⟨m, H⟩ L' [D] := λ b hb => hd b (by rw [List.mem_singleton.mp hb]; exact List.mem_cons_self)
    have R1z := R.freeze hd1
    refine wpAny_mono (W.done L' _ _ s (Wd.le_over hB) R1z hd1z (hsrc _ _ _ hI) hat) (λ r s1z ⟨hr, R2z⟩ => ?_) λ o_ o_ x => x.elim
    subst hr
    have bk := hd1.back (s := s) (λ b hb => by obtain ⟨ep, ho⟩ := hpl; rw [List.mem_singleton.mp hb]; exact ⟨_, ho⟩) R2z
    exact hQ _ ⟨acc, m, H, ys, R2z.thaw (λ b o e => Cx.over_some e) rfl, bk.1, hpl.at λ o e => bk.2 D (List.mem_singleton.mpr rfl) o e, hacc, hlen, hI⟩
  have push : ∀ {m' k} {acc : List Value} {ys : Array Value} {S2 S4z : St} {s2z s4z : Shared} {c : Value}, k < n -> k + 1 + m' = n -> acc.length <= k -> jK C S2 L' (D :: fp) -> At (k + 1) s2z.heap -> s2z.heap.PlainList D ys -> ys.toList.map er = acc -> Rep X (C.over (D :: fp) s2z.heap) L' S4z s4z -> I (k + 1) (acc ++ [er c]) S4z.H ->
      wpAny (model X.prog X.w) A (call (.builtin "list.append") [.ref D, c]) (λ o_ s' => CompAtN X C L' D fp At I n m' s') Fa s4z := by
    intro m' k acc ys S2 S4z s2z s4z c hk e' hlen hd2z hat2 hpl2 hacc2 R4 h4z
    have bk := hd2z.back (comp_live W.lives hat2 hpl2) R4
    exact comp_push W.keeps hD (R4.thaw (λ b o e => Cx.over_some e) rfl) bk.1 (W.keeps _ _ _ hat2 λ b hb o q => bk.2 b (List.mem_cons_of_mem _ hb) o q)
      (hpl2.at λ o e => bk.2 D List.mem_cons_self o e) hacc2 hlen (Nat.le_trans (Nat.le_of_lt hk) hn) h4z λ v s' hc' => ⟨k + 1, e', hc'⟩
  have last : ∀ s, CompAt X C L' D fp At I n s -> wpAny (model X.prog X.w) A (pyNext it) (λ r s1z => r = none /\ R (.ok .next) s1z) Fa s := λ s hc => fin s hc _ λ s' hc' => ⟨rfl, h s' hc'⟩
  rcases hifs with rfl | ⟨c, rfl⟩
  . refine kcp_loop (CompAtN X C L' D fp At I n) (λ mz s ⟨k, hkm, hc⟩ => ?_) n ⟨0, Nat.zero_add n, h0⟩
    by_cases hk : k < n
    . obtain ⟨m', hm, e'⟩ := loop_step hkm hk
      refine wpAny_mono (comp_step W hD hk hn hB hc hsrc) (λ r s1z ⟨x, hr, hx⟩ => ?_) λ o_ o_ x => x.elim
      subst hr
      refine wpAny_mono hx (λ o_ s2z ⟨acc, m, H, S2, ys, hI, hlen, hY, R2z, hd2z, hat2, hpl2, hacc2⟩ => ?_) λ o_ o_ x => x.elim
      refine Wp.thenE (Wd.le_over hB) (R2z.freeze hd2z) (step k acc m H (er x) S2 hk hI hY x rfl) λ o_ S3 s3z R3z h3z => ?_
      refine Wp.thenE (Wd.le_over hB) R3z (h3z.1 rfl) λ c S4z s4z R4 h4z => ?_
      exact wpAny_mono (push hk e' hlen hd2z hat2 hpl2 hacc2 R4 h4z) (λ o_ o_ z => ⟨m', hm, z⟩) λ o_ o_ x => x.elim
    . obtain rfl := loop_end hkm hk
      exact wpAny_mono (last s hc) (λ r s1z ⟨hr, hR⟩ => by subst hr; exact hR) λ o_ o_ x => x.elim
  . refine kct_loop (CompAtN X C L' D fp At I n) (λ mz s ⟨k, hkm, hc⟩ => ?_) n ⟨0, Nat.zero_add n, h0⟩
    by_cases hk : k < n
    . obtain ⟨m', hm, e'⟩ := loop_step hkm hk
      refine wpAny_mono (comp_step W hD hk hn hB hc hsrc) (λ r s1z ⟨x, hr, hx⟩ => ?_) λ o_ o_ x => x.elim
      subst hr
      refine wpAny_mono hx (λ o_ s2z ⟨acc, m, H, S2, ys, hI, hlen, hY, R2z, hd2z, hat2, hpl2, hacc2⟩ => ?_) λ o_ o_ x => x.elim
      refine Wp.thenE (Wd.le_over hB) (R2z.freeze hd2z) (step k acc m H (er x) S2 hk hI hY x rfl) λ o_ S3 s3z R3z h3z => ?_
      refine Wp.thenE (Wd.le_over hB) R3z h3z λ ok S3' s3' R3' h3'z => ?_
      cases ok with
      | true =>
        rw [if_pos rfl]
        refine Wp.thenE (Wd.le_over hB) R3' (h3'z.1 rfl) λ c S4z s4z R4 h4z => ?_
        exact wpAny_mono (push hk e' hlen hd2z hat2 hpl2 hacc2 R4 h4z) (λ o_ o_ z => ⟨m', hm, z⟩) λ o_ o_ x => x.elim
      | false =>
        rw [if_neg (by decide)]
        have bk := hd2z.back (comp_live W.lives hat2 hpl2) R3'
        exact ⟨m', hm, k + 1, e', acc, S3'.m, S3'.H, ys, R3'.thaw (λ b o e => Cx.over_some e) rfl, bk.1, W.keeps _ _ _ hat2 λ b hb o q => bk.2 b (List.mem_cons_of_mem _ hb) o q,
          hpl2.at λ o e => bk.2 D List.mem_cons_self o e, hacc2, Nat.le_succ_of_le hlen, h3'z.2 rfl⟩
    . obtain rfl := loop_end hkm hk
      exact wpAny_mono (last s hc) (λ r s1z ⟨hr, hR⟩ => by subst hr; exact hR) λ o_ o_ x => x.elim
theorem comp_block {target elt iter : Expr} {ifs : List Expr} {scope : Scope} {pos : Pos} {cl : List (Str × Addr)} {it : Value} {fp : List Addr} {n : Nat} {src : AH -> Prop} {At : Nat -> Heap -> Prop} {Y : Nat -> Value -> St -> St -> Prop} {I : Nat -> List Value -> AH -> Prop} {RR : Value -> Env -> Result -> Shared -> Prop}
    (W : Walk X A target it fp n src At Y) (hn : n <= sizeLine) (hB : X.le C) (R : Rep X C L S s) (hd : jK C S L fp) (hat : At 0 s.heap) (hI : I 0 [] S.H) (hsrc : ∀ k acc H, I k acc H -> src H)
    (step : ∀ L', S.H L' = none -> CompStep X A target elt ifs (compEnvC scope cl L' env) L' n Y I) (hifs : ifs = [] \/ ∃ c, ifs = [c]) (hcell : ∀ y ∈ scope.names, y.2 ≠ .cell) (hkind : scope.kind = .function)
    (h : ∀ D L' acc H s', D ≠ L' -> jK C ⟨S.m, H⟩ L [D, L'] -> Rep X C L ⟨S.m, H⟩ s' -> (∃ ys, s'.heap.PlainList D ys /\ ys.toList.map er = acc) -> (∃ m, s'.heap.Ns L' m) -> acc.length <= n -> I n acc H -> RR (.ref D) (compEnvC scope cl L' env) (.ok .next) s') :
    wpAny (model X.prog X.w) A (newList []) (λ acc s3z => wpAny (model X.prog X.w) A (newFunctionEnv scope env.globals cl [] env.qual none .none (some env)) (λ cenv s4z =>
      codeAny (model X.prog X.w) A (.compStart (.ListComp elt [⟨target, iter, ifs, 0⟩] scope pos) 0 it acc { cenv with scope := relabel scope env }) (RR acc { cenv with scope := relabel scope env }) s4z) Fa s3z) Fa s := by
  have frD := R.fresh (zJ s.heap)
  refine wpAny_newList ?_
  have hDf : s.heap.objs.size ∉ fp := λ hm => by
    obtain ⟨o, ho⟩ := W.lives _ _ hat _ hm
    exact Nat.lt_irrefl _ (Heap.lt_size ho)
  have k1 : ∀ b o, s.heap.get? b = some o -> (s.heap.push { cls := .type "list", data := .seq ([] : List Value).toArray }).get? b = some o := λ b o e => Heap.get?_push_of_some _ e
  have R1z : Rep X C L S { s with heap := s.heap.push { cls := .type "list", data := .seq ([] : List Value).toArray } } := R.ext k1 rfl rfl
  have hplD : (s.heap.push { cls := .type "list", data := .seq ([] : List Value).toArray }).PlainList s.heap.objs.size #[] := ⟨_, Heap.get?_push_size _ rfl⟩
  generalize hs1z : ({ s with heap := s.heap.push { cls := .type "list", data := .seq ([] : List Value).toArray } } : Shared) = s1z at R1z ⊢
  have hh1 : s1z.heap = s.heap.push { cls := .type "list", data := .seq ([] : List Value).toArray } := by rw [<- hs1z]
  rw [<- hh1] at hplD k1
  have frL := R1z.fresh (zJ s1z.heap)
  have hDL : s.heap.objs.size ≠ s1z.heap.objs.size := by obtain ⟨ep, ho⟩ := hplD; exact Nat.ne_of_lt (Heap.lt_size ho)
  refine wpAny_newFunctionEnv hcell (by intro y hy; cases hy) (λ h₁ hns hsb => ?_) hkind
  have k2 : ∀ b o, s1z.heap.get? b = some o -> h₁.get? b = some o := λ b o e => hsb.extBut b o (Nat.ne_of_lt (Heap.lt_size e)) (Heap.get?_push_of_some _ e)
  have Rn := R1z.enter (tk := s1z.toks + ([] : List (Str × Value)).length) (m := λ o_ => none) hns (λ y => rfl) k2
  have hB' := Wd.le_enter hB R1z
  have hfl : ∀ b ∈ fp, b ≠ s1z.heap.objs.size := λ b hb q => by
    obtain ⟨o, ho⟩ := W.lives _ _ hat b hb
    exact absurd (Heap.lt_size (k1 _ _ ho)) (by rw [q]; exact Nat.lt_irrefl _)
  have hidn : jK { C with B := λ b => if b = L then s1z.heap.get? L else C.B b } ⟨λ o_ => none, S.H⟩ s1z.heap.objs.size (s.heap.objs.size :: fp) := λ b hb => by
    rcases List.mem_cons.mp hb with rfl | hb
    . exact ⟨by show (if _ = L then _ else _) = none; rw [if_neg frD.2.2]; exact frD.1, frD.2.1, hDL⟩
    . exact ⟨by show (if _ = L then _ else _) = none; rw [if_neg (hd b hb).2.2]; exact (hd b hb).1, (hd b hb).2.1, hfl b hb⟩
  have end_ : ∀ s', CompEnd X { C with B := λ b => if b = L then s1z.heap.get? L else C.B b } s1z.heap.objs.size s.heap.objs.size I n s' -> RR (.ref s.heap.objs.size) (compEnvC scope cl s1z.heap.objs.size env) (.ok .next) s' := by
    rintro s' ⟨acc, m, H, ys, R', hd', hpl', hacc', hlen', hI'⟩
    have R'' := R1z.leave R'
    obtain ⟨mc, hmc, _⟩ := R'.ns
    refine h _ _ acc H s' hDL (λ b hb => ?_) R'' ⟨ys, hpl', hacc'⟩ ⟨mc, hmc⟩ hlen' hI'
    rcases List.mem_cons.mp hb with rfl | hb
    . exact ⟨frD.1, (hd' _ (List.mem_singleton.mpr rfl)).2.1, frD.2.2⟩
    . rw [List.mem_singleton.mp hb]; exact ⟨frL.1, R'.nsH, frL.2.2⟩
  have loop : codeAny (model X.prog X.w) A (.compLoop (.ListComp elt [⟨target, iter, ifs, 0⟩] scope pos) 0 it (.ref s.heap.objs.size) (compEnvC scope cl s1z.heap.objs.size env)) (RR (.ref s.heap.objs.size) (compEnvC scope cl s1z.heap.objs.size env)) { s1z with heap := h₁, toks := s1z.toks + ([] : List (Str × Value)).length } :=
    comp_loop W hDf hn hB' hsrc (step _ frL.2.1) hifs end_ ⟨[], λ o_ => none, S.H, #[], Rn, hidn, W.keeps _ _ _ hat λ b hb o e => k2 _ _ (k1 _ _ e), hplD.at λ o e => k2 _ _ e, rfl, Nat.zero_le _, hI⟩
  refine codeAny_compStart_list loop (W.self 0 _ _ _ (W.keeps _ _ _ hat λ b hb o e => k2 _ _ (k1 _ _ e)) loop)
end
section
variable {X : Wd} {A : Around} {L : Addr} {S : St} {env : Env} {C : Cx} {s : Shared}
inductive CompOn (X : Wd) (A : Around) (L : Addr) (target elt : Expr) (ifs : List Expr) (scope : Scope) (cl : List (Str × Addr)) (env : Env) (v : Value) (S : St) (Φ : Value -> St -> Prop) : Prop
  | mk (n : Nat) (src : AH -> Prop) (Y : Nat -> Value -> St -> St -> Prop) (I : Nat -> List Value -> AH -> Prop) (hit : IterE X A L target v S n src Y) (hn : n <= sizeLine) (h0 : I 0 [] S.H) (hsrc : ∀ k acc H, I k acc H -> src H)
    (step : ∀ L', S.H L' = none -> CompStep X A target elt ifs (compEnvC scope cl L' env) L' n Y I) (fin : ∀ acc H, acc.length <= n -> I n acc H -> New ⟨S.m, H⟩ (.list acc) Φ)
theorem ev_ListComp {target elt iter : Expr} {ifs : List Expr} {scope : Scope} {pos : Pos} (cl : List (Str × Addr)) {Φ : Value -> St -> Prop} (h : EV X A L (eval iter env) S λ v S1 => CompOn X A L target elt ifs scope cl env v S1 Φ)
    (hifs : ifs = [] \/ ∃ c, ifs = [c]) (hclos : closureFor scope env = pure cl := by rfl) (hcell : ∀ y ∈ scope.names, y.2 ≠ .cell := by decide) (hkind : scope.kind = .function := by rfl)
    (hnames : ∀ x ∈ scope.names, x.2 = .local -> scope.names.lookup x.1 = some .local := by decide) (hs : ∀ x, foldedSetIterable iter env x = pure x := by intro _; rfl) :
    EV X A L (eval (.ListComp elt [⟨target, iter, ifs, 0⟩] scope pos) env) S Φ := λ C s hB R => by
  rw [eval_ListComp]
  refine wpAny_comprehension_free rfl hs hclos hkind hnames (h.then hB R λ c S1 s1z R1z ⟨n, src, Y, I, hit, hn, h0, hsrc, step, fin⟩ => ?_)
  refine wpAny_mono (hit c rfl C s1z hB R1z) (λ it s2z ⟨fp, At, W, hd, hat, R2z⟩ => ?_) λ o_ o_ x => x.elim
  refine comp_block (RR := λ acc cenv r s' => compPost (model X.prog X.w) A Fa none (λ a => Got X C L (Φ (er a))) acc cenv.locals r s') W hn hB R2z hd hat h0 hsrc step hifs hcell hkind ?_
  intro D L' acc H s' hDL hid R' ⟨ys, ⟨ep, hpl⟩, hacc⟩ ⟨m, hm⟩ hlen hI
  refine ⟨m, hm, λ h' hs' => ⟨_, ?_, fin acc H hlen hI D (hid D List.mem_cons_self).2.1⟩⟩
  have hL' : jK C ⟨S1.m, H⟩ L [L'] := λ b hb => hid b (by rw [List.mem_singleton.mp hb]; exact List.mem_cons_of_mem _ List.mem_cons_self)
  have R'' : Rep X C L ⟨S1.m, H⟩ { s' with heap := h' } := R'.hid hL' (λ b o hb q => (hs'.2 b (λ z => hb (List.mem_singleton.mpr z))).trans q) rfl rfl
  have hD := hid D List.mem_cons_self
  exact R''.put (λ b o o_ q => q) hD.1 hD.2.2 (o := .list acc) ⟨_, (hs'.2 D hDL).trans hpl, _, _, rfl, hacc⟩ rfl rfl
theorem ex_AssignComp {x : Str} {px : Pos} {target elt iter : Expr} {ifs : List Expr} {scope : Scope} {pos spos : Pos} (cl : List (Str × Addr)) {Φ : Flow -> St -> Prop}
    (h : EV X A L (eval iter env) S λ v S1 => CompOn X A L target elt ifs scope cl env v S1 λ r S2 => Φ .next { S2 with m := zb S2.m x r })
    (hifs : ifs = [] \/ ∃ c, ifs = [c]) (hsw : swapsWith (.ListComp elt [⟨target, iter, ifs, 0⟩] scope pos) (some (.Name x px)) spos.line env = pure true := by rfl)
    (hclos : closureFor scope env = pure cl := by rfl) (hcell : ∀ y ∈ scope.names, y.2 ≠ .cell := by decide) (hkind : scope.kind = .function := by rfl)
    (hnames : ∀ x ∈ scope.names, x.2 = .local -> scope.names.lookup x.1 = some .local := by decide) (hs : ∀ x, foldedSetIterable iter env x = pure x := by intro _; rfl)
    (hl : env.kindOf x = some .local := by rfl) (hL : env.locals = L := by rfl) (hp : (env.scope.kind == .class || (env.scope.kind == .module && env.locals != env.globals)) = false := by rfl) :
    Wp X A L (exec (.Assign [.Name x px] (.ListComp elt [⟨target, iter, ifs, 0⟩] scope pos) spos) env) S Φ := λ C s hB R => by
  rw [exec_Assign_Name_used _ _ _ _ hsw]
  refine wpAny_bind (wpAny_standAt (wpAny_bind ?_))
  show wpAny _ A (do let _ <- comprehension (.ListComp elt [⟨target, iter, ifs, 0⟩] scope pos) scope env _ (newList []) false (eval iter env) (some (assign (.Name x px) env))) _ _ s
  refine wpAny_bind (wpAny_mono (wpAny_comprehension_free (use := some (assign (.Name x px) env)) (Q := λ o_ => Got X C L (Φ .next)) rfl hs hclos hkind hnames
    (h.then hB R λ c S1 s1z R1z ⟨n, src, Y, I, hit, hn, h0, hsrc, step, fin⟩ => ?_)) (λ o_ s' hq => wpAny_pure (wpAny_pure hq)) λ o_ o_ e => e)
  refine wpAny_mono (hit c rfl C s1z hB R1z) (λ it s2z ⟨fp, At, W, hd, hat, R2z⟩ => ?_) λ o_ o_ x => x.elim
  refine comp_block (RR := λ acc cenv r s' => compPost (model X.prog X.w) A Fa (some (assign (.Name x px) env)) (λ o_ => Got X C L (Φ .next)) acc cenv.locals r s') W hn hB R2z hd hat h0 hsrc step hifs hcell hkind ?_
  intro D L' acc H s' hDL hid R' ⟨ys, ⟨ep, hpl⟩, hacc⟩ ⟨m, hm⟩ hlen hI
  show wpAny _ A (assign (.Name x px) env (.ref D)) _ _ s'
  have hD := hid D List.mem_cons_self
  have hL'0 := hid L' (List.mem_cons_of_mem _ List.mem_cons_self)
  have R'' : Rep X C L ⟨S1.m, zD H D (.list acc)⟩ s' := R'.put (λ b o o_ q => q) hD.1 hD.2.2 (o := .list acc) ⟨_, hpl, _, _, rfl, hacc⟩ rfl rfl
  have hidL : jK C ⟨S1.m, zD H D (.list acc)⟩ L [L'] := λ b hb => by
    rw [List.mem_singleton.mp hb]
    exact ⟨hL'0.1, by show zD H D _ L' = none; rw [zE _ (Ne.symm hDL)]; exact hL'0.2.1, hL'0.2.2⟩
  have live : ∀ b ∈ [L'], ∃ o, s'.heap.get? b = some o := λ b hb => by
    obtain ⟨o, es, ep, ho, r⟩ := hm
    rw [List.mem_singleton.mp hb]; exact ⟨o, ho⟩
  have asg : qs X A L (.Name x px) env (.ref D) ⟨S1.m, zD H D (.list acc)⟩ (λ S' => Φ .next S') := (λ c hc C s hB R => wpAny_assign_Name (wp_store (Φ := λ o_ S' => Φ .next S') hc (fin acc H hlen hI D hD.2.1) hl hL hp C s hB R))
  refine Wp.thenE (Wd.le_over hB) (R''.freeze hidL) (asg (.ref D) rfl) λ o_ S'' s'' R3 h3 => ?_
  have bk := hidL.back live R3
  obtain ⟨o, es, ep, ho, r⟩ := hm
  refine ⟨m, ⟨o, es, ep, bk.2 L' (List.mem_singleton.mpr rfl) o ho, r⟩, λ h' hs' => ⟨S'', ?_, h3⟩⟩
  exact (R3.thaw (λ b o e => Cx.over_some e) rfl).hid bk.1 (λ b o hb q => (hs'.2 b (λ z => hb (List.mem_singleton.mpr z))).trans q) rfl rfl
theorem tests_no {Φ : Bool -> St -> Prop} (h : Φ true S) : TestsE X A L [] env S Φ := h
theorem tests_one {c : Expr} {Φ : Bool -> St -> Prop} (h : TV X A L c env S Φ) : TestsE X A L [c] env S Φ := h
end
section
variable {X : Wd} {A : Around} {L : Addr} {S : St} {env : Env} {C : Cx} {s : Shared}
def PartE (X : Wd) (A : Around) (L : Addr) (x : Option Expr) (env : Env) (S : St) (Ψ : Option Int -> St -> Prop) : Prop := Wp X A L (valueOrNone (evalOpt x env)) S λ c S' => ∃ k, IsPart c k /\ Ψ k S'
theorem part_none {Ψ : Option Int -> St -> Prop} (h : Ψ none S) : PartE X A L none env S Ψ := λ C s hB R => by
  show wpAny _ A (pure Value.none) _ _ s
  exact wpAny_pure ⟨S, R, none, .none, h⟩
theorem part_some {e : Expr} {Ψ : Option Int -> St -> Prop} (h : EV X A L (eval e env) S λ v S1 => ∃ i, v = .int i 0 /\ Ψ (some i) S1) : PartE X A L (some e) env S Ψ := λ C s hB R => by
  show wpAny _ A (eval e env) _ _ s
  refine wpAny_mono (h C s hB R) (λ c s' ⟨S', R', i, hc, p⟩ => ?_) λ o_ o_ x => x
  obtain ⟨t, rfl⟩ := zQ hc
  exact ⟨S', R', some i, .int i t, p⟩
theorem ev_Slice {l u st : Option Expr} {pos : Pos} {Φ : Value -> St -> Prop} (h : PartE X A L l env S λ a S1 => PartE X A L u env S1 λ b S2 => PartE X A L st env S2 λ c S3 => New S3 (.slice a b c) Φ) : EV X A L (eval (.Slice l u st pos) env) S Φ := λ C s hB R => by
  rw [arm_eval_Slice]
  refine wpAny_bind (Wp.then hB R h λ vl S1 s1z R1z ⟨a, ha, h₁⟩ => wpAny_bind (wpAny_holding (Wp.then hB R1z h₁ λ vu S2 s2z R2z ⟨b, hb, h2z⟩ => wpAny_bind (wpAny_holding (Wp.then hB R2z h2z λ vs S3 s3z R3z ⟨c, hc, h3z⟩ => ?_)))))
  exact wpAny_newObj_type ⟨_, R3z.push (o := .slice a b c) rfl ⟨_, _, _, rfl, ha, hb, hc⟩ _, h3z _ (R3z.fresh (zJ _)).2.1⟩
theorem filterMap_er (l : List Nat) (items : Array Value) {vs : List Value} (e : items.toList.map er = vs) : (l.filterMap (items[·]?)).map er = l.filterMap (vs[·]?) := by
  rw [List.map_filterMap]
  congr 1
  funext k
  rw [<- e, List.getElem?_map, Array.getElem?_toList]
noncomputable def pickL (vs : List Value) (lo hi st : Option Int) : List Value := (sliceRange (sliceBounds lo hi st vs.length).1 (sliceBounds lo hi st vs.length).2.1 (sliceBounds lo hi st vs.length).2.2).filterMap (vs[·]?)
theorem jS {items : Array Value} {vs : List Value} (e : items.toList.map er = vs) (lo hi st : Option Int) : (slicePick items lo hi st).toList.map er = pickL vs lo hi st := by
  unfold slicePick pickL
  rw [List.toList_toArray, filterMap_er _ _ e, zP e]
theorem item_listSlice {a sl : Addr} {vs : List Value} {lo hi st : Option Int} {Φ : Value -> St -> Prop} (hl : S.H a = some (.list vs)) (hs : S.H sl = some (.slice lo hi st)) (h0 : st ≠ some 0) (hn : vs.length <= sizeLine) (h : New S (.list (pickL vs lo hi st)) Φ) : jJ X A L (.ref a) (.ref sl) S Φ := by
  intro c d hc hd C s hB R
  rw [zC hc, zC hd]
  obtain ⟨items, ep, ho, e⟩ := R.list hl
  obtain ⟨ob, hos, vl, vu, w, rfl, pl, pu, ps⟩ := R.get hs
  exact ⟨⟨"list", _, slot_list_getitem.lookup, (zL ho).typeIs⟩, wpAny_getItem_list_slice (zL ho) ⟨_, hos, rfl, rfl⟩ pl pu ps h0
    ⟨_, R.push (o := .list (pickL vs lo hi st)) rfl ⟨_, _, rfl, jS e lo hi st⟩ _, h _ (R.fresh (zJ _)).2.1⟩ (by rw [zP e]; exact hn)⟩
theorem pickL_upto (vs : List Value) (b : Nat) : pickL vs none (some (b : Int)) none = vs.take b := by
  have h := jS (items := vs.toArray) (vs := vs.map er) rfl none (some (b : Int)) none
  have key : ∀ (ws : List Value), (slicePick ws.toArray none (some (b : Int)) none).toList = pickL ws none (some (b : Int)) none := λ ws => by
    unfold slicePick pickL
    rw [List.toList_toArray, List.size_toArray]
    congr 1
    funext k
    exact List.getElem?_toArray ..
  rw [<- key, slicePick_upto', List.toList_toArray]
theorem fm_congr {α β : Type} {f g : α -> Option β} : ∀ (l : List α), (∀ x, x ∈ l -> f x = g x) -> l.filterMap f = l.filterMap g
  | [], _ => rfl
  | x :: l, h => by
    rw [List.filterMap_cons, List.filterMap_cons, h x List.mem_cons_self, fm_congr l λ y hy => h y (List.mem_cons_of_mem _ hy)]
theorem range_rev : ∀ (n : Nat) (vs : List Value), vs.length = n -> (List.range n).filterMap (λ k => vs[n - 1 - k]?) = vs.reverse
  | 0, vs, h => by rw [List.length_eq_zero_iff.mp h]; rfl
  | n + 1, vs, h => by
    obtain ⟨ws, w, rfl⟩ : ∃ ws w, vs = ws ++ [w] := by
      rcases List.eq_nil_or_concat vs with rfl | ⟨ws, w, rfl⟩
      . cases h
      . exact ⟨ws, w, List.concat_eq_append⟩
    have hl : ws.length = n := by rw [List.length_append] at h; simpa using h
    rw [List.reverse_append, List.range_succ_eq_map, List.filterMap_cons]
    have e0 : (ws ++ [w])[n + 1 - 1 - 0]? = some w := by
      show (ws ++ [w])[n]? = some w
      rw [<- hl]; exact List.getElem?_concat_length
    rw [e0]
    show w :: _ = w :: _
    congr 1
    rw [List.filterMap_map, <- range_rev n ws hl]
    refine fm_congr _ λ k hk => ?_
    have hk' := List.mem_range.mp hk
    show (ws ++ [w])[n + 1 - 1 - (k + 1)]? = _
    rw [show n + 1 - 1 - (k + 1) = n - 1 - k by rw [Nat.add_sub_cancel, Nat.sub_sub, Nat.add_comm 1 k]]
    exact List.getElem?_append_left (Nat.lt_of_lt_of_le (Nat.lt_of_le_of_lt (Nat.sub_le _ _) (Nat.sub_lt (Nat.lt_of_le_of_lt (Nat.zero_le k) hk') Nat.one_pos)) (Nat.le_of_eq hl.symm))
theorem rev_places (m : Nat) : sliceRange ((m : Int) - 1) (-1) (-1) = (List.range m).map λ k => m - 1 - k := by
  unfold sliceRange
  cases m with
  | zero => rfl
  | succ j =>
    have e : ((j + 1 : Nat) : Int) - 1 = (j : Int) := Int.add_sub_cancel (j : Int) 1
    rw [e]
    have hcount : (if (-1 : Int) > 0 then (if (j : Int) < -1 then (-1 - (j : Int) + -1 - 1) / -1 else 0) else (if (j : Int) > -1 then ((j : Int) - -1 - -1 - 1) / (- -1) else 0)).toNat = j + 1 := by
      rw [if_neg (by decide), if_pos (Int.lt_of_lt_of_le (by decide) (Int.natCast_nonneg j)), Int.sub_neg, Int.sub_neg, Int.add_sub_cancel]
      show (((j : Int) + 1) / 1).toNat = j + 1
      rw [Int.ediv_one]; rfl
    simp only [] at hcount ⊢
    rw [hcount]
    apply List.map_congr_left
    intro k _
    show ((j : Int) + -1 * (k : Int)).toNat = j - k
    rw [Int.neg_mul, Int.one_mul, <- Int.sub_eq_add_neg, Int.toNat_sub]
theorem pickL_rev (vs : List Value) : pickL vs none none (some (-1)) = vs.reverse := by
  have h1 : sliceBounds none none (some (-1)) vs.length = ((vs.length : Int) - 1, -1, -1) := rfl
  unfold pickL
  rw [h1]
  have hr := rev_places vs.length
  rw [hr, List.filterMap_map]
  exact range_rev vs.length vs rfl
theorem sliceApplied_init {sl : Addr} {n : Nat} {u : Tok} {Q : Int × Int × Nat -> Shared -> Prop} {prog : Program} {w : World} (hs : s.heap.IsSliceOf sl .none (.int (-1) u) .none) (hn : 1 <= n) (h : Q (0, 1, n - 1) s) :
    wpAny (model prog w) A (Builtin.Slice.sliceApplied (.ref sl) (pure (n : Int))) Q Fa s := by
  obtain ⟨os, hos, hcs, hds⟩ := id hs
  unfold Builtin.Slice.sliceApplied Builtin.Slice.sliceFields
  refine wpAny_bind (wpAny_bind (wpAny_field hos hds (x := .none) rfl (wpAny_bind (wpAny_field hos hds (x := .int (-1) u) rfl (wpAny_bind (wpAny_field hos hds (x := .none) rfl (wpAny_pure ?_)))))))
  refine wpAny_bind (slicePart_none ?_)
  show wpAny _ _ (if ((1 : Int) == 0) = true then _ else _) _ _ s
  rw [if_neg (by decide)]
  refine wpAny_bind (slicePart_none (wpAny_bind (slicePart_int (wpAny_bind (wpAny_pure ?_)))))
  have ha : Builtin.Slice.sliceAdjust none (some (-1)) 1 (n : Int) = (0, (n : Int) - 1) := by
    unfold Builtin.Slice.sliceAdjust
    simp only [show ¬ ((1 : Int) < 0) by ac_nf, show ((-1 : Int) < 0) by ac_nf, if_false, if_true]
    congr 1
    ac_nf
  have hp : Builtin.Slice.slicePlaces 0 ((n : Int) - 1) 1 = n - 1 := by
    unfold Builtin.Slice.slicePlaces
    simp only [show (1 : Int) > 0 by ac_nf, if_true, Int.ediv_one]
    split <;> ac_nf
  show wpAny _ _ (match Builtin.Slice.sliceAdjust none (some (-1)) 1 (n : Int) with | (lo, hi) => pure (lo, (1 : Int), Builtin.Slice.slicePlaces lo hi 1)) _ _ s
  rw [ha]
  show wpAny _ _ (pure ((0 : Int), (1 : Int), Builtin.Slice.slicePlaces 0 ((n : Int) - 1) 1)) _ _ s
  rw [hp]
  exact wpAny_pure h
theorem range_pick {α : Type} : ∀ (n : Nat) (l : List α), n <= l.length -> (List.range n).filterMap (λ k => l[k]?) = l.take n
  | 0, l, _ => rfl
  | n + 1, l, h => by
    rw [List.range_succ, List.filterMap_append, range_pick n l (by ac_nf), List.take_add_one, List.getElem?_eq_getElem (by ac_nf)]
    simp [List.getElem?_eq_getElem (show n < l.length by ac_nf)]
theorem pick_init (xs : Array Value) (n : Nat) (hn : n <= xs.size) : ((List.range n).filterMap λ (k : Nat) => xs[((0 : Int) + (k : Int) * 1).toNat]?) = xs.toList.take n := by
  have e : (λ (k : Nat) => xs[((0 : Int) + (k : Int) * 1).toNat]?) = λ k => xs.toList[k]? := by
    funext k
    rw [show ((0 : Int) + (k : Int) * 1).toNat = k by ac_nf, Array.getElem?_toList]
  rw [e]
  exact range_pick n _ (by rw [Array.length_toList]; exact hn)
theorem getItem_tuple_init {t sl : Addr} {items : Array Value} {u : Tok} {Q : Value -> Shared -> Prop} {prog : Program} {w : World} (ht : IsTup s.heap t items) (hs : s.heap.IsSliceOf sl .none (.int (-1) u) .none) (h1 : 1 <= items.size)
    (h : Q (.ref s.heap.objs.size) { s with heap := s.heap.push { cls := .type "tuple", data := .seq (items.toList.take (items.size - 1)).toArray } })
    (hsz : items.size <= sizeLine) : wpAny (model prog w) A (getItem (.ref t) (.ref sl)) Q Fa s := by
  have hdrop : sizeOk (.seq (items.toList.take (items.size - 1)).toArray) := by
    show (items.toList.take (items.size - 1)).toArray.size <= sizeLine
    rw [List.size_toArray, List.length_take, Array.length_toList]
    ac_nf
  obtain ⟨os, hos, hcs, hds⟩ := id hs
  have hTs : s.TypeIs (.ref sl) "slice" := ⟨os, hos, hcs⟩
  unfold getItem
  try with_reducible refine wpAny_holding ?_
  first | refine wpAny_bind (wpAny_pure ?_) | skip
  refine wpAny_bind (wpAny_sequenceKey ht.typeIs (by decide) ?_)
  refine wpAny_bind (wpAny_callSpecial?_slot (name := Str.ofString "__getitem__") ht.typeIs slot_tuple_getitem
    (wpAny_call_entry slot_tuple_getitem ht.typeIs entry_tuple_getitem ?_ (args_tuple_getitem _ _)))
  show wpAny _ _ (Builtin.Tuple.tupleItemsOf (.ref t) >>= _) _ _ s
  refine wpAny_bind (tupleItemsOf_ ht ?_)
  refine wpAny_bind (wpAny_typeOf hTs ?_)
  rw [if_pos (by decide)]
  refine wpAny_bind (sliceApplied_init hs h1 ?_)
  have hno : ¬ (((0 : Int) == 0 && (1 : Int) == 1 && (items.size - 1) == items.size) = true) := by
    have : ((items.size - 1) == items.size) = false := by rw [beq_eq_false_iff_ne]; ac_nf
    rw [this]; simp
  show wpAny _ _ (if ((0 : Int) == 0 && (1 : Int) == 1 && (items.size - 1) == items.size) = true then _ else _) _ _ s
  rw [if_neg hno, pick_init items _ (by ac_nf)]
  first
    | exact wpAny_bind (m := Builtin.Tuple.tupleExact _) (wpAny_newObj_type (wpAny_pure ⟨_, rfl, wpAny_pure h⟩) hdrop)
    | exact wpAny_bind (m := Builtin.Tuple.tupleExact _) (wpAny_newObj_type (wpAny_bind (wpAny_pure (wpAny_pure ⟨_, rfl, wpAny_pure h⟩))) hdrop)
    | exact wpAny_bind (wpAny_bind (m := Builtin.Tuple.tupleExact _) (wpAny_newObj_type (wpAny_pure (wpAny_pure ⟨_, rfl, wpAny_pure h⟩)) hdrop))
    | exact wpAny_bind (wpAny_bind (m := Builtin.Tuple.tupleExact _) (wpAny_newObj_type (wpAny_pure ⟨_, rfl, wpAny_pure h⟩) hdrop))
theorem isTup_of {h : Heap} {a : Addr} {items : Array Value} {ep : Nat} (e : h.get? a = some ⟨.type "tuple", none, .seq items ep, #[]⟩) : IsTup h a items := ⟨_, e, rfl, ep, rfl⟩
theorem yY {a sl : Addr} {vs : List Value} {Φ : Value -> St -> Prop} (hl : S.H a = some (.tup (.type "tuple") vs)) (hs : S.H sl = some (.slice none (some (-1)) none)) (h1 : 1 <= vs.length) (hn : vs.length <= sizeLine) (h : New S (.tup (.type "tuple") vs.dropLast) Φ) : jJ X A L (.ref a) (.ref sl) S Φ := by
  intro c d hc hd C s hB R
  rw [zC hc, zC hd]
  obtain ⟨items, ep, ho, e⟩ := R.tup hl
  obtain ⟨ob, hos, vl, vu, w, rfl, pl, pu, ps⟩ := R.get hs
  cases pl; cases ps; cases pu
  have hz := zP e
  refine ⟨⟨"tuple", _, slot_tuple_getitem.lookup, (isTup_of ho).typeIs⟩, getItem_tuple_init (isTup_of ho) ⟨_, hos, rfl, rfl⟩ (by ac_nf)
    ⟨_, R.push (o := .tup (.type "tuple") vs.dropLast) rfl ⟨_, _, rfl, ?_⟩ _, h _ (R.fresh (zJ _)).2.1⟩ (by ac_nf)⟩
  rw [List.toList_toArray, List.map_take, e, hz, List.dropLast_eq_take]
theorem item_tuple {a : Addr} {vs : List Value} {k : Int} {j : Nat} {v : Value} {Φ : Value -> St -> Prop} (hl : S.H a = some (.tup (.type "tuple") vs)) (hlo : -(2 ^ 63) <= k) (hhi : k < 2 ^ 63) (hj : seqIndex? k vs.length = some j) (hv : vs[j]? = some v) (h : Φ v S) : jJ X A L (.ref a) (.int k 0) S Φ := by
  intro c d hc hd C s hB R
  rw [zC hc]
  obtain ⟨t, rfl⟩ := zQ hd
  obtain ⟨items, ep, ho, e⟩ := R.tup hl
  obtain ⟨x, hx, rfl⟩ := yP e hv
  exact ⟨⟨"tuple", _, slot_tuple_getitem.lookup, (isTup_of ho).typeIs⟩, PyProof.Rows.getItem_tuple (isTup_of ho) hlo hhi (by rw [zP e]; exact hj) hx ⟨S, R, h⟩⟩
end
section
variable {X : Wd} {A : Around} {L : Addr} {S : St} {env : Env} {C : Cx} {s : Shared}
noncomputable def qb (H : AH) : List (Str × Addr) -> AH
  | [] => H
  | p :: r => zD (qb H r) p.2 (.cell none)
theorem yv {H : AH} {a : Addr} {o : AO} : ∀ {cs : List (Str × Addr)}, qb H cs a = some o -> H a = some o \/ (o = .cell none /\ ∃ n, (n, a) ∈ cs)
  | [], h => .inl h
  | p :: r, h => by
    have h : (if a = p.2 then some (AO.cell none) else qb H r a) = some o := h
    by_cases e : a = p.2
    . rw [if_pos e] at h; cases h
      exact .inr ⟨rfl, p.1, by rw [e]; exact List.mem_cons_self⟩
    . rw [if_neg e] at h
      rcases yv h with h | ⟨h1, n, hn⟩
      . exact .inl h
      . exact .inr ⟨h1, n, List.mem_cons_of_mem _ hn⟩
theorem lookup_of_mem : ∀ {cs : List (Str × Addr)} {n : Str} {c : Addr}, (n, c) ∈ cs -> (cs.map (·.1)).Nodup -> cs.lookup n = some c
  | p :: r, n, c, h, hn => by
    rw [List.map_cons, List.nodup_cons] at hn
    rcases List.mem_cons.mp h with rfl | h
    . rw [List.lookup_cons, beq_self_eq_true]
    . have : (n == p.1) = false := beq_eq_false_iff_ne.mpr λ e => hn.1 (by rw [<- e]; exact List.mem_map_of_mem h)
      rw [List.lookup_cons, this]
      exact lookup_of_mem h hn.2
theorem bindL_local {k : Str -> Option NameKind} : ∀ (l : List (Str × Value)) (m : Str -> Option Value), (∀ p ∈ l, k p.1 = some .local) -> ∀ y, bindL k l m y = (l.reverse.lookup y).or (m y)
  | [], m, _, y => rfl
  | (n, v) :: r, m, h, y => by
    show bindL k r (if k n = some .local then λ y => if y = n then some v else m y else m) y = _
    rw [if_pos (h (n, v) List.mem_cons_self), bindL_local r _ (λ p hp => h p (List.mem_cons_of_mem _ hp)), List.reverse_cons, List.lookup_append]
    cases e : r.reverse.lookup y with
    | some z => rfl
    | none =>
      show (if y = n then some v else m y) = _
      rw [Option.none_or]
      by_cases hy : y = n
      . rw [if_pos hy, hy, List.lookup_cons, beq_self_eq_true]; rfl
      . have : (y == n) = false := beq_eq_false_iff_ne.mpr hy
        rw [if_neg hy, List.lookup_cons, this]; rfl
theorem bindC_local {k : Str -> Option NameKind} : ∀ (l : List (Str × Value)) (m : Str -> Option Value), (∀ p ∈ l, k p.1 = some .local) -> bindC k l m = m
  | [], m, _ => rfl
  | (n, v) :: r, m, h => by
    show bindC k r (if k n = some .local then m else _) = _
    rw [if_pos (h (n, v) List.mem_cons_self)]
    exact bindC_local r m λ p hp => h p (List.mem_cons_of_mem _ hp)
theorem call_fnC {fa : Addr} {fd : FuncData} {body : List Stmt} {names : List Str} {vs : List Value} {Φ : Value -> St -> Prop} (cells : Addr -> List (Str × Addr)) (D : IsDef X fa fd body) (hroom : A.depth < recursionLimit)
    (hbind : ∀ cs : List Value, cs.map er = vs -> bindArgs fd ⟨cs, []⟩ = pure (names.zip cs)) (hcells : ∀ L', cellsFrom (L' + 1) fd.scope.names [] = cells L') (hnd : ∀ L', ((cells L').map (·.1)).Nodup) (hclo : fd.closure = []) (hloc : (names.all λ x => fd.scope.names.lookup x == some .local) = true)
    (h : ∀ L', S.H L' = none -> (∀ p ∈ cells L', S.H p.2 = none /\ p.2 ≠ L') -> Wp X (A.deeper (callEnvC fd L' fa)) L' (execs body (callEnvC fd L' fa)) ⟨yQ names vs, qb S.H (cells L')⟩ (λ fl S' => Φ (retOf fl) ⟨S.m, S'.H⟩)) :
    zO X A L (.ref fa) vs S Φ := λ cs hcs C s hB R => by
  obtain ⟨o, hd, ho'⟩ := D.at_
  have ho := ho' _ (R.kept hB)
  have hl : ∀ p ∈ names.zip cs, fd.scope.names.lookup p.1 = some .local := λ p hp => loc_of hloc (List.of_mem_zip hp).1
  refine wpAny_call (codeAny_call_cells (fd := fd) (binds := names.zip cs) hroom ho hd (D.lim _ (R.kept hB)) (D.code _ (R.kept hB)) D.body (hbind cs hcs) hclo (λ p hp => .inl (hl p hp)) (λ s1z x => ?_) D.co D.gen D.kind)
  have hce : (callEnvC fd s.heap.objs.size fa).cells = cells s.heap.objs.size := hcells _
  have fr := R.fresh (zJ s.heap)
  rw [bindC_local _ _ hl] at x
  have keep := x.toInCall.keep
  have cellAt : ∀ p ∈ cells s.heap.objs.size, s1z.heap.IsCell p.2 none := λ p hp => x.cell p.1 p.2 (by rw [hce]; exact lookup_of_mem hp (hnd _))
  have cellFr : ∀ p ∈ cells s.heap.objs.size, s.heap.objs.size < p.2 := λ p hp => x.above p.1 p.2 (by rw [hce]; exact hp)
  have big : ∀ p ∈ cells s.heap.objs.size, s.heap.get? p.2 = none := λ p hp => Heap.get?_none_of_le (Nat.le_of_lt (cellFr p hp))
  have hgo : s1z.gens = s.gens /\ s1z.os = s.os := by
    obtain ⟨h', tk, e⟩ := x.toInCall.same
    rw [e]; exact ⟨rfl, rfl⟩
  have Rn : Rep X { C with B := λ b => if b = L then s.heap.get? L else C.B b } s.heap.objs.size ⟨yQ names vs, qb S.H (cells s.heap.objs.size)⟩ s1z := by
    refine ⟨λ b o e => ?_, ⟨_, x.toInCall.ns, λ y => ?_⟩, ?_, ?_, λ a o e => ?_, hgo.1.trans R.gens, hgo.2.trans R.os⟩
    . have e : (if b = L then s.heap.get? L else C.B b) = some o := e
      by_cases hb : b = L
      . rw [if_pos hb] at e; rw [hb]; exact keep _ _ e
      . rw [if_neg hb] at e; exact keep _ _ (R.keep _ _ e)
    . rw [bindL_local _ _ hl, Option.or_none, yb, hcs]
    . show (if s.heap.objs.size = L then s.heap.get? L else C.B s.heap.objs.size) = none
      rw [if_neg fr.2.2]; exact fr.1
    . cases q : qb S.H (cells s.heap.objs.size) s.heap.objs.size with
      | none => exact q
      | some o =>
        rcases yv q with h1 | ⟨_, n, hn⟩
        . rw [fr.2.1] at h1; cases h1
        . exact absurd (cellFr _ hn) (Nat.lt_irrefl _)
    . rcases yv e with h1 | ⟨rfl, n, hn⟩
      . refine ⟨?_, (R.obj a o h1).2.keep keep⟩
        show (if a = L then s.heap.get? L else C.B a) = none
        rw [if_neg (R.notL h1)]; exact R.notB h1
      . have f := R.fresh (big _ hn)
        refine ⟨?_, ?_⟩
        . show (if a = L then s.heap.get? L else C.B a) = none
          rw [if_neg f.2.2]; exact f.1
        . obtain ⟨ob, ho, hdat⟩ := cellAt _ hn
          exact ⟨ob, ho, none, hdat, rfl⟩
  refine wpAny_mono (h s.heap.objs.size fr.2.1 (λ p hp => ⟨(R.fresh (big p hp)).2.1, Nat.ne_of_gt (cellFr p hp)⟩) _ _ (Wd.le_enter hB R) Rn) (λ fl s' h' => ?_) λ o_ o_ x => x.elim
  obtain ⟨S', R', p⟩ := h'
  refine ⟨⟨S.m, S'.H⟩, R.leave R', ?_⟩
  cases fl with
  | ret v => exact p
  | next => exact p
  | brk => exact p
  | cont => exact p
end
def qr (X : Wd) : Prop := ∃ o, X.B sysModules = some o
section
variable {X : Wd} {A : Around} {L : Addr} {S : St} {env : Env} {C : Cx} {s : Shared}
theorem Rep.notSys (hX : qr X) (hB : X.le C) (R : Rep X C L S s) {a : Addr} {o : AO} (h : S.H a = some o) : (a == sysModules) = false := by
  obtain ⟨ob, hb⟩ := hX
  refine beq_eq_false_iff_ne.mpr λ e => ?_
  have := R.notB h
  rw [e, hB _ _ hb] at this; cases this
variable {K : Type} [DecidableEq K]
noncomputable def erP (kvs : List (K × Value)) : List (K × Value) := kvs.map λ p => (p.1, er p.2)
theorem jP (kvs : List (K × Value)) (k : K) : (valueAt kvs k).map er = valueAt (erP kvs) k := by
  unfold valueAt erP
  rw [List.find?_map, Option.map_map, Option.map_map]
  rfl
theorem stored_er (kvs : List (K × Value)) (k : K) (v : Value) : erP (stored kvs k v) = stored (erP kvs) k (er v) := by
  unfold stored erP
  rw [List.any_map]
  show List.map _ (if (kvs.any λ kv => decide (kv.1 = k)) = true then _ else _) = if (kvs.any λ kv => decide (kv.1 = k)) = true then _ else _
  split
  . rw [List.map_map, List.map_map]
    apply List.map_congr_left
    intro p _
    show (λ p => (p.1, er p.2)) (if p.1 = k then (p.1, v) else p) = (if p.1 = k then (p.1, er v) else (p.1, er p.2))
    split <;> rfl
  . rw [List.map_append]; rfl
theorem yM {prog : Program} {w : World} (x : Str) (t : Tok) : (strKind prog w).is x (.str x t) = true := by
  show Value.isStrOf x (.str x t) = true
  simp [Value.isStrOf]
theorem int_is {prog : Program} {w : World} (x : Int) (t : Tok) : (intKind prog w).is x (.int x t) = true := by
  show Value.isInt x (.int x t) = true
  simp [Value.isInt]
theorem cmp_inSD (hX : qr X) {a : Addr} {kvs : List (Str × Value)} {x : Str} {Φ : Value -> St -> Prop} (ha : S.H a = some (.sdict kvs)) (h : Φ (.bool (valueAt kvs x).isSome) S) : yL X A L .In (.str x 0) (.ref a) S Φ := by
  intro c d hc hd C s hB R
  obtain ⟨u, rfl⟩ := zf hc
  rw [zC hd]
  obtain ⟨kvs', hD, e⟩ := R.sdict ha
  refine wpAny_in_of (yM x u) (R.notSys hX hB ha) hD.mapOf ⟨S, R.tok _, ?_⟩
  have : valueAt kvs x = (valueAt kvs' x).map er := by rw [jP]; exact congrArg (valueAt · x) e.symm
  rw [this, Option.isSome_map] at h
  exact h
theorem yn (hX : qr X) {a : Addr} {kvs : List (Str × Value)} {x : Str} {Φ : Value -> St -> Prop} (ha : S.H a = some (.sdict kvs)) (h : Φ (.bool (!(valueAt kvs x).isSome)) S) : yL X A L .NotIn (.str x 0) (.ref a) S Φ := by
  intro c d hc hd C s hB R
  obtain ⟨u, rfl⟩ := zf hc
  rw [zC hd]
  obtain ⟨kvs', hD, e⟩ := R.sdict ha
  refine wpAny_notIn_of (yM x u) (R.notSys hX hB ha) hD.mapOf ⟨S, R.tok _, ?_⟩
  have : valueAt kvs x = (valueAt kvs' x).map er := by rw [jP]; exact congrArg (valueAt · x) e.symm
  rw [this, Option.isSome_map] at h
  exact h
theorem zr {a : Addr} {kvs : List (Str × Value)} {x : Str} {v : Value} {Φ : Value -> St -> Prop} (ha : S.H a = some (.sdict kvs)) (hv : valueAt kvs x = some v) (h : Φ v S) : jJ X A L (.ref a) (.str x 0) S Φ := by
  intro c d hc hd C s hB R
  rw [zC hc]
  obtain ⟨u, rfl⟩ := zf hd
  obtain ⟨kvs', hD, e⟩ := R.sdict ha
  have : valueAt kvs x = (valueAt kvs' x).map er := by rw [jP]; exact congrArg (valueAt · x) e.symm
  rw [this, Option.map_eq_some_iff] at hv
  obtain ⟨v', hv', rfl⟩ := hv
  exact ⟨⟨"dict", _, F.slot_dict_getitem.lookup, hD.typeIs⟩, wpAny_getItem_of (yM x u) hD.mapOf hv' ⟨S, R.tok _, h⟩⟩
def SetE (X : Wd) (A : Around) (L : Addr) (u k v : Value) (S : St) (Ψ : St -> Prop) : Prop := ∀ c d e, er c = u -> er d = k -> er e = v -> Wp X A L (setItem c d e) S λ o_ => Ψ
theorem set_sdict {a : Addr} {kvs : List (Str × Value)} {x : Str} {v : Value} {Ψ : St -> Prop} (ha : S.H a = some (.sdict kvs)) (hn : kvs.length <= sizeLine) (h : Ψ { S with H := zD S.H a (.sdict (stored kvs x v)) }) : SetE X A L (.ref a) (.str x 0) v S Ψ := by
  intro c d w hc hd hw C s hB R
  rw [zC hc]
  obtain ⟨u, rfl⟩ := zf hd
  obtain ⟨kvs', hD, e⟩ := R.sdict ha
  have hlen : kvs'.length = kvs.length := by rw [<- e, List.length_map]
  refine wpAny_setItem_pairs (yM x u) hD (λ h' hD' hs => ⟨_, ?_, h⟩) (by ac_nf)
  obtain ⟨ob, ho, hob⟩ := Heap.dictOf_iff.mp hD'
  refine R.turn ha (λ b o hb q => (hs.2 b hb).trans q) (o := .sdict (stored kvs x v)) ⟨ob, ho, _, hob, ?_⟩ rfl rfl
  have := stored_er kvs' x w
  rw [hw] at this
  exact this.trans (congrArg (stored · x v) e)
theorem setItem_neg {prog : Program} {w : World} {l : Addr} {items : Array Value} {ep : Nat} {k : Int} {j : Nat} {t : Tok} {v : Value} {Q : Unit -> Shared -> Prop} (ho : s.heap.get? l = some ⟨.type "list", none, .seq items ep, #[]⟩) (h0 : k < 0) (hfit : Builtin.List.listFitsIndex k = true)
    (hj : seqIndex? k items.size = some j) (hlt : j < items.size) (hQ : Q () { s with heap := s.heap.update l (Obj.mapSeq (·.setIfInBounds j v)) }) : wpAny (model prog w) A (setItem (.ref l) (.int k t) v) Q Fa s := by
  have hl := zL ho
  unfold setItem
  try with_reducible refine wpAny_holding ?_
  first | refine wpAny_bind (wpAny_pure ?_) | skip
  refine wpAny_bind (wpAny_sequenceKey hl.typeIs (by decide) ?_)
  refine wpAny_bind (wpAny_callSpecial?_slot (name := Str.ofString "__setitem__") hl.typeIs slot_list_setitem
    (wpAny_call_entry slot_list_setitem hl.typeIs entry_list_setitem ?_ (args_list_setitem _ _ _)))
  show wpAny _ _ (Builtin.List.listSubscript? (.int k t) >>= _) _ _ s
  refine wpAny_bind (wpAny_listSubscript_int hfit ?_)
  clear hfit
  obtain ⟨i, rfl⟩ : ∃ i : Nat, k = Int.negSucc i := by
    cases k with
    | ofNat n => exact absurd h0 (Int.not_lt.mpr (Int.natCast_nonneg n))
    | negSucc n => exact ⟨n, rfl⟩
  show wpAny _ _ ((Builtin.List.listItems (.ref l) >>= λ xs => pure ((seqIndex? (Int.negSucc i) xs.size).bind λ i => xs[i]?.map (i, ·))) >>= _) _ _ s
  refine wpAny_bind (wpAny_bind ?_)
  show wpAny _ _ (seqItems? (.ref l) >>= _) _ _ s
  refine wpAny_bind (wpAny_seqItems ho rfl (wpAny_pure (wpAny_pure ?_)))
  rw [hj]
  simp only [Option.bind_some, Array.getElem?_eq_getElem hlt, Option.map_some]
  show wpAny _ _ (setSeqItemAt l j v >>= _) _ _ s
  refine wpAny_bind (wpAny_setSeqItemAt ho rfl ?_)
  first
    | exact wpAny_pure ⟨.none, rfl, wpAny_pure hQ⟩
    | exact wpAny_bind (wpAny_pure (wpAny_pure ⟨_, rfl, wpAny_pure hQ⟩))
    | exact wpAny_pure ⟨_, rfl, hQ⟩
theorem set_last {a : Addr} {vs : List Value} {u v : Value} {Ψ : St -> Prop} (ha : S.H a = some (.list (vs ++ [u]))) (h : Ψ { S with H := zD S.H a (.list (vs ++ [v])) }) : SetE X A L (.ref a) (.int (-1) 0) v S Ψ := by
  intro c d w hc hd hw C s hB R
  rw [zC hc]
  obtain ⟨t, rfl⟩ := zQ hd
  obtain ⟨items, ep, ho, e⟩ := R.list ha
  have hz : items.size = vs.length + 1 := by rw [zP e, List.length_append]; rfl
  refine setItem_neg (j := vs.length) ho (by decide) (by decide) ?_ (by ac_nf) ⟨_, R.mapSeq ha ho (vs' := vs ++ [v]) ?_, h⟩
  . rw [hz]; unfold seqIndex?; simp; ac_nf
  . rw [Array.toList_setIfInBounds, List.map_set, e, hw]
    rw [List.set_append_right _ _ (Nat.le_refl _), Nat.sub_self]; rfl
end
section
variable {X : Wd} {A : Around} {L : Addr} {S : St} {env : Env} {C : Cx} {s : Shared}
theorem jZ {t value : Expr} {pos : Pos} {Φ : Flow -> St -> Prop} (h : EV X A L (eval value env) S λ v S1 => qs X A L t env v S1 (Φ .next))
    (he : [assign t env] = (assignEach [t] env).map (·.2) := by with_unfolding_all rfl) (hs : pure false = swapsWithSole [t] value pos.line env := by with_unfolding_all rfl) (hw : pure none = swappedStores [t] value env := by with_unfolding_all rfl) : Wp X A L (exec (.Assign [t] value pos) env) S Φ := λ C s hB R =>
  wpAny_Assign_stores (h.then hB R λ c S1 s1z R1z h₁ => by
    rw [<- he]
    exact wpAny_mono (h₁ c rfl C s1z hB R1z) (λ o_ s' ⟨S', R', p⟩ => ⟨S', R', p⟩) λ o_ o_ x => x) hs.symm hw.symm
theorem qd {t1z t2z value : Expr} {pos : Pos} {Φ : Flow -> St -> Prop} (h : EV X A L (eval value env) S λ v S1 => qs X A L t1z env v S1 λ S2 => qs X A L t2z env v S2 (Φ .next))
    (he : (assignEach [t1z, t2z] env).map (·.2) = [assign t1z env, assign t2z env] := by rfl)
    (hw : swappedStores [t1z, t2z] value env = pure none := by rfl) : Wp X A L (exec (.Assign [t1z, t2z] value pos) env) S Φ := λ C s hB R =>
  wpAny_Assign_two (h.then hB R λ c S1 s1z R1z h₁ => Wp.then hB R1z (h₁ c rfl) λ o_ S2 s2z R2z h2z => wpAny_mono (h2z c rfl C s2z hB R2z) (λ o_ s' ⟨S', R', p⟩ => ⟨S', R', p⟩) λ o_ o_ x => x) he hw
theorem ex_Assign3 {t1z t2z t3z value : Expr} {pos : Pos} {Φ : Flow -> St -> Prop} (h : EV X A L (eval value env) S λ v S1 => qs X A L t1z env v S1 λ S2 => qs X A L t2z env v S2 λ S3 => qs X A L t3z env v S3 (Φ .next))
    (he : (assignEach [t1z, t2z, t3z] env).map (·.2) = [assign t1z env, assign t2z env, assign t3z env] := by rfl)
    (hw : swappedStores [t1z, t2z, t3z] value env = pure none := by rfl) : Wp X A L (exec (.Assign [t1z, t2z, t3z] value pos) env) S Φ := λ C s hB R =>
  wpAny_Assign_three (h.then hB R λ c S1 s1z R1z h₁ => Wp.then hB R1z (h₁ c rfl) λ o_ S2 s2z R2z h2z => Wp.then hB R2z (h2z c rfl) λ o_ S3 s3z R3z h3z => wpAny_mono (h3z c rfl C s3z hB R3z) (λ o_ s' ⟨S', R', p⟩ => ⟨S', R', p⟩) λ o_ o_ x => x) he hw
theorem asg_Sub {o i : Expr} {pos : Pos} {v : Value} {Ψ : St -> Prop} (h : EV X A L (eval o env) S λ u S1 => EV X A L (eval i env) S1 λ k S2 => SetE X A L u k v S2 Ψ) : qs X A L (.Subscript o i pos) env v S Ψ := λ c hc C s hB R => by
  rw [arm_assign_Subscript]
  refine wpAny_bind (wpAny_holding (Wp.then hB R h λ u S1 s1z R1z h₁ => wpAny_bind (wpAny_holding (Wp.then hB R1z h₁ λ k S2 s2z R2z h2z => wpAny_bind (wpAny_standAt (wpAny_bind (wpAny_holding (Wp.then hB R2z (h2z u k c rfl rfl hc) λ o_ S3 s3z R3z h3z => ?_))))))))
  exact wpAny_release ⟨S3, R3z, h3z⟩
end
section
variable {X : Wd} {A : Around} {L : Addr} {S : St} {env : Env} {C : Cx} {s : Shared} {K : Type} [DecidableEq K]
theorem setdefault_pairs {prog : Program} {w : World} {knd : PySem.KeyKind prog w K} {d : Addr} {kvs : List (K × Value)} {k : K} {key dflt : Value} {Q : Value -> Shared -> Prop} (hkey : knd.is k key = true) (hm : s.heap.DictOf knd d kvs) (hz : kvs.length <= sizeLine)
    (there : ∀ v, valueAt kvs k = some v -> Q v { s with toks := s.toks + 1 })
    (new : valueAt kvs k = none -> ∀ h', h'.DictOf knd d (kvs ++ [(k, dflt)]) -> Heap.SameBut d s.heap h' -> Q dflt { s with heap := h', toks := s.toks + 1 }) : wpAny (model prog w) A (dictSetDefault d key dflt) Q Fa s := by
  have hmap := hm.mapOf
  obtain ⟨o, es, ep, ho, hc, hd, hk, hp, hn⟩ := hm
  have hes : es.size <= sizeLine := by
    have e1 := hp.length
    rw [Array.length_toList] at e1
    ac_nf
  have hidx : (es.findIdx? λ e => knd.is k e.key) = kvs.findIdx? λ kv => decide (kv.1 = k) := by
    rw [<- hp.findIdx k]; obtain ⟨l⟩ := es; simp
  cases hi : es.findIdx? λ e => knd.is k e.key with
  | some i =>
    refine wpAny_dictSetDefault_of hkey hmap there (λ h => ?_) (by
      intro o' es' ep' h1 h2
      rw [ho] at h1; cases h1
      rw [hd] at h2; cases h2; exact hes)
    exfalso
    have hany := any_of_findIdx_some (hidx ▸ hi)
    unfold valueAt at h
    rw [Option.map_eq_none_iff, List.find?_eq_none] at h
    obtain ⟨kv, hkv, he⟩ := List.any_eq_true.mp hany
    exact h kv hkv he
  | none =>
    unfold dictSetDefault
    try with_reducible refine wpAny_holding ?_
    refine wpAny_bind (knd.pyHash hkey ?_)
    refine wpAny_bind (wpAny_dictFind_of (s := { s with toks := s.toks + 1 }) hkey ho hd hk ?_)
    rw [hi]
    have hnot : k ∉ kvs.map (·.1) := not_mem_of_findIdx_none (hidx ▸ hi)
    have hv : valueAt kvs k = none := by
      unfold valueAt
      rw [Option.map_eq_none_iff, List.find?_eq_none]
      intro kv hkv he
      exact hnot (List.mem_map.mpr ⟨kv, hkv, of_decide_eq_true he⟩)
    refine wpAny_bind (wpAny_rule (wpAny_bind (wpAny_updateDictKeys (hz := hes) (s := { s with toks := s.toks + 1 }) ho hd (wpAny_pure (new hv _ ⟨_, _, ep + 1, Heap.get?_update_self _ ho (Obj.isFreed_of_dict (Obj.data_mapDictKeys hd _)),
      hc.mapDictKeys _, Obj.data_mapDictKeys hd _, hk.push hkey _, ?_, ?_⟩ (Heap.SameBut.update ..))))))
    . have := hp.append hkey (knd.hash k) dflt
      obtain ⟨l⟩ := es
      simpa using this
    . rw [List.map_append, List.nodup_append]
      refine ⟨hn, by simp, λ a ha b hb => ?_⟩
      simp only [List.map_cons, List.map_nil, List.mem_singleton] at hb
      subst hb
      exact λ e => hnot (e ▸ ha)
theorem jR {a : Addr} {o : AO} (hl : S.H a = some o) (hd : (∃ kvs, o = .sdict kvs) \/ ∃ kvs, o = .idict kvs) : ∀ c C s, er c = .ref a -> Rep X C L S s -> s.TypeIs c "dict" /\ ∀ b, c = .ref b -> ∃ o, s.heap.get? b = some o /\ o.dict = none := λ c C s hc R => by
  rw [zC hc]
  rcases hd with ⟨kvs, rfl⟩ | ⟨kvs, rfl⟩
  . obtain ⟨ob, ho, kvs', hD, e⟩ := R.get hl
    exact ⟨(Heap.dictOf_iff.mpr ⟨ob, ho, hD⟩).typeIs, λ b q => by cases q; exact ⟨ob, ho, by obtain ⟨es, ep, hc, _⟩ := hD; exact hc.2.1⟩⟩
  . obtain ⟨ob, ho, kvs', hD, e⟩ := R.get hl
    exact ⟨(Heap.dictOf_iff.mpr ⟨ob, ho, hD⟩).typeIs, λ b q => by cases q; exact ⟨ob, ho, by obtain ⟨es, ep, hc, _⟩ := hD; exact hc.2.1⟩⟩
end
section
variable {X : Wd} {A : Around} {L : Addr} {S : St} {env : Env} {C : Cx} {s : Shared}
theorem yV {K : Type} [DecidableEq K] {kvs' : List (K × Value)} {kvs : List (K × Value)} (e : kvs'.map (λ p => (p.1, er p.2)) = kvs) (k : K) : valueAt kvs k = (valueAt kvs' k).map er := by
  rw [jP]; exact congrArg (valueAt · k) e.symm
theorem Rep.putSD (R : Rep X C L S s) {a : Addr} {o : AO} {kvs : List (Str × Value)} {kvs' : List (Str × Value)} {h' : Heap} {tk : Nat} (ha : S.H a = some o) (hD : h'.DictOf (PySem.strKind X.prog X.w) a kvs') (hs : Heap.SameBut a s.heap h') (e : erP kvs' = kvs) :
    Rep X C L { S with H := zD S.H a (.sdict kvs) } { s with heap := h', toks := tk } := by
  obtain ⟨ob, ho, hob⟩ := Heap.dictOf_iff.mp hD
  exact R.turn ha (λ b o hb q => (hs.2 b hb).trans q) (o := .sdict kvs) ⟨ob, ho, _, hob, e⟩ rfl rfl
theorem call_setdefault (hX : qr X) {a : Addr} {kvs : List (Str × Value)} {x : Str} {v : Value} {Φ : Value -> St -> Prop} (ha : S.H a = some (.sdict kvs)) (hn : kvs.length <= sizeLine)
    (h1 : ∀ u, valueAt kvs x = some u -> Φ u S) (h2 : valueAt kvs x = none -> Φ v { S with H := zD S.H a (.sdict (kvs ++ [(x, v)])) }) : zO X A L (.builtin "dict.setdefault") [.ref a, .str x 0, v] S Φ := λ cs hcs C s hB R => by
  obtain ⟨c, d, e, rfl, hc, hd, he⟩ := map3 hcs
  rw [zC hc]
  obtain ⟨u, rfl⟩ := zf hd
  obtain ⟨kvs', hD, e'⟩ := R.sdict ha
  have hlen : kvs'.length = kvs.length := by rw [<- e', List.length_map]
  have hv := yV e' x
  refine wpAny_call_entry F.slot_dict_setdefault hD.typeIs F.entry_dict_setdefault ?_ (F.args_dict_setdefault_3 _ _ _)
  show wpAny _ _ (Builtin.«dict.setdefault» ⟨[.ref a, .str x u, e], []⟩) _ _ s
  unfold Builtin.«dict.setdefault»
  refine wpAny_bind ?_
  unfold Builtin.Dict.keyAndDefault
  refine wpAny_bind (wpAny_notOrdered_dict hD.typeIs ?_)
  show wpAny _ _ (pure (a, Value.str x u, some e)) _ _ s
  refine wpAny_pure ?_
  show wpAny _ _ (if (a == sysModules) = true then _ else (dictSetDefault a (Value.str x u) e >>= _)) _ _ s
  rw [if_neg (by rw [R.notSys hX hB ha]; exact Bool.false_ne_true)]
  refine wpAny_bind (setdefault_pairs (yM x u) hD (by ac_nf) (λ w hw => wpAny_pure ⟨w, rfl, S, R.tok _, h1 _ (by rw [hv, hw]; rfl)⟩) (λ hw h' hD' hs => wpAny_pure ⟨e, rfl, _, R.putSD ha hD' hs (kvs := kvs ++ [(x, v)]) ?_, ?_⟩))
  . unfold erP; rw [List.map_append, e']; show kvs ++ [(x, er e)] = _; rw [he]
  . show Φ (er e) _
    rw [he]; exact h2 (by rw [hv, hw]; rfl)
theorem call_getSD (hX : qr X) {a : Addr} {kvs : List (Str × Value)} {x : Str} {v : Value} {Φ : Value -> St -> Prop} (ha : S.H a = some (.sdict kvs)) (h : Φ ((valueAt kvs x).getD v) S) : zO X A L (.builtin "dict.get") [.ref a, .str x 0, v] S Φ := λ cs hcs C s hB R => by
  obtain ⟨c, d, e, rfl, hc, hd, he⟩ := map3 hcs
  rw [zC hc]
  obtain ⟨u, rfl⟩ := zf hd
  obtain ⟨kvs', hD, e'⟩ := R.sdict ha
  refine call_meetsIn F.slot_dict_get hD.typeIs F.entry_dict_get (F.args_dict_get_3 _ _ _) (meets_dict_get_default _ _ (yM x u) (R.notSys hX hB ha) e) ⟨_, hD.mapOf, S, R.tok _, ?_⟩
  rw [yV e' x] at h
  cases hw : valueAt kvs' x with
  | none => rw [hw] at h; rw [<- he] at h; exact h
  | some w => rw [hw] at h; exact h
theorem without_er {K : Type} [DecidableEq K] (kvs : List (K × Value)) (k : K) : erP (without kvs k) = without (erP kvs) k := by
  unfold erP without
  rw [List.filter_map]; rfl
theorem call_popSD (hX : qr X) {a : Addr} {kvs : List (Str × Value)} {x : Str} {Φ : Value -> St -> Prop} (ha : S.H a = some (.sdict kvs)) (hn : kvs.length <= sizeLine)
    (h1 : ∀ u, valueAt kvs x = some u -> Φ u { S with H := zD S.H a (.sdict (without kvs x)) }) (h2 : valueAt kvs x = none -> Φ .none S) : zO X A L (.builtin "dict.pop") [.ref a, .str x 0, .none] S Φ := λ cs hcs C s hB R => by
  obtain ⟨c, d, e, rfl, hc, hd, he⟩ := map3 hcs
  rw [zC hc, yE he]
  obtain ⟨u, rfl⟩ := zf hd
  obtain ⟨kvs', hD, e'⟩ := R.sdict ha
  have hlen : kvs'.length = kvs.length := by rw [<- e', List.length_map]
  have hv := yV e' x
  cases hw : valueAt kvs' x with
  | none =>
    exact call_meetsIn F.slot_dict_pop hD.typeIs F.entry_dict_pop (F.args_dict_pop_3 _ _ _) (meets_dict_pop_default _ _ (yM x u) (R.notSys hX hB ha) rfl .none) ⟨_, hD, hw, S, R.tok _, h2 (by rw [hv, hw]; rfl)⟩
  | some w =>
    refine call_meetsIn F.slot_dict_pop hD.typeIs F.entry_dict_pop (F.args_dict_pop_3 _ _ _) (meets_dict_pop_there _ _ (yM x u) [.none] (.inr ⟨_, rfl⟩) rfl) ⟨_, _, hD, by ac_nf, hw, λ h' hD' hs => ⟨_, R.putSD ha hD' hs (kvs := without kvs x) ?_, h1 _ (by rw [hv, hw]; rfl)⟩⟩
    exact (without_er kvs' x).trans (congrArg (without · x) e')
end
section
variable {X : Wd} {A : Around} {L : Addr} {S : St} {env : Env} {C : Cx} {s : Shared}
def DelE (X : Wd) (A : Around) (L : Addr) (u k : Value) (S : St) (Ψ : St -> Prop) : Prop := ∀ c d, er c = u -> er d = k -> Wp X A L (delItem c d) S λ o_ => Ψ
theorem ex_DelSub {o i : Expr} {p pos : Pos} {Φ : Flow -> St -> Prop} (h : EV X A L (eval o env) S λ u S1 => EV X A L (eval i env) S1 λ k S2 => DelE X A L u k S2 (Φ .next)) : Wp X A L (exec (.Delete [.Subscript o i p] pos) env) S Φ := λ C s hB R =>
  wpAny_Delete (wpAny_deleteEach_cons (wpAny_delete_Subscript (Wp.then hB R h λ u S1 s1z R1z h₁ => Wp.then hB R1z h₁ λ k S2 s2z R2z h2z => wpAny_mono (h2z u k rfl rfl C s2z hB R2z) (λ o_ s' ⟨S', R', p⟩ => wpAny_deleteEach_nil ⟨S', R', p⟩) λ o_ o_ x => x)))
theorem del_sdict {a : Addr} {kvs : List (Str × Value)} {x : Str} {Ψ : St -> Prop} (ha : S.H a = some (.sdict kvs)) (hn : kvs.length <= sizeLine) (hv : (valueAt kvs x).isSome = true) (h : Ψ { S with H := zD S.H a (.sdict (without kvs x)) }) : DelE X A L (.ref a) (.str x 0) S Ψ := by
  intro c d hc hd C s hB R
  rw [zC hc]
  obtain ⟨u, rfl⟩ := zf hd
  obtain ⟨kvs', hD, e'⟩ := R.sdict ha
  have hlen : kvs'.length = kvs.length := by rw [<- e', List.length_map]
  rw [yV e' x, Option.isSome_map] at hv
  refine wpAny_delItem_slot hD.typeIs (by decide) F.slot_dict_delitem (call_meetsIn F.slot_dict_delitem hD.typeIs F.entry_dict_delitem (F.args_dict_delitem_2 _ _) (meets_dict_delitem_pairs _ _ (yM x u)) ⟨kvs', hD, by ac_nf, hv, λ h' hD' hs => ⟨_, R.putSD ha hD' hs (kvs := without kvs x) ?_, h⟩⟩)
  exact (without_er kvs' x).trans (congrArg (without · x) e')
theorem ev_Dict0s {pos : Pos} {Φ : Value -> St -> Prop} (h : New S (.sdict []) Φ) : EV X A L (eval (.Dict [] [] pos) env) S Φ := λ C s hB R =>
  wpAny_Dict_empty ⟨_, R.push (o := .sdict []) rfl (by
    obtain ⟨o, ho, hob⟩ := Heap.dictOf_iff.mp (Heap.DictOf.new (knd := PySem.strKind X.prog X.w) s.heap)
    rw [Heap.get?_push_size _ rfl] at ho; cases ho
    exact ⟨[], hob, rfl⟩) _, h _ (R.fresh (zJ _)).2.1⟩
theorem ev_Dict0i {pos : Pos} {Φ : Value -> St -> Prop} (h : New S (.idict []) Φ) : EV X A L (eval (.Dict [] [] pos) env) S Φ := λ C s hB R =>
  wpAny_Dict_empty ⟨_, R.push (o := .idict []) rfl (by
    obtain ⟨o, ho, hob⟩ := Heap.dictOf_iff.mp (Heap.DictOf.new (knd := PySem.intKind X.prog X.w) s.heap)
    rw [Heap.get?_push_size _ rfl] at ho; cases ho
    exact ⟨[], hob, rfl⟩) _, h _ (R.fresh (zJ _)).2.1⟩
theorem ev_Dict3 {k1 k2 k3 : Str} {n1 n2 n3 : Nat} {p1 p2 p3 : Pos} {v1 v2 v3 : Expr} {pos : Pos} {Φ : Value -> St -> Prop} (hd : [k1, k2, k3].Nodup)
    (h : ∀ d, S.H d = none -> EV X A L (eval v1 env) { S with H := zD S.H d (.sdict []) } λ u1 S1 => EV X A L (eval v2 env) S1 λ u2 S2 => EV X A L (eval v3 env) S2 λ u3 S3 =>
      S3.H d = some (.sdict []) /\ Φ (.ref d) { S3 with H := zD S3.H d (.sdict [(k1, u1), (k2, u2), (k3, u3)]) }) :
    EV X A L (eval (.Dict [some (.Constant (.str k1) n1 p1), some (.Constant (.str k2) n2 p2), some (.Constant (.str k3) n3 p3)] [v1, v2, v3] pos) env) S Φ := λ C s hB R => by
  have R0z : Rep X C L { S with H := zD S.H s.heap.objs.size (.sdict []) } { s with heap := s.heap.push { cls := .type "dict", data := .dict #[] } } := R.push (o := .sdict []) rfl (by
    obtain ⟨o, ho, hob⟩ := Heap.dictOf_iff.mp (Heap.DictOf.new (knd := PySem.strKind X.prog X.w) s.heap)
    rw [Heap.get?_push_size _ rfl] at ho; cases ho
    exact ⟨[], hob, rfl⟩) _
  refine wpAny_Dict_walk (knd := PySem.strKind X.prog X.w) rfl rfl (by simp) (by simp) ?_
  refine pairTrees_cons_walk (wpAny_Constant_str ?_)
  refine Wp.then hB (R0z.tok _) (h _ (R.fresh (zJ _)).2.1) λ c1 S1 s1z R1z h₁ => ?_
  refine pairTrees_cons_walk (wpAny_Constant_str ?_)
  refine Wp.then hB (R1z.tok _) h₁ λ c2 S2 s2z R2z h2z => ?_
  refine pairTrees_cons_walk (wpAny_Constant_str ?_)
  refine Wp.then hB (R2z.tok _) h2z λ c3 S3 s3z R3z ⟨hd3, h3z⟩ => ?_
  refine pairTrees_nil_walk ?_
  obtain ⟨kvs', hD, e'⟩ := R3z.sdict hd3
  have hnil : kvs' = [] := List.map_eq_nil_iff.mp e'
  subst hnil
  refine display_done_str (P := λ h' => Got X C L (Φ (er (.ref s.heap.objs.size))) { s3z with heap := h', toks := _ }) rfl hd hD λ h' hD' hs => ⟨_, R3z.putSD hd3 hD' hs (kvs := [(k1, er c1), (k2, er c2), (k3, er c3)]) rfl, h3z⟩
end
section
variable {X : Wd} {A : Around} {L : Addr} {S : St} {env : Env} {C : Cx} {s : Shared}
theorem IsSetOf.setOf {K : Type} [DecidableEq K] {prog : Program} {w : World} {knd : PySem.KeyKind prog w K} {h : Heap} {a : Addr} {ob : Obj} {xs : List K} (ho : h.get? a = some ob) (x : IsSetOf prog w knd ob xs) : h.SetOf knd a (λ k => decide (k ∈ xs)) xs.length := by
  obtain ⟨es, ep, t, h1, h2, h3, h4, h5, h6, h7, h8⟩ := x
  exact ⟨ob, es, ep, t, ho, h1, h2, h3, λ k => by rw [decide_eq_true_iff]; exact h4 k, h5, h6, h7⟩
noncomputable def qR {K : Type} [DecidableEq K] (xs : List K) (k : K) : List K := if k ∈ xs then xs else xs ++ [k]
set_option tactic.hygienic true in
theorem jC {K : Type} [DecidableEq K] {xs : List K} {k j : K} : j ∈ qR xs k ↔ j ∈ xs \/ j = k := by
  unfold qR
  split
  . rename_i h
    exact ⟨.inl, λ q => q.elim id λ e => e ▸ h⟩
  . rw [List.mem_append, List.mem_singleton]
set_option tactic.hygienic true in
theorem addTo_nodup {K : Type} [DecidableEq K] {xs : List K} {k : K} (h : xs.Nodup) : (qR xs k).Nodup := by
  unfold qR
  split
  . exact h
  . rename_i hk
    rw [List.nodup_append]
    exact ⟨h, by simp, λ a ha b hb => by rw [List.mem_singleton.mp hb]; exact λ e => hk (e ▸ ha)⟩
theorem layNew_led (t : SetTable) (es : Array (Int × Value)) (h : Int) (x : Value) : (layNew t es h x).2.1.led = t.led := by
  unfold layNew
  split
  . show (SetTable.orStandIn _ _).led = _
    unfold SetTable.orStandIn
    split <;> rfl
  . rfl
theorem relaid_led {t t' : SetTable} {hs : Array Int} {n : Nat} {o : Array Nat} (h : t.relaid hs n = some (t', o)) : t'.led = t.led := by
  unfold SetTable.relaid SetTable.laid at h
  cases e : SetTable.layClean (SetTable.sizeAbove n - 1) hs with
  | none => rw [e] at h; cases h
  | some ow => rw [e] at h; cases h; rfl
set_option tactic.hygienic true in
theorem relayAll_led (t : SetTable) (es : Array (Int × Value)) (n : Nat) : (relayAll t es n).2.1.led = t.led := by
  unfold relayAll
  split
  . rename_i t' order e
    dsimp only
    split
    . exact relaid_led e
    . rfl
  . rfl
theorem layNew_plain (t : SetTable) (es : Array (Int × Value)) (h : Int) (x : Value) : (layNew t es h x).2.1.plain = true -> t.plain = true := by
  unfold layNew
  split
  . show (SetTable.orStandIn _ _).plain = true -> _
    unfold SetTable.orStandIn
    split
    . exact id
    . exact λ q => Bool.noConfusion q
  . exact λ q => Bool.noConfusion q
theorem relaid_plain {t t' : SetTable} {hs : Array Int} {n : Nat} {o : Array Nat} (h : t.relaid hs n = some (t', o)) : t'.plain = t.plain := by
  unfold SetTable.relaid SetTable.laid at h
  cases e : SetTable.layClean (SetTable.sizeAbove n - 1) hs with
  | none => rw [e] at h; cases h
  | some ow => rw [e] at h; cases h; rfl
set_option tactic.hygienic true in
theorem relayAll_plain (t : SetTable) (es : Array (Int × Value)) (n : Nat) : (relayAll t es n).2.1.plain = true -> t.plain = true := by
  unfold relayAll
  split
  . rename_i t' order e
    dsimp only
    split
    . exact λ q => (relaid_plain e).symm.trans q
    . exact λ q => Bool.noConfusion q
  . exact λ q => Bool.noConfusion q
set_option tactic.hygienic true in
theorem add_led {K : Type} [DecidableEq K] {prog : Program} {w : World} {knd : PySem.KeyKind prog w K} {A : Around} {E : Value -> Shared -> Prop} {a : Addr} {o : Obj} {es : Array (Int × Value)} {ep : Nat} {t : SetTable} {k : K} {x : Value} {Q : Bool -> Shared -> Prop} (hkey : knd.is k x = true) (hsc : x.scannable = true)
    (ho : s.heap.get? a = some o) (hd : o.data = .set es ep t) (hel : ElemsOf knd es.toList) (hf : t.fits es.size = true) (hb : es.size + 1 < scanBound)
    (there : ∀ e, e ∈ es.toList -> knd.is k e.2 = true -> Q false s)
    (new : (∀ e, e ∈ es.toList -> knd.is k e.2 = false) -> ∀ h' es' ep' t', Heap.SameBut a s.heap h' -> h'.get? a = some { o with data := .set es' ep' t' } -> es'.toList.Perm (es.toList ++ [(knd.hash k, x)]) -> t'.fits es'.size = true -> t'.led = t.led -> (t'.plain = true -> t.plain = true /\ plainKind x = true) -> Q true { s with heap := h' }) :
    wpAny (model prog w) A (setAddHashed a x (knd.hash k)) Q E s := by
  unfold setAddHashed setAddHashedIn
  refine wpAny_holding (wpAny_bind (wpAny_setState_of ho hd hf ?_))
  dsimp only
  rw [byScan_of hsc (by ac_nf) hel]
  simp only [↓reduceIte]
  unfold setAddByScan
  refine wpAny_bind (wpAny_bind (wpAny_rule (wpAny_bind (wpAny_setScan_of hkey ho hd hf hel ?_))))
  cases hr : List.findIdx? (λ e => knd.is k e.2) es.toList with
  | some j =>
    obtain ⟨hj, hpj, _⟩ := List.findIdx?_eq_some_iff_getElem.mp hr
    exact wpAny_pure (wpAny_pure (there _ (List.getElem_mem hj) hpj))
  | none =>
    have hno : ∀ e, e ∈ es.toList -> knd.is k e.2 = false := λ e he => by simpa using List.findIdx?_eq_none_iff.mp hr e he
    dsimp only
    have hgw : ∀ (b : Bool) (s1z : Shared) (Q' : Unit -> Shared -> Prop), Q' () s1z -> wpAny (model prog w) A (match b with | true => rule "set.scan.the-table-gave-way" | false => pure ()) Q' E s1z :=
      λ b s1z Q' hq => by cases b <;> first | exact wpAny_pure hq | exact wpAny_rule hq
    have hperm := layNew_perm t es (knd.hash k) x
    have hfits := layNew_fits t es (knd.hash k) x
    have hled := layNew_led t es (knd.hash k) x
    have hpl := layNew_plain t es (knd.hash k) x
    generalize layNew t es (knd.hash k) x = R at hperm hfits hled hpl ⊢
    obtain ⟨es1, t1, wasDummy, gave⟩ := R
    dsimp only at hperm hfits hled hpl ⊢
    rw [Array.toList_push] at hperm
    have hlen : es1.size = es.size + 1 := by rw [<- Array.length_toList, hperm.length_eq, List.length_append, Array.length_toList]; rfl
    have hz1 : es1.size <= sizeLine := by
      have h1 : scanBound = 4096 := rfl
      have h2 : sizeLine = 2 ^ 24 := rfl
      ac_nf
    have tail : ∀ t2 : SetTable, t2.fits es1.size = true -> t2.led = t.led -> (t2.plain = true -> t.plain = true /\ plainKind x = true) -> wpAny (model prog w) A (do
        storeSet a es1 t2
        if (!wasDummy && t2.tooFull) = true then do
            (match (relayAll t2 es1 (SetTable.grown es1.size)).2.2 with | true => rule "set.scan.the-table-gave-way" | false => pure ())
            storeSet a (relayAll t2 es1 (SetTable.grown es1.size)).1 (relayAll t2 es1 (SetTable.grown es1.size)).2.1
            pure (some true)
          else pure (some true)) (λ r s' => r = some true /\ Q true s') E s := by
      intro t2 hf2 hl2 hp2
      refine wpAny_bind (wpAny_storeSet_of ho hd ?_ hz1)
      have hg : (s.heap.update a (Obj.putSet es1 t2)).get? a = some { o with data := .set es1 (ep + 1) t2 } := by
        have := Heap.get?_update_self (Obj.putSet es1 t2) ho (by rw [putSet_of es1 t2 hd]; rfl)
        rw [putSet_of es1 t2 hd] at this; exact this
      have hsb := Heap.SameBut.update s.heap a (Obj.putSet es1 t2)
      split
      . have hp := relayAll_perm t2 es1 (SetTable.grown es1.size)
        have hfr := relayAll_fits t2 es1 (SetTable.grown es1.size)
        have hlr := relayAll_led t2 es1 (SetTable.grown es1.size)
        have hpr := relayAll_plain t2 es1 (SetTable.grown es1.size)
        generalize relayAll t2 es1 (SetTable.grown es1.size) = R at hp hfr hlr hpr ⊢
        obtain ⟨es2, t3, gave2⟩ := R
        dsimp only at hp hfr hlr hpr ⊢
        have hlen2 : es2.size = es1.size := by rw [<- Array.length_toList, hp.length_eq, Array.length_toList]
        refine wpAny_bind (hgw _ _ _ ?_)
        refine wpAny_bind (wpAny_storeSet_of hg rfl (wpAny_pure ⟨rfl, new hno _ es2 (ep + 1 + 1) t3 (hsb.trans (Heap.SameBut.update _ a _)) ?_ (hp.trans hperm) hfr (hlr.trans hl2) (λ q => hp2 (hpr q))⟩) (by ac_nf))
        have := Heap.get?_update_self (Obj.putSet es2 t3) hg (by rw [putSet_of es2 t3 rfl]; rfl)
        rw [putSet_of es2 t3 rfl] at this; exact this
      . exact wpAny_pure ⟨rfl, new hno _ es1 (ep + 1) t2 hsb hg hperm hf2 hl2 hp2⟩
    refine wpAny_bind (hgw _ _ _ ?_)
    split
    . refine wpAny_bind ?_
      rw [hashByValue_scannable 8 hsc]
      refine wpAny_pure ?_
      refine wpAny_mono (tail _ ?_ ?_ ?_) (λ r s' ⟨hr, hq⟩ => by subst hr; exact wpAny_pure hq) λ o_ o_ x => x
      . split
        . exact hfits
        . exact SetTable.fits_plain_off hfits
      . split <;> exact hled
      . split
        . rename_i hk
          exact λ q => ⟨hpl q, hk⟩
        . exact λ q => Bool.noConfusion q
    . rename_i hnp
      refine wpAny_bind (wpAny_pure ?_)
      simp only [↓reduceIte]
      exact wpAny_mono (tail _ hfits hled λ q => absurd q hnp) (λ r s' ⟨hr, hq⟩ => by subst hr; exact wpAny_pure hq) λ o_ o_ x => x
theorem call_add_led {K : Type} [DecidableEq K] {prog : Program} {w : World} {knd : PySem.KeyKind prog w K} {A : Around} {E : Value -> Shared -> Prop} {a : Addr} {ob : Obj} {xs : List K} {k : K} {x : Value} {Q : Value -> Shared -> Prop} (hkey : knd.is k x = true) (hsc : x.scannable = true)
    (ho : s.heap.get? a = some ob) (hs : IsSetOf prog w knd ob xs) (hn : xs.length + 1 < scanBound) (h : ∀ h' ob', Heap.SameBut a s.heap h' -> h'.get? a = some ob' -> IsSetOf prog w knd ob' (qR xs k) -> Q .none { s with heap := h', toks := s.toks + 1 }) :
    wpAny (model prog w) A (call (.builtin "set.add") [.ref a, x]) Q E s := by
  have hT : s.TypeIs (.ref a) "set" := (IsSetOf.setOf ho hs).typeIs
  obtain ⟨es, ep, t, h1, h2, h3, h4, h5, h6, h7, h8, h9, h10⟩ := hs
  refine wpAny_call_entry F.slot_set_add hT F.entry_set_add ?_ (F.args_set_add_2 _ _)
  unfold Builtin.«set.add» Builtin.Frozenset.oneOther
  simp only [List.isEmpty_nil, bind_assoc]
  unfold Builtin.Frozenset.addrOf setAdd
  refine wpAny_bind (wpAny_pure ?_)
  try dsimp only
  refine wpAny_bind (wpAny_pure ?_)
  try dsimp only
  refine wpAny_bind ?_
  refine wpAny_holding ?_
  refine wpAny_bind (knd.pyHash hkey ?_)
  refine add_led (s := { s with toks := s.toks + 1 }) hkey hsc ho h2 h3 h6 (by ac_nf) (λ e he hk => ?_) (λ hno h' es' ep' t' hsb hg hp hf' hl' hpl' => ?_)
  . show wpAny _ _ (ret Value.none) _ _ _
    have hk' : k ∈ xs := (h4 k).mpr ⟨e, he, hk⟩
    refine wpAny_pure ⟨_, rfl, ?_⟩
    have := h s.heap ob (Heap.SameBut.refl a s.heap) ho (by unfold qR; rw [if_pos hk']; exact ⟨es, ep, t, h1, h2, h3, h4, h5, h6, h7, h8, h9, h10⟩)
    exact this
  . show wpAny _ _ (ret Value.none) _ _ _
    have hk' : k ∉ xs := λ q => by
      obtain ⟨e, he, hk⟩ := (h4 k).mp q
      rw [hno e he] at hk; cases hk
    refine wpAny_pure ⟨_, rfl, h h' _ hsb hg ?_⟩
    have hlen : es'.size = es.size + 1 := by rw [<- Array.length_toList, hp.length_eq, List.length_append, Array.length_toList]; rfl
    refine ⟨es', ep', t', h1, rfl, (h3.push hkey hsc).perm hp, λ k' => ?_, by ac_nf, hf', ?_, addTo_nodup h8, hl'.trans h9, λ q e he => ?_⟩
    . rw [jC]
      have := mem_push_iff (S := λ k' => decide (k' ∈ xs)) hkey (λ k' => by rw [decide_eq_true_iff]; exact h4 k') hp k'
      rw [Bool.or_eq_true, decide_eq_true_iff, decide_eq_true_iff] at this
      exact this
    . unfold qR
      rw [if_neg hk', List.length_append, hlen, h7]; rfl
    . rcases List.mem_append.mp (hp.mem_iff.mp he) with he | he
      . exact h10 (hpl' q).1 e he
      . rw [List.mem_singleton.mp he]; exact (hpl' q).2
theorem new_set {K : Type} [DecidableEq K] {prog : Program} {w : World} {knd : PySem.KeyKind prog w K} : IsSetOf prog w knd { cls := .type "set", dict := none, data := .set #[] 0 (.fresh 0 0 (!w.params.followText "set-order")) } [] :=
  ⟨#[], 0, _, ⟨rfl, rfl, rfl⟩, rfl, λ e he => by simp at he, λ k => by simp, by decide, by rfl, rfl, List.nodup_nil, rfl, λ o_ e he => by simp at he⟩
theorem code_set_led {prog : Program} {w : World} {A : Around} {E : Value -> Shared -> Prop} {Q₁ : Value -> Shared -> Prop}
    (h : Q₁ (.ref s.heap.objs.size) { s with heap := s.heap.push { cls := .type "set", dict := none, data := .set #[] 0 (.fresh 0 0 (!w.params.followText "set-order")) } }) :
    codeAny (model prog w) A (.call (.builtin "set.__new__") ⟨[.type "set"], []⟩) (wants Q₁ E) s := by
  refine codeAny_of_tree ?_
  show wpAny _ A.in1 (do checkBuiltinCall "set.__new__" ⟨[.type "set"], []⟩; again (.builtin "set.__new__" ⟨[.type "set"], []⟩)) _ _ s
  refine wpAny_bind (wpAny_of_eq F.newCall_set_0 (wpAny_pure ⟨plainId_quiet F.plain_set_new _, codeAny_builtin F.entry_set_new ?_⟩))
  rw [Around.under_plainId F.plain_set_new _]
  unfold Builtin.«set.__new__» Builtin.Frozenset.newClass
  have hsub := sub_set_self
  obtain ⟨hp, g, d, tk, os⟩ := s
  dsimp only
  wp_walk
  refine wpAny_askSetting (wpAny_pure ?_)
  dsimp only
  simp only [newObj]
  refine wpAny_bind (wpAny_alloc (wpAny_pure ?_))
  exact wpAny_pure h
theorem call_set_led {prog : Program} {w : World} {A : Around} {E : Value -> Shared -> Prop} {Q : Value -> Shared -> Prop}
    (h : Q (.ref s.heap.objs.size) { s with heap := s.heap.push { cls := .type "set", dict := none, data := .set #[] 0 (.fresh 0 0 (!w.params.followText "set-order")) } }) :
    wpAny (model prog w) A (call (.type "set") []) Q E s := by
  obtain ⟨c, tl, hmro⟩ := F.called_set.mro
  have hmade := F.called_set.made
  have hsub := F.called_set.sub
  refine wpAny_call (codeAny_of_tree ?_)
  show wpAny _ _ (callAny (.type "set") _) _ _ _
  refine wpAny_pure ⟨Code.quiet_builtin _ (by decide +kernel), codeAny_builtin F.entry_type_call ?_⟩
  rw [Around.under_plain (weight_type_call_type "set" [] []) rfl]
  have h1 := F.called_set.notType
  have h2 := F.called_set.canCreate
  have hct := F.typeCall_set_0
  repeat (any_goals (first | assumption | wp_step))
  refine codeAny_mono (code_set_led (E := E) (Q₁ := λ obj s1z => obj = .ref s.heap.objs.size /\ s1z = { s with heap := s.heap.push { cls := .type "set", dict := none, data := .set #[] 0 (.fresh 0 0 (!w.params.followText "set-order")) } }) ⟨rfl, rfl⟩) λ r s1z hr => ?_
  cases r with
  | error e => exact hr
  | ok fl =>
    cases fl with
    | ret obj =>
      obtain ⟨rfl, rfl⟩ := hr
      have hS : (s.heap.push { cls := .type "set", dict := none, data := .set #[] 0 (.fresh 0 0 (!w.params.followText "set-order")) }).get? s.heap.objs.size = some { cls := .type "set", dict := none, data := .set #[] 0 (.fresh 0 0 (!w.params.followText "set-order")) } := Heap.get?_push_size _ rfl
      have hT : Shared.TypeIs { s with heap := s.heap.push { cls := .type "set", dict := none, data := .set #[] 0 (.fresh 0 0 (!w.params.followText "set-order")) } } (.ref s.heap.objs.size) "set" := ⟨_, hS, rfl⟩
      have hli := F.called_set.init.lookup
      have hbi := F.called_set.init.bind (.ref s.heap.objs.size)
      repeat (any_goals (first | assumption | wp_step))
      refine codeAny_mono (codeAny_call_builtin (R := wants (λ r s2z => r = .none /\ Q (.ref s.heap.objs.size) s2z) E) F.called_set.init.plain F.entry_set_init (check_set_init hT ?_)) λ r2z s2z hr2 => ?_
      . unfold Builtin.«set.__init__» noKeywords
        wp_walk
        exact ⟨rfl, h⟩
      . cases r2z with
        | error e => exact hr2
        | ok fl2 =>
          cases fl2 with
          | ret r =>
            obtain ⟨rfl, hq⟩ := hr2
            repeat (any_goals (first | assumption | wp_step))
          | _ => exact hr2.elim
    | _ => exact hr.elim
theorem ye {Φ : Value -> St -> Prop} (h : New S (.iset []) Φ) : zO X A L (.type "set") [] S Φ := λ cs hcs C s hB R => by
  rw [map0 hcs]
  exact call_set_led ⟨_, R.push (o := .iset []) rfl new_set _, h _ (R.fresh (zJ _)).2.1⟩
theorem call_set0s {Φ : Value -> St -> Prop} (h : New S (.sset []) Φ) : zO X A L (.type "set") [] S Φ := λ cs hcs C s hB R => by
  rw [map0 hcs]
  exact call_set_led ⟨_, R.push (o := .sset []) rfl new_set _, h _ (R.fresh (zJ _)).2.1⟩
theorem call_addI {a : Addr} {xs : List Int} {i : Int} {Φ : Value -> St -> Prop} (ha : S.H a = some (.iset xs)) (hn : xs.length + 1 < scanBound) (h : Φ .none { S with H := zD S.H a (.iset (qR xs i)) }) : zO X A L (.builtin "set.add") [.ref a, .int i 0] S Φ := λ cs hcs C s hB R => by
  obtain ⟨c, d, rfl, hc, hd⟩ := map2 hcs
  rw [zC hc]
  obtain ⟨u, rfl⟩ := zQ hd
  obtain ⟨ob, ho, hs⟩ := R.get ha
  exact call_add_led (knd := PySem.intKind X.prog X.w) (int_is i u) rfl ho hs hn λ h' ob' hb hg hs' => ⟨_, R.turn ha (λ b o hb' q => (hb.2 b hb').trans q) (o := .iset (qR xs i)) ⟨ob', hg, hs'⟩ rfl rfl, h⟩
theorem call_addS {a : Addr} {xs : List Str} {i : Str} {Φ : Value -> St -> Prop} (ha : S.H a = some (.sset xs)) (hn : xs.length + 1 < scanBound) (h : Φ .none { S with H := zD S.H a (.sset (qR xs i)) }) : zO X A L (.builtin "set.add") [.ref a, .str i 0] S Φ := λ cs hcs C s hB R => by
  obtain ⟨c, d, rfl, hc, hd⟩ := map2 hcs
  rw [zC hc]
  obtain ⟨u, rfl⟩ := zf hd
  obtain ⟨ob, ho, hs⟩ := R.get ha
  exact call_add_led (knd := PySem.strKind X.prog X.w) (yM i u) rfl ho hs hn λ h' ob' hb hg hs' => ⟨_, R.turn ha (λ b o hb' q => (hb.2 b hb').trans q) (o := .sset (qR xs i)) ⟨ob', hg, hs'⟩ rfl rfl, h⟩
theorem cmp_inISet {a : Addr} {xs : List Int} {i : Int} {Φ : Value -> St -> Prop} (ha : S.H a = some (.iset xs)) (h : Φ (.bool (decide (i ∈ xs))) S) : yL X A L .In (.int i 0) (.ref a) S Φ := by
  intro c d hc hd C s hB R
  obtain ⟨u, rfl⟩ := zQ hc
  rw [zC hd]
  obtain ⟨ob, ho, hs⟩ := R.get ha
  exact wpAny_inSet_of (knd := PySem.intKind X.prog X.w) (int_is i u) rfl (IsSetOf.setOf ho hs) ⟨S, R.tok _, h⟩
theorem meth_addSet {a : Addr} {o : AO} {Ψ : Value -> List Value -> St -> Prop} (hl : S.H a = some o) (hd : (∃ xs, o = .iset xs) \/ ∃ xs, o = .sset xs) (h : Ψ (.builtin "set.add") [.ref a] S) : yf X A L (.ref a) "add" S Ψ := λ c hc pl C s hB R => by
  rw [zC hc]
  rcases hd with ⟨xs, rfl⟩ | ⟨xs, rfl⟩
  . obtain ⟨ob, ho, hs⟩ := R.get hl
    exact getMethod_set_add (IsSetOf.setOf ho hs) ⟨S, R, h⟩
  . obtain ⟨ob, ho, hs⟩ := R.get hl
    exact getMethod_set_add (IsSetOf.setOf ho hs) ⟨S, R, h⟩
end
section
variable {X : Wd} {A : Around} {L : Addr} {S : St} {env : Env} {C : Cx} {s : Shared}
noncomputable def putAll (m : Str -> Option Value) : List Str -> List Value -> Str -> Option Value
  | x :: xs, v :: vs => putAll (zb m x v) xs vs
  | _, _ => m
theorem bind_all {names : List Str} : ∀ {cs vs : List Value} {S : St} {Q : St -> Prop} {s : Shared}, cs.map er = vs -> (names.all λ x => env.kindOf x == some .local) = true -> env.locals = L ->
    (env.scope.kind == .class || (env.scope.kind == .module && env.locals != env.globals)) = false -> X.le C -> Rep X C L S s -> Q { S with m := putAll S.m names vs } ->
    wpAny (model X.prog X.w) A (assignInOrder (names.map λ n => bindName env n) cs) (λ o_ => Got X C L (Q)) Fa s := by
  induction names with
  | nil => intro cs vs S Q s e hn hL hp hB R h; cases cs <;> exact wpAny_pure ⟨S, R, h⟩
  | cons x xs ih =>
    intro cs vs S Q s e hn hL hp hB R h
    rw [List.all_cons, Bool.and_eq_true] at hn
    cases cs with
    | nil => cases vs with
      | nil => exact wpAny_pure ⟨S, R, h⟩
      | cons v vs => cases e
    | cons c cs => cases vs with
      | nil => cases e
      | cons v vs =>
        rw [List.map_cons, List.cons.injEq] at e
        refine wpAny_bind (wpAny_holding (wpAny_bindName ?_))
        refine wpAny_mono (wp_store (Φ := λ o_ S' => S' = { S with m := zb S.m x v }) e.1 rfl (eq_of_beq hn.1) hL hp C s hB R) (λ o_ s' ⟨S', R', hS'⟩ => ?_) λ o_ o_ x => x.elim
        subst hS'
        exact ih e.2 hn.2 hL hp hB R' h
theorem qZ {elts : List Expr} {k : Nat} {tpos pos : Pos} {value : Expr} {names : List Str} {Φ : Flow -> St -> Prop} (hh : A.handled = none)
    (h : EV X A L (eval value env) S λ v S1 => ∃ t vs, v = .ref t /\ S1.H t = some (.tup (.type "tuple") vs) /\ names.length = vs.length /\ Φ .next { S1 with m := putAll S1.m names.reverse vs.reverse })
    (hn : true = (names.reverse.all λ x => env.kindOf x == some .local) := by with_unfolding_all rfl) (hL : L = env.locals := by with_unfolding_all rfl)
    (hp : false = (env.scope.kind == .class || (env.scope.kind == .module && env.locals != env.globals)) := by with_unfolding_all rfl)
    (hs : pure false = swapsWithSole [.Tuple elts k tpos] value pos.line env := by with_unfolding_all rfl)
    (hw : pure (some names) = swappedStores [.Tuple elts k tpos] value env := by with_unfolding_all rfl) : Wp X A L (exec (.Assign [.Tuple elts k tpos] value pos) env) S Φ := λ C s hB R =>
  have hn := hn.symm; have hL := hL.symm; have hp := hp.symm; have hs := hs.symm; have hw := hw.symm
  Assign_Tuple_swapped (h.then hB R λ c S1 s1z R1z ⟨t, vs, hc, ht, hlen, hΦ⟩ => by
    rw [zC hc]
    obtain ⟨items, ep, ho, e⟩ := R1z.tup ht
    rw [hlen, <- zP e]
    refine wpAny_unpackItems_tuple hh (ya ho) λ h' hx => ?_
    exact wpAny_mono (bind_all (names := names.reverse) (Q := λ S' => Φ .next S') (vs := vs.reverse) (by rw [List.map_reverse, e]) hn hL hp hB (R1z.extNew hx) hΦ) (λ o_ s' ⟨S', R', p⟩ => ⟨S', R', p⟩) λ o_ o_ x => x) hs hw
end
section
variable {X : Wd} {A : Around} {L : Addr} {S : St} {env : Env} {C : Cx} {s : Shared}
def Numbers (vs : List Value) (k : Nat) (u : Value) (S S1 : St) : Prop := ∃ t v, S.H t = none /\ u = .ref t /\ vs[k]? = some v /\ S1 = { S with H := zD S.H t (.tup (.type "tuple") [.int k 0, v]) }
theorem walk_enum {ts : List Expr} {x1 : Nat} {tp : Pos} {e it l : Addr} {vs : List Value} (hh : A.handled = none) (hne : e ≠ it) : Walk X A (.Tuple ts x1 tp) (.ref e) [e, it] vs.length (λ H => H l = some (.list vs)) (λ k h => (∃ old, IsEnum h e it k old) /\ h.IsListIter it l k) (Numbers vs) := by
  refine ⟨?_, ?_, λ k s Q E h q => ?_, ?_, ?_⟩
  . rintro k h h' ⟨⟨old, he⟩, o, ho, r⟩ hk
    exact ⟨⟨old, hk e (by simp) _ he⟩, o, hk it (by simp) _ ho, r⟩
  . rintro k h ⟨⟨old, he⟩, o, ho, r⟩ b hb
    simp only [List.mem_cons, List.not_mem_nil, or_false] at hb
    rcases hb with rfl | rfl
    . exact ⟨_, he⟩
    . exact ⟨_, ho⟩
  . obtain ⟨⟨old, he⟩, _⟩ := h
    exact wpAny_pyIter_enum he q
  . intro k hk L' C' S' s' hB' R' hd' hl' ⟨⟨old, he⟩, hit⟩
    obtain ⟨items, ep, ho, ee⟩ := R'.list hl'
    obtain ⟨x, hx, hxe⟩ := yP ee (List.getElem?_eq_getElem hk)
    refine wpAny_pyNext_enum_item he hit (zL ho) hx hne λ h₁ heo hit1 ht1z hz1z hk1z => ⟨_, rfl, ?_⟩
    refine wpAny_letOwnedTupleGo_enum heo λ h2z he2 hs2 => ?_
    have fr := R'.fresh (zJ s'.heap)
    have heN : e ≠ s'.heap.objs.size := Nat.ne_of_lt (Heap.lt_size he)
    have keep : ∀ b o, b ∉ [e, it] -> s'.heap.get? b = some o -> h2z.get? b = some o := λ b o hb q => by
      simp only [List.mem_cons, List.not_mem_nil, or_false, not_or] at hb
      exact (hs2.2 b hb.1).trans (hk1z b o hb.1 hb.2 q)
    have R1z : Rep X C' L' S' { s' with heap := h2z, toks := s'.toks + 1 } := R'.hid hd' keep rfl rfl
    have ht2z : h2z.get? s'.heap.objs.size = some { cls := .type "tuple", data := .seq #[.int k s'.toks, x] } := (hs2.2 _ (Ne.symm heN)).trans ht1z
    refine ⟨_, R1z.put (λ b o o_ q => q) fr.1 fr.2.2 (o := .tup (.type "tuple") [.int k 0, er x]) ⟨_, ht2z, _, _, rfl, rfl⟩ rfl rfl, λ b hb => ?_, ⟨_, er x, fr.2.1, rfl, ?_, rfl⟩, ⟨x, he2⟩, ?_⟩
    . have := hd' b hb
      refine ⟨this.1, ?_, this.2.2⟩
      show zD S'.H _ _ b = none
      rw [zE _ ?_]
      . exact this.2.1
      . simp only [List.mem_cons, List.not_mem_nil, or_false] at hb
        rcases hb with rfl | rfl
        . exact heN
        . obtain ⟨o, ho, _⟩ := hit; exact Nat.ne_of_lt (Heap.lt_size ho)
    . rw [hxe]; exact List.getElem?_eq_getElem hk
    . obtain ⟨o, ho, r⟩ := hit1
      exact ⟨o, (hs2.2 it (Ne.symm hne)).trans ho, r⟩
  . intro L' C' S' s' hB' R' hd' hl' ⟨⟨old, he⟩, hit⟩
    obtain ⟨items, ep, ho, ee⟩ := R'.list hl'
    refine wpAny_pyNext_enum_end hh he hit (zL ho) (Array.getElem?_eq_none (by rw [zP ee]; exact Nat.le_refl _)) (λ h' hs' => ⟨rfl, ?_⟩)
    exact R'.hid hd' (λ b o hb q => hs' b o (λ z => hb (by rw [z]; simp)) q) rfl rfl
end
section
variable {X : Wd} {A : Around} {L : Addr} {S : St} {env : Env}
inductive EnumE (X : Wd) (A : Around) (L : Addr) (target : Expr) (body : List Stmt) (env : Env) (v : Value) (S1 : St) (Φ : Flow -> St -> Prop) : Prop
  | mk (l : Addr) (vs : List Value) (I : Nat -> St -> Prop) (hc : v = .ref l) (hl : S1.H l = some (.list vs)) (h0 : I 0 S1) (hsrc : ∀ k S, I k S -> S.H l = some (.list vs))
    (step : ∀ k S u S1, k < vs.length -> I k S -> Numbers vs k u S S1 -> qs X A L target env u S1 λ S2 => Wp X A L (execs body env) S2 (Turn (I (k + 1)) Φ)) (fin : ∀ S, I vs.length S -> Φ .next S)
theorem ex_ForEnum {ts : List Expr} {x1 : Nat} {tp np cp pos : Pos} {nm : Str} {a : Expr} {body : List Stmt} {Φ : Flow -> St -> Prop} (hh : A.handled = none) (hv : qG X env.globals env.builtins nm (.type "enumerate"))
    (h : EV X A L (eval a env) S λ v S1 => EnumE X A L (.Tuple ts x1 tp) body env v S1 Φ)
    (he : starEach [a] env = (false, eval a env) :: starEach [] env := by rfl)
    (hk : env.scope.kind = .function := by rfl) (hx : env.kindOf nm = some .globalImplicit := by rfl) (hd : (nm == ("__debug__" : Str)) = false := by decide)
    (hs : ∀ x, pure x = foldedSetIterable (.Call (.Name nm np) [a] [] cp) env x := by intro _; with_unfolding_all rfl) :
    Wp X A L (exec (.For (.Tuple ts x1 tp) (.Call (.Name nm np) [a] [] cp) body [] pos) env) S Φ := λ C s hB R => by
  obtain ⟨mg, mb, hg, hm, hb, e⟩ := hv _ (R.kept hB)
  refine wpAny_For (wpAny_Call_NameR (Calls.Name_function_global hk hx (Calls.loadGlobal_builtin hg hm hb e (PySem.Pv.callWith_type1 (wpAny_items_cons ?_ he) he rfl)) hd)) (λ z => (hs z).symm)
  refine Wp.then hB R h λ c S1 s1z R1z ⟨l, vs, I, hc, hl, h0, hsrc, step, fin⟩ => wpAny_items_nil ?_
  rw [zC hc]
  obtain ⟨items, ep, ho, ee⟩ := R1z.list hl
  refine call_enumerate_list (zL ho) λ h' hE hI hz hk' => ?_
  refine wpAny_pyIter_enum hE ?_
  have n1 : s1z.heap.get? s1z.heap.objs.size = none := zJ _
  have n2 : s1z.heap.get? (s1z.heap.objs.size + 1) = none := Heap.get?_none_of_le (Nat.le_succ _)
  refine for_core I (walk_enum hh (Nat.succ_ne_self _)) hB (R1z.ext hk' rfl rfl) (λ b hb => ?_) ⟨⟨_, hE⟩, hI⟩ h0 hsrc step fin (λ f S' s' R' p => ⟨S', R', p⟩)
  simp only [List.mem_cons, List.not_mem_nil, or_false] at hb
  rcases hb with rfl | rfl
  . exact R1z.fresh n2
  . exact R1z.fresh n1
end
section
variable {X : Wd} {A : Around} {L : Addr} {S : St} {env : Env} {C : Cx} {s : Shared}
theorem qq (hh : A.handled = none) {x : Str} {Φ : Value -> St -> Prop} (hx : x.cps.size <= sizeLine) (h : New S (.tup (.type "tuple") (zZ (signs x))) Φ) : zO X A L (.type "tuple") [.str x 0] S Φ := λ cs hcs C s hB R => by
  obtain ⟨c, rfl, hc⟩ := yX hcs
  obtain ⟨t, rfl⟩ := zf hc
  refine call_tuple_str hh x t (λ h' tk acc hk hacc => ?_)
  have R1z : Rep X C L S { s with heap := h', toks := s.toks } := R.ext hk rfl rfl
  refine ⟨_, R1z.push (o := .tup (.type "tuple") (zZ (signs x))) rfl ⟨_, _, rfl, ?_⟩ _, h _ (R1z.fresh (zJ _)).2.1⟩
  obtain ⟨hz, hall⟩ := hacc
  apply List.ext_getElem?
  intro i
  show (acc.toList.map er)[i]? = ((x.cps.toList.map λ n => (⟨#[n]⟩ : Str)).map (Value.str · 0))[i]?
  rw [List.getElem?_map, List.getElem?_map, List.getElem?_map, Array.getElem?_toList, Array.getElem?_toList]
  by_cases hi : i < acc.size
  . rw [Array.getElem?_eq_getElem hi]
    obtain ⟨c, u, hc, hv⟩ := hall i _ (Array.getElem?_eq_getElem hi)
    rw [hv, hc]; rfl
  . rw [Array.getElem?_eq_none (by ac_nf), Array.getElem?_eq_none (by ac_nf)]; rfl
theorem call_listList {a : Addr} {vs : List Value} {Φ : Value -> St -> Prop} (ha : S.H a = some (.list vs)) (hn : vs.length <= sizeLine) (h : New S (.list vs) Φ) : zO X A L (.type "list") [.ref a] S Φ := λ cs hcs C s hB R => by
  obtain ⟨c, rfl, hc⟩ := yX hcs
  rw [zC hc]
  obtain ⟨items, ep, ho, e⟩ := R.list ha
  refine call_list_seq a (.inl rfl) ho rfl rfl (λ h' c' hk hn' => ?_) (by rw [zP e]; exact hn)
  have R1z : Rep X C L S { s with heap := h', toks := s.toks } := R.ext hk rfl rfl
  have f := R.fresh (zJ s.heap)
  exact ⟨_, R1z.put (λ b o o_ q => q) f.1 f.2.2 (o := .list vs) ⟨_, hn', _, _, rfl, e⟩ rfl rfl, h _ f.2.1⟩
end
section
variable {X : Wd} {A : Around} {L : Addr} {S : St} {env : Env} {C : Cx} {s : Shared}
noncomputable def takeS (x : Str) (n : Nat) : Str := ⟨(x.cps.toList.take n).toArray⟩
theorem picked_upto (x : Str) (n : Nat) (u : Tok) : slicePicked x none (some ((n : Int), u)) none = List.range (min n x.cps.size) := by
  unfold slicePicked Builtin.Str.strSliceIndices
  show sliceRange 0 (max 0 (min (if (n : Int) < 0 then (n : Int) + (x.length : Nat) else (n : Int)) (x.length : Nat))) 1 = _
  rw [if_neg (by ac_nf)]
  unfold sliceRange
  have hl : (x.length : Int) = (x.cps.size : Int) := rfl
  have hc : (if (1 : Int) > 0 then (if (0 : Int) < max 0 (min (n : Int) (x.length : Nat)) then (max 0 (min (n : Int) (x.length : Nat)) - 0 + 1 - 1) / 1 else 0) else (if (0 : Int) > max 0 (min (n : Int) (x.length : Nat)) then (0 - max 0 (min (n : Int) (x.length : Nat)) - 1 - 1) / (-1) else 0)).toNat = min n x.cps.size := by
    have hX : max 0 (min (n : Int) (x.length : Nat)) = ((min n x.cps.size : Nat) : Int) := by
      show max 0 (min (n : Int) (x.cps.size : Nat)) = _
      rw [<- Lean.Omega.Int.ofNat_min, Int.max_eq_right (Int.natCast_nonneg _)]
    rw [if_pos (by decide), hX]
    generalize min n x.cps.size = m
    by_cases h : (0 : Int) < (m : Int)
    . rw [if_pos h, Int.ediv_one, Int.sub_zero, Int.add_sub_cancel]; rfl
    . rw [if_neg h]; exact (Nat.eq_zero_of_not_pos λ p => h (Int.ofNat_lt.mpr p)).symm
  simp only [] at hc ⊢
  rw [hc]
  have : (λ (k : Nat) => ((0 : Int) + 1 * (k : Int)).toNat) = id := by
    funext k
    show ((0 : Int) + 1 * (k : Int)).toNat = k
    ac_nf
  rw [this, List.map_id]
set_option tactic.hygienic true in
theorem item_strUpto {sl : Addr} {x : Str} {n : Nat} {Φ : Value -> St -> Prop} (hs : S.H sl = some (.slice none (some (n : Int)) none)) (h : Φ (.str (takeS x n) 0) S) (hx : x.cps.size <= sizeLine) : jJ X A L (.str x 0) (.ref sl) S Φ := by
  intro c d hc hd C s hB R
  obtain ⟨t, rfl⟩ := zf hc
  rw [zC hd]
  obtain ⟨ob, hos, vl, vu, w, rfl, pl, pu, ps⟩ := R.get hs
  cases pl; cases ps; cases pu
  rename_i u
  refine ⟨⟨"str", _, slot_str_getitem.lookup, rfl⟩, wpAny_getItem_str_slice (l := none) (u := some ((n : Int), u)) (st := none) ⟨_, hos, rfl, rfl⟩ rfl ?_⟩
  have hpick : (slicePicked x none (some ((n : Int), u)) none).filterMap (x.cps[·]?) = x.cps.toList.take n := by
    rw [picked_upto]
    have e : (λ (k : Nat) => x.cps[k]?) = λ (k : Nat) => x.cps.toList[k]? := by funext k; rw [Array.getElem?_toList]
    rw [e, range_pick _ _ (by rw [Array.length_toList]; ac_nf)]
    by_cases hn : n <= x.cps.size
    . rw [Nat.min_eq_left hn]
    . rw [Nat.min_eq_right (by ac_nf), List.take_of_length_le (by rw [Array.length_toList]; exact Nat.le_refl _), List.take_of_length_le (by rw [Array.length_toList]; ac_nf)]
  unfold sliceMade
  split
  . rename_i hc
    have hlen : (slicePicked x none (some ((n : Int), u)) none).length = x.length := by
      rw [Bool.and_eq_true] at hc; exact eq_of_beq hc.2
    have hle : x.cps.size <= n := by
      rw [picked_upto, List.length_range] at hlen
      have : x.length = x.cps.size := rfl
      ac_nf
    have : takeS x n = x := by
      unfold takeS
      rw [List.take_of_length_le (by rw [Array.length_toList]; exact hle)]
    rw [this] at h
    exact ⟨S, R, h⟩
  . rw [hpick]
    refine ⟨?_, S, R.tok _, h⟩
    show (x.cps.toList.take n).toArray.size <= sizeLine
    rw [List.size_toArray, List.length_take, Array.length_toList]
    ac_nf
end
theorem owner_set_iterator : Manifest.owners.lookup (String.ofList ['r', 'o', 't', 'a', 'r', 'e', 't', 'i', '_', 't', 'e', 's'].reverse) = some Manifest.sig_set_iterator := by kernel_rfl
theorem zx : Slot "set_iterator" "__next__" "set_iterator.__next__" :=
  .of (owner := "set_iterator") (n := "__next__") (by rw [typeLookup_type, builtinLookup_eq_fast]; kernel_rfl) (by decide +kernel) (by decide +kernel) (by decide +kernel)
    (by first | exact .inl (by decide +kernel) | exact .inr (by decide +kernel)) (by rw [isSubtype_type]; kernel_rfl)
theorem jH : entryFor table "set_iterator.__next__" = some Builtin.«set_iterator.__next__» := entryFor_of_tree (by kernel_rfl)
theorem args_setit_next (a : Value) : argsOk "set_iterator.__next__" ⟨[a], []⟩ := by
  unfold argsOk; rw [signature?_of (id := "set_iterator.__next__") (n := ['_', '_', 't', 'x', 'e', 'n', '_', '_']) (o := ['r', 'o', 't', 'a', 'r', 'e', 't', 'i', '_', 't', 'e', 's']) (by kernel_rfl) owner_set_iterator]; kernel_rfl
theorem entry_set_iter : entryFor table "set.__iter__" = some Builtin.«frozenset.__iter__» :=
  entryFor_alias (id' := "frozenset.__iter__") (by kernel_rfl) rfl (by decide +kernel) (by kernel_rfl)
section
variable {prog : Program} {w : World} {A : Around} {E : Value -> Shared -> Prop} {s : Shared}
theorem erase_perm {α : Type} : ∀ (l : List α) (i : Nat) (h : i < l.length), (l[i] :: l.eraseIdx i).Perm l
  | [], i, h => by cases h
  | a :: l, 0, h => List.Perm.refl _
  | a :: l, i + 1, h => by
    show (l[i]'(Nat.lt_of_succ_lt_succ h) :: a :: l.eraseIdx i).Perm (a :: l)
    exact (List.Perm.swap _ _ _).trans ((erase_perm l i (by simpa using h)).cons a)
theorem wpAny_choose {src : Source} {n : Nat} {Q : Nat -> Shared -> Prop} (hn : n ≠ 0) (h : ∀ i d, i < n -> Q i { s with drawn := d }) : wpAny (model prog w) A (choose src n) Q E s := λ Γ p o_ => by
  unfold choose
  rw [Sem.wp_choose]
  exact ⟨hn, h _ _ (Nat.mod_lt _ (Nat.pos_of_ne_zero hn))⟩
theorem wpAny_drawOrder {α : Type} : ∀ (n : Nat) (xs : List α) (s : Shared) (Q : List α -> Shared -> Prop), xs.length = n -> (∀ ys d, ys.Perm xs -> Q ys { s with drawn := d }) -> wpAny (model prog w) A (drawOrder n xs) Q E s
  | 0, xs, s, Q, h, hQ => by
    rw [List.length_eq_zero_iff.mp h]
    unfold drawOrder
    exact wpAny_pure (hQ [] s.drawn (by rw [List.length_eq_zero_iff.mp h]))
  | n + 1, [], s, Q, h, hQ => by cases h
  | n + 1, x :: xs, s, Q, h, hQ => by
    unfold drawOrder
    refine wpAny_bind (wpAny_choose (by rw [h]; exact Nat.succ_ne_zero n) λ i d hi => ?_)
    rw [List.getElem?_eq_getElem hi]
    dsimp only
    refine wpAny_bind (wpAny_drawOrder n _ _ _ (by rw [List.length_eraseIdx_of_lt hi, h]; rfl) λ ys d' hp => wpAny_pure ?_)
    refine hQ _ d' ?_
    exact (hp.cons _).trans (erase_perm _ _ hi)
theorem pickGo_perm {α : Type} (next : Nat -> Nat) : ∀ (yh k : Nat) (left : List α) (out : Array α), left.length = yh -> (pickOrder.go next yh k left out).toList.Perm (out.toList ++ left)
  | 0, k, left, out, h => by
    rw [List.length_eq_zero_iff.mp h]
    unfold pickOrder.go
    rw [List.append_nil]
  | yh + 1, k, left, out, h => by
    unfold pickOrder.go
    have hi : next k % left.length < left.length := Nat.mod_lt _ (by ac_nf)
    rw [List.getElem?_eq_getElem hi]
    dsimp only
    refine (pickGo_perm next yh (k + 1) _ _ (by rw [List.length_eraseIdx_of_lt hi, h]; rfl)).trans ?_
    rw [Array.toList_push, List.append_assoc]
    exact List.Perm.append_left _ (erase_perm _ _ hi)
theorem pickOrder_perm {α : Type} (next : Nat -> Nat) (xs : Array α) : (pickOrder next xs).toList.Perm xs.toList := by
  have := pickGo_perm next xs.size 0 xs.toList #[] (Array.length_toList)
  rw [List.nil_append] at this
  exact this
def SetIt (h : Heap) (it : Addr) (first : Value) (k : Nat) (a : Addr) (n ep : Nat) : Prop := h.get? it = some ⟨.type "set_iterator", none, .fields #[first, .int k 0, .ref a, .int n 0, .int ep 0], #[]⟩
def SetGo (w : World) (a : Addr) (es : Array (Int × Value)) (ep : Nat) (t : SetTable) (order : List (Int × Value)) (h : Heap) (k : Nat) (first : Value) (f : Option Addr) : Prop :=
  (w.params.followText "set-order" = true /\ order = (pickOrder (w.params.setOrder a ep) es).toList /\ first = .int 0 0 /\ f = none) \/
  (w.params.followText "set-order" = false /\ ∃ p, f = some p /\ first = .ref p /\ ∃ places : List Nat, h.get? p = some ⟨.type "tuple", none, .seq (places.map λ (i : Nat) => Value.int i 0).toArray 0, #[]⟩ /\ places.map (λ i => es[i]?) = order.map some) \/
  (w.params.followText "set-order" = false /\ t.led = true /\ es.size <= 1 /\ order = es.toList /\ f = none /\ ((k = 0 /\ first = .int 0 0) \/ (k = 1 /\ ∃ j : Nat, t.place[0]? = some j /\ first = .int ((j + 1 : Nat) : Int) 0)))
theorem SetGo.at {a : Addr} {es : Array (Int × Value)} {ep : Nat} {t : SetTable} {order : List (Int × Value)} {h h' : Heap} {k : Nat} {first : Value} {f : Option Addr} (x : SetGo w a es ep t order h k first f) (hk : ∀ p, f = some p -> ∀ o, h.get? p = some o -> h'.get? p = some o) : SetGo w a es ep t order h' k first f := by
  rcases x with x | ⟨h1, p, hf, h2, pl, h3, h4⟩ | x
  . exact .inl x
  . exact .inr (.inl ⟨h1, p, hf, h2, pl, hk p hf _ h3, h4⟩)
  . exact .inr (.inr x)
theorem set_iter {a : Addr} {o : Obj} {es : Array (Int × Value)} {ep : Nat} {t : SetTable} {Q : Value -> Shared -> Prop} (ho : s.heap.get? a = some o) (hex : o.ExactSet) (hd : o.data = .set es ep t) (hf : t.fits es.size = true) (hn : es.size < scanBound)
    (hl : t.led = !w.params.followText "set-order") (hp : t.plain = true -> es.size = 0)
    (h : ∀ it h' d order first f, s.heap.get? it = none -> (∀ p, f = some p -> s.heap.get? p = none /\ p ≠ it) -> (∀ b o, s.heap.get? b = some o -> h'.get? b = some o) -> order.Perm es.toList -> SetGo w a es ep t order h' 0 first f -> SetIt h' it first 0 a es.size ep -> Q (.ref it) { s with heap := h', drawn := d }) :
    wpAny (model prog w) A (pyIter (.ref a)) Q E s := by
  have hT : s.TypeIs (.ref a) "set" := ⟨o, ho, hex.1⟩
  have hz : sizeLine = 2 ^ 24 := rfl
  have hs : scanBound = 4096 := rfl
  refine wpAny_pyIter_slot hT F.slot_set_iter (wpAny_call_entry F.slot_set_iter hT entry_set_iter ?_ (F.args_set_iter_1 _))
  unfold Builtin.«frozenset.__iter__» Builtin.Frozenset.slot0 slotArgs
  simp -iota only [List.isEmpty_nil, Bool.not_true, Bool.false_eq_true, ↓reduceIte, bind_assoc, List.length_nil, bne_self_eq_false]
  unfold Builtin.Frozenset.addrOf Builtin.Frozenset.sizeOf
  refine wpAny_bind (wpAny_pure ?_)
  try dsimp only
  refine wpAny_bind (wpAny_pure ?_)
  refine wpAny_bind (wpAny_bind (wpAny_setEntries_of ho hd hf (wpAny_pure ?_)))
  unfold setDrawn
  refine wpAny_bind (wpAny_bind (wpAny_setState_of ho hd hf ?_))
  dsimp only
  unfold setsByText
  refine wpAny_bind (wpAny_bind (wpAny_askSetting (wpAny_pure (wpAny_pure ?_))))
  show wpAny _ _ (if (!w.params.followText "set-order" && (!t.plain && decide (es.size > 1))) = true then _ else _) _ _ s
  cases hb : w.params.followText "set-order" with
  | true =>
    rw [if_neg (by simp)]
    refine wpAny_bind (wpAny_pure ?_)
    refine wpAny_bind (wpAny_setEpoch_of ho hd hf ?_)
    unfold newFields
    refine wpAny_bind (wpAny_newObj_type (wpAny_pure ⟨_, rfl, "set_iterator", _, ⟨_, Heap.get?_push_size _ rfl, rfl⟩, zx.lookup, ?_⟩))
    have := h s.heap.objs.size (s.heap.push { cls := .type "set_iterator", data := .fields #[.int 0 0, .int 0 0, .ref a, .int es.size 0, .int ep 0] }) s.drawn (pickOrder (w.params.setOrder a ep) es).toList (.int 0 0) none (zJ _) (λ p hp => by cases hp)
      (λ b o e => Heap.get?_push_of_some _ e) (pickOrder_perm _ _) (.inl ⟨hb, rfl, rfl, rfl⟩) (Heap.get?_push_size _ rfl)
    exact this
  | false =>
    rw [hb] at hl
    by_cases hc : (!t.plain && decide (es.size > 1)) = true
    . rw [if_pos (by rw [hc]; rfl)]
      refine wpAny_bind (wpAny_drawOrder es.size _ s _ List.length_range λ places d hpl => ?_)
      have hlen : places.length = es.size := by rw [hpl.length_eq, List.length_range]
      refine wpAny_bind (wpAny_newTuple ?_ (by show (List.map _ places).toArray.size <= sizeLine; rw [List.size_toArray, List.length_map]; ac_nf))
      have ho' : (s.heap.push { cls := .type "tuple", data := .seq (places.map λ (i : Nat) => rawInt i).toArray }).get? a = some o := Heap.get?_push_of_some _ ho
      refine wpAny_bind (wpAny_setEpoch_of (s := { s with heap := s.heap.push { cls := .type "tuple", data := .seq (places.map λ (i : Nat) => rawInt i).toArray }, drawn := d }) ho' hd hf ?_)
      unfold newFields
      refine wpAny_bind (wpAny_newObj_type (wpAny_pure ⟨_, rfl, "set_iterator", _, ⟨_, Heap.get?_push_size _ rfl, rfl⟩, zx.lookup, ?_⟩))
      have hord : ∃ order : List (Int × Value), places.map (λ i => es[i]?) = order.map some /\ order.Perm es.toList := by
        refine ⟨places.filterMap (λ i => es[i]?), ?_, ?_⟩
        . have : ∀ l : List Nat, (∀ i ∈ l, i < es.size) -> l.map (λ i => es[i]?) = (l.filterMap (λ i => es[i]?)).map some := by
            intro l
            induction l with
            | nil => intro _; rfl
            | cons i l ih =>
              intro hl
              rw [List.map_cons, List.filterMap_cons, Array.getElem?_eq_getElem (hl i List.mem_cons_self)]
              dsimp only
              rw [List.map_cons, ih λ j hj => hl j (List.mem_cons_of_mem _ hj)]
          exact this places λ i hi => List.mem_range.mp (hpl.mem_iff.mp hi)
        . have := hpl.filterMap (λ i => es[i]?)
          rwa [filterMap_getElem?_range] at this
      obtain ⟨order, ho1, ho2⟩ := hord
      have n2 : s.heap.get? (s.heap.objs.size + 1) = none := Heap.get?_none_of_le (Nat.le_succ _)
      have e2 : (s.heap.push { cls := .type "tuple", data := .seq (places.map λ (i : Nat) => rawInt i).toArray }).objs.size = s.heap.objs.size + 1 := by
        show (s.heap.objs.push _).size = _
        exact Array.size_push ..
      refine h _ _ d order (.ref s.heap.objs.size) (some s.heap.objs.size) (by rw [e2]; exact n2) (λ p hp => by cases hp; exact ⟨zJ _, by rw [e2]; exact Nat.ne_of_lt (Nat.lt_succ_self _)⟩)
        (λ b o e => Heap.get?_push_of_some _ (Heap.get?_push_of_some _ e)) ho2 (.inr (.inl ⟨hb, _, rfl, rfl, places, ?_, ho1⟩)) ?_
      . exact Heap.get?_push_of_some _ (Heap.get?_push_size _ rfl)
      . exact Heap.get?_push_size _ rfl
    . have hle : es.size <= 1 := by
        by_cases hpl : t.plain = true
        . have := hp hpl; ac_nf
        . have e : t.plain = false := by simpa using hpl
          rw [e] at hc
          simpa using hc
      have hple : es.size = 0 \/ t.plain = false := by
        by_cases hpl : t.plain = true
        . exact .inl (hp hpl)
        . exact .inr (by simpa using hpl)
      rw [if_neg (by simpa using hc)]
      refine wpAny_bind (wpAny_pure ?_)
      refine wpAny_bind (wpAny_setEpoch_of ho hd hf ?_)
      unfold newFields
      refine wpAny_bind (wpAny_newObj_type (wpAny_pure ⟨_, rfl, "set_iterator", _, ⟨_, Heap.get?_push_size _ rfl, rfl⟩, zx.lookup, ?_⟩))
      have := h s.heap.objs.size (s.heap.push { cls := .type "set_iterator", data := .fields #[.int 0 0, .int 0 0, .ref a, .int es.size 0, .int ep 0] }) s.drawn es.toList (.int 0 0) none (zJ _) (λ p hp => by cases hp)
        (λ b o e => Heap.get?_push_of_some _ e) (.refl _) (.inr (.inr ⟨hb, by simpa using hl, hle, rfl, rfl, .inl ⟨rfl, rfl⟩⟩)) (Heap.get?_push_size _ rfl)
      exact this
theorem below_one {x j : Nat} : SetTable.below #[x] j = if x < j then 1 else 0 := by
  unfold SetTable.below
  simp [SetTable.below.go]
theorem qw {Q : Bool -> Shared -> Prop} (h : Q (w.params.followText "set-order") s) : wpAny (model prog w) A setsByText Q E s := by
  unfold setsByText
  exact wpAny_bind (wpAny_askSetting (wpAny_pure h))
theorem set_next {it a : Addr} {o : Obj} {es : Array (Int × Value)} {ep : Nat} {t : SetTable} {order : List (Int × Value)} {k : Nat} {first : Value} {f : Option Addr} {x : Value} {Q : Option Value -> Shared -> Prop} (ho : s.heap.get? a = some o) (hd : o.data = .set es ep t) (hf : t.fits es.size = true)
    (hit : SetIt s.heap it first k a es.size ep) (hgo : SetGo w a es ep t order s.heap k first f) (hfi : ∀ p, f = some p -> p ≠ it) (hperm : order.Perm es.toList) (hx : (order.map (·.2))[k]? = some x)
    (h : ∀ h' first', Heap.SameBut it s.heap h' -> SetIt h' it first' (k + 1) a es.size ep -> SetGo w a es ep t order h' (k + 1) first' f -> Q (some x) { s with heap := h' }) :
    wpAny (model prog w) A (pyNext (.ref it)) Q E s := by
  have hT : s.TypeIs (.ref it) "set_iterator" := ⟨_, hit, rfl⟩
  obtain ⟨e, he, rfl⟩ : ∃ e, order[k]? = some e /\ e.2 = x := by
    rw [List.getElem?_map, Option.map_eq_some_iff] at hx; exact hx
  unfold pyNext
  refine wpAny_bind (wpAny_attempt (wpAny_callSpecial?_slot (name := Str.ofString "__next__") hT zx
    (wpAny_call_entry zx hT jH ?_ (args_setit_next _))))
  show wpAny _ _ (fieldsOf (.ref it) >>= _) _ _ s
  refine wpAny_bind (wpAny_fieldsOf hit rfl ?_)
  show wpAny _ _ (setEntries a >>= _) _ _ s
  refine wpAny_bind (wpAny_setEntries_of ho hd hf ?_)
  show wpAny _ _ (if (((es.size : Nat) : Int) != (es.size : Int)) = true then _ else _) _ _ s
  rw [if_neg (by simp)]
  have two : ∀ (s1z : Shared) (first' : Value) (h₁ : Heap), Heap.SameBut it s.heap h₁ -> s1z = { s with heap := h₁ } -> h₁.get? it = some ⟨.type "set_iterator", none, .fields #[first', .int k 0, .ref a, .int es.size 0, .int ep 0], #[]⟩ -> SetGo w a es ep t order s.heap (k + 1) first' f ->
      wpAny (model prog w) A.in1 (do setField (.ref it) 1 (rawInt ((k : Int) + 1)); ret e.2) (λ fin s' => ∃ v, fin = .done (.ret v) /\ wpAny (model prog w) A (pure (some v) : Sem (Option Value)) Q E s') (λ o_ o_ => False) s1z := by
    intro s1z first' h₁ hsb es1z hg hgo'
    subst es1z
    refine wpAny_bind (wpAny_setField_rec hg (by show 1 < 5; decide) λ h2z hg2 hsb2 => ?_)
    refine wpAny_pure ⟨_, rfl, wpAny_pure ?_⟩
    refine h h2z first' (hsb.trans hsb2) hg2 (hgo'.at λ p hp o ho => ?_)
    exact ((hsb.trans hsb2).2 p (hfi p hp)).trans ho
  rcases hgo with ⟨h1, h2, rfl, rfl⟩ | ⟨h1, p, hp, rfl, places, h2, h3⟩ | ⟨h1, h2, h3, rfl, rfl, h5⟩
  . show wpAny _ _ (setNext a 0 ((k : Int)).toNat ((ep : Int)).toNat >>= _) _ _ s
    rw [Int.toNat_natCast, Int.toNat_natCast]
    unfold setNext
    refine wpAny_bind (wpAny_bind (wpAny_setState_of ho hd hf ?_))
    dsimp only
    refine wpAny_bind (qw ?_)
    rw [h1]
    rw [if_pos rfl]
    rw [if_neg (by simp)]
    unfold setWalk
    refine wpAny_bind (wpAny_bind (wpAny_setState_of ho hd hf ?_))
    dsimp only
    refine wpAny_bind (qw ?_)
    rw [h1, if_pos rfl]
    refine wpAny_bind (wpAny_askSetting (wpAny_pure (wpAny_pure ?_)))
    have hk : (pickOrder (w.params.setOrder a ep) es)[k]? = some e := by
      rw [<- Array.getElem?_toList, <- h2]; exact he
    rw [show ((⟨(model prog w).prog, (model prog w).w.params⟩ : Setting).params.setOrder a ep) = w.params.setOrder a ep from rfl, hk]
    show wpAny _ _ (do setField (.ref it) 0 (rawInt ((0 : Nat) : Int)); setField (.ref it) 1 (rawInt ((k : Int) + 1)); ret e.2) _ _ s
    refine wpAny_bind (wpAny_setField_rec hit (by show 0 < 5; decide) λ h₁ hg hsb => ?_)
    refine wpAny_mono (two _ (.int 0 0) h₁ hsb rfl hg (.inl ⟨h1, h2, rfl, rfl⟩)) (λ fin s' ⟨v, hv, hq⟩ => ⟨v, hv, hq⟩) λ o_ o_ x => x.elim
  . show wpAny _ _ (seqItems? (.ref p) >>= _) _ _ s
    refine wpAny_bind (wpAny_seqItems h2 rfl ?_)
    have hpl : ∃ pl, places[k]? = some pl /\ es[pl]? = some e := by
      have := congrArg (λ l => l[k]?) h3
      simp only [List.getElem?_map, he, Option.map_some] at this
      cases hq : places[k]? with
      | none => rw [hq] at this; cases this
      | some pl => rw [hq] at this; exact ⟨pl, rfl, Option.some.inj this⟩
    obtain ⟨pl, hp1, hp2⟩ := hpl
    have hk : ((places.map λ (i : Nat) => Value.int (i : Int) 0).toArray)[((k : Int)).toNat]? = some (.int (pl : Int) 0) := by
      rw [Int.toNat_natCast, List.getElem?_toArray, List.getElem?_map, hp1]; rfl
    dsimp only
    rw [hk]
    show wpAny _ _ (setNextDrawn a ((pl : Int)).toNat ((ep : Int)).toNat >>= _) _ _ s
    rw [Int.toNat_natCast, Int.toNat_natCast]
    unfold setNextDrawn
    refine wpAny_bind (wpAny_bind (wpAny_setState_of ho hd hf ?_))
    dsimp only
    rw [if_neg (by simp), hp2]
    refine wpAny_pure ?_
    refine wpAny_mono (two s (.ref p) s.heap (Heap.SameBut.refl ..) rfl hit (.inr (.inl ⟨h1, p, hp, rfl, places, h2, h3⟩))) (λ fin s' ⟨v, hv, hq⟩ => ⟨v, hv, hq⟩) λ o_ o_ x => x.elim
  . have hlen : es.size = 1 /\ k = 0 := by
      have := (List.getElem?_eq_some_iff.mp he).1
      rw [Array.length_toList] at this
      ac_nf
    obtain ⟨hz, rfl⟩ := hlen
    have h5' : first = .int 0 0 := by
      rcases h5 with ⟨_, q⟩ | ⟨q, _⟩
      . exact q
      . cases q
    subst h5'
    show wpAny _ _ (setNext a 0 (((0 : Nat) : Int)).toNat ((ep : Int)).toNat >>= _) _ _ s
    rw [Int.toNat_natCast, Int.toNat_natCast]
    have hf' := hf
    unfold SetTable.fits at hf'
    rw [Bool.and_eq_true, beq_iff_eq, hz] at hf'
    obtain ⟨j, hj⟩ : ∃ j, t.place = #[j] := by
      have h8 := hf'.1
      generalize t.place = pl at h8
      obtain ⟨l⟩ := pl
      match l, h8 with
      | [j], _ => exact ⟨j, rfl⟩
    unfold setNext
    refine wpAny_bind (wpAny_bind (wpAny_setState_of ho hd hf ?_))
    dsimp only
    refine wpAny_bind (qw ?_)
    rw [h1]
    rw [if_neg (by decide)]
    show wpAny _ _ (if (!t.plain && decide (es.size > 1)) = true then _ else _) _ _ s
    rw [if_neg (by rw [hz]; simp)]
    show wpAny _ _ ((if (!t.led && !es.isEmpty) = true then unsupported "set:maker-not-led" else pure ()) >>= _) _ _ s
    rw [h2, if_neg (by simp)]
    refine wpAny_bind (wpAny_pure ?_)
    have hb : SetTable.below t.place 0 = 0 := by rw [hj, below_one, if_neg (by ac_nf)]
    rw [hb]
    have hes : es[0]? = some e := by rw [<- Array.getElem?_toList]; exact he
    rw [hes, hj]
    show wpAny _ _ (pure (some (e.2, j + 1)) : Sem (Option (Value × Nat))) _ _ s
    refine wpAny_pure ?_
    show wpAny _ _ (do setField (.ref it) 0 (rawInt ((j + 1 : Nat) : Int)); setField (.ref it) 1 (rawInt (((0 : Nat) : Int) + 1)); ret e.2) _ _ s
    refine wpAny_bind (wpAny_setField_rec hit (by show 0 < 5; decide) λ h₁ hg hsb => ?_)
    refine wpAny_mono (two _ (.int ((j + 1 : Nat) : Int) 0) h₁ hsb rfl hg (.inr (.inr ⟨h1, h2, h3, rfl, rfl, .inr ⟨rfl, j, by rw [hj]; rfl, rfl⟩⟩))) (λ fin s' ⟨v, hv, hq⟩ => ⟨v, hv, hq⟩) λ o_ o_ x => x.elim
theorem set_done {it a : Addr} {o : Obj} {es : Array (Int × Value)} {ep : Nat} {t : SetTable} {order : List (Int × Value)} {first : Value} {f : Option Addr} {Q : Option Value -> Shared -> Prop} (hh : A.handled = none) (ho : s.heap.get? a = some o) (hd : o.data = .set es ep t) (hf : t.fits es.size = true)
    (hit : SetIt s.heap it first es.size a es.size ep) (hgo : SetGo w a es ep t order s.heap es.size first f) (hperm : order.Perm es.toList)
    (h : ∀ h', Heap.ExtBut it s.heap h' -> Q none { s with heap := h' }) :
    wpAny (model prog w) A (pyNext (.ref it)) Q E s := by
  have hT : s.TypeIs (.ref it) "set_iterator" := ⟨_, hit, rfl⟩
  have hlen : order.length = es.size := by rw [hperm.length_eq, Array.length_toList]
  unfold pyNext
  refine wpAny_bind (wpAny_attempt (wpAny_callSpecial?_slot (name := Str.ofString "__next__") hT zx
    (wpAny_call_entry zx hT jH ?_ (args_setit_next _))))
  show wpAny _ _ (fieldsOf (.ref it) >>= _) _ _ s
  refine wpAny_bind (wpAny_fieldsOf hit rfl ?_)
  show wpAny _ _ (setEntries a >>= _) _ _ s
  refine wpAny_bind (wpAny_setEntries_of ho hd hf ?_)
  show wpAny _ _ (if (((es.size : Nat) : Int) != (es.size : Int)) = true then _ else _) _ _ s
  rw [if_neg (by simp)]
  have two : ∀ (s1z : Shared) (first' : Value) (h₁ : Heap), Heap.SameBut it s.heap h₁ -> s1z = { s with heap := h₁ } -> h₁.get? it = some ⟨.type "set_iterator", none, .fields #[first', .int es.size 0, .ref a, .int es.size 0, .int ep 0], #[]⟩ ->
      wpAny (model prog w) A.in1 (do setField (.ref it) 2 .none; let __do_lift <- newExc (Value.type "StopIteration") []; raiseNew __do_lift : Sem Fin) (λ o_ o_ => False) (λ e s' =>
          wpAny (model prog w) A
            (do
              let __do_lift <- isInstance e (Value.type "StopIteration")
              if __do_lift = true then pure none else throw e) Q E s') s1z := by
    intro s1z first' h₁ hsb es1z hg
    subst es1z
    refine wpAny_bind (wpAny_setField_rec hg (by show 2 < 5; decide) λ h2z hg2 hsb2 => ?_)
    refine wpAny_bind ?_
    simp -iota only [newExc, newTuple]
    refine wpAny_bind (wpAny_newObj_type ?_ (by size_fits))
    refine wpAny_bind (m := firstArgMember _ _) (wpAny_of_eq (a := Value.none) (by first | rfl | (simp only [firstArgMember]; rfl)) ?_)
    refine wpAny_newObj_type ?_ (by size_fits)
    simp -iota only [raiseNew]
    refine wpAny_bind (wpAny_handled ?_)
    rw [show A.in1.handled = none from hh]
    refine wpAny_bind (wpAny_pure (wpAny_throw ?_))
    refine wpAny_bind (wpAny_isInstance (T := "StopIteration") (b := true) ⟨_, Heap.get?_push_size _ rfl, rfl⟩ isSubtype_stop ?_)
    exact wpAny_pure (h _ (((hsb.trans hsb2).extBut.push _).push _))
  rcases hgo with ⟨h1, h2, rfl, rfl⟩ | ⟨h1, p, hp, rfl, places, h2, h3⟩ | ⟨h1, h2, h3, rfl, rfl, h5⟩
  . show wpAny _ _ (setNext a 0 ((es.size : Int)).toNat ((ep : Int)).toNat >>= _) _ _ s
    rw [Int.toNat_natCast, Int.toNat_natCast]
    unfold setNext
    refine wpAny_bind (wpAny_bind (wpAny_setState_of ho hd hf ?_))
    dsimp only
    refine wpAny_bind (qw ?_)
    rw [h1]
    rw [if_pos rfl]
    rw [if_neg (by simp)]
    unfold setWalk
    refine wpAny_bind (wpAny_bind (wpAny_setState_of ho hd hf ?_))
    dsimp only
    refine wpAny_bind (qw ?_)
    rw [h1, if_pos rfl]
    refine wpAny_bind (wpAny_askSetting (wpAny_pure (wpAny_pure ?_)))
    have hk : (pickOrder (w.params.setOrder a ep) es)[es.size]? = none := by
      rw [<- Array.getElem?_toList, <- h2]; exact List.getElem?_eq_none (by ac_nf)
    rw [show ((⟨(model prog w).prog, (model prog w).w.params⟩ : Setting).params.setOrder a ep) = w.params.setOrder a ep from rfl, hk]
    exact wpAny_mono (two s (.int 0 0) s.heap (Heap.SameBut.refl ..) rfl hit) (λ o_ o_ x => x.elim) λ o_ o_ x => x
  . show wpAny _ _ (seqItems? (.ref p) >>= _) _ _ s
    refine wpAny_bind (wpAny_seqItems h2 rfl ?_)
    have hk : ((places.map λ (i : Nat) => Value.int (i : Int) 0).toArray)[((es.size : Int)).toNat]? = none := by
      have := congrArg List.length h3
      rw [List.length_map, List.length_map] at this
      rw [Int.toNat_natCast, List.getElem?_toArray, List.getElem?_eq_none (by rw [List.length_map]; ac_nf)]
    dsimp only
    rw [hk]
    show wpAny _ _ (do setField (.ref it) 0 (rawInt 0); setField (.ref it) 2 .none; let __do_lift <- newExc (Value.type "StopIteration") []; raiseNew __do_lift) _ _ s
    refine wpAny_bind (wpAny_setField_rec hit (by show 0 < 5; decide) λ h₁ hg hsb => ?_)
    exact wpAny_mono (two _ _ h₁ hsb rfl hg) (λ o_ o_ x => x.elim) λ o_ o_ x => x
  . have hb : ∃ first0 : Nat, first = .int (first0 : Int) 0 /\ (es[SetTable.below t.place first0]? = none) := by
      have hf' := hf
      unfold SetTable.fits at hf'
      rw [Bool.and_eq_true, beq_iff_eq] at hf'
      rcases h5 with ⟨q, e⟩ | ⟨q, j, hj, e⟩
      . exact ⟨0, e, Array.getElem?_eq_none (by ac_nf)⟩
      . refine ⟨j + 1, e, Array.getElem?_eq_none ?_⟩
        have : t.place = #[j] := by
          have h8 := hf'.1
          rw [q] at h8
          generalize t.place = pl at hj h8
          obtain ⟨l⟩ := pl
          match l, h8 with
          | [j'], _ => cases hj; rfl
        rw [this, below_one, if_pos (by ac_nf), q]
        exact Nat.le_refl _
    obtain ⟨first0, rfl, hb⟩ := hb
    show wpAny _ _ (setNext a ((first0 : Int)).toNat ((es.size : Int)).toNat ((ep : Int)).toNat >>= _) _ _ s
    rw [Int.toNat_natCast, Int.toNat_natCast, Int.toNat_natCast]
    unfold setNext
    refine wpAny_bind (wpAny_bind (wpAny_setState_of ho hd hf ?_))
    dsimp only
    refine wpAny_bind (qw ?_)
    rw [h1]
    rw [if_neg (by decide)]
    show wpAny _ _ (if (!t.plain && decide (es.size > 1)) = true then _ else _) _ _ s
    rw [if_neg (by simp; ac_nf)]
    show wpAny _ _ ((if (!t.led && !es.isEmpty) = true then unsupported "set:maker-not-led" else pure ()) >>= _) _ _ s
    rw [h2, if_neg (by simp)]
    refine wpAny_bind (wpAny_pure ?_)
    rw [hb]
    refine wpAny_pure ?_
    exact wpAny_mono (two s _ s.heap (Heap.SameBut.refl ..) rfl hit) (λ o_ o_ x => x.elim) λ o_ o_ x => x
end
noncomputable def qX (H : AH) (a : Addr) : AH := λ b => if b = a then none else H b
theorem zv {H : AH} {a b : Addr} (h : b ≠ a) : qX H a b = H b := if_neg h
@[simp] theorem qh (H : AH) (a : Addr) : qX H a a = none := if_pos rfl
section
variable {X : Wd} {A : Around} {L : Addr} {S : St} {env : Env} {C : Cx} {s : Shared}
theorem Rep.hide (R : Rep X C L S s) (a : Addr) : Rep X C L { S with H := qX S.H a } s := by
  have key : ∀ b o, qX S.H a b = some o -> S.H b = some o := λ b o e => by
    by_cases hb : b = a
    . rw [hb, qh] at e; cases e
    . rwa [zv hb] at e
  refine ⟨R.keep, R.ns, R.nsB, ?_, λ b o e => R.obj b o (key b o e), R.gens, R.os⟩
  cases e : qX S.H a L with
  | none => exact e
  | some o => have := key _ _ e; rw [R.nsH] at this; cases this
theorem for_core2 {target : Expr} {body : List Stmt} {Φ : Flow -> St -> Prop} {it : Value} {fp : List Addr} {n : Nat} {At : Nat -> Heap -> Prop} {u : Nat -> Value} {Fi : Heap -> Prop} {R : Result -> Shared -> Prop} (I : Nat -> St -> Prop)
    (hB : X.le C) (R2z : Rep X C L S s) (hd : jK C S L fp) (hat : At 0 s.heap) (h0 : I 0 S)
    (keeps : ∀ k h h', At k h -> (∀ b ∈ fp, ∀ o, h.get? b = some o -> h'.get? b = some o) -> At k h')
    (lives : ∀ k h, At k h -> ∀ b ∈ fp, ∃ o, h.get? b = some o)
    (hfi : ∀ k h, At k h -> Fi h)
    (item : ∀ k, k < n -> ∀ S s, Rep X C L S s -> jK C S L fp -> At k s.heap -> wpAny (model X.prog X.w) A (pyNext it) (λ r s1z => ∃ x, r = some x /\ er x = u k /\ wpAny (model X.prog X.w) A (letOwnedTupleGo target it x) (λ o_ s2z => Rep X C L S s2z /\ At (k + 1) s2z.heap) Fa s1z) Fa s)
    (done : ∀ S s, Rep X C L S s -> jK C S L fp -> At n s.heap -> wpAny (model X.prog X.w) A (pyNext it) (λ r s1z => r = none /\ Rep X C L S s1z /\ Fi s1z.heap) Fa s)
    (step : ∀ k S, k < n -> I k S -> qs X A L target env (u k) S λ S2 => Wp X A L (execs body env) S2 (Turn (I (k + 1)) Φ)) (fin : ∀ S, I n S -> Φ .next S)
    (hR : ∀ f S' s', Rep X C L S' s' -> jK C S' L fp -> Fi s'.heap -> Φ f S' -> R (.ok f) s') : codeAny (model X.prog X.w) A (.forLoop target it body [] env) R s := by
  refine codeAny_forLoop_any (LoopAt X C L fp I At n) (λ m s ⟨k, S', hkm, R', hd', hat', hI⟩ => ?_) n ⟨0, S, Nat.zero_add n, R2z, hd, hat, h0⟩
  by_cases hk : k < n
  . obtain ⟨m', hm, e'⟩ := loop_step hkm hk
    refine wpAny_mono (item k hk S' s R' hd' hat') (λ r s1' ⟨x, hr, hu, hx⟩ => ?_) λ o_ o_ x => x.elim
    subst hr
    refine wpAny_mono hx (λ o_ s2' ⟨R2', hat2⟩ => ?_) λ o_ o_ x => x.elim
    have lv := lives _ _ hat2
    refine Wp.thenE (Wd.le_over hB) (R2'.freeze hd') (step k S' hk hI x hu) λ o_ S3 s3z R3z h3z => ?_
    refine Wp.thenE (Wd.le_over hB) R3z h3z λ f S4z s4z R4 h4z => ?_
    have bk := hd'.back lv R4
    have R5 : Rep X C L S4z s4z := R4.thaw (λ b o e => Cx.over_some e) rfl
    have hat5 := keeps _ _ _ hat2 bk.2
    cases f with
    | next => exact ⟨m', hm, k + 1, S4z, e', R5, bk.1, hat5, h4z⟩
    | cont => exact ⟨m', hm, k + 1, S4z, e', R5, bk.1, hat5, h4z⟩
    | brk => exact hR _ S4z _ R5 bk.1 (hfi _ _ hat5) h4z
    | ret v => exact hR _ S4z _ R5 bk.1 (hfi _ _ hat5) h4z
  . obtain rfl := loop_end hkm hk
    refine wpAny_mono (done S' s R' hd' hat') (λ r s1' ⟨hr, R1', hf⟩ => ?_) λ o_ o_ x => x.elim
    subst hr
    exact wpAny_execs_nil (hR _ S' _ R1' hd' hf (fin _ hI))
theorem perm_of_members {K : Type} [DecidableEq K] : ∀ (xs ks : List K), xs.Nodup -> (∀ k, k ∈ xs -> k ∈ ks) -> ks.length <= xs.length -> ks.Perm xs
  | [], ks, _, _, h => by rw [List.length_eq_zero_iff.mp (Nat.le_zero.mp h)]
  | x :: xs, ks, hn, hm, h => by
    rw [List.nodup_cons] at hn
    have hx := hm x List.mem_cons_self
    have p := List.perm_cons_erase hx
    refine p.trans (List.Perm.cons x (perm_of_members xs (ks.erase x) hn.2 (λ k hk => ?_) ?_))
    . exact (List.mem_erase_of_ne λ (e : k = x) => hn.1 (e ▸ hk)).mpr (hm k (List.mem_cons_of_mem _ hk))
    . have := p.length_eq
      rw [List.length_cons] at this h
      ac_nf
theorem strs_of {prog : Program} {w : World} : ∀ (l : List (Int × Value)), ElemsOf (PySem.strKind prog w) l -> ∃ ss : List Str, l.map (λ e => er e.2) = zZ ss /\ ∀ k, (∃ e ∈ l, (PySem.strKind prog w).is k e.2 = true) -> k ∈ ss
  | [], _ => ⟨[], rfl, λ k ⟨e, he, _⟩ => by cases he⟩
  | e :: l, h => by
    obtain ⟨ss, h1, h2⟩ := strs_of l h.tail
    obtain ⟨⟨k, hk, _⟩, _⟩ := h.head
    obtain ⟨t, ht⟩ := Value.isStrOf_shape hk
    refine ⟨k :: ss, ?_, λ k' ⟨e', he', hk'⟩ => ?_⟩
    . rw [List.map_cons, h1, ht]; rfl
    . rcases List.mem_cons.mp he' with rfl | he'
      . obtain ⟨t', ht'⟩ := Value.isStrOf_shape hk'
        rw [ht] at ht'
        cases ht'
        exact List.mem_cons_self
      . exact List.mem_cons_of_mem _ (h2 k' ⟨e', he', hk'⟩)
inductive SetForI (X : Wd) (A : Around) (L : Addr) (target : Expr) (body : List Stmt) (env : Env) (S1 : St) (Φ : Flow -> St -> Prop) (a : Addr) (xs order : List Str) : Prop
  | mk (I : Nat -> St -> Prop) (h0 : I 0 { S1 with H := qX S1.H a })
    (step : ∀ k y S, order[k]? = some y -> I k S -> qs X A L target env (.str y 0) S λ S2 => Wp X A L (execs body env) S2 (Turn (I (k + 1)) λ f S' => S'.H a = none -> Φ f { S' with H := zD S'.H a (.sset xs) }))
    (fin : ∀ S', I order.length S' -> S'.H a = none -> Φ .next { S' with H := zD S'.H a (.sset xs) })
inductive SetForE (X : Wd) (A : Around) (L : Addr) (target : Expr) (body : List Stmt) (env : Env) (v : Value) (S1 : St) (Φ : Flow -> St -> Prop) : Prop
  | mk (a : Addr) (xs : List Str) (hc : v = .ref a) (ha : S1.H a = some (.sset xs)) (hI : ∀ order : List Str, order.Perm xs -> SetForI X A L target body env S1 Φ a xs order)
theorem ex_ForSet {x : Str} {px pos : Pos} {iter : Expr} {body : List Stmt} {Φ : Flow -> St -> Prop} (hh : A.handled = none)
    (h : EV X A L (eval iter env) S λ v S1 => SetForE X A L (.Name x px) body env v S1 Φ)
    (hs : ∀ v, pure v = foldedSetIterable iter env v := by intro _; with_unfolding_all rfl) : Wp X A L (exec (.For (.Name x px) iter body [] pos) env) S Φ := λ C s hB R =>
  wpAny_For (Wp.then hB R h λ c S1 s1z R1z ⟨a, xs, hc, ha, hI⟩ => by
    rw [zC hc]
    obtain ⟨ob, ho, hset'⟩ := R1z.get ha
    have hset'' := hset'
    obtain ⟨es, ep, t, h1, h2, h3, h4, h5, h6, h7, h8, h9, h10⟩ := hset'
    refine set_iter ho h1 h2 h6 h5 h9 (λ hp => ?_) λ it h' d order first f hit0 hf0 hk hperm hgo hit => ?_
    . rcases hes : es.toList with _ | ⟨e, l⟩
      . rw [<- Array.length_toList, hes]; rfl
      . have he : e ∈ es.toList := by rw [hes]; exact List.mem_cons_self
        obtain ⟨⟨k, hk, _⟩, _⟩ := h3 e he
        obtain ⟨u, hu⟩ := Value.isStrOf_shape hk
        have := h10 hp e he
        rw [hu] at this; cases this
    . obtain ⟨ss, hss, hmem⟩ := strs_of order (h3.perm hperm)
      have hlen : ss.length = es.size := by
        have := congrArg List.length hss
        rw [List.length_map, ze, hperm.length_eq, Array.length_toList] at this
        exact this.symm
      have hp2 : ss.Perm xs := perm_of_members xs ss h8 (λ k hk => hmem k (by
        obtain ⟨e, he, hke⟩ := (h4 k).mp hk
        exact ⟨e, hperm.mem_iff.mpr he, hke⟩)) (by rw [hlen, h7]; exact Nat.le_refl _)
      obtain ⟨I, h0, step, fin⟩ := hI ss hp2
      have R2z : Rep X C L { S1 with H := qX S1.H a } { s1z with heap := h', drawn := d } := (R1z.ext (s' := { s1z with heap := h', drawn := d }) hk rfl rfl).hide a
      have hold : s1z.heap.get? a = some ob := ho
      have hB' := R1z.notB ha
      have hL' := R1z.notL ha
      have hda : qX S1.H a a = none := qh _ _
      have ita : it ≠ a := λ e => by rw [e, hold] at hit0; cases hit0
      have fr := R1z.fresh hit0
      refine for_core2 (n := ss.length) (fp := it :: a :: f.toList) (u := λ k => (ss[k]?.map (Value.str · 0)).getD .none) (At := λ k h => h.get? a = some ob /\ ∃ fst, SetIt h it fst k a es.size ep /\ SetGo X.w a es ep t order h k fst f) (Fi := λ h => h.get? a = some ob) I hB R2z ?_ ⟨hk _ _ hold, first, hit, hgo⟩ h0 ?_ ?_ (λ k h q => q.1) ?_ ?_ (λ k S' hk' hI' => ?_) (λ S' hI' => ?_) (Φ := λ f S' => S'.H a = none -> Φ f { S' with H := zD S'.H a (.sset xs) }) (λ f' S' s' R' hd' hfi p => ?_)
      . intro b hb
        simp only [List.mem_cons, Option.mem_toList] at hb
        rcases hb with rfl | rfl | hb
        . exact ⟨fr.1, by show qX S1.H a _ = none; rw [zv ita]; exact fr.2.1, fr.2.2⟩
        . exact ⟨hB', hda, hL'⟩
        . have := hf0 b hb
          have fr2 := R1z.fresh this.1
          refine ⟨fr2.1, ?_, fr2.2.2⟩
          show qX S1.H a _ = none
          rw [zv λ e => by rw [e, hold] at this; cases this.1]
          exact fr2.2.1
      . rintro k h h' ⟨q1, fst, q2, q3⟩ hk
        exact ⟨hk a (by simp) _ q1, fst, hk it (by simp) _ q2, q3.at λ p hp => hk p (by simp [hp])⟩
      . rintro k h ⟨q1, fst, q2, q3⟩ b hb
        simp only [List.mem_cons, Option.mem_toList] at hb
        rcases hb with rfl | rfl | hb
        . exact ⟨_, q2⟩
        . exact ⟨_, q1⟩
        . rcases q3 with ⟨_, _, _, e⟩ | ⟨_, p, e, _, pl, hp, _⟩ | ⟨_, _, _, _, e, _⟩
          . rw [e] at hb; cases hb
          . rw [e] at hb; cases hb; exact ⟨_, hp⟩
          . rw [e] at hb; cases hb
      . intro k hk' S' s' R' hd' ⟨q1, fst, q2, q3⟩
        have hx : ∃ y, (order.map (·.2))[k]? = some y /\ er y = (ss[k]?.map (Value.str · 0)).getD .none := by
          have e1 : (order.map (λ e => er e.2))[k]? = (zZ ss)[k]? := by rw [hss]
          unfold zZ at e1
          rw [List.getElem?_map, List.getElem?_map, List.getElem?_eq_getElem hk'] at e1
          rw [List.getElem?_map, List.getElem?_eq_getElem hk']
          cases q : order[k]? with
          | none => rw [q] at e1; cases e1
          | some e => rw [q] at e1; exact ⟨e.2, rfl, Option.some.inj e1⟩
        obtain ⟨y, hy, hye⟩ := hx
        refine set_next q1 h2 h6 q2 q3 (λ p hp => (hf0 p hp).2) hperm hy λ h'' fst' hsb hit' hgo' => ⟨y, rfl, hye, ?_⟩
        show wpAny _ _ (pure ()) _ _ _
        refine wpAny_pure ⟨R'.hid hd' (λ b o hb q => (hsb.2 b (λ z => hb (by rw [z]; simp))).trans q) rfl rfl, (hsb.2 a (Ne.symm ita)).trans q1, fst', hit', hgo'⟩
      . intro S' s' R' hd' ⟨q1, fst, q2, q3⟩
        rw [hlen] at q2 q3
        refine set_done hh q1 h2 h6 q2 q3 hperm λ h'' hsb => ⟨rfl, R'.hid hd' (λ b o hb q => hsb b o (λ z => hb (by rw [z]; simp)) q) rfl rfl, hsb a _ (Ne.symm ita) q1⟩
      . have hy : ss[k]? = some ss[k] := List.getElem?_eq_getElem hk'
        have := step k ss[k] S' hy hI'
        rw [hy]
        exact this
      . exact λ hn => fin S' hI' hn
      . have hn := (hd' a (by simp)).2.1
        exact ⟨_, R'.put (λ o_ o_ o_ e => e) hB' hL' (o := .sset xs) ⟨ob, hfi, hset''⟩ rfl rfl, p hn⟩) (λ z => (hs z).symm)
end
section
variable {X : Wd} {A : Around} {L : Addr} {S : St} {env : Env} {C : Cx} {s : Shared}
theorem meth_get {a : Addr} {o : AO} {Ψ : Value -> List Value -> St -> Prop} (hl : S.H a = some o) (hd : (∃ kvs, o = .sdict kvs) \/ ∃ kvs, o = .idict kvs) (h : Ψ (.builtin "dict.get") [.ref a] S) : yf X A L (.ref a) "get" S Ψ :=
  qI (jR hl hd) F.plainAttrs_dict F.slot_dict_get F.type_dict_get h
theorem meth_dpop {a : Addr} {o : AO} {Ψ : Value -> List Value -> St -> Prop} (hl : S.H a = some o) (hd : (∃ kvs, o = .sdict kvs) \/ ∃ kvs, o = .idict kvs) (h : Ψ (.builtin "dict.pop") [.ref a] S) : yf X A L (.ref a) "pop" S Ψ :=
  qI (jR hl hd) F.plainAttrs_dict F.slot_dict_pop F.type_dict_pop h
theorem meth_setdefault {a : Addr} {o : AO} {Ψ : Value -> List Value -> St -> Prop} (hl : S.H a = some o) (hd : (∃ kvs, o = .sdict kvs) \/ ∃ kvs, o = .idict kvs) (h : Ψ (.builtin "dict.setdefault") [.ref a] S) : yf X A L (.ref a) "setdefault" S Ψ :=
  qI (jR hl hd) F.plainAttrs_dict F.slot_dict_setdefault F.type_dict_setdefault h
theorem meth_keys {a : Addr} {o : AO} {Ψ : Value -> List Value -> St -> Prop} (hl : S.H a = some o) (hd : (∃ kvs, o = .sdict kvs) \/ ∃ kvs, o = .idict kvs) (h : Ψ (.builtin "dict.keys") [.ref a] S) : yf X A L (.ref a) "keys" S Ψ :=
  qI (jR hl hd) F.plainAttrs_dict F.slot_dict_keys F.type_dict_keys h
theorem call_keysSD (hX : qr X) {a : Addr} {kvs : List (Str × Value)} {Φ : Value -> St -> Prop} (ha : S.H a = some (.sdict kvs)) (h : New S (.raw { cls := .type "dict_keys", data := .fields #[.ref a] }) Φ) : zO X A L (.builtin "dict.keys") [.ref a] S Φ := λ cs hcs C s hB R => by
  obtain ⟨c, rfl, hc⟩ := yX hcs
  rw [zC hc]
  obtain ⟨kvs', hD, e'⟩ := R.sdict ha
  exact call_meetsIn F.slot_dict_keys hD.typeIs F.entry_dict_keys (F.args_dict_keys_1 _) (kdl_meets_keys (PySem.strKind X.prog X.w) a (R.notSys hX hB ha)) ⟨⟨_, hD⟩, _, R.push (o := .raw { cls := .type "dict_keys", data := .fields #[.ref a] }) rfl rfl _, h _ (R.fresh (zJ _)).2.1⟩
inductive KeysE (X : Wd) (A : Around) (L : Addr) (target : Expr) (body : List Stmt) (env : Env) (v : Value) (S1 : St) (Φ : Flow -> St -> Prop) : Prop
  | mk (kv a : Addr) (kvs : List (Str × Value)) (hc : v = .ref kv) (hkv : S1.H kv = some (.raw { cls := .type "dict_keys", data := .fields #[.ref a] })) (ha : S1.H a = some (.sdict kvs)) (I : Nat -> St -> Prop) (h0 : I 0 { S1 with H := qX S1.H a })
    (step : ∀ k y S, (kvs.map (·.1))[k]? = some y -> I k S -> qs X A L target env (.str y 0) S λ S2 => Wp X A L (execs body env) S2 (Turn (I (k + 1)) λ f S' => S'.H a = none -> Φ f { S' with H := zD S'.H a (.sdict kvs) }))
    (fin : ∀ S', I kvs.length S' -> S'.H a = none -> Φ .next { S' with H := zD S'.H a (.sdict kvs) })
theorem ex_ForKeys {x : Str} {px pos : Pos} {iter : Expr} {body : List Stmt} {Φ : Flow -> St -> Prop} (hh : A.handled = none)
    (h : EV X A L (eval iter env) S λ v S1 => KeysE X A L (.Name x px) body env v S1 Φ)
    (hs : ∀ v, pure v = foldedSetIterable iter env v := by intro _; with_unfolding_all rfl) : Wp X A L (exec (.For (.Name x px) iter body [] pos) env) S Φ := λ C s hB R =>
  wpAny_For (Wp.then hB R h λ c S1 s1z R1z ⟨kv, a, kvs, hc, hkv, ha, I, h0, step, fin⟩ => by
    rw [zC hc]
    have hkv' := R1z.raw hkv
    obtain ⟨ob, ho, kvs', hob, ekv⟩ := R1z.get ha
    obtain ⟨ep, hAt⟩ := (Heap.dictOf_iff.mpr ⟨ob, ho, hob⟩).dictAt
    have hlen : kvs'.length = kvs.length := by rw [<- ekv, List.length_map]
    refine kdl_pyIter_keys (knd := PySem.strKind X.prog X.w) (v := kv) ⟨_, hkv', rfl, rfl⟩ hAt ?_
    have hne : a ≠ s1z.heap.objs.size := Nat.ne_of_lt (Heap.lt_size ho)
    have hB' := R1z.notB ha
    have hL' := R1z.notL ha
    have fr := R1z.fresh (zJ s1z.heap)
    have R2z : Rep X C L { S1 with H := qX S1.H a } { s1z with heap := s1z.heap.push { cls := .type "dict_keyiterator", data := .fields #[.ref a, .int 0 0, .int kvs'.length 0, .int ep 0] } } := (show Rep X C L S1 { s1z with heap := s1z.heap.push { cls := .type "dict_keyiterator", data := .fields #[.ref a, .int 0 0, .int kvs'.length 0, .int ep 0] } } from R1z.ext (λ b o e => Heap.get?_push_of_some _ e) rfl rfl).hide a
    refine for_core2 (n := kvs.length) (fp := [s1z.heap.objs.size, a]) (u := λ k => (((kvs.map (·.1))[k]?).map (Value.str · 0)).getD .none) (At := λ k h => h.get? a = some ob /\ h.IsKeyIter s1z.heap.objs.size a k kvs'.length ep) (Fi := λ h => h.get? a = some ob) I hB R2z ?_ ⟨Heap.get?_push_of_some _ ho, _, Heap.get?_push_size _ rfl, rfl, rfl⟩ h0 ?_ ?_ (λ k h q => q.1) ?_ ?_ (λ k S' hk' hI' => ?_) (λ S' hI' => ?_) (Φ := λ f S' => S'.H a = none -> Φ f { S' with H := zD S'.H a (.sdict kvs) }) (λ f' S' s' R' hd' hfi p => ?_)
    . intro b hb
      simp only [List.mem_cons, List.not_mem_nil, or_false] at hb
      rcases hb with rfl | rfl
      . exact ⟨fr.1, by show qX S1.H a _ = none; rw [zv (Ne.symm hne)]; exact fr.2.1, fr.2.2⟩
      . exact ⟨hB', qh _ _, hL'⟩
    . rintro k h h' ⟨q1, q2⟩ hk
      exact ⟨hk a (by simp) _ q1, q2.at λ o e => hk _ (by simp) o e⟩
    . rintro k h ⟨q1, o, q2, q3⟩ b hb
      simp only [List.mem_cons, List.not_mem_nil, or_false] at hb
      rcases hb with rfl | rfl
      . exact ⟨_, q2⟩
      . exact ⟨_, q1⟩
    . intro k hk' S' s' R' hd' ⟨q1, q2⟩
      obtain ⟨p, hp⟩ : ∃ p, kvs'[k]? = some p := ⟨_, List.getElem?_eq_getElem (by ac_nf)⟩
      have hAt' : s'.heap.DictAt (PySem.strKind X.prog X.w) a kvs' ep := hAt.at' λ o e => by rw [ho] at e; cases e; exact q1
      refine wpAny_pyNext_dict_item (k := p.1) (v := p.2) q2 hAt' hp λ key h'' hkey hit' hsb => ?_
      obtain ⟨t, ht⟩ := Value.isStrOf_shape hkey
      refine ⟨key, rfl, ?_, ?_⟩
      . rw [<- ekv, List.map_map, List.getElem?_map, hp, ht]; rfl
      . show wpAny _ _ (pure ()) _ _ _
        exact wpAny_pure ⟨R'.hid hd' (λ b o hb q => (hsb.2 b (λ z => hb (by rw [z]; simp))).trans q) rfl rfl, (hsb.2 a hne).trans q1, hit'⟩
    . intro S' s' R' hd' ⟨q1, q2⟩
      have hAt' : s'.heap.DictAt (PySem.strKind X.prog X.w) a kvs' ep := hAt.at' λ o e => by rw [ho] at e; cases e; exact q1
      refine wpAny_pyNext_dict_end hh q2 hAt' (List.getElem?_eq_none (by ac_nf)) λ h'' hsb => ⟨rfl, R'.hid hd' (λ b o hb q => hsb b o (λ z => hb (by rw [z]; simp)) q) rfl rfl, hsb a _ hne q1⟩
    . have hy : (kvs.map (·.1))[k]? = some (kvs[k].1) := by rw [List.getElem?_map, List.getElem?_eq_getElem hk']; rfl
      have := step k _ S' hy hI'
      rw [hy]
      exact this
    . exact λ hn => fin S' hI' hn
    . have hn := (hd' a (by simp)).2.1
      exact ⟨_, R'.put (λ o_ o_ o_ e => e) hB' hL' (o := .sdict kvs) ⟨ob, hfi, kvs', hob, ekv⟩ rfl rfl, p hn⟩) (λ z => (hs z).symm)
end
structure IsCls (X : Wd) (K N : Addr) (mN : Str -> Option Value) : Prop where
  at_ : ∀ h, X.kept h -> ClsAt h K N mN
  live : (X.B K).isSome
section
variable {X : Wd} {A : Around} {L : Addr} {S : St} {env : Env} {C : Cx} {s : Shared}
def AttrE (X : Wd) (A : Around) (L : Addr) (v : Value) (name : Str) (S : St) (Φ : Value -> St -> Prop) : Prop := ∀ c, er c = v -> EV X A L (getAttr c name true) S Φ
theorem ev_Attr {o : Expr} {name : Str} {pos : Pos} {Φ : Value -> St -> Prop} (h : EV X A L (eval o env) S λ v S1 => AttrE X A L v name S1 Φ)
    (he : eval (.Attribute o name pos) env = (do
      let v <- eval o env
      standAt pos.atName
      let r <- holding [v] (getAttr v name true)
      letTemporaryGo o v r
      pure r) := by with_unfolding_all rfl) : EV X A L (eval (.Attribute o name pos) env) S Φ := λ C s hB R =>
  Attribute_any_ (h.then hB R λ c S1 s1z R1z h₁ => h₁ c rfl C s1z hB R1z) he
theorem asg_Attr {o : Expr} {name : Str} {pos : Pos} {v : Value} {Ψ : St -> Prop} (h : EV X A L (eval o env) S λ u S1 => ∀ c d, er c = u -> er d = v -> Wp X A L (setAttr c name d) S1 λ o_ => Ψ) : qs X A L (.Attribute o name pos) env v S Ψ := λ c hc C s hB R => by
  rw [arm_assign_Attribute]
  refine wpAny_bind (wpAny_holding (Wp.then hB R h λ u S1 s1z R1z h₁ => wpAny_bind (wpAny_standAt (wpAny_bind (wpAny_holding (Wp.then hB R1z (h₁ u c rfl hc) λ o_ S3 s3z R3z h3z => ?_))))))
  exact wpAny_release ⟨S3, R3z, h3z⟩
theorem Rep.inst (R : Rep X C L S s) {x K d : Addr} {m : Str -> Option Value} (hx : S.H x = some (.inst K d)) (hd : S.H d = some (.attrs m)) : ∃ mc, s.heap.Inst x K mc /\ (∀ y, (mc y).map er = m y) /\ d ≠ x := by
  have hne : d ≠ x := λ e => by rw [e, hx] at hd; cases hd
  obtain ⟨ob, ho, h1, h2, h3⟩ := R.get hx
  obtain ⟨od, hod, es, ep, mc, h4, h5, h6, h7, h8⟩ := R.get hd
  exact ⟨mc, ⟨ob, ho, h1, h3, .inr ⟨d, h2, hne, od, es, ep, hod, h4, h5, h6, h7⟩⟩, h8, hne⟩
theorem handedOut_er {c : Value} (h : ∀ id, er c ≠ .builtin id) : handedOut c = pure c := by
  cases c <;> first | rfl | exact absurd rfl (h _)
theorem zo {x K N d : Addr} {mN m : Str -> Option Value} {name : Str} {v : Value} {Φ : Value -> St -> Prop} (hK : IsCls X K N mN) (hx : S.H x = some (.inst K d)) (hd : S.H d = some (.attrs m)) (hv : m name = some v) (hb : ∀ id, v ≠ .builtin id) (h : Φ v S)
    (hng : mN "__getattribute__" = none) (hna : mN name = none) (hB : typeLookup (.type "object") name = pure none := by rw [typeLookup_type, builtinLookup_eq_fast]; kernel_rfl) : AttrE X A L (.ref x) name S Φ := λ c hc C s hB' R => by
  rw [zC hc]
  obtain ⟨mc, I, hm, hne⟩ := R.inst hx hd
  have e := hm name
  rw [hv] at e
  obtain ⟨w, hw, rfl⟩ := Option.map_eq_some_iff.mp e
  obtain ⟨nm, q, bs, sn, sub, col, dd, k0, k1, k2, k3, k5, hC⟩ := (hK.at_ _ (R.kept hB')).obj
  have R' := R.tok (s.toks + 1)
  obtain ⟨hh, g, dr, t, os⟩ := s
  exact load_attr hC (hK.at_ _ (R.kept hB')).ns hng hna hB I hw (handedOut_er hb) ⟨S, R', h⟩
theorem zt {x K N d : Addr} {mN m : Str -> Option Value} {name : Str} {v : Value} {Ψ : St -> Prop} {ns : List Str} (hK : IsCls X K N mN) (hx : S.H x = some (.inst K d)) (hd : S.H d = some (.attrs m)) (h : Ψ { S with H := zD S.H d (.attrs (zb m name v)) })
    (hns : mN "__setattr__" = none) (hna : mN name = none) (hw : Within m ns) (hsz : ns.length <= sizeLine) (hB : typeLookup (.type "object") name = pure none := by rw [typeLookup_type, builtinLookup_eq_fast]; kernel_rfl) : ∀ c e, er c = .ref x -> er e = v -> Wp X A L (setAttr c name e) S λ o_ => Ψ := λ c e hc he C s hB' R => by
  rw [zC hc]
  obtain ⟨mc, I, hm, hne⟩ := R.inst hx hd
  obtain ⟨nm, q, bs, sn, sub, col, dd, k0, k1, k2, k3, k5, hC⟩ := (hK.at_ _ (R.kept hB')).obj
  have hxK : x ≠ K := λ q => by
    have h1 := R.notB hx
    obtain ⟨oK, h2⟩ := Option.isSome_iff_exists.mp hK.live
    have := hB' _ _ h2
    rw [<- q, h1] at this; cases this
  have hwc : Within mc ns := λ y hy => hw y λ q => hy (by
    have := hm y
    rw [q] at this
    exact Option.map_eq_none_iff.mp this)
  have hob := R.get hx
  obtain ⟨ob, ho, h1, h2, h3⟩ := hob
  have key : ∀ (h' : Heap) (tk' : Nat), h'.Inst x K (λ y => if y = name then some e else mc y) ->
      (∀ b o, b ≠ x -> (∀ o0 dx, s.heap.get? x = some o0 -> o0.dict = some dx -> b ≠ dx) -> s.heap.get? b = some o -> h'.get? b = some o) ->
      (∀ o0, s.heap.get? x = some o0 -> ∃ o1z, h'.get? x = some o1z /\ o1z.cls = o0.cls /\ o1z.data = o0.data /\ o1z.slots = o0.slots /\ ∀ dx, o0.dict = some dx -> o1z.dict = some dx) -> Rep X C L { S with H := zD S.H d (.attrs (zb m name v)) } { s with heap := h', toks := tk' } := by
    intro h' tk' I' hk hsame
    obtain ⟨o1z, e1z, c1z, dt1, _, dk1⟩ := hsame ob ho
    have ed := dk1 _ h2
    have kk : ∀ b o, b ≠ x -> b ≠ d -> s.heap.get? b = some o -> h'.get? b = some o := λ b o hbx hbd q => hk b o hbx (λ o0 dx q1 q2 => by
      rw [ho] at q1; cases q1; rw [h2] at q2; cases q2; exact hbd) q
    obtain ⟨o', e', _, _, hd'⟩ := I'
    rw [e1z] at e'; cases e'
    rcases hd' with ⟨q, _⟩ | ⟨d', hd1, hd2, od, es, ep, g1, g2, g3, g4, g5⟩
    . rw [ed] at q; cases q
    . rw [ed] at hd1; cases hd1
      refine ⟨λ b o q => kk b o (λ z => ?_) (λ z => ?_) (R.keep b o q), ?_, R.nsB, ?_, λ b o q => ?_, R.gens, R.os⟩
      . rw [z, R.notB hx] at q; cases q
      . rw [z, R.notB hd] at q; cases q
      . obtain ⟨mL, ⟨oL, eL, epL, h1L, r⟩, hL⟩ := R.ns
        exact ⟨mL, ⟨oL, eL, epL, kk _ _ (Ne.symm (R.notL hx)) (Ne.symm (R.notL hd)) h1L, r⟩, hL⟩
      . show zD S.H d _ L = none
        rw [zE _ (Ne.symm (R.notL hd))]; exact R.nsH
      . by_cases hbd : b = d
        . subst hbd
          have : o = .attrs (zb m name v) := by have := (jF S.H b (.attrs (zb m name v))).symm.trans q; exact (Option.some.inj this).symm
          subst this
          refine ⟨R.notB hd, od, g1, es, ep, _, g2, g3, g4, g5, λ y => ?_⟩
          show (if y = name then some e else mc y).map er = if y = name then some v else m y
          by_cases hy : y = name
          . rw [if_pos hy, if_pos hy, Option.map_some, he]
          . rw [if_neg hy, if_neg hy]; exact hm y
        . have q' : S.H b = some o := (zE (H := S.H) _ hbd).symm.trans q
          by_cases hbx : b = x
          . subst hbx
            rw [hx] at q'; cases q'
            exact ⟨R.notB hx, o1z, e1z, c1z.trans h1, ed, λ c => dt1 ▸ h3 c⟩
          . obtain ⟨q1, oo, q2, q3⟩ := R.obj b o q'
            exact ⟨q1, oo, kk _ _ hbx hbd q2, q3⟩
  obtain ⟨hh, g, dr, t, os⟩ := s
  exact store_attr F.store_object hC (hK.at_ _ (R.kept hB')).ns hns hna hB hxK I (λ h' tk' I' hk hsame => ⟨_, key h' tk' I' hk hsame, h⟩) hwc hsz
theorem zu {x K N d f : Addr} {fd : FuncData} {body : List Stmt} {mN m : Str -> Option Value} {name : Str} {Ψ : Value -> List Value -> St -> Prop} {y : Option Value} (hK : IsCls X K N mN) (D : IsDef X f fd body) (hfc : ∀ h o, X.kept h -> h.get? f = some o -> o.cls = .type "function") (hf : mN name = some (.ref f)) (hx : S.H x = some (.inst K d)) (hd : S.H d = some (.attrs m)) (hm : m name = none) (h : Ψ (.ref f) [.ref x] S)
    (hng : mN "__getattribute__" = none) (hnh : mN "__getattr__" = none) (hB : typeLookup (.type "object") name = pure y) : yf X A L (.ref x) name S Ψ := λ c hc pl C s hB' R => by
  rw [zC hc]
  obtain ⟨mc, I, hmc, hne⟩ := R.inst hx hd
  obtain ⟨nm, q, bs, sn, sub, col, dd, k0, k1, k2, k3, k5, hC⟩ := (hK.at_ _ (R.kept hB')).obj
  obtain ⟨o, hod, ho⟩ := D.at_
  have ho' := ho _ (R.kept hB')
  have hsh : mc name = none := by have := hmc name; rw [hm] at this; exact Option.map_eq_none_iff.mp this
  have hcl := hfc _ _ (R.kept hB') ho'
  have hns := (hK.at_ _ (R.kept hB')).ns
  obtain ⟨hh, g, dr, t, os⟩ := s
  exact method_of hC hns hng hnh hf ho' hcl hB I hsh ⟨S, R, h⟩
end
theorem Room.make {A : Around} {n : Nat} {K : Addr} {vals : List Value} (h : Room A (n + 1)) : Room (A.under (.builtin "type.__call__" ⟨.ref K :: vals, []⟩)) n :=
  ⟨h.hh, by have := h.dp; show A.depth + 1 + n < recursionLimit; ac_nf, by have := h.un; show A.units + 1 + 3 * n + 50 < cLine; ac_nf⟩
section
variable {X : Wd} {A : Around} {L : Addr} {S : St} {env : Env} {C : Cx} {s : Shared}
theorem callWith_clsW {prog : Program} {w : World} {E : Value -> Shared -> Prop} {pos : Pos} {K N : Addr} {mN : Str -> Option Value} {args : List (Bool × Sem Value)} {Q : Value -> Shared -> Prop}
    (h : wpAny (model prog w) A (evalArgs (.ref K) true args []) (λ x s1z => ClsAt s1z.heap K N mN /\ x.kw = [] /\ wpAny (model prog w) A (call (.ref K) x.pos) Q E s1z) E s) (hplain : args.any (·.1) = false) :
    wpAny (model prog w) A (callWith pos (.ref K) [] args []) Q E s := by
  have hst : (args.any (λ x => x.fst) || ([] : List (Option Str × Sem Value)).any λ x => x.fst.isNone) = false := by
    rw [hplain]; rfl
  unfold callWith
  refine wpAny_bind (wpAny_holding (wpAny_mono h (λ x s1z h₁ => ?_) λ o_ o_ x => x))
  obtain ⟨hcl, hkw, hcall⟩ := h₁
  obtain ⟨ps, kws⟩ := x
  dsimp only at hkw hcall
  subst hkw
  obtain ⟨hh, g, d, t, os⟩ := s1z
  obtain ⟨nm, q, bs, sn, sub, col, dd, k0, k1, k2, k3, k5, hC⟩ := hcl.obj
  have f1 := tc_lookup
  have hT : (⟨hh, g, d, t, os⟩ : Shared).TypeIs (.ref K) "type" := ⟨_, hC, rfl⟩
  refine wpAny_bind (wpAny_standAt ?_)
  show wpAny _ _ (keeperOf (.ref K) >>= _) _ _ _
  unfold keeperOf specialOf
  repeat (any_goals (first | assumption | with_reducible refine wpAny_loadPart_at hC ?_ | with_reducible refine wpAny_load' hC ?_ | wp_step))
  rw [if_pos (by rfl), hst]
  show wpAny _ _ (call (.ref K) ps [] >>= λ r => do holding [r] point; pure r) _ _ _
  exact wpAny_bind (wpAny_mono hcall (λ r s' hr => wpAny_bind (wpAny_holding (wpAny_point (wpAny_pure hr)))) λ o_ o_ x => x)
theorem callW0_cls {pos : Pos} {K N : Addr} {mN : Str -> Option Value} {Φ : Value -> St -> Prop} (hK : IsCls X K N mN) (h : zO X A L (.ref K) [] S Φ) : jL X A L pos (.ref K) [] [] env S Φ := by
  intro cs hcs C s hB R
  rw [map0 hcs]
  have hb := h [] rfl C s hB R
  exact callWith_clsW (PySem.evalArgs_none ⟨hK.at_ _ (R.kept hB), rfl, hb⟩) rfl
theorem callW_cls {pos : Pos} {K N : Addr} {mN : Str -> Option Value} {e : Expr} {es : List Expr} {Φ : Value -> St -> Prop} (hK : IsCls X K N mN) (h : yC X A L pos (e :: es) env S λ vs S1 => zO X A L (.ref K) vs S1 Φ)
    (hn : true = (e :: es).all qj := by with_unfolding_all rfl) : jL X A L pos (.ref K) [] (e :: es) env S Φ := by
  obtain ⟨he, hp⟩ := yy (env := env) (pos := pos) hn
  intro cs hcs C s hB R
  rw [map0 hcs]
  have hb : wpAny (model X.prog X.w) A (spliced (backTo pos (starEach (e :: es) env))) (λ vs s1z => X.kept s1z.heap /\ wpAny (model X.prog X.w) A (call (.ref K) vs []) (λ a => Got X C L (Φ (er a))) Fa s1z) Fa s :=
      Wp.then hB R h λ vs S1 s1z R1z h₁ => ⟨R1z.kept hB, h₁ _ rfl C s1z hB R1z⟩
  rw [he] at hb ⊢
  have hpl : (backTo pos ((false, eval e env) :: starEach es env)).any (·.1) = false := by
    show (false || (backTo pos (starEach es env)).any (·.1)) = false
    rw [hp]; rfl
  exact callWith_clsW (Calls.evalArgs_plain (wpAny_mono hb (λ o_ o_ h' => ⟨hK.at_ _ h'.1, rfl, h'.2⟩) λ o_ o_ x => x)) hpl
theorem call_cls {K N fI : Addr} {fd : FuncData} {body : List Stmt} {mN : Str -> Option Value} {vs : List Value} {n : Nat} {Φ : Value -> St -> Prop} (hK : IsCls X K N mN) (hi : mN "__init__" = some (.ref fI)) (D : IsDef X fI fd body) (hfc : ∀ h o, X.kept h -> h.get? fI = some o -> o.cls = .type "function") (hA : Room A (n + 1))
    (h : ∀ A', Room A' n -> ∀ x d, S.H x = none -> S.H d = none -> x ≠ d -> zO X A' L (.ref fI) (.ref x :: vs) { S with H := zD (zD S.H d (.attrs λ o_ => none)) x (.inst K d) } (λ r S' => r = .none /\ Φ (.ref x) S')) : zO X A L (.ref K) vs S Φ := λ cs hcs C s hB R => by
  have hcl := hK.at_ _ (R.kept hB)
  obtain ⟨nm, q, bs, sn, sub, col, dd, k0, k1, k2, k3, k5, hC⟩ := hcl.obj
  obtain ⟨o, hod, ho⟩ := D.at_
  have ho' := ho _ (R.kept hB)
  have hfc' := hfc _ _ (R.kept hB) ho'
  have key : ∀ h' x dx, Heap.MadeObj s.heap h' x dx K -> Rep X C L { S with H := zD (zD S.H dx (.attrs λ o_ => none)) x (.inst K dx) } { s with heap := h' } /\ S.H x = none /\ S.H dx = none /\ x ≠ dx := by
    intro h' x dx M
    obtain ⟨ob, g1, g2, g3, g4⟩ := M.inst
    have g5 := M.dict ob g1
    have f1 := R.fresh M.newX
    have f2 := R.fresh M.newD
    rcases g4 with ⟨q, _⟩ | ⟨d', q1, q2, od, es, ep, e1, e2, e3, e4, e5⟩
    . rw [g5] at q; cases q
    . rw [g5] at q1; cases q1
      have R1 : Rep X C L S { s with heap := h' } := R.ext M.keeps rfl rfl
      have R2 : Rep X C L { S with H := zD S.H dx (.attrs λ o_ => none) } { s with heap := h' } := R1.put (λ o_ o_ o_ e => e) f2.1 f2.2.2 (o := .attrs λ o_ => none) ⟨od, e1, es, ep, λ o_ => none, e2, e3, e4, e5, λ o_ => rfl⟩ rfl rfl
      refine ⟨R2.put (λ o_ o_ o_ e => e) f1.1 f1.2.2 (o := .inst K dx) ⟨ob, g1, g2, g5, g3⟩ rfl rfl, f1.2.1, f2.2.1, Ne.symm q2⟩
  obtain ⟨hh, g, dr, t, os⟩ := s
  refine wpAny_call_obj_init F.objNew hC hcl.ns hi ho' hfc' λ h' x dx M => ?_
  obtain ⟨R', n1, n2, n3⟩ := key h' x dx M
  refine wpAny_mono (h _ hA.make x dx n1 n2 n3 (.ref x :: cs) (by rw [List.map_cons, hcs]; rfl) C _ hB R') (λ r s' ⟨S', R'', hr, hΦ⟩ => ⟨yE hr, S', R'', hΦ⟩) λ o_ o_ x => x.elim
def CallK (X : Wd) (A : Around) (L : Addr) (f : Value) (vs : List Value) (kws : List (Str × Value)) (S : St) (Φ : Value -> St -> Prop) : Prop := ∀ cs ks, cs.map er = vs -> ks.map (λ p => (p.1, er p.2)) = kws -> EV X A L (call f cs ks) S Φ
def Kws (X : Wd) (A : Around) (L : Addr) (pos : Pos) (ks : List Keyword) (env : Env) (S : St) (Φ : List Value -> St -> Prop) : Prop := Wp X A L (evalAll ((backToKw pos (keywordEach ks env)).map (·.2))) S λ vs S' => Φ (vs.map er) S'
theorem kws_nil {pos : Pos} {Φ : List Value -> St -> Prop} (h : Φ [] S) : Kws X A L pos [] env S Φ := λ C s hB R => wpAny_evalAll_nil ⟨S, R, h⟩
theorem kws_cons {pos : Pos} {n : Option Str} {v : Expr} {p : Pos} {rest : List Keyword} {Φ : List Value -> St -> Prop} (h : EV X A L (eval v env) S λ u S1 => Kws X A L pos rest env S1 λ vs S2 => Φ (u :: vs) S2) : Kws X A L pos (⟨n, v, p⟩ :: rest) env S Φ := λ C s hB R => by
  show wpAny _ _ (evalAll ((do let v <- eval v env; standAt pos; pure v) :: (backToKw pos (keywordEach rest env)).map (·.2))) _ _ s
  refine wpAny_evalAll_cons (wpAny_bind (h.then hB R λ c S1 s1z R1z h₁ => wpAny_bind (wpAny_standAt (wpAny_pure ?_))))
  exact Wp.then hB R1z h₁ λ vs S2 s2z R2z h2z => ⟨S2, R2z, h2z⟩
theorem yu {o : Expr} {name : Str} {apos pos : Pos} {e : Expr} {es : List Expr} {k : Keyword} {ks : List Keyword} {names : List Str} {Φ : Value -> St -> Prop} (h : EV X A L (eval o env) S λ v S1 => yf X A L v name S1 λ f first S2 => ∃ fa fd body, f = .ref fa /\ IsDef X fa fd body /\
      yC X A L pos (e :: es) env S2 λ vs S3 => Kws X A L pos (k :: ks) env S3 λ us S4z => CallK X A L f (first ++ vs) (names.zip us) S4z Φ)
    (hbase : attributeBase o name env (eval o env) = eval o env := by rfl)
    (hfew : ((backTo pos (starEach (e :: es) env)).all (λ x => !x.1) && (backToKw pos (keywordEach (k :: ks) env)).all (λ x => x.1.isSome)
      && decide ((e :: es).length + (k :: ks).length + (if (k :: ks).isEmpty then 0 else 1) < 30)) = true := by rfl)
    (hmf : methodCallForm ((e :: es).length + (k :: ks).length) (backTo pos (starEach (e :: es) env)) (backToKw pos (keywordEach (k :: ks) env)) = true := by rfl)
    (he : starEach (e :: es) env = (false, eval e env) :: starEach es env := by rfl)
    (hnames : (backToKw pos (keywordEach (k :: ks) env)).filterMap (·.1) = names := by rfl)
    (hall : (backToKw pos (keywordEach (k :: ks) env)).all (·.1.isSome) = true := by rfl)
    (hline : (apos.endLine == pos.line) = true := by rfl) : EV X A L (eval (.Call (.Attribute o name apos) (e :: es) (k :: ks) pos) env) S Φ := λ C s hB R => by
  rw [arm_eval_Call, hbase]
  refine wpAny_bind (Wp.then hB R h λ ov S1 s1z R1z h₁ => wpAny_bind (wpAny_standAt ?_))
  have hpos : methodCallPos true o env apos pos = pure pos := by unfold methodCallPos; simp [hline]
  unfold methodCall
  rw [hmf]
  refine wpAny_bind (wpAny_holding (wpAny_mono (h₁ ov rfl _ C s1z hB R1z) (λ r s2z ⟨S2, R2z, fa, fd, body, hf, D, h2z⟩ => ?_) λ o_ o_ x => x.elim))
  refine wpAny_bind (wpAny_of_eq hpos ?_)
  obtain ⟨f, first⟩ := r
  dsimp only at hf h2z ⊢
  subst hf
  obtain ⟨o', hd', ho'⟩ := D.at_
  refine callWith_function_kw (o := o') (fd := fd) ?_
  rw [he]
  refine evalArgs_kw hall ?_
  have h3z : wpAny (model X.prog X.w) A (spliced (backTo pos (starEach (e :: es) env))) (λ vs => Got X C L λ S3 => Kws X A L pos (k :: ks) env S3 λ us S4z => CallK X A L (.ref fa) (first.map er ++ vs.map er) (names.zip us) S4z Φ) Fa s2z := h2z C s2z hB R2z
  rw [he] at h3z
  refine wpAny_mono h3z (λ vs s3z ⟨S3, R3z, h3z⟩ => Wp.then hB R3z h3z λ us S4z s4z R4 h4z => ⟨⟨ho' _ (R4.kept hB), hd'⟩, ?_⟩) λ o_ o_ x => x
  dsimp only
  rw [hnames]
  refine h4z _ _ (by rw [List.map_append]) ?_ C s4z hB R4
  rw [List.zip_map_right]
  rfl
def CallC (X : Wd) (A : Around) (L : Addr) (f : Value) (vs : List Value) (kws : List (Str × Value)) (S : St) (Φ : Value -> St -> Prop) : Prop := ∀ cs ks, cs.map er = vs -> ks.map (λ p => (p.1, er p.2)) = kws -> ∀ C s, X.le C -> Rep X C L S s ->
  codeAny (model X.prog X.w) A (.call f ⟨cs, ks⟩) (λ r s' => match r with | .ok (.ret v) => Got X C L (Φ (er v)) s' | .ok _ => False | .error _ => False) s
theorem callK_of_C {f : Value} {vs : List Value} {kws : List (Str × Value)} {Φ : Value -> St -> Prop} (h : CallC X A L f vs kws S Φ) : CallK X A L f vs kws S Φ := λ cs ks hcs hks C s hB R => wpAny_call (h cs ks hcs hks C s hB R)
theorem call_fnC2 {fa : Addr} {fd : FuncData} {body : List Stmt} {names : List Str} {vals vs : List Value} {kws : List (Str × Value)} {Φ : Value -> St -> Prop} (D : IsDef X fa fd body) (hroom : A.depth < recursionLimit)
    (hbind : ∀ (cs : List Value) (ks : List (Str × Value)) (s : Shared), cs.map er = vs -> ks.map (λ p => (p.1, er p.2)) = kws -> X.kept s.heap -> ∃ ws, ws.map er = vals /\ BindsTo s fd ⟨cs, ks⟩ (names.zip ws)) (hcell : (fd.scope.names.all λ x => x.2 != .cell) = true) (hloc : (names.all λ x => fd.scope.names.lookup x == some .local) = true)
    (h : ∀ L', S.H L' = none -> Wp X (A.deeper (callEnv fd L' fa)) L' (execs body (callEnv fd L' fa)) ⟨yQ names vals, S.H⟩ (λ fl S' => Φ (retOf fl) ⟨S.m, S'.H⟩)) :
    CallC X A L (.ref fa) vs kws S Φ := λ cs ks hcs hks C s hB R => by
  obtain ⟨o, hd, ho'⟩ := D.at_
  have ho := ho' _ (R.kept hB)
  obtain ⟨ws, hws, hb⟩ := hbind cs ks s hcs hks (R.kept hB)
  refine (codeAny_call_def (fd := fd) (binds := names.zip ws) hroom ho hd (D.lim _ (R.kept hB)) (D.code _ (R.kept hB)) D.body hb (cell_of hcell) (λ x hx => loc_of hloc (List.of_mem_zip hx).1) (λ h₀ hns hk => ?_) D.co D.gen D.kind)
  have Rn := R.enter (tk := s.toks + (names.zip ws).length) hns (λ y => by rw [yb, hws]) hk
  refine wpAny_mono (h s.heap.objs.size (R.fresh (zJ s.heap)).2.1 _ _ (Wd.le_enter hB R) Rn) (λ fl s' h' => ?_) λ o_ o_ x => x.elim
  obtain ⟨S', R', p⟩ := h'
  refine ⟨⟨S.m, S'.H⟩, R.leave R', ?_⟩
  cases fl with
  | ret v => exact p
  | next => exact p
  | brk => exact p
  | cont => exact p
theorem call_fn2 {fa : Addr} {fd : FuncData} {body : List Stmt} {names : List Str} {vals vs : List Value} {kws : List (Str × Value)} {Φ : Value -> St -> Prop} (D : IsDef X fa fd body) (hroom : A.depth < recursionLimit)
    (hbind : ∀ (cs : List Value) (ks : List (Str × Value)) (s : Shared), cs.map er = vs -> ks.map (λ p => (p.1, er p.2)) = kws -> X.kept s.heap -> ∃ ws, ws.map er = vals /\ BindsTo s fd ⟨cs, ks⟩ (names.zip ws)) (hcell : (fd.scope.names.all λ x => x.2 != .cell) = true) (hloc : (names.all λ x => fd.scope.names.lookup x == some .local) = true)
    (h : ∀ L', S.H L' = none -> Wp X (A.deeper (callEnv fd L' fa)) L' (execs body (callEnv fd L' fa)) ⟨yQ names vals, S.H⟩ (λ fl S' => Φ (retOf fl) ⟨S.m, S'.H⟩)) :
    CallK X A L (.ref fa) vs kws S Φ := callK_of_C (call_fnC2 D hroom hbind hcell hloc h)
theorem call_of_K {f : Value} {vs : List Value} {Φ : Value -> St -> Prop} (h : CallK X A L f vs [] S Φ) : zO X A L f vs S Φ := λ cs hcs => h cs [] hcs rfl
end
section
open PySem.W.X
section
variable {prog : Program} {w : World} {A : Around} {E : Value -> Shared -> Prop} {P : Params} {h : Heap} {g : Array GenState} {d : Drawn} {t : Nat} {os : OsState}
theorem best_tuple : Builtin.Slots.bestBase [.type "tuple"] = pure (.type "tuple") := by first | rfl | kernel_rfl
theorem jU : Bind.madeBy (.type "tuple") = pure (some "tuple.__new__") := F.called_tuple.made
theorem mro_M (hC : h.get? 191 = some (k191 P)) : Looks (model prog w) h (mroOf (.ref 191)) [.ref 191, .type "tuple", .type "object"] := ((Looks.ld (part := none) hC).andThen .now).andThen .now
theorem sub_M (hC : h.get? 191 = some (k191 P)) : Looks (model prog w) h (isSubtype (.ref 191) (.type "tuple")) true := (mro_M hC).andThen .now
theorem madeBy_M (hC : h.get? 191 = some (k191 P)) : Looks (model prog w) h (Bind.madeBy (.ref 191)) none := by
  intro A Q E s k q
  unfold Bind.madeBy
  refine wpAny_bind (mro_M hC A _ E s k ?_)
  rw [List.forIn_cons]
  refine wpAny_bind (wpAny_bind (wpAny_bind (wpAny_bind (wpAny_loadPart (k _ _ hC) (wpAny_pure ?_)))))
  exact wpAny_pure (wpAny_pure (wpAny_pure q))
theorem data_M (hC : h.get? 191 = some (k191 P)) : Looks (model prog w) h (classData 191) { name := "Match", bases := [.type "tuple"], mro := [.ref 191, .type "tuple", .type "object"], ns := 190, qualname := "Match", hasDict := false, slotNames := [], subclasses := [], abstract := false, collection := none, hasDel := false } := (Looks.ld (part := none) hC).andThen .now
theorem base_M (hC : h.get? 191 = some (k191 P)) : Looks (model prog w) h (Bind.staticBase (.ref 191)) (.type "tuple") := by
  intro A Q E s k q
  have hC' := k _ _ hC
  obtain ⟨hh, g, d, t, os⟩ := s
  have L1 := mro_M (prog := prog) (w := w) hC'
  have L2 := madeBy_M (prog := prog) (w := w) hC'
  have L3 := data_M (prog := prog) (w := w) hC'
  have L4 : Looks (model prog w) hh (Builtin.Slots.bestBase [.type "tuple"]) (.type "tuple") := Looks.of_pure best_tuple
  have L5 : Looks (model prog w) hh (Bind.madeBy (.type "tuple")) (some "tuple.__new__") := Looks.of_pure jU
  unfold Bind.staticBase
  refine wpAny_bind (L1.at ?_)
  rw [List.forIn_cons]
  repeat lk
  exact q
theorem here_M (hC : h.get? 191 = some (k191 P)) : Looks (model prog w) h (Bind.madeHere "tuple.__new__" (.ref 191)) () :=
  (base_M hC).andThen ((Looks.of_pure jU).andThen (Looks.of_pure (by simp only [Option.map_some, bne_self_eq_false, Bool.false_eq_true, if_false])))
theorem K_M {P : Params} : (Kq P).lookup 191 = some (k191 P) := by rfl
theorem init_M (X : (Kq P).In h) : Looks (model prog w) h (typeLookup (.ref 191) "__init__") (some (.builtin "object.__init__")) := looks_findIn X (by rfl)
theorem split_tn : splitId "tuple.__new__" = some ("tuple", "__new__") := by decide +kernel
theorem kind_tn : builtinKind "tuple.__new__" = some .builtinFn := by decide +kernel
theorem check_tn (X : (Kq P).In h) {a : Value} {Q : Unit -> Shared -> Prop} (q : Q () ⟨h, g, d, t, os⟩) : wpAny (model prog w) A (checkBuiltinCall "tuple.__new__" ⟨[.ref 191, a], []⟩) Q E ⟨h, g, d, t, os⟩ := by
  have hC := X _ _ (K_M (P := P))
  have L0 := sub_M (prog := prog) (w := w) hC
  have L1 := base_M (prog := prog) (w := w) hC
  have L2 : Looks (model prog w) h (Bind.madeBy (.type "tuple")) (some "tuple.__new__") := Looks.of_pure jU
  have L3 : Looks (model prog w) h (isInstance (.ref 191) (.type "type")) true := looks_instIn X (by rfl)
  simp only [checkBuiltinCall, kind_tn, split_tn]
  repeat lk
  exact q
theorem new_M (X : (Kq P).In h) {it : Addr} {T : String} {o : Obj} {items : Array Value} {n : Nat} {R : Result -> Shared -> Prop} (hT : T = "list" \/ T = "tuple") (ho : h.get? it = some o) (hc : o.cls = .type T) (hd : o.data = .seq items n) (hsz : items.size <= sizeLine)
    (q : ∀ (h' : Heap) dx, (∀ b o', h.get? b = some o' -> h'.get? b = some o') -> R (.ok (.ret (.ref h'.objs.size))) ⟨h'.push ⟨.ref 191, some dx, .seq items 0, #[]⟩, g, d, t, os⟩) :
    codeAny (model prog w) A (.call (.builtin "tuple.__new__") ⟨[.ref 191, .ref it], []⟩) R ⟨h, g, d, t, os⟩ := by
  refine codeAny_call_builtin_code (Code.quiet_builtin _ (by decide +kernel)) (check_tn X (codeAny_builtin F.entry_tuple_new ?_))
  have hC := X _ _ (K_M (P := P))
  have L0 := sub_M (prog := prog) (w := w) hC
  have L1 := here_M (prog := prog) (w := w) hC
  have L2 := init_M (prog := prog) (w := w) X
  have L3 : Looks (model prog w) h (isInstance (.ref 191) (.type "type")) true := looks_instIn X (by rfl)
  unfold Builtin.«tuple.__new__»
  repeat (first | with_reducible refine wpAny_collect_seq it hT ho hc hd ?_ hsz | lk)
  intro h' hk
  have hC' := hk _ _ hC
  refine wpAny_bind (wpAny_pure (wpAny_bind (wpAny_alloc (wpAny_bind ?_))))
  have e : items.toList.toArray = items := by simp
  rw [e]
  have hcl : ((h'.push { cls := .type "dict", data := .dict #[] }).push ⟨.ref 191, some h'.objs.size, .seq items 0, #[]⟩).get? 191 = some (k191 P) := Heap.get?_push_of_some _ (Heap.get?_push_of_some _ hC')
  unfold newObj newObjAsIs
  repeat lk
  rw [if_neg (Nat.not_lt.mpr hsz)]
  have e2 : (h'.push { cls := .type "dict", data := .dict #[] }).objs.size = h'.objs.size + 1 := Heap.size_push ..
  repeat lk
  exact q _ _ λ b o' e => Heap.get?_push_of_some _ (hk _ _ e)
theorem newAttr_M {s : Shared} (X : (Kq P).In s.heap) (ho : Looks (model prog w) s.heap (opaqueClassAbove (.ref 191)) none) {expr : Bool} {Q : Value -> Shared -> Prop} (q : Q (.ref 138) { s with toks := s.toks + 1 }) : wpAny (model prog w) A (getAttr (.ref 191) "__new__" expr) Q E s := by
  refine cls_open X ho (looks_typeIn X (by rfl)) (by exact type_tga) (looks_hook X (r := none) (by rfl)) (by rfl) (r := .get (.builtin "staticmethod.__get__") (.ref 192) .none (.ref 191)) (by rfl) ?_
  refine wpAny_bind (wpAny_holding (wpAny_call ?_))
  refine sm_get (s := { s with toks := s.toks + 1 }) (f := .ref 138) (rest := []) X (by rfl) ?_
  refine wpAny_pure ?_
  exact wpAny_pure q
theorem oi_args4 (a b c d : Value) : argsOk "object.__init__" ⟨[a, b, c, d], []⟩ := by unfold argsOk; kernel_rfl
theorem call_M_raw (X : (Kq P).In h) (ho : Looks (model prog w) h (opaqueClassAbove (.ref 191)) none) {c1 c2 c3 : Value} {Q : Value -> Shared -> Prop}
    (q : wpAny (model prog w) (A.under (.builtin "type.__call__" ⟨[.ref 191, c1, c2, c3], []⟩)) (call (.ref 138) [.ref 191, c1, c2, c3]) (λ r s' => (Kq P).In s'.heap /\ ∃ x o, r = .ref x /\ s'.heap.get? x = some o /\ o.cls = .ref 191 /\ Q r s') E ⟨h, g, d, t + 1, os⟩) :
    wpAny (model prog w) A (call (.ref 191) [c1, c2, c3]) Q E ⟨h, g, d, t, os⟩ := by
  have hC := X _ _ (K_M (P := P))
  have L1 := mro_M (prog := prog) (w := w) hC
  have L2 := madeBy_M (prog := prog) (w := w) hC
  have L3 : Looks (model prog w) h (isInstance (.ref 191) (.type "type")) true := looks_instIn X (by rfl)
  have L4 : Looks (model prog w) h (specialOf (.ref 191) "__call__") (some (.builtin "type.__call__")) := looks_specialIn X (by rfl)
  refine wpAny_call (codeAny_of_tree ?_)
  show wpAny _ _ (callAny (.ref 191) _) _ _ _
  refine nd_load hC ?_
  show wpAny _ _ (callAny.viaDunder (.ref 191) _) _ _ _
  unfold callAny.viaDunder
  refine wpAny_bind (L4.at ?_)
  dsimp only
  rw [tc_bind]
  refine wpAny_bind (wpAny_pure (wpAny_bind (wpAny_pure ?_)))
  refine wpAny_pure (a := Fin.again (.call (.builtin "type.__call__") ⟨[.ref 191, c1, c2, c3], []⟩)) (And.intro rfl ?_)
  refine codeAny_call_builtin_at (Code.quiet_builtin _ (by decide +kernel)) entry_typeCall (check_slot tc_kind tc_split L3 (tc_args _ _ _) ?_)
  unfold Builtin.«type.__call__»
  repeat (first | with_reducible refine newAttr_M X ho ?_ | with_reducible refine wpAny_mono q ?_ (λ o_ o_ z => z) | lk)
  intro r s' ⟨X', x, o, hr, hx, hcx, hq⟩
  subst hr
  obtain ⟨h', g', d', t', os'⟩ := s'
  have t1 : Looks (model prog w) h' (typeOf (.ref x)) (.ref 191) := hcx ▸ (Looks.ld (part := some headPart) hx).andThen .now
  have s1 : Looks (model prog w) h' (isSubtype (.ref 191) (.ref 191)) true := looks_subIn X' (by rfl)
  have i1 : Looks (model prog w) h' (typeLookup (.ref 191) "__init__") (some (.builtin "object.__init__")) := init_M (prog := prog) (w := w) X'
  have b1 : Looks (model prog w) h' (bindSpecial (.builtin "object.__init__") (.ref x)) (.builtin "object.__init__", [.ref x]) := Looks.of_pure (oi_bind _)
  unfold isInstance callSpecial? specialOf
  repeat (first | with_reducible refine wpAny_call ?_ | lk)
  have s2 : Looks (model prog w) h' (isInstance (.ref x) (.type "object")) true := t1.andThen (looks_subIn X' (by rfl))
  refine codeAny_call_builtin oi_plain entry_oi (@check_slot (model prog w) _ _ _ "object.__init__" "object" "__init__" (.ref x) [c1, c2, c3] [] _ oi_kind oi_split s2 (oi_args4 _ _ _ _) ?_)
  have L2' := madeBy_M (prog := prog) (w := w) (X' _ _ (K_M (P := P)))
  unfold Builtin.«object.__init__»
  repeat lk
  exact hq
end
structure TopK (X : Wd) : Prop where
  frag : ∀ h, X.kept h -> (Kq X.w.params).In h
  stat : ∀ h, X.kept h -> ∃ mc, h.Ns cStatics mc /\ mc "thirdparty.any" = none
theorem TopK.opq {X : Wd} (T : TopK X) {h : Heap} (hk : X.kept h) (K : Addr) : Looks (model X.prog X.w) h (opaqueClassAbove (.ref K)) none := by
  obtain ⟨mc, hn, e⟩ := T.stat h hk
  refine Looks.andThen (a := false) (Looks.andThen (a := none) ?_ .now) (by show Looks _ h (if (!false) = true then pure none else _) none; rw [if_pos (show (!false) = true from rfl)]; exact .now)
  intro A Q E s k q
  exact wpAny_nsGet (hn.keeps k) (by rw [e]; exact q)
section
variable {X : Wd} {A : Around} {L : Addr} {S : St} {env : Env} {C : Cx} {s : Shared}
theorem Rep.mt (R : Rep X C L S s) {a K : Addr} {vs : List Value} (h : S.H a = some (.mt K vs)) : ∃ items ep d, s.heap.get? a = some ⟨.ref K, d, .seq items ep, #[]⟩ /\ items.toList.map er = vs := by
  obtain ⟨ob, ho, items, ep, d, rfl, e⟩ := R.get h; exact ⟨items, ep, d, ho, e⟩
theorem attr_cls (T : TopK X) {K : Addr} {name : Str} {v : Value} {Φ : Value -> St -> Prop} (e : findCls (Kq X.w.params) (.ref K) (.type "type") name = some (.val v)) (h : Φ (er v) S) (ht : typeIn (Kq X.w.params) (.ref K) = some (.type "type") := by rfl) (hh : handedIn v = true := by rfl) : AttrE X A L (.ref K) name S Φ := λ c hc C s hB R => by
  rw [zC hc]
  have X' := T.frag _ (R.kept hB)
  refine cls_open X' (T.opq (R.kept hB) K) (looks_typeIn X' ht) (by exact type_tga) (looks_hook X' (r := none) (by rfl)) (by rfl) e ?_
  refine wpAny_pure ?_
  show wpAny _ _ (handedOut v) _ _ _
  rw [handedOut_of hh]
  exact wpAny_pure ⟨S, R.tok _, h⟩
theorem meth_tupleNew (T : TopK X) {Ψ : Value -> List Value -> St -> Prop} (h : Ψ (.builtin "tuple.__new__") [] S) : yf X A L (.type "tuple") "__new__" S Ψ := λ c hc pl C s hB R => by
  rw [of_er_type hc]
  have X' := T.frag _ (R.kept hB)
  have hstub : opaqueClassAbove (.type "tuple") = pure none := by unfold opaqueClassAbove; dsimp only; rw [show Manifest.isStub "tuple" = false by decide +kernel]; rfl
  have L0 : Looks (model X.prog X.w) s.heap (typeOf (.type "tuple")) (.type "type") := Looks.of_pure (by first | rfl | kernel_rfl)
  have hg : findIn (Kq X.w.params) (.type "type") "__getattribute__" = some (some (.builtin "type.__getattribute__")) := by exact type_tga
  unfold getMethod specialOf
  refine wpAny_bind (wpAny_bind (L0.here ((looks_findIn X' hg).here ?_)))
  dsimp only
  rw [if_pos canon_tga]
  refine wpAny_bind (wpAny_mono (Q := λ v s' => v = .builtin "tuple.__new__" /\ ∃ S', Rep X C L S' s' /\ S' = S) (E := Fa) ?_ (λ v s' ⟨hv, S', R', e⟩ => by subst hv; subst e; exact wpAny_pure ⟨_, R', h⟩) λ o_ o_ z => z)
  have LO : Looks (model X.prog X.w) s.heap (opaqueClassAbove (.type "tuple")) none := Looks.of_pure hstub
  refine cls_open X' LO L0 hg (looks_hook X' (r := none) (by rfl)) (by rfl) (r := .val (.builtin "tuple.__new__")) (by rfl) ?_
  refine wpAny_pure ?_
  show wpAny _ _ (handedOut (.builtin "tuple.__new__")) _ _ _
  rw [handedOut_of (by rfl)]
  exact wpAny_pure ⟨rfl, _, R.tok _, rfl⟩
theorem call_tupleNew (T : TopK X) {t : Addr} {vs : List Value} {Φ : Value -> St -> Prop} (ht : S.H t = some (.list vs) \/ S.H t = some (.tup (.type "tuple") vs)) (hn : vs.length <= sizeLine) (h : New S (.mt 191 vs) Φ) : zO X A L (.builtin "tuple.__new__") [.ref 191, .ref t] S Φ := λ cs hcs C s hB R => by
  obtain ⟨c, d, rfl, hc, hd⟩ := map2 hcs
  rw [zC hc, zC hd]
  have X' := T.frag _ (R.kept hB)
  have key : ∃ T' items ep, (T' = "list" \/ T' = "tuple") /\ s.heap.get? t = some ⟨.type T', none, .seq items ep, #[]⟩ /\ items.toList.map er = vs := by
    rcases ht with ht | ht
    . obtain ⟨items, ep, ho, e⟩ := R.list ht; exact ⟨_, items, ep, .inl rfl, ho, e⟩
    . obtain ⟨items, ep, ho, e⟩ := R.tup ht; exact ⟨_, items, ep, .inr rfl, ho, e⟩
  obtain ⟨T', items, ep, hT, ho, e⟩ := key
  have fin : ∀ (h' : Heap) dx, (∀ b o', s.heap.get? b = some o' -> h'.get? b = some o') -> Got X C L (Φ (.ref h'.objs.size)) { s with heap := h'.push ⟨.ref 191, some dx, .seq items 0, #[]⟩ } := λ h' dx hk => by
    have R1z : Rep X C L S { s with heap := h' } := R.ext hk rfl rfl
    exact ⟨_, R1z.push (o := .mt 191 vs) rfl ⟨items, 0, some dx, rfl, e⟩ _, h _ (R1z.fresh (zJ _)).2.1⟩
  obtain ⟨hh, g, dr, tk, os⟩ := s
  exact wpAny_call (new_M X' hT ho rfl rfl (by rw [zP e]; exact hn) λ h' dx hk => fin h' dx hk)
end
end
section
open PySem.W.X
section
variable {prog : Program} {w : World} {A : Around} {E : Value -> Shared -> Prop} {P : Params} {s : Shared}
theorem qL {α : Type} {M : Model} {t : Sem α} {a : α} {Q : α -> Shared -> Prop} (l : Looks M s.heap t a) (q : Q a s) : wpAny M A t Q E s := l _ _ _ _ (λ o_ o_ e => e) q
structure IsM (P : Params) (h : Heap) (x : Addr) : Prop where
  frag : (Kq P).In h
  at_ : ∃ o, h.get? x = some o /\ o.cls = .ref 191
theorem IsM.ty {h : Heap} {x : Addr} (I : IsM P h x) : Looks (model prog w) h (typeOf (.ref x)) (.ref 191) := by
  obtain ⟨o, ho, hc⟩ := I.at_
  exact hc ▸ (Looks.ld (part := some headPart) ho).andThen .now
theorem IsM.tup {h : Heap} {x : Addr} (I : IsM P h x) : Looks (model prog w) h (isInstance (.ref x) (.type "tuple")) true := I.ty.andThen (looks_subIn I.frag (by rfl))
theorem IsM.spec {h : Heap} {x : Addr} {name : Str} {r : Option Value} (I : IsM P h x) (e : findIn (Kq P) (.ref 191) name = some r) : Looks (model prog w) h (specialOf (.ref x) name) r := I.ty.andThen (looks_findIn I.frag e)
theorem callM {x : Addr} {id n : String} {name : Str} {B : Builtin} {rest : List Value} {Q : Value -> Shared -> Prop} (I : IsM P s.heap x) (S : Slot "tuple" name id) (hk : builtinKind id = some .slot) (hs : splitId id = some ("tuple", n)) (he : entryFor table id = some B) (ha : argsOk id ⟨.ref x :: rest, []⟩)
    (q : wpAny (model prog w) A.in1 (B ⟨.ref x :: rest, []⟩) (λ fin s' => ∃ v, fin = .done (.ret v) /\ Q v s') E s) : wpAny (model prog w) A (call (.builtin id) (.ref x :: rest)) Q E s := by
  refine wpAny_call (codeAny_call_builtin S.plain he (check_slot hk hs I.tup ha (wpAny_mono q (λ fin s' h' => ?_) λ o_ o_ h' => h')))
  obtain ⟨v, rfl, hv⟩ := h'; exact hv
theorem callSpM {x : Addr} {id n : String} {name : Str} {B : Builtin} {rest : List Value} {Q : Option Value -> Shared -> Prop} (I : IsM P s.heap x) (S : Slot "tuple" name id) (hf : findIn (Kq P) (.ref 191) name = some (some (.builtin id))) (hk : builtinKind id = some .slot) (hs : splitId id = some ("tuple", n)) (he : entryFor table id = some B) (ha : argsOk id ⟨.ref x :: rest, []⟩)
    (q : wpAny (model prog w) A.in1 (B ⟨.ref x :: rest, []⟩) (λ fin s' => ∃ v, fin = .done (.ret v) /\ Q (some v) s') E s) : wpAny (model prog w) A (callSpecial? (.ref x) name rest) Q E s := by
  simp only [callSpecial?]
  refine wpAny_bind (qL (I.spec hf) ?_)
  simp only [S.bind]
  exact wpAny_holding (wpAny_bind (wpAny_pure (wpAny_bind (wpAny_mono (callM I S hk hs he ha q) (λ v s' h' => wpAny_pure h') λ o_ o_ h' => h'))))
theorem split_tlen : splitId "tuple.__len__" = some ("tuple", "__len__") := by decide +kernel
theorem kind_tlen : builtinKind "tuple.__len__" = some .slot := by decide +kernel
theorem split_titer : splitId "tuple.__iter__" = some ("tuple", "__iter__") := by decide +kernel
theorem kind_titer : builtinKind "tuple.__iter__" = some .slot := by decide +kernel
theorem lenM {x : Addr} {o : Obj} {items : Array Value} {ep : Nat} {Q : Value -> Shared -> Prop} (I : IsM P s.heap x) (ho : s.heap.get? x = some o) (hd : o.data = .seq items ep) (hfit : (items.size : Int) < 2 ^ 63)
    (h : Q (.int items.size (s.toks + 1)) { s with toks := s.toks + 1 + 1 }) : wpAny (model prog w) A (call (.builtin "len") [.ref x]) Q E s := by
  refine Calls.call_function_entry kind_len plain_len entry_len (args_len1 _) ?_
  unfold Builtin.«len»
  refine wpAny_bind (m := oneArg "len" _) (wpAny_pure ?_)
  refine wpAny_bind (m := callSpecial? (.ref x) (Str.ofString "__len__")) (callSpM I F.slot_tuple_len (by rfl) kind_tlen split_tlen F.entry_tuple_len (F.args_tuple_len_1 _) ?_)
  unfold Builtin.«tuple.__len__» slotArgs
  simp only [List.isEmpty_nil, Bool.not_true, Bool.false_eq_true, ↓reduceIte, bind_assoc, List.length_nil, bne_self_eq_false]
  refine wpAny_bind (wpAny_pure ?_)
  try dsimp only
  unfold Builtin.Tuple.tupleItemsOf
  refine wpAny_bind (wpAny_bind (wpAny_seqItems ho hd (wpAny_pure ?_)))
  show wpAny _ _ (retInt _) _ _ _
  unfold retInt
  refine wpAny_bind (wpAny_mkInt (wpAny_pure ⟨_, rfl, ?_⟩))
  refine wpAny_bind (wpAny_holding (wpAny_pure ?_))
  refine wpAny_bind (wpAny_letGo ?_)
  show wpAny _ _ (if ((items.size : Nat) : Int) < 0 then _ else _) _ _ _
  rw [if_neg (by ac_nf)]
  show wpAny _ _ (if ((items.size : Nat) : Int) >= 2 ^ 63 then _ else _) _ _ _
  rw [if_neg (by ac_nf)]
  exact wpAny_bind (wpAny_mkInt (wpAny_pure ⟨_, rfl, h⟩))
theorem iterM {x : Addr} {Q : Value -> Shared -> Prop} (I : IsM P s.heap x)
    (hQ : Q (.ref s.heap.objs.size) { s with heap := s.heap.push { cls := .type "tuple_iterator", data := .fields #[.ref x, .int 0 0] } }) : wpAny (model prog w) A (pyIter (.ref x)) Q E s := by
  have hf : findIn (Kq P) (.ref 191) "__iter__" = some (some (.builtin "tuple.__iter__")) := by rfl
  unfold pyIter
  refine wpAny_bind (qL (I.spec hf) ?_)
  show wpAny _ _ (callSpecialIfBoundUnlessNone? (.ref x) "__iter__" _ >>= _) _ E s
  refine wpAny_bind ?_
  simp only [callSpecialIfBoundUnlessNone?, bindSpecialIfBound?]
  refine wpAny_holding (wpAny_bind (wpAny_bind (qL (I.spec hf) ?_)))
  simp only [F.slot_tuple_iter.bind]
  refine wpAny_bind (wpAny_askSetting (wpAny_ite ?_))
  have fin : wpAny (model prog w) A (call (.builtin "tuple.__iter__") [.ref x]) (λ v s' => wpAny (model prog w) A (do
        match <- specialOf v "__next__" with
        | none => rule "iter.non-iterator"; raiseError "TypeError" s!"iter() returned non-iterator of type '{← typeNameOf v}'"
        | some _ => pure v) Q E s') E s := by
    refine callM I F.slot_tuple_iter kind_titer split_titer F.entry_tuple_iter (F.args_tuple_iter_1 _) ?_
    show wpAny _ _ (do ret (<- newFields "tuple_iterator" [.ref x, rawInt 0])) _ _ s
    exact wpAny_bind (wpAny_newObj_type (wpAny_pure ⟨_, rfl, wpAny_bind (wpAny_specialOf ⟨_, Heap.get?_push_size _ rfl, rfl⟩ F.slot_tuple_iterator_next.lookup (wpAny_pure hQ))⟩))
  split
  . exact wpAny_bind (wpAny_pure (wpAny_pure (wpAny_bind (wpAny_mono fin (λ v s' h' => wpAny_pure h') λ o_ o_ h' => h'))))
  . exact wpAny_tryCatch (wpAny_bind (wpAny_pure (wpAny_pure (wpAny_bind (wpAny_mono fin (λ v s' h' => wpAny_pure h') λ o_ o_ h' => h')))))
noncomputable abbrev jW (l : Addr) (k : Nat) : Obj := { cls := .type "tuple_iterator", data := .fields #[.ref l, .int k 0] }
theorem next_item {it t : Addr} {i ep : Nat} {ol : Obj} {items : Array Value} {x : Value} {Q : Option Value -> Shared -> Prop} (hit : s.heap.get? it = some (jW t i)) (hol : s.heap.get? t = some ol) (hdl : ol.data = .seq items ep) (hx : items[i]? = some x)
    (hQ : ∀ h', h'.get? it = some (jW t (i + 1)) -> Heap.SameBut it s.heap h' -> Q (some x) { s with heap := h' }) : wpAny (model prog w) A (pyNext (.ref it)) Q E s := by
  have hT : s.TypeIs (.ref it) "tuple_iterator" := ⟨_, hit, rfl⟩
  unfold pyNext
  refine wpAny_bind (wpAny_attempt (wpAny_callSpecial?_slot (name := Str.ofString "__next__") hT F.slot_tuple_iterator_next
    (wpAny_call_entry F.slot_tuple_iterator_next hT F.entry_tuple_iterator_next ?_ (F.args_tuple_iterator_next_1 _))))
  show wpAny _ _ (field (.ref it) 0 >>= _) _ _ s
  refine wpAny_bind (wpAny_field hit rfl (x := .ref t) rfl ?_)
  show wpAny _ _ (if (Value.ref t == Value.none) = true then _ else _) _ _ s
  rw [if_neg (show ¬ ((Value.ref t == Value.none) = true) from Bool.false_ne_true)]
  show wpAny _ _ (field (.ref it) 1 >>= _) _ _ s
  refine wpAny_bind (wpAny_field hit rfl (x := .int i 0) rfl ?_)
  show wpAny _ _ (seqItems? (.ref t) >>= _) _ _ s
  refine wpAny_bind (wpAny_seqItems hol hdl ?_)
  simp only [Int.toNat_natCast, hx]
  exact wpAny_bind (wpAny_setField_rec hit (by show 1 < 2; decide) λ h' hg hs => wpAny_pure ⟨x, rfl, wpAny_pure (hQ h' hg hs)⟩)
theorem next_end {it t : Addr} {i ep : Nat} {ol : Obj} {items : Array Value} {Q : Option Value -> Shared -> Prop} (hh : A.handled = none) (hit : s.heap.get? it = some (jW t i)) (hol : s.heap.get? t = some ol) (hdl : ol.data = .seq items ep) (hx : items[i]? = none)
    (hQ : ∀ h', Heap.ExtBut it s.heap h' -> Q none { s with heap := h' }) : wpAny (model prog w) A (pyNext (.ref it)) Q E s := by
  have hT : s.TypeIs (.ref it) "tuple_iterator" := ⟨_, hit, rfl⟩
  unfold pyNext
  refine wpAny_bind (wpAny_attempt (wpAny_callSpecial?_slot (name := Str.ofString "__next__") hT F.slot_tuple_iterator_next
    (wpAny_call_entry F.slot_tuple_iterator_next hT F.entry_tuple_iterator_next ?_ (F.args_tuple_iterator_next_1 _))))
  show wpAny _ _ (field (.ref it) 0 >>= _) _ _ s
  refine wpAny_bind (wpAny_field hit rfl (x := .ref t) rfl ?_)
  show wpAny _ _ (if (Value.ref t == Value.none) = true then _ else _) _ _ s
  rw [if_neg (show ¬ ((Value.ref t == Value.none) = true) from Bool.false_ne_true)]
  show wpAny _ _ (field (.ref it) 1 >>= _) _ _ s
  refine wpAny_bind (wpAny_field hit rfl (x := .int i 0) rfl ?_)
  show wpAny _ _ (seqItems? (.ref t) >>= _) _ _ s
  refine wpAny_bind (wpAny_seqItems hol hdl ?_)
  simp only [Int.toNat_natCast, hx]
  refine wpAny_bind (wpAny_rule (wpAny_bind (wpAny_setField hit rfl (by show 0 < 2; decide) ?_)))
  show wpAny _ _ (newExc (.type "StopIteration") [] >>= _) _ _ _
  refine wpAny_bind ?_
  simp only [newExc, newTuple]
  refine wpAny_bind (wpAny_newObj_type ?_ (by size_fits))
  refine wpAny_bind (m := firstArgMember _ _) (wpAny_of_eq (a := Value.none) (by first | rfl | (simp only [firstArgMember]; rfl)) ?_)
  refine wpAny_newObj_type ?_ (by size_fits)
  simp only [raiseNew]
  refine wpAny_bind (wpAny_handled ?_)
  rw [show A.in1.handled = none from hh]
  refine wpAny_bind (wpAny_pure (wpAny_throw ?_))
  refine wpAny_bind (wpAny_isInstance (T := "StopIteration") (b := true) ⟨_, Heap.get?_push_size _ rfl, rfl⟩ isSubtype_stop ?_)
  exact wpAny_pure (hQ _ (((Heap.SameBut.update ..).extBut.push _).push _))
theorem draw_any {it t : Addr} {ep : Nat} {ol : Obj} {items : Array Value} (hne : t ≠ it) (hdl : ol.data = .seq items ep) : ∀ (n i : Nat) (s : Shared) (Q : List Value -> Shared -> Prop), s.heap.get? it = some (jW t i) -> s.heap.get? t = some ol -> i + n <= items.size ->
    (∀ h', h'.get? it = some (jW t (i + n)) -> Heap.SameBut it s.heap h' -> Q ((items.toList.drop i).take n) { s with heap := h' }) -> wpAny (model prog w) A (draw (.ref it) n) Q E s
  | 0, i, s, Q, hit, _, _, hQ => by
    show wpAny _ _ (pure []) Q E s
    exact wpAny_pure (by simpa using hQ s.heap hit (Heap.SameBut.refl ..))
  | n + 1, i, s, Q, hit, ht, hle, hQ => by
    have hlt : i < items.size := by ac_nf
    show wpAny _ _ (pyNext (.ref it) >>= _) Q E s
    refine wpAny_bind (next_item hit ht hdl (x := items[i]) (by simp [hlt]) λ h₁ hit1 hs1z => ?_)
    refine wpAny_bind (wpAny_holding (draw_any hne hdl n (i + 1) _ _ hit1 ((hs1z.2 t hne).trans ht) (by ac_nf) λ h2z hit2 hs2 => wpAny_pure ?_))
    have hd : items.toList.drop i = items[i] :: items.toList.drop (i + 1) := by simp [List.drop_eq_getElem_cons, hlt]
    have := hQ h2z (by rw [show i + (n + 1) = i + 1 + n by ac_nf]; exact hit2) (hs1z.trans hs2)
    rw [hd, List.take_succ_cons] at this
    exact this
theorem unpackM {t : Addr} {ep : Nat} {ol : Obj} {items : Array Value} {Q : List Value -> Shared -> Prop} (hh : A.handled = none) (I : IsM P s.heap t) (hol : s.heap.get? t = some ol) (hdl : ol.data = .seq items ep)
    (hQ : ∀ h', Heap.ExtBut s.heap.objs.size s.heap h' -> Q items.toList { s with heap := h' }) : wpAny (model prog w) A (unpackItems (.ref t) items.size none) Q E s := by
  have hlt : t ≠ s.heap.objs.size := Nat.ne_of_lt (Heap.lt_size hol)
  unfold unpackItems
  refine wpAny_bind ?_
  . unfold notIterableAtAll
    refine wpAny_bind (qL (I.spec (r := some (.builtin "tuple.__iter__")) (by rfl)) ?_)
    refine wpAny_pure ?_
    simp only [Bool.false_eq_true, if_false]
    refine wpAny_bind (wpAny_holding (iterM I ?_))
    have ht1 : (s.heap.push { cls := .type "tuple_iterator", data := .fields #[.ref t, .int 0 0] }).get? t = some ol := Heap.get?_push_of_some _ hol
    refine wpAny_bind (wpAny_holding (draw_any hlt hdl items.size 0 _ _ (Heap.get?_push_size _ rfl) ht1 (by ac_nf) λ h₁ hit1 hs1z => ?_))
    have hall : List.take items.size (List.drop 0 items.toList) = items.toList := by
      rw [List.drop_zero]; exact List.take_of_length_le (by simp)
    rw [hall]
    rw [if_neg (by simp)]
    refine wpAny_bind (wpAny_holding (next_end hh hit1 ((hs1z.2 t hlt).trans ht1) hdl (by simp) λ h2z he2 => ?_))
    simp only [Option.isSome_none, Bool.false_eq_true, if_false]
    refine wpAny_pure (hQ h2z λ b o hb e => he2 b o hb (hs1z.extBut b o hb (Heap.get?_push_of_some _ e)))
end
section
variable {X : Wd} {A : Around} {L : Addr} {S : St} {env : Env} {C : Cx} {s : Shared}
theorem Rep.isM (T : TopK X) (hB : X.le C) (R : Rep X C L S s) {a : Addr} {vs : List Value} (h : S.H a = some (.mt 191 vs)) : ∃ items ep d, IsM X.w.params s.heap a /\ s.heap.get? a = some ⟨.ref 191, d, .seq items ep, #[]⟩ /\ items.toList.map er = vs := by
  obtain ⟨items, ep, d, ho, e⟩ := R.mt h
  exact ⟨items, ep, d, ⟨T.frag _ (R.kept hB), _, ho, rfl⟩, ho, e⟩
theorem call_lenM (T : TopK X) {a : Addr} {vs : List Value} {Φ : Value -> St -> Prop} (hl : S.H a = some (.mt 191 vs)) (hn : vs.length < 2 ^ 62) (h : Φ (.int vs.length 0) S) : zO X A L (.builtin "len") [.ref a] S Φ := λ cs hcs C s hB R => by
  obtain ⟨c, rfl, hc⟩ := yX hcs
  rw [zC hc]
  obtain ⟨items, ep, d, I, ho, e⟩ := R.isM T hB hl
  refine lenM I ho rfl (by rw [zP e]; ac_nf) ⟨S, R.tok _, ?_⟩
  rw [zP e]; exact h
theorem asg_M (T : TopK X) {ts : List Expr} {k : Nat} {pos : Pos} {a : Addr} {vs : List Value} {Ψ : St -> Prop} (hh : A.handled = none) (hl : S.H a = some (.mt 191 vs)) (hn : ts.length = vs.length) (h : AsgAll X A L ts env vs S Ψ) (hst : ts.all qj = true := by rfl) : qs X A L (.Tuple ts k pos) env (.ref a) S Ψ := λ c hc C s hB R => by
  rw [zC hc]
  obtain ⟨items, ep, d, I, ho, e⟩ := R.isM T hB hl
  rw [arm_assign_Tuple, yI hst]
  refine wpAny_bind (wpAny_standAt ?_)
  unfold unpack
  rw [jY, List.length_map, hn, <- zP e, List.map_map]
  exact wpAny_bind (wpAny_holding (unpackM hh I ho rfl λ h' hs => asg_all e h hB (R.extNew hs)))
end
end
section
open PySem.W.X
section
variable {X : Wd} {A : Around} {L : Addr} {S : St} {env : Env} {C : Cx} {s : Shared}
theorem Wp.aside {α : Type} {t : Sem α} {Ψ : α -> St -> Prop} {D : Addr} {ys : Array Value} (hB : X.le C) (R : Rep X C L S s) (hd : jK C S L [D]) (hp : s.heap.PlainList D ys) (h : Wp X A L t S Ψ) :
    wpAny (model X.prog X.w) A t (λ a s' => ∃ S', Rep X C L S' s' /\ jK C S' L [D] /\ s'.heap.PlainList D ys /\ Ψ a S') Fa s := by
  refine Wp.thenE (Wd.le_over hB) (R.freeze hd) h λ a S' s' R' p => ?_
  have bk := hd.back (s := s) (λ b hb => by obtain ⟨ep, ho⟩ := hp; rw [List.mem_singleton.mp hb]; exact ⟨_, ho⟩) R'
  exact ⟨S', R'.thaw (λ b o e => Cx.over_some e) rfl, bk.1, hp.at λ o e => bk.2 D (List.mem_singleton.mpr rfl) o e, p⟩
theorem Rep.hidList (R : Rep X C L S s) {D : Addr} (hd : jK C S L [D]) {f : Obj -> Obj} : Rep X C L S { s with heap := s.heap.update D f } :=
  R.hid hd (λ b o hb e => (Heap.get?_update_other _ _ (λ z : D = b => hb (by rw [<- z]; exact List.mem_singleton.mpr rfl))).trans e) rfl rfl
theorem extend_loop {it res : Value} {D : Addr} {n : Nat} {Φ : List Value -> St -> Prop} {RR : Result -> Shared -> Prop} (J : Nat -> List Value -> St -> Prop) (hB : X.le C) (hn : n <= sizeLine)
    (item : ∀ k acc S, k < n -> J k acc S -> Wp X A.in1 L (pyNext it) S λ r S' => ∃ c, r = some c /\ J (k + 1) (acc ++ [er c]) S')
    (done : ∀ acc S, J n acc S -> Wp X A.in1 L (pyNext it) S λ r S' => r = none /\ Φ acc S')
    (fin : ∀ acc S' s' ys, Rep X C L S' s' -> jK C S' L [D] -> s'.heap.PlainList D ys -> ys.toList.map er = acc -> acc.length <= n -> Φ acc S' -> RR (.ok (.ret res)) s') :
    ∀ (j k : Nat) (s : Shared) (S : St) (acc : List Value) (ys : Array Value), n - k = j -> k <= n -> Rep X C L S s -> jK C S L [D] -> s.heap.PlainList D ys -> ys.toList.map er = acc -> acc.length <= k -> J k acc S -> codeAny (model X.prog X.w) A (.builtin "list.extend.loop" ⟨[.ref D, it, res], []⟩) RR s := by
  intro j
  induction j with
  | zero =>
    intro k s S acc ys hj hk R hd hp hacc hlen hJ
    have : k = n := by ac_nf
    subst this
    refine codeAny_builtin F.entry_extend_loop ?_
    rw [Around.under_plainId F.plain_extend_loop _]
    show wpAny _ A.in1 (pyNext it >>= _) _ _ s
    refine wpAny_bind (wpAny_mono (Wp.aside hB R hd hp (done acc S hJ)) (λ r s' ⟨S', R', hd', hp', hr, hΦ⟩ => ?_) λ o_ o_ x => x.elim)
    subst hr
    exact wpAny_pure (fin acc S' s' ys R' hd' hp' hacc hlen hΦ)
  | succ j ih =>
    intro k s S acc ys hj hk R hd hp hacc hlen hJ
    refine codeAny_builtin F.entry_extend_loop ?_
    rw [Around.under_plainId F.plain_extend_loop _]
    show wpAny _ A.in1 (pyNext it >>= _) _ _ s
    refine wpAny_bind (wpAny_mono (Wp.aside hB R hd hp (item k acc S (by ac_nf) hJ)) (λ r s' ⟨S', R', hd', ⟨ep, hp'⟩, c, hr, hJ'⟩ => ?_) λ o_ o_ x => x.elim)
    subst hr
    show wpAny _ A.in1 (updateSeq D (·.push c) >>= _) _ _ _
    have hsz : ys.size = acc.length := by rw [<- hacc, List.length_map, Array.length_toList]
    refine wpAny_bind (wpAny_updateSeq hp' rfl (wpAny_pure ⟨plainId_quiet F.plain_extend_loop _, ih (k + 1) _ S' (acc ++ [er c]) (ys.push c) (by ac_nf) (by ac_nf) (R'.hidList hd') hd' ⟨_, Heap.get?_update_self _ hp' rfl⟩ (by rw [Array.toList_push, List.map_append, hacc]; rfl) (by rw [List.length_append]; simp; ac_nf) hJ'⟩)
      (by ac_nf) (by show (ys.push c).size <= sizeLine + 1; rw [Array.size_push]; ac_nf))
theorem call_listOf {it : Addr} {n : Nat} {Φ : Value -> St -> Prop} (J : Value -> Nat -> List Value -> St -> Prop) (hn : n <= sizeLine) (hl : ∃ o, S.H it = some o)
    (hty : ∀ C s S', X.le C -> Rep X C L S' s -> S' = S -> ∃ t, Looks (model X.prog X.w) s.heap (typeOf (.ref it)) t /\ t ≠ .type "list" /\ t ≠ .type "tuple")
    (iter : Wp X A.in1.in1 L (pyIter (.ref it)) S λ i S' => Wp X A.in1.in1 L (Builtin.List.listLengthHint (.ref it)) S' λ b S'' => J i 0 [] S'')
    (item : ∀ i k acc S, k < n -> J i k acc S -> Wp X A.in1.in1 L (pyNext i) S λ r S' => ∃ c, r = some c /\ J i (k + 1) (acc ++ [er c]) S')
    (done : ∀ i acc S, J i n acc S -> Wp X A.in1.in1 L (pyNext i) S λ r S' => r = none /\ New S' (.list acc) Φ) : zO X A L (.type "list") [.ref it] S Φ := λ cs hcs C s hB R => by
  obtain ⟨c, rfl, hc⟩ := yX hcs
  rw [zC hc]
  have f := R.fresh (zJ s.heap)
  refine callType_codes (Q₁ := λ obj s1z => obj = .ref s.heap.objs.size /\ s1z = { s with heap := s.heap.push { cls := .type "list", data := .seq #[] } }) F.called_list (F.typeCall_list_1 _) F.entry_list_init
    (code_list_new _ ⟨rfl, rfl⟩) λ obj s1z h₁ => ?_
  obtain ⟨rfl, rfl⟩ := h₁
  have hS : (s.heap.push { cls := .type "list", data := .seq #[] }).get? s.heap.objs.size = some { cls := .type "list", data := .seq #[] } := Heap.get?_push_size _ rfl
  refine ⟨⟨_, hS, rfl⟩, F.args_list_init_2 _ _, ?_⟩
  show wpAny _ A.in1.in1 (do let old <- Builtin.List.listItems (.ref s.heap.objs.size); Builtin.List.listUpdate (.ref s.heap.objs.size) (λ o_ => #[]); letGo old.toList.reverse; Builtin.List.listExtendWith (.ref s.heap.objs.size) (.ref it) .none) _ _ _
  refine wpAny_bind ?_
  unfold Builtin.List.listItems
  refine wpAny_bind (wpAny_seqItems hS rfl (wpAny_pure ?_))
  show wpAny _ _ (updateSeq s.heap.objs.size (λ o_ => #[]) >>= λ o_ => letGo (#[] : Array Value).toList.reverse >>= λ o_ => Builtin.List.listExtendWith (.ref s.heap.objs.size) (.ref it) .none) _ _ _
  refine wpAny_bind (wpAny_updateSeq hS rfl ?_)
  have hS2 := Heap.get?_update_self (Obj.mapSeq (λ o_ => (#[] : Array Value))) hS rfl
  refine wpAny_bind (wpAny_letGo ?_)
  have hd : jK C S L [s.heap.objs.size] := λ b hb => by rw [List.mem_singleton.mp hb]; exact f
  have R1z : Rep X C L S { s with heap := (s.heap.push { cls := .type "list", data := .seq #[] }).update s.heap.objs.size (Obj.mapSeq (λ o_ => (#[] : Array Value))) } :=
    Rep.hidList (s := { s with heap := s.heap.push { cls := .type "list", data := .seq #[] } }) (R.ext (λ b o e => Heap.get?_push_of_some _ e) rfl rfl) hd
  have hp1z : ((s.heap.push { cls := .type "list", data := .seq #[] }).update s.heap.objs.size (Obj.mapSeq (λ o_ => (#[] : Array Value)))).PlainList s.heap.objs.size #[] := ⟨_, hS2⟩
  generalize hs1z : ({ s with heap := (s.heap.push { cls := .type "list", data := .seq #[] }).update s.heap.objs.size (Obj.mapSeq (λ o_ => (#[] : Array Value))) } : Shared) = s1z at R1z ⊢
  have hp1z : s1z.heap.PlainList s.heap.objs.size #[] := by rw [<- hs1z]; exact hp1z
  generalize hD : s.heap.objs.size = D at hd hp1z f ⊢
  obtain ⟨t, ht, ht1, ht2⟩ := hty C s1z S hB R1z rfl
  have hne : D ≠ it := by
    rintro rfl
    obtain ⟨o, ho⟩ := hl
    rw [(hd D (List.mem_singleton.mpr rfl)).2.1] at ho; cases ho
  unfold Builtin.List.listExtendWith
  refine wpAny_bind (qL ht ?_)
  have h1 : Builtin.List.listSameRef (.ref D) (.ref it) = false := by simp [Builtin.List.listSameRef, hne]
  have h2 : (t == Value.type "list") = false := beq_eq_false_iff_ne.mpr ht1
  have h3 : (t == Value.type "tuple") = false := beq_eq_false_iff_ne.mpr ht2
  simp only [h1, h2, h3, Bool.or_false, Bool.false_eq_true, if_false]
  refine wpAny_bind (wpAny_mono (Wp.aside hB R1z hd hp1z iter) (λ i s2z ⟨S2, R2z, hd2z, hp2z, h2z⟩ => ?_) λ o_ o_ x => x.elim)
  refine wpAny_bind (wpAny_holding (wpAny_mono (Wp.aside hB R2z hd2z hp2z h2z) (λ b s3z ⟨S3, R3z, hd3z, hp3, hJ⟩ => ?_) λ o_ o_ x => x.elim))
  have go : ∀ s4z : Shared, Rep X C L S3 s4z -> s4z.heap.PlainList D #[] -> codeAny (model X.prog X.w) A.in1 (.builtin "list.extend.loop" ⟨[.ref D, i, .none], []⟩) (wants (λ r s2z => r = .none /\ Got X C L (Φ (.ref D)) s2z) Fa) s4z := λ s4z R4 hp4 =>
    extend_loop (Φ := λ acc S' => New S' (.list acc) Φ) (J i) hB hn (item i) (done i) (λ acc S' s' ys R' hd' ⟨ep, ho⟩ hacc hlen hN => by
      have hh := hd' D (List.mem_singleton.mpr rfl)
      exact ⟨rfl, _, R'.put (λ o_ o_ o_ e => e) hh.1 hh.2.2 (o := .list acc) ⟨_, ho, ys, ep, rfl, hacc⟩ rfl rfl, hN D hh.2.1⟩) n 0 s4z S3 [] #[] (by ac_nf) (Nat.zero_le _) R4 hd3z hp4 rfl (Nat.le_refl _) hJ
  split
  . refine wpAny_bind (wpAny_rule ?_)
    obtain ⟨ep, ho⟩ := hp3
    show wpAny _ _ ((updateSeq D (·.push .none) >>= λ o_ => updateSeq D (·.pop)) >>= _) _ _ _
    have hu1 := Heap.get?_update_self (Obj.mapSeq (·.push .none)) ho rfl
    have hu2 := Heap.get?_update_self (Obj.mapSeq (·.pop)) hu1 rfl
    refine wpAny_bind (wpAny_bind (wpAny_updateSeq ho rfl (wpAny_updateSeq hu1 rfl ?_ (by decide) (by decide)) (by decide) (by decide)))
    exact wpAny_pure ⟨plainId_quiet F.plain_extend_loop _, go _ (Rep.hidList (s := { s3z with heap := s3z.heap.update D (Obj.mapSeq (·.push .none)) }) (R3z.hidList hd3z) hd3z) ⟨_, hu2⟩⟩
  . exact wpAny_pure ⟨plainId_quiet F.plain_extend_loop _, go _ R3z hp3⟩
theorem hintM (T : TopK X) {a : Addr} {vs : List Value} {Φ : Bool -> St -> Prop} (hl : S.H a = some (.mt 191 vs)) (hn : vs.length < 2 ^ 62) (h : ∀ b, Φ b S) : Wp X A L (Builtin.List.listLengthHint (.ref a)) S Φ := λ C s hB R => by
  obtain ⟨items, ep, d, I, ho, e⟩ := R.isM T hB hl
  unfold Builtin.List.listLengthHint
  refine wpAny_bind (qL (I.spec (r := some (.builtin "tuple.__len__")) (by rfl)) ?_)
  generalize hid : ("tuple.__len__" : String) = id0
  wp_delta
  rw [show splitId id0 = some ("tuple", "__len__") from by subst hid; exact split_tlen]
  subst hid
  refine wpAny_bind (qL I.tup ?_)
  refine wpAny_ite_split (λ hab => absurd hab (by decide)) (λ o_ => ?_)
  refine wpAny_ite_split (λ o_ => ?_) (λ hab => absurd (by decide +kernel) hab)
  refine wpAny_bind (qL I.ty ?_)
  refine wpAny_bind (lenM I ho rfl (by rw [zP e]; ac_nf) ?_)
  refine wpAny_bind (m := asInt? _) (wpAny_pure ?_)
  exact wpAny_pure ⟨S, R.tok _, h _⟩
theorem zm.turn {H H' : AH} {a : Addr} {o : AO} (h : zm H H') (hn : H a = none) : zm H (zD H' a o) := λ b o' e => by
  rw [zE _ (λ q => by rw [q, hn] at e; cases e)]; exact h _ _ e
theorem upd_raw {h' : Heap} {I : Addr} (R : Rep X C L S s) {o o' : Obj} (hI : S.H I = some (.raw o)) (hk : Heap.SameBut I s.heap h') (hn : h'.get? I = some o') : Rep X C L { S with H := zD S.H I (.raw o') } { s with heap := h' } :=
  R.turn hI (λ b o hb e => (hk.2 b hb).trans e) (o := .raw o') ⟨o', hn, rfl⟩ rfl rfl
theorem call_listM (T : TopK X) (hh : A.handled = none) {a : Addr} {vs : List Value} {Φ : Value -> St -> Prop} (hl : S.H a = some (.mt 191 vs)) (hn : vs.length <= sizeLine) (h : ∀ H' D, zm S.H H' -> H' D = some (.list vs) -> Φ (.ref D) ⟨S.m, H'⟩) : zO X A L (.type "list") [.ref a] S Φ := by
  have hz : sizeLine = 2 ^ 24 := rfl
  refine call_listOf (n := vs.length) (λ i k acc S' => ∃ I, i = .ref I /\ S.H I = none /\ S'.m = S.m /\ zm S.H S'.H /\ S'.H I = some (.raw (jW a k)) /\ acc = vs.take k) hn ⟨_, hl⟩ ?_ ?_ ?_ ?_
  . intro C s S' hB R e
    subst e
    obtain ⟨items, ep, d, I, ho, e⟩ := R.isM T hB hl
    exact ⟨.ref 191, I.ty, by simp, by simp⟩
  . intro C s hB R
    obtain ⟨items, ep, d, I, ho, e⟩ := R.isM T hB hl
    have fr := R.fresh (zJ s.heap)
    refine iterM I ⟨_, R.push (o := .raw (jW a 0)) rfl rfl _, ?_⟩
    exact hintM T (vs := vs) (zB fr.2.1 hl) (by ac_nf) λ b => ⟨_, rfl, fr.2.1, rfl, (zm.refl _).new fr.2.1, zA, rfl⟩
  . rintro i k acc S1 hk ⟨I, rfl, hIn, hm, hE, hI, rfl⟩ C s hB R
    obtain ⟨items, ep, d, IM, ho, e⟩ := R.isM T hB (hE.get hl)
    obtain ⟨x, hx, hxe⟩ := yP e (List.getElem?_eq_getElem hk)
    have hI' := R.raw hI
    have hne : I ≠ a := λ q => by rw [q, hE.get hl] at hI; cases hI
    refine next_item hI' ho rfl hx λ h' hit hs => ⟨_, upd_raw R hI hs hit, x, rfl, I, rfl, hIn, hm, hE.turn hIn, zA, ?_⟩
    rw [hxe, List.take_add_one, List.getElem?_eq_getElem hk]; rfl
  . rintro i acc S1 ⟨I, rfl, hIn, hm, hE, hI, rfl⟩ C s hB R
    obtain ⟨items, ep, d, IM, ho, e⟩ := R.isM T hB (hE.get hl)
    have hI' := R.raw hI
    refine next_end hh hI' ho rfl (Array.getElem?_eq_none (by rw [zP e]; exact Nat.le_refl _)) λ h' hs => ⟨⟨S1.m, qX S1.H I⟩, ?_, rfl, ?_⟩
    . have R' := R.hide I
      refine ⟨λ b o q => hs b o (λ z => ?_) (R.keep b o q), ?_, R.nsB, R'.nsH, λ b o q => ?_, R.gens, R.os⟩
      . rw [z, R.notB hI] at q; cases q
      . obtain ⟨mL, ⟨oL, eL, epL, h1L, r⟩, hL⟩ := R.ns
        exact ⟨mL, ⟨oL, eL, epL, hs _ _ (Ne.symm (R.notL hI)) h1L, r⟩, hL⟩
      . obtain ⟨q1, ob, q2, q3⟩ := R'.obj b o q
        exact ⟨q1, ob, hs _ _ (λ z => by have q : qX S1.H I b = some o := q; rw [z, qh] at q; cases q) q2, q3⟩
    . intro D hD
      have hDI : (qX S1.H I) D = none := hD
      rw [List.take_length]
      rw [hm]
      have hE2 : zm S.H (qX S1.H I) := λ b o q => by
        rw [zv (λ z => by rw [z, hIn] at q; cases q)]; exact hE _ _ q
      exact h _ D (hE2.new hDI) zA
end
end
section
open PySem.W.X
theorem owner_map : Manifest.owners.lookup (String.ofList ['p', 'a', 'm'].reverse) = some Manifest.sig_map := by kernel_rfl
theorem slot_map_init : Slot "map" "__init__" "object.__init__" :=
  .of (owner := "object") (n := "__init__") (by rw [typeLookup_type, builtinLookup_eq_fast]; kernel_rfl) (by decide +kernel) (by decide +kernel) (by decide +kernel)
    (by first | exact .inl (by decide +kernel) | exact .inr (by decide +kernel)) (by rw [isSubtype_type]; kernel_rfl)
theorem slot_map_iter : Slot "map" "__iter__" "map.__iter__" :=
  .of (owner := "map") (n := "__iter__") (by rw [typeLookup_type, builtinLookup_eq_fast]; kernel_rfl) (by decide +kernel) (by decide +kernel) (by decide +kernel)
    (by first | exact .inl (by decide +kernel) | exact .inr (by decide +kernel)) (by rw [isSubtype_type]; kernel_rfl)
theorem args_map_iter (a : Value) : argsOk "map.__iter__" ⟨[a], []⟩ := by
  unfold argsOk; rw [signature?_of (id := "map.__iter__") (n := ['_', '_', 'r', 'e', 't', 'i', '_', '_']) (o := ['p', 'a', 'm']) (by kernel_rfl) owner_map]; kernel_rfl
theorem entry_map_iter : entryFor table "map.__iter__" = some Builtin.«dict_keyiterator.__iter__» :=
  entryFor_alias (id' := "dict_keyiterator.__iter__") (by kernel_rfl) (by first | rfl | decide +kernel | (unfold String.splitOn; simp +decide [String.splitOnAux])) (by decide +kernel) (by kernel_rfl)
theorem qn : Slot "map" "__next__" "map.__next__" :=
  .of (owner := "map") (n := "__next__") (by rw [typeLookup_type, builtinLookup_eq_fast]; kernel_rfl) (by decide +kernel) (by decide +kernel) (by decide +kernel)
    (by first | exact .inl (by decide +kernel) | exact .inr (by decide +kernel)) (by rw [isSubtype_type]; kernel_rfl)
theorem entry_map_next : entryFor table "map.__next__" = some Builtin.«map.__next__» := entryFor_of_tree (by kernel_rfl)
theorem args_map_next (a : Value) : argsOk "map.__next__" ⟨[a], []⟩ := by
  unfold argsOk; rw [signature?_of (id := "map.__next__") (n := ['_', '_', 't', 'x', 'e', 'n', '_', '_']) (o := ['p', 'a', 'm']) (by kernel_rfl) owner_map]; kernel_rfl
theorem mro_map : mroOf (.type "map") = pure [.type "map", .type "object"] := by rw [mroOf_type]; kernel_rfl
theorem lookup_map_new : typeLookup (.type "map") "__new__" = pure (some (.builtin "map.__new__")) := by rw [typeLookup_type, builtinLookup_eq_fast]; kernel_rfl
theorem called_map : TypeCalled "map" "map.__new__" "object.__init__" :=
  ⟨by decide +kernel, by decide +kernel, ⟨_, _, mro_map⟩, madeBy_type mro_map lookup_map_new (by decide +kernel), by decide +kernel, by rw [isSubtype_type]; kernel_rfl, slot_map_init⟩
theorem typeCall_map (a b : Value) : checkTypeCall "map" ⟨[a, b], []⟩ = pure () := by kernel_rfl
theorem newCall_map (a b : Value) : checkBuiltinCall "map.__new__" ⟨[.type "map", a, b], []⟩ = pure () := by kernel_rfl
theorem entry_map_new : entryFor table "map.__new__" = some Builtin.«map.__new__» := entryFor_of_tree (by kernel_rfl)
theorem sub_map : isSubtype (.type "map") (.type "map") = pure true := by rw [isSubtype_type]; kernel_rfl
theorem nolen_map : typeLookup (.type "map") "__len__" = pure none := by rw [typeLookup_type, builtinLookup_eq_fast]; kernel_rfl
theorem nohint_map : typeLookup (.type "map") "__length_hint__" = pure none := by rw [typeLookup_type, builtinLookup_eq_fast]; kernel_rfl
noncomputable abbrev litObj (l : Addr) (k : Nat) : Obj := { cls := .type "list_iterator", data := .fields #[.ref l, .int k 0] }
theorem map_new {prog : Program} {w : World} (f : Value) (l : Addr) :
    MeetsIn prog w (Builtin.«map.__new__» ⟨[.type "map", f, .ref l], []⟩) (λ A R s => (∃ items, s.heap.IsList l items) /\
      R (.ok (.ret (.ref (s.heap.objs.size + 1 + 1)))) { s with heap := ((s.heap.push (litObj l 0)).push { cls := .type "tuple", data := .seq #[.ref s.heap.objs.size] }).push { cls := .type "map", data := .fields #[.ref (s.heap.objs.size + 1), f] } }) :=
  .of_wp λ A R s ⟨⟨items, hl⟩, h⟩ => by
    unfold Builtin.«map.__new__» Builtin.SmallTypes.newClass Builtin.SmallTypes.refuseKeywords
    have hsub := sub_map
    wp_walk using wpAny_pyIter_list hl
    refine ⟨_, rfl, ?_⟩
    rw [Heap.size_push, Heap.size_push]
    exact h
section
variable {X : Wd} {A : Around} {L : Addr} {S : St} {env : Env} {C : Cx} {s : Shared}
theorem call_map {f l : Addr} {vs : List Value} {Φ : Value -> St -> Prop} (hl : S.H l = some (.list vs))
    (h : ∀ I T Z, S.H I = none -> S.H T = none -> S.H Z = none -> I ≠ T -> I ≠ Z -> T ≠ Z -> Φ (.ref Z) { S with H := zD (zD (zD S.H I (.fld (.type "list_iterator") [.ref l, .int 0 0])) T (.tup (.type "tuple") [.ref I])) Z (.fld (.type "map") [.ref T, .ref f]) }) : zO X A L (.type "map") [.ref f, .ref l] S Φ := λ cs hcs C s hB R => by
  obtain ⟨c, d, rfl, hc, hd⟩ := map2 hcs
  rw [zC hc, zC hd]
  obtain ⟨items, ep, ho, e⟩ := R.list hl
  refine callType_newIn called_map (by decide) (typeCall_map _ _) (newCall_map _ _) (λ obj => F.args_object_init_3 obj _ _) entry_map_new (map_new _ _) ⟨⟨_, zL ho⟩, ?_⟩
  have n1 : s.heap.get? (s.heap.objs.size + 1) = none := Heap.get?_none_of_le (Nat.le_succ _)
  have n2 : s.heap.get? (s.heap.objs.size + 1 + 1) = none := Heap.get?_none_of_le (Nat.le_trans (Nat.le_succ _) (Nat.le_succ _))
  have f0 := R.fresh (zJ s.heap)
  have f1 := R.fresh n1
  have f2 := R.fresh n2
  have e1 : (s.heap.push (litObj l 0)).objs.size = s.heap.objs.size + 1 := Heap.size_push ..
  have e2 : ((s.heap.push (litObj l 0)).push { cls := .type "tuple", data := .seq #[.ref s.heap.objs.size] }).objs.size = s.heap.objs.size + 1 + 1 := by rw [Heap.size_push, e1]
  have R1 : Rep X C L { S with H := zD S.H s.heap.objs.size (.fld (.type "list_iterator") [.ref l, .int 0 0]) } { s with heap := s.heap.push (litObj l 0) } := R.push (o := .fld (.type "list_iterator") [.ref l, .int 0 0]) rfl ⟨rfl, rfl⟩ _
  have R2 := R1.push (ob := { cls := .type "tuple", data := .seq #[.ref s.heap.objs.size] }) (o := .tup (.type "tuple") [.ref s.heap.objs.size]) rfl ⟨_, _, rfl, rfl⟩ s.toks
  have R3 := R2.push (ob := { cls := .type "map", data := .fields #[.ref (s.heap.objs.size + 1), .ref f] }) (o := .fld (.type "map") [.ref (s.heap.objs.size + 1), .ref f]) rfl ⟨rfl, rfl⟩ s.toks
  have hZ : (((s.heap.push (litObj l 0)).push { cls := .type "tuple", data := .seq #[.ref s.heap.objs.size] }).push { cls := .type "map", data := .fields #[.ref (s.heap.objs.size + 1), .ref f] }).get? (s.heap.objs.size + 1 + 1) = some { cls := .type "map", data := .fields #[.ref (s.heap.objs.size + 1), .ref f] } := by
    rw [<- e2]; exact Heap.get?_push_size _ rfl
  refine ⟨⟨_, hZ, rfl⟩, _, R3, ?_⟩
  show Φ (.ref (s.heap.objs.size + 1 + 1)) { S with H := zD (zD (zD S.H s.heap.objs.size _) ((s.heap.push (litObj l 0)).objs.size) _) (((s.heap.push (litObj l 0)).push { cls := .type "tuple", data := .seq #[.ref s.heap.objs.size] }).objs.size) _ }
  rw [e2, e1]
  exact h _ _ _ f0.2.1 f1.2.1 f2.2.1 (Nat.ne_of_lt (Nat.lt_succ_self _)) (Nat.ne_of_lt (Nat.lt_trans (Nat.lt_succ_self _) (Nat.lt_succ_self _))) (Nat.ne_of_lt (Nat.lt_succ_self _))
theorem Rep.fld (R : Rep X C L S s) {a : Addr} {c : Value} {vs : List Value} (h : S.H a = some (.fld c vs)) : ∃ ob, s.heap.get? a = some ob /\ ob.cls = c /\ ob.data = .fields vs.toArray := by
  obtain ⟨ob, ho, h1, h2⟩ := R.get h; exact ⟨ob, ho, h1, h2⟩
theorem iter_map {Z : Addr} {fs : List Value} {Φ : Value -> St -> Prop} (hz : S.H Z = some (.fld (.type "map") fs)) (h : Φ (.ref Z) S) : Wp X A L (pyIter (.ref Z)) S Φ := λ C s hB R => by
  obtain ⟨ob, ho, hc, hd⟩ := R.fld hz
  refine wpAny_pyIter_slot ⟨_, ho, hc⟩ slot_map_iter (wpAny_call_entry slot_map_iter ⟨_, ho, hc⟩ entry_map_iter ?_ (args_map_iter _))
  show wpAny _ _ (ret (.ref Z)) _ _ s
  exact wpAny_pure ⟨_, rfl, "map", _, ⟨_, ho, hc⟩, qn.lookup, S, R, h⟩
theorem hint_map {Z : Addr} {fs : List Value} {Φ : Bool -> St -> Prop} (hz : S.H Z = some (.fld (.type "map") fs)) (h : ∀ b, Φ b S) : Wp X A L (Builtin.List.listLengthHint (.ref Z)) S Φ := λ C s hB R => by
  obtain ⟨ob, ho, hc, hd⟩ := R.fld hz
  have hT : s.TypeIs (.ref Z) "map" := ⟨_, ho, hc⟩
  unfold Builtin.List.listLengthHint
  refine wpAny_bind (wpAny_specialOf hT nolen_map ?_)
  refine wpAny_ite_split (λ hab => absurd hab (by decide +kernel)) (λ o_ => ?_)
  refine wpAny_bind (wpAny_specialOf hT nohint_map ?_)
  exact wpAny_pure ⟨S, R, h _⟩
theorem next_map {Z T I l : Addr} {f : Value} {vs : List Value} {k : Nat} {v : Value} {Ψ : Option Value -> St -> Prop} (hz : S.H Z = some (.fld (.type "map") [.ref T, f])) (ht : S.H T = some (.tup (.type "tuple") [.ref I])) (hi : S.H I = some (.fld (.type "list_iterator") [.ref l, .int k 0])) (hl : S.H l = some (.list vs)) (hv : vs[k]? = some v)
    (h : zO X A.in1 L f [v] { S with H := zD S.H I (.fld (.type "list_iterator") [.ref l, .int (k + 1 : Nat) 0]) } λ r S' => ∀ c, er c = r -> Ψ (some c) S') : Wp X A L (pyNext (.ref Z)) S Ψ := λ C s hB R => by
  obtain ⟨oz, hoz, hcz, hdz⟩ := R.fld hz
  obtain ⟨ot, hot, ti, te, rfl, hte⟩ := R.get ht
  obtain ⟨oi, hoi, hci, hdi⟩ := R.fld hi
  obtain ⟨items, ep, ho, e⟩ := R.list hl
  obtain ⟨x, hx, hxe⟩ := yP e hv
  have hT : s.TypeIs (.ref Z) "map" := ⟨_, hoz, hcz⟩
  have hti : ti = #[.ref I] := by
    obtain ⟨c, h1, h2⟩ := yX hte
    rw [zC h2] at h1
    obtain ⟨tl⟩ := ti
    have h1 : tl = [.ref I] := h1
    rw [h1]
  subst hti
  unfold pyNext
  refine wpAny_bind (wpAny_attempt (wpAny_callSpecial?_slot (name := Str.ofString "__next__") hT qn
    (wpAny_call_entry qn hT entry_map_next ?_ (args_map_next _))))
  show wpAny _ _ (field (.ref Z) 0 >>= _) _ _ s
  refine wpAny_bind (wpAny_field hoz hdz (x := .ref T) rfl ?_)
  refine wpAny_bind (wpAny_seqItems hot rfl ?_)
  have hZI : Z ≠ I := λ q => by
    rw [q, hi] at hz
    injection hz with hz
    injection hz with h1 _
    exact absurd h1 (by decide)
  dsimp only
  rw [<- Array.forIn_toList]
  refine wpAny_bind ?_
  rw [List.forIn_cons]
  refine wpAny_bind (wpAny_bind (wpAny_holding (wpAny_nextOf_list_item ⟨_, hoi, hci, hdi⟩ (zL ho) hx λ h' ⟨oi', hoi', hci', hdi'⟩ hs => ?_)))
  refine wpAny_pure ?_
  have R' : Rep X C L { S with H := zD S.H I (.fld (.type "list_iterator") [.ref l, .int (k + 1 : Nat) 0]) } { s with heap := h' } := R.turn hi (λ b o hb q => (hs.2 b hb).trans q) (o := .fld (.type "list_iterator") [.ref l, .int (k + 1 : Nat) 0]) ⟨oi', hoi', hci', hdi'⟩ rfl rfl
  refine wpAny_pure ?_
  refine wpAny_bind (wpAny_field ((hs.2 Z hZI).trans hoz) hdz (x := f) rfl ?_)
  refine wpAny_bind (wpAny_holding (Wp.thenE hB R' (h [x] (by rw [List.map_cons, hxe]; rfl)) λ r S' s' R'' hΨ => ?_))
  exact wpAny_bind (wpAny_letGo (wpAny_pure ⟨_, rfl, wpAny_pure ⟨S', R'', hΨ r rfl⟩⟩))
theorem end_map (hh : A.handled = none) {Z T I l : Addr} {f : Value} {vs : List Value} {Ψ : Option Value -> St -> Prop} (hz : S.H Z = some (.fld (.type "map") [.ref T, f])) (ht : S.H T = some (.tup (.type "tuple") [.ref I])) (hi : S.H I = some (.fld (.type "list_iterator") [.ref l, .int vs.length 0])) (hl : S.H l = some (.list vs))
    (h : Ψ none { S with H := qX S.H I }) : Wp X A L (pyNext (.ref Z)) S Ψ := λ C s hB R => by
  obtain ⟨oz, hoz, hcz, hdz⟩ := R.fld hz
  obtain ⟨ot, hot, ti, te, rfl, hte⟩ := R.get ht
  obtain ⟨oi, hoi, hci, hdi⟩ := R.fld hi
  obtain ⟨items, ep, ho, e⟩ := R.list hl
  have hT : s.TypeIs (.ref Z) "map" := ⟨_, hoz, hcz⟩
  have hti : ti = #[.ref I] := by
    obtain ⟨c, h1, h2⟩ := yX hte
    rw [zC h2] at h1
    obtain ⟨tl⟩ := ti
    have h1 : tl = [.ref I] := h1
    rw [h1]
  subst hti
  unfold pyNext
  refine wpAny_bind (wpAny_attempt (wpAny_callSpecial?_slot (name := Str.ofString "__next__") hT qn
    (wpAny_call_entry qn hT entry_map_next ?_ (args_map_next _))))
  show wpAny _ _ (field (.ref Z) 0 >>= _) _ _ s
  refine wpAny_bind (wpAny_field hoz hdz (x := .ref T) rfl ?_)
  refine wpAny_bind (wpAny_seqItems hot rfl ?_)
  dsimp only
  rw [<- Array.forIn_toList]
  refine wpAny_bind ?_
  rw [List.forIn_cons]
  refine wpAny_bind (wpAny_bind (wpAny_holding (wpAny_nextOf_list_end (by exact hh) ⟨_, hoi, hci, hdi⟩ (zL ho) (Array.getElem?_eq_none (by rw [zP e]; exact Nat.le_refl _)) λ h' e hs he => ?_)))
  refine wpAny_bind (wpAny_isInstance (T := "StopIteration") (b := true) he isSubtype_stop ?_)
  refine wpAny_pure ⟨_, ?_, h⟩
  have R' := R.hide I
  refine ⟨λ b o q => hs b o (λ z => ?_) (R.keep b o q), ?_, R.nsB, R'.nsH, λ b o q => ?_, R.gens, R.os⟩
  . rw [z, R.notB hi] at q; cases q
  . obtain ⟨mL, ⟨oL, eL, epL, h1L, r⟩, hL⟩ := R.ns
    exact ⟨mL, ⟨oL, eL, epL, hs _ _ (Ne.symm (R.notL hi)) h1L, r⟩, hL⟩
  . obtain ⟨q1, ob, q2, q3⟩ := R'.obj b o q
    exact ⟨q1, ob, hs _ _ (λ z => by have q : qX S.H I b = some o := q; rw [z, qh] at q; cases q) q2, q3⟩
theorem call_method {p : Addr} {f self : Value} {vs : List Value} {Φ : Value -> St -> Prop} (hp : S.H p = some (.raw (methodObj f self))) (h : CallC X A L f (er self :: vs) [] S Φ) : zO X A L (.ref p) vs S Φ := λ cs hcs C s hB R => by
  have ho := R.raw hp
  refine wpAny_call (method_call ho ?_)
  refine codeAny_mono (h (self :: cs) [] (by rw [List.map_cons, hcs]) rfl C s hB R) λ r s' z => ?_
  rcases r with e | (v | _ | _ | _) <;> first | exact z | exact z.elim
end
end
section
open PySem.W.X
section
variable {X : Wd} {A : Around} {L : Addr} {S : St} {env : Env} {C : Cx} {s : Shared}
theorem attr_make (T : TopK X) {Φ : Value -> St -> Prop} (h : New S (.raw (methodObj (.ref 145) (.ref 191))) Φ) : AttrE X A L (.ref 191) "_make" S Φ := λ c hc C s hB R => by
  rw [zC hc]
  have X' := T.frag _ (R.kept hB)
  refine cls_open X' (T.opq (R.kept hB) 191) (looks_typeIn X' (by rfl)) (by exact type_tga) (looks_hook X' (r := none) (by rfl)) (by rfl) (r := .get (.builtin "classmethod.__get__") (.ref 147) .none (.ref 191)) (by rfl) ?_
  refine wpAny_bind (wpAny_holding (wpAny_call ?_))
  refine cm_get (s := { s with toks := s.toks + 1 }) (f := .ref 145) (rest := [.bool false]) X' (by rfl) ?_
  refine wpAny_pure ?_
  exact wpAny_pure ⟨_, R.push (o := .raw (methodObj (.ref 145) (.ref 191))) rfl rfl _, h _ (R.fresh (zJ _)).2.1⟩
def AllM (H : AH) (acc : List Value) (rows : List (List Value)) : Prop := acc.length = rows.length /\ ∀ (j : Nat) (v : Value) (row : List Value), acc[j]? = some v -> rows[j]? = some row -> ∃ x, v = .ref x /\ H x = some (.mt 191 row)
def AllT (H : AH) (acc : List Value) (rows : List (List Value)) : Prop := acc.length = rows.length /\ ∀ (j : Nat) (v : Value) (row : List Value), acc[j]? = some v -> rows[j]? = some row -> ∃ x, v = .ref x /\ H x = some (.tup (.type "tuple") row)
theorem AllM.snoc {H : AH} {acc : List Value} {rows : List (List Value)} {x : Addr} {row : List Value} (h : AllM H acc rows) (hx : H x = some (.mt 191 row)) : AllM H (acc ++ [.ref x]) (rows ++ [row]) := by
  refine ⟨by simp [h.1], λ j v r h1 h2 => ?_⟩
  by_cases hj : j < acc.length
  . rw [List.getElem?_append_left hj] at h1
    rw [List.getElem?_append_left (by have := h.1; ac_nf)] at h2
    exact h.2 j v r h1 h2
  . rw [List.getElem?_append_right (by ac_nf)] at h1
    rw [List.getElem?_append_right (by have := h.1; ac_nf)] at h2
    have hj0 : j - acc.length = 0 := by have := (List.getElem?_eq_some_iff.mp h1).1; simp at this; ac_nf
    rw [hj0] at h1
    rw [show j - rows.length = 0 by have := h.1; ac_nf] at h2
    simp at h1 h2
    subst h1 h2
    exact ⟨x, rfl, hx⟩
theorem call_listMap (T : TopK X) (hh : A.handled = none) {m l : Addr} {vs : List Value} {rows : List (List Value)} {Φ : Value -> St -> Prop} (hm : S.H m = some (.raw (methodObj (.ref 145) (.ref 191)))) (hl : S.H l = some (.list vs)) (hr : AllT S.H vs rows) (hn : vs.length <= sizeLine)
    (hmake : ∀ S' t row, row ∈ rows -> S'.H t = some (.tup (.type "tuple") row) -> S'.m = S.m -> CallC X A.in1.in1.in1 L (.ref 145) [.ref 191, .ref t] [] S' (λ v S'' => ∃ x, v = .ref x /\ S''.m = S'.m /\ zm S'.H S''.H /\ S''.H x = some (.mt 191 row)))
    {Z T I : Addr} (hZ : S.H Z = some (.fld (.type "map") [.ref T, .ref m])) (hT : S.H T = some (.tup (.type "tuple") [.ref I])) (hI : S.H I = some (.fld (.type "list_iterator") [.ref l, .int 0 0]))
    (h : ∀ H' D acc, zm (qX S.H I) H' -> H' D = some (.list acc) -> AllM H' acc rows -> Φ (.ref D) ⟨S.m, H'⟩) : zO X A L (.type "list") [.ref Z] S Φ := by
  have nZ : Z ≠ I := λ q => by
    rw [q, hI] at hZ; injection hZ with hZ; injection hZ with h1 _; exact absurd h1 (by decide)
  have nT : T ≠ I := λ q => by rw [q, hI] at hT; cases hT
  have nl : l ≠ I := λ q => by rw [q, hI] at hl; cases hl
  have nm : m ≠ I := λ q => by rw [q, hI] at hm; cases hm
  refine call_listOf (n := vs.length) (λ i k acc S' => i = .ref Z /\ S'.m = S.m /\ zm (qX S.H I) S'.H /\ S'.H I = some (.fld (.type "list_iterator") [.ref l, .int k 0]) /\ AllM S'.H acc (rows.take k)) hn ⟨_, hZ⟩ ?_ ?_ ?_ ?_
  . intro C s S' hB R e
    subst e
    obtain ⟨oz, hoz, hcz, hdz⟩ := R.fld hZ
    refine ⟨.type "map", ?_, by decide, by decide⟩
    exact hcz ▸ (Looks.ld (part := some headPart) hoz).andThen .now
  . refine iter_map hZ ?_
    refine hint_map hZ λ b => ⟨rfl, rfl, λ b o e => ?_, hI, rfl, λ j v row h1 => by simp at h1⟩
    by_cases hb : b = I
    . rw [hb, qh] at e; cases e
    . rwa [zv hb] at e
  . rintro i k acc S1 hk ⟨rfl, hm', hE, hI', hacc⟩
    obtain ⟨row, hrow⟩ : ∃ row, rows[k]? = some row := ⟨_, List.getElem?_eq_getElem (by rw [<- hr.1]; exact hk)⟩
    obtain ⟨t, ht, htt⟩ := hr.2 k _ row (List.getElem?_eq_getElem hk) hrow
    have nt : t ≠ I := λ q => by rw [q, hI] at htt; cases htt
    have g : ∀ b o, b ≠ I -> S.H b = some o -> S1.H b = some o := λ b o hb e => hE _ _ (by rw [zv hb]; exact e)
    refine next_map (g _ _ nZ hZ) (g _ _ nT hT) hI' (g _ _ nl hl) (List.getElem?_eq_getElem hk) ?_
    rw [ht]
    refine call_method (f := .ref 145) (self := .ref 191) (by show zD _ _ _ m = _; rw [zE _ nm]; exact g _ _ nm hm) ?_
    intro cs ks hcs hks C s hB R
    refine codeAny_mono (hmake { S1 with H := zD S1.H I (.fld (.type "list_iterator") [.ref l, .int (k + 1 : Nat) 0]) } t row (List.mem_of_getElem? hrow) (by show zD _ _ _ t = _; rw [zE _ nt]; exact g _ _ nt htt) hm' cs ks hcs hks C s hB R) λ r s' z => ?_
    rcases r with e | (v | _ | _ | _) <;> first | exact z | skip
    obtain ⟨S2, R2z, x, hx, hm2z, hE2z, hx2⟩ := z
    refine ⟨S2, R2z, λ c hc => ⟨c, rfl, rfl, hm2z.trans hm', ?_, hE2z _ _ zA, ?_⟩⟩
    . intro b o e
      have hb : b ≠ I := λ q => by rw [q, qh] at e; cases e
      exact hE2z _ _ (by show zD _ _ _ b = _; rw [zE _ hb]; exact hE _ _ e)
    . rw [hc, hx, List.take_add_one, hrow]
      refine AllM.snoc ⟨hacc.1, λ j v r h1 h2 => ?_⟩ hx2
      obtain ⟨y, hy1, hy2⟩ := hacc.2 j v r h1 h2
      refine ⟨y, hy1, hE2z _ _ ?_⟩
      show zD _ _ _ y = _
      rw [zE _ (λ q => by rw [q, hI'] at hy2; cases hy2)]; exact hy2
  . rintro i acc S1 ⟨rfl, hm', hE, hI', hacc⟩
    have g : ∀ b o, b ≠ I -> S.H b = some o -> S1.H b = some o := λ b o hb e => hE _ _ (by rw [zv hb]; exact e)
    refine end_map (by exact hh) (g _ _ nZ hZ) (g _ _ nT hT) hI' (g _ _ nl hl) ⟨rfl, ?_⟩
    intro D hD
    have hD' : qX S1.H I D = none := hD
    have hE2 : zm (qX S.H I) (qX S1.H I) := λ b o e => by
      have hb : b ≠ I := λ q => by rw [q, qh] at e; cases e
      rw [zv hb]; exact hE _ _ e
    show Φ (.ref D) ⟨S1.m, _⟩
    rw [hm']
    refine h _ D acc (hE2.new hD') zA ⟨hacc.1.trans (by rw [hr.1, List.take_length]), λ j v r h1 h2 => ?_⟩
    obtain ⟨y, hy1, hy2⟩ := hacc.2 j v r h1 (by rw [hr.1, List.take_length]; exact h2)
    refine ⟨y, hy1, zB hD' ?_⟩
    show qX _ _ y = _
    rw [zv (λ q => by rw [q, hI'] at hy2; cases hy2)]; exact hy2
end
end
section
open PySem.W.X
theorem slot_md : Slot "method_descriptor" "__get__" "method_descriptor.__get__" :=
  .of (owner := "method_descriptor") (n := "__get__") (by rw [typeLookup_type, builtinLookup_eq_fast]; kernel_rfl) (by decide +kernel) (by decide +kernel) (by decide +kernel)
    (by first | exact .inl (by decide +kernel) | exact .inr (by decide +kernel)) (by rw [isSubtype_type]; kernel_rfl)
theorem entry_md : entryFor table "method_descriptor.__get__" = some Builtin.«method_descriptor.__get__» := entryFor_of_tree (by kernel_rfl)
theorem args_md (a b c : Value) : argsOk "method_descriptor.__get__" ⟨[a, b, c], []⟩ := by unfold argsOk; kernel_rfl
theorem md_set : typeLookup (.type "method_descriptor") "__set__" = pure none := by rw [typeLookup_type, builtinLookup_eq_fast]; kernel_rfl
theorem md_del : typeLookup (.type "method_descriptor") "__delete__" = pure none := by rw [typeLookup_type, builtinLookup_eq_fast]; kernel_rfl
noncomputable abbrev za (id : String) (self : Value) : Obj := { cls := .type "builtin_function_or_method", data := .fields #[.builtin id, self] }
section
variable {prog : Program} {w : World} {A : Around} {E : Value -> Shared -> Prop} {h : Heap} {g : Array GenState} {d : Drawn} {t : Nat} {os : OsState} {a : Addr} {o : Obj}
theorem md_get {T id : String} {R : Result -> Shared -> Prop} (hx : h.get? a = some o) (hc : o.cls = .type T) (hm : typeOf (.builtin id) = pure (.type "method_descriptor")) (ht : Manifest.toldItsClass.contains id = false) (hs : isSubtype (.type T) (.type (".".intercalate (id.cutAt '.').dropLast)) = pure true)
    (hq : R (.ok (.ret (.ref h.objs.size))) ⟨h.push (za id (.ref a)), g, d, t, os⟩) :
    codeAny (model prog w) A (.call (.builtin "method_descriptor.__get__") ⟨[.builtin id, .ref a, .type T], []⟩) R ⟨h, g, d, t, os⟩ := by
  have hT : (⟨h, g, d, t, os⟩ : Shared).TypeIs (.ref a) T := ⟨_, hx, hc⟩
  have hT5 : (⟨h, g, d, t, os⟩ : Shared).TypeIs (.builtin id) "method_descriptor" := hm
  refine codeAny_call_builtin slot_md.plain entry_md (slot_md.check _ _ _ _ _ _ _ _ hT5 (args_md _ _ _) ?_)
  repeat (any_goals (first | assumption | wp_step))
  rw [if_neg (by rw [ht]; decide)]
  repeat (any_goals (first | assumption | wp_step))
theorem lk_get : typeLookup (.type "dict") "get" = pure (some (.builtin "dict.get")) := F.slot_dict_get.lookup
theorem lk_contains : typeLookup (.type "set") "__contains__" = pure (some (.builtin "set.__contains__")) := F.slot_set_contains.lookup
theorem sub_get : isSubtype (.type "dict") (.type (".".intercalate ("dict.get".cutAt '.').dropLast)) = pure true := by
  rw [show (".".intercalate ("dict.get".cutAt '.').dropLast) = "dict" by decide +kernel, isSubtype_type]; kernel_rfl
theorem sub_contains : isSubtype (.type "set") (.type (".".intercalate ("set.__contains__".cutAt '.').dropLast)) = pure true := by
  rw [show (".".intercalate ("set.__contains__".cutAt '.').dropLast) = "set" by decide +kernel, isSubtype_type]; kernel_rfl
theorem get_entry {es : Array DictEntry} {ep : Nat} {sl : Array (Option Value)} {tk : Tok} {Q : Fin -> Shared -> Prop} (hx : h.get? a = some ⟨.type "dict", none, .dict es ep, sl⟩) (hq : Q (.done (.ret (.ref h.objs.size))) ⟨h.push (za "dict.get" (.ref a)), g, d, t, os⟩) :
    wpAny (model prog w) A (Builtin.«object.__getattribute__» ⟨[.ref a, .str "get" tk], []⟩) Q E ⟨h, g, d, t, os⟩ := by
  have hT : (⟨h, g, d, t, os⟩ : Shared).TypeIs (.ref a) "dict" := ⟨_, hx, rfl⟩
  have hT5 : (⟨h, g, d, t, os⟩ : Shared).TypeIs (.builtin "dict.get") "method_descriptor" := F.type_dict_get
  have f4 := lk_get
  have f6 := slot_md.lookup
  have f7 := md_set
  have f8 := md_del
  repeat (any_goals (first | assumption | wp_step))
  refine md_get hx rfl F.type_dict_get (by decide +kernel) sub_get ?_
  repeat (any_goals (first | assumption | wp_step))
theorem get_attr {es : Array DictEntry} {ep : Nat} {sl : Array (Option Value)} {Q : Value -> Shared -> Prop} (hx : h.get? a = some ⟨.type "dict", none, .dict es ep, sl⟩) (hq : Q (.ref h.objs.size) ⟨h.push (za "dict.get" (.ref a)), g, d, t + 1, os⟩) :
    wpAny (model prog w) A (getAttr (.ref a) "get" true) Q E ⟨h, g, d, t, os⟩ := by
  have hT : (⟨h, g, d, t, os⟩ : Shared).TypeIs (.ref a) "dict" := ⟨_, hx, rfl⟩
  have f2 := F.slot_dict_getattribute.lookup
  have f3 := F.slot_dict_getattribute.bind (.ref a)
  unfold getAttr
  repeat (any_goals (first | assumption | wp_step))
  refine codeAny_call_builtin F.slot_dict_getattribute.plain F.entry_dict_ga (F.slot_dict_getattribute.check _ _ _ _ _ _ _ _ (show (⟨h, g, d, t + 1, os⟩ : Shared).TypeIs (.ref a) "dict" from ⟨_, hx, rfl⟩) (F.args_dict_getattribute_2 _ _) (get_entry hx ?_))
  repeat (any_goals (first | assumption | wp_step))
theorem contains_entry {es : Array (Int × Value)} {ep : Nat} {tb : SetTable} {sl : Array (Option Value)} {tk : Tok} {Q : Fin -> Shared -> Prop} (hx : h.get? a = some ⟨.type "set", none, .set es ep tb, sl⟩) (hq : Q (.done (.ret (.ref h.objs.size))) ⟨h.push (za "set.__contains__" (.ref a)), g, d, t, os⟩) :
    wpAny (model prog w) A (Builtin.«object.__getattribute__» ⟨[.ref a, .str "__contains__" tk], []⟩) Q E ⟨h, g, d, t, os⟩ := by
  have hT : (⟨h, g, d, t, os⟩ : Shared).TypeIs (.ref a) "set" := ⟨_, hx, rfl⟩
  have hT5 : (⟨h, g, d, t, os⟩ : Shared).TypeIs (.builtin "set.__contains__") "method_descriptor" := F.type_set_contains
  have f4 := lk_contains
  have f6 := slot_md.lookup
  have f7 := md_set
  have f8 := md_del
  repeat (any_goals (first | assumption | wp_step))
  refine md_get hx rfl F.type_set_contains (by decide +kernel) sub_contains ?_
  repeat (any_goals (first | assumption | wp_step))
theorem contains_attr {es : Array (Int × Value)} {ep : Nat} {tb : SetTable} {sl : Array (Option Value)} {Q : Value -> Shared -> Prop} (hx : h.get? a = some ⟨.type "set", none, .set es ep tb, sl⟩) (hq : Q (.ref h.objs.size) ⟨h.push (za "set.__contains__" (.ref a)), g, d, t + 1, os⟩) :
    wpAny (model prog w) A (getAttr (.ref a) "__contains__" true) Q E ⟨h, g, d, t, os⟩ := by
  have hT : (⟨h, g, d, t, os⟩ : Shared).TypeIs (.ref a) "set" := ⟨_, hx, rfl⟩
  have f2 := F.slot_set_getattribute.lookup
  have f3 := F.slot_set_getattribute.bind (.ref a)
  unfold getAttr
  repeat (any_goals (first | assumption | wp_step))
  refine codeAny_call_builtin F.slot_set_getattribute.plain F.entry_set_ga (F.slot_set_getattribute.check _ _ _ _ _ _ _ _ (show (⟨h, g, d, t + 1, os⟩ : Shared).TypeIs (.ref a) "set" from ⟨_, hx, rfl⟩) (F.args_set_getattribute_2 _ _) (contains_entry hx ?_))
  repeat (any_goals (first | assumption | wp_step))
theorem bound_call {id : String} {self : Value} {p : Addr} {pos : List Value} {R : Result -> Shared -> Prop} (ho : h.get? p = some (za id self)) (hck : checkBoundCall id ⟨self :: pos, []⟩ = pure () \/ ∀ Q : Unit -> Shared -> Prop, Q () ⟨h, g, d, t, os⟩ -> wpAny (model prog w) (A.under (.call (.ref p) ⟨pos, []⟩)) (checkBoundCall id ⟨self :: pos, []⟩) Q (λ e s' => R (.error e) s') ⟨h, g, d, t, os⟩) (hp : plainId id = true)
    (hq : codeAny (model prog w) A (.builtin id ⟨self :: pos, []⟩) R ⟨h, g, d, t, os⟩) : codeAny (model prog w) A (.call (.ref p) ⟨pos, []⟩) R ⟨h, g, d, t, os⟩ := by
  refine codeAny_of_tree ?_
  show wpAny _ _ (callAny (.ref p) _) _ _ _
  refine nd_load ho ?_
  show wpAny _ _ (checkBoundCall id ⟨self :: pos, []⟩ >>= λ o_ => again (.builtin id ⟨self :: pos, []⟩)) _ _ _
  rcases hck with hck | hck
  . rw [hck]
    exact wpAny_bind (wpAny_pure (wpAny_pure ⟨plainId_quiet hp _, hq⟩))
  . exact wpAny_bind (hck _ (wpAny_pure ⟨plainId_quiet hp _, hq⟩))
end
end
section
open PySem.W.X
section
variable {prog : Program} {w : World} {A : Around} {E : Value -> Shared -> Prop} {h : Heap} {g : Array GenState} {d : Drawn} {t : Nat} {os : OsState} {a : Addr} {o : Obj}
theorem sig_get : Manifest.signature? "dict.get" = some ⟨.positional, "dict.get", "get", .self, [⟨"key", .posOnly, true⟩, ⟨"default", .posOnly, false⟩]⟩ := by
  rw [signature?_of (id := "dict.get") (n := ['t', 'e', 'g']) (o := ['t', 'c', 'i', 'd']) (by kernel_rfl) F.owner_dict]; kernel_rfl
theorem sig_contains : Manifest.signature? "set.__contains__" = some ⟨.oneArg, "set.__contains__", "__contains__", .self, [⟨"object", .posOnly, true⟩]⟩ := by
  rw [signature?_of (id := "set.__contains__") (n := ['_', '_', 's', 'n', 'i', 'a', 't', 'n', 'o', 'c', '_', '_']) (o := ['t', 'e', 's']) (by kernel_rfl) F.owner_set]; kernel_rfl
theorem cka_get (x k v : Value) : Bind.checkArgs "dict.get" ⟨.positional, toString (Bind.lastOf "dict") ++ toString "." ++ toString (Bind.lastOf "dict.get"), "get", .self, [⟨"key", .posOnly, true⟩, ⟨"default", .posOnly, false⟩]⟩ ⟨[x, k, v], []⟩ = pure () := by kernel_rfl
theorem cka_contains (x k : Value) : Bind.checkArgs "set.__contains__" ⟨.oneArg, toString (Bind.lastOf "set") ++ toString "." ++ toString (Bind.lastOf "set.__contains__"), "__contains__", .self, [⟨"object", .posOnly, true⟩]⟩ ⟨[x, k], []⟩ = pure () := by kernel_rfl
theorem check_bget {M : Model} {es : Array DictEntry} {ep : Nat} {sl : Array (Option Value)} {k v : Value} {Q : Unit -> Shared -> Prop} (hx : h.get? a = some ⟨.type "dict", none, .dict es ep, sl⟩) (hq : Q () ⟨h, g, d, t, os⟩) : wpAny M A (checkBoundCall "dict.get" ⟨[.ref a, k, v], []⟩) Q E ⟨h, g, d, t, os⟩ := by
  have L0 : Looks M h (typeOf (.ref a)) (.type "dict") := (Looks.ld (part := some headPart) hx).andThen .now
  have L1 : Looks M h (isSubtype (.type "dict") (.type "module")) false := Looks.of_pure (by rw [isSubtype_type]; kernel_rfl)
  have L2 : Looks M h (isSubtype (.type "dict") (.type "type")) false := Looks.of_pure (by rw [isSubtype_type]; kernel_rfl)
  have L3 : Looks M h (isInstance (.ref a) (.type "module")) false := L0.andThen L1
  have L4 : Looks M h (isInstance (.ref a) (.type "type")) false := L0.andThen L2
  unfold checkBoundCall
  rw [sig_get]
  rw [show builtinKind "dict.get" = some .method by decide +kernel]
  repeat (first | (rw [cka_get]) | lk)
  exact hq
theorem check_bcontains {M : Model} {es : Array (Int × Value)} {ep : Nat} {tb : SetTable} {sl : Array (Option Value)} {k : Value} {Q : Unit -> Shared -> Prop} (hx : h.get? a = some ⟨.type "set", none, .set es ep tb, sl⟩) (hq : Q () ⟨h, g, d, t, os⟩) : wpAny M A (checkBoundCall "set.__contains__" ⟨[.ref a, k], []⟩) Q E ⟨h, g, d, t, os⟩ := by
  have L0 : Looks M h (typeOf (.ref a)) (.type "set") := (Looks.ld (part := some headPart) hx).andThen .now
  have L1 : Looks M h (isSubtype (.type "set") (.type "module")) false := Looks.of_pure (by rw [isSubtype_type]; kernel_rfl)
  have L2 : Looks M h (isSubtype (.type "set") (.type "type")) false := Looks.of_pure (by rw [isSubtype_type]; kernel_rfl)
  have L3 : Looks M h (isInstance (.ref a) (.type "module")) false := L0.andThen L1
  have L4 : Looks M h (isInstance (.ref a) (.type "type")) false := L0.andThen L2
  unfold checkBoundCall
  rw [sig_contains]
  rw [show builtinKind "set.__contains__" = some .method by decide +kernel]
  repeat (first | (rw [cka_contains]) | lk)
  exact hq
theorem callWith_bnd {env : Env} {pos : Pos} {p : Addr} {id : String} {self : Value} {args : List (Bool × Sem Value)} {Q : Value -> Shared -> Prop} {s : Shared} (hplain : args.any (·.1) = false)
    (hb : wpAny (model prog w) A (evalArgs (.ref p) true args []) (λ x s1z => s1z.heap.get? p = some (za id self) /\ x.kw = [] /\ wpAny (model prog w) A (call (.ref p) x.pos) Q E s1z) E s) : wpAny (model prog w) A (callWith pos (.ref p) [] args []) Q E s := by
  unfold callWith
  refine wpAny_bind (wpAny_holding (wpAny_mono hb (λ x s1z h₁ => wpAny_bind (wpAny_standAt ?_)) λ o_ o_ x => x))
  obtain ⟨ho, hkw, hcall⟩ := h₁
  obtain ⟨ps, kws⟩ := x
  dsimp only at hkw hcall
  subst hkw
  simp -iota only [hplain, List.any_nil, Bool.or_false]
  refine wpAny_bind (m := keeperOf (.ref p)) ?_
  unfold keeperOf
  refine wpAny_bind (wpAny_load ho ?_)
  simp -iota only [za, show (Value.type "builtin_function_or_method" != Value.type "method") = true by decide, show (Value.type "builtin_function_or_method" == Value.type "builtin_function_or_method" || Value.type "builtin_function_or_method" == Value.type "method-wrapper") = true by decide, if_true]
  refine wpAny_pure ?_
  exact wpAny_bind (wpAny_mono hcall (λ r s2z hr => wpAny_bind (wpAny_holding (wpAny_point (wpAny_pure hr)))) λ o_ o_ x => x)
end
section
variable {X : Wd} {A : Around} {L : Addr} {S : St} {env : Env} {C : Cx} {s : Shared}
theorem attr_get {a : Addr} {kvs : List (Int × Value)} {Φ : Value -> St -> Prop} (ha : S.H a = some (.idict kvs)) (h : New S (.raw (za "dict.get" (.ref a))) Φ) : AttrE X A L (.ref a) "get" S Φ := λ c hc C s hB R => by
  rw [zC hc]
  obtain ⟨ob, ho, kvs', ⟨es, ep, ⟨h1, h2, h3⟩, h4, _⟩, e⟩ := R.get ha
  have h' := h _ (R.fresh (zJ s.heap)).2.1
  have R' := R.push (ob := za "dict.get" (.ref a)) (o := .raw (za "dict.get" (.ref a))) rfl rfl (s.toks + 1)
  obtain ⟨oc, od, odt, osl⟩ := ob
  dsimp only at h1 h2 h3 h4
  subst h1 h2 h3 h4
  obtain ⟨hh, g, dr, tk, os⟩ := s
  exact get_attr ho ⟨_, R', h'⟩
theorem attr_contains {a : Addr} {xs : List Str} {Φ : Value -> St -> Prop} (ha : S.H a = some (.sset xs)) (h : New S (.raw (za "set.__contains__" (.ref a))) Φ) : AttrE X A L (.ref a) "__contains__" S Φ := λ c hc C s hB R => by
  rw [zC hc]
  obtain ⟨ob, ho, es, ep, tb, ⟨h1, h2, h3⟩, h4, _⟩ := R.get ha
  have h' := h _ (R.fresh (zJ s.heap)).2.1
  have R' := R.push (ob := za "set.__contains__" (.ref a)) (o := .raw (za "set.__contains__" (.ref a))) rfl rfl (s.toks + 1)
  obtain ⟨oc, od, odt, osl⟩ := ob
  dsimp only at h1 h2 h3 h4
  subst h1 h2 h3 h4
  obtain ⟨hh, g, dr, tk, os⟩ := s
  exact contains_attr ho ⟨_, R', h'⟩
theorem yK {p : Addr} {id : String} {self : Value} {pos : Pos} {e : Expr} {es : List Expr} {Φ : Value -> St -> Prop} (h : yC X A L pos (e :: es) env S λ vs S1 => S1.H p = some (.raw (za id self)) /\ zO X A L (.ref p) vs S1 Φ)
    (hn : true = (e :: es).all qj := by with_unfolding_all rfl) : jL X A L pos (.ref p) [] (e :: es) env S Φ := by
  obtain ⟨he, hp⟩ := yy (env := env) (pos := pos) hn
  intro cs hcs C s hB R
  rw [map0 hcs]
  have hb : wpAny (model X.prog X.w) A (spliced (backTo pos (starEach (e :: es) env))) (λ vs s1z => s1z.heap.get? p = some (za id self) /\ wpAny (model X.prog X.w) A (call (.ref p) vs []) (λ a => Got X C L (Φ (er a))) Fa s1z) Fa s :=
      Wp.then hB R h λ vs S1 s1z R1z h₁ => ⟨R1z.raw h₁.1, h₁.2 _ rfl C s1z hB R1z⟩
  rw [he] at hb ⊢
  have hpl : (backTo pos ((false, eval e env) :: starEach es env)).any (·.1) = false := by
    show (false || (backTo pos (starEach es env)).any (·.1)) = false
    rw [hp]; rfl
  exact callWith_bnd (env := env) hpl (Calls.evalArgs_plain (wpAny_mono hb (λ o_ o_ h' => ⟨h'.1, rfl, h'.2⟩) λ o_ o_ x => x))
theorem call_bget (hX : qr X) {p a : Addr} {kvs : List (Int × Value)} {x : Int} {v : Value} {Φ : Value -> St -> Prop} (hp : S.H p = some (.raw (za "dict.get" (.ref a)))) (ha : S.H a = some (.idict kvs)) (h : Φ ((valueAt kvs x).getD v) S) : zO X A L (.ref p) [.int x 0, v] S Φ := λ cs hcs C s hB R => by
  obtain ⟨d, e, rfl, hd, he⟩ := map2 hcs
  obtain ⟨u, rfl⟩ := zQ hd
  have hop := R.raw hp
  have hns := R.notSys hX hB ha
  obtain ⟨kvs', hD, e'⟩ := R.idict ha
  have hD2 := hD
  obtain ⟨ob, es, ep, ho, ⟨h1, h2, h3⟩, h4, _⟩ := hD2
  have key : Got X C L (Φ (er ((valueAt kvs' x).getD e))) { s with toks := s.toks + 1 } := by
    refine ⟨S, R.tok _, ?_⟩
    rw [yV e' x] at h
    cases hw : valueAt kvs' x with
    | none => rw [hw] at h; rw [<- he] at h; exact h
    | some w => rw [hw] at h; exact h
  obtain ⟨oc, od, odt, osl⟩ := ob
  dsimp only at h1 h2 h3 h4
  subst h1 h2 h3 h4
  have g := meets_dict_get_default (prog := X.prog) (w := X.w) (knd := PySem.intKind X.prog X.w) (d := a) (k := x) (key := .int x u) (int_is x u) hns e
  obtain ⟨hh, gs, dr, tk, os⟩ := s
  refine wpAny_call (bound_call hop (.inr λ Q q => check_bget ho q) (by decide +kernel) (codeAny_builtin F.entry_dict_get ?_))
  rw [Around.under_plainId (by decide +kernel) _]
  exact g A (λ r s' => match r with | .ok (.ret v) => Got X C L (Φ (er v)) s' | .ok _ => False | .error e => Fa e s') _ ⟨_, hD.mapOf, key⟩
theorem yB {p a : Addr} {xs : List Str} {x : Str} {Φ : Value -> St -> Prop} (hp : S.H p = some (.raw (za "set.__contains__" (.ref a)))) (ha : S.H a = some (.sset xs)) (h : Φ (.bool (decide (x ∈ xs))) S) : zO X A L (.ref p) [.str x 0] S Φ := λ cs hcs C s hB R => by
  obtain ⟨d, rfl, hd⟩ := yX hcs
  obtain ⟨u, rfl⟩ := zf hd
  have hop := R.raw hp
  obtain ⟨ob, ho, hs⟩ := R.get ha
  have hS := IsSetOf.setOf ho hs
  obtain ⟨es, ep, tb, ⟨h1, h2, h3⟩, h4, _⟩ := hs
  have R' := R.tok (s.toks + 1)
  obtain ⟨oc, od, odt, osl⟩ := ob
  dsimp only at h1 h2 h3 h4
  subst h1 h2 h3 h4
  obtain ⟨hh, gs, dr, tk, os⟩ := s
  refine wpAny_call (bound_call hop (.inr λ Q q => check_bcontains ho q) (by decide +kernel) (codeAny_builtin entry_set_contains ?_))
  rw [Around.under_plainId (by decide +kernel) _]
  unfold Builtin.«frozenset.__contains__» Builtin.Frozenset.oneOther
  simp only [List.isEmpty_nil, bind_assoc]
  unfold Builtin.Frozenset.addrOf Builtin.Frozenset.withSetAsKey setContains
  refine wpAny_bind (wpAny_pure ?_)
  try dsimp only
  refine wpAny_bind (wpAny_pure ?_)
  try dsimp only
  refine wpAny_bind (wpAny_tryCatch ?_)
  refine wpAny_holding ?_
  refine wpAny_bind ((PySem.strKind X.prog X.w).pyHash (yM x u) ?_)
  refine wpAny_bind (wpAny_setFind_of (s := { heap := hh, gens := gs, drawn := dr, toks := tk + 1, os := os }) (yM x u) rfl hS λ r hr => ?_)
  refine wpAny_pure ?_
  show wpAny _ _ (ret (Value.bool r.isSome)) _ _ _
  rw [hr]
  exact wpAny_pure ⟨S, R', h⟩
end
end
section
open PySem.W.X
section
variable {X : Wd} {A : Around} {L : Addr} {S : St} {env : Env} {C : Cx} {s : Shared}
theorem ev_free {x : Str} {pos : Pos} {c : Addr} {v : Value} {Φ : Value -> St -> Prop} (hc : env.cells.lookup x = some c) (hv : S.H c = some (.cell (some v))) (h : Φ v S)
    (hl : true = qk .free env x := by with_unfolding_all rfl) (hn : false = (x == ("__classdict__" : Str)) := by with_unfolding_all rfl) : EV X A L (eval (.Name x pos) env) S Φ := λ C s hB R => by
  obtain ⟨hk, hl, hd⟩ := qg hl
  have hn := hn.symm
  obtain ⟨ob, ho, w, hd', e⟩ := R.get hv
  obtain ⟨c', rfl, rfl⟩ := Option.map_eq_some_iff.mp e
  exact wpAny_Name (wpAny_loadName_free hk hl hc ⟨ob, ho, hd'⟩ ⟨S, R, h⟩ hn) hd
theorem ev_Lambda {params : Arguments} {body : Expr} {scope : Scope} {pos : Pos} {clos : List (Str × Addr)} {c P : Addr} {pm : Value} {Φ : Value -> St -> Prop} (hdef : defaultsOf params env = ([], [])) (hcl : closureFor scope env = pure clos) (hge : env.globals = mainGlobals) (hcode : env.code = .ref c)
    (BB : ∀ h, X.kept h -> ∃ mg, h.Ns mainGlobals mg /\ h.BuiltinsAt mg P /\ (mg "__name__").getD .none = pm /\ CodeHd h c P /\ mainGlobals ≠ P) (hP : S.H P = some (.raw (tabObj #[])))
    (h : ∀ f c' oc vs t ctv, S.H f = none -> S.H c' = none -> f ≠ c' -> oc.data = .fields vs -> vs[1]? = some (.str (env.qual ++ "<lambda>") t) ->
      Φ (.ref f) { S with H := zD (zD (zD S.H P (.raw (tabObj #[rawInt pos.line, rawInt pos.col, .ref c']))) c' (.raw oc)) f (.raw (kla_obj "<lambda>" (env.qual ++ "<lambda>") params body scope clos pm c' ctv)) }) :
    EV X A L (eval (.Lambda params body scope pos) env) S Φ := λ C s hB R => by
  obtain ⟨mg, hg, hb, hpm, hC, hgP⟩ := BB _ (R.kept hB)
  refine kla_eval hdef (kla_makeFunction (ps := #[]) hcl hge hg hcode hC (R.raw hP) (by trivial) (by rfl) hgP hb λ c' ctv h' tk hx hge' hlt hrec htb => ?_)
  obtain ⟨c2z, oc, vs, t, e2, hoc, hd, hv⟩ := hrec
  cases e2
  rw [hpm]
  have nc : s.heap.get? c' = none := Heap.get?_none_of_le hge'
  have fc := R.fresh nc
  have hsz : s.heap.objs.size <= h'.objs.size := Nat.le_trans hge' (Nat.le_of_lt hlt)
  have nf : s.heap.get? h'.objs.size = none := Heap.get?_none_of_le hsz
  have ff := R.fresh nf
  have R1 : Rep X C L { S with H := zD S.H P (.raw (tabObj #[rawInt pos.line, rawInt pos.col, .ref c'])) } { s with heap := h' } := R.turn hP (λ b o hb' e => hx b o hb' e) (o := .raw (tabObj #[rawInt pos.line, rawInt pos.col, .ref c'])) ⟨_, htb, rfl⟩ rfl rfl
  have R2 := R1.put (s' := { s with heap := h' }) (a := c') (o := .raw oc) (λ o_ o_ o_ e => e) fc.1 fc.2.2 ⟨_, hoc, rfl⟩ rfl rfl
  have R3 := R2.push (ob := kla_obj "<lambda>" (env.qual ++ "<lambda>") params body scope clos pm c' ctv) (o := .raw (kla_obj "<lambda>" (env.qual ++ "<lambda>") params body scope clos pm c' ctv)) rfl rfl tk
  exact ⟨_, R3, h h'.objs.size c' oc vs t ctv ff.2.1 fc.2.1 (Nat.ne_of_gt hlt) hd hv⟩
theorem call_lambda {f c' : Addr} {qual : Str} {params : Arguments} {body : Expr} {scope : Scope} {clos : List (Str × Addr)} {pm ctv : Value} {oc : Obj} {vs0z : Array Value} {t : Tok} {names : List Str} {vs : List Value} {Φ : Value -> St -> Prop} (hlim : ∀ h, X.kept h -> h.NoLimit)
    (hf : S.H f = some (.raw (kla_obj "<lambda>" qual params body scope clos pm c' ctv))) (hc : S.H c' = some (.raw oc)) (hd : oc.data = .fields vs0z) (hv : vs0z[1]? = some (.str qual t)) (hroom : A.depth < recursionLimit)
    (hbind : ∀ cs : List Value, cs.map er = vs -> bindArgs (kla_fn "<lambda>" qual params body scope clos pm (.ref c') ctv) ⟨cs, []⟩ = pure (names.zip cs)) (hcell : (scope.names.all λ x => x.2 != .cell) = true) (hloc : (names.all λ x => scope.names.lookup x == some .local) = true)
    (h : ∀ L', S.H L' = none -> EV X (A.deeper (callEnv (kla_fn "<lambda>" qual params body scope clos pm (.ref c') ctv) L' f)) L' (eval body (callEnv (kla_fn "<lambda>" qual params body scope clos pm (.ref c') ctv) L' f)) ⟨yQ names vs, S.H⟩ (λ v S' => Φ v ⟨S.m, S'.H⟩))
    (hco : scope.isCoroutine = false := by rfl) (hgen : scope.isGenerator = false := by rfl) (hk : scope.kind = .function := by rfl) : zO X A L (.ref f) vs S Φ := λ cs hcs C s hB R => by
  have ho := R.raw hf
  refine wpAny_call (kla_callFunE hroom ho rfl hco hgen rfl ⟨c', oc, vs0z, t, rfl, R.raw hc, hd, hv⟩ ?_)
  rw [hbind cs hcs]
  refine wpAny_pure (wpAny_newFunctionEnv (cell_of hcell) (λ x hx => loc_of hloc (List.of_mem_zip hx).1) (λ h₁ hns hsb => ⟨(hlim _ (R.kept hB)).fresh _ hsb, ?_⟩) hk)
  have hk1z : ∀ b o, s.heap.get? b = some o -> h₁.get? b = some o := λ b o e => hsb.extBut b o (Nat.ne_of_lt (Heap.lt_size e)) (Heap.get?_push_of_some _ e)
  have Rn := R.enter (tk := s.toks + (names.zip cs).length) hns (λ y => by rw [yb, hcs]) hk1z
  refine kla_codeExpr (wpAny_mono (h s.heap.objs.size (R.fresh (zJ s.heap)).2.1 _ _ (Wd.le_enter hB R) Rn) (λ v s' h' => ?_) λ o_ o_ x => x.elim)
  obtain ⟨S', R', p⟩ := h'
  exact ⟨⟨S.m, S'.H⟩, R.leave R', p⟩
end
end
section
open PySem.W.X
open PySem.MeetsSeq (meets_again EqGives)
open AutoSeq1 (wpAny_loadPart')
theorem ite_both {c : Prop} [Decidable c] {P Q : Prop} (h1 : P) (h2 : Q) : if c then P else Q := if h : c then (if_pos h).symm ▸ h1 else (if_neg h).symm ▸ h2
noncomputable def lex : List Int -> List Int -> Bool
  | x :: xs, y :: ys => if x = y then lex xs ys else decide (x < y)
  | _, _ => false
theorem yZ {xs : Array Value} {is : List Int} (e : xs.toList.map er = qo is) : xs.size = is.length := by rw [<- Array.length_toList, <- List.length_map (f := er), e]; exact List.length_map _
theorem int_get {xs : Array Value} {is : List Int} (e : xs.toList.map er = qo is) {k : Nat} (hk : k < xs.size) : ∃ t, xs[k]? = some (.int (is.getD k 0) t) := by
  have hs : xs.size = is.length := yZ e
  have h1 : (xs.toList.map er)[k]? = some (.int (is.getD k 0) 0) := by
    rw [e, qo, List.getElem?_map, List.getElem?_eq_getElem (by ac_nf), List.getD_eq_getElem?_getD, List.getElem?_eq_getElem (by ac_nf)]; rfl
  rw [List.getElem?_map, Array.getElem?_toList, Array.getElem?_eq_getElem hk] at h1
  simp only [Option.map_some, Option.some.injEq] at h1
  obtain ⟨t, ht⟩ := zQ h1
  exact ⟨t, by rw [Array.getElem?_eq_getElem hk, ht]⟩
theorem lex_drop {is js : List Int} {k : Nat} (hl : is.length = js.length) (hk : k < is.length) : lex (is.drop k) (js.drop k) = if is.getD k 0 = js.getD k 0 then lex (is.drop (k + 1)) (js.drop (k + 1)) else decide (is.getD k 0 < js.getD k 0) := by
  rw [List.drop_eq_getElem_cons hk, List.drop_eq_getElem_cons (by ac_nf : k < js.length), List.getD_eq_getElem?_getD, List.getD_eq_getElem?_getD, List.getElem?_eq_getElem hk, List.getElem?_eq_getElem (by ac_nf : k < js.length)]
  rfl
section
variable {prog : Program} {w : World} {A : Around} {E : Value -> Shared -> Prop} {s : Shared}
theorem qy : plainId "list.__eq__.loop" = true := by decide +kernel
theorem entry_eq_loop' : entryFor table "list.__eq__.loop" = some Builtin.«list.__eq__.loop» := entryFor_of_tree (by kernel_rfl)
theorem lt_loop {a b : Addr} {xs ys : Array Value} {n n2 : Nat} {is js : List Int} (ex : xs.toList.map er = qo is) (ey : ys.toList.map er = qo js) (hsz : xs.size = ys.size) (k : Nat) :
    ∀ i : Nat, xs.size - i = k -> Meets (Builtin.«list.__eq__.loop» ⟨[.ref a, .ref b, rawInt i, rawInt 0], []⟩)
      (λ o_ R s => s.heap.get? a = some { cls := .type "list", dict := none, data := .seq xs n, slots := #[] } /\ s.heap.get? b = some { cls := .type "list", dict := none, data := .seq ys n2, slots := #[] } /\
        R (.ok (.ret (.bool (lex (is.drop i) (js.drop i))))) s) := by
  have hx : xs.size = is.length := yZ ex
  have hy : ys.size = js.length := yZ ey
  induction k with
  | zero =>
    intro i hk prog w A R s h
    obtain ⟨hp, g, d, tk, os⟩ := s; obtain ⟨hl, hb, h⟩ := h
    wp_walk using wpAny_loadPart' hl, wpAny_loadPart' hb
    have hi1 : xs[((i : Nat) : Int).toNat]? = none := Array.getElem?_eq_none (Nat.le_of_sub_eq_zero hk)
    have hi2 : ys[((i : Nat) : Int).toNat]? = none := Array.getElem?_eq_none (Nat.le_trans (Nat.le_of_eq hsz.symm) (Nat.le_of_sub_eq_zero hk))
    rw [hi1, hi2]
    wp_walk using wpAny_loadPart' hl, wpAny_loadPart' hb
    rw [List.drop_eq_nil_of_le (by ac_nf)] at h
    show R (.ok (.ret (.bool (decide (xs.size < ys.size))))) _
    have e : decide (xs.size < ys.size) = false := decide_eq_false (by ac_nf)
    rw [e]
    exact h
  | succ k ih =>
    intro i hk prog w A R s h
    obtain ⟨hp, g, d, tk, os⟩ := s; obtain ⟨hl, hb, h⟩ := h
    wp_walk using wpAny_loadPart' hl, wpAny_loadPart' hb
    obtain ⟨t1, h1⟩ := int_get ex (k := i) (by ac_nf)
    obtain ⟨t2, h2⟩ := int_get ey (k := i) (by ac_nf)
    have hi1 : xs[((i : Nat) : Int).toNat]? = some (.int (is.getD i 0) t1) := h1
    have hi2 : ys[((i : Nat) : Int).toNat]? = some (.int (js.getD i 0) t2) := h2
    have hc : ((i : Int) + 1) = ((i + 1 : Nat) : Int) := by push_cast; rfl
    rw [lex_drop (by ac_nf) (by ac_nf)] at h
    rw [hi1, hi2]
    refine wpAny_bind (EqGives.int _ _ _ _ prog w _ _ _ _ ?_)
    by_cases he : is.getD i 0 = js.getD i 0
    . rw [if_pos he] at h
      have hbq : (is.getD i 0 == js.getD i 0) = true := by rw [he]; exact beq_self_eq_true _
      rw [hbq]
      wp_walk
      rw [hc]
      exact ⟨plainId_quiet qy _, codeAny_builtin entry_eq_loop' (by
        rw [Around.under_plainId qy _]
        exact ih (i + 1) (by ac_nf) prog w A R _ ⟨hl, hb, h⟩)⟩
    . rw [if_neg he] at h
      have hbq : (is.getD i 0 == js.getD i 0) = false := beq_eq_false_iff_ne.mpr he
      rw [hbq]
      wp_walk using wpAny_loadPart' hl, wpAny_loadPart' hb
      rw [hi1, hi2]
      refine wpAny_bind (wpAny_lt_int ?_)
      exact wpAny_pure h
theorem list_lt {a b : Addr} {xs ys : Array Value} {n n2 : Nat} {is js : List Int} (ex : xs.toList.map er = qo is) (ey : ys.toList.map er = qo js) (hsz : xs.size = ys.size) :
    Meets (Builtin.«list.__lt__» ⟨[.ref a, .ref b], []⟩)
      (λ o_ R s => s.heap.get? a = some { cls := .type "list", dict := none, data := .seq xs n, slots := #[] } /\ s.heap.get? b = some { cls := .type "list", dict := none, data := .seq ys n2, slots := #[] } /\
        R (.ok (.ret (.bool (lex is js)))) s) := by
  intro prog w A R s h
  obtain ⟨hp, g, d, tk, os⟩ := s; obtain ⟨hl, hb, h⟩ := h
  have f3 := AutoSeq1.sub_list_list
  wp_walk using wpAny_loadPart' hl, wpAny_loadPart' hb
  exact ⟨plainId_quiet qy _, codeAny_builtin entry_eq_loop' (by
    rw [Around.under_plainId qy _]
    exact lt_loop ex ey hsz _ 0 rfl prog w A R _ ⟨hl, hb, h⟩)⟩
theorem keyLt_lists {a b : Addr} {xs ys : Array Value} {n n2 : Nat} {is js : List Int} {Q : Bool -> Shared -> Prop} (hu : A.units < cLine) (ha : s.heap.get? a = some { cls := .type "list", dict := none, data := .seq xs n, slots := #[] })
    (hb : s.heap.get? b = some { cls := .type "list", dict := none, data := .seq ys n2, slots := #[] }) (ex : xs.toList.map er = qo is) (ey : ys.toList.map er = qo js) (hl : is.length = js.length) (h : Q (lex is js) s) :
    wpAny (model prog w) A (keyLt' oneType' (.ref a) (.ref b)) Q E s := by
  rw [keyLt'_oneType, oneLt'_eq]
  simp -iota only [if_true]
  refine wpAny_bind (wpAny_cRoomFor hu ?_)
  have hx : xs.size = is.length := yZ ex
  have hy : ys.size = js.length := yZ ey
  exact wpAny_bind (wpAny_callSpecialIfBound?_slot (zL ha).typeIs F.slot_list_lt (call_meets F.slot_list_lt (zL ha).typeIs F.entry_list_lt (F.args_list_lt_2 _ _) (list_lt (n := n) (n2 := n2) ex ey (by ac_nf)) ⟨ha, hb, wpAny_truthy_bool h⟩))
theorem split_tlt : splitId "tuple.__lt__" = some ("tuple", "__lt__") := by decide +kernel
theorem kind_tlt : builtinKind "tuple.__lt__" = some .slot := by decide +kernel
theorem zip_er {xs ys : List Value} : (xs.zip ys).map (λ p => (er p.1, er p.2)) = (xs.map er).zip (ys.map er) := by
  rw [List.zip_map]; rfl
theorem keyLt_M {P : Params} {a b : Addr} {xs ys : Array Value} {n n2 : Nat} {oa ob : Obj} {is js : List Int} {Q : Bool -> Shared -> Prop} (hu : A.units < cLine) (Ia : IsM P s.heap a) (Ib : IsM P s.heap b) (ha : s.heap.get? a = some oa) (da : oa.data = .seq xs n)
    (hb : s.heap.get? b = some ob) (db : ob.data = .seq ys n2) (ex : xs.toList.map er = qo is) (ey : ys.toList.map er = qo js) (hl : is.length = js.length) (h : Q (lex is js) s) :
    wpAny (model prog w) A (keyLt' oneType' (.ref a) (.ref b)) Q E s := by
  rw [keyLt'_oneType, oneLt'_eq]
  simp -iota only [if_true]
  refine wpAny_bind (wpAny_cRoomFor hu ?_)
  have hx : xs.size = is.length := yZ ex
  have hy : ys.size = js.length := yZ ey
  have hf : findIn (Kq P) (.ref 191) "__lt__" = some (some (.builtin "tuple.__lt__")) := by rfl
  have body : wpAny (model prog w) A.in1 (Builtin.«tuple.__lt__» ⟨[.ref a, .ref b], []⟩) (λ fin s' => fin = .done (.ret (.bool (lex is js))) /\ s' = s) E s := by
    wp_delta
    wp_delta
    unfold slotArgs
    simp -iota only [List.isEmpty_nil, Bool.not_true, Bool.false_eq_true, ↓reduceIte, bind_assoc, List.length_cons, List.length_nil, bne_self_eq_false]
    refine wpAny_bind (wpAny_pure ?_)
    try dsimp only
    refine wpAny_bind (qL Ib.tup ?_)
    simp -iota only [Bool.not_true, Bool.false_eq_true, ↓reduceIte]
    unfold Builtin.Tuple.tupleItemsOf
    refine wpAny_bind (wpAny_bind (wpAny_seqItems ha da (wpAny_pure ?_)))
    refine wpAny_bind (wpAny_bind (wpAny_seqItems hb db (wpAny_pure ?_)))
    refine wpAny_bind (wpAny_forIn_list _ (λ rest c s' => c.1 = none /\ s' = s /\ ∃ is' js' : List Int, is'.length = js'.length /\ rest.map (λ p => (er p.1, er p.2)) = (qo is').zip (qo js') /\ lex is js = lex is' js') _ ?_ ?_ _ _ ⟨rfl, rfl, is, js, hl, by rw [zip_er, ex, ey], rfl⟩)
    . rintro ⟨x, y⟩ rest c s' ⟨hc, rfl, is', js', hl', hm, e⟩
      cases is' with
      | nil => simp [qo] at hm
      | cons i is' =>
      cases js' with
      | nil => simp [qo] at hm
      | cons j js' =>
      simp only [qo, List.map_cons, List.zip_cons_cons, List.cons.injEq, Prod.mk.injEq] at hm
      obtain ⟨⟨h1, h2⟩, h3⟩ := hm
      obtain ⟨t, rfl⟩ := zQ h1
      obtain ⟨u, rfl⟩ := zQ h2
      refine wpAny_bind (EqGives.int _ _ _ _ prog w _ _ _ _ ?_)
      by_cases hij : i = j
      . have hb : (i == j) = true := by rw [hij]; exact beq_self_eq_true _
        rw [hb]
        simp -iota only [Bool.not_true, Bool.false_eq_true, ↓reduceIte]
        exact wpAny_pure ⟨rfl, rfl, is', js', by simpa using hl', h3, by rw [e]; show (if i = j then _ else _) = _; rw [if_pos hij]⟩
      . have hb : (i == j) = false := beq_eq_false_iff_ne.mpr hij
        rw [hb]
        simp -iota only [Bool.not_false, ↓reduceIte]
        refine wpAny_bind (wpAny_rule ?_)
        refine wpAny_bind (wpAny_lt_int ?_)
        refine wpAny_bind (wpAny_pure (wpAny_pure ?_))
        refine wpAny_pure ⟨?_, rfl⟩
        rw [e]
        show _ = Fin.done (.ret (.bool (if i = j then _ else _)))
        rw [if_neg hij]
    . rintro ⟨c1, c2⟩ s' ⟨hc, rfl, is', js', hl', hm, e⟩
      dsimp only at hc
      subst hc
      have h0 : is' = [] := by
        cases is' with
        | nil => rfl
        | cons i is' =>
          cases js' with
          | nil => simp at hl'
          | cons j js' => simp [qo] at hm
      subst h0
      refine wpAny_pure ⟨?_, rfl⟩
      rw [e]
      show Fin.done (.ret (.bool (decide (xs.size < ys.size)))) = Fin.done (.ret (.bool false))
      rw [decide_eq_false (by ac_nf)]
  refine wpAny_bind ?_
  simp only [callSpecialIfBound?, bindSpecialIfBound?]
  refine wpAny_holding (wpAny_bind (wpAny_bind (qL (Ia.spec hf) ?_)))
  simp only [F.slot_tuple_lt.bind]
  refine wpAny_bind (wpAny_askSetting (wpAny_ite ?_))
  have fin : wpAny (model prog w) A (call (.builtin "tuple.__lt__") ([.ref a] ++ [.ref b]) >>= λ v => pure (some v)) (λ r s' => r = some (.bool (lex is js)) /\ s' = s) E s := by
    refine wpAny_bind (callM Ia F.slot_tuple_lt kind_tlt split_tlt F.entry_tuple_lt (F.args_tuple_lt_2 _ _) (wpAny_mono body (λ v s' h' => ⟨_, h'.1, wpAny_pure ⟨rfl, h'.2⟩⟩) λ o_ o_ x => x))
  have fin' : ∀ r s', r = some (.bool (lex is js)) /\ s' = s -> wpAny (model prog w) A (match r with
        | some Value.notImplemented => do
          rule "list.sort.lt-declined"
          let __do_lift <- richCompare CmpOp.Lt (Value.ref a) (Value.ref b)
          truthOfDropped __do_lift
        | none => do
          rule "list.sort.lt-declined"
          let __do_lift <- richCompare CmpOp.Lt (Value.ref a) (Value.ref b)
          truthOfDropped __do_lift
        | some __do_lift => truthOfDropped __do_lift) Q E s' := by
    rintro r s' ⟨rfl, rfl⟩
    exact wpAny_truthy_bool h
  refine ite_both ?_ ?_
  . exact wpAny_bind (wpAny_pure (wpAny_pure (wpAny_mono fin fin' λ o_ o_ x => x)))
  . exact wpAny_tryCatch (wpAny_bind (wpAny_pure (wpAny_pure (wpAny_mono fin fin' λ o_ o_ x => x))))
end
end
section
open PySem.W.X
noncomputable def RowO (M : Bool) (is : List Int) : AO := if M then .mt 191 (qo is) else .list (qo is)
structure Rows (H : AH) (M : Bool) (vs : List Value) (rows : List (List Int)) : Prop where
  len : vs.length = rows.length
  row : ∀ i, i < rows.length -> ∃ a, vs.getD i Value.none = .ref a /\ H a = some (RowO M (rows.getD i []))
structure Ranked (rk : List Int -> Nat) (rows : List (List Int)) : Prop where
  lex : ∀ i j, i < rows.length -> j < rows.length -> lex (rows.getD i []) (rows.getD j []) = decide (rk (rows.getD i []) < rk (rows.getD j []))
  len : ∀ i j, i < rows.length -> j < rows.length -> (rows.getD i []).length = (rows.getD j []).length
  inj : ∀ i j, i < rows.length -> j < rows.length -> i ≠ j -> rk (rows.getD i []) ≠ rk (rows.getD j [])
section
variable {X : Wd} {A : Around} {L : Addr} {S : St} {env : Env} {C : Cx} {s : Shared}
theorem row_type (T : TopK X) {M : Bool} {a : Addr} {is : List Int} (hB : X.le C) (R : Rep X C L S s) (h : S.H a = some (RowO M is)) : Looks (model X.prog X.w) s.heap (typeOf (.ref a)) (if M then .ref 191 else .type "list") := by
  cases M with
  | true =>
    obtain ⟨items, ep, d, I, ho, e⟩ := R.isM T hB h
    exact I.ty
  | false =>
    obtain ⟨items, ep, ho, e⟩ := R.list (show S.H a = some (.list (qo is)) from h)
    exact (Looks.ld (part := some headPart) ho).andThen .now
theorem row_lt (T : TopK X) {M : Bool} {a b : Addr} {is js : List Int} {Q : Bool -> Shared -> Prop} {E : Value -> Shared -> Prop} (hu : A.units < cLine) (hB : X.le C) (R : Rep X C L S s) (ha : S.H a = some (RowO M is)) (hb : S.H b = some (RowO M js)) (hl : is.length = js.length) (h : Q (lex is js) s) :
    wpAny (model X.prog X.w) A (keyLt' oneType' (.ref a) (.ref b)) Q E s := by
  cases M with
  | true =>
    obtain ⟨items, ep, d, I, ho, e⟩ := R.isM T hB ha
    obtain ⟨items2, ep2, d2, I2, ho2, e2⟩ := R.isM T hB hb
    exact keyLt_M hu I I2 ho rfl ho2 rfl e e2 hl h
  | false =>
    obtain ⟨items, ep, ho, e⟩ := R.list (show S.H a = some (.list (qo is)) from ha)
    obtain ⟨items2, ep2, ho2, e2⟩ := R.list (show S.H b = some (.list (qo js)) from hb)
    exact keyLt_lists hu ho ho2 e e2 hl h
theorem few_out {vs : List Value} : Array.map (λ x : Keyed => x.2) (vs.toArray.zip vs.toArray) = ((List.range vs.length).map λ i => vs.getD i Value.none).toArray := by
  rw [PyProof.Rows.range_getD, List.zip_toArray, List.map_toArray]; exact congrArg _ (List.map_snd_zip (Nat.le_refl _))
theorem few_pw {α : Type} {r : α -> α -> Prop} : ∀ {l : List α}, l.length < 2 -> l.Pairwise r
  | [], _ => List.Pairwise.nil
  | [_], _ => List.pairwise_singleton _ _
  | _ :: _ :: l, h => absurd h (Nat.not_lt_of_le (Nat.le_add_left 2 l.length))
theorem sort_body (T : TopK X) {M : Bool} {a : Addr} {vs : List Value} {rows : List (List Int)} {rk : List Int -> Nat} {n : Nat} {P : PySem.Fin -> Shared -> Prop} {E : Value -> Shared -> Prop} (hu : A.units < cLine) (hB : X.le C) (R : Rep X C L S s) (hd : jK C S L [a])
    (ho : s.heap.get? a = some (seqObj "list" vs.toArray n)) (hr : Rows S.H M vs rows) (hk : Ranked rk rows) (h64 : vs.length < 64)
    (h : ∀ (p : List Nat) s' n', p.Perm (List.range vs.length) -> (p.map λ i => rk (rows.getD i [])).Pairwise (· <= ·) -> Rep X C L S s' -> s'.heap.get? a = some (seqObj "list" (p.map λ i => vs.getD i Value.none).toArray n') -> P (.done (.ret .none)) s') :
    wpAny (model X.prog X.w) A (Builtin.«list.sort» ⟨[.ref a], []⟩) P E s := by
  have ha : a < s.heap.objs.size := Heap.lt_size ho
  have hz : sizeLine = 2 ^ 24 := rfl
  obtain ⟨e1, ho1⟩ : ∃ e1, (s.heap.update a (Obj.mapSeq λ o_ => (#[] : Array Value))).get? a = some (seqObj "list" #[] e1) := ⟨_, get?_update_seq ho λ o_ => #[]⟩
  rw [list_sort_plain]
  refine wpAny_bind (listItems_at ho rfl ?_)
  refine wpAny_bind (listUpdate_at ho rfl ?_ (by rw [List.size_toArray]; ac_nf) (Nat.zero_le _))
  refine wpAny_bind (seqEpoch_at ho1 rfl ?_)
  refine wpAny_bind (wpAny_newTuple ?_ (by show vs.length <= _; ac_nf))
  refine wpAny_bind (wpAny_newList ?_ (Nat.zero_le _))
  refine wpAny_holding ?_
  generalize hs1 : ({ s with heap := ((s.heap.update a (Obj.mapSeq λ o_ => (#[] : Array Value))).push (seqObj "tuple" vs.toArray 0)).push (seqObj "list" #[] 0) } : Shared) = s1
  have R1 : Rep X C L S s1 := by
    rw [<- hs1]
    exact Rep.ext (s := { s with heap := s.heap.update a (Obj.mapSeq λ o_ => (#[] : Array Value)) }) (R.hidList hd) (λ b o e => Heap.get?_push_of_some _ (Heap.get?_push_of_some _ e)) rfl rfl
  have ho6 : s1.heap.get? a = some (seqObj "list" #[] e1) := by
    rw [<- hs1]; exact Heap.get?_push_of_some _ (Heap.get?_push_of_some _ ho1)
  dsimp only
  have fin : ∀ (p : List Nat), p.Perm (List.range vs.length) -> (p.map λ i => rk (rows.getD i [])).Pairwise (· <= ·) -> ∀ s' out, s'.heap = s1.heap.update a (Obj.mapSeq λ o_ => out) -> s'.gens = s1.gens -> s'.os = s1.os -> out = (p.map λ i => vs.getD i Value.none).toArray -> P (.done (.ret .none)) s' := by
    intro p hp hs s' out hh hg hos hout
    subst hout
    obtain ⟨c2, hc2⟩ : ∃ c2, (s1.heap.update a (Obj.mapSeq λ o_ => (p.map λ i => vs.getD i Value.none).toArray)).get? a = some (seqObj "list" (p.map λ i => vs.getD i Value.none).toArray c2) := ⟨_, get?_update_seq ho6 λ o_ => _⟩
    refine h p s' c2 hp hs ?_ (by rw [hh]; exact hc2)
    refine Rep.hid R1 hd (λ b o hb e => ?_) hg hos
    rw [hh, Heap.get?_update_ne _ _ _ _ (λ q => hb (by rw [q]; exact List.mem_singleton.mpr rfl))]; exact e
  by_cases h2 : vs.length < 2
  . have hn2 : vs.toArray.size < 2 := by rw [List.size_toArray]; exact h2
    rw [if_pos hn2, if_pos hn2]
    refine wpAny_bind (wpAny_pure ?_)
    rw [StateT.run_pure]
    refine wpAny_bind (wpAny_pure ?_)
    dsimp only
    have hout : Array.map (λ x : Keyed => x.2) (arrOf (SortSt.mk' general' (vs.toArray.zip vs.toArray) #[] 7 none)) = ((List.range vs.length).map λ i => vs.getD i Value.none).toArray := by
      exact few_out
    rw [hout]
    refine wpAny_bind (seqEpoch_at ho6 rfl ?_)
    refine wpAny_bind (listUpdate_at ho6 rfl ?_ (Nat.zero_le _) (by simp; ac_nf))
    simp only [bne_self_eq_false, Bool.false_eq_true, if_false]
    refine wpAny_pure (fin _ (.refl _) ?_ _ _ rfl rfl rfl rfl)
    exact few_pw (by rw [List.length_map, List.length_range]; exact h2)
  . have h2' : 2 <= vs.length := by ac_nf
    have hn2 : ¬ vs.toArray.size < 2 := by rw [List.size_toArray]; exact h2
    rw [if_neg hn2, if_neg hn2]
    refine wpAny_bind (kas_kind (T := if M then .ref 191 else .type "list") h2' (λ v hv => ?_) (by cases M <;> decide) (by cases M <;> decide) ?_)
    . obtain ⟨i, hi, rfl⟩ := List.mem_iff_getElem.mp hv
      obtain ⟨b, hb, hH⟩ := hr.row i (by rw [<- hr.len]; exact hi)
      rw [List.getD_eq_getElem?_getD, List.getElem?_eq_getElem hi] at hb
      have hb' : vs[i] = .ref b := hb
      rw [hb']
      exact row_type T hB R1 hH
    have est : SortSt.mk' oneType' (vs.toArray.zip vs.toArray) #[] 7 none = kas_st oneType' (PyProof.Rows.pairsOf vs) (List.toArray (List.range vs.length)) := by
      have e := kas_range (PyProof.Rows.pairsOf vs)
      rw [pairsOf_size] at e
      show SortSt.mk' oneType' (PyProof.Rows.pairsOf vs) #[] 7 none = SortSt.mk' oneType' ((List.toArray (List.range vs.length)).map (kas_item (PyProof.Rows.pairsOf vs))) #[] 7 none
      rw [e]
    obtain ⟨q, eq, q1, q2⟩ := sort_spec (λ i => rk (rows.getD i [])) (n := vs.length) (by ac_nf) (λ i j hi hj hne => hk.inj i j (by rw [<- hr.len]; exact hi) (by rw [<- hr.len]; exact hj) hne)
    have ask : (kas_sort vs.length).kasWp (kas_cmp X.prog X.w A oneType' (PyProof.Rows.pairsOf vs)) (λ p s' => p = q /\ s' = s1) s1 := by
      refine kas_of (n := vs.length) (lt := yJ λ i => rk (rows.getD i [])) (Inv := λ s' => s' = s1) (λ i j hi hj K hK s' hs' => ?_) _ (good_sort (by ac_nf)) (λ s' hs' => ⟨eq, hs'⟩) s1 rfl
      subst hs'
      unfold kas_cmp
      rw [kas_item_eq, kas_item_eq]
      obtain ⟨x, hx, hxH⟩ := hr.row i (by rw [<- hr.len]; exact hi)
      obtain ⟨y, hy, hyH⟩ := hr.row j (by rw [<- hr.len]; exact hj)
      rw [hx, hy]
      refine row_lt T hu hB R1 hxH hyH (hk.len i j (by rw [<- hr.len]; exact hi) (by rw [<- hr.len]; exact hj)) ?_
      rw [hk.lex i j (by rw [<- hr.len]; exact hi) (by rw [<- hr.len]; exact hj)]
      exact hK _ rfl
    have run := kas_runs (E := E) (Q := λ o_ st' s' => ∃ p : Array Nat, p.size = vs.length /\ arrOf st' = p.map (kas_item (PyProof.Rows.pairsOf vs)) /\ failedOf st' = none /\ p = q /\ s' = s1)
      h2' h64 (λ p' st' s' a1 a2 a3 a4 => ⟨p', a1, a2, a3, a4⟩) ask
    rw [<- est] at run
    refine wpAny_bind (wpAny_mono run ?_ λ o_ o_ e => e)
    rintro ⟨⟨⟩, st'⟩ s' ⟨p, hp, har, hf, rfl, rfl⟩
    dsimp only
    have hout : (arrOf st').map (·.2) = List.toArray (p.toList.map λ i => vs.getD i Value.none) := by
      apply Array.toList_inj.mp
      rw [har, Array.map_map, Array.toList_map]
      exact List.map_congr_left λ i o_ => by show (kas_item (PyProof.Rows.pairsOf vs) i).2 = _; rw [kas_item_eq]
    rw [hout]
    refine wpAny_bind (seqEpoch_at ho6 rfl ?_)
    refine wpAny_bind (listUpdate_at ho6 rfl ?_ (Nat.zero_le _) (by simp; ac_nf))
    rw [hf]
    simp only [bne_self_eq_false, Bool.false_eq_true, if_false]
    refine wpAny_pure (fin p.toList ?_ ?_ _ _ rfl rfl rfl rfl)
    . have := q1.toList; rwa [show (List.toArray (List.range vs.length)).toList = List.range vs.length from rfl] at this
    . rw [List.pairwise_map]
      rw [List.pairwise_iff_getElem]
      intro i j hi hj hij
      have := q2 i j (by ac_nf) (by rw [<- hp]; simpa using hj)
      unfold key at this
      rw [Array.getD_eq_getD_getElem?, Array.getD_eq_getD_getElem?, Array.getElem?_eq_getElem (by simpa using hi), Array.getElem?_eq_getElem (by simpa using hj)] at this
      simpa using this
theorem rows_er {H : AH} {M : Bool} {cs vs : List Value} {rows : List (List Int)} (hr : Rows H M vs rows) (e : cs.map er = vs) : cs = vs := by
  rw [<- e]
  refine List.ext_getElem (by simp) λ i h1 h2 => ?_
  have hl : cs.length = vs.length := by rw [<- e]; simp
  obtain ⟨a, ha, _⟩ := hr.row i (by rw [<- hr.len]; ac_nf)
  have : er cs[i] = .ref a := by
    rw [List.getD_eq_getElem?_getD, <- e, List.getElem?_map, List.getElem?_eq_getElem h1] at ha
    exact ha
  rw [List.getElem_map, this]
  exact zC this
theorem Rows.ext {H H' : AH} {M : Bool} {vs : List Value} {rows : List (List Int)} (h : Rows H M vs rows) (k : ∀ a is, H a = some (RowO M is) -> H' a = some (RowO M is)) : Rows H' M vs rows :=
  ⟨h.len, λ i hi => by obtain ⟨a, h1, h2⟩ := h.row i hi; exact ⟨a, h1, k _ _ h2⟩⟩
theorem hdel_hset {H : AH} {a : Addr} {o : AO} : zD (qX H a) a o = zD H a o := by
  funext b
  by_cases h : b = a
  . rw [h, show zD (qX H a) a o a = some o from zA, show zD H a o a = some o from zA]
  . rw [zE _ h, zE _ h, zv h]
theorem call_sorted (T : TopK X) {M : Bool} {l : Addr} {vs : List Value} {rows : List (List Int)} {rk : List Int -> Nat} {Φ : Value -> St -> Prop} (hu : A.units + 50 < cLine) (hl : S.H l = some (.list vs)) (hr : Rows S.H M vs rows) (hk : Ranked rk rows) (h64 : vs.length < 64)
    (h : ∀ p : List Nat, p.Perm (List.range vs.length) -> (p.map λ i => rk (rows.getD i [])).Pairwise (· <= ·) -> New S (.list (p.map λ i => vs.getD i Value.none)) Φ) : zO X A L (.builtin "sorted") [.ref l] S Φ := λ cs hcs C s hB R => by
  obtain ⟨c, rfl, hc⟩ := yX hcs
  rw [zC hc]
  obtain ⟨items, ep, ho, e⟩ := R.list hl
  have hz : sizeLine = 2 ^ 24 := rfl
  have ei : items.toList = vs := rows_er hr e
  have ei' : items = vs.toArray := by rw [<- ei]
  subst ei'
  refine Calls.call_function_entry kind_sorted plain_sorted entry_sorted (args_sorted1 _) ?_
  unfold Builtin.«sorted»
  refine wpAny_bind (m := checkCount "sorted" 1 1 _) (wpAny_pure ?_)
  refine wpAny_bind (collect_list (zL ho) ?_ (by show vs.length <= _; ac_nf))
  refine wpAny_bind (wpAny_newList ?_ (by show vs.length <= _; ac_nf))
  have hsz : ((s.heap.push (seqObj "list" #[] 0)).update s.heap.objs.size (Obj.mapSeq (· ++ vs.toArray))).objs.size = s.heap.objs.size + 1 := by
    rw [Heap.size_update, size_push']
  have hoL : (((s.heap.push (seqObj "list" #[] 0)).update s.heap.objs.size (Obj.mapSeq (· ++ vs.toArray))).push (seqObj "list" vs.toArray 0)).get? (s.heap.objs.size + 1) = some (seqObj "list" vs.toArray 0) := by
    rw [<- hsz]; exact Heap.get?_push_size _ rfl
  have keep : ∀ b o, s.heap.get? b = some o -> (((s.heap.push (seqObj "list" #[] 0)).update s.heap.objs.size (Obj.mapSeq (· ++ vs.toArray))).push (seqObj "list" vs.toArray 0)).get? b = some o := λ b o q => by
    have hlt : b < s.heap.objs.size := Heap.lt_size q
    rw [Heap.get?_push_ne _ _ _ (by rw [hsz]; exact Nat.ne_of_lt (Nat.lt_succ_of_lt hlt)), Heap.get?_update_ne _ _ _ _ (Nat.ne_of_lt hlt), Heap.get?_push_ne _ _ _ (Nat.ne_of_lt hlt)]
    exact q
  have fr := R.fresh (Heap.get?_none_of_le (Nat.le_succ s.heap.objs.size))
  have hd : jK C S L [s.heap.objs.size + 1] := λ b hb => by rw [List.mem_singleton.mp hb]; exact fr
  show wpAny _ _ _ _ _ { s with heap := ((s.heap.push (seqObj "list" #[] 0)).update s.heap.objs.size (Obj.mapSeq (· ++ vs.toArray))).push (seqObj "list" vs.toArray 0) }
  rw [hsz]
  have R1 : Rep X C L S { s with heap := ((s.heap.push (seqObj "list" #[] 0)).update s.heap.objs.size (Obj.mapSeq (· ++ vs.toArray))).push (seqObj "list" vs.toArray 0) } := R.ext keep rfl rfl
  refine wpAny_bind (wpAny_holding (wpAny_call_entry F.slot_list_sort ⟨_, hoL, rfl⟩ entry_list_sort ?_ (args_list_sort _)))
  refine sort_body T (by show A.units + 1 + 1 < cLine; ac_nf) hB R1 hd hoL hr hk h64 λ p s' n' h1 h2 R' ho' => ⟨_, rfl, wpAny_pure ⟨_, rfl, _, ?_, h p h1 h2 _ fr.2.1⟩⟩
  exact R'.put (λ o_ o_ o_ q => q) fr.1 fr.2.2 (o := .list _) ⟨_, ho', _, n', rfl, by
    rw [List.map_map]
    refine List.map_congr_left λ i hi => ?_
    have hi' : i < vs.length := List.mem_range.mp ((h1.mem_iff).mp hi)
    obtain ⟨a, ha, _⟩ := hr.row i (by rw [<- hr.len]; exact hi')
    show er (vs.getD i Value.none) = _
    rw [ha]; rfl⟩ rfl rfl
theorem meth_sort {a : Addr} {vs : List Value} {Ψ : Value -> List Value -> St -> Prop} (hl : S.H a = some (.list vs)) (h : Ψ (.builtin "list.sort") [.ref a] S) : yf X A L (.ref a) "sort" S Ψ :=
  qI (jQ hl) F.plainAttrs_list F.slot_list_sort F.type_list_sort h
theorem call_sort (T : TopK X) {M : Bool} {l : Addr} {vs : List Value} {rows : List (List Int)} {rk : List Int -> Nat} {Φ : Value -> St -> Prop} (hu : A.units + 50 < cLine) (hl : S.H l = some (.list vs)) (hr : Rows (qX S.H l) M vs rows) (hk : Ranked rk rows) (h64 : vs.length < 64)
    (h : ∀ p : List Nat, p.Perm (List.range vs.length) -> (p.map λ i => rk (rows.getD i [])).Pairwise (· <= ·) -> Φ .none { S with H := zD S.H l (.list (p.map λ i => vs.getD i Value.none)) }) : zO X A L (.builtin "list.sort") [.ref l] S Φ := λ cs hcs C s hB R => by
  obtain ⟨c, rfl, hc⟩ := yX hcs
  rw [zC hc]
  obtain ⟨items, ep, ho, e⟩ := R.list hl
  have ei : items.toList = vs := rows_er hr e
  have ei' : items = vs.toArray := by rw [<- ei]
  subst ei'
  refine wpAny_call_entry F.slot_list_sort ⟨_, ho, rfl⟩ entry_list_sort ?_ (args_list_sort _)
  have hd : jK C { S with H := qX S.H l } L [l] := λ b hb => by rw [List.mem_singleton.mp hb]; exact ⟨R.notB hl, qh _ _, R.notL hl⟩
  refine sort_body T (by show A.units + 1 < cLine; ac_nf) hB (R.hide l) hd ho hr hk h64 λ p s' n' h1 h2 R' ho' => ⟨_, rfl, _, ?_, h p h1 h2⟩
  have R2 := R'.put (λ o_ o_ o_ q => q) (R.notB hl) (R.notL hl) (o := .list (p.map λ i => vs.getD i Value.none)) ⟨_, ho', _, n', rfl, by
    rw [List.map_map]
    refine List.map_congr_left λ i hi => ?_
    have hi' : i < vs.length := List.mem_range.mp ((h1.mem_iff).mp hi)
    obtain ⟨a, ha, _⟩ := hr.row i (by rw [<- hr.len]; exact hi')
    show er (vs.getD i Value.none) = _
    rw [ha]; rfl⟩ rfl rfl
  have e2 : zD (qX S.H l) l (.list (p.map λ i => vs.getD i Value.none)) = zD S.H l (.list (p.map λ i => vs.getD i Value.none)) := hdel_hset
  rw [<- e2]; exact R2
end
end
section
open PySem.W.X
section
variable {X : Wd} {A : Around} {L : Addr} {S : St} {env : Env} {C : Cx} {s : Shared}
theorem meth_extend {a : Addr} {vs : List Value} {Ψ : Value -> List Value -> St -> Prop} (hl : S.H a = some (.list vs)) (h : Ψ (.builtin "list.extend") [.ref a] S) : yf X A L (.ref a) "extend" S Ψ :=
  qI (jQ hl) F.plainAttrs_list F.slot_list_extend F.type_list_extend h
theorem call_extend {a b : Addr} {vs us : List Value} {Φ : Value -> St -> Prop} (hl : S.H a = some (.list vs)) (hb : S.H b = some (.list us)) (hn : vs.length + us.length <= sizeLine) (h : Φ .none { S with H := zD S.H a (.list (vs ++ us)) }) :
    zO X A L (.builtin "list.extend") [.ref a, .ref b] S Φ := λ cs hcs C s hB R => by
  obtain ⟨c, d, rfl, hc, hd⟩ := map2 hcs
  rw [zC hc, zC hd]
  obtain ⟨items, ep, ho, e⟩ := R.list hl
  obtain ⟨items2, ep2, ho2, e2⟩ := R.list hb
  have hsz : items.size + items2.size <= sizeLine := by rw [zP e, zP e2]; exact hn
  refine call_meets F.slot_list_extend (zL ho).typeIs F.entry_list_extend (F.args_list_extend_2 _ _) (AutoSeq1.list_extend_list_list_0 a items ep b items2 ep2 (extend_door hsz) (Nat.le_trans (Nat.le_add_right _ _) hsz) (by ac_nf)) ⟨ho, ho2, ?_⟩
  refine ⟨_, R.mapSeq hl ho (vs' := vs ++ us) ?_, h⟩
  rw [Array.toList_append, List.map_append, e, e2]
end
end
section
open PySem.W.X
theorem Rows.put {H : AH} {M : Bool} {vs : List Value} {rows : List (List Int)} {b : Addr} {o : AO} (h : Rows H M vs rows) (hb : ∀ is ∈ rows, H b ≠ some (RowO M is)) : Rows (zD H b o) M vs rows :=
  ⟨h.len, λ i hi => by
    obtain ⟨a, h1, h2⟩ := h.row i hi
    refine ⟨a, h1, ?_⟩
    rw [zE _ (λ q => hb (rows.getD i []) ?_ (by rw [<- q]; exact h2))]
    . exact h2
    . rw [List.getD_eq_getElem?_getD, List.getElem?_eq_getElem hi]; exact List.getElem_mem hi⟩
theorem Rows.new {H : AH} {M : Bool} {vs : List Value} {rows : List (List Int)} {b : Addr} {o : AO} (h : Rows H M vs rows) (hb : H b = none) : Rows (zD H b o) M vs rows := h.put λ is o_ e => by rw [hb] at e; cases e
theorem Rows.cell {H : AH} {M : Bool} {vs : List Value} {rows : List (List Int)} {b : Addr} {o : AO} {v : Option Value} (h : Rows H M vs rows) (hb : H b = some (.cell v)) : Rows (zD H b o) M vs rows := h.put λ is o_ e => by
  rw [hb] at e; cases M <;> cases e
theorem Rows.of_ext {H H' : AH} {M : Bool} {vs : List Value} {rows : List (List Int)} (h : Rows H M vs rows) (e : zm H H') : Rows H' M vs rows := h.ext λ a is q => e _ _ q
theorem Rows.nil {H : AH} {M : Bool} : Rows H M [] [] := ⟨rfl, λ i hi => absurd hi (Nat.not_lt_zero i)⟩
theorem Rows.snoc {H : AH} {M : Bool} {vs : List Value} {rows : List (List Int)} {a : Addr} {is : List Int} (h : Rows H M vs rows) (ha : H a = some (RowO M is)) : Rows H M (vs ++ [.ref a]) (rows ++ [is]) := by
  have hl := h.len
  refine ⟨by simp [hl], λ i hi => ?_⟩
  rw [List.length_append, List.length_singleton] at hi
  by_cases e : i < rows.length
  . obtain ⟨b, h1, h2⟩ := h.row i e
    refine ⟨b, ?_, ?_⟩
    . rw [List.getD_eq_getElem?_getD, List.getElem?_append_left (by ac_nf), <- List.getD_eq_getElem?_getD]; exact h1
    . rw [List.getD_eq_getElem?_getD, List.getElem?_append_left e, <- List.getD_eq_getElem?_getD]; exact h2
  . have : i = rows.length := by ac_nf
    subst this
    refine ⟨a, ?_, ?_⟩
    . rw [List.getD_eq_getElem?_getD, List.getElem?_append_right (by ac_nf)]; simp [hl]
    . rw [List.getD_eq_getElem?_getD, List.getElem?_append_right (by ac_nf)]; simpa using ha
theorem Rows.append {H : AH} {M : Bool} {vs us : List Value} {rows rows' : List (List Int)} (h : Rows H M vs rows) (h' : Rows H M us rows') : Rows H M (vs ++ us) (rows ++ rows') := by
  have hl := h.len
  have hl' := h'.len
  refine ⟨by simp [hl, hl'], λ i hi => ?_⟩
  rw [List.length_append] at hi
  by_cases e : i < rows.length
  . obtain ⟨b, h1, h2⟩ := h.row i e
    refine ⟨b, ?_, ?_⟩
    . rw [List.getD_eq_getElem?_getD, List.getElem?_append_left (by ac_nf), <- List.getD_eq_getElem?_getD]; exact h1
    . rw [List.getD_eq_getElem?_getD, List.getElem?_append_left e, <- List.getD_eq_getElem?_getD]; exact h2
  . obtain ⟨b, h1, h2⟩ := h'.row (i - rows.length) (by ac_nf)
    refine ⟨b, ?_, ?_⟩
    . rw [List.getD_eq_getElem?_getD, List.getElem?_append_right (by ac_nf), hl, <- List.getD_eq_getElem?_getD]; exact h1
    . rw [List.getD_eq_getElem?_getD, List.getElem?_append_right (by ac_nf), <- List.getD_eq_getElem?_getD]; exact h2
theorem Rows.last {H : AH} {M : Bool} {vs : List Value} {rows : List (List Int)} {is : List Int} (h : Rows H M vs (rows ++ [is])) : ∃ us a, vs = us ++ [.ref a] /\ H a = some (RowO M is) /\ Rows H M us rows := by
  have hl := h.len
  rw [List.length_append, List.length_singleton] at hl
  rcases List.eq_nil_or_concat vs with rfl | ⟨us, v, rfl⟩
  . simp at hl
  rw [List.concat_eq_append] at h hl ⊢
  have hl' : us.length = rows.length := by simpa using hl
  obtain ⟨a, h1, h2⟩ := h.row rows.length (by simp)
  rw [List.getD_eq_getElem?_getD, List.getElem?_append_right (by ac_nf)] at h1 h2
  have h1 : v = .ref a := by simpa [hl'] using h1
  have h2 : H a = some (RowO M is) := by simpa using h2
  refine ⟨us, a, by rw [h1], h2, hl', λ i hi => ?_⟩
  obtain ⟨b, c1, c2⟩ := h.row i (by rw [List.length_append]; ac_nf)
  rw [List.getD_eq_getElem?_getD, List.getElem?_append_left (by ac_nf), <- List.getD_eq_getElem?_getD] at c1 c2
  exact ⟨b, c1, c2⟩
theorem Rows.get {H : AH} {M : Bool} {vs : List Value} {rows : List (List Int)} (h : Rows H M vs rows) {k : Nat} {v : Value} (hv : vs[k]? = some v) : ∃ a is, v = .ref a /\ rows[k]? = some is /\ H a = some (RowO M is) := by
  have hk : k < rows.length := by
    have := (List.getElem?_eq_some_iff.mp hv).1
    rw [h.len] at this; exact this
  obtain ⟨a, h1, h2⟩ := h.row k hk
  rw [List.getD_eq_getElem?_getD, hv] at h1
  rw [List.getD_eq_getElem?_getD, List.getElem?_eq_getElem hk] at h2
  exact ⟨a, rows[k], h1, List.getElem?_eq_getElem hk, h2⟩
theorem Rows.perm {H : AH} {M : Bool} {vs : List Value} {rows : List (List Int)} (h : Rows H M vs rows) {p : List Nat} (hp : ∀ i ∈ p, i < rows.length) : Rows H M (p.map λ i => vs.getD i Value.none) (p.map λ i => rows.getD i []) := by
  refine ⟨by simp, λ i hi => ?_⟩
  rw [List.length_map] at hi
  obtain ⟨a, h1, h2⟩ := h.row p[i] (hp _ (List.getElem_mem hi))
  refine ⟨a, ?_, ?_⟩
  . rw [List.getD_eq_getElem?_getD, List.getElem?_map, List.getElem?_eq_getElem hi]; exact h1
  . rw [List.getD_eq_getElem?_getD, List.getElem?_map, List.getElem?_eq_getElem hi]; exact h2
theorem no_row {H : AH} {b : Addr} {vs : List Value} {is : List Int} (h : H b = some (.list vs)) (hv : vs = [] \/ ∃ a r, vs = .ref a :: r) (hn : is ≠ []) : H b ≠ some (RowO false is) := λ e => by
  rw [h] at e
  have e : AO.list vs = .list (qo is) := Option.some.inj e
  cases is with
  | nil => exact hn rfl
  | cons i is =>
    rcases hv with rfl | ⟨a, r, rfl⟩
    . simp [qo] at e
    . simp [qo] at e
theorem Rows.refs {H : AH} {M : Bool} {vs : List Value} {rows : List (List Int)} (h : Rows H M vs rows) : vs = [] \/ ∃ a r, vs = .ref a :: r := by
  cases vs with
  | nil => exact .inl rfl
  | cons v vs =>
    obtain ⟨a, is, h1, _⟩ := h.get (k := 0) (v := v) rfl
    exact .inr ⟨a, vs, by rw [h1]⟩
section
variable {X : Wd} {A : Around} {L : Addr} {S : St} {env : Env}
theorem Wp.abs {α : Type} {t : Sem α} {Φ : α -> St -> Prop} (Q : St -> Prop) (h : Q S) (k : ∀ S', Q S' -> Wp X A L t S' Φ) : Wp X A L t S Φ := k S h
theorem hset_cell {H : AH} {c d : Addr} {o : AO} {v : Option Value} (h : c ≠ d) (hd : H d = some (.cell v)) : zD H c o d = some (.cell v) := by
  rw [zE _ (Ne.symm h)]; exact hd
theorem zm.none {H H' : AH} {a : Addr} (h : zm H H') (n : H' a = none) : H a = none := by
  cases e : H a with
  | none => rfl
  | some o => rw [h _ _ e] at n; cases n
theorem tv_cut2 {e : Expr} {Ψ : Bool -> St -> Prop} (P : Prop) (Q : St -> Prop) (h : TV X A L e env S λ b S' => Q S' /\ (b = true ↔ P)) (k1 : P -> ∀ S', Q S' -> Ψ true S') (k2 : ¬ P -> ∀ S', Q S' -> Ψ false S') : TV X A L e env S Ψ :=
  Wp.mono h λ b S' ⟨e, q⟩ => by
    cases b
    . exact k2 (λ p => by have := q.mpr p; cases this) S' e
    . exact k1 (q.mp rfl) S' e
theorem zy {vs : List Value} {Ψ : St -> Prop} (h : Ψ S) : AsgAll X A L [] env vs S Ψ := h
theorem zG {t : Expr} {ts : List Expr} {v : Value} {vs : List Value} {Ψ : St -> Prop} (h : qs X A L t env v S λ S1 => AsgAll X A L ts env vs S1 Ψ) : AsgAll X A L (t :: ts) env (v :: vs) S Ψ := h
theorem zS {H : AH} {a b : Addr} {o : AO} (h : H a = some o) (h' : H b = none) : a ≠ b := λ q => by rw [q, h'] at h; cases h
theorem ne_sq {H : AH} {a b : Addr} {o o' : AO} (h : H a = some o) (h' : H b = some o') (hne : o ≠ o') : a ≠ b := λ q => by rw [q, h'] at h; exact hne (Option.some.inj h).symm
theorem zK {H : AH} {a b : Addr} {o o' : AO} (h : H a = some o) (h' : H b = some o') (hne : Nat.beq o.ctorIdx o'.ctorIdx = false) : a ≠ b := ne_sq h h' λ e => by subst e; rw [Nat.beq_refl] at hne; cases hne
theorem zF {H : AH} {a b : Addr} {o : AO} (h : zD H a o b = none) : b ≠ a /\ H b = none := by
  by_cases e : b = a
  . rw [e, show zD H a o a = some o from zA] at h; cases h
  . rw [zE _ e] at h; exact ⟨e, h⟩
theorem yq {H : AH} {M : Bool} {vs : List Value} {rows : List (List Int)} {x : Addr} (h : Rows H M vs rows) : vs ++ [Value.ref x] = [] \/ ∃ a r, vs ++ [Value.ref x] = .ref a :: r := by
  rcases h.refs with rfl | ⟨a, r, rfl⟩
  . exact .inr ⟨x, [], rfl⟩
  . exact .inr ⟨a, r ++ [.ref x], rfl⟩
theorem Rows.turn {H : AH} {vs us : List Value} {rows : List (List Int)} {b : Addr} {o : AO} (h : Rows H false vs rows) (hb : H b = some (.list us)) (hu : us = [] \/ ∃ a r, us = .ref a :: r) (hn : ∀ is ∈ rows, is ≠ []) : Rows (zD H b o) false vs rows := h.put λ is his => no_row hb hu (hn is his)
theorem prow_ne {l : List (Nat × Nat)} : ∀ is ∈ l.map jA, is ≠ [] := λ is his => by
  obtain ⟨y, _, rfl⟩ := List.mem_map.mp his
  simp [jA]
theorem brow_ne {l : List qA} : ∀ is ∈ l.map qJ, is ≠ [] := λ is his => by
  obtain ⟨y, _, rfl⟩ := List.mem_map.mp his
  simp [qJ]
noncomputable def qU (b : yx) : List Int := [(b.1 : Int), (b.2.1 : Int), (b.2.2.1 : Int), (b.2.2.2 : Int)]
theorem boxrow_ne {l : List yx} : ∀ is ∈ l.map qU, is ≠ [] := λ is his => by
  obtain ⟨y, _, rfl⟩ := List.mem_map.mp his
  simp [qU]
end
end
section
open PySem.W.X
section
variable {α : Type} {f : α -> List Int} {rk : List Int -> Nat} {l Tl : List α}
theorem map_range_getD (l : List α) (d : α) : (List.range l.length).map (λ i => l.getD i d) = l := by
  refine List.ext_getElem (by simp) λ i h1 h2 => ?_
  simp [List.getElem?_eq_getElem h2]
theorem sorted_perm (d : α) {p : List Nat} (hperm : Tl.Perm l) (hT : Tl.Pairwise λ x y => rk (f x) < rk (f y)) (hp : p.Perm (List.range l.length)) (hs : (p.map λ i => rk ((l.map f).getD i [])).Pairwise (· <= ·)) :
    (p.map λ i => (l.map f).getD i []) = Tl.map f := by
  have hi : ∀ i ∈ p, i < l.length := λ i h => List.mem_range.mp ((hp.mem_iff).mp h)
  have e1 : ∀ i ∈ p, (l.map f).getD i [] = f (l.getD i d) := λ i h => by
    have := hi i h
    rw [List.getD_eq_getElem?_getD, List.getD_eq_getElem?_getD, List.getElem?_map, List.getElem?_eq_getElem this]; rfl
  have e2 : (p.map λ i => (l.map f).getD i []) = (p.map λ i => l.getD i d).map f := by
    rw [List.map_map]; exact List.map_congr_left e1
  have e3 : (p.map λ i => rk ((l.map f).getD i [])) = (p.map λ i => l.getD i d).map λ x => rk (f x) := by
    rw [List.map_map]; exact List.map_congr_left λ i h => by rw [e1 i h]; rfl
  rw [e3, List.pairwise_map] at hs
  have hl : (p.map λ i => l.getD i d).Perm l := by
    have := hp.map (λ i => l.getD i d)
    rwa [map_range_getD] at this
  have : Tl = p.map λ i => l.getD i d := sorted_uniq (lt := λ x y => rk (f x) < rk (f y)) (λ x => Nat.lt_irrefl _) (λ x y h => Nat.lt_asymm h) (hperm.trans hl.symm) hT (hs.imp λ h => Nat.not_lt.mpr h)
  rw [e2, this]
theorem ranked_of (hperm : Tl.Perm l) (hT : Tl.Pairwise λ x y => rk (f x) < rk (f y)) (hlex : ∀ x ∈ l, ∀ y ∈ l, (rk (f x) = rk (f y) -> x = y) -> lex (f x) (f y) = decide (rk (f x) < rk (f y))) (hlen : ∀ x ∈ l, ∀ y ∈ l, (f x).length = (f y).length) : Ranked rk (l.map f) := by
  have get : ∀ i, i < l.length -> ∃ x ∈ l, (l.map f).getD i [] = f x /\ l[i]? = some x := λ i h => ⟨l[i], List.getElem_mem h, by rw [List.getD_eq_getElem?_getD, List.getElem?_map, List.getElem?_eq_getElem h]; rfl, List.getElem?_eq_getElem h⟩
  have nd : (l.map λ x => rk (f x)).Nodup := by
    refine ((hperm.map λ x => rk (f x)).nodup_iff).mp ?_
    rw [List.Nodup, List.pairwise_map]
    exact hT.imp λ h => Nat.ne_of_lt h
  have inj : ∀ x ∈ l, ∀ y ∈ l, rk (f x) = rk (f y) -> x = y := λ x hx y hy e => by
    obtain ⟨i, hi, rfl⟩ := List.mem_iff_getElem.mp hx
    obtain ⟨j, hj, rfl⟩ := List.mem_iff_getElem.mp hy
    have h := (List.getElem_inj (xs := l.map λ x => rk (f x)) (h₀ := by simpa using hi) (h₁ := by simpa using hj) nd).mp (by simpa using e)
    subst h; rfl
  refine ⟨λ i j hi hj => ?_, λ i j hi hj => ?_, λ i j hi hj hne e => ?_⟩
  . rw [List.length_map] at hi hj
    obtain ⟨x, hx, ex, _⟩ := get i hi
    obtain ⟨y, hy, ey, _⟩ := get j hj
    rw [ex, ey]
    exact hlex x hx y hy (inj x hx y hy)
  . rw [List.length_map] at hi hj
    obtain ⟨x, hx, ex, _⟩ := get i hi
    obtain ⟨y, hy, ey, _⟩ := get j hj
    rw [ex, ey]
    exact hlen x hx y hy
  . rw [List.length_map] at hi hj
    obtain ⟨x, hx, ex, gx⟩ := get i hi
    obtain ⟨y, hy, ey, gy⟩ := get j hj
    rw [ex, ey] at e
    refine hne ((List.getElem_inj (xs := l.map λ x => rk (f x)) (h₀ := by simpa using hi) (h₁ := by simpa using hj) nd).mp ?_)
    rw [List.getElem?_eq_getElem hi] at gx
    rw [List.getElem?_eq_getElem hj] at gy
    have gx := Option.some.inj gx
    have gy := Option.some.inj gy
    rw [List.getElem_map, List.getElem_map, gx, gy]; exact e
end
noncomputable def rk2 : List Int -> Nat
  | x :: y :: _ => x.toNat * 1048576 + y.toNat
  | _ => 0
theorem rk_lt1 {a b c d : Nat} (h : b < 1048576) (hac : a < c) : a * 1048576 + b < c * 1048576 + d :=
  Nat.lt_of_lt_of_le (Nat.add_lt_add_left h _) (by rw [<- Nat.succ_mul]; exact Nat.le_trans (Nat.mul_le_mul_right _ hac) (Nat.le_add_right _ _))
theorem lex2 {x1 x2 y1 y2 : Nat} {r s : List Int} (hx : x2 < 1048576) (hy : y2 < 1048576) (hne : x1 = y1 -> x2 = y2 -> lex r s = false) : lex ((x1 : Int) :: (x2 : Int) :: r) ((y1 : Int) :: (y2 : Int) :: s) = decide (x1 * 1048576 + x2 < y1 * 1048576 + y2) := by
  show (if (x1 : Int) = y1 then (if (x2 : Int) = y2 then lex r s else decide ((x2 : Int) < y2)) else decide ((x1 : Int) < y1)) = _
  by_cases h1 : x1 = y1
  . subst h1
    rw [if_pos rfl]
    by_cases h2 : x2 = y2
    . subst h2; rw [if_pos rfl, hne rfl rfl]; exact (decide_eq_false (Nat.lt_irrefl _)).symm
    . rw [if_neg (λ q : (x2 : Int) = y2 => h2 (Int.ofNat.inj q))]; exact decide_eq_decide.mpr ⟨λ h => Nat.add_lt_add_left (Int.ofNat_lt.mp h) _, λ h => Int.ofNat_lt.mpr (Nat.lt_of_add_lt_add_left h)⟩
  . rw [if_neg (λ q : (x1 : Int) = y1 => h1 (Int.ofNat.inj q))]
    refine decide_eq_decide.mpr ⟨λ h => rk_lt1 hx (Int.ofNat_lt.mp h), λ h => Int.ofNat_lt.mpr (Nat.lt_of_not_le λ q => ?_)⟩
    exact absurd h (Nat.not_lt_of_le (Nat.le_of_lt (rk_lt1 hy (Nat.lt_of_le_of_ne q (Ne.symm h1)))))
theorem lex_prow {x y : Nat × Nat} (hx : x.2 < 1048576) (hy : y.2 < 1048576) : lex (jA x) (jA y) = decide (rk2 (jA x) < rk2 (jA y)) := lex2 hx hy λ o_ o_ => rfl
theorem lex_brow {x y : qA} (hx : x.2.1 < 1048576) (hy : y.2.1 < 1048576) (hi : rk2 (qJ x) = rk2 (qJ y) -> x = y) : lex (qJ x) (qJ y) = decide (rk2 (qJ x) < rk2 (qJ y)) :=
  lex2 hx hy λ q1 q2 => by
    have e := hi (by show x.1 * 1048576 + x.2.1 = y.1 * 1048576 + y.2.1; rw [q1, q2])
    subst e; exact if_pos rfl
theorem rk_ltP {x y : Nat × Nat} (hx : x.2 < 1048576) (h : ltP x y) : rk2 (jA x) < rk2 (jA y) := by
  rcases h with h | h
  . exact rk_lt1 hx h
  . show x.1 * 1048576 + x.2 < y.1 * 1048576 + y.2
    rw [h.1]; exact Nat.add_lt_add_left h.2 _
theorem rk_before {x y : qA} (hx : x.2.1 < 1048576) (h0 : 0 < x.2.2) (h : Before x y) : rk2 (qJ x) < rk2 (qJ y) := rk_lt1 hx (Nat.lt_of_lt_of_le (Nat.lt_add_of_pos_right h0) h.1)
theorem pairs_bound {T : List qA} {la lb : Nat} (h : ∀ x ∈ T, 0 < x.2.2 /\ x.1 + x.2.2 <= la /\ x.2.1 + x.2.2 <= lb) : ∀ p ∈ T.flatMap pairsOf, p.1 < la /\ p.2 < lb := λ p hp => by
  obtain ⟨x, hx, hp⟩ := List.mem_flatMap.mp hp
  obtain ⟨k, hk, rfl⟩ := mem_pairsOf hp
  have := h x hx
  exact ⟨Nat.lt_of_lt_of_le (Nat.add_lt_add_left hk _) this.2.1, Nat.lt_of_lt_of_le (Nat.add_lt_add_left hk _) this.2.2⟩
theorem apStep_len (o : List qA) (p : Nat × Nat) : (qD o p).length <= o.length + 1 := by
  unfold qD
  split
  . split
    . rw [List.length_append, List.length_dropLast]; simp
    . simp
  . simp
theorem ap_len : ∀ (l : List (Nat × Nat)) (o : List qA), (l.foldl qD o).length <= o.length + l.length
  | [], o => Nat.le_refl _
  | p :: l, o => by
    have h1 := ap_len l (qD o p)
    have h2 := apStep_len o p
    rw [List.foldl_cons, List.length_cons]; ac_nf
theorem apStep_new {o : List qA} {y : qA} {p : Nat × Nat} (h : ¬ (y.1 + y.2.2 = p.1 /\ y.2.1 + y.2.2 = p.2)) : qD (o ++ [y]) p = o ++ [y] ++ [(p.1, p.2, 1)] := by
  unfold qD
  rw [List.getLast?_append]
  simp only [List.getLast?_singleton, Option.some_or]
  rw [if_neg h]
theorem take_fold (Tl : List (Nat × Nat)) {k : Nat} {x : Nat × Nat} (h : Tl[k]? = some x) : (Tl.take (k + 1)).foldl qD [] = qD ((Tl.take k).foldl qD []) x := by
  rw [List.take_add_one, h, List.foldl_append]; rfl
end
section
open PySem.W.X
structure Refs (H : AH) (vs : List Value) (os : List AO) : Prop where
  len : vs.length = os.length
  ref : ∀ (i : Nat) (o : AO), os[i]? = some o -> ∃ a, vs[i]? = some (Value.ref a) /\ H a = some o
theorem Refs.ext {H H' : AH} {vs : List Value} {os : List AO} (h : Refs H vs os) (k : ∀ a o, o ∈ os -> H a = some o -> H' a = some o) : Refs H' vs os :=
  ⟨h.len, λ i o ho => by obtain ⟨a, h1, h2⟩ := h.ref i o ho; exact ⟨a, h1, k _ _ (List.mem_of_getElem? ho) h2⟩⟩
theorem Refs.put {H : AH} {vs : List Value} {os : List AO} {b : Addr} {o' : AO} (h : Refs H vs os) (hb : ∀ o ∈ os, H b ≠ some o) : Refs (zD H b o') vs os :=
  h.ext λ a o ho e => by rw [zE _ (λ q => hb o ho (by rw [<- q]; exact e))]; exact e
theorem Refs.new {H : AH} {vs : List Value} {os : List AO} {b : Addr} {o : AO} (h : Refs H vs os) (hb : H b = none) : Refs (zD H b o) vs os := h.put λ o o_ e => by rw [hb] at e; cases e
theorem Refs.of_ext {H H' : AH} {vs : List Value} {os : List AO} (h : Refs H vs os) (e : zm H H') : Refs H' vs os := h.ext λ a o o_ q => e _ _ q
theorem Refs.nil {H : AH} : Refs H [] [] := ⟨rfl, λ i o h => by simp at h⟩
theorem Refs.append {H : AH} {vs us : List Value} {os os' : List AO} (h : Refs H vs os) (h' : Refs H us os') : Refs H (vs ++ us) (os ++ os') := by
  have hl := h.len
  have hl' := h'.len
  refine ⟨by simp [hl, hl'], λ i o hi => ?_⟩
  by_cases e : i < os.length
  . rw [List.getElem?_append_left e] at hi
    obtain ⟨b, h1, h2⟩ := h.ref i o hi
    exact ⟨b, by rw [List.getElem?_append_left (by ac_nf)]; exact h1, h2⟩
  . rw [List.getElem?_append_right (by ac_nf)] at hi
    obtain ⟨b, h1, h2⟩ := h'.ref _ o hi
    exact ⟨b, by rw [List.getElem?_append_right (by ac_nf), hl]; exact h1, h2⟩
theorem Refs.one {H : AH} {a : Addr} {o : AO} (ha : H a = some o) : Refs H [.ref a] [o] := ⟨rfl, λ i o' h => by
  cases i with
  | zero => simp at h; subst h; exact ⟨a, rfl, ha⟩
  | succ i => simp at h⟩
theorem Refs.snoc {H : AH} {vs : List Value} {os : List AO} {a : Addr} {o : AO} (h : Refs H vs os) (ha : H a = some o) : Refs H (vs ++ [.ref a]) (os ++ [o]) := h.append (Refs.one ha)
theorem Refs.get {H : AH} {vs : List Value} {os : List AO} (h : Refs H vs os) {k : Nat} {v : Value} (hv : vs[k]? = some v) : ∃ a o, v = .ref a /\ os[k]? = some o /\ H a = some o := by
  have hk : k < os.length := by
    have := (List.getElem?_eq_some_iff.mp hv).1
    rw [h.len] at this; exact this
  obtain ⟨a, h1, h2⟩ := h.ref k os[k] (List.getElem?_eq_getElem hk)
  rw [hv] at h1
  exact ⟨a, os[k], Option.some.inj h1, List.getElem?_eq_getElem hk, h2⟩
theorem Refs.refs {H : AH} {vs : List Value} {os : List AO} (h : Refs H vs os) : vs = [] \/ ∃ a r, vs = .ref a :: r := by
  cases vs with
  | nil => exact .inl rfl
  | cons v vs =>
    obtain ⟨a, o, h1, _⟩ := h.get (k := 0) (v := v) rfl
    exact .inr ⟨a, vs, by rw [h1]⟩
def NoRefs : AO -> Prop
  | .list vs => ∃ v r, vs = v :: r /\ ∀ a, v ≠ .ref a
  | _ => True
theorem Refs.turn {H : AH} {vs us : List Value} {os : List AO} {b : Addr} {o : AO} (h : Refs H vs os) (hb : H b = some (.list us)) (hu : us = [] \/ ∃ a r, us = .ref a :: r) (hn : ∀ o ∈ os, NoRefs o) : Refs (zD H b o) vs os := h.put λ o' ho e => by
  rw [hb] at e
  have e := Option.some.inj e
  have := hn o' ho
  rw [<- e] at this
  obtain ⟨v, r, rfl, hv⟩ := this
  rcases hu with q | ⟨a, r, q⟩
  . cases q
  . exact hv a (List.cons.inj q).1
theorem Refs.cell {H : AH} {vs : List Value} {os : List AO} {b : Addr} {o : AO} {v : Option Value} (h : Refs H vs os) (hb : H b = some (.cell v)) (hn : ∀ o ∈ os, ∀ w, o ≠ .cell w) : Refs (zD H b o) vs os := h.put λ o' ho e => by
  rw [hb] at e; exact hn o' ho v (Option.some.inj e).symm
section
variable {X : Wd} {A : Around} {L : Addr} {S : St} {env : Env} {C : Cx} {s : Shared}
theorem call_lenStr {x : Str} {Φ : Value -> St -> Prop} (hn : x.cps.size < 2 ^ 62) (h : Φ (.int x.cps.size 0) S) : zO X A L (.builtin "len") [.str x 0] S Φ := λ cs hcs C s hB R => by
  obtain ⟨c, rfl, hc⟩ := yX hcs
  obtain ⟨t, rfl⟩ := zf hc
  have hfit : ¬ (x.length : Int) >= 2 ^ 63 := by have : x.length = x.cps.size := rfl; ac_nf
  exact PySem.P.len_str hfit ⟨S, R.tok _, h⟩
end
end
section
open PySem.W.X
abbrev qx := Nat × Nat × Str
abbrev qf := Str × Bool
noncomputable def qQ (d : qx) : AO := .list [.int d.1 0, .int d.2.1 0, .str d.2.2 0]
noncomputable def markO (m : qf) : AO := .list [.str m.1 0, .bool m.2]
noncomputable def keepM (w : Str) (m : qf) : Bool := takeS m.1 w.cps.size != w
noncomputable def zl (ms : List qf) (d : qx) : List qf := if d.1 < 5 then ms ++ [(d.2.2, (d.1 : Int) == 4)] else if d.2.1 = 1 then ms.filter (keepM d.2.2) else ms
noncomputable def zg (ds : List qx) : List qf := ds.foldl zl []
noncomputable def jX (w : Str) (m : qf) : Bool := m.1 == w || (m.2 && takeS w m.1.cps.size == m.1)
noncomputable def zn : List Str := ["a", "b", "ab", "aba", "ba"]
noncomputable def qC (ms : List qf) : List Str := zn.flatMap λ w => (ms.filter (jX w)).map λ o_ => w
theorem deedO_no (ds : List qx) : ∀ o ∈ ds.map qQ, NoRefs o := λ o ho => by
  obtain ⟨d, _, rfl⟩ := List.mem_map.mp ho
  exact ⟨_, _, rfl, λ a => by simp⟩
theorem markO_no (ms : List qf) : ∀ o ∈ ms.map markO, NoRefs o := λ o ho => by
  obtain ⟨d, _, rfl⟩ := List.mem_map.mp ho
  exact ⟨_, _, rfl, λ a => by simp⟩
theorem deedO_cell (ds : List qx) : ∀ o ∈ ds.map qQ, ∀ w, o ≠ .cell w := λ o ho w e => by
  obtain ⟨d, _, rfl⟩ := List.mem_map.mp ho; cases e
theorem markO_cell (ms : List qf) : ∀ o ∈ ms.map markO, ∀ w, o ≠ .cell w := λ o ho w e => by
  obtain ⟨d, _, rfl⟩ := List.mem_map.mp ho; cases e
theorem markStep_len (ms : List qf) (d : qx) : (zl ms d).length <= ms.length + 1 := by
  unfold zl
  split
  . simp
  . split
    . exact Nat.le_succ_of_le (List.length_filter_le _ _)
    . ac_nf
theorem marks_len : ∀ (ds : List qx) (ms : List qf), (ds.foldl zl ms).length <= ms.length + ds.length
  | [], ms => Nat.le_refl _
  | d :: ds, ms => by
    have h1 := marks_len ds (zl ms d)
    have h2 := markStep_len ms d
    rw [List.foldl_cons, List.length_cons]; ac_nf
theorem take_marks (ds : List qx) {k : Nat} {x : qx} (h : ds[k]? = some x) : (ds.take (k + 1)).foldl zl [] = zl ((ds.take k).foldl zl []) x := by
  rw [List.take_add_one, h, List.foldl_append]; rfl
theorem marks_w {b : Nat} : ∀ {ds : List qx} {ms : List qf}, (∀ d ∈ ds, d.2.2.cps.size <= b) -> (∀ q ∈ ms, q.1.cps.size <= b) -> ∀ q ∈ ds.foldl zl ms, q.1.cps.size <= b
  | [], ms, _, h => h
  | d :: ds, ms, hw, h => by
    refine marks_w (ds := ds) (λ x hx => hw x (List.mem_cons_of_mem _ hx)) λ q hq => ?_
    unfold zl at hq
    split at hq
    . rcases List.mem_append.mp hq with hq | hq
      . exact h q hq
      . rw [List.mem_singleton.mp hq]; exact hw d List.mem_cons_self
    . split at hq
      . exact h q (List.mem_filter.mp hq).1
      . exact h q hq
theorem takeJ {k : Nat} {w : Str} (ms : List qf) (h : zn[k]? = some w) : (zn.take (k + 1)).flatMap (λ w => (ms.filter (jX w)).map λ o_ => w) = (zn.take k).flatMap (λ w => (ms.filter (jX w)).map λ o_ => w) ++ (ms.filter (jX w)).map λ o_ => w := by
  rw [List.take_add_one, h, List.flatMap_append]; simp
theorem junk_few (ms : List qf) : ∀ ws : List Str, (ws.flatMap λ w => (ms.filter (jX w)).map λ o_ => w).length <= ws.length * ms.length
  | [] => by simp
  | w :: ws => by
    have := junk_few ms ws
    have h1 := List.length_filter_le (jX w) ms
    rw [List.flatMap_cons, List.length_append, List.length_map, List.length_cons, Nat.succ_mul]
    ac_nf
end
section
open PySem.W.X
noncomputable def yk : List Str := ["a", "b", "ab", "aba", "", "ba"]
structure DeedOk (d : qx) : Prop where
  kind : d.1 = 3 \/ d.1 = 4 \/ d.1 = 5
  bit : d.2.1 <= 1
  way : d.2.2 ∈ zn
structure SeqOk (l : List Str) : Prop where
  len : l.length <= 7
  way : ∀ w ∈ l, w ∈ yk
structure DeedsOk (l : List qx) (n : Nat) : Prop where
  len : l.length <= n
  ok : ∀ d ∈ l, DeedOk d
theorem SeqOk.snoc {l : List Str} {w : Str} (h : SeqOk l) (hl : l.length < 7) (hw : w ∈ yk) : SeqOk (l ++ [w]) :=
  ⟨by rw [List.length_append, List.length_singleton]; ac_nf, λ x hx => by
    rcases List.mem_append.mp hx with hx | hx
    . exact h.way x hx
    . rw [List.mem_singleton.mp hx]; exact hw⟩
theorem DeedsOk.snoc {l : List qx} {n : Nat} {d : qx} (h : DeedsOk l n) (hd : DeedOk d) : DeedsOk (l ++ [d]) (n + 1) :=
  ⟨by have := h.len; rw [List.length_append, List.length_singleton]; ac_nf, λ x hx => by
    rcases List.mem_append.mp hx with hx | hx
    . exact h.ok x hx
    . rw [List.mem_singleton.mp hx]; exact hd⟩
theorem DeedsOk.more {l : List qx} {n : Nat} (h : DeedsOk l n) : DeedsOk l (n + 1) := ⟨Nat.le_succ_of_le h.len, h.ok⟩
theorem way_small {w : Str} (h : w ∈ yk) : w.cps.size <= 64 := by
  simp only [yk, List.mem_cons, List.not_mem_nil, or_false] at h
  rcases h with rfl | rfl | rfl | rfl | rfl | rfl <;> decide
theorem way_small' {w : Str} (h : w ∈ zn) : w.cps.size <= 64 := by
  simp only [zn, List.mem_cons, List.not_mem_nil, or_false] at h
  rcases h with rfl | rfl | rfl | rfl | rfl <;> decide
theorem way_not_nil {w : Str} (h : w ∈ yk) (hn : w ≠ "") : w ∈ zn := by
  simp only [yk, zn, List.mem_cons, List.not_mem_nil, or_false] at h ⊢
  rcases h with rfl | rfl | rfl | rfl | rfl | rfl <;> first | exact absurd rfl hn | simp
theorem ways6_get {k : Int} (h0 : 0 <= k) (h1 : k < 6) : ∃ w, w ∈ yk /\ (zZ yk)[k.toNat]? = some (.str w 0) := by
  have hk : k.toNat < yk.length := by show k.toNat < 6; ac_nf
  refine ⟨yk[k.toNat], List.getElem_mem hk, ?_⟩
  rw [zZ, List.getElem?_map, List.getElem?_eq_getElem hk]; rfl
theorem fmod6 (u : Int) {n : Int} (hn : 0 < n) : 0 <= u.fmod n /\ u.fmod n < n := ⟨Int.fmod_nonneg_of_pos u hn, Int.fmod_lt_of_pos u hn⟩
theorem deed_str {ds : List qx} {xs : List Str} : ∀ o ∈ ds.map qQ, (some (AO.list (zZ xs))) ≠ some o := λ o ho e => by
  obtain ⟨q, _, rfl⟩ := List.mem_map.mp ho
  have e : AO.list (zZ xs) = .list [.int q.1 0, .int q.2.1 0, .str q.2.2 0] := Option.some.inj e
  match xs, e with
  | [], e => simp [zZ] at e
  | _ :: _, e => simp [zZ] at e
end
section
open PySem.W.X
theorem valueAt_stored {kvs : List (Str × Value)} {k x : Str} {v : Value} : valueAt (stored kvs k v) x = if x = k then some v else valueAt kvs x := by
  unfold stored
  by_cases h : kvs.any (λ kv => decide (kv.1 = k)) = true
  . rw [if_pos h]
    induction kvs with
    | nil => simp at h
    | cons p kvs ih =>
      unfold valueAt at ih ⊢
      rw [List.map_cons, List.find?_cons, List.find?_cons]
      by_cases hp : p.1 = k
      . rw [if_pos hp]
        by_cases hx : x = k
        . rw [if_pos hx, decide_eq_true (show p.1 = x by rw [hp, hx])]; rfl
        . rw [if_neg hx, decide_eq_false (show ¬ p.1 = x by rw [hp]; exact Ne.symm hx)]
          by_cases h2 : kvs.any (λ kv => decide (kv.1 = k)) = true
          . have := ih h2; rw [if_neg hx] at this; exact this
          . have e : kvs.map (λ kv => if kv.1 = k then (kv.1, v) else kv) = kvs := by
              have : ∀ kv ∈ kvs, (if kv.1 = k then (kv.1, v) else kv) = kv := λ kv hk => by
                rw [if_neg]; intro q; exact h2 (List.any_eq_true.mpr ⟨kv, hk, decide_eq_true q⟩)
              rw [List.map_congr_left this]; simp
            rw [e]
      . rw [if_neg hp]
        have h2 : kvs.any (λ kv => decide (kv.1 = k)) = true := by
          rw [List.any_cons, decide_eq_false hp, Bool.false_or] at h; exact h
        have ih := ih h2
        by_cases hpx : p.1 = x
        . rw [decide_eq_true hpx]
          have : x ≠ k := λ q => hp (hpx.trans q)
          rw [if_neg this]
        . rw [decide_eq_false hpx]; exact ih
  . rw [if_neg h]
    unfold valueAt
    rw [List.find?_append]
    by_cases hx : x = k
    . subst hx
      rw [if_pos rfl]
      have : kvs.find? (λ kv => decide (kv.1 = x)) = none := by
        rw [List.find?_eq_none]; intro kv hk hq; exact h (List.any_eq_true.mpr ⟨kv, hk, hq⟩)
      rw [this]; simp
    . rw [if_neg hx]
      have : ([(k, v)] : List (Str × Value)).find? (λ kv => decide (kv.1 = x)) = none := by
        simp [Ne.symm hx]
      rw [this, Option.or_none]
theorem valueAt_without {kvs : List (Str × Value)} {k x : Str} : valueAt (without kvs k) x = if x = k then none else valueAt kvs x := by
  unfold without valueAt
  induction kvs with
  | nil => simp
  | cons p kvs ih =>
    by_cases hp : p.1 = k
    . rw [List.filter_cons_of_neg (by simp [hp]), ih]
      by_cases hx : x = k
      . rw [if_pos hx, if_pos hx]
      . rw [if_neg hx, if_neg hx, List.find?_cons, decide_eq_false (show ¬ p.1 = x by rw [hp]; exact Ne.symm hx)]
    . rw [List.filter_cons_of_pos (by simp [hp]), List.find?_cons, List.find?_cons]
      by_cases hpx : p.1 = x
      . rw [decide_eq_true hpx]
        have : x ≠ k := λ q => hp (hpx.trans q)
        rw [if_neg this]
      . rw [decide_eq_false hpx]; exact ih
abbrev zc := List Str
structure Trie (H : AH) (A : zc -> Nat -> Option Addr) (F : zc -> List Int × List Int) (N : Nat) : Prop where
  top : A [] 0 = none
  inj : ∀ p i q j a, A p i = some a -> A q j = some a -> p = q /\ i = j
  lt : ∀ p i a, A p i = some a -> i < 4
  full : ∀ p i a, A p i = some a -> (p = [] /\ i = 3) \/ ∃ n, A p 0 = some n
  up : ∀ p k n, A (p ++ [k]) 0 = some n -> p = [] \/ ∃ n', A p 0 = some n'
  nest : ∀ p e, A p 3 = some e -> ∃ kvs, H e = some (.sdict kvs) /\ kvs.length <= N /\ ∀ k, valueAt kvs k = (A (p ++ [k]) 0).map Value.ref
  node : ∀ p n, A p 0 = some n -> ∃ f c e, A p 1 = some f /\ A p 2 = some c /\ A p 3 = some e /\ H n = some (.sdict [("flags", .ref f), ("recursive_flags", .ref c), ("nested", .ref e)]) /\ H f = some (.iset (F p).1) /\ H c = some (.iset (F p).2)
  gone : ∀ p, A p 0 = none -> F p = ([], [])
  few : ∀ p, (F p).1.length <= N /\ (F p).2.length <= N
section
variable {H H' : AH} {A : zc -> Nat -> Option Addr} {F : zc -> List Int × List Int} {N : Nat}
theorem Trie.at_ (T : Trie H A F N) {p : zc} {i : Nat} {a : Addr} (hi : i < 4) (h : A p i = some a) : ∃ o, H a = some o := by
  by_cases h3 : i = 3
  . subst h3; obtain ⟨kvs, h1, _⟩ := T.nest p a h; exact ⟨_, h1⟩
  . rcases T.full p i a h with ⟨_, q⟩ | ⟨n, hn⟩
    . exact absurd q h3
    . obtain ⟨f, c, e, h1, h2, _, g0, g1, g2⟩ := T.node p n hn
      have : i = 0 \/ i = 1 \/ i = 2 := by ac_nf
      rcases this with rfl | rfl | rfl
      . rw [hn] at h; cases h; exact ⟨_, g0⟩
      . rw [h1] at h; cases h; exact ⟨_, g1⟩
      . rw [h2] at h; cases h; exact ⟨_, g2⟩
theorem Trie.keep (T : Trie H A F N) (h : ∀ p i a, i < 4 -> A p i = some a -> H' a = H a) : Trie H' A F N := by
  refine ⟨T.top, T.inj, T.lt, T.full, T.up, λ p e he => ?_, λ p n hn => ?_, T.gone, T.few⟩
  . rw [h p 3 e (by ac_nf) he]; exact T.nest p e he
  . obtain ⟨f, c, e, h1, h2, h3, g0, g1, g2⟩ := T.node p n hn
    exact ⟨f, c, e, h1, h2, h3, by rw [h p 0 n (by ac_nf) hn]; exact g0, by rw [h p 1 f (by ac_nf) h1]; exact g1, by rw [h p 2 c (by ac_nf) h2]; exact g2⟩
theorem Trie.of_ext (T : Trie H A F N) (e : zm H H') : Trie H' A F N := T.keep λ p i a hi h => by
  obtain ⟨o, ho⟩ := T.at_ hi h
  rw [ho]; exact e _ _ ho
theorem Trie.more (T : Trie H A F N) {M : Nat} (h : N <= M) : Trie H A F M :=
  ⟨T.top, T.inj, T.lt, T.full, T.up, λ p e he => by obtain ⟨kvs, h1, h2, h3⟩ := T.nest p e he; exact ⟨kvs, h1, Nat.le_trans h2 h, h3⟩, T.node, T.gone, λ p => ⟨Nat.le_trans (T.few p).1 h, Nat.le_trans (T.few p).2 h⟩⟩
theorem Trie.upto (T : Trie H A F N) (r p : zc) (n : Addr) (hp : p ≠ []) : A (p ++ r) 0 = some n -> ∃ n', A p 0 = some n' := by
  have go : ∀ (m : Nat) (r : zc) (n : Addr), r.length = m -> A (p ++ r) 0 = some n -> ∃ n', A p 0 = some n' := by
    intro m
    induction m with
    | zero =>
      intro r n hr h
      rw [List.length_eq_zero_iff.mp hr, List.append_nil] at h; exact ⟨n, h⟩
    | succ m ih =>
      intro r n hr h
      rcases List.eq_nil_or_concat r with rfl | ⟨r, x, rfl⟩
      . simp at hr
      . rw [List.concat_eq_append] at hr h
        rw [<- List.append_assoc] at h
        rcases T.up _ _ _ h with q | ⟨n', h'⟩
        . exact absurd (List.append_eq_nil_iff.mp q).1 hp
        . exact ih r n' (by simpa using hr) h'
  exact go _ r n rfl
noncomputable def yH (A : zc -> Nat -> Option Addr) (q : zc) (n f c e : Addr) : zc -> Nat -> Option Addr := λ p i => if p = q then [n, f, c, e][i]? else A p i
theorem Trie.grow (T : Trie H A F N) {p : zc} {k : Str} {ct n f c e : Addr} {kvs : List (Str × Value)} (hct : A p 3 = some ct) (hk : H ct = some (.sdict kvs)) (hl : kvs.length <= N) (hkv : ∀ x, valueAt kvs x = (A (p ++ [x]) 0).map Value.ref) (hno : A (p ++ [k]) 0 = none)
    (hn : H n = none) (hf : H f = none) (hc : H c = none) (he : H e = none) (d1 : n ≠ f) (d2 : n ≠ c) (d3 : n ≠ e) (d4 : f ≠ c) (d5 : f ≠ e) (d6 : c ≠ e)
    (g : ∀ a, a ≠ n -> a ≠ f -> a ≠ c -> a ≠ e -> a ≠ ct -> H' a = H a) (gn : H' n = some (.sdict [("flags", .ref f), ("recursive_flags", .ref c), ("nested", .ref e)])) (gf : H' f = some (.iset [])) (gc : H' c = some (.iset [])) (ge : H' e = some (.sdict [])) (gct : H' ct = some (.sdict (stored kvs k (.ref n)))) :
    Trie H' (yH A (p ++ [k]) n f c e) F (N + 1) := by
  have old : ∀ q i a, i < 4 -> A q i = some a -> a ≠ n /\ a ≠ f /\ a ≠ c /\ a ≠ e := λ q i a hi h => by
    obtain ⟨o, ho⟩ := T.at_ hi h
    refine ⟨λ z => ?_, λ z => ?_, λ z => ?_, λ z => ?_⟩
    . rw [z, hn] at ho; cases ho
    . rw [z, hf] at ho; cases ho
    . rw [z, hc] at ho; cases ho
    . rw [z, he] at ho; cases ho
  have noq : ∀ i, A (p ++ [k]) i = none := λ i => by
    cases h : A (p ++ [k]) i with
    | none => rfl
    | some a =>
      rcases T.full _ _ _ h with ⟨q, _⟩ | ⟨n', q⟩
      . simp at q
      . rw [hno] at q; cases q
  have nodeep : ∀ x, A (p ++ [k] ++ [x]) 0 = none := λ x => by
    cases h : A (p ++ [k] ++ [x]) 0 with
    | none => rfl
    | some a =>
      rcases T.up _ _ _ h with q | ⟨n', q⟩
      . simp at q
      . rw [hno] at q; cases q
  have newL : ∀ i a, [n, f, c, e][i]? = some a -> (a = n /\ i = 0) \/ (a = f /\ i = 1) \/ (a = c /\ i = 2) \/ (a = e /\ i = 3) := λ i a h => by
    match i, h with
    | 0, h => exact .inl ⟨(Option.some.inj h).symm, rfl⟩
    | 1, h => exact .inr (.inl ⟨(Option.some.inj h).symm, rfl⟩)
    | 2, h => exact .inr (.inr (.inl ⟨(Option.some.inj h).symm, rfl⟩))
    | 3, h => exact .inr (.inr (.inr ⟨(Option.some.inj h).symm, rfl⟩))
    | i + 4, h => simp at h
  have hpk : p ++ [k] ≠ [] := by simp
  have hpp : p ≠ p ++ [k] := λ q => by have := congrArg List.length q; simp at this
  have sN : ∀ i, yH A (p ++ [k]) n f c e (p ++ [k]) i = [n, f, c, e][i]? := λ i => if_pos rfl
  have sO : ∀ {q} i, q ≠ p ++ [k] -> yH A (p ++ [k]) n f c e q i = A q i := λ i h => if_neg h
  refine ⟨?_, λ q1 i q2 j a h1 h2 => ?_, λ q i a h => ?_, λ q i a h => ?_, λ q x m h => ?_, λ q e' h => ?_, λ q m h => ?_, λ q h => ?_, λ q => ⟨Nat.le_succ_of_le (T.few q).1, Nat.le_succ_of_le (T.few q).2⟩⟩
  . rw [sO 0 (Ne.symm hpk)]; exact T.top
  . by_cases e1 : q1 = p ++ [k]
    . subst e1
      rw [sN] at h1
      by_cases e2 : q2 = p ++ [k]
      . subst e2
        rw [sN] at h2
        refine ⟨rfl, ?_⟩
        rcases newL i a h1 with ⟨r1, r2⟩ | ⟨r1, r2⟩ | ⟨r1, r2⟩ | ⟨r1, r2⟩ <;> rcases newL j a h2 with ⟨t1, t2⟩ | ⟨t1, t2⟩ | ⟨t1, t2⟩ | ⟨t1, t2⟩ <;> first
          | exact r2.trans t2.symm
          | exact absurd (r1.symm.trans t1) d1
          | exact absurd (r1.symm.trans t1) d2
          | exact absurd (r1.symm.trans t1) d3
          | exact absurd (r1.symm.trans t1) d4
          | exact absurd (r1.symm.trans t1) d5
          | exact absurd (r1.symm.trans t1) d6
          | exact absurd (t1.symm.trans r1) d1
          | exact absurd (t1.symm.trans r1) d2
          | exact absurd (t1.symm.trans r1) d3
          | exact absurd (t1.symm.trans r1) d4
          | exact absurd (t1.symm.trans r1) d5
          | exact absurd (t1.symm.trans r1) d6
      . rw [sO j e2] at h2
        have := old q2 j a (T.lt _ _ _ h2) h2
        rcases newL i a h1 with ⟨r1, r2⟩ | ⟨r1, r2⟩ | ⟨r1, r2⟩ | ⟨r1, r2⟩
        . exact absurd r1 this.1
        . exact absurd r1 this.2.1
        . exact absurd r1 this.2.2.1
        . exact absurd r1 this.2.2.2
    . rw [sO i e1] at h1
      by_cases e2 : q2 = p ++ [k]
      . subst e2
        rw [sN] at h2
        have := old q1 i a (T.lt _ _ _ h1) h1
        rcases newL j a h2 with ⟨r1, r2⟩ | ⟨r1, r2⟩ | ⟨r1, r2⟩ | ⟨r1, r2⟩
        . exact absurd r1 this.1
        . exact absurd r1 this.2.1
        . exact absurd r1 this.2.2.1
        . exact absurd r1 this.2.2.2
      . rw [sO j e2] at h2
        exact T.inj _ _ _ _ _ h1 h2
  . by_cases e1 : q = p ++ [k]
    . subst e1
      rw [sN] at h
      rcases newL i a h with ⟨_, r2⟩ | ⟨_, r2⟩ | ⟨_, r2⟩ | ⟨_, r2⟩ <;> ac_nf
    . rw [sO i e1] at h; exact T.lt _ _ _ h
  . by_cases e1 : q = p ++ [k]
    . subst e1
      exact .inr ⟨n, by rw [sN]; rfl⟩
    . rw [sO i e1] at h
      rw [sO 0 e1]; exact T.full _ _ _ h
  . by_cases e1 : q ++ [x] = p ++ [k]
    . have e2 := (List.append_inj' e1 rfl).1
      subst e2
      rcases List.eq_nil_or_concat q with rfl | ⟨q', y, rfl⟩
      . exact .inl rfl
      . right
        rw [sO 0 hpp]
        rcases T.full _ _ _ hct with ⟨z, _⟩ | z
        . rw [List.concat_eq_append] at z; simp at z
        . exact z
    . rw [sO 0 e1] at h
      rcases T.up _ _ _ h with z | ⟨m', hm⟩
      . exact .inl z
      . right
        by_cases e2 : q = p ++ [k]
        . subst e2; rw [hno] at hm; cases hm
        . exact ⟨m', by rw [sO 0 e2]; exact hm⟩
  . by_cases e1 : q = p ++ [k]
    . subst e1
      rw [sN] at h
      have : e' = e := (Option.some.inj h).symm
      subst this
      refine ⟨[], ge, Nat.zero_le _, λ x => ?_⟩
      rw [sO (q := p ++ [k] ++ [x]) 0 (λ z => by have := congrArg List.length z; simp at this), nodeep x]; rfl
    . rw [sO 3 e1] at h
      by_cases e2 : q = p
      . subst e2
        rw [hct] at h
        have : e' = ct := (Option.some.inj h).symm
        subst this
        refine ⟨_, gct, Nat.le_trans (stored_length_le _ _ _) (Nat.succ_le_succ hl), λ x => ?_⟩
        rw [valueAt_stored]
        by_cases hx : x = k
        . subst hx; rw [if_pos rfl, sN]; rfl
        . rw [if_neg hx, sO (q := q ++ [x]) 0 (λ z => hx (List.singleton_inj.mp (List.append_inj' z rfl).2))]; exact hkv x
      . obtain ⟨kvs', h1, h2, h3⟩ := T.nest q e' h
        have ho := old q 3 e' (by ac_nf) h
        have hne : e' ≠ ct := λ z => e2 (T.inj _ _ _ _ _ h (by rw [z]; exact hct)).1
        refine ⟨kvs', by rw [g e' ho.1 ho.2.1 ho.2.2.1 ho.2.2.2 hne]; exact h1, Nat.le_succ_of_le h2, λ x => ?_⟩
        rw [sO (q := q ++ [x]) 0 (λ z => e2 (List.append_inj' z rfl).1)]; exact h3 x
  . by_cases e1 : q = p ++ [k]
    . subst e1
      rw [sN] at h
      have : m = n := (Option.some.inj h).symm
      subst this
      refine ⟨f, c, e, by rw [sN]; rfl, by rw [sN]; rfl, by rw [sN]; rfl, gn, ?_, ?_⟩
      . rw [T.gone _ hno]; exact gf
      . rw [T.gone _ hno]; exact gc
    . rw [sO 0 e1] at h
      obtain ⟨f', c', e', h1, h2, h3, g0, g1, g2⟩ := T.node q m h
      have keepA : ∀ i a, i < 3 -> A q i = some a -> H' a = H a := λ i a hi ha => by
        have ho := old q i a (by ac_nf) ha
        exact g a ho.1 ho.2.1 ho.2.2.1 ho.2.2.2 λ z => by
          have := (T.inj _ _ _ _ _ ha (by rw [z]; exact hct)).2; ac_nf
      exact ⟨f', c', e', by rw [sO 1 e1]; exact h1, by rw [sO 2 e1]; exact h2, by rw [sO 3 e1]; exact h3, by rw [keepA 0 m (by ac_nf) h]; exact g0, by rw [keepA 1 f' (by ac_nf) h1]; exact g1, by rw [keepA 2 c' (by ac_nf) h2]; exact g2⟩
  . by_cases e1 : q = p ++ [k]
    . subst e1; rw [sN] at h; cases h
    . rw [sO 0 e1] at h; exact T.gone q h
noncomputable def yO (F : zc -> List Int × List Int) (q : zc) (v : List Int × List Int) : zc -> List Int × List Int := λ p => if p = q then v else F p
theorem Trie.put (T : Trie H A F N) {q : zc} {i : Nat} {a : Addr} {l : List Int} (hi : i = 1 \/ i = 2) (ha : A q i = some a) (hl : l.length <= N + 1) :
    Trie (zD H a (.iset l)) A (yO F q (if i = 1 then (l, (F q).2) else ((F q).1, l))) (N + 1) := by
  have oth : ∀ p j b, A p j = some b -> ¬ (p = q /\ j = i) -> zD H a (.iset l) b = H b := λ p j b hb hn => zE _ λ z => hn (T.inj _ _ _ _ _ hb (by rw [z]; exact ha))
  refine ⟨T.top, T.inj, T.lt, T.full, T.up, λ p e he => ?_, λ p n hn => ?_, λ p hp => ?_, λ p => ?_⟩
  . obtain ⟨kvs, h1, h2, h3⟩ := T.nest p e he
    exact ⟨kvs, by rw [oth p 3 e he (by rintro ⟨_, z⟩; ac_nf)]; exact h1, Nat.le_succ_of_le h2, h3⟩
  . obtain ⟨f, c, e, h1, h2, h3, g0, g1, g2⟩ := T.node p n hn
    refine ⟨f, c, e, h1, h2, h3, by rw [oth p 0 n hn (by rintro ⟨_, z⟩; ac_nf)]; exact g0, ?_, ?_⟩
    . by_cases hp : p = q
      . subst hp
        rcases hi with rfl | rfl
        . rw [h1] at ha; cases ha
          rw [show yO F p (if 1 = 1 then (l, (F p).2) else ((F p).1, l)) p = (l, (F p).2) from if_pos rfl]; exact zA
        . rw [oth p 1 f h1 (by rintro ⟨_, z⟩; ac_nf), show yO F p (if 2 = 1 then (l, (F p).2) else ((F p).1, l)) p = ((F p).1, l) from if_pos rfl]; exact g1
      . rw [oth p 1 f h1 (λ z => hp z.1), show yO F q _ p = F p from if_neg hp]; exact g1
    . by_cases hp : p = q
      . subst hp
        rcases hi with rfl | rfl
        . rw [oth p 2 c h2 (by rintro ⟨_, z⟩; ac_nf), show yO F p (if 1 = 1 then (l, (F p).2) else ((F p).1, l)) p = (l, (F p).2) from if_pos rfl]; exact g2
        . rw [h2] at ha; cases ha
          rw [show yO F p (if 2 = 1 then (l, (F p).2) else ((F p).1, l)) p = ((F p).1, l) from if_pos rfl]; exact zA
      . rw [oth p 2 c h2 (λ z => hp z.1), show yO F q _ p = F p from if_neg hp]; exact g2
  . have hp' : p ≠ q := λ z => by
      subst z
      rcases T.full _ _ _ ha with ⟨z, z'⟩ | ⟨n, z⟩
      . ac_nf
      . rw [hp] at z; cases z
    rw [show yO F q _ p = F p from if_neg hp']; exact T.gone p hp
  . have h1 := T.few p
    have h2 := T.few q
    unfold yO
    by_cases hp : p = q
    . rw [if_pos hp]
      split
      . exact ⟨hl, Nat.le_succ_of_le h2.2⟩
      . exact ⟨Nat.le_succ_of_le h2.1, hl⟩
    . rw [if_neg hp]; exact ⟨Nat.le_succ_of_le h1.1, Nat.le_succ_of_le h1.2⟩
noncomputable def cutA (A : zc -> Nat -> Option Addr) (q : zc) : zc -> Nat -> Option Addr := λ p i => if q <+: p then none else A p i
noncomputable def cutF (F : zc -> List Int × List Int) (q : zc) : zc -> List Int × List Int := λ p => if q <+: p then ([], []) else F p
theorem Trie.cut (T : Trie H A F N) {p : zc} {k : Str} {ct : Addr} {kvs : List (Str × Value)} (hct : A p 3 = some ct) (hk : H ct = some (.sdict kvs)) (hl : kvs.length <= N) (hkv : ∀ x, valueAt kvs x = (A (p ++ [x]) 0).map Value.ref) :
    Trie (zD H ct (.sdict (without kvs k))) (cutA A (p ++ [k])) (cutF F (p ++ [k])) N := by
  have npp : ¬ (p ++ [k] <+: p) := λ h => by have := h.length_le; rw [List.length_append, List.length_singleton] at this; exact absurd this (Nat.not_succ_le_self _)
  have cO : ∀ {q} i, ¬ (p ++ [k] <+: q) -> cutA A (p ++ [k]) q i = A q i := λ i h => if_neg h
  have cS : ∀ {q i a}, cutA A (p ++ [k]) q i = some a -> ¬ (p ++ [k] <+: q) /\ A q i = some a := λ {q i a} h => by
    by_cases e : p ++ [k] <+: q
    . rw [show cutA A (p ++ [k]) q i = none from if_pos e] at h; cases h
    . rw [cO i e] at h; exact ⟨e, h⟩
  have oth : ∀ q j b, A q j = some b -> ¬ (q = p /\ j = 3) -> zD H ct (.sdict (without kvs k)) b = H b := λ q j b hb hn => zE _ λ z => hn (T.inj _ _ _ _ _ hb (by rw [z]; exact hct))
  refine ⟨?_, λ q1 i q2 j a h1 h2 => T.inj _ _ _ _ _ (cS h1).2 (cS h2).2, λ q i a h => T.lt _ _ _ (cS h).2, λ q i a h => ?_, λ q x m h => ?_, λ q e h => ?_, λ q n h => ?_, λ q h => ?_, λ q => ?_⟩
  . rw [cO (q := []) 0 (λ h => by have := h.length_le; simp at this)]; exact T.top
  . obtain ⟨c1, c2⟩ := cS h
    rw [cO 0 c1]; exact T.full _ _ _ c2
  . obtain ⟨c1, c2⟩ := cS h
    rcases T.up _ _ _ c2 with z | ⟨n', hn⟩
    . exact .inl z
    . exact .inr ⟨n', by rw [cO 0 (λ z => c1 (z.trans (List.prefix_append _ _)))]; exact hn⟩
  . obtain ⟨c1, c2⟩ := cS h
    by_cases hq : q = p
    . subst hq
      rw [hct] at c2; cases c2
      refine ⟨_, zA, Nat.le_trans (List.length_filter_le _ _) hl, λ x => ?_⟩
      rw [valueAt_without]
      by_cases hx : x = k
      . subst hx
        rw [if_pos rfl, show cutA A (q ++ [x]) (q ++ [x]) 0 = none from if_pos (List.prefix_refl _)]; rfl
      . rw [if_neg hx, cO (q := q ++ [x]) 0 (λ z => ?_)]
        . exact hkv x
        . have := z.eq_of_length (by simp)
          exact hx (List.singleton_inj.mp (List.append_inj' this rfl).2).symm
    . obtain ⟨kvs', h1, h2, h3⟩ := T.nest q e c2
      refine ⟨kvs', by rw [oth q 3 e c2 (λ z => hq z.1)]; exact h1, h2, λ x => ?_⟩
      rw [h3 x, cO (q := q ++ [x]) 0 (λ z => ?_)]
      rcases List.prefix_concat_iff.mp z with z | z
      . exact hq (List.append_inj' z rfl).1.symm
      . exact c1 z
  . obtain ⟨c1, c2⟩ := cS h
    obtain ⟨f, c, e, h1, h2, h3, g0, g1, g2⟩ := T.node q n c2
    rw [show cutF F (p ++ [k]) q = F q from if_neg c1]
    exact ⟨f, c, e, by rw [cO 1 c1]; exact h1, by rw [cO 2 c1]; exact h2, by rw [cO 3 c1]; exact h3, by rw [oth q 0 n c2 (by rintro ⟨_, z⟩; ac_nf)]; exact g0, by rw [oth q 1 f h1 (by rintro ⟨_, z⟩; ac_nf)]; exact g1, by rw [oth q 2 c h2 (by rintro ⟨_, z⟩; ac_nf)]; exact g2⟩
  . by_cases e : p ++ [k] <+: q
    . exact if_pos e
    . rw [show cutF F (p ++ [k]) q = F q from if_neg e]
      rw [cO 0 e] at h; exact T.gone q h
  . unfold cutF
    split
    . exact ⟨Nat.zero_le _, Nat.zero_le _⟩
    . exact T.few q
theorem Trie.nocut (T : Trie H A F N) {q : zc} {r : zc} (hq : q ≠ []) (h : A q 0 = none) : cutF F (q ++ r) = F := by
  funext p
  unfold cutF
  by_cases e : q ++ r <+: p
  . rw [if_pos e]
    obtain ⟨t, rfl⟩ := e
    refine (T.gone _ ?_).symm
    cases h0 : A (q ++ r ++ t) 0 with
    | none => rfl
    | some n =>
      rw [List.append_assoc] at h0
      obtain ⟨n', hn⟩ := T.upto (r ++ t) q n hq h0
      rw [h] at hn; cases hn
  . rw [if_neg e]
end
end
section
open PySem.W.X
abbrev zp := zc -> Nat -> Option Addr
structure FlagR (H : AH) (x r : Addr) (A : zp) (F : zc -> List Int × List Int) (N : Nat) : Prop where
  ob : ∃ d m, H x = some (.inst 73 d) /\ H d = some (.attrs m) /\ m "_flags" = some (.ref r) /\ ∀ y : Str, y ≠ "_flags" -> y ≠ "_pending_flags" -> m y = none
  root : A [] 3 = some r
  trie : Trie H A F N
def qu (A : zp) (H H' : AH) : Prop := ∀ a o, (∀ p i, A p i ≠ some a) -> H a = some o -> H' a = some o
def qM (A A' : zp) (H : AH) : Prop := ∀ p i a, A' p i = some a -> (∃ q j, A q j = some a) \/ H a = none
theorem qu.refl {A : zp} {H : AH} : qu A H H := λ o_ o_ o_ e => e
theorem qM.refl {A : zp} {H : AH} : qM A A H := λ p i a h => .inl ⟨p, i, h⟩
theorem qu.new {A : zp} {H H' : AH} {a : Addr} {o : AO} (h : qu A H H') (hn : H' a = none) : qu A H (zD H' a o) := λ b o' n e => zB hn (h b o' n e)
theorem qu.trans {A A' : zp} {H H' H'' : AH} (h : qu A H H') (g : qM A A' H) (h' : qu A' H' H'') : qu A H H'' := λ b o n q => h' b o (λ p i z => by
  rcases g p i b z with ⟨p', i', w⟩ | w
  . exact n p' i' w
  . rw [w] at q; cases q) (h b o n q)
theorem qM.trans {A A' A'' : zp} {H H' : AH} (g : qM A A' H) (g' : qM A' A'' H') (k : ∀ a, H' a = none -> H a = none) : qM A A'' H := λ p i a h => by
  rcases g' p i a h with ⟨q, j, w⟩ | w
  . exact g q j a w
  . exact .inr (k a w)
theorem qM.cut {A : zp} {H : AH} {q : zc} : qM A (cutA A q) H := λ p i a h => by
  unfold cutA at h
  split at h
  . cases h
  . exact .inl ⟨p, i, h⟩
theorem qM.node {A A' : zp} {H : AH} {q : zc} {n f c e : Addr} (g : qM A A' H) (hn : H n = none) (hf : H f = none) (hc : H c = none) (he : H e = none) : qM A (yH A' q n f c e) H := λ p i a h => by
  unfold yH at h
  split at h
  . match i, h with
    | 0, h => cases h; exact .inr hn
    | 1, h => cases h; exact .inr hf
    | 2, h => cases h; exact .inr hc
    | 3, h => cases h; exact .inr he
    | i + 4, h => simp at h
  . exact g p i a h
theorem FlagR.apart {H : AH} {x r : Addr} {A : zp} {F : zc -> List Int × List Int} {N : Nat} (R : FlagR H x r A F N) {p : zc} {i : Nat} {a : Addr} (h : A p i = some a) : (∃ kvs, H a = some (.sdict kvs)) \/ ∃ l, H a = some (.iset l) := by
  have T := R.trie
  by_cases h3 : i = 3
  . subst h3; obtain ⟨kvs, h1, _⟩ := T.nest p a h; exact .inl ⟨_, h1⟩
  . rcases T.full p i a h with ⟨_, q⟩ | ⟨n, hn⟩
    . exact absurd q h3
    . obtain ⟨f, c, e, h1, h2, _, g0, g1, g2⟩ := T.node p n hn
      have hi := T.lt p i a h
      have : i = 0 \/ i = 1 \/ i = 2 := by ac_nf
      rcases this with rfl | rfl | rfl
      . rw [hn] at h; cases h; exact .inl ⟨_, g0⟩
      . rw [h1] at h; cases h; exact .inr ⟨_, g1⟩
      . rw [h2] at h; cases h; exact .inr ⟨_, g2⟩
def Dom (H H' : AH) : Prop := ∀ a, H' a = none -> H a = none
theorem Dom.refl {H : AH} : Dom H H := λ o_ h => h
theorem Dom.set {H H' : AH} {b : Addr} {o : AO} (h : Dom H H') : Dom H (zD H' b o) := λ a ha => h a (zF ha).2
theorem Dom.trans {H H' H'' : AH} (h : Dom H H') (h' : Dom H' H'') : Dom H H'' := λ a ha => h a (h' a ha)
theorem Dom.of_ext {H H' : AH} (e : zm H H') : Dom H H' := λ a ha => e.none ha
noncomputable def made (H : AH) (d f c e ct : Addr) (kvs : List (Str × Value)) (k : Str) : AH :=
  zD (zD (zD (zD (zD (zD H d (.sdict [])) f (.iset [])) c (.iset [])) e (.sdict [])) d (.sdict [("flags", .ref f), ("recursive_flags", .ref c), ("nested", .ref e)])) ct (.sdict (stored kvs k (.ref d)))
theorem made_flag {H : AH} {x r d f c e ct : Addr} {A : zp} {F : zc -> List Int × List Int} {N : Nat} {p : zc} {k : Str} {kvs : List (Str × Value)} (R : FlagR H x r A F N) (hct : A p 3 = some ct) (hk : H ct = some (.sdict kvs)) (hl : kvs.length <= N) (hkv : ∀ x, valueAt kvs x = (A (p ++ [x]) 0).map Value.ref) (hno : A (p ++ [k]) 0 = none)
    (hd : H d = none) (hf : zD H d (.sdict []) f = none) (hc : zD (zD H d (.sdict [])) f (.iset []) c = none) (he : zD (zD (zD H d (.sdict [])) f (.iset [])) c (.iset []) e = none) :
    FlagR (made H d f c e ct kvs k) x r (yH A (p ++ [k]) d f c e) F (N + 1) /\ H f = none /\ H c = none /\ H e = none /\ yH A (p ++ [k]) d f c e (p ++ [k]) 3 = some e /\ yH A (p ++ [k]) d f c e (p ++ [k]) 0 = some d := by
  have f1 := zF hf
  have c1 := zF hc
  have c2 := zF c1.2
  have e1 := zF he
  have e2 := zF e1.2
  have e3 := zF e2.2
  have old : ∀ a o, H a = some o -> a ≠ d /\ a ≠ f /\ a ≠ c /\ a ≠ e := λ a o h => ⟨zS h hd, zS h f1.2, zS h c2.2, zS h e3.2⟩
  have oct := old _ _ hk
  have g : ∀ a, a ≠ d -> a ≠ f -> a ≠ c -> a ≠ e -> a ≠ ct -> made H d f c e ct kvs k a = H a := λ a h1 h2 h3 h4 h5 => by
    unfold made
    rw [zE _ h5, zE _ h1, zE _ h4, zE _ h3, zE _ h2, zE _ h1]
  have gd : made H d f c e ct kvs k d = some (.sdict [("flags", .ref f), ("recursive_flags", .ref c), ("nested", .ref e)]) := by
    unfold made
    rw [zE _ (Ne.symm oct.1)]; exact zA
  have gf : made H d f c e ct kvs k f = some (.iset []) := by
    unfold made
    rw [zE _ (Ne.symm oct.2.1), zE _ f1.1, zE _ (Ne.symm e2.1), zE _ (Ne.symm c1.1)]; exact zA
  have gc : made H d f c e ct kvs k c = some (.iset []) := by
    unfold made
    rw [zE _ (Ne.symm oct.2.2.1), zE _ c2.1, zE _ (Ne.symm e1.1)]; exact zA
  have ge : made H d f c e ct kvs k e = some (.sdict []) := by
    unfold made
    rw [zE _ (Ne.symm oct.2.2.2), zE _ e3.1]; exact zA
  have gct : made H d f c e ct kvs k ct = some (.sdict (stored kvs k (.ref d))) := zA
  have T := R.trie.grow hct hk hl hkv hno hd f1.2 c2.2 e3.2 (Ne.symm f1.1) (Ne.symm c2.1) (Ne.symm e3.1) (Ne.symm c1.1) (Ne.symm e2.1) (Ne.symm e1.1) g gd gf gc ge gct
  obtain ⟨dx, m, h1, h2, h3⟩ := R.ob
  refine ⟨⟨⟨dx, m, ?_, ?_, h3⟩, ?_, T⟩, f1.2, c2.2, e3.2, if_pos rfl, if_pos rfl⟩
  . have o := old _ _ h1
    rw [g x o.1 o.2.1 o.2.2.1 o.2.2.2 (zK h1 hk rfl)]; exact h1
  . have o := old _ _ h2
    rw [g dx o.1 o.2.1 o.2.2.1 o.2.2.2 (zK h2 hk rfl)]; exact h2
  . unfold yH
    rw [if_neg (by simp)]; exact R.root
theorem FlagR.of_ext {H H' : AH} {x r : Addr} {A : zp} {F : zc -> List Int × List Int} {N : Nat} (R : FlagR H x r A F N) (e : zm H H') : FlagR H' x r A F N := by
  obtain ⟨d, m, h1, h2, h3⟩ := R.ob
  exact ⟨⟨d, m, e _ _ h1, e _ _ h2, h3⟩, R.root, R.trie.of_ext e⟩
theorem FlagR.more {H : AH} {x r : Addr} {A : zp} {F : zc -> List Int × List Int} {N M : Nat} (R : FlagR H x r A F N) (h : N <= M) : FlagR H x r A F M := ⟨R.ob, R.root, R.trie.more h⟩
theorem FlagR.new {H : AH} {x r a : Addr} {o : AO} {A : zp} {F : zc -> List Int × List Int} {N : Nat} (R : FlagR H x r A F N) (h : H a = none) : FlagR (zD H a o) x r A F N := R.of_ext ((zm.refl H).new h)
theorem val_flags {a b c : Value} : valueAt [(("flags" : Str), a), (("recursive_flags" : Str), b), (("nested" : Str), c)] "flags" = some a := by
  unfold valueAt
  rw [List.find?_cons, decide_eq_true (show ("flags" : Str) = "flags" from rfl)]; rfl
theorem val_rec {a b c : Value} : valueAt [(("flags" : Str), a), (("recursive_flags" : Str), b), (("nested" : Str), c)] "recursive_flags" = some b := by
  unfold valueAt
  rw [List.find?_cons, decide_eq_false (show ¬ ("flags" : Str) = "recursive_flags" by decide), List.find?_cons, decide_eq_true (show ("recursive_flags" : Str) = "recursive_flags" from rfl)]; rfl
theorem val_nested {a b c : Value} : valueAt [(("flags" : Str), a), (("recursive_flags" : Str), b), (("nested" : Str), c)] "nested" = some c := by
  unfold valueAt
  rw [List.find?_cons, decide_eq_false (show ¬ ("flags" : Str) = "nested" by decide), List.find?_cons, decide_eq_false (show ¬ ("recursive_flags" : Str) = "nested" by decide), List.find?_cons, decide_eq_true (show ("nested" : Str) = "nested" from rfl)]; rfl
theorem made_ne {H : AH} {d f c e ct a : Addr} {kvs : List (Str × Value)} {k : Str} (h1 : a ≠ d) (h2 : a ≠ f) (h3 : a ≠ c) (h4 : a ≠ e) (h5 : a ≠ ct) : made H d f c e ct kvs k a = H a := by
  unfold made
  rw [zE _ h5, zE _ h1, zE _ h4, zE _ h3, zE _ h2, zE _ h1]
theorem made_old {H : AH} {d f c e ct a : Addr} {kvs : List (Str × Value)} {k : Str} {o : AO} (ha : H a = some o) (hd : H d = none) (hf : H f = none) (hc : H c = none) (he : H e = none) (hct : H ct = some (.sdict kvs)) (hne : o ≠ .sdict kvs) : made H d f c e ct kvs k a = some o := by
  rw [made_ne (zS ha hd) (zS ha hf) (zS ha hc) (zS ha he) (ne_sq ha hct hne)]; exact ha
theorem made_dom {H H0 : AH} {d f c e ct : Addr} {kvs : List (Str × Value)} {k : Str} (h : Dom H0 H) : Dom H0 (made H d f c e ct kvs k) := by
  unfold made
  exact (((((h.set).set).set).set).set).set
theorem made_ext {H H0 : AH} {G G' : zp} {p : zc} {d f c e ct : Addr} {kvs : List (Str × Value)} {k : Str} (E : qu G H0 H) (g : qM G G' H0) (hct : G' p 3 = some ct) (hd : H0 d = none) (hf : H0 f = none) (hc : H0 c = none) (he : H0 e = none) : qu G H0 (made H d f c e ct kvs k) := λ b o n q => by
  rw [made_ne (zS q hd) (zS q hf) (zS q hc) (zS q he) (λ z => ?_)]
  . exact E b o n q
  . rcases g p 3 ct hct with ⟨p', i', w⟩ | w
    . exact n p' i' (by rw [z]; exact w)
    . rw [<- z, q] at w; cases w
theorem setNode_old {A : zp} {p : zc} {k : Str} {n f c e : Addr} {i : Nat} : yH A (p ++ [k]) n f c e p i = A p i := if_neg (by simp)
theorem FlagR.put {H : AH} {x r : Addr} {A : zp} {F : zc -> List Int × List Int} {N : Nat} (R : FlagR H x r A F N) {q : zc} {i : Nat} {a : Addr} {l l0z : List Int} (hi : i = 1 \/ i = 2) (ha : A q i = some a) (hl0z : H a = some (.iset l0z)) (hl : l.length <= N + 1) :
    FlagR (zD H a (.iset l)) x r A (yO F q (if i = 1 then (l, (F q).2) else ((F q).1, l))) (N + 1) := by
  obtain ⟨d, m, h1, h2, h3⟩ := R.ob
  refine ⟨⟨d, m, ?_, ?_, h3⟩, R.root, R.trie.put hi ha hl⟩
  . rw [zE _ (zK h1 hl0z rfl)]; exact h1
  . rw [zE _ (zK h2 hl0z rfl)]; exact h2
theorem addTo_len {xs : List Int} {k : Int} : (qR xs k).length <= xs.length + 1 := by
  unfold qR; split
  . ac_nf
  . simp
theorem qu.at_ {G G' : zp} {H0 H : AH} {p : zc} {i : Nat} {a : Addr} {o : AO} (E : qu G H0 H) (g : qM G G' H0) (ha : G' p i = some a) : qu G H0 (zD H a o) := λ b o' n q => by
  rw [zE _ (λ z => ?_)]
  . exact E b o' n q
  . rcases g p i a ha with ⟨p', i', w⟩ | w
    . exact n p' i' (by rw [z]; exact w)
    . rw [<- z, q] at w; cases w
theorem FlagR.cut {H : AH} {x r : Addr} {A : zp} {F : zc -> List Int × List Int} {N : Nat} (R : FlagR H x r A F N) {p : zc} {k : Str} {ct : Addr} {kvs : List (Str × Value)} (hct : A p 3 = some ct) (hk : H ct = some (.sdict kvs)) (hl : kvs.length <= N) (hkv : ∀ x, valueAt kvs x = (A (p ++ [x]) 0).map Value.ref) :
    FlagR (zD H ct (.sdict (without kvs k))) x r (cutA A (p ++ [k])) (cutF F (p ++ [k])) N := by
  obtain ⟨d, m, h1, h2, h3⟩ := R.ob
  refine ⟨⟨d, m, ?_, ?_, h3⟩, ?_, R.trie.cut hct hk hl hkv⟩
  . rw [zE _ (zK h1 hk rfl)]; exact h1
  . rw [zE _ (zK h2 hk rfl)]; exact h2
  . unfold cutA
    rw [if_neg (λ z => by have := z.length_le; simp at this)]; exact R.root
section
variable {X : Wd} {A : Around} {L : Addr} {S : St} {env : Env} {C : Cx} {s : Shared}
theorem tru_tup {a : Addr} {vs : List Value} {Φ : Bool -> St -> Prop} (hl : S.H a = some (.tup (.type "tuple") vs)) (hn : vs.length < 2 ^ 63) (h : Φ (!vs.isEmpty) S) : TruE X A L (.ref a) S Φ := λ c hc C s hB R => by
  rw [zC hc]
  obtain ⟨items, ep, ho, e⟩ := R.tup hl
  have hT : IsTup s.heap a items := ⟨_, ho, rfl, ep, rfl⟩
  have hi : items.isEmpty = vs.isEmpty := by
    have := zP e
    cases vs with
    | nil => simp only [List.length_nil] at this; simp [Array.isEmpty, this]
    | cons v vs => simp only [List.length_cons] at this; simp [Array.isEmpty, this]
  exact truthy_tuple hT (by rw [zP e]; exact_mod_cast hn) ⟨S, R.tok _, by rw [hi]; exact h⟩
end
end
section
open PySem.W.X
noncomputable def zi (F : zc -> List Int × List Int) (d : qx) : zc -> List Int × List Int :=
  if d.1 = 3 then yO F (signs d.2.2) (qR (F (signs d.2.2)).1 0, (F (signs d.2.2)).2)
  else if d.1 = 4 then yO F (signs d.2.2) ((F (signs d.2.2)).1, qR (F (signs d.2.2)).2 0)
  else if d.2.1 = 0 then yO F (signs d.2.2) ((F (signs d.2.2)).1, qR (F (signs d.2.2)).2 1)
  else cutF F (signs d.2.2)
theorem take_do (ds : List qx) (F : zc -> List Int × List Int) {k : Nat} {x : qx} (h : ds[k]? = some x) : (ds.take (k + 1)).foldl zi F = zi ((ds.take k).foldl zi F) x := by
  rw [List.take_add_one, h, List.foldl_append]; rfl
theorem signs_cut {w : Str} (h : w ∈ zn) : ∃ par st, signs w = par ++ [st] /\ par.length <= 3 := by
  simp only [zn, List.mem_cons, List.not_mem_nil, or_false] at h
  rcases h with rfl | rfl | rfl | rfl | rfl
  . exact ⟨[], "a", by decide, by decide⟩
  . exact ⟨[], "b", by decide, by decide⟩
  . exact ⟨["a"], "b", by decide, by decide⟩
  . exact ⟨["a", "b"], "a", by decide, by decide⟩
  . exact ⟨["b"], "a", by decide, by decide⟩
end
section
open PySem.W.X
theorem valueAt_storedK {K : Type} [DecidableEq K] {kvs : List (K × Value)} {k x : K} {v : Value} : valueAt (stored kvs k v) x = if x = k then some v else valueAt kvs x := by
  unfold stored
  by_cases h : kvs.any (λ kv => decide (kv.1 = k)) = true
  . rw [if_pos h]
    induction kvs with
    | nil => simp at h
    | cons p kvs ih =>
      unfold valueAt at ih ⊢
      rw [List.map_cons, List.find?_cons, List.find?_cons]
      by_cases hp : p.1 = k
      . rw [if_pos hp]
        by_cases hx : x = k
        . rw [if_pos hx, decide_eq_true (show p.1 = x by rw [hp, hx])]; rfl
        . rw [if_neg hx, decide_eq_false (show ¬ p.1 = x by rw [hp]; exact Ne.symm hx)]
          by_cases h2 : kvs.any (λ kv => decide (kv.1 = k)) = true
          . have := ih h2; rw [if_neg hx] at this; exact this
          . have e : kvs.map (λ kv => if kv.1 = k then (kv.1, v) else kv) = kvs := by
              have : ∀ kv ∈ kvs, (if kv.1 = k then (kv.1, v) else kv) = kv := λ kv hk => by
                rw [if_neg]; intro q; exact h2 (List.any_eq_true.mpr ⟨kv, hk, decide_eq_true q⟩)
              rw [List.map_congr_left this]; simp
            rw [e]
      . rw [if_neg hp]
        have h2 : kvs.any (λ kv => decide (kv.1 = k)) = true := by
          rw [List.any_cons, decide_eq_false hp, Bool.false_or] at h; exact h
        have ih := ih h2
        by_cases hpx : p.1 = x
        . rw [decide_eq_true hpx]
          have : x ≠ k := λ q => hp (hpx.trans q)
          rw [if_neg this]
        . rw [decide_eq_false hpx]; exact ih
  . rw [if_neg h]
    unfold valueAt
    rw [List.find?_append]
    by_cases hx : x = k
    . subst hx
      rw [if_pos rfl]
      have : kvs.find? (λ kv => decide (kv.1 = x)) = none := by
        rw [List.find?_eq_none]; intro kv hk hq; exact h (List.any_eq_true.mpr ⟨kv, hk, hq⟩)
      rw [this]; simp
    . rw [if_neg hx]
      have : ([(k, v)] : List (K × Value)).find? (λ kv => decide (kv.1 = x)) = none := by
        simp [Ne.symm hx]
      rw [this, Option.or_none]
section
variable {X : Wd} {A : Around} {L : Addr} {S : St} {env : Env} {C : Cx} {s : Shared}
theorem set_idict {a : Addr} {kvs : List (Int × Value)} {x : Int} {v : Value} {Ψ : St -> Prop} (ha : S.H a = some (.idict kvs)) (hn : kvs.length <= sizeLine) (h : Ψ { S with H := zD S.H a (.idict (stored kvs x v)) }) : SetE X A L (.ref a) (.int x 0) v S Ψ := by
  intro c d w hc hd hw C s hB R
  rw [zC hc]
  obtain ⟨u, rfl⟩ := zQ hd
  obtain ⟨kvs', hD, e⟩ := R.idict ha
  have hlen : kvs'.length = kvs.length := by rw [<- e, List.length_map]
  refine wpAny_setItem_pairs (int_is x u) hD (λ h' hD' hs => ⟨_, ?_, h⟩) (by ac_nf)
  obtain ⟨ob, ho, hob⟩ := Heap.dictOf_iff.mp hD'
  refine R.turn ha (λ b o hb q => (hs.2 b hb).trans q) (o := .idict (stored kvs x v)) ⟨ob, ho, _, hob, ?_⟩ rfl rfl
  have := stored_er kvs' x w
  rw [hw] at this
  exact this.trans (congrArg (stored · x v) e)
theorem cmp_isNoneInt {i : Int} {Φ : Value -> St -> Prop} (h : Φ (.bool false) S) : yL X A L .Is (.int i 0) .none S Φ := by
  intro c d hc hd C s hB R
  rw [yE hd]
  obtain ⟨u, rfl⟩ := zQ hc
  exact wpAny_is_plain rfl ⟨S, R, h⟩
theorem cmp_isList {a b : Addr} {vs us : List Value} {Φ : Value -> St -> Prop} (ha : S.H a = some (.list vs)) (hb : S.H b = some (.list us)) (h : Φ (.bool (decide (a = b))) S) : yL X A L .Is (.ref a) (.ref b) S Φ := by
  intro c d hc hd C s hB R
  rw [zC hc, zC hd]
  show wpAny _ A (isSame (Value.ref a) (Value.ref b) >>= λ r => pure (Value.bool r)) _ _ s
  by_cases e : a = b
  . subst e
    rw [decide_eq_true rfl] at h
    exact wpAny_bind (wpAny_isSame_ref_self (wpAny_pure ⟨S, R, h⟩))
  . rw [decide_eq_false e] at h
    obtain ⟨items, ep, ho, _⟩ := R.list ha
    obtain ⟨items2, ep2, ho2, _⟩ := R.list hb
    exact wpAny_bind (wpAny_isSame_ref_other e ho ho2 (by simp) (wpAny_pure ⟨S, R, h⟩))
theorem cmp_isRefNone {a : Addr} {Φ : Value -> St -> Prop} (h : Φ (.bool false) S) : yL X A L .Is (.ref a) .none S Φ := by
  intro c d hc hd C s hB R
  rw [zC hc, yE hd]
  exact wpAny_is_plain rfl ⟨S, R, h⟩
end
end
section
open PySem.W.X
noncomputable def qS (bs : List Str) (w : Str) : List Nat := (List.range bs.length).filter λ j => decide (bs[j]? = some w)
theorem mem_places {bs : List Str} {w : Str} {j : Nat} : j ∈ qS bs w ↔ bs[j]? = some w := by
  unfold qS
  rw [List.mem_filter, List.mem_range, decide_eq_true_iff]
  exact ⟨λ h => h.2, λ h => ⟨(List.getElem?_eq_some_iff.mp h).1, h⟩⟩
theorem places_rise {bs : List Str} {w : Str} : (qS bs w).Pairwise (· < ·) := List.Pairwise.filter _ List.pairwise_lt_range
theorem places_len {bs : List Str} {w : Str} : (qS bs w).length <= bs.length := Nat.le_trans (List.length_filter_le _ _) (by rw [List.length_range]; exact Nat.le_refl _)
noncomputable abbrev nsv (l : List Nat) : List Value := qo (l.map λ (j : Nat) => (j : Int))
structure SMK (X : Wd) (mS : Str -> Option Value) : Prop where
  cls : IsCls X 298 297 mS
  ga : mS "__getattribute__" = none
  gt : mS "__getattr__" = none
  sa : mS "__setattr__" = none
  no : ∀ y ∈ (["isjunk", "a", "b", "autojunk", "matching_blocks", "opcodes", "fullbcount", "b2j", "bjunk", "bpopular"] : List Str), mS y = none
structure SMR (H : AH) (x d : Addr) (mm : Str -> Option Value) (al bl dj sj : Addr) (as bs : List Str) (J : Str -> Bool) : Prop where
  ox : H x = some (.inst 298 d)
  od : H d = some (.attrs mm)
  ma : mm "a" = some (.ref al)
  mb : mm "b" = some (.ref bl)
  m2 : mm "b2j" = some (.ref dj)
  mj : mm "bjunk" = some (.ref sj)
  ha : H al = some (.list (zZ as))
  hb : H bl = some (.list (zZ bs))
  b2 : ∃ kvs, H dj = some (.sdict kvs) /\ ∀ w, (valueAt kvs w = none /\ (w ∉ bs \/ J w = true)) \/ (J w = false /\ ∃ l, valueAt kvs w = some (.ref l) /\ H l = some (.list (nsv (qS bs w))))
  bj : ∃ xs, H sj = some (.sset xs) /\ ∀ w ∈ bs, (w ∈ xs ↔ J w = true)
theorem SMR.of_ext {H H' : AH} {x d : Addr} {mm : Str -> Option Value} {al bl dj sj : Addr} {as bs : List Str} {J : Str -> Bool} (R : SMR H x d mm al bl dj sj as bs J) (e : zm H H') : SMR H' x d mm al bl dj sj as bs J := by
  obtain ⟨kvs, h1, h2⟩ := R.b2
  obtain ⟨xs, h3, h4⟩ := R.bj
  refine ⟨e _ _ R.ox, e _ _ R.od, R.ma, R.mb, R.m2, R.mj, e _ _ R.ha, e _ _ R.hb, ⟨kvs, e _ _ h1, λ w => ?_⟩, ⟨xs, e _ _ h3, h4⟩⟩
  rcases h2 w with q | ⟨q1, l, q2, q3⟩
  . exact .inl q
  . exact .inr ⟨q1, l, q2, e _ _ q3⟩
end
section
open PySem.W.X
section
variable {as bs : List Str} {J : Str -> Bool} {p0 p1 q0 q1 : Nat}
noncomputable abbrev LX (as bs : List Str) (J : Str -> Bool) (p0 p1 q0 q1 : Nat) : Nat -> Nat -> Nat := Lx (Ok as bs J p1 q1) p0 q0
def J2 (as bs : List Str) (J : Str -> Bool) (p0 p1 q0 q1 : Nat) (x : Nat) (kv : List (Int × Value)) : Prop :=
  ∀ y : Nat, valueAt kv (y : Int) = if 0 < LX as bs J p0 p1 q0 q1 x (y + 1) then some (.int (LX as bs J p0 p1 q0 q1 x (y + 1)) 0) else none
def NegNo (kv : List (Int × Value)) : Prop := ∀ y : Int, y < 0 -> valueAt kv y = none
def Vis (js : List Nat) (t j : Nat) : Prop := ∃ s, s < t /\ js[s]? = some j
def N2 (as bs : List Str) (J : Str -> Bool) (p0 p1 q0 q1 : Nat) (js : List Nat) (i t : Nat) (kv : List (Int × Value)) : Prop :=
  ∀ y : Nat, (Vis js t y /\ q0 <= y /\ y < q1 -> valueAt kv (y : Int) = some (.int (LX as bs J p0 p1 q0 q1 (i + 1) (y + 1)) 0)) /\ (¬ (Vis js t y /\ q0 <= y /\ y < q1) -> valueAt kv (y : Int) = none)
def PV (js : List Nat) (q0 q1 i t : Nat) (u v : Nat) : Prop := u <= i \/ (u = i + 1 /\ ∃ j, Vis js t j /\ v = j + 1 /\ q0 <= j /\ j < q1)
structure RowJ (as bs : List Str) (J : Str -> Bool) (i : Nat) (js : List Nat) : Prop where
  rise : js.Pairwise (· < ·)
  mem : ∀ j, j ∈ js ↔ ∃ e, as[i]? = some e /\ bs[j]? = some e /\ J e = false
theorem RowJ.ok {i j : Nat} {js : List Nat} (R : RowJ as bs J i js) (hi : i < p1) : Ok as bs J p1 q1 i j ↔ j < q1 /\ j ∈ js := by
  rw [R.mem]
  exact ⟨λ h => ⟨h.2.1, h.2.2⟩, λ h => ⟨hi, h.1, h.2⟩⟩
theorem ql {js : List Nat} {t j0 j : Nat} (h : js[t]? = some j0) : Vis js (t + 1) j ↔ Vis js t j \/ j = j0 := by
  constructor
  . rintro ⟨s, hs, e⟩
    by_cases q : s = t
    . subst q; rw [h] at e; exact .inr (Option.some.inj e).symm
    . exact .inl ⟨s, by ac_nf, e⟩
  . rintro (⟨s, hs, e⟩ | rfl)
    . exact ⟨s, by ac_nf, e⟩
    . exact ⟨t, by ac_nf, h⟩
theorem vis_zero {js : List Nat} {j : Nat} : ¬ Vis js 0 j := λ ⟨s, hs, _⟩ => absurd hs (Nat.not_lt_zero s)
theorem rise_lt {js : List Nat} (h : js.Pairwise (· < ·)) {s t j j0 : Nat} (hs : js[s]? = some j) (ht : js[t]? = some j0) (hst : s < t) : j < j0 := by
  obtain ⟨h1, e1⟩ := List.getElem?_eq_some_iff.mp hs
  obtain ⟨h2, e2⟩ := List.getElem?_eq_some_iff.mp ht
  have := List.pairwise_iff_getElem.mp h s t h1 h2 hst
  rw [e1, e2] at this; exact this
theorem PV.before {js : List Nat} {i t j0 : Nat} (h : js.Pairwise (· < ·)) (ht : js[t]? = some j0) : ∀ u v, PV js q0 q1 i t u v -> u < i + 1 \/ (u = i + 1 /\ v <= j0 + 1) := by
  rintro u v (q | ⟨q, j, ⟨s, hs, e⟩, rfl, _⟩)
  . exact .inl (by ac_nf)
  . have := rise_lt h e ht hs
    exact .inr ⟨q, by ac_nf⟩
theorem PV.step {js : List Nat} {i t j0 : Nat} (ht : js[t]? = some j0) (h0 : q0 <= j0) (h1 : j0 < q1) {u v : Nat} : PV js q0 q1 i (t + 1) u v ↔ (PV js q0 q1 i t u v \/ (u = i + 1 /\ v = j0 + 1)) := by
  unfold PV
  constructor
  . rintro (q | ⟨q, j, hj, rfl, q2⟩)
    . exact .inl (.inl q)
    . rcases (ql ht).mp hj with hj | rfl
      . exact .inl (.inr ⟨q, j, hj, rfl, q2⟩)
      . exact .inr ⟨q, rfl⟩
  . rintro ((q | ⟨q, j, hj, rfl, q2⟩) | ⟨q, rfl⟩)
    . exact .inl q
    . exact .inr ⟨q, j, (ql ht).mpr (.inl hj), rfl, q2⟩
    . exact .inr ⟨q, j0, (ql ht).mpr (.inr rfl), rfl, h0, h1⟩
theorem PV.skip {js : List Nat} {i t j0 : Nat} (ht : js[t]? = some j0) (h0 : ¬ (q0 <= j0 /\ j0 < q1)) {u v : Nat} : PV js q0 q1 i (t + 1) u v ↔ PV js q0 q1 i t u v := by
  unfold PV
  constructor
  . rintro (q | ⟨q, j, hj, rfl, q2⟩)
    . exact .inl q
    . rcases (ql ht).mp hj with hj | rfl
      . exact .inr ⟨q, j, hj, rfl, q2⟩
      . exact absurd q2 h0
  . rintro (q | ⟨q, j, hj, rfl, q2⟩)
    . exact .inl q
    . exact .inr ⟨q, j, (ql ht).mpr (.inl hj), rfl, q2⟩
theorem BE.congr {ok : Nat -> Nat -> Prop} {P P' : Nat -> Nat -> Prop} {i j n : Nat} (h : BE ok p0 q0 P i j n) (e : ∀ u v, P' u v ↔ P u v) : BE ok p0 q0 P' i j n := by
  have : P' = P := by funext u v; exact propext (e u v)
  rw [this]; exact h
theorem row_end {js : List Nat} {i t bi bj n : Nat} {kv : List (Int × Value)} (R : RowJ as bs J i js) (hi0 : p0 <= i) (hi : i < p1) (hN : N2 as bs J p0 p1 q0 q1 js i t kv) (hB : BE (Ok as bs J p1 q1) p0 q0 (PV js q0 q1 i t) bi bj n) (hrest : ∀ s j, t <= s -> js[s]? = some j -> q1 <= j) :
    J2 as bs J p0 p1 q0 q1 (i + 1) kv /\ BE (Ok as bs J p1 q1) p0 q0 (λ u o_ => u <= i + 1) bi bj n := by
  have key : ∀ y, ¬ (Vis js t y /\ q0 <= y /\ y < q1) -> LX as bs J p0 p1 q0 q1 (i + 1) (y + 1) = 0 := λ y hy => by
    by_cases hq : q0 <= y
    . refine Lx_no λ q => hy ?_
      obtain ⟨h1, h2⟩ := (R.ok hi).mp q
      obtain ⟨s, hs, e⟩ := List.mem_iff_getElem.mp h2
      have e' : js[s]? = some y := by rw [List.getElem?_eq_getElem hs, e]
      refine ⟨⟨s, Nat.lt_of_not_le λ z => ?_, e'⟩, hq, h1⟩
      have := hrest s y z e'; ac_nf
    . exact Lx_out (.inr (by ac_nf))
  have pos : ∀ y, Vis js t y /\ q0 <= y /\ y < q1 -> 0 < LX as bs J p0 p1 q0 q1 (i + 1) (y + 1) := λ y ⟨⟨s, hs, e⟩, h1, h2⟩ => by
    have : LX as bs J p0 p1 q0 q1 (i + 1) (y + 1) = _ := Lx_yes hi0 h1 ((R.ok hi).mpr ⟨h2, List.mem_of_getElem? e⟩)
    ac_nf
  refine ⟨λ y => ?_, hB.fill (λ u v hu => ?_) (λ u v hu => ?_)⟩
  . by_cases hv : Vis js t y /\ q0 <= y /\ y < q1
    . rw [if_pos (pos y hv)]; exact (hN y).1 hv
    . rw [if_neg (by rw [key y hv]; ac_nf)]; exact (hN y).2 hv
  . by_cases hu' : u <= i
    . exact .inl (.inl hu')
    . have : u = i + 1 := by ac_nf
      subst this
      cases v with
      | zero => exact .inr (Lx_zero _)
      | succ y =>
        by_cases hv : Vis js t y /\ q0 <= y /\ y < q1
        . exact .inl (.inr ⟨rfl, y, hv.1, rfl, hv.2⟩)
        . exact .inr (key y hv)
  . rcases hu with q | ⟨q, _⟩ <;> ac_nf
end
end
section
open PySem.W.X
section
variable {X : Wd} {A : Around} {L : Addr} {S : St} {env : Env} {C : Cx} {s : Shared}
theorem noBool_fn : typeLookup (.type "function") "__bool__" = pure none := by rw [typeLookup_type, builtinLookup_eq_fast]; kernel_rfl
theorem noLen_fn : typeLookup (.type "function") "__len__" = pure none := by rw [typeLookup_type, builtinLookup_eq_fast]; kernel_rfl
theorem tru_fn {a : Addr} {o : Obj} {Φ : Bool -> St -> Prop} (ho : S.H a = some (.raw o)) (hc : o.cls = .type "function") (h : Φ true S) : TruE X A L (.ref a) S Φ := λ c hcc C s hB R => by
  rw [zC hcc]
  have hT : s.TypeIs (.ref a) "function" := ⟨_, R.raw ho, hc⟩
  unfold truthy
  first
    | refine wpAny_bind (wpAny_callSpecial?_none (name := Str.ofString "__bool__") hT noBool_fn ?_)
    | refine wpAny_bind (wpAny_pure (wpAny_bind (wpAny_callSpecial?_none (name := Str.ofString "__bool__") hT noBool_fn ?_)))
  first
    | refine wpAny_bind (wpAny_specialOf (name := Str.ofString "__len__") hT noLen_fn ?_)
    | refine wpAny_bind (wpAny_pure (wpAny_bind (wpAny_specialOf (name := Str.ofString "__len__") hT noLen_fn ?_)))
  exact wpAny_pure ⟨S, R, h⟩
theorem tru_int {i : Int} {Φ : Bool -> St -> Prop} (h : Φ (i != 0) S) : TruE X A L (.int i 0) S Φ := λ c hc C s hB R => by
  obtain ⟨u, rfl⟩ := zQ hc
  exact PySem.P.truthy_int ⟨S, R, h⟩
theorem callW_raw {p : Addr} {o : Obj} {fd : FuncData} {pos : Pos} {e : Expr} {es : List Expr} {Φ : Value -> St -> Prop} (hd : o.data = .func fd) (h : yC X A L pos (e :: es) env S λ vs S1 => S1.H p = some (.raw o) /\ zO X A L (.ref p) vs S1 Φ)
    (hn : true = (e :: es).all qj := by with_unfolding_all rfl) : jL X A L pos (.ref p) [] (e :: es) env S Φ := by
  obtain ⟨he, hp⟩ := yy (env := env) (pos := pos) hn
  intro cs hcs C s hB R
  rw [map0 hcs]
  have hb : wpAny (model X.prog X.w) A (spliced (backTo pos (starEach (e :: es) env))) (λ vs s1z => s1z.heap.get? p = some o /\ wpAny (model X.prog X.w) A (call (.ref p) vs []) (λ a => Got X C L (Φ (er a))) Fa s1z) Fa s :=
      Wp.then hB R h λ vs S1 s1z R1z h₁ => ⟨R1z.raw h₁.1, h₁.2 _ rfl C s1z hB R1z⟩
  rw [he] at hb ⊢
  have hpl : (backTo pos ((false, eval e env) :: starEach es env)).any (·.1) = false := by
    show (false || (backTo pos (starEach es env)).any (·.1)) = false
    rw [hp]; rfl
  exact Calls.callWith_function (o := o) (fd := fd) (Calls.evalArgs_plain (wpAny_mono hb (λ o_ o_ h' => ⟨⟨h'.1, hd⟩, h'.2⟩) λ o_ o_ x => x))
end
def zR (d : Addr) (H H' : AH) : Prop := ∀ b o, b ≠ d -> H b = some o -> H' b = some o
theorem zR.refl {d : Addr} {H : AH} : zR d H H := λ o_ o_ o_ e => e
theorem zR.of_ext {d : Addr} {H H' H'' : AH} (k : zR d H H') (e : zm H' H'') : zR d H H'' := λ b o n q => e _ _ (k b o n q)
theorem zR.at_ {d : Addr} {H H' : AH} {o : AO} (k : zR d H H') : zR d H (zD H' d o) := λ b o' n q => by
  rw [zE _ n]; exact k b o' n q
theorem zR.new {d a : Addr} {H H' : AH} {o : AO} (k : zR d H H') (h : H' a = none) : zR d H (zD H' a o) := λ b o' n q => zB h (k b o' n q)
theorem zR.turn {d a : Addr} {H H' : AH} {o : AO} (k : zR d H H') (h : H a = none) : zR d H (zD H' a o) := λ b o' n q => by
  rw [zE _ (zS q h)]; exact k b o' n q
theorem zR.del {d a : Addr} {H H' : AH} (k : zR d H H') (h : H a = none) : zR d H (qX H' a) := λ b o' n q => by
  rw [zv (zS q h)]; exact k b o' n q
theorem zR.trans {d : Addr} {H H' H'' : AH} (k : zR d H H') (k' : zR d H' H'') : zR d H H'' := λ b o n q => k' b o n (k b o n q)
theorem zR.noneB {d b : Addr} {H H' : AH} (k : zR d H H') (hn : b ≠ d) (h : H' b = none) : H b = none := by
  cases e : H b with
  | none => rfl
  | some o => rw [k b o hn e] at h; cases h
theorem zR.fresh {d x : Addr} {H H' : AH} (k : zR d H H') (h : H d = none) : zm H H' := λ b o q => k b o (zS q h) q
theorem zX {m : Str -> Option Value} {x y : Str} {v : Value} (h : y ≠ x) : zb m x v y = m y := if_neg h
noncomputable def yl : List Str := ["isjunk", "a", "b", "autojunk", "matching_blocks", "opcodes", "fullbcount", "b2j", "bjunk", "bpopular"]
theorem Within.set {m : Str -> Option Value} {x : Str} {v : Value} (h : Within m yl) (hx : x ∈ yl) : Within (zb m x v) yl := λ y hy => by
  by_cases e : y = x
  . rw [e]; exact hx
  . exact h y (by rw [zb, if_neg e] at hy; exact hy)
theorem key_mem {kvs : List (Str × Value)} {w : Str} : w ∈ kvs.map (·.1) ↔ (valueAt kvs w).isSome = true := by
  unfold valueAt
  rw [Option.isSome_map, List.find?_isSome, List.mem_map]
  constructor
  . rintro ⟨p, hp, rfl⟩; exact ⟨p, hp, by simp⟩
  . rintro ⟨p, hp, q⟩; exact ⟨p, hp, by simpa using q⟩
end
section
open PySem.W.X
theorem jO {kvs : List (Str × Value)} {k w : Str} {v : Value} (h : valueAt kvs k = none) : valueAt (kvs ++ [(k, v)]) w = if w = k then some v else valueAt kvs w := by
  unfold valueAt at h ⊢
  rw [List.find?_append]
  by_cases e : w = k
  . subst e
    rw [Option.map_eq_none_iff.mp h, if_pos rfl]; simp
  . rw [if_neg e]
    have : [(k, v)].find? (λ kv => decide (kv.1 = w)) = none := by
      rw [List.find?_eq_none]; intro p hp
      rw [List.mem_singleton.mp hp]; simpa using λ q : k = w => e q.symm
    rw [this, Option.or_none]
theorem ym {bs : List Str} {e w : Str} : qS (bs ++ [e]) w = qS bs w ++ if e = w then [bs.length] else [] := by
  unfold qS
  rw [List.length_append, show [e].length = 1 from rfl, List.range_succ, List.filter_append]
  congr 1
  . refine List.filter_congr λ j hj => ?_
    rw [List.getElem?_append_left (List.mem_range.mp hj)]
  . by_cases q : e = w
    . rw [if_pos q]; simp [q]
    . rw [if_neg q]; simp [q]
theorem nsv_snoc {l : List Nat} {n : Nat} : nsv (l ++ [n]) = nsv l ++ [.int n 0] := by simp [qo]
theorem places_no {bs : List Str} {w : Str} (h : w ∉ bs) : qS bs w = [] := by
  rw [List.eq_nil_iff_forall_not_mem]
  intro j hj
  exact h (List.mem_of_getElem? (mem_places.mp hj))
def KL (H H' : AH) : Prop := ∀ l vs, H l = some (.list vs) -> H' l = some (.list vs)
structure Pl (H0 H : AH) (bs : List Str) (kvs : List (Str × Value)) : Prop where
  at_ : ∀ w v, valueAt kvs w = some v -> w ∈ bs /\ ∃ l, v = .ref l /\ H0 l = none /\ H l = some (.list (nsv (qS bs w)))
  all : ∀ w ∈ bs, (valueAt kvs w).isSome = true
  inj : ∀ w w' l, valueAt kvs w = some (.ref l) -> valueAt kvs w' = some (.ref l) -> w = w'
theorem Pl.nil {H0 H : AH} : Pl H0 H [] [] := ⟨λ w v z => (nomatch (z : none = some v)), λ w z => (nomatch z), λ w w' l z => (nomatch (z : none = some (Value.ref l)))⟩
theorem Pl.keep {H0 H H' : AH} {bs : List Str} {kvs : List (Str × Value)} (P : Pl H0 H bs kvs) (k : KL H H') : Pl H0 H' bs kvs :=
  ⟨λ w v h => let ⟨h1, l, h2, h3, h4⟩ := P.at_ w v h; ⟨h1, l, h2, h3, k _ _ h4⟩, P.all, P.inj⟩
theorem Pl.old {H0 H H' : AH} {bs : List Str} {kvs : List (Str × Value)} {w0 : Str} {l0 : Addr} (P : Pl H0 H bs kvs) (h0 : valueAt kvs w0 = some (.ref l0)) (k : KL H H') :
    Pl H0 (zD H' l0 (.list (nsv (qS bs w0) ++ [.int bs.length 0]))) (bs ++ [w0]) kvs := by
  refine ⟨λ w v h => ?_, λ w hw => ?_, P.inj⟩
  . obtain ⟨h1, l, rfl, h3, h4⟩ := P.at_ w v h
    refine ⟨List.mem_append_left _ h1, l, rfl, h3, ?_⟩
    by_cases e : w0 = w
    . subst e
      rw [h0] at h; cases h
      rw [jF, ym, if_pos rfl, nsv_snoc]
    . rw [ym, if_neg e, List.append_nil, zE _ (λ q => e (P.inj _ _ _ h0 (by rw [h, q])))]
      exact k _ _ h4
  . rcases List.mem_append.mp hw with q | q
    . exact P.all w q
    . rw [List.mem_singleton.mp q, h0]; rfl
theorem Pl.more {H0 H H' : AH} {bs : List Str} {kvs : List (Str × Value)} {w0 : Str} {e : Addr} (P : Pl H0 H bs kvs) (h0 : valueAt kvs w0 = none) (he : H e = none) (he0 : H0 e = none) (k : KL H H') :
    Pl H0 (zD H' e (.list [.int bs.length 0])) (bs ++ [w0]) (kvs ++ [(w0, .ref e)]) := by
  have hno : w0 ∉ bs := λ q => by have := P.all w0 q; rw [h0] at this; cases this
  have old : ∀ {w l}, valueAt kvs w = some (.ref l) -> l ≠ e := λ {w l} h q => by
    obtain ⟨_, l', h2, _, h4⟩ := P.at_ _ _ h
    cases h2
    rw [q, he] at h4; cases h4
  refine ⟨λ w v h => ?_, λ w hw => ?_, λ w w' l h h' => ?_⟩
  . rw [jO h0] at h
    by_cases q : w = w0
    . subst q
      rw [if_pos rfl] at h; cases h
      refine ⟨List.mem_append_right _ (.head _), e, rfl, he0, ?_⟩
      rw [jF, ym, if_pos rfl, places_no hno]; rfl
    . rw [if_neg q] at h
      obtain ⟨h1, l, rfl, h3, h4⟩ := P.at_ w v h
      refine ⟨List.mem_append_left _ h1, l, rfl, h3, ?_⟩
      rw [zE _ (old h), ym, if_neg (λ z => q z.symm), List.append_nil]
      exact k _ _ h4
  . rw [jO h0]
    by_cases q : w = w0
    . rw [if_pos q]; rfl
    . rw [if_neg q]
      rcases List.mem_append.mp hw with z | z
      . exact P.all w z
      . exact absurd (List.mem_singleton.mp z) q
  . rw [jO h0] at h h'
    by_cases q : w = w0 <;> by_cases q' : w' = w0
    . rw [q, q']
    . rw [if_pos q] at h; rw [if_neg q'] at h'; cases h; exact absurd rfl (old h')
    . rw [if_neg q] at h; rw [if_pos q'] at h'; cases h'; exact absurd rfl (old h)
    . rw [if_neg q] at h; rw [if_neg q'] at h'; exact P.inj _ _ _ h h'
def B2 (H : AH) (dj : Addr) (bs : List Str) (J : Str -> Bool) : Prop := ∃ kvs, H dj = some (.sdict kvs) /\ ∀ w, (valueAt kvs w = none /\ (w ∉ bs \/ J w = true)) \/ (J w = false /\ ∃ l, valueAt kvs w = some (.ref l) /\ H l = some (.list (nsv (qS bs w))))
def BJ (H : AH) (sj : Addr) (bs : List Str) (J : Str -> Bool) : Prop := ∃ xs, H sj = some (.sset xs) /\ ∀ w ∈ bs, (w ∈ xs ↔ J w = true)
theorem Pl.fin {H0 H : AH} {bs xs : List Str} {J : Str -> Bool} {kvs kvs' : List (Str × Value)} {dj : Addr} (P : Pl H0 H bs kvs) (hx : ∀ w, w ∈ xs ↔ w ∈ kvs.map (·.1) /\ J w = true) (hd : H dj = some (.sdict kvs')) (hv : ∀ w, valueAt kvs' w = if w ∈ xs then none else valueAt kvs w) : B2 H dj bs J := by
  refine ⟨kvs', hd, λ w => ?_⟩
  rw [hv]
  by_cases q : w ∈ xs
  . rw [if_pos q]; exact .inl ⟨rfl, .inr ((hx w).mp q).2⟩
  . rw [if_neg q]
    cases e : valueAt kvs w with
    | none => exact .inl ⟨rfl, .inl λ z => by have := P.all w z; rw [e] at this; cases this⟩
    | some v =>
      obtain ⟨h1, l, rfl, _, h4⟩ := P.at_ w v e
      refine .inr ⟨?_, l, rfl, h4⟩
      cases z : J w with
      | false => rfl
      | true => exact absurd ((hx w).mpr ⟨key_mem.mpr (by rw [e]; rfl), z⟩) q
theorem Pl.bj {H0 H : AH} {bs xs : List Str} {J : Str -> Bool} {kvs : List (Str × Value)} {sj : Addr} (P : Pl H0 H bs kvs) (hx : ∀ w, w ∈ xs ↔ w ∈ kvs.map (·.1) /\ J w = true) (hs : H sj = some (.sset xs)) : BJ H sj bs J :=
  ⟨xs, hs, λ w hw => by rw [hx, key_mem]; exact ⟨λ z => z.2, λ z => ⟨P.all w hw, z⟩⟩⟩
end
section
open PySem.W.X
theorem Refs.last {H : AH} {vs : List Value} {os : List AO} {o : AO} (h : Refs H vs (os ++ [o])) : ∃ us a, vs = us ++ [.ref a] /\ H a = some o /\ Refs H us os := by
  have hl := h.len
  rw [List.length_append, List.length_singleton] at hl
  rcases List.eq_nil_or_concat vs with rfl | ⟨us, v, rfl⟩
  . simp at hl
  . rw [List.concat_eq_append] at hl h ⊢
    rw [List.length_append, List.length_singleton] at hl
    have hl : us.length = os.length := by ac_nf
    obtain ⟨a, h1, h2⟩ := h.ref os.length o (by rw [List.getElem?_append_right (Nat.le_refl _)]; simp)
    rw [List.getElem?_append_right (by ac_nf), hl] at h1
    simp at h1
    refine ⟨us, a, by rw [h1], h2, hl, λ i o' ho => ?_⟩
    have hi := (List.getElem?_eq_some_iff.mp ho).1
    obtain ⟨b, g1, g2⟩ := h.ref i o' (by rw [List.getElem?_append_left hi]; exact ho)
    rw [List.getElem?_append_left (by ac_nf)] at g1
    exact ⟨b, g1, g2⟩
noncomputable def tupO (is : List Int) : AO := .tup (.type "tuple") (qo is)
abbrev qY (H : AH) (vs : List Value) (rows : List (List Int)) : Prop := Refs H vs (rows.map tupO)
theorem qY.putl {H : AH} {vs us : List Value} {rows : List (List Int)} {b : Addr} {o : AO} (h : qY H vs rows) (hb : H b = some (.list us)) : qY (zD H b o) vs rows := Refs.put h λ o' ho e => by
  obtain ⟨is, _, rfl⟩ := List.mem_map.mp ho
  rw [hb] at e; cases e
theorem qY.snoc {H : AH} {vs : List Value} {rows : List (List Int)} {a : Addr} {is : List Int} (h : qY H vs rows) (ha : H a = some (.tup (.type "tuple") (qo is))) : qY H (vs ++ [.ref a]) (rows ++ [is]) := by
  show Refs _ _ ((rows ++ [is]).map tupO)
  rw [List.map_append]
  exact Refs.snoc h ha
theorem qY.last {H : AH} {vs : List Value} {rows : List (List Int)} {is : List Int} (h : qY H vs (rows ++ [is])) : ∃ us a, vs = us ++ [.ref a] /\ H a = some (.tup (.type "tuple") (qo is)) /\ qY H us rows := by
  have h : Refs _ _ ((rows ++ [is]).map tupO) := h
  rw [List.map_append] at h
  exact Refs.last h
theorem qY.lenT {H : AH} {vs : List Value} {rows : List (List Int)} (h : qY H vs rows) : vs.length = rows.length := by
  have := Refs.len h; rwa [List.length_map] at this
theorem qY.allT {H : AH} {vs : List Value} {rows : List (List Int)} (h : qY H vs rows) : AllT H vs (rows.map qo) := by
  refine ⟨by rw [List.length_map]; exact h.lenT, λ j v row h1 h2 => ?_⟩
  obtain ⟨a, o, rfl, h3, h4⟩ := Refs.get h h1
  rw [List.getElem?_map] at h2 h3
  obtain ⟨is, q1, q2⟩ := Option.map_eq_some_iff.mp h2
  rw [q1] at h3
  cases h3; subst q2
  exact ⟨a, rfl, h4⟩
theorem Rows.putl {H : AH} {vs us : List Value} {rows : List (List Int)} {b : Addr} {o : AO} (h : Rows H true vs rows) (hb : H b = some (.list us)) : Rows (zD H b o) true vs rows := h.put λ is o_ e => by
  rw [hb] at e; cases e
theorem Rows.dell {H : AH} {vs us : List Value} {rows : List (List Int)} {b : Addr} (h : Rows H true vs rows) (hb : H b = some (.list us)) : Rows (qX H b) true vs rows :=
  ⟨h.len, λ i hi => by
    obtain ⟨a, h1, h2⟩ := h.row i hi
    refine ⟨a, h1, ?_⟩
    rw [zv (λ q => by rw [q, hb] at h2; cases h2)]; exact h2⟩
theorem AllM.rows {H : AH} {vs : List Value} {rows : List (List Int)} (h : AllM H vs (rows.map qo)) : Rows H true vs rows := by
  refine ⟨by have := h.1; rwa [List.length_map] at this, λ i hi => ?_⟩
  have hv : i < vs.length := by have := h.1; rw [List.length_map] at this; ac_nf
  obtain ⟨x, h1, h2⟩ := h.2 i vs[i] (qo rows[i]) (List.getElem?_eq_getElem hv) (by rw [List.getElem?_map, List.getElem?_eq_getElem hi]; rfl)
  refine ⟨x, by rw [List.getD_eq_getElem?_getD, List.getElem?_eq_getElem hv]; exact h1, ?_⟩
  rw [List.getD_eq_getElem?_getD, List.getElem?_eq_getElem hi]; exact h2
noncomputable abbrev qc (T : List qA) (k : Nat) : qA × List qA := (T.take k).foldl yN ((0, 0, 0), [])
theorem mg_succ (T : List qA) {k : Nat} {x : qA} (h : T[k]? = some x) : qc T (k + 1) = yN (qc T k) x := by
  unfold qc
  rw [List.take_add_one, h, List.foldl_append]; rfl
theorem mg_len (T : List qA) : ∀ (k : Nat), (qc T k).2.length <= k
  | 0 => Nat.le_refl _
  | k + 1 => by
    have ih := mg_len T k
    cases h : T[k]? with
    | none =>
      unfold qc at ih ⊢
      rw [List.take_add_one, h]; simp only [Option.toList_none, List.append_nil]; ac_nf
    | some x =>
      rw [mg_succ T h]
      unfold yN
      split
      . exact Nat.le_succ_of_le ih
      . dsimp only
        split
        . exact Nat.le_succ_of_le ih
        . rw [List.length_append]; exact Nat.succ_le_succ ih
section
variable {X : Wd} {A : Around} {L : Addr} {S : St} {env : Env} {C : Cx} {s : Shared}
theorem aug_add {i j : Int} {Φ : Value -> St -> Prop} (h : Φ (.int (i + j) 0) S) : ∀ c d, er c = .int i 0 -> er d = .int j 0 -> EV X A L (inplaceOp .Add c d) S Φ := λ c d hc hd C s hB R => by
  obtain ⟨u, rfl⟩ := zQ hc
  obtain ⟨v, rfl⟩ := zQ hd
  exact PySem.AutoIntOps.iadd_0 ⟨S, R.tok _, h⟩
theorem Room.in3 {n : Nat} (h : Room A (n + 1)) : Room A.in1.in1.in1 n := ⟨h.hh, by have := h.dp; show A.depth + n < recursionLimit; ac_nf, by have := h.un; show A.units + 1 + 1 + 1 + 3 * n + 50 < cLine; ac_nf⟩
end
end
section
variable {X : Wd} {A : Around} {L : Addr} {S : St} {env : Env} {C : Cx} {s : Shared}
theorem callWith_M {prog : Program} {w : World} {P : Params} {E : Value -> Shared -> Prop} {pos : Pos} {args : List (Bool × Sem Value)} {Q : Value -> Shared -> Prop}
    (h : wpAny (model prog w) A (evalArgs (.ref 191) true args []) (λ x s1z => s1z.heap.get? 191 = some (k191 P) /\ x.kw = [] /\ wpAny (model prog w) A (call (.ref 191) x.pos) Q E s1z) E s) (hplain : args.any (·.1) = false) :
    wpAny (model prog w) A (callWith pos (.ref 191) [] args []) Q E s := by
  have hst : (args.any (λ x => x.fst) || ([] : List (Option Str × Sem Value)).any λ x => x.fst.isNone) = false := by
    rw [hplain]; rfl
  unfold callWith
  refine wpAny_bind (wpAny_holding (wpAny_mono h (λ x s1z h₁ => ?_) λ o_ o_ x => x))
  obtain ⟨hC, hkw, hcall⟩ := h₁
  obtain ⟨ps, kws⟩ := x
  dsimp only at hkw hcall
  subst hkw
  obtain ⟨hh, g, d, t, os⟩ := s1z
  have f1 := tc_lookup
  have hT : (⟨hh, g, d, t, os⟩ : Shared).TypeIs (.ref 191) "type" := ⟨_, hC, rfl⟩
  refine wpAny_bind (wpAny_standAt ?_)
  show wpAny _ _ (keeperOf (.ref 191) >>= _) _ _ _
  unfold keeperOf specialOf
  repeat (any_goals (first | assumption | with_reducible refine wpAny_loadPart_at hC ?_ | with_reducible refine wpAny_load' hC ?_ | wp_step))
  rw [if_pos (by rfl), hst]
  show wpAny _ _ (call (.ref 191) ps [] >>= λ r => do holding [r] point; pure r) _ _ _
  exact wpAny_bind (wpAny_mono hcall (λ r s' hr => wpAny_bind (wpAny_holding (wpAny_point (wpAny_pure hr)))) λ o_ o_ x => x)
theorem callW_M (T : TopK X) {pos : Pos} {e : Expr} {es : List Expr} {Φ : Value -> St -> Prop} (h : yC X A L pos (e :: es) env S λ vs S1 => zO X A L (.ref 191) vs S1 Φ)
    (hn : true = (e :: es).all qj := by with_unfolding_all rfl) : jL X A L pos (.ref 191) [] (e :: es) env S Φ := by
  obtain ⟨he, hp⟩ := yy (env := env) (pos := pos) hn
  intro cs hcs C s hB R
  rw [map0 hcs]
  have hb : wpAny (model X.prog X.w) A (spliced (backTo pos (starEach (e :: es) env))) (λ vs s1z => X.kept s1z.heap /\ wpAny (model X.prog X.w) A (call (.ref 191) vs []) (λ a => Got X C L (Φ (er a))) Fa s1z) Fa s :=
      Wp.then hB R h λ vs S1 s1z R1z h₁ => ⟨R1z.kept hB, h₁ _ rfl C s1z hB R1z⟩
  rw [he] at hb ⊢
  have hpl : (backTo pos ((false, eval e env) :: starEach es env)).any (·.1) = false := by
    show (false || (backTo pos (starEach es env)).any (·.1)) = false
    rw [hp]; rfl
  exact callWith_M (Calls.evalArgs_plain (wpAny_mono hb (λ o_ o_ h' => ⟨T.frag _ h'.1 191 (k191 X.w.params) (by rfl), rfl, h'.2⟩) λ o_ o_ x => x)) hpl
end
structure Up {α : Type} (Φ Φ' : α -> St -> Prop) : Prop where
  to : ∀ a S, Φ a S -> Φ' a S
theorem Up.fin {α : Type} {Φ Φ' : α -> St -> Prop} {a : α} {S : St} (u : Up Φ Φ') (h : Φ a S) : Φ' a S := u.to a S h
section
variable {X : Wd} {A : Around} {L : Addr} {S : St} {env : Env}
theorem Wp.opq {α : Type} {t : Sem α} {Φ : α -> St -> Prop} (h : ∀ Φ', Up Φ Φ' -> Wp X A L t S Φ') : Wp X A L t S Φ := h Φ ⟨λ o_ o_ h => h⟩
theorem qH {st : Stmt} {rest : List Stmt} {Φ : Flow -> St -> Prop} (Ψ : St -> Prop) (h : ∀ Φ', Up (λ f S' => f = .next /\ Ψ S') Φ' -> Wp X A L (exec st env) S Φ') (k : ∀ S', Ψ S' -> Wp X A L (execs rest env) S' Φ) : Wp X A L (execs (st :: rest) env) S Φ :=
  wp_seq Ψ (Wp.opq h) k
theorem yU {target : Expr} {body : List Stmt} {a : Addr} {vs : List Value} {Φ : Flow -> St -> Prop} (hh : A.handled = none) (hl : S.H a = some (.list vs)) (I : Nat -> St -> Prop) (h0 : I 0 S) (hsrc : ∀ k S, I k S -> S.H a = some (.list vs))
    (step : ∀ k (Ψ : St -> Prop) Φ', (∀ S2, Wp X A L (execs body env) S2 Φ' -> Ψ S2) -> Up (Turn (I (k + 1)) Φ) Φ' -> ∀ u S1, vs[k]? = some u -> I k S1 -> qs X A L target env u S1 Ψ) (fin : ∀ S, I vs.length S -> Φ .next S) : ForE X A L target body env (.ref a) S Φ :=
  for_list hh hl I h0 hsrc (λ k u S1 hu hI => step k _ _ (λ o_ h => h) ⟨λ o_ o_ h => h⟩ u S1 hu hI) fin
theorem for_rangeNO {target : Expr} {body : List Stmt} {r : Addr} {p q : Nat} {Φ : Flow -> St -> Prop} (hh : A.handled = none) (hl : S.H r = some (.range (p : Int) (q : Int) 1)) (hp : p < 2 ^ 62) (hq : q < 2 ^ 62) (I : Nat -> St -> Prop) (h0 : I p S)
    (step : ∀ x (Ψ : St -> Prop) Φ', (∀ S2, Wp X A L (execs body env) S2 Φ' -> Ψ S2) -> Up (Turn (I (x + 1)) Φ) Φ' -> ∀ S1, p <= x -> x < q -> I x S1 -> qs X A L target env (.int (x : Int) 0) S1 Ψ) (fin : ∀ S, I (max p q) S -> Φ .next S) : ForE X A L target body env (.ref r) S Φ :=
  for_rangeN hh hl hp hq I h0 (λ x S1 h1 h2 hI => step x _ _ (λ o_ h => h) ⟨λ o_ o_ h => h⟩ S1 h1 h2 hI) fin
theorem qi {test : Expr} {body : List Stmt} {pos : Pos} {Φ : Flow -> St -> Prop} (I : Nat -> St -> Prop) (n : Nat) (h0 : I n S)
    (turn : ∀ n (Ψ : Bool -> St -> Prop) Φ', (∀ S1, Wp X A L (execs body env) S1 Φ' -> Ψ true S1) -> (∀ S1, Φ .next S1 -> Ψ false S1) -> Up (Turn (λ S2 => ∃ m, m < n /\ I m S2) Φ) Φ' -> ∀ S, I n S -> TV X A L test env S Ψ) : Wp X A L (exec (.While test body [] pos) env) S Φ :=
  ex_While I n h0 λ n S hI => turn n (λ b S1 => Ways b (Wp X A L (execs body env) S1 (Turn (λ S2 => ∃ m, m < n /\ I m S2) Φ)) (Φ .next S1)) _ (λ o_ h => zV h) (λ o_ h => zI h) ⟨λ o_ o_ h => h⟩ S hI
end
theorem pickE {l : List Str} {p u : Nat} (h : u < p) (h1 : p <= l.length) : l[u]? = some (l.getD u "") := by
  rw [List.getD_eq_getElem?_getD, List.getElem?_eq_getElem (Nat.lt_of_lt_of_le h h1)]; rfl
theorem pickD {l : List Str} {p u : Nat} (h : p < u) (h1 : u <= l.length) : l[u - 1]? = some (l.getD (u - 1) "") :=
  pickE (Nat.sub_lt (Nat.lt_of_le_of_lt (Nat.zero_le _) h) Nat.one_pos) h1
theorem some_pred {p u : Nat} (h : p < u) : some (Value.int ((u : Int) - 1) 0) = some (Value.int ((u - 1 : Nat) : Int) 0) := congrArg (λ z => some (Value.int z 0)) (by ac_nf)
theorem back_int {k i : Nat} (h : k + 1 <= i + 1) : some (Value.int ((i : Int) - ((k : Int) + 1) + 1) 0) = some (Value.int ((i + 1 - (k + 1) : Nat) : Int) 0) := congrArg (λ z => some (Value.int z 0)) (by ac_nf)
theorem wp_cutO {X : Wd} {A : Around} {L : Addr} {S : St} {env : Env} {st : Stmt} {Φ : Flow -> St -> Prop} (Ψ : St -> Prop) (h : ∀ Φ', Up (λ f S' => f = .next /\ Ψ S') Φ' -> Wp X A L (exec st env) S Φ') (k : ∀ S', Ψ S' -> Φ .next S') : Wp X A L (exec st env) S Φ := wp_cut Ψ (Wp.opq h) k
def Pe (X : Wd) (A : Around) (L : Addr) (env : Env) (e : Expr) (S : St) (v : Value) : Prop := ∀ Φ : Value -> St -> Prop, Φ v S -> EV X A L (eval e env) S Φ
noncomputable def Pes (X : Wd) (A : Around) (L : Addr) (env : Env) : List Expr -> St -> List Value -> Prop
  | [], _, vs => vs = []
  | e :: es, S, vs => ∃ u us, vs = u :: us /\ Pe X A L env e S u /\ Pes X A L env es S us
section
variable {X : Wd} {A : Around} {L : Addr} {env : Env} {S : St}
theorem pv_local {x : Str} {pos : Pos} {S : St} {v : Value} (hv : S.m x = some v) (hl : true = qk .local env x := by with_unfolding_all rfl) (hL : L = env.locals := by with_unfolding_all rfl) : Pe X A L env (.Name x pos) S v := λ o_ h => ev_local hv h hl hL
theorem pv_builtin {x : Str} {pos : Pos} {g b : Addr} {v : Value} {S : St} (hv : qG X g b x v) (hg : g = env.globals := by with_unfolding_all rfl) (hb : b = env.builtins := by with_unfolding_all rfl) (hx : true = qk .globalImplicit env x := by with_unfolding_all rfl) : Pe X A L env (.Name x pos) S (er v) := λ o_ h => ev_builtin hv h hg hb hx
theorem pv_global {x : Str} {pos : Pos} {g : Addr} {v : Value} {S : St} (hv : yg X g x v) (hg : g = env.globals := by with_unfolding_all rfl) (hx : true = qk .globalImplicit env x := by with_unfolding_all rfl) : Pe X A L env (.Name x pos) S (er v) := λ o_ h => ev_global hv h hg hx
theorem pv_cell {x : Str} {pos : Pos} {c : Addr} {v : Value} {S : St} (hc : env.cells.lookup x = some c) (hv : S.H c = some (.cell (some v))) (hl : true = qk .cell env x := by with_unfolding_all rfl) : Pe X A L env (.Name x pos) S v := λ o_ h => ev_cell hc hv h hl
theorem pv_int {i : Int} {k : Nat} {pos : Pos} : Pe X A L env (.Constant (.int i) k pos) S (.int i 0) := λ o_ h => ev_int h
theorem pv_str {x : Str} {k : Nat} {pos : Pos} : Pe X A L env (.Constant (.str x) k pos) S (.str x 0) := λ o_ h => ev_str h
theorem pv_none {k : Nat} {pos : Pos} : Pe X A L env (.Constant .none k pos) S .none := λ o_ h => ev_none h
theorem pv_add {l r : Expr} {pos : Pos} {S : St} {i j : Int} (h1 : Pe X A L env l S (.int i 0)) (h2 : Pe X A L env r S (.int j 0)) : Pe X A L env (.BinOp l .Add r pos) S (.int (i + j) 0) := λ o_ h => ev_BinOp (h1 _ (h2 _ (bin_add h)))
theorem pv_sub {l r : Expr} {pos : Pos} {S : St} {i j : Int} (h1 : Pe X A L env l S (.int i 0)) (h2 : Pe X A L env r S (.int j 0)) : Pe X A L env (.BinOp l .Sub r pos) S (.int (i - j) 0) := λ o_ h => ev_BinOp (h1 _ (h2 _ (bin_sub h)))
theorem pvs_nil {S : St} : Pes X A L env [] S [] := rfl
theorem pvs_cons {e : Expr} {es : List Expr} {S : St} {u : Value} {us : List Value} (h : Pe X A L env e S u) (h' : Pes X A L env es S us) : Pes X A L env (e :: es) S (u :: us) := ⟨u, us, rfl, h, h'⟩
theorem items_all {pos : Pos} : ∀ {es : List Expr} {S : St} {vs : List Value} {Φ : List Value -> St -> Prop}, Pes X A L env es S vs -> Φ vs S -> (hn : true = es.all qj := by with_unfolding_all rfl) -> yC X A L pos es env S Φ
  | [], S, vs, Φ, h, k, _ => by
    cases h; exact items_nil k
  | e :: es, S, vs, Φ, h, k, hn => by
    obtain ⟨u, us, rfl, h1, h2⟩ := h
    have hn := hn.symm
    rw [List.all_cons, Bool.and_eq_true] at hn
    exact items_cons (h1 _ (items_all h2 k hn.2.symm)) hn.1.symm
theorem ev_Sub2 {l r : Expr} {pos : Pos} {u v : Value} {Φ : Value -> St -> Prop} (h1 : Pe X A L env l S u) (h2 : Pe X A L env r S v) (h : jJ X A L u v S Φ) : EV X A L (eval (.Subscript l r pos) env) S Φ := ev_Sub (h1 _ (h2 _ h))
theorem tv_Compare2 {l r : Expr} {op : CmpOp} {pos : Pos} {u v : Value} {Φ : Bool -> St -> Prop} (h1 : Pe X A L env l S u) (h2 : Pe X A L env r S v) (h : yL X A L op u v S λ b S3 => TruE X A L b S3 Φ) (hm : false = behindInMarks op r := by with_unfolding_all rfl) : TV X A L (.Compare l [op] [r] pos) env S Φ := tv_Compare (h1 _ (h2 _ h)) hm
theorem ev_CallName2 {x : Str} {p pos : Pos} {es : List Expr} {v : Value} {Φ : Value -> St -> Prop} (h1 : Pe X A L env (.Name x p) S v) (h : ∀ c, er c = v -> jL X A L pos c [] es env S Φ) : EV X A L (eval (.Call (.Name x p) es [] pos) env) S Φ := ev_CallName (h1 _ h)
theorem ev_CallMeth2 {o : Expr} {name : Str} {apos pos : Pos} {es : List Expr} {v : Value} {Φ : Value -> St -> Prop} (h1 : Pe X A L env o S v) (h : yf X A L v name S λ f first S2 => jL X A L pos f first es env S2 Φ)
    (hbase : eval o env = attributeBase o name env (eval o env) := by with_unfolding_all rfl)
    (hfew : true = ((backTo pos (starEach es env)).all (λ x => !x.1) && (backToKw pos (keywordEach [] env)).all (λ x => x.1.isSome)
      && decide (es.length + ([] : List Keyword).length + (if ([] : List Keyword).isEmpty then 0 else 1) < 30)) := by with_unfolding_all rfl)
    (hline : true = (apos.endLine == pos.line) := by with_unfolding_all rfl) : EV X A L (eval (.Call (.Attribute o name apos) es [] pos) env) S Φ := ev_CallMeth (h1 _ h) hbase hfew hline
theorem ev_pure {e : Expr} {v : Value} {Φ : Value -> St -> Prop} (h1 : Pe X A L env e S v) (h : Φ v S) : EV X A L (eval e env) S Φ := h1 _ h
theorem ex_AssignP {x : Str} {px : Pos} {value : Expr} {pos : Pos} {v : Value} {Φ : Flow -> St -> Prop} (h1 : Pe X A L env value S v) (h : Φ .next { S with m := zb S.m x v })
    (hL : L = env.locals := by with_unfolding_all rfl) (hs : pure false = swapsWith value (some (.Name x px)) pos.line env := by with_unfolding_all rfl) (hl : true = qk .local env x := by with_unfolding_all rfl) : Wp X A L (exec (.Assign [.Name x px] value pos) env) S Φ := ex_Assign (h1 _ h) hL hs hl
theorem ev_AttrP {o : Expr} {name : Str} {pos : Pos} {v : Value} {Φ : Value -> St -> Prop} (h1 : Pe X A L env o S v) (h : AttrE X A L v name S Φ)
    (he : eval (.Attribute o name pos) env = (do
      let v <- eval o env
      standAt pos.atName
      let r <- holding [v] (getAttr v name true)
      letTemporaryGo o v r
      pure r) := by with_unfolding_all rfl) : EV X A L (eval (.Attribute o name pos) env) S Φ := ev_Attr (h1 _ h) he
theorem ex_ReturnP {e : Expr} {pos : Pos} {v : Value} {Φ : Flow -> St -> Prop} (h1 : Pe X A L env e S v) (h : ∀ c, er c = v -> Φ (.ret c) S) : Wp X A L (exec (.Return (some e) pos) env) S Φ := ex_Return (h1 _ h)
theorem asg_SubP {o i : Expr} {pos : Pos} {u k v : Value} {Ψ : St -> Prop} (h1 : Pe X A L env o S u) (h2 : Pe X A L env i S k) (h : SetE X A L u k v S Ψ) : qs X A L (.Subscript o i pos) env v S Ψ := asg_Sub (h1 _ (h2 _ h))
theorem ex_ForP {target iter : Expr} {body : List Stmt} {pos : Pos} {v : Value} {Φ : Flow -> St -> Prop} (h1 : Pe X A L env iter S v) (h : ForE X A L target body env v S Φ)
    (hs : ∀ x, pure x = foldedSetIterable iter env x := by intro _; with_unfolding_all rfl) : Wp X A L (exec (.For target iter body [] pos) env) S Φ := ex_For (h1 _ h) hs
end
end Mine
end
section
open PySem PySem.W PyProof.Rows
namespace Mine
local macro_rules | `(tactic| walk_at "m") => `(tactic| with_reducible first
  | assumption
  | exact mset_hit
  | (show zb ?m _ _ ?y = ?r; with_unfolding_all refine (?_ : ?m ?y = ?r); walk_at "m")
  | with_unfolding_all rfl)
local macro_rules | `(tactic| walk_at $k:str) => do
  let k := k.getString
  if k == "S" then return (<- `(tactic| repeat walk_at "s"))
  let l := if k == "H" then "a,a,zm.get:2 zA:0 a,?,zB:2/H a,?,hset_miss:2/H n,?,hset_miss:2/H" else if k == "p" then "m,pv_local:1/_,_,_,_,_,_,Expr.Name:2,_,_,Pe:7 a,pv_builtin:1/_,_,_,_,_,_,Expr.Name:2,_,_,Pe:7 a,pv_global:1/_,_,_,_,_,_,Expr.Name:2,_,_,Pe:7 u,H,pv_cell:2/_,_,_,_,_,_,Expr.Name:2,_,_,Pe:7 pv_int:0 pv_str:0 pv_none:0 p,p,pv_add:2/_,_,_,_,_,Operator.Add:0,_,_,Expr.BinOp:4,_,_,Pe:7 p,p,pv_sub:2/_,_,_,_,_,Operator.Sub:0,_,_,Expr.BinOp:4,_,_,Pe:7" else if k == "P" then "pvs_nil:0 p,P,pvs_cons:2/_,_,_,_,_,_,List.cons:2,_,_,Pes:7" else if k == "s" then "m,?,ev_local:2/_,_,_,_,_,Expr.Name:2,_,eval:2,_,_,EV:6 a,?,ev_builtin:2 a,?,ev_global:2 u,H,?,ev_cell:3 u,H,?,ev_free:3 ?,ev_int:1 ?,ev_str:1 ?,ev_none:1 ?,ev_bool:1 p,?,ev_pure:2/_,_,_,_,_,_,_,Expr.BinOp:4,_,eval:2,_,_,EV:6 ?,ev_BinOp:1 p,?,ev_AttrP:2/_,_,_,_,_,_,Expr.Attribute:3,_,eval:2,_,_,EV:6 ?,ev_Attr:1 ?,ev_IfExp:1 ?,ev_Compare:1 p,p,?,ev_Sub2:3/_,_,_,_,_,_,Expr.Subscript:3,_,eval:2,_,_,EV:6 ?,ev_Sub:1 ?,un_neg:1 ?,ev_Tuple:1 ?,ev_List:1 p,?,ev_CallName2:2/_,_,_,_,_,Expr.Name:2,_,_,_,Expr.Call:4,_,eval:2,_,_,EV:6 p,?,ev_CallMeth2:2/_,_,_,_,_,_,Expr.Attribute:3,_,_,_,Expr.Call:4,_,eval:2,_,_,EV:6 ?,ev_CallMeth:1 p,p,?,tv_Compare2:3/_,_,_,_,_,_,_,Expr.Compare:4,_,_,_,TV:7 ?,tv_Compare:1 ?,tv_BoolOp:1 ?,tv_Not:1 ?,tv_value:1 ?,all_And_nil:1 ?,all_Or_nil:1 ?,all_And_cons:1 ?,all_Or_cons:1 ?,ev_Slice:1 ?,part_none:1 ?,part_some:1 P,?,items_all:2/_,_,_,_,_,_,_,_,yC:8 ?,items_cons:1 ?,qB:1 ?,zM:1 p,?,ex_AssignP:2/_,_,_,_,_,Expr.Name:2,_,List.cons:2,_,_,Stmt.Assign:3,_,exec:2,_,_,Wp:6 ?,ex_Assign:1 ?,jZ:1/_,_,_,_,_,_,Expr.Attribute:3,_,List.cons:2,_,_,Stmt.Assign:3,_,exec:2,_,_,Wp:6 ?,jZ:1/_,_,_,_,_,_,Expr.Tuple:3,_,List.cons:2,_,_,Stmt.Assign:3,_,exec:2,_,_,Wp:6 ?,jZ:1/_,_,_,_,_,_,Expr.Subscript:3,_,List.cons:2,_,_,Stmt.Assign:3,_,exec:2,_,_,Wp:6 ?,ex_Expr:1 ?,ex_If:1 p,?,ex_ReturnP:2/_,_,_,_,Option.some:1,_,Stmt.Return:2,_,exec:2,_,_,Wp:6 ?,ex_Return:1 ?,ex_ReturnNone:1 ?,ex_Break:1 ?,ex_Continue:1 p,?,ex_ForP:2/_,_,_,_,_,_,_,_,Stmt.For:5,_,exec:2,_,_,Wp:6 ?,ex_For:1 T ?,qW:1 ?,then_brk:1 ?,then_cont:1 ?,zH:1 u,H,?,qV:3 ?,zy:1 ?,zG:1 ?,asg_Attr:1 p,p,?,asg_SubP:3/_,_,_,_,_,_,Expr.Subscript:3,_,_,_,_,qs:8 ?,asg_Sub:1 ?,bin_add:1 ?,bin_sub:1 ?,cmp_lt:1 ?,cmp_gt:1 ?,cmp_ge:1 ?,cmp_eq:1 ?,cmp_ne:1 ?,cmp_eqs:1 ?,cmp_nes:1 H,?,cmp_inS:2 H,?,cmp_notInS:2 ?,zd:1 a,?,Up.fin:2" else ""
  if l == "" then Lean.Macro.throwUnsupported
  let a <- `(by assumption)
  let u <- `(by with_unfolding_all rfl)
  let h <- `(_)
  let g <- `(?_)
  let b <- `(by walk_at "x")
  let t <- `(tactic| with_reducible first | assumption | (show x; refine y) | refine x | (show Then _ _ _ _ _ _ .next _; with_unfolding_all refine (?_ : Wp _ _ _ (execs _ _) _ _)) | (refine x; walk_at "H"))
  let f (w : String) : Lean.Term := if w == "_" then h else if w == "?" then g else if w == "a" then a else if w == "u" then u else if w == "n" then Lean.Syntax.mkApp (Lean.mkIdent `Ne.symm) #[a]
    else ⟨subS 20 (λ s => if s.isOfKind `str then Lean.Syntax.mkStrLit w else s) b.raw⟩
  return subS 20 (λ s => if s.getNumArgs == 5 && s.isOfKind `null then altsS f s (if k == "H" then #[s.getArg 0] else #[]) (l.splitOn " ") else s) t.raw
section
variable {X : Wd} {A : Around} {L fa : Addr} {m : Str -> Option Value} {H : AH}
inductive BestH (H H' : AH) (m : Str -> Option Value) (a b junk box : Addr) (i j n : Nat) : Prop
  | mk (ext : zm H H') (ma : m "a" = some (.ref a)) (mb : m "b" = some (.ref b)) (mj : m "junk" = some (.ref junk)) (mx : m "box" = some (.ref box)) (mi : m "i" = some (.int i 0)) (mjj : m "j" = some (.int j 0)) (mn : m "size" = some (.int n 0))
theorem best_body {a b junk box : Addr} {as bs js : List Str} {p0 p1 q0 q1 : Nat} {Φ : Flow -> St -> Prop} (hh : A.handled = none) (hr : qG X mainGlobals builtinsNs "range" (.type "range"))
   (ma : m "a" = some (.ref a)) (mb : m "b" = some (.ref b)) (mj : m "junk" = some (.ref junk)) (mx : m "box" = some (.ref box))
   (ha : H a = some (.list (zZ as))) (hb : H b = some (.list (zZ bs))) (hj : H junk = some (.list (zZ js))) (hx : H box = some (.list [.int p0 0, .int p1 0, .int q0 0, .int q1 0]))
   (h0p : p0 <= p1) (h0q : q0 <= q1) (hp : p1 <= as.length) (hq : q1 <= bs.length) (la : as.length < 2 ^ 20) (lb : bs.length < 2 ^ 20)
   (h : ∀ i j n t S', Res as bs js.contains p0 p1 q0 q1 i j n -> zm H S'.H -> S'.H t = some (.tup (.type "tuple") [.int i 0, .int j 0, .int n 0]) -> ∀ c, er c = .ref t -> Φ (.ret c) S') :
   Wp X A L (execs (bodyOf yt) (callEnv yt L fa)) ⟨m, H⟩ Φ := by
  have la62 : as.length < 2 ^ 62 := Nat.lt_trans la (by decide)
  have lb62 : bs.length < 2 ^ 62 := Nat.lt_trans lb (by decide)
  with_unfolding_all refine zM ?_
  walk_at "S"
  refine zh hx (k := 0) (by decide) rfl ?_
  walk_at "S"
  refine zh hx (k := 2) (by decide) rfl ?_
  walk_at "S"
  refine yo ?_
  walk_at "S"
  refine zh hx (k := 0) (by decide) rfl ?_
  walk_at "S"
  refine zh hx (k := 1) (by decide) rfl ?_
  walk_at "S"
  refine call_range2 ?_
  intro r hr'
  refine for_rangeNO hh (by walk_at "H") (p := p0) (q := p1) (Nat.lt_of_le_of_lt (Nat.le_trans h0p hp) la62) (Nat.lt_of_le_of_lt hp la62) (λ x S => ∃ i j n, BestH H S.H S.m a b junk box i j n /\ BestTo (Ok as bs js.contains p1 q1) p0 q0 (ColD p0 p1 q0 q1 x) i j n) ?_ ?_ ?_
  . exact ⟨p0, q0, 0, ⟨(zm.refl _).new hr', ma, mb, mj, mx, rfl, rfl, rfl⟩, BestTo.start λ o_ o_ => ColD.none⟩
  . rintro p Ψ Φ1 u1 up1 Z1 hp0 hp1 ⟨i, j, n, B, hB⟩
    obtain ⟨ext, ma, mb, mj, mx, mi, mjj, mn⟩ := B
    try dsimp only at ext ma mb mj mx mi mjj mn
    refine zH (u1 _ ?_)
    walk_at "S"
    refine yo ?_
    walk_at "S"
    refine zh (by walk_at "H") (k := 2) (by decide) rfl ?_
    walk_at "S"
    refine zh (by walk_at "H") (k := 3) (by decide) rfl ?_
    walk_at "S"
    refine call_range2 ?_
    intro r hr'
    refine for_rangeNO hh (by walk_at "H") (p := q0) (q := q1) (Nat.lt_of_le_of_lt (Nat.le_trans h0q hq) lb62) (Nat.lt_of_le_of_lt hq lb62) (λ y S => ∃ i j n, A3 (S.m "p" = some (.int p 0)) (BestH H S.H S.m a b junk box i j n) (BestTo (Ok as bs js.contains p1 q1) p0 q0 (RowD p0 p1 q0 q1 p y) i j n)) ?_ ?_ ?_
    . exact ⟨i, j, n, rfl, ⟨ext.new hr', ma, mb, mj, mx, mi, mjj, mn⟩, hB.cong RowD.first⟩
    . rintro y Ψ2 Φ2 u2 up2 Z2 hy0 hy1 ⟨i, j, n, mp, B, hB⟩
      obtain ⟨ext, ma, mb, mj, mx, mi, mjj, mn⟩ := B
      try dsimp only at ext ma mb mj mx mi mjj mn mp
      refine zH (u2 _ ?_)
      walk_at "S"
      refine wp_cutO (λ S => ∃ k : Nat, A6 (S.m "k" = some (.int k 0)) (S.m "p" = some (.int p 0)) (S.m "r" = some (.int y 0)) (BestH H S.H S.m a b junk box i j n) (Run (Ok as bs js.contains p1 q1) p y k) (¬ Ok as bs js.contains p1 q1 (p + k) (y + k))) ?_ ?_
      . intro Φ3 up3
        refine qi (λ f S => ∃ k : Nat, A6 (p + k + f = p1) (S.m "k" = some (.int k 0)) (S.m "p" = some (.int p 0)) (S.m "r" = some (.int y 0)) (BestH H S.H S.m a b junk box i j n) (Run (Ok as bs js.contains p1 q1) p y k)) (p1 - p) ⟨0, Nat.add_sub_of_le (Nat.le_of_lt hp1), rfl, mp, rfl, ⟨ext, ma, mb, mj, mx, mi, mjj, mn⟩, λ t ht => absurd ht (Nat.not_lt_zero t)⟩ ?_
        rintro f Ψ4 Φ4 u3 u4 up4 Z3 ⟨k, hf, mk, mp, mr, B, hrun⟩
        obtain ⟨ext, ma, mb, mj, mx, mi, mjj, mn⟩ := B
        try dsimp only at ext ma mb mj mx mi mjj mn mp mk mr
        refine yW (Ok as bs js.contains p1 q1 (p + k) (y + k)) ?_ (λ hok => u3 _ ?_) (λ hno => u4 _ (up3.to _ _ ⟨rfl, k, mk, mp, mr, ⟨ext, ma, mb, mj, mx, mi, mjj, mn⟩, hrun, hno⟩))
        . walk_at "S"
          refine zh (by walk_at "H") (k := 1) (by decide) rfl ?_
          walk_at "S"
          refine zN (λ h1 => ?_) (λ h1 => ⟨rfl, zY λ z => h1 (Int.ofNat_lt.mpr z.1)⟩)
          walk_at "S"
          refine zh (by walk_at "H") (k := 3) (by decide) rfl ?_
          walk_at "S"
          refine zN (λ h2 => ?_) (λ h2 => ⟨rfl, zY λ z => h2 (Int.ofNat_lt.mpr z.2.1)⟩)
          have h1 : p + k < p1 := Int.ofNat_lt.mp h1
          have h2 : y + k < q1 := Int.ofNat_lt.mp h2
          have g1 := pickE h1 hp
          have g2 := pickE h2 hq
          walk_at "S"
          refine zj (by walk_at "H") (p + k) rfl (qp g1 la) g1 ?_
          walk_at "S"
          refine zj (by walk_at "H") (y + k) rfl (qp g2 lb) g2 ?_
          walk_at "S"
          refine qN (λ h3 => ?_) (λ h3 => ⟨rfl, zY λ z => h3 (z.2.2.eq g1 g2)⟩)
          walk_at "S"
          refine zj (by walk_at "H") (p + k) rfl (qp g1 la) g1 ?_
          walk_at "S"
          refine ways_not (qO (λ h4 => ⟨rfl, zY λ z => Bool.noConfusion (h4.symm.trans (z.2.2.fst g1))⟩) (λ h4 => ?_))
          walk_at "S"
          exact ⟨rfl, qz ⟨h1, h2, At.of g1 g2 h3 (h3 ▸ h4)⟩⟩
        . walk_at "S"
          obtain ⟨f', hf', ef⟩ := fuel_step hf hok.1
          exact ⟨f', hf', k + 1, ef, rfl, mp, mr, ⟨ext, ma, mb, mj, mx, mi, mjj, mn⟩, λ t ht => (Nat.lt_succ_iff_lt_or_eq.mp ht).elim (hrun t) λ e => e ▸ hok⟩
      . rintro Z3 ⟨k, mk, mp, mr, B, hrun, hno⟩
        obtain ⟨ext, ma, mb, mj, mx, mi, mjj, mn⟩ := B
        try dsimp only at ext ma mb mj mx mi mjj mn mp mk mr
        walk_at "S"
        refine zN (λ h1 => ?_) (λ h1 => ?_)
        . walk_at "S"
          exact ⟨p, y, k, mp, ⟨ext, ma, mb, mj, mx, rfl, rfl, rfl⟩, hB.more hrun (Int.ofNat_lt.mp h1) hno (RowD.step hp0 hp1 hy0 hy1)⟩
        . walk_at "S"
          exact ⟨i, j, n, mp, ⟨ext, ma, mb, mj, mx, mi, mjj, mn⟩, hB.less (Nat.le_of_not_lt λ z => h1 (Int.ofNat_lt.mpr z)) hno (RowD.step hp0 hp1 hy0 hy1) λ u v z => z.2⟩
    . rintro S2 ⟨i, j, n, mp, B, hB⟩
      walk_at "S"
      exact ⟨i, j, n, B, hB.cong RowD.last⟩
  . rintro Z1 ⟨i, j, n, B, hB⟩
    have hB := hB.cong (D' := InBox p0 p1 q0 q1) ColD.all
    have hij := hB.lies h0p h0q
    have hi1 := Nat.le_trans (Nat.le_trans (Nat.le_add_right _ _) hij.2.1) hp
    have hj1 := Nat.le_trans (Nat.le_trans (Nat.le_add_right _ _) hij.2.2.2) hq
    obtain ⟨ext, ma, mb, mj, mx, mi, mjj, mn⟩ := B
    try dsimp only at ext ma mb mj mx mi mjj mn
    walk_at "S"
    refine wp_cutO (λ S => ∃ g u v : Nat, A6 (S.m "ahead" = some (.int g 0)) (BestH H S.H S.m a b junk box i j n) (u + g = i) (v + g = j) (Bks as bs js.contains p0 q0 u v g) (¬ Bk as bs js.contains p0 q0 u v)) ?_ ?_
    . intro Φ1 up1
      refine qi (λ u S => ∃ g v : Nat, A5 (S.m "ahead" = some (.int g 0)) (BestH H S.H S.m a b junk box i j n) (u + g = i) (v + g = j) (Bks as bs js.contains p0 q0 u v g)) _ ⟨0, j, rfl, ⟨ext, ma, mb, mj, mx, mi, mjj, mn⟩, rfl, rfl, Bks.zero⟩ ?_
      rintro u Ψ2 Φ2 u1 u2 up2 Z2 ⟨g, v, mg, B, e1, e2, hrun⟩
      obtain ⟨ext, ma, mb, mj, mx, mi, mjj, mn⟩ := B
      try dsimp only at ext ma mb mj mx mi mjj mn mg
      have s1 := sub_cast e1
      have s2 := sub_cast e2
      refine yW (Bk as bs js.contains p0 q0 u v) ?_ (λ hok => u1 _ ?_) (λ hno => u2 _ (up1.to _ _ ⟨rfl, g, u, v, mg, ⟨ext, ma, mb, mj, mx, mi, mjj, mn⟩, e1, e2, hrun, hno⟩))
      . walk_at "S"
        refine zh (by walk_at "H") (k := 0) (by decide) rfl ?_
        walk_at "S"
        refine zN (λ h1 => ?_) (λ h1 => ⟨rfl, zY λ z => h1 (s1 ▸ Int.ofNat_lt.mpr z.1)⟩)
        walk_at "S"
        refine zh (by walk_at "H") (k := 2) (by decide) rfl ?_
        walk_at "S"
        refine zN (λ h2 => ?_) (λ h2 => ⟨rfl, zY λ z => h2 (s2 ▸ Int.ofNat_lt.mpr z.2.1)⟩)
        have h1 := Int.ofNat_lt.mp (s1 ▸ h1)
        have h2 := Int.ofNat_lt.mp (s2 ▸ h2)
        have g1 := pickD h1 (Nat.le_trans (e1 ▸ Nat.le_add_right u g) hi1)
        have g2 := pickD h2 (Nat.le_trans (e2 ▸ Nat.le_add_right v g) hj1)
        walk_at "S"
        refine zj (by walk_at "H") (u - 1) (sub_cast1 e1 h1) (qp g1 la) g1 ?_
        walk_at "S"
        refine zj (by walk_at "H") (v - 1) (sub_cast1 e2 h2) (qp g2 lb) g2 ?_
        walk_at "S"
        refine qN (λ h3 => ?_) (λ h3 => ⟨rfl, zY λ z => h3 (z.2.2.eq g1 g2)⟩)
        walk_at "S"
        refine zj (by walk_at "H") (u - 1) (sub_cast1 e1 h1) (qp g1 la) g1 ?_
        walk_at "S"
        refine qO (λ h4 => ?_) (λ h4 => ⟨rfl, zY λ z => Bool.noConfusion (h4.symm.trans (z.2.2.fst g1))⟩)
        walk_at "S"
        exact ⟨rfl, qz ⟨h1, h2, At.of g1 g2 h3 (h3 ▸ h4)⟩⟩
      . walk_at "S"
        exact ⟨u - 1, pred_lt hok.1, g + 1, v - 1, rfl, ⟨ext, ma, mb, mj, mx, mi, mjj, mn⟩, pred_add hok.1 e1, pred_add hok.2.1 e2, hrun.back hok⟩
    . rintro Z2 ⟨g, u, v, mg, B, e1, e2, hrun, hno⟩
      obtain ⟨ext, ma, mb, mj, mx, mi, mjj, mn⟩ := B
      try dsimp only at ext ma mb mj mx mi mjj mn mg
      walk_at "S"
      refine wp_cutO (λ S => ∃ r : Nat, A4 (S.m "ahead" = some (.int g 0)) (BestH H S.H S.m a b junk box i j (n + r)) (Fws as bs js.contains p1 q1 (i + n) (j + n) r) (¬ Fw as bs js.contains p1 q1 (i + n + r) (j + n + r))) ?_ ?_
      . intro Φ1 up1
        refine qi (λ f S => ∃ r : Nat, A4 (i + n + r + f = p1) (S.m "ahead" = some (.int g 0)) (BestH H S.H S.m a b junk box i j (n + r)) (Fws as bs js.contains p1 q1 (i + n) (j + n) r)) _ ⟨0, Nat.add_sub_of_le hij.2.1, mg, ⟨ext, ma, mb, mj, mx, mi, mjj, mn⟩, Fws.zero⟩ ?_
        rintro f Ψ2 Φ2 u1 u2 up2 Z3 ⟨r, hf, mg, B, hrun'⟩
        obtain ⟨ext, ma, mb, mj, mx, mi, mjj, mn⟩ := B
        try dsimp only at ext ma mb mj mx mi mjj mn mg
        have k1 : (i : Int) + ((n + r : Nat) : Int) = ((i + n + r : Nat) : Int) := congrArg Nat.cast (Nat.add_assoc i n r).symm
        have k2 : (j : Int) + ((n + r : Nat) : Int) = ((j + n + r : Nat) : Int) := congrArg Nat.cast (Nat.add_assoc j n r).symm
        refine yW (Fw as bs js.contains p1 q1 (i + n + r) (j + n + r)) ?_ (λ hok => u1 _ ?_) (λ hno => u2 _ (up1.to _ _ ⟨rfl, r, mg, ⟨ext, ma, mb, mj, mx, mi, mjj, mn⟩, hrun', hno⟩))
        . walk_at "S"
          refine zh (by walk_at "H") (k := 1) (by decide) rfl ?_
          walk_at "S"
          refine zN (λ h1 => ?_) (λ h1 => ⟨rfl, zY λ z => h1 (k1 ▸ Int.ofNat_lt.mpr z.1)⟩)
          walk_at "S"
          refine zh (by walk_at "H") (k := 3) (by decide) rfl ?_
          walk_at "S"
          refine zN (λ h2 => ?_) (λ h2 => ⟨rfl, zY λ z => h2 (k2 ▸ Int.ofNat_lt.mpr z.2.1)⟩)
          have h1 := Int.ofNat_lt.mp (k1 ▸ h1)
          have h2 := Int.ofNat_lt.mp (k2 ▸ h2)
          have g1 := pickE h1 hp
          have g2 := pickE h2 hq
          walk_at "S"
          refine zj (by walk_at "H") (i + n + r) k1 (qp g1 la) g1 ?_
          walk_at "S"
          refine zj (by walk_at "H") (j + n + r) k2 (qp g2 lb) g2 ?_
          walk_at "S"
          refine qN (λ h3 => ?_) (λ h3 => ⟨rfl, zY λ z => h3 (z.2.2.eq g1 g2)⟩)
          walk_at "S"
          refine zj (by walk_at "H") (i + n + r) k1 (qp g1 la) g1 ?_
          walk_at "S"
          refine qO (λ h4 => ?_) (λ h4 => ⟨rfl, zY λ z => Bool.noConfusion (h4.symm.trans (z.2.2.fst g1))⟩)
          walk_at "S"
          exact ⟨rfl, qz ⟨h1, h2, At.of g1 g2 h3 (h3 ▸ h4)⟩⟩
        . walk_at "S"
          obtain ⟨f', hf', ef⟩ := fuel_step hf hok.1
          exact ⟨f', hf', r + 1, ef, mg, ⟨ext, ma, mb, mj, mx, mi, mjj, rfl⟩, hrun'.step hok⟩
      . rintro Z3 ⟨r, mg, B, hrun', hno'⟩
        obtain ⟨ext, ma, mb, mj, mx, mi, mjj, mn⟩ := B
        try dsimp only at ext ma mb mj mx mi mjj mn mg
        walk_at "S"
        refine ⟨show 3 <= sizeLine by decide, ?_⟩
        intro t ht c hc
        refine qW (h u v (n + r + g) t _ ⟨i, j, n, g, r, hB, hrun, hno, hrun', hno', e1, e2, rfl⟩ (ext.new ht) ?_ c hc)
        rw [<- sub_cast e1, <- sub_cast e2]
        exact zA
theorem best_call {S : St} {g : Addr} {a b junk box : Addr} {as bs js : List Str} {p0 p1 q0 q1 : Nat} {Φ : Value -> St -> Prop} (hA : Room A 1) (D : IsDef X g yt (bodyOf yt)) (hr : qG X mainGlobals builtinsNs "range" (.type "range"))
   (ha : S.H a = some (.list (zZ as))) (hb : S.H b = some (.list (zZ bs))) (hj : S.H junk = some (.list (zZ js))) (hx : S.H box = some (.list [.int p0 0, .int p1 0, .int q0 0, .int q1 0]))
   (h0p : p0 <= p1) (h0q : q0 <= q1) (hp : p1 <= as.length) (hq : q1 <= bs.length) (la : as.length < 2 ^ 20) (lb : bs.length < 2 ^ 20)
   (h : ∀ i j n t H', Res as bs js.contains p0 p1 q0 q1 i j n -> zm S.H H' -> H' t = some (.tup (.type "tuple") [.int i 0, .int j 0, .int n 0]) -> Φ (.ref t) ⟨S.m, H'⟩) :
   zO X A L (.ref g) [.ref a, .ref b, .ref junk, .ref box] S Φ := by
  refine qT (names := ["a", "b", "junk", "box"]) D (by have := hA.dp; ac_nf) (λ cs hcs => ?_) (by rfl) (by rfl) λ L' hL' => ?_
  . obtain ⟨c1, c2, c3, c4, rfl, _⟩ := args4 hcs
    rfl
  . exact best_body (by exact hA.hh) hr rfl rfl rfl rfl ha hb hj hx h0p h0q hp hq la lb λ i j n t S' hR hE ht c hc => by
      have := h i j n t S'.H hR hE ht
      rw [<- hc] at this
      exact this
end
section
variable {X : Wd} {A : Around} {L : Addr} {S : St} {env : Env} {C : Cx} {s : Shared}
theorem new_call (T : TopK X) (hA : Room A 1) (D : IsDef X 138 fMNew (bodyOf fMNew)) (hb : qG X mainGlobals builtinsNs "tuple" (.type "tuple")) {v1 v2 v3 : Value} {Φ : Value -> St -> Prop} (h : ∀ H' x, zm S.H H' -> H' x = some (.mt 191 [v1, v2, v3]) -> Φ (.ref x) ⟨S.m, H'⟩) :
    zO X A L (.ref 138) [.ref 191, v1, v2, v3] S Φ := by
  refine qT (names := ["_cls", "a", "b", "size"]) D (by have := hA.dp; ac_nf) (λ cs hcs => ?_) (by rfl) (by rfl) λ L' hL' => ?_
  . obtain ⟨c1, c2, c3, c4, rfl, _⟩ := args4 hcs
    rfl
  . with_unfolding_all refine zM ?_
    walk_at "S"
    refine meth_tupleNew T ?_
    refine zW (.builtin _) ?_
    walk_at "S"
    refine ⟨show 3 <= sizeLine by decide, ?_⟩
    intro t ht
    walk_at "S"
    refine call_tupleNew T (t := t) (vs := [v1, v2, v3]) ?_ (show 3 <= sizeLine by decide) ?_
    . exact .inr (by walk_at "H")
    intro x hx c hc
    refine qW ?_
    have := h _ x (((zm.refl S.H).new ht).new hx) zA
    rw [<- hc] at this
    exact this
theorem call_Match (T : TopK X) (hA : Room A 2) (D : IsDef X 138 fMNew (bodyOf fMNew)) (hb : qG X mainGlobals builtinsNs "tuple" (.type "tuple")) {v1 v2 v3 : Value} {Φ : Value -> St -> Prop} (h : ∀ H' x, zm S.H H' -> H' x = some (.mt 191 [v1, v2, v3]) -> Φ (.ref x) ⟨S.m, H'⟩) :
    zO X A L (.ref 191) [v1, v2, v3] S Φ := λ cs hcs C s hB R => by
  obtain ⟨c1, c2, c3, rfl, h1, h2, h3⟩ := map3 hcs
  have X' := T.frag _ (R.kept hB)
  have ho := T.opq (R.kept hB) 191
  have R' := R.tok (s.toks + 1)
  obtain ⟨hh, g, dr, tk, os⟩ := s
  refine call_M_raw X' ho ?_
  refine wpAny_mono (new_call (A := A.under (.builtin "type.__call__" ⟨[.ref 191, c1, c2, c3], []⟩)) (Φ := λ v S' => Φ v S' /\ ∃ x, v = .ref x /\ S'.H x = some (.mt 191 [v1, v2, v3])) T hA.make D hb (λ H' x hE hx => ⟨h H' x hE hx, x, rfl, hx⟩) [.ref 191, c1, c2, c3] (by simp [h1, h2, h3]) C _ hB R') (λ r s' ⟨S', R'', hΦ, x, hx, hm⟩ => ?_) λ o_ o_ x => x.elim
  obtain ⟨items, ep, d, ho', _⟩ := R''.mt hm
  exact ⟨T.frag _ (R''.kept hB), x, _, zC hx, ho', rfl, S', R'', hΦ⟩
end
section
variable {X : Wd} {A : Around} {L : Addr} {S : St} {env : Env} {C : Cx} {s : Shared}
theorem make_call (T : TopK X) (hA : Room A 1) (D : IsDef X 145 fMMake (bodyOf fMMake)) (hb : qG X mainGlobals builtinsNs "tuple" (.type "tuple")) (hlen : qG X mainGlobals builtinsNs "len" (.builtin "len")) {t : Addr} {v1 v2 v3 : Value} (ht : S.H t = some (.tup (.type "tuple") [v1, v2, v3])) :
    CallC X A L (.ref 145) [.ref 191, .ref t] [] S (λ v S' => ∃ x, v = .ref x /\ S'.m = S.m /\ zm S.H S'.H /\ S'.H x = some (.mt 191 [v1, v2, v3])) := by
  refine call_fnC2 (names := ["cls", "iterable"]) (vals := [.ref 191, .ref t]) D (by have := hA.dp; ac_nf) (λ cs ks s hcs hks o_ => ?_) (by rfl) (by rfl) λ L' hL' => ?_
  . obtain ⟨c1, c2, rfl, h1, h2⟩ := map2 hcs
    rw [List.map_eq_nil_iff.mp hks]
    exact ⟨[c1, c2], by simp [h1, h2], .of_eq rfl⟩
  . with_unfolding_all refine zM ?_
    walk_at "S"
    refine meth_tupleNew T ?_
    refine zW (.builtin _) ?_
    walk_at "S"
    refine call_tupleNew T (t := t) (vs := [v1, v2, v3]) ?_ (show 3 <= sizeLine by decide) ?_
    . exact .inr (by walk_at "H")
    intro x hx
    walk_at "S"
    intro c hc
    rw [of_er_builtin hc]
    refine zW (.builtin _) ?_
    walk_at "S"
    refine call_lenM T (a := x) (vs := [v1, v2, v3]) (by walk_at "H") (show 3 < 2 ^ 62 by decide) ?_
    walk_at "S"
    refine zI ?_
    walk_at "S"
    intro c hc
    refine qW ⟨x, hc, rfl, (zm.refl S.H).new hx, zA⟩
end
section
variable {X : Wd} {A : Around} {L fa : Addr} {m : Str -> Option Value} {H : AH}
inductive BkH (H0 : AH) (a b junk pa bo ci cj : Addr) (found : List qA) (boxes : List yx) (H : AH) (m : Str -> Option Value) : Prop
  | mk (ext : zm H0 H) (ma : m "a" = some (.ref a)) (mb : m "b" = some (.ref b)) (mj : m "junk" = some (.ref junk)) (mp : m "pairs" = some (.ref pa)) (mo : m "boxes" = some (.ref bo)) (hp : ∃ pvs, H pa = some (.list pvs) /\ Rows H false pvs ((found.flatMap pairsOf).map jA)) (hb : ∃ bvs, H bo = some (.list bvs) /\ Rows H false bvs (boxes.map qU)) (hi : ∃ v, H ci = some (.cell v)) (hj : ∃ v, H cj = some (.cell v))
inductive BxH (H0 : AH) (a b junk pa bo ci cj : Addr) (found : List qA) (boxes : List yx) (x : Addr) (p0 p1 q0 q1 : Nat) (S : St) : Prop
  | mk (B : BkH H0 a b junk pa bo ci cj found boxes S.H S.m) (mx : S.m "box" = some (.ref x)) (hx : S.H x = some (.list [.int p0 0, .int p1 0, .int q0 0, .int q1 0]))
inductive ByH (H0 : AH) (a b junk pa bo ci cj : Addr) (found : List qA) (boxes : List yx) (x : Addr) (p0 p1 q0 q1 i j n : Nat) (S : St) : Prop
  | mk (B : BxH H0 a b junk pa bo ci cj found boxes x p0 p1 q0 q1 S) (mn : S.m "size" = some (.int n 0)) (hi : S.H ci = some (.cell (some (.int i 0)))) (hj : S.H cj = some (.cell (some (.int j 0))))
structure MgH (H0 : AH) (a b bl ls ci cj : Addr) (svs : List Value) (Tl : List (Nat × Nat)) (out : List qA) (vi vj : Option Value) (bvs : List Value) (S : St) : Prop where
  ext : zm H0 S.H
  ma : S.m "a" = some (.ref a)
  mb : S.m "b" = some (.ref b)
  mbl : S.m "blocks" = some (.ref bl)
  hls : S.H ls = some (.list svs)
  rs : Rows S.H false svs (Tl.map jA)
  hbl : S.H bl = some (.list bvs)
  rb : Rows S.H false bvs (out.map qJ)
  hi : S.H ci = some (.cell vi)
  hj : S.H cj = some (.cell vj)
theorem MgH.new {H0 : AH} {a b bl ls ci cj e : Addr} {svs bvs : List Value} {Tl : List (Nat × Nat)} {out : List qA} {vi vj : Option Value} {o : AO} (h : MgH H0 a b bl ls ci cj svs Tl out vi vj bvs ⟨m, H⟩) (he : H e = none) : MgH H0 a b bl ls ci cj svs Tl out vi vj bvs ⟨m, zD H e o⟩ :=
  ⟨h.ext.new he, h.ma, h.mb, h.mbl, zB he h.hls, h.rs.new he, zB he h.hbl, h.rb.new he, zB he h.hi, zB he h.hj⟩
theorem Rows.snocF {β : Type} {vs : List Value} {f : β -> List Int} {l : List β} {z : β} {x : Addr} (h : Rows H false vs (l.map f)) (e : H x = some (RowO false (f z))) : Rows H false (vs ++ [.ref x]) ((l ++ [z]).map f) := by
  rw [List.map_append]; exact h.snoc e
def Joins (out : List qA) (x1 x2 : Nat) : Prop := ∃ o z, out = o ++ [z] /\ z.1 + z.2.2 = x1 /\ z.2.1 + z.2.2 = x2
theorem Joins.nil {x1 x2 : Nat} : ¬ Joins [] x1 x2 := λ ⟨o, z, e, _⟩ => by simp at e
theorem Joins.snoc {o : List qA} {z : qA} {x1 x2 : Nat} : Joins (o ++ [z]) x1 x2 ↔ z.1 + z.2.2 = x1 /\ z.2.1 + z.2.2 = x2 := by
  refine ⟨λ ⟨o', z', e, h⟩ => ?_, λ h => ⟨o, z, rfl, h⟩⟩
  obtain ⟨-, e'⟩ := List.append_inj' e rfl
  exact List.singleton_inj.mp e' ▸ h
theorem apStep_no {out : List qA} {x1 x2 : Nat} (h : ¬ Joins out x1 x2) : qD out (x1, x2) = out ++ [(x1, x2, 1)] := by
  rcases List.eq_nil_or_concat out with rfl | ⟨o', z, rfl⟩
  . rfl
  . rw [List.concat_eq_append] at h ⊢
    exact apStep_new λ q => h (Joins.snoc.mpr q)
theorem ne_snoc (l : List Value) (z : Value) : (!(l ++ [z]).isEmpty) = true := by simp
theorem yF {S : St} {x : Addr} {l : List Value} {z : Value} {Φ : Value -> St -> Prop} (hl : S.H x = some (.list (l ++ [z]))) (h : Φ z S) : jJ X A L (.ref x) (.int (-1) 0) S Φ :=
  item_listNeg hl (by decide) (by rw [List.length_append, List.length_singleton]; ac_nf) (by decide) (by
    rw [show ((-1 : Int) + ((l ++ [z]).length : Int)).toNat = l.length by simp; ac_nf]
    simp) h
theorem ssv_few {l : List Str} (h : l.length < 64) : (zZ l).length < 2 ^ 63 := by rw [ze]; exact Nat.lt_trans h (by decide)
theorem fuel_both {bs : List yx} {p0 p1 q0 q1 i j n : Nat} (hw : qt (bs ++ [(p0, i, q0, j)] ++ [(i + n, p1, j + n, q1)]) + n <= qt (bs ++ [(p0, p1, q0, q1)])) (hn : 0 < n) : yh (bs ++ [(p0, i, q0, j)] ++ [(i + n, p1, j + n, q1)]) < yh (bs ++ [(p0, p1, q0, q1)]) := by
  unfold yh
  rw [List.length_append, List.length_append, List.length_append]
  simp only [List.length_singleton]
  ac_nf
theorem fuel_zero {bs : List yx} {z : yx} : yh bs < yh (bs ++ [z]) := by
  unfold yh
  rw [List.length_append, qK, List.length_singleton]
  ac_nf
theorem row_of (p : Nat × Nat) (k : Nat) : ([.int ((p.1 : Int) + (0 + (k : Int))) 0, .int ((p.2 : Int) + (0 + (k : Int))) 0] : List Value) = qo (jA (p.1 + k, p.2 + k)) := by simp [qo, jA]
theorem pairs_one {found : List qA} {i j n : Nat} : (found.flatMap pairsOf).map jA ++ (List.range ((n : Int) - 0).toNat).map (λ t => jA (i + t, j + t)) = ((found ++ [(i, j, n)]).flatMap pairsOf).map jA := by
  rw [List.flatMap_append, List.map_append]
  congr 1
  rw [show ((n : Int) - 0).toNat = n by ac_nf]
  simp [pairsOf, Function.comp_def]
theorem cells_blocks (L : Addr) : cellsFrom (L + 1) yd.scope.names [] = [(("j" : Str), L + 2), (("i" : Str), L + 1)] := by rfl
theorem blocks_body {H0 : AH} {g a b junk : Addr} {as bs js : List Str} {Φ : Flow -> St -> Prop} (hA : Room A 2) (Db : IsDef X g yt (bodyOf yt)) (hg : yg X mainGlobals "_law_best" (.ref g)) (hr : qG X mainGlobals builtinsNs "range" (.type "range")) (hle : qG X mainGlobals builtinsNs "len" (.builtin "len"))
   (hso : qG X mainGlobals builtinsNs "sorted" (.builtin "sorted")) (T : TopK X)
   (ma : m "a" = some (.ref a)) (mb : m "b" = some (.ref b)) (mj : m "junk" = some (.ref junk))
   (hE0z : zm H0 H) (ha0 : H0 a = some (.list (zZ as))) (hb0z : H0 b = some (.list (zZ bs))) (hj0z : H0 junk = some (.list (zZ js))) (la : as.length < 64) (lb : bs.length < 64) (hci : H (L + 1) = some (.cell none)) (hcj : H (L + 2) = some (.cell none)) (ni0 : H0 (L + 1) = none) (nj0 : H0 (L + 2) = none)
   (h : ∀ out D vs S', Told as bs js.contains out -> zm H0 S'.H -> S'.H D = some (.list vs) -> Rows S'.H false vs (out.map qJ) -> ∀ c, er c = .ref D -> Φ (.ret c) S') :
   Wp X A L (execs (bodyOf yd) (callEnvC yd L fa)) ⟨m, H⟩ Φ := by
  have ha := hE0z.get ha0
  have hb := hE0z.get hb0z
  have hj := hE0z.get hj0z
  with_unfolding_all refine zM ?_
  walk_at "S"
  refine ⟨show 0 <= sizeLine by decide, ?_⟩
  intro pa hpa
  walk_at "S"
  refine yp ?_
  walk_at "S"
  refine qe (by walk_at "H") (ssv_few (by assumption)) ?_
  walk_at "S"
  refine yp ?_
  walk_at "S"
  refine qe (by walk_at "H") (ssv_few (by assumption)) ?_
  walk_at "S"
  refine ⟨show 4 <= sizeLine by decide, ?_⟩
  intro b0 hb0
  walk_at "S"
  refine ⟨show 1 <= sizeLine by decide, ?_⟩
  intro bo hbo
  walk_at "S"
  have np : H pa = none := hpa
  have q1 := zF hbo
  have q2 := zF q1.2
  have nb : H bo = none := q2.2
  have nb0 := hE0z.none nb
  have np0 := hE0z.none np
  have npb : pa ≠ bo := Ne.symm q2.1
  have a1 := zS ha np
  have a2 := zS ha nb
  have b1 := zS hb np
  have b2 := zS hb nb
  have j1 := zS hj np
  have j2 := zS hj nb
  have p3 := Ne.symm (zS hci np)
  have p4 := Ne.symm (zS hcj np)
  have o3 := Ne.symm (zS hci nb)
  have o4 := Ne.symm (zS hcj nb)
  have cc : L + 1 ≠ L + 2 := Nat.ne_of_lt (Nat.lt_succ_self _)
  refine wp_cutO (λ S => ∃ found, BkH H0 a b junk pa bo (L + 1) (L + 2) found [] S.H S.m /\ Work as bs js.contains found []) ?_ ?_
  . intro Φ1 up1
    refine qi (λ f S => ∃ found boxes, A3 (f = yh boxes) (BkH H0 a b junk pa bo (L + 1) (L + 2) found boxes S.H S.m) (Work as bs js.contains found boxes)) _ ⟨[], [(0, as.length, 0, bs.length)], rfl, ⟨((hE0z.new hpa).new hb0).new hbo, ma, mb, mj, rfl, rfl, ⟨[], by walk_at "H", Rows.nil⟩, ⟨[.ref b0], by walk_at "H", Rows.snoc (vs := []) (rows := []) Rows.nil ?_⟩, ⟨_, by walk_at "H"⟩, ⟨_, by walk_at "H"⟩⟩, Work.start⟩ ?_
    . show _ = some (AO.list (qo (qU (0, as.length, 0, bs.length))))
      have e : ([.int 0 0, .int ((zZ as).length : Int) 0, .int 0 0, .int ((zZ bs).length : Int) 0] : List Value) = qo (qU (0, as.length, 0, bs.length)) := by rw [ze, ze]; rfl
      rw [<- e]
      walk_at "H"
    rintro f Ψ Φ2 u1 u2 up2 Z1 ⟨found, boxes, hf, ⟨ext, ma, mb, mj, mp, mo, ⟨pvs, hp, rp⟩, ⟨bvs, hbx, rb⟩, ⟨vi, hi⟩, ⟨vj, hjj⟩⟩, W⟩
    try dsimp only at ext ma mb mj mp mo hp rp hbx rb hi hjj
    walk_at "S"
    refine ⟨show 0 <= sizeLine by decide, ?_⟩
    intro e0 he0
    have he0 : Z1.H e0 = none := he0
    walk_at "S"
    refine cmp_neNil (by have := hA.un; ac_nf) (by walk_at "H") zA ?_
    refine zd ?_
    rcases List.eq_nil_or_concat boxes with rfl | ⟨boxes, box, rfl⟩
    . have hz : bvs = [] := List.length_eq_zero_iff.mp rb.len
      subst hz
      exact u2 _ (up1.to _ _ ⟨rfl, found, ⟨ext.new he0, ma, mb, mj, mp, mo, ⟨pvs, by walk_at "H", rp.new he0⟩, ⟨[], by walk_at "H", Rows.nil⟩, ⟨vi, by walk_at "H"⟩, ⟨vj, by walk_at "H"⟩⟩, W⟩)
    rw [List.concat_eq_append] at rb W hf
    rw [List.map_append] at rb
    obtain ⟨bvs', x, rfl, hx, rb'⟩ := Rows.last rb
    obtain ⟨p0, p1, q0, q1⟩ := box
    have hx : Z1.H x = some (.list [.int p0 0, .int p1 0, .int q0 0, .int q1 0]) := hx
    have hbx0 := W.box _ (List.mem_append_right _ List.mem_cons_self)
    try dsimp only at hbx0
    rw [ne_snoc]
    refine u1 _ ?_
    walk_at "S"
    refine meth_pop (by walk_at "H") ?_
    refine yG (.builtin _) ?_
    have hfew := W.few
    rw [List.length_append, List.length_singleton] at hfew
    have lb1 := rb'.len
    rw [List.length_map] at lb1
    have hszl : sizeLine = 2 ^ 24 := rfl
    refine call_pop (by walk_at "H") (by ac_nf) ?_
    refine (?_ : Wp _ _ _ (execs _ _) _ _)
    have hxb : x ≠ bo := λ q => no_row hbx (yq rb') (is := qU (p0, p1, q0, q1)) (by simp [qU]) (by rw [<- q]; exact hx)
    have x1 : x ≠ pa := λ q => no_row hp rp.refs (is := qU (p0, p1, q0, q1)) (by simp [qU]) (by rw [<- q]; exact hx)
    have x3 := zK hx hi rfl
    have x4 := zK hx hjj rfl
    refine Wp.abs (λ S => BxH H0 a b junk pa bo (L + 1) (L + 2) found boxes x p0 p1 q0 q1 S) ⟨⟨(ext.new he0).turn nb0, ma, mb, mj, mp, mo, ⟨pvs, by walk_at "H", (rp.new he0).turn (zB he0 hbx) (yq rb') prow_ne⟩, ⟨bvs', by walk_at "H", (rb'.new he0).turn (zB he0 hbx) (yq rb') boxrow_ne⟩, ⟨vi, by walk_at "H"⟩, ⟨vj, by walk_at "H"⟩⟩, rfl, by walk_at "H"⟩ ?_
    clear lb1 rp rb rb' hp hbx hi hjj hx ext ma mb mj mp mo x1 x3 x4 hxb he0
    rintro Z2 ⟨⟨ext, ma, mb, mj, mp, mo, ⟨pvs, hp, rp⟩, ⟨bvs, hbx, rb⟩, ⟨vi, hi⟩, ⟨vj, hjj⟩⟩, mx, hx⟩
    try dsimp only at ext ma mb mj mp mo hp rp hbx rb hi hjj mx hx
    walk_at "S"
    refine qF ?_
    refine zW (.fn Db) ?_
    walk_at "S"
    refine best_call (p0 := p0) (p1 := p1) (q0 := q0) (q1 := q1) (js := js) (as := as) (bs := bs) (by exact hA.less (by ac_nf)) Db hr (by walk_at "H") (by walk_at "H") (by walk_at "H") (by walk_at "H") hbx0.1 hbx0.2.2.1 hbx0.2.1 hbx0.2.2.2 (Nat.lt_trans la (by decide)) (Nat.lt_trans lb (by decide)) ?_
    intro i j n t H3 hres hE2 ht
    have l4 := hE2.get hi
    have l5 := hE2.get hjj
    have l1 := hE2.get hp
    have l2 := hE2.get hbx
    have l3 := hE2.get hx
    have x3 := zK l3 l4 rfl
    have x4 := zK l3 l5 rfl
    refine jI hA.hh ht rfl ?_
    refine zG (qV (by rfl) l4 ?_)
    refine zG (qV (by rfl) (by walk_at "H") ?_)
    refine zG (zH ?_)
    refine zy ?_
    refine (?_ : Wp _ _ _ (execs _ _) _ _)
    refine Wp.abs (λ S => ByH H0 a b junk pa bo (L + 1) (L + 2) found boxes x p0 p1 q0 q1 i j n S) ⟨⟨⟨((ext.trans hE2).turn ni0).turn nj0, ma, mb, mj, mp, mo, ⟨pvs, by walk_at "H", ((rp.of_ext hE2).cell l4).cell (hset_cell cc l5)⟩, ⟨bvs, by walk_at "H", ((rb.of_ext hE2).cell l4).cell (hset_cell cc l5)⟩, ⟨_, by walk_at "H"⟩, ⟨_, by walk_at "H"⟩⟩, mx, by walk_at "H"⟩, rfl, by walk_at "H", by walk_at "H"⟩ ?_
    clear l1 l2 l3 l4 l5 hE2 ht rp rb hp hbx hi hjj hx ext ma mb mj mp mo mx x3 x4
    rintro Z3 ⟨⟨⟨ext, ma, mb, mj, mp, mo, ⟨pvs, hp, rp⟩, ⟨bvs, hbx, rb⟩, -, -⟩, mx, hx⟩, mn, hi, hjj⟩
    try dsimp only at ext ma mb mj mp mo hp rp hbx rb hi hjj mx mn hx
    walk_at "S"
    refine zN (λ hn => ?_) (λ hn => ?_)
    . have hn : 0 < n := Int.natCast_pos.mp hn
      walk_at "S"
      refine meth_extend (by walk_at "H") ?_
      refine zW (.builtin _) ?_
      walk_at "S"
      refine ev_ListComp [(("j" : Str), L + 2), (("i" : Str), L + 1)] ?_ (.inl rfl)
      walk_at "S"
      refine yo ?_
      walk_at "S"
      refine call_range1 ?_
      intro r hr'
      have hr' : Z3.H r = none := hr'
      obtain ⟨W2, hw, c1, c2, c3, c4⟩ := W.both hres hn
      have htot := W2.tot
      rw [sizes_app, sizes_one] at htot
      have hl : sizeLine = 2 ^ 24 := rfl
      refine ⟨((n : Int) - 0).toNat, _, _, λ k acc H' => zm (zD Z3.H r (.range 0 n 1)) H' /\ Rows H' false acc ((List.range k).map λ t => jA (i + t, j + t)), iter_range hA.hh zA (small_nat (p := 0) (q := n) (by ac_nf) (by ac_nf)), by ac_nf, ⟨zm.refl _, Rows.nil⟩, λ o_ o_ o_ o_ => trivial, ?_, ?_⟩
      . intro L' hL' k acc m' H' u S1 hk ⟨hE, hRw⟩ ⟨hu, hS⟩
        subst hu
        subst hS
        refine zH ?_
        refine tests_no ?_
        refine zV ?_
        have z4 := hE.get (zB hr' hi)
        have z5 := hE.get (zB hr' hjj)
        walk_at "S"
        refine ⟨show 2 <= sizeLine by decide, ?_⟩
        intro t ht
        have ht : H' t = none := ht
        refine ⟨hE.new ht, ?_⟩
        rw [List.range_succ, List.map_append]
        refine (hRw.new ht).snoc ?_
        rw [show RowO false (jA (i + k, j + k)) = .list (qo (jA (i + k, j + k))) from rfl, <- row_of (i, j) k]
        exact zA
      . intro acc H' hlen ⟨hE, hRw⟩ D hD
        have hD : H' D = none := hD
        have x1 : x ≠ pa := λ q => no_row hp rp.refs (is := qU (p0, p1, q0, q1)) (by simp [qU]) (by rw [<- q]; exact hx)
        have x3 := zK hx hi rfl
        have x4 := zK hx hjj rfl
        have x2 : x ≠ bo := λ q => no_row hbx rb.refs (is := qU (p0, p1, q0, q1)) (by simp [qU]) (by rw [<- q]; exact hx)
        have z1 := hE.get (zB hr' hp)
        have z2 := hE.get (zB hr' hbx)
        have z3 := hE.get (zB hr' hx)
        have z4 := hE.get (zB hr' hi)
        have z5 := hE.get (zB hr' hjj)
        have z6 := (rp.new (o := .range 0 n 1) hr').of_ext hE
        have z7 := (rb.new (o := .range 0 n 1) hr').of_ext hE
        have lp := rp.len
        rw [List.length_map, jB] at lp
        have lacc : pvs.length + acc.length <= sizeLine := by ac_nf
        walk_at "S"
        refine call_extend (by walk_at "H") (by walk_at "H") lacc ?_
        refine (?_ : Wp _ _ _ (execs _ _) _ _)
        have r1 := (z6.append hRw).new (o := .list acc) hD
        rw [pairs_one] at r1
        refine Wp.abs (λ S => ByH H0 a b junk pa bo (L + 1) (L + 2) (found ++ [(i, j, n)]) boxes x p0 p1 q0 q1 i j n S) ⟨⟨⟨((((ext.new hr').trans hE).new hD).turn np0), ma, mb, mj, mp, mo, ⟨pvs ++ acc, by walk_at "H", r1.turn (zB hD z1) rp.refs prow_ne⟩, ⟨bvs, by walk_at "H", (z7.new hD).turn (zB hD z1) rp.refs boxrow_ne⟩, ⟨_, by walk_at "H"⟩, ⟨_, by walk_at "H"⟩⟩, mx, by walk_at "H"⟩, mn, by walk_at "H", by walk_at "H"⟩ ?_
        clear r1 z1 z2 z3 z4 z5 z6 z7 lp lacc hE hRw hD hlen hr' rp rb hp hbx hi hjj hx ext ma mb mj mp mo mx mn x1 x2 x3 x4 htot
        rintro Z4 ⟨⟨⟨ext, ma, mb, mj, mp, mo, ⟨pvs, hp, rp⟩, ⟨bvs, hbx, rb⟩, -, -⟩, mx, hx⟩, mn, hi, hjj⟩
        try dsimp only at ext ma mb mj mp mo hp rp hbx rb hi hjj mx mn hx
        have few := W2.few
        have lb := rb.len
        rw [List.length_map] at lb
        rw [List.length_append, List.length_append, List.length_singleton] at few
        have x3 := zK hx hi rfl
        have x4 := zK hx hjj rfl
        have x2 : x ≠ bo := λ q => no_row hbx rb.refs (is := qU (p0, p1, q0, q1)) (by simp [qU]) (by rw [<- q]; exact hx)
        walk_at "S"
        refine zT (by walk_at "H") ?_
        refine zW (.builtin _) ?_
        walk_at "S"
        refine zh (by walk_at "H") (k := 0) (by decide) rfl ?_
        walk_at "S"
        refine zh (by walk_at "H") (k := 2) (by decide) rfl ?_
        walk_at "S"
        refine ⟨show 4 <= sizeLine by decide, ?_⟩
        intro l1 hl1
        have hl1 : Z4.H l1 = none := hl1
        walk_at "S"
        refine zU (by walk_at "H") (by ac_nf) ?_
        refine (?_ : Wp _ _ _ (execs _ _) _ _)
        refine Wp.abs (λ S => ByH H0 a b junk pa bo (L + 1) (L + 2) (found ++ [(i, j, n)]) (boxes ++ [(p0, i, q0, j)]) x p0 p1 q0 q1 i j n S) ⟨⟨⟨(ext.new hl1).turn nb0, ma, mb, mj, mp, mo, ⟨pvs, by walk_at "H", (rp.new hl1).turn (zB hl1 hbx) rb.refs prow_ne⟩, ⟨bvs ++ [.ref l1], zA, ((rb.new (o := .list [.int p0 0, .int i 0, .int q0 0, .int j 0]) hl1).snocF (x := l1) (z := (p0, i, q0, j)) zA).turn (zB hl1 hbx) rb.refs boxrow_ne⟩, ⟨_, by walk_at "H"⟩, ⟨_, by walk_at "H"⟩⟩, mx, by walk_at "H"⟩, mn, by walk_at "H", by walk_at "H"⟩ ?_
        clear hl1 rp rb hp hbx hi hjj hx ext ma mb mj mp mo mx mn x2 x3 x4 lb
        rintro Z5 ⟨⟨⟨ext, ma, mb, mj, mp, mo, ⟨pvs, hp, rp⟩, ⟨bvs, hbx, rb⟩, -, -⟩, mx, hx⟩, mn, hi, hjj⟩
        try dsimp only at ext ma mb mj mp mo hp rp hbx rb hi hjj mx mn hx
        have lb := rb.len
        rw [List.length_map, List.length_append, List.length_singleton] at lb
        walk_at "S"
        refine zT (by walk_at "H") ?_
        refine zW (.builtin _) ?_
        walk_at "S"
        refine zh (by walk_at "H") (k := 1) (by decide) rfl ?_
        walk_at "S"
        refine zh (by walk_at "H") (k := 3) (by decide) rfl ?_
        walk_at "S"
        refine ⟨show 4 <= sizeLine by decide, ?_⟩
        intro l2 hl2
        have hl2 : Z5.H l2 = none := hl2
        walk_at "S"
        refine zU (by walk_at "H") (by ac_nf) ?_
        walk_at "S"
        exact ⟨yh (boxes ++ [(p0, i, q0, j)] ++ [(i + n, p1, j + n, q1)]), hf ▸ fuel_both hw hn, found ++ [(i, j, n)], boxes ++ [(p0, i, q0, j)] ++ [(i + n, p1, j + n, q1)], rfl, ⟨(ext.new hl2).turn nb0, ma, mb, mj, mp, mo, ⟨pvs, by walk_at "H", (rp.new hl2).turn (zB hl2 hbx) rb.refs prow_ne⟩, ⟨bvs ++ [.ref l2], zA, ((rb.new (o := .list [.int ((i : Int) + (n : Int)) 0, .int p1 0, .int ((j : Int) + (n : Int)) 0, .int q1 0]) hl2).snocF (x := l2) (z := (i + n, p1, j + n, q1)) zA).turn (zB hl2 hbx) rb.refs boxrow_ne⟩, ⟨_, by walk_at "H"⟩, ⟨_, by walk_at "H"⟩⟩, W2⟩
    . have hn : n = 0 := Nat.eq_zero_of_not_pos λ z => hn (Int.natCast_pos.mpr z)
      subst hn
      walk_at "S"
      exact ⟨yh boxes, hf ▸ fuel_zero, found, boxes, rfl, ⟨ext, ma, mb, mj, mp, mo, ⟨pvs, hp, rp⟩, ⟨bvs, hbx, rb⟩, ⟨_, hi⟩, ⟨_, hjj⟩⟩, W.zero hres⟩
  . rintro Z1 ⟨found, ⟨ext, ma, mb, mj, mp, mo, ⟨pvs, hp, rp⟩, -, ⟨vi, hi⟩, ⟨vj, hjj⟩⟩, W⟩
    try dsimp only at ext ma mb mj mp mo hp rp hi hjj
    obtain ⟨T', hT, hperm, hsrt, hbef, hpos⟩ := work_sorted W
    walk_at "S"
    refine ⟨show 0 <= sizeLine by decide, ?_⟩
    intro bl hbl
    have hbl : Z1.H bl = none := hbl
    walk_at "S"
    refine yp ?_
    walk_at "S"
    have lp := rp.len
    have htot := W.tot
    rw [List.length_map, jB] at lp
    have hbd := pairs_bound hpos
    have hpm := hperm.flatMap_right pairsOf
    have hst : (T'.flatMap pairsOf).Pairwise λ x y => rk2 (jA x) < rk2 (jA y) := List.Pairwise.imp_of_mem (λ {x y} hx hy h => rk_ltP (by have := (hbd x hx).2; ac_nf) h) hsrt
    have hmem : ∀ x ∈ found.flatMap pairsOf, x.2 < 1048576 := λ x hx => by have := (hbd x (hpm.mem_iff.mpr hx)).2; ac_nf
    refine call_sorted T (M := false) (rk := rk2) (by have := hA.un; ac_nf) (by walk_at "H") (rp.new hbl) (ranked_of hpm hst (λ x hx y hy o_ => lex_prow (hmem x hx) (hmem y hy)) (λ o_ o_ o_ o_ => rfl)) (by ac_nf) ?_
    intro p hp1 hp2 ls hls
    have hls : zD Z1.H bl (.list []) ls = none := hls
    rw [show pvs.length = (found.flatMap pairsOf).length by rw [jB]; exact lp] at hp1
    have hrows := ((rp.new (o := .list []) hbl).perm (p := p) (λ i hi => by rw [List.length_map]; exact List.mem_range.mp ((hp1.mem_iff).mp hi))).new (o := .list (p.map λ i => pvs.getD i Value.none)) hls
    rw [sorted_perm (0, 0) hpm hst hp1 hp2] at hrows
    generalize (p.map λ i => pvs.getD i Value.none) = svs at hrows ⊢
    have hTlen : (T'.flatMap pairsOf).length <= as.length := by rw [hpm.length_eq, jB]; ac_nf
    have hTold : Told as bs js.contains ((T'.flatMap pairsOf).foldl qD [] ++ [(as.length, bs.length, 0)]) := ⟨T', hT, rfl⟩
    generalize T'.flatMap pairsOf = Tl at hrows hTlen hTold
    have nbl := ext.none hbl
    have hlb := (zF hls).1
    clear hT hperm hsrt hbef hpos W rp lp htot hbd hpm hst hmem hp1 hp2
    refine yU hA.hh zA (λ k S => ∃ vi vj bvs, MgH H0 a b bl ls (L + 1) (L + 2) svs Tl ((Tl.take k).foldl qD []) vi vj bvs S) ?_ ?_ ?_ ?_
    . exact ⟨vi, vj, [], (ext.new hbl).new hls, ma, mb, rfl, by walk_at "H", hrows, by walk_at "H", Rows.nil, by walk_at "H", by walk_at "H"⟩
    . rintro k S ⟨_, _, _, I⟩; exact I.hls
    . rintro k Ψ Φ1 u1 up1 u Z2 hu ⟨vi, vj, bvs, ext, ma, mb, mbl, hls2, rs, hbl2, rb, hi, hjj⟩
      try dsimp only at ext ma mb mbl hls2 rs hbl2 rb hi hjj
      obtain ⟨y, is, rfl, his, hy⟩ := rs.get hu
      rw [List.getElem?_map] at his
      obtain ⟨⟨x1, x2⟩, hpr, rfl⟩ := Option.map_eq_some_iff.mp his
      have hy : Z2.H y = some (.list [.int x1 0, .int x2 0]) := hy
      have hk : k < Tl.length := (List.getElem?_eq_some_iff.mp hpr).1
      have hol := ap_len (Tl.take k) []
      rw [List.length_take] at hol
      have hl0 : ([] : List qA).length = 0 := rfl
      rw [hl0] at hol
      rw [take_fold Tl hpr] at up1
      generalize (Tl.take k).foldl qD [] = out at rb hol up1
      have lbl := rb.len
      rw [List.length_map] at lbl
      refine asg_list hA.hh hy rfl ?_
      refine zG (qV (by rfl) hi ?_)
      refine zG (qV (by rfl) (by walk_at "H") ?_)
      refine zy (u1 _ ?_)
      have s3 := zK hls2 hi rfl
      have s4 := zK hls2 hjj rfl
      have g3 := zK hbl2 hi rfl
      have g4 := zK hbl2 hjj rfl
      refine Wp.abs (λ S => MgH H0 a b bl ls (L + 1) (L + 2) svs Tl out (some (.int x1 0)) (some (.int x2 0)) bvs S) ⟨(ext.turn ni0).turn nj0, ma, mb, mbl, by walk_at "H", (rs.cell hi).cell (hset_cell cc hjj), by walk_at "H", (rb.cell hi).cell (hset_cell cc hjj), by walk_at "H", by walk_at "H"⟩ ?_
      clear ext ma mb mbl hls2 rs hbl2 rb hi hjj hy hu
      rintro Z3 G
      obtain ⟨ext, ma, mb, mbl, hls2, rs, hbl2, rb, hi, hjj⟩ := id G
      try dsimp only at ext ma mb mbl hls2 rs hbl2 rb hi hjj
      refine zM ?_
      refine ex_If ?_
      have hszl : sizeLine = 2 ^ 24 := rfl
      have brefs := rb.refs
      refine tv_cut2 (Joins out x1 x2) (λ S => MgH H0 a b bl ls (L + 1) (L + 2) svs Tl out (some (.int x1 0)) (some (.int x2 0)) bvs S) ?_ ?_ ?_
      . walk_at "S"
        refine ⟨show 0 <= sizeLine by decide, ?_⟩
        intro e0 he0
        have he0 : Z3.H e0 = none := he0
        walk_at "S"
        refine cmp_neNil (by have := hA.un; ac_nf) (by walk_at "H") zA ?_
        refine zd ?_
        have Qn := G.new (o := .list []) he0
        rcases List.eq_nil_or_concat out with rfl | ⟨o', z, rfl⟩
        . have hz : bvs = [] := List.length_eq_zero_iff.mp rb.len
          subst hz
          exact zI ⟨Qn, zY Joins.nil⟩
        . rw [List.concat_eq_append] at rb Qn ⊢
          have rb0 := rb
          rw [List.map_append] at rb0
          obtain ⟨bvs', zz, rfl, hzz, -⟩ := Rows.last rb0
          obtain ⟨z1, z2, z3⟩ := z
          have hzz : Z3.H zz = some (.list [.int z1 0, .int z2 0, .int z3 0]) := hzz
          rw [ne_snoc]
          refine zV ?_
          walk_at "S"
          refine yF (by walk_at "H") ?_
          walk_at "S"
          refine zh (by walk_at "H") (k := 0) (by decide) rfl ?_
          walk_at "S"
          refine yF (by walk_at "H") ?_
          walk_at "S"
          refine zh (by walk_at "H") (k := 2) (by decide) rfl ?_
          walk_at "S"
          refine qN (λ h1 => ?_) (λ h1 => ⟨Qn, zY λ z => h1 (congrArg Nat.cast (Joins.snoc.mp z).1)⟩)
          walk_at "S"
          refine yF (by walk_at "H") ?_
          walk_at "S"
          refine zh (by walk_at "H") (k := 1) (by decide) rfl ?_
          walk_at "S"
          refine yF (by walk_at "H") ?_
          walk_at "S"
          refine zh (by walk_at "H") (k := 2) (by decide) rfl ?_
          walk_at "S"
          refine qN (λ h2 => ?_) (λ h2 => ⟨Qn, zY λ z => h2 (congrArg Nat.cast (Joins.snoc.mp z).2)⟩)
          walk_at "S"
          exact ⟨Qn, qz (Joins.snoc.mpr ⟨Int.ofNat_inj.mp h1, Int.ofNat_inj.mp h2⟩)⟩
      . rintro ⟨o', z, rfl, hz1, hz2⟩ Z4 ⟨ext, ma, mb, mbl, hls2, rs, hbl2, rb, hi, hjj⟩
        try dsimp only at ext ma mb mbl hls2 rs hbl2 rb hi hjj
        rw [List.map_append] at rb
        obtain ⟨bvs', zz, rfl, hzz, rb'⟩ := Rows.last rb
        obtain ⟨z1, z2, z3⟩ := z
        have hzz : Z4.H zz = some (.list [.int z1 0, .int z2 0, .int z3 0]) := hzz
        refine zV ?_
        walk_at "S"
        refine yF (by walk_at "H") ?_
        walk_at "S"
        refine zh (by walk_at "H") (k := 0) (by decide) rfl ?_
        walk_at "S"
        refine yF (by walk_at "H") ?_
        walk_at "S"
        refine zh (by walk_at "H") (k := 1) (by decide) rfl ?_
        walk_at "S"
        refine yF (by walk_at "H") ?_
        walk_at "S"
        refine zh (by walk_at "H") (k := 2) (by decide) rfl ?_
        walk_at "S"
        refine ⟨show 3 <= sizeLine by decide, ?_⟩
        intro D hD
        have hD : Z4.H D = none := hD
        walk_at "S"
        refine set_last (by walk_at "H") ?_
        walk_at "S"
        rw [apStep_join (y := (z1, z2, z3)) (p := (x1, x2)) hz1 hz2]
        exact ⟨some (.int x1 0), some (.int x2 0), _, (ext.new hD).turn nbl, ma, mb, mbl, by walk_at "H", (rs.new hD).turn (zB hD hbl2) brefs prow_ne, zA, ((rb'.new (o := .list [.int z1 0, .int z2 0, .int ((z3 : Int) + 1) 0]) hD).snocF (x := D) (z := (z1, z2, z3 + 1)) zA).turn (zB hD hbl2) brefs brow_ne, by walk_at "H", by walk_at "H"⟩
      . rintro hP Z4 ⟨ext, ma, mb, mbl, hls2, rs, hbl2, rb, hi, hjj⟩
        try dsimp only at ext ma mb mbl hls2 rs hbl2 rb hi hjj
        refine zI ?_
        walk_at "S"
        refine zT (by walk_at "H") ?_
        refine zW (.builtin _) ?_
        walk_at "S"
        refine ⟨show 3 <= sizeLine by decide, ?_⟩
        intro D hD
        have hD : Z4.H D = none := hD
        walk_at "S"
        refine zU (by walk_at "H") (by ac_nf) ?_
        walk_at "S"
        rw [apStep_no hP]
        exact ⟨some (.int x1 0), some (.int x2 0), _, (ext.new hD).turn nbl, ma, mb, mbl, by walk_at "H", (rs.new hD).turn (zB hD hbl2) brefs prow_ne, zA, ((rb.new (o := .list [.int x1 0, .int x2 0, .int 1 0]) hD).snocF (x := D) (z := (x1, x2, 1)) zA).turn (zB hD hbl2) brefs brow_ne, by walk_at "H", by walk_at "H"⟩
    . rintro Z2 ⟨vi, vj, bvs, ext, ma, mb, mbl, hls2, rs, hbl2, rb, hi, hjj⟩
      try dsimp only at ext ma mb mbl hls2 rs hbl2 rb hi hjj
      have hTl := rs.len
      rw [List.length_map] at hTl
      rw [hTl, List.take_length] at rb
      refine (?_ : Wp _ _ _ (execs _ _) _ _)
      walk_at "S"
      refine yp ?_
      walk_at "S"
      refine qe (by walk_at "H") (ssv_few la) ?_
      walk_at "S"
      refine yp ?_
      walk_at "S"
      refine qe (by walk_at "H") (ssv_few lb) ?_
      walk_at "S"
      refine ⟨show 3 <= sizeLine by decide, ?_⟩
      intro d0 hd0
      have hd0 : Z2.H d0 = none := hd0
      walk_at "S"
      refine ⟨show 1 <= sizeLine by decide, ?_⟩
      intro d1 hd1
      walk_at "S"
      have hal := ap_len Tl []
      have hszl : sizeLine = 2 ^ 24 := rfl
      have lbl := rb.len
      rw [List.length_map] at lbl
      have hl0 : ([] : List qA).length = 0 := rfl
      refine bin_addList (by walk_at "H") (by walk_at "H") (by rw [List.length_singleton]; ac_nf) ?_
      intro D hD c hc
      refine qW (h _ D _ _ hTold (((ext.new hd0).new hd1).new hD) zA ?_ c hc)
      have e3 : ([.int ((zZ as).length : Int) 0, .int ((zZ bs).length : Int) 0, .int 0 0] : List Value) = qo (qJ (as.length, bs.length, 0)) := by rw [ze, ze]; rfl
      exact (((rb.new (o := .list [.int ((zZ as).length : Int) 0, .int ((zZ bs).length : Int) 0, .int 0 0]) hd0).snocF (x := d0) (z := (as.length, bs.length, 0)) (by rw [e3]; exact zA)).new hd1).new hD
theorem cellsOn2 {H : AH} {x y : Str} {c d : Addr} (hc : H c = none) (hd : H d = none) (hne : c ≠ d) : zm H (qb H [(x, c), (y, d)]) /\ qb H [(x, c), (y, d)] c = some (.cell none) /\ qb H [(x, c), (y, d)] d = some (.cell none) := by
  refine ⟨((zm.refl H).new hd).new ?_, zA, ?_⟩
  . show zD H d (.cell none) c = none
    rw [zE _ hne]; exact hc
  . show zD (zD H d (.cell none)) c (.cell none) d = _
    rw [zE _ (Ne.symm hne)]; exact zA
theorem blocks_call {S : St} {f g a b junk : Addr} {as bs js : List Str} {Φ : Value -> St -> Prop} (hA : Room A 3) (Df : IsDef X f yd (bodyOf yd)) (Db : IsDef X g yt (bodyOf yt)) (hg : yg X mainGlobals "_law_best" (.ref g)) (hr : qG X mainGlobals builtinsNs "range" (.type "range")) (hle : qG X mainGlobals builtinsNs "len" (.builtin "len"))
   (hso : qG X mainGlobals builtinsNs "sorted" (.builtin "sorted")) (T : TopK X)
   (ha : S.H a = some (.list (zZ as))) (hb : S.H b = some (.list (zZ bs))) (hj : S.H junk = some (.list (zZ js))) (la : as.length < 64) (lb : bs.length < 64)
   (h : ∀ out D vs H', Told as bs js.contains out -> zm S.H H' -> H' D = some (.list vs) -> Rows H' false vs (out.map qJ) -> Φ (.ref D) ⟨S.m, H'⟩) :
   zO X A L (.ref f) [.ref a, .ref b, .ref junk] S Φ := by
  refine call_fnC (names := ["a", "b", "junk"]) (λ L' => [(("j" : Str), L' + 2), (("i" : Str), L' + 1)]) Df (by have := hA.dp; ac_nf) (λ cs hcs => ?_) (λ L' => cells_blocks L') (λ L' => by simp; decide) (by rfl) (by rfl) λ L' hL' hcells => ?_
  . obtain ⟨c1, c2, c3, rfl, _⟩ := map3 hcs
    rfl
  . have n2 := (hcells (("j" : Str), L' + 2) List.mem_cons_self).1
    have n1 := (hcells (("i" : Str), L' + 1) (List.mem_cons_of_mem _ List.mem_cons_self)).1
    obtain ⟨e0, e1, e2⟩ := cellsOn2 (x := "j") (y := "i") n2 n1 (Nat.ne_of_gt (Nat.lt_succ_self (L' + 1)))
    exact blocks_body (Room.deep (n := 2) hA) Db hg hr hle hso T rfl rfl rfl e0 ha hb hj la lb e2 e1 n1 n2 λ out D vs S' hT hE hD hR c hc => by
      have := h out D vs S'.H hT hE hD hR
      rw [<- hc] at this
      exact this
end
section
variable {X : Wd} {A : Around} {L fa : Addr} {m : Str -> Option Value} {H : AH}
theorem cells_marks (L : Addr) : cellsFrom (L + 1) yA.scope.names [] = [(("way" : Str), L + 1)] := by rfl
structure MkH (H0 : AH) (dl ci : Addr) (dvs : List Value) (ds : List qx) (out : List qf) (mk : Addr) (mvs : List Value) (v : Option Value) (S : St) : Prop where
  ext : zm H0 S.H
  nmk : H0 mk = none
  mmk : S.m "marks" = some (.ref mk)
  hd : S.H dl = some (.list dvs)
  rd : Refs S.H dvs (ds.map qQ)
  hm : S.H mk = some (.list mvs)
  rm : Refs S.H mvs (out.map markO)
  hi : S.H ci = some (.cell v)
theorem marks_body {H0 : AH} {dl : Addr} {dvs : List Value} {ds : List qx} {Φ : Flow -> St -> Prop} (hA : Room A 1) (hle : qG X mainGlobals builtinsNs "len" (.builtin "len"))
   (md : m "deeds" = some (.ref dl)) (hE0z : zm H0 H) (hd0z : H0 dl = some (.list dvs)) (rd0 : Refs H0 dvs (ds.map qQ)) (lds : ds.length < 64) (hw : ∀ d ∈ ds, d.2.2.cps.size <= 64) (hci : H (L + 1) = some (.cell none)) (ni0 : H0 (L + 1) = none)
   (h : ∀ D vs S', H0 D = none -> zm H0 S'.H -> S'.H D = some (.list vs) -> Refs S'.H vs ((zg ds).map markO) -> ∀ c, er c = .ref D -> Φ (.ret c) S') :
   Wp X A L (execs (bodyOf yA) (callEnvC yA L fa)) ⟨m, H⟩ Φ := by
  have hd := hE0z.get hd0z
  have rd := rd0.of_ext hE0z
  have hszl : sizeLine = 2 ^ 24 := rfl
  with_unfolding_all refine zM ?_
  walk_at "S"
  refine ⟨show 0 <= sizeLine by decide, ?_⟩
  intro mk hmk
  have hmk : H mk = none := hmk
  walk_at "S"
  have hw' : ∀ k, ∀ q ∈ (ds.take k).foldl zl [], q.1.cps.size <= 64 := λ k => marks_w (λ d hd => hw d (List.mem_of_mem_take hd)) (λ q hq => nomatch hq)
  refine yU hA.hh (by walk_at "H") (λ k S => ∃ mk mvs v, MkH H0 dl (L + 1) dvs ds ((ds.take k).foldl zl []) mk mvs v S) ?_ ?_ ?_ ?_
  . exact ⟨mk, [], none, hE0z.new hmk, hE0z.none hmk, rfl, by walk_at "H", rd.new hmk, by walk_at "H", Refs.nil, by walk_at "H"⟩
  . rintro k S ⟨_, _, _, I⟩; exact I.hd
  . rintro k Ψ Φ1 u1 up1 u Z2 hu ⟨mk, mvs, vi, ext, nmk, mmk, hd2, rd2, hm2, rm, hi⟩
    try dsimp only at ext mmk hd2 rd2 hm2 rm hi
    obtain ⟨y, o, rfl, ho, hy⟩ := rd2.get hu
    rw [List.getElem?_map] at ho
    obtain ⟨⟨kd, bt, wy⟩, hpr, rfl⟩ := Option.map_eq_some_iff.mp ho
    have hy : Z2.H y = some (.list [.int kd 0, .int bt 0, .str wy 0]) := hy
    have hk : k < ds.length := (List.getElem?_eq_some_iff.mp hpr).1
    have hwy : wy.cps.size <= 64 := hw _ (List.mem_of_getElem? hpr)
    have hol := marks_len (ds.take k) []
    have hwk := hw' k
    rw [List.length_take] at hol
    have hl0 : ([] : List qf).length = 0 := rfl
    rw [hl0] at hol
    rw [take_marks ds hpr] at up1
    generalize (ds.take k).foldl zl [] = out at rm hol hwk up1
    have lbl := rm.len
    rw [List.length_map] at lbl
    have s3 := zK hd2 hi rfl
    have g3 := zK hm2 hi rfl
    have dmk : dl ≠ mk := zS hd0z nmk
    refine asg_list hA.hh hy rfl ?_
    refine zG (zH ?_)
    refine zG (zH ?_)
    refine zG (qV (by rfl) hi ?_)
    refine zy (u1 _ ?_)
    refine Wp.abs (λ S => A3 (MkH H0 dl (L + 1) dvs ds out mk mvs (some (.str wy 0)) S) (S.m "kind" = some (.int kd 0)) (S.m "bit" = some (.int bt 0))) ⟨⟨ext.turn ni0, nmk, mmk, by walk_at "H", rd2.cell hi (deedO_cell ds), by walk_at "H", rm.cell hi (markO_cell out), by walk_at "H"⟩, rfl, rfl⟩ ?_
    clear ext mmk hd2 rd2 hm2 rm hi hy hu
    rintro Z3 ⟨⟨ext, -, mmk, hd2, rd2, hm2, rm, hi⟩, mkd, mbt⟩
    try dsimp only at ext mmk mkd mbt hd2 rd2 hm2 rm hi
    have fin : ∀ {st : List qf} {us : List Value} {D : Addr} {v : Option Value} (S' : St), st = zl out (kd, bt, wy) -> MkH H0 dl (L + 1) dvs ds st D us v S' -> ∃ mk mvs v, MkH H0 dl (L + 1) dvs ds (zl out (kd, bt, wy)) mk mvs v S' := by
      rintro st us D v S' rfl a
      exact ⟨D, us, v, a⟩
    walk_at "S"
    refine zN (λ h1 => ?_) (λ h1 => ?_)
    . walk_at "S"
      refine zT (by walk_at "H") ?_
      refine zW (.builtin _) ?_
      walk_at "S"
      refine ⟨show 2 <= sizeLine by decide, ?_⟩
      intro D hD
      have hD : Z3.H D = none := hD
      walk_at "S"
      refine zU (by walk_at "H") (by ac_nf) ?_
      walk_at "S"
      have w1 := (rm.new (o := .list [.str wy 0, .bool ((kd : Int) == 4)]) hD).snoc (a := D) (o := markO (wy, (kd : Int) == 4)) zA
      rw [show [markO (wy, (kd : Int) == 4)] = [(wy, (kd : Int) == 4)].map markO from rfl, <- List.map_append] at w1
      refine fin (D := mk) _ ?_ ⟨(ext.new hD).turn nmk, nmk, mmk, by walk_at "H", (rd2.new hD).turn (zB hD hm2) rm.refs (deedO_no ds), zA, w1.turn (zB hD hm2) rm.refs (markO_no _), by walk_at "H"⟩
      unfold zl
      rw [if_pos (show kd < 5 by ac_nf)]
    . walk_at "S"
      refine qN (λ h2 => ?_) (λ h2 => ?_)
      . have h2 : bt = 1 := by ac_nf
        refine zM ?_
        refine ex_AssignComp [(("way" : Str), L + 1)] ?_ (.inr ⟨_, rfl⟩)
        walk_at "S"
        refine ⟨mvs.length, _, _, λ k acc H' => zm Z3.H H' /\ Refs H' acc (((out.take k).filter (keepM wy)).map markO), iter_list hA.hh (by walk_at "H"), by ac_nf, ⟨zm.refl _, Refs.nil⟩, λ k acc H' hI => hI.1.get hm2, ?_, ?_⟩
        . rintro L' hL' k acc m' H' u S1 hk ⟨hE, hR⟩ ⟨hu, hS⟩
          subst hS
          obtain ⟨y, o, rfl, ho, hy⟩ := rm.get hu
          rw [List.getElem?_map] at ho
          obtain ⟨⟨at', bw⟩, hpr', rfl⟩ := Option.map_eq_some_iff.mp ho
          have hy := hE.get (show Z3.H y = some (.list [.str at' 0, .bool bw]) from hy)
          have hi' := hE.get hi
          have hat : at'.cps.size <= 64 := hwk _ (List.mem_of_getElem? hpr')
          refine zH ?_
          refine tests_one ?_
          walk_at "S"
          refine zh (by walk_at "H") (k := 0) (by decide) rfl ?_
          walk_at "S"
          refine yp ?_
          walk_at "S"
          refine call_lenStr (by ac_nf) ?_
          refine ⟨_, rfl, ?_⟩
          walk_at "S"
          intro sl hsl
          have hsl : H' sl = none := hsl
          refine item_strUpto zA ?_ (by ac_nf)
          walk_at "S"
          have etk : out.take (k + 1) = out.take k ++ [(at', bw)] := by rw [List.take_add_one, hpr']; rfl
          refine qO (λ hq => ?_) (λ hq => ?_)
          . walk_at "S"
            refine ⟨hE.new hsl, ?_⟩
            rw [etk, List.filter_append, List.filter_cons_of_pos (by exact hq), List.filter_nil, List.map_append]
            exact (hR.new hsl).snoc (zB hsl hy)
          . refine ⟨hE.new hsl, ?_⟩
            rw [etk, List.filter_append, List.filter_cons_of_neg (by show ¬ (takeS at' wy.cps.size != wy) = true; rw [hq]; decide), List.filter_nil, List.append_nil]
            exact hR.new hsl
        . rintro acc H' hlen ⟨hE, hR⟩ D hD
          have hD : H' D = none := hD
          rw [lbl, List.take_length] at hR
          have z1 := hE.get hd2
          have z2 := hE.get hi
          walk_at "S"
          refine fin (D := D) _ ?_ ⟨(ext.trans hE).new hD, (ext.trans hE).none hD, rfl, by walk_at "H", (rd2.of_ext hE).new hD, zA, hR.new hD, by walk_at "H"⟩
          unfold zl
          rw [if_neg (show ¬ kd < 5 by ac_nf), if_pos h2]
      . walk_at "S"
        refine fin (D := mk) Z3 ?_ ⟨ext, nmk, mmk, hd2, rd2, hm2, rm, hi⟩
        unfold zl
        rw [if_neg (show ¬ kd < 5 by ac_nf), if_neg (show ¬ bt = 1 by ac_nf)]
  . rintro Z2 ⟨mk, mvs, vi, ext, nmk, mmk, hd2, rd2, hm2, rm, hi⟩
    try dsimp only at ext mmk hd2 rd2 hm2 rm hi
    have ldv := rd.len
    rw [List.length_map] at ldv
    rw [ldv, List.take_length] at rm
    refine (?_ : Wp _ _ _ (execs _ _) _ _)
    walk_at "S"
    intro c hc
    exact qW (h mk mvs _ nmk ext hm2 rm c hc)
theorem cellsOn1 {H : AH} {x : Str} {c : Addr} (hc : H c = none) : zm H (qb H [(x, c)]) /\ qb H [(x, c)] c = some (.cell none) := ⟨(zm.refl H).new hc, zA⟩
theorem marks_call {S : St} {f dl : Addr} {dvs : List Value} {ds : List qx} {Φ : Value -> St -> Prop} (hA : Room A 2) (Df : IsDef X f yA (bodyOf yA)) (hle : qG X mainGlobals builtinsNs "len" (.builtin "len"))
   (hd : S.H dl = some (.list dvs)) (rd : Refs S.H dvs (ds.map qQ)) (lds : ds.length < 64) (hw : ∀ d ∈ ds, d.2.2.cps.size <= 64)
   (h : ∀ D vs H', S.H D = none -> zm S.H H' -> H' D = some (.list vs) -> Refs H' vs ((zg ds).map markO) -> Φ (.ref D) ⟨S.m, H'⟩) : zO X A L (.ref f) [.ref dl] S Φ := by
  refine call_fnC (names := ["deeds"]) (λ L' => [(("way" : Str), L' + 1)]) Df (by have := hA.dp; ac_nf) (λ cs hcs => ?_) (λ L' => cells_marks L') (λ L' => by simp) (by rfl) (by rfl) λ L' hL' hcells => ?_
  . obtain ⟨c1, rfl, _⟩ := yX hcs
    rfl
  . have n1 := (hcells (("way" : Str), L' + 1) List.mem_cons_self).1
    obtain ⟨e0, e1⟩ := cellsOn1 (x := "way") n1
    exact marks_body (Room.deep (n := 1) hA) hle rfl e0 hd rd lds hw e1 n1 λ D vs S' hn hE hD hR c hc => by
      have := h D vs S'.H hn hE hD hR
      rw [<- hc] at this
      exact this
structure JkQ (H : AH) (jl mk wl : Addr) (w : Str) (mvs : List Value) (ms : List qf) (acc : List Str) (l : Nat) (S : St) : Prop where
  ext : zm H S.H
  mj : S.m "junk" = some (.ref jl)
  mm : S.m "marks" = some (.ref mk)
  mw : S.m "way" = some (.str w 0)
  hw : S.H wl = some (.list (zZ zn))
  hm : S.H mk = some (.list mvs)
  rm : Refs S.H mvs (ms.map markO)
  hj : S.H jl = some (.list (zZ (acc ++ ((ms.take l).filter (jX w)).map λ o_ => w)))
structure JkI (H : AH) (jl mk wl : Addr) (mvs : List Value) (ms : List qf) (acc : List Str) (S : St) : Prop where
  ext : zm H S.H
  mj : S.m "junk" = some (.ref jl)
  mm : S.m "marks" = some (.ref mk)
  hw : S.H wl = some (.list (zZ zn))
  hm : S.H mk = some (.list mvs)
  rm : Refs S.H mvs (ms.map markO)
  hj : S.H jl = some (.list (zZ acc))
theorem mark_str {ms : List qf} {xs : List Str} : ∀ o ∈ ms.map markO, (some (AO.list (zZ xs))) ≠ some o := λ o ho e => by
  obtain ⟨q, _, rfl⟩ := List.mem_map.mp ho
  have e : AO.list (zZ xs) = .list [.str q.1 0, .bool q.2] := Option.some.inj e
  match xs, e with
  | [], e => simp [zZ] at e
  | [_], e => simp [zZ] at e
  | _ :: _ :: _, e => simp [zZ] at e
theorem junk_body {g dl : Addr} {dvs : List Value} {ds : List qx} {Φ : Flow -> St -> Prop} (hA : Room A 2) (Dm : IsDef X g yA (bodyOf yA)) (hg : yg X mainGlobals "_law_marks" (.ref g)) (hle : qG X mainGlobals builtinsNs "len" (.builtin "len"))
   (md : m "deeds" = some (.ref dl)) (hd : H dl = some (.list dvs)) (rd : Refs H dvs (ds.map qQ)) (lds : ds.length < 64) (hw : ∀ d ∈ ds, d.2.2.cps.size <= 64)
   (h : ∀ D S', zm H S'.H -> S'.H D = some (.list (zZ (qC (zg ds)))) -> ∀ c, er c = .ref D -> Φ (.ret c) S') :
   Wp X A L (execs (bodyOf fLJunk) (callEnv fLJunk L fa)) ⟨m, H⟩ Φ := by
  have hszl : sizeLine = 2 ^ 24 := rfl
  with_unfolding_all refine zM ?_
  walk_at "S"
  refine ⟨show 0 <= sizeLine by decide, ?_⟩
  intro jl hjl
  have hjl : H jl = none := hjl
  walk_at "S"
  refine qF ?_
  refine zW (.fn Dm) ?_
  walk_at "S"
  refine marks_call (ds := ds) (dvs := dvs) hA Dm hle (by walk_at "H") (rd.new hjl) lds hw ?_
  intro mk mvs H1 hnk hE1 hm1z rm1z
  have hol := marks_len ds []
  have hl0 : ([] : List qf).length = 0 := rfl
  rw [hl0] at hol
  have hmw : ∀ q ∈ zg ds, q.1.cps.size <= 64 := marks_w hw (λ q hq => nomatch hq)
  have j1 : H1 jl = some (.list (zZ [])) := hE1.get zA
  have jm : jl ≠ mk := Ne.symm (zF hnk).1
  have ext1 : zm H H1 := λ b o e => hE1 _ _ (zB hjl e)
  change (zg ds).length <= _ at hol
  have hJ : ∀ D S', zm H S'.H -> S'.H D = some (.list (zZ (zn.flatMap λ w => ((zg ds).filter (jX w)).map λ o_ => w))) -> ∀ c, er c = .ref D -> Φ (.ret c) S' := h
  generalize zg ds = ms at hol hmw rm1z hJ
  walk_at "S"
  refine ⟨show 5 <= sizeLine by decide, ?_⟩
  intro wl hwl
  have hwl : H1 wl = none := hwl
  have wj : wl ≠ jl := Ne.symm (zS j1 hwl)
  refine yU hA.hh (vs := zZ zn) zA (λ k S => JkI H jl mk wl mvs ms ((zn.take k).flatMap λ w => (ms.filter (jX w)).map λ o_ => w) S) ?_ ?_ ?_ ?_
  . exact ⟨ext1.new hwl, rfl, rfl, zA, zB hwl hm1z, rm1z.new hwl, zB hwl j1⟩
  . rintro k S I; exact I.hw
  . rintro k Ψ Φ1 u1 up1 u Z2 hu ⟨ext, mj, mm, hw2, hm2, rm, hj⟩
    try dsimp only at ext mj mm hw2 hm2 rm hj
    rw [zZ, List.getElem?_map] at hu
    obtain ⟨w, hwk, rfl⟩ := Option.map_eq_some_iff.mp hu
    have hws : w.cps.size <= 64 := by
      have : w ∈ zn := List.mem_of_getElem? hwk
      simp only [zn, List.mem_cons, List.not_mem_nil, or_false] at this
      rcases this with rfl | rfl | rfl | rfl | rfl <;> decide
    rw [takeJ ms hwk] at up1
    have hfew := junk_few ms (zn.take k)
    have hk5 : (zn.take k).length <= 5 := by rw [List.length_take]; exact Nat.min_le_right _ _
    have hfew2 : (zn.take k).length * ms.length <= 5 * ms.length := Nat.mul_le_mul_right _ hk5
    generalize (zn.take k).flatMap (λ w => (ms.filter (jX w)).map λ o_ => w) = acc at hj hfew up1
    refine zH (u1 _ ?_)
    walk_at "S"
    refine yU hA.hh (by walk_at "H") (λ l S => JkQ H jl mk wl w mvs ms acc l S) ?_ ?_ ?_ ?_
    . refine ⟨ext, mj, mm, rfl, hw2, hm2, rm, ?_⟩
      rw [List.take_zero, List.filter_nil, List.map_nil, List.append_nil]; exact hj
    . rintro l S I; exact I.hm
    . rintro l Ψ2 Φ2 u2 up2 u Z3 hu ⟨ext, mj, mm, mw, hw2, hm2, rm, hj⟩
      try dsimp only at ext mj mm mw hw2 hm2 rm hj
      obtain ⟨y, o, rfl, ho, hy⟩ := rm.get hu
      rw [List.getElem?_map] at ho
      obtain ⟨⟨at', bw⟩, hpr, rfl⟩ := Option.map_eq_some_iff.mp ho
      have hy : Z3.H y = some (.list [.str at' 0, .bool bw]) := hy
      have hat : at'.cps.size <= 64 := hmw _ (List.mem_of_getElem? hpr)
      have hll : ((ms.take l).filter (jX w)).length <= ms.length := Nat.le_trans (List.length_filter_le _ _) (by rw [List.length_take]; exact Nat.min_le_right _ _)
      refine asg_list hA.hh hy rfl ?_
      refine zG (zH ?_)
      refine zG (zH ?_)
      refine zy (u2 _ ?_)
      have etk : ms.take (l + 1) = ms.take l ++ [(at', bw)] := by rw [List.take_add_one, hpr]; rfl
      refine zM ?_
      refine ex_If ?_
      refine tv_cut2 (jX w (at', bw) = true) (JkQ H jl mk wl w mvs ms acc l) ?_ ?_ ?_
      . have Q0 : (JkQ H jl mk wl w mvs ms acc l) ⟨zb (zb Z3.m "at" (.str at' 0)) "below" (.bool bw), Z3.H⟩ := by
          exact ⟨ext, mj, mm, mw, hw2, hm2, rm, hj⟩
        walk_at "S"
        refine qN (λ h1 => ⟨Q0, qz ?_⟩) (λ h1 => ?_)
        . show (at' == w || _) = true
          rw [h1, beq_self_eq_true]; rfl
        have e1 : jX w (at', bw) = (bw && takeS w at'.cps.size == at') := by
          show (at' == w || _) = _
          rw [beq_eq_false_iff_ne.mpr h1, Bool.false_or]
        walk_at "S"
        refine qO (λ hb => ?_) (λ hb => ?_)
        . walk_at "S"
          refine yp ?_
          walk_at "S"
          refine call_lenStr (by ac_nf) ?_
          refine ⟨_, rfl, ?_⟩
          walk_at "S"
          intro sl hsl
          have hsl : Z3.H sl = none := hsl
          have Q1 : (JkQ H jl mk wl w mvs ms acc l) ⟨zb (zb Z3.m "at" (.str at' 0)) "below" (.bool bw), zD Z3.H sl (.slice none (some (at'.cps.size : Int)) none)⟩ :=
            ⟨ext.new hsl, mj, mm, mw, zB hsl hw2, zB hsl hm2, rm.new hsl, zB hsl hj⟩
          refine item_strUpto zA ?_ (by ac_nf)
          walk_at "S"
          refine qO (λ h2 => ?_) (λ h2 => ?_)
          . walk_at "S"
            exact zV ⟨Q1, qz (by rw [e1, hb, h2]; rfl)⟩
          . walk_at "S"
            refine zI ?_
            walk_at "S"
            exact ⟨Q1, zY (by rw [e1, hb, h2]; simp)⟩
        . walk_at "S"
          refine zI ?_
          walk_at "S"
          exact ⟨Q0, zY (by rw [e1, hb]; simp)⟩
      . rintro hP Z4 ⟨ext, mj, mm, mw, hw2, hm2, rm, hj⟩
        try dsimp only at ext mj mm mw hw2 hm2 rm hj
        refine zV ?_
        walk_at "S"
        refine zT (by walk_at "H") ?_
        refine zW (.builtin _) ?_
        walk_at "S"
        refine zU (by walk_at "H") (by rw [ze, List.length_append, List.length_map]; ac_nf) ?_
        walk_at "S"
        refine ⟨ext.turn hjl, mj, mm, mw, by walk_at "H", by walk_at "H", rm.put (by rw [hj]; exact mark_str), ?_⟩
        rw [etk, List.filter_append, List.filter_cons_of_pos (by exact hP), List.filter_nil, List.map_append, <- List.append_assoc]
        show zD _ jl _ jl = _
        rw [show zZ (acc ++ ((ms.take l).filter (jX w)).map (λ o_ => w) ++ [(at', bw)].map λ o_ => w) = zZ (acc ++ ((ms.take l).filter (jX w)).map (λ o_ => w)) ++ [.str w 0] by simp [zZ]]
        exact zA
      . rintro hP Z4 ⟨ext, mj, mm, mw, hw2, hm2, rm, hj⟩
        refine zI ?_
        walk_at "S"
        refine ⟨ext, mj, mm, mw, hw2, hm2, rm, ?_⟩
        rw [etk, List.filter_append, List.filter_cons_of_neg (by exact hP), List.filter_nil, List.append_nil]
        exact hj
    . rintro Z3 ⟨ext, mj, mm, mw, hw2, hm2, rm, hj⟩
      have lmv := rm.len
      rw [List.length_map] at lmv
      rw [lmv, List.take_length] at hj
      walk_at "S"
      exact ⟨ext, mj, mm, hw2, hm2, rm, hj⟩
  . rintro Z2 ⟨ext, mj, mm, hw2, hm2, rm, hj⟩
    try dsimp only at ext mj mm hw2 hm2 rm hj
    refine (?_ : Wp _ _ _ (execs _ _) _ _)
    walk_at "S"
    intro c hc
    rw [ze] at hj
    rw [List.take_length] at hj
    exact qW (hJ jl _ ext hj c hc)
theorem junk_call {S : St} {f g dl : Addr} {dvs : List Value} {ds : List qx} {Φ : Value -> St -> Prop} (hA : Room A 3) (Df : IsDef X f fLJunk (bodyOf fLJunk)) (Dm : IsDef X g yA (bodyOf yA)) (hg : yg X mainGlobals "_law_marks" (.ref g)) (hle : qG X mainGlobals builtinsNs "len" (.builtin "len"))
   (hd : S.H dl = some (.list dvs)) (rd : Refs S.H dvs (ds.map qQ)) (lds : ds.length < 64) (hw : ∀ d ∈ ds, d.2.2.cps.size <= 64)
   (h : ∀ D H', zm S.H H' -> H' D = some (.list (zZ (qC (zg ds)))) -> Φ (.ref D) ⟨S.m, H'⟩) : zO X A L (.ref f) [.ref dl] S Φ := by
  refine qT (names := ["deeds"]) Df (by have := hA.dp; ac_nf) (λ cs hcs => ?_) (by rfl) (by rfl) λ L' hL' => ?_
  . obtain ⟨c1, rfl, _⟩ := yX hcs
    rfl
  . exact junk_body (Room.deep (n := 2) hA) Dm hg hle rfl hd rd lds hw λ D S' hE hD c hc => by
      have := h D S'.H hE hD
      rw [<- hc] at this
      exact this
end
section
variable {X : Wd} {A : Around} {L fa : Addr} {m : Str -> Option Value} {H : AH}
inductive DrI (H0 : AH) (wl fl sl el ll nl : Addr) (ns : List Int) (k : Nat) (H : AH) (m : Str -> Option Value) : Prop
  | mk (ext : zm H0 H) (mw : m "ways" = some (.ref wl)) (mf : m "first" = some (.ref fl)) (ms : m "second" = some (.ref sl)) (me : m "early" = some (.ref el)) (ml : m "late" = some (.ref ll)) (mn : m "numbers" = some (.ref nl)) (hw : H wl = some (.list (zZ yk))) (hn : H nl = some (.list (qo ns))) (hf : ∃ fs, H fl = some (.list (zZ fs)) /\ SeqOk fs) (hs : ∃ ss, H sl = some (.list (zZ ss)) /\ SeqOk ss) (he : ∃ es evs, H el = some (.list evs) /\ Refs H evs (es.map qQ) /\ DeedsOk es (k + 1)) (hl : ∃ ls lvs, H ll = some (.list lvs) /\ Refs H lvs (ls.map qQ) /\ DeedsOk ls (k + 1))
theorem DrI.new {H0 H : AH} {wl fl sl el ll nl b : Addr} {ns : List Int} {k : Nat} {m : Str -> Option Value} {o : AO} (I : DrI H0 wl fl sl el ll nl ns k H m) (hb : H b = none) : DrI H0 wl fl sl el ll nl ns k (zD H b o) m := by
  obtain ⟨ext, mw, mf, ms, me, ml, mn, hw, hn, ⟨fs, hf, fo⟩, ⟨ss, hs, so⟩, ⟨es, evs, he, re, eo⟩, ⟨ls, lvs, hl, rl, lo⟩⟩ := I
  exact ⟨ext.new hb, mw, mf, ms, me, ml, mn, zB hb hw, zB hb hn, ⟨fs, zB hb hf, fo⟩, ⟨ss, zB hb hs, so⟩, ⟨es, evs, zB hb he, re.new hb, eo⟩, ⟨ls, lvs, zB hb hl, rl.new hb, lo⟩⟩
theorem DrI.next {H0 H : AH} {wl fl sl el ll nl : Addr} {ns : List Int} {k : Nat} {m : Str -> Option Value} (I : DrI H0 wl fl sl el ll nl ns k H m) : DrI H0 wl fl sl el ll nl ns (k + 1) H m := by
  obtain ⟨ext, mw, mf, ms, me, ml, mn, hw, hn, hf, hs, ⟨es, evs, he, re, eo⟩, ⟨ls, lvs, hl, rl, lo⟩⟩ := I
  exact ⟨ext, mw, mf, ms, me, ml, mn, hw, hn, hf, hs, ⟨es, evs, he, re, eo.more⟩, ⟨ls, lvs, hl, rl, lo.more⟩⟩
theorem DrI.name {H0 H : AH} {wl fl sl el ll nl : Addr} {ns : List Int} {k : Nat} {m : Str -> Option Value} {x : Str} {v : Value} (I : DrI H0 wl fl sl el ll nl ns k H m) (h1 : ("ways" : Str) ≠ x) (h2 : ("first" : Str) ≠ x) (h3 : ("second" : Str) ≠ x) (h4 : ("early" : Str) ≠ x) (h5 : ("late" : Str) ≠ x) (h6 : ("numbers" : Str) ≠ x) : DrI H0 wl fl sl el ll nl ns k H (zb m x v) := by
  obtain ⟨ext, mw, mf, ms, me, ml, mn, hw, hn, hf, hs, he, hl⟩ := I
  exact ⟨ext, yS h1 mw, yS h2 mf, yS h3 ms, yS h4 me, yS h5 ml, yS h6 mn, hw, hn, hf, hs, he, hl⟩
theorem mul_small (x : Int) : IntMulOk 2 x /\ IntMulOk (-2) x := ⟨IntMulOk.of_left (by decide), IntMulOk.of_left (by decide)⟩
def FrozL (X : Wd) (a : Addr) (vs : List Value) : Prop := ∃ items : Array Value, (∀ h, X.kept h -> h.IsList a items) /\ items.toList.map er = vs
theorem item_frozSlice {S : St} {a sl : Addr} {vs : List Value} {lo hi st : Option Int} {Φ : Value -> St -> Prop} (hl : FrozL X a vs) (hs : S.H sl = some (.slice lo hi st)) (h0 : st ≠ some 0) (hn : vs.length <= sizeLine) (h : New S (.list (pickL vs lo hi st)) Φ) : jJ X A L (.ref a) (.ref sl) S Φ := by
  intro c d hc hd C s hB R
  rw [zC hc, zC hd]
  obtain ⟨items, hk, e⟩ := hl
  have ho := hk _ (R.kept hB)
  obtain ⟨ob, hos, vl, vu, w, rfl, pl, pu, ps⟩ := R.get hs
  exact ⟨⟨"list", _, slot_list_getitem.lookup, ho.typeIs⟩, wpAny_getItem_list_slice ho ⟨_, hos, rfl, rfl⟩ pl pu ps h0
    ⟨_, R.push (o := .list (pickL vs lo hi st)) rfl ⟨_, _, rfl, jS e lo hi st⟩ _, h _ (R.fresh (zJ _)).2.1⟩ (by rw [zP e]; exact hn)⟩
inductive DrW (H : AH) (wl fl sl el ll nl : Addr) (ns : List Int) (k : Nat) (u : Int) (kd : Nat) (w : Str) (S : St) : Prop
  | mk (I : DrI H wl fl sl el ll nl ns k S.H S.m) (mk' : S.m "k" = some (.int k 0)) (mu : S.m "u" = some (.int u 0)) (mkd : S.m "kind" = some (.int kd 0)) (mwy : S.m "way" = some (.str w 0))
theorem drawn_body {sc : Addr} {ns0 : List Int} {Φ : Flow -> St -> Prop} (hA : Room A 1) (hr : qG X mainGlobals builtinsNs "range" (.type "range")) (hle : qG X mainGlobals builtinsNs "len" (.builtin "len"))
   (msc : m "script" = some (.ref sc)) (hsc : FrozL X sc (qo ns0)) (l0 : ns0.length <= 63)
   (h : ∀ t fl sl el ll fs ss es ls evs lvs S', zm H S'.H -> S'.H t = some (.tup (.type "tuple") [.ref fl, .ref sl, .ref el, .ref ll]) -> S'.H fl = some (.list (zZ fs)) -> SeqOk fs -> S'.H sl = some (.list (zZ ss)) -> SeqOk ss ->
      S'.H el = some (.list evs) -> Refs S'.H evs (es.map qQ) -> DeedsOk es 13 -> S'.H ll = some (.list lvs) -> Refs S'.H lvs (ls.map qQ) -> DeedsOk ls 13 -> ∀ c, er c = .ref t -> Φ (.ret c) S') :
   Wp X A L (execs (bodyOf fLDrawn) (callEnv fLDrawn L fa)) ⟨m, H⟩ Φ := by
  have hszl : sizeLine = 2 ^ 24 := rfl
  with_unfolding_all refine zM ?_
  walk_at "S"
  refine ⟨show 6 <= sizeLine by decide, ?_⟩
  intro wl hwl
  walk_at "S"
  refine ⟨show 3 <= sizeLine by decide, ?_⟩
  intro fl hfl
  walk_at "S"
  refine ⟨show 3 <= sizeLine by decide, ?_⟩
  intro sl hsl
  walk_at "S"
  refine ⟨show 3 <= sizeLine by decide, ?_⟩
  intro e0 he0
  walk_at "S"
  refine ⟨show 1 <= sizeLine by decide, ?_⟩
  intro el hel
  walk_at "S"
  refine ⟨show 3 <= sizeLine by decide, ?_⟩
  intro l0' hl0
  walk_at "S"
  refine ⟨show 1 <= sizeLine by decide, ?_⟩
  intro ll hll
  walk_at "S"
  refine ⟨_, rfl, ?_⟩
  walk_at "S"
  intro slc hslc
  refine item_frozSlice hsc zA (by simp) (by simp [qo]; ac_nf) ?_
  intro nl hnl
  rw [show (some (12 : Int)) = some ((12 : Nat) : Int) from rfl, pickL_upto, show (qo ns0).take 12 = qo (ns0.take 12) by simp [qo, List.map_take]] at *
  have hlen : (ns0.take 12).length <= 12 := by rw [List.length_take]; exact Nat.min_le_left _ _
  generalize ns0.take 12 = ns at *
  have d1 := zF hnl
  have d2 := zF d1.2
  have d3 := zF d2.2
  have d4 := zF d3.2
  have d5 := zF d4.2
  have d6 := zF d5.2
  have d7 := zF d6.2
  have d8 := zF d7.2
  have c1 := zF hll
  have c2 := zF c1.2
  have c3 := zF c2.2
  have c4 := zF c3.2
  have c5 := zF c4.2
  have c6 := zF c5.2
  have b1 := zF hel
  have b2 := zF b1.2
  have b3 := zF b2.2
  have b4 := zF b3.2
  have a1 := zF hsl
  have a2 := zF a1.2
  have f1 := zF hfl
  have x1 : nl ≠ wl := d8.1
  have x2 : nl ≠ fl := d7.1
  have x3 : nl ≠ sl := d6.1
  have x4 : nl ≠ el := d4.1
  have x5 : nl ≠ ll := d2.1
  have y1 : ll ≠ el := c2.1
  have y2 : ll ≠ sl := c4.1
  have y3 : ll ≠ fl := c5.1
  have y4 : ll ≠ wl := c6.1
  have z1 : el ≠ sl := b2.1
  have z2 : el ≠ fl := b3.1
  have z3 : el ≠ wl := b4.1
  have u1 : sl ≠ fl := a1.1
  have u2 : sl ≠ wl := a2.1
  have v1 : fl ≠ wl := f1.1
  have nwl : H wl = none := hwl
  have nfl : H fl = none := f1.2
  have nsl : H sl = none := a2.2
  have nel : H el = none := b4.2
  have nll : H ll = none := c6.2
  refine (?_ : Wp _ _ _ (execs _ _) _ _)
  refine Wp.abs (λ S => DrI H wl fl sl el ll nl ns 0 S.H S.m) ⟨?_, ?_, ?_, ?_, ?_, ?_, ?_, ?_, ?_, ?_, ?_, ?_, ?_⟩ ?_
  . exact ((((((((zm.refl H).new hwl).new hfl).new hsl).new he0).new hel).new hl0).new hll).new hslc |>.new hnl
  . walk_at "m"
  . walk_at "m"
  . walk_at "m"
  . walk_at "m"
  . walk_at "m"
  . walk_at "m"
  . show _ = some (AO.list [.str "a" 0, .str "b" 0, .str "ab" 0, .str "aba" 0, .str "" 0, .str "ba" 0])
    walk_at "H"
  . exact zA
  . refine ⟨["a", "ab", "b"], ?_, by decide, by simp [yk]⟩
    show _ = some (AO.list [.str "a" 0, .str "ab" 0, .str "b" 0])
    walk_at "H"
  . refine ⟨["ab", "b", "a"], ?_, by decide, by simp [yk]⟩
    show _ = some (AO.list [.str "ab" 0, .str "b" 0, .str "a" 0])
    walk_at "H"
  . refine ⟨[(4, 0, "a")], [.ref e0], by walk_at "H", Refs.one ?_, by decide, λ d hd => ?_⟩
    . show _ = some (AO.list [.int (4 : Int) 0, .int (0 : Int) 0, .str "a" 0])
      walk_at "H"
    . rw [List.mem_singleton.mp hd]; exact ⟨.inr (.inl rfl), by decide, by simp [zn]⟩
  . refine ⟨[(5, 1, "a")], [.ref l0'], by walk_at "H", Refs.one ?_, by decide, λ d hd => ?_⟩
    . show _ = some (AO.list [.int (5 : Int) 0, .int (1 : Int) 0, .str "a" 0])
      walk_at "H"
    . rw [List.mem_singleton.mp hd]; exact ⟨.inr (.inr rfl), by decide, by simp [zn]⟩
  clear d1 d2 d3 d4 d5 d6 d7 d8 c1 c2 c3 c4 c5 c6 b1 b2 b3 b4 a1 a2 f1 hwl hfl hsl he0 hel hl0 hll hslc hnl
  rintro Z1 I
  have hI := I
  obtain ⟨ext, mw, mf, ms, me, ml, mn, hw, hn, hf, hs, he, hl⟩ := I
  try dsimp only at ext mw mf ms me ml mn hw hn hf hs he hl
  walk_at "S"
  refine yo ?_
  walk_at "S"
  refine yp ?_
  walk_at "S"
  refine qe (by walk_at "H") (by simp [qo]; ac_nf) ?_
  walk_at "S"
  refine call_range1 ?_
  intro r hr'
  have hr' : Z1.H r = none := hr'
  have lns : (qo ns).length = ns.length := by simp [qo]
  rw [lns]
  refine for_range hA.hh zA (small_nat (p := 0) (q := ns.length) (by ac_nf) (by ac_nf)) (λ k S => DrI H wl fl sl el ll nl ns k S.H S.m) ?_ ?_ ?_
  . obtain ⟨fs, hf, fo⟩ := hf
    obtain ⟨ss, hs, so⟩ := hs
    obtain ⟨es, evs, he, re, eo⟩ := he
    obtain ⟨ls, lvs, hl, rl, lo⟩ := hl
    exact ⟨ext.new hr', mw, mf, ms, me, ml, mn, zB hr' hw, zB hr' hn, ⟨fs, zB hr' hf, fo⟩, ⟨ss, zB hr' hs, so⟩, ⟨es, evs, zB hr' he, re.new hr', eo⟩, ⟨ls, lvs, zB hr' hl, rl.new hr', lo⟩⟩
  . rintro k Z2 hk I
    obtain ⟨ext, mw, mf, ms, me, ml, mn, hw, hn, ⟨fs, hf, fo⟩, ⟨ss, hs, so⟩, ⟨es, evs, he, re, eo⟩, ⟨ls, lvs, hl, rl, lo⟩⟩ := I
    try dsimp only at ext mw mf ms me ml mn hw hn hf hs he re hl rl
    clear hI
    have hk : k < ns.length := by ac_nf
    have hnk : (qo ns)[k]? = some (.int (ns.getD k 0) 0) := by
      rw [qo, List.getElem?_map, List.getElem?_eq_getElem hk, List.getD_eq_getElem?_getD, List.getElem?_eq_getElem hk]; rfl
    generalize ns.getD k 0 = x at hnk
    refine zH ?_
    rw [show ((0 : Int) + (k : Int)) = (k : Int) by ac_nf]
    have I2 : DrI H wl fl sl el ll nl ns k Z2.H Z2.m := ⟨ext, mw, mf, ms, me, ml, mn, hw, hn, ⟨fs, hf, fo⟩, ⟨ss, hs, so⟩, ⟨es, evs, he, re, eo⟩, ⟨ls, lvs, hl, rl, lo⟩⟩
    refine wp_seq (λ S => A3 (DrI H wl fl sl el ll nl ns k S.H S.m) (S.m "k" = some (.int k 0)) (∃ u, S.m "u" = some (.int u 0))) ?_ ?_
    . refine ex_Assign ?_
      refine ev_IfExp ?_
      refine yW (0 <= x) ?_ (λ hx => zV ?_) (λ hx => zI ?_)
      . walk_at "S"
        refine zh (by walk_at "H") (k := k) (by ac_nf) hnk ?_
        walk_at "S"
        exact ⟨rfl, by simp⟩
      . walk_at "S"
        refine zh (by walk_at "H") (k := k) (by ac_nf) hnk ?_
        refine bin_mul (mul_small x).1 ?_
        refine ⟨rfl, (I2.name (by decide) (by decide) (by decide) (by decide) (by decide) (by decide)).name (by decide) (by decide) (by decide) (by decide) (by decide) (by decide), ?_, ⟨2 * x, ?_⟩⟩
        . walk_at "m"
        . walk_at "m"
      . walk_at "S"
        refine zh (by walk_at "H") (k := k) (by ac_nf) hnk ?_
        refine bin_mul (mul_small x).2 ?_
        walk_at "S"
        refine ⟨rfl, (I2.name (by decide) (by decide) (by decide) (by decide) (by decide) (by decide)).name (by decide) (by decide) (by decide) (by decide) (by decide) (by decide), ?_, ⟨-2 * x - 1, ?_⟩⟩
        . walk_at "m"
        . walk_at "m"
    clear ext mw mf ms me ml mn hw hn hf fo hs so he re eo hl rl lo I2 hnk
    rintro Z3 ⟨I, mk, u, mu⟩
    try dsimp only at I mk mu
    have I0 := I
    obtain ⟨ext, mw, mf, ms, me, ml, mn, hw, hn, -, -, -, -⟩ := I
    obtain ⟨f0, f1⟩ := fmod6 u (n := 6) (by ac_nf)
    obtain ⟨g0, g1⟩ := fmod6 (u.fdiv 6) (n := 6) (by ac_nf)
    obtain ⟨b0, b1⟩ := fmod6 (u.fdiv 36) (n := 2) (by ac_nf)
    have pl : ∀ y, (y = 6 \/ y = 36) -> Builtin.divisionGoesByPylong u y = false := by
      rintro y (rfl | rfl)
      . unfold Builtin.divisionGoesByPylong
        rw [Bool.and_eq_false_iff]; exact .inl (by decide)
      . unfold Builtin.divisionGoesByPylong
        rw [Bool.and_eq_false_iff]; exact .inl (by decide)
    obtain ⟨w, hwm, hwg⟩ := ways6_get g0 g1
    obtain ⟨kd, hkd⟩ : ∃ kd : Nat, (kd : Int) = u.fmod 6 := ⟨(u.fmod 6).toNat, Int.toNat_of_nonneg f0⟩
    obtain ⟨bt, hbt⟩ : ∃ bt : Nat, (bt : Int) = (u.fdiv 36).fmod 2 := ⟨((u.fdiv 36).fmod 2).toNat, Int.toNat_of_nonneg b0⟩
    walk_at "S"
    refine bin_mod (by decide) ?_
    walk_at "S"
    refine bin_div (by decide) (pl 6 (.inl rfl)) ?_
    walk_at "S"
    refine bin_mod (by decide) ?_
    refine item_list (by walk_at "H") g0 (by ac_nf) hwg ?_
    refine (?_ : Wp _ _ _ (execs _ _) _ _)
    refine Wp.abs (λ S => DrW H wl fl sl el ll nl ns k u kd w S) ⟨?_, ?_, ?_, ?_, ?_⟩ ?_
    . exact (I0.name (by decide) (by decide) (by decide) (by decide) (by decide) (by decide)).name (by decide) (by decide) (by decide) (by decide) (by decide) (by decide)
    . walk_at "m"
    . walk_at "m"
    . rw [hkd]; walk_at "m"
    . walk_at "m"
    clear ext mw mf ms me ml mn hw hn mk mu I0
    rintro Z3 ⟨I, mk, mu, mkd, mwy⟩
    try dsimp only at I mk mu mkd mwy
    refine qH (λ S => DrW H wl fl sl el ll nl ns k u kd w S) ?_ ?_
    . intro Φ9 up9
      have I0 := I
      obtain ⟨ext, mw, mf, ms, me, ml, mn, hw, hn, ⟨fs, hf, fo⟩, ⟨ss, hs, so⟩, ⟨es, evs, he, re, eo⟩, ⟨ls, lvs, hl, rl, lo⟩⟩ := I
      have hfo := fo.len
      walk_at "S"
      refine ⟨show 2 <= sizeLine by decide, ?_⟩
      intro q hq
      have hq : Z3.H q = none := hq
      refine cmp_inInts (ss := [0, 1]) zA ?_
      walk_at "S"
      refine qO (λ h1 => ?_) (λ h1 => zI ?_)
      . walk_at "S"
        refine yp ?_
        walk_at "S"
        refine qe (by walk_at "H") (by rw [ze]; ac_nf) ?_
        walk_at "S"
        refine zN (λ h2 => ?_) (λ h2 => ?_)
        . rw [ze] at h2
          walk_at "S"
          refine zV ?_
          walk_at "S"
          refine zT (by walk_at "H") ?_
          refine zW (.builtin _) ?_
          walk_at "S"
          refine zU (by walk_at "H") (by rw [ze]; ac_nf) ?_
          walk_at "S"
          have e1 : zZ fs ++ [.str w 0] = zZ (fs ++ [w]) := by simp [zZ]
          rw [e1]
          refine ⟨rfl, ⟨(ext.new hq).turn nfl, mw, mf, ms, me, ml, mn, ?_, ?_, ⟨_, zA, fo.snoc (by ac_nf) hwm⟩, ⟨ss, ?_, so⟩, ⟨es, evs, ?_, (re.new hq).put (by rw [zB hq hf]; exact deed_str), eo⟩, ⟨ls, lvs, ?_, (rl.new hq).put (by rw [zB hq hf]; exact deed_str), lo⟩⟩, mk, mu, mkd, mwy⟩
          . walk_at "H"
          . walk_at "H"
          . walk_at "H"
          . walk_at "H"
          . walk_at "H"
        . refine zI ?_
          walk_at "S"
          exact ⟨rfl, I0.new hq, mk, mu, mkd, mwy⟩
      . walk_at "S"
        exact ⟨rfl, I0.new hq, mk, mu, mkd, mwy⟩
    clear I mk mu mkd mwy
    rintro Z3 ⟨I, mk, mu, mkd, mwy⟩
    try dsimp only at I mk mu mkd mwy
    refine qH (λ S => DrW H wl fl sl el ll nl ns k u kd w S) ?_ ?_
    . intro Φ9 up9
      have I0 := I
      obtain ⟨ext, mw, mf, ms, me, ml, mn, hw, hn, ⟨fs, hf, fo⟩, ⟨ss, hs, so⟩, ⟨es, evs, he, re, eo⟩, ⟨ls, lvs, hl, rl, lo⟩⟩ := I
      have hfo := so.len
      walk_at "S"
      refine ⟨show 2 <= sizeLine by decide, ?_⟩
      intro q hq
      have hq : Z3.H q = none := hq
      refine cmp_inInts (ss := [0, 2]) zA ?_
      walk_at "S"
      refine qO (λ h1 => ?_) (λ h1 => zI ?_)
      . walk_at "S"
        refine yp ?_
        walk_at "S"
        refine qe (by walk_at "H") (by rw [ze]; ac_nf) ?_
        walk_at "S"
        refine zN (λ h2 => ?_) (λ h2 => ?_)
        . rw [ze] at h2
          walk_at "S"
          refine zV ?_
          walk_at "S"
          refine zT (by walk_at "H") ?_
          refine zW (.builtin _) ?_
          walk_at "S"
          refine zU (by walk_at "H") (by rw [ze]; ac_nf) ?_
          walk_at "S"
          have e1 : zZ ss ++ [.str w 0] = zZ (ss ++ [w]) := by simp [zZ]
          rw [e1]
          refine ⟨rfl, ⟨(ext.new hq).turn nsl, mw, mf, ms, me, ml, mn, ?_, ?_, ⟨fs, ?_, fo⟩, ⟨_, zA, so.snoc (by ac_nf) hwm⟩, ⟨es, evs, ?_, (re.new hq).put (by rw [zB hq hs]; exact deed_str), eo⟩, ⟨ls, lvs, ?_, (rl.new hq).put (by rw [zB hq hs]; exact deed_str), lo⟩⟩, mk, mu, mkd, mwy⟩
          . walk_at "H"
          . walk_at "H"
          . walk_at "H"
          . walk_at "H"
          . walk_at "H"
        . refine zI ?_
          walk_at "S"
          exact ⟨rfl, I0.new hq, mk, mu, mkd, mwy⟩
      . walk_at "S"
        exact ⟨rfl, I0.new hq, mk, mu, mkd, mwy⟩
    clear I mk mu mkd mwy
    rintro Z3 ⟨I, mk, mu, mkd, mwy⟩
    try dsimp only at I mk mu mkd mwy
    have I0 := I
    obtain ⟨ext, mw, mf, ms, me, ml, mn, hw, hn, ⟨fs, hf, fo⟩, ⟨ss, hs, so⟩, ⟨es, evs, he, re, eo⟩, ⟨ls, lvs, hl, rl, lo⟩⟩ := I
    have leo := eo.len
    have llo := lo.len
    have lre := re.len
    have lrl := rl.len
    rw [List.length_map] at lre lrl
    walk_at "S"
    refine zN (λ h1 => ?_) (λ h1 => zI ?_)
    . walk_at "S"
      refine qO (λ h2 => ?_) (λ h2 => ?_)
      . have h2 : w ≠ "" := λ q => by rw [q] at h2; exact absurd h2 (by decide)
        have dok : DeedOk (kd, bt, w) := ⟨by show kd = 3 \/ kd = 4 \/ kd = 5; ac_nf, by show bt <= 1; ac_nf, way_not_nil hwm h2⟩
        walk_at "S"
        refine zV ?_
        walk_at "S"
        refine bin_mul (mul_small _).1 ?_
        walk_at "S"
        refine yp ?_
        walk_at "S"
        refine qe (by walk_at "H") (by rw [lns]; ac_nf) ?_
        walk_at "S"
        refine zN (λ h3 => ?_) (λ h3 => ?_)
        . walk_at "S"
          refine zT (by walk_at "H") ?_
          refine zW (.builtin _) ?_
          walk_at "S"
          refine bin_div (by decide) (pl 36 (.inr rfl)) ?_
          walk_at "S"
          refine bin_mod (by decide) ?_
          walk_at "S"
          refine ⟨show 3 <= sizeLine by decide, ?_⟩
          intro d hd
          have hd : Z3.H d = none := hd
          walk_at "S"
          refine zU (by walk_at "H") (by ac_nf) ?_
          walk_at "S"
          have w1 := (re.new (o := .list [.int kd 0, .int ((u.fdiv 36).fmod 2) 0, .str w 0]) hd).snoc (a := d) (o := qQ (kd, bt, w)) (by rw [<- hbt]; exact zA)
          rw [show [qQ (kd, bt, w)] = [(kd, bt, w)].map qQ from rfl, <- List.map_append] at w1
          refine ⟨(ext.new hd).turn nel, mw, mf, ms, me, ml, mn, ?_, ?_, ⟨fs, ?_, fo⟩, ⟨ss, ?_, so⟩, ⟨_, _, zA, w1.turn (zB hd he) re.refs (deedO_no _), eo.snoc dok⟩, ⟨ls, lvs, ?_, (rl.new hd).turn (zB hd he) re.refs (deedO_no _), lo.more⟩⟩
          . walk_at "H"
          . walk_at "H"
          . walk_at "H"
          . walk_at "H"
          . walk_at "H"
        . walk_at "S"
          refine zT (by walk_at "H") ?_
          refine zW (.builtin _) ?_
          walk_at "S"
          refine bin_div (by decide) (pl 36 (.inr rfl)) ?_
          walk_at "S"
          refine bin_mod (by decide) ?_
          walk_at "S"
          refine ⟨show 3 <= sizeLine by decide, ?_⟩
          intro d hd
          have hd : Z3.H d = none := hd
          walk_at "S"
          refine zU (by walk_at "H") (by ac_nf) ?_
          walk_at "S"
          have w1 := (rl.new (o := .list [.int kd 0, .int ((u.fdiv 36).fmod 2) 0, .str w 0]) hd).snoc (a := d) (o := qQ (kd, bt, w)) (by rw [<- hbt]; exact zA)
          rw [show [qQ (kd, bt, w)] = [(kd, bt, w)].map qQ from rfl, <- List.map_append] at w1
          refine ⟨(ext.new hd).turn nll, mw, mf, ms, me, ml, mn, ?_, ?_, ⟨fs, ?_, fo⟩, ⟨ss, ?_, so⟩, ⟨es, evs, ?_, (re.new hd).turn (zB hd hl) rl.refs (deedO_no _), eo.more⟩, ⟨_, _, zA, w1.turn (zB hd hl) rl.refs (deedO_no _), lo.snoc dok⟩⟩
          . walk_at "H"
          . walk_at "H"
          . walk_at "H"
          . walk_at "H"
          . walk_at "H"
      . refine zI ?_
        walk_at "S"
        exact I0.next
    . walk_at "S"
      exact I0.next
  . rintro Z2 I
    obtain ⟨ext, mw, mf, ms, me, ml, mn, hw, hn, ⟨fs, hf, fo⟩, ⟨ss, hs, so⟩, ⟨es, evs, he, re, eo⟩, ⟨ls, lvs, hl, rl, lo⟩⟩ := I
    try dsimp only at ext mw mf ms me ml mn hw hn hf hs he re hl rl
    refine (?_ : Wp _ _ _ (execs _ _) _ _)
    walk_at "S"
    refine ⟨show 4 <= sizeLine by decide, ?_⟩
    intro t ht c hc
    have ht : Z2.H t = none := ht
    have e13 : ((ns.length : Int) - 0).toNat + 1 <= 13 := by ac_nf
    refine qW (h t fl sl el ll fs ss es ls evs lvs _ (ext.new ht) zA (zB ht hf) fo (zB ht hs) so (zB ht he) (re.new ht) ⟨Nat.le_trans eo.len e13, eo.ok⟩ (zB ht hl) (rl.new ht) ⟨Nat.le_trans lo.len e13, lo.ok⟩ c hc)
theorem drawn_call {S : St} {f sc : Addr} {ns0 : List Int} {Φ : Value -> St -> Prop} (hA : Room A 2) (Df : IsDef X f fLDrawn (bodyOf fLDrawn)) (hr : qG X mainGlobals builtinsNs "range" (.type "range")) (hle : qG X mainGlobals builtinsNs "len" (.builtin "len"))
   (hsc : FrozL X sc (qo ns0)) (l0 : ns0.length <= 63)
   (h : ∀ t fl sl el ll fs ss es ls evs lvs H', zm S.H H' -> H' t = some (.tup (.type "tuple") [.ref fl, .ref sl, .ref el, .ref ll]) -> H' fl = some (.list (zZ fs)) -> SeqOk fs -> H' sl = some (.list (zZ ss)) -> SeqOk ss ->
      H' el = some (.list evs) -> Refs H' evs (es.map qQ) -> DeedsOk es 13 -> H' ll = some (.list lvs) -> Refs H' lvs (ls.map qQ) -> DeedsOk ls 13 -> Φ (.ref t) ⟨S.m, H'⟩) : zO X A L (.ref f) [.ref sc] S Φ := by
  refine qT (names := ["script"]) Df (by have := hA.dp; ac_nf) (λ cs hcs => ?_) (by rfl) (by rfl) λ L' hL' => ?_
  . obtain ⟨c1, rfl, _⟩ := yX hcs
    rfl
  . exact drawn_body (Room.deep (n := 1) hA) hr hle rfl hsc l0 λ t fl sl el ll fs ss es ls evs lvs S' a1 a2 a3 a4 a5 a6 a7 a8 a9 a10 a11 a12 c hc => by
      have := h t fl sl el ll fs ss es ls evs lvs S'.H a1 a2 a3 a4 a5 a6 a7 a8 a9 a10 a11 a12
      rw [<- hc] at this
      exact this
end
section
variable {X : Wd} {A : Around} {L fa : Addr} {m : Str -> Option Value} {H : AH}
structure FlagsK (X : Wd) (mF : Str -> Option Value) : Prop where
  cls : IsCls X 73 72 mF
  ga : mF "__getattribute__" = none
  gt : mF "__getattr__" = none
  fl : mF "_flags" = none
  pf : mF "_pending_flags" = none
  sa : mF "__setattr__" = none
  mi : mF "__init__" = some (.ref 35)
  ms : mF "set" = some (.ref 63)
  mu : mF "unset_all" = some (.ref 56)
  mq : mF "is_" = some (.ref 70)
  di : IsDef X 35 fFInit (bodyOf fFInit)
  ds : IsDef X 63 fSet (bodyOf fSet)
  du : IsDef X 56 fUnset (bodyOf fUnset)
  dq : IsDef X 70 fIs (bodyOf fIs)
  fc : ∀ f ∈ ([35, 63, 56, 70] : List Addr), ∀ h o, X.kept h -> h.get? f = some o -> o.cls = .type "function"
theorem set_body {self r kt : Addr} {G : zp} {F : zc -> List Int × List Int} {N : Nat} {mF : Str -> Option Value} {par : List Str} {st : Str} {fg : Int} {rc : Bool} {Φ : Flow -> St -> Prop} (hA : Room A 1) (hX : qr X) (KF : FlagsK X mF) (hset0 : qG X mainGlobals builtinsNs "set" (.type "set"))
   (ms : m "self" = some (.ref self)) (mk : m "key" = some (.ref kt)) (mf : m "flag" = some (.int fg 0)) (mr : m "recursive" = some (.bool rc))
   (R : FlagR H self r G F N) (hk : H kt = some (.tup (.type "tuple") (zZ (par ++ [st])))) (hN : N + par.length + 2 <= 1000) (hp : par.length <= 64)
   (h : ∀ G' S' i, FlagR S'.H self r G' (yO F (par ++ [st]) i) (N + par.length + 2) -> (i = if rc then ((F (par ++ [st])).1, qR (F (par ++ [st])).2 fg) else (qR (F (par ++ [st])).1 fg, (F (par ++ [st])).2)) -> qu G H S'.H -> qM G G' H -> Dom H S'.H -> Φ .next S') :
   Wp X A L (execs (bodyOf fSet) (callEnv fSet L fa)) ⟨m, H⟩ Φ := by
  have hszl : sizeLine = 2 ^ 24 := rfl
  obtain ⟨d, mm, hx, hd, hfl⟩ := R.ob
  with_unfolding_all refine zM ?_
  walk_at "S"
  refine zo KF.cls hx hd hfl.1 (by simp) ?_ KF.ga KF.fl
  walk_at "S"
  refine qZ (names := ["key_parent", "key_stem"]) hA.hh ?_
  walk_at "S"
  refine ⟨_, rfl, ?_⟩
  walk_at "S"
  intro sl hsl
  have hsl : H sl = none := hsl
  have hdl : (zZ (par ++ [st])).dropLast = zZ par := by simp [zZ]
  have hlen : (zZ (par ++ [st])).length = par.length + 1 := by simp [zZ]
  refine yY (by walk_at "H") zA (by ac_nf) (by ac_nf) ?_
  rw [hdl]
  intro kp hkp
  walk_at "S"
  refine item_tuple (k := -1) (j := par.length) (by walk_at "H") (by decide) (by decide) ?_ (v := .str st 0) ?_ ?_
  . rw [hlen]
    unfold seqIndex?
    have e1 : (if (-1 : Int) < 0 then -1 + ((par.length + 1 : Nat) : Int) else -1) = (par.length : Int) := by rw [if_pos (by decide)]; ac_nf
    dsimp only
    rw [e1, if_pos (by simp; ac_nf), Int.toNat_natCast]
  . simp [zZ]
  walk_at "S"
  refine ⟨show 2 <= sizeLine by decide, ?_⟩
  intro t2 ht2
  refine ⟨t2, _, rfl, zA, rfl, ?_⟩
  refine (?_ : Wp _ _ _ (execs _ _) _ _)
  refine Wp.abs (λ S => A9 (FlagR S.H self r G F N) (qu G H S.H) (Dom H S.H) (S.m "flag" = some (.int fg 0)) (S.m "recursive" = some (.bool rc)) (S.m "cont" = some (.ref r)) (S.m "key_parent" = some (.ref kp)) (S.m "key_stem" = some (.str st 0)) (S.H kp = some (.tup (.type "tuple") (zZ par)))) ⟨?_, ?_, ?_, ?_, ?_, ?_, ?_, ?_, ?_⟩ ?_
  . exact ((R.new hsl).new hkp).new ht2
  . exact (((qu.refl).new hsl).new hkp).new ht2
  . exact ((Dom.refl.set).set).set
  . show zb (zb (zb m "cont" (.ref r)) "key_stem" (.str st 0)) "key_parent" (.ref kp) "flag" = _
    walk_at "m"
  . show zb (zb (zb m "cont" (.ref r)) "key_stem" (.str st 0)) "key_parent" (.ref kp) "recursive" = _
    walk_at "m"
  . show zb (zb (zb m "cont" (.ref r)) "key_stem" (.str st 0)) "key_parent" (.ref kp) "cont" = _
    walk_at "m"
  . show zb (zb (zb m "cont" (.ref r)) "key_stem" (.str st 0)) "key_parent" (.ref kp) "key_parent" = _
    exact mset_hit
  . show zb (zb (zb m "cont" (.ref r)) "key_stem" (.str st 0)) "key_parent" (.ref kp) "key_stem" = _
    walk_at "m"
  . walk_at "H"
  have R0 := R
  clear R hx hd hfl hk ms mk mf mr hsl hkp ht2
  rintro Z1 ⟨R, E, Dm, mf, mr, mc, mkp, mst, hkp⟩
  try dsimp only at R E Dm mf mr mc mkp mst hkp
  refine qH (λ S => ∃ G', A8 (FlagR S.H self r G' F (N + par.length)) (qu G H S.H) (qM G G' H) (Dom H S.H) (S.m "flag" = some (.int fg 0)) (S.m "recursive" = some (.bool rc)) (S.m "key_stem" = some (.str st 0)) (∃ ct, S.m "cont" = some (.ref ct) /\ G' par 3 = some ct)) ?_ ?_
  . intro Φ9 up9
    walk_at "S"
    refine for_tuple hA.hh hkp (λ k S => ∃ G', A9 (FlagR S.H self r G' F (N + k)) (qu G H S.H) (qM G G' H) (Dom H S.H) (S.m "flag" = some (.int fg 0)) (S.m "recursive" = some (.bool rc)) (S.m "key_stem" = some (.str st 0)) (S.H kp = some (.tup (.type "tuple") (zZ par))) (∃ ct, S.m "cont" = some (.ref ct) /\ G' (par.take k) 3 = some ct)) ?_ ?_ ?_ ?_
    . exact ⟨G, R, E, .refl, Dm, mf, mr, mst, hkp, r, mc, R.root⟩
    . rintro k S ⟨_, _, _, _, _, _, _, _, h5, _⟩; exact h5
    . rintro k u Z2 hu ⟨G', R, E, Gr, Dm, mf, mr, mst, hkp, ct, mc, hct⟩
      try dsimp only at R E Dm mf mr mst hkp mc
      rw [zZ, List.getElem?_map] at hu
      obtain ⟨w, hw, rfl⟩ := Option.map_eq_some_iff.mp hu
      have etk : par.take (k + 1) = par.take k ++ [w] := by rw [List.take_add_one, hw]; rfl
      have hk : k < par.length := (List.getElem?_eq_some_iff.mp hw).1
      obtain ⟨kvs, hkv, hkl, hkg⟩ := R.trie.nest _ _ hct
      refine zH ?_
      rw [etk]
      refine qH (λ S => ∃ G', A12 (FlagR S.H self r G' F (N + k + 1)) (qu G H S.H) (qM G G' H) (Dom H S.H) (S.m "k" = some (.str w 0)) (S.m "flag" = some (.int fg 0)) (S.m "recursive" = some (.bool rc)) (S.m "key_stem" = some (.str st 0)) (S.m "cont" = some (.ref ct)) (G' (par.take k) 3 = some ct) (S.H kp = some (.tup (.type "tuple") (zZ par))) (∃ n, G' (par.take k ++ [w]) 0 = some n)) ?_ ?_
      . intro Φ8 up8
        walk_at "S"
        refine yn hX hkv ?_
        rw [hkg w]
        refine zd ?_
        cases hg : G' (par.take k ++ [w]) 0 with
        | some n =>
          refine zI ?_
          walk_at "S"
          refine ⟨rfl, G', R.more (Nat.le_succ _), E, Gr, Dm, ?_, ?_, ?_, ?_, ?_, hct, hkp, n, hg⟩
          . walk_at "m"
          . walk_at "m"
          . walk_at "m"
          . walk_at "m"
          . walk_at "m"
        | none =>
          refine zV ?_
          walk_at "S"
          refine ev_Dict3 (by decide) ?_
          intro d hd
          have hd : Z2.H d = none := hd
          walk_at "S"
          refine jT ?_
          refine yG (.type _) ?_
          refine ye ?_
          intro f hf
          have hf : zD Z2.H d (.sdict []) f = none := hf
          walk_at "S"
          refine jT ?_
          refine yG (.type _) ?_
          refine ye ?_
          intro c hc
          have hc : zD (zD Z2.H d (.sdict [])) f (.iset []) c = none := hc
          refine ev_Dict0s ?_
          intro e he
          have he : zD (zD (zD Z2.H d (.sdict [])) f (.iset [])) c (.iset []) e = none := he
          obtain ⟨R', f1, c1, e1, g3, g0⟩ := made_flag R hct hkv hkl hkg hg hd hf hc he
          have dct := zS hkv hd
          refine ⟨by walk_at "H", ?_⟩
          walk_at "S"
          refine set_sdict (kvs := kvs) (by walk_at "H") (by ac_nf) ?_
          walk_at "S"
          refine ⟨rfl, _, R', ?_, Gr.node (Dm _ hd) (Dm _ f1) (Dm _ c1) (Dm _ e1), ?_, ?_, ?_, ?_, ?_, ?_, ?_, ?_, d, g0⟩
          . exact made_ext E Gr hct (Dm _ hd) (Dm _ f1) (Dm _ c1) (Dm _ e1)
          . exact made_dom Dm
          . walk_at "m"
          . walk_at "m"
          . walk_at "m"
          . walk_at "m"
          . walk_at "m"
          . rw [setNode_old]; exact hct
          . exact made_old hkp hd f1 c1 e1 hkv (by simp)
      clear R E Gr Dm mf mr mst hkp mc hct hkv hkl hkg
      rintro Z3 ⟨G', R, E, Gr, Dm, mk, mf, mr, mst, mc, hct, hkp, n, hn⟩
      try dsimp only at R E Dm mk mf mr mst mc hkp
      obtain ⟨kvs, hkv, hkl, hkg⟩ := R.trie.nest _ _ hct
      obtain ⟨f, c, e, g1, g2, g3, g0, -, -⟩ := R.trie.node _ _ hn
      have hkw := hkg w
      rw [hn] at hkw
      walk_at "S"
      refine zr hkv hkw ?_
      walk_at "S"
      refine zr g0 val_nested ?_
      walk_at "S"
      refine ⟨G', R, E, Gr, Dm, ?_, ?_, ?_, hkp, e, ?_, g3⟩
      . walk_at "m"
      . walk_at "m"
      . walk_at "m"
      . walk_at "m"
    . rintro Z2 ⟨G', R, E, Gr, Dm, mf, mr, mst, hkp, ct, mc, hct⟩
      try dsimp only at R E Dm mf mr mst mc hkp
      rw [ze] at R hct
      rw [List.take_length] at hct
      exact up9.to _ _ ⟨rfl, G', R, E, Gr, Dm, mf, mr, mst, ct, mc, hct⟩
  clear R E Dm mf mr mc mkp mst hkp
  rintro Z2 ⟨G', R, E, Gr, Dm, mf, mr, mst, ct, mc, hct⟩
  try dsimp only at R E Dm mf mr mst mc
  obtain ⟨kvs, hkv, hkl, hkg⟩ := R.trie.nest _ _ hct
  refine qH (λ S => ∃ G', A10 (FlagR S.H self r G' F (N + par.length + 1)) (qu G H S.H) (qM G G' H) (Dom H S.H) (S.m "key_stem" = some (.str st 0)) (S.m "flag" = some (.int fg 0)) (S.m "recursive" = some (.bool rc)) (S.m "cont" = some (.ref ct)) (G' (par) 3 = some ct) (∃ n, G' (par ++ [st]) 0 = some n)) ?_ ?_
  . intro Φ7 up7
    walk_at "S"
    refine yn hX hkv ?_
    rw [hkg st]
    refine zd ?_
    cases hg : G' (par ++ [st]) 0 with
    | some n =>
      refine zI ?_
      walk_at "S"
      refine ⟨rfl, G', R.more (Nat.le_succ _), E, Gr, Dm, ?_, ?_, ?_, ?_, hct, n, hg⟩
      . walk_at "m"
      . walk_at "m"
      . walk_at "m"
      . walk_at "m"
    | none =>
      refine zV ?_
      walk_at "S"
      refine ev_Dict3 (by decide) ?_
      intro d hd
      have hd : Z2.H d = none := hd
      walk_at "S"
      refine jT ?_
      refine yG (.type _) ?_
      refine ye ?_
      intro f hf
      have hf : zD Z2.H d (.sdict []) f = none := hf
      walk_at "S"
      refine jT ?_
      refine yG (.type _) ?_
      refine ye ?_
      intro c hc
      have hc : zD (zD Z2.H d (.sdict [])) f (.iset []) c = none := hc
      refine ev_Dict0s ?_
      intro e he
      have he : zD (zD (zD Z2.H d (.sdict [])) f (.iset [])) c (.iset []) e = none := he
      obtain ⟨R', f1, c1, e1, g3, g0⟩ := made_flag R hct hkv hkl hkg hg hd hf hc he
      have dct := zS hkv hd
      refine ⟨by walk_at "H", ?_⟩
      walk_at "S"
      refine set_sdict (kvs := kvs) (by walk_at "H") (by ac_nf) ?_
      walk_at "S"
      refine ⟨rfl, _, R', ?_, Gr.node (Dm _ hd) (Dm _ f1) (Dm _ c1) (Dm _ e1), ?_, ?_, ?_, ?_, ?_, ?_, d, g0⟩
      . exact made_ext E Gr hct (Dm _ hd) (Dm _ f1) (Dm _ c1) (Dm _ e1)
      . exact made_dom Dm
      . walk_at "m"
      . walk_at "m"
      . walk_at "m"
      . walk_at "m"
      . rw [setNode_old]; exact hct
  clear R E Gr Dm mf mr mst mc hct hkv hkl hkg
  rintro Z3 ⟨G', R, E, Gr, Dm, mst, mf, mr, mc, hct, n, hn⟩
  try dsimp only at R E Dm mst mf mr mc
  obtain ⟨kvs, hkv, hkl, hkg⟩ := R.trie.nest _ _ hct
  obtain ⟨f, c, e, g1, g2, g3, g0, gf, gc⟩ := R.trie.node _ _ hn
  have hkw := hkg st
  rw [hn] at hkw
  have few := R.trie.few (par ++ [st])
  walk_at "S"
  refine zr hkv hkw ?_
  walk_at "S"
  cases rc with
  | true =>
    refine zV ?_
    walk_at "S"
    refine zr g0 val_rec ?_
    refine meth_addSet gc (.inl ⟨_, rfl⟩) ?_
    refine zW (.builtin _) ?_
    walk_at "S"
    refine call_addI gc (by show _ < _; unfold scanBound; ac_nf) ?_
    walk_at "S"
    refine h G' _ _ ((R.put (.inr rfl) g2 gc (Nat.le_trans addTo_len (Nat.succ_le_succ few.2))).more (by ac_nf)) ?_ (E.at_ Gr g2) Gr Dm.set
    rw [if_neg (by decide), if_pos rfl]
  | false =>
    refine zI ?_
    walk_at "S"
    refine zr g0 val_flags ?_
    refine meth_addSet gf (.inl ⟨_, rfl⟩) ?_
    refine zW (.builtin _) ?_
    walk_at "S"
    refine call_addI gf (by show _ < _; unfold scanBound; ac_nf) ?_
    walk_at "S"
    refine h G' _ _ ((R.put (.inl rfl) g1 gf (Nat.le_trans addTo_len (Nat.succ_le_succ few.1))).more (by ac_nf)) ?_ (E.at_ Gr g1) Gr Dm.set
    rw [if_pos rfl, if_neg (by decide)]
end
section
variable {X : Wd} {A : Around} {L fa : Addr} {m : Str -> Option Value} {H : AH}
theorem last_idx {par : List Str} {st : Str} : seqIndex? (-1) (zZ (par ++ [st])).length = some par.length := by
  have hlen : (zZ (par ++ [st])).length = par.length + 1 := by simp [zZ]
  rw [hlen]
  unfold seqIndex?
  have e1 : (if (-1 : Int) < 0 then -1 + ((par.length + 1 : Nat) : Int) else -1) = (par.length : Int) := by rw [if_pos (by decide)]; ac_nf
  dsimp only
  rw [e1, if_pos (by simp; ac_nf), Int.toNat_natCast]
theorem unset_body {self r kt : Addr} {G : zp} {F : zc -> List Int × List Int} {N : Nat} {mF : Str -> Option Value} {par : List Str} {st : Str} {Φ : Flow -> St -> Prop} (hA : Room A 1) (hX : qr X) (KF : FlagsK X mF)
   (ms : m "self" = some (.ref self)) (mk : m "key" = some (.ref kt))
   (R : FlagR H self r G F N) (hk : H kt = some (.tup (.type "tuple") (zZ (par ++ [st])))) (hN : N <= 1000) (hp : par.length <= 64)
   (h : ∀ G' S', FlagR S'.H self r G' (cutF F (par ++ [st])) N -> qu G H S'.H -> qM G G' H -> Dom H S'.H -> Φ .next S' /\ Φ (.ret .none) S') :
   Wp X A L (execs (bodyOf fUnset) (callEnv fUnset L fa)) ⟨m, H⟩ Φ := by
  have hszl : sizeLine = 2 ^ 24 := rfl
  obtain ⟨d, mm, hx, hd, hfl⟩ := R.ob
  with_unfolding_all refine zM ?_
  walk_at "S"
  refine zo KF.cls hx hd hfl.1 (by simp) ?_ KF.ga KF.fl
  walk_at "S"
  refine ⟨_, rfl, ?_⟩
  walk_at "S"
  intro sl hsl
  have hsl : H sl = none := hsl
  have hdl : (zZ (par ++ [st])).dropLast = zZ par := by simp [zZ]
  have hlen : (zZ (par ++ [st])).length = par.length + 1 := by simp [zZ]
  refine yY (by walk_at "H") zA (by ac_nf) (by ac_nf) ?_
  rw [hdl]
  intro kp hkp
  refine for_tuple hA.hh zA (λ k S => A6 (FlagR S.H self r G F N) (zm H S.H) (S.m "key" = some (.ref kt)) (S.H kp = some (.tup (.type "tuple") (zZ par))) (S.H kt = some (.tup (.type "tuple") (zZ (par ++ [st])))) (∃ ct, S.m "cont" = some (.ref ct) /\ G (par.take k) 3 = some ct)) ?_ ?_ ?_ ?_
  . refine ⟨(R.new hsl).new hkp, ((zm.refl H).new hsl).new hkp, ?_, zA, ?_, r, ?_, R.root⟩
    . walk_at "m"
    . walk_at "H"
    . walk_at "m"
  . rintro k S ⟨_, _, _, h5, _⟩; exact h5
  . rintro k u Z2 hu ⟨R, E, mk, hkp, hk, ct, mc, hct⟩
    try dsimp only at R E mk hkp hk mc
    rw [zZ, List.getElem?_map] at hu
    obtain ⟨w, hw, rfl⟩ := Option.map_eq_some_iff.mp hu
    have etk : par.take (k + 1) = par.take k ++ [w] := by rw [List.take_add_one, hw]; rfl
    obtain ⟨kvs, hkv, hkl', hkg⟩ := R.trie.nest _ _ hct
    refine zH ?_
    rw [etk]
    walk_at "S"
    refine yn hX hkv ?_
    rw [hkg w]
    refine zd ?_
    cases hg : G (par.take k ++ [w]) 0 with
    | none =>
      refine zV ?_
      walk_at "S"
      have e2 : par ++ [st] = (par.take k ++ [w]) ++ (par.drop (k + 1) ++ [st]) := by
        rw [<- etk, <- List.append_assoc, List.take_append_drop]
      refine (h G _ ?_ (by exact λ b o o_ q => E _ _ q) .refl (by exact Dom.of_ext E)).2
      rw [e2, R.trie.nocut (by simp) hg]; exact R
    | some n =>
      refine zI ?_
      obtain ⟨f, c, e, g1, g2, g3, g0, -, -⟩ := R.trie.node _ _ hg
      have hkw := hkg w
      rw [hg] at hkw
      walk_at "S"
      refine zr hkv hkw ?_
      walk_at "S"
      refine zr g0 val_nested ?_
      walk_at "S"
      refine ⟨R, E, ?_, hkp, hk, e, ?_, g3⟩
      . walk_at "m"
      . walk_at "m"
  . rintro Z2 ⟨R, E, mk, hkp, hk, ct, mc, hct⟩
    try dsimp only at R E mk hkp hk mc
    rw [ze, List.take_length] at hct
    obtain ⟨kvs, hkv, hkl', hkg⟩ := R.trie.nest _ _ hct
    refine (?_ : Wp _ _ _ (execs _ _) _ _)
    walk_at "S"
    refine meth_dpop hkv (.inl ⟨_, rfl⟩) ?_
    refine zW (.builtin _) ?_
    walk_at "S"
    refine item_tuple (k := -1) (j := par.length) (by walk_at "H") (by decide) (by decide) last_idx (v := .str st 0) (by simp [zZ]) ?_
    walk_at "S"
    refine call_popSD hX hkv (by ac_nf) ?_ ?_
    . intro u hu
      walk_at "S"
      refine (h _ _ (FlagR.cut R hct hkv hkl' hkg) ?_ qM.cut ?_).1
      . exact qu.at_ (λ b o o_ q => E _ _ q) qM.refl hct
      . exact (Dom.of_ext E).set
    . intro hu
      walk_at "S"
      refine (h G _ ?_ (λ b o o_ q => E _ _ q) .refl (Dom.of_ext E)).1
      have hno : G (par ++ [st]) 0 = none := by
        have := hkg st
        rw [hu] at this
        exact Option.map_eq_none_iff.mp this.symm
      have := R.trie.nocut (r := []) (by simp) hno
      rw [List.append_nil] at this
      rw [this]; exact R
noncomputable def yr (F : zc -> List Int × List Int) (fg : Int) (par : List Str) : Bool := (List.range par.length).any λ j => decide (fg ∈ (F (par.take (j + 1))).2)
noncomputable def isF (F : zc -> List Int × List Int) (fg : Int) (par : List Str) (st : Str) : Bool := yr F fg par || (decide (fg ∈ (F (par ++ [st])).1) || decide (fg ∈ (F (par ++ [st])).2))
theorem preAny_no {F : zc -> List Int × List Int} {fg : Int} {par : List Str} (h : ∀ j, j < par.length -> fg ∉ (F (par.take (j + 1))).2) : yr F fg par = false := by
  unfold yr
  rw [List.any_eq_false]
  intro j hj
  simp [h j (List.mem_range.mp hj)]
theorem gone_after {H : AH} {G : zp} {F : zc -> List Int × List Int} {N : Nat} (T : Trie H G F N) {q r : zc} (hq : q ≠ []) (h : G q 0 = none) : F (q ++ r) = ([], []) := by
  refine T.gone _ ?_
  cases h0 : G (q ++ r) 0 with
  | none => rfl
  | some n => obtain ⟨n', hn⟩ := T.upto r q n hq h0; rw [h] at hn; cases hn
theorem is_body {self r kt : Addr} {G : zp} {F : zc -> List Int × List Int} {N : Nat} {mF : Str -> Option Value} {par : List Str} {st : Str} {fg : Int} {Φ : Flow -> St -> Prop} (hA : Room A 1) (hX : qr X) (KF : FlagsK X mF)
   (ms : m "self" = some (.ref self)) (mk : m "key" = some (.ref kt)) (mf : m "flag" = some (.int fg 0))
   (R : FlagR H self r G F N) (hk : H kt = some (.tup (.type "tuple") (zZ (par ++ [st])))) (hN : N <= 1000) (hp : par.length <= 64)
   (h : ∀ S', zm H S'.H -> ∀ c, er c = .bool (isF F fg par st) -> Φ (.ret c) S') :
   Wp X A L (execs (bodyOf fIs) (callEnv fIs L fa)) ⟨m, H⟩ Φ := by
  have hszl : sizeLine = 2 ^ 24 := rfl
  have hdl : (zZ (par ++ [st])).dropLast = zZ par := by simp [zZ]
  have hlen : (zZ (par ++ [st])).length = par.length + 1 := by simp [zZ]
  obtain ⟨d, mm, hx, hd, hfl⟩ := R.ob
  with_unfolding_all refine zM ?_
  walk_at "S"
  refine tru_tup (vs := zZ (par ++ [st])) hk (by rw [hlen]; ac_nf) ?_
  have hne : (!(zZ (par ++ [st])).isEmpty) = true := by simp [zZ]
  rw [hne]
  refine zI ?_
  walk_at "S"
  refine zo KF.cls hx hd hfl.1 (by simp) ?_ KF.ga KF.fl
  walk_at "S"
  refine ⟨_, rfl, ?_⟩
  walk_at "S"
  intro sl hsl
  have hsl : H sl = none := hsl
  refine yY (by walk_at "H") zA (by ac_nf) (by ac_nf) ?_
  rw [hdl]
  intro kp hkp
  refine for_tuple hA.hh zA (λ k S => FlagR S.H self r G F N /\ zm H S.H /\ S.m "key" = some (.ref kt) /\ S.m "flag" = some (.int fg 0) /\ S.H kp = some (.tup (.type "tuple") (zZ par)) /\ S.H kt = some (.tup (.type "tuple") (zZ (par ++ [st]))) /\ (∀ j, j < k -> fg ∉ (F (par.take (j + 1))).2) /\ ∃ ct, S.m "cont" = some (.ref ct) /\ G (par.take k) 3 = some ct) ?_ ?_ ?_ ?_
  . refine ⟨(R.new hsl).new hkp, ((zm.refl H).new hsl).new hkp, ?_, ?_, zA, ?_, λ j hj => absurd hj (Nat.not_lt_zero j), r, ?_, R.root⟩
    . walk_at "m"
    . walk_at "m"
    . walk_at "H"
    . walk_at "m"
  . rintro k S ⟨_, _, _, _, h5, _⟩; exact h5
  . rintro k u Z2 hu ⟨R, E, mk, mf, hkp, hk, hpre, ct, mc, hct⟩
    try dsimp only at R E mk mf hkp hk mc
    rw [zZ, List.getElem?_map] at hu
    obtain ⟨w, hw, rfl⟩ := Option.map_eq_some_iff.mp hu
    have etk : par.take (k + 1) = par.take k ++ [w] := by rw [List.take_add_one, hw]; rfl
    have hkl : k < par.length := (List.getElem?_eq_some_iff.mp hw).1
    obtain ⟨kvs, hkv, hkl', hkg⟩ := R.trie.nest _ _ hct
    refine zH ?_
    walk_at "S"
    refine yn hX hkv ?_
    rw [hkg w]
    refine zd ?_
    cases hg : G (par.take k ++ [w]) 0 with
    | none =>
      refine zV ?_
      walk_at "S"
      have g0 : ∀ r, F (par.take (k + 1) ++ r) = ([], []) := λ r => by
        rw [etk]; exact gone_after R.trie (by simp) hg
      have hno : isF F fg par st = false := by
        unfold isF
        rw [preAny_no λ j hj => ?_]
        . have := g0 (par.drop (k + 1) ++ [st])
          rw [<- List.append_assoc, List.take_append_drop] at this
          rw [this]; simp
        . by_cases hjk : j < k
          . exact hpre j hjk
          . have e3 : par.take (j + 1) = par.take (k + 1) ++ (par.take (j + 1)).drop (k + 1) := by
              have := List.take_append_drop (k + 1) (par.take (j + 1))
              rw [List.take_take, Nat.min_eq_left (by ac_nf)] at this
              exact this.symm
            rw [e3, g0]; simp
      intro c hc
      exact h _ (by exact E) c (by rw [hno]; exact hc)
    | some n =>
      refine zI ?_
      obtain ⟨f, c, e, g1, g2, g3, g0, gf, gc⟩ := R.trie.node _ _ hg
      have hkw := hkg w
      rw [hg] at hkw
      walk_at "S"
      refine zr hkv hkw ?_
      walk_at "S"
      refine zr g0 val_rec ?_
      refine cmp_inISet gc ?_
      refine zd ?_
      refine zN (λ h1 => ?_) (λ h1 => ?_)
      . walk_at "S"
        have hyes : isF F fg par st = true := by
          unfold isF yr
          rw [Bool.or_eq_true]
          refine .inl (List.any_eq_true.mpr ⟨k, List.mem_range.mpr hkl, ?_⟩)
          rw [etk]; exact decide_eq_true h1
        intro c hc
        exact h _ (by exact E) c (by rw [hyes]; exact hc)
      . walk_at "S"
        refine zr g0 val_nested ?_
        walk_at "S"
        refine ⟨R, E, ?_, ?_, hkp, hk, λ j hj => ?_, e, ?_, by rw [etk]; exact g3⟩
        . walk_at "m"
        . walk_at "m"
        . by_cases hjk : j < k
          . exact hpre j hjk
          . have : j = k := by ac_nf
            subst this; rw [etk]; exact h1
        . walk_at "m"
  . rintro Z2 ⟨R, E, mk, mf, hkp, hk, hpre, ct, mc, hct⟩
    try dsimp only at R E mk mf hkp hk mc
    rw [ze] at hpre hct
    rw [List.take_length] at hct
    have hpn : yr F fg par = false := preAny_no hpre
    obtain ⟨kvs, hkv, hkl', hkg⟩ := R.trie.nest _ _ hct
    refine (?_ : Wp _ _ _ (execs _ _) _ _)
    walk_at "S"
    refine item_tuple (k := -1) (j := par.length) (by walk_at "H") (by decide) (by decide) last_idx (v := .str st 0) (by simp [zZ]) ?_
    walk_at "S"
    refine cmp_inSD hX hkv ?_
    rw [hkg st]
    refine zd ?_
    cases hg : G (par ++ [st]) 0 with
    | none =>
      refine zI ?_
      walk_at "S"
      have hno : isF F fg par st = false := by
        unfold isF
        rw [hpn, R.trie.gone _ hg]; simp
      intro c hc
      exact h _ (by exact E) c (by rw [hno]; exact hc)
    | some n =>
      refine zV ?_
      obtain ⟨f, c, e, g1, g2, g3, g0, gf, gc⟩ := R.trie.node _ _ hg
      have hkw := hkg st
      rw [hg] at hkw
      walk_at "S"
      refine zr hkv hkw ?_
      walk_at "S"
      refine ev_Or2 ?_
      walk_at "S"
      refine zr g0 val_flags ?_
      refine cmp_inISet gf ?_
      refine zd ?_
      refine zN (λ h1 => ?_) (λ h1 => ?_)
      . have hyes : isF F fg par st = true := by
          unfold isF
          rw [hpn, decide_eq_true h1]; rfl
        intro c hc
        exact h _ (by exact E) c (by rw [hyes]; rw [hc, decide_eq_true h1])
      . walk_at "S"
        refine zr g0 val_rec ?_
        refine cmp_inISet gc ?_
        intro c hc
        refine h _ (by exact E) c ?_
        rw [hc]
        unfold isF
        rw [hpn, decide_eq_false h1]; simp
theorem is_empty {self kt : Addr} {Φ : Flow -> St -> Prop} (ms : m "self" = some (.ref self)) (mk : m "key" = some (.ref kt)) (hk : H kt = some (.tup (.type "tuple") []))
   (h : ∀ c, er c = .bool false -> Φ (.ret c) ⟨m, H⟩) : Wp X A L (execs (bodyOf fIs) (callEnv fIs L fa)) ⟨m, H⟩ Φ := by
  with_unfolding_all refine zM ?_
  walk_at "S"
  refine tru_tup (vs := []) hk (by decide) ?_
  refine zV ?_
  walk_at "S"
  intro c hc
  exact h c hc
end
section
variable {X : Wd} {A : Around} {L fa : Addr} {S : St} {m : Str -> Option Value} {H : AH} {mF : Str -> Option Value}
theorem set_call {self r kt : Addr} {G : zp} {F : zc -> List Int × List Int} {N : Nat} {par : List Str} {st : Str} {fg : Int} {rc : Bool} {Φ : Value -> St -> Prop} (hA : Room A 2) (hX : qr X) (KF : FlagsK X mF) (hset0 : qG X mainGlobals builtinsNs "set" (.type "set"))
   (R : FlagR S.H self r G F N) (hk : S.H kt = some (.tup (.type "tuple") (zZ (par ++ [st])))) (hN : N + par.length + 2 <= 1000) (hp : par.length <= 64)
   (h : ∀ G' H', FlagR H' self r G' (yO F (par ++ [st]) (if rc then ((F (par ++ [st])).1, qR (F (par ++ [st])).2 fg) else (qR (F (par ++ [st])).1 fg, (F (par ++ [st])).2))) (N + par.length + 2) -> qu G S.H H' -> qM G G' S.H -> Dom S.H H' -> Φ .none ⟨S.m, H'⟩) :
   CallK X A L (.ref 63) [.ref self, .ref kt, .int fg 0] [(("recursive" : Str), .bool rc)] S Φ := by
  refine call_fn2 (names := ["self", "key", "flag", "recursive"]) (vals := [.ref self, .ref kt, .int fg 0, .bool rc]) KF.ds (by have := hA.dp; ac_nf) (λ cs ks s hcs hks o_ => ?_) (by rfl) (by rfl) λ L' hL' => ?_
  . obtain ⟨c1, c2, c3, rfl, h1, h2, h3⟩ := map3 hcs
    obtain ⟨⟨kn, kv⟩, rfl⟩ := List.length_eq_one_iff.mp ((List.length_map _).symm.trans (congrArg List.length hks))
    have hks := List.singleton_inj.mp hks
    have e1 : kn = ("recursive" : Str) := congrArg Prod.fst hks
    have e2 : er kv = .bool rc := congrArg Prod.snd hks
    subst e1
    exact ⟨[c1, c2, c3, kv], by simp [h1, h2, h3, e2], .of_eq rfl⟩
  . refine set_body (Room.deep (n := 1) hA) hX KF hset0 rfl rfl rfl rfl R hk hN hp λ G' S' i R' hi E Gr Dm => ?_
    subst hi
    exact h G' S'.H R' E Gr Dm
theorem unset_call {self r kt : Addr} {G : zp} {F : zc -> List Int × List Int} {N : Nat} {par : List Str} {st : Str} {Φ : Value -> St -> Prop} (hA : Room A 2) (hX : qr X) (KF : FlagsK X mF)
   (R : FlagR S.H self r G F N) (hk : S.H kt = some (.tup (.type "tuple") (zZ (par ++ [st])))) (hN : N <= 1000) (hp : par.length <= 64)
   (h : ∀ G' H', FlagR H' self r G' (cutF F (par ++ [st])) N -> qu G S.H H' -> qM G G' S.H -> Dom S.H H' -> Φ .none ⟨S.m, H'⟩) :
   zO X A L (.ref 56) [.ref self, .ref kt] S Φ := by
  refine qT (names := ["self", "key"]) KF.du (by have := hA.dp; ac_nf) (λ cs hcs => ?_) (by rfl) (by rfl) λ L' hL' => ?_
  . obtain ⟨c1, c2, rfl, h1, h2⟩ := map2 hcs
    rfl
  . exact unset_body (Room.deep (n := 1) hA) hX KF rfl rfl R hk hN hp λ G' S' R' E Gr Dm => ⟨h G' S'.H R' E Gr Dm, h G' S'.H R' E Gr Dm⟩
noncomputable def isW (F : zc -> List Int × List Int) (fg : Int) (x : Str) : Bool := match (signs x).reverse with
  | [] => false
  | st :: rp => isF F fg rp.reverse st
theorem is_call {self r kt : Addr} {G : zp} {F : zc -> List Int × List Int} {N : Nat} {x : Str} {fg : Int} {Φ : Value -> St -> Prop} (hA : Room A 2) (hX : qr X) (KF : FlagsK X mF)
   (R : FlagR S.H self r G F N) (hk : S.H kt = some (.tup (.type "tuple") (zZ (signs x)))) (hN : N <= 1000) (hp : x.cps.size <= 64)
   (h : ∀ H', zm S.H H' -> Φ (.bool (isW F fg x)) ⟨S.m, H'⟩) :
   zO X A L (.ref 70) [.ref self, .ref kt, .int fg 0] S Φ := by
  refine qT (names := ["self", "key", "flag"]) KF.dq (by have := hA.dp; ac_nf) (λ cs hcs => ?_) (by rfl) (by rfl) λ L' hL' => ?_
  . obtain ⟨c1, c2, c3, rfl, h1, h2, h3⟩ := map3 hcs
    rfl
  . have hlen : (signs x).length <= 64 := by rw [signs_length]; exact hp
    rcases hs : (signs x).reverse with _ | ⟨st, rp⟩
    . have e : signs x = [] := List.reverse_eq_nil_iff.mp hs
      rw [e] at hk
      have hw : isW F fg x = false := by unfold isW; rw [hs]
      exact is_empty rfl rfl hk λ c hc => by
        have := h S.H (zm.refl _)
        rw [hw, <- hc] at this
        exact this
    . have e : signs x = rp.reverse ++ [st] := by
        have := congrArg List.reverse hs
        rw [List.reverse_reverse, List.reverse_cons] at this; exact this
      rw [e] at hk hlen
      have hw : isW F fg x = isF F fg rp.reverse st := by unfold isW; rw [hs]
      exact is_body (Room.deep (n := 1) hA) hX KF rfl rfl rfl R hk hN (by rw [List.length_append] at hlen; ac_nf) λ S' E c hc => by
        have := h S'.H E
        rw [hw, <- hc] at this
        exact this
noncomputable def A0 (r : Addr) : zp := λ p i => if p = [] /\ i = 3 then some r else none
noncomputable def F0 : zc -> List Int × List Int := λ o_ => ([], [])
theorem mset_ne {m : Str -> Option Value} {x y : Str} {v : Value} (h : y ≠ x) : zb m x v y = m y := if_neg h
set_option tactic.hygienic true in
theorem trie0 {H : AH} {r : Addr} (h : H r = some (.sdict [])) : Trie H (A0 r) F0 0 := by
  have sp : ∀ {p i a}, A0 r p i = some a -> p = [] /\ i = 3 /\ a = r := λ {p i a} h => by
    unfold A0 at h
    split at h
    . rename_i q; exact ⟨q.1, q.2, (Option.some.inj h).symm⟩
    . cases h
  refine ⟨if_neg (by simp), λ p i q j a h1 h2 => ?_, λ p i a h => ?_, λ p i a h => ?_, λ p k n h => ?_, λ p e h' => ?_, λ p n h => ?_, λ p o_ => rfl, λ p => ⟨Nat.zero_le _, Nat.zero_le _⟩⟩
  . obtain ⟨a1, a2, _⟩ := sp h1
    obtain ⟨b1, b2, _⟩ := sp h2
    exact ⟨a1.trans b1.symm, a2.trans b2.symm⟩
  . obtain ⟨_, a2, _⟩ := sp h; ac_nf
  . obtain ⟨a1, a2, _⟩ := sp h; exact .inl ⟨a1, a2⟩
  . obtain ⟨a1, _⟩ := sp h; simp at a1
  . obtain ⟨a1, a2, a3⟩ := sp h'
    subst a1 a3
    refine ⟨[], h, Nat.zero_le _, λ k => ?_⟩
    rw [show A0 e ([] ++ [k]) 0 = none from if_neg (by simp)]; rfl
  . obtain ⟨_, a2, _⟩ := sp h; ac_nf
theorem flags_make {Φ : Value -> St -> Prop} (hA : Room A 2) (KF : FlagsK X mF) (hset0 : qG X mainGlobals builtinsNs "set" (.type "set"))
   (h : ∀ H' x r, zm S.H H' -> FlagR H' x r (A0 r) F0 0 -> S.H r = none -> Φ (.ref x) ⟨S.m, H'⟩) : zO X A L (.ref 73) [] S Φ := by
  refine call_cls KF.cls KF.mi KF.di (λ h o => KF.fc 35 (by simp) h o) (n := 1) hA λ A' hA' x d hx hd hxd => ?_
  refine qT (names := ["self"]) KF.di (by have := hA'.dp; ac_nf) (λ cs hcs => ?_) (by rfl) (by rfl) λ L' hL' => ?_
  . obtain ⟨c1, rfl, _⟩ := yX hcs
    rfl
  . with_unfolding_all refine zM ?_
    have dx : d ≠ x := Ne.symm hxd
    walk_at "S"
    refine ev_Dict0s ?_
    intro r hr
    walk_at "S"
    have hr : zD (zD S.H d (.attrs λ o_ => none)) x (.inst 73 d) r = none := hr
    have r1 := zF hr
    have r2 := zF r1.2
    have rx : x ≠ r := Ne.symm r1.1
    have rd : d ≠ r := Ne.symm r2.1
    refine zt KF.cls (by walk_at "H") (by walk_at "H") ?_ KF.sa KF.fl (ns := []) (λ y hy => absurd rfl hy) (by decide)
    walk_at "S"
    refine jT ?_
    refine yG (.type _) ?_
    refine ye ?_
    intro sp hsp
    have hsp : zD (zD (zD (zD S.H d (.attrs λ o_ => none)) x (.inst 73 d)) r (.sdict [])) d (.attrs (zb (λ o_ => none) "_flags" (.ref r))) sp = none := hsp
    walk_at "S"
    have win : Within (zb (λ o_ => none) "_flags" (.ref r)) ["_flags"] := λ y hy => by
      by_cases e : y = "_flags"
      . exact List.mem_singleton.mpr e
      . exact absurd (mset_ne e) hy
    refine zt KF.cls (by walk_at "H") (by walk_at "H") ?_ KF.sa KF.pf (ns := ["_flags"]) win (by decide)
    walk_at "S"
    refine ⟨rfl, h _ x r ?_ ⟨⟨d, zb (zb (λ o_ => none) "_flags" (.ref r)) "_pending_flags" (.ref sp), ?_, zA, ?_, ?_⟩, if_pos ⟨rfl, rfl⟩, trie0 ?_⟩ r2.2⟩
    . intro b o e
      have b1 := zS e hd
      have b2 := zS e hx
      have b3 := zS e r2.2
      have s1 := zF hsp
      have s2 := zF s1.2
      have s3 := zF s2.2
      have s4 := zF s3.2
      have b4 := zS e s4.2
      show zD (zD (zD (zD (zD (zD S.H d _) x _) r _) d _) sp _) d _ b = _
      rw [zE _ b1, zE _ b4, zE _ b1, zE _ b3, zE _ b2, zE _ b1]; exact e
    . walk_at "H"
    . walk_at "m"
    . intro y h1 h2
      rw [mset_ne h2, mset_ne h1]
    . walk_at "H"
end
section
open PySem.W.X
structure MR (ms : List qf) (F : zc -> List Int × List Int) : Prop where
  fl : ∀ w ∈ zn, ((0 : Int) ∈ (F (signs w)).1 ↔ (w, false) ∈ ms)
  rc : ∀ w ∈ zn, ((0 : Int) ∈ (F (signs w)).2 ↔ (w, true) ∈ ms)
  way : ∀ q ∈ ms, q.1 ∈ zn
theorem yR : ∀ v ∈ zn, ∀ w ∈ zn, signs v = signs w -> v = w := by decide
theorem cut_keep : ∀ v ∈ zn, ∀ w ∈ zn, (signs w <+: signs v) ↔ keepM w (v, true) = false := by decide
theorem keep_b (w v : Str) (b c : Bool) : keepM w (v, b) = keepM w (v, c) := rfl
theorem MR.start : MR [] λ o_ => ([], []) := ⟨λ w o_ => by simp, λ w o_ => by simp, λ q hq => nomatch hq⟩
theorem mem_one {w v : Str} {b c : Bool} {ms : List qf} : (v, b) ∈ ms ++ [(w, c)] ↔ (v, b) ∈ ms \/ (v = w /\ b = c) := by
  rw [List.mem_append, List.mem_singleton, Prod.mk.injEq]
theorem MR.step {ms : List qf} {F : zc -> List Int × List Int} {d : qx} (h : MR ms F) (ok : DeedOk d) : MR (zl ms d) (zi F d) := by
  obtain ⟨kd, bt, w⟩ := d
  have hk := ok.kind
  have hb := ok.bit
  have hw := ok.way
  dsimp only at hk hb hw
  unfold zl zi
  dsimp only
  rcases hk with rfl | rfl | rfl
  . rw [if_pos (by decide), if_pos rfl]
    have e : (((3 : Nat) : Int) == 4) = false := by decide
    rw [e]
    refine ⟨λ v hv => ?_, λ v hv => ?_, λ q hq => ?_⟩
    . rw [mem_one]
      unfold yO
      by_cases q : signs v = signs w
      . have := yR v hv w hw q
        subst this
        rw [if_pos rfl]
        simp [jC]
      . rw [if_neg q, h.fl v hv]
        have : v ≠ w := λ z => q (by rw [z])
        simp [this]
    . rw [mem_one]
      unfold yO
      by_cases q : signs v = signs w
      . have := yR v hv w hw q
        subst this
        rw [if_pos rfl, h.rc v hv]; simp
      . rw [if_neg q, h.rc v hv]; simp
    . rcases List.mem_append.mp hq with hq | hq
      . exact h.way q hq
      . rw [List.mem_singleton.mp hq]; exact hw
  . rw [if_pos (by decide), if_neg (by decide), if_pos rfl]
    have e : (((4 : Nat) : Int) == 4) = true := by decide
    rw [e]
    refine ⟨λ v hv => ?_, λ v hv => ?_, λ q hq => ?_⟩
    . rw [mem_one]
      unfold yO
      by_cases q : signs v = signs w
      . have := yR v hv w hw q
        subst this
        rw [if_pos rfl, h.fl v hv]; simp
      . rw [if_neg q, h.fl v hv]; simp
    . rw [mem_one]
      unfold yO
      by_cases q : signs v = signs w
      . have := yR v hv w hw q
        subst this
        rw [if_pos rfl]
        simp [jC]
      . rw [if_neg q, h.rc v hv]
        have : v ≠ w := λ z => q (by rw [z])
        simp [this]
    . rcases List.mem_append.mp hq with hq | hq
      . exact h.way q hq
      . rw [List.mem_singleton.mp hq]; exact hw
  . rw [if_neg (show ¬ (5 : Nat) < 5 by decide), if_neg (show ¬ (5 : Nat) = 3 by decide), if_neg (show ¬ (5 : Nat) = 4 by decide)]
    have hb' : bt = 0 \/ bt = 1 := by ac_nf
    rcases hb' with rfl | rfl
    . rw [if_neg (show ¬ (0 : Nat) = 1 by decide), if_pos (show (0 : Nat) = 0 from rfl)]
      refine ⟨λ v hv => ?_, λ v hv => ?_, h.way⟩
      . unfold yO
        by_cases q : signs v = signs w
        . have := yR v hv w hw q
          subst this
          rw [if_pos rfl, h.fl v hv]
        . rw [if_neg q, h.fl v hv]
      . unfold yO
        by_cases q : signs v = signs w
        . have := yR v hv w hw q
          subst this
          rw [if_pos rfl]
          show (0 : Int) ∈ qR (F (signs v)).2 1 ↔ _
          rw [jC, h.rc v hv]; simp
        . rw [if_neg q, h.rc v hv]
    . rw [if_pos (show (1 : Nat) = 1 from rfl), if_neg (show ¬ (1 : Nat) = 0 by decide)]
      refine ⟨λ v hv => ?_, λ v hv => ?_, λ q hq => h.way q (List.mem_filter.mp hq).1⟩
      . rw [List.mem_filter, <- h.fl v hv]
        unfold cutF
        by_cases q : signs w <+: signs v
        . rw [if_pos q, keep_b w v false true, (cut_keep v hv w hw).mp q]; simp
        . rw [if_neg q]
          have : keepM w (v, false) = true := by
            rw [keep_b w v false true]
            cases e : keepM w (v, true) with
            | true => rfl
            | false => exact absurd ((cut_keep v hv w hw).mpr e) q
          simp [this]
      . rw [List.mem_filter, <- h.rc v hv]
        unfold cutF
        by_cases q : signs w <+: signs v
        . rw [if_pos q, (cut_keep v hv w hw).mp q]; simp
        . rw [if_neg q]
          have : keepM w (v, true) = true := by
            cases e : keepM w (v, true) with
            | true => rfl
            | false => exact absurd ((cut_keep v hv w hw).mpr e) q
          simp [this]
theorem MR.all (ds : List qx) : ∀ (ms : List qf) (F : zc -> List Int × List Int), MR ms F -> (∀ d ∈ ds, DeedOk d) -> MR (ds.foldl zl ms) (ds.foldl zi F) := by
  induction ds with
  | nil => intro ms F h _; exact h
  | cons d ds ih => intro ms F h ok; exact ih _ _ (h.step (ok d List.mem_cons_self)) λ x hx => ok x (List.mem_cons_of_mem _ hx)
noncomputable def hits (w : Str) : List qf := (zn.flatMap λ v => [(v, false), (v, true)]).filter (jX w)
theorem any_hits {ms : List qf} (h : ∀ q ∈ ms, q.1 ∈ zn) (w : Str) : ms.any (jX w) = true ↔ ∃ q ∈ hits w, q ∈ ms := by
  rw [List.any_eq_true]
  constructor
  . rintro ⟨q, h1, h2⟩
    refine ⟨q, List.mem_filter.mpr ⟨List.mem_flatMap.mpr ⟨q.1, h q h1, ?_⟩, h2⟩, h1⟩
    obtain ⟨v, b⟩ := q
    cases b <;> simp
  . rintro ⟨q, h1, h2⟩
    exact ⟨q, h2, (List.mem_filter.mp h1).2⟩
theorem isW_hits {ms : List qf} {F : zc -> List Int × List Int} (h : MR ms F) : ∀ w ∈ zn, isW F 0 w = ms.any (jX w) := by
  intro w hw
  rw [Bool.eq_iff_iff, any_hits h.way]
  have ha : ("a" : Str) ∈ zn := by decide
  have hb : ("b" : Str) ∈ zn := by decide
  have hab : ("ab" : Str) ∈ zn := by decide
  have haba : ("aba" : Str) ∈ zn := by decide
  have hba : ("ba" : Str) ∈ zn := by decide
  have sa : signs "a" = (["a"] : List Str) := by decide
  have sb : signs "b" = (["b"] : List Str) := by decide
  have sab : signs "ab" = (["a", "b"] : List Str) := by decide
  have saba : signs "aba" = (["a", "b", "a"] : List Str) := by decide
  have sba : signs "ba" = (["b", "a"] : List Str) := by decide
  have fa := h.fl _ ha; rw [sa] at fa
  have fb := h.fl _ hb; rw [sb] at fb
  have fab := h.fl _ hab; rw [sab] at fab
  have faba := h.fl _ haba; rw [saba] at faba
  have fba := h.fl _ hba; rw [sba] at fba
  have ra := h.rc _ ha; rw [sa] at ra
  have rb := h.rc _ hb; rw [sb] at rb
  have rab := h.rc _ hab; rw [sab] at rab
  have raba := h.rc _ haba; rw [saba] at raba
  have rba := h.rc _ hba; rw [sba] at rba
  simp only [zn, List.mem_cons, List.not_mem_nil, or_false] at hw
  rcases hw with rfl | rfl | rfl | rfl | rfl
  . have e : hits "a" = ([(("a" : Str), false), (("a" : Str), true)] : List qf) := by decide
    rw [e]
    unfold isW
    rw [sa]
    simp [isF, yr, fa, ra]
  . have e : hits "b" = ([(("b" : Str), false), (("b" : Str), true)] : List qf) := by decide
    rw [e]
    unfold isW
    rw [sb]
    simp [isF, yr, fb, rb]
  . have e : hits "ab" = ([(("a" : Str), true), (("ab" : Str), false), (("ab" : Str), true)] : List qf) := by decide
    rw [e]
    unfold isW
    rw [sab]
    simp [isF, yr, fab, rab, ra]
  . have e : hits "aba" = ([(("a" : Str), true), (("ab" : Str), true), (("aba" : Str), false), (("aba" : Str), true)] : List qf) := by decide
    rw [e]
    unfold isW
    rw [saba]
    simp [isF, yr, faba, raba, rab, ra, List.range_succ]
    rw [or_assoc]
  . have e : hits "ba" = ([(("b" : Str), true), (("ba" : Str), false), (("ba" : Str), true)] : List qf) := by decide
    rw [e]
    unfold isW
    rw [sba]
    simp [isF, yr, fba, rba, rb]
theorem junk_mem {ms : List qf} {w : Str} : w ∈ qC ms ↔ w ∈ zn /\ ms.any (jX w) = true := by
  unfold qC
  rw [List.mem_flatMap]
  constructor
  . rintro ⟨v, hv, h⟩
    obtain ⟨q, hq, rfl⟩ := List.mem_map.mp h
    exact ⟨hv, List.any_eq_true.mpr ⟨q, (List.mem_filter.mp hq).1, (List.mem_filter.mp hq).2⟩⟩
  . rintro ⟨hw, h⟩
    obtain ⟨q, h1, h2⟩ := List.any_eq_true.mp h
    exact ⟨w, hw, List.mem_map.mpr ⟨q, List.mem_filter.mpr ⟨h1, h2⟩, rfl⟩⟩
theorem isW_junk {ms : List qf} {F : zc -> List Int × List Int} (h : MR ms F) : ∀ w ∈ yk, isW F 0 w = (qC ms).contains w := by
  intro w hw
  by_cases e : w = ""
  . subst e
    have h1 : isW F 0 "" = false := by
      unfold isW
      rw [show signs ("" : Str) = [] by decide]; rfl
    rw [h1]
    symm
    rw [Bool.eq_false_iff]
    intro q
    have := (junk_mem.mp (List.contains_iff_mem.mp q)).1
    exact absurd this (by decide)
  . have hj := way_not_nil hw e
    rw [isW_hits h w hj, Bool.eq_iff_iff, List.contains_iff_mem, junk_mem]
    exact ⟨λ q => ⟨hj, q⟩, λ q => q.2⟩
end
section
variable {X : Wd} {A : Around} {L fa : Addr} {S : St} {m : Str -> Option Value} {H : AH} {mF : Str -> Option Value}
theorem do_body {self r dl : Addr} {dvs : List Value} {ds : List qx} {G : zp} {F : zc -> List Int × List Int} {N : Nat} {Φ : Flow -> St -> Prop} (hA : Room A 3) (T : TopK X) (hX : qr X) (KF : FlagsK X mF) (hset0 : qG X mainGlobals builtinsNs "set" (.type "set")) (htup : qG X mainGlobals builtinsNs "tuple" (.type "tuple")) (hFl : yg X mainGlobals "Flags" (.ref 73))
   (ms : m "flags" = some (.ref self)) (md : m "deeds" = some (.ref dl)) (R : FlagR H self r G F N) (hd : H dl = some (.list dvs)) (rd : Refs H dvs (ds.map qQ)) (ok : ∀ d ∈ ds, DeedOk d) (hN : N + 5 * ds.length <= 900)
   (h : ∀ G' S', FlagR S'.H self r G' (ds.foldl zi F) (N + 5 * ds.length) -> qu G H S'.H -> qM G G' H -> Dom H S'.H -> Φ .next S') :
   Wp X A L (execs (bodyOf fLDo) (callEnv fLDo L fa)) ⟨m, H⟩ Φ := by
  have hszl : sizeLine = 2 ^ 24 := rfl
  have dno : ∀ p i, G p i ≠ some dl := λ p i q => by
    rcases R.apart q with ⟨kvs, z⟩ | ⟨l, z⟩ <;> (rw [hd] at z; cases z)
  with_unfolding_all refine zM ?_
  walk_at "S"
  have ldv := rd.len
  rw [List.length_map] at ldv
  refine for_list hA.hh hd (λ k S => ∃ G', A5 (FlagR S.H self r G' ((ds.take k).foldl zi F) (N + 5 * k)) (qu G H S.H) (qM G G' H) (Dom H S.H) (S.m "flags" = some (.ref self))) ?_ ?_ ?_ ?_
  . exact ⟨G, R, .refl, .refl, .refl, ms⟩
  . rintro k S ⟨G', R', E, _⟩; exact E dl _ dno hd
  . rintro k u Z2 hu ⟨G', R', E, Gr, Dm, ms⟩
    try dsimp only at R' E Dm ms
    obtain ⟨y, o, rfl, ho, hy⟩ := rd.get hu
    rw [List.getElem?_map] at ho
    obtain ⟨⟨kd, bt, wy⟩, hpr, rfl⟩ := Option.map_eq_some_iff.mp ho
    have hy : H y = some (.list [.int kd 0, .int bt 0, .str wy 0]) := hy
    have yno : ∀ p i, G p i ≠ some y := λ p i q => by
      rcases R.apart q with ⟨kvs, z⟩ | ⟨l, z⟩ <;> (rw [hy] at z; cases z)
    have hy2 := E y _ yno hy
    have dok := ok _ (List.mem_of_getElem? hpr)
    have hwy : wy.cps.size <= 64 := way_small' dok.way
    obtain ⟨par, st, esg, hpar⟩ := signs_cut dok.way
    have hk : k < ds.length := (List.getElem?_eq_some_iff.mp hpr).1
    rw [take_do ds F hpr]
    generalize (ds.take k).foldl zi F = Fk at R'
    obtain ⟨dd, mm, hx, hdd, hfl, hno⟩ := R'.ob
    refine asg_list hA.hh hy2 rfl ?_
    refine zG (zH ?_)
    refine zG (zH ?_)
    refine zG (zH ?_)
    refine zy ?_
    walk_at "S"
    refine qN (λ h1 => ?_) (λ h1 => ?_)
    . walk_at "S"
      refine yu (names := ["recursive"]) ?_
      walk_at "S"
      refine zu KF.cls KF.ds (λ h o => KF.fc 63 (by simp) h o) KF.ms hx hdd (hno _ (by decide) (by decide)) ?_ KF.ga KF.gt (y := none) (by rw [typeLookup_type, builtinLookup_eq_fast]; kernel_rfl)
      refine ⟨63, fSet, bodyOf fSet, rfl, KF.ds, ?_⟩
      walk_at "S"
      refine yo ?_
      walk_at "S"
      refine qq hA.hh (by ac_nf) ?_
      intro t ht
      have ht : Z2.H t = none := ht
      walk_at "S"
      refine attr_cls T (v := .int 0 211) (by rfl) ?_
      walk_at "S"
      refine kws_cons ?_
      walk_at "S"
      refine kws_nil ?_
      refine set_call (par := par) (st := st) (rc := false) (fg := 0) (N := N + 5 * k) (hA.less (by ac_nf)) hX KF hset0 (R'.new ht) (by rw [<- esg]; exact zA) (by ac_nf) (by ac_nf) ?_
      intro G'' H3 R3 E3 Gr3 Dm3
      walk_at "S"
      refine ⟨G'', ?_, (E.new ht).trans Gr E3, Gr.trans Gr3 (λ a ha => Dm a (zF ha).2), (Dm.set).trans Dm3, ?_⟩
      . have e : zi Fk (kd, bt, wy) = yO Fk (par ++ [st]) (qR (Fk (par ++ [st])).1 0, (Fk (par ++ [st])).2) := by
          unfold zi
          simp only [<- esg]
          rw [if_pos (show kd = 3 by ac_nf), esg]
        rw [e]; exact R3.more (by ac_nf)
      . walk_at "m"
    . walk_at "S"
      refine qN (λ h2 => ?_) (λ h2 => ?_)
      . walk_at "S"
        refine yu (names := ["recursive"]) ?_
        walk_at "S"
        refine zu KF.cls KF.ds (λ h o => KF.fc 63 (by simp) h o) KF.ms hx hdd (hno _ (by decide) (by decide)) ?_ KF.ga KF.gt (y := none) (by rw [typeLookup_type, builtinLookup_eq_fast]; kernel_rfl)
        refine ⟨63, fSet, bodyOf fSet, rfl, KF.ds, ?_⟩
        walk_at "S"
        refine yo ?_
        walk_at "S"
        refine qq hA.hh (by ac_nf) ?_
        intro t ht
        have ht : Z2.H t = none := ht
        walk_at "S"
        refine attr_cls T (v := .int 0 211) (by rfl) ?_
        walk_at "S"
        refine kws_cons ?_
        walk_at "S"
        refine kws_nil ?_
        refine set_call (par := par) (st := st) (rc := true) (fg := 0) (N := N + 5 * k) (hA.less (by ac_nf)) hX KF hset0 (R'.new ht) (by rw [<- esg]; exact zA) (by ac_nf) (by ac_nf) ?_
        intro G'' H3 R3 E3 Gr3 Dm3
        walk_at "S"
        refine ⟨G'', ?_, (E.new ht).trans Gr E3, Gr.trans Gr3 (λ a ha => Dm a (zF ha).2), (Dm.set).trans Dm3, ?_⟩
        . have e : zi Fk (kd, bt, wy) = yO Fk (par ++ [st]) ((Fk (par ++ [st])).1, qR (Fk (par ++ [st])).2 0) := by
            unfold zi
            simp only [<- esg]
            rw [if_neg (show ¬ kd = 3 by ac_nf), if_pos (show kd = 4 by ac_nf), esg]
          rw [e]; exact R3.more (by ac_nf)
        . walk_at "m"
      . walk_at "S"
        refine qN (λ h3 => ?_) (λ h3 => ?_)
        . walk_at "S"
          refine yu (names := ["recursive"]) ?_
          walk_at "S"
          refine zu KF.cls KF.ds (λ h o => KF.fc 63 (by simp) h o) KF.ms hx hdd (hno _ (by decide) (by decide)) ?_ KF.ga KF.gt (y := none) (by rw [typeLookup_type, builtinLookup_eq_fast]; kernel_rfl)
          refine ⟨63, fSet, bodyOf fSet, rfl, KF.ds, ?_⟩
          walk_at "S"
          refine yo ?_
          walk_at "S"
          refine qq hA.hh (by ac_nf) ?_
          intro t ht
          have ht : Z2.H t = none := ht
          walk_at "S"
          refine attr_cls T (v := .int 1 213) (by rfl) ?_
          walk_at "S"
          refine kws_cons ?_
          walk_at "S"
          refine kws_nil ?_
          refine set_call (par := par) (st := st) (rc := true) (fg := 1) (N := N + 5 * k) (hA.less (by ac_nf)) hX KF hset0 (R'.new ht) (by rw [<- esg]; exact zA) (by ac_nf) (by ac_nf) ?_
          intro G'' H3 R3 E3 Gr3 Dm3
          walk_at "S"
          refine ⟨G'', ?_, (E.new ht).trans Gr E3, Gr.trans Gr3 (λ a ha => Dm a (zF ha).2), (Dm.set).trans Dm3, ?_⟩
          . have e : zi Fk (kd, bt, wy) = yO Fk (par ++ [st]) ((Fk (par ++ [st])).1, qR (Fk (par ++ [st])).2 1) := by
              unfold zi
              simp only [<- esg]
              rw [if_neg (show ¬ kd = 3 by ac_nf), if_neg (show ¬ kd = 4 by ac_nf), if_pos (show bt = 0 by ac_nf), esg]
            rw [e]; exact R3.more (by ac_nf)
          . walk_at "m"
        . walk_at "S"
          refine zu KF.cls KF.du (λ h o => KF.fc 56 (by simp) h o) KF.mu hx hdd (hno _ (by decide) (by decide)) ?_ KF.ga KF.gt (y := none) (by rw [typeLookup_type, builtinLookup_eq_fast]; kernel_rfl)
          refine zW (.fn KF.du) ?_
          walk_at "S"
          refine yo ?_
          walk_at "S"
          refine qq hA.hh (by ac_nf) ?_
          intro t ht
          have ht : Z2.H t = none := ht
          walk_at "S"
          refine unset_call (par := par) (st := st) (N := N + 5 * k) (hA.less (by ac_nf)) hX KF (R'.new ht) (by rw [<- esg]; exact zA) (by ac_nf) (by ac_nf) ?_
          intro G'' H3 R3 E3 Gr3 Dm3
          walk_at "S"
          refine ⟨G'', ?_, (E.new ht).trans Gr E3, Gr.trans Gr3 (λ a ha => Dm a (zF ha).2), (Dm.set).trans Dm3, ?_⟩
          . have e : zi Fk (kd, bt, wy) = cutF Fk (par ++ [st]) := by
              unfold zi
              simp only [<- esg]
              rw [if_neg (show ¬ kd = 3 by ac_nf), if_neg (show ¬ kd = 4 by ac_nf), if_neg (show ¬ bt = 0 by ac_nf), esg]
            rw [e]; exact R3.more (by ac_nf)
          . walk_at "m"
  . rintro Z2 ⟨G', R', E, Gr, Dm, ms⟩
    rw [ldv, List.take_length] at R'
    exact zq (qB (h G' _ R' E Gr Dm))
theorem do_call {f self r dl : Addr} {dvs : List Value} {ds : List qx} {G : zp} {F : zc -> List Int × List Int} {N : Nat} {Φ : Value -> St -> Prop} (hA : Room A 4) (T : TopK X) (hX : qr X) (KF : FlagsK X mF) (Df : IsDef X f fLDo (bodyOf fLDo)) (hset0 : qG X mainGlobals builtinsNs "set" (.type "set")) (htup : qG X mainGlobals builtinsNs "tuple" (.type "tuple")) (hFl : yg X mainGlobals "Flags" (.ref 73))
   (R : FlagR S.H self r G F N) (hd : S.H dl = some (.list dvs)) (rd : Refs S.H dvs (ds.map qQ)) (ok : ∀ d ∈ ds, DeedOk d) (hN : N + 5 * ds.length <= 900)
   (h : ∀ G' H', FlagR H' self r G' (ds.foldl zi F) (N + 5 * ds.length) -> qu G S.H H' -> qM G G' S.H -> Dom S.H H' -> Φ .none ⟨S.m, H'⟩) : zO X A L (.ref f) [.ref self, .ref dl] S Φ := by
  refine qT (names := ["flags", "deeds"]) Df (by have := hA.dp; ac_nf) (λ cs hcs => ?_) (by rfl) (by rfl) λ L' hL' => ?_
  . obtain ⟨c1, c2, rfl, h1, h2⟩ := map2 hcs
    rfl
  . exact do_body (Room.deep (n := 3) hA) T hX KF hset0 htup hFl rfl rfl R hd rd ok hN λ G' S' R' E Gr Dm => h G' S'.H R' E Gr Dm
end
section
variable {X : Wd} {A : Around} {L fa : Addr} {S : St} {m : Str -> Option Value} {H : AH} {mS : Str -> Option Value}
structure FI (H0 : AH) (al bl dj bc nt : Addr) (as bs : List Str) (J : Str -> Bool) (p0 p1 q0 q1 i : Nat) (bi bj n : Nat) (jd : Addr) (kv : List (Int × Value)) (S : St) : Prop where
  ext : zm H0 S.H
  mp0 : S.m "alo" = some (.int p0 0)
  mp1 : S.m "ahi" = some (.int p1 0)
  mq0 : S.m "blo" = some (.int q0 0)
  mq1 : S.m "bhi" = some (.int q1 0)
  ma : S.m "a" = some (.ref al)
  mb : S.m "b" = some (.ref bl)
  m2 : S.m "b2j" = some (.ref dj)
  mj : S.m "isbjunk" = some (.ref bc)
  mbi : S.m "besti" = some (.int bi 0)
  mbj : S.m "bestj" = some (.int bj 0)
  mbs : S.m "bestsize" = some (.int n 0)
  mjl : S.m "j2len" = some (.ref jd)
  mnt : S.m "nothing" = some (.ref nt)
  hjd : S.H jd = some (.idict kv)
  hnt : S.H nt = some (.list [])
  neg : NegNo kv
  j2 : J2 as bs J p0 p1 q0 q1 i kv
  len : kv.length <= 64
  be : BE (Ok as bs J p1 q1) p0 q0 (λ u o_ => u <= i) bi bj n
inductive FJ (H0 : AH) (al bl dj bc nt : Addr) (as bs : List Str) (J : Str -> Bool) (p0 p1 q0 q1 i : Nat) (js : List Nat) (t : Nat) (bi bj n : Nat) (jd nd gb : Addr) (kv kv' : List (Int × Value)) (S : St) : Prop
  | mk (ext : zm H0 S.H) (mp0 : S.m "alo" = some (.int p0 0)) (mp1 : S.m "ahi" = some (.int p1 0)) (mq0 : S.m "blo" = some (.int q0 0)) (mq1 : S.m "bhi" = some (.int q1 0)) (ma : S.m "a" = some (.ref al)) (mb : S.m "b" = some (.ref bl)) (m2 : S.m "b2j" = some (.ref dj)) (mj : S.m "isbjunk" = some (.ref bc)) (mbi : S.m "besti" = some (.int bi 0)) (mbj : S.m "bestj" = some (.int bj 0)) (mbs : S.m "bestsize" = some (.int n 0)) (mnt : S.m "nothing" = some (.ref nt)) (mi : S.m "i" = some (.int i 0)) (mg : S.m "j2lenget" = some (.ref gb)) (mn : S.m "newj2len" = some (.ref nd)) (hg : S.H gb = some (.raw (za "dict.get" (.ref jd)))) (hjd : S.H jd = some (.idict kv)) (hnd : S.H nd = some (.idict kv')) (hnt : S.H nt = some (.list [])) (neg : NegNo kv') (n2 : N2 as bs J p0 p1 q0 q1 js i t kv') (len : kv'.length <= t) (be : BE (Ok as bs J p1 q1) p0 q0 (PV js q0 q1 i t) bi bj n)
inductive FH (H0 : AH) (al bl dj bc sj : Addr) (p0 p1 q0 q1 : Nat) (S : St) : Prop
  | mk (ext : zm H0 S.H) (mp0 : S.m "alo" = some (.int p0 0)) (mp1 : S.m "ahi" = some (.int p1 0)) (mq0 : S.m "blo" = some (.int q0 0)) (mq1 : S.m "bhi" = some (.int q1 0)) (ma : S.m "a" = some (.ref al)) (mb : S.m "b" = some (.ref bl)) (m2 : S.m "b2j" = some (.ref dj)) (mj : S.m "isbjunk" = some (.ref bc)) (mbi : S.m "besti" = some (.int p0 0)) (mbj : S.m "bestj" = some (.int q0 0)) (mbs : S.m "bestsize" = some (.int 0 0)) (hbc : S.H bc = some (.raw (za "set.__contains__" (.ref sj))))
inductive GI (H0 : AH) (al bl bc sj : Addr) (p0 p1 q0 q1 : Nat) (bi bj n : Nat) (S : St) : Prop
  | mk (ext : zm H0 S.H) (mp0 : S.m "alo" = some (.int p0 0)) (mp1 : S.m "ahi" = some (.int p1 0)) (mq0 : S.m "blo" = some (.int q0 0)) (mq1 : S.m "bhi" = some (.int q1 0)) (ma : S.m "a" = some (.ref al)) (mb : S.m "b" = some (.ref bl)) (mj : S.m "isbjunk" = some (.ref bc)) (mbi : S.m "besti" = some (.int bi 0)) (mbj : S.m "bestj" = some (.int bj 0)) (mbs : S.m "bestsize" = some (.int n 0)) (hbc : S.H bc = some (.raw (za "set.__contains__" (.ref sj))))
set_option tactic.hygienic true in
theorem find_body {x d al bl dj sj : Addr} {mm : Str -> Option Value} {as bs : List Str} {J : Str -> Bool} {p0 p1 q0 q1 : Nat} {Φ : Flow -> St -> Prop} (hA : Room A 3) (T : TopK X) (hX : qr X) (K : SMK X mS) (hr : qG X mainGlobals builtinsNs "range" (.type "range")) (hM : yg X mainGlobals "Match" (.ref 191))
   (mx : m "self" = some (.ref x)) (mp0 : m "alo" = some (.int p0 0)) (mp1 : m "ahi" = some (.int p1 0)) (mq0 : m "blo" = some (.int q0 0)) (mq1 : m "bhi" = some (.int q1 0))
   (R : SMR H x d mm al bl dj sj as bs J) (h0p : p0 <= p1) (h0q : q0 <= q1) (hp : p1 <= as.length) (hq : q1 <= bs.length) (la : as.length < 64) (lb : bs.length < 64)
   (h : ∀ i j n S', Res as bs J p0 p1 q0 q1 i j n -> zm H S'.H -> zO X A L (.ref 191) [.int i 0, .int j 0, .int n 0] S' λ v S'' => ∀ c, er c = v -> Φ (.ret c) S'') :
   Wp X A L (execs (bodyOf fFind) (callEnv fFind L fa)) ⟨m, H⟩ Φ := by
  have hszl : sizeLine = 2 ^ 24 := rfl
  have R0 := R
  obtain ⟨ox, od, ma, mb, m2, mj, ha, hb, ⟨kvs, hk, hkv⟩, ⟨xs, hxs, hxj⟩⟩ := R
  with_unfolding_all refine zM ?_
  walk_at "S"
  refine zo K.cls ox od ma (by simp) ?_ K.ga (K.no _ (by simp))
  walk_at "S"
  refine zo K.cls ox od mb (by simp) ?_ K.ga (K.no _ (by simp))
  walk_at "S"
  refine zo K.cls ox od m2 (by simp) ?_ K.ga (K.no _ (by simp))
  walk_at "S"
  refine zo K.cls ox od mj (by simp) ?_ K.ga (K.no _ (by simp))
  walk_at "S"
  refine attr_contains hxs ?_
  intro bc hbc
  have hbc : H bc = none := hbc
  walk_at "S"
  refine ⟨show 4 <= sizeLine by decide, ?_⟩
  intro t4 ht4
  refine jI hA.hh zA rfl ?_
  refine zG (zH ?_)
  refine zG (zH ?_)
  refine zG (zH ?_)
  refine zG (zH ?_)
  refine zy ?_
  walk_at "S"
  refine cmp_isNoneInt ?_
  refine zd ?_
  refine zI ?_
  walk_at "S"
  refine cmp_isNoneInt ?_
  refine zd ?_
  refine zI ?_
  walk_at "S"
  refine qZ (names := ["besti", "bestj", "bestsize"]) hA.hh ?_
  walk_at "S"
  refine ⟨show 3 <= sizeLine by decide, ?_⟩
  intro t3 ht3
  refine ⟨t3, _, rfl, zA, rfl, ?_⟩
  refine (?_ : Wp _ _ _ (execs _ _) _ _)
  refine Wp.abs (λ S => FH H al bl dj bc sj p0 p1 q0 q1 S) ⟨((zm.refl H).new hbc).new ht4 |>.new ht3, mp0, mp1, mq0, mq1, rfl, rfl, rfl, rfl, rfl, rfl, rfl, zB ht3 (zB ht4 zA)⟩ ?_
  clear ht3 ht4 mx mp0 mp1 mq0 mq1
  have nbc := hbc
  rintro Z1 ⟨E, mp0, mp1, mq0, mq1, mna, mnb, mn2, mnj, mbi, mbj, mbs, hbc⟩
  try dsimp only at E mp0 mp1 mq0 mq1 mna mnb mn2 mnj mbi mbj mbs hbc
  walk_at "S"
  refine ev_Dict0i ?_
  intro jd hjd
  have hjd : Z1.H jd = none := hjd
  walk_at "S"
  refine ⟨show 0 <= sizeLine by decide, ?_⟩
  intro nt hnt
  have hnt : zD Z1.H jd (.idict []) nt = none := hnt
  walk_at "S"
  refine yo ?_
  walk_at "S"
  refine call_range2 ?_
  intro r hr'
  have hr' : zD (zD Z1.H jd (.idict [])) nt (.list []) r = none := hr'
  have hE0 := Z1.H
  refine for_rangeNO hA.hh (by walk_at "H") (p := p0) (q := p1) (by ac_nf) (by ac_nf) (λ i S => S.H bc = some (.raw (za "set.__contains__" (.ref sj))) /\ ∃ bi bj n jd kv, FI H al bl dj bc nt as bs J p0 p1 q0 q1 i bi bj n jd kv S) ?_ ?_ ?_
  . refine ⟨zB hr' (zB hnt (zB hjd hbc)), p0, q0, 0, jd, [], ((E.new hjd).new hnt).new hr', mp0, mp1, mq0, mq1, mna, mnb, mn2, mnj, mbi, mbj, mbs, rfl, rfl, by walk_at "H", by walk_at "H", λ y o_ => rfl, λ y => ?_, Nat.zero_le _, BE.start λ u v hu => Lx_out (.inl hu)⟩
    have e : LX as bs J p0 p1 q0 q1 p0 (y + 1) = 0 := Lx_out (.inl (Nat.le_refl _))
    rw [if_neg (by rw [e]; ac_nf)]; rfl
  . rintro i Ψ Φ1 u1 up1 Z2 hi0 hi1 ⟨hbc, bi, bj, n, jd, kv, I⟩
    have hI := I
    obtain ⟨E, mp0, mp1, mq0, mq1, mna, mnb, mn2, mnj, mbi, mbj, mbs, mjl, mnt, hjd, hnt, neg, j2, len, be⟩ := I
    try dsimp only at E mp0 mp1 mq0 mq1 mna mnb mn2 mnj mbi mbj mbs mjl mnt hjd hnt hbc
    have ha2 := E.get ha
    have hb2 := E.get hb
    have hk2 := E.get hk
    have gi : as[i]? = some as[i] := List.getElem?_eq_getElem (by ac_nf)
    refine zH (u1 _ ?_)
    walk_at "S"
    refine attr_get hjd ?_
    intro gb hgb
    have hgb : Z2.H gb = none := hgb
    walk_at "S"
    refine ev_Dict0i ?_
    intro nd hnd
    have hnd : zD Z2.H gb (.raw (za "dict.get" (.ref jd))) nd = none := hnd
    have njd := zS hjd hgb
    have nnd := zF hnd
    have nd0 := E.none nnd.2
    have jn := zS hjd nnd.2
    refine (?_ : Wp _ _ _ (execs _ _) _ _)
    refine qH (λ S => S.H bc = some (.raw (za "set.__contains__" (.ref sj))) /\ ∃ js t bi bj n kv', FJ H al bl dj bc nt as bs J p0 p1 q0 q1 i js t bi bj n jd nd gb kv kv' S /\ RowJ as bs J i js /\ t <= 64 /\ ∀ s j, t <= s -> js[s]? = some j -> q1 <= j) ?_ ?_
    . intro Φ2 up2
      walk_at "S"
      refine meth_get (by walk_at "H") (.inl ⟨_, rfl⟩) ?_
      refine zW (.builtin _) ?_
      walk_at "S"
      refine zj (by walk_at "H") i (by ac_nf) (by ac_nf) gi ?_
      walk_at "S"
      refine call_getSD hX (by walk_at "H") ?_
      obtain ⟨l, js, hval, hlj, RJ, ljs⟩ : ∃ l js, (valueAt kvs as[i]).getD (.ref nt) = .ref l /\ Z2.H l = some (.list (nsv js)) /\ RowJ as bs J i js /\ js.length <= 64 := by
        rcases hkv as[i] with ⟨v0, v1⟩ | ⟨v0, l, v1, v2⟩
        . refine ⟨nt, [], by rw [v0]; rfl, hnt, ⟨List.Pairwise.nil, λ j => ⟨λ z => (nomatch z), ?_⟩⟩, Nat.zero_le _⟩
          rintro ⟨e, e1, e2, e3⟩
          rw [gi] at e1; cases e1
          rcases v1 with v1 | v1
          . exact absurd (List.mem_of_getElem? e2) v1
          . rw [v1] at e3; cases e3
        . refine ⟨l, qS bs as[i], by rw [v1]; rfl, E.get v2, ⟨places_rise, λ j => ?_⟩, by have := places_len (bs := bs) (w := as[i]); ac_nf⟩
          rw [mem_places]
          exact ⟨λ z => ⟨_, gi, z, v0⟩, λ ⟨e, e1, e2, _⟩ => by rw [gi] at e1; cases e1; exact e2⟩
      rw [hval]
      walk_at "S"
      have lnj : (nsv js).length = js.length := by simp [qo]
      refine yU hA.hh (vs := nsv js) (by walk_at "H") (λ t S => S.H bc = some (.raw (za "set.__contains__" (.ref sj))) /\ S.H l = some (.list (nsv js)) /\ ∃ bi bj n kv', FJ H al bl dj bc nt as bs J p0 p1 q0 q1 i js t bi bj n jd nd gb kv kv' S) ?_ ?_ ?_ ?_
      . refine ⟨zB hnd (zB hgb hbc), zB hnd (zB hgb hlj), bi, bj, n, [], (E.new hgb).new hnd, mp0, mp1, mq0, mq1, mna, mnb, mn2, mnj, mbi, mbj, mbs, mnt, rfl, rfl, rfl, by walk_at "H", by walk_at "H", by walk_at "H", by walk_at "H", λ y o_ => rfl, λ y => ⟨λ z => absurd z.1 vis_zero, λ o_ => rfl⟩, Nat.zero_le _, be.congr λ u v => ⟨λ z => ?_, λ z => .inl z⟩⟩
        rcases z with z | ⟨_, j, z, _⟩
        . exact z
        . exact absurd z vis_zero
      . rintro t S ⟨_, h5, _⟩; exact h5
      . rintro t Ψ3 Φ3 u3 up3 u Z3 hu ⟨hbc, hlj, bi, bj, n, kv', Fj⟩
        have Fj0 := Fj
        obtain ⟨E, mp0, mp1, mq0, mq1, mna, mnb, mn2, mnj, mbi, mbj, mbs, mnt, mi, mg, mn, hg, hjd, hnd, hnt, neg', n2, len', be'⟩ := Fj
        try dsimp only at E mp0 mp1 mq0 mq1 mna mnb mn2 mnj mbi mbj mbs mnt mi mg mn hg hjd hnd hnt hbc hlj
        obtain ⟨j0, hj0, rfl⟩ : ∃ j0, js[t]? = some j0 /\ u = .int (j0 : Int) 0 := by
          rw [nsv, qo, List.getElem?_map, List.getElem?_map] at hu
          obtain ⟨y, hy, rfl⟩ := Option.map_eq_some_iff.mp hu
          obtain ⟨j0, hj, rfl⟩ := Option.map_eq_some_iff.mp hy
          exact ⟨j0, hj, rfl⟩
        have htl : t < js.length := (List.getElem?_eq_some_iff.mp hj0).1
        have hmem := List.mem_of_getElem? hj0
        refine zH (u3 _ ?_)
        walk_at "S"
        refine zN (λ h1 => ?_) (λ h1 => ?_)
        . walk_at "S"
          have hsk : ¬ (q0 <= j0 /\ j0 < q1) := λ z => by ac_nf
          have n2' : N2 as bs J p0 p1 q0 q1 js i (t + 1) kv' := λ y => ⟨λ z => by
            rcases (ql hj0).mp z.1 with q | rfl
            . exact (n2 y).1 ⟨q, z.2⟩
            . exact absurd z.2 hsk, λ z => (n2 y).2 λ q => z ⟨(ql hj0).mpr (.inl q.1), q.2⟩⟩
          exact ⟨hbc, hlj, bi, bj, n, kv', E, mp0, mp1, mq0, mq1, mna, mnb, mn2, mnj, mbi, mbj, mbs, mnt, mi, mg, mn, hg, hjd, hnd, hnt, neg', n2', Nat.le_succ_of_le len', be'.congr λ u v => PV.skip hj0 hsk⟩
        . walk_at "S"
          refine zN (λ h2 => ?_) (λ h2 => ?_)
          . walk_at "S"
            have hrest : ∀ s j, t <= s -> js[s]? = some j -> q1 <= j := λ s j hs e => by
              by_cases q : s = t
              . subst q; rw [hj0] at e; cases e; ac_nf
              . have := rise_lt RJ.rise hj0 e (by ac_nf); ac_nf
            refine up2.to _ _ ?_
            exact ⟨rfl, hbc, js, t, bi, bj, n, kv', ⟨E, mp0, mp1, mq0, mq1, mna, mnb, mn2, mnj, mbi, mbj, mbs, mnt, mi, mg, mn, hg, hjd, hnd, hnt, neg', n2, len', be'⟩, RJ, Nat.le_trans (Nat.le_of_lt htl) ljs, hrest⟩
          . have hq0 : q0 <= j0 := by ac_nf
            have hq1 : j0 < q1 := by ac_nf
            have hok : Ok as bs J p1 q1 i j0 := (RJ.ok hi1).mpr ⟨hq1, hmem⟩
            have hL : LX as bs J p0 p1 q0 q1 (i + 1) (j0 + 1) = LX as bs J p0 p1 q0 q1 i j0 + 1 := Lx_yes hi0 hq0 hok
            have hget : (valueAt kv ((j0 : Int) - 1)).getD (.int 0 0) = .int ((LX as bs J p0 p1 q0 q1 i j0 : Nat) : Int) 0 := by
              cases j0 with
              | zero =>
                rw [neg _ (by ac_nf)]
                show Value.int 0 0 = _
                rw [show LX as bs J p0 p1 q0 q1 i 0 = 0 from Lx_zero _]; rfl
              | succ y =>
                rw [show (((y + 1 : Nat) : Int) - 1) = (y : Int) by ac_nf, j2 y]
                split
                . rfl
                . rename_i hz
                  have : LX as bs J p0 p1 q0 q1 i (y + 1) = 0 := by ac_nf
                  rw [this]; rfl
            have hrun := Lx_run (ok := Ok as bs J p1 q1) (p0 := p0) (q0 := q0) (i + 1) (j0 + 1)
            generalize hk : LX as bs J p0 p1 q0 q1 i j0 = kk at hL hget
            walk_at "S"
            refine qd ?_
            walk_at "S"
            refine qF ?_
            refine yK (id := "dict.get") (self := .ref jd) ?_
            walk_at "S"
            refine ⟨hg, call_bget hX hg hjd ?_⟩
            rw [hget]
            walk_at "S"
            refine set_idict (by walk_at "H") (by ac_nf) ?_
            have n2' : N2 as bs J p0 p1 q0 q1 js i (t + 1) (stored kv' (j0 : Int) (.int ((kk : Int) + 1) 0)) := λ y => by
              rw [valueAt_storedK]
              refine ⟨λ z => ?_, λ z => ?_⟩
              . by_cases q : y = j0
                . subst q
                  rw [if_pos rfl, hL]; rfl
                . rw [if_neg (by ac_nf)]
                  rcases (ql hj0).mp z.1 with w | w
                  . exact (n2 y).1 ⟨w, z.2⟩
                  . exact absurd w q
              . by_cases q : y = j0
                . exact absurd ⟨(ql hj0).mpr (.inr q), by ac_nf, by ac_nf⟩ z
                . rw [if_neg (by ac_nf)]
                  exact (n2 y).2 λ w => z ⟨(ql hj0).mpr (.inl w.1), w.2⟩
            have neg'' : NegNo (stored kv' (j0 : Int) (.int ((kk : Int) + 1) 0)) := λ y hy => by
              rw [valueAt_storedK, if_neg (by ac_nf)]; exact neg' y hy
            have len'' := stored_length_le kv' (j0 : Int) (.int ((kk : Int) + 1) 0)
            have nl : nd ≠ l := λ q => by rw [q, hlj] at hnd; cases hnd
            have nbc' : nd ≠ bc := zK hnd hbc rfl
            have ngb : nd ≠ gb := zK hnd hg rfl
            have nnt : nd ≠ nt := zK hnd hnt rfl
            have njd' : jd ≠ nd := jn
            walk_at "S"
            have hLk : LX as bs J p0 p1 q0 q1 (i + 1) (j0 + 1) = kk + 1 := hL
            have hle : kk + 1 <= i + 1 /\ kk + 1 <= j0 + 1 := ⟨by rw [<- hLk]; exact hrun.1, by rw [<- hLk]; exact hrun.2.1⟩
            have hord := PV.before (q0 := q0) (q1 := q1) (i := i) RJ.rise hj0
            refine zN (λ h3 => ?_) (λ h3 => ?_)
            . walk_at "S"
              refine qZ (names := ["besti", "bestj", "bestsize"]) hA.hh ?_
              walk_at "S"
              refine ⟨show 3 <= sizeLine by decide, ?_⟩
              intro t3 ht3
              refine ⟨t3, _, rfl, zA, rfl, ?_⟩
              refine (?_ : Wp _ _ _ (execs _ _) _ _)
              walk_at "S"
              have hB2 := be'.more (x0 := i + 1) (y0 := j0 + 1) (by show n < LX as bs J p0 p1 q0 q1 (i + 1) (j0 + 1); rw [hLk]; ac_nf)
              rw [show Lx (Ok as bs J p1 q1) p0 q0 (i + 1) (j0 + 1) = kk + 1 from hLk] at hB2
              have ht3' : zD Z3.H nd (.idict (stored kv' (j0 : Int) (.int ((kk : Int) + 1) 0))) t3 = none := ht3
              exact ⟨by walk_at "H", by walk_at "H", i + 1 - (kk + 1), j0 + 1 - (kk + 1), kk + 1, stored kv' (j0 : Int) (.int ((kk : Int) + 1) 0), (E.turn nd0).new ht3', mp0, mp1, mq0, mq1, mna, mnb, mn2, mnj, back_int hle.1, back_int hle.2, rfl, mnt, mi, mg, mn, by walk_at "H", by walk_at "H", zB ht3' zA, by walk_at "H", neg'', n2', Nat.le_trans len'' (Nat.succ_le_succ len'), hB2.congr λ u v => PV.step hj0 hq0 hq1⟩
            . walk_at "S"
              have hB2 := be'.less (x0 := i + 1) (y0 := j0 + 1) (by show LX as bs J p0 p1 q0 q1 (i + 1) (j0 + 1) <= n; rw [hLk]; ac_nf) hord
              exact ⟨by walk_at "H", by walk_at "H", bi, bj, n, stored kv' (j0 : Int) (.int ((kk : Int) + 1) 0), E.turn nd0, mp0, mp1, mq0, mq1, mna, mnb, mn2, mnj, mbi, mbj, mbs, mnt, mi, mg, mn, by walk_at "H", by walk_at "H", zA, by walk_at "H", neg'', n2', Nat.le_trans len'' (Nat.succ_le_succ len'), hB2.congr λ u v => PV.step hj0 hq0 hq1⟩
      . rintro Z3 ⟨hbc, hlj, bi, bj, n, kv', Fj⟩
        rw [lnj] at Fj
        exact up2.to _ _ ⟨rfl, hbc, js, js.length, bi, bj, n, kv', Fj, RJ, ljs, λ s j hs e => by rw [List.getElem?_eq_none hs] at e; cases e⟩
    . rintro Z3 ⟨hbc, js, t, bi, bj, n, kv', ⟨E, mp0, mp1, mq0, mq1, mna, mnb, mn2, mnj, mbi, mbj, mbs, mnt, mi, mg, mn, hg, hjd, hnd, hnt, neg', n2, len', be'⟩, RJ, ht, hrest⟩
      try dsimp only at E mp0 mp1 mq0 mq1 mna mnb mn2 mnj mbi mbj mbs mnt mi mg mn hg hjd hnd hnt hbc
      obtain ⟨j2', be2⟩ := row_end RJ hi0 hi1 n2 be' hrest
      walk_at "S"
      exact ⟨hbc, bi, bj, n, nd, kv', E, mp0, mp1, mq0, mq1, mna, mnb, mn2, mnj, mbi, mbj, mbs, rfl, mnt, hnd, hnt, neg', j2', Nat.le_trans len' ht, be2⟩
  . rintro Z2 ⟨hbc, bi, bj, n, jd, kv, I⟩
    rw [Nat.max_eq_right h0p] at I
    have hB := I.be.fin (p1 := p1) (q1 := q1) (λ u v o_ h2 o_ o_ => h2) (λ u v q => ⟨q.1, q.2.1⟩)
    have hij := hB.lies h0p h0q
    have hi1 := Nat.le_trans (Nat.le_add_right _ _) hij.2.1
    have hj1 := Nat.le_trans (Nat.le_add_right _ _) hij.2.2.2
    have hbi := Nat.le_trans hi1 hp
    have hbj := Nat.le_trans hj1 hq
    have la' := of64 la
    have lb' := of64 lb
    have G : GI H al bl bc sj p0 p1 q0 q1 bi bj n Z2 := ⟨I.ext, I.mp0, I.mp1, I.mq0, I.mq1, I.ma, I.mb, I.mj, I.mbi, I.mbj, I.mbs, hbc⟩
    clear I hbc
    refine (?_ : Wp _ _ _ (execs _ _) _ _)
    refine qH (λ S => GI H al bl bc sj p0 p1 q0 q1 bi bj n S) ?_ ?_
    . intro Φ2 up2
      refine qi (λ f S => GI H al bl bc sj p0 p1 q0 q1 bi bj n S) 0 G ?_
      rintro f Ψ Φ3 u1 u2 up3 Z3 G
      have G0 := G
      obtain ⟨E, mp0, mp1, mq0, mq1, mna, mnb, mnj, mbi, mbj, mbs, hbc⟩ := G
      try dsimp only at E mp0 mp1 mq0 mq1 mna mnb mnj mbi mbj mbs hbc
      have ha2 := E.get ha
      have hb2 := E.get hb
      have hxs2 := E.get hxs
      refine yW False ?_ (λ z => z.elim) (λ o_ => u2 _ (up2.to _ _ ⟨rfl, G0⟩))
      walk_at "S"
      refine zN (λ h1 => ?_) (λ h1 => ⟨rfl, zY id⟩)
      walk_at "S"
      refine zN (λ h2 => ?_) (λ h2 => ⟨rfl, zY id⟩)
      walk_at "S"
      have h1 := Int.ofNat_lt.mp h1
      have h2 := Int.ofNat_lt.mp h2
      have g2 := pickD h2 hbj
      have g1 := pickD h1 hbi
      refine qF ?_
      refine yK (id := "set.__contains__") (self := .ref sj) ?_
      walk_at "S"
      refine zj (by walk_at "H") (bj - 1) (jE h2) (qp g2 lb') g2 ?_
      walk_at "S"
      refine ⟨hbc, yB hbc hxs2 ?_⟩
      refine zd ?_
      refine ways_not (zN (λ h3 => ⟨rfl, zY id⟩) (λ h3 => ?_))
      walk_at "S"
      refine zj (by walk_at "H") (bi - 1) (jE h1) (qp g1 la') g1 ?_
      walk_at "S"
      refine zj (by walk_at "H") (bj - 1) (jE h2) (qp g2 lb') g2 ?_
      walk_at "S"
      refine qN (λ h4 => (hB.no_back hi1 hj1 h1 h2 (At.of g1 g2 h4 (Bool.eq_false_iff.mpr λ z => h3 ((hxj _ (List.mem_of_getElem? g2)).mpr z)))).elim) (λ h4 => ⟨rfl, zY id⟩)
    clear G
    rintro S3 G
    refine qH (λ S => GI H al bl bc sj p0 p1 q0 q1 bi bj n S) ?_ ?_
    . intro Φ2 up2
      refine qi (λ f S => GI H al bl bc sj p0 p1 q0 q1 bi bj n S) 0 G ?_
      rintro f Ψ Φ3 u1 u2 up3 Z3 G
      have G0 := G
      obtain ⟨E, mp0, mp1, mq0, mq1, mna, mnb, mnj, mbi, mbj, mbs, hbc⟩ := G
      try dsimp only at E mp0 mp1 mq0 mq1 mna mnb mnj mbi mbj mbs hbc
      have ha2 := E.get ha
      have hb2 := E.get hb
      have hxs2 := E.get hxs
      refine yW False ?_ (λ z => z.elim) (λ o_ => u2 _ (up2.to _ _ ⟨rfl, G0⟩))
      walk_at "S"
      refine zN (λ h1 => ?_) (λ h1 => ⟨rfl, zY id⟩)
      walk_at "S"
      refine zN (λ h2 => ?_) (λ h2 => ⟨rfl, zY id⟩)
      walk_at "S"
      have h1 : bi + n < p1 := Int.ofNat_lt.mp h1
      have h2 : bj + n < q1 := Int.ofNat_lt.mp h2
      have g2 := pickE h2 hq
      have g1 := pickE h1 hp
      refine qF ?_
      refine yK (id := "set.__contains__") (self := .ref sj) ?_
      walk_at "S"
      refine zj (by walk_at "H") (bj + n) rfl (qp g2 lb') g2 ?_
      walk_at "S"
      refine ⟨hbc, yB hbc hxs2 ?_⟩
      refine zd ?_
      refine ways_not (zN (λ h3 => ⟨rfl, zY id⟩) (λ h3 => ?_))
      walk_at "S"
      refine zj (by walk_at "H") (bi + n) rfl (qp g1 la') g1 ?_
      walk_at "S"
      refine zj (by walk_at "H") (bj + n) rfl (qp g2 lb') g2 ?_
      walk_at "S"
      refine qN (λ h4 => (hB.no_forth hij.1 hij.2.2.1 h1 h2 (At.of g1 g2 h4 (Bool.eq_false_iff.mpr λ z => h3 ((hxj _ (List.mem_of_getElem? g2)).mpr z)))).elim) (λ h4 => ⟨rfl, zY id⟩)
    clear G
    rintro S3 G
    refine qH (λ S => ∃ g u v : Nat, A5 (GI H al bl bc sj p0 p1 q0 q1 u v (n + g) S) (u + g = bi) (v + g = bj) (Bks as bs J p0 q0 u v g) (¬ Bk as bs J p0 q0 u v)) ?_ ?_
    . intro Φ2 up2
      refine qi (λ u S => ∃ g v : Nat, A4 (GI H al bl bc sj p0 p1 q0 q1 u v (n + g) S) (u + g = bi) (v + g = bj) (Bks as bs J p0 q0 u v g)) _ ⟨0, bj, G, rfl, rfl, Bks.zero⟩ ?_
      rintro u Ψ Φ3 u1 u2 up3 Z3 ⟨g, v, G, e1, e2, hrun⟩
      have G0 := G
      obtain ⟨E, mp0, mp1, mq0, mq1, mna, mnb, mnj, mbi, mbj, mbs, hbc⟩ := G
      try dsimp only at E mp0 mp1 mq0 mq1 mna mnb mnj mbi mbj mbs hbc
      have ha2 := E.get ha
      have hb2 := E.get hb
      have hxs2 := E.get hxs
      refine yW (Bk as bs J p0 q0 u v) ?_ (λ hok => u1 _ ?_) (λ hno => u2 _ (up2.to _ _ ⟨rfl, g, u, v, G0, e1, e2, hrun, hno⟩))
      . walk_at "S"
        refine zN (λ h1 => ?_) (λ h1 => ⟨rfl, zY λ z => h1 (Int.ofNat_lt.mpr z.1)⟩)
        walk_at "S"
        refine zN (λ h2 => ?_) (λ h2 => ⟨rfl, zY λ z => h2 (Int.ofNat_lt.mpr z.2.1)⟩)
        walk_at "S"
        have h1 := Int.ofNat_lt.mp h1
        have h2 := Int.ofNat_lt.mp h2
        have g2 := pickD h2 (Nat.le_trans (e2 ▸ Nat.le_add_right v g) hbj)
        have g1 := pickD h1 (Nat.le_trans (e1 ▸ Nat.le_add_right u g) hbi)
        refine qF ?_
        refine yK (id := "set.__contains__") (self := .ref sj) ?_
        walk_at "S"
        refine zj (by walk_at "H") (v - 1) (jE h2) (qp g2 lb') g2 ?_
        walk_at "S"
        refine ⟨hbc, yB hbc hxs2 ?_⟩
        refine zd ?_
        refine zN (λ h3 => ?_) (λ h3 => ⟨rfl, zY λ z => h3 ((hxj _ (List.mem_of_getElem? g2)).mpr (z.2.2.snd g2))⟩)
        walk_at "S"
        refine zj (by walk_at "H") (u - 1) (jE h1) (qp g1 la') g1 ?_
        walk_at "S"
        refine zj (by walk_at "H") (v - 1) (jE h2) (qp g2 lb') g2 ?_
        walk_at "S"
        refine qN (λ h4 => ?_) (λ h4 => ⟨rfl, zY λ z => h4 (z.2.2.eq g1 g2)⟩)
        walk_at "S"
        exact ⟨rfl, qz ⟨h1, h2, At.of g1 g2 h4 ((hxj _ (List.mem_of_getElem? g2)).mp h3)⟩⟩
      . refine zM ?_
        refine qZ (names := ["besti", "bestj", "bestsize"]) hA.hh ?_
        walk_at "S"
        refine ⟨show 3 <= sizeLine by decide, ?_⟩
        intro t3 ht3
        refine ⟨t3, _, rfl, zA, rfl, ?_⟩
        walk_at "S"
        exact ⟨u - 1, pred_lt hok.1, g + 1, v - 1, ⟨E.new ht3, mp0, mp1, mq0, mq1, mna, mnb, mnj, some_pred hok.1, some_pred hok.2.1, rfl, zB ht3 hbc⟩, pred_add hok.1 e1, pred_add hok.2.1 e2, hrun.back hok⟩
    clear G
    rintro S3 ⟨g, u, v, G, e1, e2, hrun, hno⟩
    refine qH (λ S => ∃ r : Nat, A3 (GI H al bl bc sj p0 p1 q0 q1 u v (n + g + r) S) (Fws as bs J p1 q1 (bi + n) (bj + n) r) (¬ Fw as bs J p1 q1 (bi + n + r) (bj + n + r))) ?_ ?_
    . intro Φ2 up2
      refine qi (λ f S => ∃ r : Nat, A3 (GI H al bl bc sj p0 p1 q0 q1 u v (n + g + r) S) (bi + n + r + f = p1) (Fws as bs J p1 q1 (bi + n) (bj + n) r)) _ ⟨0, G, Nat.add_sub_of_le hij.2.1, Fws.zero⟩ ?_
      rintro f Ψ Φ3 u1 u2 up3 Z3 ⟨r, G, hf, hrun'⟩
      have G0 := G
      obtain ⟨E, mp0, mp1, mq0, mq1, mna, mnb, mnj, mbi, mbj, mbs, hbc⟩ := G
      try dsimp only at E mp0 mp1 mq0 mq1 mna mnb mnj mbi mbj mbs hbc
      have ha2 := E.get ha
      have hb2 := E.get hb
      have hxs2 := E.get hxs
      have k1 := sum_cast (n := n) (r := r) e1
      have k2 := sum_cast (n := n) (r := r) e2
      refine yW (Fw as bs J p1 q1 (bi + n + r) (bj + n + r)) ?_ (λ hok => u1 _ ?_) (λ hno => u2 _ (up2.to _ _ ⟨rfl, r, G0, hrun', hno⟩))
      . walk_at "S"
        refine zN (λ h1 => ?_) (λ h1 => ⟨rfl, zY λ z => h1 (k1 ▸ Int.ofNat_lt.mpr z.1)⟩)
        walk_at "S"
        refine zN (λ h2 => ?_) (λ h2 => ⟨rfl, zY λ z => h2 (k2 ▸ Int.ofNat_lt.mpr z.2.1)⟩)
        walk_at "S"
        have h1 := Int.ofNat_lt.mp (k1 ▸ h1)
        have h2 := Int.ofNat_lt.mp (k2 ▸ h2)
        have g2 := pickE h2 hq
        have g1 := pickE h1 hp
        refine qF ?_
        refine yK (id := "set.__contains__") (self := .ref sj) ?_
        walk_at "S"
        refine zj (by walk_at "H") (bj + n + r) k2 (qp g2 lb') g2 ?_
        walk_at "S"
        refine ⟨hbc, yB hbc hxs2 ?_⟩
        refine zd ?_
        refine zN (λ h3 => ?_) (λ h3 => ⟨rfl, zY λ z => h3 ((hxj _ (List.mem_of_getElem? g2)).mpr (z.2.2.snd g2))⟩)
        walk_at "S"
        refine zj (by walk_at "H") (bi + n + r) k1 (qp g1 la') g1 ?_
        walk_at "S"
        refine zj (by walk_at "H") (bj + n + r) k2 (qp g2 lb') g2 ?_
        walk_at "S"
        refine qN (λ h4 => ?_) (λ h4 => ⟨rfl, zY λ z => h4 (z.2.2.eq g1 g2)⟩)
        walk_at "S"
        exact ⟨rfl, qz ⟨h1, h2, At.of g1 g2 h4 ((hxj _ (List.mem_of_getElem? g2)).mp h3)⟩⟩
      . walk_at "S"
        obtain ⟨f', hf', ef⟩ := fuel_step hf hok.1
        exact ⟨f', hf', r + 1, ⟨E, mp0, mp1, mq0, mq1, mna, mnb, mnj, mbi, mbj, rfl, hbc⟩, ef, hrun'.step hok⟩
    clear G
    rintro Z3 ⟨r, G, hrun', hno'⟩
    obtain ⟨E, mp0, mp1, mq0, mq1, mna, mnb, mnj, mbi, mbj, mbs, hbc⟩ := G
    try dsimp only at E mp0 mp1 mq0 mq1 mna mnb mnj mbi mbj mbs hbc
    walk_at "S"
    refine qF ?_
    refine callW_M T ?_
    walk_at "S"
    exact h u v (n + g + r) _ ⟨bi, bj, n, g, r, hB, hrun, hno, hrun', hno', e1, e2, Nat.add_right_comm n g r⟩ E
end
section
variable {X : Wd} {A : Around} {L fa : Addr} {S : St} {m : Str -> Option Value} {H : AH} {mS : Str -> Option Value}
structure SMF (X : Wd) (mS : Str -> Option Value) : Prop where
  di : IsDef X 216 fSInit (bodyOf fSInit)
  ds : IsDef X 223 fSeqs (bodyOf fSeqs)
  d1 : IsDef X 230 fSeq1 (bodyOf fSeq1)
  d2 : IsDef X 237 fSeq2 (bodyOf fSeq2)
  dc : IsDef X 244 fChain (bodyOf fChain)
  df : IsDef X 252 fFind (bodyOf fFind)
  db : IsDef X 259 fBlk (bodyOf fBlk)
  mi : mS "__init__" = some (.ref 216)
  ms : mS "set_seqs" = some (.ref 223)
  m1 : mS "set_seq1" = some (.ref 230)
  m2 : mS "set_seq2" = some (.ref 237)
  mc : mS "_SequenceMatcher__chain_b" = some (.ref 244)
  mf : mS "find_longest_match" = some (.ref 252)
  mb : mS "get_matching_blocks" = some (.ref 259)
  fc : ∀ f ∈ ([216, 223, 230, 237, 244, 252, 259] : List Addr), ∀ h o, X.kept h -> h.get? f = some o -> o.cls = .type "function"
theorem seq1_body {x d al' : Addr} {mm : Str -> Option Value} {vs : List Value} {va : Value} {Φ : Flow -> St -> Prop} (K : SMK X mS) (mx : m "self" = some (.ref x)) (ma : m "a" = some (.ref al'))
   (hx : H x = some (.inst 298 d)) (hd : H d = some (.attrs mm)) (hw : Within mm yl) (hma : mm "a" = some va) (hva : va = .none \/ ∃ al us, va = .ref al /\ H al = some (.list us) /\ al ≠ al') (ha : H al' = some (.list vs))
   (h : ∀ S' mm', zR d H S'.H -> S'.H d = some (.attrs mm') -> Dom H S'.H -> Within mm' yl -> mm' "a" = some (.ref al') -> mm' "matching_blocks" = some .none -> (∀ y : Str, y ≠ "a" -> y ≠ "matching_blocks" -> y ≠ "opcodes" -> mm' y = mm y) -> Φ .next S') :
   Wp X A L (execs (bodyOf fSeq1) (callEnv fSeq1 L fa)) ⟨m, H⟩ Φ := by
  with_unfolding_all refine zM ?_
  walk_at "S"
  refine zo K.cls hx hd hma (by rcases hva with rfl | ⟨_, _, rfl, _⟩ <;> simp) ?_ K.ga (K.no _ (by simp))
  have key : Wp X A L (execs ((bodyOf fSeq1).drop 2) (callEnv fSeq1 L fa)) ⟨m, H⟩ Φ := by
    with_unfolding_all refine zM ?_
    walk_at "S"
    refine zt K.cls hx hd ?_ K.sa (K.no _ (by simp)) hw (by decide)
    walk_at "S"
    refine qd ?_
    walk_at "S"
    have dx : x ≠ d := zK hx hd rfl
    have w1 := Within.set hw (x := "a") (v := .ref al') (by simp [yl])
    refine zt K.cls (by walk_at "H") zA ?_ K.sa (K.no _ (by simp)) w1 (by decide)
    walk_at "S"
    have w2 := Within.set w1 (x := "matching_blocks") (v := .none) (by simp [yl])
    refine zt K.cls (by walk_at "H") zA ?_ K.sa (K.no _ (by simp)) w2 (by decide)
    walk_at "S"
    have w3 := Within.set w2 (x := "opcodes") (v := .none) (by simp [yl])
    refine h _ _ ((((zR.refl).at_).at_).at_) zA (((Dom.refl.set).set).set) w3 (by walk_at "m") (by walk_at "m") λ y h1 h2 h3 => ?_
    rw [zX h3, zX h2, zX h1]
  rcases hva with rfl | ⟨al, us, rfl, hal, hne⟩
  . refine cmp_isRefNone ?_
    refine zd ?_
    refine zI (qB ?_)
    with_unfolding_all exact key
  . refine cmp_isList ha hal ?_
    refine zd ?_
    rw [decide_eq_false (λ z => hne z.symm)]
    refine zI (qB ?_)
    with_unfolding_all exact key
theorem seq1_call {x d al' : Addr} {mm : Str -> Option Value} {vs : List Value} {va : Value} {Φ : Value -> St -> Prop} (hA : Room A 1) (K : SMK X mS) (KF : SMF X mS)
   (hx : S.H x = some (.inst 298 d)) (hd : S.H d = some (.attrs mm)) (hw : Within mm yl) (hma : mm "a" = some va) (hva : va = .none \/ ∃ al us, va = .ref al /\ S.H al = some (.list us) /\ al ≠ al') (ha : S.H al' = some (.list vs))
   (h : ∀ H' mm', zR d S.H H' -> H' d = some (.attrs mm') -> Dom S.H H' -> Within mm' yl -> mm' "a" = some (.ref al') -> mm' "matching_blocks" = some .none -> (∀ y : Str, y ≠ "a" -> y ≠ "matching_blocks" -> y ≠ "opcodes" -> mm' y = mm y) -> Φ .none ⟨S.m, H'⟩) :
   zO X A L (.ref 230) [.ref x, .ref al'] S Φ := by
  refine qT (names := ["self", "a"]) KF.d1 (by have := hA.dp; ac_nf) (λ cs hcs => ?_) (by rfl) (by rfl) λ L' hL' => ?_
  . obtain ⟨c1, c2, rfl, h1, h2⟩ := map2 hcs
    rfl
  . exact seq1_body K rfl rfl hx hd hw hma hva ha λ S' mm' k1 k2 k3 k4 k5 k6 k7 => h S'.H mm' k1 k2 k3 k4 k5 k6 k7
end
section
variable {X : Wd} {A : Around} {L fa : Addr} {S : St} {m : Str -> Option Value} {H : AH} {mS : Str -> Option Value}
theorem chain_body {x d bl f : Addr} {mm : Str -> Option Value} {fo : Obj} {ffd : FuncData} {bs : List Str} {J : Str -> Bool} {Φ : Flow -> St -> Prop} (hA : A.handled = none) (hX : qr X) (K : SMK X mS) (hset0 : qG X mainGlobals builtinsNs "set" (.type "set")) (hen : qG X mainGlobals builtinsNs "enumerate" (.type "enumerate")) (hlen : qG X mainGlobals builtinsNs "len" (.builtin "len"))
   (mx : m "self" = some (.ref x)) (hx : H x = some (.inst 298 d)) (hd : H d = some (.attrs mm)) (hw : Within mm yl) (hmb : mm "b" = some (.ref bl)) (hmi : mm "isjunk" = some (.ref f)) (hmj : mm "autojunk" = some (.bool true))
   (hb : H bl = some (.list (zZ bs))) (lb : bs.length < 64) (hf : H f = some (.raw fo)) (hfc : fo.cls = .type "function") (hff : fo.data = .func ffd)
   (hjunk : ∀ S', zR d H S'.H -> ∀ w ∈ bs, ∀ Ψ : Value -> St -> Prop, (∀ H', zm S'.H H' -> Ψ (.bool (J w)) ⟨S'.m, H'⟩) -> zO X A L (.ref f) [.str w 0] S' Ψ)
   (h : ∀ S' mm' dj sj, zR d H S'.H -> S'.H d = some (.attrs mm') -> Within mm' yl -> H dj = none -> mm' "b2j" = some (.ref dj) -> mm' "bjunk" = some (.ref sj) -> B2 S'.H dj bs J -> BJ S'.H sj bs J -> (∀ y : Str, y ≠ "b2j" -> y ≠ "bjunk" -> y ≠ "bpopular" -> mm' y = mm y) -> Φ .next S') :
   Wp X A L (execs (bodyOf fChain) (callEnv fChain L fa)) ⟨m, H⟩ Φ := by
  have hszl : sizeLine = 2 ^ 24 := rfl
  have hscan : 100 < scanBound := by decide
  have dx : x ≠ d := zK hx hd rfl
  with_unfolding_all refine zM ?_
  walk_at "S"
  refine zo K.cls hx hd hmb (by simp) ?_ K.ga (K.no _ (by simp))
  walk_at "S"
  refine qd ?_
  refine ev_Dict0s ?_
  intro dj hdj
  have hdj : H dj = none := hdj
  walk_at "S"
  have ndx : x ≠ dj := zS hx hdj
  have ndd : d ≠ dj := zS hd hdj
  refine zt K.cls (by walk_at "H") (by walk_at "H") ?_ K.sa (K.no _ (by simp)) hw (by decide)
  refine zH ?_
  have w1 := Within.set hw (x := "b2j") (v := .ref dj) (by simp [yl])
  refine Wp.abs (λ S => A6 (zR d H S.H) (S.H d = some (.attrs (zb mm "b2j" (.ref dj)))) (S.H dj = some (.sdict [])) (S.m "self" = some (.ref x)) (S.m "b" = some (.ref bl)) (S.m "b2j" = some (.ref dj))) ?_ ?_
  . refine ⟨((zR.refl).new hdj).at_, zA, ?_, ?_, ?_, ?_⟩
    . walk_at "H"
    . walk_at "m"
    . walk_at "m"
    . walk_at "m"
  rintro Z1 ⟨k1, kd, kj, ms, mb, m2⟩
  try dsimp only at k1 kd kj ms mb m2
  clear mx
  have nbd : bl ≠ d := zK hb hd rfl
  refine zM ?_
  refine ex_ForEnum hA hen ?_
  walk_at "S"
  refine ⟨bl, zZ bs, λ k S => A6 (zR d H S.H) (S.H d = some (.attrs (zb mm "b2j" (.ref dj)))) (S.m "self" = some (.ref x)) (S.m "b" = some (.ref bl)) (S.m "b2j" = some (.ref dj)) (∃ kvs, A3 (S.H dj = some (.sdict kvs)) (kvs.length <= k) (Pl H S.H (bs.take k) kvs)), rfl, k1 _ _ nbd hb, ⟨k1, kd, ms, mb, m2, [], kj, Nat.le_refl _, Pl.nil⟩, λ k S I => I.1 _ _ nbd hb, ?_, ?_⟩
  . rintro k Z2 u S1 hk ⟨k2, kd, ms, mb, m2, kvs, kj, hlk, P⟩ ⟨t, v, ht, rfl, hv, rfl⟩
    try dsimp only at k2 kd kj ms mb m2 ht P
    have hk' : k < bs.length := by rw [zZ, List.length_map] at hk; exact hk
    have hv' : v = .str bs[k] 0 := by
      rw [zZ, List.getElem?_map, List.getElem?_eq_getElem hk'] at hv
      exact (Option.some.inj hv).symm
    subst hv'
    refine jI hA zA rfl ?_
    refine zG (zH ?_)
    refine zG (zH ?_)
    refine zy ?_
    walk_at "S"
    refine meth_setdefault (by walk_at "H") (.inl ⟨_, rfl⟩) ?_
    refine zW (.builtin _) ?_
    walk_at "S"
    refine ⟨show 0 <= sizeLine by decide, ?_⟩
    intro e he
    have he : zD Z2.H t (.tup (.type "tuple") [.int k 0, .str bs[k] 0]) e = none := he
    have e2 := zF he
    have e0 : H e = none := by
      cases q : H e with
      | none => rfl
      | some o =>
        by_cases z : e = d
        . rw [z, kd] at e2; exact absurd e2.2 (by simp)
        . rw [k2 _ _ z q] at e2; exact absurd e2.2 (by simp)
    have t0 : H t = none := by
      cases q : H t with
      | none => rfl
      | some o =>
        by_cases z : t = d
        . rw [z, kd] at ht; cases ht
        . rw [k2 _ _ z q] at ht; cases ht
    have ndj : d ≠ dj := ndd
    have hte : bs.take (k + 1) = bs.take k ++ [bs[k]] := by rw [List.take_succ, List.getElem?_eq_getElem hk']; rfl
    have htl : (bs.take k).length = k := by rw [List.length_take]; ac_nf
    walk_at "S"
    refine call_setdefault hX (kvs := kvs) (by walk_at "H") (by ac_nf) (λ u hu => ?_) (λ hu => ?_)
    . obtain ⟨h1, l, rfl, h3, h4⟩ := P.at_ _ _ hu
      walk_at "S"
      refine zT (vs := nsv (qS (bs.take k) bs[k])) (by walk_at "H") ?_
      refine zW (.builtin _) ?_
      walk_at "S"
      refine zU (vs := nsv (qS (bs.take k) bs[k])) (by walk_at "H") ?_ ?_
      . have := places_len (bs := bs.take k) (w := bs[k])
        simp only [qo, List.length_map]; ac_nf
      have nld : d ≠ l := zK kd h4 rfl
      have nldj : dj ≠ l := zK kj h4 rfl
      walk_at "S"
      refine ⟨((k2.turn t0).turn e0).turn h3, by walk_at "H", by walk_at "m", by walk_at "m", by walk_at "m", kvs, by walk_at "H", by ac_nf, ?_⟩
      rw [hte]
      have := P.old (w0 := bs[k]) hu (H' := zD (zD Z2.H t (.tup (.type "tuple") [.int k 0, .str bs[k] 0])) e (.list [])) λ l vs z => zB he (zB ht z)
      rw [htl] at this
      exact this
    . have nedj : dj ≠ e := zS kj e2.2
      have ned : d ≠ e := zS kd e2.2
      walk_at "S"
      refine zT (vs := []) (by walk_at "H") ?_
      refine zW (.builtin _) ?_
      walk_at "S"
      refine zU (vs := []) (by walk_at "H") (by decide) ?_
      walk_at "S"
      have djt : dj ≠ t := zS kj ht
      refine ⟨(((k2.turn t0).turn e0).turn hdj).turn e0, by walk_at "H", by walk_at "m", by walk_at "m", by walk_at "m", kvs ++ [(bs[k], .ref e)], by walk_at "H", by rw [List.length_append]; exact Nat.succ_le_succ hlk, ?_⟩
      rw [hte]
      have := P.more (w0 := bs[k]) hu e2.2 e0 (H' := zD (zD (zD Z2.H t (.tup (.type "tuple") [.int k 0, .str bs[k] 0])) e (.list [])) dj (.sdict (kvs ++ [(bs[k], .ref e)]))) λ l vs z => by
        rw [zE _ (zK z kj rfl)]
        exact zB he (zB ht z)
      rw [htl] at this
      exact this
  . rintro Z2 ⟨k2, kd, ms, mb, m2, kvs, kj, hlk, P⟩
    try dsimp only at k2 kd ms mb m2 kj P hlk
    rw [zZ, List.length_map] at hlk P
    rw [List.take_length] at P
    walk_at "S"
    refine qd ?_
    walk_at "S"
    refine jT ?_
    refine yG (.type _) ?_
    refine call_set0s ?_
    intro sj hsj
    have hsj : Z2.H sj = none := hsj
    have k2x : Z2.H x = some (.inst 298 d) := k2 _ _ dx hx
    have nsx : x ≠ sj := zS k2x hsj
    have nsd : d ≠ sj := zS kd hsj
    have nsdj : dj ≠ sj := zS kj hsj
    have sj0 : H sj = none := k2.noneB (Ne.symm nsd) hsj
    walk_at "S"
    refine zt K.cls (by walk_at "H") (by walk_at "H") ?_ K.sa (K.no _ (by simp)) w1 (by decide)
    refine zH ?_
    have w2 := Within.set w1 (x := "bjunk") (v := .ref sj) (by simp [yl])
    walk_at "S"
    have dx' := dx
    refine zo K.cls (by walk_at "H") zA (v := .ref f) (by walk_at "m") (by simp) ?_ K.ga (K.no _ (by simp))
    have nfd : f ≠ d := zK hf hd rfl
    have kf : Z2.H f = some (.raw fo) := k2 _ _ nfd hf
    refine Wp.abs (λ S => A10 (zR d H S.H) (S.H d = some (.attrs (zb (zb mm "b2j" (.ref dj)) "bjunk" (.ref sj)))) (S.H dj = some (.sdict kvs)) (S.H sj = some (.sset [])) (Pl H S.H bs kvs) (S.m "self" = some (.ref x)) (S.m "b" = some (.ref bl)) (S.m "b2j" = some (.ref dj)) (S.m "junk" = some (.ref sj)) (S.m "isjunk" = some (.ref f))) ?_ ?_
    . refine ⟨(k2.new hsj).at_, zA, ?_, ?_, P.keep λ l vs z => ?_, ?_, ?_, ?_, ?_, ?_⟩
      . walk_at "H"
      . walk_at "H"
      . show zD (zD Z2.H sj _) d _ l = _
        rw [zE _ (zK z kd rfl)]; exact zB hsj z
      . walk_at "m"
      . walk_at "m"
      . walk_at "m"
      . walk_at "m"
      . walk_at "m"
    clear kd kj ms mb m2 hsj kf k2x P
    rintro Z3 ⟨k3, kd, kj, ks, P, ms, mb, m2, mj, mi⟩
    try dsimp only at k3 kd kj ks P ms mb m2 mj mi
    have nfdj : f ≠ dj := zS hf hdj
    have nfsj : f ≠ sj := zS hf sj0
    refine qH (λ S => A6 (zR d H S.H) (S.H d = some (.attrs (zb (zb mm "b2j" (.ref dj)) "bjunk" (.ref sj)))) (B2 S.H dj bs J) (BJ S.H sj bs J) (S.m "self" = some (.ref x)) (S.m "b" = some (.ref bl))) ?_ ?_
    . intro Φ9 up9
      refine ex_If ?_
      walk_at "S"
      refine tru_fn (k3 _ _ nfd hf) hfc ?_
      refine zV ?_
      have hkl : kvs.length <= 64 := by ac_nf
      refine qH (λ S => A9 (zR d H S.H) (S.H d = some (.attrs (zb (zb mm "b2j" (.ref dj)) "bjunk" (.ref sj)))) (S.H dj = some (.sdict kvs)) (Pl H S.H bs kvs) (S.m "self" = some (.ref x)) (S.m "b" = some (.ref bl)) (S.m "b2j" = some (.ref dj)) (S.m "junk" = some (.ref sj)) (∃ xs, A4 (S.H sj = some (.sset xs)) (xs.Nodup) (xs.length <= 64) (∀ w, w ∈ xs ↔ w ∈ kvs.map (·.1) /\ J w = true))) ?_ ?_
      . intro Φ8 up8
        refine ex_ForKeys hA ?_
        walk_at "S"
        refine meth_keys (by walk_at "H") (.inl ⟨_, rfl⟩) ?_
        refine yG (.builtin _) ?_
        refine call_keysSD hX (by walk_at "H") ?_
        intro kv hkv
        have hkv : Z3.H kv = none := hkv
        have nkd := zS kd hkv
        have nks := zS ks hkv
        refine ⟨kv, dj, kvs, rfl, zA, by walk_at "H", λ k S => A9 (zR d H S.H) (S.H d = some (.attrs (zb (zb mm "b2j" (.ref dj)) "bjunk" (.ref sj)))) (Pl H S.H bs kvs) (S.m "self" = some (.ref x)) (S.m "b" = some (.ref bl)) (S.m "b2j" = some (.ref dj)) (S.m "junk" = some (.ref sj)) (S.m "isjunk" = some (.ref f)) (∃ xs, A4 (S.H sj = some (.sset xs)) (xs.Nodup) (xs.length <= k) (∀ w, w ∈ xs ↔ w ∈ (kvs.map (·.1)).take k /\ J w = true)), ?_, ?_, ?_⟩
        . refine ⟨(k3.new hkv).del hdj, ?_, P.keep λ l vs z => ?_, ms, mb, m2, mj, mi, [], ?_, List.nodup_nil, Nat.le_refl _, λ w => ⟨λ z => (nomatch z), λ z => (nomatch z.1)⟩⟩
          . show qX (zD Z3.H kv _) dj d = _
            rw [zv ndd]; walk_at "H"
          . show qX (zD Z3.H kv _) dj l = _
            rw [zv (zK z kj rfl)]; exact zB hkv z
          . show qX (zD Z3.H kv _) dj sj = _
            rw [zv (Ne.symm nsdj)]; walk_at "H"
        . rintro k y Z4 hy ⟨k4, kd, P, ms, mb, m2, mj, mi, xs, ks, nd, lx, hxs⟩
          try dsimp only at k4 kd P ms mb m2 mj mi ks
          refine zH ?_
          have hyb : y ∈ bs := by
            obtain ⟨v, hv⟩ := Option.isSome_iff_exists.mp (key_mem.mp (List.mem_of_getElem? hy))
            exact (P.at_ _ _ hv).1
          have htk : (kvs.map (·.1)).take (k + 1) = (kvs.map (·.1)).take k ++ [y] := by rw [List.take_add_one, hy]; rfl
          have hk' : k < kvs.length := by have := (List.getElem?_eq_some_iff.mp hy).1; rwa [List.length_map] at this
          walk_at "S"
          refine qF ?_
          refine callW_raw (o := fo) hff ?_
          walk_at "S"
          refine ⟨k4 _ _ nfd hf, hjunk _ (by exact k4) y hyb _ λ H5 E => ?_⟩
          refine zd ?_
          have ks5 := E.get ks
          have kd5 := E.get kd
          refine qO (λ hJ => ?_) (λ hJ => ?_)
          . walk_at "S"
            refine meth_addSet (by walk_at "H") (.inr ⟨_, rfl⟩) ?_
            refine zW (.builtin _) ?_
            walk_at "S"
            refine call_addS (xs := xs) (by walk_at "H") (by ac_nf) ?_
            walk_at "S"
            refine ⟨(k4.of_ext E).turn sj0, ?_, P.keep λ l vs z => ?_, ?_, ?_, ?_, ?_, ?_, qR xs y, zA, addTo_nodup nd, ?_, λ w => ?_⟩
            . show zD H5 sj _ d = _
              walk_at "H"
            . show zD H5 sj _ l = _
              have z5 := E.get z
              rw [zE _ (zK z5 ks5 rfl)]; exact z5
            . walk_at "m"
            . walk_at "m"
            . walk_at "m"
            . walk_at "m"
            . walk_at "m"
            . unfold qR; split
              . ac_nf
              . rw [List.length_append]; exact Nat.succ_le_succ lx
            . rw [jC, hxs, htk, List.mem_append, List.mem_singleton]
              constructor
              . rintro (q | rfl)
                . exact ⟨.inl q.1, q.2⟩
                . exact ⟨.inr rfl, hJ⟩
              . rintro ⟨q | q, q2⟩
                . exact .inl ⟨q, q2⟩
                . exact .inr q
          . walk_at "S"
            refine ⟨k4.of_ext E, ?_, P.keep λ l vs z => E.get z, ?_, ?_, ?_, ?_, ?_, xs, ks5, nd, by ac_nf, λ w => ?_⟩
            . walk_at "H"
            . walk_at "m"
            . walk_at "m"
            . walk_at "m"
            . walk_at "m"
            . walk_at "m"
            . rw [hxs, htk, List.mem_append, List.mem_singleton]
              constructor
              . rintro ⟨q, q2⟩; exact ⟨.inl q, q2⟩
              . rintro ⟨q | rfl, q2⟩
                . exact ⟨q, q2⟩
                . rw [hJ] at q2; cases q2
        . rintro Z4 ⟨k4, kd, P, ms, mb, m2, mj, mi, xs, ks, nd, lx, hxs⟩ hn
          have hn : Z4.H dj = none := hn
          try dsimp only at k4 kd P ms mb m2 mj mi ks
          refine up8.to _ _ ⟨rfl, k4.turn hdj, ?_, zA, P.keep λ l vs z => zB hn z, ms, mb, m2, mj, xs, zB hn ks, nd, by ac_nf, λ w => ?_⟩
          . show zD Z4.H dj _ d = _
            exact zB hn kd
          . rw [hxs, List.take_of_length_le (by rw [List.length_map]; exact Nat.le_refl _)]
      clear k3 kd kj ks P ms mb m2 mj mi
      rintro Z4 ⟨k4, kd, kj, P, ms, mb, m2, mj, xs, ks, nd, lx, hxs⟩
      try dsimp only at k4 kd kj P ms mb m2 mj ks
      refine zM ?_
      refine ex_ForSet hA ?_
      walk_at "S"
      refine ⟨sj, xs, rfl, ks, λ order hperm => ?_⟩
      have ond : order.Nodup := hperm.nodup_iff.mpr nd
      have ole : order.length = xs.length := hperm.length_eq
      refine ⟨λ k S => A7 (zR d H S.H) (S.H d = some (.attrs (zb (zb mm "b2j" (.ref dj)) "bjunk" (.ref sj)))) (Pl H S.H bs kvs) (S.m "self" = some (.ref x)) (S.m "b" = some (.ref bl)) (S.m "b2j" = some (.ref dj)) (∃ kv', A3 (S.H dj = some (.sdict kv')) (kv'.length <= 64) (∀ w, valueAt kv' w = if w ∈ order.take k then none else valueAt kvs w)), ?_, ?_, ?_⟩
      . refine ⟨k4.del sj0, ?_, P.keep λ l vs z => ?_, ms, mb, m2, kvs, ?_, hkl, λ w => by rw [if_neg (by simp)]⟩
        . show qX Z4.H sj d = _
          rw [zv nsd]; exact kd
        . show qX Z4.H sj l = _
          rw [zv (zK z ks rfl)]; exact z
        . show qX Z4.H sj dj = _
          rw [zv nsdj]; exact kj
      . rintro k y Z5 hy ⟨k5, kd, P, ms, mb, m2, kv', kj, lk, hv⟩
        try dsimp only at k5 kd P ms mb m2 kj
        refine zH ?_
        have htk : order.take (k + 1) = order.take k ++ [y] := by rw [List.take_add_one, hy]; rfl
        have hny : y ∉ order.take k := λ q => by
          obtain ⟨i, hi⟩ := List.getElem?_of_mem q
          obtain ⟨h1, h2⟩ := List.getElem?_eq_some_iff.mp hi
          rw [List.length_take] at h1
          rw [List.getElem_take] at h2
          obtain ⟨h3, h4⟩ := List.getElem?_eq_some_iff.mp hy
          exact absurd (h2.trans h4.symm) (List.pairwise_iff_getElem.mp ond i k (by ac_nf) h3 (by ac_nf))
        have hky : (valueAt kvs y).isSome = true := key_mem.mp ((hxs y).mp (hperm.mem_iff.mp (List.mem_of_getElem? hy))).1
        walk_at "S"
        refine ex_DelSub ?_
        walk_at "S"
        refine del_sdict (kvs := kv') (by walk_at "H") (by ac_nf) (by rw [hv, if_neg hny]; exact hky) ?_
        walk_at "S"
        refine ⟨k5.turn hdj, ?_, P.keep λ l vs z => ?_, ?_, ?_, ?_, without kv' y, zA, ?_, λ w => ?_⟩
        . show zD Z5.H dj _ d = _
          rw [zE _ ndd]; exact kd
        . show zD Z5.H dj _ l = _
          rw [zE _ (zK z kj rfl)]; exact z
        . walk_at "m"
        . walk_at "m"
        . walk_at "m"
        . exact Nat.le_trans (List.length_filter_le _ _) lk
        . rw [valueAt_without, hv, htk]
          by_cases q : w = y
          . rw [if_pos q, if_pos (List.mem_append_right _ (List.mem_singleton.mpr q))]
          . rw [if_neg q]
            by_cases q2 : w ∈ order.take k
            . rw [if_pos q2, if_pos (List.mem_append_left _ q2)]
            . rw [if_neg q2, if_neg (λ z => by rcases List.mem_append.mp z with z | z; exact q2 z; exact q (List.mem_singleton.mp z))]
      . rintro Z5 ⟨k5, kd, P, ms, mb, m2, kv', kj, lk, hv⟩ hn
        have hn : Z5.H sj = none := hn
        try dsimp only at k5 kd P ms mb m2 kj
        rw [List.take_of_length_le (Nat.le_refl _)] at hv
        refine zq (qB (up9.to _ _ ⟨rfl, k5.turn sj0, zB hn kd, ?_, ?_, ms, mb⟩))
        . exact (P.keep (H' := zD Z5.H sj (.sset xs)) λ l vs z => zB hn z).fin hxs (zB hn kj) λ w => by rw [hv]; simp only [hperm.mem_iff]
        . exact (P.keep (H' := zD Z5.H sj (.sset xs)) λ l vs z => zB hn z).bj hxs zA
    . clear k3 kd kj ks P ms mb m2 mj mi
      rintro Z4 ⟨k4, kd, b2, bj, ms, mb⟩
      try dsimp only at k4 kd b2 bj ms mb
      walk_at "S"
      refine qd ?_
      walk_at "S"
      refine jT ?_
      refine yG (.type _) ?_
      refine call_set0s ?_
      intro pj hpj
      have hpj : Z4.H pj = none := hpj
      have k4x : Z4.H x = some (.inst 298 d) := k4 _ _ dx hx
      have npx := zS k4x hpj
      have npd := zS kd hpj
      walk_at "S"
      refine zt K.cls (by walk_at "H") (by walk_at "H") ?_ K.sa (K.no _ (by simp)) w2 (by decide)
      refine zH ?_
      have w3 := Within.set w2 (x := "bpopular") (v := .ref pj) (by simp [yl])
      have k4b : Z4.H bl = some (.list (zZ bs)) := k4 _ _ nbd hb
      have npb := zS k4b hpj
      walk_at "S"
      refine yp ?_
      walk_at "S"
      refine qe (vs := zZ bs) (by walk_at "H") (by simp only [zZ, List.length_map]; ac_nf) ?_
      walk_at "S"
      refine zo K.cls (by walk_at "H") zA (v := .bool true) (by walk_at "m") (by simp) ?_ K.ga (K.no _ (by simp))
      walk_at "S"
      refine zV ?_
      walk_at "S"
      rw [decide_eq_false (by simp only [zZ, List.length_map]; ac_nf)]
      refine zI ?_
      refine zI ?_
      walk_at "S"
      refine h _ _ dj sj ((k4.new hpj).at_) zA w3 hdj (by walk_at "m") (by walk_at "m") ?_ ?_ λ y h1 h2 h3 => ?_
      . obtain ⟨kv', q1, q2⟩ := b2
        refine ⟨kv', ?_, λ w => ?_⟩
        . show zD (zD Z4.H pj _) d _ dj = _
          walk_at "H"
        . rcases q2 w with q | ⟨q, l, q3, q4⟩
          . exact .inl q
          . refine .inr ⟨q, l, q3, ?_⟩
            show zD (zD Z4.H pj _) d _ l = _
            rw [zE _ (zK q4 kd rfl)]; exact zB hpj q4
      . obtain ⟨xs, q1, q2⟩ := bj
        refine ⟨xs, ?_, q2⟩
        show zD (zD Z4.H pj _) d _ sj = _
        walk_at "H"
      . rw [zX h3, zX h2, zX h1]
end
section
variable {X : Wd} {A : Around} {L fa : Addr} {S : St} {m : Str -> Option Value} {H : AH} {mS : Str -> Option Value}
def yw (X : Wd) (d : Addr) (H : AH) (f : Addr) (bs : List Str) (J : Str -> Bool) : Prop := ∀ A L S', Room A 3 -> zR d H S'.H -> ∀ w ∈ bs, ∀ Ψ : Value -> St -> Prop, (∀ H', zm S'.H H' -> Ψ (.bool (J w)) ⟨S'.m, H'⟩) -> zO X A L (.ref f) [.str w 0] S' Ψ
theorem yw.mono {d f : Addr} {H H' : AH} {bs : List Str} {J : Str -> Bool} (h : yw X d H f bs J) (k : zR d H H') : yw X d H' f bs J := λ A L S' r k' => h A L S' r (k.trans k')
theorem Within.no {mm : Str -> Option Value} (h : Within mm yl) {y : Str} (hy : y ∉ yl) : mm y = none := Classical.byContradiction λ z => hy (h y z)
structure FnAt (H : AH) (f : Addr) : Prop where
  at_ : ∃ (o : Obj) (fd : FuncData), H f = some (.raw o) /\ o.cls = .type "function" /\ o.data = .func fd
structure SMW (X : Wd) (mS : Str -> Option Value) : Prop where
  sys : qr X
  top : TopK X
  k : SMK X mS
  f : SMF X mS
  set_ : qG X mainGlobals builtinsNs "set" (.type "set")
  en : qG X mainGlobals builtinsNs "enumerate" (.type "enumerate")
  len : qG X mainGlobals builtinsNs "len" (.builtin "len")
theorem chain_call {x d bl f : Addr} {mm : Str -> Option Value} {bs : List Str} {J : Str -> Bool} {Φ : Value -> St -> Prop} (hA : Room A 4) (W : SMW X mS)
   (hx : S.H x = some (.inst 298 d)) (hd : S.H d = some (.attrs mm)) (hw : Within mm yl) (hmb : mm "b" = some (.ref bl)) (hmi : mm "isjunk" = some (.ref f)) (hmj : mm "autojunk" = some (.bool true))
   (hb : S.H bl = some (.list (zZ bs))) (lb : bs.length < 64) (hf : FnAt S.H f) (hjunk : yw X d S.H f bs J)
   (h : ∀ H' mm' dj sj, zR d S.H H' -> H' d = some (.attrs mm') -> Within mm' yl -> S.H dj = none -> mm' "b2j" = some (.ref dj) -> mm' "bjunk" = some (.ref sj) -> B2 H' dj bs J -> BJ H' sj bs J -> (∀ y : Str, y ≠ "b2j" -> y ≠ "bjunk" -> y ≠ "bpopular" -> mm' y = mm y) -> Φ .none ⟨S.m, H'⟩) :
   zO X A L (.ref 244) [.ref x] S Φ := by
  obtain ⟨fo, ffd, f1, f2, f3⟩ := hf.at_
  refine qT (names := ["self"]) W.f.dc (by have := hA.dp; ac_nf) (λ cs hcs => ?_) (by rfl) (by rfl) λ L' hL' => ?_
  . obtain ⟨c1, rfl, h1⟩ := yX hcs
    rfl
  . exact chain_body hA.hh W.sys W.k W.set_ W.en W.len rfl hx hd hw hmb hmi hmj hb lb f1 f2 f3 (λ S' k w hw' Ψ hΨ => hjunk _ _ S' (Room.deep (n := 3) hA) k w hw' Ψ hΨ) λ S' mm' dj sj k1 k2 k3 k4 k5 k6 k7 k8 k9 => h S'.H mm' dj sj k1 k2 k3 k4 k5 k6 k7 k8 k9
theorem seq2_body {x d bl' f : Addr} {mm : Str -> Option Value} {vb : Value} {bs : List Str} {J : Str -> Bool} {Φ : Flow -> St -> Prop} (hA : Room A 4) (W : SMW X mS) (mx : m "self" = some (.ref x)) (mb : m "b" = some (.ref bl'))
   (hx : H x = some (.inst 298 d)) (hd : H d = some (.attrs mm)) (hw : Within mm yl) (hmb : mm "b" = some vb) (hvb : vb = .none \/ ∃ bl us, vb = .ref bl /\ H bl = some (.list us) /\ bl ≠ bl') (hmi : mm "isjunk" = some (.ref f)) (hmj : mm "autojunk" = some (.bool true))
   (hb : H bl' = some (.list (zZ bs))) (lb : bs.length < 64) (hf : FnAt H f) (hjunk : yw X d H f bs J)
   (h : ∀ S' mm' dj sj, zR d H S'.H -> S'.H d = some (.attrs mm') -> Within mm' yl -> H dj = none -> mm' "b2j" = some (.ref dj) -> mm' "bjunk" = some (.ref sj) -> B2 S'.H dj bs J -> BJ S'.H sj bs J -> mm' "b" = some (.ref bl') -> mm' "matching_blocks" = some .none ->
     (∀ y : Str, y ∈ (["isjunk", "a", "autojunk"] : List Str) -> mm' y = mm y) -> Φ .next S') :
   Wp X A L (execs (bodyOf fSeq2) (callEnv fSeq2 L fa)) ⟨m, H⟩ Φ := by
  have dx : x ≠ d := zK hx hd rfl
  have bd : bl' ≠ d := zK hb hd rfl
  with_unfolding_all refine zM ?_
  walk_at "S"
  refine zo W.k.cls hx hd hmb (by rcases hvb with rfl | ⟨_, _, rfl, _⟩ <;> simp) ?_ W.k.ga (W.k.no _ (by simp))
  have key : Wp X A L (execs ((bodyOf fSeq2).drop 2) (callEnv fSeq2 L fa)) ⟨m, H⟩ Φ := by
    with_unfolding_all refine zM ?_
    walk_at "S"
    refine zt W.k.cls hx hd ?_ W.k.sa (W.k.no _ (by simp)) hw (by decide)
    walk_at "S"
    refine qd ?_
    walk_at "S"
    have w1 := Within.set hw (x := "b") (v := .ref bl') (by simp [yl])
    refine zt W.k.cls (by walk_at "H") zA ?_ W.k.sa (W.k.no _ (by simp)) w1 (by decide)
    walk_at "S"
    have w2 := Within.set w1 (x := "matching_blocks") (v := .none) (by simp [yl])
    refine zt W.k.cls (by walk_at "H") zA ?_ W.k.sa (W.k.no _ (by simp)) w2 (by decide)
    walk_at "S"
    have w3 := Within.set w2 (x := "opcodes") (v := .none) (by simp [yl])
    refine zt W.k.cls (by walk_at "H") zA ?_ W.k.sa (W.k.no _ (by simp)) w3 (by decide)
    have w4 := Within.set w3 (x := "fullbcount") (v := .none) (by simp [yl])
    have kd : zR d H (zD (zD (zD (zD H d (.attrs (zb mm "b" (.ref bl')))) d (.attrs (zb (zb mm "b" (.ref bl')) "matching_blocks" .none))) d (.attrs (zb (zb (zb mm "b" (.ref bl')) "matching_blocks" .none) "opcodes" .none))) d (.attrs (zb (zb (zb (zb mm "b" (.ref bl')) "matching_blocks" .none) "opcodes" .none) "fullbcount" .none))) := ((((zR.refl).at_).at_).at_).at_
    obtain ⟨fo, ffd, f1, f2, f3⟩ := hf.at_
    walk_at "S"
    refine zu W.k.cls W.f.dc (λ h o => W.f.fc 244 (by simp) h o) W.f.mc (by walk_at "H") zA (Within.no w4 (by decide)) ?_ W.k.ga W.k.gt (y := none) (by rw [typeLookup_type, builtinLookup_eq_fast]; kernel_rfl)
    refine yG (.fn W.f.dc) ?_
    refine chain_call hA W (kd _ _ dx hx) zA w4 (bl := bl') (f := f) (by walk_at "m") (by walk_at "m") (by walk_at "m") (kd _ _ bd hb) lb ⟨fo, ffd, kd _ _ (zK f1 hd rfl) f1, f2, f3⟩ (hjunk.mono kd) λ H' mm' dj sj k1 k2 k3 k4 k5 k6 k7 k8 k9 => ?_
    walk_at "S"
    refine h _ mm' dj sj (kd.trans k1) k2 k3 (kd.noneB (λ z => ?_) k4) k5 k6 k7 k8 ?_ ?_ λ y hy => ?_
    . rw [z] at k4
      exact absurd (k4.symm.trans zA) (by simp)
    . rw [k9 _ (by decide) (by decide) (by decide)]; walk_at "m"
    . rw [k9 _ (by decide) (by decide) (by decide)]; walk_at "m"
    . simp only [List.mem_cons, List.not_mem_nil, or_false] at hy
      rcases hy with rfl | rfl | rfl
      . rw [k9 _ (by decide) (by decide) (by decide), zX (by decide), zX (by decide), zX (by decide), zX (by decide)]
      . rw [k9 _ (by decide) (by decide) (by decide), zX (by decide), zX (by decide), zX (by decide), zX (by decide)]
      . rw [k9 _ (by decide) (by decide) (by decide), zX (by decide), zX (by decide), zX (by decide), zX (by decide)]
  rcases hvb with rfl | ⟨bl, us, rfl, hbl, hne⟩
  . refine cmp_isRefNone ?_
    refine zd ?_
    refine zI (qB ?_)
    with_unfolding_all exact key
  . refine cmp_isList hb hbl ?_
    refine zd ?_
    rw [decide_eq_false (λ z => hne z.symm)]
    refine zI (qB ?_)
    with_unfolding_all exact key
theorem seq2_same {x d bl' : Addr} {mm : Str -> Option Value} {us : List Value} {Φ : Value -> St -> Prop} (hA : Room A 1) (W : SMW X mS)
   (hx : S.H x = some (.inst 298 d)) (hd : S.H d = some (.attrs mm)) (hmb : mm "b" = some (.ref bl')) (hb : S.H bl' = some (.list us)) (h : Φ .none S) : zO X A L (.ref 237) [.ref x, .ref bl'] S Φ := by
  refine qT (names := ["self", "b"]) W.f.d2 (by have := hA.dp; ac_nf) (λ cs hcs => ?_) (by rfl) (by rfl) λ L' hL' => ?_
  . obtain ⟨c1, c2, rfl, h1, h2⟩ := map2 hcs
    rfl
  . with_unfolding_all refine zM ?_
    walk_at "S"
    refine zo W.k.cls hx hd hmb (by simp) ?_ W.k.ga (W.k.no _ (by simp))
    refine cmp_isList hb hb ?_
    refine zd ?_
    rw [decide_eq_true rfl]
    refine zV ?_
    walk_at "S"
    exact h
theorem seq2_call {x d bl' f : Addr} {mm : Str -> Option Value} {vb : Value} {bs : List Str} {J : Str -> Bool} {Φ : Value -> St -> Prop} (hA : Room A 5) (W : SMW X mS)
   (hx : S.H x = some (.inst 298 d)) (hd : S.H d = some (.attrs mm)) (hw : Within mm yl) (hmb : mm "b" = some vb) (hvb : vb = .none \/ ∃ bl us, vb = .ref bl /\ S.H bl = some (.list us) /\ bl ≠ bl') (hmi : mm "isjunk" = some (.ref f)) (hmj : mm "autojunk" = some (.bool true))
   (hb : S.H bl' = some (.list (zZ bs))) (lb : bs.length < 64) (hf : FnAt S.H f) (hjunk : yw X d S.H f bs J)
   (h : ∀ H' mm' dj sj, zR d S.H H' -> H' d = some (.attrs mm') -> Within mm' yl -> S.H dj = none -> mm' "b2j" = some (.ref dj) -> mm' "bjunk" = some (.ref sj) -> B2 H' dj bs J -> BJ H' sj bs J -> mm' "b" = some (.ref bl') -> mm' "matching_blocks" = some .none ->
     (∀ y : Str, y ∈ (["isjunk", "a", "autojunk"] : List Str) -> mm' y = mm y) -> Φ .none ⟨S.m, H'⟩) :
   zO X A L (.ref 237) [.ref x, .ref bl'] S Φ := by
  refine qT (names := ["self", "b"]) W.f.d2 (by have := hA.dp; ac_nf) (λ cs hcs => ?_) (by rfl) (by rfl) λ L' hL' => ?_
  . obtain ⟨c1, c2, rfl, h1, h2⟩ := map2 hcs
    rfl
  . exact seq2_body (Room.deep (n := 4) hA) W rfl rfl hx hd hw hmb hvb hmi hmj hb lb hf hjunk λ S' mm' dj sj k1 k2 k3 k4 k5 k6 k7 k8 k9 k10 k11 => h S'.H mm' dj sj k1 k2 k3 k4 k5 k6 k7 k8 k9 k10 k11
end
section
variable {X : Wd} {A : Around} {L fa : Addr} {S : St} {m : Str -> Option Value} {H : AH} {mS : Str -> Option Value}
structure SMI (H : AH) (x d : Addr) (mm : Str -> Option Value) (f al bl dj sj : Addr) (as bs : List Str) (J : Str -> Bool) : Prop where
  r : SMR H x d mm al bl dj sj as bs J
  w : Within mm yl
  ij : mm "isjunk" = some (.ref f)
  au : mm "autojunk" = some (.bool true)
theorem seqs_call {x d al bl f : Addr} {mm : Str -> Option Value} {as bs : List Str} {J : Str -> Bool} {Φ : Value -> St -> Prop} (hA : Room A 6) (W : SMW X mS)
   (hx : S.H x = some (.inst 298 d)) (hd : S.H d = some (.attrs mm)) (hw : Within mm yl) (hma : mm "a" = some .none) (hmb : mm "b" = some .none) (hmi : mm "isjunk" = some (.ref f)) (hmj : mm "autojunk" = some (.bool true))
   (ha : S.H al = some (.list (zZ as))) (hb : S.H bl = some (.list (zZ bs))) (lb : bs.length < 64) (hf : FnAt S.H f) (hjunk : yw X d S.H f bs J)
   (h : ∀ H' mm' dj sj, zR d S.H H' -> S.H dj = none -> SMI H' x d mm' f al bl dj sj as bs J -> mm' "matching_blocks" = some .none -> Φ .none ⟨S.m, H'⟩) :
   zO X A L (.ref 223) [.ref x, .ref al, .ref bl] S Φ := by
  have dx : x ≠ d := zK hx hd rfl
  have ad : al ≠ d := zK ha hd rfl
  have bd : bl ≠ d := zK hb hd rfl
  obtain ⟨fo, ffd, f1, f2, f3⟩ := hf.at_
  have fd : f ≠ d := zK f1 hd rfl
  refine qT (names := ["self", "a", "b"]) W.f.ds (by have := hA.dp; ac_nf) (λ cs hcs => ?_) (by rfl) (by rfl) λ L' hL' => ?_
  . obtain ⟨c1, c2, c3, rfl, h1, h2, h3⟩ := map3 hcs
    rfl
  . have hA' : Room (A.deeper (callEnv fSeqs L' 223)) 5 := Room.deep hA
    with_unfolding_all refine zM ?_
    walk_at "S"
    refine zu W.k.cls W.f.d1 (λ h o => W.f.fc 230 (by simp) h o) W.f.m1 hx hd (Within.no hw (by decide)) ?_ W.k.ga W.k.gt (y := none) (by rw [typeLookup_type, builtinLookup_eq_fast]; kernel_rfl)
    refine zW (.fn W.f.d1) ?_
    walk_at "S"
    refine seq1_call (hA'.less (by ac_nf)) W.k W.f hx hd hw hma (.inl rfl) ha λ H' mm' k1 k2 k3 k4 k5 k6 k7 => ?_
    have e1 : mm' "b" = some .none := by rw [k7 _ (by decide) (by decide) (by decide)]; exact hmb
    have e2 : mm' "isjunk" = some (.ref f) := by rw [k7 _ (by decide) (by decide) (by decide)]; exact hmi
    have e3 : mm' "autojunk" = some (.bool true) := by rw [k7 _ (by decide) (by decide) (by decide)]; exact hmj
    walk_at "S"
    refine zu W.k.cls W.f.d2 (λ h o => W.f.fc 237 (by simp) h o) W.f.m2 (k1 _ _ dx hx) k2 (Within.no k4 (by decide)) ?_ W.k.ga W.k.gt (y := none) (by rw [typeLookup_type, builtinLookup_eq_fast]; kernel_rfl)
    refine zW (.fn W.f.d2) ?_
    walk_at "S"
    refine seq2_call hA' W (k1 _ _ dx hx) k2 k4 e1 (.inl rfl) e2 e3 (k1 _ _ bd hb) lb ⟨fo, ffd, k1 _ _ fd f1, f2, f3⟩ (hjunk.mono k1) λ H'' mm'' dj sj q1 q2 q3 q4 q5 q6 q7 q8 q9 q10 q11 => ?_
    walk_at "S"
    have hdj : dj ≠ d := λ z => by rw [z] at q4; exact absurd (q4.symm.trans k2) (by simp)
    exact h H'' mm'' dj sj (k1.trans q1) (k1.noneB hdj q4) ⟨⟨(k1.trans q1) _ _ dx hx, q2, by rw [q11 _ (by simp)]; exact k5, q9, q5, q6, (k1.trans q1) _ _ ad ha, (k1.trans q1) _ _ bd hb, q7, q8⟩, q3, by rw [q11 _ (by simp)]; exact e2, by rw [q11 _ (by simp)]; exact e3⟩ q10
theorem init_call {x d al bl f : Addr} {as bs : List Str} {J : Str -> Bool} {Φ : Value -> St -> Prop} (hA : Room A 7) (W : SMW X mS)
   (hx : S.H x = some (.inst 298 d)) (hd : S.H d = some (.attrs λ o_ => none))
   (ha : S.H al = some (.list (zZ as))) (hb : S.H bl = some (.list (zZ bs))) (lb : bs.length < 64) (hf : FnAt S.H f) (hjunk : yw X d S.H f bs J)
   (h : ∀ H' mm' dj sj, zR d S.H H' -> S.H dj = none -> SMI H' x d mm' f al bl dj sj as bs J -> mm' "matching_blocks" = some .none -> Φ .none ⟨S.m, H'⟩) :
   zO X A L (.ref 216) [.ref x, .ref f, .ref al, .ref bl] S Φ := by
  have dx : x ≠ d := zK hx hd rfl
  have ad : al ≠ d := zK ha hd rfl
  have bd : bl ≠ d := zK hb hd rfl
  obtain ⟨fo, ffd, f1, f2, f3⟩ := hf.at_
  have fd : f ≠ d := zK f1 hd rfl
  refine call_of_K (call_fn2 (names := ["self", "isjunk", "a", "b", "autojunk"]) (vals := [.ref x, .ref f, .ref al, .ref bl, .bool true]) W.f.di (by have := hA.dp; ac_nf) (λ cs ks s hcs hks hk => ?_) (by rfl) (by rfl) λ L' hL' => ?_)
  . obtain ⟨c1, c2, c3, c4, rfl, _⟩ := args4 hcs
    rw [List.map_eq_nil_iff.mp hks]
    refine ⟨[c1, c2, c3, c4, .bool true], ?_, BindsTo.of_defaults (T := 209) (o := k209 X.w.params) rfl (W.top.frag _ hk _ _ (by rfl)) rfl rfl rfl⟩
    show [c1, c2, c3, c4].map er ++ [.bool true] = _
    rw [hcs]; rfl
  . have hA' : Room (A.deeper (callEnv fSInit L' 216)) 6 := Room.deep hA
    with_unfolding_all refine zM ?_
    walk_at "S"
    have w0 : Within (λ o_ => none) yl := λ y hy => absurd rfl hy
    refine zt W.k.cls hx hd ?_ W.k.sa (W.k.no _ (by simp)) w0 (by decide)
    walk_at "S"
    refine qd ?_
    walk_at "S"
    have w1 := Within.set w0 (x := "isjunk") (v := .ref f) (by simp [yl])
    refine zt W.k.cls (by walk_at "H") zA ?_ W.k.sa (W.k.no _ (by simp)) w1 (by decide)
    walk_at "S"
    have w2 := Within.set w1 (x := "a") (v := .none) (by simp [yl])
    refine zt W.k.cls (by walk_at "H") zA ?_ W.k.sa (W.k.no _ (by simp)) w2 (by decide)
    walk_at "S"
    have w3 := Within.set w2 (x := "b") (v := .none) (by simp [yl])
    refine zt W.k.cls (by walk_at "H") zA ?_ W.k.sa (W.k.no _ (by simp)) w3 (by decide)
    have w4 := Within.set w3 (x := "autojunk") (v := .bool true) (by simp [yl])
    have kd : zR d S.H (zD (zD (zD (zD S.H d (.attrs (zb (λ o_ => none) "isjunk" (.ref f)))) d (.attrs (zb (zb (λ o_ => none) "isjunk" (.ref f)) "a" .none))) d (.attrs (zb (zb (zb (λ o_ => none) "isjunk" (.ref f)) "a" .none) "b" .none))) d (.attrs (zb (zb (zb (zb (λ o_ => none) "isjunk" (.ref f)) "a" .none) "b" .none) "autojunk" (.bool true)))) := ((((zR.refl).at_).at_).at_).at_
    walk_at "S"
    refine zu W.k.cls W.f.ds (λ h o => W.f.fc 223 (by simp) h o) W.f.ms (by walk_at "H") zA (Within.no w4 (by decide)) ?_ W.k.ga W.k.gt (y := none) (by rw [typeLookup_type, builtinLookup_eq_fast]; kernel_rfl)
    refine zW (.fn W.f.ds) ?_
    walk_at "S"
    refine seqs_call hA' W (kd _ _ dx hx) zA w4 (f := f) (by walk_at "m") (by walk_at "m") (by walk_at "m") (by walk_at "m") (kd _ _ ad ha) (kd _ _ bd hb) lb ⟨fo, ffd, kd _ _ fd f1, f2, f3⟩ (hjunk.mono kd) λ H' mm' dj sj k1 k2 k3 k4 => ?_
    walk_at "S"
    refine h _ mm' dj sj (kd.trans k1) (kd.noneB (λ z => ?_) k2) k3 k4
    rw [z] at k2
    exact absurd (k2.symm.trans zA) (by simp)
theorem sm_make {al bl f : Addr} {as bs : List Str} {J : Str -> Bool} {Φ : Value -> St -> Prop} (hA : Room A 8) (W : SMW X mS)
   (ha : S.H al = some (.list (zZ as))) (hb : S.H bl = some (.list (zZ bs))) (lb : bs.length < 64) (hf : FnAt S.H f) (hjunk : ∀ d, S.H d = none -> yw X d S.H f bs J)
   (h : ∀ H' x d mm' dj sj, zm S.H H' -> S.H d = none -> S.H dj = none -> SMI H' x d mm' f al bl dj sj as bs J -> mm' "matching_blocks" = some .none -> Φ (.ref x) ⟨S.m, H'⟩) :
   zO X A L (.ref 298) [.ref f, .ref al, .ref bl] S Φ := by
  refine call_cls W.k.cls W.f.mi W.f.di (λ h o => W.f.fc 216 (by simp) h o) (n := 7) hA λ A' hA' x d hx hd hxd => ?_
  have E : zm S.H (zD (zD S.H d (.attrs λ o_ => none)) x (.inst 298 d)) := λ b o q => by
    rw [zE _ (zS q hx), zE _ (zS q hd)]; exact q
  have k : zR d S.H (zD (zD S.H d (.attrs λ o_ => none)) x (.inst 298 d)) := λ b o o_ q => E _ _ q
  have hdd : zD (zD S.H d (.attrs λ o_ => none)) x (.inst 298 d) d = some (.attrs λ o_ => none) := by
    rw [zE _ (Ne.symm hxd), jF]
  obtain ⟨fo, ffd, f1, f2, f3⟩ := hf.at_
  refine init_call hA' W (d := d) zA hdd (E _ _ ha) (E _ _ hb) lb ⟨fo, ffd, E _ _ f1, f2, f3⟩ ((hjunk d hd).mono k) λ H' mm' dj sj k1 k2 k3 k4 => ?_
  exact ⟨rfl, h H' x d mm' dj sj (zR.fresh (x := 0) (k.trans k1) hd) hd (E.none k2) k3 k4⟩
theorem find_call {x d al bl dj sj : Addr} {mm : Str -> Option Value} {as bs : List Str} {J : Str -> Bool} {p0 p1 q0 q1 : Nat} {Φ : Value -> St -> Prop} (hA : Room A 4) (W : SMW X mS) (hr : qG X mainGlobals builtinsNs "range" (.type "range")) (htup : qG X mainGlobals builtinsNs "tuple" (.type "tuple")) (hM : yg X mainGlobals "Match" (.ref 191)) (DM : IsDef X 138 fMNew (bodyOf fMNew))
   (R : SMR S.H x d mm al bl dj sj as bs J) (h0p : p0 <= p1) (h0q : q0 <= q1) (hp : p1 <= as.length) (hq : q1 <= bs.length) (la : as.length < 64) (lb : bs.length < 64)
   (h : ∀ i j n H' t, Res as bs J p0 p1 q0 q1 i j n -> zm S.H H' -> H' t = some (.mt 191 [.int i 0, .int j 0, .int n 0]) -> Φ (.ref t) ⟨S.m, H'⟩) : zO X A L (.ref 252) [.ref x, .int p0 0, .int p1 0, .int q0 0, .int q1 0] S Φ := by
  refine call_of_K (call_fn2 (names := ["self", "alo", "ahi", "blo", "bhi"]) (vals := [.ref x, .int p0 0, .int p1 0, .int q0 0, .int q1 0]) W.f.df (by have := hA.dp; ac_nf) (λ cs ks s hcs hks hk => ?_) (by rfl) (by rfl) λ L' hL' => ?_)
  . obtain ⟨c1, c2, c3, c4, c5, rfl, _⟩ := args5 hcs
    rw [List.map_eq_nil_iff.mp hks]
    exact ⟨[c1, c2, c3, c4, c5], hcs, BindsTo.of_defaults (T := 245) (o := k245 X.w.params) rfl (W.top.frag _ hk _ _ (by rfl)) rfl rfl rfl⟩
  . refine find_body (Room.deep (n := 3) hA) W.top W.sys W.k hr hM rfl rfl rfl rfl rfl R h0p h0q hp hq la lb λ i j n S' hR E => ?_
    exact call_Match W.top ((Room.deep (n := 3) hA).less (by ac_nf)) DM htup λ H' t E' ht c hc => by
      have := h i j n H' t hR (E.trans E') ht
      rw [<- hc] at this
      exact this
end
section
variable {X : Wd} {A : Around} {L fa : Addr} {S : St} {m : Str -> Option Value} {H : AH} {mS : Str -> Option Value}
structure MtW (X : Wd) (NM : Addr) (mM : Str -> Option Value) : Prop where
  g : yg X mainGlobals "Match" (.ref 191)
  n : IsDef X 138 fMNew (bodyOf fMNew)
  dm : IsDef X 145 fMMake (bodyOf fMMake)
  tup : qG X mainGlobals builtinsNs "tuple" (.type "tuple")
  range : qG X mainGlobals builtinsNs "range" (.type "range")
  list : qG X mainGlobals builtinsNs "list" (.type "list")
  map : qG X mainGlobals builtinsNs "map" (.type "map")
inductive GB (H0 : AH) (x qa mb : Addr) (la lb : Nat) (found : List qA) (boxes : List yx) (S : St) : Prop
  | mk (ext : zm H0 S.H) (mx : S.m "self" = some (.ref x)) (mla : S.m "la" = some (.int la 0)) (mlb : S.m "lb" = some (.int lb 0)) (mq : S.m "queue" = some (.ref qa)) (mm : S.m "matching_blocks" = some (.ref mb)) (hq : ∃ qvs, S.H qa = some (.list qvs) /\ qY S.H qvs (boxes.map qU)) (hm : ∃ mvs, S.H mb = some (.list mvs) /\ Rows S.H true mvs (found.map qJ))
structure GQ (H0 : AH) (x qa mb : Addr) (la lb : Nat) (found : List qA) (boxes : List yx) (p0 p1 q0 q1 i j n : Nat) (S : St) : Prop where
  B : GB H0 x qa mb la lb found boxes S
  m1 : S.m "alo" = some (.int p0 0)
  m2 : S.m "ahi" = some (.int p1 0)
  m3 : S.m "blo" = some (.int q0 0)
  m4 : S.m "bhi" = some (.int q1 0)
  m5 : S.m "i" = some (.int i 0)
  m6 : S.m "j" = some (.int j 0)
  m7 : S.m "k" = some (.int n 0)
inductive GR (H0 : AH) (x qa mb : Addr) (la lb : Nat) (found : List qA) (boxes : List yx) (p0 p1 q0 q1 i j n : Nat) (r : Addr) (S : St) : Prop
  | mk (Q : GQ H0 x qa mb la lb found boxes p0 p1 q0 q1 i j n S) (m8 : S.m "x" = some (.ref r)) (hr : S.H r = some (.mt 191 [.int i 0, .int j 0, .int n 0]))
inductive NA (H0 : AH) (x na : Addr) (la lb : Nat) (S : St) : Prop
  | mk (ext : zm H0 S.H) (mx : S.m "self" = some (.ref x)) (mla : S.m "la" = some (.int la 0)) (mlb : S.m "lb" = some (.int lb 0)) (mna : S.m "non_adjacent" = some (.ref na))
inductive K1 (i j k : Nat) (S : St) : Prop
  | mk (hi : S.m "i1" = some (.int i 0)) (hj : S.m "j1" = some (.int j 0)) (hk : S.m "k1" = some (.int k 0))
inductive K2 (i j k : Nat) (S : St) : Prop
  | mk (hi : S.m "i2" = some (.int i 0)) (hj : S.m "j2" = some (.int j 0)) (hk : S.m "k2" = some (.int k 0))
theorem qY.snocF {H : AH} {β : Type} {vs : List Value} {f : β -> List Int} {l : List β} {z : β} {a : Addr} (h : qY H vs (l.map f)) (e : H a = some (.tup (.type "tuple") (qo (f z)))) : qY H (vs ++ [.ref a]) ((l ++ [z]).map f) := by
  rw [List.map_append]; exact qY.snoc h e
theorem fuel_less {bs : List yx} {l r : yx} (bl br : Bool) : yh ((bs ++ if bl then [l] else []) ++ if br then [r] else []) <= yh (bs ++ [l] ++ [r]) := by
  unfold yh qt
  cases bl <;> cases br <;> simp <;> ac_nf
theorem blk_body {x d al bl dj sj : Addr} {mm : Str -> Option Value} {as bs : List Str} {J : Str -> Bool} {NM : Addr} {mM : Str -> Option Value} {Φ : Flow -> St -> Prop} (hA : Room A 5) (W : SMW X mS) (MW : MtW X NM mM)
   (mx : m "self" = some (.ref x)) (R : SMR H x d mm al bl dj sj as bs J) (hw : Within mm yl) (hmb : mm "matching_blocks" = some .none) (la : as.length < 64) (lb : bs.length < 64)
   (h : ∀ S' mm' D vs out, Told as bs J out -> out.length <= 65 -> zR d H S'.H -> S'.H d = some (.attrs mm') -> Within mm' yl -> (∀ y : Str, y ≠ "matching_blocks" -> mm' y = mm y) -> S'.H D = some (.list vs) -> Rows S'.H true vs (out.map qJ) -> ∀ c, er c = .ref D -> Φ (.ret c) S') :
   Wp X A L (execs (bodyOf fBlk) (callEnv fBlk L fa)) ⟨m, H⟩ Φ := by
  have hszl : sizeLine = 2 ^ 24 := rfl
  have T := W.top
  have hlen := W.len
  have R0 := R
  obtain ⟨ox, od, ma, mb, m2, mj, ha, hb, -, -⟩ := R
  with_unfolding_all refine zM ?_
  walk_at "S"
  refine zo W.k.cls ox od hmb (by simp) ?_ W.k.ga (W.k.no _ (by simp))
  walk_at "S"
  refine cmp_isNotNone (.inl rfl) ?_
  refine zd ?_
  rw [show (!(Value.none == Value.none)) = false by rfl]
  refine zI (qB ?_)
  refine zM ?_
  refine qZ (names := ["la", "lb"]) hA.hh ?_
  walk_at "S"
  refine yp ?_
  walk_at "S"
  refine zo W.k.cls ox od ma (by simp) ?_ W.k.ga (W.k.no _ (by simp))
  walk_at "S"
  refine qe ha (by simp only [zZ, List.length_map]; ac_nf) ?_
  walk_at "S"
  refine yp ?_
  walk_at "S"
  refine zo W.k.cls ox od mb (by simp) ?_ W.k.ga (W.k.no _ (by simp))
  walk_at "S"
  refine qe hb (by simp only [zZ, List.length_map]; ac_nf) ?_
  walk_at "S"
  refine ⟨show 2 <= sizeLine by decide, ?_⟩
  intro t2 ht2
  have ht2 : H t2 = none := ht2
  refine ⟨t2, _, rfl, zA, rfl, ?_⟩
  refine (?_ : Wp _ _ _ (execs _ _) _ _)
  have ela : ((zZ as).length : Int) = (as.length : Int) := by simp only [zZ, List.length_map]
  have elb : ((zZ bs).length : Int) = (bs.length : Int) := by simp only [zZ, List.length_map]
  rw [ela, elb]
  refine Wp.abs (λ S => A4 (zm H S.H) (S.m "self" = some (.ref x)) (S.m "la" = some (.int as.length 0)) (S.m "lb" = some (.int bs.length 0))) ?_ ?_
  . exact ⟨(zm.refl H).new ht2, mx, rfl, rfl⟩
  clear mx ht2
  rintro Z1 ⟨E, mx, mla, mlb⟩
  try dsimp only at E mx mla mlb
  walk_at "S"
  refine ⟨show 4 <= sizeLine by decide, ?_⟩
  intro b0 hb0
  have hb0 : Z1.H b0 = none := hb0
  walk_at "S"
  refine ⟨show 1 <= sizeLine by decide, ?_⟩
  intro qa hqa
  walk_at "S"
  refine ⟨show 0 <= sizeLine by decide, ?_⟩
  intro ml hml
  have hqa : zD Z1.H b0 (.tup (.type "tuple") [.int 0 0, .int as.length 0, .int 0 0, .int bs.length 0]) qa = none := hqa
  have hml : zD (zD Z1.H b0 (.tup (.type "tuple") [.int 0 0, .int as.length 0, .int 0 0, .int bs.length 0])) qa (.list [.ref b0]) ml = none := hml
  have q1 := zF hqa
  have q2 := zF hml
  have q3 := zF q2.2
  have nq0 : H qa = none := E.none q1.2
  have nm0 : H ml = none := E.none q3.2
  have qm : qa ≠ ml := Ne.symm q2.1
  have bq : b0 ≠ qa := Ne.symm q1.1
  have bm : b0 ≠ ml := Ne.symm q3.1
  refine (?_ : Wp _ _ _ (execs _ _) _ _)
  refine qH (λ S => ∃ found, GB H x qa ml as.length bs.length found [] S /\ Work as bs J found []) ?_ ?_
  . intro Φ1 up1
    refine qi (λ f S => ∃ found boxes, A3 (f = yh boxes) (GB H x qa ml as.length bs.length found boxes S) (Work as bs J found boxes)) _ ⟨[], [(0, as.length, 0, bs.length)], rfl, ⟨((E.new hb0).new hqa).new hml, mx, mla, mlb, rfl, rfl, ⟨[.ref b0], by walk_at "H", qY.snoc (vs := []) (rows := []) (is := qU (0, as.length, 0, bs.length)) Refs.nil ?_⟩, ⟨[], by walk_at "H", Rows.nil⟩⟩, Work.start⟩ ?_
    . show _ = some (AO.tup _ [.int 0 0, .int (as.length : Int) 0, .int 0 0, .int (bs.length : Int) 0])
      walk_at "H"
    clear E mx mla mlb hb0 hqa hml q1 q2 q3
    rintro f Ψ Φ2 u1 u2 up2 Z2 ⟨found, boxes, hf, B, Wk⟩
    obtain ⟨E, mx, mla, mlb, mq, mm', ⟨qvs, hq, rq⟩, ⟨mvs, hm, rm⟩⟩ := B
    try dsimp only at E mx mla mlb mq mm' hq rq hm rm
    have lq := rq.lenT
    rw [List.length_map] at lq
    have lm := rm.len
    rw [List.length_map] at lm
    have hfew := Wk.few
    walk_at "S"
    refine tru_list (by walk_at "H") (by ac_nf) ?_
    rcases List.eq_nil_or_concat boxes with rfl | ⟨boxes, box, rfl⟩
    . have hz : qvs = [] := List.length_eq_zero_iff.mp lq
      subst hz
      exact u2 _ (up1.to _ _ ⟨rfl, found, ⟨E, mx, mla, mlb, mq, mm', ⟨[], hq, rq⟩, ⟨mvs, hm, rm⟩⟩, Wk⟩)
    rw [List.concat_eq_append] at rq Wk hf lq hfew
    rw [List.map_append] at rq
    obtain ⟨p0, p1, q0, q1⟩ := box
    obtain ⟨us, t, rfl, ht, rq'⟩ := qY.last (is := qU (p0, p1, q0, q1)) rq
    have ht : Z2.H t = some (.tup (.type "tuple") [.int p0 0, .int p1 0, .int q0 0, .int q1 0]) := ht
    have hbx := Wk.box _ (List.mem_append_right _ List.mem_cons_self)
    try dsimp only at hbx
    rw [show (!(us ++ [Value.ref t]).isEmpty) = true by simp]
    refine u1 _ ?_
    refine zM ?_
    walk_at "S"
    refine meth_pop (by walk_at "H") ?_
    refine yG (.builtin _) ?_
    have lq' := rq'.lenT
    rw [List.length_map] at lq'
    rw [List.length_append, List.length_singleton] at hfew
    refine call_pop (by walk_at "H") (by ac_nf) ?_
    have tq : t ≠ qa := zK ht hq rfl
    refine jI hA.hh (a := t) (vs := [.int p0 0, .int p1 0, .int q0 0, .int q1 0]) (by walk_at "H") rfl ?_
    refine zG (zH ?_)
    refine zG (zH ?_)
    refine zG (zH ?_)
    refine zG (zH ?_)
    refine zy ?_
    have E3 : zm H (zD Z2.H qa (.list us)) := E.turn nq0
    have rq3 : qY (zD Z2.H qa (.list us)) us (boxes.map qU) := rq'.putl hq
    have rm3 : Rows (zD Z2.H qa (.list us)) true mvs (found.map qJ) := rm.putl hq
    have hm3 : zD Z2.H qa (.list us) ml = some (.list mvs) := by walk_at "H"
    have hq3 : zD Z2.H qa (.list us) qa = some (.list us) := zA
    refine zM ?_
    refine qd ?_
    walk_at "S"
    refine zu W.k.cls W.f.df (λ h o => W.f.fc 252 (by simp) h o) W.f.mf (E3.get ox) (E3.get od) (Within.no hw (by decide)) ?_ W.k.ga W.k.gt (y := none) (by rw [typeLookup_type, builtinLookup_eq_fast]; kernel_rfl)
    refine zW (.fn W.f.df) ?_
    walk_at "S"
    refine find_call (hA.less (by ac_nf)) W MW.range MW.tup MW.g MW.n (R0.of_ext E3) hbx.1 hbx.2.2.1 hbx.2.1 hbx.2.2.2 la lb λ i j n H' r hres E' hr => ?_
    refine asg_M T hA.hh hr rfl ?_
    refine zG (zH ?_)
    refine zG (zH ?_)
    refine zG (zH ?_)
    refine zy ?_
    refine zH ?_
    refine Wp.abs (λ S => GR H x qa ml as.length bs.length found boxes p0 p1 q0 q1 i j n r S) ?_ ?_
    . exact ⟨⟨⟨E3.trans E', mx, mla, mlb, mq, mm', ⟨us, E'.get hq3, Refs.of_ext rq3 E'⟩, ⟨mvs, E'.get hm3, rm3.of_ext E'⟩⟩, rfl, rfl, rfl, rfl, rfl, rfl, rfl⟩, rfl, hr⟩
    clear E3 rq3 rm3 hm3 hq3 E' hr E mx mla mlb mq mm' hq rq hm rm ht rq' tq lm
    rintro Z3 ⟨⟨B, m1, m2, m3, m4, m5, m6, m7⟩, m8, hr⟩
    have B0 := B
    obtain ⟨E, mx, mla, mlb, mq, mm', ⟨qvs, hq, rq⟩, ⟨mvs, hm, rm⟩⟩ := B
    try dsimp only at E mx mla mlb mq mm' hq rq hm rm m1 m2 m3 m4 m5 m6 m7 m8 hr
    have lq := rq.lenT
    rw [List.length_map] at lq
    have lm := rm.len
    rw [List.length_map] at lm
    walk_at "S"
    refine tru_int ?_
    refine qO (λ hn => ?_) (λ hn => ?_)
    . have hn : 0 < n := by have := bne_iff_ne.mp hn; ac_nf
      obtain ⟨W2, hw2, c1, c2, c3, c4⟩ := Wk.both hres hn
      have htot := W2.tot
      rw [sizes_app, sizes_one] at htot
      have hfound : found.length <= 63 := by ac_nf
      refine zM ?_
      walk_at "S"
      refine zT (by walk_at "H") ?_
      refine zW (.builtin _) ?_
      walk_at "S"
      refine zU (by walk_at "H") (by ac_nf) ?_
      refine (?_ : Wp _ _ _ (execs _ _) _ _)
      refine Wp.abs (λ S => GQ H x qa ml as.length bs.length (found ++ [(i, j, n)]) boxes p0 p1 q0 q1 i j n S) ?_ ?_
      . have rm1 : r ≠ ml := zK hr hm rfl
        refine ⟨⟨E.turn nm0, mx, mla, mlb, mq, mm', ⟨qvs, (zE _ qm).trans hq, rq.putl hm⟩, ⟨mvs ++ [.ref r], zA, ?_⟩⟩, m1, m2, m3, m4, m5, m6, m7⟩
        rw [List.map_append]
        exact (rm.putl hm).snoc (is := qJ (i, j, n)) ((zE _ rm1).trans hr)
      clear E mx mla mlb mq mm' hq rq hm rm m1 m2 m3 m4 m5 m6 m7 m8 hr B0 lq lm
      rintro S4z G4
      refine qH (λ S => GQ H x qa ml as.length bs.length (found ++ [(i, j, n)]) (boxes ++ if decide (p0 < i /\ q0 < j) = true then [(p0, i, q0, j)] else []) p0 p1 q0 q1 i j n S) ?_ ?_
      . intro Φ3 up3
        obtain ⟨m4z, H4⟩ := S4z
        have G4' := G4
        obtain ⟨⟨E, mx, mla, mlb, mq, mm', ⟨qvs, hq, rq⟩, ⟨mvs, hm, rm⟩⟩, m1, m2, m3, m4, m5, m6, m7⟩ := G4
        try dsimp only at E mx mla mlb mq mm' hq rq hm rm m1 m2 m3 m4 m5 m6 m7
        have lq := rq.lenT
        rw [List.length_map] at lq
        refine ex_If ?_
        refine yW (p0 < i /\ q0 < j) ?_ (λ hok => zV ?_) (λ hno => zI ?_)
        . walk_at "S"
          refine zN (λ h1 => ?_) (λ h1 => ⟨rfl, zY λ z => h1 (Int.ofNat_lt.mpr z.1)⟩)
          walk_at "S"
          refine zN (λ h2 => ?_) (λ h2 => ⟨rfl, zY λ z => h2 (Int.ofNat_lt.mpr z.2)⟩)
          walk_at "S"
          exact ⟨rfl, qz ⟨Int.ofNat_lt.mp h1, Int.ofNat_lt.mp h2⟩⟩
        . walk_at "S"
          refine zT (by walk_at "H") ?_
          refine zW (.builtin _) ?_
          walk_at "S"
          refine ⟨show 4 <= sizeLine by decide, ?_⟩
          intro u hu
          have hu : H4 u = none := hu
          walk_at "S"
          refine zU (vs := qvs) (by walk_at "H") (by ac_nf) ?_
          have uq : u ≠ qa := λ q => by rw [q, hq] at hu; cases hu
          refine zq (qB (up3.to _ _ ⟨rfl, ⟨(E.new hu).turn nq0, mx, mla, mlb, mq, mm', ⟨qvs ++ [.ref u], zA, ?_⟩, ⟨mvs, by walk_at "H", (rm.new hu).putl (zB hu hq)⟩⟩, m1, m2, m3, m4, m5, m6, m7⟩))
          rw [if_pos (decide_eq_true hok)]
          exact qY.snocF (z := (p0, i, q0, j)) (qY.putl (Refs.new rq hu) (zB hu hq)) ((zE _ uq).trans zA)
        . refine qB (up3.to _ _ ⟨rfl, ?_⟩)
          rw [if_neg (by rw [decide_eq_true_iff]; exact hno), List.append_nil]
          exact G4'
      clear G4
      rintro Z4 G4
      have G4' := G4
      obtain ⟨⟨E, mx, mla, mlb, mq, mm', ⟨qvs, hq, rq⟩, ⟨mvs, hm, rm⟩⟩, m1, m2, m3, m4, m5, m6, m7⟩ := G4
      try dsimp only at E mx mla mlb mq mm' hq rq hm rm m1 m2 m3 m4 m5 m6 m7
      have lq := rq.lenT
      rw [List.length_map] at lq
      have lq2 : qvs.length <= 70 := by
        rw [lq, List.length_append]
        split
        . simp only [List.length_singleton]; ac_nf
        . simp only [List.length_nil]; ac_nf
      have fin : ∀ S', GB H x qa ml as.length bs.length (found ++ [(i, j, n)]) ((boxes ++ if decide (p0 < i /\ q0 < j) = true then [(p0, i, q0, j)] else []) ++ if decide (i + n < p1 /\ j + n < q1) = true then [(i + n, p1, j + n, q1)] else []) S' -> ∃ k, k < f /\ ∃ found boxes, A3 (k = yh boxes) (GB H x qa ml as.length bs.length found boxes S') (Work as bs J found boxes) := λ S' G => by
        refine ⟨_, ?_, _, _, rfl, G, W2.less _ _ (λ e => ?_) (λ e => ?_)⟩
        . have h1 := fuel_less (bs := boxes) (l := (p0, i, q0, j)) (r := (i + n, p1, j + n, q1)) (decide (p0 < i /\ q0 < j)) (decide (i + n < p1 /\ j + n < q1))
          refine Nat.lt_of_le_of_lt h1 ?_
          rw [hf]
          unfold yh
          simp only [List.length_append, List.length_singleton]
          ac_nf
        . have := of_decide_eq_false e; dsimp only; ac_nf
        . have := of_decide_eq_false e; dsimp only; ac_nf
      refine zM ?_
      refine ex_If ?_
      refine yW (i + n < p1 /\ j + n < q1) ?_ (λ hok => zV ?_) (λ hno => zI ?_)
      . walk_at "S"
        refine zN (λ h1 => ?_) (λ h1 => ⟨rfl, zY λ z => h1 (Int.ofNat_lt.mpr z.1)⟩)
        walk_at "S"
        refine zN (λ h2 => ?_) (λ h2 => ⟨rfl, zY λ z => h2 (Int.ofNat_lt.mpr z.2)⟩)
        walk_at "S"
        exact ⟨rfl, qz ⟨Int.ofNat_lt.mp h1, Int.ofNat_lt.mp h2⟩⟩
      . walk_at "S"
        refine zT (by walk_at "H") ?_
        refine zW (.builtin _) ?_
        walk_at "S"
        refine ⟨show 4 <= sizeLine by decide, ?_⟩
        intro u hu
        have hu : Z4.H u = none := hu
        walk_at "S"
        refine zU (vs := qvs) (by walk_at "H") (by ac_nf) ?_
        have uq : u ≠ qa := λ q => by rw [q, hq] at hu; cases hu
        refine zq (qB (zq (qB (zq (qB (up2.to _ _ (fin _ ⟨(E.new hu).turn nq0, mx, mla, mlb, mq, mm', ⟨qvs ++ [.ref u], zA, ?_⟩, ⟨mvs, by walk_at "H", (rm.new hu).putl (zB hu hq)⟩⟩)))))))
        rw [if_pos (decide_eq_true hok)]
        exact qY.snocF (z := (i + n, p1, j + n, q1)) (qY.putl (Refs.new rq hu) (zB hu hq)) ((zE _ uq).trans zA)
      . refine qB (zq (qB (zq (qB (up2.to _ _ (fin _ ?_))))))
        have e : (if decide (i + n < p1 /\ j + n < q1) = true then [(i + n, p1, j + n, q1)] else []) = ([] : List yx) := if_neg (by rw [decide_eq_true_iff]; exact hno)
        rw [e, List.append_nil]
        exact G4'.B
    . have hn : n = 0 := by
        have := (bne_eq_false_iff_eq (a := (n : Int)) (b := 0)).mp hn; ac_nf
      subst hn
      walk_at "S"
      refine ⟨yh boxes, ?_, found, boxes, rfl, B0, Wk.zero hres⟩
      rw [hf]
      unfold yh
      rw [List.length_append, qK, List.length_singleton]
      ac_nf
  . clear E mx mla mlb hb0 hqa hml q1 q2 q3
    rintro Z2 ⟨found, B, Wk⟩
    obtain ⟨E, mx, mla, mlb, mq, mm', -, ⟨mvs, hm, rm⟩⟩ := B
    try dsimp only at E mx mla mlb mq mm' hm rm
    have lm := rm.len
    rw [List.length_map] at lm
    have hfew := Wk.few
    obtain ⟨T', hT, hperm, hsrt, hbef, hpos⟩ := work_sorted Wk
    have hmem : ∀ x ∈ found, x.2.1 < 1048576 := λ x hx => by have := (hpos x (hperm.mem_iff.mpr hx)).2.2; ac_nf
    have hst : T'.Pairwise λ x y => rk2 (qJ x) < rk2 (qJ y) := List.Pairwise.imp_of_mem (λ {x y} hx hy h => rk_before (by have := (hpos x hx).2.2; ac_nf) (hpos x hx).1 h) hbef
    walk_at "S"
    refine meth_sort (by walk_at "H") ?_
    refine yG (.builtin _) ?_
    refine call_sort T (M := true) (rk := rk2) (vs := mvs) (by have := hA.un; ac_nf) (by walk_at "H") (rm.dell hm) (ranked_of hperm hst (λ x hx y hy e => lex_brow (hmem x hx) (hmem y hy) e) (λ o_ o_ o_ o_ => rfl)) (by ac_nf) ?_
    intro p hp1 hp2
    rw [lm] at hp1
    have hrows := (rm.putl (o := .list (p.map λ i => mvs.getD i Value.none)) hm).perm (p := p) (λ i hi => by rw [List.length_map]; exact List.mem_range.mp ((hp1.mem_iff).mp hi))
    rw [sorted_perm (0, 0, 0) hperm hst hp1 hp2] at hrows
    generalize (p.map λ i => mvs.getD i Value.none) = svs at hrows ⊢
    have hTl : T'.length <= 63 := by rw [hperm.length_eq]; ac_nf
    have hTold : Told as bs J (jG (qc T' T'.length) ++ [(as.length, bs.length, 0)]) := ⟨T', hT, by
      rw [merge_eq λ x hx => (hpos x hx).1]
      unfold qc
      rw [List.take_of_length_le (Nat.le_refl _)]⟩
    have nq : ml ≠ ml -> False := λ z => z rfl
    refine (?_ : Wp _ _ _ (execs _ _) _ _)
    refine Wp.abs (λ S => A7 (zm H S.H) (S.m "self" = some (.ref x)) (S.m "la" = some (.int as.length 0)) (S.m "lb" = some (.int bs.length 0)) (S.m "matching_blocks" = some (.ref ml)) (S.H ml = some (.list svs)) (Rows S.H true svs (T'.map qJ))) ?_ ?_
    . exact ⟨E.turn nm0, mx, mla, mlb, mm', zA, hrows⟩
    clear E mx mla mlb mq mm' hm rm hT hperm hsrt hbef hst hmem hp1 hp2 hrows Wk lm hfew nq
    rintro Z3 ⟨E, mx, mla, mlb, mm', hls, rs⟩
    try dsimp only at E mx mla mlb mm' hls rs
    refine zM ?_
    refine ex_Assign3 ?_
    walk_at "S"
    refine ⟨show 0 <= sizeLine by decide, ?_⟩
    intro na hna
    have hna : Z3.H na = none := hna
    have nn0 : H na = none := E.none hna
    have nml : ml ≠ na := zS hls hna
    refine (?_ : Wp _ _ _ (execs _ _) _ _)
    refine qH (λ S => A3 (NA H x na as.length bs.length S) (K1 ((qc T' T'.length).1.1) ((qc T' T'.length).1.2.1) ((qc T' T'.length).1.2.2) S) (∃ nvs, S.H na = some (.list nvs) /\ qY S.H nvs ((qc T' T'.length).2.map qJ))) ?_ ?_
    . intro Φ1 up1
      refine ex_For ?_
      walk_at "S"
      refine yU hA.hh (vs := svs) (by walk_at "H") (λ k S => A5 (NA H x na as.length bs.length S) (K1 ((qc T' k).1.1) ((qc T' k).1.2.1) ((qc T' k).1.2.2) S) (∃ nvs, S.H na = some (.list nvs) /\ qY S.H nvs ((qc T' k).2.map qJ)) (S.H ml = some (.list svs)) (Rows S.H true svs (T'.map qJ))) ?_ ?_ ?_ ?_
      . exact ⟨⟨E.new hna, mx, mla, mlb, rfl⟩, ⟨rfl, rfl, rfl⟩, ⟨[], by walk_at "H", Refs.nil⟩, by walk_at "H", rs.new hna⟩
      . rintro k S ⟨_, _, _, h5, _⟩; exact h5
      . clear E mx mla mlb mm' hls rs hna
        rintro k Ψ Φ2 u1 up2 u Z4 hu ⟨⟨E, mx, mla, mlb, mna⟩, ⟨mi1, mj1, mk1⟩, ⟨nvs, hn, rn⟩, hls, rs⟩
        try dsimp only at E mx mla mlb mna mi1 mj1 mk1 hn rn hls rs
        obtain ⟨y, is, rfl, his, hy⟩ := rs.get hu
        rw [List.getElem?_map] at his
        obtain ⟨⟨z1, z2, z3⟩, hz, rfl⟩ := Option.map_eq_some_iff.mp his
        have hy : Z4.H y = some (.mt 191 [.int z1 0, .int z2 0, .int z3 0]) := hy
        have hk : k < T'.length := (List.getElem?_eq_some_iff.mp hz).1
        have hol := mg_len T' k
        rw [mg_succ T' hz] at up2
        generalize qc T' k = st at mi1 mj1 mk1 rn hol up2
        obtain ⟨⟨i1, j1, k1⟩, out⟩ := st
        try dsimp only at mi1 mj1 mk1 rn hol
        have ln := rn.lenT
        rw [List.length_map] at ln
        refine asg_M T hA.hh hy rfl ?_
        refine zG (zH ?_)
        refine zG (zH ?_)
        refine zG (zH ?_)
        refine zy (u1 _ ?_)
        refine Wp.abs (λ S => A7 (NA H x na as.length bs.length S) (K1 i1 j1 k1 S) (K2 z1 z2 z3 S) (S.H na = some (.list nvs)) (qY S.H nvs (out.map qJ)) (S.H ml = some (.list svs)) (Rows S.H true svs (T'.map qJ))) ?_ ?_
        . exact ⟨⟨E, mx, mla, mlb, mna⟩, ⟨mi1, mj1, mk1⟩, ⟨rfl, rfl, rfl⟩, hn, rn, hls, rs⟩
        clear E mx mla mlb mna mi1 mj1 mk1 hn rn hls rs hy hu
        rintro Z5 ⟨⟨E, mx, mla, mlb, mna⟩, ⟨mi1, mj1, mk1⟩, ⟨mi2, mj2, mk2⟩, hn, rn, hls, rs⟩
        try dsimp only at E mx mla mlb mna mi1 mj1 mk1 mi2 mj2 mk2 hn rn hls rs
        refine zM ?_
        refine ex_If ?_
        refine yW (i1 + k1 = z1 /\ j1 + k1 = z2) ?_ (λ hok => zV ?_) (λ hno => zI ?_)
        . walk_at "S"
          refine qN (λ h1 => ?_) (λ h1 => ⟨rfl, zY λ z => h1 (congrArg Nat.cast z.1)⟩)
          walk_at "S"
          refine qN (λ h2 => ?_) (λ h2 => ⟨rfl, zY λ z => h2 (congrArg Nat.cast z.2)⟩)
          walk_at "S"
          exact ⟨rfl, qz ⟨Int.ofNat_inj.mp h1, Int.ofNat_inj.mp h2⟩⟩
        . have e : yN (((i1, j1, k1) : qA), out) (z1, z2, z3) = ((i1, j1, k1 + z3), out) := by
            unfold yN; exact if_pos hok
          rw [e] at up2
          refine zM ?_
          refine ex_AugAssign mk1 ?_
          walk_at "S"
          refine aug_add ?_
          exact zq (qB (zq (qB (up2.to _ _ ⟨⟨E, mx, mla, mlb, mna⟩, ⟨mi1, mj1, rfl⟩, ⟨nvs, hn, rn⟩, hls, rs⟩))))
        . have e : yN (((i1, j1, k1) : qA), out) (z1, z2, z3) = ((z1, z2, z3), if k1 = 0 then out else out ++ [(i1, j1, k1)]) := by
            unfold yN; exact if_neg hno
          rw [e] at up2
          refine qH (λ S => A5 (NA H x na as.length bs.length S) (K2 z1 z2 z3 S) (∃ nvs, S.H na = some (.list nvs) /\ qY S.H nvs ((if k1 = 0 then out else out ++ [(i1, j1, k1)]).map qJ)) (S.H ml = some (.list svs)) (Rows S.H true svs (T'.map qJ))) ?_ ?_
          . intro Φ3 up3
            refine ex_If ?_
            walk_at "S"
            refine tru_int ?_
            refine qO (λ hb => ?_) (λ hb => ?_)
            . have hb : ¬ k1 = 0 := by have := bne_iff_ne.mp hb; ac_nf
              rw [if_neg hb] at up3
              walk_at "S"
              refine zT (by walk_at "H") ?_
              refine zW (.builtin _) ?_
              walk_at "S"
              refine ⟨show 3 <= sizeLine by decide, ?_⟩
              intro u hu
              have hu : Z5.H u = none := hu
              walk_at "S"
              refine zU (vs := nvs) (by walk_at "H") (by ac_nf) ?_
              have uq : u ≠ na := λ q => by rw [q, hn] at hu; cases hu
              exact zq (qB (up3.to _ _ ⟨rfl, ⟨(E.new hu).turn nn0, mx, mla, mlb, mna⟩, ⟨mi2, mj2, mk2⟩, ⟨nvs ++ [.ref u], zA, qY.snocF (z := (i1, j1, k1)) (qY.putl (Refs.new (o := .tup (.type "tuple") [.int i1 0, .int j1 0, .int k1 0]) rn hu) (zB hu hn)) ((zE _ uq).trans zA)⟩, by walk_at "H", (rs.new hu).putl (zB hu hn)⟩))
            . have hb : k1 = 0 := by
                have := (bne_eq_false_iff_eq (a := (k1 : Int)) (b := 0)).mp hb; ac_nf
              rw [if_pos hb] at up3
              exact qB (up3.to _ _ ⟨rfl, ⟨E, mx, mla, mlb, mna⟩, ⟨mi2, mj2, mk2⟩, ⟨nvs, hn, rn⟩, hls, rs⟩)
          . clear E mx mla mlb mna mi1 mj1 mk1 mi2 mj2 mk2 hn rn hls rs
            rintro Z6 ⟨⟨E, mx, mla, mlb, mna⟩, ⟨mi2, mj2, mk2⟩, ⟨nvs, hn, rn⟩, hls, rs⟩
            try dsimp only at E mx mla mlb mna mi2 mj2 mk2 hn rn hls rs
            refine zM ?_
            refine qZ (names := ["i1", "j1", "k1"]) hA.hh ?_
            walk_at "S"
            refine ⟨show 3 <= sizeLine by decide, ?_⟩
            intro t3 ht3
            have ht3 : Z6.H t3 = none := ht3
            refine ⟨t3, _, rfl, zA, rfl, ?_⟩
            exact zq (qB (zq (qB (up2.to _ _ ⟨⟨E.new ht3, mx, mla, mlb, mna⟩, ⟨rfl, rfl, rfl⟩, ⟨nvs, zB ht3 hn, Refs.new rn ht3⟩, zB ht3 hls, rs.new ht3⟩))))
      . rintro S ⟨h1, h2, h3, _⟩
        have lv : svs.length = T'.length := by have := rs.len; rwa [List.length_map] at this
        rw [lv] at h2 h3
        exact up1.to _ _ ⟨rfl, h1, h2, h3⟩
    . clear E mx mla mlb mm' hls rs hna
      rintro Z4 ⟨⟨E, mx, mla, mlb, mna⟩, ⟨mi1, mj1, mk1⟩, ⟨nvs, hn, rn⟩⟩
      try dsimp only at E mx mla mlb mna mi1 mj1 mk1 hn rn
      have hol := mg_len T' T'.length
      generalize qc T' T'.length = st at mi1 mj1 mk1 rn hol hTold
      have ln := rn.lenT
      rw [List.length_map] at ln
      refine qH (λ S => (NA H x na as.length bs.length S) /\ (∃ nvs, S.H na = some (.list nvs) /\ qY S.H nvs ((jG st).map qJ))) ?_ ?_
      . intro Φ1 up1
        obtain ⟨⟨i1, j1, k1⟩, out⟩ := st
        try dsimp only at mi1 mj1 mk1 rn hol ln
        refine ex_If ?_
        walk_at "S"
        refine tru_int ?_
        refine qO (λ hb => ?_) (λ hb => ?_)
        . have hb : ¬ k1 = 0 := by have := bne_iff_ne.mp hb; ac_nf
          rw [show jG (((i1, j1, k1) : qA), out) = out ++ [(i1, j1, k1)] from if_neg hb] at up1
          walk_at "S"
          refine zT (by walk_at "H") ?_
          refine zW (.builtin _) ?_
          walk_at "S"
          refine ⟨show 3 <= sizeLine by decide, ?_⟩
          intro u hu
          have hu : Z4.H u = none := hu
          walk_at "S"
          refine zU (vs := nvs) (by walk_at "H") (by ac_nf) ?_
          have uq : u ≠ na := λ q => by rw [q, hn] at hu; cases hu
          exact zq (qB (up1.to _ _ ⟨rfl, ⟨(E.new hu).turn nn0, mx, mla, mlb, mna⟩, ⟨nvs ++ [.ref u], zA, qY.snocF (z := (i1, j1, k1)) (qY.putl (Refs.new (o := .tup (.type "tuple") [.int i1 0, .int j1 0, .int k1 0]) rn hu) (zB hu hn)) ((zE _ uq).trans zA)⟩⟩))
        . have hb : k1 = 0 := by
            have := (bne_eq_false_iff_eq (a := (k1 : Int)) (b := 0)).mp hb; ac_nf
          rw [show jG (((i1, j1, k1) : qA), out) = out from if_pos hb] at up1
          exact qB (up1.to _ _ ⟨rfl, ⟨E, mx, mla, mlb, mna⟩, ⟨nvs, hn, rn⟩⟩)
      have hfl : (jG st).length <= 64 := by
        unfold jG; split
        . ac_nf
        . rw [List.length_append]; simp only [List.length_singleton]; ac_nf
      generalize jG st = out at hTold hfl ⊢
      clear E mx mla mlb mna mi1 mj1 mk1 hn rn ln hol
      rintro Z5 ⟨⟨E, mx, mla, mlb, mna⟩, ⟨nvs, hn, rn⟩⟩
      try dsimp only at E mx mla mlb mna hn rn
      have ln := rn.lenT
      rw [List.length_map] at ln
      refine zM ?_
      walk_at "S"
      refine zT (by walk_at "H") ?_
      refine zW (.builtin _) ?_
      walk_at "S"
      refine ⟨show 3 <= sizeLine by decide, ?_⟩
      intro u hu
      have hu : Z5.H u = none := hu
      walk_at "S"
      refine zU (vs := nvs) (by walk_at "H") (by ac_nf) ?_
      refine (?_ : Wp _ _ _ (execs _ _) _ _)
      have hu0 : H u = none := E.none hu
      refine Wp.abs (λ S => A4 (zm H S.H) (S.m "self" = some (.ref x)) (S.m "non_adjacent" = some (.ref na)) (∃ nvs, S.H na = some (.list nvs) /\ qY S.H nvs ((out ++ [(as.length, bs.length, 0)]).map qJ))) ?_ ?_
      . have uq : u ≠ na := λ q => by rw [q, hn] at hu; cases hu
        exact ⟨(E.new hu).turn nn0, mx, mna, nvs ++ [.ref u], zA, qY.snocF (z := (as.length, bs.length, 0)) (qY.putl (Refs.new (o := .tup (.type "tuple") [.int as.length 0, .int bs.length 0, .int 0 0]) rn hu) (zB hu hn)) ((zE _ uq).trans zA)⟩
      have hfl' : (out ++ [((as.length, bs.length, 0) : qA)]).length <= 65 := by rw [List.length_append]; simp only [List.length_singleton]; ac_nf
      generalize out ++ [((as.length, bs.length, 0) : qA)] = out at hTold hfl' ⊢
      clear E mx mla mlb mna hn rn ln hu
      rintro Z6 ⟨E, mx, mna, nvs, hn, rn⟩
      try dsimp only at E mx mna hn rn
      have ln := rn.lenT
      rw [List.length_map] at ln
      have hM := MW.g
      have hli := MW.list
      have hma := MW.map
      walk_at "S"
      refine yo ?_
      walk_at "S"
      refine yo ?_
      walk_at "S"
      refine attr_make T ?_
      intro mo hmo
      have hmo : Z6.H mo = none := hmo
      walk_at "S"
      refine call_map (vs := nvs) (by walk_at "H") ?_
      intro I0 T0 Z0 hI0 hT0 hZ0 nIT nIZ nTZ
      have hI0 : zD Z6.H mo (.raw (methodObj (.ref 145) (.ref 191))) I0 = none := hI0
      have hT0 : zD Z6.H mo (.raw (methodObj (.ref 145) (.ref 191))) T0 = none := hT0
      have hZ0 : zD Z6.H mo (.raw (methodObj (.ref 145) (.ref 191))) Z0 = none := hZ0
      have i1 := zF hI0
      have i2 := zF hT0
      have i3 := zF hZ0
      have nmT : mo ≠ T0 := Ne.symm i2.1
      have nmZ : mo ≠ Z0 := Ne.symm i3.1
      have nnT := zS hn i2.2
      have nnZ := zS hn i3.2
      have nno := zS hn hmo
      walk_at "S"
      have z1 : (zD (zD (zD (zD Z6.H mo (.raw (methodObj (.ref 145) (.ref 191)))) I0 (.fld (.type "list_iterator") [.ref na, .int 0 0])) T0 (.tup (.type "tuple") [.ref I0])) Z0 (.fld (.type "map") [.ref T0, .ref mo])) Z0 = some (.fld (.type "map") [.ref T0, .ref mo]) := zA
      have z2 : (zD (zD (zD (zD Z6.H mo (.raw (methodObj (.ref 145) (.ref 191)))) I0 (.fld (.type "list_iterator") [.ref na, .int 0 0])) T0 (.tup (.type "tuple") [.ref I0])) Z0 (.fld (.type "map") [.ref T0, .ref mo])) T0 = some (.tup (.type "tuple") [.ref I0]) := by walk_at "H"
      have z3 : (zD (zD (zD (zD Z6.H mo (.raw (methodObj (.ref 145) (.ref 191)))) I0 (.fld (.type "list_iterator") [.ref na, .int 0 0])) T0 (.tup (.type "tuple") [.ref I0])) Z0 (.fld (.type "map") [.ref T0, .ref mo])) I0 = some (.fld (.type "list_iterator") [.ref na, .int 0 0]) := by walk_at "H"
      have z4 : (zD (zD (zD (zD Z6.H mo (.raw (methodObj (.ref 145) (.ref 191)))) I0 (.fld (.type "list_iterator") [.ref na, .int 0 0])) T0 (.tup (.type "tuple") [.ref I0])) Z0 (.fld (.type "map") [.ref T0, .ref mo])) mo = some (.raw (methodObj (.ref 145) (.ref 191))) := by walk_at "H"
      have z5 : (zD (zD (zD (zD Z6.H mo (.raw (methodObj (.ref 145) (.ref 191)))) I0 (.fld (.type "list_iterator") [.ref na, .int 0 0])) T0 (.tup (.type "tuple") [.ref I0])) Z0 (.fld (.type "map") [.ref T0, .ref mo])) na = some (.list nvs) := by walk_at "H"
      have kI : zD Z6.H mo (.raw (methodObj (.ref 145) (.ref 191))) I0 = none := hI0
      have kT : zD (zD Z6.H mo (.raw (methodObj (.ref 145) (.ref 191)))) I0 (.fld (.type "list_iterator") [.ref na, .int 0 0]) T0 = none := by rw [zE _ (Ne.symm nIT)]; exact hT0
      have kZ : zD (zD (zD Z6.H mo (.raw (methodObj (.ref 145) (.ref 191)))) I0 (.fld (.type "list_iterator") [.ref na, .int 0 0])) T0 (.tup (.type "tuple") [.ref I0]) Z0 = none := by rw [zE _ (Ne.symm nTZ), zE _ (Ne.symm nIZ)]; exact hZ0
      have z6 : qY (zD (zD (zD (zD Z6.H mo (.raw (methodObj (.ref 145) (.ref 191)))) I0 (.fld (.type "list_iterator") [.ref na, .int 0 0])) T0 (.tup (.type "tuple") [.ref I0])) Z0 (.fld (.type "map") [.ref T0, .ref mo])) nvs (out.map qJ) := Refs.new (Refs.new (Refs.new (Refs.new rn hmo) kI) kT) kZ
      have EH : zm H (zD (zD (zD (zD Z6.H mo (.raw (methodObj (.ref 145) (.ref 191)))) I0 (.fld (.type "list_iterator") [.ref na, .int 0 0])) T0 (.tup (.type "tuple") [.ref I0])) Z0 (.fld (.type "map") [.ref T0, .ref mo])) := (((E.new hmo).new kI).new kT).new kZ
      have I00 : H I0 = none := E.none i1.2
      refine call_listMap T hA.hh z4 z5 z6.allT (by ac_nf) (λ S' t row hrow ht hm => ?_) z1 z2 z3 λ H' D acc E' hD hacc => ?_
      . obtain ⟨is, his, rfl⟩ := List.mem_map.mp hrow
        obtain ⟨⟨y1, y2, y3⟩, hy, rfl⟩ := List.mem_map.mp his
        exact make_call T ((hA.less (m := 2) (by ac_nf)).in3) MW.dm MW.tup hlen ht
      . have e2 : zm H H' := λ b o q => E' _ _ (by
          rw [zv (zS q I00)]; exact EH.get q)
        have hDr := hacc.rows
        have hDd : D ≠ d := zK hD (e2.get od) rfl
        walk_at "S"
        refine zt W.k.cls (e2.get ox) (e2.get od) ?_ W.k.sa (W.k.no _ (by simp)) hw (by decide)
        have w1 := Within.set hw (x := "matching_blocks") (v := .ref D) (by simp [yl])
        have dx : x ≠ d := zK ox od rfl
        walk_at "S"
        refine zo W.k.cls (show zD H' d _ x = some _ by rw [zE _ dx]; exact e2.get ox) zA (v := .ref D) (by walk_at "m") (by simp) ?_ W.k.ga (W.k.no _ (by simp))
        intro c hc
        refine qW (h _ _ D acc out hTold hfl' ?_ zA w1 (λ y hy => zX hy) ?_ ?_ c hc)
        . exact λ b o hb q => by
            show zD H' d _ b = _
            rw [zE _ hb]; exact e2.get q
        . show zD H' d _ D = _
          rw [zE _ hDd]; exact hD
        . refine hDr.put λ is o_ e => ?_
          rw [e2.get od] at e; cases e
end
theorem blk_call {X : Wd} {A : Around} {L : Addr} {S : St} {mS : Str -> Option Value} {x d al bl dj sj : Addr} {mm : Str -> Option Value} {as bs : List Str} {J : Str -> Bool} {NM : Addr} {mM : Str -> Option Value} {Φ : Value -> St -> Prop} (hA : Room A 6) (W : SMW X mS) (MW : MtW X NM mM)
   (R : SMR S.H x d mm al bl dj sj as bs J) (hw : Within mm yl) (hmb : mm "matching_blocks" = some .none) (la : as.length < 64) (lb : bs.length < 64)
   (h : ∀ H' mm' D vs out, Told as bs J out -> out.length <= 65 -> zR d S.H H' -> H' d = some (.attrs mm') -> Within mm' yl -> (∀ y : Str, y ≠ "matching_blocks" -> mm' y = mm y) -> H' D = some (.list vs) -> Rows H' true vs (out.map qJ) -> Φ (.ref D) ⟨S.m, H'⟩) :
   zO X A L (.ref 259) [.ref x] S Φ := by
  refine qT (names := ["self"]) W.f.db (by have := hA.dp; ac_nf) (λ cs hcs => ?_) (by rfl) (by rfl) λ L' hL' => ?_
  . obtain ⟨c1, rfl, h1⟩ := yX hcs
    rfl
  . exact blk_body (Room.deep (n := 5) hA) W MW rfl R hw hmb la lb λ S' mm' D vs out k1 k0 k2 k3 k4 k5 k6 k7 c hc => by
      have := h S'.H mm' D vs out k1 k0 k2 k3 k4 k5 k6 k7
      rw [<- hc] at this
      exact this
section
variable {X : Wd} {A : Around} {L fa : Addr} {S : St} {m : Str -> Option Value} {H : AH} {mS : Str -> Option Value}
theorem told_body {x d al bl dj sj : Addr} {mm : Str -> Option Value} {as bs : List Str} {J : Str -> Bool} {NM : Addr} {mM : Str -> Option Value} {Φ : Flow -> St -> Prop} (hA : Room A 6) (W : SMW X mS) (MW : MtW X NM mM)
   (mx : m "matcher" = some (.ref x)) (R : SMR H x d mm al bl dj sj as bs J) (hw : Within mm yl) (hmb : mm "matching_blocks" = some .none) (la : as.length < 64) (lb : bs.length < 64)
   (h : ∀ S' mm' D vs out, Told as bs J out -> H D = none -> zR d H S'.H -> S'.H d = some (.attrs mm') -> Within mm' yl -> (∀ y : Str, y ≠ "matching_blocks" -> mm' y = mm y) -> S'.H D = some (.list vs) -> Rows S'.H false vs (out.map qJ) -> ∀ c, er c = .ref D -> Φ (.ret c) S') :
   Wp X A L (execs (bodyOf fLTold) (callEnv fLTold L fa)) ⟨m, H⟩ Φ := by
  have hszl : sizeLine = 2 ^ 24 := rfl
  have hli := MW.list
  with_unfolding_all refine zM ?_
  walk_at "S"
  refine ev_ListComp [] ?_ (.inl rfl)
  walk_at "S"
  refine zu W.k.cls W.f.db (λ h o => W.f.fc 259 (by simp) h o) W.f.mb R.ox R.od (Within.no hw (by decide)) ?_ W.k.ga W.k.gt (y := none) (by rw [typeLookup_type, builtinLookup_eq_fast]; kernel_rfl)
  refine yG (.fn W.f.db) ?_
  refine blk_call hA W MW R hw hmb la lb λ H' mm' D vs out k1 k0 k2 k3 k4 k5 k6 k7 => ?_
  have lv := k7.len
  rw [List.length_map] at lv
  refine ⟨vs.length, _, _, λ k acc H'' => zm H' H'' /\ Rows H'' false acc ((out.take k).map qJ), iter_list hA.hh k6, by ac_nf, ⟨zm.refl _, Rows.nil⟩, λ k acc H'' I => I.1.get k6, ?_, ?_⟩
  . intro L' hL' k acc m' H'' u S1 hk ⟨hE, hRw⟩ ⟨hu, hS⟩
    subst hS
    refine zH ?_
    refine tests_no ?_
    refine zV ?_
    obtain ⟨y, is, rfl, his, hy⟩ := (k7.of_ext hE).get hu
    rw [List.getElem?_map] at his
    obtain ⟨z, hz, rfl⟩ := Option.map_eq_some_iff.mp his
    walk_at "S"
    refine yo ?_
    walk_at "S"
    refine call_listM W.top hA.hh (vs := qo (qJ z)) hy (by simp [qo, qJ, hszl]) λ H3 D' E' hD' => ?_
    refine ⟨hE.trans E', ?_⟩
    rw [List.take_add_one, hz, List.map_append]
    exact (hRw.of_ext E').snoc hD'
  . intro acc H'' hlen ⟨hE, hRw⟩ D' hD'
    have hD' : H'' D' = none := hD'
    rw [lv, List.take_of_length_le (Nat.le_refl _)] at hRw
    walk_at "S"
    intro c hc
    have nd : D' ≠ d := λ q => by rw [q, hE.get k3] at hD'; cases hD'
    refine qW (h _ mm' D' acc out k1 ((k2.of_ext hE).noneB nd hD') ((k2.of_ext hE).new hD') (zB hD' (hE.get k3)) k4 k5 zA (hRw.new hD') c hc)
theorem told_call {x d al bl dj sj g : Addr} {mm : Str -> Option Value} {as bs : List Str} {J : Str -> Bool} {NM : Addr} {mM : Str -> Option Value} {Φ : Value -> St -> Prop} (hA : Room A 7) (W : SMW X mS) (MW : MtW X NM mM) (D : IsDef X g fLTold (bodyOf fLTold))
   (R : SMR S.H x d mm al bl dj sj as bs J) (hw : Within mm yl) (hmb : mm "matching_blocks" = some .none) (la : as.length < 64) (lb : bs.length < 64)
   (h : ∀ H' mm' D vs out, Told as bs J out -> S.H D = none -> zR d S.H H' -> H' d = some (.attrs mm') -> Within mm' yl -> (∀ y : Str, y ≠ "matching_blocks" -> mm' y = mm y) -> H' D = some (.list vs) -> Rows H' false vs (out.map qJ) -> Φ (.ref D) ⟨S.m, H'⟩) :
   zO X A L (.ref g) [.ref x] S Φ := by
  refine qT (names := ["matcher"]) D (by have := hA.dp; ac_nf) (λ cs hcs => ?_) (by rfl) (by rfl) λ L' hL' => ?_
  . obtain ⟨c1, rfl, h1⟩ := yX hcs
    rfl
  . exact told_body (Room.deep (n := 6) hA) W MW rfl R hw hmb la lb λ S' mm' D vs out k1 k0 k2 k3 k4 k5 k6 k7 c hc => by
      have := h S'.H mm' D vs out k1 k0 k2 k3 k4 k5 k6 k7
      rw [<- hc] at this
      exact this
end
noncomputable def lamE : Expr := match (((bodyOf yc)[2]?).getD (Stmt.Pass ⟨0, 0, 0, 0⟩)) with
  | Stmt.Assign _ (Expr.Call _ (l :: _) _ _) _ => l
  | _ => .Constant .none 0 ⟨0, 0, 0, 0⟩
noncomputable def lamP : Arguments := match lamE with
  | .Lambda p _ _ _ => p
  | _ => ⟨[], [], none, [], [], none, []⟩
noncomputable def lamB : Expr := match lamE with
  | .Lambda _ b _ _ => b
  | _ => .Constant .none 0 ⟨0, 0, 0, 0⟩
noncomputable def lamS : Scope := match lamE with
  | .Lambda _ _ s _ => s
  | _ => ⟨.function, [], false, false, []⟩
section
variable {X : Wd} {A : Around} {L fa : Addr} {S : St} {m : Str -> Option Value} {H : AH} {mF : Str -> Option Value}
theorem FlagR.keepD {H H' : AH} {d x r : Addr} {A : zp} {F : zc -> List Int × List Int} {N : Nat} (R : FlagR H x r A F N) (k : zR d H H') (hd : H d = none \/ ∃ mm, H d = some (.attrs mm) /\ mm "_flags" = none) : FlagR H' x r A F N := by
  obtain ⟨d', m, h1, h2, h3⟩ := R.ob
  have nx : x ≠ d := λ q => by
    rcases hd with z | ⟨mm, z, _⟩ <;> (rw [<- q, h1] at z; cases z)
  have nd : d' ≠ d := λ q => by
    rcases hd with z | ⟨mm, z, z2⟩
    . rw [<- q, h2] at z; cases z
    . rw [<- q, h2] at z; cases z; rw [h3.1] at z2; cases z2
  refine ⟨⟨d', m, k _ _ nx h1, k _ _ nd h2, h3⟩, R.root, R.trie.keep λ p i a hi h => ?_⟩
  obtain ⟨o, ho⟩ := R.trie.at_ hi h
  have na : a ≠ d := λ q => by
    rcases R.apart h with ⟨kvs, w⟩ | ⟨l, w⟩ <;> rcases hd with z | ⟨mm, z, _⟩ <;> (rw [q, z] at w; cases w)
  rw [ho]; exact k _ _ na ho
theorem lam_junk {self r f c' cell d : Addr} {qual : Str} {pm ctv : Value} {oc : Obj} {vs0z : Array Value} {t : Tok} {G : zp} {F : zc -> List Int × List Int} {N : Nat} {bs : List Str} {J : Str -> Bool} (T : TopK X) (hX : qr X) (KF : FlagsK X mF) (hlim : ∀ h, X.kept h -> h.NoLimit) (htup : qG X mainGlobals builtinsNs "tuple" (.type "tuple")) (hFl : yg X mainGlobals "Flags" (.ref 73))
   (hf : H f = some (.raw (kla_obj "<lambda>" qual lamP lamB lamS [(("flags" : Str), cell)] pm c' ctv))) (hc : H c' = some (.raw oc)) (hd : oc.data = .fields vs0z) (hv : vs0z[1]? = some (.str qual t)) (hcell : H cell = some (.cell (some (.ref self)))) (R : FlagR H self r G F N) (hN : N <= 1000)
   (hdd : H d = none \/ ∃ mm, H d = some (.attrs mm) /\ mm "_flags" = none) (hJ : ∀ w ∈ bs, isW F 0 w = J w) (hsz : ∀ w ∈ bs, w.cps.size <= 64) : yw X d H f bs J := by
  intro A L S' hA k w hw Ψ hΨ
  have ne : ∀ {b o}, H b = some o -> (∀ mm, o ≠ .attrs mm) -> b ≠ d := λ {b o} hb ho q => by
    rcases hdd with z | ⟨mm, z, _⟩
    . rw [<- q, hb] at z; cases z
    . rw [<- q, hb] at z; exact ho mm (Option.some.inj z)
  have hf' := k _ _ (ne hf (by simp)) hf
  have hc' := k _ _ (ne hc (by simp)) hc
  have hcell' := k _ _ (ne hcell (by simp)) hcell
  have R' := R.keepD k hdd
  refine call_lambda (names := ["way"]) hlim hf' hc' hd hv (by have := hA.dp; ac_nf) (λ cs hcs => ?_) (by rfl) (by rfl) (λ L' hL' => ?_)
  . obtain ⟨c1, rfl, _⟩ := yX hcs
    rfl
  . with_unfolding_all refine ev_CallMeth ?_
    obtain ⟨dd, mm, hx, hdd', hfl, hno⟩ := R'.ob
    walk_at "S"
    refine zu KF.cls KF.dq (λ h o => KF.fc 70 (by simp) h o) KF.mq hx hdd' (hno _ (by decide) (by decide)) ?_ KF.ga KF.gt (y := none) (by rw [typeLookup_type, builtinLookup_eq_fast]; kernel_rfl)
    refine zW (.fn KF.dq) ?_
    walk_at "S"
    refine yo ?_
    walk_at "S"
    have hz : sizeLine = 2 ^ 24 := rfl
    have hwz := hsz w hw
    refine qq (show (A.deeper _).handled = none from hA.hh) (x := w) (by ac_nf) ?_
    intro tt ht
    have ht : S'.H tt = none := ht
    walk_at "S"
    refine attr_cls T (v := .int 0 211) (by rfl) ?_
    walk_at "S"
    refine is_call (N := N) (Room.deep (n := 2) hA) hX KF (R'.new ht) zA hN hwz λ H' E => ?_
    rw [hJ w hw]
    exact hΨ H' (((zm.refl _).new ht).trans E)
end
section
open PySem.W.X
structure RunK (X : Wd) (mS mF : Str -> Option Value) (NM : Addr) (mM : Str -> Option Value) : Prop where
  w : SMW X mS
  m : MtW X NM mM
  f : FlagsK X mF
  lim : ∀ h, X.kept h -> h.NoLimit
  dDo : IsDef X 316 fLDo (bodyOf fLDo)
  gDo : yg X mainGlobals "_law_do" (.ref 316)
  dTold : IsDef X 345 fLTold (bodyOf fLTold)
  gTold : yg X mainGlobals "_law_told" (.ref 345)
  gFl : yg X mainGlobals "Flags" (.ref 73)
  gSM : yg X mainGlobals "SequenceMatcher" (.ref 298)
  bb : ∃ pm, ∀ h, X.kept h -> ∃ mg, h.Ns mainGlobals mg /\ h.BuiltinsAt mg 347 /\ (mg "__name__").getD .none = pm /\ CodeHd h 351 347 /\ mainGlobals ≠ 347
section
variable {X : Wd} {A : Around} {L fa : Addr} {S : St} {m : Str -> Option Value} {H : AH} {mS mF : Str -> Option Value} {NM : Addr} {mM : Str -> Option Value}
theorem cells_run (L : Addr) : cellsFrom (L + 1) yc.scope.names [] = [(("flags" : Str), L + 1)] := by rfl
theorem jD {H H' : AH} {self r : Addr} {G : zp} {F : zc -> List Int × List Int} {N : Nat} (R : FlagR H self r G F N) (E : qu G H H') {b : Addr} {o : AO} (hb : H b = some o) (h1 : ∀ kvs, o ≠ .sdict kvs) (h2 : ∀ l, o ≠ .iset l) : H' b = some o := E b o (λ p i q => by
  rcases R.apart q with ⟨kvs, z⟩ | ⟨l, z⟩
  . rw [hb] at z; exact h1 _ (Option.some.inj z)
  . rw [hb] at z; exact h2 _ (Option.some.inj z)) hb
def NoTree : AO -> Prop
  | .inst _ _ => False
  | .attrs _ => False
  | .sdict _ => False
  | .iset _ => False
  | _ => True
theorem FlagR.other {H : AH} {x r c : Addr} {A : zp} {F : zc -> List Int × List Int} {N : Nat} {o0 o : AO} (R : FlagR H x r A F N) (hc : H c = some o0) (hn : NoTree o0) : FlagR (zD H c o) x r A F N := by
  obtain ⟨d', m, h1, h2, h3⟩ := R.ob
  exact ⟨⟨d', m, by rw [zE _ (ne_sq h1 hc (λ q => by rw [<- q] at hn; exact hn))]; exact h1, by rw [zE _ (ne_sq h2 hc (λ q => by rw [<- q] at hn; exact hn))]; exact h2, h3⟩, R.root, R.trie.keep λ p i a hi h => zE _ λ q => by
    rcases R.apart h with ⟨kvs, z⟩ | ⟨l, z⟩ <;> (rw [q, hc] at z; rw [Option.some.inj z] at hn; exact hn)⟩
theorem SMI.of_ext {H H' : AH} {x d f al bl dj sj : Addr} {mm : Str -> Option Value} {as bs : List Str} {J : Str -> Bool} (I : SMI H x d mm f al bl dj sj as bs J) (e : zm H H') : SMI H' x d mm f al bl dj sj as bs J := ⟨I.r.of_ext e, I.w, I.ij, I.au⟩
theorem SMI.turn {H H' : AH} {x d f al al' bl dj sj : Addr} {mm mm' : Str -> Option Value} {as as' bs : List Str} {J : Str -> Bool} (I : SMI H x d mm f al bl dj sj as bs J) (k : zR d H H') (hd : H' d = some (.attrs mm')) (hw : Within mm' yl) (ha : mm' "a" = some (.ref al')) (hal : H' al' = some (.list (zZ as')))
    (hy : ∀ y : Str, y ∈ (["b", "b2j", "bjunk", "isjunk", "autojunk"] : List Str) -> mm' y = mm y) : SMI H' x d mm' f al' bl dj sj as' bs J := by
  have R := I.r
  obtain ⟨kvs, h1, h2⟩ := R.b2
  obtain ⟨xs, h3, h4⟩ := R.bj
  have od := R.od
  refine ⟨⟨k _ _ (zK R.ox od rfl) R.ox, hd, ha, by rw [hy _ (by simp)]; exact R.mb, by rw [hy _ (by simp)]; exact R.m2, by rw [hy _ (by simp)]; exact R.mj, hal, k _ _ (zK R.hb od rfl) R.hb, ⟨kvs, k _ _ (zK h1 od rfl) h1, λ w => ?_⟩, ⟨xs, k _ _ (zK h3 od rfl) h3, h4⟩⟩, hw, by rw [hy _ (by simp)]; exact I.ij, by rw [hy _ (by simp)]; exact I.au⟩
  rcases h2 w with q | ⟨q1, l, q2, q3⟩
  . exact .inl q
  . exact .inr ⟨q1, l, q2, k _ _ (zK q3 od rfl) q3⟩
structure RunS (H0 : AH) (cell sf r f c' x d : Addr) (G : zp) (F : zc -> List Int × List Int) (N : Nat) (qual : Str) (pm ctv : Value) (oc : Obj) (mm : Str -> Option Value) (al bl dj sj : Addr) (as bs : List Str) (J : Str -> Bool) (H : AH) : Prop where
  keep : zR 347 H0 H
  hd0 : H0 d = none
  cl : H cell = some (.cell (some (.ref sf)))
  fr : FlagR H sf r G F N
  ff : H f = some (.raw (kla_obj "<lambda>" qual lamP lamB lamS [(("flags" : Str), cell)] pm c' ctv))
  fc : H c' = some (.raw oc)
  sm : SMI H x d mm f al bl dj sj as bs J
  nG : ∀ p i, G p i ≠ some dj
  p7 : ∃ ps, H 347 = some (.raw (tabObj ps))
theorem RunS.new0 {H0 : AH} {cell sf r f c' x d : Addr} {G : zp} {F : zc -> List Int × List Int} {N : Nat} {qual : Str} {pm ctv : Value} {oc : Obj} {mm : Str -> Option Value} {al bl dj sj : Addr} {as bs : List Str} {J : Str -> Bool} {H : AH} (R : RunS H0 cell sf r f c' x d G F N qual pm ctv oc mm al bl dj sj as bs J H) {b : Addr} (hb : H b = none) : H0 b = none := by
  cases e : H0 b with
  | none => rfl
  | some o =>
    by_cases q : b = 347
    . obtain ⟨o, h⟩ := R.p7
      rw [q, h] at hb; cases hb
    . rw [R.keep _ _ q e] at hb; cases hb
section
variable {H0 : AH} {cell sf r f c' x d : Addr} {G : zp} {F : zc -> List Int × List Int} {N : Nat} {qual : Str} {pm ctv : Value} {oc : Obj} {mm : Str -> Option Value} {al bl dj sj : Addr} {as bs : List Str} {J : Str -> Bool} {H : AH}
theorem RunS.ext {H' : AH} (R : RunS H0 cell sf r f c' x d G F N qual pm ctv oc mm al bl dj sj as bs J H) (e : zm H H') : RunS H0 cell sf r f c' x d G F N qual pm ctv oc mm al bl dj sj as bs J H' :=
  ⟨R.keep.of_ext e, R.hd0, e _ _ R.cl, R.fr.of_ext e, e _ _ R.ff, e _ _ R.fc, R.sm.of_ext e, R.nG, let ⟨o, h⟩ := R.p7; ⟨o, e _ _ h⟩⟩
theorem RunS.step {H' : AH} {mm' : Str -> Option Value} {al' bl' dj' sj' : Addr} {as' bs' : List Str} {J' : Str -> Bool} (R : RunS H0 cell sf r f c' x d G F N qual pm ctv oc mm al bl dj sj as bs J H) (k : zR d H H') (I : SMI H' x d mm' f al' bl' dj' sj' as' bs' J') (n : ∀ p i, G p i ≠ some dj') : RunS H0 cell sf r f c' x d G F N qual pm ctv oc mm' al' bl' dj' sj' as' bs' J' H' := by
  have od := R.sm.r.od
  exact ⟨λ b o hb q => k b o (zS q R.hd0) (R.keep b o hb q), R.hd0, k _ _ (zK R.cl od rfl) R.cl, R.fr.keepD k (.inr ⟨mm, od, Within.no R.sm.w (by decide)⟩), k _ _ (zK R.ff od rfl) R.ff, k _ _ (zK R.fc od rfl) R.fc, I, n, let ⟨o, h⟩ := R.p7; ⟨o, k _ _ (zK h od rfl) h⟩⟩
theorem RunS.late {H' : AH} {G' : zp} {F' : zc -> List Int × List Int} {N' : Nat} (R : RunS H0 cell sf r f c' x d G F N qual pm ctv oc mm al bl dj sj as bs J H) (hG : ∀ p i b, G p i = some b -> H0 b = none) (E : qu G H H') (Gr : qM G G' H) (R' : FlagR H' sf r G' F' N') : RunS H0 cell sf r f c' x d G' F' N' qual pm ctv oc mm al bl dj sj as bs J H' := by
  have S := R.sm.r
  obtain ⟨kvs, h1, h2⟩ := S.b2
  obtain ⟨xs, h3, h4⟩ := S.bj
  have L : ∀ {b o}, H b = some o -> (∀ kvs, o ≠ .sdict kvs) -> (∀ l, o ≠ .iset l) -> H' b = some o := λ hb a1 a2 => jD R.fr E hb a1 a2
  refine ⟨λ b o hb q => E b o (λ p i z => by rw [hG p i b z] at q; cases q) (R.keep b o hb q), R.hd0, L R.cl (by simp) (by simp), R', L R.ff (by simp) (by simp), L R.fc (by simp) (by simp), ⟨⟨L S.ox (by simp) (by simp), L S.od (by simp) (by simp), S.ma, S.mb, S.m2, S.mj, L S.ha (by simp) (by simp), L S.hb (by simp) (by simp), ⟨kvs, E dj _ R.nG h1, λ w => ?_⟩, ⟨xs, L h3 (by simp) (by simp), h4⟩⟩, R.sm.w, R.sm.ij, R.sm.au⟩, λ p i z => ?_, let ⟨o, h⟩ := R.p7; ⟨o, L h (by simp) (by simp)⟩⟩
  . rcases h2 w with q | ⟨q1, l, q2, q3⟩
    . exact .inl q
    . exact .inr ⟨q1, l, q2, L q3 (by simp) (by simp)⟩
  . rcases Gr p i dj z with ⟨q, j, w⟩ | w
    . exact R.nG q j w
    . rw [h1] at w; cases w
end
theorem RunS.refs {H0 : AH} {cell sf r f c' x d : Addr} {G : zp} {F : zc -> List Int × List Int} {N : Nat} {qual : Str} {pm ctv : Value} {oc : Obj} {mm : Str -> Option Value} {al bl dj sj : Addr} {as bs : List Str} {J : Str -> Bool} {H : AH} {b a : Addr} {us : List Value} {o : AO} (R : RunS H0 cell sf r f c' x d G F N qual pm ctv oc mm al bl dj sj as bs J H) (hb : H b = some (.list (.ref a :: us))) (h0 : H0 b = none) :
    RunS H0 cell sf r f c' x d G F N qual pm ctv oc mm al bl dj sj as bs J (zD H b o) := by
  have S := R.sm.r
  obtain ⟨kvs, h1, h2⟩ := S.b2
  obtain ⟨xs, h3, h4⟩ := S.bj
  have L : ∀ {c oc}, H c = some oc -> oc ≠ .list (.ref a :: us) -> zD H b o c = some oc := λ hc a1 => by
    rw [zE _ (ne_sq hc hb a1)]; exact hc
  have n1 : ∀ ws : List Str, AO.list (zZ ws) ≠ .list (.ref a :: us) := λ ws q => by
    cases ws with
    | nil => cases q
    | cons w ws => cases q
  have n2 : ∀ ws : List Nat, AO.list (nsv ws) ≠ .list (.ref a :: us) := λ ws q => by
    cases ws with
    | nil => cases q
    | cons w ws => cases q
  refine ⟨R.keep.turn h0, R.hd0, L R.cl (by simp), R.fr.other hb trivial, L R.ff (by simp), L R.fc (by simp), ⟨⟨L S.ox (by simp), L S.od (by simp), S.ma, S.mb, S.m2, S.mj, L S.ha (n1 _), L S.hb (n1 _), ⟨kvs, L h1 (by simp), λ w => ?_⟩, ⟨xs, L h3 (by simp), h4⟩⟩, R.sm.w, R.sm.ij, R.sm.au⟩, R.nG, let ⟨o, h⟩ := R.p7; ⟨o, L h (by simp)⟩⟩
  rcases h2 w with q | ⟨q1, l, q2, q3⟩
  . exact .inl q
  . exact .inr ⟨q1, l, q2, L q3 (n2 _)⟩
structure TellS (H : AH) (D : Addr) (vs : List Value) (out : List qA) : Prop where
  at_ : H D = some (.list vs)
  rows : Rows H false vs (out.map qJ)
theorem TellS.keepD {H H' : AH} {d D : Addr} {vs : List Value} {out : List qA} {mm : Str -> Option Value} (T : TellS H D vs out) (k : zR d H H') (hd : H d = some (.attrs mm)) : TellS H' D vs out :=
  ⟨k _ _ (zK T.at_ hd rfl) T.at_, T.rows.ext λ a is q => k _ _ (ne_sq q hd (by simp [RowO])) q⟩
theorem TellS.late {H H' : AH} {D self r : Addr} {vs : List Value} {out : List qA} {G : zp} {F : zc -> List Int × List Int} {N : Nat} (T : TellS H D vs out) (R : FlagR H self r G F N) (E : qu G H H') : TellS H' D vs out :=
  ⟨jD R E T.at_ (by simp) (by simp), T.rows.ext λ a is q => jD R E q (by simp [RowO]) (by simp [RowO])⟩
theorem TellS.of_ext {H H' : AH} {D : Addr} {vs : List Value} {out : List qA} (T : TellS H D vs out) (e : zm H H') : TellS H' D vs out := ⟨e _ _ T.at_, T.rows.of_ext e⟩
theorem TellS.turn {H : AH} {D b : Addr} {vs us : List Value} {out : List qA} {o : AO} (T : TellS H D vs out) (hb : H b = some (.list us)) (hu : us = [] \/ ∃ a r, us = .ref a :: r) (hD : D ≠ b) : TellS (zD H b o) D vs out :=
  ⟨by rw [zE _ hD]; exact T.at_, T.rows.turn hb hu brow_ne⟩
theorem yC.abs {S : St} {env : Env} {pos : Pos} {es : List Expr} {Φ : List Value -> St -> Prop} (Q : St -> Prop) (h : Q S) (k : ∀ S', Q S' -> yC X A L pos es env S' Φ) : yC X A L pos es env S Φ := k S h
theorem run_body {H0 : AH} {fl sl el ll : Addr} {fs ss : List Str} {es ls : List qx} {evs lvs : List Value} {Φ : Flow -> St -> Prop} (hA : Room A 9) (K : RunK X mS mF NM mM)
   (mf : m "first" = some (.ref fl)) (ms : m "second" = some (.ref sl)) (me : m "early" = some (.ref el)) (mlt : m "late" = some (.ref ll)) (hE0z : zm H0 H) (hci : H (L + 1) = some (.cell none)) (nci : H0 (L + 1) = none)
   (hfl : H0 fl = some (.list (zZ fs))) (of : SeqOk fs) (hsl : H0 sl = some (.list (zZ ss))) (os : SeqOk ss) (hel : H0 el = some (.list evs)) (re : Refs H0 evs (es.map qQ)) (oe : DeedsOk es 13) (hll : H0 ll = some (.list lvs)) (rl : Refs H0 lvs (ls.map qQ)) (ol : DeedsOk ls 13)
   (hP : H0 347 = some (.raw (tabObj #[])))
   (h : ∀ S' D d1 d2 d3 v1 v2 v3 o1 o2 o3, Told fs ss (qC (zg es)).contains o1 -> Told fs.reverse ss (qC (zg es)).contains o2 -> Told fs.reverse ss (qC (zg (es ++ ls))).contains o3 -> zR 347 H0 S'.H -> (∃ ps, S'.H 347 = some (.raw (tabObj ps))) -> S'.H D = some (.list [.ref d1, .ref d2, .ref d3]) ->
     S'.H d1 = some (.list v1) -> Rows S'.H false v1 (o1.map qJ) -> S'.H d2 = some (.list v2) -> Rows S'.H false v2 (o2.map qJ) -> S'.H d3 = some (.list v3) -> Rows S'.H false v3 (o3.map qJ) -> ∀ c, er c = .ref D -> Φ (.ret c) S') :
   Wp X A L (execs (bodyOf yc) (callEnvC yc L fa)) ⟨m, H⟩ Φ := by
  have hszl : sizeLine = 2 ^ 24 := rfl
  have T := K.w.top
  have hX := K.w.sys
  have gFl := K.gFl
  have gDo := K.gDo
  have gTold := K.gTold
  have gSM := K.gSM
  with_unfolding_all refine zM ?_
  refine jZ ?_
  walk_at "S"
  refine qF ?_
  refine callW0_cls K.f.cls ?_
  refine flags_make (hA.less (by ac_nf)) K.f K.w.set_ λ H1 self r E1 R1 hr => ?_
  have hci1 : H1 (L + 1) = some (.cell none) := E1.get hci
  refine qV (by rfl) hci1 ?_
  have E01 : zm H0 (zD H1 (L + 1) (.cell (some (.ref self)))) := (hE0z.trans E1).turn nci
  have hr0 : H0 r = none := hE0z.none hr
  have R2 : FlagR (zD H1 (L + 1) (.cell (some (.ref self)))) self r (A0 r) F0 0 := R1.other hci1 trivial
  walk_at "S"
  refine qF ?_
  refine zW (.fn K.dDo) ?_
  walk_at "S"
  refine do_call (hA.less (by ac_nf)) T hX K.f K.dDo K.w.set_ K.m.tup gFl R2 (E01.get hel) (re.of_ext E01) oe.ok (by have := oe.len; ac_nf) λ G H2 R3 X3 Gr3 Dm3 => ?_
  have hG : ∀ p i b, G p i = some b -> H0 b = none := λ p i b q => by
    rcases Gr3 p i b q with ⟨q', j, z⟩ | z
    . unfold A0 at z
      split at z
      . rw [<- Option.some.inj z]; exact hr0
      . cases z
    . exact E01.none z
  have k1 : ∀ b o, (∀ q, o ≠ .cell q) -> zD H1 (L + 1) (.cell (some (.ref self))) b = some o -> H0 b = some o -> H2 b = some o := λ b o o_ q q0 => X3 b o (λ p i z => by
    unfold A0 at z
    split at z
    . rw [Option.some.inj z, q0] at hr0; cases hr0
    . cases z) q
  have E2 : zm H0 H2 := λ b o q => X3 b o (λ p i z => by
    unfold A0 at z
    split at z
    . rw [Option.some.inj z, q] at hr0; cases hr0
    . cases z) (E01.get q)
  have hc2 : H2 (L + 1) = some (.cell (some (.ref self))) := jD R2 X3 zA (by simp) (by simp)
  refine (?_ : Wp _ _ _ (execs _ _) _ _)
  refine Wp.abs (λ S => A6 (zm H0 S.H) (S.H (L + 1) = some (.cell (some (.ref self)))) (FlagR S.H self r G (es.foldl zi F0) 65) (S.m "first" = some (.ref fl)) (S.m "second" = some (.ref sl)) (S.m "late" = some (.ref ll))) ⟨E2, hc2, R3.more (by have := oe.len; ac_nf), mf, ms, mlt⟩ ?_
  clear E2 hc2 R3 mf ms me mlt E01 R2 X3 Gr3 Dm3 k1 hci hci1 R1 E1
  rintro Z2 ⟨E, hc2, R, mf, ms, mlt⟩
  try dsimp only at E hc2 R mf ms mlt
  have MR1 := MR.all es [] F0 MR.start oe.ok
  have hJ1 : ∀ w ∈ ss, isW (es.foldl zi F0) 0 w = (qC (zg es)).contains w := λ w hw => isW_junk MR1 w (os.way w hw)
  have hsz : ∀ w ∈ ss, w.cps.size <= 64 := λ w hw => way_small (os.way w hw)
  have lss : ss.length < 64 := by have := os.len; ac_nf
  have lfs : fs.length < 64 := by have := of.len; ac_nf
  obtain ⟨pm, BB⟩ := K.bb
  walk_at "S"
  refine qF ?_
  refine callW_cls K.w.k.cls ?_
  walk_at "S"
  refine ev_Lambda (clos := [(("flags" : Str), L + 1)]) (c := 351) (P := 347) (pm := pm) (by rfl) (by rfl) (by rfl) (by rfl) BB (E.get hP) λ f c' oc vs0 tk ctv hf hc' hfc hod hov => ?_
  have hf : Z2.H f = none := hf
  have hc' : Z2.H c' = none := hc'
  have hP2 := E.get hP
  have n3 : c' ≠ 347 := λ q => by rw [q, hP2] at hc'; cases hc'
  have n4 : f ≠ 347 := λ q => by rw [q, hP2] at hf; cases hf
  refine yC.abs (λ S => A9 (∃ ps, S.H 347 = some (.raw (tabObj ps))) (zR 347 H0 S.H) (S.H (L + 1) = some (.cell (some (.ref self)))) (FlagR S.H self r G (es.foldl zi F0) 65) (S.H f = some (.raw (kla_obj "<lambda>" ((callEnvC yc L fa).qual ++ "<lambda>") lamP lamB lamS [(("flags" : Str), L + 1)] pm c' ctv))) (S.H c' = some (.raw oc)) (S.m "first" = some (.ref fl)) (S.m "second" = some (.ref sl)) (S.m "late" = some (.ref ll))) ?_ ?_
  . have p1 : zD Z2.H 347 (.raw (tabObj #[rawInt 558, rawInt 30, .ref c'])) c' = none := by rw [zE _ n3]; exact hc'
    have p2 : zD (zD Z2.H 347 (.raw (tabObj #[rawInt 558, rawInt 30, .ref c']))) c' (.raw oc) f = none := by rw [zE _ hfc, zE _ n4]; exact hf
    refine ⟨⟨_, zB p2 (zB p1 zA)⟩, λ b o hb q => ?_, ?_, ((R.other hP2 trivial).of_ext ((zm.refl _).new p1)).of_ext ((zm.refl _).new p2), by with_unfolding_all exact zA, ?_, mf, ms, mlt⟩
    . exact zB p2 (zB p1 (by rw [zE _ hb]; exact E.get q))
    . exact zB p2 (zB p1 (by rw [zE _ (zK hc2 hP2 rfl)]; exact hc2))
    . exact zB p2 zA
  clear hc2 R mf ms mlt E hf hc' hP2 n3 n4
  rintro Z3 ⟨⟨o3, h347⟩, k3, hc3, R3, hf3, hc3', mf, ms, mlt⟩
  try dsimp only at k3 hc3 R3 hf3 hc3' mf ms mlt h347
  have a1 : fl ≠ 347 := zK hfl hP rfl
  have a2 : sl ≠ 347 := zK hsl hP rfl
  have a3 : ll ≠ 347 := zK hll hP rfl
  walk_at "S"
  refine sm_make (al := fl) (bl := sl) (f := f) (J := (qC (zg es)).contains) (hA.less (by ac_nf)) K.w (k3 _ _ a1 hfl) (k3 _ _ a2 hsl) lss ⟨_, _, hf3, rfl, rfl⟩ (λ d hd => lam_junk T hX K.f K.lim K.m.tup gFl hf3 hc3' hod hov hc3 R3 (by ac_nf) (.inl hd) hJ1 hsz) λ H4 x d mm dj sj E4 hd4 hdj4 SI hmb => ?_
  have hd4 : Z3.H d = none := hd4
  have hdj4 : Z3.H dj = none := hdj4
  refine (?_ : Wp _ _ _ (execs _ _) _ _)
  refine Wp.abs (λ S => A5 (RunS H0 (L + 1) self r f c' x d G (es.foldl zi F0) 65 ((callEnvC yc L fa).qual ++ "<lambda>") pm ctv oc mm fl sl dj sj fs ss (qC (zg es)).contains S.H) (S.m "first" = some (.ref fl)) (S.m "second" = some (.ref sl)) (S.m "late" = some (.ref ll)) (S.m "matcher" = some (.ref x))) ?_ ?_
  . refine ⟨⟨k3.of_ext E4, ?_, E4.get hc3, R3.of_ext E4, E4.get hf3, E4.get hc3', SI, λ p i z => ?_, ⟨_, E4.get h347⟩⟩, ?_, ?_, ?_, ?_⟩
    . cases e : H0 d with
      | none => rfl
      | some o =>
        exfalso
        by_cases q : d = 347
        . rw [q] at hd4; exact absurd (hd4.symm.trans h347) (by simp)
        . exact absurd (hd4.symm.trans (k3 _ _ q e)) (by simp)
    . rcases R3.apart z with ⟨kvs, w⟩ | ⟨l, w⟩ <;> (rw [hdj4] at w; cases w)
    . walk_at "m"
    . walk_at "m"
    . walk_at "m"
    . walk_at "m"
  clear hd4 hdj4 E4 SI k3 hc3 R3 hf3 hc3' mf ms mlt h347
  rintro Z5 ⟨RS, mf, ms, mlt, mm5⟩
  try dsimp only at RS mf ms mlt mm5
  have qlen : ∀ {o : List qA}, o.length <= 65 -> o.length <= sizeLine := λ z => by ac_nf
  walk_at "S"
  refine qF ?_
  refine zW (.fn K.dTold) ?_
  walk_at "S"
  refine told_call (hA.less (by ac_nf)) K.w K.m K.dTold RS.sm.r RS.sm.w hmb lfs lss λ H6 mm6 d1 v1 o1 t1 t2 t3 t4 t5 t6 t7 t8 => ?_
  have RS6 := RS.step t3 (RS.sm.turn t3 t4 t5 (by rw [t6 _ (by decide)]; exact RS.sm.r.ma) (t3 _ _ (zK RS.sm.r.ha RS.sm.r.od rfl) RS.sm.r.ha) λ y hy => t6 y (by rintro rfl; exact absurd hy (by decide))) RS.nG
  have T1 : TellS H6 d1 v1 o1 := ⟨t7, t8⟩
  have n1 : ∀ b o, Z5.H b = some o -> d1 ≠ b := λ b o q z => by rw [<- z] at q; exact absurd (q.symm.trans t2) (by simp)
  walk_at "S"
  refine ⟨show 1 <= sizeLine by decide, ?_⟩
  intro tl htl
  have htl : H6 tl = none := htl
  refine (?_ : Wp _ _ _ (execs _ _) _ _)
  refine Wp.abs (λ S => A10 (RunS H0 (L + 1) self r f c' x d G (es.foldl zi F0) 65 ((callEnvC yc L fa).qual ++ "<lambda>") pm ctv oc mm6 fl sl dj sj fs ss (qC (zg es)).contains S.H) (S.m "first" = some (.ref fl)) (S.m "second" = some (.ref sl)) (S.m "matcher" = some (.ref x)) (S.m "late" = some (.ref ll)) (S.m "told" = some (.ref tl)) (S.H tl = some (.list [.ref d1])) (TellS S.H d1 v1 o1) (d1 ≠ tl) (H0 tl = none)) ?_ ?_
  . refine ⟨RS6.ext ((zm.refl _).new htl), ?_, ?_, ?_, ?_, ?_, zA, T1.of_ext ((zm.refl _).new htl), λ q => ?_, ?_⟩
    . walk_at "m"
    . walk_at "m"
    . walk_at "m"
    . walk_at "m"
    . walk_at "m"
    . rw [q, htl] at t7; cases t7
    . exact RS6.new0 htl
  clear RS6 RS T1 t2 t3 t4 t5 t6 t7 t8 htl mf ms mlt mm5 n1 hmb
  rintro Z7 ⟨RS, mf, ms, mx, mlt, mt, htl, T1, ntl, tl0⟩
  try dsimp only at RS mf ms mx mlt mt htl T1
  have hc7 := RS.cl
  walk_at "S"
  refine qF ?_
  refine zW (.fn K.dDo) ?_
  walk_at "S"
  refine do_call (hA.less (by ac_nf)) T hX K.f K.dDo K.w.set_ K.m.tup gFl RS.fr (RS.keep _ _ a3 hll) (rl.ext λ a o ho q => RS.keep _ _ (λ z => ?_) q) ol.ok (by have := ol.len; ac_nf) λ G' H8 R8 X8 Gr8 Dm8 => ?_
  . rw [z, hP] at q
    obtain ⟨y, _, rfl⟩ := List.mem_map.mp ho
    cases q
  have RS8 := RS.late hG X8 Gr8 (R8.more (M := 130) (by have := ol.len; ac_nf))
  refine (?_ : Wp _ _ _ (execs _ _) _ _)
  refine Wp.abs (λ S => A7 (RunS H0 (L + 1) self r f c' x d G' (ls.foldl zi (es.foldl zi F0)) 130 ((callEnvC yc L fa).qual ++ "<lambda>") pm ctv oc mm6 fl sl dj sj fs ss (qC (zg es)).contains S.H) (S.m "first" = some (.ref fl)) (S.m "second" = some (.ref sl)) (S.m "matcher" = some (.ref x)) (S.m "told" = some (.ref tl)) (S.H tl = some (.list [.ref d1])) (TellS S.H d1 v1 o1)) ?_ ?_
  . exact ⟨RS8, mf, ms, mx, mt, jD RS.fr X8 htl (by simp) (by simp), T1.late RS.fr X8⟩
  clear RS8 RS T1 htl mf ms mx mlt mt hc7 R8 X8 Gr8 Dm8 hG
  rintro Z8 ⟨RS, mf, ms, mx, mt, htl, T1⟩
  try dsimp only at RS mf ms mx mt htl T1
  have hfl8 := RS.keep _ _ a1 hfl
  walk_at "S"
  refine zu K.w.k.cls K.w.f.d1 (λ h o => K.w.f.fc 230 (by simp) h o) K.w.f.m1 RS.sm.r.ox RS.sm.r.od (Within.no RS.sm.w (by decide)) ?_ K.w.k.ga K.w.k.gt (y := none) (by rw [typeLookup_type, builtinLookup_eq_fast]; kernel_rfl)
  refine zW (.fn K.w.f.d1) ?_
  walk_at "S"
  refine ⟨_, rfl, ?_⟩
  intro sc hsc
  have hsc : Z8.H sc = none := hsc
  refine item_listSlice (by walk_at "H") zA (by simp) (by simp only [zZ, List.length_map]; ac_nf) ?_
  intro ra hra
  have hra : zD Z8.H sc (.slice none none (some (-1))) ra = none := hra
  rw [pickL_rev, show (zZ fs).reverse = zZ fs.reverse by simp only [zZ, List.map_reverse]]
  walk_at "S"
  have Es : zm Z8.H (zD (zD Z8.H sc (.slice none none (some (-1)))) ra (.list (zZ fs.reverse))) := ((zm.refl _).new hsc).new hra
  have RS9 := RS.ext Es
  have nra : fl ≠ ra := λ q => by rw [<- q] at hra; exact absurd (hra.symm.trans (zB hsc hfl8)) (by simp)
  refine seq1_call (hA.less (by ac_nf)) K.w.k K.w.f RS9.sm.r.ox RS9.sm.r.od RS9.sm.w RS9.sm.r.ma (.inr ⟨fl, zZ fs, rfl, RS9.sm.r.ha, nra⟩) zA λ H9 mm9 k1 k2 k3 k4 k5 k6 k7 => ?_
  have RSa := RS9.step k1 (RS9.sm.turn k1 k2 k4 k5 (k1 _ _ (zK zA RS9.sm.r.od rfl) zA) λ y hy => k7 y (by rintro rfl; exact absurd hy (by decide)) (by rintro rfl; exact absurd hy (by decide)) (by rintro rfl; exact absurd hy (by decide))) RS9.nG
  have htl9 : H9 tl = some (.list [.ref d1]) := k1 _ _ (zK (Es.get htl) RS9.sm.r.od rfl) (Es.get htl)
  have T19 := (T1.of_ext Es).keepD k1 RS9.sm.r.od
  refine (?_ : Wp _ _ _ (execs _ _) _ _)
  refine Wp.abs (λ S => A7 (RunS H0 (L + 1) self r f c' x d G' (ls.foldl zi (es.foldl zi F0)) 130 ((callEnvC yc L fa).qual ++ "<lambda>") pm ctv oc mm9 ra sl dj sj fs.reverse ss (qC (zg es)).contains S.H) (S.m "first" = some (.ref fl)) (S.m "second" = some (.ref sl)) (S.m "matcher" = some (.ref x)) (S.m "told" = some (.ref tl)) (S.H tl = some (.list [.ref d1])) (TellS S.H d1 v1 o1)) ?_ ?_
  . exact ⟨RSa, mf, ms, mx, mt, htl9, T19⟩
  clear RS RS9 RSa T1 T19 htl htl9 mf ms mx mt hfl8 Es k1 k2 k3 k4 k5 k7 hra hsc
  rintro Z9 ⟨RS, mf, ms, mx, mt, htl, T1⟩
  try dsimp only at RS mf ms mx mt htl T1
  walk_at "S"
  refine zu K.w.k.cls K.w.f.d2 (λ h o => K.w.f.fc 237 (by simp) h o) K.w.f.m2 RS.sm.r.ox RS.sm.r.od (Within.no RS.sm.w (by decide)) ?_ K.w.k.ga K.w.k.gt (y := none) (by rw [typeLookup_type, builtinLookup_eq_fast]; kernel_rfl)
  refine zW (.fn K.w.f.d2) ?_
  walk_at "S"
  refine seq2_same (hA.less (by ac_nf)) K.w RS.sm.r.ox RS.sm.r.od RS.sm.r.mb RS.sm.r.hb ?_
  walk_at "S"
  refine zT (by walk_at "H") ?_
  refine zW (.builtin _) ?_
  walk_at "S"
  refine qF ?_
  refine zW (.fn K.dTold) ?_
  walk_at "S"
  have lrv : fs.reverse.length < 64 := by rw [List.length_reverse]; exact lfs
  refine told_call (hA.less (by ac_nf)) K.w K.m K.dTold RS.sm.r RS.sm.w k6 lrv lss λ H10 mm10 d2 v2 o2 u1 u2 u3 u4 u5 u6 u7 u8 => ?_
  have u2 : Z9.H d2 = none := u2
  have RS10 := RS.step u3 (RS.sm.turn u3 u4 u5 (by rw [u6 _ (by decide)]; exact RS.sm.r.ma) (u3 _ _ (zK RS.sm.r.ha RS.sm.r.od rfl) RS.sm.r.ha) λ y hy => u6 y (by rintro rfl; exact absurd hy (by decide))) RS.nG
  have T2 : TellS H10 d2 v2 o2 := ⟨u7, u8⟩
  have n2 : d2 ≠ tl := λ q => by rw [q, htl] at u2; cases u2
  have htl10 : H10 tl = some (.list [.ref d1]) := u3 _ _ (zK htl RS.sm.r.od rfl) htl
  have T110 := T1.keepD u3 RS.sm.r.od
  walk_at "S"
  refine zU (vs := [.ref d1]) (by walk_at "H") (show 1 <= sizeLine by decide) ?_
  refine (?_ : Wp _ _ _ (execs _ _) _ _)
  refine Wp.abs (λ S => A8 (RunS H0 (L + 1) self r f c' x d G' (ls.foldl zi (es.foldl zi F0)) 130 ((callEnvC yc L fa).qual ++ "<lambda>") pm ctv oc mm10 ra sl dj sj fs.reverse ss (qC (zg es)).contains S.H) (S.m "first" = some (.ref fl)) (S.m "second" = some (.ref sl)) (S.m "matcher" = some (.ref x)) (S.m "told" = some (.ref tl)) (S.H tl = some (.list [.ref d1, .ref d2])) (TellS S.H d1 v1 o1) (TellS S.H d2 v2 o2)) ?_ ?_
  . exact ⟨RS10.refs htl10 tl0, mf, ms, mx, mt, zA, T110.turn htl10 (.inr ⟨_, _, rfl⟩) ntl, T2.turn htl10 (.inr ⟨_, _, rfl⟩) n2⟩
  clear RS RS10 T1 T2 T110 htl htl10 mf ms mx mt u2 u3 u4 u5 u6 u7 u8 k6
  rintro Za ⟨RS, mf, ms, mx, mt, htl, T1, T2⟩
  try dsimp only at RS mf ms mx mt htl T1 T2
  have gli := K.m.list
  have MR2 := MR.all (es ++ ls) [] F0 MR.start (λ d hd => by
    rcases List.mem_append.mp hd with q | q
    . exact oe.ok d q
    . exact ol.ok d q)
  rw [List.foldl_append (f := zi)] at MR2
  have hJ2 : ∀ w ∈ ss, isW (ls.foldl zi (es.foldl zi F0)) 0 w = (qC (zg (es ++ ls))).contains w := λ w hw => isW_junk MR2 w (os.way w hw)
  have hsla := RS.keep _ _ a2 hsl
  walk_at "S"
  refine zu K.w.k.cls K.w.f.d2 (λ h o => K.w.f.fc 237 (by simp) h o) K.w.f.m2 RS.sm.r.ox RS.sm.r.od (Within.no RS.sm.w (by decide)) ?_ K.w.k.ga K.w.k.gt (y := none) (by rw [typeLookup_type, builtinLookup_eq_fast]; kernel_rfl)
  refine zW (.fn K.w.f.d2) ?_
  walk_at "S"
  refine yo ?_
  walk_at "S"
  refine call_listList (vs := zZ ss) (by walk_at "H") (by simp only [zZ, List.length_map]; ac_nf) ?_
  intro bl' hbl'
  have hbl' : Za.H bl' = none := hbl'
  walk_at "S"
  have RSb := RS.ext ((zm.refl _).new (o := .list (zZ ss)) hbl')
  have nbl : sl ≠ bl' := zS hsla hbl'
  refine seq2_call (J := (qC (zg (es ++ ls))).contains) (hA.less (by ac_nf)) K.w RSb.sm.r.ox RSb.sm.r.od RSb.sm.w RSb.sm.r.mb (.inr ⟨sl, zZ ss, rfl, RSb.sm.r.hb, nbl⟩) RSb.sm.ij RSb.sm.au zA lss ⟨_, _, RSb.ff, rfl, rfl⟩ (lam_junk T hX K.f K.lim K.m.tup gFl RSb.ff RSb.fc hod hov RSb.cl RSb.fr (by ac_nf) (.inr ⟨_, RSb.sm.r.od, Within.no RSb.sm.w (by decide)⟩) hJ2 hsz) λ Hb mmb dj2 sj2 k1 k2 k3 k4 k5 k6 k7 k8 k9 k10 k11 => ?_
  have RSc := RSb.step (al' := ra) (bl' := bl') (dj' := dj2) (sj' := sj2) (as' := fs.reverse) (bs' := ss) (J' := (qC (zg (es ++ ls))).contains) k1 ⟨⟨k1 _ _ (zK RSb.sm.r.ox RSb.sm.r.od rfl) RSb.sm.r.ox, k2, by rw [k11 _ (by simp)]; exact RSb.sm.r.ma, k9, k5, k6, k1 _ _ (zK RSb.sm.r.ha RSb.sm.r.od rfl) RSb.sm.r.ha, k1 _ _ (zK zA RSb.sm.r.od rfl) zA, k7, k8⟩, k3, by rw [k11 _ (by simp)]; exact RSb.sm.ij, by rw [k11 _ (by simp)]; exact RSb.sm.au⟩ (λ p i z => by
    rcases RSb.fr.apart z with ⟨kvs, w⟩ | ⟨l, w⟩ <;> exact absurd (k4.symm.trans w) (by simp))
  have htlb : Hb tl = some (.list [.ref d1, .ref d2]) := k1 _ _ (zK (zB hbl' htl) RSb.sm.r.od rfl) (zB hbl' htl)
  have T1b := (T1.of_ext ((zm.refl _).new (o := .list (zZ ss)) hbl')).keepD k1 RSb.sm.r.od
  have T2b := (T2.of_ext ((zm.refl _).new (o := .list (zZ ss)) hbl')).keepD k1 RSb.sm.r.od
  refine (?_ : Wp _ _ _ (execs _ _) _ _)
  refine Wp.abs (λ S => A6 (RunS H0 (L + 1) self r f c' x d G' (ls.foldl zi (es.foldl zi F0)) 130 ((callEnvC yc L fa).qual ++ "<lambda>") pm ctv oc mmb ra bl' dj2 sj2 fs.reverse ss (qC (zg (es ++ ls))).contains S.H) (S.m "matcher" = some (.ref x)) (S.m "told" = some (.ref tl)) (S.H tl = some (.list [.ref d1, .ref d2])) (TellS S.H d1 v1 o1) (TellS S.H d2 v2 o2)) ?_ ?_
  . exact ⟨RSc, mx, mt, htlb, T1b, T2b⟩
  clear RS RSb RSc T1 T2 T1b T2b htl htlb mf ms mx mt k1 k2 k3 k4 k5 k6 k7 k8 k9 k11 hsla hbl'
  rintro Zc ⟨RS, mx, mt, htl, T1, T2⟩
  try dsimp only at RS mx mt htl T1 T2
  walk_at "S"
  refine zT (by walk_at "H") ?_
  refine zW (.builtin _) ?_
  walk_at "S"
  refine qF ?_
  refine zW (.fn K.dTold) ?_
  walk_at "S"
  refine told_call (hA.less (by ac_nf)) K.w K.m K.dTold RS.sm.r RS.sm.w k10 lrv lss λ Hd mmd d3 v3 o3 u1' u2 u3 u4 u5 u6 u7 u8 => ?_
  have u2 : Zc.H d3 = none := u2
  have n3 : d3 ≠ tl := λ q => by rw [q, htl] at u2; cases u2
  have T3 : TellS Hd d3 v3 o3 := ⟨u7, u8⟩
  have htld : Hd tl = some (.list [.ref d1, .ref d2]) := u3 _ _ (zK htl RS.sm.r.od rfl) htl
  have T1d := T1.keepD u3 RS.sm.r.od
  have T2d := T2.keepD u3 RS.sm.r.od
  walk_at "S"
  refine zU (vs := [.ref d1, .ref d2]) (by walk_at "H") (show 2 <= sizeLine by decide) ?_
  walk_at "S"
  intro c hc
  have U1 := T1d.turn (o := .list [.ref d1, .ref d2, .ref d3]) htld (.inr ⟨_, _, rfl⟩) ntl
  have U2 := T2d.turn (o := .list [.ref d1, .ref d2, .ref d3]) htld (.inr ⟨_, _, rfl⟩) n2
  have U3 := T3.turn (o := .list [.ref d1, .ref d2, .ref d3]) htld (.inr ⟨_, _, rfl⟩) n3
  have kk : zR 347 H0 Hd := λ b o hb q => u3 b o (zS q RS.hd0) (RS.keep b o hb q)
  have h7 : ∃ ps, zD Hd tl (.list [.ref d1, .ref d2, .ref d3]) 347 = some (.raw (tabObj ps)) := by
    obtain ⟨ps, q⟩ := RS.p7
    have q' := u3 _ _ (zK q RS.sm.r.od rfl) q
    exact ⟨ps, by rw [zE _ (zK q' htld rfl)]; exact q'⟩
  exact qW (h _ tl d1 d2 d3 v1 v2 v3 o1 o2 o3 t1 u1 u1' (kk.turn tl0) h7 zA U1.at_ U1.rows U2.at_ U2.rows U3.at_ U3.rows c hc)
end
end
section
open PySem.W.X
section
variable {X : Wd} {A : Around} {L fa : Addr} {S : St} {C : Cx} {s : Shared} {m : Str -> Option Value} {H : AH} {mS mF : Str -> Option Value} {NM : Addr} {mM : Str -> Option Value}
theorem readsAll_of {h : Heap} : ∀ (cs : List Value) (ds : List PyData), cs.length = ds.length -> (∀ (i : Nat) (c : Value) (d : PyData), cs[i]? = some c -> ds[i]? = some d -> ∃ as, Reads h c d as) -> ∃ as, ReadsAll h cs ds as
  | [], [], _, _ => ⟨_, .nil⟩
  | [], _ :: _, e, _ => by simp at e
  | _ :: _, [], e, _ => by simp at e
  | c :: cs, d :: ds, e, k => by
    obtain ⟨as, h1⟩ := k 0 c d rfl rfl
    obtain ⟨bs, h2⟩ := readsAll_of cs ds (by simpa using e) λ i c d h1 h2 => k (i + 1) c d h1 h2
    exact ⟨_, .cons h1 h2⟩
noncomputable def rowD (is : List Int) : PyData := .list (is.map .int)
noncomputable def tellD (o : List qA) : PyData := .list ((o.map qJ).map rowD)
theorem reads_row (R : Rep X C L S s) {a : Addr} {is : List Int} (h : S.H a = some (.list (qo is))) : ∃ as, Reads s.heap (.ref a) (rowD is) as := by
  obtain ⟨items, ep, ho, e⟩ := R.list h
  obtain ⟨as, h1⟩ := readsAll_of (h := s.heap) items.toList (is.map .int) (by
    have := congrArg List.length e
    simp only [qo, List.length_map] at this ⊢; exact this) λ i c d h1 h2 => by
    have h3 : (qo is)[i]? = some (er c) := by rw [<- e, List.getElem?_map, h1]; rfl
    rw [List.getElem?_map] at h2
    rw [qo, List.getElem?_map] at h3
    obtain ⟨n, hn, rfl⟩ := Option.map_eq_some_iff.mp h2
    rw [hn] at h3
    obtain ⟨u, rfl⟩ := zQ (Option.some.inj h3).symm
    exact ⟨_, .int n u⟩
  exact ⟨_, reads_list_at ho rfl rfl h1⟩
theorem reads_tell (R : Rep X C L S s) {a : Addr} {vs : List Value} {o : List qA} (T : TellS S.H a vs o) : ∃ as, Reads s.heap (.ref a) (tellD o) as := by
  obtain ⟨items, ep, ho, e⟩ := R.list T.at_
  have lv := T.rows.len
  obtain ⟨as, h1⟩ := readsAll_of (h := s.heap) items.toList ((o.map qJ).map rowD) (by
    have := congrArg List.length e
    rw [List.length_map] at this
    rw [this, lv]; simp) λ i c d h1 h2 => by
    have h3 : vs[i]? = some (er c) := by rw [<- e, List.getElem?_map, h1]; rfl
    obtain ⟨b, is, h4, h5, h6⟩ := T.rows.get h3
    rw [List.getElem?_map, h5] at h2
    rw [zC h4, <- Option.some.inj h2]
    exact reads_row R h6
  exact ⟨_, reads_list_at ho rfl rfl h1⟩
theorem reads_three (R : Rep X C L S s) {D d1 d2 d3 : Addr} {v1 v2 v3 : List Value} {o1 o2 o3 : List qA} (hD : S.H D = some (.list [.ref d1, .ref d2, .ref d3])) (t1 : TellS S.H d1 v1 o1) (t2 : TellS S.H d2 v2 o2) (t3 : TellS S.H d3 v3 o3) : ∃ as, Reads s.heap (.ref D) (.list [tellD o1, tellD o2, tellD o3]) as := by
  obtain ⟨items, ep, ho, e⟩ := R.list hD
  obtain ⟨c1, c2, c3, h0, h1, h2, h3⟩ := map3 e
  obtain ⟨a1, r1⟩ := reads_tell R t1
  obtain ⟨a2, r2⟩ := reads_tell R t2
  obtain ⟨a3, r3⟩ := reads_tell R t3
  rw [<- zC h1] at r1
  rw [<- zC h2] at r2
  rw [<- zC h3] at r3
  exact ⟨_, reads_list_at ho rfl rfl (by rw [h0]; exact .cons r1 (.cons r2 (.cons r3 .nil)))⟩
theorem row_lay (is : List Int) : (rowD is).canLay0 = true /\ (rowD is).depth = 1 := by
  constructor
  . simp [rowD, PyData.canLay0, ke_canLayAll0]
  . simp [rowD, PyData.depth, ke_depthAll]
theorem rows_lay : ∀ (l : List (List Int)), PyData.canLayAll0 (l.map rowD) = true /\ PyData.depthAll (l.map rowD) <= 1
  | [] => ⟨rfl, Nat.zero_le _⟩
  | is :: l => by
    obtain ⟨h1, h2⟩ := rows_lay l
    obtain ⟨h3, h4⟩ := row_lay is
    constructor
    . simp [PyData.canLayAll0, h1, h3]
    . simp only [List.map_cons, PyData.depthAll, h4]; ac_nf
theorem tell_lay (o : List qA) : (tellD o).canLay0 = true /\ (tellD o).depth <= 2 := by
  obtain ⟨h1, h2⟩ := rows_lay (o.map qJ)
  constructor
  . simp only [tellD, PyData.canLay0]; exact h1
  . simp only [tellD, PyData.depth]; ac_nf
theorem three_lay (o1 o2 o3 : List qA) : SeqAt.shaped (.list [tellD o1, tellD o2, tellD o3]) = true := by
  obtain ⟨h1, h2⟩ := tell_lay o1
  obtain ⟨h3, h4⟩ := tell_lay o2
  obtain ⟨h5, h6⟩ := tell_lay o3
  unfold SeqAt.shaped
  rw [Bool.and_eq_true]
  constructor
  . simp [PyData.canLay0, PyData.canLayAll0, h1, h3, h5]
  . rw [decide_eq_true_iff]
    simp only [PyData.depth, PyData.depthAll]; ac_nf
theorem cmp_told (hu : A.units + 64 < cLine) {D d1 d2 d3 E e1 e2 e3 : Addr} {v1 v2 v3 w1 w2 w3 : List Value} {o1 o2 o3 : List qA} {Φ : Value -> St -> Prop} (hD : S.H D = some (.list [.ref d1, .ref d2, .ref d3])) (t1 : TellS S.H d1 v1 o1) (t2 : TellS S.H d2 v2 o2) (t3 : TellS S.H d3 v3 o3)
   (hE : S.H E = some (.list [.ref e1, .ref e2, .ref e3])) (u1 : TellS S.H e1 w1 o1) (u2 : TellS S.H e2 w2 o2) (u3 : TellS S.H e3 w3 o3) (h : Φ (.bool true) S) : yL X A L .Eq (.ref D) (.ref E) S Φ := by
  intro c d hc hd C s hB R
  rw [zC hc, zC hd]
  obtain ⟨as, r1⟩ := reads_three R hD t1 t2 t3
  obtain ⟨bs, r2⟩ := reads_three R hE u1 u2 u3
  refine eq_dataH r1 r2 (three_lay _ _ _) (three_lay _ _ _) hu ?_
  rw [SeqAt.eqv_refl _ (SeqAt.canLay_of_shaped (three_lay _ _ _))]
  exact ⟨S, R, h⟩
theorem run_call {S : St} {fl sl el ll : Addr} {fs ss : List Str} {es ls : List qx} {evs lvs : List Value} {Φ : Value -> St -> Prop} (hA : Room A 10) (K : RunK X mS mF NM mM) (Dr : IsDef X 352 yc (bodyOf yc))
   (hfl : S.H fl = some (.list (zZ fs))) (of : SeqOk fs) (hsl : S.H sl = some (.list (zZ ss))) (os : SeqOk ss) (hel : S.H el = some (.list evs)) (re : Refs S.H evs (es.map qQ)) (oe : DeedsOk es 13) (hll : S.H ll = some (.list lvs)) (rl : Refs S.H lvs (ls.map qQ)) (ol : DeedsOk ls 13)
   (hP : S.H 347 = some (.raw (tabObj #[])))
   (h : ∀ H' D d1 d2 d3 v1 v2 v3 o1 o2 o3, Told fs ss (qC (zg es)).contains o1 -> Told fs.reverse ss (qC (zg es)).contains o2 -> Told fs.reverse ss (qC (zg (es ++ ls))).contains o3 -> zR 347 S.H H' -> (∃ ps, H' 347 = some (.raw (tabObj ps))) -> H' D = some (.list [.ref d1, .ref d2, .ref d3]) ->
     TellS H' d1 v1 o1 -> TellS H' d2 v2 o2 -> TellS H' d3 v3 o3 -> Φ (.ref D) ⟨S.m, H'⟩) : zO X A L (.ref 352) [.ref fl, .ref sl, .ref el, .ref ll] S Φ := by
  refine call_fnC (names := ["first", "second", "early", "late"]) (λ L' => [(("flags" : Str), L' + 1)]) Dr (by have := hA.dp; ac_nf) (λ cs hcs => ?_) (λ L' => cells_run L') (λ L' => by simp) (by rfl) (by rfl) λ L' hL' hcells => ?_
  . obtain ⟨c1, c2, c3, c4, rfl, _⟩ := args4 hcs
    rfl
  . have n1 := (hcells (("flags" : Str), L' + 1) List.mem_cons_self).1
    have e1 : qb S.H [(("flags" : Str), L' + 1)] (L' + 1) = some (.cell none) := by simp [qb]
    have e0 : zm S.H (qb S.H [(("flags" : Str), L' + 1)]) := (zm.refl _).new n1
    exact run_body (Room.deep (n := 9) hA) K rfl rfl rfl rfl e0 e1 n1 hfl of hsl os hel re oe hll rl ol hP λ S' D d1 d2 d3 v1 v2 v3 o1 o2 o3 k1 k2 k3 k4 k0 k5 k6 k7 k8 k9 k10 k11 c hc => by
      have := h S'.H D d1 d2 d3 v1 v2 v3 o1 o2 o3 k1 k2 k3 k4 k0 k5 ⟨k6, k7⟩ ⟨k8, k9⟩ ⟨k10, k11⟩
      rw [<- hc] at this
      exact this
end
end
section
open PySem.W.X
section
variable {X : Wd} {A : Around} {L fa : Addr} {S : St} {m : Str -> Option Value} {H : AH} {mS mF : Str -> Option Value} {NM : Addr} {mM : Str -> Option Value}
structure LawK (X : Wd) (mS mF : Str -> Option Value) (NM : Addr) (mM : Str -> Option Value) : Prop where
  r : RunK X mS mF NM mM
  dRun : IsDef X 352 yc (bodyOf yc)
  gRun : yg X mainGlobals "_law_run" (.ref 352)
  dDr : IsDef X 309 fLDrawn (bodyOf fLDrawn)
  gDr : yg X mainGlobals "_law_drawn" (.ref 309)
  dMa : IsDef X 321 yA (bodyOf yA)
  gMa : yg X mainGlobals "_law_marks" (.ref 321)
  dJu : IsDef X 328 fLJunk (bodyOf fLJunk)
  gJu : yg X mainGlobals "_law_junk" (.ref 328)
  dBe : IsDef X 335 yt (bodyOf yt)
  gBe : yg X mainGlobals "_law_best" (.ref 335)
  dBl : IsDef X 340 yd (bodyOf yd)
  gBl : yg X mainGlobals "_law_blocks" (.ref 340)
  so : qG X mainGlobals builtinsNs "sorted" (.builtin "sorted")
theorem law_body {sc : Addr} {ns0 : List Int} {Φ : Flow -> St -> Prop} (hA : Room A 11) (K : LawK X mS mF NM mM) (msc : m "script" = some (.ref sc)) (hsc : FrozL X sc (qo ns0)) (l0 : ns0.length <= 63) (hP : H 347 = some (.raw (tabObj #[])))
   (h : ∀ S' c, (∃ ps, S'.H 347 = some (.raw (tabObj ps))) -> er c = .bool true -> Φ (.ret c) S') : Wp X A L (execs (bodyOf fLaw) (callEnv fLaw L fa)) ⟨m, H⟩ Φ := by
  have hszl : sizeLine = 2 ^ 24 := rfl
  have T := K.r.w.top
  have gRun := K.gRun
  have gDr := K.gDr
  have gJu := K.gJu
  have gBl := K.gBl
  have hr := K.r.m.range
  have hle := K.r.w.len
  with_unfolding_all refine zM ?_
  walk_at "S"
  refine qF ?_
  refine zW (.fn K.dDr) ?_
  walk_at "S"
  refine drawn_call (ns0 := ns0) (hA.less (by ac_nf)) K.dDr hr hle hsc l0 λ t fl sl el ll fs ss es ls evs lvs H1 E1 h1 h2 of h3 os h4 re oe h5 rl ol => ?_
  refine jI hA.hh h1 rfl ?_
  refine zG (zH ?_)
  refine zG (zH ?_)
  refine zG (zH ?_)
  refine zG (zH ?_)
  refine zy ?_
  have hP1 := E1.get hP
  have lfs : fs.length < 64 := by have := of.len; ac_nf
  have lss : ss.length < 64 := by have := os.len; ac_nf
  have loe := oe.len
  have lol := ol.len
  walk_at "S"
  refine ⟨_, rfl, ?_⟩
  intro sx hsx
  have hsx : H1 sx = none := hsx
  refine item_listSlice (by walk_at "H") zA (by simp) (by simp only [zZ, List.length_map]; ac_nf) ?_
  intro tu htu
  have htu : zD H1 sx (.slice none none (some (-1))) tu = none := htu
  rw [pickL_rev, show (zZ fs).reverse = zZ fs.reverse by simp only [zZ, List.map_reverse]]
  have E2 : zm H1 (zD (zD H1 sx (.slice none none (some (-1)))) tu (.list (zZ fs.reverse))) := ((zm.refl _).new hsx).new htu
  refine (?_ : Wp _ _ _ (execs _ _) _ _)
  refine Wp.abs (λ S => A7 (zm H1 S.H) (S.H tu = some (.list (zZ fs.reverse))) (S.m "first" = some (.ref fl)) (S.m "second" = some (.ref sl)) (S.m "early" = some (.ref el)) (S.m "late" = some (.ref ll)) (S.m "turned" = some (.ref tu))) ?_ ?_
  . refine ⟨E2, zA, ?_, ?_, ?_, ?_, ?_⟩
    . walk_at "m"
    . walk_at "m"
    . walk_at "m"
    . walk_at "m"
    . walk_at "m"
  clear E2 htu hsx msc
  rintro Z2 ⟨E2, ht2, mf, ms, me, ml, mt⟩
  try dsimp only at E2 ht2 mf ms me ml mt
  walk_at "S"
  refine qF ?_
  refine zW (.fn K.dJu) ?_
  walk_at "S"
  have hwe : ∀ d ∈ es, d.2.2.cps.size <= 64 := λ d hd => way_small' (oe.ok d hd).way
  have hwl : ∀ d ∈ ls, d.2.2.cps.size <= 64 := λ d hd => way_small' (ol.ok d hd).way
  refine junk_call (hA.less (by ac_nf)) K.dJu K.dMa K.gMa hle (E2.get h4) (re.of_ext E2) (by ac_nf) hwe λ oj H3 E3 hoj => ?_
  walk_at "S"
  refine qF ?_
  refine zW (.fn K.dJu) ?_
  walk_at "S"
  have le1 := re.len
  have ll1 := rl.len
  rw [List.length_map] at le1 ll1
  have h43 := E3.get (E2.get h4)
  have h53 := E3.get (E2.get h5)
  refine bin_addList (us := evs) (vs := lvs) (by walk_at "H") (by walk_at "H") (by ac_nf) ?_
  intro al hal
  have hal : H3 al = none := hal
  have E3a : zm H3 (zD H3 al (.list (evs ++ lvs))) := (zm.refl _).new hal
  walk_at "S"
  refine junk_call (ds := es ++ ls) (hA.less (by ac_nf)) K.dJu K.dMa K.gMa hle zA (by rw [List.map_append]; exact ((re.of_ext E2).append (rl.of_ext E2)).of_ext (E3.trans E3a)) (by rw [List.length_append]; ac_nf) (λ d hd => by
    rcases List.mem_append.mp hd with q | q
    . exact hwe d q
    . exact hwl d q) λ nj H4 E4 hnj => ?_
  refine (?_ : Wp _ _ _ (execs _ _) _ _)
  refine Wp.abs (λ S => A11 (zm H1 S.H) (S.H tu = some (.list (zZ fs.reverse))) (S.H oj = some (.list (zZ (qC (zg es))))) (S.H nj = some (.list (zZ (qC (zg (es ++ ls)))))) (S.m "first" = some (.ref fl)) (S.m "second" = some (.ref sl)) (S.m "early" = some (.ref el)) (S.m "late" = some (.ref ll)) (S.m "turned" = some (.ref tu)) (S.m "old" = some (.ref oj)) (S.m "new" = some (.ref nj))) ?_ ?_
  . refine ⟨((E2.trans E3).trans E3a).trans E4, E4.get (E3a.get (E3.get ht2)), E4.get (E3a.get hoj), hnj, ?_, ?_, ?_, ?_, ?_, ?_, ?_⟩
    . walk_at "m"
    . walk_at "m"
    . walk_at "m"
    . walk_at "m"
    . walk_at "m"
    . walk_at "m"
    . walk_at "m"
  clear E2 ht2 mf ms me ml mt E3 hoj E3a hal E4 hnj h43 h53
  rintro Z5 ⟨E, htu, hoj, hnj, mf, ms, me, ml, mt, mo, mn⟩
  try dsimp only at E htu hoj hnj mf ms me ml mt mo mn
  walk_at "S"
  refine qF ?_
  refine zW (.fn K.dBl) ?_
  walk_at "S"
  refine blocks_call (hA.less (by ac_nf)) K.dBl K.dBe K.gBe hr hle K.so T (E.get h2) (E.get h3) hoj lfs lss λ p1 e1 w1 H6 k1 E6 g1 r1 => ?_
  have lrv : fs.reverse.length < 64 := by rw [List.length_reverse]; exact lfs
  walk_at "S"
  refine qF ?_
  refine zW (.fn K.dBl) ?_
  walk_at "S"
  refine blocks_call (hA.less (by ac_nf)) K.dBl K.dBe K.gBe hr hle K.so T (E6.get htu) (E6.get (E.get h3)) (E6.get hoj) lrv lss λ p2 e2 w2 H7 k2 E7 g2 r2 => ?_
  walk_at "S"
  refine qF ?_
  refine zW (.fn K.dBl) ?_
  walk_at "S"
  refine blocks_call (hA.less (by ac_nf)) K.dBl K.dBe K.gBe hr hle K.so T (E7.get (E6.get htu)) (E7.get (E6.get (E.get h3))) (E7.get (E6.get hnj)) lrv lss λ p3 e3 w3 H8 k3 E8 g3 r3 => ?_
  walk_at "S"
  refine ⟨show 3 <= sizeLine by decide, ?_⟩
  intro du hdu
  have hdu : H8 du = none := hdu
  have Ea : zm H1 (zD H8 du (.list [.ref e1, .ref e2, .ref e3])) := (((E.trans E6).trans E7).trans E8).new hdu
  refine (?_ : Wp _ _ _ (execs _ _) _ _)
  refine Wp.abs (λ S => A10 (zm H1 S.H) (S.H du = some (.list [.ref e1, .ref e2, .ref e3])) (TellS S.H e1 w1 p1) (TellS S.H e2 w2 p2) (TellS S.H e3 w3 p3) (S.m "first" = some (.ref fl)) (S.m "second" = some (.ref sl)) (S.m "early" = some (.ref el)) (S.m "late" = some (.ref ll)) (S.m "due" = some (.ref du))) ?_ ?_
  . refine ⟨Ea, zA, ((⟨E8.get (E7.get g1), (r1.of_ext E7).of_ext E8⟩ : TellS H8 e1 w1 p1)).of_ext ((zm.refl _).new hdu), ((⟨E8.get g2, r2.of_ext E8⟩ : TellS H8 e2 w2 p2)).of_ext ((zm.refl _).new hdu), ((⟨g3, r3⟩ : TellS H8 e3 w3 p3)).of_ext ((zm.refl _).new hdu), ?_, ?_, ?_, ?_, ?_⟩
    . walk_at "m"
    . walk_at "m"
    . walk_at "m"
    . walk_at "m"
    . walk_at "m"
  clear E htu hoj hnj mf ms me ml mt mo mn E6 E7 E8 g1 g2 g3 r1 r2 r3 hdu Ea
  rintro Z9 ⟨E, hdu, u1, u2, u3, mf, ms, me, ml, md⟩
  try dsimp only at E hdu u1 u2 u3 mf ms me ml md
  walk_at "S"
  refine qF ?_
  refine zW (.fn K.dRun) ?_
  walk_at "S"
  have hP9 := E.get hP1
  refine run_call (hA.less (by ac_nf)) K.r K.dRun (E.get h2) of (E.get h3) os (E.get h4) (re.of_ext E) oe (E.get h5) (rl.of_ext E) ol hP9 λ H' D d1 d2 d3 v1 v2 v3 o1 o2 o3 q1 q2 q3 kk k7 hD t1 t2 t3 => ?_
  have hduD : H' du = some (.list [.ref e1, .ref e2, .ref e3]) := kk _ _ (zK hdu hP9 rfl) hdu
  have tk : ∀ {e w p}, TellS Z9.H e w p -> TellS H' e w p := λ {e w p} u => ⟨kk _ _ (zK u.at_ hP9 rfl) u.at_, u.rows.ext λ a is q => kk _ _ (ne_sq q hP9 (by simp [RowO])) q⟩
  walk_at "S"
  have u1' := tk u1
  have u2' := tk u2
  have u3' := tk u3
  rw [k1.uniq q1] at u1'
  rw [k2.uniq q2] at u2'
  rw [k3.uniq q3] at u3'
  refine cmp_told (by have := hA.un; ac_nf) hD t1 t2 t3 hduD u1' u2' u3' ?_
  exact λ c hc => qW (h _ c k7 hc)
theorem law_top {prog : Program} {w : World} {B : Addr -> Option Obj} {A : Around} {s : Shared} {sc : Addr} {ns0 : List Int} (hA : Room A 12) (K : LawK ⟨prog, w, B⟩ mS mF NM mM) (Dl : IsDef ⟨prog, w, B⟩ 359 fLaw (bodyOf fLaw)) (hsc : FrozL ⟨prog, w, B⟩ sc (qo ns0)) (l0 : ns0.length <= 63)
   (hB : ∀ b o, B b = some o -> s.heap.get? b = some o) (h347 : B 347 = none) (hP : s.heap.get? 347 = some (tabObj #[])) (hg : s.gens = #[]) :
   wpAny (model prog w) A (call (.ref 359) [.ref sc]) (λ v s' => v = .bool true /\ (∀ b o, B b = some o -> s'.heap.get? b = some o) /\ (∃ ps, s'.heap.get? 347 = some (tabObj ps)) /\ s'.gens = #[] /\ s'.os = s.os) Fa s := by
  obtain ⟨o, hd, ho'⟩ := Dl.at_
  have kept : (⟨prog, w, B⟩ : Wd).kept s.heap := hB
  have ho := ho' _ kept
  have nl : s.heap.get? s.heap.objs.size = none := zJ _
  have nB : B s.heap.objs.size = none := by
    cases e : B s.heap.objs.size with
    | none => rfl
    | some o => rw [hB _ _ e] at nl; cases nl
  refine wpAny_call (codeAny_call_def (fd := fLaw) (binds := [("script" : Str)].zip [Value.ref sc]) (by have := hA.dp; ac_nf) ho hd (Dl.lim _ kept) (Dl.code _ kept) Dl.body (.of_eq rfl) (cell_of (by rfl)) (λ x hx => loc_of (l := fLaw.scope.names) (names := [("script" : Str)]) (by rfl) (List.of_mem_zip hx).1) (λ h₀ hns hk => ?_) Dl.co Dl.gen Dl.kind)
  have Rn : Rep ⟨prog, w, B⟩ ⟨B, s.os⟩ s.heap.objs.size ⟨yQ ["script"] [.ref sc], λ b => if b = 347 then some (.raw (tabObj #[])) else none⟩ { s with heap := h₀, toks := s.toks + ([("script" : Str)].zip [Value.ref sc]).length } := by
    refine ⟨λ b o e => hk _ _ (hB b o e), ⟨_, hns, λ y => ?_⟩, nB, ?_, λ a o e => ?_, hg, rfl⟩
    . exact yb ["script"] [.ref sc] y
    . show (if s.heap.objs.size = 347 then some (AO.raw (tabObj #[])) else none) = none
      rw [if_neg (λ q => by rw [q, hP] at nl; cases nl)]
    . have e : (if a = 347 then some (AO.raw (tabObj #[])) else none) = some o := e
      by_cases q : a = 347
      . rw [if_pos q] at e; cases e
        subst q
        exact ⟨h347, _, hk _ _ hP, rfl⟩
      . rw [if_neg q] at e; cases e
  refine wpAny_mono (law_body (Φ := λ fl S' => (∃ ps, S'.H 347 = some (.raw (tabObj ps))) /\ ∃ c, fl = .ret c /\ er c = .bool true) (Room.deep (n := 11) hA) K rfl hsc l0 (if_pos rfl) (λ S' c h7 hc => ⟨h7, c, rfl, hc⟩) ⟨B, s.os⟩ _ (λ b o e => e) Rn) (λ fl s' h' => ?_) λ o_ o_ x => x.elim
  obtain ⟨S', R', ⟨ps, h7⟩, c, rfl, hc⟩ := h'
  exact ⟨of_er_bool hc, R'.keep, ⟨ps, R'.raw h7⟩, R'.gens, R'.os⟩
end
end
section
open PySem.W.X
noncomputable abbrev XO (w : World) (h₁ : Heap) : Wd := ⟨pw, w, λ b => if b = 347 then none else h₁.get? b⟩
section
variable {w : World} {h₁ : Heap}
theorem XO.kept_of {h : Heap} (hk : (XO w h₁).kept h) {b : Addr} {o : Obj} (hb : b ≠ 347) (e : h₁.get? b = some o) : h.get? b = some o := hk b o (by show (if b = 347 then none else h₁.get? b) = some o; rw [if_neg hb]; exact e)
theorem XO.frag {h : Heap} (hk : (XO w h₁).kept h) (F : (Kq w.params).In h₁) : (Kq w.params).In h := λ a o e => XO.kept_of hk (λ q => by subst q; revert e; show none = some o -> False; intro e; cases e) (F a o e)
theorem XO.ns {h : Heap} (hk : (XO w h₁).kept h) {a : Addr} {m : Str -> Option Value} (hb : a ≠ 347) (n : h₁.Ns a m) : h.Ns a m :=
  let ⟨o, es, ep, e, r⟩ := n; ⟨o, es, ep, XO.kept_of hk hb e, r⟩
theorem codeRec_of {h : Heap} {c : Addr} {q : Str} (e : zw (h.get? c) = some q) : h.CodeRec (.ref c) q := by
  cases ho : h.get? c with
  | none => rw [ho] at e; cases e
  | some o =>
    rw [ho] at e
    obtain ⟨cl, di, da, sl⟩ := o
    cases da with
    | fields vs =>
      cases hl : vs.toList with
      | nil => change (match vs.toList with | _ :: .str n _ :: _ => some n | _ => none) = some q at e; rw [hl] at e; cases e
      | cons v r =>
        change (match vs.toList with | _ :: .str n _ :: _ => some n | _ => none) = some q at e
        rw [hl] at e
        cases r with
        | nil => cases e
        | cons u r =>
          cases u <;> first | (cases e; done) | skip
          cases e
          exact ⟨c, _, vs, _, rfl, ho, rfl, by rw [<- Array.getElem?_toList, hl]; rfl⟩
    | _ => cases e
theorem zk {a c : Addr} {fd : FuncData} (F : (Kq w.params).In h₁) (nl : h₁.NoLimit) (hk : (Kq w.params).lookup a = some ⟨.type "function", none, .func fd, #[]⟩) (hc : fd.code = .ref c) (hq : zw (h₁.get? c) = some fd.qualname) (hc3 : c ≠ 347) (ha3 : a ≠ 347) (hb : fd.body = .stmts (bodyOf fd)) (h1 : fd.scope.isCoroutine = false) (h2 : fd.scope.isGenerator = false) (h3 : fd.scope.kind = .function) : IsDef (XO w h₁) a fd (bodyOf fd) := by
  refine ⟨⟨_, rfl, λ h hh => XO.kept_of hh ha3 (F _ _ hk)⟩, λ h hh => ?_, λ h hh => ?_, hb, h1, h2, h3⟩
  . obtain ⟨mc, hn, e⟩ := nl
    exact ⟨mc, XO.ns hh (by decide) hn, e⟩
  . obtain ⟨c', o, vs, t, e, g, r⟩ := codeRec_of hq
    cases e
    rw [hc]
    exact ⟨c, o, vs, t, rfl, XO.kept_of hh hc3 g, r⟩
theorem fc_of {a : Addr} {fd : FuncData} (F : (Kq w.params).In h₁) (hk : (Kq w.params).lookup a = some ⟨.type "function", none, .func fd, #[]⟩) (ha3 : a ≠ 347) : ∀ h o, (XO w h₁).kept h -> h.get? a = some o -> o.cls = .type "function" := λ h o hh e => by
  have := XO.kept_of hh ha3 (F _ _ hk)
  rw [this] at e; cases e; rfl
noncomputable def allStr (es : Array DictEntry) : Bool := es.toList.all λ e => match e.key with | .str _ _ => true | _ => false
theorem strKeys_of {es : Array DictEntry} (h : allStr es = true) : StrKeys es := λ e he => by
  have := List.all_eq_true.mp h e (Array.mem_toList_iff.mpr he)
  cases hk : e.key <;> rw [hk] at this <;> first | exact ⟨_, _, rfl⟩ | cases this
noncomputable def esOf (o : Obj) : Array DictEntry := match o.data with | .dict es _ => es | _ => #[]
noncomputable def mFq (P : Params) : Str -> Option Value := nsFind (esOf (k72 P))
noncomputable def mMq (P : Params) : Str -> Option Value := nsFind (esOf (k190 P))
noncomputable def mSq (P : Params) : Str -> Option Value := nsFind (esOf (k297 P))
theorem k72_str (P : Params) : allStr (esOf (k72 P)) = true := by rfl
theorem k297_str (P : Params) : allStr (esOf (k297 P)) = true := by rfl
theorem isCls73 (F : (Kq w.params).In h₁) : IsCls (XO w h₁) 73 72 (mFq w.params) :=
  ⟨λ h hh => ⟨⟨_, _, _, _, _, _, _, _, _, _, _, _, (XO.frag hh F) 73 (k73 w.params) (by rfl)⟩, ⟨_, _, _, (XO.frag hh F) 72 (k72 w.params) (by rfl), rfl, strKeys_of (k72_str _), λ o_ => rfl⟩⟩, by show (if (73 : Nat) = 347 then none else h₁.get? 73).isSome; rw [if_neg (by decide), F 73 (k73 w.params) (by rfl)]; rfl⟩
theorem isCls298 (F : (Kq w.params).In h₁) : IsCls (XO w h₁) 298 297 (mSq w.params) :=
  ⟨λ h hh => ⟨⟨_, _, _, _, _, _, _, _, _, _, _, _, (XO.frag hh F) 298 (k298 w.params) (by rfl)⟩, ⟨_, _, _, (XO.frag hh F) 297 (k297 w.params) (by rfl), rfl, strKeys_of (k297_str _), λ o_ => rfl⟩⟩, by show (if (298 : Nat) = 347 then none else h₁.get? 298).isSome; rw [if_neg (by decide), F 298 (k298 w.params) (by rfl)]; rfl⟩
end
end
section
open PySem.W.X
section
variable {w : World} {h₁ : Heap} {mg mb : Str -> Option Value}
structure Seen (w : World) (h₁ : Heap) (mg mb : Str -> Option Value) : Prop where
  F : (Kq w.params).In h₁
  g : h₁.Ns mainGlobals mg
  b : h₁.Ns builtinsNs mb
  bi : ∀ x : Str, x ≠ "__name__" -> mb x = bootBuiltins x
  nl : h₁.NoLimit
  st : ∃ mc, h₁.Ns cStatics mc /\ mc "thirdparty.any" = none
  sy : ∃ o, h₁.get? sysModules = some o
  cd : ∀ p ∈ cdsQ, zw (h₁.get? p.1) = some p.2
  hd : CodeHd h₁ 351 347
  bm : ∃ bm ob, mg "__builtins__" = some (.ref bm) /\ bm ≠ builtinsNs /\ h₁.get? bm = some ob /\ ob.cls = .type "module" /\ ob.dict = some builtinsNs /\ ob.data = .plain
theorem Seen.mg_at (Z : Seen w h₁ mg mb) (x : Str) : mg x = nsFind (esOf (k3 w.params)) x := by
  obtain ⟨o, es, ep, ho, hd, hs, hf⟩ := Z.g
  have e3 := Z.F 3 (k3 w.params) (by rfl)
  have : o = k3 w.params := Option.some.inj (ho.symm.trans e3)
  subst this
  have : es = esOf (k3 w.params) := by
    unfold esOf; rw [hd]
  subst this
  exact (hf x).symm
theorem Seen.glob (Z : Seen w h₁ mg mb) {x : Str} {v : Value} (e : nsFind (esOf (k3 w.params)) x = some v) : yg (XO w h₁) mainGlobals x v := λ h hk => ⟨mg, XO.ns hk (by decide) Z.g, (Z.mg_at x).trans e⟩
theorem Seen.bltn (Z : Seen w h₁ mg mb) {x : Str} {v : Value} (e : nsFind (esOf (k3 w.params)) x = none) (e' : bootBuiltins x = some v) (hx : x ≠ "__name__") : qG (XO w h₁) mainGlobals builtinsNs x v := λ h hk => ⟨mg, mb, XO.ns hk (by decide) Z.g, (Z.mg_at x).trans e, XO.ns hk (by decide) Z.b, (Z.bi x hx).trans e'⟩
theorem b_set : bootBuiltins "set" = some (.type "set") := by kernel_rfl
theorem b_tuple : bootBuiltins "tuple" = some (.type "tuple") := by kernel_rfl
theorem b_list : bootBuiltins "list" = some (.type "list") := by kernel_rfl
theorem b_map : bootBuiltins "map" = some (.type "map") := by kernel_rfl
theorem b_range : bootBuiltins "range" = some (.type "range") := by kernel_rfl
theorem b_enumerate : bootBuiltins "enumerate" = some (.type "enumerate") := by kernel_rfl
theorem b_len : bootBuiltins "len" = some (.builtin "len") := by kernel_rfl
theorem b_sorted : bootBuiltins "sorted" = some (.builtin "sorted") := by kernel_rfl
theorem Seen.topK (Z : Seen w h₁ mg mb) : TopK (XO w h₁) := ⟨λ h hk => XO.frag hk Z.F, λ h hk => let ⟨mc, n, e⟩ := Z.st; ⟨mc, XO.ns hk (by decide) n, e⟩⟩
theorem Seen.sysIn (Z : Seen w h₁ mg mb) : qr (XO w h₁) := by
  obtain ⟨o, e⟩ := Z.sy
  exact ⟨o, by show (if sysModules = 347 then none else h₁.get? sysModules) = some o; rw [if_neg (by decide)]; exact e⟩
theorem Seen.flagsK (Z : Seen w h₁ mg mb) : FlagsK (XO w h₁) (mFq w.params) where
  cls := isCls73 Z.F
  ga := by rfl
  gt := by rfl
  fl := by rfl
  pf := by rfl
  sa := by rfl
  mi := by rfl
  ms := by rfl
  mu := by rfl
  mq := by rfl
  di := zk (c := 34) Z.F Z.nl (by rfl) (by rfl) (Z.cd (34, "Flags.__init__") (List.mem_of_getElem? (i := 0) rfl)) (by decide) (by decide) (by rfl) (by rfl) (by rfl) (by rfl)
  ds := zk (c := 62) Z.F Z.nl (by rfl) (by rfl) (Z.cd (62, "Flags.set") (List.mem_of_getElem? (i := 2) rfl)) (by decide) (by decide) (by rfl) (by rfl) (by rfl) (by rfl)
  du := zk (c := 55) Z.F Z.nl (by rfl) (by rfl) (Z.cd (55, "Flags.unset_all") (List.mem_of_getElem? (i := 1) rfl)) (by decide) (by decide) (by rfl) (by rfl) (by rfl) (by rfl)
  dq := zk (c := 69) Z.F Z.nl (by rfl) (by rfl) (Z.cd (69, "Flags.is_") (List.mem_of_getElem? (i := 3) rfl)) (by decide) (by decide) (by rfl) (by rfl) (by rfl) (by rfl)
  fc := λ f hf => by
    simp only [List.mem_cons, List.not_mem_nil, or_false] at hf
    rcases hf with rfl | rfl | rfl | rfl
    . exact fc_of (fd := fFInit) Z.F (by rfl) (by decide)
    . exact fc_of (fd := fSet) Z.F (by rfl) (by decide)
    . exact fc_of (fd := fUnset) Z.F (by rfl) (by decide)
    . exact fc_of (fd := fIs) Z.F (by rfl) (by decide)
theorem Seen.smK (Z : Seen w h₁ mg mb) : SMK (XO w h₁) (mSq w.params) where
  cls := isCls298 Z.F
  ga := by rfl
  gt := by rfl
  sa := by rfl
  no := λ y hy => by
    simp only [List.mem_cons, List.not_mem_nil, or_false] at hy
    rcases hy with rfl | rfl | rfl | rfl | rfl | rfl | rfl | rfl | rfl | rfl <;> rfl
theorem Seen.smF (Z : Seen w h₁ mg mb) : SMF (XO w h₁) (mSq w.params) where
  di := zk (c := 215) Z.F Z.nl (by rfl) (by rfl) (Z.cd (215, "SequenceMatcher.__init__") (List.mem_of_getElem? (i := 6) rfl)) (by decide) (by decide) (by rfl) (by rfl) (by rfl) (by rfl)
  ds := zk (c := 222) Z.F Z.nl (by rfl) (by rfl) (Z.cd (222, "SequenceMatcher.set_seqs") (List.mem_of_getElem? (i := 7) rfl)) (by decide) (by decide) (by rfl) (by rfl) (by rfl) (by rfl)
  d1 := zk (c := 229) Z.F Z.nl (by rfl) (by rfl) (Z.cd (229, "SequenceMatcher.set_seq1") (List.mem_of_getElem? (i := 8) rfl)) (by decide) (by decide) (by rfl) (by rfl) (by rfl) (by rfl)
  d2 := zk (c := 236) Z.F Z.nl (by rfl) (by rfl) (Z.cd (236, "SequenceMatcher.set_seq2") (List.mem_of_getElem? (i := 9) rfl)) (by decide) (by decide) (by rfl) (by rfl) (by rfl) (by rfl)
  dc := zk (c := 243) Z.F Z.nl (by rfl) (by rfl) (Z.cd (243, "SequenceMatcher.__chain_b") (List.mem_of_getElem? (i := 10) rfl)) (by decide) (by decide) (by rfl) (by rfl) (by rfl) (by rfl)
  df := zk (c := 251) Z.F Z.nl (by rfl) (by rfl) (Z.cd (251, "SequenceMatcher.find_longest_match") (List.mem_of_getElem? (i := 11) rfl)) (by decide) (by decide) (by rfl) (by rfl) (by rfl) (by rfl)
  db := zk (c := 258) Z.F Z.nl (by rfl) (by rfl) (Z.cd (258, "SequenceMatcher.get_matching_blocks") (List.mem_of_getElem? (i := 12) rfl)) (by decide) (by decide) (by rfl) (by rfl) (by rfl) (by rfl)
  mi := by rfl
  ms := by rfl
  m1 := by rfl
  m2 := by rfl
  mc := by rfl
  mf := by rfl
  mb := by rfl
  fc := λ f hf => by
    simp only [List.mem_cons, List.not_mem_nil, or_false] at hf
    rcases hf with rfl | rfl | rfl | rfl | rfl | rfl | rfl
    . exact fc_of (fd := fSInit) Z.F (by rfl) (by decide)
    . exact fc_of (fd := fSeqs) Z.F (by rfl) (by decide)
    . exact fc_of (fd := fSeq1) Z.F (by rfl) (by decide)
    . exact fc_of (fd := fSeq2) Z.F (by rfl) (by decide)
    . exact fc_of (fd := fChain) Z.F (by rfl) (by decide)
    . exact fc_of (fd := fFind) Z.F (by rfl) (by decide)
    . exact fc_of (fd := fBlk) Z.F (by rfl) (by decide)
theorem Seen.smW (Z : Seen w h₁ mg mb) : SMW (XO w h₁) (mSq w.params) where
  sys := Z.sysIn
  top := Z.topK
  k := Z.smK
  f := Z.smF
  set_ := Z.bltn (by rfl) b_set (by decide)
  en := Z.bltn (by rfl) b_enumerate (by decide)
  len := Z.bltn (by rfl) b_len (by decide)
theorem Seen.mtW (Z : Seen w h₁ mg mb) : MtW (XO w h₁) 190 (mMq w.params) where
  g := Z.glob (by rfl)
  n := zk (c := 137) Z.F Z.nl (by rfl) (by rfl) (Z.cd (137, "Match.__new__") (List.mem_of_getElem? (i := 4) rfl)) (by decide) (by decide) (by rfl) (by rfl) (by rfl) (by rfl)
  dm := zk (c := 144) Z.F Z.nl (by rfl) (by rfl) (Z.cd (144, "Match._make") (List.mem_of_getElem? (i := 5) rfl)) (by decide) (by decide) (by rfl) (by rfl) (by rfl) (by rfl)
  tup := Z.bltn (by rfl) b_tuple (by decide)
  range := Z.bltn (by rfl) b_range (by decide)
  list := Z.bltn (by rfl) b_list (by decide)
  map := Z.bltn (by rfl) b_map (by decide)
theorem Seen.runK (Z : Seen w h₁ mg mb) : RunK (XO w h₁) (mSq w.params) (mFq w.params) 190 (mMq w.params) where
  w := Z.smW
  m := Z.mtW
  f := Z.flagsK
  lim := λ h hk => let ⟨mc, n, e⟩ := Z.nl; ⟨mc, XO.ns hk (by decide) n, e⟩
  dDo := zk (c := 315) Z.F Z.nl (by rfl) (by rfl) (Z.cd (315, "_law_do") (List.mem_of_getElem? (i := 14) rfl)) (by decide) (by decide) (by rfl) (by rfl) (by rfl) (by rfl)
  gDo := Z.glob (by rfl)
  dTold := zk (c := 344) Z.F Z.nl (by rfl) (by rfl) (Z.cd (344, "_law_told") (List.mem_of_getElem? (i := 19) rfl)) (by decide) (by decide) (by rfl) (by rfl) (by rfl) (by rfl)
  gTold := Z.glob (by rfl)
  gFl := Z.glob (by rfl)
  gSM := Z.glob (by rfl)
  bb := by
    obtain ⟨bm, ob, b1, b2, b3, b4, b5, b6⟩ := Z.bm
    have e4 : bm = 4 := by
      rw [Z.mg_at] at b1
      have : nsFind (esOf (k3 w.params)) "__builtins__" = some (.ref 4) := by rfl
      rw [this] at b1; cases b1; rfl
    subst e4
    refine ⟨_, λ h hk => ⟨mg, XO.ns hk (by decide) Z.g, ⟨4, ob, b1, b2, by decide, by decide, XO.kept_of hk (by decide) b3, b4, b5, b6⟩, rfl, ?_, by decide⟩⟩
    obtain ⟨o, vs, file, tf, flags, tg, inF, text, tt, e, r⟩ := Z.hd
    exact ⟨o, vs, file, tf, flags, tg, inF, text, tt, XO.kept_of hk (by decide) e, r⟩
theorem Seen.lawK (Z : Seen w h₁ mg mb) : LawK (XO w h₁) (mSq w.params) (mFq w.params) 190 (mMq w.params) where
  r := Z.runK
  dRun := zk (c := 351) Z.F Z.nl (by rfl) (by rfl) (Z.cd (351, "_law_run") (List.mem_of_getElem? (i := 20) rfl)) (by decide) (by decide) (by rfl) (by rfl) (by rfl) (by rfl)
  gRun := Z.glob (by rfl)
  dDr := zk (c := 308) Z.F Z.nl (by rfl) (by rfl) (Z.cd (308, "_law_drawn") (List.mem_of_getElem? (i := 13) rfl)) (by decide) (by decide) (by rfl) (by rfl) (by rfl) (by rfl)
  gDr := Z.glob (by rfl)
  dMa := zk (c := 320) Z.F Z.nl (by rfl) (by rfl) (Z.cd (320, "_law_marks") (List.mem_of_getElem? (i := 15) rfl)) (by decide) (by decide) (by rfl) (by rfl) (by rfl) (by rfl)
  gMa := Z.glob (by rfl)
  dJu := zk (c := 327) Z.F Z.nl (by rfl) (by rfl) (Z.cd (327, "_law_junk") (List.mem_of_getElem? (i := 16) rfl)) (by decide) (by decide) (by rfl) (by rfl) (by rfl) (by rfl)
  gJu := Z.glob (by rfl)
  dBe := zk (c := 334) Z.F Z.nl (by rfl) (by rfl) (Z.cd (334, "_law_best") (List.mem_of_getElem? (i := 17) rfl)) (by decide) (by decide) (by rfl) (by rfl) (by rfl) (by rfl)
  gBe := Z.glob (by rfl)
  dBl := zk (c := 339) Z.F Z.nl (by rfl) (by rfl) (Z.cd (339, "_law_blocks") (List.mem_of_getElem? (i := 18) rfl)) (by decide) (by decide) (by rfl) (by rfl) (by rfl) (by rfl)
  gBl := Z.glob (by rfl)
  so := Z.bltn (by rfl) b_sorted (by decide)
theorem Seen.dLaw (Z : Seen w h₁ mg mb) : IsDef (XO w h₁) 359 fLaw (bodyOf fLaw) := zk (c := 358) Z.F Z.nl (by rfl) (by rfl) (Z.cd (358, "law") (List.mem_of_getElem? (i := 21) rfl)) (by decide) (by decide) (by rfl) (by rfl) (by rfl) (by rfl)
end
end
section
open PySem.W.X
theorem items_ints {R : WRecords} : ∀ {xs : List WData}, WShape.hasItems R xs .int = true -> ∃ ns : List Int, xs = ns.map .int
  | [], _ => ⟨[], rfl⟩
  | x :: xs, h => by
    have h' : WShape.has R x .int = true /\ WShape.hasItems R xs .int = true := by simpa [WShape.hasItems] using h
    obtain ⟨i, rfl⟩ := hasW_int h'.1
    obtain ⟨ns, rfl⟩ := items_ints h'.2
    exact ⟨i :: ns, rfl⟩
theorem reads_ints {R : WRecords} {cl : Str -> Option Addr} {h : Heap} : ∀ {vs : List Value} {ns : List Int} {as : List Addr}, ReadsAllW R cl h vs (ns.map .int) as -> vs.map er = qo ns
  | [], [], _, _ => rfl
  | [], _ :: _, _, r => by cases r
  | _ :: _, [], _, r => by cases r
  | v :: vs, n :: ns, _, r => by
    cases r with
    | cons r1 r2 =>
      cases r1
      show _ :: vs.map er = _ :: qo ns
      rw [reads_ints r2]; rfl
theorem name_keep {h h' : Heap} {c : Addr} {q : Str} (k : ∀ b o, h.get? b = some o -> h'.get? b = some o) (e : zw (h.get? c) = some q) : zw (h'.get? c) = some q := by
  cases ho : h.get? c with
  | none => rw [ho] at e; cases e
  | some o => rw [ho] at e; rw [k _ _ ho]; exact e
set_option tactic.hygienic true in
theorem seen_of {w : World} {s0 s1z : Shared} {mg mb : Str -> Option Value} {XP : (Str -> Option Value) -> Heap -> Prop} {R : WRecords} (G : Ground qv jV R XP w s0 mg mb s1z.heap) (Y : obsQ s0 = valQ w) (k : ∀ b o, s0.heap.get? b = some o -> s1z.heap.get? b = some o) : Seen w s1z.heap mg mb where
  F := Frag.In.keeps (Frag.in_of (as := asQ) rfl (congrArg Prod.fst Y)) k
  g := G.T.g
  b := G.T.b
  bi := G.T.builtins
  nl := G.T.nolimit
  st := by
    have e : (s0.heap.get? 2).map stP = some true := congrArg (λ x => x.2.2.2.2.2) Y
    obtain ⟨mc, ⟨o, es, ep, ho, hd, hs, hf⟩, _⟩ := G.T.nolimit
    cases h2 : s0.heap.get? 2 with
    | none => rw [h2] at e; cases e
    | some o' =>
      rw [h2] at e
      have := k _ _ h2
      have hoo : o = o' := Option.some.inj (ho.symm.trans this)
      subst hoo
      refine ⟨nsFind es, ⟨o, es, ep, ho, hd, hs, λ o_ => rfl⟩, ?_⟩
      have e' : stP o = true := Option.some.inj e
      unfold stP at e'
      rw [hd] at e'
      exact Option.isNone_iff_eq_none.mp e'
  sy := by
    obtain ⟨mm, ⟨o, es, ep, ho, _⟩, _⟩ := (G.T.seer (by kernel_rfl)).mods
    exact ⟨o, ho⟩
  cd := λ p hp => by
    have e : cdsQ.map (λ c => zw (s0.heap.get? c.1)) = cdsQ.map (λ c => some c.2) := congrArg (λ x => x.2.1) Y
    exact name_keep k (List.map_inj_left.mp e p hp)
  hd := by
    have e : (s0.heap.get? 351).map codeP = some (some (.type "code", [some (.ref 347), some (.str "/claim/cut.py" 753), some (.int 3 0), some (.bool true), some (.int 181 0)])) := congrArg (λ x => x.2.2.2.1) Y
    cases h2 : s0.heap.get? 351 with
    | none => rw [h2] at e; cases e
    | some o =>
      rw [h2] at e
      have e := Option.some.inj e
      unfold codeP at e
      split at e
      . rename_i vs hd
        have e := Option.some.inj e
        have e1 := congrArg Prod.fst e
        have e2 := congrArg Prod.snd e
        dsimp only at e1 e2
        simp only [List.cons.injEq, and_true] at e2
        obtain ⟨a1, a2, a3, a4, a5⟩ := e2
        refine ⟨o, vs, "/claim/cut.py", 753, 3, 0, true, 181, 0, k _ _ h2, e1, hd, a1, ?_, ?_, ?_, ?_, ?_, by decide⟩
        . rw [Array.getD_eq_getD_getElem?, a1]; rfl
        . rw [Array.getD_eq_getD_getElem?, a2]; rfl
        . rw [Array.getD_eq_getD_getElem?, a3]; rfl
        . rw [Array.getD_eq_getD_getElem?, a4]; rfl
        . rw [Array.getD_eq_getD_getElem?, a5]; rfl
      . cases e
  bm := G.T.bmain
theorem post_true (a : List WData) : rO.claim.post a (.bool true) a = true := by
  have h1 : WShape.has rO.records (.bool true) .bool = true := by rfl
  have h2 : WTm.holds rO.records (.eq .res (.lit (.bool true))) { args := a, res := some (.bool true), after := a } = true :=
    (holdsW_of_value (X := (true == true)) (w_eq_bool (e := { args := a, res := some (.bool true), after := a }) (w_res rfl) w_lit)).trans rfl
  exact Bool.and_eq_true_iff.mpr ⟨h1, h2⟩
theorem join : WalkX qv jV (λ o_ o_ => True) obsQ valQ rO.toRowW lawD [] λ f vs => PySem.call f vs := by
  intro w s0 s1z mg mb G Y a o pm cd doc dV kV hget hdata hcr hdf hmg hgens args vals as L hpre hlay hreads hwell hne
  have Z := seen_of G Y L.keeps
  have ha : a = 359 := by
    rw [Z.mg_at] at hmg
    have : nsFind (esOf (k3 w.params)) "law" = some (.ref 359) := by rfl
    have hmg : nsFind (esOf (k3 w.params)) "law" = some (.ref a) := hmg
    rw [this] at hmg; cases hmg; rfl
  subst ha
  have h347 : s1z.heap.get? 347 = some (tabObj #[]) := L.keeps _ _ (congrArg (λ x => x.2.2.2.2.1) Y)
  obtain ⟨p1, p2⟩ := pre_splitW hpre
  obtain ⟨d, r, rfl, p3, p4⟩ := hasAllW_cons p1
  obtain rfl := hasAllW_nil p4
  obtain ⟨xs, rfl, p5⟩ := hasW_list p3
  obtain ⟨ns, rfl⟩ := items_ints p5
  have l0 : ns.length <= 63 := by
    have := condW_of p2 (w_and (w_not (w_lt w_lit (w_len_list (w_arg rfl)))) w_lit)
    rw [Bool.and_true, Bool.not_eq_true', decide_eq_false_iff_not] at this
    rw [List.length_map] at this
    ac_nf
  cases hreads with
  | cons r1 r2 =>
    cases r2
    cases r1 with
    | @list sc ol vs n _ as' ho hc hd hr =>
      have hsc3 : sc ≠ 347 := λ q => by
        rw [q, h347] at ho; cases ho; cases hc
      refine wpAny_mono (law_top (ns0 := ns) (sc := sc) ⟨rfl, by decide, by decide⟩ Z.lawK Z.dLaw ⟨vs, λ h hk => ⟨ol, XO.kept_of hk hsc3 ho, hc, n, hd⟩, reads_ints hr⟩ l0 (λ b o e => ?_) (if_pos rfl) h347 hgens) (λ v s' h' => ?_) λ o_ o_ x => x.elim
      . by_cases q : b = 347
        . have e : (if b = 347 then none else s1z.heap.get? b) = some o := e
          rw [if_pos q] at e; cases e
        . have e : (if b = 347 then none else s1z.heap.get? b) = some o := e
          rw [if_neg q] at e; exact e
      . obtain ⟨rfl, hk, ⟨ps, h7⟩, hg, hos⟩ := h'
        have hk' : ∀ b o, b ≠ 347 -> s1z.heap.get? b = some o -> s'.heap.get? b = some o := λ b o hb e => hk b o (by show (if b = 347 then none else s1z.heap.get? b) = some o; rw [if_neg hb]; exact e)
        refine ⟨.inl ⟨_, .bool true, [], rfl, λ cls => rfl, .bool true, ?_, λ o_ => ⟨List.nodup_nil, λ a ha => (nomatch ha)⟩⟩, ⟨λ b o e => ?_, λ b o e => ?_⟩, hos, AllBare.of_eq hg⟩
        . exact post_true _
        . by_cases q : b = 347
          . subst q
            rw [h347] at e; cases e
            refine .inr (.inl ⟨?_, rfl, #[], ps, rfl, ?_⟩)
            . obtain ⟨oc, vsc, _, _, _, _, _, _, _, e1, e2, e3, e4, _⟩ := Z.hd
              exact ⟨351, oc, vsc, e1, e2, e3, e4⟩
            . rw [h7]; simp
          . exact .inl (hk' b o q e)
        . by_cases q : b = 347
          . subst q; exact ⟨_, h7⟩
          . exact ⟨o, hk' b o q e⟩
theorem fin_ : PySem.Challenge.rw_ij0191_01.Holds := law_of join
end
end Mine
end
theorem PySem.Challenge.cw_ij0191_01_holds : PySem.Challenge.rw_ij0191_01.Holds :=
  Mine.fin_
