import PyProof.Rows.All
import Wide.All
import OpenK.AllK
import Wide.FinOn
import KE.KSortAsk
import KE.KSortTup
import Lean
import PySem.Challenge.RW_pd0121_01
open PySem PySem.W PyProof.Rows
set_option Elab.async false
set_option maxRecDepth 100000
set_option linter.all false
namespace Mine
theorem bb {P : Bool → Prop} (f : P false) (t : P true) (b : Bool) : P b := Bool.rec f t b
set_option hygiene false in
local macro_rules | `(tactic| walk_at "r") => `(tactic| (revert b1; refine bb ?_ ?_ <;> (intros; kernel_rfl)))
section
variable {α γ : Type} {Q : List α → Prop}
noncomputable def spT (α γ : Type) (n : Nat) : Type := Nat.rec (γ × γ) (fun _ T => (γ × γ) × (α → T)) n
noncomputable def spL (n : Nat) : (∀ l : List α, l.length ≤ n → Bool → γ) → spT α γ n := Nat.rec (motive := fun n => (∀ l : List α, l.length ≤ n → Bool → γ) → spT α γ n) (fun f => (f [] (Nat.le_refl _) true, f [] (Nat.le_refl _) false)) (fun n ih f => ((f [] (Nat.zero_le _) true, f [] (Nat.zero_le _) false), fun a => ih fun l h => f (a :: l) (Nat.succ_le_succ h))) n
noncomputable def sL (n : Nat) (p : ∀ l, l.length ≤ n → Q l) (f : ∀ l, Q l → Bool → γ) : spT α γ n := spL n fun l h => f l (p l h)
noncomputable def spR (n : Nat) (p : ∀ l, l.length ≤ n → Q l) (f : ∀ l, Q l → Bool → γ) : spT α γ n := Nat.rec (motive := fun n => (∀ l : List α, l.length ≤ n → Bool → γ) → spT α γ n) (fun f => (f [] (Nat.le_refl _) true, f [] (Nat.le_refl _) false)) (fun n ih f => ((f [] (Nat.zero_le _) true, f [] (Nat.zero_le _) false), fun a => ih fun l h => f (a :: l) (Nat.succ_le_succ h))) n fun l h => f l (p l h)
theorem spL_inj : ∀ (n : Nat) (f g : ∀ l : List α, l.length ≤ n → Bool → γ), spL n f = spL n g → ∀ l h b, f l h b = g l h b
  | 0, f, g, e, [], h, true => congrArg Prod.fst e
  | 0, f, g, e, [], h, false => congrArg Prod.snd e
  | n + 1, f, g, e, [], h, true => congrArg (fun x => x.1.1) e
  | n + 1, f, g, e, [], h, false => congrArg (fun x => x.1.2) e
  | n + 1, f, g, e, a :: l, h, b => spL_inj n (fun l h => f (a :: l) (Nat.succ_le_succ h)) (fun l h => g (a :: l) (Nat.succ_le_succ h)) (congrFun (congrArg Prod.snd e) a) l (Nat.le_of_succ_le_succ h) b
theorem tw {f g : ∀ l, Q l → Bool → γ} (n : Nat) (p : ∀ l, l.length ≤ n → Q l) (h : sL n p f = spR n p g) (q : ∀ l, Q l → l.length ≤ n) (b : Bool) (l : List α) (k : Q l) : f l k b = g l k b :=
  spL_inj n (fun l h => f l (p l h)) (fun l h => g l (p l h)) h l (q l k) b
end
abbrev Rw : Type := List (Addr × Obj)
noncomputable abbrev rf (a : Addr) : Value := .ref a
noncomputable abbrev vs (s : Str) (t : Tok) : Value := .str s t
noncomputable abbrev vi (n : Int) (t : Tok) : Value := .int n t
noncomputable abbrev vo (n : Nat) (t : Tok) : Value := .int (Int.ofNat n) t
noncomputable abbrev nn : Value := .none
noncomputable abbrev S (l : List Nat) : Str := ⟨⟨l⟩⟩
noncomputable abbrev z2 : Str := S [104, 101, 97, 112]
noncomputable abbrev z3 : Str := S [109, 111, 118, 101, 115]
noncomputable abbrev z4 : Str := S [115, 116, 97, 114, 116, 112, 111, 115]
noncomputable abbrev z5 : Str := S [112, 111, 115]
noncomputable abbrev z6 : Str := S [110, 101, 119, 105, 116, 101, 109]
noncomputable abbrev z7 : Str := S [114, 97, 110, 107]
noncomputable abbrev z8 : Str := S [119, 97, 121]
noncomputable abbrev z9 : Str := S [112, 108, 97, 99, 101, 115]
noncomputable abbrev z11 : Str := S [114, 111, 111, 116]
noncomputable abbrev z12 : Str := S [110, 97, 109, 101, 115]
noncomputable abbrev z13 : Str := S [46, 46]
noncomputable abbrev z14 : Str := S [119, 111, 114, 100, 115]
noncomputable abbrev z15 : Str := S [110, 97, 109, 101]
noncomputable abbrev z16 : Str := S [112, 97, 116, 104]
noncomputable abbrev z17 : Str := S [115, 101, 112]
noncomputable abbrev z18 : Str := S [100, 111, 116]
noncomputable abbrev z19 : Str := S [100, 111, 116, 100, 111, 116]
noncomputable abbrev z20 : Str := S [105, 110, 105, 116, 105, 97, 108, 95, 115, 108, 97, 115, 104, 101, 115]
noncomputable abbrev z21 : Str := S [99, 111, 109, 112, 115]
noncomputable abbrev z22 : Str := S [110, 101, 119, 95, 99, 111, 109, 112, 115]
noncomputable abbrev z23 : Str := S [47, 99, 108, 97, 105, 109, 47, 99, 117, 116, 46, 112, 121]
noncomputable abbrev z25 : Str := S [101, 110, 100, 112, 111, 115]
noncomputable abbrev z26 : Str := S [99, 104, 105, 108, 100, 112, 111, 115]
noncomputable abbrev z29 : Str := S [99, 111, 109, 112]
noncomputable abbrev z30 : Str := S [112, 97, 114, 101, 110, 116, 112, 111, 115]
noncomputable abbrev z31 : Str := S [112, 97, 114, 101, 110, 116]
noncomputable abbrev z32 : Str := S [115, 99, 114, 105, 112, 116]
noncomputable abbrev z34 : Str := S [114, 105, 103, 104, 116, 112, 111, 115]
noncomputable abbrev z36 : Str := S [112, 108, 97, 99, 101]
noncomputable abbrev z37 : Str := S [47, 47]
noncomputable abbrev z38 : Str := S [116, 117, 114, 110]
noncomputable abbrev z39 : Str := S [106, 111, 105, 110, 46, 60, 108, 111, 99, 97, 108, 115, 62, 46, 60, 103, 101, 110, 101, 120, 112, 114, 62, 46]
noncomputable abbrev z40 : Str := S [46, 48]
noncomputable abbrev z41 : Str := S [60, 103, 101, 110, 101, 120, 112, 114, 62]
noncomputable abbrev z42 : Str := S [106, 111, 105, 110, 46, 60, 108, 111, 99, 97, 108, 115, 62, 46, 60, 103, 101, 110, 101, 120, 112, 114, 62]
noncomputable abbrev z43 : Str := S [109, 101, 110, 117]
noncomputable abbrev z44 : Str := S [95, 95, 100, 111, 99, 95, 95]
noncomputable abbrev z45 : Str := S [95, 108, 97, 119, 95, 109, 111, 118, 101, 115, 46, 60, 108, 111, 99, 97, 108, 115, 62, 46]
noncomputable abbrev z46 : Str := S [106, 111, 105, 110]
noncomputable abbrev z48 : Str := S [39, 34]
noncomputable abbrev z49 : Str := S [99, 112, 121, 51, 49, 51, 46, 115, 104, 108, 101, 120]
noncomputable abbrev z50 : Str := S [108, 97, 115, 116, 101, 108, 116]
noncomputable abbrev z51 : Str := S [114, 101, 116, 117, 114, 110, 105, 116, 101, 109]
noncomputable abbrev z52 : Str := S [95, 95, 105, 110, 105, 116, 95, 95]
noncomputable abbrev z53 : Str := S [115, 101, 108, 102]
noncomputable abbrev z54 : Str := S [32, 9, 13, 10]
noncomputable abbrev z55 : Str := S [97, 114, 103]
noncomputable abbrev z56 : Str := S [39, 34, 39, 34, 39]
noncomputable abbrev z57 : Str := S [105, 111]
noncomputable abbrev z58 : Str := S [95, 95, 109, 111, 100, 117, 108, 101, 95, 95]
noncomputable abbrev z59 : Str := S [95, 95, 102, 105, 114, 115, 116, 108, 105, 110, 101, 110, 111, 95, 95]
noncomputable abbrev z60 : Str := S [95, 95, 115, 116, 97, 116, 105, 99, 95, 97, 116, 116, 114, 105, 98, 117, 116, 101, 115, 95, 95]
noncomputable abbrev z61 : Str := S [102, 115, 112, 97, 116, 104]
noncomputable abbrev z62 : Str := S [95, 103, 101, 116, 95, 115, 101, 112]
noncomputable abbrev z63 : Str := S [115, 112, 108, 105, 116, 114, 111, 111, 116]
noncomputable abbrev z64 : Str := S [110, 111, 114, 109, 112, 97, 116, 104]
noncomputable abbrev z65 : Str := S [115, 112, 108, 105, 116]
noncomputable abbrev z66 : Str := S [104, 101, 97, 112, 112, 117, 115, 104]
noncomputable abbrev z67 : Str := S [95, 115, 105, 102, 116, 100, 111, 119, 110]
noncomputable abbrev z68 : Str := S [104, 101, 97, 112, 112, 111, 112]
noncomputable abbrev z69 : Str := S [95, 115, 105, 102, 116, 117, 112]
noncomputable abbrev z70 : Str := S [95, 105, 110, 100, 101, 120]
noncomputable abbrev z71 : Str := S [66, 121, 116, 101, 115, 73, 79]
noncomputable abbrev z72 : Str := S [83, 116, 114, 105, 110, 103, 73, 79]
noncomputable abbrev z73 : Str := S [95, 95, 105, 116, 101, 114, 95, 95]
noncomputable abbrev z74 : Str := S [95, 95, 110, 101, 120, 116, 95, 95]
noncomputable abbrev z75 : Str := S [115, 104, 108, 101, 120]
noncomputable abbrev z76 : Str := S [113, 117, 111, 116, 101]
noncomputable abbrev z77 : Str := S [95, 108, 97, 119, 95, 109, 111, 118, 101, 115]
noncomputable abbrev z78 : Str := S [95, 108, 97, 119, 95, 108, 101, 100]
noncomputable abbrev z79 : Str := S [95, 108, 97, 119, 95, 100, 117, 101]
noncomputable abbrev z80 : Str := S [108, 97, 119]
noncomputable abbrev z81 : Str := S [112, 117, 110, 99, 116, 117, 97, 116, 105, 111, 110, 95, 99, 104, 97, 114, 115]
noncomputable abbrev z82 : Str := S [73, 79, 66, 97, 115, 101]
noncomputable abbrev z83 : Str := S [84, 101, 120, 116, 73, 79, 66, 97, 115, 101]
noncomputable abbrev z84 : Str := S [95, 95, 110, 97, 109, 101, 95, 95]
noncomputable abbrev z85 : Str := S [95, 95, 110, 101, 119, 95, 95]
noncomputable abbrev z86 : Str := S [114, 101, 97, 100]
noncomputable abbrev z87 : Str := S [112, 111, 115, 105, 120]
noncomputable abbrev z88 : Str := S [116, 111, 107, 101, 110]
noncomputable abbrev z89 : Str := S [103, 101, 116, 95, 116, 111, 107, 101, 110]
noncomputable abbrev z90 : Str := S [114, 101, 97, 100, 95, 116, 111, 107, 101, 110]
noncomputable abbrev z91 : Str := S [113, 117, 111, 116, 101, 100]
noncomputable abbrev z92 : Str := S [101, 115, 99, 97, 112, 101, 100, 115, 116, 97, 116, 101]
noncomputable abbrev z93 : Str := S [108, 105, 110, 101]
noncomputable abbrev z94 : Str := S [108, 97, 119, 95, 112, 100, 48, 49, 50, 49, 95, 48, 49]
noncomputable abbrev z95 : Str := S [95, 95, 112, 97, 99, 107, 97, 103, 101, 95, 95]
noncomputable abbrev z96 : Str := S [95, 95, 108, 111, 97, 100, 101, 114, 95, 95]
noncomputable abbrev z97 : Str := S [95, 95, 115, 112, 101, 99, 95, 95]
noncomputable abbrev z98 : Str := S [99, 112, 121, 51, 49, 51, 46, 112, 111, 115, 105, 120, 112, 97, 116, 104]
noncomputable abbrev z99 : Str := S [99, 112, 121, 51, 49, 51, 46, 104, 101, 97, 112, 113]
noncomputable abbrev z100 : Str := S [95, 95, 100, 105, 99, 116, 95, 95]
noncomputable abbrev z101 : Str := S [95, 95, 119, 101, 97, 107, 114, 101, 102, 95, 95]
noncomputable abbrev z125 : Str := S [95, 95, 116, 114, 97, 110, 115, 108, 97, 116, 101, 100]
noncomputable abbrev z126 : Str := S [95, 95, 99, 104, 101, 99, 107]
noncomputable abbrev z288 : Str := S [73, 79, 66, 97, 115, 101, 46, 95, 95, 110, 101, 119, 95, 95]
noncomputable abbrev z289 : Str := S [83, 116, 114, 105, 110, 103, 73, 79, 46, 95, 95, 105, 110, 105, 116, 95, 95]
noncomputable abbrev z290 : Str := S [83, 116, 114, 105, 110, 103, 73, 79, 46, 95, 95, 116, 114, 97, 110, 115, 108, 97, 116, 101, 100]
noncomputable abbrev z291 : Str := S [83, 116, 114, 105, 110, 103, 73, 79, 46, 95, 95, 99, 104, 101, 99, 107]
noncomputable abbrev z292 : Str := S [83, 116, 114, 105, 110, 103, 73, 79, 46, 114, 101, 97, 100]
noncomputable abbrev z313 : Str := S [115, 104, 108, 101, 120, 46, 95, 95, 105, 110, 105, 116, 95, 95]
noncomputable abbrev z314 : Str := S [115, 104, 108, 101, 120, 46, 112, 117, 110, 99, 116, 117, 97, 116, 105, 111, 110, 95, 99, 104, 97, 114, 115]
noncomputable abbrev z315 : Str := S [115, 104, 108, 101, 120, 46, 103, 101, 116, 95, 116, 111, 107, 101, 110]
noncomputable abbrev z316 : Str := S [115, 104, 108, 101, 120, 46, 114, 101, 97, 100, 95, 116, 111, 107, 101, 110]
noncomputable abbrev z317 : Str := S [115, 104, 108, 101, 120, 46, 95, 95, 105, 116, 101, 114, 95, 95]
noncomputable abbrev z318 : Str := S [115, 104, 108, 101, 120, 46, 95, 95, 110, 101, 120, 116, 95, 95]
noncomputable abbrev y0 : Value := Value.type PySem.W.SL.s658472552662922059x5
noncomputable abbrev y1 : Value := Value.type PySem.W.SL.s5856160107412720595x4
noncomputable abbrev y2 : Value := Value.type PySem.W.SL.s7174869446012820540x8
noncomputable abbrev y3 : Value := Value.type PySem.W.SL.s2766695959194262286x5
noncomputable abbrev y4 : Value := Value.type PySem.W.SL.s9222952809800978799x4
noncomputable abbrev y5 : Value := Value.type PySem.W.SL.s3492446563574874994x13
noncomputable abbrev y6 : Value := Value.type PySem.W.SL.s15992201931430999065x14
noncomputable abbrev y7 : Value := Value.type PySem.W.SL.s7929333955151719606x9
noncomputable abbrev y8 : Value := Value.type PySem.W.SL.s14018661285674007319x4
noncomputable abbrev y9 : Value := Value.type PySem.W.SL.s15660640913423913556x4
noncomputable abbrev y10 : Value := Value.type PySem.W.SL.s2742458400755230247x6
noncomputable abbrev y11 : Value := Value.type PySem.W.SL.s17162191345867700912x4
noncomputable abbrev y12 : Value := Value.type PySem.W.SL.s10852414792293593619x7
noncomputable abbrev y13 : Value := Value.type PySem.W.SL.s5991306692159431302x13
noncomputable abbrev y14 : Value := Value.type PySem.W.SL.s8101838861749082086x8
noncomputable abbrev y15 : Value := Value.type PySem.W.SL.s4674234679698826739x5
noncomputable abbrev y16 : Value := Value.type PySem.W.SL.s16656946322747308186x12
noncomputable abbrev dk (P : Params) (x : Str) (t : Tok) (v : Value) : DictEntry := DictEntry.mk (PyData.keyHash P x) (Value.str x t) v
noncomputable abbrev fO (n : Nat) (l : List DictEntry) : Obj := ⟨y0, none, .dict ⟨l⟩ n, ⟨[]⟩⟩
noncomputable def dg (n k : Nat) : List Nat := Nat.rec (motive := fun _ => Nat → List Nat) (fun _ => []) (fun _ ih k => (k % 16) :: ih (k / 16)) n k
inductive LT where
  | nil
  | node (a : Addr) (o : Obj) (l r : LT)
namespace LT
noncomputable def get (t : LT) : Nat → Option (Addr × Obj) :=
  LT.rec (motive := fun _ => Nat → Option (Addr × Obj)) (fun _ => none)
    (fun a o _ _ gl gr i => Bool.rec (motive := fun _ => Option (Addr × Obj))
      (Bool.rec (motive := fun _ => Option (Addr × Obj)) (gr (i / 2 - 1)) (gl (i / 2)) (Nat.beq (i % 2) 1)) (some (a, o)) (Nat.beq i 0)) t
noncomputable def set (t : LT) (f : Obj) : Nat → LT :=
  LT.rec (motive := fun _ => Nat → LT) (fun _ => .nil)
    (fun a o l r gl gr i => Bool.rec (motive := fun _ => LT)
      (Bool.rec (motive := fun _ => LT) (.node a o l (gr (i / 2 - 1))) (.node a o (gl (i / 2)) r) (Nat.beq (i % 2) 1)) (.node a f l r) (Nat.beq i 0)) t
noncomputable def ins (t : LT) (x : Addr) (y : Obj) : Nat → LT :=
  LT.rec (motive := fun _ => Nat → LT) (fun _ => .node x y .nil .nil)
    (fun a o l r gl gr i => Bool.rec (motive := fun _ => LT)
      (Bool.rec (motive := fun _ => LT) (.node a o l (gr (i / 2 - 1))) (.node a o (gl (i / 2)) r) (Nat.beq (i % 2) 1)) (.node x y l r) (Nat.beq i 0)) t
theorem beq_dec (a b : Nat) : Nat.beq a b = decide (a = b) := BT.beq_eq a b
theorem get_node (a : Addr) (o : Obj) (l r : LT) (i : Nat) : (node a o l r).get i = if i = 0 then some (a, o) else if i % 2 = 1 then l.get (i / 2) else r.get (i / 2 - 1) := by
  show Bool.rec (motive := fun _ => Option (Addr × Obj)) (Bool.rec (motive := fun _ => Option (Addr × Obj)) (r.get (i / 2 - 1)) (l.get (i / 2)) (Nat.beq (i % 2) 1)) (some (a, o)) (Nat.beq i 0) = _
  rw [beq_dec, beq_dec]
  by_cases h : i = 0
  · simp [h]
  · by_cases q : i % 2 = 1 <;> simp [h, q]
theorem set_node (f : Obj) (a : Addr) (o : Obj) (l r : LT) (i : Nat) : (node a o l r).set f i = if i = 0 then node a f l r else if i % 2 = 1 then node a o (l.set f (i / 2)) r else node a o l (r.set f (i / 2 - 1)) := by
  show Bool.rec (motive := fun _ => LT) (Bool.rec (motive := fun _ => LT) (.node a o l (r.set f (i / 2 - 1))) (.node a o (l.set f (i / 2)) r) (Nat.beq (i % 2) 1)) (.node a f l r) (Nat.beq i 0) = _
  rw [beq_dec, beq_dec]
  by_cases h : i = 0
  · simp [h]
  · by_cases q : i % 2 = 1 <;> simp [h, q]
theorem ins_node (x : Addr) (y : Obj) (a : Addr) (o : Obj) (l r : LT) (i : Nat) : (node a o l r).ins x y i = if i = 0 then node x y l r else if i % 2 = 1 then node a o (l.ins x y (i / 2)) r else node a o l (r.ins x y (i / 2 - 1)) := by
  show Bool.rec (motive := fun _ => LT) (Bool.rec (motive := fun _ => LT) (.node a o l (r.ins x y (i / 2 - 1))) (.node a o (l.ins x y (i / 2)) r) (Nat.beq (i % 2) 1)) (.node x y l r) (Nat.beq i 0) = _
  rw [beq_dec, beq_dec]
  by_cases h : i = 0
  · simp [h]
  · by_cases q : i % 2 = 1 <;> simp [h, q]
theorem e1 {i : Nat} (p : i % 2 = 1) : i = 2 * (i / 2) + 1 := by have a := Nat.div_add_mod i 2; rw [p] at a; exact a.symm
theorem e2 {i : Nat} (h : i ≠ 0) (p : ¬ i % 2 = 1) : i = 2 * (i / 2 - 1) + 2 := by
  have a := Nat.div_add_mod i 2
  rw [(Nat.mod_two_eq_zero_or_one i).resolve_right p] at a
  generalize i / 2 = q at a ⊢
  cases q with
  | zero => exact absurd a.symm h
  | succ q => exact a.symm
theorem get_set (f : Obj) : ∀ (t : LT) (i j : Nat), (t.set f i).get j = if j = i then (t.get i).map (fun x => (x.1, f)) else t.get j
  | .nil, i, j => by show none = _; by_cases h : j = i <;> simp [h] <;> rfl
  | .node a o l r, i, j => by
    have hl := get_set f l
    have hr := get_set f r
    rw [set_node, get_node a o l r i, get_node a o l r j]
    by_cases hi : i = 0
    · subst hi
      rw [if_pos rfl, get_node]
      by_cases hj : j = 0 <;> simp [hj]
    · rw [if_neg hi]
      by_cases pi : i % 2 = 1
      · rw [if_pos pi, get_node]
        by_cases hj : j = 0
        · have : j ≠ i := by omega
          simp [hj, Ne.symm hi]
        · by_cases pj : j % 2 = 1
          · simp only [hj, pj, hi, pi, if_true, if_false, hl]
            by_cases e : j = i
            · simp [e]
            · have : j / 2 ≠ i / 2 := fun q => e ((e1 pj).trans (q ▸ (e1 pi).symm))
              simp [e, this]
          · have : j ≠ i := fun q => pj (q ▸ pi)
            simp [hj, pj, this]
      · rw [if_neg pi, get_node]
        by_cases hj : j = 0
        · simp [hj, Ne.symm hi]
        · by_cases pj : j % 2 = 1
          · have : j ≠ i := fun q => pi (q ▸ pj)
            simp [hj, pj, this]
          · simp only [hj, pj, hi, pi, if_false, hr]
            by_cases e : j = i
            · simp [e]
            · have : j / 2 - 1 ≠ i / 2 - 1 := fun q => e ((e2 hj pj).trans (q ▸ (e2 hi pi).symm))
              simp [e, this]
theorem get_nil (i : Nat) : LT.nil.get i = none := rfl
theorem get_ins (x : Addr) (y : Obj) : ∀ (t : LT) (i : Nat), ((t.ins x y i).get i).isSome = true → ∀ j, (t.ins x y i).get j = if j = i then some (x, y) else t.get j
  | .nil, i, h, j => by
    have e : (LT.nil.ins x y i) = node x y nil nil := rfl
    rw [e, get_node] at h
    have hi : i = 0 := by
      by_cases q : i = 0
      · exact q
      · exfalso; revert h; by_cases p : i % 2 = 1 <;> simp [q, p, get_nil]
    subst hi
    rw [e, get_node]
    by_cases hj : j = 0
    · simp [hj]
    · by_cases p : j % 2 = 1 <;> simp [hj, p, get_nil]
  | .node a o l r, i, h, j => by
    have hl := get_ins x y l
    have hr := get_ins x y r
    rw [ins_node] at h ⊢
    rw [get_node a o l r j]
    by_cases hi : i = 0
    · subst hi
      rw [if_pos rfl, get_node]
      by_cases hj : j = 0 <;> simp [hj]
    · rw [if_neg hi] at h ⊢
      by_cases pi : i % 2 = 1
      · rw [if_pos pi] at h ⊢
        rw [get_node, if_neg hi, if_pos pi] at h
        rw [get_node]
        by_cases hj : j = 0
        · simp [hj, Ne.symm hi]
        · by_cases pj : j % 2 = 1
          · simp only [hj, pj, if_true, if_false, hl _ h]
            by_cases e : j = i
            · simp [e]
            · have : j / 2 ≠ i / 2 := fun q => e ((e1 pj).trans (q ▸ (e1 pi).symm))
              simp [e, this]
          · have : j ≠ i := fun q => pj (q ▸ pi)
            simp [hj, pj, this]
      · rw [if_neg pi] at h ⊢
        rw [get_node, if_neg hi, if_neg pi] at h
        rw [get_node]
        by_cases hj : j = 0
        · simp [hj, Ne.symm hi]
        · by_cases pj : j % 2 = 1
          · have : j ≠ i := fun q => pi (q ▸ pj)
            simp [hj, pj, this]
          · simp only [hj, pj, if_false, hr _ h]
            by_cases e : j = i
            · simp [e]
            · have : j / 2 - 1 ≠ i / 2 - 1 := fun q => e ((e2 hj pj).trans (q ▸ (e2 hi pi).symm))
              simp [e, this]
end LT
structure Rep (h₀ h : Heap) (U : List Addr) (N : Nat) (L : LT) (m : Nat) : Prop where
  lo : 922 ≤ N
  base : h₀.objs.size ≤ N
  size : h.objs.size = N + m
  own : ∀ i a o, L.get i = some (a, o) → h.get? a = some o ∧ (922 ≤ a ∨ a = 882) ∧ (a ∈ U ∨ h₀.objs.size ≤ a)
  inj : ∀ i j a o o', L.get i = some (a, o) → L.get j = some (a, o') → i = j
  keep : ∀ b o, h₀.get? b = some o → b ∉ U → h.get? b = some o
section
variable {h₀ h : Heap} {U : List Addr} {N m : Nat} {L : LT}
theorem Rep.eff {h' : Heap} (D : Rep h₀ h U N L m) (g : Nat) (hsz : h'.objs.size = h.objs.size + g) (hk : ∀ b o, h.get? b = some o → h'.get? b = some o) : Rep h₀ h' U N L (m + g) :=
  ⟨D.lo, D.base, by rw [hsz, D.size, Nat.add_assoc], fun i a o e => ⟨hk _ _ (D.own i a o e).1, (D.own i a o e).2⟩, D.inj, fun b o e q => hk _ _ (D.keep b o e q)⟩
theorem Rep.eff_upd {h' : Heap} {i : Nat} {a : Addr} {o o' : Obj} (D : Rep h₀ h U N L m) (g : Nat) (e : L.get i = some (a, o)) (hsz : h'.objs.size = h.objs.size + g)
    (hk : ∀ b o, h.get? b = some o → a ≠ b → h'.get? b = some o) (hg : h'.get? a = some o') : Rep h₀ h' U N (L.set o' i) (m + g) := by
  have ha := (D.own i a o e).2
  refine ⟨D.lo, D.base, by rw [hsz, D.size, Nat.add_assoc], fun j b o1 e1 => ?_, fun j k b o1 o2 e1 e2 => ?_, fun b o1 e1 q => ?_⟩
  · rw [LT.get_set] at e1
    by_cases hj : j = i
    · rw [if_pos hj, e] at e1
      cases e1
      exact ⟨hg, ha⟩
    · rw [if_neg hj] at e1
      have y := D.own j b o1 e1
      refine ⟨hk _ _ y.1 fun z => hj ?_, y.2⟩
      subst z
      exact D.inj j i _ o1 o e1 e
  · have key : ∀ j b o1, (L.set o' i).get j = some (b, o1) → ∃ o2, L.get j = some (b, o2) := by
      intro j b o1 q
      rw [LT.get_set] at q
      by_cases hj : j = i
      · rw [if_pos hj, e] at q
        cases q
        exact ⟨o, hj ▸ e⟩
      · rw [if_neg hj] at q
        exact ⟨_, q⟩
    obtain ⟨_, q1⟩ := key j b o1 e1
    obtain ⟨_, q2⟩ := key k b o2 e2
    exact D.inj j k b _ _ q1 q2
  · refine hk _ _ (D.keep b o1 e1 q) fun z => ?_
    subst z
    rcases ha.2 with h1 | h1
    · exact q h1
    · exact absurd (Heap.lt_size e1) (Nat.not_lt.mpr h1)
theorem Rep.eff_new {h' : Heap} {c : Nat} {o : Obj} (D : Rep h₀ h U N L m) (g : Nat) (hsz : h'.objs.size = h.objs.size + g) (hk : ∀ b o, h.get? b = some o → h'.get? b = some o)
    (hg' : h'.get? h.objs.size = some o) (hg : ((L.ins (N + m) o c).get c).isSome = true) : Rep h₀ h' U N (L.ins (N + m) o c) (m + g) := by
  have G := LT.get_ins (N + m) o L c hg
  have hlt : ∀ i a o', L.get i = some (a, o') → a < N + m := fun i a o' e => D.size ▸ Heap.lt_size (D.own i a o' e).1
  refine ⟨D.lo, D.base, by rw [hsz, D.size, Nat.add_assoc], fun i a o' e => ?_, fun i j a o1 o2 e1 e2 => ?_, fun b o' e q => hk _ _ (D.keep b o' e q)⟩
  · rw [G] at e
    by_cases hi : i = c
    · rw [if_pos hi] at e
      cases e
      exact ⟨by rw [← D.size]; exact hg', .inl (Nat.le_trans D.lo (Nat.le_add_right N m)), .inr (Nat.le_trans D.base (Nat.le_add_right N m))⟩
    · rw [if_neg hi] at e
      exact ⟨hk _ _ (D.own i a o' e).1, (D.own i a o' e).2⟩
  · rw [G] at e1 e2
    by_cases hi : i = c
    · rw [if_pos hi] at e1
      by_cases hj : j = c
      · rw [hi, hj]
      · rw [if_neg hj] at e2
        cases e1
        exact absurd (hlt j _ _ e2) (Nat.lt_irrefl _)
    · rw [if_neg hi] at e1
      by_cases hj : j = c
      · rw [if_pos hj] at e2
        cases e2
        exact absurd (hlt i _ _ e1) (Nat.lt_irrefl _)
      · rw [if_neg hj] at e2
        exact D.inj i j a o1 o2 e1 e2
theorem Rep.alloc (D : Rep h₀ h U N L m) {o : Obj} {c : Nat} (hf : o.isFreed = false) (hg : ((L.ins (N + m) o c).get c).isSome = true) : Rep h₀ (h.push o) U N (L.ins (N + m) o c) (m + 1) :=
  D.eff_new 1 (Heap.size_push ..) (fun _ _ e => Heap.get?_push_of_some _ e) (Heap.get?_push_size _ hf) hg
theorem Rep.updateF (D : Rep h₀ h U N L m) {i : Nat} {a : Addr} {o : Obj} {f : Obj → Obj} (e : L.get i = some (a, o)) (hf : (f o).isFreed = false) : Rep h₀ (h.update a f) U N (L.set (f o) i) m := by
  have hs : Heap.SameBut a h (h.update a f) := Heap.SameBut.update ..
  exact D.eff_upd 0 e hs.1 (fun b ob eb ne => (hs.2 b ne.symm).trans eb) (by first | exact Heap.get?_update_self f (D.own i a o e).1 hf | exact Heap.get?_update_self _ (D.own i a o e).1 hf)
theorem Rep.anew (D : Rep h₀ h U N L m) {L' : LT} (hL : ∀ i a o, L'.get i = some (a, o) → ∃ j, L.get j = some (a, o)) (hi : ∀ i j a o o', L'.get i = some (a, o) → L'.get j = some (a, o') → i = j) : Rep h₀ h U (N + m) L' 0 :=
  ⟨Nat.le_trans D.lo (Nat.le_add_right ..), Nat.le_trans D.base (Nat.le_add_right ..), D.size, fun i a o e => by obtain ⟨j, hj⟩ := hL i a o e; exact D.own j a o hj, hi, D.keep⟩
end
noncomputable abbrev prog : Program := PySem.Challenge.pw_pd0121_01
noncomputable abbrev tden : Code → Sem Fin := PySem.W.Fast.tw11892475500146522536 PySem.W.Fast.tw14364793385576792824
theorem tden_eq : denote table = tden := by
  rw [PySem.table_eq_tree, PySem.W.Fast.te14364793385576792824, PySem.W.Fast.te11892475500146522536]
inductive Kont where
  | base
  | ret (Γ : Ctx) (p : Pos) (k : Result → Sem Fin) (κ : Kont)
noncomputable def endOf (M : Model) (R : Result → Shared → Prop) : Kont → Result → Shared → Prop
  | .base => R
  | .ret Γ p k κ => fun r s => Sem.wp M Γ (k r) (Sem.finPost M Γ (endOf M R κ)) (fun e _ s' => endOf M R κ (.error e) s') p s
def Means (M : Model) (R : Result → Shared → Prop) (Γ : Ctx) (p : Pos) (κ : Kont) (t : Sem Fin) (s : Shared) : Prop :=
  Sem.wp M Γ t (Sem.finPost M Γ (endOf M R κ)) (fun e _ s' => endOf M R κ (.error e) s') p s
structure Eff (s s' : Shared) (upd : Option (Addr × Obj)) (new : Option Obj) (g j : Nat) : Prop where
  toks : s'.toks = s.toks + j
  gens : s'.gens = s.gens
  drawn : s'.drawn = s.drawn
  os : s'.os = s.os
  size : s'.heap.objs.size = s.heap.objs.size + g
  keep : ∀ b o, s.heap.get? b = some o → (∀ x, upd = some x → x.1 ≠ b) → s'.heap.get? b = some o
  upd : ∀ x, upd = some x → s'.heap.get? x.1 = some x.2
  new : ∀ o, new = some o → s'.heap.get? s.heap.objs.size = some o
/-- what a call may lean on -/
structure Pre (tp : Nat → Option Obj) (n tk : Nat) (pre : List (Nat × Addr × Obj)) (s : Shared) : Prop where
  lo : 922 ≤ n
  size : s.heap.objs.size = n
  toks : s.toks = tk
  top : ∀ a o, tp a = some o → s.heap.get? a = some o
  has : ∀ x ∈ pre, s.heap.get? x.2.1 = some x.2.2 ∧ (922 ≤ x.2.1 ∨ x.2.1 = 882)
  inj : ∀ x ∈ pre, ∀ y ∈ pre, x.2.1 = y.2.1 → x.1 = y.1
structure Ctr (M : Model) (tp : Nat → Option Obj) where
  c : Code
  x : Option Ctx
  n : Nat
  tk : Nat
  pre : List (Nat × Addr × Obj)
  r : Result
  upd : Option (Nat × Addr × Obj)
  new : Option Obj
  g : Nat
  j : Nat
  ok : ∀ (Γ : Ctx) (p : Pos) (s : Shared), (∀ y, x = some y → Γ.enter c none p = y) → Pre tp n tk pre s → wpCode M (Γ.enter c none p) (fun r' s' => r' = r ∧ Eff s s' (upd.map (·.2)) new g j) p s
structure Ck where
  a : List (Nat × Nat)
  c : List (Code × Code)
  o : List (Obj × Obj)
  x : List (Ctx × Ctx)
structure St where
  Γ : Ctx
  p : Pos
  κ : Kont
  t : Sem Fin
  L : LT
  cnt : Nat
  m : Nat
  i : Nat
  G : List GenState
inductive Res where
  | stop (why : Nat)
  | cut (st : St) (ck : Ck)
  | fin (r : Result) (st : St) (ck : Ck)
structure Sv where
  P : Params
  N : Nat
  T : Nat
noncomputable abbrev SimTy (M : Model) (tp : Nat → Option Obj) := List Nat → List (Ctr M tp) → Ctx → Pos → Kont → Sem Fin → LT → Nat → Nat → Nat → List GenState → Ck → Res
noncomputable def lif (id : String) : Bool :=
  List.rec (motive := fun _ => Bool) false (fun a t _ => List.rec (motive := fun _ => Bool) false (fun b t _ => List.rec (motive := fun _ => Bool) false (fun c _ _ =>
    Bool.rec (motive := fun _ => Bool) false (Bool.rec (motive := fun _ => Bool) false (Nat.beq c.toNat 102) (Nat.beq b.toNat 105)) (Nat.beq a.toNat 108)) t) t) id.toByteArray.data.toList
noncomputable def calm (c : Code) : Bool := match c with
  | .builtin id _ => !lif id
  | _ => true
section
variable {M : Model} {tp : Nat → Option Obj}
noncomputable def retS (ih : SimTy M tp) (r : Result) (ms : List Nat) (xs : List (Ctr M tp)) (Γ : Ctx) (p : Pos) (κ : Kont) (t : Sem Fin) (L : LT) (cnt m i : Nat) (G : List GenState) (ck : Ck) : Res := match κ with
  | .base => .fin r ⟨Γ, p, .base, t, L, cnt, m, i, G⟩ ck
  | .ret Γ' p' k κ' => ih ms xs Γ' p' κ' (k r) L cnt m i G ck
noncomputable def preS (L : LT) (l : List (Nat × Addr × Obj)) (ck : Ck) : Option Ck :=
  List.rec (motive := fun _ => Ck → Option Ck) some (fun x _ ih ck => match L.get x.1 with
    | some y => ih ⟨(y.1, x.2.1) :: ck.a, ck.c, (y.2, x.2.2) :: ck.o, ck.x⟩
    | none => none) l ck
noncomputable def ctxS (x : Option Ctx) (Γ : Ctx) (ck : Ck) : Ck := match x with
  | none => ck
  | some y => ⟨ck.a, ck.c, ck.o, (Γ, y) :: ck.x⟩
noncomputable def ctrS (V : Sv) (ih : SimTy M tp) (C : Ctr M tp) (ms : List Nat) (xs : List (Ctr M tp)) (Γ : Ctx) (p : Pos) (κ : Kont) (c : Code) (k : Result → Sem Fin) (L : LT) (cnt m i : Nat) (G : List GenState) (ck : Ck) : Res :=
  match preS L C.pre (ctxS C.x ⟨c, Γ.handled, Γ.own, (Γ.code, p) :: Γ.below, Γ.past⟩ ⟨(V.N + m, C.n) :: (V.T + i, C.tk) :: ck.a, (c, C.c) :: ck.c, ck.o, ck.x⟩) with
  | none => .stop 50
  | some ck => match C.upd with
    | some u => match L.get u.1 with
      | none => .stop 51
      | some y => match C.new with
        | none => ih ms xs Γ p κ (k C.r) (L.set u.2.2 u.1) cnt (m + C.g) (i + C.j) G ⟨(y.1, u.2.1) :: ck.a, ck.c, ck.o, ck.x⟩
        | some _ => .stop 52
    | none => match C.new with
      | none => ih ms xs Γ p κ (k C.r) L cnt (m + C.g) (i + C.j) G ck
      | some o => match (L.ins (V.N + m) o cnt).get cnt with
        | some _ => ih ms xs Γ p κ (k C.r) (L.ins (V.N + m) o cnt) (cnt + 1) (m + C.g) (i + C.j) G ck
        | none => .stop 53
noncomputable def simStep (V : Sv) (ih : SimTy M tp) : SimTy M tp := fun ms xs Γ p κ t L cnt m i G ck => match t with
  | .pure fin => match fin with
    | .done f => retS ih (.ok f) ms xs Γ p κ t L cnt m i G ck
    | .again c => match calm c with
      | true => ih ms xs ⟨c, Γ.handled, Γ.own, Γ.below, Γ.past⟩ p κ (tden c) L cnt m i G ck
      | false => .stop 5
  | .raise e => retS ih (.error e) ms xs Γ p κ t L cnt m i G ck
  | .rule _ k => ih ms xs Γ p κ (k ()) L cnt m i G ck
  | .at q k => ih ms xs Γ q κ (k ()) L cnt m i G ck
  | .point _ k => ih ms xs Γ p κ (k ()) L cnt m i G ck
  | .ask k => ih ms xs Γ p κ (k ⟨prog, V.P⟩) L cnt m i G ck
  | .load a _ k => match ms with
    | [] => .stop 1
    | x :: ms => match x with
      | 0 => match tp a with
        | some o => ih ms xs Γ p κ (k o) L cnt m i G ck
        | none => .stop 2
      | j + 1 => match L.get j with
        | some y => ih ms xs Γ p κ (k y.2) L cnt m i G ⟨(a, y.1) :: ck.a, ck.c, ck.o, ck.x⟩
        | none => .stop 3
  | .loadIfAlive a k => match ms with
    | [] => .stop 1
    | x :: ms => match x with
      | 0 => match tp a with
        | some o => ih ms xs Γ p κ (k (some o)) L cnt m i G ck
        | none => .stop 2
      | j + 1 => match L.get j with
        | some y => ih ms xs Γ p κ (k (some y.2)) L cnt m i G ⟨(a, y.1) :: ck.a, ck.c, ck.o, ck.x⟩
        | none => .stop 3
  | .alloc o k => match o.isFreed with
    | true => .stop 4
    | false => match (L.ins (V.N + m) o cnt).get cnt with
      | some _ => ih ms xs Γ p κ (k (V.N + m)) (L.ins (V.N + m) o cnt) (cnt + 1) (m + 1) i G ck
      | none => .stop 6
  | .update a _ f k => match ms with
    | [] => .stop 1
    | x :: ms => match x with
      | 0 => .stop 7
      | j + 1 => match L.get j with
        | some y => match (f y.2).isFreed with
          | true => .stop 8
          | false => ih ms xs Γ p κ (k ()) (L.set (f y.2) j) cnt m i G ⟨(a, y.1) :: ck.a, ck.c, ck.o, ck.x⟩
        | none => .stop 9
  | .fresh k => ih ms xs Γ p κ (k (V.T + i)) L cnt m (i + 1) G ck
  | .handled own k => match own with
    | false => ih ms xs Γ p κ (k Γ.handled) L cnt m i G ck
    | true => ih ms xs Γ p κ (k Γ.own) L cnt m i G ck
  | .stack k => ih ms xs Γ p κ (k ((Γ.code, p) :: Γ.below)) L cnt m i G ck
  | .call c h _ _ k => match ms with
    | [] => .stop 10
    | x :: ms => match x with
      | 0 => ih ms xs ⟨c, markOver h Γ.handled Γ.past, markOver h Γ.own none, (Γ.code, p) :: Γ.below, Γ.past⟩ p (.ret Γ p k κ) (tden c) L cnt m i G ck
      | _ + 1 => match xs with
        | [] => .stop 11
        | C :: xs => match h with
          | none => ctrS V ih C ms xs Γ p κ c k L cnt m i G ck
          | some _ => .stop 54
  | .newGen c k => ih ms xs Γ p κ (k G.length) L cnt m i (G ++ [.fresh c]) ck
  | .genState g k => match G[g]? with
    | some gs => ih ms xs Γ p κ (k gs.seen) L cnt m i G ck
    | none => .stop 12
  | _ => .stop 13
noncomputable def sim (V : Sv) (n : Nat) : SimTy M tp :=
  Nat.rec (motive := fun _ => SimTy M tp) (fun _ _ Γ p κ t L cnt m i G ck => .cut ⟨Γ, p, κ, t, L, cnt, m, i, G⟩ ck) (fun _ ih => simStep V ih) n
end
/-- the checks that a run asks for -/
structure Ck.Good (ck : Ck) : Prop where
  a : ck.a.map Prod.fst = ck.a.map Prod.snd
  c : ck.c.map Prod.fst = ck.c.map Prod.snd
  o : ck.o.map Prod.fst = ck.o.map Prod.snd
  x : ck.x.map Prod.fst = ck.x.map Prod.snd
/-- ck' asks for all that ck asks for -/
structure Ck.Over (ck ck' : Ck) : Prop where
  a : ∃ x, ck'.a = x ++ ck.a
  c : ∃ x, ck'.c = x ++ ck.c
  o : ∃ x, ck'.o = x ++ ck.o
  x : ∃ x, ck'.x = x ++ ck.x
theorem Ck.Over.refl (ck : Ck) : ck.Over ck := ⟨⟨[], rfl⟩, ⟨[], rfl⟩, ⟨[], rfl⟩, ⟨[], rfl⟩⟩
theorem Ck.Over.trans {a b c : Ck} (h : a.Over b) (h' : b.Over c) : a.Over c := by
  obtain ⟨⟨x, hx⟩, ⟨y, hy⟩, ⟨z, hz⟩, ⟨u, hu⟩⟩ := h
  obtain ⟨⟨x', hx'⟩, ⟨y', hy'⟩, ⟨z', hz'⟩, ⟨u', hu'⟩⟩ := h'
  exact ⟨⟨x' ++ x, by rw [hx', hx, List.append_assoc]⟩, ⟨y' ++ y, by rw [hy', hy, List.append_assoc]⟩, ⟨z' ++ z, by rw [hz', hz, List.append_assoc]⟩, ⟨u' ++ u, by rw [hu', hu, List.append_assoc]⟩⟩
theorem fst_snd_tail {α : Type} {x y : List (α × α)} (h : (x ++ y).map Prod.fst = (x ++ y).map Prod.snd) : y.map Prod.fst = y.map Prod.snd := by
  rw [List.map_append, List.map_append] at h
  exact (List.append_inj h (by simp)).2
theorem Ck.Over.good {a b : Ck} (h : a.Over b) (g : b.Good) : a.Good := by
  obtain ⟨⟨x, hx⟩, ⟨y, hy⟩, ⟨z, hz⟩, ⟨u, hu⟩⟩ := h
  exact ⟨fst_snd_tail (hx ▸ g.a), fst_snd_tail (hy ▸ g.c), fst_snd_tail (hz ▸ g.o), fst_snd_tail (hu ▸ g.x)⟩
theorem Ck.Over.pushA (ck : Ck) (x : Nat × Nat) : ck.Over ⟨x :: ck.a, ck.c, ck.o, ck.x⟩ := ⟨⟨[x], rfl⟩, ⟨[], rfl⟩, ⟨[], rfl⟩, ⟨[], rfl⟩⟩
section
variable {a : List (Nat × Nat)} {c : List (Code × Code)} {o : List (Obj × Obj)} {x : List (Ctx × Ctx)}
theorem Ck.Good.headA {y : Nat × Nat} (g : Ck.Good ⟨y :: a, c, o, x⟩) : y.1 = y.2 := (List.cons.inj g.a).1
theorem Ck.Good.headC {y : Code × Code} (g : Ck.Good ⟨a, y :: c, o, x⟩) : y.1 = y.2 := (List.cons.inj g.c).1
theorem Ck.Good.headO {y : Obj × Obj} (g : Ck.Good ⟨a, c, y :: o, x⟩) : y.1 = y.2 := (List.cons.inj g.o).1
theorem Ck.Good.headX {y : Ctx × Ctx} (g : Ck.Good ⟨a, c, o, y :: x⟩) : y.1 = y.2 := (List.cons.inj g.x).1
end
theorem lif_of {id : String} (h : lif id = false) : id.startsWith "lifetime." = false := by
  cases q : id.startsWith "lifetime." with
  | false => rfl
  | true =>
    exfalso
    rw [String.startsWith_string_iff] at q
    obtain ⟨t, ht⟩ := q
    have hb : id.toByteArray.data.toList = [108, 105, 102] ++ ([101, 116, 105, 109, 101, 46] ++ (String.ofList t).toByteArray.data.toList) := by
      have : id = "lifetime." ++ String.ofList t := by
        apply String.toList_inj.mp
        rw [← ht, String.toList_append]
        simp
      rw [this, String.toByteArray_append]
      rfl
    unfold lif at h
    rw [hb] at h
    have z : true = false := h
    cases z
theorem calm_quiet {c : Code} (h : calm c = true) : c.quiet = true := by
  cases c with
  | builtin id args =>
    refine Code.quiet_builtin args (lif_of ?_)
    simpa [calm] using h
  | _ => rfl
noncomputable abbrev mdl (w : World) : Model := model prog w
structure Ok (V : Sv) (w : World) (tp : Nat → Option Obj) (h₀ : Heap) (U : List Addr) : Prop where
  ask : w.params = V.P
  top : ∀ a o, tp a = some o → h₀.get? a = some o ∧ a ∉ U
def St.Goes (V : Sv) (w : World) (h₀ : Heap) (U : List Addr) (d : Drawn) (os : OsState) (R : Result → Shared → Prop) (st : St) : Prop :=
  ∀ h, Rep h₀ h U V.N st.L st.m → Means (mdl w) R st.Γ st.p st.κ st.t ⟨h, ⟨st.G⟩, d, V.T + st.i, os⟩
noncomputable def Res.Over (ck : Ck) : Res → Prop
  | .stop _ => True
  | .cut _ ck' => ck.Over ck'
  | .fin _ _ ck' => ck.Over ck'
noncomputable def Res.Owes (V : Sv) (w : World) (h₀ : Heap) (U : List Addr) (d : Drawn) (os : OsState) (R : Result → Shared → Prop) : Res → Prop
  | .stop _ => False
  | .cut st ck => ck.Good ∧ st.Goes V w h₀ U d os R
  | .fin r st ck => ck.Good ∧ ∀ h, Rep h₀ h U V.N st.L st.m → R r ⟨h, ⟨st.G⟩, d, V.T + st.i, os⟩
section
variable {M : Model} {R : Result → Shared → Prop} {Γ : Ctx} {p : Pos} {κ : Kont} {s : Shared}
theorem means_done {f : Flow} : Means M R Γ p κ (.pure (.done f)) s = endOf M R κ (.ok f) s := by
  unfold Means; rw [Sem.wp_pure]; rfl
theorem means_raise {e : Value} : Means M R Γ p κ (.raise e) s = endOf M R κ (.error e) s := by
  unfold Means; rw [Sem.wp_raise]
theorem means_again {c : Code} (hq : c.quiet = true) (h : Means M R (Γ.goto c) p κ (M.den c) s) : Means M R Γ p κ (.pure (.again c)) s := by
  unfold Means; rw [Sem.wp_pure]
  exact ⟨hq, (wpCode_iff_wp M (Γ.goto c) (endOf M R κ) p s).mpr h⟩
theorem means_call {c : Code} {h : Option Value} {g : Bool} {l : List Value} {k : Result → Sem Fin} (x : wpCode M (Γ.enter c h p) (fun r s' => Means M R Γ p κ (k r) s') p s) : Means M R Γ p κ (.call c h g l k) s := by
  unfold Means; rw [Sem.wp_call]; exact x
theorem means_call_in {c : Code} {h : Option Value} {g : Bool} {l : List Value} {k : Result → Sem Fin} (x : Means M R (Γ.enter c h p) p (.ret Γ p k κ) (M.den c) s) : Means M R Γ p κ (.call c h g l k) s :=
  means_call ((wpCode_iff_wp M (Γ.enter c h p) (endOf M R (.ret Γ p k κ)) p s).mpr x)
end
theorem Res.Owes.good {V : Sv} {w : World} {h₀ : Heap} {U : List Addr} {d : Drawn} {os : OsState} {R : Result → Shared → Prop} {r : Res} {ck : Ck} (o : r.Owes V w h₀ U d os R) (v : r.Over ck) : ck.Good := by
  cases r with
  | stop => cases o
  | cut st ck' => exact v.good o.1
  | fin x st ck' => exact v.good o.1
theorem Res.Over.trans {ck ck' : Ck} {r : Res} (h : ck.Over ck') (v : r.Over ck') : r.Over ck := by
  cases r with
  | stop => trivial
  | cut st c => exact h.trans v
  | fin x st c => exact h.trans v
theorem preS_nil (L : LT) (ck : Ck) : preS L [] ck = some ck := rfl
theorem preS_cons (L : LT) (x : Nat × Addr × Obj) (l : List (Nat × Addr × Obj)) (ck : Ck) : preS L (x :: l) ck = (match L.get x.1 with
    | some y => preS L l ⟨(y.1, x.2.1) :: ck.a, ck.c, (y.2, x.2.2) :: ck.o, ck.x⟩
    | none => none) := rfl
theorem preS_over (L : LT) : ∀ (l : List (Nat × Addr × Obj)) (ck ck' : Ck), preS L l ck = some ck' → ck.Over ck'
  | [], ck, ck', h => by rw [preS_nil] at h; cases h; exact .refl _
  | x :: l, ck, ck', h => by
    rw [preS_cons] at h
    split at h
    · rename_i y e
      refine Ck.Over.trans ?_ (preS_over L l _ _ h)
      exact ⟨⟨[_], rfl⟩, ⟨[], rfl⟩, ⟨[_], rfl⟩, ⟨[], rfl⟩⟩
    · cases h
theorem preS_holds {h₀ h : Heap} {U : List Addr} {N m : Nat} {L : LT} (D : Rep h₀ h U N L m) : ∀ (l : List (Nat × Addr × Obj)) (ck ck' : Ck), preS L l ck = some ck' → ck'.Good → ∀ x ∈ l, L.get x.1 = some (x.2.1, x.2.2)
  | [], _, _, _, _, x, hx => nomatch hx
  | y :: l, ck, ck', e, g, x, hx => by
    rw [preS_cons] at e
    split at e
    · rename_i z ez
      rcases List.mem_cons.mp hx with rfl | hx
      · have g1 := (preS_over L l _ _ e).good g
        have ha : z.1 = x.2.1 := g1.headA
        have ho : z.2 = x.2.2 := g1.headO
        rw [← ha, ← ho]
        exact ez
      · exact preS_holds D l _ _ e g x hx
    · cases e
theorem ctxS_over (x : Option Ctx) (Γ : Ctx) (ck : Ck) : ck.Over (ctxS x Γ ck) := by
  cases x with
  | none => exact .refl _
  | some y => exact ⟨⟨[], rfl⟩, ⟨[], rfl⟩, ⟨[], rfl⟩, ⟨[_], rfl⟩⟩
theorem ctxS_is {x : Option Ctx} {Γ : Ctx} {ck : Ck} (g : (ctxS x Γ ck).Good) : ∀ y, x = some y → Γ = y := by
  intro y hy
  subst hy
  exact Ck.Good.headX g
section
variable {M : Model} {tp : Nat → Option Obj} {V : Sv} {ih : SimTy M tp}
theorem retS_over {r : Result} {ms : List Nat} {xs : List (Ctr M tp)} {Γ : Ctx} {p : Pos} {κ : Kont} {t : Sem Fin} {L : LT} {cnt m i : Nat} {G : List GenState} {ck : Ck}
    (IH : ∀ ms xs Γ p κ t L cnt m i G ck, (ih ms xs Γ p κ t L cnt m i G ck).Over ck) : (retS ih r ms xs Γ p κ t L cnt m i G ck).Over ck := by
  cases κ with
  | base => exact .refl _
  | ret Γ' p' k κ' => exact IH ..
theorem ctrS_over {C : Ctr M tp} {ms : List Nat} {xs : List (Ctr M tp)} {Γ : Ctx} {p : Pos} {κ : Kont} {c : Code} {k : Result → Sem Fin} {L : LT} {cnt m i : Nat} {G : List GenState} {ck : Ck}
    (IH : ∀ ms xs Γ p κ t L cnt m i G ck, (ih ms xs Γ p κ t L cnt m i G ck).Over ck) : (ctrS V ih C ms xs Γ p κ c k L cnt m i G ck).Over ck := by
  unfold ctrS
  have first : ck.Over ⟨(V.N + m, C.n) :: (V.T + i, C.tk) :: ck.a, (c, C.c) :: ck.c, ck.o, ck.x⟩ := ⟨⟨[_, _], rfl⟩, ⟨[_], rfl⟩, ⟨[], rfl⟩, ⟨[], rfl⟩⟩
  split
  · trivial
  · rename_i ck' e
    have h1 := (first.trans (ctxS_over _ _ _)).trans (preS_over _ _ _ _ e)
    split
    · split
      · trivial
      · split
        · exact Res.Over.trans (h1.trans (.pushA _ _)) (IH ..)
        · trivial
    · split
      · exact Res.Over.trans h1 (IH ..)
      · split
        · exact Res.Over.trans h1 (IH ..)
        · trivial
end
section
variable {M : Model} {tp : Nat → Option Obj} {V : Sv} {ih : SimTy M tp}
theorem step_over (IH : ∀ ms xs Γ p κ t L cnt m i G ck, (ih ms xs Γ p κ t L cnt m i G ck).Over ck) :
    ∀ ms xs Γ p κ t L cnt m i G ck, (simStep V ih ms xs Γ p κ t L cnt m i G ck).Over ck := by
  intro ms xs Γ p κ t L cnt m i G ck
  cases t with
  | pure fin =>
    cases fin with
    | done f => exact retS_over IH
    | again c =>
      simp only [simStep]
      split
      · exact IH ..
      · trivial
  | raise e => exact retS_over IH
  | rule tag k => exact IH ..
  | «at» q k => exact IH ..
  | point l k => exact IH ..
  | ask k => exact IH ..
  | load a q k =>
    cases ms with
    | nil => trivial
    | cons x ms =>
      cases x with
      | zero => simp only [simStep]; split; exact IH ..; trivial
      | succ j => simp only [simStep]; split; exact Res.Over.trans (.pushA _ _) (IH ..); trivial
  | loadIfAlive a k =>
    cases ms with
    | nil => trivial
    | cons x ms =>
      cases x with
      | zero => simp only [simStep]; split; exact IH ..; trivial
      | succ j => simp only [simStep]; split; exact Res.Over.trans (.pushA _ _) (IH ..); trivial
  | alloc o k =>
    simp only [simStep]
    split
    · trivial
    · split
      · exact IH ..
      · trivial
  | update a q f k =>
    cases ms with
    | nil => trivial
    | cons x ms =>
      cases x with
      | zero => trivial
      | succ j =>
        simp only [simStep]
        split
        · split
          · trivial
          · exact Res.Over.trans (.pushA _ _) (IH ..)
        · trivial
  | fresh k => exact IH ..
  | handled own k => cases own <;> exact IH ..
  | stack k => exact IH ..
  | call c h g l k =>
    cases ms with
    | nil => trivial
    | cons x ms =>
      cases x with
      | zero => exact IH ..
      | succ j =>
        cases xs with
        | nil => trivial
        | cons C xs =>
          cases h with
          | none => exact ctrS_over IH
          | some _ => trivial
  | newGen c k => exact IH ..
  | genState g k =>
    simp only [simStep]
    split
    · exact IH ..
    · trivial
  | _ => trivial
theorem sim_over : ∀ n ms xs Γ p κ t L cnt m i G ck, (sim (M := M) (tp := tp) V n ms xs Γ p κ t L cnt m i G ck).Over ck
  | 0 => fun _ _ _ _ _ _ _ _ _ _ _ ck => Ck.Over.refl ck
  | n + 1 => step_over (sim_over n)
end
section
variable {V : Sv} {w : World} {h₀ : Heap} {U : List Addr} {d : Drawn} {os : OsState} {R : Result → Shared → Prop} {tp : Nat → Option Obj} {ih : SimTy (mdl w) tp}
theorem retS_sound {r : Result} {ms : List Nat} {xs : List (Ctr (mdl w) tp)} {Γ : Ctx} {p : Pos} {κ : Kont} {t : Sem Fin} {L : LT} {cnt m i : Nat} {G : List GenState} {ck : Ck}
    (IS : ∀ ms xs Γ p κ t L cnt m i G ck, (ih ms xs Γ p κ t L cnt m i G ck).Owes V w h₀ U d os R → ∀ h, Rep h₀ h U V.N L m → Means (mdl w) R Γ p κ t ⟨h, ⟨G⟩, d, V.T + i, os⟩)
    (o : (retS ih r ms xs Γ p κ t L cnt m i G ck).Owes V w h₀ U d os R) {h : Heap} (D : Rep h₀ h U V.N L m) : endOf (mdl w) R κ r ⟨h, ⟨G⟩, d, V.T + i, os⟩ := by
  cases κ with
  | base => exact o.2 h D
  | ret Γ' p' k κ' => exact IS _ _ _ _ _ _ _ _ _ _ _ _ o h D
theorem ctrS_sound (O : Ok V w tp h₀ U) {C : Ctr (mdl w) tp} {ms : List Nat} {xs : List (Ctr (mdl w) tp)} {Γ : Ctx} {p : Pos} {κ : Kont} {c : Code} {g : Bool} {l : List Value} {k : Result → Sem Fin} {L : LT} {cnt m i : Nat} {G : List GenState} {ck : Ck}
    (IH : ∀ ms xs Γ p κ t L cnt m i G ck, (ih ms xs Γ p κ t L cnt m i G ck).Over ck)
    (IS : ∀ ms xs Γ p κ t L cnt m i G ck, (ih ms xs Γ p κ t L cnt m i G ck).Owes V w h₀ U d os R → ∀ h, Rep h₀ h U V.N L m → Means (mdl w) R Γ p κ t ⟨h, ⟨G⟩, d, V.T + i, os⟩)
    (o : (ctrS V ih C ms xs Γ p κ c k L cnt m i G ck).Owes V w h₀ U d os R) {h : Heap} (D : Rep h₀ h U V.N L m) : Means (mdl w) R Γ p κ (.call c none g l k) ⟨h, ⟨G⟩, d, V.T + i, os⟩ := by
  unfold ctrS at o
  split at o
  · cases o
  · rename_i ck' e
    have go : ck'.Good → wpCode (mdl w) (Γ.enter c none p) (fun r' s' => r' = C.r ∧ Eff ⟨h, ⟨G⟩, d, V.T + i, os⟩ s' (C.upd.map (·.2)) C.new C.g C.j) p ⟨h, ⟨G⟩, d, V.T + i, os⟩ := by
      intro gd
      have gx := (preS_over _ _ _ _ e).good gd
      have g0 := (ctxS_over _ _ _).good gx
      have hc : c = C.c := g0.headC
      have hn : V.N + m = C.n := g0.headA
      have ht : V.T + i = C.tk := (List.cons.inj (List.cons.inj g0.a).2).1
      have hp := preS_holds D _ _ _ e gd
      subst hc
      refine C.ok _ _ _ (ctxS_is gx) ⟨hn ▸ Nat.le_trans D.lo (Nat.le_add_right ..), D.size.trans hn, ht, fun a ob ea => ?_, fun x hx => ⟨(D.own _ _ _ (hp x hx)).1, (D.own _ _ _ (hp x hx)).2.1⟩, fun x hx y hy q => ?_⟩
      · exact D.keep a ob (O.top a ob ea).1 (O.top a ob ea).2
      · exact D.inj _ _ x.2.1 x.2.2 y.2.2 (hp x hx) (q ▸ hp y hy)
    split at o
    · rename_i u hu
      split at o
      · cases o
      · rename_i y ey
        split at o
        · rename_i hn
          have gd := (Res.Owes.good o (IH ..) : Ck.Good ⟨(y.1, u.2.1) :: ck'.a, ck'.c, ck'.o, ck'.x⟩)
          have ga := gd.headA
          refine means_call (wpCode_mono ?_ (go ((Ck.Over.pushA _ _).good gd)))
          rintro r s' ⟨rfl, E⟩
          obtain ⟨h', g', d', t', os'⟩ := s'
          have e1 : t' = V.T + (i + C.j) := (E.toks : t' = V.T + i + C.j).trans (Nat.add_assoc ..)
          have e2 : g' = ⟨G⟩ := E.gens
          have e3 : d' = d := E.drawn
          have e4 : os' = os := E.os
          subst e1 e2 e3 e4
          rw [hu, hn] at E
          refine IS _ _ _ _ _ _ _ _ _ _ _ _ o h' ?_
          have ga' : y.1 = u.2.1 := ga
          refine D.eff_upd C.g (a := y.1) (o := y.2) ey E.size (fun b ob eb ne => E.keep b ob eb fun x hx => ?_) ?_
          · cases hx; exact ga' ▸ ne
          · rw [ga']; exact E.upd _ rfl
        · cases o
    · rename_i hu
      split at o
      · rename_i hn
        refine means_call (wpCode_mono ?_ (go (Res.Owes.good o (IH ..))))
        rintro r s' ⟨rfl, E⟩
        obtain ⟨h', g', d', t', os'⟩ := s'
        have e1 : t' = V.T + (i + C.j) := (E.toks : t' = V.T + i + C.j).trans (Nat.add_assoc ..)
        have e2 : g' = ⟨G⟩ := E.gens
        have e3 : d' = d := E.drawn
        have e4 : os' = os := E.os
        subst e1 e2 e3 e4
        rw [hu, hn] at E
        exact IS _ _ _ _ _ _ _ _ _ _ _ _ o h' (D.eff C.g E.size fun b ob eb => E.keep b ob eb fun x hx => nomatch hx)
      · rename_i ob hn
        split at o
        · rename_i z ez
          refine means_call (wpCode_mono ?_ (go (Res.Owes.good o (IH ..))))
          rintro r s' ⟨rfl, E⟩
          obtain ⟨h', g', d', t', os'⟩ := s'
          have e1 : t' = V.T + (i + C.j) := (E.toks : t' = V.T + i + C.j).trans (Nat.add_assoc ..)
          have e2 : g' = ⟨G⟩ := E.gens
          have e3 : d' = d := E.drawn
          have e4 : os' = os := E.os
          subst e1 e2 e3 e4
          rw [hu, hn] at E
          exact IS _ _ _ _ _ _ _ _ _ _ _ _ o h' (D.eff_new C.g E.size (fun b ob eb => E.keep b ob eb fun x hx => nomatch hx) (E.new _ rfl) (by rw [ez]; rfl))
        · cases o
theorem step_sound (O : Ok V w tp h₀ U)
    (IH : ∀ ms xs Γ p κ t L cnt m i G ck, (ih ms xs Γ p κ t L cnt m i G ck).Over ck)
    (IS : ∀ ms xs Γ p κ t L cnt m i G ck, (ih ms xs Γ p κ t L cnt m i G ck).Owes V w h₀ U d os R → ∀ h, Rep h₀ h U V.N L m → Means (mdl w) R Γ p κ t ⟨h, ⟨G⟩, d, V.T + i, os⟩) :
    ∀ ms xs Γ p κ t L cnt m i G ck, (simStep V ih ms xs Γ p κ t L cnt m i G ck).Owes V w h₀ U d os R → ∀ h, Rep h₀ h U V.N L m → Means (mdl w) R Γ p κ t ⟨h, ⟨G⟩, d, V.T + i, os⟩ := by
  intro ms xs Γ p κ t L cnt m i G ck o h D
  have hden : (mdl w).den = tden := tden_eq
  cases t with
  | pure fin =>
    cases fin with
    | done f => rw [means_done]; exact retS_sound IS o D
    | again c =>
      simp only [simStep] at o
      split at o
      · rename_i hq
        refine means_again (calm_quiet hq) ?_
        rw [hden]
        exact IS _ _ _ _ _ _ _ _ _ _ _ _ o h D
      · cases o
  | raise e => rw [means_raise]; exact retS_sound IS o D
  | rule tag k => unfold Means; rw [Sem.wp_rule]; exact IS _ _ _ _ _ _ _ _ _ _ _ _ o h D
  | «at» q k => unfold Means; rw [Sem.wp_at]; exact IS _ _ _ _ _ _ _ _ _ _ _ _ o h D
  | point l k => unfold Means; rw [Sem.wp_point]; exact IS _ _ _ _ _ _ _ _ _ _ _ _ o h D
  | ask k =>
    unfold Means; rw [Sem.wp_ask]
    show Means (mdl w) R Γ p κ (k ⟨prog, w.params⟩) _
    rw [O.ask]
    exact IS _ _ _ _ _ _ _ _ _ _ _ _ o h D
  | load a q k =>
    cases ms with
    | nil => cases o
    | cons x ms =>
      cases x with
      | zero =>
        simp only [simStep] at o
        split at o
        · rename_i ob e
          obtain ⟨t1, t2⟩ := O.top a ob e
          unfold Means; rw [Sem.wp_load]
          exact ⟨ob, D.keep a ob t1 t2, IS _ _ _ _ _ _ _ _ _ _ _ _ o h D⟩
        · cases o
      | succ j =>
        simp only [simStep] at o
        split at o
        · rename_i y e
          have ga : a = y.1 := (Res.Owes.good o (IH ..) : Ck.Good ⟨(a, y.1) :: ck.a, ck.c, ck.o, ck.x⟩).headA
          unfold Means; rw [Sem.wp_load]
          exact ⟨y.2, ga ▸ (D.own _ _ _ e).1, IS _ _ _ _ _ _ _ _ _ _ _ _ o h D⟩
        · cases o
  | loadIfAlive a k =>
    cases ms with
    | nil => cases o
    | cons x ms =>
      cases x with
      | zero =>
        simp only [simStep] at o
        split at o
        · rename_i ob e
          obtain ⟨t1, t2⟩ := O.top a ob e
          unfold Means; rw [Sem.wp_loadIfAlive]
          show Means (mdl w) R Γ p κ (k (h.get? a)) _
          rw [D.keep a ob t1 t2]
          exact IS _ _ _ _ _ _ _ _ _ _ _ _ o h D
        · cases o
      | succ j =>
        simp only [simStep] at o
        split at o
        · rename_i y e
          have ga : a = y.1 := (Res.Owes.good o (IH ..) : Ck.Good ⟨(a, y.1) :: ck.a, ck.c, ck.o, ck.x⟩).headA
          unfold Means; rw [Sem.wp_loadIfAlive]
          show Means (mdl w) R Γ p κ (k (h.get? a)) _
          rw [ga, (D.own _ _ _ e).1]
          exact IS _ _ _ _ _ _ _ _ _ _ _ _ o h D
        · cases o
  | alloc ob k =>
    simp only [simStep] at o
    split at o
    · cases o
    · rename_i hf
      split at o
      · rename_i z ez
        unfold Means; rw [Sem.wp_alloc]
        show Means (mdl w) R Γ p κ (k h.objs.size) ⟨h.push ob, _, _, _, _⟩
        rw [D.size]
        exact IS _ _ _ _ _ _ _ _ _ _ _ _ o _ (D.alloc hf (by rw [ez]; rfl))
      · cases o
  | update a q f k =>
    cases ms with
    | nil => cases o
    | cons x ms =>
      cases x with
      | zero => cases o
      | succ j =>
        simp only [simStep] at o
        split at o
        · rename_i y e
          split at o
          · cases o
          · rename_i hf
            have ga : a = y.1 := (Res.Owes.good o (IH ..) : Ck.Good ⟨(a, y.1) :: ck.a, ck.c, ck.o, ck.x⟩).headA
            have hy := (D.own _ _ _ e).1
            unfold Means; rw [Sem.wp_update]
            refine ⟨by show (h.get? a).isSome = true; rw [ga, hy]; rfl, ?_⟩
            show Means (mdl w) R Γ p κ (k ()) ⟨h.update a f, _, _, _, _⟩
            rw [ga]
            exact IS _ _ _ _ _ _ _ _ _ _ _ _ o _ (D.updateF e hf)
        · cases o
  | fresh k => unfold Means; rw [Sem.wp_fresh]; exact IS _ _ _ _ _ _ _ _ _ _ _ _ o h D
  | handled own k =>
    unfold Means; rw [Sem.wp_handled]
    cases own <;> exact IS _ _ _ _ _ _ _ _ _ _ _ _ o h D
  | stack k => unfold Means; rw [Sem.wp_stack]; exact IS _ _ _ _ _ _ _ _ _ _ _ _ o h D
  | call c hd g l k =>
    cases ms with
    | nil => cases o
    | cons x ms =>
      cases x with
      | zero =>
        refine means_call_in ?_
        rw [hden]
        exact IS _ _ _ _ _ _ _ _ _ _ _ _ o h D
      | succ j =>
        cases xs with
        | nil => cases o
        | cons C xs =>
          cases hd with
          | none => exact ctrS_sound O IH IS o D
          | some _ => cases o
  | newGen c k =>
    unfold Means; rw [Sem.wp_newGen]
    show Means (mdl w) R Γ p κ (k (Array.size ⟨G⟩)) ⟨h, Array.push ⟨G⟩ (.fresh c), _, _, _⟩
    rw [X.push_gens]
    exact IS _ _ _ _ _ _ _ _ _ _ _ _ o h D
  | genState g k =>
    simp only [simStep] at o
    split at o
    · rename_i gs e
      unfold Means; rw [Sem.wp_genState]
      exact ⟨gs, (X.get_gens G g).trans e, IS _ _ _ _ _ _ _ _ _ _ _ _ o h D⟩
    · cases o
  | _ => cases o
theorem sim_sound (O : Ok V w tp h₀ U) : ∀ n ms xs Γ p κ t L cnt m i G ck, (sim (M := mdl w) (tp := tp) V n ms xs Γ p κ t L cnt m i G ck).Owes V w h₀ U d os R → ∀ h, Rep h₀ h U V.N L m → Means (mdl w) R Γ p κ t ⟨h, ⟨G⟩, d, V.T + i, os⟩
  | 0 => fun _ _ _ _ _ _ _ _ _ _ _ _ o h D => o.2 h D
  | n + 1 => step_sound O (fun ms xs Γ p κ t L cnt m i G ck => sim_over n ms xs Γ p κ t L cnt m i G ck) (sim_sound O n)
end
section
set_option maxHeartbeats 0
namespace T
theorem ofS (s : String) : PySem.Str.ofString s = S (s.toList.map Char.toNat) := by rw [PySem.Str.ofString_eq_byList]; rfl
noncomputable def stAt (i : Nat) : Option Stmt := prog.main.body[i]?
noncomputable def subAt (i j : Nat) : Option Stmt := match prog.main.body[i]? with
  | some (.ClassDef _ _ _ b _ _ _ _ _ _ _) => b[j]?
  | _ => none
noncomputable def fnOf : Option Stmt → Option (Arguments × List Stmt × Scope)
  | some (.FunctionDef _ a b _ _ _ sc _ _ _) => some (a, b, sc)
  | _ => none
noncomputable abbrev FnAt (o : Option Stmt) : Type := { d : Arguments × List Stmt × Scope // fnOf o = some d }
section
local macro_rules | `(tactic| walk_at "f") => `(tactic| (refine (?f : Mine.T.fnOf ?o = some ?x → FnAt ?o) ?h; (case h => simp only [stAt, subAt, prog]; delta PySem.Challenge.pw_pd0121_01; simp only [Mine.T.fnOf, List.getElem?_cons_succ, List.getElem?_cons_zero, ofS, List.map_cons, List.map_nil, String.reduceToList, Char.reduceToNat]; exact rfl); case f => exact fun _ => Subtype.mk ?x (by kernel_rfl)))
noncomputable def f117 : FnAt (stAt 11) := by walk_at "f"
noncomputable def f131 : FnAt (stAt 16) := by walk_at "f"
noncomputable def f138 : FnAt (stAt 17) := by walk_at "f"
noncomputable def f145 : FnAt (stAt 19) := by walk_at "f"
noncomputable def f152 : FnAt (stAt 20) := by walk_at "f"
noncomputable def f159 : FnAt (stAt 22) := by walk_at "f"
noncomputable def f166 : FnAt (stAt 23) := by walk_at "f"
noncomputable def f173 : FnAt (stAt 24) := by walk_at "f"
noncomputable def f180 : FnAt (stAt 25) := by walk_at "f"
noncomputable def f199 : FnAt (stAt 29) := by walk_at "f"
noncomputable def f226 : FnAt (subAt 31 1) := by walk_at "f"
noncomputable def f503 : FnAt (subAt 35 1) := by walk_at "f"
noncomputable def f510 : FnAt (subAt 35 2) := by walk_at "f"
noncomputable def f517 : FnAt (subAt 35 3) := by walk_at "f"
noncomputable def f679 : FnAt (subAt 35 25) := by walk_at "f"
noncomputable def f792 : FnAt (subAt 46 0) := by walk_at "f"
noncomputable def f799 : FnAt (subAt 46 1) := by walk_at "f"
noncomputable def f829 : FnAt (subAt 46 5) := by walk_at "f"
noncomputable def f836 : FnAt (subAt 46 6) := by walk_at "f"
noncomputable def f858 : FnAt (subAt 46 9) := by walk_at "f"
noncomputable def f865 : FnAt (subAt 46 10) := by walk_at "f"
noncomputable def f880 : FnAt (stAt 47) := by walk_at "f"
noncomputable def f887 : FnAt (stAt 48) := by walk_at "f"
noncomputable def f895 : FnAt (stAt 51) := by walk_at "f"
noncomputable def f900 : FnAt (stAt 53) := by walk_at "f"
noncomputable def f907 : FnAt (stAt 54) := by walk_at "f"
noncomputable def f914 : FnAt (stAt 55) := by walk_at "f"
noncomputable def f921 : FnAt (stAt 56) := by walk_at "f"
end
noncomputable abbrev oF (a b : Str) {o : Option Stmt} (f : FnAt o) (m : Str) (t c : Nat) : Obj := ⟨y2, none, .func ⟨a, b, f.1.1, .stmts f.1.2.1, f.1.2.2, 3, [], Value.none, Value.none, Value.none, Value.str m t, none, Value.ref c, Value.none, 0⟩, ⟨[]⟩⟩
noncomputable abbrev oC (a : Str) (t : Nat) (b : Str) (u : Nat) (c : Str) (v l k s n : Nat) (r : List Value) (x y : Nat) : Obj := ⟨y1, none, .fields ⟨[Value.str a t, Value.str b u, Value.str c v, Value.int (Int.ofNat l) 0, Value.int (Int.ofNat k) 0, Value.int (Int.ofNat 0) 0, Value.int (Int.ofNat 0) 0, Value.int (Int.ofNat s) 0, Value.ref n, Value.bool true, Value.int (Int.ofNat 318) 0] ++ r ++ [Value.int (Int.ofNat x) 0, Value.int (Int.ofNat l) 0, Value.str c y]⟩, ⟨[]⟩⟩
noncomputable def o0 (P : Params) : Obj := ⟨y8, none, .dict ⟨[dk P z84 1 (vs (S [98, 117, 105, 108, 116, 105, 110, 115]) 160), dk P z44 2 (Value.builtin "builtins.__doc__:str#opaque"), dk P z95 3 (Value.builtin "builtins.__package__:str#opaque"), dk P z96 4 (Value.builtin "builtins.__loader__:shared#opaque"), dk P z97 5 (Value.builtin PySem.W.SL.s11665532747177232413x24), dk P (S [95, 95, 98, 117, 105, 108, 100, 95, 99, 108, 97, 115, 115, 95, 95]) 6 (Value.builtin PySem.W.SL.s15183661809925369436x15), dk P (S [95, 95, 105, 109, 112, 111, 114, 116, 95, 95]) 7 (Value.builtin PySem.W.SL.s13915890719876406383x10), dk P (S [97, 98, 115]) 8 (Value.builtin PySem.W.SL.s13459172003223722735x3), dk P (S [97, 108, 108]) 9 (Value.builtin PySem.W.SL.s10557405761357834076x3), dk P (S [97, 110, 121]) 10 (Value.builtin PySem.W.SL.s4233737765568776869x3), dk P (S [97, 115, 99, 105, 105]) 11 (Value.builtin PySem.W.SL.s2508922471967985374x5), dk P (S [98, 105, 110]) 12 (Value.builtin PySem.W.SL.s15574269061696679450x3), dk P (S [98, 114, 101, 97, 107, 112, 111, 105, 110, 116]) 13 (Value.builtin PySem.W.SL.s6016482663378992977x10), dk P (S [99, 97, 108, 108, 97, 98, 108, 101]) 14 (Value.builtin PySem.W.SL.s5596568736180474577x8), dk P (S [99, 104, 114]) 15 (Value.builtin PySem.W.SL.s2839554839881490554x3), dk P (S [99, 111, 109, 112, 105, 108, 101]) 16 (Value.builtin PySem.W.SL.s725004073602090463x7), dk P (S [100, 101, 108, 97, 116, 116, 114]) 17 (Value.builtin PySem.W.SL.s9436932552931045734x7), dk P (S [100, 105, 114]) 18 (Value.builtin PySem.W.SL.s2754603736356183583x3), dk P (S [100, 105, 118, 109, 111, 100]) 19 (Value.builtin PySem.W.SL.s15185746759980889043x6), dk P (S [101, 118, 97, 108]) 20 (Value.builtin PySem.W.SL.s8192189862530294059x4), dk P (S [101, 120, 101, 99]) 21 (Value.builtin PySem.W.SL.s7038307821325472102x4), dk P (S [102, 111, 114, 109, 97, 116]) 22 (Value.builtin PySem.W.SL.s5662562618415449548x6), dk P (S [103, 101, 116, 97, 116, 116, 114]) 23 (Value.builtin PySem.W.SL.s15281542589158584767x7), dk P (S [103, 108, 111, 98, 97, 108, 115]) 24 (Value.builtin PySem.W.SL.s17651547275483570877x7), dk P (S [104, 97, 115, 97, 116, 116, 114]) 25 (Value.builtin PySem.W.SL.s4036449017235975746x7), dk P (S [104, 97, 115, 104]) 26 (Value.builtin PySem.W.SL.s8879979712987360175x4), dk P (S [104, 101, 120]) 27 (Value.builtin PySem.W.SL.s1801250619170735830x3), dk P (S [105, 100]) 28 (Value.builtin PySem.W.SL.s17659931425627118568x2), dk P (S [105, 110, 112, 117, 116]) 29 (Value.builtin PySem.W.SL.s6063217899685152688x5), dk P (S [105, 115, 105, 110, 115, 116, 97, 110, 99, 101]) 30 (Value.builtin PySem.W.SL.s8008927332132565319x10), dk P (S [105, 115, 115, 117, 98, 99, 108, 97, 115, 115]) 31 (Value.builtin PySem.W.SL.s3544116645089599534x10), dk P (S [105, 116, 101, 114]) 32 (Value.builtin PySem.W.SL.s13761710972054866084x4), dk P (S [97, 105, 116, 101, 114]) 33 (Value.builtin PySem.W.SL.s12896375587409280029x5), dk P (S [108, 101, 110]) 34 (Value.builtin PySem.W.SL.s13014049009108672802x3), dk P (S [108, 111, 99, 97, 108, 115]) 35 (Value.builtin PySem.W.SL.s13935586738268321596x6), dk P (S [109, 97, 120]) 36 (Value.builtin PySem.W.SL.s8200498257699607233x3), dk P (S [109, 105, 110]) 37 (Value.builtin PySem.W.SL.s14114244577727609259x3), dk P (S [110, 101, 120, 116]) 38 (Value.builtin PySem.W.SL.s1499430450269397089x4), dk P (S [97, 110, 101, 120, 116]) 39 (Value.builtin PySem.W.SL.s8755793994789770505x5), dk P (S [111, 99, 116]) 40 (Value.builtin PySem.W.SL.s15725212667919936108x3), dk P (S [111, 114, 100]) 41 (Value.builtin PySem.W.SL.s15791221867095933363x3), dk P (S [112, 111, 119]) 42 (Value.builtin PySem.W.SL.s81309575031448614x3), dk P (S [112, 114, 105, 110, 116]) 43 (Value.builtin PySem.W.SL.s8069831620301644142x5), dk P (S [114, 101, 112, 114]) 44 (Value.builtin PySem.W.SL.s10061844253413749634x4), dk P (S [114, 111, 117, 110, 100]) 45 (Value.builtin PySem.W.SL.s9496514870978017513x5), dk P (S [115, 101, 116, 97, 116, 116, 114]) 46 (Value.builtin PySem.W.SL.s8899691144933366716x7), dk P (S [115, 111, 114, 116, 101, 100]) 47 (Value.builtin PySem.W.SL.s15201008993051130160x6), dk P (S [115, 117, 109]) 48 (Value.builtin PySem.W.SL.s741896355592496720x3), dk P (S [118, 97, 114, 115]) 49 (Value.builtin PySem.W.SL.s17925004256654032244x4), dk P (S [78, 111, 110, 101]) 50 (nn), dk P (S [69, 108, 108, 105, 112, 115, 105, 115]) 51 (.ellipsis), dk P (S [78, 111, 116, 73, 109, 112, 108, 101, 109, 101, 110, 116, 101, 100]) 52 (.notImplemented), dk P (S [70, 97, 108, 115, 101]) 53 (Value.bool false), dk P (S [84, 114, 117, 101]) 54 (Value.bool true), dk P (S [98, 111, 111, 108]) 55 (Value.type PySem.W.SL.s11695548795398191787x4), dk P (S [109, 101, 109, 111, 114, 121, 118, 105, 101, 119]) 56 (Value.type PySem.W.SL.s4156966113859768872x10), dk P (S [98, 121, 116, 101, 97, 114, 114, 97, 121]) 57 (Value.type PySem.W.SL.s9501651726347032510x9), dk P (S [98, 121, 116, 101, 115]) 58 (Value.type PySem.W.SL.s15722918466584999320x5), dk P (S [99, 108, 97, 115, 115, 109, 101, 116, 104, 111, 100]) 59 (Value.type PySem.W.SL.s591115383303110208x11), dk P (S [99, 111, 109, 112, 108, 101, 120]) 60 (Value.type PySem.W.SL.s15721156781594690315x7), dk P (S [100, 105, 99, 116]) 61 y8, dk P (S [101, 110, 117, 109, 101, 114, 97, 116, 101]) 62 (Value.type PySem.W.SL.s14340494229221121180x9), dk P (S [102, 105, 108, 116, 101, 114]) 63 (Value.type PySem.W.SL.s13429844117177748173x6), dk P (S [102, 108, 111, 97, 116]) 64 (Value.type PySem.W.SL.s16463266125957815391x5), dk P (S [102, 114, 111, 122, 101, 110, 115, 101, 116]) 65 (Value.type PySem.W.SL.s4922535414793169389x9), dk P (S [112, 114, 111, 112, 101, 114, 116, 121]) 66 y14, dk P (S [105, 110, 116]) 67 (Value.type PySem.W.SL.s7066276694103001551x3), dk P (S [108, 105, 115, 116]) 68 y4, dk P (S [109, 97, 112]) 69 (Value.type PySem.W.SL.s462964344163437139x3), dk P (S [111, 98, 106, 101, 99, 116]) 70 y10, dk P (S [114, 97, 110, 103, 101]) 71 (Value.type PySem.W.SL.s1438033511350832697x5), dk P (S [114, 101, 118, 101, 114, 115, 101, 100]) 72 (Value.type PySem.W.SL.s14365286008749172514x8), dk P (S [115, 101, 116]) 73 (Value.type PySem.W.SL.s3642769012341782148x3), dk P (S [115, 108, 105, 99, 101]) 74 y15, dk P (S [115, 116, 97, 116, 105, 99, 109, 101, 116, 104, 111, 100]) 75 y16, dk P (S [115, 116, 114]) 76 (Value.type PySem.W.SL.s10796804682411823810x3), dk P (S [115, 117, 112, 101, 114]) 77 (Value.type PySem.W.SL.s4290257624100764138x5), dk P (S [116, 117, 112, 108, 101]) 78 y3, dk P (S [116, 121, 112, 101]) 79 y11, dk P (S [122, 105, 112]) 80 (Value.type PySem.W.SL.s14339709457334898076x3), dk P (S [95, 95, 100, 101, 98, 117, 103, 95, 95]) 81 (Value.bool true), dk P (S [66, 97, 115, 101, 69, 120, 99, 101, 112, 116, 105, 111, 110]) 82 (Value.type PySem.W.SL.s4278001404047624695x13), dk P (S [66, 97, 115, 101, 69, 120, 99, 101, 112, 116, 105, 111, 110, 71, 114, 111, 117, 112]) 83 (Value.type PySem.W.SL.s6585700554429387442x18), dk P (S [69, 120, 99, 101, 112, 116, 105, 111, 110]) 84 (Value.type PySem.W.SL.s5946037652744460706x9), dk P (S [71, 101, 110, 101, 114, 97, 116, 111, 114, 69, 120, 105, 116]) 85 (Value.type PySem.W.SL.s7410770068591931388x13), dk P (S [75, 101, 121, 98, 111, 97, 114, 100, 73, 110, 116, 101, 114, 114, 117, 112, 116]) 86 (Value.type PySem.W.SL.s11817881795495490833x17), dk P (S [83, 121, 115, 116, 101, 109, 69, 120, 105, 116]) 87 (Value.type PySem.W.SL.s15679963881808890155x10), dk P (S [65, 114, 105, 116, 104, 109, 101, 116, 105, 99, 69, 114, 114, 111, 114]) 88 (Value.type PySem.W.SL.s3871700062485845797x15), dk P (S [65, 115, 115, 101, 114, 116, 105, 111, 110, 69, 114, 114, 111, 114]) 89 (Value.type PySem.W.SL.s7689518266570723881x14), dk P (S [65, 116, 116, 114, 105, 98, 117, 116, 101, 69, 114, 114, 111, 114]) 90 (Value.type PySem.W.SL.s9001593270443806431x14), dk P (S [66, 117, 102, 102, 101, 114, 69, 114, 114, 111, 114]) 91 (Value.type PySem.W.SL.s6882542574934516792x11), dk P (S [69, 79, 70, 69, 114, 114, 111, 114]) 92 (Value.type PySem.W.SL.s14403400214490484960x8), dk P (S [73, 109, 112, 111, 114, 116, 69, 114, 114, 111, 114]) 93 (Value.type PySem.W.SL.s14457978657717015782x11), dk P (S [76, 111, 111, 107, 117, 112, 69, 114, 114, 111, 114]) 94 (Value.type PySem.W.SL.s1753610191782819921x11), dk P (S [77, 101, 109, 111, 114, 121, 69, 114, 114, 111, 114]) 95 (Value.type PySem.W.SL.s14119380538032626715x11), dk P (S [78, 97, 109, 101, 69, 114, 114, 111, 114]) 96 (Value.type PySem.W.SL.s11437920000406562045x9), dk P (S [79, 83, 69, 114, 114, 111, 114]) 97 y12, dk P (S [82, 101, 102, 101, 114, 101, 110, 99, 101, 69, 114, 114, 111, 114]) 98 (Value.type PySem.W.SL.s14816307405966870543x14), dk P (S [82, 117, 110, 116, 105, 109, 101, 69, 114, 114, 111, 114]) 99 (Value.type PySem.W.SL.s8682627914449686677x12), dk P (S [83, 116, 111, 112, 65, 115, 121, 110, 99, 73, 116, 101, 114, 97, 116, 105, 111, 110]) 100 (Value.type PySem.W.SL.s4428170145600203450x18), dk P (S [83, 116, 111, 112, 73, 116, 101, 114, 97, 116, 105, 111, 110]) 101 y13, dk P (S [83, 121, 110, 116, 97, 120, 69, 114, 114, 111, 114]) 102 (Value.type PySem.W.SL.s16067994140765818257x11), dk P (S [83, 121, 115, 116, 101, 109, 69, 114, 114, 111, 114]) 103 (Value.type PySem.W.SL.s2327743974964600596x11), dk P (S [84, 121, 112, 101, 69, 114, 114, 111, 114]) 104 (Value.type PySem.W.SL.s2804747833354056582x9), dk P (S [86, 97, 108, 117, 101, 69, 114, 114, 111, 114]) 105 (Value.type PySem.W.SL.s6070975301684473832x10), dk P (S [87, 97, 114, 110, 105, 110, 103]) 106 (Value.type PySem.W.SL.s14270485950484850486x7), dk P (S [70, 108, 111, 97, 116, 105, 110, 103, 80, 111, 105, 110, 116, 69, 114, 114, 111, 114]) 107 (Value.type PySem.W.SL.s12041534306414923332x18), dk P (S [79, 118, 101, 114, 102, 108, 111, 119, 69, 114, 114, 111, 114]) 108 (Value.type PySem.W.SL.s2531307568338490285x13), dk P (S [90, 101, 114, 111, 68, 105, 118, 105, 115, 105, 111, 110, 69, 114, 114, 111, 114]) 109 (Value.type PySem.W.SL.s631175304937289666x17), dk P (S [66, 121, 116, 101, 115, 87, 97, 114, 110, 105, 110, 103]) 110 (Value.type PySem.W.SL.s5144983644357021410x12), dk P (S [68, 101, 112, 114, 101, 99, 97, 116, 105, 111, 110, 87, 97, 114, 110, 105, 110, 103]) 111 (Value.type PySem.W.SL.s18039099521571816885x18), dk P (S [69, 110, 99, 111, 100, 105, 110, 103, 87, 97, 114, 110, 105, 110, 103]) 112 (Value.type PySem.W.SL.s6011586214260557989x15), dk P (S [70, 117, 116, 117, 114, 101, 87, 97, 114, 110, 105, 110, 103]) 113 (Value.type PySem.W.SL.s5430567037509283100x13), dk P (S [73, 109, 112, 111, 114, 116, 87, 97, 114, 110, 105, 110, 103]) 114 (Value.type PySem.W.SL.s8117915138073963741x13), dk P (S [80, 101, 110, 100, 105, 110, 103, 68, 101, 112, 114, 101, 99, 97, 116, 105, 111, 110, 87, 97, 114, 110, 105, 110, 103]) 115 (Value.type PySem.W.SL.s3423317712779056401x25), dk P (S [82, 101, 115, 111, 117, 114, 99, 101, 87, 97, 114, 110, 105, 110, 103]) 116 (Value.type PySem.W.SL.s2007317383269046180x15), dk P (S [82, 117, 110, 116, 105, 109, 101, 87, 97, 114, 110, 105, 110, 103]) 117 (Value.type PySem.W.SL.s17481586968713580700x14), dk P (S [83, 121, 110, 116, 97, 120, 87, 97, 114, 110, 105, 110, 103]) 118 (Value.type PySem.W.SL.s2450899226349176912x13), dk P (S [85, 110, 105, 99, 111, 100, 101, 87, 97, 114, 110, 105, 110, 103]) 119 (Value.type PySem.W.SL.s16626165730633575011x14), dk P (S [85, 115, 101, 114, 87, 97, 114, 110, 105, 110, 103]) 120 (Value.type PySem.W.SL.s14288496050688921416x11), dk P (S [66, 108, 111, 99, 107, 105, 110, 103, 73, 79, 69, 114, 114, 111, 114]) 121 (Value.type PySem.W.SL.s5735081916595925998x15), dk P (S [67, 104, 105, 108, 100, 80, 114, 111, 99, 101, 115, 115, 69, 114, 114, 111, 114]) 122 (Value.type PySem.W.SL.s3865607918536308442x17), dk P (S [67, 111, 110, 110, 101, 99, 116, 105, 111, 110, 69, 114, 114, 111, 114]) 123 (Value.type PySem.W.SL.s13337502604062700212x15), dk P (S [70, 105, 108, 101, 69, 120, 105, 115, 116, 115, 69, 114, 114, 111, 114]) 124 (Value.type PySem.W.SL.s13114017843053701147x15), dk P (S [70, 105, 108, 101, 78, 111, 116, 70, 111, 117, 110, 100, 69, 114, 114, 111, 114]) 125 (Value.type PySem.W.SL.s17467278006356818441x17), dk P (S [73, 110, 116, 101, 114, 114, 117, 112, 116, 101, 100, 69, 114, 114, 111, 114]) 126 (Value.type PySem.W.SL.s17722149559621369488x16), dk P (S [73, 115, 65, 68, 105, 114, 101, 99, 116, 111, 114, 121, 69, 114, 114, 111, 114]) 127 (Value.type PySem.W.SL.s7855274175708717672x17), dk P (S [78, 111, 116, 65, 68, 105, 114, 101, 99, 116, 111, 114, 121, 69, 114, 114, 111, 114]) 128 (Value.type PySem.W.SL.s13351283678309829046x18), dk P (S [80, 101, 114, 109, 105, 115, 115, 105, 111, 110, 69, 114, 114, 111, 114]) 129 (Value.type PySem.W.SL.s6668348653404991179x15), dk P (S [80, 114, 111, 99, 101, 115, 115, 76, 111, 111, 107, 117, 112, 69, 114, 114, 111, 114]) 130 (Value.type PySem.W.SL.s12913350958174193794x18), dk P (S [84, 105, 109, 101, 111, 117, 116, 69, 114, 114, 111, 114]) 131 (Value.type PySem.W.SL.s16115879512475548326x12), dk P (S [73, 110, 100, 101, 110, 116, 97, 116, 105, 111, 110, 69, 114, 114, 111, 114]) 132 (Value.type PySem.W.SL.s15920661018069861047x16), dk P (S [95, 73, 110, 99, 111, 109, 112, 108, 101, 116, 101, 73, 110, 112, 117, 116, 69, 114, 114, 111, 114]) 133 (Value.type PySem.W.SL.s10779130036587390575x21), dk P (S [73, 110, 100, 101, 120, 69, 114, 114, 111, 114]) 134 (Value.type PySem.W.SL.s7801419657504700863x10), dk P (S [75, 101, 121, 69, 114, 114, 111, 114]) 135 (Value.type PySem.W.SL.s1688129525768580628x8), dk P (S [77, 111, 100, 117, 108, 101, 78, 111, 116, 70, 111, 117, 110, 100, 69, 114, 114, 111, 114]) 136 (Value.type PySem.W.SL.s1031832959479892071x19), dk P (S [78, 111, 116, 73, 109, 112, 108, 101, 109, 101, 110, 116, 101, 100, 69, 114, 114, 111, 114]) 137 (Value.type PySem.W.SL.s8991790508128307865x19), dk P (S [80, 121, 116, 104, 111, 110, 70, 105, 110, 97, 108, 105, 122, 97, 116, 105, 111, 110, 69, 114, 114, 111, 114]) 138 (Value.type PySem.W.SL.s14539662485746970245x23), dk P (S [82, 101, 99, 117, 114, 115, 105, 111, 110, 69, 114, 114, 111, 114]) 139 (Value.type PySem.W.SL.s11643622729373238714x14), dk P (S [85, 110, 98, 111, 117, 110, 100, 76, 111, 99, 97, 108, 69, 114, 114, 111, 114]) 140 (Value.type PySem.W.SL.s3386828779285465597x17), dk P (S [85, 110, 105, 99, 111, 100, 101, 69, 114, 114, 111, 114]) 141 (Value.type PySem.W.SL.s13042696260734638735x12), dk P (S [66, 114, 111, 107, 101, 110, 80, 105, 112, 101, 69, 114, 114, 111, 114]) 142 (Value.type PySem.W.SL.s18239426817015966623x15), dk P (S [67, 111, 110, 110, 101, 99, 116, 105, 111, 110, 65, 98, 111, 114, 116, 101, 100, 69, 114, 114, 111, 114]) 143 (Value.type PySem.W.SL.s1270395311379034370x22), dk P (S [67, 111, 110, 110, 101, 99, 116, 105, 111, 110, 82, 101, 102, 117, 115, 101, 100, 69, 114, 114, 111, 114]) 144 (Value.type PySem.W.SL.s10696252587037064777x22), dk P (S [67, 111, 110, 110, 101, 99, 116, 105, 111, 110, 82, 101, 115, 101, 116, 69, 114, 114, 111, 114]) 145 (Value.type PySem.W.SL.s7852717498200857586x20), dk P (S [84, 97, 98, 69, 114, 114, 111, 114]) 146 (Value.type PySem.W.SL.s6377248116197321094x8), dk P (S [85, 110, 105, 99, 111, 100, 101, 68, 101, 99, 111, 100, 101, 69, 114, 114, 111, 114]) 147 (Value.type PySem.W.SL.s3834378056692298002x18), dk P (S [85, 110, 105, 99, 111, 100, 101, 69, 110, 99, 111, 100, 101, 69, 114, 114, 111, 114]) 148 (Value.type PySem.W.SL.s17586630440231065808x18), dk P (S [85, 110, 105, 99, 111, 100, 101, 84, 114, 97, 110, 115, 108, 97, 116, 101, 69, 114, 114, 111, 114]) 149 (Value.type PySem.W.SL.s15234114252648025395x21), dk P (S [69, 120, 99, 101, 112, 116, 105, 111, 110, 71, 114, 111, 117, 112]) 150 (Value.type PySem.W.SL.s8496462677383758984x14), dk P (S [69, 110, 118, 105, 114, 111, 110, 109, 101, 110, 116, 69, 114, 114, 111, 114]) 151 y12, dk P (S [73, 79, 69, 114, 114, 111, 114]) 152 y12, dk P (S [111, 112, 101, 110]) 153 (Value.builtin PySem.W.SL.s16789243406116112673x4), dk P (S [113, 117, 105, 116]) 154 (Value.builtin PySem.W.SL.s14400166428656793546x20), dk P (S [101, 120, 105, 116]) 155 (Value.builtin PySem.W.SL.s5857708277339239366x20), dk P (S [99, 111, 112, 121, 114, 105, 103, 104, 116]) 156 (Value.builtin "builtins.copyright#opaque"), dk P (S [99, 114, 101, 100, 105, 116, 115]) 157 (Value.builtin "builtins.credits#opaque"), dk P (S [108, 105, 99, 101, 110, 115, 101]) 158 (Value.builtin "builtins.license#opaque"), dk P (S [104, 101, 108, 112]) 159 (Value.builtin PySem.W.SL.s7804999707787243718x20)]⟩ 159, ⟨[]⟩⟩
noncomputable def o2 (P : Params) : Obj := ⟨nn, none, .dict ⟨[dk P (S [105, 109, 112, 111, 114, 116, 46, 108, 111, 97, 100, 101, 100, 46, 95, 115, 114, 101]) 183 (Value.bool true), dk P (S [99, 108, 97, 115, 115, 46, 95, 102, 114, 111, 122, 101, 110, 95, 105, 109, 112, 111, 114, 116, 108, 105, 98, 46, 66, 117, 105, 108, 116, 105, 110, 73, 109, 112, 111, 114, 116, 101, 114]) 185 (rf 14), dk P (S [119, 97, 116, 99, 104, 101, 100, 46, 105, 109, 112, 111, 114, 116]) 206 (rf 18), dk P (S [99, 108, 97, 115, 115, 46, 95, 102, 114, 111, 122, 101, 110, 95, 105, 109, 112, 111, 114, 116, 108, 105, 98, 46, 77, 111, 100, 117, 108, 101, 83, 112, 101, 99]) 216 (rf 22), dk P (S [115, 121, 115, 46, 109, 111, 100, 117, 108, 101, 115, 46, 98, 111, 111, 107, 101, 100, 45, 101, 112, 111, 99, 104]) 245 (vo 4 0), dk P (S [105, 109, 112, 111, 114, 116, 46, 108, 97, 116, 101, 114, 45, 108, 97, 105, 100, 46, 95, 115, 114, 101]) 270 (Value.bool true), dk P (S [119, 97, 116, 99, 104, 101, 100, 46, 108, 105, 98, 114, 97, 114, 121]) 272 (rf 27), dk P (S [119, 97, 116, 99, 104, 101, 100, 46, 108, 105, 98, 114, 97, 114, 121, 45, 111, 98, 106, 101, 99, 116, 115]) 0 (vs (S [12, 30]) 0), dk P (S [119, 97, 116, 99, 104, 101, 100, 46, 108, 105, 98, 114, 97, 114, 121, 45, 100, 101, 101, 112, 46, 95, 115, 114, 101]) 273 (vs (S [4, 0, 0, 11, 4, 0, 0, 11, 4, 0, 0, 3, 4, 0, 0, 11, 8, 4, 100, 105, 99, 116, 2]) 0), dk P (S [105, 109, 112, 111, 114, 116, 46, 108, 111, 97, 100, 101, 100, 46, 95, 99, 111, 108, 108, 101, 99, 116, 105, 111, 110, 115]) 280 (Value.bool true), dk P (S [115, 121, 115, 46, 109, 111, 100, 117, 108, 101, 115, 46, 108, 97, 110, 100, 101, 100, 46, 95, 99, 111, 108, 108, 101, 99, 116, 105, 111, 110, 115]) 294 (Value.bool true), dk P (S [105, 109, 112, 111, 114, 116, 46, 108, 97, 116, 101, 114, 45, 108, 97, 105, 100, 46, 95, 99, 111, 108, 108, 101, 99, 116, 105, 111, 110, 115]) 309 (Value.bool true), dk P (S [119, 97, 116, 99, 104, 101, 100, 46, 108, 105, 98, 114, 97, 114, 121, 45, 100, 101, 101, 112, 46, 95, 99, 111, 108, 108, 101, 99, 116, 105, 111, 110, 115]) 311 (vs (S [4, 0, 0, 29, 4, 0, 0, 29, 4, 0, 0, 3, 4, 0, 0, 29, 8, 4, 100, 105, 99, 116, 2]) 0), dk P (S [116, 121, 112, 101, 46, 95, 95, 115, 117, 98, 99, 108, 97, 115, 115, 101, 115, 95, 95, 46, 79, 83, 69, 114, 114, 111, 114, 46, 48]) 609 (vo 209 0), dk P (S [116, 121, 112, 101, 46, 95, 95, 115, 117, 98, 99, 108, 97, 115, 115, 101, 115, 95, 95, 46, 79, 83, 69, 114, 114, 111, 114, 46, 110]) 610 (vo 1 0)]⟩ 15, ⟨[]⟩⟩
noncomputable def o3 (P : Params) : Obj := ⟨y8, none, .dict ⟨[dk P z84 165 (vs z94 1458), dk P z44 166 (nn), dk P z95 167 (nn), dk P z96 168 (Value.builtin PySem.W.SL.s7097527257260152453x26), dk P z97 169 (nn), dk P (S [95, 95, 97, 110, 110, 111, 116, 97, 116, 105, 111, 110, 115, 95, 95]) 170 (rf 6), dk P (S [95, 95, 98, 117, 105, 108, 116, 105, 110, 115, 95, 95]) 171 (rf 4), dk P (S [95, 95, 102, 105, 108, 101, 95, 95]) 173 (vs z23 172), dk P (S [95, 95, 99, 97, 99, 104, 101, 100, 95, 95]) 174 (nn), dk P (S [95, 115, 114, 101]) 275 (rf 12), dk P (S [100, 101, 113, 117, 101]) 317 (Value.type PySem.W.SL.s5314052453082223887x17), dk P (S [95, 119, 97, 108, 108]) 330 (rf 44), dk P (S [95, 112, 108, 97, 105, 110, 95, 110, 97, 109, 101]) 341 (rf 51), dk P (S [65, 66, 67, 77, 101, 116, 97]) 367 (rf 68), dk P (S [95, 65, 66, 67, 76, 105, 107, 101]) 410 (rf 101), dk P (S [95, 97, 98, 99, 95, 112, 108, 97, 105, 110, 95, 109, 101, 116, 97]) 417 (rf 110), dk P z61 429 (rf 117), dk P (S [95, 99, 104, 101, 99, 107, 95, 97, 114, 103, 95, 116, 121, 112, 101, 115]) 442 (rf 756), dk P (S [99, 104, 101, 99, 107, 95, 97, 114, 103, 95, 116, 121, 112, 101, 115, 95, 103, 101, 110, 101, 114, 105, 99, 112, 97, 116, 104]) 443 (rf 124), dk P z62 452 (rf 131), dk P z46 463 (rf 887), dk P (S [106, 111, 105, 110, 95, 112, 111, 115, 105, 120, 112, 97, 116, 104]) 464 (rf 138), dk P z63 473 (rf 145), dk P z64 488 (rf 152), dk P z66 498 (rf 159), dk P z68 507 (rf 166), dk P z67 519 (rf 173), dk P z69 532 (rf 180), dk P (S [95, 116, 119, 105, 110, 95, 114, 101, 95, 49]) 572 (rf 185), dk P (S [95, 119, 104, 101, 110, 99, 101]) 582 (rf 192), dk P z70 590 (rf 199), dk P (S [85, 110, 115, 117, 112, 112, 111, 114, 116, 101, 100, 79, 112, 101, 114, 97, 116, 105, 111, 110]) 612 (rf 209), dk P z82 644 (rf 229), dk P (S [66, 117, 102, 102, 101, 114, 101, 100, 73, 79, 66, 97, 115, 101]) 662 (rf 244), dk P z83 680 (rf 256), dk P z71 942 (rf 486), dk P z72 1229 (rf 733), dk P (S [95, 107, 105, 110, 100]) 1240 (rf 742), dk P (S [95, 102, 115, 112, 97, 116, 104]) 1249 (rf 749), dk P (S [99, 104, 101, 99, 107, 95, 97, 114, 103, 95, 116, 121, 112, 101, 115, 95, 112, 97, 116, 104]) 1260 (rf 756), dk P (S [105, 115, 97, 98, 115]) 1267 (rf 763), dk P (S [106, 111, 105, 110, 95, 112, 97, 116, 104]) 1279 (rf 770), dk P (S [100, 105, 114, 110, 97, 109, 101]) 1289 (rf 777), dk P z75 1430 (rf 868), dk P z65 1440 (rf 880), dk P (S [106, 111, 105, 110, 95, 115, 104, 108, 101, 120]) 1448 (rf 887), dk P (S [95, 102, 105, 110, 100, 95, 117, 110, 115, 97, 102, 101]) 1450 (rf 888), dk P z76 1457 (rf 895), dk P z77 1465 (rf 900), dk P z78 1479 (rf 907), dk P z79 1492 (rf 914), dk P z80 1504 (rf 921)]⟩ 52, ⟨[]⟩⟩
noncomputable def o4 (P : Params) : Obj := ⟨Value.type PySem.W.SL.s6658869562736209489x6, (some 0), .plain, ⟨[]⟩⟩
noncomputable def o116 (P : Params) : Obj := oC z61 420 z61 421 z23 422 37 1 3 111 [rf 112, nn, rf 113, rf 114, rf 115] 427 428
noncomputable def o117 (P : Params) : Obj := ⟨y2, none, .func ⟨z61, z61, f117.1.1, .stmts f117.1.2.1, f117.1.2.2, 3, [], nn, nn, nn, vs (S [111, 115]) 418, none, rf 116, nn, 0⟩, ⟨[]⟩⟩
noncomputable def o130 (P : Params) : Obj := oC z62 446 z62 447 z23 448 67 1 3 125 [rf 126, nn, rf 127, rf 128, rf 129] 450 451
noncomputable def o131 (P : Params) : Obj := oF z62 z62 f131 z98 444 130
noncomputable def o137 (P : Params) : Obj := oC z46 453 z46 454 z23 455 72 1 7 132 [rf 133, nn, rf 134, rf 135, rf 136] 461 462
noncomputable def o138 (P : Params) : Obj := oF z46 z46 f138 z98 444 137
noncomputable def o144 (P : Params) : Obj := oC z63 465 z63 466 z23 467 90 1 3 139 [rf 140, nn, rf 141, rf 142, rf 143] 471 472
noncomputable def o145 (P : Params) : Obj := oF z63 z63 f145 z98 444 144
noncomputable def o151 (P : Params) : Obj := oC z64 474 z64 475 z23 476 104 1 3 146 [rf 147, nn, rf 148, rf 149, rf 150] 486 487
noncomputable def o152 (P : Params) : Obj := oF z64 z64 f152 z98 444 151
noncomputable def o158 (P : Params) : Obj := oC z66 491 z66 492 z23 493 130 2 3 153 [rf 154, nn, rf 155, rf 156, rf 157] 496 497
noncomputable def o159 (P : Params) : Obj := oF z66 z66 f159 z99 489 158
noncomputable def o165 (P : Params) : Obj := oC z68 499 z68 500 z23 501 133 1 3 160 [rf 161, nn, rf 162, rf 163, rf 164] 505 506
noncomputable def o166 (P : Params) : Obj := oF z68 z68 f166 z99 489 165
noncomputable def o172 (P : Params) : Obj := oC z67 508 z67 509 z23 510 141 3 3 167 [rf 168, nn, rf 169, rf 170, rf 171] 517 518
noncomputable def o173 (P : Params) : Obj := oF z67 z67 f173 z99 489 172
noncomputable def o179 (P : Params) : Obj := oC z69 520 z69 521 z23 522 152 2 3 174 [rf 175, nn, rf 176, rf 177, rf 178] 530 531
noncomputable def o180 (P : Params) : Obj := oF z69 z69 f180 z99 489 179
noncomputable def o184 (P : Params) : Obj := ⟨y3, none, .seq ⟨[vo 14 0, vo 17 0, vo 4 0, vo 1 0, vo 1 0, vo 21 0, vo 9 0, vo 0 0, vo 604043296 0, vo 1 0, vo 0 0, vo 0 0, vo 0 0, vo 0 0, vo 0 0, vo 8 0, vo 4 0, vo 0 0, vo 13 0, vo 14 0, vo 21 0, vo 9 0, vo 0 0, vo 604043296 0, vo 1 0, vo 0 0, vo 0 0, vo 0 0, vo 0 0, vo 0 0, vo 8 0, vo 4 0, vo 0 0, vo 1 0]⟩ 0, ⟨[]⟩⟩
noncomputable def o185 (P : Params) : Obj := ⟨Value.type PySem.W.SL.s12171344214640291687x10, none, .fields ⟨[vs (S [91, 94, 92, 119, 64, 37, 43, 61, 58, 44, 46, 47, 45, 93]) 534, vo 256 571, vo 0 0, nn, nn, rf 184, vo 0 0]⟩, ⟨[]⟩⟩
noncomputable def o198 (P : Params) : Obj := oC z70 583 z70 584 z23 585 173 2 3 193 [rf 194, nn, rf 195, rf 196, rf 197] 588 589
noncomputable def o199 (P : Params) : Obj := oF z70 z70 f199 z57 573 198
noncomputable def o225 (P : Params) : Obj := ⟨y1, none, .fields ⟨[vs z85 627, vs z288 628, vs z23 629, vo 185 0, vo 1 0, vo 1 0, vo 0 0, vo 15 0, rf 220, Value.bool true, vo 318 0, rf 221, nn, rf 222, rf 223, rf 224, vo 633 0, vo 185 0, vs z23 634]⟩, ⟨[]⟩⟩
noncomputable def o226 (P : Params) : Obj := oF z85 z288 f226 z57 573 225
noncomputable def o228 (P : Params) : Obj := ⟨y8, none, .dict ⟨[dk P z58 620 (vs z57 625), dk P z59 624 (vo 182 623), dk P z85 635 (rf 230), dk P z60 636 (rf 227), dk P z100 639 (rf 231), dk P z101 641 (rf 232), dk P z44 642 (nn)]⟩ 4, ⟨[]⟩⟩
noncomputable def o229 (P : Params) : Obj := ⟨y11, none, .cls ⟨z82, [y10], [rf 229, y10], 228, z82, true, [], [rf 244, rf 256], false, none, false⟩, ⟨[none, none, (some (vs z82 613)), (some (vs z82 621)), (some (nn)), (some (Value.bool true))]⟩⟩
noncomputable def o230 (P : Params) : Obj := ⟨y16, none, .fields ⟨[rf 226]⟩, ⟨[]⟩⟩
noncomputable def o255 (P : Params) : Obj := ⟨y8, none, .dict ⟨[dk P z58 670 (vs z57 675), dk P z59 674 (vo 191 673), dk P z60 677 (rf 254), dk P z44 678 (nn)]⟩ 2, ⟨[]⟩⟩
noncomputable def o256 (P : Params) : Obj := ⟨y11, none, .cls ⟨z83, [rf 229], [rf 256, rf 229, y10], 255, z83, true, [], [rf 733], false, none, false⟩, ⟨[(some (rf 247)), none, (some (vs z83 663)), (some (vs z83 671)), (some (nn)), (some (Value.bool true))]⟩⟩
noncomputable def o486 (P : Params) : Obj := ⟨y11, none, .cls ⟨z71, [rf 244], [rf 486, rf 244, rf 229, y10], 485, z71, true, [], [], false, none, false⟩, ⟨[(some (rf 259)), none, (some (vs z71 681)), (some (vs z71 689)), (some (nn)), (some (Value.bool true))]⟩⟩
noncomputable def o496 (P : Params) : Obj := ⟨y3, none, .seq ⟨[vs (S []) 957, vs (S [10]) 958]⟩ 0, ⟨[]⟩⟩
noncomputable def o502 (P : Params) : Obj := oC z52 959 z289 960 z23 961 366 3 3 497 [rf 498, nn, rf 499, rf 500, rf 501] 965 966
noncomputable def o503 (P : Params) : Obj := ⟨y2, none, .func ⟨z52, z289, f503.1.1, .stmts f503.1.2.1, f503.1.2.2, 3, [], rf 496, nn, nn, vs z57 573, none, rf 502, nn, 0⟩, ⟨[]⟩⟩
noncomputable def o509 (P : Params) : Obj := oC z125 968 z290 969 z23 970 379 2 3 504 [rf 505, nn, rf 506, rf 507, rf 508] 974 975
noncomputable def o510 (P : Params) : Obj := oF z125 z290 f510 z57 573 509
noncomputable def o516 (P : Params) : Obj := oC z126 977 z291 978 z23 979 387 1 3 511 [rf 512, nn, rf 513, rf 514, rf 515] 981 982
noncomputable def o517 (P : Params) : Obj := oF z126 z291 f517 z57 573 516
noncomputable def o672 (P : Params) : Obj := ⟨y3, none, .seq ⟨[vi (Int.negSucc 0) 1150]⟩ 0, ⟨[]⟩⟩
noncomputable def o678 (P : Params) : Obj := ⟨y1, none, .fields ⟨[vs z86 1151, vs z292 1152, vs z23 1153, vo 509 0, vo 2 0, vo 2 0, vo 0 0, vo 3 0, rf 673, Value.bool true, vo 318 0, rf 674, nn, rf 675, rf 676, rf 677, vo 1158 0, vo 509 0, vs z23 1159]⟩, ⟨[]⟩⟩
noncomputable def o679 (P : Params) : Obj := ⟨y2, none, .func ⟨z86, z292, f679.1.1, .stmts f679.1.2.1, f679.1.2.2, 3, [], rf 672, nn, nn, vs z57 573, none, rf 678, nn, 0⟩, ⟨[]⟩⟩
noncomputable def o732 (P : Params) : Obj := ⟨y8, none, .dict ⟨[dk P z58 950 (vs (S [95, 105, 111]) 955), dk P z59 954 (vo 363 953), dk P z52 967 (rf 503), dk P (S [95, 83, 116, 114, 105, 110, 103, 73, 79, 95, 95, 116, 114, 97, 110, 115, 108, 97, 116, 101, 100]) 976 (rf 510), dk P (S [95, 83, 116, 114, 105, 110, 103, 73, 79, 95, 95, 99, 104, 101, 99, 107]) 983 (rf 517), dk P (S [95, 83, 116, 114, 105, 110, 103, 73, 79, 95, 95, 99, 104, 101, 99, 107, 95, 100, 111, 116]) 990 (rf 524), dk P (S [95, 83, 116, 114, 105, 110, 103, 73, 79, 95, 95, 108, 105, 110, 101]) 1005 (rf 531), dk P (S [99, 108, 111, 115, 101, 100]) 1013 (rf 539), dk P (S [108, 105, 110, 101, 95, 98, 117, 102, 102, 101, 114, 105, 110, 103]) 1021 (rf 547), dk P (S [110, 101, 119, 108, 105, 110, 101, 115]) 1029 (rf 555), dk P (S [101, 110, 99, 111, 100, 105, 110, 103]) 1037 (rf 563), dk P (S [101, 114, 114, 111, 114, 115]) 1045 (rf 571), dk P (S [99, 108, 111, 115, 101]) 1052 (rf 578), dk P (S [95, 95, 101, 110, 116, 101, 114, 95, 95]) 1059 (rf 585), dk P (S [95, 95, 101, 120, 105, 116, 95, 95]) 1067 (rf 592), dk P (S [114, 101, 97, 100, 97, 98, 108, 101]) 1074 (rf 599), dk P (S [119, 114, 105, 116, 97, 98, 108, 101]) 1081 (rf 606), dk P (S [115, 101, 101, 107, 97, 98, 108, 101]) 1088 (rf 613), dk P (S [105, 115, 97, 116, 116, 121]) 1095 (rf 620), dk P (S [102, 108, 117, 115, 104]) 1102 (rf 627), dk P (S [102, 105, 108, 101, 110, 111]) 1109 (rf 634), dk P (S [100, 101, 116, 97, 99, 104]) 1116 (rf 641), dk P (S [103, 101, 116, 118, 97, 108, 117, 101]) 1123 (rf 648), dk P (S [116, 101, 108, 108]) 1130 (rf 655), dk P (S [115, 101, 101, 107]) 1140 (rf 663), dk P (S [116, 114, 117, 110, 99, 97, 116, 101]) 1148 (rf 671), dk P z86 1160 (rf 679), dk P (S [114, 101, 97, 100, 108, 105, 110, 101]) 1170 (rf 687), dk P (S [114, 101, 97, 100, 108, 105, 110, 101, 115]) 1180 (rf 695), dk P z73 1187 (rf 702), dk P z74 1195 (rf 709), dk P (S [119, 114, 105, 116, 101]) 1207 (rf 716), dk P (S [119, 114, 105, 116, 101, 108, 105, 110, 101, 115]) 1215 (rf 723), dk P (S [95, 95, 114, 101, 112, 114, 95, 95]) 1222 (rf 730), dk P z60 1226 (rf 731), dk P z44 1227 (nn)]⟩ 2, ⟨[]⟩⟩
noncomputable def o733 (P : Params) : Obj := ⟨y11, none, .cls ⟨z72, [rf 256], [rf 733, rf 256, rf 229, y10], 732, z72, true, [], [], false, none, false⟩, ⟨[(some (rf 489)), none, (some (vs z72 943)), (some (vs z72 951)), (some (nn)), (some (Value.bool true))]⟩⟩
noncomputable def o785 (P : Params) : Obj := ⟨y3, none, .seq ⟨[nn, nn, Value.bool false, Value.bool false]⟩ 0, ⟨[]⟩⟩
noncomputable def o791 (P : Params) : Obj := oC z52 1304 z313 1305 z23 1306 636 5 3 786 [rf 787, nn, rf 788, rf 789, rf 790] 1313 1314
noncomputable def o792 (P : Params) : Obj := ⟨y2, none, .func ⟨z52, z313, f792.1.1, .stmts f792.1.2.1, f792.1.2.2, 3, [], rf 785, nn, nn, vs z49 1290, none, rf 791, nn, 0⟩, ⟨[]⟩⟩
noncomputable def o798 (P : Params) : Obj := oC z81 1316 z314 1317 z23 1318 677 1 3 793 [rf 794, nn, rf 795, rf 796, rf 797] 1320 1321
noncomputable def o799 (P : Params) : Obj := oF z81 z314 f799 z49 1290 798
noncomputable def o800 (P : Params) : Obj := ⟨y14, none, .fields ⟨[rf 799, nn, nn, nn, vs z81 1323, Value.bool false]⟩, ⟨[]⟩⟩
noncomputable def o828 (P : Params) : Obj := oC z89 1348 z315 1349 z23 1350 704 1 3 823 [rf 824, nn, rf 825, rf 826, rf 827] 1357 1358
noncomputable def o829 (P : Params) : Obj := oF z89 z315 f829 z49 1290 828
noncomputable def o835 (P : Params) : Obj := oC z90 1360 z316 1361 z23 1362 731 1 3 830 [rf 831, nn, rf 832, rf 833, rf 834] 1368 1369
noncomputable def o836 (P : Params) : Obj := oF z90 z316 f836 z49 1290 835
noncomputable def o857 (P : Params) : Obj := oC z73 1388 z317 1389 z23 1390 878 1 3 852 [rf 853, nn, rf 854, rf 855, rf 856] 1392 1393
noncomputable def o858 (P : Params) : Obj := oF z73 z317 f858 z49 1290 857
noncomputable def o864 (P : Params) : Obj := oC z74 1395 z318 1396 z23 1397 881 1 3 859 [rf 860, nn, rf 861, rf 862, rf 863] 1400 1401
noncomputable def o865 (P : Params) : Obj := oF z74 z318 f865 z49 1290 864
noncomputable def o867 (P : Params) : Obj := ⟨y8, none, .dict ⟨[dk P z58 1299 (vs z49 1290), dk P z59 1303 (vo 634 1302), dk P z52 1315 (rf 792), dk P z81 1323 (rf 800), dk P (S [112, 117, 115, 104, 95, 116, 111, 107, 101, 110]) 1331 (rf 807), dk P (S [112, 117, 115, 104, 95, 115, 111, 117, 114, 99, 101]) 1340 (rf 815), dk P (S [112, 111, 112, 95, 115, 111, 117, 114, 99, 101]) 1347 (rf 822), dk P z89 1359 (rf 829), dk P z90 1370 (rf 836), dk P (S [115, 111, 117, 114, 99, 101, 104, 111, 111, 107]) 1378 (rf 843), dk P (S [101, 114, 114, 111, 114, 95, 108, 101, 97, 100, 101, 114]) 1387 (rf 851), dk P z73 1394 (rf 858), dk P z74 1402 (rf 865), dk P z60 1423 (rf 866), dk P z100 1425 (rf 869), dk P z101 1427 (rf 870), dk P z44 1428 (nn)]⟩ 4, ⟨[]⟩⟩
noncomputable def o868 (P : Params) : Obj := ⟨y11, none, .cls ⟨z75, [y10], [rf 868, y10], 867, z75, true, [], [], false, none, false⟩, ⟨[none, none, (some (vs z75 1292)), (some (vs z75 1300)), (some (Value.builtin PySem.W.SL.s11443829558043349243x14)), (some (Value.bool true))]⟩⟩
noncomputable def o873 (P : Params) : Obj := ⟨y3, none, .seq ⟨[Value.bool false, Value.bool true]⟩ 0, ⟨[]⟩⟩
noncomputable def o879 (P : Params) : Obj := oC z65 1431 z65 1432 z23 1433 886 3 3 874 [rf 875, nn, rf 876, rf 877, rf 878] 1438 1439
noncomputable def o880 (P : Params) : Obj := ⟨y2, none, .func ⟨z65, z65, f880.1.1, .stmts f880.1.2.1, f880.1.2.2, 3, [], rf 873, nn, nn, vs z49 1290, none, rf 879, nn, 0⟩, ⟨[]⟩⟩
noncomputable def o886 (P : Params) : Obj := oC z46 1441 z46 1442 z23 1443 894 1 3 881 [rf 882, nn, rf 883, rf 884, rf 885] 1445 1446
noncomputable def o887 (P : Params) : Obj := oF z46 z46 f887 z49 1290 886
noncomputable def o888 (P : Params) : Obj := ⟨Value.type PySem.W.SL.s11030030927630378310x26, none, .fields ⟨[Value.builtin PySem.W.SL.s9858327723941210770x17, rf 185]⟩, ⟨[]⟩⟩
noncomputable def o894 (P : Params) : Obj := oC z76 1451 z76 1452 z23 1453 898 1 3 889 [rf 890, nn, rf 891, rf 892, rf 893] 1455 1456
noncomputable def o895 (P : Params) : Obj := oF z76 z76 f895 z49 1290 894
noncomputable def o899 (P : Params) : Obj := oC z77 1460 z77 1461 z23 1462 905 1 3 896 [rf 897, nn, nn, nn, rf 898] 1463 1464
noncomputable def o900 (P : Params) : Obj := oF z77 z77 f900 z94 1458 899
noncomputable def o906 (P : Params) : Obj := oC z78 1466 z78 1467 z23 1468 908 1 3 901 [rf 902, nn, rf 903, rf 904, rf 905] 1477 1478
noncomputable def o907 (P : Params) : Obj := oF z78 z78 f907 z94 1458 906
noncomputable def o913 (P : Params) : Obj := oC z79 1480 z79 1481 z23 1482 919 1 3 908 [rf 909, nn, rf 910, rf 911, rf 912] 1490 1491
noncomputable def o914 (P : Params) : Obj := oF z79 z79 f914 z94 1458 913
noncomputable def o920 (P : Params) : Obj := oC z80 1493 z80 1494 z23 1495 933 1 3 915 [rf 916, nn, rf 917, rf 918, rf 919] 1502 1503
noncomputable def o921 (P : Params) : Obj := oF z80 z80 f921 z94 1458 920
end T
inductive NT where
  | leaf
  | node (l : NT) (k : Nat) (o : Obj) (r : NT)
noncomputable def NT.find (t : NT) (a : Nat) : Option Obj :=
  NT.rec (motive := fun _ => Option Obj) none (fun _ k o _ fl fr => Bool.rec (motive := fun _ => Option Obj) (Bool.rec (motive := fun _ => Option Obj) fr fl (Nat.ble a k)) (some o) (Nat.beq a k)) t
open T in
noncomputable def topT (P : Params) : NT := (.node (.node (.node (.node (.node (.node (.node .leaf 0 (o0 P) .leaf) 2 (o2 P) .leaf) 3 (o3 P) (.node .leaf 4 (o4 P) .leaf)) 116 (o116 P) (.node (.node (.node .leaf 117 (o117 P) .leaf) 130 (o130 P) .leaf) 131 (o131 P) (.node .leaf 137 (o137 P) .leaf))) 138 (o138 P) (.node (.node (.node (.node .leaf 144 (o144 P) .leaf) 145 (o145 P) .leaf) 151 (o151 P) (.node .leaf 152 (o152 P) .leaf)) 158 (o158 P) (.node (.node (.node .leaf 159 (o159 P) .leaf) 165 (o165 P) .leaf) 166 (o166 P) (.node .leaf 172 (o172 P) .leaf)))) 173 (o173 P) (.node (.node (.node (.node (.node .leaf 179 (o179 P) .leaf) 180 (o180 P) .leaf) 184 (o184 P) (.node .leaf 185 (o185 P) .leaf)) 198 (o198 P) (.node (.node (.node .leaf 199 (o199 P) .leaf) 225 (o225 P) .leaf) 226 (o226 P) (.node .leaf 228 (o228 P) .leaf))) 229 (o229 P) (.node (.node (.node (.node .leaf 230 (o230 P) .leaf) 255 (o255 P) .leaf) 256 (o256 P) (.node .leaf 486 (o486 P) .leaf)) 496 (o496 P) (.node (.node (.node .leaf 502 (o502 P) .leaf) 503 (o503 P) .leaf) 509 (o509 P) (.node .leaf 510 (o510 P) .leaf))))) 516 (o516 P) (.node (.node (.node (.node (.node (.node .leaf 517 (o517 P) .leaf) 672 (o672 P) .leaf) 678 (o678 P) (.node .leaf 679 (o679 P) .leaf)) 732 (o732 P) (.node (.node (.node .leaf 733 (o733 P) .leaf) 785 (o785 P) .leaf) 791 (o791 P) (.node .leaf 792 (o792 P) .leaf))) 798 (o798 P) (.node (.node (.node (.node .leaf 799 (o799 P) .leaf) 800 (o800 P) .leaf) 828 (o828 P) (.node .leaf 829 (o829 P) .leaf)) 835 (o835 P) (.node (.node (.node .leaf 836 (o836 P) .leaf) 857 (o857 P) .leaf) 858 (o858 P) (.node .leaf 864 (o864 P) .leaf)))) 865 (o865 P) (.node (.node (.node (.node (.node .leaf 867 (o867 P) .leaf) 868 (o868 P) .leaf) 873 (o873 P) (.node .leaf 879 (o879 P) .leaf)) 880 (o880 P) (.node (.node (.node .leaf 886 (o886 P) .leaf) 887 (o887 P) .leaf) 888 (o888 P) (.node .leaf 894 (o894 P) .leaf))) 895 (o895 P) (.node (.node (.node (.node .leaf 899 (o899 P) .leaf) 900 (o900 P) .leaf) 906 (o906 P) (.node .leaf 907 (o907 P) .leaf)) 913 (o913 P) (.node (.node .leaf 914 (o914 P) .leaf) 920 (o920 P) (.node .leaf 921 (o921 P) .leaf))))))
open T in
noncomputable def topK (P : Params) : Frag := [(0, o0 P), (2, o2 P), (3, o3 P), (4, o4 P), (116, o116 P), (117, o117 P), (130, o130 P), (131, o131 P), (137, o137 P), (138, o138 P), (144, o144 P), (145, o145 P), (151, o151 P), (152, o152 P), (158, o158 P), (159, o159 P), (165, o165 P), (166, o166 P), (172, o172 P), (173, o173 P), (179, o179 P), (180, o180 P), (184, o184 P), (185, o185 P), (198, o198 P), (199, o199 P), (225, o225 P), (226, o226 P), (228, o228 P), (229, o229 P), (230, o230 P), (255, o255 P), (256, o256 P), (486, o486 P), (496, o496 P), (502, o502 P), (503, o503 P), (509, o509 P), (510, o510 P), (516, o516 P), (517, o517 P), (672, o672 P), (678, o678 P), (679, o679 P), (732, o732 P), (733, o733 P), (785, o785 P), (791, o791 P), (792, o792 P), (798, o798 P), (799, o799 P), (800, o800 P), (828, o828 P), (829, o829 P), (835, o835 P), (836, o836 P), (857, o857 P), (858, o858 P), (864, o864 P), (865, o865 P), (867, o867 P), (868, o868 P), (873, o873 P), (879, o879 P), (880, o880 P), (886, o886 P), (887, o887 P), (888, o888 P), (894, o894 P), (895, o895 P), (899, o899 P), (900, o900 P), (906, o906 P), (907, o907 P), (913, o913 P), (914, o914 P), (920, o920 P), (921, o921 P)]
end
noncomputable abbrev eN907 (x : Addr) : Env := ⟨T.f907.1.2.2, x, 3, [], (S [95, 108, 97, 119, 95, 108, 101, 100, 46, 60, 108, 111, 99, 97, 108, 115, 62, 46]), some 907, Value.ref 906, some x, 0⟩
noncomputable abbrev k907 (x : Addr) (p : Pos) : Code × Pos := (.func T.f907.1.2.1 (eN907 x), p)
noncomputable abbrev eN921 (x : Addr) : Env := ⟨T.f921.1.2.2, x, 3, [], (S [108, 97, 119, 46, 60, 108, 111, 99, 97, 108, 115, 62, 46]), some 921, Value.ref 920, some x, 0⟩
noncomputable abbrev k921 (x : Addr) (p : Pos) : Code × Pos := (.func T.f921.1.2.1 (eN921 x), p)
noncomputable abbrev eN887 (x : Addr) : Env := ⟨T.f887.1.2.2, x, 3, [], (S [106, 111, 105, 110, 46, 60, 108, 111, 99, 97, 108, 115, 62, 46]), some 887, Value.ref 886, some x, 0⟩
noncomputable abbrev k887 (x : Addr) (p : Pos) : Code × Pos := (.func T.f887.1.2.1 (eN887 x), p)
noncomputable abbrev eN895 (x : Addr) : Env := ⟨T.f895.1.2.2, x, 3, [], (S [113, 117, 111, 116, 101, 46, 60, 108, 111, 99, 97, 108, 115, 62, 46]), some 895, Value.ref 894, some x, 0⟩
noncomputable abbrev k895 (x : Addr) (p : Pos) : Code × Pos := (.func T.f895.1.2.1 (eN895 x), p)
noncomputable abbrev eN152 (x : Addr) : Env := ⟨T.f152.1.2.2, x, 3, [], (S [110, 111, 114, 109, 112, 97, 116, 104, 46, 60, 108, 111, 99, 97, 108, 115, 62, 46]), some 152, Value.ref 151, some x, 0⟩
noncomputable abbrev k152 (x : Addr) (p : Pos) : Code × Pos := (.func T.f152.1.2.1 (eN152 x), p)
noncomputable abbrev eN173 (x : Addr) : Env := ⟨T.f173.1.2.2, x, 3, [], (S [95, 115, 105, 102, 116, 100, 111, 119, 110, 46, 60, 108, 111, 99, 97, 108, 115, 62, 46]), some 173, Value.ref 172, some x, 0⟩
noncomputable abbrev k173 (x : Addr) (p : Pos) : Code × Pos := (.func T.f173.1.2.1 (eN173 x), p)
noncomputable abbrev eN159 (x : Addr) : Env := ⟨T.f159.1.2.2, x, 3, [], (S [104, 101, 97, 112, 112, 117, 115, 104, 46, 60, 108, 111, 99, 97, 108, 115, 62, 46]), some 159, Value.ref 158, some x, 0⟩
noncomputable abbrev k159 (x : Addr) (p : Pos) : Code × Pos := (.func T.f159.1.2.1 (eN159 x), p)
noncomputable abbrev eN914 (x : Addr) : Env := ⟨T.f914.1.2.2, x, 3, [], (S [95, 108, 97, 119, 95, 100, 117, 101, 46, 60, 108, 111, 99, 97, 108, 115, 62, 46]), some 914, Value.ref 913, some x, 0⟩
noncomputable abbrev k914 (x : Addr) (p : Pos) : Code × Pos := (.func T.f914.1.2.1 (eN914 x), p)
noncomputable abbrev eN180 (x : Addr) : Env := ⟨T.f180.1.2.2, x, 3, [], (S [95, 115, 105, 102, 116, 117, 112, 46, 60, 108, 111, 99, 97, 108, 115, 62, 46]), some 180, Value.ref 179, some x, 0⟩
noncomputable abbrev k180 (x : Addr) (p : Pos) : Code × Pos := (.func T.f180.1.2.1 (eN180 x), p)
noncomputable abbrev eN166 (x : Addr) : Env := ⟨T.f166.1.2.2, x, 3, [], (S [104, 101, 97, 112, 112, 111, 112, 46, 60, 108, 111, 99, 97, 108, 115, 62, 46]), some 166, Value.ref 165, some x, 0⟩
noncomputable abbrev k166 (x : Addr) (p : Pos) : Code × Pos := (.func T.f166.1.2.1 (eN166 x), p)
noncomputable def Res.st? : Res → Option St
  | .stop _ => none
  | .cut st _ => some st
  | .fin _ st _ => some st
noncomputable def Res.r? : Res → Option Result
  | .fin r _ _ => some r
  | _ => none
noncomputable def Res.ck : Res → Ck
  | .stop _ => ⟨[(0, 1)], [], [], []⟩
  | .cut _ ck => ck
  | .fin _ _ ck => ck
noncomputable def Res.lhs (r : Res) : List Nat × List Code × List Obj × List Ctx := (r.ck.a.map Prod.fst, r.ck.c.map Prod.fst, r.ck.o.map Prod.fst, r.ck.x.map Prod.fst)
noncomputable def Res.rhs (r : Res) : List Nat × List Code × List Obj × List Ctx := (r.ck.a.map Prod.snd, r.ck.c.map Prod.snd, r.ck.o.map Prod.snd, r.ck.x.map Prod.snd)
/-- what a run that ends hands back -/
noncomputable def Res.out (obs : List Nat) (r : Res) : Option Result × Option (Nat × Nat × List GenState × List (Option (Addr × Obj))) := (r.r?, r.st?.map fun st => (st.m, st.i, st.G, obs.map st.L.get))
/-- where a run that is cut stands -/
noncomputable def Res.outC (obs : List Nat) (r : Res) : Option Result × Option (Ctx × Kont × Sem Fin × Nat × Nat × List GenState × List (Option (Addr × Obj))) := (r.r?, r.st?.map fun st => (st.Γ, st.κ, st.t, st.m, st.i, st.G, obs.map st.L.get))
theorem good_of {r : Res} (h : r.lhs = r.rhs) : r.ck.Good := by
  have h1 : r.ck.a.map Prod.fst = r.ck.a.map Prod.snd := congrArg Prod.fst h
  have h2 : r.ck.c.map Prod.fst = r.ck.c.map Prod.snd := congrArg (fun x => x.2.1) h
  have h3 : r.ck.o.map Prod.fst = r.ck.o.map Prod.snd := congrArg (fun x => x.2.2.1) h
  have h4 : r.ck.x.map Prod.fst = r.ck.x.map Prod.snd := congrArg (fun x => x.2.2.2) h
  exact ⟨h1, h2, h3, h4⟩
section
variable {V : Sv} {w : World} {tp : Nat → Option Obj} {h₀ : Heap} {U : List Addr} {d : Drawn} {os : OsState} {R : Result → Shared → Prop}
theorem owes_fin {r : Res} {obs : List Nat} {v : Result} {g j : Nat} {G : List GenState} {objs : List (Option (Addr × Obj))} (e : (r.out obs, r.lhs) = ((some v, some (g, j, G, objs)), r.rhs))
    (k : ∀ h L, Rep h₀ h U V.N L g → obs.map L.get = objs → R v ⟨h, ⟨G⟩, d, V.T + j, os⟩) : r.Owes V w h₀ U d os R := by
  have e1 := congrArg Prod.fst e
  have gd := good_of (congrArg Prod.snd e)
  cases r with
  | stop => cases congrArg Prod.fst e1
  | cut st ck => cases congrArg Prod.fst e1
  | fin v' st ck =>
    have a1 : v' = v := Option.some.inj (congrArg Prod.fst e1)
    have a2 : (st.m, st.i, st.G, obs.map st.L.get) = (g, j, G, objs) := Option.some.inj (congrArg Prod.snd e1)
    have b1 : st.m = g := congrArg (fun x => x.1) a2
    have b2 : st.i = j := congrArg (fun x => x.2.1) a2
    have b3 : st.G = G := congrArg (fun x => x.2.2.1) a2
    have b4 : obs.map st.L.get = objs := congrArg (fun x => x.2.2.2) a2
    subst a1 b1 b2 b3
    exact ⟨gd, fun h D => k h _ D b4⟩
theorem owes_cut {r : Res} {obs : List Nat} {Γ : Ctx} {κ : Kont} {t : Sem Fin} {g j : Nat} {G : List GenState} {objs : List (Option (Addr × Obj))} (e : (r.outC obs, r.lhs) = ((none, some (Γ, κ, t, g, j, G, objs)), r.rhs))
    (k : ∀ h L p, Rep h₀ h U V.N L g → obs.map L.get = objs → Means (mdl w) R Γ p κ t ⟨h, ⟨G⟩, d, V.T + j, os⟩) : r.Owes V w h₀ U d os R := by
  have e1 := congrArg Prod.fst e
  have gd := good_of (congrArg Prod.snd e)
  cases r with
  | stop => cases congrArg Prod.snd e1
  | fin v' st ck => cases congrArg Prod.fst e1
  | cut st ck =>
    have a2 : (st.Γ, st.κ, st.t, st.m, st.i, st.G, obs.map st.L.get) = (Γ, κ, t, g, j, G, objs) := Option.some.inj (congrArg Prod.snd e1)
    have c1 : st.Γ = Γ := congrArg (fun x => x.1) a2
    have c2 : st.κ = κ := congrArg (fun x => x.2.1) a2
    have c3 : st.t = t := congrArg (fun x => x.2.2.1) a2
    have b1 : st.m = g := congrArg (fun x => x.2.2.2.1) a2
    have b2 : st.i = j := congrArg (fun x => x.2.2.2.2.1) a2
    have b3 : st.G = G := congrArg (fun x => x.2.2.2.2.2.1) a2
    have b4 : obs.map st.L.get = objs := congrArg (fun x => x.2.2.2.2.2.2) a2
    subst c1 c2 c3 b1 b2 b3
    exact ⟨gd, fun h D => k h _ _ D b4⟩
theorem wpCode_run (O : Ok V w tp h₀ U) {n : Nat} {ms : List Nat} {xs : List (Ctr (mdl w) tp)} {Γ : Ctx} {p : Pos} {L : LT} {cnt : Nat} {G : List GenState} {ck : Ck} {h : Heap}
    (o : (sim V n ms xs Γ p .base (tden Γ.code) L cnt 0 0 G ck).Owes V w h₀ U d os R) (D : Rep h₀ h U V.N L 0) : wpCode (mdl w) Γ R p ⟨h, ⟨G⟩, d, V.T, os⟩ := by
  rw [wpCode_iff_wp]
  show Means (mdl w) R Γ p .base ((mdl w).den Γ.code) _
  rw [show (mdl w).den = tden from tden_eq]
  exact sim_sound O n ms xs Γ p .base _ L cnt 0 0 G ck o h D
theorem wpCode_means {Γ : Ctx} {p : Pos} {s : Shared} (h : wpCode (mdl w) Γ R p s) : Means (mdl w) R Γ p .base (tden Γ.code) s := by
  rw [wpCode_iff_wp] at h
  rw [← show (mdl w).den = tden from tden_eq]
  exact h
end
/-- what a tree of own objects holds -/
noncomputable def LT.entries : LT → List (Nat × Addr × Obj)
  | .nil => []
  | .node a o l r => (0, a, o) :: (l.entries.map (fun x => (2 * x.1 + 1, x.2)) ++ r.entries.map (fun x => (2 * x.1 + 2, x.2)))
theorem LT.mem_entries : ∀ (L : LT) (i : Nat) (a : Addr) (o : Obj), L.get i = some (a, o) → (i, a, o) ∈ L.entries
  | .nil, _, _, _, e => by cases e
  | .node x y l r, i, a, o, e => by
    have hl := LT.mem_entries l
    have hr := LT.mem_entries r
    rw [LT.get_node] at e
    unfold LT.entries
    by_cases h : i = 0
    · rw [if_pos h] at e
      cases e
      rw [h]; exact .head _
    · rw [if_neg h] at e
      refine .tail _ (List.mem_append.mpr ?_)
      by_cases p : i % 2 = 1
      · rw [if_pos p] at e
        refine .inl (List.mem_map.mpr ⟨_, hl _ _ _ e, ?_⟩)
        show (2 * (i / 2) + 1, a, o) = _
        rw [show 2 * (i / 2) + 1 = i from by omega]
      · rw [if_neg p] at e
        refine .inr (List.mem_map.mpr ⟨_, hr _ _ _ e, ?_⟩)
        show (2 * (i / 2 - 1) + 2, a, o) = _
        rw [show 2 * (i / 2 - 1) + 2 = i from by omega]
section
variable {tp : Nat → Option Obj} {n tk : Nat} {pre : List (Nat × Addr × Obj)} {s s' : Shared}
theorem rep_start {L : LT} (hp : Pre tp n tk pre s) (he : L.entries.map (·.2) = pre.map (·.2)) (hnd : (pre.map (·.1)).Nodup) : Rep s.heap s.heap (pre.map (·.2.1)) n L 0 := by
  have key : ∀ i a o, L.get i = some (a, o) → ∃ k : Nat, L.entries[k]? = some (i, a, o) ∧ ∃ y : Nat × Addr × Obj, pre[k]? = some y ∧ y.2 = (a, o) := by
    intro i a o e
    obtain ⟨k, hk⟩ := List.getElem?_of_mem (LT.mem_entries L i a o e)
    have h1 : (L.entries.map (·.2))[k]? = some (a, o) := by rw [List.getElem?_map, hk]; rfl
    rw [he, List.getElem?_map] at h1
    obtain ⟨y, hy, e2⟩ := Option.map_eq_some_iff.mp h1
    exact ⟨k, hk, y, hy, e2⟩
  refine ⟨hp.lo, Nat.le_of_eq hp.size, hp.size, fun i a o e => ?_, fun i j a o o' e1 e2 => ?_, fun b o e _ => e⟩
  · obtain ⟨k, _, y, hy, e2⟩ := key i a o e
    have hm := List.mem_of_getElem? hy
    have := hp.has y hm
    rw [e2] at this
    exact ⟨this.1, this.2, .inl (List.mem_map.mpr ⟨y, hm, by rw [e2]⟩)⟩
  · obtain ⟨k1, hk1, y1, hy1, f1⟩ := key i a o e1
    obtain ⟨k2, hk2, y2, hy2, f2⟩ := key j a o' e2
    have q := hp.inj y1 (List.mem_of_getElem? hy1) y2 (List.mem_of_getElem? hy2) (by rw [f1, f2])
    have g1 : (pre.map (·.1))[k1]? = some y1.1 := by rw [List.getElem?_map, hy1]; rfl
    have g2 : (pre.map (·.1))[k2]? = some y1.1 := by rw [List.getElem?_map, hy2, q]; rfl
    have hlt : k1 < (pre.map (·.1)).length := (List.getElem?_eq_some_iff.mp g1).1
    have : k1 = k2 := (List.getElem?_inj hlt hnd).mp (g1.trans g2.symm)
    subst this
    rw [hk1] at hk2
    cases hk2; rfl
theorem eff_of {U : List Addr} {L : LT} {g j : Nat} {upd : Option (Addr × Obj)} {new : Option Obj} (hp : Pre tp n tk pre s) (hU : U = pre.map (·.2.1)) (D : Rep s.heap s'.heap U n L g)
    (hk : ∀ x ∈ pre, (∃ i, L.get i = some (x.2.1, x.2.2)) ∨ ∃ o, upd = some (x.2.1, o)) (hu : ∀ x, upd = some x → ∃ i, L.get i = some x) (hn : ∀ o, new = some o → ∃ i, L.get i = some (n, o))
    (h1 : s'.toks = s.toks + j) (h2 : s'.gens = s.gens) (h3 : s'.drawn = s.drawn) (h4 : s'.os = s.os) : Eff s s' upd new g j := by
  refine ⟨h1, h2, h3, h4, by rw [D.size, hp.size], fun b o e ne => ?_, fun x hx => ?_, fun o ho => ?_⟩
  · by_cases hb : b ∈ U
    · rw [hU] at hb
      obtain ⟨x, hx, rfl⟩ := List.mem_map.mp hb
      have := (hp.has x hx).1
      rw [e] at this
      cases this
      rcases hk x hx with ⟨i, hi⟩ | ⟨o', ho'⟩
      · exact (D.own _ _ _ hi).1
      · exact absurd rfl (ne (x.2.1, o') ho')
    · exact D.keep b o e hb
  · obtain ⟨i, hi⟩ := hu x hx
    exact (D.own _ _ _ hi).1
  · obtain ⟨i, hi⟩ := hn o ho
    rw [hp.size]
    exact (D.own _ _ _ hi).1
end
theorem Eff.same (s : Shared) : Eff s s none none 0 0 := ⟨rfl, rfl, rfl, rfl, rfl, fun _ _ e _ => e, fun _ h => (nomatch h), fun _ h => (nomatch h)⟩
theorem Eff.tok (s : Shared) (j : Nat) : Eff s { s with toks := s.toks + j } none none 0 j := ⟨rfl, rfl, rfl, rfl, rfl, fun _ _ e _ => e, fun _ h => (nomatch h), fun _ h => (nomatch h)⟩
section
variable {w : World} {Γ : Ctx} {p : Pos} {s : Shared} {R : Result → Shared → Prop}
theorem code_again {c c' : Code} (h1 : tden c = .pure (.again c')) (hq : calm c' = true) (hc : Γ.code = c) (h : wpCode (mdl w) (Γ.goto c') R p s) : wpCode (mdl w) Γ R p s := by
  rw [wpCode_iff_wp, hc, show (mdl w).den = tden from tden_eq, h1, Sem.wp_pure]
  exact ⟨calm_quiet hq, h⟩
theorem code_ret {c : Code} {v : Value} (h1 : tden c = .pure (.done (.ret v))) (hc : Γ.code = c) (h : R (.ok (.ret v)) s) : wpCode (mdl w) Γ R p s := by
  rw [wpCode_iff_wp, hc, show (mdl w).den = tden from tden_eq, h1, Sem.wp_pure]
  exact h
theorem code_tok {c : Code} {v : Tok → Value} (h1 : tden c = .fresh fun k => .pure (.done (.ret (v k)))) (hc : Γ.code = c) (h : R (.ok (.ret (v s.toks))) { s with toks := s.toks + 1 }) : wpCode (mdl w) Γ R p s := by
  rw [wpCode_iff_wp, hc, show (mdl w).den = tden from tden_eq, h1, Sem.wp_fresh, Sem.wp_pure]
  exact h
/-- around a context -/
noncomputable def arOf (Γ : Ctx) : Around := { depth := frameCount Γ.below + Γ.code.weight, handled := Γ.handled, frames := none, guards := none, units := Γ.units }
theorem in_arOf (Γ : Ctx) : Γ.In (arOf Γ) := ⟨rfl, Nat.le_refl _, fun _ h => (nomatch h), fun _ h => (nomatch h), Nat.le_refl _⟩
theorem ok_of_any {f : Value} {args : List Value} {v : Value} {upd : Option (Addr × Obj)} {new : Option Obj} {g j : Nat}
    (h : ∀ A, wpAny (mdl w) A (PySem.call f args) (fun v' s' => v' = v ∧ Eff s s' upd new g j) (fun _ _ => False) s) :
    wpCode (mdl w) (Γ.enter (.call f ⟨args, []⟩) none p) (fun r' s' => r' = .ok (.ret v) ∧ Eff s s' upd new g j) p s := by
  have h1 := h (arOf Γ) Γ p (in_arOf Γ)
  have e : PySem.call f args = Sem.call (.call f ⟨args, []⟩) none false [] (fun r => (match r with | .ok f => Sem.pure f | .error e => Sem.raise e : Sem Flow) >>= fun fl => match fl with | .ret v => pure v | _ => unsupported "internal:call-without-return-value") := rfl
  rw [e, Sem.wp_call] at h1
  refine wpCode_mono ?_ h1
  intro r s' hr
  cases r with
  | error x => exact hr.elim
  | ok fl =>
    cases fl with
    | ret v' =>
      obtain ⟨rfl, E⟩ := (hr : v' = v ∧ Eff s s' upd new g j)
      exact ⟨rfl, E⟩
    | next => exact (hr : False).elim
    | brk => exact (hr : False).elim
    | cont => exact (hr : False).elim
end
section
variable {w : World} {tp : Nat → Option Obj}
noncomputable def cPure (c c' : Code) (v : Value) (h1 : tden c = .pure (.again c')) (hq : calm c' = true) (h2 : tden c' = .pure (.done (.ret v))) (n tk : Nat) : Ctr (mdl w) tp :=
  ⟨c, none, n, tk, [], .ok (.ret v), none, none, 0, 0, fun Γ p s _ _ => code_again h1 hq rfl (code_ret h2 rfl ⟨rfl, Eff.same s⟩)⟩
noncomputable def cTok (c c' : Code) (v : Tok → Value) (h1 : tden c = .pure (.again c')) (hq : calm c' = true) (h2 : tden c' = .fresh fun k => .pure (.done (.ret (v k)))) (n tk : Nat) : Ctr (mdl w) tp :=
  ⟨c, none, n, tk, [], .ok (.ret (v tk)), none, none, 0, 1, fun Γ p s _ hp => code_again h1 hq rfl (code_tok h2 rfl ⟨by rw [hp.toks], Eff.tok s 1⟩)⟩
/-- a call by a law of the library's -/
noncomputable def cAny (f : Value) (args : List Value) (v : Value) (j n tk : Nat) (h : ∀ s : Shared, s.toks = tk → ∀ A, wpAny (mdl w) A (PySem.call f args) (fun v' s' => v' = v ∧ Eff s s' none none 0 j) (fun _ _ => False) s) : Ctr (mdl w) tp :=
  ⟨.call f ⟨args, []⟩, none, n, tk, [], .ok (.ret v), none, none, 0, j, fun Γ p s _ hp => ok_of_any (h s hp.toks)⟩
noncomputable abbrev ii (id : String) (x : Int) (t : Tok) (y : Int) (u : Tok) : Code := .builtin id ⟨[.int x t, .int y u], []⟩
noncomputable abbrev iiC (id : String) (x : Int) (t : Tok) (y : Int) (u : Tok) : Code := .call (.builtin id) ⟨[.int x t, .int y u], []⟩
theorem ge_a (x t y u) : tden (iiC "int.__ge__" x t y u) = .pure (.again (ii "int.__ge__" x t y u)) := by kernel_rfl
theorem ge_b (x t y u) : tden (ii "int.__ge__" x t y u) = .pure (.done (.ret (.bool (decide (x ≥ y))))) := by kernel_rfl
theorem lt_a (x t y u) : tden (iiC "int.__lt__" x t y u) = .pure (.again (ii "int.__lt__" x t y u)) := by kernel_rfl
theorem lt_b (x t y u) : tden (ii "int.__lt__" x t y u) = .pure (.done (.ret (.bool (decide (x < y))))) := by kernel_rfl
theorem gt_a (x t y u) : tden (iiC "int.__gt__" x t y u) = .pure (.again (ii "int.__gt__" x t y u)) := by kernel_rfl
theorem gt_b (x t y u) : tden (ii "int.__gt__" x t y u) = .pure (.done (.ret (.bool (decide (x > y))))) := by kernel_rfl
theorem add_a (x t y u) : tden (iiC "int.__add__" x t y u) = .pure (.again (ii "int.__add__" x t y u)) := by kernel_rfl
theorem add_b (x t y u) : tden (ii "int.__add__" x t y u) = .fresh fun k => .pure (.done (.ret (.int (x + y) k))) := by kernel_rfl
/-- x ≥ y is b -/
noncomputable def cGe (x : Int) (t : Tok) (y : Int) (u : Tok) (b : Bool) (h : decide (x ≥ y) = b) (n tk : Nat) : Ctr (mdl w) tp := cPure (iiC "int.__ge__" x t y u) (ii "int.__ge__" x t y u) (.bool b) (ge_a ..) (by kernel_rfl) (h ▸ ge_b ..) n tk
noncomputable def cLt (x : Int) (t : Tok) (y : Int) (u : Tok) (b : Bool) (h : decide (x < y) = b) (n tk : Nat) : Ctr (mdl w) tp := cPure (iiC "int.__lt__" x t y u) (ii "int.__lt__" x t y u) (.bool b) (lt_a ..) (by kernel_rfl) (h ▸ lt_b ..) n tk
noncomputable def cGt (x : Int) (t : Tok) (y : Int) (u : Tok) (b : Bool) (h : decide (x > y) = b) (n tk : Nat) : Ctr (mdl w) tp := cPure (iiC "int.__gt__" x t y u) (ii "int.__gt__" x t y u) (.bool b) (gt_a ..) (by kernel_rfl) (h ▸ gt_b ..) n tk
noncomputable def cAdd (x : Int) (t : Tok) (y : Int) (u : Tok) (z : Int) (h : x + y = z) (n tk : Nat) : Ctr (mdl w) tp := cTok (iiC "int.__add__" x t y u) (ii "int.__add__" x t y u) (fun k => .int z k) (add_a ..) (by kernel_rfl) (h ▸ add_b ..) n tk
/-- the length of a text -/
noncomputable def cLen (x : Str) (t : Tok) (k : Int) (h : (x.length : Int) = k) (hb : k < 2 ^ 63) (n tk : Nat) : Ctr (mdl w) tp :=
  cAny (.builtin "len") [.str x t] (.int k (tk + 1)) 2 n tk fun s hs A => PyProof.Rows.len_str (by omega) ⟨by rw [h, hs], Eff.tok s 2⟩
end
/-- the world's two open rows, told -/
noncomputable def PF (P : Params) (b1 b2 : Bool) : Params := { P with followText := fun s => if s = "special-get-raises" then b1 else if s = "comprehension-iter-twice" then b2 else P.followText s }
noncomputable abbrev de (w : World) (b1 b2 : Bool) (x : Str) (t : Tok) (v : Value) : DictEntry := dk (PF w.params b1 b2) x t v
theorem PF_self (P : Params) : P = PF P (P.followText "special-get-raises") (P.followText "comprehension-iter-twice") := by
  have : P.followText = (PF P (P.followText "special-get-raises") (P.followText "comprehension-iter-twice")).followText := by
    funext s
    show _ = if s = "special-get-raises" then _ else if s = "comprehension-iter-twice" then _ else _
    split
    · rename_i h; rw [h]
    · split
      · rename_i h; rw [h]
      · rfl
  cases P
  simp only [PF] at this ⊢
  rw [← this]
noncomputable abbrev tpW (w : World) (b1 b2 : Bool) : Nat → Option Obj := fun a => (topT (PF w.params b1 b2)).find a
noncomputable abbrev svW (w : World) (b1 b2 : Bool) (N T : Nat) : Sv := ⟨PF w.params b1 b2, N, T⟩
noncomputable abbrev ck0 : Ck := ⟨[], [], [], []⟩
/-- the world is as told -/
structure Told (w : World) (b1 b2 : Bool) : Prop where
  ask : w.params = PF w.params b1 b2
theorem topT_keys (P : Params) : ∀ a o, (topT P).find a = some o → a < 922 ∧ a ≠ 882 := by
  have key : ∀ (t : NT), (NT.rec (motive := fun _ => Bool) true (fun _ k _ _ a b => decide (k < 922) && !decide (k = 882) && a && b) t : Bool) = true → ∀ a o, t.find a = some o → a < 922 ∧ a ≠ 882 := by
    intro t
    induction t with
    | leaf => intro _ a o e; cases e
    | node l k o' r ihl ihr =>
      intro h a o e
      have h' : (decide (k < 922) && !decide (k = 882) && (NT.rec (motive := fun _ => Bool) true (fun _ k _ _ a b => decide (k < 922) && !decide (k = 882) && a && b) l : Bool) && (NT.rec (motive := fun _ => Bool) true (fun _ k _ _ a b => decide (k < 922) && !decide (k = 882) && a && b) r : Bool)) = true := h
      rw [Bool.and_eq_true, Bool.and_eq_true, Bool.and_eq_true] at h'
      obtain ⟨⟨⟨h1, h2⟩, h3⟩, h4⟩ := h'
      have e' : Bool.rec (motive := fun _ => Option Obj) (Bool.rec (motive := fun _ => Option Obj) (r.find a) (l.find a) (Nat.ble a k)) (some o') (Nat.beq a k) = some o := e
      cases q : Nat.beq a k with
      | true =>
        have := Nat.eq_of_beq_eq_true q
        subst this
        exact ⟨of_decide_eq_true h1, by simpa using h2⟩
      | false =>
        rw [q] at e'
        cases q2 : Nat.ble a k with
        | true => rw [q2] at e'; exact ihl h3 a o e'
        | false => rw [q2] at e'; exact ihr h4 a o e'
  exact key (topT P) (by kernel_rfl)
theorem ok_start {w : World} {b1 b2 : Bool} {n tk : Nat} {pre : List (Nat × Addr × Obj)} {s : Shared} (t : Told w b1 b2) (hp : Pre (tpW w b1 b2) n tk pre s) : Ok (svW w b1 b2 n tk) w (tpW w b1 b2) s.heap (pre.map (·.2.1)) := by
  refine ⟨t.ask, fun a o e => ⟨hp.top a o e, fun hm => ?_⟩⟩
  obtain ⟨x, hx, rfl⟩ := List.mem_map.mp hm
  have k := topT_keys _ _ _ e
  rcases (hp.has x hx).2 with h | h
  · exact absurd k.1 (Nat.not_lt.mpr h)
  · exact k.2 h
/-- a def's contract by its run -/
theorem ok_of_run {w : World} {b1 b2 : Bool} (t : Told w b1 b2) {N T : Nat} {pre : List (Nat × Addr × Obj)} {y : Ctx} {L : LT} {obs : List Nat} {v : Result} {g j : Nat} {objs : List (Option (Addr × Obj))} {upd : Option (Nat × Addr × Obj)} {new : Option Obj} {c : Code}
    (hc : y.code = c)
    (hL : L.entries.map (·.2) = pre.map (·.2)) (hnd : (pre.map (·.1)).Nodup)
    (hrun : ∀ (p : Pos) (G : List GenState), ∃ n ms cnt, ∃ xs : List (Ctr (mdl w) (tpW w b1 b2)), (((sim (svW w b1 b2 N T) n ms xs y p .base (tden y.code) L cnt 0 0 G ck0).out obs, (sim (svW w b1 b2 N T) n ms xs y p .base (tden y.code) L cnt 0 0 G ck0).lhs) =
      ((some v, some (g, j, G, objs)), (sim (svW w b1 b2 N T) n ms xs y p .base (tden y.code) L cnt 0 0 G ck0).rhs)))
    (hk : ∀ L' : LT, obs.map L'.get = objs → ∀ x ∈ pre, (∃ i, L'.get i = some (x.2.1, x.2.2)) ∨ ∃ o, upd.map (·.2) = some (x.2.1, o))
    (hu : ∀ L' : LT, obs.map L'.get = objs → ∀ x, upd.map (·.2) = some x → ∃ i, L'.get i = some x)
    (hn : ∀ L' : LT, obs.map L'.get = objs → ∀ o, new = some o → ∃ i, L'.get i = some (N, o)) :
    ∀ (Γ : Ctx) (p : Pos) (s : Shared), (∀ z, some y = some z → Γ.enter c none p = z) → Pre (tpW w b1 b2) N T pre s →
      wpCode (mdl w) (Γ.enter c none p) (fun r' s' => r' = v ∧ Eff s s' (upd.map (·.2)) new g j) p s := by
  intro Γ p s hx hp
  rw [hx y rfl]
  obtain ⟨h, ⟨G⟩, d, tk, os⟩ := s
  obtain ⟨n, ms, cnt, xs, hr⟩ := hrun p G
  have ht : tk = T := hp.toks
  subst ht
  refine wpCode_run (V := svW w b1 b2 N tk) (ok_start t hp) (L := L) (n := n) (ms := ms) (cnt := cnt) (xs := xs) (ck := ck0) (owes_fin hr fun h' L' D' ho => ⟨rfl, ?_⟩) (rep_start hp hL hnd)
  exact eff_of hp rfl D' (hk L' ho) (hu L' ho) (hn L' ho) rfl rfl rfl rfl
structure BV where
  b : List Stmt
  e : Env
  p : Pos
noncomputable abbrev fr (x : BV) : Code × Pos := (.func x.b x.e, x.p)
structure BW where
  t : PySem.Expr
  b : List Stmt
  o : List Stmt
  e : Env
  p : Pos
noncomputable abbrev wl (x : BW) : Code × Pos := (.whileLoop x.t x.b x.o x.e, x.p)
structure BA where
  a : List Value
  k : List (Str × Value)
  p : Pos
noncomputable abbrev callerB : Code × Pos := (.builtin "claim.caller" {}, default)
noncomputable abbrev sliceO (l : Int) (tl : Tok) (u : Int) (tu : Tok) : Obj := ⟨.type "slice", none, .fields ⟨[.int l tl, .int u tu, .none]⟩, #[]⟩
theorem slice1 {x : Str} {p c : Nat} (t tl tu : Tok) (h : x.cps[p]? = some c) (h1 : x.length ≠ 1) : sliceMade x t (some ((p : Int), tl)) (some ((p : Int) + 1, tu)) none = .str ⟨⟨[c]⟩⟩ := by
  have hl : p < x.length := (Array.getElem?_eq_some_iff.mp h).1
  have e : slicePicked x (some ((p : Int), tl)) (some ((p : Int) + 1, tu)) none = [p] := by
    show PySem.Builtin.Str.strSliceIndices (some (p : Int)) (some ((p : Int) + 1)) 1 x.length = [p]
    rw [show ((p : Int) + 1) = ((p + 1 : Nat) : Int) from by omega, PySem.StrLaws.strSliceIndices_plain (by omega) (by omega)]
    simp
  unfold sliceMade
  rw [e]
  simp [h, Ne.symm h1]
section
variable {w : World} {tp : Nat → Option Obj}
/-- one sign of a text, by a slice -/
noncomputable def cSl1 (i : Nat) (x : Str) (t : Tok) (a : Addr) (p c : Nat) (tl tu : Tok) (h : x.cps[p]? = some c) (h1 : x.length ≠ 1) (n tk : Nat) : Ctr (mdl w) tp :=
  ⟨.call (.builtin "str.__getitem__") ⟨[.str x t, .ref a], []⟩, none, n, tk, [(i, a, sliceO p tl ((p : Int) + 1) tu)], .ok (.ret (.str ⟨⟨[c]⟩⟩ tk)), none, none, 0, 1,
    fun Γ p' s _ hp => ok_of_any fun A => call_meets F.slot_str_getitem (typeIs_str s x t) F.entry_str_getitem (F.args_str_getitem_2 _ _) (meets_str_getitem_slice x t a (some ((p : Int), tl)) (some ((p : Int) + 1, tu)) none rfl)
      ⟨⟨_, (hp.has _ (.head _)).1, rfl, rfl⟩, by
        rw [slice1 t tl tu h h1]
        exact ⟨by show (1 : Nat) ≤ sizeLine; decide, by rw [hp.toks], Eff.tok s 1⟩⟩⟩
end
section
/-- the stream and its dict -/
noncomputable abbrev sioO (a1 : Addr) : Obj := ⟨.ref 733, some a1, .plain, #[]⟩
noncomputable abbrev sioD (P : Params) (ts : Nat → Tok) (buf : Str) (tb : Tok) (pos : Int) (tp : Tok) : Obj :=
  ⟨y8, none, .dict ⟨[dk P (S [95, 83, 116, 114, 105, 110, 103, 73, 79, 95, 95, 110, 101, 119, 108, 105, 110, 101]) (ts 0) (.str (S [10]) 958),
    dk P (S [95, 83, 116, 114, 105, 110, 103, 73, 79, 95, 95, 98, 117, 102]) (ts 1) (.str buf tb),
    dk P (S [95, 83, 116, 114, 105, 110, 103, 73, 79, 95, 95, 112, 111, 115]) (ts 2) (.int pos tp)]⟩ 3, #[]⟩
structure BRead where
  x0 : BW
  x1 : BV
  x2 : BV
  x3 : BV
  x4 : BA
  x5 : BA
  x6 : BV
  x7 : BV
noncomputable abbrev BRead.list (b : BRead) : List (Code × Pos) := [wl b.x0, fr b.x1, fr b.x2, fr b.x3, (.builtin "list.extend.loop" ⟨b.x4.a, b.x4.k⟩, b.x4.p), (.builtin "type.__call__" ⟨.type "list" :: b.x5.a, b.x5.k⟩, b.x5.p), fr b.x6, fr b.x7, callerB]
noncomputable abbrev cRd (a0 : Addr) (to : Tok) : Code := .call (.ref 679) ⟨[.ref a0, .int 1 to], []⟩
noncomputable abbrev gRd (B : BRead) (a0 : Addr) (to : Tok) : Ctx := ⟨cRd a0 to, none, none, B.list, none⟩
noncomputable abbrev lRd (P : Params) (a0 a1 : Addr) (ts : Nat → Tok) (buf : Str) (tb : Tok) (pos : Int) (tp : Tok) : LT := .node a0 (sioO a1) (.node a1 (sioD P ts buf tb pos tp) .nil .nil) .nil
noncomputable abbrev msRdM : List Nat := (dg 214 0x1332011000000010000000013222010000000101010000000013333133131330313333120110000000100000000130033201100000001000000001320110000000100000000150550000210000100000001000000013334004044400040000040004444000030303333000)
noncomputable abbrev nRdM : Nat := 382
noncomputable abbrev msRdL : List Nat := (dg 209 0x13320110000000100000000132220100000001010100000000133131330313333120110000000100000000130033201100000001000000001320110000000100000000150550000210000100000001000000013334004044400040000040004444000030303333000)
noncomputable abbrev nRdL : Nat := 368
noncomputable abbrev msRdE : List Nat := (dg 149 0x13333120110000000100000000130033201100000001000000001320110000000100000000150550000210000100000001000000013334004044400040000040004444000030303333000)
noncomputable abbrev nRdE : Nat := 278
section
variable (w : World) (b1 b2 : Bool) (N T : Nat) (B : BRead) (a0 a1 : Addr) (ts : Nat → Tok) (buf : Str) (tb : Tok) (p c : Nat) (tp to : Tok)
noncomputable abbrev xsRdM (h : buf.cps[p]? = some c) (h1 : buf.length ≠ 1) (hl : (buf.length : Int) < 2 ^ 63) (hp : decide ((p : Int) ≥ buf.length) = false) (hq : decide ((p : Int) + 1 < buf.length) = true) : List (Ctr (mdl w) (tpW w b1 b2)) :=
  [cLen buf tb buf.length rfl hl (N + 3) (T + 15), cGe p tp buf.length (T + 16) false hp (N + 3) (T + 18), cAdd p tp 1 to ((p : Int) + 1) rfl (N + 3) (T + 19),
    cLt ((p : Int) + 1) (T + 19) buf.length (T + 16) true hq (N + 3) (T + 20), cAdd p tp 1 to ((p : Int) + 1) rfl (N + 3) (T + 20), cSl1 5 buf tb (N + 3) p c tp (T + 20) h h1 (N + 4) (T + 25)]
theorem readM_run (pos : Pos) (G : List GenState) (h : buf.cps[p]? = some c) (h1 : buf.length ≠ 1) (hl : (buf.length : Int) < 2 ^ 63) (hp : decide ((p : Int) ≥ buf.length) = false) (hq : decide ((p : Int) + 1 < buf.length) = true) :
    let R := sim (svW w b1 b2 N T) nRdM msRdM (xsRdM w b1 b2 N T buf tb p c tp to h h1 hl hp hq) (gRd B a0 to) pos .base (tden (gRd B a0 to).code) (lRd (PF w.params b1 b2) a0 a1 ts buf tb p tp) 2 0 0 G ck0
    (R.out [0, 1], R.lhs) = ((some (.ok (.ret (.str ⟨⟨[c]⟩⟩ (T + 25)))), some (4, 26, G, [some (a0, sioO a1), some (a1, sioD (PF w.params b1 b2) ts buf tb ((p : Int) + 1) (T + 20))])), R.rhs) := by
  walk_at "r"
noncomputable abbrev xsRdL (h : buf.cps[p]? = some c) (h1 : buf.length ≠ 1) (hl : (buf.length : Int) < 2 ^ 63) (he : (buf.length : Int) = (p : Int) + 1) (hp : decide ((p : Int) ≥ (p : Int) + 1) = false) (hq : decide ((p : Int) + 1 < (p : Int) + 1) = false) : List (Ctr (mdl w) (tpW w b1 b2)) :=
  [cLen buf tb ((p : Int) + 1) he (he ▸ hl) (N + 3) (T + 15), cGe p tp ((p : Int) + 1) (T + 16) false hp (N + 3) (T + 18), cAdd p tp 1 to ((p : Int) + 1) rfl (N + 3) (T + 19),
    cLt ((p : Int) + 1) (T + 19) ((p : Int) + 1) (T + 16) false hq (N + 3) (T + 20), cSl1 5 buf tb (N + 3) p c tp (T + 16) h h1 (N + 4) (T + 23)]
theorem readL_run (pos : Pos) (G : List GenState) (h : buf.cps[p]? = some c) (h1 : buf.length ≠ 1) (hl : (buf.length : Int) < 2 ^ 63) (he : (buf.length : Int) = (p : Int) + 1) (hp : decide ((p : Int) ≥ (p : Int) + 1) = false) (hq : decide ((p : Int) + 1 < (p : Int) + 1) = false) :
    let R := sim (svW w b1 b2 N T) nRdL msRdL (xsRdL w b1 b2 N T buf tb p c tp to h h1 hl he hp hq) (gRd B a0 to) pos .base (tden (gRd B a0 to).code) (lRd (PF w.params b1 b2) a0 a1 ts buf tb p tp) 2 0 0 G ck0
    (R.out [0, 1], R.lhs) = ((some (.ok (.ret (.str ⟨⟨[c]⟩⟩ (T + 23)))), some (4, 24, G, [some (a0, sioO a1), some (a1, sioD (PF w.params b1 b2) ts buf tb ((p : Int) + 1) (T + 16))])), R.rhs) := by
  walk_at "r"
noncomputable abbrev xsRdE (hl : (buf.length : Int) < 2 ^ 63) (he : (buf.length : Int) = (p : Int)) (hp : decide ((p : Int) ≥ (p : Int)) = true) : List (Ctr (mdl w) (tpW w b1 b2)) :=
  [cLen buf tb (p : Int) he (he ▸ hl) (N + 3) (T + 15), cGe p tp (p : Int) (T + 16) true hp (N + 3) (T + 18)]
theorem readE_run (pos : Pos) (G : List GenState) (hl : (buf.length : Int) < 2 ^ 63) (he : (buf.length : Int) = (p : Int)) (hp : decide ((p : Int) ≥ (p : Int)) = true) :
    let R := sim (svW w b1 b2 N T) nRdE msRdE (xsRdE w b1 b2 N T buf tb p tp hl he hp) (gRd B a0 to) pos .base (tden (gRd B a0 to).code) (lRd (PF w.params b1 b2) a0 a1 ts buf tb p tp) 2 0 0 G ck0
    (R.out [0, 1], R.lhs) = ((some (.ok (.ret (.str ⟨⟨[]⟩⟩ (T + 18)))), some (3, 19, G, [some (a0, sioO a1), some (a1, sioD (PF w.params b1 b2) ts buf tb p tp)])), R.rhs) := by
  walk_at "r"
end
abbrev RdOk (w : World) (b1 b2 : Bool) (B : BRead) (i0 i1 : Nat) (a0 a1 : Addr) (ts : Nat → Tok) (buf : Str) (tb : Tok) (p : Nat) (tp to : Tok) (N T : Nat) (r : Str) (tr : Tok) (p' : Int) (tp' : Tok) (g j : Nat) : Prop :=
  ∀ (Γ : Ctx) (q : Pos) (s : Shared), (∀ z, some (gRd B a0 to) = some z → Γ.enter (cRd a0 to) none q = z) → Pre (tpW w b1 b2) N T [(i0, a0, sioO a1), (i1, a1, sioD (PF w.params b1 b2) ts buf tb p tp)] s →
    wpCode (mdl w) (Γ.enter (cRd a0 to) none q) (fun r' s' => r' = .ok (.ret (.str r tr)) ∧ Eff s s' (some (a1, sioD (PF w.params b1 b2) ts buf tb p' tp')) none g j) q s
section
variable {w : World} {b1 b2 : Bool} (N T : Nat) (B : BRead) (i0 i1 : Nat) (a0 a1 : Addr) (ts : Nat → Tok) (buf : Str) (tb : Tok) (p : Nat) (tp to : Tok)
theorem look2 {x y : Addr × Obj} {L : LT} (h : [0, 1].map L.get = [some x, some y]) : L.get 0 = some x ∧ L.get 1 = some y := by
  simp only [List.map_cons, List.map_nil, List.cons.injEq] at h
  exact ⟨h.1, h.2.1⟩
theorem rdOk_of (t : Told w b1 b2) (hi : i0 ≠ i1) {r : Str} {tr : Tok} {p' : Int} {tp' : Tok} {g j : Nat}
    (hr : ∀ (q : Pos) (G : List GenState), ∃ n ms cnt, ∃ xs : List (Ctr (mdl w) (tpW w b1 b2)), (((sim (svW w b1 b2 N T) n ms xs (gRd B a0 to) q .base (tden (gRd B a0 to).code) (lRd (PF w.params b1 b2) a0 a1 ts buf tb p tp) cnt 0 0 G ck0).out [0, 1], (sim (svW w b1 b2 N T) n ms xs (gRd B a0 to) q .base (tden (gRd B a0 to).code) (lRd (PF w.params b1 b2) a0 a1 ts buf tb p tp) cnt 0 0 G ck0).lhs) =
      ((some (.ok (.ret (.str r tr))), some (g, j, G, [some (a0, sioO a1), some (a1, sioD (PF w.params b1 b2) ts buf tb p' tp')])), (sim (svW w b1 b2 N T) n ms xs (gRd B a0 to) q .base (tden (gRd B a0 to).code) (lRd (PF w.params b1 b2) a0 a1 ts buf tb p tp) cnt 0 0 G ck0).rhs))) :
    RdOk w b1 b2 B i0 i1 a0 a1 ts buf tb p tp to N T r tr p' tp' g j :=
  ok_of_run t (upd := some (i1, a1, sioD (PF w.params b1 b2) ts buf tb p' tp')) (new := none) rfl rfl (by simp [hi]) hr
    (fun L ho x hx => by
      obtain ⟨h0, h1⟩ := look2 ho
      rcases List.mem_cons.mp hx with rfl | hx
      · exact .inl ⟨0, h0⟩
      · cases List.mem_singleton.mp hx
        exact .inr ⟨_, rfl⟩)
    (fun L ho x hx => by cases hx; exact ⟨1, (look2 ho).2⟩) (fun L ho o h => nomatch h)
/-- a sign is read -/
theorem rd_sign (t : Told w b1 b2) (hi : i0 ≠ i1) {c : Nat} (h : buf.cps[p]? = some c) (h1 : buf.length ≠ 1) (hl : buf.length < 2 ^ 63) : ∃ tr tp' g j, RdOk w b1 b2 B i0 i1 a0 a1 ts buf tb p tp to N T ⟨⟨[c]⟩⟩ tr ((p : Int) + 1) tp' g j := by
  have hlt : p < buf.length := (Array.getElem?_eq_some_iff.mp h).1
  by_cases he : p + 1 = buf.length
  · exact ⟨_, _, _, _, rdOk_of N T B i0 i1 a0 a1 ts buf tb p tp to t hi fun q G => ⟨_, _, _, _, readL_run w b1 b2 N T B a0 a1 ts buf tb p c tp to q G h h1 (by omega) (by omega) (by simp; omega) (by simp)⟩⟩
  · exact ⟨_, _, _, _, rdOk_of N T B i0 i1 a0 a1 ts buf tb p tp to t hi fun q G => ⟨_, _, _, _, readM_run w b1 b2 N T B a0 a1 ts buf tb p c tp to q G h h1 (by omega) (by simp; omega) (by simp; omega)⟩⟩
/-- the end is read -/
theorem rd_end (t : Told w b1 b2) (hi : i0 ≠ i1) (h : buf.length = p) (hl : buf.length < 2 ^ 63) : ∃ tr g j, RdOk w b1 b2 B i0 i1 a0 a1 ts buf tb p tp to N T ⟨⟨[]⟩⟩ tr p tp g j :=
  ⟨_, _, _, rdOk_of N T B i0 i1 a0 a1 ts buf tb p tp to t hi fun q G => ⟨_, _, _, _, readE_run w b1 b2 N T B a0 a1 ts buf tb p tp to q G (by omega) (by omega) (by simp)⟩⟩
/-- the contract of a call of read -/
noncomputable abbrev cRead {r : Str} {tr : Tok} {p' : Int} {tp' : Tok} {g j : Nat} (h : RdOk w b1 b2 B i0 i1 a0 a1 ts buf tb p tp to N T r tr p' tp' g j) : Ctr (mdl w) (tpW w b1 b2) :=
  ⟨cRd a0 to, some (gRd B a0 to), N, T, [(i0, a0, sioO a1), (i1, a1, sioD (PF w.params b1 b2) ts buf tb p tp)], .ok (.ret (.str r tr)), some (i1, a1, sioD (PF w.params b1 b2) ts buf tb p' tp'), none, g, j, h⟩
end
end
section
variable {w : World} {tp : Nat → Option Obj}
theorem any_gives {T : String} {name : Str} {id : String} {B : Builtin} {self : Value} {rest : List Value} {m : Made} {s : Shared} {v : Value} {j : Nat} (slot : Slot T name id) (hT : s.TypeIs self T) (entry : entryFor table id = some B) (args : argsOk id ⟨self :: rest, []⟩)
    (g : Gives (B ⟨self :: rest, []⟩) m) (hm : m.post (fun v' s' => v' = v ∧ Eff s s' none none 0 j) s) : ∀ A, wpAny (mdl w) A (PySem.call (.builtin id) (self :: rest)) (fun v' s' => v' = v ∧ Eff s s' none none 0 j) (fun _ _ => False) s :=
  fun A => call_meets slot hT entry args g.meets hm
noncomputable abbrev ssC (id : String) (x : Str) (t : Tok) (y : Str) (u : Tok) : Code := .call (.builtin id) ⟨[.str x t, .str y u], []⟩
noncomputable abbrev ssB (id : String) (x : Str) (t : Tok) (y : Str) (u : Tok) : Code := .builtin id ⟨[.str x t, .str y u], []⟩
theorem eqS_a (x t y u) : tden (ssC "str.__eq__" x t y u) = .pure (.again (ssB "str.__eq__" x t y u)) := by kernel_rfl
theorem eqS_b (x t y u) : tden (ssB "str.__eq__" x t y u) = .pure (.done (.ret (.bool (x.cps.toList == y.cps.toList)))) := by kernel_rfl
/-- x == y is b -/
noncomputable def cEqS (x : Str) (t : Tok) (y : Str) (u : Tok) (b : Bool) (h : (x.cps.toList == y.cps.toList) = b) (n tk : Nat) : Ctr (mdl w) tp := cPure (ssC "str.__eq__" x t y u) (ssB "str.__eq__" x t y u) (.bool b) (eqS_a ..) (by kernel_rfl) (h ▸ eqS_b ..) n tk
/-- a sign in a text -/
noncomputable def cIn1 (x : Str) (t : Tok) (c : Nat) (u : Tok) (b : Bool) (h : decide (c ∈ x.cps.toList) = b) (n tk : Nat) : Ctr (mdl w) tp :=
  ⟨ssC "str.__contains__" x t ⟨⟨[c]⟩⟩ u, none, n, tk, [], .ok (.ret (.bool b)), none, none, 0, 0, fun Γ p s _ hp => ok_of_any (any_gives F.slot_str_contains (typeIs_str s x t) F.entry_str_contains (F.args_str_contains_2 _ _) (gives_str_contains x ⟨⟨[c]⟩⟩ t u)
    ⟨by rw [PySem.StrLaws.found_one, h], Eff.same s⟩)⟩
abbrev AddOk (w : World) (x : Str) (t : Tok) (y : Str) (u : Tok) (n tk : Nat) (ta : Tok) (j : Nat) : Prop :=
  ∀ (Γ : Ctx) (p : Pos) (s : Shared), s.toks = tk → wpCode (mdl w) (Γ.enter (ssC "str.__add__" x t y u) none p) (fun r' s' => r' = .ok (.ret (.str (x ++ y) ta)) ∧ Eff s s' none none 0 j) p s
theorem addOk (w : World) (x : Str) (t : Tok) (y : Str) (u : Tok) (n tk : Nat) (hy : y.length ≠ 0) (hs : (x ++ y).length ≤ sizeLine) : ∃ ta j, AddOk w x t y u n tk ta j := by
  by_cases hx : x.length = 0
  · have e : x ++ y = y := by
      have : x = ⟨#[]⟩ := by
        obtain ⟨c⟩ := x
        have : c.size = 0 := hx
        rw [Array.eq_empty_of_size_eq_zero this]
      rw [this]
      exact Str.empty_append y
    refine ⟨u, 0, fun Γ p s ht => ok_of_any (any_gives F.slot_str_add (typeIs_str s x t) F.entry_str_add (F.args_str_add_2 _ _) (gives_str_add x y t u) ?_)⟩
    rw [if_pos (by simp [hx])]
    exact ⟨by rw [e], Eff.same s⟩
  · refine ⟨tk, 1, fun Γ p s ht => ok_of_any (any_gives F.slot_str_add (typeIs_str s x t) F.entry_str_add (F.args_str_add_2 _ _) (gives_str_add x y t u) ?_)⟩
    rw [if_neg (by simp [hx]), if_neg (by simp [hy])]
    exact ⟨hs, by rw [ht], Eff.tok s 1⟩
noncomputable abbrev cAddS {x : Str} {t : Tok} {y : Str} {u : Tok} {n tk : Nat} {ta : Tok} {j : Nat} (h : AddOk w x t y u n tk ta j) : Ctr (mdl w) tp :=
  ⟨ssC "str.__add__" x t y u, none, n, tk, [], .ok (.ret (.str (x ++ y) ta)), none, none, 0, j, fun Γ p s _ hp => h Γ p s hp.toks⟩
theorem ok_builtin {id : String} {a : Args} {Γ : Ctx} {p : Pos} {s : Shared} {R : Result → Shared → Prop} (h1 : tden (.call (.builtin id) a) = .pure (.again (.builtin id a))) (h : wpCode (mdl w) (Γ.enter (.call (.builtin id) a) none p) R p s) : wpCode (mdl w) (Γ.enter (.builtin id a) none p) R p s := by
  rw [wpCode_iff_wp] at h
  have e : (Γ.enter (.call (.builtin id) a) none p).code = .call (.builtin id) a := rfl
  rw [e, show (mdl w).den = tden from tden_eq, h1, Sem.wp_pure] at h
  exact h.2
theorem lenB_a (x t) : tden (.call (.builtin "len") ⟨[.str x t], []⟩) = .pure (.again (.builtin "len" ⟨[.str x t], []⟩)) := by kernel_rfl
noncomputable def cLenB (x : Str) (t : Tok) (k : Int) (h : (x.length : Int) = k) (hb : k < 2 ^ 63) (n tk : Nat) : Ctr (mdl w) tp :=
  ⟨.builtin "len" ⟨[.str x t], []⟩, none, n, tk, [], .ok (.ret (.int k (tk + 1))), none, none, 0, 2, fun Γ p s _ hp => ok_builtin (lenB_a x t) (ok_of_any fun A => PyProof.Rows.len_str (by omega) ⟨by rw [h, hp.toks], Eff.tok s 2⟩)⟩
/-- a text in a tuple of texts -/
noncomputable def cInTup (i : Nat) (a : Addr) (items : List Value) (ys : List Str) (hi : StrsAre items ys) (x : Str) (u : Tok) (b : Bool) (h : (ys.any (· == x)) = b) (n tk : Nat) : Ctr (mdl w) tp :=
  ⟨.call (.builtin "tuple.__contains__") ⟨[.ref a, .str x u], []⟩, none, n, tk, [(i, a, ⟨.type "tuple", none, .seq ⟨items⟩ 0, #[]⟩)], .ok (.ret (.bool b)), none, none, 0, 0, fun Γ p s _ hp => ok_of_any fun A => by
    have ht : IsTup s.heap a ⟨items⟩ := ⟨_, (hp.has _ (.head _)).1, rfl, 0, rfl⟩
    exact wpAny_call_entry slot_tuple_contains ht.typeIs entry_tuple_contains (tuple_contains_strs ht hi ⟨_, rfl, by rw [h]; exact ⟨rfl, Eff.same s⟩⟩) (args_tuple_contains _ _)⟩
end
noncomputable abbrev wordS : Str := S [97, 98, 99, 100, 102, 101, 103, 104, 105, 106, 107, 108, 109, 110, 111, 112, 113, 114, 115, 116, 117, 118, 119, 120, 121, 122, 65, 66, 67, 68, 69, 70, 71, 72, 73, 74, 75, 76, 77, 78, 79, 80, 81, 82, 83, 84, 85, 86, 87, 88, 89, 90, 48, 49, 50, 51, 52, 53, 54, 55, 56, 57, 95, 223, 224, 225, 226, 227, 228, 229, 230, 231, 232, 233, 234, 235, 236, 237, 238, 239, 240, 241, 242, 243, 244, 245, 246, 248, 249, 250, 251, 252, 253, 254, 255, 192, 193, 194, 195, 196, 197, 198, 199, 200, 201, 202, 203, 204, 205, 206, 207, 208, 209, 210, 211, 212, 213, 214, 216, 217, 218, 219, 220, 221, 222]
/-- the lexer's dict -/
noncomputable abbrev lexD (P : Params) (tl : Nat → Tok) (ai pb fs : Addr) (st : Value) (tok : Str) (tt : Tok) : Obj :=
  ⟨y8, none, .dict ⟨[dk P (S [105, 110, 115, 116, 114, 101, 97, 109]) (tl 20) (.ref ai),
    dk P (S [105, 110, 102, 105, 108, 101]) (tl 21) (.none),
    dk P z87 (tl 22) (.bool true),
    dk P (S [101, 111, 102]) (tl 23) (.none),
    dk P (S [99, 111, 109, 109, 101, 110, 116, 101, 114, 115]) (tl 24) (.str (S []) (tl 4)),
    dk P (S [119, 111, 114, 100, 99, 104, 97, 114, 115]) (tl 25) (.str wordS (tl 5)),
    dk P (S [119, 104, 105, 116, 101, 115, 112, 97, 99, 101]) (tl 26) (.str z54 (tl 6)),
    dk P (S [119, 104, 105, 116, 101, 115, 112, 97, 99, 101, 95, 115, 112, 108, 105, 116]) (tl 27) (.bool true),
    dk P (S [113, 117, 111, 116, 101, 115]) (tl 28) (.str z48 (tl 8)),
    dk P (S [101, 115, 99, 97, 112, 101]) (tl 29) (.str (S [92]) (tl 9)),
    dk P (S [101, 115, 99, 97, 112, 101, 100, 113, 117, 111, 116, 101, 115]) (tl 30) (.str (S [34]) (tl 10)),
    dk P (S [115, 116, 97, 116, 101]) (tl 31) (st),
    dk P (S [112, 117, 115, 104, 98, 97, 99, 107]) (tl 32) (.ref pb),
    dk P (S [108, 105, 110, 101, 110, 111]) (tl 33) (.int 1 (tl 13)),
    dk P (S [100, 101, 98, 117, 103]) (tl 34) (.int 0 (tl 14)),
    dk P z88 (tl 35) (.str tok tt),
    dk P (S [102, 105, 108, 101, 115, 116, 97, 99, 107]) (tl 36) (.ref fs),
    dk P (S [115, 111, 117, 114, 99, 101]) (tl 37) (.none),
    dk P (S [95, 112, 117, 110, 99, 116, 117, 97, 116, 105, 111, 110, 95, 99, 104, 97, 114, 115]) (tl 38) (.str (S []) (tl 18))]⟩ 19, #[]⟩
noncomputable abbrev rtF3 (P : Params) (tf : Nat → Tok) (al : Addr) (q : Bool) (te : Tok) : Obj :=
  (fO 3 [dk P z53 (tf 0) (.ref al),
    dk P z91 (tf 1) (.bool q),
    dk P z92 (tf 2) (.str (S [32]) te)])
noncomputable abbrev rtF4 (P : Params) (tf : Nat → Tok) (al : Addr) (q : Bool) (te : Tok) (nc : Str) (tn : Tok) : Obj :=
  (fO 4 [dk P z53 (tf 0) (.ref al),
    dk P z91 (tf 1) (.bool q),
    dk P z92 (tf 2) (.str (S [32]) te),
    dk P (S [110, 101, 120, 116, 99, 104, 97, 114]) (tf 3) (.str nc tn)])
noncomputable abbrev lexO (a2 : Addr) : Obj := ⟨.ref 868, some a2, .plain, #[]⟩
/-- the loop of read_token -/
noncomputable def rtT : PySem.Expr := match T.f836.1.2.1 with
  | _ :: _ :: .While t _ _ _ :: _ => t
  | _ => .Constant .none 0 ⟨0, 0, 0, 0⟩
noncomputable def rtB : List Stmt := match T.f836.1.2.1 with
  | _ :: _ :: .While _ b _ _ :: _ => b
  | _ => []
noncomputable abbrev rtE (a0 : Addr) : Env := ⟨T.f836.1.2.2, a0, 3, [], S [115, 104, 108, 101, 120, 46, 114, 101, 97, 100, 95, 116, 111, 107, 101, 110, 46, 60, 108, 111, 99, 97, 108, 115, 62, 46], some 836, .ref 835, some a0, 0⟩
structure BLex where
  x1 : BV
  x2 : BV
  x3 : BV
  x4 : BA
  x5 : BA
  x6 : BV
  x7 : BV
noncomputable abbrev BLex.list (b : BLex) : List (Code × Pos) := [fr b.x1, fr b.x2, fr b.x3, (.builtin "list.extend.loop" ⟨b.x4.a, b.x4.k⟩, b.x4.p), (.builtin "type.__call__" ⟨.type "list" :: b.x5.a, b.x5.k⟩, b.x5.p), fr b.x6, fr b.x7, callerB]
noncomputable abbrev cLx (a0 : Addr) : Code := .whileLoop rtT rtB [] (rtE a0)
noncomputable abbrev gLx (B : BLex) (a0 : Addr) : Ctx := ⟨cLx a0, none, none, B.list, none⟩
noncomputable abbrev BLex.rd (B : BLex) (a0 : Addr) : BRead := ⟨⟨rtT, rtB, [], rtE a0, ⟨738, 27, 738, 48⟩⟩, B.x1, B.x2, B.x3, B.x4, B.x5, B.x6, B.x7⟩
noncomputable abbrev lt5 (a0 : Addr) (o0 : Obj) (a1 : Addr) (o1 : Obj) (a2 : Addr) (o2 : Obj) (a3 : Addr) (o3 : Obj) (a4 : Addr) (o4 : Obj) : LT := .node a0 o0 (.node a1 o1 (.node a3 o3 .nil .nil) .nil) (.node a2 o2 (.node a4 o4 .nil .nil) .nil)
noncomputable abbrev sA : Str := S [97]
/-- all that the loop works on -/
structure LxP where
  a0 : Addr
  a1 : Addr
  a2 : Addr
  a3 : Addr
  a4 : Addr
  pb : Addr
  fs : Addr
  tf : Nat → Tok
  tl : Nat → Tok
  ts : Nat → Tok
  te : Tok
  buf : Str
  tb : Tok
noncomputable abbrev LxP.lt4 (x : LxP) (P : Params) (q : Bool) (nc : Str) (tn : Tok) (st : Value) (tok : Str) (tt : Tok) (p : Int) (tp : Tok) : LT :=
  lt5 x.a0 (rtF4 P x.tf x.a1 q x.te nc tn) x.a1 (lexO x.a2) x.a2 (lexD P x.tl x.a3 x.pb x.fs st tok tt) x.a3 (sioO x.a4) x.a4 (sioD P x.ts x.buf x.tb p tp)
noncomputable abbrev LxP.os4 (x : LxP) (P : Params) (q : Bool) (nc : Str) (tn : Tok) (st : Value) (tok : Str) (tt : Tok) (p : Int) (tp : Tok) : List (Option (Addr × Obj)) :=
  [some (x.a0, rtF4 P x.tf x.a1 q x.te nc tn), some (x.a1, lexO x.a2), some (x.a2, lexD P x.tl x.a3 x.pb x.fs st tok tt), some (x.a3, sioO x.a4), some (x.a4, sioD P x.ts x.buf x.tb p tp)]
noncomputable abbrev LxP.lt3 (x : LxP) (P : Params) (q : Bool) (st : Value) (tok : Str) (tt : Tok) (p : Int) (tp : Tok) : LT :=
  lt5 x.a0 (rtF3 P x.tf x.a1 q x.te) x.a1 (lexO x.a2) x.a2 (lexD P x.tl x.a3 x.pb x.fs st tok tt) x.a3 (sioO x.a4) x.a4 (sioD P x.ts x.buf x.tb p tp)
noncomputable def tf4 (tf : Nat → Tok) (t : Tok) : Nat → Tok
  | 0 => tf 0
  | 1 => tf 1
  | 2 => tf 2
  | _ => t
noncomputable abbrev LxP.os3 (x : LxP) (P : Params) (tk : Tok) (q : Bool) (nc : Str) (tn : Tok) (st : Value) (tok : Str) (tt : Tok) (p : Int) (tp : Tok) : List (Option (Addr × Obj)) :=
  [some (x.a0, rtF4 P (tf4 x.tf tk) x.a1 q x.te nc tn), some (x.a1, lexO x.a2), some (x.a2, lexD P x.tl x.a3 x.pb x.fs st tok tt), some (x.a3, sioO x.a4), some (x.a4, sioD P x.ts x.buf x.tb p tp)]
noncomputable abbrev msF0 : List Nat := (dg 130 0x3330200020202000021302200020000210302200020000211111105400004000000040000000430220002000021003022000200002606600000000000002000021)
noncomputable abbrev nF0 : Nat := 209
noncomputable abbrev msF2 : List Nat := (dg 246 0x333020002020200002133302000202020000211130220002000021113022000200002113022000200002113022000200002111302200020000211001030220002000021302200020000210302200020000211111105400004000000040000000430220002000021003022000200002606600000000000002000021)
noncomputable abbrev nF2 : Nat := 391
noncomputable abbrev msF3 : List Nat := (dg 296 0x33302000202020000211302200020000211302200020000211130220002000027077000000000000020000211130220002000021113022000200002113022000200002113022000200002111302200020000211001030220002000021302200020000210302200020000211111105400004000000040000000430220002000021003022000200002606600000000000002000021)
noncomputable abbrev nF3 : Nat := 470
noncomputable abbrev msF4 : List Nat := (dg 315 0x333020002020200002133302000202020000211302200020000211302200020000211130220002000027077000000000000020000211130220002000021113022000200002113022000200002113022000200002111302200020000211001030220002000021302200020000210302200020000211111105400004000000040000000430220002000021003022000200002606600000000000002000021)
noncomputable abbrev nF4 : Nat := 498
noncomputable abbrev msA6 : List Nat := (dg 223 0x3330200020202000021001177302200020000210302200020000213022000200002103022000200002130220002000021030220002000021302200020000210302200020000211111105400004000000040000000430220002000021003022000200002606600000000000002000021)
noncomputable abbrev nA6 : Nat := 360
noncomputable abbrev msA7 : List Nat := (dg 269 0x13022000200002133302000202020000210302200020000211302200020000211001177302200020000210302200020000213022000200002103022000200002130220002000021030220002000021302200020000210302200020000211111105400004000000040000000430220002000021003022000200002606600000000000002000021)
noncomputable abbrev nA7 : Nat := 433
noncomputable abbrev msA8 : List Nat := (dg 301 0x3330200020202000021113022000200002113022000200002103022000200002113022000200002111302200020000211001177302200020000210302200020000213022000200002103022000200002130220002000021030220002000021302200020000210302200020000211111105400004000000040000000430220002000021003022000200002606600000000000002000021)
noncomputable abbrev nA8 : Nat := 479
noncomputable abbrev msA9 : List Nat := (dg 361 0x3330200020202000021130220002000021130220002000021113022000200002113022000200002113022000200002113022000200002103022000200002113022000200002111302200020000211001177302200020000210302200020000213022000200002103022000200002130220002000021030220002000021302200020000210302200020000211111105400004000000040000000430220002000021003022000200002606600000000000002000021)
noncomputable abbrev nA9 : Nat := 567
noncomputable abbrev msA10 : List Nat := (dg 430 0x3330200020202000021130220002000021130220002000028088000000000000020000211302200020000211302200020000211130220002000021113022000200002113022000200002113022000200002113022000200002103022000200002113022000200002111302200020000211001177302200020000210302200020000213022000200002103022000200002130220002000021030220002000021302200020000210302200020000211111105400004000000040000000430220002000021003022000200002606600000000000002000021)
noncomputable abbrev nA10 : Nat := 671
noncomputable abbrev msQ11 : List Nat := (dg 209 0x33302000202020000213022000200002113022000200002110011113022000200002130220002000021130220002000021302200020000210302200020000211111105400004000000040000000430220002000021003022000200002606600000000000002000021)
noncomputable abbrev nQ11 : Nat := 339
noncomputable abbrev msQ12 : List Nat := (dg 240 0x333020002020200002113022000200002113022000200002113022000200002113022000200002110011113022000200002130220002000021130220002000021302200020000210302200020000211111105400004000000040000000430220002000021003022000200002606600000000000002000021)
noncomputable abbrev nQ12 : Nat := 383
section
variable (w : World) (b1 b2 : Bool) (N T : Nat) (B : BLex) (x : LxP)
theorem F0_run {pos : Pos} {G : List GenState} {q : Bool} {tt : Tok} {tok : Str} {p : Nat} {tp tr : Tok} {gr jr : Nat}
    (hr : RdOk w b1 b2 (B.rd x.a0) 3 4 x.a3 x.a4 x.ts x.buf x.tb p tp (T + 6) (N + 1) (T + 7) ⟨⟨[]⟩⟩ tr (p : Int) tp gr jr) :
    let R := sim (M := mdl w) (tp := tpW w b1 b2) (svW w b1 b2 N T) nF0 msF0
      [cRead (N + 1) (T + 7) (B.rd x.a0) 3 4 x.a3 x.a4 x.ts x.buf x.tb p tp (T + 6) hr,
        cEqS ⟨⟨[]⟩⟩ tr (S [10]) (T + (7 + jr + 1)) false rfl (N + (1 + gr)) (T + (7 + jr + 2))]
      (gLx B x.a0) pos .base (tden (gLx B x.a0).code) (x.lt3 (PF w.params b1 b2) q .none tok tt p tp) 5 0 0 G ck0
    (R.out [0, 1, 2, 3, 4], R.lhs) = ((some (.ok .next), some (1 + gr, 7 + jr + 8, G, (x.os3 (PF w.params b1 b2) (T + (7 + jr)) q ⟨⟨[]⟩⟩ tr .none (S []) (T + (7 + jr + 5)) (p : Int) tp))), R.rhs) := by
  walk_at "r"
theorem F2_run {pos : Pos} {G : List GenState} {q : Bool} {tt : Tok} {tok : Str} {p : Nat} {tp tr : Tok} {gr jr : Nat} {tst : Tok} {c : Nat} {tp' : Tok}
    (hr : RdOk w b1 b2 (B.rd x.a0) 3 4 x.a3 x.a4 x.ts x.buf x.tb p tp (T + 6) (N + 1) (T + 7) ⟨⟨[c]⟩⟩ tr ((p : Int) + 1) tp' gr jr)
    (h1 : ([c] == [10]) = false)
    (h2 : decide (c ∈ [32, 9, 13, 10]) = false)
    (h3 : decide (c ∈ ([] : List Nat)) = false)
    (h4 : decide (c ∈ [92]) = false)
    (h5 : decide (c ∈ wordS.cps.toList) = true) :
    let R := sim (M := mdl w) (tp := tpW w b1 b2) (svW w b1 b2 N T) nF2 msF2
      [cRead (N + 1) (T + 7) (B.rd x.a0) 3 4 x.a3 x.a4 x.ts x.buf x.tb p tp (T + 6) hr,
        cEqS ⟨⟨[c]⟩⟩ tr (S [10]) (T + (7 + jr + 1)) false h1 (N + (1 + gr)) (T + (7 + jr + 2)),
        cIn1 z54 (x.tl 6) c tr false h2 (N + (1 + gr)) (T + (7 + jr + 10)),
        cIn1 (S []) (x.tl 4) c tr false h3 (N + (1 + gr)) (T + (7 + jr + 11)),
        cIn1 (S [92]) (x.tl 9) c tr false h4 (N + (1 + gr)) (T + (7 + jr + 13)),
        cIn1 wordS (x.tl 5) c tr true h5 (N + (1 + gr)) (T + (7 + jr + 14))]
      (gLx B x.a0) pos .base (tden (gLx B x.a0).code) (x.lt3 (PF w.params b1 b2) q (.str (S [32]) tst) tok tt p tp) 5 0 0 G ck0
    (R.outC [0, 1, 2, 3, 4], R.lhs) = ((none, some (gLx B x.a0, .base, tden (gLx B x.a0).code, 1 + gr, 7 + jr + 19, G, (x.os3 (PF w.params b1 b2) (T + (7 + jr)) q ⟨⟨[c]⟩⟩ tr (.str (S [97]) (T + (7 + jr + 16))) ⟨⟨[c]⟩⟩ tr ((p : Int) + 1) tp'))), R.rhs) := by
  walk_at "r"
theorem F3_run {pos : Pos} {G : List GenState} {q : Bool} {tt : Tok} {tok : Str} {p : Nat} {tp tr : Tok} {gr jr : Nat} {tst : Tok} {c : Nat} {tp' : Tok}
    (hr : RdOk w b1 b2 (B.rd x.a0) 3 4 x.a3 x.a4 x.ts x.buf x.tb p tp (T + 6) (N + 1) (T + 7) ⟨⟨[c]⟩⟩ tr ((p : Int) + 1) tp' gr jr)
    (h1 : ([c] == [10]) = false)
    (h2 : decide (c ∈ [32, 9, 13, 10]) = false)
    (h3 : decide (c ∈ ([] : List Nat)) = false)
    (h4 : decide (c ∈ [92]) = false)
    (h5 : decide (c ∈ wordS.cps.toList) = false)
    (h6 : decide (c ∈ ([] : List Nat)) = false)
    (h7 : decide (c ∈ [39, 34]) = true) :
    let R := sim (M := mdl w) (tp := tpW w b1 b2) (svW w b1 b2 N T) nF3 msF3
      [cRead (N + 1) (T + 7) (B.rd x.a0) 3 4 x.a3 x.a4 x.ts x.buf x.tb p tp (T + 6) hr,
        cEqS ⟨⟨[c]⟩⟩ tr (S [10]) (T + (7 + jr + 1)) false h1 (N + (1 + gr)) (T + (7 + jr + 2)),
        cIn1 z54 (x.tl 6) c tr false h2 (N + (1 + gr)) (T + (7 + jr + 10)),
        cIn1 (S []) (x.tl 4) c tr false h3 (N + (1 + gr)) (T + (7 + jr + 11)),
        cIn1 (S [92]) (x.tl 9) c tr false h4 (N + (1 + gr)) (T + (7 + jr + 13)),
        cIn1 wordS (x.tl 5) c tr false h5 (N + (1 + gr)) (T + (7 + jr + 14)),
        cIn1 (S []) (x.tl 18) c tr false h6 (N + (1 + gr + 1)) (T + (7 + jr + 17)),
        cIn1 z48 (x.tl 8) c tr true h7 (N + (1 + gr + 1)) (T + (7 + jr + 18))]
      (gLx B x.a0) pos .base (tden (gLx B x.a0).code) (x.lt3 (PF w.params b1 b2) q (.str (S [32]) tst) tok tt p tp) 5 0 0 G ck0
    (R.outC [0, 1, 2, 3, 4], R.lhs) = ((none, some (gLx B x.a0, .base, tden (gLx B x.a0).code, 1 + gr + 1, 7 + jr + 21, G, (x.os3 (PF w.params b1 b2) (T + (7 + jr)) q ⟨⟨[c]⟩⟩ tr (.str ⟨⟨[c]⟩⟩ tr) tok tt ((p : Int) + 1) tp'))), R.rhs) := by
  walk_at "r"
theorem F4_run {pos : Pos} {G : List GenState} {q : Bool} {tt : Tok} {tok : Str} {p : Nat} {tp tr : Tok} {gr jr : Nat} {tst : Tok} {c : Nat} {tp' : Tok}
    (hr : RdOk w b1 b2 (B.rd x.a0) 3 4 x.a3 x.a4 x.ts x.buf x.tb p tp (T + 6) (N + 1) (T + 7) ⟨⟨[c]⟩⟩ tr ((p : Int) + 1) tp' gr jr)
    (h1 : ([c] == [10]) = false)
    (h2 : decide (c ∈ [32, 9, 13, 10]) = false)
    (h3 : decide (c ∈ ([] : List Nat)) = false)
    (h4 : decide (c ∈ [92]) = false)
    (h5 : decide (c ∈ wordS.cps.toList) = false)
    (h6 : decide (c ∈ ([] : List Nat)) = false)
    (h7 : decide (c ∈ [39, 34]) = false) :
    let R := sim (M := mdl w) (tp := tpW w b1 b2) (svW w b1 b2 N T) nF4 msF4
      [cRead (N + 1) (T + 7) (B.rd x.a0) 3 4 x.a3 x.a4 x.ts x.buf x.tb p tp (T + 6) hr,
        cEqS ⟨⟨[c]⟩⟩ tr (S [10]) (T + (7 + jr + 1)) false h1 (N + (1 + gr)) (T + (7 + jr + 2)),
        cIn1 z54 (x.tl 6) c tr false h2 (N + (1 + gr)) (T + (7 + jr + 10)),
        cIn1 (S []) (x.tl 4) c tr false h3 (N + (1 + gr)) (T + (7 + jr + 11)),
        cIn1 (S [92]) (x.tl 9) c tr false h4 (N + (1 + gr)) (T + (7 + jr + 13)),
        cIn1 wordS (x.tl 5) c tr false h5 (N + (1 + gr)) (T + (7 + jr + 14)),
        cIn1 (S []) (x.tl 18) c tr false h6 (N + (1 + gr + 1)) (T + (7 + jr + 17)),
        cIn1 z48 (x.tl 8) c tr false h7 (N + (1 + gr + 1)) (T + (7 + jr + 18))]
      (gLx B x.a0) pos .base (tden (gLx B x.a0).code) (x.lt3 (PF w.params b1 b2) q (.str (S [32]) tst) tok tt p tp) 5 0 0 G ck0
    (R.outC [0, 1, 2, 3, 4], R.lhs) = ((none, some (gLx B x.a0, .base, tden (gLx B x.a0).code, 1 + gr + 1, 7 + jr + 24, G, (x.os3 (PF w.params b1 b2) (T + (7 + jr)) q ⟨⟨[c]⟩⟩ tr (.str (S [97]) (T + (7 + jr + 21))) ⟨⟨[c]⟩⟩ tr ((p : Int) + 1) tp'))), R.rhs) := by
  walk_at "r"
theorem A6_run {pos : Pos} {G : List GenState} {q : Bool} {tt : Tok} {tok : Str} {p : Nat} {tp tr : Tok} {gr jr : Nat} {nc : Str} {tn : Tok} {tst : Tok}
    (hr : RdOk w b1 b2 (B.rd x.a0) 3 4 x.a3 x.a4 x.ts x.buf x.tb p tp (T + 6) (N + 1) (T + 7) ⟨⟨[]⟩⟩ tr (p : Int) tp gr jr) :
    let R := sim (M := mdl w) (tp := tpW w b1 b2) (svW w b1 b2 N T) nA6 msA6
      [cRead (N + 1) (T + 7) (B.rd x.a0) 3 4 x.a3 x.a4 x.ts x.buf x.tb p tp (T + 6) hr,
        cEqS ⟨⟨[]⟩⟩ tr (S [10]) (T + (7 + jr + 1)) false rfl (N + (1 + gr)) (T + (7 + jr + 2)),
        cInTup 6 (N + (1 + gr)) [.str (S [97]) (T + (7 + jr + 12)), .str (S [99]) (T + (7 + jr + 13))] [S [97], S [99]] (.cons _ _ (.cons _ _ .nil)) sA tst true rfl (N + (1 + gr + 1)) (T + (7 + jr + 14))]
      (gLx B x.a0) pos .base (tden (gLx B x.a0).code) (x.lt4 (PF w.params b1 b2) q nc tn (.str sA tst) tok tt p tp) 5 0 0 G ck0
    (R.out [0, 1, 2, 3, 4], R.lhs) = ((some (.ok .next), some (1 + gr + 1, 7 + jr + 18, G, (x.os4 (PF w.params b1 b2) q ⟨⟨[]⟩⟩ tr .none tok tt (p : Int) tp))), R.rhs) := by
  walk_at "r"
theorem A7_run {pos : Pos} {G : List GenState} {q : Bool} {tt : Tok} {tok : Str} {p : Nat} {tp tr : Tok} {gr jr : Nat} {nc : Str} {tn : Tok} {tst : Tok} {c : Nat} {tp' : Tok} {lk : Nat}
    (hr : RdOk w b1 b2 (B.rd x.a0) 3 4 x.a3 x.a4 x.ts x.buf x.tb p tp (T + 6) (N + 1) (T + 7) ⟨⟨[c]⟩⟩ tr ((p : Int) + 1) tp' gr jr)
    (h1 : ([c] == [10]) = false)
    (h2 : decide (c ∈ [32, 9, 13, 10]) = true)
    (hk : (tok.length : Int) = Int.ofNat (lk + 1)) (hk2 : Int.ofNat (lk + 1) < 2 ^ 63) :
    let R := sim (M := mdl w) (tp := tpW w b1 b2) (svW w b1 b2 N T) nA7 msA7
      [cRead (N + 1) (T + 7) (B.rd x.a0) 3 4 x.a3 x.a4 x.ts x.buf x.tb p tp (T + 6) hr,
        cEqS ⟨⟨[c]⟩⟩ tr (S [10]) (T + (7 + jr + 1)) false h1 (N + (1 + gr)) (T + (7 + jr + 2)),
        cInTup 6 (N + (1 + gr)) [.str (S [97]) (T + (7 + jr + 12)), .str (S [99]) (T + (7 + jr + 13))] [S [97], S [99]] (.cons _ _ (.cons _ _ .nil)) sA tst true rfl (N + (1 + gr + 1)) (T + (7 + jr + 14)),
        cIn1 z54 (x.tl 6) c tr true h2 (N + (1 + gr + 1)) (T + (7 + jr + 17)),
        cLenB tok tt (Int.ofNat (lk + 1)) hk hk2 (N + (1 + gr + 1)) (T + (7 + jr + 23))]
      (gLx B x.a0) pos .base (tden (gLx B x.a0).code) (x.lt4 (PF w.params b1 b2) q nc tn (.str sA tst) tok tt p tp) 5 0 0 G ck0
    (R.out [0, 1, 2, 3, 4], R.lhs) = ((some (.ok .next), some (1 + gr + 1, 7 + jr + 25, G, (x.os4 (PF w.params b1 b2) q ⟨⟨[c]⟩⟩ tr (.str (S [32]) (T + (7 + jr + 19))) tok tt ((p : Int) + 1) tp'))), R.rhs) := by
  walk_at "r"
theorem A8_run {pos : Pos} {G : List GenState} {q : Bool} {tt : Tok} {tok : Str} {p : Nat} {tp tr : Tok} {gr jr : Nat} {nc : Str} {tn : Tok} {tst : Tok} {c : Nat} {tp' : Tok}
    (hr : RdOk w b1 b2 (B.rd x.a0) 3 4 x.a3 x.a4 x.ts x.buf x.tb p tp (T + 6) (N + 1) (T + 7) ⟨⟨[c]⟩⟩ tr ((p : Int) + 1) tp' gr jr)
    (h1 : ([c] == [10]) = false)
    (h2 : decide (c ∈ [32, 9, 13, 10]) = false)
    (h3 : decide (c ∈ ([] : List Nat)) = false)
    (h4 : decide (c ∈ [39, 34]) = true) :
    let R := sim (M := mdl w) (tp := tpW w b1 b2) (svW w b1 b2 N T) nA8 msA8
      [cRead (N + 1) (T + 7) (B.rd x.a0) 3 4 x.a3 x.a4 x.ts x.buf x.tb p tp (T + 6) hr,
        cEqS ⟨⟨[c]⟩⟩ tr (S [10]) (T + (7 + jr + 1)) false h1 (N + (1 + gr)) (T + (7 + jr + 2)),
        cInTup 6 (N + (1 + gr)) [.str (S [97]) (T + (7 + jr + 12)), .str (S [99]) (T + (7 + jr + 13))] [S [97], S [99]] (.cons _ _ (.cons _ _ .nil)) sA tst true rfl (N + (1 + gr + 1)) (T + (7 + jr + 14)),
        cIn1 z54 (x.tl 6) c tr false h2 (N + (1 + gr + 1)) (T + (7 + jr + 17)),
        cIn1 (S []) (x.tl 4) c tr false h3 (N + (1 + gr + 1)) (T + (7 + jr + 18)),
        cIn1 z48 (x.tl 8) c tr true h4 (N + (1 + gr + 1)) (T + (7 + jr + 22))]
      (gLx B x.a0) pos .base (tden (gLx B x.a0).code) (x.lt4 (PF w.params b1 b2) q nc tn (.str sA tst) tok tt p tp) 5 0 0 G ck0
    (R.outC [0, 1, 2, 3, 4], R.lhs) = ((none, some (gLx B x.a0, .base, tden (gLx B x.a0).code, 1 + gr + 1, 7 + jr + 24, G, (x.os4 (PF w.params b1 b2) q ⟨⟨[c]⟩⟩ tr (.str ⟨⟨[c]⟩⟩ tr) tok tt ((p : Int) + 1) tp'))), R.rhs) := by
  walk_at "r"
theorem A9_run {pos : Pos} {G : List GenState} {q : Bool} {tt : Tok} {tok : Str} {p : Nat} {tp tr : Tok} {gr jr : Nat} {nc : Str} {tn : Tok} {tst : Tok} {c : Nat} {tp' : Tok} {ta : Tok} {ja : Nat}
    (hr : RdOk w b1 b2 (B.rd x.a0) 3 4 x.a3 x.a4 x.ts x.buf x.tb p tp (T + 6) (N + 1) (T + 7) ⟨⟨[c]⟩⟩ tr ((p : Int) + 1) tp' gr jr)
    (h1 : ([c] == [10]) = false)
    (h2 : decide (c ∈ [32, 9, 13, 10]) = false)
    (h3 : decide (c ∈ ([] : List Nat)) = false)
    (h4 : decide (c ∈ [39, 34]) = false)
    (h5 : decide (c ∈ [92]) = false)
    (h6 : decide (c ∈ wordS.cps.toList) = true)
    (ha : AddOk w tok tt ⟨⟨[c]⟩⟩ tr (N + (1 + gr + 1)) (T + (7 + jr + 26)) ta ja) :
    let R := sim (M := mdl w) (tp := tpW w b1 b2) (svW w b1 b2 N T) nA9 msA9
      [cRead (N + 1) (T + 7) (B.rd x.a0) 3 4 x.a3 x.a4 x.ts x.buf x.tb p tp (T + 6) hr,
        cEqS ⟨⟨[c]⟩⟩ tr (S [10]) (T + (7 + jr + 1)) false h1 (N + (1 + gr)) (T + (7 + jr + 2)),
        cInTup 6 (N + (1 + gr)) [.str (S [97]) (T + (7 + jr + 12)), .str (S [99]) (T + (7 + jr + 13))] [S [97], S [99]] (.cons _ _ (.cons _ _ .nil)) sA tst true rfl (N + (1 + gr + 1)) (T + (7 + jr + 14)),
        cIn1 z54 (x.tl 6) c tr false h2 (N + (1 + gr + 1)) (T + (7 + jr + 17)),
        cIn1 (S []) (x.tl 4) c tr false h3 (N + (1 + gr + 1)) (T + (7 + jr + 18)),
        cIn1 z48 (x.tl 8) c tr false h4 (N + (1 + gr + 1)) (T + (7 + jr + 22)),
        cIn1 (S [92]) (x.tl 9) c tr false h5 (N + (1 + gr + 1)) (T + (7 + jr + 24)),
        cIn1 wordS (x.tl 5) c tr true h6 (N + (1 + gr + 1)) (T + (7 + jr + 25)),
        cAddS ha]
      (gLx B x.a0) pos .base (tden (gLx B x.a0).code) (x.lt4 (PF w.params b1 b2) q nc tn (.str sA tst) tok tt p tp) 5 0 0 G ck0
    (R.outC [0, 1, 2, 3, 4], R.lhs) = ((none, some (gLx B x.a0, .base, tden (gLx B x.a0).code, 1 + gr + 1, 7 + jr + 26 + ja + 2, G, (x.os4 (PF w.params b1 b2) q ⟨⟨[c]⟩⟩ tr (.str sA tst) (tok ++ ⟨⟨[c]⟩⟩) ta ((p : Int) + 1) tp'))), R.rhs) := by
  walk_at "r"
theorem A10_run {pos : Pos} {G : List GenState} {q : Bool} {tt : Tok} {tok : Str} {p : Nat} {tp tr : Tok} {gr jr : Nat} {nc : Str} {tn : Tok} {tst : Tok} {c : Nat} {tp' : Tok} {ta : Tok} {ja : Nat}
    (hr : RdOk w b1 b2 (B.rd x.a0) 3 4 x.a3 x.a4 x.ts x.buf x.tb p tp (T + 6) (N + 1) (T + 7) ⟨⟨[c]⟩⟩ tr ((p : Int) + 1) tp' gr jr)
    (h1 : ([c] == [10]) = false)
    (h2 : decide (c ∈ [32, 9, 13, 10]) = false)
    (h3 : decide (c ∈ ([] : List Nat)) = false)
    (h4 : decide (c ∈ [39, 34]) = false)
    (h5 : decide (c ∈ [92]) = false)
    (h6 : decide (c ∈ wordS.cps.toList) = false)
    (h7 : decide (c ∈ [39, 34]) = false)
    (h8 : decide (c ∈ ([] : List Nat)) = false)
    (ha : AddOk w tok tt ⟨⟨[c]⟩⟩ tr (N + (1 + gr + 2)) (T + (7 + jr + 31)) ta ja) :
    let R := sim (M := mdl w) (tp := tpW w b1 b2) (svW w b1 b2 N T) nA10 msA10
      [cRead (N + 1) (T + 7) (B.rd x.a0) 3 4 x.a3 x.a4 x.ts x.buf x.tb p tp (T + 6) hr,
        cEqS ⟨⟨[c]⟩⟩ tr (S [10]) (T + (7 + jr + 1)) false h1 (N + (1 + gr)) (T + (7 + jr + 2)),
        cInTup 6 (N + (1 + gr)) [.str (S [97]) (T + (7 + jr + 12)), .str (S [99]) (T + (7 + jr + 13))] [S [97], S [99]] (.cons _ _ (.cons _ _ .nil)) sA tst true rfl (N + (1 + gr + 1)) (T + (7 + jr + 14)),
        cIn1 z54 (x.tl 6) c tr false h2 (N + (1 + gr + 1)) (T + (7 + jr + 17)),
        cIn1 (S []) (x.tl 4) c tr false h3 (N + (1 + gr + 1)) (T + (7 + jr + 18)),
        cIn1 z48 (x.tl 8) c tr false h4 (N + (1 + gr + 1)) (T + (7 + jr + 22)),
        cIn1 (S [92]) (x.tl 9) c tr false h5 (N + (1 + gr + 1)) (T + (7 + jr + 24)),
        cIn1 wordS (x.tl 5) c tr false h6 (N + (1 + gr + 1)) (T + (7 + jr + 25)),
        cIn1 z48 (x.tl 8) c tr false h7 (N + (1 + gr + 1)) (T + (7 + jr + 26)),
        cIn1 (S []) (x.tl 18) c tr false h8 (N + (1 + gr + 2)) (T + (7 + jr + 30)),
        cAddS ha]
      (gLx B x.a0) pos .base (tden (gLx B x.a0).code) (x.lt4 (PF w.params b1 b2) q nc tn (.str sA tst) tok tt p tp) 5 0 0 G ck0
    (R.outC [0, 1, 2, 3, 4], R.lhs) = ((none, some (gLx B x.a0, .base, tden (gLx B x.a0).code, 1 + gr + 2, 7 + jr + 31 + ja + 2, G, (x.os4 (PF w.params b1 b2) q ⟨⟨[c]⟩⟩ tr (.str sA tst) (tok ++ ⟨⟨[c]⟩⟩) ta ((p : Int) + 1) tp'))), R.rhs) := by
  walk_at "r"
theorem Q11_run {pos : Pos} {G : List GenState} {q : Bool} {tt : Tok} {tok : Str} {p : Nat} {tp tr : Tok} {gr jr : Nat} {nc : Str} {tn : Tok} {tst : Tok} {qc : Nat} {tp' : Tok}
    (hr : RdOk w b1 b2 (B.rd x.a0) 3 4 x.a3 x.a4 x.ts x.buf x.tb p tp (T + 6) (N + 1) (T + 7) ⟨⟨[qc]⟩⟩ tr ((p : Int) + 1) tp' gr jr)
    (h1 : ([qc] == [10]) = false)
    (h2 : ([qc] == [32]) = false)
    (h3 : decide (qc ∈ [39, 34]) = true)
    (h4 : ([qc] == [qc]) = true) :
    let R := sim (M := mdl w) (tp := tpW w b1 b2) (svW w b1 b2 N T) nQ11 msQ11
      [cRead (N + 1) (T + 7) (B.rd x.a0) 3 4 x.a3 x.a4 x.ts x.buf x.tb p tp (T + 6) hr,
        cEqS ⟨⟨[qc]⟩⟩ tr (S [10]) (T + (7 + jr + 1)) false h1 (N + (1 + gr)) (T + (7 + jr + 2)),
        cEqS ⟨⟨[qc]⟩⟩ tst (S [32]) (T + (7 + jr + 6)) false h2 (N + (1 + gr)) (T + (7 + jr + 7)),
        cIn1 z48 (x.tl 8) qc tst true h3 (N + (1 + gr)) (T + (7 + jr + 9)),
        cEqS ⟨⟨[qc]⟩⟩ tr ⟨⟨[qc]⟩⟩ tst true h4 (N + (1 + gr)) (T + (7 + jr + 13))]
      (gLx B x.a0) pos .base (tden (gLx B x.a0).code) (x.lt4 (PF w.params b1 b2) q nc tn (.str ⟨⟨[qc]⟩⟩ tst) tok tt p tp) 5 0 0 G ck0
    (R.outC [0, 1, 2, 3, 4], R.lhs) = ((none, some (gLx B x.a0, .base, tden (gLx B x.a0).code, 1 + gr, 7 + jr + 17, G, (x.os4 (PF w.params b1 b2) true ⟨⟨[qc]⟩⟩ tr (.str (S [97]) (T + (7 + jr + 14))) tok tt ((p : Int) + 1) tp'))), R.rhs) := by
  walk_at "r"
theorem Q12_run {pos : Pos} {G : List GenState} {q : Bool} {tt : Tok} {tok : Str} {p : Nat} {tp tr : Tok} {gr jr : Nat} {nc : Str} {tn : Tok} {tst : Tok} {c : Nat} {qc : Nat} {tp' : Tok} {ta : Tok} {ja : Nat}
    (hr : RdOk w b1 b2 (B.rd x.a0) 3 4 x.a3 x.a4 x.ts x.buf x.tb p tp (T + 6) (N + 1) (T + 7) ⟨⟨[c]⟩⟩ tr ((p : Int) + 1) tp' gr jr)
    (h1 : ([c] == [10]) = false)
    (h2 : ([qc] == [32]) = false)
    (h3 : decide (qc ∈ [39, 34]) = true)
    (h4 : ([c] == [qc]) = false)
    (h5 : decide (c ∈ [92]) = false)
    (ha : AddOk w tok tt ⟨⟨[c]⟩⟩ tr (N + (1 + gr)) (T + (7 + jr + 16)) ta ja) :
    let R := sim (M := mdl w) (tp := tpW w b1 b2) (svW w b1 b2 N T) nQ12 msQ12
      [cRead (N + 1) (T + 7) (B.rd x.a0) 3 4 x.a3 x.a4 x.ts x.buf x.tb p tp (T + 6) hr,
        cEqS ⟨⟨[c]⟩⟩ tr (S [10]) (T + (7 + jr + 1)) false h1 (N + (1 + gr)) (T + (7 + jr + 2)),
        cEqS ⟨⟨[qc]⟩⟩ tst (S [32]) (T + (7 + jr + 6)) false h2 (N + (1 + gr)) (T + (7 + jr + 7)),
        cIn1 z48 (x.tl 8) qc tst true h3 (N + (1 + gr)) (T + (7 + jr + 9)),
        cEqS ⟨⟨[c]⟩⟩ tr ⟨⟨[qc]⟩⟩ tst false h4 (N + (1 + gr)) (T + (7 + jr + 13)),
        cIn1 (S [92]) (x.tl 9) c tr false h5 (N + (1 + gr)) (T + (7 + jr + 15)),
        cAddS ha]
      (gLx B x.a0) pos .base (tden (gLx B x.a0).code) (x.lt4 (PF w.params b1 b2) q nc tn (.str ⟨⟨[qc]⟩⟩ tst) tok tt p tp) 5 0 0 G ck0
    (R.outC [0, 1, 2, 3, 4], R.lhs) = ((none, some (gLx B x.a0, .base, tden (gLx B x.a0).code, 1 + gr, 7 + jr + 16 + ja + 2, G, (x.os4 (PF w.params b1 b2) true ⟨⟨[c]⟩⟩ tr (.str ⟨⟨[qc]⟩⟩ tst) (tok ++ ⟨⟨[c]⟩⟩) ta ((p : Int) + 1) tp'))), R.rhs) := by
  walk_at "r"
end
/-- the lexer's loop, plainly -/
inductive Ls where
  | a
  | q (k : Nat)
noncomputable def lx : Ls → Bool → List Nat → List Nat → Option (List Nat × Bool × Bool × List Nat)
  | .a, q, tok, [] => some (tok, q, true, [])
  | .q _, _, _, [] => none
  | .a, q, tok, c :: r => if c = 32 then (if tok = [] then none else some (tok, q, false, r)) else if c ∈ [9, 13, 10, 92] then none else if c ∈ [39, 34] then lx (.q c) q tok r else lx .a q (tok ++ [c]) r
  | .q k, _, tok, c :: r => if c = 10 ∨ c = 92 then none else if c = k then lx .a true tok r else lx (.q k) true (tok ++ [c]) r
theorem rep_next {h₀ h : Heap} {U : List Addr} {N m : Nat} {L L' : LT} (D : Rep h₀ h U N L' m) (hL : ∀ x ∈ L.entries, L'.get x.1 = some x.2) : Rep h₀ h U (N + m) L 0 :=
  D.anew (fun i a o e => ⟨i, hL _ (LT.mem_entries L i a o e)⟩) fun i j a o o' e1 e2 => D.inj i j a o o' (hL _ (LT.mem_entries L i a o e1)) (hL _ (LT.mem_entries L j a o' e2))
theorem rep_next5 {h₀ h : Heap} {U : List Addr} {N m : Nat} {L' : LT} {a0 a1 a2 a3 a4 : Addr} {o0 o1 o2 o3 o4 : Obj} (D : Rep h₀ h U N L' m)
    (ho : [0, 1, 2, 3, 4].map L'.get = [some (a0, o0), some (a1, o1), some (a2, o2), some (a3, o3), some (a4, o4)]) : Rep h₀ h U (N + m) (lt5 a0 o0 a1 o1 a2 o2 a3 o3 a4 o4) 0 := by
  simp only [List.map_cons, List.map_nil, List.cons.injEq, and_true] at ho
  obtain ⟨h0, h1, h2, h3, h4⟩ := ho
  refine rep_next D fun x hx => ?_
  have e : (lt5 a0 o0 a1 o1 a2 o2 a3 o3 a4 o4).entries = [(0, a0, o0), (1, a1, o1), (3, a3, o3), (2, a2, o2), (4, a4, o4)] := rfl
  rw [e] at hx
  simp only [List.mem_cons, List.not_mem_nil, or_false] at hx
  rcases hx with rfl | rfl | rfl | rfl | rfl <;> assumption
noncomputable abbrev stV : Ls → Tok → Value
  | .a, t => .str sA t
  | .q k, t => .str ⟨⟨[k]⟩⟩ t
noncomputable abbrev enV (eof : Bool) (t : Tok) : Value := bif eof then .none else .str (S [32]) t
section
variable {w : World} {b1 b2 : Bool} {B : BLex} {x : LxP} {h₀ : Heap} {U : List Addr} {d : Drawn} {os : OsState} {R : Result → Shared → Prop} {G : List GenState}
theorem at_of_drop {buf : Str} {p c : Nat} {r : List Nat} (h : buf.cps.toList.drop p = c :: r) : buf.cps[p]? = some c ∧ buf.cps.toList.drop (p + 1) = r ∧ p < buf.length := by
  have h1 : buf.cps.toList[p]? = some c := by
    have := congrArg (fun l => l[0]?) h
    simpa [List.getElem?_drop] using this
  have h2 : buf.cps[p]? = some c := by rw [← Array.getElem?_toList]; exact h1
  refine ⟨h2, ?_, (Array.getElem?_eq_some_iff.mp h2).1⟩
  rw [← List.tail_drop, h]; rfl
theorem loopLx (t : Told w b1 b2) (O : ∀ N T, Ok (svW w b1 b2 N T) w (tpW w b1 b2) h₀ U) (hb1 : x.buf.length ≠ 1) (hb2 : x.buf.length < 1000000) :
    ∀ (cs : List Nat) (st : Ls) (q : Bool) (tok : List Nat) (p N T : Nat) (nc : Str) (tn tst tt tp : Tok) (pos : Pos) (h : Heap) (tok' : List Nat) (q' eof : Bool) (rest : List Nat),
      x.buf.cps.toList.drop p = cs → p ≤ x.buf.length → (∀ k, st = .q k → k ∈ [39, 34]) → tok.length ≤ p → lx st q tok cs = some (tok', q', eof, rest) →
      Rep h₀ h U N (x.lt4 (PF w.params b1 b2) q nc tn (stV st tst) ⟨⟨tok⟩⟩ tt p tp) 0 →
      (∀ (h' : Heap) (N' T' : Nat) (nc' : Str) (tn' tst' tt' tp' : Tok) (p' : Nat), x.buf.cps.toList.drop p' = rest → p' ≤ x.buf.length → Rep h₀ h' U N' (x.lt4 (PF w.params b1 b2) q' nc' tn' (enV eof tst') ⟨⟨tok'⟩⟩ tt' p' tp') 0 → R (.ok .next) ⟨h', ⟨G⟩, d, T', os⟩) →
      wpCode (mdl w) (gLx B x.a0) R pos ⟨h, ⟨G⟩, d, T, os⟩ := by
  intro cs
  induction cs with
  | nil =>
    intro st q tok p N T nc tn tst tt tp pos h tok' q' eof rest hcs hp hq hlen hlx D k
    cases st with
    | q k' => simp [lx] at hlx
    | a =>
      simp only [lx, Option.some.injEq, Prod.mk.injEq] at hlx
      obtain ⟨rfl, rfl, rfl, rfl⟩ := hlx
      have he : x.buf.length = p := by
        have h1 := congrArg List.length hcs
        simp only [List.length_drop, List.length_nil, Array.length_toList] at h1
        have : x.buf.length = x.buf.cps.size := rfl
        omega
      obtain ⟨tr, gr, jr, hr⟩ := rd_end (w := w) (b1 := b1) (b2 := b2) (N + 1) (T + 7) (B.rd x.a0) 3 4 x.a3 x.a4 x.ts x.buf x.tb p tp (T + 6) t (by decide) he (by omega)
      refine wpCode_run (O N T) (owes_fin (A6_run w b1 b2 N T B x hr) fun h' L' D' ho => ?_) D
      exact k h' _ _ _ _ 0 _ _ p hcs hp (rep_next5 D' ho)
  | cons c r ih =>
    intro st q tok p N T nc tn tst tt tp pos h tok' q' eof rest hcs hp hq hlen hlx D k
    obtain ⟨hc, hr', hlt⟩ := at_of_drop hcs
    obtain ⟨tr, tp', gr, jr, hr⟩ := rd_sign (w := w) (b1 := b1) (b2 := b2) (N + 1) (T + 7) (B.rd x.a0) 3 4 x.a3 x.a4 x.ts x.buf x.tb p tp (T + 6) t (by decide) hc hb1 (by omega)
    have hadd : (Str.mk ⟨tok⟩ ++ Str.mk ⟨[c]⟩) = Str.mk ⟨tok ++ [c]⟩ := by
      show Str.mk (Array.append ⟨tok⟩ ⟨[c]⟩) = _
      congr 1
      apply Array.ext'
      simp
    have hsz : (Str.mk ⟨tok⟩ ++ Str.mk ⟨[c]⟩).length ≤ sizeLine := by
      rw [hadd]
      show (tok ++ [c]).length ≤ 2 ^ 24
      simp
      omega
    cases st with
    | a =>
      simp only [lx] at hlx
      by_cases h32 : c = 32
      · subst h32
        rw [if_pos rfl] at hlx
        split at hlx
        · cases hlx
        · rename_i hne
          simp only [Option.some.injEq, Prod.mk.injEq] at hlx
          obtain ⟨rfl, rfl, rfl, rfl⟩ := hlx
          obtain ⟨lk, hlk⟩ : ∃ lk, tok.length = lk + 1 := ⟨tok.length - 1, by have : tok.length ≠ 0 := fun z => hne (List.eq_nil_of_length_eq_zero z); omega⟩
          have hk : (((Str.mk ⟨tok⟩).length : Nat) : Int) = Int.ofNat (lk + 1) := by show ((tok.length : Nat) : Int) = _; rw [hlk]; rfl
          have hk2 : Int.ofNat (lk + 1) < 2 ^ 63 := by
            show ((lk + 1 : Nat) : Int) < 2 ^ 63
            omega
          refine wpCode_run (O N T) (owes_fin (A7_run w b1 b2 N T B x hr (by decide) (by decide) hk hk2) fun h' L' D' ho => ?_) D
          exact k h' _ _ _ _ _ _ _ (p + 1) hr' (by omega) (rep_next5 D' ho)
      · rw [if_neg h32] at hlx
        split at hlx
        · cases hlx
        · rename_i hbad
          have hb : c ≠ 9 ∧ c ≠ 13 ∧ c ≠ 10 ∧ c ≠ 92 := by simpa using hbad
          have e1 : ([c] == [10]) = false := by simp [hb.2.2.1]
          have e2 : decide (c ∈ [32, 9, 13, 10]) = false := by simp [h32, hb]
          split at hlx
          · rename_i hqu
            refine wpCode_run (O N T) (owes_cut (A8_run w b1 b2 N T B x hr e1 e2 (by simp) (by simpa using hqu)) fun h' L' p' D' ho => wpCode_means ?_) D
            exact ih (.q c) q tok (p + 1) _ _ _ _ _ _ _ p' h' tok' q' eof rest hr' (by omega) (fun k' e => by cases e; exact hqu) (by omega) hlx (rep_next5 D' ho) k
          · rename_i hqu
            have e4 : decide (c ∈ [39, 34]) = false := by simpa using hqu
            have e5 : decide (c ∈ [92]) = false := by simp [hb]
            by_cases hwd : c ∈ wordS.cps.toList
            · obtain ⟨ta, ja, ha⟩ := addOk w ⟨⟨tok⟩⟩ tt ⟨⟨[c]⟩⟩ tr (N + (1 + gr + 1)) (T + (7 + jr + 26)) (by show (1 : Nat) ≠ 0; decide) hsz
              refine wpCode_run (O N T) (owes_cut (A9_run w b1 b2 N T B x hr e1 e2 (by simp) e4 e5 (by simpa using hwd) ha) fun h' L' p' D' ho => wpCode_means ?_) D
              rw [hadd] at ho
              exact ih .a q (tok ++ [c]) (p + 1) _ _ _ _ _ _ _ p' h' tok' q' eof rest hr' (by omega) (fun k' e => by cases e) (by simp; omega) hlx (rep_next5 D' ho) k
            · obtain ⟨ta, ja, ha⟩ := addOk w ⟨⟨tok⟩⟩ tt ⟨⟨[c]⟩⟩ tr (N + (1 + gr + 2)) (T + (7 + jr + 31)) (by show (1 : Nat) ≠ 0; decide) hsz
              refine wpCode_run (O N T) (owes_cut (A10_run w b1 b2 N T B x hr e1 e2 (by simp) e4 e5 (by simpa using hwd) e4 (by simp) ha) fun h' L' p' D' ho => wpCode_means ?_) D
              rw [hadd] at ho
              exact ih .a q (tok ++ [c]) (p + 1) _ _ _ _ _ _ _ p' h' tok' q' eof rest hr' (by omega) (fun k' e => by cases e) (by simp; omega) hlx (rep_next5 D' ho) k
    | q kq =>
      have hk := hq kq rfl
      have hk' : kq = 39 ∨ kq = 34 := by simpa using hk
      simp only [lx] at hlx
      split at hlx
      · cases hlx
      · rename_i hbad
        have hb : c ≠ 10 ∧ c ≠ 92 := by simpa using hbad
        have e1 : ([c] == [10]) = false := by simp [hb.1]
        have e2 : ([kq] == [32]) = false := by rcases hk' with rfl | rfl <;> decide
        have e3 : decide (kq ∈ [39, 34]) = true := by simpa using hk
        split at hlx
        · rename_i hck
          subst hck
          refine wpCode_run (O N T) (owes_cut (Q11_run w b1 b2 N T B x hr e1 e2 e3 (by simp)) fun h' L' p' D' ho => wpCode_means ?_) D
          exact ih .a true tok (p + 1) _ _ _ _ _ _ _ p' h' tok' q' eof rest hr' (by omega) (fun k' e => by cases e) (by omega) hlx (rep_next5 D' ho) k
        · rename_i hck
          obtain ⟨ta, ja, ha⟩ := addOk w ⟨⟨tok⟩⟩ tt ⟨⟨[c]⟩⟩ tr (N + (1 + gr)) (T + (7 + jr + 16)) (by show (1 : Nat) ≠ 0; decide) hsz
          refine wpCode_run (O N T) (owes_cut (Q12_run w b1 b2 N T B x hr e1 e2 e3 (by simp [hck]) (by simp [hb]) ha) fun h' L' p' D' ho => wpCode_means ?_) D
          rw [hadd] at ho
          exact ih (.q kq) true (tok ++ [c]) (p + 1) _ _ _ _ _ _ _ p' h' tok' q' eof rest hr' (by omega) (fun k' e => by cases e; exact hk) (by simp; omega) hlx (rep_next5 D' ho) k
end
/-- behind a call -/
noncomputable def contOf (t : Sem Fin) (r : Result) : Sem Fin := match t with
  | .call _ _ _ _ k => k r
  | t => t
noncomputable def codeOf (t : Sem Fin) : Option Code := match t with
  | .call c h _ _ _ => match h with
    | none => some c
    | some _ => none
  | _ => none
noncomputable def Res.outK (obs : List Nat) (r : Res) : Option Result × Option (Ctx × Nat × Nat × List GenState × List (Option (Addr × Obj))) :=
  (r.r?, r.st?.bind fun st => (codeOf st.t).map fun c => (⟨c, st.Γ.handled, st.Γ.own, (st.Γ.code, st.p) :: st.Γ.below, st.Γ.past⟩, st.m, st.i, st.G, obs.map st.L.get))
/-- what is asked behind the call -/
noncomputable def Res.Kont (M : Model) (R : Result → Shared → Prop) (r : Res) : Result → Shared → Prop := fun rr s => match r.st? with
  | some st => Means M R st.Γ st.p st.κ (contOf st.t rr) s
  | none => False
/-- the run behind the call -/
noncomputable def Res.next {M : Model} {tp : Nat → Option Obj} (r : Res) (rr : Result) (V : Sv) (n : Nat) (ms : List Nat) (xs : List (Ctr M tp)) (L : LT) (cnt : Nat) (G : List GenState) : Res := match r.st? with
  | some st => sim V n ms xs st.Γ st.p st.κ (contOf st.t rr) L cnt 0 0 G ck0
  | none => .stop 60
theorem codeOf_call {t : Sem Fin} {c : Code} (h : codeOf t = some c) : ∃ g l k, t = .call c none g l k := by
  cases t with
  | call c' hd g l k =>
    cases hd with
    | none => cases h; exact ⟨g, l, k, rfl⟩
    | some _ => cases h
  | _ => cases h
section
variable {V : Sv} {w : World} {tp : Nat → Option Obj} {h₀ : Heap} {U : List Addr} {d : Drawn} {os : OsState} {R : Result → Shared → Prop}
theorem owes_call {r : Res} {obs : List Nat} {Γ : Ctx} {g j : Nat} {G : List GenState} {objs : List (Option (Addr × Obj))} (e : (r.outK obs, r.lhs) = ((none, some (Γ, g, j, G, objs)), r.rhs))
    (k : ∀ h L p, Rep h₀ h U V.N L g → obs.map L.get = objs → wpCode (mdl w) Γ (r.Kont (mdl w) R) p ⟨h, ⟨G⟩, d, V.T + j, os⟩) : r.Owes V w h₀ U d os R := by
  have e1 := congrArg Prod.fst e
  have gd := good_of (congrArg Prod.snd e)
  cases r with
  | stop => cases congrArg Prod.snd e1
  | fin v' st ck => cases congrArg Prod.fst e1
  | cut st ck =>
    have a1 : (codeOf st.t).map (fun c => ((⟨c, st.Γ.handled, st.Γ.own, (st.Γ.code, st.p) :: st.Γ.below, st.Γ.past⟩ : Ctx), st.m, st.i, st.G, obs.map st.L.get)) = some (Γ, g, j, G, objs) := congrArg Prod.snd e1
    obtain ⟨c, hc, a2⟩ := Option.map_eq_some_iff.mp a1
    obtain ⟨g', l, kk, ht⟩ := codeOf_call hc
    have c1 : (⟨c, st.Γ.handled, st.Γ.own, (st.Γ.code, st.p) :: st.Γ.below, st.Γ.past⟩ : Ctx) = Γ := congrArg (fun x => x.1) a2
    have b1 : st.m = g := congrArg (fun x => x.2.1) a2
    have b2 : st.i = j := congrArg (fun x => x.2.2.1) a2
    have b3 : st.G = G := congrArg (fun x => x.2.2.2.1) a2
    have b4 : obs.map st.L.get = objs := congrArg (fun x => x.2.2.2.2) a2
    subst c1 b1 b2 b3
    refine ⟨gd, fun h D => ?_⟩
    have z := k h _ st.p D b4
    rw [ht]
    refine means_call (wpCode_mono (fun rr s' q => ?_) z)
    have q' : Means (mdl w) R st.Γ st.p st.κ (contOf st.t rr) s' := q
    rw [ht] at q'
    exact q'
theorem kont_run {r : Res} {rr : Result} {n : Nat} {ms : List Nat} {xs : List (Ctr (mdl w) tp)} {L : LT} {cnt : Nat} {G : List GenState} {h : Heap} (O : Ok V w tp h₀ U)
    (o : (r.next rr V n ms xs L cnt G).Owes V w h₀ U d os R) (D : Rep h₀ h U V.N L 0) : r.Kont (mdl w) R rr ⟨h, ⟨G⟩, d, V.T, os⟩ := by
  cases r with
  | stop => cases o
  | fin v st ck => exact sim_sound O n ms xs _ _ _ _ L cnt 0 0 G ck0 o h D
  | cut st ck => exact sim_sound O n ms xs _ _ _ _ L cnt 0 0 G ck0 o h D
end
section
variable {V : Sv} {w : World} {tp : Nat → Option Obj} {h₀ h h' : Heap} {U U' : List Addr} {N N' m m' : Nat} {L L' L2 : LT}
theorem Rep.enter (D : Rep h₀ h U N L m) (hL : ∀ x ∈ L'.entries, ∃ j, L.get j = some x.2) (hU : ∀ x ∈ L'.entries, x.2.1 ∈ U') (hi : ∀ x ∈ L'.entries, ∀ y ∈ L'.entries, x.2.1 = y.2.1 → x.1 = y.1) : Rep h h U' (N + m) L' 0 := by
  refine ⟨Nat.le_trans D.lo (Nat.le_add_right ..), Nat.le_of_eq D.size, D.size, fun i a o e => ?_, fun i j a o o' e1 e2 => ?_, fun b o e _ => e⟩
  · have hm := LT.mem_entries L' i a o e
    obtain ⟨j, hj⟩ := hL _ hm
    exact ⟨(D.own j a o hj).1, (D.own j a o hj).2.1, .inl (hU _ hm)⟩
  · exact hi _ (LT.mem_entries L' i a o e1) _ (LT.mem_entries L' j a o' e2) rfl
theorem Ok.enter (O : Ok V w tp h₀ U) (hk : ∀ a o, tp a = some o → a < 922 ∧ a ≠ 882) (D : Rep h₀ h U N L m) (hU : ∀ a ∈ U', ∃ i o, L.get i = some (a, o)) (V' : Sv) (hV : V'.P = V.P) : Ok V' w tp h U' := by
  refine ⟨O.ask.trans hV.symm, fun a o e => ⟨D.keep a o (O.top a o e).1 (O.top a o e).2, fun hm => ?_⟩⟩
  obtain ⟨i, o', hi⟩ := hU a hm
  rcases (D.own i a o' hi).2.1 with q | q
  · exact absurd (hk a o e).1 (Nat.not_lt.mpr q)
  · exact (hk a o e).2 q
/-- and back -/
theorem Rep.afterG (D : Rep h₀ h U N L m) (D' : Rep h h' U' N' L' m') (hU : ∀ a ∈ U', ∃ i o, L.get i = some (a, o))
    (hL2 : ∀ i a o, L2.get i = some (a, o) → ∃ o₁, L.get i = some (a, o₁) ∧ ((a ∉ U' ∧ o = o₁) ∨ ∃ j, L'.get j = some (a, o))) : Rep h₀ h' U (N' + m') L2 0 := by
  have hh : h.objs.size = N + m := D.size
  refine ⟨Nat.le_trans D'.lo (Nat.le_add_right ..), ?_, D'.size, fun i a o e => ?_, fun i j a o o' e1 e2 => ?_, fun b o e q => ?_⟩
  · exact Nat.le_trans D.base (Nat.le_trans (Nat.le_add_right N m) (Nat.le_trans (Nat.le_of_eq hh.symm) (Nat.le_trans D'.base (Nat.le_add_right ..))))
  · obtain ⟨o₁, h1, h2⟩ := hL2 i a o e
    have d := D.own _ _ _ h1
    refine ⟨?_, d.2⟩
    rcases h2 with ⟨hn, ho⟩ | ⟨j, hj⟩
    · subst ho
      exact D'.keep _ _ d.1 hn
    · exact (D'.own _ _ _ hj).1
  · obtain ⟨o₁, h1, _⟩ := hL2 i a o e1
    obtain ⟨o₂, h2, _⟩ := hL2 j a o' e2
    exact D.inj i j a o₁ o₂ h1 h2
  · refine D'.keep b o (D.keep b o e q) fun hm => ?_
    obtain ⟨i, o', hi⟩ := hU b hm
    rcases (D.own i b o' hi).2.2 with z | z
    · exact q z
    · exact absurd (Heap.lt_size e) (Nat.not_lt.mpr z)
theorem Rep.after (D : Rep h₀ h U N L m) (D' : Rep h h' U' N' L' m') (hU : ∀ a ∈ U', ∃ i o, L.get i = some (a, o))
    (hL2 : ∀ x ∈ L2.entries, ∃ o₁, L.get x.1 = some (x.2.1, o₁) ∧ ((x.2.1 ∉ U' ∧ x.2.2 = o₁) ∨ ∃ j, L'.get j = some x.2)) : Rep h₀ h' U (N' + m') L2 0 :=
  D.afterG D' hU fun i a o e => hL2 _ (LT.mem_entries L2 i a o e)
end
section
variable {V : Sv} {w : World} {tp : Nat → Option Obj} {h₀ h h' : Heap} {U U' : List Addr} {N N' m m' : Nat} {L L' L2 : LT}
theorem Rep.enterBy (f : Nat → Nat) (D : Rep h₀ h U N L m) (hL : ∀ x ∈ L'.entries, L.get (f x.1) = some x.2) (hU : ∀ x ∈ L'.entries, x.2.1 ∈ U') (hf : ∀ x ∈ L'.entries, ∀ y ∈ L'.entries, f x.1 = f y.1 → x.1 = y.1) : Rep h h U' (N + m) L' 0 :=
  D.enter (fun x hx => ⟨_, hL x hx⟩) hU fun x hx y hy q => hf x hx y hy (D.inj _ _ x.2.1 x.2.2 y.2.2 (hL x hx) (q ▸ hL y hy))
theorem Rep.afterBy (J : List Nat) (D : Rep h₀ h U N L m) (D' : Rep h h' U' N' L' m') (hU : ∀ a ∈ U', ∃ j ∈ J, ∃ o, L.get j = some (a, o))
    (hL2 : ∀ x ∈ L2.entries, ∃ o₁, L.get x.1 = some (x.2.1, o₁) ∧ ((x.1 ∉ J ∧ x.2.2 = o₁) ∨ ∃ j, L'.get j = some x.2)) : Rep h₀ h' U (N' + m') L2 0 := by
  refine D.after D' (fun a ha => by obtain ⟨j, _, o, e⟩ := hU a ha; exact ⟨j, o, e⟩) fun x hx => ?_
  obtain ⟨o₁, h1, h2⟩ := hL2 x hx
  refine ⟨o₁, h1, h2.imp (fun ⟨a, b⟩ => ⟨fun hm => ?_, b⟩) id⟩
  obtain ⟨j, hj, o, e⟩ := hU _ hm
  exact a (D.inj _ _ _ _ _ h1 e ▸ hj)
theorem Rep.afterByG (J : List Nat) (D : Rep h₀ h U N L m) (D' : Rep h h' U' N' L' m') (hU : ∀ a ∈ U', ∃ j ∈ J, ∃ o, L.get j = some (a, o))
    (hL2 : ∀ i a o, L2.get i = some (a, o) → ∃ o₁, L.get i = some (a, o₁) ∧ ((i ∉ J ∧ o = o₁) ∨ ∃ j, L'.get j = some (a, o))) : Rep h₀ h' U (N' + m') L2 0 := by
  refine D.afterG D' (fun a ha => by obtain ⟨j, _, o, e⟩ := hU a ha; exact ⟨j, o, e⟩) fun i a o ei => ?_
  obtain ⟨o₁, h1, h2⟩ := hL2 i a o ei
  refine ⟨o₁, h1, h2.imp (fun ⟨p, b⟩ => ⟨fun hm => ?_, b⟩) id⟩
  obtain ⟨j, hj, o, e⟩ := hU _ hm
  exact p (D.inj _ _ _ _ _ h1 e ▸ hj)
end
/-- a frame that knows self alone -/
noncomputable abbrev fr1 (P : Params) (tk : Tok) (al : Addr) : Obj := (fO 1 [dk P z53 tk (.ref al)])
noncomputable abbrev dqO : Obj := ⟨.type "collections.deque", none, .fields ⟨[.none, .int 0 0]⟩, #[]⟩
noncomputable abbrev gtE (a : Addr) : Env := ⟨T.f829.1.2.2, a, 3, [], S [115, 104, 108, 101, 120, 46, 103, 101, 116, 95, 116, 111, 107, 101, 110, 46, 60, 108, 111, 99, 97, 108, 115, 62, 46], some 829, .ref 828, some a, 0⟩
noncomputable abbrev nxE (a : Addr) : Env := ⟨T.f865.1.2.2, a, 3, [], S [115, 104, 108, 101, 120, 46, 95, 95, 110, 101, 120, 116, 95, 95, 46, 60, 108, 111, 99, 97, 108, 115, 62, 46], some 865, .ref 864, some a, 0⟩
noncomputable abbrev lt8 (a0 : Addr) (o0 : Obj) (a1 : Addr) (o1 : Obj) (a2 : Addr) (o2 : Obj) (a3 : Addr) (o3 : Obj) (a4 : Addr) (o4 : Obj) (a5 : Addr) (o5 : Obj) (a6 : Addr) (o6 : Obj) (a7 : Addr) (o7 : Obj) : LT :=
  .node a0 o0 (.node a1 o1 (.node a3 o3 (.node a7 o7 .nil .nil) .nil) (.node a5 o5 .nil .nil)) (.node a2 o2 (.node a4 o4 .nil .nil) (.node a6 o6 .nil .nil))
/-- who stands below __next__ -/
structure BNx where
  x4 : BA
  x5 : BA
  x6 : BV
  x7 : BV
noncomputable abbrev BNx.list (b : BNx) : List (Code × Pos) := [(.builtin "list.extend.loop" ⟨b.x4.a, b.x4.k⟩, b.x4.p), (.builtin "type.__call__" ⟨.type "list" :: b.x5.a, b.x5.k⟩, b.x5.p), fr b.x6, fr b.x7, callerB]
noncomputable abbrev BNx.lex (b : BNx) (N : Nat) : BLex := ⟨⟨T.f836.1.2.1, rtE (N + 2), ⟨734, 8, 856, 32⟩⟩, ⟨T.f829.1.2.1, gtE (N + 1), ⟨710, 14, 710, 31⟩⟩, ⟨T.f865.1.2.1, nxE N, ⟨882, 16, 882, 32⟩⟩, b.x4, b.x5, b.x6, b.x7⟩
noncomputable abbrev cNx (al : Addr) : Code := .call (.ref 865) ⟨[.ref al], []⟩
noncomputable abbrev gNx (B : BNx) (al : Addr) : Ctx := ⟨cNx al, none, none, B.list, none⟩
/-- the lexer and its stream -/
structure NxP where
  al : Addr
  ad : Addr
  ao : Addr
  as : Addr
  pb : Addr
  fs : Addr
  tl : Nat → Tok
  ts : Nat → Tok
  buf : Str
  tb : Tok
noncomputable abbrev NxP.lt (y : NxP) (P : Params) (st : Value) (tok : Str) (tt : Tok) (p : Int) (tp : Tok) : LT :=
  lt5 y.al (lexO y.ad) y.ad (lexD P y.tl y.ao y.pb y.fs st tok tt) y.ao (sioO y.as) y.as (sioD P y.ts y.buf y.tb p tp) y.pb dqO
noncomputable abbrev NxP.os5 (y : NxP) (P : Params) (st : Value) (tok : Str) (tt : Tok) (p : Int) (tp : Tok) : List (Option (Addr × Obj)) :=
  [some (y.al, lexO y.ad), some (y.ad, lexD P y.tl y.ao y.pb y.fs st tok tt), some (y.ao, sioO y.as), some (y.as, sioD P y.ts y.buf y.tb p tp), some (y.pb, dqO)]
noncomputable abbrev tf3 (T : Nat) : Nat → Tok
  | 0 => T + 5
  | 1 => T + 6
  | _ => T + 8
noncomputable abbrev NxP.lx (y : NxP) (N T : Nat) (tf : Nat → Tok) : LxP := ⟨N + 2, y.al, y.ad, y.ao, y.as, y.pb, y.fs, tf, y.tl, y.ts, T + 7, y.buf, y.tb⟩
noncomputable abbrev NxP.lt8 (y : NxP) (P : Params) (N T : Nat) (fr : Obj) (st : Value) (tok : Str) (tt : Tok) (p : Int) (tp : Tok) : LT :=
  Mine.lt8 y.al (lexO y.ad) y.ad (lexD P y.tl y.ao y.pb y.fs st tok tt) y.ao (sioO y.as) y.as (sioD P y.ts y.buf y.tb p tp) y.pb dqO N (fr1 P T y.al) (N + 1) (fr1 P (T + 1) y.al) (N + 2) fr
noncomputable abbrev msNx1 : List Nat := (dg 76 0x8888088000021000010001000175505055201100010000170770000210000100010001606600)
noncomputable abbrev nNx1 : Nat := 131
noncomputable abbrev msNx2u : List Nat := (dg 138 0x600201100010000166667020110001000017002011000100001770201100010000177780201100010000181882011000100001822201000101010000188820110001000018)
noncomputable abbrev nNx2u : Nat := 254
noncomputable abbrev msNx2q : List Nat := (dg 136 0x6002011000100001666670201100010000170020110001000017702011000100001777802011000100001882011000100001822201000101010000188820110001000018)
noncomputable abbrev nNx2q : Nat := 248
section
variable (w : World) (b1 b2 : Bool) (N T : Nat) (B : BNx) (y : NxP)
/-- from the call to the loop -/
noncomputable def nx1 (pos : Pos) (G : List GenState) (st : Value) (tok : Str) (tt : Tok) (p : Int) (tp : Tok) : Res :=
  sim (M := mdl w) (tp := tpW w b1 b2) (svW w b1 b2 N T) nNx1 msNx1 [] (gNx B y.al) pos .base (tden (gNx B y.al).code) (y.lt (PF w.params b1 b2) st tok tt p tp) 5 0 0 G ck0
theorem nx1_run (pos : Pos) (G : List GenState) (st : Value) (tok : Str) (tt : Tok) (p : Int) (tp : Tok) :
    ((nx1 w b1 b2 N T B y pos G st tok tt p tp).outK [0, 1, 2, 3, 4, 5, 6, 7], (nx1 w b1 b2 N T B y pos G st tok tt p tp).lhs) =
      ((none, some (gLx (B.lex N) (N + 2), 3, 9, G, y.os5 (PF w.params b1 b2) st tok tt p tp ++ [some (N, fr1 (PF w.params b1 b2) T y.al), some (N + 1, fr1 (PF w.params b1 b2) (T + 1) y.al), some (N + 2, rtF3 (PF w.params b1 b2) (tf3 T) y.al false (T + 7))])), (nx1 w b1 b2 N T B y pos G st tok tt p tp).rhs) := by
  walk_at "r"
theorem nx2q_run (pos : Pos) (G : List GenState) (st0 : Value) (tok0 : Str) (tt0 : Tok) (p0 : Int) (tp0 : Tok) (N2 T2 : Nat) (tf : Nat → Tok) (nc : Str) (tn : Tok) (st : Value) (tok : Str) (tt : Tok) (p : Int) (tp : Tok) :
    let R := (nx1 w b1 b2 N T B y pos G st0 tok0 tt0 p0 tp0).next (M := mdl w) (tp := tpW w b1 b2) (.ok .next) (svW w b1 b2 N2 T2) nNx2q msNx2q [] (y.lt8 (PF w.params b1 b2) N T (rtF4 (PF w.params b1 b2) tf y.al true (T + 7) nc tn) st tok tt p tp) 8 G
    (R.out [0, 1, 2, 3, 4], R.lhs) = ((some (.ok (.ret (.str tok tt))), some (0, 15, G, y.os5 (PF w.params b1 b2) st (S []) (T2 + 2) p tp)), R.rhs) := by
  walk_at "r"
theorem nx2u_run (pos : Pos) (G : List GenState) (st0 : Value) (tok0 : Str) (tt0 : Tok) (p0 : Int) (tp0 : Tok) (N2 T2 : Nat) (tf : Nat → Tok) (nc : Str) (tn : Tok) (st : Value) (tok : Str) (tt : Tok) (p : Int) (tp : Tok) (h : (tok.cps.toList == []) = false) :
    let R := (nx1 w b1 b2 N T B y pos G st0 tok0 tt0 p0 tp0).next (M := mdl w) (tp := tpW w b1 b2) (.ok .next) (svW w b1 b2 N2 T2) nNx2u msNx2u [cEqS tok tt (S []) (T2 + 6) false h N2 (T2 + 7)] (y.lt8 (PF w.params b1 b2) N T (rtF4 (PF w.params b1 b2) tf y.al false (T + 7) nc tn) st tok tt p tp) 8 G
    (R.out [0, 1, 2, 3, 4], R.lhs) = ((some (.ok (.ret (.str tok tt))), some (0, 16, G, y.os5 (PF w.params b1 b2) st (S []) (T2 + 2) p tp)), R.rhs) := by
  walk_at "r"
end
/-- a word's first sign -/
noncomputable def lx1 : List Nat → Option (List Nat × Bool × Bool × List Nat)
  | [] => none
  | c :: r => if c ∈ [32, 9, 13, 10, 92] then none else if c ∈ [39, 34] then lx (.q c) false [] r else lx .a false [c] r
section
variable {a0 a1 a2 a3 a4 a5 a6 a7 : Addr} {o0 o1 o2 o3 o4 o5 o6 o7 : Obj}
theorem lt8_g0 : (lt8 a0 o0 a1 o1 a2 o2 a3 o3 a4 o4 a5 o5 a6 o6 a7 o7).get 0 = some (a0, o0) := rfl
theorem lt8_g1 : (lt8 a0 o0 a1 o1 a2 o2 a3 o3 a4 o4 a5 o5 a6 o6 a7 o7).get 1 = some (a1, o1) := rfl
theorem lt8_g2 : (lt8 a0 o0 a1 o1 a2 o2 a3 o3 a4 o4 a5 o5 a6 o6 a7 o7).get 2 = some (a2, o2) := rfl
theorem lt8_g3 : (lt8 a0 o0 a1 o1 a2 o2 a3 o3 a4 o4 a5 o5 a6 o6 a7 o7).get 3 = some (a3, o3) := rfl
theorem lt8_g4 : (lt8 a0 o0 a1 o1 a2 o2 a3 o3 a4 o4 a5 o5 a6 o6 a7 o7).get 4 = some (a4, o4) := rfl
theorem lt8_g5 : (lt8 a0 o0 a1 o1 a2 o2 a3 o3 a4 o4 a5 o5 a6 o6 a7 o7).get 5 = some (a5, o5) := rfl
theorem lt8_g6 : (lt8 a0 o0 a1 o1 a2 o2 a3 o3 a4 o4 a5 o5 a6 o6 a7 o7).get 6 = some (a6, o6) := rfl
theorem lt8_g7 : (lt8 a0 o0 a1 o1 a2 o2 a3 o3 a4 o4 a5 o5 a6 o6 a7 o7).get 7 = some (a7, o7) := rfl
theorem lt5_g0 : (lt5 a0 o0 a1 o1 a2 o2 a3 o3 a4 o4).get 0 = some (a0, o0) := rfl
theorem lt5_g1 : (lt5 a0 o0 a1 o1 a2 o2 a3 o3 a4 o4).get 1 = some (a1, o1) := rfl
theorem lt5_g2 : (lt5 a0 o0 a1 o1 a2 o2 a3 o3 a4 o4).get 2 = some (a2, o2) := rfl
theorem lt5_g3 : (lt5 a0 o0 a1 o1 a2 o2 a3 o3 a4 o4).get 3 = some (a3, o3) := rfl
theorem lt5_g4 : (lt5 a0 o0 a1 o1 a2 o2 a3 o3 a4 o4).get 4 = some (a4, o4) := rfl
end
theorem rep_next8 {h₀ h : Heap} {U : List Addr} {N m : Nat} {L' : LT} {a0 a1 a2 a3 a4 a5 a6 a7 : Addr} {o0 o1 o2 o3 o4 o5 o6 o7 : Obj} (D : Rep h₀ h U N L' m)
    (ho : [0, 1, 2, 3, 4, 5, 6, 7].map L'.get = [some (a0, o0), some (a1, o1), some (a2, o2), some (a3, o3), some (a4, o4), some (a5, o5), some (a6, o6), some (a7, o7)]) : Rep h₀ h U (N + m) (lt8 a0 o0 a1 o1 a2 o2 a3 o3 a4 o4 a5 o5 a6 o6 a7 o7) 0 := by
  simp only [List.map_cons, List.map_nil, List.cons.injEq, and_true] at ho
  obtain ⟨h0, h1, h2, h3, h4, h5, h6, h7⟩ := ho
  refine rep_next D fun x hx => ?_
  have e : (lt8 a0 o0 a1 o1 a2 o2 a3 o3 a4 o4 a5 o5 a6 o6 a7 o7).entries = [(0, a0, o0), (1, a1, o1), (3, a3, o3), (7, a7, o7), (5, a5, o5), (2, a2, o2), (4, a4, o4), (6, a6, o6)] := rfl
  rw [e] at hx
  simp only [List.mem_cons, List.not_mem_nil, or_false] at hx
  rcases hx with rfl | rfl | rfl | rfl | rfl | rfl | rfl | rfl <;> assumption
section
variable {w : World} {b1 b2 : Bool} {B : BLex} {x : LxP} {h₀ : Heap} {U : List Addr} {d : Drawn} {os : OsState} {R : Result → Shared → Prop} {G : List GenState}
theorem firstLx (t : Told w b1 b2) (O : ∀ N T, Ok (svW w b1 b2 N T) w (tpW w b1 b2) h₀ U) (hb1 : x.buf.length ≠ 1) (hb2 : x.buf.length < 1000000)
    {cs : List Nat} {p N T : Nat} {tst tt tp : Tok} {pos : Pos} {h : Heap} {tok' : List Nat} {q' eof : Bool} {rest : List Nat}
    (hcs : x.buf.cps.toList.drop p = cs) (hlx : lx1 cs = some (tok', q', eof, rest))
    (D : Rep h₀ h U N (x.lt3 (PF w.params b1 b2) false (.str (S [32]) tst) (S []) tt p tp) 0)
    (k : ∀ (h' : Heap) (N' T' : Nat) (tf' : Nat → Tok) (nc' : Str) (tn' tst' tt' tp' : Tok) (p' : Nat), x.buf.cps.toList.drop p' = rest → p' ≤ x.buf.length → Rep h₀ h' U N' ({ x with tf := tf' }.lt4 (PF w.params b1 b2) q' nc' tn' (enV eof tst') ⟨⟨tok'⟩⟩ tt' p' tp') 0 → R (.ok .next) ⟨h', ⟨G⟩, d, T', os⟩) :
    wpCode (mdl w) (gLx B x.a0) R pos ⟨h, ⟨G⟩, d, T, os⟩ := by
  cases cs with
  | nil => simp [lx1] at hlx
  | cons c r =>
    obtain ⟨hc, hr', hlt⟩ := at_of_drop hcs
    obtain ⟨tr, tp', gr, jr, hr⟩ := rd_sign (w := w) (b1 := b1) (b2 := b2) (N + 1) (T + 7) (B.rd x.a0) 3 4 x.a3 x.a4 x.ts x.buf x.tb p tp (T + 6) t (by decide) hc hb1 (by omega)
    simp only [lx1] at hlx
    split at hlx
    · cases hlx
    · rename_i hbad
      have hb : c ≠ 32 ∧ c ≠ 9 ∧ c ≠ 13 ∧ c ≠ 10 ∧ c ≠ 92 := by simpa using hbad
      have e1 : ([c] == [10]) = false := by simp [hb]
      have e2 : decide (c ∈ [32, 9, 13, 10]) = false := by simp [hb]
      have e5 : decide (c ∈ [92]) = false := by simp [hb]
      split at hlx
      · rename_i hqu
        have e6 : decide (c ∈ wordS.cps.toList) = false := by
          have : c = 39 ∨ c = 34 := by simpa using hqu
          rcases this with rfl | rfl <;> decide +kernel
        refine wpCode_run (O N T) (owes_cut (F3_run w b1 b2 N T B x hr e1 e2 (by simp) e5 e6 (by simp) (by simpa using hqu)) fun h' L' p' D' ho => wpCode_means ?_) D
        exact loopLx (x := { x with tf := tf4 x.tf _ }) t O hb1 hb2 r (.q c) false [] (p + 1) _ _ _ _ _ _ _ p' h' tok' q' eof rest hr' (Nat.succ_le_of_lt hlt) (fun k' e => by cases e; exact hqu) (by simp) hlx (rep_next5 D' ho) (fun h2 N2 T2 nc2 tn2 ts2 tt2 tp2 p2 a1 a2 D2 => k h2 N2 T2 _ nc2 tn2 ts2 tt2 tp2 p2 a1 a2 D2)
      · rename_i hqu
        have e4 : decide (c ∈ [39, 34]) = false := by simpa using hqu
        by_cases hwd : c ∈ wordS.cps.toList
        · refine wpCode_run (O N T) (owes_cut (F2_run w b1 b2 N T B x hr e1 e2 (by simp) e5 (by simpa using hwd)) fun h' L' p' D' ho => wpCode_means ?_) D
          exact loopLx (x := { x with tf := tf4 x.tf _ }) t O hb1 hb2 r .a false [c] (p + 1) _ _ _ _ _ _ _ p' h' tok' q' eof rest hr' (Nat.succ_le_of_lt hlt) (fun k' e => by cases e) (by simp) hlx (rep_next5 D' ho) (fun h2 N2 T2 nc2 tn2 ts2 tt2 tp2 p2 a1 a2 D2 => k h2 N2 T2 _ nc2 tn2 ts2 tt2 tp2 p2 a1 a2 D2)
        · refine wpCode_run (O N T) (owes_cut (F4_run w b1 b2 N T B x hr e1 e2 (by simp) e5 (by simpa using hwd) (by simp) e4) fun h' L' p' D' ho => wpCode_means ?_) D
          exact loopLx (x := { x with tf := tf4 x.tf _ }) t O hb1 hb2 r .a false [c] (p + 1) _ _ _ _ _ _ _ p' h' tok' q' eof rest hr' (Nat.succ_le_of_lt hlt) (fun k' e => by cases e) (by simp) hlx (rep_next5 D' ho) (fun h2 N2 T2 nc2 tn2 ts2 tt2 tp2 p2 a1 a2 D2 => k h2 N2 T2 _ nc2 tn2 ts2 tt2 tp2 p2 a1 a2 D2)
end
section
variable {w : World} {b1 b2 : Bool} {B : BNx} {y : NxP} {h₀ : Heap} {U : List Addr} {d : Drawn} {os : OsState} {R : Result → Shared → Prop} {G : List GenState}
/-- __next__ gives the next word -/
theorem next_word (t : Told w b1 b2) (O : ∀ N T, Ok (svW w b1 b2 N T) w (tpW w b1 b2) h₀ U) (hb1 : y.buf.length ≠ 1) (hb2 : y.buf.length < 1000000)
    {cs : List Nat} {p N T : Nat} {tst tt tp : Tok} {pos : Pos} {h : Heap} {tok' : List Nat} {q' eof : Bool} {rest : List Nat}
    (hcs : y.buf.cps.toList.drop p = cs) (hlx : lx1 cs = some (tok', q', eof, rest)) (hne : tok' ≠ [])
    (D : Rep h₀ h U N (y.lt (PF w.params b1 b2) (.str (S [32]) tst) (S []) tt p tp) 0)
    (k : ∀ (h' : Heap) (N' T' : Nat) (tst' tt' tt2 tp' : Tok) (p' : Nat), y.buf.cps.toList.drop p' = rest → p' ≤ y.buf.length → Rep h₀ h' U N' (y.lt (PF w.params b1 b2) (enV eof tst') (S []) tt2 p' tp') 0 → R (.ok (.ret (.str ⟨⟨tok'⟩⟩ tt'))) ⟨h', ⟨G⟩, d, T', os⟩) :
    wpCode (mdl w) (gNx B y.al) R pos ⟨h, ⟨G⟩, d, T, os⟩ := by
  refine wpCode_run (O N T) (owes_call (r := nx1 w b1 b2 N T B y pos G (.str (S [32]) tst) (S []) tt p tp) (nx1_run w b1 b2 N T B y pos G _ _ _ _ _) fun h1 L1 p1 D1 ho1 => ?_) D
  have D2 := rep_next8 D1 ho1
  have D3 := D2.enterBy (U' := [N + 2, y.al, y.ad, y.ao, y.as]) (L' := (y.lx N T (tf3 T)).lt3 (PF w.params b1 b2) false (.str (S [32]) tst) (S []) tt p tp) (fun i => match i with | 0 => 7 | i + 1 => i) ?_ ?_ ?_
  · have O' : ∀ N' T', Ok (svW w b1 b2 N' T') w (tpW w b1 b2) h1 [N + 2, y.al, y.ad, y.ao, y.as] := fun N' T' => (O N' T').enter (fun a o e => topT_keys _ a o e) D2 (fun a ha => by
      simp only [List.mem_cons, List.not_mem_nil, or_false] at ha
      rcases ha with rfl | rfl | rfl | rfl | rfl
      · exact ⟨7, _, rfl⟩
      · exact ⟨0, _, rfl⟩
      · exact ⟨1, _, rfl⟩
      · exact ⟨2, _, rfl⟩
      · exact ⟨3, _, rfl⟩) _ rfl
    refine firstLx (x := y.lx N T (tf3 T)) t O' hb1 hb2 hcs hlx D3 fun h2 N2 T2 tf2 nc2 tn2 ts2 tt2 tp2 p2 a1 a2 D4 => ?_
    have D5 : Rep h₀ h2 U (N2 + 0) (y.lt8 (PF w.params b1 b2) N T (rtF4 (PF w.params b1 b2) tf2 y.al q' (T + 7) nc2 tn2) (enV eof ts2) ⟨⟨tok'⟩⟩ tt2 p2 tp2) 0 :=
      D2.afterBy [7, 0, 1, 2, 3] D4 (fun a ha => by
        simp only [List.mem_cons, List.not_mem_nil, or_false] at ha
        rcases ha with rfl | rfl | rfl | rfl | rfl
        · exact ⟨7, by simp, _, rfl⟩
        · exact ⟨0, by simp, _, rfl⟩
        · exact ⟨1, by simp, _, rfl⟩
        · exact ⟨2, by simp, _, rfl⟩
        · exact ⟨3, by simp, _, rfl⟩) (fun z hz => by
        have e : (y.lt8 (PF w.params b1 b2) N T (rtF4 (PF w.params b1 b2) tf2 y.al q' (T + 7) nc2 tn2) (enV eof ts2) ⟨⟨tok'⟩⟩ tt2 p2 tp2).entries = [(0, y.al, lexO y.ad), (1, y.ad, lexD (PF w.params b1 b2) y.tl y.ao y.pb y.fs (enV eof ts2) ⟨⟨tok'⟩⟩ tt2), (3, y.as, sioD (PF w.params b1 b2) y.ts y.buf y.tb p2 tp2), (7, N + 2, rtF4 (PF w.params b1 b2) tf2 y.al q' (T + 7) nc2 tn2), (5, N, fr1 (PF w.params b1 b2) T y.al), (2, y.ao, sioO y.as), (4, y.pb, dqO), (6, N + 1, fr1 (PF w.params b1 b2) (T + 1) y.al)] := rfl
        rw [e] at hz
        simp only [List.mem_cons, List.not_mem_nil, or_false] at hz
        rcases hz with rfl | rfl | rfl | rfl | rfl | rfl | rfl | rfl
        · exact ⟨_, lt8_g0, .inr ⟨1, lt5_g1⟩⟩
        · exact ⟨_, lt8_g1, .inr ⟨2, lt5_g2⟩⟩
        · exact ⟨_, lt8_g3, .inr ⟨4, lt5_g4⟩⟩
        · exact ⟨_, lt8_g7, .inr ⟨0, lt5_g0⟩⟩
        · exact ⟨_, lt8_g5, .inl ⟨by simp, rfl⟩⟩
        · exact ⟨_, lt8_g2, .inr ⟨3, lt5_g3⟩⟩
        · exact ⟨_, lt8_g4, .inl ⟨by simp, rfl⟩⟩
        · exact ⟨_, lt8_g6, .inl ⟨by simp, rfl⟩⟩)
    cases q' with
    | true =>
      refine kont_run (V := svW w b1 b2 N2 T2) (O N2 T2) (owes_fin (nx2q_run w b1 b2 N T B y pos G _ _ _ _ _ N2 T2 tf2 nc2 tn2 _ _ _ _ _) fun h3 L3 D6 ho3 => ?_) D5
      exact k h3 _ _ _ _ _ _ p2 a1 a2 (rep_next5 D6 ho3)
    | false =>
      refine kont_run (V := svW w b1 b2 N2 T2) (O N2 T2) (owes_fin (nx2u_run w b1 b2 N T B y pos G _ _ _ _ _ N2 T2 tf2 nc2 tn2 _ _ _ _ _ (by simpa using hne)) fun h3 L3 D6 ho3 => ?_) D5
      exact k h3 _ _ _ _ _ _ p2 a1 a2 (rep_next5 D6 ho3)
  · intro z hz
    have e : ((y.lx N T (tf3 T)).lt3 (PF w.params b1 b2) false (.str (S [32]) tst) (S []) tt p tp).entries = [(0, N + 2, rtF3 (PF w.params b1 b2) (tf3 T) y.al false (T + 7)), (1, y.al, lexO y.ad), (3, y.ao, sioO y.as), (2, y.ad, lexD (PF w.params b1 b2) y.tl y.ao y.pb y.fs (.str (S [32]) tst) (S []) tt), (4, y.as, sioD (PF w.params b1 b2) y.ts y.buf y.tb p tp)] := rfl
    rw [e] at hz
    simp only [List.mem_cons, List.not_mem_nil, or_false] at hz
    rcases hz with rfl | rfl | rfl | rfl | rfl
    · exact lt8_g7
    · exact lt8_g0
    · exact lt8_g2
    · exact lt8_g1
    · exact lt8_g3
  · intro z hz
    have e : ((y.lx N T (tf3 T)).lt3 (PF w.params b1 b2) false (.str (S [32]) tst) (S []) tt p tp).entries = [(0, N + 2, rtF3 (PF w.params b1 b2) (tf3 T) y.al false (T + 7)), (1, y.al, lexO y.ad), (3, y.ao, sioO y.as), (2, y.ad, lexD (PF w.params b1 b2) y.tl y.ao y.pb y.fs (.str (S [32]) tst) (S []) tt), (4, y.as, sioD (PF w.params b1 b2) y.ts y.buf y.tb p tp)] := rfl
    rw [e] at hz
    simp only [List.mem_cons, List.not_mem_nil, or_false] at hz
    rcases hz with rfl | rfl | rfl | rfl | rfl <;> simp
  · intro z hz u hu q
    have e : ((y.lx N T (tf3 T)).lt3 (PF w.params b1 b2) false (.str (S [32]) tst) (S []) tt p tp).entries = [(0, N + 2, rtF3 (PF w.params b1 b2) (tf3 T) y.al false (T + 7)), (1, y.al, lexO y.ad), (3, y.ao, sioO y.as), (2, y.ad, lexD (PF w.params b1 b2) y.tl y.ao y.pb y.fs (.str (S [32]) tst) (S []) tt), (4, y.as, sioD (PF w.params b1 b2) y.ts y.buf y.tb p tp)] := rfl
    rw [e] at hz hu
    simp only [List.mem_cons, List.not_mem_nil, or_false] at hz hu
    rcases hz with rfl | rfl | rfl | rfl | rfl <;> rcases hu with rfl | rfl | rfl | rfl | rfl <;> first | rfl | (exfalso; dsimp only at q; omega) | (exfalso; simp at q)
end
variable {α : Type}
mutual
/-- the places 0, 2, 4 .. -/
noncomputable def ev : List α → List α
  | [] => []
  | x :: l => x :: od l
/-- the places 1, 3, 5 .. -/
noncomputable def od : List α → List α
  | [] => []
  | _ :: l => ev l
end
theorem ev_od_get : ∀ (l : List α) (i : Nat), (ev l)[i]? = l[2 * i]? ∧ (od l)[i]? = l[2 * i + 1]?
  | [], i => by simp [ev, od]
  | x :: l, i => by
    have h := ev_od_get l
    refine ⟨?_, ?_⟩
    · cases i with
      | zero => simp [ev]
      | succ i =>
        rw [ev, List.getElem?_cons_succ, (h i).2, show 2 * (i + 1) = (2 * i + 1) + 1 from by omega, List.getElem?_cons_succ]
    · rw [od, (h i).1, List.getElem?_cons_succ]
theorem ev_od_len : ∀ (l : List α), (ev l).length ≤ l.length ∧ (od l).length ≤ l.length
  | [] => by simp [ev, od]
  | x :: l => by
    have h := ev_od_len l
    rw [ev, od, List.length_cons, List.length_cons]
    omega
noncomputable def ltGo : Nat → Rw → LT
  | 0, _ => .nil
  | _ + 1, [] => .nil
  | n + 1, x :: l => .node x.1 x.2 (ltGo n (ev l)) (ltGo n (od l))
/-- own objects in a row -/
noncomputable def ltL (l : Rw) : LT := ltGo l.length l
theorem ltGo_get : ∀ (n : Nat) (l : Rw), l.length ≤ n → ∀ i, (ltGo n l).get i = l[i]?
  | 0, l, h, i => by
    have : l = [] := List.eq_nil_of_length_eq_zero (by omega)
    subst this
    rfl
  | n + 1, [], h, i => by rfl
  | n + 1, x :: l, h, i => by
    have hl := ev_od_len l
    have hn : l.length ≤ n := by simpa using h
    have h1 := ltGo_get n (ev l) (by omega)
    have h2 := ltGo_get n (od l) (by omega)
    rw [ltGo, LT.get_node, h1, h2]
    by_cases h0 : i = 0
    · subst h0; rfl
    · rw [if_neg h0]
      by_cases p : i % 2 = 1
      · rw [if_pos p, (ev_od_get l _).1]
        exact (congrArg ((x :: l)[·]?) (LT.e1 p)).symm
      · rw [if_neg p, (ev_od_get l _).2]
        exact (congrArg ((x :: l)[·]?) (LT.e2 h0 p)).symm
theorem ltL_get (l : Rw) (i : Nat) : (ltL l).get i = l[i]? := ltGo_get _ l (Nat.le_refl _) i
section
variable {V : Sv} {w : World} {tp : Nat → Option Obj} {h₀ h h' : Heap} {U U' : List Addr} {N N' m m' : Nat} {L' : LT} {l l' l'' l2 : Rw}
theorem get_of_map {f : List Nat} {l : Rw} {g : Nat → Option (Addr × Obj)} (h : f.map g = l.map some) {i : Nat} {x : Addr × Obj} (e : l[i]? = some x) : ∃ j, f[i]? = some j ∧ g j = some x := by
  have h1 : (l.map some)[i]? = some (some x) := by rw [List.getElem?_map, e]; rfl
  rw [← h, List.getElem?_map] at h1
  obtain ⟨j, a, b⟩ := Option.map_eq_some_iff.mp h1
  exact ⟨j, a, b⟩
theorem Rep.row (D : Rep h₀ h U N L' m) {f : List Nat} (ho : f.map L'.get = l.map some) (hf : f.Nodup) : Rep h₀ h U (N + m) (ltL l) 0 := by
  refine D.anew (fun i a o e => ?_) fun i j a o o' e1 e2 => ?_
  · rw [ltL_get] at e
    obtain ⟨j, _, hj⟩ := get_of_map ho e
    exact ⟨j, hj⟩
  · rw [ltL_get] at e1 e2
    obtain ⟨p, hp, gp⟩ := get_of_map ho e1
    obtain ⟨q, hq, gq⟩ := get_of_map ho e2
    have := D.inj p q a o o' gp gq
    subst this
    have hlt : i < f.length := (List.getElem?_eq_some_iff.mp hp).1
    exact (List.getElem?_inj hlt hf).mp (hp.trans hq.symm)
theorem Rep.part (D : Rep h₀ h U N (ltL l) m) (f : List Nat) (ho : f.map (fun j => l[j]?) = l'.map some) (hf : f.Nodup) : Rep h h (l'.map (·.1)) (N + m) (ltL l') 0 := by
  have ho' : f.map (ltL l).get = l'.map some := by rw [← ho]; exact List.map_congr_left fun j _ => ltL_get l j
  have D' := D.row ho' hf
  refine ⟨D'.lo, Nat.le_of_eq D.size, D'.size, fun i a o e => ⟨(D'.own i a o e).1, (D'.own i a o e).2.1, .inl ?_⟩, D'.inj, fun b o e _ => e⟩
  rw [ltL_get] at e
  exact List.mem_map.mpr ⟨(a, o), List.mem_of_getElem? e, rfl⟩
theorem Ok.part (O : Ok V w tp h₀ U) (hk : ∀ a o, tp a = some o → a < 922 ∧ a ≠ 882) (D : Rep h₀ h U N (ltL l) m) (f : List Nat) (ho : f.map (fun j => l[j]?) = l'.map some) (V' : Sv) (hV : V'.P = V.P) : Ok V' w tp h (l'.map (·.1)) := by
  refine O.enter hk D (fun a ha => ?_) V' hV
  obtain ⟨x, hx, rfl⟩ := List.mem_map.mp ha
  obtain ⟨i, hi⟩ := List.getElem?_of_mem hx
  obtain ⟨j, _, hj⟩ := get_of_map ho hi
  exact ⟨j, x.2, by rw [ltL_get]; exact hj⟩
theorem Rep.back (D : Rep h₀ h U N (ltL l) m) (f : List Nat) (ho : f.map (fun j => l[j]?) = l'.map some) (D' : Rep h h' (l'.map (·.1)) N' (ltL l'') m')
    (hl : l2.map (·.1) = l.map (·.1)) (h2 : ∀ i, i ∉ f → l2[i]? = l[i]?) (h3 : f.map (fun j => l2[j]?) = l''.map some) : Rep h₀ h' U (N' + m') (ltL l2) 0 := by
  refine D.afterByG (L2 := ltL l2) f D' (fun a ha => ?_) fun i a o e => ?_
  · obtain ⟨x, hx, rfl⟩ := List.mem_map.mp ha
    obtain ⟨i, hi⟩ := List.getElem?_of_mem hx
    obtain ⟨j, hj1, hj⟩ := get_of_map ho hi
    exact ⟨j, List.mem_of_getElem? hj1, x.2, by rw [ltL_get]; exact hj⟩
  · rw [ltL_get] at e
    have e1 : (l2.map (·.1))[i]? = some a := by rw [List.getElem?_map, e]; rfl
    rw [hl, List.getElem?_map] at e1
    obtain ⟨y, hy, hya⟩ := Option.map_eq_some_iff.mp e1
    refine ⟨y.2, by rw [ltL_get, hy, ← hya], ?_⟩
    by_cases hm : i ∈ f
    · refine .inr ?_
      obtain ⟨p, hp⟩ := List.getElem?_of_mem hm
      have q : (l''.map some)[p]? = some (l2[i]?) := by rw [← h3, List.getElem?_map, hp]; rfl
      rw [e, List.getElem?_map] at q
      obtain ⟨z, hz, hz2⟩ := Option.map_eq_some_iff.mp q
      exact ⟨p, by rw [ltL_get, hz]; exact hz2⟩
    · refine .inl ⟨hm, ?_⟩
      have := h2 i hm
      rw [e, hy] at this
      exact congrArg Prod.snd (Option.some.inj this)
end
noncomputable abbrev spE (a : Addr) : Env := ⟨T.f880.1.2.2, a, 3, [], S [115, 112, 108, 105, 116, 46, 60, 108, 111, 99, 97, 108, 115, 62, 46], some 880, .ref 879, some a, 0⟩
noncomputable abbrev lwE (a : Addr) : Env := ⟨T.f921.1.2.2, a, 3, [], S [108, 97, 119, 46, 60, 108, 111, 99, 97, 108, 115, 62, 46], some 921, .ref 920, some a, 0⟩
noncomputable abbrev frO (es : Array DictEntry) (n : Nat) (sl : Array (Option Value)) : Obj := ⟨y0, none, .dict es n, sl⟩
noncomputable abbrev bNx (ls al sp lw : Addr) : BNx := ⟨⟨[.ref ls, .ref al, .none], [], ⟨893, 11, 893, 20⟩⟩, ⟨[.ref al], [], ⟨893, 11, 893, 20⟩⟩, ⟨T.f880.1.2.1, spE sp, ⟨893, 11, 893, 20⟩⟩, ⟨T.f921.1.2.1, lwE lw, ⟨938, 11, 938, 35⟩⟩⟩
structure NeP extends NxP where
  ls : Addr
  sp : Addr
  lw : Addr
  e6 : Array DictEntry
  n6 : Nat
  e7 : Array DictEntry
  n7 : Nat
noncomputable abbrev NeP.row (y : NeP) (P : Params) (s6 s7 : Array (Option Value)) (st : Value) (tok : Str) (tt : Tok) (p : Int) (tp : Tok) : Rw :=
  [(y.al, lexO y.ad), (y.ad, lexD P y.tl y.ao y.pb y.fs st tok tt), (y.ao, sioO y.as), (y.as, sioD P y.ts y.buf y.tb p tp), (y.pb, dqO), (y.fs, dqO), (y.sp, frO y.e6 y.n6 s6), (y.lw, frO y.e7 y.n7 s7)]
noncomputable abbrev stopO (N2 : Nat) : Obj := ⟨.type "StopIteration", none, .fields ⟨[.ref (N2 + 2), .ref (N2 + 3), .none, .none, .bool false, .none]⟩, #[]⟩
noncomputable abbrev stopO0 (N2 : Nat) : Obj := ⟨.type "StopIteration", none, .fields ⟨[.ref (N2 + 2), .none, .none, .none, .bool false, .none]⟩, #[]⟩
noncomputable abbrev nxG (N : Nat) (y : NeP) : Ctx := ⟨.func T.f865.1.2.1 (nxE N), none, none, (bNx y.ls y.al y.sp y.lw).list, none⟩
noncomputable def nxTail (fl : Flow) : Sem Fin := match fl with
  | .ret v => ret v
  | _ => ret .none
noncomputable def nxLeaves (N e : Nat) : Sem Fin := PySem.W.R.bindR (PySem.W.R.bindR (PySem.W.Fast.tw9442747609961115081 (nxE N) (.ref e)) fun _ => Sem.raise (.ref e)) nxTail
noncomputable abbrev fr2 (P : Params) (tk tk2 : Tok) (al : Addr) : Obj := frO ⟨[dk P z53 tk (.ref al), dk P z88 tk2 .none]⟩ 2 #[]
noncomputable abbrev msNe1 : List Nat := (dg 76 0xbbbb0bb0000210000100010001a55050552011000100001a0aa0000210000100010001909900)
noncomputable abbrev nNe1 : Nat := 131
noncomputable abbrev msNe2 : List Nat := (dg 178 0xd0dddddddddd0dd0dd00000201100010000199992011000100001a66060662011000100001a02011000100001aa02011000100001aaab02011000100001bbb0bb2011000100001b222010001010100001bbb2011000100001b)
noncomputable abbrev nNe2 : Nat := 314
section
variable (w : World) (b1 b2 : Bool) (N T : Nat) (y : NeP)
noncomputable def ne1 (pos : Pos) (G : List GenState) (tt : Tok) (p : Int) (tp : Tok) : Res :=
  sim (M := mdl w) (tp := tpW w b1 b2) (svW w b1 b2 N T) nNe1 msNe1 [] (gNx (bNx y.ls y.al y.sp y.lw) y.al) pos .base (tden (gNx (bNx y.ls y.al y.sp y.lw) y.al).code) (ltL (y.row (PF w.params b1 b2) #[] #[] .none (S []) tt p tp)) 8 0 0 G ck0
theorem ne1_run (pos : Pos) (G : List GenState) (tt : Tok) (p : Int) (tp : Tok) :
    ((ne1 w b1 b2 N T y pos G tt p tp).outK [0, 1, 2, 3, 4, 5, 6, 7, 8, 9, 10], (ne1 w b1 b2 N T y pos G tt p tp).lhs) =
      ((none, some (gLx ((bNx y.ls y.al y.sp y.lw).lex N) (N + 2), 3, 9, G, (y.row (PF w.params b1 b2) #[] #[] .none (S []) tt p tp).map some ++ [some (N, fr1 (PF w.params b1 b2) T y.al), some (N + 1, fr1 (PF w.params b1 b2) (T + 1) y.al), some (N + 2, rtF3 (PF w.params b1 b2) (tf3 T) y.al false (T + 7))])), (ne1 w b1 b2 N T y pos G tt p tp).rhs) := by
  walk_at "r"
noncomputable abbrev ne2 (pos : Pos) (G : List GenState) (tt0 : Tok) (p0 : Int) (tp0 : Tok) (N2 T2 : Nat) (tf : Nat → Tok) (tn tt : Tok) (p : Int) (tp : Tok) : Res :=
  (ne1 w b1 b2 N T y pos G tt0 p0 tp0).next (M := mdl w) (tp := tpW w b1 b2) (.ok .next) (svW w b1 b2 N2 T2) nNe2 msNe2 [] (ltL (y.row (PF w.params b1 b2) #[] #[] .none (S []) tt p tp ++ [(N, fr1 (PF w.params b1 b2) T y.al), (N + 1, fr1 (PF w.params b1 b2) (T + 1) y.al), (N + 2, rtF4 (PF w.params b1 b2) tf y.al false (T + 7) (S []) tn)])) 11 G
theorem ne2_run (pos : Pos) (G : List GenState) (tt0 : Tok) (p0 : Int) (tp0 : Tok) (N2 T2 : Nat) (tf : Nat → Tok) (tn tt : Tok) (p : Int) (tp : Tok) :
    ((ne2 w b1 b2 N T y pos G tt0 p0 tp0 N2 T2 tf tn tt p tp).outC [0, 1, 2, 3, 4, 5, 6, 7, 8, 12], (ne2 w b1 b2 N T y pos G tt0 p0 tp0 N2 T2 tf tn tt p tp).lhs) = ((none, some (nxG N y, .base, nxLeaves N (N2 + 1), 3, 19, G, (y.row (PF w.params b1 b2) #[] #[] .none (S []) (T2 + 2) p tp ++ [(N, fr2 (PF w.params b1 b2) T (T2 + 17) y.al), (N2 + 1, stopO0 N2)]).map some)), (ne2 w b1 b2 N T y pos G tt0 p0 tp0 N2 T2 tf tn tt p tp).rhs) := by
  walk_at "r"
end
/-- around a context, with its frames -/
noncomputable def arF (Γ : Ctx) : Around := { depth := frameCount Γ.below + Γ.code.weight, handled := Γ.handled, frames := some (Γ.code.envs ++ envsOf Γ.below), guards := none, units := Γ.units }
theorem in_arF (Γ : Ctx) : Γ.In (arF Γ) := ⟨rfl, Nat.le_refl _, fun _ h => by cases h; rfl, fun _ h => (nomatch h), Nat.le_refl _⟩
section
variable {M : Model} {A : Around} {E : Value → Shared → Prop} {s : Shared}
/-- an exception leaves a function -/
theorem leaves {base : Heap} {env : Env} {outer : List Env} {L e : Addr} {oe : Obj} {vs : Array Value} {Q : Unit → Shared → Prop}
    (hfr : A.frames = some (env :: outer)) (hl : s.heap.FunFrames base (env :: outer)) (hf : env.frame = some L)
    (he : s.heap.get? e = some oe) (hd : oe.data = .fields vs) (h1 : vs[1]? = some .none)
    (h : ∀ h', h'.objs.size = s.heap.objs.size + 1 → (∀ b o, b ∉ (env :: outer).filterMap (·.frame) → b ≠ e → s.heap.get? b = some o → h'.get? b = some o) →
      (∀ b o, b ≠ e → s.heap.get? b = some o → ∃ sl, h'.get? b = some { o with slots := sl }) → h'.get? e = some (oe.mapFields (·.setIfInBounds 1 (.ref s.heap.objs.size))) → Q () { s with heap := h' }) :
    wpAny M A (leaving env (.ref e)) Q E s := by
  have hsz : 1 < vs.size := (Array.getElem?_eq_some_iff.mp h1).1
  have hene : e ∉ (env :: outer).filterMap (·.frame) := fun hm => by
    obtain ⟨_, o, ho, hnf⟩ := hl.mem hm
    rw [he] at ho
    cases ho
    exact hnf vs hd
  unfold leaving noteFrame
  simp only [hf]
  refine wpAny_bind (wpAny_bind (wpAny_field he hd h1 ?_))
  rw [if_neg (by decide)]
  refine wpAny_bind (wpAny_frameOf_fun hfr hl hf fun g hg => ?_)
  refine wpAny_bind (wpAny_entryPlaceOf fun pl hpl => ?_)
  unfold EntryCells.newEntry newFields
  refine wpAny_bind (wpAny_newObj_type ?_ (hpl.sizeOk5 _ _ _ _ _))
  have e1 : g.get? e = some oe := (hg.2.1 e hene).trans he
  have e2 := Heap.get?_push_of_some (h := g) { cls := .type "traceback", dict := none, data := .fields ([Value.none, .ref L, .none, rawInt L, .none] ++ (if pl.isEmpty then List.replicate 6 Value.none else pl)).toArray } e1
  refine wpAny_setField e2 hd hsz ?_
  have ne : g.objs.size ≠ e := Nat.ne_of_gt (Heap.lt_size e1)
  have d3 := Obj.data_mapFields hd (·.setIfInBounds 1 (Value.ref g.objs.size))
  have e3 := Heap.get?_update_self (Obj.mapFields (·.setIfInBounds 1 (Value.ref g.objs.size))) e2 (Obj.isFreed_of_fields d3)
  have t3 := (Heap.get?_update_other (g.push { cls := .type "traceback", dict := none, data := .fields ([Value.none, .ref L, .none, rawInt L, .none] ++ (if pl.isEmpty then List.replicate 6 Value.none else pl)).toArray })
    (Obj.mapFields (·.setIfInBounds 1 (Value.ref g.objs.size))) (Ne.symm ne)).trans (Heap.get?_push_size g rfl)
  unfold setFlight
  refine wpAny_bind (wpAny_field e3 d3 (x := .ref g.objs.size) (by simp [hsz]) ?_)
  rw [if_pos (show (Value.ref g.objs.size != Value.none) = true from by simp)]
  have hgs : g.objs.size = s.heap.objs.size := hg.1
  refine wpAny_setField t3 rfl (by simp only [List.size_toArray, List.length_append, List.length_cons, List.length_nil] <;> omega) (h _ ?_ (fun b o hb hbe hbo => ?_) (fun b o hbe hbo => ?_) ?_)
  · rw [Heap.size_after_update, Heap.size_after_update, Heap.size_push, hgs]
  · have hx : g.get? b = some o := (hg.2.1 b hb).trans hbo
    rw [Heap.get?_update_other _ _ (Nat.ne_of_gt (Heap.lt_size hx)), Heap.get?_update_other _ _ (Ne.symm hbe)]
    exact Heap.get?_push_of_some _ hx
  · obtain ⟨sl, hx⟩ := hg.2.2 b o hbo
    refine ⟨sl, ?_⟩
    rw [Heap.get?_update_other _ _ (Nat.ne_of_gt (Heap.lt_size hx)), Heap.get?_update_other _ _ (Ne.symm hbe)]
    exact Heap.get?_push_of_some _ hx
  · rw [Heap.get?_update_other _ _ ne, e3, hgs]
end
theorem Rep.other {h₀ h h' : Heap} {U : List Addr} {N m g : Nat} {l l2 : Rw} (D : Rep h₀ h U N (ltL l) m) (hs : h'.objs.size = h.objs.size + g) (hl : l2.map (·.1) = l.map (·.1))
    (ho : ∀ x ∈ l2, h'.get? x.1 = some x.2) (hk : ∀ b o, b ∉ l.map (·.1) → h.get? b = some o → h'.get? b = some o) : Rep h₀ h' U (N + m + g) (ltL l2) 0 := by
  have key : ∀ i a o, (ltL l2).get i = some (a, o) → ∃ o', (ltL l).get i = some (a, o') := by
    intro i a o e
    rw [ltL_get] at e ⊢
    have e1 : (l2.map (·.1))[i]? = some a := by rw [List.getElem?_map, e]; rfl
    rw [hl, List.getElem?_map] at e1
    obtain ⟨y, hy, hya⟩ := Option.map_eq_some_iff.mp e1
    exact ⟨y.2, by rw [hy, ← hya]⟩
  refine ⟨by have := D.lo; omega, by have := D.base; omega, by rw [hs, D.size]; omega, fun i a o e => ?_, fun i j a o o' e1 e2 => ?_, fun b o e q => ?_⟩
  · obtain ⟨o', h1⟩ := key i a o e
    rw [ltL_get] at e
    exact ⟨ho _ (List.mem_of_getElem? e), (D.own _ _ _ h1).2⟩
  · obtain ⟨o1, h1⟩ := key i a o e1
    obtain ⟨o2, h2⟩ := key j a o' e2
    exact D.inj i j a o1 o2 h1 h2
  · refine hk b o (fun hm => ?_) (D.keep b o e q)
    obtain ⟨x, hx, rfl⟩ := List.mem_map.mp hm
    obtain ⟨i, hi⟩ := List.getElem?_of_mem hx
    rcases (D.own i x.1 x.2 (by rw [ltL_get, hi])).2.2 with z | z
    · exact q z
    · exact absurd (Heap.lt_size e) (Nat.not_lt.mpr z)
theorem kind_ne {k : ScopeKind} (h : k = .function) : k ≠ .module := by
  subst h
  decide
theorem kdN (a : Addr) : (nxE a).scope.kind ≠ .module := kind_ne (by kernel_rfl)
theorem kdS (a : Addr) : (spE a).scope.kind ≠ .module := kind_ne (by kernel_rfl)
theorem kdL (a : Addr) : (lwE a).scope.kind ≠ .module := kind_ne (by kernel_rfl)
section
variable {w : World} {b1 b2 : Bool} {y : NeP} {h₀ : Heap} {U : List Addr} {d : Drawn} {os : OsState} {R : Result → Shared → Prop} {G : List GenState}
/-- the exception leaves __next__ -/
theorem nx_left {N N2 : Nat} {tk tk2 tt : Tok} {p tp : Nat} {P : Params} {pos : Pos} {s : Shared} {M m : Nat} (D : Rep h₀ s.heap U M (ltL (y.row P #[] #[] .none (S []) tt p tp ++ [(N, fr2 P tk tk2 y.al), (N2 + 1, stopO0 N2)])) m) (hsz : s.heap.objs.size = N2 + 3)
    (k : ∀ (h' : Heap) (s6 s7 : Array (Option Value)), Rep h₀ h' U (M + m + 1) (ltL (y.row P s6 s7 .none (S []) tt p tp ++ [(N2 + 1, stopO N2)])) 0 → R (.error (.ref (N2 + 1))) { s with heap := h' }) :
    Means (mdl w) R (nxG N y) pos .base (nxLeaves N (N2 + 1)) s := by
  have own : ∀ i a o, (y.row P #[] #[] .none (S []) tt p tp ++ [(N, fr2 P tk tk2 y.al), (N2 + 1, stopO0 N2)])[i]? = some (a, o) → s.heap.get? a = some o := fun i a o e => (D.own i a o (by rw [ltL_get]; exact e)).1
  have apart : ∀ i j a o a' o', (y.row P #[] #[] .none (S []) tt p tp ++ [(N, fr2 P tk tk2 y.al), (N2 + 1, stopO0 N2)])[i]? = some (a, o) → (y.row P #[] #[] .none (S []) tt p tp ++ [(N, fr2 P tk tk2 y.al), (N2 + 1, stopO0 N2)])[j]? = some (a', o') → i ≠ j → a ≠ a' := fun i j a o a' o' e1 e2 ne q => by
    subst q
    exact ne (D.inj i j a o o' (by rw [ltL_get]; exact e1) (by rw [ltL_get]; exact e2))
  show Sem.wp (mdl w) (nxG N y) (nxLeaves N (N2 + 1)) _ _ pos s
  rw [nxLeaves, ← PySem.W.Fast.te9442747609961115081, ← PySem.W.R.bindR_eq, Sem.wp_bind, Sem.wp_bind]
  have fr : s.heap.FunFrames ⟨#[], {}⟩ [nxE N, spE y.sp, lwE y.lw] :=
    ⟨kdN N, ⟨N, _, rfl, rfl, own 8 _ _ rfl, fun vs q => by cases q⟩, kdS y.sp, ⟨y.sp, _, rfl, rfl, own 6 _ _ rfl, fun vs q => by cases q⟩, kdL y.lw, ⟨y.lw, _, rfl, rfl, own 7 _ _ rfl, fun vs q => by cases q⟩, trivial⟩
  have z := leaves (M := mdl w) (A := arF (nxG N y)) (E := fun e s' => R (.error e) s') (Q := fun _ s' => R (.error (.ref (N2 + 1))) s') (env := nxE N) (outer := [spE y.sp, lwE y.lw]) (L := N) (e := N2 + 1) (by kernel_rfl) fr rfl (own 9 _ _ rfl) rfl rfl ?_
  · exact z (nxG N y) pos (in_arF _)
  · intro h' hs hk hsl he
    obtain ⟨s6, h6⟩ := hsl y.sp _ (apart 6 9 _ _ _ _ rfl rfl (by decide)) (own 6 _ _ rfl)
    obtain ⟨s7, h7⟩ := hsl y.lw _ (apart 7 9 _ _ _ _ rfl rfl (by decide)) (own 7 _ _ rfl)
    obtain ⟨s8, h8⟩ := hsl N _ (apart 8 9 _ _ _ _ rfl rfl (by decide)) (own 8 _ _ rfl)
    have keep : ∀ i a o, i < 6 → (y.row P #[] #[] .none (S []) tt p tp ++ [(N, fr2 P tk tk2 y.al), (N2 + 1, stopO0 N2)])[i]? = some (a, o) → h'.get? a = some o := fun i a o hi e => by
      refine hk a o (fun hm => ?_) (apart i 9 _ _ _ _ e rfl (by omega)) (own i a o e)
      have hm' : a = N ∨ a = y.sp ∨ a = y.lw := by simpa using hm
      rcases hm' with q | q | q
      · exact apart i 8 _ _ _ _ e rfl (by omega) q
      · exact apart i 6 _ _ _ _ e rfl (by omega) q
      · exact apart i 7 _ _ _ _ e rfl (by omega) q
    have D1 : Rep h₀ h' U (M + m + 1) (ltL (y.row P s6 s7 .none (S []) tt p tp ++ [(N, { fr2 P tk tk2 y.al with slots := s8 }), (N2 + 1, stopO N2)])) 0 := by
      refine D.other hs rfl (fun x hx => ?_) fun b o hb ho => ?_
      · simp only [NeP.row, List.cons_append, List.nil_append, List.mem_cons, List.not_mem_nil, or_false] at hx
        rcases hx with rfl | rfl | rfl | rfl | rfl | rfl | rfl | rfl | rfl | rfl
        · exact keep 0 _ _ (by decide) rfl
        · exact keep 1 _ _ (by decide) rfl
        · exact keep 2 _ _ (by decide) rfl
        · exact keep 3 _ _ (by decide) rfl
        · exact keep 4 _ _ (by decide) rfl
        · exact keep 5 _ _ (by decide) rfl
        · exact h6
        · exact h7
        · exact h8
        · rw [he, hsz]; rfl
      · have hb' : b ≠ y.al ∧ b ≠ y.ad ∧ b ≠ y.ao ∧ b ≠ y.as ∧ b ≠ y.pb ∧ b ≠ y.fs ∧ b ≠ y.sp ∧ b ≠ y.lw ∧ b ≠ N ∧ b ≠ N2 + 1 := by simpa using hb
        exact hk b o (by simp [hb']) hb'.2.2.2.2.2.2.2.2.2 ho
    have D2 := D1.row (f := [0, 1, 2, 3, 4, 5, 6, 7, 9]) (l := y.row P s6 s7 .none (S []) tt p tp ++ [(N2 + 1, stopO N2)]) (by simp only [List.map_cons, List.map_nil, ltL_get]; rfl) (by decide)
    exact k h' s6 s7 D2
/-- __next__ at the end of the text -/
theorem next_end (t : Told w b1 b2) (O : ∀ N T, Ok (svW w b1 b2 N T) w (tpW w b1 b2) h₀ U) (hb2 : y.buf.length < 1000000)
    {p N T : Nat} {tt tp : Tok} {pos : Pos} {h : Heap} (hp : y.buf.length = p)
    (D : Rep h₀ h U N (ltL (y.row (PF w.params b1 b2) #[] #[] .none (S []) tt p tp)) 0)
    (k : ∀ (h' : Heap) (N' T' N2 : Nat) (tt' tp' : Tok) (s6 s7 : Array (Option Value)), Rep h₀ h' U N' (ltL (y.row (PF w.params b1 b2) s6 s7 .none (S []) tt' p tp' ++ [(N2 + 1, stopO N2)])) 0 → R (.error (.ref (N2 + 1))) ⟨h', ⟨G⟩, d, T', os⟩) :
    wpCode (mdl w) (gNx (bNx y.ls y.al y.sp y.lw) y.al) R pos ⟨h, ⟨G⟩, d, T, os⟩ := by
  refine wpCode_run (O N T) (owes_call (r := ne1 w b1 b2 N T y pos G tt p tp) (ne1_run w b1 b2 N T y pos G _ _ _) fun h1 L1 p1 D1 ho1 => ?_) D
  have D2 := D1.row (l := y.row (PF w.params b1 b2) #[] #[] .none (S []) tt p tp ++ [(N, fr1 (PF w.params b1 b2) T y.al), (N + 1, fr1 (PF w.params b1 b2) (T + 1) y.al), (N + 2, rtF3 (PF w.params b1 b2) (tf3 T) y.al false (T + 7))]) ho1 (by decide)
  let x : LxP := y.toNxP.lx N T (tf3 T)
  have hf : [10, 0, 1, 2, 3].map (fun j => (y.row (PF w.params b1 b2) #[] #[] .none (S []) tt p tp ++ [(N, fr1 (PF w.params b1 b2) T y.al), (N + 1, fr1 (PF w.params b1 b2) (T + 1) y.al), (N + 2, rtF3 (PF w.params b1 b2) (tf3 T) y.al false (T + 7))])[j]?) = [(N + 2, rtF3 (PF w.params b1 b2) (tf3 T) y.al false (T + 7)), (y.al, lexO y.ad), (y.ad, lexD (PF w.params b1 b2) y.tl y.ao y.pb y.fs .none (S []) tt), (y.ao, sioO y.as), (y.as, sioD (PF w.params b1 b2) y.ts y.buf y.tb p tp)].map some := rfl
  have D3 := D2.part [10, 0, 1, 2, 3] hf (by decide)
  have O' := fun N' T' => (O N' T').part (fun a o e => topT_keys _ a o e) D2 [10, 0, 1, 2, 3] hf (svW w b1 b2 N' T') rfl
  obtain ⟨tr, gr, jr, hr⟩ := rd_end (w := w) (b1 := b1) (b2 := b2) (N + 3 + 1) (T + 9 + 7) (((bNx y.ls y.al y.sp y.lw).lex N).rd x.a0) 3 4 x.a3 x.a4 x.ts x.buf x.tb p tp (T + 9 + 6) t (by decide) hp (by show y.buf.length < _; omega)
  refine wpCode_run (V := svW w b1 b2 (N + 3) (T + 9)) (O' (N + 3) (T + 9)) (owes_fin (F0_run w b1 b2 (N + 3) (T + 9) ((bNx y.ls y.al y.sp y.lw).lex N) x hr) fun h2 L2 D4 ho2 => ?_) D3
  have D5 := D4.row (l := [(N + 2, rtF4 (PF w.params b1 b2) (tf4 (tf3 T) (T + 9 + (7 + jr))) y.al false (T + 7) (S []) tr), (y.al, lexO y.ad), (y.ad, lexD (PF w.params b1 b2) y.tl y.ao y.pb y.fs .none (S []) (T + 9 + (7 + jr + 5))), (y.ao, sioO y.as), (y.as, sioD (PF w.params b1 b2) y.ts y.buf y.tb p tp)]) ho2 (by decide)
  have D6 := D2.back (l2 := y.row (PF w.params b1 b2) #[] #[] .none (S []) (T + 9 + (7 + jr + 5)) p tp ++ [(N, fr1 (PF w.params b1 b2) T y.al), (N + 1, fr1 (PF w.params b1 b2) (T + 1) y.al), (N + 2, rtF4 (PF w.params b1 b2) (tf4 (tf3 T) (T + 9 + (7 + jr))) y.al false (T + 7) (S []) tr)]) [10, 0, 1, 2, 3] hf D5 rfl (fun i hi => ?_) rfl
  · refine kont_run (V := svW w b1 b2 (N + 3 + (1 + gr) + 0) (T + 9 + (7 + jr + 8))) (O _ _) (owes_cut (ne2_run w b1 b2 N T y pos G tt p tp _ _ (tf4 (tf3 T) (T + 9 + (7 + jr))) tr _ p tp) fun h3 L3 p3 D7 ho3 => ?_) D6
    have D8 := D7.row (l := y.row (PF w.params b1 b2) #[] #[] .none (S []) _ p tp ++ [(N, fr2 (PF w.params b1 b2) T _ y.al), (_, stopO0 _)]) ho3 (by decide)
    refine nx_left D8 D7.size fun h4 s6 s7 D9 => ?_
    exact k h4 _ _ _ _ _ _ _ D9
  · match i, hi with
    | 4, _ => rfl
    | 5, _ => rfl
    | 6, _ => rfl
    | 7, _ => rfl
    | 8, _ => rfl
    | 9, _ => rfl
    | 0, hi => exact absurd (by simp) hi
    | 1, hi => exact absurd (by simp) hi
    | 2, hi => exact absurd (by simp) hi
    | 3, hi => exact absurd (by simp) hi
    | 10, hi => exact absurd (by simp) hi
    | i + 11, _ => rfl
end
noncomputable def Res.outP (obs : List Nat) (r : Res) : Option Result × Option (Ctx × Pos × Mine.Kont × Sem Fin × Nat × Nat × List GenState × List (Option (Addr × Obj))) := (r.r?, r.st?.map fun st => (st.Γ, st.p, st.κ, st.t, st.m, st.i, st.G, obs.map st.L.get))
section
variable {V : Sv} {w : World} {tp : Nat → Option Obj} {h₀ : Heap} {U : List Addr} {d : Drawn} {os : OsState} {R : Result → Shared → Prop}
theorem owes_cutP {r : Res} {obs : List Nat} {Γ : Ctx} {p : Pos} {κ : Mine.Kont} {t : Sem Fin} {g j : Nat} {G : List GenState} {objs : List (Option (Addr × Obj))} (e : (r.outP obs, r.lhs) = ((none, some (Γ, p, κ, t, g, j, G, objs)), r.rhs))
    (k : ∀ h L, Rep h₀ h U V.N L g → obs.map L.get = objs → Means (mdl w) R Γ p κ t ⟨h, ⟨G⟩, d, V.T + j, os⟩) : r.Owes V w h₀ U d os R := by
  have e1 := congrArg Prod.fst e
  have gd := good_of (congrArg Prod.snd e)
  cases r with
  | stop => cases congrArg Prod.snd e1
  | fin v' st ck => cases congrArg Prod.fst e1
  | cut st ck =>
    have a2 : (st.Γ, st.p, st.κ, st.t, st.m, st.i, st.G, obs.map st.L.get) = (Γ, p, κ, t, g, j, G, objs) := Option.some.inj (congrArg Prod.snd e1)
    have c1 : st.Γ = Γ := congrArg (fun x => x.1) a2
    have c0 : st.p = p := congrArg (fun x => x.2.1) a2
    have c2 : st.κ = κ := congrArg (fun x => x.2.2.1) a2
    have c3 : st.t = t := congrArg (fun x => x.2.2.2.1) a2
    have b1 : st.m = g := congrArg (fun x => x.2.2.2.2.1) a2
    have b2 : st.i = j := congrArg (fun x => x.2.2.2.2.2.1) a2
    have b3 : st.G = G := congrArg (fun x => x.2.2.2.2.2.2.1) a2
    have b4 : obs.map st.L.get = objs := congrArg (fun x => x.2.2.2.2.2.2.2) a2
    subst c1 c0 c2 c3 b1 b2 b3
    exact ⟨gd, fun h D => k h _ D b4⟩
end
noncomputable def Res.outKP (obs : List Nat) (r : Res) : Option Result × Option (Ctx × Pos × Nat × Nat × List GenState × List (Option (Addr × Obj))) :=
  (r.r?, r.st?.bind fun st => (codeOf st.t).map fun c => (⟨c, st.Γ.handled, st.Γ.own, (st.Γ.code, st.p) :: st.Γ.below, st.Γ.past⟩, st.p, st.m, st.i, st.G, obs.map st.L.get))
section
variable {V : Sv} {w : World} {tp : Nat → Option Obj} {h₀ : Heap} {U : List Addr} {d : Drawn} {os : OsState} {R : Result → Shared → Prop}
theorem owes_callP {r : Res} {obs : List Nat} {Γ : Ctx} {p : Pos} {g j : Nat} {G : List GenState} {objs : List (Option (Addr × Obj))} (e : (r.outKP obs, r.lhs) = ((none, some (Γ, p, g, j, G, objs)), r.rhs))
    (k : ∀ h L, Rep h₀ h U V.N L g → obs.map L.get = objs → wpCode (mdl w) Γ (r.Kont (mdl w) R) p ⟨h, ⟨G⟩, d, V.T + j, os⟩) : r.Owes V w h₀ U d os R := by
  have e1 := congrArg Prod.fst e
  have gd := good_of (congrArg Prod.snd e)
  cases r with
  | stop => cases congrArg Prod.snd e1
  | fin v' st ck => cases congrArg Prod.fst e1
  | cut st ck =>
    have a1 : (codeOf st.t).map (fun c => ((⟨c, st.Γ.handled, st.Γ.own, (st.Γ.code, st.p) :: st.Γ.below, st.Γ.past⟩ : Ctx), st.p, st.m, st.i, st.G, obs.map st.L.get)) = some (Γ, p, g, j, G, objs) := congrArg Prod.snd e1
    obtain ⟨c, hc, a2⟩ := Option.map_eq_some_iff.mp a1
    obtain ⟨g', l, kk, ht⟩ := codeOf_call hc
    have c1 : (⟨c, st.Γ.handled, st.Γ.own, (st.Γ.code, st.p) :: st.Γ.below, st.Γ.past⟩ : Ctx) = Γ := congrArg (fun x => x.1) a2
    have c0 : st.p = p := congrArg (fun x => x.2.1) a2
    have b1 : st.m = g := congrArg (fun x => x.2.2.1) a2
    have b2 : st.i = j := congrArg (fun x => x.2.2.2.1) a2
    have b3 : st.G = G := congrArg (fun x => x.2.2.2.2.1) a2
    have b4 : obs.map st.L.get = objs := congrArg (fun x => x.2.2.2.2.2) a2
    subst c1 c0 b1 b2 b3
    refine ⟨gd, fun h D => ?_⟩
    have z := k h _ D b4
    rw [ht]
    refine means_call (wpCode_mono (fun rr s' q => ?_) z)
    have q' : Means (mdl w) R st.Γ st.p st.κ (contOf st.t rr) s' := q
    rw [ht] at q'
    exact q'
end
section
variable {h₀ h h' : Heap} {U : List Addr} {N N' m m' : Nat} {l l' l'' l2 e : Rw}
theorem Rep.backs (D : Rep h₀ h U N (ltL l) m) (f : List Nat) (ho : f.map (fun j => l[j]?) = l'.map some) (D' : Rep h h' (l'.map (·.1)) N' (ltL (l'' ++ e)) m')
    (hl : l2.map (·.1) = l.map (·.1)) (h2 : ∀ i, i ∉ f → l2[i]? = l[i]?) (h3 : f.map (fun j => l2[j]?) = l''.map some) : Rep h₀ h' U (N' + m') (ltL (l2 ++ e)) 0 := by
  have hlen : l''.length = f.length := by have := congrArg List.length h3; simpa using this.symm
  have hlen2 : l2.length = l.length := by have := congrArg List.length hl; simpa using this
  have hU : ∀ a ∈ l'.map (·.1), ∃ p, p < l''.length ∧ ∃ o, (ltL (l'' ++ e)).get p = some (a, o) := by
    intro a ha
    obtain ⟨x, hx, rfl⟩ := List.mem_map.mp ha
    obtain ⟨p, hp⟩ := List.getElem?_of_mem hx
    obtain ⟨j, hj1, hj⟩ := get_of_map ho hp
    have hpl : p < l''.length := by rw [hlen]; exact (List.getElem?_eq_some_iff.mp hj1).1
    have e1 : (l2.map (·.1))[j]? = some x.1 := by rw [hl, List.getElem?_map, hj]; rfl
    rw [List.getElem?_map] at e1
    obtain ⟨y, hy, hya⟩ := Option.map_eq_some_iff.mp e1
    have q : (l''.map some)[p]? = some (l2[j]?) := by rw [← h3, List.getElem?_map, hj1]; rfl
    rw [hy, List.getElem?_map] at q
    obtain ⟨z, hz, hz2⟩ := Option.map_eq_some_iff.mp q
    cases hz2
    exact ⟨p, hpl, y.2, by rw [ltL_get, List.getElem?_append_left hpl, hz, ← hya]⟩
  have D1 : Rep h h' (l'.map (·.1)) (N' + m') (ltL l'') 0 := D'.anew (fun i a o q => ⟨i, by
    rw [ltL_get] at q ⊢
    rw [List.getElem?_append_left (List.getElem?_eq_some_iff.mp q).1]; exact q⟩) fun i j a o o' q1 q2 => by
    rw [ltL_get] at q1 q2
    refine D'.inj i j a o o' ?_ ?_
    · rw [ltL_get, List.getElem?_append_left (List.getElem?_eq_some_iff.mp q1).1]; exact q1
    · rw [ltL_get, List.getElem?_append_left (List.getElem?_eq_some_iff.mp q2).1]; exact q2
  have D2 : Rep h₀ h' U (N' + m' + 0) (ltL l2) 0 := D.back f ho D1 hl h2 h3
  have hsz : h.objs.size = N + m := D.size
  have new : ∀ (k : Nat) (x : Addr × Obj), e[k]? = some x → h'.get? x.1 = some x.2 ∧ (922 ≤ x.1 ∨ x.1 = 882) ∧ h.objs.size ≤ x.1 := by
    intro k x hk
    have q : (ltL (l'' ++ e)).get (l''.length + k) = some (x.1, x.2) := by
      rw [ltL_get, List.getElem?_append_right (Nat.le_add_right ..), Nat.add_sub_cancel_left]; exact hk
    obtain ⟨a1, a2, a3⟩ := D'.own _ _ _ q
    refine ⟨a1, a2, ?_⟩
    rcases a3 with z | z
    · obtain ⟨p, hp, o, hpo⟩ := hU _ z
      have := D'.inj _ _ _ _ _ hpo q
      omega
    · exact z
  refine ⟨D2.lo, D2.base, D2.size, fun i a o q => ?_, fun i j a o o' q1 q2 => ?_, D2.keep⟩
  · rw [ltL_get] at q
    by_cases hi : i < l2.length
    · rw [List.getElem?_append_left hi] at q
      exact D2.own i a o (by rw [ltL_get]; exact q)
    · rw [List.getElem?_append_right (by omega)] at q
      obtain ⟨a1, a2, a3⟩ := new _ _ q
      exact ⟨a1, a2, .inr (Nat.le_trans D.base (Nat.le_trans (Nat.le_add_right ..) (hsz ▸ a3)))⟩
  · rw [ltL_get] at q1 q2
    have old : ∀ (i : Nat) (a : Addr) (o : Obj), l2[i]? = some (a, o) → a < h.objs.size := by
      intro i a o q
      have e1 : (l2.map (·.1))[i]? = some a := by rw [List.getElem?_map, q]; rfl
      rw [hl, List.getElem?_map] at e1
      obtain ⟨y, hy, hya⟩ := Option.map_eq_some_iff.mp e1
      exact hya ▸ Heap.lt_size (D.own i y.1 y.2 (by rw [ltL_get, hy])).1
    by_cases hi : i < l2.length
    · rw [List.getElem?_append_left hi] at q1
      by_cases hj : j < l2.length
      · rw [List.getElem?_append_left hj] at q2
        exact D2.inj i j a o o' (by rw [ltL_get]; exact q1) (by rw [ltL_get]; exact q2)
      · rw [List.getElem?_append_right (by omega)] at q2
        exact absurd (old _ _ _ q1) (Nat.not_lt.mpr (new _ _ q2).2.2)
    · rw [List.getElem?_append_right (by omega)] at q1
      by_cases hj : j < l2.length
      · rw [List.getElem?_append_left hj] at q2
        exact absurd (old _ _ _ q2) (Nat.not_lt.mpr (new _ _ q1).2.2)
      · rw [List.getElem?_append_right (by omega)] at q2
        have := D'.inj (l''.length + (i - l2.length)) (l''.length + (j - l2.length)) a o o' (by
          rw [ltL_get, List.getElem?_append_right (Nat.le_add_right ..), Nat.add_sub_cancel_left]; exact q1) (by
          rw [ltL_get, List.getElem?_append_right (Nat.le_add_right ..), Nat.add_sub_cancel_left]; exact q2)
        omega
end
noncomputable abbrev lsO (xs : Array Value) (n : Nat) : Obj := ⟨y4, none, .seq xs n, #[]⟩
noncomputable abbrev gEx (ls al sp lw : Addr) : Ctx := ⟨.builtin "list.extend.loop" ⟨[.ref ls, .ref al, .none], []⟩, none, none, (bNx ls al sp lw).list.tail, none⟩
noncomputable abbrev pEx : Pos := ⟨893, 11, 893, 20⟩
section
variable (w : World) (b1 b2 : Bool) (N T : Nat) (y : NeP)
noncomputable abbrev NeP.rowL (y : NeP) (P : Params) (s6 s7 : Array (Option Value)) (st : Value) (tok : Str) (tt : Tok) (p : Int) (tp : Tok) (xs : Array Value) (n : Nat) : Rw :=
  y.row P s6 s7 st tok tt p tp ++ [(y.ls, lsO xs n)]
noncomputable def ex1 (G : List GenState) (st : Value) (tt : Tok) (p : Int) (tp : Tok) (xs : Array Value) (n : Nat) : Res :=
  sim (M := mdl w) (tp := tpW w b1 b2) (svW w b1 b2 N T) 5 [1, 0, 0, 0, 0] [] (gEx y.ls y.al y.sp y.lw) pEx .base (tden (gEx y.ls y.al y.sp y.lw).code) (ltL (y.rowL (PF w.params b1 b2) #[] #[] st (S []) tt p tp xs n)) 9 0 0 G ck0
theorem ex1_run (G : List GenState) (st : Value) (tt : Tok) (p : Int) (tp : Tok) (xs : Array Value) (n : Nat) :
    ((ex1 w b1 b2 N T y G st tt p tp xs n).outK [0, 1, 2, 3, 4, 5, 6, 7, 8], (ex1 w b1 b2 N T y G st tt p tp xs n).lhs) =
      ((none, some (gNx (bNx y.ls y.al y.sp y.lw) y.al, 0, 0, G, (y.rowL (PF w.params b1 b2) #[] #[] st (S []) tt p tp xs n).map some)), (ex1 w b1 b2 N T y G st tt p tp xs n).rhs) := by
  walk_at "r"
theorem ex2_run (G : List GenState) (st0 : Value) (tt0 : Tok) (p0 : Int) (tp0 : Tok) (N2 T2 : Nat) (st : Value) (tt : Tok) (p : Int) (tp : Tok) (l : List Value) (hl : l.length < 17) (n : Nat) (v : Value) :
    let R := (ex1 w b1 b2 N T y G st0 tt0 p0 tp0 ⟨l⟩ n).next (M := mdl w) (tp := tpW w b1 b2) (.ok (.ret v)) (svW w b1 b2 N2 T2) 4 [9, 9, 9] [] (ltL (y.rowL (PF w.params b1 b2) #[] #[] st (S []) tt p tp ⟨l⟩ n)) 9 G
    (R.outP [0, 1, 2, 3, 4, 5, 6, 7, 8], R.lhs) = ((none, some (gEx y.ls y.al y.sp y.lw, pEx, .base, tden (gEx y.ls y.al y.sp y.lw).code, 0, 0, G, (y.rowL (PF w.params b1 b2) #[] #[] st (S []) tt p tp ⟨l ++ [v]⟩ (n + 1)).map some)), R.rhs) := by
  revert l b1
  exact tw 16 (fun _ => Nat.lt_succ_of_le) (by kernel_rfl) fun _ => Nat.le_of_lt_succ
theorem ex3_run (G : List GenState) (st0 : Value) (tt0 : Tok) (p0 : Int) (tp0 : Tok) (N2 T2 N3 : Nat) (s6 s7 : Array (Option Value)) (st : Value) (tt : Tok) (p : Int) (tp : Tok) (xs : Array Value) (n : Nat) :
    let R := (ex1 w b1 b2 N T y G st0 tt0 p0 tp0 xs n).next (M := mdl w) (tp := tpW w b1 b2) (.error (.ref (N3 + 1))) (svW w b1 b2 N2 T2) 4 [10] [] (ltL (y.rowL (PF w.params b1 b2) s6 s7 st (S []) tt p tp xs n ++ [(N3 + 1, stopO N3)])) 10 G
    (R.out [0, 1, 2, 3, 4, 5, 6, 7, 8], R.lhs) = ((some (.ok (.ret .none)), some (0, 0, G, (y.rowL (PF w.params b1 b2) s6 s7 st (S []) tt p tp xs n).map some)), R.rhs) := by
  walk_at "r"
end
/-- the text is read as these words -/
inductive Reads : List Nat → List (List Nat) → Prop
  | last {cs tok q} : lx1 cs = some (tok, q, true, []) → tok ≠ [] → Reads cs [tok]
  | more {cs tok q rest ws} : lx1 cs = some (tok, q, false, rest) → tok ≠ [] → Reads rest ws → Reads cs (tok :: ws)
/-- texts with their tokens -/
noncomputable def txts : List (List Nat) → List Tok → List Value
  | w :: ws, t :: ts => .str ⟨⟨w⟩⟩ t :: txts ws ts
  | _, _ => []
section
variable {w : World} {b1 b2 : Bool} {y : NeP} {h₀ : Heap} {U : List Addr} {d : Drawn} {os : OsState} {R : Result → Shared → Prop} {G : List GenState}
theorem ext_loop (t : Told w b1 b2) (O : ∀ N T, Ok (svW w b1 b2 N T) w (tpW w b1 b2) h₀ U) (hb1 : y.buf.length ≠ 1) (hb2 : y.buf.length < 1000000) :
    ∀ (ws : List (List Nat)) (cs : List Nat), Reads cs ws → ∀ (p N T : Nat) (tst tt tp : Tok) (h : Heap) (l : List Value) (n : Nat), y.buf.cps.toList.drop p = cs → l.length + ws.length ≤ 17 →
      Rep h₀ h U N (ltL (y.rowL (PF w.params b1 b2) #[] #[] (.str (S [32]) tst) (S []) tt p tp ⟨l⟩ n)) 0 →
      (∀ (h' : Heap) (N' T' p' n' : Nat) (tt' tp' : Tok) (ts : List Tok) (s6 s7 : Array (Option Value)), ts.length = ws.length →
        Rep h₀ h' U N' (ltL (y.rowL (PF w.params b1 b2) s6 s7 .none (S []) tt' p' tp' ⟨l ++ txts ws ts⟩ n')) 0 → R (.ok (.ret .none)) ⟨h', ⟨G⟩, d, T', os⟩) →
      wpCode (mdl w) (gEx y.ls y.al y.sp y.lw) R pEx ⟨h, ⟨G⟩, d, T, os⟩ := by
  intro ws cs hr
  have step : ∀ {cs : List Nat} {tok : List Nat} {q eof : Bool} {rest : List Nat}, lx1 cs = some (tok, q, eof, rest) → tok ≠ [] → ∀ (p N T : Nat) (tst tt tp : Tok) (h : Heap) (l : List Value) (n : Nat), y.buf.cps.toList.drop p = cs → l.length < 17 →
      Rep h₀ h U N (ltL (y.rowL (PF w.params b1 b2) #[] #[] (.str (S [32]) tst) (S []) tt p tp ⟨l⟩ n)) 0 →
      (∀ (h' : Heap) (N' T' : Nat) (tst' tt' tp' tk : Tok) (p' : Nat), y.buf.cps.toList.drop p' = rest → p' ≤ y.buf.length →
        Rep h₀ h' U N' (ltL (y.rowL (PF w.params b1 b2) #[] #[] (enV eof tst') (S []) tt' p' tp' ⟨l ++ [.str ⟨⟨tok⟩⟩ tk]⟩ (n + 1))) 0 → wpCode (mdl w) (gEx y.ls y.al y.sp y.lw) R pEx ⟨h', ⟨G⟩, d, T', os⟩) →
      wpCode (mdl w) (gEx y.ls y.al y.sp y.lw) R pEx ⟨h, ⟨G⟩, d, T, os⟩ := by
    intro cs tok q eof rest hlx hne p N T tst tt tp h l n hcs hl D k
    refine wpCode_run (O N T) (owes_call (r := ex1 w b1 b2 N T y G (.str (S [32]) tst) tt p tp ⟨l⟩ n) (ex1_run w b1 b2 N T y G _ _ _ _ _ _) fun h1 L1 p1 D1 ho1 => ?_) D
    have D2 := D1.row ho1 (by decide)
    have hf : [0, 1, 2, 3, 4].map (fun j => (y.rowL (PF w.params b1 b2) #[] #[] (.str (S [32]) tst) (S []) tt p tp ⟨l⟩ n)[j]?) = [(y.al, lexO y.ad), (y.ad, lexD (PF w.params b1 b2) y.tl y.ao y.pb y.fs (.str (S [32]) tst) (S []) tt), (y.ao, sioO y.as), (y.as, sioD (PF w.params b1 b2) y.ts y.buf y.tb p tp), (y.pb, dqO)].map some := rfl
    have D3 := D2.part [0, 1, 2, 3, 4] hf (by decide)
    have O' := fun N' T' => (O N' T').part (fun a o e => topT_keys _ a o e) D2 [0, 1, 2, 3, 4] hf (svW w b1 b2 N' T') rfl
    refine next_word (y := y.toNxP) t O' hb1 hb2 hcs hlx hne D3 fun h2 N2 T2 tst2 tk tt2 tp2 p2 a1 a2 D4 => ?_
    have D5 := D2.back (l2 := y.rowL (PF w.params b1 b2) #[] #[] (enV eof tst2) (S []) tt2 p2 tp2 ⟨l⟩ n) (l'' := [(y.al, lexO y.ad), (y.ad, lexD (PF w.params b1 b2) y.tl y.ao y.pb y.fs (enV eof tst2) (S []) tt2), (y.ao, sioO y.as), (y.as, sioD (PF w.params b1 b2) y.ts y.buf y.tb p2 tp2), (y.pb, dqO)]) [0, 1, 2, 3, 4] hf D4 rfl (fun i hi => ?_) rfl
    · refine kont_run (V := svW w b1 b2 (N2 + 0) T2) (O _ _) (owes_cutP (ex2_run w b1 b2 N T y G _ _ _ _ _ _ _ _ _ _ l hl n _) fun h3 L3 D6 ho3 => wpCode_means ?_) D5
      exact k h3 _ _ _ _ _ _ p2 a1 a2 (D6.row ho3 (by decide))
    · match i, hi with
      | 0, hi => exact absurd (by simp) hi
      | 1, hi => exact absurd (by simp) hi
      | 2, hi => exact absurd (by simp) hi
      | 3, hi => exact absurd (by simp) hi
      | 4, hi => exact absurd (by simp) hi
      | 5, _ => rfl
      | 6, _ => rfl
      | 7, _ => rfl
      | 8, _ => rfl
      | i + 9, _ => rfl
  induction hr with
  | @last cs tok q hlx hne =>
    intro p N T tst tt tp h l n hcs hl D k
    refine step hlx hne p N T tst tt tp h l n hcs (by simp at hl; omega) D fun h1 N1 T1 tst1 tt1 tp1 tk p1 a1 a2 D1 => ?_
    replace D1 : Rep h₀ h1 U N1 (ltL (y.rowL (PF w.params b1 b2) #[] #[] .none (S []) tt1 p1 tp1 ⟨l ++ [.str ⟨⟨tok⟩⟩ tk]⟩ (n + 1))) 0 := D1
    refine wpCode_run (O N1 T1) (owes_call (r := ex1 w b1 b2 N1 T1 y G .none tt1 p1 tp1 ⟨l ++ [.str ⟨⟨tok⟩⟩ tk]⟩ (n + 1)) (ex1_run w b1 b2 N1 T1 y G _ _ _ _ _ _) fun h2 L2 pp D2 ho2 => ?_) D1
    have D3 := D2.row ho2 (by decide)
    have hf : [0, 1, 2, 3, 4, 5, 6, 7].map (fun j => (y.rowL (PF w.params b1 b2) #[] #[] .none (S []) tt1 p1 tp1 ⟨l ++ [.str ⟨⟨tok⟩⟩ tk]⟩ (n + 1))[j]?) = (y.row (PF w.params b1 b2) #[] #[] .none (S []) tt1 p1 tp1).map some := rfl
    have D4 := D3.part [0, 1, 2, 3, 4, 5, 6, 7] hf (by decide)
    have O' := fun N' T' => (O N' T').part (fun a o e => topT_keys _ a o e) D3 [0, 1, 2, 3, 4, 5, 6, 7] hf (svW w b1 b2 N' T') rfl
    have hp : y.buf.length = p1 := by
      have : y.buf.cps.toList.length ≤ p1 := List.drop_eq_nil_iff.mp a1
      exact Nat.le_antisymm this a2
    refine next_end t O' hb2 hp D4 fun h3 N3 T3 N4 tt3 tp3 s6 s7 D5 => ?_
    have D6 := D3.backs (l2 := y.rowL (PF w.params b1 b2) s6 s7 .none (S []) tt3 p1 tp3 ⟨l ++ [.str ⟨⟨tok⟩⟩ tk]⟩ (n + 1)) (l'' := y.row (PF w.params b1 b2) s6 s7 .none (S []) tt3 p1 tp3) [0, 1, 2, 3, 4, 5, 6, 7] hf D5 rfl (fun i hi => ?_) rfl
    · refine kont_run (V := svW w b1 b2 (N3 + 0) T3) (O _ _) (owes_fin (ex3_run w b1 b2 N1 T1 y G _ _ _ _ _ _ _ s6 s7 _ _ _ _ _ _) fun h5 L5 D7 ho5 => ?_) D6
      exact k h5 _ _ p1 (n + 1) tt3 tp3 [tk] s6 s7 rfl (D7.row ho5 (by decide))
    · match i, hi with
      | 0, hi => exact absurd (by simp) hi
      | 1, hi => exact absurd (by simp) hi
      | 2, hi => exact absurd (by simp) hi
      | 3, hi => exact absurd (by simp) hi
      | 4, hi => exact absurd (by simp) hi
      | 5, hi => exact absurd (by simp) hi
      | 6, hi => exact absurd (by simp) hi
      | 7, hi => exact absurd (by simp) hi
      | 8, _ => rfl
      | i + 9, _ => rfl
  | @more cs tok q rest ws hlx hne hr ih =>
    intro p N T tst tt tp h l n hcs hl D k
    refine step hlx hne p N T tst tt tp h l n hcs (by simp at hl; omega) D fun h1 N1 T1 tst1 tt1 tp1 tk p1 a1 a2 D1 => ?_
    replace D1 : Rep h₀ h1 U N1 (ltL (y.rowL (PF w.params b1 b2) #[] #[] (.str (S [32]) tst1) (S []) tt1 p1 tp1 ⟨l ++ [.str ⟨⟨tok⟩⟩ tk]⟩ (n + 1))) 0 := D1
    refine ih p1 N1 T1 tst1 tt1 tp1 h1 (l ++ [.str ⟨⟨tok⟩⟩ tk]) (n + 1) a1 (by simp at hl ⊢; omega) D1 fun h2 N2 T2 p2 n2 tt2 tp2 ts s6 s7 e D2 => ?_
    refine k h2 N2 T2 p2 n2 tt2 tp2 (tk :: ts) s6 s7 (by simp [e]) ?_
    rw [List.append_assoc] at D2
    exact D2
end
noncomputable def tlS (k : Nat) : Nat → Tok
  | 20 => k + 36 | 21 => k + 38 | 22 => k + 40 | 23 => k + 42 | 24 => k + 45 | 4 => k + 96 | 25 => k + 48 | 5 => k + 52 | 26 => k + 57 | 6 => k + 55 | 27 => k + 59 | 28 => k + 62 | 8 => k + 60
  | 29 => k + 65 | 9 => k + 63 | 30 => k + 68 | 10 => k + 66 | 31 => k + 71 | 32 => k + 73 | 33 => k + 76 | 13 => k + 74 | 34 => k + 79 | 14 => k + 77 | 35 => k + 82 | 36 => k + 84 | 37 => k + 86 | 38 => k + 90 | 18 => k + 87
  | _ => 0
noncomputable def tsS (k : Nat) : Nat → Tok
  | 0 => k + 19
  | 1 => k + 22
  | _ => k + 25
noncomputable abbrev spF (P : Params) (k : Nat) (al : Addr) (buf : Str) (tb : Tok) : Array DictEntry := ⟨[dk P (S [115]) k (.str buf tb), dk P (S [99, 111, 109, 109, 101, 110, 116, 115]) (k + 1) (.bool false),
  dk P z87 (k + 2) (.bool true), dk P (S [108, 101, 120]) (k + 93) (.ref al)]⟩
noncomputable abbrev gSp (buf : Str) (tb : Tok) (lw : Addr) : Ctx := ⟨.call (.ref 880) ⟨[.str buf tb], []⟩, none, none, [fr ⟨T.f921.1.2.1, lwE lw, ⟨938, 11, 938, 35⟩⟩, callerB], none⟩
noncomputable abbrev yS (P : Params) (N k : Nat) (buf : Str) (tb : Tok) (lw : Addr) (e7 : Array DictEntry) (n7 : Nat) : NeP := { al := N + 2, ad := N + 1, ao := N + 8, as := N + 7, pb := N + 11, fs := N + 12, tl := tlS k, ts := tsS k, buf := buf, tb := tb, ls := N + 13, sp := N, lw := lw, e6 := spF P k (N + 2) buf tb, n6 := 4, e7 := e7, n7 := n7 }
noncomputable abbrev gLi (ls al sp lw : Addr) : Ctx := ⟨.call (.builtin "list.__init__") ⟨[.ref ls, .ref al], []⟩, none, none, (bNx ls al sp lw).list.tail, none⟩
noncomputable abbrev veq (a b : Value) : Bool := @BEq.beq Value (@instBEqOfDecidableEq Value PySem.W.Fast.tw7966671052430208091) a b
noncomputable def lewC (c : Bool) (self it result : Value) : Sem Fin :=
  PySem.W.R.bindR (PySem.W.Fast.tw14684505520029207082 it) fun t =>
    if ((c || veq t y4) || veq t y3) = true then
      PySem.W.R.bindR (PySem.W.Fast.tw10557518346328741659 it) fun xs =>
        PySem.W.R.bindR (PySem.W.Fast.tw10557518346328741659 self) fun mine =>
          if (!mine.isEmpty && PySem.Builtin.List.listTooLong (mine.size + xs.size)) = true then
            PySem.W.R.bindR (PySem.unsupported "list.extend:memory" : Sem Unit) fun _ => PySem.W.R.bindR (PySem.W.Fast.tw2060155186595164805 self fun x => @HAppend.hAppend (Array Value) (Array Value) (Array Value) (@instHAppendOfAppend (Array Value) PySem.W.Fast.tw494991955013373658) x xs) fun _ => PySem.W.Fast.tw6905046200447255374 result
          else PySem.W.R.bindR (PySem.W.Fast.tw2060155186595164805 self fun x => @HAppend.hAppend (Array Value) (Array Value) (Array Value) (@instHAppendOfAppend (Array Value) PySem.W.Fast.tw494991955013373658) x xs) fun _ => PySem.W.Fast.tw6905046200447255374 result
    else
      PySem.W.R.bindR (PySem.W.Fast.tw8711993805878244202 it) fun iter =>
        PySem.W.R.bindR (PySem.W.Fast.tw17359229931016689406 [iter] (PySem.W.Fast.tw15112759502256325868 it)) fun room =>
          if (room || PySem.W.R.anyR PySem.W.Fast.tw16271295295120926622 fun x => veq t (.type x)) = true then
            PySem.W.R.bindR (PySem.rule "list.extend.makes-room") fun _ => PySem.W.R.bindR (PySem.W.Fast.tw922294955767894045 self) fun _ => PySem.W.Fast.tw12377390311714414960 (.builtin PySem.W.SL.s9316426964554523096x16 ⟨[self, iter, result], []⟩)
          else PySem.W.Fast.tw12377390311714414960 (.builtin PySem.W.SL.s9316426964554523096x16 ⟨[self, iter, result], []⟩)
theorem lew_eq (self it result : Value) : PySem.W.Fast.tw8938917530802602619 self it result = lewC (PySem.Builtin.List.listSameRef self it) self it result := by kernel_rfl
noncomputable abbrev gLj (ls al sp lw : Addr) : Ctx := ⟨.builtin "list.__init__" ⟨[.ref ls, .ref al], []⟩, none, none, (bNx ls al sp lw).list.tail, none⟩
noncomputable abbrev msSp1 : List Nat := (dg 859 0xff00200333040004040400004223330400040404000042220053330400040404000045555533304000404040000453330400040404000045eeee0ee0003330400040404000045333040004040400004533304000404040000453330400040404000045dddd0dd0003330400040404000045333040004040400004533304000404040000453330400040404000045333040004040400004533304000404040000453330400040404000040304400040000453044000400004533304000404040000453330400040404000045333040004040400004553330400040404000045533304000404040000455333040004040400004555559990a0000000a0a0a00000000abc0c0cccc90aa0000000a00000000ac0cccc0000b9a0000a0000000a0000000abb9990a0000000a0a0a00000000ab9990a0000000a0a0a00000000ab9990a0000000a0a0a00000000abb000b00b0b0bb000b00b0bbbbbb00000000a0a00000000000000000000000000000000000000800008000808888880000000000000000000000000000050000500055555555550000000040400000000000000000000000000000022020222222000)
noncomputable abbrev nSp1 : Nat := 1368
section
variable (w : World) (b1 b2 : Bool) (N T : Nat)
noncomputable def sp1 (pos : Pos) (G : List GenState) (buf : Str) (tb : Tok) (lw : Addr) (e7 : Array DictEntry) (n7 : Nat) : Res :=
  sim (M := mdl w) (tp := tpW w b1 b2) (svW w b1 b2 N T) nSp1 msSp1 [] (gSp buf tb lw) pos .base (tden (gSp buf tb lw).code) (ltL [(lw, frO e7 n7 #[])]) 1 0 0 G ck0
theorem sp1_run (pos : Pos) (G : List GenState) (buf : Str) (tb : Tok) (lw : Addr) (e7 : Array DictEntry) (n7 : Nat) :
    ((sp1 w b1 b2 N T pos G buf tb lw e7 n7).outKP [3, 2, 9, 8, 12, 13, 1, 0, 14], (sp1 w b1 b2 N T pos G buf tb lw e7 n7).lhs) =
      ((none, some (gLi (N + 13) (N + 2) N lw, pEx, 14, 99, G, ((yS (PF w.params b1 b2) N T buf tb lw e7 n7).rowL (PF w.params b1 b2) #[] #[] (.str (S [32]) (T + 69)) (S []) (T + 80) 0 (T + 23) #[] 0).map some)), (sp1 w b1 b2 N T pos G buf tb lw e7 n7).rhs) := by
  walk_at "r"
theorem sp2_run (pos : Pos) (G : List GenState) (buf : Str) (tb : Tok) (lw : Addr) (e7 : Array DictEntry) (n7 : Nat) (N2 T2 : Nat) (L : LT) (cnt : Nat) :
    let R := (sp1 w b1 b2 N T pos G buf tb lw e7 n7).next (M := mdl w) (tp := tpW w b1 b2) (.ok (.ret .none)) (svW w b1 b2 N2 T2) 5 [] [] L cnt G
    (R.out [7, 8], R.lhs) = ((some (.ok (.ret (.ref (N + 13)))), some (0, 0, G, [L.get 7, L.get 8])), R.rhs) := by
  walk_at "r"
variable (y : NeP)
noncomputable def li1 (G : List GenState) (st : Value) (tt : Tok) (p : Int) (tp : Tok) : Res :=
  sim (M := mdl w) (tp := tpW w b1 b2) (svW w b1 b2 N T) 6 [9, 9, 9, 9, 9] [] (gLi y.ls y.al y.sp y.lw) pEx .base (tden (gLi y.ls y.al y.sp y.lw).code) (ltL (y.rowL (PF w.params b1 b2) #[] #[] st (S []) tt p tp #[] 0)) 9 0 0 G ck0
theorem li1_run (G : List GenState) (st : Value) (tt : Tok) (p : Int) (tp : Tok) :
    ((li1 w b1 b2 N T y G st tt p tp).outP [0, 1, 2, 3, 4, 5, 6, 7, 8], (li1 w b1 b2 N T y G st tt p tp).lhs) =
      ((none, some (gLj y.ls y.al y.sp y.lw, pEx, .base, PySem.W.Fast.tw8938917530802602619 (.ref y.ls) (.ref y.al) .none, 0, 0, G, (y.rowL (PF w.params b1 b2) #[] #[] st (S []) tt p tp #[] 0).map some)), (li1 w b1 b2 N T y G st tt p tp).rhs) := by
  walk_at "r"
noncomputable def li2 (G : List GenState) (st : Value) (tt : Tok) (p : Int) (tp : Tok) : Res :=
  sim (M := mdl w) (tp := tpW w b1 b2) (svW w b1 b2 N T) 47 (dg 35 0x999999000100010001a0aa0000000100011) [] (gLj y.ls y.al y.sp y.lw) pEx .base (lewC false (.ref y.ls) (.ref y.al) .none) (ltL (y.rowL (PF w.params b1 b2) #[] #[] st (S []) tt p tp #[] 0)) 9 0 0 G ck0
theorem li2_run (G : List GenState) (st : Value) (tt : Tok) (p : Int) (tp : Tok) :
    ((li2 w b1 b2 N T y G st tt p tp).outP [0, 1, 2, 3, 4, 5, 6, 7, 8], (li2 w b1 b2 N T y G st tt p tp).lhs) =
      ((none, some (gEx y.ls y.al y.sp y.lw, pEx, .base, tden (gEx y.ls y.al y.sp y.lw).code, 1, 1, G, (y.rowL (PF w.params b1 b2) #[] #[] st (S []) tt p tp #[] 2).map some)), (li2 w b1 b2 N T y G st tt p tp).rhs) := by
  walk_at "r"
end
section
variable {w : World} {b1 b2 : Bool} {y : NeP} {h₀ : Heap} {U : List Addr} {d : Drawn} {os : OsState} {R : Result → Shared → Prop} {G : List GenState}
/-- list(lex) -/
theorem list_init (t : Told w b1 b2) (O : ∀ N T, Ok (svW w b1 b2 N T) w (tpW w b1 b2) h₀ U) (hb1 : y.buf.length ≠ 1) (hb2 : y.buf.length < 1000000) {ws : List (List Nat)} (hr : Reads y.buf.cps.toList ws) (hw : ws.length ≤ 17) (hne : y.ls ≠ y.al)
    {N T : Nat} {tst tt tp : Tok} {h : Heap} (D : Rep h₀ h U N (ltL (y.rowL (PF w.params b1 b2) #[] #[] (.str (S [32]) tst) (S []) tt 0 tp #[] 0)) 0)
    (k : ∀ (h' : Heap) (N' T' p' n' : Nat) (tt' tp' : Tok) (ts : List Tok) (s6 s7 : Array (Option Value)), ts.length = ws.length →
        Rep h₀ h' U N' (ltL (y.rowL (PF w.params b1 b2) s6 s7 .none (S []) tt' p' tp' ⟨txts ws ts⟩ n')) 0 → R (.ok (.ret .none)) ⟨h', ⟨G⟩, d, T', os⟩) :
    wpCode (mdl w) (gLi y.ls y.al y.sp y.lw) R pEx ⟨h, ⟨G⟩, d, T, os⟩ := by
  refine wpCode_run (O N T) (owes_cutP (li1_run w b1 b2 N T y G _ tt 0 tp) fun h1 L1 D1 ho1 => ?_) D
  have D2 := D1.row ho1 (by decide)
  rw [lew_eq, show PySem.Builtin.List.listSameRef (.ref y.ls) (.ref y.al) = false from by simpa [PySem.Builtin.List.listSameRef] using hne]
  refine sim_sound (V := svW w b1 b2 N T) (O N T) _ _ _ _ _ _ _ _ _ 0 0 G ck0 (owes_cutP (li2_run w b1 b2 N T y G _ tt 0 tp) fun h2 L2 D3 ho2 => wpCode_means ?_) h1 D2
  exact ext_loop t O hb1 hb2 ws _ hr 0 _ _ _ _ _ h2 [] 2 rfl (by simpa using hw) (D3.row ho2 (by decide)) k
theorem split_words (t : Told w b1 b2) (O : ∀ N T, Ok (svW w b1 b2 N T) w (tpW w b1 b2) h₀ U) {buf : Str} {tb : Tok} {lw : Addr} {e7 : Array DictEntry} {n7 : Nat} (hb1 : buf.length ≠ 1) (hb2 : buf.length < 1000000) {ws : List (List Nat)} (hr : Reads buf.cps.toList ws) (hw : ws.length ≤ 17)
    {N T : Nat} {pos : Pos} {h : Heap} (D : Rep h₀ h U N (ltL [(lw, frO e7 n7 #[])]) 0)
    (k : ∀ (h' : Heap) (N' T' n' : Nat) (ts : List Tok) (s7 : Array (Option Value)), ts.length = ws.length →
        Rep h₀ h' U N' (ltL [(lw, frO e7 n7 s7), (N + 13, lsO ⟨txts ws ts⟩ n')]) 0 → R (.ok (.ret (.ref (N + 13)))) ⟨h', ⟨G⟩, d, T', os⟩) :
    wpCode (mdl w) (gSp buf tb lw) R pos ⟨h, ⟨G⟩, d, T, os⟩ := by
  refine wpCode_run (O N T) (owes_callP (r := sp1 w b1 b2 N T pos G buf tb lw e7 n7) (sp1_run w b1 b2 N T pos G buf tb lw e7 n7) fun h1 L1 D1 ho1 => ?_) D
  have D2 := D1.row ho1 (by decide)
  refine list_init (y := yS (PF w.params b1 b2) N T buf tb lw e7 n7) t O hb1 hb2 hr hw (by show N + 13 ≠ N + 2; omega) D2 fun h2 N2 T2 p2 n2 tt2 tp2 ts s6 s7 hts D3 => ?_
  refine kont_run (V := svW w b1 b2 N2 T2) (O _ _) (owes_fin (sp2_run w b1 b2 N T pos G buf tb lw e7 n7 N2 T2 _ 0) fun h3 L3 D4 ho3 => ?_) D3
  exact k h3 _ _ n2 ts s7 hts (D4.row (f := [7, 8]) (l := [(lw, frO e7 n7 s7), (N + 13, lsO ⟨txts ws ts⟩ n2)]) ho3 (by decide))
end
noncomputable def MeansG (M : Model) (Φ : End → Shared → Prop) (Γ : Ctx) (p : Pos) (κ : Kont) (t : Sem Fin) (s : Shared) : Prop := match κ with
  | .base => ∃ e s', Runs M Γ p t [] s e s' ∧ Φ e s'
  | .ret Γ' p' k κ' => Means M (fun r s' => MeansG M Φ Γ' p' κ' (k r) s') Γ p .base t s
def endG (M : Model) (Φ : End → Shared → Prop) (κ : Kont) (r : Result) (s : Shared) : Prop := match κ with
  | .base => Φ (.ret r) s
  | .ret Γ p k κ => MeansG M Φ Γ p κ (k r) s
def St.GoesG (st : St) (V : Sv) (w : World) (h₀ : Heap) (U : List Addr) (d : Drawn) (os : OsState) (R : End → Shared → Prop) : Prop :=
  ∀ h, Rep h₀ h U V.N st.L st.m → MeansG (mdl w) R st.Γ st.p st.κ st.t ⟨h, ⟨st.G⟩, d, V.T + st.i, os⟩
noncomputable def Res.OwesG (V : Sv) (w : World) (h₀ : Heap) (U : List Addr) (d : Drawn) (os : OsState) (R : End → Shared → Prop) : Res → Prop
  | .stop _ => False
  | .cut st ck => ck.Good ∧ st.GoesG V w h₀ U d os R
  | .fin r st ck => ck.Good ∧ ∀ h, Rep h₀ h U V.N st.L st.m → R (.ret r) ⟨h, ⟨st.G⟩, d, V.T + st.i, os⟩
theorem Res.OwesG.good {V : Sv} {w : World} {h₀ : Heap} {U : List Addr} {d : Drawn} {os : OsState} {R : End → Shared → Prop} {r : Res} {ck : Ck} (o : r.OwesG V w h₀ U d os R) (v : r.Over ck) : ck.Good := by
  cases r with
  | stop => cases o
  | cut st ck' => exact v.good o.1
  | fin x st ck' => exact v.good o.1
section
variable {M : Model} {Φ : End → Shared → Prop} {Γ : Ctx} {p : Pos} {κ : Kont} {s : Shared}
theorem meansG_done {f : Flow} (h : endG M Φ κ (.ok f) s) : MeansG M Φ Γ p κ (.pure (.done f)) s := by
  cases κ with
  | base => exact ⟨_, _, .done, h⟩
  | ret => unfold MeansG; rw [means_done]; exact h
theorem meansG_raise {e : Value} (h : endG M Φ κ (.error e) s) : MeansG M Φ Γ p κ (.raise e) s := by
  cases κ with
  | base => exact ⟨_, _, .raise, h⟩
  | ret => unfold MeansG; rw [means_raise]; exact h
theorem meansG_again {c : Code} (hq : c.quiet = true) (h : MeansG M Φ (Γ.goto c) p κ (M.den c) s) : MeansG M Φ Γ p κ (.pure (.again c)) s := by
  cases κ with
  | base => obtain ⟨e, s', r, x⟩ := h; exact ⟨e, s', .again hq r, x⟩
  | ret => unfold MeansG at h ⊢; exact means_again hq h
theorem meansG_call {c : Code} {hd : Option Value} {g : Bool} {l : List Value} {k : Result → Sem Fin} (x : wpCode M (Γ.enter c hd p) (fun r s' => MeansG M Φ Γ p κ (k r) s') p s) : MeansG M Φ Γ p κ (.call c hd g l k) s := by
  cases κ with
  | base => obtain ⟨r, s1, h1, e, s2, h2, h3⟩ := x; exact ⟨e, s2, .call h1 h2, h3⟩
  | ret => unfold MeansG; refine means_call (wpCode_mono (fun r s' q => ?_) x); unfold MeansG at q; exact q
theorem meansG_call_in {c : Code} {hd : Option Value} {g : Bool} {l : List Value} {k : Result → Sem Fin} (x : MeansG M Φ (Γ.enter c hd p) p (.ret Γ p k κ) (M.den c) s) : MeansG M Φ Γ p κ (.call c hd g l k) s := by
  unfold MeansG at x
  exact meansG_call ((wpCode_iff_wp M (Γ.enter c hd p) _ p s).mpr x)
theorem meansG_rule {tag : String} {k : Unit → Sem Fin} (h : MeansG M Φ Γ p κ (k ()) s) : MeansG M Φ Γ p κ (.rule tag k) s := by
  cases κ with
  | base => obtain ⟨e, s', r, x⟩ := h; exact ⟨e, s', .rule r, x⟩
  | ret => unfold MeansG Means at h ⊢; rw [Sem.wp_rule]; exact h
theorem meansG_at {q : Pos} {k : Unit → Sem Fin} (h : MeansG M Φ Γ q κ (k ()) s) : MeansG M Φ Γ p κ (.at q k) s := by
  cases κ with
  | base => obtain ⟨e, s', r, x⟩ := h; exact ⟨e, s', .at r, x⟩
  | ret => unfold MeansG Means at h ⊢; rw [Sem.wp_at]; exact h
theorem meansG_point {l : List Value} {k : Unit → Sem Fin} (h : MeansG M Φ Γ p κ (k ()) s) : MeansG M Φ Γ p κ (.point l k) s := by
  cases κ with
  | base => obtain ⟨e, s', r, x⟩ := h; exact ⟨e, s', .point r, x⟩
  | ret => unfold MeansG Means at h ⊢; rw [Sem.wp_point]; exact h
theorem meansG_ask {k : Setting → Sem Fin} (h : MeansG M Φ Γ p κ (k ⟨M.prog, M.w.params⟩) s) : MeansG M Φ Γ p κ (.ask k) s := by
  cases κ with
  | base => obtain ⟨e, s', r, x⟩ := h; exact ⟨e, s', .ask r, x⟩
  | ret => unfold MeansG Means at h ⊢; rw [Sem.wp_ask]; exact h
theorem meansG_load {a : Addr} {q : Option Value} {k : Obj → Sem Fin} (h : ∃ ob, s.heap.get? a = some ob ∧ MeansG M Φ Γ p κ (k ob) s) : MeansG M Φ Γ p κ (.load a q k) s := by
  cases κ with
  | base => obtain ⟨ob, ho, e, s', r, x⟩ := h; exact ⟨e, s', .load ho r, x⟩
  | ret => unfold MeansG Means at h ⊢; rw [Sem.wp_load]; exact h
theorem meansG_loadIfAlive {a : Addr} {k : Option Obj → Sem Fin} (h : MeansG M Φ Γ p κ (k (s.heap.get? a)) s) : MeansG M Φ Γ p κ (.loadIfAlive a k) s := by
  cases κ with
  | base => obtain ⟨e, s', r, x⟩ := h; exact ⟨e, s', .loadIfAlive r, x⟩
  | ret => unfold MeansG Means at h ⊢; rw [Sem.wp_loadIfAlive]; exact h
theorem meansG_alloc {ob : Obj} {k : Addr → Sem Fin} (h : MeansG M Φ Γ p κ (k s.heap.objs.size) { s with heap := s.heap.push ob }) : MeansG M Φ Γ p κ (.alloc ob k) s := by
  cases κ with
  | base => obtain ⟨e, s', r, x⟩ := h; exact ⟨e, s', .alloc r, x⟩
  | ret => unfold MeansG Means at h ⊢; rw [Sem.wp_alloc]; exact h
theorem meansG_update {a : Addr} {q : Option Value} {f : Obj → Obj} {k : Unit → Sem Fin} (h : (s.heap.get? a).isSome = true ∧ MeansG M Φ Γ p κ (k ()) { s with heap := s.heap.update a f }) : MeansG M Φ Γ p κ (.update a q f k) s := by
  cases κ with
  | base => obtain ⟨ho, e, s', r, x⟩ := h; exact ⟨e, s', .update ho r, x⟩
  | ret => unfold MeansG Means at h ⊢; rw [Sem.wp_update]; exact h
theorem meansG_fresh {k : Tok → Sem Fin} (h : MeansG M Φ Γ p κ (k s.toks) { s with toks := s.toks + 1 }) : MeansG M Φ Γ p κ (.fresh k) s := by
  cases κ with
  | base => obtain ⟨e, s', r, x⟩ := h; exact ⟨e, s', .fresh r, x⟩
  | ret => unfold MeansG Means at h ⊢; rw [Sem.wp_fresh]; exact h
theorem meansG_handled {own : Bool} {k : Option Value → Sem Fin} (h : MeansG M Φ Γ p κ (k (if own then Γ.own else Γ.handled)) s) : MeansG M Φ Γ p κ (.handled own k) s := by
  cases κ with
  | base => obtain ⟨e, s', r, x⟩ := h; exact ⟨e, s', .handled r, x⟩
  | ret => unfold MeansG Means at h ⊢; rw [Sem.wp_handled]; exact h
theorem meansG_stack {k : List (Code × Pos) → Sem Fin} (h : MeansG M Φ Γ p κ (k ((Γ.code, p) :: Γ.below)) s) : MeansG M Φ Γ p κ (.stack k) s := by
  cases κ with
  | base => obtain ⟨e, s', r, x⟩ := h; exact ⟨e, s', .stack r, x⟩
  | ret => unfold MeansG Means at h ⊢; rw [Sem.wp_stack]; exact h
theorem meansG_newGen {c : Code} {k : Nat → Sem Fin} (h : MeansG M Φ Γ p κ (k s.gens.size) { s with gens := s.gens.push (.fresh c) }) : MeansG M Φ Γ p κ (.newGen c k) s := by
  cases κ with
  | base => obtain ⟨e, s', r, x⟩ := h; exact ⟨e, s', .newGen r, x⟩
  | ret => unfold MeansG Means at h ⊢; rw [Sem.wp_newGen]; exact h
theorem meansG_genState {g : Nat} {k : _ → Sem Fin} (h : ∃ st, s.gens[g]? = some st ∧ MeansG M Φ Γ p κ (k st.seen) s) : MeansG M Φ Γ p κ (.genState g k) s := by
  cases κ with
  | base => obtain ⟨st, hg, e, s', r, x⟩ := h; exact ⟨e, s', .genState hg r, x⟩
  | ret => unfold MeansG Means at h ⊢; rw [Sem.wp_genState]; exact h
end
section
variable {V : Sv} {w : World} {h₀ : Heap} {U : List Addr} {d : Drawn} {os : OsState} {R : End → Shared → Prop} {tp : Nat → Option Obj} {ih : SimTy (mdl w) tp}
theorem retS_soundG {r : Result} {ms : List Nat} {xs : List (Ctr (mdl w) tp)} {Γ : Ctx} {p : Pos} {κ : Kont} {t : Sem Fin} {L : LT} {cnt m i : Nat} {G : List GenState} {ck : Ck}
    (IS : ∀ ms xs Γ p κ t L cnt m i G ck, (ih ms xs Γ p κ t L cnt m i G ck).OwesG V w h₀ U d os R → ∀ h, Rep h₀ h U V.N L m → MeansG (mdl w) R Γ p κ t ⟨h, ⟨G⟩, d, V.T + i, os⟩)
    (o : (retS ih r ms xs Γ p κ t L cnt m i G ck).OwesG V w h₀ U d os R) {h : Heap} (D : Rep h₀ h U V.N L m) : endG (mdl w) R κ r ⟨h, ⟨G⟩, d, V.T + i, os⟩ := by
  cases κ with
  | base => exact o.2 h D
  | ret Γ' p' k κ' => exact IS _ _ _ _ _ _ _ _ _ _ _ _ o h D
theorem ctrS_soundG (O : Ok V w tp h₀ U) {C : Ctr (mdl w) tp} {ms : List Nat} {xs : List (Ctr (mdl w) tp)} {Γ : Ctx} {p : Pos} {κ : Kont} {c : Code} {g : Bool} {l : List Value} {k : Result → Sem Fin} {L : LT} {cnt m i : Nat} {G : List GenState} {ck : Ck}
    (IH : ∀ ms xs Γ p κ t L cnt m i G ck, (ih ms xs Γ p κ t L cnt m i G ck).Over ck)
    (IS : ∀ ms xs Γ p κ t L cnt m i G ck, (ih ms xs Γ p κ t L cnt m i G ck).OwesG V w h₀ U d os R → ∀ h, Rep h₀ h U V.N L m → MeansG (mdl w) R Γ p κ t ⟨h, ⟨G⟩, d, V.T + i, os⟩)
    (o : (ctrS V ih C ms xs Γ p κ c k L cnt m i G ck).OwesG V w h₀ U d os R) {h : Heap} (D : Rep h₀ h U V.N L m) : MeansG (mdl w) R Γ p κ (.call c none g l k) ⟨h, ⟨G⟩, d, V.T + i, os⟩ := by
  unfold ctrS at o
  split at o
  · cases o
  · rename_i ck' e
    have go : ck'.Good → wpCode (mdl w) (Γ.enter c none p) (fun r' s' => r' = C.r ∧ Eff ⟨h, ⟨G⟩, d, V.T + i, os⟩ s' (C.upd.map (·.2)) C.new C.g C.j) p ⟨h, ⟨G⟩, d, V.T + i, os⟩ := by
      intro gd
      have gx := (preS_over _ _ _ _ e).good gd
      have g0 := (ctxS_over _ _ _).good gx
      have hc : c = C.c := g0.headC
      have hn : V.N + m = C.n := g0.headA
      have ht : V.T + i = C.tk := (List.cons.inj (List.cons.inj g0.a).2).1
      have hp := preS_holds D _ _ _ e gd
      subst hc
      refine C.ok _ _ _ (ctxS_is gx) ⟨hn ▸ Nat.le_trans D.lo (Nat.le_add_right ..), D.size.trans hn, ht, fun a ob ea => ?_, fun x hx => ⟨(D.own _ _ _ (hp x hx)).1, (D.own _ _ _ (hp x hx)).2.1⟩, fun x hx y hy q => ?_⟩
      · exact D.keep a ob (O.top a ob ea).1 (O.top a ob ea).2
      · exact D.inj _ _ x.2.1 x.2.2 y.2.2 (hp x hx) (q ▸ hp y hy)
    split at o
    · rename_i u hu
      split at o
      · cases o
      · rename_i y ey
        split at o
        · rename_i hn
          have gd := (Res.OwesG.good o (IH ..) : Ck.Good ⟨(y.1, u.2.1) :: ck'.a, ck'.c, ck'.o, ck'.x⟩)
          have ga := gd.headA
          refine meansG_call (wpCode_mono ?_ (go ((Ck.Over.pushA _ _).good gd)))
          rintro r s' ⟨rfl, E⟩
          obtain ⟨h', g', d', t', os'⟩ := s'
          have e1 : t' = V.T + (i + C.j) := (E.toks : t' = V.T + i + C.j).trans (Nat.add_assoc ..)
          have e2 : g' = ⟨G⟩ := E.gens
          have e3 : d' = d := E.drawn
          have e4 : os' = os := E.os
          subst e1 e2 e3 e4
          rw [hu, hn] at E
          refine IS _ _ _ _ _ _ _ _ _ _ _ _ o h' ?_
          have ga' : y.1 = u.2.1 := ga
          refine D.eff_upd C.g (a := y.1) (o := y.2) ey E.size (fun b ob eb ne => E.keep b ob eb fun x hx => ?_) ?_
          · cases hx; exact ga' ▸ ne
          · rw [ga']; exact E.upd _ rfl
        · cases o
    · rename_i hu
      split at o
      · rename_i hn
        refine meansG_call (wpCode_mono ?_ (go (Res.OwesG.good o (IH ..))))
        rintro r s' ⟨rfl, E⟩
        obtain ⟨h', g', d', t', os'⟩ := s'
        have e1 : t' = V.T + (i + C.j) := (E.toks : t' = V.T + i + C.j).trans (Nat.add_assoc ..)
        have e2 : g' = ⟨G⟩ := E.gens
        have e3 : d' = d := E.drawn
        have e4 : os' = os := E.os
        subst e1 e2 e3 e4
        rw [hu, hn] at E
        exact IS _ _ _ _ _ _ _ _ _ _ _ _ o h' (D.eff C.g E.size fun b ob eb => E.keep b ob eb fun x hx => nomatch hx)
      · rename_i ob hn
        split at o
        · rename_i z ez
          refine meansG_call (wpCode_mono ?_ (go (Res.OwesG.good o (IH ..))))
          rintro r s' ⟨rfl, E⟩
          obtain ⟨h', g', d', t', os'⟩ := s'
          have e1 : t' = V.T + (i + C.j) := (E.toks : t' = V.T + i + C.j).trans (Nat.add_assoc ..)
          have e2 : g' = ⟨G⟩ := E.gens
          have e3 : d' = d := E.drawn
          have e4 : os' = os := E.os
          subst e1 e2 e3 e4
          rw [hu, hn] at E
          exact IS _ _ _ _ _ _ _ _ _ _ _ _ o h' (D.eff_new C.g E.size (fun b ob eb => E.keep b ob eb fun x hx => nomatch hx) (E.new _ rfl) (by rw [ez]; rfl))
        · cases o
theorem step_soundG (O : Ok V w tp h₀ U)
    (IH : ∀ ms xs Γ p κ t L cnt m i G ck, (ih ms xs Γ p κ t L cnt m i G ck).Over ck)
    (IS : ∀ ms xs Γ p κ t L cnt m i G ck, (ih ms xs Γ p κ t L cnt m i G ck).OwesG V w h₀ U d os R → ∀ h, Rep h₀ h U V.N L m → MeansG (mdl w) R Γ p κ t ⟨h, ⟨G⟩, d, V.T + i, os⟩) :
    ∀ ms xs Γ p κ t L cnt m i G ck, (simStep V ih ms xs Γ p κ t L cnt m i G ck).OwesG V w h₀ U d os R → ∀ h, Rep h₀ h U V.N L m → MeansG (mdl w) R Γ p κ t ⟨h, ⟨G⟩, d, V.T + i, os⟩ := by
  intro ms xs Γ p κ t L cnt m i G ck o h D
  have hden : (mdl w).den = tden := tden_eq
  cases t with
  | pure fin =>
    cases fin with
    | done f => exact meansG_done (retS_soundG IS o D)
    | again c =>
      simp only [simStep] at o
      split at o
      · rename_i hq
        refine meansG_again (calm_quiet hq) ?_
        rw [hden]
        exact IS _ _ _ _ _ _ _ _ _ _ _ _ o h D
      · cases o
  | raise e => exact meansG_raise (retS_soundG IS o D)
  | rule tag k => refine meansG_rule ?_; exact IS _ _ _ _ _ _ _ _ _ _ _ _ o h D
  | «at» q k => refine meansG_at ?_; exact IS _ _ _ _ _ _ _ _ _ _ _ _ o h D
  | point l k => refine meansG_point ?_; exact IS _ _ _ _ _ _ _ _ _ _ _ _ o h D
  | ask k =>
    refine meansG_ask ?_
    show MeansG (mdl w) R Γ p κ (k ⟨prog, w.params⟩) _
    rw [O.ask]
    exact IS _ _ _ _ _ _ _ _ _ _ _ _ o h D
  | load a q k =>
    cases ms with
    | nil => cases o
    | cons x ms =>
      cases x with
      | zero =>
        simp only [simStep] at o
        split at o
        · rename_i ob e
          obtain ⟨t1, t2⟩ := O.top a ob e
          refine meansG_load ?_
          exact ⟨ob, D.keep a ob t1 t2, IS _ _ _ _ _ _ _ _ _ _ _ _ o h D⟩
        · cases o
      | succ j =>
        simp only [simStep] at o
        split at o
        · rename_i y e
          have ga : a = y.1 := (Res.OwesG.good o (IH ..) : Ck.Good ⟨(a, y.1) :: ck.a, ck.c, ck.o, ck.x⟩).headA
          refine meansG_load ?_
          exact ⟨y.2, ga ▸ (D.own _ _ _ e).1, IS _ _ _ _ _ _ _ _ _ _ _ _ o h D⟩
        · cases o
  | loadIfAlive a k =>
    cases ms with
    | nil => cases o
    | cons x ms =>
      cases x with
      | zero =>
        simp only [simStep] at o
        split at o
        · rename_i ob e
          obtain ⟨t1, t2⟩ := O.top a ob e
          refine meansG_loadIfAlive ?_
          show MeansG (mdl w) R Γ p κ (k (h.get? a)) _
          rw [D.keep a ob t1 t2]
          exact IS _ _ _ _ _ _ _ _ _ _ _ _ o h D
        · cases o
      | succ j =>
        simp only [simStep] at o
        split at o
        · rename_i y e
          have ga : a = y.1 := (Res.OwesG.good o (IH ..) : Ck.Good ⟨(a, y.1) :: ck.a, ck.c, ck.o, ck.x⟩).headA
          refine meansG_loadIfAlive ?_
          show MeansG (mdl w) R Γ p κ (k (h.get? a)) _
          rw [ga, (D.own _ _ _ e).1]
          exact IS _ _ _ _ _ _ _ _ _ _ _ _ o h D
        · cases o
  | alloc ob k =>
    simp only [simStep] at o
    split at o
    · cases o
    · rename_i hf
      split at o
      · rename_i z ez
        refine meansG_alloc ?_
        show MeansG (mdl w) R Γ p κ (k h.objs.size) ⟨h.push ob, _, _, _, _⟩
        rw [D.size]
        exact IS _ _ _ _ _ _ _ _ _ _ _ _ o _ (D.alloc hf (by rw [ez]; rfl))
      · cases o
  | update a q f k =>
    cases ms with
    | nil => cases o
    | cons x ms =>
      cases x with
      | zero => cases o
      | succ j =>
        simp only [simStep] at o
        split at o
        · rename_i y e
          split at o
          · cases o
          · rename_i hf
            have ga : a = y.1 := (Res.OwesG.good o (IH ..) : Ck.Good ⟨(a, y.1) :: ck.a, ck.c, ck.o, ck.x⟩).headA
            have hy := (D.own _ _ _ e).1
            refine meansG_update ?_
            refine ⟨by show (h.get? a).isSome = true; rw [ga, hy]; rfl, ?_⟩
            show MeansG (mdl w) R Γ p κ (k ()) ⟨h.update a f, _, _, _, _⟩
            rw [ga]
            exact IS _ _ _ _ _ _ _ _ _ _ _ _ o _ (D.updateF e hf)
        · cases o
  | fresh k => refine meansG_fresh ?_; exact IS _ _ _ _ _ _ _ _ _ _ _ _ o h D
  | handled own k =>
    refine meansG_handled ?_
    cases own <;> exact IS _ _ _ _ _ _ _ _ _ _ _ _ o h D
  | stack k => refine meansG_stack ?_; exact IS _ _ _ _ _ _ _ _ _ _ _ _ o h D
  | call c hd g l k =>
    cases ms with
    | nil => cases o
    | cons x ms =>
      cases x with
      | zero =>
        refine meansG_call_in ?_
        rw [hden]
        exact IS _ _ _ _ _ _ _ _ _ _ _ _ o h D
      | succ j =>
        cases xs with
        | nil => cases o
        | cons C xs =>
          cases hd with
          | none => exact ctrS_soundG O IH IS o D
          | some _ => cases o
  | newGen c k =>
    refine meansG_newGen ?_
    show MeansG (mdl w) R Γ p κ (k (Array.size ⟨G⟩)) ⟨h, Array.push ⟨G⟩ (.fresh c), _, _, _⟩
    rw [X.push_gens]
    exact IS _ _ _ _ _ _ _ _ _ _ _ _ o h D
  | genState g k =>
    simp only [simStep] at o
    split at o
    · rename_i gs e
      refine meansG_genState ?_
      exact ⟨gs, (X.get_gens G g).trans e, IS _ _ _ _ _ _ _ _ _ _ _ _ o h D⟩
    · cases o
  | _ => cases o
theorem sim_soundG (O : Ok V w tp h₀ U) : ∀ n ms xs Γ p κ t L cnt m i G ck, (sim (M := mdl w) (tp := tp) V n ms xs Γ p κ t L cnt m i G ck).OwesG V w h₀ U d os R → ∀ h, Rep h₀ h U V.N L m → MeansG (mdl w) R Γ p κ t ⟨h, ⟨G⟩, d, V.T + i, os⟩
  | 0 => fun _ _ _ _ _ _ _ _ _ _ _ _ o h D => o.2 h D
  | n + 1 => step_soundG O (fun ms xs Γ p κ t L cnt m i G ck => sim_over n ms xs Γ p κ t L cnt m i G ck) (sim_soundG O n)
end
theorem Eff.upL {s : Shared} {a : Addr} {items : Array Value} {n : Nat} (hl : IsL s.heap a items n) (f : Array Value → Array Value) {items' : Array Value} {n' : Nat} (h1 : f items = items') (h2 : (if (f items).size == items.size then n else n + 1) = n') :
    Eff s { s with heap := s.heap.update a (Obj.mapSeq f) } (some (a, lsO items' n')) none 0 0 := by
  have hs : Heap.SameBut a s.heap (s.heap.update a (Obj.mapSeq f)) := Heap.SameBut.update ..
  have hu := IsL.update hl f
  rw [h1] at hu h2
  rw [h2] at hu
  refine ⟨rfl, rfl, rfl, rfl, hs.1, fun b o e ne => (hs.2 b (Ne.symm (ne _ rfl))).trans e, fun x hx => ?_, fun _ h => nomatch h⟩
  cases hx
  exact hu
section
variable {w : World} {tp : Nat → Option Obj}
theorem typeL {s : Shared} {a : Addr} {xs : Array Value} {n : Nat} (h : s.heap.get? a = some (lsO xs n)) : s.TypeIs (.ref a) "list" := ⟨_, h, rfl⟩
theorem small_line {k : Nat} (h : k ≤ 1000) : k ≤ sizeLine := Nat.le_trans h (by decide)
noncomputable def cLApp (i : Nat) (a : Addr) (xs : List Value) (n : Nat) (v : Value) (hs : xs.length ≤ 1000) (nn tk : Nat) : Ctr (mdl w) tp :=
  ⟨.call (.builtin "list.append") ⟨[.ref a, v], []⟩, none, nn, tk, [(i, a, lsO ⟨xs⟩ n)], .ok (.ret .none), some (i, a, lsO ⟨xs ++ [v]⟩ (n + 1)), none, 0, 0,
    fun Γ p s _ hp => ok_of_any fun A => call_meets F.slot_list_append (typeL (hp.has _ (.head _)).1) F.entry_list_append (F.args_list_append_2 _ _) (list_append a ⟨xs⟩ n v (small_line hs))
      ⟨(hp.has _ (.head _)).1, rfl, Eff.upL (hp.has _ (.head _)).1 _ (by simp) (by simp)⟩⟩
theorem getitem_anyK {A : Around} {E : Value → Shared → Prop} {s : Shared} {Q : Value → Shared → Prop} {l : Addr} {items : Array Value} {k : Int} {t : Tok} {x : Value} (hl : s.heap.IsList l items)
    (h0 : 0 ≤ k) (hfit : k < 2 ^ 63) (hx : items[k.toNat]? = some x) (h : Q x s) :
    wpAny (mdl w) A (PySem.call (.builtin "list.__getitem__") [.ref l, .int k t]) Q E s := by
  obtain ⟨o, ho, hc, ne, hd⟩ := id hl
  refine (wpAny_call_entry slot_list_getitem hl.typeIs entry_list_getitem ?_ (args_list_getitem _ _))
  show wpAny _ _ (Builtin.List.listSubscript? (.int k t) >>= _) _ _ s
  refine wpAny_bind (wpAny_listSubscript_int (fitsIndex_of h0 hfit) ?_)
  clear hfit
  obtain ⟨j, rfl⟩ := Int.eq_ofNat_of_zero_le h0
  have hx' : items[j]? = some x := hx
  show wpAny _ _ ((seqItemAt l j >>= fun r => pure (r.map (j, ·))) >>= _) _ _ s
  refine wpAny_bind (wpAny_bind (wpAny_seqItemAt ho hd (wpAny_pure ?_)))
  rw [hx']
  first
    | exact wpAny_bind (wpAny_pure (wpAny_pure ⟨x, rfl, h⟩))
    | exact wpAny_pure ⟨x, rfl, h⟩
theorem setitem_anyK {A : Around} {E : Value → Shared → Prop} {s : Shared} {Q : Value → Shared → Prop} {l : Addr} {items : Array Value} {n : Nat} {k : Int} {u : Tok} {v : Value} (h0 : 0 ≤ k) (hfit : k < 2 ^ 63) (hn : k < items.size) (hl : IsL s.heap l items n)
    (h : Q .none { s with heap := s.heap.update l (Obj.mapSeq (·.setIfInBounds k.toNat v)) }) :
    wpAny (mdl w) A (PySem.call (.builtin "list.__setitem__") [.ref l, .int k u, v]) Q E s := by
  refine wpAny_call_entry slot_list_setitem hl.isList.typeIs entry_list_setitem ?_ (args_list_setitem _ _ _)
  show wpAny _ _ (Builtin.List.listSubscript? (.int k u) >>= _) _ _ s
  refine wpAny_bind (wpAny_listSubscript_int (fitsIndex_of h0 hfit) ?_)
  clear hfit
  obtain ⟨j, rfl⟩ := Int.eq_ofNat_of_zero_le h0
  have hj : j < items.size := by omega
  have hx' : items[j]? = some items[j] := Array.getElem?_eq_getElem hj
  show wpAny _ _ ((seqItemAt l j >>= fun r => pure (r.map (j, ·))) >>= _) _ _ s
  refine wpAny_bind (wpAny_bind (wpAny_seqItemAt hl rfl (wpAny_pure ?_)))
  rw [hx']
  show wpAny _ _ (setSeqItemAt l j v >>= _) _ _ s
  refine wpAny_bind (wpAny_setSeqItemAt hl rfl ?_)
  first
    | exact wpAny_bind (wpAny_pure (wpAny_pure ⟨.none, rfl, h⟩))
    | exact wpAny_pure ⟨.none, rfl, h⟩
theorem setitem_any {A : Around} {E : Value → Shared → Prop} {s : Shared} {Q : Value → Shared → Prop} (l : Addr) (items : Array Value) (n : Nat) (i : Nat) (u : Tok) (v : Value) (hi : i < 2 ^ 62) (hy : i < items.size) (hl : IsL s.heap l items n)
    (h : Q .none { s with heap := s.heap.update l (Obj.mapSeq (·.setIfInBounds i v)) }) :
    wpAny (mdl w) A (PySem.call (.builtin "list.__setitem__") [.ref l, .int (i : Int) u, v]) Q E s := setitem_anyK (Int.natCast_nonneg i) (by omega) (by omega) hl h
theorem erase_end (xs : List Value) (v : Value) : (xs ++ [v]).eraseIdx xs.length = xs := by
  rw [List.eraseIdx_append_of_length_le (Nat.le_refl _)]; simp
noncomputable def cLPop (i : Nat) (a : Addr) (xs : List Value) (n : Nat) (v : Value) (hs : xs.length < 1000) (nn tk : Nat) : Ctr (mdl w) tp :=
  ⟨.call (.builtin "list.pop") ⟨[.ref a], []⟩, none, nn, tk, [(i, a, lsO ⟨xs ++ [v]⟩ n)], .ok (.ret v), some (i, a, lsO ⟨xs⟩ (n + 1)), none, 0, 0,
    fun Γ p s _ hp => ok_of_any fun A => call_meets F.slot_list_pop (typeL (hp.has _ (.head _)).1) F.entry_list_pop (F.args_list_pop_1 _) (PySem.MeetsSeq.list_pop_last a ⟨xs ++ [v]⟩ n v (by simp) (small_line (by simp; omega)))
      ⟨(hp.has _ (.head _)).1, rfl, Eff.upL (hp.has _ (.head _)).1 _ (by simp [erase_end]) (by simp [erase_end])⟩⟩
noncomputable def cLExt (i j : Nat) (a b : Addr) (xs ys : List Value) (n m : Nat) (hs : xs.length + ys.length ≤ 1000) (hy : ys ≠ []) (nn tk : Nat) : Ctr (mdl w) tp :=
  ⟨.call (.builtin "list.extend") ⟨[.ref a, .ref b], []⟩, none, nn, tk, [(i, a, lsO ⟨xs⟩ n), (j, b, lsO ⟨ys⟩ m)], .ok (.ret .none), some (i, a, lsO ⟨xs ++ ys⟩ (n + 1)), none, 0, 0,
    fun Γ p s _ hp => ok_of_any fun A => call_meets F.slot_list_extend (typeL (hp.has _ (.head _)).1) F.entry_list_extend (F.args_list_extend_2 _ _) (AutoSeq1.list_extend_list_list_0 a ⟨xs⟩ n b ⟨ys⟩ m (by
        have := small_line hs; simp [Builtin.List.listTooLong]; intros; omega) (small_line (by simp; omega)) (by simp; exact Nat.le_succ_of_le (small_line hs)))
      ⟨(hp.has _ (.head _)).1, (hp.has _ (.tail _ (.head _))).1, rfl, Eff.upL (hp.has _ (.head _)).1 _ (by simp) (by
        have := List.length_pos_iff.mpr hy
        simp; omega)⟩⟩
end
section
open MeetsSeq
noncomputable abbrev tupO (xs : Array Value) (n : Nat) : Obj := ⟨y3, none, .seq xs n, #[]⟩
noncomputable abbrev liO (l : Addr) (i : Int) : Obj := ⟨y5, none, .fields ⟨[.ref l, .int i 0]⟩, #[]⟩
section
variable {w : World} {tp : Nat → Option Obj}
theorem itnext_any {A : Around} {E : Value → Shared → Prop} {s : Shared} {Q : Value → Shared → Prop} {it l : Addr} {i : Nat} {items : Array Value} {x : Value} (hit : s.heap.IsListIter it l i)
    (hl : s.heap.IsList l items) (hx : items[i]? = some x)
    (hQ : ∀ o, s.heap.get? it = some o → Q x { s with heap := s.heap.update it (Obj.mapFields (·.setIfInBounds 1 (.int ((i : Int) + 1) 0))) }) :
    wpAny (mdl w) A (PySem.call (.builtin "list_iterator.__next__") [.ref it]) Q E s := by
  obtain ⟨o, ho, hc, hd⟩ := id hit
  obtain ⟨ol, hol, _, nl, hdl⟩ := hl
  refine (wpAny_call_entry slot_listiter_next hit.typeIs entry_listiter_next ?_ (args_listiter_next _))
  show wpAny _ _ (field (.ref it) 0 >>= _) _ _ s
  refine wpAny_bind (wpAny_field ho hd (x := .ref l) rfl ?_)
  show wpAny _ _ (if (Value.ref l == Value.none) = true then _ else _) _ _ s
  rw [if_neg (show ¬ ((Value.ref l == Value.none) = true) from Bool.false_ne_true)]
  show wpAny _ _ (field (.ref it) 1 >>= _) _ _ s
  refine wpAny_bind (wpAny_field ho hd (x := .int i 0) rfl ?_)
  show wpAny _ _ (seqItems? (.ref l) >>= _) _ _ s
  refine wpAny_bind (wpAny_seqItems hol hdl ?_)
  simp only [Int.toNat_natCast, hx]
  exact wpAny_bind (wpAny_setField ho hd (by simp) (wpAny_pure ⟨x, rfl, hQ _ ho⟩))
noncomputable def cItNext (i j : Nat) (a l : Addr) (xs : List Value) (n k : Nat) (v : Value) (h : xs[k]? = some v) (nn tk : Nat) : Ctr (mdl w) tp :=
  ⟨.call (.builtin "list_iterator.__next__") ⟨[.ref a], []⟩, none, nn, tk, [(i, a, liO l (k : Int)), (j, l, lsO ⟨xs⟩ n)], .ok (.ret v), some (i, a, liO l ((k : Int) + 1)), none, 0, 0,
    fun Γ p s _ hp => ok_of_any fun A => itnext_any (it := a) (l := l) (i := k) (items := ⟨xs⟩) ⟨_, (hp.has _ (.head _)).1, rfl, rfl⟩ (IsL.isList (n := n) (hp.has _ (.tail _ (.head _))).1) (by simpa using h) fun o ho => by
      have hs : Heap.SameBut a s.heap (s.heap.update a (Obj.mapFields (·.setIfInBounds 1 (.int ((k : Int) + 1) 0)))) := Heap.SameBut.update ..
      have h0 : s.heap.get? a = some (liO l (k : Int)) := (hp.has _ (.head _)).1
      have hu : (s.heap.update a (Obj.mapFields (·.setIfInBounds 1 (.int ((k : Int) + 1) 0)))).get? a = some (liO l ((k : Int) + 1)) := Heap.get?_update_self _ h0 rfl
      refine ⟨rfl, rfl, rfl, rfl, rfl, hs.1, fun b o e ne => (hs.2 b (Ne.symm (ne _ rfl))).trans e, fun x hx => ?_, fun _ h => nomatch h⟩
      cases hx
      exact hu⟩
/-- the length of a list -/
noncomputable def cLLen (i : Nat) (a : Addr) (xs : List Value) (n : Nat) (k : Nat) (h : xs.length = k) (hb : k ≤ 1000) (nn tk : Nat) : Ctr (mdl w) tp :=
  ⟨.call (.builtin "len") ⟨[.ref a], []⟩, none, nn, tk, [(i, a, lsO ⟨xs⟩ n)], .ok (.ret (.int (k : Int) (tk + 1))), none, none, 0, 2,
    fun Γ p s _ hp => ok_of_any fun A => PyProof.Rows.len_list (items := ⟨xs⟩) (IsL.isList (n := n) (hp.has _ (.head _)).1) (by simp; omega) (by
      have e : ((⟨xs⟩ : Array Value).size : Int) = k := by simp [h]
      simp only [e]
      exact ⟨by rw [hp.toks], Eff.tok s 2⟩)⟩
theorem lenB_ref (a : Addr) : tden (.call (.builtin "len") ⟨[.ref a], []⟩) = .pure (.again (.builtin "len" ⟨[.ref a], []⟩)) := by kernel_rfl
noncomputable def cLLenB (i : Nat) (a : Addr) (xs : List Value) (n : Nat) (k : Nat) (h : xs.length = k) (hb : k ≤ 1000) (nn tk : Nat) : Ctr (mdl w) tp :=
  ⟨.builtin "len" ⟨[.ref a], []⟩, none, nn, tk, [(i, a, lsO ⟨xs⟩ n)], .ok (.ret (.int (k : Int) (tk + 1))), none, none, 0, 2,
    fun Γ p s _ hp => ok_builtin (lenB_ref a) (ok_of_any fun A => PyProof.Rows.len_list (items := ⟨xs⟩) (IsL.isList (n := n) (hp.has _ (.head _)).1) (by simp; omega) (by
      have e : ((⟨xs⟩ : Array Value).size : Int) = k := by simp [h]
      simp only [e]
      exact ⟨by rw [hp.toks], Eff.tok s 2⟩))⟩
theorem eqGives_str (x y : Str) (t u : Tok) : EqGives (.str x t) (.str y u) (decide (x = y)) := by
  intro prog w A E s Q h
  exact wpAny_eqBool_str h
end
end
section
variable {w : World} {tp : Nat → Option Obj}
theorem typeT {s : Shared} {a : Addr} {xs : Array Value} {n : Nat} (h : s.heap.get? a = some (tupO xs n)) : s.TypeIs (.ref a) "tuple" := ⟨_, h, rfl⟩
noncomputable abbrev ltP (r r' : Int) (x y : Str) : Bool := if r == r' then (if x = y then false else decide (x.cps.toList < y.cps.toList)) else decide (r < r')
theorem tupLt_any {A : Around} {E : Value → Shared → Prop} {s : Shared} {Q : Value → Shared → Prop} {a b : Addr} {r r' : Int} {tr tr' : Tok} {x y : Str} {tx ty : Tok} {n m : Nat}
    (ha : s.heap.get? a = some (tupO ⟨[.int r tr, .str x tx]⟩ n)) (hb : s.heap.get? b = some (tupO ⟨[.int r' tr', .str y ty]⟩ m))
    (h : Q (.bool (ltP r r' x y)) s) :
    wpAny (mdl w) A (PySem.call (.builtin "tuple.__lt__") [.ref a, .ref b]) Q E s := by
  refine (wpAny_call_entry F.slot_tuple_lt (typeT ha) F.entry_tuple_lt ?_ (F.args_tuple_lt_2 _ _))
  refine wpAny_bind (wpAny_pure ?_)
  refine wpAny_bind (wpAny_isInstance (typeT hb) AutoSeq1.sub_tuple_tuple ?_)
  show wpAny _ _ (Builtin.Tuple.tupleItemsOf (.ref a) >>= _) _ _ s
  refine wpAny_bind (wpAny_tupleItemsOf ha rfl ?_)
  refine wpAny_bind (wpAny_tupleItemsOf hb rfl ?_)
  simp only [List.zip_cons_cons, List.zip_nil_right, List.forIn_cons, List.forIn_nil]
  refine wpAny_bind ?_
  refine wpAny_bind ?_
  refine wpAny_bind (wpAny_eqBool_int ?_)
  cases e1 : r == r' with
  | false =>
    show wpAny _ _ (rule _ >>= _) _ _ _
    refine wpAny_bind (wpAny_rule ?_)
    refine wpAny_bind (wpAny_mono (P.lt_int (a := r) (b := r') (t := tr) (u := tr') (Q := fun v s' => v = .bool (decide (r < r')) ∧ s' = s) (E := E) ⟨rfl, rfl⟩) (fun v s' h' => ?_) fun _ _ x => x)
    obtain ⟨rfl, rfl⟩ := h'
    refine wpAny_bind (wpAny_pure (wpAny_pure (wpAny_pure (wpAny_pure ⟨_, rfl, ?_⟩))))
    simpa [ltP, e1] using h
  | true =>
    refine wpAny_pure ?_
    refine wpAny_bind ?_
    refine wpAny_bind (wpAny_eqBool_str ?_)
    by_cases e2 : x = y
    · rw [decide_eq_true e2]
      refine wpAny_pure (wpAny_pure (wpAny_pure ⟨_, rfl, ?_⟩))
      have h2 : Q (.bool false) s := by simpa [ltP, e1, e2] using h
      exact h2
    · rw [decide_eq_false e2]
      show wpAny _ _ (rule _ >>= _) _ _ _
      refine wpAny_bind (wpAny_rule ?_)
      refine wpAny_bind (wpAny_mono (P.lt_str (x := x) (y := y) (t := tx) (u := ty) (Q := fun v s' => v = .bool (decide (x.cps.toList < y.cps.toList)) ∧ s' = s) (E := E) ⟨rfl, rfl⟩) (fun v s' h' => ?_) fun _ _ x => x)
      obtain ⟨rfl, rfl⟩ := h'
      refine wpAny_bind (wpAny_pure (wpAny_pure (wpAny_pure (wpAny_pure ⟨_, rfl, ?_⟩))))
      simpa [ltP, e1, e2] using h
/-- one tuple below another -/
noncomputable def cTLt (i j : Nat) (a b : Addr) (r r' : Int) (tr tr' : Tok) (x y : Str) (tx ty : Tok) (n m : Nat) (c : Bool) (h : ltP r r' x y = c) (nn tk : Nat) : Ctr (mdl w) tp :=
  ⟨.call (.builtin "tuple.__lt__") ⟨[.ref a, .ref b], []⟩, none, nn, tk, [(i, a, tupO ⟨[.int r tr, .str x tx]⟩ n), (j, b, tupO ⟨[.int r' tr', .str y ty]⟩ m)], .ok (.ret (.bool c)), none, none, 0, 0,
    fun Γ p s _ hp => ok_of_any fun A => tupLt_any (hp.has _ (.head _)).1 (hp.has _ (.tail _ (.head _))).1 ⟨by rw [h], Eff.same s⟩⟩
end
section
variable {w : World} {tp : Nat → Option Obj}
noncomputable def cFDiv (x : Int) (t : Tok) (y : Int) (u : Tok) (hy : y ≠ 0) (h : y.natAbs < 1000000) (nn tk : Nat) : Ctr (mdl w) tp :=
  ⟨.call (.builtin "int.__floordiv__") ⟨[.int x t, .int y u], []⟩, none, nn, tk, [], .ok (.ret (.int (x.fdiv y) tk)), none, none, 0, 1,
    fun Γ p s _ hp => ok_of_any fun A => wpAny_mono (call_int_floordiv (Q := fun v s' => v = .int (x.fdiv y) tk ∧ Eff s s' none none 0 1) hy ⟨by rw [hp.toks], Eff.tok s 1⟩ (.inl (PyProof.noPylong_small (by omega)))) (fun _ _ h => h.2) fun _ _ h => h⟩
noncomputable def cLGetI (i : Nat) (a : Addr) (xs : List Value) (n : Nat) (k : Int) (u : Tok) (v : Value) (h0 : 0 ≤ k) (hk : k < 1000) (h : xs[k.toNat]? = some v) (nn tk : Nat) : Ctr (mdl w) tp :=
  ⟨.call (.builtin "list.__getitem__") ⟨[.ref a, .int k u], []⟩, none, nn, tk, [(i, a, lsO ⟨xs⟩ n)], .ok (.ret v), none, none, 0, 0,
    fun Γ p s _ hp => ok_of_any fun A => getitem_anyK (IsL.isList (n := n) (hp.has _ (.head _)).1) h0 (by omega) (by simpa using h) ⟨rfl, Eff.same s⟩⟩
theorem Eff.new1 (s : Shared) (o : Obj) (hf : o.isFreed = false) (j : Nat) : Eff s { s with heap := s.heap.push o, toks := s.toks + j } none (some o) 1 j :=
  ⟨rfl, rfl, rfl, rfl, Heap.size_push .., fun _ _ e _ => Heap.get?_push_of_some _ e, fun _ h => (nomatch h), fun o' h => by cases h; exact Heap.get?_push_size _ hf⟩
noncomputable def cLAdd (i j : Nat) (a b : Addr) (xs ys : List Value) (n m : Nat) (hs : xs.length + ys.length ≤ 1000) (nn tk : Nat) : Ctr (mdl w) tp :=
  ⟨.call (.builtin "list.__add__") ⟨[.ref a, .ref b], []⟩, none, nn, tk, [(i, a, lsO ⟨xs⟩ n), (j, b, lsO ⟨ys⟩ m)], .ok (.ret (.ref nn)), none, some (lsO ⟨xs ++ ys⟩ 0), 1, 0,
    fun Γ p s _ hp => ok_of_any fun A => call_meets F.slot_list_add (typeL (hp.has _ (.head _)).1) F.entry_list_add (F.args_list_add_2 _ _) (AutoSeq1.list___add___list_list_0 a ⟨xs⟩ n b ⟨ys⟩ m (by
        have := small_line hs
        simpa using this))
      ⟨(hp.has _ (.head _)).1, (hp.has _ (.tail _ (.head _))).1, by rw [hp.size], by
        have e : (⟨xs⟩ : Array Value) ++ ⟨ys⟩ = ⟨xs ++ ys⟩ := by simp
        rw [e]
        exact Eff.new1 s (lsO ⟨xs ++ ys⟩ 0) rfl 0⟩⟩
noncomputable abbrev slO (l u st : Value) : Obj := ⟨y15, none, .fields ⟨[l, u, st]⟩, #[]⟩
theorem slice_any {A : Around} {E : Value → Shared → Prop} {s : Shared} {Q : Value → Shared → Prop} {l sl : Addr} {items : Array Value} {vl vu vs : Value} {lo hi st : Option Int} (hl : s.heap.IsList l items)
    (hs : s.heap.IsSliceOf sl vl vu vs) (pl : IsPart vl lo) (pu : IsPart vu hi) (ps : IsPart vs st) (h0 : st ≠ some 0)
    (h : Q (.ref s.heap.objs.size) { s with heap := s.heap.push { cls := .type "list", data := .seq (slicePick items lo hi st) } })
    (hsz : items.size ≤ sizeLine) : wpAny (mdl w) A (PySem.call (.builtin "list.__getitem__") [.ref l, .ref sl]) Q E s := by
  obtain ⟨o, ho, hc, ne, hd⟩ := id hl
  obtain ⟨os, hos, hcs, hds⟩ := id hs
  have hTs : s.TypeIs (.ref sl) "slice" := ⟨os, hos, hcs⟩
  refine (wpAny_call_entry slot_list_getitem hl.typeIs entry_list_getitem ?_ (args_list_getitem _ _))
  show wpAny _ _ (Builtin.List.listSubscript? (.ref sl) >>= _) _ _ s
  refine wpAny_bind ?_
  unfold Builtin.List.listSubscript?
  refine wpAny_bind (wpAny_specialOf hTs slice_no_index ?_)
  simp only [Option.isNone_none, if_true]
  refine wpAny_pure ?_
  show wpAny _ _ (typeOf (.ref sl) >>= _) _ _ s
  refine wpAny_bind (wpAny_typeOf hTs ?_)
  rw [if_neg (by decide)]
  rw [listSliceParts_eq]
  have hstep : ¬ ((rawPart st == rawInt 0) = true) := by
    cases st with
    | none => exact Bool.false_ne_true
    | some c =>
      intro hh
      have : c = 0 := by simpa [rawPart, rawInt] using hh
      exact h0 (by rw [this])
  refine wpAny_bind (wpAny_bind (wpAny_field hos hds (x := vs) rfl (wpAny_bind (wpAny_listPart ps ?_))))
  rw [if_neg hstep]
  refine wpAny_bind (wpAny_field hos hds (x := vl) rfl (wpAny_bind (wpAny_listPart pl ?_)))
  refine wpAny_bind (wpAny_field hos hds (x := vu) rfl (wpAny_bind (wpAny_listPart pu (wpAny_pure ?_))))
  refine wpAny_bind (m := Builtin.List.listItems (.ref l)) ?_
  unfold Builtin.List.listItems
  refine wpAny_bind (wpAny_seqItems ho hd (wpAny_pure ?_))
  refine wpAny_bind (wpAny_of_eq (sliceIndices_raw lo hi st items.size h0) ?_)
  exact wpAny_bind (wpAny_newObj_type (wpAny_pure ⟨_, rfl, h⟩) (Nat.le_trans (slicePick_size_le items lo hi st) hsz))
/-- xs[:k] -/
noncomputable def cSlice (i j : Nat) (a b : Addr) (xs ys : List Value) (n : Nat) (k : Int) (u : Tok) (hk : Builtin.List.listFitsIndex k = true) (h : slicePick ⟨xs⟩ none (some k) none = ⟨ys⟩) (hs : xs.length ≤ 1000) (nn tk : Nat) : Ctr (mdl w) tp :=
  ⟨.call (.builtin "list.__getitem__") ⟨[.ref a, .ref b], []⟩, none, nn, tk, [(i, a, lsO ⟨xs⟩ n), (j, b, slO .none (.int k u) .none)], .ok (.ret (.ref nn)), none, some (lsO ⟨ys⟩ 0), 1, 0,
    fun Γ p s _ hp => ok_of_any fun A => slice_any (lo := none) (hi := some k) (st := none) (IsL.isList (n := n) (hp.has _ (.head _)).1) ⟨_, (hp.has _ (.tail _ (.head _))).1, rfl, rfl⟩ (by constructor) (by first | exact .int hk | (constructor; exact hk) | constructor) (by constructor) (by simp)
      ⟨by rw [hp.size], by
        rw [h]
        exact Eff.new1 s (lsO ⟨ys⟩ 0) rfl 0⟩ (small_line hs)⟩
noncomputable def cJoin (i : Nat) (sep : Str) (t : Tok) (a : Addr) (x y : Str × Tok) (l : List (Str × Tok)) (n : Nat) (r : Str) (h : Builtin.Str.glued sep ((x :: y :: l).map (·.1)) = r) (hl : ((x :: y :: l).map (·.1)).toArray.foldl (· + ·.length + sep.length) 0 ≤ 1000) (hr : r.length ≤ 1000) (nn tk : Nat) : Ctr (mdl w) tp :=
  ⟨.call (.builtin "str.join") ⟨[.str sep t, .ref a], []⟩, none, nn, tk, [(i, a, lsO ⟨strValues (x :: y :: l)⟩ n)], .ok (.ret (.str r tk)), none, none, 0, 1,
    fun Γ p s _ hp => ok_of_any fun A => call_meets F.slot_str_join (typeIs_str _ _ _) F.entry_str_join (F.args_str_join_2 _ _) (meets_str_join_list sep t a (x :: y :: l) (by
        have := small_line hl
        simp only [Builtin.Str.tooLong, decide_eq_false_iff_not]
        omega))
      ⟨IsL.isList (n := n) (hp.has _ (.head _)).1, by
        show (Made.str _).post _ s
        rw [h]
        exact ⟨small_line hr, by rw [hp.toks], Eff.tok s 1⟩⟩⟩
end
structure At (w : World) (b1 b2 : Bool) (h₀ : Heap) (U : List Addr) (F : Rw) (h : Heap) (N : Nat) (l : Rw) : Prop where
  ok0 : ∀ N T, Ok (svW w b1 b2 N T) w (tpW w b1 b2) h₀ U
  lo : 922 ≤ N
  base : h₀.objs.size ≤ N
  size : h.objs.size = N
  own : ∀ y ∈ l ++ F, h.get? y.1 = some y.2 ∧ (922 ≤ y.1 ∨ y.1 = 882) ∧ (y.1 ∈ U ∨ h₀.objs.size ≤ y.1)
  nd : ((l ++ F).map (·.1)).Nodup
  keep : ∀ b o, h₀.get? b = some o → b ∉ U → h.get? b = some o
theorem rep_nodup {h₀ h : Heap} {U : List Addr} {N m : Nat} {l : Rw} (D : Rep h₀ h U N (ltL l) m) : (l.map (·.1)).Nodup := by
  refine List.pairwise_iff_getElem.mpr fun i j hi hj hij e => ?_
  have hi' : i < l.length := by simpa using hi
  have hj' : j < l.length := by simpa using hj
  have q1 : (ltL l).get i = some (l[i].1, l[i].2) := by rw [ltL_get]; exact List.getElem?_eq_getElem hi'
  have q2 : (ltL l).get j = some (l[i].1, l[j].2) := by
    rw [ltL_get, List.getElem?_eq_getElem hj']
    have : l[i].1 = l[j].1 := by simpa using e
    rw [this]
  have := D.inj _ _ _ _ _ q1 q2
  omega
section
variable {w : World} {b1 b2 : Bool} {h₀ h h' : Heap} {U : List Addr} {F F' : Rw} {N N' m : Nat} {l l' e : Rw}
theorem At.rep (A : At w b1 b2 h₀ U F h N l) : Rep h h (l.map (·.1)) N (ltL l) 0 := by
  refine ⟨A.lo, Nat.le_of_eq A.size, A.size, fun i a o q => ?_, fun i j a o o' q1 q2 => ?_, fun b o q _ => q⟩
  · rw [ltL_get] at q
    have hm := List.mem_of_getElem? q
    have := A.own _ (List.mem_append_left F hm)
    exact ⟨this.1, this.2.1, .inl (List.mem_map.mpr ⟨_, hm, rfl⟩)⟩
  · rw [ltL_get] at q1 q2
    have nd : (l.map (·.1)).Nodup := by
      have := A.nd
      rw [List.map_append] at this
      exact (List.nodup_append.mp this).1
    have g1 : (l.map (·.1))[i]? = some a := by rw [List.getElem?_map, q1]; rfl
    have g2 : (l.map (·.1))[j]? = some a := by rw [List.getElem?_map, q2]; rfl
    exact (List.getElem?_inj (List.getElem?_eq_some_iff.mp g1).1 nd).mp (g1.trans g2.symm)
theorem At.ok (A : At w b1 b2 h₀ U F h N l) (N T : Nat) : Ok (svW w b1 b2 N T) w (tpW w b1 b2) h (l.map (·.1)) := by
  have O := A.ok0 N T
  refine ⟨O.ask, fun a o e => ⟨A.keep a o (O.top a o e).1 (O.top a o e).2, fun hm => ?_⟩⟩
  obtain ⟨y, hy, rfl⟩ := List.mem_map.mp hm
  have k := topT_keys _ _ _ e
  rcases (A.own y (List.mem_append_left F hy)).2.1 with q | q
  · exact absurd k.1 (Nat.not_lt.mpr q)
  · exact k.2 q
theorem At.next (A : At w b1 b2 h₀ U F h N l) (D : Rep h h' (l.map (·.1)) N' (ltL l') m) : At w b1 b2 h₀ U F h' (N' + m) l' := by
  have lt : ∀ y ∈ l ++ F, y.1 < h.objs.size := fun y hy => Heap.lt_size (A.own y hy).1
  have ndl : (l'.map (·.1)).Nodup := rep_nodup D
  have disj : ∀ y ∈ l', ∀ z ∈ F, y.1 ≠ z.1 := by
    intro y hy z hz e
    obtain ⟨i, hi⟩ := List.getElem?_of_mem hy
    have := (D.own i y.1 y.2 (by rw [ltL_get]; exact hi)).2.2
    rcases this with q | q
    · obtain ⟨x, hx, e2⟩ := List.mem_map.mp q
      have nd := A.nd
      rw [List.map_append] at nd
      exact (List.nodup_append.mp nd).2.2 x.1 (List.mem_map.mpr ⟨x, hx, rfl⟩) z.1 (List.mem_map.mpr ⟨z, hz, rfl⟩) (e2.trans e)
    · exact absurd (lt z (List.mem_append_right l hz)) (Nat.not_lt.mpr (e ▸ q))
  refine ⟨A.ok0, Nat.le_trans D.lo (Nat.le_add_right ..), ?_, D.size, fun y hy => ?_, ?_, fun b o e q => ?_⟩
  · exact Nat.le_trans (A.size ▸ A.base) (Nat.le_trans D.base (Nat.le_add_right ..))
  · rcases List.mem_append.mp hy with hy | hy
    · obtain ⟨i, hi⟩ := List.getElem?_of_mem hy
      have d := D.own i y.1 y.2 (by rw [ltL_get]; exact hi)
      refine ⟨d.1, d.2.1, ?_⟩
      rcases d.2.2 with q | q
      · obtain ⟨x, hx, e2⟩ := List.mem_map.mp q
        exact e2 ▸ (A.own x (List.mem_append_left F hx)).2.2
      · exact .inr (Nat.le_trans (A.size ▸ A.base) q)
    · have a := A.own y (List.mem_append_right l hy)
      refine ⟨D.keep _ _ a.1 fun hm => ?_, a.2⟩
      obtain ⟨x, hx, e2⟩ := List.mem_map.mp hm
      have nd := A.nd
      rw [List.map_append] at nd
      exact (List.nodup_append.mp nd).2.2 x.1 (List.mem_map.mpr ⟨x, hx, rfl⟩) y.1 (List.mem_map.mpr ⟨y, hy, rfl⟩) e2
  · rw [List.map_append]
    refine List.nodup_append.mpr ⟨ndl, ?_, fun a ha b hb => ?_⟩
    · have nd := A.nd
      rw [List.map_append] at nd
      exact (List.nodup_append.mp nd).2.1
    · obtain ⟨y, hy, rfl⟩ := List.mem_map.mp ha
      obtain ⟨z, hz, rfl⟩ := List.mem_map.mp hb
      exact disj y hy z hz
  · refine D.keep b o (A.keep b o e q) fun hm => ?_
    obtain ⟨x, hx, e2⟩ := List.mem_map.mp hm
    rcases (A.own x (List.mem_append_left F hx)).2.2 with z | z
    · exact q (e2 ▸ z)
    · exact absurd (Heap.lt_size e) (Nat.not_lt.mpr (e2 ▸ z))
theorem At.perm (A : At w b1 b2 h₀ U F h N l) (p : (l ++ F).Perm (l' ++ F')) : At w b1 b2 h₀ U F' h N l' :=
  ⟨A.ok0, A.lo, A.base, A.size, fun y hy => A.own y (p.mem_iff.mpr hy), (p.map (·.1)).nodup_iff.mp A.nd, A.keep⟩
theorem At.sub (A : At w b1 b2 h₀ U F h N l) (p : (l' ++ F').Sublist (l ++ F)) : At w b1 b2 h₀ U F' h N l' :=
  ⟨A.ok0, A.lo, A.base, A.size, fun y hy => A.own y (p.subset hy), (p.map (·.1)).nodup A.nd, A.keep⟩
theorem At.freeze (A : At w b1 b2 h₀ U F h N (l ++ e)) : At w b1 b2 h₀ U (e ++ F) h N l := A.perm (by rw [List.append_assoc])
theorem At.thaw (A : At w b1 b2 h₀ U (e ++ F) h N l) : At w b1 b2 h₀ U F h N (l ++ e) := A.perm (by rw [List.append_assoc])
theorem At.permF (A : At w b1 b2 h₀ U F h N l) (p : F.Perm F') : At w b1 b2 h₀ U F' h N l := A.perm (List.Perm.append_left l p)
theorem At.dropF (A : At w b1 b2 h₀ U F h N l) (p : F'.Sublist F) : At w b1 b2 h₀ U F' h N l := A.sub (List.Sublist.append_left p l)
/-- some of the row, numbered anew -/
theorem At.pick (A : At w b1 b2 h₀ U F h N l) (f : List Nat) (ho : f.map (fun j => l[j]?) = l'.map some) (hf : f.Nodup) : At w b1 b2 h₀ U F h N l' := by
  have sub : ∀ y ∈ l', y ∈ l := by
    intro y hy
    obtain ⟨i, hi⟩ := List.getElem?_of_mem hy
    obtain ⟨j, _, hj⟩ := get_of_map ho hi
    exact List.mem_of_getElem? hj
  have nd := A.nd
  rw [List.map_append] at nd
  obtain ⟨n1, n2, n3⟩ := List.nodup_append.mp nd
  refine ⟨A.ok0, A.lo, A.base, A.size, fun y hy => A.own y ?_, ?_, A.keep⟩
  · rcases List.mem_append.mp hy with q | q
    · exact List.mem_append_left F (sub y q)
    · exact List.mem_append_right l q
  · rw [List.map_append]
    refine List.nodup_append.mpr ⟨?_, n2, fun a ha b hb => ?_⟩
    · exact rep_nodup (A.rep.row (f := f) (l := l') (by rw [← ho]; exact List.map_congr_left fun j _ => ltL_get l j) hf)
    · obtain ⟨y, hy, rfl⟩ := List.mem_map.mp ha
      exact n3 _ (List.mem_map.mpr ⟨y, sub y hy, rfl⟩) b hb
/-- an object aside comes to hand -/
theorem At.take (A : At w b1 b2 h₀ U F h N l) {y : Addr × Obj} (hy : y ∈ F) : ∃ F', F.Perm (y :: F') ∧ At w b1 b2 h₀ U F' h N (l ++ [y]) := by
  obtain ⟨s, t, rfl⟩ := List.append_of_mem hy
  refine ⟨s ++ t, List.perm_middle, ?_⟩
  exact (A.permF (F' := [y] ++ (s ++ t)) List.perm_middle).thaw
theorem At.give {y : Addr × Obj} (A : At w b1 b2 h₀ U F' h N (l ++ [y])) (p : F.Perm (y :: F')) : At w b1 b2 h₀ U F h N l := (A.freeze).permF p.symm
end
noncomputable abbrev rankS (r : Int) : List Nat := [48 + r.toNat]
noncomputable def nthS (l : List Stmt) (i : Nat) : Stmt := match l[i]? with | some s => s | none => .Pass default
noncomputable def forOf (s : Stmt) : PySem.Expr × List Stmt × List Stmt := match s with | .For t _ b o _ => (t, b, o) | _ => (default, [], [])
noncomputable def whOf (s : Stmt) : PySem.Expr × List Stmt × List Stmt := match s with | .While t b o _ => (t, b, o) | _ => (default, [], [])
noncomputable def retOf (s : Stmt) : PySem.Expr := match s with | .Return (some e) _ => e | _ => default
noncomputable def compScope (e : PySem.Expr) : Scope := match e with | .ListComp _ _ s _ => s | .GeneratorExp _ _ s _ => s | _ => default
noncomputable abbrev lc907 : PySem.Expr := retOf (nthS T.f900.1.2.1 1)
noncomputable def compScopeC (e : PySem.Expr) : Scope := { compScope e with names := (compScope e).names.map fun (n, k) => if k == .free then (n, .cell) else (n, k) }
noncomputable abbrev fl936 := forOf (nthS T.f921.1.2.1 2)
noncomputable abbrev fl910 := forOf (nthS T.f907.1.2.1 1)
noncomputable abbrev fl914 := forOf (nthS T.f907.1.2.1 4)
noncomputable abbrev fl922 := forOf (nthS T.f914.1.2.1 2)
noncomputable abbrev fl926 := forOf (nthS fl922.2.1 1)
noncomputable abbrev wh143 := whOf (nthS T.f173.1.2.1 1)
noncomputable abbrev wh157 := whOf (nthS T.f180.1.2.1 4)
noncomputable abbrev fl119 := forOf (nthS T.f152.1.2.1 6)
noncomputable def callArg (e : PySem.Expr) : PySem.Expr := match e with | .Call _ (a :: _) _ _ => a | _ => default
noncomputable abbrev ge895 : PySem.Expr := callArg (retOf (nthS T.f887.1.2.1 0))
abbrev FnOk (w : World) (b1 b2 : Bool) (c : Code) (y : Ctx) (N T : Nat) (r : Str) (tr : Tok) (g j : Nat) : Prop :=
  ∀ (Γ : Ctx) (p : Pos) (s : Shared), (∀ z, some y = some z → Γ.enter c none p = z) → Pre (tpW w b1 b2) N T [] s →
    wpCode (mdl w) (Γ.enter c none p) (fun r' s' => r' = .ok (.ret (.str r tr)) ∧ Eff s s' none none g j) p s
noncomputable abbrev cFn {w : World} {b1 b2 : Bool} {c : Code} {y : Ctx} {N T : Nat} {r : Str} {tr : Tok} {g j : Nat} (h : FnOk w b1 b2 c y N T r tr g j) : Ctr (mdl w) (tpW w b1 b2) := ⟨c, some y, N, T, [], .ok (.ret (.str r tr)), none, none, g, j, h⟩
section
variable {w : World} {tp : Nat → Option Obj}
theorem sub_a (x t y u) : tden (iiC "int.__sub__" x t y u) = .pure (.again (ii "int.__sub__" x t y u)) := by kernel_rfl
theorem sub_b (x t y u) : tden (ii "int.__sub__" x t y u) = .fresh fun k => .pure (.done (.ret (.int (x - y) k))) := by kernel_rfl
noncomputable def cSub (x : Int) (t : Tok) (y : Int) (u : Tok) (z : Int) (h : x - y = z) (n tk : Nat) : Ctr (mdl w) tp := cTok (iiC "int.__sub__" x t y u) (ii "int.__sub__" x t y u) (fun k => .int z k) (sub_a ..) (by kernel_rfl) (h ▸ sub_b ..) n tk
theorem shr1_any {A : Around} {E : Value → Shared → Prop} {s : Shared} {Q : Value → Shared → Prop} {a : Int} {t u : Tok} (h0 : 0 ≤ a) (h : Q (.int (a / 2) s.toks) { s with toks := s.toks + 1 }) :
    wpAny (mdl w) A (PySem.call (.builtin "int.__rshift__") [.int a t, .int 1 u]) Q E s := by
  refine (wpAny_call_entry PySem.slot_int_rshift (typeIs_int s a t) PySem.entry_int_rshift ?_ (PySem.args_int_rshift _ _))
  show wpAny _ _ (if (1 : Int) ≥ (Builtin.Int.intBits a : Int) then _ else _) _ _ s
  by_cases hb : (1 : Int) ≥ (Builtin.Int.intBits a : Int)
  · rw [if_pos hb]
    have e : (if a < 0 then (-1 : Int) else 0) = a / 2 := by rw [if_neg (Int.not_lt.mpr h0), half_of_few_bits h0 hb]
    refine wpAny_bind (wpAny_rule ?_)
    show wpAny _ _ ((do ret (← mkInt (if a < 0 then (-1 : Int) else 0))) >>= _) _ _ s
    rw [e]
    exact wpAny_bind (wpAny_bind (wpAny_mkInt (wpAny_pure (wpAny_pure ⟨_, rfl, h⟩))))
  · rw [if_neg hb]
    show wpAny _ _ (do ret (← mkInt (a.fdiv (2 ^ (1 : Int).toNat)))) _ _ s
    rw [fdiv_two]
    exact wpAny_ret_mkInt h
noncomputable def cShr1 (x : Int) (t : Tok) (u : Tok) (z : Int) (h0 : 0 ≤ x) (h : x / 2 = z) (n tk : Nat) : Ctr (mdl w) tp :=
  ⟨.call (.builtin "int.__rshift__") ⟨[.int x t, .int 1 u], []⟩, none, n, tk, [], .ok (.ret (.int z tk)), none, none, 0, 1,
    fun Γ p s _ hp => ok_of_any fun A => shr1_any h0 ⟨by rw [h, hp.toks], Eff.tok s 1⟩⟩
noncomputable def cMul2 (x : Int) (t : Tok) (u : Tok) (z : Int) (hx : 0 ≤ x) (hx2 : x < 100000) (h : 2 * x = z) (n tk : Nat) : Ctr (mdl w) tp :=
  ⟨.call (.builtin "int.__mul__") ⟨[.int 2 u, .int x t], []⟩, none, n, tk, [], .ok (.ret (.int z tk)), none, none, 0, 1,
    fun Γ p s _ hp => ok_of_any fun A => call_meets F.slot_int_mul (typeIs_int s 2 u) F.entry_int_mul (F.args_int_mul_2 _ _) (gives_int_mul 2 x u t (by mul_fits)).meets ⟨by rw [h, hp.toks], Eff.tok s 1⟩⟩
noncomputable def cLSetI (i : Nat) (a : Addr) (xs : List Value) (n : Nat) (k : Nat) (e : Int) (he : e = (k : Int)) (u : Tok) (v : Value) (hk : k < 1000) (h : k < xs.length) (nn tk : Nat) : Ctr (mdl w) tp :=
  ⟨.call (.builtin "list.__setitem__") ⟨[.ref a, .int e u, v], []⟩, none, nn, tk, [(i, a, lsO ⟨xs⟩ n)], .ok (.ret .none), some (i, a, lsO ⟨xs.set k v⟩ n), none, 0, 0,
    fun Γ p s _ hp => by
      subst he
      exact ok_of_any fun A => setitem_any a ⟨xs⟩ n k u v (Nat.lt_trans hk (by decide)) (by simpa using h) (hp.has _ (.head _)).1 ⟨rfl, Eff.upL (hp.has _ (.head _)).1 _ (by simp) (by simp)⟩⟩
noncomputable def cLGetN (i : Nat) (a : Addr) (xs : List Value) (n : Nat) (k : Nat) (e : Int) (he : e = (k : Int)) (u : Tok) (v : Value) (hk : k < 1000) (h : xs[k]? = some v) (nn tk : Nat) : Ctr (mdl w) tp :=
  cLGetI i a xs n e u v (by omega) (by omega) (by rw [he]; simpa using h) nn tk
end
structure KontW (M : Model) (R : Result → Shared → Prop) (r : Res) (rr : Result) (s : Shared) : Prop where
  go : r.Kont M R rr s
structure OwesW (V : Sv) (w : World) (h₀ : Heap) (U : List Addr) (d : Drawn) (os : OsState) (R : Result → Shared → Prop) (r : Res) : Prop where
  go : r.Owes V w h₀ U d os R
section
variable {V : Sv} {w : World} {tp : Nat → Option Obj} {h₀ : Heap} {U : List Addr} {d : Drawn} {os : OsState} {R : Result → Shared → Prop}
theorem owes_finW {r : Res} {obs : List Nat} {v : Result} {g j : Nat} {G : List GenState} {objs : List (Option (Addr × Obj))} (e : (r.out obs, r.lhs) = ((some v, some (g, j, G, objs)), r.rhs))
    (k : ∀ h L, Rep h₀ h U V.N L g → obs.map L.get = objs → R v ⟨h, ⟨G⟩, d, V.T + j, os⟩) : OwesW V w h₀ U d os R r := ⟨owes_fin e k⟩
theorem owes_cutW {r : Res} {obs : List Nat} {Γ : Ctx} {κ : Mine.Kont} {t : Sem Fin} {g j : Nat} {G : List GenState} {objs : List (Option (Addr × Obj))} (e : (r.outC obs, r.lhs) = ((none, some (Γ, κ, t, g, j, G, objs)), r.rhs))
    (k : ∀ h L p, Rep h₀ h U V.N L g → obs.map L.get = objs → Means (mdl w) R Γ p κ t ⟨h, ⟨G⟩, d, V.T + j, os⟩) : OwesW V w h₀ U d os R r := ⟨owes_cut e k⟩
theorem owes_callW {r : Res} {obs : List Nat} {Γ : Ctx} {g j : Nat} {G : List GenState} {objs : List (Option (Addr × Obj))} (e : (r.outK obs, r.lhs) = ((none, some (Γ, g, j, G, objs)), r.rhs))
    (k : ∀ h L p, Rep h₀ h U V.N L g → obs.map L.get = objs → wpCode (mdl w) Γ (KontW (mdl w) R r) p ⟨h, ⟨G⟩, d, V.T + j, os⟩) : OwesW V w h₀ U d os R r :=
  ⟨owes_call e fun h L p D ho => wpCode_mono (fun _ _ q => q.go) (k h L p D ho)⟩
theorem kont_runW {r : Res} {rr : Result} {n : Nat} {ms : List Nat} {xs : List (Ctr (mdl w) tp)} {L : LT} {cnt : Nat} {G : List GenState} {h : Heap} (O : Ok V w tp h₀ U)
    (o : OwesW V w h₀ U d os R (r.next rr V n ms xs L cnt G)) (D : Rep h₀ h U V.N L 0) : KontW (mdl w) R r rr ⟨h, ⟨G⟩, d, V.T, os⟩ := ⟨kont_run O o.go D⟩
theorem wpCode_runW (O : Ok V w tp h₀ U) {n : Nat} {ms : List Nat} {xs : List (Ctr (mdl w) tp)} {Γ : Ctx} {p : Pos} {L : LT} {cnt : Nat} {G : List GenState} {ck : Ck} {h : Heap}
    (o : OwesW V w h₀ U d os R (sim V n ms xs Γ p .base (tden Γ.code) L cnt 0 0 G ck)) (D : Rep h₀ h U V.N L 0) : wpCode (mdl w) Γ R p ⟨h, ⟨G⟩, d, V.T, os⟩ := wpCode_run O o.go D
end
noncomputable def simC (w : World) (b1 b2 : Bool) (N T n : Nat) (ms : List Nat) (xs : List (Ctr (mdl w) (tpW w b1 b2))) (Γ : Ctx) (p : Pos) (A : Rw) (c : Nat) (G : List GenState) : Res := sim (M := mdl w) (tp := tpW w b1 b2) (svW w b1 b2 N T) n ms xs Γ p .base (tden Γ.code) (ltL A) c 0 0 G ck0
noncomputable def nextC (r : Res) (res : Result) (w : World) (b1 b2 : Bool) (N T n : Nat) (ms : List Nat) (xs : List (Ctr (mdl w) (tpW w b1 b2))) (A : Rw) (c : Nat) (G : List GenState) : Res := r.next (M := mdl w) (tp := tpW w b1 b2) res (svW w b1 b2 N T) n ms xs (ltL A) c G
abbrev RunK (r : Res) (obs : List Nat) (H : Ctx) (g j : Nat) (G : List GenState) (Z : Rw) : Prop := (r.outK obs, r.lhs) = ((none, some (H, g, j, G, Z.map some)), r.rhs)
abbrev RunC (r : Res) (obs : List Nat) (H : Ctx) (g j : Nat) (G : List GenState) (Z : Rw) : Prop := (r.outC obs, r.lhs) = ((none, some (H, Kont.base, tden H.code, g, j, G, Z.map some)), r.rhs)
abbrev RunF (r : Res) (obs : List Nat) (v : Result) (g j : Nat) (G : List GenState) (Z : Rw) : Prop := (r.out obs, r.lhs) = ((some v, some (g, j, G, Z.map some)), r.rhs)
abbrev StartT (w : World) (b1 b2 : Bool) (N T : Nat) (A : Rw) (r : Res) (goal : Heap → Drawn → OsState → (Result → Shared → Prop) → Prop) : Prop :=
  ∀ {h₀ : Heap} {U : List Addr} {d : Drawn} {os : OsState} {R : Result → Shared → Prop} {h : Heap}, (∀ N T, Ok (svW w b1 b2 N T) w (tpW w b1 b2) h₀ U) → OwesW (svW w b1 b2 N T) w h₀ U d os R r → Rep h₀ h U N (ltL A) 0 → goal h d os R
section
variable {w : World} {b1 b2 : Bool} {N T n c g j : Nat} {ms obs : List Nat} {xs : List (Ctr (mdl w) (tpW w b1 b2))} {Γ H : Ctx} {p pe : Pos} {A Z : Rw} {G G2 : List GenState} {r q : Res} {res v : Result} {goal : Heap → Drawn → OsState → (Result → Shared → Prop) → Prop}
theorem sC (e : r = simC w b1 b2 N T n ms xs Γ p A c G) : StartT w b1 b2 N T A r (fun h d os R => wpCode (mdl w) Γ R p ⟨h, ⟨G⟩, d, T, os⟩) := fun O ow D => by
  subst e
  exact wpCode_runW (V := svW w b1 b2 N T) (O _ _) ow D
theorem sK (e : r = nextC q res w b1 b2 N T n ms xs A c G) : StartT w b1 b2 N T A r (fun h d os R => KontW (mdl w) R q res ⟨h, ⟨G⟩, d, T, os⟩) := fun O ow D => by
  subst e
  exact kont_runW (V := svW w b1 b2 N T) (O _ _) ow D
theorem goK (run : RunK r obs H g j G2 Z) (st : StartT w b1 b2 N T A r goal) (nd : obs.Nodup) ⦃h₀ : Heap⦄ ⦃U : List Addr⦄ ⦃d : Drawn⦄ ⦃os : OsState⦄ ⦃R : Result → Shared → Prop⦄ (O : ∀ N T, Ok (svW w b1 b2 N T) w (tpW w b1 b2) h₀ U) {h : Heap} (D : Rep h₀ h U N (ltL A) 0)
    (kk : ∀ h' pp, Rep h₀ h' U (N + g) (ltL Z) 0 → wpCode (mdl w) H (KontW (mdl w) R r) pp ⟨h', ⟨G2⟩, d, T + j, os⟩) : goal h d os R :=
  st O (owes_callW run fun h1 L1 p1 D1 ho1 => kk h1 p1 (D1.row ho1 nd)) D
theorem goC (run : RunC r obs H g j G2 Z) (st : StartT w b1 b2 N T A r goal) (nd : obs.Nodup) ⦃h₀ : Heap⦄ ⦃U : List Addr⦄ ⦃d : Drawn⦄ ⦃os : OsState⦄ ⦃R : Result → Shared → Prop⦄ (O : ∀ N T, Ok (svW w b1 b2 N T) w (tpW w b1 b2) h₀ U) {h : Heap} (D : Rep h₀ h U N (ltL A) 0)
    (kk : ∀ h' pp, Rep h₀ h' U (N + g) (ltL Z) 0 → wpCode (mdl w) H R pp ⟨h', ⟨G2⟩, d, T + j, os⟩) : goal h d os R :=
  st O (owes_cutW run fun h1 L1 p1 D1 ho1 => wpCode_means (kk h1 p1 (D1.row ho1 nd))) D
theorem goF (run : RunF r obs v g j G2 Z) (st : StartT w b1 b2 N T A r goal) (nd : obs.Nodup) ⦃h₀ : Heap⦄ ⦃U : List Addr⦄ ⦃d : Drawn⦄ ⦃os : OsState⦄ ⦃R : Result → Shared → Prop⦄ (O : ∀ N T, Ok (svW w b1 b2 N T) w (tpW w b1 b2) h₀ U) {h : Heap} (D : Rep h₀ h U N (ltL A) 0)
    (kk : ∀ h', Rep h₀ h' U (N + g) (ltL Z) 0 → R v ⟨h', ⟨G2⟩, d, T + j, os⟩) : goal h d os R :=
  st O (owes_finW run fun h1 L1 D1 ho1 => kk h1 (D1.row ho1 nd)) D
end
section
variable {w : World} {tp : Nat → Option Obj}
noncomputable def cSw (x : Str) (t : Tok) (y : Str) (u : Tok) (b : Bool) (h : (decide (0 + y.length ≤ x.length) && Builtin.Str.subAt x y 0) = b) (n tk : Nat) : Ctr (mdl w) tp :=
  ⟨ssC "str.startswith" x t y u, none, n, tk, [], .ok (.ret (.bool b)), none, none, 0, 0, fun Γ p s _ hp => ok_of_any (any_gives F.slot_str_startswith (typeIs_str s x t) F.entry_str_startswith (F.args_str_startswith_2 _ _) (gives_str_startswith x y t u) ⟨by rw [← h], Eff.same s⟩)⟩
noncomputable def cEw (x : Str) (t : Tok) (y : Str) (u : Tok) (b : Bool) (h : (decide (0 + y.length ≤ x.length) && Builtin.Str.subAt x y (x.length - y.length)) = b) (n tk : Nat) : Ctr (mdl w) tp :=
  ⟨ssC "str.endswith" x t y u, none, n, tk, [], .ok (.ret (.bool b)), none, none, 0, 0, fun Γ p s _ hp => ok_of_any (any_gives F.slot_str_endswith (typeIs_str s x t) F.entry_str_endswith (F.args_str_endswith_2 _ _) (gives_str_endswith x y t u) ⟨by rw [← h], Eff.same s⟩)⟩
theorem neS_a (x t y u) : tden (ssC "str.__ne__" x t y u) = .pure (.again (ssB "str.__ne__" x t y u)) := by kernel_rfl
theorem neS_b (x t y u) : tden (ssB "str.__ne__" x t y u) = .pure (.done (.ret (.bool (x.cps.toList != y.cps.toList)))) := by kernel_rfl
/-- x != y is b -/
noncomputable def cNeS (x : Str) (t : Tok) (y : Str) (u : Tok) (b : Bool) (h : (x.cps.toList != y.cps.toList) = b) (n tk : Nat) : Ctr (mdl w) tp := cPure (ssC "str.__ne__" x t y u) (ssB "str.__ne__" x t y u) (.bool b) (neS_a ..) (by kernel_rfl) (h ▸ neS_b ..) n tk
/-- two texts that are not empty -/
noncomputable def cAddN (x : Str) (t : Tok) (y : Str) (u : Tok) (hx : x.length ≠ 0) (hy : y.length ≠ 0) (hs : (x ++ y).length ≤ 1000) (n tk : Nat) : Ctr (mdl w) tp :=
  ⟨ssC "str.__add__" x t y u, none, n, tk, [], .ok (.ret (.str (x ++ y) tk)), none, none, 0, 1, fun Γ p s _ hp => ok_of_any (any_gives F.slot_str_add (typeIs_str s x t) F.entry_str_add (F.args_str_add_2 _ _) (gives_str_add x y t u) (by
    rw [if_neg (by simp [hx]), if_neg (by simp [hy])]
    exact ⟨small_line hs, by rw [hp.toks], Eff.tok s 1⟩))⟩
/-- the last of a list -/
noncomputable def cLLast (i : Nat) (a : Addr) (xs : List Value) (n : Nat) (u : Tok) (v : Value) (hs : xs.length < 1000) (nn tk : Nat) : Ctr (mdl w) tp :=
  ⟨.call (.builtin "list.__getitem__") ⟨[.ref a, .int (-1) u], []⟩, none, nn, tk, [(i, a, lsO ⟨xs ++ [v]⟩ n)], .ok (.ret v), none, none, 0, 0,
    fun Γ p s _ hp => ok_of_any fun A => by
      have hl : s.heap.IsList a ⟨xs ++ [v]⟩ := IsL.isList (n := n) (hp.has _ (.head _)).1
      obtain ⟨o, ho, hc, ne, hd⟩ := id hl
      refine (wpAny_call_entry slot_list_getitem hl.typeIs entry_list_getitem ?_ (args_list_getitem _ _))
      show wpAny _ _ (Builtin.List.listSubscript? (.int (-1) u) >>= _) _ _ s
      refine wpAny_bind (wpAny_listSubscript_int (fitsIndex_neg (by decide) (by decide)) ?_)
      show wpAny _ _ ((Builtin.List.listItems (.ref a) >>= fun xs => pure ((seqIndex? (Int.negSucc 0) xs.size).bind fun i => xs[i]?.map (i, ·))) >>= _) _ _ s
      refine wpAny_bind (wpAny_bind ?_)
      show wpAny _ _ (seqItems? (.ref a) >>= _) _ _ s
      refine wpAny_bind (wpAny_seqItems ho hd (wpAny_pure (wpAny_pure ?_)))
      have hk : seqIndex? (-1) (⟨xs ++ [v]⟩ : Array Value).size = some xs.length := by
        rw [MeetsSeq.seqIndex_neg (by omega) (by simp; omega)]; congr 1; simp; omega
      have hk' : seqIndex? (Int.negSucc 0) (⟨xs ++ [v]⟩ : Array Value).size = some xs.length := hk
      rw [hk']
      have hx : (⟨xs ++ [v]⟩ : Array Value)[xs.length]? = some v := by simp
      simp only [Option.bind_some, hx, Option.map_some]
      first
        | exact wpAny_bind (wpAny_pure (wpAny_pure ⟨v, rfl, rfl, Eff.same s⟩))
        | exact wpAny_pure ⟨v, rfl, rfl, Eff.same s⟩⟩
theorem clip_nat (q len : Nat) : (max 0 (min (if (q : Int) < 0 then (q : Int) + (len : Int) else (q : Int)) (len : Int))) = ((min q len : Nat) : Int) := by
  rw [if_neg (by omega)]; omega
theorem slicePicked_nat (x : Str) (l u : Option (Nat × Tok)) : slicePicked x (l.map fun p => ((p.1 : Int), p.2)) (u.map fun p => ((p.1 : Int), p.2)) none =
    (List.range (min (u.elim x.length (·.1)) x.length - min (l.elim 0 (·.1)) x.length)).map (min (l.elim 0 (·.1)) x.length + ·) := by
  rw [← sliceRange_one]
  unfold slicePicked Builtin.Str.strSliceIndices
  cases l with
  | none =>
    cases u with
    | none => simp
    | some q =>
      show sliceRange 0 (max 0 (min (if (q.1 : Int) < 0 then (q.1 : Int) + (x.length : Int) else (q.1 : Int)) (x.length : Int))) 1 = _
      rw [clip_nat]; simp
  | some p =>
    cases u with
    | none =>
      show sliceRange (max 0 (min (if (p.1 : Int) < 0 then (p.1 : Int) + (x.length : Int) else (p.1 : Int)) (x.length : Int))) (x.length : Int) 1 = _
      rw [clip_nat]; simp
    | some q =>
      show sliceRange (max 0 (min (if (p.1 : Int) < 0 then (p.1 : Int) + (x.length : Int) else (p.1 : Int)) (x.length : Int))) (max 0 (min (if (q.1 : Int) < 0 then (q.1 : Int) + (x.length : Int) else (q.1 : Int)) (x.length : Int))) 1 = _
      rw [clip_nat, clip_nat]
      rfl
theorem slice_text (x : Str) (l u : Option (Nat × Tok)) : ((slicePicked x (l.map fun p => ((p.1 : Int), p.2)) (u.map fun p => ((p.1 : Int), p.2)) none).filterMap (x.cps[·]?)) =
    (x.cps.toList.drop (min (l.elim 0 (·.1)) x.length)).take (min (u.elim x.length (·.1)) x.length - min (l.elim 0 (·.1)) x.length) := by
  rw [slicePicked_nat]
  exact pick_run x.cps _ _
noncomputable abbrev pv (l : Option (Nat × Tok)) : Value := partValue (l.map fun p => ((p.1 : Int), p.2))
/-- a part of a text, by a slice -/
noncomputable def cSlS (i : Nat) (x : Str) (t : Tok) (a : Addr) (l u : Option (Nat × Tok)) (r : List Nat)
    (hr : (x.cps.toList.drop (min (l.elim 0 (·.1)) x.length)).take (min (u.elim x.length (·.1)) x.length - min (l.elim 0 (·.1)) x.length) = r)
    (hl : min (u.elim x.length (·.1)) x.length - min (l.elim 0 (·.1)) x.length ≠ x.length) (hx : x.length ≤ 1000) (n tk : Nat) : Ctr (mdl w) tp :=
  ⟨.call (.builtin "str.__getitem__") ⟨[.str x t, .ref a], []⟩, none, n, tk, [(i, a, slO (pv l) (pv u) .none)], .ok (.ret (.str (S r) tk)), none, none, 0, 1,
    fun Γ p' s _ hp => ok_of_any fun A => call_meets F.slot_str_getitem (typeIs_str s x t) F.entry_str_getitem (F.args_str_getitem_2 _ _) (meets_str_getitem_slice x t a (l.map fun p => ((p.1 : Int), p.2)) (u.map fun p => ((p.1 : Int), p.2)) none rfl)
      ⟨⟨_, (hp.has _ (.head _)).1, rfl, rfl⟩, by
        have e : sliceMade x t (l.map fun p => ((p.1 : Int), p.2)) (u.map fun p => ((p.1 : Int), p.2)) none = .str (S r) := by
          unfold sliceMade
          rw [if_neg, slice_text, hr]
          rw [slicePicked_nat]
          simp
          exact hl
        rw [e]
        refine ⟨?_, by rw [hp.toks], Eff.tok s 1⟩
        have h2 : r.length ≤ x.length := by
          rw [← hr, List.length_take, List.length_drop]
          show _ ≤ x.cps.size
          have : x.cps.toList.length = x.cps.size := rfl
          omega
        exact small_line (Nat.le_trans h2 hx)⟩⟩
/-- the whole of a text, by a slice -/
noncomputable def cSlW (i : Nat) (x : Str) (t : Tok) (a : Addr) (l u : Option (Nat × Tok))
    (hl : min (u.elim x.length (·.1)) x.length - min (l.elim 0 (·.1)) x.length = x.length) (n tk : Nat) : Ctr (mdl w) tp :=
  ⟨.call (.builtin "str.__getitem__") ⟨[.str x t, .ref a], []⟩, none, n, tk, [(i, a, slO (pv l) (pv u) .none)], .ok (.ret (.str x t)), none, none, 0, 0,
    fun Γ p' s _ hp => ok_of_any fun A => call_meets F.slot_str_getitem (typeIs_str s x t) F.entry_str_getitem (F.args_str_getitem_2 _ _) (meets_str_getitem_slice x t a (l.map fun p => ((p.1 : Int), p.2)) (u.map fun p => ((p.1 : Int), p.2)) none rfl)
      ⟨⟨_, (hp.has _ (.head _)).1, rfl, rfl⟩, by
        have e : sliceMade x t (l.map fun p => ((p.1 : Int), p.2)) (u.map fun p => ((p.1 : Int), p.2)) none = .val (.str x t) := by
          unfold sliceMade
          rw [if_pos]
          rw [slicePicked_nat]
          simp
          exact hl
        rw [e]
        exact ⟨rfl, Eff.same s⟩⟩⟩
noncomputable abbrev zipV (ps : List Str) (ts : List Tok) : List Value := List.zipWith (fun p t => Value.str p t) ps ts
/-- x.split(y) gives ps -/
abbrev SplitOk (w : World) (x : Str) (t : Tok) (y : Str) (u : Tok) (n tk : Nat) (ps : List Str) (ts : List Tok) (j : Nat) : Prop :=
  ∀ (Γ : Ctx) (p : Pos) (s : Shared), s.heap.objs.size = n → s.toks = tk → wpCode (mdl w) (Γ.enter (ssC "str.split" x t y u) none p) (fun r' s' => r' = .ok (.ret (.ref n)) ∧ Eff s s' none (some (lsO ⟨zipV ps ts⟩ 0)) 1 j) p s
noncomputable abbrev cSplit {x : Str} {t : Tok} {y : Str} {u : Tok} {n tk : Nat} {ps : List Str} {ts : List Tok} {j : Nat} (h : SplitOk w x t y u n tk ps ts j) : Ctr (mdl w) tp :=
  ⟨ssC "str.split" x t y u, none, n, tk, [], .ok (.ret (.ref n)), none, some (lsO ⟨zipV ps ts⟩ 0), 1, j, fun Γ p s _ hp => h Γ p s hp.size hp.toks⟩
theorem strsFrom_zip : ∀ (k : Nat) (ps : List Str), strsFrom k ps = zipV ps (List.range' k ps.length)
  | _, [] => rfl
  | k, p :: ps => by
    have := strsFrom_zip (k + 1) ps
    simp only [List.length_cons, List.range'_succ, zipV, List.zipWith_cons_cons]
    rw [← zipV, ← this]; rfl
open Builtin.Str in
theorem splitOk (w : World) (x : Str) (t : Tok) (y : Str) (u : Tok) (n tk : Nat) (hy : y.length ≠ 0) (hk : Builtin.Str.strKind y = 1) (hx : x.length ≤ 900) :
    ∃ ts j, ts.length = (partsBetween x (occurrences x y 0 x.length (x.length + 1)) y.length).length ∧ SplitOk w x t y u n tk (partsBetween x (occurrences x y 0 x.length (x.length + 1)) y.length) ts j := by
  have hkx : 1 ≤ Builtin.Str.strKind x := by unfold Builtin.Str.strKind; split <;> (try split) <;> omega
  have hy' : (y.length == 0) = false := by simpa using hy
  by_cases hf : (occurrences x y 0 x.length (x.length + 1)).isEmpty = true
  · have he : occurrences x y 0 x.length (x.length + 1) = [] := by simpa using hf
    have hp : partsBetween x (occurrences x y 0 x.length (x.length + 1)) y.length = [x] := by rw [he]; exact W.parts_nil _ _
    rw [hp]
    refine ⟨[t], 0, rfl, fun Γ p s hn ht => ok_of_any fun A => ?_⟩
    by_cases h1 : (decide (x.length < y.length) || decide (Builtin.Str.strKind x < Builtin.Str.strKind y)) = true
    · exact call_meets F.slot_str_split (typeIs_str s x t) F.entry_str_split (F.args_str_split_2 _ _) (meets_str_split_cannot_occur x y t u h1) ⟨by rw [hn], Eff.new1 s (lsO ⟨[.str x t]⟩ 0) rfl 0⟩
    · exact call_meets F.slot_str_split (typeIs_str s x t) F.entry_str_split (F.args_str_split_2 _ _) (meets_str_split_not_found x y t u (by simpa using h1) hy' hf) ⟨by rw [hn], Eff.new1 s (lsO ⟨[.str x t]⟩ 0) rfl 0⟩
  · have hf' : (occurrences x y 0 x.length (x.length + 1)).isEmpty = false := by simpa using hf
    have h1 : (decide (x.length < y.length) || decide (Builtin.Str.strKind x < Builtin.Str.strKind y)) = false := by
      rw [hk]
      have : ¬ Builtin.Str.strKind x < 1 := by omega
      simp only [this, decide_false, Bool.or_false, decide_eq_false_iff_not]
      intro hlt
      apply hf
      rw [W.occ_nil_of_no]
      · rfl
      · intro i hi; omega
    refine ⟨List.range' tk (partsBetween x (occurrences x y 0 x.length (x.length + 1)) y.length).length, (partsBetween x (occurrences x y 0 x.length (x.length + 1)) y.length).length, by simp, fun Γ p s hn ht => ok_of_any fun A => ?_⟩
    have hlen : (partsBetween x (occurrences x y 0 x.length (x.length + 1)) y.length).length ≤ sizeLine := by
      rw [length_partsBetween]
      have := PySem.StrLaws.occ_length_le x y 0 x.length (x.length + 1)
      exact small_line (by omega)
    refine call_meets F.slot_str_split (typeIs_str s x t) F.entry_str_split (F.args_str_split_2 _ _) (meets_str_split_sep x y t u h1 hy' hf' (small_line (by omega)) hlen) ?_
    subst ht
    refine ⟨by rw [hn], ?_⟩
    rw [strsFrom_zip]
    exact Eff.new1 s (lsO ⟨zipV (partsBetween x (occurrences x y 0 x.length (x.length + 1)) y.length) (List.range' s.toks (partsBetween x (occurrences x y 0 x.length (x.length + 1)) y.length).length)⟩ 0) rfl (partsBetween x (occurrences x y 0 x.length (x.length + 1)) y.length).length
noncomputable def joinR (sep : Str) (l : List (Str × Tok)) (tk : Tok) : Str × Tok × Nat := match l with
  | [p] => (p.1, p.2, 0)
  | l => (Builtin.Str.glued sep (l.map (·.1)), tk, 1)
noncomputable def cJoinA (i : Nat) (sep : Str) (t : Tok) (a : Addr) (l : List (Str × Tok)) (n : Nat) (r : Str) (tr : Tok) (j : Nat) (nn tk : Nat) (h : joinR sep l tk = (r, tr, j)) (hl : (l.map (·.1)).toArray.foldl (· + ·.length + sep.length) 0 ≤ 1000) (hr : r.length ≤ 1000) : Ctr (mdl w) tp :=
  ⟨.call (.builtin "str.join") ⟨[.str sep t, .ref a], []⟩, none, nn, tk, [(i, a, lsO ⟨strValues l⟩ n)], .ok (.ret (.str r tr)), none, none, 0, j,
    fun Γ p s _ hp => ok_of_any fun A => call_meets F.slot_str_join (typeIs_str _ _ _) F.entry_str_join (F.args_str_join_2 _ _) (meets_str_join_list sep t a l (by
        have := small_line hl
        simp only [Builtin.Str.tooLong, decide_eq_false_iff_not]
        omega))
      ⟨IsL.isList (n := n) (hp.has _ (.head _)).1, by
        have ht := hp.toks
        match l, h with
        | [], h =>
          have e1 : Builtin.Str.glued sep [] = r := congrArg (fun x => x.1) h
          have e2 : tk = tr := congrArg (fun x => x.2.1) h
          have e3 : 1 = j := congrArg (fun x => x.2.2) h
          subst e2 e3
          show (Made.str (Builtin.Str.glued sep [])).post _ s
          rw [e1]
          exact ⟨small_line hr, by rw [ht], Eff.tok s 1⟩
        | [q], h =>
          have e1 : q.1 = r := congrArg (fun x => x.1) h
          have e2 : q.2 = tr := congrArg (fun x => x.2.1) h
          have e3 : 0 = j := congrArg (fun x => x.2.2) h
          subst e1 e2 e3
          exact ⟨rfl, Eff.same s⟩
        | q :: q' :: l', h =>
          have e1 : Builtin.Str.glued sep ((q :: q' :: l').map (·.1)) = r := congrArg (fun x => x.1) h
          have e2 : tk = tr := congrArg (fun x => x.2.1) h
          have e3 : 1 = j := congrArg (fun x => x.2.2) h
          subst e2 e3
          show (Made.str (Builtin.Str.glued sep ((q :: q' :: l').map (·.1)))).post _ s
          rw [e1]
          exact ⟨small_line hr, by rw [ht], Eff.tok s 1⟩⟩⟩
end
theorem len_app (x y : Str) : (x ++ y).length = x.length + y.length := by
  obtain ⟨a⟩ := x; obtain ⟨b⟩ := y
  show (a ++ b).size = a.size + b.size
  simp
theorem len_47 {x y : Str} (h : x.length + y.length ≤ 900) : (S [47]).length + y.length ≤ 1000 := by
  show 1 + _ ≤ _; omega
theorem len_47n (y : Str) : (S [47]).length + y.length ≠ 0 := by
  show 1 + _ ≠ 0; omega
theorem len_47b {x y : Str} (h : x.length + y.length ≤ 900) : x.length + ((S [47]).length + y.length) ≤ 1000 := by
  show _ + (1 + _) ≤ _; omega
theorem len_S (p : List Nat) : ((S p).length : Int) = (p.length : Int) := rfl
section
variable (w : World) (b1 b2 : Bool) (N Tn : Nat) (pos : Pos) (G : List GenState)
section
variable (aD aB aA : Addr) (pl w' : Str) (tp tw : Tok) (L : Nat) (hL : L < 900) (hpl : (pl.length : Int) = ((L + 1 : Nat) : Int)) (hw0 : w'.length ≠ 0) (hs : pl.length + w'.length ≤ 900) (hsw : (decide (0 + (S [47]).length ≤ w'.length) && Builtin.Str.subAt w' (S [47]) 0) = false) (hew : (decide (0 + (S [47]).length ≤ pl.length) && Builtin.Str.subAt pl (S [47]) (pl.length - (S [47]).length)) = true) 
noncomputable abbrev J1_a : Rw := []
noncomputable abbrev J1_z : Rw := []
noncomputable abbrev J1_g : Ctx := ⟨.call (rf 138) ⟨[(vs pl tp), (vs w' tw)], []⟩, none, none, [(.forLoop fl914.1 (rf aD) fl914.2.1 fl914.2.2 (eN907 aB), ⟨916, 25, 916, 51⟩), (k907 aB ⟨914, 16, 914, 38⟩), (k921 aA ⟨939, 29, 939, 43⟩), callerB], none⟩
noncomputable def J1 : Res :=
  (fun _ _ => simC w b1 b2 N Tn 334 (dg 131 0x2a661666062212212212122227088880000070077070007700002022661666060610112222220000050005500002022304444000003003303000330000200222200) [cSw w' tw (S [47]) (Tn + 7) false hsw (N + 8) (Tn + 14), cLenB pl tp ((L + 1 : Nat) : Int) hpl (by omega) (N + 8) (Tn + 14), cEw pl tp (S [47]) (Tn + 7) true hew (N + 8) (Tn + 16), cAddN pl tp w' tw (by omega) hw0 (by rw [len_app]; omega) (N + 8) (Tn + 16)] (J1_g aD aB aA pl w' tp tw) pos J1_a 0 G) hL hs
theorem J1_run : RunF (J1 w b1 b2 N Tn pos G aD aB aA pl w' tp tw L hL hpl hw0 hs hsw hew) [] (.ok (.ret (vs (pl ++ w') (Tn + 16)))) 10 18 G J1_z := by
  walk_at "r"
variable {w b1 b2 N Tn pos G aD aB aA}
def J1_go := goF (J1_run w b1 b2 N Tn pos G aD aB aA pl w' tp tw L hL hpl hw0 hs hsw hew) (sC rfl) (by decide)
end
section
variable (aD aB aA : Addr) (pl w' : Str) (tp tw : Tok) (L : Nat) (hL : L < 900) (hpl : (pl.length : Int) = ((L + 1 : Nat) : Int)) (hw0 : w'.length ≠ 0) (hs : pl.length + w'.length ≤ 900) (hsw : (decide (0 + (S [47]).length ≤ w'.length) && Builtin.Str.subAt w' (S [47]) 0) = false) (hew : (decide (0 + (S [47]).length ≤ pl.length) && Builtin.Str.subAt pl (S [47]) (pl.length - (S [47]).length)) = false) 
noncomputable abbrev J2_a : Rw := []
noncomputable abbrev J2_z : Rw := []
noncomputable abbrev J2_g : Ctx := ⟨.call (rf 138) ⟨[(vs pl tp), (vs w' tw)], []⟩, none, none, [(.forLoop fl914.1 (rf aD) fl914.2.1 fl914.2.2 (eN907 aB), ⟨916, 25, 916, 51⟩), (k907 aB ⟨914, 16, 914, 38⟩), (k921 aA ⟨939, 29, 939, 43⟩), callerB], none⟩
noncomputable def J2 : Res :=
  (fun _ => simC w b1 b2 N Tn 339 (dg 133 0x2a66166606221122212212122227088880000070077070007700002022661666060610112222220000050005500002022304444000003003303000330000200222200) [cSw w' tw (S [47]) (Tn + 7) false hsw (N + 8) (Tn + 14), cLenB pl tp ((L + 1 : Nat) : Int) hpl (by omega) (N + 8) (Tn + 14), cEw pl tp (S [47]) (Tn + 7) false hew (N + 8) (Tn + 16), cAddN (S [47]) (Tn + 7) w' tw (by decide) hw0 (by rw [len_app]; exact len_47 hs) (N + 8) (Tn + 16), cAddN pl tp ((S [47]) ++ w') (Tn + 16) (by omega) (by rw [len_app]; exact len_47n _) (by rw [len_app, len_app]; exact len_47b hs) (N + 8) (Tn + 17)] (J2_g aD aB aA pl w' tp tw) pos J2_a 0 G) hL
theorem J2_run : RunF (J2 w b1 b2 N Tn pos G aD aB aA pl w' tp tw L hL hpl hw0 hs hsw hew) [] (.ok (.ret (vs (pl ++ ((S [47]) ++ w')) (Tn + 17)))) 10 19 G J2_z := by
  walk_at "r"
variable {w b1 b2 N Tn pos G aD aB aA}
def J2_go := goF (J2_run w b1 b2 N Tn pos G aD aB aA pl w' tp tw L hL hpl hw0 hs hsw hew) (sC rfl) (by decide)
end
end
section
variable {w : World} {tp : Nat → Option Obj}
/-- a text in a list of two texts -/
noncomputable def cLIn2 (i : Nat) (a : Addr) (y z : Str) (ty tz : Tok) (n : Nat) (x : Str) (t : Tok) (b : Bool) (h : (decide (y = x) || decide (z = x)) = b) (nn tk : Nat) : Ctr (mdl w) tp :=
  ⟨.call (.builtin "list.__contains__") ⟨[.ref a, .str x t], []⟩, none, nn, tk, [(i, a, lsO ⟨[.str y ty, .str z tz]⟩ n)], .ok (.ret (.bool b)), none, none, 0, 0,
    fun Γ p s _ hp => ok_of_any fun A => call_meets F.slot_list_contains (typeL (hp.has _ (.head _)).1) F.entry_list_contains (F.args_list_contains_2 _ _)
      (MeetsSeq.list_contains a ⟨[.str y ty, .str z tz]⟩ n (.str x t) (fun v => match v with | .str q _ => decide (q = x) | _ => false) (by
        intro v hv
        simp at hv
        rcases hv with rfl | rfl <;> exact eqGives_str _ _ _ _))
      ⟨(hp.has _ (.head _)).1, by simpa using h, Eff.same s⟩⟩
end
noncomputable def contR (t : Sem Fin) (res : GenResult) : Sem Fin := match t with
  | .resume _ _ _ k => k res
  | t => t
noncomputable def resOf (t : Sem Fin) : Option Nat := match t with
  | .resume g (.send .none) _ _ => some g
  | _ => none
theorem resOf_is {t : Sem Fin} {g : Nat} (h : resOf t = some g) : ∃ l k, t = .resume g (.send .none) l k := by
  unfold resOf at h
  split at h
  · cases h; exact ⟨_, _, rfl⟩
  · cases h
noncomputable def Res.outR (obs : List Nat) (r : Res) : Option Result × Option (Ctx × Pos × Nat × Nat × Nat × List GenState × List (Option (Addr × Obj))) :=
  (r.r?, r.st?.bind fun st => (resOf st.t).map fun g => (st.Γ, st.p, g, st.m, st.i, st.G, obs.map st.L.get))
structure KontR (M : Model) (R : Result → Shared → Prop) (r : Res) (res : GenResult) (s : Shared) : Prop where
  go : match r.st? with
    | some st => Means M R st.Γ st.p st.κ (contR st.t res) s
    | none => False
noncomputable def Res.nextR {M : Model} {tp : Nat → Option Obj} (r : Res) (res : GenResult) (V : Sv) (n : Nat) (ms : List Nat) (xs : List (Ctr M tp)) (L : LT) (cnt : Nat) (G : List GenState) : Res := match r.st? with
  | some st => sim V n ms xs st.Γ st.p st.κ (contR st.t res) L cnt 0 0 G ck0
  | none => .stop 60
section
variable {V : Sv} {w : World} {tp : Nat → Option Obj} {h₀ : Heap} {U : List Addr} {d : Drawn} {os : OsState} {R : Result → Shared → Prop}
theorem owes_resW {r : Res} {obs : List Nat} {Γ : Ctx} {p : Pos} {gn g j : Nat} {G : List GenState} {objs : List (Option (Addr × Obj))} (e : (r.outR obs, r.lhs) = ((none, some (Γ, p, gn, g, j, G, objs)), r.rhs))
    (k : ∀ h L, Rep h₀ h U V.N L g → obs.map L.get = objs → ∃ res s', Wakes (mdl w) Γ p gn (.send .none) ⟨h, ⟨G⟩, d, V.T + j, os⟩ res s' ∧ KontR (mdl w) R r res s') : OwesW V w h₀ U d os R r := by
  refine ⟨?_⟩
  have e1 := congrArg Prod.fst e
  have gd := good_of (congrArg Prod.snd e)
  cases r with
  | stop => cases congrArg Prod.snd e1
  | fin v' st ck => cases congrArg Prod.fst e1
  | cut st ck =>
    have a1 : (resOf st.t).map (fun g => (st.Γ, st.p, g, st.m, st.i, st.G, obs.map st.L.get)) = some (Γ, p, gn, g, j, G, objs) := congrArg Prod.snd e1
    obtain ⟨g', hg, a2⟩ := Option.map_eq_some_iff.mp a1
    obtain ⟨l, kk, ht⟩ := resOf_is hg
    have c1 : st.Γ = Γ := congrArg (fun x => x.1) a2
    have c0 : st.p = p := congrArg (fun x => x.2.1) a2
    have c2 : g' = gn := congrArg (fun x => x.2.2.1) a2
    have b1 : st.m = g := congrArg (fun x => x.2.2.2.1) a2
    have b2 : st.i = j := congrArg (fun x => x.2.2.2.2.1) a2
    have b3 : st.G = G := congrArg (fun x => x.2.2.2.2.2.1) a2
    have b4 : obs.map st.L.get = objs := congrArg (fun x => x.2.2.2.2.2.2) a2
    subst c1 c0 c2 b1 b2 b3
    refine ⟨gd, fun h D => ?_⟩
    obtain ⟨res, s', hw, q⟩ := k h _ D b4
    have q' : Means (mdl w) R st.Γ st.p st.κ (contR st.t res) s' := q.go
    rw [ht] at q' ⊢
    unfold Means
    rw [Sem.wp_resume]
    exact ⟨res, s', hw, q'⟩
theorem kont_runR {r : Res} {res : GenResult} {n : Nat} {ms : List Nat} {xs : List (Ctr (mdl w) tp)} {L : LT} {cnt : Nat} {G : List GenState} {h : Heap} (O : Ok V w tp h₀ U)
    (o : OwesW V w h₀ U d os R (r.nextR res V n ms xs L cnt G)) (D : Rep h₀ h U V.N L 0) : KontR (mdl w) R r res ⟨h, ⟨G⟩, d, V.T, os⟩ := by
  have o := o.go
  refine ⟨?_⟩
  cases r with
  | stop => cases o
  | fin v st ck => exact sim_sound O n ms xs _ _ _ _ L cnt 0 0 G ck0 o h D
  | cut st ck => exact sim_sound O n ms xs _ _ _ _ L cnt 0 0 G ck0 o h D
end
/-- a run that is cut at a yield -/
noncomputable def contY (t : Sem Fin) : Sem Fin := match t with
  | .yield _ _ _ k => k (.send .none)
  | t => t
noncomputable def yOf (t : Sem Fin) : Option Value := match t with
  | .yield v false _ _ => some v
  | _ => none
theorem yOf_is {t : Sem Fin} {v : Value} (h : yOf t = some v) : ∃ l k, t = .yield v false l k := by
  unfold yOf at h
  split at h
  · cases h; exact ⟨_, _, rfl⟩
  · cases h
noncomputable def Res.outY (obs : List Nat) (r : Res) : Option Result × Option (Ctx × Mine.Kont × Value × Sem Fin × Nat × Nat × List GenState × List (Option (Addr × Obj))) :=
  (r.r?, r.st?.bind fun st => (yOf st.t).map fun v => (st.Γ, st.κ, v, contY st.t, st.m, st.i, st.G, obs.map st.L.get))
structure OwesGW (V : Sv) (w : World) (h₀ : Heap) (U : List Addr) (d : Drawn) (os : OsState) (Φ : End → Shared → Prop) (r : Res) : Prop where
  go : r.OwesG V w h₀ U d os Φ
section
variable {V : Sv} {w : World} {tp : Nat → Option Obj} {h₀ : Heap} {U : List Addr} {d : Drawn} {os : OsState} {Φ : End → Shared → Prop}
theorem owesG_yieldW {r : Res} {obs : List Nat} {Γ : Ctx} {v : Value} {T : Sem Fin} {g j : Nat} {G : List GenState} {objs : List (Option (Addr × Obj))} (e : (r.outY obs, r.lhs) = ((none, some (Γ, .base, v, T, g, j, G, objs)), r.rhs))
    (k : ∀ h L p l kk, Rep h₀ h U V.N L g → obs.map L.get = objs → kk (.send .none) = T → Φ (.susp v false l kk Γ.code p []) ⟨h, ⟨G⟩, d, V.T + j, os⟩) : OwesGW V w h₀ U d os Φ r := by
  refine ⟨?_⟩
  have e1 := congrArg Prod.fst e
  have gd := good_of (congrArg Prod.snd e)
  cases r with
  | stop => cases congrArg Prod.snd e1
  | fin v' st ck => cases congrArg Prod.fst e1
  | cut st ck =>
    have a1 : (yOf st.t).map (fun v => (st.Γ, st.κ, v, contY st.t, st.m, st.i, st.G, obs.map st.L.get)) = some (Γ, Kont.base, v, T, g, j, G, objs) := congrArg Prod.snd e1
    obtain ⟨v', hv, a2⟩ := Option.map_eq_some_iff.mp a1
    obtain ⟨l, kk, ht⟩ := yOf_is hv
    have c1 : st.Γ = Γ := congrArg (fun x => x.1) a2
    have c2 : st.κ = Kont.base := congrArg (fun x => x.2.1) a2
    have c3 : v' = v := congrArg (fun x => x.2.2.1) a2
    have c4 : contY st.t = T := congrArg (fun x => x.2.2.2.1) a2
    have b1 : st.m = g := congrArg (fun x => x.2.2.2.2.1) a2
    have b2 : st.i = j := congrArg (fun x => x.2.2.2.2.2.1) a2
    have b3 : st.G = G := congrArg (fun x => x.2.2.2.2.2.2.1) a2
    have b4 : obs.map st.L.get = objs := congrArg (fun x => x.2.2.2.2.2.2.2) a2
    subst c1 c3 b1 b2 b3
    rw [ht] at c4
    refine ⟨gd, fun h D => ?_⟩
    rw [c2, ht]
    exact ⟨_, _, .yield, k h _ st.p l kk D b4 c4⟩
theorem owesG_finW {r : Res} {obs : List Nat} {v : Result} {g j : Nat} {G : List GenState} {objs : List (Option (Addr × Obj))} (e : (r.out obs, r.lhs) = ((some v, some (g, j, G, objs)), r.rhs))
    (k : ∀ h L, Rep h₀ h U V.N L g → obs.map L.get = objs → Φ (.ret v) ⟨h, ⟨G⟩, d, V.T + j, os⟩) : OwesGW V w h₀ U d os Φ r := by
  refine ⟨?_⟩
  have e1 := congrArg Prod.fst e
  have gd := good_of (congrArg Prod.snd e)
  cases r with
  | stop => cases congrArg Prod.fst e1
  | cut st ck => cases congrArg Prod.fst e1
  | fin v' st ck =>
    have a1 : v' = v := Option.some.inj (congrArg Prod.fst e1)
    have a2 : (st.m, st.i, st.G, obs.map st.L.get) = (g, j, G, objs) := Option.some.inj (congrArg Prod.snd e1)
    have b1 : st.m = g := congrArg (fun x => x.1) a2
    have b2 : st.i = j := congrArg (fun x => x.2.1) a2
    have b3 : st.G = G := congrArg (fun x => x.2.2.1) a2
    have b4 : obs.map st.L.get = objs := congrArg (fun x => x.2.2.2) a2
    subst a1 b1 b2 b3
    exact ⟨gd, fun h D => k h _ D b4⟩
/-- a generator's own run -/
theorem gen_run (O : Ok V w tp h₀ U) {n : Nat} {ms : List Nat} {xs : List (Ctr (mdl w) tp)} {Γ : Ctx} {p : Pos} {L : LT} {cnt : Nat} {G : List GenState} {h : Heap}
    (o : OwesGW V w h₀ U d os Φ (sim V n ms xs Γ p .base (tden Γ.code) L cnt 0 0 G ck0)) (D : Rep h₀ h U V.N L 0) : ∃ e s', Runs (mdl w) Γ p ((mdl w).den Γ.code) [] ⟨h, ⟨G⟩, d, V.T, os⟩ e s' ∧ Φ e s' := by
  rw [show (mdl w).den = tden from tden_eq]
  exact sim_soundG O n ms xs Γ p .base _ L cnt 0 0 G ck0 o.go h D
end
section
variable {V : Sv} {w : World} {tp : Nat → Option Obj} {h₀ : Heap} {U : List Addr} {d : Drawn} {os : OsState} {R : Result → Shared → Prop}
theorem owes_cutPW {r : Res} {obs : List Nat} {Γ : Ctx} {p : Pos} {κ : Mine.Kont} {t : Sem Fin} {g j : Nat} {G : List GenState} {objs : List (Option (Addr × Obj))} (e : (r.outP obs, r.lhs) = ((none, some (Γ, p, κ, t, g, j, G, objs)), r.rhs))
    (k : ∀ h L, Rep h₀ h U V.N L g → obs.map L.get = objs → Means (mdl w) R Γ p κ t ⟨h, ⟨G⟩, d, V.T + j, os⟩) : OwesW V w h₀ U d os R r := ⟨owes_cutP e k⟩
theorem owes_callPW {r : Res} {obs : List Nat} {Γ : Ctx} {p : Pos} {g j : Nat} {G : List GenState} {objs : List (Option (Addr × Obj))} (e : (r.outKP obs, r.lhs) = ((none, some (Γ, p, g, j, G, objs)), r.rhs))
    (k : ∀ h L, Rep h₀ h U V.N L g → obs.map L.get = objs → wpCode (mdl w) Γ (KontW (mdl w) R r) p ⟨h, ⟨G⟩, d, V.T + j, os⟩) : OwesW V w h₀ U d os R r :=
  ⟨owes_callP e fun h L D ho => wpCode_mono (fun _ _ q => q.go) (k h L D ho)⟩
end
noncomputable def nextRC (r : Res) (res : GenResult) (w : World) (b1 b2 : Bool) (N T n : Nat) (ms : List Nat) (xs : List (Ctr (mdl w) (tpW w b1 b2))) (A : Rw) (c : Nat) (G : List GenState) : Res := r.nextR (M := mdl w) (tp := tpW w b1 b2) res (svW w b1 b2 N T) n ms xs (ltL A) c G
abbrev RunKP (r : Res) (obs : List Nat) (H : Ctx) (p : Pos) (g j : Nat) (G : List GenState) (Z : Rw) : Prop := (r.outKP obs, r.lhs) = ((none, some (H, p, g, j, G, Z.map some)), r.rhs)
abbrev RunP (r : Res) (obs : List Nat) (H : Ctx) (p : Pos) (g j : Nat) (G : List GenState) (Z : Rw) : Prop := (r.outP obs, r.lhs) = ((none, some (H, p, Kont.base, tden H.code, g, j, G, Z.map some)), r.rhs)
abbrev RunR (r : Res) (obs : List Nat) (H : Ctx) (p : Pos) (g j : Nat) (G : List GenState) (Z : Rw) : Prop := (r.outR obs, r.lhs) = ((none, some (H, p, 0, g, j, G, Z.map some)), r.rhs)
abbrev RunY (r : Res) (obs : List Nat) (H : Ctx) (v : Value) (g j : Nat) (G : List GenState) (Z : Rw) : Prop := (r.outY obs, r.lhs) = ((none, some (H, Kont.base, v, .pure (.again H.code), g, j, G, Z.map some)), r.rhs)
section
variable {w : World} {b1 b2 : Bool} {N T n c g j : Nat} {ms obs : List Nat} {xs : List (Ctr (mdl w) (tpW w b1 b2))} {Γ H : Ctx} {p pe : Pos} {A Z : Rw} {G G2 : List GenState} {r q : Res} {v : Result} {res : GenResult} {yv : Value} {goal : Heap → Drawn → OsState → (Result → Shared → Prop) → Prop}
theorem sR (e : r = nextRC q res w b1 b2 N T n ms xs A c G) : StartT w b1 b2 N T A r (fun h d os R => KontR (mdl w) R q res ⟨h, ⟨G⟩, d, T, os⟩) := fun O ow D => by
  subst e
  exact kont_runR (V := svW w b1 b2 N T) (O _ _) ow D
theorem goKP (run : RunKP r obs H pe g j G2 Z) (st : StartT w b1 b2 N T A r goal) (nd : obs.Nodup) ⦃h₀ : Heap⦄ ⦃U : List Addr⦄ ⦃d : Drawn⦄ ⦃os : OsState⦄ ⦃R : Result → Shared → Prop⦄ (O : ∀ N T, Ok (svW w b1 b2 N T) w (tpW w b1 b2) h₀ U) {h : Heap} (D : Rep h₀ h U N (ltL A) 0)
    (kk : ∀ h', Rep h₀ h' U (N + g) (ltL Z) 0 → wpCode (mdl w) H (KontW (mdl w) R r) pe ⟨h', ⟨G2⟩, d, T + j, os⟩) : goal h d os R :=
  st O (owes_callPW run fun h1 L1 D1 ho1 => kk h1 (D1.row ho1 nd)) D
theorem goP (run : RunP r obs H pe g j G2 Z) (st : StartT w b1 b2 N T A r goal) (nd : obs.Nodup) ⦃h₀ : Heap⦄ ⦃U : List Addr⦄ ⦃d : Drawn⦄ ⦃os : OsState⦄ ⦃R : Result → Shared → Prop⦄ (O : ∀ N T, Ok (svW w b1 b2 N T) w (tpW w b1 b2) h₀ U) {h : Heap} (D : Rep h₀ h U N (ltL A) 0)
    (kk : ∀ h', Rep h₀ h' U (N + g) (ltL Z) 0 → wpCode (mdl w) H R pe ⟨h', ⟨G2⟩, d, T + j, os⟩) : goal h d os R :=
  st O (owes_cutPW run fun h1 L1 D1 ho1 => wpCode_means (kk h1 (D1.row ho1 nd))) D
theorem goR (run : RunR r obs H pe g j G2 Z) (st : StartT w b1 b2 N T A r goal) (nd : obs.Nodup) ⦃h₀ : Heap⦄ ⦃U : List Addr⦄ ⦃d : Drawn⦄ ⦃os : OsState⦄ ⦃R : Result → Shared → Prop⦄ (O : ∀ N T, Ok (svW w b1 b2 N T) w (tpW w b1 b2) h₀ U) {h : Heap} (D : Rep h₀ h U N (ltL A) 0)
    (kk : ∀ h', Rep h₀ h' U (N + g) (ltL Z) 0 → ∃ res s', Wakes (mdl w) H pe 0 (.send .none) ⟨h', ⟨G2⟩, d, T + j, os⟩ res s' ∧ KontR (mdl w) R r res s') : goal h d os R :=
  st O (owes_resW run fun h1 L1 D1 ho1 => kk h1 (D1.row ho1 nd)) D
theorem goY (run : RunY r obs H yv g j G2 Z) (e : r = simC w b1 b2 N T n ms xs Γ p A c G) (nd : obs.Nodup) ⦃h₀ : Heap⦄ ⦃U : List Addr⦄ ⦃d : Drawn⦄ ⦃os : OsState⦄ ⦃Φ : End → Shared → Prop⦄ (O : ∀ N T, Ok (svW w b1 b2 N T) w (tpW w b1 b2) h₀ U) {h : Heap} (D : Rep h₀ h U N (ltL A) 0)
    (kk : ∀ h' pp l kc, Rep h₀ h' U (N + g) (ltL Z) 0 → kc (.send .none) = .pure (.again H.code) → Φ (.susp yv false l kc H.code pp []) ⟨h', ⟨G2⟩, d, T + j, os⟩) :
    ∃ e s', Runs (mdl w) Γ p ((mdl w).den Γ.code) [] ⟨h, ⟨G⟩, d, T, os⟩ e s' ∧ Φ e s' := by
  subst e
  exact gen_run (V := svW w b1 b2 N T) (O _ _) (owesG_yieldW run fun h1 L1 p1 l1 kc1 D1 ho1 hk1 => kk h1 p1 l1 kc1 (D1.row ho1 nd) hk1) D
theorem goG (run : RunF r obs v g j G2 Z) (e : r = simC w b1 b2 N T n ms xs Γ p A c G) (nd : obs.Nodup) ⦃h₀ : Heap⦄ ⦃U : List Addr⦄ ⦃d : Drawn⦄ ⦃os : OsState⦄ ⦃Φ : End → Shared → Prop⦄ (O : ∀ N T, Ok (svW w b1 b2 N T) w (tpW w b1 b2) h₀ U) {h : Heap} (D : Rep h₀ h U N (ltL A) 0)
    (kk : ∀ h', Rep h₀ h' U (N + g) (ltL Z) 0 → Φ (.ret v) ⟨h', ⟨G2⟩, d, T + j, os⟩) :
    ∃ e s', Runs (mdl w) Γ p ((mdl w).den Γ.code) [] ⟨h, ⟨G⟩, d, T, os⟩ e s' ∧ Φ e s' := by
  subst e
  exact gen_run (V := svW w b1 b2 N T) (O _ _) (owesG_finW run fun h1 L1 D1 ho1 => kk h1 (D1.row ho1 nd)) D
end
/-- what a search gives -/
abbrev SeOk (w : World) (b1 b2 : Bool) (c : Code) (y : Ctx) (N T : Nat) (v : Value) (g : Nat) : Prop :=
  ∀ (Γ : Ctx) (p : Pos) (s : Shared), (∀ z, some y = some z → Γ.enter c none p = z) → Pre (tpW w b1 b2) N T [] s →
    wpCode (mdl w) (Γ.enter c none p) (fun r' s' => r' = .ok (.ret v) ∧ Eff s s' none none g 0) p s
noncomputable abbrev cSe {w : World} {b1 b2 : Bool} {c : Code} {y : Ctx} {N T : Nat} {v : Value} {g : Nat} (h : SeOk w b1 b2 c y N T v g) : Ctr (mdl w) (tpW w b1 b2) := ⟨c, some y, N, T, [], .ok (.ret v), none, none, g, 0, h⟩
abbrev RepOk (w : World) (x : Str) (t : Tok) (a : Str) (ta : Tok) (b : Str) (tb : Tok) (n tk : Nat) (r : Str) (tr : Tok) (j : Nat) : Prop :=
  ∀ (Γ : Ctx) (p : Pos) (s : Shared), s.toks = tk → wpCode (mdl w) (Γ.enter (.call (.builtin "str.replace") ⟨[.str x t, .str a ta, .str b tb], []⟩) none p) (fun r' s' => r' = .ok (.ret (.str r tr)) ∧ Eff s s' none none 0 j) p s
noncomputable abbrev cRep {w : World} {tp : Nat → Option Obj} {x : Str} {t : Tok} {a : Str} {ta : Tok} {b : Str} {tb : Tok} {n tk : Nat} {r : Str} {tr : Tok} {j : Nat} (h : RepOk w x t a ta b tb n tk r tr j) : Ctr (mdl w) tp :=
  ⟨.call (.builtin "str.replace") ⟨[.str x t, .str a ta, .str b tb], []⟩, none, n, tk, [], .ok (.ret (.str r tr)), none, none, 0, j, fun Γ p s _ hp => h Γ p s hp.toks⟩
theorem len_q1 {x : Str} (h : x.length ≤ 800) : (S [39]).length + x.length ≤ 1000 := by
  show 1 + _ ≤ _; omega
theorem len_q2 (x : Str) : (S [39]).length + x.length ≠ 0 := by
  show 1 + _ ≠ 0; omega
theorem len_q3 {x : Str} (h : x.length ≤ 800) : (S [39]).length + x.length + (S [39]).length ≤ 1000 := by
  show 1 + _ + 1 ≤ _; omega
section
variable (w : World) (b1 b2 : Bool) (N Tn : Nat) (G : List GenState) (aG aK aA : Addr) (aL aY aZ : Tok) 
noncomputable abbrev S1_a : Rw := [(aG, ⟨y7, none, .fields ⟨[(vi 0 0), (vs z41 aY), (vs z42 aZ)]⟩, ⟨[]⟩⟩)]
noncomputable abbrev S1_z : Rw := [(aG, ⟨y7, none, .fields ⟨[(vi 0 0), (vs z41 aY), (vs z42 aZ)]⟩, ⟨[]⟩⟩)]
noncomputable abbrev S1_g : Ctx := ⟨.call (Value.builtin "str.join") ⟨[(vs (S [32]) aL), (rf aG)], []⟩, none, none, [(k887 aK ⟨895, 11, 895, 58⟩), (k921 aA ⟨938, 17, 938, 34⟩), callerB], none⟩
noncomputable abbrev S1_h : Ctx := ⟨.builtin "proto.collect" ⟨[(rf aG)], []⟩, none, none, [(.builtin "str.join" ⟨[(vs (S [32]) aL), (rf aG)], []⟩, ⟨895, 11, 895, 58⟩), (k887 aK ⟨895, 11, 895, 58⟩), (k921 aA ⟨938, 17, 938, 34⟩), callerB], none⟩
noncomputable def S1 : Res :=
  simC w b1 b2 N Tn 10 [1, 1, 1, 0, 1, 1] [] (S1_g aG aK aA aL) ⟨895, 11, 895, 58⟩ (S1_a aG aY aZ) 1 G
theorem S1_run : RunKP (S1 w b1 b2 N Tn G aG aK aA aL aY aZ) [0] (S1_h aG aK aA aL) ⟨895, 11, 895, 58⟩ 0 0 G (S1_z aG aY aZ) := by
  walk_at "r"
variable {w b1 b2 N Tn G aG aK aA aL aY aZ}
def S1_go := goKP (S1_run w b1 b2 N Tn G aG aK aA aL aY aZ) (sC rfl) (by decide)
end
noncomputable abbrev G0_a (w : World) (b1 b2 : Bool) (N Tn : Nat) (G : List GenState) (aG aK aA : Addr) (aL aY aZ : Tok)  : Rw := [(aG, ⟨y7, none, .fields ⟨[(Value.int 0 0), (Value.str z41 aY), (Value.str z42 aZ)]⟩, ⟨[]⟩⟩)]
noncomputable abbrev G0_g (w : World) (b1 b2 : Bool) (N Tn : Nat) (G : List GenState) (aG aK aA : Addr) (aL aY aZ : Tok)  : Ctx := ⟨.builtin "proto.collect" ⟨[(Value.ref aG)], []⟩, none, none, [(.builtin "str.join" ⟨[(Value.str (S [32]) aL), (Value.ref aG)], []⟩, ⟨895, 11, 895, 58⟩), (k887 aK ⟨895, 11, 895, 58⟩), (k921 aA ⟨938, 17, 938, 34⟩), callerB], none⟩
noncomputable abbrev G0_i (w : World) (b1 b2 : Bool) (N Tn : Nat) (G : List GenState) (aI : Addr) (aG aK aA : Addr) (aL aY aZ : Tok)  : Ctx := ⟨.builtin "list.__iadd__" ⟨[(Value.ref aI), (Value.ref aG)], []⟩, none, none, [(.builtin "str.join" ⟨[(Value.str (S [32]) aL), (Value.ref aG)], []⟩, ⟨895, 11, 895, 58⟩), (k887 aK ⟨895, 11, 895, 58⟩), (k921 aA ⟨938, 17, 938, 34⟩), callerB], none⟩
noncomputable abbrev G0_m (w : World) (b1 b2 : Bool) (N Tn : Nat) (G : List GenState) (aI : Addr) (aG aK aA : Addr) (aL aY aZ : Tok) : Rw := [(aG, ⟨y7, none, .fields ⟨[(Value.int 0 0), (Value.str z41 aY), (Value.str z42 aZ)]⟩, ⟨[]⟩⟩), (aI, lsO ⟨[]⟩ 0)]
noncomputable abbrev G0_z (w : World) (b1 b2 : Bool) (N Tn : Nat) (G : List GenState) (aI : Addr) (aG aK aA : Addr) (aL aY aZ : Tok) : Rw := [(aG, ⟨y7, none, .fields ⟨[(Value.int 0 0), (Value.str z41 aY), (Value.str z42 aZ)]⟩, ⟨[]⟩⟩), (aI, lsO ⟨[]⟩ 2)]
noncomputable abbrev G0_h (w : World) (b1 b2 : Bool) (N Tn : Nat) (G : List GenState) (aI : Addr) (aG aK aA : Addr) (aL aY aZ : Tok)  : Ctx := ⟨.builtin "list.extend.loop" ⟨[(Value.ref aI), (Value.ref aG), (Value.ref aI)], []⟩, none, none, [(.builtin "str.join" ⟨[(Value.str (S [32]) aL), (Value.ref aG)], []⟩, ⟨895, 11, 895, 58⟩), (k887 aK ⟨895, 11, 895, 58⟩), (k921 aA ⟨938, 17, 938, 34⟩), callerB], none⟩
noncomputable def G0 (w : World) (b1 b2 : Bool) (N Tn : Nat) (G : List GenState) (aG aK aA : Addr) (aL aY aZ : Tok) : Res :=
  sim (M := mdl w) (tp := tpW w b1 b2) (svW w b1 b2 N Tn) 2 (dg 14 0x22222211110111) [] (G0_g w b1 b2 N Tn G aG aK aA aL aY aZ) ⟨895, 11, 895, 58⟩ .base (tden (G0_g w b1 b2 N Tn G aG aK aA aL aY aZ).code) (ltL (G0_a w b1 b2 N Tn G aG aK aA aL aY aZ)) 1 0 0 G ck0
theorem G0_run (w : World) (b1 b2 : Bool) (N Tn : Nat) (G : List GenState) (aG aK aA : Addr) (aL aY aZ : Tok) : ((G0 w b1 b2 N Tn G aG aK aA aL aY aZ).outP [0, 1], (G0 w b1 b2 N Tn G aG aK aA aL aY aZ).lhs) = ((none, some ((G0_i w b1 b2 N Tn G N aG aK aA aL aY aZ), ⟨895, 11, 895, 58⟩, .base, PySem.W.Fast.tw8938917530802602619 (.ref N) (.ref aG) (.ref N), 1, 0, G, (G0_m w b1 b2 N Tn G N aG aK aA aL aY aZ).map some)), (G0 w b1 b2 N Tn G aG aK aA aL aY aZ).rhs) := by
  walk_at "r"
noncomputable def G0b (w : World) (b1 b2 : Bool) (N Tn : Nat) (G : List GenState) (aI : Addr) (aG aK aA : Addr) (aL aY aZ : Tok) : Res :=
  sim (M := mdl w) (tp := tpW w b1 b2) (svW w b1 b2 N Tn) 19 (dg 14 0x22222211110111) [] (G0_i w b1 b2 N Tn G aI aG aK aA aL aY aZ) ⟨895, 11, 895, 58⟩ .base (lewC false (.ref aI) (.ref aG) (.ref aI)) (ltL (G0_m w b1 b2 N Tn G aI aG aK aA aL aY aZ)) 2 0 0 G ck0
theorem G0b_run (w : World) (b1 b2 : Bool) (N Tn : Nat) (G : List GenState) (aI : Addr) (aG aK aA : Addr) (aL aY aZ : Tok) : ((G0b w b1 b2 N Tn G aI aG aK aA aL aY aZ).outP [0, 1], (G0b w b1 b2 N Tn G aI aG aK aA aL aY aZ).lhs) = ((none, some ((G0_h w b1 b2 N Tn G aI aG aK aA aL aY aZ), ⟨895, 11, 895, 58⟩, .base, tden (G0_h w b1 b2 N Tn G aI aG aK aA aL aY aZ).code, 0, 0, G, (G0_z w b1 b2 N Tn G aI aG aK aA aL aY aZ).map some)), (G0b w b1 b2 N Tn G aI aG aK aA aL aY aZ).rhs) := by
  walk_at "r"
theorem G0_go {w : World} {b1 b2 : Bool} {h₀ : Heap} {U : List Addr} {d : Drawn} {os : OsState} {R : Result → Shared → Prop} {N Tn : Nat} {G : List GenState} {aG aK aA : Addr} {aL aY aZ : Tok} (O : ∀ N T, Ok (svW w b1 b2 N T) w (tpW w b1 b2) h₀ U) {h : Heap} (D : Rep h₀ h U N (ltL (G0_a w b1 b2 N Tn G aG aK aA aL aY aZ)) 0) (hne : N ≠ aG)
    (kk : ∀ h', Rep h₀ h' U (N + 1) (ltL (G0_z w b1 b2 N Tn G N aG aK aA aL aY aZ)) 0 → wpCode (mdl w) (G0_h w b1 b2 N Tn G N aG aK aA aL aY aZ) R ⟨895, 11, 895, 58⟩ ⟨h', ⟨G⟩, d, Tn, os⟩) :
    wpCode (mdl w) (G0_g w b1 b2 N Tn G aG aK aA aL aY aZ) R ⟨895, 11, 895, 58⟩ ⟨h, ⟨G⟩, d, Tn, os⟩ :=
  wpCode_runW (V := svW w b1 b2 N Tn) (O _ _) (owes_cutPW (r := (G0 w b1 b2 N Tn G aG aK aA aL aY aZ)) (G0_run w b1 b2 N Tn G aG aK aA aL aY aZ) fun h1 L1 D1 ho1 => by
    rw [lew_eq, show PySem.Builtin.List.listSameRef (.ref N) (.ref aG) = false from by simpa [PySem.Builtin.List.listSameRef] using hne]
    have e : (G0b w b1 b2 (N + 1) Tn G N aG aK aA aL aY aZ) = (G0b w b1 b2 (N + 1) Tn G N aG aK aA aL aY aZ) := rfl
    exact sim_sound (V := svW w b1 b2 (N + 1) Tn) (O _ _) _ _ _ _ _ _ _ _ _ 0 0 G ck0 (owes_cutP (G0b_run w b1 b2 (N + 1) Tn G N aG aK aA aL aY aZ) fun h2 L2 D2 ho2 => wpCode_means (kk h2 (D2.row ho2 (by decide)))) h1 (D1.row ho1 (by decide))) D
section
variable (w : World) (b1 b2 : Bool) (N Tn : Nat) (G : List GenState) (aI aG aK aA : Addr) (aL aY aZ : Tok) (l : List Value) (n : Nat) 
noncomputable abbrev Gt_a : Rw := [(aI, (lsO ⟨l⟩ (n))), (aG, ⟨y7, none, .fields ⟨[(vi 0 0), (vs z41 aY), (vs z42 aZ)]⟩, ⟨[]⟩⟩)]
noncomputable abbrev Gt_z : Rw := [(aI, (lsO ⟨l⟩ (n))), (aG, ⟨y7, none, .fields ⟨[(vi 0 0), (vs z41 aY), (vs z42 aZ)]⟩, ⟨[]⟩⟩)]
noncomputable abbrev Gt_g : Ctx := ⟨.builtin "list.extend.loop" ⟨[(rf aI), (rf aG), (rf aI)], []⟩, none, none, [(.builtin "str.join" ⟨[(vs (S [32]) aL), (rf aG)], []⟩, ⟨895, 11, 895, 58⟩), (k887 aK ⟨895, 11, 895, 58⟩), (k921 aA ⟨938, 17, 938, 34⟩), callerB], none⟩
noncomputable abbrev Gt_h : Ctx := ⟨.call (Value.builtin "generator.__next__") ⟨[(rf aG)], []⟩, none, none, [(.builtin "list.extend.loop" ⟨[(rf aI), (rf aG), (rf aI)], []⟩, ⟨895, 11, 895, 58⟩), (.builtin "str.join" ⟨[(vs (S [32]) aL), (rf aG)], []⟩, ⟨895, 11, 895, 58⟩), (k887 aK ⟨895, 11, 895, 58⟩), (k921 aA ⟨938, 17, 938, 34⟩), callerB], none⟩
noncomputable def Gt : Res :=
  simC w b1 b2 N Tn 1 [2] [] (Gt_g aI aG aK aA aL) ⟨895, 11, 895, 58⟩ (Gt_a aI aG aY aZ l n) 2 G
theorem Gt_run : RunKP (Gt w b1 b2 N Tn G aI aG aK aA aL aY aZ l n) [0, 1] (Gt_h aI aG aK aA aL) ⟨895, 11, 895, 58⟩ 0 0 G (Gt_z aI aG aY aZ l n) := by
  walk_at "r"
variable {w b1 b2 N Tn G aI aG aK aA aL aY aZ}
def Gt_go := goKP (Gt_run w b1 b2 N Tn G aI aG aK aA aL aY aZ l n) (sC rfl) (by decide)
end
section
variable (w : World) (b1 b2 : Bool) (N Tn : Nat) (G : List GenState) (aI aG aK aA : Addr) (aL aY aZ : Tok) (l : List Value) (n : Nat)  (N2 Tn2 : Nat) (v : Value) (hl : l.length < 17) (G2 : List GenState) 
noncomputable abbrev Gx_a : Rw := [(aI, (lsO ⟨l⟩ (n)))]
noncomputable abbrev Gx_z : Rw := [(aI, (lsO ⟨l ++ [v]⟩ (n + 1)))]
noncomputable abbrev Gx_h : Ctx := ⟨.builtin "list.extend.loop" ⟨[(rf aI), (rf aG), (rf aI)], []⟩, none, none, [(.builtin "str.join" ⟨[(vs (S [32]) aL), (rf aG)], []⟩, ⟨895, 11, 895, 58⟩), (k887 aK ⟨895, 11, 895, 58⟩), (k921 aA ⟨938, 17, 938, 34⟩), callerB], none⟩
noncomputable def Gx : Res :=
  (fun _ => nextC (Gt w b1 b2 N Tn G aI aG aK aA aL aY aZ l n) (.ok (.ret v)) w b1 b2 N2 Tn2 4 [1, 1, 1] [] (Gx_a aI l n) 1 G2) hl
theorem Gx_run : RunP (Gx w b1 b2 N Tn G aI aG aK aA aL aY aZ l n N2 Tn2 v hl G2) [0] (Gx_h aI aG aK aA aL) ⟨895, 11, 895, 58⟩ 0 0 G2 (Gx_z aI l n v) := by
  revert l b1
  exact tw 16 (fun _ => Nat.lt_succ_of_le) (by kernel_rfl) fun _ => Nat.le_of_lt_succ
variable {w b1 b2 N Tn G aI aG aK aA aL aY aZ N2 Tn2}
def Gx_go := goP (Gx_run w b1 b2 N Tn G aI aG aK aA aL aY aZ l n N2 Tn2 v hl G2) (sK rfl) (by decide)
end
section
variable (w : World) (b1 b2 : Bool) (N Tn : Nat) (G : List GenState) (aI aG aK aA : Addr) (aL aY aZ : Tok) (l : List Value) (n : Nat)  (N3 Tn3 : Nat) (jT : Addr) (EX : Addr) (G3 : List GenState) 
noncomputable abbrev Gxe_a : Rw := [(aI, (lsO ⟨l⟩ (n))), (EX, ⟨y13, none, .fields ⟨[(rf jT), nn, nn, nn, (Value.bool false), nn]⟩, ⟨[]⟩⟩)]
noncomputable abbrev Gxe_z : Rw := [(aI, (lsO ⟨l⟩ (n)))]
noncomputable def Gxe : Res :=
  nextC (Gt w b1 b2 N Tn G aI aG aK aA aL aY aZ l n) (.error (rf EX)) w b1 b2 N3 Tn3 4 [2] [] (Gxe_a aI l n jT EX) 2 G3
theorem Gxe_run : RunF (Gxe w b1 b2 N Tn G aI aG aK aA aL aY aZ l n N3 Tn3 jT EX G3) [0] (.ok (.ret (rf aI))) 0 0 G3 (Gxe_z aI l n) := by
  walk_at "r"
variable {w b1 b2 N Tn G aI aG aK aA aL aY aZ N3 Tn3 jT}
def Gxe_go := goF (Gxe_run w b1 b2 N Tn G aI aG aK aA aL aY aZ l n N3 Tn3 jT EX G3) (sK rfl) (by decide)
end
section
variable (w : World) (b1 b2 : Bool) (N Tn : Nat) (aV aT bE aG aI aK aA : Addr) (aL aY aZ : Tok) 
noncomputable abbrev Gnf_a : Rw := [(aG, ⟨y7, none, .fields ⟨[(vi 0 0), (vs z41 aY), (vs z42 aZ)]⟩, ⟨[]⟩⟩)]
noncomputable abbrev Gnf_z : Rw := [(aG, ⟨y7, none, .fields ⟨[(vi 0 0), (vs z41 aY), (vs z42 aZ)]⟩, ⟨[]⟩⟩)]
noncomputable abbrev Gnf_g : Ctx := ⟨.call (Value.builtin "generator.__next__") ⟨[(rf aG)], []⟩, none, none, [(.builtin "list.extend.loop" ⟨[(rf aI), (rf aG), (rf aI)], []⟩, ⟨895, 11, 895, 58⟩), (.builtin "str.join" ⟨[(vs (S [32]) aL), (rf aG)], []⟩, ⟨895, 11, 895, 58⟩), (k887 aK ⟨895, 11, 895, 58⟩), (k921 aA ⟨938, 17, 938, 34⟩), callerB], none⟩
noncomputable abbrev Gnf_h : Ctx := ⟨.builtin "generator.__next__" ⟨[(rf aG)], []⟩, none, none, [(.builtin "list.extend.loop" ⟨[(rf aI), (rf aG), (rf aI)], []⟩, ⟨895, 11, 895, 58⟩), (.builtin "str.join" ⟨[(vs (S [32]) aL), (rf aG)], []⟩, ⟨895, 11, 895, 58⟩), (k887 aK ⟨895, 11, 895, 58⟩), (k921 aA ⟨938, 17, 938, 34⟩), callerB], none⟩
noncomputable def Gnf : Res :=
  simC w b1 b2 N Tn 6 [1, 1, 0] [] (Gnf_g aG aI aK aA aL) ⟨895, 11, 895, 58⟩ (Gnf_a aG aY aZ) 1 [.fresh (.compStart ge895 0 (rf aV) nn ⟨(compScope ge895), aT, 3, [], z39, none, (rf bE), (some aT), 0⟩)]
theorem Gnf_run : RunR (Gnf w b1 b2 N Tn aV aT bE aG aI aK aA aL aY aZ) [0] (Gnf_h aG aI aK aA aL) ⟨895, 11, 895, 58⟩ 0 0 [.fresh (.compStart ge895 0 (rf aV) nn ⟨(compScope ge895), aT, 3, [], z39, none, (rf bE), (some aT), 0⟩)] (Gnf_z aG aY aZ) := by
  walk_at "r"
variable {w b1 b2 N Tn aV aT bE aG aI aK aA aL aY aZ}
def Gnf_go := goR (Gnf_run w b1 b2 N Tn aV aT bE aG aI aK aA aL aY aZ) (sC rfl) (by decide)
end
section
variable (w : World) (b1 b2 : Bool) (N Tn : Nat) (aV aT bE aG aI aK aA : Addr) (aL aY aZ : Tok)  (N2 Tn2 : Nat) (v : Value) (G2 : List GenState) 
noncomputable abbrev Gkf_a : Rw := []
noncomputable abbrev Gkf_z : Rw := []
noncomputable def Gkf : Res :=
  nextRC (Gnf w b1 b2 N Tn aV aT bE aG aI aK aA aL aY aZ) (.yielded v) w b1 b2 N2 Tn2 3 [] [] Gkf_a 0 G2
theorem Gkf_run : RunF (Gkf w b1 b2 N Tn aV aT bE aG aI aK aA aL aY aZ N2 Tn2 v G2) [] (.ok (.ret v)) 0 0 G2 Gkf_z := by
  walk_at "r"
variable {w b1 b2 N Tn aV aT bE aG aI aK aA aL aY aZ N2 Tn2}
def Gkf_go := goF (Gkf_run w b1 b2 N Tn aV aT bE aG aI aK aA aL aY aZ N2 Tn2 v G2) (sR rfl) (by decide)
end
section
variable (w : World) (b1 b2 : Bool) (N Tn : Nat) (aV aT bE aG aI aK aA : Addr) (aL aY aZ : Tok) (kc : Resume → Sem Fin) (lc : List Value) (pc : Pos) 
noncomputable abbrev Gns_a : Rw := [(aG, ⟨y7, none, .fields ⟨[(vi 0 0), (vs z41 aY), (vs z42 aZ)]⟩, ⟨[]⟩⟩)]
noncomputable abbrev Gns_z : Rw := [(aG, ⟨y7, none, .fields ⟨[(vi 0 0), (vs z41 aY), (vs z42 aZ)]⟩, ⟨[]⟩⟩)]
noncomputable abbrev Gns_g : Ctx := ⟨.call (Value.builtin "generator.__next__") ⟨[(rf aG)], []⟩, none, none, [(.builtin "list.extend.loop" ⟨[(rf aI), (rf aG), (rf aI)], []⟩, ⟨895, 11, 895, 58⟩), (.builtin "str.join" ⟨[(vs (S [32]) aL), (rf aG)], []⟩, ⟨895, 11, 895, 58⟩), (k887 aK ⟨895, 11, 895, 58⟩), (k921 aA ⟨938, 17, 938, 34⟩), callerB], none⟩
noncomputable abbrev Gns_h : Ctx := ⟨.builtin "generator.__next__" ⟨[(rf aG)], []⟩, none, none, [(.builtin "list.extend.loop" ⟨[(rf aI), (rf aG), (rf aI)], []⟩, ⟨895, 11, 895, 58⟩), (.builtin "str.join" ⟨[(vs (S [32]) aL), (rf aG)], []⟩, ⟨895, 11, 895, 58⟩), (k887 aK ⟨895, 11, 895, 58⟩), (k921 aA ⟨938, 17, 938, 34⟩), callerB], none⟩
noncomputable def Gns : Res :=
  simC w b1 b2 N Tn 6 [1, 1, 0] [] (Gns_g aG aI aK aA aL) ⟨895, 11, 895, 58⟩ (Gns_a aG aY aZ) 1 [.suspended kc lc (.compLoop ge895 0 (rf aV) nn ⟨(compScope ge895), aT, 3, [], z39, none, (rf bE), (some aT), 0⟩) pc [] false]
theorem Gns_run : RunR (Gns w b1 b2 N Tn aV aT bE aG aI aK aA aL aY aZ kc lc pc) [0] (Gns_h aG aI aK aA aL) ⟨895, 11, 895, 58⟩ 0 0 [.suspended kc lc (.compLoop ge895 0 (rf aV) nn ⟨(compScope ge895), aT, 3, [], z39, none, (rf bE), (some aT), 0⟩) pc [] false] (Gns_z aG aY aZ) := by
  walk_at "r"
variable {w b1 b2 N Tn aV aT bE aG aI aK aA aL aY aZ}
def Gns_go := goR (Gns_run w b1 b2 N Tn aV aT bE aG aI aK aA aL aY aZ kc lc pc) (sC rfl) (by decide)
end
section
variable (w : World) (b1 b2 : Bool) (N Tn : Nat) (aV aT bE aG aI aK aA : Addr) (aL aY aZ : Tok) (kc : Resume → Sem Fin) (lc : List Value) (pc : Pos)  (N2 Tn2 : Nat) (v : Value) (G2 : List GenState) 
noncomputable abbrev Gks_a : Rw := []
noncomputable abbrev Gks_z : Rw := []
noncomputable def Gks : Res :=
  nextRC (Gns w b1 b2 N Tn aV aT bE aG aI aK aA aL aY aZ kc lc pc) (.yielded v) w b1 b2 N2 Tn2 3 [] [] Gks_a 0 G2
theorem Gks_run : RunF (Gks w b1 b2 N Tn aV aT bE aG aI aK aA aL aY aZ kc lc pc N2 Tn2 v G2) [] (.ok (.ret v)) 0 0 G2 Gks_z := by
  walk_at "r"
variable {w b1 b2 N Tn aV aT bE aG aI aK aA aL aY aZ N2 Tn2}
def Gks_go := goF (Gks_run w b1 b2 N Tn aV aT bE aG aI aK aA aL aY aZ kc lc pc N2 Tn2 v G2) (sR rfl) (by decide)
end
section
variable (w : World) (b1 b2 : Bool) (N Tn : Nat) (aV aT bE aG aI aK aA : Addr) (aL aY aZ : Tok) (kc : Resume → Sem Fin) (lc : List Value) (pc : Pos)  (N3 Tn3 : Nat) (G3 : List GenState) 
noncomputable abbrev Gkes_a : Rw := []
noncomputable abbrev Gkes_z : Rw := [((N3 + 1), ⟨y13, none, .fields ⟨[(rf N3), nn, nn, nn, (Value.bool false), nn]⟩, ⟨[]⟩⟩)]
noncomputable def Gkes : Res :=
  nextRC (Gns w b1 b2 N Tn aV aT bE aG aI aK aA aL aY aZ kc lc pc) (.returned .none) w b1 b2 N3 Tn3 6 [] [] Gkes_a 0 G3
theorem Gkes_run : RunF (Gkes w b1 b2 N Tn aV aT bE aG aI aK aA aL aY aZ kc lc pc N3 Tn3 G3) [1] (.error (rf (N3 + 1))) 2 0 G3 (Gkes_z N3) := by
  walk_at "r"
variable {w b1 b2 N Tn aV aT bE aG aI aK aA aL aY aZ N3 Tn3}
def Gkes_go := goF (Gkes_run w b1 b2 N Tn aV aT bE aG aI aK aA aL aY aZ kc lc pc N3 Tn3 G3) (sR rfl) (by decide)
end
section
variable (w : World) (b1 b2 : Bool) (N Tn : Nat) (pos : Pos) (G : List GenState)
section
variable (bJ aV aT bE aG aI aK aA : Addr) (aL fC : Tok) (ws : List Value) (n k : Nat) (x qt : Str) (tx : Tok) (hx : ws[k]? = some (vs x tx)) (tq : Tok) (gq jq : Nat) (hq : FnOk w b1 b2 (.call (rf 895) ⟨[(vs x tx)], []⟩) ⟨.call (rf 895) ⟨[(vs x tx)], []⟩, none, none, [(.compLoop ge895 0 (rf aV) nn ⟨(compScope ge895), aT, 3, [], z39, none, (rf bE), (some aT), 0⟩, ⟨895, 21, 895, 31⟩), (.builtin "generator.__next__" ⟨[(rf aG)], []⟩, ⟨895, 11, 895, 58⟩), (.builtin "list.extend.loop" ⟨[(rf aI), (rf aG), (rf aI)], []⟩, ⟨895, 11, 895, 58⟩), (.builtin "str.join" ⟨[(vs (S [32]) aL), (rf aG)], []⟩, ⟨895, 11, 895, 58⟩), (k887 aK ⟨895, 11, 895, 58⟩), (k921 aA ⟨938, 17, 938, 34⟩), callerB], none⟩ N (Tn + 1) qt tq gq jq) 
noncomputable abbrev Gy1_a : Rw := [(bJ, (lsO ⟨ws⟩ (n))), (aV, (liO bJ (k : Int))), (aT, (fO 1 [de w b1 b2 z40 fC (rf aV)]))]
noncomputable abbrev Gy1_z : Rw := [(bJ, (lsO ⟨ws⟩ (n))), (aV, (liO bJ ((k : Int) + 1))), (aT, (fO 2 [de w b1 b2 z40 fC (rf aV), de w b1 b2 z55 Tn (vs x tx)]))]
noncomputable abbrev Gy1_g : Ctx := ⟨.compStart ge895 0 (rf aV) nn ⟨(compScope ge895), aT, 3, [], z39, none, (rf bE), (some aT), 0⟩, none, none, [(.builtin "generator.__next__" ⟨[(rf aG)], []⟩, ⟨895, 11, 895, 58⟩), (.builtin "list.extend.loop" ⟨[(rf aI), (rf aG), (rf aI)], []⟩, ⟨895, 11, 895, 58⟩), (.builtin "str.join" ⟨[(vs (S [32]) aL), (rf aG)], []⟩, ⟨895, 11, 895, 58⟩), (k887 aK ⟨895, 11, 895, 58⟩), (k921 aA ⟨938, 17, 938, 34⟩), callerB], none⟩
noncomputable abbrev Gy1_h : Ctx := ⟨.compLoop ge895 0 (rf aV) nn ⟨(compScope ge895), aT, 3, [], z39, none, (rf bE), (some aT), 0⟩, none, none, [(.builtin "generator.__next__" ⟨[(rf aG)], []⟩, ⟨895, 11, 895, 58⟩), (.builtin "list.extend.loop" ⟨[(rf aI), (rf aG), (rf aI)], []⟩, ⟨895, 11, 895, 58⟩), (.builtin "str.join" ⟨[(vs (S [32]) aL), (rf aG)], []⟩, ⟨895, 11, 895, 58⟩), (k887 aK ⟨895, 11, 895, 58⟩), (k921 aA ⟨938, 17, 938, 34⟩), callerB], none⟩
noncomputable def Gy1 : Res :=
  (fun _ _ _ _ => simC w b1 b2 N Tn (cond b2 21 31) (cond b2 [2, 1, 3, 3, 0, 3, 0, 1] [2, 2, 0, 2, 2, 2, 1, 3, 3, 0, 3, 0, 1]) [cItNext 1 0 aV bJ (ws) (n) k (vs x tx) hx N Tn, cFn hq] (Gy1_g aV aT bE aG aI aK aA aL) pos (Gy1_a w b1 b2 bJ aV aT fC ws n k) 3 G) qt tq gq jq
theorem Gy1_run : RunY (Gy1 w b1 b2 N Tn pos G bJ aV aT bE aG aI aK aA aL fC ws n k x qt tx hx tq gq jq hq) [0, 1, 2] (Gy1_h aV aT bE aG aI aK aA aL) (vs qt tq) (0 + gq) (1 + jq) G (Gy1_z w b1 b2 Tn bJ aV aT fC ws n k x tx) := by
  cases b1 <;> cases b2 <;> kernel_rfl
variable {w b1 b2 N Tn pos G bJ aV aT bE aG aI aK aA aL fC}
def Gy1_go := goY (Gy1_run w b1 b2 N Tn pos G bJ aV aT bE aG aI aK aA aL fC ws n k x qt tx hx tq gq jq hq) rfl (by decide)
end
section
variable (bJ aV aT bE aG aI aK aA : Addr) (aL fC gM jU : Tok) (ws : List Value) (n k : Nat) (x qt : Str) (tx : Tok) (hx : ws[k]? = some (vs x tx)) (x0 : Str) (tq : Tok) (gq jq : Nat) (hq : FnOk w b1 b2 (.call (rf 895) ⟨[(vs x tx)], []⟩) ⟨.call (rf 895) ⟨[(vs x tx)], []⟩, none, none, [(.compLoop ge895 0 (rf aV) nn ⟨(compScope ge895), aT, 3, [], z39, none, (rf bE), (some aT), 0⟩, ⟨895, 21, 895, 31⟩), (.builtin "generator.__next__" ⟨[(rf aG)], []⟩, ⟨895, 11, 895, 58⟩), (.builtin "list.extend.loop" ⟨[(rf aI), (rf aG), (rf aI)], []⟩, ⟨895, 11, 895, 58⟩), (.builtin "str.join" ⟨[(vs (S [32]) aL), (rf aG)], []⟩, ⟨895, 11, 895, 58⟩), (k887 aK ⟨895, 11, 895, 58⟩), (k921 aA ⟨938, 17, 938, 34⟩), callerB], none⟩ N (Tn + 1) qt tq gq jq) 
noncomputable abbrev Gy2_a : Rw := [(bJ, (lsO ⟨ws⟩ (n))), (aV, (liO bJ (k : Int))), (aT, (fO 2 [de w b1 b2 z40 fC (rf aV), de w b1 b2 z55 gM (vs x0 jU)]))]
noncomputable abbrev Gy2_z : Rw := [(bJ, (lsO ⟨ws⟩ (n))), (aV, (liO bJ ((k : Int) + 1))), (aT, (fO 2 [de w b1 b2 z40 fC (rf aV), de w b1 b2 z55 gM (vs x tx)]))]
noncomputable abbrev Gy2_g : Ctx := ⟨.compLoop ge895 0 (rf aV) nn ⟨(compScope ge895), aT, 3, [], z39, none, (rf bE), (some aT), 0⟩, none, none, [(.builtin "generator.__next__" ⟨[(rf aG)], []⟩, ⟨895, 11, 895, 58⟩), (.builtin "list.extend.loop" ⟨[(rf aI), (rf aG), (rf aI)], []⟩, ⟨895, 11, 895, 58⟩), (.builtin "str.join" ⟨[(vs (S [32]) aL), (rf aG)], []⟩, ⟨895, 11, 895, 58⟩), (k887 aK ⟨895, 11, 895, 58⟩), (k921 aA ⟨938, 17, 938, 34⟩), callerB], none⟩
noncomputable abbrev Gy2_h : Ctx := ⟨.compLoop ge895 0 (rf aV) nn ⟨(compScope ge895), aT, 3, [], z39, none, (rf bE), (some aT), 0⟩, none, none, [(.builtin "generator.__next__" ⟨[(rf aG)], []⟩, ⟨895, 11, 895, 58⟩), (.builtin "list.extend.loop" ⟨[(rf aI), (rf aG), (rf aI)], []⟩, ⟨895, 11, 895, 58⟩), (.builtin "str.join" ⟨[(vs (S [32]) aL), (rf aG)], []⟩, ⟨895, 11, 895, 58⟩), (k887 aK ⟨895, 11, 895, 58⟩), (k921 aA ⟨938, 17, 938, 34⟩), callerB], none⟩
noncomputable def Gy2 : Res :=
  (fun _ _ _ _ => simC w b1 b2 N Tn 19 [2, 1, 3, 3, 0, 3, 0, 1] [cItNext 1 0 aV bJ (ws) (n) k (vs x tx) hx N Tn, cFn hq] (Gy2_g aV aT bE aG aI aK aA aL) pos (Gy2_a w b1 b2 bJ aV aT fC gM jU ws n k x0) 3 G) qt tq gq jq
theorem Gy2_run : RunY (Gy2 w b1 b2 N Tn pos G bJ aV aT bE aG aI aK aA aL fC gM jU ws n k x qt tx hx x0 tq gq jq hq) [0, 1, 2] (Gy2_h aV aT bE aG aI aK aA aL) (vs qt tq) (0 + gq) (1 + jq) G (Gy2_z w b1 b2 bJ aV aT fC gM ws n k x tx) := by
  walk_at "r"
variable {w b1 b2 N Tn pos G bJ aV aT bE aG aI aK aA aL fC gM jU}
def Gy2_go := goY (Gy2_run w b1 b2 N Tn pos G bJ aV aT bE aG aI aK aA aL fC gM jU ws n k x qt tx hx x0 tq gq jq hq) rfl (by decide)
end
section
variable (bJ aV aT bE aG aI aK aA : Addr) (aL : Tok) (ws : List Value) (n : Nat) (hk : ws.length ≤ 16) 
noncomputable abbrev Ge_a : Rw := [(bJ, (lsO ⟨ws⟩ (n))), (aV, (liO bJ (ws.length : Int)))]
noncomputable abbrev Ge_z : Rw := [(bJ, (lsO ⟨ws⟩ (n)))]
noncomputable abbrev Ge_g : Ctx := ⟨.compLoop ge895 0 (rf aV) nn ⟨(compScope ge895), aT, 3, [], z39, none, (rf bE), (some aT), 0⟩, none, none, [(.builtin "generator.__next__" ⟨[(rf aG)], []⟩, ⟨895, 11, 895, 58⟩), (.builtin "list.extend.loop" ⟨[(rf aI), (rf aG), (rf aI)], []⟩, ⟨895, 11, 895, 58⟩), (.builtin "str.join" ⟨[(vs (S [32]) aL), (rf aG)], []⟩, ⟨895, 11, 895, 58⟩), (k887 aK ⟨895, 11, 895, 58⟩), (k921 aA ⟨938, 17, 938, 34⟩), callerB], none⟩
noncomputable def Ge : Res :=
  (fun _ => simC w b1 b2 N Tn 19 [2, 0, 2, 2, 2, 1, 2, 2, 4] [] (Ge_g aV aT bE aG aI aK aA aL) pos (Ge_a bJ aV ws n) 2 G) hk
theorem Ge_run : RunF (Ge w b1 b2 N Tn pos G bJ aV aT bE aG aI aK aA aL ws n hk) [0] (.ok .next) 2 0 G (Ge_z bJ ws n) := by
  revert ws b1
  exact tw 16 (fun _ h => h) (by kernel_rfl) fun _ h => h
variable {w b1 b2 N Tn pos G bJ aV aT bE aG aI aK aA aL}
def Ge_go := goG (Ge_run w b1 b2 N Tn pos G bJ aV aT bE aG aI aK aA aL ws n hk) rfl (by decide)
end
end
theorem in_arOf' (Γ : Ctx) : Γ.In (arOf Γ).in1 := ⟨rfl, Nat.le_refl _, fun _ h => (nomatch h), fun _ h => (nomatch h), Nat.le_succ _⟩
theorem below_arOf (Γ : Ctx) (c : Code) : (Γ.goto c).Below (arOf Γ) := ⟨rfl, Nat.le_add_right _ _, fun _ h => (nomatch h), fun _ h => (nomatch h), Nat.le_add_left _ _⟩
theorem means_gives {w : World} {R : Result → Shared → Prop} {Γ : Ctx} {p : Pos} {t : Sem Fin} {m : Made} {s : Shared} (g : Gives t m) (h : m.post (fun v s' => R (.ok (.ret v)) s') s) : Means (mdl w) R Γ p .base t s := by
  have z := g prog w (arOf Γ) R s h Γ p (in_arOf' Γ)
  refine Sem.wp_mono _ _ _ (fun f q s' hq => ?_) (fun e q s' he => he) _ _ z
  cases f with
  | done f => exact hq
  | again c => exact ⟨hq.1, hq.2 _ _ rfl (below_arOf Γ c)⟩
section
variable (w : World) (b1 b2 : Bool) (N Tn : Nat) (G : List GenState) (aG aK aA : Addr) (aL aY aZ : Tok) (aI : Addr) (N2 Tn2 n : Nat) (l : List (Str × Tok)) (G2 : List GenState)
noncomputable def S2 : Res :=
  (S1 w b1 b2 N Tn G aG aK aA aL aY aZ).next (M := mdl w) (tp := tpW w b1 b2) (.ok (.ret (Value.ref aI))) (svW w b1 b2 N2 Tn2) 1 [1] [] (ltL [(aI, lsO ⟨strValues l⟩ n)]) 1 G2
noncomputable abbrev S2_g : Ctx := ⟨.builtin "str.join" ⟨[(Value.str (S [32]) aL), (Value.ref aG)], []⟩, none, none, [(k887 aK ⟨895, 11, 895, 58⟩), (k921 aA ⟨938, 17, 938, 34⟩), callerB], none⟩
noncomputable abbrev jnT (l : List (Str × Tok)) : Sem Fin := if Builtin.Str.tooLong ((l.map (·.1)).toArray.foldl (· + ·.length + (S [32]).length) 0) = true then unsupported "str.join:memory" else PySem.W.Fast.tw15973247252070878614 (PySem.W.Fast.tw10206770168876983080 (S [32]) (l.map (·.1)))
theorem S2_run (h2 : 2 ≤ l.length) (h16 : l.length ≤ 16) : ((S2 w b1 b2 N Tn G aG aK aA aL aY aZ aI N2 Tn2 n l G2).outC [0], (S2 w b1 b2 N Tn G aG aK aA aL aY aZ aI N2 Tn2 n l G2).lhs) =
    ((none, some (S2_g aG aK aA aL, .base, jnT l, 0, 0, G2, [some (aI, lsO ⟨strValues l⟩ n)])), (S2 w b1 b2 N Tn G aG aK aA aL aY aZ aI N2 Tn2 n l G2).rhs) := by
  match l, h2, h16 with
  | [], h, _ => exact absurd h (by decide)
  | [_], h, _ => exact absurd h (by simp)
  | a :: b :: l, h2, h16 =>
    have k : l.length ≤ 14 := Nat.le_of_succ_le_succ (Nat.le_of_succ_le_succ h16)
    clear h2 h16
    revert l b1
    exact tw 14 (fun _ h => h) (by kernel_rfl) fun _ h => h
end
theorem tail_gives (l : List (Str × Tok)) (h : Builtin.Str.tooLong ((l.map (·.1)).toArray.foldl (· + ·.length + (S [32]).length) 0) = false) : Gives (jnT l) (.str (Builtin.Str.glued (S [32]) (l.map (·.1)))) := by
  unfold jnT
  rw [h, if_neg (by simp), ← PySem.W.Fast.te15973247252070878614, ← PySem.W.Fast.te10206770168876983080]
  exact .of_eq rfl
section
variable {w : World} {b1 b2 : Bool} {h₀ : Heap} {U : List Addr} {d : Drawn} {os : OsState} {R : Result → Shared → Prop} {N Tn : Nat} {G : List GenState} {aG aK aA : Addr} {aL aY aZ : Tok} {aI : Addr} {N2 Tn2 n : Nat} {G2 : List GenState}
theorem S2_go (l : List (Str × Tok)) (h2 : 2 ≤ l.length) (h16 : l.length ≤ 16) (hs : (l.map (·.1)).toArray.foldl (· + ·.length + (S [32]).length) 0 ≤ 1000) (hs2 : (Builtin.Str.glued (S [32]) (l.map (·.1))).length ≤ 1000) (O : ∀ N T, Ok (svW w b1 b2 N T) w (tpW w b1 b2) h₀ U) {h : Heap} (D : Rep h₀ h U N2 (ltL [(aI, lsO ⟨strValues l⟩ n)]) 0)
    (kk : ∀ h', Rep h₀ h' U N2 (ltL [(aI, lsO ⟨strValues l⟩ n)]) 0 → R (.ok (.ret (.str (Builtin.Str.glued (S [32]) (l.map (·.1))) Tn2))) ⟨h', ⟨G2⟩, d, Tn2 + 1, os⟩) :
    KontW (mdl w) R (S1 w b1 b2 N Tn G aG aK aA aL aY aZ) (.ok (.ret (.ref aI))) ⟨h, ⟨G2⟩, d, Tn2, os⟩ := by
  refine kont_runW (V := svW w b1 b2 N2 Tn2) (O _ _) (owes_cutW (S2_run w b1 b2 N Tn G aG aK aA aL aY aZ aI N2 Tn2 n l G2 h2 h16) fun h1 L1 p1 D1 ho1 => ?_) D
  refine means_gives (tail_gives l (by
    have := small_line hs
    simp only [Builtin.Str.tooLong, decide_eq_false_iff_not]
    omega)) ⟨small_line hs2, ?_⟩
  exact kk h1 (D1.row ho1 (by decide))
end
noncomputable abbrev dgt (x : Int) (k : Nat) : Int := ((x.fdiv 5).fdiv (6 ^ k)).fmod 6
noncomputable def menuS : Nat → List Nat
  | 0 => [97] | 1 => [98, 32, 99] | 2 => [46, 46] | 3 => [46] | 4 => [] | _ => [105, 116, 39, 115]
noncomputable abbrev menuL (tm : Nat → Tok) : List Value := [Value.str (S [97]) (tm 0), Value.str (S [98, 32, 99]) (tm 1), Value.str z13 (tm 2), Value.str (S [46]) (tm 3), Value.str (S []) (tm 4), Value.str (S [105, 116, 39, 115]) (tm 5)]
theorem dgt_nonneg (x : Int) (k : Nat) : 0 ≤ dgt x k := by rw [dgt, Int.fmod_eq_emod_of_nonneg _ (by decide)]; exact Int.emod_nonneg _ (by decide)
theorem dgt_lt (x : Int) (k : Nat) : dgt x k < 6 := by rw [dgt, Int.fmod_eq_emod_of_nonneg _ (by decide)]; exact Int.emod_lt_of_pos _ (by decide)
theorem dgt_small (x : Int) (k : Nat) : dgt x k < 1000 := Int.lt_trans (dgt_lt x k) (by decide)
theorem menu_get (tm : Nat → Tok) (x : Int) (k : Nat) : (menuL tm)[(dgt x k).toNat]? = some (Value.str (S (menuS (dgt x k).toNat)) (tm (dgt x k).toNat)) := by
  have h0 := dgt_nonneg x k
  have h1 := dgt_lt x k
  generalize dgt x k = e at h0 h1
  obtain ⟨j, rfl⟩ := Int.eq_ofNat_of_zero_le h0
  have : j < 6 := by omega
  match j, this with
  | 0, _ => rfl
  | 1, _ => rfl
  | 2, _ => rfl
  | 3, _ => rfl
  | 4, _ => rfl
  | 5, _ => rfl
noncomputable def wayL (a b c : Nat) : List Nat := menuS a ++ 47 :: (menuS b ++ 47 :: menuS c)
noncomputable abbrev wayS (x : Int) : Str := S (wayL (dgt x 0).toNat (dgt x 1).toNat (dgt x 2).toNat)
theorem menuS_len (a : Nat) : (menuS a).length ≤ 4 := by
  unfold menuS; split <;> decide
theorem glued3 (a b c : List Nat) : Builtin.Str.glued (S [47]) [S a, S b, S c] = S (a ++ 47 :: (b ++ 47 :: c)) := by
  simp [Builtin.Str.glued, Str.join, S]
theorem way_glued (x : Int) : Builtin.Str.glued (S [47]) (((S (menuS (dgt x 0).toNat), (0 : Tok)) :: (S (menuS (dgt x 1).toNat), (0 : Tok)) :: [(S (menuS (dgt x 2).toNat), (0 : Tok))]).map (·.1)) = wayS x := glued3 _ _ _
theorem way_short1 (x : Int) : ([S (menuS (dgt x 0).toNat), S (menuS (dgt x 1).toNat), S (menuS (dgt x 2).toNat)]).toArray.foldl (· + ·.length + (S [47]).length) 0 ≤ 1000 := by
  have h0 := menuS_len (dgt x 0).toNat
  have h1 := menuS_len (dgt x 1).toNat
  have h2 := menuS_len (dgt x 2).toNat
  simp [Str.length, S]
  omega
theorem way_short (x : Int) : (wayS x).length ≤ 1000 := by
  have h0 := menuS_len (dgt x 0).toNat
  have h1 := menuS_len (dgt x 1).toNat
  have h2 := menuS_len (dgt x 2).toNat
  simp [Str.length, S, wayL]
  omega
section
variable (w : World) (b1 b2 : Bool) (N Tn : Nat) (pos : Pos) (G : List GenState)
section
variable (bG : Addr) (sc : List Value) (hsc : sc.length ≤ 1000) 
noncomputable abbrev Ma_a : Rw := [(bG, (lsO ⟨sc⟩ 0))]
noncomputable abbrev Ma_z : Rw := [(bG, (lsO ⟨sc⟩ 0)), (N, (fO 1 [de w b1 b2 z32 Tn (rf bG)])), ((N + 4), (lsO ⟨([vi 393 (Tn + 1), vi 921 (Tn + 2)] : List Value) ++ sc.take 6⟩ 0)), ((N + 5), (fO 1 [de w b1 b2 (S [110, 117, 109, 98, 101, 114, 115]) (Tn + 4) (rf (N + 4))])), ((N + 6), ⟨y9, none, .cell (some (rf (N + 7))), ⟨[]⟩⟩), ((N + 7), (lsO ⟨menuL (fun i => Tn + (5 + i))⟩ 0)), ((N + 8), ⟨y5, none, .fields ⟨[(rf (N + 4)), (vi 0 0)]⟩, ⟨[]⟩⟩), ((N + 9), ⟨y4, none, .seq ⟨[]⟩ 0, ⟨[]⟩⟩), ((N + 10), ⟨y8, none, .dict ⟨[]⟩ 0, ⟨[]⟩⟩), ((N + 11), ⟨y9, none, .cell none, ⟨[]⟩⟩)]
noncomputable abbrev Ma_g : Ctx := ⟨.call (rf 921) ⟨[(rf bG)], []⟩, none, none, [callerB], none⟩
noncomputable abbrev Ma_h : Ctx := ⟨.compStart lc907 0 (rf (N + 8)) (rf (N + 9)) ⟨(compScopeC lc907), (N + 10), 3, [((S [120]), (N + 11)), (z43, (N + 6))], z45, none, (rf 899), (some (N + 5)), 0⟩, none, none, [(.func T.f900.1.2.1 ⟨T.f900.1.2.2, (N + 5), 3, [(z43, (N + 6))], z45, (some 900), (rf 899), (some (N + 5)), 0⟩, ⟨907, 87, 907, 94⟩), (k921 N ⟨934, 12, 934, 47⟩), callerB], none⟩
noncomputable def Ma : Res :=
  simC w b1 b2 N Tn 80 (dg 30 0xa60667880770000135311112002200) [cSlice 0 3 bG (N + 2) sc (sc.take 6) 0 6 (Tn + 3) (by decide) (slicePick_upto' ⟨sc⟩ 6) hsc (N + 3) (Tn + 4), cLAdd 2 4 (N + 1) (N + 3) ([vi 393 (Tn + 1), vi 921 (Tn + 2)] : List Value) (sc.take 6) 0 0 (by simp; omega) (N + 4) (Tn + 4)] (Ma_g bG) pos (Ma_a bG sc) 1 G
theorem Ma_run : RunK (Ma w b1 b2 N Tn pos G bG sc hsc) [0, 1, 5, 6, 7, 8, 9, 10, 11, 12] (Ma_h N) 12 11 G (Ma_z w b1 b2 N Tn bG sc) := by
  walk_at "r"
variable {w b1 b2 N Tn pos G bG}
def Ma_go := goK (Ma_run w b1 b2 N Tn pos G bG sc hsc) (sC rfl) (by decide)
end
section
variable (bG : Addr) (sc : List Value) (hsc : sc.length ≤ 1000)  (N2 Tn2 : Nat) (ms : List Value) (n : Nat) 
noncomputable abbrev Mf_a : Rw := [(N, (fO 1 [de w b1 b2 z32 Tn (rf bG)])), ((N + 9), (lsO ⟨ms⟩ (n)))]
noncomputable abbrev Mf_z : Rw := [(N, (fO 3 [de w b1 b2 z32 Tn (rf bG), de w b1 b2 z3 Tn2 (rf (N + 9)), de w b1 b2 z14 (Tn2 + 1) (rf N2)])), ((N + 9), (lsO ⟨ms⟩ (n))), (N2, ⟨y4, none, .seq ⟨[]⟩ 0, ⟨[]⟩⟩), ((N2 + 1), ⟨y5, none, .fields ⟨[(rf (N + 9)), (vi 0 0)]⟩, ⟨[]⟩⟩)]
noncomputable abbrev Mf_h : Ctx := ⟨.forLoop fl936.1 (rf (N2 + 1)) fl936.2.1 fl936.2.2 (eN921 N), none, none, [(k921 N ⟨936, 21, 936, 26⟩), callerB], none⟩
noncomputable def Mf : Res :=
  nextC (Ma w b1 b2 N Tn pos G bG sc hsc) (.ok .next) w b1 b2 N2 Tn2 33 [1, 1, 1, 1, 1, 2, 2, 0, 2, 4] [] (Mf_a w b1 b2 N Tn bG ms n) 2 G
theorem Mf_run : RunK (Mf w b1 b2 N Tn pos G bG sc hsc N2 Tn2 ms n) [0, 1, 2, 3] (Mf_h N N2) 2 2 G (Mf_z w b1 b2 N Tn bG N2 Tn2 ms n) := by
  walk_at "r"
variable {w b1 b2 N Tn pos G bG N2 Tn2}
def Mf_go := goK (Mf_run w b1 b2 N Tn pos G bG sc hsc N2 Tn2 ms n) (sK rfl) (by decide)
end
section
variable (dE aF eF dF eL dH aA dM : Addr) 
noncomputable abbrev Mb_a : Rw := [(dE, ⟨y5, none, .fields ⟨[(rf dM), (vi 0 0)]⟩, ⟨[]⟩⟩)]
noncomputable abbrev Mb_z : Rw := [(dE, ⟨y5, none, .fields ⟨[(rf dM), (vi 0 0)]⟩, ⟨[]⟩⟩)]
noncomputable abbrev Mb_g : Ctx := ⟨.compStart lc907 0 (rf dE) (rf aF) ⟨(compScopeC lc907), eL, 3, [((S [120]), eF), (z43, dF)], z45, none, (rf 899), (some dH), 0⟩, none, none, [(.func T.f900.1.2.1 ⟨T.f900.1.2.2, dH, 3, [(z43, dF)], z45, (some 900), (rf 899), (some dH), 0⟩, ⟨907, 87, 907, 94⟩), (k921 aA ⟨934, 12, 934, 47⟩), callerB], none⟩
noncomputable abbrev Mb_h : Ctx := ⟨.compLoop lc907 0 (rf dE) (rf aF) ⟨(compScopeC lc907), eL, 3, [((S [120]), eF), (z43, dF)], z45, none, (rf 899), (some dH), 0⟩, none, none, [(.func T.f900.1.2.1 ⟨T.f900.1.2.2, dH, 3, [(z43, dF)], z45, (some 900), (rf 899), (some dH), 0⟩, ⟨907, 87, 907, 94⟩), (k921 aA ⟨934, 12, 934, 47⟩), callerB], none⟩
noncomputable def Mb : Res :=
  simC w b1 b2 N Tn (cond b2 2 12) (cond b2 [] [1, 1, 0, 1, 1]) [] (Mb_g dE aF eF dF eL dH aA) pos (Mb_a dE dM) 1 G
theorem Mb_run : RunC (Mb w b1 b2 N Tn pos G dE aF eF dF eL dH aA dM) [0] (Mb_h dE aF eF dF eL dH aA) 0 0 G (Mb_z dE dM) := by
  cases b1 <;> cases b2 <;> kernel_rfl
variable {w b1 b2 N Tn pos G dE aF eF dF eL dH aA dM}
def Mb_go := goC (Mb_run w b1 b2 N Tn pos G dE aF eF dF eL dH aA dM) (sC rfl) (by decide)
end
section
variable (dM dE aF eF dF eL dH aA fF : Addr) (xs : List Value) (k : Nat) (x : Int) (tx : Tok) (hx : xs[k]? = some (vi x tx)) (tm : Nat → Tok) (ms : List Value) (n : Nat) (hms : ms.length ≤ 1000) (cv : Option Value) 
noncomputable abbrev Mt_a : Rw := [(dM, (lsO ⟨xs⟩ 0)), (dE, (liO dM (k : Int))), (eF, ⟨y9, none, .cell cv, ⟨[]⟩⟩), (dF, ⟨y9, none, .cell (some (rf fF)), ⟨[]⟩⟩), (fF, (lsO ⟨menuL tm⟩ 0)), (aF, (lsO ⟨ms⟩ n))]
noncomputable abbrev Mt_z : Rw := [(dM, (lsO ⟨xs⟩ 0)), (dE, (liO dM ((k : Int) + 1))), (eF, ⟨y9, none, .cell (some (vi x tx)), ⟨[]⟩⟩), (dF, ⟨y9, none, .cell (some (rf fF)), ⟨[]⟩⟩), (fF, (lsO ⟨menuL tm⟩ 0)), (aF, (lsO ⟨ms ++ [rf (N + 6)]⟩ (n + 1))), ((N + 6), (tupO ⟨[vi (x.fmod 5) (Tn + 1), vs (wayS x) (Tn + 33)]⟩ 0))]
noncomputable abbrev Mt_g : Ctx := ⟨.compLoop lc907 0 (rf dE) (rf aF) ⟨(compScopeC lc907), eL, 3, [((S [120]), eF), (z43, dF)], z45, none, (rf 899), (some dH), 0⟩, none, none, [(.func T.f900.1.2.1 ⟨T.f900.1.2.2, dH, 3, [(z43, dF)], z45, (some 900), (rf 899), (some dH), 0⟩, ⟨907, 87, 907, 94⟩), (k921 aA ⟨934, 12, 934, 47⟩), callerB], none⟩
noncomputable abbrev Mt_h : Ctx := ⟨.compLoop lc907 0 (rf dE) (rf aF) ⟨(compScopeC lc907), eL, 3, [((S [120]), eF), (z43, dF)], z45, none, (rf 899), (some dH), 0⟩, none, none, [(.func T.f900.1.2.1 ⟨T.f900.1.2.2, dH, 3, [(z43, dF)], z45, (some 900), (rf 899), (some dH), 0⟩, ⟨907, 87, 907, 94⟩), (k921 aA ⟨934, 12, 934, 47⟩), callerB], none⟩
noncomputable def Mt : Res :=
  simC w b1 b2 N Tn (cond b2 258 268) (cond b2 (dg 120 0x11aaac888808999901555010a134aa8888888808999901555010a134aa8888888808999901555010a134aa8888888808087777077770770000033312) (dg 125 0x11aaac888808999901555010a134aa8888888808999901555010a134aa8888888808999901555010a134aa888888880888088087777077770770000033312)) [cItNext 1 0 dE dM xs 0 k (vi x tx) hx N Tn, cFDiv x tx 5 (Tn + 8) (by decide) (by decide) (N + 4) (Tn + 9), cFDiv (x.fdiv 5) (Tn + 9) 1 (Tn + 11) (by decide) (by decide) (N + 4) (Tn + 12), cLGetI 4 fF (menuL tm) 0 (dgt x 0) (Tn + 14) (vs (S (menuS (dgt x 0).toNat)) (tm (dgt x 0).toNat)) (dgt_nonneg x 0) (dgt_small x 0) (menu_get tm x 0) (N + 4) (Tn + 15), cFDiv x tx 5 (Tn + 17) (by decide) (by decide) (N + 4) (Tn + 18), cFDiv (x.fdiv 5) (Tn + 18) 6 (Tn + 20) (by decide) (by decide) (N + 4) (Tn + 21), cLGetI 4 fF (menuL tm) 0 (dgt x 1) (Tn + 23) (vs (S (menuS (dgt x 1).toNat)) (tm (dgt x 1).toNat)) (dgt_nonneg x 1) (dgt_small x 1) (menu_get tm x 1) (N + 4) (Tn + 24), cFDiv x tx 5 (Tn + 26) (by decide) (by decide) (N + 4) (Tn + 27), cFDiv (x.fdiv 5) (Tn + 27) 36 (Tn + 29) (by decide) (by decide) (N + 4) (Tn + 30), cLGetI 4 fF (menuL tm) 0 (dgt x 2) (Tn + 32) (vs (S (menuS (dgt x 2).toNat)) (tm (dgt x 2).toNat)) (dgt_nonneg x 2) (dgt_small x 2) (menu_get tm x 2) (N + 4) (Tn + 33), cJoin 8 (S [47]) (Tn + 2) (N + 2) (S (menuS (dgt x 0).toNat), tm (dgt x 0).toNat) (S (menuS (dgt x 1).toNat), tm (dgt x 1).toNat) [(S (menuS (dgt x 2).toNat), tm (dgt x 2).toNat)] 3 (wayS x) (way_glued x) (way_short1 x) (way_short x) (N + 6) (Tn + 33), cLApp 5 aF ms n (rf (N + 6)) hms (N + 7) (Tn + 34)] (Mt_g dE aF eF dF eL dH aA) pos (Mt_a dM dE aF eF dF fF xs k tm ms n cv) 6 G
theorem Mt_run : RunC (Mt w b1 b2 N Tn pos G dM dE aF eF dF eL dH aA fF xs k x tx hx tm ms n hms cv) [0, 1, 2, 3, 4, 5, 12] (Mt_h dE aF eF dF eL dH aA) 7 34 G (Mt_z N Tn dM dE aF eF dF fF xs k x tx tm ms n) := by
  cases b1 <;> cases b2 <;> kernel_rfl
variable {w b1 b2 N Tn pos G dM dE aF eF dF eL dH aA fF}
def Mt_go := goC (Mt_run w b1 b2 N Tn pos G dM dE aF eF dF eL dH aA fF xs k x tx hx tm ms n hms cv) (sC rfl) (by decide)
end
section
variable (dM dE aF eF dF eL dH aA : Addr) (xs ms : List Value) (n : Nat) (hk : xs.length ≤ 8) 
noncomputable abbrev Me_a : Rw := [(dM, (lsO ⟨xs⟩ 0)), (dE, (liO dM (xs.length : Int))), (aF, (lsO ⟨ms⟩ n))]
noncomputable abbrev Me_z : Rw := [(aF, (lsO ⟨ms⟩ n))]
noncomputable abbrev Me_g : Ctx := ⟨.compLoop lc907 0 (rf dE) (rf aF) ⟨(compScopeC lc907), eL, 3, [((S [120]), eF), (z43, dF)], z45, none, (rf 899), (some dH), 0⟩, none, none, [(.func T.f900.1.2.1 ⟨T.f900.1.2.2, dH, 3, [(z43, dF)], z45, (some 900), (rf 899), (some dH), 0⟩, ⟨907, 87, 907, 94⟩), (k921 aA ⟨934, 12, 934, 47⟩), callerB], none⟩
noncomputable def Me : Res :=
  (fun _ => simC w b1 b2 N Tn 19 [2, 0, 2, 2, 2, 1, 2, 2, 5] [] (Me_g dE aF eF dF eL dH aA) pos (Me_a dM dE aF xs ms n) 3 G) hk
theorem Me_run : RunF (Me w b1 b2 N Tn pos G dM dE aF eF dF eL dH aA xs ms n hk) [2] (.ok .next) 2 0 G (Me_z aF ms n) := by
  revert xs b1
  exact tw 8 (fun _ h => h) (by kernel_rfl) fun _ h => h
variable {w b1 b2 N Tn pos G dM dE aF eF dF eL dH aA}
def Me_go := goF (Me_run w b1 b2 N Tn pos G dM dE aF eF dF eL dH aA xs ms n hk) (sC rfl) (by decide)
end
end
section
variable (w : World) (b1 b2 : Bool) (N Tn : Nat) (pos : Pos) (G : List GenState) (B : List (Code × Pos)) (tx : Tok)
noncomputable abbrev seC (x : List Nat) : Ctx := ⟨.call (Value.ref 888) ⟨[(Value.str (S x) tx)], []⟩, none, none, B, none⟩
noncomputable def seR (x : List Nat) : Res := sim (M := mdl w) (tp := tpW w b1 b2) (svW w b1 b2 N Tn) 30 [0, 0, 0, 0, 0, 0] [] (seC B tx x) pos .base (tden (seC B tx x).code) (ltL []) 0 0 0 G ck0
noncomputable def safeD (a : Nat) : Bool := a == 0 || a == 2 || a == 3 || a == 4
noncomputable abbrev seO (b : Bool) (N : Nat) (G : List GenState) : Option Result × Option (Nat × Nat × List GenState × List (Option (Addr × Obj))) :=
  bif b then (some (.ok (.ret .none)), some (0, 0, G, [])) else (some (.ok (.ret (.ref (N + 1)))), some (2, 0, G, []))
theorem six {a : Nat} (h : a < 6) : a = 0 ∨ a = 1 ∨ a = 2 ∨ a = 3 ∨ a = 4 ∨ a = 5 :=
  (by decide : ∀ a, a < 6 → a = 0 ∨ a = 1 ∨ a = 2 ∨ a = 3 ∨ a = 4 ∨ a = 5) a h
noncomputable abbrev six6 : List (Nat × Nat) := [0, 1, 2, 3, 4, 5].flatMap fun b => [(b, 0), (b, 1), (b, 2), (b, 3), (b, 4), (b, 5)]
theorem seWs (a : Nat) (ha : a < 6) : six6.map (fun y => ((seR w b1 b2 N Tn pos G B tx (wayL a y.1 y.2)).out [], (seR w b1 b2 N Tn pos G B tx (wayL a y.1 y.2)).lhs)) =
    six6.map fun y => (seO (safeD a && safeD y.1 && safeD y.2) N G, (seR w b1 b2 N Tn pos G B tx (wayL a y.1 y.2)).rhs) := by
  rcases six ha with rfl | rfl | rfl | rfl | rfl | rfl <;> kernel_rfl
theorem seRs : [48, 49, 50, 51, 52].map (fun y => ((seR w b1 b2 N Tn pos G B tx [y]).out [], (seR w b1 b2 N Tn pos G B tx [y]).lhs)) =
    [48, 49, 50, 51, 52].map fun y => (seO true N G, (seR w b1 b2 N Tn pos G B tx [y]).rhs) := by
  kernel_rfl
theorem seW (a b c : Nat) (ha : a < 6) (hb : b < 6) (hc : c < 6) : ((seR w b1 b2 N Tn pos G B tx (wayL a b c)).out [], (seR w b1 b2 N Tn pos G B tx (wayL a b c)).lhs) =
    (seO (safeD a && safeD b && safeD c) N G, (seR w b1 b2 N Tn pos G B tx (wayL a b c)).rhs) := by
  have h := List.map_inj_left.mp (seWs w b1 b2 N Tn pos G B tx a ha) (b, c) (by
    rcases six hb with rfl | rfl | rfl | rfl | rfl | rfl <;> rcases six hc with rfl | rfl | rfl | rfl | rfl | rfl <;> decide)
  exact h
end
section
variable (w : World) (b1 b2 : Bool) (N Tn : Nat) (pos : Pos) (G : List GenState)
section
variable (aV aT bE aG aI aK aA : Addr) (aL : Tok) (x : Str) (tx : Tok) (L : Nat) (hL : L < 900) (hx : (x.length : Int) = ((L + 1 : Nat) : Int)) (hs : SeOk w b1 b2 (.call (rf 888) ⟨[(vs x tx)], []⟩) ⟨.call (rf 888) ⟨[(vs x tx)], []⟩, none, none, [(k895 N ⟨901, 7, 901, 22⟩), (.compLoop ge895 0 (rf aV) nn ⟨(compScope ge895), aT, 3, [], z39, none, (rf bE), (some aT), 0⟩, ⟨895, 21, 895, 31⟩), (.builtin "generator.__next__" ⟨[(rf aG)], []⟩, ⟨895, 11, 895, 58⟩), (.builtin "list.extend.loop" ⟨[(rf aI), (rf aG), (rf aI)], []⟩, ⟨895, 11, 895, 58⟩), (.builtin "str.join" ⟨[(vs (S [32]) aL), (rf aG)], []⟩, ⟨895, 11, 895, 58⟩), (k887 aK ⟨895, 11, 895, 58⟩), (k921 aA ⟨938, 17, 938, 34⟩), callerB], none⟩ (N + 1) (Tn + 3) nn 0) 
noncomputable abbrev Qa_a : Rw := []
noncomputable abbrev Qa_z : Rw := []
noncomputable abbrev Qa_g : Ctx := ⟨.call (rf 895) ⟨[(vs x tx)], []⟩, none, none, [(.compLoop ge895 0 (rf aV) nn ⟨(compScope ge895), aT, 3, [], z39, none, (rf bE), (some aT), 0⟩, ⟨895, 21, 895, 31⟩), (.builtin "generator.__next__" ⟨[(rf aG)], []⟩, ⟨895, 11, 895, 58⟩), (.builtin "list.extend.loop" ⟨[(rf aI), (rf aG), (rf aI)], []⟩, ⟨895, 11, 895, 58⟩), (.builtin "str.join" ⟨[(vs (S [32]) aL), (rf aG)], []⟩, ⟨895, 11, 895, 58⟩), (k887 aK ⟨895, 11, 895, 58⟩), (k921 aA ⟨938, 17, 938, 34⟩), callerB], none⟩
noncomputable def Qa : Res :=
  (fun _ => simC w b1 b2 N Tn 32 [0, 0, 1, 1, 0, 1, 1, 0, 1, 0, 1, 1] [cLenB x tx ((L + 1 : Nat) : Int) hx (by omega) (N + 1) (Tn + 1), cSe hs] (Qa_g aV aT bE aG aI aK aA aL x tx) pos Qa_a 0 G) hL
theorem Qa_run : RunF (Qa w b1 b2 N Tn pos G aV aT bE aG aI aK aA aL x tx L hL hx hs) [] (.ok (.ret (vs x tx))) 1 3 G Qa_z := by
  walk_at "r"
variable {w b1 b2 N Tn pos G aV aT bE aG aI aK aA aL}
def Qa_go := goF (Qa_run w b1 b2 N Tn pos G aV aT bE aG aI aK aA aL x tx L hL hx hs) (sC rfl) (by decide)
end
section
variable (aV aT bE aG aI aK aA : Addr) (aL : Tok) (x : Str) (tx : Tok) (L : Nat) (hL : L < 900) (hx : (x.length : Int) = ((L + 1 : Nat) : Int)) (gs : Nat) (hs : SeOk w b1 b2 (.call (rf 888) ⟨[(vs x tx)], []⟩) ⟨.call (rf 888) ⟨[(vs x tx)], []⟩, none, none, [(k895 N ⟨901, 7, 901, 22⟩), (.compLoop ge895 0 (rf aV) nn ⟨(compScope ge895), aT, 3, [], z39, none, (rf bE), (some aT), 0⟩, ⟨895, 21, 895, 31⟩), (.builtin "generator.__next__" ⟨[(rf aG)], []⟩, ⟨895, 11, 895, 58⟩), (.builtin "list.extend.loop" ⟨[(rf aI), (rf aG), (rf aI)], []⟩, ⟨895, 11, 895, 58⟩), (.builtin "str.join" ⟨[(vs (S [32]) aL), (rf aG)], []⟩, ⟨895, 11, 895, 58⟩), (k887 aK ⟨895, 11, 895, 58⟩), (k921 aA ⟨938, 17, 938, 34⟩), callerB], none⟩ (N + 1) (Tn + 3) (rf ((N + 1) + 1)) gs) (rx : Str) (trx : Tok) (jr : Nat) (hr : RepOk w x tx (S [39]) (Tn + 4) z56 (Tn + 5) (N + (1 + gs)) (Tn + 6) rx trx jr) (hrx : rx.length ≠ 0) (hrx2 : rx.length ≤ 800) 
noncomputable abbrev Qb_a : Rw := []
noncomputable abbrev Qb_z : Rw := []
noncomputable abbrev Qb_g : Ctx := ⟨.call (rf 895) ⟨[(vs x tx)], []⟩, none, none, [(.compLoop ge895 0 (rf aV) nn ⟨(compScope ge895), aT, 3, [], z39, none, (rf bE), (some aT), 0⟩, ⟨895, 21, 895, 31⟩), (.builtin "generator.__next__" ⟨[(rf aG)], []⟩, ⟨895, 11, 895, 58⟩), (.builtin "list.extend.loop" ⟨[(rf aI), (rf aG), (rf aI)], []⟩, ⟨895, 11, 895, 58⟩), (.builtin "str.join" ⟨[(vs (S [32]) aL), (rf aG)], []⟩, ⟨895, 11, 895, 58⟩), (k887 aK ⟨895, 11, 895, 58⟩), (k921 aA ⟨938, 17, 938, 34⟩), callerB], none⟩
noncomputable def Qb : Res :=
  (fun _ => simC w b1 b2 N Tn 47 (dg 15 0x111110101101100) [cLenB x tx ((L + 1 : Nat) : Int) hx (by omega) (N + 1) (Tn + 1), cSe hs, cRep hr, cAddN (S [39]) (Tn + 3) rx trx (by decide) hrx (by rw [len_app]; exact len_q1 hrx2) (N + (1 + gs)) (Tn + (6 + jr)), cAddN ((S [39]) ++ rx) (Tn + (6 + jr)) (S [39]) (Tn + (6 + jr + 1)) (by rw [len_app]; exact len_q2 _) (by decide) (by rw [len_app, len_app]; exact len_q3 hrx2) (N + (1 + gs)) (Tn + (6 + jr + 2))] (Qb_g aV aT bE aG aI aK aA aL x tx) pos Qb_a 0 G) hL
theorem Qb_run : RunF (Qb w b1 b2 N Tn pos G aV aT bE aG aI aK aA aL x tx L hL hx gs hs rx trx jr hr hrx hrx2) [] (.ok (.ret (vs (((S [39]) ++ rx) ++ (S [39])) (Tn + (6 + jr + 2))))) (1 + gs) (6 + jr + 3) G Qb_z := by
  walk_at "r"
variable {w b1 b2 N Tn pos G aV aT bE aG aI aK aA aL}
def Qb_go := goF (Qb_run w b1 b2 N Tn pos G aV aT bE aG aI aK aA aL x tx L hL hx gs hs rx trx jr hr hrx hrx2) (sC rfl) (by decide)
end
section
variable (cH cI bV aD aB aA cO : Addr) (dO dP dQ dR dS dG dT dI dU dW dX dN dY dZ : Tok) (tc : Tok) (cv : List Value) (k : Nat) (m : Nat) (nv : List Value) (hx : cv[k]? = some (vs (S []) tc)) (li : Nat) (hli2 : li < 100) (ini path : Str) (hli : (ini.length : Int) = ((li + 1 : Nat) : Int)) 
noncomputable abbrev T1e_a : Rw := [(cH, (lsO ⟨cv⟩ 0)), (cI, (liO cH (k : Int))), (cO, (lsO ⟨nv⟩ (m))), (bV, (fO 8 [de w b1 b2 z16 dO (vs path dP), de w b1 b2 z17 dQ (vs (S [47]) dR), de w b1 b2 z18 dS (vs (S [46]) dG), de w b1 b2 z19 dT (vs z13 dI), de w b1 b2 (S [95]) dU (vs (S []) dW), de w b1 b2 z20 dX (vs ini dN), de w b1 b2 z21 dY (rf cH), de w b1 b2 z22 dZ (rf cO)]))]
noncomputable abbrev T1e_z : Rw := [(cH, (lsO ⟨cv⟩ 0)), (cI, (liO cH ((k : Int) + 1))), (cO, (lsO ⟨nv⟩ (m))), (bV, (fO 9 [de w b1 b2 z16 dO (vs path dP), de w b1 b2 z17 dQ (vs (S [47]) dR), de w b1 b2 z18 dS (vs (S [46]) dG), de w b1 b2 z19 dT (vs z13 dI), de w b1 b2 (S [95]) dU (vs (S []) dW), de w b1 b2 z20 dX (vs ini dN), de w b1 b2 z21 dY (rf cH), de w b1 b2 z22 dZ (rf cO), de w b1 b2 z29 Tn (vs (S []) tc)]))]
noncomputable abbrev T1e_g : Ctx := ⟨.forLoop fl119.1 (rf cI) fl119.2.1 fl119.2.2 (eN152 bV), none, none, [(k152 bV ⟨119, 16, 119, 21⟩), (.forLoop fl914.1 (rf aD) fl914.2.1 fl914.2.2 (eN907 aB), ⟨916, 16, 916, 52⟩), (k907 aB ⟨914, 16, 914, 38⟩), (k921 aA ⟨939, 29, 939, 43⟩), callerB], none⟩
noncomputable abbrev T1e_h : Ctx := ⟨.forLoop fl119.1 (rf cI) fl119.2.1 fl119.2.2 (eN152 bV), none, none, [(k152 bV ⟨119, 16, 119, 21⟩), (.forLoop fl914.1 (rf aD) fl914.2.1 fl914.2.2 (eN907 aB), ⟨916, 16, 916, 52⟩), (k907 aB ⟨914, 16, 914, 38⟩), (k921 aA ⟨939, 29, 939, 43⟩), callerB], none⟩
noncomputable def T1e : Res :=
  (fun _ _ _ => simC w b1 b2 N Tn 17 [2, 1, 4, 4, 4, 1] [cItNext 1 0 cI cH (cv) 0 k (vs (S []) tc) hx N Tn, cLenB (S []) tc 0 rfl (by omega) N (Tn + 1)] (T1e_g cI bV aD aB aA) pos (T1e_a w b1 b2 cH cI bV cO dO dP dQ dR dS dG dT dI dU dW dX dN dY dZ cv k m nv ini path) 4 G) li hli2 hli
theorem T1e_run : RunC (T1e w b1 b2 N Tn pos G cH cI bV aD aB aA cO dO dP dQ dR dS dG dT dI dU dW dX dN dY dZ tc cv k m nv hx li hli2 ini path hli) [0, 1, 2, 3] (T1e_h cI bV aD aB aA) 0 3 G (T1e_z w b1 b2 Tn cH cI bV cO dO dP dQ dR dS dG dT dI dU dW dX dN dY dZ tc cv k m nv ini path) := by
  walk_at "r"
variable {w b1 b2 N Tn pos G cH cI bV aD aB aA cO dO dP dQ dR dS dG dT dI dU dW dX dN dY dZ}
def T1e_go := goC (T1e_run w b1 b2 N Tn pos G cH cI bV aD aB aA cO dO dP dQ dR dS dG dT dI dU dW dX dN dY dZ tc cv k m nv hx li hli2 ini path hli) (sC rfl) (by decide)
end
section
variable (cH cI bV aD aB aA cO : Addr) (dO dP dQ dR dS dG dT dI dU dW dX dN dY dZ : Tok) (tc : Tok) (cv : List Value) (k : Nat) (m : Nat) (nv : List Value) (hx : cv[k]? = some (vs (S [46]) tc)) (li : Nat) (hli2 : li < 100) (ini path : Str) (hli : (ini.length : Int) = ((li + 1 : Nat) : Int)) 
noncomputable abbrev T1d_a : Rw := [(cH, (lsO ⟨cv⟩ 0)), (cI, (liO cH (k : Int))), (cO, (lsO ⟨nv⟩ (m))), (bV, (fO 8 [de w b1 b2 z16 dO (vs path dP), de w b1 b2 z17 dQ (vs (S [47]) dR), de w b1 b2 z18 dS (vs (S [46]) dG), de w b1 b2 z19 dT (vs z13 dI), de w b1 b2 (S [95]) dU (vs (S []) dW), de w b1 b2 z20 dX (vs ini dN), de w b1 b2 z21 dY (rf cH), de w b1 b2 z22 dZ (rf cO)]))]
noncomputable abbrev T1d_z : Rw := [(cH, (lsO ⟨cv⟩ 0)), (cI, (liO cH ((k : Int) + 1))), (cO, (lsO ⟨nv⟩ (m))), (bV, (fO 9 [de w b1 b2 z16 dO (vs path dP), de w b1 b2 z17 dQ (vs (S [47]) dR), de w b1 b2 z18 dS (vs (S [46]) dG), de w b1 b2 z19 dT (vs z13 dI), de w b1 b2 (S [95]) dU (vs (S []) dW), de w b1 b2 z20 dX (vs ini dN), de w b1 b2 z21 dY (rf cH), de w b1 b2 z22 dZ (rf cO), de w b1 b2 z29 Tn (vs (S [46]) tc)]))]
noncomputable abbrev T1d_g : Ctx := ⟨.forLoop fl119.1 (rf cI) fl119.2.1 fl119.2.2 (eN152 bV), none, none, [(k152 bV ⟨119, 16, 119, 21⟩), (.forLoop fl914.1 (rf aD) fl914.2.1 fl914.2.2 (eN907 aB), ⟨916, 16, 916, 52⟩), (k907 aB ⟨914, 16, 914, 38⟩), (k921 aA ⟨939, 29, 939, 43⟩), callerB], none⟩
noncomputable abbrev T1d_h : Ctx := ⟨.forLoop fl119.1 (rf cI) fl119.2.1 fl119.2.2 (eN152 bV), none, none, [(k152 bV ⟨119, 16, 119, 21⟩), (.forLoop fl914.1 (rf aD) fl914.2.1 fl914.2.2 (eN907 aB), ⟨916, 16, 916, 52⟩), (k907 aB ⟨914, 16, 914, 38⟩), (k921 aA ⟨939, 29, 939, 43⟩), callerB], none⟩
noncomputable def T1d : Res :=
  (fun _ _ _ => simC w b1 b2 N Tn 24 [2, 1, 4, 4, 4, 1, 4, 4, 1] [cItNext 1 0 cI cH (cv) 0 k (vs (S [46]) tc) hx N Tn, cLenB (S [46]) tc 1 rfl (by omega) N (Tn + 1), cEqS (S [46]) tc (S [46]) dG true rfl N (Tn + 3)] (T1d_g cI bV aD aB aA) pos (T1d_a w b1 b2 cH cI bV cO dO dP dQ dR dS dG dT dI dU dW dX dN dY dZ cv k m nv ini path) 4 G) li hli2 hli
theorem T1d_run : RunC (T1d w b1 b2 N Tn pos G cH cI bV aD aB aA cO dO dP dQ dR dS dG dT dI dU dW dX dN dY dZ tc cv k m nv hx li hli2 ini path hli) [0, 1, 2, 3] (T1d_h cI bV aD aB aA) 0 3 G (T1d_z w b1 b2 Tn cH cI bV cO dO dP dQ dR dS dG dT dI dU dW dX dN dY dZ tc cv k m nv ini path) := by
  walk_at "r"
variable {w b1 b2 N Tn pos G cH cI bV aD aB aA cO dO dP dQ dR dS dG dT dI dU dW dX dN dY dZ}
def T1d_go := goC (T1d_run w b1 b2 N Tn pos G cH cI bV aD aB aA cO dO dP dQ dR dS dG dT dI dU dW dX dN dY dZ tc cv k m nv hx li hli2 ini path hli) (sC rfl) (by decide)
end
section
variable (bP bS bM aD aB aA cF : Addr) (cT cU cV cW cX cP cY cR cZ dA dB cS dC dD : Tok) (tc : Tok) (cv : List Value) (k : Nat) (m : Nat) (hx : cv[k]? = some (vs z13 tc)) (li : Nat) (hli2 : li < 100) (ini path : Str) (hli : (ini.length : Int) = ((li + 1 : Nat) : Int)) 
noncomputable abbrev T1x_a : Rw := [(bP, (lsO ⟨cv⟩ 0)), (bS, (liO bP (k : Int))), (cF, (lsO ⟨[]⟩ (m))), (bM, (fO 8 [de w b1 b2 z16 cT (vs path cU), de w b1 b2 z17 cV (vs (S [47]) cW), de w b1 b2 z18 cX (vs (S [46]) cP), de w b1 b2 z19 cY (vs z13 cR), de w b1 b2 (S [95]) cZ (vs (S []) dA), de w b1 b2 z20 dB (vs ini cS), de w b1 b2 z21 dC (rf bP), de w b1 b2 z22 dD (rf cF)]))]
noncomputable abbrev T1x_z : Rw := [(bP, (lsO ⟨cv⟩ 0)), (bS, (liO bP ((k : Int) + 1))), (cF, (lsO ⟨[]⟩ (m))), (bM, (fO 9 [de w b1 b2 z16 cT (vs path cU), de w b1 b2 z17 cV (vs (S [47]) cW), de w b1 b2 z18 cX (vs (S [46]) cP), de w b1 b2 z19 cY (vs z13 cR), de w b1 b2 (S [95]) cZ (vs (S []) dA), de w b1 b2 z20 dB (vs ini cS), de w b1 b2 z21 dC (rf bP), de w b1 b2 z22 dD (rf cF), de w b1 b2 z29 Tn (vs z13 tc)]))]
noncomputable abbrev T1x_g : Ctx := ⟨.forLoop fl119.1 (rf bS) fl119.2.1 fl119.2.2 (eN152 bM), none, none, [(k152 bM ⟨119, 16, 119, 21⟩), (.forLoop fl914.1 (rf aD) fl914.2.1 fl914.2.2 (eN907 aB), ⟨916, 16, 916, 52⟩), (k907 aB ⟨914, 16, 914, 38⟩), (k921 aA ⟨939, 29, 939, 43⟩), callerB], none⟩
noncomputable abbrev T1x_h : Ctx := ⟨.forLoop fl119.1 (rf bS) fl119.2.1 fl119.2.2 (eN152 bM), none, none, [(k152 bM ⟨119, 16, 119, 21⟩), (.forLoop fl914.1 (rf aD) fl914.2.1 fl914.2.2 (eN907 aB), ⟨916, 16, 916, 52⟩), (k907 aB ⟨914, 16, 914, 38⟩), (k921 aA ⟨939, 29, 939, 43⟩), callerB], none⟩
noncomputable def T1x : Res :=
  (fun _ => simC w b1 b2 N Tn 48 (dg 22 0x1334133414144144144412) [cItNext 1 0 bS bP (cv) 0 k (vs z13 tc) hx N Tn, cLenB z13 tc 2 rfl (by omega) N (Tn + 1), cEqS z13 tc (S [46]) cP false rfl N (Tn + 3), cNeS z13 tc z13 cR false rfl N (Tn + 3), cLenB ini cS ((li + 1 : Nat) : Int) hli (by omega) N (Tn + 3), cLLenB 2 cF ([]) (m) 0 rfl (by omega) N (Tn + 5), cLLenB 2 cF ([]) (m) 0 rfl (by omega) N (Tn + 7)] (T1x_g bS bM aD aB aA) pos (T1x_a w b1 b2 bP bS bM cF cT cU cV cW cX cP cY cR cZ dA dB cS dC dD cv k m ini path) 4 G) hli2
theorem T1x_run : RunC (T1x w b1 b2 N Tn pos G bP bS bM aD aB aA cF cT cU cV cW cX cP cY cR cZ dA dB cS dC dD tc cv k m hx li hli2 ini path hli) [0, 1, 2, 3] (T1x_h bS bM aD aB aA) 0 9 G (T1x_z w b1 b2 Tn bP bS bM cF cT cU cV cW cX cP cY cR cZ dA dB cS dC dD tc cv k m ini path) := by
  walk_at "r"
variable {w b1 b2 N Tn pos G bP bS bM aD aB aA cF cT cU cV cW cX cP cY cR cZ dA dB cS dC dD}
def T1x_go := goC (T1x_run w b1 b2 N Tn pos G bP bS bM aD aB aA cF cT cU cV cW cX cP cY cR cZ dA dB cS dC dD tc cv k m hx li hli2 ini path hli) (sC rfl) (by decide)
end
section
variable (cH cI bV aD aB aA cO : Addr) (dO dP dQ dR dS dG dT dI dU dW dX dN dY dZ : Tok) (tc : Tok) (cv : List Value) (k : Nat) (m : Nat) (nv : List Value) (cm : Str) (lm : Nat) (hlm : lm < 900) (hcm : (cm.length : Int) = ((lm + 1 : Nat) : Int)) (hd : (cm.cps.toList == (S [46]).cps.toList) = false) (hdd : (cm.cps.toList != z13.cps.toList) = true) (hnv : nv.length ≤ 900) (hx : cv[k]? = some (vs cm tc)) (li : Nat) (hli2 : li < 100) (ini path : Str) (hli : (ini.length : Int) = ((li + 1 : Nat) : Int)) 
noncomputable abbrev T1n_a : Rw := [(cH, (lsO ⟨cv⟩ 0)), (cI, (liO cH (k : Int))), (cO, (lsO ⟨nv⟩ (m))), (bV, (fO 8 [de w b1 b2 z16 dO (vs path dP), de w b1 b2 z17 dQ (vs (S [47]) dR), de w b1 b2 z18 dS (vs (S [46]) dG), de w b1 b2 z19 dT (vs z13 dI), de w b1 b2 (S [95]) dU (vs (S []) dW), de w b1 b2 z20 dX (vs ini dN), de w b1 b2 z21 dY (rf cH), de w b1 b2 z22 dZ (rf cO)]))]
noncomputable abbrev T1n_z : Rw := [(cH, (lsO ⟨cv⟩ 0)), (cI, (liO cH ((k : Int) + 1))), (cO, (lsO ⟨nv ++ [(vs cm tc)]⟩ (m + 1))), (bV, (fO 9 [de w b1 b2 z16 dO (vs path dP), de w b1 b2 z17 dQ (vs (S [47]) dR), de w b1 b2 z18 dS (vs (S [46]) dG), de w b1 b2 z19 dT (vs z13 dI), de w b1 b2 (S [95]) dU (vs (S []) dW), de w b1 b2 z20 dX (vs ini dN), de w b1 b2 z21 dY (rf cH), de w b1 b2 z22 dZ (rf cO), de w b1 b2 z29 Tn (vs cm tc)]))]
noncomputable abbrev T1n_g : Ctx := ⟨.forLoop fl119.1 (rf cI) fl119.2.1 fl119.2.2 (eN152 bV), none, none, [(k152 bV ⟨119, 16, 119, 21⟩), (.forLoop fl914.1 (rf aD) fl914.2.1 fl914.2.2 (eN907 aB), ⟨916, 16, 916, 52⟩), (k907 aB ⟨914, 16, 914, 38⟩), (k921 aA ⟨939, 29, 939, 43⟩), callerB], none⟩
noncomputable abbrev T1n_h : Ctx := ⟨.forLoop fl119.1 (rf cI) fl119.2.1 fl119.2.2 (eN152 bV), none, none, [(k152 bV ⟨119, 16, 119, 21⟩), (.forLoop fl914.1 (rf aD) fl914.2.1 fl914.2.2 (eN907 aB), ⟨916, 16, 916, 52⟩), (k907 aB ⟨914, 16, 914, 38⟩), (k921 aA ⟨939, 29, 939, 43⟩), callerB], none⟩
noncomputable def T1n : Res :=
  (fun _ _ _ _ _ => simC w b1 b2 N Tn 45 (dg 19 0x1433334144144144412) [cItNext 1 0 cI cH (cv) 0 k (vs cm tc) hx N Tn, cLenB cm tc ((lm + 1 : Nat) : Int) hcm (by omega) N (Tn + 1), cEqS cm tc (S [46]) dG false hd N (Tn + 3), cNeS cm tc z13 dI true hdd N (Tn + 3), cLApp 2 cO (nv) (m) (vs cm tc) (by first | omega | (simp; omega)) N (Tn + 3)] (T1n_g cI bV aD aB aA) pos (T1n_a w b1 b2 cH cI bV cO dO dP dQ dR dS dG dT dI dU dW dX dN dY dZ cv k m nv ini path) 4 G) hlm hnv li hli2 hli
theorem T1n_run : RunC (T1n w b1 b2 N Tn pos G cH cI bV aD aB aA cO dO dP dQ dR dS dG dT dI dU dW dX dN dY dZ tc cv k m nv cm lm hlm hcm hd hdd hnv hx li hli2 ini path hli) [0, 1, 2, 3] (T1n_h cI bV aD aB aA) 0 3 G (T1n_z w b1 b2 Tn cH cI bV cO dO dP dQ dR dS dG dT dI dU dW dX dN dY dZ tc cv k m nv cm ini path) := by
  walk_at "r"
variable {w b1 b2 N Tn pos G cH cI bV aD aB aA cO dO dP dQ dR dS dG dT dI dU dW dX dN dY dZ}
def T1n_go := goC (T1n_run w b1 b2 N Tn pos G cH cI bV aD aB aA cO dO dP dQ dR dS dG dT dI dU dW dX dN dY dZ tc cv k m nv cm lm hlm hcm hd hdd hnv hx li hli2 ini path hli) (sC rfl) (by decide)
end
section
variable (bP bS bM aD aB aA cF : Addr) (cT cU cV cW cX cP cY cR cZ dA dB cS dC dD eA fY : Tok) (tc : Tok) (cv : List Value) (k : Nat) (m : Nat) (nv : List Value) (hx : cv[k]? = some (vs (S []) tc)) (li : Nat) (hli2 : li < 100) (ini path : Str) (hli : (ini.length : Int) = ((li + 1 : Nat) : Int)) (c0 : Str) 
noncomputable abbrev T2e_a : Rw := [(bP, (lsO ⟨cv⟩ 0)), (bS, (liO bP (k : Int))), (cF, (lsO ⟨nv⟩ (m))), (bM, (fO 9 [de w b1 b2 z16 cT (vs path cU), de w b1 b2 z17 cV (vs (S [47]) cW), de w b1 b2 z18 cX (vs (S [46]) cP), de w b1 b2 z19 cY (vs z13 cR), de w b1 b2 (S [95]) cZ (vs (S []) dA), de w b1 b2 z20 dB (vs ini cS), de w b1 b2 z21 dC (rf bP), de w b1 b2 z22 dD (rf cF), de w b1 b2 z29 eA (vs c0 fY)]))]
noncomputable abbrev T2e_z : Rw := [(bP, (lsO ⟨cv⟩ 0)), (bS, (liO bP ((k : Int) + 1))), (cF, (lsO ⟨nv⟩ (m))), (bM, (fO 9 [de w b1 b2 z16 cT (vs path cU), de w b1 b2 z17 cV (vs (S [47]) cW), de w b1 b2 z18 cX (vs (S [46]) cP), de w b1 b2 z19 cY (vs z13 cR), de w b1 b2 (S [95]) cZ (vs (S []) dA), de w b1 b2 z20 dB (vs ini cS), de w b1 b2 z21 dC (rf bP), de w b1 b2 z22 dD (rf cF), de w b1 b2 z29 eA (vs (S []) tc)]))]
noncomputable abbrev T2e_g : Ctx := ⟨.forLoop fl119.1 (rf bS) fl119.2.1 fl119.2.2 (eN152 bM), none, none, [(k152 bM ⟨119, 16, 119, 21⟩), (.forLoop fl914.1 (rf aD) fl914.2.1 fl914.2.2 (eN907 aB), ⟨916, 16, 916, 52⟩), (k907 aB ⟨914, 16, 914, 38⟩), (k921 aA ⟨939, 29, 939, 43⟩), callerB], none⟩
noncomputable abbrev T2e_h : Ctx := ⟨.forLoop fl119.1 (rf bS) fl119.2.1 fl119.2.2 (eN152 bM), none, none, [(k152 bM ⟨119, 16, 119, 21⟩), (.forLoop fl914.1 (rf aD) fl914.2.1 fl914.2.2 (eN907 aB), ⟨916, 16, 916, 52⟩), (k907 aB ⟨914, 16, 914, 38⟩), (k921 aA ⟨939, 29, 939, 43⟩), callerB], none⟩
noncomputable def T2e : Res :=
  (fun _ _ _ => simC w b1 b2 N Tn 17 [2, 1, 4, 4, 4, 1] [cItNext 1 0 bS bP (cv) 0 k (vs (S []) tc) hx N Tn, cLenB (S []) tc 0 rfl (by omega) N (Tn + 1)] (T2e_g bS bM aD aB aA) pos (T2e_a w b1 b2 bP bS bM cF cT cU cV cW cX cP cY cR cZ dA dB cS dC dD eA fY cv k m nv ini path c0) 4 G) li hli2 hli
theorem T2e_run : RunC (T2e w b1 b2 N Tn pos G bP bS bM aD aB aA cF cT cU cV cW cX cP cY cR cZ dA dB cS dC dD eA fY tc cv k m nv hx li hli2 ini path hli c0) [0, 1, 2, 3] (T2e_h bS bM aD aB aA) 0 3 G (T2e_z w b1 b2 bP bS bM cF cT cU cV cW cX cP cY cR cZ dA dB cS dC dD eA tc cv k m nv ini path) := by
  walk_at "r"
variable {w b1 b2 N Tn pos G bP bS bM aD aB aA cF cT cU cV cW cX cP cY cR cZ dA dB cS dC dD eA fY}
def T2e_go := goC (T2e_run w b1 b2 N Tn pos G bP bS bM aD aB aA cF cT cU cV cW cX cP cY cR cZ dA dB cS dC dD eA fY tc cv k m nv hx li hli2 ini path hli c0) (sC rfl) (by decide)
end
section
variable (bP bS bM aD aB aA cF : Addr) (cT cU cV cW cX cP cY cR cZ dA dB cS dC dD eA jV : Tok) (tc : Tok) (cv : List Value) (k : Nat) (m : Nat) (nv : List Value) (hx : cv[k]? = some (vs (S [46]) tc)) (li : Nat) (hli2 : li < 100) (ini path : Str) (hli : (ini.length : Int) = ((li + 1 : Nat) : Int)) (c0 : Str) 
noncomputable abbrev T2d_a : Rw := [(bP, (lsO ⟨cv⟩ 0)), (bS, (liO bP (k : Int))), (cF, (lsO ⟨nv⟩ (m))), (bM, (fO 9 [de w b1 b2 z16 cT (vs path cU), de w b1 b2 z17 cV (vs (S [47]) cW), de w b1 b2 z18 cX (vs (S [46]) cP), de w b1 b2 z19 cY (vs z13 cR), de w b1 b2 (S [95]) cZ (vs (S []) dA), de w b1 b2 z20 dB (vs ini cS), de w b1 b2 z21 dC (rf bP), de w b1 b2 z22 dD (rf cF), de w b1 b2 z29 eA (vs c0 jV)]))]
noncomputable abbrev T2d_z : Rw := [(bP, (lsO ⟨cv⟩ 0)), (bS, (liO bP ((k : Int) + 1))), (cF, (lsO ⟨nv⟩ (m))), (bM, (fO 9 [de w b1 b2 z16 cT (vs path cU), de w b1 b2 z17 cV (vs (S [47]) cW), de w b1 b2 z18 cX (vs (S [46]) cP), de w b1 b2 z19 cY (vs z13 cR), de w b1 b2 (S [95]) cZ (vs (S []) dA), de w b1 b2 z20 dB (vs ini cS), de w b1 b2 z21 dC (rf bP), de w b1 b2 z22 dD (rf cF), de w b1 b2 z29 eA (vs (S [46]) tc)]))]
noncomputable abbrev T2d_g : Ctx := ⟨.forLoop fl119.1 (rf bS) fl119.2.1 fl119.2.2 (eN152 bM), none, none, [(k152 bM ⟨119, 16, 119, 21⟩), (.forLoop fl914.1 (rf aD) fl914.2.1 fl914.2.2 (eN907 aB), ⟨916, 16, 916, 52⟩), (k907 aB ⟨914, 16, 914, 38⟩), (k921 aA ⟨939, 29, 939, 43⟩), callerB], none⟩
noncomputable abbrev T2d_h : Ctx := ⟨.forLoop fl119.1 (rf bS) fl119.2.1 fl119.2.2 (eN152 bM), none, none, [(k152 bM ⟨119, 16, 119, 21⟩), (.forLoop fl914.1 (rf aD) fl914.2.1 fl914.2.2 (eN907 aB), ⟨916, 16, 916, 52⟩), (k907 aB ⟨914, 16, 914, 38⟩), (k921 aA ⟨939, 29, 939, 43⟩), callerB], none⟩
noncomputable def T2d : Res :=
  (fun _ _ _ => simC w b1 b2 N Tn 24 [2, 1, 4, 4, 4, 1, 4, 4, 1] [cItNext 1 0 bS bP (cv) 0 k (vs (S [46]) tc) hx N Tn, cLenB (S [46]) tc 1 rfl (by omega) N (Tn + 1), cEqS (S [46]) tc (S [46]) cP true rfl N (Tn + 3)] (T2d_g bS bM aD aB aA) pos (T2d_a w b1 b2 bP bS bM cF cT cU cV cW cX cP cY cR cZ dA dB cS dC dD eA jV cv k m nv ini path c0) 4 G) li hli2 hli
theorem T2d_run : RunC (T2d w b1 b2 N Tn pos G bP bS bM aD aB aA cF cT cU cV cW cX cP cY cR cZ dA dB cS dC dD eA jV tc cv k m nv hx li hli2 ini path hli c0) [0, 1, 2, 3] (T2d_h bS bM aD aB aA) 0 3 G (T2d_z w b1 b2 bP bS bM cF cT cU cV cW cX cP cY cR cZ dA dB cS dC dD eA tc cv k m nv ini path) := by
  walk_at "r"
variable {w b1 b2 N Tn pos G bP bS bM aD aB aA cF cT cU cV cW cX cP cY cR cZ dA dB cS dC dD eA jV}
def T2d_go := goC (T2d_run w b1 b2 N Tn pos G bP bS bM aD aB aA cF cT cU cV cW cX cP cY cR cZ dA dB cS dC dD eA jV tc cv k m nv hx li hli2 ini path hli c0) (sC rfl) (by decide)
end
section
variable (cH cI bV aD aB aA cO : Addr) (dO dP dQ dR dS dG dT dI dU dW dX dN dY dZ eI jW : Tok) (tc : Tok) (cv : List Value) (k : Nat) (m : Nat) (hx : cv[k]? = some (vs z13 tc)) (li : Nat) (hli2 : li < 100) (ini path : Str) (hli : (ini.length : Int) = ((li + 1 : Nat) : Int)) (c0 : Str) 
noncomputable abbrev T2x_a : Rw := [(cH, (lsO ⟨cv⟩ 0)), (cI, (liO cH (k : Int))), (cO, (lsO ⟨[]⟩ (m))), (bV, (fO 9 [de w b1 b2 z16 dO (vs path dP), de w b1 b2 z17 dQ (vs (S [47]) dR), de w b1 b2 z18 dS (vs (S [46]) dG), de w b1 b2 z19 dT (vs z13 dI), de w b1 b2 (S [95]) dU (vs (S []) dW), de w b1 b2 z20 dX (vs ini dN), de w b1 b2 z21 dY (rf cH), de w b1 b2 z22 dZ (rf cO), de w b1 b2 z29 eI (vs c0 jW)]))]
noncomputable abbrev T2x_z : Rw := [(cH, (lsO ⟨cv⟩ 0)), (cI, (liO cH ((k : Int) + 1))), (cO, (lsO ⟨[]⟩ (m))), (bV, (fO 9 [de w b1 b2 z16 dO (vs path dP), de w b1 b2 z17 dQ (vs (S [47]) dR), de w b1 b2 z18 dS (vs (S [46]) dG), de w b1 b2 z19 dT (vs z13 dI), de w b1 b2 (S [95]) dU (vs (S []) dW), de w b1 b2 z20 dX (vs ini dN), de w b1 b2 z21 dY (rf cH), de w b1 b2 z22 dZ (rf cO), de w b1 b2 z29 eI (vs z13 tc)]))]
noncomputable abbrev T2x_g : Ctx := ⟨.forLoop fl119.1 (rf cI) fl119.2.1 fl119.2.2 (eN152 bV), none, none, [(k152 bV ⟨119, 16, 119, 21⟩), (.forLoop fl914.1 (rf aD) fl914.2.1 fl914.2.2 (eN907 aB), ⟨916, 16, 916, 52⟩), (k907 aB ⟨914, 16, 914, 38⟩), (k921 aA ⟨939, 29, 939, 43⟩), callerB], none⟩
noncomputable abbrev T2x_h : Ctx := ⟨.forLoop fl119.1 (rf cI) fl119.2.1 fl119.2.2 (eN152 bV), none, none, [(k152 bV ⟨119, 16, 119, 21⟩), (.forLoop fl914.1 (rf aD) fl914.2.1 fl914.2.2 (eN907 aB), ⟨916, 16, 916, 52⟩), (k907 aB ⟨914, 16, 914, 38⟩), (k921 aA ⟨939, 29, 939, 43⟩), callerB], none⟩
noncomputable def T2x : Res :=
  (fun _ => simC w b1 b2 N Tn 48 (dg 22 0x1334133414144144144412) [cItNext 1 0 cI cH (cv) 0 k (vs z13 tc) hx N Tn, cLenB z13 tc 2 rfl (by omega) N (Tn + 1), cEqS z13 tc (S [46]) dG false rfl N (Tn + 3), cNeS z13 tc z13 dI false rfl N (Tn + 3), cLenB ini dN ((li + 1 : Nat) : Int) hli (by omega) N (Tn + 3), cLLenB 2 cO ([]) (m) 0 rfl (by omega) N (Tn + 5), cLLenB 2 cO ([]) (m) 0 rfl (by omega) N (Tn + 7)] (T2x_g cI bV aD aB aA) pos (T2x_a w b1 b2 cH cI bV cO dO dP dQ dR dS dG dT dI dU dW dX dN dY dZ eI jW cv k m ini path c0) 4 G) hli2
theorem T2x_run : RunC (T2x w b1 b2 N Tn pos G cH cI bV aD aB aA cO dO dP dQ dR dS dG dT dI dU dW dX dN dY dZ eI jW tc cv k m hx li hli2 ini path hli c0) [0, 1, 2, 3] (T2x_h cI bV aD aB aA) 0 9 G (T2x_z w b1 b2 cH cI bV cO dO dP dQ dR dS dG dT dI dU dW dX dN dY dZ eI tc cv k m ini path) := by
  walk_at "r"
variable {w b1 b2 N Tn pos G cH cI bV aD aB aA cO dO dP dQ dR dS dG dT dI dU dW dX dN dY dZ eI jW}
def T2x_go := goC (T2x_run w b1 b2 N Tn pos G cH cI bV aD aB aA cO dO dP dQ dR dS dG dT dI dU dW dX dN dY dZ eI jW tc cv k m hx li hli2 ini path hli c0) (sC rfl) (by decide)
end
section
variable (bP bS bM aD aB aA cF : Addr) (cT cU cV cW cX cP cY cR cZ dA dB cS dC dD eA fY : Tok) (tc : Tok) (cv : List Value) (k : Nat) (m : Nat) (nv : List Value) (cm : Str) (lm : Nat) (hlm : lm < 900) (hcm : (cm.length : Int) = ((lm + 1 : Nat) : Int)) (hd : (cm.cps.toList == (S [46]).cps.toList) = false) (hdd : (cm.cps.toList != z13.cps.toList) = true) (hnv : nv.length ≤ 900) (hx : cv[k]? = some (vs cm tc)) (li : Nat) (hli2 : li < 100) (ini path : Str) (hli : (ini.length : Int) = ((li + 1 : Nat) : Int)) (c0 : Str) 
noncomputable abbrev T2n_a : Rw := [(bP, (lsO ⟨cv⟩ 0)), (bS, (liO bP (k : Int))), (cF, (lsO ⟨nv⟩ (m))), (bM, (fO 9 [de w b1 b2 z16 cT (vs path cU), de w b1 b2 z17 cV (vs (S [47]) cW), de w b1 b2 z18 cX (vs (S [46]) cP), de w b1 b2 z19 cY (vs z13 cR), de w b1 b2 (S [95]) cZ (vs (S []) dA), de w b1 b2 z20 dB (vs ini cS), de w b1 b2 z21 dC (rf bP), de w b1 b2 z22 dD (rf cF), de w b1 b2 z29 eA (vs c0 fY)]))]
noncomputable abbrev T2n_z : Rw := [(bP, (lsO ⟨cv⟩ 0)), (bS, (liO bP ((k : Int) + 1))), (cF, (lsO ⟨nv ++ [(vs cm tc)]⟩ (m + 1))), (bM, (fO 9 [de w b1 b2 z16 cT (vs path cU), de w b1 b2 z17 cV (vs (S [47]) cW), de w b1 b2 z18 cX (vs (S [46]) cP), de w b1 b2 z19 cY (vs z13 cR), de w b1 b2 (S [95]) cZ (vs (S []) dA), de w b1 b2 z20 dB (vs ini cS), de w b1 b2 z21 dC (rf bP), de w b1 b2 z22 dD (rf cF), de w b1 b2 z29 eA (vs cm tc)]))]
noncomputable abbrev T2n_g : Ctx := ⟨.forLoop fl119.1 (rf bS) fl119.2.1 fl119.2.2 (eN152 bM), none, none, [(k152 bM ⟨119, 16, 119, 21⟩), (.forLoop fl914.1 (rf aD) fl914.2.1 fl914.2.2 (eN907 aB), ⟨916, 16, 916, 52⟩), (k907 aB ⟨914, 16, 914, 38⟩), (k921 aA ⟨939, 29, 939, 43⟩), callerB], none⟩
noncomputable abbrev T2n_h : Ctx := ⟨.forLoop fl119.1 (rf bS) fl119.2.1 fl119.2.2 (eN152 bM), none, none, [(k152 bM ⟨119, 16, 119, 21⟩), (.forLoop fl914.1 (rf aD) fl914.2.1 fl914.2.2 (eN907 aB), ⟨916, 16, 916, 52⟩), (k907 aB ⟨914, 16, 914, 38⟩), (k921 aA ⟨939, 29, 939, 43⟩), callerB], none⟩
noncomputable def T2n : Res :=
  (fun _ _ _ _ _ => simC w b1 b2 N Tn 45 (dg 19 0x1433334144144144412) [cItNext 1 0 bS bP (cv) 0 k (vs cm tc) hx N Tn, cLenB cm tc ((lm + 1 : Nat) : Int) hcm (by omega) N (Tn + 1), cEqS cm tc (S [46]) cP false hd N (Tn + 3), cNeS cm tc z13 cR true hdd N (Tn + 3), cLApp 2 cF (nv) (m) (vs cm tc) (by first | omega | (simp; omega)) N (Tn + 3)] (T2n_g bS bM aD aB aA) pos (T2n_a w b1 b2 bP bS bM cF cT cU cV cW cX cP cY cR cZ dA dB cS dC dD eA fY cv k m nv ini path c0) 4 G) hlm hnv li hli2 hli
theorem T2n_run : RunC (T2n w b1 b2 N Tn pos G bP bS bM aD aB aA cF cT cU cV cW cX cP cY cR cZ dA dB cS dC dD eA fY tc cv k m nv cm lm hlm hcm hd hdd hnv hx li hli2 ini path hli c0) [0, 1, 2, 3] (T2n_h bS bM aD aB aA) 0 3 G (T2n_z w b1 b2 bP bS bM cF cT cU cV cW cX cP cY cR cZ dA dB cS dC dD eA tc cv k m nv cm ini path) := by
  walk_at "r"
variable {w b1 b2 N Tn pos G bP bS bM aD aB aA cF cT cU cV cW cX cP cY cR cZ dA dB cS dC dD eA fY}
def T2n_go := goC (T2n_run w b1 b2 N Tn pos G bP bS bM aD aB aA cF cT cU cV cW cX cP cY cR cZ dA dB cS dC dD eA fY tc cv k m nv cm lm hlm hcm hd hdd hnv hx li hli2 ini path hli c0) (sC rfl) (by decide)
end
section
variable (fW fX fU aD aB aA fV : Addr) (hB hC hH hK hM gQ hO gN hR hS hW gR hZ iA iB jX : Tok) (tc : Tok) (cv : List Value) (k : Nat) (m : Nat) (nv : List Value) (lc : Str) (tlc : Tok) (q : Nat) (hq : nv.length = q) (hq2 : q < 500) (hlc : (lc.cps.toList == z13.cps.toList) = false) (hx : cv[k]? = some (vs z13 tc)) (li : Nat) (hli2 : li < 100) (ini path : Str) (hli : (ini.length : Int) = ((li + 1 : Nat) : Int)) (c0 : Str) 
noncomputable abbrev T2p_a : Rw := [(fW, (lsO ⟨cv⟩ 0)), (fX, (liO fW (k : Int))), (fV, (lsO ⟨nv ++ [vs lc tlc]⟩ (m))), (fU, (fO 9 [de w b1 b2 z16 hB (vs path hC), de w b1 b2 z17 hH (vs (S [47]) hK), de w b1 b2 z18 hM (vs (S [46]) gQ), de w b1 b2 z19 hO (vs z13 gN), de w b1 b2 (S [95]) hR (vs (S []) hS), de w b1 b2 z20 hW (vs ini gR), de w b1 b2 z21 hZ (rf fW), de w b1 b2 z22 iA (rf fV), de w b1 b2 z29 iB (vs c0 jX)]))]
noncomputable abbrev T2p_z : Rw := [(fW, (lsO ⟨cv⟩ 0)), (fX, (liO fW ((k : Int) + 1))), (fV, (lsO ⟨nv⟩ (m + 1))), (fU, (fO 9 [de w b1 b2 z16 hB (vs path hC), de w b1 b2 z17 hH (vs (S [47]) hK), de w b1 b2 z18 hM (vs (S [46]) gQ), de w b1 b2 z19 hO (vs z13 gN), de w b1 b2 (S [95]) hR (vs (S []) hS), de w b1 b2 z20 hW (vs ini gR), de w b1 b2 z21 hZ (rf fW), de w b1 b2 z22 iA (rf fV), de w b1 b2 z29 iB (vs z13 tc)]))]
noncomputable abbrev T2p_g : Ctx := ⟨.forLoop fl119.1 (rf fX) fl119.2.1 fl119.2.2 (eN152 fU), none, none, [(k152 fU ⟨119, 16, 119, 21⟩), (.forLoop fl914.1 (rf aD) fl914.2.1 fl914.2.2 (eN907 aB), ⟨916, 16, 916, 52⟩), (k907 aB ⟨914, 16, 914, 38⟩), (k921 aA ⟨939, 29, 939, 43⟩), callerB], none⟩
noncomputable abbrev T2p_h : Ctx := ⟨.forLoop fl119.1 (rf fX) fl119.2.1 fl119.2.2 (eN152 fU), none, none, [(k152 fU ⟨119, 16, 119, 21⟩), (.forLoop fl914.1 (rf aD) fl914.2.1 fl914.2.2 (eN907 aB), ⟨916, 16, 916, 52⟩), (k907 aB ⟨914, 16, 914, 38⟩), (k921 aA ⟨939, 29, 939, 43⟩), callerB], none⟩
noncomputable def T2p : Res :=
  (fun _ _ => simC w b1 b2 N Tn 78 (dg 36 0x133334133414133304133414144144144412) [cItNext 1 0 fX fW (cv) 0 k (vs z13 tc) hx N Tn, cLenB z13 tc 2 rfl (by omega) N (Tn + 1), cEqS z13 tc (S [46]) gQ false rfl N (Tn + 3), cNeS z13 tc z13 gN false rfl N (Tn + 3), cLenB ini gR ((li + 1 : Nat) : Int) hli (by omega) N (Tn + 3), cLLenB 2 fV (nv ++ [vs lc tlc]) (m) (q + 1 : Nat) (by simp [hq]) (by omega) N (Tn + 5), cLLast 2 fV (nv) (m) (Tn + 8) (vs lc tlc) (by omega) N (Tn + 9), cEqS lc tlc z13 gN false hlc N (Tn + 9), cLLenB 2 fV (nv ++ [vs lc tlc]) (m) (q + 1 : Nat) (by simp [hq]) (by omega) N (Tn + 9), cLPop 2 fV (nv) (m) (vs lc tlc) (by omega) N (Tn + 11)] (T2p_g fX fU aD aB aA) pos (T2p_a w b1 b2 fW fX fU fV hB hC hH hK hM gQ hO gN hR hS hW gR hZ iA iB jX cv k m nv lc tlc ini path c0) 4 G) hq2 hli2
theorem T2p_run : RunC (T2p w b1 b2 N Tn pos G fW fX fU aD aB aA fV hB hC hH hK hM gQ hO gN hR hS hW gR hZ iA iB jX tc cv k m nv lc tlc q hq hq2 hlc hx li hli2 ini path hli c0) [0, 1, 2, 3] (T2p_h fX fU aD aB aA) 0 11 G (T2p_z w b1 b2 fW fX fU fV hB hC hH hK hM gQ hO gN hR hS hW gR hZ iA iB tc cv k m nv ini path) := by
  walk_at "r"
variable {w b1 b2 N Tn pos G fW fX fU aD aB aA fV hB hC hH hK hM gQ hO gN hR hS hW gR hZ iA iB jX}
def T2p_go := goC (T2p_run w b1 b2 N Tn pos G fW fX fU aD aB aA fV hB hC hH hK hM gQ hO gN hR hS hW gR hZ iA iB jX tc cv k m nv lc tlc q hq hq2 hlc hx li hli2 ini path hli c0) (sC rfl) (by decide)
end
section
variable (bP bS bM aD aB aA cF : Addr) (cT cU cV cW cX cP cY cR cZ dA dB cS dC dD eA iC : Tok) (cv nv : List Value) (m : Nat) (hk : cv.length ≤ 30) (ini path c0 : Str) 
noncomputable abbrev Te_a : Rw := [(bP, (lsO ⟨cv⟩ 0)), (bS, (liO bP (cv.length : Int))), (cF, (lsO ⟨nv⟩ (m))), (bM, (fO 9 [de w b1 b2 z16 cT (vs path cU), de w b1 b2 z17 cV (vs (S [47]) cW), de w b1 b2 z18 cX (vs (S [46]) cP), de w b1 b2 z19 cY (vs z13 cR), de w b1 b2 (S [95]) cZ (vs (S []) dA), de w b1 b2 z20 dB (vs ini cS), de w b1 b2 z21 dC (rf bP), de w b1 b2 z22 dD (rf cF), de w b1 b2 z29 eA (vs c0 iC)]))]
noncomputable abbrev Te_z : Rw := [(cF, (lsO ⟨nv⟩ (m))), (bM, (fO 9 [de w b1 b2 z16 cT (vs path cU), de w b1 b2 z17 cV (vs (S [47]) cW), de w b1 b2 z18 cX (vs (S [46]) cP), de w b1 b2 z19 cY (vs z13 cR), de w b1 b2 (S [95]) cZ (vs (S []) dA), de w b1 b2 z20 dB (vs ini cS), de w b1 b2 z21 dC (rf bP), de w b1 b2 z22 dD (rf cF), de w b1 b2 z29 eA (vs c0 iC)]))]
noncomputable abbrev Te_g : Ctx := ⟨.forLoop fl119.1 (rf bS) fl119.2.1 fl119.2.2 (eN152 bM), none, none, [(k152 bM ⟨119, 16, 119, 21⟩), (.forLoop fl914.1 (rf aD) fl914.2.1 fl914.2.2 (eN907 aB), ⟨916, 16, 916, 52⟩), (k907 aB ⟨914, 16, 914, 38⟩), (k921 aA ⟨939, 29, 939, 43⟩), callerB], none⟩
noncomputable def Te : Res :=
  (fun _ => simC w b1 b2 N Tn 20 [2, 0, 2, 2, 2, 1, 2, 2, 6] [] (Te_g bS bM aD aB aA) pos (Te_a w b1 b2 bP bS bM cF cT cU cV cW cX cP cY cR cZ dA dB cS dC dD eA iC cv nv m ini path c0) 4 G) hk
theorem Te_run : RunF (Te w b1 b2 N Tn pos G bP bS bM aD aB aA cF cT cU cV cW cX cP cY cR cZ dA dB cS dC dD eA iC cv nv m hk ini path c0) [2, 3] (.ok .next) 2 0 G (Te_z w b1 b2 bP bM cF cT cU cV cW cX cP cY cR cZ dA dB cS dC dD eA iC nv m ini path c0) := by
  revert cv b1
  exact tw 30 (fun _ h => h) (by kernel_rfl) fun _ h => h
variable {w b1 b2 N Tn pos G bP bS bM aD aB aA cF cT cU cV cW cX cP cY cR cZ dA dB cS dC dD eA iC}
def Te_go := goF (Te_run w b1 b2 N Tn pos G bP bS bM aD aB aA cF cT cU cV cW cX cP cY cR cZ dA dB cS dC dD eA iC cv nv m hk ini path c0) (sC rfl) (by decide)
end
end
/-- parts with slashes between -/
noncomputable def gl : List (List Nat) → List Nat
  | [] => []
  | [a] => a
  | a :: b :: r => a ++ 47 :: gl (b :: r)
theorem gl_cons (a : List Nat) {r : List (List Nat)} (h : r ≠ []) : gl (a :: r) = a ++ 47 :: gl r := by
  match r, h with
  | b :: r, _ => rfl
theorem cut_eq {a b x y : List Nat} (ha : 47 ∉ a) (hb : 47 ∉ b) (h : a ++ 47 :: x = b ++ 47 :: y) : a = b ∧ x = y := by
  induction a generalizing b with
  | nil =>
    cases b with
    | nil => simpa using h
    | cons c b =>
      simp at h
      exact absurd (List.mem_cons.mpr (.inl h.1)) hb
  | cons c a ih =>
    cases b with
    | nil =>
      simp at h
      exact absurd (List.mem_cons.mpr (.inl h.1.symm)) ha
    | cons c' b =>
      simp at h
      have := ih (fun q => ha (List.mem_cons_of_mem _ q)) (fun q => hb (List.mem_cons_of_mem _ q)) h.2
      exact ⟨by rw [h.1, this.1], this.2⟩
theorem gl_inj : ∀ {ps qs : List (List Nat)}, ps ≠ [] → qs ≠ [] → (∀ p ∈ ps, 47 ∉ p) → (∀ p ∈ qs, 47 ∉ p) → gl ps = gl qs → ps = qs
  | [a], [b], _, _, _, _, h => by simpa [gl] using h
  | [a], b :: c :: r, _, _, ha, _, h => by
    exfalso
    refine ha a (.head _) ?_
    have : a = b ++ 47 :: gl (c :: r) := h
    rw [this]; simp
  | a :: c :: r, [b], _, _, _, hb, h => by
    exfalso
    refine hb b (.head _) ?_
    have : a ++ 47 :: gl (c :: r) = b := h
    rw [← this]; simp
  | a :: c :: r, b :: e :: t, _, _, ha, hb, h => by
    have := cut_eq (ha a (.head _)) (hb b (.head _)) (show a ++ 47 :: gl (c :: r) = b ++ 47 :: gl (e :: t) from h)
    rw [this.1, gl_inj (by simp) (by simp) (fun p hp => ha p (List.mem_cons_of_mem _ hp)) (fun p hp => hb p (List.mem_cons_of_mem _ hp)) this.2]
theorem join_gl : ∀ (ps : List Str), (Str.join (S [47]) ps).cps.toList = gl (ps.map fun p => p.cps.toList)
  | [] => rfl
  | [a] => rfl
  | a :: b :: r => by
    show (a ++ S [47] ++ Str.join (S [47]) (b :: r)).cps.toList = _ ++ 47 :: gl ((b :: r).map fun p => p.cps.toList)
    rw [← join_gl (b :: r)]
    show (a.cps ++ #[47] ++ (Str.join (S [47]) (b :: r)).cps).toList = _
    simp
theorem split_eq (ps : List (List Nat)) (hne : ps ≠ []) (hf : ∀ p ∈ ps, 47 ∉ p) :
    Builtin.Str.partsBetween (S (gl ps)) (Builtin.Str.occurrences (S (gl ps)) (S [47]) 0 (S (gl ps)).length ((S (gl ps)).length + 1)) (S [47]).length = ps.map S := by
  obtain ⟨f, hG, hn⟩ := StrLaws.occ_tight (S (gl ps)) (S [47]) (Nat.le_refl 1)
  have hfree := StrLaws.parts_free (S (gl ps)) 47 _ 0 f hG hn
  have hg := StrLaws.glued_between_self (S (gl ps)) (S [47]) ((S (gl ps)).length + 1)
  rw [StrLaws.partsBetween_eq] at hg ⊢
  obtain ⟨p, r, hpr⟩ := StrLaws.partsFrom_ne (S (gl ps)) (S [47]).length 0 (Builtin.Str.occurrences (S (gl ps)) (S [47]) 0 (S (gl ps)).length ((S (gl ps)).length + 1))
  rw [StrLaws.glued_eq_join] at hg
  have h2 : gl ((StrLaws.partsFrom (S (gl ps)) (S [47]).length 0 (Builtin.Str.occurrences (S (gl ps)) (S [47]) 0 (S (gl ps)).length ((S (gl ps)).length + 1))).map fun p => p.cps.toList) = gl ps := by
    rw [← join_gl, hg]
  have h3 := gl_inj (by rw [hpr]; simp) hne (by
    intro q hq
    obtain ⟨x, hx, rfl⟩ := List.mem_map.mp hq
    exact hfree x hx) hf h2
  have h4 := congrArg (List.map S) h3
  rw [List.map_map] at h4
  refine Eq.trans ?_ h4
  exact (List.map_id _).symm
section
variable {α : Type} (lt : α → α → Bool)
structure LtOk : Prop where
  irr : ∀ a, lt a a = false
  tr : ∀ a b c, lt b a = false → lt c b = false → lt c a = false
  as : ∀ a b, lt a b = true → lt b a = false
def HeapP (hs : List α) : Prop := ∀ i a b, 0 < i → hs[(i - 1) / 2]? = some a → hs[i]? = some b → lt b a = false
structure SdI (hs : List α) (p : Nat) (x : α) : Prop where
  A : ∀ i a b, 0 < i → i ≠ p → hs[(i - 1) / 2]? = some a → hs[i]? = some b → lt b a = false
  B : ∀ i a b, 0 < i → (i - 1) / 2 = p → 0 < p → hs[(p - 1) / 2]? = some a → hs[i]? = some b → lt b a = false
  C : ∀ i b, 0 < i → (i - 1) / 2 = p → hs[i]? = some b → lt b x = false
variable {lt}
theorem g_at {hs : List α} {p i : Nat} {y b : α} (h : (hs.set p y)[i]? = some b) : i = p ∧ b = y ∨ i ≠ p ∧ hs[i]? = some b := by
  by_cases e : p = i
  · subst e
    rw [List.getElem?_set_self'] at h
    cases z : hs[p]? with
    | none => rw [z] at h; cases h
    | some v => rw [z] at h; cases h; exact .inl ⟨rfl, rfl⟩
  · exact .inr ⟨Ne.symm e, List.getElem?_set_ne e ▸ h⟩
theorem half {i : Nat} (h : 0 < i) : (i - 1) / 2 < i := by omega
theorem g_lt {hs : List α} {i : Nat} {b : α} (h : hs[i]? = some b) : i < hs.length := (List.getElem?_eq_some_iff.mp h).1
theorem SdI.step (L : LtOk lt) {hs : List α} {p : Nat} {x y : α} (I : SdI lt hs p x) (hp : 0 < p) (hl : p < hs.length) (hy : hs[(p - 1) / 2]? = some y) (hxy : lt x y = true) : SdI lt (hs.set p y) ((p - 1) / 2) x := by
  have L3 := L.as x y hxy
  constructor
  · intro i a b h0 h1 h2 h3
    rcases g_at h3 with ⟨e, rfl⟩ | ⟨n, k⟩
    · rcases g_at h2 with ⟨e', rfl⟩ | ⟨n', h2⟩
      · exact L.irr _
      · rw [e, hy] at h2
        cases h2
        exact L.irr _
    · rcases g_at h2 with ⟨e', rfl⟩ | ⟨n', h2⟩
      · exact I.B i _ b h0 e' hp hy k
      · exact I.A i a b h0 n h2 k
  · intro i a b h0 h1 h2 h3 h4
    rcases g_at h3 with ⟨e, _⟩ | ⟨_, h3⟩
    · exact absurd e (Nat.ne_of_lt (Nat.lt_trans (half h2) (half hp)))
    have e1 := I.A _ a y h2 (Nat.ne_of_lt (half hp)) h3 hy
    rcases g_at h4 with ⟨e, rfl⟩ | ⟨n, h4⟩
    · exact e1
    · exact L.tr a y b e1 (I.A i y b h0 n (h1 ▸ hy) h4)
  · intro i b h0 h1 h2
    rcases g_at h2 with ⟨e, rfl⟩ | ⟨n, h2⟩
    · exact L3
    · exact L.tr x y b L3 (I.A i y b h0 n (h1 ▸ hy) h2)
theorem SdI.fin0 {hs : List α} {x : α} (I : SdI lt hs 0 x) : HeapP lt (hs.set 0 x) := by
  intro i a b h0 h1 h2
  rcases g_at h2 with ⟨e, _⟩ | ⟨n, k⟩
  · exact absurd e (Nat.ne_of_gt h0)
  rcases g_at h1 with ⟨e, rfl⟩ | ⟨_, h1⟩
  · exact I.C i b h0 e k
  · exact I.A i a b h0 n h1 k
theorem SdI.fin {hs : List α} {p : Nat} {x y : α} (I : SdI lt hs p x) (hp : 0 < p) (hy : hs[(p - 1) / 2]? = some y) (hxy : lt x y = false) : HeapP lt (hs.set p x) := by
  intro i a b h0 h1 h2
  rcases g_at h2 with ⟨e, rfl⟩ | ⟨n, k⟩
  · rcases g_at h1 with ⟨e', _⟩ | ⟨_, h1⟩
    · exact absurd (e'.trans e.symm) (Nat.ne_of_lt (half h0))
    · rw [e, hy] at h1
      cases h1
      exact hxy
  · rcases g_at h1 with ⟨e, rfl⟩ | ⟨_, h1⟩
    · exact I.C i b h0 e k
    · exact I.A i a b h0 n h1 k
theorem HeapP.push {hs : List α} {x : α} (H : HeapP lt hs) : SdI lt (hs ++ [x]) hs.length x := by
  have k : ∀ {i : Nat} {b : α}, (hs ++ [x])[i]? = some b → i < hs.length + 1 := fun h => by have := g_lt h; rwa [List.length_append] at this
  have k2 : ∀ {i : Nat} {b : α}, 0 < i → (i - 1) / 2 = hs.length → (hs ++ [x])[i]? = some b → False := fun h0 e h => absurd (k h) (Nat.not_lt_of_le (Nat.succ_le_of_lt (e ▸ half h0)))
  constructor
  · intro i a b h0 h1 h2 h3
    have := Nat.lt_of_le_of_ne (Nat.le_of_lt_succ (k h3)) h1
    rw [List.getElem?_append_left this] at h3
    rw [List.getElem?_append_left (Nat.lt_trans (half h0) this)] at h2
    exact H i a b h0 h2 h3
  · exact fun i a b h0 h1 _ _ h4 => (k2 h0 h1 h4).elim
  · exact fun i b h0 h1 h2 => (k2 h0 h1 h2).elim
structure SuI (lt : α → α → Bool) (hs : List α) (p : Nat) : Prop where
  A : ∀ i a b, 0 < i → i ≠ p → (i - 1) / 2 ≠ p → hs[(i - 1) / 2]? = some a → hs[i]? = some b → lt b a = false
  B : ∀ i a b, 0 < i → (i - 1) / 2 = p → 0 < p → hs[(p - 1) / 2]? = some a → hs[i]? = some b → lt b a = false
theorem HeapP.su {hs : List α} {x : α} (H : HeapP lt hs) : SuI lt (hs.set 0 x) 0 := by
  constructor
  · intro i a b h0 h1 h2 h3 h4
    rcases g_at h3 with ⟨e, _⟩ | ⟨_, h3⟩
    · exact absurd e h2
    rcases g_at h4 with ⟨e, _⟩ | ⟨_, h4⟩
    · exact absurd e h1
    exact H i a b h0 h3 h4
  · exact fun i a b _ _ h => absurd h (Nat.lt_irrefl 0)
/-- the smaller child c of p moves up -/
theorem SuI.step (L : LtOk lt) {hs : List α} {p c : Nat} {y : α} (I : SuI lt hs p) (hc : c = 2 * p + 1 ∨ c = 2 * p + 2) (hp : p < hs.length) (hy : hs[c]? = some y)
    (hm : ∀ i b, 0 < i → (i - 1) / 2 = p → hs[i]? = some b → lt b y = false) : SuI lt (hs.set p y) c := by
  have ec : (c - 1) / 2 = p := by omega
  constructor
  · intro i a b h0 h1 h2 h3 h4
    rcases g_at h4 with ⟨rfl, rfl⟩ | ⟨n, k⟩
    · rcases g_at h3 with ⟨e', _⟩ | ⟨_, h3⟩
      · exact absurd e' (Nat.ne_of_lt (half h0))
      · exact I.B c a b (by omega) ec h0 h3 hy
    · rcases g_at h3 with ⟨e, rfl⟩ | ⟨n', h3⟩
      · exact hm i b h0 e k
      · exact I.A i a b h0 n n' h3 k
  · intro i a b h0 h1 h2 h3 h4
    rcases g_at h3 with ⟨_, rfl⟩ | ⟨n, _⟩
    · have lt := ec ▸ half h2
      rcases g_at h4 with ⟨e, _⟩ | ⟨n, h4⟩
      · exact absurd e (Nat.ne_of_gt (Nat.lt_trans lt (h1 ▸ half h0)))
      · exact I.A i _ b h0 n (h1 ▸ Nat.ne_of_gt lt) (h1 ▸ hy) h4
    · exact absurd ec n
theorem SuI.fin {hs : List α} {p : Nat} {x : α} (I : SuI lt hs p) (hp : hs.length ≤ 2 * p + 1) : SdI lt (hs.set p x) p x := by
  have k : ∀ {i : Nat} {b : α}, 0 < i → (i - 1) / 2 = p → (hs.set p x)[i]? = some b → False := fun h0 e h => by have := g_lt h; rw [List.length_set] at this; omega
  constructor
  · intro i a b h0 h1 h2 h3
    rcases g_at h2 with ⟨e, _⟩ | ⟨n, h2⟩
    · exact (k h0 e h3).elim
    rcases g_at h3 with ⟨e, _⟩ | ⟨_, h3⟩
    · exact absurd e h1
    exact I.A i a b h0 h1 n h2 h3
  · exact fun i a b h0 h1 _ _ h4 => (k h0 h1 h4).elim
  · exact fun i b h0 h1 h2 => (k h0 h1 h2).elim
theorem HeapP.root (L : LtOk lt) {hs : List α} {x : α} (H : HeapP lt hs) (h0 : hs[0]? = some x) : ∀ (n i : Nat), i ≤ n → ∀ b, hs[i]? = some b → lt b x = false
  | 0, i, hi, b, hb => by
    have : i = 0 := by omega
    subst this
    rw [h0] at hb
    cases hb
    exact L.irr x
  | n + 1, i, hi, b, hb => by
    rcases Nat.eq_zero_or_pos i with e | e
    · subst e
      rw [h0] at hb
      cases hb
      exact L.irr x
    · have hl : (i - 1) / 2 < hs.length := by
        have := (List.getElem?_eq_some_iff.mp hb).1
        omega
      exact L.tr _ _ _ (HeapP.root L H h0 n ((i - 1) / 2) (by omega) _ (List.getElem?_eq_getElem hl)) (H i _ b e (List.getElem?_eq_getElem hl) hb)
theorem set_swap {hs : List α} {p c : Nat} {x y : α} (hp : p < hs.length) (hc : hs[c]? = some y) (hpc : p ≠ c) : ((hs.set p y).set c x).Perm (hs.set p x) := by
  obtain ⟨hl, e⟩ := List.getElem?_eq_some_iff.mp hc
  have h1 : p < (hs.set p x).length := by rw [List.length_set]; exact hp
  have h2 : c < (hs.set p x).length := by rw [List.length_set]; exact hl
  have := List.set_set_perm h1 h2
  rw [List.getElem_set_ne hpc, List.getElem_set_self, List.set_set, e] at this
  exact this
end
structure Tp where
  a : Addr
  r : Int
  tr : Tok
  s : Str
  ts : Tok
noncomputable abbrev Tp.v (t : Tp) : Value := .ref t.a
noncomputable abbrev Tp.o (t : Tp) : Addr × Obj := (t.a, tupO ⟨[Value.int t.r t.tr, Value.str t.s t.ts]⟩ 0)
noncomputable abbrev Tp.k (t : Tp) : Int × Str := (t.r, t.s)
noncomputable abbrev tpF (l : List Tp) : Rw := l.map Tp.o
noncomputable abbrev tpV (l : List Tp) : List Value := l.map Tp.v
theorem tpF_snoc (l : List Tp) (t : Tp) (F : Rw) : ([t.o] ++ (tpF l ++ F)).Perm (tpF (l ++ [t]) ++ F) := by
  show ([t.o] ++ (l.map Tp.o ++ F)).Perm ((l ++ [t]).map Tp.o ++ F)
  rw [List.map_append, List.append_assoc]
  show (t.o :: (l.map Tp.o ++ F)).Perm (l.map Tp.o ++ t.o :: F)
  exact List.perm_middle.symm
theorem tpV_snoc (l : List Tp) (t : Tp) : tpV l ++ [t.v] = tpV (l ++ [t]) := by
  show l.map Tp.v ++ [t.v] = (l ++ [t]).map Tp.v
  rw [List.map_append]; rfl
noncomputable abbrev tlt (t u : Tp) : Bool := ltP t.r u.r t.s u.s
theorem tlt_ok : LtOk tlt := by
  constructor
  · intro a
    simp [tlt, ltP]
  · intro a b c h1 h2
    simp only [tlt, ltP] at h1 h2 ⊢
    by_cases e1 : b.r = a.r
    · by_cases e2 : c.r = b.r
      · have e3 : c.r = a.r := e2.trans e1
        simp only [e1, e2, beq_self_eq_true, if_true] at h1 h2 ⊢
        by_cases f1 : b.s = a.s
        · rw [f1] at h2; exact h2
        · by_cases f2 : c.s = b.s
          · rw [if_neg f1] at h1; rw [f2, if_neg f1]; exact h1
          · rw [if_neg f1] at h1; rw [if_neg f2] at h2
            have g1 := List.not_lt.mp (of_decide_eq_false h1)
            have g2 := List.not_lt.mp (of_decide_eq_false h2)
            have g3 := List.not_lt.mpr (List.le_trans g1 g2)
            split
            · rfl
            · exact decide_eq_false g3
      · have e3 : c.r ≠ a.r := fun q => e2 (q.trans e1.symm)
        have n2 : (c.r == b.r) = false := beq_false_of_ne e2
        have n3 : (c.r == a.r) = false := beq_false_of_ne e3
        rw [n2] at h2; rw [n3]
        rw [← e1]; exact h2
    · have n1 : (b.r == a.r) = false := beq_false_of_ne e1
      rw [n1] at h1
      have g1 : ¬ b.r < a.r := of_decide_eq_false h1
      by_cases e2 : c.r = b.r
      · rw [e2, n1]; exact decide_eq_false g1
      · have n2 : (c.r == b.r) = false := beq_false_of_ne e2
        rw [n2] at h2
        have g2 : ¬ c.r < b.r := of_decide_eq_false h2
        have n3 : (c.r == a.r) = false := beq_false_of_ne (by omega)
        rw [n3]; exact decide_eq_false (by omega)
  · intro a b h1
    simp only [tlt, ltP] at h1 ⊢
    by_cases e1 : a.r = b.r
    · simp only [e1, beq_self_eq_true, if_true] at h1 ⊢
      by_cases f1 : a.s = b.s
      · rw [if_pos f1] at h1; cases h1
      · rw [if_neg f1] at h1
        rw [if_neg (fun q => f1 q.symm)]
        exact decide_eq_false (List.lt_asymm (of_decide_eq_true h1))
    · have n1 : (a.r == b.r) = false := beq_false_of_ne e1
      have n2 : (b.r == a.r) = false := beq_false_of_ne (fun q => e1 q.symm)
      rw [n1] at h1; rw [n2]
      have : a.r < b.r := of_decide_eq_true h1
      exact decide_eq_false (by omega)
section
variable {w : World} {b1 b2 : Bool} {h₀ h : Heap} {U : List Addr} {F F' : Rw} {N : Nat} {l : Rw}
theorem At.take2 (A : At w b1 b2 h₀ U F h N l) {x y : Addr × Obj} (hx : x ∈ F) (hy : y ∈ F) (ne : x.1 ≠ y.1) : ∃ F', F.Perm (x :: y :: F') ∧ At w b1 b2 h₀ U F' h N (l ++ [x, y]) := by
  obtain ⟨F1, p1, A1⟩ := A.take hx
  have hy1 : y ∈ F1 := by
    rcases List.mem_cons.mp (p1.mem_iff.mp hy) with q | q
    · exact absurd (congrArg (·.1) q.symm) ne
    · exact q
  obtain ⟨F2, p2, A2⟩ := A1.take hy1
  refine ⟨F2, p1.trans (p2.cons x), ?_⟩
  rw [List.append_assoc] at A2
  exact A2
theorem At.give2 {x y : Addr × Obj} (A : At w b1 b2 h₀ U F' h N (l ++ [x, y])) (p : F.Perm (x :: y :: F')) : At w b1 b2 h₀ U F h N l := (A.freeze).permF p.symm
end
structure Hol (F : Rw) (hs0 hs : List Tp) (p : Nat) (t : Tp) : Prop where
  perm : (hs.set p t).Perm hs0
  nd : (hs0.map (·.a)).Nodup
  mem : ∀ u ∈ hs0, u.o ∈ F
  lt : p < hs.length
theorem Hol.t {F : Rw} {hs0 hs : List Tp} {p : Nat} {t : Tp} (H : Hol F hs0 hs p t) : t.o ∈ F := by
  refine H.mem t (H.perm.mem_iff.mp ?_)
  exact List.mem_of_getElem? (List.getElem?_set_self (by exact H.lt))
theorem Hol.y {F : Rw} {hs0 hs : List Tp} {p i : Nat} {t y : Tp} (H : Hol F hs0 hs p t) (hi : hs[i]? = some y) (hp : i ≠ p) : y.o ∈ F ∧ t.a ≠ y.a := by
  have e : (hs.set p t)[i]? = some y := by rw [List.getElem?_set_ne (Ne.symm hp)]; exact hi
  refine ⟨H.mem y (H.perm.mem_iff.mp (List.mem_of_getElem? e)), fun q => ?_⟩
  have nd : ((hs.set p t).map (·.a)).Nodup := (H.perm.map (·.a)).nodup_iff.mpr H.nd
  have e1 : ((hs.set p t).map (·.a))[i]? = some y.a := by rw [List.getElem?_map, e]; rfl
  have e2 : ((hs.set p t).map (·.a))[p]? = some t.a := by rw [List.getElem?_map, List.getElem?_set_self H.lt]; rfl
  exact hp ((List.getElem?_inj (List.getElem?_eq_some_iff.mp e1).1 nd).mp (e1.trans (by rw [e2, q])))
theorem Hol.yy {F : Rw} {hs0 hs : List Tp} {p i j : Nat} {t y z : Tp} (H : Hol F hs0 hs p t) (hi : hs[i]? = some y) (hp : i ≠ p) (hj : hs[j]? = some z) (hq : j ≠ p) (ij : i ≠ j) : y.a ≠ z.a := by
  intro q
  have e : (hs.set p t)[i]? = some y := by rw [List.getElem?_set_ne (Ne.symm hp)]; exact hi
  have e' : (hs.set p t)[j]? = some z := by rw [List.getElem?_set_ne (Ne.symm hq)]; exact hj
  have nd : ((hs.set p t).map (·.a)).Nodup := (H.perm.map (·.a)).nodup_iff.mpr H.nd
  have e1 : ((hs.set p t).map (·.a))[i]? = some y.a := by rw [List.getElem?_map, e]; rfl
  have e2 : ((hs.set p t).map (·.a))[j]? = some z.a := by rw [List.getElem?_map, e']; rfl
  exact ij ((List.getElem?_inj (List.getElem?_eq_some_iff.mp e1).1 nd).mp (e1.trans (by rw [e2, q])))
theorem Hol.step {F : Rw} {hs0 hs : List Tp} {p i : Nat} {t y : Tp} (H : Hol F hs0 hs p t) (hi : hs[i]? = some y) (hp : i ≠ p) : Hol F hs0 (hs.set p y) i t :=
  ⟨(set_swap H.lt hi (Ne.symm hp)).trans H.perm, H.nd, H.mem, by rw [List.length_set]; exact (List.getElem?_eq_some_iff.mp hi).1⟩
theorem tpV_set (hs : List Tp) (p : Nat) (y : Tp) : (tpV hs).set p y.v = tpV (hs.set p y) := (List.map_set ..).symm
theorem tpV_get {hs : List Tp} {i : Nat} {y : Tp} (h : hs[i]? = some y) : (tpV hs)[i]? = some y.v := by
  show (hs.map Tp.v)[i]? = _
  rw [List.getElem?_map, h]; rfl
theorem tpV_len (hs : List Tp) : (tpV hs).length = hs.length := List.length_map ..
noncomputable def stp (ns : List (List Nat)) (c : List Nat) : List (List Nat) := if c = [] ∨ c = [46] then ns else if c = [46, 46] then ns.dropLast else ns ++ [c]
noncomputable abbrev cdS (x : Str × Tok) : List Nat := x.1.cps.toList
noncomputable abbrev nrF8 (w : World) (b1 b2 : Bool) (k1 k2 k3 k4 k5 k6 k7 k8 k9 k10 k11 k12 k13 k14 : Tok) (path ini : Str) (cl nw : Addr) : Obj := (fO 8 [de w b1 b2 z16 k1 (Value.str path k2), de w b1 b2 z17 k3 (Value.str (S [47]) k4), de w b1 b2 z18 k5 (Value.str (S [46]) k6), de w b1 b2 z19 k7 (Value.str z13 k8), de w b1 b2 (S [95]) k9 (Value.str (S []) k10), de w b1 b2 z20 k11 (Value.str ini k12), de w b1 b2 z21 k13 (Value.ref cl), de w b1 b2 z22 k14 (Value.ref nw)])
noncomputable abbrev nrF9 (w : World) (b1 b2 : Bool) (k1 k2 k3 k4 k5 k6 k7 k8 k9 k10 k11 k12 k13 k14 k15 : Tok) (path ini : Str) (cl nw : Addr) (c0 : Str) (tc : Tok) : Obj := (fO 9 [de w b1 b2 z16 k1 (Value.str path k2), de w b1 b2 z17 k3 (Value.str (S [47]) k4), de w b1 b2 z18 k5 (Value.str (S [46]) k6), de w b1 b2 z19 k7 (Value.str z13 k8), de w b1 b2 (S [95]) k9 (Value.str (S []) k10), de w b1 b2 z20 k11 (Value.str ini k12), de w b1 b2 z21 k13 (Value.ref cl), de w b1 b2 z22 k14 (Value.ref nw), de w b1 b2 z29 k15 (Value.str c0 tc)])
noncomputable abbrev nrC (ci fn ri fl fr : Addr) : Ctx := ⟨.forLoop fl119.1 (Value.ref ci) fl119.2.1 fl119.2.2 (eN152 fn), none, none, [(k152 fn ⟨119, 16, 119, 21⟩), (.forLoop fl914.1 (Value.ref ri) fl914.2.1 fl914.2.2 (eN907 fl), ⟨916, 16, 916, 52⟩), (k907 fl ⟨914, 16, 914, 38⟩), (k921 fr ⟨939, 29, 939, 43⟩), callerB], none⟩
theorem str_ne {a b : Str} (h : a.cps.toList ≠ b.cps.toList) : (a.cps.toList == b.cps.toList) = false := beq_false_of_ne h
theorem S_eta (x : Str) : x = S x.cps.toList := rfl
theorem sv_get (done todo : List (Str × Tok)) (x : Str × Tok) : (strValues (done ++ x :: todo))[done.length]? = some (Value.str x.1 x.2) := by
  unfold strValues
  rw [List.getElem?_map, List.getElem?_append_right (Nat.le_refl _), Nat.sub_self]; rfl
theorem sv_len (l : List (Str × Tok)) : (strValues l).length = l.length := List.length_map ..
theorem sv_snoc (l : List (Str × Tok)) (x : Str × Tok) : strValues l ++ [Value.str x.1 x.2] = strValues (l ++ [x]) := by
  unfold strValues; rw [List.map_append]; rfl
section
variable {w : World} {b1 b2 : Bool}
theorem norm_loop2 (cl ci fn nw ri fl fr : Addr) (k1 k2 k3 k4 k5 k6 k7 k8 k9 k10 k11 k12 k13 k14 k15 : Tok) (ini path : Str) (li : Nat) (hli2 : li < 100) (hli : (ini.length : Int) = ((li + 1 : Nat) : Int)) (todo : List (Str × Tok)) :
    ∀ (done nl : List (Str × Tok)) (N m : Nat) (tc : Tok) (c0 : Str) (Tn : Nat), (done ++ todo).length ≤ 30 → (∀ c ∈ todo, c.1.length ≤ 800) → (∀ c ∈ nl, cdS c ≠ [46, 46]) → nl.length ≤ done.length →
    ∃ N' T' m' tc' c0' nl', nl'.map cdS = (todo.map cdS).foldl stp (nl.map cdS) ∧ N ≤ N' ∧ Tn ≤ T' ∧ ∀ {h₀ : Heap} {U : List Addr} {d : Drawn} {os : OsState} {R : Result → Shared → Prop} {G : List GenState} {F : Rw} (h : Heap) (pos : Pos),
      At w b1 b2 h₀ U F h N [(cl, lsO ⟨strValues (done ++ todo)⟩ 0), (ci, liO cl (done.length : Int)), (nw, lsO ⟨strValues nl⟩ m), (fn, nrF9 w b1 b2 k1 k2 k3 k4 k5 k6 k7 k8 k9 k10 k11 k12 k13 k14 k15 path ini cl nw c0 tc)] →
      (∀ h', At w b1 b2 h₀ U F h' N' [(nw, lsO ⟨strValues nl'⟩ m'), (fn, nrF9 w b1 b2 k1 k2 k3 k4 k5 k6 k7 k8 k9 k10 k11 k12 k13 k14 k15 path ini cl nw c0' tc')] → R (.ok .next) ⟨h', ⟨G⟩, d, T', os⟩) →
      wpCode (mdl w) (nrC ci fn ri fl fr) R pos ⟨h, ⟨G⟩, d, Tn, os⟩ := by
  induction todo with
  | nil =>
    intro done nl N m tc c0 Tn hl hls hnd hnl
    refine ⟨N + 2 + 0, Tn, m, tc, c0, nl, rfl, by omega, by omega, fun {h₀ U d os R G F} h pos A kk => ?_⟩
    rw [List.append_nil] at A hl
    rw [show (done.length : Int) = ((strValues done).length : Int) from by rw [sv_len]] at A
    exact Te_go (pos := pos) (strValues done) (strValues nl) m (by rw [sv_len]; exact hl) ini path c0 A.ok A.rep fun h' D => kk h' (A.next D)
  | cons x todo ih =>
    intro done nl N m tc c0 Tn hl hls hnd hnl
    have e : done ++ x :: todo = (done ++ [x]) ++ todo := by rw [List.append_assoc]; rfl
    have el : ((done.length : Int) + 1) = ((done ++ [x]).length : Int) := by simp
    have hl2 : nl.length < 30 := by rw [List.length_append, List.length_cons] at hl; omega
    have hlx : x.1.length ≤ 800 := hls x (.head _)
    have hg := sv_get done todo x
    by_cases h1 : cdS x = []
    · obtain ⟨N', T', m', tc', c0', nl', q1, q2, q3, q4⟩ := ih (done ++ [x]) nl N m x.2 x.1 (Tn + 3) (by rw [← e]; exact hl) (fun c hc => hls c (List.mem_cons_of_mem _ hc)) hnd (by rw [List.length_append]; omega)
      refine ⟨N', T', m', tc', c0', nl', by rw [q1]; simp [stp, h1], q2, by omega, fun {h₀ U d os R G F} h pos A kk => ?_⟩
      have ex : x.1 = S [] := by rw [S_eta x.1]; exact congrArg S h1
      rw [ex] at hg
      refine T2e_go (pos := pos) x.2 (strValues (done ++ x :: todo)) done.length m (strValues nl) hg li hli2 ini path hli c0 A.ok A.rep fun h' pp D => ?_
      have A1 : At w b1 b2 h₀ U F h' (N + 0 + 0) [(cl, lsO ⟨strValues (done ++ x :: todo)⟩ 0), (ci, liO cl ((done.length : Int) + 1)), (nw, lsO ⟨strValues nl⟩ (m)), (fn, nrF9 w b1 b2 k1 k2 k3 k4 k5 k6 k7 k8 k9 k10 k11 k12 k13 k14 k15 path ini cl nw (S []) x.2)] := A.next D
      first | rw [el, e, ← ex] at A1 | rw [el, e, ← (show x.1 = z13 from ex)] at A1
      exact q4 h' pp A1 kk
    by_cases h2 : cdS x = [46]
    · obtain ⟨N', T', m', tc', c0', nl', q1, q2, q3, q4⟩ := ih (done ++ [x]) nl N m x.2 x.1 (Tn + 3) (by rw [← e]; exact hl) (fun c hc => hls c (List.mem_cons_of_mem _ hc)) hnd (by rw [List.length_append]; omega)
      refine ⟨N', T', m', tc', c0', nl', by rw [q1]; simp [stp, h2], q2, by omega, fun {h₀ U d os R G F} h pos A kk => ?_⟩
      have ex : x.1 = S [46] := by rw [S_eta x.1]; exact congrArg S h2
      rw [ex] at hg
      refine T2d_go (pos := pos) x.2 (strValues (done ++ x :: todo)) done.length m (strValues nl) hg li hli2 ini path hli c0 A.ok A.rep fun h' pp D => ?_
      have A1 : At w b1 b2 h₀ U F h' (N + 0 + 0) [(cl, lsO ⟨strValues (done ++ x :: todo)⟩ 0), (ci, liO cl ((done.length : Int) + 1)), (nw, lsO ⟨strValues nl⟩ (m)), (fn, nrF9 w b1 b2 k1 k2 k3 k4 k5 k6 k7 k8 k9 k10 k11 k12 k13 k14 k15 path ini cl nw (S [46]) x.2)] := A.next D
      first | rw [el, e, ← ex] at A1 | rw [el, e, ← (show x.1 = z13 from ex)] at A1
      exact q4 h' pp A1 kk
    by_cases h3 : cdS x = [46, 46]
    · have ex : x.1 = S [46, 46] := by rw [S_eta x.1]; exact congrArg S h3
      rcases List.eq_nil_or_concat nl with rfl | ⟨ni, la, rfl⟩
      · obtain ⟨N', T', m', tc', c0', nl', q1, q2, q3, q4⟩ := ih (done ++ [x]) [] N m x.2 x.1 (Tn + 9) (by rw [← e]; exact hl) (fun c hc => hls c (List.mem_cons_of_mem _ hc)) hnd (Nat.zero_le _)
        refine ⟨N', T', m', tc', c0', nl', by rw [q1]; simp [stp, h3], q2, by omega, fun {h₀ U d os R G F} h pos A kk => ?_⟩
        rw [ex] at hg
        refine T2x_go (pos := pos) x.2 (strValues (done ++ x :: todo)) done.length m hg li hli2 ini path hli c0 A.ok A.rep fun h' pp D => ?_
        have A1 : At w b1 b2 h₀ U F h' (N + 0 + 0) [(cl, lsO ⟨strValues (done ++ x :: todo)⟩ 0), (ci, liO cl ((done.length : Int) + 1)), (nw, lsO ⟨[]⟩ (m)), (fn, nrF9 w b1 b2 k1 k2 k3 k4 k5 k6 k7 k8 k9 k10 k11 k12 k13 k14 k15 path ini cl nw z13 x.2)] := A.next D
        first | rw [el, e, ← ex] at A1 | rw [el, e, ← (show x.1 = z13 from ex)] at A1
        exact q4 h' pp A1 kk
      · rw [List.concat_eq_append] at *
        have hla : cdS la ≠ [46, 46] := hnd la (by simp)
        obtain ⟨N', T', m', tc', c0', nl', q1, q2, q3, q4⟩ := ih (done ++ [x]) ni N (m + 1) x.2 x.1 (Tn + 11) (by rw [← e]; exact hl) (fun c hc => hls c (List.mem_cons_of_mem _ hc)) (fun c hc => hnd c (List.mem_append_left _ hc)) (by rw [List.length_append] at hnl ⊢; simp at hnl ⊢; omega)
        refine ⟨N', T', m', tc', c0', nl', by rw [q1]; simp [stp, h3], q2, by omega, fun {h₀ U d os R G F} h pos A kk => ?_⟩
        rw [ex] at hg
        rw [← sv_snoc] at A
        refine T2p_go (pos := pos) x.2 (strValues (done ++ x :: todo)) done.length m (strValues ni) la.1 la.2 ni.length (sv_len ni) (by rw [List.length_append] at hl2; omega) (str_ne hla) hg li hli2 ini path hli c0 A.ok A.rep fun h' pp D => ?_
        have A1 : At w b1 b2 h₀ U F h' (N + 0 + 0) [(cl, lsO ⟨strValues (done ++ x :: todo)⟩ 0), (ci, liO cl ((done.length : Int) + 1)), (nw, lsO ⟨strValues ni⟩ (m + 1)), (fn, nrF9 w b1 b2 k1 k2 k3 k4 k5 k6 k7 k8 k9 k10 k11 k12 k13 k14 k15 path ini cl nw z13 x.2)] := A.next D
        first | rw [el, e, ← ex] at A1 | rw [el, e, ← (show x.1 = z13 from ex)] at A1
        exact q4 h' pp A1 kk
    · obtain ⟨N', T', m', tc', c0', nl', q1, q2, q3, q4⟩ := ih (done ++ [x]) (nl ++ [x]) N (m + 1) x.2 x.1 (Tn + 3) (by rw [← e]; exact hl) (fun c hc => hls c (List.mem_cons_of_mem _ hc)) (fun c hc => by
        rcases List.mem_append.mp hc with q | q
        · exact hnd c q
        · rw [List.mem_singleton.mp q]; exact h3) (by rw [List.length_append, List.length_append]; simp; omega)
      refine ⟨N', T', m', tc', c0', nl', by rw [q1]; simp [stp, h1, h2, h3], q2, by omega, fun {h₀ U d os R G F} h pos A kk => ?_⟩
      have hx0 : 0 < x.1.length := by
        rcases Nat.eq_zero_or_pos x.1.length with q | q
        · exact absurd (List.length_eq_zero_iff.mp (show (cdS x).length = 0 from q)) h1
        · exact q
      refine T2n_go (pos := pos) x.2 (strValues (done ++ x :: todo)) done.length m (strValues nl) x.1 (x.1.length - 1) (by omega) (by omega) (str_ne h2) (by simpa using h3) (by rw [sv_len]; omega) hg li hli2 ini path hli c0 A.ok A.rep fun h' pp D => ?_
      have A1 : At w b1 b2 h₀ U F h' (N + 0 + 0) [(cl, lsO ⟨strValues (done ++ x :: todo)⟩ 0), (ci, liO cl ((done.length : Int) + 1)), (nw, lsO ⟨strValues nl ++ [Value.str x.1 x.2]⟩ (m + 1)), (fn, nrF9 w b1 b2 k1 k2 k3 k4 k5 k6 k7 k8 k9 k10 k11 k12 k13 k14 k15 path ini cl nw (x.1) x.2)] := A.next D
      rw [el, e, sv_snoc] at A1
      exact q4 h' pp A1 kk
theorem norm_loop1 (cl ci fn nw ri fl fr : Addr) (k1 k2 k3 k4 k5 k6 k7 k8 k9 k10 k11 k12 k13 k14 : Tok) (ini path : Str) (li : Nat) (hli2 : li < 100) (hli : (ini.length : Int) = ((li + 1 : Nat) : Int)) (x : Str × Tok) (todo : List (Str × Tok))
    (N m Tn : Nat) (hl : (x :: todo).length ≤ 30) (hls : ∀ c ∈ x :: todo, c.1.length ≤ 800) :
    ∃ N' T' m' k15' tc' c0' nl', nl'.map cdS = ((x :: todo).map cdS).foldl stp [] ∧ N ≤ N' ∧ Tn ≤ T' ∧ ∀ {h₀ : Heap} {U : List Addr} {d : Drawn} {os : OsState} {R : Result → Shared → Prop} {G : List GenState} {F : Rw} (h : Heap) (pos : Pos),
      At w b1 b2 h₀ U F h N [(cl, lsO ⟨strValues (x :: todo)⟩ 0), (ci, liO cl ((0 : Nat) : Int)), (nw, lsO ⟨strValues []⟩ m), (fn, nrF8 w b1 b2 k1 k2 k3 k4 k5 k6 k7 k8 k9 k10 k11 k12 k13 k14 path ini cl nw)] →
      (∀ h', At w b1 b2 h₀ U F h' N' [(nw, lsO ⟨strValues nl'⟩ m'), (fn, nrF9 w b1 b2 k1 k2 k3 k4 k5 k6 k7 k8 k9 k10 k11 k12 k13 k14 k15' path ini cl nw c0' tc')] → R (.ok .next) ⟨h', ⟨G⟩, d, T', os⟩) →
      wpCode (mdl w) (nrC ci fn ri fl fr) R pos ⟨h, ⟨G⟩, d, Tn, os⟩ := by
  have hlx : x.1.length ≤ 800 := hls x (.head _)
  have hg := sv_get [] todo x
  rw [List.nil_append] at hg
  by_cases h1 : cdS x = []
  · obtain ⟨N', T', m', tc', c0', nl', q1, q2, q3, q4⟩ := norm_loop2 (w := w) (b1 := b1) (b2 := b2) cl ci fn nw ri fl fr k1 k2 k3 k4 k5 k6 k7 k8 k9 k10 k11 k12 k13 k14 Tn ini path li hli2 hli todo [x] [] N (m) x.2 x.1 (Tn + 3) (by simpa [Nat.add_comm] using hl) (fun c hc => hls c (List.mem_cons_of_mem _ hc)) (fun c hc => by cases hc) (Nat.zero_le _)
    refine ⟨N', T', m', Tn, tc', c0', nl', by rw [q1]; simp [stp, h1], q2, by omega, fun {h₀ U d os R G F} h pos A kk => ?_⟩
    have ex : x.1 = S [] := by rw [S_eta x.1]; exact congrArg S h1
    rw [ex] at hg
    refine T1e_go (pos := pos) x.2 (strValues (x :: todo)) 0 m (strValues []) hg li hli2 ini path hli A.ok A.rep fun h' pp D => ?_
    have A1 : At w b1 b2 h₀ U F h' (N + 0 + 0) [(cl, lsO ⟨strValues (x :: todo)⟩ 0), (ci, liO cl (((0 : Nat) : Int) + 1)), (nw, lsO ⟨strValues []⟩ (m)), (fn, nrF9 w b1 b2 k1 k2 k3 k4 k5 k6 k7 k8 k9 k10 k11 k12 k13 k14 Tn path ini cl nw (S []) x.2)] := A.next D
    first | rw [← ex] at A1 | rw [← (show x.1 = z13 from ex)] at A1
    exact q4 h' pp A1 kk
  by_cases h2 : cdS x = [46]
  · obtain ⟨N', T', m', tc', c0', nl', q1, q2, q3, q4⟩ := norm_loop2 (w := w) (b1 := b1) (b2 := b2) cl ci fn nw ri fl fr k1 k2 k3 k4 k5 k6 k7 k8 k9 k10 k11 k12 k13 k14 Tn ini path li hli2 hli todo [x] [] N (m) x.2 x.1 (Tn + 3) (by simpa [Nat.add_comm] using hl) (fun c hc => hls c (List.mem_cons_of_mem _ hc)) (fun c hc => by cases hc) (Nat.zero_le _)
    refine ⟨N', T', m', Tn, tc', c0', nl', by rw [q1]; simp [stp, h2], q2, by omega, fun {h₀ U d os R G F} h pos A kk => ?_⟩
    have ex : x.1 = S [46] := by rw [S_eta x.1]; exact congrArg S h2
    rw [ex] at hg
    refine T1d_go (pos := pos) x.2 (strValues (x :: todo)) 0 m (strValues []) hg li hli2 ini path hli A.ok A.rep fun h' pp D => ?_
    have A1 : At w b1 b2 h₀ U F h' (N + 0 + 0) [(cl, lsO ⟨strValues (x :: todo)⟩ 0), (ci, liO cl (((0 : Nat) : Int) + 1)), (nw, lsO ⟨strValues []⟩ (m)), (fn, nrF9 w b1 b2 k1 k2 k3 k4 k5 k6 k7 k8 k9 k10 k11 k12 k13 k14 Tn path ini cl nw (S [46]) x.2)] := A.next D
    first | rw [← ex] at A1 | rw [← (show x.1 = z13 from ex)] at A1
    exact q4 h' pp A1 kk
  by_cases h3 : cdS x = [46, 46]
  · obtain ⟨N', T', m', tc', c0', nl', q1, q2, q3, q4⟩ := norm_loop2 (w := w) (b1 := b1) (b2 := b2) cl ci fn nw ri fl fr k1 k2 k3 k4 k5 k6 k7 k8 k9 k10 k11 k12 k13 k14 Tn ini path li hli2 hli todo [x] [] N (m) x.2 x.1 (Tn + 9) (by simpa [Nat.add_comm] using hl) (fun c hc => hls c (List.mem_cons_of_mem _ hc)) (fun c hc => by cases hc) (Nat.zero_le _)
    refine ⟨N', T', m', Tn, tc', c0', nl', by rw [q1]; simp [stp, h3], q2, by omega, fun {h₀ U d os R G F} h pos A kk => ?_⟩
    have ex : x.1 = S [46, 46] := by rw [S_eta x.1]; exact congrArg S h3
    rw [ex] at hg
    refine T1x_go (pos := pos) x.2 (strValues (x :: todo)) 0 m hg li hli2 ini path hli A.ok A.rep fun h' pp D => ?_
    have A1 : At w b1 b2 h₀ U F h' (N + 0 + 0) [(cl, lsO ⟨strValues (x :: todo)⟩ 0), (ci, liO cl (((0 : Nat) : Int) + 1)), (nw, lsO ⟨[]⟩ (m)), (fn, nrF9 w b1 b2 k1 k2 k3 k4 k5 k6 k7 k8 k9 k10 k11 k12 k13 k14 Tn path ini cl nw z13 x.2)] := A.next D
    first | rw [← ex] at A1 | rw [← (show x.1 = z13 from ex)] at A1
    exact q4 h' pp A1 kk
  · have hx0 : 0 < x.1.length := by
      rcases Nat.eq_zero_or_pos x.1.length with q | q
      · exact absurd (List.length_eq_zero_iff.mp (show (cdS x).length = 0 from q)) h1
      · exact q
    obtain ⟨N', T', m', tc', c0', nl', q1, q2, q3, q4⟩ := norm_loop2 (w := w) (b1 := b1) (b2 := b2) cl ci fn nw ri fl fr k1 k2 k3 k4 k5 k6 k7 k8 k9 k10 k11 k12 k13 k14 Tn ini path li hli2 hli todo [x] [x] N (m + 1) x.2 x.1 (Tn + 3) (by simpa [Nat.add_comm] using hl) (fun c hc => hls c (List.mem_cons_of_mem _ hc)) (fun c hc => by rw [List.mem_singleton.mp hc]; exact h3) (Nat.le_refl _)
    refine ⟨N', T', m', Tn, tc', c0', nl', by rw [q1]; simp [stp, h1, h2, h3], q2, by omega, fun {h₀ U d os R G F} h pos A kk => ?_⟩
    refine T1n_go (pos := pos) x.2 (strValues (x :: todo)) 0 m (strValues []) x.1 (x.1.length - 1) (by omega) (by omega) (str_ne h2) (by simpa using h3) (by decide) hg li hli2 ini path hli A.ok A.rep fun h' pp D => ?_
    have A1 : At w b1 b2 h₀ U F h' (N + 0 + 0) [(cl, lsO ⟨strValues (x :: todo)⟩ 0), (ci, liO cl (((0 : Nat) : Int) + 1)), (nw, lsO ⟨strValues [] ++ [Value.str x.1 x.2]⟩ (m + 1)), (fn, nrF9 w b1 b2 k1 k2 k3 k4 k5 k6 k7 k8 k9 k10 k11 k12 k13 k14 Tn path ini cl nw (x.1) x.2)] := A.next D
    exact q4 h' pp A1 kk
end
section
variable (w : World) (b1 b2 : Bool) (N Tn : Nat) (pos : Pos) (G : List GenState)
section
variable (aD aB aA : Addr) (p2 : List Nat) (tp : Tok) (c : Nat) (hc : ([c] != [47]) = true) (hp : p2.length ≤ 800) (ps : List Str) (ts : List Tok) (js : Nat) (hsp : SplitOk w (S (c :: p2)) (Tn + 28) (S [47]) (Tn + 5) (N + 13) (Tn + 32) ps ts js) 
noncomputable abbrev Na_a : Rw := []
noncomputable abbrev Na_z : Rw := [((N + 13), (lsO ⟨zipV ps ts⟩ 0)), ((N + 15), ⟨y5, none, .fields ⟨[(rf (N + 13)), (vi 0 0)]⟩, ⟨[]⟩⟩), ((N + 14), ⟨y4, none, .seq ⟨[]⟩ 0, ⟨[]⟩⟩), (N, (fO 8 [de w b1 b2 z16 Tn (vs (S (c :: p2)) (Tn + 28)), de w b1 b2 z17 (Tn + 6) (vs (S [47]) (Tn + 5)), de w b1 b2 z18 (Tn + 8) (vs (S [46]) (Tn + 7)), de w b1 b2 z19 (Tn + 10) (vs z13 (Tn + 9)), de w b1 b2 (S [95]) (Tn + 29) (vs (S []) (Tn + 20)), de w b1 b2 z20 (Tn + 30) (vs (S [47]) (Tn + 18)), de w b1 b2 z21 (Tn + (32 + js)) (rf (N + 13)), de w b1 b2 z22 (Tn + (32 + js + 1)) (rf (N + 14))]))]
noncomputable abbrev Na_g : Ctx := ⟨.call (rf 152) ⟨[(vs (S (47 :: c :: p2)) tp)], []⟩, none, none, [(.forLoop fl914.1 (rf aD) fl914.2.1 fl914.2.2 (eN907 aB), ⟨916, 16, 916, 52⟩), (k907 aB ⟨914, 16, 914, 38⟩), (k921 aA ⟨939, 29, 939, 43⟩), callerB], none⟩
noncomputable abbrev Na_h : Ctx := ⟨.forLoop fl119.1 (rf (N + 15)) fl119.2.1 fl119.2.2 (eN152 N), none, none, [(k152 N ⟨119, 16, 119, 21⟩), (.forLoop fl914.1 (rf aD) fl914.2.1 fl914.2.2 (eN907 aB), ⟨916, 16, 916, 52⟩), (k907 aB ⟨914, 16, 914, 38⟩), (k921 aA ⟨939, 29, 939, 43⟩), callerB], none⟩
noncomputable def Na : Res :=
  (fun _ _ _ _ => simC w b1 b2 N Tn 443 [0, 0, 1, 1, 0, 0, 1, 0, 0, 0, 0, 2, 2, 0, 0, 0, 2, 0, 2, 2, 0, 0, 2, 0, 0, 0, 0, 0, 3, 3, 3, 3, 0, 2, 1, 1, 0, 0, 1, 0, 0, 0, 0, 0, 1, 1, 1, 1, 1, 1, 1, 1, 0, 1, 0, 0, 0, 0, 4, 4, 0, 0, 4, 0, 0, 0, 0, 5, 5, 0, 0, 0, 5, 0, 5, 5, 0, 0, 5, 0, 0, 0, 0, 0, 6, 6, 6, 6, 0, 5, 4, 4, 0, 0, 4, 0, 0, 0, 0, 0, 4, 4, 4, 4, 4, 1, 4, 1, 4, 1, 4, 1, 4, 4, 4, 1, 10, 10, 10, 0, 10, 11, 11, 0, 11, 11, 11, 10, 11, 11, 11, 0, 11, 11, 11, 10, 11, 11, 11, 0, 11, 11, 11, 10, 11, 11, 11, 0, 11, 11, 11, 10, 11, 11, 13, 1, 1, 1, 1, 1, 1, 1, 1, 1, 1, 1, 1, 1, 1, 14, 14, 0, 14, 16] [cLenB (S (47 :: c :: p2)) tp ((p2.length + 2 : Nat) : Int) (len_S _) (by omega) (N + 3) (Tn + 11), cSlS 6 (S (47 :: c :: p2)) tp (N + 6) none (some (1, (Tn + 22))) ([47]) (by simp [Str.length]) (by simp [Str.length] <;> omega) (by simp [Str.length]; omega) (N + 7) (Tn + 23), cNeS (S ([47])) (Tn + 23) (S [47]) (Tn + 18) false rfl (N + 7) (Tn + 24), cSlS 7 (S (47 :: c :: p2)) tp (N + 7) (some (1, (Tn + 24))) (some (2, (Tn + 25))) ([c]) (by simp [Str.length]) (by simp [Str.length] <;> omega) (by simp [Str.length]; omega) (N + 8) (Tn + 26), cNeS (S ([c])) (Tn + 26) (S [47]) (Tn + 18) true hc (N + 8) (Tn + 27), cSlS 8 (S (47 :: c :: p2)) tp (N + 8) (some (1, (Tn + 27))) none (c :: p2) (by simp [Str.length]) (by simp [Str.length] <;> omega) (by simp [Str.length]; omega) (N + 9) (Tn + 28), cSplit hsp] (Na_g aD aB aA p2 tp c) pos Na_a 0 G) hp ps ts js
theorem Na_run : RunK (Na w b1 b2 N Tn pos G aD aB aA p2 tp c hc hp ps ts js hsp) [13, 15, 14, 0] (Na_h N aD aB aA) 16 (32 + js + 2) G (Na_z w b1 b2 N Tn p2 c ps ts js) := by
  walk_at "r"
variable {w b1 b2 N Tn pos G aD aB aA}
def Na_go := goK (Na_run w b1 b2 N Tn pos G aD aB aA p2 tp c hc hp ps ts js hsp) (sC rfl) (by decide)
end
section
variable (aD aB aA : Addr) (p2 : List Nat) (tp : Tok) (c : Nat) (hc : ([c] != [47]) = true) (hp : p2.length ≤ 800) (ps : List Str) (ts : List Tok) (js : Nat) (hsp : SplitOk w (S (c :: p2)) (Tn + 28) (S [47]) (Tn + 5) (N + 13) (Tn + 32) ps ts js)  (N2 Tn2 : Nat) (eI : Tok) (nl : List (Str × Tok)) (m : Nat) (hnl : (nl.map (·.1)).toArray.foldl (· + ·.length + (S [47]).length) 0 ≤ 1000) (c0 : Str) (tc : Tok) (jt : Str) (tj : Tok) (jj : Nat) (hjr : joinR (S [47]) nl (Tn2 + 1) = (jt, tj, jj)) (hjt : jt.length ≤ 1000) (ta : Tok) (ja : Nat) (ha : AddOk w (S [47]) (Tn + 18) jt tj N2 (Tn2 + (1 + jj)) ta ja) (L : Nat) (hL : L < 1000) (hLn : (((S [47]) ++ jt).length : Int) = ((L + 1 : Nat) : Int)) 
noncomputable abbrev Nka_a : Rw := [((N + 14), (lsO ⟨strValues nl⟩ m)), (N, (fO 9 [de w b1 b2 z16 Tn (vs (S (c :: p2)) (Tn + 28)), de w b1 b2 z17 (Tn + 6) (vs (S [47]) (Tn + 5)), de w b1 b2 z18 (Tn + 8) (vs (S [46]) (Tn + 7)), de w b1 b2 z19 (Tn + 10) (vs z13 (Tn + 9)), de w b1 b2 (S [95]) (Tn + 29) (vs (S []) (Tn + 20)), de w b1 b2 z20 (Tn + 30) (vs (S [47]) (Tn + 18)), de w b1 b2 z21 (Tn + (32 + js)) (rf (N + 13)), de w b1 b2 z22 (Tn + (32 + js + 1)) (rf (N + 14)), de w b1 b2 z29 eI (vs c0 tc)]))]
noncomputable abbrev Nka_z : Rw := []
noncomputable def Nka : Res :=
  (fun _ => nextC (Na w b1 b2 N Tn pos G aD aB aA p2 tp c hc hp ps ts js hsp) (.ok .next) w b1 b2 N2 Tn2 40 [2, 2, 2, 2, 2, 2, 1, 1, 2, 2, 2, 1] [cJoinA 0 (S [47]) (Tn + 5) (N + 14) nl (m) jt tj jj N2 (Tn2 + 1) hjr hnl hjt, cAddS ha, cLenB ((S [47]) ++ jt) ta ((L + 1 : Nat) : Int) hLn (by omega) N2 (Tn2 + (1 + jj + ja + 1))] (Nka_a w b1 b2 N Tn p2 c js eI nl m c0 tc) 2 G) hL
theorem Nka_run : RunF (Nka w b1 b2 N Tn pos G aD aB aA p2 tp c hc hp ps ts js hsp N2 Tn2 eI nl m hnl c0 tc jt tj jj hjr hjt ta ja ha L hL hLn) [] (.ok (.ret (vs ((S [47]) ++ jt) ta))) 0 (1 + jj + ja + 3) G Nka_z := by
  walk_at "r"
variable {w b1 b2 N Tn pos G aD aB aA N2 Tn2 eI}
def Nka_go := goF (Nka_run w b1 b2 N Tn pos G aD aB aA p2 tp c hc hp ps ts js hsp N2 Tn2 eI nl m hnl c0 tc jt tj jj hjr hjt ta ja ha L hL hLn) (sK rfl) (by decide)
end
section
variable (aD aB aA : Addr) (p2 : List Nat) (tp : Tok) (c : Nat) (hc : ([c] == [47]) = false) (hp : p2.length ≤ 800) (ps : List Str) (ts : List Tok) (js : Nat) (hsp : SplitOk w (S (c :: p2)) (Tn + 33) (S [47]) (Tn + 5) (N + 15) (Tn + 37) ps ts js) 
noncomputable abbrev Nb_a : Rw := []
noncomputable abbrev Nb_z : Rw := [((N + 15), (lsO ⟨zipV ps ts⟩ 0)), ((N + 17), ⟨y5, none, .fields ⟨[(rf (N + 15)), (vi 0 0)]⟩, ⟨[]⟩⟩), ((N + 16), ⟨y4, none, .seq ⟨[]⟩ 0, ⟨[]⟩⟩), (N, (fO 8 [de w b1 b2 z16 Tn (vs (S (c :: p2)) (Tn + 33)), de w b1 b2 z17 (Tn + 6) (vs (S [47]) (Tn + 5)), de w b1 b2 z18 (Tn + 8) (vs (S [46]) (Tn + 7)), de w b1 b2 z19 (Tn + 10) (vs z13 (Tn + 9)), de w b1 b2 (S [95]) (Tn + 34) (vs (S []) (Tn + 20)), de w b1 b2 z20 (Tn + 35) (vs (S ([47, 47])) (Tn + 31)), de w b1 b2 z21 (Tn + (37 + js)) (rf (N + 15)), de w b1 b2 z22 (Tn + (37 + js + 1)) (rf (N + 16))]))]
noncomputable abbrev Nb_g : Ctx := ⟨.call (rf 152) ⟨[(vs (S (47 :: 47 :: c :: p2)) tp)], []⟩, none, none, [(.forLoop fl914.1 (rf aD) fl914.2.1 fl914.2.2 (eN907 aB), ⟨916, 16, 916, 52⟩), (k907 aB ⟨914, 16, 914, 38⟩), (k921 aA ⟨939, 29, 939, 43⟩), callerB], none⟩
noncomputable abbrev Nb_h : Ctx := ⟨.forLoop fl119.1 (rf (N + 17)) fl119.2.1 fl119.2.2 (eN152 N), none, none, [(k152 N ⟨119, 16, 119, 21⟩), (.forLoop fl914.1 (rf aD) fl914.2.1 fl914.2.2 (eN907 aB), ⟨916, 16, 916, 52⟩), (k907 aB ⟨914, 16, 914, 38⟩), (k921 aA ⟨939, 29, 939, 43⟩), callerB], none⟩
noncomputable def Nb : Res :=
  (fun _ _ _ _ => simC w b1 b2 N Tn 459 [0, 0, 1, 1, 0, 0, 1, 0, 0, 0, 0, 2, 2, 0, 0, 0, 2, 0, 2, 2, 0, 0, 2, 0, 0, 0, 0, 0, 3, 3, 3, 3, 0, 2, 1, 1, 0, 0, 1, 0, 0, 0, 0, 0, 1, 1, 1, 1, 1, 1, 1, 1, 0, 1, 0, 0, 0, 0, 4, 4, 0, 0, 4, 0, 0, 0, 0, 5, 5, 0, 0, 0, 5, 0, 5, 5, 0, 0, 5, 0, 0, 0, 0, 0, 6, 6, 6, 6, 0, 5, 4, 4, 0, 0, 4, 0, 0, 0, 0, 0, 4, 4, 4, 4, 4, 1, 4, 1, 4, 1, 4, 1, 4, 1, 4, 1, 4, 4, 1, 4, 1, 12, 12, 12, 0, 12, 13, 13, 0, 13, 13, 13, 12, 13, 13, 13, 0, 13, 13, 13, 12, 13, 13, 13, 0, 13, 13, 13, 12, 13, 13, 13, 0, 13, 13, 13, 12, 13, 13, 15, 1, 1, 1, 1, 1, 1, 1, 1, 1, 1, 1, 1, 1, 1, 16, 16, 0, 16, 18] [cLenB (S (47 :: 47 :: c :: p2)) tp ((p2.length + 3 : Nat) : Int) (len_S _) (by omega) (N + 3) (Tn + 11), cSlS 6 (S (47 :: 47 :: c :: p2)) tp (N + 6) none (some (1, (Tn + 22))) ([47]) (by simp [Str.length]) (by simp [Str.length] <;> omega) (by simp [Str.length]; omega) (N + 7) (Tn + 23), cNeS (S ([47])) (Tn + 23) (S [47]) (Tn + 18) false rfl (N + 7) (Tn + 24), cSlS 7 (S (47 :: 47 :: c :: p2)) tp (N + 7) (some (1, (Tn + 24))) (some (2, (Tn + 25))) ([47]) (by simp [Str.length]) (by simp [Str.length] <;> omega) (by simp [Str.length]; omega) (N + 8) (Tn + 26), cNeS (S ([47])) (Tn + 26) (S [47]) (Tn + 18) false rfl (N + 8) (Tn + 27), cSlS 8 (S (47 :: 47 :: c :: p2)) tp (N + 8) (some (2, (Tn + 27))) (some (3, (Tn + 28))) ([c]) (by simp [Str.length]) (by simp [Str.length] <;> omega) (by simp [Str.length]; omega) (N + 9) (Tn + 29), cEqS (S ([c])) (Tn + 29) (S [47]) (Tn + 18) false hc (N + 9) (Tn + 30), cSlS 9 (S (47 :: 47 :: c :: p2)) tp (N + 9) none (some (2, (Tn + 30))) ([47, 47]) (by simp [Str.length]) (by simp [Str.length] <;> omega) (by simp [Str.length]; omega) (N + 10) (Tn + 31), cSlS 10 (S (47 :: 47 :: c :: p2)) tp (N + 10) (some (2, (Tn + 32))) none (c :: p2) (by simp [Str.length]) (by simp [Str.length] <;> omega) (by simp [Str.length]; omega) (N + 11) (Tn + 33), cSplit hsp] (Nb_g aD aB aA p2 tp c) pos Nb_a 0 G) hp ps ts js
theorem Nb_run : RunK (Nb w b1 b2 N Tn pos G aD aB aA p2 tp c hc hp ps ts js hsp) [15, 17, 16, 0] (Nb_h N aD aB aA) 18 (37 + js + 2) G (Nb_z w b1 b2 N Tn p2 c ps ts js) := by
  walk_at "r"
variable {w b1 b2 N Tn pos G aD aB aA}
def Nb_go := goK (Nb_run w b1 b2 N Tn pos G aD aB aA p2 tp c hc hp ps ts js hsp) (sC rfl) (by decide)
end
section
variable (aD aB aA : Addr) (p2 : List Nat) (tp : Tok) (c : Nat) (hc : ([c] == [47]) = false) (hp : p2.length ≤ 800) (ps : List Str) (ts : List Tok) (js : Nat) (hsp : SplitOk w (S (c :: p2)) (Tn + 33) (S [47]) (Tn + 5) (N + 15) (Tn + 37) ps ts js)  (N2 Tn2 : Nat) (eI : Tok) (nl : List (Str × Tok)) (m : Nat) (hnl : (nl.map (·.1)).toArray.foldl (· + ·.length + (S [47]).length) 0 ≤ 1000) (c0 : Str) (tc : Tok) (jt : Str) (tj : Tok) (jj : Nat) (hjr : joinR (S [47]) nl (Tn2 + 1) = (jt, tj, jj)) (hjt : jt.length ≤ 1000) (ta : Tok) (ja : Nat) (ha : AddOk w (S ([47, 47])) (Tn + 31) jt tj N2 (Tn2 + (1 + jj)) ta ja) (L : Nat) (hL : L < 1000) (hLn : (((S ([47, 47])) ++ jt).length : Int) = ((L + 1 : Nat) : Int)) 
noncomputable abbrev Nkb_a : Rw := [((N + 16), (lsO ⟨strValues nl⟩ m)), (N, (fO 9 [de w b1 b2 z16 Tn (vs (S (c :: p2)) (Tn + 33)), de w b1 b2 z17 (Tn + 6) (vs (S [47]) (Tn + 5)), de w b1 b2 z18 (Tn + 8) (vs (S [46]) (Tn + 7)), de w b1 b2 z19 (Tn + 10) (vs z13 (Tn + 9)), de w b1 b2 (S [95]) (Tn + 34) (vs (S []) (Tn + 20)), de w b1 b2 z20 (Tn + 35) (vs (S ([47, 47])) (Tn + 31)), de w b1 b2 z21 (Tn + (37 + js)) (rf (N + 15)), de w b1 b2 z22 (Tn + (37 + js + 1)) (rf (N + 16)), de w b1 b2 z29 eI (vs c0 tc)]))]
noncomputable abbrev Nkb_z : Rw := []
noncomputable def Nkb : Res :=
  (fun _ => nextC (Nb w b1 b2 N Tn pos G aD aB aA p2 tp c hc hp ps ts js hsp) (.ok .next) w b1 b2 N2 Tn2 40 [2, 2, 2, 2, 2, 2, 1, 1, 2, 2, 2, 1] [cJoinA 0 (S [47]) (Tn + 5) (N + 16) nl (m) jt tj jj N2 (Tn2 + 1) hjr hnl hjt, cAddS ha, cLenB ((S ([47, 47])) ++ jt) ta ((L + 1 : Nat) : Int) hLn (by omega) N2 (Tn2 + (1 + jj + ja + 1))] (Nkb_a w b1 b2 N Tn p2 c js eI nl m c0 tc) 2 G) hL
theorem Nkb_run : RunF (Nkb w b1 b2 N Tn pos G aD aB aA p2 tp c hc hp ps ts js hsp N2 Tn2 eI nl m hnl c0 tc jt tj jj hjr hjt ta ja ha L hL hLn) [] (.ok (.ret (vs ((S ([47, 47])) ++ jt) ta))) 0 (1 + jj + ja + 3) G Nkb_z := by
  walk_at "r"
variable {w b1 b2 N Tn pos G aD aB aA N2 Tn2 eI}
def Nkb_go := goF (Nkb_run w b1 b2 N Tn pos G aD aB aA p2 tp c hc hp ps ts js hsp N2 Tn2 eI nl m hnl c0 tc jt tj jj hjr hjt ta ja ha L hL hLn) (sK rfl) (by decide)
end
section
variable (aD aB aA : Addr) (p2 : List Nat) (tp : Tok) (hp : p2.length ≤ 800) (ps : List Str) (ts : List Tok) (js : Nat) (hsp : SplitOk w (S ([])) (Tn + (31 + 0 + 1)) (S [47]) (Tn + 5) (N + 15) (Tn + (31 + 0 + 5)) ps ts js) 
noncomputable abbrev N0_a : Rw := []
noncomputable abbrev N0_z : Rw := [((N + 15), (lsO ⟨zipV ps ts⟩ 0)), ((N + 17), ⟨y5, none, .fields ⟨[(rf (N + 15)), (vi 0 0)]⟩, ⟨[]⟩⟩), ((N + 16), ⟨y4, none, .seq ⟨[]⟩ 0, ⟨[]⟩⟩), (N, (fO 8 [de w b1 b2 z16 Tn (vs (S ([])) (Tn + (31 + 0 + 1))), de w b1 b2 z17 (Tn + 6) (vs (S [47]) (Tn + 5)), de w b1 b2 z18 (Tn + 8) (vs (S [46]) (Tn + 7)), de w b1 b2 z19 (Tn + 10) (vs z13 (Tn + 9)), de w b1 b2 (S [95]) (Tn + (31 + 0 + 2)) (vs (S []) (Tn + 20)), de w b1 b2 z20 (Tn + (31 + 0 + 3)) (vs (S ([47, 47])) tp), de w b1 b2 z21 (Tn + (31 + 0 + 5 + js)) (rf (N + 15)), de w b1 b2 z22 (Tn + (31 + 0 + 5 + js + 1)) (rf (N + 16))]))]
noncomputable abbrev N0_g : Ctx := ⟨.call (rf 152) ⟨[(vs (S ([47, 47])) tp)], []⟩, none, none, [(.forLoop fl914.1 (rf aD) fl914.2.1 fl914.2.2 (eN907 aB), ⟨916, 16, 916, 52⟩), (k907 aB ⟨914, 16, 914, 38⟩), (k921 aA ⟨939, 29, 939, 43⟩), callerB], none⟩
noncomputable abbrev N0_h : Ctx := ⟨.forLoop fl119.1 (rf (N + 17)) fl119.2.1 fl119.2.2 (eN152 N), none, none, [(k152 N ⟨119, 16, 119, 21⟩), (.forLoop fl914.1 (rf aD) fl914.2.1 fl914.2.2 (eN907 aB), ⟨916, 16, 916, 52⟩), (k907 aB ⟨914, 16, 914, 38⟩), (k921 aA ⟨939, 29, 939, 43⟩), callerB], none⟩
noncomputable def N0 : Res :=
  (fun _ _ _ _ _ => simC w b1 b2 N Tn 459 [0, 0, 1, 1, 0, 0, 1, 0, 0, 0, 0, 2, 2, 0, 0, 0, 2, 0, 2, 2, 0, 0, 2, 0, 0, 0, 0, 0, 3, 3, 3, 3, 0, 2, 1, 1, 0, 0, 1, 0, 0, 0, 0, 0, 1, 1, 1, 1, 1, 1, 1, 1, 0, 1, 0, 0, 0, 0, 4, 4, 0, 0, 4, 0, 0, 0, 0, 5, 5, 0, 0, 0, 5, 0, 5, 5, 0, 0, 5, 0, 0, 0, 0, 0, 6, 6, 6, 6, 0, 5, 4, 4, 0, 0, 4, 0, 0, 0, 0, 0, 4, 4, 4, 4, 4, 1, 4, 1, 4, 1, 4, 1, 4, 1, 4, 1, 4, 4, 1, 4, 1, 12, 12, 12, 0, 12, 13, 13, 0, 13, 13, 13, 12, 13, 13, 13, 0, 13, 13, 13, 12, 13, 13, 13, 0, 13, 13, 13, 12, 13, 13, 13, 0, 13, 13, 13, 12, 13, 13, 15, 1, 1, 1, 1, 1, 1, 1, 1, 1, 1, 1, 1, 1, 1, 16, 16, 0, 16, 18] [cLenB (S ([47, 47])) tp 2 rfl (by omega) (N + 3) (Tn + 11), cSlS 6 (S ([47, 47])) tp (N + 6) none (some (1, (Tn + 22))) ([47]) rfl (by simp [Str.length]) (by simp [Str.length]) (N + 7) (Tn + 23), cNeS (S ([47])) (Tn + 23) (S [47]) (Tn + 18) false rfl (N + 7) (Tn + 24), cSlS 7 (S ([47, 47])) tp (N + 7) (some (1, (Tn + 24))) (some (2, (Tn + 25))) ([47]) rfl (by simp [Str.length]) (by simp [Str.length]) (N + 8) (Tn + 26), cNeS (S ([47])) (Tn + 26) (S [47]) (Tn + 18) false rfl (N + 8) (Tn + 27), cSlS 8 (S ([47, 47])) tp (N + 8) (some (2, (Tn + 27))) (some (3, (Tn + 28))) ([]) rfl (by simp [Str.length]) (by simp [Str.length]) (N + 9) (Tn + 29), cEqS (S ([])) (Tn + 29) (S [47]) (Tn + 18) false rfl (N + 9) (Tn + 30), cSlW 9 (S ([47, 47])) tp (N + 9) none (some (2, (Tn + 30))) rfl (N + 10) (Tn + 31), cSlS 10 (S ([47, 47])) tp (N + 10) (some (2, (Tn + (31 + 0)))) none ([]) rfl (by simp [Str.length]) (by simp [Str.length]) (N + 11) (Tn + (31 + 0 + 1)), cSplit hsp] (N0_g aD aB aA tp) pos N0_a 0 G) p2 hp ps ts js
theorem N0_run : RunK (N0 w b1 b2 N Tn pos G aD aB aA p2 tp hp ps ts js hsp) [15, 17, 16, 0] (N0_h N aD aB aA) 18 (31 + 0 + 5 + js + 2) G (N0_z w b1 b2 N Tn tp ps ts js) := by
  walk_at "r"
variable {w b1 b2 N Tn pos G aD aB aA}
def N0_go := goK (N0_run w b1 b2 N Tn pos G aD aB aA p2 tp hp ps ts js hsp) (sC rfl) (by decide)
end
section
variable (aD aB aA : Addr) (p2 : List Nat) (tp : Tok) (hp : p2.length ≤ 800) (ps : List Str) (ts : List Tok) (js : Nat) (hsp : SplitOk w (S ([])) (Tn + (31 + 0 + 1)) (S [47]) (Tn + 5) (N + 15) (Tn + (31 + 0 + 5)) ps ts js)  (N2 Tn2 : Nat) (eI : Tok) (nl : List (Str × Tok)) (m : Nat) (hnl : (nl.map (·.1)).toArray.foldl (· + ·.length + (S [47]).length) 0 ≤ 1000) (c0 : Str) (tc : Tok) (jt : Str) (tj : Tok) (jj : Nat) (hjr : joinR (S [47]) nl (Tn2 + 1) = (jt, tj, jj)) (hjt : jt.length ≤ 1000) (ta : Tok) (ja : Nat) (ha : AddOk w (S ([47, 47])) tp jt tj N2 (Tn2 + (1 + jj)) ta ja) (L : Nat) (hL : L < 1000) (hLn : (((S ([47, 47])) ++ jt).length : Int) = ((L + 1 : Nat) : Int)) 
noncomputable abbrev Nk0_a : Rw := [((N + 16), (lsO ⟨strValues nl⟩ m)), (N, (fO 9 [de w b1 b2 z16 Tn (vs (S ([])) (Tn + (31 + 0 + 1))), de w b1 b2 z17 (Tn + 6) (vs (S [47]) (Tn + 5)), de w b1 b2 z18 (Tn + 8) (vs (S [46]) (Tn + 7)), de w b1 b2 z19 (Tn + 10) (vs z13 (Tn + 9)), de w b1 b2 (S [95]) (Tn + (31 + 0 + 2)) (vs (S []) (Tn + 20)), de w b1 b2 z20 (Tn + (31 + 0 + 3)) (vs (S ([47, 47])) tp), de w b1 b2 z21 (Tn + (31 + 0 + 5 + js)) (rf (N + 15)), de w b1 b2 z22 (Tn + (31 + 0 + 5 + js + 1)) (rf (N + 16)), de w b1 b2 z29 eI (vs c0 tc)]))]
noncomputable abbrev Nk0_z : Rw := []
noncomputable def Nk0 : Res :=
  (fun _ => nextC (N0 w b1 b2 N Tn pos G aD aB aA p2 tp hp ps ts js hsp) (.ok .next) w b1 b2 N2 Tn2 40 [2, 2, 2, 2, 2, 2, 1, 1, 2, 2, 2, 1] [cJoinA 0 (S [47]) (Tn + 5) (N + 16) nl (m) jt tj jj N2 (Tn2 + 1) hjr hnl hjt, cAddS ha, cLenB ((S ([47, 47])) ++ jt) ta ((L + 1 : Nat) : Int) hLn (by omega) N2 (Tn2 + (1 + jj + ja + 1))] (Nk0_a w b1 b2 N Tn tp js eI nl m c0 tc) 2 G) hL
theorem Nk0_run : RunF (Nk0 w b1 b2 N Tn pos G aD aB aA p2 tp hp ps ts js hsp N2 Tn2 eI nl m hnl c0 tc jt tj jj hjr hjt ta ja ha L hL hLn) [] (.ok (.ret (vs ((S ([47, 47])) ++ jt) ta))) 0 (1 + jj + ja + 3) G Nk0_z := by
  walk_at "r"
variable {w b1 b2 N Tn pos G aD aB aA N2 Tn2 eI}
def Nk0_go := goF (Nk0_run w b1 b2 N Tn pos G aD aB aA p2 tp hp ps ts js hsp N2 Tn2 eI nl m hnl c0 tc jt tj jj hjr hjt ta ja ha L hL hLn) (sK rfl) (by decide)
end
end
noncomputable abbrev nmC (ri fl fr : Addr) (x : Str) (tp : Tok) : Ctx := ⟨.call (Value.ref 152) ⟨[(Value.str x tp)], []⟩, none, none, [(.forLoop fl914.1 (Value.ref ri) fl914.2.1 fl914.2.2 (eN907 fl), ⟨916, 16, 916, 52⟩), (k907 fl ⟨914, 16, 914, 38⟩), (k921 fr ⟨939, 29, 939, 43⟩), callerB], none⟩
noncomputable def wt (l : List (List Nat)) : Nat := (l.map fun x => x.length + 1).sum
theorem wt_cons (a : List Nat) (l : List (List Nat)) : wt (a :: l) = a.length + 1 + wt l := by simp [wt]
theorem wt_app (a b : List (List Nat)) : wt (a ++ b) = wt a + wt b := by simp [wt]
theorem wt_drop (l : List (List Nat)) : wt l.dropLast ≤ wt l := by
  rcases List.eq_nil_or_concat l with rfl | ⟨r, x, rfl⟩
  · exact Nat.le_refl _
  · rw [List.concat_eq_append, List.dropLast_concat, wt_app]; exact Nat.le_add_right ..
theorem wt_stp (ns : List (List Nat)) (c : List Nat) : wt (stp ns c) ≤ wt ns + (c.length + 1) := by
  unfold stp
  split
  · omega
  · split
    · have := wt_drop ns; omega
    · rw [wt_app, wt_cons]; simp [wt]
theorem wt_fold (ps : List (List Nat)) : ∀ ns, wt (ps.foldl stp ns) ≤ wt ns + wt ps := by
  induction ps with
  | nil => intro ns; simp [wt]
  | cons a ps ih =>
    intro ns
    rw [List.foldl_cons, wt_cons]
    have h1 := ih (stp ns a)
    have h2 := wt_stp ns a
    omega
theorem gl_wt : ∀ (ps : List (List Nat)), ps ≠ [] → (gl ps).length + 1 = wt ps
  | [a], _ => by simp [gl, wt]
  | a :: b :: r, _ => by
    have := gl_wt (b :: r) (by simp)
    rw [wt_cons, ← this]
    show (a ++ 47 :: gl (b :: r)).length + 1 = _
    rw [List.length_append, List.length_cons]; omega
theorem gl_le (ps : List (List Nat)) : (gl ps).length ≤ wt ps := by
  cases ps with
  | nil => exact Nat.zero_le _
  | cons a r => have := gl_wt (a :: r) (by simp); omega
theorem mem_wt {ps : List (List Nat)} {p : List Nat} (h : p ∈ ps) : p.length + 1 ≤ wt ps := by
  induction ps with
  | nil => cases h
  | cons a r ih =>
    rw [wt_cons]
    rcases List.mem_cons.mp h with rfl | h
    · omega
    · have := ih h; omega
theorem fold_wt (l : List (Str × Tok)) : (l.map (·.1)).toArray.foldl (· + ·.length + (S [47]).length) 0 = wt (l.map cdS) := by
  rw [List.foldl_toArray]
  have : ∀ (l : List (Str × Tok)) (n : Nat), (l.map (·.1)).foldl (· + ·.length + (S [47]).length) n = n + wt (l.map cdS) := by
    intro l
    induction l with
    | nil => intro n; rfl
    | cons a r ih =>
      intro n
      rw [List.map_cons, List.foldl_cons, ih, List.map_cons, wt_cons]
      show n + a.1.length + 1 + _ = n + (a.1.length + 1 + _)
      omega
  rw [this]; omega
theorem joinR_text (l : List (Str × Tok)) (tk : Tok) : (joinR (S [47]) l tk).1 = S (gl (l.map cdS)) := by
  have e : Builtin.Str.glued (S [47]) (l.map (·.1)) = S (gl (l.map cdS)) := by
    rw [StrLaws.glued_eq_join]
    have := join_gl (l.map (·.1))
    rw [List.map_map] at this
    exact (S_eta _).trans (congrArg S this)
  match l, e with
  | [], e => exact e
  | [p], e => rfl
  | a :: b :: r, e => exact e
theorem zipV_sv (ps : List Str) (ts : List Tok) : zipV ps ts = strValues (ps.zip ts) := by
  unfold strValues
  rw [List.zip, List.map_zipWith]
theorem zip_cdS (ps : List (List Nat)) (ts : List Tok) (h : ts.length = ps.length) : ((ps.map S).zip ts).map cdS = ps := by
  induction ps generalizing ts with
  | nil => rfl
  | cons a r ih =>
    match ts, h with
    | t :: ts, h =>
      show a :: ((r.map S).zip ts).map cdS = a :: r
      rw [ih ts (by simpa using h)]
theorem S_app (a b : List Nat) : S a ++ S b = S (a ++ b) := by
  show (⟨(⟨a⟩ : Array Nat) ++ (⟨b⟩ : Array Nat)⟩ : Str) = ⟨⟨a ++ b⟩⟩
  rw [List.append_toArray]
theorem addOk' (w : World) (x : Str) (t : Tok) (y : Str) (u : Tok) (n tk : Nat) (hx : x.length ≠ 0) (hs : (x ++ y).length ≤ sizeLine) : ∃ ta j, AddOk w x t y u n tk ta j := by
  by_cases hy : y.length = 0
  · have e : x ++ y = x := by
      have : y = ⟨#[]⟩ := by
        obtain ⟨c⟩ := y
        have : c.size = 0 := hy
        rw [Array.eq_empty_of_size_eq_zero this]
      rw [this]
      exact Str.append_empty x
    refine ⟨t, 0, fun Γ p s ht => ok_of_any (any_gives F.slot_str_add (typeIs_str s x t) F.entry_str_add (F.args_str_add_2 _ _) (gives_str_add x y t u) ?_)⟩
    rw [if_neg (by simp [hx]), if_pos (by simp [hy])]
    exact ⟨by rw [e], Eff.same s⟩
  · exact addOk w x t y u n tk hy hs
theorem splitSl (w : World) (ps : List (List Nat)) (hne : ps ≠ []) (hf : ∀ p ∈ ps, 47 ∉ p) (hl : (gl ps).length ≤ 900) (t u : Tok) (n tk : Nat) : ∃ ts j, ts.length = ps.length ∧ SplitOk w (S (gl ps)) t (S [47]) u n tk (ps.map S) ts j := by
  obtain ⟨ts, j, h1, h2⟩ := splitOk w (S (gl ps)) t (S [47]) u n tk (by decide) (by kernel_rfl) hl
  rw [split_eq ps hne hf] at h1 h2
  exact ⟨ts, j, by rw [h1, List.length_map], h2⟩
section
variable {w : World} {b1 b2 : Bool}
theorem fnOk_of (t : Told w b1 b2) {c : Code} {y : Ctx} {N T : Nat} {r : Str} {tr : Tok} {g j : Nat} (hc : y.code = c)
    (H : ∀ (p : Pos) (G : List GenState) (h : Heap) (d : Drawn) (os : OsState) (R : Result → Shared → Prop), At w b1 b2 h [] [] h N [] → (∀ h', At w b1 b2 h [] [] h' (N + g) [] → R (.ok (.ret (.str r tr))) ⟨h', ⟨G⟩, d, T + j, os⟩) → wpCode (mdl w) y R p ⟨h, ⟨G⟩, d, T, os⟩) :
    FnOk w b1 b2 c y N T r tr g j := by
  intro Γ p s hx hp
  rw [hx y rfl]
  obtain ⟨h, ⟨G⟩, d, tk, os⟩ := s
  have ht : tk = T := hp.toks
  subst ht
  have hs : h.objs.size = N := hp.size
  refine H p G h d os _ ⟨fun N' T' => ⟨t.ask, fun a o e => ⟨hp.top a o e, List.not_mem_nil⟩⟩, hp.lo, Nat.le_of_eq hs, hs, fun y hy => (nomatch hy), List.nodup_nil, fun b o e _ => e⟩ fun h' A => ?_
  exact ⟨rfl, rfl, rfl, rfl, rfl, by rw [A.size]; show _ = h.objs.size + g; rw [hs], fun b o e _ => A.keep b o e List.not_mem_nil, fun x hx => (nomatch hx), fun o ho => (nomatch ho)⟩
theorem normA (t : Told w b1 b2) (ri fl fr : Addr) (ps : List (List Nat)) (hne : ps ≠ []) (hf : ∀ p ∈ ps, 47 ∉ p) (hl : (gl ps).length ≤ 800) (hn : ps.length ≤ 30) (p2 : List Nat) (tp : Tok) (N Tn : Nat) (c : Nat) (hc : ([c] != [47]) = true) (e : gl ps = c :: p2) :
    ∃ tn g j, FnOk w b1 b2 (.call (Value.ref 152) ⟨[Value.str (S (47 :: c :: p2)) tp], []⟩) (nmC ri fl fr (S (47 :: c :: p2)) tp) N Tn (S ([47] ++ gl (ps.foldl stp []))) tn g j := by
  obtain ⟨ts, js, hts, hsp⟩ := splitSl w ps hne hf (by omega) (Tn + 28) (Tn + 5) (N + 13) (Tn + 32)
  rw [e] at hsp
  have hcd := zip_cdS ps ts hts
  have hw := gl_wt ps hne
  cases hz : (ps.map S).zip ts with
  | nil =>
    rw [hz] at hcd
    exact absurd hcd.symm hne
  | cons x todo =>
    rw [hz] at hcd
    have hlen : (x :: todo).length ≤ 30 := by
      have := congrArg List.length hcd
      rw [List.length_map] at this
      omega
    obtain ⟨N', T', m', k15', tc', c0', nl', q1, q2, q3, q4⟩ := norm_loop1 (w := w) (b1 := b1) (b2 := b2) (N + 13) (N + 15) N (N + 14) ri fl fr Tn (Tn + 28) (Tn + 6) (Tn + 5) (Tn + 8) (Tn + 7) (Tn + 10) (Tn + 9) (Tn + 29) (Tn + 20) (Tn + 30) (Tn + 18) (Tn + (32 + js)) (Tn + (32 + js + 1)) (S [47]) (S (c :: p2)) 0 (by decide) rfl x todo (N + 16) 0 (Tn + (32 + js + 2)) hlen (fun c hc => by
      have := mem_wt (ps := ps) (p := cdS c) (by rw [← hcd]; exact List.mem_map.mpr ⟨c, hc, rfl⟩)
      have : c.1.length + 1 ≤ wt ps := this
      omega)
    rw [hcd] at q1
    have hwt : wt (nl'.map cdS) ≤ 801 := by
      rw [q1]
      have h1 := wt_fold ps []
      have h2 : wt [] = 0 := rfl
      omega
    have hjt : (joinR (S [47]) nl' (T' + 1)).1 = S (gl (ps.foldl stp [])) := by rw [joinR_text, q1]
    have hjl : (S (gl (ps.foldl stp []))).length ≤ 801 := by
      have := gl_le (nl'.map cdS)
      rw [q1] at this hwt
      show (gl (ps.foldl stp [])).length ≤ _
      omega
    generalize hJ : joinR (S [47]) nl' (T' + 1) = J at hjt
    obtain ⟨jt, tj, jj⟩ := J
    subst hjt
    obtain ⟨ta, ja, ha⟩ := addOk' w (S [47]) (Tn + 18) (S (gl (ps.foldl stp []))) tj N' (T' + (1 + jj)) (by decide) (small_line (by
      rw [len_app]
      have h47 : (S [47]).length ≤ 2 := by decide
      omega))
    rw [← S_app]
    refine ⟨ta, N' - N, T' + (1 + jj + ja + 3) - Tn, fnOk_of t rfl fun p G h d os R A kk => ?_⟩
    rw [show N + (N' - N) = N' + 0 + 0 from by omega, show Tn + (T' + (1 + jj + ja + 3) - Tn) = T' + (1 + jj + ja + 3) from by omega] at kk
    refine Na_go (pos := p) (aD := ri) (aB := fl) (aA := fr) p2 tp c hc (by rw [e] at hl; simp only [List.length_cons, List.length_nil] at hl; omega) (ps.map S) ts js hsp A.ok A.rep fun h1 pp D1 => ?_
    have A1 : At w b1 b2 h [] [] h1 (N + 16 + 0) [(N + 13, lsO ⟨zipV (ps.map S) ts⟩ 0), _, _, _] := A.next D1
    rw [zipV_sv, hz] at A1
    refine q4 h1 pp A1 fun h2 A2 => ?_
    refine Nka_go (pos := p) (G := G) (aD := ri) (aB := fl) (aA := fr) p2 tp c hc (by rw [e] at hl; simp only [List.length_cons, List.length_nil] at hl; omega) (ps.map S) ts js hsp (N2 := N') (Tn2 := T') nl' m' (by rw [fold_wt]; omega) c0' tc' (S (gl (ps.foldl stp []))) tj jj hJ (by omega) ta ja ha ((gl (ps.foldl stp [])).length) (by have : (gl (ps.foldl stp [])).length ≤ 801 := hjl; omega) (by
      rw [len_app]
      show ((1 + (gl (ps.foldl stp [])).length : Nat) : Int) = _
      omega) A2.ok A2.rep fun h3 D3 => ?_
    exact kk h3 (A2.next D3)
theorem normB (t : Told w b1 b2) (ri fl fr : Addr) (ps : List (List Nat)) (hne : ps ≠ []) (hf : ∀ p ∈ ps, 47 ∉ p) (hl : (gl ps).length ≤ 800) (hn : ps.length ≤ 30) (p2 : List Nat) (tp : Tok) (N Tn : Nat) (c : Nat) (hc : ([c] == [47]) = false) (e : gl ps = c :: p2) :
    ∃ tn g j, FnOk w b1 b2 (.call (Value.ref 152) ⟨[Value.str (S (47 :: 47 :: c :: p2)) tp], []⟩) (nmC ri fl fr (S (47 :: 47 :: c :: p2)) tp) N Tn (S ([47, 47] ++ gl (ps.foldl stp []))) tn g j := by
  obtain ⟨ts, js, hts, hsp⟩ := splitSl w ps hne hf (by omega) (Tn + 33) (Tn + 5) (N + 15) (Tn + 37)
  rw [e] at hsp
  have hcd := zip_cdS ps ts hts
  have hw := gl_wt ps hne
  cases hz : (ps.map S).zip ts with
  | nil =>
    rw [hz] at hcd
    exact absurd hcd.symm hne
  | cons x todo =>
    rw [hz] at hcd
    have hlen : (x :: todo).length ≤ 30 := by
      have := congrArg List.length hcd
      rw [List.length_map] at this
      omega
    obtain ⟨N', T', m', k15', tc', c0', nl', q1, q2, q3, q4⟩ := norm_loop1 (w := w) (b1 := b1) (b2 := b2) (N + 15) (N + 17) N (N + 16) ri fl fr Tn (Tn + 33) (Tn + 6) (Tn + 5) (Tn + 8) (Tn + 7) (Tn + 10) (Tn + 9) (Tn + 34) (Tn + 20) (Tn + 35) (Tn + 31) (Tn + (37 + js)) (Tn + (37 + js + 1)) z37 (S (c :: p2)) 1 (by decide) rfl x todo (N + 18) 0 (Tn + (37 + js + 2)) hlen (fun c hc => by
      have := mem_wt (ps := ps) (p := cdS c) (by rw [← hcd]; exact List.mem_map.mpr ⟨c, hc, rfl⟩)
      have : c.1.length + 1 ≤ wt ps := this
      omega)
    rw [hcd] at q1
    have hwt : wt (nl'.map cdS) ≤ 801 := by
      rw [q1]
      have h1 := wt_fold ps []
      have h2 : wt [] = 0 := rfl
      omega
    have hjt : (joinR (S [47]) nl' (T' + 1)).1 = S (gl (ps.foldl stp [])) := by rw [joinR_text, q1]
    have hjl : (S (gl (ps.foldl stp []))).length ≤ 801 := by
      have := gl_le (nl'.map cdS)
      rw [q1] at this hwt
      show (gl (ps.foldl stp [])).length ≤ _
      omega
    generalize hJ : joinR (S [47]) nl' (T' + 1) = J at hjt
    obtain ⟨jt, tj, jj⟩ := J
    subst hjt
    obtain ⟨ta, ja, ha⟩ := addOk' w z37 (Tn + 31) (S (gl (ps.foldl stp []))) tj N' (T' + (1 + jj)) (by decide) (small_line (by
      rw [len_app]
      have h47 : z37.length ≤ 2 := by decide
      omega))
    rw [← S_app]
    refine ⟨ta, N' - N, T' + (1 + jj + ja + 3) - Tn, fnOk_of t rfl fun p G h d os R A kk => ?_⟩
    rw [show N + (N' - N) = N' + 0 + 0 from by omega, show Tn + (T' + (1 + jj + ja + 3) - Tn) = T' + (1 + jj + ja + 3) from by omega] at kk
    refine Nb_go (pos := p) (aD := ri) (aB := fl) (aA := fr) p2 tp c hc (by rw [e] at hl; simp only [List.length_cons, List.length_nil] at hl; omega) (ps.map S) ts js hsp A.ok A.rep fun h1 pp D1 => ?_
    have A1 : At w b1 b2 h [] [] h1 (N + 18 + 0) [(N + 15, lsO ⟨zipV (ps.map S) ts⟩ 0), _, _, _] := A.next D1
    rw [zipV_sv, hz] at A1
    refine q4 h1 pp A1 fun h2 A2 => ?_
    refine Nkb_go (pos := p) (G := G) (aD := ri) (aB := fl) (aA := fr) p2 tp c hc (by rw [e] at hl; simp only [List.length_cons, List.length_nil] at hl; omega) (ps.map S) ts js hsp (N2 := N') (Tn2 := T') nl' m' (by rw [fold_wt]; omega) c0' tc' (S (gl (ps.foldl stp []))) tj jj hJ (by omega) ta ja ha (1 + (gl (ps.foldl stp [])).length) (by have : (gl (ps.foldl stp [])).length ≤ 801 := hjl; omega) (by
      rw [len_app]
      show ((2 + (gl (ps.foldl stp [])).length : Nat) : Int) = _
      omega) A2.ok A2.rep fun h3 D3 => ?_
    exact kk h3 (A2.next D3)
theorem norm0 (t : Told w b1 b2) (ri fl fr : Addr) (ps : List (List Nat)) (hne : ps ≠ []) (hf : ∀ p ∈ ps, 47 ∉ p) (hl : (gl ps).length ≤ 800) (hn : ps.length ≤ 30) (p2 : List Nat) (tp : Tok) (N Tn : Nat) (hp2 : p2.length ≤ 800) (e : gl ps = []) :
    ∃ tn g j, FnOk w b1 b2 (.call (Value.ref 152) ⟨[Value.str (S ([47, 47])) tp], []⟩) (nmC ri fl fr (S ([47, 47])) tp) N Tn (S ([47, 47] ++ gl (ps.foldl stp []))) tn g j := by
  obtain ⟨ts, js, hts, hsp⟩ := splitSl w ps hne hf (by omega) (Tn + (31 + 0 + 1)) (Tn + 5) (N + 15) (Tn + (31 + 0 + 5))
  rw [e] at hsp
  have hcd := zip_cdS ps ts hts
  have hw := gl_wt ps hne
  cases hz : (ps.map S).zip ts with
  | nil =>
    rw [hz] at hcd
    exact absurd hcd.symm hne
  | cons x todo =>
    rw [hz] at hcd
    have hlen : (x :: todo).length ≤ 30 := by
      have := congrArg List.length hcd
      rw [List.length_map] at this
      omega
    obtain ⟨N', T', m', k15', tc', c0', nl', q1, q2, q3, q4⟩ := norm_loop1 (w := w) (b1 := b1) (b2 := b2) (N + 15) (N + 17) N (N + 16) ri fl fr Tn (Tn + (31 + 0 + 1)) (Tn + 6) (Tn + 5) (Tn + 8) (Tn + 7) (Tn + 10) (Tn + 9) (Tn + (31 + 0 + 2)) (Tn + 20) (Tn + (31 + 0 + 3)) tp (Tn + (31 + 0 + 5 + js)) (Tn + (31 + 0 + 5 + js + 1)) z37 (S []) 1 (by decide) rfl x todo (N + 18) 0 (Tn + (31 + 0 + 5 + js + 2)) hlen (fun c hc => by
      have := mem_wt (ps := ps) (p := cdS c) (by rw [← hcd]; exact List.mem_map.mpr ⟨c, hc, rfl⟩)
      have : c.1.length + 1 ≤ wt ps := this
      omega)
    rw [hcd] at q1
    have hwt : wt (nl'.map cdS) ≤ 801 := by
      rw [q1]
      have h1 := wt_fold ps []
      have h2 : wt [] = 0 := rfl
      omega
    have hjt : (joinR (S [47]) nl' (T' + 1)).1 = S (gl (ps.foldl stp [])) := by rw [joinR_text, q1]
    have hjl : (S (gl (ps.foldl stp []))).length ≤ 801 := by
      have := gl_le (nl'.map cdS)
      rw [q1] at this hwt
      show (gl (ps.foldl stp [])).length ≤ _
      omega
    generalize hJ : joinR (S [47]) nl' (T' + 1) = J at hjt
    obtain ⟨jt, tj, jj⟩ := J
    subst hjt
    obtain ⟨ta, ja, ha⟩ := addOk' w z37 (tp) (S (gl (ps.foldl stp []))) tj N' (T' + (1 + jj)) (by decide) (small_line (by
      rw [len_app]
      have h47 : z37.length ≤ 2 := by decide
      omega))
    rw [← S_app]
    refine ⟨ta, N' - N, T' + (1 + jj + ja + 3) - Tn, fnOk_of t rfl fun p G h d os R A kk => ?_⟩
    rw [show N + (N' - N) = N' + 0 + 0 from by omega, show Tn + (T' + (1 + jj + ja + 3) - Tn) = T' + (1 + jj + ja + 3) from by omega] at kk
    refine N0_go (pos := p) (aD := ri) (aB := fl) (aA := fr) p2 tp  (by rw [e] at hl; simp only [List.length_cons, List.length_nil] at hl; exact hp2) (ps.map S) ts js hsp A.ok A.rep fun h1 pp D1 => ?_
    have A1 : At w b1 b2 h [] [] h1 (N + 18 + 0) [(N + 15, lsO ⟨zipV (ps.map S) ts⟩ 0), _, _, _] := A.next D1
    rw [zipV_sv, hz] at A1
    refine q4 h1 pp A1 fun h2 A2 => ?_
    refine Nk0_go (pos := p) (G := G) (aD := ri) (aB := fl) (aA := fr) p2 tp  (by rw [e] at hl; simp only [List.length_cons, List.length_nil] at hl; exact hp2) (ps.map S) ts js hsp (N2 := N') (Tn2 := T') nl' m' (by rw [fold_wt]; omega) c0' tc' (S (gl (ps.foldl stp []))) tj jj hJ (by omega) ta ja ha (1 + (gl (ps.foldl stp [])).length) (by have : (gl (ps.foldl stp [])).length ≤ 801 := hjl; omega) (by
      rw [len_app]
      show ((2 + (gl (ps.foldl stp [])).length : Nat) : Int) = _
      omega) A2.ok A2.rep fun h3 D3 => ?_
    exact kk h3 (A2.next D3)
end
/-- each quote mark written out -/
noncomputable def rep : List Nat → List Nat
  | [] => []
  | c :: r => if c = 39 then 39 :: 34 :: 39 :: 34 :: 39 :: rep r else c :: rep r
noncomputable def saf (a b c : Nat) : Bool := safeD a && safeD b && safeD c
/-- a way as quote writes it -/
noncomputable def qtW (a b c : Nat) : List Nat := if saf a b c then wayL a b c else 39 :: (rep (wayL a b c) ++ [39])
noncomputable def occW (a b c : Nat) : List Nat := Builtin.Str.occurrences (S (wayL a b c)) (S [39]) 0 (S (wayL a b c)).length ((S (wayL a b c)).length + 1)
noncomputable def chkW (a b c : Nat) : Bool :=
  (if (occW a b c).isEmpty then rep (wayL a b c) == wayL a b c
  else (Builtin.Str.glued z56 (Builtin.Str.partsBetween (S (wayL a b c)) (occW a b c) 1)).cps.toList == rep (wayL a b c)) && decide ((occW a b c).length ≤ 15) && decide ((rep (wayL a b c)).length ≤ 100) && decide (2 ≤ (wayL a b c).length) && decide ((wayL a b c).length ≤ 14)
theorem mem_six6 {b c : Nat} (hb : b < 6) (hc : c < 6) : (b, c) ∈ six6 := (by decide : ∀ b, b < 6 → ∀ c, c < 6 → (b, c) ∈ six6) b hb c hc
theorem chk_all : ([0, 1, 2, 3, 4, 5].all fun a => six6.all fun y => chkW a y.1 y.2) = true := by decide +kernel
theorem mem6 {a : Nat} (h : a < 6) : a ∈ [0, 1, 2, 3, 4, 5] := by
  rcases six h with rfl | rfl | rfl | rfl | rfl | rfl <;> decide
theorem chk (a b c : Nat) (ha : a < 6) (hb : b < 6) (hc : c < 6) : chkW a b c = true := List.all_eq_true.mp (List.all_eq_true.mp chk_all a (mem6 ha)) (b, c) (mem_six6 hb hc)
theorem S_of {x : Str} {l : List Nat} (h : x.cps.toList = l) : x = S l := by
  obtain ⟨⟨x⟩⟩ := x
  have h' : x = l := h
  rw [h']
section
variable {w : World} {b1 b2 : Bool} {N Tn : Nat}
theorem repOk (a b c : Nat) (ha : a < 6) (hb : b < 6) (hc : c < 6) (tx tu tv : Tok) (n tk : Nat) (h1 : tu ≠ 0) (h2 : tv ≠ 0) (h3 : tu ≠ tv) : ∃ trx jr, RepOk w (S (wayL a b c)) tx (S [39]) tu z56 tv n tk (S (rep (wayL a b c))) trx jr := by
  have hk := chk a b c ha hb hc
  simp only [chkW, Bool.and_eq_true, decide_eq_true_eq] at hk
  obtain ⟨⟨⟨⟨hk, hl⟩, hr⟩, _⟩, hx⟩ := hk
  have g := gives_str_replace (S (wayL a b c)) (S [39]) z56 tx tu tv (fun _ => ⟨by simp [h1, h2], by simp [h3], by decide, by
    have : (S (wayL a b c)).length = (wayL a b c).length := rfl
    show Builtin.Str.tooLong ((S (wayL a b c)).length + (occW a b c).length * 5) = false
    simp only [Builtin.Str.tooLong, decide_eq_false_iff_not, sizeLine_eq]
    omega⟩)
  cases he : (occW a b c).isEmpty with
  | true =>
    rw [he] at hk
    have hk' : rep (wayL a b c) = wayL a b c := by simpa using hk
    refine ⟨tx, 0, fun Γ p s hs => ok_of_any (any_gives F.slot_str_replace (typeIs_str _ _ _) F.entry_str_replace (F.args_str_replace_3 _ _ _) g ?_)⟩
    rw [hk']
    have : ((Builtin.Str.occurrences (S (wayL a b c)) (S [39]) 0 (S (wayL a b c)).length ((S (wayL a b c)).length + 1)).isEmpty || ((S [39]).length == 0 && z56.length == 0)) = true := by
      have : (Builtin.Str.occurrences (S (wayL a b c)) (S [39]) 0 (S (wayL a b c)).length ((S (wayL a b c)).length + 1)).isEmpty = true := he
      rw [this]; rfl
    rw [if_pos this]
    exact ⟨rfl, Eff.same s⟩
  | false =>
    rw [he] at hk
    have hk' := S_of (show (Builtin.Str.glued z56 (Builtin.Str.partsBetween (S (wayL a b c)) (occW a b c) 1)).cps.toList = rep (wayL a b c) by simpa using hk)
    refine ⟨tk, 1, fun Γ p s hs => ok_of_any (any_gives F.slot_str_replace (typeIs_str _ _ _) F.entry_str_replace (F.args_str_replace_3 _ _ _) g ?_)⟩
    have : ((Builtin.Str.occurrences (S (wayL a b c)) (S [39]) 0 (S (wayL a b c)).length ((S (wayL a b c)).length + 1)).isEmpty || ((S [39]).length == 0 && z56.length == 0)) = false := by
      have : (Builtin.Str.occurrences (S (wayL a b c)) (S [39]) 0 (S (wayL a b c)).length ((S (wayL a b c)).length + 1)).isEmpty = false := he
      rw [this]; rfl
    rw [if_neg (by rw [this]; simp)]
    show (Made.str (Builtin.Str.glued z56 (Builtin.Str.partsBetween (S (wayL a b c)) (occW a b c) 1))).post _ s
    rw [hk']
    refine ⟨?_, by rw [hs], Eff.tok s 1⟩
    show (rep (wayL a b c)).length ≤ _
    rw [sizeLine_eq]; omega
theorem se_ok (t : Told w b1 b2) {B : List (Code × Pos)} {x : List Nat} {tx : Tok} {b : Bool} (h : ∀ pos G, ((seR w b1 b2 N Tn pos G B tx x).out [], (seR w b1 b2 N Tn pos G B tx x).lhs) = (seO b N G, (seR w b1 b2 N Tn pos G B tx x).rhs)) :
    SeOk w b1 b2 (.call (Value.ref 888) ⟨[Value.str (S x) tx], []⟩) (seC B tx x) N Tn (bif b then .none else .ref (N + 1)) (bif b then 0 else 2) := by
  refine ok_of_run t (L := ltL []) (obs := []) (objs := []) (upd := none) (new := none) (pre := []) rfl rfl List.nodup_nil (fun p G => ⟨30, [0, 0, 0, 0, 0, 0], 0, [], ?_⟩) (fun _ _ x hx => nomatch hx) (fun _ _ x hx => nomatch hx) (fun _ _ x hx => nomatch hx)
  have := h p G
  cases b <;> exact this
/-- what lies below a call of quote -/
noncomputable abbrev qB (aV aT bE aG aI aK aA : Addr) (aL : Tok) : List (Code × Pos) := [(.compLoop ge895 0 (Value.ref aV) Value.none ⟨(compScope ge895), aT, 3, [], z39, none, (Value.ref bE), (some aT), 0⟩, ⟨895, 21, 895, 31⟩), (.builtin "generator.__next__" ⟨[(Value.ref aG)], []⟩, ⟨895, 11, 895, 58⟩), (.builtin "list.extend.loop" ⟨[(Value.ref aI), (Value.ref aG), (Value.ref aI)], []⟩, ⟨895, 11, 895, 58⟩), (.builtin "str.join" ⟨[(Value.str (S [32]) aL), (Value.ref aG)], []⟩, ⟨895, 11, 895, 58⟩), (k887 aK ⟨895, 11, 895, 58⟩), (k921 aA ⟨938, 17, 938, 34⟩), callerB]
abbrev QOk (w : World) (b1 b2 : Bool) (B : List (Code × Pos)) (x : Str) (tx : Tok) (N Tn : Nat) (q : Str) : Prop := ∃ tq g j, FnOk w b1 b2 (.call (Value.ref 895) ⟨[Value.str x tx], []⟩) ⟨.call (Value.ref 895) ⟨[Value.str x tx], []⟩, none, none, B, none⟩ N Tn q tq g j
variable {aV aT bE aG aI aK aA : Addr} {aL : Tok}
theorem quote_safe (t : Told w b1 b2) (x : List Nat) (tx : Tok) (L : Nat) (hL : L < 900) (hx : x.length = L + 1) (h : ∀ N Tn pos G B tx, ((seR w b1 b2 N Tn pos G B tx x).out [], (seR w b1 b2 N Tn pos G B tx x).lhs) = (seO true N G, (seR w b1 b2 N Tn pos G B tx x).rhs)) :
    QOk w b1 b2 (qB aV aT bE aG aI aK aA aL) (S x) tx N Tn (S x) :=
  ⟨tx, 1, 3, fnOk_of t rfl fun p G h' d os R A kk => Qa_go (pos := p) (S x) tx L hL (by show ((x.length : Nat) : Int) = _; rw [hx]) (se_ok t (b := true) fun pos G => h _ _ pos G _ _) A.ok A.rep fun h'' D => kk h'' (show At w b1 b2 h' [] [] h'' (N + 1 + 0) [] from A.next D)⟩
theorem quote_rank (t : Told w b1 b2) (r : Int) (hr : r = 0 ∨ r = 1 ∨ r = 2 ∨ r = 3 ∨ r = 4) (tx : Tok) : QOk w b1 b2 (qB aV aT bE aG aI aK aA aL) (S (rankS r)) tx N Tn (S (rankS r)) :=
  quote_safe t _ tx 0 (by decide) rfl fun N Tn pos G B tx => List.map_inj_left.mp (seRs w b1 b2 N Tn pos G B tx) (48 + r.toNat) (by rcases hr with rfl | rfl | rfl | rfl | rfl <;> decide)
theorem quote_way (t : Told w b1 b2) (a b c : Nat) (ha : a < 6) (hb : b < 6) (hc : c < 6) (tx : Tok) : QOk w b1 b2 (qB aV aT bE aG aI aK aA aL) (S (wayL a b c)) tx N Tn (S (qtW a b c)) := by
  have hk := chk a b c ha hb hc
  simp only [chkW, Bool.and_eq_true, decide_eq_true_eq] at hk
  obtain ⟨⟨⟨⟨_, _⟩, hrl⟩, hx1⟩, hx⟩ := hk
  cases hs : saf a b c with
  | true =>
    have e : qtW a b c = wayL a b c := by simp [qtW, hs]
    rw [e]
    refine quote_safe t _ tx ((wayL a b c).length - 1) (by omega) (by omega) fun N Tn pos G B tx => ?_
    have := seW w b1 b2 N Tn pos G B tx a b c ha hb hc
    rw [show (safeD a && safeD b && safeD c) = true from hs] at this
    exact this
  | false =>
    have e : qtW a b c = 39 :: (rep (wayL a b c) ++ [39]) := by simp [qtW, hs]
    rw [e]
    obtain ⟨trx, jr, hr⟩ := repOk (w := w) a b c ha hb hc tx (Tn + 4) (Tn + 5) (N + (1 + 2)) (Tn + 6) (Nat.succ_ne_zero _) (Nat.succ_ne_zero _) (Nat.ne_of_lt (Nat.lt_succ_self _))
    have hrn : (S (rep (wayL a b c))).length ≠ 0 := by
      show (rep (wayL a b c)).length ≠ 0
      match hw : wayL a b c, hx1 with
      | [], h => exact absurd h (by simp)
      | z :: r, _ => unfold rep; split <;> simp
    have e2 : S (39 :: (rep (wayL a b c) ++ [39])) = ((S [39]) ++ S (rep (wayL a b c))) ++ (S [39]) := by rw [S_app, S_app]; rfl
    rw [e2]
    have hse : ∀ N Tn pos G B tx, ((seR w b1 b2 N Tn pos G B tx (wayL a b c)).out [], (seR w b1 b2 N Tn pos G B tx (wayL a b c)).lhs) = (seO false N G, (seR w b1 b2 N Tn pos G B tx (wayL a b c)).rhs) := fun N Tn pos G B tx => by
      have := seW w b1 b2 N Tn pos G B tx a b c ha hb hc
      rwa [show (safeD a && safeD b && safeD c) = false from hs] at this
    refine ⟨Tn + (6 + jr + 2), 1 + 2, 6 + jr + 3, fnOk_of t rfl fun p G h' d os R A kk => Qb_go (pos := p) (S (wayL a b c)) tx ((wayL a b c).length - 1) (by omega) (by show ((wayL a b c).length : Int) = (((wayL a b c).length - 1 + 1 : Nat) : Int); congr 1; omega) 2 (se_ok t (b := false) fun pos G => hse _ _ pos G _ _) (S (rep (wayL a b c))) trx jr hr hrn (by show (rep (wayL a b c)).length ≤ 800; omega) A.ok A.rep fun h'' D => kk h'' (show At w b1 b2 h' [] [] h'' (N + (1 + 2) + 0) [] from A.next D)⟩
end
theorem wake_fresh {M : Model} {Γ : Ctx} {p : Pos} {c : Code} {h : Heap} {d : Drawn} {T : Nat} {os : OsState} {K : GenResult → Shared → Prop}
    (hr : ∃ e s', Runs M (Γ.wake c p) p (M.den c) [] ⟨h, ⟨[.running]⟩, d, T, os⟩ e s' ∧ (e.quiet = true ∧ K e.result (s'.setGen 0 e.genState))) :
    ∃ res s', Wakes M Γ p 0 (.send .none) ⟨h, ⟨[.fresh c]⟩, d, T, os⟩ res s' ∧ K res s' := by
  obtain ⟨e, s', hr, hq, hk⟩ := hr
  exact ⟨_, _, ⟨e, s', hr, hq, rfl, rfl⟩, hk⟩
theorem wake_susp {M : Model} {Γ : Ctx} {p pc : Pos} {c : Code} {kc : Resume → Sem Fin} {lc : List Value} {h : Heap} {d : Drawn} {T : Nat} {os : OsState} {K : GenResult → Shared → Prop} (hk : kc (.send .none) = .pure (.again c)) (hc : c.quiet = true)
    (hr : ∃ e s', Runs M (Γ.wake c p) pc (M.den c) [] ⟨h, ⟨[.running]⟩, d, T, os⟩ e s' ∧ (e.quiet = true ∧ K e.result (s'.setGen 0 e.genState))) :
    ∃ res s', Wakes M Γ p 0 (.send .none) ⟨h, ⟨[.suspended kc lc c pc [] false]⟩, d, T, os⟩ res s' ∧ K res s' := by
  obtain ⟨e, s', hr, hq, hk'⟩ := hr
  refine ⟨_, _, ⟨e, s', ?_, hq, rfl, rfl⟩, hk'⟩
  rw [hk]
  exact .again hc hr
noncomputable abbrev genO (k1 k2 : Tok) : Obj := ⟨y7, none, .fields ⟨[(Value.int 0 0), (Value.str z41 k1), (Value.str z42 k2)]⟩, ⟨[]⟩⟩
noncomputable abbrev gnF1 (w : World) (b1 b2 : Bool) (k : Tok) (it : Addr) : Obj := (fO 1 [de w b1 b2 z40 k (Value.ref it)])
noncomputable abbrev gnF2 (w : World) (b1 b2 : Bool) (k k2 : Tok) (it : Addr) (x : Str) (tx : Tok) : Obj := (fO 2 [de w b1 b2 z40 k (Value.ref it), de w b1 b2 z55 k2 (Value.str x tx)])
noncomputable abbrev genE (bE aT : Addr) : Env := ⟨(compScope ge895), aT, 3, [], z39, none, (Value.ref bE), (some aT), 0⟩
noncomputable abbrev genC (aV bE aT : Addr) : Code := .compLoop ge895 0 (Value.ref aV) Value.none (genE bE aT)
section
variable {w : World} {b1 b2 : Bool} {h₀ : Heap} {U : List Addr} {d : Drawn} {os : OsState} {R : Result → Shared → Prop} {F : Rw} {bJ aV aT bE aG aI aK aA : Addr} {aL fC aY aZ : Tok} {m : Nat}
theorem gen_loop2 {gM : Tok} (Q : Str → Str) (todo : List (Str × Tok)) : ∀ (done l : List (Str × Tok)) (N Tn n : Nat) (h : Heap) (x0 : Str) (tx0 : Tok) (kc : Resume → Sem Fin) (lc : List Value) (pc : Pos), (done ++ todo).length ≤ 16 → l.map (·.1) = done.map (fun y => Q y.1) →
    (∀ y ∈ todo, ∀ N Tn, QOk w b1 b2 (qB aV aT bE aG aI aK aA aL) y.1 y.2 N Tn (Q y.1)) → kc (.send .none) = .pure (.again (genC aV bE aT)) →
    At w b1 b2 h₀ U F h N [(aI, lsO ⟨strValues l⟩ n), (aG, genO aY aZ), (bJ, lsO ⟨strValues (done ++ todo)⟩ m), (aV, liO bJ (done.length : Int)), (aT, gnF2 w b1 b2 fC gM aV x0 tx0)] →
    (∀ h' N' T' l' n', l'.map (·.1) = (done ++ todo).map (fun y => Q y.1) → At w b1 b2 h₀ U F h' N' [(aI, lsO ⟨strValues l'⟩ n'), (bJ, lsO ⟨strValues (done ++ todo)⟩ m)] → R (.ok (.ret (.ref aI))) ⟨h', ⟨[.finished]⟩, d, T', os⟩) →
    wpCode (mdl w) (Gt_g aI aG aK aA aL) R ⟨895, 11, 895, 58⟩ ⟨h, ⟨[.suspended kc lc (genC aV bE aT) pc [] false]⟩, d, Tn, os⟩ := by
  induction todo with
  | nil =>
    intro done l N Tn n h x0 tx0 kc lc pc hl hk hq hkc A kk
    rw [List.append_nil] at A hl kk
    have A1 := A.freeze (l := [_, _]) (e := [_, _, _])
    refine Gt_go (strValues l) n A1.ok A1.rep fun h1 D1 => ?_
    have A2 := (((A1.next D1).thaw (l := [_, _]) (e := [_, _, _])).pick [1, 0, 2, 3, 4] (l' := [_, _, _, _, _]) rfl (by decide)).freeze (l := [_]) (e := [_, _, _, _])
    refine Gns_go kc lc pc A2.ok A2.rep fun h2 D2 => ?_
    have A3 := (((A2.next D2).thaw (l := [_]) (e := [_, _, _, _])).pick [2, 3, 1] (l' := [_, _, _]) rfl (by decide)).freeze (l := [_, _]) (e := [_])
    refine wake_susp hkc rfl ?_
    rw [show (done.length : Int) = ((strValues done).length : Int) from by rw [sv_len]] at A3
    refine Ge_go (G := [.running]) (strValues done) m (by rw [sv_len]; exact hl) A3.ok A3.rep fun h3 D3 => ⟨rfl, ?_⟩
    have A4 := ((A3.next D3).thaw (l := [_]) (e := [_])).freeze (l := []) (e := [_, _])
    refine Gkes_go kc lc pc [.finished] A4.ok A4.rep fun h4 D4 => ?_
    have A5 := (((A4.next D4).thaw (l := [_]) (e := [_, _])).pick [2, 0, 1] (l' := [_, _, _]) rfl (by decide)).freeze (l := [_, _]) (e := [_])
    refine Gxe_go (strValues l) n (N + 0 + 0 + 0 + 0 + 2 + 0 + 1) [.finished] A5.ok A5.rep fun h5 D5 => ?_
    exact kk h5 _ _ l n hk ((A5.next D5).thaw (l := [_]) (e := [_]))
  | cons y todo ih =>
    intro done l N Tn n h x0 tx0 kc lc pc hl hk hq hkc A kk
    have A1 := A.freeze (l := [_, _]) (e := [_, _, _])
    refine Gt_go (strValues l) n A1.ok A1.rep fun h1 D1 => ?_
    have A2 := (((A1.next D1).thaw (l := [_, _]) (e := [_, _, _])).pick [1, 0, 2, 3, 4] (l' := [_, _, _, _, _]) rfl (by decide)).freeze (l := [_]) (e := [_, _, _, _])
    refine Gns_go kc lc pc A2.ok A2.rep fun h2 D2 => ?_
    have A3 := (((A2.next D2).thaw (l := [_]) (e := [_, _, _, _])).pick [2, 3, 4, 1, 0] (l' := [_, _, _, _, _]) rfl (by decide)).freeze (l := [_, _, _]) (e := [_, _])
    refine wake_susp hkc rfl ?_
    obtain ⟨tq, gq, jq, hQ⟩ := hq y (.head _) (N + 0 + 0 + 0 + 0) (Tn + 0 + 0 + 1)
    refine Gy2_go (G := [.running]) (strValues (done ++ y :: todo)) m done.length y.1 (Q y.1) y.2 (sv_get done todo y) x0 tq gq jq hQ A3.ok A3.rep fun h3 pp lc' kc' D3 hkc' => ⟨rfl, ?_⟩
    have A4 := ((A3.next D3).thaw (l := [_, _, _]) (e := [_, _])).freeze (l := []) (e := [_, _, _, _, _])
    refine Gks_go kc lc pc (Value.str (Q y.1) tq) [.suspended kc' lc' (genC aV bE aT) pp [] false] A4.ok A4.rep fun h4 D4 => ?_
    have A5 := (((A4.next D4).thaw (l := []) (e := [_, _, _, _, _])).pick [3, 4, 0, 1, 2] (l' := [_, _, _, _, _]) rfl (by decide)).freeze (l := [_]) (e := [_, _, _, _])
    have hll : (strValues l).length < 17 := by
      have h1 := congrArg List.length hk
      rw [List.length_map, List.length_map] at h1
      rw [sv_len, h1]
      rw [List.length_append, List.length_cons] at hl
      omega
    refine Gx_go (strValues l) n (Value.str (Q y.1) tq) hll [.suspended kc' lc' (genC aV bE aT) pp [] false] A5.ok A5.rep fun h5 D5 => ?_
    have A6 := (A5.next D5).thaw (l := [_]) (e := [_, _, _, _])
    have e : done ++ y :: todo = (done ++ [y]) ++ todo := by rw [List.append_assoc]; rfl
    have el : ((done.length : Int) + 1) = ((done ++ [y]).length : Int) := by simp
    rw [e, el, sv_snoc l (Q y.1, tq)] at A6
    exact ih (done ++ [y]) (l ++ [(Q y.1, tq)]) _ _ (n + 1) h5 y.1 y.2 kc' lc' pp (by rw [← e]; exact hl) (by rw [List.map_append, hk, List.map_append]; rfl) (fun z hz => hq z (.tail _ hz)) hkc' A6 (by rw [← e]; exact kk)
noncomputable abbrev genS (aV bE aT : Addr) : Code := .compStart ge895 0 (Value.ref aV) Value.none (genE bE aT)
theorem gen_loop1 (Q : Str → Str) (y : Str × Tok) (todo : List (Str × Tok)) (N Tn n : Nat) (h : Heap) (hl : (y :: todo).length ≤ 16)
    (hq : ∀ z ∈ y :: todo, ∀ N Tn, QOk w b1 b2 (qB aV aT bE aG aI aK aA aL) z.1 z.2 N Tn (Q z.1))
    (A : At w b1 b2 h₀ U F h N [(aI, lsO ⟨[]⟩ n), (aG, genO aY aZ), (bJ, lsO ⟨strValues (y :: todo)⟩ m), (aV, liO bJ 0), (aT, gnF1 w b1 b2 fC aV)])
    (kk : ∀ h' N' T' l' n', l'.map (·.1) = (y :: todo).map (fun y => Q y.1) → At w b1 b2 h₀ U F h' N' [(aI, lsO ⟨strValues l'⟩ n'), (bJ, lsO ⟨strValues (y :: todo)⟩ m)] → R (.ok (.ret (.ref aI))) ⟨h', ⟨[.finished]⟩, d, T', os⟩) :
    wpCode (mdl w) (Gt_g aI aG aK aA aL) R ⟨895, 11, 895, 58⟩ ⟨h, ⟨[.fresh (genS aV bE aT)]⟩, d, Tn, os⟩ := by
  have A1 := A.freeze (l := [_, _]) (e := [_, _, _])
  refine Gt_go [] n A1.ok A1.rep fun h1 D1 => ?_
  have A2 := (((A1.next D1).thaw (l := [_, _]) (e := [_, _, _])).pick [1, 0, 2, 3, 4] (l' := [_, _, _, _, _]) rfl (by decide)).freeze (l := [_]) (e := [_, _, _, _])
  refine Gnf_go A2.ok A2.rep fun h2 D2 => ?_
  have A3 := (((A2.next D2).thaw (l := [_]) (e := [_, _, _, _])).pick [2, 3, 4, 1, 0] (l' := [_, _, _, _, _]) rfl (by decide)).freeze (l := [_, _, _]) (e := [_, _])
  refine wake_fresh ?_
  obtain ⟨tq, gq, jq, hQ⟩ := hq y (.head _) (N + 0 + 0 + 0 + 0) (Tn + 0 + 0 + 1)
  refine Gy1_go (G := [.running]) (strValues (y :: todo)) m 0 y.1 (Q y.1) y.2 (sv_get [] todo y) tq gq jq hQ A3.ok A3.rep fun h3 pp lc' kc' D3 hkc' => ⟨rfl, ?_⟩
  have A4 := ((A3.next D3).thaw (l := [_, _, _]) (e := [_, _])).freeze (l := []) (e := [_, _, _, _, _])
  refine Gkf_go (Value.str (Q y.1) tq) [.suspended kc' lc' (genC aV bE aT) pp [] false] A4.ok A4.rep fun h4 D4 => ?_
  have A5 := (((A4.next D4).thaw (l := []) (e := [_, _, _, _, _])).pick [3, 4, 0, 1, 2] (l' := [_, _, _, _, _]) rfl (by decide)).freeze (l := [_]) (e := [_, _, _, _])
  refine Gx_go [] n (Value.str (Q y.1) tq) (by decide) [.suspended kc' lc' (genC aV bE aT) pp [] false] A5.ok A5.rep fun h5 D5 => ?_
  have A6 := (A5.next D5).thaw (l := [_]) (e := [_, _, _, _])
  exact gen_loop2 Q todo [y] [(Q y.1, tq)] _ _ (n + 1) h5 y.1 y.2 kc' lc' pp hl rfl (fun z hz => hq z (.tail _ hz)) hkc' A6 kk
theorem gen_join (Q : Str → Str) (xs : List (Str × Tok)) (N Tn : Nat) (h : Heap) (h2 : 2 ≤ xs.length) (hl : xs.length ≤ 16)
    (hq : ∀ z ∈ xs, ∀ aI N Tn, QOk w b1 b2 (qB aV aT bE aG aI aK aA aL) z.1 z.2 N Tn (Q z.1))
    (hs : (xs.map fun y => Q y.1).toArray.foldl (· + ·.length + (S [32]).length) 0 ≤ 1000) (hs2 : (Builtin.Str.glued (S [32]) (xs.map fun y => Q y.1)).length ≤ 1000)
    (A : At w b1 b2 h₀ U F h N [(aG, genO aY aZ), (bJ, lsO ⟨strValues xs⟩ m), (aV, liO bJ 0), (aT, gnF1 w b1 b2 fC aV)])
    (kk : ∀ h' N' T', At w b1 b2 h₀ U F h' N' [(bJ, lsO ⟨strValues xs⟩ m)] → R (.ok (.ret (.str (Builtin.Str.glued (S [32]) (xs.map fun y => Q y.1)) T'))) ⟨h', ⟨[.finished]⟩, d, T' + 1, os⟩) :
    wpCode (mdl w) (S1_g aG aK aA aL) R ⟨895, 11, 895, 58⟩ ⟨h, ⟨[.fresh (genS aV bE aT)]⟩, d, Tn, os⟩ := by
  have A1 := A.freeze (l := [_]) (e := [_, _, _])
  refine S1_go A1.ok A1.rep fun h1 D1 => ?_
  have A2 := A1.next D1
  have hne : N + 0 + 0 ≠ aG := fun e => by
    have := Heap.lt_size (A2.own _ (.head _)).1
    rw [A2.size] at this
    exact absurd this (e ▸ Nat.lt_irrefl _)
  refine G0_go A2.ok A2.rep hne fun h3 D3 => ?_
  have A3 := (((A2.next D3).thaw (l := [_, _]) (e := [_, _, _])).pick [1, 0, 2, 3, 4] (l' := [_, _, _, _, _]) rfl (by decide))
  match xs, h2 with
  | y :: todo, h2 =>
    refine gen_loop1 Q y todo _ _ 2 h3 hl (fun z hz => hq z hz _) A3 fun h4 N4 T4 l n hk A4 => ?_
    have A5 := A4.freeze (l := [_]) (e := [_])
    have hll : l.length = (y :: todo).length := by
      have h1 := congrArg List.length hk
      rwa [List.length_map, List.length_map] at h1
    refine S2_go l (by omega) (by omega) (by rw [hk]; exact hs) (by rw [hk]; exact hs2) A5.ok A5.rep fun h6 D6 => ?_
    rw [hk]
    exact kk h6 _ _ (((A5.next D6).thaw (l := [_]) (e := [_])).pick [1] (l' := [_]) rfl (by decide))
end
section
variable (w : World) (b1 b2 : Bool) (N Tn : Nat) (pos : Pos) (G : List GenState)
section
variable (aF dJ aA bG bJ : Addr) (eM eN eO : Tok) (am : Addr) (tr tw : Tok) (ms ws : List Value) (n m k : Nat) (r : Int) (w' : Str) (hx : ms[k]? = some (rf am)) (hr : r = 0 ∨ r = 1 ∨ r = 2 ∨ r = 3 ∨ r = 4) (hws : ws.length ≤ 900) 
noncomputable abbrev X1_a : Rw := [(aF, (lsO ⟨ms⟩ n)), (dJ, (liO aF (k : Int))), (aA, (fO 3 [de w b1 b2 z32 eM (rf bG), de w b1 b2 z3 eN (rf aF), de w b1 b2 z14 eO (rf bJ)])), (bJ, (lsO ⟨ws⟩ m)), (am, (tupO ⟨[vi r tr, vs w' tw]⟩ 0))]
noncomputable abbrev X1_z : Rw := [(aF, (lsO ⟨ms⟩ n)), (dJ, (liO aF ((k : Int) + 1))), (aA, (fO 5 [de w b1 b2 z32 eM (rf bG), de w b1 b2 z3 eN (rf aF), de w b1 b2 z14 eO (rf bJ), de w b1 b2 z7 Tn (vi r tr), de w b1 b2 z8 (Tn + 1) (vs w' tw)])), (bJ, (lsO ⟨ws ++ [vs (S (rankS r)) (Tn + 2), vs w' tw]⟩ (m + 1))), (am, (tupO ⟨[vi r tr, vs w' tw]⟩ 0))]
noncomputable abbrev X1_g : Ctx := ⟨.forLoop fl936.1 (rf dJ) fl936.2.1 fl936.2.2 (eN921 aA), none, none, [(k921 aA ⟨936, 21, 936, 26⟩), callerB], none⟩
noncomputable abbrev X1_h : Ctx := ⟨.forLoop fl936.1 (rf dJ) fl936.2.1 fl936.2.2 (eN921 aA), none, none, [(k921 aA ⟨936, 21, 936, 26⟩), callerB], none⟩
noncomputable def X1 : Res :=
  (fun _ _ => simC w b1 b2 N Tn 105 (dg 53 0x13000003004444333338665666066656660666566606650555212) [cItNext 1 0 dJ aF ms n k (rf am) hx N Tn, cLExt 3 8 bJ (N + 3) ws [vs (S (rankS r)) (Tn + 2), vs w' tw] m 0 (by simp; omega) (by simp) (N + 4) (Tn + 3)] (X1_g dJ aA) pos (X1_a w b1 b2 aF dJ aA bG bJ eM eN eO am tr tw ms ws n m k r w') 5 G) hr hws
theorem X1_run : RunC (X1 w b1 b2 N Tn pos G aF dJ aA bG bJ eM eN eO am tr tw ms ws n m k r w' hx hr hws) [0, 1, 2, 3, 4] (X1_h dJ aA) 4 3 G (X1_z w b1 b2 Tn aF dJ aA bG bJ eM eN eO am tr tw ms ws n m k r w') := by
  rcases hr with rfl | rfl | rfl | rfl | rfl <;> walk_at "r"
variable {w b1 b2 N Tn pos G aF dJ aA bG bJ eM eN eO}
def X1_go := goC (X1_run w b1 b2 N Tn pos G aF dJ aA bG bJ eM eN eO am tr tw ms ws n m k r w' hx hr hws) (sC rfl) (by decide)
end
section
variable (aF dJ aA bG bJ : Addr) (eM eN eO cC jY cD jZ : Tok) (am : Addr) (tr tw : Tok) (ms ws : List Value) (n m k : Nat) (r : Int) (w' : Str) (hx : ms[k]? = some (rf am)) (hr : r = 0 ∨ r = 1 ∨ r = 2 ∨ r = 3 ∨ r = 4) (hws : ws.length ≤ 900) (r0 : Int) (w0 : Str) 
noncomputable abbrev X2_a : Rw := [(aF, (lsO ⟨ms⟩ n)), (dJ, (liO aF (k : Int))), (aA, (fO 5 [de w b1 b2 z32 eM (rf bG), de w b1 b2 z3 eN (rf aF), de w b1 b2 z14 eO (rf bJ), de w b1 b2 z7 cC (vi r0 jY), de w b1 b2 z8 cD (vs w0 jZ)])), (bJ, (lsO ⟨ws⟩ m)), (am, (tupO ⟨[vi r tr, vs w' tw]⟩ 0))]
noncomputable abbrev X2_z : Rw := [(aF, (lsO ⟨ms⟩ n)), (dJ, (liO aF ((k : Int) + 1))), (aA, (fO 5 [de w b1 b2 z32 eM (rf bG), de w b1 b2 z3 eN (rf aF), de w b1 b2 z14 eO (rf bJ), de w b1 b2 z7 cC (vi r tr), de w b1 b2 z8 cD (vs w' tw)])), (bJ, (lsO ⟨ws ++ [vs (S (rankS r)) (Tn + 2), vs w' tw]⟩ (m + 1))), (am, (tupO ⟨[vi r tr, vs w' tw]⟩ 0))]
noncomputable abbrev X2_g : Ctx := ⟨.forLoop fl936.1 (rf dJ) fl936.2.1 fl936.2.2 (eN921 aA), none, none, [(k921 aA ⟨936, 21, 936, 26⟩), callerB], none⟩
noncomputable abbrev X2_h : Ctx := ⟨.forLoop fl936.1 (rf dJ) fl936.2.1 fl936.2.2 (eN921 aA), none, none, [(k921 aA ⟨936, 21, 936, 26⟩), callerB], none⟩
noncomputable def X2 : Res :=
  (fun _ _ => simC w b1 b2 N Tn 105 (dg 53 0x13000003004444333338665666066656660666566606650555212) [cItNext 1 0 dJ aF ms n k (rf am) hx N Tn, cLExt 3 8 bJ (N + 3) ws [vs (S (rankS r)) (Tn + 2), vs w' tw] m 0 (by simp; omega) (by simp) (N + 4) (Tn + 3)] (X2_g dJ aA) pos (X2_a w b1 b2 aF dJ aA bG bJ eM eN eO cC jY cD jZ am tr tw ms ws n m k r w' r0 w0) 5 G) hr hws
theorem X2_run : RunC (X2 w b1 b2 N Tn pos G aF dJ aA bG bJ eM eN eO cC jY cD jZ am tr tw ms ws n m k r w' hx hr hws r0 w0) [0, 1, 2, 3, 4] (X2_h dJ aA) 4 3 G (X2_z w b1 b2 Tn aF dJ aA bG bJ eM eN eO cC cD am tr tw ms ws n m k r w') := by
  rcases hr with rfl | rfl | rfl | rfl | rfl <;> walk_at "r"
variable {w b1 b2 N Tn pos G aF dJ aA bG bJ eM eN eO cC jY cD jZ}
def X2_go := goC (X2_run w b1 b2 N Tn pos G aF dJ aA bG bJ eM eN eO cC jY cD jZ am tr tw ms ws n m k r w' hx hr hws r0 w0) (sC rfl) (by decide)
end
section
variable (aF dJ aA bG bJ : Addr) (eM eN eO cC cL cD cM : Tok) (ms ws : List Value) (n m : Nat) (hk : ms.length ≤ 8) (r0 : Int) (w0 : Str) 
noncomputable abbrev Xe_a : Rw := [(aF, (lsO ⟨ms⟩ n)), (dJ, (liO aF (ms.length : Int))), (aA, (fO 5 [de w b1 b2 z32 eM (rf bG), de w b1 b2 z3 eN (rf aF), de w b1 b2 z14 eO (rf bJ), de w b1 b2 z7 cC (vi r0 cL), de w b1 b2 z8 cD (vs w0 cM)])), (bJ, (lsO ⟨ws⟩ m))]
noncomputable abbrev Xe_z : Rw := [(aF, (lsO ⟨ms⟩ n)), (aA, (fO 5 [de w b1 b2 z32 eM (rf bG), de w b1 b2 z3 eN (rf aF), de w b1 b2 z14 eO (rf bJ), de w b1 b2 z7 cC (vi r0 cL), de w b1 b2 z8 cD (vs w0 cM)])), (bJ, (lsO ⟨ws⟩ m))]
noncomputable abbrev Xe_g : Ctx := ⟨.forLoop fl936.1 (rf dJ) fl936.2.1 fl936.2.2 (eN921 aA), none, none, [(k921 aA ⟨936, 21, 936, 26⟩), callerB], none⟩
noncomputable def Xe : Res :=
  (fun _ => simC w b1 b2 N Tn 20 [2, 0, 2, 2, 2, 1, 2, 2, 6] [] (Xe_g dJ aA) pos (Xe_a w b1 b2 aF dJ aA bG bJ eM eN eO cC cL cD cM ms ws n m r0 w0) 4 G) hk
theorem Xe_run : RunF (Xe w b1 b2 N Tn pos G aF dJ aA bG bJ eM eN eO cC cL cD cM ms ws n m hk r0 w0) [0, 2, 3] (.ok .next) 2 0 G (Xe_z w b1 b2 aF aA bG bJ eM eN eO cC cL cD cM ms ws n m r0 w0) := by
  revert ms b1
  exact tw 8 (fun _ h => h) (by kernel_rfl) fun _ h => h
variable {w b1 b2 N Tn pos G aF dJ aA bG bJ eM eN eO cC cL cD cM}
def Xe_go := goF (Xe_run w b1 b2 N Tn pos G aF dJ aA bG bJ eM eN eO cC cL cD cM ms ws n m hk r0 w0) (sC rfl) (by decide)
end
section
variable (bA aA : Addr) (ws : List Value) (m : Nat) (n : Nat) (hn : n = 2 ∨ n = 3 ∨ n = 4 ∨ n = 5 ∨ n = 6 ∨ n = 7 ∨ n = 8) (hws : ws.length = 2 * n) 
noncomputable abbrev La_a : Rw := [(bA, (lsO ⟨ws⟩ (m)))]
noncomputable abbrev La_z : Rw := [(bA, (lsO ⟨ws⟩ (m))), (N, (fO 2 [de w b1 b2 z14 Tn (rf bA), de w b1 b2 z2 (Tn + 1) (rf (N + 1))])), ((N + 1), ⟨y4, none, .seq ⟨[]⟩ 0, ⟨[]⟩⟩), ((N + 3), ⟨y6, none, .fields ⟨[vi 0 0, vi (n : Int) 0, vi 2 0]⟩, ⟨[]⟩⟩)]
noncomputable abbrev La_g : Ctx := ⟨.call (rf 907) ⟨[(rf bA)], []⟩, none, none, [(k921 aA ⟨939, 29, 939, 43⟩), callerB], none⟩
noncomputable abbrev La_h : Ctx := ⟨.forLoop fl910.1 (rf (N + 3)) fl910.2.1 fl910.2.2 (eN907 N), none, none, [(k907 N ⟨910, 13, 910, 36⟩), (k921 aA ⟨939, 29, 939, 43⟩), callerB], none⟩
noncomputable def La : Res :=
  (fun _ => simC w b1 b2 N Tn 64 (dg 28 0x5444404444044001200002202200) [cLLen 0 bA (ws) (m) (2 * n : Nat) hws (by omega) (N + 2) (Tn + 3)] (La_g bA aA) pos (La_a bA ws m) 1 G) hn
theorem La_run : RunK (La w b1 b2 N Tn pos G bA aA ws m n hn hws) [0, 1, 2, 4] (La_h N aA) 4 6 G (La_z w b1 b2 N Tn bA ws m n) := by
  rcases hn with rfl | rfl | rfl | rfl | rfl | rfl | rfl <;> walk_at "r"
variable {w b1 b2 N Tn pos G bA aA}
def La_go := goK (La_run w b1 b2 N Tn pos G bA aA ws m n hn hws) (sC rfl) (by decide)
end
section
variable (bA aA : Addr) (ws : List Value) (m : Nat) (n : Nat) (hn : n = 2 ∨ n = 3 ∨ n = 4 ∨ n = 5 ∨ n = 6 ∨ n = 7 ∨ n = 8) (hws : ws.length = 2 * n)  (N2 Tn2 : Nat) (bQ cK : Tok) (k0 : Int) 
noncomputable abbrev Lb_a : Rw := [(bA, (lsO ⟨ws⟩ (m))), (N, (fO 3 [de w b1 b2 z14 Tn (rf bA), de w b1 b2 z2 (Tn + 1) (rf (N + 1)), de w b1 b2 (S [107]) bQ (vi k0 cK)]))]
noncomputable abbrev Lb_z : Rw := [(bA, (lsO ⟨ws⟩ (m))), (N, (fO 5 [de w b1 b2 z14 Tn (rf bA), de w b1 b2 z2 (Tn + 1) (rf (N + 1)), de w b1 b2 (S [107]) bQ (vi k0 cK), de w b1 b2 z36 (Tn2 + 1) (vs (S [47]) Tn2), de w b1 b2 z9 (Tn2 + 2) (rf N2)])), (N2, ⟨y4, none, .seq ⟨[]⟩ 0, ⟨[]⟩⟩), ((N2 + 2), ⟨y6, none, .fields ⟨[vi 0 0, vi (n : Int) 0, vi 1 0]⟩, ⟨[]⟩⟩)]
noncomputable abbrev Lb_h : Ctx := ⟨.forLoop fl914.1 (rf (N2 + 2)) fl914.2.1 fl914.2.2 (eN907 N), none, none, [(k907 N ⟨914, 16, 914, 38⟩), (k921 aA ⟨939, 29, 939, 43⟩), callerB], none⟩
noncomputable def Lb : Res :=
  nextC (La w b1 b2 N Tn pos G bA aA ws m n hn hws) (.ok .next) w b1 b2 N2 Tn2 69 (dg 26 0x54444044440440001200002222) [cLLen 0 bA (ws) (m) (2 * n : Nat) hws (by omega) (N2 + 1) (Tn2 + 3)] (Lb_a w b1 b2 N Tn bA ws m bQ cK k0) 2 G
theorem Lb_run : RunK (Lb w b1 b2 N Tn pos G bA aA ws m n hn hws N2 Tn2 bQ cK k0) [0, 1, 2, 4] (Lb_h N aA N2) 3 9 G (Lb_z w b1 b2 N Tn bA ws m n N2 Tn2 bQ cK k0) := by
  rcases hn with rfl | rfl | rfl | rfl | rfl | rfl | rfl <;> walk_at "r"
variable {w b1 b2 N Tn pos G bA aA N2 Tn2 bQ cK}
def Lb_go := goK (Lb_run w b1 b2 N Tn pos G bA aA ws m n hn hws N2 Tn2 bQ cK k0) (sK rfl) (by decide)
end
section
variable (aU aB aA bA aC : Addr) (bT bU : Tok) (ws : List Value) (m i j : Nat) (r : Int) (w' : Str) (tr0 tw : Tok) (hi : i < 100) (hw0 : ws[2 * i]? = some (vs (S (rankS r)) tr0)) (hw1 : ws[2 * i + 1]? = some (vs w' tw)) (hr : r = 0 ∨ r = 1 ∨ r = 2 ∨ r = 3 ∨ r = 4) 
noncomputable abbrev P1_a : Rw := [(aU, ⟨y6, none, .fields ⟨[vi ((2 * i : Nat) : Int) 0, vi ((j + 1 : Nat) : Int) 0, vi 2 0]⟩, ⟨[]⟩⟩), (aB, (fO 2 [de w b1 b2 z14 bT (rf bA), de w b1 b2 z2 bU (rf aC)])), (bA, (lsO ⟨ws⟩ (m)))]
noncomputable abbrev P1_z : Rw := [(aU, ⟨y6, none, .fields ⟨[vi (((2 * i : Nat) : Int) + 2) 0, vi (((j + 1 : Nat) : Int) - 1) 0, vi 2 0]⟩, ⟨[]⟩⟩), (aB, (fO 3 [de w b1 b2 z14 bT (rf bA), de w b1 b2 z2 bU (rf aC), de w b1 b2 (S [107]) (Tn + 1) (vi ((2 * i : Nat) : Int) Tn)])), (bA, (lsO ⟨ws⟩ (m))), (N, ⟨y3, none, .seq ⟨[(vi r (Tn + 2)), (vs w' tw)]⟩ 0, ⟨[]⟩⟩)]
noncomputable abbrev P1_g : Ctx := ⟨.forLoop fl910.1 (rf aU) fl910.2.1 fl910.2.2 (eN907 aB), none, none, [(k907 aB ⟨910, 13, 910, 36⟩), (k921 aA ⟨939, 29, 939, 43⟩), callerB], none⟩
noncomputable abbrev P1_h : Ctx := ⟨.call (rf 159) ⟨[(rf aC), (rf N)], []⟩, none, none, [(.forLoop fl910.1 (rf aU) fl910.2.1 fl910.2.2 (eN907 aB), ⟨911, 8, 911, 53⟩), (k907 aB ⟨910, 13, 910, 36⟩), (k921 aA ⟨939, 29, 939, 43⟩), callerB], none⟩
noncomputable def P1 : Res :=
  (fun _ _ => simC w b1 b2 N Tn 69 (dg 33 0x013330220001333220020221111111101) [cLGetN 2 bA (ws) (m) (2 * i) ((2 * i : Nat) : Int) (by omega) Tn (vs (S (rankS r)) tr0) (by omega) hw0 N (Tn + 2), cLGetN 2 bA (ws) (m) (2 * i + 1) (((2 * i : Nat) : Int) + 1) (by omega) (Tn + 4) (vs w' tw) (by omega) hw1 N (Tn + 5)] (P1_g aU aB aA) pos (P1_a w b1 b2 aU aB bA aC bT bU ws m i j) 3 G) hi hr
theorem P1_run : RunK (P1 w b1 b2 N Tn pos G aU aB aA bA aC bT bU ws m i j r w' tr0 tw hi hw0 hw1 hr) [0, 1, 2, 3] (P1_h N aU aB aA aC) 1 5 G (P1_z w b1 b2 N Tn aU aB bA aC bT bU ws m i j r w' tw) := by
  rcases hr with rfl | rfl | rfl | rfl | rfl <;> walk_at "r"
variable {w b1 b2 N Tn pos G aU aB aA bA aC bT bU}
def P1_go := goK (P1_run w b1 b2 N Tn pos G aU aB aA bA aC bT bU ws m i j r w' tr0 tw hi hw0 hw1 hr) (sC rfl) (by decide)
end
section
variable (aU aB aA bA aC : Addr) (bT bU : Tok) (ws : List Value) (m i j : Nat) (r : Int) (w' : Str) (tr0 tw : Tok) (hi : i < 100) (hw0 : ws[2 * i]? = some (vs (S (rankS r)) tr0)) (hw1 : ws[2 * i + 1]? = some (vs w' tw)) (hr : r = 0 ∨ r = 1 ∨ r = 2 ∨ r = 3 ∨ r = 4)  (N2 Tn2 : Nat) 
noncomputable abbrev PK1_a : Rw := []
noncomputable abbrev PK1_z : Rw := []
noncomputable abbrev PK1_h : Ctx := ⟨.forLoop fl910.1 (rf aU) fl910.2.1 fl910.2.2 (eN907 aB), none, none, [(k907 aB ⟨910, 13, 910, 36⟩), (k921 aA ⟨939, 29, 939, 43⟩), callerB], none⟩
noncomputable def PK1 : Res :=
  nextC (P1 w b1 b2 N Tn pos G aU aB aA bA aC bT bU ws m i j r w' tr0 tw hi hw0 hw1 hr) (.ok (.ret .none)) w b1 b2 N2 Tn2 2 [] [] PK1_a 0 G
theorem PK1_run : RunC (PK1 w b1 b2 N Tn pos G aU aB aA bA aC bT bU ws m i j r w' tr0 tw hi hw0 hw1 hr N2 Tn2) [] (PK1_h aU aB aA) 0 0 G PK1_z := by
  rcases hr with rfl | rfl | rfl | rfl | rfl <;> walk_at "r"
variable {w b1 b2 N Tn pos G aU aB aA bA aC bT bU N2 Tn2}
def PK1_go := goC (PK1_run w b1 b2 N Tn pos G aU aB aA bA aC bT bU ws m i j r w' tr0 tw hi hw0 hw1 hr N2 Tn2) (sK rfl) (by decide)
end
section
variable (aU aB aA bA aC : Addr) (bT bU bQ gB : Tok) (ws : List Value) (m i j : Nat) (r : Int) (w' : Str) (tr0 tw : Tok) (hi : i < 100) (hw0 : ws[2 * i]? = some (vs (S (rankS r)) tr0)) (hw1 : ws[2 * i + 1]? = some (vs w' tw)) (hr : r = 0 ∨ r = 1 ∨ r = 2 ∨ r = 3 ∨ r = 4) (k0 : Int) 
noncomputable abbrev P2_a : Rw := [(aU, ⟨y6, none, .fields ⟨[vi ((2 * i : Nat) : Int) 0, vi ((j + 1 : Nat) : Int) 0, vi 2 0]⟩, ⟨[]⟩⟩), (aB, (fO 3 [de w b1 b2 z14 bT (rf bA), de w b1 b2 z2 bU (rf aC), de w b1 b2 (S [107]) bQ (vi k0 gB)])), (bA, (lsO ⟨ws⟩ (m)))]
noncomputable abbrev P2_z : Rw := [(aU, ⟨y6, none, .fields ⟨[vi (((2 * i : Nat) : Int) + 2) 0, vi (((j + 1 : Nat) : Int) - 1) 0, vi 2 0]⟩, ⟨[]⟩⟩), (aB, (fO 3 [de w b1 b2 z14 bT (rf bA), de w b1 b2 z2 bU (rf aC), de w b1 b2 (S [107]) bQ (vi ((2 * i : Nat) : Int) Tn)])), (bA, (lsO ⟨ws⟩ (m))), (N, ⟨y3, none, .seq ⟨[(vi r (Tn + 2)), (vs w' tw)]⟩ 0, ⟨[]⟩⟩)]
noncomputable abbrev P2_g : Ctx := ⟨.forLoop fl910.1 (rf aU) fl910.2.1 fl910.2.2 (eN907 aB), none, none, [(k907 aB ⟨910, 13, 910, 36⟩), (k921 aA ⟨939, 29, 939, 43⟩), callerB], none⟩
noncomputable abbrev P2_h : Ctx := ⟨.call (rf 159) ⟨[(rf aC), (rf N)], []⟩, none, none, [(.forLoop fl910.1 (rf aU) fl910.2.1 fl910.2.2 (eN907 aB), ⟨911, 8, 911, 53⟩), (k907 aB ⟨910, 13, 910, 36⟩), (k921 aA ⟨939, 29, 939, 43⟩), callerB], none⟩
noncomputable def P2 : Res :=
  (fun _ _ => simC w b1 b2 N Tn 69 (dg 33 0x013330220001333220020221111111101) [cLGetN 2 bA (ws) (m) (2 * i) ((2 * i : Nat) : Int) (by omega) Tn (vs (S (rankS r)) tr0) (by omega) hw0 N (Tn + 2), cLGetN 2 bA (ws) (m) (2 * i + 1) (((2 * i : Nat) : Int) + 1) (by omega) (Tn + 4) (vs w' tw) (by omega) hw1 N (Tn + 5)] (P2_g aU aB aA) pos (P2_a w b1 b2 aU aB bA aC bT bU bQ gB ws m i j k0) 3 G) hi hr
theorem P2_run : RunK (P2 w b1 b2 N Tn pos G aU aB aA bA aC bT bU bQ gB ws m i j r w' tr0 tw hi hw0 hw1 hr k0) [0, 1, 2, 3] (P2_h N aU aB aA aC) 1 5 G (P2_z w b1 b2 N Tn aU aB bA aC bT bU bQ ws m i j r w' tw) := by
  rcases hr with rfl | rfl | rfl | rfl | rfl <;> walk_at "r"
variable {w b1 b2 N Tn pos G aU aB aA bA aC bT bU bQ gB}
def P2_go := goK (P2_run w b1 b2 N Tn pos G aU aB aA bA aC bT bU bQ gB ws m i j r w' tr0 tw hi hw0 hw1 hr k0) (sC rfl) (by decide)
end
section
variable (aU aB aA bA aC : Addr) (bT bU bQ gB : Tok) (ws : List Value) (m i j : Nat) (r : Int) (w' : Str) (tr0 tw : Tok) (hi : i < 100) (hw0 : ws[2 * i]? = some (vs (S (rankS r)) tr0)) (hw1 : ws[2 * i + 1]? = some (vs w' tw)) (hr : r = 0 ∨ r = 1 ∨ r = 2 ∨ r = 3 ∨ r = 4) (k0 : Int)  (N2 Tn2 : Nat) 
noncomputable abbrev PK2_a : Rw := []
noncomputable abbrev PK2_z : Rw := []
noncomputable abbrev PK2_h : Ctx := ⟨.forLoop fl910.1 (rf aU) fl910.2.1 fl910.2.2 (eN907 aB), none, none, [(k907 aB ⟨910, 13, 910, 36⟩), (k921 aA ⟨939, 29, 939, 43⟩), callerB], none⟩
noncomputable def PK2 : Res :=
  nextC (P2 w b1 b2 N Tn pos G aU aB aA bA aC bT bU bQ gB ws m i j r w' tr0 tw hi hw0 hw1 hr k0) (.ok (.ret .none)) w b1 b2 N2 Tn2 2 [] [] PK2_a 0 G
theorem PK2_run : RunC (PK2 w b1 b2 N Tn pos G aU aB aA bA aC bT bU bQ gB ws m i j r w' tr0 tw hi hw0 hw1 hr k0 N2 Tn2) [] (PK2_h aU aB aA) 0 0 G PK2_z := by
  rcases hr with rfl | rfl | rfl | rfl | rfl <;> walk_at "r"
variable {w b1 b2 N Tn pos G aU aB aA bA aC bT bU bQ gB N2 Tn2}
def PK2_go := goC (PK2_run w b1 b2 N Tn pos G aU aB aA bA aC bT bU bQ gB ws m i j r w' tr0 tw hi hw0 hw1 hr k0 N2 Tn2) (sK rfl) (by decide)
end
section
variable (aC aR aU aB aA : Addr) (hs : List Value) (m L : Nat) (hL : hs.length = L) (hL2 : L < 100) 
noncomputable abbrev H1_a : Rw := [(aC, (lsO ⟨hs⟩ (m)))]
noncomputable abbrev H1_z : Rw := [(aC, (lsO ⟨hs ++ [(rf aR)]⟩ (m + 1))), ((N + 1), (fO 4 [de w b1 b2 z2 (Tn + 7) (rf aC), de w b1 b2 z4 (Tn + 8) (vi 0 (Tn + 2)), de w b1 b2 z5 (Tn + 9) (vi (L : Int) (Tn + 6)), de w b1 b2 z6 (Tn + 10) (rf aR)]))]
noncomputable abbrev H1_g : Ctx := ⟨.call (rf 159) ⟨[(rf aC), (rf aR)], []⟩, none, none, [(.forLoop fl910.1 (rf aU) fl910.2.1 fl910.2.2 (eN907 aB), ⟨911, 8, 911, 53⟩), (k907 aB ⟨910, 13, 910, 36⟩), (k921 aA ⟨939, 29, 939, 43⟩), callerB], none⟩
noncomputable abbrev H1_h : Ctx := ⟨.whileLoop wh143.1 wh143.2.1 wh143.2.2 (eN173 (N + 1)), none, none, [(k173 (N + 1) ⟨143, 4, 150, 13⟩), (k159 N ⟨132, 4, 132, 37⟩), (.forLoop fl910.1 (rf aU) fl910.2.1 fl910.2.2 (eN907 aB), ⟨911, 8, 911, 53⟩), (k907 aB ⟨910, 13, 910, 36⟩), (k921 aA ⟨939, 29, 939, 43⟩), callerB], none⟩
noncomputable def H1 : Res :=
  (fun _ => simC w b1 b2 N Tn 86 (dg 40 0x3311113303333330000112002012111120222200) [cLApp 0 aC (hs) (m) (rf aR) (by first | omega | (simp; omega)) (N + 1) (Tn + 2), cLLen 0 aC (hs ++ [(rf aR)]) (m + 1) (L + 1 : Nat) (by simp [hL]) (by omega) (N + 1) (Tn + 3), cSub ((L + 1 : Nat) : Int) (Tn + 4) 1 (Tn + 5) (L : Int) (by omega) (N + 1) (Tn + 6), cLGetN 0 aC (hs ++ [(rf aR)]) (m + 1) (L) (L : Int) (by omega) (Tn + 6) (rf aR) (by omega) (by subst hL; simp) (N + 2) (Tn + 10)] (H1_g aC aR aU aB aA) pos (H1_a aC hs m) 1 G) hL2
theorem H1_run : RunK (H1 w b1 b2 N Tn pos G aC aR aU aB aA hs m L hL hL2) [0, 2] (H1_h N aU aB aA) 2 11 G (H1_z w b1 b2 N Tn aC aR hs m L) := by
  walk_at "r"
variable {w b1 b2 N Tn pos G aC aR aU aB aA}
def H1_go := goK (H1_run w b1 b2 N Tn pos G aC aR aU aB aA hs m L hL hL2) (sC rfl) (by decide)
end
section
variable (aC aR aU aB aA : Addr) (hs : List Value) (m L : Nat) (hL : hs.length = L) (hL2 : L < 100)  (N2 Tn2 : Nat) (hs' : List Value) (m' p : Nat) (hp : p < hs'.length) (hp2 : p < 1000) 
noncomputable abbrev K1_a : Rw := [(aC, (lsO ⟨hs'⟩ (m'))), ((N + 1), (fO 4 [de w b1 b2 z2 (Tn + 7) (rf aC), de w b1 b2 z4 (Tn + 8) (vi 0 (Tn + 2)), de w b1 b2 z5 (Tn + 9) (vi (p : Int) (Tn + 6)), de w b1 b2 z6 (Tn + 10) (rf aR)]))]
noncomputable abbrev K1_z : Rw := [(aC, (lsO ⟨(hs').set (p) (rf aR)⟩ (m')))]
noncomputable def K1 : Res :=
  (fun _ => nextC (H1 w b1 b2 N Tn pos G aC aR aU aB aA hs m L hL hL2) (.ok .next) w b1 b2 N2 Tn2 17 [2, 2, 2, 1, 1, 1] [cLSetI 0 aC (hs') (m') (p) (p : Int) (by omega) (Tn + 6) (rf aR) (by omega) hp N2 Tn2] (K1_a w b1 b2 N Tn aC aR hs' m' p) 2 G) hp2
theorem K1_run : RunF (K1 w b1 b2 N Tn pos G aC aR aU aB aA hs m L hL hL2 N2 Tn2 hs' m' p hp hp2) [0] (.ok (.ret nn)) 0 0 G (K1_z aC aR hs' m' p) := by
  walk_at "r"
variable {w b1 b2 N Tn pos G aC aR aU aB aA N2 Tn2}
def K1_go := goF (K1_run w b1 b2 N Tn pos G aC aR aU aB aA hs m L hL hL2 N2 Tn2 hs' m' p hp hp2) (sK rfl) (by decide)
end
section
variable (aC eG aU aB aA : Addr) (hs : List Value) (m L : Nat) (hL : hs.length = L) (hL2 : L < 100) 
noncomputable abbrev H2_a : Rw := [(aC, (lsO ⟨hs⟩ (m)))]
noncomputable abbrev H2_z : Rw := [(aC, (lsO ⟨hs ++ [(rf eG)]⟩ (m + 1))), ((N + 1), (fO 4 [de w b1 b2 z2 (Tn + 7) (rf aC), de w b1 b2 z4 (Tn + 8) (vi 0 (Tn + 2)), de w b1 b2 z5 (Tn + 9) (vi (L : Int) (Tn + 6)), de w b1 b2 z6 (Tn + 10) (rf eG)]))]
noncomputable abbrev H2_g : Ctx := ⟨.call (rf 159) ⟨[(rf aC), (rf eG)], []⟩, none, none, [(.forLoop fl910.1 (rf aU) fl910.2.1 fl910.2.2 (eN907 aB), ⟨911, 8, 911, 53⟩), (k907 aB ⟨910, 13, 910, 36⟩), (k921 aA ⟨939, 29, 939, 43⟩), callerB], none⟩
noncomputable abbrev H2_h : Ctx := ⟨.whileLoop wh143.1 wh143.2.1 wh143.2.2 (eN173 (N + 1)), none, none, [(k173 (N + 1) ⟨143, 4, 150, 13⟩), (k159 N ⟨132, 4, 132, 37⟩), (.forLoop fl910.1 (rf aU) fl910.2.1 fl910.2.2 (eN907 aB), ⟨911, 8, 911, 53⟩), (k907 aB ⟨910, 13, 910, 36⟩), (k921 aA ⟨939, 29, 939, 43⟩), callerB], none⟩
noncomputable def H2 : Res :=
  (fun _ => simC w b1 b2 N Tn 86 (dg 40 0x3311113303333330000112002012111120222200) [cLApp 0 aC (hs) (m) (rf eG) (by first | omega | (simp; omega)) (N + 1) (Tn + 2), cLLen 0 aC (hs ++ [(rf eG)]) (m + 1) (L + 1 : Nat) (by simp [hL]) (by omega) (N + 1) (Tn + 3), cSub ((L + 1 : Nat) : Int) (Tn + 4) 1 (Tn + 5) (L : Int) (by omega) (N + 1) (Tn + 6), cLGetN 0 aC (hs ++ [(rf eG)]) (m + 1) (L) (L : Int) (by omega) (Tn + 6) (rf eG) (by omega) (by subst hL; simp) (N + 2) (Tn + 10)] (H2_g aC eG aU aB aA) pos (H2_a aC hs m) 1 G) hL2
theorem H2_run : RunK (H2 w b1 b2 N Tn pos G aC eG aU aB aA hs m L hL hL2) [0, 2] (H2_h N aU aB aA) 2 11 G (H2_z w b1 b2 N Tn aC eG hs m L) := by
  walk_at "r"
variable {w b1 b2 N Tn pos G aC eG aU aB aA}
def H2_go := goK (H2_run w b1 b2 N Tn pos G aC eG aU aB aA hs m L hL hL2) (sC rfl) (by decide)
end
section
variable (aC eG aU aB aA : Addr) (hs : List Value) (m L : Nat) (hL : hs.length = L) (hL2 : L < 100)  (N2 Tn2 : Nat) (aR : Addr) (jS kA kB : Tok) (hs' : List Value) (m' p : Nat) (hp : p < hs'.length) (hp2 : p < 1000) (q : Int) (tq : Tok) 
noncomputable abbrev K2_a : Rw := [(aC, (lsO ⟨hs'⟩ (m'))), ((N + 1), (fO 6 [de w b1 b2 z2 (Tn + 7) (rf aC), de w b1 b2 z4 (Tn + 8) (vi 0 (Tn + 2)), de w b1 b2 z5 (Tn + 9) (vi (p : Int) jS), de w b1 b2 z6 (Tn + 10) (rf eG), de w b1 b2 z30 kA (vi q tq), de w b1 b2 z31 kB (rf aR)]))]
noncomputable abbrev K2_z : Rw := [(aC, (lsO ⟨(hs').set (p) (rf eG)⟩ (m')))]
noncomputable def K2 : Res :=
  (fun _ => nextC (H2 w b1 b2 N Tn pos G aC eG aU aB aA hs m L hL hL2) (.ok .next) w b1 b2 N2 Tn2 17 [2, 2, 2, 1, 1, 1] [cLSetI 0 aC (hs') (m') (p) (p : Int) (by omega) jS (rf eG) (by omega) hp N2 Tn2] (K2_a w b1 b2 N Tn aC eG aR jS kA kB hs' m' p q tq) 2 G) hp2
theorem K2_run : RunF (K2 w b1 b2 N Tn pos G aC eG aU aB aA hs m L hL hL2 N2 Tn2 aR jS kA kB hs' m' p hp hp2 q tq) [0] (.ok (.ret nn)) 0 0 G (K2_z aC eG hs' m' p) := by
  walk_at "r"
variable {w b1 b2 N Tn pos G aC eG aU aB aA N2 Tn2 aR jS kA kB}
def K2_go := goF (K2_run w b1 b2 N Tn pos G aC eG aU aB aA hs m L hL hL2 N2 Tn2 aR jS kA kB hs' m' p hp hp2 q tq) (sK rfl) (by decide)
end
section
variable (eH fM aU aB aA aC : Addr) (fN fP fG fQ gS fR : Tok) (na pa : Addr) (tr tw tr' tw' : Tok) (hs : List Value) (m p : Nat) (r r' : Int) (w' w'' : Str) (hp : 0 < p) (hp2 : p < hs.length) (hp3 : p < 1000) (hpa : hs[(p - 1) / 2]? = some (rf pa)) (hgt : decide ((p : Int) > 0) = true) (hlt : ltP r r' w' w'' = true) 
noncomputable abbrev W1t_a : Rw := [(eH, (fO 4 [de w b1 b2 z2 fN (rf aC), de w b1 b2 z4 fP (vi 0 fG), de w b1 b2 z5 fQ (vi (p : Int) gS), de w b1 b2 z6 fR (rf na)])), (aC, (lsO ⟨hs⟩ (m))), (na, (tupO ⟨[vi r tr, vs w' tw]⟩ 0)), (pa, (tupO ⟨[vi r' tr', vs w'' tw']⟩ 0))]
noncomputable abbrev W1t_z : Rw := [(aC, (lsO ⟨(hs).set (p) (rf pa)⟩ (m))), (eH, (fO 6 [de w b1 b2 z2 fN (rf aC), de w b1 b2 z4 fP (vi 0 fG), de w b1 b2 z5 fQ (vi (((p - 1) / 2 : Nat) : Int) (Tn + 3)), de w b1 b2 z6 fR (rf na), de w b1 b2 z30 (Tn + 4) (vi (((p - 1) / 2 : Nat) : Int) (Tn + 3)), de w b1 b2 z31 (Tn + 5) (rf pa)])), (na, (tupO ⟨[vi r tr, vs w' tw]⟩ 0)), (pa, (tupO ⟨[vi r' tr', vs w'' tw']⟩ 0))]
noncomputable abbrev W1t_g : Ctx := ⟨.whileLoop wh143.1 wh143.2.1 wh143.2.2 (eN173 eH), none, none, [(k173 eH ⟨143, 4, 150, 13⟩), (k159 fM ⟨132, 4, 132, 37⟩), (.forLoop fl910.1 (rf aU) fl910.2.1 fl910.2.2 (eN907 aB), ⟨911, 8, 911, 53⟩), (k907 aB ⟨910, 13, 910, 36⟩), (k921 aA ⟨939, 29, 939, 43⟩), callerB], none⟩
noncomputable abbrev W1t_h : Ctx := ⟨.whileLoop wh143.1 wh143.2.1 wh143.2.2 (eN173 eH), none, none, [(k173 eH ⟨143, 4, 150, 13⟩), (k159 fM ⟨132, 4, 132, 37⟩), (.forLoop fl910.1 (rf aU) fl910.2.1 fl910.2.2 (eN907 aB), ⟨911, 8, 911, 53⟩), (k907 aB ⟨910, 13, 910, 36⟩), (k921 aA ⟨939, 29, 939, 43⟩), callerB], none⟩
noncomputable def W1t : Res :=
  (fun _ _ => simC w b1 b2 N Tn 77 (dg 31 0x1111221111343111112221111111111) [cGt (p : Int) gS 0 fG true hgt N Tn, cSub (p : Int) gS 1 Tn ((p - 1 : Nat) : Int) (by omega) N (Tn + 1), cShr1 ((p - 1 : Nat) : Int) (Tn + 1) (Tn + 2) (((p - 1) / 2 : Nat) : Int) (by omega) (by omega) N (Tn + 3), cLGetN 1 aC (hs) (m) ((p - 1) / 2) (((p - 1) / 2 : Nat) : Int) (by omega) (Tn + 3) (rf pa) (by omega) hpa N (Tn + 5), cTLt 2 3 na pa r r' tr tr' w' w'' tw tw' 0 0 true hlt N (Tn + 6), cLSetI 1 aC (hs) (m) (p) (p : Int) (by omega) gS (rf pa) (by omega) hp2 N (Tn + 6)] (W1t_g eH fM aU aB aA) pos (W1t_a w b1 b2 eH aC fN fP fG fQ gS fR na pa tr tw tr' tw' hs m p r r' w' w'') 4 G) hp hp3
theorem W1t_run : RunC (W1t w b1 b2 N Tn pos G eH fM aU aB aA aC fN fP fG fQ gS fR na pa tr tw tr' tw' hs m p r r' w' w'' hp hp2 hp3 hpa hgt hlt) [1, 0, 2, 3] (W1t_h eH fM aU aB aA) 0 7 G (W1t_z w b1 b2 Tn eH aC fN fP fG fQ fR na pa tr tw tr' tw' hs m p r r' w' w'') := by
  walk_at "r"
variable {w b1 b2 N Tn pos G eH fM aU aB aA aC fN fP fG fQ gS fR}
def W1t_go := goC (W1t_run w b1 b2 N Tn pos G eH fM aU aB aA aC fN fP fG fQ gS fR na pa tr tw tr' tw' hs m p r r' w' w'' hp hp2 hp3 hpa hgt hlt) (sC rfl) (by decide)
end
section
variable (gC kC aU aB aA aC : Addr) (iD iE gT iF gO iG : Tok) (na pa : Addr) (tr tw tr' tw' : Tok) (hs : List Value) (m p : Nat) (r r' : Int) (w' w'' : Str) (hp : 0 < p) (hp2 : p < hs.length) (hp3 : p < 1000) (hpa : hs[(p - 1) / 2]? = some (rf pa)) (hgt : decide ((p : Int) > 0) = true) (hlt : ltP r r' w' w'' = false) 
noncomputable abbrev W1f_a : Rw := [(gC, (fO 4 [de w b1 b2 z2 iD (rf aC), de w b1 b2 z4 iE (vi 0 gT), de w b1 b2 z5 iF (vi (p : Int) gO), de w b1 b2 z6 iG (rf na)])), (aC, (lsO ⟨hs⟩ (m))), (na, (tupO ⟨[vi r tr, vs w' tw]⟩ 0)), (pa, (tupO ⟨[vi r' tr', vs w'' tw']⟩ 0))]
noncomputable abbrev W1f_z : Rw := [(aC, (lsO ⟨hs⟩ (m))), (gC, (fO 6 [de w b1 b2 z2 iD (rf aC), de w b1 b2 z4 iE (vi 0 gT), de w b1 b2 z5 iF (vi (p : Int) gO), de w b1 b2 z6 iG (rf na), de w b1 b2 z30 (Tn + 4) (vi (((p - 1) / 2 : Nat) : Int) (Tn + 3)), de w b1 b2 z31 (Tn + 5) (rf pa)])), (na, (tupO ⟨[vi r tr, vs w' tw]⟩ 0)), (pa, (tupO ⟨[vi r' tr', vs w'' tw']⟩ 0))]
noncomputable abbrev W1f_g : Ctx := ⟨.whileLoop wh143.1 wh143.2.1 wh143.2.2 (eN173 gC), none, none, [(k173 gC ⟨143, 4, 150, 13⟩), (k159 kC ⟨132, 4, 132, 37⟩), (.forLoop fl910.1 (rf aU) fl910.2.1 fl910.2.2 (eN907 aB), ⟨911, 8, 911, 53⟩), (k907 aB ⟨910, 13, 910, 36⟩), (k921 aA ⟨939, 29, 939, 43⟩), callerB], none⟩
noncomputable def W1f : Res :=
  (fun _ _ _ => simC w b1 b2 N Tn 57 (dg 22 0x1343111112221111111111) [cGt (p : Int) gO 0 gT true hgt N Tn, cSub (p : Int) gO 1 Tn ((p - 1 : Nat) : Int) (by omega) N (Tn + 1), cShr1 ((p - 1 : Nat) : Int) (Tn + 1) (Tn + 2) (((p - 1) / 2 : Nat) : Int) (by omega) (by omega) N (Tn + 3), cLGetN 1 aC (hs) (m) ((p - 1) / 2) (((p - 1) / 2 : Nat) : Int) (by omega) (Tn + 3) (rf pa) (by omega) hpa N (Tn + 5), cTLt 2 3 na pa r r' tr tr' w' w'' tw tw' 0 0 false hlt N (Tn + 6)] (W1f_g gC kC aU aB aA) pos (W1f_a w b1 b2 gC aC iD iE gT iF gO iG na pa tr tw tr' tw' hs m p r r' w' w'') 4 G) hp hp2 hp3
theorem W1f_run : RunF (W1f w b1 b2 N Tn pos G gC kC aU aB aA aC iD iE gT iF gO iG na pa tr tw tr' tw' hs m p r r' w' w'' hp hp2 hp3 hpa hgt hlt) [1, 0, 2, 3] (.ok .next) 0 6 G (W1f_z w b1 b2 Tn gC aC iD iE gT iF gO iG na pa tr tw tr' tw' hs m p r r' w' w'') := by
  walk_at "r"
variable {w b1 b2 N Tn pos G gC kC aU aB aA aC iD iE gT iF gO iG}
def W1f_go := goF (W1f_run w b1 b2 N Tn pos G gC kC aU aB aA aC iD iE gT iF gO iG na pa tr tw tr' tw' hs m p r r' w' w'' hp hp2 hp3 hpa hgt hlt) (sC rfl) (by decide)
end
section
variable (eH fM aU aB aA aC aR : Addr) (fN fP fG fQ gP fR iH iI : Tok) (na pa : Addr) (tr tw tr' tw' : Tok) (hs : List Value) (m p : Nat) (r r' : Int) (w' w'' : Str) (hp : 0 < p) (hp2 : p < hs.length) (hp3 : p < 1000) (hpa : hs[(p - 1) / 2]? = some (rf pa)) (hgt : decide ((p : Int) > 0) = true) (hlt : ltP r r' w' w'' = true) 
noncomputable abbrev W2t_a : Rw := [(eH, (fO 6 [de w b1 b2 z2 fN (rf aC), de w b1 b2 z4 fP (vi 0 fG), de w b1 b2 z5 fQ (vi (p : Int) gP), de w b1 b2 z6 fR (rf na), de w b1 b2 z30 iH (vi (p : Int) gP), de w b1 b2 z31 iI (rf aR)])), (aC, (lsO ⟨hs⟩ (m))), (na, (tupO ⟨[vi r tr, vs w' tw]⟩ 0)), (pa, (tupO ⟨[vi r' tr', vs w'' tw']⟩ 0))]
noncomputable abbrev W2t_z : Rw := [(aC, (lsO ⟨(hs).set (p) (rf pa)⟩ (m))), (eH, (fO 6 [de w b1 b2 z2 fN (rf aC), de w b1 b2 z4 fP (vi 0 fG), de w b1 b2 z5 fQ (vi (((p - 1) / 2 : Nat) : Int) (Tn + 3)), de w b1 b2 z6 fR (rf na), de w b1 b2 z30 iH (vi (((p - 1) / 2 : Nat) : Int) (Tn + 3)), de w b1 b2 z31 iI (rf pa)])), (na, (tupO ⟨[vi r tr, vs w' tw]⟩ 0)), (pa, (tupO ⟨[vi r' tr', vs w'' tw']⟩ 0))]
noncomputable abbrev W2t_g : Ctx := ⟨.whileLoop wh143.1 wh143.2.1 wh143.2.2 (eN173 eH), none, none, [(k173 eH ⟨143, 4, 150, 13⟩), (k159 fM ⟨132, 4, 132, 37⟩), (.forLoop fl910.1 (rf aU) fl910.2.1 fl910.2.2 (eN907 aB), ⟨911, 8, 911, 53⟩), (k907 aB ⟨910, 13, 910, 36⟩), (k921 aA ⟨939, 29, 939, 43⟩), callerB], none⟩
noncomputable abbrev W2t_h : Ctx := ⟨.whileLoop wh143.1 wh143.2.1 wh143.2.2 (eN173 eH), none, none, [(k173 eH ⟨143, 4, 150, 13⟩), (k159 fM ⟨132, 4, 132, 37⟩), (.forLoop fl910.1 (rf aU) fl910.2.1 fl910.2.2 (eN907 aB), ⟨911, 8, 911, 53⟩), (k907 aB ⟨910, 13, 910, 36⟩), (k921 aA ⟨939, 29, 939, 43⟩), callerB], none⟩
noncomputable def W2t : Res :=
  (fun _ _ => simC w b1 b2 N Tn 77 (dg 31 0x1111221111343111112221111111111) [cGt (p : Int) gP 0 fG true hgt N Tn, cSub (p : Int) gP 1 Tn ((p - 1 : Nat) : Int) (by omega) N (Tn + 1), cShr1 ((p - 1 : Nat) : Int) (Tn + 1) (Tn + 2) (((p - 1) / 2 : Nat) : Int) (by omega) (by omega) N (Tn + 3), cLGetN 1 aC (hs) (m) ((p - 1) / 2) (((p - 1) / 2 : Nat) : Int) (by omega) (Tn + 3) (rf pa) (by omega) hpa N (Tn + 5), cTLt 2 3 na pa r r' tr tr' w' w'' tw tw' 0 0 true hlt N (Tn + 6), cLSetI 1 aC (hs) (m) (p) (p : Int) (by omega) gP (rf pa) (by omega) hp2 N (Tn + 6)] (W2t_g eH fM aU aB aA) pos (W2t_a w b1 b2 eH aC aR fN fP fG fQ gP fR iH iI na pa tr tw tr' tw' hs m p r r' w' w'') 4 G) hp hp3
theorem W2t_run : RunC (W2t w b1 b2 N Tn pos G eH fM aU aB aA aC aR fN fP fG fQ gP fR iH iI na pa tr tw tr' tw' hs m p r r' w' w'' hp hp2 hp3 hpa hgt hlt) [1, 0, 2, 3] (W2t_h eH fM aU aB aA) 0 7 G (W2t_z w b1 b2 Tn eH aC fN fP fG fQ fR iH iI na pa tr tw tr' tw' hs m p r r' w' w'') := by
  walk_at "r"
variable {w b1 b2 N Tn pos G eH fM aU aB aA aC aR fN fP fG fQ gP fR iH iI}
def W2t_go := goC (W2t_run w b1 b2 N Tn pos G eH fM aU aB aA aC aR fN fP fG fQ gP fR iH iI na pa tr tw tr' tw' hs m p r r' w' w'' hp hp2 hp3 hpa hgt hlt) (sC rfl) (by decide)
end
section
variable (gD kD aU aB aA aC eG : Addr) (iJ iK gU iL gE iM iN iO : Tok) (na pa : Addr) (tr tw tr' tw' : Tok) (hs : List Value) (m p : Nat) (r r' : Int) (w' w'' : Str) (hp : 0 < p) (hp2 : p < hs.length) (hp3 : p < 1000) (hpa : hs[(p - 1) / 2]? = some (rf pa)) (hgt : decide ((p : Int) > 0) = true) (hlt : ltP r r' w' w'' = false) 
noncomputable abbrev W2f_a : Rw := [(gD, (fO 6 [de w b1 b2 z2 iJ (rf aC), de w b1 b2 z4 iK (vi 0 gU), de w b1 b2 z5 iL (vi (p : Int) gE), de w b1 b2 z6 iM (rf na), de w b1 b2 z30 iN (vi (p : Int) gE), de w b1 b2 z31 iO (rf eG)])), (aC, (lsO ⟨hs⟩ (m))), (na, (tupO ⟨[vi r tr, vs w' tw]⟩ 0)), (pa, (tupO ⟨[vi r' tr', vs w'' tw']⟩ 0))]
noncomputable abbrev W2f_z : Rw := [(aC, (lsO ⟨hs⟩ (m))), (gD, (fO 6 [de w b1 b2 z2 iJ (rf aC), de w b1 b2 z4 iK (vi 0 gU), de w b1 b2 z5 iL (vi (p : Int) gE), de w b1 b2 z6 iM (rf na), de w b1 b2 z30 iN (vi (((p - 1) / 2 : Nat) : Int) (Tn + 3)), de w b1 b2 z31 iO (rf pa)])), (na, (tupO ⟨[vi r tr, vs w' tw]⟩ 0)), (pa, (tupO ⟨[vi r' tr', vs w'' tw']⟩ 0))]
noncomputable abbrev W2f_g : Ctx := ⟨.whileLoop wh143.1 wh143.2.1 wh143.2.2 (eN173 gD), none, none, [(k173 gD ⟨143, 4, 150, 13⟩), (k159 kD ⟨132, 4, 132, 37⟩), (.forLoop fl910.1 (rf aU) fl910.2.1 fl910.2.2 (eN907 aB), ⟨911, 8, 911, 53⟩), (k907 aB ⟨910, 13, 910, 36⟩), (k921 aA ⟨939, 29, 939, 43⟩), callerB], none⟩
noncomputable def W2f : Res :=
  (fun _ _ _ => simC w b1 b2 N Tn 57 (dg 22 0x1343111112221111111111) [cGt (p : Int) gE 0 gU true hgt N Tn, cSub (p : Int) gE 1 Tn ((p - 1 : Nat) : Int) (by omega) N (Tn + 1), cShr1 ((p - 1 : Nat) : Int) (Tn + 1) (Tn + 2) (((p - 1) / 2 : Nat) : Int) (by omega) (by omega) N (Tn + 3), cLGetN 1 aC (hs) (m) ((p - 1) / 2) (((p - 1) / 2 : Nat) : Int) (by omega) (Tn + 3) (rf pa) (by omega) hpa N (Tn + 5), cTLt 2 3 na pa r r' tr tr' w' w'' tw tw' 0 0 false hlt N (Tn + 6)] (W2f_g gD kD aU aB aA) pos (W2f_a w b1 b2 gD aC eG iJ iK gU iL gE iM iN iO na pa tr tw tr' tw' hs m p r r' w' w'') 4 G) hp hp2 hp3
theorem W2f_run : RunF (W2f w b1 b2 N Tn pos G gD kD aU aB aA aC eG iJ iK gU iL gE iM iN iO na pa tr tw tr' tw' hs m p r r' w' w'' hp hp2 hp3 hpa hgt hlt) [1, 0, 2, 3] (.ok .next) 0 6 G (W2f_z w b1 b2 Tn gD aC iJ iK gU iL gE iM iN iO na pa tr tw tr' tw' hs m p r r' w' w'') := by
  walk_at "r"
variable {w b1 b2 N Tn pos G gD kD aU aB aA aC eG iJ iK gU iL gE iM iN iO}
def W2f_go := goF (W2f_run w b1 b2 N Tn pos G gD kD aU aB aA aC eG iJ iK gU iL gE iM iN iO na pa tr tw tr' tw' hs m p r r' w' w'' hp hp2 hp3 hpa hgt hlt) (sC rfl) (by decide)
end
section
variable (gF kE aU aB aA aC aR : Addr) (iP iQ gV iR gW iS : Tok) (h00 : decide ((0 : Int) > 0) = false) 
noncomputable abbrev W0_a : Rw := [(gF, (fO 4 [de w b1 b2 z2 iP (rf aC), de w b1 b2 z4 iQ (vi 0 gV), de w b1 b2 z5 iR (vi 0 gW), de w b1 b2 z6 iS (rf aR)]))]
noncomputable abbrev W0_z : Rw := [(gF, (fO 4 [de w b1 b2 z2 iP (rf aC), de w b1 b2 z4 iQ (vi 0 gV), de w b1 b2 z5 iR (vi 0 gW), de w b1 b2 z6 iS (rf aR)]))]
noncomputable abbrev W0_g : Ctx := ⟨.whileLoop wh143.1 wh143.2.1 wh143.2.2 (eN173 gF), none, none, [(k173 gF ⟨143, 4, 150, 13⟩), (k159 kE ⟨132, 4, 132, 37⟩), (.forLoop fl910.1 (rf aU) fl910.2.1 fl910.2.2 (eN907 aB), ⟨911, 8, 911, 53⟩), (k907 aB ⟨910, 13, 910, 36⟩), (k921 aA ⟨939, 29, 939, 43⟩), callerB], none⟩
noncomputable def W0 : Res :=
  simC w b1 b2 N Tn 10 [1, 1, 1] [cGt 0 gW 0 gV false h00 N Tn] (W0_g gF kE aU aB aA) pos (W0_a w b1 b2 gF aC aR iP iQ gV iR gW iS) 1 G
theorem W0_run : RunF (W0 w b1 b2 N Tn pos G gF kE aU aB aA aC aR iP iQ gV iR gW iS h00) [0] (.ok .next) 0 0 G (W0_z w b1 b2 gF aC aR iP iQ gV iR gW iS) := by
  walk_at "r"
variable {w b1 b2 N Tn pos G gF kE aU aB aA aC aR iP iQ gV iR gW iS}
def W0_go := goF (W0_run w b1 b2 N Tn pos G gF kE aU aB aA aC aR iP iQ gV iR gW iS h00) (sC rfl) (by decide)
end
section
variable (gG kF aU aB aA aC iT iU : Addr) (iV iW gX iX gH iY iZ jA : Tok) (h00 : decide ((0 : Int) > 0) = false) 
noncomputable abbrev W2e_a : Rw := [(gG, (fO 6 [de w b1 b2 z2 iV (rf aC), de w b1 b2 z4 iW (vi 0 gX), de w b1 b2 z5 iX (vi 0 gH), de w b1 b2 z6 iY (rf iT), de w b1 b2 z30 iZ (vi 0 gH), de w b1 b2 z31 jA (rf iU)]))]
noncomputable abbrev W2e_z : Rw := [(gG, (fO 6 [de w b1 b2 z2 iV (rf aC), de w b1 b2 z4 iW (vi 0 gX), de w b1 b2 z5 iX (vi 0 gH), de w b1 b2 z6 iY (rf iT), de w b1 b2 z30 iZ (vi 0 gH), de w b1 b2 z31 jA (rf iU)]))]
noncomputable abbrev W2e_g : Ctx := ⟨.whileLoop wh143.1 wh143.2.1 wh143.2.2 (eN173 gG), none, none, [(k173 gG ⟨143, 4, 150, 13⟩), (k159 kF ⟨132, 4, 132, 37⟩), (.forLoop fl910.1 (rf aU) fl910.2.1 fl910.2.2 (eN907 aB), ⟨911, 8, 911, 53⟩), (k907 aB ⟨910, 13, 910, 36⟩), (k921 aA ⟨939, 29, 939, 43⟩), callerB], none⟩
noncomputable def W2e : Res :=
  simC w b1 b2 N Tn 10 [1, 1, 1] [cGt 0 gH 0 gX false h00 N Tn] (W2e_g gG kF aU aB aA) pos (W2e_a w b1 b2 gG aC iT iU iV iW gX iX gH iY iZ jA) 1 G
theorem W2e_run : RunF (W2e w b1 b2 N Tn pos G gG kF aU aB aA aC iT iU iV iW gX iX gH iY iZ jA h00) [0] (.ok .next) 0 0 G (W2e_z w b1 b2 gG aC iT iU iV iW gX iX gH iY iZ jA) := by
  walk_at "r"
variable {w b1 b2 N Tn pos G gG kF aU aB aA aC iT iU iV iW gX iX gH iY iZ jA}
def W2e_go := goF (W2e_run w b1 b2 N Tn pos G gG kF aU aB aA aC iT iU iV iW gX iX gH iY iZ jA h00) (sC rfl) (by decide)
end
section
variable (aU aB aA : Addr) (v : Int) 
noncomputable abbrev Pe_a : Rw := [(aU, ⟨y6, none, .fields ⟨[vi v 0, vi 0 0, vi 2 0]⟩, ⟨[]⟩⟩)]
noncomputable abbrev Pe_z : Rw := []
noncomputable abbrev Pe_g : Ctx := ⟨.forLoop fl910.1 (rf aU) fl910.2.1 fl910.2.2 (eN907 aB), none, none, [(k907 aB ⟨910, 13, 910, 36⟩), (k921 aA ⟨939, 29, 939, 43⟩), callerB], none⟩
noncomputable def Pe : Res :=
  simC w b1 b2 N Tn 18 [1, 0, 1, 1, 1, 1, 3] [] (Pe_g aU aB aA) pos (Pe_a aU v) 1 G
theorem Pe_run : RunF (Pe w b1 b2 N Tn pos G aU aB aA v) [] (.ok .next) 2 0 G Pe_z := by
  walk_at "r"
variable {w b1 b2 N Tn pos G aU aB aA}
def Pe_go := goF (Pe_run w b1 b2 N Tn pos G aU aB aA v) (sC rfl) (by decide)
end
end
noncomputable abbrev sdF4 (w : World) (b1 b2 : Bool) (k1 k2 k3 k4 k5 : Tok) (hl : Addr) (t : Tp) (p : Nat) (tp : Tok) : Obj := (fO 4 [de w b1 b2 z2 k1 (Value.ref hl), de w b1 b2 z4 k2 (Value.int 0 k3), de w b1 b2 z5 k4 (Value.int (p : Int) tp), de w b1 b2 z6 k5 (Value.ref t.a)])
noncomputable abbrev sdF6 (w : World) (b1 b2 : Bool) (k1 k2 k3 k4 k5 k6 k7 : Tok) (hl : Addr) (t : Tp) (p : Nat) (tp : Tok) (q : Int) (tq : Tok) (pa : Addr) : Obj := (fO 6 [de w b1 b2 z2 k1 (Value.ref hl), de w b1 b2 z4 k2 (Value.int 0 k3), de w b1 b2 z5 k4 (Value.int (p : Int) tp), de w b1 b2 z6 k5 (Value.ref t.a), de w b1 b2 z30 k6 (Value.int q tq), de w b1 b2 z31 k7 (Value.ref pa)])
def SdFr (w : World) (b1 b2 : Bool) (k1 k2 k3 k4 k5 : Tok) (hl : Addr) (t : Tp) (p : Nat) (tp0 : Tok) (o : Obj) : Prop :=
  o = sdF4 w b1 b2 k1 k2 k3 k4 k5 hl t p tp0 ∨ ∃ k6 k7 tp q tq pa, o = sdF6 w b1 b2 k1 k2 k3 k4 k5 k6 k7 hl t p tp q tq pa
section
variable {w : World} {b1 b2 : Bool} {h₀ : Heap} {U : List Addr} {d : Drawn} {os : OsState} {R : Result → Shared → Prop} {G : List GenState} {F : Rw}
noncomputable abbrev sdWc (fa fb ri fl fr : Addr) : Ctx := ⟨.whileLoop wh143.1 wh143.2.1 wh143.2.2 (eN173 fa), none, none, [(k173 fa ⟨143, 4, 150, 13⟩), (k159 fb ⟨132, 4, 132, 37⟩), (.forLoop fl910.1 (Value.ref ri) fl910.2.1 fl910.2.2 (eN907 fl), ⟨911, 8, 911, 53⟩), (k907 fl ⟨910, 13, 910, 36⟩), (k921 fr ⟨939, 29, 939, 43⟩), callerB], none⟩
theorem sdW_loop2 (hs0 : List Tp) (t : Tp) (fa fb ri fl fr hl : Addr) (k1 k2 k3 k4 k5 k6 k7 : Tok) : ∀ (p : Nat) (hs : List Tp) (N Tn m : Nat) (pos : Pos) (tp : Tok) (pa : Addr) (h : Heap), p < 1000 → Hol F hs0 hs p t → SdI tlt hs p t →
    At w b1 b2 h₀ U F h N [(fa, sdF6 w b1 b2 k1 k2 k3 k4 k5 k6 k7 hl t p tp (p : Int) tp pa), (hl, lsO ⟨tpV hs⟩ m)] →
    (∀ h' N' T' hs' p' m' tp' q tq pa', p' < 1000 → Hol F hs0 hs' p' t → HeapP tlt (hs'.set p' t) → At w b1 b2 h₀ U F h' N' [(fa, sdF6 w b1 b2 k1 k2 k3 k4 k5 k6 k7 hl t p' tp' q tq pa'), (hl, lsO ⟨tpV hs'⟩ m')] → R (.ok .next) ⟨h', ⟨G⟩, d, T', os⟩) →
    wpCode (mdl w) (sdWc fa fb ri fl fr) R pos ⟨h, ⟨G⟩, d, Tn, os⟩ := by
  intro p
  induction p using Nat.strongRecOn with
  | _ p ih =>
    intro hs N Tn m pos tp pa h hp3 H I A kk
    rcases Nat.eq_zero_or_pos p with e | hp
    · subst e
      have A1 := A.freeze (l := [(fa, sdF6 w b1 b2 k1 k2 k3 k4 k5 k6 k7 hl t 0 tp ((0 : Nat) : Int) tp pa)]) (e := [(hl, lsO ⟨tpV hs⟩ m)])
      exact W2e_go (by decide) A1.ok A1.rep fun h' D => kk h' _ _ hs 0 m tp _ tp pa hp3 H I.fin0 (A1.next D).thaw
    · have hl2 : (p - 1) / 2 < hs.length := by have := H.lt; omega
      have hy := List.getElem?_eq_getElem hl2
      generalize hs[(p - 1) / 2] = y at hy
      have ne : (p - 1) / 2 ≠ p := by omega
      have Y := H.y hy ne
      obtain ⟨F', pf, A1⟩ := A.take2 H.t Y.1 Y.2
      have hpos : decide ((p : Int) > 0) = true := decide_eq_true (by omega)
      cases hlt : tlt t y with
      | true =>
        refine W2t_go (pos := pos) t.a y.a t.tr t.ts y.tr y.ts (tpV hs) m p t.r y.r t.s y.s hp (by rw [tpV_len]; exact H.lt) hp3 (tpV_get hy) hpos hlt A1.ok A1.rep fun h' pp D => ?_
        have A2 := (At.give2 (l := [(hl, lsO ⟨(tpV hs).set p y.v⟩ m), _]) (x := t.o) (y := y.o) (A1.next D) pf).pick [1, 0] (l' := [_, _]) rfl (by decide)
        rw [tpV_set] at A2
        exact ih _ (by omega) _ _ _ m pp _ _ h' (by omega) (H.step hy ne) (I.step tlt_ok hp H.lt hy hlt) A2 kk
      | false =>
        refine W2f_go (pos := pos) t.a y.a t.tr t.ts y.tr y.ts (tpV hs) m p t.r y.r t.s y.s hp (by rw [tpV_len]; exact H.lt) hp3 (tpV_get hy) hpos hlt A1.ok A1.rep fun h' D => ?_
        have A2 := (At.give2 (l := [(hl, lsO ⟨tpV hs⟩ m), _]) (x := t.o) (y := y.o) (A1.next D) pf).pick [1, 0] (l' := [_, _]) rfl (by decide)
        exact kk h' _ _ hs p m _ _ _ _ hp3 H (I.fin hp hy hlt) A2
theorem sdW_loop (hs0 : List Tp) (t : Tp) (fa fb ri fl fr hl : Addr) (k1 k2 k3 k4 k5 : Tok) (p : Nat) (hs : List Tp) (N Tn m : Nat) (pos : Pos) (tp : Tok) (h : Heap) (hp3 : p < 1000) (H : Hol F hs0 hs p t) (I : SdI tlt hs p t)
    (A : At w b1 b2 h₀ U F h N [(fa, sdF4 w b1 b2 k1 k2 k3 k4 k5 hl t p tp), (hl, lsO ⟨tpV hs⟩ m)])
    (kk : ∀ h' N' T' hs' p' m' o, p' < 1000 → Hol F hs0 hs' p' t → HeapP tlt (hs'.set p' t) → SdFr w b1 b2 k1 k2 k3 k4 k5 hl t p' tp o → At w b1 b2 h₀ U F h' N' [(fa, o), (hl, lsO ⟨tpV hs'⟩ m')] → R (.ok .next) ⟨h', ⟨G⟩, d, T', os⟩) :
    wpCode (mdl w) (sdWc fa fb ri fl fr) R pos ⟨h, ⟨G⟩, d, Tn, os⟩ := by
  rcases Nat.eq_zero_or_pos p with e | hp
  · subst e
    have A1 := A.freeze (l := [(fa, sdF4 w b1 b2 k1 k2 k3 k4 k5 hl t 0 tp)]) (e := [(hl, lsO ⟨tpV hs⟩ m)])
    exact W0_go (by decide) A1.ok A1.rep fun h' D => kk h' _ _ hs 0 m _ hp3 H I.fin0 (.inl rfl) (A1.next D).thaw
  · have hl2 : (p - 1) / 2 < hs.length := by have := H.lt; omega
    have hy := List.getElem?_eq_getElem hl2
    generalize hs[(p - 1) / 2] = y at hy
    have ne : (p - 1) / 2 ≠ p := by omega
    have Y := H.y hy ne
    obtain ⟨F', pf, A1⟩ := A.take2 H.t Y.1 Y.2
    have hpos : decide ((p : Int) > 0) = true := decide_eq_true (by omega)
    cases hlt : tlt t y with
    | true =>
      refine W1t_go (pos := pos) t.a y.a t.tr t.ts y.tr y.ts (tpV hs) m p t.r y.r t.s y.s hp (by rw [tpV_len]; exact H.lt) hp3 (tpV_get hy) hpos hlt A1.ok A1.rep fun h' pp D => ?_
      have A2 := (At.give2 (l := [(hl, lsO ⟨(tpV hs).set p y.v⟩ m), _]) (x := t.o) (y := y.o) (A1.next D) pf).pick [1, 0] (l' := [_, _]) rfl (by decide)
      rw [tpV_set] at A2
      exact sdW_loop2 hs0 t fa fb ri fl fr hl k1 k2 k3 k4 k5 _ _ _ _ _ _ m pp _ _ h' (by omega) (H.step hy ne) (I.step tlt_ok hp H.lt hy hlt) A2 fun h1 N1 T1 hs1 p1 m1 tp1 q1 tq1 pa1 a1 a2 a3 a4 => kk h1 N1 T1 hs1 p1 m1 _ a1 a2 a3 (.inr ⟨_, _, _, _, _, _, rfl⟩) a4
    | false =>
      refine W1f_go (pos := pos) t.a y.a t.tr t.ts y.tr y.ts (tpV hs) m p t.r y.r t.s y.s hp (by rw [tpV_len]; exact H.lt) hp3 (tpV_get hy) hpos hlt A1.ok A1.rep fun h' D => ?_
      have A2 := (At.give2 (l := [(hl, lsO ⟨tpV hs⟩ m), _]) (x := t.o) (y := y.o) (A1.next D) pf).pick [1, 0] (l' := [_, _]) rfl (by decide)
      exact kk h' _ _ hs p m _ hp3 H (I.fin hp hy hlt) (.inr ⟨_, _, _, _, _, _, rfl⟩) A2
/-- heappush -/
theorem push_go (hs : List Tp) (t : Tp) (hl ri fl fr : Addr) (N Tn m : Nat) (pos : Pos) (h : Heap) (hL : hs.length < 100) (hm : ∀ u ∈ hs ++ [t], u.o ∈ F) (nd : ((hs ++ [t]).map (·.a)).Nodup) (I : HeapP tlt hs)
    (A : At w b1 b2 h₀ U F h N [(hl, lsO ⟨tpV hs⟩ m)])
    (kk : ∀ h' N' T' hs' m', hs'.Perm (hs ++ [t]) → HeapP tlt hs' → At w b1 b2 h₀ U F h' N' [(hl, lsO ⟨tpV hs'⟩ m')] → R (.ok (.ret .none)) ⟨h', ⟨G⟩, d, T', os⟩) :
    wpCode (mdl w) (H1_g hl t.a ri fl fr) R pos ⟨h, ⟨G⟩, d, Tn, os⟩ := by
  refine H1_go (pos := pos) (tpV hs) m hs.length (tpV_len hs) hL A.ok A.rep fun h' pp D => ?_
  have A1 := (A.next D).pick [1, 0] (l' := [_, _]) rfl (by decide)
  rw [show tpV hs ++ [Value.ref t.a] = tpV (hs ++ [t]) from tpV_snoc hs t] at A1
  have e : (hs ++ [t]).set hs.length t = hs ++ [t] := by simp
  refine sdW_loop (F := F) (hs ++ [t]) t (N + 1) N ri fl fr hl _ _ _ _ _ hs.length (hs ++ [t]) _ _ (m + 1) pp _ h' (by omega) ⟨by rw [e], nd, hm, by simp⟩ I.push A1 ?_
  intro h2 N2 T2 hs2 p2 m2 o hp2 H2 HP fo A2
  have A3 := A2.pick [1, 0] (l' := [_, _]) rfl (by decide)
  rcases fo with rfl | ⟨k6, k7, tp, q, tq, pa, rfl⟩
  · refine K1_go (tpV hs) m hs.length (tpV_len hs) hL (N2 := N2) (Tn2 := T2) (tpV hs2) m2 p2 (by rw [tpV_len]; exact H2.lt) hp2 A3.ok A3.rep fun h3 D3 => ?_
    have A4 : At w b1 b2 h₀ U F h3 _ [(hl, lsO ⟨(tpV hs2).set p2 t.v⟩ m2)] := A3.next D3
    rw [tpV_set] at A4
    exact kk _ _ _ _ m2 H2.perm HP A4
  · have := K2_go (R := R) (d := d) (os := os) (N := N) (Tn := Tn) (pos := pos) (G := G) (aC := hl) (eG := t.a) (aU := ri) (aB := fl) (aA := fr) (tpV hs) m hs.length (tpV_len hs) hL (N2 := N2) (Tn2 := T2) (tpV hs2) m2 p2 (by rw [tpV_len]; exact H2.lt) hp2 q tq A3.ok A3.rep fun h3 D3 => by
      have A4 : At w b1 b2 h₀ U F h3 _ [(hl, lsO ⟨(tpV hs2).set p2 t.v⟩ m2)] := A3.next D3
      rw [tpV_set] at A4
      exact kk _ _ _ _ m2 H2.perm HP A4
    exact this
end
section
variable {w : World} {b1 b2 : Bool} {h₀ h : Heap} {U : List Addr} {F : Rw} {N : Nat} {l : Rw} {y : Addr × Obj} {us : List Tp} {t : Tp}
theorem pushPerm (A : At w b1 b2 h₀ U ([y] ++ (tpF us ++ F)) h N (l ++ [t.o])) : At w b1 b2 h₀ U (l ++ (tpF (us ++ [t]) ++ F)) h N [y] := by
  refine A.perm ?_
  have e : tpF (us ++ [t]) = tpF us ++ [t.o] := List.map_append
  rw [e]
  have : ((l ++ [t.o]) ++ ([y] ++ (tpF us ++ F))).Perm ([y] ++ (l ++ ((tpF us ++ [t.o]) ++ F))) := by
    simp only [List.append_assoc]
    refine List.Perm.trans ?_ (List.perm_append_comm_assoc l [y] _)
    refine List.Perm.append_left l ?_
    refine (List.perm_append_comm_assoc [t.o] [y] _).trans ?_
    exact List.Perm.append_left [y] (List.perm_append_comm_assoc [t.o] (tpF us) F)
  exact this
theorem pushPerm2 (A : At w b1 b2 h₀ U ([y] ++ (l ++ F)) h N []) : At w b1 b2 h₀ U F h N (l ++ [y]) := by
  refine A.perm ?_
  have : ([] ++ ([y] ++ (l ++ F))).Perm ((l ++ [y]) ++ F) := by
    simp only [List.append_assoc, List.nil_append]
    exact List.perm_append_comm_assoc [y] l F
  exact this
end
noncomputable abbrev Wd := Int × Tok × Str × Tok
noncomputable abbrev wsV (l : List Wd) : List Value := l.flatMap fun x => [Value.str (S (rankS x.1)) x.2.1, Value.str x.2.2.1 x.2.2.2]
theorem wsV_len (l : List Wd) : (wsV l).length = 2 * l.length := by
  induction l with
  | nil => rfl
  | cons x l ih =>
    show (_ :: _ :: wsV l).length = _
    rw [List.length_cons, List.length_cons, ih, List.length_cons]
    omega
theorem wsV_app (l r : List Wd) : wsV (l ++ r) = wsV l ++ wsV r := List.flatMap_append
theorem wsV_get0 (done todo : List Wd) (x : Wd) : (wsV (done ++ x :: todo))[2 * done.length]? = some (Value.str (S (rankS x.1)) x.2.1) := by
  rw [wsV_app, List.getElem?_append_right (by rw [wsV_len]; exact Nat.le_refl _), wsV_len, Nat.sub_self]; rfl
theorem wsV_get1 (done todo : List Wd) (x : Wd) : (wsV (done ++ x :: todo))[2 * done.length + 1]? = some (Value.str x.2.2.1 x.2.2.2) := by
  rw [wsV_app, List.getElem?_append_right (by rw [wsV_len]; omega), wsV_len, Nat.add_sub_cancel_left]; rfl
noncomputable abbrev ledF2 (w : World) (b1 b2 : Bool) (k1 k2 : Tok) (wl hl : Addr) : Obj := (fO 2 [de w b1 b2 z14 k1 (Value.ref wl), de w b1 b2 z2 k2 (Value.ref hl)])
noncomputable abbrev ledF3 (w : World) (b1 b2 : Bool) (k1 k2 k3 tk : Tok) (wl hl : Addr) (k0 : Int) : Obj := (fO 3 [de w b1 b2 z14 k1 (Value.ref wl), de w b1 b2 z2 k2 (Value.ref hl), de w b1 b2 (S [107]) k3 (Value.int k0 tk)])
noncomputable abbrev ri2 (a b : Int) : Obj := ⟨y6, none, .fields ⟨[Value.int a 0, Value.int b 0, Value.int 2 0]⟩, ⟨[]⟩⟩
noncomputable abbrev ledCp (ri fl fr : Addr) : Ctx := ⟨.forLoop fl910.1 (Value.ref ri) fl910.2.1 fl910.2.2 (eN907 fl), none, none, [(k907 fl ⟨910, 13, 910, 36⟩), (k921 fr ⟨939, 29, 939, 43⟩), callerB], none⟩
section
variable {w : World} {b1 b2 : Bool} {h₀ : Heap} {U : List Addr} {d : Drawn} {os : OsState} {R : Result → Shared → Prop} {G : List GenState} {F : Rw}
theorem own_nd {h : Heap} {N : Nat} {l : Rw} {us : List Tp} (A : At w b1 b2 h₀ U (tpF us ++ F) h N l) : (us.map (·.a)).Nodup := by
  have nd := A.nd
  rw [List.map_append, List.map_append] at nd
  have := (List.nodup_append.mp (List.nodup_append.mp nd).2.1).1
  rw [show (tpF us).map (·.1) = us.map (·.a) from by rw [List.map_map]; rfl] at this
  exact this
theorem push_loop2 (ri fl fr wl hl : Addr) (k1 k2 k3 : Tok) (m : Nat) (todo : List Wd) : ∀ (done : List Wd) (hs us : List Tp) (N Tn mh : Nat) (pos : Pos) (tk : Tok) (k0 : Int) (h : Heap), (done ++ todo).length ≤ 8 →
    (∀ x ∈ todo, x.1 = 0 ∨ x.1 = 1 ∨ x.1 = 2 ∨ x.1 = 3 ∨ x.1 = 4) → us.map Tp.k = done.map (fun x => (x.1, x.2.2.1)) → hs.Perm us → HeapP tlt hs →
    At w b1 b2 h₀ U (tpF us ++ F) h N [(ri, ri2 ((2 * done.length : Nat) : Int) (todo.length : Int)), (fl, ledF3 w b1 b2 k1 k2 k3 tk wl hl k0), (wl, lsO ⟨wsV (done ++ todo)⟩ m), (hl, lsO ⟨tpV hs⟩ mh)] →
    (∀ h' N' T' hs' us' m' tk' k0', us'.map Tp.k = (done ++ todo).map (fun x => (x.1, x.2.2.1)) → hs'.Perm us' → HeapP tlt hs' → At w b1 b2 h₀ U (tpF us' ++ F) h' N' [(fl, ledF3 w b1 b2 k1 k2 k3 tk' wl hl k0'), (wl, lsO ⟨wsV (done ++ todo)⟩ m), (hl, lsO ⟨tpV hs'⟩ m')] → R (.ok .next) ⟨h', ⟨G⟩, d, T', os⟩) →
    wpCode (mdl w) (ledCp ri fl fr) R pos ⟨h, ⟨G⟩, d, Tn, os⟩ := by
  induction todo with
  | nil =>
    intro done hs us N Tn mh pos tk k0 h hl8 hr hu hp HP A kk
    rw [List.append_nil] at A kk
    have A1 := A.freeze (l := [(ri, ri2 ((2 * done.length : Nat) : Int) 0)]) (e := [_, _, _])
    exact Pe_go (R := R) _ A1.ok A1.rep fun h' D => kk h' _ _ hs us mh tk k0 hu hp HP ((A1.next D).thaw (l := []))
  | cons x todo ih =>
    intro done hs us N Tn mh pos tk k0 h hl8 hr hu hp HP A kk
    have A1 := A.freeze (l := [_, _, _]) (e := [(hl, lsO ⟨tpV hs⟩ mh)])
    refine P2_go (pos := pos) (aC := hl) (wsV (done ++ x :: todo)) m done.length todo.length x.1 x.2.2.1 x.2.1 x.2.2.2 (by rw [List.length_append, List.length_cons] at hl8; omega) (wsV_get0 _ _ _) (wsV_get1 _ _ _) (hr x (by simp)) k0 A1.ok A1.rep fun h' pp D => ?_
    let t : Tp := ⟨N, x.1, Tn + 2, x.2.2.1, x.2.2.2⟩
    have A2 : At w b1 b2 h₀ U ([(hl, lsO ⟨tpV hs⟩ mh)] ++ (tpF us ++ F)) h' (N + 1 + 0) ([(ri, ri2 (((2 * done.length : Nat) : Int) + 2) (((todo.length + 1 : Nat) : Int) - 1)), (fl, ledF3 w b1 b2 k1 k2 k3 Tn wl hl ((2 * done.length : Nat) : Int)), (wl, lsO ⟨wsV (done ++ x :: todo)⟩ m)] ++ [t.o]) := A1.next D
    have A3 := pushPerm A2
    have hlen : us.length < 9 := by
      have := congrArg List.length hu
      rw [List.length_map, List.length_map] at this
      rw [List.length_append, List.length_cons] at hl8
      omega
    have hpm : (hs ++ [t]).Perm (us ++ [t]) := hp.append_right _
    have nd := own_nd (F := F) (us := us ++ [t]) (A3.dropF (F' := tpF (us ++ [t]) ++ F) (List.sublist_append_right ..))
    refine push_go hs t hl ri fl fr _ _ mh pp h' (by have := hp.length_eq; omega) (fun u hu2 => List.mem_append_right _ (List.mem_append_left _ (List.mem_map.mpr ⟨u, hpm.mem_iff.mp hu2, rfl⟩))) ((hpm.map (·.a)).nodup_iff.mpr nd) HP A3 ?_
    intro h2 N2 T2 hs2 m2 hpm2 HP2 A4
    have A5 := A4.freeze (l := []) (e := [(hl, lsO ⟨tpV hs2⟩ m2)])
    refine PK2_go (R := R) (d := d) (os := os) (N := N) (Tn := Tn) (pos := pos) (G := G) (aU := ri) (aB := fl) (aA := fr) (bA := wl) (aC := hl) (wsV (done ++ x :: todo)) m done.length todo.length x.1 x.2.2.1 x.2.1 x.2.2.2 (by rw [List.length_append, List.length_cons] at hl8; omega) (wsV_get0 _ _ _) (wsV_get1 _ _ _) (hr x (by simp)) k0 (N2 := N2) (Tn2 := T2) A5.ok A5.rep fun h3 pp3 D3 => ?_
    have A6 := pushPerm2 (A5.next D3)
    have e : done ++ x :: todo = (done ++ [x]) ++ todo := by rw [List.append_assoc]; rfl
    have e1 : (((2 * done.length : Nat) : Int) + 2) = ((2 * (done ++ [x]).length : Nat) : Int) := by rw [List.length_append, List.length_singleton]; omega
    have e2 : (((todo.length + 1 : Nat) : Int) - 1) = (todo.length : Int) := by omega
    rw [e, e1, e2] at A6
    exact ih (done ++ [x]) hs2 (us ++ [t]) _ _ m2 pp3 _ _ h3 (by rw [← e]; exact hl8) (fun y hy => hr y (List.mem_cons_of_mem _ hy)) (by rw [List.map_append, List.map_append, hu]; rfl) (hpm2.trans hpm) HP2 A6 (by rw [← e]; exact kk)
theorem push_loop1 (ri fl fr wl hl : Addr) (k1 k2 : Tok) (m : Nat) (x : Wd) (todo : List Wd) (N Tn mh : Nat) (pos : Pos) (h : Heap) (hl8 : (x :: todo).length ≤ 8)
    (hr : ∀ y ∈ x :: todo, y.1 = 0 ∨ y.1 = 1 ∨ y.1 = 2 ∨ y.1 = 3 ∨ y.1 = 4)
    (A : At w b1 b2 h₀ U (tpF [] ++ F) h N [(ri, ri2 ((2 * 0 : Nat) : Int) ((x :: todo).length : Int)), (fl, ledF2 w b1 b2 k1 k2 wl hl), (wl, lsO ⟨wsV (x :: todo)⟩ m), (hl, lsO ⟨tpV []⟩ mh)])
    (kk : ∀ h' N' T' hs' us' m' k3' tk' k0', us'.map Tp.k = (x :: todo).map (fun x => (x.1, x.2.2.1)) → hs'.Perm us' → HeapP tlt hs' → At w b1 b2 h₀ U (tpF us' ++ F) h' N' [(fl, ledF3 w b1 b2 k1 k2 k3' tk' wl hl k0'), (wl, lsO ⟨wsV (x :: todo)⟩ m), (hl, lsO ⟨tpV hs'⟩ m')] → R (.ok .next) ⟨h', ⟨G⟩, d, T', os⟩) :
    wpCode (mdl w) (ledCp ri fl fr) R pos ⟨h, ⟨G⟩, d, Tn, os⟩ := by
  have A1 := A.freeze (l := [_, _, _]) (e := [(hl, lsO ⟨tpV []⟩ mh)])
  refine P1_go (pos := pos) (aC := hl) (wsV (x :: todo)) m 0 todo.length x.1 x.2.2.1 x.2.1 x.2.2.2 (by decide) (wsV_get0 [] _ _) (wsV_get1 [] _ _) (hr x (by simp)) A1.ok A1.rep fun h' pp D => ?_
  let t : Tp := ⟨N, x.1, Tn + 2, x.2.2.1, x.2.2.2⟩
  have A2 : At w b1 b2 h₀ U ([(hl, lsO ⟨tpV []⟩ mh)] ++ (tpF [] ++ F)) h' (N + 1 + 0) ([(ri, ri2 (((2 * 0 : Nat) : Int) + 2) (((todo.length + 1 : Nat) : Int) - 1)), (fl, ledF3 w b1 b2 k1 k2 (Tn + 1) Tn wl hl ((2 * 0 : Nat) : Int)), (wl, lsO ⟨wsV (x :: todo)⟩ m)] ++ [t.o]) := A1.next D
  have A3 := pushPerm A2
  have hpm : ([] ++ [t] : List Tp).Perm [t] := List.Perm.refl _
  have nd := own_nd (F := F) (us := [t]) (A3.dropF (F' := tpF [t] ++ F) (List.sublist_append_right ..))
  refine push_go [] t hl ri fl fr _ _ mh pp h' (by decide) (fun u hu2 => List.mem_append_right _ (List.mem_append_left _ (List.mem_map.mpr ⟨u, hpm.mem_iff.mp hu2, rfl⟩))) ((hpm.map (·.a)).nodup_iff.mpr nd) (fun i a b h0 h1 h2 => by simp at h2) A3 ?_
  intro h2 N2 T2 hs2 m2 hpm2 HP2 A4
  have A5 := A4.freeze (l := []) (e := [(hl, lsO ⟨tpV hs2⟩ m2)])
  refine PK1_go (R := R) (d := d) (os := os) (N := N) (Tn := Tn) (pos := pos) (G := G) (aU := ri) (aB := fl) (aA := fr) (bA := wl) (aC := hl) (wsV (x :: todo)) m 0 todo.length x.1 x.2.2.1 x.2.1 x.2.2.2 (by decide) (wsV_get0 [] _ _) (wsV_get1 [] _ _) (hr x (by simp)) (N2 := N2) (Tn2 := T2) A5.ok A5.rep fun h3 pp3 D3 => ?_
  have A6 := pushPerm2 (A5.next D3)
  have e1 : (((2 * 0 : Nat) : Int) + 2) = ((2 * [x].length : Nat) : Int) := rfl
  have e2 : (((todo.length + 1 : Nat) : Int) - 1) = (todo.length : Int) := by omega
  rw [e1, e2] at A6
  exact push_loop2 ri fl fr wl hl k1 k2 (Tn + 1) m todo [x] hs2 ([t]) _ _ m2 pp3 _ _ h3 hl8 (fun y hy => hr y (List.mem_cons_of_mem _ hy)) rfl (hpm2) HP2 A6 fun h' N' T' hs' us' m' tk' k0' => kk h' N' T' hs' us' m' _ tk' k0'
end
noncomputable abbrev lawF3 (w : World) (b1 b2 : Bool) (k1 k2 k3 : Tok) (sc ml wl : Addr) : Obj := (fO 3 [de w b1 b2 z32 k1 (Value.ref sc), de w b1 b2 z3 k2 (Value.ref ml), de w b1 b2 z14 k3 (Value.ref wl)])
noncomputable abbrev lawE5 (w : World) (b1 b2 : Bool) (k1 k2 k3 k4 k5 : Tok) (sc ml wl : Addr) (r : Int) (tr : Tok) (x : Str) (tx : Tok) : Array DictEntry := ⟨[de w b1 b2 z32 k1 (Value.ref sc), de w b1 b2 z3 k2 (Value.ref ml), de w b1 b2 z14 k3 (Value.ref wl), de w b1 b2 z7 k4 (Value.int r tr), de w b1 b2 z8 k5 (Value.str x tx)]⟩
noncomputable abbrev lawF5 (w : World) (b1 b2 : Bool) (k1 k2 k3 k4 k5 : Tok) (sc ml wl : Addr) (r : Int) (tr : Tok) (x : Str) (tx : Tok) : Obj := frO (lawE5 w b1 b2 k1 k2 k3 k4 k5 sc ml wl r tr x tx) 5 ⟨[]⟩
noncomputable abbrev extC (it fr : Addr) : Ctx := ⟨.forLoop fl936.1 (Value.ref it) fl936.2.1 fl936.2.2 (eN921 fr), none, none, [(k921 fr ⟨936, 21, 936, 26⟩), callerB], none⟩
abbrev Rk (r : Int) : Prop := r = 0 ∨ r = 1 ∨ r = 2 ∨ r = 3 ∨ r = 4
theorem wsV_snoc (ws : List Wd) (r : Int) (t : Tok) (x : Str) (u : Tok) : wsV ws ++ [Value.str (S (rankS r)) t, Value.str x u] = wsV (ws ++ [(r, t, x, u)]) := by
  induction ws with
  | nil => rfl
  | cons y ws ih => show _ :: _ :: (wsV ws ++ _) = _ :: _ :: wsV (ws ++ _); rw [ih]
noncomputable abbrev wdK (x : Wd) : Int × Str := (x.1, x.2.2.1)
theorem tpV_mid (done todo : List Tp) (u : Tp) : (tpV (done ++ u :: todo))[done.length]? = some (Value.ref u.a) := by
  show ((done ++ u :: todo).map Tp.v)[done.length]? = _
  rw [List.getElem?_map, List.getElem?_append_right (Nat.le_refl _), Nat.sub_self]; rfl
section
variable {w : World} {b1 b2 : Bool} {h₀ : Heap} {U : List Addr} {d : Drawn} {os : OsState} {R : Result → Shared → Prop} {G : List GenState} {F : Rw} {ml it fr sc wl : Addr} {k1 k2 k3 : Tok} {n : Nat}
theorem ext_loop2 {k4 k5 : Tok} (todo : List Tp) : ∀ (done : List Tp) (ws : List Wd) (N Tn m : Nat) (pos : Pos) (h : Heap) (r0 : Int) (tr0 : Tok) (w0 : Str) (tw0 : Tok), (done ++ todo).length ≤ 8 → ws.map wdK = done.map Tp.k →
    (∀ u ∈ todo, u.o ∈ F ∧ Rk u.r) → At w b1 b2 h₀ U F h N [(ml, lsO ⟨tpV (done ++ todo)⟩ n), (it, liO ml (done.length : Int)), (fr, lawF5 w b1 b2 k1 k2 k3 k4 k5 sc ml wl r0 tr0 w0 tw0), (wl, lsO ⟨wsV ws⟩ m)] →
    (∀ h' N' T' ws' m' r0 tr0 w0 tw0, ws'.map wdK = (done ++ todo).map Tp.k → At w b1 b2 h₀ U F h' N' [(ml, lsO ⟨tpV (done ++ todo)⟩ n), (fr, lawF5 w b1 b2 k1 k2 k3 k4 k5 sc ml wl r0 tr0 w0 tw0), (wl, lsO ⟨wsV ws'⟩ m')] → R (.ok .next) ⟨h', ⟨G⟩, d, T', os⟩) →
    wpCode (mdl w) (extC it fr) R pos ⟨h, ⟨G⟩, d, Tn, os⟩ := by
  induction todo with
  | nil =>
    intro done ws N Tn m pos h r0 tr0 w0 tw0 hl hk hu A kk
    rw [List.append_nil] at A hl kk
    rw [show (done.length : Int) = ((tpV done).length : Int) from by rw [tpV_len]] at A
    exact Xe_go (pos := pos) (tpV done) (wsV ws) n m (by rw [tpV_len]; exact hl) r0 w0 A.ok A.rep fun h' D => kk h' _ _ ws m r0 tr0 w0 tw0 hk (A.next D)
  | cons u todo ih =>
    intro done ws N Tn m pos h r0 tr0 w0 tw0 hl hk hu A kk
    obtain ⟨hF, hr⟩ := hu u (.head _)
    obtain ⟨F', pF, A1⟩ := A.take hF
    have hws : (wsV ws).length ≤ 900 := by
      have h1 := congrArg List.length hk
      rw [List.length_map, List.length_map] at h1
      rw [wsV_len]
      rw [List.length_append, List.length_cons] at hl
      omega
    refine X2_go (pos := pos) u.a u.tr u.ts (tpV (done ++ u :: todo)) (wsV ws) n m done.length u.r u.s (tpV_mid done todo u) hr hws r0 w0 A1.ok A1.rep fun h1 pp D => ?_
    have A2 := At.give (l := [_, _, _, _]) (A1.next D) pF
    have e : done ++ u :: todo = (done ++ [u]) ++ todo := by rw [List.append_assoc]; rfl
    have el : ((done.length : Int) + 1) = ((done ++ [u]).length : Int) := by simp
    rw [e, el, wsV_snoc] at A2
    exact ih (done ++ [u]) _ _ _ (m + 1) pp h1 u.r u.tr u.s u.ts (by rw [← e]; exact hl) (by rw [List.map_append, hk, List.map_append]; rfl) (fun v hv => hu v (.tail _ hv)) A2 (by rw [← e]; exact kk)
theorem ext_loop1 (u : Tp) (todo : List Tp) (N Tn m : Nat) (pos : Pos) (h : Heap) (hl : (u :: todo).length ≤ 8)
    (hu : ∀ v ∈ u :: todo, v.o ∈ F ∧ Rk v.r) (A : At w b1 b2 h₀ U F h N [(ml, lsO ⟨tpV (u :: todo)⟩ n), (it, liO ml 0), (fr, lawF3 w b1 b2 k1 k2 k3 sc ml wl), (wl, lsO ⟨[]⟩ m)])
    (kk : ∀ h' N' T' ws' m' k4 k5 r0 tr0 w0 tw0, ws'.map wdK = (u :: todo).map Tp.k → At w b1 b2 h₀ U F h' N' [(ml, lsO ⟨tpV (u :: todo)⟩ n), (fr, lawF5 w b1 b2 k1 k2 k3 k4 k5 sc ml wl r0 tr0 w0 tw0), (wl, lsO ⟨wsV ws'⟩ m')] → R (.ok .next) ⟨h', ⟨G⟩, d, T', os⟩) :
    wpCode (mdl w) (extC it fr) R pos ⟨h, ⟨G⟩, d, Tn, os⟩ := by
  obtain ⟨hF, hr⟩ := hu u (.head _)
  obtain ⟨F', pF, A1⟩ := A.take hF
  refine X1_go (pos := pos) u.a u.tr u.ts (tpV (u :: todo)) [] n m 0 u.r u.s (tpV_mid [] todo u) hr (Nat.zero_le _) A1.ok A1.rep fun h1 pp D => ?_
  have A2 := At.give (l := [_, _, _, _]) (A1.next D) pF
  exact ext_loop2 todo [u] [(u.r, Tn + 2, u.s, u.ts)] _ _ (m + 1) pp h1 u.r u.tr u.s u.ts hl rfl (fun v hv => hu v (.tail _ hv)) A2 fun h' N' T' ws' m' r0 tr0 w0 tw0 e A3 => kk h' N' T' ws' m' Tn (Tn + 1) r0 tr0 w0 tw0 e A3
end
noncomputable def safC (c : Nat) : Bool := (Nat.ble 48 c && Nat.ble c 57) || Nat.beq c 97 || Nat.beq c 46 || Nat.beq c 47
/-- a text as quote writes it -/
noncomputable def qt (l : List Nat) : List Nat := if l.all safC then l else 39 :: (rep l ++ [39])
theorem qt_all : ([0, 1, 2, 3, 4, 5].all fun a => six6.all fun y => qt (wayL a y.1 y.2) == qtW a y.1 y.2) = true := by decide +kernel
theorem qt_way (a b c : Nat) (ha : a < 6) (hb : b < 6) (hc : c < 6) : qt (wayL a b c) = qtW a b c := by
  have := List.all_eq_true.mp (List.all_eq_true.mp qt_all a (mem6 ha)) (b, c) (mem_six6 hb hc)
  simpa using this
theorem qt_rank (r : Int) (h : Rk r) : qt (rankS r) = rankS r := by
  rcases h with rfl | rfl | rfl | rfl | rfl <;> decide +kernel
noncomputable abbrev qS (x : Str) : Str := S (qt x.cps.toList)
theorem lxW_all (a : Nat) (ha : a < 6) (r : List Nat) : six6.map (fun y => lx1 (qtW a y.1 y.2 ++ 32 :: r)) = six6.map fun y => some (wayL a y.1 y.2, !saf a y.1 y.2, false, r) := by
  rcases six ha with rfl | rfl | rfl | rfl | rfl | rfl <;> kernel_rfl
theorem lxW_end (a : Nat) (ha : a < 6) : six6.map (fun y => lx1 (qtW a y.1 y.2)) = six6.map fun y => some (wayL a y.1 y.2, !saf a y.1 y.2, true, []) := by
  rcases six ha with rfl | rfl | rfl | rfl | rfl | rfl <;> kernel_rfl
/-- a word that the lexer gives back -/
structure Back (x : List Nat) : Prop where
  ne : x ≠ []
  len : (qt x).length ≤ 40
  more : ∀ r, ∃ q, lx1 (qt x ++ 32 :: r) = some (x, q, false, r)
  last : ∃ q, lx1 (qt x) = some (x, q, true, [])
theorem back_way (a b c : Nat) (ha : a < 6) (hb : b < 6) (hc : c < 6) : Back (wayL a b c) := by
  have e := qt_way a b c ha hb hc
  have hk := chk a b c ha hb hc
  refine ⟨?_, ?_, fun r => ⟨!saf a b c, ?_⟩, ⟨!saf a b c, ?_⟩⟩
  · simp only [chkW, Bool.and_eq_true, decide_eq_true_eq] at hk
    intro q
    rw [q] at hk
    exact absurd hk.1.2 (by decide)
  · rw [e]
    have : ([0, 1, 2, 3, 4, 5].all fun a => six6.all fun y => decide ((qtW a y.1 y.2).length ≤ 40)) = true := by decide +kernel
    simpa using List.all_eq_true.mp (List.all_eq_true.mp this a (mem6 ha)) (b, c) (mem_six6 hb hc)
  · rw [e]; exact List.map_inj_left.mp (lxW_all a ha r) (b, c) (mem_six6 hb hc)
  · rw [e]; exact List.map_inj_left.mp (lxW_end a ha) (b, c) (mem_six6 hb hc)
theorem back_rank (r : Int) (h : Rk r) : Back (rankS r) := by
  refine ⟨by simp [rankS], ?_, fun r' => ⟨false, ?_⟩, ⟨false, ?_⟩⟩
  · rw [qt_rank r h]; simp [rankS]
  · rw [qt_rank r h]; rcases h with rfl | rfl | rfl | rfl | rfl <;> kernel_rfl
  · rw [qt_rank r h]; rcases h with rfl | rfl | rfl | rfl | rfl <;> kernel_rfl
/-- words with blanks between -/
noncomputable def gb : List (List Nat) → List Nat
  | [] => []
  | [a] => a
  | a :: b :: r => a ++ 32 :: gb (b :: r)
theorem reads_gb : ∀ (ws : List (List Nat)), ws ≠ [] → (∀ x ∈ ws, Back x) → Reads (gb (ws.map qt)) ws
  | [], h, _ => absurd rfl h
  | [x], _, h => by
    obtain ⟨q, e⟩ := (h x (.head _)).last
    exact .last e (h x (.head _)).ne
  | x :: y :: r, _, h => by
    obtain ⟨q, e⟩ := (h x (.head _)).more (gb ((y :: r).map qt))
    exact .more e (h x (.head _)).ne (reads_gb (y :: r) (by simp) fun z hz => h z (.tail _ hz))
theorem gb_len : ∀ (ws : List (List Nat)) (k : Nat), (∀ x ∈ ws, x.length ≤ k) → (gb ws).length ≤ ws.length * (k + 1)
  | [], k, _ => by simp [gb]
  | [x], k, h => by have := h x (.head _); simp [gb]; omega
  | x :: y :: r, k, h => by
    have h1 := h x (.head _)
    have h2 := gb_len (y :: r) k fun z hz => h z (.tail _ hz)
    show (x ++ 32 :: gb (y :: r)).length ≤ _
    rw [List.length_append, List.length_cons]
    have : (x :: y :: r).length * (k + 1) = (y :: r).length * (k + 1) + (k + 1) := by rw [List.length_cons (a := x), Nat.succ_mul]
    omega
theorem join_gb : ∀ (ps : List Str), (Str.join (S [32]) ps).cps.toList = gb (ps.map fun p => p.cps.toList)
  | [] => rfl
  | [a] => rfl
  | a :: b :: r => by
    show (a ++ S [32] ++ Str.join (S [32]) (b :: r)).cps.toList = _ ++ 32 :: gb ((b :: r).map fun p => p.cps.toList)
    rw [← join_gb (b :: r)]
    show (a.cps ++ #[32] ++ (Str.join (S [32]) (b :: r)).cps).toList = _
    simp
theorem glued_gb (ps : List Str) : Builtin.Str.glued (S [32]) ps = S (gb (ps.map fun p => p.cps.toList)) := by
  rw [StrLaws.glued_eq_join]
  exact S_of (join_gb ps)
noncomputable def kRun {α : Type} (c : Nat → Nat → Bool) : KasT α → α
  | .ret a => a
  | .ask i j k => kRun c (k (c i j))
theorem kRun_bind {α β : Type} (c : Nat → Nat → Bool) (f : α → KasT β) : ∀ (t : KasT α), kRun c (t.bind f) = kRun c (f (kRun c t))
  | .ret _ => rfl
  | .ask i j k => kRun_bind c f (k (c i j))
section
variable {β : Type} {lt : β → β → Bool} (key : Nat → β)
noncomputable abbrev kk (p : Array Nat) (i : Nat) : β := key (p.getD i 0)
def Srt (lt : β → β → Bool) (p : Array Nat) (n : Nat) : Prop := ∀ i j, i ≤ j → j < n → lt (kk key p j) (kk key p i) = false
def NInc (lt : β → β → Bool) (p : Array Nat) (n : Nat) : Prop := ∀ i j, i ≤ j → j < n → lt (kk key p i) (kk key p j) = false
variable {key}
theorem kk_congr {p q : Array Nat} {i j : Nat} (h : p[i]? = q[j]?) : kk key p i = kk key q j := by
  unfold kk
  rw [Array.getD_eq_getD_getElem?, Array.getD_eq_getD_getElem?, h]
theorem kk_bubble {xs : Array Nat} {src d : Nat} (hs : src < xs.size) (hd : d ≤ src) (k : Nat) :
    kk key (bubble xs src d) k = if k = src - d then kk key xs src else if src - d < k ∧ k ≤ src then kk key xs (k - 1) else kk key xs k := by
  have e := getElem?_bubble hs d hd k
  by_cases h1 : k = src - d
  · rw [if_pos h1] at e ⊢; exact kk_congr e
  · rw [if_neg h1] at e ⊢
    by_cases h2 : src - d < k ∧ k ≤ src
    · rw [if_pos h2] at e ⊢; exact kk_congr e
    · rw [if_neg h2] at e ⊢; exact kk_congr e
theorem kk_rev {xs : Array Nat} {i j : Nat} (hj : j ≤ xs.size) (k : Nat) : kk key (kas_rev xs i j) k = if i ≤ k ∧ k < j then kk key xs (i + j - 1 - k) else kk key xs k := by
  have e := getElem?_mirror_all (i := i) hj k
  unfold kas_rev
  by_cases h1 : i ≤ k ∧ k < j
  · rw [if_pos h1] at e ⊢; exact kk_congr e
  · rw [if_neg h1] at e ⊢; exact kk_congr e
theorem kk_rev_eq {xs : Array Nat} {i j : Nat} (hj : j ≤ xs.size) (heq : ∀ k, i ≤ k → k < j → kk key xs k = kk key xs (j - 1)) (k : Nat) : kk key (kas_rev xs i j) k = kk key xs k := by
  rw [kk_rev hj]
  split
  · rw [heq _ (by omega) (by omega), heq k (by omega) (by omega)]
  · rfl
noncomputable abbrev kc (lt : β → β → Bool) (key : Nat → β) (i j : Nat) : Bool := lt (key i) (key j)
theorem asc_ok (L : LtOk lt) (p : Array Nat) : ∀ (f n : Nat), 1 ≤ n → Srt key lt p n →
    n ≤ kRun (kc lt key) (kas_asc p f n) ∧ kRun (kc lt key) (kas_asc p f n) ≤ n + f ∧ Srt key lt p (kRun (kc lt key) (kas_asc p f n)) ∧
    (kRun (kc lt key) (kas_asc p f n) = n + f ∨ lt (kk key p (kRun (kc lt key) (kas_asc p f n))) (kk key p (kRun (kc lt key) (kas_asc p f n) - 1)) = true)
  | 0, n, h1, hs => ⟨Nat.le_refl _, Nat.le_refl _, hs, .inl rfl⟩
  | f + 1, n, h1, hs => by
    show n ≤ kRun (kc lt key) (if kc lt key (p.getD n 0) (p.getD (n - 1) 0) = true then KasT.ret n else kas_asc p f (n + 1)) ∧ _
    have e : kRun (kc lt key) (kas_asc p (f + 1) n) = kRun (kc lt key) (if kc lt key (p.getD n 0) (p.getD (n - 1) 0) = true then KasT.ret n else kas_asc p f (n + 1)) := rfl
    rw [e]
    cases h : kc lt key (p.getD n 0) (p.getD (n - 1) 0) with
    | true =>
      rw [if_pos rfl]
      exact ⟨Nat.le_refl _, Nat.le_add_right .., hs, .inr h⟩
    | false =>
      rw [if_neg (by simp)]
      have hs2 : Srt key lt p (n + 1) := fun i j hij hj => by
        by_cases hjx : j < n
        · exact hs i j hij hjx
        · have hj' : j = n := by omega
          subst hj'
          by_cases hi' : i = j
          · subst hi'; exact L.irr _
          · exact L.tr _ _ _ (hs i (j - 1) (by omega) (by omega)) h
      obtain ⟨q1, q2, q3, q4⟩ := asc_ok L p f (n + 1) (by omega) hs2
      exact ⟨by omega, by omega, q3, q4.imp (fun q => by omega) id⟩
theorem rev_perm (p : Array Nat) (i j : Nat) : (kas_rev p i j).toList.Perm p.toList := (mirror_perm p i j _).toList
theorem bub_perm (p : Array Nat) (s d : Nat) : (bubble p s d).toList.Perm p.toList := (bubble_perm p s d).toList
def Alk (key : Nat → β) (p : Array Nat) (n q : Nat) : Prop := ∀ i, n - (q + 1) ≤ i → i < n → kk key p i = kk key p (n - 1)
theorem NInc.congr {p p' : Array Nat} {n : Nat} (h : ∀ k, kk key p' k = kk key p k) (H : NInc key lt p n) : NInc key lt p' n := fun i j a b => by rw [h, h]; exact H i j a b
theorem NInc.snoc (L : LtOk lt) {p : Array Nat} {n : Nat} (h1 : 1 ≤ n) (H : NInc key lt p n) (h : lt (kk key p (n - 1)) (kk key p n) = false) : NInc key lt p (n + 1) := fun i j hij hj => by
  by_cases hjx : j < n
  · exact H i j hij hjx
  · have e : j = n := by omega
    subst e
    by_cases hi : i = j
    · subst hi; exact L.irr _
    · exact L.tr _ _ _ h (H i (j - 1) (by omega) (by omega))
theorem desc_ok (L : LtOk lt) (T : ∀ a b, lt a b = false → lt b a = false → a = b) : ∀ (f : Nat) (p : Array Nat) (n q : Nat), q + 1 ≤ n → n + f ≤ p.size → NInc key lt p n → Alk key p n q →
    (kRun (kc lt key) (kas_desc f p n q)).1.toList.Perm p.toList ∧ n ≤ (kRun (kc lt key) (kas_desc f p n q)).2.1 ∧ (kRun (kc lt key) (kas_desc f p n q)).2.1 ≤ n + f ∧
    NInc key lt (kRun (kc lt key) (kas_desc f p n q)).1 (kRun (kc lt key) (kas_desc f p n q)).2.1 ∧ (kRun (kc lt key) (kas_desc f p n q)).2.2 + 1 ≤ (kRun (kc lt key) (kas_desc f p n q)).2.1 ∧
    Alk key (kRun (kc lt key) (kas_desc f p n q)).1 (kRun (kc lt key) (kas_desc f p n q)).2.1 (kRun (kc lt key) (kas_desc f p n q)).2.2
  | 0, p, n, q, h1, h2, H, K => ⟨.refl _, Nat.le_refl _, Nat.le_refl _, H, h1, K⟩
  | f + 1, p, n, q, h1, h2, H, K => by
    have e : kRun (kc lt key) (kas_desc (f + 1) p n q) = kRun (kc lt key) (if kc lt key (p.getD n 0) (p.getD (n - 1) 0) = true then (if q > 0 then kas_desc f (kas_rev p (n - (q + 1)) n) (n + 1) 0 else kas_desc f p (n + 1) 0)
      else .ask (p.getD (n - 1) 0) (p.getD n 0) fun d => if d = true then .ret (p, n, q) else kas_desc f p (n + 1) (q + 1)) := rfl
    rw [e]
    cases h : kc lt key (p.getD n 0) (p.getD (n - 1) 0) with
    | true =>
      rw [if_pos rfl]
      have hc : lt (kk key p (n - 1)) (kk key p n) = false := L.as _ _ h
      have H2 := H.snoc L (by omega) hc
      have K0 : ∀ p', Alk key p' (n + 1) 0 := fun p' i a b => by
        have : i = n := by omega
        subst this; rfl
      by_cases hq : q > 0
      · rw [if_pos hq]
        have hz : (kas_rev p (n - (q + 1)) n).size = p.size := kas_rev_size ..
        have hk : ∀ k, kk key (kas_rev p (n - (q + 1)) n) k = kk key p k := kk_rev_eq (by omega) K
        obtain ⟨q1, q2, q3, q4, q5, q6⟩ := desc_ok L T f (kas_rev p (n - (q + 1)) n) (n + 1) 0 (by omega) (by omega) (H2.congr hk) (K0 _)
        exact ⟨q1.trans (rev_perm ..), by omega, by omega, q4, q5, q6⟩
      · rw [if_neg hq]
        obtain ⟨q1, q2, q3, q4, q5, q6⟩ := desc_ok L T f p (n + 1) 0 (by omega) (by omega) H2 (K0 _)
        exact ⟨q1, by omega, by omega, q4, q5, q6⟩
    | false =>
      rw [if_neg (by simp)]
      have e2 : kRun (kc lt key) (.ask (p.getD (n - 1) 0) (p.getD n 0) fun d => if d = true then KasT.ret (p, n, q) else kas_desc f p (n + 1) (q + 1)) = kRun (kc lt key) (if kc lt key (p.getD (n - 1) 0) (p.getD n 0) = true then KasT.ret (p, n, q) else kas_desc f p (n + 1) (q + 1)) := rfl
      rw [e2]
      cases h' : kc lt key (p.getD (n - 1) 0) (p.getD n 0) with
      | true =>
        rw [if_pos rfl]
        exact ⟨.refl _, Nat.le_refl _, by show n ≤ _; omega, H, h1, K⟩
      | false =>
        rw [if_neg (by simp)]
        have heq : kk key p n = kk key p (n - 1) := T _ _ h h'
        have K2 : Alk key p (n + 1) (q + 1) := fun i a b => by
          show _ = kk key p n
          by_cases hi : i = n
          · subst hi; rfl
          · rw [heq]; exact K i (by omega) (by omega)
        obtain ⟨q1, q2, q3, q4, q5, q6⟩ := desc_ok L T f p (n + 1) (q + 1) (by omega) (by omega) (H.snoc L (by omega) h') K2
        exact ⟨q1, by omega, by omega, q4, q5, q6⟩
theorem srt_one (L : LtOk lt) (p : Array Nat) : Srt key lt p 1 := fun i j a b => by
  have : i = j := by omega
  subst this; exact L.irr _
theorem tail3_ok (L : LtOk lt) (n nrem : Nat) (p : Array Nat) (h1 : 1 ≤ n) (hn : n ≤ nrem) (hz : nrem ≤ p.size) (H : NInc key lt p n) :
    (kRun (kc lt key) (kas_tail3 n nrem p)).2.toList.Perm p.toList ∧ 1 ≤ (kRun (kc lt key) (kas_tail3 n nrem p)).1 ∧ (kRun (kc lt key) (kas_tail3 n nrem p)).1 ≤ nrem ∧ Srt key lt (kRun (kc lt key) (kas_tail3 n nrem p)).2 (kRun (kc lt key) (kas_tail3 n nrem p)).1 := by
  unfold kas_tail3
  rw [kRun_bind]
  have hs : Srt key lt (kas_rev p 0 n) n := fun i j a b => by
    rw [kk_rev (by omega), kk_rev (by omega), if_pos (by omega), if_pos (by omega)]
    exact H _ _ (by omega) (by omega)
  obtain ⟨q1, q2, q3, _⟩ := asc_ok L (kas_rev p 0 n) (nrem - n) n h1 hs
  exact ⟨rev_perm .., by show 1 ≤ kRun _ _; omega, by show kRun _ _ ≤ nrem; omega, q3⟩
theorem descPart_ok (L : LtOk lt) (T : ∀ a b, lt a b = false → lt b a = false → a = b) (n nrem : Nat) (p : Array Nat) (h1 : 1 ≤ n) (hn : n + 1 ≤ nrem) (hz : nrem ≤ p.size) (H : NInc key lt p n)
    (hl : lt (kk key p n) (kk key p (n - 1)) = true) :
    (kRun (kc lt key) (kas_descPart n nrem p)).2.toList.Perm p.toList ∧ 1 ≤ (kRun (kc lt key) (kas_descPart n nrem p)).1 ∧ (kRun (kc lt key) (kas_descPart n nrem p)).1 ≤ nrem ∧ Srt key lt (kRun (kc lt key) (kas_descPart n nrem p)).2 (kRun (kc lt key) (kas_descPart n nrem p)).1 := by
  unfold kas_descPart
  rw [kRun_bind]
  have K0 : Alk key p (n + 1) 0 := fun i a b => by
    have : i = n := by omega
    subst this; rfl
  obtain ⟨q1, q2, q3, q4, q5, q6⟩ := desc_ok L T (nrem - (n + 1)) p (n + 1) 0 (by omega) (by omega) (H.snoc L h1 (L.as _ _ hl)) K0
  generalize kRun (kc lt key) (kas_desc (nrem - (n + 1)) p (n + 1) 0) = r at q1 q2 q3 q4 q5 q6 ⊢
  obtain ⟨p', m, q⟩ := r
  simp only at q1 q2 q3 q4 q5 q6 ⊢
  have hz' : p'.size = p.size := by have := q1.length_eq; simpa using this
  by_cases hq : q > 0
  · rw [if_pos hq]
    have hk : ∀ k, kk key (kas_rev p' (m - (q + 1)) m) k = kk key p' k := kk_rev_eq (by omega) q6
    have hz2 : (kas_rev p' (m - (q + 1)) m).size = p'.size := kas_rev_size ..
    obtain ⟨t1, t2, t3, t4⟩ := tail3_ok L m nrem (kas_rev p' (m - (q + 1)) m) (by omega) (by omega) (by omega) (q4.congr hk)
    exact ⟨t1.trans ((rev_perm ..).trans q1), t2, t3, t4⟩
  · rw [if_neg hq]
    obtain ⟨t1, t2, t3, t4⟩ := tail3_ok L m nrem p' (by omega) (by omega) (by omega) q4
    exact ⟨t1.trans q1, t2, t3, t4⟩
theorem count_ok (L : LtOk lt) (T : ∀ a b, lt a b = false → lt b a = false → a = b) (nrem : Nat) (p : Array Nat) (h1 : 1 ≤ nrem) (hz : nrem ≤ p.size) :
    (kRun (kc lt key) (kas_count nrem p)).2.toList.Perm p.toList ∧ 1 ≤ (kRun (kc lt key) (kas_count nrem p)).1 ∧ (kRun (kc lt key) (kas_count nrem p)).1 ≤ nrem ∧ Srt key lt (kRun (kc lt key) (kas_count nrem p)).2 (kRun (kc lt key) (kas_count nrem p)).1 := by
  unfold kas_count
  rw [kRun_bind]
  obtain ⟨q1, q2, q3, q4⟩ := asc_ok L p (nrem - 1) 1 (Nat.le_refl _) (srt_one L p)
  generalize kRun (kc lt key) (kas_asc p (nrem - 1) 1) = n at q1 q2 q3 q4 ⊢
  by_cases hn : n = nrem
  · rw [if_pos (by simp [hn])]
    exact ⟨.refl _, q1, by show n ≤ nrem; omega, q3⟩
  · rw [if_neg (by simp [hn])]
    have hlt : lt (kk key p n) (kk key p (n - 1)) = true := q4.resolve_left (by omega)
    by_cases h2 : n > 1
    · rw [if_pos h2]
      have e : kRun (kc lt key) (KasT.ask (p.getD 0 0) (p.getD (n - 1) 0) fun c => if c = true then KasT.ret (n, p) else kas_descPart n nrem (kas_rev p 0 n)) =
        kRun (kc lt key) (if kc lt key (p.getD 0 0) (p.getD (n - 1) 0) = true then KasT.ret (n, p) else kas_descPart n nrem (kas_rev p 0 n)) := rfl
      rw [e]
      cases h : kc lt key (p.getD 0 0) (p.getD (n - 1) 0) with
      | true =>
        rw [if_pos rfl]
        exact ⟨.refl _, q1, by show n ≤ nrem; omega, q3⟩
      | false =>
        rw [if_neg (by simp)]
        have h0 : lt (kk key p 0) (kk key p (n - 1)) = false := h
        have hall : ∀ k, 0 ≤ k → k < n → kk key p k = kk key p (n - 1) := fun k _ hk => by
          refine T _ _ ?_ (q3 k (n - 1) (by omega) (by omega))
          exact L.tr (kk key p (n - 1)) (kk key p 0) (kk key p k) h0 (q3 0 k (Nat.zero_le _) hk)
        have hk : ∀ k, kk key (kas_rev p 0 n) k = kk key p k := kk_rev_eq (by omega) hall
        have hz2 : (kas_rev p 0 n).size = p.size := kas_rev_size ..
        have hN : NInc key lt (kas_rev p 0 n) n := fun i j a b => by rw [hk, hk, hall i (Nat.zero_le _) (by omega), hall j (Nat.zero_le _) b]; exact L.irr _
        obtain ⟨t1, t2, t3, t4⟩ := descPart_ok L T n nrem (kas_rev p 0 n) q1 (by omega) (by omega) hN (by rw [hk, hk]; exact hlt)
        exact ⟨t1.trans (rev_perm ..), t2, t3, t4⟩
    · rw [if_neg h2]
      have hn1 : n = 1 := by omega
      subst hn1
      exact descPart_ok L T 1 nrem p (Nat.le_refl _) (by omega) hz (fun i j a b => by
        have : i = j := by omega
        subst this; exact L.irr _) hlt
theorem place_ok (L : LtOk lt) (p : Array Nat) (k : Nat) : ∀ (f l r : Nat), l ≤ r → r ≤ k → r - l ≤ f → Srt key lt p k → (∀ i, i < l → lt (kk key p k) (kk key p i) = false) → (∀ i, r ≤ i → i < k → lt (kk key p k) (kk key p i) = true) →
    kRun (kc lt key) (kas_place p k f l r) ≤ k ∧ (∀ i, i < kRun (kc lt key) (kas_place p k f l r) → lt (kk key p k) (kk key p i) = false) ∧ (∀ i, kRun (kc lt key) (kas_place p k f l r) ≤ i → i < k → lt (kk key p k) (kk key p i) = true)
  | 0, l, r, h1, h2, h3, S, A, B => by
    have : l = r := by omega
    subst this
    exact ⟨h2, A, B⟩
  | f + 1, l, r, h1, h2, h3, S, A, B => by
    unfold kas_place
    by_cases hl : l ≥ r
    · rw [if_pos hl]
      have : l = r := by omega
      subst this
      exact ⟨h2, A, B⟩
    · rw [if_neg hl]
      have hm : (l + r) / 2 < r ∧ l ≤ (l + r) / 2 := by omega
      generalize (l + r) / 2 = m at hm ⊢
      have e : kRun (kc lt key) (KasT.ask (p.getD k 0) (p.getD m 0) fun c => if c = true then kas_place p k f l m else kas_place p k f (m + 1) r) =
        kRun (kc lt key) (if kc lt key (p.getD k 0) (p.getD m 0) = true then kas_place p k f l m else kas_place p k f (m + 1) r) := rfl
      rw [e]
      cases h : kc lt key (p.getD k 0) (p.getD m 0) with
      | true =>
        rw [if_pos rfl]
        refine place_ok L p k f l m (by omega) (by omega) (by omega) S A fun i hi hk => ?_
        cases q : lt (kk key p k) (kk key p i) with
        | true => rfl
        | false =>
          have := L.tr (kk key p m) (kk key p i) (kk key p k) (S m i hi hk) q
          exact absurd ((show lt (kk key p k) (kk key p m) = true from h).symm.trans this) (by simp)
      | false =>
        rw [if_neg (by simp)]
        refine place_ok L p k f (m + 1) r (by omega) (by omega) (by omega) S (fun i hi => ?_) B
        by_cases hi' : i = m
        · subst hi'; exact h
        · exact L.tr (kk key p i) (kk key p m) (kk key p k) (S i m (by omega) (by omega)) h
theorem bin_ok (L : LtOk lt) : ∀ (f : Nat) (p : Array Nat) (k : Nat), k + f ≤ p.size → Srt key lt p k → (kRun (kc lt key) (kas_bin f p k)).toList.Perm p.toList ∧ Srt key lt (kRun (kc lt key) (kas_bin f p k)) (k + f)
  | 0, p, k, h, S => ⟨.refl _, S⟩
  | f + 1, p, k, h, S => by
    unfold kas_bin
    rw [kRun_bind]
    obtain ⟨q1, q2, q3⟩ := place_ok L p k k 0 k (Nat.zero_le _) (Nat.le_refl _) (by omega) S (fun i hi => absurd hi (Nat.not_lt_zero _)) (fun i a b => absurd b (Nat.not_lt.mpr a))
    generalize kRun (kc lt key) (kas_place p k k 0 k) = l at q1 q2 q3 ⊢
    have hz : (bubble p k (k - l)).size = p.size := bubble_size ..
    have hb : ∀ i, kk key (bubble p k (k - l)) i = if i = k - (k - l) then kk key p k else if k - (k - l) < i ∧ i ≤ k then kk key p (i - 1) else kk key p i := kk_bubble (by omega) (by omega)
    have hkl : k - (k - l) = l := by omega
    rw [hkl] at hb
    have S2 : Srt key lt (bubble p k (k - l)) (k + 1) := fun i j hij hj => by
      rw [hb, hb]
      by_cases hjl : j = l
      · rw [if_pos hjl]
        by_cases hil : i = l
        · rw [if_pos hil]; exact L.irr _
        · rw [if_neg hil, if_neg (by omega)]
          exact q2 i (by omega)
      · rw [if_neg hjl]
        by_cases hil : i = l
        · rw [if_pos hil, if_pos (by omega)]
          exact L.as _ _ (q3 (j - 1) (by omega) (by omega))
        · rw [if_neg hil]
          split <;> split
          · exact S _ _ (by omega) (by omega)
          · exact S _ _ (by omega) (by omega)
          · exact absurd hj (by omega)
          · exact S _ _ (by omega) (by omega)
    obtain ⟨t1, t2⟩ := bin_ok L f (bubble p k (k - l)) (k + 1) (by omega) S2
    exact ⟨t1.trans (bub_perm ..), by rw [show k + (f + 1) = k + 1 + f from by omega]; exact t2⟩
theorem sort_ok (L : LtOk lt) (T : ∀ a b, lt a b = false → lt b a = false → a = b) (n : Nat) (h1 : 1 ≤ n) :
    (kRun (kc lt key) (kas_sort n)).toList.Perm (List.range n) ∧ Srt key lt (kRun (kc lt key) (kas_sort n)) n := by
  unfold kas_sort
  rw [kRun_bind]
  obtain ⟨q1, q2, q3, q4⟩ := count_ok (key := key) L T n (List.toArray (List.range n)) h1 (by simp)
  generalize kRun (kc lt key) (kas_count n (List.toArray (List.range n))) = r at q1 q2 q3 q4 ⊢
  obtain ⟨m, p⟩ := r
  simp only at q1 q2 q3 q4 ⊢
  have hz : p.size = n := by have := q1.length_eq; simpa using this
  by_cases h : m < n
  · rw [if_pos h]
    have hm : max m 1 = m := by omega
    rw [hm]
    obtain ⟨t1, t2⟩ := bin_ok L (n - m) p m (by omega) q4
    have e : m + (n - m) = n := by omega
    rw [e] at t2
    exact ⟨t1.trans q1, t2⟩
  · rw [if_neg h]
    have : m = n := by omega
    subst this
    exact ⟨q1, q4⟩
noncomputable def Rng {α : Type} (n : Nat) (G : α → Prop) : KasT α → Prop
  | .ret a => G a
  | .ask i j k => i < n ∧ j < n ∧ ∀ b, Rng n G (k b)
theorem rng_bind {α γ : Type} {n : Nat} {G : α → Prop} {G' : γ → Prop} {f : α → KasT γ} (hf : ∀ a, G a → Rng n G' (f a)) : ∀ (t : KasT α), Rng n G t → Rng n G' (t.bind f)
  | .ret a, h => hf a h
  | .ask _ _ k, h => ⟨h.1, h.2.1, fun b => rng_bind hf (k b) (h.2.2 b)⟩
def Gd (n : Nat) (p : Array Nat) : Prop := 0 < n ∧ ∀ x ∈ p.toList, x < n
theorem Gd.get {n : Nat} {p : Array Nat} (g : Gd n p) (i : Nat) : p.getD i 0 < n := by
  rw [Array.getD_eq_getD_getElem?]
  cases h : p[i]? with
  | none => exact g.1
  | some x =>
    have : p.toList[i]? = some x := by rw [Array.getElem?_toList]; exact h
    exact g.2 x (List.mem_of_getElem? this)
theorem Gd.perm {n : Nat} {p q : Array Nat} (g : Gd n p) (h : q.toList.Perm p.toList) : Gd n q := ⟨g.1, fun x hx => g.2 x (h.mem_iff.mp hx)⟩
theorem asc_rng {n : Nat} {p : Array Nat} (g : Gd n p) : ∀ f m, Rng n (fun _ => True) (kas_asc p f m)
  | 0, _ => trivial
  | f + 1, m => ⟨g.get _, g.get _, fun b => by
    show Rng n _ (if b = true then _ else _)
    split
    · trivial
    · exact asc_rng g f _⟩
theorem desc_rng {n : Nat} : ∀ (f : Nat) (p : Array Nat) (m q : Nat), Gd n p → Rng n (fun r => Gd n r.1) (kas_desc f p m q)
  | 0, _, _, _, g => g
  | f + 1, p, m, q, g => ⟨g.get _, g.get _, fun b => by
    show Rng n _ (if b = true then _ else _)
    split
    · split
      · exact desc_rng f _ _ _ (g.perm (rev_perm ..))
      · exact desc_rng f _ _ _ g
    · refine ⟨g.get _, g.get _, fun b => ?_⟩
      show Rng n _ (if b = true then _ else _)
      split
      · exact g
      · exact desc_rng f _ _ _ g⟩
theorem tail3_rng {n : Nat} {p : Array Nat} (g : Gd n p) (m r : Nat) : Rng n (fun r => Gd n r.2) (kas_tail3 m r p) := by
  unfold kas_tail3
  refine rng_bind (G := fun _ => True) ?_ _ (asc_rng (g.perm (rev_perm ..)) _ _)
  intro m' _
  exact g.perm (rev_perm p 0 m)
theorem descPart_rng {n : Nat} {p : Array Nat} (g : Gd n p) (m r : Nat) : Rng n (fun r => Gd n r.2) (kas_descPart m r p) :=
  rng_bind (G := fun r => Gd n r.1) (fun a ha => by
    show Rng n _ (if a.2.2 > 0 then _ else _)
    split
    · exact tail3_rng (ha.perm (rev_perm ..)) _ _
    · exact tail3_rng ha _ _) _ (desc_rng _ _ _ _ g)
theorem count_rng {n : Nat} {p : Array Nat} (g : Gd n p) (r : Nat) : Rng n (fun r => Gd n r.2) (kas_count r p) :=
  rng_bind (G := fun _ => True) (fun a _ => by
    show Rng n _ (if (a == r) = true then _ else _)
    split
    · exact g
    · split
      · refine ⟨g.get _, g.get _, fun b => ?_⟩
        show Rng n _ (if b = true then _ else _)
        split
        · exact g
        · exact descPart_rng (g.perm (rev_perm ..)) _ _
      · exact descPart_rng g _ _) _ (asc_rng g _ _)
theorem place_rng {n : Nat} {p : Array Nat} (g : Gd n p) (k : Nat) : ∀ f l r, Rng n (fun _ => True) (kas_place p k f l r)
  | 0, _, _ => trivial
  | f + 1, l, r => by
    unfold kas_place
    split
    · trivial
    · refine ⟨g.get _, g.get _, fun b => ?_⟩
      show Rng n _ (if b = true then _ else _)
      split
      · exact place_rng g k f _ _
      · exact place_rng g k f _ _
theorem bin_rng {n : Nat} : ∀ (f : Nat) (p : Array Nat) (k : Nat), Gd n p → Rng n (Gd n) (kas_bin f p k)
  | 0, _, _, g => g
  | f + 1, p, k, g => rng_bind (G := fun _ => True) (fun l _ => bin_rng f _ _ (g.perm (bub_perm ..))) _ (place_rng g k _ _ _)
theorem sort_rng (n : Nat) (h : 0 < n) : Rng n (Gd n) (kas_sort n) :=
  rng_bind (G := fun r => Gd n r.2) (fun r hr => by
    show Rng n _ (if r.1 < n then _ else _)
    split
    · exact bin_rng _ _ _ hr
    · exact hr) _ (count_rng ⟨h, fun x hx => by simpa using hx⟩ _)
theorem kas_by {α : Type} {cmp : Nat → Nat → (Bool → Shared → Prop) → Shared → Prop} {c : Nat → Nat → Bool} {I : Shared → Prop} {n : Nat} {G : α → Prop} {Q : α → Shared → Prop}
    (hc : ∀ i j C s, i < n → j < n → I s → (∀ s', I s' → C (c i j) s') → cmp i j C s) : ∀ (t : KasT α) (s : Shared), Rng n G t → I s → (∀ s', I s' → Q (kRun c t) s') → t.kasWp cmp Q s
  | .ret a, s, _, hi, h => h s hi
  | .ask i j k, s, r, hi, h => hc i j _ s r.1 r.2.1 hi fun s' hi' => kas_by hc (k (c i j)) s' (r.2.2 _) hi' h
end
theorem code_any {w : World} {Γ : Ctx} {p : Pos} {s : Shared} {R : Result → Shared → Prop} {f : Value} {args : List Value}
    (h : ∀ A, wpAny (mdl w) A (PySem.call f args) (fun v s' => R (.ok (.ret v)) s') (fun _ _ => False) s) : wpCode (mdl w) (Γ.enter (.call f ⟨args, []⟩) none p) R p s := by
  have h1 := h (arOf Γ) Γ p (in_arOf Γ)
  have e : PySem.call f args = Sem.call (.call f ⟨args, []⟩) none false [] (fun r => (match r with | .ok f => Sem.pure f | .error e => Sem.raise e : Sem Flow) >>= fun fl => match fl with | .ret v => pure v | _ => unsupported "internal:call-without-return-value") := rfl
  rw [e, Sem.wp_call] at h1
  refine wpCode_mono ?_ h1
  intro r s' hr
  cases r with
  | error x => exact hr.elim
  | ok fl =>
    cases fl with
    | ret v' => exact hr
    | next => exact (hr : False).elim
    | brk => exact (hr : False).elim
    | cont => exact (hr : False).elim
section
variable {w : World} {A : Around} {E : Value → Shared → Prop} {s : Shared} {vs : List Value} {a : Addr}
noncomputable abbrev srtH (h : Heap) (a : Addr) (vs : List Value) : Heap := ((h.update a (Obj.mapSeq fun _ => (#[] : Array Value))).push (seqObj "tuple" vs.toArray 0)).push (seqObj "list" #[] 0)
theorem list_sort_own {n : Nat} {P : PySem.Fin → Shared → Prop} (ho : s.heap.get? a = some (seqObj "list" vs.toArray n)) (h2 : 2 ≤ vs.length) (h64 : vs.length < 64)
    (h : wpAny (mdl w) A (keyKind' vs.toArray) (fun κ s' => (kas_sort vs.length).kasWp (kas_ask prog w A κ vs) (fun p s'' => s'' = { s with heap := srtH s.heap a vs } ∧
      P (.done (.ret .none)) { s'' with heap := s''.heap.update a (Obj.mapSeq fun _ => List.toArray (p.toList.map fun i => vs.getD i Value.none)) }) s') (fun _ _ => False) { s with heap := srtH s.heap a vs }) :
    wpAny (mdl w) A (Builtin.«list.sort» ⟨[.ref a], []⟩) P E s := by
  have ha : a < s.heap.objs.size := Heap.lt_size ho
  obtain ⟨e1, ho1⟩ : ∃ e1, (s.heap.update a (Obj.mapSeq fun _ => (#[] : Array Value))).get? a = some (seqObj "list" #[] e1) := ⟨_, get?_update_seq ho fun _ => #[]⟩
  have ho3 : (srtH s.heap a vs).get? a = some (seqObj "list" #[] e1) := Heap.get?_push_of_some _ (Heap.get?_push_of_some _ ho1)
  rw [list_sort_plain]
  refine wpAny_bind (listItems_at ho rfl ?_)
  refine wpAny_bind (listUpdate_at ho rfl ?_ (by rw [List.size_toArray, sizeLine_eq]; omega) (Nat.zero_le _))
  refine wpAny_bind (seqEpoch_at ho1 rfl ?_)
  refine wpAny_bind (wpAny_newTuple ?_ (by show vs.length ≤ _; rw [sizeLine_eq]; omega))
  refine wpAny_bind (wpAny_newList ?_ (Nat.zero_le _))
  refine wpAny_holding ?_
  show wpAny (model prog w) A _ P E { s with heap := srtH s.heap a vs }
  dsimp only
  have hn2 : ¬ vs.toArray.size < 2 := by rw [List.size_toArray]; omega
  rw [if_neg hn2, if_neg hn2]
  refine wpAny_bind (wpAny_mono h (fun κ s0 hk => ?_) fun _ _ x => x.elim)
  refine wpAny_bind (wpAny_mono (kat_run (Q := fun st' s' => ∃ p : Array Nat, p.size = vs.length ∧ arrOf st' = p.map (kas_item (vs.toArray.zip vs.toArray)) ∧ failedOf st' = none ∧ (s' = { s with heap := srtH s.heap a vs } ∧
      P (.done (.ret .none)) { s' with heap := s'.heap.update a (Obj.mapSeq fun _ => List.toArray (p.toList.map fun i => vs.getD i Value.none)) }))
    rfl h2 h64 (fun p' st' s' a1 a2 a3 a4 => ⟨p', a1, a2, a3, a4⟩) hk) ?_ fun _ _ e => e)
  rintro ⟨⟨⟩, st'⟩ s' ⟨p, hp, har, hf, es, k⟩
  dsimp only
  subst es
  have hout := kat_snds rfl har
  have hsz : (List.toArray (p.toList.map fun i => vs.getD i Value.none)).size = vs.length := by rw [List.size_toArray, List.length_map, Array.length_toList, hp]
  rw [hout]
  refine wpAny_bind (seqEpoch_at ho3 rfl ?_)
  refine wpAny_bind (listUpdate_at ho3 rfl ?_ (Nat.zero_le _) (Nat.le_trans (Nat.le_of_eq hsz) (by rw [sizeLine_eq]; omega)))
  rw [hf]
  simp only [bne_self_eq_false, Bool.false_eq_true, if_false]
  exact wpAny_pure k
theorem tup_ask {Q : Bool → Shared → Prop} {x y : Addr} {r r' : Int} {tr tr' : Tok} {p q : Str} {tp tq : Tok} {n m : Nat}
    (hx : s.heap.get? x = some (tupO ⟨[.int r tr, .str p tp]⟩ n)) (hy : s.heap.get? y = some (tupO ⟨[.int r' tr', .str q tq]⟩ m)) (h : Q (ltP r r' p q) s) :
    wpAny (mdl w) A (keyLt' (tuples' true) (.ref x) (.ref y)) Q E s := by
  refine kat_lt (Q := Q) hx rfl hy rfl ?_
  show KatLex prog w A true _ Q [(.int r tr, .int r' tr'), (.str p tp, .str q tq)] 0 s
  refine kat_cons (wpAny_eqBool_int ?_)
  refine kat_go (fun e => ?_) (fun e => ?_)
  · refine kat_yes (kat_cons (wpAny_eqBool_str (kat_go (fun e2 => ?_) (fun e2 => ?_))))
    · refine kat_yes (kat_nil ?_)
      have : ltP r r' p q = false := by
        have := of_decide_eq_true e2
        simp [ltP, e, this]
      rw [this] at h
      exact h
    · refine kat_no ?_
      show wpAny (mdl w) A (oneLt' false _ _) Q _ s
      refine kat_one _ _ (P.lt_str ?_)
      have : ltP r r' p q = decide (p.cps.toList < q.cps.toList) := by
        have := of_decide_eq_false e2
        simp [ltP, e, this]
      rw [this] at h
      exact h
  · refine kat_no ?_
    show wpAny (mdl w) A (oneLt' true _ _) Q _ s
    refine oneLt_int ?_
    have : ltP r r' p q = decide (r < r') := by simp [ltP, e]
    rw [this] at h
    exact h
theorem tups_kind {Q : SortKind → Shared → Prop} (ts : List Tp) (h0 : 0 < ts.length) (ht : ∀ t ∈ ts, s.heap.get? t.a = some t.o.2) (h : Q (tuples' true) s) :
    wpAny (mdl w) A (keyKind' (tpV ts).toArray) Q E s := by
  refine kat_kind (fs := ts.map fun t => Value.int t.r t.tr) (T := .type "int") ?_ (by simpa using h0) (fun v hv => ?_) (by rfl) ?_
  · clear h0 h
    induction ts with
    | nil => exact KatTups.nil
    | cons t ts ih => exact KatTups.cons (ht t (.head _)) rfl rfl rfl (ih fun u hu => ht u (.tail _ hu))
  · obtain ⟨t, _, rfl⟩ := List.mem_map.mp hv
    exact .now
  · exact h
noncomputable abbrev lt2 (a b : Int × Str) : Bool := ltP a.1 b.1 a.2 b.2
theorem lt2_ok : LtOk lt2 :=
  ⟨fun a => tlt_ok.irr ⟨0, a.1, 0, a.2, 0⟩, fun a b c => tlt_ok.tr ⟨0, a.1, 0, a.2, 0⟩ ⟨0, b.1, 0, b.2, 0⟩ ⟨0, c.1, 0, c.2, 0⟩, fun a b => tlt_ok.as ⟨0, a.1, 0, a.2, 0⟩ ⟨0, b.1, 0, b.2, 0⟩⟩
theorem lt2_anti (a b : Int × Str) (h1 : lt2 a b = false) (h2 : lt2 b a = false) : a = b := by
  obtain ⟨r, x⟩ := a
  obtain ⟨r', y⟩ := b
  simp only [lt2, ltP] at h1 h2
  by_cases e : r = r'
  · subst e
    simp only [beq_self_eq_true, if_true] at h1 h2
    by_cases f : x = y
    · rw [f]
    · rw [if_neg f] at h1
      rw [if_neg (fun q => f q.symm)] at h2
      have g1 := List.not_lt.mp (of_decide_eq_false h1)
      have g2 := List.not_lt.mp (of_decide_eq_false h2)
      have g := List.le_antisymm g2 g1
      exact absurd (by
        obtain ⟨⟨x⟩⟩ := x
        obtain ⟨⟨y⟩⟩ := y
        have g' : x = y := g
        rw [g']) f
  · have n1 : (r == r') = false := beq_false_of_ne e
    have n2 : (r' == r) = false := beq_false_of_ne (fun q => e q.symm)
    rw [n1] at h1
    rw [n2] at h2
    have g1 : ¬ r < r' := of_decide_eq_false h1
    have g2 : ¬ r' < r := of_decide_eq_false h2
    omega
noncomputable abbrev tp0 : Tp := ⟨0, 0, 0, S [], 0⟩
theorem map_getD_range (ts : List Tp) : (List.range ts.length).map (fun i => ts.getD i tp0) = ts := by
  refine List.ext_getElem (by simp) fun i h1 h2 => ?_
  simp [h2]
/-- the sorted list -/
theorem sort_tps (ts : List Tp) (h1 : 1 ≤ ts.length) (p : Array Nat) (hp : p = kRun (kc lt2 fun i => (ts.getD i tp0).k) (kas_sort ts.length)) :
    ∃ ts' : List Tp, (p.toList.map fun i => (tpV ts).getD i Value.none) = tpV ts' ∧ ts'.Perm ts ∧ ts'.Pairwise (fun a b => lt2 b.k a.k = false) := by
  obtain ⟨q1, q2⟩ := sort_ok (key := fun i => (ts.getD i tp0).k) lt2_ok lt2_anti ts.length h1
  rw [← hp] at q1 q2
  refine ⟨p.toList.map fun i => ts.getD i tp0, ?_, ?_, ?_⟩
  · show _ = (p.toList.map fun i => ts.getD i tp0).map Tp.v
    rw [List.map_map]
    refine List.map_congr_left fun i hi => ?_
    have hl : i < ts.length := by
      have := q1.mem_iff.mp hi
      simpa using this
    simp [tpV, hl]
  · have := q1.map fun i => ts.getD i tp0
    rw [map_getD_range] at this
    exact this
  · have hz : p.size = ts.length := by have := q1.length_eq; simpa using this
    refine List.pairwise_iff_getElem.mpr fun i j hi hj hij => ?_
    have hj' : j < p.size := by simpa using hj
    have hi' : i < p.size := by simpa using hi
    have := q2 i j (Nat.le_of_lt hij) (by omega)
    have e1 : p.getD j 0 = p[j] := by simp [Array.getD, hj']
    have e2 : p.getD i 0 = p[i] := by simp [Array.getD, hi']
    simp only [kk] at this
    rw [e1, e2] at this
    simpa using this
theorem sorted_any {Q : Value → Shared → Prop} {l : Addr} {n : Nat} (ts : List Tp) (hl : s.heap.get? l = some (lsO ⟨tpV ts⟩ n)) (h2 : 2 ≤ ts.length) (h64 : ts.length < 64) (ht : ∀ t ∈ ts, s.heap.get? t.a = some t.o.2)
    (h : ∀ h' ts' c, h'.objs.size = s.heap.objs.size + 4 → (∀ b o, s.heap.get? b = some o → h'.get? b = some o) → h'.get? (s.heap.objs.size + 1) = some (lsO ⟨tpV ts'⟩ c) → ts'.Perm ts → ts'.Pairwise (fun a b => lt2 b.k a.k = false) →
      Q (.ref (s.heap.objs.size + 1)) { s with heap := h' }) : wpAny (mdl w) A (call (.builtin "sorted") [.ref l]) Q E s := by
  have hvl : (tpV ts).length = ts.length := tpV_len ts
  refine Calls.call_function_entry kind_sorted plain_sorted entry_sorted (args_sorted1 _) ?_
  unfold Builtin.«sorted»
  refine wpAny_bind (m := checkCount "sorted" 1 1 _) (wpAny_pure ?_)
  have hlL : s.heap.IsList l (tpV ts).toArray := ⟨_, hl, rfl, n, rfl⟩
  refine wpAny_bind (collect_list hlL ?_ (by rw [sizeLine_eq]; omega))
  refine wpAny_bind (wpAny_newList ?_ (by rw [sizeLine_eq]; omega))
  obtain ⟨H1, eH1⟩ : ∃ H1, H1 = (s.heap.push (seqObj "list" #[] 0)).update s.heap.objs.size (Obj.mapSeq (· ++ (tpV ts).toArray)) := ⟨_, rfl⟩
  have hsz : H1.objs.size = s.heap.objs.size + 1 := by rw [eH1, Heap.size_update, size_push']
  have hoL : (H1.push (seqObj "list" (tpV ts).toArray 0)).get? (s.heap.objs.size + 1) = some (seqObj "list" (tpV ts).toArray 0) := by
    rw [← hsz]; exact Heap.get?_push_size _ rfl
  have keep : ∀ b o, s.heap.get? b = some o → (H1.push (seqObj "list" (tpV ts).toArray 0)).get? b = some o := fun b o q => by
    have hlt : b < s.heap.objs.size := Heap.lt_size q
    rw [Heap.get?_push_ne _ _ _ (by rw [hsz]; exact Nat.ne_of_lt (Nat.lt_succ_of_lt hlt)), eH1, Heap.get?_update_ne _ _ _ _ (Nat.ne_of_lt hlt), Heap.get?_push_ne _ _ _ (Nat.ne_of_lt hlt)]
    exact q
  have hsz2 : (H1.push (seqObj "list" (tpV ts).toArray 0)).objs.size = s.heap.objs.size + 2 := by rw [size_push', hsz]
  show wpAny _ _ _ _ _ { s with heap := ((s.heap.push (seqObj "list" #[] 0)).update s.heap.objs.size (Obj.mapSeq (· ++ (tpV ts).toArray))).push (seqObj "list" (tpV ts).toArray 0) }
  rw [← eH1]
  rw [hsz]
  generalize H1.push (seqObj "list" (tpV ts).toArray 0) = H2 at hoL keep hsz2 ⊢
  refine wpAny_bind (wpAny_holding (wpAny_call_entry slot_list_sort ⟨_, hoL, rfl⟩ entry_list_sort ?body (args_list_sort _)))
  case body =>
    have hne : ∀ b o, s.heap.get? b = some o → b ≠ s.heap.objs.size + 1 := fun b o q => Nat.ne_of_lt (Nat.lt_succ_of_lt (Heap.lt_size q))
    have k3 : ∀ b o, s.heap.get? b = some o → (srtH H2 (s.heap.objs.size + 1) (tpV ts)).get? b = some o := fun b o q => by
      refine Heap.get?_push_of_some _ (Heap.get?_push_of_some _ ?_)
      rw [Heap.get?_update_ne _ _ _ _ (hne b o q)]
      exact keep b o q
    refine list_sort_own (s := { s with heap := H2 }) hoL (by omega) (by omega) (tups_kind ts (by omega) (fun t m => k3 _ _ (ht t m)) ?_)
    rw [hvl]
    refine kas_by (c := kc lt2 fun i => (ts.getD i tp0).k) (n := ts.length) (G := Gd ts.length) (I := fun s' => s' = { s with heap := srtH H2 (s.heap.objs.size + 1) (tpV ts) }) (fun i j C s' hi hj es k => ?_) _ _ (sort_rng _ (by omega)) rfl fun s' es => ?_
    · subst es
      have g : ∀ k, k < ts.length → (tpV ts).getD k Value.none = .ref (ts.getD k tp0).a ∧ (srtH H2 (s.heap.objs.size + 1) (tpV ts)).get? (ts.getD k tp0).a = some (ts.getD k tp0).o.2 := fun k hk => by
        have e : ts.getD k tp0 = ts[k] := by simp [hk]
        refine ⟨by rw [e]; simp [tpV, hk], ?_⟩
        rw [e]
        exact k3 _ _ (ht _ (List.getElem_mem hk))
      unfold kas_ask
      rw [(g i hi).1, (g j hj).1]
      exact tup_ask (g i hi).2 (g j hj).2 (k _ rfl)
    · subst es
      refine ⟨rfl, ?_⟩
      obtain ⟨ts', e, pm, so⟩ := sort_tps ts (by omega) _ rfl
      rw [e]
      have hD : ∃ e1, (srtH H2 (s.heap.objs.size + 1) (tpV ts)).get? (s.heap.objs.size + 1) = some (seqObj "list" #[] e1) :=
        ⟨_, Heap.get?_push_of_some _ (Heap.get?_push_of_some _ (get?_update_seq hoL fun _ => #[]))⟩
      obtain ⟨e1, hD⟩ := hD
      refine ⟨_, rfl, wpAny_pure ⟨_, rfl, h _ ts' _ ?_ (fun b o q => ?_) (get?_update_seq hD fun _ => (tpV ts').toArray) pm so⟩⟩
      · rw [Heap.size_update, size_push', size_push', Heap.size_update, hsz2]
      · rw [Heap.get?_update_ne _ _ _ _ (hne b o q)]
        exact k3 b o q
end
theorem ds1 {c : Nat} {p2 : List Nat} {t : Tok} (h : p2 ≠ []) : min (Option.elim (some ((1 : Nat), t)) (S (c :: p2)).length (·.1)) (S (c :: p2)).length - min (Option.elim (none : Option (Nat × Tok)) 0 (·.1)) (S (c :: p2)).length ≠ (S (c :: p2)).length := by
  have := List.length_pos_iff.mpr h
  simp [Str.length]
  omega
theorem sl23D (a b : Nat) (p : List Nat) (t u : Tok) : ((S (a :: b :: p)).cps.toList.drop (min (Option.elim (some ((2 : Nat), t)) 0 (·.1)) (S (a :: b :: p)).length)).take (min (Option.elim (some ((3 : Nat), u)) (S (a :: b :: p)).length (·.1)) (S (a :: b :: p)).length - min (Option.elim (some ((2 : Nat), t)) 0 (·.1)) (S (a :: b :: p)).length) = p.take 1 := by
  cases p with
  | nil => simp [Str.length]
  | cons x p => 
    have e : min 3 (p.length + 1 + 1 + 1) - min 2 (p.length + 1 + 1 + 1) = 1 := by omega
    have e2 : min 2 (p.length + 1 + 1 + 1) = 2 := by omega
    simp [Str.length, e2] 
theorem ds3 (a b : Nat) (p : List Nat) (t u : Tok) : min (Option.elim (some ((3 : Nat), u)) (S (a :: b :: p)).length (·.1)) (S (a :: b :: p)).length - min (Option.elim (some ((2 : Nat), t)) 0 (·.1)) (S (a :: b :: p)).length ≠ (S (a :: b :: p)).length := by
  simp [Str.length]
  omega
theorem slice_butlast (nv : List Value) : slicePick ⟨nv⟩ none (some (-1)) none = ⟨nv.dropLast⟩ := by
  have := slicePick_butLast ⟨nv⟩ 1 (by decide)
  rw [List.dropLast_eq_take]
  simpa using this
section
variable (w : World) (b1 b2 : Bool) (N Tn : Nat) (pos : Pos) (G : List GenState)
section
variable (aF aA : Addr) (ms : List Value) (n : Nat) 
noncomputable abbrev Da_a : Rw := [(aF, (lsO ⟨ms⟩ (n)))]
noncomputable abbrev Da_z : Rw := [(aF, (lsO ⟨ms⟩ (n))), (N, (fO 4 [de w b1 b2 z3 Tn (rf aF), de w b1 b2 z12 (Tn + 2) (rf (N + 1)), de w b1 b2 z11 (Tn + 3) (vs (S [47]) (Tn + 1)), de w b1 b2 z9 (Tn + 4) (rf (N + 6))])), ((N + 1), ⟨y4, none, .seq ⟨[]⟩ 0, ⟨[]⟩⟩), ((N + 6), ⟨y4, none, .seq ⟨[]⟩ 0, ⟨[]⟩⟩)]
noncomputable abbrev Da_g : Ctx := ⟨.call (rf 914) ⟨[(rf aF)], []⟩, none, none, [(k921 aA ⟨939, 47, 939, 62⟩), callerB], none⟩
noncomputable abbrev Da_h : Ctx := ⟨.call (Value.builtin "sorted") ⟨[(rf aF)], []⟩, none, none, [(k914 N ⟨922, 21, 922, 34⟩), (k921 aA ⟨939, 47, 939, 62⟩), callerB], none⟩
noncomputable def Da : Res :=
  simC w b1 b2 N Tn 92 (dg 45 0x200222222755455505554555055545550554044402200) [] (Da_g aF aA) pos (Da_a aF ms n) 1 G
theorem Da_run : RunKP (Da w b1 b2 N Tn pos G aF aA ms n) [0, 1, 2, 7] (Da_h N aF aA) ⟨922, 21, 922, 34⟩ 7 5 G (Da_z w b1 b2 N Tn aF ms n) := by
  walk_at "r"
variable {w b1 b2 N Tn pos G aF aA}
def Da_go := goKP (Da_run w b1 b2 N Tn pos G aF aA ms n) (sC rfl) (by decide)
end
section
variable (aF aA : Addr) (ms : List Value) (n : Nat)  (N2 Tn2 : Nat) (sl : Addr) (so : List Value) (n2 : Nat) 
noncomputable abbrev Db_a : Rw := [(sl, (lsO ⟨so⟩ (n2)))]
noncomputable abbrev Db_z : Rw := [(sl, (lsO ⟨so⟩ (n2))), (N2, ⟨y5, none, .fields ⟨[(rf sl), (vi 0 0)]⟩, ⟨[]⟩⟩)]
noncomputable abbrev Db_h : Ctx := ⟨.forLoop fl922.1 (rf N2) fl922.2.1 fl922.2.2 (eN914 N), none, none, [(k914 N ⟨922, 21, 922, 34⟩), (k921 aA ⟨939, 47, 939, 62⟩), callerB], none⟩
noncomputable def Db : Res :=
  nextC (Da w b1 b2 N Tn pos G aF aA ms n) (.ok (.ret (rf sl))) w b1 b2 N2 Tn2 11 [1, 1, 0, 1, 2] [] (Db_a sl so n2) 1 G
theorem Db_run : RunK (Db w b1 b2 N Tn pos G aF aA ms n N2 Tn2 sl so n2) [0, 1] (Db_h N aA N2) 1 0 G (Db_z N2 sl so n2) := by
  walk_at "r"
variable {w b1 b2 N Tn pos G aF aA N2 Tn2}
def Db_go := goK (Db_run w b1 b2 N Tn pos G aF aA ms n N2 Tn2 sl so n2) (sK rfl) (by decide)
end
section
variable (aF aA : Addr) (ms : List Value) (n : Nat)  (N2 Tn2 : Nat) (sl : Addr) (so : List Value) (n2 : Nat)  (N3 Tn3 : Nat) (kG : Addr) (aW aX bD : Tok) (rt w0 nm0 : Str) (r0 : Int) (trt tr0 tw0 tnm : Tok) 
noncomputable abbrev Dl_a : Rw := [(N, (fO 7 [de w b1 b2 z3 Tn (rf aF), de w b1 b2 z12 (Tn + 2) (rf kG), de w b1 b2 z11 (Tn + 3) (vs rt trt), de w b1 b2 z9 (Tn + 4) (rf (N + 6)), de w b1 b2 z7 aW (vi r0 tr0), de w b1 b2 z8 aX (vs w0 tw0), de w b1 b2 z15 bD (vs nm0 tnm)]))]
noncomputable abbrev Dl_z : Rw := []
noncomputable def Dl : Res :=
  nextC (Db w b1 b2 N Tn pos G aF aA ms n N2 Tn2 sl so n2) (.ok .next) w b1 b2 N3 Tn3 6 [1] [] (Dl_a w b1 b2 N Tn aF kG aW aX bD rt w0 nm0 r0 trt tr0 tw0 tnm) 1 G
theorem Dl_run : RunF (Dl w b1 b2 N Tn pos G aF aA ms n N2 Tn2 sl so n2 N3 Tn3 kG aW aX bD rt w0 nm0 r0 trt tr0 tw0 tnm) [] (.ok (.ret (rf (N + 6)))) 0 0 G Dl_z := by
  walk_at "r"
variable {w b1 b2 N Tn pos G aF aA N2 Tn2 N3 Tn3 kG aW aX bD}
def Dl_go := goF (Dl_run w b1 b2 N Tn pos G aF aA ms n N2 Tn2 sl so n2 N3 Tn3 kG aW aX bD rt w0 nm0 r0 trt tr0 tw0 tnm) (sK rfl) (by decide)
end
section
variable (bK bF aE aH aA aF eQ aJ : Addr) (aM aN aO aQ aP aW bN aX bO bD fA : Tok) (cv nv : List Value) (m : Nat) (hk : cv.length ≤ 3) (rt : Str) (r0 : Int) (w0 : Str) (nm0 : Str) 
noncomputable abbrev Ie_a : Rw := [(bK, (lsO ⟨cv⟩ 0)), (bF, (liO bK (cv.length : Int))), (aE, (fO 7 [de w b1 b2 z3 aM (rf aF), de w b1 b2 z12 aN (rf eQ), de w b1 b2 z11 aO (vs rt aQ), de w b1 b2 z9 aP (rf aJ), de w b1 b2 z7 aW (vi r0 bN), de w b1 b2 z8 aX (vs w0 bO), de w b1 b2 z15 bD (vs nm0 fA)])), (eQ, (lsO ⟨nv⟩ (m)))]
noncomputable abbrev Ie_z : Rw := [(aE, (fO 7 [de w b1 b2 z3 aM (rf aF), de w b1 b2 z12 aN (rf eQ), de w b1 b2 z11 aO (vs rt aQ), de w b1 b2 z9 aP (rf aJ), de w b1 b2 z7 aW (vi r0 bN), de w b1 b2 z8 aX (vs w0 bO), de w b1 b2 z15 bD (vs nm0 fA)])), (eQ, (lsO ⟨nv⟩ (m)))]
noncomputable abbrev Ie_g : Ctx := ⟨.forLoop fl926.1 (rf bF) fl926.2.1 fl926.2.2 (eN914 aE), none, none, [(.forLoop fl922.1 (rf aH) fl922.2.1 fl922.2.2 (eN914 aE), ⟨926, 20, 926, 34⟩), (k914 aE ⟨922, 21, 922, 34⟩), (k921 aA ⟨939, 47, 939, 62⟩), callerB], none⟩
noncomputable def Ie : Res :=
  (fun _ => simC w b1 b2 N Tn 20 [2, 0, 2, 2, 2, 1, 2, 2, 6] [] (Ie_g bF aE aH aA) pos (Ie_a w b1 b2 bK bF aE aF eQ aJ aM aN aO aQ aP aW bN aX bO bD fA cv nv m rt r0 w0 nm0) 4 G) hk
theorem Ie_run : RunF (Ie w b1 b2 N Tn pos G bK bF aE aH aA aF eQ aJ aM aN aO aQ aP aW bN aX bO bD fA cv nv m hk rt r0 w0 nm0) [2, 3] (.ok .next) 2 0 G (Ie_z w b1 b2 aE aF eQ aJ aM aN aO aQ aP aW bN aX bO bD fA nv m rt r0 w0 nm0) := by
  revert cv b1
  exact tw 3 (fun _ h => h) (by kernel_rfl) fun _ h => h
variable {w b1 b2 N Tn pos G bK bF aE aH aA aF eQ aJ aM aN aO aQ aP aW bN aX bO bD fA}
def Ie_go := goF (Ie_run w b1 b2 N Tn pos G bK bF aE aH aA aF eQ aJ aM aN aO aQ aP aW bN aX bO bD fA cv nv m hk rt r0 w0 nm0) (sC rfl) (by decide)
end
section
variable (bB aH aE aA : Addr) (so : List Value) (n : Nat) (hk : so.length ≤ 8) 
noncomputable abbrev De_a : Rw := [(bB, (lsO ⟨so⟩ (n))), (aH, (liO bB (so.length : Int)))]
noncomputable abbrev De_z : Rw := []
noncomputable abbrev De_g : Ctx := ⟨.forLoop fl922.1 (rf aH) fl922.2.1 fl922.2.2 (eN914 aE), none, none, [(k914 aE ⟨922, 21, 922, 34⟩), (k921 aA ⟨939, 47, 939, 62⟩), callerB], none⟩
noncomputable def De : Res :=
  (fun _ => simC w b1 b2 N Tn 20 [2, 0, 2, 2, 2, 1, 2, 2, 4] [] (De_g aH aE aA) pos (De_a bB aH so n) 2 G) hk
theorem De_run : RunF (De w b1 b2 N Tn pos G bB aH aE aA so n hk) [] (.ok .next) 2 0 G De_z := by
  revert so b1
  exact tw 8 (fun _ h => h) (by kernel_rfl) fun _ h => h
variable {w b1 b2 N Tn pos G bB aH aE aA}
def De_go := goF (De_run w b1 b2 N Tn pos G bB aH aE aA so n hk) (sC rfl) (by decide)
end
section
variable (bK bF aE aH aA aF bR aJ : Addr) (aM aN aO aQ aP aW bN aX bO : Tok) (tc : Tok) (cv nv : List Value) (k m : Nat) (hnv : nv.length ≤ 900) (hx : cv[k]? = some (vs z13 tc)) (rt : Str) (r0 : Int) (w0 : Str) 
noncomputable abbrev I1x_a : Rw := [(bK, (lsO ⟨cv⟩ 0)), (bF, (liO bK (k : Int))), (aE, (fO 6 [de w b1 b2 z3 aM (rf aF), de w b1 b2 z12 aN (rf bR), de w b1 b2 z11 aO (vs rt aQ), de w b1 b2 z9 aP (rf aJ), de w b1 b2 z7 aW (vi r0 bN), de w b1 b2 z8 aX (vs w0 bO)])), (bR, (lsO ⟨nv⟩ (m)))]
noncomputable abbrev I1x_z : Rw := [(bK, (lsO ⟨cv⟩ 0)), (bF, (liO bK ((k : Int) + 1))), (aE, (fO 7 [de w b1 b2 z3 aM (rf aF), de w b1 b2 z12 aN (rf (N + 1)), de w b1 b2 z11 aO (vs rt aQ), de w b1 b2 z9 aP (rf aJ), de w b1 b2 z7 aW (vi r0 bN), de w b1 b2 z8 aX (vs w0 bO), de w b1 b2 z15 Tn (vs z13 tc)])), ((N + 1), (lsO ⟨nv.dropLast⟩ 0))]
noncomputable abbrev I1x_g : Ctx := ⟨.forLoop fl926.1 (rf bF) fl926.2.1 fl926.2.2 (eN914 aE), none, none, [(.forLoop fl922.1 (rf aH) fl922.2.1 fl922.2.2 (eN914 aE), ⟨926, 20, 926, 34⟩), (k914 aE ⟨922, 21, 922, 34⟩), (k921 aA ⟨939, 47, 939, 62⟩), callerB], none⟩
noncomputable abbrev I1x_h : Ctx := ⟨.forLoop fl926.1 (rf bF) fl926.2.1 fl926.2.2 (eN914 aE), none, none, [(.forLoop fl922.1 (rf aH) fl922.2.1 fl922.2.2 (eN914 aE), ⟨926, 20, 926, 34⟩), (k914 aE ⟨922, 21, 922, 34⟩), (k921 aA ⟨939, 47, 939, 62⟩), callerB], none⟩
noncomputable def I1x : Res :=
  (fun _ => simC w b1 b2 N Tn 41 (dg 14 0x33144403133312) [cItNext 1 0 bF bK (cv) 0 k (vs z13 tc) hx N Tn, cEqS z13 tc z13 (Tn + 1) true rfl N (Tn + 2), cSlice 3 4 bR N nv nv.dropLast m (-1) (Tn + 3) (by decide) (slice_butlast nv) (by omega) (N + 1) (Tn + 4)] (I1x_g bF aE aH aA) pos (I1x_a w b1 b2 bK bF aE aF bR aJ aM aN aO aQ aP aW bN aX bO cv nv k m rt r0 w0) 4 G) hnv
theorem I1x_run : RunC (I1x w b1 b2 N Tn pos G bK bF aE aH aA aF bR aJ aM aN aO aQ aP aW bN aX bO tc cv nv k m hnv hx rt r0 w0) [0, 1, 2, 5] (I1x_h bF aE aH aA) 2 5 G (I1x_z w b1 b2 N Tn bK bF aE aF aJ aM aN aO aQ aP aW bN aX bO tc cv nv k rt r0 w0) := by
  walk_at "r"
variable {w b1 b2 N Tn pos G bK bF aE aH aA aF bR aJ aM aN aO aQ aP aW bN aX bO}
def I1x_go := goC (I1x_run w b1 b2 N Tn pos G bK bF aE aH aA aF bR aJ aM aN aO aQ aP aW bN aX bO tc cv nv k m hnv hx rt r0 w0) (sC rfl) (by decide)
end
section
variable (bK bF aE aH aA aF bR aJ : Addr) (aM aN aO aQ aP aW bN aX bO : Tok) (tc : Tok) (cv nv : List Value) (k m : Nat) (hnv : nv.length ≤ 900) (cm : Str) (hd : (cm.cps.toList == z13.cps.toList) = false) (hin : (decide (S [] = cm) || decide (S [46] = cm)) = true) (hx : cv[k]? = some (vs cm tc)) (rt : Str) (r0 : Int) (w0 : Str) 
noncomputable abbrev I1e_a : Rw := [(bK, (lsO ⟨cv⟩ 0)), (bF, (liO bK (k : Int))), (aE, (fO 6 [de w b1 b2 z3 aM (rf aF), de w b1 b2 z12 aN (rf bR), de w b1 b2 z11 aO (vs rt aQ), de w b1 b2 z9 aP (rf aJ), de w b1 b2 z7 aW (vi r0 bN), de w b1 b2 z8 aX (vs w0 bO)])), (bR, (lsO ⟨nv⟩ (m)))]
noncomputable abbrev I1e_z : Rw := [(bK, (lsO ⟨cv⟩ 0)), (bF, (liO bK ((k : Int) + 1))), (aE, (fO 7 [de w b1 b2 z3 aM (rf aF), de w b1 b2 z12 aN (rf bR), de w b1 b2 z11 aO (vs rt aQ), de w b1 b2 z9 aP (rf aJ), de w b1 b2 z7 aW (vi r0 bN), de w b1 b2 z8 aX (vs w0 bO), de w b1 b2 z15 Tn (vs cm tc)])), (bR, (lsO ⟨nv⟩ (m)))]
noncomputable abbrev I1e_g : Ctx := ⟨.forLoop fl926.1 (rf bF) fl926.2.1 fl926.2.2 (eN914 aE), none, none, [(.forLoop fl922.1 (rf aH) fl922.2.1 fl922.2.2 (eN914 aE), ⟨926, 20, 926, 34⟩), (k914 aE ⟨922, 21, 922, 34⟩), (k921 aA ⟨939, 47, 939, 62⟩), callerB], none⟩
noncomputable abbrev I1e_h : Ctx := ⟨.forLoop fl926.1 (rf bF) fl926.2.1 fl926.2.2 (eN914 aE), none, none, [(.forLoop fl922.1 (rf aH) fl922.2.1 fl922.2.2 (eN914 aE), ⟨926, 20, 926, 34⟩), (k914 aE ⟨922, 21, 922, 34⟩), (k921 aA ⟨939, 47, 939, 62⟩), callerB], none⟩
noncomputable def I1e : Res :=
  (fun _ => simC w b1 b2 N Tn 29 [2, 1, 3, 3, 3, 1, 3, 5, 5, 1] [cItNext 1 0 bF bK (cv) 0 k (vs cm tc) hx N Tn, cEqS cm tc z13 (Tn + 1) false hd N (Tn + 2), cLIn2 4 N (S []) (S [46]) (Tn + 2) (Tn + 3) 0 cm tc true hin (N + 1) (Tn + 4)] (I1e_g bF aE aH aA) pos (I1e_a w b1 b2 bK bF aE aF bR aJ aM aN aO aQ aP aW bN aX bO cv nv k m rt r0 w0) 4 G) hnv
theorem I1e_run : RunC (I1e w b1 b2 N Tn pos G bK bF aE aH aA aF bR aJ aM aN aO aQ aP aW bN aX bO tc cv nv k m hnv cm hd hin hx rt r0 w0) [0, 1, 2, 3] (I1e_h bF aE aH aA) 1 4 G (I1e_z w b1 b2 Tn bK bF aE aF bR aJ aM aN aO aQ aP aW bN aX bO tc cv nv k m cm rt r0 w0) := by
  walk_at "r"
variable {w b1 b2 N Tn pos G bK bF aE aH aA aF bR aJ aM aN aO aQ aP aW bN aX bO}
def I1e_go := goC (I1e_run w b1 b2 N Tn pos G bK bF aE aH aA aF bR aJ aM aN aO aQ aP aW bN aX bO tc cv nv k m hnv cm hd hin hx rt r0 w0) (sC rfl) (by decide)
end
section
variable (bK bF aE aH aA aF bR aJ : Addr) (aM aN aO aQ aP aW bN aX bO : Tok) (tc : Tok) (cv nv : List Value) (k m : Nat) (hnv : nv.length ≤ 900) (cm : Str) (hd : (cm.cps.toList == z13.cps.toList) = false) (hin : (decide (S [] = cm) || decide (S [46] = cm)) = false) (hx : cv[k]? = some (vs cm tc)) (rt : Str) (r0 : Int) (w0 : Str) 
noncomputable abbrev I1n_a : Rw := [(bK, (lsO ⟨cv⟩ 0)), (bF, (liO bK (k : Int))), (aE, (fO 6 [de w b1 b2 z3 aM (rf aF), de w b1 b2 z12 aN (rf bR), de w b1 b2 z11 aO (vs rt aQ), de w b1 b2 z9 aP (rf aJ), de w b1 b2 z7 aW (vi r0 bN), de w b1 b2 z8 aX (vs w0 bO)])), (bR, (lsO ⟨nv⟩ (m)))]
noncomputable abbrev I1n_z : Rw := [(bK, (lsO ⟨cv⟩ 0)), (bF, (liO bK ((k : Int) + 1))), (aE, (fO 7 [de w b1 b2 z3 aM (rf aF), de w b1 b2 z12 aN (rf (N + 2)), de w b1 b2 z11 aO (vs rt aQ), de w b1 b2 z9 aP (rf aJ), de w b1 b2 z7 aW (vi r0 bN), de w b1 b2 z8 aX (vs w0 bO), de w b1 b2 z15 Tn (vs cm tc)])), ((N + 2), (lsO ⟨nv ++ [vs cm tc]⟩ 0))]
noncomputable abbrev I1n_g : Ctx := ⟨.forLoop fl926.1 (rf bF) fl926.2.1 fl926.2.2 (eN914 aE), none, none, [(.forLoop fl922.1 (rf aH) fl922.2.1 fl922.2.2 (eN914 aE), ⟨926, 20, 926, 34⟩), (k914 aE ⟨922, 21, 922, 34⟩), (k921 aA ⟨939, 47, 939, 62⟩), callerB], none⟩
noncomputable abbrev I1n_h : Ctx := ⟨.forLoop fl926.1 (rf bF) fl926.2.1 fl926.2.2 (eN914 aE), none, none, [(.forLoop fl922.1 (rf aH) fl922.2.1 fl922.2.2 (eN914 aE), ⟨926, 20, 926, 34⟩), (k914 aE ⟨922, 21, 922, 34⟩), (k921 aA ⟨939, 47, 939, 62⟩), callerB], none⟩
noncomputable def I1n : Res :=
  (fun _ => simC w b1 b2 N Tn 50 (dg 18 0x331464331553133312) [cItNext 1 0 bF bK (cv) 0 k (vs cm tc) hx N Tn, cEqS cm tc z13 (Tn + 1) false hd N (Tn + 2), cLIn2 4 N (S []) (S [46]) (Tn + 2) (Tn + 3) 0 cm tc false hin (N + 1) (Tn + 4), cLAdd 3 5 bR (N + 1) nv [vs cm tc] m 0 (by simp; omega) (N + 2) (Tn + 4)] (I1n_g bF aE aH aA) pos (I1n_a w b1 b2 bK bF aE aF bR aJ aM aN aO aQ aP aW bN aX bO cv nv k m rt r0 w0) 4 G) hnv
theorem I1n_run : RunC (I1n w b1 b2 N Tn pos G bK bF aE aH aA aF bR aJ aM aN aO aQ aP aW bN aX bO tc cv nv k m hnv cm hd hin hx rt r0 w0) [0, 1, 2, 6] (I1n_h bF aE aH aA) 3 5 G (I1n_z w b1 b2 N Tn bK bF aE aF aJ aM aN aO aQ aP aW bN aX bO tc cv nv k cm rt r0 w0) := by
  walk_at "r"
variable {w b1 b2 N Tn pos G bK bF aE aH aA aF bR aJ aM aN aO aQ aP aW bN aX bO}
def I1n_go := goC (I1n_run w b1 b2 N Tn pos G bK bF aE aH aA aF bR aJ aM aN aO aQ aP aW bN aX bO tc cv nv k m hnv cm hd hin hx rt r0 w0) (sC rfl) (by decide)
end
section
variable (bK bF aE aH aA aF eJ aJ : Addr) (aM aN aO aQ aP aW bN aX bO bD fZ : Tok) (tc : Tok) (cv nv : List Value) (k m : Nat) (hnv : nv.length ≤ 900) (hx : cv[k]? = some (vs z13 tc)) (rt : Str) (r0 : Int) (w0 : Str) (nm0 : Str) 
noncomputable abbrev I2x_a : Rw := [(bK, (lsO ⟨cv⟩ 0)), (bF, (liO bK (k : Int))), (aE, (fO 7 [de w b1 b2 z3 aM (rf aF), de w b1 b2 z12 aN (rf eJ), de w b1 b2 z11 aO (vs rt aQ), de w b1 b2 z9 aP (rf aJ), de w b1 b2 z7 aW (vi r0 bN), de w b1 b2 z8 aX (vs w0 bO), de w b1 b2 z15 bD (vs nm0 fZ)])), (eJ, (lsO ⟨nv⟩ (m)))]
noncomputable abbrev I2x_z : Rw := [(bK, (lsO ⟨cv⟩ 0)), (bF, (liO bK ((k : Int) + 1))), (aE, (fO 7 [de w b1 b2 z3 aM (rf aF), de w b1 b2 z12 aN (rf (N + 1)), de w b1 b2 z11 aO (vs rt aQ), de w b1 b2 z9 aP (rf aJ), de w b1 b2 z7 aW (vi r0 bN), de w b1 b2 z8 aX (vs w0 bO), de w b1 b2 z15 bD (vs z13 tc)])), ((N + 1), (lsO ⟨nv.dropLast⟩ 0))]
noncomputable abbrev I2x_g : Ctx := ⟨.forLoop fl926.1 (rf bF) fl926.2.1 fl926.2.2 (eN914 aE), none, none, [(.forLoop fl922.1 (rf aH) fl922.2.1 fl922.2.2 (eN914 aE), ⟨926, 20, 926, 34⟩), (k914 aE ⟨922, 21, 922, 34⟩), (k921 aA ⟨939, 47, 939, 62⟩), callerB], none⟩
noncomputable abbrev I2x_h : Ctx := ⟨.forLoop fl926.1 (rf bF) fl926.2.1 fl926.2.2 (eN914 aE), none, none, [(.forLoop fl922.1 (rf aH) fl922.2.1 fl922.2.2 (eN914 aE), ⟨926, 20, 926, 34⟩), (k914 aE ⟨922, 21, 922, 34⟩), (k921 aA ⟨939, 47, 939, 62⟩), callerB], none⟩
noncomputable def I2x : Res :=
  (fun _ => simC w b1 b2 N Tn 41 (dg 14 0x33144403133312) [cItNext 1 0 bF bK (cv) 0 k (vs z13 tc) hx N Tn, cEqS z13 tc z13 (Tn + 1) true rfl N (Tn + 2), cSlice 3 4 eJ N nv nv.dropLast m (-1) (Tn + 3) (by decide) (slice_butlast nv) (by omega) (N + 1) (Tn + 4)] (I2x_g bF aE aH aA) pos (I2x_a w b1 b2 bK bF aE aF eJ aJ aM aN aO aQ aP aW bN aX bO bD fZ cv nv k m rt r0 w0 nm0) 4 G) hnv
theorem I2x_run : RunC (I2x w b1 b2 N Tn pos G bK bF aE aH aA aF eJ aJ aM aN aO aQ aP aW bN aX bO bD fZ tc cv nv k m hnv hx rt r0 w0 nm0) [0, 1, 2, 5] (I2x_h bF aE aH aA) 2 5 G (I2x_z w b1 b2 N bK bF aE aF aJ aM aN aO aQ aP aW bN aX bO bD tc cv nv k rt r0 w0) := by
  walk_at "r"
variable {w b1 b2 N Tn pos G bK bF aE aH aA aF eJ aJ aM aN aO aQ aP aW bN aX bO bD fZ}
def I2x_go := goC (I2x_run w b1 b2 N Tn pos G bK bF aE aH aA aF eJ aJ aM aN aO aQ aP aW bN aX bO bD fZ tc cv nv k m hnv hx rt r0 w0 nm0) (sC rfl) (by decide)
end
section
variable (bK bF aE aH aA aF eJ aJ : Addr) (aM aN aO aQ aP aW bN aX bO bD fZ : Tok) (tc : Tok) (cv nv : List Value) (k m : Nat) (hnv : nv.length ≤ 900) (cm : Str) (hd : (cm.cps.toList == z13.cps.toList) = false) (hin : (decide (S [] = cm) || decide (S [46] = cm)) = true) (hx : cv[k]? = some (vs cm tc)) (rt : Str) (r0 : Int) (w0 : Str) (nm0 : Str) 
noncomputable abbrev I2e_a : Rw := [(bK, (lsO ⟨cv⟩ 0)), (bF, (liO bK (k : Int))), (aE, (fO 7 [de w b1 b2 z3 aM (rf aF), de w b1 b2 z12 aN (rf eJ), de w b1 b2 z11 aO (vs rt aQ), de w b1 b2 z9 aP (rf aJ), de w b1 b2 z7 aW (vi r0 bN), de w b1 b2 z8 aX (vs w0 bO), de w b1 b2 z15 bD (vs nm0 fZ)])), (eJ, (lsO ⟨nv⟩ (m)))]
noncomputable abbrev I2e_z : Rw := [(bK, (lsO ⟨cv⟩ 0)), (bF, (liO bK ((k : Int) + 1))), (aE, (fO 7 [de w b1 b2 z3 aM (rf aF), de w b1 b2 z12 aN (rf eJ), de w b1 b2 z11 aO (vs rt aQ), de w b1 b2 z9 aP (rf aJ), de w b1 b2 z7 aW (vi r0 bN), de w b1 b2 z8 aX (vs w0 bO), de w b1 b2 z15 bD (vs cm tc)])), (eJ, (lsO ⟨nv⟩ (m)))]
noncomputable abbrev I2e_g : Ctx := ⟨.forLoop fl926.1 (rf bF) fl926.2.1 fl926.2.2 (eN914 aE), none, none, [(.forLoop fl922.1 (rf aH) fl922.2.1 fl922.2.2 (eN914 aE), ⟨926, 20, 926, 34⟩), (k914 aE ⟨922, 21, 922, 34⟩), (k921 aA ⟨939, 47, 939, 62⟩), callerB], none⟩
noncomputable abbrev I2e_h : Ctx := ⟨.forLoop fl926.1 (rf bF) fl926.2.1 fl926.2.2 (eN914 aE), none, none, [(.forLoop fl922.1 (rf aH) fl922.2.1 fl922.2.2 (eN914 aE), ⟨926, 20, 926, 34⟩), (k914 aE ⟨922, 21, 922, 34⟩), (k921 aA ⟨939, 47, 939, 62⟩), callerB], none⟩
noncomputable def I2e : Res :=
  (fun _ => simC w b1 b2 N Tn 29 [2, 1, 3, 3, 3, 1, 3, 5, 5, 1] [cItNext 1 0 bF bK (cv) 0 k (vs cm tc) hx N Tn, cEqS cm tc z13 (Tn + 1) false hd N (Tn + 2), cLIn2 4 N (S []) (S [46]) (Tn + 2) (Tn + 3) 0 cm tc true hin (N + 1) (Tn + 4)] (I2e_g bF aE aH aA) pos (I2e_a w b1 b2 bK bF aE aF eJ aJ aM aN aO aQ aP aW bN aX bO bD fZ cv nv k m rt r0 w0 nm0) 4 G) hnv
theorem I2e_run : RunC (I2e w b1 b2 N Tn pos G bK bF aE aH aA aF eJ aJ aM aN aO aQ aP aW bN aX bO bD fZ tc cv nv k m hnv cm hd hin hx rt r0 w0 nm0) [0, 1, 2, 3] (I2e_h bF aE aH aA) 1 4 G (I2e_z w b1 b2 bK bF aE aF eJ aJ aM aN aO aQ aP aW bN aX bO bD tc cv nv k m cm rt r0 w0) := by
  walk_at "r"
variable {w b1 b2 N Tn pos G bK bF aE aH aA aF eJ aJ aM aN aO aQ aP aW bN aX bO bD fZ}
def I2e_go := goC (I2e_run w b1 b2 N Tn pos G bK bF aE aH aA aF eJ aJ aM aN aO aQ aP aW bN aX bO bD fZ tc cv nv k m hnv cm hd hin hx rt r0 w0 nm0) (sC rfl) (by decide)
end
section
variable (bK bF aE aH aA aF eJ aJ : Addr) (aM aN aO aQ aP aW bN aX bO bD kH : Tok) (tc : Tok) (cv nv : List Value) (k m : Nat) (hnv : nv.length ≤ 900) (cm : Str) (hd : (cm.cps.toList == z13.cps.toList) = false) (hin : (decide (S [] = cm) || decide (S [46] = cm)) = false) (hx : cv[k]? = some (vs cm tc)) (rt : Str) (r0 : Int) (w0 : Str) (nm0 : Str) 
noncomputable abbrev I2n_a : Rw := [(bK, (lsO ⟨cv⟩ 0)), (bF, (liO bK (k : Int))), (aE, (fO 7 [de w b1 b2 z3 aM (rf aF), de w b1 b2 z12 aN (rf eJ), de w b1 b2 z11 aO (vs rt aQ), de w b1 b2 z9 aP (rf aJ), de w b1 b2 z7 aW (vi r0 bN), de w b1 b2 z8 aX (vs w0 bO), de w b1 b2 z15 bD (vs nm0 kH)])), (eJ, (lsO ⟨nv⟩ (m)))]
noncomputable abbrev I2n_z : Rw := [(bK, (lsO ⟨cv⟩ 0)), (bF, (liO bK ((k : Int) + 1))), (aE, (fO 7 [de w b1 b2 z3 aM (rf aF), de w b1 b2 z12 aN (rf (N + 2)), de w b1 b2 z11 aO (vs rt aQ), de w b1 b2 z9 aP (rf aJ), de w b1 b2 z7 aW (vi r0 bN), de w b1 b2 z8 aX (vs w0 bO), de w b1 b2 z15 bD (vs cm tc)])), ((N + 2), (lsO ⟨nv ++ [vs cm tc]⟩ 0))]
noncomputable abbrev I2n_g : Ctx := ⟨.forLoop fl926.1 (rf bF) fl926.2.1 fl926.2.2 (eN914 aE), none, none, [(.forLoop fl922.1 (rf aH) fl922.2.1 fl922.2.2 (eN914 aE), ⟨926, 20, 926, 34⟩), (k914 aE ⟨922, 21, 922, 34⟩), (k921 aA ⟨939, 47, 939, 62⟩), callerB], none⟩
noncomputable abbrev I2n_h : Ctx := ⟨.forLoop fl926.1 (rf bF) fl926.2.1 fl926.2.2 (eN914 aE), none, none, [(.forLoop fl922.1 (rf aH) fl922.2.1 fl922.2.2 (eN914 aE), ⟨926, 20, 926, 34⟩), (k914 aE ⟨922, 21, 922, 34⟩), (k921 aA ⟨939, 47, 939, 62⟩), callerB], none⟩
noncomputable def I2n : Res :=
  (fun _ => simC w b1 b2 N Tn 50 (dg 18 0x331464331553133312) [cItNext 1 0 bF bK (cv) 0 k (vs cm tc) hx N Tn, cEqS cm tc z13 (Tn + 1) false hd N (Tn + 2), cLIn2 4 N (S []) (S [46]) (Tn + 2) (Tn + 3) 0 cm tc false hin (N + 1) (Tn + 4), cLAdd 3 5 eJ (N + 1) nv [vs cm tc] m 0 (by simp; omega) (N + 2) (Tn + 4)] (I2n_g bF aE aH aA) pos (I2n_a w b1 b2 bK bF aE aF eJ aJ aM aN aO aQ aP aW bN aX bO bD kH cv nv k m rt r0 w0 nm0) 4 G) hnv
theorem I2n_run : RunC (I2n w b1 b2 N Tn pos G bK bF aE aH aA aF eJ aJ aM aN aO aQ aP aW bN aX bO bD kH tc cv nv k m hnv cm hd hin hx rt r0 w0 nm0) [0, 1, 2, 6] (I2n_h bF aE aH aA) 3 5 G (I2n_z w b1 b2 N bK bF aE aF aJ aM aN aO aQ aP aW bN aX bO bD tc cv nv k cm rt r0 w0) := by
  walk_at "r"
variable {w b1 b2 N Tn pos G bK bF aE aH aA aF eJ aJ aM aN aO aQ aP aW bN aX bO bD kH}
def I2n_go := goC (I2n_run w b1 b2 N Tn pos G bK bF aE aH aA aF eJ aJ aM aN aO aQ aP aW bN aX bO bD kH tc cv nv k m hnv cm hd hin hx rt r0 w0 nm0) (sC rfl) (by decide)
end
end
noncomputable abbrev dueF6 (w : World) (b1 b2 : Bool) (k1 k2 k3 k4 k5 k6 : Tok) (mvl nla pl : Addr) (rt : Str) (trt : Tok) (r0 : Int) (tr : Tok) (w0 : Str) (tw : Tok) : Obj := (fO 6 [de w b1 b2 z3 k1 (Value.ref mvl), de w b1 b2 z12 k2 (Value.ref nla), de w b1 b2 z11 k3 (Value.str rt trt), de w b1 b2 z9 k4 (Value.ref pl), de w b1 b2 z7 k5 (Value.int r0 tr), de w b1 b2 z8 k6 (Value.str w0 tw)])
noncomputable abbrev dueF7 (w : World) (b1 b2 : Bool) (k1 k2 k3 k4 k5 k6 k7 : Tok) (mvl nla pl : Addr) (rt : Str) (trt : Tok) (r0 : Int) (tr : Tok) (w0 : Str) (tw : Tok) (nm0 : Str) (tnm : Tok) : Obj := (fO 7 [de w b1 b2 z3 k1 (Value.ref mvl), de w b1 b2 z12 k2 (Value.ref nla), de w b1 b2 z11 k3 (Value.str rt trt), de w b1 b2 z9 k4 (Value.ref pl), de w b1 b2 z7 k5 (Value.int r0 tr), de w b1 b2 z8 k6 (Value.str w0 tw), de w b1 b2 z15 k7 (Value.str nm0 tnm)])
noncomputable abbrev dueCi (it fn si fr : Addr) : Ctx := ⟨.forLoop fl926.1 (Value.ref it) fl926.2.1 fl926.2.2 (eN914 fn), none, none, [(.forLoop fl922.1 (Value.ref si) fl922.2.1 fl922.2.2 (eN914 fn), ⟨926, 20, 926, 34⟩), (k914 fn ⟨922, 21, 922, 34⟩), (k921 fr ⟨939, 47, 939, 62⟩), callerB], none⟩
theorem sv_dropLast (l : List (Str × Tok)) : (strValues l).dropLast = strValues l.dropLast := by
  unfold strValues; rw [List.map_dropLast]
section
variable {w : World} {b1 b2 : Bool} {h₀ : Heap} {U : List Addr} {d : Drawn} {os : OsState} {R : Result → Shared → Prop} {G : List GenState} {F : Rw}
theorem names_loop2 (pa it fn si fr mvl pl : Addr) (k1 k2 k3 k4 k5 k6 k7 : Tok) (rt : Str) (trt : Tok) (r : Int) (tr : Tok) (ws : Str) (tw : Tok) (todo : List (Str × Tok)) :
    ∀ (done nl : List (Str × Tok)) (N Tn m : Nat) (nla : Addr) (nm : Str) (tnm : Tok) (pos : Pos) (h : Heap), (done ++ todo).length ≤ 3 → nl.length + todo.length ≤ 800 →
    At w b1 b2 h₀ U F h N [(pa, lsO ⟨strValues (done ++ todo)⟩ 0), (it, liO pa (done.length : Int)), (fn, dueF7 w b1 b2 k1 k2 k3 k4 k5 k6 k7 mvl nla pl rt trt r tr ws tw (nm) (tnm)), (nla, lsO ⟨strValues nl⟩ m)] →
    (∀ h' N' T' nla' nl' m' nm' tnm', nl'.map cdS = (todo.map cdS).foldl stp (nl.map cdS) → At w b1 b2 h₀ U F h' N' [(fn, dueF7 w b1 b2 k1 k2 k3 k4 k5 k6 k7 mvl nla' pl rt trt r tr ws tw (nm') (tnm')), (nla', lsO ⟨strValues nl'⟩ m')] → R (.ok .next) ⟨h', ⟨G⟩, d, T', os⟩) →
    wpCode (mdl w) (dueCi it fn si fr) R pos ⟨h, ⟨G⟩, d, Tn, os⟩ := by
  induction todo with
  | nil =>
    intro done nl N Tn m nla nm tnm pos h hl hb A kk
    rw [List.append_nil] at A hl
    rw [show (done.length : Int) = ((strValues done).length : Int) from by rw [sv_len]] at A
    exact Ie_go (pos := pos) (strValues done) (strValues nl) m (by rw [sv_len]; exact hl) rt r ws nm A.ok A.rep fun h' D => kk h' _ _ nla nl m nm tnm rfl (A.next D)
  | cons x todo ih =>
    intro done nl N Tn m nla nm tnm pos h hl hb A kk
    have e : done ++ x :: todo = (done ++ [x]) ++ todo := by rw [List.append_assoc]; rfl
    have el : ((done.length : Int) + 1) = ((done ++ [x]).length : Int) := by simp
    have hg := sv_get done todo x
    rw [List.length_cons] at hb
    have hnv : (strValues nl).length ≤ 900 := by rw [sv_len]; omega
    by_cases h3 : cdS x = [46, 46]
    · have ex : x.1 = S [46, 46] := by rw [S_eta x.1]; exact congrArg S h3
      rw [ex] at hg
      refine I2x_go (pos := pos) x.2 (strValues (done ++ x :: todo)) (strValues nl) done.length m hnv hg rt r ws nm A.ok A.rep fun h' pp D => ?_
      have A1 : At w b1 b2 h₀ U F h' (N + 2 + 0) [(pa, lsO ⟨strValues (done ++ x :: todo)⟩ 0), (it, liO pa ((done.length : Int) + 1)), (fn, dueF7 w b1 b2 k1 k2 k3 k4 k5 k6 k7 mvl (N + 1) pl rt trt r tr ws tw z13 (x.2)), (N + 1, lsO ⟨(strValues nl).dropLast⟩ 0)] := A.next D
      rw [el, e, sv_dropLast] at A1
      refine ih (done ++ [x]) nl.dropLast _ _ _ _ _ _ pp h' (by rw [← e]; exact hl) (by rw [List.length_dropLast]; omega) A1 fun h2 N2 T2 nla2 nl2 m2 nm2 tnm2 q A2 => kk h2 N2 T2 nla2 nl2 m2 nm2 tnm2 ?_ A2
      rw [q]; simp [stp, h3]
    · by_cases h1 : cdS x = [] ∨ cdS x = [46]
      · have hin : (decide (S [] = x.1) || decide (S [46] = x.1)) = true := by
          rcases h1 with q | q
          · have ex : x.1 = S [] := by rw [S_eta x.1]; exact congrArg S q
            rw [ex]; rfl
          · have ex : x.1 = S [46] := by rw [S_eta x.1]; exact congrArg S q
            rw [ex]; simp
        refine I2e_go (pos := pos) x.2 (strValues (done ++ x :: todo)) (strValues nl) done.length m hnv x.1 (str_ne h3) hin hg rt r ws nm A.ok A.rep fun h' pp D => ?_
        have A1 := (A.next D).pick [0, 1, 2, 3] (l' := [(pa, lsO ⟨strValues (done ++ x :: todo)⟩ 0), (it, liO pa ((done.length : Int) + 1)), (fn, dueF7 w b1 b2 k1 k2 k3 k4 k5 k6 k7 mvl nla pl rt trt r tr ws tw (x.1) (x.2)), (nla, lsO ⟨strValues nl⟩ m)]) rfl (by decide)
        rw [el, e] at A1
        refine ih (done ++ [x]) nl _ _ _ _ _ _ pp h' (by rw [← e]; exact hl) (by omega) A1 fun h2 N2 T2 nla2 nl2 m2 nm2 tnm2 q A2 => kk h2 N2 T2 nla2 nl2 m2 nm2 tnm2 ?_ A2
        rw [q]; simp only [List.map_cons, List.foldl_cons]
        rw [show stp (nl.map cdS) (cdS x) = nl.map cdS from by unfold stp; rw [if_pos h1]]
      · have hin : (decide (S [] = x.1) || decide (S [46] = x.1)) = false := by
          rw [decide_eq_false (fun q => h1 (.inl (by rw [cdS, ← q]))), decide_eq_false (fun q => h1 (.inr (by rw [cdS, ← q])))]; rfl
        refine I2n_go (pos := pos) x.2 (strValues (done ++ x :: todo)) (strValues nl) done.length m hnv x.1 (str_ne h3) hin hg rt r ws nm A.ok A.rep fun h' pp D => ?_
        have A1 : At w b1 b2 h₀ U F h' (N + 3 + 0) [(pa, lsO ⟨strValues (done ++ x :: todo)⟩ 0), (it, liO pa ((done.length : Int) + 1)), (fn, dueF7 w b1 b2 k1 k2 k3 k4 k5 k6 k7 mvl (N + 2) pl rt trt r tr ws tw (x.1) (x.2)), (N + 2, lsO ⟨strValues nl ++ [Value.str x.1 x.2]⟩ 0)] := A.next D
        rw [el, e, sv_snoc] at A1
        refine ih (done ++ [x]) (nl ++ [x]) _ _ _ _ _ _ pp h' (by rw [← e]; exact hl) (by rw [List.length_append, List.length_singleton]; omega) A1 fun h2 N2 T2 nla2 nl2 m2 nm2 tnm2 q A2 => kk h2 N2 T2 nla2 nl2 m2 nm2 tnm2 ?_ A2
        rw [q]; simp only [List.map_cons, List.foldl_cons, List.map_append, List.map_nil]
        rw [show stp (nl.map cdS) (cdS x) = nl.map cdS ++ [cdS x] from by unfold stp; rw [if_neg h1, if_neg h3]]
theorem names_loop1 (pa it fn si fr mvl pl : Addr) (k1 k2 k3 k4 k5 k6 : Tok) (rt : Str) (trt : Tok) (r : Int) (tr : Tok) (ws : Str) (tw : Tok) (x : Str × Tok) (todo : List (Str × Tok))
    (nl : List (Str × Tok)) (N Tn m : Nat) (nla : Addr) (pos : Pos) (h : Heap) (hl : (x :: todo).length ≤ 3) (hb : nl.length + (x :: todo).length ≤ 800)
    (A : At w b1 b2 h₀ U F h N [(pa, lsO ⟨strValues (x :: todo)⟩ 0), (it, liO pa ((0 : Nat) : Int)), (fn, dueF6 w b1 b2 k1 k2 k3 k4 k5 k6 mvl nla pl rt trt r tr ws tw), (nla, lsO ⟨strValues nl⟩ m)])
    (kk : ∀ h' N' T' nla' nl' m' k7' nm' tnm', nl'.map cdS = ((x :: todo).map cdS).foldl stp (nl.map cdS) → At w b1 b2 h₀ U F h' N' [(fn, dueF7 w b1 b2 k1 k2 k3 k4 k5 k6 k7' mvl nla' pl rt trt r tr ws tw nm' tnm'), (nla', lsO ⟨strValues nl'⟩ m')] → R (.ok .next) ⟨h', ⟨G⟩, d, T', os⟩) :
    wpCode (mdl w) (dueCi it fn si fr) R pos ⟨h, ⟨G⟩, d, Tn, os⟩ := by
    have el : (((0 : Nat) : Int) + 1) = ((([x] : List (Str × Tok)).length : Nat) : Int) := rfl
    have hg := sv_get [] todo x
    rw [List.nil_append] at hg
    rw [List.length_cons] at hb
    have hnv : (strValues nl).length ≤ 900 := by rw [sv_len]; omega
    by_cases h3 : cdS x = [46, 46]
    · have ex : x.1 = S [46, 46] := by rw [S_eta x.1]; exact congrArg S h3
      rw [ex] at hg
      refine I1x_go (pos := pos) x.2 (strValues (x :: todo)) (strValues nl) 0 m hnv hg rt r ws A.ok A.rep fun h' pp D => ?_
      have A1 : At w b1 b2 h₀ U F h' (N + 2 + 0) [(pa, lsO ⟨strValues (x :: todo)⟩ 0), (it, liO pa (((0 : Nat) : Int) + 1)), (fn, dueF7 w b1 b2 k1 k2 k3 k4 k5 k6 Tn mvl (N + 1) pl rt trt r tr ws tw z13 (x.2)), (N + 1, lsO ⟨(strValues nl).dropLast⟩ 0)] := A.next D
      rw [sv_dropLast] at A1
      refine names_loop2 pa it fn si fr mvl pl k1 k2 k3 k4 k5 k6 Tn rt trt r tr ws tw todo [x] nl.dropLast _ _ _ _ _ _ pp h' hl (by rw [List.length_dropLast]; omega) A1 fun h2 N2 T2 nla2 nl2 m2 nm2 tnm2 q A2 => kk h2 N2 T2 nla2 nl2 m2 _ nm2 tnm2 ?_ A2
      rw [q]; simp [stp, h3]
    · by_cases h1 : cdS x = [] ∨ cdS x = [46]
      · have hin : (decide (S [] = x.1) || decide (S [46] = x.1)) = true := by
          rcases h1 with q | q
          · have ex : x.1 = S [] := by rw [S_eta x.1]; exact congrArg S q
            rw [ex]; rfl
          · have ex : x.1 = S [46] := by rw [S_eta x.1]; exact congrArg S q
            rw [ex]; simp
        refine I1e_go (pos := pos) x.2 (strValues (x :: todo)) (strValues nl) 0 m hnv x.1 (str_ne h3) hin hg rt r ws A.ok A.rep fun h' pp D => ?_
        have A1 := (A.next D).pick [0, 1, 2, 3] (l' := [(pa, lsO ⟨strValues (x :: todo)⟩ 0), (it, liO pa (((0 : Nat) : Int) + 1)), (fn, dueF7 w b1 b2 k1 k2 k3 k4 k5 k6 Tn mvl nla pl rt trt r tr ws tw (x.1) (x.2)), (nla, lsO ⟨strValues nl⟩ m)]) rfl (by decide)
        refine names_loop2 pa it fn si fr mvl pl k1 k2 k3 k4 k5 k6 Tn rt trt r tr ws tw todo [x] nl _ _ _ _ _ _ pp h' hl (by omega) A1 fun h2 N2 T2 nla2 nl2 m2 nm2 tnm2 q A2 => kk h2 N2 T2 nla2 nl2 m2 _ nm2 tnm2 ?_ A2
        rw [q]; simp only [List.map_cons, List.foldl_cons]
        rw [show stp (nl.map cdS) (cdS x) = nl.map cdS from by unfold stp; rw [if_pos h1]]
      · have hin : (decide (S [] = x.1) || decide (S [46] = x.1)) = false := by
          rw [decide_eq_false (fun q => h1 (.inl (by rw [cdS, ← q]))), decide_eq_false (fun q => h1 (.inr (by rw [cdS, ← q])))]; rfl
        refine I1n_go (pos := pos) x.2 (strValues (x :: todo)) (strValues nl) 0 m hnv x.1 (str_ne h3) hin hg rt r ws A.ok A.rep fun h' pp D => ?_
        have A1 : At w b1 b2 h₀ U F h' (N + 3 + 0) [(pa, lsO ⟨strValues (x :: todo)⟩ 0), (it, liO pa (((0 : Nat) : Int) + 1)), (fn, dueF7 w b1 b2 k1 k2 k3 k4 k5 k6 Tn mvl (N + 2) pl rt trt r tr ws tw (x.1) (x.2)), (N + 2, lsO ⟨strValues nl ++ [Value.str x.1 x.2]⟩ 0)] := A.next D
        rw [sv_snoc] at A1
        refine names_loop2 pa it fn si fr mvl pl k1 k2 k3 k4 k5 k6 Tn rt trt r tr ws tw todo [x] (nl ++ [x]) _ _ _ _ _ _ pp h' hl (by rw [List.length_append, List.length_singleton]; omega) A1 fun h2 N2 T2 nla2 nl2 m2 nm2 tnm2 q A2 => kk h2 N2 T2 nla2 nl2 m2 _ nm2 tnm2 ?_ A2
        rw [q]; simp only [List.map_cons, List.foldl_cons, List.map_append, List.map_nil]
        rw [show stp (nl.map cdS) (cdS x) = nl.map cdS ++ [cdS x] from by unfold stp; rw [if_neg h1, if_neg h3]]
end
section
variable (w : World) (b1 b2 : Bool) (N Tn : Nat) (pos : Pos) (G : List GenState)
section
variable (aD aB aA : Addr) (pl w' : Str) (tp tw : Tok) (L : Nat) (hL : L < 900) (hpl : (pl.length : Int) = ((L + 1 : Nat) : Int)) (hw0 : w'.length ≠ 0) (hs : pl.length + w'.length ≤ 900) (hsw : (decide (0 + (S [47]).length ≤ w'.length) && Builtin.Str.subAt w' (S [47]) 0) = true) 
noncomputable abbrev J4_a : Rw := []
noncomputable abbrev J4_z : Rw := []
noncomputable abbrev J4_g : Ctx := ⟨.call (rf 138) ⟨[(vs pl tp), (vs w' tw)], []⟩, none, none, [(.forLoop fl914.1 (rf aD) fl914.2.1 fl914.2.2 (eN907 aB), ⟨916, 25, 916, 51⟩), (k907 aB ⟨914, 16, 914, 38⟩), (k921 aA ⟨939, 29, 939, 43⟩), callerB], none⟩
noncomputable def J4 : Res :=
  (fun _ _ _ _ _ => simC w b1 b2 N Tn 315 (dg 124 0x2a66166606222122227088880000070077070007700002022661666060610112222220000050005500002022304444000003003303000330000200222200) [cSw w' tw (S [47]) (Tn + 7) true hsw (N + 8) (Tn + 14)] (J4_g aD aB aA pl w' tp tw) pos J4_a 0 G) L hL hpl hw0 hs
theorem J4_run : RunF (J4 w b1 b2 N Tn pos G aD aB aA pl w' tp tw L hL hpl hw0 hs hsw) [] (.ok (.ret (vs w' tw))) 10 15 G J4_z := by
  walk_at "r"
variable {w b1 b2 N Tn pos G aD aB aA}
def J4_go := goF (J4_run w b1 b2 N Tn pos G aD aB aA pl w' tp tw L hL hpl hw0 hs hsw) (sC rfl) (by decide)
end
end
noncomputable abbrev jnC (ri fl fr : Addr) (pl w' : Str) (tp tw : Tok) : Ctx := ⟨.call (Value.ref 138) ⟨[(Value.str pl tp), (Value.str w' tw)], []⟩, none, none, [(.forLoop fl914.1 (Value.ref ri) fl914.2.1 fl914.2.2 (eN907 fl), ⟨916, 25, 916, 51⟩), (k907 fl ⟨914, 16, 914, 38⟩), (k921 fr ⟨939, 29, 939, 43⟩), callerB], none⟩
def Nam (c : List Nat) : Prop := c ≠ [] ∧ c ≠ [46] ∧ c ≠ [46, 46] ∧ 47 ∉ c
/-- a place: its root and its names -/
noncomputable abbrev Plc := List Nat × List (List Nat)
structure PlOk (P : Plc) : Prop where
  root : P.1 = [47] ∨ P.1 = [47, 47]
  nam : ∀ c ∈ P.2, Nam c
noncomputable abbrev plT (P : Plc) : Str := S (P.1 ++ gl P.2)
noncomputable def wk (P : Plc) (a b c : List Nat) : Plc :=
  if a = [] then (if b = [] then ([47, 47], [a, b, c].foldl stp []) else ([47], [a, b, c].foldl stp [])) else (P.1, [a, b, c].foldl stp P.2)
theorem stp_nam (ns : List (List Nat)) (h : ∀ c ∈ ns, Nam c) (x : List Nat) (hx : 47 ∉ x) : ∀ c ∈ stp ns x, Nam c := by
  unfold stp
  split
  · exact h
  · rename_i h1
    split
    · exact fun c hc => h c ((List.dropLast_sublist ns).subset hc)
    · rename_i h2
      intro c hc
      rcases List.mem_append.mp hc with q | q
      · exact h c q
      · rw [List.mem_singleton.mp q]
        exact ⟨fun e => h1 (.inl e), fun e => h1 (.inr e), h2, hx⟩
theorem fold_nam (ps : List (List Nat)) : ∀ (ns : List (List Nat)), (∀ c ∈ ns, Nam c) → (∀ p ∈ ps, 47 ∉ p) → ∀ c ∈ ps.foldl stp ns, Nam c := by
  induction ps with
  | nil => intro ns h _; exact h
  | cons a ps ih => intro ns h hp; exact ih _ (stp_nam ns h a (hp a (.head _))) fun p q => hp p (List.mem_cons_of_mem _ q)
theorem fold_own (ns : List (List Nat)) (h : ∀ c ∈ ns, Nam c) : ∀ (acc : List (List Nat)), ns.foldl stp acc = acc ++ ns := by
  induction ns with
  | nil => intro acc; simp
  | cons a r ih =>
    intro acc
    have ha := h a (.head _)
    rw [List.foldl_cons, ih (fun c q => h c (List.mem_cons_of_mem _ q))]
    have : stp acc a = acc ++ [a] := by
      unfold stp
      rw [if_neg (fun q => q.elim ha.1 ha.2.1), if_neg ha.2.2.1]
    rw [this, List.append_assoc]; rfl
theorem wk_ok {P : Plc} (h : PlOk P) {a b c : List Nat} (ha : 47 ∉ a) (hb : 47 ∉ b) (hc : 47 ∉ c) : PlOk (wk P a b c) := by
  have hp : ∀ p ∈ [a, b, c], 47 ∉ p := by
    intro p hp
    simp at hp
    rcases hp with rfl | rfl | rfl
    · exact ha
    · exact hb
    · exact hc
  unfold wk
  split
  · split
    · exact ⟨.inr rfl, fold_nam _ [] (fun _ q => nomatch q) hp⟩
    · exact ⟨.inl rfl, fold_nam _ [] (fun _ q => nomatch q) hp⟩
  · exact ⟨h.root, fold_nam _ _ h.nam hp⟩
theorem subAt_head (c : Nat) (r : List Nat) (d : Nat) : Builtin.Str.subAt (S (c :: r)) (S [d]) 0 = (c == d) := by
  have := StrLaws.subAt_one (S (c :: r)) d 0
  have h2 : Builtin.Str.subAt (S (c :: r)) (S [d]) 0 = true ↔ c = d := ⟨fun q => by simpa using this.mp ⟨by show 0 + 1 ≤ (c :: r).length; simp, q⟩, fun q => (this.mpr (by simp [q])).2⟩
  cases h : Builtin.Str.subAt (S (c :: r)) (S [d]) 0 with
  | true => rw [h2.mp h]; simp
  | false =>
    cases h3 : (c == d) with
    | false => rfl
    | true =>
      have := h2.mpr (by simpa using h3)
      rw [h] at this; cases this
theorem subAt_last (r : List Nat) (c : Nat) (d : Nat) : Builtin.Str.subAt (S (r ++ [c])) (S [d]) ((S (r ++ [c])).length - 1) = (c == d) := by
  have hl : (S (r ++ [c])).length - 1 = r.length := by
    show (r ++ [c]).length - 1 = _
    simp
  rw [hl]
  have h2 : Builtin.Str.subAt (S (r ++ [c])) (S [d]) r.length = true ↔ c = d := ⟨fun q => by simpa using (StrLaws.subAt_one (S (r ++ [c])) d r.length).mp ⟨by show r.length + 1 ≤ (r ++ [c]).length; simp, q⟩, fun q => ((StrLaws.subAt_one (S (r ++ [c])) d r.length).mpr (by simp [q])).2⟩
  cases h : Builtin.Str.subAt (S (r ++ [c])) (S [d]) r.length with
  | true => rw [h2.mp h]; simp
  | false =>
    cases h3 : (c == d) with
    | false => rfl
    | true =>
      have := h2.mpr (by simpa using h3)
      rw [h] at this; cases this
theorem gl_last : ∀ (ns : List (List Nat)), ns ≠ [] → (∀ c ∈ ns, Nam c) → ∃ r c, gl ns = r ++ [c] ∧ c ≠ 47
  | [a], _, h => by
    have ha := h a (.head _)
    rcases List.eq_nil_or_concat a with rfl | ⟨r, x, rfl⟩
    · exact absurd rfl ha.1
    · rw [List.concat_eq_append] at *
      exact ⟨r, x, rfl, fun e => ha.2.2.2 (by simp [e])⟩
  | a :: b :: t, _, h => by
    obtain ⟨r, c, e, hc⟩ := gl_last (b :: t) (by simp) fun x hx => h x (List.mem_cons_of_mem _ hx)
    refine ⟨a ++ 47 :: r, c, ?_, hc⟩
    show a ++ 47 :: gl (b :: t) = _
    rw [e, List.append_assoc]; rfl
theorem gl_app : ∀ (ns ps : List (List Nat)), ns ≠ [] → ps ≠ [] → gl (ns ++ ps) = gl ns ++ 47 :: gl ps
  | [a], ps, _, h => gl_cons a h
  | a :: b :: t, ps, _, h => by
    have := gl_app (b :: t) ps (by simp) h
    show a ++ 47 :: gl ((b :: t) ++ ps) = (a ++ 47 :: gl (b :: t)) ++ 47 :: gl ps
    rw [this, List.append_assoc]; rfl
section
variable {w : World} {b1 b2 : Bool}
theorem joinOk (t : Told w b1 b2) (ri fl fr : Addr) (P : Plc) (hP : PlOk P) (a b c : List Nat) (ha : 47 ∉ a) (hb : 47 ∉ b) (hc : 47 ∉ c) (hl : (P.1 ++ gl P.2).length + (gl [a, b, c]).length ≤ 790) (tp tw : Tok) (N Tn : Nat) :
    ∃ tj g j, FnOk w b1 b2 (.call (Value.ref 138) ⟨[Value.str (plT P) tp, Value.str (S (gl [a, b, c])) tw], []⟩) (jnC ri fl fr (plT P) (S (gl [a, b, c])) tp tw) N Tn
      (S (if a = [] then gl [a, b, c] else if P.2 = [] then P.1 ++ gl [a, b, c] else P.1 ++ gl (P.2 ++ [a, b, c]))) tj g j := by
  have hpl : 0 < (plT P).length := by
    show 0 < (P.1 ++ gl P.2).length
    rcases hP.root with e | e <;> rw [e] <;> simp
  have hw3 : (S (gl [a, b, c])).length = a.length + (b.length + c.length + 2) := by
    show (a ++ 47 :: (b ++ 47 :: c)).length = _
    simp; omega
  have hsum : (plT P).length + (S (gl [a, b, c])).length ≤ 790 := hl
  by_cases h1 : a = []
  · subst h1
    rw [if_pos rfl]
    refine ⟨tw, 10, 15, fnOk_of t rfl fun p G h d os R A kk => ?_⟩
    refine J4_go (pos := p) (aD := ri) (aB := fl) (aA := fr) (plT P) (S (gl [[], b, c])) tp tw ((plT P).length - 1) (by omega) (by omega) (by omega) (by omega) ?_ A.ok A.rep fun h' D => kk h' (show At w b1 b2 h [] [] h' (N + 10 + 0) [] from A.next D)
    rw [show gl [[], b, c] = 47 :: (b ++ 47 :: c) from rfl, subAt_head]
    simp [Str.length]
  · obtain ⟨x, xs, rfl⟩ := List.exists_cons_of_ne_nil h1
    have hx : x ≠ 47 := fun e => ha (by simp [e])
    have hsw : (decide (0 + (S [47]).length ≤ (S (gl [x :: xs, b, c])).length) && Builtin.Str.subAt (S (gl [x :: xs, b, c])) (S [47]) 0) = false := by
      rw [show gl [x :: xs, b, c] = x :: (xs ++ 47 :: (b ++ 47 :: c)) from rfl, subAt_head, beq_false_of_ne hx, Bool.and_false]
    rw [if_neg h1]
    by_cases h2 : P.2 = []
    · rw [if_pos h2]
      have e2 : plT P ++ S (gl [x :: xs, b, c]) = S (P.1 ++ gl [x :: xs, b, c]) := by
        rw [S_app, h2]; simp [gl]
      have hew : (decide (0 + (S [47]).length ≤ (plT P).length) && Builtin.Str.subAt (plT P) (S [47]) ((plT P).length - (S [47]).length)) = true := by
        have e3 : plT P = S (P.1.dropLast ++ [47]) := by
          show S (P.1 ++ gl P.2) = _
          rw [h2]
          rcases hP.root with e | e <;> rw [e] <;> rfl
        rw [e3, show (S [47]).length = 1 from rfl, subAt_last]
        simp [Str.length]
      rw [← e2]
      exact ⟨Tn + 16, 10, 18, fnOk_of t rfl fun p G h d os R A kk => J1_go (pos := p) (aD := ri) (aB := fl) (aA := fr) (plT P) (S (gl [x :: xs, b, c])) tp tw ((plT P).length - 1) (by omega) (by omega) (by omega) (by omega) hsw hew A.ok A.rep fun h' D => kk h' (show At w b1 b2 h [] [] h' (N + 10 + 0) [] from A.next D)⟩
    · rw [if_neg h2]
      obtain ⟨r, z, ez, hz⟩ := gl_last P.2 h2 hP.nam
      have hew : (decide (0 + (S [47]).length ≤ (plT P).length) && Builtin.Str.subAt (plT P) (S [47]) ((plT P).length - (S [47]).length)) = false := by
        have e3 : plT P = S ((P.1 ++ r) ++ [z]) := by
          show S (P.1 ++ gl P.2) = _
          rw [ez, List.append_assoc]
        rw [e3, show (S [47]).length = 1 from rfl, subAt_last, beq_false_of_ne hz, Bool.and_false]
      have e2 : plT P ++ (S [47] ++ S (gl [x :: xs, b, c])) = S (P.1 ++ gl (P.2 ++ [x :: xs, b, c])) := by
        rw [S_app, S_app, gl_app _ _ h2 (by simp), List.append_assoc]; rfl
      rw [← e2]
      exact ⟨Tn + 17, 10, 19, fnOk_of t rfl fun p G h d os R A kk => J2_go (pos := p) (aD := ri) (aB := fl) (aA := fr) (plT P) (S (gl [x :: xs, b, c])) tp tw ((plT P).length - 1) (by omega) (by omega) (by omega) (by omega) hsw hew A.ok A.rep fun h' D => kk h' (show At w b1 b2 h [] [] h' (N + 10 + 0) [] from A.next D)⟩
theorem normOk (t : Told w b1 b2) (ri fl fr : Addr) (P : Plc) (hP : PlOk P) (a b c : List Nat) (ha : 47 ∉ a) (hb : 47 ∉ b) (hc : 47 ∉ c) (hl : (P.1 ++ gl P.2).length + (gl [a, b, c]).length ≤ 790) (hn : P.2.length ≤ 27) (tj : Tok) (N Tn : Nat) :
    ∃ tn g j, FnOk w b1 b2 (.call (Value.ref 152) ⟨[Value.str (S (if a = [] then gl [a, b, c] else if P.2 = [] then P.1 ++ gl [a, b, c] else P.1 ++ gl (P.2 ++ [a, b, c]))) tj], []⟩)
      (nmC ri fl fr (S (if a = [] then gl [a, b, c] else if P.2 = [] then P.1 ++ gl [a, b, c] else P.1 ++ gl (P.2 ++ [a, b, c]))) tj) N Tn (plT (wk P a b c)) tn g j := by
  rw [List.length_append] at hl
  by_cases h1 : a = []
  · subst h1
    rw [if_pos rfl]
    have e0 : gl [[], b, c] = 47 :: gl [b, c] := rfl
    have hbc : ∀ p ∈ [b, c], 47 ∉ p := by
      intro p hp
      simp at hp
      rcases hp with rfl | rfl
      · exact hb
      · exact hc
    rw [e0] at hl ⊢
    rw [List.length_cons] at hl
    by_cases h2 : b = []
    · subst h2
      have e1 : gl [[], c] = 47 :: gl [c] := rfl
      have ew : wk P [] [] c = ([47, 47], [c].foldl stp []) := by
        simp [wk, stp]
      rw [ew]
      rw [e1] at hl ⊢
      rw [List.length_cons] at hl
      cases c with
      | nil => exact norm0 t ri fl fr [[]] (by simp) (by simp) (by simp [gl]) (by simp) [] tj N Tn (by simp) rfl
      | cons x xs =>
        exact normB t ri fl fr [x :: xs] (by simp) (by simpa using hc) (by omega) (by simp) xs tj N Tn x (by
          have : x ≠ 47 := fun e => hc (by simp [e])
          simpa using this) rfl
    · have ew : wk P [] b c = ([47], [b, c].foldl stp []) := by
        simp [wk, h2, stp]
      rw [ew]
      obtain ⟨x, xs, rfl⟩ := List.exists_cons_of_ne_nil h2
      exact normA t ri fl fr [x :: xs, c] (by simp) hbc (by omega) (by simp) (xs ++ 47 :: c) tj N Tn x (by
        have : x ≠ 47 := fun e => hb (by simp [e])
        simpa using this) rfl
  · rw [if_neg h1]
    obtain ⟨x, xs, rfl⟩ := List.exists_cons_of_ne_nil h1
    have hx : x ≠ 47 := fun e => ha (by simp [e])
    have ew : wk P (x :: xs) b c = (P.1, (P.2 ++ [x :: xs, b, c]).foldl stp []) := by
      unfold wk
      rw [if_neg (by simp), List.foldl_append, fold_own P.2 hP.nam []]; rfl
    have ej : (if P.2 = [] then P.1 ++ gl [x :: xs, b, c] else P.1 ++ gl (P.2 ++ [x :: xs, b, c])) = P.1 ++ gl (P.2 ++ [x :: xs, b, c]) := by
      by_cases h2 : P.2 = []
      · rw [if_pos h2, h2]; rfl
      · rw [if_neg h2]
    rw [ej, ew]
    have hfree : ∀ p ∈ P.2 ++ [x :: xs, b, c], 47 ∉ p := by
      intro p hp
      rcases List.mem_append.mp hp with q | q
      · exact (hP.nam p q).2.2.2
      · simp at q
        rcases q with rfl | rfl | rfl
        · exact ha
        · exact hb
        · exact hc
    obtain ⟨y, ys, eg, hy⟩ : ∃ y ys, gl (P.2 ++ [x :: xs, b, c]) = y :: ys ∧ y ≠ 47 := by
      cases hP2 : P.2 with
      | nil => exact ⟨x, xs ++ 47 :: (b ++ 47 :: c), rfl, hx⟩
      | cons u us =>
        have hu := hP.nam u (by rw [hP2]; exact .head _)
        obtain ⟨v, vs, rfl⟩ := List.exists_cons_of_ne_nil hu.1
        refine ⟨v, vs ++ 47 :: gl (us ++ [x :: xs, b, c]), ?_, fun e => hu.2.2.2 (by simp [e])⟩
        show gl ((v :: vs) :: (us ++ [x :: xs, b, c])) = _
        rw [gl_cons _ (by simp)]; rfl
    have hlen : (gl (P.2 ++ [x :: xs, b, c])).length ≤ 800 := by
      by_cases h2 : P.2 = []
      · rw [h2]; show (gl [x :: xs, b, c]).length ≤ 800; omega
      · rw [gl_app _ _ h2 (by simp), List.length_append, List.length_cons]; omega
    have hn2 : (P.2 ++ [x :: xs, b, c]).length ≤ 30 := by rw [List.length_append]; simp; omega
    rcases hP.root with e | e
    · rw [e, eg]
      have := normA t ri fl fr (P.2 ++ [x :: xs, b, c]) (by simp) hfree hlen hn2 ys tj N Tn y (by simpa using hy) eg
      exact this
    · rw [e, eg]
      have := normB t ri fl fr (P.2 ++ [x :: xs, b, c]) (by simp) hfree hlen hn2 ys tj N Tn y (by simpa using hy) eg
      exact this
end
section
variable (w : World) (b1 b2 : Bool) (N Tn : Nat) (pos : Pos) (G : List GenState)
section
variable (aC aD aB aA : Addr) (la ra : Addr) (hs : List Value) (m e : Nat) (hl : hs.length = e + 1) (he : e < 100) (h0 : hs[0]? = some (rf ra)) 
noncomputable abbrev Ra_a : Rw := [(aC, (lsO ⟨hs ++ [rf la]⟩ (m)))]
noncomputable abbrev Ra_z : Rw := [(aC, (lsO ⟨(hs).set 0 (rf la)⟩ (m + 1))), ((N + 1), (fO 6 [de w b1 b2 z2 (Tn + 8) (rf aC), de w b1 b2 z5 (Tn + 9) (vi 0 (Tn + 7)), de w b1 b2 z25 (Tn + 12) (vi ((e + 1 : Nat) : Int) (Tn + 11)), de w b1 b2 z4 (Tn + 13) (vi 0 (Tn + 7)), de w b1 b2 z6 (Tn + 14) (rf la), de w b1 b2 z26 (Tn + 19) (vi 1 (Tn + 18))])), (N, (fO 3 [de w b1 b2 z2 Tn (rf aC), de w b1 b2 z50 (Tn + 1) (rf la), de w b1 b2 z51 (Tn + 5) (rf ra)]))]
noncomputable abbrev Ra_g : Ctx := ⟨.call (rf 166) ⟨[(rf aC)], []⟩, none, none, [(.forLoop fl914.1 (rf aD) fl914.2.1 fl914.2.2 (eN907 aB), ⟨915, 20, 915, 33⟩), (k907 aB ⟨914, 16, 914, 38⟩), (k921 aA ⟨939, 29, 939, 43⟩), callerB], none⟩
noncomputable abbrev Ra_h : Ctx := ⟨.whileLoop wh157.1 wh157.2.1 wh157.2.2 (eN180 (N + 1)), none, none, [(k180 (N + 1) ⟨157, 4, 163, 30⟩), (k166 N ⟨138, 8, 138, 24⟩), (.forLoop fl914.1 (rf aD) fl914.2.1 fl914.2.2 (eN907 aB), ⟨915, 20, 915, 33⟩), (k907 aB ⟨914, 16, 914, 38⟩), (k921 aA ⟨939, 29, 939, 43⟩), callerB], none⟩
noncomputable def Ra : Res :=
  (fun _ => simC w b1 b2 N Tn 154 (dg 62 0x33003331111333333313000333300002011122221111211122211111202200) [cLPop 0 aC (hs) (m) (rf la) (by omega) (N + 1) (Tn + 1), cLLenB 0 aC (hs) (m + 1) (e + 1 : Nat) (by simp [hl]) (by omega) (N + 1) (Tn + 2), cLGetN 0 aC (hs) (m + 1) 0 0 (by omega) (Tn + 4) (rf ra) (by omega) h0 (N + 1) (Tn + 5), cLSetI 0 aC (hs) (m + 1) 0 0 (by omega) (Tn + 6) (rf la) (by omega) (by omega) (N + 1) (Tn + 7), cLLen 0 aC ((hs).set 0 (rf la)) (m + 1) (e + 1 : Nat) (by simp [hl]) (by omega) (N + 2) (Tn + 10), cLGetN 0 aC ((hs).set 0 (rf la)) (m + 1) 0 0 (by omega) (Tn + 7) (rf la) (by omega) (by rw [List.getElem?_set_self (by omega)]) (N + 2) (Tn + 14)] (Ra_g aC aD aB aA) pos (Ra_a aC la hs m) 1 G) he
theorem Ra_run : RunK (Ra w b1 b2 N Tn pos G aC aD aB aA la ra hs m e hl he h0) [0, 2, 1] (Ra_h N aD aB aA) 2 20 G (Ra_z w b1 b2 N Tn aC la ra hs m e) := by
  walk_at "r"
variable {w b1 b2 N Tn pos G aC aD aB aA}
def Ra_go := goK (Ra_run w b1 b2 N Tn pos G aC aD aB aA la ra hs m e hl he h0) (sC rfl) (by decide)
end
section
variable (aC aD aB aA : Addr) (la ra : Addr) (hs : List Value) (m e : Nat) (hl : hs.length = e + 1) (he : e < 100) (h0 : hs[0]? = some (rf ra))  (N2 Tn2 : Nat) (bI fD cQ fE : Tok) (hs' : List Value) (m' p : Nat) (hp : p < hs'.length) (hp2 : p < 1000) (e0 : Int) (c0 : Int) (q0 : Int) 
noncomputable abbrev Rb_a : Rw := [((N + 1), (fO 7 [de w b1 b2 z2 (Tn + 8) (rf aC), de w b1 b2 z5 (Tn + 9) (vi (p : Int) bI), de w b1 b2 z25 (Tn + 12) (vi e0 (Tn + 11)), de w b1 b2 z4 (Tn + 13) (vi 0 (Tn + 7)), de w b1 b2 z6 (Tn + 14) (rf la), de w b1 b2 z26 (Tn + 19) (vi c0 fD), de w b1 b2 z34 cQ (vi q0 fE)])), (aC, (lsO ⟨hs'⟩ (m')))]
noncomputable abbrev Rb_z : Rw := [(aC, (lsO ⟨(hs').set (p) (rf la)⟩ (m'))), (N2, (fO 4 [de w b1 b2 z2 Tn2 (rf aC), de w b1 b2 z4 (Tn2 + 1) (vi 0 (Tn + 7)), de w b1 b2 z5 (Tn2 + 2) (vi (p : Int) bI), de w b1 b2 z6 (Tn2 + 3) (rf la)]))]
noncomputable abbrev Rb_h : Ctx := ⟨.whileLoop wh143.1 wh143.2.1 wh143.2.2 (eN173 N2), none, none, [(k173 N2 ⟨143, 4, 150, 13⟩), (k180 (N + 1) ⟨165, 4, 165, 34⟩), (k166 N ⟨138, 8, 138, 24⟩), (.forLoop fl914.1 (rf aD) fl914.2.1 fl914.2.2 (eN907 aB), ⟨915, 20, 915, 33⟩), (k907 aB ⟨914, 16, 914, 38⟩), (k921 aA ⟨939, 29, 939, 43⟩), callerB], none⟩
noncomputable def Rb : Res :=
  (fun _ => nextC (Ra w b1 b2 N Tn pos G aC aD aB aA la ra hs m e hl he h0) (.ok .next) w b1 b2 N2 Tn2 61 (dg 29 0x33122233033333300001110122111) [cLSetI 1 aC (hs') (m') (p) (p : Int) (by omega) bI (rf la) (by omega) hp N2 Tn2, cLGetN 1 aC ((hs').set (p) (rf la)) (m') (p) (p : Int) (by omega) bI (rf la) (by omega) (by rw [List.getElem?_set_self hp]) (N2 + 1) (Tn2 + 3)] (Rb_a w b1 b2 N Tn aC la bI fD cQ fE hs' m' p e0 c0 q0) 2 G) hp2
theorem Rb_run : RunK (Rb w b1 b2 N Tn pos G aC aD aB aA la ra hs m e hl he h0 N2 Tn2 bI fD cQ fE hs' m' p hp hp2 e0 c0 q0) [1, 2] (Rb_h N aD aB aA N2) 1 4 G (Rb_z w b1 b2 Tn aC la N2 Tn2 bI hs' m' p) := by
  walk_at "r"
variable {w b1 b2 N Tn pos G aC aD aB aA N2 Tn2 bI fD cQ fE}
def Rb_go := goK (Rb_run w b1 b2 N Tn pos G aC aD aB aA la ra hs m e hl he h0 N2 Tn2 bI fD cQ fE hs' m' p hp hp2 e0 c0 q0) (sK rfl) (by decide)
end
section
variable (aC aD aB aA : Addr) (la ra : Addr) (hs : List Value) (m e : Nat) (hl : hs.length = e + 1) (he : e < 100) (h0 : hs[0]? = some (rf ra))  (N2 Tn2 : Nat) (bI fD cQ fE : Tok) (hs' : List Value) (m' p : Nat) (hp : p < hs'.length) (hp2 : p < 1000) (e0 : Int) (c0 : Int) (q0 : Int)  (N3 Tn3 : Nat) (fH : Addr) (eU eV : Tok) (hs'' : List Value) (m'' q : Nat) (hq : q < hs''.length) (hq2 : q < 1000) (tq : Tok) (q1 : Int) (tq1 : Tok) 
noncomputable abbrev Rc_a : Rw := [(N2, (fO 6 [de w b1 b2 z2 Tn2 (rf aC), de w b1 b2 z4 (Tn2 + 1) (vi 0 (Tn + 7)), de w b1 b2 z5 (Tn2 + 2) (vi (q : Int) tq), de w b1 b2 z6 (Tn2 + 3) (rf la), de w b1 b2 z30 eU (vi q1 tq1), de w b1 b2 z31 eV (rf fH)])), (aC, (lsO ⟨hs''⟩ (m''))), (N, (fO 3 [de w b1 b2 z2 Tn (rf aC), de w b1 b2 z50 (Tn + 1) (rf la), de w b1 b2 z51 (Tn + 5) (rf ra)]))]
noncomputable abbrev Rc_z : Rw := [(aC, (lsO ⟨(hs'').set (q) (rf la)⟩ (m'')))]
noncomputable def Rc : Res :=
  (fun _ => nextC (Rb w b1 b2 N Tn pos G aC aD aB aA la ra hs m e hl he h0 N2 Tn2 bI fD cQ fE hs' m' p hp hp2 e0 c0 q0) (.ok .next) w b1 b2 N3 Tn3 22 [1, 1, 1, 2, 2, 1, 3] [cLSetI 1 aC (hs'') (m'') (q) (q : Int) (by omega) tq (rf la) (by omega) hq N3 Tn3] (Rc_a w b1 b2 N Tn aC la ra N2 Tn2 fH eU eV hs'' m'' q tq q1 tq1) 3 G) hq2
theorem Rc_run : RunF (Rc w b1 b2 N Tn pos G aC aD aB aA la ra hs m e hl he h0 N2 Tn2 bI fD cQ fE hs' m' p hp hp2 e0 c0 q0 N3 Tn3 fH eU eV hs'' m'' q hq hq2 tq q1 tq1) [1] (.ok (.ret (rf ra))) 0 0 G (Rc_z aC la hs'' m'' q) := by
  walk_at "r"
variable {w b1 b2 N Tn pos G aC aD aB aA N2 Tn2 bI fD cQ fE N3 Tn3 fH eU eV}
def Rc_go := goF (Rc_run w b1 b2 N Tn pos G aC aD aB aA la ra hs m e hl he h0 N2 Tn2 bI fD cQ fE hs' m' p hp hp2 e0 c0 q0 N3 Tn3 fH eU eV hs'' m'' q hq hq2 tq q1 tq1) (sK rfl) (by decide)
end
section
variable (aC aD aB aA : Addr) (la ra : Addr) (hs : List Value) (m e : Nat) (hl : hs.length = e + 1) (he : e < 100) (h0 : hs[0]? = some (rf ra)) 
noncomputable abbrev Sa_a : Rw := [(aC, (lsO ⟨hs ++ [rf la]⟩ (m)))]
noncomputable abbrev Sa_z : Rw := [(aC, (lsO ⟨(hs).set 0 (rf la)⟩ (m + 1))), ((N + 1), (fO 6 [de w b1 b2 z2 (Tn + 8) (rf aC), de w b1 b2 z5 (Tn + 9) (vi 0 (Tn + 7)), de w b1 b2 z25 (Tn + 12) (vi ((e + 1 : Nat) : Int) (Tn + 11)), de w b1 b2 z4 (Tn + 13) (vi 0 (Tn + 7)), de w b1 b2 z6 (Tn + 14) (rf la), de w b1 b2 z26 (Tn + 19) (vi 1 (Tn + 18))])), (N, (fO 3 [de w b1 b2 z2 Tn (rf aC), de w b1 b2 z50 (Tn + 1) (rf la), de w b1 b2 z51 (Tn + 5) (rf ra)]))]
noncomputable abbrev Sa_g : Ctx := ⟨.call (rf 166) ⟨[(rf aC)], []⟩, none, none, [(.forLoop fl914.1 (rf aD) fl914.2.1 fl914.2.2 (eN907 aB), ⟨915, 20, 915, 33⟩), (k907 aB ⟨914, 16, 914, 38⟩), (k921 aA ⟨939, 29, 939, 43⟩), callerB], none⟩
noncomputable abbrev Sa_h : Ctx := ⟨.whileLoop wh157.1 wh157.2.1 wh157.2.2 (eN180 (N + 1)), none, none, [(k180 (N + 1) ⟨157, 4, 163, 30⟩), (k166 N ⟨138, 8, 138, 24⟩), (.forLoop fl914.1 (rf aD) fl914.2.1 fl914.2.2 (eN907 aB), ⟨915, 20, 915, 33⟩), (k907 aB ⟨914, 16, 914, 38⟩), (k921 aA ⟨939, 29, 939, 43⟩), callerB], none⟩
noncomputable def Sa : Res :=
  (fun _ => simC w b1 b2 N Tn 154 (dg 62 0x33003331111333333313000333300002011122221111211122211111202200) [cLPop 0 aC (hs) (m) (rf la) (by omega) (N + 1) (Tn + 1), cLLenB 0 aC (hs) (m + 1) (e + 1 : Nat) (by simp [hl]) (by omega) (N + 1) (Tn + 2), cLGetN 0 aC (hs) (m + 1) 0 0 (by omega) (Tn + 4) (rf ra) (by omega) h0 (N + 1) (Tn + 5), cLSetI 0 aC (hs) (m + 1) 0 0 (by omega) (Tn + 6) (rf la) (by omega) (by omega) (N + 1) (Tn + 7), cLLen 0 aC ((hs).set 0 (rf la)) (m + 1) (e + 1 : Nat) (by simp [hl]) (by omega) (N + 2) (Tn + 10), cLGetN 0 aC ((hs).set 0 (rf la)) (m + 1) 0 0 (by omega) (Tn + 7) (rf la) (by omega) (by rw [List.getElem?_set_self (by omega)]) (N + 2) (Tn + 14)] (Sa_g aC aD aB aA) pos (Sa_a aC la hs m) 1 G) he
theorem Sa_run : RunK (Sa w b1 b2 N Tn pos G aC aD aB aA la ra hs m e hl he h0) [0, 2, 1] (Sa_h N aD aB aA) 2 20 G (Sa_z w b1 b2 N Tn aC la ra hs m e) := by
  walk_at "r"
variable {w b1 b2 N Tn pos G aC aD aB aA}
def Sa_go := goK (Sa_run w b1 b2 N Tn pos G aC aD aB aA la ra hs m e hl he h0) (sC rfl) (by decide)
end
section
variable (aC aD aB aA : Addr) (la ra : Addr) (hs : List Value) (m e : Nat) (hl : hs.length = e + 1) (he : e < 100) (h0 : hs[0]? = some (rf ra))  (N2 Tn2 : Nat) (hs' : List Value) (m' : Nat) (hp : 0 < hs'.length) (e0 : Int) (c0 : Int) 
noncomputable abbrev Sb_a : Rw := [((N + 1), (fO 6 [de w b1 b2 z2 (Tn + 8) (rf aC), de w b1 b2 z5 (Tn + 9) (vi 0 (Tn + 7)), de w b1 b2 z25 (Tn + 12) (vi e0 (Tn + 11)), de w b1 b2 z4 (Tn + 13) (vi 0 (Tn + 7)), de w b1 b2 z6 (Tn + 14) (rf la), de w b1 b2 z26 (Tn + 19) (vi c0 (Tn + 18))])), (aC, (lsO ⟨hs'⟩ (m')))]
noncomputable abbrev Sb_z : Rw := [(aC, (lsO ⟨(hs').set 0 (rf la)⟩ (m'))), (N2, (fO 4 [de w b1 b2 z2 Tn2 (rf aC), de w b1 b2 z4 (Tn2 + 1) (vi 0 (Tn + 7)), de w b1 b2 z5 (Tn2 + 2) (vi 0 (Tn + 7)), de w b1 b2 z6 (Tn2 + 3) (rf la)]))]
noncomputable abbrev Sb_h : Ctx := ⟨.whileLoop wh143.1 wh143.2.1 wh143.2.2 (eN173 N2), none, none, [(k173 N2 ⟨143, 4, 150, 13⟩), (k180 (N + 1) ⟨165, 4, 165, 34⟩), (k166 N ⟨138, 8, 138, 24⟩), (.forLoop fl914.1 (rf aD) fl914.2.1 fl914.2.2 (eN907 aB), ⟨915, 20, 915, 33⟩), (k907 aB ⟨914, 16, 914, 38⟩), (k921 aA ⟨939, 29, 939, 43⟩), callerB], none⟩
noncomputable def Sb : Res :=
  nextC (Sa w b1 b2 N Tn pos G aC aD aB aA la ra hs m e hl he h0) (.ok .next) w b1 b2 N2 Tn2 61 (dg 29 0x33122233033333300001110122111) [cLSetI 1 aC (hs') (m') 0 0 (by omega) (Tn + 7) (rf la) (by omega) hp N2 Tn2, cLGetN 1 aC ((hs').set 0 (rf la)) (m') 0 0 (by omega) (Tn + 7) (rf la) (by omega) (by rw [List.getElem?_set_self hp]) (N2 + 1) (Tn2 + 3)] (Sb_a w b1 b2 N Tn aC la hs' m' e0 c0) 2 G
theorem Sb_run : RunK (Sb w b1 b2 N Tn pos G aC aD aB aA la ra hs m e hl he h0 N2 Tn2 hs' m' hp e0 c0) [1, 2] (Sb_h N aD aB aA N2) 1 4 G (Sb_z w b1 b2 Tn aC la N2 Tn2 hs' m') := by
  walk_at "r"
variable {w b1 b2 N Tn pos G aC aD aB aA N2 Tn2}
def Sb_go := goK (Sb_run w b1 b2 N Tn pos G aC aD aB aA la ra hs m e hl he h0 N2 Tn2 hs' m' hp e0 c0) (sK rfl) (by decide)
end
section
variable (aC aD aB aA : Addr) (la ra : Addr) (hs : List Value) (m e : Nat) (hl : hs.length = e + 1) (he : e < 100) (h0 : hs[0]? = some (rf ra))  (N2 Tn2 : Nat) (hs' : List Value) (m' : Nat) (hp : 0 < hs'.length) (e0 : Int) (c0 : Int)  (N3 Tn3 : Nat) (hs'' : List Value) (m'' : Nat) (hq : 0 < hs''.length) 
noncomputable abbrev Sc_a : Rw := [(N2, (fO 4 [de w b1 b2 z2 Tn2 (rf aC), de w b1 b2 z4 (Tn2 + 1) (vi 0 (Tn + 7)), de w b1 b2 z5 (Tn2 + 2) (vi 0 (Tn + 7)), de w b1 b2 z6 (Tn2 + 3) (rf la)])), (aC, (lsO ⟨hs''⟩ (m''))), (N, (fO 3 [de w b1 b2 z2 Tn (rf aC), de w b1 b2 z50 (Tn + 1) (rf la), de w b1 b2 z51 (Tn + 5) (rf ra)]))]
noncomputable abbrev Sc_z : Rw := [(aC, (lsO ⟨(hs'').set 0 (rf la)⟩ (m'')))]
noncomputable def Sc : Res :=
  nextC (Sb w b1 b2 N Tn pos G aC aD aB aA la ra hs m e hl he h0 N2 Tn2 hs' m' hp e0 c0) (.ok .next) w b1 b2 N3 Tn3 22 [1, 1, 1, 2, 2, 1, 3] [cLSetI 1 aC (hs'') (m'') 0 0 (by omega) (Tn + 7) (rf la) (by omega) hq N3 Tn3] (Sc_a w b1 b2 N Tn aC la ra N2 Tn2 hs'' m'') 3 G
theorem Sc_run : RunF (Sc w b1 b2 N Tn pos G aC aD aB aA la ra hs m e hl he h0 N2 Tn2 hs' m' hp e0 c0 N3 Tn3 hs'' m'' hq) [1] (.ok (.ret (rf ra))) 0 0 G (Sc_z aC la hs'' m'') := by
  walk_at "r"
variable {w b1 b2 N Tn pos G aC aD aB aA N2 Tn2 N3 Tn3}
def Sc_go := goF (Sc_run w b1 b2 N Tn pos G aC aD aB aA la ra hs m e hl he h0 N2 Tn2 hs' m' hp e0 c0 N3 Tn3 hs'' m'' hq) (sK rfl) (by decide)
end
section
variable (aC aD aB aA : Addr) (la : Addr) (m : Nat) 
noncomputable abbrev R0_a : Rw := [(aC, (lsO ⟨[] ++ [rf la]⟩ (m)))]
noncomputable abbrev R0_z : Rw := [(aC, (lsO ⟨[]⟩ (m + 1)))]
noncomputable abbrev R0_g : Ctx := ⟨.call (rf 166) ⟨[(rf aC)], []⟩, none, none, [(.forLoop fl914.1 (rf aD) fl914.2.1 fl914.2.2 (eN907 aB), ⟨915, 20, 915, 33⟩), (k907 aB ⟨914, 16, 914, 38⟩), (k921 aA ⟨939, 29, 939, 43⟩), callerB], none⟩
noncomputable def R0 : Res :=
  simC w b1 b2 N Tn 43 (dg 18 0x211122211111202200) [cLPop 0 aC ([]) (m) (rf la) (by decide) (N + 1) (Tn + 1), cLLenB 0 aC ([]) (m + 1) (0 : Nat) rfl (by omega) (N + 1) (Tn + 2)] (R0_g aC aD aB aA) pos (R0_a aC la m) 1 G
theorem R0_run : RunF (R0 w b1 b2 N Tn pos G aC aD aB aA la m) [0] (.ok (.ret (rf la))) 1 4 G (R0_z aC m) := by
  walk_at "r"
variable {w b1 b2 N Tn pos G aC aD aB aA}
def R0_go := goF (R0_run w b1 b2 N Tn pos G aC aD aB aA la m) (sC rfl) (by decide)
end
section
variable (cJ aS bH aD aB aA aC : Addr) (eB eC bC eD bI eE : Tok) (na pa : Addr) (tr tw tr' tw' : Tok) (hs : List Value) (m p : Nat) (r r' : Int) (w' w'' : Str) (hp : 0 < p) (hp2 : p < hs.length) (hp3 : p < 1000) (hpa : hs[(p - 1) / 2]? = some (rf pa)) (hgt : decide ((p : Int) > 0) = true) (hlt : ltP r r' w' w'' = true) 
noncomputable abbrev V1t_a : Rw := [(cJ, (fO 4 [de w b1 b2 z2 eB (rf aC), de w b1 b2 z4 eC (vi 0 bC), de w b1 b2 z5 eD (vi (p : Int) bI), de w b1 b2 z6 eE (rf na)])), (aC, (lsO ⟨hs⟩ (m))), (na, (tupO ⟨[vi r tr, vs w' tw]⟩ 0)), (pa, (tupO ⟨[vi r' tr', vs w'' tw']⟩ 0))]
noncomputable abbrev V1t_z : Rw := [(aC, (lsO ⟨(hs).set (p) (rf pa)⟩ (m))), (cJ, (fO 6 [de w b1 b2 z2 eB (rf aC), de w b1 b2 z4 eC (vi 0 bC), de w b1 b2 z5 eD (vi (((p - 1) / 2 : Nat) : Int) (Tn + 3)), de w b1 b2 z6 eE (rf na), de w b1 b2 z30 (Tn + 4) (vi (((p - 1) / 2 : Nat) : Int) (Tn + 3)), de w b1 b2 z31 (Tn + 5) (rf pa)])), (na, (tupO ⟨[vi r tr, vs w' tw]⟩ 0)), (pa, (tupO ⟨[vi r' tr', vs w'' tw']⟩ 0))]
noncomputable abbrev V1t_g : Ctx := ⟨.whileLoop wh143.1 wh143.2.1 wh143.2.2 (eN173 cJ), none, none, [(k173 cJ ⟨143, 4, 150, 13⟩), (k180 aS ⟨165, 4, 165, 34⟩), (k166 bH ⟨138, 8, 138, 24⟩), (.forLoop fl914.1 (rf aD) fl914.2.1 fl914.2.2 (eN907 aB), ⟨915, 20, 915, 33⟩), (k907 aB ⟨914, 16, 914, 38⟩), (k921 aA ⟨939, 29, 939, 43⟩), callerB], none⟩
noncomputable abbrev V1t_h : Ctx := ⟨.whileLoop wh143.1 wh143.2.1 wh143.2.2 (eN173 cJ), none, none, [(k173 cJ ⟨143, 4, 150, 13⟩), (k180 aS ⟨165, 4, 165, 34⟩), (k166 bH ⟨138, 8, 138, 24⟩), (.forLoop fl914.1 (rf aD) fl914.2.1 fl914.2.2 (eN907 aB), ⟨915, 20, 915, 33⟩), (k907 aB ⟨914, 16, 914, 38⟩), (k921 aA ⟨939, 29, 939, 43⟩), callerB], none⟩
noncomputable def V1t : Res :=
  (fun _ _ => simC w b1 b2 N Tn 77 (dg 31 0x1111221111343111112221111111111) [cGt (p : Int) bI 0 bC true hgt N Tn, cSub (p : Int) bI 1 Tn ((p - 1 : Nat) : Int) (by omega) N (Tn + 1), cShr1 ((p - 1 : Nat) : Int) (Tn + 1) (Tn + 2) (((p - 1) / 2 : Nat) : Int) (by omega) (by omega) N (Tn + 3), cLGetN 1 aC (hs) (m) ((p - 1) / 2) (((p - 1) / 2 : Nat) : Int) (by omega) (Tn + 3) (rf pa) (by omega) hpa N (Tn + 5), cTLt 2 3 na pa r r' tr tr' w' w'' tw tw' 0 0 true hlt N (Tn + 6), cLSetI 1 aC (hs) (m) (p) (p : Int) (by omega) bI (rf pa) (by omega) hp2 N (Tn + 6)] (V1t_g cJ aS bH aD aB aA) pos (V1t_a w b1 b2 cJ aC eB eC bC eD bI eE na pa tr tw tr' tw' hs m p r r' w' w'') 4 G) hp hp3
theorem V1t_run : RunC (V1t w b1 b2 N Tn pos G cJ aS bH aD aB aA aC eB eC bC eD bI eE na pa tr tw tr' tw' hs m p r r' w' w'' hp hp2 hp3 hpa hgt hlt) [1, 0, 2, 3] (V1t_h cJ aS bH aD aB aA) 0 7 G (V1t_z w b1 b2 Tn cJ aC eB eC bC eD eE na pa tr tw tr' tw' hs m p r r' w' w'') := by
  walk_at "r"
variable {w b1 b2 N Tn pos G cJ aS bH aD aB aA aC eB eC bC eD bI eE}
def V1t_go := goC (V1t_run w b1 b2 N Tn pos G cJ aS bH aD aB aA aC eB eC bC eD bI eE na pa tr tw tr' tw' hs m p r r' w' w'' hp hp2 hp3 hpa hgt hlt) (sC rfl) (by decide)
end
section
variable (cJ aS bH aD aB aA aC : Addr) (eB eC bC eD bI eE : Tok) (na pa : Addr) (tr tw tr' tw' : Tok) (hs : List Value) (m p : Nat) (r r' : Int) (w' w'' : Str) (hp : 0 < p) (hp2 : p < hs.length) (hp3 : p < 1000) (hpa : hs[(p - 1) / 2]? = some (rf pa)) (hgt : decide ((p : Int) > 0) = true) (hlt : ltP r r' w' w'' = false) 
noncomputable abbrev V1f_a : Rw := [(cJ, (fO 4 [de w b1 b2 z2 eB (rf aC), de w b1 b2 z4 eC (vi 0 bC), de w b1 b2 z5 eD (vi (p : Int) bI), de w b1 b2 z6 eE (rf na)])), (aC, (lsO ⟨hs⟩ (m))), (na, (tupO ⟨[vi r tr, vs w' tw]⟩ 0)), (pa, (tupO ⟨[vi r' tr', vs w'' tw']⟩ 0))]
noncomputable abbrev V1f_z : Rw := [(aC, (lsO ⟨hs⟩ (m))), (cJ, (fO 6 [de w b1 b2 z2 eB (rf aC), de w b1 b2 z4 eC (vi 0 bC), de w b1 b2 z5 eD (vi (p : Int) bI), de w b1 b2 z6 eE (rf na), de w b1 b2 z30 (Tn + 4) (vi (((p - 1) / 2 : Nat) : Int) (Tn + 3)), de w b1 b2 z31 (Tn + 5) (rf pa)])), (na, (tupO ⟨[vi r tr, vs w' tw]⟩ 0)), (pa, (tupO ⟨[vi r' tr', vs w'' tw']⟩ 0))]
noncomputable abbrev V1f_g : Ctx := ⟨.whileLoop wh143.1 wh143.2.1 wh143.2.2 (eN173 cJ), none, none, [(k173 cJ ⟨143, 4, 150, 13⟩), (k180 aS ⟨165, 4, 165, 34⟩), (k166 bH ⟨138, 8, 138, 24⟩), (.forLoop fl914.1 (rf aD) fl914.2.1 fl914.2.2 (eN907 aB), ⟨915, 20, 915, 33⟩), (k907 aB ⟨914, 16, 914, 38⟩), (k921 aA ⟨939, 29, 939, 43⟩), callerB], none⟩
noncomputable def V1f : Res :=
  (fun _ _ _ => simC w b1 b2 N Tn 57 (dg 22 0x1343111112221111111111) [cGt (p : Int) bI 0 bC true hgt N Tn, cSub (p : Int) bI 1 Tn ((p - 1 : Nat) : Int) (by omega) N (Tn + 1), cShr1 ((p - 1 : Nat) : Int) (Tn + 1) (Tn + 2) (((p - 1) / 2 : Nat) : Int) (by omega) (by omega) N (Tn + 3), cLGetN 1 aC (hs) (m) ((p - 1) / 2) (((p - 1) / 2 : Nat) : Int) (by omega) (Tn + 3) (rf pa) (by omega) hpa N (Tn + 5), cTLt 2 3 na pa r r' tr tr' w' w'' tw tw' 0 0 false hlt N (Tn + 6)] (V1f_g cJ aS bH aD aB aA) pos (V1f_a w b1 b2 cJ aC eB eC bC eD bI eE na pa tr tw tr' tw' hs m p r r' w' w'') 4 G) hp hp2 hp3
theorem V1f_run : RunF (V1f w b1 b2 N Tn pos G cJ aS bH aD aB aA aC eB eC bC eD bI eE na pa tr tw tr' tw' hs m p r r' w' w'' hp hp2 hp3 hpa hgt hlt) [1, 0, 2, 3] (.ok .next) 0 6 G (V1f_z w b1 b2 Tn cJ aC eB eC bC eD bI eE na pa tr tw tr' tw' hs m p r r' w' w'') := by
  walk_at "r"
variable {w b1 b2 N Tn pos G cJ aS bH aD aB aA aC eB eC bC eD bI eE}
def V1f_go := goF (V1f_run w b1 b2 N Tn pos G cJ aS bH aD aB aA aC eB eC bC eD bI eE na pa tr tw tr' tw' hs m p r r' w' w'' hp hp2 hp3 hpa hgt hlt) (sC rfl) (by decide)
end
section
variable (cJ aS bH aD aB aA aC fH : Addr) (eB eC bC eD fB eE eU eV : Tok) (na pa : Addr) (tr tw tr' tw' : Tok) (hs : List Value) (m p : Nat) (r r' : Int) (w' w'' : Str) (hp : 0 < p) (hp2 : p < hs.length) (hp3 : p < 1000) (hpa : hs[(p - 1) / 2]? = some (rf pa)) (hgt : decide ((p : Int) > 0) = true) (hlt : ltP r r' w' w'' = true) 
noncomputable abbrev V2t_a : Rw := [(cJ, (fO 6 [de w b1 b2 z2 eB (rf aC), de w b1 b2 z4 eC (vi 0 bC), de w b1 b2 z5 eD (vi (p : Int) fB), de w b1 b2 z6 eE (rf na), de w b1 b2 z30 eU (vi (p : Int) fB), de w b1 b2 z31 eV (rf fH)])), (aC, (lsO ⟨hs⟩ (m))), (na, (tupO ⟨[vi r tr, vs w' tw]⟩ 0)), (pa, (tupO ⟨[vi r' tr', vs w'' tw']⟩ 0))]
noncomputable abbrev V2t_z : Rw := [(aC, (lsO ⟨(hs).set (p) (rf pa)⟩ (m))), (cJ, (fO 6 [de w b1 b2 z2 eB (rf aC), de w b1 b2 z4 eC (vi 0 bC), de w b1 b2 z5 eD (vi (((p - 1) / 2 : Nat) : Int) (Tn + 3)), de w b1 b2 z6 eE (rf na), de w b1 b2 z30 eU (vi (((p - 1) / 2 : Nat) : Int) (Tn + 3)), de w b1 b2 z31 eV (rf pa)])), (na, (tupO ⟨[vi r tr, vs w' tw]⟩ 0)), (pa, (tupO ⟨[vi r' tr', vs w'' tw']⟩ 0))]
noncomputable abbrev V2t_g : Ctx := ⟨.whileLoop wh143.1 wh143.2.1 wh143.2.2 (eN173 cJ), none, none, [(k173 cJ ⟨143, 4, 150, 13⟩), (k180 aS ⟨165, 4, 165, 34⟩), (k166 bH ⟨138, 8, 138, 24⟩), (.forLoop fl914.1 (rf aD) fl914.2.1 fl914.2.2 (eN907 aB), ⟨915, 20, 915, 33⟩), (k907 aB ⟨914, 16, 914, 38⟩), (k921 aA ⟨939, 29, 939, 43⟩), callerB], none⟩
noncomputable abbrev V2t_h : Ctx := ⟨.whileLoop wh143.1 wh143.2.1 wh143.2.2 (eN173 cJ), none, none, [(k173 cJ ⟨143, 4, 150, 13⟩), (k180 aS ⟨165, 4, 165, 34⟩), (k166 bH ⟨138, 8, 138, 24⟩), (.forLoop fl914.1 (rf aD) fl914.2.1 fl914.2.2 (eN907 aB), ⟨915, 20, 915, 33⟩), (k907 aB ⟨914, 16, 914, 38⟩), (k921 aA ⟨939, 29, 939, 43⟩), callerB], none⟩
noncomputable def V2t : Res :=
  (fun _ _ => simC w b1 b2 N Tn 77 (dg 31 0x1111221111343111112221111111111) [cGt (p : Int) fB 0 bC true hgt N Tn, cSub (p : Int) fB 1 Tn ((p - 1 : Nat) : Int) (by omega) N (Tn + 1), cShr1 ((p - 1 : Nat) : Int) (Tn + 1) (Tn + 2) (((p - 1) / 2 : Nat) : Int) (by omega) (by omega) N (Tn + 3), cLGetN 1 aC (hs) (m) ((p - 1) / 2) (((p - 1) / 2 : Nat) : Int) (by omega) (Tn + 3) (rf pa) (by omega) hpa N (Tn + 5), cTLt 2 3 na pa r r' tr tr' w' w'' tw tw' 0 0 true hlt N (Tn + 6), cLSetI 1 aC (hs) (m) (p) (p : Int) (by omega) fB (rf pa) (by omega) hp2 N (Tn + 6)] (V2t_g cJ aS bH aD aB aA) pos (V2t_a w b1 b2 cJ aC fH eB eC bC eD fB eE eU eV na pa tr tw tr' tw' hs m p r r' w' w'') 4 G) hp hp3
theorem V2t_run : RunC (V2t w b1 b2 N Tn pos G cJ aS bH aD aB aA aC fH eB eC bC eD fB eE eU eV na pa tr tw tr' tw' hs m p r r' w' w'' hp hp2 hp3 hpa hgt hlt) [1, 0, 2, 3] (V2t_h cJ aS bH aD aB aA) 0 7 G (V2t_z w b1 b2 Tn cJ aC eB eC bC eD eE eU eV na pa tr tw tr' tw' hs m p r r' w' w'') := by
  walk_at "r"
variable {w b1 b2 N Tn pos G cJ aS bH aD aB aA aC fH eB eC bC eD fB eE eU eV}
def V2t_go := goC (V2t_run w b1 b2 N Tn pos G cJ aS bH aD aB aA aC fH eB eC bC eD fB eE eU eV na pa tr tw tr' tw' hs m p r r' w' w'' hp hp2 hp3 hpa hgt hlt) (sC rfl) (by decide)
end
section
variable (cJ aS bH aD aB aA aC fH : Addr) (eB eC bC eD fB eE eU eV : Tok) (na pa : Addr) (tr tw tr' tw' : Tok) (hs : List Value) (m p : Nat) (r r' : Int) (w' w'' : Str) (hp : 0 < p) (hp2 : p < hs.length) (hp3 : p < 1000) (hpa : hs[(p - 1) / 2]? = some (rf pa)) (hgt : decide ((p : Int) > 0) = true) (hlt : ltP r r' w' w'' = false) 
noncomputable abbrev V2f_a : Rw := [(cJ, (fO 6 [de w b1 b2 z2 eB (rf aC), de w b1 b2 z4 eC (vi 0 bC), de w b1 b2 z5 eD (vi (p : Int) fB), de w b1 b2 z6 eE (rf na), de w b1 b2 z30 eU (vi (p : Int) fB), de w b1 b2 z31 eV (rf fH)])), (aC, (lsO ⟨hs⟩ (m))), (na, (tupO ⟨[vi r tr, vs w' tw]⟩ 0)), (pa, (tupO ⟨[vi r' tr', vs w'' tw']⟩ 0))]
noncomputable abbrev V2f_z : Rw := [(aC, (lsO ⟨hs⟩ (m))), (cJ, (fO 6 [de w b1 b2 z2 eB (rf aC), de w b1 b2 z4 eC (vi 0 bC), de w b1 b2 z5 eD (vi (p : Int) fB), de w b1 b2 z6 eE (rf na), de w b1 b2 z30 eU (vi (((p - 1) / 2 : Nat) : Int) (Tn + 3)), de w b1 b2 z31 eV (rf pa)])), (na, (tupO ⟨[vi r tr, vs w' tw]⟩ 0)), (pa, (tupO ⟨[vi r' tr', vs w'' tw']⟩ 0))]
noncomputable abbrev V2f_g : Ctx := ⟨.whileLoop wh143.1 wh143.2.1 wh143.2.2 (eN173 cJ), none, none, [(k173 cJ ⟨143, 4, 150, 13⟩), (k180 aS ⟨165, 4, 165, 34⟩), (k166 bH ⟨138, 8, 138, 24⟩), (.forLoop fl914.1 (rf aD) fl914.2.1 fl914.2.2 (eN907 aB), ⟨915, 20, 915, 33⟩), (k907 aB ⟨914, 16, 914, 38⟩), (k921 aA ⟨939, 29, 939, 43⟩), callerB], none⟩
noncomputable def V2f : Res :=
  (fun _ _ _ => simC w b1 b2 N Tn 57 (dg 22 0x1343111112221111111111) [cGt (p : Int) fB 0 bC true hgt N Tn, cSub (p : Int) fB 1 Tn ((p - 1 : Nat) : Int) (by omega) N (Tn + 1), cShr1 ((p - 1 : Nat) : Int) (Tn + 1) (Tn + 2) (((p - 1) / 2 : Nat) : Int) (by omega) (by omega) N (Tn + 3), cLGetN 1 aC (hs) (m) ((p - 1) / 2) (((p - 1) / 2 : Nat) : Int) (by omega) (Tn + 3) (rf pa) (by omega) hpa N (Tn + 5), cTLt 2 3 na pa r r' tr tr' w' w'' tw tw' 0 0 false hlt N (Tn + 6)] (V2f_g cJ aS bH aD aB aA) pos (V2f_a w b1 b2 cJ aC fH eB eC bC eD fB eE eU eV na pa tr tw tr' tw' hs m p r r' w' w'') 4 G) hp hp2 hp3
theorem V2f_run : RunF (V2f w b1 b2 N Tn pos G cJ aS bH aD aB aA aC fH eB eC bC eD fB eE eU eV na pa tr tw tr' tw' hs m p r r' w' w'' hp hp2 hp3 hpa hgt hlt) [1, 0, 2, 3] (.ok .next) 0 6 G (V2f_z w b1 b2 Tn cJ aC eB eC bC eD fB eE eU eV na pa tr tw tr' tw' hs m p r r' w' w'') := by
  walk_at "r"
variable {w b1 b2 N Tn pos G cJ aS bH aD aB aA aC fH eB eC bC eD fB eE eU eV}
def V2f_go := goF (V2f_run w b1 b2 N Tn pos G cJ aS bH aD aB aA aC fH eB eC bC eD fB eE eU eV na pa tr tw tr' tw' hs m p r r' w' w'' hp hp2 hp3 hpa hgt hlt) (sC rfl) (by decide)
end
section
variable (aS bH aD aB aA aC aR : Addr) (bW bX bC bY bL bZ cA cB cE : Tok) (ca qa : Addr) (tr tw tr' tw' : Tok) (hs : List Value) (m e : Nat) (r r' : Int) (w' w'' : Str) (hc : 1 < hs.length) (hp3 : hs.length < 1000) (hca : hs[1]? = some (rf ca)) (hqa : hs[2]? = some (rf qa)) (hce : decide (((1 : Nat) : Int) < (e : Int)) = true) (hqe : decide (((2 : Nat) : Int) < (e : Int)) = true) (hc2 : 2 < hs.length) (hlt : ltP r r' w' w'' = false) 
noncomputable abbrev U1A_a : Rw := [(aS, (fO 6 [de w b1 b2 z2 bW (rf aC), de w b1 b2 z5 bX (vi 0 bC), de w b1 b2 z25 bY (vi (e : Int) bL), de w b1 b2 z4 bZ (vi 0 bC), de w b1 b2 z6 cA (rf aR), de w b1 b2 z26 cB (vi ((1 : Nat) : Int) cE)])), (aC, (lsO ⟨hs⟩ (m))), (ca, (tupO ⟨[vi r tr, vs w' tw]⟩ 0)), (qa, (tupO ⟨[vi r' tr', vs w'' tw']⟩ 0))]
noncomputable abbrev U1A_z : Rw := [(aC, (lsO ⟨(hs).set 0 (rf qa)⟩ (m))), (aS, (fO 7 [de w b1 b2 z2 bW (rf aC), de w b1 b2 z5 bX (vi ((2 : Nat) : Int) (Tn + 1)), de w b1 b2 z25 bY (vi (e : Int) bL), de w b1 b2 z4 bZ (vi 0 bC), de w b1 b2 z6 cA (rf aR), de w b1 b2 z26 cB (vi ((2 * 2 + 1 : Nat) : Int) (Tn + 8)), de w b1 b2 z34 (Tn + 2) (vi ((2 : Nat) : Int) (Tn + 1))])), (ca, (tupO ⟨[vi r tr, vs w' tw]⟩ 0)), (qa, (tupO ⟨[vi r' tr', vs w'' tw']⟩ 0))]
noncomputable abbrev U1A_g : Ctx := ⟨.whileLoop wh157.1 wh157.2.1 wh157.2.2 (eN180 aS), none, none, [(k180 aS ⟨157, 4, 163, 30⟩), (k166 bH ⟨138, 8, 138, 24⟩), (.forLoop fl914.1 (rf aD) fl914.2.1 fl914.2.2 (eN907 aB), ⟨915, 20, 915, 33⟩), (k907 aB ⟨914, 16, 914, 38⟩), (k921 aA ⟨939, 29, 939, 43⟩), callerB], none⟩
noncomputable abbrev U1A_h : Ctx := ⟨.whileLoop wh157.1 wh157.2.1 wh157.2.2 (eN180 aS), none, none, [(k180 aS ⟨157, 4, 163, 30⟩), (k166 bH ⟨138, 8, 138, 24⟩), (.forLoop fl914.1 (rf aD) fl914.2.1 fl914.2.2 (eN907 aB), ⟨915, 20, 915, 33⟩), (k907 aB ⟨914, 16, 914, 38⟩), (k921 aA ⟨939, 29, 939, 43⟩), callerB], none⟩
noncomputable def U1A : Res :=
  (fun _ _ _ => simC w b1 b2 N Tn 110 (dg 48 0x111111111221112221111113431222111222111111111111) [cLt ((1 : Nat) : Int) cE (e : Int) bL true hce N Tn, cAdd ((1 : Nat) : Int) cE 1 Tn ((2 : Nat) : Int) (by omega) N (Tn + 1), cLt ((2 : Nat) : Int) (Tn + 1) (e : Int) bL true hqe N (Tn + 3), cLGetN 1 aC (hs) (m) 1 ((1 : Nat) : Int) (by omega) cE (rf ca) (by omega) hca N (Tn + 3), cLGetN 1 aC (hs) (m) 2 ((2 : Nat) : Int) (by omega) (Tn + 1) (rf qa) (by omega) hqa N (Tn + 3), cTLt 2 3 ca qa r r' tr tr' w' w'' tw tw' 0 0 false hlt N (Tn + 3), cLGetN 1 aC (hs) (m) 2 ((2 : Nat) : Int) (by omega) (Tn + 1) (rf qa) (by omega) hqa N (Tn + 4), cLSetI 1 aC (hs) (m) 0 0 (by omega) bC (rf qa) (by omega) (by omega) N (Tn + 4), cMul2 ((2 : Nat) : Int) (Tn + 1) (Tn + 5) ((2 * 2 : Nat) : Int) (by omega) (by omega) (by omega) N (Tn + 6), cAdd ((2 * 2 : Nat) : Int) (Tn + 6) 1 (Tn + 7) ((2 * 2 + 1 : Nat) : Int) (by omega) N (Tn + 8)] (U1A_g aS bH aD aB aA) pos (U1A_a w b1 b2 aS aC aR bW bX bC bY bL bZ cA cB cE ca qa tr tw tr' tw' hs m e r r' w' w'') 4 G) hc hp3 hc2
theorem U1A_run : RunC (U1A w b1 b2 N Tn pos G aS bH aD aB aA aC aR bW bX bC bY bL bZ cA cB cE ca qa tr tw tr' tw' hs m e r r' w' w'' hc hp3 hca hqa hce hqe hc2 hlt) [1, 0, 2, 3] (U1A_h aS bH aD aB aA) 0 10 G (U1A_z w b1 b2 Tn aS aC aR bW bX bC bY bL bZ cA cB ca qa tr tw tr' tw' hs m e r r' w' w'') := by
  walk_at "r"
variable {w b1 b2 N Tn pos G aS bH aD aB aA aC aR bW bX bC bY bL bZ cA cB cE}
def U1A_go := goC (U1A_run w b1 b2 N Tn pos G aS bH aD aB aA aC aR bW bX bC bY bL bZ cA cB cE ca qa tr tw tr' tw' hs m e r r' w' w'' hc hp3 hca hqa hce hqe hc2 hlt) (sC rfl) (by decide)
end
section
variable (aS bH aD aB aA aC aR : Addr) (bW bX bC bY bL bZ cA cB cE : Tok) (ca qa : Addr) (tr tw tr' tw' : Tok) (hs : List Value) (m e : Nat) (r r' : Int) (w' w'' : Str) (hc : 1 < hs.length) (hp3 : hs.length < 1000) (hca : hs[1]? = some (rf ca)) (hqa : hs[2]? = some (rf qa)) (hce : decide (((1 : Nat) : Int) < (e : Int)) = true) (hqe : decide (((2 : Nat) : Int) < (e : Int)) = true) (hc2 : 2 < hs.length) (hlt : ltP r r' w' w'' = true) 
noncomputable abbrev U1B_a : Rw := [(aS, (fO 6 [de w b1 b2 z2 bW (rf aC), de w b1 b2 z5 bX (vi 0 bC), de w b1 b2 z25 bY (vi (e : Int) bL), de w b1 b2 z4 bZ (vi 0 bC), de w b1 b2 z6 cA (rf aR), de w b1 b2 z26 cB (vi ((1 : Nat) : Int) cE)])), (aC, (lsO ⟨hs⟩ (m))), (ca, (tupO ⟨[vi r tr, vs w' tw]⟩ 0)), (qa, (tupO ⟨[vi r' tr', vs w'' tw']⟩ 0))]
noncomputable abbrev U1B_z : Rw := [(aC, (lsO ⟨(hs).set 0 (rf ca)⟩ (m))), (aS, (fO 7 [de w b1 b2 z2 bW (rf aC), de w b1 b2 z5 bX (vi ((1 : Nat) : Int) cE), de w b1 b2 z25 bY (vi (e : Int) bL), de w b1 b2 z4 bZ (vi 0 bC), de w b1 b2 z6 cA (rf aR), de w b1 b2 z26 cB (vi ((2 * 1 + 1 : Nat) : Int) (Tn + 7)), de w b1 b2 z34 (Tn + 2) (vi ((2 : Nat) : Int) (Tn + 1))])), (ca, (tupO ⟨[vi r tr, vs w' tw]⟩ 0)), (qa, (tupO ⟨[vi r' tr', vs w'' tw']⟩ 0))]
noncomputable abbrev U1B_g : Ctx := ⟨.whileLoop wh157.1 wh157.2.1 wh157.2.2 (eN180 aS), none, none, [(k180 aS ⟨157, 4, 163, 30⟩), (k166 bH ⟨138, 8, 138, 24⟩), (.forLoop fl914.1 (rf aD) fl914.2.1 fl914.2.2 (eN907 aB), ⟨915, 20, 915, 33⟩), (k907 aB ⟨914, 16, 914, 38⟩), (k921 aA ⟨939, 29, 939, 43⟩), callerB], none⟩
noncomputable abbrev U1B_h : Ctx := ⟨.whileLoop wh157.1 wh157.2.1 wh157.2.2 (eN180 aS), none, none, [(k180 aS ⟨157, 4, 163, 30⟩), (k166 bH ⟨138, 8, 138, 24⟩), (.forLoop fl914.1 (rf aD) fl914.2.1 fl914.2.2 (eN907 aB), ⟨915, 20, 915, 33⟩), (k907 aB ⟨914, 16, 914, 38⟩), (k921 aA ⟨939, 29, 939, 43⟩), callerB], none⟩
noncomputable def U1B : Res :=
  (fun _ _ _ => simC w b1 b2 N Tn 100 (dg 45 0x111111111221112221113431222111222111111111111) [cLt ((1 : Nat) : Int) cE (e : Int) bL true hce N Tn, cAdd ((1 : Nat) : Int) cE 1 Tn ((2 : Nat) : Int) (by omega) N (Tn + 1), cLt ((2 : Nat) : Int) (Tn + 1) (e : Int) bL true hqe N (Tn + 3), cLGetN 1 aC (hs) (m) 1 ((1 : Nat) : Int) (by omega) cE (rf ca) (by omega) hca N (Tn + 3), cLGetN 1 aC (hs) (m) 2 ((2 : Nat) : Int) (by omega) (Tn + 1) (rf qa) (by omega) hqa N (Tn + 3), cTLt 2 3 ca qa r r' tr tr' w' w'' tw tw' 0 0 true hlt N (Tn + 3), cLGetN 1 aC (hs) (m) 1 ((1 : Nat) : Int) (by omega) cE (rf ca) (by omega) hca N (Tn + 3), cLSetI 1 aC (hs) (m) 0 0 (by omega) bC (rf ca) (by omega) (by omega) N (Tn + 3), cMul2 ((1 : Nat) : Int) cE (Tn + 4) ((2 * 1 : Nat) : Int) (by omega) (by omega) (by omega) N (Tn + 5), cAdd ((2 * 1 : Nat) : Int) (Tn + 5) 1 (Tn + 6) ((2 * 1 + 1 : Nat) : Int) (by omega) N (Tn + 7)] (U1B_g aS bH aD aB aA) pos (U1B_a w b1 b2 aS aC aR bW bX bC bY bL bZ cA cB cE ca qa tr tw tr' tw' hs m e r r' w' w'') 4 G) hc hp3 hc2
theorem U1B_run : RunC (U1B w b1 b2 N Tn pos G aS bH aD aB aA aC aR bW bX bC bY bL bZ cA cB cE ca qa tr tw tr' tw' hs m e r r' w' w'' hc hp3 hca hqa hce hqe hc2 hlt) [1, 0, 2, 3] (U1B_h aS bH aD aB aA) 0 9 G (U1B_z w b1 b2 Tn aS aC aR bW bX bC bY bL bZ cA cB cE ca qa tr tw tr' tw' hs m e r r' w' w'') := by
  walk_at "r"
variable {w b1 b2 N Tn pos G aS bH aD aB aA aC aR bW bX bC bY bL bZ cA cB cE}
def U1B_go := goC (U1B_run w b1 b2 N Tn pos G aS bH aD aB aA aC aR bW bX bC bY bL bZ cA cB cE ca qa tr tw tr' tw' hs m e r r' w' w'' hc hp3 hca hqa hce hqe hc2 hlt) (sC rfl) (by decide)
end
section
variable (aS bH aD aB aA aC aR : Addr) (bW bX bC bY bL bZ cA cB cE : Tok) (ca : Addr) (hs : List Value) (m e : Nat) (hc : 1 < hs.length) (hp3 : hs.length < 1000) (hca : hs[1]? = some (rf ca)) (hce : decide (((1 : Nat) : Int) < (e : Int)) = true) (hqe : decide (((2 : Nat) : Int) < (e : Int)) = false) 
noncomputable abbrev U1C_a : Rw := [(aS, (fO 6 [de w b1 b2 z2 bW (rf aC), de w b1 b2 z5 bX (vi 0 bC), de w b1 b2 z25 bY (vi (e : Int) bL), de w b1 b2 z4 bZ (vi 0 bC), de w b1 b2 z6 cA (rf aR), de w b1 b2 z26 cB (vi ((1 : Nat) : Int) cE)])), (aC, (lsO ⟨hs⟩ (m)))]
noncomputable abbrev U1C_z : Rw := [(aC, (lsO ⟨(hs).set 0 (rf ca)⟩ (m))), (aS, (fO 7 [de w b1 b2 z2 bW (rf aC), de w b1 b2 z5 bX (vi ((1 : Nat) : Int) cE), de w b1 b2 z25 bY (vi (e : Int) bL), de w b1 b2 z4 bZ (vi 0 bC), de w b1 b2 z6 cA (rf aR), de w b1 b2 z26 cB (vi ((2 * 1 + 1 : Nat) : Int) (Tn + 7)), de w b1 b2 z34 (Tn + 2) (vi ((2 : Nat) : Int) (Tn + 1))]))]
noncomputable abbrev U1C_g : Ctx := ⟨.whileLoop wh157.1 wh157.2.1 wh157.2.2 (eN180 aS), none, none, [(k180 aS ⟨157, 4, 163, 30⟩), (k166 bH ⟨138, 8, 138, 24⟩), (.forLoop fl914.1 (rf aD) fl914.2.1 fl914.2.2 (eN907 aB), ⟨915, 20, 915, 33⟩), (k907 aB ⟨914, 16, 914, 38⟩), (k921 aA ⟨939, 29, 939, 43⟩), callerB], none⟩
noncomputable abbrev U1C_h : Ctx := ⟨.whileLoop wh157.1 wh157.2.1 wh157.2.2 (eN180 aS), none, none, [(k180 aS ⟨157, 4, 163, 30⟩), (k166 bH ⟨138, 8, 138, 24⟩), (.forLoop fl914.1 (rf aD) fl914.2.1 fl914.2.2 (eN907 aB), ⟨915, 20, 915, 33⟩), (k907 aB ⟨914, 16, 914, 38⟩), (k921 aA ⟨939, 29, 939, 43⟩), callerB], none⟩
noncomputable def U1C : Res :=
  (fun _ _ => simC w b1 b2 N Tn 74 (dg 29 0x11111111122111222111111111111) [cLt ((1 : Nat) : Int) cE (e : Int) bL true hce N Tn, cAdd ((1 : Nat) : Int) cE 1 Tn ((2 : Nat) : Int) (by omega) N (Tn + 1), cLt ((2 : Nat) : Int) (Tn + 1) (e : Int) bL false hqe N (Tn + 3), cLGetN 1 aC (hs) (m) 1 ((1 : Nat) : Int) (by omega) cE (rf ca) (by omega) hca N (Tn + 3), cLSetI 1 aC (hs) (m) 0 0 (by omega) bC (rf ca) (by omega) (by omega) N (Tn + 3), cMul2 ((1 : Nat) : Int) cE (Tn + 4) ((2 * 1 : Nat) : Int) (by omega) (by omega) (by omega) N (Tn + 5), cAdd ((2 * 1 : Nat) : Int) (Tn + 5) 1 (Tn + 6) ((2 * 1 + 1 : Nat) : Int) (by omega) N (Tn + 7)] (U1C_g aS bH aD aB aA) pos (U1C_a w b1 b2 aS aC aR bW bX bC bY bL bZ cA cB cE hs m e) 2 G) hc hp3
theorem U1C_run : RunC (U1C w b1 b2 N Tn pos G aS bH aD aB aA aC aR bW bX bC bY bL bZ cA cB cE ca hs m e hc hp3 hca hce hqe) [1, 0] (U1C_h aS bH aD aB aA) 0 9 G (U1C_z w b1 b2 Tn aS aC aR bW bX bC bY bL bZ cA cB cE ca hs m e) := by
  walk_at "r"
variable {w b1 b2 N Tn pos G aS bH aD aB aA aC aR bW bX bC bY bL bZ cA cB cE}
def U1C_go := goC (U1C_run w b1 b2 N Tn pos G aS bH aD aB aA aC aR bW bX bC bY bL bZ cA cB cE ca hs m e hc hp3 hca hce hqe) (sC rfl) (by decide)
end
section
variable (aS bH aD aB aA aC aR : Addr) (bW bX cE bY bL bZ bC cA cB bI cQ fI : Tok) (ca qa : Addr) (tr tw tr' tw' : Tok) (hs : List Value) (m p c e : Nat) (r r' : Int) (w' w'' : Str) (hpc : p < c) (hc : c < hs.length) (hp3 : hs.length < 1000) (hca : hs[c]? = some (rf ca)) (hqa : hs[c + 1]? = some (rf qa)) (hce : decide ((c : Int) < (e : Int)) = true) (hqe : decide (((c + 1 : Nat) : Int) < (e : Int)) = true) (hc2 : c + 1 < hs.length) (hlt : ltP r r' w' w'' = false) (q0 : Int) 
noncomputable abbrev U2A_a : Rw := [(aS, (fO 7 [de w b1 b2 z2 bW (rf aC), de w b1 b2 z5 bX (vi (p : Int) cE), de w b1 b2 z25 bY (vi (e : Int) bL), de w b1 b2 z4 bZ (vi 0 bC), de w b1 b2 z6 cA (rf aR), de w b1 b2 z26 cB (vi (c : Int) bI), de w b1 b2 z34 cQ (vi q0 fI)])), (aC, (lsO ⟨hs⟩ (m))), (ca, (tupO ⟨[vi r tr, vs w' tw]⟩ 0)), (qa, (tupO ⟨[vi r' tr', vs w'' tw']⟩ 0))]
noncomputable abbrev U2A_z : Rw := [(aC, (lsO ⟨(hs).set (p) (rf qa)⟩ (m))), (aS, (fO 7 [de w b1 b2 z2 bW (rf aC), de w b1 b2 z5 bX (vi ((c + 1 : Nat) : Int) (Tn + 1)), de w b1 b2 z25 bY (vi (e : Int) bL), de w b1 b2 z4 bZ (vi 0 bC), de w b1 b2 z6 cA (rf aR), de w b1 b2 z26 cB (vi ((2 * (c + 1) + 1 : Nat) : Int) (Tn + 8)), de w b1 b2 z34 cQ (vi ((c + 1 : Nat) : Int) (Tn + 1))])), (ca, (tupO ⟨[vi r tr, vs w' tw]⟩ 0)), (qa, (tupO ⟨[vi r' tr', vs w'' tw']⟩ 0))]
noncomputable abbrev U2A_g : Ctx := ⟨.whileLoop wh157.1 wh157.2.1 wh157.2.2 (eN180 aS), none, none, [(k180 aS ⟨157, 4, 163, 30⟩), (k166 bH ⟨138, 8, 138, 24⟩), (.forLoop fl914.1 (rf aD) fl914.2.1 fl914.2.2 (eN907 aB), ⟨915, 20, 915, 33⟩), (k907 aB ⟨914, 16, 914, 38⟩), (k921 aA ⟨939, 29, 939, 43⟩), callerB], none⟩
noncomputable abbrev U2A_h : Ctx := ⟨.whileLoop wh157.1 wh157.2.1 wh157.2.2 (eN180 aS), none, none, [(k180 aS ⟨157, 4, 163, 30⟩), (k166 bH ⟨138, 8, 138, 24⟩), (.forLoop fl914.1 (rf aD) fl914.2.1 fl914.2.2 (eN907 aB), ⟨915, 20, 915, 33⟩), (k907 aB ⟨914, 16, 914, 38⟩), (k921 aA ⟨939, 29, 939, 43⟩), callerB], none⟩
noncomputable def U2A : Res :=
  (fun _ _ _ _ => simC w b1 b2 N Tn 110 (dg 48 0x111111111221112221111113431222111222111111111111) [cLt (c : Int) bI (e : Int) bL true hce N Tn, cAdd (c : Int) bI 1 Tn ((c + 1 : Nat) : Int) (by omega) N (Tn + 1), cLt ((c + 1 : Nat) : Int) (Tn + 1) (e : Int) bL true hqe N (Tn + 3), cLGetN 1 aC (hs) (m) (c) (c : Int) (by omega) bI (rf ca) (by omega) hca N (Tn + 3), cLGetN 1 aC (hs) (m) (c + 1) ((c + 1 : Nat) : Int) (by omega) (Tn + 1) (rf qa) (by omega) hqa N (Tn + 3), cTLt 2 3 ca qa r r' tr tr' w' w'' tw tw' 0 0 false hlt N (Tn + 3), cLGetN 1 aC (hs) (m) (c + 1) ((c + 1 : Nat) : Int) (by omega) (Tn + 1) (rf qa) (by omega) hqa N (Tn + 4), cLSetI 1 aC (hs) (m) (p) (p : Int) (by omega) cE (rf qa) (by omega) (by omega) N (Tn + 4), cMul2 ((c + 1 : Nat) : Int) (Tn + 1) (Tn + 5) ((2 * (c + 1) : Nat) : Int) (by omega) (by omega) (by omega) N (Tn + 6), cAdd ((2 * (c + 1) : Nat) : Int) (Tn + 6) 1 (Tn + 7) ((2 * (c + 1) + 1 : Nat) : Int) (by omega) N (Tn + 8)] (U2A_g aS bH aD aB aA) pos (U2A_a w b1 b2 aS aC aR bW bX cE bY bL bZ bC cA cB bI cQ fI ca qa tr tw tr' tw' hs m p c e r r' w' w'' q0) 4 G) hpc hc hp3 hc2
theorem U2A_run : RunC (U2A w b1 b2 N Tn pos G aS bH aD aB aA aC aR bW bX cE bY bL bZ bC cA cB bI cQ fI ca qa tr tw tr' tw' hs m p c e r r' w' w'' hpc hc hp3 hca hqa hce hqe hc2 hlt q0) [1, 0, 2, 3] (U2A_h aS bH aD aB aA) 0 10 G (U2A_z w b1 b2 Tn aS aC aR bW bX bY bL bZ bC cA cB cQ ca qa tr tw tr' tw' hs m p c e r r' w' w'') := by
  walk_at "r"
variable {w b1 b2 N Tn pos G aS bH aD aB aA aC aR bW bX cE bY bL bZ bC cA cB bI cQ fI}
def U2A_go := goC (U2A_run w b1 b2 N Tn pos G aS bH aD aB aA aC aR bW bX cE bY bL bZ bC cA cB bI cQ fI ca qa tr tw tr' tw' hs m p c e r r' w' w'' hpc hc hp3 hca hqa hce hqe hc2 hlt q0) (sC rfl) (by decide)
end
section
variable (aS bH aD aB aA aC aR : Addr) (bW bX cE bY bL bZ bC cA cB bI cQ fI : Tok) (ca qa : Addr) (tr tw tr' tw' : Tok) (hs : List Value) (m p c e : Nat) (r r' : Int) (w' w'' : Str) (hpc : p < c) (hc : c < hs.length) (hp3 : hs.length < 1000) (hca : hs[c]? = some (rf ca)) (hqa : hs[c + 1]? = some (rf qa)) (hce : decide ((c : Int) < (e : Int)) = true) (hqe : decide (((c + 1 : Nat) : Int) < (e : Int)) = true) (hc2 : c + 1 < hs.length) (hlt : ltP r r' w' w'' = true) (q0 : Int) 
noncomputable abbrev U2B_a : Rw := [(aS, (fO 7 [de w b1 b2 z2 bW (rf aC), de w b1 b2 z5 bX (vi (p : Int) cE), de w b1 b2 z25 bY (vi (e : Int) bL), de w b1 b2 z4 bZ (vi 0 bC), de w b1 b2 z6 cA (rf aR), de w b1 b2 z26 cB (vi (c : Int) bI), de w b1 b2 z34 cQ (vi q0 fI)])), (aC, (lsO ⟨hs⟩ (m))), (ca, (tupO ⟨[vi r tr, vs w' tw]⟩ 0)), (qa, (tupO ⟨[vi r' tr', vs w'' tw']⟩ 0))]
noncomputable abbrev U2B_z : Rw := [(aC, (lsO ⟨(hs).set (p) (rf ca)⟩ (m))), (aS, (fO 7 [de w b1 b2 z2 bW (rf aC), de w b1 b2 z5 bX (vi (c : Int) bI), de w b1 b2 z25 bY (vi (e : Int) bL), de w b1 b2 z4 bZ (vi 0 bC), de w b1 b2 z6 cA (rf aR), de w b1 b2 z26 cB (vi ((2 * (c) + 1 : Nat) : Int) (Tn + 7)), de w b1 b2 z34 cQ (vi ((c + 1 : Nat) : Int) (Tn + 1))])), (ca, (tupO ⟨[vi r tr, vs w' tw]⟩ 0)), (qa, (tupO ⟨[vi r' tr', vs w'' tw']⟩ 0))]
noncomputable abbrev U2B_g : Ctx := ⟨.whileLoop wh157.1 wh157.2.1 wh157.2.2 (eN180 aS), none, none, [(k180 aS ⟨157, 4, 163, 30⟩), (k166 bH ⟨138, 8, 138, 24⟩), (.forLoop fl914.1 (rf aD) fl914.2.1 fl914.2.2 (eN907 aB), ⟨915, 20, 915, 33⟩), (k907 aB ⟨914, 16, 914, 38⟩), (k921 aA ⟨939, 29, 939, 43⟩), callerB], none⟩
noncomputable abbrev U2B_h : Ctx := ⟨.whileLoop wh157.1 wh157.2.1 wh157.2.2 (eN180 aS), none, none, [(k180 aS ⟨157, 4, 163, 30⟩), (k166 bH ⟨138, 8, 138, 24⟩), (.forLoop fl914.1 (rf aD) fl914.2.1 fl914.2.2 (eN907 aB), ⟨915, 20, 915, 33⟩), (k907 aB ⟨914, 16, 914, 38⟩), (k921 aA ⟨939, 29, 939, 43⟩), callerB], none⟩
noncomputable def U2B : Res :=
  (fun _ _ _ _ => simC w b1 b2 N Tn 100 (dg 45 0x111111111221112221113431222111222111111111111) [cLt (c : Int) bI (e : Int) bL true hce N Tn, cAdd (c : Int) bI 1 Tn ((c + 1 : Nat) : Int) (by omega) N (Tn + 1), cLt ((c + 1 : Nat) : Int) (Tn + 1) (e : Int) bL true hqe N (Tn + 3), cLGetN 1 aC (hs) (m) (c) (c : Int) (by omega) bI (rf ca) (by omega) hca N (Tn + 3), cLGetN 1 aC (hs) (m) (c + 1) ((c + 1 : Nat) : Int) (by omega) (Tn + 1) (rf qa) (by omega) hqa N (Tn + 3), cTLt 2 3 ca qa r r' tr tr' w' w'' tw tw' 0 0 true hlt N (Tn + 3), cLGetN 1 aC (hs) (m) (c) (c : Int) (by omega) bI (rf ca) (by omega) hca N (Tn + 3), cLSetI 1 aC (hs) (m) (p) (p : Int) (by omega) cE (rf ca) (by omega) (by omega) N (Tn + 3), cMul2 (c : Int) bI (Tn + 4) ((2 * (c) : Nat) : Int) (by omega) (by omega) (by omega) N (Tn + 5), cAdd ((2 * (c) : Nat) : Int) (Tn + 5) 1 (Tn + 6) ((2 * (c) + 1 : Nat) : Int) (by omega) N (Tn + 7)] (U2B_g aS bH aD aB aA) pos (U2B_a w b1 b2 aS aC aR bW bX cE bY bL bZ bC cA cB bI cQ fI ca qa tr tw tr' tw' hs m p c e r r' w' w'' q0) 4 G) hpc hc hp3 hc2
theorem U2B_run : RunC (U2B w b1 b2 N Tn pos G aS bH aD aB aA aC aR bW bX cE bY bL bZ bC cA cB bI cQ fI ca qa tr tw tr' tw' hs m p c e r r' w' w'' hpc hc hp3 hca hqa hce hqe hc2 hlt q0) [1, 0, 2, 3] (U2B_h aS bH aD aB aA) 0 9 G (U2B_z w b1 b2 Tn aS aC aR bW bX bY bL bZ bC cA cB bI cQ ca qa tr tw tr' tw' hs m p c e r r' w' w'') := by
  walk_at "r"
variable {w b1 b2 N Tn pos G aS bH aD aB aA aC aR bW bX cE bY bL bZ bC cA cB bI cQ fI}
def U2B_go := goC (U2B_run w b1 b2 N Tn pos G aS bH aD aB aA aC aR bW bX cE bY bL bZ bC cA cB bI cQ fI ca qa tr tw tr' tw' hs m p c e r r' w' w'' hpc hc hp3 hca hqa hce hqe hc2 hlt q0) (sC rfl) (by decide)
end
section
variable (aS bH aD aB aA aC aR : Addr) (bW bX cE bY bL bZ bC cA cB bI cQ fI : Tok) (ca : Addr) (hs : List Value) (m p c e : Nat) (hpc : p < c) (hc : c < hs.length) (hp3 : hs.length < 1000) (hca : hs[c]? = some (rf ca)) (hce : decide ((c : Int) < (e : Int)) = true) (hqe : decide (((c + 1 : Nat) : Int) < (e : Int)) = false) (q0 : Int) 
noncomputable abbrev U2C_a : Rw := [(aS, (fO 7 [de w b1 b2 z2 bW (rf aC), de w b1 b2 z5 bX (vi (p : Int) cE), de w b1 b2 z25 bY (vi (e : Int) bL), de w b1 b2 z4 bZ (vi 0 bC), de w b1 b2 z6 cA (rf aR), de w b1 b2 z26 cB (vi (c : Int) bI), de w b1 b2 z34 cQ (vi q0 fI)])), (aC, (lsO ⟨hs⟩ (m)))]
noncomputable abbrev U2C_z : Rw := [(aC, (lsO ⟨(hs).set (p) (rf ca)⟩ (m))), (aS, (fO 7 [de w b1 b2 z2 bW (rf aC), de w b1 b2 z5 bX (vi (c : Int) bI), de w b1 b2 z25 bY (vi (e : Int) bL), de w b1 b2 z4 bZ (vi 0 bC), de w b1 b2 z6 cA (rf aR), de w b1 b2 z26 cB (vi ((2 * (c) + 1 : Nat) : Int) (Tn + 7)), de w b1 b2 z34 cQ (vi ((c + 1 : Nat) : Int) (Tn + 1))]))]
noncomputable abbrev U2C_g : Ctx := ⟨.whileLoop wh157.1 wh157.2.1 wh157.2.2 (eN180 aS), none, none, [(k180 aS ⟨157, 4, 163, 30⟩), (k166 bH ⟨138, 8, 138, 24⟩), (.forLoop fl914.1 (rf aD) fl914.2.1 fl914.2.2 (eN907 aB), ⟨915, 20, 915, 33⟩), (k907 aB ⟨914, 16, 914, 38⟩), (k921 aA ⟨939, 29, 939, 43⟩), callerB], none⟩
noncomputable abbrev U2C_h : Ctx := ⟨.whileLoop wh157.1 wh157.2.1 wh157.2.2 (eN180 aS), none, none, [(k180 aS ⟨157, 4, 163, 30⟩), (k166 bH ⟨138, 8, 138, 24⟩), (.forLoop fl914.1 (rf aD) fl914.2.1 fl914.2.2 (eN907 aB), ⟨915, 20, 915, 33⟩), (k907 aB ⟨914, 16, 914, 38⟩), (k921 aA ⟨939, 29, 939, 43⟩), callerB], none⟩
noncomputable def U2C : Res :=
  (fun _ _ _ => simC w b1 b2 N Tn 74 (dg 29 0x11111111122111222111111111111) [cLt (c : Int) bI (e : Int) bL true hce N Tn, cAdd (c : Int) bI 1 Tn ((c + 1 : Nat) : Int) (by omega) N (Tn + 1), cLt ((c + 1 : Nat) : Int) (Tn + 1) (e : Int) bL false hqe N (Tn + 3), cLGetN 1 aC (hs) (m) (c) (c : Int) (by omega) bI (rf ca) (by omega) hca N (Tn + 3), cLSetI 1 aC (hs) (m) (p) (p : Int) (by omega) cE (rf ca) (by omega) (by omega) N (Tn + 3), cMul2 (c : Int) bI (Tn + 4) ((2 * (c) : Nat) : Int) (by omega) (by omega) (by omega) N (Tn + 5), cAdd ((2 * (c) : Nat) : Int) (Tn + 5) 1 (Tn + 6) ((2 * (c) + 1 : Nat) : Int) (by omega) N (Tn + 7)] (U2C_g aS bH aD aB aA) pos (U2C_a w b1 b2 aS aC aR bW bX cE bY bL bZ bC cA cB bI cQ fI hs m p c e q0) 2 G) hpc hc hp3
theorem U2C_run : RunC (U2C w b1 b2 N Tn pos G aS bH aD aB aA aC aR bW bX cE bY bL bZ bC cA cB bI cQ fI ca hs m p c e hpc hc hp3 hca hce hqe q0) [1, 0] (U2C_h aS bH aD aB aA) 0 9 G (U2C_z w b1 b2 Tn aS aC aR bW bX bY bL bZ bC cA cB bI cQ ca hs m p c e) := by
  walk_at "r"
variable {w b1 b2 N Tn pos G aS bH aD aB aA aC aR bW bX cE bY bL bZ bC cA cB bI cQ fI}
def U2C_go := goC (U2C_run w b1 b2 N Tn pos G aS bH aD aB aA aC aR bW bX cE bY bL bZ bC cA cB bI cQ fI ca hs m p c e hpc hc hp3 hca hce hqe q0) (sC rfl) (by decide)
end
section
variable (aS bH aD aB aA aC aR : Addr) (bW bX bI bY bL bZ bC cA cB fD cQ fE : Tok) (e c : Nat) (hce : decide ((c : Int) < (e : Int)) = false) (p : Nat) (q0 : Int) 
noncomputable abbrev Ue2_a : Rw := [(aS, (fO 7 [de w b1 b2 z2 bW (rf aC), de w b1 b2 z5 bX (vi (p : Int) bI), de w b1 b2 z25 bY (vi (e : Int) bL), de w b1 b2 z4 bZ (vi 0 bC), de w b1 b2 z6 cA (rf aR), de w b1 b2 z26 cB (vi (c : Int) fD), de w b1 b2 z34 cQ (vi q0 fE)]))]
noncomputable abbrev Ue2_z : Rw := [(aS, (fO 7 [de w b1 b2 z2 bW (rf aC), de w b1 b2 z5 bX (vi (p : Int) bI), de w b1 b2 z25 bY (vi (e : Int) bL), de w b1 b2 z4 bZ (vi 0 bC), de w b1 b2 z6 cA (rf aR), de w b1 b2 z26 cB (vi (c : Int) fD), de w b1 b2 z34 cQ (vi q0 fE)]))]
noncomputable abbrev Ue2_g : Ctx := ⟨.whileLoop wh157.1 wh157.2.1 wh157.2.2 (eN180 aS), none, none, [(k180 aS ⟨157, 4, 163, 30⟩), (k166 bH ⟨138, 8, 138, 24⟩), (.forLoop fl914.1 (rf aD) fl914.2.1 fl914.2.2 (eN907 aB), ⟨915, 20, 915, 33⟩), (k907 aB ⟨914, 16, 914, 38⟩), (k921 aA ⟨939, 29, 939, 43⟩), callerB], none⟩
noncomputable def Ue2 : Res :=
  simC w b1 b2 N Tn 10 [1, 1, 1] [cLt (c : Int) fD (e : Int) bL false hce N Tn] (Ue2_g aS bH aD aB aA) pos (Ue2_a w b1 b2 aS aC aR bW bX bI bY bL bZ bC cA cB fD cQ fE e c p q0) 1 G
theorem Ue2_run : RunF (Ue2 w b1 b2 N Tn pos G aS bH aD aB aA aC aR bW bX bI bY bL bZ bC cA cB fD cQ fE e c hce p q0) [0] (.ok .next) 0 0 G (Ue2_z w b1 b2 aS aC aR bW bX bI bY bL bZ bC cA cB fD cQ fE e c p q0) := by
  walk_at "r"
variable {w b1 b2 N Tn pos G aS bH aD aB aA aC aR bW bX bI bY bL bZ bC cA cB fD cQ fE}
def Ue2_go := goF (Ue2_run w b1 b2 N Tn pos G aS bH aD aB aA aC aR bW bX bI bY bL bZ bC cA cB fD cQ fE e c hce p q0) (sC rfl) (by decide)
end
section
variable (fJ gA aD aB aA aC aR : Addr) (jB jC eW jD gY jE jF jG gZ : Tok) (e c : Nat) (hce : decide ((c : Int) < (e : Int)) = false) 
noncomputable abbrev U0e_a : Rw := [(fJ, (fO 6 [de w b1 b2 z2 jB (rf aC), de w b1 b2 z5 jC (vi 0 eW), de w b1 b2 z25 jD (vi (e : Int) gY), de w b1 b2 z4 jE (vi 0 eW), de w b1 b2 z6 jF (rf aR), de w b1 b2 z26 jG (vi (c : Int) gZ)]))]
noncomputable abbrev U0e_z : Rw := [(fJ, (fO 6 [de w b1 b2 z2 jB (rf aC), de w b1 b2 z5 jC (vi 0 eW), de w b1 b2 z25 jD (vi (e : Int) gY), de w b1 b2 z4 jE (vi 0 eW), de w b1 b2 z6 jF (rf aR), de w b1 b2 z26 jG (vi (c : Int) gZ)]))]
noncomputable abbrev U0e_g : Ctx := ⟨.whileLoop wh157.1 wh157.2.1 wh157.2.2 (eN180 fJ), none, none, [(k180 fJ ⟨157, 4, 163, 30⟩), (k166 gA ⟨138, 8, 138, 24⟩), (.forLoop fl914.1 (rf aD) fl914.2.1 fl914.2.2 (eN907 aB), ⟨915, 20, 915, 33⟩), (k907 aB ⟨914, 16, 914, 38⟩), (k921 aA ⟨939, 29, 939, 43⟩), callerB], none⟩
noncomputable def U0e : Res :=
  simC w b1 b2 N Tn 10 [1, 1, 1] [cLt (c : Int) gZ (e : Int) gY false hce N Tn] (U0e_g fJ gA aD aB aA) pos (U0e_a w b1 b2 fJ aC aR jB jC eW jD gY jE jF jG gZ e c) 1 G
theorem U0e_run : RunF (U0e w b1 b2 N Tn pos G fJ gA aD aB aA aC aR jB jC eW jD gY jE jF jG gZ e c hce) [0] (.ok .next) 0 0 G (U0e_z w b1 b2 fJ aC aR jB jC eW jD gY jE jF jG gZ e c) := by
  walk_at "r"
variable {w b1 b2 N Tn pos G fJ gA aD aB aA aC aR jB jC eW jD gY jE jF jG gZ}
def U0e_go := goF (U0e_run w b1 b2 N Tn pos G fJ gA aD aB aA aC aR jB jC eW jD gY jE jF jG gZ e c hce) (sC rfl) (by decide)
end
section
variable (gI fJ gA aD aB aA aC aR : Addr) (jH jI eW jJ jK : Tok) (h00 : decide ((0 : Int) > 0) = false) 
noncomputable abbrev V0_a : Rw := [(gI, (fO 4 [de w b1 b2 z2 jH (rf aC), de w b1 b2 z4 jI (vi 0 eW), de w b1 b2 z5 jJ (vi 0 eW), de w b1 b2 z6 jK (rf aR)]))]
noncomputable abbrev V0_z : Rw := [(gI, (fO 4 [de w b1 b2 z2 jH (rf aC), de w b1 b2 z4 jI (vi 0 eW), de w b1 b2 z5 jJ (vi 0 eW), de w b1 b2 z6 jK (rf aR)]))]
noncomputable abbrev V0_g : Ctx := ⟨.whileLoop wh143.1 wh143.2.1 wh143.2.2 (eN173 gI), none, none, [(k173 gI ⟨143, 4, 150, 13⟩), (k180 fJ ⟨165, 4, 165, 34⟩), (k166 gA ⟨138, 8, 138, 24⟩), (.forLoop fl914.1 (rf aD) fl914.2.1 fl914.2.2 (eN907 aB), ⟨915, 20, 915, 33⟩), (k907 aB ⟨914, 16, 914, 38⟩), (k921 aA ⟨939, 29, 939, 43⟩), callerB], none⟩
noncomputable def V0 : Res :=
  simC w b1 b2 N Tn 10 [1, 1, 1] [cGt 0 eW 0 eW false h00 N Tn] (V0_g gI fJ gA aD aB aA) pos (V0_a w b1 b2 gI aC aR jH jI eW jJ jK) 1 G
theorem V0_run : RunF (V0 w b1 b2 N Tn pos G gI fJ gA aD aB aA aC aR jH jI eW jJ jK h00) [0] (.ok .next) 0 0 G (V0_z w b1 b2 gI aC aR jH jI eW jJ jK) := by
  walk_at "r"
variable {w b1 b2 N Tn pos G gI fJ gA aD aB aA aC aR jH jI eW jJ jK}
def V0_go := goF (V0_run w b1 b2 N Tn pos G gI fJ gA aD aB aA aC aR jH jI eW jJ jK h00) (sC rfl) (by decide)
end
section
variable (gJ kI kJ aD aB aA aC jL aR : Addr) (jM jN hA jO gK jP jQ jR : Tok) (h00 : decide ((0 : Int) > 0) = false) 
noncomputable abbrev V2e_a : Rw := [(gJ, (fO 6 [de w b1 b2 z2 jM (rf aC), de w b1 b2 z4 jN (vi 0 hA), de w b1 b2 z5 jO (vi 0 gK), de w b1 b2 z6 jP (rf jL), de w b1 b2 z30 jQ (vi 0 gK), de w b1 b2 z31 jR (rf aR)]))]
noncomputable abbrev V2e_z : Rw := [(gJ, (fO 6 [de w b1 b2 z2 jM (rf aC), de w b1 b2 z4 jN (vi 0 hA), de w b1 b2 z5 jO (vi 0 gK), de w b1 b2 z6 jP (rf jL), de w b1 b2 z30 jQ (vi 0 gK), de w b1 b2 z31 jR (rf aR)]))]
noncomputable abbrev V2e_g : Ctx := ⟨.whileLoop wh143.1 wh143.2.1 wh143.2.2 (eN173 gJ), none, none, [(k173 gJ ⟨143, 4, 150, 13⟩), (k180 kI ⟨165, 4, 165, 34⟩), (k166 kJ ⟨138, 8, 138, 24⟩), (.forLoop fl914.1 (rf aD) fl914.2.1 fl914.2.2 (eN907 aB), ⟨915, 20, 915, 33⟩), (k907 aB ⟨914, 16, 914, 38⟩), (k921 aA ⟨939, 29, 939, 43⟩), callerB], none⟩
noncomputable def V2e : Res :=
  simC w b1 b2 N Tn 10 [1, 1, 1] [cGt 0 gK 0 hA false h00 N Tn] (V2e_g gJ kI kJ aD aB aA) pos (V2e_a w b1 b2 gJ aC jL aR jM jN hA jO gK jP jQ jR) 1 G
theorem V2e_run : RunF (V2e w b1 b2 N Tn pos G gJ kI kJ aD aB aA aC jL aR jM jN hA jO gK jP jQ jR h00) [0] (.ok .next) 0 0 G (V2e_z w b1 b2 gJ aC jL aR jM jN hA jO gK jP jQ jR) := by
  walk_at "r"
variable {w b1 b2 N Tn pos G gJ kI kJ aD aB aA aC jL aR jM jN hA jO gK jP jQ jR}
def V2e_go := goF (V2e_run w b1 b2 N Tn pos G gJ kI kJ aD aB aA aC jL aR jM jN hA jO gK jP jQ jR h00) (sC rfl) (by decide)
end
end
noncomputable abbrev suF6 (w : World) (b1 b2 : Bool) (k1 k2 k3 k4 k5 k6 k7 k8 : Tok) (hl na : Addr) (e : Nat) (tc : Tok) : Obj := (fO 6 [de w b1 b2 z2 k1 (Value.ref hl), de w b1 b2 z5 k2 (Value.int 0 k3), de w b1 b2 z25 k4 (Value.int (e : Int) k5), de w b1 b2 z4 k6 (Value.int 0 k3), de w b1 b2 z6 k7 (Value.ref na), de w b1 b2 z26 k8 (Value.int ((1 : Nat) : Int) tc)])
noncomputable abbrev suF7 (w : World) (b1 b2 : Bool) (k1 k2 k3 k4 k5 k6 k7 k8 k9 : Tok) (hl na : Addr) (e p c : Nat) (tp tc : Tok) (q0 : Int) (tq : Tok) : Obj := (fO 7 [de w b1 b2 z2 k1 (Value.ref hl), de w b1 b2 z5 k2 (Value.int (p : Int) tp), de w b1 b2 z25 k4 (Value.int (e : Int) k5), de w b1 b2 z4 k6 (Value.int 0 k3), de w b1 b2 z6 k7 (Value.ref na), de w b1 b2 z26 k8 (Value.int (c : Int) tc), de w b1 b2 z34 k9 (Value.int q0 tq)])
noncomputable abbrev suC (fa fb ri fl fr : Addr) : Ctx := ⟨.whileLoop wh157.1 wh157.2.1 wh157.2.2 (eN180 fa), none, none, [(k180 fa ⟨157, 4, 163, 30⟩), (k166 fb ⟨138, 8, 138, 24⟩), (.forLoop fl914.1 (Value.ref ri) fl914.2.1 fl914.2.2 (eN907 fl), ⟨915, 20, 915, 33⟩), (k907 fl ⟨914, 16, 914, 38⟩), (k921 fr ⟨939, 29, 939, 43⟩), callerB], none⟩
noncomputable abbrev sdVc (fa fu fb ri fl fr : Addr) : Ctx := ⟨.whileLoop wh143.1 wh143.2.1 wh143.2.2 (eN173 fa), none, none, [(k173 fa ⟨143, 4, 150, 13⟩), (k180 fu ⟨165, 4, 165, 34⟩), (k166 fb ⟨138, 8, 138, 24⟩), (.forLoop fl914.1 (Value.ref ri) fl914.2.1 fl914.2.2 (eN907 fl), ⟨915, 20, 915, 33⟩), (k907 fl ⟨914, 16, 914, 38⟩), (k921 fr ⟨939, 29, 939, 43⟩), callerB], none⟩
section
variable {w : World} {b1 b2 : Bool} {h₀ : Heap} {U : List Addr} {d : Drawn} {os : OsState} {R : Result → Shared → Prop} {G : List GenState} {F : Rw}
theorem sdV_loop2 (hs0 : List Tp) (t : Tp) (fa fu fb ri fl fr hl : Addr) (k1 k2 k3 k4 k5 k6 k7 : Tok) : ∀ (p : Nat) (hs : List Tp) (N Tn m : Nat) (pos : Pos) (tp : Tok) (pa : Addr) (h : Heap), p < 1000 → Hol F hs0 hs p t → SdI tlt hs p t →
    At w b1 b2 h₀ U F h N [(fa, sdF6 w b1 b2 k1 k2 k3 k4 k5 k6 k7 hl t p tp (p : Int) tp pa), (hl, lsO ⟨tpV hs⟩ m)] →
    (∀ h' N' T' hs' p' m' tp' q tq pa', p' < 1000 → Hol F hs0 hs' p' t → HeapP tlt (hs'.set p' t) → At w b1 b2 h₀ U F h' N' [(fa, sdF6 w b1 b2 k1 k2 k3 k4 k5 k6 k7 hl t p' tp' q tq pa'), (hl, lsO ⟨tpV hs'⟩ m')] → R (.ok .next) ⟨h', ⟨G⟩, d, T', os⟩) →
    wpCode (mdl w) (sdVc fa fu fb ri fl fr) R pos ⟨h, ⟨G⟩, d, Tn, os⟩ := by
  intro p
  induction p using Nat.strongRecOn with
  | _ p ih =>
    intro hs N Tn m pos tp pa h hp3 H I A kk
    rcases Nat.eq_zero_or_pos p with e | hp
    · subst e
      have A1 := A.freeze (l := [(fa, sdF6 w b1 b2 k1 k2 k3 k4 k5 k6 k7 hl t 0 tp ((0 : Nat) : Int) tp pa)]) (e := [(hl, lsO ⟨tpV hs⟩ m)])
      exact V2e_go (by decide) A1.ok A1.rep fun h' D => kk h' _ _ hs 0 m tp _ tp pa hp3 H I.fin0 (A1.next D).thaw
    · have hl2 : (p - 1) / 2 < hs.length := by have := H.lt; omega
      have hy := List.getElem?_eq_getElem hl2
      generalize hs[(p - 1) / 2] = y at hy
      have ne : (p - 1) / 2 ≠ p := by omega
      have Y := H.y hy ne
      obtain ⟨F', pf, A1⟩ := A.take2 H.t Y.1 Y.2
      have hpos : decide ((p : Int) > 0) = true := decide_eq_true (by omega)
      cases hlt : tlt t y with
      | true =>
        refine V2t_go (pos := pos) t.a y.a t.tr t.ts y.tr y.ts (tpV hs) m p t.r y.r t.s y.s hp (by rw [tpV_len]; exact H.lt) hp3 (tpV_get hy) hpos hlt A1.ok A1.rep fun h' pp D => ?_
        have A2 := (At.give2 (l := [(hl, lsO ⟨(tpV hs).set p y.v⟩ m), _]) (x := t.o) (y := y.o) (A1.next D) pf).pick [1, 0] (l' := [_, _]) rfl (by decide)
        rw [tpV_set] at A2
        exact ih _ (by omega) _ _ _ m pp _ _ h' (by omega) (H.step hy ne) (I.step tlt_ok hp H.lt hy hlt) A2 kk
      | false =>
        refine V2f_go (pos := pos) t.a y.a t.tr t.ts y.tr y.ts (tpV hs) m p t.r y.r t.s y.s hp (by rw [tpV_len]; exact H.lt) hp3 (tpV_get hy) hpos hlt A1.ok A1.rep fun h' D => ?_
        have A2 := (At.give2 (l := [(hl, lsO ⟨tpV hs⟩ m), _]) (x := t.o) (y := y.o) (A1.next D) pf).pick [1, 0] (l' := [_, _]) rfl (by decide)
        exact kk h' _ _ hs p m _ _ _ _ hp3 H (I.fin hp hy hlt) A2
theorem sdV_loop (hs0 : List Tp) (t : Tp) (fa fu fb ri fl fr hl : Addr) (k1 k2 k3 k4 k5 : Tok) (p : Nat) (hs : List Tp) (N Tn m : Nat) (pos : Pos) (tp : Tok) (h : Heap) (hp : 0 < p) (hp3 : p < 1000) (H : Hol F hs0 hs p t) (I : SdI tlt hs p t)
    (A : At w b1 b2 h₀ U F h N [(fa, sdF4 w b1 b2 k1 k2 k3 k4 k5 hl t p tp), (hl, lsO ⟨tpV hs⟩ m)])
    (kk : ∀ h' N' T' hs' p' m' k6 k7 tp' q tq pa', p' < 1000 → Hol F hs0 hs' p' t → HeapP tlt (hs'.set p' t) → At w b1 b2 h₀ U F h' N' [(fa, sdF6 w b1 b2 k1 k2 k3 k4 k5 k6 k7 hl t p' tp' q tq pa'), (hl, lsO ⟨tpV hs'⟩ m')] → R (.ok .next) ⟨h', ⟨G⟩, d, T', os⟩) :
    wpCode (mdl w) (sdVc fa fu fb ri fl fr) R pos ⟨h, ⟨G⟩, d, Tn, os⟩ := by
  have hl2 : (p - 1) / 2 < hs.length := by have := H.lt; omega
  have hy := List.getElem?_eq_getElem hl2
  generalize hs[(p - 1) / 2] = y at hy
  have ne : (p - 1) / 2 ≠ p := by omega
  have Y := H.y hy ne
  obtain ⟨F', pf, A1⟩ := A.take2 H.t Y.1 Y.2
  have hpos : decide ((p : Int) > 0) = true := decide_eq_true (by omega)
  cases hlt : tlt t y with
  | true =>
    refine V1t_go (pos := pos) t.a y.a t.tr t.ts y.tr y.ts (tpV hs) m p t.r y.r t.s y.s hp (by rw [tpV_len]; exact H.lt) hp3 (tpV_get hy) hpos hlt A1.ok A1.rep fun h' pp D => ?_
    have A2 := (At.give2 (l := [(hl, lsO ⟨(tpV hs).set p y.v⟩ m), _]) (x := t.o) (y := y.o) (A1.next D) pf).pick [1, 0] (l' := [_, _]) rfl (by decide)
    rw [tpV_set] at A2
    exact sdV_loop2 hs0 t fa fu fb ri fl fr hl k1 k2 k3 k4 k5 _ _ _ _ _ _ m pp _ _ h' (by omega) (H.step hy ne) (I.step tlt_ok hp H.lt hy hlt) A2 fun h1 N1 T1 hs1 p1 m1 tp1 q1 tq1 pa1 a1 a2 a3 a4 => kk h1 N1 T1 hs1 p1 m1 _ _ _ _ _ _ a1 a2 a3 a4
  | false =>
    refine V1f_go (pos := pos) t.a y.a t.tr t.ts y.tr y.ts (tpV hs) m p t.r y.r t.s y.s hp (by rw [tpV_len]; exact H.lt) hp3 (tpV_get hy) hpos hlt A1.ok A1.rep fun h' D => ?_
    have A2 := (At.give2 (l := [(hl, lsO ⟨tpV hs⟩ m), _]) (x := t.o) (y := y.o) (A1.next D) pf).pick [1, 0] (l' := [_, _]) rfl (by decide)
    exact kk h' _ _ hs p m _ _ _ _ _ _ hp3 H (I.fin hp hy hlt) A2
theorem su_loop2 (hs0 : List Tp) (t : Tp) (fa fb ri fl fr hl : Addr) (k1 k2 k3 k4 k5 k6 k7 k8 k9 : Tok) (e : Nat) : ∀ (n p : Nat) (hs : List Tp) (N Tn m : Nat) (pos : Pos) (tp tc : Tok) (q0 : Int) (tq : Tok) (h : Heap), e - p ≤ n → e < 900 → hs.length = e → Hol F hs0 hs p t → SuI tlt hs p →
    At w b1 b2 h₀ U F h N [(fa, suF7 w b1 b2 k1 k2 k3 k4 k5 k6 k7 k8 k9 hl t.a e p (2 * p + 1) tp tc q0 tq), (hl, lsO ⟨tpV hs⟩ m)] →
    (∀ h' N' T' hs' p' m' tp' c' tc' q' tq' k9', hs'.length = e → Hol F hs0 hs' p' t → SdI tlt (hs'.set p' t) p' t → 0 < p' → At w b1 b2 h₀ U F h' N' [(fa, suF7 w b1 b2 k1 k2 k3 k4 k5 k6 k7 k8 k9' hl t.a e p' c' tp' tc' q' tq'), (hl, lsO ⟨tpV hs'⟩ m')] → R (.ok .next) ⟨h', ⟨G⟩, d, T', os⟩) → 0 < p →
    wpCode (mdl w) (suC fa fb ri fl fr) R pos ⟨h, ⟨G⟩, d, Tn, os⟩ := by
  intro n
  induction n using Nat.strongRecOn with
  | _ n ih =>
    intro p hs N Tn m pos tp tc q0 tq h hn he3 he H I A kk hp0
    have hpl := H.lt
    by_cases hc : 2 * p + 1 < e
    · have hl1 : (2 * p + 1) < hs.length := by omega
      have hy := List.getElem?_eq_getElem hl1
      generalize hs[(2 * p + 1)] = y at hy
      have Y := H.y hy (by omega)
      have hce : decide ((((2 * p + 1) : Nat) : Int) < (e : Int)) = true := decide_eq_true (by omega)
      by_cases hr : (2 * p + 1 + 1) < hs.length
      · have hz := List.getElem?_eq_getElem hr
        generalize hs[(2 * p + 1 + 1)] = z at hz
        have Z := H.y hz (by omega)
        have hqe : decide ((((2 * p + 1 + 1) : Nat) : Int) < (e : Int)) = true := decide_eq_true (by omega)
        obtain ⟨F', pf, A1⟩ := A.take2 Y.1 Z.1 (H.yy hy (by omega) hz (by omega) (by omega))
        cases hlt : tlt y z with
        | true =>
          refine U2B_go (pos := pos) y.a z.a y.tr y.ts z.tr z.ts (tpV hs) m p (2 * p + 1) e y.r z.r y.s z.s (by omega) (by rw [tpV_len]; exact hl1) (by rw [tpV_len]; omega) (tpV_get hy) (tpV_get hz) hce hqe (by rw [tpV_len]; exact hr) hlt q0 A1.ok A1.rep fun h' pp D => ?_
          have A2 : At w b1 b2 h₀ U F h' (N + 0 + 0) [(fa, suF7 w b1 b2 k1 k2 k3 k4 k5 k6 k7 k8 k9 hl t.a e (2 * p + 1) (2 * (2 * p + 1) + 1) tc (Tn + 7) (((2 * p + 1 + 1) : Nat) : Int) (Tn + 1)), (hl, lsO ⟨tpV (hs.set p y)⟩ m)] := by
            have A3 := (At.give2 (l := [(hl, lsO ⟨(tpV hs).set p y.v⟩ m), _]) (x := y.o) (y := z.o) (A1.next D) pf).pick [1, 0] (l' := [_, _]) rfl (by decide)
            rw [tpV_set] at A3; exact A3
          refine ih (n - 1) (by omega) (2 * p + 1) (hs.set p y) _ _ m pp tc (Tn + 7) (((2 * p + 1 + 1) : Nat) : Int) (Tn + 1) h' (by omega) he3 (by rw [List.length_set]; exact he) (H.step hy (by omega)) (I.step tlt_ok (by omega) (by omega) hy ?_) A2 kk (by omega)
          intro i b h0 h1 hb
          have : i = (2 * p + 1) ∨ i = (2 * p + 1 + 1) := by omega
          rcases this with rfl | rfl
          · rw [hy] at hb; cases hb; exact tlt_ok.irr _
          · rw [hz] at hb; cases hb; exact tlt_ok.as _ _ hlt
        | false =>
          refine U2A_go (pos := pos) y.a z.a y.tr y.ts z.tr z.ts (tpV hs) m p (2 * p + 1) e y.r z.r y.s z.s (by omega) (by rw [tpV_len]; exact hl1) (by rw [tpV_len]; omega) (tpV_get hy) (tpV_get hz) hce hqe (by rw [tpV_len]; exact hr) hlt q0 A1.ok A1.rep fun h' pp D => ?_
          have A2 : At w b1 b2 h₀ U F h' (N + 0 + 0) [(fa, suF7 w b1 b2 k1 k2 k3 k4 k5 k6 k7 k8 k9 hl t.a e (2 * p + 1 + 1) (2 * (2 * p + 1 + 1) + 1) (Tn + 1) (Tn + 8) (((2 * p + 1 + 1) : Nat) : Int) (Tn + 1)), (hl, lsO ⟨tpV (hs.set p z)⟩ m)] := by
            have A3 := (At.give2 (l := [(hl, lsO ⟨(tpV hs).set p z.v⟩ m), _]) (x := y.o) (y := z.o) (A1.next D) pf).pick [1, 0] (l' := [_, _]) rfl (by decide)
            rw [tpV_set] at A3; exact A3
          refine ih (n - 1) (by omega) (2 * p + 1 + 1) (hs.set p z) _ _ m pp (Tn + 1) (Tn + 8) (((2 * p + 1 + 1) : Nat) : Int) (Tn + 1) h' (by omega) he3 (by rw [List.length_set]; exact he) (H.step hz (by omega)) (I.step tlt_ok (by omega) (by omega) hz ?_) A2 kk (by omega)
          intro i b h0 h1 hb
          have : i = (2 * p + 1) ∨ i = (2 * p + 1 + 1) := by omega
          rcases this with rfl | rfl
          · rw [hy] at hb; cases hb; exact hlt
          · rw [hz] at hb; cases hb; exact tlt_ok.irr _
      · have hqe : decide ((((2 * p + 1 + 1) : Nat) : Int) < (e : Int)) = false := decide_eq_false (by omega)
        refine U2C_go (pos := pos) y.a (tpV hs) m p (2 * p + 1) e (by omega) (by rw [tpV_len]; exact hl1) (by rw [tpV_len]; omega) (tpV_get hy) hce hqe q0 A.ok A.rep fun h' pp D => ?_
        have A2 : At w b1 b2 h₀ U F h' (N + 0 + 0) [(fa, suF7 w b1 b2 k1 k2 k3 k4 k5 k6 k7 k8 k9 hl t.a e (2 * p + 1) (2 * (2 * p + 1) + 1) tc (Tn + 7) (((2 * p + 1 + 1) : Nat) : Int) (Tn + 1)), (hl, lsO ⟨tpV (hs.set p y)⟩ m)] := by
          have A3 := (A.next D).pick [1, 0] (l' := [_, (hl, lsO ⟨(tpV hs).set p y.v⟩ m)]) rfl (by decide)
          rw [tpV_set] at A3; exact A3
        refine ih (n - 1) (by omega) (2 * p + 1) (hs.set p y) _ _ m pp tc (Tn + 7) (((2 * p + 1 + 1) : Nat) : Int) (Tn + 1) h' (by omega) he3 (by rw [List.length_set]; exact he) (H.step hy (by omega)) (I.step tlt_ok (by omega) (by omega) hy ?_) A2 kk (by omega)
        intro i b h0 h1 hb
        have hi := (List.getElem?_eq_some_iff.mp hb).1
        have : i = (2 * p + 1) := by omega
        subst this
        rw [hy] at hb; cases hb; exact tlt_ok.irr _
    · have A1 := A.freeze (l := [(fa, suF7 w b1 b2 k1 k2 k3 k4 k5 k6 k7 k8 k9 hl t.a e p (2 * p + 1) tp tc q0 tq)]) (e := [(hl, lsO ⟨tpV hs⟩ m)])
      exact Ue2_go (pos := pos) e (2 * p + 1) (decide_eq_false (by omega)) p q0 A1.ok A1.rep fun h' D => kk h' _ _ hs p m tp _ tc q0 tq _ he H (I.fin (by omega)) hp0 (A1.next D).thaw
theorem su_loop (hs0 : List Tp) (t : Tp) (fa fb ri fl fr hl : Addr) (k1 k2 k3 k4 k5 k6 k7 k8 : Tok) (e : Nat) (hs : List Tp) (N Tn m : Nat) (pos : Pos) (tc : Tok) (h : Heap) (he3 : e < 900) (he : hs.length = e) (he1 : 1 < e) (H : Hol F hs0 hs 0 t) (I : SuI tlt hs 0)
    (A : At w b1 b2 h₀ U F h N [(fa, suF6 w b1 b2 k1 k2 k3 k4 k5 k6 k7 k8 hl t.a e tc), (hl, lsO ⟨tpV hs⟩ m)])
    (kk : ∀ h' N' T' hs' p' m' tp' c' tc' q' tq' k9', hs'.length = e → Hol F hs0 hs' p' t → SdI tlt (hs'.set p' t) p' t → 0 < p' → At w b1 b2 h₀ U F h' N' [(fa, suF7 w b1 b2 k1 k2 k3 k4 k5 k6 k7 k8 k9' hl t.a e p' c' tp' tc' q' tq'), (hl, lsO ⟨tpV hs'⟩ m')] → R (.ok .next) ⟨h', ⟨G⟩, d, T', os⟩) :
    wpCode (mdl w) (suC fa fb ri fl fr) R pos ⟨h, ⟨G⟩, d, Tn, os⟩ := by
  have hpl := H.lt
  have hl1 : 1 < hs.length := by omega
  have hy := List.getElem?_eq_getElem hl1
  generalize hs[1] = y at hy
  have Y := H.y hy (by omega)
  have hce : decide (((1 : Nat) : Int) < (e : Int)) = true := decide_eq_true (by omega)
  by_cases hr : 2 < hs.length
  · have hz := List.getElem?_eq_getElem hr
    generalize hs[2] = z at hz
    have Z := H.y hz (by omega)
    have hqe : decide (((2 : Nat) : Int) < (e : Int)) = true := decide_eq_true (by omega)
    obtain ⟨F', pf, A1⟩ := A.take2 Y.1 Z.1 (H.yy hy (by omega) hz (by omega) (by omega))
    cases hlt : tlt y z with
    | true =>
      refine U1B_go (pos := pos) y.a z.a y.tr y.ts z.tr z.ts (tpV hs) m (e) y.r z.r y.s z.s (by rw [tpV_len]; exact hl1) (by rw [tpV_len]; omega) (tpV_get hy) (tpV_get hz) hce hqe (by rw [tpV_len]; exact hr) hlt A1.ok A1.rep fun h' pp D => ?_
      have A2 : At w b1 b2 h₀ U F h' (N + 0 + 0) [(fa, suF7 w b1 b2 k1 k2 k3 k4 k5 k6 k7 k8 (Tn + 2) hl t.a e 1 (2 * 1 + 1) tc (Tn + 7) ((2 : Nat) : Int) (Tn + 1)), (hl, lsO ⟨tpV (hs.set 0 y)⟩ m)] := by
        have A3 := (At.give2 (l := [(hl, lsO ⟨(tpV hs).set 0 y.v⟩ m), _]) (x := y.o) (y := z.o) (A1.next D) pf).pick [1, 0] (l' := [_, _]) rfl (by decide)
        rw [tpV_set] at A3; exact A3
      refine su_loop2 hs0 t fa fb ri fl fr hl k1 k2 k3 k4 k5 k6 k7 k8 (Tn + 2) e _ 1 (hs.set 0 y) _ _ m pp tc (Tn + 7) ((2 : Nat) : Int) (Tn + 1) h' (Nat.le_refl _) he3 (by rw [List.length_set]; exact he) (H.step hy (by omega)) (I.step tlt_ok (by omega) (by omega) hy ?_) A2 kk (by omega)
      intro i b h0 h1 hb
      have : i = 1 ∨ i = 2 := by omega
      rcases this with rfl | rfl
      · rw [hy] at hb; cases hb; exact tlt_ok.irr _
      · rw [hz] at hb; cases hb; exact tlt_ok.as _ _ hlt
    | false =>
      refine U1A_go (pos := pos) y.a z.a y.tr y.ts z.tr z.ts (tpV hs) m (e) y.r z.r y.s z.s (by rw [tpV_len]; exact hl1) (by rw [tpV_len]; omega) (tpV_get hy) (tpV_get hz) hce hqe (by rw [tpV_len]; exact hr) hlt A1.ok A1.rep fun h' pp D => ?_
      have A2 : At w b1 b2 h₀ U F h' (N + 0 + 0) [(fa, suF7 w b1 b2 k1 k2 k3 k4 k5 k6 k7 k8 (Tn + 2) hl t.a e 2 (2 * 2 + 1) (Tn + 1) (Tn + 8) ((2 : Nat) : Int) (Tn + 1)), (hl, lsO ⟨tpV (hs.set 0 z)⟩ m)] := by
        have A3 := (At.give2 (l := [(hl, lsO ⟨(tpV hs).set 0 z.v⟩ m), _]) (x := y.o) (y := z.o) (A1.next D) pf).pick [1, 0] (l' := [_, _]) rfl (by decide)
        rw [tpV_set] at A3; exact A3
      refine su_loop2 hs0 t fa fb ri fl fr hl k1 k2 k3 k4 k5 k6 k7 k8 (Tn + 2) e _ 2 (hs.set 0 z) _ _ m pp (Tn + 1) (Tn + 8) ((2 : Nat) : Int) (Tn + 1) h' (Nat.le_refl _) he3 (by rw [List.length_set]; exact he) (H.step hz (by omega)) (I.step tlt_ok (by omega) (by omega) hz ?_) A2 kk (by omega)
      intro i b h0 h1 hb
      have : i = 1 ∨ i = 2 := by omega
      rcases this with rfl | rfl
      · rw [hy] at hb; cases hb; exact hlt
      · rw [hz] at hb; cases hb; exact tlt_ok.irr _
  · have hqe : decide (((2 : Nat) : Int) < (e : Int)) = false := decide_eq_false (by omega)
    refine U1C_go (pos := pos) y.a (tpV hs) m (e) (by rw [tpV_len]; exact hl1) (by rw [tpV_len]; omega) (tpV_get hy) hce hqe A.ok A.rep fun h' pp D => ?_
    have A2 : At w b1 b2 h₀ U F h' (N + 0 + 0) [(fa, suF7 w b1 b2 k1 k2 k3 k4 k5 k6 k7 k8 (Tn + 2) hl t.a e 1 (2 * 1 + 1) tc (Tn + 7) ((2 : Nat) : Int) (Tn + 1)), (hl, lsO ⟨tpV (hs.set 0 y)⟩ m)] := by
      have A3 := (A.next D).pick [1, 0] (l' := [_, (hl, lsO ⟨(tpV hs).set 0 y.v⟩ m)]) rfl (by decide)
      rw [tpV_set] at A3; exact A3
    refine su_loop2 hs0 t fa fb ri fl fr hl k1 k2 k3 k4 k5 k6 k7 k8 (Tn + 2) e _ 1 (hs.set 0 y) _ _ m pp tc (Tn + 7) ((2 : Nat) : Int) (Tn + 1) h' (Nat.le_refl _) he3 (by rw [List.length_set]; exact he) (H.step hy (by omega)) (I.step tlt_ok (by omega) (by omega) hy ?_) A2 kk (by omega)
    intro i b h0 h1 hb
    have hi := (List.getElem?_eq_some_iff.mp hb).1
    have : i = 1 := by omega
    subst this
    rw [hy] at hb; cases hb; exact tlt_ok.irr _
theorem Hol.app {F e : Rw} {hs0 hs : List Tp} {p : Nat} {t : Tp} (H : Hol F hs0 hs p t) : Hol (e ++ F) hs0 hs p t := ⟨H.perm, H.nd, fun u hu => List.mem_append_right _ (H.mem u hu), H.lt⟩
theorem HeapP.pre {hs : List Tp} {la : Tp} (H : HeapP tlt (hs ++ [la])) : HeapP tlt hs := by
  intro i a b h0 h1 h2
  have l1 := (List.getElem?_eq_some_iff.mp h1).1
  have l2 := (List.getElem?_eq_some_iff.mp h2).1
  exact H i a b h0 (by rw [List.getElem?_append_left l1]; exact h1) (by rw [List.getElem?_append_left l2]; exact h2)
/-- heappop -/
theorem pop_go (hs : List Tp) (hl ri fl fr : Addr) (N Tn m : Nat) (pos : Pos) (h : Heap) (h1 : 0 < hs.length) (hL : hs.length < 100) (hm : ∀ u ∈ hs, u.o ∈ F) (nd : (hs.map (·.a)).Nodup) (HP : HeapP tlt hs)
    (A : At w b1 b2 h₀ U F h N [(hl, lsO ⟨tpV hs⟩ m)])
    (kk : ∀ h' N' T' hs' m' ra, hs[0]? = some ra → (ra :: hs').Perm hs → HeapP tlt hs' → At w b1 b2 h₀ U F h' N' [(hl, lsO ⟨tpV hs'⟩ m')] → R (.ok (.ret (.ref ra.a))) ⟨h', ⟨G⟩, d, T', os⟩) :
    wpCode (mdl w) (R0_g hl ri fl fr) R pos ⟨h, ⟨G⟩, d, Tn, os⟩ := by
  obtain ⟨hs1, la, rfl⟩ : ∃ hs1 la, hs = hs1 ++ [la] := ⟨hs.dropLast, hs.getLast (List.ne_nil_of_length_pos h1), (List.dropLast_concat_getLast _).symm⟩
  rw [← tpV_snoc] at A
  cases hs1 with
  | nil =>
    exact R0_go (pos := pos) la.a m A.ok A.rep fun h' D => kk h' _ _ [] (m + 1) la rfl (List.Perm.refl _) (fun i a b h0 h1 h2 => by simp at h2) (A.next D)
  | cons ra tl =>
    have hlen : (tpV (ra :: tl)).length = tl.length + 1 := tpV_len _
    have hlt : tl.length < 100 := by rw [List.length_append, List.length_cons] at hL; simp at hL; omega
    have HP1 := HP.pre
    have pm : (ra :: (ra :: tl).set 0 la).Perm (ra :: tl ++ [la]) := by
      show (ra :: la :: tl).Perm (ra :: (tl ++ [la]))
      exact (List.perm_append_comm (l₁ := [la]) (l₂ := tl)).cons ra
    have ndp : ((ra :: (ra :: tl).set 0 la).map (·.a)).Nodup := (pm.map (·.a)).nodup_iff.mpr nd
    have nd2 : (((ra :: tl).set 0 la).map (·.a)).Nodup := (List.nodup_cons.mp ndp).2
    have hm2 : ∀ u ∈ (ra :: tl).set 0 la, u.o ∈ F := fun u hu => hm u (pm.mem_iff.mp (List.mem_cons_of_mem _ hu))
    cases tl with
    | nil =>
      refine Sa_go (pos := pos) la.a ra.a (tpV [ra]) m 0 rfl (by decide) rfl A.ok A.rep fun h' pp D => ?_
      have A1 := ((A.next D).pick [1, 0, 2] (l' := [_, _, _]) rfl (by decide)).freeze (l := [_]) (e := [_, _])
      refine U0e_go (pos := pp) 1 1 (by decide) A1.ok A1.rep fun h2 D2 => ?_
      have A2 := ((A1.next D2).thaw (l := [_]) (e := [_, _])).freeze (l := [_, _]) (e := [_])
      refine Sb_go (pos := pos) (G := G) la.a ra.a (tpV [ra]) m 0 rfl (by decide) rfl (tpV [la]) (m + 1) (Nat.zero_lt_one) 1 1 A2.ok A2.rep fun h3 pp3 D3 => ?_
      have A3 := ((A2.next D3).pick [1, 0] (l' := [_, _]) rfl (by decide)).freeze (l := [_]) (e := [_])
      refine V0_go (pos := pp3) (by decide) A3.ok A3.rep fun h4 D4 => ?_
      have A4 := (A3.next D4).thaw (l := [_]) (e := [_, _])
      refine Sc_go (pos := pos) (G := G) la.a ra.a (tpV [ra]) m 0 rfl (by decide) rfl (tpV [la]) (m + 1) (Nat.zero_lt_one) 1 1 (tpV [la]) (m + 1) (Nat.zero_lt_one) A4.ok A4.rep fun h5 D5 => ?_
      exact kk h5 _ _ [la] (m + 1) ra rfl pm (fun i a b h0 h1 h2 => by
        have := (List.getElem?_eq_some_iff.mp h2).1
        simp at this; omega) (A4.next D5)
    | cons y tl =>
      have hlt9 : tl.length + 1 < 100 := by rw [List.length_cons] at hlt; exact hlt
      refine Ra_go (pos := pos) la.a ra.a (tpV (ra :: y :: tl)) m (tl.length + 1) hlen hlt rfl A.ok A.rep fun h' pp D => ?_
      have A1 := ((A.next D).pick [1, 0, 2] (l' := [_, _, _]) rfl (by decide)).freeze (l := [_, _]) (e := [_])
      have H1 : Hol F ((ra :: y :: tl).set 0 la) ((ra :: y :: tl).set 0 la) 0 la := ⟨by rw [List.set_set], nd2, hm2, by simp⟩
      refine su_loop ((ra :: y :: tl).set 0 la) la (N + 1) N ri fl fr hl _ _ _ _ _ _ _ _ (tl.length + 1 + 1) ((ra :: y :: tl).set 0 la) _ _ (m + 1) pp _ h' (by omega) (by simp) (by omega) (Hol.app H1) HP1.su A1 ?_
      intro h2 N2 T2 hs2 p2 m2 tp2 c2 tc2 q2 tq2 k92 he2 H2 I2 hp2 A2
      have hl2 := H2.lt
      refine Rb_go (pos := pos) (G := G) la.a ra.a (tpV (ra :: y :: tl)) m (tl.length + 1) hlen hlt rfl (tpV hs2) m2 p2 (by rw [tpV_len]; exact hl2) (by omega) ((tl.length + 1 + 1 : Nat) : Int) c2 q2 A2.ok A2.rep fun h3 pp3 D3 => ?_
      have A3 : At w b1 b2 h₀ U ([(N, _)] ++ F) h3 (N2 + 1 + 0) [_, (hl, lsO ⟨(tpV hs2).set p2 la.v⟩ m2)] := (A2.next D3).pick [1, 0] (l' := [_, _]) rfl (by decide)
      rw [tpV_set] at A3
      refine sdV_loop ((ra :: y :: tl).set 0 la) la N2 (N + 1) N ri fl fr hl _ _ _ _ _ p2 (hs2.set p2 la) _ _ m2 pp3 _ h3 hp2 (by omega) ⟨by rw [List.set_set]; exact H2.perm, H2.nd, H2.mem, by rw [List.length_set]; exact hl2⟩ I2 A3 ?_
      intro h4 N4 T4 hs4 p4 m4 k64 k74 tp4 q4 tq4 pa4 hp4 H4 HP4 A4
      have A5 := A4.thaw (l := [_, _]) (e := [_])
      refine Rc_go (pos := pos) (G := G) la.a ra.a (tpV (ra :: y :: tl)) m (tl.length + 1) hlen hlt rfl (tpV hs2) m2 p2 (by rw [tpV_len]; exact hl2) (by omega) ((tl.length + 1 + 1 : Nat) : Int) c2 q2 (tpV hs4) m4 p4 (by rw [tpV_len]; exact H4.lt) hp4 tp4 q4 tq4 A5.ok A5.rep fun h5 D5 => ?_
      have A6 : At w b1 b2 h₀ U F h5 (N4 + 0 + 0) [(hl, lsO ⟨(tpV hs4).set p4 la.v⟩ m4)] := A5.next D5
      rw [tpV_set] at A6
      exact kk h5 _ _ _ m4 ra rfl ((H4.perm.cons ra).trans pm) HP4 A6
end
section
variable (w : World) (b1 b2 : Bool) (N Tn : Nat) (pos : Pos) (G : List GenState)
section
variable (aD aB aA bA aC cN : Addr) (bT bU bQ cK dK fK dL : Tok) (i j : Nat) (k0 : Int) (pl : Str) 
noncomputable abbrev Q1_a : Rw := [(aD, ⟨y6, none, .fields ⟨[vi (i : Int) 0, vi ((j + 1 : Nat) : Int) 0, vi 1 0]⟩, ⟨[]⟩⟩), (aB, (fO 5 [de w b1 b2 z14 bT (rf bA), de w b1 b2 z2 bU (rf aC), de w b1 b2 (S [107]) bQ (vi k0 cK), de w b1 b2 z36 dK (vs pl fK), de w b1 b2 z9 dL (rf cN)]))]
noncomputable abbrev Q1_z : Rw := [(aD, ⟨y6, none, .fields ⟨[vi ((i : Int) + 1) 0, vi (((j + 1 : Nat) : Int) - 1) 0, vi 1 0]⟩, ⟨[]⟩⟩), (aB, (fO 6 [de w b1 b2 z14 bT (rf bA), de w b1 b2 z2 bU (rf aC), de w b1 b2 (S [107]) bQ (vi k0 cK), de w b1 b2 z36 dK (vs pl fK), de w b1 b2 z9 dL (rf cN), de w b1 b2 z38 (Tn + 1) (vi (i : Int) Tn)]))]
noncomputable abbrev Q1_g : Ctx := ⟨.forLoop fl914.1 (rf aD) fl914.2.1 fl914.2.2 (eN907 aB), none, none, [(k907 aB ⟨914, 16, 914, 38⟩), (k921 aA ⟨939, 29, 939, 43⟩), callerB], none⟩
noncomputable abbrev Q1_h : Ctx := ⟨.call (rf 166) ⟨[(rf aC)], []⟩, none, none, [(.forLoop fl914.1 (rf aD) fl914.2.1 fl914.2.2 (eN907 aB), ⟨915, 20, 915, 33⟩), (k907 aB ⟨914, 16, 914, 38⟩), (k921 aA ⟨939, 29, 939, 43⟩), callerB], none⟩
noncomputable def Q1 : Res :=
  simC w b1 b2 N Tn 28 (dg 15 0x020221111111101) [] (Q1_g aD aB aA) pos (Q1_a w b1 b2 aD aB bA aC cN bT bU bQ cK dK fK dL i j k0 pl) 2 G
theorem Q1_run : RunK (Q1 w b1 b2 N Tn pos G aD aB aA bA aC cN bT bU bQ cK dK fK dL i j k0 pl) [0, 1] (Q1_h aD aB aA aC) 0 2 G (Q1_z w b1 b2 Tn aD aB bA aC cN bT bU bQ cK dK fK dL i j k0 pl) := by
  walk_at "r"
variable {w b1 b2 N Tn pos G aD aB aA bA aC cN bT bU bQ cK dK fK dL}
def Q1_go := goK (Q1_run w b1 b2 N Tn pos G aD aB aA bA aC cN bT bU bQ cK dK fK dL i j k0 pl) (sC rfl) (by decide)
end
section
variable (aD aB aA bA aC cN : Addr) (bT bU bQ cK dK fK dL : Tok) (i j : Nat) (k0 : Int) (pl : Str)  (N2 Tn2 : Nat) (am : Addr) (tr tw : Tok) (r : Int) (w' : Str) (ps : List Value) (mp : Nat) (hps : ps.length ≤ 900) (pj pn : Str) (tj : Tok) (g1 j1 : Nat) (hj : FnOk w b1 b2 (.call (rf 138) ⟨[(vs pl fK), (vs w' tw)], []⟩) ⟨.call (rf 138) ⟨[(vs pl fK), (vs w' tw)], []⟩, none, none, [(.forLoop fl914.1 (rf aD) fl914.2.1 fl914.2.2 (eN907 aB), ⟨916, 25, 916, 51⟩), (k907 aB ⟨914, 16, 914, 38⟩), (k921 aA ⟨939, 29, 939, 43⟩), callerB], none⟩ (N2 + 3) (Tn2 + 2) pj tj g1 j1) (tn : Tok) (g2 j2 : Nat) (hn : FnOk w b1 b2 (.call (rf 152) ⟨[(vs pj tj)], []⟩) ⟨.call (rf 152) ⟨[(vs pj tj)], []⟩, none, none, [(.forLoop fl914.1 (rf aD) fl914.2.1 fl914.2.2 (eN907 aB), ⟨916, 16, 916, 52⟩), (k907 aB ⟨914, 16, 914, 38⟩), (k921 aA ⟨939, 29, 939, 43⟩), callerB], none⟩ (N2 + (3 + g1)) (Tn2 + (2 + j1)) pn tn g2 j2) 
noncomputable abbrev Qk1_a : Rw := [(am, (tupO ⟨[vi r tr, vs w' tw]⟩ 0)), (aB, (fO 6 [de w b1 b2 z14 bT (rf bA), de w b1 b2 z2 bU (rf aC), de w b1 b2 (S [107]) bQ (vi k0 cK), de w b1 b2 z36 dK (vs pl fK), de w b1 b2 z9 dL (rf cN), de w b1 b2 z38 (Tn + 1) (vi (i : Int) Tn)])), (cN, (lsO ⟨ps⟩ (mp)))]
noncomputable abbrev Qk1_z : Rw := [(am, (tupO ⟨[vi r tr, vs w' tw]⟩ 0)), (aB, (fO 8 [de w b1 b2 z14 bT (rf bA), de w b1 b2 z2 bU (rf aC), de w b1 b2 (S [107]) bQ (vi k0 cK), de w b1 b2 z36 dK (vs pn tn), de w b1 b2 z9 dL (rf cN), de w b1 b2 z38 (Tn + 1) (vi (i : Int) Tn), de w b1 b2 z7 Tn2 (vi r tr), de w b1 b2 z8 (Tn2 + 1) (vs w' tw)])), (cN, (lsO ⟨ps ++ [(rf (N2 + (3 + g1 + g2)))]⟩ (mp + 1))), ((N2 + (3 + g1 + g2)), ⟨y3, none, .seq ⟨[(vi r tr), (vs pn tn)]⟩ 0, ⟨[]⟩⟩)]
noncomputable abbrev Qk1_h : Ctx := ⟨.forLoop fl914.1 (rf aD) fl914.2.1 fl914.2.2 (eN907 aB), none, none, [(k907 aB ⟨914, 16, 914, 38⟩), (k921 aA ⟨939, 29, 939, 43⟩), callerB], none⟩
noncomputable def Qk1 : Res :=
  (fun _ _ _ _ _ => nextC (Q1 w b1 b2 N Tn pos G aD aB aA bA aC cN bT bU bQ cK dK fK dL i j k0 pl) (.ok (.ret (rf am))) w b1 b2 N2 Tn2 104 (dg 53 0x12233332221010220022226441444044414440444144404410111) [cFn hj, cFn hn, cLApp 2 cN (ps) (mp) (rf (N2 + (3 + g1 + g2))) (by first | omega | (simp; omega)) (N2 + (3 + g1 + g2 + 1)) (Tn2 + (2 + j1 + j2 + 1))] (Qk1_a w b1 b2 Tn aB bA aC cN bT bU bQ cK dK fK dL i k0 pl am tr tw r w' ps mp) 3 G) hps pj pn tj tn
theorem Qk1_run : RunC (Qk1 w b1 b2 N Tn pos G aD aB aA bA aC cN bT bU bQ cK dK fK dL i j k0 pl N2 Tn2 am tr tw r w' ps mp hps pj pn tj g1 j1 hj tn g2 j2 hn) [0, 1, 2, 6] (Qk1_h aD aB aA) (3 + g1 + g2 + 1) (2 + j1 + j2 + 1) G (Qk1_z w b1 b2 Tn aB bA aC cN bT bU bQ cK dK dL i k0 N2 Tn2 am tr tw r w' ps mp pn g1 tn g2) := by
  walk_at "r"
variable {w b1 b2 N Tn pos G aD aB aA bA aC cN bT bU bQ cK dK fK dL N2 Tn2}
def Qk1_go := goC (Qk1_run w b1 b2 N Tn pos G aD aB aA bA aC cN bT bU bQ cK dK fK dL i j k0 pl N2 Tn2 am tr tw r w' ps mp hps pj pn tj g1 j1 hj tn g2 j2 hn) (sK rfl) (by decide)
end
section
variable (aD aB aA bA aC cN : Addr) (bT bU bQ cK dK fL dL eR gL eS fS eT fT : Tok) (i j : Nat) (k0 : Int) (pl : Str) (u0 : Int) (r0 : Int) (w0 : Str) 
noncomputable abbrev Q2_a : Rw := [(aD, ⟨y6, none, .fields ⟨[vi (i : Int) 0, vi ((j + 1 : Nat) : Int) 0, vi 1 0]⟩, ⟨[]⟩⟩), (aB, (fO 8 [de w b1 b2 z14 bT (rf bA), de w b1 b2 z2 bU (rf aC), de w b1 b2 (S [107]) bQ (vi k0 cK), de w b1 b2 z36 dK (vs pl fL), de w b1 b2 z9 dL (rf cN), de w b1 b2 z38 eR (vi u0 gL), de w b1 b2 z7 eS (vi r0 fS), de w b1 b2 z8 eT (vs w0 fT)]))]
noncomputable abbrev Q2_z : Rw := [(aD, ⟨y6, none, .fields ⟨[vi ((i : Int) + 1) 0, vi (((j + 1 : Nat) : Int) - 1) 0, vi 1 0]⟩, ⟨[]⟩⟩), (aB, (fO 8 [de w b1 b2 z14 bT (rf bA), de w b1 b2 z2 bU (rf aC), de w b1 b2 (S [107]) bQ (vi k0 cK), de w b1 b2 z36 dK (vs pl fL), de w b1 b2 z9 dL (rf cN), de w b1 b2 z38 eR (vi (i : Int) Tn), de w b1 b2 z7 eS (vi r0 fS), de w b1 b2 z8 eT (vs w0 fT)]))]
noncomputable abbrev Q2_g : Ctx := ⟨.forLoop fl914.1 (rf aD) fl914.2.1 fl914.2.2 (eN907 aB), none, none, [(k907 aB ⟨914, 16, 914, 38⟩), (k921 aA ⟨939, 29, 939, 43⟩), callerB], none⟩
noncomputable abbrev Q2_h : Ctx := ⟨.call (rf 166) ⟨[(rf aC)], []⟩, none, none, [(.forLoop fl914.1 (rf aD) fl914.2.1 fl914.2.2 (eN907 aB), ⟨915, 20, 915, 33⟩), (k907 aB ⟨914, 16, 914, 38⟩), (k921 aA ⟨939, 29, 939, 43⟩), callerB], none⟩
noncomputable def Q2 : Res :=
  simC w b1 b2 N Tn 28 (dg 15 0x020221111111101) [] (Q2_g aD aB aA) pos (Q2_a w b1 b2 aD aB bA aC cN bT bU bQ cK dK fL dL eR gL eS fS eT fT i j k0 pl u0 r0 w0) 2 G
theorem Q2_run : RunK (Q2 w b1 b2 N Tn pos G aD aB aA bA aC cN bT bU bQ cK dK fL dL eR gL eS fS eT fT i j k0 pl u0 r0 w0) [0, 1] (Q2_h aD aB aA aC) 0 2 G (Q2_z w b1 b2 Tn aD aB bA aC cN bT bU bQ cK dK fL dL eR eS fS eT fT i j k0 pl r0 w0) := by
  walk_at "r"
variable {w b1 b2 N Tn pos G aD aB aA bA aC cN bT bU bQ cK dK fL dL eR gL eS fS eT fT}
def Q2_go := goK (Q2_run w b1 b2 N Tn pos G aD aB aA bA aC cN bT bU bQ cK dK fL dL eR gL eS fS eT fT i j k0 pl u0 r0 w0) (sC rfl) (by decide)
end
section
variable (aD aB aA bA aC cN : Addr) (bT bU bQ cK dK fL dL eR gL eS fS eT fT : Tok) (i j : Nat) (k0 : Int) (pl : Str) (u0 : Int) (r0 : Int) (w0 : Str)  (N2 Tn2 : Nat) (am : Addr) (tr tw : Tok) (r : Int) (w' : Str) (ps : List Value) (mp : Nat) (hps : ps.length ≤ 900) (pj pn : Str) (tj : Tok) (g1 j1 : Nat) (hj : FnOk w b1 b2 (.call (rf 138) ⟨[(vs pl fL), (vs w' tw)], []⟩) ⟨.call (rf 138) ⟨[(vs pl fL), (vs w' tw)], []⟩, none, none, [(.forLoop fl914.1 (rf aD) fl914.2.1 fl914.2.2 (eN907 aB), ⟨916, 25, 916, 51⟩), (k907 aB ⟨914, 16, 914, 38⟩), (k921 aA ⟨939, 29, 939, 43⟩), callerB], none⟩ (N2 + 3) (Tn2 + 2) pj tj g1 j1) (tn : Tok) (g2 j2 : Nat) (hn : FnOk w b1 b2 (.call (rf 152) ⟨[(vs pj tj)], []⟩) ⟨.call (rf 152) ⟨[(vs pj tj)], []⟩, none, none, [(.forLoop fl914.1 (rf aD) fl914.2.1 fl914.2.2 (eN907 aB), ⟨916, 16, 916, 52⟩), (k907 aB ⟨914, 16, 914, 38⟩), (k921 aA ⟨939, 29, 939, 43⟩), callerB], none⟩ (N2 + (3 + g1)) (Tn2 + (2 + j1)) pn tn g2 j2) 
noncomputable abbrev Qk2_a : Rw := [(am, (tupO ⟨[vi r tr, vs w' tw]⟩ 0)), (aB, (fO 8 [de w b1 b2 z14 bT (rf bA), de w b1 b2 z2 bU (rf aC), de w b1 b2 (S [107]) bQ (vi k0 cK), de w b1 b2 z36 dK (vs pl fL), de w b1 b2 z9 dL (rf cN), de w b1 b2 z38 eR (vi (i : Int) Tn), de w b1 b2 z7 eS (vi r0 fS), de w b1 b2 z8 eT (vs w0 fT)])), (cN, (lsO ⟨ps⟩ (mp)))]
noncomputable abbrev Qk2_z : Rw := [(am, (tupO ⟨[vi r tr, vs w' tw]⟩ 0)), (aB, (fO 8 [de w b1 b2 z14 bT (rf bA), de w b1 b2 z2 bU (rf aC), de w b1 b2 (S [107]) bQ (vi k0 cK), de w b1 b2 z36 dK (vs pn tn), de w b1 b2 z9 dL (rf cN), de w b1 b2 z38 eR (vi (i : Int) Tn), de w b1 b2 z7 eS (vi r tr), de w b1 b2 z8 eT (vs w' tw)])), (cN, (lsO ⟨ps ++ [(rf (N2 + (3 + g1 + g2)))]⟩ (mp + 1))), ((N2 + (3 + g1 + g2)), ⟨y3, none, .seq ⟨[(vi r tr), (vs pn tn)]⟩ 0, ⟨[]⟩⟩)]
noncomputable abbrev Qk2_h : Ctx := ⟨.forLoop fl914.1 (rf aD) fl914.2.1 fl914.2.2 (eN907 aB), none, none, [(k907 aB ⟨914, 16, 914, 38⟩), (k921 aA ⟨939, 29, 939, 43⟩), callerB], none⟩
noncomputable def Qk2 : Res :=
  (fun _ _ _ _ _ => nextC (Q2 w b1 b2 N Tn pos G aD aB aA bA aC cN bT bU bQ cK dK fL dL eR gL eS fS eT fT i j k0 pl u0 r0 w0) (.ok (.ret (rf am))) w b1 b2 N2 Tn2 104 (dg 53 0x12233332221010220022226441444044414440444144404410111) [cFn hj, cFn hn, cLApp 2 cN (ps) (mp) (rf (N2 + (3 + g1 + g2))) (by first | omega | (simp; omega)) (N2 + (3 + g1 + g2 + 1)) (Tn2 + (2 + j1 + j2 + 1))] (Qk2_a w b1 b2 Tn aB bA aC cN bT bU bQ cK dK fL dL eR eS fS eT fT i k0 pl r0 w0 am tr tw r w' ps mp) 3 G) hps pj pn tj tn
theorem Qk2_run : RunC (Qk2 w b1 b2 N Tn pos G aD aB aA bA aC cN bT bU bQ cK dK fL dL eR gL eS fS eT fT i j k0 pl u0 r0 w0 N2 Tn2 am tr tw r w' ps mp hps pj pn tj g1 j1 hj tn g2 j2 hn) [0, 1, 2, 6] (Qk2_h aD aB aA) (3 + g1 + g2 + 1) (2 + j1 + j2 + 1) G (Qk2_z w b1 b2 Tn aB bA aC cN bT bU bQ cK dK dL eR eS eT i k0 N2 am tr tw r w' ps mp pn g1 tn g2) := by
  walk_at "r"
variable {w b1 b2 N Tn pos G aD aB aA bA aC cN bT bU bQ cK dK fL dL eR gL eS fS eT fT N2 Tn2}
def Qk2_go := goC (Qk2_run w b1 b2 N Tn pos G aD aB aA bA aC cN bT bU bQ cK dK fL dL eR gL eS fS eT fT i j k0 pl u0 r0 w0 N2 Tn2 am tr tw r w' ps mp hps pj pn tj g1 j1 hj tn g2 j2 hn) (sK rfl) (by decide)
end
section
variable (aD aB aA : Addr) (v : Int) 
noncomputable abbrev Qe_a : Rw := [(aD, ⟨y6, none, .fields ⟨[vi v 0, vi 0 0, vi 1 0]⟩, ⟨[]⟩⟩)]
noncomputable abbrev Qe_z : Rw := []
noncomputable abbrev Qe_g : Ctx := ⟨.forLoop fl914.1 (rf aD) fl914.2.1 fl914.2.2 (eN907 aB), none, none, [(k907 aB ⟨914, 16, 914, 38⟩), (k921 aA ⟨939, 29, 939, 43⟩), callerB], none⟩
noncomputable def Qe : Res :=
  simC w b1 b2 N Tn 18 [1, 0, 1, 1, 1, 1, 3] [] (Qe_g aD aB aA) pos (Qe_a aD v) 1 G
theorem Qe_run : RunF (Qe w b1 b2 N Tn pos G aD aB aA v) [] (.ok .next) 2 0 G Qe_z := by
  walk_at "r"
variable {w b1 b2 N Tn pos G aD aB aA}
def Qe_go := goF (Qe_run w b1 b2 N Tn pos G aD aB aA v) (sC rfl) (by decide)
end
end
noncomputable def spl : List Nat → List (List Nat)
  | [] => [[]]
  | c :: r => if c = 47 then [] :: spl r else match spl r with
    | p :: q => (c :: p) :: q
    | [] => [[c]]
theorem spl_one : ∀ (a : List Nat), 47 ∉ a → spl a = [a]
  | [], _ => rfl
  | c :: r, h => by
    have hc : c ≠ 47 := fun e => h (by simp [e])
    have := spl_one r fun q => h (List.mem_cons_of_mem _ q)
    simp [spl, hc, this]
theorem spl_cut : ∀ (a x : List Nat), 47 ∉ a → spl (a ++ 47 :: x) = a :: spl x
  | [], x, _ => by simp [spl]
  | c :: r, x, h => by
    have hc : c ≠ 47 := fun e => h (by simp [e])
    have := spl_cut r x fun q => h (List.mem_cons_of_mem _ q)
    simp [spl, hc, this]
theorem spl_gl3 {a b c : List Nat} (ha : 47 ∉ a) (hb : 47 ∉ b) (hc : 47 ∉ c) : spl (gl [a, b, c]) = [a, b, c] := by
  show spl (a ++ 47 :: (b ++ 47 :: c)) = _
  rw [spl_cut a _ ha, spl_cut b _ hb, spl_one c hc]
noncomputable def wkS (P : Plc) (s : Str) : Plc := match spl s.cps.toList with
  | [a, b, c] => wk P a b c
  | _ => P
theorem wkS_gl (P : Plc) {a b c : List Nat} (ha : 47 ∉ a) (hb : 47 ∉ b) (hc : 47 ∉ c) : wkS P (S (gl [a, b, c])) = wk P a b c := by
  unfold wkS
  rw [show (S (gl [a, b, c])).cps.toList = gl [a, b, c] from rfl, spl_gl3 ha hb hc]
noncomputable def walkL : Plc → List (Int × Str) → List (Int × Str)
  | _, [] => []
  | P, (r, s) :: l => (r, plT (wkS P s)) :: walkL (wkS P s) l
def WayOk (s : Str) : Prop := ∃ a b c, s = S (gl [a, b, c]) ∧ 47 ∉ a ∧ 47 ∉ b ∧ 47 ∉ c ∧ a.length ≤ 4 ∧ b.length ≤ 4 ∧ c.length ≤ 4
structure Bd (i : Nat) (P : Plc) : Prop where
  ok : PlOk P
  len : P.2.length ≤ 3 * i
  bd : wt P.2 ≤ 15 * i
theorem stp_len (ns : List (List Nat)) (c : List Nat) : (stp ns c).length ≤ ns.length + 1 := by
  unfold stp
  split
  · omega
  · split
    · rw [List.length_dropLast]; omega
    · simp
theorem fold_len (ps : List (List Nat)) : ∀ ns, (ps.foldl stp ns).length ≤ ns.length + ps.length := by
  induction ps with
  | nil => intro ns; simp
  | cons a r ih =>
    intro ns
    have h1 := ih (stp ns a)
    have h2 := stp_len ns a
    rw [List.foldl_cons, List.length_cons]; omega
theorem Bd.step {i : Nat} {P : Plc} (B : Bd i P) {a b c : List Nat} (ha : 47 ∉ a) (hb : 47 ∉ b) (hc : 47 ∉ c) (la : a.length ≤ 4) (lb : b.length ≤ 4) (lc : c.length ≤ 4) : Bd (i + 1) (wk P a b c) := by
  have h0 : wt [] = 0 := rfl
  have hw : wt [a, b, c] ≤ 15 := by rw [wt_cons, wt_cons, wt_cons, h0]; omega
  have hwt : ∀ ns, wt ([a, b, c].foldl stp ns) ≤ wt ns + 15 := fun ns => Nat.le_trans (wt_fold [a, b, c] ns) (by omega)
  have hln : ∀ ns, ([a, b, c].foldl stp ns).length ≤ ns.length + 3 := fun ns => fold_len [a, b, c] ns
  refine ⟨wk_ok B.ok ha hb hc, ?_, ?_⟩
  · have h1 := hln []
    have h2 := hln P.2
    have h3 := B.len
    rw [show ([] : List (List Nat)).length = 0 from rfl] at h1
    unfold wk
    split
    · split <;> (show ([a, b, c].foldl stp []).length ≤ 3 * (i + 1); omega)
    · show ([a, b, c].foldl stp P.2).length ≤ 3 * (i + 1); omega
  · have h1 := hwt []
    have h2 := hwt P.2
    have h3 := B.bd
    unfold wk
    split
    · split <;> (show Mine.wt ([a, b, c].foldl stp []) ≤ 15 * (i + 1); omega)
    · show Mine.wt ([a, b, c].foldl stp P.2) ≤ 15 * (i + 1); omega
noncomputable abbrev ledF5 (w : World) (b1 b2 : Bool) (k1 k2 k3 k4 k5 k6 : Tok) (wl hl pl_ : Addr) (k0 : Int) (pl : Str) (tp : Tok) : Obj := (fO 5 [de w b1 b2 z14 k1 (Value.ref wl), de w b1 b2 z2 k2 (Value.ref hl), de w b1 b2 (S [107]) k3 (Value.int k0 k4), de w b1 b2 z36 k5 (Value.str pl tp), de w b1 b2 z9 k6 (Value.ref pl_)])
noncomputable abbrev ledF8 (w : World) (b1 b2 : Bool) (k1 k2 k3 k4 k5 k6 k7 k8 k9 : Tok) (wl hl pl_ : Addr) (k0 : Int) (pl : Str) (tp : Tok) (u0 : Int) (tu : Tok) (r0 : Int) (tr : Tok) (w0 : Str) (tw : Tok) : Obj := (fO 8 [de w b1 b2 z14 k1 (Value.ref wl), de w b1 b2 z2 k2 (Value.ref hl), de w b1 b2 (S [107]) k3 (Value.int k0 k4), de w b1 b2 z36 k5 (Value.str pl tp), de w b1 b2 z9 k6 (Value.ref pl_), de w b1 b2 z38 k7 (Value.int u0 tu), de w b1 b2 z7 k8 (Value.int r0 tr), de w b1 b2 z8 k9 (Value.str w0 tw)])
noncomputable abbrev ri1 (a b : Int) : Obj := ⟨y6, none, .fields ⟨[Value.int a 0, Value.int b 0, Value.int 1 0]⟩, ⟨[]⟩⟩
noncomputable abbrev ledCq (ri fl fr : Addr) : Ctx := ⟨.forLoop fl914.1 (Value.ref ri) fl914.2.1 fl914.2.2 (eN907 fl), none, none, [(k907 fl ⟨914, 16, 914, 38⟩), (k921 fr ⟨939, 29, 939, 43⟩), callerB], none⟩
section
variable {w : World} {b1 b2 : Bool} {h₀ : Heap} {U : List Addr} {d : Drawn} {os : OsState} {R : Result → Shared → Prop} {G : List GenState} {F : Rw}
theorem pop_loop2 (t0 : Told w b1 b2) (ri fl fr wl hl pl : Addr) (k1 k2 k3 k4 k5 k6 k7 k8 k9 : Tok) (k0 : Int) : ∀ (j i : Nat) (hs ps : List Tp) (P : Plc) (N Tn mh mp : Nat) (pos : Pos) (tp tu tr tw : Tok) (u0 r0 : Int) (w0 : Str) (h : Heap), hs.length = j → i + j ≤ 8 → ps.length = i →
    Bd i P → HeapP tlt hs → (hs.map (·.a)).Nodup → (∀ u ∈ hs, u.o ∈ F) → (∀ u ∈ hs, WayOk u.s) →
    At w b1 b2 h₀ U (tpF ps ++ F) h N [(ri, ri1 (i : Int) (j : Int)), (fl, ledF8 w b1 b2 k1 k2 k3 k4 k5 k6 k7 k8 k9 wl hl pl k0 (plT P) tp u0 tu r0 tr w0 tw), (hl, lsO ⟨tpV hs⟩ mh), (pl, lsO ⟨tpV ps⟩ mp)] →
    (∀ h' N' T' (ps' out : List Tp) (P' : Plc) (m' mh' : Nat) tp' tu' tr' tw' u0' r0' w0', out.Perm hs → out.Pairwise (fun x y => tlt y x = false) → ps'.map Tp.k = ps.map Tp.k ++ walkL P (out.map Tp.k) →
      At w b1 b2 h₀ U (tpF ps' ++ F) h' N' [(fl, ledF8 w b1 b2 k1 k2 k3 k4 k5 k6 k7 k8 k9 wl hl pl k0 (plT P') tp' u0' tu' r0' tr' w0' tw'), (hl, lsO ⟨tpV []⟩ mh'), (pl, lsO ⟨tpV ps'⟩ m')] → R (.ok .next) ⟨h', ⟨G⟩, d, T', os⟩) →
    wpCode (mdl w) (ledCq ri fl fr) R pos ⟨h, ⟨G⟩, d, Tn, os⟩ := by
  intro j
  induction j with
  | zero =>
    intro i hs ps P N Tn mh mp pos tp tu tr tw u0 r0 w0 h hj hij hps B HP nd hm hw A kk
    have := List.length_eq_zero_iff.mp hj
    subst this
    have A1 := A.freeze (l := [(ri, ri1 (i : Int) 0)]) (e := [_, _, _])
    exact Qe_go (R := R) (pos := pos) _ A1.ok A1.rep fun h' D => kk h' _ _ ps [] P mp mh tp tu tr tw u0 r0 w0 (List.Perm.refl _) List.Pairwise.nil (by simp [walkL]) ((A1.next D).thaw (l := []))
  | succ j ih =>
    intro i hs ps P N Tn mh mp pos tp tu tr tw u0 r0 w0 h hj hij hps B HP nd hm hw A kk
    have hnd := nd
    have A1 := (A.pick [0, 1, 2, 3] (l' := [_, _, _, _]) rfl (by decide)).freeze (l := [(ri, ri1 (i : Int) ((j + 1 : Nat) : Int)), (fl, ledF8 w b1 b2 k1 k2 k3 k4 k5 k6 k7 k8 k9 wl hl pl k0 (plT P) tp u0 tu r0 tr w0 tw)]) (e := [(hl, lsO ⟨tpV hs⟩ mh), (pl, lsO ⟨tpV ps⟩ mp)])
    refine Q2_go (pos := pos) (aD := ri) (aB := fl) (aA := fr) (bA := wl) (aC := hl) (cN := pl) i j k0 (plT P) u0 r0 w0 A1.ok A1.rep fun h' pp D => ?_
    have A2 := (((A1.next D).thaw (l := [_, _]) (e := [_, _])).pick [2, 0, 1, 3] (l' := [_, _, _, _]) rfl (by decide)).freeze (l := [_]) (e := [_, _, _])
    refine pop_go hs hl ri fl fr _ _ mh pp h' (by omega) (by omega) (fun u hu => List.mem_append_right _ (List.mem_append_right _ (hm u hu))) nd HP A2 ?_
    intro h2 N2 T2 hs2 m2 t ht0 hpm HP2 A3
    have ht : t ∈ hs := List.mem_of_getElem? ht0
    obtain ⟨a, b, c, ew, ha, hb, hc, la, lb, lc⟩ := hw t ht
    have hroot := HP.root tlt_ok ht0
    have A4 := ((A3.thaw (l := [_]) (e := [_, _, _])).pick [2, 3, 0, 1] (l' := [_, _, _, _]) rfl (by decide)).freeze (l := [_, (pl, lsO ⟨tpV ps⟩ mp)]) (e := [(hl, lsO ⟨tpV hs2⟩ m2), (ri, ri1 ((i : Int) + 1) (((j + 1 : Nat) : Int) - 1))])
    obtain ⟨F2, pf, A5⟩ := A4.take (y := t.o) (List.mem_append_right _ (List.mem_append_right _ (hm t ht)))
    have A6 := A5.pick [2, 0, 1] (l' := [_, _, _]) rfl (by decide)
    have hlen : (P.1 ++ gl P.2).length + (gl [a, b, c]).length ≤ 790 := by
      have h1 := gl_le P.2
      have h2 := B.bd
      have h3 : P.1.length ≤ 2 := by rcases B.ok.root with e | e <;> rw [e] <;> decide
      have h4 : (gl [a, b, c]).length = a.length + (b.length + c.length + 2) := by
        show (a ++ 47 :: (b ++ 47 :: c)).length = _
        simp; omega
      rw [List.length_append]; omega
    obtain ⟨tj, g1, j1, hj⟩ := joinOk t0 ri fl fr P B.ok a b c ha hb hc hlen tp t.ts (N2 + 3) (T2 + 2)
    obtain ⟨tn, g2, j2, hn⟩ := normOk t0 ri fl fr P B.ok a b c ha hb hc hlen (by have := B.len; omega) tj (N2 + (3 + g1)) (T2 + (2 + j1))
    rw [← ew] at hj
    refine Qk2_go (pos := pos) (G := G) (N2 := N2) (Tn2 := T2) (aD := ri) (aB := fl) (aA := fr) (bA := wl) (aC := hl) (cN := pl) i j k0 (plT P) u0 r0 w0 t.a t.tr t.ts t.r t.s (tpV ps) mp (by rw [tpV_len]; omega) _ _ tj g1 j1 hj tn g2 j2 hn A6.ok A6.rep fun h3 pp3 D3 => ?_
    let u : Tp := ⟨N2 + (3 + g1 + g2), t.r, t.tr, plT (wk P a b c), tn⟩
    have A7 := ((A6.next D3).pick [1, 2, 3, 0] (l' := [_, (pl, lsO ⟨tpV ps ++ [u.v]⟩ (mp + 1)), u.o, t.o]) rfl (by decide)).give (l := [_, _, _]) (y := t.o) pf
    have A8 := (((A7.thaw (l := [_, _, _]) (e := [_, _])).pick [4, 0, 3, 1, 2] (l' := [_, _, _, _, _]) rfl (by decide)).freeze (l := [_, _, _, _]) (e := [u.o])).permF (tpF_snoc ps u F)
    rw [tpV_snoc] at A8
    have e1 : ((i : Int) + 1) = ((i + 1 : Nat) : Int) := by omega
    have e2 : (((j + 1 : Nat) : Int) - 1) = (j : Int) := by omega
    rw [e1, e2] at A8
    have ndp : ((t :: hs2).map (·.a)).Nodup := (hpm.map (·.a)).nodup_iff.mpr nd
    have hm2 : ∀ v ∈ hs2, v ∈ hs := fun v hv => hpm.mem_iff.mp (List.mem_cons_of_mem _ hv)
    have hl2 : hs2.length = j := by have := hpm.length_eq; rw [List.length_cons] at this; omega
    have hwk : wkS P t.s = wk P a b c := by rw [ew]; exact wkS_gl P ha hb hc
    refine ih (i + 1) hs2 (ps ++ [u]) (wk P a b c) _ _ m2 (mp + 1) pp3 _ _ _ _ _ _ _ h3 hl2 (by omega) (by rw [List.length_append]; simp [hps]) (B.step ha hb hc la lb lc) HP2 (List.nodup_cons.mp ndp).2 (fun v hv => hm v (hm2 v hv)) (fun v hv => hw v (hm2 v hv)) A8 ?_
    intro h' N' T' ps' out P' m' mh' tp' tu' tr' tw' u0' r0' w0' q1 q2 q3 q4
    refine kk h' N' T' ps' (t :: out) P' m' mh' tp' tu' tr' tw' u0' r0' w0' ((q1.cons t).trans hpm) (List.pairwise_cons.mpr ⟨fun v hv => ?_, q2⟩) ?_ q4
    · obtain ⟨n, hn⟩ := List.getElem?_of_mem (hm2 v (q1.mem_iff.mp hv))
      exact hroot n n (Nat.le_refl _) v hn
    · rw [q3, List.map_append, List.append_assoc]
      show _ ++ ((t.r, plT (wk P a b c)) :: walkL (wk P a b c) (out.map Tp.k)) = _ ++ ((t.r, plT (wkS P t.s)) :: walkL (wkS P t.s) (out.map Tp.k))
      rw [hwk]
theorem pop_loop1 (t0 : Told w b1 b2) (ri fl fr wl hl pl : Addr) (k1 k2 k3 k4 k5 k6 : Tok) (k0 : Int) (j : Nat) (hs : List Tp) (N Tn mh mp : Nat) (pos : Pos) (tp : Tok) (h : Heap) (hj : hs.length = j + 1) (hij : j + 1 ≤ 8)
    (HP : HeapP tlt hs) (nd : (hs.map (·.a)).Nodup) (hm : ∀ u ∈ hs, u.o ∈ F) (hw : ∀ u ∈ hs, WayOk u.s)
    (A : At w b1 b2 h₀ U (tpF [] ++ F) h N [(ri, ri1 ((0 : Nat) : Int) ((j + 1 : Nat) : Int)), (fl, ledF5 w b1 b2 k1 k2 k3 k4 k5 k6 wl hl pl k0 (plT ([47], [])) tp), (hl, lsO ⟨tpV hs⟩ mh), (pl, lsO ⟨tpV []⟩ mp)])
    (kk : ∀ h' N' T' (ps' out : List Tp) (P' : Plc) (m' mh' : Nat) k7' k8' k9' tp' tu' tr' tw' u0' r0' w0', out.Perm hs → out.Pairwise (fun x y => tlt y x = false) → ps'.map Tp.k = walkL ([47], []) (out.map Tp.k) →
      At w b1 b2 h₀ U (tpF ps' ++ F) h' N' [(fl, ledF8 w b1 b2 k1 k2 k3 k4 k5 k6 k7' k8' k9' wl hl pl k0 (plT P') tp' u0' tu' r0' tr' w0' tw'), (hl, lsO ⟨tpV []⟩ mh'), (pl, lsO ⟨tpV ps'⟩ m')] → R (.ok .next) ⟨h', ⟨G⟩, d, T', os⟩) :
    wpCode (mdl w) (ledCq ri fl fr) R pos ⟨h, ⟨G⟩, d, Tn, os⟩ := by
    obtain ⟨P, eP⟩ : ∃ P : Plc, P = ([47], []) := ⟨_, rfl⟩
    obtain ⟨i, ei⟩ : ∃ i : Nat, i = 0 := ⟨_, rfl⟩
    obtain ⟨ps, eps⟩ : ∃ ps : List Tp, ps = [] := ⟨_, rfl⟩
    rw [← eP, ← ei, ← eps] at A
    have B : Bd i P := by subst eP; exact ⟨⟨.inl rfl, fun _ q => nomatch q⟩, Nat.zero_le _, Nat.zero_le _⟩
    have hps : ps.length = i := by rw [eps, ei]; rfl
    have hnd := nd
    have A1 := (A.pick [0, 1, 2, 3] (l' := [_, _, _, _]) rfl (by decide)).freeze (l := [(ri, ri1 (i : Int) ((j + 1 : Nat) : Int)), (fl, ledF5 w b1 b2 k1 k2 k3 k4 k5 k6 wl hl pl k0 (plT P) tp)]) (e := [(hl, lsO ⟨tpV hs⟩ mh), (pl, lsO ⟨tpV ps⟩ mp)])
    refine Q1_go (pos := pos) (aD := ri) (aB := fl) (aA := fr) (bA := wl) (aC := hl) (cN := pl) i j k0 (plT P) A1.ok A1.rep fun h' pp D => ?_
    have A2 := (((A1.next D).thaw (l := [_, _]) (e := [_, _])).pick [2, 0, 1, 3] (l' := [_, _, _, _]) rfl (by decide)).freeze (l := [_]) (e := [_, _, _])
    refine pop_go hs hl ri fl fr _ _ mh pp h' (by omega) (by omega) (fun u hu => List.mem_append_right _ (List.mem_append_right _ (hm u hu))) nd HP A2 ?_
    intro h2 N2 T2 hs2 m2 t ht0 hpm HP2 A3
    have ht : t ∈ hs := List.mem_of_getElem? ht0
    obtain ⟨a, b, c, ew, ha, hb, hc, la, lb, lc⟩ := hw t ht
    have hroot := HP.root tlt_ok ht0
    have A4 := ((A3.thaw (l := [_]) (e := [_, _, _])).pick [2, 3, 0, 1] (l' := [_, _, _, _]) rfl (by decide)).freeze (l := [_, (pl, lsO ⟨tpV ps⟩ mp)]) (e := [(hl, lsO ⟨tpV hs2⟩ m2), (ri, ri1 ((i : Int) + 1) (((j + 1 : Nat) : Int) - 1))])
    obtain ⟨F2, pf, A5⟩ := A4.take (y := t.o) (List.mem_append_right _ (List.mem_append_right _ (hm t ht)))
    have A6 := A5.pick [2, 0, 1] (l' := [_, _, _]) rfl (by decide)
    have hlen : (P.1 ++ gl P.2).length + (gl [a, b, c]).length ≤ 790 := by
      have h1 := gl_le P.2
      have h2 := B.bd
      have h3 : P.1.length ≤ 2 := by rcases B.ok.root with e | e <;> rw [e] <;> decide
      have h4 : (gl [a, b, c]).length = a.length + (b.length + c.length + 2) := by
        show (a ++ 47 :: (b ++ 47 :: c)).length = _
        simp; omega
      rw [List.length_append]; omega
    obtain ⟨tj, g1, j1, hj⟩ := joinOk t0 ri fl fr P B.ok a b c ha hb hc hlen tp t.ts (N2 + 3) (T2 + 2)
    obtain ⟨tn, g2, j2, hn⟩ := normOk t0 ri fl fr P B.ok a b c ha hb hc hlen (by have := B.len; omega) tj (N2 + (3 + g1)) (T2 + (2 + j1))
    rw [← ew] at hj
    refine Qk1_go (pos := pos) (G := G) (N2 := N2) (Tn2 := T2) (aD := ri) (aB := fl) (aA := fr) (bA := wl) (aC := hl) (cN := pl) i j k0 (plT P) t.a t.tr t.ts t.r t.s (tpV ps) mp (by rw [tpV_len]; omega) _ _ tj g1 j1 hj tn g2 j2 hn A6.ok A6.rep fun h3 pp3 D3 => ?_
    let u : Tp := ⟨N2 + (3 + g1 + g2), t.r, t.tr, plT (wk P a b c), tn⟩
    have A7 := ((A6.next D3).pick [1, 2, 3, 0] (l' := [_, (pl, lsO ⟨tpV ps ++ [u.v]⟩ (mp + 1)), u.o, t.o]) rfl (by decide)).give (l := [_, _, _]) (y := t.o) pf
    have A8 := (((A7.thaw (l := [_, _, _]) (e := [_, _])).pick [4, 0, 3, 1, 2] (l' := [_, _, _, _, _]) rfl (by decide)).freeze (l := [_, _, _, _]) (e := [u.o])).permF (tpF_snoc ps u F)
    rw [tpV_snoc] at A8
    have e1 : ((i : Int) + 1) = ((i + 1 : Nat) : Int) := by omega
    have e2 : (((j + 1 : Nat) : Int) - 1) = (j : Int) := by omega
    rw [e1, e2] at A8
    have ndp : ((t :: hs2).map (·.a)).Nodup := (hpm.map (·.a)).nodup_iff.mpr nd
    have hm2 : ∀ v ∈ hs2, v ∈ hs := fun v hv => hpm.mem_iff.mp (List.mem_cons_of_mem _ hv)
    have hl2 : hs2.length = j := by have := hpm.length_eq; rw [List.length_cons] at this; omega
    have hwk : wkS P t.s = wk P a b c := by rw [ew]; exact wkS_gl P ha hb hc
    refine pop_loop2 t0 ri fl fr wl hl pl k1 k2 k3 k4 k5 k6 _ _ _ k0 j (i + 1) hs2 (ps ++ [u]) (wk P a b c) _ _ m2 (mp + 1) pp3 _ _ _ _ _ _ _ h3 hl2 (by omega) (by rw [List.length_append]; simp [hps]) (B.step ha hb hc la lb lc) HP2 (List.nodup_cons.mp ndp).2 (fun v hv => hm v (hm2 v hv)) (fun v hv => hw v (hm2 v hv)) A8 ?_
    intro h' N' T' ps' out P' m' mh' tp' tu' tr' tw' u0' r0' w0' q1 q2 q3 q4
    refine kk h' N' T' ps' (t :: out) P' m' mh' _ _ _ tp' tu' tr' tw' u0' r0' w0' ((q1.cons t).trans hpm) (List.pairwise_cons.mpr ⟨fun v hv => ?_, q2⟩) ?_ q4
    · obtain ⟨n, hn⟩ := List.getElem?_of_mem (hm2 v (q1.mem_iff.mp hv))
      exact hroot n n (Nat.le_refl _) v hn
    · rw [q3, ← eP, eps]
      show (t.r, plT (wk P a b c)) :: walkL (wk P a b c) (out.map Tp.k) = ((t.r, plT (wkS P t.s)) :: walkL (wkS P t.s) (out.map Tp.k))
      rw [hwk]
end
section
variable (w : World) (b1 b2 : Bool) (N Tn : Nat) (pos : Pos) (G : List GenState)
section
variable (bB aH aE aA aF bR aJ : Addr) (aM aN aO aQ aP : Tok) (am : Addr) (tr tw : Tok) (so : List Value) (n k : Nat) (r : Int) (c : Nat) (p2 : List Nat) (hp1 : p2 ≠ []) (hc : ([c] == [47]) = false) (hp : p2.length ≤ 800) (hx : so[k]? = some (rf am)) (rt : Str) (ps : List Str) (ts : List Tok) (js : Nat) (hsp : SplitOk w (S (c :: p2)) tw (S [47]) (Tn + 5) (N + 4) (Tn + 6) ps ts js) 
noncomputable abbrev D1a_a : Rw := [(bB, (lsO ⟨so⟩ (n))), (aH, (liO bB (k : Int))), (am, (tupO ⟨[vi r tr, vs (S (c :: p2)) tw]⟩ 0)), (aE, (fO 4 [de w b1 b2 z3 aM (rf aF), de w b1 b2 z12 aN (rf bR), de w b1 b2 z11 aO (vs rt aQ), de w b1 b2 z9 aP (rf aJ)]))]
noncomputable abbrev D1a_z : Rw := [(bB, (lsO ⟨so⟩ (n))), (aH, (liO bB ((k : Int) + 1))), (am, (tupO ⟨[vi r tr, vs (S (c :: p2)) tw]⟩ 0)), (aE, (fO 6 [de w b1 b2 z3 aM (rf aF), de w b1 b2 z12 aN (rf bR), de w b1 b2 z11 aO (vs rt aQ), de w b1 b2 z9 aP (rf aJ), de w b1 b2 z7 Tn (vi r tr), de w b1 b2 z8 (Tn + 1) (vs (S (c :: p2)) tw)])), ((N + 4), (lsO ⟨zipV ps ts⟩ 0)), ((N + 5), ⟨y5, none, .fields ⟨[(rf (N + 4)), (vi 0 0)]⟩, ⟨[]⟩⟩)]
noncomputable abbrev D1a_g : Ctx := ⟨.forLoop fl922.1 (rf aH) fl922.2.1 fl922.2.2 (eN914 aE), none, none, [(k914 aE ⟨922, 21, 922, 34⟩), (k921 aA ⟨939, 47, 939, 62⟩), callerB], none⟩
noncomputable abbrev D1a_h : Ctx := ⟨.forLoop fl926.1 (rf (N + 5)) fl926.2.1 fl926.2.2 (eN914 aE), none, none, [(.forLoop fl922.1 (rf aH) fl922.2.1 fl922.2.2 (eN914 aE), ⟨926, 20, 926, 34⟩), (k914 aE ⟨922, 21, 922, 34⟩), (k921 aA ⟨939, 47, 939, 62⟩), callerB], none⟩
noncomputable def D1a : Res :=
  (fun _ _ _ _ => simC w b1 b2 N Tn 94 (dg 48 0xa90991411444447553555055535550555355505530333212) [cItNext 1 0 aH bB (so) (n) k (rf am) hx N Tn, cSlS 7 (S (c :: p2)) tw (N + 3) none (some (1, (Tn + 2))) ([c]) (by simp [Str.length]) (ds1 hp1) (by simp [Str.length]; omega) (N + 4) (Tn + 3), cEqS (S ([c])) (Tn + 3) (S [47]) (Tn + 4) false hc (N + 4) (Tn + 5), cSplit hsp] (D1a_g aH aE aA) pos (D1a_a w b1 b2 bB aH aE aF bR aJ aM aN aO aQ aP am tr tw so n k r c p2 rt) 4 G) hp ps ts js
theorem D1a_run : RunK (D1a w b1 b2 N Tn pos G bB aH aE aA aF bR aJ aM aN aO aQ aP am tr tw so n k r c p2 hp1 hc hp hx rt ps ts js hsp) [0, 1, 2, 3, 8, 9] (D1a_h N aH aE aA) 6 (6 + js) G (D1a_z w b1 b2 N Tn bB aH aE aF bR aJ aM aN aO aQ aP am tr tw so n k r c p2 rt ps ts) := by
  walk_at "r"
variable {w b1 b2 N Tn pos G bB aH aE aA aF bR aJ aM aN aO aQ aP}
def D1a_go := goK (D1a_run w b1 b2 N Tn pos G bB aH aE aA aF bR aJ aM aN aO aQ aP am tr tw so n k r c p2 hp1 hc hp hx rt ps ts js hsp) (sC rfl) (by decide)
end
section
variable (bB aH aE aA aF bR aJ : Addr) (aM aN aO aQ aP : Tok) (am : Addr) (tr tw : Tok) (so : List Value) (n k : Nat) (r : Int) (c : Nat) (p2 : List Nat) (hp1 : p2 ≠ []) (hc : ([c] == [47]) = false) (hp : p2.length ≤ 800) (hx : so[k]? = some (rf am)) (rt : Str) (ps : List Str) (ts : List Tok) (js : Nat) (hsp : SplitOk w (S (c :: p2)) tw (S [47]) (Tn + 5) (N + 4) (Tn + 6) ps ts js)  (N2 Tn2 : Nat) (bD : Tok) (nla : Addr) (nl : List (Str × Tok)) (m : Nat) (hnl : (nl.map (·.1)).toArray.foldl (· + ·.length + (S [47]).length) 0 ≤ 1000) (pls : List Value) (mp : Nat) (hpls : pls.length ≤ 900) (rt' : Str) (trt : Tok) (nm' : Str) (tnm : Tok) (jt : Str) (tj : Tok) (jj : Nat) (hjr : joinR (S [47]) nl (Tn2 + 1) = (jt, tj, jj)) (hjt : jt.length ≤ 1000) (ta : Tok) (ja : Nat) (ha : AddOk w rt' trt jt tj N2 (Tn2 + (1 + jj)) ta ja) 
noncomputable abbrev KD1a_a : Rw := [(aE, (fO 7 [de w b1 b2 z3 aM (rf aF), de w b1 b2 z12 aN (rf nla), de w b1 b2 z11 aO (vs rt' trt), de w b1 b2 z9 aP (rf aJ), de w b1 b2 z7 Tn (vi r tr), de w b1 b2 z8 (Tn + 1) (vs (S (c :: p2)) tw), de w b1 b2 z15 bD (vs nm' tnm)])), (aJ, (lsO ⟨pls⟩ (mp))), (nla, (lsO ⟨strValues nl⟩ m))]
noncomputable abbrev KD1a_z : Rw := [(aE, (fO 7 [de w b1 b2 z3 aM (rf aF), de w b1 b2 z12 aN (rf nla), de w b1 b2 z11 aO (vs rt' trt), de w b1 b2 z9 aP (rf aJ), de w b1 b2 z7 Tn (vi r tr), de w b1 b2 z8 (Tn + 1) (vs (S (c :: p2)) tw), de w b1 b2 z15 bD (vs nm' tnm)])), (aJ, (lsO ⟨pls ++ [(rf N2)]⟩ (mp + 1))), (nla, (lsO ⟨strValues nl⟩ m)), (N2, ⟨y3, none, .seq ⟨[(vi r tr), (vs (rt' ++ jt) ta)]⟩ 0, ⟨[]⟩⟩)]
noncomputable abbrev KD1a_h : Ctx := ⟨.forLoop fl922.1 (rf aH) fl922.2.1 fl922.2.2 (eN914 aE), none, none, [(k914 aE ⟨922, 21, 922, 34⟩), (k921 aA ⟨939, 47, 939, 62⟩), callerB], none⟩
noncomputable def KD1a : Res :=
  (fun _ _ => nextC (D1a w b1 b2 N Tn pos G bB aH aE aA aF bR aJ aM aN aO aQ aP am tr tw so n k r c p2 hp1 hc hp hx rt ps ts js hsp) (.ok .next) w b1 b2 N2 Tn2 30 [1, 2, 2, 2, 2, 1, 1, 1, 1, 1, 1] [cJoinA 2 (S [47]) Tn2 nla nl (m) jt tj jj N2 (Tn2 + 1) hjr hnl hjt, cAddS ha, cLApp 1 aJ (pls) (mp) (rf N2) (by first | omega | (simp; omega)) (N2 + 1) (Tn2 + (1 + jj + ja))] (KD1a_a w b1 b2 Tn aE aF aJ aM aN aO aP tr tw r c p2 bD nla nl m pls mp rt' trt nm' tnm) 3 G) hpls ta
theorem KD1a_run : RunC (KD1a w b1 b2 N Tn pos G bB aH aE aA aF bR aJ aM aN aO aQ aP am tr tw so n k r c p2 hp1 hc hp hx rt ps ts js hsp N2 Tn2 bD nla nl m hnl pls mp hpls rt' trt nm' tnm jt tj jj hjr hjt ta ja ha) [0, 1, 2, 3] (KD1a_h aH aE aA) 1 (1 + jj + ja) G (KD1a_z w b1 b2 Tn aE aF aJ aM aN aO aP tr tw r c p2 N2 bD nla nl m pls mp rt' trt nm' tnm jt ta) := by
  walk_at "r"
variable {w b1 b2 N Tn pos G bB aH aE aA aF bR aJ aM aN aO aQ aP N2 Tn2 bD}
def KD1a_go := goC (KD1a_run w b1 b2 N Tn pos G bB aH aE aA aF bR aJ aM aN aO aQ aP am tr tw so n k r c p2 hp1 hc hp hx rt ps ts js hsp N2 Tn2 bD nla nl m hnl pls mp hpls rt' trt nm' tnm jt tj jj hjr hjt ta ja ha) (sK rfl) (by decide)
end
section
variable (bB aH aE aA aF bR aJ : Addr) (aM aN aO aQ aP : Tok) (am : Addr) (tr tw : Tok) (so : List Value) (n k : Nat) (r : Int) (c : Nat) (p2 : List Nat) (hc : ([c] == [47]) = false) (hp : p2.length ≤ 800) (hx : so[k]? = some (rf am)) (rt : Str) (ps : List Str) (ts : List Tok) (js : Nat) (hsp : SplitOk w (S (47 :: c :: p2)) tw (S [47]) (Tn + 12) (N + 6) (Tn + 13) ps ts js) 
noncomputable abbrev D1b_a : Rw := [(bB, (lsO ⟨so⟩ (n))), (aH, (liO bB (k : Int))), (am, (tupO ⟨[vi r tr, vs (S (47 :: c :: p2)) tw]⟩ 0)), (aE, (fO 4 [de w b1 b2 z3 aM (rf aF), de w b1 b2 z12 aN (rf bR), de w b1 b2 z11 aO (vs rt aQ), de w b1 b2 z9 aP (rf aJ)]))]
noncomputable abbrev D1b_z : Rw := [(bB, (lsO ⟨so⟩ (n))), (aH, (liO bB ((k : Int) + 1))), (am, (tupO ⟨[vi r tr, vs (S (47 :: c :: p2)) tw]⟩ 0)), (aE, (fO 6 [de w b1 b2 z3 aM (rf aF), de w b1 b2 z12 aN (rf (N + 5)), de w b1 b2 z11 aO (vs (S [47]) (Tn + 9)), de w b1 b2 z9 aP (rf aJ), de w b1 b2 z7 Tn (vi r tr), de w b1 b2 z8 (Tn + 1) (vs (S (47 :: c :: p2)) tw)])), ((N + 6), (lsO ⟨zipV ps ts⟩ 0)), ((N + 7), ⟨y5, none, .fields ⟨[(rf (N + 6)), (vi 0 0)]⟩, ⟨[]⟩⟩), ((N + 5), ⟨y4, none, .seq ⟨[]⟩ 0, ⟨[]⟩⟩)]
noncomputable abbrev D1b_g : Ctx := ⟨.forLoop fl922.1 (rf aH) fl922.2.1 fl922.2.2 (eN914 aE), none, none, [(k914 aE ⟨922, 21, 922, 34⟩), (k921 aA ⟨939, 47, 939, 62⟩), callerB], none⟩
noncomputable abbrev D1b_h : Ctx := ⟨.forLoop fl926.1 (rf (N + 7)) fl926.2.1 fl926.2.2 (eN914 aE), none, none, [(.forLoop fl922.1 (rf aH) fl922.2.1 fl922.2.2 (eN914 aE), ⟨926, 20, 926, 34⟩), (k914 aE ⟨922, 21, 922, 34⟩), (k921 aA ⟨939, 47, 939, 62⟩), callerB], none⟩
noncomputable def D1b : Res :=
  (fun _ _ _ _ => simC w b1 b2 N Tn 124 (dg 55 0xcb0bb14444411411444447553555055535550555355505530333212) [cItNext 1 0 aH bB (so) (n) k (rf am) hx N Tn, cSlS 7 (S (47 :: c :: p2)) tw (N + 3) none (some (1, (Tn + 2))) ([47]) (by simp [Str.length]) (by simp [Str.length] <;> omega) (by simp [Str.length]; omega) (N + 4) (Tn + 3), cEqS (S ([47])) (Tn + 3) (S [47]) (Tn + 4) true rfl (N + 4) (Tn + 5), cSlS 8 (S (47 :: c :: p2)) tw (N + 4) (some (1, (Tn + 5))) (some (2, (Tn + 6))) ([c]) (by simp [Str.length]) (by simp [Str.length] <;> omega) (by simp [Str.length]; omega) (N + 5) (Tn + 7), cEqS (S ([c])) (Tn + 7) (S [47]) (Tn + 8) false hc (N + 5) (Tn + 9), cSplit hsp] (D1b_g aH aE aA) pos (D1b_a w b1 b2 bB aH aE aF bR aJ aM aN aO aQ aP am tr tw so n k r c p2 rt) 4 G) hp ps ts js
theorem D1b_run : RunK (D1b w b1 b2 N Tn pos G bB aH aE aA aF bR aJ aM aN aO aQ aP am tr tw so n k r c p2 hc hp hx rt ps ts js hsp) [0, 1, 2, 3, 10, 11, 9] (D1b_h N aH aE aA) 8 (13 + js) G (D1b_z w b1 b2 N Tn bB aH aE aF aJ aM aN aO aP am tr tw so n k r c p2 ps ts) := by
  walk_at "r"
variable {w b1 b2 N Tn pos G bB aH aE aA aF bR aJ aM aN aO aQ aP}
def D1b_go := goK (D1b_run w b1 b2 N Tn pos G bB aH aE aA aF bR aJ aM aN aO aQ aP am tr tw so n k r c p2 hc hp hx rt ps ts js hsp) (sC rfl) (by decide)
end
section
variable (bB aH aE aA aF bR aJ : Addr) (aM aN aO aQ aP : Tok) (am : Addr) (tr tw : Tok) (so : List Value) (n k : Nat) (r : Int) (c : Nat) (p2 : List Nat) (hc : ([c] == [47]) = false) (hp : p2.length ≤ 800) (hx : so[k]? = some (rf am)) (rt : Str) (ps : List Str) (ts : List Tok) (js : Nat) (hsp : SplitOk w (S (47 :: c :: p2)) tw (S [47]) (Tn + 12) (N + 6) (Tn + 13) ps ts js)  (N2 Tn2 : Nat) (kn : Tok) (nla : Addr) (nl : List (Str × Tok)) (m : Nat) (hnl : (nl.map (·.1)).toArray.foldl (· + ·.length + (S [47]).length) 0 ≤ 1000) (pls : List Value) (mp : Nat) (hpls : pls.length ≤ 900) (rt' : Str) (trt : Tok) (nm' : Str) (tnm : Tok) (jt : Str) (tj : Tok) (jj : Nat) (hjr : joinR (S [47]) nl (Tn2 + 1) = (jt, tj, jj)) (hjt : jt.length ≤ 1000) (ta : Tok) (ja : Nat) (ha : AddOk w rt' trt jt tj N2 (Tn2 + (1 + jj)) ta ja) 
noncomputable abbrev KD1b_a : Rw := [(aE, (fO 7 [de w b1 b2 z3 aM (rf aF), de w b1 b2 z12 aN (rf nla), de w b1 b2 z11 aO (vs rt' trt), de w b1 b2 z9 aP (rf aJ), de w b1 b2 z7 Tn (vi r tr), de w b1 b2 z8 (Tn + 1) (vs (S (47 :: c :: p2)) tw), de w b1 b2 z15 kn (vs nm' tnm)])), (aJ, (lsO ⟨pls⟩ (mp))), (nla, (lsO ⟨strValues nl⟩ m))]
noncomputable abbrev KD1b_z : Rw := [(aE, (fO 7 [de w b1 b2 z3 aM (rf aF), de w b1 b2 z12 aN (rf nla), de w b1 b2 z11 aO (vs rt' trt), de w b1 b2 z9 aP (rf aJ), de w b1 b2 z7 Tn (vi r tr), de w b1 b2 z8 (Tn + 1) (vs (S (47 :: c :: p2)) tw), de w b1 b2 z15 kn (vs nm' tnm)])), (aJ, (lsO ⟨pls ++ [(rf N2)]⟩ (mp + 1))), (nla, (lsO ⟨strValues nl⟩ m)), (N2, ⟨y3, none, .seq ⟨[(vi r tr), (vs (rt' ++ jt) ta)]⟩ 0, ⟨[]⟩⟩)]
noncomputable abbrev KD1b_h : Ctx := ⟨.forLoop fl922.1 (rf aH) fl922.2.1 fl922.2.2 (eN914 aE), none, none, [(k914 aE ⟨922, 21, 922, 34⟩), (k921 aA ⟨939, 47, 939, 62⟩), callerB], none⟩
noncomputable def KD1b : Res :=
  (fun _ _ => nextC (D1b w b1 b2 N Tn pos G bB aH aE aA aF bR aJ aM aN aO aQ aP am tr tw so n k r c p2 hc hp hx rt ps ts js hsp) (.ok .next) w b1 b2 N2 Tn2 30 [1, 2, 2, 2, 2, 1, 1, 1, 1, 1, 1] [cJoinA 2 (S [47]) Tn2 nla nl (m) jt tj jj N2 (Tn2 + 1) hjr hnl hjt, cAddS ha, cLApp 1 aJ (pls) (mp) (rf N2) (by first | omega | (simp; omega)) (N2 + 1) (Tn2 + (1 + jj + ja))] (KD1b_a w b1 b2 Tn aE aF aJ aM aN aO aP tr tw r c p2 kn nla nl m pls mp rt' trt nm' tnm) 3 G) hpls ta
theorem KD1b_run : RunC (KD1b w b1 b2 N Tn pos G bB aH aE aA aF bR aJ aM aN aO aQ aP am tr tw so n k r c p2 hc hp hx rt ps ts js hsp N2 Tn2 kn nla nl m hnl pls mp hpls rt' trt nm' tnm jt tj jj hjr hjt ta ja ha) [0, 1, 2, 3] (KD1b_h aH aE aA) 1 (1 + jj + ja) G (KD1b_z w b1 b2 Tn aE aF aJ aM aN aO aP tr tw r c p2 N2 kn nla nl m pls mp rt' trt nm' tnm jt ta) := by
  walk_at "r"
variable {w b1 b2 N Tn pos G bB aH aE aA aF bR aJ aM aN aO aQ aP N2 Tn2}
def KD1b_go := goC (KD1b_run w b1 b2 N Tn pos G bB aH aE aA aF bR aJ aM aN aO aQ aP am tr tw so n k r c p2 hc hp hx rt ps ts js hsp N2 Tn2 kn nla nl m hnl pls mp hpls rt' trt nm' tnm jt tj jj hjr hjt ta ja ha) (sK rfl) (by decide)
end
section
variable (bB aH aE aA aF bR aJ : Addr) (aM aN aO aQ aP : Tok) (am : Addr) (tr tw : Tok) (so : List Value) (n k : Nat) (r : Int) (p2 : List Nat) (hp : p2.length ≤ 800) (hc : (p2.take 1 != [47]) = true) (hx : so[k]? = some (rf am)) (rt : Str) (ps : List Str) (ts : List Tok) (js : Nat) (hsp : SplitOk w (S (47 :: 47 :: p2)) tw (S [47]) (Tn + 16) (N + 7) (Tn + 17) ps ts js) 
noncomputable abbrev D1c_a : Rw := [(bB, (lsO ⟨so⟩ (n))), (aH, (liO bB (k : Int))), (am, (tupO ⟨[vi r tr, vs (S (47 :: 47 :: p2)) tw]⟩ 0)), (aE, (fO 4 [de w b1 b2 z3 aM (rf aF), de w b1 b2 z12 aN (rf bR), de w b1 b2 z11 aO (vs rt aQ), de w b1 b2 z9 aP (rf aJ)]))]
noncomputable abbrev D1c_z : Rw := [(bB, (lsO ⟨so⟩ (n))), (aH, (liO bB ((k : Int) + 1))), (am, (tupO ⟨[vi r tr, vs (S (47 :: 47 :: p2)) tw]⟩ 0)), (aE, (fO 6 [de w b1 b2 z3 aM (rf aF), de w b1 b2 z12 aN (rf (N + 6)), de w b1 b2 z11 aO (vs z37 (Tn + 13)), de w b1 b2 z9 aP (rf aJ), de w b1 b2 z7 Tn (vi r tr), de w b1 b2 z8 (Tn + 1) (vs (S (47 :: 47 :: p2)) tw)])), ((N + 7), (lsO ⟨zipV ps ts⟩ 0)), ((N + 8), ⟨y5, none, .fields ⟨[(rf (N + 7)), (vi 0 0)]⟩, ⟨[]⟩⟩), ((N + 6), ⟨y4, none, .seq ⟨[]⟩ 0, ⟨[]⟩⟩)]
noncomputable abbrev D1c_g : Ctx := ⟨.forLoop fl922.1 (rf aH) fl922.2.1 fl922.2.2 (eN914 aE), none, none, [(k914 aE ⟨922, 21, 922, 34⟩), (k921 aA ⟨939, 47, 939, 62⟩), callerB], none⟩
noncomputable abbrev D1c_h : Ctx := ⟨.forLoop fl926.1 (rf (N + 8)) fl926.2.1 fl926.2.2 (eN914 aE), none, none, [(.forLoop fl922.1 (rf aH) fl922.2.1 fl922.2.2 (eN914 aE), ⟨926, 20, 926, 34⟩), (k914 aE ⟨922, 21, 922, 34⟩), (k921 aA ⟨939, 47, 939, 62⟩), callerB], none⟩
noncomputable def D1c : Res :=
  (fun _ _ _ _ => simC w b1 b2 N Tn 135 (dg 58 0xdc0cc14444411411411444447553555055535550555355505530333212) [cItNext 1 0 aH bB (so) (n) k (rf am) hx N Tn, cSlS 7 (S (47 :: 47 :: p2)) tw (N + 3) none (some (1, (Tn + 2))) ([47]) (by simp [Str.length]) (by simp [Str.length] <;> omega) (by simp [Str.length]; omega) (N + 4) (Tn + 3), cEqS (S ([47])) (Tn + 3) (S [47]) (Tn + 4) true rfl (N + 4) (Tn + 5), cSlS 8 (S (47 :: 47 :: p2)) tw (N + 4) (some (1, (Tn + 5))) (some (2, (Tn + 6))) ([47]) (by simp [Str.length]) (by simp [Str.length] <;> omega) (by simp [Str.length]; omega) (N + 5) (Tn + 7), cEqS (S ([47])) (Tn + 7) (S [47]) (Tn + 8) true rfl (N + 5) (Tn + 9), cSlS 9 (S (47 :: 47 :: p2)) tw (N + 5) (some (2, (Tn + 9))) (some (3, (Tn + 10))) (p2.take 1) (sl23D _ _ _ _ _) (ds3 _ _ _ _ _) (by simp [Str.length]; omega) (N + 6) (Tn + 11), cNeS (S (p2.take 1)) (Tn + 11) (S [47]) (Tn + 12) true hc (N + 6) (Tn + 13), cSplit hsp] (D1c_g aH aE aA) pos (D1c_a w b1 b2 bB aH aE aF bR aJ aM aN aO aQ aP am tr tw so n k r p2 rt) 4 G) hp ps ts js
theorem D1c_run : RunK (D1c w b1 b2 N Tn pos G bB aH aE aA aF bR aJ aM aN aO aQ aP am tr tw so n k r p2 hp hc hx rt ps ts js hsp) [0, 1, 2, 3, 11, 12, 10] (D1c_h N aH aE aA) 9 (17 + js) G (D1c_z w b1 b2 N Tn bB aH aE aF aJ aM aN aO aP am tr tw so n k r p2 ps ts) := by
  walk_at "r"
variable {w b1 b2 N Tn pos G bB aH aE aA aF bR aJ aM aN aO aQ aP}
def D1c_go := goK (D1c_run w b1 b2 N Tn pos G bB aH aE aA aF bR aJ aM aN aO aQ aP am tr tw so n k r p2 hp hc hx rt ps ts js hsp) (sC rfl) (by decide)
end
section
variable (bB aH aE aA aF bR aJ : Addr) (aM aN aO aQ aP : Tok) (am : Addr) (tr tw : Tok) (so : List Value) (n k : Nat) (r : Int) (p2 : List Nat) (hp : p2.length ≤ 800) (hc : (p2.take 1 != [47]) = true) (hx : so[k]? = some (rf am)) (rt : Str) (ps : List Str) (ts : List Tok) (js : Nat) (hsp : SplitOk w (S (47 :: 47 :: p2)) tw (S [47]) (Tn + 16) (N + 7) (Tn + 17) ps ts js)  (N2 Tn2 : Nat) (kn : Tok) (nla : Addr) (nl : List (Str × Tok)) (m : Nat) (hnl : (nl.map (·.1)).toArray.foldl (· + ·.length + (S [47]).length) 0 ≤ 1000) (pls : List Value) (mp : Nat) (hpls : pls.length ≤ 900) (rt' : Str) (trt : Tok) (nm' : Str) (tnm : Tok) (jt : Str) (tj : Tok) (jj : Nat) (hjr : joinR (S [47]) nl (Tn2 + 1) = (jt, tj, jj)) (hjt : jt.length ≤ 1000) (ta : Tok) (ja : Nat) (ha : AddOk w rt' trt jt tj N2 (Tn2 + (1 + jj)) ta ja) 
noncomputable abbrev KD1c_a : Rw := [(aE, (fO 7 [de w b1 b2 z3 aM (rf aF), de w b1 b2 z12 aN (rf nla), de w b1 b2 z11 aO (vs rt' trt), de w b1 b2 z9 aP (rf aJ), de w b1 b2 z7 Tn (vi r tr), de w b1 b2 z8 (Tn + 1) (vs (S (47 :: 47 :: p2)) tw), de w b1 b2 z15 kn (vs nm' tnm)])), (aJ, (lsO ⟨pls⟩ (mp))), (nla, (lsO ⟨strValues nl⟩ m))]
noncomputable abbrev KD1c_z : Rw := [(aE, (fO 7 [de w b1 b2 z3 aM (rf aF), de w b1 b2 z12 aN (rf nla), de w b1 b2 z11 aO (vs rt' trt), de w b1 b2 z9 aP (rf aJ), de w b1 b2 z7 Tn (vi r tr), de w b1 b2 z8 (Tn + 1) (vs (S (47 :: 47 :: p2)) tw), de w b1 b2 z15 kn (vs nm' tnm)])), (aJ, (lsO ⟨pls ++ [(rf N2)]⟩ (mp + 1))), (nla, (lsO ⟨strValues nl⟩ m)), (N2, ⟨y3, none, .seq ⟨[(vi r tr), (vs (rt' ++ jt) ta)]⟩ 0, ⟨[]⟩⟩)]
noncomputable abbrev KD1c_h : Ctx := ⟨.forLoop fl922.1 (rf aH) fl922.2.1 fl922.2.2 (eN914 aE), none, none, [(k914 aE ⟨922, 21, 922, 34⟩), (k921 aA ⟨939, 47, 939, 62⟩), callerB], none⟩
noncomputable def KD1c : Res :=
  (fun _ _ => nextC (D1c w b1 b2 N Tn pos G bB aH aE aA aF bR aJ aM aN aO aQ aP am tr tw so n k r p2 hp hc hx rt ps ts js hsp) (.ok .next) w b1 b2 N2 Tn2 30 [1, 2, 2, 2, 2, 1, 1, 1, 1, 1, 1] [cJoinA 2 (S [47]) Tn2 nla nl (m) jt tj jj N2 (Tn2 + 1) hjr hnl hjt, cAddS ha, cLApp 1 aJ (pls) (mp) (rf N2) (by first | omega | (simp; omega)) (N2 + 1) (Tn2 + (1 + jj + ja))] (KD1c_a w b1 b2 Tn aE aF aJ aM aN aO aP tr tw r p2 kn nla nl m pls mp rt' trt nm' tnm) 3 G) hpls ta
theorem KD1c_run : RunC (KD1c w b1 b2 N Tn pos G bB aH aE aA aF bR aJ aM aN aO aQ aP am tr tw so n k r p2 hp hc hx rt ps ts js hsp N2 Tn2 kn nla nl m hnl pls mp hpls rt' trt nm' tnm jt tj jj hjr hjt ta ja ha) [0, 1, 2, 3] (KD1c_h aH aE aA) 1 (1 + jj + ja) G (KD1c_z w b1 b2 Tn aE aF aJ aM aN aO aP tr tw r p2 N2 kn nla nl m pls mp rt' trt nm' tnm jt ta) := by
  walk_at "r"
variable {w b1 b2 N Tn pos G bB aH aE aA aF bR aJ aM aN aO aQ aP N2 Tn2}
def KD1c_go := goC (KD1c_run w b1 b2 N Tn pos G bB aH aE aA aF bR aJ aM aN aO aQ aP am tr tw so n k r p2 hp hc hx rt ps ts js hsp N2 Tn2 kn nla nl m hnl pls mp hpls rt' trt nm' tnm jt tj jj hjr hjt ta ja ha) (sK rfl) (by decide)
end
section
variable (bB aH aE aA aF eQ aJ : Addr) (aM aN aO aQ aP aW bN aX bO bD fA : Tok) (am : Addr) (tr tw : Tok) (so : List Value) (n k : Nat) (r : Int) (c : Nat) (p2 : List Nat) (hp1 : p2 ≠ []) (hc : ([c] == [47]) = false) (hp : p2.length ≤ 800) (hx : so[k]? = some (rf am)) (rt : Str) (r0 : Int) (w0 : Str) (nm0 : Str) (ps : List Str) (ts : List Tok) (js : Nat) (hsp : SplitOk w (S (c :: p2)) tw (S [47]) (Tn + 5) (N + 4) (Tn + 6) ps ts js) 
noncomputable abbrev D2a_a : Rw := [(bB, (lsO ⟨so⟩ (n))), (aH, (liO bB (k : Int))), (am, (tupO ⟨[vi r tr, vs (S (c :: p2)) tw]⟩ 0)), (aE, (fO 7 [de w b1 b2 z3 aM (rf aF), de w b1 b2 z12 aN (rf eQ), de w b1 b2 z11 aO (vs rt aQ), de w b1 b2 z9 aP (rf aJ), de w b1 b2 z7 aW (vi r0 bN), de w b1 b2 z8 aX (vs w0 bO), de w b1 b2 z15 bD (vs nm0 fA)]))]
noncomputable abbrev D2a_z : Rw := [(bB, (lsO ⟨so⟩ (n))), (aH, (liO bB ((k : Int) + 1))), (am, (tupO ⟨[vi r tr, vs (S (c :: p2)) tw]⟩ 0)), (aE, (fO 7 [de w b1 b2 z3 aM (rf aF), de w b1 b2 z12 aN (rf eQ), de w b1 b2 z11 aO (vs rt aQ), de w b1 b2 z9 aP (rf aJ), de w b1 b2 z7 aW (vi r tr), de w b1 b2 z8 aX (vs (S (c :: p2)) tw), de w b1 b2 z15 bD (vs nm0 fA)])), ((N + 4), (lsO ⟨zipV ps ts⟩ 0)), ((N + 5), ⟨y5, none, .fields ⟨[(rf (N + 4)), (vi 0 0)]⟩, ⟨[]⟩⟩)]
noncomputable abbrev D2a_g : Ctx := ⟨.forLoop fl922.1 (rf aH) fl922.2.1 fl922.2.2 (eN914 aE), none, none, [(k914 aE ⟨922, 21, 922, 34⟩), (k921 aA ⟨939, 47, 939, 62⟩), callerB], none⟩
noncomputable abbrev D2a_h : Ctx := ⟨.forLoop fl926.1 (rf (N + 5)) fl926.2.1 fl926.2.2 (eN914 aE), none, none, [(.forLoop fl922.1 (rf aH) fl922.2.1 fl922.2.2 (eN914 aE), ⟨926, 20, 926, 34⟩), (k914 aE ⟨922, 21, 922, 34⟩), (k921 aA ⟨939, 47, 939, 62⟩), callerB], none⟩
noncomputable def D2a : Res :=
  (fun _ _ _ _ => simC w b1 b2 N Tn 94 (dg 48 0xa90991411444447553555055535550555355505530333212) [cItNext 1 0 aH bB (so) (n) k (rf am) hx N Tn, cSlS 7 (S (c :: p2)) tw (N + 3) none (some (1, (Tn + 2))) ([c]) (by simp [Str.length]) (ds1 hp1) (by simp [Str.length]; omega) (N + 4) (Tn + 3), cEqS (S ([c])) (Tn + 3) (S [47]) (Tn + 4) false hc (N + 4) (Tn + 5), cSplit hsp] (D2a_g aH aE aA) pos (D2a_a w b1 b2 bB aH aE aF eQ aJ aM aN aO aQ aP aW bN aX bO bD fA am tr tw so n k r c p2 rt r0 w0 nm0) 4 G) hp ps ts js
theorem D2a_run : RunK (D2a w b1 b2 N Tn pos G bB aH aE aA aF eQ aJ aM aN aO aQ aP aW bN aX bO bD fA am tr tw so n k r c p2 hp1 hc hp hx rt r0 w0 nm0 ps ts js hsp) [0, 1, 2, 3, 8, 9] (D2a_h N aH aE aA) 6 (6 + js) G (D2a_z w b1 b2 N bB aH aE aF eQ aJ aM aN aO aQ aP aW aX bD fA am tr tw so n k r c p2 rt nm0 ps ts) := by
  walk_at "r"
variable {w b1 b2 N Tn pos G bB aH aE aA aF eQ aJ aM aN aO aQ aP aW bN aX bO bD fA}
def D2a_go := goK (D2a_run w b1 b2 N Tn pos G bB aH aE aA aF eQ aJ aM aN aO aQ aP aW bN aX bO bD fA am tr tw so n k r c p2 hp1 hc hp hx rt r0 w0 nm0 ps ts js hsp) (sC rfl) (by decide)
end
section
variable (bB aH aE aA aF eQ aJ : Addr) (aM aN aO aQ aP aW bN aX bO bD fA : Tok) (am : Addr) (tr tw : Tok) (so : List Value) (n k : Nat) (r : Int) (c : Nat) (p2 : List Nat) (hp1 : p2 ≠ []) (hc : ([c] == [47]) = false) (hp : p2.length ≤ 800) (hx : so[k]? = some (rf am)) (rt : Str) (r0 : Int) (w0 : Str) (nm0 : Str) (ps : List Str) (ts : List Tok) (js : Nat) (hsp : SplitOk w (S (c :: p2)) tw (S [47]) (Tn + 5) (N + 4) (Tn + 6) ps ts js)  (N2 Tn2 : Nat) (nla : Addr) (nl : List (Str × Tok)) (m : Nat) (hnl : (nl.map (·.1)).toArray.foldl (· + ·.length + (S [47]).length) 0 ≤ 1000) (pls : List Value) (mp : Nat) (hpls : pls.length ≤ 900) (rt' : Str) (trt : Tok) (nm' : Str) (tnm : Tok) (jt : Str) (tj : Tok) (jj : Nat) (hjr : joinR (S [47]) nl (Tn2 + 1) = (jt, tj, jj)) (hjt : jt.length ≤ 1000) (ta : Tok) (ja : Nat) (ha : AddOk w rt' trt jt tj N2 (Tn2 + (1 + jj)) ta ja) 
noncomputable abbrev KD2a_a : Rw := [(aE, (fO 7 [de w b1 b2 z3 aM (rf aF), de w b1 b2 z12 aN (rf nla), de w b1 b2 z11 aO (vs rt' trt), de w b1 b2 z9 aP (rf aJ), de w b1 b2 z7 aW (vi r tr), de w b1 b2 z8 aX (vs (S (c :: p2)) tw), de w b1 b2 z15 bD (vs nm' tnm)])), (aJ, (lsO ⟨pls⟩ (mp))), (nla, (lsO ⟨strValues nl⟩ m))]
noncomputable abbrev KD2a_z : Rw := [(aE, (fO 7 [de w b1 b2 z3 aM (rf aF), de w b1 b2 z12 aN (rf nla), de w b1 b2 z11 aO (vs rt' trt), de w b1 b2 z9 aP (rf aJ), de w b1 b2 z7 aW (vi r tr), de w b1 b2 z8 aX (vs (S (c :: p2)) tw), de w b1 b2 z15 bD (vs nm' tnm)])), (aJ, (lsO ⟨pls ++ [(rf N2)]⟩ (mp + 1))), (nla, (lsO ⟨strValues nl⟩ m)), (N2, ⟨y3, none, .seq ⟨[(vi r tr), (vs (rt' ++ jt) ta)]⟩ 0, ⟨[]⟩⟩)]
noncomputable abbrev KD2a_h : Ctx := ⟨.forLoop fl922.1 (rf aH) fl922.2.1 fl922.2.2 (eN914 aE), none, none, [(k914 aE ⟨922, 21, 922, 34⟩), (k921 aA ⟨939, 47, 939, 62⟩), callerB], none⟩
noncomputable def KD2a : Res :=
  (fun _ _ => nextC (D2a w b1 b2 N Tn pos G bB aH aE aA aF eQ aJ aM aN aO aQ aP aW bN aX bO bD fA am tr tw so n k r c p2 hp1 hc hp hx rt r0 w0 nm0 ps ts js hsp) (.ok .next) w b1 b2 N2 Tn2 30 [1, 2, 2, 2, 2, 1, 1, 1, 1, 1, 1] [cJoinA 2 (S [47]) Tn2 nla nl (m) jt tj jj N2 (Tn2 + 1) hjr hnl hjt, cAddS ha, cLApp 1 aJ (pls) (mp) (rf N2) (by first | omega | (simp; omega)) (N2 + 1) (Tn2 + (1 + jj + ja))] (KD2a_a w b1 b2 aE aF aJ aM aN aO aP aW aX bD tr tw r c p2 nla nl m pls mp rt' trt nm' tnm) 3 G) hpls ta
theorem KD2a_run : RunC (KD2a w b1 b2 N Tn pos G bB aH aE aA aF eQ aJ aM aN aO aQ aP aW bN aX bO bD fA am tr tw so n k r c p2 hp1 hc hp hx rt r0 w0 nm0 ps ts js hsp N2 Tn2 nla nl m hnl pls mp hpls rt' trt nm' tnm jt tj jj hjr hjt ta ja ha) [0, 1, 2, 3] (KD2a_h aH aE aA) 1 (1 + jj + ja) G (KD2a_z w b1 b2 aE aF aJ aM aN aO aP aW aX bD tr tw r c p2 N2 nla nl m pls mp rt' trt nm' tnm jt ta) := by
  walk_at "r"
variable {w b1 b2 N Tn pos G bB aH aE aA aF eQ aJ aM aN aO aQ aP aW bN aX bO bD fA N2 Tn2}
def KD2a_go := goC (KD2a_run w b1 b2 N Tn pos G bB aH aE aA aF eQ aJ aM aN aO aQ aP aW bN aX bO bD fA am tr tw so n k r c p2 hp1 hc hp hx rt r0 w0 nm0 ps ts js hsp N2 Tn2 nla nl m hnl pls mp hpls rt' trt nm' tnm jt tj jj hjr hjt ta ja ha) (sK rfl) (by decide)
end
section
variable (bB aH aE aA aF eX aJ : Addr) (aM aN aO aQ aP aW eY aX eZ bD eK : Tok) (am : Addr) (tr tw : Tok) (so : List Value) (n k : Nat) (r : Int) (c : Nat) (p2 : List Nat) (hc : ([c] == [47]) = false) (hp : p2.length ≤ 800) (hx : so[k]? = some (rf am)) (rt : Str) (r0 : Int) (w0 : Str) (nm0 : Str) (ps : List Str) (ts : List Tok) (js : Nat) (hsp : SplitOk w (S (47 :: c :: p2)) tw (S [47]) (Tn + 12) (N + 6) (Tn + 13) ps ts js) 
noncomputable abbrev D2b_a : Rw := [(bB, (lsO ⟨so⟩ (n))), (aH, (liO bB (k : Int))), (am, (tupO ⟨[vi r tr, vs (S (47 :: c :: p2)) tw]⟩ 0)), (aE, (fO 7 [de w b1 b2 z3 aM (rf aF), de w b1 b2 z12 aN (rf eX), de w b1 b2 z11 aO (vs rt aQ), de w b1 b2 z9 aP (rf aJ), de w b1 b2 z7 aW (vi r0 eY), de w b1 b2 z8 aX (vs w0 eZ), de w b1 b2 z15 bD (vs nm0 eK)]))]
noncomputable abbrev D2b_z : Rw := [(bB, (lsO ⟨so⟩ (n))), (aH, (liO bB ((k : Int) + 1))), (am, (tupO ⟨[vi r tr, vs (S (47 :: c :: p2)) tw]⟩ 0)), (aE, (fO 7 [de w b1 b2 z3 aM (rf aF), de w b1 b2 z12 aN (rf (N + 5)), de w b1 b2 z11 aO (vs (S [47]) (Tn + 9)), de w b1 b2 z9 aP (rf aJ), de w b1 b2 z7 aW (vi r tr), de w b1 b2 z8 aX (vs (S (47 :: c :: p2)) tw), de w b1 b2 z15 bD (vs nm0 eK)])), ((N + 6), (lsO ⟨zipV ps ts⟩ 0)), ((N + 7), ⟨y5, none, .fields ⟨[(rf (N + 6)), (vi 0 0)]⟩, ⟨[]⟩⟩), ((N + 5), ⟨y4, none, .seq ⟨[]⟩ 0, ⟨[]⟩⟩)]
noncomputable abbrev D2b_g : Ctx := ⟨.forLoop fl922.1 (rf aH) fl922.2.1 fl922.2.2 (eN914 aE), none, none, [(k914 aE ⟨922, 21, 922, 34⟩), (k921 aA ⟨939, 47, 939, 62⟩), callerB], none⟩
noncomputable abbrev D2b_h : Ctx := ⟨.forLoop fl926.1 (rf (N + 7)) fl926.2.1 fl926.2.2 (eN914 aE), none, none, [(.forLoop fl922.1 (rf aH) fl922.2.1 fl922.2.2 (eN914 aE), ⟨926, 20, 926, 34⟩), (k914 aE ⟨922, 21, 922, 34⟩), (k921 aA ⟨939, 47, 939, 62⟩), callerB], none⟩
noncomputable def D2b : Res :=
  (fun _ _ _ _ => simC w b1 b2 N Tn 124 (dg 55 0xcb0bb14444411411444447553555055535550555355505530333212) [cItNext 1 0 aH bB (so) (n) k (rf am) hx N Tn, cSlS 7 (S (47 :: c :: p2)) tw (N + 3) none (some (1, (Tn + 2))) ([47]) (by simp [Str.length]) (by simp [Str.length] <;> omega) (by simp [Str.length]; omega) (N + 4) (Tn + 3), cEqS (S ([47])) (Tn + 3) (S [47]) (Tn + 4) true rfl (N + 4) (Tn + 5), cSlS 8 (S (47 :: c :: p2)) tw (N + 4) (some (1, (Tn + 5))) (some (2, (Tn + 6))) ([c]) (by simp [Str.length]) (by simp [Str.length] <;> omega) (by simp [Str.length]; omega) (N + 5) (Tn + 7), cEqS (S ([c])) (Tn + 7) (S [47]) (Tn + 8) false hc (N + 5) (Tn + 9), cSplit hsp] (D2b_g aH aE aA) pos (D2b_a w b1 b2 bB aH aE aF eX aJ aM aN aO aQ aP aW eY aX eZ bD eK am tr tw so n k r c p2 rt r0 w0 nm0) 4 G) hp ps ts js
theorem D2b_run : RunK (D2b w b1 b2 N Tn pos G bB aH aE aA aF eX aJ aM aN aO aQ aP aW eY aX eZ bD eK am tr tw so n k r c p2 hc hp hx rt r0 w0 nm0 ps ts js hsp) [0, 1, 2, 3, 10, 11, 9] (D2b_h N aH aE aA) 8 (13 + js) G (D2b_z w b1 b2 N Tn bB aH aE aF aJ aM aN aO aP aW aX bD eK am tr tw so n k r c p2 nm0 ps ts) := by
  walk_at "r"
variable {w b1 b2 N Tn pos G bB aH aE aA aF eX aJ aM aN aO aQ aP aW eY aX eZ bD eK}
def D2b_go := goK (D2b_run w b1 b2 N Tn pos G bB aH aE aA aF eX aJ aM aN aO aQ aP aW eY aX eZ bD eK am tr tw so n k r c p2 hc hp hx rt r0 w0 nm0 ps ts js hsp) (sC rfl) (by decide)
end
section
variable (bB aH aE aA aF eX aJ : Addr) (aM aN aO aQ aP aW eY aX eZ bD eK : Tok) (am : Addr) (tr tw : Tok) (so : List Value) (n k : Nat) (r : Int) (c : Nat) (p2 : List Nat) (hc : ([c] == [47]) = false) (hp : p2.length ≤ 800) (hx : so[k]? = some (rf am)) (rt : Str) (r0 : Int) (w0 : Str) (nm0 : Str) (ps : List Str) (ts : List Tok) (js : Nat) (hsp : SplitOk w (S (47 :: c :: p2)) tw (S [47]) (Tn + 12) (N + 6) (Tn + 13) ps ts js)  (N2 Tn2 : Nat) (nla : Addr) (nl : List (Str × Tok)) (m : Nat) (hnl : (nl.map (·.1)).toArray.foldl (· + ·.length + (S [47]).length) 0 ≤ 1000) (pls : List Value) (mp : Nat) (hpls : pls.length ≤ 900) (rt' : Str) (trt : Tok) (nm' : Str) (tnm : Tok) (jt : Str) (tj : Tok) (jj : Nat) (hjr : joinR (S [47]) nl (Tn2 + 1) = (jt, tj, jj)) (hjt : jt.length ≤ 1000) (ta : Tok) (ja : Nat) (ha : AddOk w rt' trt jt tj N2 (Tn2 + (1 + jj)) ta ja) 
noncomputable abbrev KD2b_a : Rw := [(aE, (fO 7 [de w b1 b2 z3 aM (rf aF), de w b1 b2 z12 aN (rf nla), de w b1 b2 z11 aO (vs rt' trt), de w b1 b2 z9 aP (rf aJ), de w b1 b2 z7 aW (vi r tr), de w b1 b2 z8 aX (vs (S (47 :: c :: p2)) tw), de w b1 b2 z15 bD (vs nm' tnm)])), (aJ, (lsO ⟨pls⟩ (mp))), (nla, (lsO ⟨strValues nl⟩ m))]
noncomputable abbrev KD2b_z : Rw := [(aE, (fO 7 [de w b1 b2 z3 aM (rf aF), de w b1 b2 z12 aN (rf nla), de w b1 b2 z11 aO (vs rt' trt), de w b1 b2 z9 aP (rf aJ), de w b1 b2 z7 aW (vi r tr), de w b1 b2 z8 aX (vs (S (47 :: c :: p2)) tw), de w b1 b2 z15 bD (vs nm' tnm)])), (aJ, (lsO ⟨pls ++ [(rf N2)]⟩ (mp + 1))), (nla, (lsO ⟨strValues nl⟩ m)), (N2, ⟨y3, none, .seq ⟨[(vi r tr), (vs (rt' ++ jt) ta)]⟩ 0, ⟨[]⟩⟩)]
noncomputable abbrev KD2b_h : Ctx := ⟨.forLoop fl922.1 (rf aH) fl922.2.1 fl922.2.2 (eN914 aE), none, none, [(k914 aE ⟨922, 21, 922, 34⟩), (k921 aA ⟨939, 47, 939, 62⟩), callerB], none⟩
noncomputable def KD2b : Res :=
  (fun _ _ => nextC (D2b w b1 b2 N Tn pos G bB aH aE aA aF eX aJ aM aN aO aQ aP aW eY aX eZ bD eK am tr tw so n k r c p2 hc hp hx rt r0 w0 nm0 ps ts js hsp) (.ok .next) w b1 b2 N2 Tn2 30 [1, 2, 2, 2, 2, 1, 1, 1, 1, 1, 1] [cJoinA 2 (S [47]) Tn2 nla nl (m) jt tj jj N2 (Tn2 + 1) hjr hnl hjt, cAddS ha, cLApp 1 aJ (pls) (mp) (rf N2) (by first | omega | (simp; omega)) (N2 + 1) (Tn2 + (1 + jj + ja))] (KD2b_a w b1 b2 aE aF aJ aM aN aO aP aW aX bD tr tw r c p2 nla nl m pls mp rt' trt nm' tnm) 3 G) hpls ta
theorem KD2b_run : RunC (KD2b w b1 b2 N Tn pos G bB aH aE aA aF eX aJ aM aN aO aQ aP aW eY aX eZ bD eK am tr tw so n k r c p2 hc hp hx rt r0 w0 nm0 ps ts js hsp N2 Tn2 nla nl m hnl pls mp hpls rt' trt nm' tnm jt tj jj hjr hjt ta ja ha) [0, 1, 2, 3] (KD2b_h aH aE aA) 1 (1 + jj + ja) G (KD2b_z w b1 b2 aE aF aJ aM aN aO aP aW aX bD tr tw r c p2 N2 nla nl m pls mp rt' trt nm' tnm jt ta) := by
  walk_at "r"
variable {w b1 b2 N Tn pos G bB aH aE aA aF eX aJ aM aN aO aQ aP aW eY aX eZ bD eK N2 Tn2}
def KD2b_go := goC (KD2b_run w b1 b2 N Tn pos G bB aH aE aA aF eX aJ aM aN aO aQ aP aW eY aX eZ bD eK am tr tw so n k r c p2 hc hp hx rt r0 w0 nm0 ps ts js hsp N2 Tn2 nla nl m hnl pls mp hpls rt' trt nm' tnm jt tj jj hjr hjt ta ja ha) (sK rfl) (by decide)
end
section
variable (bB aH aE aA aF eX aJ : Addr) (aM aN aO aQ aP aW eY aX eZ bD eK : Tok) (am : Addr) (tr tw : Tok) (so : List Value) (n k : Nat) (r : Int) (p2 : List Nat) (hp : p2.length ≤ 800) (hc : (p2.take 1 != [47]) = true) (hx : so[k]? = some (rf am)) (rt : Str) (r0 : Int) (w0 : Str) (nm0 : Str) (ps : List Str) (ts : List Tok) (js : Nat) (hsp : SplitOk w (S (47 :: 47 :: p2)) tw (S [47]) (Tn + 16) (N + 7) (Tn + 17) ps ts js) 
noncomputable abbrev D2c_a : Rw := [(bB, (lsO ⟨so⟩ (n))), (aH, (liO bB (k : Int))), (am, (tupO ⟨[vi r tr, vs (S (47 :: 47 :: p2)) tw]⟩ 0)), (aE, (fO 7 [de w b1 b2 z3 aM (rf aF), de w b1 b2 z12 aN (rf eX), de w b1 b2 z11 aO (vs rt aQ), de w b1 b2 z9 aP (rf aJ), de w b1 b2 z7 aW (vi r0 eY), de w b1 b2 z8 aX (vs w0 eZ), de w b1 b2 z15 bD (vs nm0 eK)]))]
noncomputable abbrev D2c_z : Rw := [(bB, (lsO ⟨so⟩ (n))), (aH, (liO bB ((k : Int) + 1))), (am, (tupO ⟨[vi r tr, vs (S (47 :: 47 :: p2)) tw]⟩ 0)), (aE, (fO 7 [de w b1 b2 z3 aM (rf aF), de w b1 b2 z12 aN (rf (N + 6)), de w b1 b2 z11 aO (vs z37 (Tn + 13)), de w b1 b2 z9 aP (rf aJ), de w b1 b2 z7 aW (vi r tr), de w b1 b2 z8 aX (vs (S (47 :: 47 :: p2)) tw), de w b1 b2 z15 bD (vs nm0 eK)])), ((N + 7), (lsO ⟨zipV ps ts⟩ 0)), ((N + 8), ⟨y5, none, .fields ⟨[(rf (N + 7)), (vi 0 0)]⟩, ⟨[]⟩⟩), ((N + 6), ⟨y4, none, .seq ⟨[]⟩ 0, ⟨[]⟩⟩)]
noncomputable abbrev D2c_g : Ctx := ⟨.forLoop fl922.1 (rf aH) fl922.2.1 fl922.2.2 (eN914 aE), none, none, [(k914 aE ⟨922, 21, 922, 34⟩), (k921 aA ⟨939, 47, 939, 62⟩), callerB], none⟩
noncomputable abbrev D2c_h : Ctx := ⟨.forLoop fl926.1 (rf (N + 8)) fl926.2.1 fl926.2.2 (eN914 aE), none, none, [(.forLoop fl922.1 (rf aH) fl922.2.1 fl922.2.2 (eN914 aE), ⟨926, 20, 926, 34⟩), (k914 aE ⟨922, 21, 922, 34⟩), (k921 aA ⟨939, 47, 939, 62⟩), callerB], none⟩
noncomputable def D2c : Res :=
  (fun _ _ _ _ => simC w b1 b2 N Tn 135 (dg 58 0xdc0cc14444411411411444447553555055535550555355505530333212) [cItNext 1 0 aH bB (so) (n) k (rf am) hx N Tn, cSlS 7 (S (47 :: 47 :: p2)) tw (N + 3) none (some (1, (Tn + 2))) ([47]) (by simp [Str.length]) (by simp [Str.length] <;> omega) (by simp [Str.length]; omega) (N + 4) (Tn + 3), cEqS (S ([47])) (Tn + 3) (S [47]) (Tn + 4) true rfl (N + 4) (Tn + 5), cSlS 8 (S (47 :: 47 :: p2)) tw (N + 4) (some (1, (Tn + 5))) (some (2, (Tn + 6))) ([47]) (by simp [Str.length]) (by simp [Str.length] <;> omega) (by simp [Str.length]; omega) (N + 5) (Tn + 7), cEqS (S ([47])) (Tn + 7) (S [47]) (Tn + 8) true rfl (N + 5) (Tn + 9), cSlS 9 (S (47 :: 47 :: p2)) tw (N + 5) (some (2, (Tn + 9))) (some (3, (Tn + 10))) (p2.take 1) (sl23D _ _ _ _ _) (ds3 _ _ _ _ _) (by simp [Str.length]; omega) (N + 6) (Tn + 11), cNeS (S (p2.take 1)) (Tn + 11) (S [47]) (Tn + 12) true hc (N + 6) (Tn + 13), cSplit hsp] (D2c_g aH aE aA) pos (D2c_a w b1 b2 bB aH aE aF eX aJ aM aN aO aQ aP aW eY aX eZ bD eK am tr tw so n k r p2 rt r0 w0 nm0) 4 G) hp ps ts js
theorem D2c_run : RunK (D2c w b1 b2 N Tn pos G bB aH aE aA aF eX aJ aM aN aO aQ aP aW eY aX eZ bD eK am tr tw so n k r p2 hp hc hx rt r0 w0 nm0 ps ts js hsp) [0, 1, 2, 3, 11, 12, 10] (D2c_h N aH aE aA) 9 (17 + js) G (D2c_z w b1 b2 N Tn bB aH aE aF aJ aM aN aO aP aW aX bD eK am tr tw so n k r p2 nm0 ps ts) := by
  walk_at "r"
variable {w b1 b2 N Tn pos G bB aH aE aA aF eX aJ aM aN aO aQ aP aW eY aX eZ bD eK}
def D2c_go := goK (D2c_run w b1 b2 N Tn pos G bB aH aE aA aF eX aJ aM aN aO aQ aP aW eY aX eZ bD eK am tr tw so n k r p2 hp hc hx rt r0 w0 nm0 ps ts js hsp) (sC rfl) (by decide)
end
section
variable (bB aH aE aA aF eX aJ : Addr) (aM aN aO aQ aP aW eY aX eZ bD eK : Tok) (am : Addr) (tr tw : Tok) (so : List Value) (n k : Nat) (r : Int) (p2 : List Nat) (hp : p2.length ≤ 800) (hc : (p2.take 1 != [47]) = true) (hx : so[k]? = some (rf am)) (rt : Str) (r0 : Int) (w0 : Str) (nm0 : Str) (ps : List Str) (ts : List Tok) (js : Nat) (hsp : SplitOk w (S (47 :: 47 :: p2)) tw (S [47]) (Tn + 16) (N + 7) (Tn + 17) ps ts js)  (N2 Tn2 : Nat) (nla : Addr) (nl : List (Str × Tok)) (m : Nat) (hnl : (nl.map (·.1)).toArray.foldl (· + ·.length + (S [47]).length) 0 ≤ 1000) (pls : List Value) (mp : Nat) (hpls : pls.length ≤ 900) (rt' : Str) (trt : Tok) (nm' : Str) (tnm : Tok) (jt : Str) (tj : Tok) (jj : Nat) (hjr : joinR (S [47]) nl (Tn2 + 1) = (jt, tj, jj)) (hjt : jt.length ≤ 1000) (ta : Tok) (ja : Nat) (ha : AddOk w rt' trt jt tj N2 (Tn2 + (1 + jj)) ta ja) 
noncomputable abbrev KD2c_a : Rw := [(aE, (fO 7 [de w b1 b2 z3 aM (rf aF), de w b1 b2 z12 aN (rf nla), de w b1 b2 z11 aO (vs rt' trt), de w b1 b2 z9 aP (rf aJ), de w b1 b2 z7 aW (vi r tr), de w b1 b2 z8 aX (vs (S (47 :: 47 :: p2)) tw), de w b1 b2 z15 bD (vs nm' tnm)])), (aJ, (lsO ⟨pls⟩ (mp))), (nla, (lsO ⟨strValues nl⟩ m))]
noncomputable abbrev KD2c_z : Rw := [(aE, (fO 7 [de w b1 b2 z3 aM (rf aF), de w b1 b2 z12 aN (rf nla), de w b1 b2 z11 aO (vs rt' trt), de w b1 b2 z9 aP (rf aJ), de w b1 b2 z7 aW (vi r tr), de w b1 b2 z8 aX (vs (S (47 :: 47 :: p2)) tw), de w b1 b2 z15 bD (vs nm' tnm)])), (aJ, (lsO ⟨pls ++ [(rf N2)]⟩ (mp + 1))), (nla, (lsO ⟨strValues nl⟩ m)), (N2, ⟨y3, none, .seq ⟨[(vi r tr), (vs (rt' ++ jt) ta)]⟩ 0, ⟨[]⟩⟩)]
noncomputable abbrev KD2c_h : Ctx := ⟨.forLoop fl922.1 (rf aH) fl922.2.1 fl922.2.2 (eN914 aE), none, none, [(k914 aE ⟨922, 21, 922, 34⟩), (k921 aA ⟨939, 47, 939, 62⟩), callerB], none⟩
noncomputable def KD2c : Res :=
  (fun _ _ => nextC (D2c w b1 b2 N Tn pos G bB aH aE aA aF eX aJ aM aN aO aQ aP aW eY aX eZ bD eK am tr tw so n k r p2 hp hc hx rt r0 w0 nm0 ps ts js hsp) (.ok .next) w b1 b2 N2 Tn2 30 [1, 2, 2, 2, 2, 1, 1, 1, 1, 1, 1] [cJoinA 2 (S [47]) Tn2 nla nl (m) jt tj jj N2 (Tn2 + 1) hjr hnl hjt, cAddS ha, cLApp 1 aJ (pls) (mp) (rf N2) (by first | omega | (simp; omega)) (N2 + 1) (Tn2 + (1 + jj + ja))] (KD2c_a w b1 b2 aE aF aJ aM aN aO aP aW aX bD tr tw r p2 nla nl m pls mp rt' trt nm' tnm) 3 G) hpls ta
theorem KD2c_run : RunC (KD2c w b1 b2 N Tn pos G bB aH aE aA aF eX aJ aM aN aO aQ aP aW eY aX eZ bD eK am tr tw so n k r p2 hp hc hx rt r0 w0 nm0 ps ts js hsp N2 Tn2 nla nl m hnl pls mp hpls rt' trt nm' tnm jt tj jj hjr hjt ta ja ha) [0, 1, 2, 3] (KD2c_h aH aE aA) 1 (1 + jj + ja) G (KD2c_z w b1 b2 aE aF aJ aM aN aO aP aW aX bD tr tw r p2 N2 nla nl m pls mp rt' trt nm' tnm jt ta) := by
  walk_at "r"
variable {w b1 b2 N Tn pos G bB aH aE aA aF eX aJ aM aN aO aQ aP aW eY aX eZ bD eK N2 Tn2}
def KD2c_go := goC (KD2c_run w b1 b2 N Tn pos G bB aH aE aA aF eX aJ aM aN aO aQ aP aW eY aX eZ bD eK am tr tw so n k r p2 hp hc hx rt r0 w0 nm0 ps ts js hsp N2 Tn2 nla nl m hnl pls mp hpls rt' trt nm' tnm jt tj jj hjr hjt ta ja ha) (sK rfl) (by decide)
end
end
noncomputable abbrev dueF4 (w : World) (b1 b2 : Bool) (k1 k2 k3 k4 : Tok) (mvl nla pl : Addr) (rt : Str) (trt : Tok) : Obj := (fO 4 [de w b1 b2 z3 k1 (Value.ref mvl), de w b1 b2 z12 k2 (Value.ref nla), de w b1 b2 z11 k3 (Value.str rt trt), de w b1 b2 z9 k4 (Value.ref pl)])
noncomputable abbrev dueCo (si fn fr : Addr) : Ctx := ⟨.forLoop fl922.1 (Value.ref si) fl922.2.1 fl922.2.2 (eN914 fn), none, none, [(k914 fn ⟨922, 21, 922, 34⟩), (k921 fr ⟨939, 47, 939, 62⟩), callerB], none⟩
theorem tpV_get2 (done todo : List Tp) (t : Tp) : (tpV (done ++ t :: todo))[done.length]? = some t.v := by
  show ((done ++ t :: todo).map Tp.v)[done.length]? = _
  rw [List.getElem?_map, List.getElem?_append_right (Nat.le_refl _), Nat.sub_self]; rfl
section
variable {w : World} {b1 b2 : Bool} {h₀ : Heap} {U : List Addr} {d : Drawn} {os : OsState} {R : Result → Shared → Prop} {G : List GenState} {F : Rw}
theorem due_loop2 (so_ si fn fr mvl pl : Addr) (k1 k2 k3 k4 k5 k6 k7 : Tok) (n : Nat) (todo : List Tp) : ∀ (done ps : List Tp) (P : Plc) (nl : List (Str × Tok)) (N Tn m mp : Nat) (nla : Addr) (trt tr0 tw0 tnm0 : Tok) (r0 : Int) (w0 nm0 : Str) (pos : Pos) (h : Heap), (done ++ todo).length ≤ 8 → ps.length = done.length →
    Bd done.length P → nl.map cdS = P.2 → (∀ u ∈ todo, u.o ∈ F) → (∀ u ∈ todo, WayOk u.s) →
    At w b1 b2 h₀ U (tpF ps ++ F) h N [(so_, lsO ⟨tpV (done ++ todo)⟩ n), (si, liO so_ (done.length : Int)), (fn, dueF7 w b1 b2 k1 k2 k3 k4 k5 k6 k7 mvl nla pl (S P.1) trt r0 tr0 w0 tw0 nm0 tnm0), (nla, lsO ⟨strValues nl⟩ m), (pl, lsO ⟨tpV ps⟩ mp)] →
    (∀ h' N' T' (ps' : List Tp) (P' : Plc) m' nla' trt' r0' tr0' w0' tw0' nm0' tnm0', ps'.map Tp.k = ps.map Tp.k ++ walkL P (todo.map Tp.k) →
      At w b1 b2 h₀ U (tpF ps' ++ F) h' N' [(fn, dueF7 w b1 b2 k1 k2 k3 k4 k5 k6 k7 mvl nla' pl (S P'.1) trt' r0' tr0' w0' tw0' nm0' tnm0'), (pl, lsO ⟨tpV ps'⟩ m')] → R (.ok .next) ⟨h', ⟨G⟩, d, T', os⟩) →
    wpCode (mdl w) (dueCo si fn fr) R pos ⟨h, ⟨G⟩, d, Tn, os⟩ := by
  induction todo with
  | nil =>
    intro done ps P nl N Tn m mp nla trt tr0 tw0 tnm0 r0 w0 nm0 pos h hl hps B hnl hm hw A kk
    rw [List.append_nil] at A hl
    rw [show (done.length : Int) = ((tpV done).length : Int) from by rw [tpV_len]] at A
    have A1 := A.freeze (l := [_, _]) (e := [_, _, _])
    exact De_go (pos := pos) (tpV done) n (by rw [tpV_len]; exact hl) A1.ok A1.rep fun h' D => kk h' _ _ ps P mp nla trt r0 tr0 w0 tw0 nm0 tnm0 (by simp [walkL]) (((A1.next D).thaw (l := []) (e := [_, _, _])).pick [0, 2] (l' := [_, _]) rfl (by decide))
  | cons t todo ih =>
    intro done ps P nl N Tn m mp nla trt tr0 tw0 tnm0 r0 w0 nm0 pos h hl hps B hnl hm hw A kk
    obtain ⟨a, b, c, ew, ha, hb, hc, la, lb, lc⟩ := hw t (.head _)
    have hto := hm t (.head _)
    obtain ⟨am, r, tr, s, tw⟩ := t
    simp only at ew
    subst ew
    obtain ⟨t, et⟩ : ∃ t : Tp, t = ⟨am, r, tr, S (gl [a, b, c]), tw⟩ := ⟨_, rfl⟩
    rw [← et] at hto A hl hm hw kk
    have hx := tpV_get2 done todo t
    have hlen : (gl [a, b, c]).length = a.length + (b.length + c.length + 2) := by
      show (a ++ 47 :: (b ++ 47 :: c)).length = _
      simp; omega
    have hfree : ∀ p ∈ [a, b, c], 47 ∉ p := by
      intro p hp
      simp at hp
      rcases hp with rfl | rfl | rfl
      · exact ha
      · exact hb
      · exact hc
    have hd8 : done.length < 8 := by rw [List.length_append, List.length_cons] at hl; omega
    have hnl0 : nl.length + 3 ≤ 800 := by
      have h1 := congrArg List.length hnl
      rw [List.length_map] at h1
      have := B.len
      omega
    obtain ⟨F2, pf, A0⟩ := A.take (y := t.o) (List.mem_append_right _ hto)
    have A1 := (A0.pick [0, 1, 5, 2, 3, 4] (l' := [_, _, t.o, _, _, _]) rfl (by decide)).freeze (l := [_, _, _, _]) (e := [_, _])
    subst et
    by_cases h1a : a = []
    · subst h1a
      by_cases h1b : b = []
      · subst h1b
        have hwk : wk P [] [] c = ([47, 47], [[], [], c].foldl stp []) := by simp [wk]
        have hp2 : c.length ≤ 800 := by omega
        have hc0 : (c.take 1 != [47]) = true := by
          cases c with
          | nil => rfl
          | cons x xs =>
            have : x ≠ 47 := fun e => hc (by simp [e])
            simpa using this
        obtain ⟨ts, js, hts, hsp⟩ := splitSl w [[], [], c] (by simp) hfree (by omega) tw (Tn + 16) (N + 7) (Tn + 17)
        have hcd := zip_cdS [[], [], c] ts hts
        cases hz : ([[], [], c].map S).zip ts with
        | nil => rw [hz] at hcd; cases hcd
        | cons x0 xs9 =>
          rw [hz] at hcd
          have hx3 : (x0 :: xs9).length ≤ 3 := by
            have := congrArg List.length hcd
            rw [List.length_map] at this
            exact Nat.le_of_eq this
          refine D2c_go (pos := pos) am tr tw (tpV (done ++ (Tp.mk am r tr (S (gl [[], [], c])) tw) :: todo)) n done.length r c hp2 hc0 hx (S P.1) r0 w0 nm0 ([[], [], c].map S) ts js hsp A1.ok A1.rep fun h1 pp D => ?_
          have A2a := ((A1.next D).thaw (l := [_, _, _, _, _, _, _]) (e := [_, _])).pick [4, 5, 3, 6, 0, 1, 2, 8] (l' := [((N + 7), lsO ⟨zipV ([[], [], c].map S) ts⟩ 0), _, _, _, _, _, _, _]) rfl (by decide)
          rw [zipV_sv, hz] at A2a
          have A2 := A2a.freeze (l := [_, _, _, _]) (e := [_, _, _, _])
          refine names_loop2 (N + 7) (N + 8) fn si fr mvl pl k1 k2 k3 k4 k5 k6 k7 z37 (Tn + 13) r tr (S (gl [[], [], c])) tw (x0 :: xs9) [] [] _ _ 0 (N + 6) nm0 tnm0 pp h1 hx3 (by first | omega | (simp only [List.length_nil]; omega)) A2 ?_
          intro h2 N2 T2 nla2 nl2 m2 nm2 tnm2 q A3
          rw [hcd] at q
          have ewk : wk P ([]) ([]) c = ([47, 47], nl2.map cdS) := by rw [q]; exact hwk
          have hB2 := B.step ha hb hc la lb lc
          rw [ewk] at hB2
          have hwt : wt (nl2.map cdS) ≤ 200 := by have : wt (nl2.map cdS) ≤ 15 * (done.length + 1) := hB2.bd; omega
          have hjt : (joinR (S [47]) nl2 (T2 + 1)).1 = S (gl (nl2.map cdS)) := joinR_text _ _
          have hjl : (S (gl (nl2.map cdS))).length ≤ 200 := Nat.le_trans (gl_le _) hwt
          generalize hJ : joinR (S [47]) nl2 (T2 + 1) = J at hjt
          obtain ⟨jt, tj, jj⟩ := J
          subst hjt
          have hrl : z37.length ≠ 0 ∧ z37.length ≤ 2 := by decide
          obtain ⟨ta, ja, hadd⟩ := addOk' w z37 (Tn + 13) (S (gl (nl2.map cdS))) tj N2 (T2 + (1 + jj)) hrl.1 (small_line (by rw [len_app]; omega))
          have A4 := ((A3.thaw (l := [_, _]) (e := [_, _, _, _])).pick [0, 5, 1, 2, 3, 4] (l' := [_, _, _, _, _, _]) rfl (by decide)).freeze (l := [_, _, _]) (e := [_, _, _])
          refine KD2c_go (pos := pos) (G := G) (N2 := N2) (Tn2 := T2) am tr tw (tpV (done ++ (Tp.mk am r tr (S (gl [[], [], c])) tw) :: todo)) n done.length r c hp2 hc0 hx (S P.1) r0 w0 nm0 ([[], [], c].map S) ts js hsp nla2 nl2 m2 (by rw [fold_wt]; omega) (tpV ps) mp (by rw [tpV_len]; omega) z37 (Tn + 13) nm2 tnm2 (S (gl (nl2.map cdS))) tj jj hJ (by omega) ta ja hadd A4.ok A4.rep fun h3 pp3 D3 => ?_
          let u : Tp := ⟨N2, r, tr, z37 ++ S (gl (nl2.map cdS)), ta⟩
          have A5 := ((A4.next D3).thaw (l := [_, (pl, lsO ⟨tpV ps ++ [u.v]⟩ (mp + 1)), _, u.o]) (e := [_, _, _])).pick [4, 5, 0, 2, 1, 3, 6] (l' := [_, _, _, _, _, u.o, (Tp.mk am r tr (S (gl [[], [], c])) tw).o]) rfl (by decide)
          have A6 := (A5.give (l := [_, _, _, _, _, _]) (y := (Tp.mk am r tr (S (gl [[], [], c])) tw).o) pf)
          have A7 := (A6.freeze (l := [_, _, _, _, _]) (e := [u.o])).permF (tpF_snoc ps u F)
          rw [tpV_snoc] at A7
          have e : done ++ (Tp.mk am r tr (S (gl [[], [], c])) tw) :: todo = (done ++ [(Tp.mk am r tr (S (gl [[], [], c])) tw)]) ++ todo := by rw [List.append_assoc]; rfl
          have el : ((done.length : Int) + 1) = ((done ++ [(Tp.mk am r tr (S (gl [[], [], c])) tw)]).length : Int) := by simp
          rw [el, e] at A7
          have eu : u.k = ((Tp.mk am r tr (S (gl [[], [], c])) tw).r, plT (wkS P (Tp.mk am r tr (S (gl [[], [], c])) tw).s)) := by
            show (r, z37 ++ S (gl (nl2.map cdS))) = (r, plT (wkS P (S (gl [[], [], c]))))
            rw [wkS_gl P ha hb hc, ewk, S_app]
          refine ih (done ++ [(Tp.mk am r tr (S (gl [[], [], c])) tw)]) (ps ++ [u]) ([47, 47], nl2.map cdS) nl2 _ _ m2 (mp + 1) nla2 _ tr tw tnm2 r (S (gl [[], [], c])) nm2 pp3 h3 (by rw [← e]; exact hl) (by rw [List.length_append, List.length_append, hps]; rfl) (by rw [List.length_append]; exact hB2) rfl (fun v hv => hm v (List.mem_cons_of_mem _ hv)) (fun v hv => hw v (List.mem_cons_of_mem _ hv)) A7 ?_
          intro h4 N4 T4 ps4 P4 m4 nla4 trt4 r4 tr4 w4 tw4 nm4 tnm4 q4 A8
          refine kk h4 N4 T4 ps4 P4 m4 nla4 trt4 r4 tr4 w4 tw4 nm4 tnm4 ?_ A8
          rw [q4, List.map_append, List.append_assoc]
          show _ ++ (u.k :: walkL _ _) = _ ++ walkL P ((r, S (gl [[], [], c])) :: todo.map Tp.k)
          rw [eu, ← ewk, ← wkS_gl P ha hb hc]; rfl
      · have hwk : wk P [] b c = ([47], [[], b, c].foldl stp []) := by simp [wk, h1b]
        obtain ⟨c0, xs, rfl⟩ := List.exists_cons_of_ne_nil h1b
        have hc0 : ([c0] == [47]) = false := by
          have : c0 ≠ 47 := fun e => hb (by simp [e])
          simpa using this
        obtain ⟨p2, ep2⟩ : ∃ p2, p2 = xs ++ 47 :: c := ⟨_, rfl⟩
        have hp2 : p2.length ≤ 800 := by rw [ep2, List.length_append, List.length_cons]; rw [List.length_cons] at lb; omega
        subst ep2
        obtain ⟨ts, js, hts, hsp⟩ := splitSl w [[], c0 :: xs, c] (by simp) hfree (by omega) tw (Tn + 12) (N + 6) (Tn + 13)
        have hcd := zip_cdS [[], c0 :: xs, c] ts hts
        cases hz : ([[], c0 :: xs, c].map S).zip ts with
        | nil => rw [hz] at hcd; cases hcd
        | cons x0 xs9 =>
          rw [hz] at hcd
          have hx3 : (x0 :: xs9).length ≤ 3 := by
            have := congrArg List.length hcd
            rw [List.length_map] at this
            exact Nat.le_of_eq this
          refine D2b_go (pos := pos) am tr tw (tpV (done ++ (Tp.mk am r tr (S (gl [[], c0 :: xs, c])) tw) :: todo)) n done.length r c0 (xs ++ 47 :: c) hc0 hp2 hx (S P.1) r0 w0 nm0 ([[], c0 :: xs, c].map S) ts js hsp A1.ok A1.rep fun h1 pp D => ?_
          have A2a := ((A1.next D).thaw (l := [_, _, _, _, _, _, _]) (e := [_, _])).pick [4, 5, 3, 6, 0, 1, 2, 8] (l' := [((N + 6), lsO ⟨zipV ([[], c0 :: xs, c].map S) ts⟩ 0), _, _, _, _, _, _, _]) rfl (by decide)
          rw [zipV_sv, hz] at A2a
          have A2 := A2a.freeze (l := [_, _, _, _]) (e := [_, _, _, _])
          refine names_loop2 (N + 6) (N + 7) fn si fr mvl pl k1 k2 k3 k4 k5 k6 k7 (S [47]) (Tn + 9) r tr (S (gl [[], c0 :: xs, c])) tw (x0 :: xs9) [] [] _ _ 0 (N + 5) nm0 tnm0 pp h1 hx3 (by first | omega | (simp only [List.length_nil]; omega)) A2 ?_
          intro h2 N2 T2 nla2 nl2 m2 nm2 tnm2 q A3
          rw [hcd] at q
          have ewk : wk P ([]) (c0 :: xs) c = ([47], nl2.map cdS) := by rw [q]; exact hwk
          have hB2 := B.step ha hb hc la lb lc
          rw [ewk] at hB2
          have hwt : wt (nl2.map cdS) ≤ 200 := by have : wt (nl2.map cdS) ≤ 15 * (done.length + 1) := hB2.bd; omega
          have hjt : (joinR (S [47]) nl2 (T2 + 1)).1 = S (gl (nl2.map cdS)) := joinR_text _ _
          have hjl : (S (gl (nl2.map cdS))).length ≤ 200 := Nat.le_trans (gl_le _) hwt
          generalize hJ : joinR (S [47]) nl2 (T2 + 1) = J at hjt
          obtain ⟨jt, tj, jj⟩ := J
          subst hjt
          have hrl : (S [47]).length ≠ 0 ∧ (S [47]).length ≤ 2 := by decide
          obtain ⟨ta, ja, hadd⟩ := addOk' w (S [47]) (Tn + 9) (S (gl (nl2.map cdS))) tj N2 (T2 + (1 + jj)) hrl.1 (small_line (by rw [len_app]; omega))
          have A4 := ((A3.thaw (l := [_, _]) (e := [_, _, _, _])).pick [0, 5, 1, 2, 3, 4] (l' := [_, _, _, _, _, _]) rfl (by decide)).freeze (l := [_, _, _]) (e := [_, _, _])
          refine KD2b_go (pos := pos) (G := G) (N2 := N2) (Tn2 := T2) am tr tw (tpV (done ++ (Tp.mk am r tr (S (gl [[], c0 :: xs, c])) tw) :: todo)) n done.length r c0 (xs ++ 47 :: c) hc0 hp2 hx (S P.1) r0 w0 nm0 ([[], c0 :: xs, c].map S) ts js hsp nla2 nl2 m2 (by rw [fold_wt]; omega) (tpV ps) mp (by rw [tpV_len]; omega) (S [47]) (Tn + 9) nm2 tnm2 (S (gl (nl2.map cdS))) tj jj hJ (by omega) ta ja hadd A4.ok A4.rep fun h3 pp3 D3 => ?_
          let u : Tp := ⟨N2, r, tr, (S [47]) ++ S (gl (nl2.map cdS)), ta⟩
          have A5 := ((A4.next D3).thaw (l := [_, (pl, lsO ⟨tpV ps ++ [u.v]⟩ (mp + 1)), _, u.o]) (e := [_, _, _])).pick [4, 5, 0, 2, 1, 3, 6] (l' := [_, _, _, _, _, u.o, (Tp.mk am r tr (S (gl [[], c0 :: xs, c])) tw).o]) rfl (by decide)
          have A6 := (A5.give (l := [_, _, _, _, _, _]) (y := (Tp.mk am r tr (S (gl [[], c0 :: xs, c])) tw).o) pf)
          have A7 := (A6.freeze (l := [_, _, _, _, _]) (e := [u.o])).permF (tpF_snoc ps u F)
          rw [tpV_snoc] at A7
          have e : done ++ (Tp.mk am r tr (S (gl [[], c0 :: xs, c])) tw) :: todo = (done ++ [(Tp.mk am r tr (S (gl [[], c0 :: xs, c])) tw)]) ++ todo := by rw [List.append_assoc]; rfl
          have el : ((done.length : Int) + 1) = ((done ++ [(Tp.mk am r tr (S (gl [[], c0 :: xs, c])) tw)]).length : Int) := by simp
          rw [el, e] at A7
          have eu : u.k = ((Tp.mk am r tr (S (gl [[], c0 :: xs, c])) tw).r, plT (wkS P (Tp.mk am r tr (S (gl [[], c0 :: xs, c])) tw).s)) := by
            show (r, (S [47]) ++ S (gl (nl2.map cdS))) = (r, plT (wkS P (S (gl [[], c0 :: xs, c]))))
            rw [wkS_gl P ha hb hc, ewk, S_app]
          refine ih (done ++ [(Tp.mk am r tr (S (gl [[], c0 :: xs, c])) tw)]) (ps ++ [u]) ([47], nl2.map cdS) nl2 _ _ m2 (mp + 1) nla2 _ tr tw tnm2 r (S (gl [[], c0 :: xs, c])) nm2 pp3 h3 (by rw [← e]; exact hl) (by rw [List.length_append, List.length_append, hps]; rfl) (by rw [List.length_append]; exact hB2) rfl (fun v hv => hm v (List.mem_cons_of_mem _ hv)) (fun v hv => hw v (List.mem_cons_of_mem _ hv)) A7 ?_
          intro h4 N4 T4 ps4 P4 m4 nla4 trt4 r4 tr4 w4 tw4 nm4 tnm4 q4 A8
          refine kk h4 N4 T4 ps4 P4 m4 nla4 trt4 r4 tr4 w4 tw4 nm4 tnm4 ?_ A8
          rw [q4, List.map_append, List.append_assoc]
          show _ ++ (u.k :: walkL _ _) = _ ++ walkL P ((r, S (gl [[], c0 :: xs, c])) :: todo.map Tp.k)
          rw [eu, ← ewk, ← wkS_gl P ha hb hc]; rfl
    · have hwk : wk P a b c = (P.1, [a, b, c].foldl stp (nl.map cdS)) := by rw [hnl]; unfold wk; rw [if_neg h1a]
      obtain ⟨c0, xs, rfl⟩ := List.exists_cons_of_ne_nil h1a
      have hc0 : ([c0] == [47]) = false := by
        have : c0 ≠ 47 := fun e => ha (by simp [e])
        simpa using this
      have hp1 : xs ++ 47 :: (b ++ 47 :: c) ≠ [] := by simp
      have hp2 : (xs ++ 47 :: (b ++ 47 :: c)).length ≤ 800 := by
        simp only [List.length_append, List.length_cons] at la ⊢; omega
      obtain ⟨ts, js, hts, hsp⟩ := splitSl w [c0 :: xs, b, c] (by simp) hfree (by omega) tw (Tn + 5) (N + 4) (Tn + 6)
      have hcd := zip_cdS [c0 :: xs, b, c] ts hts
      cases hz : ([c0 :: xs, b, c].map S).zip ts with
      | nil => rw [hz] at hcd; cases hcd
      | cons x0 xs9 =>
        rw [hz] at hcd
        have hx3 : (x0 :: xs9).length ≤ 3 := by
          have := congrArg List.length hcd
          rw [List.length_map] at this
          exact Nat.le_of_eq this
        refine D2a_go (pos := pos) am tr tw (tpV (done ++ (Tp.mk am r tr (S (gl [c0 :: xs, b, c])) tw) :: todo)) n done.length r c0 (xs ++ 47 :: (b ++ 47 :: c)) hp1 hc0 hp2 hx (S P.1) r0 w0 nm0 ([c0 :: xs, b, c].map S) ts js hsp A1.ok A1.rep fun h1 pp D => ?_
        have A2a := ((A1.next D).thaw (l := [_, _, _, _, _, _]) (e := [_, _])).pick [4, 5, 3, 6, 0, 1, 2, 7] (l' := [((N + 4), lsO ⟨zipV ([c0 :: xs, b, c].map S) ts⟩ 0), _, _, _, _, _, _, _]) rfl (by decide)
        rw [zipV_sv, hz] at A2a
        have A2 := A2a.freeze (l := [_, _, _, _]) (e := [_, _, _, _])
        refine names_loop2 (N + 4) (N + 5) fn si fr mvl pl k1 k2 k3 k4 k5 k6 k7 (S P.1) trt r tr (S (gl [c0 :: xs, b, c])) tw (x0 :: xs9) [] nl _ _ (m) (nla) nm0 tnm0 pp h1 hx3 (by first | omega | (simp only [List.length_nil]; omega)) A2 ?_
        intro h2 N2 T2 nla2 nl2 m2 nm2 tnm2 q A3
        rw [hcd] at q
        have ewk : wk P (c0 :: xs) (b) c = (P.1, nl2.map cdS) := by rw [q]; exact hwk
        have hB2 := B.step ha hb hc la lb lc
        rw [ewk] at hB2
        have hwt : wt (nl2.map cdS) ≤ 200 := by have : wt (nl2.map cdS) ≤ 15 * (done.length + 1) := hB2.bd; omega
        have hjt : (joinR (S [47]) nl2 (T2 + 1)).1 = S (gl (nl2.map cdS)) := joinR_text _ _
        have hjl : (S (gl (nl2.map cdS))).length ≤ 200 := Nat.le_trans (gl_le _) hwt
        generalize hJ : joinR (S [47]) nl2 (T2 + 1) = J at hjt
        obtain ⟨jt, tj, jj⟩ := J
        subst hjt
        have hrl : (S P.1).length ≠ 0 ∧ (S P.1).length ≤ 2 := by rcases B.ok.root with e | e <;> (rw [e]; decide)
        obtain ⟨ta, ja, hadd⟩ := addOk' w (S P.1) trt (S (gl (nl2.map cdS))) tj N2 (T2 + (1 + jj)) hrl.1 (small_line (by rw [len_app]; omega))
        have A4 := ((A3.thaw (l := [_, _]) (e := [_, _, _, _])).pick [0, 5, 1, 2, 3, 4] (l' := [_, _, _, _, _, _]) rfl (by decide)).freeze (l := [_, _, _]) (e := [_, _, _])
        refine KD2a_go (pos := pos) (G := G) (N2 := N2) (Tn2 := T2) am tr tw (tpV (done ++ (Tp.mk am r tr (S (gl [c0 :: xs, b, c])) tw) :: todo)) n done.length r c0 (xs ++ 47 :: (b ++ 47 :: c)) hp1 hc0 hp2 hx (S P.1) r0 w0 nm0 ([c0 :: xs, b, c].map S) ts js hsp nla2 nl2 m2 (by rw [fold_wt]; omega) (tpV ps) mp (by rw [tpV_len]; omega) (S P.1) trt nm2 tnm2 (S (gl (nl2.map cdS))) tj jj hJ (by omega) ta ja hadd A4.ok A4.rep fun h3 pp3 D3 => ?_
        let u : Tp := ⟨N2, r, tr, (S P.1) ++ S (gl (nl2.map cdS)), ta⟩
        have A5 := ((A4.next D3).thaw (l := [_, (pl, lsO ⟨tpV ps ++ [u.v]⟩ (mp + 1)), _, u.o]) (e := [_, _, _])).pick [4, 5, 0, 2, 1, 3, 6] (l' := [_, _, _, _, _, u.o, (Tp.mk am r tr (S (gl [c0 :: xs, b, c])) tw).o]) rfl (by decide)
        have A6 := (A5.give (l := [_, _, _, _, _, _]) (y := (Tp.mk am r tr (S (gl [c0 :: xs, b, c])) tw).o) pf)
        have A7 := (A6.freeze (l := [_, _, _, _, _]) (e := [u.o])).permF (tpF_snoc ps u F)
        rw [tpV_snoc] at A7
        have e : done ++ (Tp.mk am r tr (S (gl [c0 :: xs, b, c])) tw) :: todo = (done ++ [(Tp.mk am r tr (S (gl [c0 :: xs, b, c])) tw)]) ++ todo := by rw [List.append_assoc]; rfl
        have el : ((done.length : Int) + 1) = ((done ++ [(Tp.mk am r tr (S (gl [c0 :: xs, b, c])) tw)]).length : Int) := by simp
        rw [el, e] at A7
        have eu : u.k = ((Tp.mk am r tr (S (gl [c0 :: xs, b, c])) tw).r, plT (wkS P (Tp.mk am r tr (S (gl [c0 :: xs, b, c])) tw).s)) := by
          show (r, (S P.1) ++ S (gl (nl2.map cdS))) = (r, plT (wkS P (S (gl [c0 :: xs, b, c]))))
          rw [wkS_gl P ha hb hc, ewk, S_app]
        refine ih (done ++ [(Tp.mk am r tr (S (gl [c0 :: xs, b, c])) tw)]) (ps ++ [u]) (P.1, nl2.map cdS) nl2 _ _ m2 (mp + 1) nla2 trt tr tw tnm2 r (S (gl [c0 :: xs, b, c])) nm2 pp3 h3 (by rw [← e]; exact hl) (by rw [List.length_append, List.length_append, hps]; rfl) (by rw [List.length_append]; exact hB2) rfl (fun v hv => hm v (List.mem_cons_of_mem _ hv)) (fun v hv => hw v (List.mem_cons_of_mem _ hv)) A7 ?_
        intro h4 N4 T4 ps4 P4 m4 nla4 trt4 r4 tr4 w4 tw4 nm4 tnm4 q4 A8
        refine kk h4 N4 T4 ps4 P4 m4 nla4 trt4 r4 tr4 w4 tw4 nm4 tnm4 ?_ A8
        rw [q4, List.map_append, List.append_assoc]
        show _ ++ (u.k :: walkL _ _) = _ ++ walkL P ((r, S (gl [c0 :: xs, b, c])) :: todo.map Tp.k)
        rw [eu, ← ewk, ← wkS_gl P ha hb hc]; rfl
theorem due_loop1 (so_ si fn fr mvl pl : Addr) (k1 k2 k3 k4 : Tok) (n : Nat) (todo : List Tp) (t : Tp) (P : Plc) (done ps : List Tp) (nl : List (Str × Tok)) (N Tn m mp : Nat) (nla : Addr) (trt : Tok) (pos : Pos) (h : Heap) (hl : (done ++ t :: todo).length ≤ 8) (hps : ps.length = done.length)
    (B : Bd done.length P) (hnl : nl.map cdS = P.2) (hm : ∀ u ∈ t :: todo, u.o ∈ F) (hw : ∀ u ∈ t :: todo, WayOk u.s)
    (A : At w b1 b2 h₀ U (tpF ps ++ F) h N [(so_, lsO ⟨tpV (done ++ t :: todo)⟩ n), (si, liO so_ (done.length : Int)), (fn, dueF4 w b1 b2 k1 k2 k3 k4 mvl nla pl (S P.1) trt), (nla, lsO ⟨strValues nl⟩ m), (pl, lsO ⟨tpV ps⟩ mp)])
    (kk : ∀ h' N' T' (ps' : List Tp) (P' : Plc) m' k5 k6 k7 nla' trt' r0' tr0' w0' tw0' nm0' tnm0', ps'.map Tp.k = ps.map Tp.k ++ walkL P ((t :: todo).map Tp.k) →
      At w b1 b2 h₀ U (tpF ps' ++ F) h' N' [(fn, dueF7 w b1 b2 k1 k2 k3 k4 k5 k6 k7 mvl nla' pl (S P'.1) trt' r0' tr0' w0' tw0' nm0' tnm0'), (pl, lsO ⟨tpV ps'⟩ m')] → R (.ok .next) ⟨h', ⟨G⟩, d, T', os⟩) :
    wpCode (mdl w) (dueCo si fn fr) R pos ⟨h, ⟨G⟩, d, Tn, os⟩ := by
    obtain ⟨a, b, c, ew, ha, hb, hc, la, lb, lc⟩ := hw t (.head _)
    have hto := hm t (.head _)
    obtain ⟨am, r, tr, s, tw⟩ := t
    simp only at ew
    subst ew
    obtain ⟨t, et⟩ : ∃ t : Tp, t = ⟨am, r, tr, S (gl [a, b, c]), tw⟩ := ⟨_, rfl⟩
    rw [← et] at hto A hl hm hw kk
    have hx := tpV_get2 done todo t
    have hlen : (gl [a, b, c]).length = a.length + (b.length + c.length + 2) := by
      show (a ++ 47 :: (b ++ 47 :: c)).length = _
      simp; omega
    have hfree : ∀ p ∈ [a, b, c], 47 ∉ p := by
      intro p hp
      simp at hp
      rcases hp with rfl | rfl | rfl
      · exact ha
      · exact hb
      · exact hc
    have hd8 : done.length < 8 := by rw [List.length_append, List.length_cons] at hl; omega
    have hnl0 : nl.length + 3 ≤ 800 := by
      have h1 := congrArg List.length hnl
      rw [List.length_map] at h1
      have := B.len
      omega
    obtain ⟨F2, pf, A0⟩ := A.take (y := t.o) (List.mem_append_right _ hto)
    have A1 := (A0.pick [0, 1, 5, 2, 3, 4] (l' := [_, _, t.o, _, _, _]) rfl (by decide)).freeze (l := [_, _, _, _]) (e := [_, _])
    subst et
    by_cases h1a : a = []
    · subst h1a
      by_cases h1b : b = []
      · subst h1b
        have hwk : wk P [] [] c = ([47, 47], [[], [], c].foldl stp []) := by simp [wk]
        have hp2 : c.length ≤ 800 := by omega
        have hc0 : (c.take 1 != [47]) = true := by
          cases c with
          | nil => rfl
          | cons x xs =>
            have : x ≠ 47 := fun e => hc (by simp [e])
            simpa using this
        obtain ⟨ts, js, hts, hsp⟩ := splitSl w [[], [], c] (by simp) hfree (by omega) tw (Tn + 16) (N + 7) (Tn + 17)
        have hcd := zip_cdS [[], [], c] ts hts
        cases hz : ([[], [], c].map S).zip ts with
        | nil => rw [hz] at hcd; cases hcd
        | cons x0 xs9 =>
          rw [hz] at hcd
          have hx3 : (x0 :: xs9).length ≤ 3 := by
            have := congrArg List.length hcd
            rw [List.length_map] at this
            exact Nat.le_of_eq this
          refine D1c_go (pos := pos) am tr tw (tpV (done ++ (Tp.mk am r tr (S (gl [[], [], c])) tw) :: todo)) n done.length r c hp2 hc0 hx (S P.1) ([[], [], c].map S) ts js hsp A1.ok A1.rep fun h1 pp D => ?_
          have A2a := ((A1.next D).thaw (l := [_, _, _, _, _, _, _]) (e := [_, _])).pick [4, 5, 3, 6, 0, 1, 2, 8] (l' := [((N + 7), lsO ⟨zipV ([[], [], c].map S) ts⟩ 0), _, _, _, _, _, _, _]) rfl (by decide)
          rw [zipV_sv, hz] at A2a
          have A2 := A2a.freeze (l := [_, _, _, _]) (e := [_, _, _, _])
          refine names_loop1 (N + 7) (N + 8) fn si fr mvl pl k1 k2 k3 k4 Tn (Tn + 1) z37 (Tn + 13) r tr (S (gl [[], [], c])) tw x0 xs9 [] _ _ 0 (N + 6) pp h1 hx3 (by first | omega | (simp only [List.length_nil]; omega)) A2 ?_
          intro h2 N2 T2 nla2 nl2 m2 k7 nm2 tnm2 q A3
          rw [hcd] at q
          have ewk : wk P ([]) ([]) c = ([47, 47], nl2.map cdS) := by rw [q]; exact hwk
          have hB2 := B.step ha hb hc la lb lc
          rw [ewk] at hB2
          have hwt : wt (nl2.map cdS) ≤ 200 := by have : wt (nl2.map cdS) ≤ 15 * (done.length + 1) := hB2.bd; omega
          have hjt : (joinR (S [47]) nl2 (T2 + 1)).1 = S (gl (nl2.map cdS)) := joinR_text _ _
          have hjl : (S (gl (nl2.map cdS))).length ≤ 200 := Nat.le_trans (gl_le _) hwt
          generalize hJ : joinR (S [47]) nl2 (T2 + 1) = J at hjt
          obtain ⟨jt, tj, jj⟩ := J
          subst hjt
          have hrl : z37.length ≠ 0 ∧ z37.length ≤ 2 := by decide
          obtain ⟨ta, ja, hadd⟩ := addOk' w z37 (Tn + 13) (S (gl (nl2.map cdS))) tj N2 (T2 + (1 + jj)) hrl.1 (small_line (by rw [len_app]; omega))
          have A4 := ((A3.thaw (l := [_, _]) (e := [_, _, _, _])).pick [0, 5, 1, 2, 3, 4] (l' := [_, _, _, _, _, _]) rfl (by decide)).freeze (l := [_, _, _]) (e := [_, _, _])
          refine KD1c_go (pos := pos) (G := G) (N2 := N2) (Tn2 := T2) am tr tw (tpV (done ++ (Tp.mk am r tr (S (gl [[], [], c])) tw) :: todo)) n done.length r c hp2 hc0 hx (S P.1) ([[], [], c].map S) ts js hsp k7 nla2 nl2 m2 (by rw [fold_wt]; omega) (tpV ps) mp (by rw [tpV_len]; omega) z37 (Tn + 13) nm2 tnm2 (S (gl (nl2.map cdS))) tj jj hJ (by omega) ta ja hadd A4.ok A4.rep fun h3 pp3 D3 => ?_
          let u : Tp := ⟨N2, r, tr, z37 ++ S (gl (nl2.map cdS)), ta⟩
          have A5 := ((A4.next D3).thaw (l := [_, (pl, lsO ⟨tpV ps ++ [u.v]⟩ (mp + 1)), _, u.o]) (e := [_, _, _])).pick [4, 5, 0, 2, 1, 3, 6] (l' := [_, _, _, _, _, u.o, (Tp.mk am r tr (S (gl [[], [], c])) tw).o]) rfl (by decide)
          have A6 := (A5.give (l := [_, _, _, _, _, _]) (y := (Tp.mk am r tr (S (gl [[], [], c])) tw).o) pf)
          have A7 := (A6.freeze (l := [_, _, _, _, _]) (e := [u.o])).permF (tpF_snoc ps u F)
          rw [tpV_snoc] at A7
          have e : done ++ (Tp.mk am r tr (S (gl [[], [], c])) tw) :: todo = (done ++ [(Tp.mk am r tr (S (gl [[], [], c])) tw)]) ++ todo := by rw [List.append_assoc]; rfl
          have el : ((done.length : Int) + 1) = ((done ++ [(Tp.mk am r tr (S (gl [[], [], c])) tw)]).length : Int) := by simp
          rw [el, e] at A7
          have eu : u.k = ((Tp.mk am r tr (S (gl [[], [], c])) tw).r, plT (wkS P (Tp.mk am r tr (S (gl [[], [], c])) tw).s)) := by
            show (r, z37 ++ S (gl (nl2.map cdS))) = (r, plT (wkS P (S (gl [[], [], c]))))
            rw [wkS_gl P ha hb hc, ewk, S_app]
          refine due_loop2 so_ si fn fr mvl pl k1 k2 k3 k4 Tn (Tn + 1) k7 n todo (done ++ [(Tp.mk am r tr (S (gl [[], [], c])) tw)]) (ps ++ [u]) ([47, 47], nl2.map cdS) nl2 _ _ m2 (mp + 1) nla2 _ tr tw tnm2 r (S (gl [[], [], c])) nm2 pp3 h3 (by rw [← e]; exact hl) (by rw [List.length_append, List.length_append, hps]; rfl) (by rw [List.length_append]; exact hB2) rfl (fun v hv => hm v (List.mem_cons_of_mem _ hv)) (fun v hv => hw v (List.mem_cons_of_mem _ hv)) A7 ?_
          intro h4 N4 T4 ps4 P4 m4 nla4 trt4 r4 tr4 w4 tw4 nm4 tnm4 q4 A8
          refine kk h4 N4 T4 ps4 P4 m4 _ _ _ nla4 trt4 r4 tr4 w4 tw4 nm4 tnm4 ?_ A8
          rw [q4, List.map_append, List.append_assoc]
          show _ ++ (u.k :: walkL _ _) = _ ++ walkL P ((r, S (gl [[], [], c])) :: todo.map Tp.k)
          rw [eu, ← ewk, ← wkS_gl P ha hb hc]; rfl
      · have hwk : wk P [] b c = ([47], [[], b, c].foldl stp []) := by simp [wk, h1b]
        obtain ⟨c0, xs, rfl⟩ := List.exists_cons_of_ne_nil h1b
        have hc0 : ([c0] == [47]) = false := by
          have : c0 ≠ 47 := fun e => hb (by simp [e])
          simpa using this
        obtain ⟨p2, ep2⟩ : ∃ p2, p2 = xs ++ 47 :: c := ⟨_, rfl⟩
        have hp2 : p2.length ≤ 800 := by rw [ep2, List.length_append, List.length_cons]; rw [List.length_cons] at lb; omega
        subst ep2
        obtain ⟨ts, js, hts, hsp⟩ := splitSl w [[], c0 :: xs, c] (by simp) hfree (by omega) tw (Tn + 12) (N + 6) (Tn + 13)
        have hcd := zip_cdS [[], c0 :: xs, c] ts hts
        cases hz : ([[], c0 :: xs, c].map S).zip ts with
        | nil => rw [hz] at hcd; cases hcd
        | cons x0 xs9 =>
          rw [hz] at hcd
          have hx3 : (x0 :: xs9).length ≤ 3 := by
            have := congrArg List.length hcd
            rw [List.length_map] at this
            exact Nat.le_of_eq this
          refine D1b_go (pos := pos) am tr tw (tpV (done ++ (Tp.mk am r tr (S (gl [[], c0 :: xs, c])) tw) :: todo)) n done.length r c0 (xs ++ 47 :: c) hc0 hp2 hx (S P.1) ([[], c0 :: xs, c].map S) ts js hsp A1.ok A1.rep fun h1 pp D => ?_
          have A2a := ((A1.next D).thaw (l := [_, _, _, _, _, _, _]) (e := [_, _])).pick [4, 5, 3, 6, 0, 1, 2, 8] (l' := [((N + 6), lsO ⟨zipV ([[], c0 :: xs, c].map S) ts⟩ 0), _, _, _, _, _, _, _]) rfl (by decide)
          rw [zipV_sv, hz] at A2a
          have A2 := A2a.freeze (l := [_, _, _, _]) (e := [_, _, _, _])
          refine names_loop1 (N + 6) (N + 7) fn si fr mvl pl k1 k2 k3 k4 Tn (Tn + 1) (S [47]) (Tn + 9) r tr (S (gl [[], c0 :: xs, c])) tw x0 xs9 [] _ _ 0 (N + 5) pp h1 hx3 (by first | omega | (simp only [List.length_nil]; omega)) A2 ?_
          intro h2 N2 T2 nla2 nl2 m2 k7 nm2 tnm2 q A3
          rw [hcd] at q
          have ewk : wk P ([]) (c0 :: xs) c = ([47], nl2.map cdS) := by rw [q]; exact hwk
          have hB2 := B.step ha hb hc la lb lc
          rw [ewk] at hB2
          have hwt : wt (nl2.map cdS) ≤ 200 := by have : wt (nl2.map cdS) ≤ 15 * (done.length + 1) := hB2.bd; omega
          have hjt : (joinR (S [47]) nl2 (T2 + 1)).1 = S (gl (nl2.map cdS)) := joinR_text _ _
          have hjl : (S (gl (nl2.map cdS))).length ≤ 200 := Nat.le_trans (gl_le _) hwt
          generalize hJ : joinR (S [47]) nl2 (T2 + 1) = J at hjt
          obtain ⟨jt, tj, jj⟩ := J
          subst hjt
          have hrl : (S [47]).length ≠ 0 ∧ (S [47]).length ≤ 2 := by decide
          obtain ⟨ta, ja, hadd⟩ := addOk' w (S [47]) (Tn + 9) (S (gl (nl2.map cdS))) tj N2 (T2 + (1 + jj)) hrl.1 (small_line (by rw [len_app]; omega))
          have A4 := ((A3.thaw (l := [_, _]) (e := [_, _, _, _])).pick [0, 5, 1, 2, 3, 4] (l' := [_, _, _, _, _, _]) rfl (by decide)).freeze (l := [_, _, _]) (e := [_, _, _])
          refine KD1b_go (pos := pos) (G := G) (N2 := N2) (Tn2 := T2) am tr tw (tpV (done ++ (Tp.mk am r tr (S (gl [[], c0 :: xs, c])) tw) :: todo)) n done.length r c0 (xs ++ 47 :: c) hc0 hp2 hx (S P.1) ([[], c0 :: xs, c].map S) ts js hsp k7 nla2 nl2 m2 (by rw [fold_wt]; omega) (tpV ps) mp (by rw [tpV_len]; omega) (S [47]) (Tn + 9) nm2 tnm2 (S (gl (nl2.map cdS))) tj jj hJ (by omega) ta ja hadd A4.ok A4.rep fun h3 pp3 D3 => ?_
          let u : Tp := ⟨N2, r, tr, (S [47]) ++ S (gl (nl2.map cdS)), ta⟩
          have A5 := ((A4.next D3).thaw (l := [_, (pl, lsO ⟨tpV ps ++ [u.v]⟩ (mp + 1)), _, u.o]) (e := [_, _, _])).pick [4, 5, 0, 2, 1, 3, 6] (l' := [_, _, _, _, _, u.o, (Tp.mk am r tr (S (gl [[], c0 :: xs, c])) tw).o]) rfl (by decide)
          have A6 := (A5.give (l := [_, _, _, _, _, _]) (y := (Tp.mk am r tr (S (gl [[], c0 :: xs, c])) tw).o) pf)
          have A7 := (A6.freeze (l := [_, _, _, _, _]) (e := [u.o])).permF (tpF_snoc ps u F)
          rw [tpV_snoc] at A7
          have e : done ++ (Tp.mk am r tr (S (gl [[], c0 :: xs, c])) tw) :: todo = (done ++ [(Tp.mk am r tr (S (gl [[], c0 :: xs, c])) tw)]) ++ todo := by rw [List.append_assoc]; rfl
          have el : ((done.length : Int) + 1) = ((done ++ [(Tp.mk am r tr (S (gl [[], c0 :: xs, c])) tw)]).length : Int) := by simp
          rw [el, e] at A7
          have eu : u.k = ((Tp.mk am r tr (S (gl [[], c0 :: xs, c])) tw).r, plT (wkS P (Tp.mk am r tr (S (gl [[], c0 :: xs, c])) tw).s)) := by
            show (r, (S [47]) ++ S (gl (nl2.map cdS))) = (r, plT (wkS P (S (gl [[], c0 :: xs, c]))))
            rw [wkS_gl P ha hb hc, ewk, S_app]
          refine due_loop2 so_ si fn fr mvl pl k1 k2 k3 k4 Tn (Tn + 1) k7 n todo (done ++ [(Tp.mk am r tr (S (gl [[], c0 :: xs, c])) tw)]) (ps ++ [u]) ([47], nl2.map cdS) nl2 _ _ m2 (mp + 1) nla2 _ tr tw tnm2 r (S (gl [[], c0 :: xs, c])) nm2 pp3 h3 (by rw [← e]; exact hl) (by rw [List.length_append, List.length_append, hps]; rfl) (by rw [List.length_append]; exact hB2) rfl (fun v hv => hm v (List.mem_cons_of_mem _ hv)) (fun v hv => hw v (List.mem_cons_of_mem _ hv)) A7 ?_
          intro h4 N4 T4 ps4 P4 m4 nla4 trt4 r4 tr4 w4 tw4 nm4 tnm4 q4 A8
          refine kk h4 N4 T4 ps4 P4 m4 _ _ _ nla4 trt4 r4 tr4 w4 tw4 nm4 tnm4 ?_ A8
          rw [q4, List.map_append, List.append_assoc]
          show _ ++ (u.k :: walkL _ _) = _ ++ walkL P ((r, S (gl [[], c0 :: xs, c])) :: todo.map Tp.k)
          rw [eu, ← ewk, ← wkS_gl P ha hb hc]; rfl
    · have hwk : wk P a b c = (P.1, [a, b, c].foldl stp (nl.map cdS)) := by rw [hnl]; unfold wk; rw [if_neg h1a]
      obtain ⟨c0, xs, rfl⟩ := List.exists_cons_of_ne_nil h1a
      have hc0 : ([c0] == [47]) = false := by
        have : c0 ≠ 47 := fun e => ha (by simp [e])
        simpa using this
      have hp1 : xs ++ 47 :: (b ++ 47 :: c) ≠ [] := by simp
      have hp2 : (xs ++ 47 :: (b ++ 47 :: c)).length ≤ 800 := by
        simp only [List.length_append, List.length_cons] at la ⊢; omega
      obtain ⟨ts, js, hts, hsp⟩ := splitSl w [c0 :: xs, b, c] (by simp) hfree (by omega) tw (Tn + 5) (N + 4) (Tn + 6)
      have hcd := zip_cdS [c0 :: xs, b, c] ts hts
      cases hz : ([c0 :: xs, b, c].map S).zip ts with
      | nil => rw [hz] at hcd; cases hcd
      | cons x0 xs9 =>
        rw [hz] at hcd
        have hx3 : (x0 :: xs9).length ≤ 3 := by
          have := congrArg List.length hcd
          rw [List.length_map] at this
          exact Nat.le_of_eq this
        refine D1a_go (pos := pos) am tr tw (tpV (done ++ (Tp.mk am r tr (S (gl [c0 :: xs, b, c])) tw) :: todo)) n done.length r c0 (xs ++ 47 :: (b ++ 47 :: c)) hp1 hc0 hp2 hx (S P.1) ([c0 :: xs, b, c].map S) ts js hsp A1.ok A1.rep fun h1 pp D => ?_
        have A2a := ((A1.next D).thaw (l := [_, _, _, _, _, _]) (e := [_, _])).pick [4, 5, 3, 6, 0, 1, 2, 7] (l' := [((N + 4), lsO ⟨zipV ([c0 :: xs, b, c].map S) ts⟩ 0), _, _, _, _, _, _, _]) rfl (by decide)
        rw [zipV_sv, hz] at A2a
        have A2 := A2a.freeze (l := [_, _, _, _]) (e := [_, _, _, _])
        refine names_loop1 (N + 4) (N + 5) fn si fr mvl pl k1 k2 k3 k4 Tn (Tn + 1) (S P.1) trt r tr (S (gl [c0 :: xs, b, c])) tw x0 xs9 nl _ _ (m) (nla) pp h1 hx3 (by first | omega | (simp only [List.length_nil]; omega)) A2 ?_
        intro h2 N2 T2 nla2 nl2 m2 k7 nm2 tnm2 q A3
        rw [hcd] at q
        have ewk : wk P (c0 :: xs) (b) c = (P.1, nl2.map cdS) := by rw [q]; exact hwk
        have hB2 := B.step ha hb hc la lb lc
        rw [ewk] at hB2
        have hwt : wt (nl2.map cdS) ≤ 200 := by have : wt (nl2.map cdS) ≤ 15 * (done.length + 1) := hB2.bd; omega
        have hjt : (joinR (S [47]) nl2 (T2 + 1)).1 = S (gl (nl2.map cdS)) := joinR_text _ _
        have hjl : (S (gl (nl2.map cdS))).length ≤ 200 := Nat.le_trans (gl_le _) hwt
        generalize hJ : joinR (S [47]) nl2 (T2 + 1) = J at hjt
        obtain ⟨jt, tj, jj⟩ := J
        subst hjt
        have hrl : (S P.1).length ≠ 0 ∧ (S P.1).length ≤ 2 := by rcases B.ok.root with e | e <;> (rw [e]; decide)
        obtain ⟨ta, ja, hadd⟩ := addOk' w (S P.1) trt (S (gl (nl2.map cdS))) tj N2 (T2 + (1 + jj)) hrl.1 (small_line (by rw [len_app]; omega))
        have A4 := ((A3.thaw (l := [_, _]) (e := [_, _, _, _])).pick [0, 5, 1, 2, 3, 4] (l' := [_, _, _, _, _, _]) rfl (by decide)).freeze (l := [_, _, _]) (e := [_, _, _])
        refine KD1a_go (pos := pos) (G := G) (N2 := N2) (Tn2 := T2) am tr tw (tpV (done ++ (Tp.mk am r tr (S (gl [c0 :: xs, b, c])) tw) :: todo)) n done.length r c0 (xs ++ 47 :: (b ++ 47 :: c)) hp1 hc0 hp2 hx (S P.1) ([c0 :: xs, b, c].map S) ts js hsp nla2 nl2 m2 (by rw [fold_wt]; omega) (tpV ps) mp (by rw [tpV_len]; omega) (S P.1) trt nm2 tnm2 (S (gl (nl2.map cdS))) tj jj hJ (by omega) ta ja hadd A4.ok A4.rep fun h3 pp3 D3 => ?_
        let u : Tp := ⟨N2, r, tr, (S P.1) ++ S (gl (nl2.map cdS)), ta⟩
        have A5 := ((A4.next D3).thaw (l := [_, (pl, lsO ⟨tpV ps ++ [u.v]⟩ (mp + 1)), _, u.o]) (e := [_, _, _])).pick [4, 5, 0, 2, 1, 3, 6] (l' := [_, _, _, _, _, u.o, (Tp.mk am r tr (S (gl [c0 :: xs, b, c])) tw).o]) rfl (by decide)
        have A6 := (A5.give (l := [_, _, _, _, _, _]) (y := (Tp.mk am r tr (S (gl [c0 :: xs, b, c])) tw).o) pf)
        have A7 := (A6.freeze (l := [_, _, _, _, _]) (e := [u.o])).permF (tpF_snoc ps u F)
        rw [tpV_snoc] at A7
        have e : done ++ (Tp.mk am r tr (S (gl [c0 :: xs, b, c])) tw) :: todo = (done ++ [(Tp.mk am r tr (S (gl [c0 :: xs, b, c])) tw)]) ++ todo := by rw [List.append_assoc]; rfl
        have el : ((done.length : Int) + 1) = ((done ++ [(Tp.mk am r tr (S (gl [c0 :: xs, b, c])) tw)]).length : Int) := by simp
        rw [el, e] at A7
        have eu : u.k = ((Tp.mk am r tr (S (gl [c0 :: xs, b, c])) tw).r, plT (wkS P (Tp.mk am r tr (S (gl [c0 :: xs, b, c])) tw).s)) := by
          show (r, (S P.1) ++ S (gl (nl2.map cdS))) = (r, plT (wkS P (S (gl [c0 :: xs, b, c]))))
          rw [wkS_gl P ha hb hc, ewk, S_app]
        refine due_loop2 so_ si fn fr mvl pl k1 k2 k3 k4 Tn (Tn + 1) k7 n todo (done ++ [(Tp.mk am r tr (S (gl [c0 :: xs, b, c])) tw)]) (ps ++ [u]) (P.1, nl2.map cdS) nl2 _ _ m2 (mp + 1) nla2 trt tr tw tnm2 r (S (gl [c0 :: xs, b, c])) nm2 pp3 h3 (by rw [← e]; exact hl) (by rw [List.length_append, List.length_append, hps]; rfl) (by rw [List.length_append]; exact hB2) rfl (fun v hv => hm v (List.mem_cons_of_mem _ hv)) (fun v hv => hw v (List.mem_cons_of_mem _ hv)) A7 ?_
        intro h4 N4 T4 ps4 P4 m4 nla4 trt4 r4 tr4 w4 tw4 nm4 tnm4 q4 A8
        refine kk h4 N4 T4 ps4 P4 m4 _ _ _ nla4 trt4 r4 tr4 w4 tw4 nm4 tnm4 ?_ A8
        rw [q4, List.map_append, List.append_assoc]
        show _ ++ (u.k :: walkL _ _) = _ ++ walkL P ((r, S (gl [c0 :: xs, b, c])) :: todo.map Tp.k)
        rw [eu, ← ewk, ← wkS_gl P ha hb hc]; rfl
end
section
variable {w : World} {b1 b2 : Bool} {h₀ h h' : Heap} {U : List Addr} {d : Drawn} {os : OsState} {R : Result → Shared → Prop} {G : List GenState} {F : Rw} {N : Nat} {l : Rw}
/-- a new object, not the first one -/
theorem At.grow {x : Addr} {o : Obj} (A : At w b1 b2 h₀ U F h N l) (g : Nat) (hs : h'.objs.size = h.objs.size + g) (hk : ∀ b o, h.get? b = some o → h'.get? b = some o) (hx : N ≤ x) (ho : h'.get? x = some o) : At w b1 b2 h₀ U F h' (N + g) (l ++ [(x, o)]) := by
  have lt : ∀ y ∈ l ++ F, y.1 < N := fun y hy => A.size ▸ Heap.lt_size (A.own y hy).1
  have p : ((l ++ [(x, o)]) ++ F).Perm ((x, o) :: (l ++ F)) := by rw [List.append_assoc]; exact List.perm_middle
  refine ⟨A.ok0, Nat.le_trans A.lo (Nat.le_add_right ..), Nat.le_trans A.base (Nat.le_add_right ..), by rw [hs, A.size], fun y hy => ?_, ?_, fun b o e q => hk b o (A.keep b o e q)⟩
  · rcases List.mem_cons.mp (p.mem_iff.mp hy) with rfl | hy
    · exact ⟨ho, .inl (Nat.le_trans A.lo hx), .inr (Nat.le_trans A.base hx)⟩
    · have := A.own y hy
      exact ⟨hk _ _ this.1, this.2⟩
  · refine (p.map (·.1)).nodup_iff.mpr ?_
    rw [List.map_cons]
    refine List.nodup_cons.mpr ⟨fun hm => ?_, A.nd⟩
    obtain ⟨y, hy, e⟩ := List.mem_map.mp hm
    have := lt y hy
    have e' : y.1 = x := e
    rw [e'] at this
    exact absurd this (Nat.not_lt.mpr hx)
/-- _law_due -/
theorem due_go (ms : List Tp) (h2 : 2 ≤ ms.length) (h8 : ms.length ≤ 8) (hm : ∀ u ∈ ms, u.o ∈ F) (hw : ∀ u ∈ ms, WayOk u.s) (ml fr : Addr) (Tn n : Nat) (pos : Pos) (A : At w b1 b2 h₀ U F h N [(ml, lsO ⟨tpV ms⟩ n)])
    (kk : ∀ h' N' T' (ps out : List Tp) (pl : Addr) (m' : Nat), out.Perm ms → out.Pairwise (fun a b => lt2 b.k a.k = false) → ps.map Tp.k = walkL ([47], []) (out.map Tp.k) →
      At w b1 b2 h₀ U (tpF ps ++ F) h' N' [(pl, lsO ⟨tpV ps⟩ m')] → R (.ok (.ret (.ref pl))) ⟨h', ⟨G⟩, d, T', os⟩) :
    wpCode (mdl w) (Da_g ml fr) R pos ⟨h, ⟨G⟩, d, Tn, os⟩ := by
  refine Da_go (pos := pos) (tpV ms) n A.ok A.rep fun h1 D => ?_
  have A1 := A.next D
  refine code_any (Γ := ⟨.func _ _, none, none, _, none⟩) (f := .builtin "sorted") (args := [.ref ml]) fun AA => ?_
  refine sorted_any ms (A1.own _ (.head _)).1 h2 (by omega) (fun t ht => (A1.own _ (List.mem_append_right _ (hm t ht))).1) fun h2' out c e1 e2 e3 pm so => ?_
  have es : h1.objs.size = N + 7 + 0 := A1.size
  have A2 := (A1.grow 4 e1 e2 (Nat.le_trans (Nat.le_of_eq es.symm) (Nat.le_succ _)) e3).pick [4, 1, 2, 3] (l' := [_, _, _, _]) rfl (by decide)
  have A3 := A2.freeze (l := [_]) (e := [_, _, _])
  refine Db_go (pos := pos) (G := G) (tpV ms) n (h1.objs.size + 1) (tpV out) c A3.ok A3.rep fun h3 pp D3 => ?_
  have A4 := ((A3.next D3).thaw (l := [_, _]) (e := [_, _, _])).pick [0, 1, 2, 3, 4] (l' := [_, _, _, _, _]) rfl (by decide)
  have hol : out.length = ms.length := pm.length_eq
  match out, hol, pm, so, A4 with
  | [], hol, _, _, _ => exact absurd hol (by simp; omega)
  | t :: todo, hol, pm, so, A4 =>
    refine due_loop1 (h1.objs.size + 1) _ N fr ml (N + 6) Tn (Tn + 2) (Tn + 3) (Tn + 4) c todo t ([47], []) [] [] [] _ _ 0 0 (N + 1) (Tn + 1) pp h3 (by show (t :: todo).length ≤ 8; omega) rfl ⟨⟨.inl rfl, fun _ q => nomatch q⟩, Nat.zero_le _, Nat.zero_le _⟩ rfl (fun u hu => hm u (pm.mem_iff.mp hu)) (fun u hu => hw u (pm.mem_iff.mp hu)) A4 ?_
    intro h4 N4 T4 ps P' m4 k5 k6 k7 nla' trt' r0' tr0' w0' tw0' nm0' tnm0' q1 A5
    have A6 := A5.freeze (l := [_]) (e := [_])
    refine Dl_go (pos := pos) (G := G) (tpV ms) n (h1.objs.size + 1) (tpV (t :: todo)) c (S P'.1) w0' nm0' r0' trt' tr0' tw0' tnm0' A6.ok A6.rep fun h5 D5 => ?_
    have A7 := (A6.next D5).thaw (l := []) (e := [_])
    exact kk h5 _ _ ps (t :: todo) (N + 6) m4 pm so q1 A7
end
/-- two rows of the same texts -/
def SameT (xs ys : List Value) : Prop := xs.length = ys.length ∧ ∀ (j : Nat) (x y : Value), xs[j]? = some x → ys[j]? = some y → ∃ s t u, x = Value.str s t ∧ y = Value.str s u
noncomputable def cLEqS {w : World} {tp : Nat → Option Obj} (i j : Nat) (a b : Addr) (xs ys : List Value) (n m : Nat) (h : SameT xs ys) (nn tk : Nat) : Ctr (mdl w) tp :=
  ⟨.call (.builtin "list.__eq__") ⟨[.ref a, .ref b], []⟩, none, nn, tk, [(i, a, lsO ⟨xs⟩ n), (j, b, lsO ⟨ys⟩ m)], .ok (.ret (.bool true)), none, none, 0, 0,
    fun Γ p s _ hp => ok_of_any fun A => call_meets F.slot_list_eq (typeL (hp.has _ (.head _)).1) F.entry_list_eq (F.args_list_eq_2 _ _) (MeetsSeq3.list_eq a b ⟨xs⟩ ⟨ys⟩ n m (by simpa using h.1) (fun _ => true) (fun k h1 h2 => by
      obtain ⟨z, t, u, e1, e2⟩ := h.2 k _ _ (List.getElem?_eq_getElem (by simpa using h1)) (List.getElem?_eq_getElem (by simpa using h2))
      show MeetsSeq.EqGives xs[k] ys[k] true
      rw [e1, e2]
      have := eqGives_str z z t u
      rwa [decide_eq_true rfl] at this))
      ⟨(hp.has _ (.head _)).1, (hp.has _ (.tail _ (.head _))).1, ⟨by simp, Eff.same s⟩⟩⟩
section
variable (w : World) (b1 b2 : Bool) (N Tn : Nat) (pos : Pos) (G : List GenState)
section
variable (bG : Addr) (sc : List Value) (hsc : sc.length ≤ 1000)  (N2 Tn2 : Nat) (ms : List Value) (n : Nat)  (N3 Tn3 : Nat) (cC cL cD cM : Tok) (ws : List Value) (m : Nat) (r0 : Int) (w0 : Str) 
noncomputable abbrev Jn_a : Rw := [(N, (fO 5 [de w b1 b2 z32 Tn (rf bG), de w b1 b2 z3 Tn2 (rf (N + 9)), de w b1 b2 z14 (Tn2 + 1) (rf N2), de w b1 b2 z7 cC (vi r0 cL), de w b1 b2 z8 cD (vs w0 cM)])), (N2, (lsO ⟨ws⟩ (m))), (882, ⟨nn, none, .fields ⟨[]⟩, ⟨[]⟩⟩)]
noncomputable abbrev Jn_z : Rw := [(N, (fO 5 [de w b1 b2 z32 Tn (rf bG), de w b1 b2 z3 Tn2 (rf (N + 9)), de w b1 b2 z14 (Tn2 + 1) (rf N2), de w b1 b2 z7 cC (vi r0 cL), de w b1 b2 z8 cD (vs w0 cM)])), (N2, (lsO ⟨ws⟩ (m))), (882, ⟨nn, none, .fields ⟨[(vi 895 0), (vi 20 0), (rf (N3 + 4))]⟩, ⟨[]⟩⟩), (N3, (fO 1 [de w b1 b2 (S [115, 112, 108, 105, 116, 95, 99, 111, 109, 109, 97, 110, 100]) Tn3 (rf N2)])), ((N3 + 1), ⟨y5, none, .fields ⟨[(rf N2), (vi 0 0)]⟩, ⟨[]⟩⟩), ((N3 + 2), ⟨y3, none, .seq ⟨[]⟩ 0, ⟨[]⟩⟩), ((N3 + 3), ⟨nn, none, .fields ⟨[]⟩, ⟨[]⟩⟩), ((N3 + 4), ⟨y1, none, .fields ⟨[(vs z41 (Tn3 + 2)), (vs z42 (Tn3 + 3)), (vs z23 (Tn3 + 4)), (vi 895 0), (vi 1 0), (vi 0 0), (vi 0 0), (vi 51 0), (rf (N3 + 2)), (Value.bool true), (vi 318 0), (rf (N3 + 3)), nn, nn, nn, nn, (vi ((Tn3 + 5 : Nat) : Int) 0), (vi 895 0), (vs z23 (Tn3 + 6))]⟩, ⟨[]⟩⟩), ((N3 + 5), (fO 1 [de w b1 b2 z40 (Tn3 + 7) (rf (N3 + 1))])), ((N3 + 6), ⟨y7, none, .fields ⟨[(vi 0 0), (vs z41 (Tn3 + 8)), (vs z42 (Tn3 + 9))]⟩, ⟨[]⟩⟩)]
noncomputable abbrev Jn_h : Ctx := ⟨.call (Value.builtin "str.join") ⟨[(vs (S [32]) (Tn3 + 1)), (rf (N3 + 6))], []⟩, none, none, [(k887 N3 ⟨895, 11, 895, 58⟩), (k921 N ⟨938, 17, 938, 34⟩), callerB], none⟩
noncomputable def Jn : Res :=
  nextC (Mf w b1 b2 N Tn pos G bG sc hsc N2 Tn2 ms n) (.ok .next) w b1 b2 N3 Tn3 64 (dg 26 0x99003333005202240440000100) [] (Jn_a w b1 b2 N Tn bG N2 Tn2 cC cL cD cM ws m r0 w0) 3 []
theorem Jn_run : RunKP (Jn w b1 b2 N Tn pos G bG sc hsc N2 Tn2 ms n N3 Tn3 cC cL cD cM ws m r0 w0) [0, 1, 2, 3, 4, 5, 6, 7, 8, 9] (Jn_h N N3 Tn3) ⟨895, 11, 895, 58⟩ 7 10 [.fresh (.compStart ge895 0 (rf (N3 + 1)) nn ⟨(compScope ge895), (N3 + 5), 3, [], z39, none, (rf (N3 + 4)), (some (N3 + 5)), 0⟩)] (Jn_z w b1 b2 N Tn bG N2 Tn2 N3 Tn3 cC cL cD cM ws m r0 w0) := by
  walk_at "r"
variable {w b1 b2 N Tn pos G bG N2 Tn2 N3 Tn3 cC cL cD cM}
def Jn_go := goKP (Jn_run w b1 b2 N Tn pos G bG sc hsc N2 Tn2 ms n N3 Tn3 cC cL cD cM ws m r0 w0) (sK rfl) (by decide)
end
section
variable (bG : Addr) (sc : List Value) (hsc : sc.length ≤ 1000)  (N2 Tn2 : Nat) (ms : List Value) (n : Nat)  (N3 Tn3 : Nat) (cC cL cD cM : Tok) (ws : List Value) (m : Nat) (r0 : Int) (w0 : Str)  (N4 Tn4 : Nat) (line : Str) (tl : Tok) (G4 : List GenState) 
noncomputable abbrev Jk_a : Rw := []
noncomputable abbrev Jk_z : Rw := []
noncomputable abbrev Jk_h : Ctx := ⟨.call (rf 880) ⟨[(vs line tl)], []⟩, none, none, [(k921 N ⟨938, 11, 938, 35⟩), callerB], none⟩
noncomputable def Jk : Res :=
  nextC (Jn w b1 b2 N Tn pos G bG sc hsc N2 Tn2 ms n N3 Tn3 cC cL cD cM ws m r0 w0) (.ok (.ret (vs line tl))) w b1 b2 N4 Tn4 5 [0] [] Jk_a 0 G4
theorem Jk_run : RunK (Jk w b1 b2 N Tn pos G bG sc hsc N2 Tn2 ms n N3 Tn3 cC cL cD cM ws m r0 w0 N4 Tn4 line tl G4) [] (Jk_h N line tl) 0 0 G4 Jk_z := by
  walk_at "r"
variable {w b1 b2 N Tn pos G bG N2 Tn2 N3 Tn3 cC cL cD cM N4 Tn4}
def Jk_go := goK (Jk_run w b1 b2 N Tn pos G bG sc hsc N2 Tn2 ms n N3 Tn3 cC cL cD cM ws m r0 w0 N4 Tn4 line tl G4) (sK rfl) (by decide)
end
section
variable (bG : Addr) (sc : List Value) (hsc : sc.length ≤ 1000)  (N2 Tn2 : Nat) (ms : List Value) (n : Nat)  (N3 Tn3 : Nat) (cC cL cD cM : Tok) (ws : List Value) (m : Nat) (r0 : Int) (w0 : Str)  (N4 Tn4 : Nat) (line : Str) (tl : Tok) (G4 : List GenState)  (N5 Tn5 : Nat) (sw : Addr) (xs5 ws5 : List Value) (n5 m5 : Nat) (r5 : Int) (w5 : Str) (s7 : Array (Option Value)) (hsame : SameT xs5 ws5) (G5 : List GenState) 
noncomputable abbrev Ya_a : Rw := [(N, ⟨y0, none, .dict ⟨[de w b1 b2 z32 Tn (rf bG), de w b1 b2 z3 Tn2 (rf (N + 9)), de w b1 b2 z14 (Tn2 + 1) (rf N2), de w b1 b2 z7 cC (vi r5 cL), de w b1 b2 z8 cD (vs w5 cM)]⟩ 5, s7⟩), (sw, (lsO ⟨xs5⟩ (n5))), (N2, (lsO ⟨ws5⟩ (m5)))]
noncomputable abbrev Ya_z : Rw := [(N, ⟨y0, none, .dict ⟨[de w b1 b2 z32 Tn (rf bG), de w b1 b2 z3 Tn2 (rf (N + 9)), de w b1 b2 z14 (Tn2 + 1) (rf N2), de w b1 b2 z7 cC (vi r5 cL), de w b1 b2 z8 cD (vs w5 cM), de w b1 b2 z93 Tn5 (rf sw)]⟩ 6, s7⟩), (sw, (lsO ⟨xs5⟩ (n5)))]
noncomputable abbrev Ya_h : Ctx := ⟨.call (rf 907) ⟨[(rf sw)], []⟩, none, none, [(k921 N ⟨939, 29, 939, 43⟩), callerB], none⟩
noncomputable def Ya : Res :=
  nextC (Jk w b1 b2 N Tn pos G bG sc hsc N2 Tn2 ms n N3 Tn3 cC cL cD cM ws m r0 w0 N4 Tn4 line tl G4) (.ok (.ret (rf sw))) w b1 b2 N5 Tn5 28 [1, 1, 1, 1, 2, 3, 2, 1, 0, 1, 0] [cLEqS 1 2 sw N2 (xs5) (ws5) (n5) (m5) hsame N5 (Tn5 + 1)] (Ya_a w b1 b2 N Tn bG N2 Tn2 cC cL cD cM sw xs5 ws5 n5 m5 r5 w5 s7) 3 G5
theorem Ya_run : RunK (Ya w b1 b2 N Tn pos G bG sc hsc N2 Tn2 ms n N3 Tn3 cC cL cD cM ws m r0 w0 N4 Tn4 line tl G4 N5 Tn5 sw xs5 ws5 n5 m5 r5 w5 s7 hsame G5) [0, 1] (Ya_h N sw) 0 1 G5 (Ya_z w b1 b2 N Tn bG N2 Tn2 cC cL cD cM Tn5 sw xs5 n5 r5 w5 s7) := by
  walk_at "r"
variable {w b1 b2 N Tn pos G bG N2 Tn2 N3 Tn3 cC cL cD cM N4 Tn4 N5 Tn5}
def Ya_go := goK (Ya_run w b1 b2 N Tn pos G bG sc hsc N2 Tn2 ms n N3 Tn3 cC cL cD cM ws m r0 w0 N4 Tn4 line tl G4 N5 Tn5 sw xs5 ws5 n5 m5 r5 w5 s7 hsame G5) (sK rfl) (by decide)
end
section
variable (bG : Addr) (sc : List Value) (hsc : sc.length ≤ 1000)  (N2 Tn2 : Nat) (ms : List Value) (n : Nat)  (N3 Tn3 : Nat) (cC cL cD cM : Tok) (ws : List Value) (m : Nat) (r0 : Int) (w0 : Str)  (N4 Tn4 : Nat) (line : Str) (tl : Tok) (G4 : List GenState)  (N5 Tn5 : Nat) (sw : Addr) (xs5 ws5 : List Value) (n5 m5 : Nat) (r5 : Int) (w5 : Str) (s7 : Array (Option Value)) (hsame : SameT xs5 ws5) (G5 : List GenState)  (N6 Tn6 : Nat) (pl : Addr) (G6 : List GenState) 
noncomputable abbrev Yb_a : Rw := [(N, ⟨y0, none, .dict ⟨[de w b1 b2 z32 Tn (rf bG), de w b1 b2 z3 Tn2 (rf (N + 9)), de w b1 b2 z14 (Tn2 + 1) (rf N2), de w b1 b2 z7 cC (vi r5 cL), de w b1 b2 z8 cD (vs w5 cM), de w b1 b2 z93 Tn5 (rf sw)]⟩ 6, s7⟩)]
noncomputable abbrev Yb_z : Rw := []
noncomputable abbrev Yb_h : Ctx := ⟨.call (rf 914) ⟨[(rf (N + 9))], []⟩, none, none, [(k921 N ⟨939, 47, 939, 62⟩), callerB], none⟩
noncomputable def Yb : Res :=
  nextC (Ya w b1 b2 N Tn pos G bG sc hsc N2 Tn2 ms n N3 Tn3 cC cL cD cM ws m r0 w0 N4 Tn4 line tl G4 N5 Tn5 sw xs5 ws5 n5 m5 r5 w5 s7 hsame G5) (.ok (.ret (rf pl))) w b1 b2 N6 Tn6 7 [0, 1, 0] [] (Yb_a w b1 b2 N Tn bG N2 Tn2 cC cL cD cM Tn5 sw r5 w5 s7) 1 G6
theorem Yb_run : RunK (Yb w b1 b2 N Tn pos G bG sc hsc N2 Tn2 ms n N3 Tn3 cC cL cD cM ws m r0 w0 N4 Tn4 line tl G4 N5 Tn5 sw xs5 ws5 n5 m5 r5 w5 s7 hsame G5 N6 Tn6 pl G6) [] (Yb_h N) 0 0 G6 Yb_z := by
  walk_at "r"
variable {w b1 b2 N Tn pos G bG N2 Tn2 N3 Tn3 cC cL cD cM N4 Tn4 N5 Tn5 N6 Tn6}
def Yb_go := goK (Yb_run w b1 b2 N Tn pos G bG sc hsc N2 Tn2 ms n N3 Tn3 cC cL cD cM ws m r0 w0 N4 Tn4 line tl G4 N5 Tn5 sw xs5 ws5 n5 m5 r5 w5 s7 hsame G5 N6 Tn6 pl G6) (sK rfl) (by decide)
end
section
variable (bG : Addr) (sc : List Value) (hsc : sc.length ≤ 1000)  (N2 Tn2 : Nat) (ms : List Value) (n : Nat)  (N3 Tn3 : Nat) (cC cL cD cM : Tok) (ws : List Value) (m : Nat) (r0 : Int) (w0 : Str)  (N4 Tn4 : Nat) (line : Str) (tl : Tok) (G4 : List GenState)  (N5 Tn5 : Nat) (sw : Addr) (xs5 ws5 : List Value) (n5 m5 : Nat) (r5 : Int) (w5 : Str) (s7 : Array (Option Value)) (hsame : SameT xs5 ws5) (G5 : List GenState)  (N6 Tn6 : Nat) (pl : Addr) (G6 : List GenState)  (N7 Tn7 : Nat) (pd : Addr) (xs7 ys7 : List Value) (n7 m7 : Nat) (G7 : List GenState) 
noncomputable abbrev Yc_a : Rw := [(pl, (lsO ⟨xs7⟩ (n7))), (pd, (lsO ⟨ys7⟩ (m7)))]
noncomputable abbrev Yc_z : Rw := [(pl, (lsO ⟨xs7⟩ (n7))), (pd, (lsO ⟨ys7⟩ (m7)))]
noncomputable abbrev Yc_h : Ctx := ⟨.call (Value.builtin "list.__eq__") ⟨[(rf pl), (rf pd)], []⟩, none, none, [(k921 N ⟨939, 29, 939, 62⟩), callerB], none⟩
noncomputable def Yc : Res :=
  nextC (Yb w b1 b2 N Tn pos G bG sc hsc N2 Tn2 ms n N3 Tn3 cC cL cD cM ws m r0 w0 N4 Tn4 line tl G4 N5 Tn5 sw xs5 ws5 n5 m5 r5 w5 s7 hsame G5 N6 Tn6 pl G6) (.ok (.ret (rf pd))) w b1 b2 N7 Tn7 7 [1, 2, 1] [] (Yc_a pl pd xs7 ys7 n7 m7) 2 G7
theorem Yc_run : RunKP (Yc w b1 b2 N Tn pos G bG sc hsc N2 Tn2 ms n N3 Tn3 cC cL cD cM ws m r0 w0 N4 Tn4 line tl G4 N5 Tn5 sw xs5 ws5 n5 m5 r5 w5 s7 hsame G5 N6 Tn6 pl G6 N7 Tn7 pd xs7 ys7 n7 m7 G7) [0, 1] (Yc_h N pl pd) ⟨939, 29, 939, 62⟩ 0 0 G7 (Yc_z pl pd xs7 ys7 n7 m7) := by
  walk_at "r"
variable {w b1 b2 N Tn pos G bG N2 Tn2 N3 Tn3 cC cL cD cM N4 Tn4 N5 Tn5 N6 Tn6 N7 Tn7}
def Yc_go := goKP (Yc_run w b1 b2 N Tn pos G bG sc hsc N2 Tn2 ms n N3 Tn3 cC cL cD cM ws m r0 w0 N4 Tn4 line tl G4 N5 Tn5 sw xs5 ws5 n5 m5 r5 w5 s7 hsame G5 N6 Tn6 pl G6 N7 Tn7 pd xs7 ys7 n7 m7 G7) (sK rfl) (by decide)
end
section
variable (bG : Addr) (sc : List Value) (hsc : sc.length ≤ 1000)  (N2 Tn2 : Nat) (ms : List Value) (n : Nat)  (N3 Tn3 : Nat) (cC cL cD cM : Tok) (ws : List Value) (m : Nat) (r0 : Int) (w0 : Str)  (N4 Tn4 : Nat) (line : Str) (tl : Tok) (G4 : List GenState)  (N5 Tn5 : Nat) (sw : Addr) (xs5 ws5 : List Value) (n5 m5 : Nat) (r5 : Int) (w5 : Str) (s7 : Array (Option Value)) (hsame : SameT xs5 ws5) (G5 : List GenState)  (N6 Tn6 : Nat) (pl : Addr) (G6 : List GenState)  (N7 Tn7 : Nat) (pd : Addr) (xs7 ys7 : List Value) (n7 m7 : Nat) (G7 : List GenState)  (N8 Tn8 : Nat) (G8 : List GenState) 
noncomputable abbrev Yd_a : Rw := []
noncomputable abbrev Yd_z : Rw := []
noncomputable def Yd : Res :=
  nextC (Yc w b1 b2 N Tn pos G bG sc hsc N2 Tn2 ms n N3 Tn3 cC cL cD cM ws m r0 w0 N4 Tn4 line tl G4 N5 Tn5 sw xs5 ws5 n5 m5 r5 w5 s7 hsame G5 N6 Tn6 pl G6 N7 Tn7 pd xs7 ys7 n7 m7 G7) (.ok (.ret (Value.bool true))) w b1 b2 N8 Tn8 4 [] [] Yd_a 0 G8
theorem Yd_run : RunF (Yd w b1 b2 N Tn pos G bG sc hsc N2 Tn2 ms n N3 Tn3 cC cL cD cM ws m r0 w0 N4 Tn4 line tl G4 N5 Tn5 sw xs5 ws5 n5 m5 r5 w5 s7 hsame G5 N6 Tn6 pl G6 N7 Tn7 pd xs7 ys7 n7 m7 G7 N8 Tn8 G8) [] (.ok (.ret (Value.bool true))) 0 0 G8 Yd_z := by
  walk_at "r"
variable {w b1 b2 N Tn pos G bG N2 Tn2 N3 Tn3 cC cL cD cM N4 Tn4 N5 Tn5 N6 Tn6 N7 Tn7 N8 Tn8}
def Yd_go := goF (Yd_run w b1 b2 N Tn pos G bG sc hsc N2 Tn2 ms n N3 Tn3 cC cL cD cM ws m r0 w0 N4 Tn4 line tl G4 N5 Tn5 sw xs5 ws5 n5 m5 r5 w5 s7 hsame G5 N6 Tn6 pl G6 N7 Tn7 pd xs7 ys7 n7 m7 G7 N8 Tn8 G8) (sK rfl) (by decide)
end
end
section
open SeqAt
theorem sorted_eq {α : Type} {le : α → α → Prop} (anti : ∀ a b, le a b → le b a → a = b) : ∀ (l l' : List α), l.Perm l' → l.Pairwise le → l'.Pairwise le → l = l'
  | [], l', p, _, _ => (List.nil_perm.mp p).symm
  | a :: l, [], p, _, _ => absurd p.length_eq (by simp)
  | a :: l, b :: l', p, h1, h2 => by
    have e : a = b := by
      have ha : a ∈ b :: l' := p.mem_iff.mp (.head _)
      have hb : b ∈ a :: l := p.mem_iff.mpr (.head _)
      rcases List.mem_cons.mp ha with q | q
      · exact q
      · rcases List.mem_cons.mp hb with q' | q'
        · exact q'.symm
        · exact anti a b (List.rel_of_pairwise_cons h1 q') (List.rel_of_pairwise_cons h2 q)
    subst e
    rw [sorted_eq anti l l' p.cons_inv (List.Pairwise.of_cons h1) (List.Pairwise.of_cons h2)]
theorem code_ar {w : World} {Γ : Ctx} {p : Pos} {s : Shared} {R : Result → Shared → Prop} {f : Value} {args : List Value}
    (h : wpAny (mdl w) (arOf Γ) (PySem.call f args) (fun v s' => R (.ok (.ret v)) s') (fun _ _ => False) s) : wpCode (mdl w) (Γ.enter (.call f ⟨args, []⟩) none p) R p s := by
  have h1 := h Γ p (in_arOf Γ)
  have e : PySem.call f args = Sem.call (.call f ⟨args, []⟩) none false [] (fun r => (match r with | .ok f => Sem.pure f | .error e => Sem.raise e : Sem Flow) >>= fun fl => match fl with | .ret v => pure v | _ => unsupported "internal:call-without-return-value") := rfl
  rw [e, Sem.wp_call] at h1
  refine wpCode_mono ?_ h1
  intro r s' hr
  cases r with
  | error x => exact hr.elim
  | ok fl =>
    cases fl with
    | ret v' => exact hr
    | next => exact (hr : False).elim
    | brk => exact (hr : False).elim
    | cont => exact (hr : False).elim
theorem tup_eqAt {A : Around} {s : Shared} {t u : Tp} (ht : s.heap.get? t.a = some t.o.2) (hu : s.heap.get? u.a = some u.o.2) (e : t.k = u.k) (hc : A.units < cLine) : EqAt A s t.v u.v true := by
  by_cases h : t.a = u.a
  · show EqAt A s (.ref t.a) (.ref u.a) true
    rw [h]
    exact EqAt.same _
  · refine EqAt.of_refs h ?_
    have e1 : t.r = u.r := congrArg Prod.fst e
    have e2 : t.s = u.s := congrArg Prod.snd e
    have := RcAt.tuples (A := A) (s := s) (l := t.a) (b := u.a) (items := ⟨[Value.int t.r t.tr, Value.str t.s t.ts]⟩) (items2 := ⟨[Value.int u.r u.tr, Value.str u.s u.ts]⟩) (e := fun _ => true) ⟨_, ht, rfl, _, rfl⟩ ⟨_, hu, rfl, _, rfl⟩ hc (fun j h1 h2 => by
      match j, h1 with
      | 0, _ =>
        have := EqAt.int_int (A := A.in1) (s := s) t.r t.tr u.r u.tr
        rw [e1, beq_self_eq_true] at this
        rw [e1.symm] at this ⊢
        exact this
      | 1, _ =>
        have := (eqGives_str t.s u.s t.ts u.ts).at A.in1 s
        rwa [decide_eq_true e2] at this
      | j + 2, h1 => exact absurd h1 (by simp))
    exact this
theorem lists_eqA {w : World} {A : Around} {E : Value → Shared → Prop} {s : Shared} {Q : Value → Shared → Prop} {a b : Addr} {n m : Nat} (ps qs : List Tp) (ha : s.heap.get? a = some (lsO ⟨tpV ps⟩ n)) (hb : s.heap.get? b = some (lsO ⟨tpV qs⟩ m))
    (hp : ∀ t ∈ ps, s.heap.get? t.a = some t.o.2) (hq : ∀ t ∈ qs, s.heap.get? t.a = some t.o.2) (e : ps.map Tp.k = qs.map Tp.k) (hc : A.units + 1 < cLine) (h : Q (.bool true) s) :
    wpAny (mdl w) A (PySem.call (.builtin "list.__eq__") [.ref a, .ref b]) Q E s := by
  have hl : ps.length = qs.length := by
    have := congrArg List.length e
    rwa [List.length_map, List.length_map] at this
  refine call_meets F.slot_list_eq (typeL ha) F.entry_list_eq (F.args_list_eq_2 _ _) (list_eqAt a b ⟨tpV ps⟩ ⟨tpV qs⟩ n m none none #[] #[] (by simpa using hl) (fun _ => true)) ⟨ha, hb, fun j h1 h2 => ?_, ?_⟩
  · have j1 : j < ps.length := by simpa using h1
    have j2 : j < qs.length := by simpa using h2
    have ek : ps[j].k = qs[j].k := by
      have h3 : (ps.map Tp.k)[j]? = (qs.map Tp.k)[j]? := by rw [e]
      rw [List.getElem?_map, List.getElem?_map, List.getElem?_eq_getElem j1, List.getElem?_eq_getElem j2] at h3
      exact Option.some.inj h3
    have := tup_eqAt (A := A.in1) (s := s) (hp _ (List.getElem_mem j1)) (hq _ (List.getElem_mem j2)) ek hc
    simpa [tpV] using this
  · have e1 : ((List.range (⟨tpV ps⟩ : Array Value).size).all fun _ => true) = true := List.all_eq_true.mpr fun _ _ => rfl
    show wants Q E (.ok (.ret (.bool ((List.range (⟨tpV ps⟩ : Array Value).size).all fun _ => true)))) s
    rw [e1]
    exact h
end
noncomputable abbrev zV (zs : List (Int × Tok)) : List Value := zs.map fun z => Value.int z.1 z.2
noncomputable abbrev mvK (x : Int) : Int × Str := (x.fmod 5, wayS x)
section
variable {w : World} {b1 b2 : Bool} {h₀ : Heap} {U : List Addr} {d : Drawn} {os : OsState} {R : Result → Shared → Prop} {G : List GenState} {dM dE aF eF dF eL dH aA fF : Addr} {tm : Nat → Tok} {F : Rw}
theorem moves_loop (todo : List (Int × Tok)) : ∀ (done : List (Int × Tok)) (mv : List Tp) (n N Tn : Nat) (pos : Pos) (cv : Option Value) (h : Heap), (done ++ todo).length ≤ 8 → mv.map Tp.k = done.map (fun z => mvK z.1) →
    At w b1 b2 h₀ U (tpF mv ++ F) h N [(dM, (lsO ⟨zV (done ++ todo)⟩ 0)), (dE, (liO dM (done.length : Int))), (eF, ⟨y9, none, .cell cv, ⟨[]⟩⟩), (dF, ⟨y9, none, .cell (some (Value.ref fF)), ⟨[]⟩⟩), (fF, (lsO ⟨menuL tm⟩ 0)), (aF, (lsO ⟨tpV mv⟩ n))] →
    (∀ h' N' T' mv' n', mv'.map Tp.k = (done ++ todo).map (fun z => mvK z.1) → At w b1 b2 h₀ U (tpF mv' ++ F) h' N' [(aF, lsO ⟨tpV mv'⟩ n')] → R (.ok .next) ⟨h', ⟨G⟩, d, T', os⟩) →
    wpCode (mdl w) (Mb_h dE aF eF dF eL dH aA) R pos ⟨h, ⟨G⟩, d, Tn, os⟩ := by
  induction todo with
  | nil =>
    intro done mv n N Tn pos cv h hl hk A kk
    rw [List.append_nil] at A hl kk
    have A1 := A.pick [0, 1, 5] (l' := [(dM, (lsO ⟨zV done⟩ 0)), (dE, (liO dM (done.length : Int))), (aF, (lsO ⟨tpV mv⟩ n))]) rfl (by decide)
    have e : (done.length : Int) = ((zV done).length : Int) := by rw [List.length_map]
    rw [e] at A1
    exact Me_go (zV done) (tpV mv) n (by rw [List.length_map]; exact hl) A1.ok A1.rep fun h' D => kk h' _ _ mv n hk (A1.next D)
  | cons z todo ih =>
    intro done mv n N Tn pos cv h hl hk A kk
    have hm : mv.length ≤ 8 := by
      have := congrArg List.length hk
      rw [List.length_map, List.length_map] at this
      rw [List.length_append] at hl
      omega
    refine Mt_go (zV (done ++ z :: todo)) done.length z.1 z.2 (by rw [List.getElem?_map, List.getElem?_append_right (Nat.le_refl _), Nat.sub_self]; rfl) tm (tpV mv) n (by rw [List.length_map]; omega) cv A.ok A.rep fun h' pp D => ?_
    have A1 := A.next D
    have e : done ++ z :: todo = (done ++ [z]) ++ todo := by rw [List.append_assoc]; rfl
    let t : Tp := ⟨N + 6, z.1.fmod 5, Tn + 1, wayS z.1, Tn + 33⟩
    have A2 := (A1.freeze (e := [t.o]) (l := [(dM, (lsO ⟨zV (done ++ z :: todo)⟩ 0)), (dE, (liO dM ((done.length : Int) + 1))), (eF, ⟨y9, none, .cell (some (Value.int z.1 z.2)), ⟨[]⟩⟩), (dF, ⟨y9, none, .cell (some (Value.ref fF)), ⟨[]⟩⟩), (fF, (lsO ⟨menuL tm⟩ 0)), (aF, (lsO ⟨tpV mv ++ [Value.ref (N + 6)]⟩ (n + 1)))])).permF (tpF_snoc mv t F)
    have el : ((done.length : Int) + 1) = ((done ++ [z]).length : Int) := by simp
    rw [e, el, show tpV mv ++ [Value.ref (N + 6)] = tpV (mv ++ [t]) from tpV_snoc mv t] at A2
    exact ih (done ++ [z]) (mv ++ [t]) (n + 1) _ _ pp _ h' (by rw [← e]; exact hl) (by rw [List.map_append, hk, List.map_append]; rfl) A2 (by rw [← e]; exact kk)
end
section
variable (w : World) (b1 b2 : Bool) (N Tn : Nat) (pos : Pos) (G : List GenState)
section
variable (bA aA : Addr) (ws : List Value) (m : Nat) (n : Nat) (hn : n = 2 ∨ n = 3 ∨ n = 4 ∨ n = 5 ∨ n = 6 ∨ n = 7 ∨ n = 8) (hws : ws.length = 2 * n)  (N2 Tn2 : Nat) (bQ cK : Tok) (k0 : Int)  (N3 Tn3 : Nat) (eR eS eT : Tok) (pl w0 : Str) (u0 r0 : Int) (tpl tu0 tr0 tw0 : Tok) 
noncomputable abbrev Lc_a : Rw := [(N, (fO 8 [de w b1 b2 z14 Tn (rf bA), de w b1 b2 z2 (Tn + 1) (rf (N + 1)), de w b1 b2 (S [107]) bQ (vi k0 cK), de w b1 b2 z36 (Tn2 + 1) (vs pl tpl), de w b1 b2 z9 (Tn2 + 2) (rf N2), de w b1 b2 z38 eR (vi u0 tu0), de w b1 b2 z7 eS (vi r0 tr0), de w b1 b2 z8 eT (vs w0 tw0)]))]
noncomputable abbrev Lc_z : Rw := []
noncomputable def Lc : Res :=
  nextC (Lb w b1 b2 N Tn pos G bA aA ws m n hn hws N2 Tn2 bQ cK k0) (.ok .next) w b1 b2 N3 Tn3 6 [1] [] (Lc_a w b1 b2 N Tn bA N2 Tn2 bQ cK k0 eR eS eT pl w0 u0 r0 tpl tu0 tr0 tw0) 1 G
theorem Lc_run : RunF (Lc w b1 b2 N Tn pos G bA aA ws m n hn hws N2 Tn2 bQ cK k0 N3 Tn3 eR eS eT pl w0 u0 r0 tpl tu0 tr0 tw0) [] (.ok (.ret (rf N2))) 0 0 G Lc_z := by
  rcases hn with rfl | rfl | rfl | rfl | rfl | rfl | rfl <;> walk_at "r"
variable {w b1 b2 N Tn pos G bA aA N2 Tn2 bQ cK N3 Tn3 eR eS eT}
def Lc_go := goF (Lc_run w b1 b2 N Tn pos G bA aA ws m n hn hws N2 Tn2 bQ cK k0 N3 Tn3 eR eS eT pl w0 u0 r0 tpl tu0 tr0 tw0) (sK rfl) (by decide)
end
end
section
variable {w : World} {b1 b2 : Bool} {h₀ : Heap} {U : List Addr} {d : Drawn} {os : OsState} {R : Result → Shared → Prop} {G : List GenState} {F : Rw}
theorem two_eight {n : Nat} (h1 : 2 ≤ n) (h2 : n ≤ 8) : n = 2 ∨ n = 3 ∨ n = 4 ∨ n = 5 ∨ n = 6 ∨ n = 7 ∨ n = 8 :=
  (by decide : ∀ n, n < 9 → 2 ≤ n → n = 2 ∨ n = 3 ∨ n = 4 ∨ n = 5 ∨ n = 6 ∨ n = 7 ∨ n = 8) n (Nat.lt_succ_of_le h2) h1
/-- _law_led -/
theorem led_go (t0 : Told w b1 b2) (ws : List Wd) (h2 : 2 ≤ ws.length) (h8 : ws.length ≤ 8) (hr : ∀ y ∈ ws, y.1 = 0 ∨ y.1 = 1 ∨ y.1 = 2 ∨ y.1 = 3 ∨ y.1 = 4) (hw : ∀ y ∈ ws, WayOk y.2.2.1)
    (wl fr : Addr) (N Tn m : Nat) (pos : Pos) (h : Heap) (A : At w b1 b2 h₀ U F h N [(wl, lsO ⟨wsV ws⟩ m)])
    (kk : ∀ h' N' T' (ps out : List Tp) (pl : Addr) (m' : Nat), (out.map Tp.k).Perm (ws.map fun x => (x.1, x.2.2.1)) → out.Pairwise (fun x y => tlt y x = false) → ps.map Tp.k = walkL ([47], []) (out.map Tp.k) →
      At w b1 b2 h₀ U (tpF ps ++ F) h' N' [(pl, lsO ⟨tpV ps⟩ m')] → R (.ok (.ret (.ref pl))) ⟨h', ⟨G⟩, d, T', os⟩) :
    wpCode (mdl w) (La_g wl fr) R pos ⟨h, ⟨G⟩, d, Tn, os⟩ := by
  have hws : (wsV ws).length = 2 * ws.length := wsV_len ws
  have hn := two_eight h2 h8
  obtain ⟨x, todo, rfl⟩ := List.exists_cons_of_length_pos (show 0 < ws.length by omega)
  refine La_go (pos := pos) (wsV (x :: todo)) m (x :: todo).length hn hws A.ok A.rep fun h1 pp D => ?_
  have A1 := (A.next D).pick [3, 1, 0, 2] (l' := [_, _, _, _]) rfl (by decide)
  refine push_loop1 (N + 3) N fr wl (N + 1) _ _ m x todo _ _ 0 pp h1 h8 hr A1 ?_
  intro h2 N2 T2 hs us m2 k3 tk k0 e1 hpm HP A2
  have A3 := (A2.pick [1, 0, 2] (l' := [_, _, _]) rfl (by decide)).freeze (l := [_, _]) (e := [_])
  refine Lb_go (pos := pos) (G := G) (N2 := N2) (Tn2 := T2) (wsV (x :: todo)) m (x :: todo).length hn hws k0 A3.ok A3.rep fun h3 pp3 D3 => ?_
  have A4 := ((A3.next D3).thaw (l := [_, _, _, _]) (e := [_])).pick [3, 1, 4, 2] (l' := [_, _, _, _]) rfl (by decide)
  have hlen : hs.length = todo.length + 1 := by
    have h1 := congrArg List.length e1
    have h2 := hpm.length_eq
    rw [List.length_map, List.length_map, List.length_cons] at h1
    omega
  have nd : (us.map (·.a)).Nodup := own_nd A2
  have hk : ∀ u ∈ hs, ∃ y ∈ x :: todo, u.s = y.2.2.1 := by
    intro u hu
    have : Tp.k u ∈ us.map Tp.k := List.mem_map.mpr ⟨u, hpm.mem_iff.mp hu, rfl⟩
    rw [e1] at this
    obtain ⟨y, hy, e⟩ := List.mem_map.mp this
    exact ⟨y, hy, (congrArg Prod.snd e).symm⟩
  refine pop_loop1 t0 (N2 + 2) N fr wl (N + 1) N2 _ _ _ _ _ _ k0 todo.length hs _ _ m2 0 pp3 _ h3 hlen h8 HP ((hpm.map (·.a)).nodup_iff.mpr nd) (fun u hu => List.mem_append_left _ (List.mem_map.mpr ⟨u, hpm.mem_iff.mp hu, rfl⟩)) (fun u hu => by
    obtain ⟨y, hy, e⟩ := hk u hu
    rw [e]; exact hw y hy) A4 ?_
  intro h4 N4 T4 ps out P' m4 mh4 k7 k8 k9 tp' tu' tr' tw' u0' r0' w0' q1 q2 q3 A5
  have A6 := A5.freeze (l := [_]) (e := [_, _])
  refine Lc_go (pos := pos) (G := G) (N2 := N2) (Tn2 := T2) (N3 := N4) (Tn3 := T4) (wsV (x :: todo)) m (x :: todo).length hn hws k0 (plT P') w0' u0' r0' tp' tu' tr' tw' A6.ok A6.rep fun h5 D5 => ?_
  have A7 := (A6.next D5).thaw (l := []) (e := [_, _])
  have A8 := A7.pick [1] (l' := [_]) rfl (by decide)
  refine kk h5 _ _ ps out N2 m4 ?_ q2 q3 (A8.dropF (F' := tpF ps ++ F) (List.Sublist.append_left (List.sublist_append_right ..) _))
  rw [← e1]
  exact (q1.trans hpm).map _
end
noncomputable abbrev xsW (ws : List Wd) : List (Str × Tok) := ws.flatMap fun x => [(S (rankS x.1), x.2.1), (x.2.2.1, x.2.2.2)]
noncomputable abbrev wdsL (ws : List Wd) : List (List Nat) := ws.flatMap fun x => [rankS x.1, x.2.2.1.cps.toList]
theorem xsW_sv (ws : List Wd) : strValues (xsW ws) = wsV ws := by
  induction ws with
  | nil => rfl
  | cons x ws ih => show _ :: _ :: strValues (xsW ws) = _ :: _ :: wsV ws; rw [ih]
theorem xsW_len (ws : List Wd) : (xsW ws).length = 2 * ws.length := by
  induction ws with
  | nil => rfl
  | cons x ws ih => show (xsW ws).length + 1 + 1 = _; rw [ih, List.length_cons]; omega
theorem wdsL_len (ws : List Wd) : (wdsL ws).length = 2 * ws.length := by
  induction ws with
  | nil => rfl
  | cons x ws ih => show (wdsL ws).length + 1 + 1 = _; rw [ih, List.length_cons]; omega
theorem xsW_txt (ws : List Wd) : (xsW ws).map (fun y => qS y.1) = (wdsL ws).map fun l => S (qt l) := by
  induction ws with
  | nil => rfl
  | cons x ws ih => show _ :: _ :: (xsW ws).map _ = _ :: _ :: (wdsL ws).map _; rw [ih]
theorem txts_ws : ∀ (ws : List Wd) (ts : List Tok), ts.length = (wdsL ws).length → ∃ wx : List Wd, txts (wdsL ws) ts = wsV wx ∧ wx.map wdK = ws.map wdK
  | [], _, _ => ⟨[], rfl, rfl⟩
  | x :: ws, ts, h => by
    rw [wdsL_len, List.length_cons] at h
    match ts, h with
    | t :: u :: ts, h =>
      obtain ⟨wx, e1, e2⟩ := txts_ws ws ts (by rw [wdsL_len]; simp only [List.length_cons] at h; omega)
      refine ⟨(x.1, t, x.2.2.1, u) :: wx, ?_, ?_⟩
      · show Value.str (S (rankS x.1)) t :: Value.str (S x.2.2.1.cps.toList) u :: txts (wdsL ws) ts = _ :: _ :: wsV wx
        rw [e1, ← S_of (x := x.2.2.1) rfl]
      · show wdK _ :: wx.map wdK = _ :: ws.map wdK
        rw [e2]
theorem sameT_ws : ∀ (ws : List Wd) (ts : List Tok), ts.length = (wdsL ws).length → SameT (txts (wdsL ws) ts) (wsV ws)
  | [], _, _ => ⟨rfl, fun j x y h => nomatch h⟩
  | x :: ws, ts, h => by
    rw [wdsL_len, List.length_cons] at h
    match ts, h with
    | t :: u :: ts, h =>
      obtain ⟨l, f⟩ := sameT_ws ws ts (by rw [wdsL_len]; simp only [List.length_cons] at h; omega)
      have e : txts (wdsL (x :: ws)) (t :: u :: ts) = Value.str (S (rankS x.1)) t :: Value.str x.2.2.1 u :: txts (wdsL ws) ts := by
        show Value.str (S (rankS x.1)) t :: Value.str (S x.2.2.1.cps.toList) u :: txts (wdsL ws) ts = _
        rw [← S_of (x := x.2.2.1) rfl]
      rw [e]
      refine ⟨congrArg (· + 2) l, fun j a b h1 h2 => ?_⟩
      match j, h1, h2 with
      | 0, h1, h2 => cases h1; cases h2; exact ⟨_, _, _, rfl, rfl⟩
      | 1, h1, h2 => cases h1; cases h2; exact ⟨_, _, _, rfl, rfl⟩
      | j + 2, h1, h2 => exact f j a b h1 h2
/-- what is known of the moves -/
structure MvOk (k : Int × Str) : Prop where
  r : Rk k.1
  way : ∃ a b c, k.2 = S (wayL a b c) ∧ a < 6 ∧ b < 6 ∧ c < 6
theorem mvK_ok (x : Int) : MvOk (mvK x) := by
  refine ⟨?_, _, _, _, rfl, ?_, ?_, ?_⟩
  · have h1 := Int.emod_nonneg x (show (5 : Int) ≠ 0 by decide)
    have h2 := Int.emod_lt_of_pos x (show (0 : Int) < 5 by decide)
    show Rk (x.fmod 5)
    rw [Int.fmod_eq_emod_of_nonneg _ (by decide)]
    generalize x % 5 = e at h1 h2
    unfold Rk
    omega
  · have h1 := dgt_nonneg x 0; have h2 := dgt_lt x 0; omega
  · have h1 := dgt_nonneg x 1; have h2 := dgt_lt x 1; omega
  · have h1 := dgt_nonneg x 2; have h2 := dgt_lt x 2; omega
theorem menuS_no47 (a : Nat) : 47 ∉ menuS a := by
  unfold menuS; split <;> decide
theorem MvOk.wayOk {k : Int × Str} (h : MvOk k) : WayOk k.2 := by
  obtain ⟨a, b, c, e, _, _, _⟩ := h.way
  exact ⟨menuS a, menuS b, menuS c, e, menuS_no47 a, menuS_no47 b, menuS_no47 c, menuS_len a, menuS_len b, menuS_len c⟩
theorem fold_le (ps : List Str) (k : Nat) (h : ∀ p ∈ ps, p.length ≤ k) : ps.toArray.foldl (· + ·.length + (S [32]).length) 0 ≤ ps.length * (k + 1) := by
  rw [List.foldl_toArray]
  have : ∀ (ps : List Str) (n : Nat), (∀ p ∈ ps, p.length ≤ k) → ps.foldl (· + ·.length + (S [32]).length) n ≤ n + ps.length * (k + 1) := by
    intro ps
    induction ps with
    | nil => intro n _; simp
    | cons a r ih =>
      intro n h
      have h1 := h a (.head _)
      have h2 := ih (n + a.length + (S [32]).length) fun p hp => h p (.tail _ hp)
      have h3 : (S [32]).length = 1 := rfl
      rw [List.foldl_cons, List.length_cons, Nat.succ_mul]
      rw [h3] at h2 ⊢
      omega
  have := this ps 0 h
  omega
theorem line_eq (ws : List Wd) : Builtin.Str.glued (S [32]) ((xsW ws).map fun y => qS y.1) = S (gb ((wdsL ws).map qt)) := by
  rw [xsW_txt, glued_gb, List.map_map]
  rfl
theorem qt_len {ws : List Wd} (h : ∀ x ∈ wdsL ws, Back x) : ∀ x ∈ (wdsL ws).map qt, x.length ≤ 40 := fun x hx => by
  obtain ⟨y, hy, rfl⟩ := List.mem_map.mp hx
  exact (h y hy).len
theorem line_fold {ws : List Wd} (h : ∀ x ∈ wdsL ws, Back x) (hl : ws.length ≤ 8) : ((xsW ws).map fun y => qS y.1).toArray.foldl (· + ·.length + (S [32]).length) 0 ≤ 1000 := by
  have := fold_le ((xsW ws).map fun y => qS y.1) 40 (fun p hp => by
    rw [xsW_txt] at hp
    obtain ⟨y, hy, rfl⟩ := List.mem_map.mp hp
    exact (h y hy).len)
  rw [List.length_map, xsW_len] at this
  omega
theorem line_len {ws : List Wd} (h : ∀ x ∈ wdsL ws, Back x) (hl : ws.length ≤ 8) : (gb ((wdsL ws).map qt)).length ≤ 1000 := by
  have := gb_len _ 40 (qt_len h)
  rw [List.length_map, wdsL_len] at this
  omega
theorem line_two {ws : List Wd} (h : 1 ≤ ws.length) : (gb ((wdsL ws).map qt)).length ≠ 1 := by
  match ws, h with
  | x :: ws, _ =>
    show (gb (qt (rankS x.1) :: qt x.2.2.1.cps.toList :: (wdsL ws).map qt)).length ≠ 1
    show (qt (rankS x.1) ++ 32 :: gb _).length ≠ 1
    have : qt (rankS x.1) ≠ [] := by
      unfold qt
      split
      · simp [rankS]
      · simp
    have := List.length_pos_iff.mpr this
    rw [List.length_append, List.length_cons]
    omega
theorem words_ok {w : World} {b1 b2 : Bool} (t0 : Told w b1 b2) {ws : List Wd} (hwo : ∀ x ∈ ws, MvOk (wdK x)) {aV aT bE aG aI aK aA : Addr} {aL : Tok} {N Tn : Nat} (z : Str × Tok) (hz : z ∈ xsW ws) :
    QOk w b1 b2 (qB aV aT bE aG aI aK aA aL) z.1 z.2 N Tn (qS z.1) := by
  obtain ⟨y, hy, hzy⟩ := List.mem_flatMap.mp hz
  have ho := hwo y hy
  simp only [List.mem_cons, List.not_mem_nil, or_false] at hzy
  rcases hzy with rfl | rfl
  · have := quote_rank (N := N) (Tn := Tn) (aV := aV) (aT := aT) (bE := bE) (aG := aG) (aI := aI) (aK := aK) (aA := aA) (aL := aL) t0 y.1 ho.r y.2.1
    show QOk w b1 b2 _ (S (rankS y.1)) y.2.1 N Tn (S (qt (rankS y.1)))
    rw [qt_rank _ ho.r]
    exact this
  · obtain ⟨a, b, c, e, ha, hb, hc⟩ := ho.way
    have e' : y.2.2.1 = S (wayL a b c) := e
    show QOk w b1 b2 _ y.2.2.1 y.2.2.2 N Tn (S (qt y.2.2.1.cps.toList))
    rw [e']
    show QOk w b1 b2 _ (S (wayL a b c)) y.2.2.2 N Tn (S (qt (wayL a b c)))
    rw [qt_way a b c ha hb hc]
    exact quote_way t0 a b c ha hb hc y.2.2.2
noncomputable abbrev o882 : Obj := ⟨Value.none, none, .fields ⟨[]⟩, ⟨[]⟩⟩
noncomputable abbrev o882c (c : Addr) : Obj := ⟨Value.none, none, .fields ⟨[Value.int 895 0, Value.int 20 0, Value.ref c]⟩, ⟨[]⟩⟩
section
variable {w : World} {b1 b2 : Bool} {h₀ h h' : Heap} {U : List Addr} {d : Drawn} {os : OsState} {R : Result → Shared → Prop} {F : Rw} {N : Nat} {l e : Rw}
theorem At.front {mv : Rw} (A : At w b1 b2 h₀ U (mv ++ (e ++ F)) h N l) : At w b1 b2 h₀ U (mv ++ F) h N (l ++ e) := (A.permF (List.perm_append_comm_assoc _ _ _)).thaw
theorem zV_num (zs : List (Int × Tok)) (t u : Tok) : ([Value.int 393 t, Value.int 921 u] : List Value) ++ (zV zs).take 6 = zV ((393, t) :: (921, u) :: zs.take 6) := by
  show _ :: _ :: (zs.map _).take 6 = _ :: _ :: (zs.take 6).map _
  rw [List.map_take]
/-- law's own body -/
theorem law_go (t0 : Told w b1 b2) (zs : List (Int × Tok)) (hz : (zV zs).length ≤ 1000) (sc : Addr) (Tn : Nat) (pos : Pos) (A : At w b1 b2 h₀ U F h N [(sc, lsO ⟨zV zs⟩ 0), (882, o882)])
    (kk : ∀ h' N' T' c, At w b1 b2 h₀ U [] h' N' [(sc, lsO ⟨zV zs⟩ 0), (882, o882c c)] → R (.ok (.ret (.bool true))) ⟨h', ⟨[.finished]⟩, d, T', os⟩) :
    wpCode (mdl w) (Ma_g sc) R pos ⟨h, ⟨[]⟩, d, Tn, os⟩ := by
  have A0 := A.freeze (l := [_]) (e := [_])
  refine Ma_go (pos := pos) (G := []) (zV zs) hz A0.ok A0.rep fun h1 p1 D1 => ?_
  have A1 := (((A0.next D1).thaw (l := [_, _, _, _, _, _, _, _, _, _]) (e := [_])).pick [6, 2, 9, 4, 5, 7, 0, 1, 10] (l' := [_, _, _, _, _, _, _, _, _]) rfl (by decide)).freeze (l := [_]) (e := [_, _, _, _, _, _, _, _])
  refine Mb_go A1.ok A1.rep fun h2 p2 D2 => ?_
  have A2 := (((A1.next D2).thaw (l := [_]) (e := [_, _, _, _, _, _, _, _])).pick [1, 0, 2, 3, 4, 5, 6, 7, 8] (l' := [_, _, _, _, _, _, _, _, _]) rfl (by decide)).freeze (l := [_, _, _, _, _, _]) (e := [_, _, _])
  rw [zV_num] at A2
  obtain ⟨ys, eys⟩ : ∃ ys, ys = (393, Tn + 1) :: (921, Tn + 2) :: zs.take 6 := ⟨_, rfl⟩
  rw [← eys] at A2
  have hys : ys.length ≤ 8 := by rw [eys]; simp only [List.length_cons, List.length_take]; omega
  have hys2 : 2 ≤ ys.length := by rw [eys]; simp only [List.length_cons]; omega
  refine moves_loop (F := _) ys [] [] 0 _ _ p2 none h2 hys rfl A2 fun h3 N3 T3 mv n3 hmv A3 => ?_
  have hml : mv.length = ys.length := by
    have := congrArg List.length hmv
    rwa [List.length_map, List.length_map] at this
  have hmo : ∀ u ∈ mv, MvOk u.k := fun u hu => by
    have : u.k ∈ mv.map Tp.k := List.mem_map.mpr ⟨u, hu, rfl⟩
    rw [hmv] at this
    obtain ⟨z, _, e⟩ := List.mem_map.mp this
    rw [← e]
    exact mvK_ok z.1
  have A4 := ((A3.front (e := [_, _, _])).pick [2, 0, 3, 1] (l' := [_, _, _, _]) rfl (by decide)).freeze (l := [_, _]) (e := [_, _])
  refine Mf_go (pos := pos) _ _ (tpV mv) n3 A4.ok A4.rep fun h4 p4 D4 => ?_
  have A5 := (((A4.next D4).thaw (l := [_, _, _, _]) (e := [_, _])).pick [1, 3, 0, 2, 4, 5] (l' := [_, _, _, _, _, _]) rfl (by decide)).freeze (l := [_, _, _, _]) (e := [_, _])
  obtain ⟨u, todo, rfl⟩ := List.exists_cons_of_length_pos (show 0 < mv.length by omega)
  have hin : ∀ v ∈ u :: todo, v.o ∈ tpF (u :: todo) ++ F := fun v hv => List.mem_append_left _ (List.mem_map.mpr ⟨v, hv, rfl⟩)
  refine ext_loop1 u todo _ _ 0 p4 h4 (by omega) (fun v hv => ⟨List.mem_append_right _ (hin v hv), (hmo v hv).r⟩) A5 fun h5 N5 T5 ws m5 k4 k5 r0 tr0 w0 tw0 hws A6 => ?_
  have hwl : ws.length = ys.length := by
    have := congrArg List.length hws
    rw [List.length_map, List.length_map] at this
    omega
  have hwo : ∀ x ∈ ws, MvOk (wdK x) := fun x hx => by
    have : wdK x ∈ ws.map wdK := List.mem_map.mpr ⟨x, hx, rfl⟩
    rw [hws] at this
    obtain ⟨v, hv, e⟩ := List.mem_map.mp this
    rw [← e]
    exact hmo v hv
  have A7 := ((A6.thaw (l := [_, _, _]) (e := [_, _])).pick [1, 2, 3, 0, 4] (l' := [_, _, _, _, _]) rfl (by decide)).freeze (l := [_, _, _]) (e := [_, _])
  refine Jn_go (pos := pos) _ _ _ _ (wsV ws) m5 r0 w0 A7.ok A7.rep fun h6 D6 => ?_
  have A8 := (((A7.next D6).thaw (l := [_, _, _, _, _, _, _, _, _, _]) (e := [_, _])).pick [9, 1, 4, 8, 0, 2, 10, 11] (l' := [_, _, _, _, _, _, _, _]) rfl (by decide)).freeze (l := [_, _, _, _]) (e := [_, _, _, _])
  rw [← xsW_sv] at A8
  have hback : ∀ x ∈ wdsL ws, Back x := fun x hx => by
    obtain ⟨y, hy, hxy⟩ := List.mem_flatMap.mp hx
    have ho := hwo y hy
    simp only [List.mem_cons, List.not_mem_nil, or_false] at hxy
    rcases hxy with rfl | rfl
    · exact back_rank _ ho.r
    · obtain ⟨a, b, c, e, ha, hb, hc⟩ := ho.way
      have e' : y.2.2.1 = S (wayL a b c) := e
      rw [e']
      exact back_way a b c ha hb hc
  have h8 : ws.length ≤ 8 := by omega
  refine gen_join qS (xsW ws) _ _ h6 (by rw [xsW_len]; omega) (by rw [xsW_len]; omega) (fun z hzm aI N Tn => words_ok t0 hwo z hzm) (line_fold hback h8) (by rw [line_eq]; exact line_len hback h8) A8 fun h7 N7 T7 A9 => ?_
  rw [line_eq]
  have A10 := (A9.thaw (l := [_]) (e := [_, _, _, _])).freeze (l := []) (e := [_, _, _, _, _])
  refine Jk_go (pos := pos) _ _ _ _ _ _ _ _ (S (gb ((wdsL ws).map qt))) T7 [.finished] A10.ok A10.rep fun h8' p8 D8 => ?_
  have A11 := (((A10.next D8).thaw (l := []) (e := [_, _, _, _, _])).pick [1, 0, 3, 4, 2] (l' := [_, _, _, _, _]) rfl (by decide)).freeze (l := [_]) (e := [_, _, _, _])
  rw [xsW_sv] at A11
  refine split_words t0 A11.ok (by exact line_two (by omega)) (by have := line_len hback h8; exact Nat.lt_of_le_of_lt this (by decide)) (ws := wdsL ws) (reads_gb _ (by
    intro q
    have := congrArg List.length q
    rw [wdsL_len] at this
    simp only [List.length_nil] at this
    omega) hback) (by rw [wdsL_len]; omega) A11.rep fun h9 N9 T9 n9 ts s7 hts D9 => ?_
  have A12 := ((A11.next (m := 0) D9).thaw (l := [_, _]) (e := [_, _, _, _])).freeze (l := [_, _, _]) (e := [_, _, _])
  refine Ya_go (pos := pos) _ _ _ _ _ _ _ _ _ _ _ _ (txts (wdsL ws) ts) (wsV ws) n9 m5 r0 w0 s7 (sameT_ws ws ts hts) [.finished] A12.ok A12.rep fun h10 p10 D10 => ?_
  obtain ⟨wx, ewx, hwx⟩ := txts_ws ws ts hts
  have hxl : wx.length = ws.length := by
    have := congrArg List.length hwx
    rwa [List.length_map, List.length_map] at this
  have hxo : ∀ x ∈ wx, MvOk (wdK x) := fun x hx => by
    have : wdK x ∈ wx.map wdK := List.mem_map.mpr ⟨x, hx, rfl⟩
    rw [hwx] at this
    obtain ⟨v, hv, e⟩ := List.mem_map.mp this
    rw [← e]
    exact hwo v hv
  have A13 := (((A12.next D10).thaw (l := [_, _]) (e := [_, _, _])).pick [1, 0, 2, 3, 4] (l' := [_, _, _, _, _]) rfl (by decide)).freeze (l := [_]) (e := [_, _, _, _])
  rw [ewx] at A13
  refine led_go t0 wx (by omega) (by omega) (fun y hy => (hxo y hy).r) (fun y hy => (hxo y hy).wayOk) _ _ _ _ _ p10 h10 A13 fun h11 N11 T11 ps out pl m11 hpm hpw hps A14 => ?_
  have A15 := ((A14.front (e := [_, _, _, _])).pick [1, 0, 2, 3, 4] (l' := [_, _, _, _, _]) rfl (by decide)).freeze (l := [_]) (e := [_, _, _, _])
  refine Yb_go (pos := pos) _ _ _ _ _ _ _ _ _ _ _ _ _ _ _ _ _ _ _ _ _ pl [.finished] A15.ok A15.rep fun h12 p12 D12 => ?_
  have A16 := (((A15.next D12).thaw (l := []) (e := [_, _, _, _])).pick [1, 0, 2, 3] (l' := [_, _, _, _]) rfl (by decide)).freeze (l := [_]) (e := [_, _, _])
  refine due_go (u :: todo) (by omega) (by omega) (fun v hv => List.mem_append_right _ (List.mem_append_right _ (hin v hv))) (fun v hv => (hmo v hv).wayOk) _ _ _ _ p12 A16 fun h13 N13 T13 ps2 out2 pd m13 hpm2 hpw2 hps2 A17 => ?_
  have A18 := ((A17.front (e := [_, _, _])).pick [1, 0, 2, 3] (l' := [_, _, _, _]) rfl (by decide)).freeze (l := [_, _]) (e := [_, _])
  refine Yc_go (pos := pos) _ _ _ _ _ _ _ _ _ _ _ _ _ _ _ _ _ _ _ _ _ _ _ pd (tpV ps) (tpV ps2) m11 m13 [.finished] A18.ok A18.rep fun h14 D14 => ?_
  have A19 := A18.next D14
  have hkeys : ps.map Tp.k = ps2.map Tp.k := by
    rw [hps, hps2]
    have e : out.map Tp.k = out2.map Tp.k := by
      refine sorted_eq (le := fun a b => lt2 b a = false) (fun a b h1 h2 => lt2_anti a b h2 h1) _ _ ?_ ?_ ?_
      · refine hpm.trans ?_
        rw [show (wx.map fun x => (x.1, x.2.2.1)) = ws.map wdK from hwx, hws]
        exact (hpm2.map Tp.k).symm
      · exact List.pairwise_map.mpr hpw
      · exact List.pairwise_map.mpr hpw2
    rw [e]
  refine code_ar (Γ := ⟨.func _ _, none, none, _, none⟩) (f := .builtin "list.__eq__") (args := [.ref pl, .ref pd]) ?_
  refine lists_eqA ps ps2 (A19.own _ (.head _)).1 (A19.own _ (.tail _ (.head _))).1 (fun t ht => ?_) (fun t ht => ?_) hkeys ?_ ?_
  · exact (A19.own t.o (List.mem_append_right _ (List.mem_append_right _ (List.mem_append_right _ (List.mem_append_left _ (List.mem_map.mpr ⟨t, ht, rfl⟩)))))).1
  · exact (A19.own t.o (List.mem_append_right _ (List.mem_append_right _ (List.mem_append_left _ (List.mem_map.mpr ⟨t, ht, rfl⟩))))).1
  · exact Nat.le_of_ble_eq_true (by kernel_rfl)
  · have A20 := (A19.freeze (l := []) (e := [_, _]))
    refine Yd_go (pos := pos) _ _ _ _ _ _ _ _ _ _ _ _ _ _ _ _ _ _ _ _ _ _ _ _ _ _ _ _ _ [.finished] A20.ok A20.rep fun h15 D15 => ?_
    exact kk h15 _ _ _ ((((A20.next D15).thaw (l := []) (e := [_, _])).thaw (e := [_, _])).pick [2, 3] (l' := [_, _]) rfl (by decide) |>.dropF (List.nil_sublist _))
end
section
open PySem.Spec PySem.Calls
/-- the caller's own context -/
noncomputable abbrev cG : PySem.Ctx := ⟨.builtin "claim.caller" {}, none, none, [], none⟩
abbrev CallC (q : Program) (loose : List Str) (XP : (Str → Option Value) → Heap → Prop) (YP : World → Heap → Prop) (r : OpenRow) : Prop :=
  ∀ (w : World) (s₀ s₁ : Shared) (mg mb : Str → Option Value), Ground q loose r.toRowW.records XP w s₀ mg mb s₁.heap → YP w s₁.heap → ∀ (a : Addr), mg r.name = some (.ref a) → s₁.gens = #[] → ∀ (args : List WData) (vals : List Value) (as : List Addr),
    r.toRowW.claim.pre args = true → WData.layableAll args = true → Laid r.toRowW.records w s₀ s₁ args vals as → sysModules < s₀.heap.objs.size →
    wpCode (model r.prog w) (cG.enter (.call (.ref a) ⟨vals, []⟩) none default) (fun res s' => ∃ v, res = .ok (.ret v) ∧ GoodWG r.toRowW.claim (classAt s₀.heap) (ExcName.means s₀.heap) args s₁ res s') default s₁
theorem tree_runs {r : OpenRow} {w : World} {s : Shared} {mg : Str → Option Value} {a : Addr} {vals : List Value} {R : Result → Shared → Prop} (hg : s.heap.Ns mainGlobals mg) (hf : mg r.name = some (.ref a))
    (h : wpCode (model r.prog w) (cG.enter (.call (.ref a) ⟨vals, []⟩) none default) (fun res s' => ∃ v, res = .ok (.ret v) ∧ R res s') default s) :
    Sem.wp (model r.prog w) cG (do match ← nsGet mainNs r.name with
      | some f => do ret (← PySem.call f vals)
      | none => unsupported "claim.caller:no-such-global" : Sem Fin) (Sem.finPost (model r.prog w) cG R) (fun e _ s' => R (.error e) s') default s := by
  rw [Sem.wp_bind']
  rw [show mainNs = mainGlobals from rfl, Sem.wp_nsGet _ _ _ _ _ hg, hf]
  show Sem.wp _ _ (PySem.call (.ref a) vals >>= fun v => ret v) _ _ _ _
  rw [Sem.wp_bind']
  have e : PySem.call (.ref a) vals = Sem.call (.call (.ref a) ⟨vals, []⟩) none false [] (fun r => (match r with | .ok f => Sem.pure f | .error e => Sem.raise e : Sem Flow) >>= fun fl => match fl with | .ret v => pure v | _ => unsupported "internal:call-without-return-value") := rfl
  rw [e, Sem.wp_call]
  refine wpCode_mono ?_ h
  rintro res s' ⟨v, rfl, hr⟩
  exact hr
theorem call_runs {c : ClaimW} {tree : List Value → Sem Fin} {w : World} {s : Shared} {free : Addr → Prop} {gens : Prop} {kept : Heap → Prop} (hz : s.asleep) (hgens : s.gens = #[])
    (h : ∀ args, c.pre args = true → WData.layableAll args = true → ∀ ord : List DictEntry → List DictEntry, (∀ l, (ord l).Perm l) →
      ∃ vs s₁, layAllW c.records (classAt s.heap) w.params ord args s = some (vs, s₁) ∧
        Sem.wp (model c.prog w) cG (tree vs) (Sem.finPost (model c.prog w) cG fun r s' => (c.Ends s args vs s₁ r s' ∧ s'.os = s.os ∧ kept s'.heap) ∧ leftWithCleanup s'.gens = false)
          (fun e _ s' => (c.Ends s args vs s₁ (.error e) s' ∧ s'.os = s.os ∧ kept s'.heap) ∧ leftWithCleanup s'.gens = false) default s₁) :
    c.CallFrom (fun vs => ⟨tree vs, .builtin "claim.caller" {}, default, []⟩) w free gens kept s := by
  intro args hpre hlay ord hord
  obtain ⟨vs, s₁, hl, hw⟩ := h args hpre hlay ord hord
  have hr := layAllW_rest _ _ _ hl
  obtain ⟨n, r, sa, sb, hs, hn, hfo, hE, hos, hk⟩ := wp_halts_full (M := model c.prog w) (R := fun r s' => c.Ends s args vs s₁ r s' ∧ s'.os = s.os ∧ kept s'.heap) (Shared.asleep_of_life hr.2.2.2 hz) hw
  obtain ⟨eh, _, _, eo, _⟩ := Shared.forget_eq hfo
  have hE' := hE.congr eh
  have hk' : kept sb.heap := by rw [eh]; exact hk
  have hlf : sb.heap.life = s.heap.life := (runN_life _ _ _ hn).trans hr.2.2.2
  refine ⟨vs, s₁, hl, n, _, sb, hs, ?_, (fun _ i x hx => by rw [hgens] at hx; simp at hx), hk', by rw [hlf], Shared.rest_eq (eo.trans hos)⟩
  rcases hE' with ⟨v, rfl, d1, d2, d3, d4, d5⟩ | ⟨e, ob, cls, rfl, d1, d2, d3, d4, d5⟩
  · exact .inl ⟨v, rfl, d1, d2, d3, fun b o y _ => d4 b o y, d5⟩
  · exact .inr ⟨e, ob, cls, rfl, d1, d2, d3, d4, fun b o y _ => d5 b o y⟩
theorem holds_own {r : OpenRow} {q : Program} {loose : List Str} {Xt : Shared → Bool} {XP : (Str → Option Value) → Heap → Prop} {α : Type} {Yf : Shared → α} {Ya : World → α} {YP : World → Heap → Prop} {d : DefRec} {kwd : List (Str × PySem.Expr)} {N : Nat}
    (left : LeftO r.prog q loose Xt Yf Ya N) (hY : ∀ w s, Yf s = Ya w → YP w s.heap) (hYk : ∀ w h h', YP w h → (∀ b o, h.get? b = some o → h'.get? b = some o) → YP w h')
    (hX : ∀ s, Xt s = true → XP (s.heap.nsMap mainGlobals) s.heap) (hXk : ∀ mg h h', XP mg h → (∀ b o, h.get? b = some o → h'.get? b = some o) → XP mg h')
    (hdef : defOf q r.name = some (d, kwd)) (hp : r.prog.theDef r.name = some (d.params, d.body, d.scope)) (hk : kwWritten? d.params.kwonlyargs d.params.kw_defaults = some kwd) (hRf : ∀ s, Xt s = true → RecFacts r.records s.heap) (hwr : (!r.writes || r.records.isEmpty) = true)
    (k1 : r.wellSaid = true) (ok : (chainsOk q && opensWell r.prog && (frees r.toRowW && r.within.isEmpty)) = true) (hb : r.prog.bare) (hw : r.toRowW.promised)
    (call : CallC q loose XP YP r) : r.Holds := by
  obtain ⟨ok1, ok2⟩ := Bool.and_eq_true_iff.mp ok
  obtain ⟨hch, ho⟩ := Bool.and_eq_true_iff.mp ok1
  obtain ⟨hfr, hwi⟩ := Bool.and_eq_true_iff.mp ok2
  obtain ⟨hsame, hu, ha, hap, hm⟩ := frees_parts hfr
  have hwi : r.toRowW.claim.within = [] := List.isEmpty_iff.mp hwi
  have hid := ident_freeW hu ha hap
  refine ⟨k1, hw, ⟨hb, ho, by show r.toRowW.makers.map _ = []; rw [hm]; rfl⟩, hw.witness, fun w => ⟨(left.behind hX hch w).1, fun s' hs' => ?_⟩⟩
  obtain ⟨s₀, hf, hg0, s, hT, hz, hgn, hg, G0, y⟩ := (left.behind (XP := fun mg h => XP mg h ∧ RecFacts r.toRowW.records h) (fun s hs => ⟨hX s hs, hRf s hs⟩) hch w).2 s' hs'
  have G : Ground q loose [] XP w s (s.heap.nsMap mainGlobals) (s.heap.nsMap builtinsNs) s.heap := ⟨G0.T, G0.B, G0.D, G0.TE, G0.TD, G0.W, G0.X.1, G0.cls, G0.has, G0.apart, G0.once, G0.K⟩
  have RF := G0.X.2
  have hgn : s.gens = #[] := Array.eq_empty_of_size_eq_zero (beq_iff_eq.mp hgn)
  refine ⟨s₀, hf, hg0, s, hT, fun n hn => ?_, RF.1, RF.2.1, call_runs (c := r.toRowW.claim) hz hgn fun args hpre hlay ord hord => ?_⟩
  · obtain rfl : n = r.name := by split at hn <;> simp_all
    exact pinned_of_view hg G hdef hp hk
  · have G1 : Ground q loose r.toRowW.records XP w s _ _ s.heap := RF.ground G
    obtain ⟨⟨vs, s₁⟩, hl⟩ := Option.isSome_iff_exists.mp (layAllW_isSome (P := w.params) (ord := ord) G1.has args r.toRowW.args s (pre_splitW hpre).1)
    have kp := layAllW_keeps _ _ _ hl
    have hr := layAllW_rest _ _ _ hl
    obtain ⟨as, hrd, hin, hold⟩ := reads_layAllW hord _ _ _ hl hlay s₁.heap (fun _ _ e => e)
    have L : Laid r.toRowW.records w s s₁ args vs as := ⟨⟨ord, hord, hl⟩, hrd, hin, hold, kp, hr.1.trans hgn, hr.2.2.1⟩
    have G2 := G1.keeps hXk kp
    obtain ⟨a, o, pm, cd, doc, dV, kV, h1, h2, h3, h4, h5⟩ := G2.fn hdef
    have h1' : s.heap.nsMap mainGlobals r.name = some (.ref a) := h1
    refine ⟨vs, s₁, hl, tree_runs G2.T.g h1' (wpCode_mono ?_ (call w s s₁ _ _ G2 (hYk _ _ _ (hY w s y) kp) a h1' L.gens args vs as hpre hlay L G1.low))⟩
    rintro res s2 ⟨v, rfl, g⟩
    have z := g.laid (c := r.toRowW.claim) hsame hwi hid L
    exact ⟨v, rfl, ⟨z.1, z.2.1, fun q => ⟨namesKept_of hT hg _ kp g.2.1.old, noTable hwr q⟩⟩, leftWithCleanup_false_of_bare z.2.2⟩
end
section
open PySem.Spec PySem.Calls
noncomputable abbrev topF (P : Params) : Frag := (882, o882) :: topK P
abbrev rw0 : OpenRow := PySem.Challenge.rw_pd0121_01.row
theorem ints_zs : ∀ {vs : List Value} {ns : List Int}, IntsAre vs ns → ∃ zs : List (Int × Tok), vs = zV zs
  | _, _, .nil => ⟨[], rfl⟩
  | _, _, .cons n t h => by
    obtain ⟨zs, rfl⟩ := ints_zs h
    exact ⟨(n, t) :: zs, rfl⟩
theorem script_of {w : World} {s₀ s₁ : Shared} {args : List WData} {vals : List Value} {as : List Addr} (hpre : rw0.toRowW.claim.pre args = true) (hlay : WData.layableAll args = true) (L : Laid rw0.toRowW.records w s₀ s₁ args vals as) (low : sysModules < s₀.heap.objs.size) :
    ∃ (ns : List Int) (a : Addr) (zs : List (Int × Tok)), args = [ofPy (PyData.list (ns.map PyData.int))] ∧ vals = [.ref a] ∧ a = s₀.heap.objs.size ∧ s₁.heap.objs.size = s₀.heap.objs.size + 1 ∧ s₁.heap.get? a = some (lsO ⟨zV zs⟩ 0) ∧ (zV zs).length ≤ 1000 := by
  have hrd := L.reads
  have hwl := L.well
  have hlo := L.low low
  wrow_args hpre hlay hrd hwl hlo
  rename_i ns _ _ _ _ _ _ _ a vs _ hL _ _ _ hI _ h63 _
  obtain ⟨zs, rfl⟩ := ints_zs hI
  obtain ⟨e1, e2⟩ := X.script_at L
  refine ⟨ns, a, zs, rfl, rfl, e1, e2, X.script_obj L hL, ?_⟩
  have := hI.length
  omega
theorem post_true (ns : List Int) : rw0.toRowW.claim.post [ofPy (PyData.list (ns.map PyData.int))] (.bool true) [ofPy (PyData.list (ns.map PyData.int))] = true := by
  wrow_post
theorem no_raise (args : List WData) (cls : ExcName) : rw0.toRowW.claim.raises args cls = false := rfl
noncomputable def NT.list : NT → List (Nat × Obj)
  | .leaf => []
  | .node l k o r => l.list ++ (k, o) :: r.list
theorem NT.find_mem : ∀ (t : NT) (a : Nat) (o : Obj), t.find a = some o → (a, o) ∈ t.list
  | .leaf, a, o, e => nomatch e
  | .node l k o' r, a, o, e => by
    have e' : Bool.rec (motive := fun _ => Option Obj) (Bool.rec (motive := fun _ => Option Obj) (r.find a) (l.find a) (Nat.ble a k)) (some o') (Nat.beq a k) = some o := e
    unfold NT.list
    cases q : Nat.beq a k with
    | true =>
      have := Nat.eq_of_beq_eq_true q
      subst this
      rw [q] at e'
      have e2 : some o' = some o := e'
      cases e2
      exact List.mem_append_right _ (.head _)
    | false =>
      rw [q] at e'
      cases q2 : Nat.ble a k with
      | true => rw [q2] at e'; exact List.mem_append_left _ (NT.find_mem l a o e')
      | false => rw [q2] at e'; exact List.mem_append_right _ (.tail _ (NT.find_mem r a o e'))
theorem top_all (P : Params) : (topT P).list.map (fun x => (topF P).lookup x.1) = (topT P).list.map fun x => some x.2 := by kernel_rfl
theorem top_frag (P : Params) (a : Nat) (o : Obj) (h : (topT P).find a = some o) : (topF P).lookup a = some o := List.map_inj_left.mp (top_all P) (a, o) (NT.find_mem _ _ _ h)
theorem look882 (P : Params) : (topF P).lookup 882 = some o882 := by kernel_rfl
theorem look921 (P : Params) : (topF P).lookup 921 = some (T.o921 P) := by kernel_rfl
theorem look886 (P : Params) : (topF P).lookup 886 = some (T.o886 P) := by kernel_rfl
theorem look3 (P : Params) : (topF P).lookup 3 = some (T.o3 P) := by kernel_rfl
theorem cls921 (P : Params) : (T.o921 P).cls = .type "function" := by kernel_rfl
noncomputable def fldsOf (o : Obj) : Array Value := match o.data with | .fields vs => vs | _ => #[]
noncomputable def entsOf (o : Obj) : Array DictEntry := match o.data with | .dict es _ => es | _ => #[]
noncomputable def epOf (o : Obj) : Nat := match o.data with | .dict _ n => n | _ => 0
theorem code886 (P : Params) : ∃ vs, (T.o886 P).cls = .type "code" ∧ (T.o886 P).data = .fields vs ∧ vs[11]? = some (.ref 882) := ⟨fldsOf (T.o886 P), by kernel_rfl, by kernel_rfl, by kernel_rfl⟩
theorem law921 (P : Params) : ∃ es ep, (T.o3 P).data = .dict es ep ∧ nsFind es rw0.name = some (.ref 921) := ⟨entsOf (T.o3 P), epOf (T.o3 P), by kernel_rfl, by kernel_rfl⟩
def WalkAll : Prop := ∀ (w : World) (s₀ s₁ : Shared) (mg : Str → Option Value), s₁.heap.Ns mainGlobals mg → InK topF w s₁.heap → ∀ (a : Addr), mg rw0.name = some (.ref a) → s₁.gens = #[] → ∀ (args : List WData) (vals : List Value) (as : List Addr),
    rw0.toRowW.claim.pre args = true → WData.layableAll args = true → Laid rw0.toRowW.records w s₀ s₁ args vals as → sysModules < s₀.heap.objs.size →
    wpCode (model rw0.prog w) (cG.enter (.call (.ref a) ⟨vals, []⟩) none default) (fun res s' => ∃ v, res = .ok (.ret v) ∧ GoodWG rw0.toRowW.claim (classAt s₀.heap) (ExcName.means s₀.heap) args s₁ res s') default s₁
theorem walk_all : WalkAll := by
  intro w s₀ s₁ mg hns Y a hmg hg args vals as hpre hlay L low
  obtain ⟨ns, sc, zs, rfl, rfl, e1, e2, hsc, hz⟩ := script_of hpre hlay L low
  have Y' : ∀ a o, (topF w.params).lookup a = some o → s₁.heap.get? a = some o := Y
  -- law stands at 921
  have ha : a = 921 := by
    obtain ⟨o, es, ep, ho, hd, _, hm⟩ := hns
    obtain ⟨es', ep', hd', hf⟩ := law921 w.params
    have h3 := Y' 3 _ (look3 _)
    rw [show (3 : Addr) = mainGlobals from rfl, ho] at h3
    cases h3
    rw [hd] at hd'
    cases hd'
    rw [hm, hmg] at hf
    cases hf
    rfl
  subst ha
  have h921 := Y' 921 _ (look921 _)
  have hlo : 922 ≤ sc := by
    have e1' : @Eq Nat sc s₀.heap.objs.size := e1
    have h1 : @LT.lt Nat _ 921 s₁.heap.objs.size := Heap.lt_size h921
    rcases Nat.lt_or_ge sc 922 with q | q
    · have q' : @LT.lt Nat _ sc 922 := q
      have h2 : @Eq Nat sc 921 := by omega
      have h2' : sc = 921 := h2
      subst h2'
      rw [hsc] at h921
      have h3 := congrArg Obj.cls (Option.some.inj h921)
      rw [cls921] at h3
      have h4 : (Value.type "list") = Value.type "function" := h3
      exact absurd h4 (by decide)
    · exact q
  have hsz : @LE.le Nat _ 922 s₁.heap.objs.size := Heap.lt_size h921
  have hne : sc ≠ 882 := fun q => by
    have hlo' : @LE.le Nat _ 922 sc := hlo
    have q' : @Eq Nat sc 882 := q
    omega
  obtain ⟨b1, b2, eP⟩ : ∃ b1 b2, w.params = PF w.params b1 b2 := ⟨_, _, PF_self w.params⟩
  have t0 : Told w b1 b2 := ⟨eP⟩
  obtain ⟨h, g, d, tk, os⟩ := s₁
  simp only at hg hns Y' hsc e2 h921 hsz
  subst hg
  have O : ∀ N T, Ok (svW w b1 b2 N T) w (tpW w b1 b2) h [sc, 882] := fun N T => by
    refine ⟨eP, fun a o e => ?_⟩
    have k := topT_keys _ _ _ e
    have e' : (topT w.params).find a = some o := by rw [eP]; exact e
    refine ⟨Y' a o (top_frag _ _ _ e'), fun hm => ?_⟩
    simp only [List.mem_cons, List.not_mem_nil, or_false] at hm
    rcases hm with rfl | rfl
    · exact absurd k.1 (Nat.not_lt.mpr hlo)
    · exact k.2 rfl
  have A : At w b1 b2 h [sc, 882] [] h h.objs.size [(sc, lsO ⟨zV zs⟩ 0), (882, o882)] := by
    refine ⟨O, hsz, Nat.le_refl _, rfl, fun y hy => ?_, ?_, fun b o e _ => e⟩
    · simp only [List.append_nil, List.mem_cons, List.not_mem_nil, or_false] at hy
      rcases hy with rfl | rfl
      · exact ⟨hsc, .inl hlo, .inl (.head _)⟩
      · exact ⟨Y' 882 _ (look882 _), .inr rfl, .inl (.tail _ (.head _))⟩
    · simp [hne]
  refine law_go t0 zs hz sc tk default A fun h' N' T' c A' => ⟨_, rfl, .inl ⟨.bool true, .bool true, [], rfl, no_raise _, .bool true, post_true ns, fun _ => ⟨List.nodup_nil, fun a ha => nomatch ha⟩⟩, ?_, rfl, ?_⟩
  · have hin : ∀ b o, h.get? b = some o → b ∉ [sc, 882] ∨ b = sc ∨ b = 882 := fun b o e => by
      by_cases q : b ∈ [sc, 882]
      · simp only [List.mem_cons, List.not_mem_nil, or_false] at q
        exact .inr q
      · exact .inl q
    have a1 := (A'.own _ (.head _)).1
    have a2 := (A'.own _ (.tail _ (.head _))).1
    have h8 := Y' 882 _ (look882 _)
    refine ⟨fun b o e => ?_, fun b o e => ?_⟩
    · rcases hin b o e with q | rfl | rfl
      · exact .inl (A'.keep b o e q)
      · rw [hsc] at e
        cases e
        exact .inl a1
      · rw [h8] at e
        cases e
        obtain ⟨vs, c1, c2, c3⟩ := code886 w.params
        exact .inr (.inl ⟨⟨886, _, vs, Y' 886 _ (look886 _), c1, c2, c3⟩, rfl, #[], ⟨[Value.int 895 0, Value.int 20 0, Value.ref c]⟩, rfl, by rw [Array.empty_append]; exact a2⟩)
    · rcases hin b o e with q | rfl | rfl
      · exact ⟨o, A'.keep b o e q⟩
      · exact ⟨_, a1⟩
      · exact ⟨_, a2⟩
  · intro g hg
    have hg' : g ∈ [GenState.finished] := Array.mem_toList_iff.mpr hg
    rw [List.mem_singleton.mp hg']
    rfl
end
section
open PySem.Spec PySem.Calls
noncomputable abbrev pw : Program := PySem.Challenge.pw_pd0121_01
noncomputable def btGo : Nat → List Obj → BT := fun n => Nat.rec (motive := fun _ => List Obj → BT) (fun _ => .nil) (fun _ ih l => match l with | [] => .nil | x :: l => .node x (ih (ev l)) (ih (od l))) n
theorem btGo_get : ∀ (n : Nat) (l : List Obj), l.length ≤ n → ∀ i, (btGo n l).get i = l[i]?
  | 0, l, h, i => by
    have : l = [] := List.length_eq_zero_iff.mp (Nat.le_zero.mp h)
    subst this
    show BT.get .nil i = none
    rfl
  | n + 1, [], h, i => by show BT.get .nil i = none; rfl
  | n + 1, x :: l, h, i => by
    have hl := ev_od_len l
    have hn : l.length ≤ n := Nat.le_of_succ_le_succ h
    show BT.get (.node x (btGo n (ev l)) (btGo n (od l))) i = (x :: l)[i]?
    unfold BT.get
    rw [BT.beq_eq, BT.beq_eq]
    by_cases h0 : i = 0
    · subst h0; rfl
    · rw [decide_eq_false h0]
      have e := ev_od_get l
      by_cases p : i % 2 = 1
      · rw [decide_eq_true p]
        show (btGo n (ev l)).get (i / 2) = _
        rw [btGo_get n (ev l) (Nat.le_trans hl.1 hn), (e (i / 2)).1]
        exact (congrArg ((x :: l)[·]?) (LT.e1 p)).symm
      · rw [decide_eq_false p]
        show (btGo n (od l)).get (i / 2 - 1) = _
        rw [btGo_get n (od l) (Nat.le_trans hl.2 hn), (e (i / 2 - 1)).2]
        exact (congrArg ((x :: l)[·]?) (LT.e2 h0 p)).symm
noncomputable def shT (s : Shared) : SharedT := ⟨btGo s.heap.objs.size s.heap.objs.toList, s.heap.objs.size, s.heap.life, s.gens, s.drawn, s.toks, s.os⟩
theorem shT_abs (s : Shared) : (shT s).abs = s := by
  obtain ⟨⟨objs, life⟩, gens, drawn, toks, os⟩ := s
  show Shared.mk (absHeap (btGo objs.size objs.toList) objs.size life) gens drawn toks os = _
  have : absHeap (btGo objs.size objs.toList) objs.size life = ⟨objs, life⟩ := by
    have h : (absHeap (btGo objs.size objs.toList) objs.size life).objs = objs := by
      refine Array.ext_getElem? fun i => ?_
      rw [absHeap_at, btGo_get _ _ (by simp)]
      by_cases hi : i < objs.size
      · rw [if_pos hi, Array.getElem?_toList, Array.getElem?_eq_getElem hi]; rfl
      · rw [if_neg hi, Array.getElem?_eq_none (by omega)]
    show Heap.mk _ life = _
    rw [show ((btGo objs.size objs.toList).list objs.size).toArray = objs from h]
  rw [this]
/-- the top, run on a tree -/
noncomputable def topGoT (p : Program) (w : World) (n₀ : Nat) (ann : Option Value) (n : Nat) : SharedT → Thread → Option SharedT :=
  Nat.rec (motive := fun _ => SharedT → Thread → Option SharedT) (fun _ _ => none) (fun _ ih s t => match through t with
    | true => some s
    | false => match PySem.W.Fast.tw6613529449190102663 n₀ ann t with
      | false => none
      | true => match PySem.W.Fast.tw10156331382660048174 tden p w s t with
        | some r => ih r.1 r.2
        | none => none) n
theorem topGoT_of {p : Program} {w : World} {n₀ : Nat} {ann : Option Value} : ∀ {n : Nat} {s r : SharedT} {t : Thread}, topGoT p w n₀ ann n s t = some r → topRun treeTable p w n₀ ann n s.abs t = some r.abs
  | 0, _, _, _, h => nomatch h
  | n + 1, s, r, t, h => by
    have h' : (match through t with
      | true => some s
      | false => match PySem.W.Fast.tw6613529449190102663 n₀ ann t with
        | false => none
        | true => match PySem.W.Fast.tw10156331382660048174 tden p w s t with
          | some r => topGoT p w n₀ ann n r.1 r.2
          | none => none) = some r := h
    rw [← PySem.W.Fast.te6613529449190102663, ← PySem.W.Fast.te10156331382660048174, ← tden_eq, table_eq_tree] at h'
    unfold topRun
    cases ht : through t with
    | true => rw [ht] at h'; cases h'; rfl
    | false =>
      rw [ht] at h'
      cases hk : stepOk n₀ ann t with
      | false => rw [hk] at h'; cases h'
      | true =>
        rw [hk] at h'
        cases hs : stepT (denote treeTable) p w s t with
        | none => rw [hs] at h'; cases h'
        | some x =>
          obtain ⟨s₂, t₂⟩ := x
          rw [hs] at h'
          dsimp only
          rw [stepT_spec hs]
          exact topGoT_of h'
noncomputable def goI (w : World) : Option (SharedT × Thread) :=
  PySem.W.Fast.tw14789777615569096658 PySem.W.Fast.tw14364793385576792824 (opening pw) w 1085 (shT (PySem.W.Fast.tw1435165496053646825 (opening pw)).1) (PySem.W.Fast.tw1435165496053646825 (opening pw)).2
noncomputable abbrev vw : Program := { PySem.Challenge.pw_pd0121_01 with main := { PySem.Challenge.pw_pd0121_01.main with body := [56].filterMap fun i => PySem.Challenge.pw_pd0121_01.main.body[i]? } }
noncomputable abbrev lo : List Str := ["_sre", "deque", "_wall", "__name__", "_plain_name", "ABCMeta", "_ABCLike", "_abc_plain_meta", "fspath",
  "_check_arg_types", "check_arg_types_genericpath", "_get_sep", "join", "join_posixpath", "splitroot", "normpath",
  "heappush", "heappop", "_siftdown", "_siftup", "_twin_re_1", "_whence", "_index", "UnsupportedOperation", "IOBase",
  "BufferedIOBase", "TextIOBase", "BytesIO", "StringIO", "_kind", "_fspath", "check_arg_types_path", "isabs",
  "join_path", "dirname", "shlex", "split", "join_shlex", "_find_unsafe", "quote", "_law_moves", "_law_led", "_law_due"].map PySem.Str.ofString
noncomputable abbrev mods : List Str := importedModules pw.main.body
noncomputable abbrev xt (s : Shared) : Bool := xlAt vw [] s && recOk [] s
noncomputable abbrev looks0 (s₀ : Shared) : Bool := s₀.heap.isNs mainGlobals && s₀.gens.size == 0 && Nat.beq s₀.heap.objs.size 34 && (match s₀.heap.nsMap mainGlobals "__annotations__" with | some (.ref a) => Nat.beq a 6 | _ => false)
noncomputable abbrev looks1 (s₀ s₁ : Shared) : Bool := staticsOk mods s₀.heap s₁.heap && namesBound pw s₁.heap && gensDone s₁ && laidKept s₀.heap s₁.heap
noncomputable def goW2 {α : Type} (o : Option (SharedT × Thread)) (w : World) (f : Shared → Shared → α) : Option α := match o with
  | none => none
  | some x => match PySem.W.Fast.tw3805553451399329143 x.2 with
    | some [] => match PySem.W.Fast.tw14289696077712309145 pw x.1.abs with
      | some s₀ => match topGoT pw w 34 (some (.ref 6)) 6060 (shT s₀) (topStub pw) with
        | some r => some (f s₀ r.abs)
        | none => none
      | none => none
    | _ => none
noncomputable def goW {α : Type} (w : World) (f : Shared → Shared → α) : Option α := goW2 (goI w) w f
noncomputable abbrev topA : List Addr := [882, 0, 2, 3, 4, 116, 117, 130, 131, 137, 138, 144, 145, 151, 152, 158, 159, 165, 166, 172, 173, 179, 180, 184, 185, 198, 199, 225, 226, 228, 229, 230, 255, 256, 486, 496, 502, 503, 509, 510, 516, 517, 672, 678, 679, 732, 733, 785, 791, 792, 798, 799, 800, 828, 829, 835, 836, 857, 858, 864, 865, 867, 868, 873, 879, 880, 886, 887, 888, 894, 895, 899, 900, 906, 907, 913, 914, 920, 921]
set_option maxHeartbeats 0 in
theorem top_seen (w : World) : goW w (fun s₀ s₁ => (looks0 s₀ && looks1 s₀ s₁, openSeen vw lo mods xt true s₁, topA.map s₁.heap.get?)) = some (true, openGood vw lo, (topF w.params).map fun p => some p.2) := by kernel_rfl
theorem topA_eq (P : Params) : topA = (topF P).map (·.1) := by kernel_rfl
theorem goW2_of {α : Type} {o : Option (SharedT × Thread)} {w : World} {f : Shared → Shared → α} {v : α} (h : goW2 o w f = some v) : ∃ x s₀ r, o = some x ∧ PySem.W.Fast.tw3805553451399329143 x.2 = some [] ∧ PySem.W.Fast.tw14289696077712309145 pw x.1.abs = some s₀ ∧ topGoT pw w 34 (some (.ref 6)) 6060 (shT s₀) (topStub pw) = some r ∧ f s₀ r.abs = v := by
  unfold goW2 at h
  cases o with
  | none => cases h
  | some x =>
    refine ⟨x, ?_⟩
    dsimp only at h
    generalize PySem.W.Fast.tw3805553451399329143 x.2 = o at h ⊢
    cases o with
    | none => cases h
    | some l =>
      cases l with
      | cons _ _ => cases h
      | nil =>
        dsimp only at h
        generalize PySem.W.Fast.tw14289696077712309145 pw x.1.abs = o at h ⊢
        cases o with
        | none => cases h
        | some s₀ =>
          refine ⟨s₀, ?_⟩
          dsimp only at h
          generalize topGoT pw w 34 (some (.ref 6)) 6060 (shT s₀) (topStub pw) = o at h ⊢
          cases o with
          | none => cases h
          | some r => exact ⟨r, rfl, rfl, rfl, rfl, Option.some.inj h⟩
theorem fence_of {w : World} {x : SharedT × Thread} {s₀ : Shared} (h1 : goI w = some x) (h2 : PySem.W.Fast.tw3805553451399329143 x.2 = some []) (h3 : PySem.W.Fast.tw14289696077712309145 pw x.1.abs = some s₀) : fencedOpening treeTable pw w 6060 = some s₀ := by
  obtain ⟨y, t⟩ := x
  unfold goI at h1
  rw [← PySem.W.Fast.te14789777615569096658, ← PySem.W.Fast.te14364793385576792824, ← PySem.W.Fast.te1435165496053646825] at h1
  have g := impGo_of h1
  rw [shT_abs] at g
  rw [← PySem.W.Fast.te3805553451399329143] at h2
  have e1 : importEnds treeTable (opening pw) w 1 y.abs t = some y.abs := by
    have h2' : t.atExitBegin = some [] := h2
    unfold importEnds
    rw [h2']
  have m := importEnds_mono (6060 - 1086) _ _ _ _ (imp_go g e1)
  unfold fencedOpening
  rw [show 1085 + 1 + (6060 - 1086) = 6060 from rfl] at m
  rw [m]
  rw [← PySem.W.Fast.te14289696077712309145] at h3
  exact h3
theorem goW_of {α : Type} {w : World} {f : Shared → Shared → α} {v : α} (h : goW w f = some v) :
    ∃ s₀ s₁, fencedOpening treeTable pw w 6060 = some s₀ ∧ topRun treeTable pw w 34 (some (.ref 6)) 6060 s₀ (topStub pw) = some s₁ ∧ f s₀ s₁ = v :=
  let ⟨_, s₀, r, h1, h2, h3, h4, e⟩ := goW2_of h
  ⟨s₀, r.abs, fence_of h1 h2 h3, shT_abs s₀ ▸ topGoT_of h4, e⟩
theorem left_law : LeftO pw vw lo xt (fun s => topA.map s.heap.get?) (fun w => (topF w.params).map fun p => some p.2) 6060 := by
  intro w
  obtain ⟨s₀, s₁, h1, h2, h3⟩ := goW_of (top_seen w)
  have a1 : (looks0 s₀ && looks1 s₀ s₁) = true := congrArg Prod.fst h3
  have a2 : openSeen vw lo mods xt true s₁ = openGood vw lo := congrArg (fun x => x.2.1) h3
  have a3 : topA.map s₁.heap.get? = (topF w.params).map fun p => some p.2 := congrArg (fun x => x.2.2) h3
  obtain ⟨b0, b1⟩ := Bool.and_eq_true_iff.mp a1
  obtain ⟨b0, c4⟩ := Bool.and_eq_true_iff.mp b0
  obtain ⟨c1, c3⟩ := Bool.and_eq_true_iff.mp b0
  have c3 : s₀.heap.objs.size = 34 := Nat.eq_of_beq_eq_true c3
  have c4' : s₀.heap.nsMap mainGlobals "__annotations__" = some (.ref 6) := by
    revert c4
    cases s₀.heap.nsMap mainGlobals "__annotations__" with
    | none => intro c; cases c
    | some v =>
      cases v <;> intro c <;> first | cases c | skip
      rename_i a
      have : a = 6 := Nat.eq_of_beq_eq_true c
      rw [this]
  have e : openEnds treeTable pw w 6060 = some s₁ := by
    unfold openEnds
    rw [h1]
    show topFrom treeTable pw w 6060 s₀ = some s₁
    unfold topFrom
    rw [c1]
    dsimp only
    rw [c3, c4', h2]
    show (match looks1 s₀ s₁ with | true => some s₁ | false => none) = some s₁
    rw [b1]
  rw [e]
  show some (openSeen vw lo mods xt true s₁, topA.map s₁.heap.get?) = _
  rw [a2, a3]
set_option maxHeartbeats 8000000 in
theorem law_said : PySem.Challenge.rw_pd0121_01.wellSaid = true := by
  unfold OpenLaw.wellSaid OpenRow.wellSaid OpenRow.partSaid looksOpen
  repeat' with_reducible refine look_both ?_ ?_
  all_goals decide +kernel
set_option maxHeartbeats 8000000 in
theorem head_law : PySem.Challenge.rw_pd0121_01.Holds := by
  refine holds_law law_said fun said => ?_
  refine holds_own (r := rw0) (q := vw) (loose := lo) (Xt := xt) (XP := XL vw []) (YP := InK topF) (N := 6060) left_law (InK.of topA_eq) InK.keeps (fun s e => xl_of s (Bool.and_eq_true_iff.mp e).1) XL.keeps (by rfl) (by rfl) (by rfl) (fun s e => recFacts_of (Bool.and_eq_true_iff.mp e).2) (by rfl) (by first | assumption | decide +kernel) (by decide +kernel) ⟨rfl, rfl, rfl, rfl, rfl, by decide +kernel⟩ ?hw ?hc
  case hw => w_witness2
  case hc =>
    intro w s₀ s₁ mg mb G Y a hmg hg args vals as hpre hlay L low
    exact walk_all w s₀ s₁ mg G.T.g Y a hmg hg args vals as hpre hlay L low
end
end Mine
theorem PySem.Challenge.cw_pd0121_01_holds : PySem.Challenge.rw_pd0121_01.Holds :=
  Mine.head_law
