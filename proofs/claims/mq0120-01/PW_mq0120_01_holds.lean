import PyProof.Rows.All
import Wide.All
import OpenK.AllK
import Wide.FinOn
import PySem.Challenge.RW_mq0120_01
set_option Elab.async false
set_option maxRecDepth 100000
set_option linter.all false
namespace Mine
open PySem PySem.W PyProof.Rows
set_option maxHeartbeats 8000000 in
open_top hd for PySem.Challenge.rw_mq0120_01
end Mine
namespace Mine
open PySem PySem.W PySem.Calls PyProof.Rows

-- MB
noncomputable abbrev KF (w : World) : Frag := hd.heap_39 w.params
abbrev Mp := Addr → Option Obj
abbrev Mu := Addr → Option (List Value)
abbrev Lc := Str → Option Value
abbrev noE : Value → Shared → Prop := fun _ _ => False
abbrev S (s : Shared) (h : Heap) (t : Nat) : Shared := { s with heap := h, toks := t }
theorem S_self (s : Shared) : S s s.heap s.toks = s := rfl

structure Amb (w : World) (mg mb : Lc) (H : Heap) : Prop where
  K : (KF w).In H
  g : H.Ns mainGlobals mg
  b : H.Ns builtinsNs mb
  nolimit : H.NoLimit
  builtins : ∀ x : Str, x ≠ "__name__" → mb x = bootBuiltins x

def Rm (k : Nat) (A : Around) : Prop := A.handled = none ∧ A.depth + k < 1000 ∧ A.units + 10 * k < 9900
theorem Rm.handled {k : Nat} {A : Around} (h : Rm k A) : A.handled = none := h.1
theorem Rm.room {k : Nat} {A : Around} (h : Rm k A) : A.depth < recursionLimit := by
  have := h.2.1; show A.depth < 1000; omega
theorem Rm.units {k : Nat} {A : Around} (h : Rm k A) : A.units < cLine := by
  have := h.2.2; show A.units < 9900; omega
theorem Rm.deeper {k : Nat} {A : Around} (h : Rm (k + 1) A) (env : Env) : Rm k (A.deeper env) :=
  ⟨h.1, by have := h.2.1; show A.depth + 1 + k < 1000; omega, by have := h.2.2; show A.units + 3 + 10 * k < 9900; omega⟩
theorem Rm.le {k j : Nat} {A : Around} (h : Rm k A) (hj : j ≤ k) : Rm j A := ⟨h.1, by have := h.2.1; omega, by have := h.2.2; omega⟩
theorem Rm.in1 {k : Nat} {A : Around} (h : Rm (k+1) A) : Rm k A.in1 := ⟨h.1, by have := h.2.1; show A.depth + k < 1000; omega, by have := h.2.2; show A.units + 1 + 10 * k < 9900; omega⟩

/-- all that h knows, h' knows -/
def Kp (h h' : Heap) : Prop := ∀ b o, h.get? b = some o → h'.get? b = some o
theorem Kp.refl (h : Heap) : Kp h h := fun _ _ e => e
theorem Kp.trans {h₁ h₂ h₃ : Heap} (x : Kp h₁ h₂) (y : Kp h₂ h₃) : Kp h₁ h₃ := fun b o e => y b o (x b o e)
theorem Kp.push (h : Heap) (o : Obj) : Kp h (h.push o) := fun _ _ e => Heap.get?_push_of_some o e

def upd (m : Lc) (x : Str) (v : Value) : Lc := fun y => if y = x then some v else m y
theorem upd_same {m : Lc} {x : Str} {v : Value} : upd m x v x = some v := if_pos rfl
theorem upd_ne {m : Lc} {x y : Str} {v : Value} {r : Option Value} (h : decide (y = x) = false) (e : m y = r) : upd m x v y = r :=
  (if_neg (of_decide_eq_false h)).trans e

def Mp.set (B : Mp) (a : Addr) (o : Obj) : Mp := fun b => if b = a then some o else B b
def Mu.set (N : Mu) (a : Addr) (xs : List Value) : Mu := fun b => if b = a then some xs else N b
theorem Mp.set_same {B : Mp} {a : Addr} {o : Obj} : B.set a o a = some o := if_pos rfl
theorem Mp.set_ne {B : Mp} {a b : Addr} {o : Obj} (h : b ≠ a) : B.set a o b = B b := if_neg h
theorem Mu.set_same {N : Mu} {a : Addr} {o : List Value} : N.set a o a = some o := if_pos rfl
theorem Mu.set_ne {N : Mu} {a b : Addr} {o : List Value} (h : b ≠ a) : N.set a o b = N b := if_neg h
def noN : Mu := fun _ => none
def Mp.le (B B' : Mp) : Prop := ∀ b o, B b = some o → B' b = some o
theorem Mp.le.refl (B : Mp) : B.le B := fun _ _ e => e
theorem Mp.le.trans {B₁ B₂ B₃ : Mp} (x : B₁.le B₂) (y : B₂.le B₃) : B₁.le B₃ := fun b o e => y b o (x b o e)

structure Fm (H : Heap) (X B : Mp) (N : Mu) (L : Addr) (m : Lc) (h : Heap) : Prop where
  ns : h.Ns L m
  top : ∀ b o, H.get? b = some o → B b = some o
  held : ∀ b o, X b = some o → h.get? b = some o
  heldL : X L = none
  heldB : ∀ b o, X b = some o → B b = none
  keep : ∀ b o, B b = some o → h.get? b = some o
  keepL : B L = none
  own : ∀ a xs, N a = some xs → h.PlainList a xs.toArray
  ownX : ∀ a xs, N a = some xs → X a = none
  ownB : ∀ a xs, N a = some xs → B a = none

section
variable {H : Heap} {X B : Mp} {N : Mu} {L : Addr} {m : Lc} {h : Heap}

theorem Fm.tops (F : Fm H X B N L m h) : Kp H h := fun b o e => F.keep b o (F.top b o e)
theorem ns_not_list {h : Heap} {L : Addr} {m : Lc} {xs : Array Value} (n : h.Ns L m) (l : h.IsList L xs) : False := by
  obtain ⟨o, es, ep, ho, hd, _⟩ := n
  obtain ⟨o', ho', _, n', hd'⟩ := l
  rw [ho] at ho'; cases ho'; rw [hd] at hd'; cases hd'
theorem Fm.ownL (F : Fm H X B N L m h) {a : Addr} {xs : List Value} (e : N a = some xs) : a ≠ L := by
  rintro rfl; exact ns_not_list F.ns (F.own _ _ e).isList
theorem Fm.lst (F : Fm H X B N L m h) {a : Addr} {xs : List Value} (e : N a = some xs) : h.IsList a xs.toArray := (F.own a xs e).isList
theorem Fm.set (F : Fm H X B N L m h) {h' : Heap} {m' : Lc} (hn : h'.Ns L m') (hs : Heap.SameBut L h h') : Fm H X B N L m' h' where
  ns := hn
  top := F.top
  held := fun b o e => (hs.2 b (by rintro rfl; rw [F.heldL] at e; cases e)).trans (F.held b o e)
  heldL := F.heldL
  heldB := F.heldB
  keep := fun b o e => (hs.2 b (by rintro rfl; rw [F.keepL] at e; cases e)).trans (F.keep b o e)
  keepL := F.keepL
  own := fun a xs e => (F.own a xs e).extBut hs.extBut (F.ownL e)
  ownX := F.ownX
  ownB := F.ownB
theorem Fm.ext (F : Fm H X B N L m h) {h' : Heap} (k : Kp h h') : Fm H X B N L m h' where
  ns := F.ns.keeps k
  top := F.top
  held := fun b o e => k b o (F.held b o e)
  heldL := F.heldL
  heldB := F.heldB
  keep := fun b o e => k b o (F.keep b o e)
  keepL := F.keepL
  own := fun a xs e => (F.own a xs e).at (k a)
  ownX := F.ownX
  ownB := F.ownB
theorem Fm.extBut (F : Fm H X B N L m h) {h' : Heap} {a : Addr} {xs ys : List Value} (e : N a = some xs) (k : Heap.ExtBut a h h') (l : h'.PlainList a ys.toArray) :
    Fm H X B (N.set a ys) L m h' where
  ns := F.ns.extBut k (Ne.symm (F.ownL e))
  top := F.top
  held := fun b o q => k b o (by rintro rfl; rw [F.ownX _ _ e] at q; cases q) (F.held b o q)
  heldL := F.heldL
  heldB := F.heldB
  keep := fun b o q => k b o (by rintro rfl; rw [F.ownB _ _ e] at q; cases q) (F.keep b o q)
  keepL := F.keepL
  own := fun b zs q => by
    by_cases hb : b = a
    · subst hb; rw [Mu.set_same] at q; cases q; exact l
    · rw [Mu.set_ne hb] at q; exact (F.own b zs q).extBut k hb
  ownX := fun b zs q => by
    by_cases hb : b = a
    · subst hb; exact F.ownX _ _ e
    · rw [Mu.set_ne hb] at q; exact F.ownX b zs q
  ownB := fun b zs q => by
    by_cases hb : b = a
    · subst hb; exact F.ownB _ _ e
    · rw [Mu.set_ne hb] at q; exact F.ownB b zs q
theorem Fm.freshX (F : Fm H X B N L m h) {a : Addr} (e : h.get? a = none) : X a = none := by
  cases q : X a with
  | none => rfl
  | some o => have := F.held _ _ q; rw [e] at this; cases this
theorem Fm.freshB (F : Fm H X B N L m h) {a : Addr} (e : h.get? a = none) : B a = none := by
  cases q : B a with
  | none => rfl
  | some o => have := F.keep _ _ q; rw [e] at this; cases this
theorem Fm.freshN (F : Fm H X B N L m h) {a : Addr} (e : h.get? a = none) : N a = none := by
  cases q : N a with
  | none => rfl
  | some o => obtain ⟨_, ho⟩ := F.own _ _ q; rw [e] at ho; cases ho
theorem Fm.freshL (F : Fm H X B N L m h) {a : Addr} (e : h.get? a = none) : a ≠ L := by
  rintro rfl; obtain ⟨_, _, _, ho, _⟩ := F.ns; rw [e] at ho; cases ho
theorem get?_size (h : Heap) : h.get? h.objs.size = none := by
  cases q : h.get? h.objs.size with
  | none => rfl
  | some o => exact absurd (Heap.lt_size q) (Nat.lt_irrefl _)
theorem Fm.leB (F : Fm H X B N L m h) {a : Addr} {o : Obj} (e : h.get? a = none) : B.le (B.set a o) := fun b o' q => by
  rw [Mp.set_ne (by rintro rfl; rw [F.freshB e] at q; cases q)]; exact q
/-- a new thing, still from now on -/
theorem Fm.learn (F : Fm H X B N L m h) {h' : Heap} {a : Addr} {o : Obj} (k : Kp h h') (e : h.get? a = none) (ho : h'.get? a = some o) : Fm H X (B.set a o) N L m h' where
  ns := F.ns.keeps k
  top := fun b o' q => F.leB e b o' (F.top b o' q)
  held := fun b o e => k b o (F.held b o e)
  heldL := F.heldL
  heldB := fun b o' q => by rw [Mp.set_ne (by rintro rfl; rw [F.freshX e] at q; cases q)]; exact F.heldB b o' q
  keep := fun b o' q => by
    by_cases hb : b = a
    · subst hb; rw [Mp.set_same] at q; cases q; exact ho
    · rw [Mp.set_ne hb] at q; exact k b o' (F.keep b o' q)
  keepL := by rw [Mp.set_ne (Ne.symm (F.freshL e))]; exact F.keepL
  own := fun a xs e => (F.own a xs e).at (k a)
  ownX := F.ownX
  ownB := fun b xs q => by rw [Mp.set_ne (by rintro rfl; rw [F.freshN e] at q; cases q)]; exact F.ownB b xs q
/-- a new list that may be changed -/
theorem Fm.learnN (F : Fm H X B N L m h) {h' : Heap} {a : Addr} {xs : List Value} (k : Kp h h') (e : h.get? a = none) (ho : h'.PlainList a xs.toArray) : Fm H X B (N.set a xs) L m h' where
  ns := F.ns.keeps k
  top := F.top
  held := fun b o e => k b o (F.held b o e)
  heldL := F.heldL
  heldB := F.heldB
  keep := fun b o' q => k b o' (F.keep b o' q)
  keepL := F.keepL
  own := fun b zs q => by
    by_cases hb : b = a
    · subst hb; rw [Mu.set_same] at q; cases q; exact ho
    · rw [Mu.set_ne hb] at q; exact (F.own b zs q).at (k b)
  ownX := fun b zs q => by
    by_cases hb : b = a
    · subst hb; exact F.freshX e
    · rw [Mu.set_ne hb] at q; exact F.ownX b zs q
  ownB := fun b zs q => by
    by_cases hb : b = a
    · subst hb; exact F.freshB e
    · rw [Mu.set_ne hb] at q; exact F.ownB b zs q
/-- the same, more held aside -/
theorem Fm.hold (F : Fm H X B N L m h) {h' : Heap} {a : Addr} {o : Obj} (k : Kp h h') (e : h.get? a = none) (ho : h'.get? a = some o) : Fm H (X.set a o) B N L m h' where
  ns := F.ns.keeps k
  top := F.top
  held := fun b o' q => by
    by_cases hb : b = a
    · subst hb; rw [Mp.set_same] at q; cases q; exact ho
    · rw [Mp.set_ne hb] at q; exact k b o' (F.held b o' q)
  heldL := by rw [Mp.set_ne (Ne.symm (F.freshL e))]; exact F.heldL
  heldB := fun b o' q => by
    by_cases hb : b = a
    · subst hb; exact F.freshB e
    · rw [Mp.set_ne hb] at q; exact F.heldB b o' q
  keep := fun b o' q => k b o' (F.keep b o' q)
  keepL := F.keepL
  own := fun b zs q => (F.own b zs q).at (k b)
  ownX := fun b xs q => by rw [Mp.set_ne (by rintro rfl; rw [F.freshN e] at q; cases q)]; exact F.ownX b xs q
  ownB := F.ownB
/-- what is held aside: one thing of it changes (not the frame's to look at) -/
theorem Fm.reheld (F : Fm H X B N L m h) {h' : Heap} {a : Addr} {o o' : Obj} (hX : X a = some o) (hs : Heap.ExtBut a h h') (ho : h'.get? a = some o') : Fm H (X.set a o') B N L m h' where
  ns := F.ns.extBut hs (by rintro rfl; rw [F.heldL] at hX; cases hX)
  top := F.top
  held := fun b x q => by
    by_cases hb : b = a
    · subst hb; rw [Mp.set_same] at q; cases q; exact ho
    · rw [Mp.set_ne hb] at q; exact hs b x hb (F.held b x q)
  heldL := by rw [Mp.set_ne (by rintro rfl; rw [F.heldL] at hX; cases hX)]; exact F.heldL
  heldB := fun b x q => by
    by_cases hb : b = a
    · subst hb; exact F.heldB _ _ hX
    · rw [Mp.set_ne hb] at q; exact F.heldB b x q
  keep := fun b x q => hs b x (by rintro rfl; rw [F.heldB _ _ hX] at q; cases q) (F.keep b x q)
  keepL := F.keepL
  own := fun b zs q => (F.own b zs q).extBut hs (by rintro rfl; rw [F.ownX _ _ q] at hX; cases hX)
  ownX := fun b xs q => by rw [Mp.set_ne (by rintro rfl; rw [F.ownX _ _ q] at hX; cases hX)]; exact F.ownX b xs q
  ownB := F.ownB
/-- less held aside -/
theorem Fm.lessX (F : Fm H X B N L m h) {X' : Mp} (hle : X'.le X) : Fm H X' B N L m h where
  ns := F.ns
  top := F.top
  held := fun b o q => F.held b o (hle b o q)
  heldL := by
    cases q : X' L with
    | none => rfl
    | some o => have := hle _ _ q; rw [F.heldL] at this; cases this
  heldB := fun b o q => F.heldB b o (hle b o q)
  keep := F.keep
  keepL := F.keepL
  own := F.own
  ownX := fun a xs e => by
    cases q : X' a with
    | none => rfl
    | some o => have := hle _ _ q; rw [F.ownX _ _ e] at this; cases this
  ownB := F.ownB
/-- what is held aside at one place is gone (changed, freed, whatever) -/
theorem Fm.drop (F : Fm H X B N L m h) {h' : Heap} {a : Addr} {o : Obj} {X' : Mp} (hX : X a = some o) (hs : Heap.ExtBut a h h') (hle : X'.le X) (hX' : X' a = none) : Fm H X' B N L m h' where
  ns := F.ns.extBut hs (by rintro rfl; rw [F.heldL] at hX; cases hX)
  top := F.top
  held := fun b x q => hs b x (by rintro rfl; rw [hX'] at q; cases q) (F.held b x (hle b x q))
  heldL := by
    cases q : X' L with
    | none => rfl
    | some o => have := hle _ _ q; rw [F.heldL] at this; cases this
  heldB := fun b o q => F.heldB b o (hle b o q)
  keep := fun b x q => hs b x (by rintro rfl; rw [F.heldB _ _ hX] at q; cases q) (F.keep b x q)
  keepL := F.keepL
  own := fun b zs q => (F.own b zs q).extBut hs (by rintro rfl; rw [F.ownX _ _ q] at hX; cases hX)
  ownX := fun a xs e => by
    cases q : X' a with
    | none => rfl
    | some o => have := hle _ _ q; rw [F.ownX _ _ e] at this; cases this
  ownB := F.ownB
theorem Fm.lessN (F : Fm H X B N L m h) {N' : Mu} (hle : ∀ a xs, N' a = some xs → N a = some xs) : Fm H X B N' L m h where
  ns := F.ns
  top := F.top
  held := F.held
  heldL := F.heldL
  heldB := F.heldB
  keep := F.keep
  keepL := F.keepL
  own := fun a xs e => F.own a xs (hle a xs e)
  ownX := fun a xs e => F.ownX a xs (hle a xs e)
  ownB := fun a xs e => F.ownB a xs (hle a xs e)
/-- the maximal still part -/
def stl (h : Heap) (L : Addr) (N : Mu) (X : Mp) : Mp := fun b => if b = L ∨ (N b).isSome = true ∨ (X b).isSome = true then none else h.get? b
theorem Fm.le_still (F : Fm H X B N L m h) : B.le (stl h L N X) := fun b o q => by
  unfold stl
  rw [if_neg]
  · exact F.keep b o q
  · rintro (rfl | e | e)
    · rw [F.keepL] at q; cases q
    · obtain ⟨xs, hx⟩ := Option.isSome_iff_exists.mp e
      rw [F.ownB _ _ hx] at q; cases q
    · obtain ⟨xs, hx⟩ := Option.isSome_iff_exists.mp e
      rw [F.heldB _ _ hx] at q; cases q
theorem Fm.still (F : Fm H X B N L m h) : Fm H X (stl h L N X) N L m h where
  ns := F.ns
  top := fun b o q => F.le_still b o (F.top b o q)
  held := F.held
  heldL := F.heldL
  heldB := fun b o q => if_pos (.inr (.inr (by rw [q]; rfl)))
  keep := fun b o q => by unfold stl at q; split at q <;> first | cases q | exact q
  keepL := if_pos (.inl rfl)
  own := F.own
  ownX := F.ownX
  ownB := fun a xs e => if_pos (.inr (.inl (by rw [e]; rfl)))
theorem still_new {h₀ h : Heap} (F₀ : Fm H X B N L m h₀) {a : Addr} {o : Obj} (e : h₀.get? a = none) (ho : h.get? a = some o) : stl h L N X a = some o := by
  unfold stl
  rw [if_neg]
  · exact ho
  · rintro (rfl | q | q)
    · exact F₀.freshL e rfl
    · rw [F₀.freshN e] at q; cases q
    · rw [F₀.freshX e] at q; cases q
end


-- MR
abbrev HasInt (m : Lc) (x : Str) (i : Int) : Prop := ∃ u, m x = some (.int i u)
theorem HasInt.of {m : Lc} {x : Str} {i j : Int} (h : HasInt m x i) (e : i = j) : HasInt m x j := e ▸ h
def hid (h : Heap) (a : Addr) : Mp := fun b => if b = a then none else h.get? b
def one (a : Addr) (xs : List Value) : Mu := fun b => if b = a then some xs else none
theorem one_same {a : Addr} {xs : List Value} : one a xs a = some xs := if_pos rfl
theorem one_set {a : Addr} {xs ys : List Value} : (one a xs).set a ys = one a ys := by
  funext b; unfold Mu.set one; by_cases h : b = a <;> simp [h]

def noX : Mp := fun _ => none
theorem Fm.entry {H h h₁ : Heap} {L : Addr} {m : Lc} (top : Kp H h) (hL : h.get? L = none) (ns : h₁.Ns L m) (k : Kp h h₁) : Fm H noX h.get? noN L m h₁ where
  ns := ns
  top := top
  held := fun _ _ e => nomatch e
  heldL := rfl
  heldB := fun _ _ e => nomatch e
  keep := k
  keepL := hL
  own := fun _ _ e => nomatch e
  ownX := fun _ _ e => nomatch e
  ownB := fun _ _ e => nomatch e
theorem Fm.entryBut {H h h₁ : Heap} {L a : Addr} {m : Lc} {xs : List Value} (top : Kp H h) (ha : H.get? a = none) (hl : h.PlainList a xs.toArray) (hL : h.get? L = none) (ns : h₁.Ns L m) (k : Kp h h₁) :
    Fm H noX (hid h a) (one a xs) L m h₁ where
  ns := ns
  top := fun b o e => by unfold hid; rw [if_neg (by rintro rfl; rw [ha] at e; cases e)]; exact top b o e
  held := fun _ _ e => nomatch e
  heldL := rfl
  heldB := fun _ _ e => nomatch e
  keep := fun b o e => by unfold hid at e; split at e <;> first | cases e | exact k b o e
  keepL := by unfold hid; split <;> first | rfl | exact hL
  own := fun b zs e => by
    unfold one at e; split at e
    · rename_i q; subst q; cases e; exact hl.at (k _)
    · cases e
  ownX := fun b zs e => rfl
  ownB := fun b zs e => by
    unfold one at e; split at e
    · rename_i q; subst q; exact if_pos rfl
    · cases e
theorem Fm.exitBut {H h h' : Heap} {a L : Addr} {X : Mp} {N : Mu} {m : Lc} (F : Fm H X (hid h a) N L m h') : Heap.ExtBut a h h' :=
  fun b o hb e => F.keep b o (by unfold hid; rw [if_neg hb]; exact e)
theorem Fm.exit {H h h' : Heap} {L : Addr} {X B : Mp} {N : Mu} {m : Lc} (F : Fm H X B N L m h') (hle : Mp.le h.get? B) : Kp h h' := fun b o e => F.keep b o (hle b o e)

def CellB (B : Mp) (c : Addr) (v : Value) : Prop := ∃ o, B c = some o ∧ o.data = .cell (some v)
theorem CellB.le {B B' : Mp} {c : Addr} {v : Value} (x : CellB B c v) (k : B.le B') : CellB B' c v := let ⟨o, h1, h2⟩ := x; ⟨o, k _ _ h1, h2⟩
def nol : Lc := fun _ => none
def bnd (binds : List (Str × Value)) : Lc := binds.foldl (fun m p => upd m p.1 p.2) nol
theorem bnd_aux : ∀ (binds : List (Str × Value)) (m : Lc) (x : Str), (binds.foldl (fun m p => upd m p.1 p.2) m) x = (binds.reverse.lookup x).or (m x)
  | [], m, x => by simp
  | (y, v) :: r, m, x => by
    rw [List.foldl_cons, bnd_aux r, List.reverse_cons, List.lookup_append]
    unfold upd
    by_cases hx : x = y
    · subst hx; cases r.reverse.lookup x <;> simp
    · have hb : (x == y) = false := beq_eq_false_iff_ne.mpr hx
      cases r.reverse.lookup x <;> simp [hx, hb, List.lookup_cons]
theorem bnd_eq (binds : List (Str × Value)) : (fun x => binds.reverse.lookup x) = bnd binds := by
  funext x; unfold bnd; rw [bnd_aux]; simp [nol]

section
variable {prog : Program} {w : World} {A : Around} {E : Value → Shared → Prop} {s : Shared} {h : Heap} {t : Nat} {env : Env}
  {mg mb : Lc} {H : Heap} {X B : Mp} {N : Mu} {L : Addr} {m : Lc}

theorem call_fn {k : Nat} {f : Addr} {name qual : Str} {params : Arguments} {body : List Stmt} {scope : Scope} {dV kV doc pm cdv ct oc : Value} {an od : Option Addr} {osl : Array (Option Value)}
    {pos : List Value} {kw : List (Str × Value)} {Q : Value → Shared → Prop} (binds : List (Str × Value))
    (amb : Amb w mg mb H) (hA : Rm (k + 1) A) (top : Kp H h)
    (ho : (KF w).lookup f = some ⟨oc, od, .func (fnOf name qual params body scope dV kV doc pm an cdv ct), osl⟩) (hcd : codeIn (KF w) cdv qual = true)
    (hbind : BindsTo (S s h t) (fnOf name qual params body scope dV kV doc pm an cdv ct) ⟨pos, kw⟩ binds)
    (hb : ∀ L h₁ t₁, h.get? L = none → h₁.Ns L (bnd binds) → Kp h h₁ → Rm k (A.deeper (envOf qual scope L f cdv)) →
      wpAny (model prog w) (A.deeper (envOf qual scope L f cdv)) (execs body (envOf qual scope L f cdv)) (fun fl s' => Q (match fl with | .ret v => v | _ => .none) s') noE (S s h₁ t₁))
    (hcell : ∀ x ∈ scope.names, x.2 ≠ .cell := by decide) (hloc : (binds.all fun x => decide (scope.names.lookup x.1 = some .local)) = true := by rfl)
    (hco : scope.isCoroutine = false := by rfl) (hgen : scope.isGenerator = false := by rfl) (hk : scope.kind = .function := by rfl) :
    wpAny (model prog w) A (call (.ref f) pos kw) Q E (S s h t) := by
  refine wpAny_call (codeAny_call_def (fd := fnOf name qual params body scope dV kV doc pm an cdv ct) (body := body) (binds := binds) hA.room (top _ _ (amb.K _ _ ho)) rfl (amb.nolimit.keeps top)
    ((codeRec_of amb.K hcd).keeps top) rfl hbind hcell (locs hloc) (fun h₁ hns hk₁ => ?_) hco hgen hk)
  exact wpAny_mono (hb h.objs.size h₁ (t + binds.length) (get?_size h) (bnd_eq binds ▸ hns) hk₁ (hA.deeper _)) (fun _ _ x => x) fun _ _ x => x.elim

theorem ev_local {x : Str} {pos : Pos} {v : Value} {Q : Value → Shared → Prop} (F : Fm H X B N L m h) (hv : m x = some v) (hQ : Q v (S s h t))
    (hL : env.locals = L := by rfl) (hk : env.scope.kind = .function := by rfl) (hl : env.kindOf x = some .local := by rfl) (hd : (x == ("__debug__" : Str)) = false := by decide) :
    wpAny (model prog w) A (eval (.Name x pos) env) Q E (S s h t) := by
  subst hL
  exact wpAny_Name (wpAny_loadName_local hk hl F.ns hv hQ) hd
theorem ld_local {x : Str} {v : Value} {Q : Value → Shared → Prop} (F : Fm H X B N L m h) (hv : m x = some v) (hQ : Q v (S s h t))
    (hL : env.locals = L := by rfl) (hk : env.scope.kind = .function := by rfl) (hl : env.kindOf x = some .local := by rfl) :
    wpAny (model prog w) A (loadName env x) Q E (S s h t) := by
  subst hL
  exact wpAny_loadName_local hk hl F.ns hv hQ
theorem ev_glob {x : Str} {pos : Pos} {v : Value} {Q : Value → Shared → Prop} (amb : Amb w mg mb H) (F : Fm H X B N L m h) (hv : mg x = some v) (hQ : Q v (S s h t))
    (hk : env.scope.kind = .function := by rfl) (hg : env.globals = mainGlobals := by rfl) (hl : env.kindOf x = some .globalImplicit := by rfl) (hd : (x == ("__debug__" : Str)) = false := by decide) :
    wpAny (model prog w) A (eval (.Name x pos) env) Q E (S s h t) :=
  Calls.Name_function_global hk hl (Calls.loadGlobal_global (env := env) (by rw [hg]; exact amb.g.keeps F.tops) hv hQ) hd
theorem ev_blt {x : Str} {pos : Pos} {v : Value} {Q : Value → Shared → Prop} (amb : Amb w mg mb H) (F : Fm H X B N L m h) (hv : mg x = none ∧ mb x = some v) (hQ : Q v (S s h t))
    (hk : env.scope.kind = .function := by rfl) (hg : env.globals = mainGlobals := by rfl) (hbl : env.builtins = builtinsNs := by rfl) (hl : env.kindOf x = some .globalImplicit := by rfl) (hd : (x == ("__debug__" : Str)) = false := by decide) :
    wpAny (model prog w) A (eval (.Name x pos) env) Q E (S s h t) :=
  Calls.Name_function_global hk hl (Calls.loadGlobal_builtin (env := env) (by rw [hg]; exact amb.g.keeps F.tops) hv.1 (by rw [hbl]; exact amb.b.keeps F.tops) hv.2 hQ) hd
theorem ev_cell {x : Str} {pos : Pos} {c : Addr} {v : Value} {Q : Value → Shared → Prop} (F : Fm H X B N L m h) (hc : env.cells.lookup x = some c) (hv : CellB B c v) (hQ : Q v (S s h t))
    (hk : env.scope.kind = .function := by rfl) (hl : env.kindOf x = some .cell := by rfl) (hd : (x == ("__debug__" : Str)) = false := by decide) :
    wpAny (model prog w) A (eval (.Name x pos) env) Q E (S s h t) := by
  obtain ⟨o, ho, hd'⟩ := hv
  exact wpAny_Name (wpAny_loadName_cell hk hl hc ⟨o, F.keep _ _ ho, hd'⟩ hQ) hd
theorem st_local {x : Str} {v : Value} {Q : Unit → Shared → Prop} (F : Fm H X B N L m h)
    (hQ : ∀ h' t', Fm H X B N L (upd m x v) h' → Q () (S s h' t'))
    (hL : env.locals = L := by rfl) (hk : env.scope.kind = .function := by rfl) (hl : env.kindOf x = some .local := by rfl) :
    wpAny (model prog w) A (storeName env x v) Q E (S s h t) := by
  subst hL
  exact wpAny_storeName_local hl F.ns (fun h' hn hs => hQ h' _ (F.set hn hs)) (by rw [hk]; rfl)

theorem ev_int {i : Int} {k : Nat} {pos : Pos} {Q : Value → Shared → Prop} (hQ : ∀ u t', Q (.int i u) (S s h t')) : wpAny (model prog w) A (eval (.Constant (.int i) k pos) env) Q E (S s h t) :=
  wpAny_Constant_int (hQ _ _)
theorem ev_bytes {b : List UInt8} {k : Nat} {pos : Pos} {Q : Value → Shared → Prop} (hQ : ∀ u t', Q (.bytes b.toArray u) (S s h t')) : wpAny (model prog w) A (eval (.Constant (.bytes b) k pos) env) Q E (S s h t) :=
  fun _ _ _ => hQ _ _
theorem ev_bool {b : Bool} {k : Nat} {pos : Pos} {Q : Value → Shared → Prop} (hQ : Q (.bool b) (S s h t)) : wpAny (model prog w) A (eval (.Constant (.bool b) k pos) env) Q E (S s h t) :=
  fun _ _ _ => hQ
theorem ev_none {k : Nat} {pos : Pos} {Q : Value → Shared → Prop} (hQ : Q .none (S s h t)) : wpAny (model prog w) A (eval (.Constant .none k pos) env) Q E (S s h t) :=
  fun _ _ _ => hQ

section
variable {a b : Int} {u v : Tok} {Q : Value → Shared → Prop}
theorem op_add (hQ : ∀ u t', Q (.int (a + b) u) (S s h t')) : wpAny (model prog w) A (binaryOp .Add (.int a u) (.int b v)) Q E (S s h t) := PyProof.Rows.add_int (hQ _ _)
theorem op_sub (hQ : ∀ u t', Q (.int (a - b) u) (S s h t')) : wpAny (model prog w) A (binaryOp .Sub (.int a u) (.int b v)) Q E (S s h t) := PyProof.Rows.sub_int (hQ _ _)
theorem op_mul (hm : IntMulOk a b) (hQ : ∀ u t', Q (.int (a * b) u) (S s h t')) : wpAny (model prog w) A (binaryOp .Mult (.int a u) (.int b v)) Q E (S s h t) := PyProof.Rows.mul_int (hQ _ _) hm
theorem op_shr (hn : 0 ≤ b) (hQ : ∀ u t', Q (.int (a.fdiv (2 ^ b.toNat)) u) (S s h t')) : wpAny (model prog w) A (binaryOp .RShift (.int a u) (.int b v)) Q E (S s h t) := rshift_int hn (hQ _ _)
theorem op_mod (hn : b ≠ 0) (hQ : ∀ u t', Q (.int (a.fmod b) u) (S s h t')) : wpAny (model prog w) A (binaryOp .Mod (.int a u) (.int b v)) Q E (S s h t) := mod_int' hn (hQ _ _)
theorem op_and (hQ : ∀ u t', Q (.int (Builtin.bitAnd a b) u) (S s h t')) : wpAny (model prog w) A (binaryOp .BitAnd (.int a u) (.int b v)) Q E (S s h t) := and_int (hQ _ _)
theorem op_or (hQ : ∀ u t', Q (.int (Builtin.bitOr a b) u) (S s h t')) : wpAny (model prog w) A (binaryOp .BitOr (.int a u) (.int b v)) Q E (S s h t) := or_int (hQ _ _)
theorem op_shl (hn : 0 ≤ b) (hn2 : b ≤ 1000000) (ha : a.natAbs < 2 ^ 64) (hQ : ∀ u t', Q (.int (a * 2 ^ b.toNat) u) (S s h t')) : wpAny (model prog w) A (binaryOp .LShift (.int a u) (.int b v)) Q E (S s h t) := lshift_int_small hn hn2 ha (hQ _ _)
theorem op_pow (hn : 0 ≤ b) (hn2 : b ≤ 1000000) (ha : a.natAbs < 2 ^ 64) (hQ : ∀ u t', Q (.int (a ^ b.toNat) u) (S s h t')) : wpAny (model prog w) A (binaryOp .Pow (.int a u) (.int b v)) Q E (S s h t) := pow_int_small hn hn2 ha (hQ _ _)
theorem op_fdiv (hn : b ≠ 0) (hb : b.natAbs.log2 < 9000) (hQ : ∀ u t', Q (.int (a.fdiv b) u) (S s h t')) : wpAny (model prog w) A (binaryOp .FloorDiv (.int a u) (.int b v)) Q E (S s h t) :=
  floordiv_int hn (hQ _ _) (Or.inl (PyProof.noPylong_of_log2 hb))
theorem cmp_lt (hQ : Q (.bool (decide (a < b))) (S s h t)) : wpAny (model prog w) A (compareOp .Lt (.int a u) (.int b v)) Q E (S s h t) := PyProof.Rows.lt_int hQ
theorem cmp_gt (hQ : Q (.bool (decide (b < a))) (S s h t)) : wpAny (model prog w) A (compareOp .Gt (.int a u) (.int b v)) Q E (S s h t) := PyProof.Rows.gt_int hQ
theorem cmp_ge (hQ : Q (.bool (decide (b ≤ a))) (S s h t)) : wpAny (model prog w) A (compareOp .GtE (.int a u) (.int b v)) Q E (S s h t) := PyProof.Rows.ge_int hQ
theorem cmp_eq (hQ : Q (.bool (a == b)) (S s h t)) : wpAny (model prog w) A (compareOp .Eq (.int a u) (.int b v)) Q E (S s h t) := PyProof.Rows.eq_int hQ
end

theorem sub_list {value slice : Expr} {a : Addr} {xs : List Value} {k : Int} {u : Tok} {x : Value} {Q : Value → Shared → Prop} (hl : h.IsList a xs.toArray)
    (h0 : 0 ≤ k) (hx : xs[k.toNat]? = some x) (hfit : k < 2 ^ 63) (hQ : Q x (S s h t))
    (hs : subscripted slice false (.ref a) (.int k u) = operate [.ref a, .int k u] (getItem (.ref a) (.int k u)) := by with_unfolding_all rfl) :
    wpAny (model prog w) A (subscriptTail value slice (.ref a) (.int k u)) Q E (S s h t) :=
  tail_any hl.typeIs slot_list_getitem.lookup (wpAny_getItem_list hl h0 hfit (by simpa using hx) hQ) hs
theorem mapSeq_set_plain (its : Array Value) (n j : Nat) (x : Value) :
    Obj.mapSeq (·.setIfInBounds j x) { cls := .type "list", data := .seq its n } = { cls := .type "list", data := .seq (its.setIfInBounds j x) n } := by
  simp [Obj.mapSeq]
theorem setItem_plain {a : Addr} {items : Array Value} {k : Int} {u : Tok} {v : Value} {Q : Unit → Shared → Prop} (hl : s.heap.PlainList a items) (h0 : 0 ≤ k) (hfit : k < 2 ^ 63) (hn : k < items.size)
    (hQ : ∀ h', h'.PlainList a (items.setIfInBounds k.toNat v) → Heap.SameBut a s.heap h' → Q () { s with heap := h' }) : wpAny (model prog w) A (setItem (.ref a) (.int k u) v) Q E s := by
  obtain ⟨n, ho⟩ := hl
  refine ki_setAt (n := n) ho h0 hfit hn (hQ _ ⟨n, ?_⟩ (Heap.SameBut.update ..))
  rw [Heap.get?_update_self _ ho (by rw [mapSeq_set_plain]; rfl), mapSeq_set_plain]
theorem set_list {a : Addr} {xs : List Value} {k : Int} {u : Tok} {v : Value} {Q : Unit → Shared → Prop} (F : Fm H X B N L m h) (e : N a = some xs)
    (h0 : 0 ≤ k) (hn : k < xs.length) (hfit : k < 2 ^ 63) (hQ : ∀ h', Fm H X B (N.set a (xs.set k.toNat v)) L m h' → Q () (S s h' t)) :
    wpAny (model prog w) A (setItem (.ref a) (.int k u) v) Q E (S s h t) :=
  setItem_plain (s := S s h t) (F.own _ _ e) h0 hfit (by simpa using hn) fun h' hl hs => hQ h' (F.extBut e hs.extBut (by simpa using hl))
theorem len_lst {a : Addr} {xs : List Value} {Q : Value → Shared → Prop} (hl : h.IsList a xs.toArray) (hfit : (xs.length : Int) < 2 ^ 63) (hQ : ∀ u t', Q (.int xs.length u) (S s h t')) :
    wpAny (model prog w) A (call (.builtin "len") [.ref a]) Q E (S s h t) := PyProof.Rows.len_list hl (by simpa using hfit) (by simpa using hQ _ _)
theorem append_lst {a : Addr} {xs : List Value} {v : Value} {Q : Value → Shared → Prop} (F : Fm H X B N L m h) (e : N a = some xs) (hz : xs.length ≤ 16777216)
    (hQ : ∀ h', Fm H X B (N.set a (xs ++ [v])) L m h' → Q .none (S s h' t)) : wpAny (model prog w) A (call (.builtin "list.append") [.ref a, v]) Q E (S s h t) :=
  wpAny_list_append_plain (F.own _ _ e) (fun h' hl hs => hQ h' (F.extBut e hs.extBut (by simpa using hl))) (by simpa [sizeLine] using hz)

theorem callWith_fn {pos : Pos} {f : Addr} {o : Obj} {fd : FuncData} {e : Expr} {rest : List Expr} {Q : Value → Shared → Prop} (amb : Amb w mg mb H)
    (ho : (KF w).lookup f = some o) (hdat : o.data = .func fd)
    (hQ : wpAny (model prog w) A (spliced (backTo pos (starEach (e :: rest) env))) (fun vs s₁ => Kp H s₁.heap ∧ wpAny (model prog w) A (call (.ref f) vs) Q E s₁) E (S s h t))
    (he : starEach (e :: rest) env = (false, eval e env) :: starEach rest env := by rfl) :
    wpAny (model prog w) A (callWith pos (.ref f) [] (backTo pos (starEach (e :: rest) env)) []) Q E (S s h t) :=
  callWith_def hdat (wpAny_mono hQ (fun _ _ x => ⟨x.1 _ _ (amb.K _ _ ho), x.2⟩) fun _ _ x => x) he

abbrev WPost (s : Shared) (n : Nat) (I : Nat → Heap → Prop) (Q : Flow → Shared → Prop) (f : Flow) (s₃ : Shared) : Prop := match f with
  | .next | .cont => ∃ n' h' t', s₃ = S s h' t' ∧ n' < n ∧ I n' h'
  | .brk => Q .next s₃
  | .ret v => Q (.ret v) s₃
/-- a while, by an invariant that falls -/
theorem ex_while {test : Expr} {body : List Stmt} {pos : Pos} {Q : Flow → Shared → Prop} (I : Nat → Heap → Prop) (n : Nat) (h0 : I n h)
    (turn : ∀ n h t, I n h → wpAny (model prog w) A (isTrue test env (eval test env)) (fun b s₂ =>
      if b then wpAny (model prog w) A (execs body env) (WPost s n I Q) noE s₂
      else Q .next s₂) noE (S s h t)) :
    wpAny (model prog w) A (exec (.While test body [] pos) env) Q noE (S s h t) := by
  refine wpAny_While ?_
  refine codeAny_whileLoop (R := fun r s' => match r with | .ok f => Q f s' | .error e => cameBackBy (model prog w) A env noE e s')
    (fun n s' => ∃ h t, s' = S s h t ∧ I n h) ?_ n ⟨h, t, rfl, h0⟩
  rintro n s' ⟨h', t', rfl, hI⟩
  refine wpAny_mono (turn n h' t' hI) (fun b s₂ h₂ => ?_) fun _ _ x => x.elim
  cases b with
  | true =>
    simp only [if_true] at h₂ ⊢
    refine wpAny_mono h₂ (fun f s₃ h₃ => ?_) fun _ _ x => x.elim
    cases f with
    | next => obtain ⟨n', h'', t'', rfl, hn, hI'⟩ := h₃; exact ⟨n', hn, h'', t'', rfl, hI'⟩
    | cont => obtain ⟨n', h'', t'', rfl, hn, hI'⟩ := h₃; exact ⟨n', hn, h'', t'', rfl, hI'⟩
    | brk => exact h₃
    | ret v => exact h₃
  | false =>
    simp only [Bool.false_eq_true, if_false] at h₂ ⊢
    exact wpAny_execs_nil h₂
end

def sgnN (k : Nat) : Nat := if k < 26 then 65 + k else if k < 52 then 71 + k else if k < 62 then k - 4 else if k = 62 then 43 else 47
def b64tab : List UInt8 := (List.range 64).map fun k => (sgnN k).toUInt8
theorem b64tab_get {k : Nat} (h : k < 64) : (b64tab.getD k 0).toNat = sgnN k := by
  have : ∀ k, k < 64 → (b64tab.getD k 0).toNat = sgnN k := by decide
  exact this k h
section
variable {w : World} {mg mb : Lc} {H : Heap}
theorem g_of (amb : Amb w mg mb H) {x : Str} {v : Value} (e : nsIn (KF w) mainGlobals x = some (some v)) : mg x = some v := mg_of amb.K amb.g e
theorem b_of (amb : Amb w mg mb H) {x : Str} {v : Value} (e : nsIn (KF w) mainGlobals x = some none) (hv : bootBuiltins x = some v) (hn : x ≠ "__name__") : mg x = none ∧ mb x = some v :=
  ⟨mg_none_of amb.K amb.g e, (amb.builtins x hn).trans hv⟩
theorem g_siftdown (amb : Amb w mg mb H) : mg "_siftdown" = some (.ref 42) := g_of amb (by kernel_rfl)
theorem g_siftup (amb : Amb w mg mb H) : mg "_siftup" = some (.ref 49) := g_of amb (by kernel_rfl)
theorem g_heapify (amb : Amb w mg mb H) : mg "heapify" = some (.ref 35) := g_of amb (by kernel_rfl)
theorem g_heapreplace (amb : Amb w mg mb H) : mg "heapreplace" = some (.ref 28) := g_of amb (by kernel_rfl)
theorem g_buffer (amb : Amb w mg mb H) : mg "_buffer" = some (.ref 56) := g_of amb (by kernel_rfl)
theorem g_truth (amb : Amb w mg mb H) : mg "_truth" = some (.ref 63) := g_of amb (by kernel_rfl)
theorem g_b2a (amb : Amb w mg mb H) : mg "b2a_base64" = some (.ref 71) := g_of amb (by kernel_rfl)
theorem g_b64 (amb : Amb w mg mb H) : mg "b64encode" = some (.ref 79) := g_of amb (by kernel_rfl)
theorem g_rows (amb : Amb w mg mb H) : mg "_law_rows" = some (.ref 84) := g_of amb (by kernel_rfl)
theorem g_text (amb : Amb w mg mb H) : mg "_law_text" = some (.ref 91) := g_of amb (by kernel_rfl)
theorem g_weight (amb : Amb w mg mb H) : mg "_law_weight" = some (.ref 98) := g_of amb (by kernel_rfl)
theorem g_weights (amb : Amb w mg mb H) : mg "_law_weights" = some (.ref 103) := g_of amb (by kernel_rfl)
theorem g_least (amb : Amb w mg mb H) : mg "_law_least" = some (.ref 108) := g_of amb (by kernel_rfl)
theorem g_b64tab (amb : Amb w mg mb H) : mg "_B64" = some (.bytes b64tab.toArray 257) := g_of amb (by kernel_rfl)
theorem b_len (amb : Amb w mg mb H) : mg "len" = none ∧ mb "len" = some (.builtin "len") := b_of amb (by kernel_rfl) (by boot_fast) (by decide)
theorem b_range (amb : Amb w mg mb H) : mg "range" = none ∧ mb "range" = some (.type "range") := b_of amb (by kernel_rfl) (by boot_fast) (by decide)
theorem b_type (amb : Amb w mg mb H) : mg "type" = none ∧ mb "type" = some (.type "type") := b_of amb (by kernel_rfl) (by boot_fast) (by decide)
theorem b_bytes (amb : Amb w mg mb H) : mg "bytes" = none ∧ mb "bytes" = some (.type "bytes") := b_of amb (by kernel_rfl) (by boot_fast) (by decide)
theorem b_sum (amb : Amb w mg mb H) : mg "sum" = none ∧ mb "sum" = some (.builtin "sum") := b_of amb (by kernel_rfl) (by boot_fast) (by decide)
theorem b_sorted (amb : Amb w mg mb H) : mg "sorted" = none ∧ mb "sorted" = some (.builtin "sorted") := b_of amb (by kernel_rfl) (by boot_fast) (by decide)
theorem b_min (amb : Amb w mg mb H) : mg "min" = none ∧ mb "min" = some (.builtin "min") := b_of amb (by kernel_rfl) (by boot_fast) (by decide)
theorem b_reversed (amb : Amb w mg mb H) : mg "reversed" = none ∧ mb "reversed" = some (.type "reversed") := b_of amb (by kernel_rfl) (by boot_fast) (by decide)
theorem b_bool (amb : Amb w mg mb H) : mg "bool" = none ∧ mb "bool" = some (.type "bool") := b_of amb (by kernel_rfl) (by boot_fast) (by decide)
end

-- MC
theorem slot_bytes_lt : Slot "bytes" (cmpInfo .Lt).2.1 "bytes.__lt__" :=
  .of (owner := "bytes") (n := "__lt__") (by rw [typeLookup_type, builtinLookup_eq_fast]; kernel_rfl) (by decide +kernel) (by decide +kernel) (by decide +kernel)
    (by first | exact .inl (by decide +kernel) | exact .inr (by decide +kernel)) (by rw [isSubtype_type]; kernel_rfl)
theorem entry_bytes_lt : entryFor table "bytes.__lt__" = some Builtin.«bytes.__lt__» := entryFor_of_tree (by kernel_rfl)
theorem args_bytes_lt (a b : Value) : argsOk "bytes.__lt__" ⟨[a, b], []⟩ := by
  unfold argsOk; rw [signature?_of (id := "bytes.__lt__") (n := ['_', '_', 't', 'l', '_', '_']) (o := ['s', 'e', 't', 'y', 'b']) (by kernel_rfl) FB.owner_bytes]; kernel_rfl

def blt (a b : List UInt8) : Bool := Builtin.Bytes.order a b == .lt
theorem gives_bytes_lt (b c : Array UInt8) (t u : Tok) : Gives (Builtin.«bytes.__lt__» ⟨[.bytes b t, .bytes c u], []⟩) (.val (.bool (blt b.toList c.toList))) := by
  refine .of_wp fun M A E s Q hq => ?_
  show wpAny M A (isInstance (.bytes c u) (.type "bytes") >>= fun r => _) _ E s
  refine wpAny_bind (wpAny_isInstance (typeIs_bytes s c u) F.sub_bytes_bytes ?_)
  exact wpAny_pure ⟨_, rfl, hq⟩

abbrev Ent := List UInt8 × Int × Int
def entLt (e f : Ent) : Bool :=
  if e.1 = f.1 then (if e.2.1 = f.2.1 then (if e.2.2 = f.2.2 then false else decide (e.2.2 < f.2.2)) else decide (e.2.1 < f.2.1)) else blt e.1 f.1
abbrev tupObj (vs : List Value) : Obj := { cls := .type "tuple", data := .seq vs.toArray }
def IsEnt (B : Mp) (v : Value) (e : Ent) : Prop := ∃ c t1 t2 t3, v = .ref c ∧ B c = some (tupObj [.bytes e.1.toArray t1, .int e.2.1 t2, .int e.2.2 t3])
theorem IsEnt.le {B B' : Mp} {v : Value} {e : Ent} (x : IsEnt B v e) (k : B.le B') : IsEnt B' v e :=
  let ⟨c, t1, t2, t3, hv, hc⟩ := x; ⟨c, t1, t2, t3, hv, k _ _ hc⟩
theorem IsEnt.inj {B : Mp} {v : Value} {e f : Ent} (x : IsEnt B v e) (y : IsEnt B v f) : e = f := by
  obtain ⟨c, t1, t2, t3, rfl, hc⟩ := x
  obtain ⟨c', u1, u2, u3, hv, hc'⟩ := y
  cases hv
  rw [hc] at hc'
  obtain ⟨b, k, p⟩ := e
  obtain ⟨b', k', p'⟩ := f
  simp only [Option.some.injEq, tupObj, Obj.mk.injEq, Data.seq.injEq, List.toArray_eq_iff] at hc'
  simp_all

section
variable {prog : Program} {w : World} {A : Around} {E : Value → Shared → Prop} {s : Shared} {h : Heap} {t : Nat}

theorem tup_type {c : Addr} {vs : List Value} (hc : h.get? c = some (tupObj vs)) : (S s h t).TypeIs (.ref c) "tuple" := ⟨_, hc, rfl⟩

theorem tup_lt {c1 c2 : Addr} {b1 b2 : List UInt8} {k1 k2 p1 p2 : Int} {t1 t2 t3 u1 u2 u3 : Tok} {P : Fin → Shared → Prop}
    (h1 : h.get? c1 = some (tupObj [.bytes b1.toArray t1, .int k1 t2, .int p1 t3])) (h2 : h.get? c2 = some (tupObj [.bytes b2.toArray u1, .int k2 u2, .int p2 u3]))
    (hP : P (.done (.ret (.bool (entLt (b1, k1, p1) (b2, k2, p2))))) (S s h t)) :
    wpAny (model prog w) A (Builtin.«tuple.__lt__» ⟨[.ref c1, .ref c2], []⟩) P E (S s h t) := by
  show wpAny _ _ (isInstance (.ref c2) (.type "tuple") >>= _) _ _ _
  refine wpAny_bind (wpAny_isInstance (tup_type h2) isSubtype_tuple_tuple ?_)
  simp only [Bool.not_true, Bool.false_eq_true, if_false]
  refine wpAny_bind (wpAny_tupleItemsOf h1 rfl ?_)
  refine wpAny_bind (wpAny_tupleItemsOf h2 rfl ?_)
  simp only [List.zip_cons_cons, List.zip_nil_left]
  refine wpAny_bind ?_
  rw [List.forIn_cons]
  refine wpAny_bind (wpAny_bind (eqBool_bytes ?_))
  by_cases hb : b1 = b2
  · subst hb
    simp only [decide_true, Bool.not_true, Bool.false_eq_true, if_false]
    refine wpAny_pure ?_
    dsimp only
    rw [List.forIn_cons]
    refine wpAny_bind (wpAny_bind (wpAny_eqBool_int ?_))
    by_cases hk : k1 = k2
    · subst hk
      simp only [beq_self_eq_true, Bool.not_true, Bool.false_eq_true, if_false]
      refine wpAny_pure ?_
      dsimp only
      rw [List.forIn_cons]
      refine wpAny_bind (wpAny_bind (wpAny_eqBool_int ?_))
      by_cases hp : p1 = p2
      · subst hp
        simp only [beq_self_eq_true, Bool.not_true, Bool.false_eq_true, if_false]
        refine wpAny_pure ?_
        dsimp only
        rw [List.forIn_nil]
        refine wpAny_pure (wpAny_pure ?_)
        simpa [entLt, Builtin.Tuple.tupleCompareSizes] using hP
      · have : (p1 == p2) = false := by simpa using hp
        simp only [this, Bool.not_false, if_true]
        refine wpAny_bind (wpAny_rule (wpAny_bind (PyProof.Rows.lt_int ?_)))
        refine wpAny_bind (wpAny_pure (wpAny_pure (wpAny_pure (wpAny_pure ?_))))
        simpa [entLt, hp] using hP
    · have : (k1 == k2) = false := by simpa using hk
      simp only [this, Bool.not_false, if_true]
      refine wpAny_bind (wpAny_rule (wpAny_bind (PyProof.Rows.lt_int ?_)))
      refine wpAny_bind (wpAny_pure (wpAny_pure (wpAny_pure (wpAny_pure ?_))))
      simpa [entLt, hk] using hP
  · simp only [hb, decide_false, Bool.not_false, if_true]
    refine wpAny_bind (wpAny_rule (wpAny_bind (richCompare_gives (op := .Lt) (T := "bytes") rfl rfl slot_bytes_lt entry_bytes_lt (args_bytes_lt _ _) (gives_bytes_lt _ _ _ _) (fun x => nomatch x) ?_)))
    refine wpAny_bind (wpAny_pure (wpAny_pure (wpAny_pure (wpAny_pure ?_))))
    simpa [entLt, hb] using hP

theorem tup_eq {c1 c2 : Addr} {b1 b2 : List UInt8} {k1 k2 p1 p2 : Int} {t1 t2 t3 u1 u2 u3 : Tok} {P : Fin → Shared → Prop}
    (h1 : h.get? c1 = some (tupObj [.bytes b1.toArray t1, .int k1 t2, .int p1 t3])) (h2 : h.get? c2 = some (tupObj [.bytes b2.toArray u1, .int k2 u2, .int p2 u3]))
    (hP : P (.done (.ret (.bool (decide ((b1, k1, p1) = (b2, k2, p2)))))) (S s h t)) :
    wpAny (model prog w) A (Builtin.«tuple.__eq__» ⟨[.ref c1, .ref c2], []⟩) P E (S s h t) := by
  show wpAny _ _ (isInstance (.ref c2) (.type "tuple") >>= _) _ _ _
  refine wpAny_bind (wpAny_isInstance (tup_type h2) isSubtype_tuple_tuple ?_)
  simp only [Bool.not_true, Bool.false_eq_true, if_false]
  refine wpAny_bind (wpAny_tupleItemsOf h1 rfl ?_)
  refine wpAny_bind (wpAny_tupleItemsOf h2 rfl ?_)
  simp only [List.zip_cons_cons, List.zip_nil_left]
  refine wpAny_bind ?_
  rw [List.forIn_cons]
  refine wpAny_bind (wpAny_bind (eqBool_bytes ?_))
  by_cases hb : b1 = b2
  · subst hb
    simp only [decide_true, Bool.not_true, Bool.false_eq_true, if_false]
    refine wpAny_pure ?_
    dsimp only
    rw [List.forIn_cons]
    refine wpAny_bind (wpAny_bind (wpAny_eqBool_int ?_))
    by_cases hk : k1 = k2
    · subst hk
      simp only [beq_self_eq_true, Bool.not_true, Bool.false_eq_true, if_false]
      refine wpAny_pure ?_
      dsimp only
      rw [List.forIn_cons]
      refine wpAny_bind (wpAny_bind (wpAny_eqBool_int ?_))
      by_cases hp : p1 = p2
      · subst hp
        simp only [beq_self_eq_true, Bool.not_true, Bool.false_eq_true, if_false]
        refine wpAny_pure ?_
        dsimp only
        rw [List.forIn_nil]
        refine wpAny_pure (wpAny_pure ?_)
        simpa [Builtin.Tuple.tupleCompareSizes] using hP
      · have : (p1 == p2) = false := by simpa using hp
        simp only [this, Bool.not_false, if_true]
        refine wpAny_bind (wpAny_pure (wpAny_pure (wpAny_pure (wpAny_pure ?_))))
        simpa [hp] using hP
    · have : (k1 == k2) = false := by simpa using hk
      simp only [this, Bool.not_false, if_true]
      refine wpAny_bind (wpAny_pure (wpAny_pure (wpAny_pure (wpAny_pure ?_))))
      simpa [hk] using hP
  · simp only [hb, decide_false, Bool.not_false, if_true]
    refine wpAny_bind (wpAny_pure (wpAny_pure (wpAny_pure (wpAny_pure ?_))))
    simpa [hb] using hP

theorem tup_ne {c1 c2 : Addr} {b1 b2 : List UInt8} {k1 k2 p1 p2 : Int} {t1 t2 t3 u1 u2 u3 : Tok} {P : Fin → Shared → Prop}
    (h1 : h.get? c1 = some (tupObj [.bytes b1.toArray t1, .int k1 t2, .int p1 t3])) (h2 : h.get? c2 = some (tupObj [.bytes b2.toArray u1, .int k2 u2, .int p2 u3]))
    (hP : P (.done (.ret (.bool (decide ((b1, k1, p1) ≠ (b2, k2, p2)))))) (S s h t)) :
    wpAny (model prog w) A (Builtin.«tuple.__ne__» ⟨[.ref c1, .ref c2], []⟩) P E (S s h t) := by
  show wpAny _ _ (isInstance (.ref c2) (.type "tuple") >>= _) _ _ _
  refine wpAny_bind (wpAny_isInstance (tup_type h2) isSubtype_tuple_tuple ?_)
  simp only [Bool.not_true, Bool.false_eq_true, if_false]
  refine wpAny_bind (wpAny_tupleItemsOf h1 rfl ?_)
  refine wpAny_bind (wpAny_tupleItemsOf h2 rfl ?_)
  simp only [List.zip_cons_cons, List.zip_nil_left]
  refine wpAny_bind ?_
  rw [List.forIn_cons]
  refine wpAny_bind (wpAny_bind (eqBool_bytes ?_))
  by_cases hb : b1 = b2
  · subst hb
    simp only [decide_true, Bool.not_true, Bool.false_eq_true, if_false]
    refine wpAny_pure ?_
    dsimp only
    rw [List.forIn_cons]
    refine wpAny_bind (wpAny_bind (wpAny_eqBool_int ?_))
    by_cases hk : k1 = k2
    · subst hk
      simp only [beq_self_eq_true, Bool.not_true, Bool.false_eq_true, if_false]
      refine wpAny_pure ?_
      dsimp only
      rw [List.forIn_cons]
      refine wpAny_bind (wpAny_bind (wpAny_eqBool_int ?_))
      by_cases hp : p1 = p2
      · subst hp
        simp only [beq_self_eq_true, Bool.not_true, Bool.false_eq_true, if_false]
        refine wpAny_pure ?_
        dsimp only
        rw [List.forIn_nil]
        refine wpAny_pure (wpAny_pure ?_)
        simpa [Builtin.Tuple.tupleCompareSizes] using hP
      · have : (p1 == p2) = false := by simpa using hp
        simp only [this, Bool.not_false, if_true]
        refine wpAny_bind (wpAny_pure (wpAny_pure (wpAny_pure (wpAny_pure ?_))))
        simpa [hp] using hP
    · have : (k1 == k2) = false := by simpa using hk
      simp only [this, Bool.not_false, if_true]
      refine wpAny_bind (wpAny_pure (wpAny_pure (wpAny_pure (wpAny_pure ?_))))
      simpa [hk] using hP
  · simp only [hb, decide_false, Bool.not_false, if_true]
    refine wpAny_bind (wpAny_pure (wpAny_pure (wpAny_pure (wpAny_pure ?_))))
    simpa [hb] using hP

variable {H : Heap} {X B : Mp} {N : Mu} {L : Addr} {m : Lc} {e f : Ent} {v1 v2 : Value} {k : Nat}
theorem cmp_ent_lt {Q : Value → Shared → Prop} (hA : Rm k A) (F : Fm H X B N L m h) (x : IsEnt B v1 e) (y : IsEnt B v2 f) (hQ : Q (.bool (entLt e f)) (S s h t)) :
    wpAny (model prog w) A (compareOp .Lt v1 v2) Q E (S s h t) := by
  obtain ⟨c, t1, t2, t3, rfl, hc⟩ := x
  obtain ⟨c', u1, u2, u3, rfl, hc'⟩ := y
  show wpAny _ _ (richCompare .Lt (.ref c) (.ref c')) Q E _
  exact wpAny_richCompare_same_room (op := .Lt) (tup_type (F.keep _ _ hc)) (tup_type (F.keep _ _ hc')) PySem.F.slot_tuple_lt
    (wpAny_call_entry PySem.F.slot_tuple_lt (tup_type (F.keep _ _ hc)) PySem.F.entry_tuple_lt (tup_lt (F.keep _ _ hc) (F.keep _ _ hc') ⟨_, rfl, (fun e => nomatch e), hQ⟩) (PySem.F.args_tuple_lt_2 _ _)) hA.units
theorem cmp_ent_ne {Q : Value → Shared → Prop} (hA : Rm k A) (F : Fm H X B N L m h) (x : IsEnt B v1 e) (y : IsEnt B v2 f) (hQ : Q (.bool (decide (e ≠ f))) (S s h t)) :
    wpAny (model prog w) A (compareOp .NotEq v1 v2) Q E (S s h t) := by
  obtain ⟨c, t1, t2, t3, rfl, hc⟩ := x
  obtain ⟨c', u1, u2, u3, rfl, hc'⟩ := y
  show wpAny _ _ (richCompare .NotEq (.ref c) (.ref c')) Q E _
  exact wpAny_richCompare_same_room (op := .NotEq) (tup_type (F.keep _ _ hc)) (tup_type (F.keep _ _ hc')) PySem.F.slot_tuple_ne
    (wpAny_call_entry PySem.F.slot_tuple_ne (tup_type (F.keep _ _ hc)) PySem.F.entry_tuple_ne (tup_ne (F.keep _ _ hc) (F.keep _ _ hc') ⟨_, rfl, (fun e => nomatch e), hQ⟩) (PySem.F.args_tuple_ne_2 _ _)) hA.units
theorem eqb_ent {Q : Bool → Shared → Prop} (hA : Rm k A) (F : Fm H X B N L m h) (x : IsEnt B v1 e) (y : IsEnt B v2 f) (hQ : Q (decide (e = f)) (S s h t)) :
    wpAny (model prog w) A (eqBool v1 v2) Q E (S s h t) := by
  have hx := x
  have hy := y
  obtain ⟨c, t1, t2, t3, rfl, hc⟩ := x
  obtain ⟨c', u1, u2, u3, rfl, hc'⟩ := y
  unfold eqBool
  try with_reducible refine wpAny_holding ?_
  show wpAny _ _ (if (Value.ref c == Value.ref c') = true then _ else _) Q E _
  by_cases hab : (Value.ref c == Value.ref c') = true
  · rw [if_pos hab]
    have q : c = c' := by have := eq_of_beq hab; injection this
    subst q
    have := hx.inj hy
    exact wpAny_bind (wpAny_rule (wpAny_pure (by simpa [this] using hQ)))
  · rw [if_neg hab]
    exact wpAny_bind (wpAny_richCompare_same_room (op := .Eq) (tup_type (F.keep _ _ hc)) (tup_type (F.keep _ _ hc')) PySem.F.slot_tuple_eq
      (wpAny_call_entry PySem.F.slot_tuple_eq (tup_type (F.keep _ _ hc)) PySem.F.entry_tuple_eq (tup_eq (F.keep _ _ hc) (F.keep _ _ hc') ⟨_, rfl, (fun e => nomatch e), wpAny_truthy_bool hQ⟩) (PySem.F.args_tuple_eq_2 _ _)) hA.units)
end
local macro_rules | `(tactic| walk_at "lk") => `(tactic| first
  | (with_reducible exact upd_same)
  | (refine upd_ne (by decide) ?_; walk_at "lk")
  | assumption)
local macro_rules | `(tactic| walk_at "gb") => `(tactic| ((with_reducible first
  | apply b_len | apply b_range | apply b_type | apply b_bytes | apply b_sum | apply b_sorted | apply b_min | apply b_reversed | apply b_bool); assumption))
local macro_rules | `(tactic| walk_at "gf") => `(tactic| ((with_reducible first
  | apply g_siftdown | apply g_siftup | apply g_heapify | apply g_heapreplace | apply g_buffer | apply g_truth | apply g_b2a | apply g_b64
  | apply g_rows | apply g_text | apply g_weight | apply g_weights | apply g_least | apply g_b64tab); assumption))
local macro_rules | `(tactic| walk_at "ms") => `(tactic| first
  | (with_reducible first
      | refine wpAny_BinOp ?_ | refine cmp_lt ?_ | refine cmp_gt ?_ | refine cmp_ge ?_ | refine cmp_eq ?_ | refine Subscript_ ?_ | refine wpAny_truthy_bool ?_
      | refine isTrue_and_nil ?_ | refine isTrue_or_nil ?_ | refine isTrue_and ?_ | refine isTrue_or ?_ | refine isTrue_not ?_ | refine wpAny_execs_nil ?_ | refine wpAny_execs_cons ?_
      | refine wpAny_Return_some ?_ | refine wpAny_AugAssign_Name ?_ | refine ev_bool ?_ | refine ev_none ?_ | refine args_nil ?_)
  | ((with_reducible first | refine ev_int ?_ | refine op_add ?_ | refine op_sub ?_ | refine ev_bytes ?_); intro _ _)
  | ((with_reducible show wpAny _ _ (eval (.Name ..) _) _ _ _); first
      | refine ev_local (by assumption) (by walk_at "lk") ?_
      | refine ev_blt (by assumption) (by assumption) (by walk_at "gb") ?_
      | refine ev_glob (by assumption) (by assumption) (by walk_at "gf") ?_
      | refine ev_cell (by assumption) rfl (by assumption) ?_)
  | ((with_reducible show wpAny _ _ (storeName ..) _ _ _); refine st_local (by assumption) ?_; intro _ _ _)
  | ((with_reducible show wpAny _ _ (isTrue (.Compare _ [_] [_] _) ..) _ _ _); refine wpAny_isTrue_Compare1 ?_)
  | ((with_reducible show wpAny _ _ (isTrue (.Name ..) ..) _ _ _); refine isTrue_plain ?_)
  | ((with_reducible show wpAny _ _ (exec (.Assign [.Name ..] ..) _) _ _ _); refine wpAny_Assign_Name ?_)
  | ((with_reducible show wpAny _ _ (exec (.Assign [.Subscript ..] ..) _) _ _ _); refine wpAny_Assign_Subscript ?_)
  | ((with_reducible show wpAny _ _ (exec (.Expr ..) _) _ _ _); refine wpAny_Expr ?_)
  | ((with_reducible show wpAny _ _ (loadName ..) _ _ _); refine ld_local (by assumption) (by walk_at "lk") ?_)
  | ((with_reducible show wpAny _ _ (eval (.Call (.Name ..) _ [] _) _) _ _ _); refine Call_ ?_)
  | ((with_reducible show wpAny _ _ (callWith _ (.builtin _) [] _ _) _ _ _); refine PyProof.Rows.callWith_builtin1 ?_)
  | ((with_reducible show wpAny _ _ (callWith _ (.type _) ..) _ _ _); refine Pv.callWith_type1 ?_)
  | ((with_reducible show wpAny _ _ (callWith _ (.ref _) [] (backTo _ (starEach (_ :: _) _)) []) _ _ _); refine callWith_fn (by assumption) rfl rfl ?_)
  | ((with_reducible show wpAny _ _ (eval (.List ..) _) _ _ _); refine List_ ?_)
  | ((with_reducible show wpAny _ _ (eval (.Call (.Attribute ..) _ [] _) _) _ _ _); refine MethodCall_ ?_)
  | ((with_reducible show wpAny _ _ (callWith _ (.builtin _) (_ :: _) (backTo _ (starEach (_ :: _) _)) []) _ _ _); refine callWith_method1 ?_)
  | ((with_reducible show wpAny _ _ (spliced (backTo _ (starEach (_ :: _) _))) _ _ _); refine args_cons ?_)
  | ((with_reducible show Kp _ _ ∧ _); refine ⟨Fm.tops (by assumption), ?_⟩))

-- MS
def Ents (B : Mp) (xs : List Value) (es : List Ent) : Prop := xs.length = es.length ∧ ∀ (i : Nat) (v : Value) (e : Ent), xs[i]? = some v → es[i]? = some e → IsEnt B v e
theorem Ents.set {B : Mp} {xs : List Value} {es : List Ent} {v : Value} {e : Ent} (x : Ents B xs es) (i : Nat) (y : IsEnt B v e) : Ents B (xs.set i v) (es.set i e) := by
  refine ⟨by simpa using x.1, fun j v' e' hv he => ?_⟩
  rw [List.getElem?_set] at hv he
  by_cases hij : i = j
  · subst hij
    rw [if_pos rfl] at hv he
    split at hv <;> split at he <;> simp_all
  · rw [if_neg hij] at hv he
    exact x.2 j v' e' hv he
theorem Ents.le {B B' : Mp} {xs : List Value} {es : List Ent} (x : Ents B xs es) (k : B.le B') : Ents B' xs es := ⟨x.1, fun i v e a b => (x.2 i v e a b).le k⟩
theorem Ents.get {B : Mp} {xs : List Value} {es : List Ent} (x : Ents B xs es) {i : Nat} (hi : i < es.length) : ∃ v, xs[i]? = some v ∧ IsEnt B v es[i] := by
  have hi' : i < xs.length := by rw [x.1]; exact hi
  exact ⟨xs[i], List.getElem?_eq_getElem hi', x.2 i _ _ (List.getElem?_eq_getElem hi') (List.getElem?_eq_getElem hi)⟩

def sdLoop (es : List Ent) (new : Ent) (sp p : Nat) : List Ent :=
  if _h : sp < p then
    if entLt new (es.getD ((p - 1) / 2) default) then sdLoop (es.set p (es.getD ((p - 1) / 2) default)) new sp ((p - 1) / 2) else es.set p new
  else es.set p new
termination_by p
decreasing_by omega

theorem half_pred {n : Nat} (h : 0 < n) : ((n : Int) - 1).fdiv (2 ^ (1 : Int).toNat) = (((n - 1) / 2 : Nat) : Int) := by
  show ((n : Int) - 1).fdiv 2 = _
  rw [Int.fdiv_eq_ediv_of_nonneg _ (by decide)]
  omega

section
variable {prog : Program} {w : World} {A : Around} {E : Value → Shared → Prop} {s : Shared} {h : Heap} {t : Nat}
  {mg mb : Lc} {H : Heap}
abbrev sdInv (H h : Heap) (a L : Addr) (B₀ : Mp) (es : List Ent) (e : Ent) (sp p : Nat) (u1 : Tok) (nv : Value) (n : Nat) (h' : Heap) : Prop :=
  ∃ ys es' m' u, Fm H noX (hid h a) (one a ys) L m' h' ∧ m' "heap" = some (.ref a) ∧ m' "startpos" = some (.int sp u1) ∧ m' "newitem" = some nv ∧
    m' "pos" = some (.int n u) ∧ n < es'.length ∧ es'.length = es.length ∧ Ents B₀ ys es' ∧ sdLoop es' e sp n = sdLoop es e sp p
theorem siftdown_spec {B₀ : Mp} {Q : Value → Shared → Prop} {a : Addr} {xs : List Value} {es : List Ent} {sp p : Nat} {u1 u2 : Tok} (amb : Amb w mg mb H) (hA : Rm 1 A) (top : Kp H h) (ha : H.get? a = none) (hl : h.PlainList a xs.toArray)
   (hB : B₀.le (hid h a)) (he : Ents B₀ xs es) (hp : p < es.length) (hn : es.length < 1000) (hQ : ∀ h' t' ys, Heap.ExtBut a h h' → h'.PlainList a ys.toArray → Ents B₀ ys (sdLoop es es[p] sp p) → Q .none (S s h' t')) :
   wpAny (model prog w) A (call (.ref 42) [.ref a, .int sp u1, .int p u2]) Q E (S s h t) := by
  refine call_fn [("heap", .ref a), ("startpos", .int sp u1), ("pos", .int p u2)] amb hA top rfl rfl (BindsTo.of_eq rfl) ?_
  intro L h₁ t₁ hL hns hk hA'
  have F := Fm.entryBut top ha hl hL hns hk
  simp only [bnd, List.foldl] at F
  obtain ⟨nv, hv, hnv⟩ := he.get hp
  generalize A.deeper _ = A' at hA' ⊢
  clear hns hA
  repeat walk_at "ms"
  refine sub_list (F.lst one_same) (by omega) (by simpa using hv) (by omega) ?_
  repeat walk_at "ms"
  rename_i h2 t2 F2
  refine ex_while (I := sdInv H h a L B₀ es es[p] sp p u1 nv) p ⟨xs, es, _, u2, F2, by walk_at "lk", by walk_at "lk", by walk_at "lk", by walk_at "lk", hp, rfl, he, rfl⟩ ?_
  rintro n h3 t3 ⟨ys, es', m', u, F3, m1, m2, m3, m4, hn', hlen, hys, hgo⟩
  repeat walk_at "ms"
  refine split_bool (fun hc => ?_) (fun hc => ?_)
  · have hc' : sp < n := by have := of_decide_eq_true hc; omega
    repeat walk_at "ms"
    refine op_shr (by decide) ?_; intro _ _
    rw [half_pred (by omega)]
    obtain ⟨pv, hpv, hpe⟩ := hys.get (i := (n - 1) / 2) (by omega)
    repeat walk_at "ms"
    refine sub_list (Fm.lst (by assumption) one_same) (by omega) (by rw [Int.toNat_natCast]; exact hpv) (by omega) ?_
    repeat walk_at "ms"
    refine wpAny_If ?_
    repeat walk_at "ms"
    refine cmp_ent_lt hA' (by assumption) (hnv.le hB) (hpe.le hB) ?_
    repeat walk_at "ms"
    have hgd : es'.getD ((n - 1) / 2) default = es'[(n-1)/2] := by simp [List.getD, (show (n-1)/2 < es'.length by omega)]
    refine split_bool (fun hlt => ?_) (fun hlt => ?_)
    · repeat walk_at "ms"
      refine set_list (by assumption) one_same (by omega) (by rw [hys.1]; omega) (by omega) ?_
      intro h6 F6
      rw [one_set] at F6
      repeat walk_at "ms"
      refine wpAny_Continue ?_
      refine ⟨(n - 1) / 2, _, _, rfl, by omega, _, es'.set n es'[(n-1)/2], _, _, by assumption, by walk_at "lk", by walk_at "lk", by walk_at "lk", by walk_at "lk", by simp; omega, by simpa using hlen, hys.set n hpe, ?_⟩
      rw [← hgo]
      conv => rhs; rw [sdLoop]
      rw [dif_pos hc', hgd, if_pos hlt]
    · repeat walk_at "ms"
      refine wpAny_Break ?_
      repeat walk_at "ms"
      refine set_list (by assumption) one_same (by omega) (by rw [hys.1]; omega) (by omega) ?_
      intro h6 F6
      rw [one_set] at F6
      repeat walk_at "ms"
      refine hQ _ _ _ F6.exitBut (F6.own _ _ one_same) ?_
      rw [← hgo]
      rw [sdLoop, dif_pos hc', hgd, if_neg (by simp [hlt])]
      exact hys.set n hnv
  · have hc' : ¬ sp < n := by have := of_decide_eq_false hc; omega
    repeat walk_at "ms"
    refine set_list (by assumption) one_same (by omega) (by rw [hys.1]; omega) (by omega) ?_
    intro h6 F6
    rw [one_set] at F6
    repeat walk_at "ms"
    refine hQ _ _ _ F6.exitBut (F6.own _ _ one_same) ?_
    rw [← hgo, sdLoop, dif_neg hc']
    exact hys.set n hnv
end

-- MT
def suLoop (es : List Ent) (p : Nat) : List Ent × Nat :=
  if _h : 2 * p + 1 < es.length then
    if 2 * p + 2 < es.length ∧ entLt (es.getD (2 * p + 1) default) (es.getD (2 * p + 2) default) = false then suLoop (es.set p (es.getD (2 * p + 2) default)) (2 * p + 2)
    else suLoop (es.set p (es.getD (2 * p + 1) default)) (2 * p + 1)
  else (es, p)
termination_by es.length - p
decreasing_by all_goals (simp only [List.length_set]; omega)
def siftup (es : List Ent) (p : Nat) : List Ent :=
  sdLoop ((suLoop es p).1.set (suLoop es p).2 (es.getD p default)) (es.getD p default) p (suLoop es p).2
theorem suLoop_len (es : List Ent) (p : Nat) : (suLoop es p).1.length = es.length := by
  fun_induction suLoop es p <;> simp_all
theorem suLoop_lt (es : List Ent) (p : Nat) (hp : p < es.length) : (suLoop es p).2 < es.length := by
  fun_induction suLoop es p with
  | case1 es p h1 h2 ih => simpa using ih (by simpa using h2.1)
  | case2 es p h1 h2 ih => simpa using ih (by simpa using h1)
  | case3 es p h1 => exact hp
theorem sdLoop_len (es : List Ent) (new : Ent) (sp p : Nat) : (sdLoop es new sp p).length = es.length := by
  fun_induction sdLoop es new sp p <;> simp_all
theorem siftup_len (es : List Ent) (p : Nat) : (siftup es p).length = es.length := by
  unfold siftup; rw [sdLoop_len, List.length_set, suLoop_len]
theorem getD_lt {α : Type} {l : List α} {i : Nat} {d : α} (h : i < l.length) : l.getD i d = l[i] := by simp [List.getD, h]
theorem mulok2 {n : Nat} (h : n < 1000000) : IntMulOk 2 (n : Int) := PySem.IntMulOk.of_left (PySem.intBits_le_64 (by decide) (by decide))

section
variable {prog : Program} {w : World} {A : Around} {E : Value → Shared → Prop} {s : Shared} {h : Heap} {t : Nat}
  {mg mb : Lc} {H : Heap}
theorem hid_le {h h' : Heap} {a : Addr} (k : Heap.ExtBut a h h') : (hid h a).le (hid h' a) := fun b o e => by
  unfold hid at e ⊢
  split at e
  · cases e
  · rename_i q; rw [if_neg q]; exact k b o q e

abbrev suInv (H h : Heap) (a L : Addr) (B₀ : Mp) (es : List Ent) (p : Nat) (nv : Value) (n : Nat) (h' : Heap) : Prop :=
  ∃ ys es' m' u v k, Fm H noX (hid h a) (one a ys) L m' h' ∧ m' "heap" = some (.ref a) ∧ (∃ q, m' "startpos" = some (.int p q)) ∧ m' "newitem" = some nv ∧ (∃ q, m' "endpos" = some (.int es.length q)) ∧
    m' "pos" = some (.int (k : Nat) u) ∧ m' "childpos" = some (.int (2 * (k : Int) + 1) v) ∧ k < es'.length ∧ es'.length = es.length ∧ Ents B₀ ys es' ∧ suLoop es' k = suLoop es p ∧ n = es.length - k
abbrev suMid (s : Shared) (H h : Heap) (a L : Addr) (ys : List Value) (es es' : List Ent) (p k : Nat) (u q1 q2 : Tok) (nv : Value) (f : Flow) (s' : Shared) : Prop :=
  f = .next ∧ ∃ h6 t6 m6 c, s' = S s h6 t6 ∧ Fm H noX (hid h a) (one a ys) L m6 h6 ∧ m6 "heap" = some (.ref a) ∧ m6 "startpos" = some (.int p q1) ∧ m6 "newitem" = some nv ∧ m6 "endpos" = some (.int es.length q2) ∧
      m6 "pos" = some (.int k u) ∧ HasInt m6 "childpos" (c : Nat) ∧ c < es'.length ∧ k < c ∧ suLoop (es'.set k (es'.getD c default)) c = suLoop es' k
theorem siftup_spec {B₀ : Mp} {Q : Value → Shared → Prop} {a : Addr} {xs : List Value} {es : List Ent} {p : Nat} {u1 : Tok} (amb : Amb w mg mb H) (hA : Rm 2 A) (top : Kp H h) (ha : H.get? a = none) (hl : h.PlainList a xs.toArray)
   (hB : B₀.le (hid h a)) (he : Ents B₀ xs es) (hp : p < es.length) (hn : es.length < 1000) (hQ : ∀ h' t' ys, Heap.ExtBut a h h' → h'.PlainList a ys.toArray → Ents B₀ ys (siftup es p) → Q .none (S s h' t')) :
   wpAny (model prog w) A (call (.ref 49) [.ref a, .int p u1]) Q E (S s h t) := by
  refine call_fn [("heap", .ref a), ("pos", .int p u1)] amb hA top rfl rfl (BindsTo.of_eq rfl) ?_
  intro L h₁ t₁ hL hns hk hA'
  have F := Fm.entryBut top ha hl hL hns hk
  simp only [bnd, List.foldl] at F
  obtain ⟨nv, hv, hnv⟩ := he.get hp
  generalize A.deeper _ = A' at hA' ⊢
  clear hns hA
  repeat walk_at "ms"
  refine len_lst (F.lst one_same) (by rw [he.1]; omega) ?_
  intro _ _
  rw [he.1]
  repeat walk_at "ms"
  refine sub_list (Fm.lst (by assumption) one_same) (by omega) (by rw [Int.toNat_natCast]; exact hv) (by omega) ?_
  repeat walk_at "ms"
  refine op_mul (mulok2 (by omega)) ?_; intro _ _
  repeat walk_at "ms"
  rename_i F2
  have hsu : suLoop es p = suLoop es p := rfl
  refine ex_while (I := suInv H h a L B₀ es p nv) (es.length - p)
    ⟨xs, es, _, _, _, p, F2, by walk_at "lk", ⟨_, by walk_at "lk"⟩, by walk_at "lk", ⟨_, by walk_at "lk"⟩, by walk_at "lk", by walk_at "lk", hp, rfl, he, rfl, rfl⟩ ?_
  clear F2
  rintro n h3 t3 ⟨ys, es', m', u, v, k, F3, m1, ⟨q1, m2⟩, m3, ⟨q2, m4⟩, m5, m6, hk', hlen, hys, hgo, rfl⟩
  repeat walk_at "ms"
  refine split_bool (fun hc => ?_) (fun hc => ?_)
  · have hc' : 2 * k + 1 < es'.length := by have := of_decide_eq_true hc; omega
    repeat walk_at "ms"
    rename_i F4
    obtain ⟨cv, hcv, hce⟩ := hys.get (i := 2 * k + 1) hc'
    refine wpAny_mono (Q := suMid s H h a L ys es es' p k u q1 q2 nv) ?_ ?_ (fun _ _ x => x)
    · refine wpAny_If ?_
      repeat walk_at "ms"
      refine split_bool (fun hr => ?_) (fun hr => ?_)
      · have hr' : 2 * k + 2 < es'.length := by have := of_decide_eq_true hr; omega
        obtain ⟨rv, hrv, hre⟩ := hys.get (i := 2 * k + 2) hr'
        repeat walk_at "ms"
        refine sub_list (Fm.lst (by assumption) one_same) (by omega) (by rw [show (2 * (k : Int) + 1).toNat = 2 * k + 1 by omega]; exact hcv) (by omega) ?_
        repeat walk_at "ms"
        refine sub_list (Fm.lst (by assumption) one_same) (by omega) (by rw [show (2 * (k : Int) + 1 + 1).toNat = 2 * k + 2 by omega]; exact hrv) (by omega) ?_
        repeat walk_at "ms"
        refine cmp_ent_lt hA' (by assumption) (hce.le hB) (hre.le hB) ?_
        repeat walk_at "ms"
        refine split_bool (fun hlt => ?_) (fun hlt => ?_)
        · have hlt' : entLt es'[2 * k + 1] es'[2 * k + 2] = false := by simpa using hlt
          repeat walk_at "ms"
          refine split_bool (fun _ => ?_) (fun hh => absurd hh (by decide))
          repeat walk_at "ms"
          refine ⟨rfl, _, _, _, 2 * k + 2, rfl, by assumption, by walk_at "lk", by walk_at "lk", by walk_at "lk", by walk_at "lk", by walk_at "lk", ?_, hr', by omega, ?_⟩
          · exact HasInt.of ⟨_, by walk_at "lk"⟩ (by omega)
          · conv => rhs; rw [suLoop]
            rw [dif_pos hc', if_pos ⟨hr', by rw [getD_lt hc', getD_lt hr']; exact hlt'⟩]
        · have hlt' : entLt es'[2 * k + 1] es'[2 * k + 2] = true := by simpa using hlt
          refine split_bool (fun hh => absurd hh (by decide)) (fun _ => ?_)
          repeat walk_at "ms"
          refine ⟨rfl, _, _, _, 2 * k + 1, rfl, by assumption, by walk_at "lk", by walk_at "lk", by walk_at "lk", by walk_at "lk", by walk_at "lk", ?_, hc', by omega, ?_⟩
          · exact HasInt.of ⟨_, by walk_at "lk"⟩ (by omega)
          · conv => rhs; rw [suLoop]
            rw [dif_pos hc', if_neg (by rintro ⟨_, q⟩; rw [getD_lt hc', getD_lt hr', hlt'] at q; cases q)]
      · have hr' : ¬ 2 * k + 2 < es'.length := by have := of_decide_eq_false hr; omega
        refine split_bool (fun hh => absurd hh (by decide)) (fun _ => ?_)
        repeat walk_at "ms"
        refine ⟨rfl, _, _, _, 2 * k + 1, rfl, by assumption, by walk_at "lk", by walk_at "lk", by walk_at "lk", by walk_at "lk", by walk_at "lk", ?_, hc', by omega, ?_⟩
        · exact HasInt.of ⟨_, by walk_at "lk"⟩ (by omega)
        · conv => rhs; rw [suLoop]
          rw [dif_pos hc', if_neg (by rintro ⟨q, _⟩; exact hr' q)]
    · rintro f s' ⟨rfl, h6, t6, m6', c, rfl, F6, n1, n2, n3, n4, n5, ⟨cu, n6⟩, hcl, hkc, hstep⟩
      obtain ⟨dv, hdv, hde⟩ := hys.get (i := c) hcl
      repeat walk_at "ms"
      refine sub_list (F6.lst one_same) (by omega) (by rw [Int.toNat_natCast]; exact hdv) (by omega) ?_
      repeat walk_at "ms"
      refine set_list (by assumption) one_same (by omega) (by rw [hys.1]; omega) (by omega) ?_
      intro h7 F7
      rw [one_set] at F7
      repeat walk_at "ms"
      refine op_mul (mulok2 (by omega)) ?_; intro _ _
      repeat walk_at "ms"
      refine ⟨es.length - c, _, _, rfl, by omega, _, es'.set k es'[c], _, _, _, c, by assumption, by walk_at "lk", ⟨_, by walk_at "lk"⟩, by walk_at "lk", ⟨_, by walk_at "lk"⟩, by walk_at "lk", by walk_at "lk", by simpa using hcl, by simpa using hlen, hys.set k hde, ?_, rfl⟩
      rw [← hgo, ← hstep, getD_lt hcl]
  · have hc' : ¬ 2 * k + 1 < es'.length := by have := of_decide_eq_false hc; omega
    have hfin : suLoop es p = (es', k) := by rw [← hgo, suLoop, dif_neg hc']
    repeat walk_at "ms"
    refine set_list (by assumption) one_same (by omega) (by rw [hys.1]; omega) (by omega) ?_
    intro h6 F6
    rw [one_set] at F6
    repeat walk_at "ms"
    refine siftdown_spec (es := es'.set k es[p]) amb hA' F6.tops ha (F6.own _ _ one_same) (hB.trans (hid_le F6.exitBut)) (hys.set k hnv) (by simpa using hk') (by simp; omega) ?_
    intro h7 t7 zs k7 l7 e7
    dsimp only
    repeat walk_at "ms"
    refine hQ _ _ _ (F6.exitBut.trans k7) l7 ?_
    unfold siftup
    rw [hfin, getD_lt hp]
    simpa using e7
end

-- MF
/-- what a walk over something yields: n values, the iterator's own object in states st 0 .. st n -/
structure Itr (prog : Program) (w : World) (I : Addr) (P : Heap → Prop) (n : Nat) (val : Nat → Value → Prop) (st : Nat → Obj → Prop) : Prop where
  next : ∀ {A : Around} {E : Value → Shared → Prop} {s : Shared} {h : Heap} {t : Nat} {Q : Option Value → Shared → Prop} {o : Obj} (i : Nat), i < n → P h → h.get? I = some o → st i o →
    (∀ h' t' v o', val i v → h'.get? I = some o' → st (i + 1) o' → Heap.SameBut I h h' → Q (some v) (S s h' t')) → wpAny (model prog w) A (pyNext (.ref I)) Q E (S s h t)
  fin : ∀ {A : Around} {E : Value → Shared → Prop} {s : Shared} {h : Heap} {t : Nat} {Q : Option Value → Shared → Prop} {o : Obj}, A.handled = none → P h → h.get? I = some o → st n o →
    (∀ h', Heap.ExtBut I h h' → Q none (S s h' t)) → wpAny (model prog w) A (pyNext (.ref I)) Q E (S s h t)
  self : ∀ {A : Around} {E : Value → Shared → Prop} {s : Shared} {h : Heap} {t : Nat} {Q : Value → Shared → Prop} {o : Obj} (i : Nat), h.get? I = some o → st i o → Q (.ref I) (S s h t) → wpAny (model prog w) A (pyIter (.ref I)) Q E (S s h t)

def stList (l : Addr) (i : Nat) (o : Obj) : Prop := o.cls = .type "list_iterator" ∧ o.data = .fields #[.ref l, .int i 0]
def stRange (a step : Int) (n i : Nat) (o : Obj) : Prop := o = { cls := .type "range_iterator", dict := none, data := .fields #[rawInt (a + i * step), rawInt ((n : Int) - i), rawInt step], slots := #[] }
def stBytes (b : Array UInt8) (t : Tok) (i : Nat) (o : Obj) : Prop := o.cls = .type "bytes_iterator" ∧ o.data = .fields #[.bytes b t, .int i 0]

theorem itr_list {prog : Program} {w : World} {I l : Addr} {xs : List Value} : Itr prog w I (fun h => h.IsList l xs.toArray) xs.length (fun i v => xs[i]? = some v) (stList l) where
  next := fun {A E s h t Q o} i hi hP ho hst k => by
    refine wpAny_pyNext_list_item (i := i) (x := xs[i]) ⟨o, ho, hst⟩ hP (by simp [hi]) fun h' hit hs => ?_
    obtain ⟨o', ho', hc, hd⟩ := hit
    exact k h' _ _ o' (List.getElem?_eq_getElem hi) ho' ⟨hc, hd⟩ hs
  fin := fun {A E s h t Q o} hh hP ho hst k => wpAny_pyNext_list_end (i := xs.length) hh ⟨o, ho, hst⟩ hP (by simp) fun h' hs => k h' hs
  self := fun {A E s h t Q o} i ho hst k => wpAny_pyIter_listiter (s := S s h t) ⟨o, ho, hst⟩ k
theorem itr_range {prog : Program} {w : World} {I : Addr} {a step : Int} {n : Nat} : Itr prog w I (fun _ => True) n (fun i v => ∃ u, v = .int (a + i * step) u) (stRange a step n) where
  next := fun {A E s h t Q o} i hi _ ho hst k => by
    subst hst
    refine wpAny_pyNext_range_item (s := S s h t) ho (by omega) fun h' hit hs => ?_
    refine k h' _ _ _ ⟨_, rfl⟩ hit ?_ hs
    unfold stRange
    have e1 : a + (i : Int) * step + step = a + ((i + 1 : Nat) : Int) * step := by push_cast; rw [Int.add_mul, Int.one_mul, Int.add_assoc]
    have e2 : (n : Int) - (i : Int) - 1 = (n : Int) - ((i + 1 : Nat) : Int) := by push_cast; omega
    rw [e1, e2]
  fin := fun {A E s h t Q o} hh _ ho hst k => by
    subst hst
    exact wpAny_pyNext_range_end (s := S s h t) hh ho (by omega) fun h' hs => k h' hs
  self := fun {A E s h t Q o} i ho hst k => by
    subst hst
    exact wpAny_pyIter_rangeiter (s := S s h t) ho k
theorem itr_bytes {prog : Program} {w : World} {I : Addr} {b : Array UInt8} {u : Tok} : Itr prog w I (fun _ => True) b.size (fun i v => ∃ c q, b[i]? = some c ∧ v = .int (c.toNat : Int) q) (stBytes b u) where
  next := fun {A E s h t Q o} i hi _ ho hst k => by
    refine KBw.next_item (i := i) (c := b[i]) ⟨o, ho, hst⟩ (by simp [hi]) fun h' hit hs => ?_
    obtain ⟨o', ho', hc, hd⟩ := hit
    exact k h' _ _ o' ⟨b[i], _, by simp [hi], rfl⟩ ho' ⟨hc, hd⟩ hs
  fin := fun {A E s h t Q o} hh _ ho hst k => KBw.next_end (i := b.size) hh ⟨o, ho, hst⟩ (by simp) fun h' hs => k h' hs
  self := fun {A E s h t Q o} i ho hst k => KBw.pyIter_self (s := S s h t) ⟨o, ho, hst⟩ k

theorem Mp.set_set (X : Mp) (a : Addr) (o o' : Obj) : (X.set a o).set a o' = X.set a o' := by
  funext b; unfold Mp.set; by_cases h : b = a <;> simp [h]

section
variable {prog : Program} {w : World} {A : Around} {E : Value → Shared → Prop} {s : Shared} {h : Heap} {t : Nat} {env : Env}
  {mg mb : Lc} {H : Heap} {X B : Mp} {N : Mu} {L : Addr} {m : Lc}

abbrev FPost (H : Heap) (X B : Mp) (L : Addr) (s : Shared) (J : Mp → Mu → Lc → Prop) (f : Flow) (s₃ : Shared) : Prop :=
  (f = .next ∨ f = .cont) ∧ ∃ B'' N'' m'' h' t', s₃ = S s h' t' ∧ B.le B'' ∧ Fm H X B'' N'' L m'' h' ∧ J B'' N'' m''
theorem for_loop {I : Addr} {P : Heap → Prop} {n : Nat} {val : Nat → Value → Prop} {st : Nat → Obj → Prop} {x : Str} {px : Pos} {body : List Stmt} {h₀ : Heap} {o : Obj} {Q : Flow → Shared → Prop}
    (it : Itr prog w I P n val st) (hh : A.handled = none) (F : Fm H X B N L m h₀) (fresh : h₀.get? I = none) (k : Kp h₀ h) (ho : h.get? I = some o) (hst : st 0 o)
    (hP : ∀ h' : Heap, (∀ b o, B b = some o → h'.get? b = some o) → P h') (J : Nat → Mp → Mu → Lc → Prop) (J0 : J 0 B N m)
    (turn : ∀ i X' B' N' m' h t v, i < n → B.le B' → J i B' N' m' → val i v → Fm H X' B' N' L (upd m' x v) h →
      wpAny (model prog w) A (execs body env) (FPost H X' B' L s (J (i + 1))) noE (S s h t))
    (done : ∀ B' N' m' h t, B.le B' → J n B' N' m' → Fm H X B' N' L m' h → Q .next (S s h t))
    (hL : env.locals = L := by rfl) (hk : env.scope.kind = .function := by rfl) (hl : env.kindOf x = some .local := by rfl) :
    codeAny (model prog w) A (.forLoop (.Name x px) (.ref I) body [] env) (fun r s' => match r with | .ok f => Q f s' | .error e => cameBackBy (model prog w) A env noE e s') (S s h t) := by
  subst hL
  refine codeAny_forLoop (fun j s' => ∃ i h t o B' N' m', s' = S s h t ∧ i ≤ n ∧ j = n + 1 - i ∧ Fm H (X.set I o) B' N' env.locals m' h ∧ st i o ∧ B.le B' ∧ J i B' N' m') ?_ (n + 1)
    ⟨0, h, t, o, B, N, m, rfl, Nat.zero_le _, rfl, F.hold k fresh ho, hst, Mp.le.refl _, J0⟩
  rintro j s' ⟨i, h', t', o', B', N', m', rfl, hi, rfl, F', hst', hle, hJ⟩
  have hP' : P h' := hP h' fun b o e => F'.keep b o (hle b o e)
  have hX : (X.set I o') I = some o' := Mp.set_same
  by_cases hlt : i < n
  · refine it.next i hlt hP' (F'.held _ _ hX) hst' fun h₁ t₁ v o₁ hv ho₁ hst₁ hs₁ => ?_
    have F₁ := F'.reheld hX hs₁.extBut ho₁
    rw [Mp.set_set] at F₁
    refine wpAny_assign_Name (st_local F₁ (fun h₂ t₂ F₂ => ?_) rfl hk hl)
    refine wpAny_mono (turn i _ B' N' m' h₂ t₂ v hlt hle hJ hv F₂) (fun f s₃ h₃ => ?_) fun _ _ x => x.elim
    obtain ⟨hf, B'', N'', m'', h₄, t₄, rfl, hle', F₄, hJ'⟩ := h₃
    rcases hf with rfl | rfl
    · exact ⟨n + 1 - (i + 1), by omega, i + 1, h₄, t₄, o₁, B'', N'', m'', rfl, hlt, rfl, F₄, hst₁, hle.trans hle', hJ'⟩
    · exact ⟨n + 1 - (i + 1), by omega, i + 1, h₄, t₄, o₁, B'', N'', m'', rfl, hlt, rfl, F₄, hst₁, hle.trans hle', hJ'⟩
  · have hin : i = n := by omega
    subst hin
    refine it.fin hh hP' (F'.held _ _ hX) hst' fun h₁ hs₁ => wpAny_execs_nil ?_
    exact done B' N' m' h₁ t' hle hJ (F'.drop hX hs₁ (fun b x q => by rw [Mp.set_ne (by rintro rfl; rw [F.freshX fresh] at q; cases q)]; exact q) (F.freshX fresh))

theorem pit_list {l : Addr} {xs : List Value} {Q : Value → Shared → Prop} (hl : h.IsList l xs.toArray)
    (hQ : ∀ I h' o, h.get? I = none → Kp h h' → h'.get? I = some o → stList l 0 o → Q (.ref I) (S s h' t)) : wpAny (model prog w) A (pyIter (.ref l)) Q E (S s h t) :=
  wpAny_pyIter_list hl (hQ _ _ _ (get?_size h) (Kp.push _ _) (Heap.get?_push_size _ rfl) ⟨rfl, rfl⟩)
theorem pit_bytes {b : Array UInt8} {u : Tok} {Q : Value → Shared → Prop}
    (hQ : ∀ I h' o, h.get? I = none → Kp h h' → h'.get? I = some o → stBytes b u 0 o → Q (.ref I) (S s h' t)) : wpAny (model prog w) A (pyIter (.bytes b u)) Q E (S s h t) :=
  KBw.pyIter_bytes (hQ _ _ _ (get?_size h) (Kp.push _ _) (Heap.get?_push_size _ rfl) ⟨rfl, rfl⟩)
theorem rangeSize_nonneg (a b c : Int) : 0 ≤ Builtin.Range.rangeSize a b c := by
  unfold Builtin.Range.rangeSize
  split <;> split <;> first | omega | (have := Int.ediv_nonneg (a := b - a - 1) (b := c) (by omega) (by omega); omega) | (have := Int.ediv_nonneg (a := a - b - 1) (b := -c) (by omega) (by omega); omega)
/-- a range that counts n items from a by c; made by the call, walked at once -/
theorem pit_range {r : Addr} {a b c : Int} {n : Nat} {t1 t2 t3 : Tok} {Q : Value → Shared → Prop} (hr : IsRange h r a b c t1 t2 t3) (hsmall : Builtin.Range.small a b c = true) (hn : Builtin.Range.rangeSize a b c = n)
    (hQ : ∀ I h' o, h.get? I = none → Kp h h' → h'.get? I = some o → stRange a c n 0 o → Q (.ref I) (S s h' t)) : wpAny (model prog w) A (pyIter (.ref r)) Q E (S s h t) := by
  refine wpAny_pyIter_range (s := S s h t) hr hsmall (hQ _ _ _ (get?_size h) (Kp.push _ _) (Heap.get?_push_size _ rfl) ?_)
  unfold stRange
  rw [hn]; simp
end

-- MH
theorem typeCall_reversed (a : Value) : checkTypeCall "reversed" ⟨[a], []⟩ = pure () := PySem.F.typeCall_reversed_1 a
theorem sub_ri_reversed : isSubtype (.type "range_iterator") (.type "reversed") = pure false := by rw [isSubtype_type]; kernel_rfl
section
variable {prog : Program} {w : World} {A : Around} {E : Value → Shared → Prop} {s : Shared} {h : Heap} {t : Nat}

theorem mk_range1 {n : Int} {u : Tok} {Q : Value → Shared → Prop} (hQ : ∀ r h' t' t1 t3, h.get? r = none → Kp h h' → IsRange h' r 0 n 1 t1 u t3 → Q (.ref r) (S s h' t')) :
    wpAny (model prog w) A (call (.type "range") [.int n u]) Q E (S s h t) :=
  call_range_1 (hQ _ _ _ _ _ (get?_size h) (Kp.push _ _) (Heap.get?_push_size _ rfl))
theorem mk_range2 {a b : Int} {u v : Tok} {Q : Value → Shared → Prop} (hQ : ∀ r h' t' t3, h.get? r = none → Kp h h' → IsRange h' r a b 1 u v t3 → Q (.ref r) (S s h' t')) :
    wpAny (model prog w) A (call (.type "range") [.int a u, .int b v]) Q E (S s h t) :=
  call_range_2 (hQ _ _ _ _ (get?_size h) (Kp.push _ _) (Heap.get?_push_size _ rfl))

theorem rangeFields_of {r : Addr} {a b c : Int} {t1 t2 t3 : Tok} {Q : Int × Int × Int → Shared → Prop} (hr : IsRange s.heap r a b c t1 t2 t3) (hQ : Q (a, b, c) s) :
    wpAny (model prog w) A (Builtin.Range.rangeFields (.ref r)) Q E s := by
  unfold Builtin.Range.rangeFields
  refine wpAny_bind (wpAny_field hr rfl (x := .int a t1) rfl ?_)
  refine wpAny_bind (wpAny_of_eq (a := some a) rfl ?_)
  refine wpAny_bind (wpAny_field hr rfl (x := .int b t2) rfl ?_)
  refine wpAny_bind (wpAny_of_eq (a := some b) rfl ?_)
  refine wpAny_bind (wpAny_field hr rfl (x := .int c t3) rfl ?_)
  refine wpAny_bind (wpAny_of_eq (a := some c) rfl ?_)
  exact wpAny_pure hQ

def revIt (n : Nat) : Obj := { cls := .type "range_iterator", dict := none, data := .fields #[rawInt ((n : Int) - 1), rawInt (n : Int), rawInt (-1)], slots := #[] }
theorem call_range_reversed {r : Addr} {n : Nat} {t1 t2 t3 : Tok} {Q : Value → Shared → Prop} (hr : IsRange s.heap r 0 n 1 t1 t2 t3) (hn : n < 1000000)
    (hQ : Q (.ref s.heap.objs.size) { s with heap := s.heap.push (revIt n) }) : wpAny (model prog w) A (call (.builtin "range.__reversed__") [.ref r]) Q E s := by
  have hT : s.TypeIs (.ref r) "range" := ⟨_, hr, rfl⟩
  refine wpAny_call_entry PySem.F.slot_range_reversed hT PySem.F.entry_range_reversed ?_ (PySem.F.args_range_reversed_1 _)
  unfold Builtin.«range.__reversed__»
  refine wpAny_bind (wpAny_of_eq (a := Value.ref r) rfl ?_)
  refine wpAny_bind (rangeFields_of hr ?_)
  dsimp only
  have hz : Builtin.Range.rangeSize 0 n 1 = n := by
    unfold Builtin.Range.rangeSize; rw [if_pos (by decide)]; split <;> omega
  have hs : (Builtin.Range.rangeFitsLong 0 && Builtin.Range.rangeFitsLong n && Builtin.Range.rangeFitsLong 1 && Builtin.Range.rangeFitsLong (-1) && Builtin.Range.rangeFitsLong (0 - 1) && Builtin.Range.rangeFitsLong n) = true := by
    have e : Builtin.Range.rangeFitsLong (n : Int) = true := by
      unfold Builtin.Range.rangeFitsLong; rw [decide_eq_true (by omega), decide_eq_true (by omega)]; rfl
    rw [e]; decide
  simp only [hz, hs, Bool.not_true, Bool.false_eq_true, if_false, if_true]
  refine wpAny_bind (wpAny_newObj_type (wpAny_pure ⟨_, rfl, ?_⟩) (by size_fits))
  simpa [revIt] using hQ

theorem code_reversed_range {r : Addr} {n : Nat} {t1 t2 t3 : Tok} {Q₁ : Value → Shared → Prop} (hr : IsRange s.heap r 0 n 1 t1 t2 t3) (hn : n < 1000000)
    (hQ : Q₁ (.ref s.heap.objs.size) { s with heap := s.heap.push (revIt n) }) :
    codeAny (model prog w) A (.call (.builtin "reversed.__new__") ⟨[.type "reversed", .ref r], []⟩) (wants Q₁ E) s := by
  have hT : s.TypeIs (.ref r) "range" := ⟨_, hr, rfl⟩
  refine codeAny_of_tree ?_
  show wpAny _ A.in1 (do checkBuiltinCall "reversed.__new__" ⟨[.type "reversed", .ref r], []⟩; again (.builtin "reversed.__new__" ⟨[.type "reversed", .ref r], []⟩)) _ _ s
  refine wpAny_bind (wpAny_of_eq (PySem.F.newCall_reversed_1 _) (wpAny_pure ⟨plainId_quiet PySem.F.plain_reversed_new _, codeAny_builtin PySem.F.entry_reversed_new ?_⟩))
  rw [Around.under_plainId PySem.F.plain_reversed_new _]
  unfold Builtin.«reversed.__new__»
  refine wpAny_bind (wpAny_of_eq (newClass_reversed _) ?_)
  try dsimp only
  refine wpAny_bind (wpAny_of_eq (a := ()) (by first | rfl | kernel_rfl) ?_)
  refine wpAny_bind (wpAny_of_eq (a := ()) (by first | rfl | kernel_rfl) ?_)
  try dsimp only
  refine wpAny_bind (wpAny_specialOf hT PySem.F.slot_range_reversed.lookup ?_)
  try dsimp only
  refine wpAny_bind (wpAny_of_eq (PySem.F.slot_range_reversed.bind _) ?_)
  try dsimp only
  first
  | rw [if_neg (show ¬ ((Value.builtin "range.__reversed__" == Value.none) = true) from Bool.false_ne_true)]
  | (show wpAny _ _ (if (Value.builtin "range.__reversed__" == Value.none) = true then _ else _) _ _ _; rw [if_neg (show ¬ ((Value.builtin "range.__reversed__" == Value.none) = true) from Bool.false_ne_true)])
  refine wpAny_bind (wpAny_rule ?_)
  refine wpAny_bind (m := runValue (.call (.builtin "range.__reversed__") ⟨[.ref r], []⟩)) (show wpAny _ _ (call (.builtin "range.__reversed__") [.ref r]) _ _ _ from call_range_reversed hr hn ?_)
  first
  | exact wpAny_pure hQ
  | exact wpAny_bind (wpAny_pure (wpAny_pure hQ))

theorem mk_reversed {r : Addr} {n : Nat} {t1 t2 t3 : Tok} {Q : Value → Shared → Prop} (hr : IsRange h r 0 n 1 t1 t2 t3) (hn : n < 1000000)
    (hQ : ∀ I h', h.get? I = none → Kp h h' → h'.get? I = some (revIt n) → Q (.ref I) (S s h' t)) : wpAny (model prog w) A (call (.type "reversed") [.ref r]) Q E (S s h t) := by
  refine callType_other (U := "range_iterator") (Q₁ := fun obj s₁ => obj = .ref h.objs.size ∧ s₁ = S s (h.push (revIt n)) t) (by decide +kernel) PySem.F.create_reversed ⟨_, _, PySem.F.mro_reversed⟩ PySem.F.made_reversed sub_ri_reversed
    (PySem.F.typeCall_reversed_1 _) (code_reversed_range (s := S s h t) hr hn ⟨rfl, rfl⟩) ?_
  rintro obj s₁ ⟨rfl, rfl⟩
  exact ⟨⟨_, Heap.get?_push_size _ rfl, rfl⟩, hQ _ _ (get?_size h) (Kp.push _ _) (Heap.get?_push_size _ rfl)⟩
theorem pit_rev {I : Addr} {n : Nat} {Q : Value → Shared → Prop} (hi : h.get? I = some (revIt n)) (hQ : Q (.ref I) (S s h t)) : wpAny (model prog w) A (pyIter (.ref I)) Q E (S s h t) :=
  wpAny_pyIter_rangeiter (s := S s h t) hi hQ
theorem stRange_rev (n : Nat) : stRange ((n : Int) - 1) (-1) n 0 (revIt n) := by simp [stRange, revIt]

variable {mg mb : Lc} {H : Heap}
theorem heapreplace_spec {B₀ : Mp} {Q : Value → Shared → Prop} {a : Addr} {xs : List Value} {es : List Ent} {v v0 : Value} {e : Ent} (amb : Amb w mg mb H) (hA : Rm 3 A) (top : Kp H h) (ha : H.get? a = none) (hl : h.PlainList a xs.toArray)
   (hB : B₀.le (hid h a)) (he : Ents B₀ xs es) (hv : IsEnt B₀ v e) (hx : xs[0]? = some v0) (hp : 0 < es.length) (hn : es.length < 1000)
   (hQ : ∀ h' t' ys, Heap.ExtBut a h h' → h'.PlainList a ys.toArray → Ents B₀ ys (siftup (es.set 0 e) 0) → Q v0 (S s h' t')) :
   wpAny (model prog w) A (call (.ref 28) [.ref a, v]) Q E (S s h t) := by
  refine call_fn [("heap", .ref a), ("item", v)] amb hA top rfl rfl (BindsTo.of_eq rfl) ?_
  intro L h₁ t₁ hL hns hk hA'
  have F := Fm.entryBut top ha hl hL hns hk
  simp only [bnd, List.foldl] at F
  generalize A.deeper _ = A' at hA' ⊢
  clear hns hA
  repeat walk_at "ms"
  refine sub_list (F.lst one_same) (by omega) (by simpa using hx) (by omega) ?_
  repeat walk_at "ms"
  refine set_list (by assumption) one_same (by omega) (by rw [he.1]; omega) (by omega) ?_
  intro h6 F6
  rw [one_set] at F6
  repeat walk_at "ms"
  refine siftup_spec (es := es.set 0 e) (p := 0) amb hA' F6.tops ha (F6.own _ _ one_same) (hB.trans (hid_le F6.exitBut)) (he.set 0 hv) (by simpa using hp) (by simpa using hn) ?_
  intro h7 t7 zs k7 l7 e7
  have F7 := F6.extBut one_same k7 l7
  dsimp only
  repeat walk_at "ms"
  exact hQ _ _ _ (F6.exitBut.trans k7) l7 e7

def hpf : Nat → List Ent → List Ent
  | 0, es => es
  | k + 1, es => hpf k (siftup es k)
abbrev hpInv (h : Heap) (a : Addr) (B₀ : Mp) (es : List Ent) (i : Nat) (B' : Mp) (N' : Mu) (m' : Lc) : Prop :=
  B' = hid h a ∧ ∃ ys es', N' = one a ys ∧ Ents B₀ ys es' ∧ es'.length = es.length ∧ hpf (es.length / 2 - i) es' = hpf (es.length / 2) es ∧ m' "x" = some (.ref a)
theorem heapify_spec {B₀ : Mp} {Q : Value → Shared → Prop} {a : Addr} {xs : List Value} {es : List Ent} (amb : Amb w mg mb H) (hA : Rm 3 A) (top : Kp H h) (ha : H.get? a = none) (hl : h.PlainList a xs.toArray)
   (hB : B₀.le (hid h a)) (he : Ents B₀ xs es) (hn : es.length < 1000)
   (hQ : ∀ h' t' ys, Heap.ExtBut a h h' → h'.PlainList a ys.toArray → Ents B₀ ys (hpf (es.length / 2) es) → Q .none (S s h' t')) :
   wpAny (model prog w) A (call (.ref 35) [.ref a]) Q E (S s h t) := by
  refine call_fn [("x", .ref a)] amb hA top rfl rfl (BindsTo.of_eq rfl) ?_
  intro L h₁ t₁ hL hns hk hA'
  have F := Fm.entryBut top ha hl hL hns hk
  simp only [bnd, List.foldl] at F
  generalize A.deeper _ = A' at hA' ⊢
  clear hns hA
  repeat walk_at "ms"
  refine len_lst (F.lst one_same) (by rw [he.1]; omega) ?_
  intro _ _
  rw [he.1]
  repeat walk_at "ms"
  refine wpAny_For ?_
  repeat walk_at "ms"
  refine op_fdiv (by decide) (by decide +kernel) ?_; intro _ _
  rw [show ((es.length : Int)).fdiv 2 = ((es.length / 2 : Nat) : Int) from by rw [Int.fdiv_eq_ediv_of_nonneg _ (by decide)]; omega]
  repeat walk_at "ms"
  refine mk_range1 ?_
  intro r h2 t2 t3 t4 f2 k2 hr2
  rename_i F1 _ _ _ _
  have F2 := F1.ext k2
  repeat walk_at "ms"
  refine mk_reversed hr2 (by omega) ?_
  intro I h3 f3 k3 hI3
  refine pit_rev hI3 ?_
  refine for_loop (itr_range (a := ((es.length / 2 : Nat) : Int) - 1) (step := -1) (n := es.length / 2)) hA'.handled F2 f3 k3 hI3 (stRange_rev _) (fun _ _ => trivial)
    (hpInv h a B₀ es)
    ⟨rfl, xs, es, rfl, he, rfl, rfl, by walk_at "lk"⟩ ?_ ?_
  · rintro i X' B' N' m' h4 t4 v hi - ⟨rfl, ys, es', rfl, hys, hlen, hgo, hm⟩ ⟨u, rfl⟩ F4
    repeat walk_at "ms"
    have e1 : ((es.length / 2 : Nat) : Int) - 1 + (i : Int) * (-1) = ((es.length / 2 - 1 - i : Nat) : Int) := by omega
    rw [e1]
    refine siftup_spec (es := es') amb hA' F4.tops ha (F4.own _ _ one_same) (hB.trans (hid_le F4.exitBut)) hys (by omega) (by omega) ?_
    intro h7 t7 zs k7 l7 e7
    have F7 := F4.extBut one_same k7 l7
    rw [one_set] at F7
    dsimp only
    repeat walk_at "ms"
    refine ⟨.inl rfl, _, _, _, _, _, rfl, Mp.le.refl _, F7, rfl, zs, _, rfl, e7, by rw [siftup_len]; exact hlen, ?_, by walk_at "lk"⟩
    rw [← hgo]
    have e2 : es.length / 2 - i = (es.length / 2 - 1 - i) + 1 := by omega
    have e3 : es.length / 2 - (i + 1) = es.length / 2 - 1 - i := by omega
    rw [e2, e3]; rfl
  · rintro B' N' m' h4 t4 - ⟨rfl, ys, es', rfl, hys, hlen, hgo, hm⟩ F4
    repeat walk_at "ms"
    refine hQ _ _ _ F4.exitBut (F4.own _ _ one_same) ?_
    rw [← hgo, Nat.sub_self]
    exact hys
end

-- MX
/-- what one octet sends out: the signs, the bits left -/
def emit (lc : Nat) (lb : Nat) : List Nat × Nat :=
  if 6 ≤ lb then (sgnN (lc / 2 ^ (lb - 6) % 64) :: (emit lc (lb - 6)).1, (emit lc (lb - 6)).2) else ([], lb)
termination_by lb
decreasing_by all_goals omega
structure BSt where
  out : List Nat
  lb : Nat
  lc : Nat
def bstep (st : BSt) (b : UInt8) : BSt :=
  let lc := (st.lc * 256 + b.toNat) % 65536
  ⟨st.out ++ (emit lc (st.lb + 8)).1, (emit lc (st.lb + 8)).2, lc⟩
def toI (ns : List Nat) : List Int := ns.map fun n : Nat => (n : Int)
theorem toI_len (ns : List Nat) : (toI ns).length = ns.length := List.length_map ..
theorem toI_snoc (ns : List Nat) (n : Nat) : toI (ns ++ [n]) = toI ns ++ [(n : Int)] := by simp [toI]
theorem ints_snoc {v : Value} {n : Int} {u : Tok} (e : v = .int n u) : ∀ {vs : List Value} {ns : List Int}, IntsAre vs ns → IntsAre (vs ++ [v]) (ns ++ [n])
  | _, _, .nil => by subst e; exact .cons _ _ .nil
  | _, _, .cons _ _ h => .cons _ _ (ints_snoc e h)
section
variable {prog : Program} {w : World} {A : Around} {E : Value → Shared → Prop} {s : Shared} {h : Heap} {t : Nat} {env : Env}
  {mg mb : Lc} {H : Heap} {X B : Mp} {N : Mu} {L : Addr} {m : Lc}
theorem mk_list {vs : List Value} {Q : Value → Shared → Prop} (hz : vs.length ≤ 16777216) (hQ : ∀ a h', h.get? a = none → Kp h h' → h'.PlainList a vs.toArray → Q (.ref a) (S s h' t)) :
    wpAny (model prog w) A (newList vs) Q E (S s h t) :=
  wpAny_newObj_type (hQ _ _ (get?_size h) (Kp.push _ _) ⟨0, Heap.get?_push_size _ rfl⟩) (by show vs.toArray.size ≤ sizeLine; rw [List.size_toArray]; exact hz)
theorem meth_append {a : Addr} {xs : List Value} {pl : Sem Bool} {Q : Value × List Value → Shared → Prop} (hl : h.PlainList a xs.toArray) (hQ : Q (.builtin "list.append", [.ref a]) (S s h t)) :
    wpAny (model prog w) A (getMethod (.ref a) "append" pl) Q E (S s h t) := by
  obtain ⟨n, ho⟩ := hl
  exact getMethod_list_append (s := S s h t) ho rfl rfl hQ
theorem type_call {v : Value} {T : String} {Q : Value → Shared → Prop} (hT : (S s h t).TypeIs v T) (hn : (Value.type T == Value.type "builtin_function_or_method") = false) (hQ : Q (.type T) (S s h t)) :
    wpAny (model prog w) A (call (.type "type") [v]) Q E (S s h t) := call_type_of hT hn hQ
theorem is_plain {a b : Value} {Q : Value → Shared → Prop} (hp : plainIs a b = true) (hQ : Q (.bool (a == b)) (S s h t)) : wpAny (model prog w) A (compareOp .Is a b) Q E (S s h t) := wpAny_is_plain hp hQ
theorem isNot_plain {a b : Value} {Q : Value → Shared → Prop} (hp : plainIs a b = true) (hQ : Q (.bool (!(a == b))) (S s h t)) : wpAny (model prog w) A (compareOp .IsNot a b) Q E (S s h t) := wpAny_isNot_plain hp hQ

theorem buffer_spec {Q : Value → Shared → Prop} {b : Array UInt8} {u : Tok} (amb : Amb w mg mb H) (hA : Rm 1 A) (top : Kp H h)
    (hQ : ∀ h' t', Kp h h' → Q (.bytes b u) (S s h' t')) : wpAny (model prog w) A (call (.ref 56) [.bytes b u]) Q E (S s h t) := by
  refine call_fn [("data", .bytes b u)] amb hA top rfl rfl (BindsTo.of_eq rfl) ?_
  intro L h₁ t₁ hL hns hk hA'
  have F := Fm.entry top hL hns hk
  simp only [bnd, List.foldl] at F
  generalize A.deeper _ = A' at hA' ⊢
  clear hns hA
  repeat walk_at "ms"
  refine type_call (T := "bytes") rfl (by decide +kernel) ?_
  repeat walk_at "ms"
  refine wpAny_If ?_
  repeat walk_at "ms"
  refine is_plain rfl ?_
  repeat walk_at "ms"
  refine split_bool (fun _ => ?_) (fun hh => absurd hh (by decide))
  repeat walk_at "ms"
  exact hQ _ _ (Fm.exit (by assumption) (Mp.le.refl _))
theorem truth_spec {Q : Value → Shared → Prop} (amb : Amb w mg mb H) (hA : Rm 1 A) (top : Kp H h)
    (hQ : ∀ h' t', Kp h h' → Q (.bool false) (S s h' t')) : wpAny (model prog w) A (call (.ref 63) [.bool false]) Q E (S s h t) := by
  refine call_fn [("x", .bool false)] amb hA top rfl rfl (BindsTo.of_eq rfl) ?_
  intro L h₁ t₁ hL hns hk hA'
  have F := Fm.entry top hL hns hk
  simp only [bnd, List.foldl] at F
  generalize A.deeper _ = A' at hA' ⊢
  clear hns hA
  repeat walk_at "ms"
  refine type_call (T := "bool") rfl (by decide +kernel) ?_
  repeat walk_at "ms"
  refine wpAny_If ?_
  repeat walk_at "ms"
  refine is_plain rfl ?_
  repeat walk_at "ms"
  refine split_bool (fun hh => absurd hh (by decide)) (fun _ => ?_)
  repeat walk_at "ms"
  refine is_plain rfl ?_
  repeat walk_at "ms"
  refine split_bool (fun _ => ?_) (fun hh => absurd hh (by decide))
  refine split_bool (fun _ => ?_) (fun hh => absurd hh (by decide))
  repeat walk_at "ms"
  refine IfExp_ ?_
  repeat walk_at "ms"
  refine split_bool (fun hh => absurd hh (by decide)) (fun _ => ?_)
  repeat walk_at "ms"
  exact hQ _ _ (Fm.exit (by assumption) (Mp.le.refl _))

theorem sub_bytes {value slice : Expr} {x : List UInt8} {i : Int} {u v : Tok} {Q : Value → Shared → Prop} (h0 : 0 ≤ i) (h1 : i < (x.length : Int)) (hfit : x.length ≤ 1000000)
    (hQ : ∀ u t', Q (.int (x.getD i.toNat 0).toNat u) (S s h t')) (hs : subscripted slice false (.bytes x.toArray u) (.int i v) = operate [.bytes x.toArray u, .int i v] (getItem (.bytes x.toArray u) (.int i v)) := by with_unfolding_all rfl) :
    wpAny (model prog w) A (subscriptTail value slice (.bytes x.toArray u) (.int i v)) Q E (S s h t) :=
  tail_any (typeIs_bytes _ _ _) FB.slot_bytes_getitem.lookup (getItem_bytes (by omega) h0 h1 (hQ _ _)) hs
theorem mk_bytes {a : Addr} {vs : List Value} {ns : List Nat} {k : Nat} {Q : Value → Shared → Prop} (hA : Rm k A) (hl : h.IsList a vs.toArray) (hi : IntsAre vs (toI ns)) (hr : ∀ n ∈ ns, n < 256) (hz : ns.length ≤ 16777216)
    (hQ : ∀ h' t' u, Kp h h' → Q (.bytes (ns.map fun n => n.toUInt8).toArray u) (S s h' t')) : wpAny (model prog w) A (call (.type "bytes") [.ref a]) Q E (S s h t) := by
  refine call_bytes_ints (s := S s h t) hl hi (by intro n hn; obtain ⟨m, hm, rfl⟩ := List.mem_map.mp hn; have := hr m hm; omega) (by rw [hi.length, toI_len]; exact hz) hA.handled fun h' u t' k' => ?_
  have e : byteArr (toI ns) = (ns.map fun n => n.toUInt8).toArray := by simp [byteArr, toI]
  rw [e]
  exact hQ h' t' u k'

theorem bitOr_nat (a b : Nat) : Builtin.bitOr (a : Int) (b : Int) = ((a ||| b : Nat) : Int) := by
  unfold Builtin.bitOr Builtin.bitAnd Builtin.bitNot
  rw [decide_eq_false (by omega), decide_eq_false (by omega)]
  have e1 : (-(-(a : Int) - 1) - 1).toNat = a := by omega
  have e2 : (-(-(b : Int) - 1) - 1).toNat = b := by omega
  dsimp only
  rw [e1, e2]
  omega
theorem lc_step (lc b : Nat) (hb : b < 256) : Builtin.bitAnd (Builtin.bitOr ((lc : Int) * 2 ^ (8 : Int).toNat) (b : Int)) 65535 = (((lc * 256 + b) % 65536 : Nat) : Int) := by
  have e1 : (lc : Int) * 2 ^ (8 : Int).toNat = ((lc * 256 : Nat) : Int) := by push_cast; rfl
  have e2 : Builtin.bitOr ((lc * 256 : Nat) : Int) (b : Int) = ((lc * 256 + b : Nat) : Int) := by
    rw [bitOr_nat]
    have := Nat.shiftLeft_add_eq_or_of_lt (i := 8) (b := b) (by simpa using hb) lc
    rw [Nat.shiftLeft_eq] at this
    rw [← this]
  rw [e1, e2, bitAnd_m16]; omega
theorem sg_step (lc n : Nat) (hn : 6 ≤ n) : Builtin.bitAnd ((lc : Int).fdiv (2 ^ ((n : Int) - 6).toNat)) 63 = ((lc / 2 ^ (n - 6) % 64 : Nat) : Int) := by
  rw [bitAnd_m6, show ((n : Int) - 6).toNat = n - 6 by omega]
  rw [Int.fdiv_eq_ediv_of_nonneg _ (Int.le_of_lt (kbt_pos _)), ← kbt_cast]
  omega
end

-- MY
theorem emit_len (lc n : Nat) : (emit lc n).1.length * 6 + (emit lc n).2 = n := by
  fun_induction emit lc n with
  | case1 n hn ih => simp only [List.length_cons]; omega
  | case2 n hn => simp
theorem sgnN_lt (k : Nat) (h : k < 64) : sgnN k < 256 := by unfold sgnN; split <;> (try split) <;> (try split) <;> (try split) <;> omega
theorem emit_lt (lc n : Nat) : ∀ x ∈ (emit lc n).1, x < 256 := by
  fun_induction emit lc n with
  | case1 n hn ih =>
    intro x hx
    rcases List.mem_cons.mp hx with rfl | hx
    · exact sgnN_lt _ (Nat.mod_lt _ (by decide))
    · exact ih x hx
  | case2 n hn => intro x hx; cases hx
def bfold (bl : List UInt8) : BSt := bl.foldl bstep ⟨[], 0, 0⟩
theorem bfold_snoc (bl : List UInt8) (b : UInt8) : bfold (bl ++ [b]) = bstep (bfold bl) b := by simp [bfold]
theorem bfold_aux : ∀ (bl : List UInt8) (st : BSt), (bl.foldl bstep st).out.length * 6 + (bl.foldl bstep st).lb = st.out.length * 6 + st.lb + 8 * bl.length
  | [], st => by simp
  | b :: bl, st => by
    rw [List.foldl_cons, bfold_aux bl]
    have := emit_len ((st.lc * 256 + b.toNat) % 65536) (st.lb + 8)
    simp only [bstep, List.length_append, List.length_cons]
    omega
theorem bfold_len (bl : List UInt8) : (bfold bl).out.length * 6 + (bfold bl).lb = 8 * bl.length := by
  have := bfold_aux bl ⟨[], 0, 0⟩
  simpa [bfold] using this
theorem bfold_lt_aux : ∀ (bl : List UInt8) (st : BSt), (∀ x ∈ st.out, x < 256) → ∀ x ∈ (bl.foldl bstep st).out, x < 256
  | [], st, h => h
  | b :: bl, st, h => by
    rw [List.foldl_cons]
    refine bfold_lt_aux bl _ fun x hx => ?_
    rcases List.mem_append.mp hx with hx | hx
    · exact h x hx
    · exact emit_lt _ _ x hx
theorem bfold_lt (bl : List UInt8) : ∀ x ∈ (bfold bl).out, x < 256 := bfold_lt_aux bl _ (fun x hx => nomatch hx)
theorem bfold_lc_aux : ∀ (bl : List UInt8) (st : BSt), st.lc < 65536 → (bl.foldl bstep st).lc < 65536
  | [], st, h => h
  | b :: bl, st, h => by rw [List.foldl_cons]; exact bfold_lc_aux bl _ (Nat.mod_lt _ (by decide))
theorem bfold_lc (bl : List UInt8) : (bfold bl).lc < 65536 := bfold_lc_aux bl _ (by decide)
theorem one_of_set {a : Addr} {xs : List Value} : noN.set a xs = one a xs := by
  funext b; unfold Mu.set one noN; rfl
section
variable {prog : Program} {w : World} {A : Around} {E : Value → Shared → Prop} {s : Shared} {h : Heap} {t : Nat} {env : Env}
  {mg mb : Lc} {H : Heap}
abbrev baInv (h : Heap) (a : Addr) (bl : List UInt8) (i : Nat) (B' : Mp) (N' : Mu) (m' : Lc) : Prop :=
  B' = h.get? ∧ ∃ vs, N' = one a vs ∧ IntsAre vs (toI (bfold (bl.take i)).out) ∧ m' "out" = some (.ref a) ∧ m' "newline" = some (.bool false) ∧ HasInt m' "leftbits" (bfold (bl.take i)).lb ∧ HasInt m' "leftchar" (bfold (bl.take i)).lc
abbrev baMid (H h : Heap) (X' : Mp) (a L : Addr) (st : BSt) (lc i n : Nat) (h' : Heap) : Prop :=
  ∃ vs os m', Fm H X' h.get? (one a vs) L m' h' ∧ IntsAre vs (toI os) ∧ m' "out" = some (.ref a) ∧ m' "newline" = some (.bool false) ∧ HasInt m' "leftbits" n ∧ HasInt m' "leftchar" lc ∧
      os.length * 6 + n = 8 * (i + 1) ∧ os ++ (emit lc n).1 = st.out ++ (emit lc (st.lb + 8)).1 ∧ (emit lc n).2 = (emit lc (st.lb + 8)).2
theorem b2a_spec {Q : Value → Shared → Prop} {bl : List UInt8} {u : Tok} (amb : Amb w mg mb H) (hA : Rm 2 A) (top : Kp H h) (hz : bl.length ≤ 1000) (hfin : (bfold bl).lb = 0)
    (hQ : ∀ h' t' u', Kp h h' → Q (.bytes ((bfold bl).out.map fun n => n.toUInt8).toArray u') (S s h' t')) : wpAny (model prog w) A (call (.ref 71) [.bytes bl.toArray u] [("newline", .bool false)]) Q E (S s h t) := by
  refine call_fn [("data", .bytes bl.toArray u), ("newline", .bool false)] amb hA top rfl rfl (BindsTo.of_eq rfl) ?_
  intro L h₁ t₁ hL hns hk hA'
  have F := Fm.entry top hL hns hk
  simp only [bnd, List.foldl] at F
  generalize A.deeper _ = A' at hA' ⊢
  clear hns hA
  repeat walk_at "ms"
  refine buffer_spec amb (hA'.le (by omega)) F.tops ?_
  intro h2 t2 k2
  have F2 := F.ext k2
  repeat walk_at "ms"
  refine truth_spec amb (hA'.le (by omega)) (Fm.tops (by assumption)) ?_
  intro h3 t3 k3
  rename_i F2' 
  have F3 := F2'.ext k3
  repeat walk_at "ms"
  refine mk_list (by simp) ?_
  intro a h4 f4 k4 l4
  rename_i F3'
  have F4 := F3'.learnN k4 f4 l4
  rw [one_of_set] at F4
  clear F F2 F2' F3 F3'
  repeat walk_at "ms"
  refine wpAny_For ?_
  repeat walk_at "ms"
  refine pit_bytes ?_
  intro I h5 o5 f5 k5 ho5 hst5
  refine for_loop itr_bytes hA'.handled (by assumption) f5 k5 ho5 hst5 (fun _ _ => trivial)
    (baInv h a bl)
    ⟨rfl, [], rfl, .nil, by walk_at "lk", by walk_at "lk", HasInt.of (i := 0) ⟨_, by walk_at "lk"⟩ rfl, HasInt.of (i := 0) ⟨_, by walk_at "lk"⟩ rfl⟩ ?_ ?_
  · rintro i X' B' N' m' h6 t6 v hi - ⟨rfl, vs, rfl, hvs, m1, m2, ⟨u3, m3⟩, ⟨u4, m4⟩⟩ ⟨c, q, hc, rfl⟩ F6
    have hlc := bfold_lc (bl.take i)
    have hi' : i < bl.length := by simpa using hi
    have hcb : bl[i]? = some c := by simpa using hc
    have htk : bl.take (i + 1) = bl.take i ++ [c] := by rw [List.take_add_one, hcb]; rfl
    have hlen := bfold_len (bl.take i)
    rw [List.length_take, Nat.min_eq_left (by omega)] at hlen
    generalize hst : bfold (bl.take i) = st at *
    repeat walk_at "ms"
    refine op_shl (by decide) (by decide) (by omega) ?_; intro _ _
    repeat walk_at "ms"
    refine op_or ?_; intro _ _
    repeat walk_at "ms"
    refine op_and ?_; intro _ _
    rw [lc_step _ _ c.toNat_lt]
    repeat walk_at "ms"
    generalize hlc' : (st.lc * 256 + c.toNat) % 65536 = lc at *
    have hlcl : lc < 65536 := by rw [← hlc']; exact Nat.mod_lt _ (by decide)
    have hbs : bfold (bl.take (i + 1)) = ⟨st.out ++ (emit lc (st.lb + 8)).1, (emit lc (st.lb + 8)).2, lc⟩ := by
      rw [htk, bfold_snoc, hst]; simp only [bstep, hlc']
    refine ex_while (I := baMid H h X' a L st lc i) (st.lb + 8)
      ⟨vs, st.out, _, by assumption, hvs, by walk_at "lk", by walk_at "lk", HasInt.of ⟨_, by walk_at "lk"⟩ (by omega), ⟨_, by walk_at "lk"⟩, by omega, rfl, rfl⟩ ?_
    rintro n h7 t7 ⟨ws, os, m7, F7, hws, n1, n2, ⟨v3, n3⟩, ⟨v4, n4⟩, hol, hoe, hor⟩
    repeat walk_at "ms"
    refine split_bool (fun hc => ?_) (fun hc => ?_)
    · have hc' : 6 ≤ n := by have := of_decide_eq_true hc; omega
      have hem : emit lc n = (sgnN (lc / 2 ^ (n - 6) % 64) :: (emit lc (n - 6)).1, (emit lc (n - 6)).2) := by conv => lhs; rw [emit]; rw [if_pos hc']
      repeat walk_at "ms"
      refine meth_append (F7.own _ _ one_same) ?_
      repeat walk_at "ms"
      refine op_shr (by omega) ?_; intro _ _
      repeat walk_at "ms"
      refine op_and ?_; intro _ _
      rw [sg_step _ _ hc']
      have hsl : lc / 2 ^ (n - 6) % 64 < 64 := Nat.mod_lt _ (by decide)
      refine sub_bytes (by omega) (by rw [show b64tab.length = 64 from by decide]; omega) (by decide) ?_
      intro u8 t8
      rw [Int.toNat_natCast, b64tab_get hsl]
      repeat walk_at "ms"
      refine append_lst F7 one_same (by rw [hws.length, toI_len]; omega) ?_
      intro h8 F8
      rw [one_set] at F8
      dsimp only
      repeat walk_at "ms"
      refine ⟨n - 6, _, _, rfl, by omega, _, os ++ [sgnN (lc / 2 ^ (n - 6) % 64)], _, by assumption, ?_, by walk_at "lk", by walk_at "lk", HasInt.of ⟨_, by walk_at "lk"⟩ (by omega), ⟨_, by walk_at "lk"⟩, ?_, ?_, ?_⟩
      · rw [toI_snoc]; exact ints_snoc rfl hws
      · simp only [List.length_append, List.length_singleton]; omega
      · rw [← hoe, hem]; simp
      · rw [← hor, hem]
    · have hc' : ¬ 6 ≤ n := by have := of_decide_eq_false hc; omega
      have hem : emit lc n = ([], n) := by conv => lhs; rw [emit]; rw [if_neg hc']
      repeat walk_at "ms"
      rw [hem] at hoe hor
      simp only [List.append_nil] at hoe hor
      refine ⟨.inl rfl, _, _, _, _, _, rfl, Mp.le.refl _, F7, rfl, ws, rfl, ?_, n1, n2, ?_, ?_⟩
      · rw [hbs, ← hoe]; exact hws
      · rw [hbs, ← hor]; exact ⟨v3, n3⟩
      · rw [hbs]; exact ⟨v4, n4⟩
  · rintro B' N' m' h6 t6 - ⟨rfl, vs, rfl, hvs, m1, m2, ⟨u3, m3⟩, ⟨u4, m4⟩⟩ F6
    rw [show bl.toArray.size = bl.length from by simp, List.take_length] at hvs m3 m4
    rw [hfin] at m3
    repeat walk_at "ms"
    refine wpAny_If ?_
    repeat walk_at "ms"
    refine split_bool (fun hh => absurd hh (by decide)) (fun _ => ?_)
    repeat walk_at "ms"
    refine wpAny_If ?_
    repeat walk_at "ms"
    refine split_bool (fun hh => absurd hh (by decide)) (fun _ => ?_)
    repeat walk_at "ms"
    refine wpAny_If ?_
    repeat walk_at "ms"
    refine split_bool (fun hh => absurd hh (by decide)) (fun _ => ?_)
    repeat walk_at "ms"
    have hlen := bfold_len bl
    refine mk_bytes hA' (F6.lst one_same) hvs (bfold_lt bl) (by omega) ?_
    intro h7 t7 u7 k7
    exact hQ _ _ _ ((F6.exit (Mp.le.refl _)).trans k7)
end

-- MZ
theorem seq_list_iadd : seqSlot? (.type "list") (dunderI "add") = pure (some (.builtin "list.__iadd__")) := PySem.seqSlot_of PySem.F.slot_list_iadd.lookup (by decide +kernel)
theorem fills_list_iadd : fillsInplaceSlot (.type "list") "add" true = pure false := by
  unfold fillsInplaceSlot
  dsimp only
  rw [PySem.F.slot_list_iadd.lookup]
  rfl
section
variable {prog : Program} {w : World} {A : Around} {E : Value → Shared → Prop} {s : Shared} {h : Heap} {t : Nat} {env : Env}
  {mg mb : Lc} {H : Heap} {X B : Mp} {N : Mu} {L : Addr} {m : Lc}

theorem iadd_list {a b : Addr} {xs ys : List Value} {Q : Value → Shared → Prop} (F : Fm H X B N L m h) (e : N a = some xs) (hb : h.PlainList b ys.toArray) (hz : xs.length + ys.length ≤ 16777216)
    (hQ : ∀ h', Fm H X B (N.set a (xs ++ ys)) L m h' → Q (.ref a) (S s h' t)) : wpAny (model prog w) A (inplaceOp .Add (.ref a) (.ref b)) Q E (S s h t) := by
  obtain ⟨n, ha⟩ := F.own _ _ e
  obtain ⟨n2, hb'⟩ := hb
  have hTa : (S s h t).TypeIs (.ref a) "list" := ⟨_, ha, rfl⟩
  have hTb : (S s h t).TypeIs (.ref b) "list" := ⟨_, hb', rfl⟩
  unfold inplaceOp
  refine wpAny_holding ?_
  refine wpAny_bind (wpAny_typeOf hTa ?_)
  show wpAny _ _ (fillsInplaceSlot (.type "list") "add" true >>= _) _ _ _
  refine wpAny_bind (wpAny_of_eq fills_list_iadd ?_)
  simp only [Bool.false_eq_true, if_false]
  refine wpAny_bind (wpAny_binaryOp1_none hTa hTb noFill_list_add ?_)
  show wpAny _ _ (seqSlot? (.type "list") (dunderI "add") >>= _) _ _ _
  refine wpAny_bind (wpAny_of_eq seq_list_iadd ?_)
  refine wpAny_bind (wpAny_rule ?_)
  refine call_meets PySem.F.slot_list_iadd hTa PySem.F.entry_list_iadd (PySem.F.args_list_iadd_2 _ _)
    (AutoSeq1.list___iadd___list_list_0 a xs.toArray n b ys.toArray n2 ?_ ?_ ?_) ⟨ha, hb', ?_⟩
  · have : Builtin.List.listTooLong (xs.toArray.size + ys.toArray.size) = false := by
      simp only [List.size_toArray]
      unfold Builtin.List.listTooLong
      simpa [sizeLine] using hz
    rw [this]; simp
  · simp [sizeLine]; omega
  · simp [sizeLine]; omega
  · have q := IsL.update (h := h) ha (fun x => x ++ ys.toArray)
    rw [show xs.toArray ++ ys.toArray = (xs ++ ys).toArray by simp] at q
    exact hQ _ (F.extBut e (Heap.SameBut.update ..).extBut ⟨_, q⟩)
theorem callWith_fn_kw {pos : Pos} {f : Addr} {o : Obj} {fd : FuncData} {args : List (Bool × Sem Value)} {keywords : List (Option Str × Sem Value)} {Q : Value → Shared → Prop} (amb : Amb w mg mb H)
    (ho : (KF w).lookup f = some o) (hdat : o.data = .func fd)
    (hQ : wpAny (model prog w) A (evalArgs (.ref f) true args keywords) (fun x s₁ => Kp H s₁.heap ∧ wpAny (model prog w) A (call (.ref f) x.pos x.kw) Q E s₁) E (S s h t)) :
    wpAny (model prog w) A (callWith pos (.ref f) [] args keywords) Q E (S s h t) :=
  callWith_def_kw hdat (wpAny_mono hQ (fun _ _ x => ⟨x.1 _ _ (amb.K _ _ ho), x.2⟩) fun _ _ x => x)

theorem b64_spec {Q : Value → Shared → Prop} {bl : List UInt8} {u : Tok} (amb : Amb w mg mb H) (hA : Rm 3 A) (top : Kp H h) (hz : bl.length ≤ 1000) (hfin : (bfold bl).lb = 0)
    (hQ : ∀ h' t' u', Kp h h' → Q (.bytes ((bfold bl).out.map fun n => n.toUInt8).toArray u') (S s h' t')) : wpAny (model prog w) A (call (.ref 79) [.bytes bl.toArray u]) Q E (S s h t) := by
  refine call_fn [("s", .bytes bl.toArray u), ("altchars", .none)] amb hA top rfl rfl (BindsTo.of_defaults rfl (top _ _ (amb.K 72 _ rfl)) rfl rfl rfl) ?_
  intro L h₁ t₁ hL hns hk hA'
  have F := Fm.entry top hL hns hk
  simp only [bnd, List.foldl] at F
  generalize A.deeper _ = A' at hA' ⊢
  clear hns hA
  repeat walk_at "ms"
  refine wpAny_Call_Name_kw ?_
  repeat walk_at "ms"
  refine callWith_fn_kw amb rfl rfl ?_
  refine evalArgs_kw2 rfl ?_
  repeat walk_at "ms"
  refine kwAll_cons ?_
  repeat walk_at "ms"
  refine kwAll_nil ?_
  repeat walk_at "ms"
  refine b2a_spec amb hA' F.tops hz hfin ?_
  intro h2 t2 u2 k2
  have F2 := F.ext k2
  repeat walk_at "ms"
  refine wpAny_If ?_
  repeat walk_at "ms"
  refine isNot_plain rfl ?_
  repeat walk_at "ms"
  refine split_bool (fun hh => absurd hh (by decide)) (fun _ => ?_)
  repeat walk_at "ms"
  exact hQ _ _ _ (Fm.exit (by assumption) (Mp.le.refl _))
end

-- NA
def octN (v : Nat) : List Nat := [v / 65536, v / 256 % 256, v % 256]
def octs (ns : List Nat) : List Nat := ns.flatMap octN
def quad (v : Nat) : List Nat := [sgnN (v / 262144), sgnN (v / 4096 % 64), sgnN (v / 64 % 64), sgnN (v % 64)]
def qtext (ns : List Nat) : List UInt8 := (ns.flatMap quad).map fun n => n.toUInt8
theorem octs_snoc (ns : List Nat) (v : Nat) : octs (ns ++ [v]) = octs ns ++ octN v := by simp [octs]
theorem octs_len (ns : List Nat) : (octs ns).length = 3 * ns.length := by
  induction ns with
  | nil => rfl
  | cons v ns ih => simp only [octs, List.flatMap_cons, List.length_append, List.length_cons] at ih ⊢; rw [ih]; simp [octN]; omega
theorem octs_lt (ns : List Nat) (h : ∀ n ∈ ns, n < 16777216) : ∀ x ∈ octs ns, x < 256 := by
  intro x hx
  obtain ⟨v, hv, hx⟩ := List.mem_flatMap.mp hx
  have := h v hv
  simp only [octN, List.mem_cons, List.not_mem_nil, or_false] at hx
  omega
theorem emit8 (lc : Nat) : emit lc 8 = ([sgnN (lc / 4 % 64)], 2) := by
  rw [emit, if_pos (by decide), emit, if_neg (by decide)]
theorem emit10 (lc : Nat) : emit lc 10 = ([sgnN (lc / 16 % 64)], 4) := by
  rw [emit, if_pos (by decide), emit, if_neg (by decide)]
theorem emit12 (lc : Nat) : emit lc 12 = ([sgnN (lc / 64 % 64), sgnN (lc % 64)], 0) := by
  rw [emit, if_pos (by decide), emit, if_pos (by decide), emit, if_neg (by decide)]
  simp
theorem three_steps (st : BSt) (v : Nat) (hv : v < 16777216) (h0 : st.lb = 0) :
    ∃ c, ((octN v).map fun n => n.toUInt8).foldl bstep st = ⟨st.out ++ quad v, 0, c⟩ := by
  have t1 : (v / 65536).toUInt8.toNat = v / 65536 := by simp; omega
  have t2 : (v / 256 % 256).toUInt8.toNat = v / 256 % 256 := by simp
  have t3 : (v % 256).toUInt8.toNat = v % 256 := by simp
  simp only [octN, List.map_cons, List.map_nil, List.foldl_cons, List.foldl_nil, bstep, t1, t2, t3, h0, Nat.zero_add, Nat.reduceAdd, emit8, emit10, emit12, List.append_assoc, List.cons_append, List.nil_append]
  refine ⟨_, BSt.mk.injEq .. |>.mpr ⟨?_, rfl, rfl⟩⟩
  simp only [quad]
  have e1 : (st.lc * 256 + v / 65536) % 65536 / 4 % 64 = v / 262144 := by omega
  have e2 : (((st.lc * 256 + v / 65536) % 65536) * 256 + v / 256 % 256) % 65536 / 16 % 64 = v / 4096 % 64 := by omega
  have e3 : (((((st.lc * 256 + v / 65536) % 65536) * 256 + v / 256 % 256) % 65536) * 256 + v % 256) % 65536 / 64 % 64 = v / 64 % 64 := by omega
  have e4 : (((((st.lc * 256 + v / 65536) % 65536) * 256 + v / 256 % 256) % 65536) * 256 + v % 256) % 65536 % 64 = v % 64 := by omega
  rw [e1, e2, e3, e4]
theorem bfold_octs_aux : ∀ (ns : List Nat) (st : BSt), (∀ n ∈ ns, n < 16777216) → st.lb = 0 → ∃ c, ((octs ns).map fun n => n.toUInt8).foldl bstep st = ⟨st.out ++ ns.flatMap quad, 0, c⟩
  | [], st, _, h0 => ⟨st.lc, by obtain ⟨o, l, c⟩ := st; simp at h0; subst h0; simp [octs]⟩
  | v :: ns, st, hn, h0 => by
    obtain ⟨c, hc⟩ := three_steps st v (hn v (List.mem_cons_self ..)) h0
    obtain ⟨c', hc'⟩ := bfold_octs_aux ns ⟨st.out ++ quad v, 0, c⟩ (fun n h => hn n (List.mem_cons_of_mem _ h)) rfl
    refine ⟨c', ?_⟩
    simp only [octs, List.flatMap_cons, List.map_append, List.foldl_append] at hc' ⊢
    rw [hc, hc']
    simp
theorem bfold_octs (ns : List Nat) (h : ∀ n ∈ ns, n < 16777216) : ∃ c, bfold ((octs ns).map fun n => n.toUInt8) = ⟨ns.flatMap quad, 0, c⟩ := by
  obtain ⟨c, hc⟩ := bfold_octs_aux ns ⟨[], 0, 0⟩ h rfl
  exact ⟨c, by simpa [bfold] using hc⟩
theorem ints_append {ys : List Value} {ms : List Int} (hy : IntsAre ys ms) : ∀ {vs : List Value} {ns : List Int}, IntsAre vs ns → IntsAre (vs ++ ys) (ns ++ ms)
  | _, _, .nil => hy
  | _, _, .cons _ _ h => .cons _ _ (ints_append hy h)
theorem fdivN (n k : Nat) : (n : Int).fdiv (k : Int) = ((n / k : Nat) : Int) := by
  rw [Int.fdiv_eq_ediv_of_nonneg _ (by omega)]; rfl
theorem fmodN (n k : Nat) : (n : Int).fmod (k : Int) = ((n % k : Nat) : Int) := by
  rw [Int.fmod_eq_emod_of_nonneg _ (by omega)]; rfl

section
variable {prog : Program} {w : World} {A : Around} {E : Value → Shared → Prop} {s : Shared} {h : Heap} {t : Nat} {env : Env}
  {mg mb : Lc} {H : Heap}
abbrev txInv (h : Heap) (a : Addr) (ns : List Nat) (i : Nat) (B' : Mp) (N' : Mu) (m' : Lc) : Prop :=
  B' = h.get? ∧ ∃ ws, N' = one a ws ∧ IntsAre ws (toI (octs (ns.take i))) ∧ m' "octets" = some (.ref a)
theorem text_spec {Q : Value → Shared → Prop} {l : Addr} {vs : List Value} {ns : List Nat} (amb : Amb w mg mb H) (hA : Rm 4 A) (top : Kp H h) (hl : h.IsList l vs.toArray) (hi : IntsAre vs (toI ns)) (hn : ∀ n ∈ ns, n < 16777216) (hz : ns.length ≤ 300)
    (hQ : ∀ h' t' u', Kp h h' → Q (.bytes (qtext ns).toArray u') (S s h' t')) : wpAny (model prog w) A (call (.ref 91) [.ref l]) Q E (S s h t) := by
  refine call_fn [("values", .ref l)] amb hA top rfl rfl (BindsTo.of_eq rfl) ?_
  intro L h₁ t₁ hL hns hk hA'
  have F := Fm.entry top hL hns hk
  simp only [bnd, List.foldl] at F
  generalize A.deeper _ = A' at hA' ⊢
  clear hns hA
  have hvl : vs.length = ns.length := by rw [hi.length, toI_len]
  repeat walk_at "ms"
  refine mk_list (by simp) ?_
  intro a h2 f2 k2 l2
  have F2 := F.learnN k2 f2 l2
  rw [one_of_set] at F2
  clear F
  repeat walk_at "ms"
  refine wpAny_For ?_
  repeat walk_at "ms"
  rename_i F3
  refine pit_list (hl.at fun o e => F3.keep _ _ e) ?_
  intro I h5 o5 f5 k5 ho5 hst5
  refine for_loop itr_list hA'.handled F3 f5 k5 ho5 hst5 (fun h' hh => hl.at fun o e => hh _ _ e)
    (txInv h a ns)
    ⟨rfl, [], rfl, .nil, by walk_at "lk"⟩ ?_ ?_
  · rintro i X' B' N' m' h6 t6 v hi6 - ⟨rfl, ws, rfl, hws, m1⟩ hv6 F6
    obtain ⟨n, q, rfl, hn6⟩ := IntsAre.at hi i v hv6
    obtain ⟨n, hnn, rfl⟩ : ∃ k : Nat, ns[i]? = some k ∧ (k : Int) = n := by
      simp only [toI, List.getElem?_map, Option.map_eq_some_iff] at hn6; exact hn6
    have hlt := hn n (List.mem_of_getElem? hnn)
    have htk : ns.take (i + 1) = ns.take i ++ [n] := by rw [List.take_add_one, hnn]; rfl
    repeat walk_at "ms"
    refine op_fdiv (by decide) (by decide +kernel) ?_; intro _ _
    repeat walk_at "ms"
    refine op_fdiv (by decide) (by decide +kernel) ?_; intro _ _
    repeat walk_at "ms"
    refine op_mod (by decide) ?_; intro _ _
    repeat walk_at "ms"
    refine op_mod (by decide) ?_; intro _ _
    repeat walk_at "ms"
    rw [show (n : Int).fdiv 65536 = ((n / 65536 : Nat) : Int) from fdivN n 65536, show (n : Int).fdiv 256 = ((n / 256 : Nat) : Int) from fdivN n 256,
      show ((n / 256 : Nat) : Int).fmod 256 = ((n / 256 % 256 : Nat) : Int) from fmodN _ 256, show (n : Int).fmod 256 = ((n % 256 : Nat) : Int) from fmodN n 256]
    refine mk_list (by simp) ?_
    intro b h7 f7 k7 l7
    have F7 := F6.ext k7
    refine iadd_list F7 one_same l7 (by rw [hws.length, toI_len, octs_len, List.length_take]; simp; omega) ?_
    intro h8 F8
    rw [one_set] at F8
    repeat walk_at "ms"
    refine ⟨.inl rfl, _, _, _, _, _, rfl, Mp.le.refl _, by assumption, rfl, _, rfl, ?_, by walk_at "lk"⟩
    rw [htk, octs_snoc, toI, List.map_append]
    exact ints_append (.cons _ _ (.cons _ _ (.cons _ _ .nil))) hws
  · rintro B' N' m' h6 t6 - ⟨rfl, ws, rfl, hws, m1⟩ F6
    rw [hvl, List.take_length] at hws
    obtain ⟨c, hc⟩ := bfold_octs ns hn
    repeat walk_at "ms"
    refine mk_bytes hA' (F6.lst one_same) hws (octs_lt ns hn) (by rw [octs_len]; omega) ?_
    intro h7 t7 u7 k7
    have F7 := F6.ext k7
    repeat walk_at "ms"
    refine b64_spec amb hA' F7.tops (by rw [List.length_map, octs_len]; omega) (by rw [hc]) ?_
    intro h8 t8 u8 k8
    rw [hc]
    exact hQ _ _ _ ((F7.exit (Mp.le.refl _)).trans k8)
end

-- NB
theorem Mp.set_comm (X : Mp) {a b : Addr} (h : a ≠ b) (o o' : Obj) : (X.set a o).set b o' = (X.set b o').set a o := by
  funext c; unfold Mp.set; by_cases h1 : c = a <;> by_cases h2 : c = b <;> simp_all
section
variable {prog : Program} {w : World} {A : Around} {E : Value → Shared → Prop} {s : Shared} {h : Heap} {t : Nat} {env : Env}
  {mg mb : Lc} {H : Heap} {X B : Mp} {N : Mu} {L : Addr} {m : Lc}

theorem Fm.switch {h' : Heap} {C : Addr} {mC : Lc} (F : Fm H X B N L m h) (hC : h.get? C = none) (k : Kp h h') (ns : h'.Ns C mC) : ∃ oL, h.get? L = some oL ∧ Fm H (X.set L oL) B N C mC h' := by
  obtain ⟨oL, es, ep, hoL, hd, hr⟩ := id F.ns
  have hCL : C ≠ L := F.freshL hC
  refine ⟨oL, hoL, ?_⟩
  exact {
    ns := ns
    top := F.top
    held := fun b o q => by
      by_cases hb : b = L
      · subst hb; rw [Mp.set_same] at q; cases q; exact k _ _ hoL
      · rw [Mp.set_ne hb] at q; exact k b o (F.held b o q)
    heldL := by rw [Mp.set_ne hCL]; exact F.freshX hC
    heldB := fun b o q => by
      by_cases hb : b = L
      · subst hb; exact F.keepL
      · rw [Mp.set_ne hb] at q; exact F.heldB b o q
    keep := fun b o q => k b o (F.keep b o q)
    keepL := F.freshB hC
    own := fun a xs e => (F.own a xs e).at (k a)
    ownX := fun a xs e => by rw [Mp.set_ne (F.ownL e)]; exact F.ownX a xs e
    ownB := F.ownB }
theorem Fm.back {h' h'' : Heap} {C : Addr} {mC : Lc} {oL : Obj} {X' B' : Mp} {N' : Mu} (F : Fm H X B N L m h) (hoL : h.get? L = some oL) (F' : Fm H (X'.set L oL) B' N' C mC h') (hX : X' L = none) (hs : Heap.SameBut C h' h'') :
    Fm H X' B' N' L m h'' := by
  have hL : (X'.set L oL) L = some oL := Mp.set_same
  have hCL : C ≠ L := by rintro rfl; rw [F'.heldL] at hL; cases hL
  have up : ∀ b o, X' b = some o → (X'.set L oL) b = some o := fun b o q => by rw [Mp.set_ne (by rintro rfl; rw [hX] at q; cases q)]; exact q
  exact {
    ns := by
      obtain ⟨o, es, ep, ho, r⟩ := F.ns
      rw [hoL] at ho; cases ho
      exact ⟨oL, es, ep, hs.extBut _ _ (Ne.symm hCL) (F'.held _ _ hL), r⟩
    top := F'.top
    held := fun b o q => hs.extBut b o (by rintro rfl; have := up _ _ q; rw [F'.heldL] at this; cases this) (F'.held b o (up b o q))
    heldL := hX
    heldB := fun b o q => F'.heldB b o (up b o q)
    keep := fun b o q => hs.extBut b o (by rintro rfl; rw [F'.keepL] at q; cases q) (F'.keep b o q)
    keepL := F'.heldB _ _ hL
    own := fun a xs e => (F'.own a xs e).extBut hs.extBut (F'.ownL e)
    ownX := fun a xs e => by
      cases q : X' a with
      | none => rfl
      | some o => have := up _ _ q; rw [F'.ownX _ _ e] at this; cases this
    ownB := F'.ownB }
/-- a thing that stands and is nobody's: still from now on -/
theorem Fm.adopt (F : Fm H X B N L m h) {a : Addr} {o : Obj} (ho : h.get? a = some o) (hX : X a = none) (hB : B a = none) (hN : N a = none) (hL : a ≠ L) : Fm H X (B.set a o) N L m h where
  ns := F.ns
  top := fun b o' q => by
    have := F.top b o' q
    rw [Mp.set_ne (by rintro rfl; rw [hB] at this; cases this)]; exact this
  held := F.held
  heldL := F.heldL
  heldB := fun b o' q => by rw [Mp.set_ne (by rintro rfl; rw [hX] at q; cases q)]; exact F.heldB b o' q
  keep := fun b o' q => by
    by_cases hb : b = a
    · subst hb; rw [Mp.set_same] at q; cases q; exact ho
    · rw [Mp.set_ne hb] at q; exact F.keep b o' q
  keepL := by rw [Mp.set_ne (Ne.symm hL)]; exact F.keepL
  own := F.own
  ownX := F.ownX
  ownB := fun b xs q => by rw [Mp.set_ne (by rintro rfl; rw [hN] at q; cases q)]; exact F.ownB b xs q
theorem Fm.adoptN (F : Fm H X B N L m h) {a : Addr} {xs : List Value} (ho : h.PlainList a xs.toArray) (hX : X a = none) (hB : B a = none) : Fm H X B (N.set a xs) L m h where
  ns := F.ns
  top := F.top
  held := F.held
  heldL := F.heldL
  heldB := F.heldB
  keep := F.keep
  keepL := F.keepL
  own := fun b zs q => by
    by_cases hb : b = a
    · subst hb; rw [Mu.set_same] at q; cases q; exact ho
    · rw [Mu.set_ne hb] at q; exact F.own b zs q
  ownX := fun b zs q => by
    by_cases hb : b = a
    · subst hb; exact hX
    · rw [Mu.set_ne hb] at q; exact F.ownX b zs q
  ownB := fun b zs q => by
    by_cases hb : b = a
    · subst hb; exact hB
    · rw [Mu.set_ne hb] at q; exact F.ownB b zs q
theorem le_set {B : Mp} {a : Addr} {o : Obj} (hB : B a = none) : B.le (B.set a o) := fun b o' q => by
  rw [Mp.set_ne (by rintro rfl; rw [hB] at q; cases q)]; exact q

/-- what a comprehension's own environment is -/
abbrev cEnv (scope : Scope) (cl : List (Str × Addr)) (C : Addr) (env : Env) : Env := compEnvC scope cl C env
def lstObj (ys : List Value) (n : Nat) : Obj := { cls := .type "list", data := .seq ys.toArray n }

abbrev CPost (H : Heap) (X B : Mp) (C : Addr) (mC : Lc) (s : Shared) (J : Mp → Mu → List Value → Prop) (ys : List Value) (s₄ : Shared) : Prop :=
  ∃ B'' N'' h' t', s₄ = S s h' t' ∧ B.le B'' ∧ Fm H X B'' N'' C mC h' ∧ J B'' N'' ys
theorem comp_core {I : Addr} {P : Heap → Prop} {n : Nat} {val : Nat → Value → Prop} {st : Nat → Obj → Prop} {elt iter : Expr} {x : Str} {px pos : Pos} {ifs : List Expr} {scope : Scope} {cl : List (Str × Addr)} {h₀ : Heap} {o : Obj} {RR : Value → Addr → Result → Shared → Prop}
    (it : Itr prog w I P n val st) (hh : A.handled = none) (F : Fm H X B N L m h₀) (fresh : h₀.get? I = none) (k : Kp h₀ h) (ho : h.get? I = some o) (hst : st 0 o)
    (hP : ∀ h' : Heap, (∀ b o, B b = some o → h'.get? b = some o) → P h') (J : Nat → Mp → Mu → List Value → Prop) (J0 : J 0 B N [])
    (hz : ∀ i B' N' ys, J i B' N' ys → ys.length ≤ 1000000)
    (turn : ∀ i X' B' N' C mC ys h t v, i < n → B.le B' → J i B' N' ys → val i v → mC x = some v → Fm H X' B' N' C mC h →
      wpAny (model prog w) A (forIn ifs true fun c r => if r = true then do let ok ← isTrue c (cEnv scope cl C env) (eval c (cEnv scope cl C env)); pure (ForInStep.yield ok) else pure (ForInStep.yield r)) (fun ok s₃ =>
        if ok = true then wpAny (model prog w) A (eval elt (cEnv scope cl C env)) (fun y s₄ => CPost H X' B' C mC s (J (i + 1)) (ys ++ [y]) s₄) noE s₃
        else CPost H X' B' C mC s (J (i + 1)) ys s₃) noE (S s h t))
    (done : ∀ B' N' ys h t D C e mC oL, h₀.get? L = some oL → B.le B' → J n B' N' ys → D ≠ L → X D = none → h₀.get? D = none → Fm H ((X.set D (lstObj ys e)).set L oL) B' N' C mC h → RR (.ref D) C (.ok .next) (S s h t))
    (hclos : closureFor scope env = pure cl)
    (hcell : ∀ y ∈ scope.names, y.2 ≠ .cell := by decide) (hkind : scope.kind = .function := by rfl) (hx : scope.names.lookup x = some .local := by rfl)
    (hL : env.locals = L := by rfl) :
    wpAny (model prog w) A (newList []) (fun acc s₃ => wpAny (model prog w) A (newFunctionEnv scope env.globals cl [] env.qual none .none (some env)) (fun cenv s₄ =>
      codeAny (model prog w) A (.compStart (.ListComp elt [⟨.Name x px, iter, ifs, 0⟩] scope pos) 0 (.ref I) acc { cenv with scope := relabel scope env }) (RR acc cenv.locals) s₄) noE s₃) noE (S s h t) := by
  have F1 := F.hold k fresh ho
  refine wpAny_newObj_type (wpAny_newFunctionEnv hcell (by intro y hy; simp at hy) (fun h₁ hns₁ hsb₁ => ?_) hkind) (by size_fits)
  dsimp only at hns₁ hsb₁ ⊢
  have hfD : h.get? h.objs.size = none := get?_size h
  generalize hD : h.objs.size = D at *
  have hpl : (h.push { cls := .type "list", dict := none, data := .seq ([] : List Value).toArray }).get? D = some (lstObj [] 0) := by rw [← hD]; exact Heap.get?_push_size _ rfl
  have F2 := F1.hold (Kp.push h _) hfD hpl
  have hfC := get?_size (h.push { cls := .type "list", dict := none, data := .seq ([] : List Value).toArray })
  generalize hH2 : h.push { cls := .type "list", dict := none, data := .seq ([] : List Value).toArray } = H2 at *
  have hkC : Kp H2 h₁ := fun b o e => hsb₁.extBut b o (Nat.ne_of_lt (Heap.lt_size e)) (Heap.get?_push_of_some _ e)
  obtain ⟨oL, hoL, F3⟩ := F2.switch hfC hkC hns₁
  generalize hC : H2.objs.size = C at *
  have hIL : I ≠ L := F.freshL fresh
  have hDL : D ≠ L := F1.freshL hfD
  have hDI : D ≠ I := by rintro rfl; rw [ho] at hfD; cases hfD
  have hXI : X I = none := F.freshX fresh
  have hXD : X D = none := by have := F1.freshX hfD; rwa [Mp.set_ne hDI] at this
  have hD0 : h₀.get? D = none := by
    cases q : h₀.get? D with
    | none => rfl
    | some o => have := k _ _ q; rw [hfD] at this; cases this
  have hoL0 : h₀.get? L = some oL := by
    obtain ⟨o0, _, _, ho0, _⟩ := F.ns
    have h1 : H2.get? L = some o0 := by rw [← hH2]; exact Heap.get?_push_of_some _ (k _ _ ho0)
    rw [hoL] at h1; cases h1; exact ho0
  have loop : ∀ s₀ : Shared, s₀ = S s h₁ (t + ([] : List (Str × Value)).length) →
      codeAny (model prog w) A (.compLoop (.ListComp elt [⟨.Name x px, iter, ifs, 0⟩] scope pos) 0 (.ref I) (.ref D) (cEnv scope cl C env)) (RR (.ref D) C) s₀ := by
    rintro s₀ rfl
    refine codeAny_compLoop_tests (fun j s' => ∃ i h t oI e B' N' mC ys, s' = S s h t ∧ i ≤ n ∧ j = n + 1 - i ∧ Fm H (((X.set I oI).set D (lstObj ys e)).set L oL) B' N' C mC h ∧ st i oI ∧ B.le B' ∧ J i B' N' ys) ?_ (n + 1)
      ⟨0, h₁, _, o, 0, B, N, _, [], rfl, Nat.zero_le _, rfl, F3, hst, Mp.le.refl _, J0⟩
    rintro j s' ⟨i, h', t', oI, e, B', N', mC, ys, rfl, hi, rfl, F', hst', hle, hJ⟩
    have hP' : P h' := hP h' fun b o q => F'.keep b o (hle b o q)
    have hxI : (((X.set I oI).set D (lstObj ys e)).set L oL) I = some oI := by rw [Mp.set_ne hIL, Mp.set_ne (Ne.symm hDI), Mp.set_same]
    have hxD : (((X.set I oI).set D (lstObj ys e)).set L oL) D = some (lstObj ys e) := by rw [Mp.set_ne hDL, Mp.set_same]
    by_cases hlt : i < n
    · refine it.next i hlt hP' (F'.held _ _ hxI) hst' fun h2 t2 v oI' hv ho2 hst2 hs2 => ?_
      have F2' := F'.reheld hxI hs2.extBut ho2
      rw [Mp.set_comm _ (Ne.symm hIL), Mp.set_comm _ hDI, Mp.set_set] at F2'
      refine wpAny_assign_Name (st_local F2' (fun h3 t3 F3' => ?_) rfl hkind (lookup_relabel_local hx))
      refine wpAny_mono (turn i _ B' N' C _ ys h3 t3 v hlt hle hJ hv upd_same F3') (fun ok s₃ hok => ?_) fun _ _ x => x.elim
      cases ok with
      | false =>
        simp only [Bool.false_eq_true, if_false] at hok ⊢
        obtain ⟨B'', N'', h4, t4, rfl, hle4, F4, hJ4⟩ := hok
        exact ⟨n + 1 - (i + 1), by omega, i + 1, h4, t4, oI', e, B'', N'', _, ys, rfl, hlt, rfl, F4, hst2, hle.trans hle4, hJ4⟩
      | true =>
        simp only [if_true] at hok ⊢
        refine wpAny_mono hok (fun y s₄ hy => ?_) fun _ _ x => x.elim
        obtain ⟨B'', N'', h4, t4, rfl, hle4, F4, hJ4⟩ := hy
        have hxD4 : (((X.set I oI').set D (lstObj ys e)).set L oL) D = some (lstObj ys e) := by rw [Mp.set_ne hDL, Mp.set_same]
        refine wpAny_list_append_plain (s := S s h4 t4) ⟨e, F4.held _ _ hxD4⟩ (fun h5 hl5 hs5 => ?_) (by simpa [sizeLine] using Nat.le_trans (hz _ _ _ _ hJ) (by decide))
        obtain ⟨e5, he5⟩ := hl5
        have he5' : h5.get? D = some (lstObj (ys ++ [y]) e5) := by rw [he5]; simp [lstObj]
        have F5 := F4.reheld hxD4 hs5.extBut he5'
        rw [Mp.set_comm _ (Ne.symm hDL), Mp.set_set] at F5
        exact ⟨n + 1 - (i + 1), by omega, i + 1, h5, t4, oI', e5, B'', N'', _, ys ++ [y], rfl, hlt, rfl, F5, hst2, hle.trans hle4, hJ4⟩
    · have hin : i = n := by omega
      subst hin
      refine it.fin hh hP' (F'.held _ _ hxI) hst' fun h2 hs2 => ?_
      have F2' : Fm H ((X.set D (lstObj ys e)).set L oL) B' N' C mC h2 := by
        refine F'.drop hxI hs2 (fun b o q => ?_) ?_
        · by_cases hb : b = L
          · subst hb; rw [Mp.set_same] at q ⊢; exact q
          · rw [Mp.set_ne hb] at q ⊢
            by_cases hb' : b = D
            · subst hb'; rw [Mp.set_same] at q ⊢; exact q
            · rw [Mp.set_ne hb'] at q ⊢
              rw [Mp.set_ne (by rintro rfl; rw [hXI] at q; cases q)]; exact q
        · rw [Mp.set_ne hIL, Mp.set_ne (Ne.symm hDI)]; exact hXI
      exact done B' N' ys h2 t' D C e mC oL hoL0 hle hJ hDL hXD hD0 F2'
  have hoI : h₁.get? I = some o := hkC _ _ (by rw [← hH2]; exact Heap.get?_push_of_some _ ho)
  exact codeAny_compStart_list (loop _ rfl) (it.self 0 hoI hst (loop _ rfl))


theorem Fm.backC {h' : Heap} {C : Addr} {mC : Lc} {oL : Obj} {X' B' : Mp} {N' : Mu} (F : Fm H X B N L m h) (hoL : h.get? L = some oL) (F' : Fm H (X'.set L oL) B' N' C mC h') (hX : X' L = none) :
    ∃ oC, h'.get? C = some oC ∧ X' C = none ∧ Fm H (X'.set C oC) B' N' L m h' := by
  have F1 := Fm.back F hoL F' hX (Heap.SameBut.refl C h')
  have hL : (X'.set L oL) L = some oL := Mp.set_same
  have hCL : C ≠ L := by rintro rfl; rw [F'.heldL] at hL; cases hL
  have hXC : X' C = none := by have := F'.heldL; rwa [Mp.set_ne hCL] at this
  obtain ⟨oC, es, ep, hoC, hd, hr⟩ := id F'.ns
  refine ⟨oC, hoC, hXC, ?_⟩
  exact {
    ns := F1.ns
    top := F1.top
    held := fun b o q => by
      by_cases hb : b = C
      · subst hb; rw [Mp.set_same] at q; cases q; exact hoC
      · rw [Mp.set_ne hb] at q; exact F1.held b o q
    heldL := by rw [Mp.set_ne (Ne.symm hCL)]; exact hX
    heldB := fun b o q => by
      by_cases hb : b = C
      · subst hb; exact F'.keepL
      · rw [Mp.set_ne hb] at q; exact F1.heldB b o q
    keep := F1.keep
    keepL := F1.keepL
    own := F1.own
    ownX := fun a xs e => by rw [Mp.set_ne (F'.ownL e)]; exact F1.ownX a xs e
    ownB := F1.ownB }

theorem comp_loop {I : Addr} {P : Heap → Prop} {n : Nat} {val : Nat → Value → Prop} {st : Nat → Obj → Prop} {elt iter : Expr} {x : Str} {px pos : Pos} {ifs : List Expr} {scope : Scope} {cl : List (Str × Addr)} {h₀ : Heap} {o : Obj} {Q : Value → Shared → Prop}
    (it : Itr prog w I P n val st) (hh : A.handled = none) (F : Fm H X B N L m h₀) (fresh : h₀.get? I = none) (k : Kp h₀ h) (ho : h.get? I = some o) (hst : st 0 o)
    (hP : ∀ h' : Heap, (∀ b o, B b = some o → h'.get? b = some o) → P h') (J : Nat → Mp → Mu → List Value → Prop) (J0 : J 0 B N [])
    (hz : ∀ i B' N' ys, J i B' N' ys → ys.length ≤ 1000000)
    (turn : ∀ i X' B' N' C mC ys h t v, i < n → B.le B' → J i B' N' ys → val i v → mC x = some v → Fm H X' B' N' C mC h →
      wpAny (model prog w) A (forIn ifs true fun c r => if r = true then do let ok ← isTrue c (cEnv scope cl C env) (eval c (cEnv scope cl C env)); pure (ForInStep.yield ok) else pure (ForInStep.yield r)) (fun ok s₃ =>
        if ok = true then wpAny (model prog w) A (eval elt (cEnv scope cl C env)) (fun y s₄ => CPost H X' B' C mC s (J (i + 1)) (ys ++ [y]) s₄) noE s₃
        else CPost H X' B' C mC s (J (i + 1)) ys s₃) noE (S s h t))
    (done : ∀ B' N' ys h t D, B.le B' → J n B' N' ys → Fm H X B' N' L m h → h.PlainList D ys.toArray → X D = none → B' D = none → N' D = none → D ≠ L → h₀.get? D = none → Q (.ref D) (S s h t))
    (hclos : closureFor scope env = pure cl)
    (hcell : ∀ y ∈ scope.names, y.2 ≠ .cell := by decide) (hkind : scope.kind = .function := by rfl) (hx : scope.names.lookup x = some .local := by rfl)
    (hL : env.locals = L := by rfl) :
    wpAny (model prog w) A (newList []) (fun acc s₃ => wpAny (model prog w) A (newFunctionEnv scope env.globals cl [] env.qual none .none (some env)) (fun cenv s₄ =>
      codeAny (model prog w) A (.compStart (.ListComp elt [⟨.Name x px, iter, ifs, 0⟩] scope pos) 0 (.ref I) acc { cenv with scope := relabel scope env }) (compPost (model prog w) A noE none Q acc cenv.locals) s₄) noE s₃) noE (S s h t) := by
  refine comp_core (RR := fun acc C => compPost (model prog w) A noE none Q acc C) it hh F fresh k ho hst hP J J0 hz turn ?_ hclos hcell hkind hx hL
  intro B' N' ys h2 t' D C e mC oL hoL hle hJ hDL hXD hD0 F2'
  refine ⟨mC, F2'.ns, fun h3 hs3 => ?_⟩
  have F4 := Fm.back (X' := X.set D (lstObj ys e)) F hoL F2' (by rw [Mp.set_ne (Ne.symm hDL)]; exact F.heldL) hs3
  have hD4 : h3.get? D = some (lstObj ys e) := F4.held _ _ Mp.set_same
  refine done B' N' ys h3 t' D hle hJ (F4.lessX fun b o q => ?_) ⟨e, hD4⟩ hXD (F4.heldB _ _ Mp.set_same) ?_ hDL hD0
  · rw [Mp.set_ne (by rintro rfl; rw [hXD] at q; cases q)]; exact q
  · cases q : N' D with
    | none => rfl
    | some zs => have := F4.ownX _ _ q; rw [Mp.set_same] at this; cases this

/-- the same, the list stored under a local's name at once -/
theorem comp_use {I : Addr} {P : Heap → Prop} {n : Nat} {val : Nat → Value → Prop} {st : Nat → Obj → Prop} {elt iter : Expr} {x y : Str} {px py pos : Pos} {ifs : List Expr} {scope : Scope} {cl : List (Str × Addr)} {h₀ : Heap} {o : Obj} {Q : Shared → Prop}
    (it : Itr prog w I P n val st) (hh : A.handled = none) (F : Fm H X B N L m h₀) (fresh : h₀.get? I = none) (k : Kp h₀ h) (ho : h.get? I = some o) (hst : st 0 o)
    (hP : ∀ h' : Heap, (∀ b o, B b = some o → h'.get? b = some o) → P h') (J : Nat → Mp → Mu → List Value → Prop) (J0 : J 0 B N [])
    (hz : ∀ i B' N' ys, J i B' N' ys → ys.length ≤ 1000000)
    (turn : ∀ i X' B' N' C mC ys h t v, i < n → B.le B' → J i B' N' ys → val i v → mC x = some v → Fm H X' B' N' C mC h →
      wpAny (model prog w) A (forIn ifs true fun c r => if r = true then do let ok ← isTrue c (cEnv scope cl C env) (eval c (cEnv scope cl C env)); pure (ForInStep.yield ok) else pure (ForInStep.yield r)) (fun ok s₃ =>
        if ok = true then wpAny (model prog w) A (eval elt (cEnv scope cl C env)) (fun y s₄ => CPost H X' B' C mC s (J (i + 1)) (ys ++ [y]) s₄) noE s₃
        else CPost H X' B' C mC s (J (i + 1)) ys s₃) noE (S s h t))
    (done : ∀ B' N' ys h t D, B.le B' → J n B' N' ys → Fm H X B' N' L (upd m y (.ref D)) h → h.PlainList D ys.toArray → X D = none → B' D = none → N' D = none → D ≠ L → h₀.get? D = none → Q (S s h t))
    (hclos : closureFor scope env = pure cl)
    (hcell : ∀ y ∈ scope.names, y.2 ≠ .cell := by decide) (hkind : scope.kind = .function := by rfl) (hx : scope.names.lookup x = some .local := by rfl)
    (hL : env.locals = L := by rfl) (hke : env.scope.kind = .function := by rfl) (hly : env.kindOf y = some .local := by rfl) :
    wpAny (model prog w) A (newList []) (fun acc s₃ => wpAny (model prog w) A (newFunctionEnv scope env.globals cl [] env.qual none .none (some env)) (fun cenv s₄ =>
      codeAny (model prog w) A (.compStart (.ListComp elt [⟨.Name x px, iter, ifs, 0⟩] scope pos) 0 (.ref I) acc { cenv with scope := relabel scope env }) (compPost (model prog w) A noE (some (assign (.Name y py) env)) (fun _ s' => Q s') acc cenv.locals) s₄) noE s₃) noE (S s h t) := by
  refine comp_core (RR := fun acc C => compPost (model prog w) A noE (some (assign (.Name y py) env)) (fun _ s' => Q s') acc C) it hh F fresh k ho hst hP J J0 hz turn ?_ hclos hcell hkind hx hL
  intro B' N' ys h2 t' D C e mC oL hoL hle hJ hDL hXD hD0 F2'
  have hXL : (X.set D (lstObj ys e)) L = none := by rw [Mp.set_ne (Ne.symm hDL)]; exact F.heldL
  obtain ⟨oC, hoC, hXC, F4⟩ := Fm.backC (X' := X.set D (lstObj ys e)) F hoL F2' hXL
  show wpAny _ A (assign (.Name y py) env (.ref D)) _ _ _
  refine wpAny_assign_Name (st_local F4 (fun h3 t3 F5 => ?_) hL hke hly)
  obtain ⟨oC', es, ep, hoC', hr⟩ := F2'.ns
  rw [hoC] at hoC'; cases hoC'
  refine ⟨mC, ⟨oC, es, ep, F5.held _ _ Mp.set_same, hr⟩, fun h6 hs6 => ?_⟩
  have F6 : Fm H (X.set D (lstObj ys e)) B' N' L (upd m y (.ref D)) h6 := F5.drop (o := oC) Mp.set_same hs6.extBut (fun b o q => by rw [Mp.set_ne (by rintro rfl; rw [hXC] at q; cases q)]; exact q) hXC
  have hD4 : h6.get? D = some (lstObj ys e) := F6.held _ _ Mp.set_same
  refine done B' N' ys h6 t3 D hle hJ (F6.lessX fun b o q => ?_) ⟨e, hD4⟩ hXD (F6.heldB _ _ Mp.set_same) ?_ hDL hD0
  · rw [Mp.set_ne (by rintro rfl; rw [hXD] at q; cases q)]; exact q
  · cases q : N' D with
    | none => rfl
    | some zs => have := F6.ownX _ _ q; rw [Mp.set_same] at this; cases this

theorem ex_listcomp {elt iter : Expr} {x y : Str} {px py pos spos : Pos} {ifs : List Expr} {scope : Scope} {cl : List (Str × Addr)} {Q : Flow → Shared → Prop}
    (hQ : wpAny (model prog w) A (eval iter env) (fun xv s₁ => wpAny (model prog w) A (pyIter xv) (fun itv s₂ => wpAny (model prog w) A (newList []) (fun acc s₃ => wpAny (model prog w) A (newFunctionEnv scope env.globals cl [] env.qual none .none (some env)) (fun cenv s₄ =>
      codeAny (model prog w) A (.compStart (.ListComp elt [⟨.Name x px, iter, ifs, 0⟩] scope pos) 0 itv acc { cenv with scope := relabel scope env }) (compPost (model prog w) A noE (some (assign (.Name y py) env)) (fun _ s' => Q .next s') acc cenv.locals) s₄) noE s₃) noE s₂) noE s₁) noE (S s h t))
    (hclos : closureFor scope env = pure cl) (hsw : swapsWith (.ListComp elt [⟨.Name x px, iter, ifs, 0⟩] scope pos) (some (.Name y py)) spos.line env = pure true)
    (hkind : scope.kind = .function := by rfl) (hnames : ∀ y ∈ scope.names, y.2 = .local → scope.names.lookup y.1 = some .local := by decide)
    (hs : ∀ x, foldedSetIterable iter env x = pure x := by intro _; rfl) :
    wpAny (model prog w) A (exec (.Assign [.Name y py] (.ListComp elt [⟨.Name x px, iter, ifs, 0⟩] scope pos) spos) env) Q noE (S s h t) := by
  rw [exec_Assign_Name_used _ _ _ _ hsw]
  refine wpAny_bind (wpAny_standAt (wpAny_bind ?_))
  show wpAny _ A (do let _ ← comprehension (.ListComp elt [⟨.Name x px, iter, ifs, 0⟩] scope pos) scope env _ (newList []) false (eval iter env) (some (assign (.Name y py) env))) _ _ _
  exact wpAny_bind (wpAny_mono (wpAny_comprehension_free (use := some (assign (.Name y py) env)) (Q := fun _ s' => Q .next s') rfl hs hclos hkind hnames hQ) (fun _ s' hq => wpAny_pure (wpAny_pure hq)) fun _ _ e => e)

theorem ev_listcomp {elt iter : Expr} {x : Str} {px pos : Pos} {ifs : List Expr} {scope : Scope} {cl : List (Str × Addr)} {Q : Value → Shared → Prop}
    (hQ : wpAny (model prog w) A (eval iter env) (fun xv s₁ => wpAny (model prog w) A (pyIter xv) (fun itv s₂ => wpAny (model prog w) A (newList []) (fun acc s₃ => wpAny (model prog w) A (newFunctionEnv scope env.globals cl [] env.qual none .none (some env)) (fun cenv s₄ =>
      codeAny (model prog w) A (.compStart (.ListComp elt [⟨.Name x px, iter, ifs, 0⟩] scope pos) 0 itv acc { cenv with scope := relabel scope env }) (compPost (model prog w) A noE none Q acc cenv.locals) s₄) noE s₃) noE s₂) noE s₁) noE (S s h t))
    (hclos : closureFor scope env = pure cl) (hkind : scope.kind = .function := by rfl) (hnames : ∀ y ∈ scope.names, y.2 = .local → scope.names.lookup y.1 = some .local := by decide)
    (hs : ∀ x, foldedSetIterable iter env x = pure x := by intro _; rfl) :
    wpAny (model prog w) A (eval (.ListComp elt [⟨.Name x px, iter, ifs, 0⟩] scope pos) env) Q noE (S s h t) := by
  rw [eval_ListComp]
  exact wpAny_comprehension_free (use := none) rfl hs hclos hkind hnames hQ
end

-- NC
def wd (b : Nat) : Nat := if b < 52 then b + 13 else if b < 62 then b - 49 else b - 61
def wfold (v : Nat) : Nat → Nat
  | 0 => 0
  | i + 1 => wfold v i * 65 + wd (v / 64 ^ (3 - i) % 64)
def wgt (v : Nat) : Nat := wfold v 4
theorem wd_lt (b : Nat) (h : b < 64) : 1 ≤ wd b ∧ wd b ≤ 64 := by unfold wd; split <;> (try split) <;> omega
theorem wfold_lt (v i : Nat) : wfold v i < 65 ^ i := by
  induction i with
  | zero => simp [wfold]
  | succ i ih =>
    have := (wd_lt (v / 64 ^ (3 - i) % 64) (Nat.mod_lt _ (by decide))).2
    simp only [wfold, Nat.pow_succ]; omega
section
variable {prog : Program} {w : World} {A : Around} {E : Value → Shared → Prop} {s : Shared} {h : Heap} {t : Nat} {env : Env}
  {mg mb : Lc} {H : Heap}
theorem range_small {a b c : Int} {n : Nat} (hn : Builtin.Range.rangeSize a b c = n) (ha : -1000000 ≤ a ∧ a ≤ 1000000) (hb : -1000000 ≤ b ∧ b ≤ 1000000) (hc : -1000000 ≤ c ∧ c ≤ 1000000) (hn' : n ≤ 1000000) : Builtin.Range.small a b c = true := by
  have f : ∀ x : Int, -10000000 ≤ x → x ≤ 10000000 → Builtin.Range.rangeFitsLong x = true := fun x h1 h2 => by
    unfold Builtin.Range.rangeFitsLong; rw [decide_eq_true (by omega), decide_eq_true (by omega)]; rfl
  unfold Builtin.Range.small
  rw [hn, f a (by omega) (by omega), f b (by omega) (by omega), f c (by omega) (by omega), f n (by omega) (by omega), f (b + (c - 1)) (by omega) (by omega), f (b + (c + 1)) (by omega) (by omega)]
  simp
theorem log2_small {x : Nat} (h0 : 0 < x) (h : x ≤ 1000000) : x.log2 < 9000 :=
  Nat.lt_trans ((Nat.log2_lt (by omega)).mpr (Nat.lt_of_le_of_lt h (by decide : 1000000 < 2 ^ 20))) (by decide)
theorem rangeSize0 (n : Nat) : Builtin.Range.rangeSize 0 n 1 = n := by
  unfold Builtin.Range.rangeSize; rw [if_pos (by decide)]; split <;> omega
abbrev wtInv (h : Heap) (v i : Nat) (B' : Mp) (N' : Mu) (m' : Lc) : Prop :=
  B' = h.get? ∧ N' = noN ∧ HasInt m' "value" v ∧ HasInt m' "weight" (wfold v i)
abbrev wtMid (s : Shared) (h7 : Heap) (bits : Nat) (y : Value) (s' : Shared) : Prop := ∃ u t', y = .int (wd bits) u ∧ s' = S s h7 t'
theorem weight_spec {Q : Value → Shared → Prop} {v : Nat} {u : Tok} (amb : Amb w mg mb H) (hA : Rm 1 A) (top : Kp H h) (hv : v < 16777216)
    (hQ : ∀ h' t' u', Kp h h' → Q (.int (wgt v) u') (S s h' t')) : wpAny (model prog w) A (call (.ref 98) [.int v u]) Q E (S s h t) := by
  refine call_fn [("value", .int v u)] amb hA top rfl rfl (BindsTo.of_eq rfl) ?_
  intro L h₁ t₁ hL hns hk hA'
  have F := Fm.entry top hL hns hk
  simp only [bnd, List.foldl] at F
  generalize A.deeper _ = A' at hA' ⊢
  clear hns hA
  repeat walk_at "ms"
  refine wpAny_For ?_
  repeat walk_at "ms"
  refine mk_range1 ?_
  intro r h2 t2 t3 t4 f2 k2 hr2
  rename_i F1 _ _
  have F2 := F1.ext k2
  refine pit_range (n := 4) hr2 (range_small (n := 4) (rangeSize0 4) (by decide) (by decide) (by decide) (by decide)) (rangeSize0 4) ?_
  intro I h5 o5 f5 k5 ho5 hst5
  refine for_loop itr_range hA'.handled F2 f5 k5 ho5 hst5 (fun _ _ => trivial)
    (wtInv h v)
    ⟨rfl, rfl, ⟨_, by walk_at "lk"⟩, HasInt.of (i := 0) ⟨_, by walk_at "lk"⟩ rfl⟩ ?_ ?_
  · rintro i X' B' N' m' h6 t6 x hi - ⟨rfl, rfl, ⟨u1, m1⟩, ⟨u2, m2⟩⟩ ⟨u3, rfl⟩ F6
    have hwl := wfold_lt v i
    have hw4 : 65 ^ i ≤ 65 ^ 4 := Nat.pow_le_pow_right (by decide) (by omega)
    have hw4' : (65 : Nat) ^ 4 = 17850625 := by decide
    have e0 : (3 : Int) - (0 + (i : Int) * 1) = ((3 - i : Nat) : Int) := by omega
    repeat walk_at "ms"
    rw [e0]
    refine op_pow (by omega) (by omega) (by decide) ?_; intro _ _
    rw [Int.toNat_natCast, show (64 : Int) ^ (3 - i) = ((64 ^ (3 - i) : Nat) : Int) by simp]
    have hp1 : 0 < 64 ^ (3 - i) := Nat.pow_pos (by decide)
    have hp2 : 64 ^ (3 - i) ≤ 64 ^ 3 := Nat.pow_le_pow_right (by decide) (by omega)
    have hp3 : (64 : Nat) ^ 3 = 262144 := by decide
    refine op_fdiv (by omega) (by rw [Int.natAbs_natCast]; exact log2_small hp1 (by omega)) ?_; intro _ _
    rw [fdivN]
    repeat walk_at "ms"
    refine op_mod (by decide) ?_; intro _ _
    rw [show ((v / 64 ^ (3 - i) : Nat) : Int).fmod 64 = ((v / 64 ^ (3 - i) % 64 : Nat) : Int) from fmodN _ 64]
    generalize hb : v / 64 ^ (3 - i) % 64 = bits at *
    have hbl : bits < 64 := by rw [← hb]; exact Nat.mod_lt _ (by decide)
    repeat walk_at "ms"
    rename_i h7 t7 F7 u8 t8
    refine op_mul (PySem.IntMulOk.of_right (PySem.intBits_le_64 (by decide) (by decide))) ?_; intro _ _
    refine wpAny_mono (Q := wtMid s h7 bits) ?_ ?_ (fun _ _ x => x)
    · refine IfExp_ ?_
      repeat walk_at "ms"
      refine split_bool (fun hc => ?_) (fun hc => ?_)
      · have hc' : bits < 52 := by have := of_decide_eq_true hc; omega
        repeat walk_at "ms"
        exact ⟨_, _, by unfold wd; rw [if_pos hc']; rfl, rfl⟩
      · have hc' : ¬ bits < 52 := by have := of_decide_eq_false hc; omega
        refine IfExp_ ?_
        repeat walk_at "ms"
        refine split_bool (fun hd => ?_) (fun hd => ?_)
        · have hd' : bits < 62 := by have := of_decide_eq_true hd; omega
          repeat walk_at "ms"
          exact ⟨_, _, by unfold wd; rw [if_neg hc', if_pos hd']; congr 1; omega, rfl⟩
        · have hd' : ¬ bits < 62 := by have := of_decide_eq_false hd; omega
          repeat walk_at "ms"
          exact ⟨_, _, by unfold wd; rw [if_neg hc', if_neg hd']; congr 1; omega, rfl⟩
    · rintro y s' ⟨uy, ty, rfl, rfl⟩
      repeat walk_at "ms"
      refine ⟨.inl rfl, _, _, _, _, _, rfl, Mp.le.refl _, by assumption, rfl, rfl, ⟨_, by walk_at "lk"⟩, HasInt.of ⟨_, by walk_at "lk"⟩ ?_⟩
      simp only [wfold, hb]; push_cast; rfl
  · rintro B' N' m' h6 t6 - ⟨rfl, rfl, ⟨u1, m1⟩, ⟨u2, m2⟩⟩ F6
    repeat walk_at "ms"
    exact hQ _ _ _ (F6.exit (Mp.le.refl _))
end

-- ND
def RowsN (N : Mu) (ra : List Addr) (rs : List (List Nat)) : Prop := ra.length = rs.length ∧ ∀ (k : Nat) (a : Addr) (r : List Nat), ra[k]? = some a → rs[k]? = some r → ∃ vs, N a = some vs ∧ IntsAre vs (toI r)
/-- the rows as they stand: the outer list, the inner ones -/
def RowsB (B : Mp) (r : Addr) (ra : List Addr) (rs : List (List Nat)) : Prop :=
  (∃ n, B r = some (lstObj (ra.map Value.ref) n)) ∧ ra.length = rs.length ∧ ∀ (k : Nat) (a : Addr) (x : List Nat), ra[k]? = some a → rs[k]? = some x → ∃ vs n, B a = some (lstObj vs n) ∧ IntsAre vs (toI x)
theorem RowsB.le {B B' : Mp} {r : Addr} {ra : List Addr} {rs : List (List Nat)} (x : RowsB B r ra rs) (k : B.le B') : RowsB B' r ra rs := by
  obtain ⟨⟨n, h1⟩, h2, h3⟩ := x
  exact ⟨⟨n, k _ _ h1⟩, h2, fun i a x ha hx => let ⟨vs, n, h4, h5⟩ := h3 i a x ha hx; ⟨vs, n, k _ _ h4, h5⟩⟩
theorem RowsN.set {N : Mu} {ra : List Addr} {rs : List (List Nat)} {k : Nat} {a : Addr} {r : List Nat} {vs : List Value} {v : Nat} {u : Tok} (x : RowsN N ra rs) (hnd : ra.Nodup) (ha : ra[k]? = some a) (hr : rs[k]? = some r) (hv : IntsAre vs (toI r)) :
    RowsN (N.set a (vs ++ [.int v u])) ra (rs.set k (r ++ [v])) := by
  refine ⟨by simpa using x.1, fun j b y hb hy => ?_⟩
  by_cases hjk : k = j
  · subst hjk
    rw [ha] at hb; cases hb
    have hk : k < rs.length := (List.getElem?_eq_some_iff.mp hr).1
    rw [List.getElem?_set_self hk] at hy; cases hy
    exact ⟨_, Mu.set_same, by rw [toI_snoc]; exact ints_snoc rfl hv⟩
  · rw [List.getElem?_set_ne hjk] at hy
    have hba : b ≠ a := by
      rintro rfl
      exact hjk ((List.getElem?_inj (List.getElem?_eq_some_iff.mp ha).1 hnd).mp (ha.trans hb.symm))
    obtain ⟨ws, h1, h2⟩ := x.2 j b y hb hy
    exact ⟨ws, by rw [Mu.set_ne hba]; exact h1, h2⟩
theorem flatten_set_len : ∀ (rs : List (List Nat)) (v : Nat) {j : Nat} (h : j < rs.length), (rs.set j (rs[j] ++ [v])).flatten.length = rs.flatten.length + 1
  | r :: rs, v, 0, _ => by simp; omega
  | r :: rs, v, j + 1, h => by
    have := flatten_set_len rs v (j := j) (by simpa using h)
    simp only [List.set_cons_succ, List.getElem_cons_succ, List.flatten_cons, List.length_append] at this ⊢
    omega
section
variable {prog : Program} {w : World} {A : Around} {E : Value → Shared → Prop} {s : Shared} {h : Heap} {t : Nat} {env : Env}
  {mg mb : Lc} {H : Heap} {X B : Mp} {N : Mu} {L : Addr} {m : Lc}

/-- a slice as a key: its object is new -/
theorem ev_slice {lower upper : Option Expr} {p : Pos} {Q : Value → Shared → Prop}
    (hQ : wpAny (model prog w) A (evalPart lower env) (fun l s₁ => wpAny (model prog w) A (evalPart upper env) (fun u s₂ => ∃ h' t', s₂ = S s h' t' ∧ ∀ sl h'', h'.get? sl = none → Kp h' h'' → h''.IsSliceOf sl l u .none → Q (.ref sl) (S s h'' t')) E s₁) E (S s h t)) :
    wpAny (model prog w) A (eval (.Slice lower upper none p) env) Q E (S s h t) := by
  refine wpAny_Slice (wpAny_mono hQ (fun l s₁ h₁ => wpAny_mono h₁ (fun u s₂ h₂ => ?_) fun _ _ x => x) fun _ _ x => x)
  obtain ⟨h', t', rfl, k⟩ := h₂
  rw [evalPart_none]
  exact wpAny_pure (k _ _ (get?_size h') (Kp.push _ _) (Heap.IsSliceOf.new ..))
theorem sub_slice_list {value slice : Expr} {l sl : Addr} {xs : List Value} {vl vu : Value} {lo hi : Option Int} {Q : Value → Shared → Prop} (hl : h.IsList l xs.toArray) (hs : h.IsSliceOf sl vl vu .none) (pl : IsPart vl lo) (pu : IsPart vu hi) (hz : xs.length ≤ 16777216)
    (hQ : ∀ D h', h.get? D = none → Kp h h' → h'.PlainList D (slicePick xs.toArray lo hi none) → Q (.ref D) (S s h' t))
    (hss : subscripted slice false (.ref l) (.ref sl) = operate [.ref sl, .ref l] (getItem (.ref l) (.ref sl)) := by with_unfolding_all rfl) :
    wpAny (model prog w) A (subscriptTail value slice (.ref l) (.ref sl)) Q E (S s h t) :=
  tail_any hl.typeIs slot_list_getitem.lookup (wpAny_getItem_list_slice (s := S s h t) hl hs pl pu .none (by simp) (hQ _ _ (get?_size h) (Kp.push _ _) ⟨0, Heap.get?_push_size _ rfl⟩) (by simpa [sizeLine] using hz)) hss
theorem sub_slice_bytes {value slice : Expr} {sl : Addr} {b : Array UInt8} {u : Tok} {vl vu : Value} {lo hi : Option Int} {Q : Value → Shared → Prop} (hs : h.IsSliceOf sl vl vu .none) (pl : IsPart vl lo) (pu : IsPart vu hi) (hz : b.size ≤ 16777216)
    (hQ : ∀ u t', Q (.bytes (KBy.picked b lo hi) u) (S s h t'))
    (hss : subscripted slice false (.bytes b u) (.ref sl) = operate [.ref sl, .bytes b u] (getItem (.bytes b u) (.ref sl)) := by with_unfolding_all rfl) :
    wpAny (model prog w) A (subscriptTail value slice (.bytes b u) (.ref sl)) Q E (S s h t) :=
  tail_any (typeIs_bytes _ _ _) FB.slot_bytes_getitem.lookup (getItem_meets (typeIs_bytes _ _ _) (by decide) FB.slot_bytes_getitem FB.entry_bytes_getitem (FB.args_bytes_getitem_2 _ _) (KBc.meets_slice2 b u sl pl pu)
    ⟨hs, Nat.le_trans (KBc.size_picked_le b lo hi) (by simpa [sizeLine] using hz), fun t' k => hQ t' k⟩) hss

theorem truthy_lst {l : Addr} {xs : List Value} {Q : Bool → Shared → Prop} (hl : h.IsList l xs.toArray) (hz : xs.length ≤ 1000000) (hQ : ∀ t', Q (decide (xs ≠ [])) (S s h t')) : wpAny (model prog w) A (truthy (.ref l)) Q E (S s h t) := by
  refine wpAny_truthy_list (s := S s h t) hl (by simp; omega) ?_
  have e : (!xs.toArray.isEmpty) = decide (xs ≠ []) := by cases xs <;> simp
  first
    | (rw [e]; exact hQ _)
    | (simpa [e] using hQ _)

abbrev rwMid1 (s : Shared) (h₁ : Heap) (y : Value) (s' : Shared) : Prop := ∃ (c : Nat) (u : Tok) (t' : Nat), y = .int c u ∧ s' = S s h₁ t' ∧ 2 ≤ c ∧ c ≤ 4
abbrev rwMid2 (s : Shared) (h2 : Heap) (y : Value) (s' : Shared) : Prop :=
  ∃ d h' t' ws ds, y = .ref d ∧ s' = S s h' t' ∧ Kp h2 h' ∧ h2.get? d = none ∧ h'.PlainList d (List.toArray ws) ∧ IntsAre ws ds ∧ ds.length ≤ 8
abbrev rwMid3 (s : Shared) (hb : Heap) (y : Value) (s' : Shared) : Prop := ∃ (v : Nat) (u : Tok) (h' : Heap) (t' : Nat), y = .int v u ∧ s' = S s h' t' ∧ Kp hb h' ∧ v < 16777216
abbrev rwInv1 (B3 : Mp) (c i : Nat) (B' : Mp) (N' : Mu) (ys : List Value) : Prop :=
  B' = B3 ∧ ∃ ra : List Addr, ys = ra.map Value.ref ∧ ra.length = i ∧ i ≤ c ∧ ra.Nodup ∧ (∀ a ∈ ra, N' a = some []) ∧ (∀ a, a ∉ ra → N' a = none)
abbrev rwInv2 (B8 : Mp) (ra : List Addr) (c : Nat) (D : Addr) (i : Nat) (B' : Mp) (N' : Mu) (m' : Lc) : Prop :=
  B' = B8 ∧ ∃ rs, RowsN N' ra rs ∧ rs.length = c ∧ (∀ x ∈ rs, ∀ n ∈ x, n < 16777216) ∧ rs.flatten.length = i ∧ HasInt m' "count" c ∧ m' "rows" = some (.ref D)
theorem rows_spec {Q : Value → Shared → Prop} {l : Addr} {vs : List Value} {ns : List Int} (amb : Amb w mg mb H) (hA : Rm 1 A) (top : Kp H h) (hl : h.IsList l vs.toArray) (hi : IntsAre vs ns) (hz : ns.length ≤ 1000)
    (hQ : ∀ h' t' r ra rs, Kp h h' → h.get? r = none → (∀ a ∈ ra, h.get? a = none) → RowsB h'.get? r ra rs → 2 ≤ rs.length → rs.length ≤ 4 → (∀ x ∈ rs, ∀ n ∈ x, n < 16777216) → rs.flatten.length ≤ 8 → Q (.ref r) (S s h' t')) :
    wpAny (model prog w) A (call (.ref 84) [.ref l]) Q E (S s h t) := by
  refine call_fn [("script", .ref l)] amb hA top rfl rfl (BindsTo.of_eq rfl) ?_
  intro L h₁ t₁ hL hns hk hA'
  have F := Fm.entry top hL hns hk
  simp only [bnd, List.foldl] at F
  generalize A.deeper _ = A' at hA' ⊢
  clear hns hA
  have hvl : vs.length = ns.length := hi.length
  have hl1 : h₁.IsList l vs.toArray := hl.at fun o e => hk _ _ e
  repeat walk_at "ms"
  refine wpAny_mono (Q := rwMid1 s h₁) ?_ ?_ (fun _ _ x => x)
  · refine IfExp_ ?_
    repeat walk_at "ms"
    refine truthy_lst hl1 (by omega) ?_
    intro t2
    refine split_bool (fun hc => ?_) (fun hc => ?_)
    · have hne : vs ≠ [] := of_decide_eq_true hc
      obtain ⟨v0, vs', rfl⟩ := List.exists_cons_of_ne_nil hne
      obtain ⟨n0, u0, rfl, hn0⟩ := IntsAre.at hi 0 v0 rfl
      repeat walk_at "ms"
      refine sub_list hl1 (by decide) (by rfl) (by decide) ?_
      repeat walk_at "ms"
      refine op_mod (by decide) ?_; intro _ _
      repeat walk_at "ms"
      have h0 : 0 ≤ n0.fmod 3 := Int.fmod_nonneg_of_pos _ (by decide)
      have h3 : n0.fmod 3 < 3 := Int.fmod_lt_of_pos _ (by decide)
      exact ⟨(n0.fmod 3 + 2).toNat, _, _, by congr 1; omega, rfl, by omega, by omega⟩
    · repeat walk_at "ms"
      exact ⟨3, _, _, rfl, rfl, by decide, by decide⟩
  · rintro y s' ⟨c, uc, tc, rfl, rfl, hc2, hc4⟩
    repeat walk_at "ms"
    rename_i h2 t2 F2
    have hl2 : h2.IsList l vs.toArray := hl.at fun o e => F2.keep _ _ e
    refine wpAny_mono (Q := rwMid2 s h2) ?_ ?_ (fun _ _ x => x)
    · refine IfExp_ ?_
      repeat walk_at "ms"
      refine len_lst hl2 (by omega) ?_; intro _ _
      repeat walk_at "ms"
      refine split_bool (fun hc => ?_) (fun hc => ?_)
      · repeat walk_at "ms"
        refine ev_slice ?_
        refine evalPart_some_step ?_
        repeat walk_at "ms"
        refine evalPart_some_step ?_
        repeat walk_at "ms"
        refine ⟨_, _, rfl, ?_⟩
        intro sl h3 f3 k3 hsl
        refine sub_slice_list (hl2.at fun o e => k3 _ _ e) hsl (.int 1 _) (.int 9 _) (by omega) ?_
        intro D h4 f4 k4 l4
        have hf : h2.get? D = none := by
          cases q : h2.get? D with
          | none => rfl
          | some o => have := k3 _ _ q; rw [f4] at this; cases this
        refine ⟨D, h4, _, (slicePick vs.toArray (some 1) (some 9) none).toList, _, rfl, rfl, k3.trans k4, hf, by rw [Array.toArray_toList]; exact l4, kmk_run hi (by decide) (by decide), ?_⟩
        rw [List.length_take, List.length_drop]
        simp only [show (9 : Int).toNat = 9 from rfl, show (1 : Int).toNat = 1 from rfl]
        omega
      · repeat walk_at "ms"
        refine mk_list (by simp) ?_
        intro D h4 f4 k4 l4
        exact ⟨D, h4, _, _, _, rfl, rfl, k4, f4, l4, .cons _ _ (.cons _ _ (.cons _ _ (.cons _ _ (.cons _ _ .nil)))), by decide⟩
    · rintro y s' ⟨d, h3, t3, ws, ds, rfl, rfl, k3, f3, l3, hws, hds⟩
      obtain ⟨nd, l3⟩ := l3
      have F3 := F2.learn k3 f3 l3
      have hle3 : Mp.le h.get? (Mp.set h.get? d { cls := .type "list", data := .seq (List.toArray ws) nd }) := F2.leB f3
      generalize hB3 : Mp.set h.get? d { cls := .type "list", data := .seq (List.toArray ws) nd } = B3 at *
      have hd3 : B3 d = some { cls := .type "list", data := .seq (List.toArray ws) nd } := by rw [← hB3]; exact Mp.set_same
      repeat walk_at "ms"
      rename_i h4 t4 F4
      refine ex_listcomp ?_ rfl rfl
      repeat walk_at "ms"
      refine mk_range1 ?_
      intro r5 h5 t5 u5 v5 f5 k5 hr5
      refine pit_range (n := c) hr5 (range_small (n := c) (rangeSize0 c) (by omega) (by omega) (by omega) (by omega)) (rangeSize0 c) ?_
      intro I h6 o6 f6 k6 ho6 hst6
      refine comp_use itr_range hA'.handled (F4.ext k5) f6 k6 ho6 hst6 (fun _ _ => trivial)
        (rwInv1 B3 c) ⟨rfl, [], rfl, rfl, Nat.zero_le _, .nil, fun a ha => (nomatch ha), fun _ _ => rfl⟩ ?_ ?_ ?_ rfl
      · rintro i B' N' ys ⟨-, ra, rfl, hra, hic, -⟩
        rw [List.length_map]; omega
      · rintro i X' B' N' C mC ys h7 t7 v hi7 - ⟨rfl, ra, rfl, hra, hic, hnd, hin, hout⟩ ⟨u7, rfl⟩ hmC F7
        refine wpAny_tests_nil ?_
        rw [if_pos rfl]
        repeat walk_at "ms"
        refine mk_list (by simp) ?_
        intro a h8 f8 k8 l8
        have F8 := F7.learnN k8 f8 l8
        have haN : N' a = none := F7.freshN f8
        have har : a ∉ ra := fun q => by rw [hin a q] at haN; cases haN
        refine ⟨_, _, _, _, rfl, Mp.le.refl _, F8, rfl, ra ++ [a], by simp, by simp [hra], by omega, ?_, ?_, ?_⟩
        · rw [List.nodup_append]
          exact ⟨hnd, by simp, by simpa using fun x hx => (by rintro rfl; exact har hx)⟩
        · intro b hb
          rcases List.mem_append.mp hb with hb' | hb'
          · rw [Mu.set_ne (by rintro rfl; exact har hb')]; exact hin b hb'
          · simp at hb'; subst hb'; exact Mu.set_same
        · intro b hb
          rw [Mu.set_ne (by rintro rfl; exact hb (by simp))]
          exact hout b fun q => hb (List.mem_append_left _ q)
      · rintro B' N' ys h7 t7 D - ⟨rfl, ra, rfl, hra, -, hnd, hin, hout⟩ F7 hD7 hXD hBD hND hDL hD0
        obtain ⟨nD, hD7⟩ := hD7
        have F8 := F7.adopt hD7 hXD hBD hND hDL
        have hle8 := le_set (o := { cls := .type "list", data := .seq (ra.map Value.ref).toArray nD }) hBD
        generalize hB8 : B'.set D { cls := .type "list", data := .seq (ra.map Value.ref).toArray nD } = B8 at *
        have hd8 : B8 D = some { cls := .type "list", data := .seq (ra.map Value.ref).toArray nD } := by rw [← hB8]; exact Mp.set_same
        have hdd8 := hle8 _ _ hd3
        repeat walk_at "ms"
        refine wpAny_For ?_
        repeat walk_at "ms"
        refine pit_list (xs := ws) ⟨_, F8.keep _ _ hdd8, rfl, nd, rfl⟩ ?_
        intro I h9 o9 f9 k9 ho9 hst9
        refine for_loop itr_list hA'.handled F8 f9 k9 ho9 hst9 (fun h' hh => ⟨_, hh _ _ hdd8, rfl, nd, rfl⟩)
          (rwInv2 B8 ra c D)
          ⟨rfl, List.replicate c [], ⟨by simp [hra], fun k a r ha hr => ⟨[], hin a (List.mem_of_getElem? ha), ?_⟩⟩, by simp, ?_, by simp, ⟨_, by walk_at "lk"⟩, by walk_at "lk"⟩ ?_ ?_
        · have := List.eq_of_mem_replicate (List.mem_of_getElem? hr); subst this; exact .nil
        · intro x hx n hn; have := List.eq_of_mem_replicate hx; subst this; cases hn
        · rintro i X' B' N' m' ha ta v hia - ⟨rfl, rs, hrs, hrl, hrv, hrf, ⟨u1, m1⟩, m2⟩ hva Fa
          obtain ⟨num, q, rfl, hnum⟩ := IntsAre.at hws i v hva
          have hia' : i < 8 := by rw [hws.length] at hia; omega
          repeat walk_at "ms"
          refine op_fdiv (by omega) (by rw [Int.natAbs_natCast]; exact log2_small (by omega) (by omega)) ?_; intro _ _
          repeat walk_at "ms"
          refine op_fdiv (by decide) (by decide +kernel) ?_; intro _ _
          generalize (num.fdiv (c : Int)).fdiv 2 = half
          repeat walk_at "ms"
          rename_i hb tb Fb
          refine wpAny_mono (Q := rwMid3 s hb) ?_ ?_ (fun _ _ x => x)
          · refine IfExp_ ?_
            repeat walk_at "ms"
            refine op_fdiv (by omega) (by rw [Int.natAbs_natCast]; exact log2_small (by omega) (by omega)) ?_; intro _ _
            repeat walk_at "ms"
            refine op_mod (by decide) ?_; intro _ _
            repeat walk_at "ms"
            refine split_bool (fun _ => ?_) (fun _ => ?_)
            · repeat walk_at "ms"
              refine mk_list (by simp) ?_
              intro b hc f2 k2 l2
              have Fc := Fb.ext k2
              repeat walk_at "ms"
              refine op_mod (by decide) ?_; intro _ _
              have h0 : 0 ≤ half.fmod 3 := Int.fmod_nonneg_of_pos _ (by decide)
              have h3 : half.fmod 3 < 3 := Int.fmod_lt_of_pos _ (by decide)
              have hcase : half.fmod 3 = 0 ∨ half.fmod 3 = 1 ∨ half.fmod 3 = 2 := by omega
              rcases hcase with e | e | e <;> rw [e]
              · refine sub_list l2.isList (by decide) (by rfl) (by decide) ?_
                repeat walk_at "ms"
                refine op_mul (PySem.IntMulOk.of_right (PySem.intBits_le_64 (by decide) (by decide))) ?_; intro _ _
                exact ⟨0, _, _, _, rfl, rfl, k2, by decide⟩
              · refine sub_list l2.isList (by decide) (by rfl) (by decide) ?_
                repeat walk_at "ms"
                refine op_mul (PySem.IntMulOk.of_right (PySem.intBits_le_64 (by decide) (by decide))) ?_; intro _ _
                exact ⟨16777215, _, _, _, rfl, rfl, k2, by decide⟩
              · refine sub_list l2.isList (by decide) (by rfl) (by decide) ?_
                repeat walk_at "ms"
                refine op_mul (PySem.IntMulOk.of_right (PySem.intBits_le_64 (by decide) (by decide))) ?_; intro _ _
                exact ⟨6923930, _, _, _, rfl, rfl, k2, by decide⟩
            · repeat walk_at "ms"
              refine op_pow (by decide) (by decide) (by decide) ?_; intro _ _
              refine op_mod (by decide) ?_; intro _ _
              have e : (256 : Int) ^ (3 : Int).toNat = 16777216 := by decide
              rw [e]
              have h0 : 0 ≤ half.fmod 16777216 := Int.fmod_nonneg_of_pos _ (by decide)
              have h3 : half.fmod 16777216 < 16777216 := Int.fmod_lt_of_pos _ (by decide)
              exact ⟨(half.fmod 16777216).toNat, _, _, _, by congr 1; omega, rfl, Kp.refl _, by omega⟩
          · rintro y s' ⟨v, uv, hc, tc, rfl, rfl, kc, hv⟩
            have Fc := Fb.ext kc
            repeat walk_at "ms"
            refine op_mod (by omega) ?_; intro _ _
            have h0 : 0 ≤ num.fmod (c : Int) := Int.fmod_nonneg_of_pos _ (by omega)
            have h3 : num.fmod (c : Int) < c := Int.fmod_lt_of_pos _ (by omega)
            generalize hj : num.fmod (c : Int) = j at *
            obtain ⟨j, rfl⟩ := Int.eq_ofNat_of_zero_le h0
            have hjl : j < ra.length := by omega
            have hjr : j < rs.length := by omega
            rename_i Fd _ _
            refine sub_list (xs := ra.map Value.ref) ⟨_, Fd.keep _ _ hd8, rfl, nD, rfl⟩ (by omega) (x := .ref ra[j]) (by simp [hjl]) (by omega) ?_
            obtain ⟨ws', hw1, hw2⟩ := hrs.2 j ra[j] rs[j] (List.getElem?_eq_getElem hjl) (List.getElem?_eq_getElem hjr)
            refine meth_append (Fd.own _ _ hw1) ?_
            repeat walk_at "ms"
            have hflen : (rs[j]).length ≤ rs.flatten.length := (List.sublist_flatten_of_mem (List.getElem_mem hjr)).length_le
            refine append_lst Fd hw1 (by rw [hw2.length, toI_len]; omega) ?_
            intro he Fe
            dsimp only
            repeat walk_at "ms"
            refine ⟨.inl rfl, _, _, _, _, _, rfl, Mp.le.refl _, Fe, rfl, rs.set j (rs[j] ++ [v]), hrs.set hnd (List.getElem?_eq_getElem hjl) (List.getElem?_eq_getElem hjr) hw2, by simpa using hrl, ?_, ?_, ⟨_, by walk_at "lk"⟩, by walk_at "lk"⟩
            · intro x hx n hn
              rcases List.mem_or_eq_of_mem_set hx with hx | rfl
              · exact hrv x hx n hn
              · rcases List.mem_append.mp hn with hn | hn
                · exact hrv _ (List.getElem_mem hjr) n hn
                · simp at hn; subst hn; exact hv
            · rw [flatten_set_len _ _ hjr, hrf]
        · rintro B' N' m' ha ta - ⟨rfl, rs, hrs, hrl, hrv, hrf, ⟨u1, m1⟩, m2⟩ Fa
          repeat walk_at "ms"
          have hkp : Kp h ha := Fa.exit (hle3.trans hle8)
          have hfr : ∀ a, B' a = none ∨ N' a ≠ none → h.get? a = none := by
            intro a hor
            cases q : h.get? a with
            | none => rfl
            | some o =>
              have q2 := hle8 _ _ (hle3 _ _ q)
              rcases hor with hb | hb
              · rw [hb] at q2; cases q2
              · cases q3 : N' a with
                | none => exact absurd q3 hb
                | some zs => rw [Fa.ownB _ _ q3] at q2; cases q2
          refine hQ _ _ D ra rs hkp ?_ ?_ ?_ (by omega) (by omega) hrv (by rw [hrf, hws.length]; exact hds)
          · cases q : h.get? D with
            | none => rfl
            | some o => have := hle3 _ _ q; rw [hBD] at this; cases this
          · intro a ha'
            obtain ⟨k, hk'⟩ := List.mem_iff_getElem?.mp ha'
            have hk2 : k < rs.length := by rw [← hrs.1]; exact (List.getElem?_eq_some_iff.mp hk').1
            obtain ⟨zs, hz1, _⟩ := hrs.2 k a rs[k] hk' (List.getElem?_eq_getElem hk2)
            exact hfr a (.inr (by rw [hz1]; simp))
          · refine ⟨⟨nD, Fa.keep _ _ hd8⟩, hrs.1, fun k a x ha' hx => ?_⟩
            obtain ⟨zs, hz1, hz2⟩ := hrs.2 k a x ha' hx
            obtain ⟨n, hn⟩ := Fa.own _ _ hz1
            exact ⟨zs, n, hn, hz2⟩
end

-- NE
def Mp.del (X : Mp) (a : Addr) : Mp := fun b => if b = a then none else X b
theorem Mp.del_same {X : Mp} {a : Addr} : X.del a a = none := if_pos rfl
theorem Mp.del_ne {X : Mp} {a b : Addr} (h : b ≠ a) : X.del a b = X b := if_neg h
/-- the cells of a frame, not filled yet -/
def cellsX (cs : List (Str × Addr)) (h : Heap) : Mp := fun b => if (cs.map (·.2)).contains b = true then h.get? b else none
section
variable {prog : Program} {w : World} {A : Around} {E : Value → Shared → Prop} {s : Shared} {h : Heap} {t : Nat} {env : Env}
  {mg mb : Lc} {H : Heap} {X B : Mp} {N : Mu} {L : Addr} {m : Lc}

theorem st_cell {x : Str} {c : Addr} {v : Value} {o : Obj} {v₀ : Option Value} {Q : Unit → Shared → Prop} (F : Fm H X B N L m h) (hc : env.cells.lookup x = some c) (hX : X c = some o) (hd : o.data = .cell v₀)
    (hQ : ∀ h' B', B.le B' → CellB B' c v → (∀ b, b ≠ c → B' b = B b) → Fm H (X.del c) B' N L m h' → Q () (S s h' t))
    (hk : env.scope.kind = .function := by rfl) (hl : env.kindOf x = some .cell := by rfl) :
    wpAny (model prog w) A (storeName env x v) Q E (S s h t) := by
  refine wpAny_storeName_cell hk hl hc ⟨o, F.held _ _ hX, hd⟩ fun h' hv hs => ?_
  obtain ⟨o', ho', hd'⟩ := hv
  have hB : B c = none := F.heldB _ _ hX
  have hle : B.le (B.set c o') := fun b x q => by rw [Mp.set_ne (by rintro rfl; rw [hB] at q; cases q)]; exact q
  refine hQ h' (B.set c o') hle ⟨o', Mp.set_same, hd'⟩ (fun b hb => Mp.set_ne hb) ?_
  have F1 := F.drop (X' := X.del c) hX hs.extBut (fun b x q => by
    by_cases hb : b = c
    · subst hb; rw [Mp.del_same] at q; cases q
    · rw [Mp.del_ne hb] at q; exact q) Mp.del_same
  exact F1.adopt ho' Mp.del_same hB (by
    cases q : N c with
    | none => rfl
    | some zs => rw [F.ownX _ _ q] at hX; cases hX) (by rintro rfl; rw [F.heldL] at hX; cases hX)

theorem bindL_eq {kindOf : Str → Option NameKind} : ∀ (binds : List (Str × Value)) (m : Lc), (∀ x ∈ binds, kindOf x.1 = some .local) → bindL kindOf binds m = binds.foldl (fun m p => upd m p.1 p.2) m
  | [], m, _ => rfl
  | (n, v) :: r, m, h => by
    have h1 : kindOf n = some .local := h (n, v) (List.mem_cons_self ..)
    rw [bindL, if_pos h1, bindL_eq r _ fun x hx => h x (List.mem_cons_of_mem _ hx)]; rfl
theorem bindC_eq {kindOf : Str → Option NameKind} : ∀ (binds : List (Str × Value)) (m : Lc), (∀ x ∈ binds, kindOf x.1 = some .local) → bindC kindOf binds m = m
  | [], m, _ => rfl
  | (n, v) :: r, m, h => by
    have h1 : kindOf n = some .local := h (n, v) (List.mem_cons_self ..)
    rw [bindC, if_pos h1, bindC_eq r _ fun x hx => h x (List.mem_cons_of_mem _ hx)]
theorem call_fnC {k : Nat} {f : Addr} {name qual : Str} {params : Arguments} {body : List Stmt} {scope : Scope} {dV kV doc pm cdv ct oc : Value} {an od : Option Addr} {osl : Array (Option Value)}
    {pos : List Value} {Q : Value → Shared → Prop} (binds : List (Str × Value))
    (amb : Amb w mg mb H) (hA : Rm (k + 1) A) (top : Kp H h)
    (ho : (KF w).lookup f = some ⟨oc, od, .func (fnOf name qual params body scope dV kV doc pm an cdv ct), osl⟩) (hcd : codeIn (KF w) cdv qual = true)
    (hbind : bindArgs (fnOf name qual params body scope dV kV doc pm an cdv ct) ⟨pos, []⟩ = pure binds)
    (hloc : (binds.all fun x => decide (scope.names.lookup x.1 = some .local)) = true)
    (hb : ∀ L h₁ t₁, h.get? L = none → (∀ n c, (n, c) ∈ cellsFrom (L + 1) scope.names [] → h.get? c = none ∧ c ≠ L) →
      (∀ n c, (cellsFrom (L + 1) scope.names []).lookup n = some c → h₁.IsCell c none) →
      h₁.Ns L (bnd binds) → Kp h h₁ → Rm k (A.deeper (envOfC qual scope L f cdv)) →
      wpAny (model prog w) (A.deeper (envOfC qual scope L f cdv)) (execs body (envOfC qual scope L f cdv)) (fun fl s' => Q (match fl with | .ret v => v | _ => .none) s') noE (S s h₁ t₁))
    (hco : scope.isCoroutine = false := by rfl) (hgen : scope.isGenerator = false := by rfl) (hk : scope.kind = .function := by rfl) :
    wpAny (model prog w) A (call (.ref f) pos) Q E (S s h t) := by
  refine wpAny_call (codeAny_call_cells (fd := fnOf name qual params body scope dV kV doc pm an cdv ct) (body := body) (binds := binds) hA.room (top _ _ (amb.K _ _ ho)) rfl (amb.nolimit.keeps top)
    ((codeRec_of amb.K hcd).keeps top) rfl hbind rfl (fun x hx => .inl (locs hloc x hx)) (fun s₁ x => ?_) hco hgen hk)
  obtain ⟨h₁, t₁, rfl⟩ := x.toInCall.same
  have fr : ∀ c, h.objs.size ≤ c → h.get? c = none := fun c hc => by
    cases q : h.get? c with
    | none => rfl
    | some o => exact absurd (Heap.lt_size q) (Nat.not_lt.mpr hc)
  refine wpAny_mono (hb h.objs.size h₁ t₁ (get?_size h) (fun n c hc => ?_) (fun n c hc => by have := x.cell n c hc; rw [bindC_eq binds _ (locs hloc)] at this; exact this) (by have := x.toInCall.ns; rw [bindL_eq binds _ (locs hloc)] at this; exact this) x.toInCall.keep (hA.deeper _)) (fun _ _ x => x) fun _ _ x => x.elim
  have : h.objs.size < c := x.above n c hc
  exact ⟨fr c (Nat.le_of_lt this), Nat.ne_of_gt this⟩
theorem Fm.entryC {h₁ : Heap} {cs : List (Str × Addr)} (top : Kp H h) (hL : h.get? L = none) (hcs : ∀ n c, (n, c) ∈ cs → h.get? c = none ∧ c ≠ L) (ns : h₁.Ns L m) (k : Kp h h₁) : Fm H (cellsX cs h₁) h.get? noN L m h₁ where
  ns := ns
  top := top
  held := fun b o e => by unfold cellsX at e; split at e <;> first | exact e | cases e
  heldL := by
    unfold cellsX; rw [if_neg]
    intro q
    obtain ⟨p, hp, e⟩ := List.mem_map.mp (List.contains_iff_mem.mp q)
    exact (hcs p.1 p.2 hp).2 e
  heldB := fun b o e => by
    unfold cellsX at e
    split at e
    · rename_i q
      obtain ⟨p, hp, e'⟩ := List.mem_map.mp (List.contains_iff_mem.mp q)
      rw [← e']; exact (hcs p.1 p.2 hp).1
    · cases e
  keep := k
  keepL := hL
  own := fun _ _ e => nomatch e
  ownX := fun _ _ e => nomatch e
  ownB := fun _ _ e => nomatch e
theorem cellsX_get {cs : List (Str × Addr)} {n : Str} {c : Addr} {o : Obj} (hc : (n, c) ∈ cs) (ho : h.get? c = some o) : cellsX cs h c = some o := by
  unfold cellsX; rw [if_pos (List.contains_iff_mem.mpr (List.mem_map.mpr ⟨_, hc, rfl⟩))]; exact ho

/-- a dict comprehension over int keys, stored under a local's name at once -/
abbrev DPost (H : Heap) (X B : Mp) (N : Mu) (C : Addr) (mC : Lc) (s : Shared) (J : List (Int × Value) → Prop) (ys : List (Int × Value)) (key : Int) (vv : Value) (s₄ : Shared) : Prop :=
  ∃ h'' t'', s₄ = S s h'' t'' ∧ Fm H X B N C mC h'' ∧ J (stored ys key vv)
theorem comp_useD {I : Addr} {P : Heap → Prop} {n : Nat} {val : Nat → Value → Prop} {st : Nat → Obj → Prop} {kx vx iter : Expr} {x y : Str} {px py pos : Pos} {scope : Scope} {cl : List (Str × Addr)} {h₀ : Heap} {o : Obj} {Q : Shared → Prop}
    (it : Itr prog w I P n val st) (hh : A.handled = none) (F : Fm H X B N L m h₀) (fresh : h₀.get? I = none) (k : Kp h₀ h) (ho : h.get? I = some o) (hst : st 0 o)
    (hP : ∀ h' : Heap, (∀ b o, B b = some o → h'.get? b = some o) → P h') (hbig : ∃ o, B 2 = some o) (J : Nat → List (Int × Value) → Prop) (J0 : J 0 [])
    (hz : ∀ i ys, J i ys → ys.length ≤ 1000000)
    (turn : ∀ i X' C mC ys h t v, i < n → J i ys → val i v → mC x = some v → Fm H X' B N C mC h →
      wpAny (model prog w) A (eval kx (cEnv scope cl C env)) (fun kv s₃ => ∃ h' t' key u, kv = .int key u ∧ s₃ = S s h' t' ∧ Fm H X' B N C mC h' ∧
        wpAny (model prog w) A (eval vx (cEnv scope cl C env)) (DPost H X' B N C mC s (J (i + 1)) ys key) noE (S s h' t')) noE (S s h t))
    (done : ∀ ys h t D o, J n ys → Fm H X (B.set D o) N L (upd m y (.ref D)) h → o.IsDictOf (intKind prog w) ys → B D = none → (D == sysModules) = false → Q (S s h t))
    (hclos : closureFor scope env = pure cl)
    (hcell : ∀ y ∈ scope.names, y.2 ≠ .cell := by decide) (hkind : scope.kind = .function := by rfl) (hx : scope.names.lookup x = some .local := by rfl)
    (hL : env.locals = L := by rfl) (hke : env.scope.kind = .function := by rfl) (hly : env.kindOf y = some .local := by rfl) :
    wpAny (model prog w) A newDict (fun acc s₃ => wpAny (model prog w) A (newFunctionEnv scope env.globals cl [] env.qual none .none (some env)) (fun cenv s₄ =>
      codeAny (model prog w) A (.compStart (.DictComp kx vx [⟨.Name x px, iter, [], 0⟩] scope pos) 0 (.ref I) acc { cenv with scope := relabel scope env }) (compPost (model prog w) A noE (some (assign (.Name y py) env)) (fun _ s' => Q s') acc cenv.locals) s₄) noE s₃) noE (S s h t) := by
  have F1 := F.hold k fresh ho
  refine wpAny_newObj_type (wpAny_newFunctionEnv hcell (by intro y hy; simp at hy) (fun h₁ hns₁ hsb₁ => ?_) hkind) (by size_fits)
  dsimp only at hns₁ hsb₁ ⊢
  have hfD : h.get? h.objs.size = none := get?_size h
  have hDbig : (h.objs.size == sysModules) = false := by
    obtain ⟨o2, ho2⟩ := hbig
    have := Heap.lt_size (F1.keep _ _ ho2)
    have h1 : sysModules = 1 := rfl
    rw [h1]; exact beq_false_of_ne (Nat.ne_of_gt (Nat.lt_trans (by decide) this))
  have hnew := Heap.DictOf.new (knd := intKind prog w) h
  generalize hD : h.objs.size = D at *
  obtain ⟨oD, hpl, hdD⟩ := Heap.dictOf_iff.mp hnew
  have F2 := F1.hold (Kp.push h _) hfD hpl
  have hfC := get?_size (h.push { cls := .type "dict", dict := none, data := .dict #[] })
  generalize hH2 : h.push { cls := .type "dict", dict := none, data := .dict #[] } = H2 at *
  have hkC : Kp H2 h₁ := fun b o e => hsb₁.extBut b o (Nat.ne_of_lt (Heap.lt_size e)) (Heap.get?_push_of_some _ e)
  obtain ⟨oL, hoL, F3⟩ := F2.switch hfC hkC hns₁
  generalize hC : H2.objs.size = C at *
  have hIL : I ≠ L := F.freshL fresh
  have hDL : D ≠ L := F1.freshL hfD
  have hDI : D ≠ I := by rintro rfl; rw [ho] at hfD; cases hfD
  have hXI : X I = none := F.freshX fresh
  have hXD : X D = none := by have := F1.freshX hfD; rwa [Mp.set_ne hDI] at this
  have hBD : B D = none := F1.freshB hfD
  have hND : N D = none := F1.freshN hfD
  have hoL0 : h₀.get? L = some oL := by
    obtain ⟨o0, _, _, ho0, _⟩ := F.ns
    have h1 : H2.get? L = some o0 := by rw [← hH2]; exact Heap.get?_push_of_some _ (k _ _ ho0)
    rw [hoL] at h1; cases h1; exact ho0
  have loop : ∀ s₀ : Shared, s₀ = S s h₁ (t + ([] : List (Str × Value)).length) →
      codeAny (model prog w) A (.compLoop (.DictComp kx vx [⟨.Name x px, iter, [], 0⟩] scope pos) 0 (.ref I) (.ref D) (cEnv scope cl C env)) (compPost (model prog w) A noE (some (assign (.Name y py) env)) (fun _ s' => Q s') (.ref D) C) s₀ := by
    rintro s₀ rfl
    refine codeAny_compLoop_testsD (fun j s' => ∃ i h t oI oD mC ys, s' = S s h t ∧ i ≤ n ∧ j = n + 1 - i ∧ Fm H (((X.set I oI).set D oD).set L oL) B N C mC h ∧ oD.IsDictOf (intKind prog w) ys ∧ st i oI ∧ J i ys) ?_ (n + 1)
      ⟨0, h₁, _, o, oD, _, [], rfl, Nat.zero_le _, rfl, F3, hdD, hst, J0⟩
    rintro j s' ⟨i, h', t', oI, oD', mC, ys, rfl, hi, rfl, F', hdD', hst', hJ⟩
    have hP' : P h' := hP h' F'.keep
    have hxI : (((X.set I oI).set D oD').set L oL) I = some oI := by rw [Mp.set_ne hIL, Mp.set_ne (Ne.symm hDI), Mp.set_same]
    by_cases hlt : i < n
    · refine it.next i hlt hP' (F'.held _ _ hxI) hst' fun h2 t2 v oI' hv ho2 hst2 hs2 => ?_
      have F2' := F'.reheld hxI hs2.extBut ho2
      rw [Mp.set_comm _ (Ne.symm hIL), Mp.set_comm _ hDI, Mp.set_set] at F2'
      refine wpAny_assign_Name (st_local F2' (fun h3 t3 F3' => ?_) rfl hkind (lookup_relabel_local hx))
      refine wpAny_tests_nil ?_
      rw [if_pos rfl]
      refine wpAny_mono (turn i _ C _ ys h3 t3 v hlt hJ hv upd_same F3') (fun kv s₃ hkv => ?_) fun _ _ x => x.elim
      obtain ⟨h4, t4, key, u4, rfl, rfl, F4, hv4⟩ := hkv
      refine wpAny_mono hv4 (fun vv s₄ hvv => ?_) fun _ _ x => x.elim
      obtain ⟨h5, t5, rfl, F5, hJ5⟩ := hvv
      have hxD5 : (((X.set I oI').set D oD').set L oL) D = some oD' := by rw [Mp.set_ne hDL, Mp.set_same]
      refine wpAny_dictSet_pairs (s := S s h5 t5) (knd := intKind prog w) (k := key) (kvs := ys) (intKind_is prog w key u4) (Heap.dictOf_iff.mpr ⟨oD', F5.held _ _ hxD5, hdD'⟩) (fun h6 hd6 hs6 => ?_)
        (by simpa [sizeLine] using Nat.le_trans (hz _ _ hJ) (by decide))
      obtain ⟨oD6, ho6, hdD6⟩ := Heap.dictOf_iff.mp hd6
      have F6 := F5.reheld hxD5 hs6.extBut ho6
      rw [Mp.set_comm _ (Ne.symm hDL), Mp.set_set] at F6
      exact ⟨n + 1 - (i + 1), by omega, i + 1, h6, _, oI', oD6, _, stored ys key vv, rfl, hlt, rfl, F6, hdD6, hst2, hJ5⟩
    · have hin : i = n := by omega
      subst hin
      refine it.fin hh hP' (F'.held _ _ hxI) hst' fun h2 hs2 => ?_
      have F2' : Fm H ((X.set D oD').set L oL) B N C mC h2 := by
        refine F'.drop hxI hs2 (fun b o q => ?_) ?_
        · by_cases hb : b = L
          · subst hb; rw [Mp.set_same] at q ⊢; exact q
          · rw [Mp.set_ne hb] at q ⊢
            by_cases hb' : b = D
            · subst hb'; rw [Mp.set_same] at q ⊢; exact q
            · rw [Mp.set_ne hb'] at q ⊢
              rw [Mp.set_ne (by rintro rfl; rw [hXI] at q; cases q)]; exact q
        · rw [Mp.set_ne hIL, Mp.set_ne (Ne.symm hDI)]; exact hXI
      have hXL : (X.set D oD') L = none := by rw [Mp.set_ne (Ne.symm hDL)]; exact F.heldL
      obtain ⟨oC, hoC, hXC, F4⟩ := Fm.backC (X' := X.set D oD') F hoL0 F2' hXL
      show wpAny _ A (assign (.Name y py) env (.ref D)) _ _ _
      refine wpAny_assign_Name (st_local F4 (fun h3 t3 F5 => ?_) hL hke hly)
      obtain ⟨oC', es, ep, hoC', hr⟩ := F2'.ns
      rw [hoC] at hoC'; cases hoC'
      refine ⟨mC, ⟨oC, es, ep, F5.held _ _ Mp.set_same, hr⟩, fun h6 hs6 => ?_⟩
      have F6 : Fm H (X.set D oD') B N L (upd m y (.ref D)) h6 := F5.drop (o := oC) Mp.set_same hs6.extBut (fun b o q => by rw [Mp.set_ne (by rintro rfl; rw [hXC] at q; cases q)]; exact q) hXC
      have hD4 : h6.get? D = some oD' := F6.held _ _ Mp.set_same
      have F7 := F6.lessX (X' := X) fun b o q => by rw [Mp.set_ne (by rintro rfl; rw [hXD] at q; cases q)]; exact q
      exact done ys h6 t3 D oD' hJ (F7.adopt hD4 hXD hBD hND hDL) hdD' hBD hDbig
  have hoI : h₁.get? I = some o := hkC _ _ (by rw [← hH2]; exact Heap.get?_push_of_some _ ho)
  exact codeAny_compStart_dict (loop _ rfl) (it.self 0 hoI hst (loop _ rfl))

theorem ex_dictcomp {kx vx iter : Expr} {x y : Str} {px py pos spos : Pos} {scope : Scope} {cl : List (Str × Addr)} {Q : Flow → Shared → Prop}
    (hQ : wpAny (model prog w) A (eval iter env) (fun xv s₁ => wpAny (model prog w) A (pyIter xv) (fun itv s₂ => wpAny (model prog w) A newDict (fun acc s₃ => wpAny (model prog w) A (newFunctionEnv scope env.globals cl [] env.qual none .none (some env)) (fun cenv s₄ =>
      codeAny (model prog w) A (.compStart (.DictComp kx vx [⟨.Name x px, iter, [], 0⟩] scope pos) 0 itv acc { cenv with scope := relabel scope env }) (compPost (model prog w) A noE (some (assign (.Name y py) env)) (fun _ s' => Q .next s') acc cenv.locals) s₄) noE s₃) noE s₂) noE s₁) noE (S s h t))
    (hclos : closureFor scope env = pure cl) (hsw : swapsWith (.DictComp kx vx [⟨.Name x px, iter, [], 0⟩] scope pos) (some (.Name y py)) spos.line env = pure true)
    (hkind : scope.kind = .function := by rfl) (hnames : ∀ y ∈ scope.names, y.2 = .local → scope.names.lookup y.1 = some .local := by decide)
    (hs : ∀ x, foldedSetIterable iter env x = pure x := by intro _; rfl) :
    wpAny (model prog w) A (exec (.Assign [.Name y py] (.DictComp kx vx [⟨.Name x px, iter, [], 0⟩] scope pos) spos) env) Q noE (S s h t) := by
  rw [exec_Assign_Name_used _ _ _ _ hsw]
  refine wpAny_bind (wpAny_standAt (wpAny_bind ?_))
  show wpAny _ A (do let _ ← comprehension (.DictComp kx vx [⟨.Name x px, iter, [], 0⟩] scope pos) scope env _ newDict false (eval iter env) (some (assign (.Name y py) env))) _ _ _
  exact wpAny_bind (wpAny_mono (wpAny_comprehension_free (use := some (assign (.Name y py) env)) (Q := fun _ s' => Q .next s') rfl hs hclos hkind hnames hQ) (fun _ s' hq => wpAny_pure (wpAny_pure hq)) fun _ _ e => e)
end

-- NF
def sP (p : Nat) : Nat := if p = 0 then 43 else if p = 1 then 47 else if p < 12 then 46 + p else if p < 38 then 53 + p else 59 + p
def stab : List UInt8 := (List.range 64).map fun p => (sP p).toUInt8
theorem stab_get {p : Nat} (h : p < 64) : (stab.getD p 0).toNat = sP p := by
  have : ∀ p, p < 64 → (stab.getD p 0).toNat = sP p := by decide
  exact this p h
theorem sP_inj {p q : Nat} (hp : p < 64) (hq : q < 64) (e : sP p = sP q) : p = q := by
  have : ∀ p, p < 64 → ∀ q, q < 64 → sP p = sP q → p = q := by decide +kernel
  exact this p hp q hq e
def Dt (i : Nat) : List (PyData × PyData) := (List.range i).map fun p => (PyData.int (sP p), PyData.int ((p : Int) + 1))
theorem Dt_succ (i : Nat) : Dt (i + 1) = Dt i ++ [(PyData.int (sP i), PyData.int ((i : Int) + 1))] := by simp [Dt, List.range_succ]
theorem Dt_look {b : Nat} (h : b < 64) : PySem.Spec.lookup (.int (sgnN b)) (Dt 64) = some (.int (wd b)) := by
  have : ∀ b, b < 64 → (match PySem.Spec.lookup (.int (sgnN b)) (Dt 64) with | some (.int x) => decide (x = (wd b : Int)) | _ => false) = true := by decide +kernel
  have := this b h
  split at this
  · rename_i x hx; rw [hx, of_decide_eq_true this]
  · cases this
theorem flat_snoc {k : Int} {v : Value} {d : PyData} (hf : PyProof.V.Flat v d) : ∀ {kvs : List (Int × Value)} {D : List (PyData × PyData)}, PyProof.V.FlatPairs PyData.int kvs D → PyProof.V.FlatPairs PyData.int (kvs ++ [(k, v)]) (D ++ [(PyData.int k, d)])
  | _, _, .nil => .cons hf .nil
  | _, _, .cons h t => .cons h (flat_snoc hf t)
theorem stored_new {kvs : List (Int × Value)} {k : Int} {v : Value} (h : k ∉ kvs.map (·.1)) : stored kvs k v = kvs ++ [(k, v)] := by
  unfold stored
  rw [if_neg]
  intro q
  obtain ⟨p, hp, e⟩ := List.any_eq_true.mp q
  exact h (List.mem_map.mpr ⟨p, hp, of_decide_eq_true e⟩)
def quadU (v : Nat) : List UInt8 := (quad v).map fun n => n.toUInt8
theorem quadU_get (v : Nat) (hv : v < 16777216) : ∀ (k : Nat) (c : UInt8), (quadU v)[k]? = some c → k < 4 ∧ c.toNat = sgnN (v / 64 ^ (3 - k) % 64) := by
  have f : ∀ n, n < 256 → n.toUInt8.toNat = n := fun n hn => by simp; omega
  have g : ∀ n, sgnN (n % 64) < 256 := fun n => sgnN_lt _ (Nat.mod_lt _ (by decide))
  have e : v / 262144 = v / 262144 % 64 := by omega
  intro k c hc
  match k with
  | 0 => simp only [quadU, quad, List.map_cons, List.getElem?_cons_zero, Option.some.injEq] at hc; subst hc; exact ⟨by decide, by rw [show v / 64 ^ (3 - 0) % 64 = v / 262144 from e.symm]; exact f _ (by rw [e]; exact g _)⟩
  | 1 => simp only [quadU, quad, List.map_cons, List.getElem?_cons_succ, List.getElem?_cons_zero, Option.some.injEq] at hc; subst hc; exact ⟨by decide, f _ (g _)⟩
  | 2 => simp only [quadU, quad, List.map_cons, List.getElem?_cons_succ, List.getElem?_cons_zero, Option.some.injEq] at hc; subst hc; exact ⟨by decide, f _ (g _)⟩
  | 3 => simp only [quadU, quad, List.map_cons, List.getElem?_cons_succ, List.getElem?_cons_zero, Option.some.injEq] at hc; subst hc; exact ⟨by decide, by rw [f _ (g _)]; simp⟩
  | k + 4 => simp [quadU, quad] at hc
theorem qtext_cons (v : Nat) (ns : List Nat) : qtext (v :: ns) = quadU v ++ qtext ns := by simp [qtext, quadU]
theorem qtext_append (a b : List Nat) : qtext (a ++ b) = qtext a ++ qtext b := by simp [qtext]
theorem quadU_len (v : Nat) : (quadU v).length = 4 := rfl
theorem qtext_len : ∀ ns : List Nat, (qtext ns).length = 4 * ns.length
  | [] => rfl
  | v :: ns => by rw [qtext_cons, List.length_append, quadU_len, qtext_len ns, List.length_cons]; omega
theorem qtext_cut : ∀ (ns : List Nat) (i : Nat) (v : Nat), ns[i]? = some v → ((qtext ns).drop (4 * i)).take 4 = quadU v
  | x :: ns, 0, v, h => by
    simp at h; subst h
    rw [qtext_cons, Nat.mul_zero, List.drop_zero]
    exact List.take_left' (quadU_len x)
  | x :: ns, i + 1, v, h => by
    rw [qtext_cons, show 4 * (i + 1) = (quadU x).length + 4 * i by rw [quadU_len]; omega, List.drop_append, List.drop_eq_nil_of_le (by omega), List.nil_append, Nat.add_sub_cancel_left]
    exact qtext_cut ns i v (by simpa using h)
theorem picked_cut (ns : List Nat) (i v : Nat) (h : ns[i]? = some v) : KBy.picked (qtext ns).toArray (some ((4 * i : Nat) : Int)) (some (((4 * i : Nat) : Int) + 4)) = (quadU v).toArray := by
  have hi : i < ns.length := (List.getElem?_eq_some_iff.mp h).1
  have hl := qtext_len ns
  rw [KBc.picked_eq]
  simp only [Option.elim_some, List.size_toArray, show ((4 * i : Nat) : Int) + 4 = ((4 * i + 4 : Nat) : Int) by push_cast; rfl, clipAt_nat]
  rw [Nat.min_eq_left (by omega), Nat.min_eq_left (by omega), show 4 * i + 4 - 4 * i = 4 by omega, qtext_cut ns i v h]
section
variable {prog : Program} {w : World} {A : Around} {E : Value → Shared → Prop} {s : Shared} {h : Heap} {t : Nat} {env : Env}
  {mg mb : Lc} {H : Heap} {X B : Mp} {N : Mu} {L : Addr} {m : Lc}
theorem ev_bytes' {b b' : List UInt8} {k : Nat} {pos : Pos} {Q : Value → Shared → Prop} (hb : b = b') (hQ : ∀ u t', Q (.bytes b'.toArray u) (S s h t')) : wpAny (model prog w) A (eval (.Constant (.bytes b) k pos) env) Q E (S s h t) := by
  subst hb; exact ev_bytes hQ
theorem mk_range3 {a b c : Int} {u v x : Tok} {Q : Value → Shared → Prop} (hc : c ≠ 0) (hl : c.natAbs.log2 < 9000) (hQ : ∀ r h' t', h.get? r = none → Kp h h' → IsRange h' r a b c u v x → Q (.ref r) (S s h' t')) :
    wpAny (model prog w) A (call (.type "range") [.int a u, .int b v, .int c x]) Q E (S s h t) :=
  call_range_3 hc (hQ _ _ _ (get?_size h) (Kp.push _ _) (Heap.get?_push_size _ rfl)) (Or.inl (PyProof.noPylong_of_log2 hl))
theorem len_bts {b : Array UInt8} {u : Tok} {Q : Value → Shared → Prop} (hfit : b.size ≤ 1000000) (hQ : ∀ u t', Q (.int b.size u) (S s h t')) : wpAny (model prog w) A (call (.builtin "len") [.bytes b u]) Q E (S s h t) :=
  len_bytes (by omega) (hQ _ _)
abbrev wsInv1 (B7 : Mp) (a D : Addr) (ns : List Nat) (u : Tok) (i : Nat) (B' : Mp) (N' : Mu) (m' : Lc) : Prop :=
  B' = B7 ∧ ∃ vs, N' = one a vs ∧ IntsAre vs (toI ((ns.take i).map wgt)) ∧ m' "weights" = some (.ref a) ∧ m' "table" = some (.ref D) ∧ m' "text" = some (.bytes (qtext ns).toArray u)
abbrev wsInv2 (B' : Mp) (a D : Addr) (ns : List Nat) (u : Tok) (vs : List Value) (v j : Nat) (B'' : Mp) (N'' : Mu) (m'' : Lc) : Prop :=
  B'' = B' ∧ N'' = one a vs ∧ HasInt m'' "weight" (wfold v j) ∧ m'' "weights" = some (.ref a) ∧ m'' "table" = some (.ref D) ∧ m'' "text" = some (.bytes (qtext ns).toArray u)
theorem weights_spec {Q : Value → Shared → Prop} {ns : List Nat} {u : Tok} (amb : Amb w mg mb H) (hA : Rm 1 A) (top : Kp H h) (hn : ∀ n ∈ ns, n < 16777216) (hz : ns.length ≤ 300)
    (hQ : ∀ h' t' a vs, Kp h h' → h.get? a = none → h'.PlainList a (List.toArray vs) → IntsAre vs (toI (ns.map wgt)) → Q (.ref a) (S s h' t')) : wpAny (model prog w) A (call (.ref 103) [.bytes (qtext ns).toArray u]) Q E (S s h t) := by
  refine call_fnC [("text", .bytes (qtext ns).toArray u)] amb hA top rfl rfl rfl rfl ?_
  intro L h₁ t₁ hL hcs hcell hns hk hA'
  have F := Fm.entryC top hL hcs hns hk
  simp only [bnd, List.foldl] at F
  obtain ⟨oc, hoc, hdc⟩ := hcell "signs" (L + 1) rfl
  have hXc := cellsX_get (cs := [("signs", L + 1)]) (List.mem_cons_self ..) hoc
  change Fm H (cellsX [("signs", L + 1)] h₁) h.get? noN L _ h₁ at F
  generalize A.deeper _ = A' at hA' ⊢
  clear hns hA
  refine wpAny_execs_cons ?_
  refine wpAny_Assign_Name ?_
  refine ev_bytes' (b' := stab) (by decide +kernel) ?_
  intro u1 t1
  refine st_cell F rfl hXc hdc ?_
  intro h2 B2 hle2 hcell2 hB2 F2
  have hbig : ∃ o, B2 2 = some o := by
    obtain ⟨mc, ⟨o, _, _, ho, _⟩, _⟩ := amb.nolimit
    exact ⟨o, hle2 _ _ (top _ _ ho)⟩
  repeat walk_at "ms"
  refine ex_dictcomp ?_ rfl rfl
  repeat walk_at "ms"
  refine mk_range1 ?_
  intro r5 h5 t5 u5 v5 f5 k5 hr5
  refine pit_range (n := 64) hr5 (range_small (n := 64) (rangeSize0 64) (by decide) (by decide) (by decide) (by decide)) (rangeSize0 64) ?_
  intro I h6 o6 f6 k6 ho6 hst6
  refine comp_useD itr_range hA'.handled (F2.ext k5) f6 k6 ho6 hst6 (fun _ _ => trivial) hbig
    (fun i ys => PyProof.V.FlatPairs PyData.int ys (Dt i) ∧ ys.map (·.1) = (List.range i).map (fun p => (sP p : Int)) ∧ i ≤ 64) ⟨.nil, rfl, by decide⟩ ?_ ?_ ?_ rfl
  · rintro i ys ⟨-, e, hi⟩
    have := congrArg List.length e
    simp at this
    omega
  · rintro i X' C mC ys h7 t7 v hi7 ⟨hf, hks, hi64⟩ ⟨u7, rfl⟩ hmC F7
    repeat walk_at "ms"
    refine sub_bytes (by omega) (by rw [show stab.length = 64 from by decide]; omega) (by decide) ?_
    intro u8 t8
    rw [show (0 + (i : Int) * 1).toNat = i by omega, stab_get hi7]
    refine ⟨_, _, _, _, rfl, rfl, F7, ?_⟩
    repeat walk_at "ms"
    refine ⟨_, _, rfl, F7, ?_⟩
    have hnew : ((sP i : Nat) : Int) ∉ ys.map (·.1) := by
      rw [hks]
      intro q
      obtain ⟨p, hp, e⟩ := List.mem_map.mp q
      have hp' := List.mem_range.mp hp
      have := sP_inj (p := p) (q := i) (by omega) hi7 (by omega)
      omega
    rw [stored_new hnew]
    refine ⟨?_, ?_, by omega⟩
    · rw [Dt_succ]
      refine flat_snoc ?_ hf
      have e : 0 + (i : Int) * 1 + 1 = (i : Int) + 1 := by omega
      rw [e]; exact PyProof.V.Flat.int _ _
    · rw [List.map_append, hks, List.range_succ, List.map_append]; rfl
  · rintro ys h7 t7 D oD ⟨hf, -, -⟩ F7 hdD hBD hDs
    have hle7 : B2.le (B2.set D oD) := le_set hBD
    have hD7 : (B2.set D oD) D = some oD := Mp.set_same
    generalize B2.set D oD = B7 at *
    have hle : Mp.le h.get? B7 := hle2.trans hle7
    repeat walk_at "ms"
    refine mk_list (by simp) ?_
    intro a h8 f8 k8 l8
    have F8 := F7.learnN k8 f8 l8
    rw [one_of_set] at F8
    repeat walk_at "ms"
    rename_i h9 t9 F9
    have ha0 : h.get? a = none := by
      cases q : h.get? a with
      | none => rfl
      | some o => have := F7.keep _ _ (hle _ _ q); rw [f8] at this; cases this
    refine wpAny_For ?_
    repeat walk_at "ms"
    have hql := qtext_len ns
    refine len_bts (by simp; omega) ?_
    intro _ _
    repeat walk_at "ms"
    refine mk_range3 (by decide) (by decide +kernel) ?_
    intro r1 h10 t10 f10 k10 hr10
    have hsz : Builtin.Range.rangeSize 0 ((qtext ns).toArray.size : Int) 4 = (ns.length : Nat) := by
      rw [List.size_toArray, hql]
      unfold Builtin.Range.rangeSize
      rw [if_pos (by decide)]
      split <;> omega
    refine pit_range (n := ns.length) hr10 (range_small hsz (by decide) (by simp; omega) (by decide) (by omega)) hsz ?_
    intro I2 h11 o11 f11 k11 ho11 hst11
    refine for_loop itr_range hA'.handled (F9.ext k10) f11 k11 ho11 hst11 (fun _ _ => trivial)
      (wsInv1 B7 a D ns u)
      ⟨rfl, [], rfl, .nil, by walk_at "lk", by walk_at "lk", by walk_at "lk"⟩ ?_ ?_
    · rintro i X' B' N' m' h12 t12 x hi - ⟨rfl, vs, rfl, hvs, m1, m2, m3⟩ ⟨u12, rfl⟩ F12
      obtain ⟨v, hv⟩ : ∃ v, ns[i]? = some v := ⟨ns[i], List.getElem?_eq_getElem hi⟩
      have hvl := hn v (List.mem_of_getElem? hv)
      have htk : ns.take (i + 1) = ns.take i ++ [v] := by rw [List.take_add_one, hv]; rfl
      repeat walk_at "ms"
      rename_i h13 t13 F13
      refine wpAny_For ?_
      repeat walk_at "ms"
      refine ev_slice ?_
      refine evalPart_some_step ?_
      repeat walk_at "ms"
      refine evalPart_some_step ?_
      repeat walk_at "ms"
      refine ⟨_, _, rfl, ?_⟩
      intro sl h14 f14 k14 hsl
      have F14 := F13.ext k14
      refine sub_slice_bytes hsl (.int _ _) (.int _ _) (by simp; omega) ?_
      intro u15 t15
      rw [show (0 : Int) + (i : Int) * 4 = ((4 * i : Nat) : Int) by omega, picked_cut ns i v hv]
      refine pit_bytes ?_
      intro I3 h16 o16 f16 k16 ho16 hst16
      refine for_loop itr_bytes hA'.handled F14 f16 k16 ho16 hst16 (fun _ _ => trivial)
        (wsInv2 B' a D ns u vs v)
        ⟨rfl, rfl, HasInt.of (i := 0) ⟨_, by walk_at "lk"⟩ rfl, by walk_at "lk", by walk_at "lk", by walk_at "lk"⟩ ?_ ?_
      · rintro j X'' B'' N'' m'' h17 t17 y hj - ⟨rfl, rfl, ⟨u17, n1⟩, n2, n3, n4⟩ ⟨c, q17, hc, rfl⟩ F17
        obtain ⟨hj4, hcv⟩ := quadU_get v hvl j c (by simpa using hc)
        have hbl : v / 64 ^ (3 - j) % 64 < 64 := Nat.mod_lt _ (by decide)
        have hwl := wfold_lt v j
        have hw4 : 65 ^ j ≤ 65 ^ 4 := Nat.pow_le_pow_right (by decide) (by omega)
        repeat walk_at "ms"
        refine op_mul (PySem.IntMulOk.of_right (PySem.intBits_le_64 (by decide) (by decide))) ?_; intro _ _
        repeat walk_at "ms"
        have T : IntTab prog w h17 D (Dt 64) := ⟨hDs, ys, Heap.dictOf_iff.mpr ⟨oD, F17.keep _ _ hD7, hdD⟩, hf⟩
        refine getMethod_intTab_get (s := S s h17 _) T ?_
        repeat walk_at "ms"
        refine call_get2_intTab (s := S s h17 _) T (PyProof.V.Flat.int 0 _) ?_
        intro vv hvv
        rw [hcv, Dt_look hbl] at hvv
        obtain ⟨tv, rfl⟩ := PyProof.V.Flat.int_inv hvv
        repeat walk_at "ms"
        refine ⟨.inl rfl, _, _, _, _, _, rfl, Mp.le.refl _, by assumption, rfl, rfl, HasInt.of ⟨_, by walk_at "lk"⟩ ?_, by walk_at "lk", by walk_at "lk", by walk_at "lk"⟩
        simp only [wfold]; push_cast; rfl
      · rintro B'' N'' m'' h17 t17 - ⟨rfl, rfl, ⟨u17, n1⟩, n2, n3, n4⟩ F17
        rw [show (quadU v).toArray.size = 4 from rfl] at n1
        repeat walk_at "ms"
        refine meth_append (F17.own _ _ one_same) ?_
        repeat walk_at "ms"
        refine append_lst F17 one_same (by rw [hvs.length, toI_len, List.length_map, List.length_take]; omega) ?_
        intro h18 F18
        rw [one_set] at F18
        dsimp only
        repeat walk_at "ms"
        refine ⟨.inl rfl, _, _, _, _, _, rfl, Mp.le.refl _, F18, rfl, _, rfl, ?_, n2, n3, n4⟩
        rw [htk, List.map_append, List.map_singleton, toI_snoc]
        exact ints_snoc rfl hvs
    · rintro B' N' m' h12 t12 - ⟨rfl, vs, rfl, hvs, m1, m2, m3⟩ F12
      rw [List.take_length] at hvs
      repeat walk_at "ms"
      exact hQ _ _ _ _ (F12.exit hle) ha0 (F12.own _ _ one_same) hvs
end

-- NG
def nlt : List Nat → List Nat → Bool
  | [], [] => false
  | [], _ :: _ => true
  | _ :: _, [] => false
  | a :: as, b :: bs => if a = b then nlt as bs else decide (a < b)
theorem ints_get {vs : List Value} {l : List Nat} (hi : IntsAre vs (toI l)) {i : Nat} (h : i < l.length) : ∃ u, vs[i]? = some (.int (l[i] : Nat) u) := by
  have hv : i < vs.length := by rw [hi.length, toI_len]; exact h
  obtain ⟨n, u, e, hn⟩ := IntsAre.at hi i vs[i] (List.getElem?_eq_getElem hv)
  have : n = (l[i] : Nat) := by
    have q : (toI l)[i]? = some ((l[i] : Nat) : Int) := by simp [toI, h]
    rw [q] at hn; exact (Option.some.inj hn).symm
  exact ⟨u, by rw [List.getElem?_eq_getElem hv, e, this]⟩
theorem nlt_drop {l l2 : List Nat} {i : Nat} (h : i < l.length) (h2 : i < l2.length) : nlt (l.drop i) (l2.drop i) = if l[i] = l2[i] then nlt (l.drop (i+1)) (l2.drop (i+1)) else decide (l[i] < l2[i]) := by
  rw [List.drop_eq_getElem_cons h, List.drop_eq_getElem_cons h2]; rfl
theorem lt_loop (l b : Addr) (items items2 : List Value) (n n2 : Nat) (xs ys : List Nat) (h1 : IntsAre items (toI xs)) (h2 : IntsAre items2 (toI ys)) (k : Nat) :
    ∀ i : Nat, xs.length - i = k → i ≤ xs.length → Meets (Builtin.«list.__eq__.loop» ⟨[.ref l, .ref b, rawInt i, rawInt 0], []⟩)
      (fun A R s => s.heap.get? l = some { cls := .type "list", dict := none, data := .seq items.toArray n, slots := #[] } ∧ s.heap.get? b = some { cls := .type "list", dict := none, data := .seq items2.toArray n2, slots := #[] } ∧
        R (.ok (.ret (.bool (nlt (xs.drop i) (ys.drop i))))) s) := by
  have z1 : items.length = xs.length := by rw [h1.length, toI_len]
  have z2 : items2.length = ys.length := by rw [h2.length, toI_len]
  induction k with
  | zero =>
    intro i hk hle prog w A R s h
    have hi : i = xs.length := by omega
    subst hi
    obtain ⟨hp, g, d, tk, os⟩ := s; obtain ⟨hl, hb, h⟩ := h
    wp_walk using AutoSeq1.wpAny_loadPart' hl, AutoSeq1.wpAny_loadPart' hb
    have hi1 : items.toArray[((xs.length : Nat) : Int).toNat]? = none := by simp; omega
    rw [hi1]
    wp_walk using AutoSeq1.wpAny_loadPart' hl, AutoSeq1.wpAny_loadPart' hb
    rw [List.drop_length] at h
    show R (.ok (.ret (.bool (decide (items.toArray.size < items2.toArray.size))))) _
    have e : decide (items.toArray.size < items2.toArray.size) = nlt [] (ys.drop xs.length) := by
      simp only [List.size_toArray, z1, z2]
      by_cases q : xs.length < ys.length
      · rw [decide_eq_true q, List.drop_eq_getElem_cons q]; rfl
      · rw [decide_eq_false q, List.drop_eq_nil_of_le (by omega)]; rfl
    rw [e]; exact h
  | succ k ih =>
    intro i hk hle prog w A R s h
    have hlt : i < xs.length := by omega
    obtain ⟨hp, g, d, tk, os⟩ := s; obtain ⟨hl, hb, h⟩ := h
    wp_walk using AutoSeq1.wpAny_loadPart' hl, AutoSeq1.wpAny_loadPart' hb
    obtain ⟨u, hu⟩ := ints_get h1 hlt
    have hi1 : items.toArray[((i : Nat) : Int).toNat]? = some (.int (xs[i] : Nat) u) := by simpa using hu
    have hc : ((i : Int) + 1) = ((i + 1 : Nat) : Int) := by push_cast; rfl
    by_cases hlt2 : i < ys.length
    · obtain ⟨u2, hu2⟩ := ints_get h2 hlt2
      have hi2 : items2.toArray[((i : Nat) : Int).toNat]? = some (.int (ys[i] : Nat) u2) := by simpa using hu2
      rw [hi1, hi2]
      rw [nlt_drop hlt hlt2] at h
      refine wpAny_bind (wpAny_eqBool_int ?_)
      by_cases q : xs[i] = ys[i]
      · rw [if_pos q] at h
        have e : (((xs[i] : Nat) : Int) == ((ys[i] : Nat) : Int)) = true := by rw [q]; exact beq_self_eq_true _
        rw [e]
        wp_walk
        rw [hc]
        exact ⟨plainId_quiet MeetsSeq3.plain_eq_loop _, codeAny_builtin MeetsSeq3.entry_eq_loop (by
          rw [Around.under_plainId MeetsSeq3.plain_eq_loop _]
          exact ih (i + 1) (by omega) (by omega) prog w A R _ ⟨hl, hb, h⟩)⟩
      · rw [if_neg q] at h
        have e : (((xs[i] : Nat) : Int) == ((ys[i] : Nat) : Int)) = false := beq_eq_false_iff_ne.mpr (by omega)
        rw [e]
        wp_walk using AutoSeq1.wpAny_loadPart' hl, AutoSeq1.wpAny_loadPart' hb
        rw [hi1, hi2]
        refine wpAny_bind (PyProof.Rows.lt_int ?_)
        wp_walk
        have e2 : decide (((xs[i] : Nat) : Int) < ((ys[i] : Nat) : Int)) = decide (xs[i] < ys[i]) := by
          rw [decide_eq_decide]; omega
        rw [e2]; exact h
    · have hi2 : items2.toArray[((i : Nat) : Int).toNat]? = none := by simp; omega
      rw [hi1, hi2]
      wp_walk using AutoSeq1.wpAny_loadPart' hl, AutoSeq1.wpAny_loadPart' hb
      rw [List.drop_eq_getElem_cons hlt, List.drop_eq_nil_of_le (by omega : ys.length ≤ i)] at h
      show R (.ok (.ret (.bool (decide (items.toArray.size < items2.toArray.size))))) _
      rw [decide_eq_false (by simp; omega)]
      exact h
theorem list_lt (l b : Addr) (items items2 : List Value) (n n2 : Nat) (xs ys : List Nat) (h1 : IntsAre items (toI xs)) (h2 : IntsAre items2 (toI ys)) :
    Meets (Builtin.«list.__lt__» ⟨[.ref l, .ref b], []⟩)
      (fun _ R s => s.heap.get? l = some { cls := .type "list", dict := none, data := .seq items.toArray n, slots := #[] } ∧ s.heap.get? b = some { cls := .type "list", dict := none, data := .seq items2.toArray n2, slots := #[] } ∧
        R (.ok (.ret (.bool (nlt xs ys)))) s) := by
  intro prog w A R s h
  obtain ⟨hp, g, d, tk, os⟩ := s; obtain ⟨hl, hb, h⟩ := h
  have f3 := AutoSeq1.sub_list_list
  wp_walk using AutoSeq1.wpAny_loadPart' hl, AutoSeq1.wpAny_loadPart' hb
  exact ⟨plainId_quiet MeetsSeq3.plain_eq_loop _, codeAny_builtin MeetsSeq3.entry_eq_loop (by
    rw [Around.under_plainId MeetsSeq3.plain_eq_loop _]
    exact lt_loop l b items items2 n n2 xs ys h1 h2 _ 0 rfl (Nat.zero_le _) prog w A R _ ⟨hl, hb, h⟩)⟩
/-- a list of ints that stands still -/
def IsNats (B : Mp) (v : Value) (l : List Nat) : Prop := ∃ a vs n, v = .ref a ∧ B a = some (lstObj vs n) ∧ IntsAre vs (toI l)
theorem IsNats.le {B B' : Mp} {v : Value} {l : List Nat} (x : IsNats B v l) (k : B.le B') : IsNats B' v l := let ⟨a, vs, n, h1, h2, h3⟩ := x; ⟨a, vs, n, h1, k _ _ h2, h3⟩
section
variable {prog : Program} {w : World} {A : Around} {E : Value → Shared → Prop} {s : Shared}
theorem rc_nats_lt {v1 v2 : Value} {l1 l2 : List Nat} {Q : Value → Shared → Prop} (hu : A.units < cLine) (h1 : IsNats s.heap.get? v1 l1) (h2 : IsNats s.heap.get? v2 l2) (hQ : Q (.bool (nlt l1 l2)) s) :
    wpAny (model prog w) A (richCompare .Lt v1 v2) Q E s := by
  obtain ⟨a, vs, n, rfl, ha, hi⟩ := h1
  obtain ⟨b, ws, k, rfl, hb, hj⟩ := h2
  exact richCompare_meets_room (op := .Lt) ⟨_, ha, rfl⟩ ⟨_, hb, rfl⟩ PySem.F.slot_list_lt PySem.F.entry_list_lt (PySem.F.args_list_lt_2 _ _) (list_lt a b vs ws n k l1 l2 hi hj)
    ⟨ha, hb, show Value.bool (nlt l1 l2) ≠ Value.notImplemented ∧ Q (.bool (nlt l1 l2)) s from ⟨(fun x => nomatch x), hQ⟩⟩ hu
end
theorem lt63 {n : Nat} (h : n ≤ 1000000) : (n : Int) < 2 ^ 63 := by omega
theorem zi (i : Nat) : (0 : Int) + (i : Int) * 1 = (i : Int) := by omega
theorem range_sm {n : Nat} (h : n ≤ 1000000) : Builtin.Range.small 0 (n : Int) 1 = true := range_small (n := n) (rangeSize0 n) (by decide) (by omega) (by decide) h
section
variable {prog : Program} {w : World} {A : Around} {E : Value → Shared → Prop} {s : Shared} {h : Heap} {t : Nat}
theorem sub_nat {value slice : Expr} {a : Addr} {xs : List Value} {n : Nat} {u : Tok} {x : Value} {Q : Value → Shared → Prop} (hl : h.IsList a xs.toArray) (hx : xs[n]? = some x) (hz : xs.length ≤ 1000000) (hQ : Q x (S s h t))
    (hs : subscripted slice false (.ref a) (.int (n : Int) u) = operate [.ref a, .int (n : Int) u] (getItem (.ref a) (.int (n : Int) u)) := by with_unfolding_all rfl) :
    wpAny (model prog w) A (subscriptTail value slice (.ref a) (.int (n : Int) u)) Q E (S s h t) :=
  sub_list hl (Int.natCast_nonneg n) (by rw [Int.toNat_natCast]; exact hx) (lt63 (Nat.le_trans (Nat.le_of_lt (List.getElem?_eq_some_iff.mp hx).1) hz)) hQ hs
theorem sub_refs {value slice : Expr} {a b : Addr} {ra : List Addr} {n k : Nat} {u : Tok} {Q : Value → Shared → Prop} (hl : h.get? a = some (lstObj (ra.map Value.ref) k)) (hx : ra[n]? = some b) (hz : ra.length ≤ 1000000) (hQ : Q (.ref b) (S s h t))
    (hs : subscripted slice false (.ref a) (.int (n : Int) u) = operate [.ref a, .int (n : Int) u] (getItem (.ref a) (.int (n : Int) u)) := by with_unfolding_all rfl) :
    wpAny (model prog w) A (subscriptTail value slice (.ref a) (.int (n : Int) u)) Q E (S s h t) :=
  sub_nat (xs := ra.map Value.ref) ⟨_, hl, rfl, k, rfl⟩ (by rw [List.getElem?_map, hx]; rfl) (by rw [List.length_map]; exact hz) hQ hs
theorem len_sm {a : Addr} {xs : List Value} {Q : Value → Shared → Prop} (hl : h.IsList a xs.toArray) (hz : xs.length ≤ 1000000) (hQ : ∀ u t', Q (.int xs.length u) (S s h t')) :
    wpAny (model prog w) A (call (.builtin "len") [.ref a]) Q E (S s h t) := len_lst hl (lt63 hz) hQ
theorem len_refs {a : Addr} {ra : List Addr} {n k : Nat} {Q : Value → Shared → Prop} (hl : h.get? a = some (lstObj (ra.map Value.ref) k)) (hn : ra.length = n) (hz : ra.length ≤ 1000000) (hQ : ∀ u t', Q (.int (n : Nat) u) (S s h t')) :
    wpAny (model prog w) A (call (.builtin "len") [.ref a]) Q E (S s h t) := by
  subst hn
  exact len_sm (xs := ra.map Value.ref) ⟨_, hl, rfl, k, rfl⟩ (by rw [List.length_map]; exact hz) (by rw [List.length_map]; exact hQ)
end

-- NH
theorem nlt_asymm : ∀ {a b : List Nat}, nlt a b = true → nlt b a = false
  | [], [], h => rfl
  | [], _ :: _, h => rfl
  | _ :: _, [], h => by cases h
  | x :: a, y :: b, h => by
    unfold nlt at h ⊢
    by_cases q : x = y
    · subst q; rw [if_pos rfl] at h ⊢; exact nlt_asymm h
    · rw [if_neg q] at h; rw [if_neg (Ne.symm q)]
      have := of_decide_eq_true h
      exact decide_eq_false (by omega)
theorem nle_trans : ∀ {a b c : List Nat}, nlt b a = false → nlt c b = false → nlt c a = false
  | [], _, [], _, _ => rfl
  | [], [], _ :: _, _, h => h
  | [], _ :: _, _ :: _, _, _ => rfl
  | _ :: _, [], _, h, _ => by cases h
  | _ :: _, _ :: _, [], _, h => by cases h
  | x :: a, y :: b, z :: c, h1, h2 => by
    unfold nlt at h1 h2 ⊢
    by_cases q : y = x
    · subst q
      rw [if_pos rfl] at h1
      by_cases q2 : z = y
      · subst q2; rw [if_pos rfl] at h2 ⊢; exact nle_trans h1 h2
      · rw [if_neg q2] at h2 ⊢; exact h2
    · rw [if_neg q] at h1
      have h3 := of_decide_eq_false h1
      by_cases q2 : z = y
      · subst q2; rw [if_neg q]; exact decide_eq_false (by omega)
      · rw [if_neg q2] at h2
        have := of_decide_eq_false h2
        rw [if_neg (by omega)]; exact decide_eq_false (by omega)
theorem nle_antisymm : ∀ {a b : List Nat}, nlt a b = false → nlt b a = false → a = b
  | [], [], _, _ => rfl
  | [], _ :: _, h, _ => by cases h
  | _ :: _, [], _, h => by cases h
  | x :: a, y :: b, h1, h2 => by
    unfold nlt at h1 h2
    by_cases q : x = y
    · subst q; rw [if_pos rfl] at h1 h2; rw [nle_antisymm h1 h2]
    · rw [if_neg q] at h1; rw [if_neg (Ne.symm q)] at h2
      have := of_decide_eq_false h1
      have := of_decide_eq_false h2
      omega
theorem nle_refl : ∀ (a : List Nat), nlt a a = false
  | [] => rfl
  | x :: a => by unfold nlt; rw [if_pos rfl]; exact nle_refl a
section
variable {prog : Program} {w : World} {A : Around} {E : Value → Shared → Prop} {R : Result → Shared → Prop}
theorem min_loop {h : Heap} {xs : List Value} {ls : List (List Nat)} {a I : Addr} (hh : A.in1.handled = none) (hu : A.in1.units < cLine) (hne : a ≠ I) (hIh : h.get? I = none) (hla : h.IsList a xs.toArray)
    (hx : xs.length = ls.length ∧ ∀ (i : Nat) (v : Value) (l : List Nat), xs[i]? = some v → ls[i]? = some l → IsNats h.get? v l) (Z : Addr) (hZI : Z ≠ I) (hZh : h.get? Z = none) :
    ∀ (k j : Nat) (s : Shared) (vb : Value) (ib : Nat) (lb : List Nat) (c : Nat), ls.length - (j + 1) = k → j + 1 ≤ ls.length → s.heap.IsListIter I a (j + 1) → Kp h s.heap → xs[ib]? = some vb → ls[ib]? = some lb → (∀ (i : Nat) (l : List Nat), i ≤ j → ls[i]? = some l → nlt l lb = false) →
    s.heap.get? Z = some { cls := .type "list", dict := none, data := .seq #[vb, vb] c, slots := #[] } →
    (∀ (v : Value) (i : Nat) (l : List Nat) (h' : Heap) (tk : Nat), xs[i]? = some v → ls[i]? = some l → (∀ l' ∈ ls, nlt l' l = false) → Kp h h' → R (.ok (.ret v)) { s with heap := h', toks := tk }) →
    codeAny (model prog w) A (.builtin "min.loop" ⟨[.ref I, .none, .ref Z], []⟩) R s := by
  have W := Walks.list (prog := prog) (w := w) (A := A.in1) hh I a hne xs.toArray
  have hname : (toString "min" ++ toString ".loop" : String) = "min.loop" := by decide
  have hZw : Z ∉ [I] := by simpa using hZI
  have hsz : xs.toArray.size = ls.length := by simpa using hx.1
  intro k
  induction k with
  | zero =>
    intro j s vb ib lb c hk hj hit hkp hvb hlb hmin hZ hR
    have hin : j + 1 = ls.length := by omega
    refine codeAny_builtin PySem.F.entry_min_loop ?_
    rw [Around.under_plainId PySem.F.plain_min_loop _]
    show wpAny _ A.in1 (seqItems? (.ref Z) >>= _) _ _ s
    refine wpAny_bind (wpAny_seqItems hZ rfl ?_)
    show wpAny _ A.in1 (tryCatch (pyNext (.ref I)) _ >>= _) _ _ s
    refine wpAny_bind (wpAny_tryCatch (W.done s _ _ ⟨by rw [hsz, ← hin]; exact hit, hla.at (hkp _)⟩ fun h' tk hk' => ?_))
    have hZ' := hk' Z _ hZw hZ
    show wpAny _ A.in1 (updateSeq Z (fun _ => #[]) >>= _) _ _ _
    refine wpAny_bind ?_
    refine wpAny_updateSeq hZ' rfl (wpAny_bind (wpAny_letGo (wpAny_pure ?_)))
    refine hR vb ib lb _ tk hvb hlb (fun l' hl' => ?_) fun b o e => ?_
    · obtain ⟨i, hi⟩ := List.mem_iff_getElem?.mp hl'
      exact hmin i l' (by have := (List.getElem?_eq_some_iff.mp hi).1; omega) hi
    · exact (Heap.get?_update_other _ _ (by rintro rfl; rw [hZh] at e; cases e)).trans (hk' b o (by simp; rintro rfl; rw [hIh] at e; cases e) (hkp b o e))
  | succ k ih =>
    intro j s vb ib lb c hk hj hit hkp hvb hlb hmin hZ hR
    have hlt : j + 1 < ls.length := by omega
    refine codeAny_builtin PySem.F.entry_min_loop ?_
    rw [Around.under_plainId PySem.F.plain_min_loop _]
    show wpAny _ A.in1 (seqItems? (.ref Z) >>= _) _ _ s
    refine wpAny_bind (wpAny_seqItems hZ rfl ?_)
    show wpAny _ A.in1 (tryCatch (pyNext (.ref I)) _ >>= _) _ _ s
    refine wpAny_bind (wpAny_tryCatch (W.item (j + 1) s _ _ (by omega) ⟨hit, hla.at (hkp _)⟩ fun v h' tk hP hst' hk' => ?_))
    have hP' : xs[j+1]? = some v := by simpa using hP
    have hZ' := hk' Z _ hZw hZ
    have hkp' : Kp h h' := fun b o e => hk' b o (by simp; rintro rfl; rw [hIh] at e; cases e) (hkp b o e)
    have hl1 : ls[j+1]? = some ls[j+1] := List.getElem?_eq_getElem hlt
    show wpAny _ A.in1 (tryCatch (holding [v, v] (richCompare .Lt v vb >>= _)) _ >>= _) _ _ _
    refine wpAny_bind (wpAny_tryCatch (wpAny_holding (wpAny_bind (rc_nats_lt hu ((hx.2 _ _ _ hP' hl1).le hkp') ((hx.2 _ _ _ hvb hlb).le hkp') ?_))))
    refine wpAny_bind (wpAny_holding (wpAny_truthy_bool ?_))
    refine wpAny_bind (wpAny_letGo (wpAny_pure ?_))
    cases hb : nlt ls[j+1] lb with
    | true =>
      simp only [if_true]
      refine wpAny_bind ?_
      refine wpAny_updateSeq hZ' rfl (wpAny_bind (wpAny_letGo ?_))
      rw [hname]
      have hkp'' : Kp h (h'.update Z (Obj.mapSeq fun _ => #[v, v])) := fun b o e => (Heap.get?_update_other _ _ (by rintro rfl; rw [hZh] at e; cases e)).trans (hkp' b o e)
      refine wpAny_pure ⟨plainId_quiet PySem.F.plain_min_loop _, ih (j + 1) _ v (j+1) ls[j+1] _ (by omega) hlt (hst'.1.at fun o e => ?_) hkp'' hP' hl1 ?_ (Heap.get?_update_self _ hZ' rfl)
        fun v' i' l' h'' tk'' hP'' => ?_⟩
      · exact (Heap.get?_update_other _ _ hZI).trans e
      · intro i l hi hl
        by_cases q : i = j + 1
        · subst q; rw [hl1] at hl; cases hl; exact nle_refl _
        · exact nle_trans (nlt_asymm hb) (hmin i l (by omega) hl)
      · exact hR v' i' l' h'' tk'' hP''
    | false =>
      simp only [Bool.false_eq_true, if_false]
      refine wpAny_bind (wpAny_letGo ?_)
      rw [hname]
      refine wpAny_pure ⟨plainId_quiet PySem.F.plain_min_loop _, ih (j + 1) _ vb ib lb c (by omega) hlt hst'.1 hkp' hvb hlb ?_ hZ' fun v' i' l' h'' tk'' hP'' => ?_⟩
      · intro i l hi hl
        by_cases q : i = j + 1
        · subst q; rw [hl1] at hl; cases hl; exact hb
        · exact hmin i l (by omega) hl
      · exact hR v' i' l' h'' tk'' hP''

theorem min_nats {s : Shared} {h : Heap} {t : Nat} {a : Addr} {xs : List Value} {ls : List (List Nat)} {Q : Value → Shared → Prop} (hA : Rm 1 A) (hla : h.IsList a xs.toArray)
    (hx : xs.length = ls.length ∧ ∀ (i : Nat) (v : Value) (l : List Nat), xs[i]? = some v → ls[i]? = some l → IsNats h.get? v l) (hne : 0 < ls.length)
    (hQ : ∀ (v : Value) (i : Nat) (l : List Nat) (h' : Heap) (tk : Nat), xs[i]? = some v → ls[i]? = some l → (∀ l' ∈ ls, nlt l' l = false) → Kp h h' → Q v (S s h' tk)) : wpAny (model prog w) A (call (.builtin "min") [.ref a]) Q E (S s h t) := by
  have hname : (toString "min" ++ toString ".loop" : String) = "min.loop" := by decide
  refine call_function_tree PySem.F.kind_min PySem.F.plain_min PySem.F.entry_min (PySem.F.args_min1 _) ?_
  show wpAny _ A.in1 (Builtin.Builtins.bindParams "min" ["key", "default"] 0 ⟨[], []⟩ >>= _) _ _ _
  refine wpAny_bind (wpAny_of_eq (show Builtin.Builtins.bindParams "min" ["key", "default"] 0 ⟨[], []⟩ = pure [none, none] from rfl) ?_)
  refine wpAny_bind (wpAny_pure ?_)
  refine wpAny_bind (pit_list hla ?_)
  intro I h1 o f1 k1 ho1 hst1
  refine wpAny_bind (wpAny_newObj_type ?_)
  rw [hname]
  have haI : a ≠ I := by rintro rfl; obtain ⟨o', q, _⟩ := hla; rw [f1] at q; cases q
  have hit0 : h1.IsListIter I a 0 := ⟨o, ho1, hst1.1, hst1.2⟩
  have W := Walks.list (prog := prog) (w := w) (A := A.in1) (show A.in1.handled = none from hA.1) I a haI xs.toArray
  have hZI : h1.objs.size ≠ I := fun q => by have := get?_size h1; rw [q, ho1] at this; cases this
  have hZh : h.get? h1.objs.size = none := by
    cases q : h.get? h1.objs.size with
    | none => rfl
    | some o' => have := k1 _ _ q; rw [get?_size h1] at this; cases this
  have hZw : h1.objs.size ∉ [I] := by simpa using hZI
  refine wpAny_pure ⟨plainId_quiet PySem.F.plain_min_loop _, ?_⟩
  refine codeAny_builtin PySem.F.entry_min_loop ?_
  rw [Around.under_plainId PySem.F.plain_min_loop _]
  show wpAny _ A.in1 (seqItems? (.ref h1.objs.size) >>= _) _ _ _
  refine wpAny_bind (wpAny_seqItems (Heap.get?_push_size _ rfl) rfl ?_)
  show wpAny _ A.in1 (tryCatch (pyNext (.ref I)) _ >>= _) _ _ _
  refine wpAny_bind (wpAny_tryCatch (W.item 0 _ _ _ (by simp; omega) ⟨hit0.at fun o e => Heap.get?_push_of_some _ e, hla.at fun o e => Heap.get?_push_of_some _ (k1 _ _ e)⟩ fun v h' tk hP hst' hk' => ?_))
  have hZ' := hk' h1.objs.size _ hZw (Heap.get?_push_size _ rfl)
  have hP' : xs[0]? = some v := by simpa using hP
  show wpAny _ A.in1 (updateSeq h1.objs.size (fun _ => #[v, v]) >>= _) _ _ _
  refine wpAny_bind ?_
  refine wpAny_updateSeq hZ' rfl ?_
  rw [hname]
  have hl0 : ls[0]? = some ls[0] := List.getElem?_eq_getElem hne
  refine wpAny_pure ⟨plainId_quiet PySem.F.plain_min_loop _, min_loop (show A.in1.handled = none from hA.1) hA.in1.units haI f1 hla hx h1.objs.size hZI hZh _ 0 _ v 0 ls[0] _ rfl (by omega) (hst'.1.at fun o e => ?_) ?_ hP' hl0 ?_ (Heap.get?_update_self _ hZ' rfl)
    fun v' i' l' h'' tk'' q1 q2 q3 q4 => ?_⟩
  · exact (Heap.get?_update_other _ _ hZI).trans e
  · intro b o e
    exact (Heap.get?_update_other _ _ (by rintro rfl; rw [hZh] at e; cases e)).trans (hk' b o (by simp; rintro rfl; rw [f1] at e; cases e) (Heap.get?_push_of_some _ (k1 _ _ e)))
  · intro i l hi hl
    have : i = 0 := by omega
    subst this; rw [hl0] at hl; cases hl; exact nle_refl _
  · exact hQ v' i' l' h'' tk'' q1 q2 q3 q4
end

-- NI
inductive Mg : List (List Nat) → List Nat → Prop
  | nil {rs : List (List Nat)} : (∀ r ∈ rs, r = []) → Mg rs []
  | cons {rs : List (List Nat)} {k x : Nat} {t l : List Nat} : rs[k]? = some (x :: t) → Mg (rs.set k t) l → Mg rs (x :: l)
def Least (rs : List (List Nat)) (l : List Nat) : Prop := Mg rs l ∧ ∀ l', Mg rs l' → nlt l' l = false
theorem nlt_cons (x : Nat) (a b : List Nat) : nlt (x :: a) (x :: b) = nlt a b := by unfold nlt; rw [if_pos rfl]; cases a <;> cases b <;> rfl
theorem Least.nil {rs : List (List Nat)} (h : ∀ r ∈ rs, r = []) : Least rs [] := by
  refine ⟨.nil h, fun l' hl' => ?_⟩
  cases hl' with
  | nil _ => rfl
  | cons hk _ => have := h _ (List.mem_of_getElem? hk); cases this
theorem Least.unique {rs : List (List Nat)} {l l' : List Nat} (h : Least rs l) (h' : Least rs l') : l = l' := nle_antisymm (h'.2 _ h.1) (h.2 _ h'.1)
theorem least_step {rs ways : List (List Nat)} {l : List Nat} (hl : l ∈ ways) (hmin : ∀ l' ∈ ways, nlt l' l = false) (hw : ∀ v ∈ ways, ∃ (k x : Nat) (t b : List Nat), rs[k]? = some (x :: t) ∧ Least (rs.set k t) b ∧ v = x :: b)
    (hall : ∀ (k x : Nat) (t : List Nat), rs[k]? = some (x :: t) → ∃ b, Least (rs.set k t) b ∧ (x :: b) ∈ ways) : Least rs l := by
  obtain ⟨k, x, t, b, hk, hb, rfl⟩ := hw l hl
  refine ⟨.cons hk hb.1, fun l' hl' => ?_⟩
  cases hl' with
  | nil h => have := h _ (List.mem_of_getElem? hk); cases this
  | cons hk' hm =>
    obtain ⟨b', hb', hin⟩ := hall _ _ _ hk'
    refine nle_trans (hmin _ hin) ?_
    rw [nlt_cons]; exact hb'.2 _ hm
def rest : List (List Nat) → Nat → List (List Nat)
  | [], _ => []
  | r :: rs, c => r.drop (c % (r.length + 1)) :: rest rs (c / (r.length + 1))
def stp : List (List Nat) → Nat → Nat
  | _, 0 => 1
  | [], _ + 1 => 1
  | r :: rs, k + 1 => (r.length + 1) * stp rs k
theorem rest_len : ∀ (rs : List (List Nat)) (c : Nat), (rest rs c).length = rs.length
  | [], _ => rfl
  | _ :: rs, c => by rw [rest, List.length_cons, List.length_cons, rest_len rs]
theorem stp_pos : ∀ (rs : List (List Nat)) (k : Nat), 0 < stp rs k
  | [], 0 => Nat.one_pos
  | [], _ + 1 => Nat.one_pos
  | _ :: _, 0 => Nat.one_pos
  | _ :: rs, k + 1 => Nat.mul_pos (Nat.succ_pos _) (stp_pos rs k)
theorem stp_zero (rs : List (List Nat)) : stp rs 0 = 1 := by cases rs <;> rfl
theorem rest_get : ∀ (rs : List (List Nat)) (c k : Nat) (r : List Nat), rs[k]? = some r → (rest rs c)[k]? = some (r.drop (c / stp rs k % (r.length + 1)))
  | r :: rs, c, 0, r', h => by simp at h; subst h; simp [rest, stp]
  | r :: rs, c, k + 1, r', h => by
    rw [rest, List.getElem?_cons_succ, rest_get rs _ k r' (by simpa using h), stp, Nat.div_div_eq_div_mul]
theorem stp_succ : ∀ (rs : List (List Nat)) (k : Nat) (r : List Nat), rs[k]? = some r → stp rs (k + 1) = stp rs k * (r.length + 1)
  | r :: rs, 0, r', h => by simp at h; subst h; simp [stp, stp_zero]
  | r :: rs, k + 1, r', h => by rw [stp, stp_succ rs k r' (by simpa using h), stp, Nat.mul_assoc]
theorem stp_le : ∀ (rs : List (List Nat)) , stp rs rs.length ≤ 2 ^ rs.flatten.length
  | [] => by simp [stp]
  | r :: rs => by
    rw [List.length_cons, stp, List.flatten_cons, List.length_append, Nat.pow_add]
    exact Nat.mul_le_mul (Nat.lt_two_pow_self) (stp_le rs)
theorem rest_zero : ∀ (rs : List (List Nat)), rest rs 0 = rs
  | [] => rfl
  | r :: rs => by rw [rest, Nat.zero_mod, Nat.zero_div, List.drop_zero, rest_zero rs]
theorem rest_add : ∀ (rs : List (List Nat)) (c k : Nat) (r : List Nat), rs[k]? = some r → c / stp rs k % (r.length + 1) < r.length →
    rest rs (c + stp rs k) = (rest rs c).set k (r.drop (c / stp rs k % (r.length + 1) + 1)) ∧ (c < stp rs rs.length → c + stp rs k < stp rs rs.length)
  | r :: rs, c, 0, r', h, hlt => by
    simp at h; subst h
    simp only [stp, Nat.div_one] at hlt ⊢
    have hd := Nat.div_add_mod c (r.length + 1)
    generalize hq : c / (r.length + 1) = q at *
    generalize hm : c % (r.length + 1) = m at *
    have e1 : (c + 1) / (r.length + 1) = q := by
      rw [← hd, Nat.add_assoc, Nat.mul_add_div (Nat.succ_pos _), Nat.div_eq_of_lt (by omega)]; rfl
    have e2 : (c + 1) % (r.length + 1) = m + 1 := by
      rw [← hd, Nat.add_assoc, Nat.mul_add_mod, Nat.mod_eq_of_lt (by omega)]
    refine ⟨by rw [rest, rest, e1, e2, hq, hm]; rfl, fun hc => ?_⟩
    rw [List.length_cons, stp] at hc ⊢
    have : q < stp rs rs.length := by rw [← hq]; exact Nat.div_lt_of_lt_mul hc
    have h2 : (r.length + 1) * (q + 1) ≤ (r.length + 1) * stp rs rs.length := Nat.mul_le_mul (Nat.le_refl _) this
    rw [Nat.mul_add] at h2
    omega
  | r :: rs, c, k + 1, r', h, hlt => by
    rw [stp] at hlt ⊢
    rw [← Nat.div_div_eq_div_mul] at hlt ⊢
    obtain ⟨e, hb⟩ := rest_add rs (c / (r.length + 1)) k r' (by simpa using h) hlt
    have e1 : (c + (r.length + 1) * stp rs k) / (r.length + 1) = c / (r.length + 1) + stp rs k := Nat.add_mul_div_left _ _ (Nat.succ_pos _)
    have e2 : (c + (r.length + 1) * stp rs k) % (r.length + 1) = c % (r.length + 1) := Nat.add_mul_mod_self_left ..
    refine ⟨by rw [rest, rest, e1, e2, e]; rfl, fun hc => ?_⟩
    rw [List.length_cons, stp] at hc ⊢
    have h3 := hb (Nat.div_lt_of_lt_mul hc)
    rw [← e1] at h3
    exact Nat.lt_of_lt_of_eq ((Nat.div_lt_iff_lt_mul (Nat.succ_pos _)).mp h3) (Nat.mul_comm _ _)
theorem rest_last : ∀ (rs : List (List Nat)), ∀ r ∈ rest rs (stp rs rs.length - 1), r = []
  | [], r, h => by simp [rest] at h
  | q :: rs, r, h => by
    rw [List.length_cons, stp, rest] at h
    have hp := stp_pos rs rs.length
    have e : (q.length + 1) * stp rs rs.length - 1 = (q.length + 1) * (stp rs rs.length - 1) + q.length := by
      obtain ⟨n, hn⟩ : ∃ n, stp rs rs.length = n + 1 := ⟨stp rs rs.length - 1, by omega⟩
      rw [hn, Nat.add_sub_cancel, Nat.mul_add]; omega
    rw [e, Nat.mul_add_mod, Nat.mod_eq_of_lt (by omega), Nat.mul_add_div (by omega), Nat.div_eq_of_lt (by omega), Nat.add_zero] at h
    rcases List.mem_cons.mp h with rfl | h
    · exact List.drop_length
    · exact rest_last rs r h
theorem rest_end : ∀ (rs : List (List Nat)) (c : Nat), c < stp rs rs.length → (∀ r ∈ rest rs c, r = []) → c + 1 = stp rs rs.length
  | [], c, h, _ => by simp [stp] at h ⊢; omega
  | q :: rs, c, h, ha => by
    rw [List.length_cons, stp] at h ⊢
    rw [rest] at ha
    have h1 := ha _ (List.mem_cons_self ..)
    have h2 := rest_end rs (c / (q.length + 1)) (Nat.div_lt_of_lt_mul h) (fun r hr => ha r (List.mem_cons_of_mem _ hr))
    have h3 : q.length ≤ c % (q.length + 1) := by
      have := congrArg List.length h1
      simp at this; omega
    have h4 : c % (q.length + 1) < q.length + 1 := Nat.mod_lt c (Nat.succ_pos q.length)
    have h5 := Nat.div_add_mod c (q.length + 1)
    rw [← h2, Nat.mul_add]; omega

-- NJ
theorem Fm.freeze {H : Heap} {X B : Mp} {L : Addr} {m : Lc} {h : Heap} {a : Addr} {xs : List Value} (F : Fm H X B (one a xs) L m h) : ∃ n, Fm H X (B.set a (lstObj xs n)) noN L m h ∧ B.le (B.set a (lstObj xs n)) := by
  obtain ⟨n, hn⟩ := F.own _ _ one_same
  exact ⟨n, (F.lessN (N' := noN) (fun _ _ e => nomatch e)).adopt hn (F.ownX _ _ one_same) (F.ownB _ _ one_same) rfl (F.ownL one_same), le_set (F.ownB _ _ one_same)⟩
def sts (rs : List (List Nat)) (i : Nat) : List Nat := (List.range (i + 1)).map (stp rs)
theorem sts_len (rs : List (List Nat)) (i : Nat) : (sts rs i).length = i + 1 := by simp [sts]
theorem sts_succ (rs : List (List Nat)) (i : Nat) : sts rs (i + 1) = sts rs i ++ [stp rs (i + 1)] := by simp [sts, List.range_succ]
theorem sts_get (rs : List (List Nat)) (i k : Nat) (h : k ≤ i) : ∀ (q : k < (sts rs i).length), (sts rs i)[k] = stp rs k := by intro q; simp [sts]
theorem Mu.set_set (N : Mu) (a : Addr) (xs ys : List Value) : (N.set a xs).set a ys = N.set a ys := by
  funext b; unfold Mu.set; by_cases h : b = a <;> simp [h]
theorem stp_mono : ∀ (rs : List (List Nat)) (k : Nat), k ≤ rs.length → stp rs k ≤ stp rs rs.length
  | [], 0, _ => Nat.le_refl _
  | r :: rs, 0, _ => stp_pos (r :: rs) _
  | r :: rs, k + 1, h => by rw [List.length_cons, stp, stp]; exact Nat.mul_le_mul (Nat.le_refl _) (stp_mono rs k (by simpa using h))
section
variable {prog : Program} {w : World} {A : Around} {E : Value → Shared → Prop} {s : Shared} {h : Heap} {t : Nat} {env : Env}
  {mg mb : Lc} {H : Heap} {X B : Mp} {N : Mu} {L : Addr} {m : Lc}
theorem ev_neg {i : Int} {k : Nat} {p1 pos : Pos} {Q : Value → Shared → Prop} (hQ : ∀ u t', Q (.int (-i) u) (S s h t')) : wpAny (model prog w) A (eval (.UnaryOp .USub (.Constant (.int i) k p1) pos) env) Q E (S s h t) :=
  wpAny_UnaryOp (ev_int fun _ _ => neg_int (hQ _ _))
theorem sub_last {value slice : Expr} {a : Addr} {xs : List Value} {u : Tok} {x : Value} {Q : Value → Shared → Prop} (hl : h.IsList a xs.toArray)
    (h1 : 0 < xs.length) (hx : xs[xs.length - 1]? = some x) (hQ : Q x (S s h t))
    (hs : subscripted slice false (.ref a) (.int (-1) u) = operate [.ref a, .int (-1) u] (getItem (.ref a) (.int (-1) u)) := by with_unfolding_all rfl) :
    wpAny (model prog w) A (subscriptTail value slice (.ref a) (.int (-1) u)) Q E (S s h t) :=
  tail_any hl.typeIs slot_list_getitem.lookup (wpAny_getItem_list_neg hl (by decide) (by simp; omega) (by decide) (by rw [List.size_toArray, show ((-1 : Int) + (xs.length : Int)).toNat = xs.length - 1 by omega]; simpa using hx) hQ) hs
theorem add_lsts {a b : Addr} {xs ys : List Value} {n k : Nat} {Q : Value → Shared → Prop} (ha : h.get? a = some (lstObj xs n)) (hb : h.get? b = some (lstObj ys k)) (hz : xs.length + ys.length ≤ 16777216)
    (hQ : ∀ c h' n', h.get? c = none → Kp h h' → h'.get? c = some (lstObj (xs ++ ys) n') → Q (.ref c) (S s h' t)) : wpAny (model prog w) A (binaryOp .Add (.ref a) (.ref b)) Q E (S s h t) := by
  refine P.add_list (s := S s h t) (n := n) (n2 := k) ha hb (hQ _ _ 0 (get?_size h) (Kp.push _ _) ?_) (by simpa [sizeLine] using hz)
  rw [Heap.get?_push_size _ rfl]; simp [lstObj]
abbrev leInv1 (h : Heap) (a r : Addr) (rs : List (List Nat)) (i : Nat) (B' : Mp) (N' : Mu) (m' : Lc) : Prop :=
  B' = h.get? ∧ ∃ vs, N' = one a vs ∧ IntsAre vs (toI (sts rs i)) ∧ m' "steps" = some (.ref a) ∧ m' "rows" = some (.ref r)
abbrev leInv2 (rs : List (List Nat)) (i : Nat) (B' : Mp) (N' : Mu) (ys : List Value) : Prop :=
  N' = noN ∧ ys.length = i ∧ i ≤ stp rs rs.length ∧ ∀ (j : Nat) (v : Value), ys[j]? = some v → IsNats B' v []
abbrev leInv3 (a r D : Addr) (rs : List (List Nat)) (i : Nat) (B'' : Mp) (N'' : Mu) (m'' : Lc) : Prop :=
  ∃ bs, N'' = one D bs ∧ bs.length = stp rs rs.length ∧ (∀ (c : Nat) (v : Value), stp rs rs.length - 1 - i ≤ c → bs[c]? = some v → ∃ l, IsNats B'' v l ∧ l.length ≤ stp rs rs.length - 1 - c ∧ Least (rest rs c) l) ∧
    m'' "best" = some (.ref D) ∧ m'' "steps" = some (.ref a) ∧ m'' "rows" = some (.ref r)
abbrev leWays (rs : List (List Nat)) (c : Nat) (ls : List (List Nat)) : Prop :=
  ∀ v ∈ ls, v.length ≤ stp rs rs.length - 1 - c ∧ ∃ (k x : Nat) (t b : List Nat), (rest rs c)[k]? = some (x :: t) ∧ Least ((rest rs c).set k t) b ∧ v = x :: b
abbrev leAll (rs : List (List Nat)) (c k : Nat) (ls : List (List Nat)) : Prop :=
  ∀ (k' x : Nat) (t : List Nat), k' < k → (rest rs c)[k']? = some (x :: t) → ∃ b, Least ((rest rs c).set k' t) b ∧ (x :: b) ∈ ls
abbrev leInv4 (a r D W : Addr) (rs : List (List Nat)) (bs : List Value) (c k : Nat) (B2 : Mp) (N2 : Mu) (m2' : Lc) : Prop :=
  ∃ ws ls, N2 = (one D bs).set W ws ∧ ws.length = ls.length ∧ (∀ (i : Nat) (v : Value) (l : List Nat), ws[i]? = some v → ls[i]? = some l → IsNats B2 v l) ∧
    leWays rs c ls ∧ leAll rs c k ls ∧ ls.length ≤ k ∧
    HasInt m2' "code" c ∧ m2' "ways" = some (.ref W) ∧ m2' "best" = some (.ref D) ∧ m2' "steps" = some (.ref a) ∧ m2' "rows" = some (.ref r)
set_option maxHeartbeats 1000000 in
theorem least_spec {Q : Value → Shared → Prop} {r : Addr} {ra : List Addr} {rs : List (List Nat)} (amb : Amb w mg mb H) (hA : Rm 2 A) (top : Kp H h) (hr : RowsB h.get? r ra rs) (hz : rs.length ≤ 4) (hf : rs.flatten.length ≤ 8)
    (hQ : ∀ h' t' v l, Kp h h' → IsNats h'.get? v l → Least rs l → Q v (S s h' t')) : wpAny (model prog w) A (call (.ref 108) [.ref r]) Q E (S s h t) := by
  refine call_fn [("rows", .ref r)] amb hA top rfl rfl (BindsTo.of_eq rfl) ?_
  intro L h₁ t₁ hL hns hk hA'
  have F := Fm.entry top hL hns hk
  simp only [bnd, List.foldl] at F
  generalize A.deeper _ = A' at hA' ⊢
  clear hns hA
  obtain ⟨⟨nr, hr1⟩, hr2, hr3⟩ := hr
  have hrow : ∀ k, (hk : k < rs.length) → ∃ a vs n, ra[k]? = some a ∧ h.get? a = some (lstObj vs n) ∧ IntsAre vs (toI rs[k]) := fun k hk => by
    have hk' : k < ra.length := by omega
    obtain ⟨vs, n, h4, h5⟩ := hr3 k ra[k] rs[k] (List.getElem?_eq_getElem hk') (List.getElem?_eq_getElem hk)
    exact ⟨_, vs, n, List.getElem?_eq_getElem hk', h4, h5⟩
  have hrl : ∀ k, (hk : k < rs.length) → rs[k].length ≤ 8 := fun k hk => Nat.le_trans (List.sublist_flatten_of_mem (List.getElem_mem hk)).length_le hf
  have hr46 : rs.length ≤ 1000000 := Nat.le_trans hz (by decide)
  have hral : ra.length ≤ 1000000 := by rw [hr2]; exact hr46
  have hzr : ∀ k, (hk : k < rs.length) → rs[k].length ≤ 1000000 := fun k hk => Nat.le_trans (hrl k hk) (by decide)
  have hT : stp rs rs.length ≤ 256 := Nat.le_trans (stp_le rs) (Nat.pow_le_pow_right (by decide) hf)
  have hT0 := stp_pos rs rs.length
  repeat walk_at "ms"
  refine mk_list (by simp) ?_
  intro a h2 f2 k2 l2
  have F2 := F.learnN k2 f2 l2
  rw [one_of_set] at F2
  repeat walk_at "ms"
  rename_i h3 t3 F3
  refine wpAny_For ?_
  repeat walk_at "ms"
  refine pit_list (xs := ra.map Value.ref) ⟨_, F3.keep _ _ hr1, rfl, nr, rfl⟩ ?_
  intro I h4 o4 f4 k4 ho4 hst4
  refine for_loop itr_list hA'.handled F3 f4 k4 ho4 hst4 (fun h' hh => ⟨_, hh _ _ hr1, rfl, nr, rfl⟩)
    (leInv1 h a r rs)
    ⟨rfl, _, rfl, by rw [sts]; simp [stp_zero, toI]; exact .cons _ _ .nil, by walk_at "lk", by walk_at "lk"⟩ ?_ ?_
  · rintro i X' B' N' m' h5 t5 x hi - ⟨rfl, vs, rfl, hvs, m1, m2⟩ hx F5
    rw [List.length_map, hr2] at hi
    obtain ⟨b, ws, nb, hb1, hb2, hb3⟩ := hrow i hi
    have hxb : x = .ref b := by rw [List.getElem?_map, hb1] at hx; exact (Option.some.inj hx).symm
    subst hxb
    have hvl : vs.length = i + 1 := by rw [hvs.length, toI_len, sts_len]
    obtain ⟨u5, hu5⟩ := ints_get hvs (i := i) (by rw [sts_len]; omega)
    rw [sts_get rs i i (Nat.le_refl _)] at hu5
    have hwl : ws.length = rs[i].length := by rw [hb3.length, toI_len]
    have hil := hrl i hi
    repeat walk_at "ms"
    refine meth_append (F5.own _ _ one_same) ?_
    repeat walk_at "ms"
    refine ev_neg ?_
    intro _ _
    refine sub_last (F5.lst one_same) (by omega) (by rw [hvl]; exact hu5) ?_
    repeat walk_at "ms"
    refine len_lst (xs := ws) ⟨_, F5.keep _ _ hb2, rfl, nb, rfl⟩ (by omega) ?_
    intro _ _
    repeat walk_at "ms"
    refine op_mul (PySem.IntMulOk.of_right (PySem.intBits_le_64 (by omega) (by omega))) ?_; intro _ _
    repeat walk_at "ms"
    refine append_lst F5 one_same (by omega) ?_
    intro h6 F6
    have e6 : ((stp rs i : Nat) : Int) * ((ws.length : Int) + 1) = ((stp rs (i + 1) : Nat) : Int) := by
      rw [stp_succ rs i rs[i] (List.getElem?_eq_getElem hi), hwl]; push_cast; rfl
    rw [one_set, e6] at F6
    dsimp only
    repeat walk_at "ms"
    refine ⟨.inl rfl, _, _, _, _, _, rfl, Mp.le.refl _, F6, rfl, _, rfl, ?_, by walk_at "lk", by walk_at "lk"⟩
    rw [sts_succ, toI_snoc]
    exact ints_snoc rfl hvs
  · rintro B' N' m' h5 t5 - ⟨rfl, vs, rfl, hvs, m1, m2⟩ F5
    obtain ⟨na, F5, hle5⟩ := F5.freeze
    generalize hB5 : Mp.set h.get? a (lstObj vs na) = B5 at *
    have ha5 : B5 a = some (lstObj vs na) := by rw [← hB5]; exact Mp.set_same
    clear hB5
    rw [List.length_map, hr2] at hvs
    have hvl : vs.length = rs.length + 1 := by rw [hvs.length, toI_len, sts_len]
    have hvl6 : vs.length ≤ 1000000 := by rw [hvl]; exact Nat.le_trans (Nat.succ_le_succ hz) (by decide)
    obtain ⟨uT, huT⟩ := ints_get hvs (i := rs.length) (by rw [sts_len]; omega)
    rw [sts_get rs _ _ (Nat.le_refl _)] at huT
    have hlast : ∀ h' : Heap, (∀ b o, B5 b = some o → h'.get? b = some o) → h'.IsList a vs.toArray := fun h' hh => ⟨_, hh _ _ ha5, rfl, na, rfl⟩
    repeat walk_at "ms"
    refine ex_listcomp ?_ rfl rfl
    repeat walk_at "ms"
    refine ev_neg ?_
    intro _ _
    refine sub_last (hlast _ F5.keep) (by omega) (by rw [hvl]; exact huT) ?_
    repeat walk_at "ms"
    refine mk_range1 ?_
    intro r6 h6 t6 u6 v6 f6 k6 hr6
    refine pit_range (n := stp rs rs.length) hr6 (range_small (n := stp rs rs.length) (rangeSize0 _) (by omega) (by omega) (by omega) (by omega)) (rangeSize0 _) ?_
    intro I h7 o7 f7 k7 ho7 hst7
    refine comp_use itr_range hA'.handled (F5.ext k6) f7 k7 ho7 hst7 (fun _ _ => trivial)
      (leInv2 rs) ⟨rfl, rfl, Nat.zero_le _, fun j v q => by simp at q⟩ ?_ ?_ ?_ rfl
    · rintro i B' N' ys ⟨-, q, hi, -⟩
      omega
    · rintro i X' B' N' C mC ys h8 t8 v hi - ⟨rfl, hyl, hi2, hys⟩ ⟨u8, rfl⟩ hmC F8
      refine wpAny_tests_nil ?_
      rw [if_pos rfl]
      repeat walk_at "ms"
      refine mk_list (by simp) ?_
      intro b h9 f9 k9 l9
      obtain ⟨n9, l9⟩ := l9
      refine ⟨_, _, _, _, rfl, F8.leB f9, F8.learn k9 f9 l9, rfl, by simp [hyl], by omega, ?_⟩
      intro j v hv
      by_cases q : j < ys.length
      · rw [List.getElem?_append_left q] at hv
        exact (hys j v hv).le (F8.leB f9)
      · rw [List.getElem?_append_right (by omega)] at hv
        have : j - ys.length = 0 := by
          have := (List.getElem?_eq_some_iff.mp hv).1; simp at this; omega
        rw [this] at hv; simp at hv; subst hv
        exact ⟨b, [], n9, rfl, Mp.set_same, .nil⟩
    · rintro B' N' ys h8 t8 D hle8 ⟨rfl, hyl, -, hys⟩ F8 hD8 hXD hBD hND hDL hD0
      have F9 := F8.adoptN hD8 hXD hBD
      rw [one_of_set] at F9
      repeat walk_at "ms"
      refine wpAny_For ?_
      repeat walk_at "ms"
      refine ev_neg ?_
      intro _ _
      refine sub_last (hlast _ (fun b o q => F9.keep b o (hle8 b o q))) (by omega) (by rw [hvl]; exact huT) ?_
      repeat walk_at "ms"
      refine ev_neg ?_
      intro _ _
      repeat walk_at "ms"
      refine ev_neg ?_
      intro _ _
      repeat walk_at "ms"
      refine mk_range3 (by decide) (by decide +kernel) ?_
      intro r1 h10 t10 f10 k10 hr10
      have hsz : Builtin.Range.rangeSize ((stp rs rs.length : Int) - 2) (-1) (-1) = ((stp rs rs.length - 1 : Nat) : Int) := by
        unfold Builtin.Range.rangeSize
        rw [if_neg (by decide)]
        split <;> first | omega | (rw [show -(-1 : Int) = 1 from rfl, Int.ediv_one]; omega)
      refine pit_range (n := stp rs rs.length - 1) hr10 (range_small hsz (by omega) (by omega) (by omega) (by omega)) hsz ?_
      intro I2 h11 o11 f11 k11 ho11 hst11
      refine for_loop itr_range hA'.handled (F9.ext k10) f11 k11 ho11 hst11 (fun _ _ => trivial)
        (leInv3 a r D rs)
        ⟨ys, rfl, hyl, ?_, by walk_at "lk", by walk_at "lk", by walk_at "lk"⟩ ?_ ?_
      · intro c v hc hv
        have : c = stp rs rs.length - 1 := by have := (List.getElem?_eq_some_iff.mp hv).1; omega
        subst this
        exact ⟨[], hys _ _ hv, by simp, Least.nil (rest_last rs)⟩
      · rintro i X1 B1 N1 m1' h12 t12 x hi hle12 ⟨bs, rfl, hbl, hbs, n1, n2, n3⟩ ⟨u12, rfl⟩ F12
        obtain ⟨c, hc⟩ : ∃ c, stp rs rs.length = c + 2 + i := ⟨stp rs rs.length - 2 - i, by omega⟩
        rw [show (stp rs rs.length : Int) - 2 + (i : Int) * -1 = (c : Int) by omega] at F12
        rw [show stp rs rs.length - 1 - i = c + 1 by omega] at hbs
        have hle' : Mp.le h.get? B1 := (hle5.trans hle8).trans hle12
        repeat walk_at "ms"
        refine mk_list (by simp) ?_
        intro W h13 f13 k13 l13
        have hWD : W ≠ D := by
          rintro rfl
          obtain ⟨_, q⟩ := F12.own _ _ one_same
          rw [f13] at q; cases q
        have F13 := F12.learnN k13 f13 l13
        repeat walk_at "ms"
        rename_i h14 t14 F14
        refine wpAny_For ?_
        repeat walk_at "ms"
        refine len_refs (F14.keep _ _ (hle' _ _ hr1)) hr2 hral ?_
        intro u15 t15
        repeat walk_at "ms"
        refine mk_range1 ?_
        intro r16 h16 t16 u16 v16 f16 k16 hr16
        refine pit_range (n := rs.length) hr16 (range_sm hr46) (rangeSize0 _) ?_
        intro I3 h17 o17 f17 k17 ho17 hst17
        refine for_loop itr_range hA'.handled (F14.ext k16) f17 k17 ho17 hst17 (fun _ _ => trivial)
          (leInv4 a r D W rs bs c)
          ⟨[], [], rfl, rfl, fun _ _ _ q => by simp at q, fun _ q => by simp at q, fun _ _ _ q => by omega, Nat.le_refl _, ⟨_, by walk_at "lk"⟩, by walk_at "lk", by walk_at "lk", by walk_at "lk", by walk_at "lk"⟩ ?_ ?_
        · rintro k X2 B2 N2 m2' h18 t18 x hk18 hle18 ⟨ws, ls, rfl, hwl, hws, hw1, hw2, hlk, ⟨uc, p1⟩, p2, p3, p4, p5⟩ ⟨u18, rfl⟩ F18
          rw [zi] at F18
          obtain ⟨b, zs, nb, hb1, hb2, hb3⟩ := hrow k hk18
          have hzl : zs.length = rs[k].length := by rw [hb3.length, toI_len]
          have hz6 : zs.length ≤ 1000000 := by rw [hzl]; exact hzr _ _
          have hkl := hrl k hk18
          have hleB : Mp.le h.get? B2 := hle'.trans hle18
          obtain ⟨uS, huS⟩ := ints_get hvs (i := k) (by rw [sts_len]; omega)
          rw [sts_get rs _ _ (by omega)] at huS
          have hsp := stp_pos rs k
          have hget := rest_get rs c k rs[k] (List.getElem?_eq_getElem hk18)
          have hadd := rest_add rs c k rs[k] (List.getElem?_eq_getElem hk18)
          generalize hg : c / stp rs k % (rs[k].length + 1) = g at hget hadd
          have hst5 : ∀ h' : Heap, (∀ b o, B2 b = some o → h'.get? b = some o) → h'.IsList a vs.toArray := fun h' hh => hlast h' fun b o q => hh b o (hle18 _ _ (hle12 _ _ (hle8 _ _ q)))
          have hsmall : stp rs k ≤ 1000000 := by
            have : stp rs k ≤ stp rs rs.length := stp_mono rs k (by omega)
            omega
          repeat walk_at "ms"
          refine sub_nat (hst5 _ F18.keep) huS hvl6 ?_
          refine op_fdiv (by omega) (by rw [Int.natAbs_natCast]; exact log2_small (by omega) (by omega)) ?_; intro _ _
          rw [fdivN]
          repeat walk_at "ms"
          refine sub_refs (F18.keep _ _ (hleB _ _ hr1)) hb1 hral ?_
          repeat walk_at "ms"
          refine len_sm (xs := zs) ⟨_, F18.keep _ _ (hleB _ _ hb2), rfl, nb, rfl⟩ hz6 ?_
          intro _ _
          repeat walk_at "ms"
          refine op_mod (by omega) ?_; intro _ _
          rw [show (zs.length : Int) + 1 = ((rs[k].length + 1 : Nat) : Int) by omega, fmodN, hg]
          repeat walk_at "ms"
          rename_i h19 t19 F19
          refine wpAny_If ?_
          repeat walk_at "ms"
          refine sub_refs (F19.keep _ _ (hleB _ _ hr1)) hb1 hral ?_
          repeat walk_at "ms"
          refine len_sm (xs := zs) ⟨_, F19.keep _ _ (hleB _ _ hb2), rfl, nb, rfl⟩ hz6 ?_
          intro _ _
          repeat walk_at "ms"
          refine split_bool (fun hlt => ?_) (fun hlt => ?_)
          · have hgl : g < rs[k].length := by have := of_decide_eq_true hlt; omega
            obtain ⟨hra, hrb⟩ := hadd hgl
            have hcs := hrb (by omega)
            obtain ⟨vb, hvb⟩ : ∃ v, bs[c + stp rs k]? = some v := ⟨bs[c + stp rs k], List.getElem?_eq_getElem (by omega)⟩
            obtain ⟨lb, hlb1, hlb2, hlb3⟩ := hbs (c + stp rs k) vb (by omega) hvb
            obtain ⟨bb, vsb, nbb, rfl, hbb1, hbb2⟩ := hlb1
            obtain ⟨ug, hug⟩ := ints_get hb3 hgl
            rw [List.drop_eq_getElem_cons hgl] at hget
            rw [hra] at hlb3
            repeat walk_at "ms"
            refine meth_append (F19.own _ _ Mu.set_same) ?_
            repeat walk_at "ms"
            refine sub_refs (F19.keep _ _ (hleB _ _ hr1)) hb1 hral ?_
            repeat walk_at "ms"
            refine sub_nat (xs := zs) ⟨_, F19.keep _ _ (hleB _ _ hb2), rfl, nb, rfl⟩ hug hz6 ?_
            repeat walk_at "ms"
            refine mk_list (by simp) ?_
            intro q h20 f20 k20 l20
            obtain ⟨n20, l20⟩ := l20
            have F20 := F19.ext k20
            repeat walk_at "ms"
            refine sub_nat (hst5 _ F20.keep) huS hvl6 ?_
            repeat walk_at "ms"
            refine sub_list (F20.lst (by rw [Mu.set_ne (Ne.symm hWD)]; exact one_same)) (by omega) (x := .ref bb) (by rw [show ((c : Int) + (stp rs k : Int)).toNat = c + stp rs k by omega]; exact hvb) (by omega) ?_
            refine add_lsts l20 (F20.keep _ _ (hle18 _ _ hbb1)) (by rw [hbb2.length, toI_len]; simp; omega) ?_
            intro q2 h21 n21 f21 k21 l21
            have F21 := F20.learn k21 f21 l21
            have hle21 := F20.leB (o := lstObj ([.int (rs[k][g] : Nat) ug] ++ vsb) n21) f21
            repeat walk_at "ms"
            refine append_lst F21 Mu.set_same (by omega) ?_
            intro h22 F22
            rw [Mu.set_set] at F22
            dsimp only
            repeat walk_at "ms"
            refine ⟨.inl rfl, _, _, _, _, _, rfl, hle21, F22, ws ++ [.ref q2], ls ++ [rs[k][g] :: lb], rfl, by simp [hwl], ?_, ?_, ?_, by simp; omega, ⟨_, by walk_at "lk"⟩, by walk_at "lk", by walk_at "lk", by walk_at "lk", by walk_at "lk"⟩
            · intro i v l hv hl
              by_cases q : i < ws.length
              · rw [List.getElem?_append_left q] at hv
                rw [List.getElem?_append_left (by omega)] at hl
                exact (hws i v l hv hl).le hle21
              · rw [List.getElem?_append_right (by omega)] at hv hl
                have hi0 : i - ws.length = 0 := by
                  have := (List.getElem?_eq_some_iff.mp hv).1; simp at this; omega
                rw [hi0] at hv; rw [← hwl, hi0] at hl
                simp at hv hl; subst hv hl
                exact ⟨q2, _, n21, rfl, Mp.set_same, .cons _ _ hbb2⟩
            · intro v hv
              rcases List.mem_append.mp hv with hv | hv
              · exact hw1 v hv
              · simp at hv; subst hv
                exact ⟨by simp; omega, k, _, _, lb, hget, hlb3, rfl⟩
            · intro k' x t hk' hx
              by_cases q : k' = k
              · subst q
                rw [hget] at hx; cases hx
                exact ⟨lb, hlb3, by simp⟩
              · obtain ⟨b', hb', hin⟩ := hw2 k' x t (by omega) hx
                exact ⟨b', hb', List.mem_append_left _ hin⟩
          · have hgl : ¬ g < rs[k].length := by have := of_decide_eq_false hlt; omega
            rw [List.drop_eq_nil_of_le (by omega)] at hget
            repeat walk_at "ms"
            refine ⟨.inl rfl, _, _, _, _, _, rfl, Mp.le.refl _, F19, ws, ls, rfl, hwl, hws, hw1, ?_, by omega, ⟨_, by walk_at "lk"⟩, by walk_at "lk", by walk_at "lk", by walk_at "lk", by walk_at "lk"⟩
            intro k' x t hk' hx
            by_cases q : k' = k
            · subst q; rw [hget] at hx; cases hx
            · exact hw2 k' x t (by omega) hx
        · rintro B2 N2 m2' h18 t18 hle18 ⟨ws, ls, rfl, hwl, hws, hw1, hw2, hlk, ⟨uc, p1⟩, p2, p3, p4, p5⟩ F18
          have hne : 0 < ls.length := by
            rcases Nat.eq_zero_or_pos ls.length with q | q
            · have hls : ls = [] := List.length_eq_zero_iff.mp q
              have := rest_end rs c (by omega) fun y hy => by
                obtain ⟨k, hk⟩ := List.mem_iff_getElem?.mp hy
                cases y with
                | nil => rfl
                | cons x t =>
                  obtain ⟨b, -, hin⟩ := hw2 k x t (by have := (List.getElem?_eq_some_iff.mp hk).1; rw [rest_len] at this; exact this) hk
                  rw [hls] at hin; cases hin
              omega
            · exact q
          repeat walk_at "ms"
          refine min_nats hA' (F18.lst Mu.set_same) ⟨hwl, fun i v l hv hl => (hws i v l hv hl).le F18.keep⟩ hne ?_
          intro v j l h19 t19 hv hl hmin k19
          have F19 := F18.ext k19
          have hlin := List.mem_of_getElem? hl
          have hL : Least (rest rs c) l := least_step hlin hmin (fun v hv => (hw1 v hv).2) fun k x t hk => hw2 k x t (by have := (List.getElem?_eq_some_iff.mp hk).1; rw [rest_len] at this; exact this) hk
          repeat walk_at "ms"
          refine set_list F19 (xs := bs) (by rw [Mu.set_ne (Ne.symm hWD)]; exact one_same) (by omega) (by omega) (by omega) ?_
          intro h20 F20
          have F21 : Fm H X1 B2 (one D (bs.set c v)) L _ h20 := F20.lessN (N' := one D (bs.set c v)) fun b zs q => by
            unfold one at q
            split at q
            · rename_i e; subst e; rw [Mu.set_same, Int.toNat_natCast]; exact q
            · cases q
          repeat walk_at "ms"
          refine ⟨.inl rfl, _, _, _, _, _, rfl, hle18, F21, bs.set c v, rfl, by simpa using hbl, ?_, by walk_at "lk", by walk_at "lk", by walk_at "lk"⟩
          intro c' v' hc' hv'
          by_cases q : c' = c
          · subst q
            rw [List.getElem?_set_self (by omega)] at hv'; cases hv'
            exact ⟨l, hws j _ l hv hl, (hw1 l hlin).1, hL⟩
          · rw [List.getElem?_set_ne (Ne.symm q)] at hv'
            obtain ⟨l', h1, h2, h3⟩ := hbs c' v' (by omega) hv'
            exact ⟨l', h1.le hle18, h2, h3⟩
      · rintro B1 N1 m1' h12 t12 hle12 ⟨bs, rfl, hbl, hbs, n1, n2, n3⟩ F12
        repeat walk_at "ms"
        obtain ⟨v0, hv0⟩ : ∃ v, bs[0]? = some v := ⟨bs[0], List.getElem?_eq_getElem (by omega)⟩
        obtain ⟨l, hl1, -, hl2⟩ := hbs 0 v0 (by omega) hv0
        refine sub_list (F12.lst one_same) (by decide) (by simpa using hv0) (by decide) ?_
        rw [rest_zero] at hl2
        exact hQ _ _ _ _ (F12.exit ((hle5.trans hle8).trans hle12)) (hl1.le F12.keep) hl2
end

-- NK
/-- the library's frame, all known things listed -/
def allN (h : Heap) (L : Addr) : List (Addr × Obj) := (List.range h.objs.size).filterMap fun b => if b = L then none else (h.get? b).map fun o => (b, o)
theorem allN_mem {h : Heap} {L b : Addr} {o : Obj} : (b, o) ∈ allN h L ↔ b ≠ L ∧ h.get? b = some o := by
  unfold allN
  rw [List.mem_filterMap]
  constructor
  · rintro ⟨c, -, hc⟩
    by_cases q : c = L
    · rw [if_pos q] at hc; cases hc
    · rw [if_neg q] at hc
      cases e : h.get? c with
      | none => rw [e] at hc; cases hc
      | some o' => rw [e] at hc; cases hc; exact ⟨q, e⟩
  · rintro ⟨q, e⟩
    exact ⟨b, List.mem_range.mpr (Heap.lt_size e), by rw [if_neg q, e]; rfl⟩
def h00 : Heap := { objs := #[] }
theorem h00_none (b : Addr) : h00.get? b = none := by simp [h00, Heap.get?]
theorem fr00 {h : Heap} {L : Addr} {m : Lc} (ns : h.Ns L m) : Fr h00 L h m := ⟨ns, (fun b o e => by rw [h00_none] at e; cases e), Nat.zero_le _⟩
theorem news00 (h : Heap) (L : Addr) : News h00 L h (allN h L) := fun p hp => ⟨(allN_mem.mp hp).2, (allN_mem.mp hp).1, h00_none _⟩
theorem Fm.of_news {H : Heap} {X B : Mp} {N : Mu} {L : Addr} {m : Lc} {h h' : Heap} (F : Fm H X B N L m h) (ns : h'.Ns L m) (k : ∀ p ∈ allN h L, h'.get? p.1 = some p.2) : Fm H X B N L m h' where
  ns := ns
  top := F.top
  held := fun b o e => k (b, o) (allN_mem.mpr ⟨(by rintro rfl; rw [F.heldL] at e; cases e), F.held b o e⟩)
  heldL := F.heldL
  heldB := F.heldB
  keep := fun b o e => k (b, o) (allN_mem.mpr ⟨(by rintro rfl; rw [F.keepL] at e; cases e), F.keep b o e⟩)
  keepL := F.keepL
  own := fun a xs e => (F.own a xs e).at fun o q => k (a, o) (allN_mem.mpr ⟨F.ownL e, q⟩)
  ownX := F.ownX
  ownB := F.ownB

def krun {α : Type} (n : Nat) (ask : Nat → Nat → Bool) : KasT α → Option α
  | .ret a => some a
  | .ask i j k => if i < n ∧ j < n then krun n ask (k (ask i j)) else none
theorem krun_wp {α : Type} {n : Nat} {ask : Nat → Nat → Bool} {cmp : Nat → Nat → (Bool → Shared → Prop) → Shared → Prop} {Q : α → Shared → Prop} {s : Shared}
    (hc : ∀ i j C, i < n → j < n → C (ask i j) s → cmp i j C s) : ∀ (t : KasT α) (a : α), krun n ask t = some a → Q a s → t.kasWp cmp Q s
  | .ret _, _, e, q => by cases e; exact q
  | .ask i j k, a, e, q => by
    unfold krun at e
    split at e
    · rename_i hij; exact hc i j _ hij.1 hij.2 (krun_wp hc (k (ask i j)) a e q)
    · cases e
def sOk (l : List Nat) : Bool := match krun l.length (fun i j => decide (l.getD i 0 < l.getD j 0)) (kas_sort l.length) with
  | some p => decide (p.toList.map (fun i => l.getD i 0) = List.range l.length) && p.toList.all fun i => decide (i < l.length)
  | none => false
theorem sOk2 : ∀ a, a < 2 → ∀ b, b < 2 → a ≠ b → sOk [a, b] = true := by decide +kernel
theorem sOk3' : ((List.range 3).all fun a => (List.range 3).all fun b => (List.range 3).all fun c => decide (a = b) || decide (a = c) || decide (b = c) || sOk [a, b, c]) = true := by decide +kernel
theorem sOk4' : ((List.range 4).all fun a => (List.range 4).all fun b => (List.range 4).all fun c => (List.range 4).all fun d => decide (a = b) || decide (a = c) || decide (a = d) || decide (b = c) || decide (b = d) || decide (c = d) || sOk [a, b, c, d]) = true := by decide +kernel
theorem sOk3 {a b c : Nat} (ha : a < 3) (hb : b < 3) (hc : c < 3) (h1 : a ≠ b) (h2 : a ≠ c) (h3 : b ≠ c) : sOk [a, b, c] = true := by
  have := List.all_eq_true.mp (List.all_eq_true.mp (List.all_eq_true.mp sOk3' a (List.mem_range.mpr ha)) b (List.mem_range.mpr hb)) c (List.mem_range.mpr hc)
  simpa [h1, h2, h3] using this
theorem sOk4 {a b c d : Nat} (ha : a < 4) (hb : b < 4) (hc : c < 4) (hd : d < 4) (h1 : a ≠ b) (h2 : a ≠ c) (h3 : a ≠ d) (h4 : b ≠ c) (h5 : b ≠ d) (h6 : c ≠ d) : sOk [a, b, c, d] = true := by
  have := List.all_eq_true.mp (List.all_eq_true.mp (List.all_eq_true.mp (List.all_eq_true.mp sOk4' a (List.mem_range.mpr ha)) b (List.mem_range.mpr hb)) c (List.mem_range.mpr hc)) d (List.mem_range.mpr hd)
  simpa [h1, h2, h3, h4, h5, h6] using this
theorem sOk_perm {l : List Nat} {n : Nat} (h : l.Perm (List.range n)) (h2 : 2 ≤ n) (h4 : n ≤ 4) : sOk l = true := by
  have hl : l.length = n := by rw [h.length_eq, List.length_range]
  have hnd : l.Nodup := h.nodup_iff.mpr List.nodup_range
  have hlt : ∀ x ∈ l, x < n := fun x hx => List.mem_range.mp (h.mem_iff.mp hx)
  have hc : n = 2 ∨ n = 3 ∨ n = 4 := by omega
  rcases hc with rfl | rfl | rfl
  · match l, hl with
    | [a, b], _ =>
      simp at hnd hlt
      exact sOk2 a hlt.1 b hlt.2 hnd
  · match l, hl with
    | [a, b, c], _ =>
      simp at hnd hlt
      exact sOk3 hlt.1 hlt.2.1 hlt.2.2 hnd.1.1 hnd.1.2 hnd.2
  · match l, hl with
    | [a, b, c, d], _ =>
      simp at hnd hlt
      exact sOk4 hlt.1 hlt.2.1 hlt.2.2.1 hlt.2.2.2 hnd.1.1 hnd.1.2.1 hnd.1.2.2 hnd.2.1.1 hnd.2.1.2 hnd.2.2
theorem sOk_run {l : List Nat} (h : sOk l = true) : ∃ p, krun l.length (fun i j => decide (l.getD i 0 < l.getD j 0)) (kas_sort l.length) = some p ∧ p.toList.map (fun i => l.getD i 0) = List.range l.length ∧ ∀ i ∈ p.toList, i < l.length := by
  unfold sOk at h
  split at h
  · rename_i p e
    rw [Bool.and_eq_true] at h
    exact ⟨p, e, of_decide_eq_true h.1, fun i hi => of_decide_eq_true (List.all_eq_true.mp h.2 i hi)⟩
  · cases h
theorem katTups_of {h : Heap} {B : Mp} (hB : ∀ b o, B b = some o → h.get? b = some o) : ∀ {vs : List Value} {es : List Ent}, Ents B vs es → ∃ fs, KatTups h vs fs ∧ fs.length = vs.length ∧ ∀ f ∈ fs, ∃ b u, f = Value.bytes b u
  | [], _, _ => ⟨[], .nil, rfl, fun f hf => nomatch hf⟩
  | v :: vs, [], he => by have := he.1; simp at this
  | v :: vs, e :: es, he => by
    obtain ⟨c, t1, t2, t3, rfl, hc⟩ := he.2 0 v e rfl rfl
    obtain ⟨fs, h1, h2, h3⟩ := katTups_of hB (vs := vs) (es := es) ⟨by have := he.1; simpa using this, fun i v e a b => he.2 (i + 1) v e (by simpa using a) (by simpa using b)⟩
    refine ⟨_ :: fs, .cons (hB _ _ hc) rfl rfl rfl h1, by simp [h2], fun f hf => ?_⟩
    rcases List.mem_cons.mp hf with rfl | hf
    · exact ⟨_, _, rfl⟩
    · exact h3 f hf
section
variable {prog : Program} {w : World} {A : Around} {E : Value → Shared → Prop} {s : Shared} {h : Heap} {t : Nat}
  {H : Heap} {X B : Mp} {N : Mu} {L : Addr} {m : Lc}
theorem sorted_ents {l : Addr} {vs : List Value} {σ : List Nat} {n : Nat} {b0 : List UInt8} {f : Nat → Int} {Q : Value → Shared → Prop} (F : Fm H X B N L m h) (hl : h.IsList l vs.toArray) (he : Ents B vs (σ.map fun k : Nat => (b0, (k : Int), f k))) (hσ : σ.Perm (List.range n))
    (h2 : 2 ≤ n) (h4 : n ≤ 4) (hQ : ∀ D h' ys, Fm H X B N L m h' → h.get? D = none → h'.PlainList D (List.toArray ys) → Ents B ys ((List.range n).map fun k : Nat => (b0, (k : Int), f k)) → Q (.ref D) (S s h' t)) :
    wpAny (model prog w) A (call (.builtin "sorted") [.ref l]) Q E (S s h t) := by
  have hσl : σ.length = n := by rw [hσ.length_eq, List.length_range]
  have hvl : vs.length = n := by rw [he.1, List.length_map, hσl]
  obtain ⟨p, hp1, hp2, hp3⟩ := sOk_run (sOk_perm hσ h2 h4)
  have hget : ∀ i, i < n → ∃ v, vs[i]? = some v ∧ IsEnt B v (b0, ((σ.getD i 0 : Nat) : Int), f (σ.getD i 0)) := fun i hi => by
    obtain ⟨v, hv1, hv2⟩ := he.get (i := i) (by rw [List.length_map]; omega)
    refine ⟨v, hv1, ?_⟩
    have : σ.getD i 0 = σ[i] := by simp [List.getD, (show i < σ.length by omega)]
    rw [this]; simpa using hv2
  refine kat_sorted (s := S s h t) (fr00 F.ns) (news00 h L) hl (by omega) (by omega) ?_
  intro D e1 h' F' N' hD
  have hall : ∀ p ∈ allN h L, h'.get? p.1 = some p.2 := fun p hp => (N' p (.tail _ hp)).1
  have G := F.of_news F'.ns hall
  obtain ⟨fs, hf1, hf2, hf3⟩ := katTups_of G.keep he
  refine kat_kind (T := Value.type "bytes") hf1 (by omega) (fun v hv => ?_) (by decide) ?_
  · obtain ⟨b, u, rfl⟩ := hf3 v hv; exact Looks.of_pure rfl
  rw [show (Value.type "bytes" != Value.type "tuple") = true from by decide]
  rw [hvl]
  rw [hσl] at hp1
  refine krun_wp (s := S s h' t) (n := n) (ask := fun i j => decide (σ.getD i 0 < σ.getD j 0)) ?_ (kas_sort n) p hp1 ?_
  · intro i j C hi hj hC
    obtain ⟨vi, hi1, ci, t1, t2, t3, rfl, hi2⟩ := hget i hi
    obtain ⟨vj, hj1, cj, u1, u2, u3, rfl, hj2⟩ := hget j hj
    unfold kas_ask
    rw [show vs.getD i Value.none = .ref ci by simp [List.getD, hi1], show vs.getD j Value.none = .ref cj by simp [List.getD, hj1]]
    refine kat_lt (G.keep _ _ hi2) rfl (G.keep _ _ hj2) rfl ?_
    refine kat_cons (eqBool_bytes ?_)
    refine kat_go (fun _ => ?_) (fun e => by simp at e)
    refine kat_yes (kat_cons (wpAny_eqBool_int ?_))
    refine kat_go (fun e => ?_) (fun e => ?_)
    · have e' : σ.getD i 0 = σ.getD j 0 := by have := of_decide_eq_true (p := ((σ.getD i 0 : Nat) : Int) = ((σ.getD j 0 : Nat) : Int)) (by simpa using e); omega
      refine kat_yes (kat_cons (wpAny_eqBool_int ?_))
      rw [e'] at hC ⊢
      rw [beq_self_eq_true]
      refine kat_yes (kat_nil ?_)
      simpa using hC
    · refine kat_no (kat_one _ _ (PyProof.Rows.lt_int ?_))
      show C (decide _) _
      have : decide (((σ.getD i 0 : Nat) : Int) < ((σ.getD j 0 : Nat) : Int)) = decide (σ.getD i 0 < σ.getD j 0) := by rw [decide_eq_decide]; omega
      rw [this]; exact hC
  · refine KasFin.intro F' N' (.head fun p hp => Nat.ne_of_lt (hD p hp)) fun h'' c F'' N'' => ?_
    have hall' : ∀ p ∈ allN h L, h''.get? p.1 = some p.2 := fun p hp => (N'' p (.tail _ hp)).1
    have G'' := F.of_news F''.ns hall'
    have hD' := N'' _ (.head _)
    have hDL : D ≠ L := hD'.2.1
    have hDh : h.get? D = none := by
      cases q : h.get? D with
      | none => rfl
      | some o => exact absurd (hD _ (allN_mem.mpr ⟨hDL, q⟩)) (Nat.lt_irrefl _)
    refine hQ D h'' _ G'' hDh ⟨c, hD'.1⟩ ⟨?_, fun i v e hv hev => ?_⟩
    · have := congrArg List.length hp2
      rw [List.length_map, List.length_range, hσl] at this
      simp [this]
    · rw [← hσl, ← hp2] at hev
      rw [List.map_map, List.getElem?_map] at hev
      rw [List.getElem?_map] at hv
      cases q : p.toList[i]? with
      | none => rw [q] at hv; cases hv
      | some k =>
        rw [q] at hv hev
        cases hv; cases hev
        have hk := hp3 k (List.mem_of_getElem? q)
        obtain ⟨v, hv1, hv2⟩ := hget k (by omega)
        have e1 : vs.getD k Value.none = v := by simp [List.getD, hv1]
        show IsEnt B (vs.getD k Value.none) (b0, ((σ.getD k 0 : Nat) : Int), f (σ.getD k 0))
        rw [e1]; exact hv2
end

-- NL
theorem blt_nlt : ∀ (a b : List UInt8), blt a b = nlt (a.map UInt8.toNat) (b.map UInt8.toNat)
  | [], [] => rfl
  | [], _ :: _ => rfl
  | _ :: _, [] => rfl
  | x :: a, y :: b => by
    have ih := blt_nlt a b
    unfold blt at ih ⊢
    simp only [Builtin.Bytes.order, List.map_cons, nlt]
    by_cases h1 : x < y
    · have : x.toNat < y.toNat := UInt8.lt_iff_toNat_lt.mp h1
      rw [if_pos h1, if_neg (by omega), decide_eq_true this]; rfl
    · rw [if_neg h1]
      by_cases h2 : x > y
      · have : y.toNat < x.toNat := UInt8.lt_iff_toNat_lt.mp h2
        rw [if_pos h2, if_neg (by omega), decide_eq_false (by omega)]; rfl
      · have h3 : ¬ x.toNat < y.toNat := fun q => h1 (UInt8.lt_iff_toNat_lt.mpr q)
        have h4 : ¬ y.toNat < x.toNat := fun q => h2 (UInt8.lt_iff_toNat_lt.mpr q)
        rw [if_neg h2, if_pos (by omega), ih]
theorem toNat_inj : ∀ {a b : List UInt8}, a.map UInt8.toNat = b.map UInt8.toNat → a = b
  | [], [], _ => rfl
  | [], _ :: _, h => by simp at h
  | _ :: _, [], h => by simp at h
  | x :: a, y :: b, h => by
    simp only [List.map_cons, List.cons.injEq] at h
    rw [UInt8.toNat_inj.mp h.1, toNat_inj h.2]
theorem blt_asymm {a b : List UInt8} (h : blt a b = true) : blt b a = false := by rw [blt_nlt] at *; exact nlt_asymm h
theorem ble_trans {a b c : List UInt8} (h1 : blt b a = false) (h2 : blt c b = false) : blt c a = false := by rw [blt_nlt] at *; exact nle_trans h1 h2
theorem ble_antisymm {a b : List UInt8} (h1 : blt a b = false) (h2 : blt b a = false) : a = b := by rw [blt_nlt] at *; exact toNat_inj (nle_antisymm h1 h2)
theorem entLt_text {e f : Ent} (h : entLt e f = false) : blt e.1 f.1 = false := by
  unfold entLt at h
  by_cases q : e.1 = f.1
  · rw [q, blt_nlt]; exact nle_refl _
  · rw [if_neg q] at h; exact h
theorem entLt_irrefl (e : Ent) : entLt e e = false := by simp [entLt]
theorem entLt_asymm {e f : Ent} (h : entLt e f = true) : entLt f e = false := by
  obtain ⟨a, k, p⟩ := e
  obtain ⟨b, j, q⟩ := f
  unfold entLt at h ⊢
  dsimp only at h ⊢
  by_cases h1 : a = b
  · subst h1
    rw [if_pos rfl] at h ⊢
    by_cases h2 : k = j
    · subst h2
      rw [if_pos rfl] at h ⊢
      by_cases h3 : p = q
      · subst h3; rw [if_pos rfl] at h; cases h
      · rw [if_neg h3] at h; rw [if_neg (Ne.symm h3)]
        have := of_decide_eq_true h; exact decide_eq_false (by omega)
    · rw [if_neg h2] at h; rw [if_neg (Ne.symm h2)]
      have := of_decide_eq_true h; exact decide_eq_false (by omega)
  · rw [if_neg h1] at h; rw [if_neg (Ne.symm h1)]; exact blt_asymm h
theorem ent_int {k j p q : Int} (h : (if k = j then (if p = q then false else decide (p < q)) else decide (k < j)) = false) : j < k ∨ (k = j ∧ q ≤ p) := by
  by_cases h2 : k = j
  · subst h2
    rw [if_pos rfl] at h
    by_cases h3 : p = q
    · subst h3; exact .inr ⟨rfl, Int.le_refl _⟩
    · rw [if_neg h3] at h; exact .inr ⟨rfl, by have := of_decide_eq_false h; omega⟩
  · rw [if_neg h2] at h
    have := of_decide_eq_false h
    exact .inl (by omega)
theorem ent_int' {k j p q : Int} (h : j < k ∨ (k = j ∧ q ≤ p)) : (if k = j then (if p = q then false else decide (p < q)) else decide (k < j)) = false := by
  by_cases h2 : k = j
  · rw [if_pos h2]
    by_cases h3 : p = q
    · rw [if_pos h3]
    · rw [if_neg h3]; exact decide_eq_false (by omega)
  · rw [if_neg h2]; exact decide_eq_false (by omega)
theorem entLe_trans {a b c : Ent} (h1 : entLt b a = false) (h2 : entLt c b = false) : entLt c a = false := by
  have t1 := entLt_text h1
  have t2 := entLt_text h2
  obtain ⟨x, k, p⟩ := a
  obtain ⟨y, j, q⟩ := b
  obtain ⟨z, i, r⟩ := c
  dsimp only at t1 t2
  unfold entLt at h1 h2 ⊢
  dsimp only at h1 h2 ⊢
  by_cases e : z = x
  · subst e
    have : y = z := ble_antisymm t1 t2
    subst this
    rw [if_pos rfl] at h1 h2 ⊢
    have a1 := ent_int h1
    have a2 := ent_int h2
    exact ent_int' (by omega)
  · rw [if_neg e]; exact ble_trans t1 t2
def Hp (es : List Ent) : Prop := ∀ k, 1 ≤ k → k < es.length → entLt (es.getD k default) (es.getD ((k - 1) / 2) default) = false
theorem Hp.min {es : List Ent} (h : Hp es) (h4 : es.length ≤ 4) (k : Nat) (hk : k < es.length) : entLt (es.getD k default) (es.getD 0 default) = false := by
  have hc : k = 0 ∨ k = 1 ∨ k = 2 ∨ k = 3 := by omega
  rcases hc with rfl | rfl | rfl | rfl
  · exact entLt_irrefl _
  · exact h 1 (by omega) hk
  · exact h 2 (by omega) hk
  · exact entLe_trans (h 1 (by omega) (by omega)) (h 3 (by omega) hk)
theorem Hp2 {a b : Ent} (h : entLt b a = false) : Hp [a, b] := by
  intro k h1 h2
  have : k = 1 := by simp at h2; omega
  subst this; exact h
theorem Hp3 {a b c : Ent} (h : entLt b a = false) (h' : entLt c a = false) : Hp [a, b, c] := by
  intro k h1 h2
  have : k = 1 ∨ k = 2 := by simp at h2; omega
  rcases this with rfl | rfl
  · exact h
  · exact h'
theorem Hp4 {a b c d : Ent} (h : entLt b a = false) (h' : entLt c a = false) (h'' : entLt d b = false) : Hp [a, b, c, d] := by
  intro k h1 h2
  have : k = 1 ∨ k = 2 ∨ k = 3 := by simp at h2; omega
  rcases this with rfl | rfl | rfl
  · exact h
  · exact h'
  · exact h''
theorem su2 (a b : Ent) : siftup [a, b] 0 = if entLt a b then [a, b] else [b, a] := by
  simp [siftup, suLoop, sdLoop]
theorem su3 (a b c : Ent) : siftup [a, b, c] 0 = if entLt b c = false then (if entLt a c then [a, b, c] else [c, b, a]) else (if entLt a b then [a, b, c] else [b, a, c]) := by
  by_cases h : entLt b c = false
  · simp [siftup, suLoop, sdLoop, h]
  · simp [siftup, suLoop, sdLoop, h]
theorem su4 (a b c d : Ent) : siftup [a, b, c, d] 0 = if entLt b c = false then (if entLt a c then [a, b, c, d] else [c, b, a, d]) else (if entLt a d then (if entLt a b then [a, b, c, d] else [b, a, c, d]) else [b, d, c, a]) := by
  by_cases h : entLt b c = false
  · simp [siftup, suLoop, sdLoop, h]
  · simp [siftup, suLoop, sdLoop, h]
theorem su41 (a b c d : Ent) : siftup [a, b, c, d] 1 = if entLt b d then [a, b, c, d] else [a, d, c, b] := by
  simp [siftup, suLoop, sdLoop]

-- NM
theorem bfalse {b : Bool} (h : ¬ b = true) : b = false := by cases b <;> simp_all
theorem btrue {b : Bool} (h : ¬ b = false) : b = true := by cases b <;> simp_all
theorem su_heap {es : List Ent} (h2 : 2 ≤ es.length) (h4 : es.length ≤ 4) (hd : es.length = 4 → entLt (es.getD 3 default) (es.getD 1 default) = false) : Hp (siftup es 0) ∧ (siftup es 0).Perm es := by
  match es, h2, h4, hd with
  | [a, b], _, _, _ =>
    rw [su2]
    by_cases q : entLt a b = true
    · rw [if_pos q]; exact ⟨Hp2 (entLt_asymm q), .refl _⟩
    · rw [if_neg q]; exact ⟨Hp2 (bfalse q), .swap ..⟩
  | [a, b, c], _, _, _ =>
    rw [su3]
    by_cases q : entLt b c = false
    · rw [if_pos q]
      by_cases r : entLt a c = true
      · rw [if_pos r]; exact ⟨Hp3 (entLe_trans (entLt_asymm r) q) (entLt_asymm r), .refl _⟩
      · rw [if_neg r]; exact ⟨Hp3 q (bfalse r), List.perm_iff_count.mpr fun x => by simp only [List.count_cons, List.count_nil]; omega⟩
    · rw [if_neg q]
      have q' := entLt_asymm (btrue q)
      by_cases r : entLt a b = true
      · rw [if_pos r]; exact ⟨Hp3 (entLt_asymm r) (entLe_trans (entLt_asymm r) q'), .refl _⟩
      · rw [if_neg r]; exact ⟨Hp3 (bfalse r) q', .swap ..⟩
  | [a, b, c, d], _, _, hd =>
    have hd : entLt d b = false := hd rfl
    rw [su4]
    by_cases q : entLt b c = false
    · rw [if_pos q]
      by_cases r : entLt a c = true
      · rw [if_pos r]; exact ⟨Hp4 (entLe_trans (entLt_asymm r) q) (entLt_asymm r) hd, .refl _⟩
      · rw [if_neg r]; exact ⟨Hp4 q (bfalse r) hd, List.perm_iff_count.mpr fun x => by simp only [List.count_cons, List.count_nil]; omega⟩
    · rw [if_neg q]
      have q' := entLt_asymm (btrue q)
      by_cases r : entLt a d = true
      · rw [if_pos r]
        by_cases u : entLt a b = true
        · rw [if_pos u]; exact ⟨Hp4 (entLt_asymm u) (entLe_trans (entLt_asymm u) q') hd, .refl _⟩
        · rw [if_neg u]; exact ⟨Hp4 (bfalse u) q' (entLt_asymm r), .swap ..⟩
      · rw [if_neg r]; exact ⟨Hp4 hd q' (bfalse r), List.perm_iff_count.mpr fun x => by simp only [List.count_cons, List.count_nil]; omega⟩
theorem hpf_heap {es : List Ent} (h2 : 2 ≤ es.length) (h4 : es.length ≤ 4) : Hp (hpf (es.length / 2) es) ∧ (hpf (es.length / 2) es).Perm es := by
  match es, h2, h4 with
  | [a, b], h2, h4 =>
    rw [show ([a, b] : List Ent).length / 2 = 0 + 1 by simp, hpf, hpf]
    exact su_heap h2 h4 (fun e => by simp at e)
  | [a, b, c], h2, h4 =>
    rw [show ([a, b, c] : List Ent).length / 2 = 0 + 1 by simp, hpf, hpf]
    exact su_heap h2 h4 (fun e => by simp at e)
  | [a, b, c, d], h2, h4 =>
    rw [show ([a, b, c, d] : List Ent).length / 2 = 0 + 1 + 1 by simp, hpf, hpf, hpf, su41]
    by_cases q : entLt b d = true
    · rw [if_pos q]; exact su_heap h2 h4 (fun _ => entLt_asymm q)
    · rw [if_neg q]
      obtain ⟨x, y⟩ := su_heap (es := [a, d, c, b]) (by simp) (by simp) (fun _ => bfalse q)
      exact ⟨x, y.trans (List.perm_iff_count.mpr fun x => by simp only [List.count_cons, List.count_nil]; omega)⟩
theorem rep_heap {es : List Ent} {e : Ent} (h2 : 2 ≤ es.length) (h4 : es.length ≤ 4) (hh : Hp es) : Hp (siftup (es.set 0 e) 0) ∧ (siftup (es.set 0 e) 0).Perm (es.set 0 e) := by
  refine su_heap (by simpa using h2) (by simpa using h4) fun hl => ?_
  rw [List.length_set] at hl
  have := hh 3 (by omega) (by omega)
  simpa [List.getD] using this

/-- the entries of the rows' rests -/
def eOf (rs : List (List Nat)) (ps : List Nat) (k : Nat) : Ent := (qtext ((rs.getD k []).drop (ps.getD k 0)) ++ [126], (k : Int), ((ps.getD k 0 : Nat) : Int))
def eAll (rs : List (List Nat)) (ps : List Nat) : List Ent := (List.range rs.length).map (eOf rs ps)
theorem eAll_set {rs : List (List Nat)} {ps : List Nat} {j : Nat} (hj : j < ps.length) (hl : ps.length = rs.length) (p : Nat) : eAll rs (ps.set j p) = (eAll rs ps).set j (eOf rs (ps.set j p) j) := by
  refine List.ext_getElem (by simp [eAll]) fun i h1 h2 => ?_
  rw [List.getElem_set]
  by_cases q : j = i
  · subst q; rw [if_pos rfl]; simp [eAll]
  · rw [if_neg q]
    simp only [eAll, List.getElem_map, List.getElem_range, eOf]
    have : (ps.set j p).getD i 0 = ps.getD i 0 := by simp [List.getD, List.getElem?_set_ne q]
    rw [this]
theorem perm_swap_top {es l : List Ent} {j : Nat} {e : Ent} (hp : es.Perm l) (h0 : 0 < es.length) (hj : j < l.length) (he : es.getD 0 default = l[j]) : (es.set 0 e).Perm (l.set j e) := by
  match es, h0 with
  | a :: es, _ =>
    have ha : a = l[j] := he
    rw [List.set_cons_zero]
    refine List.perm_iff_count.mpr fun x => ?_
    have h1 := List.perm_iff_count.mp hp x
    rw [List.count_set hj, List.count_cons]
    rw [List.count_cons, ha] at h1
    have h2 : l[j] == x → 0 < List.count x l := fun q => by
      have := eq_of_beq q; rw [← this]; exact List.count_pos_iff.mpr (List.getElem_mem hj)
    by_cases q : (l[j] == x) = true
    · rw [if_pos q] at h1 ⊢; omega
    · rw [if_neg q] at h1 ⊢; omega

-- NN
def sle : List Nat → List Nat → Prop
  | _, [] => True
  | [], _ :: _ => False
  | e :: v, d :: w => e < d ∨ (e = d ∧ sle v w)
theorem sum_set : ∀ (rs : List (List Nat)) (k : Nat) (r t : List Nat), rs[k]? = some r → ((rs.set k t).map List.length).sum + r.length = (rs.map List.length).sum + t.length
  | r :: rs, 0, r', t, h => by simp at h; subst h; simp; omega
  | r :: rs, k + 1, r', t, h => by
    have := sum_set rs k r' t (by simpa using h)
    simp only [List.set_cons_succ, List.map_cons, List.sum_cons]; omega
theorem mg_ex : ∀ (n : Nat) (rs : List (List Nat)), (rs.map List.length).sum = n → ∃ l, Mg rs l := by
  intro n
  induction n using Nat.strongRecOn with
  | ind n ih =>
    intro rs hn
    by_cases q : ∀ r ∈ rs, r = []
    · exact ⟨[], .nil q⟩
    · simp only [Classical.not_forall] at q
      obtain ⟨r, hr, hne⟩ := q
      obtain ⟨k, hk⟩ := List.mem_iff_getElem?.mp hr
      cases r with
      | nil => exact absurd rfl hne
      | cons x t =>
        have hs := sum_set rs k (x :: t) t hk
        simp only [List.length_cons] at hs
        obtain ⟨l, hl⟩ := ih _ (by omega) (rs.set k t) rfl
        exact ⟨x :: l, .cons hk hl⟩
theorem set_same {α : Type} {l : List α} {k : Nat} {x : α} (h : l[k]? = some x) : l.set k x = l := by
  obtain ⟨hk, e⟩ := List.getElem?_eq_some_iff.mp h
  rw [← e]; exact List.set_getElem_self hk
theorem xchg : ∀ (l1 : List Nat) (rs : List (List Nat)) (j k : Nat) (u v w : List Nat), j ≠ k → rs[j]? = some (u ++ v) → rs[k]? = some w → sle v w → Mg rs l1 → ∃ l2, Mg ((rs.set j v).set k (u ++ w)) l2 ∧ nlt l1 l2 = false := by
  intro l1
  induction l1 with
  | nil =>
    intro rs j k u v w hjk hj hk hs hm
    cases hm with
    | nil h =>
      have h1 := h _ (List.mem_of_getElem? hj)
      have h2 := h _ (List.mem_of_getElem? hk)
      obtain ⟨rfl, rfl⟩ := List.append_eq_nil_iff.mp h1
      subst h2
      refine ⟨[], .nil fun r hr => ?_, rfl⟩
      rcases List.mem_or_eq_of_mem_set hr with hr | rfl
      · rcases List.mem_or_eq_of_mem_set hr with hr | rfl
        · exact h r hr
        · rfl
      · rfl
  | cons x l ih =>
    intro rs j k u v w hjk hj hk hs hm
    have hjl : j < rs.length := (List.getElem?_eq_some_iff.mp hj).1
    have hkl : k < rs.length := (List.getElem?_eq_some_iff.mp hk).1
    cases hm with
    | @cons _ m _ t _ hx hm =>
      by_cases hmj : m = j
      · subst hmj
        rw [hj] at hx
        cases u with
        | nil =>
          rw [List.nil_append] at hj hx ⊢
          rw [set_same hj, set_same hk]
          refine ⟨x :: l, .cons ?_ hm, nle_refl _⟩
          rw [hj]; exact hx
        | cons c u' =>
          simp at hx
          obtain ⟨rfl, rfl⟩ := hx
          obtain ⟨l2, h1, h2⟩ := ih (rs.set m (u' ++ v)) m k u' v w hjk (List.getElem?_set_self hjl) (by rw [List.getElem?_set_ne hjk]; exact hk) hs hm
          rw [List.set_set] at h1
          refine ⟨c :: l2, .cons (k := k) (t := u' ++ w) (List.getElem?_set_self (by simpa using hkl)) (by rw [List.set_set]; exact h1), by rw [nlt_cons]; exact h2⟩
      · by_cases hmk : m = k
        · subst hmk
          rw [hk] at hx
          cases hx
          cases v with
          | nil => exact hs.elim
          | cons e v' =>
            have hje : ((rs.set j (e :: v')).set m (u ++ x :: t))[j]? = some (e :: v') := by
              rw [List.getElem?_set_ne hmj]; exact List.getElem?_set_self hjl
            rcases hs with hlt | ⟨rfl, hs⟩
            · obtain ⟨l', hl'⟩ := mg_ex _ (((rs.set j (e :: v')).set m (u ++ x :: t)).set j v') rfl
              refine ⟨e :: l', .cons hje hl', ?_⟩
              unfold nlt
              rw [if_neg (by omega)]; exact decide_eq_false (by omega)
            · obtain ⟨l2, h1, h2⟩ := ih (rs.set m t) j m (u ++ [e]) v' t hjk (by rw [List.getElem?_set_ne hmj, hj]; simp) (List.getElem?_set_self hkl) hs hm
              refine ⟨e :: l2, .cons hje ?_, by rw [nlt_cons]; exact h2⟩
              have e1 : ((rs.set j (e :: v')).set m (u ++ e :: t)).set j v' = (rs.set j v').set m (u ++ e :: t) := by
                rw [List.set_comm _ _ hmj, List.set_set]
              have e2 : ((rs.set m t).set j v').set m ((u ++ [e]) ++ t) = (rs.set j v').set m (u ++ e :: t) := by
                rw [List.set_comm _ _ hmj, List.set_set]; simp
              rw [e1, ← e2]; exact h1
        · obtain ⟨l2, h1, h2⟩ := ih (rs.set m t) j k u v w hjk (by rw [List.getElem?_set_ne hmj]; exact hj) (by rw [List.getElem?_set_ne hmk]; exact hk) hs hm
          refine ⟨x :: l2, .cons (k := m) (t := t) ?_ ?_, by rw [nlt_cons]; exact h2⟩
          · rw [List.getElem?_set_ne (Ne.symm hmk), List.getElem?_set_ne (Ne.symm hmj)]; exact hx
          · rw [List.set_comm _ _ (Ne.symm hmk), List.set_comm _ _ (Ne.symm hmj)]; exact h1
theorem greedy {rs : List (List Nat)} {j x : Nat} {t l : List Nat} (hj : rs[j]? = some (x :: t)) (hmin : ∀ (k : Nat) (r : List Nat), rs[k]? = some r → sle (x :: t) r) (hl : Least (rs.set j t) l) : Least rs (x :: l) := by
  have hjl : j < rs.length := (List.getElem?_eq_some_iff.mp hj).1
  refine ⟨.cons hj hl.1, fun l' hl' => ?_⟩
  cases hl' with
  | nil h => have := h _ (List.mem_of_getElem? hj); cases this
  | @cons _ m y t' l'' hy hm =>
    have hml : m < rs.length := (List.getElem?_eq_some_iff.mp hy).1
    by_cases q : m = j
    · subst q
      rw [hj] at hy; cases hy
      rw [nlt_cons]; exact hl.2 _ hm
    · rcases hmin m _ hy with hlt | ⟨rfl, hs⟩
      · unfold nlt; rw [if_neg (by omega)]; exact decide_eq_false (by omega)
      · obtain ⟨l2, h1, h2⟩ := xchg l'' (rs.set m t') j m [x] t t' (Ne.symm q) (by rw [List.getElem?_set_ne q, hj]; rfl) (List.getElem?_set_self hml) hs hm
        have e : ((rs.set m t').set j t).set m ([x] ++ t') = rs.set j t := by
          rw [List.set_comm _ _ q, List.set_set, set_same]
          rw [List.getElem?_set_ne (Ne.symm q)]; exact hy
        rw [e] at h1
        rw [nlt_cons]
        exact nle_trans (hl.2 _ h1) h2
theorem wd_sgn : ∀ a, a < 64 → ∀ b, b < 64 → (wd a < wd b → sgnN a < sgnN b) := by decide +kernel
theorem wd_inj : ∀ a, a < 64 → ∀ b, b < 64 → (wd a = wd b → a = b) := by decide +kernel
theorem quadU_nat {v : Nat} (hv : v < 16777216) : (quadU v).map UInt8.toNat = [sgnN (v / 262144 % 64), sgnN (v / 4096 % 64), sgnN (v / 64 % 64), sgnN (v % 64)] := by
  have f : ∀ n, n < 256 → n.toUInt8.toNat = n := fun n hn => by simp; omega
  have g : ∀ n, sgnN (n % 64) < 256 := fun n => sgnN_lt _ (Nat.mod_lt _ (by decide))
  have e : v / 262144 = v / 262144 % 64 := by omega
  unfold quadU quad
  rw [e]
  simp only [List.map_cons, List.map_nil]
  rw [f _ (g _), f _ (g _), f _ (g _), f _ (g _)]
  simp
theorem wgt_eq (v : Nat) : wgt v = ((wd (v / 262144 % 64) * 65 + wd (v / 4096 % 64)) * 65 + wd (v / 64 % 64)) * 65 + wd (v % 64) := by
  simp [wgt, wfold]
theorem dig_lt {a1 a2 a3 a4 b1 b2 b3 b4 : Nat} (ha2 : a2 ≤ 64) (ha3 : a3 ≤ 64) (ha4 : a4 ≤ 64) (hb2 : b2 ≤ 64) (hb3 : b3 ≤ 64) (hb4 : b4 ≤ 64) (h : ((a1 * 65 + a2) * 65 + a3) * 65 + a4 < ((b1 * 65 + b2) * 65 + b3) * 65 + b4) :
    a1 < b1 ∨ (a1 = b1 ∧ (a2 < b2 ∨ (a2 = b2 ∧ (a3 < b3 ∨ (a3 = b3 ∧ a4 < b4))))) := by omega
theorem nlt_lt {x y : Nat} {a b : List Nat} (h : x < y) : nlt (x :: a) (y :: b) = true := by
  unfold nlt; rw [if_neg (Nat.ne_of_lt h)]; exact decide_eq_true h
theorem quad_lt {v w : Nat} (hv : v < 16777216) (hw : w < 16777216) (h : wgt w < wgt v) (p q : List UInt8) : blt (quadU w ++ p) (quadU v ++ q) = true := by
  rw [blt_nlt, List.map_append, List.map_append, quadU_nat hv, quadU_nat hw]
  rw [wgt_eq, wgt_eq] at h
  have b : ∀ n, n % 64 < 64 := fun n => Nat.mod_lt _ (by decide)
  have c : ∀ n, wd (n % 64) ≤ 64 := fun n => (wd_lt _ (b n)).2
  have m1 := wd_sgn _ (b (w / 262144)) _ (b (v / 262144)); have m2 := wd_sgn _ (b (w / 4096)) _ (b (v / 4096)); have m3 := wd_sgn _ (b (w / 64)) _ (b (v / 64)); have m4 := wd_sgn _ (b w) _ (b v)
  have i1 := wd_inj _ (b (w / 262144)) _ (b (v / 262144)); have i2 := wd_inj _ (b (w / 4096)) _ (b (v / 4096)); have i3 := wd_inj _ (b (w / 64)) _ (b (v / 64))
  rcases dig_lt (c _) (c _) (c _) (c _) (c _) (c _) h with k | ⟨k1, k | ⟨k2, k | ⟨k3, k⟩⟩⟩
  · exact nlt_lt (m1 k)
  · rw [i1 k1]; exact (nlt_cons _ _ _).trans (nlt_lt (m2 k))
  · rw [i1 k1, i2 k2]; exact (nlt_cons _ _ _).trans ((nlt_cons _ _ _).trans (nlt_lt (m3 k)))
  · rw [i1 k1, i2 k2, i3 k3]; exact (nlt_cons _ _ _).trans ((nlt_cons _ _ _).trans ((nlt_cons _ _ _).trans (nlt_lt (m4 k))))
theorem dig_eq {a1 a2 a3 a4 b1 b2 b3 b4 : Nat} (ha2 : a2 ≤ 64) (ha3 : a3 ≤ 64) (ha4 : a4 ≤ 64) (hb2 : b2 ≤ 64) (hb3 : b3 ≤ 64) (hb4 : b4 ≤ 64) (h : ((a1 * 65 + a2) * 65 + a3) * 65 + a4 = ((b1 * 65 + b2) * 65 + b3) * 65 + b4) :
    a1 = b1 ∧ a2 = b2 ∧ a3 = b3 ∧ a4 = b4 := by omega
theorem quad_eq {v w : Nat} (hv : v < 16777216) (hw : w < 16777216) (h : wgt w = wgt v) : quadU w = quadU v := by
  apply toNat_inj
  rw [quadU_nat hv, quadU_nat hw]
  rw [wgt_eq, wgt_eq] at h
  have b : ∀ n, n % 64 < 64 := fun n => Nat.mod_lt _ (by decide)
  have c : ∀ n, wd (n % 64) ≤ 64 := fun n => (wd_lt _ (b n)).2
  obtain ⟨k1, k2, k3, k4⟩ := dig_eq (c _) (c _) (c _) (c _) (c _) (c _) h
  rw [wd_inj _ (b _) _ (b _) k1, wd_inj _ (b _) _ (b _) k2, wd_inj _ (b _) _ (b _) k3, wd_inj _ (b _) _ (b _) k4]
theorem nlt_append : ∀ (p a b : List Nat), nlt (p ++ a) (p ++ b) = nlt a b
  | [], _, _ => rfl
  | x :: p, a, b => by rw [List.cons_append, List.cons_append, nlt_cons, nlt_append p]
theorem text_sle : ∀ (a b : List Nat), (∀ n ∈ a, n < 16777216) → (∀ n ∈ b, n < 16777216) → blt (qtext b ++ [126]) (qtext a ++ [126]) = false → sle (a.map wgt) (b.map wgt)
  | _, [], _, _, _ => by simp [sle]
  | [], d :: b, _, hb, h => by
    exfalso
    rw [qtext_cons, blt_nlt, List.append_assoc, List.map_append, quadU_nat (hb d (List.mem_cons_self ..))] at h
    have : ∀ n, n < 64 → sgnN n < 126 := by decide
    have := this (d / 262144 % 64) (Nat.mod_lt _ (by decide))
    simp only [List.cons_append, show qtext ([] : List Nat) = [] from rfl, List.nil_append, List.map_cons, nlt, show UInt8.toNat 126 = 126 from rfl] at h
    rw [if_neg (by omega)] at h
    exact absurd this (of_decide_eq_false h)
  | e :: a, d :: b, ha, hb, h => by
    have he := ha e (List.mem_cons_self ..)
    have hd := hb d (List.mem_cons_self ..)
    rw [qtext_cons, qtext_cons, List.append_assoc, List.append_assoc] at h
    rw [List.map_cons, List.map_cons, sle]
    rcases Nat.lt_trichotomy (wgt e) (wgt d) with q | q | q
    · exact .inl q
    · refine .inr ⟨q, text_sle a b (fun n hn => ha n (List.mem_cons_of_mem _ hn)) (fun n hn => hb n (List.mem_cons_of_mem _ hn)) ?_⟩
      rw [quad_eq hd he q, blt_nlt] at h
      rw [blt_nlt]
      simp only [List.map_append, nlt_append] at h ⊢
      exact h
    · rw [quad_lt he hd q] at h; cases h

-- NO
def Stt (rs : List (List Nat)) (ps : List Nat) : Prop := ps.length = rs.length ∧ ∀ k, k < rs.length → ps.getD k 0 ≤ (rs.getD k []).length
def curW (rs : List (List Nat)) (ps : List Nat) : List (List Nat) := (List.range rs.length).map fun k => ((rs.getD k []).drop (ps.getD k 0)).map wgt
theorem curW_get {rs : List (List Nat)} {ps : List Nat} {k : Nat} (hk : k < rs.length) : (curW rs ps)[k]? = some (((rs.getD k []).drop (ps.getD k 0)).map wgt) := by
  simp [curW, hk]
theorem getD_set_self {ps : List Nat} {j p : Nat} (h : j < ps.length) : (ps.set j p).getD j 0 = p := by simp [List.getD, h]
theorem getD_set_ne {ps : List Nat} {j k p : Nat} (h : j ≠ k) : (ps.set j p).getD k 0 = ps.getD k 0 := by simp [List.getD, List.getElem?_set_ne h]
theorem curW_set {rs : List (List Nat)} {ps : List Nat} {j : Nat} (hj : j < ps.length) (hl : ps.length = rs.length) (p : Nat) : curW rs (ps.set j p) = (curW rs ps).set j (((rs.getD j []).drop p).map wgt) := by
  refine List.ext_getElem (by simp [curW]) fun i h1 h2 => ?_
  rw [List.getElem_set]
  by_cases q : j = i
  · subst q; rw [if_pos rfl]
    simp only [curW, List.getElem_map, List.getElem_range]
    rw [getD_set_self hj]
  · rw [if_neg q]
    simp only [curW, List.getElem_map, List.getElem_range]
    rw [getD_set_ne q]
theorem sum_lo : ∀ (rs : List (List Nat)) (ps : List Nat), ps.length = rs.length → (∀ k, k < rs.length → (rs.getD k []).length ≤ ps.getD k 0) → rs.flatten.length ≤ ps.sum
  | [], _, _, _ => by simp
  | r :: rs, [], h, _ => by simp at h
  | r :: rs, p :: ps, h, hk => by
    have h0 := hk 0 (by simp)
    have := sum_lo rs ps (by simpa using h) fun k q => by have := hk (k + 1) (by simpa using q); simpa using this
    simp at h0
    simp only [List.flatten_cons, List.length_append, List.sum_cons]; omega
theorem sum_hi : ∀ (rs : List (List Nat)) (ps : List Nat), ps.length = rs.length → (∀ k, k < rs.length → ps.getD k 0 ≤ (rs.getD k []).length) → ps.sum ≤ rs.flatten.length ∧ (rs.flatten.length ≤ ps.sum → ∀ k, k < rs.length → ps.getD k 0 = (rs.getD k []).length)
  | [], [], _, _ => by simp
  | [], _ :: _, h, _ => by simp at h
  | r :: rs, [], h, _ => by simp at h
  | r :: rs, p :: ps, h, hk => by
    have h0 := hk 0 (by simp)
    obtain ⟨h1, h2⟩ := sum_hi rs ps (by simpa using h) fun k q => by have := hk (k + 1) (by simpa using q); simpa using this
    simp at h0
    simp only [List.flatten_cons, List.length_append, List.sum_cons]
    refine ⟨by omega, fun q k hk' => ?_⟩
    cases k with
    | zero => simp; omega
    | succ k =>
      have := h2 (by omega) k (by simpa using hk')
      simpa using this
theorem sum_set1 : ∀ (ps : List Nat) (j : Nat), j < ps.length → (ps.set j (ps.getD j 0 + 1)).sum = ps.sum + 1
  | p :: ps, 0, _ => by simp; omega
  | p :: ps, j + 1, h => by
    have := sum_set1 ps j (by simpa using h)
    simp only [List.set_cons_succ, List.sum_cons, List.getD_cons_succ]; omega
theorem eAll_len (rs : List (List Nat)) (ps : List Nat) : (eAll rs ps).length = rs.length := by simp [eAll]
theorem eAll_mem {rs : List (List Nat)} {ps : List Nat} {e : Ent} : e ∈ eAll rs ps ↔ ∃ k, k < rs.length ∧ eOf rs ps k = e := by simp [eAll]
theorem row_lt {rs : List (List Nat)} (hv : ∀ x ∈ rs, ∀ n ∈ x, n < 16777216) (k : Nat) : ∀ n ∈ rs.getD k [], n < 16777216 := by
  intro n hn
  by_cases q : k < rs.length
  · have e : rs.getD k [] = rs[k] := by simp [List.getD, q]
    rw [e] at hn; exact hv _ (List.getElem_mem q) n hn
  · have e : rs.getD k [] = [] := by simp [List.getD, q]
    rw [e] at hn; cases hn
theorem turn_ok {rs : List (List Nat)} {ps : List Nat} {es : List Ent} (hv : ∀ x ∈ rs, ∀ n ∈ x, n < 16777216) (h2 : 2 ≤ rs.length) (h4 : rs.length ≤ 4) (hst : Stt rs ps) (hp : es.Perm (eAll rs ps)) (hh : Hp es) (hsum : ps.sum < rs.flatten.length) :
    ∃ j x, j < rs.length ∧ es.getD 0 default = eOf rs ps j ∧ (rs.getD j [])[ps.getD j 0]? = some x ∧ ∀ l, Least (curW rs (ps.set j (ps.getD j 0 + 1))) l → Least (curW rs ps) (wgt x :: l) := by
  have hel : es.length = rs.length := by rw [hp.length_eq, eAll_len]
  have h0 : es.getD 0 default ∈ es := by
    have : es.getD 0 default = es[0] := by simp [List.getD, (show 0 < es.length by omega)]
    rw [this]; exact List.getElem_mem _
  obtain ⟨j, hj, hje⟩ := eAll_mem.mp (hp.mem_iff.mp h0)
  have hmin : ∀ k, k < rs.length → sle (((rs.getD j []).drop (ps.getD j 0)).map wgt) (((rs.getD k []).drop (ps.getD k 0)).map wgt) := fun k hk => by
    obtain ⟨i, hi⟩ := List.mem_iff_getElem?.mp (hp.mem_iff.mpr (eAll_mem.mpr ⟨k, hk, rfl⟩))
    have hil := (List.getElem?_eq_some_iff.mp hi).1
    have e1 : es.getD i default = eOf rs ps k := by simp [List.getD, hi]
    have := hh.min (by omega) i hil
    rw [e1, ← hje] at this
    exact text_sle _ _ (fun n hn => row_lt hv j n (List.mem_of_mem_drop hn)) (fun n hn => row_lt hv k n (List.mem_of_mem_drop hn)) (entLt_text this)
  cases hd : (rs.getD j []).drop (ps.getD j 0) with
  | nil =>
    exfalso
    rw [hd] at hmin
    have := sum_lo rs ps hst.1 fun k hk => by
      have q := hmin k hk
      cases e : (rs.getD k []).drop (ps.getD k 0) with
      | nil => exact List.drop_eq_nil_iff.mp e
      | cons a b => rw [e] at q; simp [sle] at q
    omega
  | cons x t =>
    have hjp : ps.getD j 0 < (rs.getD j []).length := by
      have := congrArg List.length hd; rw [List.length_drop, List.length_cons] at this; omega
    have hx : (rs.getD j [])[ps.getD j 0]? = some x := by
      have := congrArg (fun l => l[0]?) hd
      simpa [List.getElem?_drop] using this
    have ht : (rs.getD j []).drop (ps.getD j 0 + 1) = t := by
      rw [← List.drop_drop, hd]; rfl
    refine ⟨j, x, hj, hje.symm, hx, fun l hl => ?_⟩
    rw [curW_set (by rw [hst.1]; exact hj) hst.1, ht] at hl
    refine greedy (t := t.map wgt) (by rw [curW_get hj, hd]; rfl) (fun k r hr => ?_) hl
    have hk : k < rs.length := by have := (List.getElem?_eq_some_iff.mp hr).1; simpa [curW] using this
    rw [curW_get hk] at hr
    cases hr
    have := hmin k hk
    rw [hd] at this; exact this
theorem end_ps {rs : List (List Nat)} {ps : List Nat} (hst : Stt rs ps) (hsum : ps.sum = rs.flatten.length) : ∀ k, k < rs.length → ps.getD k 0 = (rs.getD k []).length :=
  (sum_hi rs ps hst.1 hst.2).2 (by omega)
theorem end_least {rs : List (List Nat)} {ps : List Nat} (hst : Stt rs ps) (hsum : ps.sum = rs.flatten.length) : Least (curW rs ps) [] := by
  refine Least.nil fun r hr => ?_
  obtain ⟨k, hk⟩ := List.mem_iff_getElem?.mp hr
  have hkl : k < rs.length := by have := (List.getElem?_eq_some_iff.mp hk).1; simpa [curW] using this
  rw [curW_get hkl, end_ps hst hsum k hkl, List.drop_length] at hk
  exact (Option.some.inj hk).symm
theorem end_ents {rs : List (List Nat)} {ps : List Nat} {es : List Ent} (hst : Stt rs ps) (hsum : ps.sum = rs.flatten.length) (hp : es.Perm (eAll rs ps)) :
    ∃ σ : List Nat, σ.Perm (List.range rs.length) ∧ es = σ.map fun k : Nat => (([126] : List UInt8), (k : Int), (((rs.getD k []).length : Nat) : Int)) := by
  have he : eAll rs ps = (List.range rs.length).map fun k : Nat => (([126] : List UInt8), (k : Int), (((rs.getD k []).length : Nat) : Int)) := by
    refine List.map_congr_left fun k hk => ?_
    unfold eOf
    rw [end_ps hst hsum k (List.mem_range.mp hk), List.drop_length]; rfl
  rw [he] at hp
  refine ⟨es.map fun e => e.2.1.toNat, ?_, ?_⟩
  · have := hp.map fun e => e.2.1.toNat
    rw [List.map_map] at this
    have e2 : List.map ((fun e : Ent => e.2.1.toNat) ∘ fun k : Nat => (([126] : List UInt8), (k : Int), (((rs.getD k []).length : Nat) : Int))) (List.range rs.length) = List.range rs.length := by
      conv => rhs; rw [← List.map_id (List.range rs.length)]
      exact List.map_congr_left fun k _ => by simp
    rw [e2] at this; exact this
  · rw [List.map_map]
    conv => lhs; rw [← List.map_id es]
    refine List.map_congr_left fun e hee => ?_
    obtain ⟨k, _, rfl⟩ := List.mem_map.mp (hp.mem_iff.mp hee)
    simp
theorem curW_zero (rs : List (List Nat)) : curW rs (List.replicate rs.length 0) = rs.map fun r => r.map wgt := by
  refine List.ext_getElem (by simp [curW]) fun i h1 h2 => ?_
  have hi : i < rs.length := by simpa using h2
  simp only [curW, List.getElem_map, List.getElem_range]
  have e1 : (List.replicate rs.length 0).getD i 0 = 0 := by simp [List.getD, hi]
  have e2 : rs.getD i [] = rs[i] := by simp [List.getD, hi]
  rw [e1, e2, List.drop_zero]
theorem stt_zero (rs : List (List Nat)) : Stt rs (List.replicate rs.length 0) := ⟨by simp, fun k hk => by simp [List.getD, hk]⟩
theorem stt_step {rs : List (List Nat)} {ps : List Nat} {j x : Nat} (hst : Stt rs ps) (hj : j < rs.length) (hx : (rs.getD j [])[ps.getD j 0]? = some x) : Stt rs (ps.set j (ps.getD j 0 + 1)) := by
  refine ⟨by simpa using hst.1, fun k hk => ?_⟩
  by_cases q : j = k
  · subst q; rw [getD_set_self (by rw [hst.1]; exact hj)]; exact (List.getElem?_eq_some_iff.mp hx).1
  · rw [getD_set_ne q]; exact hst.2 k hk
theorem turn_perm {rs : List (List Nat)} {ps : List Nat} {es : List Ent} {j : Nat} (h2 : 2 ≤ rs.length) (h4 : rs.length ≤ 4) (hst : Stt rs ps) (hp : es.Perm (eAll rs ps)) (hh : Hp es) (hj : j < rs.length) (he : es.getD 0 default = eOf rs ps j) :
    Hp (siftup (es.set 0 (eOf rs (ps.set j (ps.getD j 0 + 1)) j)) 0) ∧ (siftup (es.set 0 (eOf rs (ps.set j (ps.getD j 0 + 1)) j)) 0).Perm (eAll rs (ps.set j (ps.getD j 0 + 1))) := by
  have hel : es.length = rs.length := by rw [hp.length_eq, eAll_len]
  obtain ⟨a, b⟩ := rep_heap (e := eOf rs (ps.set j (ps.getD j 0 + 1)) j) (by omega) (by omega) hh
  refine ⟨a, b.trans ?_⟩
  rw [eAll_set (by rw [hst.1]; exact hj) hst.1]
  refine perm_swap_top hp (by omega) (by rw [eAll_len]; exact hj) ?_
  rw [he]; simp [eAll]

-- NP
theorem noIadd_bytes : typeLookup (.type "bytes") (dunderI "add") = pure none := by rw [typeLookup_type, builtinLookup_eq_fast]; kernel_rfl
section
variable {prog : Program} {w : World} {A : Around} {E : Value → Shared → Prop} {s : Shared} {h : Heap} {t : Nat} {env : Env}
  {H : Heap} {X B : Mp} {N : Mu} {L : Addr} {m : Lc}
theorem Tuple_ {elts : List Expr} {k : Nat} {pos : Pos} {Q : Value → Shared → Prop}
    (hQ : wpAny (model prog w) A (spliced (backTo pos (starEach elts env))) (fun vs s₁ => wpAny (model prog w) A (newTuple vs) Q E s₁) E (S s h t)) : wpAny (model prog w) A (eval (.Tuple elts k pos) env) Q E (S s h t) := by
  rw [arm_eval_Tuple]
  exact wpAny_bind (wpAny_standAt (wpAny_bind hQ))
theorem mk_tuple {vs : List Value} {Q : Value → Shared → Prop} (hz : vs.length ≤ 16777216) (hQ : ∀ a h', h.get? a = none → Kp h h' → h'.get? a = some (tupObj vs) → Q (.ref a) (S s h' t)) :
    wpAny (model prog w) A (newTuple vs) Q E (S s h t) :=
  wpAny_newTuple (hQ _ _ (get?_size h) (Kp.push _ _) (Heap.get?_push_size _ rfl)) (by simpa [sizeLine] using hz)
theorem add_bts {b c : List UInt8} {u v : Tok} {Q : Value → Shared → Prop} (hz : b.length + c.length ≤ 16777216) (hQ : ∀ u t', Q (.bytes (b ++ c).toArray u) (S s h t')) :
    wpAny (model prog w) A (binaryOp .Add (.bytes b.toArray u) (.bytes c.toArray v)) Q E (S s h t) :=
  KBy.add_bytes (by simpa using hz) fun t' k => by have := hQ t' k; simpa using this
theorem iadd_bts {b c : List UInt8} {u v : Tok} {Q : Value → Shared → Prop} (hz : b.length + c.length ≤ 16777216) (hQ : ∀ u t', Q (.bytes (b ++ c).toArray u) (S s h t')) :
    wpAny (model prog w) A (inplaceOp .Add (.bytes b.toArray u) (.bytes c.toArray v)) Q E (S s h t) := by
  refine wpAny_inplaceOp_concat (typeIs_bytes _ _ _) (typeIs_bytes _ _ _) noIadd_bytes KBy.noFill_bytes_add KBy.seq_bytes_add ?_
  have hz' : b.toArray.size + c.toArray.size ≤ 16777216 := by simpa using hz
  have hQ' : ∀ u t', Q (.bytes (b.toArray ++ c.toArray) u) (S s h t') := fun u t' => by have := hQ u t'; simpa using this
  refine call_gives FB.slot_bytes_add (typeIs_bytes _ _ _) FB.entry_bytes_add (FB.args_bytes_add_2 _ _) (KBy.gives_bytes_add (KBy.tooLong_not hz')) ?_
  generalize b.toArray = b at *
  generalize c.toArray = c at *
  by_cases hb : b.isEmpty = true
  · rw [if_pos hb]
    have e : b = #[] := Array.isEmpty_iff.1 hb
    have h' := hQ' v t
    rw [e, Array.empty_append] at h'
    exact h'
  · rw [if_neg hb]
    by_cases hc : c.isEmpty = true
    · rw [if_pos hc]
      have e : c = #[] := Array.isEmpty_iff.1 hc
      have h' := hQ' u t
      rw [e, Array.append_empty] at h'
      exact h'
    · rw [if_neg hc]
      exact ⟨by rw [Array.size_append, sizeLine_eq]; exact hz', hQ' t (t + 1)⟩
theorem ne_lsts {a b : Addr} {xs ys : List Value} {e : Nat → Bool} {Q : Value → Shared → Prop} (hu : A.units < cLine) (ha : h.IsList a xs.toArray) (hb : h.IsList b ys.toArray) (hz : xs.length = ys.length)
    (he : ∀ (j : Nat) (v v' : Value), xs[j]? = some v → ys[j]? = some v' → SeqAt.EqAt A.in1 (S s h t) v v' (e j)) (hQ : Q (.bool (!(List.range xs.length).all e)) (S s h t)) :
    wpAny (model prog w) A (compareOp .NotEq (.ref a) (.ref b)) Q E (S s h t) := by
  show wpAny _ _ (richCompare .NotEq (.ref a) (.ref b)) Q E _
  refine SeqAt.RcNeAt.lists (s := S s h t) (e := e) ha hb (by simpa using hz) hu (fun j h1 h2 => ?_) prog w E Q (by simpa using hQ)
  simp at h1 h2
  exact he j _ _ (by simp [h1]) (by simp [h2])
theorem eq_ints {a b : Addr} {xs ys : List Value} {l : List Nat} {Q : Value → Shared → Prop} (hu : A.units < cLine) (ha : h.IsList a xs.toArray) (hb : h.IsList b ys.toArray) (hi : IntsAre xs (toI l)) (hj : IntsAre ys (toI l))
    (hQ : Q (.bool true) (S s h t)) : wpAny (model prog w) A (compareOp .Eq (.ref a) (.ref b)) Q E (S s h t) := by
  have z1 : xs.length = l.length := by rw [hi.length, toI_len]
  have z2 : ys.length = l.length := by rw [hj.length, toI_len]
  show wpAny _ _ (richCompare .Eq (.ref a) (.ref b)) Q E _
  refine SeqAt.RcAt.lists (s := S s h t) (e := fun _ => true) ha hb (by simp; omega) hu (fun j h1 h2 => ?_) prog w E Q ?_
  · simp at h1 h2
    obtain ⟨u, hu1⟩ := ints_get hi (i := j) (by omega)
    obtain ⟨v, hv1⟩ := ints_get hj (i := j) (by omega)
    have e1 : xs.toArray[j] = .int (l[j]'(by omega) : Nat) u := by
      rw [List.getElem?_eq_getElem h1] at hu1; simpa using hu1
    have e2 : ys.toArray[j] = .int (l[j]'(by omega) : Nat) v := by
      rw [List.getElem?_eq_getElem h2] at hv1; simpa using hv1
    rw [e1, e2]
    have := SeqAt.EqAt.int_int (A := A.in1) (s := S s h t) (l[j]'(by omega) : Nat) u (l[j]'(by omega) : Nat) v
    rw [beq_self_eq_true] at this; exact this
  · have : (List.range xs.toArray.size).all (fun _ => true) = true := by simp
    rw [this]; exact hQ
theorem unpack_tup {env : Env} {elts : List Expr} {k : Nat} {pos : Pos} {a : Addr} {vs : List Value} {Q : Unit → Shared → Prop} (hh : A.handled = none) (F : Fm H X B N L m h) (ha : h.get? a = some (tupObj vs))
    (hn : (assignEach elts env).length = vs.length) (hstar : (assignEach elts env).findIdx? (·.1) = none)
    (hQ : ∀ h', Fm H X B N L m h' → wpAny (model prog w) A (assignInOrder ((assignEach elts env).map (·.2)) vs) Q E (S s h' t)) : wpAny (model prog w) A (assign (.Tuple elts k pos) env (.ref a)) Q E (S s h t) :=
  wpAny_assign_Tuple (s := S s h t) hh ⟨_, ha, rfl, 0, rfl⟩ (by simpa using hn) hstar fun h' k => hQ h' (F.ext fun b o e => k b o (Nat.ne_of_lt (Heap.lt_size e)) e)
theorem unpackItems_tup {a : Addr} {vs : List Value} {n : Nat} {Q : List Value → Shared → Prop} (hh : A.handled = none) (F : Fm H X B N L m h) (ha : h.get? a = some (tupObj vs)) (hn : vs.length = n)
    (hQ : ∀ h', Fm H X B N L m h' → Q vs (S s h' t)) : wpAny (model prog w) A (unpackItems (.ref a) n none) Q E (S s h t) := by
  subst hn
  exact wpAny_unpackItems_tuple (s := S s h t) (items := vs.toArray) hh ⟨_, ha, rfl, 0, rfl⟩ fun h' k => hQ h' (F.ext fun b o e => k b o (Nat.ne_of_lt (Heap.lt_size e)) e)
theorem preSum_nat (l : List Nat) : ∀ n, n ≤ l.length → preSum (fun i => ((l.getD i 0 : Nat) : Int)) n = (((l.take n).sum : Nat) : Int)
  | 0, _ => by simp [preSum]
  | n + 1, h => by
    have e : l.take (n + 1) = l.take n ++ [l[n]] := by rw [List.take_succ_eq_append_getElem]
    have e2 : l.getD n 0 = l[n] := by simp [List.getD, (show n < l.length by omega)]
    rw [preSum, preSum_nat l n (by omega), e, e2, List.sum_append, List.sum_singleton]; push_cast; rfl
theorem sum_nats {a : Addr} {xs : List Value} {l : List Nat} {Q : Value → Shared → Prop} (hh : A.handled = none) (ha : h.IsList a xs.toArray) (hi : IntsAre xs (toI l)) (hz : l.sum ≤ 1000000)
    (hQ : ∀ h' t' u, Kp h h' → Q (.int (l.sum : Nat) u) (S s h' t')) : wpAny (model prog w) A (call (.builtin "sum") [.ref a]) Q E (S s h t) := by
  have z1 : xs.length = l.length := by rw [hi.length, toI_len]
  have hle : ∀ n, (l.take n).sum ≤ l.sum := fun n => by
    have := congrArg List.sum (List.take_append_drop n l)
    rw [List.sum_append] at this; omega
  refine call_sum_walk (s := S s h t) (pit_list ha ?_)
  intro I h1 o f1 k1 ho1 hst1
  have haI : a ≠ I := by rintro rfl; obtain ⟨o', q, _⟩ := ha; rw [f1] at q; cases q
  refine ⟨I, _, _, xs.toArray.size, _, _, fun i => ((l.getD i 0 : Nat) : Int), rfl, Walks.list (A := A.in1) hh I a haI xs.toArray, ⟨⟨o, ho1, hst1.1, hst1.2⟩, ha.at (k1 _)⟩, ?_, ?_, ?_, ?_⟩
  · intro b hb
    simp at hb
    rcases hb with rfl | rfl
    · exact Heap.lt_size ho1
    · obtain ⟨o', q, _⟩ := ha; exact Heap.lt_size (k1 _ _ q)
  · intro i v hv
    have hv' : xs[i]? = some v := by simpa using hv
    have hil : i < l.length := by have := (List.getElem?_eq_some_iff.mp hv').1; omega
    obtain ⟨u, hu⟩ := ints_get hi hil
    rw [hv'] at hu; cases hu
    exact ⟨u, by simp [List.getD, hil]⟩
  · intro j hj
    have hjl : j < l.length := by simp at hj; omega
    have h1 := hle (j + 1)
    have h2 : l.getD j 0 ≤ l.sum := by
      have := hle (j + 1)
      rw [List.take_succ_eq_append_getElem hjl, List.sum_append] at this
      simp [List.getD, hjl] at this ⊢; omega
    rw [preSum_nat l (j + 1) (by omega)]
    unfold InLong
    dsimp only
    refine ⟨⟨by omega, by omega⟩, by omega, by omega⟩
  · intro h' tk t' hk
    rw [show xs.toArray.size = l.length by simpa using z1, preSum_nat l l.length (Nat.le_refl _), List.take_length]
    exact hQ h' tk t' fun b o e => hk b o (by simp; rintro rfl; rw [f1] at e; cases e) (k1 _ _ e)
end
def bodyAt (K : Frag) (f : Addr) : List Stmt := match K.lookup f with
  | some o => (match o.data with
    | .func fd => (match fd.body with
      | .stmts b => b
      | _ => [])
    | _ => [])
  | none => []
def scopeAt (K : Frag) (f : Addr) : Scope := match K.lookup f with
  | some o => (match o.data with
    | .func fd => fd.scope
    | _ => default)
  | none => default
theorem bodyAt_of {K : Frag} {f : Addr} {name qual : Str} {params : Arguments} {body : List Stmt} {scope : Scope} {dV kV doc pm cdv ct oc : Value} {an od : Option Addr} {osl : Array (Option Value)}
    (ho : K.lookup f = some ⟨oc, od, .func (fnOf name qual params body scope dV kV doc pm an cdv ct), osl⟩) : bodyAt K f = body ∧ scopeAt K f = scope := by
  unfold bodyAt scopeAt; rw [ho]; exact ⟨rfl, rfl⟩

-- NQ
section
variable {prog : Program} {w : World} {A : Around} {s : Shared} {h : Heap} {t : Nat} {mg mb : Lc} {H : Heap}
theorem Fm.outH {X B : Mp} {N : Mu} {L : Addr} {m : Lc} {a : Addr} {xs : List Value} (F : Fm H X B N L m h) (e : N a = some xs) : H.get? a = none := by
  cases q : H.get? a with
  | none => rfl
  | some o => have := F.top _ _ q; rw [F.ownB _ _ e] at this; cases this
theorem Fm.leHid {X B : Mp} {N : Mu} {L : Addr} {m : Lc} {a : Addr} {xs : List Value} (F : Fm H X B N L m h) (e : N a = some xs) : B.le (hid h a) := fun b o q => by
  unfold hid; rw [if_neg (by rintro rfl; rw [F.ownB _ _ e] at q; cases q)]; exact F.keep b o q
theorem picked4 (l : List UInt8) : KBy.picked l.toArray none (some 4) = (l.take 4).toArray := by
  rw [KBc.picked_eq]
  simp only [Option.elim_some, Option.elim_none, List.size_toArray, show (4 : Int) = ((4 : Nat) : Int) from rfl, clipAt_nat, List.drop_zero, Nat.sub_zero]
  by_cases h : 4 ≤ l.length
  · rw [Nat.min_eq_left h]
  · rw [Nat.min_eq_right (by omega), List.take_of_length_le (Nat.le_refl _), List.take_of_length_le (by omega)]
theorem qtext_snoc (ns : List Nat) (v : Nat) : qtext (ns ++ [v]) = qtext ns ++ quadU v := by
  rw [qtext_append, qtext_cons]; simp [qtext]
theorem two_set {D TK : Addr} {xs ys tv : List Value} (h : TK ≠ D) : ((one D xs).set TK tv).set D ys = (one D ys).set TK tv := by
  funext b
  unfold Mu.set one
  by_cases q : b = D
  · subst q; rw [if_pos rfl, if_neg (Ne.symm h), if_pos rfl]
  · by_cases q2 : b = TK
    · subst q2; rw [if_neg q, if_pos rfl, if_pos rfl]
    · rw [if_neg q, if_neg q2, if_neg q2, if_neg q, if_neg q]
theorem ents_snoc {B : Mp} {xs : List Value} {es : List Ent} {v : Value} {e : Ent} (x : Ents B xs es) (y : IsEnt B v e) : Ents B (xs ++ [v]) (es ++ [e]) := by
  refine ⟨by simp [x.1], fun i v' e' hv he => ?_⟩
  by_cases q : i < xs.length
  · rw [List.getElem?_append_left q] at hv
    rw [List.getElem?_append_left (by rw [← x.1]; exact q)] at he
    exact x.2 i v' e' hv he
  · have hi := (List.getElem?_eq_some_iff.mp hv).1
    rw [List.length_append, List.length_singleton] at hi
    have : i = xs.length := by omega
    subst this
    rw [List.getElem?_append_right (Nat.le_refl _), Nat.sub_self] at hv
    rw [x.1, List.getElem?_append_right (Nat.le_refl _), Nat.sub_self] at he
    cases hv; cases he; exact y
theorem rows_still {X B : Mp} {N : Mu} {L : Addr} {m : Lc} {h' : Heap} {r : Addr} {ra : List Addr} {rs : List (List Nat)} (F : Fm H X B N L m h) (fr : h.get? r = none) (fra : ∀ a ∈ ra, h.get? a = none) (x : RowsB h'.get? r ra rs) : RowsB (stl h' L N X) r ra rs := by
  obtain ⟨⟨n, h1⟩, h2, h3⟩ := x
  exact ⟨⟨n, still_new F fr h1⟩, h2, fun k a x ha hx => let ⟨vs, n, h4, h5⟩ := h3 k a x ha hx; ⟨vs, n, still_new F (fra a (List.mem_of_getElem? ha)) h4, h5⟩⟩
abbrev lwPost (s : Shared) (h : Heap) (L : Addr) (fl : Flow) (s' : Shared) : Prop := fl = .ret (.bool true) ∧ ∃ h' t' m', s' = S s h' t' ∧ Kp h h' ∧ h'.Ns L m'
abbrev lwRow (ra : List Addr) (rs : List (List Nat)) (B : Mp) : Prop :=
  ∀ k, (hk : k < rs.length) → ∃ a zs n, ra[k]? = some a ∧ B a = some (lstObj zs n) ∧ IntsAre zs (toI rs[k]) ∧ rs.getD k [] = rs[k]
abbrev lwInv1 (rs : List (List Nat)) (i : Nat) (B' : Mp) (N' : Mu) (ys : List Value) : Prop :=
  N' = noN ∧ i ≤ rs.length ∧ Ents B' ys ((List.range i).map (eOf rs (List.replicate rs.length 0)))
abbrev lwInv2 (rs : List (List Nat)) (B9 : Mp) (N : Mu) (i : Nat) (B' : Mp) (N' : Mu) (ys : List Value) : Prop :=
  B' = B9 ∧ N' = N ∧ i ≤ rs.length ∧ IntsAre ys (toI ((rs.take i).map List.length))
abbrev lwInv3 (rs : List (List Nat)) (D TK : Addr) (i : Nat) (B1 : Mp) (N1 : Mu) (m1 : Lc) : Prop :=
  ∃ ps es xs tk tv, Stt rs ps ∧ ps.sum = i ∧ es.Perm (eAll rs ps) ∧ Hp es ∧ Ents B1 xs es ∧ N1 = (one D xs).set TK tv ∧ IntsAre tv (toI tk) ∧ tk.length = i ∧ (∀ n ∈ tk, n < 16777216) ∧ m1 "taken" = some (.ref TK) ∧
    (∃ u, m1 "signs" = some (.bytes (qtext tk).toArray u)) ∧ ∀ l, Least (curW rs ps) l → Least (curW rs (List.replicate rs.length 0)) (tk.map wgt ++ l)
abbrev lwInv4 (B1 : Mp) (N : Mu) (_i : Nat) (B' : Mp) (N' : Mu) (ys : List Value) : Prop := B' = B1 ∧ N' = N ∧ ys = []
abbrev lwInv5 (rs : List (List Nat)) (N : Mu) (i : Nat) (B' : Mp) (N' : Mu) (ys : List Value) : Prop :=
  N' = N ∧ i ≤ rs.length ∧ Ents B' ys ((List.range i).map fun k : Nat => (([126] : List UInt8), (k : Int), (((rs.getD k []).length : Nat) : Int)))
abbrev lwInv6 (rs : List (List Nat)) (N : Mu) (i : Nat) (B' : Mp) (N' : Mu) (ys : List Value) : Prop :=
  N' = N ∧ i ≤ rs.length ∧ ∃ ra2 : List Addr, ys = ra2.map Value.ref ∧ ra2.length = i ∧ ∀ (k : Nat) (a : Addr), ra2[k]? = some a → ∃ vs n, B' a = some (lstObj vs n) ∧ IntsAre vs (toI ((rs.getD k []).map wgt))
abbrev lwInv7 (row : List Nat) (B : Mp) (N : Mu) (j : Nat) (B'' : Mp) (N'' : Mu) (ws : List Value) : Prop :=
  B'' = B ∧ N'' = N ∧ j ≤ row.length ∧ IntsAre ws (toI ((row.take j).map wgt))
set_option maxHeartbeats 4000000 in
theorem law_body {f : Addr} {cd : Value} {L : Addr} {h₁ : Heap} {l : Addr} {vs : List Value} {ns : List Int} {oc1 oc2 : Obj} (amb : Amb w mg mb H) (hA : Rm 5 A) (top : Kp H h) (hL : h.get? L = none)
    (hn1 : h.get? (L + 1) = none) (hn2 : h.get? (L + 1 + 1) = none) (hoc1 : h₁.get? (L + 1) = some oc1) (hdc1 : oc1.data = .cell none) (hoc2 : h₁.get? (L + 1 + 1) = some oc2) (hdc2 : oc2.data = .cell none)
    (hns : h₁.Ns L (bnd [("script", .ref l)])) (hk : Kp h h₁) (hl : h.IsList l vs.toArray) (hi : IntsAre vs ns) (hz : ns.length ≤ 1000) :
    wpAny (model prog w) A (execs (bodyAt (KF w) 113) (envOfC "law" (scopeAt (KF w) 113) L f cd)) (lwPost s h L) noE (S s h₁ t) := by
  obtain ⟨eb, es⟩ := bodyAt_of (K := KF w) (f := 113) rfl
  rw [eb, es]
  clear eb es
  have F := Fm.entryC (cs := [("left", L + 1 + 1), ("rows", L + 1)]) top hL (fun n c hc => by
    rcases List.mem_cons.mp hc with e | hc
    · cases e; exact ⟨hn2, Nat.ne_of_gt (Nat.lt_succ_of_lt (Nat.lt_succ_self L))⟩
    · rcases List.mem_cons.mp hc with e | hc
      · cases e; exact ⟨hn1, Nat.succ_ne_self L⟩
      · cases hc) hns hk
  simp only [bnd, List.foldl] at F
  have hXc1 := cellsX_get (cs := [("left", L + 1 + 1), ("rows", L + 1)]) (List.mem_cons_of_mem _ (List.mem_cons_self ..)) hoc1
  have hXc2 := cellsX_get (cs := [("left", L + 1 + 1), ("rows", L + 1)]) (List.mem_cons_self ..) hoc2
  generalize hX1 : cellsX [("left", L + 1 + 1), ("rows", L + 1)] h₁ = X1 at *
  clear hns hX1
  refine wpAny_execs_cons ?_
  refine wpAny_Assign_Name ?_
  repeat walk_at "ms"
  refine rows_spec amb (hA.le (by decide)) (F.tops) (hl.at (hk _)) hi hz ?_
  intro h2 t2 r ra rs k2 fr fra hr hr2 hr4 hrv hrf
  have F2 := (F.ext k2).still
  have hr := rows_still F fr fra hr
  have hle2 : Mp.le h.get? (stl h2 L noN X1) := (F.ext k2).le_still
  generalize stl h2 L noN X1 = B2 at *
  refine st_cell F2 rfl hXc1 hdc1 ?_
  intro h3 B3 hle3 hcr hB3 F3
  have hr := hr.le hle3
  have hle3' := hle2.trans hle3
  clear hle2 hle3
  have hXc2 : (X1.del (L + 1)) (L + 1 + 1) = some oc2 := by rw [Mp.del_ne (Nat.succ_ne_self _)]; exact hXc2
  generalize X1.del (L + 1) = X3 at *
  obtain ⟨⟨nr, hr1⟩, hrl, hrr⟩ := id hr
  have hrow : lwRow ra rs B3 := fun k hk => by
    have hk' : k < ra.length := by omega
    obtain ⟨zs, n, h4, h5⟩ := hrr k ra[k] rs[k] (List.getElem?_eq_getElem hk') (List.getElem?_eq_getElem hk)
    exact ⟨_, zs, n, List.getElem?_eq_getElem hk', h4, h5, by simp [List.getD, hk]⟩
  have hrlen : ∀ k, (hk : k < rs.length) → rs[k].length ≤ 8 := fun k hk => Nat.le_trans (List.sublist_flatten_of_mem (List.getElem_mem hk)).length_le hrf
  have hr46 : rs.length ≤ 1000000 := Nat.le_trans hr4 (by decide)
  have hral : ra.length ≤ 1000000 := by rw [hrl]; exact hr46
  have hzr : ∀ k, (hk : k < rs.length) → rs[k].length ≤ 1000000 := fun k hk => Nat.le_trans (hrlen k hk) (by decide)
  repeat walk_at "ms"
  refine ev_listcomp ?_ rfl
  repeat walk_at "ms"
  refine len_refs (F3.keep _ _ hr1) hrl hral ?_
  intro u4 t4
  repeat walk_at "ms"
  refine mk_range1 ?_
  intro r5 h5 t5 u5 v5 f5 k5 hr5
  refine pit_range (n := rs.length) hr5 (range_sm hr46) (rangeSize0 _) ?_
  intro I6 h6 o6 f6 k6 ho6 hst6
  refine comp_loop itr_range hA.handled (F3.ext k5) f6 k6 ho6 hst6 (fun _ _ => trivial)
    (lwInv1 rs) ⟨rfl, Nat.zero_le _, rfl, fun _ _ _ q => by simp at q⟩ ?_ ?_ ?_ rfl
  · rintro i B' N' ys ⟨-, q, e⟩
    have := e.1
    rw [List.length_map, List.length_range] at this
    omega
  · rintro i X' B' N' C mC ys h7 t7 v hi7 hle7 ⟨rfl, -, hys⟩ ⟨u7, rfl⟩ hmC F7
    obtain ⟨b, zs, nb, hb1, hb2, hb3, hb4⟩ := hrow i hi7
    have hil := hrlen i hi7
    rw [zi] at hmC
    have hcr' := hcr.le hle7
    refine wpAny_tests_nil ?_
    rw [if_pos rfl]
    refine Tuple_ ?_
    repeat walk_at "ms"
    refine sub_refs (F7.keep _ _ (hle7 _ _ hr1)) hb1 hral ?_
    repeat walk_at "ms"
    refine text_spec amb (hA.le (by decide)) F7.tops (vs := zs) ⟨_, F7.keep _ _ (hle7 _ _ hb2), rfl, nb, rfl⟩ hb3 (hrv _ (List.getElem_mem hi7)) (by omega) ?_
    intro h8 t8 u8 k8
    have F8 := F7.ext k8
    repeat walk_at "ms"
    refine add_bts (by rw [qtext_len]; simp; omega) ?_
    intro u9 t9
    repeat walk_at "ms"
    rename_i u10 _
    refine mk_tuple (by simp) ?_
    intro c h10 f10 k10 l10
    have hle10 := F8.leB (o := tupObj [.bytes (qtext rs[i] ++ [126]).toArray u9, .int (i : Nat) u7, .int 0 u10]) f10
    refine ⟨_, _, _, _, rfl, hle10, F8.learn k10 f10 l10, rfl, by omega, ?_⟩
    rw [List.range_succ, List.map_append]
    have e10 : eOf rs (List.replicate rs.length 0) i = (qtext rs[i] ++ [126], (i : Int), 0) := by
      have e0 : (List.replicate rs.length 0).getD i 0 = 0 := by simp [List.getD, hi7]
      unfold eOf; rw [hb4, e0]; rfl
    refine ents_snoc (hys.le hle10) ?_
    rw [e10]
    exact ⟨c, u9, u7, u10, rfl, Mp.set_same⟩
  · rintro B' N' ys h7 t7 D hle7 ⟨rfl, -, hys⟩ F7 hD7 hXD hBD hND hDL hD0
    have F8 := F7.adoptN hD7 hXD hBD
    rw [one_of_set] at F8
    refine st_cell F8 rfl hXc2 hdc2 ?_
    intro h9 B9 hle9 hcl hB9 F9
    have hys := hys.le hle9
    have hle := hle7.trans hle9
    have hcr := hcr.le hle
    have hr1 := hle _ _ hr1
    have hrow : lwRow ra rs B9 := fun k hk =>
      let ⟨a, zs, n, q1, q2, q3, q4⟩ := hrow k hk; ⟨a, zs, n, q1, hle _ _ q2, q3, q4⟩
    have hleH := hle3'.trans hle
    generalize X3.del (L + 1 + 1) = X4 at *
    clear hle hle9 hle7 hle3' hB9 hXc2 hXD hND hDL hD0 hD7 F7 F8 hst6 ho6 k6 f6 hr5 k5 f5 hrr F3 hB3 F2 fra fr k2 F hXc1 hdc1 hdc2 hoc1 hoc2 hBD
    repeat walk_at "ms"
    refine wpAny_If ?_
    repeat walk_at "ms"
    refine heapify_spec (B₀ := B9) amb (hA.le (by decide)) F9.tops (F9.outH one_same) (F9.own _ _ one_same) (F9.leHid one_same) hys (by rw [List.length_map, List.length_range]; omega) ?_
    intro h10 t10 xs k10 l10 hxs
    have F10 := F9.extBut one_same k10 l10
    rw [one_set] at F10
    have hel : ((List.range rs.length).map (eOf rs (List.replicate rs.length 0))).length = rs.length := by simp
    obtain ⟨hhp, hpm⟩ := hpf_heap (es := (List.range rs.length).map (eOf rs (List.replicate rs.length 0))) (by omega) (by omega)
    generalize hpf _ _ = es at hxs hhp hpm
    repeat walk_at "ms"
    refine isNot_plain (by rfl) ?_
    repeat walk_at "ms"
    refine split_bool (fun hc => by cases hc) (fun _ => ?_)
    repeat walk_at "ms"
    refine Assign_Tuple_swapped ?_
    refine Tuple_ ?_
    repeat walk_at "ms"
    refine mk_list (by simp) ?_
    intro TK h11 f11 k11 l11
    have F11 := F10.learnN k11 f11 l11
    have hTD : TK ≠ D := by
      rintro rfl
      obtain ⟨_, q⟩ := F10.own _ _ one_same
      rw [f11] at q; cases q
    repeat walk_at "ms"
    refine mk_tuple (by simp) ?_
    intro c h12 f12 k12 l12
    have F12 := F11.ext k12
    refine unpackItems_tup hA.handled F12 l12 rfl ?_
    intro h13 F13
    refine assignInOrder_cons (bindName_ ?_)
    refine st_local F13 ?_
    intro h14 t14 F14
    refine assignInOrder_cons (bindName_ ?_)
    refine st_local F14 ?_
    intro h15 t15 F15
    refine assignInOrder_nil ?_
    repeat walk_at "ms"
    refine wpAny_For ?_
    repeat walk_at "ms"
    refine ev_listcomp ?_ rfl
    repeat walk_at "ms"
    refine pit_list (xs := ra.map Value.ref) ⟨_, F15.keep _ _ hr1, rfl, nr, rfl⟩ ?_
    intro I16 h16 o16 f16 k16 ho16 hst16
    refine comp_loop itr_list hA.handled F15 f16 k16 ho16 hst16 (fun h' hh => ⟨_, hh _ _ hr1, rfl, nr, rfl⟩)
      (lwInv2 rs B9 ((one D xs).set TK [])) ⟨rfl, rfl, Nat.zero_le _, .nil⟩ ?_ ?_ ?_ rfl
    · rintro i B' N' ys ⟨-, -, q, e⟩
      rw [e.length, toI_len, List.length_map, List.length_take]; omega
    · rintro i X' B' N' C mC ys h17 t17 v hi17 - ⟨rfl, rfl, -, hys17⟩ hv17 hmC F17
      rw [List.length_map, hrl] at hi17
      obtain ⟨b, zs, nb, hb1, hb2, hb3, hb4⟩ := hrow i hi17
      have hil := hrlen i hi17
      have hxb : v = .ref b := by rw [List.getElem?_map, hb1] at hv17; exact (Option.some.inj hv17).symm
      subst hxb
      have hzl : zs.length = rs[i].length := by rw [hb3.length, toI_len]
      have hz6 : zs.length ≤ 1000000 := by rw [hzl]; exact hzr _ _
      refine wpAny_tests_nil ?_
      rw [if_pos rfl]
      repeat walk_at "ms"
      refine len_sm (xs := zs) ⟨_, F17.keep _ _ hb2, rfl, nb, rfl⟩ hz6 ?_
      intro u18 t18
      refine ⟨_, _, _, _, rfl, Mp.le.refl _, F17, rfl, rfl, by omega, ?_⟩
      rw [List.take_succ_eq_append_getElem hi17, List.map_append, List.map_singleton, toI_snoc]
      exact ints_snoc (by rw [hzl]) hys17
    · rintro B' N' ys16 h17 t17 D2 - ⟨rfl, rfl, -, hys17⟩ F17 hD17 - - - - -
      rw [List.length_map, hrl, List.take_length] at hys17
      have hsum : (rs.map List.length).sum = rs.flatten.length := List.length_flatten.symm
      repeat walk_at "ms"
      refine sum_nats hA.handled hD17.isList hys17 (by omega) ?_
      intro h18 t18 u18 k18
      have F18 := F17.ext k18
      rw [hsum]
      repeat walk_at "ms"
      refine mk_range1 ?_
      intro r19 h19 t19 u19 v19 f19 k19 hr19
      refine pit_range (n := rs.flatten.length) hr19 (range_small (n := rs.flatten.length) (rangeSize0 _) (by omega) (by omega) (by omega) (by omega)) (rangeSize0 _) ?_
      intro I20 h20 o20 f20 k20 ho20 hst20
      clear hst16 ho16 k16 f16 hD17 hys17 F17 k18 hr19 F15 F14 F13 F12 l12 k12 f12 F11 l11 k11 f11 F10 l10 k10
      refine for_loop itr_range hA.handled (F18.ext k19) f20 k20 ho20 hst20 (fun _ _ => trivial)
        (lwInv3 rs D TK)
        ⟨List.replicate rs.length 0, es, xs, [], [], stt_zero rs, by simp, hpm, hhp, hxs, rfl, .nil, rfl, fun _ q => by simp at q, by walk_at "lk", ⟨_, show _ = some (Value.bytes #[] _) by walk_at "lk"⟩, fun l q => q⟩ ?_ ?_
      · rintro i X1 B1 N1 m1 h21 t21 v hi21 hle21 ⟨ps, es, xs, tk, tv, hst, hps, hpm, hhp, hxs, rfl, htv, htl, htb, m1t, ⟨us, m1s⟩, hgr⟩ ⟨u21, rfl⟩ F21
        obtain ⟨j, x, hj, hje, hjx, hjg⟩ := turn_ok hrv hr2 hr4 hst hpm hhp (by omega)
        have hel : es.length = rs.length := by rw [hpm.length_eq, eAll_len]
        have hxl : xs.length = rs.length := by rw [hxs.1, hel]
        have hxl6 : xs.length ≤ 1000000 := by rw [hxl]; exact hr46
        have hcr := hcr.le hle21
        have hcl := hcl.le hle21
        have hr1 := hle21 _ _ hr1
        have hD1 : ((one D xs).set TK tv) D = some xs := by rw [Mu.set_ne (Ne.symm hTD)]; exact one_same
        have hrow : lwRow ra rs B1 := fun k hk =>
          let ⟨a, zs, n, q1, q2, q3, q4⟩ := hrow k hk; ⟨a, zs, n, q1, hle21 _ _ q2, q3, q4⟩
        repeat walk_at "ms"
        refine wpAny_If ?_
        repeat walk_at "ms"
        refine ev_listcomp ?_ rfl
        repeat walk_at "ms"
        refine len_lst (xs := xs) (F21.lst hD1) (by omega) ?_
        intro u22 t22
        rw [hxl]
        repeat walk_at "ms"
        refine mk_range2 ?_
        intro r23 h23 t23 v23 f23 k23 hr23
        have hsz : Builtin.Range.rangeSize 1 ((rs.length : Nat) : Int) 1 = ((rs.length - 1 : Nat) : Int) := by
          unfold Builtin.Range.rangeSize
          rw [if_pos (by decide)]
          split <;> omega
        refine pit_range (n := rs.length - 1) hr23 (range_small hsz (by omega) (by omega) (by omega) (by omega)) hsz ?_
        intro I24 h24 o24 f24 k24 ho24 hst24
        refine comp_loop itr_range hA.handled (F21.ext k23) f24 k24 ho24 hst24 (fun _ _ => trivial)
          (lwInv4 B1 ((one D xs).set TK tv)) ⟨rfl, rfl, rfl⟩ ?_ ?_ ?_ rfl
        · rintro i B' N' ys ⟨-, -, rfl⟩
          simp
        · rintro k X' B' N' C mC ys h25 t25 v hi25 - ⟨rfl, rfl, rfl⟩ ⟨u25, rfl⟩ hmC F25
          rw [show (1 : Int) + (k : Int) * 1 = ((k + 1 : Nat) : Int) by omega] at hmC
          obtain ⟨v1, hv1, he1⟩ := hxs.get (i := k + 1) (by omega)
          obtain ⟨v2, hv2, he2⟩ := hxs.get (i := k / 2) (by omega)
          have hno : entLt es[k + 1] es[k / 2] = false := by
            have := hhp (k + 1) (by omega) (by omega)
            rw [getD_lt (by omega), show (k + 1 - 1) / 2 = k / 2 by omega, getD_lt (by omega)] at this
            exact this
          refine wpAny_tests_one ?_
          repeat walk_at "ms"
          refine sub_nat (F25.lst hD1) hv1 hxl6 ?_
          repeat walk_at "ms"
          refine op_fdiv (by decide) (by decide +kernel) ?_; intro _ _
          rw [show ((k + 1 : Nat) : Int) - 1 = (k : Int) by omega, show (k : Int).fdiv 2 = ((k / 2 : Nat) : Int) from fdivN k 2]
          repeat walk_at "ms"
          refine sub_nat (F25.lst hD1) hv2 hxl6 ?_
          repeat walk_at "ms"
          refine cmp_ent_lt hA F25 he1 he2 ?_
          repeat walk_at "ms"
          rw [hno, if_neg (by decide)]
          exact ⟨_, _, _, _, rfl, Mp.le.refl _, F25, rfl, rfl, rfl⟩
        · rintro B' N' ys h25 t25 D3 - ⟨rfl, rfl, rfl⟩ F25 hD25 - - - - -
          clear hst24 ho24 k24 f24 hr23 k23 f23 F21
          repeat walk_at "ms"
          refine mk_list (by simp) ?_
          intro Z h26 f26 k26 l26
          have F26 := F25.ext k26
          refine ne_lsts (xs := []) (ys := []) (e := fun _ => true) hA.units (hD25.isList.at (k26 _)) l26.isList rfl (fun j v v' q => by simp at q) ?_
          repeat walk_at "ms"
          refine split_bool (fun hc => by cases hc) (fun _ => ?_)
          repeat walk_at "ms"
          obtain ⟨v0, hv0, he0⟩ := hxs.get (i := 0) (by omega)
          rw [← getD_lt (d := default) (show 0 < es.length by omega), hje] at he0
          have he0' := he0
          obtain ⟨c0, w1, w2, w3, rfl, hc0⟩ := he0
          dsimp only [eOf] at hc0
          obtain ⟨b, zs, nb, hb1, hb2, hb3, hb4⟩ := hrow j hj
          have hil := hrlen j hj
          have hzl : zs.length = rs[j].length := by rw [hb3.length, toI_len]
          have hz6 : zs.length ≤ 1000000 := by rw [hzl]; exact hzr _ _
          have hpj := hst.2 j hj
          rw [hb4] at hpj hjx hc0
          generalize hp : ps.getD j 0 = p at *
          have hpl : p < rs[j].length := (List.getElem?_eq_some_iff.mp hjx).1
          have hdrop : rs[j].drop p = x :: rs[j].drop (p + 1) := by
            rw [List.drop_eq_getElem_cons hpl]
            rw [List.getElem?_eq_getElem hpl] at hjx; cases hjx; rfl
          have hxlt : x < 16777216 := hrv _ (List.getElem_mem hj) x (List.mem_of_getElem? hjx)
          obtain ⟨ux, hux⟩ := ints_get hb3 hpl
          have hxe : rs[j][p] = x := by rw [List.getElem?_eq_getElem hpl] at hjx; exact Option.some.inj hjx
          rw [hxe] at hux
          refine Assign_Tuple ?_
          repeat walk_at "ms"
          refine sub_list (F26.lst hD1) (by decide) (by simpa using hv0) (by decide) ?_
          refine unpack_tup hA.handled F26 (F26.keep _ _ hc0) rfl rfl ?_
          intro h27 F27
          refine assignInOrder_cons (assign_Name ?_)
          refine st_local F27 ?_
          intro h28 t28 F28
          refine assignInOrder_cons (assign_Name ?_)
          refine st_local F28 ?_
          intro h29 t29 F29
          refine assignInOrder_cons (assign_Name ?_)
          refine st_local F29 ?_
          intro h30 t30 F30
          refine assignInOrder_nil ?_
          repeat walk_at "ms"
          refine wpAny_If ?_
          repeat walk_at "ms"
          refine sub_refs (F30.keep _ _ hr1) hb1 hral ?_
          repeat walk_at "ms"
          refine len_sm (xs := zs) ⟨_, F30.keep _ _ hb2, rfl, nb, rfl⟩ hz6 ?_
          intro _ _
          repeat walk_at "ms"
          refine split_bool (fun hc => by have := eq_of_beq hc; omega) (fun _ => ?_)
          repeat walk_at "ms"
          refine meth_append (F30.own _ _ Mu.set_same) ?_
          repeat walk_at "ms"
          refine sub_refs (F30.keep _ _ hr1) hb1 hral ?_
          repeat walk_at "ms"
          refine sub_nat (xs := zs) ⟨_, F30.keep _ _ hb2, rfl, nb, rfl⟩ hux hz6 ?_
          repeat walk_at "ms"
          refine append_lst F30 Mu.set_same (by rw [htv.length, toI_len]; omega) ?_
          intro h31 F31
          rw [Mu.set_set] at F31
          dsimp only
          repeat walk_at "ms"
          refine ev_slice ?_
          refine evalPart_none_step ?_
          refine evalPart_some_step ?_
          repeat walk_at "ms"
          refine ⟨_, _, rfl, ?_⟩
          intro sl h32 f32 k32 hsl
          have F32 := F31.ext k32
          have hdl : (rs[j].drop p).length ≤ 8 := by rw [List.length_drop]; omega
          refine sub_slice_bytes hsl .none (.int _ _) (by rw [List.size_toArray, List.length_append, qtext_len]; simp; omega) ?_
          intro u33 t33
          rw [picked4, hdrop, qtext_cons, List.append_assoc, List.take_left' (quadU_len x)]
          refine iadd_bts (by rw [qtext_len, quadU_len]; omega) ?_
          intro u34 t34
          rw [← qtext_snoc]
          repeat walk_at "ms"
          rename_i h35 t35 F35
          have heq : eOf rs ps j = (qtext (rs[j].drop p) ++ [126], (j : Int), (p : Int)) := by unfold eOf; rw [hp, hb4]
          have hps1 : (ps.set j (p + 1)).getD j 0 = p + 1 := getD_set_self (by rw [hst.1]; exact hj)
          have heq1 : eOf rs (ps.set j (p + 1)) j = (qtext (rs[j].drop (p + 1)) ++ [126], (j : Int), (p : Int) + 1) := by unfold eOf; rw [hps1, hb4]; push_cast; rfl
          refine Tuple_ ?_
          repeat walk_at "ms"
          refine sub_refs (F35.keep _ _ hr1) hb1 hral ?_
          repeat walk_at "ms"
          refine ev_slice ?_
          refine evalPart_some_step ?_
          repeat walk_at "ms"
          refine evalPart_none_step ?_
          refine ⟨_, _, rfl, ?_⟩
          intro sl2 h36 f36 k36 hsl2
          have F36 := F35.ext k36
          refine sub_slice_list (xs := zs) ⟨_, F36.keep _ _ hb2, rfl, nb, rfl⟩ hsl2 (.int ((p : Int) + 1) _) .none (by omega) ?_
          intro D4 h37 f37 k37 l37
          have F37 := F36.ext k37
          have hcut : IntsAre (slicePick zs.toArray (some ((p : Int) + 1)) none none).toList (toI (rs[j].drop (p + 1))) := by
            have := kmk_from hb3 (x := (p : Int) + 1) (by omega)
            rw [show ((p : Int) + 1).toNat = p + 1 by omega] at this
            rw [show toI (rs[j].drop (p + 1)) = (toI rs[j]).drop (p + 1) by simp [toI, List.map_drop]]
            exact this
          repeat walk_at "ms"
          refine text_spec amb (hA.le (by decide)) F37.tops (by rw [Array.toArray_toList]; exact l37.isList) hcut (fun n hn => hrv _ (List.getElem_mem hj) n (List.mem_of_mem_drop hn)) (by rw [List.length_drop]; omega) ?_
          intro h38 t38 u38 k38
          have F38 := F37.ext k38
          repeat walk_at "ms"
          refine add_bts (by rw [qtext_len, List.length_drop]; simp; omega) ?_
          intro u39 t39
          repeat walk_at "ms"
          rename_i u40 _
          refine mk_tuple (by simp) ?_
          intro c4 h40 f40 k40 l40
          have hle40 := F38.leB (o := tupObj [.bytes (qtext (rs[j].drop (p + 1)) ++ [126]).toArray u39, .int (j : Nat) w2, .int ((p : Int) + 1) u40]) f40
          have F40 := F38.learn k40 f40 l40
          have hent : IsEnt (Mp.set B' c4 (tupObj [.bytes (qtext (rs[j].drop (p + 1)) ++ [126]).toArray u39, .int (j : Nat) w2, .int ((p : Int) + 1) u40])) (.ref c4) (eOf rs (ps.set j (p + 1)) j) := by
            rw [heq1]; exact ⟨c4, u39, w2, u40, rfl, Mp.set_same (B := B')⟩
          generalize hB40 : Mp.set B' c4 (tupObj [.bytes (qtext (rs[j].drop (p + 1)) ++ [126]).toArray u39, .int (j : Nat) w2, .int ((p : Int) + 1) u40]) = B40 at *
          have hcl40 := hcl.le hle40
          have hcr40 := hcr.le hle40
          have hxs40 := hxs.le hle40
          have he40 := he0'.le hle40
          have hD40 : ((one D xs).set TK (tv ++ [.int (x : Nat) ux])) D = some xs := by rw [Mu.set_ne (Ne.symm hTD)]; exact one_same
          repeat walk_at "ms"
          rename_i h41 t41 F41
          refine wpAny_If ?_
          repeat walk_at "ms"
          refine heapreplace_spec (B₀ := B40) amb (hA.le (by decide)) F41.tops (F41.outH hD40) (F41.own _ _ hD40) (F41.leHid hD40) hxs40 hent hv0 (by omega) (by omega) ?_
          intro h42 t42 ys2 k42 l42 hys2
          have F42 := F41.extBut hD40 k42 l42
          rw [two_set hTD] at F42
          obtain ⟨hhp2, hpm2⟩ := turn_perm hr2 hr4 hst hpm hhp hj (hje.trans (by rw [heq]))
          rw [hp] at hhp2 hpm2
          refine Tuple_ ?_
          repeat walk_at "ms"
          refine mk_tuple (by simp) ?_
          intro c5 h43 f43 k43 l43
          have F43 := F42.learn k43 f43 l43
          have hle43 := F42.leB (o := tupObj [.bytes (qtext (rs[j].drop p) ++ [126]).toArray w1, .int (j : Nat) w2, .int (p : Nat) w3]) f43
          have hent5 : IsEnt (B40.set c5 (tupObj [.bytes (qtext (rs[j].drop p) ++ [126]).toArray w1, .int (j : Nat) w2, .int (p : Nat) w3])) (.ref c5) (eOf rs ps j) := by
            rw [heq]; exact ⟨c5, w1, w2, w3, rfl, Mp.set_same⟩
          refine cmp_ent_ne hA F43 (he40.le hle43) hent5 ?_
          repeat walk_at "ms"
          refine split_bool (fun hc => absurd rfl (of_decide_eq_true hc)) (fun _ => ?_)
          repeat walk_at "ms"
          refine ⟨.inl rfl, _, _, _, _, _, rfl, hle40.trans hle43, F43, ps.set j (p + 1), _, ys2, tk ++ [x], tv ++ [.int (x : Nat) ux], ?_, ?_, hpm2, hhp2, hys2.le hle43, rfl, ?_, ?_, ?_, by walk_at "lk", ⟨_, by walk_at "lk"⟩, ?_⟩
          · have := stt_step hst hj (x := x) (by rw [hp, hb4]; exact hjx)
            rw [hp] at this; exact this
          · have := sum_set1 ps j (by rw [hst.1]; exact hj)
            rw [hp] at this; omega
          · rw [toI_snoc]; exact ints_snoc rfl htv
          · rw [List.length_append, List.length_singleton, htl]
          · intro n hn
            rcases List.mem_append.mp hn with hn | hn
            · exact htb n hn
            · simp at hn; subst hn; exact hxlt
          · intro l hl
            have := hgr _ (hjg l hl)
            rw [List.map_append, List.map_singleton, List.append_assoc]; exact this
      · rintro B1 N1 m1 h21 t21 hle21 ⟨ps, es, xs, tk, tv, hst, hps, hpm, hhp, hxs, rfl, htv, htl, htb, m1t, ⟨us, m1s⟩, hgr⟩ F21
        have hD1 : ((one D xs).set TK tv) D = some xs := by rw [Mu.set_ne (Ne.symm hTD)]; exact one_same
        have hcr := hcr.le hle21
        have hcl := hcl.le hle21
        have hr1 := hle21 _ _ hr1
        have hrow : lwRow ra rs B1 := fun k hk =>
          let ⟨a, zs, n, q1, q2, q3, q4⟩ := hrow k hk; ⟨a, zs, n, q1, hle21 _ _ q2, q3, q4⟩
        obtain ⟨σ, hσ, hes⟩ := end_ents hst hps hpm
        have hLs := hgr [] (end_least hst hps)
        rw [List.append_nil, curW_zero] at hLs
        clear hst20 ho20 k20 f20 k19 f19 F18
        repeat walk_at "ms"
        refine text_spec amb (hA.le (by decide)) F21.tops (F21.lst Mu.set_same) htv htb (by omega) ?_
        intro h22 t22 u22 k22
        have F22 := F21.ext k22
        repeat walk_at "ms"
        rename_i h23 t23 F23
        refine wpAny_If ?_
        repeat walk_at "ms"
        refine type_call (typeIs_bytes _ _ _) (by decide) ?_
        repeat walk_at "ms"
        refine isNot_plain (by rfl) ?_
        repeat walk_at "ms"
        refine split_bool (fun hc => by cases hc) (fun _ => ?_)
        repeat walk_at "ms"
        refine ne_bytes ?_
        repeat walk_at "ms"
        refine split_bool (fun hc => by simp at hc) (fun _ => ?_)
        repeat walk_at "ms"
        refine split_bool (fun hc => by cases hc) (fun _ => ?_)
        repeat walk_at "ms"
        refine wpAny_If ?_
        repeat walk_at "ms"
        refine sorted_ents F23 (F23.lst hD1) (hes ▸ hxs) hσ hr2 hr4 ?_
        intro D5 h24 ys5 F24 f24 l24 hys5
        obtain ⟨n5, l24⟩ := l24
        have F25 := F24.adopt l24 (F23.freshX f24) (F23.freshB f24) (F23.freshN f24) (F23.freshL f24)
        have hle25 := le_set (o := lstObj ys5 n5) (F23.freshB f24)
        change Fm H X4 (B1.set D5 (lstObj ys5 n5)) _ L _ h24 at F25
        have hd5 : (B1.set D5 (lstObj ys5 n5)) D5 = some (lstObj ys5 n5) := Mp.set_same
        generalize B1.set D5 (lstObj ys5 n5) = B5 at *
        have hcr5 := hcr.le hle25
        have hcl5 := hcl.le hle25
        have hr5 := hle25 _ _ hr1
        repeat walk_at "ms"
        refine ev_listcomp ?_ rfl
        repeat walk_at "ms"
        refine len_refs (F25.keep _ _ hr5) hrl hral ?_
        intro u26 t26
        repeat walk_at "ms"
        refine mk_range1 ?_
        intro r27 h27 t27 u27 v27 f27 k27 hr27
        refine pit_range (n := rs.length) hr27 (range_sm hr46) (rangeSize0 _) ?_
        intro I28 h28 o28 f28 k28 ho28 hst28
        refine comp_loop itr_range hA.handled (F25.ext k27) f28 k28 ho28 hst28 (fun _ _ => trivial)
          (lwInv5 rs ((one D xs).set TK tv)) ⟨rfl, Nat.zero_le _, rfl, fun _ _ _ q => by simp at q⟩ ?_ ?_ ?_ rfl
        · rintro i B' N' ys ⟨-, q, e⟩
          have := e.1
          rw [List.length_map, List.length_range] at this
          omega
        · rintro i X' B' N' C mC ys h29 t29 v hi29 hle29 ⟨rfl, -, hys29⟩ ⟨u29, rfl⟩ hmC F29
          obtain ⟨b, zs, nb, hb1, hb2, hb3, hb4⟩ := hrow i hi29
          have hil := hrlen i hi29
          have hzl : zs.length = rs[i].length := by rw [hb3.length, toI_len]
          have hz6 : zs.length ≤ 1000000 := by rw [hzl]; exact hzr _ _
          rw [zi] at hmC
          have hcr6 := hcr5.le hle29
          refine wpAny_tests_nil ?_
          rw [if_pos rfl]
          refine Tuple_ ?_
          repeat walk_at "ms"
          rename_i u30 _
          refine sub_refs (F29.keep _ _ (hle29 _ _ hr5)) hb1 hral ?_
          repeat walk_at "ms"
          refine len_sm (xs := zs) ⟨_, F29.keep _ _ (hle29 _ _ (hle25 _ _ hb2)), rfl, nb, rfl⟩ hz6 ?_
          intro u31 t31
          repeat walk_at "ms"
          refine mk_tuple (by simp) ?_
          intro c h32 f32 k32 l32
          have hle32 := F29.leB (o := tupObj [.bytes (List.toArray [126]) u30, .int (i : Nat) u29, .int zs.length u31]) f32
          refine ⟨_, _, _, _, rfl, hle32, F29.learn k32 f32 l32, rfl, by omega, ?_⟩
          rw [List.range_succ, List.map_append]
          refine ents_snoc (hys29.le hle32) ?_
          dsimp only
          rw [hb4, ← hzl]
          exact ⟨c, u30, u29, u31, rfl, Mp.set_same⟩
        · rintro B6 N' ys6 h29 t29 D6 hle29 ⟨rfl, -, hys6⟩ F29 hD29 - - - - -
          clear hst28 ho28 k28 f28 hr27 k27 f27 F24 l24
          have hz6 : ys5.length = ys6.length := by rw [hys5.1, hys6.1]
          refine ne_lsts (xs := ys5) (ys := ys6) (e := fun _ => true) hA.units ⟨_, F29.keep _ _ (hle29 _ _ hd5), rfl, n5, rfl⟩ hD29.isList hz6 (fun j v v' q1 q2 => ?_) ?_
          · have hj5 : j < ys5.length := (List.getElem?_eq_some_iff.mp q1).1
            have hj5' : j < ((List.range rs.length).map fun k : Nat => (([126] : List UInt8), (k : Int), (((rs.getD k []).length : Nat) : Int))).length := by rw [← hys5.1]; exact hj5
            have a1 := hys5.2 j v _ q1 (List.getElem?_eq_getElem hj5')
            have a2 := hys6.2 j v' _ q2 (List.getElem?_eq_getElem hj5')
            exact fun prog w E Q hq => eqb_ent hA.in1 F29 (a1.le (hle25.trans hle29)) a2 (by rw [decide_eq_true rfl]; exact hq)
          have hall : (List.range ys5.length).all (fun _ => true) = true := by simp
          rw [hall]
          repeat walk_at "ms"
          refine split_bool (fun hc => by cases hc) (fun _ => ?_)
          have hcr6 := hcr5.le hle29
          have hr6 := hle29 _ _ hr5
          have hle6 := hle25.trans hle29
          repeat walk_at "ms"
          refine wpAny_Compare1 ?_
          repeat walk_at "ms"
          refine weights_spec amb (hA.le (by decide)) F29.tops htb (by omega) ?_
          intro h30 t30 a wv k30 f30 l30 hwv
          obtain ⟨nw, l30⟩ := l30
          have F30 := F29.learn k30 f30 l30
          have hle30 := F29.leB (o := lstObj wv nw) f30
          change Fm H X4 (B6.set a (lstObj wv nw)) _ L _ h30 at F30
          have hd30 : (B6.set a (lstObj wv nw)) a = some (lstObj wv nw) := Mp.set_same
          generalize B6.set a (lstObj wv nw) = B7 at *
          have hcr7 := hcr6.le hle30
          have hr7 := hle30 _ _ hr6
          have hle7 := hle6.trans hle30
          have hrow7 : lwRow ra rs B7 := fun k hk =>
            let ⟨a, zs, n, q1, q2, q3, q4⟩ := hrow k hk; ⟨a, zs, n, q1, hle7 _ _ q2, q3, q4⟩
          repeat walk_at "ms"
          refine ev_listcomp ?_ rfl
          repeat walk_at "ms"
          refine pit_list (xs := ra.map Value.ref) ⟨_, F30.keep _ _ hr7, rfl, nr, rfl⟩ ?_
          intro I31 h31 o31 f31 k31 ho31 hst31
          refine comp_loop itr_list hA.handled F30 f31 k31 ho31 hst31 (fun h' hh => ⟨_, hh _ _ hr7, rfl, nr, rfl⟩)
            (lwInv6 rs ((one D xs).set TK tv))
            ⟨rfl, Nat.zero_le _, [], rfl, rfl, fun _ _ q => by simp at q⟩ ?_ ?_ ?_ rfl
          · rintro i B' N' ys ⟨-, q, ra2, rfl, e, -⟩
            rw [List.length_map]; omega
          · rintro i X' B' N' C mC ys h32 t32 v hi32 hle32 ⟨rfl, -, ra2, rfl, hra2, hrr2⟩ hv32 hmC F32
            rw [List.length_map, hrl] at hi32
            obtain ⟨b, zs, nb, hb1, hb2, hb3, hb4⟩ := hrow7 i hi32
            have hil := hrlen i hi32
            have hxb : v = .ref b := by rw [List.getElem?_map, hb1] at hv32; exact (Option.some.inj hv32).symm
            subst hxb
            have hzl : zs.length = rs[i].length := by rw [hb3.length, toI_len]
            have hz6 : zs.length ≤ 1000000 := by rw [hzl]; exact hzr _ _
            have hb2' := hle32 _ _ hb2
            refine wpAny_tests_nil ?_
            rw [if_pos rfl]
            refine ev_listcomp ?_ rfl
            repeat walk_at "ms"
            refine pit_list (xs := zs) ⟨_, F32.keep _ _ hb2', rfl, nb, rfl⟩ ?_
            intro I33 h33 o33 f33 k33 ho33 hst33
            refine comp_loop itr_list hA.handled F32 f33 k33 ho33 hst33 (fun h' hh => ⟨_, hh _ _ hb2', rfl, nb, rfl⟩)
              (lwInv7 rs[i] B' ((one D xs).set TK tv)) ⟨rfl, rfl, Nat.zero_le _, .nil⟩ ?_ ?_ ?_ rfl
            · rintro j B'' N'' ws ⟨-, -, q, e⟩
              rw [e.length, toI_len, List.length_map, List.length_take]; omega
            · rintro j X'' B'' N'' C2 mC2 ws h34 t34 v hj34 - ⟨rfl, rfl, -, hws⟩ hv34 hmC2 F34
              rw [hzl] at hj34
              obtain ⟨uz, huz⟩ := ints_get hb3 hj34
              rw [huz] at hv34; cases hv34
              refine wpAny_tests_nil ?_
              rw [if_pos rfl]
              repeat walk_at "ms"
              refine weight_spec amb (hA.le (by decide)) F34.tops (hrv _ (List.getElem_mem hi32) _ (List.getElem_mem hj34)) ?_
              intro h35 t35 u35 k35
              refine ⟨_, _, _, _, rfl, Mp.le.refl _, F34.ext k35, rfl, rfl, by omega, ?_⟩
              rw [List.take_succ_eq_append_getElem hj34, List.map_append, List.map_singleton, toI_snoc]
              exact ints_snoc rfl hws
            · rintro B'' N'' ws h34 t34 D8 - ⟨rfl, rfl, -, hws⟩ F34 hD34 hX34 hB34 hN34 hL34 -
              rw [hzl, List.take_length] at hws
              obtain ⟨n8, hD34⟩ := hD34
              have F35 := F34.adopt hD34 hX34 hB34 hN34 hL34
              have hle35 := le_set (o := lstObj ws n8) hB34
              refine ⟨_, _, _, _, rfl, hle35, F35, rfl, by omega, ra2 ++ [D8], by simp, by simp [hra2], ?_⟩
              intro k a hka
              by_cases q : k < ra2.length
              · rw [List.getElem?_append_left q] at hka
                obtain ⟨vs', n', q1, q2⟩ := hrr2 k a hka
                exact ⟨vs', n', hle35 _ _ q1, q2⟩
              · have hkl := (List.getElem?_eq_some_iff.mp hka).1
                rw [List.length_append, List.length_singleton] at hkl
                have hke : k = ra2.length := by omega
                rw [hke, List.getElem?_append_right (Nat.le_refl _), Nat.sub_self] at hka
                cases hka
                refine ⟨ws, n8, Mp.set_same, ?_⟩
                rw [hke, hra2, hb4]; exact hws
          · rintro B8 N' ys8 h32 t32 D9 hle32 ⟨rfl, -, ra2, rfl, hra2, hrr2⟩ F32 hD32 - - - - -
            rw [List.length_map, hrl] at hra2
            obtain ⟨n9, hD32⟩ := hD32
            have hRB : RowsB h32.get? D9 ra2 (rs.map fun r => r.map wgt) := by
              refine ⟨⟨n9, hD32⟩, by simp [hra2], fun k a x ha hx => ?_⟩
              obtain ⟨vs', n', q1, q2⟩ := hrr2 k a ha
              refine ⟨vs', n', F32.keep _ _ q1, ?_⟩
              have hkl : k < rs.length := by have := (List.getElem?_eq_some_iff.mp hx).1; simpa using this
              rw [List.getElem?_map, List.getElem?_eq_getElem hkl] at hx
              cases hx
              rw [show rs.getD k [] = rs[k] by simp [List.getD, hkl]] at q2
              exact q2
            have hfl : (rs.map fun r => r.map wgt).flatten.length ≤ 8 := by
              have : (rs.map fun r => r.map wgt).flatten.length = rs.flatten.length := by
                rw [List.length_flatten, List.length_flatten, List.map_map]
                congr 1
                exact List.map_congr_left fun r _ => by simp
              omega
            repeat walk_at "ms"
            refine least_spec amb (hA.le (by decide)) F32.tops hRB (by simpa using hr4) hfl ?_
            intro h33 t33 v ll k33 hN33 hL33
            have hll := hLs.unique hL33
            subst hll
            obtain ⟨a33, vs33, n33, rfl, hd33, hi33⟩ := hN33
            have F33 := F32.ext k33
            refine eq_ints hA.units ⟨_, F33.keep _ _ (hle32 _ _ hd30), rfl, nw, rfl⟩ ⟨_, hd33, rfl, n33, rfl⟩ hwv hi33 ?_
            exact ⟨rfl, _, _, _, rfl, F33.exit ((hleH.trans hle21).trans (hle7.trans hle32)), F33.ns⟩
end

-- NR
section
variable {prog : Program} {w : World} {s : Shared} {t : Nat} {mg mb : Lc}
theorem law_end {f : Addr} {cd : Value} {h₁ : Heap} {l : Addr} {vs : List Value} {ns : List Int} {m₁ : Lc} {oc1 oc2 : Obj} {Q : Flow → Shared → Prop} {E : Value → Shared → Prop}
    (KX : (KF w).In s.heap) (g : s.heap.Ns mainGlobals mg) (b : s.heap.Ns builtinsNs mb) (nl : s.heap.NoLimit) (bl : ∀ x : Str, x ≠ "__name__" → mb x = bootBuiltins x)
    (hl : s.heap.IsList l vs.toArray) (hi : IntsAre vs ns) (hz : ¬ (63 : Int) < (ns.length : Int))
    (F : Fr s.heap s.heap.objs.size h₁ m₁) (N : News s.heap s.heap.objs.size h₁ [(s.heap.objs.size + 1 + 1, oc2), (s.heap.objs.size + 1, oc1)]) (hm : m₁ = bnd [("script", .ref l)]) (h2 : oc2.data = .cell none) (h1 : oc1.data = .cell none)
    (hQ : ∀ h' t' m', Fr s.heap s.heap.objs.size h' m' → Q (.ret (.bool true)) (S s h' t')) :
    wpAny (model prog w) (callerA.deeper (envOfC "law" (scopeAt (KF w) 113) s.heap.objs.size f cd)) (execs (bodyAt (KF w) 113) (envOfC "law" (scopeAt (KF w) 113) s.heap.objs.size f cd)) Q E (S s h₁ t) := by
  subst hm
  have n1 := N _ (List.mem_cons_of_mem _ (List.mem_cons_self ..))
  have n2 := N _ (List.mem_cons_self ..)
  refine wpAny_mono (law_body ⟨KX, g, b, nl, bl⟩ ((show Rm 6 callerA from ⟨rfl, by decide, by decide⟩).deeper _) (Kp.refl _) (get?_size _) n1.2.2 n2.2.2 n1.1 h1 n2.1 h2 F.ns F.keep hl hi (by omega)) ?_ (fun _ _ x => x.elim)
  rintro fl s' ⟨rfl, h', t', m', rfl, k, ns⟩
  exact hQ h' t' m' ⟨ns, k, Nat.le_refl _⟩
end
end Mine
open PySem PySem.W PyProof.Rows
set_option maxHeartbeats 8000000 in
theorem PySem.Challenge.cw_mq0120_01_holds : PySem.Challenge.rw_mq0120_01.Holds := by
  refine Mine.hd ?_
  k_go0
  rename_i N0 X0
  refine Mine.law_end (by assumption) (Top.g (by assumption)) (Top.b (by assumption)) (Top.nolimit (by assumption)) (Top.builtins (by assumption)) (by assumption) (by assumption) (by assumption) (by assumption) N0 ?_ ?_ ?_ ?_
  · rfl
  · assumption
  · assumption
  · intro h' t' m' F'
    refine goodW_bool F' (by assumption) (raisesW_false ?_) ?_
    · wrow_none_raised
    · wrow_post
