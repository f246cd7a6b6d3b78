import PyProof.Rows.All
import Wide.All
import OpenK.AllK
import Wide.FinOn
import Lean
import PySem.Challenge.RW_pe0146_02
open PySem PySem.W PyProof.Rows
set_option Elab.async false
set_option linter.all false
set_option linter.unusedVariables false
set_option linter.unusedSectionVars false
set_option maxRecDepth 100000
set_option compiler.extract_closed false
set_option genSizeOf false
set_option genSizeOfSpec false
namespace Mine
section
theorem via_p {G : Prop} (k : ∀ P : Prop, (G → P) → P) : G := k G id
theorem len_s {α : Type} {l : List α} {n : Nat} (h : l.length = n + 1) : ∃ x r, l = x :: r ∧ r.length = n := by
  cases l with
  | nil => exact nomatch h
  | cons x r => exact ⟨x, r, rfl, Nat.succ.inj h⟩
theorem len2 {α : Type} {l : List α} (h : l.length = 2) : ∃ v w, l = [v, w] := by
  obtain ⟨v, r, rfl, h'⟩ := len_s h
  obtain ⟨w, rfl⟩ := List.length_eq_one_iff.mp h'
  exact ⟨v, w, rfl⟩
theorem len3 {α : Type} {l : List α} (h : l.length = 3) : ∃ v w x, l = [v, w, x] := by
  obtain ⟨v, r, rfl, h'⟩ := len_s h
  obtain ⟨w, x, rfl⟩ := len2 h'
  exact ⟨v, w, x, rfl⟩
theorem len4 {α : Type} {l : List α} (h : l.length = 4) : ∃ v w x y, l = [v, w, x, y] := by
  obtain ⟨v, r, rfl, h'⟩ := len_s h
  obtain ⟨w, x, y, rfl⟩ := len3 h'
  exact ⟨v, w, x, y, rfl⟩
inductive A3 (a b c : Prop) : Prop | mk : a → b → c → A3 a b c
inductive A4 (a b c d : Prop) : Prop | mk : a → b → c → d → A4 a b c d
inductive A5 (a b c d e : Prop) : Prop | mk : a → b → c → d → e → A5 a b c d e
inductive A6 (a b c d e f : Prop) : Prop | mk : a → b → c → d → e → f → A6 a b c d e f
inductive A7 (a b c d e f g : Prop) : Prop | mk : a → b → c → d → e → f → g → A7 a b c d e f g
inductive A8 (a b c d e f g h : Prop) : Prop | mk : a → b → c → d → e → f → g → h → A8 a b c d e f g h
inductive A9 (a b c d e f g h i : Prop) : Prop | mk : a → b → c → d → e → f → g → h → i → A9 a b c d e f g h i
inductive A10 (a b c d e f g h i j : Prop) : Prop | mk : a → b → c → d → e → f → g → h → i → j → A10 a b c d e f g h i j
inductive A11 (a b c d e f g h i j k : Prop) : Prop | mk : a → b → c → d → e → f → g → h → i → j → k → A11 a b c d e f g h i j k
inductive A12 (a b c d e f g h i j k l : Prop) : Prop | mk : a → b → c → d → e → f → g → h → i → j → k → l → A12 a b c d e f g h i j k l
inductive MV where
  | none
  | bool (b : Bool)
  | int (i : Int)
  | str (x : Str)
  | tup (l : List MV)
  | lst (l : List MV)
  | dct (l : List (Str × MV))
  | rng (a b c : Int)
  | ref (n : Nat)
  | val (v : Value)
  | strm (x : Str) (n : Nat)
  | meth (f : Addr) (n : Nat)
structure Gh where
  ρ : Nat → Option Addr
  P : Addr → Prop
noncomputable abbrev tupObj (xs : Array Value) (n : Nat) : Obj := { cls := .type "tuple", data := .seq xs n }
noncomputable abbrev lstObj (xs : Array Value) (n : Nat) : Obj := { cls := .type "list", data := .seq xs n }
structure Cx where
  prog : Program
  w : World
  N0 : Nat
  tabs : List Addr
  K : Frag
  tq : Addr → Nat → Nat → Str
  rd : FuncData → Prop
  tlo : ∀ a ∈ tabs, 16 ≤ a
inductive Strm (C : Cx) (g : Gh) (h : Heap) (x : Str) (n : Nat) (a : Addr) : Prop
  | mk (d f ct cx b : Addr) (t : Tok) (fl fd : FuncData) (sl : Array (Option Value)) (m : Str → Option Value) (o : Obj) :
    (g.P a ∧ h.get? a = some ⟨.type "function", some d, .func fl, sl⟩) → (g.P d ∧ h.Ns d m ∧ m "read" = some (.ref f)) → (g.P f ∧ h.get? f = some o ∧ o.cls = .type "function" ∧ o.data = .func fd) →
    C.rd fd → (fd.closure.lookup ("text" : Str) = some cx ∧ fd.closure.lookup ("at" : Str) = some ct ∧ ∀ y c, fd.closure.lookup y = some c → (y = "text" ∧ c = cx) ∨ (y = "at" ∧ c = ct)) →
    (g.P ct ∧ h.IsCell ct (some (.ref b)) ∧ g.ρ n = some b) → (g.P cx ∧ h.IsCell cx (some (.str x t))) → (∃ c, fd.code = .ref c ∧ g.P c ∧ h.CodeRec (.ref c) fd.qualname) → ct ≠ cx → Strm C g h x n a
mutual
inductive VR (C : Cx) (g : Gh) (h : Heap) : MV → Value → Prop
  | none : VR C g h .none .none
  | bool (b : Bool) : VR C g h (.bool b) (.bool b)
  | int (i : Int) (t : Tok) : VR C g h (.int i) (.int i t)
  | str (x : Str) (t : Tok) : VR C g h (.str x) (.str x t)
  | tup {l : List MV} {a : Addr} {xs : List Value} : g.P a → h.IsTuple a ⟨xs⟩ → VRs C g h l xs → VR C g h (.tup l) (.ref a)
  | lst {l : List MV} {a : Addr} {xs : List Value} : g.P a → h.PlainList a ⟨xs⟩ → VRs C g h l xs → VR C g h (.lst l) (.ref a)
  | dct {l : List (Str × MV)} {a : Addr} {kvs : List (Str × Value)} : g.P a → h.DictOf (strKind C.prog C.w) a kvs → VRd C g h l kvs → VR C g h (.dct l) (.ref a)
  | rng {a b c : Int} {t u v : Tok} {r : Addr} : g.P r → IsRange h r a b c t u v → VR C g h (.rng a b c) (.ref r)
  | ref {n : Nat} {a : Addr} : g.ρ n = some a → VR C g h (.ref n) (.ref a)
  | val (v : Value) : VR C g h (.val v) v
  | strm {x : Str} {n : Nat} {a : Addr} : Strm C g h x n a → VR C g h (.strm x n) (.ref a)
  | meth {f : Addr} {n : Nat} {a b : Addr} : g.P a → h.get? a = some (methodObj (.ref f) (.ref b)) → g.ρ n = some b → VR C g h (.meth f n) (.ref a)
inductive VRs (C : Cx) (g : Gh) (h : Heap) : List MV → List Value → Prop
  | nil : VRs C g h [] []
  | cons {m : MV} {v : Value} {l : List MV} {r : List Value} : VR C g h m v → VRs C g h l r → VRs C g h (m :: l) (v :: r)
inductive VRd (C : Cx) (g : Gh) (h : Heap) : List (Str × MV) → List (Str × Value) → Prop
  | nil : VRd C g h [] []
  | cons {k : Str} {m : MV} {v : Value} {l : List (Str × MV)} {r : List (Str × Value)} : VR C g h m v → VRd C g h l r → VRd C g h ((k, m) :: l) ((k, v) :: r)
end
noncomputable def VI (C : Cx) (g : Gh) (h : Heap) (v : Value) : MV → Prop
  | .none => v = .none
  | .bool b => v = .bool b
  | .int i => ∃ t, v = .int i t
  | .str x => ∃ t, v = .str x t
  | .tup l => ∃ a xs, v = .ref a ∧ g.P a ∧ h.IsTuple a ⟨xs⟩ ∧ VRs C g h l xs
  | .lst l => ∃ a xs, v = .ref a ∧ g.P a ∧ h.PlainList a ⟨xs⟩ ∧ VRs C g h l xs
  | .dct l => ∃ a kvs, v = .ref a ∧ g.P a ∧ h.DictOf (strKind C.prog C.w) a kvs ∧ VRd C g h l kvs
  | .rng a b c => ∃ t u w r, v = .ref r ∧ g.P r ∧ IsRange h r a b c t u w
  | .ref n => ∃ a, v = .ref a ∧ g.ρ n = some a
  | .val u => v = u
  | .strm x n => ∃ a, v = .ref a ∧ Strm C g h x n a
  | .meth f n => ∃ a b, v = .ref a ∧ g.P a ∧ h.get? a = some (methodObj (.ref f) (.ref b)) ∧ g.ρ n = some b
theorem VR.inv {C : Cx} {g : Gh} {h : Heap} {m : MV} {v : Value} (x : VR C g h m v) : VI C g h v m :=
  VR.casesOn (motive_1 := fun m v _ => VI C g h v m) x rfl (fun _ => rfl) (fun _ t => ⟨t, rfl⟩) (fun _ t => ⟨t, rfl⟩) (fun a b c => ⟨_, _, rfl, a, b, c⟩) (fun a b c => ⟨_, _, rfl, a, b, c⟩) (fun a b c => ⟨_, _, rfl, a, b, c⟩)
    (fun a b => ⟨_, _, _, _, rfl, a, b⟩) (fun a => ⟨_, rfl, a⟩) (fun _ => rfl) (fun a => ⟨_, rfl, a⟩) (fun a b c => ⟨_, _, rfl, a, b, c⟩)
noncomputable def VIs (C : Cx) (g : Gh) (h : Heap) (r : List Value) : List MV → Prop
  | [] => r = []
  | m :: l => ∃ v r', r = v :: r' ∧ VR C g h m v ∧ VRs C g h l r'
theorem VRs.inv {C : Cx} {g : Gh} {h : Heap} {l : List MV} {r : List Value} (x : VRs C g h l r) : VIs C g h r l :=
  VRs.casesOn (motive_2 := fun l r _ => VIs C g h r l) x rfl (fun a b => ⟨_, _, rfl, a, b⟩)
noncomputable def VId (C : Cx) (g : Gh) (h : Heap) (r : List (Str × Value)) : List (Str × MV) → Prop
  | [] => r = []
  | (k, m) :: l => ∃ v r', r = (k, v) :: r' ∧ VR C g h m v ∧ VRd C g h l r'
theorem VRd.inv {C : Cx} {g : Gh} {h : Heap} {l : List (Str × MV)} {r : List (Str × Value)} (x : VRd C g h l r) : VId C g h r l :=
  VRd.casesOn (motive_3 := fun l r _ => VId C g h r l) x rfl (fun a b => ⟨_, _, rfl, a, b⟩)
theorem VRs.inv1 {C : Cx} {g : Gh} {h : Heap} {a : MV} {r : List Value} (x : VRs C g h [a] r) : ∃ v, r = [v] ∧ VR C g h a v := by
  obtain ⟨v, _, rfl, y, z⟩ := x.inv
  obtain rfl := z.inv
  exact ⟨v, rfl, y⟩
theorem VRs.inv2 {C : Cx} {g : Gh} {h : Heap} {a b : MV} {r : List Value} (x : VRs C g h [a, b] r) : ∃ v w, r = [v, w] ∧ VR C g h a v ∧ VR C g h b w := by
  obtain ⟨v, _, rfl, y, z⟩ := x.inv
  obtain ⟨w, rfl, z'⟩ := z.inv1
  exact ⟨v, w, rfl, y, z'⟩
theorem VRs.inv3 {C : Cx} {g : Gh} {h : Heap} {a b c : MV} {r : List Value} (x : VRs C g h [a, b, c] r) : ∃ v w u, r = [v, w, u] ∧ VR C g h a v ∧ VR C g h b w ∧ VR C g h c u := by
  obtain ⟨v, _, rfl, y, z⟩ := x.inv
  obtain ⟨w, u, rfl, z'⟩ := z.inv2
  exact ⟨v, w, u, rfl, y, z'⟩
structure Ge (g g' : Gh) (h h' : Heap) : Prop where
  ρ : ∀ n a, g.ρ n = some a → g'.ρ n = some a
  P : ∀ a, g.P a → g'.P a
  keep : ∀ a o, g.P a → h.get? a = some o → h'.get? a = some o
theorem CodeRec.at' {h h' : Heap} {c : Addr} {q : Str} (k : ∀ o, h.get? c = some o → h'.get? c = some o) : h.CodeRec (.ref c) q → h'.CodeRec (.ref c) q := by
  rintro ⟨c', o6, vs, t6, e6, h6, r6⟩
  cases e6
  exact ⟨c, o6, vs, t6, rfl, k _ h6, r6⟩
theorem Strm.mono {C : Cx} {g g' : Gh} {h h' : Heap} {x : Str} {n : Nat} {a : Addr} (e : Ge g g' h h') (z : Strm C g h x n a) : Strm C g' h' x n a :=
  Strm.casesOn z fun d f ct cx b t fl fd sl m o z1 z2 z3 hr hc z4 z5 z6 hne =>
    ⟨d, f, ct, cx, b, t, fl, fd, sl, m, o, ⟨e.P _ z1.1, e.keep _ _ z1.1 z1.2⟩, ⟨e.P _ z2.1, z2.2.1.at fun _ q => e.keep _ _ z2.1 q, z2.2.2⟩, ⟨e.P _ z3.1, e.keep _ _ z3.1 z3.2.1, z3.2.2⟩, hr, hc,
      ⟨e.P _ z4.1, z4.2.1.imp fun _ q => ⟨e.keep _ _ z4.1 q.1, q.2⟩, e.ρ _ _ z4.2.2⟩, ⟨e.P _ z5.1, z5.2.imp fun _ q => ⟨e.keep _ _ z5.1 q.1, q.2⟩⟩, z6.elim fun c y => ⟨c, y.1, e.P _ y.2.1, CodeRec.at' (fun _ q => e.keep _ _ y.2.1 q) y.2.2⟩, hne⟩
theorem VR.mono {C : Cx} {g g' : Gh} {h h' : Heap} (e : Ge g g' h h') {m : MV} {v : Value} (x : VR C g h m v) : VR C g' h' m v :=
  VR.rec (motive_1 := fun m v _ => VR C g' h' m v) (motive_2 := fun l r _ => VRs C g' h' l r) (motive_3 := fun l r _ => VRd C g' h' l r) .none .bool .int .str (fun hp ho _ hl => .tup (e.P _ hp) (ho.at fun _ q => e.keep _ _ hp q) hl)
    (fun hp ho _ hl => .lst (e.P _ hp) (ho.at fun _ q => e.keep _ _ hp q) hl) (fun hp ho _ hl => .dct (e.P _ hp) (ho.at fun _ q => e.keep _ _ hp q) hl) (fun hp hr => .rng (e.P _ hp) (e.keep _ _ hp hr)) (fun hn => .ref (e.ρ _ _ hn)) .val
    (fun hs => .strm (hs.mono e)) (fun hp ho hn => .meth (e.P _ hp) (e.keep _ _ hp ho) (e.ρ _ _ hn)) .nil (fun _ _ a b => .cons a b) .nil (fun _ _ a b => .cons a b) x
theorem VRs.mono {C : Cx} {g g' : Gh} {h h' : Heap} (e : Ge g g' h h') {l : List MV} {r : List Value} (x : VRs C g h l r) : VRs C g' h' l r :=
  VRs.rec (motive_1 := fun m v _ => VR C g' h' m v) (motive_2 := fun l r _ => VRs C g' h' l r) (motive_3 := fun l r _ => VRd C g' h' l r) .none .bool .int .str (fun hp ho _ hl => .tup (e.P _ hp) (ho.at fun _ q => e.keep _ _ hp q) hl)
    (fun hp ho _ hl => .lst (e.P _ hp) (ho.at fun _ q => e.keep _ _ hp q) hl) (fun hp ho _ hl => .dct (e.P _ hp) (ho.at fun _ q => e.keep _ _ hp q) hl) (fun hp hr => .rng (e.P _ hp) (e.keep _ _ hp hr)) (fun hn => .ref (e.ρ _ _ hn)) .val
    (fun hs => .strm (hs.mono e)) (fun hp ho hn => .meth (e.P _ hp) (e.keep _ _ hp ho) (e.ρ _ _ hn)) .nil (fun _ _ a b => .cons a b) .nil (fun _ _ a b => .cons a b) x
theorem VRd.mono {C : Cx} {g g' : Gh} {h h' : Heap} (e : Ge g g' h h') {l : List (Str × MV)} {r : List (Str × Value)} (x : VRd C g h l r) : VRd C g' h' l r :=
  VRd.rec (motive_1 := fun m v _ => VR C g' h' m v) (motive_2 := fun l r _ => VRs C g' h' l r) (motive_3 := fun l r _ => VRd C g' h' l r) .none .bool .int .str (fun hp ho _ hl => .tup (e.P _ hp) (ho.at fun _ q => e.keep _ _ hp q) hl)
    (fun hp ho _ hl => .lst (e.P _ hp) (ho.at fun _ q => e.keep _ _ hp q) hl) (fun hp ho _ hl => .dct (e.P _ hp) (ho.at fun _ q => e.keep _ _ hp q) hl) (fun hp hr => .rng (e.P _ hp) (e.keep _ _ hp hr)) (fun hn => .ref (e.ρ _ _ hn)) .val
    (fun hs => .strm (hs.mono e)) (fun hp ho hn => .meth (e.P _ hp) (e.keep _ _ hp ho) (e.ρ _ _ hn)) .nil (fun _ _ a b => .cons a b) .nil (fun _ _ a b => .cons a b) x
theorem VRs.length {C : Cx} {g : Gh} {h : Heap} {l : List MV} {r : List Value} (x : VRs C g h l r) : l.length = r.length := by
  induction l generalizing r with
  | nil => obtain rfl := x.inv; rfl
  | cons m l ih => obtain ⟨v, r', rfl, _, y⟩ := x.inv; exact congrArg Nat.succ (ih y)
theorem VRs.get {C : Cx} {g : Gh} {h : Heap} {l : List MV} {r : List Value} (x : VRs C g h l r) {i : Nat} {m : MV} (e : l[i]? = some m) : ∃ v, r[i]? = some v ∧ VR C g h m v := by
  induction l generalizing r i with
  | nil => exact nomatch e
  | cons m' l ih =>
    obtain ⟨v, r', rfl, y, z⟩ := x.inv
    cases i with
    | zero => exact ⟨v, rfl, Option.some.inj e ▸ y⟩
    | succ i => exact ih z e
theorem VRs.append {C : Cx} {g : Gh} {h : Heap} {l : List MV} {r : List Value} {l' : List MV} {r' : List Value} (x : VRs C g h l r) (b : VRs C g h l' r') : VRs C g h (l ++ l') (r ++ r') := by
  induction l generalizing r with
  | nil => obtain rfl := x.inv; exact b
  | cons m l ih => obtain ⟨v, r', rfl, y, z⟩ := x.inv; exact .cons y (ih z)
inductive MO where
  | list (l : List MV)
  | dict (l : List (Str × MV))
  | raw (o : Obj)
  | inst (cls : Addr) (d : Nat)
  | attrs (l : List (Str × MV))
  | citer (alive : Bool) (f : Addr) (n : Nat) (sent : Str)
noncomputable abbrev Hp := Nat → Option MO
noncomputable def Hp.set (σ : Hp) (n : Nat) (o : MO) : Hp := fun m => if m = n then some o else σ m
inductive OR (C : Cx) (g : Gh) (h : Heap) (a : Addr) : MO → Prop
  | list {l : List MV} {xs : List Value} : h.PlainList a ⟨xs⟩ → VRs C g h l xs → OR C g h a (.list l)
  | dict {l : List (Str × MV)} {kvs : List (Str × Value)} : h.DictOf (strKind C.prog C.w) a kvs → VRd C g h l kvs → OR C g h a (.dict l)
  | raw {o : Obj} : h.get? a = some o → OR C g h a (.raw o)
  | inst {cls : Addr} {d : Nat} {dx : Addr} : g.ρ d = some dx → h.get? a = some (instObj cls dx) → OR C g h a (.inst cls d)
  | attrs {l : List (Str × MV)} {m : Str → Option Value} : h.Ns1 a m → (∀ x, l.lookup x = none → m x = none) → (∀ x v, l.lookup x = some v → ∃ u, m x = some u ∧ VR C g h v u) → OR C g h a (.attrs l)
  | alive {f : Addr} {n : Nat} {sent : Str} {q : Value} {t : Tok} : h.get? a = some { cls := .type "callable_iterator", data := .fields #[q, .str sent t, .bool false] } → VR C g h (.meth f n) q → OR C g h a (.citer true f n sent)
  | dead {f : Addr} {n : Nat} {sent : Str} : h.get? a = some { cls := .type "callable_iterator", data := .fields #[.none, .none, .bool true] } → OR C g h a (.citer false f n sent)
noncomputable def OVI (C : Cx) (g : Gh) (h : Heap) (a : Addr) : MO → Prop
  | .list l => ∃ xs, h.PlainList a ⟨xs⟩ ∧ VRs C g h l xs
  | .dict l => ∃ kvs, h.DictOf (strKind C.prog C.w) a kvs ∧ VRd C g h l kvs
  | .raw o => h.get? a = some o
  | .inst cls d => ∃ dx, g.ρ d = some dx ∧ h.get? a = some (instObj cls dx)
  | .attrs l => ∃ m, h.Ns1 a m ∧ (∀ x, l.lookup x = none → m x = none) ∧ (∀ x v, l.lookup x = some v → ∃ u, m x = some u ∧ VR C g h v u)
  | .citer true f n sent => ∃ q t, h.get? a = some { cls := .type "callable_iterator", data := .fields #[q, .str sent t, .bool false] } ∧ VR C g h (.meth f n) q
  | .citer false _ _ _ => h.get? a = some { cls := .type "callable_iterator", data := .fields #[.none, .none, .bool true] }
theorem OR.inv {C : Cx} {g : Gh} {h : Heap} {a : Addr} {o : MO} (x : OR C g h a o) : OVI C g h a o :=
  OR.casesOn (motive := fun o _ => OVI C g h a o) x (fun a b => ⟨_, a, b⟩) (fun a b => ⟨_, a, b⟩) id (fun a b => ⟨_, a, b⟩) (fun a b c => ⟨_, a, b, c⟩) (fun a b => ⟨_, _, a, b⟩) id
theorem OR.mono {C : Cx} {g g' : Gh} {h h' : Heap} {a : Addr} {o : MO} (e : Ge g g' h h') (k : ∀ ob, h.get? a = some ob → h'.get? a = some ob) (x : OR C g h a o) : OR C g' h' a o :=
  OR.casesOn (motive := fun o _ => OR C g' h' a o) x (fun ho hl => .list (ho.at k) (hl.mono e)) (fun ho hl => .dict (ho.at k) (hl.mono e)) (fun ho => .raw (k _ ho)) (fun hd ho => .inst (e.ρ _ _ hd) (k _ ho))
    (fun hn h0 h1 => .attrs (hn.at k) h0 fun x v hv => (h1 x v hv).imp fun _ hu => ⟨hu.1, hu.2.mono e⟩) (fun ho hq => .alive (k _ ho) (hq.mono e)) (fun ho => .dead (k _ ho))
structure Fm where
  env : Env
  own : List Str
noncomputable abbrev Loc := Str → Option MV
noncomputable def Loc.set (l : Loc) (x : Str) (v : MV) : Loc := fun y => if y = x then some v else l y
noncomputable def Holds (env : Env) (h : Heap) (x : Str) (v : Value) : Prop :=
  (env.kindOf x = some .local ∧ ∃ m, h.Ns env.locals m ∧ m x = some v) ∨
  ((env.kindOf x = some .cell ∨ env.kindOf x = some .free) ∧ ∃ c, env.cells.lookup x = some c ∧ h.IsCell c (some v))
structure FR (C : Cx) (g : Gh) (fm : Fm) (fa : List Addr) (loc : Loc) (h : Heap) : Prop where
  fn : fm.env.scope.kind = .function
  glob : fm.env.globals = mainGlobals
  bi : fm.env.builtins = builtinsNs
  ns : ∃ m, h.Ns fm.env.locals m
  L : fm.env.locals ∈ fa
  var : ∀ x v, loc x = some v → ∃ u, Holds fm.env h x u ∧ VR C g h v u
  cells : ∀ x c, fm.env.cells.lookup x = some c → (∃ v, h.IsCell c v) ∧ c ≠ fm.env.locals ∧ C.N0 ≤ c ∧ (∀ n, g.ρ n ≠ some c) ∧ (x ∉ fm.own → c ∉ fa)
  own : ∀ x ∈ fm.own, fm.env.kindOf x = some .cell ∧ ∃ c, fm.env.cells.lookup x = some c ∧ c ∈ fa
  inj : ∀ x y c, fm.env.cells.lookup x = some c → fm.env.cells.lookup y = some c → x = y
  fa : ∀ a ∈ fa, C.N0 ≤ a ∧ a < h.objs.size ∧ ¬ g.P a ∧ ∀ n, g.ρ n ≠ some a
  has : ∀ x, fm.env.kindOf x = some .cell ∨ fm.env.kindOf x = some .free → ∃ c, fm.env.cells.lookup x = some c
noncomputable def TabOk (C : Cx) (g : Gh) (h : Heap) (a : Addr) (vs : Array Value) : Prop :=
  TriplesOk vs.toList ∧ ∀ pos c', codeAmong pos vs.toList = some c' → ∃ c, c' = .ref c ∧ g.P c ∧ h.CodeRec c' (C.tq a pos.line pos.col)
theorem TabOk.mono {C : Cx} {g g' : Gh} {h h' : Heap} {a : Addr} {vs : Array Value} (e : Ge g g' h h') (x : TabOk C g h a vs) : TabOk C g' h' a vs :=
  ⟨x.1, fun pos c' hc => by obtain ⟨c, rfl, hp, hr⟩ := x.2 pos c' hc; exact ⟨c, rfl, e.P _ hp, CodeRec.at' (fun _ q => e.keep _ _ hp q) hr⟩⟩
structure GR (C : Cx) (g : Gh) (σ : Hp) (s : Shared) : Prop where
  lo : 16 ≤ C.N0
  K : ∀ p ∈ C.K, p.1 < C.N0 ∧ p.1 ∉ C.tabs ∧ s.heap.get? p.1 = some p.2
  lim : s.heap.NoLimit
  size : C.N0 ≤ s.heap.objs.size
  heap : ∀ n o, σ n = some o → ∃ a, g.ρ n = some a ∧ OR C g s.heap a o
  inj : ∀ n m a, g.ρ n = some a → g.ρ m = some a → n = m
  live : ∀ n a, g.ρ n = some a → C.N0 ≤ a ∧ a < s.heap.objs.size ∧ ¬ g.P a
  P : ∀ a, g.P a → C.N0 ≤ a ∧ a < s.heap.objs.size
  tabs : ∀ a ∈ C.tabs, a < C.N0 ∧ ∃ vs, s.heap.get? a = some (X.tableObj vs) ∧ TabOk C g s.heap a vs
  dom : ∀ n a, g.ρ n = some a → σ n ≠ none
structure Rel (C : Cx) (g : Gh) (σ : Hp) (fm : Fm) (fa : List Addr) (loc : Loc) (s : Shared) : Prop where
  gr : GR C g σ s
  fr : FR C g fm fa loc s.heap
structure Gd (C : Cx) (fa : List Addr) (g : Gh) (s : Shared) (g' : Gh) (s' : Shared) : Prop where
  keep : ∀ b o, s.heap.get? b = some o → (∀ n, g.ρ n ≠ some b) → b ∉ fa → b ∉ C.tabs → s'.heap.get? b = some o
  tabs : ∀ a ∈ C.tabs, ∀ ps, s.heap.get? a = some (X.tableObj ps) → ∃ more, s'.heap.get? a = some (X.tableObj (ps ++ more))
  size : s.heap.objs.size ≤ s'.heap.objs.size
  ρ : ∀ n a, g.ρ n = some a → g'.ρ n = some a
  ρn : ∀ n a, g'.ρ n = some a → g.ρ n = some a ∨ s.heap.objs.size ≤ a
  P : ∀ a, g.P a → g'.P a
  Pn : ∀ a, g'.P a → g.P a ∨ s.heap.objs.size ≤ a
  os : s'.os = s.os
  drawn : s'.drawn = s.drawn
  gens : AllBare s.gens → AllBare s'.gens
theorem Gd.refl (C : Cx) (fa : List Addr) (g : Gh) (s : Shared) : Gd C fa g s g s :=
  ⟨fun _ _ e _ _ _ => e, fun _ _ ps e => ⟨#[], by simpa using e⟩, Nat.le_refl _, fun _ _ e => e, fun _ _ e => .inl e, fun _ e => e, fun _ e => .inl e, rfl, rfl, id⟩
theorem Gd.trans {C : Cx} {fa : List Addr} {g g₁ g₂ : Gh} {s s₁ s₂ : Shared} (x : Gd C fa g s g₁ s₁) (y : Gd C fa g₁ s₁ g₂ s₂) : Gd C fa g s g₂ s₂ where
  keep := fun b o e h1 h2 h3 => y.keep b o (x.keep b o e h1 h2 h3) (fun n hn => by
    rcases x.ρn n b hn with q | q
    · exact h1 n q
    · exact Nat.lt_irrefl _ (Nat.lt_of_lt_of_le (Heap.lt_size e) q)) h2 h3
  tabs := fun a ha ps e => by
    obtain ⟨m1, e1⟩ := x.tabs a ha ps e
    obtain ⟨m2, e2⟩ := y.tabs a ha _ e1
    exact ⟨m1 ++ m2, by rw [e2, Array.append_assoc]⟩
  size := Nat.le_trans x.size y.size
  ρ := fun n a e => y.ρ n a (x.ρ n a e)
  ρn := fun n a e => (y.ρn n a e).elim (x.ρn n a) fun q => .inr (Nat.le_trans x.size q)
  P := fun a e => y.P a (x.P a e)
  Pn := fun a e => (y.Pn a e).elim (x.Pn a) fun q => .inr (Nat.le_trans x.size q)
  os := y.os.trans x.os
  drawn := y.drawn.trans x.drawn
  gens := fun q => y.gens (x.gens q)
theorem Gd.ge {C : Cx} {fa : List Addr} {g g' : Gh} {s s' : Shared} (x : Gd C fa g s g' s') (h1 : ∀ n a, g.ρ n = some a → ¬ g.P a) (h2 : ∀ a ∈ fa, ¬ g.P a) (h3 : ∀ a ∈ C.tabs, ¬ g.P a) : Ge g g' s.heap s'.heap :=
  ⟨x.ρ, x.P, fun a o hp e => x.keep a o e (fun n hn => h1 n a hn hp) (fun hm => h2 a hm hp) fun hm => h3 a hm hp⟩
theorem GR.tabP {C : Cx} {g : Gh} {σ : Hp} {s : Shared} (r : GR C g σ s) : ∀ a ∈ C.tabs, ¬ g.P a := fun a ha hp => Nat.lt_irrefl _ (Nat.lt_of_lt_of_le (r.tabs a ha).1 (r.P a hp).1)
theorem GR.ge {C : Cx} {g g' : Gh} {σ : Hp} {s s' : Shared} (r : GR C g σ s) (x : Gd C [] g s g' s') : Ge g g' s.heap s'.heap :=
  x.ge (fun n a e => (r.live n a e).2.2) (fun _ h => nomatch h) r.tabP
theorem Rel.ge {C : Cx} {g g' : Gh} {σ : Hp} {fm : Fm} {fa : List Addr} {loc : Loc} {s s' : Shared} (r : Rel C g σ fm fa loc s) (x : Gd C fa g s g' s') : Ge g g' s.heap s'.heap :=
  x.ge (fun n a e => (r.gr.live n a e).2.2) (fun a ha => (r.fr.fa a ha).2.2.1) r.gr.tabP
theorem GR.ext {C : Cx} {g : Gh} {σ : Hp} {s s' : Shared} (r : GR C g σ s) (k : ∀ b o, s.heap.get? b = some o → s'.heap.get? b = some o) (hs : s.heap.objs.size ≤ s'.heap.objs.size) : GR C g σ s' where
  lo := r.lo
  K := fun p hp => ⟨(r.K p hp).1, (r.K p hp).2.1, k _ _ (r.K p hp).2.2⟩
  lim := r.lim.keeps k
  size := Nat.le_trans r.size hs
  heap := fun n o e => by obtain ⟨a, ha, ho⟩ := r.heap n o e; exact ⟨a, ha, ho.mono ⟨fun _ _ e => e, fun _ e => e, fun a o _ e => k a o e⟩ fun _ e => k _ _ e⟩
  inj := r.inj
  live := fun n a e => by obtain ⟨x, y, z⟩ := r.live n a e; exact ⟨x, Nat.lt_of_lt_of_le y hs, z⟩
  P := fun a e => by obtain ⟨x, y⟩ := r.P a e; exact ⟨x, Nat.lt_of_lt_of_le y hs⟩
  tabs := fun a ha => by obtain ⟨x, vs, e, t⟩ := r.tabs a ha; exact ⟨x, vs, k _ _ e, t.mono ⟨fun _ _ e => e, fun _ e => e, fun a o _ e => k a o e⟩⟩
  dom := r.dom
theorem Holds.ext {env : Env} {h h' : Heap} {x : Str} {v : Value} (k : ∀ b o, h.get? b = some o → h'.get? b = some o) : Holds env h x v → Holds env h' x v := by
  rintro (⟨a, m, hn, e⟩ | ⟨a, c, hc, e⟩)
  · exact .inl ⟨a, m, hn.keeps k, e⟩
  · exact .inr ⟨a, c, hc, e.keeps k⟩
theorem FR.ext {C : Cx} {g : Gh} {fm : Fm} {fa : List Addr} {loc : Loc} {h h' : Heap} (r : FR C g fm fa loc h) (k : ∀ b o, h.get? b = some o → h'.get? b = some o) (hs : h.objs.size ≤ h'.objs.size) : FR C g fm fa loc h' where
  fn := r.fn
  glob := r.glob
  bi := r.bi
  ns := by obtain ⟨m, e⟩ := r.ns; exact ⟨m, e.keeps k⟩
  L := r.L
  var := fun x v e => by obtain ⟨u, hu, hv⟩ := r.var x v e; exact ⟨u, hu.ext k, hv.mono ⟨fun _ _ e => e, fun _ e => e, fun a o _ e => k a o e⟩⟩
  cells := fun x c e => by obtain ⟨⟨v, hv⟩, q⟩ := r.cells x c e; exact ⟨⟨v, hv.keeps k⟩, q⟩
  own := r.own
  inj := r.inj
  fa := fun a ha => by obtain ⟨x, y, z⟩ := r.fa a ha; exact ⟨x, Nat.lt_of_lt_of_le y hs, z⟩
  has := r.has
theorem Rel.ext {C : Cx} {g : Gh} {σ : Hp} {fm : Fm} {fa : List Addr} {loc : Loc} {s s' : Shared} (r : Rel C g σ fm fa loc s) (k : ∀ b o, s.heap.get? b = some o → s'.heap.get? b = some o) (hs : s.heap.objs.size ≤ s'.heap.objs.size) : Rel C g σ fm fa loc s' :=
  ⟨r.gr.ext k hs, r.fr.ext k hs⟩
theorem Gd.ext {C : Cx} {fa : List Addr} {g : Gh} {s s' : Shared} (k : ∀ b o, s.heap.get? b = some o → s'.heap.get? b = some o) (hs : s.heap.objs.size ≤ s'.heap.objs.size)
    (ho : s'.os = s.os) (hd : s'.drawn = s.drawn) (hg : s'.gens = s.gens) : Gd C fa g s g s' :=
  ⟨fun b o e _ _ _ => k b o e, fun a _ ps e => ⟨#[], by rw [k a _ e]; simp⟩, hs, fun _ _ e => e, fun _ _ e => .inl e, fun _ e => e, fun _ e => .inl e, ho, hd, fun q => hg ▸ q⟩
noncomputable def Gh.set (g : Gh) (n : Nat) (a : Addr) : Gh := ⟨fun m => if m = n then some a else g.ρ m, g.P⟩
noncomputable def Gh.pin (g : Gh) (a : Addr) : Gh := ⟨g.ρ, fun b => b = a ∨ g.P b⟩
section
variable {C : Cx} {g : Gh} {σ : Hp} {fm : Fm} {fa : List Addr} {loc : Loc} {s s' : Shared}
theorem Gd.toks (t : Nat) : Gd C fa g s g { s with toks := t } := .ext (fun _ _ e => e) (Nat.le_refl _) rfl rfl rfl
theorem Rel.toks (r : Rel C g σ fm fa loc s) (t : Nat) : Rel C g σ fm fa loc { s with toks := t } := r.ext (fun _ _ e => e) (Nat.le_refl _)
theorem ge_pin1 {g : Gh} {h : Heap} (a : Addr) : Ge g (g.pin a) h h := ⟨fun _ _ e => e, fun _ e => .inr e, fun _ _ _ e => e⟩
theorem Rel.pin {a : Addr} (r : Rel C g σ fm fa loc s) (k : ∀ b o, s.heap.get? b = some o → s'.heap.get? b = some o) (ha : s.heap.objs.size ≤ a) (hl : a < s'.heap.objs.size) :
    Rel C (g.pin a) σ fm fa loc s' := by
  have hs : s.heap.objs.size ≤ s'.heap.objs.size := Nat.le_of_lt (Nat.lt_of_le_of_lt ha hl)
  have e : Ge g (g.pin a) s.heap s'.heap := ⟨fun _ _ e => e, fun _ e => .inr e, fun a o _ e => k a o e⟩
  have q := r.ext k hs
  refine ⟨⟨r.gr.lo, q.gr.K, q.gr.lim, q.gr.size, fun n o h => ?_, r.gr.inj, fun n b h => ?_, fun b h => ?_, fun b h => by obtain ⟨x, vs, e', t⟩ := q.gr.tabs b h; exact ⟨x, vs, e', t.mono (ge_pin1 a)⟩, r.gr.dom⟩,
    ⟨r.fr.fn, r.fr.glob, r.fr.bi, q.fr.ns, r.fr.L, fun x v h => ?_, fun x c h => ?_, r.fr.own, r.fr.inj, fun b h => ?_, r.fr.has⟩⟩
  · obtain ⟨b, hb, ho⟩ := r.gr.heap n o h
    exact ⟨b, hb, ho.mono e fun _ e => k _ _ e⟩
  · obtain ⟨x, y, z⟩ := r.gr.live n b h
    exact ⟨x, Nat.lt_of_lt_of_le y hs, fun w => w.elim (fun w => Nat.lt_irrefl _ (Nat.lt_of_lt_of_le y (w ▸ ha))) z⟩
  · rcases h with h | h
    · subst h; exact ⟨Nat.le_trans r.gr.size ha, hl⟩
    · obtain ⟨x, y⟩ := r.gr.P b h; exact ⟨x, Nat.lt_of_lt_of_le y hs⟩
  · obtain ⟨u, hu, hv⟩ := r.fr.var x v h
    exact ⟨u, hu.ext k, hv.mono e⟩
  · refine via_p fun P kP => ?_
    obtain ⟨⟨v, hv⟩, c1, c2, c3, c5⟩ := r.fr.cells x c h
    refine kP ?_
    clear kP P
    exact ⟨⟨v, hv.keeps k⟩, c1, c2, c3, c5⟩
  · obtain ⟨x, y, z, w⟩ := r.fr.fa b h
    exact ⟨x, Nat.lt_of_lt_of_le y hs, fun w => w.elim (fun w => Nat.lt_irrefl _ (Nat.lt_of_lt_of_le y (w ▸ ha))) z, w⟩
theorem Gd.pin {a : Addr} (k : ∀ b o, s.heap.get? b = some o → s'.heap.get? b = some o) (ha : s.heap.objs.size ≤ a) (hl : a < s'.heap.objs.size)
    (ho : s'.os = s.os) (hd : s'.drawn = s.drawn) (hg : s'.gens = s.gens) : Gd C fa g s (g.pin a) s' where
  keep := fun b o e _ _ _ => k b o e
  tabs := fun a _ ps e => ⟨#[], by rw [k a _ e]; simp⟩
  size := Nat.le_of_lt (Nat.lt_of_le_of_lt ha hl)
  ρ := fun _ _ e => e
  ρn := fun _ _ e => .inl e
  P := fun _ e => .inr e
  Pn := fun b e => e.elim (fun w => .inr (w ▸ ha)) .inl
  os := ho
  drawn := hd
  gens := fun q => hg ▸ q
theorem GR.obj (r : GR C g σ s) {n : Nat} {a : Addr} {o : MO} (ha : g.ρ n = some a) (e : σ n = some o) : OR C g s.heap a o := by
  obtain ⟨b, hb, ho⟩ := r.heap n o e
  exact Option.some.inj (ha.symm.trans hb) ▸ ho
theorem GR.fresh (r : GR C g σ s) {n : Nat} (h : σ n = none) : g.ρ n = none := by
  cases e : g.ρ n with
  | none => rfl
  | some a => exact absurd h (r.dom n a e)
theorem Rel.new {a : Addr} {n : Nat} {o : MO} (r : Rel C g σ fm fa loc s) (hn : g.ρ n = none) (k : ∀ b o, s.heap.get? b = some o → s'.heap.get? b = some o) (ha : s.heap.objs.size ≤ a) (hl : a < s'.heap.objs.size)
    (ho : OR C (g.set n a) s'.heap a o) : Rel C (g.set n a) (σ.set n o) fm fa loc s' := by
  have hs : s.heap.objs.size ≤ s'.heap.objs.size := Nat.le_of_lt (Nat.lt_of_le_of_lt ha hl)
  have up : ∀ m b, g.ρ m = some b → (g.set n a).ρ m = some b := fun m b e => by
    show (if m = n then some a else g.ρ m) = some b
    rw [if_neg (fun q => by rw [q, hn] at e; cases e)]; exact e
  have dn : ∀ m b, (g.set n a).ρ m = some b → (m = n ∧ b = a) ∨ (m ≠ n ∧ g.ρ m = some b) := fun m b e => by
    have e' : (if m = n then some a else g.ρ m) = some b := e
    by_cases h : m = n
    · rw [if_pos h] at e'; cases e'; exact .inl ⟨h, rfl⟩
    · rw [if_neg h] at e'; exact .inr ⟨h, e'⟩
  have e : Ge g (g.set n a) s.heap s'.heap := ⟨up, fun _ e => e, fun a o _ e => k a o e⟩
  have q := r.ext k hs
  refine ⟨⟨r.gr.lo, q.gr.K, q.gr.lim, q.gr.size, fun m o' h => ?_, fun m m' b h h' => ?_, fun m b h => ?_, q.gr.P, fun b h => by obtain ⟨x, vs, e', t⟩ := r.gr.tabs b h; exact ⟨x, vs, k _ _ e', t.mono e⟩, fun m b h => ?_⟩,
    ⟨r.fr.fn, r.fr.glob, r.fr.bi, q.fr.ns, r.fr.L, fun x v h => ?_, fun x c h => ?_, r.fr.own, r.fr.inj, fun b h => ?_, r.fr.has⟩⟩
  · have h' : (if m = n then some o else σ m) = some o' := h
    by_cases hm : m = n
    · rw [if_pos hm] at h'; cases h'
      exact ⟨a, by show (if m = n then some a else g.ρ m) = some a; rw [if_pos hm], ho⟩
    · rw [if_neg hm] at h'
      obtain ⟨b, hb, hob⟩ := r.gr.heap m o' h'
      exact ⟨b, up m b hb, hob.mono e fun _ e => k _ _ e⟩
  · rcases dn m b h with ⟨h1, h2⟩ | ⟨h1, h2⟩ <;> rcases dn m' b h' with ⟨h3, h4⟩ | ⟨h3, h4⟩
    · rw [h1, h3]
    · exact absurd (r.gr.live m' b h4).2.1 (Nat.not_lt.mpr (h2 ▸ ha))
    · exact absurd (r.gr.live m b h2).2.1 (Nat.not_lt.mpr (h4 ▸ ha))
    · exact r.gr.inj m m' b h2 h4
  · rcases dn m b h with ⟨h1, h2⟩ | ⟨h1, h2⟩
    · subst h2; exact ⟨Nat.le_trans r.gr.size ha, hl, fun w => Nat.lt_irrefl _ (Nat.lt_of_lt_of_le (r.gr.P b w).2 ha)⟩
    · obtain ⟨x, y, z⟩ := r.gr.live m b h2; exact ⟨x, Nat.lt_of_lt_of_le y hs, z⟩
  · show (if m = n then some o else σ m) ≠ none
    rcases dn m b h with ⟨h1, _⟩ | ⟨h1, h2⟩
    · rw [if_pos h1]; exact fun e => nomatch e
    · rw [if_neg h1]; exact r.gr.dom m b h2
  · obtain ⟨u, hu, hv⟩ := r.fr.var x v h
    exact ⟨u, hu.ext k, hv.mono e⟩
  · refine via_p fun P kP => ?_
    obtain ⟨⟨v, hv⟩, c1, c2, c3, c5⟩ := r.fr.cells x c h
    refine kP ?_
    clear kP P
    exact ⟨⟨v, hv.keeps k⟩, c1, c2, fun m hm => (dn m c hm).elim (fun w => Nat.lt_irrefl _ (Nat.lt_of_lt_of_le hv.lt (w.2 ▸ ha))) fun w => c3 m w.2, c5⟩
  · obtain ⟨x, y, z, w⟩ := r.fr.fa b h
    exact ⟨x, Nat.lt_of_lt_of_le y hs, z, fun m hm => (dn m b hm).elim (fun v => Nat.lt_irrefl _ (Nat.lt_of_lt_of_le y (v.2 ▸ ha))) fun v => w m v.2⟩
theorem Gd.new {a : Addr} {n : Nat} (hn : g.ρ n = none) (k : ∀ b o, s.heap.get? b = some o → s'.heap.get? b = some o) (ha : s.heap.objs.size ≤ a) (hl : a < s'.heap.objs.size)
    (ho : s'.os = s.os) (hd : s'.drawn = s.drawn) (hg : s'.gens = s.gens) : Gd C fa g s (g.set n a) s' where
  keep := fun b o e _ _ _ => k b o e
  tabs := fun a _ ps e => ⟨#[], by rw [k a _ e]; simp⟩
  size := Nat.le_of_lt (Nat.lt_of_le_of_lt ha hl)
  ρ := fun m b e => by
    show (if m = n then some a else g.ρ m) = some b
    rw [if_neg (fun q => by rw [q, hn] at e; cases e)]; exact e
  ρn := fun m b e => by
    have e' : (if m = n then some a else g.ρ m) = some b := e
    by_cases h : m = n
    · rw [if_pos h] at e'; cases e'; exact .inr ha
    · rw [if_neg h] at e'; exact .inl e'
  P := fun _ e => e
  Pn := fun _ e => .inl e
  os := ho
  drawn := hd
  gens := fun q => hg ▸ q
theorem Rel.upd {a : Addr} {n : Nat} {o : MO} (r : Rel C g σ fm fa loc s) (hn : g.ρ n = some a) (hb : Heap.SameBut a s.heap s'.heap) (ho : OR C g s'.heap a o) : Rel C g (σ.set n o) fm fa loc s' := by
  have hs : s'.heap.objs.size = s.heap.objs.size := hb.1
  have k : ∀ b o, b ≠ a → s.heap.get? b = some o → s'.heap.get? b = some o := fun b o h e => hb.extBut b o h e
  obtain ⟨ha0, ha1, ha2⟩ := r.gr.live n a hn
  have e : Ge g g s.heap s'.heap := ⟨fun _ _ e => e, fun _ e => e, fun b o hp e => k b o (fun q => ha2 (q ▸ hp)) e⟩
  have hlo : ∀ b, b < C.N0 → b ≠ a := fun b h q => Nat.lt_irrefl _ (Nat.lt_of_lt_of_le h (q ▸ ha0))
  have hL : fm.env.locals ≠ a := fun q => (r.fr.fa _ r.fr.L).2.2.2 n (q ▸ hn)
  have hc : ∀ x c, fm.env.cells.lookup x = some c → c ≠ a := fun x c h q => (r.fr.cells x c h).2.2.2.1 n (q ▸ hn)
  refine ⟨⟨r.gr.lo, fun p hp => ⟨(r.gr.K p hp).1, (r.gr.K p hp).2.1, k _ _ (hlo _ (r.gr.K p hp).1) (r.gr.K p hp).2.2⟩, r.gr.lim.extBut hb.extBut (hlo _ ?_), hs ▸ r.gr.size, fun m o' h => ?_, r.gr.inj, fun m b h => ?_, fun b h => ?_, fun b h => ?_, fun m b h => ?_⟩,
    ⟨r.fr.fn, r.fr.glob, r.fr.bi, ?_, r.fr.L, fun x v h => ?_, fun x c h => ?_, r.fr.own, r.fr.inj, fun b h => ?_, r.fr.has⟩⟩
  · exact Nat.lt_of_lt_of_le (by decide) r.gr.lo
  · have h' : (if m = n then some o else σ m) = some o' := h
    by_cases hm : m = n
    · rw [if_pos hm] at h'; cases h'
      exact ⟨a, hm ▸ hn, ho⟩
    · rw [if_neg hm] at h'
      obtain ⟨b, hb', hob⟩ := r.gr.heap m o' h'
      exact ⟨b, hb', hob.mono e fun _ e' => k _ _ (fun q => hm (r.gr.inj m n a (q ▸ hb') hn)) e'⟩
  · rw [hs]; exact r.gr.live m b h
  · rw [hs]; exact r.gr.P b h
  · obtain ⟨x, vs, e', t⟩ := r.gr.tabs b h; exact ⟨x, vs, k _ _ (hlo _ x) e', t.mono e⟩
  · show (if m = n then some o else σ m) ≠ none
    by_cases hm : m = n
    · rw [if_pos hm]; exact fun e => nomatch e
    · rw [if_neg hm]; exact r.gr.dom m b h
  · obtain ⟨m, hm⟩ := r.fr.ns; exact ⟨m, hm.sameBut hb hL⟩
  · obtain ⟨u, hu, hv⟩ := r.fr.var x v h
    refine ⟨u, ?_, hv.mono e⟩
    rcases hu with ⟨q, m, hm, em⟩ | ⟨q, c, hcc, hce⟩
    · exact .inl ⟨q, m, hm.sameBut hb hL, em⟩
    · exact .inr ⟨q, c, hcc, hce.sameBut hb (hc x c hcc)⟩
  · obtain ⟨⟨v, hv⟩, q⟩ := r.fr.cells x c h
    exact ⟨⟨v, hv.sameBut hb (hc x c h)⟩, q⟩
  · rw [hs]; exact r.fr.fa b h
theorem Gd.upd {a : Addr} {n : Nat} (hn : g.ρ n = some a) (hN : C.N0 ≤ a) (ht : ∀ b ∈ C.tabs, b < C.N0) (hb : Heap.SameBut a s.heap s'.heap) (ho : s'.os = s.os) (hd : s'.drawn = s.drawn) (hg : s'.gens = s.gens) : Gd C fa g s g s' where
  keep := fun b o e h _ _ => hb.extBut b o (fun q => h n (q ▸ hn)) e
  tabs := fun b h ps e => ⟨#[], by rw [hb.extBut b _ (fun q => Nat.lt_irrefl _ (Nat.lt_of_lt_of_le (ht b h) (q ▸ hN))) e]; simp⟩
  size := Nat.le_of_eq hb.1.symm
  ρ := fun _ _ e => e
  ρn := fun _ _ e => .inl e
  P := fun _ e => e
  Pn := fun _ e => .inl e
  os := ho
  drawn := hd
  gens := fun q => hg ▸ q
theorem Gd.own {a : Addr} (hn : a ∈ fa) (hN : C.N0 ≤ a) (ht : ∀ b ∈ C.tabs, b < C.N0) (hb : Heap.SameBut a s.heap s'.heap) (ho : s'.os = s.os) (hd : s'.drawn = s.drawn) (hg : s'.gens = s.gens) : Gd C fa g s g s' where
  keep := fun b o e _ h _ => hb.extBut b o (fun q => h (q ▸ hn)) e
  tabs := fun b h ps e => ⟨#[], by rw [hb.extBut b _ (fun q => Nat.lt_irrefl _ (Nat.lt_of_lt_of_le (ht b h) (q ▸ hN))) e]; simp⟩
  size := Nat.le_of_eq hb.1.symm
  ρ := fun _ _ e => e
  ρn := fun _ _ e => .inl e
  P := fun _ e => e
  Pn := fun _ e => .inl e
  os := ho
  drawn := hd
  gens := fun q => hg ▸ q
theorem Rel.own {a : Addr} (r : Rel C g σ fm fa loc s) (ha : a ∈ fa) (hb : Heap.SameBut a s.heap s'.heap) {loc' : Loc}
    (hns : ∃ m, s'.heap.Ns fm.env.locals m) (hcell : ∀ x c, fm.env.cells.lookup x = some c → ∃ v, s'.heap.IsCell c v)
    (hv : ∀ x v, loc' x = some v → ∃ u, Holds fm.env s'.heap x u ∧ VR C g s.heap v u) : Rel C g σ fm fa loc' s' := by
  have hs : s'.heap.objs.size = s.heap.objs.size := hb.1
  have k : ∀ b o, b ≠ a → s.heap.get? b = some o → s'.heap.get? b = some o := fun b o h e => hb.extBut b o h e
  obtain ⟨ha0, ha1, ha2, ha3⟩ := r.fr.fa a ha
  have e : Ge g g s.heap s'.heap := ⟨fun _ _ e => e, fun _ e => e, fun b o hp e => k b o (fun q => ha2 (q ▸ hp)) e⟩
  have hlo : ∀ b, b < C.N0 → b ≠ a := fun b h q => Nat.lt_irrefl _ (Nat.lt_of_lt_of_le h (q ▸ ha0))
  refine ⟨⟨r.gr.lo, fun p hp => ⟨(r.gr.K p hp).1, (r.gr.K p hp).2.1, k _ _ (hlo _ (r.gr.K p hp).1) (r.gr.K p hp).2.2⟩, r.gr.lim.extBut hb.extBut (hlo _ ?_), hs ▸ r.gr.size, fun m o' h => ?_, r.gr.inj, fun m b h => ?_, fun b h => ?_, fun b h => ?_, r.gr.dom⟩,
    ⟨r.fr.fn, r.fr.glob, r.fr.bi, hns, r.fr.L, fun x v h => ?_, fun x c h => ?_, r.fr.own, r.fr.inj, fun b h => ?_, r.fr.has⟩⟩
  · exact Nat.lt_of_lt_of_le (by decide) r.gr.lo
  · obtain ⟨b, hb', hob⟩ := r.gr.heap m o' h
    exact ⟨b, hb', hob.mono e fun _ e' => k _ _ (fun q => ha3 m (q ▸ hb')) e'⟩
  · rw [hs]; exact r.gr.live m b h
  · rw [hs]; exact r.gr.P b h
  · obtain ⟨x, vs, e', t⟩ := r.gr.tabs b h; exact ⟨x, vs, k _ _ (hlo _ x) e', t.mono e⟩
  · obtain ⟨u, hu, hv⟩ := hv x v h
    exact ⟨u, hu, hv.mono e⟩
  · exact ⟨hcell x c h, (r.fr.cells x c h).2⟩
  · rw [hs]; exact r.fr.fa b h
theorem Rel.local {x : Str} {v : MV} {u : Value} (r : Rel C g σ fm fa loc s) (hx : fm.env.kindOf x = some .local) (hv : VR C g s.heap v u)
    {m : Str → Option Value} (hm0 : s.heap.Ns fm.env.locals m) (hm : s'.heap.Ns fm.env.locals (fun y => if y = x then some u else m y)) (hb : Heap.SameBut fm.env.locals s.heap s'.heap) : Rel C g σ fm fa (loc.set x v) s' := by
  refine r.own r.fr.L hb ⟨_, hm⟩ (fun y c h => ?_) fun y w h => ?_
  · obtain ⟨⟨o, ho⟩, q, _⟩ := r.fr.cells y c h; exact ⟨o, ho.sameBut hb q⟩
  · have h' : (if y = x then some v else loc y) = some w := h
    by_cases hy : y = x
    · rw [if_pos hy] at h'; cases h'
      exact ⟨u, .inl ⟨hy ▸ hx, _, hm, by rw [if_pos hy]⟩, hv⟩
    · rw [if_neg hy] at h'
      obtain ⟨z, hz, hzv⟩ := r.fr.var y w h'
      refine ⟨z, ?_, hzv⟩
      rcases hz with ⟨q, m', hm', em⟩ | ⟨q, c, hcc, hce⟩
      · refine .inl ⟨q, _, hm, ?_⟩
        rw [if_neg hy]
        obtain ⟨o, es, ep, ho, hd, _, hf⟩ := hm0
        obtain ⟨o', es', ep', ho', hd', _, hf'⟩ := hm'
        rw [ho] at ho'; cases ho'
        rw [hd] at hd'; cases hd'
        rw [← hf, hf', em]
      · exact .inr ⟨q, c, hcc, hce.sameBut hb (r.fr.cells y c hcc).2.1⟩
theorem Rel.cell {x : Str} {v : MV} {u : Value} {c : Addr} (r : Rel C g σ fm fa loc s) (hx : x ∈ fm.own) (hc : fm.env.cells.lookup x = some c) (hv : VR C g s.heap v u)
    (hm : s'.heap.IsCell c (some u)) (hb : Heap.SameBut c s.heap s'.heap) : Rel C g σ fm fa (loc.set x v) s' := by
  obtain ⟨hk, c', hc', hf⟩ := r.fr.own x hx
  rw [hc] at hc'; cases hc'
  refine r.own hf hb ?_ (fun y d h => ?_) fun y w h => ?_
  · obtain ⟨m, e⟩ := r.fr.ns; exact ⟨m, e.sameBut hb (Ne.symm (r.fr.cells x c hc).2.1)⟩
  · by_cases hd : d = c
    · exact ⟨_, hd ▸ hm⟩
    · obtain ⟨⟨o, ho⟩, _⟩ := r.fr.cells y d h; exact ⟨o, ho.sameBut hb hd⟩
  · have h' : (if y = x then some v else loc y) = some w := h
    by_cases hy : y = x
    · rw [if_pos hy] at h'; cases h'
      exact ⟨u, .inr ⟨.inl (hy ▸ hk), c, hy ▸ hc, hm⟩, hv⟩
    · rw [if_neg hy] at h'
      obtain ⟨z, hz, hzv⟩ := r.fr.var y w h'
      refine ⟨z, ?_, hzv⟩
      rcases hz with ⟨q, m', hm', em⟩ | ⟨q, d, hcc, hce⟩
      · exact .inl ⟨q, _, hm'.sameBut hb (Ne.symm (r.fr.cells x c hc).2.1), em⟩
      · exact .inr ⟨q, d, hcc, hce.sameBut hb fun e => hy (r.fr.inj y x c (e ▸ hcc) hc)⟩
end
end
set_option genInjectivity false
section
noncomputable abbrev NoE : Value → Shared → Prop := fun _ _ => False
section
variable (C : Cx) (A : Around) (fm : Fm)
inductive Post (fa : List Addr) (loc : Loc) (g : Gh) (s : Shared) (Q : MV → Hp → Prop) (v : Value) (s' : Shared) : Prop
  | mk (g' : Gh) (m : MV) (σ' : Hp) (r : Rel C g' σ' fm fa loc s') (hv : VR C g' s'.heap m v) (d : Gd C fa g s g' s') (q : Q m σ')
noncomputable def EvT (t : Sem Value) (loc : Loc) (σ : Hp) (Q : MV → Hp → Prop) : Prop :=
  ∀ fa g s, Rel C g σ fm fa loc s → wpAny (model C.prog C.w) A t (Post C fm fa loc g s Q) NoE s
noncomputable abbrev Ev (e : Expr) (loc : Loc) (σ : Hp) (Q : MV → Hp → Prop) : Prop := EvT C A fm (eval e fm.env) loc σ Q
inductive PostB (fa : List Addr) (loc : Loc) (g : Gh) (s : Shared) (Q : Bool → Hp → Prop) (b : Bool) (s' : Shared) : Prop
  | mk (g' : Gh) (σ' : Hp) (r : Rel C g' σ' fm fa loc s') (d : Gd C fa g s g' s') (q : Q b σ')
noncomputable def TrT (t : Sem Bool) (loc : Loc) (σ : Hp) (Q : Bool → Hp → Prop) : Prop :=
  ∀ fa g s, Rel C g σ fm fa loc s → wpAny (model C.prog C.w) A t (PostB C fm fa loc g s Q) NoE s
noncomputable abbrev Tr (e : Expr) (loc : Loc) (σ : Hp) (Q : Bool → Hp → Prop) : Prop := TrT C A fm (isTrue e fm.env (eval e fm.env)) loc σ Q
inductive Fl where
  | next | brk | cont
  | ret (m : MV)
inductive FlR (C : Cx) (g : Gh) (h : Heap) : Fl → Flow → Prop
  | next : FlR C g h .next .next
  | brk : FlR C g h .brk .brk
  | cont : FlR C g h .cont .cont
  | ret {m : MV} {v : Value} : VR C g h m v → FlR C g h (.ret m) (.ret v)
inductive PostS (fa : List Addr) (g : Gh) (s : Shared) (Q : Fl → Loc → Hp → Prop) (f : Flow) (s' : Shared) : Prop
  | mk (g' : Gh) (fl : Fl) (loc' : Loc) (σ' : Hp) (r : Rel C g' σ' fm fa loc' s') (hf : FlR C g' s'.heap fl f) (d : Gd C fa g s g' s') (q : Q fl loc' σ')
noncomputable def ExT (t : Sem Flow) (loc : Loc) (σ : Hp) (Q : Fl → Loc → Hp → Prop) : Prop :=
  ∀ fa g s, Rel C g σ fm fa loc s → wpAny (model C.prog C.w) A t (PostS C fm fa g s Q) NoE s
noncomputable abbrev Ex (st : Stmt) (loc : Loc) (σ : Hp) (Q : Fl → Loc → Hp → Prop) : Prop := ExT C A fm (exec st fm.env) loc σ Q
noncomputable abbrev Exs (st : List Stmt) (loc : Loc) (σ : Hp) (Q : Fl → Loc → Hp → Prop) : Prop := ExT C A fm (execs st fm.env) loc σ Q
inductive PostU (fa : List Addr) (g : Gh) (s : Shared) (Q : Loc → Hp → Prop) (u : Unit) (s' : Shared) : Prop
  | mk (g' : Gh) (loc' : Loc) (σ' : Hp) (r : Rel C g' σ' fm fa loc' s') (d : Gd C fa g s g' s') (q : Q loc' σ')
noncomputable def StT (t : Value → Sem Unit) (m : MV) (loc : Loc) (σ : Hp) (Q : Loc → Hp → Prop) : Prop :=
  ∀ fa g s v, Rel C g σ fm fa loc s → VR C g s.heap m v → wpAny (model C.prog C.w) A (t v) (PostU C fm fa g s Q) NoE s
inductive PostF (g : Gh) (s : Shared) (Q : MV → Hp → Prop) (r : Except Value Flow) (s' : Shared) : Prop
  | mk (v : Value) (g' : Gh) (m : MV) (σ' : Hp) (e : r = .ok (.ret v)) (r' : GR C g' σ' s') (hv : VR C g' s'.heap m v) (d : Gd C [] g s g' s') (q : Q m σ')
noncomputable def Fn (f : Value) (ms : List MV) (σ : Hp) (Q : MV → Hp → Prop) : Prop :=
  ∀ g s vs, GR C g σ s → VRs C g s.heap ms vs → codeAny (model C.prog C.w) A (.call f ⟨vs, []⟩) (PostF C g s Q) s
end
section
variable {C : Cx} {A : Around} {fm : Fm} {fa : List Addr} {loc : Loc} {σ : Hp} {g : Gh} {s : Shared} {Q Q' : MV → Hp → Prop}
theorem Post.trans {g₁ : Gh} {s₁ s' : Shared} {v : Value} (d : Gd C fa g s g₁ s₁) : Post C fm fa loc g₁ s₁ Q v s' → Post C fm fa loc g s Q v s' :=
  fun x => Post.casesOn x fun g' m σ' r hv d' q => ⟨g', m, σ', r, hv, d.trans d', q⟩
theorem PostB.trans {g₁ : Gh} {s₁ s' : Shared} {b : Bool} {Q : Bool → Hp → Prop} (d : Gd C fa g s g₁ s₁) : PostB C fm fa loc g₁ s₁ Q b s' → PostB C fm fa loc g s Q b s' :=
  fun x => PostB.casesOn x fun g' σ' r d' q => ⟨g', σ', r, d.trans d', q⟩
theorem PostS.trans {g₁ : Gh} {s₁ s' : Shared} {f : Flow} {Q : Fl → Loc → Hp → Prop} (d : Gd C fa g s g₁ s₁) : PostS C fm fa g₁ s₁ Q f s' → PostS C fm fa g s Q f s' :=
  fun x => PostS.casesOn x fun g' fl l' σ' r hv d' q => ⟨g', fl, l', σ', r, hv, d.trans d', q⟩
theorem PostU.trans {g₁ : Gh} {s₁ s' : Shared} {u : Unit} {Q : Loc → Hp → Prop} (d : Gd C fa g s g₁ s₁) : PostU C fm fa g₁ s₁ Q u s' → PostU C fm fa g s Q u s' :=
  fun x => PostU.casesOn x fun g' l' σ' r d' q => ⟨g', l', σ', r, d.trans d', q⟩
theorem EvT.mono {t : Sem Value} (h : EvT C A fm t loc σ Q) (k : ∀ m σ', Q m σ' → Q' m σ') : EvT C A fm t loc σ Q' :=
  fun fa g s r => wpAny_mono (h fa g s r) (fun _ _ x => Post.casesOn x fun g' m σ' r' hv d q => ⟨g', m, σ', r', hv, d, k _ _ q⟩) fun _ _ e => e
theorem ExT.mono {t : Sem Flow} {Q Q' : Fl → Loc → Hp → Prop} (h : ExT C A fm t loc σ Q) (k : ∀ f l σ', Q f l σ' → Q' f l σ') : ExT C A fm t loc σ Q' :=
  fun fa g s r => wpAny_mono (h fa g s r) (fun _ _ x => PostS.casesOn x fun g' m l σ' r' hv d q => ⟨g', m, l, σ', r', hv, d, k _ _ _ q⟩) fun _ _ e => e
theorem TrT.mono {t : Sem Bool} {Q Q' : Bool → Hp → Prop} (h : TrT C A fm t loc σ Q) (k : ∀ m σ', Q m σ' → Q' m σ') : TrT C A fm t loc σ Q' :=
  fun fa g s r => wpAny_mono (h fa g s r) (fun _ _ x => PostB.casesOn x fun g' σ' r' d q => ⟨g', σ', r', d, k _ _ q⟩) fun _ _ e => e
theorem Post.now {m : MV} {v : Value} (r : Rel C g σ fm fa loc s) (hv : VR C g s.heap m v) (q : Q m σ) : Post C fm fa loc g s Q v s := ⟨g, m, σ, r, hv, .refl .., q⟩
theorem Post.tok {m : MV} {v : Value} {t : Nat} (r : Rel C g σ fm fa loc s) (hv : VR C g s.heap m v) (q : Q m σ) : Post C fm fa loc g s Q v { s with toks := t } :=
  ⟨g, m, σ, r.toks t, hv, .toks t, q⟩
theorem ev_int {i : Int} {k : Nat} {pos : Pos} (q : Q (.int i) σ) : Ev C A fm (.Constant (.int i) k pos) loc σ Q := fun fa g s r => wpAny_Constant_int (.tok r (.int ..) q)
theorem ev_str {x : Str} {k : Nat} {pos : Pos} (q : Q (.str x) σ) : Ev C A fm (.Constant (.str x) k pos) loc σ Q := fun fa g s r => wpAny_Constant_str (.tok r (.str ..) q)
theorem ev_bool {b : Bool} {k : Nat} {pos : Pos} (q : Q (.bool b) σ) : Ev C A fm (.Constant (.bool b) k pos) loc σ Q := fun fa g s r => wpAny_Constant_bool (.now r (.bool ..) q)
theorem ev_none {k : Nat} {pos : Pos} (q : Q .none σ) : Ev C A fm (.Constant .none k pos) loc σ Q := fun fa g s r => wpAny_Constant_none (.now r .none q)
theorem Holds.load {x : Str} {u : Value} {E : Value → Shared → Prop} {R : Value → Shared → Prop} (hk : fm.env.scope.kind = .function) (h : Holds fm.env s.heap x u) (q : R u s)
    (hn : (x == ("__classdict__" : Str)) = false := by decide) : wpAny (model C.prog C.w) A (loadName fm.env x) R E s := by
  rcases h with ⟨a, m, hm, e⟩ | ⟨a | a, c, hc, e⟩
  · exact wpAny_loadName_local hk a hm e q
  · exact wpAny_loadName_cell hk a hc e q
  · exact wpAny_loadName_free hk a hc e q hn
theorem ev_name {x : Str} {pos : Pos} {m : MV} (hx : loc x = some m) (q : Q m σ) (hd : (x == ("__debug__" : Str)) = false := by decide) (hn : (x == ("__classdict__" : Str)) = false := by decide) :
    Ev C A fm (.Name x pos) loc σ Q := fun fa g s r => by
  obtain ⟨u, hu, hv⟩ := r.fr.var x m hx
  exact wpAny_Name (hu.load r.fr.fn (.now r hv q) hn) hd
theorem mem_lookup {α : Type} {l : List (Addr × α)} {a : Addr} {o : α} (e : l.lookup a = some o) : (a, o) ∈ l := by
  induction l with
  | nil => exact nomatch e
  | cons p l ih =>
    rw [List.lookup_cons] at e
    cases hb : a == p.1 with
    | true => rw [hb] at e; rw [beq_iff_eq.mp hb, ← Option.some.inj e]; exact .head _
    | false => rw [hb] at e; exact .tail _ (ih e)
theorem GR.KIn (r : GR C g σ s) : C.K.In s.heap := fun a o e => (r.K _ (mem_lookup e)).2.2
theorem ev_glob {x : Str} {pos : Pos} {v : Value} (hx : fm.env.kindOf x = some .globalImplicit) (e : nsIn C.K mainGlobals x = some (some v)) (q : Q (.val v) σ) (hd : (x == ("__debug__" : Str)) = false := by decide) :
    Ev C A fm (.Name x pos) loc σ Q := fun fa g s r => by
  refine Calls.Name_function_global r.fr.fn hx ?_ hd
  unfold loadGlobal
  rw [r.fr.glob]
  refine wpAny_bind (looks_nsIn r.gr.KIn e _ _ _ _ (fun _ _ e => e) ?_)
  exact wpAny_pure (.now r (.val v) q)
theorem ev_bi {x : Str} {pos : Pos} {v : Value} (hx : fm.env.kindOf x = some .globalImplicit) (e : nsIn C.K mainGlobals x = some none) (e' : nsIn C.K builtinsNs x = some (some v)) (q : Q (.val v) σ) (hd : (x == ("__debug__" : Str)) = false := by decide) :
    Ev C A fm (.Name x pos) loc σ Q := fun fa g s r => by
  refine Calls.Name_function_global r.fr.fn hx ?_ hd
  unfold loadGlobal
  rw [r.fr.glob]
  refine wpAny_bind (looks_nsIn r.gr.KIn e _ _ _ _ (fun _ _ e => e) ?_)
  rw [r.fr.bi]
  refine wpAny_bind (looks_nsIn r.gr.KIn e' _ _ _ _ (fun _ _ e => e) ?_)
  exact wpAny_pure (.now r (.val v) q)
noncomputable def Op1 (C : Cx) (A : Around) (fm : Fm) (f : Value → Sem Value) (a : MV) (loc : Loc) (σ : Hp) (Q : MV → Hp → Prop) : Prop :=
  ∀ fa g s x, Rel C g σ fm fa loc s → VR C g s.heap a x → wpAny (model C.prog C.w) A (f x) (Post C fm fa loc g s Q) NoE s
noncomputable def Op2 (C : Cx) (A : Around) (fm : Fm) (f : Value → Value → Sem Value) (a b : MV) (loc : Loc) (σ : Hp) (Q : MV → Hp → Prop) : Prop :=
  ∀ fa g s x y, Rel C g σ fm fa loc s → VR C g s.heap a x → VR C g s.heap b y → wpAny (model C.prog C.w) A (f x y) (Post C fm fa loc g s Q) NoE s
theorem two {f : Value → Value → Sem Value} {t u : Sem Value} (h : EvT C A fm t loc σ fun a σ₁ => EvT C A fm u loc σ₁ fun b σ₂ => Op2 C A fm f a b loc σ₂ Q) (fa : List Addr) (g : Gh) (s : Shared) (r : Rel C g σ fm fa loc s) :
    wpAny (model C.prog C.w) A t (fun x s₁ => wpAny (model C.prog C.w) A u (fun y s₂ => wpAny (model C.prog C.w) A (f x y) (Post C fm fa loc g s Q) NoE s₂) NoE s₁) NoE s := by
  refine wpAny_mono (h fa g s r) ?_ fun _ _ e => e
  rintro x s₁ ⟨g₁, a, σ₁, r₁, hx, d₁, h₁⟩
  refine wpAny_mono (h₁ fa g₁ s₁ r₁) ?_ fun _ _ e => e
  rintro y s₂ ⟨g₂, b, σ₂, r₂, hy, d₂, h₂⟩
  exact wpAny_mono (h₂ fa g₂ s₂ x y r₂ (hx.mono (r₁.ge d₂)) hy) (fun _ _ p => p.trans (d₁.trans d₂)) fun _ _ e => e
theorem one {f : Value → Sem Value} {t : Sem Value} (h : EvT C A fm t loc σ fun a σ₁ => Op1 C A fm f a loc σ₁ Q) (fa : List Addr) (g : Gh) (s : Shared) (r : Rel C g σ fm fa loc s) :
    wpAny (model C.prog C.w) A t (fun x s₁ => wpAny (model C.prog C.w) A (f x) (Post C fm fa loc g s Q) NoE s₁) NoE s := by
  refine wpAny_mono (h fa g s r) ?_ fun _ _ e => e
  rintro x s₁ ⟨g₁, a, σ₁, r₁, hx, d₁, h₁⟩
  exact wpAny_mono (h₁ fa g₁ s₁ x r₁ hx) (fun _ _ p => p.trans d₁) fun _ _ e => e
theorem ev_binop {l r : Expr} {op : Operator} {pos : Pos} (h : Ev C A fm l loc σ fun a σ₁ => Ev C A fm r loc σ₁ fun b σ₂ => Op2 C A fm (binaryOp op) a b loc σ₂ Q) : Ev C A fm (.BinOp l op r pos) loc σ Q :=
  fun fa g s r => wpAny_BinOp (two h fa g s r)
theorem ev_unop {x : Expr} {op : UnaryOp} {pos : Pos} (h : Ev C A fm x loc σ fun a σ₁ => Op1 C A fm (unaryOp op) a loc σ₁ Q) : Ev C A fm (.UnaryOp op x pos) loc σ Q :=
  fun fa g s r => wpAny_UnaryOp (one h fa g s r)
theorem ev_cmp {l r : Expr} {op : CmpOp} {pos : Pos} (h : Ev C A fm l loc σ fun a σ₁ => Ev C A fm r loc σ₁ fun b σ₂ => Op2 C A fm (compareOp op) a b loc σ₂ Q) (hm : behindInMarks op r = false := by with_unfolding_all rfl) : Ev C A fm (.Compare l [op] [r] pos) loc σ Q :=
  fun fa g s r => wpAny_Compare1 (two h fa g s r) hm
section
variable {i j : Int}
theorem op_int {f : Value → Value → Sem Value} (h : ∀ fa g s t u, Rel C g σ fm fa loc s → wpAny (model C.prog C.w) A (f (.int i t) (.int j u)) (Post C fm fa loc g s Q) NoE s) : Op2 C A fm f (.int i) (.int j) loc σ Q := fun fa g s x y r hx hy => by
  obtain ⟨t, rfl⟩ := hx.inv
  obtain ⟨u, rfl⟩ := hy.inv
  exact h fa g s t u r
theorem op_add (q : Q (.int (i + j)) σ) : Op2 C A fm (binaryOp .Add) (.int i) (.int j) loc σ Q := op_int fun fa g s _ _ r => add_int (.tok r (.int ..) q)
theorem op_sub (q : Q (.int (i - j)) σ) : Op2 C A fm (binaryOp .Sub) (.int i) (.int j) loc σ Q := op_int fun fa g s _ _ r => sub_int (.tok r (.int ..) q)
theorem op_mul (q : Q (.int (i * j)) σ) (hm : IntMulOk i j := by mul_fits) : Op2 C A fm (binaryOp .Mult) (.int i) (.int j) loc σ Q := op_int fun fa g s _ _ r => mul_int (.tok r (.int ..) q) hm
theorem op_mod (hj : 0 < j) (q : Q (.int (i % j)) σ) : Op2 C A fm (binaryOp .Mod) (.int i) (.int j) loc σ Q := op_int fun fa g s _ _ r => by
  refine mod_int' (Int.ne_of_gt hj) ?_
  rw [Int.fmod_eq_emod_of_nonneg _ (Int.le_of_lt hj)]
  exact .tok r (.int ..) q
end
end
end
section
section
variable {C : Cx} {A : Around} {fm : Fm} {fa : List Addr} {loc : Loc} {σ : Hp} {g : Gh} {s : Shared} {Q Q' : MV → Hp → Prop} {QB : Bool → Hp → Prop} {QS : Fl → Loc → Hp → Prop}
noncomputable def Tru (C : Cx) (A : Around) (fm : Fm) (m : MV) (loc : Loc) (σ : Hp) (Q : Bool → Hp → Prop) : Prop :=
  ∀ fa g s x, Rel C g σ fm fa loc s → VR C g s.heap m x → wpAny (model C.prog C.w) A (truthy x) (PostB C fm fa loc g s Q) NoE s
theorem PostB.now {b : Bool} (r : Rel C g σ fm fa loc s) (q : QB b σ) : PostB C fm fa loc g s QB b s := ⟨g, σ, r, .refl .., q⟩
theorem tru_bool {b : Bool} (q : QB b σ) : Tru C A fm (.bool b) loc σ QB := fun fa g s x r hx => by obtain rfl := hx.inv; exact wpAny_truthy_bool (.now r q)
theorem tru_int {i : Int} (q : QB (i != 0) σ) : Tru C A fm (.int i) loc σ QB := fun fa g s x r hx => by obtain ⟨_, rfl⟩ := hx.inv; exact truthy_int (.now r q)
theorem tr_cmp {l r : Expr} {op : CmpOp} {pos : Pos} (h : Ev C A fm l loc σ fun a σ₁ => Ev C A fm r loc σ₁ fun b σ₂ => Op2 C A fm (compareOp op) a b loc σ₂ fun m σ₃ => ∃ b, m = .bool b ∧ QB b σ₃)
    (hm : behindInMarks op r = false := by with_unfolding_all rfl) : Tr C A fm (.Compare l [op] [r] pos) loc σ QB := fun fa g s rr => by
  refine wpAny_isTrue_Compare1 (wpAny_mono (two h fa g s rr) (fun x s₁ h₁ => wpAny_mono h₁ (fun y s₂ h₂ => wpAny_mono h₂ ?_ fun _ _ e => e) fun _ _ e => e) fun _ _ e => e) hm
  rintro c s₃ ⟨g', m, σ', r', hv, d, b, rfl, q⟩
  obtain rfl := hv.inv
  exact wpAny_truthy_bool ⟨g', σ', r', d, q⟩
theorem tr_val {e : Expr} (h : Ev C A fm e loc σ fun m σ₁ => Tru C A fm m loc σ₁ QB) (he : isTrue e fm.env (eval e fm.env) = (do let v ← eval e fm.env; standAt e.pos; holding [v] (truthy v)) := by rfl) : Tr C A fm e loc σ QB := fun fa g s r => by
  refine wpAny_isTrue_value (wpAny_mono (h fa g s r) ?_ fun _ _ e => e) he
  rintro x s₁ ⟨g', m, σ', r', hv, d, q⟩
  exact wpAny_mono (q fa g' s₁ x r' hv) (fun _ _ p => p.trans d) fun _ _ e => e
theorem tr_not {x : Expr} {pos : Pos} (h : Tr C A fm x loc σ fun b σ₁ => QB (!b) σ₁) : Tr C A fm (.UnaryOp .Not x pos) loc σ QB := fun fa g s r =>
  wpAny_isTrue_Not (wpAny_mono (h fa g s r) (fun _ _ ⟨g', σ', r', d, q⟩ => ⟨g', σ', r', d, q⟩) fun _ _ e => e)
theorem tr_and {es : List Expr} {pos : Pos} (h : TrT C A fm (allTrue .And es fm.env) loc σ QB) : Tr C A fm (.BoolOp .And es pos) loc σ QB := fun fa g s r => wpAny_isTrue_BoolOp (h fa g s r)
theorem tr_or {es : List Expr} {pos : Pos} (h : TrT C A fm (allTrue .Or es fm.env) loc σ QB) : Tr C A fm (.BoolOp .Or es pos) loc σ QB := fun fa g s r => wpAny_isTrue_BoolOp (h fa g s r)
theorem and_nil (q : QB true σ) : TrT C A fm (allTrue .And [] fm.env) loc σ QB := fun fa g s r => wpAny_allTrue_And_nil (.now r q)
theorem or_nil (q : QB false σ) : TrT C A fm (allTrue .Or [] fm.env) loc σ QB := fun fa g s r => wpAny_allTrue_Or_nil (.now r q)
theorem and_cons {x : Expr} {es : List Expr} (h : Tr C A fm x loc σ fun b σ₁ => if b then TrT C A fm (allTrue .And es fm.env) loc σ₁ QB else QB false σ₁) : TrT C A fm (allTrue .And (x :: es) fm.env) loc σ QB := fun fa g s r => by
  refine wpAny_allTrue_And_cons (wpAny_mono (h fa g s r) ?_ fun _ _ e => e)
  rintro b s₁ ⟨g', σ', r', d, q⟩
  cases b
  · exact ⟨g', σ', r', d, q⟩
  · exact wpAny_mono (q fa g' s₁ r') (fun _ _ p => p.trans d) fun _ _ e => e
theorem or_cons {x : Expr} {es : List Expr} (h : Tr C A fm x loc σ fun b σ₁ => if b then QB true σ₁ else TrT C A fm (allTrue .Or es fm.env) loc σ₁ QB) : TrT C A fm (allTrue .Or (x :: es) fm.env) loc σ QB := fun fa g s r => by
  refine wpAny_allTrue_Or_cons (wpAny_mono (h fa g s r) ?_ fun _ _ e => e)
  rintro b s₁ ⟨g', σ', r', d, q⟩
  cases b
  · exact wpAny_mono (q fa g' s₁ r') (fun _ _ p => p.trans d) fun _ _ e => e
  · exact ⟨g', σ', r', d, q⟩
theorem ev_if {test body orelse : Expr} {pos : Pos} (h : Tr C A fm test loc σ fun b σ₁ => if b then Ev C A fm body loc σ₁ Q else Ev C A fm orelse loc σ₁ Q) : Ev C A fm (.IfExp test body orelse pos) loc σ Q := fun fa g s r => by
  refine wpAny_IfExp (wpAny_mono (h fa g s r) ?_ fun _ _ e => e)
  rintro b s₁ ⟨g', σ', r', d, q⟩
  cases b
  · exact wpAny_mono (q fa g' s₁ r') (fun _ _ p => p.trans d) fun _ _ e => e
  · exact wpAny_mono (q fa g' s₁ r') (fun _ _ p => p.trans d) fun _ _ e => e
theorem PostS.now {fl : Fl} {f : Flow} (r : Rel C g σ fm fa loc s) (hf : FlR C g s.heap fl f) (q : QS fl loc σ) : PostS C fm fa g s QS f s := ⟨g, fl, loc, σ, r, hf, .refl .., q⟩
theorem ex_brk {pos : Pos} (q : QS .brk loc σ) : Ex C A fm (.Break pos) loc σ QS := fun fa g s r => wpAny_Break (.now r .brk q)
theorem ex_cont {pos : Pos} (q : QS .cont loc σ) : Ex C A fm (.Continue pos) loc σ QS := fun fa g s r => wpAny_Continue (.now r .cont q)
theorem exs_nil (q : QS .next loc σ) : Exs C A fm [] loc σ QS := fun fa g s r => wpAny_execs_nil (.now r .next q)
noncomputable def Via (QS K : Fl → Loc → Hp → Prop) : Prop := ∀ f l σ, QS f l σ → K f l σ
theorem Via.id : Via QS QS := fun _ _ _ h => h
theorem via_go {K : Fl → Loc → Hp → Prop} {f : Fl} (k : Via QS K) (h : QS f loc σ) : K f loc σ := k _ _ _ h
noncomputable def Then (C : Cx) (A : Around) (fm : Fm) (rest : List Stmt) (QS : Fl → Loc → Hp → Prop) : Fl → Loc → Hp → Prop
  | .next, l, σ => Exs C A fm rest l σ QS
  | f, l, σ => QS f l σ
theorem exs_cons {st : Stmt} {rest : List Stmt} (h : Ex C A fm st loc σ (Then C A fm rest QS)) : Exs C A fm (st :: rest) loc σ QS := fun fa g s r => by
  refine wpAny_execs_cons (wpAny_mono (h fa g s r) ?_ fun _ _ e => e)
  rintro f s₁ ⟨g', fl, l', σ', r', hf, d, q⟩
  cases hf with
  | next => exact wpAny_mono (q fa g' s₁ r') (fun _ _ p => p.trans d) fun _ _ e => e
  | brk => exact ⟨g', .brk, l', σ', r', .brk, d, q⟩
  | cont => exact ⟨g', .cont, l', σ', r', .cont, d, q⟩
  | ret hv => exact ⟨g', _, l', σ', r', .ret hv, d, q⟩
theorem ex_ret {e : Expr} {pos : Pos} (h : Ev C A fm e loc σ fun m σ₁ => QS (.ret m) loc σ₁) : Ex C A fm (.Return (some e) pos) loc σ QS := fun fa g s r =>
  wpAny_Return_some (wpAny_mono (h fa g s r) (fun _ _ ⟨g', m, σ', r', hv, d, q⟩ => ⟨g', .ret m, loc, σ', r', .ret hv, d, q⟩) fun _ _ e => e)
theorem ex_if {test : Expr} {body orelse : List Stmt} {pos : Pos} (h : Tr C A fm test loc σ fun b σ₁ => if b then Exs C A fm body loc σ₁ QS else Exs C A fm orelse loc σ₁ QS) : Ex C A fm (.If test body orelse pos) loc σ QS := fun fa g s r => by
  refine wpAny_If (wpAny_mono (h fa g s r) ?_ fun _ _ e => e)
  rintro b s₁ ⟨g', σ', r', d, q⟩
  cases b
  · exact wpAny_mono (q fa g' s₁ r') (fun _ _ p => p.trans d) fun _ _ e => e
  · exact wpAny_mono (q fa g' s₁ r') (fun _ _ p => p.trans d) fun _ _ e => e
theorem ex_while {test : Expr} {body orelse : List Stmt} {pos : Pos} (I : Nat → Loc → Hp → Prop)
    (turn : ∀ n loc σ, I n loc σ → Tr C A fm test loc σ fun b σ₁ => if b then Exs C A fm body loc σ₁ fun f l σ₂ => (match f with
        | .next | .cont => ∃ m, m < n ∧ I m l σ₂
        | .brk => QS .next l σ₂
        | .ret v => QS (.ret v) l σ₂) else Exs C A fm orelse loc σ₁ QS)
    (n : Nat) (h : I n loc σ) : Ex C A fm (.While test body orelse pos) loc σ QS := fun fa g s r => by
  refine wpAny_While (codeAny_whileLoop (fun n s' => ∃ g' l' σ', Rel C g' σ' fm fa l' s' ∧ Gd C fa g s g' s' ∧ I n l' σ') (fun n s' hI => ?_) n ⟨g, loc, σ, r, .refl .., h⟩)
  refine via_p fun P kP => ?_
  obtain ⟨g', l', σ', r', d, hI⟩ := hI
  refine kP ?_
  clear kP P
  refine wpAny_mono (turn n l' σ' hI fa g' s' r') ?_ fun _ _ e => e.elim
  rintro b s₁ hX2
  refine via_p fun P kP => ?_
  obtain ⟨g₁, σ₁, r₁, d₁, q⟩ := hX2
  refine kP ?_
  clear kP P
  cases b
  · exact wpAny_mono (q fa g₁ s₁ r₁) (fun f s₂ p => p.trans (d.trans d₁)) fun _ _ e => e.elim
  · refine wpAny_mono (q fa g₁ s₁ r₁) ?_ fun _ _ e => e.elim
    rintro f s₂ hX2
    refine via_p fun P kP => ?_
    obtain ⟨g₂, fl, l₂, σ₂, r₂, hf, d₂, q₂⟩ := hX2
    refine kP ?_
    clear kP P
    have d' := d.trans (d₁.trans d₂)
    cases hf with
    | next => obtain ⟨m, hm, hi⟩ := q₂; exact ⟨m, hm, g₂, l₂, σ₂, r₂, d', hi⟩
    | cont => obtain ⟨m, hm, hi⟩ := q₂; exact ⟨m, hm, g₂, l₂, σ₂, r₂, d', hi⟩
    | brk => exact ⟨g₂, .next, l₂, σ₂, r₂, .next, d', q₂⟩
    | ret hv => exact ⟨g₂, _, l₂, σ₂, r₂, .ret hv, d', q₂⟩
theorem store_name {x : Str} {m : MV} {v : Value} {R : Unit → Shared → Prop} (r : Rel C g σ fm fa loc s) (hv : VR C g s.heap m v) (hx : fm.env.kindOf x = some .local ∨ x ∈ fm.own)
    (h : ∀ s', Rel C g σ fm fa (loc.set x m) s' → Gd C fa g s g s' → R () s') : wpAny (model C.prog C.w) A (storeName fm.env x v) R NoE s := by
  have ht : ∀ b ∈ C.tabs, b < C.N0 := fun b hb => (r.gr.tabs b hb).1
  rcases hx with hx | hx
  · obtain ⟨mm, hm⟩ := r.fr.ns
    refine wpAny_storeName_local hx hm (fun h' hn hb => h _ ?_ ?_) (by rw [r.fr.fn]; rfl)
    · exact r.local hx hv hm hn hb
    · exact .own r.fr.L (r.fr.fa _ r.fr.L).1 ht hb rfl rfl rfl
  · obtain ⟨hk, c, hc, hf⟩ := r.fr.own x hx
    obtain ⟨⟨v0, hv0⟩, _⟩ := r.fr.cells x c hc
    refine wpAny_storeName_cell r.fr.fn hk hc hv0 fun h' hm hb => h _ ?_ ?_
    · exact r.cell hx hc hv hm hb
    · exact .own hf (r.fr.fa c hf).1 ht hb rfl rfl rfl
noncomputable def canSt (fm : Fm) (x : Str) : Prop := fm.env.kindOf x = some .local ∨ x ∈ fm.own
theorem ex_assign {x : Str} {p pos : Pos} {e : Expr} (h : Ev C A fm e loc σ fun m σ₁ => QS .next (loc.set x m) σ₁) (hx : canSt fm x) (hs : swapsWith e (some (.Name x p)) pos.line fm.env = pure false := by rfl) :
    Ex C A fm (.Assign [.Name x p] e pos) loc σ QS := fun fa g s r => by
  refine wpAny_Assign_Name (wpAny_mono (h fa g s r) ?_ fun _ _ e => e) hs
  rintro v s₁ ⟨g', m, σ', r', hv, d, q⟩
  exact store_name r' hv hx fun s₂ r₂ d₂ => ⟨g', .next, _, σ', r₂, .next, d.trans d₂, q⟩
theorem ex_aug {x : Str} {p pos : Pos} {e : Expr} {op : Operator} {m : MV} (hm : loc x = some m) (h : Ev C A fm e loc σ fun n σ₁ => Op2 C A fm (inplaceOp op) m n loc σ₁ fun k σ₂ => QS .next (loc.set x k) σ₂) (hx : canSt fm x)
    (hn : (x == ("__classdict__" : Str)) = false := by decide) : Ex C A fm (.AugAssign (.Name x p) op e pos) loc σ QS := fun fa g s r => by
  refine wpAny_AugAssign_Name ?_
  obtain ⟨u, hu, hv⟩ := r.fr.var x m hm
  refine hu.load r.fr.fn ?_ hn
  refine wpAny_mono (h fa g s r) ?_ fun _ _ e => e
  rintro v s₁ ⟨g', n, σ', r', hv', d, q⟩
  refine wpAny_mono (q fa g' s₁ u v r' (hv.mono (r.ge d)) hv') ?_ fun _ _ e => e
  rintro w s₂ ⟨g₂, k, σ₂, r₂, hw, d₂, q₂⟩
  exact store_name r₂ hw hx fun s₃ r₃ d₃ => ⟨g₂, .next, _, σ₂, r₃, .next, (d.trans d₂).trans d₃, q₂⟩
theorem ex_expr {e : Expr} {pos : Pos} (h : Ev C A fm e loc σ fun m σ₁ => QS .next loc σ₁) (hi : interactive fm.env = false) (hs : swapsWith e none pos.line fm.env = pure false := by rfl) :
    Ex C A fm (.Expr e pos) loc σ QS := fun fa g s r =>
  wpAny_Expr_any (wpAny_mono (h fa g s r) (fun _ _ ⟨g', m, σ', r', hv, d, q⟩ => ⟨g', .next, loc, σ', r', .next, d, q⟩) fun _ _ e => e) hi hs
end
end
section
section
variable {C : Cx} {A : Around} {fm : Fm} {fa : List Addr} {loc : Loc} {σ : Hp} {g : Gh} {s : Shared} {Q Q' : MV → Hp → Prop} {QB : Bool → Hp → Prop} {QS : Fl → Loc → Hp → Prop}
inductive PostL (C : Cx) (fm : Fm) (fa : List Addr) (loc : Loc) (g : Gh) (s : Shared) (Q : List MV → Hp → Prop) (vs : List Value) (s' : Shared) : Prop
  | mk (g' : Gh) (ms : List MV) (σ' : Hp) (r : Rel C g' σ' fm fa loc s') (hv : VRs C g' s'.heap ms vs) (d : Gd C fa g s g' s') (q : Q ms σ')
noncomputable def EvL (C : Cx) (A : Around) (fm : Fm) : List Expr → Loc → Hp → (List MV → Hp → Prop) → Prop
  | [], _, σ, Q => Q [] σ
  | e :: es, loc, σ, Q => Ev C A fm e loc σ fun m σ₁ => EvL C A fm es loc σ₁ fun ms σ₂ => Q (m :: ms) σ₂
theorem starEach_plain {env : Env} {es : List Expr} (h : (starEach es env).all (fun p => !p.1) = true) : starEach es env = es.map fun e => (false, eval e env) := by
  induction es with
  | nil => rfl
  | cons e es ih =>
    cases e
    case Starred => exact nomatch h
    all_goals exact congrArg ((false, _) :: ·) (ih h)
theorem EvL.run {pos : Pos} {es : List Expr} : ∀ {σ : Hp} {Q : List MV → Hp → Prop}, EvL C A fm es loc σ Q → ∀ fa g s, Rel C g σ fm fa loc s →
    wpAny (model C.prog C.w) A (spliced (backTo pos (es.map fun e => (false, eval e fm.env)))) (PostL C fm fa loc g s Q) NoE s := by
  induction es with
  | nil => exact fun h fa g s r => Calls.spliced_nil ⟨g, [], _, r, .nil, .refl .., h⟩
  | cons e es ih =>
    intro σ Q h fa g s r
    refine Calls.spliced_cons (wpAny_mono (h fa g s r) ?_ fun _ _ e => e)
    rintro v s₁ ⟨g₁, m, σ₁, r₁, hv, d₁, h₁⟩
    refine wpAny_mono (ih h₁ fa g₁ s₁ r₁) ?_ fun _ _ e => e
    rintro vs s₂ ⟨g₂, ms, σ₂, r₂, hvs, d₂, q⟩
    exact ⟨g₂, m :: ms, σ₂, r₂, .cons (hv.mono (r₁.ge d₂)) hvs, d₁.trans d₂, q⟩
theorem EvL.runS {pos : Pos} {es : List Expr} {Q : List MV → Hp → Prop} (h : EvL C A fm es loc σ Q) (hs : (starEach es fm.env).all (fun p => !p.1) = true) (r : Rel C g σ fm fa loc s) :
    wpAny (model C.prog C.w) A (spliced (backTo pos (starEach es fm.env))) (PostL C fm fa loc g s Q) NoE s := starEach_plain hs ▸ h.run fa g s r
noncomputable def Cal (C : Cx) (A : Around) (fm : Fm) (f : Value) (ms : List MV) (loc : Loc) (σ : Hp) (Q : MV → Hp → Prop) : Prop :=
  ∀ fa g s vs, Rel C g σ fm fa loc s → VRs C g s.heap ms vs → wpAny (model C.prog C.w) A (call f vs []) (Post C fm fa loc g s Q) NoE s
theorem Rel.call {g' : Gh} {σ' : Hp} {s' : Shared} (r : Rel C g σ fm fa loc s) (r' : GR C g' σ' s') (d : Gd C [] g s g' s') : Rel C g' σ' fm fa loc s' := by
  have e : Ge g g' s.heap s'.heap := r.gr.ge d
  have hN : ∀ a, C.N0 ≤ a → a ∉ C.tabs := fun a h ht => Nat.lt_irrefl _ (Nat.lt_of_lt_of_le (r.gr.tabs a ht).1 h)
  have kf : ∀ a ∈ fa, ∀ o, s.heap.get? a = some o → s'.heap.get? a = some o := fun a ha o e => d.keep a o e (r.fr.fa a ha).2.2.2 (fun h => nomatch h) (hN a (r.fr.fa a ha).1)
  have kc : ∀ x c, fm.env.cells.lookup x = some c → ∀ o, s.heap.get? c = some o → s'.heap.get? c = some o := fun x c hc o e =>
    d.keep c o e (r.fr.cells x c hc).2.2.2.1 (fun h => nomatch h) (hN c (r.fr.cells x c hc).2.2.1)
  refine ⟨r', r.fr.fn, r.fr.glob, r.fr.bi, ?_, r.fr.L, fun x v h => ?_, fun x c h => ?_, r.fr.own, r.fr.inj, fun a h => ?_, r.fr.has⟩
  · obtain ⟨m, o, es, ep, ho, q⟩ := r.fr.ns; exact ⟨m, o, es, ep, kf _ r.fr.L _ ho, q⟩
  · obtain ⟨u, hu, hv⟩ := r.fr.var x v h
    refine ⟨u, ?_, hv.mono e⟩
    rcases hu with ⟨q, m, ⟨o, es, ep, ho, q'⟩, em⟩ | ⟨q, c, hc, o, ho, q'⟩
    · exact .inl ⟨q, m, ⟨o, es, ep, kf _ r.fr.L _ ho, q'⟩, em⟩
    · exact .inr ⟨q, c, hc, o, kc x c hc _ ho, q'⟩
  · refine via_p fun P kP => ?_
    obtain ⟨⟨v, o, ho, q'⟩, c1, c2, c3, c5⟩ := r.fr.cells x c h
    refine kP ?_
    clear kP P
    have hl := Heap.lt_size ho
    exact ⟨⟨v, o, kc x c h _ ho, q'⟩, c1, c2, fun n hn => (d.ρn n c hn).elim (c3 n) fun w => Nat.lt_irrefl _ (Nat.lt_of_lt_of_le hl w),
      c5⟩
  · obtain ⟨x, y, z, w⟩ := r.fr.fa a h
    exact ⟨x, Nat.lt_of_lt_of_le y d.size, fun hp => (d.Pn a hp).elim z fun q => Nat.lt_irrefl _ (Nat.lt_of_lt_of_le y q), fun n hn => (d.ρn n a hn).elim (w n) fun q => Nat.lt_irrefl _ (Nat.lt_of_lt_of_le y q)⟩
theorem Gd.weak {g' : Gh} {s' : Shared} {fb : List Addr} (d : Gd C fb g s g' s') (h : ∀ a ∈ fb, a ∈ fa ∨ s.heap.objs.size ≤ a) : Gd C fa g s g' s' :=
  ⟨fun b o e h1 h2 h3 => d.keep b o e h1 (fun hb => (h b hb).elim h2 fun q => Nat.lt_irrefl _ (Nat.lt_of_lt_of_le (Heap.lt_size e) q)) h3, d.tabs, d.size, d.ρ, d.ρn, d.P, d.Pn, d.os, d.drawn, d.gens⟩
theorem cal_fn {f : Value} {ms : List MV} (h : Fn C A f ms σ Q) : Cal C A fm f ms loc σ Q := fun fa g s vs r hv => by
  refine wpAny_call (codeAny_mono (h g s vs r.gr hv) ?_)
  rintro x s' ⟨v, g', m, σ', rfl, r', hm, d, q⟩
  exact ⟨g', m, σ', r.call r' d, hm, d.weak (fun a h => nomatch h), q⟩
theorem EvL.args {f : Value} {pos : Pos} {es : List Expr} {Q : List MV → Hp → Prop} (h : EvL C A fm es loc σ Q) (r : Rel C g σ fm fa loc s) :
    wpAny (model C.prog C.w) A (evalArgs f true (backTo pos (es.map fun e => (false, eval e fm.env))) []) (fun a s' => a.kw = [] ∧ PostL C fm fa loc g s Q a.pos s') NoE s := by
  cases es with
  | nil => exact PySem.evalArgs_none ⟨rfl, g, [], σ, r, .nil, .refl .., h⟩
  | cons e es => exact Calls.evalArgs_plain (wpAny_mono (EvL.run h fa g s r) (fun vs s' p => ⟨rfl, p⟩) fun _ _ e => e)
theorem EvL.argsS {f : Value} {pos : Pos} {es : List Expr} {Q : List MV → Hp → Prop} (h : EvL C A fm es loc σ Q) (hs : (starEach es fm.env).all (fun p => !p.1) = true) (r : Rel C g σ fm fa loc s) :
    wpAny (model C.prog C.w) A (evalArgs f true (backTo pos (starEach es fm.env)) []) (fun a s' => a.kw = [] ∧ PostL C fm fa loc g s Q a.pos s') NoE s := starEach_plain hs ▸ h.args r
theorem star_none {env : Env} {pos : Pos} {es : List Expr} (hs : (starEach es env).all (fun p => !p.1) = true) : (backTo pos (starEach es env)).any (·.1) = false := by
  rw [starEach_plain hs]
  cases es with
  | nil => rfl
  | cons e es => simp [backTo]
inductive Callable (C : Cx) : Value → Prop
  | bi (id : String) : Callable C (.builtin id)
  | ty (n : String) : Callable C (.type n)
  | fn {f : Addr} {o : Obj} {fd : FuncData} : C.K.lookup f = some o → o.data = .func fd → Callable C (.ref f)
  | kp {f : Value} : keepIn C.K f = true → Callable C f
theorem Callable.with {f : Value} (hf : Callable C f) {pos : Pos} {first : List Value} {args : List (Bool × Sem Value)} {R : Value → Shared → Prop} (hp : args.any (·.1) = false)
    (h : wpAny (model C.prog C.w) A (evalArgs f true args []) (fun a s₁ => (∃ g σ, GR C g σ s₁) ∧ wpAny (model C.prog C.w) A (call f (first ++ a.pos) a.kw) R NoE s₁) NoE s) :
    wpAny (model C.prog C.w) A (callWith pos f first args []) R NoE s := by
  cases hf with
  | bi id => exact Calls.callWith_builtin hp (wpAny_mono h (fun _ _ x => x.2) fun _ _ e => e)
  | ty n =>
    unfold callWith
    refine wpAny_bind (wpAny_holding (wpAny_mono h (fun a s₁ h₁ => wpAny_bind (wpAny_standAt ?_)) fun _ _ x => x))
    rw [hp]
    refine wpAny_bind (wpAny_pure ?_)
    exact wpAny_bind (wpAny_mono h₁.2 (fun r s₂ hr => wpAny_bind (wpAny_holding (wpAny_point (wpAny_pure hr)))) fun _ _ x => x)
  | @fn f o fd ho hd =>
    refine Calls.callWith_function (o := o) (fd := fd) (wpAny_mono h ?_ fun _ _ e => e)
    rintro a s₁ ⟨⟨g, σ, r⟩, h₁⟩
    exact ⟨⟨r.KIn _ _ ho, hd⟩, h₁⟩
  | kp hk =>
    refine callWith_of (P := C.K.In) (by simpa using hp) (keeps_K hk) (wpAny_mono h ?_ fun _ _ e => e)
    rintro a s₁ ⟨⟨g, σ, r⟩, h₁⟩
    exact ⟨r.KIn, h₁⟩
theorem ev_call {x : Str} {np pos : Pos} {es : List Expr} (h : Ev C A fm (.Name x np) loc σ fun m σ₁ => ∃ f, m = .val f ∧ Callable C f ∧ EvL C A fm es loc σ₁ fun ms σ₂ => Cal C A fm f ms loc σ₂ Q)
    (hs : (starEach es fm.env).all (fun p => !p.1) = true := by rfl) : Ev C A fm (.Call (.Name x np) es [] pos) loc σ Q := fun fa g s r => by
  refine wpAny_Call_NameR (wpAny_mono (h fa g s r) ?_ fun _ _ e => e)
  rintro v s₁ ⟨g₁, m, σ₁, r₁, hv, d₁, f, rfl, hf, h₁⟩
  obtain rfl := hv.inv
  refine hf.with (star_none hs) (wpAny_mono (h₁.argsS hs r₁) ?_ fun _ _ e => e)
  rintro ⟨ps, kw⟩ s₂ ⟨rfl, g₂, ms, σ₂, r₂, hvs, d₂, q⟩
  refine ⟨⟨g₂, σ₂, r₂.gr⟩, ?_⟩
  exact wpAny_mono (q fa g₂ s₂ ps r₂ hvs) (fun _ _ p => p.trans (d₁.trans d₂)) fun _ _ e => e
end
end
section
noncomputable def envC (scope : Scope) (qual : Str) (code : Value) (f L : Addr) : Env := newEnv scope L mainGlobals (cellsFrom (L + 1) scope.names []) (qual ++ ".<locals>.") (some f) code none builtinsNs
noncomputable def ownOf (scope : Scope) : List Str := (scope.names.filter fun p => p.2 == .cell).map (·.1)
noncomputable def locOf (ps : List Str) (ms : List MV) : Loc := (ps.zip ms).foldl (fun l p => l.set p.1 p.2) fun _ => none
noncomputable def retOf : Fl → MV
  | .ret m => m
  | _ => .none
theorem retOf_ret (m : MV) : retOf (.ret m) = m := rfl
structure FnAt (K : Frag) (f : Addr) (qual : Str) (params : Arguments) (body : List Stmt) (scope : Scope) (code : Value) : Prop where
  ex : ∃ o fd, K.lookup f = some o ∧ o.data = .func fd ∧ fd.qualname = qual ∧ fd.params = params ∧ fd.body = .stmts body ∧ fd.scope = scope ∧ fd.globals = mainGlobals ∧ fd.closure = [] ∧ fd.code = code ∧ fd.builtins = builtinsNs ∧ fd.defaults = .none ∧ fd.kwdefaults = .none
  code : codeIn K code qual = true
theorem lookup_cellsFrom (names : List (Str × NameKind)) (n : Nat) (acc : List (Str × Addr)) (x : Str) (h : (x, NameKind.cell) ∈ names ∨ (acc.lookup x).isSome = true) : ((cellsFrom n names acc).lookup x).isSome = true := by
  induction names generalizing n acc with
  | nil => exact h.elim (fun h => nomatch h) id
  | cons p r ih =>
    obtain ⟨y, k⟩ := p
    unfold cellsFrom
    split
    · rename_i hk
      apply ih
      rcases h with h | h
      · rcases List.mem_cons.mp h with e | h
        · cases e; right; simp
        · exact .inl h
      · right
        rw [List.lookup_cons]
        cases x == y <;> simp [h]
    · rename_i hk
      apply ih
      rcases h with h | h
      · rcases List.mem_cons.mp h with e | h
        · cases e; simp at hk
        · exact .inl h
      · exact .inr h
theorem mem_cellsFrom : ∀ (names : List (Str × NameKind)) (n : Nat) (acc : List (Str × Addr)) (x : Str), ((cellsFrom n names acc).lookup x).isSome = true → (x, NameKind.cell) ∈ names ∨ (acc.lookup x).isSome = true
  | [], _, _, _, h => .inr h
  | (y, k) :: r, n, acc, x, h => by
    unfold cellsFrom at h
    split at h
    · rename_i hk
      have hk' : k = .cell := by simpa using hk
      rcases mem_cellsFrom r _ _ x h with h | h
      · exact .inl (.tail _ h)
      · rw [List.lookup_cons] at h
        cases hb : x == y with
        | true => left; rw [hk', beq_iff_eq.mp hb]; exact .head _
        | false => rw [hb] at h; exact .inr h
    · rcases mem_cellsFrom r _ _ x h with h | h
      · exact .inl (.tail _ h)
      · exact .inr h
section
variable {C : Cx} {A : Around} {σ : Hp} {g : Gh} {s : Shared} {Q : MV → Hp → Prop}
noncomputable def HoldsF (kind : Str → Option NameKind) (m cm : Str → Option Value) (x : Str) (u : Value) : Prop :=
  (kind x = some .local ∧ m x = some u) ∨ (kind x = some .cell ∧ cm x = some u)
theorem bind_holds {kind : Str → Option NameKind} {h : Heap} {ps : List Str} : ∀ {ms : List MV} {vs : List Value} {m cm : Str → Option Value} {loc : Loc}, VRs C g h ms vs →
    (∀ x v, loc x = some v → ∃ u, HoldsF kind m cm x u ∧ VR C g h v u) → (∀ p ∈ ps, kind p = some .local ∨ kind p = some .cell) →
    ∀ x v, ((ps.zip ms).foldl (fun l p => l.set p.1 p.2) loc) x = some v → ∃ u, HoldsF kind (bindL kind (ps.zip vs) m) (bindC kind (ps.zip vs) cm) x u ∧ VR C g h v u := by
  induction ps with
  | nil => exact fun _ h0 _ x v e => h0 x v e
  | cons p ps ih =>
    intro ms vs m cm loc hm h0 hk x v e
    cases ms with
    | nil => obtain rfl : vs = [] := hm.inv; exact h0 x v e
    | cons a ms =>
    obtain ⟨b, vs, rfl, hv, hr⟩ := hm.inv
    simp only [List.zip_cons_cons, List.foldl_cons] at e
    simp only [List.zip_cons_cons, bindL, bindC]
    refine ih hr (fun y w q => ?_) (fun q hq => hk q (.tail _ hq)) x v e
    have q' : (if y = p then some a else loc y) = some w := q
    by_cases hy : y = p
    · rw [if_pos hy] at q'; cases q'
      subst hy
      rcases hk y (.head _) with k | k
      · exact ⟨b, .inl ⟨k, by simp [k]⟩, hv⟩
      · refine ⟨b, .inr ⟨k, ?_⟩, hv⟩
        rw [if_neg (by rw [k]; decide)]; simp
    · rw [if_neg hy] at q'
      obtain ⟨u, hu, hw⟩ := h0 y w q'
      refine ⟨u, ?_, hw⟩
      rcases hk p (.head _) with k | k
      · rw [if_pos k, if_pos k]
        rcases hu with ⟨a1, a2⟩ | ⟨a1, a2⟩
        · exact .inl ⟨a1, (if_neg hy).trans a2⟩
        · exact .inr ⟨a1, a2⟩
      · have nk : ¬ kind p = some .local := by rw [k]; decide
        rw [if_neg nk, if_neg nk]
        rcases hu with ⟨a1, a2⟩ | ⟨a1, a2⟩
        · exact .inl ⟨a1, a2⟩
        · exact .inr ⟨a1, (if_neg hy).trans a2⟩
theorem fn_def {f : Addr} {qual : Str} {params : Arguments} {body : List Stmt} {scope : Scope} {code : Value} {ps : List Str} {ms : List MV} (F : FnAt C.K f qual params body scope code)
    (hbind : ∀ (fd : FuncData) vs, fd.params = params → fd.defaults = .none → fd.kwdefaults = .none → vs.length = ps.length → bindArgs fd ⟨vs, []⟩ = pure (ps.zip vs)) (hlen : ms.length = ps.length)
    (hkind : ∀ p ∈ ps, scope.names.lookup p = some .local ∨ (p, NameKind.cell) ∈ scope.names ∧ scope.names.lookup p = some .cell) (hown : ∀ x ∈ ownOf scope, scope.names.lookup x = some .cell) (hnf : ∀ x ∈ scope.names, x.2 ≠ .free)
    (hroom : A.depth < recursionLimit) (hco : scope.isCoroutine = false) (hgen : scope.isGenerator = false) (hk : scope.kind = .function)
    (h : ∀ L, Exs C (A.deeper (envC scope qual code f L)) ⟨envC scope qual code f L, ownOf scope⟩ body (locOf ps ms) σ fun fl _ σ' => Q (retOf fl) σ') : Fn C A (.ref f) ms σ Q := by
  intro g s vs r hvs
  refine via_p fun P kP => ?_
  obtain ⟨⟨o, fd, ho, hd, rfl, rfl, hb, rfl, hgl, hcl, rfl, hbi, hdf, hkw⟩, hcd⟩ := F
  refine kP ?_
  clear kP P
  have hL : callEnvC fd s.heap.objs.size f = envC fd.scope fd.qualname fd.code f s.heap.objs.size := by unfold callEnvC envC; rw [hgl, hbi]
  refine codeAny_call_cells hroom (r.KIn _ _ ho) hd r.lim (codeRec_of r.KIn hcd) hb (hbind fd vs rfl hdf hkw (by rw [← hvs.length]; exact hlen)) hcl (fun x hx => ?_) (fun s₁ x => ?_) hco hgen hk
  · have hm := (List.of_mem_zip (a := x.1) (b := x.2) hx).1
    rcases hkind x.1 hm with q | ⟨q, q'⟩
    · exact .inl q
    · exact .inr ⟨q', lookup_cellsFrom _ _ _ _ (.inl q)⟩
  rw [hL] at x ⊢
  generalize hE : envC fd.scope fd.qualname fd.code f s.heap.objs.size = env at x ⊢
  have hscope : env.scope = fd.scope := by rw [← hE]; rfl
  have hloc : env.locals = s.heap.objs.size := by rw [← hE]; rfl
  have hkd : ∀ y, env.kindOf y = fd.scope.names.lookup y := fun y => by unfold Env.kindOf; rw [hscope]
  refine via_p fun P kP => ?_
  obtain ⟨⟨⟨h', tk, rfl⟩, hns, keep, fresh⟩, hcell, hap, habove⟩ := x
  refine kP ?_
  clear kP P
  have hs : s.heap.objs.size < h'.objs.size := hloc ▸ hns.lt
  let fa : List Addr := env.locals :: (ownOf fd.scope).filterMap fun x => env.cells.lookup x
  have hfa : ∀ a ∈ fa, s.heap.objs.size ≤ a ∧ a < h'.objs.size := by
    intro a ha
    rcases List.mem_cons.mp ha with rfl | ha
    · rw [hloc]; exact ⟨Nat.le_refl _, hs⟩
    · obtain ⟨x, hx, hc⟩ := List.mem_filterMap.mp ha
      exact ⟨Nat.le_trans (Nat.le_of_eq hloc.symm) (Nat.le_of_lt (habove x a (mem_of_lookup hc))), (hcell x a hc).lt⟩
  have hin : ∀ y c, env.cells.lookup y = some c → y ∈ ownOf fd.scope := fun y c e => by
    have e' : ((cellsFrom (s.heap.objs.size + 1) fd.scope.names []).lookup y).isSome = true := by
      have : (cellsFrom (s.heap.objs.size + 1) fd.scope.names []).lookup y = some c := by rw [← hE] at e; exact e
      rw [this]; rfl
    rcases mem_cellsFrom _ _ _ _ e' with q | q
    · exact List.mem_map.mpr ⟨(y, .cell), List.mem_filter.mpr ⟨q, rfl⟩, rfl⟩
    · cases q
  have r' : Rel C g σ ⟨env, ownOf fd.scope⟩ fa (locOf ps ms) { s with heap := h', toks := tk } := by
    have q := r.ext (s' := { s with heap := h', toks := tk }) keep (Nat.le_of_lt hs)
    have hg : Ge g g s.heap h' := ⟨fun _ _ e => e, fun _ e => e, fun a o _ e => keep a o e⟩
    refine ⟨q, by rw [hscope]; exact hk, by rw [← hE]; rfl, by rw [← hE]; rfl, ⟨_, hns⟩, .head _, fun y v e => ?_, fun y c e => ?_, fun y hy => ?_, fun y z c e e' => ?_, fun a ha => ?_, fun y hy => ?_⟩
    · obtain ⟨u, hu, hv⟩ := bind_holds (kind := env.kindOf) (m := fun _ => none) (cm := fun _ => none) hvs (fun _ _ e => by cases e) (fun p hp => by
        rw [hkd]; rcases hkind p hp with q | ⟨_, q⟩
        · exact .inl q
        · exact .inr q) y v e
      refine ⟨u, ?_, hv.mono hg⟩
      rcases hu with ⟨k1, k2⟩ | ⟨k1, k2⟩
      · exact .inl ⟨k1, _, hns, k2⟩
      · have : ((cellsFrom (s.heap.objs.size + 1) fd.scope.names []).lookup y).isSome = true := lookup_cellsFrom _ _ _ _ (.inl (mem_of_lookup (by rw [← hkd]; exact k1)))
        obtain ⟨c, hc⟩ := Option.isSome_iff_exists.mp this
        have hc' : env.cells.lookup y = some c := by rw [← hE]; exact hc
        exact .inr ⟨.inl k1, c, hc', k2 ▸ hcell y c hc'⟩
    · have hm : c ∈ fa := .tail _ (List.mem_filterMap.mpr ⟨y, hin y c e, e⟩)
      obtain ⟨f1, f2⟩ := hfa c hm
      refine ⟨⟨_, hcell y c e⟩, Nat.ne_of_gt (habove y c (mem_of_lookup e)), Nat.le_trans r.size f1, fun n hn => Nat.lt_irrefl _ (Nat.lt_of_lt_of_le (r.live n c hn).2.1 f1), fun hno => ?_⟩
      exact absurd (hin y c e) hno
    · obtain ⟨p, hp, rfl⟩ := List.mem_map.mp hy
      obtain ⟨hp1, hp2⟩ := List.mem_filter.mp hp
      have hp3 : p.2 = NameKind.cell := by simpa using hp2
      have : ((cellsFrom (s.heap.objs.size + 1) fd.scope.names []).lookup p.1).isSome = true := lookup_cellsFrom _ _ _ _ (.inl (hp3 ▸ hp1))
      obtain ⟨c, hc⟩ := Option.isSome_iff_exists.mp this
      have hc' : env.cells.lookup p.1 = some c := by rw [← hE]; exact hc
      exact ⟨by rw [hkd]; exact hown _ hy, c, hc', .tail _ (List.mem_filterMap.mpr ⟨p.1, hy, hc'⟩)⟩
    · exact name_of_addr hap (mem_of_lookup e) (mem_of_lookup e')
    · obtain ⟨f1, f2⟩ := hfa a ha
      exact ⟨Nat.le_trans r.size f1, f2, fun hp => Nat.lt_irrefl _ (Nat.lt_of_lt_of_le (r.P a hp).2 f1), fun n hn => Nat.lt_irrefl _ (Nat.lt_of_lt_of_le (r.live n a hn).2.1 f1)⟩
    · rcases hy with hy | hy
      · have : ((cellsFrom (s.heap.objs.size + 1) fd.scope.names []).lookup y).isSome = true := lookup_cellsFrom _ _ _ _ (.inl (mem_of_lookup (by rw [← hkd]; exact hy)))
        obtain ⟨c, hc⟩ := Option.isSome_iff_exists.mp this
        exact ⟨c, by rw [← hE]; exact hc⟩
      · exact absurd rfl (hnf (y, .free) (mem_of_lookup (by rw [← hkd]; exact hy)))
  have hx := h s.heap.objs.size
  rw [hE] at hx
  refine wpAny_mono (hx fa g _ r') ?_ fun _ _ e => e.elim
  rintro fl s₂ hX2
  refine via_p fun P kP => ?_
  obtain ⟨g₂, fl', l₂, σ₂, r₂, hf, d, q⟩ := hX2
  refine kP ?_
  clear kP P
  have d0 : Gd C fa g s g { s with heap := h', toks := tk } := .ext keep (Nat.le_of_lt hs) rfl rfl rfl
  have d1 : Gd C [] g s g₂ s₂ := (d0.trans d).weak fun a ha => .inr (hfa a ha).1
  cases hf with
  | next => exact ⟨_, g₂, .none, σ₂, rfl, r₂.gr, .none, d1, q⟩
  | brk => exact ⟨_, g₂, .none, σ₂, rfl, r₂.gr, .none, d1, q⟩
  | cont => exact ⟨_, g₂, .none, σ₂, rfl, r₂.gr, .none, d1, q⟩
  | ret hv => exact ⟨_, g₂, _, σ₂, rfl, r₂.gr, hv, d1, q⟩
end
end
section
theorem size_push_le (h : Heap) (o : Obj) : h.objs.size ≤ (h.push o).objs.size := by rw [Heap.size_push]; exact Nat.le_succ _
theorem size_update (h : Heap) (a : Addr) (f : Obj → Obj) : (h.update a f).objs.size = h.objs.size := (Heap.SameBut.update h a f).1
theorem runs_size {M : Model} {Γ : Ctx} {p : Pos} {t : Sem Fin} {fs : List Frame} {s s' : Shared} {e : End} (h : Runs M Γ p t fs s e s') : s.heap.objs.size ≤ s'.heap.objs.size := by
  induction h <;> (try simp only [Shared.setGen, size_update, Heap.size_push] at *) <;> (first | lia | omega)
theorem wakes_size {M : Model} {Γ : Ctx} {p : Pos} {g : Nat} {r : Resume} {s s' : Shared} {res : GenResult} (h : Wakes M Γ p g r s res s') : s.heap.objs.size ≤ s'.heap.objs.size := by
  unfold Wakes at h
  cases hg : s.gens[g]? with
  | none => rw [hg] at h; exact h.elim
  | some st =>
    rw [hg] at h
    cases st with
    | fresh c =>
      cases r with
      | send v =>
        cases v
        case none => obtain ⟨_, s₁, hr, _, _, rfl⟩ := h; exact (runs_size hr : (s.setGen g .running).heap.objs.size ≤ s₁.heap.objs.size)
        all_goals exact Nat.le_of_eq (congrArg (fun s : Shared => s.heap.objs.size) h.2.symm)
      | throw x => exact Nat.le_of_eq (show (s.setGen g .finished).heap.objs.size = _ from congrArg (fun s : Shared => s.heap.objs.size) h.2.symm)
    | suspended => obtain ⟨_, s₁, hr, _, _, rfl⟩ := h; exact (runs_size hr : (s.setGen g .running).heap.objs.size ≤ s₁.heap.objs.size)
    | running => exact Nat.le_of_eq (congrArg (fun s : Shared => s.heap.objs.size) h.2.symm)
    | finished => exact Nat.le_of_eq (congrArg (fun s : Shared => s.heap.objs.size) h.2.symm)
theorem wp_size {α : Type} (M : Model) (Γ : Ctx) (n : Nat) (t : Sem α) : ∀ (Q : α → Pos → Shared → Prop) (E : Value → Pos → Shared → Prop) (p : Pos) (s : Shared), n ≤ s.heap.objs.size → Sem.wp M Γ t Q E p s →
    Sem.wp M Γ t (fun a p' s' => n ≤ s'.heap.objs.size ∧ Q a p' s') (fun e p' s' => n ≤ s'.heap.objs.size ∧ E e p' s') p s := by
  induction t with
  | pure | raise => intro Q E p s hn h; exact ⟨hn, h⟩
  | unsupported | finish | register | yield | fork | await => intro Q E p s _ h; exact h
  | rule _ k ih | point _ k ih => intro Q E p s hn h; exact ih () Q E p s hn h
  | «at» p' k ih => intro Q E p s hn h; exact ih () Q E p' s hn h
  | load a _ k ih | genState a k ih => intro Q E p s hn h; obtain ⟨o, ho, h⟩ := h; exact ⟨o, ho, ih _ Q E p s hn h⟩
  | update a _ f k ih => intro Q E p s hn h; exact ⟨h.1, ih () Q E p _ (by rw [size_update]; exact hn) h.2⟩
  | loadIfAlive _ k ih | ask k ih | handled _ k ih | stack k ih | thread k ih | fresh k ih | os _ _ k ih | newGen _ k ih => intro Q E p s hn h; exact ih _ Q E p _ hn h
  | alloc o k ih => intro Q E p s hn h; exact ih _ Q E p _ (Nat.le_trans hn (size_push_le _ _)) h
  | choose src m k ih => intro Q E p s hn h; exact ⟨h.1, ih _ Q E p _ hn h.2⟩
  | call c hd _ _ k ih => intro Q E p s hn h; obtain ⟨r, s', hr, h⟩ := h; exact ⟨r, s', hr, ih r Q E p s' (Nat.le_trans hn (runs_size hr)) h⟩
  | resume g r _ k ih => intro Q E p s hn h; obtain ⟨res, s', hw, h⟩ := h; exact ⟨res, s', hw, ih res Q E p s' (Nat.le_trans hn (wakes_size hw)) h⟩
theorem withSize {α : Type} {M : Model} {A : Around} {s : Shared} {t : Sem α} {Q : α → Shared → Prop} {E : Value → Shared → Prop}
    (h : wpAny M A t (fun a s' => s.heap.objs.size ≤ s'.heap.objs.size → Q a s') (fun e s' => s.heap.objs.size ≤ s'.heap.objs.size → E e s') s) : wpAny M A t Q E s :=
  fun Γ p hΓ => Sem.wp_mono M Γ t (fun _ _ _ x => x.2 x.1) (fun _ _ _ x => x.2 x.1) p s (wp_size M Γ _ t _ _ p s (Nat.le_refl _) (h Γ p hΓ))
end
section
noncomputable def lstOf (σ : Hp) : MV → Option (List MV)
  | .lst l => some l
  | .ref n => match σ n with | some (.list l) => some l | _ => none
  | _ => none
noncomputable def dctOf (σ : Hp) : MV → Option (List (Str × MV))
  | .dct l => some l
  | .ref n => match σ n with | some (.dict l) => some l | _ => none
  | _ => none
theorem ne_of_hp {σ : Hp} {a b : Nat} {o : MO} (ha : σ a = none) (hb : σ b = some o) : a ≠ b := fun e => by rw [e, hb] at ha; cases ha
theorem lst_ref {σ : Hp} {n : Nat} {l : List MV} (h : σ n = some (.list l)) : lstOf σ (.ref n) = some l := by
  show (match σ n with | some (.list l) => some l | _ => none) = _
  rw [h]
theorem dct_ref {σ : Hp} {n : Nat} {l : List (Str × MV)} (h : σ n = some (.dict l)) : dctOf σ (.ref n) = some l := by
  show (match σ n with | some (.dict l) => some l | _ => none) = _
  rw [h]
theorem lstOf_some {σ : Hp} {m : MV} {l : List MV} (h : lstOf σ m = some l) : m = .lst l ∨ ∃ n, m = .ref n ∧ σ n = some (.list l) := by
  cases m
  case lst l' => exact .inl (congrArg _ (Option.some.inj h))
  case ref n =>
    refine .inr ⟨n, rfl, ?_⟩
    revert h
    show (match σ n with | some (.list l) => some l | _ => none) = _ → _
    cases σ n with
    | none => exact fun h => nomatch h
    | some o => cases o with
      | list l' => exact fun h => congrArg _ (congrArg _ (Option.some.inj h))
      | _ => exact fun h => nomatch h
  all_goals exact nomatch h
theorem dctOf_some {σ : Hp} {m : MV} {l : List (Str × MV)} (h : dctOf σ m = some l) : m = .dct l ∨ ∃ n, m = .ref n ∧ σ n = some (.dict l) := by
  cases m
  case dct l' => exact .inl (congrArg _ (Option.some.inj h))
  case ref n =>
    refine .inr ⟨n, rfl, ?_⟩
    revert h
    show (match σ n with | some (.dict l) => some l | _ => none) = _ → _
    cases σ n with
    | none => exact fun h => nomatch h
    | some o => cases o with
      | dict l' => exact fun h => congrArg _ (congrArg _ (Option.some.inj h))
      | _ => exact fun h => nomatch h
  all_goals exact nomatch h
section
variable {C : Cx} {A : Around} {fm : Fm} {fa : List Addr} {loc : Loc} {σ : Hp} {g : Gh} {s : Shared} {Q Q' : MV → Hp → Prop} {QB : Bool → Hp → Prop} {QS : Fl → Loc → Hp → Prop}
theorem GR.lstP {m : MV} {l : List MV} {v : Value} (r : GR C g σ s) (h : lstOf σ m = some l) (hv : VR C g s.heap m v) : ∃ a xs, v = .ref a ∧ s.heap.PlainList a ⟨xs⟩ ∧ VRs C g s.heap l xs := by
  rcases lstOf_some h with rfl | ⟨n, rfl, e⟩
  · exact hv.inv.imp fun a y => y.imp fun xs y => ⟨y.1, y.2.2⟩
  · exact hv.inv.imp fun a y => (r.obj y.2 e).inv.imp fun xs z => ⟨y.1, z⟩
theorem GR.lst {m : MV} {l : List MV} {v : Value} (r : GR C g σ s) (h : lstOf σ m = some l) (hv : VR C g s.heap m v) : ∃ a xs, v = .ref a ∧ s.heap.IsList a ⟨xs⟩ ∧ VRs C g s.heap l xs :=
  (r.lstP h hv).imp fun _ y => y.imp fun _ y => ⟨y.1, y.2.1.isList, y.2.2⟩
theorem GR.dct {m : MV} {l : List (Str × MV)} {v : Value} (r : GR C g σ s) (h : dctOf σ m = some l) (hv : VR C g s.heap m v) : ∃ a kvs, v = .ref a ∧ s.heap.DictOf (strKind C.prog C.w) a kvs ∧ VRd C g s.heap l kvs ∧ C.N0 ≤ a := by
  rcases dctOf_some h with rfl | ⟨n, rfl, e⟩
  · exact hv.inv.imp fun a y => y.imp fun xs y => ⟨y.1, y.2.2.1, y.2.2.2, (r.P _ y.2.1).1⟩
  · exact hv.inv.imp fun a y => (r.obj y.2 e).inv.imp fun xs z => ⟨y.1, z.1, z.2, (r.live n a y.2).1⟩
theorem isList_of {h : Heap} {a : Addr} {xs : List Value} {n : Nat} (e : h.get? a = some (lstObj ⟨xs⟩ n)) : h.PlainList a ⟨xs⟩ := ⟨n, e⟩
theorem isTuple_of {h : Heap} {a : Addr} {xs : List Value} {n : Nat} (e : h.get? a = some (tupObj ⟨xs⟩ n)) : h.IsTuple a ⟨xs⟩ := ⟨_, e, rfl, n, rfl⟩
theorem Post.pinned {m : MV} {o : Obj} (r : Rel C g σ fm fa loc s) (hf : o.isFreed = false) (hv : VR C (g.pin s.heap.objs.size) (s.heap.push o) m (.ref s.heap.objs.size)) (q : Q m σ) :
    Post C fm fa loc g s Q (.ref s.heap.objs.size) { s with heap := s.heap.push o } := by
  have k : ∀ b o', s.heap.get? b = some o' → (s.heap.push o).get? b = some o' := fun b o' e => Heap.get?_push_of_some _ e
  have hl : s.heap.objs.size < (s.heap.push o).objs.size := by rw [Heap.size_push]; exact Nat.lt_succ_self _
  exact ⟨_, m, σ, r.pin (s' := { s with heap := s.heap.push o }) k (Nat.le_refl _) hl, hv, .pin k (Nat.le_refl _) hl rfl rfl rfl, q⟩
theorem ge_pin (o : Obj) : Ge g (g.pin s.heap.objs.size) s.heap (s.heap.push o) := ⟨fun _ _ e => e, fun _ e => .inr e, fun _ _ _ e => Heap.get?_push_of_some _ e⟩
theorem Post.tup {ms : List MV} {xs : List Value} {n : Nat} (r : Rel C g σ fm fa loc s) (hv : VRs C g s.heap ms xs) (q : Q (.tup ms) σ) : Post C fm fa loc g s Q (.ref s.heap.objs.size) { s with heap := s.heap.push (tupObj ⟨xs⟩ n) } :=
  .pinned r rfl (.tup (.inl rfl) (isTuple_of (Heap.get?_push_size _ rfl)) (hv.mono (ge_pin _))) q
theorem Post.lst {ms : List MV} {xs : List Value} {n : Nat} (r : Rel C g σ fm fa loc s) (hv : VRs C g s.heap ms xs) (q : Q (.lst ms) σ) : Post C fm fa loc g s Q (.ref s.heap.objs.size) { s with heap := s.heap.push (lstObj ⟨xs⟩ n) } :=
  .pinned r rfl (.lst (.inl rfl) (isList_of (Heap.get?_push_size _ rfl)) (hv.mono (ge_pin _))) q
theorem Post.lstT {ℓ : Nat} {ms : List MV} {xs : List Value} {n : Nat} (r : Rel C g σ fm fa loc s) (hσ : σ ℓ = none) (hv : VRs C g s.heap ms xs) (q : Q (.ref ℓ) (σ.set ℓ (.list ms))) :
    Post C fm fa loc g s Q (.ref s.heap.objs.size) { s with heap := s.heap.push (lstObj ⟨xs⟩ n) } := by
  have hℓ := r.gr.fresh hσ
  have k : ∀ b o', s.heap.get? b = some o' → (s.heap.push (lstObj ⟨xs⟩ n)).get? b = some o' := fun b o' e => Heap.get?_push_of_some _ e
  have hl : s.heap.objs.size < (s.heap.push (lstObj ⟨xs⟩ n)).objs.size := by rw [Heap.size_push]; exact Nat.lt_succ_self _
  have up : ∀ m b, g.ρ m = some b → (g.set ℓ s.heap.objs.size).ρ m = some b := fun m b e => by
    show (if m = ℓ then _ else g.ρ m) = some b
    rw [if_neg (fun q => by rw [q, hℓ] at e; cases e)]; exact e
  have e : Ge g (g.set ℓ s.heap.objs.size) s.heap (s.heap.push (lstObj ⟨xs⟩ n)) := ⟨up, fun _ e => e, fun a o _ e => k a o e⟩
  refine ⟨_, .ref ℓ, _, r.new (s' := { s with heap := s.heap.push (lstObj ⟨xs⟩ n) }) hℓ k (Nat.le_refl _) hl (.list (isList_of (Heap.get?_push_size _ rfl)) (hv.mono e)), .ref ?_, .new hℓ k (Nat.le_refl _) hl rfl rfl rfl, q⟩
  show (if ℓ = ℓ then _ else _) = _
  rw [if_pos rfl]
theorem Post.dctT {ℓ : Nat} (r : Rel C g σ fm fa loc s) (hσ : σ ℓ = none) (q : Q (.ref ℓ) (σ.set ℓ (.dict []))) :
    Post C fm fa loc g s Q (.ref s.heap.objs.size) { s with heap := s.heap.push { cls := .type "dict", data := .dict #[] } } := by
  have hℓ := r.gr.fresh hσ
  have k : ∀ b o', s.heap.get? b = some o' → (s.heap.push { cls := .type "dict", data := .dict #[] }).get? b = some o' := fun b o' e => Heap.get?_push_of_some _ e
  have hl : s.heap.objs.size < (s.heap.push { cls := .type "dict", data := .dict #[] }).objs.size := by rw [Heap.size_push]; exact Nat.lt_succ_self _
  refine ⟨_, .ref ℓ, _, r.new (s' := { s with heap := s.heap.push { cls := .type "dict", data := .dict #[] } }) hℓ k (Nat.le_refl _) hl (.dict (Heap.DictOf.new _) .nil), .ref ?_, .new hℓ k (Nat.le_refl _) hl rfl rfl rfl, q⟩
  show (if ℓ = ℓ then _ else _) = _
  rw [if_pos rfl]
end
end
section
section
variable {C : Cx} {A : Around} {fm : Fm} {fa : List Addr} {loc : Loc} {σ : Hp} {g : Gh} {s : Shared} {Q Q' : MV → Hp → Prop} {QB : Bool → Hp → Prop} {QS : Fl → Loc → Hp → Prop}
theorem sizeLine_ge {n : Nat} (h : n ≤ 1000000) : n ≤ sizeLine := Nat.le_trans h (by decide)
theorem ev_tup {es : List Expr} {k : Nat} {pos : Pos} (h : EvL C A fm es loc σ fun ms σ₁ => ms.length ≤ 1000000 ∧ Q (.tup ms) σ₁) (hs : (starEach es fm.env).all (fun p => !p.1) = true := by rfl) : Ev C A fm (.Tuple es k pos) loc σ Q := fun fa g s r => by
  refine wpAny_Tuple ?_
  refine wpAny_mono (h.runS hs r) ?_ fun _ _ e => e
  rintro vs s₁ ⟨g₁, ms, σ₁, r₁, hv, d, hl, q⟩
  exact ⟨sizeLine_ge (hv.length ▸ hl), (Post.tup r₁ hv q).trans d⟩
theorem ev_lst {es : List Expr} {pos : Pos} (h : EvL C A fm es loc σ fun ms σ₁ => ms.length ≤ 1000000 ∧ Q (.lst ms) σ₁) (hs : (starEach es fm.env).all (fun p => !p.1) = true := by rfl) : Ev C A fm (.List es pos) loc σ Q := fun fa g s r => by
  refine wpAny_List ?_
  refine wpAny_mono (h.runS hs r) ?_ fun _ _ e => e
  rintro vs s₁ ⟨g₁, ms, σ₁, r₁, hv, d, hl, q⟩
  exact ⟨sizeLine_ge (hv.length ▸ hl), (Post.lst r₁ hv q).trans d⟩
theorem ev_lstT (ℓ : Nat) {es : List Expr} {pos : Pos} (h : EvL C A fm es loc σ fun ms σ₁ => ms.length ≤ 1000000 ∧ σ₁ ℓ = none ∧ Q (.ref ℓ) (σ₁.set ℓ (.list ms))) (hs : (starEach es fm.env).all (fun p => !p.1) = true := by rfl) : Ev C A fm (.List es pos) loc σ Q := fun fa g s r => by
  refine wpAny_List ?_
  refine wpAny_mono (h.runS hs r) ?_ fun _ _ e => e
  rintro vs s₁ ⟨g₁, ms, σ₁, r₁, hv, d, hl, hn, q⟩
  exact ⟨sizeLine_ge (hv.length ▸ hl), (Post.lstT r₁ hn hv q).trans d⟩
theorem ev_dctT (ℓ : Nat) {pos : Pos} (hn : σ ℓ = none) (q : Q (.ref ℓ) (σ.set ℓ (.dict []))) : Ev C A fm (.Dict [] [] pos) loc σ Q := fun fa g s r =>
  wpAny_Dict_empty (.dctT r hn q)
theorem subscripted_ops (slice : Expr) (o i : Value) : ∃ ops, subscripted slice false o i = operate ops (getItem o i) := by
  cases slice
  case Slice a b c p => cases c <;> exact ⟨_, rfl⟩
  all_goals exact ⟨_, rfl⟩
noncomputable def Itm (C : Cx) (A : Around) (fm : Fm) (a b : MV) (loc : Loc) (σ : Hp) (Q : MV → Hp → Prop) : Prop :=
  ∀ fa g s x y, Rel C g σ fm fa loc s → VR C g s.heap a x → VR C g s.heap b y →
    (∃ T id, s.TypeIs x T ∧ typeLookup (.type T) "__getitem__" = pure (some (.builtin id))) ∧ wpAny (model C.prog C.w) A (getItem x y) (Post C fm fa loc g s Q) NoE s
theorem ev_sub {v sl : Expr} {pos : Pos} (h : Ev C A fm v loc σ fun a σ₁ => Ev C A fm sl loc σ₁ fun b σ₂ => Itm C A fm a b loc σ₂ Q) : Ev C A fm (.Subscript v sl pos) loc σ Q := fun fa g s r => by
  refine Subscript_ (two (f := subscriptTail v sl) ?_ fa g s r)
  refine EvT.mono h fun a σ₁ h₁ => EvT.mono h₁ fun b σ₂ h₂ => ?_
  intro fa g s x y r hx hy
  obtain ⟨⟨T, id, hT, hl⟩, hg⟩ := h₂ fa g s x y r hx hy
  obtain ⟨ops, ho⟩ := subscripted_ops sl x y
  exact tail_any hT hl hg ho
theorem get_arr {xs : List Value} {i : Nat} {v : Value} (h : xs[i]? = some v) : (Array.mk xs)[i]? = some v := (List.getElem?_toArray ..).trans h
theorem lt63 {k : Int} (h : k < 1000000000) : k < 2 ^ 63 := Int.lt_trans h (by decide)
theorem gi_list {a : MV} {l : List MV} {k : Int} {m : MV} (ha : lstOf σ a = some l) (h0 : 0 ≤ k) (hk : k < 1000000000) (hm : l[k.toNat]? = some m) (q : Q m σ) : Itm C A fm a (.int k) loc σ Q := by
  intro fa g s x y r hx hy
  obtain ⟨_, rfl⟩ := hy.inv
  obtain ⟨a, xs, rfl, ho, hl⟩ := r.gr.lst ha hx
  obtain ⟨v, hv, hm'⟩ := hl.get hm
  exact ⟨⟨_, _, ho.typeIs, slot_list_getitem.lookup⟩, wpAny_getItem_list ho h0 (lt63 hk) (get_arr hv) (.now r hm' q)⟩
theorem seqIndex_of {k : Int} {n : Nat} (h0 : 0 ≤ k) (hk : k < n) : seqIndex? k n = some k.toNat := by
  have hh : ¬ k < 0 := Int.not_lt.mpr h0
  unfold seqIndex?
  simp [hh, h0, hk]
theorem gi_tup {l : List MV} {k : Int} {m : MV} (h0 : 0 ≤ k) (hk : k < l.length) (hk' : k < 1000000000) (hm : l[k.toNat]? = some m) (q : Q m σ) : Itm C A fm (.tup l) (.int k) loc σ Q := by
  intro fa g s x y r hx hy
  obtain ⟨_, rfl⟩ := hy.inv
  obtain ⟨a, xs, rfl, hp, ho, hl⟩ := hx.inv
  obtain ⟨v, hv, hm'⟩ := hl.get hm
  exact ⟨⟨"tuple", _, ho.typeIs, slot_tuple_getitem.lookup⟩, getItem_tuple (items := ⟨xs⟩) (j := k.toNat) ho (Int.le_trans (show -(2 ^ 63) ≤ (0 : Int) by decide) h0) (lt63 hk') (seqIndex_of h0 (Int.lt_of_lt_of_le hk (Int.ofNat_le.mpr (Nat.le_of_eq hl.length)))) (get_arr hv) (.now r hm' q)⟩
theorem gi_str {x : Str} {k : Int} {c : Nat} (hr : (decide (k < -(2 ^ 63 : Int)) || decide (k ≥ 2 ^ 63)) = false) (hc : (seqIndex? k x.length).bind (x.cps[·]?) = some c) (q : Q (.str ⟨#[c]⟩) σ) : Itm C A fm (.str x) (.int k) loc σ Q := by
  intro fa g s u y r hx hy
  obtain ⟨_, rfl⟩ := hy.inv
  obtain ⟨_, rfl⟩ := hx.inv
  exact ⟨⟨"str", _, typeIs_str .., slot_str_getitem.lookup⟩, getItem_str hr hc (.tok r (.str ..) q)⟩
noncomputable def valAt : List (Str × MV) → Str → Option MV
  | [], _ => none
  | (k, v) :: l, x => if k = x then some v else valAt l x
theorem VRd.at {h : Heap} {x : Str} {l : List (Str × MV)} {kvs : List (Str × Value)} (z : VRd C g h l kvs) {m : MV} (e : valAt l x = some m) : ∃ v, valueAt kvs x = some v ∧ VR C g h m v := by
  induction l generalizing kvs with
  | nil => exact nomatch e
  | cons p l ih =>
    obtain ⟨v, r, rfl, a, b⟩ := z.inv
    have e' : (if p.1 = x then some p.2 else valAt l x) = some m := e
    by_cases hk : p.1 = x
    · rw [if_pos hk] at e'
      exact ⟨v, by simp [valueAt, hk], Option.some.inj e' ▸ a⟩
    · rw [if_neg hk] at e'
      exact (ih b e').imp fun u y => ⟨(by simp [valueAt, hk] : _ = _).trans y.1, y.2⟩
theorem VRd.no {h : Heap} {x : Str} {l : List (Str × MV)} {kvs : List (Str × Value)} (z : VRd C g h l kvs) (e : valAt l x = none) : valueAt kvs x = none := by
  induction l generalizing kvs with
  | nil => exact z.inv ▸ rfl
  | cons p l ih =>
    obtain ⟨v, r, rfl, a, b⟩ := z.inv
    have e' : (if p.1 = x then some p.2 else valAt l x) = none := e
    by_cases hk : p.1 = x
    · rw [if_pos hk] at e'; exact nomatch e'
    · rw [if_neg hk] at e'
      exact (by simp [valueAt, hk] : _ = _).trans (ih b e')
theorem gi_dct {a : MV} {l : List (Str × MV)} {x : Str} {m : MV} (ha : dctOf σ a = some l) (hm : valAt l x = some m) (q : Q m σ) : Itm C A fm a (.str x) loc σ Q := by
  intro fa g s u y r hx hy
  obtain ⟨_, rfl⟩ := hy.inv
  obtain ⟨a, kvs, rfl, ho, hl, hN⟩ := r.gr.dct ha hx
  obtain ⟨v, hv, hm'⟩ := hl.at hm
  exact ⟨⟨"dict", _, ho.typeIs, PySem.slot_dict_getitem.lookup⟩, wpAny_getItem_of (strKind_is ..) ho.mapOf hv (.tok r hm' q)⟩
end
end
section
section
variable {C : Cx} {A : Around} {fm : Fm} {fa : List Addr} {loc : Loc} {σ : Hp} {g : Gh} {s : Shared} {Q Q' : MV → Hp → Prop} {QB : Bool → Hp → Prop} {QS : Fl → Loc → Hp → Prop}
noncomputable def EvO (C : Cx) (A : Around) (fm : Fm) : Option Expr → Loc → Hp → (Option Int → Hp → Prop) → Prop
  | none, _, σ, Q => Q none σ
  | some e, loc, σ, Q => Ev C A fm e loc σ fun m σ₁ => (m = .none ∧ Q none σ₁) ∨ ∃ i, m = .int i ∧ Q (some i) σ₁
inductive PostO (C : Cx) (fm : Fm) (fa : List Addr) (loc : Loc) (g : Gh) (s : Shared) (Q : Option Int → Hp → Prop) (v : Value) (s' : Shared) : Prop
  | mk (g' : Gh) (σ' : Hp) (i : Option Int) (r : Rel C g' σ' fm fa loc s') (p : IsPart v i) (d : Gd C fa g s g' s') (q : Q i σ')
theorem EvO.run {e : Option Expr} {Q : Option Int → Hp → Prop} (h : EvO C A fm e loc σ Q) (fa : List Addr) (g : Gh) (s : Shared) (r : Rel C g σ fm fa loc s) :
    wpAny (model C.prog C.w) A (evalPart e fm.env) (PostO C fm fa loc g s Q) NoE s := by
  cases e with
  | none => exact wpAny_pure ⟨g, σ, none, r, .none, .refl .., h⟩
  | some e =>
    refine wpAny_mono (h fa g s r) ?_ fun _ _ e => e
    rintro v s₁ ⟨g₁, m, σ₁, r₁, hv, d, ⟨rfl, q⟩ | ⟨i, rfl, q⟩⟩
    · exact ⟨g₁, σ₁, none, r₁, hv.inv ▸ .none, d, q⟩
    · exact ⟨g₁, σ₁, some i, r₁, hv.inv.elim fun _ e => e ▸ .int .., d, q⟩
noncomputable def slIdx (lo hi st : Option Int) (n : Nat) : List Nat := sliceRange (sliceBounds lo hi st n).1 (sliceBounds lo hi st n).2.1 (sliceBounds lo hi st n).2.2
noncomputable def cutL {α : Type} (l : List α) (lo hi st : Option Int) : List α := (slIdx lo hi st l.length).filterMap (l[·]?)
noncomputable def clip1 (v : Option Int) (d n : Int) : Int := match v with
  | none => d
  | some i => max 0 (min (if i < 0 then i + n else i) n)
noncomputable def cutS (x : Str) (lo hi : Option Int) : Str :=
  ⟨((x.cps.toList.drop (clip1 lo 0 x.length).toNat).take ((clip1 hi x.length x.length).toNat - (clip1 lo 0 x.length).toNat)).toArray⟩
theorem clip1_lo (v : Option Int) {d n : Int} (hd : 0 ≤ d) : 0 ≤ clip1 v d n := by
  cases v with
  | none => exact hd
  | some i => exact Int.le_max_left ..
theorem clip1_hi (v : Option Int) {d n : Int} (hd : d ≤ n) (hn : 0 ≤ n) : clip1 v d n ≤ n := by
  cases v with
  | none => exact hd
  | some i => exact Int.max_le.mpr ⟨hn, Int.min_le_right ..⟩
theorem pick_range {α : Type} (l : List α) (a b : Nat) (hb : b ≤ l.length) : ((List.range (b - a)).map fun k => a + k).filterMap (l[·]?) = (l.drop a).take (b - a) := by
  have : ∀ n a, ((List.range n).map fun k => a + k).filterMap (l[·]?) = (l.drop a).take n := by
    intro n
    induction n with
    | zero => intro a; rfl
    | succ n ih =>
      intro a
      have e : ((fun k => a + k) ∘ Nat.succ) = fun k => (a + 1) + k := funext fun k => (Nat.add_right_comm a k 1 : _)
      rw [List.range_succ_eq_map, List.map_cons, List.map_map, e, List.filterMap_cons, ih (a + 1)]
      show (match l[a]? with | none => _ | some b => _) = _
      cases h : l[a]? with
      | none =>
        have h' := List.getElem?_eq_none_iff.mp h
        rw [List.drop_eq_nil_of_le h', List.drop_eq_nil_of_le (Nat.le_succ_of_le h')]
        simp
      | some b =>
        obtain ⟨ha, rfl⟩ := List.getElem?_eq_some_iff.mp h
        rw [List.drop_eq_getElem_cons ha, List.take_succ_cons]
  exact this (b - a) a
theorem slRange (a b : Int) (ha : 0 ≤ a) (hb : 0 ≤ b) : sliceRange a b 1 = (List.range (b.toNat - a.toNat)).map fun k => a.toNat + k := by
  obtain ⟨m, rfl⟩ := Int.eq_ofNat_of_zero_le ha
  obtain ⟨n, rfl⟩ := Int.eq_ofNat_of_zero_le hb
  unfold sliceRange
  have hc : (if (1 : Int) > 0 then (if (m : Int) < n then ((n : Int) - m + 1 - 1) / 1 else 0) else (if (m : Int) > n then ((m : Int) - n - 1 - 1) / (-1) else 0)).toNat = n - m := by
    rw [if_pos (by decide), Int.ediv_one, Int.add_sub_cancel]
    split
    · rw [Int.toNat_sub]
    · rename_i h
      exact (Nat.sub_eq_zero_of_le (Int.ofNat_le.mp (Int.not_lt.mp h))).symm
  simp only [hc]
  exact List.map_congr_left fun k _ => by rw [Int.one_mul]; rfl
theorem strIdx (x : Str) (lo hi : Option Int) : Builtin.Str.strSliceIndices lo hi 1 x.length = (List.range ((clip1 hi x.length x.length).toNat - (clip1 lo 0 x.length).toNat)).map fun k => (clip1 lo 0 x.length).toNat + k := by
  have e1 : ∀ v d, (match v with | none => d | some i => (fun i => if (1 : Int) > 0 then max 0 (min i (x.length : Int)) else max (-1) (min i ((x.length : Int) - 1))) (if i < 0 then i + (x.length : Int) else i)) = clip1 v d x.length := by
    intro v d; cases v with
    | none => rfl
    | some i => exact if_pos (by decide)
  refine Eq.trans ?_ (slRange _ _ (clip1_lo lo (Int.le_refl 0)) (clip1_lo hi (Int.natCast_nonneg _)))
  unfold Builtin.Str.strSliceIndices
  simp only [← e1]
  rfl
theorem cps_len (x : Str) : x.cps.toList.length = x.length := Array.length_toList
theorem cutS_eq (x : Str) (lo hi : Option Int) : (Builtin.Str.strSliceIndices lo hi 1 x.length).filterMap (x.cps[·]?) = (cutS x lo hi).cps.toList := by
  have e : (fun i : Nat => x.cps[i]?) = fun i : Nat => x.cps.toList[i]? := funext fun i => (Array.getElem?_toList ..).symm
  rw [strIdx, e, pick_range _ _ _ (Int.toNat_le.mpr (cps_len x ▸ clip1_hi hi (Int.le_refl _) (Int.natCast_nonneg _)))]
  rfl
theorem VRs.pick {h : Heap} {l : List MV} {r : List Value} (hl : VRs C g h l r) (is : List Nat) : VRs C g h (is.filterMap (l[·]?)) (is.filterMap (r[·]?)) := by
  induction is with
  | nil => exact .nil
  | cons i is ih =>
    rw [List.filterMap_cons, List.filterMap_cons]
    cases hi : l[i]? with
    | none => rw [List.getElem?_eq_none_iff.mpr (hl.length ▸ List.getElem?_eq_none_iff.mp hi)]; exact ih
    | some m =>
      obtain ⟨v, hv, hm⟩ := hl.get hi
      rw [hv]
      exact .cons hm ih
noncomputable def Slc (C : Cx) (A : Around) (fm : Fm) (a : MV) (lo hi st : Option Int) (loc : Loc) (σ : Hp) (Q : MV → Hp → Prop) : Prop :=
  ∀ fa g s x sl vl vu vs, Rel C g σ fm fa loc s → VR C g s.heap a x → s.heap.IsSliceOf sl vl vu vs → IsPart vl lo → IsPart vu hi → IsPart vs st →
    (∃ T id, s.TypeIs x T ∧ typeLookup (.type T) "__getitem__" = pure (some (.builtin id))) ∧ wpAny (model C.prog C.w) A (getItem x (.ref sl)) (Post C fm fa loc g s Q) NoE s
theorem ev_slice {v : Expr} {lo hi st : Option Expr} {p pos : Pos} (h : Ev C A fm v loc σ fun a σ₁ => EvO C A fm lo loc σ₁ fun l σ₂ => EvO C A fm hi loc σ₂ fun u σ₃ => EvO C A fm st loc σ₃ fun t σ₄ => Slc C A fm a l u t loc σ₄ Q) :
    Ev C A fm (.Subscript v (.Slice lo hi st p) pos) loc σ Q := fun fa g s r => by
  refine Subscript_ (wpAny_mono (h fa g s r) ?_ fun _ _ e => e)
  rintro x s₁ ⟨g₁, a, σ₁, r₁, hx, d₁, h₁⟩
  refine wpAny_Slice (wpAny_mono (h₁.run fa g₁ s₁ r₁) ?_ fun _ _ e => e)
  rintro vl s₂ ⟨g₂, σ₂, l, r₂, pl, d₂, h₂⟩
  refine wpAny_mono (h₂.run fa g₂ s₂ r₂) ?_ fun _ _ e => e
  rintro vu s₃ ⟨g₃, σ₃, u, r₃, pu, d₃, h₃⟩
  refine wpAny_mono (h₃.run fa g₃ s₃ r₃) ?_ fun _ _ e => e
  rintro vs s₄ ⟨g₄, σ₄, t, r₄, ps, d₄, h₄⟩
  have k : ∀ b o', s₄.heap.get? b = some o' → (s₄.heap.push { cls := .type "slice", data := .fields #[vl, vu, vs] }).get? b = some o' := fun b o' e => Heap.get?_push_of_some _ e
  have hs := size_push_le s₄.heap { cls := .type "slice", data := .fields #[vl, vu, vs] }
  have r₅ : Rel C g₄ σ₄ fm fa loc { s₄ with heap := s₄.heap.push { cls := .type "slice", data := .fields #[vl, vu, vs] } } := r₄.ext k hs
  have d₅ : Gd C fa g₄ s₄ g₄ { s₄ with heap := s₄.heap.push { cls := .type "slice", data := .fields #[vl, vu, vs] } } := .ext k hs rfl rfl rfl
  have dd := d₂.trans (d₃.trans (d₄.trans d₅))
  obtain ⟨⟨T, id, hT, hl⟩, hg⟩ := h₄ fa g₄ _ x s₄.heap.objs.size vl vu vs r₅ (hx.mono (r₁.ge dd)) (.new ..) pl pu ps
  obtain ⟨ops, ho⟩ := subscripted_ops (.Slice lo hi st p) x (.ref s₄.heap.objs.size)
  exact tail_any hT hl (wpAny_mono hg (fun _ _ p => p.trans (d₁.trans dd)) fun _ _ e => e) ho
theorem slc_lst {a : MV} {l : List MV} {lo hi st : Option Int} (ha : lstOf σ a = some l) (hl : l.length ≤ 1000000) (hst : st ≠ some 0) (q : Q (.lst (cutL l lo hi st)) σ) : Slc C A fm a lo hi st loc σ Q := by
  intro fa g s x sl vl vu vs r hx hs pl pu ps
  obtain ⟨b, xs, rfl, ho, hv⟩ := r.gr.lst ha hx
  refine ⟨⟨_, _, ho.typeIs, slot_list_getitem.lookup⟩, wpAny_getItem_list_slice ho hs pl pu ps hst ?_ (sizeLine_ge (by show xs.length ≤ _; rw [← hv.length]; exact hl))⟩
  have e : slicePick ⟨xs⟩ lo hi st = ⟨(slIdx lo hi st l.length).filterMap (xs[·]?)⟩ := by
    unfold slicePick slIdx
    have : (Array.mk xs).size = l.length := by rw [hv.length]; rfl
    rw [this]
    simp
  rw [e]
  exact Post.lst r (hv.pick _) q
theorem part_of {v : Value} {i : Option Int} (h : IsPart v i) : ∃ p : Option (Int × Tok), v = partValue p ∧ p.map (·.1) = i := by
  cases h with
  | none => exact ⟨none, rfl, rfl⟩
  | int i t => exact ⟨some (i, t), rfl, rfl⟩
theorem cutS_all (x : Str) {l u : Option Int} (h : (clip1 u x.length x.length).toNat - (clip1 l 0 x.length).toNat = x.length) : cutS x l u = x := by
  have h3 : (clip1 u x.length x.length).toNat ≤ x.length := Int.toNat_le.mpr (clip1_hi u (Int.le_refl _) (Int.natCast_nonneg _))
  generalize hb : (clip1 u x.length x.length).toNat = b at h h3
  generalize ha : (clip1 l 0 x.length).toNat = a at h
  have e : (x.cps.toList.drop a).take (b - a) = x.cps.toList := by
    cases a with
    | zero => exact List.take_of_length_le (cps_len x ▸ Nat.le_of_eq h.symm)
    | succ a =>
      have h0 : x.cps.toList = [] := List.length_eq_zero_iff.mp ((cps_len x).trans (by (first | lia | omega)))
      rw [h0, List.drop_nil, List.take_nil]
  unfold cutS
  rw [hb, ha, e]
theorem slc_str {x : Str} {lo hi : Option Int} (q : Q (.str (cutS x lo hi)) σ) (hx : x.length ≤ 1000000) : Slc C A fm (.str x) lo hi none loc σ Q := by
  intro fa g s v sl vl vu vs r hv hs pl pu ps
  obtain ⟨t, rfl⟩ := hv.inv
  refine ⟨⟨"str", _, typeIs_str .., slot_str_getitem.lookup⟩, ?_⟩
  refine via_p fun P kP => ?_
  obtain ⟨l, rfl, rfl⟩ := part_of pl
  refine kP ?_
  clear kP P
  refine via_p fun P kP => ?_
  obtain ⟨u, rfl, rfl⟩ := part_of pu
  refine kP ?_
  clear kP P
  cases ps
  refine wpAny_getItem_str_slice (l := l) (u := u) (st := none) hs rfl ?_
  unfold sliceMade slicePicked
  rw [show ((none : Option (Int × Tok)).map (·.1)).getD 1 = 1 from rfl]
  generalize l.map (·.1) = lo at *
  generalize u.map (·.1) = hi at *
  split
  · rename_i hh
    simp only [Bool.and_eq_true, beq_iff_eq] at hh
    rw [strIdx, List.length_map, List.length_range] at hh
    rw [cutS_all x hh.2] at q
    exact .now r (.str ..) q
  · rw [cutS_eq]
    refine ⟨sizeLine_ge (Nat.le_trans ?_ hx), .tok r (.str ..) q⟩
    exact Nat.le_trans (List.length_take_le' ..) (Nat.le_trans (Nat.le_trans (Nat.le_of_eq List.length_drop) (Nat.sub_le ..)) (Nat.le_of_eq (cps_len x)))
end
end
section
section
variable {C : Cx} {A : Around} {fm : Fm} {fa : List Addr} {loc : Loc} {σ : Hp} {g : Gh} {s : Shared} {Q Q' : MV → Hp → Prop} {QB : Bool → Hp → Prop} {QS : Fl → Loc → Hp → Prop}
noncomputable abbrev St (C : Cx) (A : Around) (fm : Fm) (t : Expr) (m : MV) (loc : Loc) (σ : Hp) (Q : Loc → Hp → Prop) : Prop := StT C A fm (assign t fm.env) m loc σ Q
theorem st_name {x : Str} {p : Pos} {m : MV} {Q : Loc → Hp → Prop} (hx : canSt fm x) (q : Q (loc.set x m) σ) : St C A fm (.Name x p) m loc σ Q := fun fa g s v r hv =>
  wpAny_assign_Name (store_name r hv hx fun s' r' d => ⟨g, _, σ, r', d, q⟩)
noncomputable def setAll : List Str → List MV → Loc → Loc
  | x :: xs, m :: ms, l => setAll xs ms (l.set x m)
  | _, _, l => l
theorem inOrder {Q : Loc → Hp → Prop} {xs : List Str} : ∀ {ps : List Pos} {ms : List MV} {vs : List Value} {loc : Loc} {g : Gh} {s : Shared}, (∀ x ∈ xs, canSt fm x) → xs.length = ps.length → xs.length = ms.length → Rel C g σ fm fa loc s → VRs C g s.heap ms vs →
    Q (setAll xs ms loc) σ → wpAny (model C.prog C.w) A (assignInOrder ((xs.zip ps).map fun p => assign (.Name p.1 p.2) fm.env) vs) (PostU C fm fa g s Q) NoE s := by
  induction xs with
  | nil =>
    intro ps ms vs loc g s _ _ hl r hv q
    obtain rfl := List.eq_nil_of_length_eq_zero hl.symm
    obtain rfl : vs = [] := hv.inv
    exact wpAny_pure ⟨g, loc, σ, r, .refl .., q⟩
  | cons x xs ih =>
    intro ps ms vs loc g s hx h1 h2 r hv q
    cases ps with
    | nil => exact nomatch h1
    | cons p ps =>
    cases ms with
    | nil => exact nomatch h2
    | cons m ms =>
    obtain ⟨v, vs, rfl, hv, hvs⟩ := hv.inv
    refine wpAny_bind (wpAny_holding (wpAny_assign_Name (store_name r hv (hx x (.head _)) fun s' r' d => ?_)))
    exact wpAny_mono (ih (fun y hy => hx y (.tail _ hy)) (Nat.succ.inj h1) (Nat.succ.inj h2) r' (hvs.mono (r.ge d)) q) (fun _ _ p => p.trans d) fun _ _ e => e
theorem st_tup {es : List Expr} {xs : List Str} {ps : List Pos} {k : Nat} {pos : Pos} {ms : List MV} {Q : Loc → Hp → Prop} (he : assignEach es fm.env = (xs.zip ps).map fun p => (false, assign (.Name p.1 p.2) fm.env))
    (hh : A.handled = none) (hx : ∀ x ∈ xs, canSt fm x) (h1 : xs.length = ps.length) (h2 : xs.length = ms.length) (q : Q (setAll xs ms loc) σ) : St C A fm (.Tuple es k pos) (.tup ms) loc σ Q := fun fa g s v r hv => by
  obtain ⟨a, vs, rfl, hp, ho, hl⟩ := hv.inv
  have hn : (assignEach es fm.env).length = (Array.mk vs).size := by
    rw [he, List.length_map, List.length_zip, ← h1, Nat.min_self, h2]; exact hl.length
  have hst : (assignEach es fm.env).findIdx? (·.1) = none := by rw [he, List.findIdx?_eq_none_iff]; intro x hx; obtain ⟨p, _, rfl⟩ := List.mem_map.mp hx; rfl
  rw [arm_assign_Tuple]
  refine wpAny_bind (wpAny_standAt ?_)
  unfold unpack
  rw [hn, hst]
  refine wpAny_bind (wpAny_holding (withSize (wpAny_unpackItems_tuple hh ho fun h' hk hz => ?_)))
  have k : ∀ b o, s.heap.get? b = some o → h'.get? b = some o := fun b o e => hk b o (Nat.ne_of_lt (Heap.lt_size e)) e
  rw [he, List.map_map]
  have d : Gd C fa g s g { s with heap := h' } := .ext k hz rfl rfl rfl
  exact wpAny_mono (inOrder (vs := vs) hx h1 h2 (r.ext k hz) (hl.mono (r.ge d)) q) (fun _ _ p => p.trans d) fun _ _ e => e
theorem ex_asg {t e : Expr} {pos : Pos} (h : Ev C A fm e loc σ fun m σ₁ => St C A fm t m loc σ₁ fun l σ₂ => QS .next l σ₂)
    (he : (assignEach [t] fm.env).map (·.2) = [assign t fm.env]) (hs : swapsWithSole [t] e pos.line fm.env = pure false) (hw : swappedStores [t] e fm.env = pure none) : Ex C A fm (.Assign [t] e pos) loc σ QS := fun fa g s r => by
  refine wpAny_Assign_stores (wpAny_mono (h fa g s r) ?_ fun _ _ e => e) hs hw
  rintro v s₁ ⟨g₁, m, σ₁, r₁, hv, d₁, h₁⟩
  rw [he]
  show wpAny _ A (assign t fm.env v) _ _ _
  refine wpAny_mono (h₁ fa g₁ s₁ v r₁ hv) ?_ fun _ _ e => e
  rintro _ s₂ ⟨g₂, l₂, σ₂, r₂, d₂, q⟩
  exact ⟨g₂, .next, l₂, σ₂, r₂, .next, d₁.trans d₂, q⟩
theorem ex_asg2 {t₁ t₂ e : Expr} {pos : Pos} (h : Ev C A fm e loc σ fun m σ₁ => St C A fm t₁ m loc σ₁ fun l σ₂ => St C A fm t₂ m l σ₂ fun l σ₃ => QS .next l σ₃)
    (he : (assignEach [t₁, t₂] fm.env).map (·.2) = [assign t₁ fm.env, assign t₂ fm.env] := by rfl) (hw : swappedStores [t₁, t₂] e fm.env = pure none := by rfl) : Ex C A fm (.Assign [t₁, t₂] e pos) loc σ QS := fun fa g s r => by
  refine wpAny_Assign_two (wpAny_mono (h fa g s r) ?_ fun _ _ e => e) he hw
  rintro v s₁ ⟨g₁, m, σ₁, r₁, hv, d₁, h₁⟩
  refine wpAny_mono (h₁ fa g₁ s₁ v r₁ hv) ?_ fun _ _ e => e
  rintro _ s₂ ⟨g₂, l₂, σ₂, r₂, d₂, h₂⟩
  refine wpAny_mono (h₂ fa g₂ s₂ v r₂ (hv.mono (r₁.ge d₂))) ?_ fun _ _ e => e
  rintro _ s₃ ⟨g₃, l₃, σ₃, r₃, d₃, q⟩
  exact ⟨g₃, .next, l₃, σ₃, r₃, .next, d₁.trans (d₂.trans d₃), q⟩
noncomputable def Set (C : Cx) (A : Around) (fm : Fm) (o i v : MV) (loc : Loc) (σ : Hp) (Q : Hp → Prop) : Prop :=
  ∀ fa g s x y z, Rel C g σ fm fa loc s → VR C g s.heap o x → VR C g s.heap i y → VR C g s.heap v z → wpAny (model C.prog C.w) A (setItem x y z) (PostU C fm fa g s fun l σ' => l = loc ∧ Q σ') NoE s
theorem ex_set {o i e : Expr} {p pos : Pos} (h : Ev C A fm e loc σ fun v σ₁ => Ev C A fm o loc σ₁ fun a σ₂ => Ev C A fm i loc σ₂ fun b σ₃ => Set C A fm a b v loc σ₃ fun σ₄ => QS .next loc σ₄)
    (hs : swapsWith e (some (.Subscript o i p)) pos.line fm.env = pure false := by rfl) : Ex C A fm (.Assign [.Subscript o i p] e pos) loc σ QS := fun fa g s r => by
  refine wpAny_Assign_Subscript (wpAny_mono (h fa g s r) ?_ fun _ _ e => e) hs
  rintro z s₁ ⟨g₁, v, σ₁, r₁, hz, d₁, h₁⟩
  refine wpAny_mono (h₁ fa g₁ s₁ r₁) ?_ fun _ _ e => e
  rintro x s₂ ⟨g₂, a, σ₂, r₂, hx, d₂, h₂⟩
  refine wpAny_mono (h₂ fa g₂ s₂ r₂) ?_ fun _ _ e => e
  rintro y s₃ ⟨g₃, b, σ₃, r₃, hy, d₃, h₃⟩
  refine wpAny_mono (h₃ fa g₃ s₃ x y z r₃ (hx.mono (r₂.ge d₃)) hy (hz.mono (r₁.ge (d₂.trans d₃)))) ?_ fun _ _ e => e
  rintro _ s₄ ⟨g₄, l, σ₄, r₄, d₄, rfl, q⟩
  exact ⟨g₄, .next, _, σ₄, r₄, .next, d₁.trans (d₂.trans (d₃.trans d₄)), q⟩
theorem VRs.set {h : Heap} {l : List MV} {r : List Value} (hl : VRs C g h l r) {m : MV} {v : Value} (hv : VR C g h m v) : ∀ i : Nat, VRs C g h (l.set i m) (r.set i v) := by
  induction l generalizing r with
  | nil => exact fun i => hl.inv ▸ .nil
  | cons a l ih =>
    obtain ⟨x, xs, rfl, ha, hl⟩ := hl.inv
    intro i
    cases i with
    | zero => exact .cons hv hl
    | succ i => exact .cons ha (ih hl i)
theorem setItem_plain {A : Around} {E : Value → Shared → Prop} {l : Addr} {items : Array Value} {k : Int} {t : Tok} {v : Value} {Q : Unit → Shared → Prop} (hl : s.heap.PlainList l items)
    (h0 : 0 ≤ k) (hfit : k < 2 ^ 63) (hn : k < items.size)
    (hQ : ∀ h', h'.PlainList l (items.setIfInBounds k.toNat v) → Heap.SameBut l s.heap h' → Q () { s with heap := h' }) :
    wpAny (model C.prog C.w) A (setItem (.ref l) (.int k t) v) Q E s := by
  have hl' := hl.isList
  obtain ⟨ne, ho⟩ := hl
  unfold setItem
  try with_reducible refine wpAny_holding ?_
  first | refine wpAny_bind (wpAny_pure ?_) | skip
  refine wpAny_bind (wpAny_sequenceKey hl'.typeIs (by decide) ?_)
  refine wpAny_bind (wpAny_callSpecial?_slot (name := Str.ofString "__setitem__") hl'.typeIs slot_list_setitem
    (wpAny_call_entry slot_list_setitem hl'.typeIs entry_list_setitem ?_ (args_list_setitem _ _ _)))
  show wpAny _ _ (Builtin.List.listSubscript? (.int k t) >>= _) _ _ s
  refine wpAny_bind (wpAny_listSubscript_int (fitsIndex_of h0 hfit) ?_)
  clear hfit
  obtain ⟨j, rfl⟩ := Int.eq_ofNat_of_zero_le h0
  have hj : j < items.size := by (first | lia | omega)
  have hx' : items[j]? = some items[j] := Array.getElem?_eq_getElem hj
  show wpAny _ _ ((seqItemAt l j >>= fun r => pure (r.map (j, ·))) >>= _) _ _ s
  refine wpAny_bind (wpAny_bind (wpAny_seqItemAt ho rfl (wpAny_pure ?_)))
  rw [hx']
  show wpAny _ _ (setSeqItemAt l j v >>= _) _ _ s
  have hfin : (s.heap.update l (Obj.mapSeq (·.setIfInBounds j v))).PlainList l (items.setIfInBounds j v) := by
    have e : Obj.mapSeq (·.setIfInBounds j v) (lstObj items ne) = lstObj (items.setIfInBounds j v) ne := by simp [Obj.mapSeq]
    exact ⟨ne, by rw [Heap.get?_update_self _ ho (by rw [e]; rfl), e]⟩
  refine wpAny_bind (wpAny_setSeqItemAt ho rfl ?_)
  first
    | exact wpAny_bind (wpAny_pure (wpAny_pure ⟨.none, rfl, wpAny_pure (hQ _ hfin (Heap.SameBut.update ..))⟩))
    | exact wpAny_pure ⟨.none, rfl, wpAny_pure (hQ _ hfin (Heap.SameBut.update ..))⟩
theorem set_list {n : Nat} {l : List MV} {k : Int} {v : MV} {Q : Hp → Prop} (hn : σ n = some (.list l)) (h0 : 0 ≤ k) (hk : k < l.length) (hf : k < 1000000000) (q : Q (σ.set n (.list (l.set k.toNat v)))) : Set C A fm (.ref n) (.int k) v loc σ Q := by
  intro fa g s x y z r hx hy hz
  obtain ⟨_, rfl⟩ := hy.inv
  obtain ⟨a, rfl, ha⟩ := hx.inv
  obtain ⟨xs, ho, hl⟩ := (r.gr.obj ha hn).inv
  have ht : ∀ b ∈ C.tabs, b < C.N0 := fun b hb => (r.gr.tabs b hb).1
  obtain ⟨hN, _, hP⟩ := r.gr.live n a ha
  refine setItem_plain ho h0 (lt63 hf) (Int.lt_of_lt_of_le hk (Int.ofNat_le.mpr (Nat.le_of_eq hl.length))) fun h' hL hb => ?_
  have hg : Ge g g s.heap h' := ⟨fun _ _ e => e, fun _ e => e, fun b o hp e => hb.extBut b o (fun q => hP (q ▸ hp)) e⟩
  have hL' : h'.PlainList a ⟨xs.set k.toNat z⟩ := by simpa using hL
  exact ⟨g, loc, _, r.upd (s' := { s with heap := h' }) ha hb (.list hL' ((hl.set hz _).mono hg)), .upd ha hN ht hb rfl rfl rfl, rfl, q⟩
end
end
section
section
variable {C : Cx} {A : Around} {fm : Fm} {fa : List Addr} {loc : Loc} {σ : Hp} {g : Gh} {s : Shared} {Q Q' : MV → Hp → Prop} {QB : Bool → Hp → Prop} {QS : Fl → Loc → Hp → Prop}
section
variable {i j : Int}
theorem op_eq (q : Q (.bool (i == j)) σ) : Op2 C A fm (compareOp .Eq) (.int i) (.int j) loc σ Q := op_int fun fa g s _ _ r => eq_int (.now r (.bool _) q)
theorem op_ne (q : Q (.bool (i != j)) σ) : Op2 C A fm (compareOp .NotEq) (.int i) (.int j) loc σ Q := op_int fun fa g s _ _ r => ne_int (.now r (.bool _) q)
theorem op_lt (q : Q (.bool (decide (i < j))) σ) : Op2 C A fm (compareOp .Lt) (.int i) (.int j) loc σ Q := op_int fun fa g s _ _ r => lt_int (.now r (.bool _) q)
theorem op_gt (q : Q (.bool (decide (i > j))) σ) : Op2 C A fm (compareOp .Gt) (.int i) (.int j) loc σ Q := op_int fun fa g s _ _ r => gt_int (.now r (.bool _) q)
theorem op_ge (q : Q (.bool (decide (i ≥ j))) σ) : Op2 C A fm (compareOp .GtE) (.int i) (.int j) loc σ Q := op_int fun fa g s _ _ r => ge_int (.now r (.bool _) q)
theorem op_neg (q : Q (.int (-i)) σ) : Op1 C A fm (unaryOp .USub) (.int i) loc σ Q := fun fa g s x r hx => hx.inv.elim fun _ e => e ▸ neg_int (.tok r (.int ..) q)
theorem op_iadd (q : Q (.int (i + j)) σ) : Op2 C A fm (inplaceOp .Add) (.int i) (.int j) loc σ Q := op_int fun fa g s _ _ r => iadd_int (.tok r (.int ..) q)
theorem op_isub (q : Q (.int (i - j)) σ) : Op2 C A fm (inplaceOp .Sub) (.int i) (.int j) loc σ Q := op_int fun fa g s _ _ r => isub_int (.tok r (.int ..) q)
theorem op_div (hi : -1000000000000 < i ∧ i < 1000000000000) (hj : 0 < j) (hj1 : j < 1000000) (q : Q (.int (i / j)) σ) : Op2 C A fm (binaryOp .FloorDiv) (.int i) (.int j) loc σ Q := by
  refine op_int fun fa g s _ _ r => ?_
  refine floordiv_int (Int.ne_of_gt hj) ?_ (Or.inl (PyProof.noPylong_small (by (first | lia | omega))))
  rw [Int.fdiv_eq_ediv_of_nonneg _ (Int.le_of_lt hj)]
  exact .tok r (.int ..) q
end
theorem str_beq (x y : Str) : (x.cps.toList == y.cps.toList) = decide (x = y) := by
  by_cases h : x = y
  · subst h; simp
  · have : ¬ x.cps.toList = y.cps.toList := fun e => h (by cases x; cases y; simp at e; rw [e])
    rw [decide_eq_false h]
    simpa using this
section
variable {x y : Str}
theorem op_str {f : Value → Value → Sem Value} (h : ∀ fa g s t u, Rel C g σ fm fa loc s → wpAny (model C.prog C.w) A (f (.str x t) (.str y u)) (Post C fm fa loc g s Q) NoE s) : Op2 C A fm f (.str x) (.str y) loc σ Q := fun fa g s a b r hx hy => by
  obtain ⟨t, rfl⟩ := hx.inv
  obtain ⟨u, rfl⟩ := hy.inv
  exact h fa g s t u r
theorem op_eqs (q : Q (.bool (decide (x = y))) σ) : Op2 C A fm (compareOp .Eq) (.str x) (.str y) loc σ Q := by
  refine op_str fun fa g s _ _ r => ?_; refine PySem.P.eq_str ?_; rw [str_beq]; exact .now r (.bool _) q
theorem op_ins (q : Q (.bool (Txt.contains x y)) σ) : Op2 C A fm (compareOp .In) (.str y) (.str x) loc σ Q := by
  refine op_str fun fa g s _ _ r => ?_; exact PySem.SB.contains (.now r (.bool _) q)
theorem op_adds (hl : x.length + y.length ≤ 1000000) (q : Q (.str (x ++ y)) σ) : Op2 C A fm (binaryOp .Add) (.str x) (.str y) loc σ Q := by
  refine op_str fun fa g s _ _ r => ?_; exact PyProof.Rows.add_str (fun t' tk => .tok r (.str ..) q) (sizeLine_ge hl)
theorem op_iadds (hl : x.length + y.length ≤ 1000000) (q : Q (.str (x ++ y)) σ) : Op2 C A fm (inplaceOp .Add) (.str x) (.str y) loc σ Q := by
  refine op_str fun fa g s _ _ r => ?_; exact PyProof.Rows.iadd_str (fun t' tk => .tok r (.str ..) q) (sizeLine_ge hl)
end
theorem VRs.ints {h : Heap} {ns : List Int} {vs : List Value} (x : VRs C g h (ns.map MV.int) vs) : IntsAre vs ns := by
  induction ns generalizing vs with
  | nil => exact x.inv ▸ .nil
  | cons n ns ih =>
    obtain ⟨v, r, rfl, y, z⟩ := x.inv
    obtain ⟨t, rfl⟩ := y.inv
    exact .cons n t (ih z)
theorem op_nini {a : MV} {ns : List Int} {k : Int} (ha : lstOf σ a = some (ns.map MV.int)) (q : Q (.bool (!(ns.any (· == k)))) σ) : Op2 C A fm (compareOp .NotIn) (.int k) a loc σ Q := by
  intro fa g s x y r hx ha'
  obtain ⟨t, rfl⟩ := hx.inv
  obtain ⟨b, xs, rfl, ho, hl⟩ := r.gr.lst ha ha'
  exact notin_list_ints (vs := xs) ho hl.ints (.now r (.bool _) q)
theorem GR.notMods (r : GR C g σ s) {a : Addr} (h : C.N0 ≤ a) : (a == sysModules) = false := by
  have h1 := r.lo
  have h2 : sysModules = 1 := rfl
  rw [h2]
  exact beq_eq_false_iff_ne.mpr (fun q => by rw [q] at h; exact absurd (Nat.le_trans h1 h) (by decide))
theorem VRd.isSome {h : Heap} {x : Str} {l : List (Str × MV)} {kvs : List (Str × Value)} (hl : VRd C g h l kvs) : (valueAt kvs x).isSome = (valAt l x).isSome := by
  cases e : valAt l x with
  | none => rw [hl.no e]; rfl
  | some m => obtain ⟨v, hv, _⟩ := hl.at e; rw [hv]; rfl
theorem op_ind {a : MV} {l : List (Str × MV)} {k : Str} (ha : dctOf σ a = some l) (q : Q (.bool (valAt l k).isSome) σ) : Op2 C A fm (compareOp .In) (.str k) a loc σ Q := by
  intro fa g s x y r hx ha'
  obtain ⟨t, rfl⟩ := hx.inv
  obtain ⟨b, kvs, rfl, ho, hl, hN⟩ := r.gr.dct ha ha'
  refine wpAny_in_of (strKind_is ..) (r.gr.notMods hN) ho.mapOf ?_
  rw [hl.isSome]
  exact .tok r (.bool _) q
theorem op_nind {a : MV} {l : List (Str × MV)} {k : Str} (ha : dctOf σ a = some l) (q : Q (.bool (!(valAt l k).isSome)) σ) : Op2 C A fm (compareOp .NotIn) (.str k) a loc σ Q := by
  intro fa g s x y r hx ha'
  obtain ⟨t, rfl⟩ := hx.inv
  obtain ⟨b, kvs, rfl, ho, hl, hN⟩ := r.gr.dct ha ha'
  refine wpAny_notIn_of (strKind_is ..) (r.gr.notMods hN) ho.mapOf ?_
  rw [hl.isSome]
  exact .tok r (.bool _) q
noncomputable def putAt : List (Str × MV) → Str → MV → List (Str × MV)
  | [], k, v => [(k, v)]
  | (y, u) :: l, k, v => if y = k then (y, v) :: l else (y, u) :: putAt l k v
theorem putAt_cons (y : Str) (u : MV) (l : List (Str × MV)) (k : Str) (v : MV) : putAt ((y, u) :: l) k v = if y = k then (y, v) :: l else (y, u) :: putAt l k v := rfl
theorem VRd.keys {h : Heap} {l : List (Str × MV)} {kvs : List (Str × Value)} (x : VRd C g h l kvs) : l.map (·.1) = kvs.map (·.1) := by
  induction l generalizing kvs with
  | nil => exact x.inv ▸ rfl
  | cons p l ih => obtain ⟨v, r, rfl, _, y⟩ := x.inv; exact congrArg (p.1 :: ·) (ih y)
theorem VRd.len {h : Heap} {l : List (Str × MV)} {kvs : List (Str × Value)} (hl : VRd C g h l kvs) : l.length = kvs.length := by
  have := congrArg List.length hl.keys
  simpa using this
theorem stored_hit {y k : Str} {u v : Value} {r : List (Str × Value)} (hy : y = k) (hn : ¬ y ∈ r.map (·.1)) : PySem.stored ((y, u) :: r) k v = (y, v) :: r := by
  unfold PySem.stored
  rw [if_pos (by simp [hy]), List.map_cons, map_store_of_not_mem _ _ _ (by rw [← hy]; exact hn)]
  simp [hy]
theorem stored_miss {y k : Str} {u v : Value} {r : List (Str × Value)} (hy : ¬ y = k) : PySem.stored ((y, u) :: r) k v = (y, u) :: PySem.stored r k v := by
  unfold PySem.stored
  by_cases hk : (r.any fun kv => decide (kv.1 = k)) = true
  · rw [if_pos hk, if_pos (by simp [hy] at hk ⊢; exact hk)]
    simp [hy]
  · rw [if_neg hk, if_neg (by simp [hy] at hk ⊢; exact hk)]
    rfl
theorem VRd.stored {h : Heap} {k : Str} {m : MV} {v : Value} (hv : VR C g h m v) {l : List (Str × MV)} {kvs : List (Str × Value)} (x : VRd C g h l kvs) (hn : (kvs.map (·.1)).Nodup) : VRd C g h (putAt l k m) (PySem.stored kvs k v) := by
  induction l generalizing kvs with
  | nil => exact x.inv ▸ .cons hv .nil
  | cons p l ih =>
    obtain ⟨u, r, rfl, a, b⟩ := x.inv
    rw [List.map_cons, List.nodup_cons] at hn
    show VRd C g h (if p.1 = k then (p.1, m) :: l else p :: putAt l k m) _
    by_cases hy : p.1 = k
    · rw [if_pos hy, stored_hit hy hn.1]
      exact .cons hv b
    · rw [if_neg hy, stored_miss hy]
      exact .cons a (ih b hn.2)
theorem set_dict {n : Nat} {l : List (Str × MV)} {k : Str} {v : MV} {Q : Hp → Prop} (hn : σ n = some (.dict l)) (hl : l.length ≤ 1000000) (q : Q (σ.set n (.dict (putAt l k v)))) : Set C A fm (.ref n) (.str k) v loc σ Q := by
  intro fa g s x y z r hx hy hz
  obtain ⟨t, rfl⟩ := hy.inv
  obtain ⟨a, rfl, ha⟩ := hx.inv
  obtain ⟨kvs, ho, hd⟩ := (r.gr.obj ha hn).inv
  have hN := (r.gr.live n a ha).1
  have ht : ∀ b ∈ C.tabs, b < C.N0 := fun b hb => (r.gr.tabs b hb).1
  obtain ⟨_, _, hP⟩ := r.gr.live n a ha
  refine via_p fun P kP => ?_
  obtain ⟨o, es, ep, ho1, ho2, ho3, ho4, ho5, hnd⟩ := id ho
  refine kP ?_
  clear kP P
  refine wpAny_setItem_pairs (strKind_is ..) ho (fun h' hL hb => ?_) (sizeLine_ge (by rw [← hd.len]; exact hl))
  have hg : Ge g g s.heap h' := ⟨fun _ _ e => e, fun _ e => e, fun b o hp e => hb.extBut b o (fun q => hP (q ▸ hp)) e⟩
  exact ⟨g, loc, _, r.upd (s' := { s with heap := h', toks := s.toks + 1 }) ha hb (.dict hL ((hd.stored hz hnd).mono hg)), .upd ha hN ht hb rfl rfl rfl, rfl, q⟩
theorem ex_augset {o i e : Expr} {p pos : Pos} {op : Operator} (h : Ev C A fm o loc σ fun a σ₁ => Ev C A fm i loc σ₁ fun b σ₂ => Itm C A fm a b loc σ₂ fun c σ₃ => Ev C A fm e loc σ₃ fun d σ₄ => Op2 C A fm (inplaceOp op) c d loc σ₄ fun k σ₅ => Set C A fm a b k loc σ₅ fun σ₆ => QS .next loc σ₆)
    (hi : ∀ ov iv new, augStore i ov iv new = (do holding [new, ov, iv] (setItem ov iv new); release [new, ov, iv] []; pure .next) := by intros; rfl) : Ex C A fm (.AugAssign (.Subscript o i p) op e pos) loc σ QS := fun fa g s r => by
  refine wpAny_AugAssign_SubscriptAny (wpAny_mono (h fa g s r) ?_ fun _ _ e => e) hi
  rintro x s₁ ⟨g₁, a, σ₁, r₁, hx, d₁, h₁⟩
  refine wpAny_mono (h₁ fa g₁ s₁ r₁) ?_ fun _ _ e => e
  rintro y s₂ ⟨g₂, b, σ₂, r₂, hy, d₂, h₂⟩
  refine wpAny_mono (h₂ fa g₂ s₂ x y r₂ (hx.mono (r₁.ge d₂)) hy).2 ?_ fun _ _ e => e
  rintro z s₃ ⟨g₃, c, σ₃, r₃, hz, d₃, h₃⟩
  refine wpAny_mono (h₃ fa g₃ s₃ r₃) ?_ fun _ _ e => e
  rintro u s₄ ⟨g₄, d, σ₄, r₄, hu, d₄, h₄⟩
  refine wpAny_mono (h₄ fa g₄ s₄ z u r₄ (hz.mono (r₃.ge d₄)) hu) ?_ fun _ _ e => e
  rintro v s₅ ⟨g₅, k, σ₅, r₅, hv, d₅, h₅⟩
  refine wpAny_mono (h₅ fa g₅ s₅ x y v r₅ (hx.mono (r₁.ge (d₂.trans (d₃.trans (d₄.trans d₅))))) (hy.mono (r₂.ge (d₃.trans (d₄.trans d₅)))) hv) ?_ fun _ _ e => e
  rintro _ s₆ ⟨g₆, l, σ₆, r₆, d₆, rfl, q⟩
  exact ⟨g₆, .next, _, σ₆, r₆, .next, d₁.trans (d₂.trans (d₃.trans (d₄.trans (d₅.trans d₆)))), q⟩
theorem op_addl {a b : MV} {l m : List MV} (ha : lstOf σ a = some l) (hb : lstOf σ b = some m) (hz : l.length + m.length ≤ 1000000) (q : Q (.lst (l ++ m)) σ) : Op2 C A fm (binaryOp .Add) a b loc σ Q := by
  intro fa g s x y r hx hy
  refine via_p fun P kP => ?_
  obtain ⟨a', xs, rfl, ho, hl⟩ := r.gr.lst ha hx
  refine kP ?_
  clear kP P
  refine via_p fun P kP => ?_
  obtain ⟨b', ys, rfl, ho', hl'⟩ := r.gr.lst hb hy
  refine kP ?_
  clear kP P
  refine via_p fun P kP => ?_
  obtain ⟨⟨cls, dd, data, sl⟩, h1, hc, n, hd⟩ := ho
  refine kP ?_
  clear kP P
  refine via_p fun P kP => ?_
  obtain ⟨⟨cls2, dd2, data2, sl2⟩, h2, hc2, n2, hd2⟩ := ho'
  refine kP ?_
  clear kP P
  simp only at hc hd hc2 hd2
  subst hc hd hc2 hd2
  have e1 := hl.length
  have e2 := hl'.length
  refine concat_meets ⟨_, h1, rfl⟩ ⟨_, h2, rfl⟩ noFill_list_add seq_list_add PySem.F.slot_list_add PySem.F.entry_list_add (PySem.F.args_list_add_2 _ _) (list_addW a' b' ⟨xs⟩ ⟨ys⟩ n n2 dd dd2 sl sl2 (sizeLine_ge (by show xs.length + ys.length ≤ _; (first | lia | omega)))) ⟨h1, h2, ?_⟩
  have e : (Array.mk xs ++ Array.mk ys) = Array.mk (xs ++ ys) := by simp
  rw [e]
  exact Post.lst r (hl.append hl') q
end
end
section
noncomputable def Free (C : Cx) (g : Gh) (wr : List Addr) : Prop := ∀ b ∈ wr, C.N0 ≤ b ∧ (∀ n, g.ρ n ≠ some b) ∧ ¬ g.P b
section
variable {C : Cx} {A : Around} {fm : Fm} {fa : List Addr} {loc : Loc} {σ : Hp} {g : Gh} {s : Shared} {Q Q' : MV → Hp → Prop} {QB : Bool → Hp → Prop} {QS : Fl → Loc → Hp → Prop}
theorem Rel.step {g' : Gh} {σ' : Hp} {s' : Shared} {wr : List Addr} (r : Rel C g σ fm fa loc s) (r' : GR C g' σ' s') (d : Gd C wr g s g' s') (hw : ∀ b ∈ wr, b ∉ fa ∧ ∀ x, fm.env.cells.lookup x ≠ some b) (hP : ∀ b ∈ wr, ¬ g.P b) : Rel C g' σ' fm fa loc s' := by
  have e : Ge g g' s.heap s'.heap := d.ge (fun n a e => (r.gr.live n a e).2.2) hP r.gr.tabP
  have hN : ∀ a, C.N0 ≤ a → a ∉ C.tabs := fun a h ht => Nat.lt_irrefl _ (Nat.lt_of_lt_of_le (r.gr.tabs a ht).1 h)
  have kf : ∀ a ∈ fa, ∀ o, s.heap.get? a = some o → s'.heap.get? a = some o := fun a ha o e => d.keep a o e (r.fr.fa a ha).2.2.2 (fun h => (hw a h).1 ha) (hN a (r.fr.fa a ha).1)
  have kc : ∀ x c, fm.env.cells.lookup x = some c → ∀ o, s.heap.get? c = some o → s'.heap.get? c = some o := fun x c hc o e =>
    d.keep c o e (r.fr.cells x c hc).2.2.2.1 (fun h => (hw c h).2 x hc) (hN c (r.fr.cells x c hc).2.2.1)
  refine ⟨r', r.fr.fn, r.fr.glob, r.fr.bi, ?_, r.fr.L, fun x v h => ?_, fun x c h => ?_, r.fr.own, r.fr.inj, fun a h => ?_, r.fr.has⟩
  · obtain ⟨m, o, es, ep, ho, q⟩ := r.fr.ns; exact ⟨m, o, es, ep, kf _ r.fr.L _ ho, q⟩
  · refine via_p fun P kP => ?_
    obtain ⟨u, hu, hv⟩ := r.fr.var x v h
    refine kP ?_
    clear kP P
    refine ⟨u, ?_, hv.mono e⟩
    rcases hu with ⟨q, m, ⟨o, es, ep, ho, q'⟩, em⟩ | ⟨q, c, hc, o, ho, q'⟩
    · exact .inl ⟨q, m, ⟨o, es, ep, kf _ r.fr.L _ ho, q'⟩, em⟩
    · exact .inr ⟨q, c, hc, o, kc x c hc _ ho, q'⟩
  · refine via_p fun P kP => ?_
    obtain ⟨⟨v, o, ho, q'⟩, c1, c2, c3, c5⟩ := r.fr.cells x c h
    refine kP ?_
    clear kP P
    have hl := Heap.lt_size ho
    exact ⟨⟨v, o, kc x c h _ ho, q'⟩, c1, c2, fun n hn => (d.ρn n c hn).elim (c3 n) fun w => Nat.lt_irrefl _ (Nat.lt_of_lt_of_le hl w),
      c5⟩
  · refine via_p fun P kP => ?_
    obtain ⟨x, y, z, w⟩ := r.fr.fa a h
    refine kP ?_
    clear kP P
    exact ⟨x, Nat.lt_of_lt_of_le y d.size, fun hp => (d.Pn a hp).elim z fun q => Nat.lt_irrefl _ (Nat.lt_of_lt_of_le y q), fun n hn => (d.ρn n a hn).elim (w n) fun q => Nat.lt_irrefl _ (Nat.lt_of_lt_of_le y q)⟩
theorem Free.step {g' : Gh} {s' : Shared} {wr fb : List Addr} (h : Free C g wr) (hl : ∀ b ∈ wr, b < s.heap.objs.size) (d : Gd C fb g s g' s') : Free C g' wr := fun b hb => by
  obtain ⟨h1, h2, h3⟩ := h b hb
  have hb' := hl b hb
  exact ⟨h1, fun n hn => (d.ρn n b hn).elim (h2 n) fun w => Nat.lt_irrefl _ (Nat.lt_of_lt_of_le hb' w), fun hp => (d.Pn b hp).elim h3 fun w => Nat.lt_irrefl _ (Nat.lt_of_lt_of_le hb' w)⟩
theorem GR.loop {h' : Heap} {tk : Nat} {wr : List Addr} (r : GR C g σ s) (hw : Free C g wr) (k : ∀ b o, b ∉ wr → s.heap.get? b = some o → h'.get? b = some o) (hs : s.heap.objs.size ≤ h'.objs.size) :
    GR C g σ { s with heap := h', toks := tk } ∧ Gd C wr g s g { s with heap := h', toks := tk } := by
  have hlo : ∀ b, b < C.N0 → b ∉ wr := fun b h q => Nat.lt_irrefl _ (Nat.lt_of_lt_of_le h (hw b q).1)
  have hρ : ∀ n a, g.ρ n = some a → a ∉ wr := fun n a h q => (hw a q).2.1 n h
  have hP : ∀ a, g.P a → a ∉ wr := fun a h q => (hw a q).2.2 h
  have e : Ge g g s.heap h' := ⟨fun _ _ e => e, fun _ e => e, fun a o hp e => k a o (hP a hp) e⟩
  refine ⟨⟨r.lo, fun p hp => ⟨(r.K p hp).1, (r.K p hp).2.1, k _ _ (hlo _ (r.K p hp).1) (r.K p hp).2.2⟩, ?_, Nat.le_trans r.size hs, fun n o h => ?_, r.inj, fun n a h => ?_, fun a h => ?_, fun a h => ?_, r.dom⟩, ?_⟩
  · obtain ⟨mc, ⟨o, es, ep, ho, q⟩, h0⟩ := r.lim
    exact ⟨mc, ⟨o, es, ep, k _ _ (hlo _ (Nat.lt_of_lt_of_le (by decide) r.lo)) ho, q⟩, h0⟩
  · obtain ⟨a, ha, ho⟩ := r.heap n o h
    exact ⟨a, ha, ho.mono e fun ob q => k _ _ (hρ n a ha) q⟩
  · obtain ⟨x, y, z⟩ := r.live n a h; exact ⟨x, Nat.lt_of_lt_of_le y hs, z⟩
  · obtain ⟨x, y⟩ := r.P a h; exact ⟨x, Nat.lt_of_lt_of_le y hs⟩
  · obtain ⟨x, vs, q, t⟩ := r.tabs a h; exact ⟨x, vs, k _ _ (hlo _ x) q, t.mono e⟩
  · exact ⟨fun b o e _ h2 _ => k b o h2 e, fun a ha ps q => ⟨#[], by
      have := k a _ (hlo a (r.tabs a ha).1) q
      rw [this]; simp⟩, hs, fun _ _ e => e, fun _ _ e => .inl e, fun _ e => e, fun _ e => .inl e, rfl, rfl, id⟩
inductive NextP (C : Cx) (wr : List Addr) (σ : Hp) (m : MV) (v : Value) (I : Gh → Hp → Heap → Prop) (g : Gh) (s s' : Shared) : Prop
  | mk (g' : Gh) (r : GR C g' σ s') (d : Gd C wr g s g' s') (hv : VR C g' s'.heap m v) (hi : I g' σ s'.heap)
structure Iter (C : Cx) (A : Around) (tg : Expr) (it : Value) (wr : List Addr) (n : Nat) (item : Nat → MV) (J : Hp → Prop) (IR : Nat → Gh → Hp → Heap → Prop) : Prop where
  next : ∀ i g σ s, GR C g σ s → Free C g wr → IR i g σ s.heap → J σ → i < n →
    wpAny (model C.prog C.w) A (pyNext it) (fun r s₁ => ∃ v, r = some v ∧ wpAny (model C.prog C.w) A (letOwnedTupleGo tg it v) (fun _ s₂ => NextP C wr σ (item i) v (IR (i + 1)) g s s₂) NoE s₁) NoE s
  done : ∀ g σ s, GR C g σ s → Free C g wr → IR n g σ s.heap → J σ →
    wpAny (model C.prog C.w) A (pyNext it) (fun r s₁ => r = none ∧ GR C g σ s₁ ∧ Gd C wr g s g s₁) NoE s
  stab : ∀ i g σ s g' σ' s' fb, GR C g σ s → Free C g wr → IR i g σ s.heap → J σ → Gd C fb g s g' s' → (∀ b ∈ wr, b ∉ fb) → (∀ b ∈ fb, ¬ g.P b) → GR C g' σ' s' → J σ' → IR i g' σ' s'.heap
  self : ∀ i g σ s, GR C g σ s → IR i g σ s.heap → J σ → ∀ Q, Q it s → wpAny (model C.prog C.w) A (pyIter it) Q NoE s
  live : ∀ i g σ s, GR C g σ s → IR i g σ s.heap → J σ → ∀ b ∈ wr, b < s.heap.objs.size
inductive WalkP (C : Cx) (A : Around) (tg : Expr) (σ : Hp) (n : Nat) (item : Nat → MV) (J : Hp → Prop) (g : Gh) (s : Shared) (it : Value) (s' : Shared) : Prop
  | mk (wr : List Addr) (IR : Nat → Gh → Hp → Heap → Prop) (W : Iter C A tg it wr n item J IR) (r : GR C g σ s') (d : Gd C [] g s g s') (hF : Free C g wr) (hz : ∀ b ∈ wr, s.heap.objs.size ≤ b) (hi : IR 0 g σ s'.heap)
noncomputable def Walk (C : Cx) (A : Around) (tg : Expr) (m : MV) (σ : Hp) (n : Nat) (item : Nat → MV) (J : Hp → Prop) : Prop :=
  J σ ∧ ∀ g s x, GR C g σ s → VR C g s.heap m x → wpAny (model C.prog C.w) A (pyIter x) (WalkP C A tg σ n item J g s) NoE s
inductive LoopI (C : Cx) (fm : Fm) (fa wr : List Addr) (n : Nat) (J : Hp → Prop) (IR : Nat → Gh → Hp → Heap → Prop) (Inv : Nat → Loc → Hp → Prop) (g₀ : Gh) (s₀ : Shared) (k : Nat) (s' : Shared) : Prop
  | mk (i : Nat) (g' : Gh) (l' : Loc) (σ' : Hp) (e : k + i = n) (r : Rel C g' σ' fm fa l' s') (d : Gd C fa g₀ s₀ g' s') (hI : Inv i l' σ') (hJ : J σ') (hF : Free C g' wr) (hi : IR i g' σ' s'.heap)
theorem Gd.loopD {wr : List Addr} {g₀ g₂ : Gh} {s₀ s₂ : Shared} (d' : Gd C fa g₀ s₀ g s) (d₂ : Gd C wr g s g₂ s₂) (hw0 : ∀ b ∈ wr, s₀.heap.objs.size ≤ b) : Gd C fa g₀ s₀ g₂ s₂ :=
  ((d'.weak (fa := wr ++ fa) fun a h => .inl (List.mem_append_right _ h)).trans (d₂.weak fun a h => .inl (List.mem_append_left _ h))).weak fun a h => (List.mem_append.mp h).elim (fun q => .inr (hw0 a q)) .inl
theorem loop_next {tg : Expr} {it : Value} {wr : List Addr} {n i k : Nat} {item : Nat → MV} {J : Hp → Prop} {IR : Nat → Gh → Hp → Heap → Prop} {Inv : Nat → Loc → Hp → Prop} {g₀ g₂ : Gh} {s₀ s₂ : Shared} {σ₂ : Hp} {l₂ : Loc}
    (W : Iter C A tg it wr n item J IR) (hi : i < n) (hk : k + i = n) (r : Rel C g σ fm fa loc s) (hlv : ∀ b ∈ wr, b < s.heap.objs.size) (F : Free C g wr) (ir : IR (i + 1) g σ s.heap) (hJ : J σ) (hwf : ∀ b ∈ wr, b ∉ fa ∧ ∀ x, fm.env.cells.lookup x ≠ some b)
    (D : Gd C fa g₀ s₀ g s) (d : Gd C fa g s g₂ s₂) (r₂ : Rel C g₂ σ₂ fm fa l₂ s₂) (h : Inv (i + 1) l₂ σ₂ ∧ J σ₂) : ∃ m, m < k ∧ LoopI C fm fa wr n J IR Inv g₀ s₀ m s₂ :=
  ⟨k - 1, by (first | lia | omega), i + 1, g₂, l₂, σ₂, by (first | lia | omega), r₂, D.trans d, h.1, h.2, F.step hlv d, W.stab (i + 1) g σ s g₂ σ₂ s₂ fa r.gr F ir hJ d (fun b hb => (hwf b hb).1) (fun b hb => (r.fr.fa b hb).2.2.1) r₂.gr h.2⟩
theorem loop_for {tg : Expr} {it : Value} {wr : List Addr} {n : Nat} {item : Nat → MV} {J : Hp → Prop} {IR : Nat → Gh → Hp → Heap → Prop} {body orelse : List Stmt} {g₀ : Gh} {s₀ : Shared}
    (W : Iter C A tg it wr n item J IR) (Inv : Nat → Loc → Hp → Prop)
    (turn : ∀ i loc σ, i < n → Inv i loc σ → J σ → St C A fm tg (item i) loc σ fun l₁ σ₁ => Exs C A fm body l₁ σ₁ fun f l σ₂ => (match f with
        | .next | .cont => Inv (i + 1) l σ₂ ∧ J σ₂
        | .brk => QS .next l σ₂
        | .ret v => QS (.ret v) l σ₂))
    (fin : ∀ loc σ, Inv n loc σ → J σ → Exs C A fm orelse loc σ QS)
    (hw0 : ∀ b ∈ wr, s₀.heap.objs.size ≤ b) (hwf : ∀ b ∈ wr, b ∉ fa ∧ ∀ x, fm.env.cells.lookup x ≠ some b)
    (hI : Inv 0 loc σ) (hJ : J σ) (r : Rel C g σ fm fa loc s) (hF : Free C g wr) (hir : IR 0 g σ s.heap) (d₀ : Gd C fa g₀ s₀ g s) :
    codeAny (model C.prog C.w) A (.forLoop tg it body orelse fm.env) (fun r s' => match r with | .ok f => PostS C fm fa g₀ s₀ QS f s' | .error e => cameBackBy (model C.prog C.w) A fm.env NoE e s') s := by
  refine codeAny_forLoop_any (LoopI C fm fa wr n J IR Inv g₀ s₀) (fun k s' hI => ?_) n ⟨0, g, loc, σ, rfl, r, d₀, hI, hJ, hF, hir⟩
  obtain ⟨i, g', l', σ', hk, r', d', hI, hJ, hF, hir⟩ := hI
  have hlv := W.live i g' σ' s' r'.gr hir hJ
  by_cases hi : i < n
  · refine wpAny_mono (W.next i g' σ' s' r'.gr hF hir hJ hi) ?_ fun _ _ e => e.elim
    rintro _ s₁ ⟨v, rfl, h₁⟩
    refine wpAny_mono h₁ ?_ fun _ _ e => e.elim
    rintro _ s₂ ⟨g₂, gr₂, d₂, hv, ir₂⟩
    have r₂ := r'.step gr₂ d₂ hwf fun b hb => (hF b hb).2.2
    refine wpAny_mono (turn i l' σ' hi hI hJ fa g₂ s₂ v r₂ hv) ?_ fun _ _ e => e.elim
    rintro _ s₃ ⟨g₃, l₃, σ₃, r₃, d₃, h₃⟩
    refine wpAny_mono (h₃ fa g₃ s₃ r₃) ?_ fun _ _ e => e.elim
    rintro f s₄ ⟨g₄, fl, l₄, σ₄, r₄, hf, d₄, h₄⟩
    have D := d'.loopD d₂ hw0
    have fin2 := fun h => loop_next (Inv := Inv) W hi hk r₂ (fun b hb => Nat.lt_of_lt_of_le (hlv b hb) d₂.size) (hF.step hlv d₂) ir₂ hJ hwf D (d₃.trans d₄) r₄ h
    cases hf with
    | next => exact fin2 h₄
    | cont => exact fin2 h₄
    | brk => exact ⟨g₄, .next, l₄, σ₄, r₄, .next, D.trans (d₃.trans d₄), h₄⟩
    | ret hv => exact ⟨g₄, _, l₄, σ₄, r₄, .ret hv, D.trans (d₃.trans d₄), h₄⟩
  · obtain rfl : i = n := by (first | lia | omega)
    refine wpAny_mono (W.done g' σ' s' r'.gr hF hir hJ) ?_ fun _ _ e => e.elim
    rintro _ s₁ ⟨rfl, gr₁, d₁⟩
    exact wpAny_mono (fin l' σ' hI hJ fa g' s₁ (r'.step gr₁ d₁ hwf fun b hb => (hF b hb).2.2)) (fun f s₂ p => p.trans (d'.loopD d₁ hw0)) fun _ _ e => e.elim
inductive WalkQ (C : Cx) (A : Around) (fm : Fm) (fa : List Addr) (tg : Expr) (loc : Loc) (n : Nat) (item : Nat → MV) (J : Hp → Prop) (Q : Hp → Prop) (g : Gh) (s : Shared) (it : Value) (s' : Shared) : Prop
  | mk (g' : Gh) (σ' : Hp) (wr : List Addr) (IR : Nat → Gh → Hp → Heap → Prop) (W : Iter C A tg it wr n item J IR) (r : Rel C g' σ' fm fa loc s') (d : Gd C fa g s g' s') (hF : Free C g' wr)
    (hz : ∀ b ∈ wr, s.heap.objs.size ≤ b ∧ b ∉ fa ∧ ∀ x, fm.env.cells.lookup x ≠ some b) (hi : IR 0 g' σ' s'.heap) (hJ : J σ') (q : Q σ')
noncomputable def WalkE (C : Cx) (A : Around) (fm : Fm) (tg e : Expr) (loc : Loc) (σ : Hp) (n : Nat) (item : Nat → MV) (J : Hp → Prop) (Q : Hp → Prop) : Prop :=
  ∀ fa g s, Rel C g σ fm fa loc s → wpAny (model C.prog C.w) A (eval e fm.env) (fun x s₁ => wpAny (model C.prog C.w) A (pyIter x) (WalkQ C A fm fa tg loc n item J Q g s) NoE s₁) NoE s
theorem Rel.apart (r : Rel C g σ fm fa loc s) {b : Addr} (h : s.heap.objs.size ≤ b) : b ∉ fa ∧ ∀ x, fm.env.cells.lookup x ≠ some b :=
  ⟨fun q => Nat.lt_irrefl _ (Nat.lt_of_lt_of_le (r.fr.fa b q).2.1 h), fun y q => by
    obtain ⟨⟨v, hv⟩, _⟩ := r.fr.cells y b q
    exact Nat.lt_irrefl _ (Nat.lt_of_lt_of_le hv.lt h)⟩
theorem walk_of {tg e : Expr} {n : Nat} {item : Nat → MV} {J : Hp → Prop} {Q : Hp → Prop} (h : Ev C A fm e loc σ fun m σ₁ => Walk C A tg m σ₁ n item J ∧ Q σ₁) : WalkE C A fm tg e loc σ n item J Q := fun fa g s r => by
  refine wpAny_mono (h fa g s r) ?_ fun _ _ e => e
  rintro x s₁ ⟨g₁, m, σ₁, r₁, hx, d₁, ⟨hJ, hw⟩, q⟩
  refine wpAny_mono (hw g₁ s₁ x r₁.gr hx) ?_ fun _ _ e => e
  rintro it s₂ ⟨wr, IR, W, gr₂, d₂, hF, hsz, hir⟩
  exact ⟨g₁, σ₁, wr, IR, W, r₁.call gr₂ d₂, d₁.trans (d₂.weak fun a h => nomatch h), hF, fun b hb => ⟨Nat.le_trans d₁.size (hsz b hb), r₁.apart (hsz b hb)⟩, hir, hJ, q⟩
theorem ex_for {tg it : Expr} {body orelse : List Stmt} {pos : Pos} (n : Nat) (item : Nat → MV) (J : Hp → Prop) (Inv : Nat → Loc → Hp → Prop)
    (h : WalkE C A fm tg it loc σ n item J fun σ₁ => Inv 0 loc σ₁)
    (turn : ∀ i loc σ, i < n → Inv i loc σ → J σ → St C A fm tg (item i) loc σ fun l₁ σ₁ => Exs C A fm body l₁ σ₁ fun f l σ₂ => (match f with
        | .next | .cont => Inv (i + 1) l σ₂ ∧ J σ₂
        | .brk => QS .next l σ₂
        | .ret v => QS (.ret v) l σ₂))
    (fin : ∀ loc σ, Inv n loc σ → J σ → Exs C A fm orelse loc σ QS) (hs : ∀ x, foldedSetIterable it fm.env x = pure x := by intro _; rfl) : Ex C A fm (.For tg it body orelse pos) loc σ QS := fun fa g s r => by
  refine wpAny_For (wpAny_mono (h fa g s r) (fun x s₁ h₁ => wpAny_mono h₁ ?_ fun _ _ e => e) fun _ _ e => e) hs
  rintro it s₂ ⟨g₂, σ₂, wr, IR, W, r₂, d₂, hF, hsz, hir, hJ, hI⟩
  exact loop_for (g₀ := g) (s₀ := s) W Inv turn fin (fun b hb => (hsz b hb).1) (fun b hb => (hsz b hb).2) hI hJ r₂ hF hir d₂
end
end
section
section
variable {C : Cx} {A : Around} {fm : Fm} {fa : List Addr} {loc : Loc} {σ : Hp} {g : Gh} {s : Shared} {Q Q' : MV → Hp → Prop} {QB : Bool → Hp → Prop} {QS : Fl → Loc → Hp → Prop}
noncomputable def PlainTg (C : Cx) (A : Around) (T : List String) (tg : Expr) : Prop := ∀ (s : Shared) (I : Addr) (v : Value) (R : Unit → Shared → Prop), (∃ o n vs, s.heap.get? I = some o ∧ o.cls = .type n ∧ n ∈ T ∧ o.data = .fields vs) → R () s → wpAny (model C.prog C.w) A (letOwnedTupleGo tg (.ref I) v) R NoE s
theorem plainTg {tg : Expr} : PlainTg C A ["list_iterator", "range_iterator", "str_ascii_iterator", "str_iterator", "tuple_iterator", "callable_iterator"] tg := by
  rintro s I v R hX4 hR
  refine via_p fun P kP => ?_
  obtain ⟨o, n, vs, ho, hc, hn, hd⟩ := hX4
  refine kP ?_
  clear kP P
  unfold letOwnedTupleGo
  have main : wpAny (model C.prog C.w) A (do
      let (.ref r, .ref a) := (Value.ref I, v) | return
      let o ← load r
      match o.cls, o.data with
      | .type n, .fields vs =>
        if ["enumerate", "zip", "dict_itemiterator", "dict_reverseitemiterator", "odict_iterator", "itertools.zip_longest", "itertools.pairwise"].contains n && vs[0]? == some (rawInt a) then
          rule "for.unpacks-the-owned-tuple"
          updateField r 0 .none
      | _, _ => pure ()) R NoE s := by
    cases v with
    | ref a =>
      refine wpAny_bind (wpAny_load ho ?_)
      rw [hc, hd]
      have : ["enumerate", "zip", "dict_itemiterator", "dict_reverseitemiterator", "odict_iterator", "itertools.zip_longest", "itertools.pairwise"].contains n = false := by
        simp only [List.mem_cons, List.not_mem_nil, or_false] at hn
        rcases hn with rfl | rfl | rfl | rfl | rfl | rfl <;> decide
      simp only [this, Bool.false_and, Bool.false_eq_true, if_false]
      exact wpAny_pure hR
    | _ => exact wpAny_pure hR
  cases tg <;> first | exact wpAny_pure hR | exact main
theorem iter_of {tg : Expr} {I : Addr} {n : Nat} {item : Nat → MV} {P : Nat → Value → Prop} {St : Nat → Heap → Prop} (W : Walks C.prog C.w A I [I] [I] n P St) (hP : ∀ i v g h, P i v → VR C g h (item i) v)
    (hT : ∀ i h, St i h → ∃ o nm vs, h.get? I = some o ∧ o.cls = .type nm ∧ nm ∈ ["list_iterator", "range_iterator", "str_ascii_iterator", "str_iterator", "tuple_iterator", "callable_iterator"] ∧ o.data = .fields vs) :
    Iter C A tg (.ref I) [I] n item (fun _ => True) (fun i _ _ h => St i h) where
  next := fun i g σ s r hF hst _ hi => withSize (W.item i s _ _ hi hst fun v h' tk hv hst' hk hz => ⟨v, rfl, by
    obtain ⟨gr, d⟩ := r.loop (tk := tk) hF hk hz
    exact plainTg (tg := tg) _ I v _ (hT (i + 1) h' hst') ⟨g, gr, d, hP i v g h' hv, hst'⟩⟩)
  done := fun g σ s r hF hst _ => withSize (W.done s _ _ hst fun h' tk hk hz => ⟨rfl, r.loop hF hk hz⟩)
  stab := fun i g σ s g' σ' s' fb r hF hst _ d hfb _ _ _ => W.frame i _ _ hst fun b hb o e => by
    obtain rfl := List.mem_singleton.mp hb
    obtain ⟨h1, h2, h3⟩ := hF b (.head _)
    exact d.keep b o e h2 (hfb b (.head _)) fun q => Nat.lt_irrefl _ (Nat.lt_of_lt_of_le (r.tabs b q).1 h1)
  self := fun i g σ s r hst _ Q q => W.self i s _ _ hst q
  live := fun i g σ s r hst _ b hb => by
    obtain rfl := List.mem_singleton.mp hb
    obtain ⟨o, _, _, ho, _⟩ := hT i _ hst
    exact Heap.lt_size ho
theorem free_new (r : GR C g σ s) : Free C g [s.heap.objs.size] := fun b hb => by
  obtain rfl := List.mem_singleton.mp hb
  exact ⟨r.size, fun n hn => Nat.lt_irrefl _ (r.live n _ hn).2.1, fun hp => Nat.lt_irrefl _ (r.P _ hp).2⟩
theorem GR.push (r : GR C g σ s) (o : Obj) (tk : Nat) : GR C g σ { s with heap := s.heap.push o, toks := tk } ∧ Gd C fa g s g { s with heap := s.heap.push o, toks := tk } :=
  ⟨r.ext (fun b o' e => Heap.get?_push_of_some _ e) (size_push_le _ _), .ext (fun b o' e => Heap.get?_push_of_some _ e) (size_push_le _ _) rfl rfl rfl⟩
theorem walk_range {tg : Expr} {a b c : Int} {n : Nat} (hh : A.handled = none) (hs : Builtin.Range.small a b c = true) (hn : Builtin.Range.rangeSize a b c = n) : Walk C A tg (.rng a b c) σ n (fun i => .int (a + i * c)) (fun _ => True) := by
  refine ⟨trivial, fun g s x r hx => ?_⟩
  refine via_p fun P kP => ?_
  obtain ⟨_, _, _, _, rfl, hp, hr⟩ := hx.inv
  refine kP ?_
  clear kP P
  refine wpAny_pyIter_range hr hs ?_
  obtain ⟨gr, d⟩ := r.push (fa := []) { cls := .type "range_iterator", data := .fields #[rawInt a, rawInt (Builtin.Range.rangeSize a b c), rawInt c] } s.toks
  refine ⟨[s.heap.objs.size], _, iter_of (Walks.range hh s.heap.objs.size a c n) (fun i v g h ⟨t, e⟩ => by rw [e]; exact .int ..) (fun i h hst => ⟨_, _, _, hst, rfl, by simp, rfl⟩), gr, d, free_new r, fun b hb => by rw [List.mem_singleton.mp hb]; exact Nat.le_refl _, ?_⟩
  show IsRangeIter _ _ _ _ _
  rw [hn]
  have e1 : a + ((0 : Nat) : Int) * c = a := by simp
  have e2 : ((n : Int) - ((0 : Nat) : Int)) = n := by simp
  rw [e1, e2]
  exact Heap.get?_push_size _ rfl
theorem walk_str {tg : Expr} {x : Str} (hh : A.handled = none) : Walk C A tg (.str x) σ x.cps.size (fun i => .str ⟨#[x.cps.getD i 0]⟩) (fun _ => True) := by
  refine ⟨trivial, fun g s v r hx => ?_⟩
  obtain ⟨t, rfl⟩ := hx.inv
  have key : ∀ (ty : String) (o : Obj), (ty = "str_ascii_iterator" ∨ ty = "str_iterator") → Walks C.prog C.w A s.heap.objs.size [s.heap.objs.size] [s.heap.objs.size] x.cps.size (SignAt x) (fun i h => h.IsStrIter s.heap.objs.size ty x t i) →
      Heap.IsStrIter (s.heap.push o) s.heap.objs.size ty x t 0 → WalkP C A tg σ x.cps.size (fun i => .str ⟨#[x.cps.getD i 0]⟩) (fun _ => True) g s (.ref s.heap.objs.size) { s with heap := s.heap.push o } := by
    intro ty o hty W h0
    obtain ⟨gr, d⟩ := r.push (fa := []) o s.toks
    refine ⟨[s.heap.objs.size], _, iter_of W (fun i v g h hv => ?_) (fun i h hst => ?_), gr, d, free_new r, fun b hb => by rw [List.mem_singleton.mp hb]; exact Nat.le_refl _, h0⟩
    · obtain ⟨c, u, hc, rfl⟩ := hv
      have : x.cps.getD i 0 = c := by simp [Array.getD_eq_getD_getElem?, hc]
      rw [this]; exact .str ..
    · obtain ⟨o', ho', hc', hd'⟩ := hst
      exact ⟨o', ty, _, ho', hc', by rcases hty with rfl | rfl <;> simp, hd'⟩
  cases ha : x.cps.all (· < 128)
  · exact wpAny_pyIter_wide ha (key _ _ (.inr rfl) (Walks.strWide hh _ x t) ⟨_, Heap.get?_push_size _ rfl, rfl, rfl⟩)
  · exact wpAny_pyIter_ascii ha (key _ _ (.inl rfl) (Walks.strAscii hh _ x t) ⟨_, Heap.get?_push_size _ rfl, rfl, rfl⟩)
theorem walk_list {tg : Expr} {m : MV} {l : List MV} (hh : A.handled = none) (hl : lstOf σ m = some l) : Walk C A tg m σ l.length (fun i => l.getD i .none) (fun σ' => lstOf σ' m = some l) := by
  refine ⟨hl, fun g s x r hx => ?_⟩
  refine via_p fun P kP => ?_
  obtain ⟨a, xs, rfl, ho, hv⟩ := r.lst hl hx
  refine kP ?_
  clear kP P
  refine wpAny_pyIter_list ho ?_
  obtain ⟨gr, d⟩ := r.push (fa := []) { cls := .type "list_iterator", data := .fields #[.ref a, .int 0 0] } s.toks
  refine ⟨[s.heap.objs.size], fun i g' σ' h => VR C g' h m (.ref a) ∧ h.IsListIter s.heap.objs.size a i ∧ a ≠ s.heap.objs.size, ?_, gr, d, free_new r, fun b hb => by rw [List.mem_singleton.mp hb]; exact Nat.le_refl _, ?_⟩
  · have hT : ∀ {i : Nat} {h : Heap}, h.IsListIter s.heap.objs.size a i → ∃ o nm vs, h.get? s.heap.objs.size = some o ∧ o.cls = .type nm ∧ nm ∈ ["list_iterator", "range_iterator", "str_ascii_iterator", "str_iterator", "tuple_iterator", "callable_iterator"] ∧ o.data = .fields vs := fun hst => by
      obtain ⟨o', ho', hc', hd'⟩ := hst
      exact ⟨o', _, _, ho', hc', by simp, hd'⟩
    refine ⟨fun i g' σ' s' r' hF hst hJ hi => ?_, fun g' σ' s' r' hF hst hJ => ?_, fun i g' σ' s' g'' σ'' s'' fb r' hF hst hJ d' hfb hfp r'' hJ' => ?_, fun i g' σ' s' r' hst hJ Q q => ?_, fun i g' σ' s' r' hst hJ b hb => ?_⟩
    · obtain ⟨h1, h2, h3⟩ := hst
      refine via_p fun P kP => ?_
      obtain ⟨a', xs', e, ho', hv'⟩ := r'.lst hJ h1
      refine kP ?_
      clear kP P
      cases e
      obtain ⟨v, hv1, hv2⟩ := hv'.get (i := i) (m := l.getD i .none) (by rw [List.getD_eq_getElem?_getD, List.getElem?_eq_getElem hi]; rfl)
      refine withSize (wpAny_pyNext_list_item h2 ho' (by simpa using hv1) fun h' hit hb hz => ⟨v, rfl, ?_⟩)
      have k : ∀ b o, b ∉ [s.heap.objs.size] → s'.heap.get? b = some o → h'.get? b = some o := fun b o hb' e => hb.extBut b o (fun q => hb' (by rw [q]; exact .head _)) e
      obtain ⟨gr', d'⟩ := r'.loop (tk := s'.toks) hF k hz
      have hg : Ge g' g' s'.heap h' := ⟨fun _ _ e => e, fun _ e => e, fun b o hp e => k b o (fun q => (hF b q).2.2 hp) e⟩
      exact plainTg (tg := tg) _ _ v _ (hT hit) ⟨g', gr', d', hv2.mono hg, h1.mono hg, hit, h3⟩
    · obtain ⟨h1, h2, h3⟩ := hst
      refine via_p fun P kP => ?_
      obtain ⟨a', xs', e, ho', hv'⟩ := r'.lst hJ h1
      refine kP ?_
      clear kP P
      cases e
      refine withSize (wpAny_pyNext_list_end hh h2 ho' (by have := hv'.length; simp; (first | lia | omega)) fun h' hk hz => ⟨rfl, ?_⟩)
      exact r'.loop (tk := s'.toks) hF (fun b o hb' e => hk b o (fun q => hb' (by rw [q]; exact .head _)) e) hz
    · obtain ⟨h1, h2, h3⟩ := hst
      obtain ⟨f1, f2, f3⟩ := hF _ (.head _)
      have hg : Ge g' g'' s'.heap s''.heap := ⟨d'.ρ, d'.P, fun b o hp e => d'.keep b o e (fun n hn => (r'.live n b hn).2.2 hp) (fun q => hfp b q hp) fun q => r'.tabP b q hp⟩
      exact ⟨h1.mono hg, h2.at fun o e => d'.keep _ o e f2 (hfb _ (.head _)) (fun q => Nat.lt_irrefl _ (Nat.lt_of_lt_of_le (r'.tabs _ q).1 f1)), h3⟩
    · exact wpAny_pyIter_listiter hst.2.1 q
    · obtain rfl := List.mem_singleton.mp hb
      refine via_p fun P kP => ?_
      obtain ⟨o, _, _, ho, _⟩ := hT hst.2.1
      refine kP ?_
      clear kP P
      exact Heap.lt_size ho
  · refine ⟨hx.mono ⟨fun _ _ e => e, fun _ e => e, fun b o _ e => Heap.get?_push_of_some _ e⟩, ⟨_, Heap.get?_push_size _ rfl, rfl, rfl⟩, ?_⟩
    obtain ⟨o, ho, _⟩ := ho
    exact Nat.ne_of_lt (Heap.lt_size ho)
end
end
section
section
variable {C : Cx} {A : Around} {fm : Fm} {fa : List Addr} {loc : Loc} {σ : Hp} {g : Gh} {s : Shared} {Q Q' : MV → Hp → Prop} {QB : Bool → Hp → Prop} {QS : Fl → Loc → Hp → Prop}
theorem ge_pin0 (T : Addr) (h : Heap) : Ge g (g.pin T) h h := ⟨fun _ _ e => e, fun _ e => .inr e, fun _ _ _ e => e⟩
theorem GR.pin {T : Addr} (r : GR C g σ s) (h1 : C.N0 ≤ T) (h2 : T < s.heap.objs.size) (h3 : ∀ n, g.ρ n ≠ some T) : GR C (g.pin T) σ s := by
  refine ⟨r.lo, r.K, r.lim, r.size, fun n o h => ?_, r.inj, fun n a h => ?_, fun a h => ?_, fun a h => by obtain ⟨x, vs, q, t⟩ := r.tabs a h; exact ⟨x, vs, q, t.mono (ge_pin0 T _)⟩, r.dom⟩
  · obtain ⟨a, ha, ho⟩ := r.heap n o h; exact ⟨a, ha, ho.mono (ge_pin0 T _) fun _ e => e⟩
  · obtain ⟨x, y, z⟩ := r.live n a h; exact ⟨x, y, fun q => q.elim (fun q => h3 n (q ▸ h)) z⟩
  · rcases h with h | h
    · exact h ▸ ⟨h1, h2⟩
    · exact r.P a h
theorem Gd.pin0 {fb : List Addr} {g' : Gh} {s' : Shared} {T : Addr} (d : Gd C fb g s g' s') (hT : s.heap.objs.size ≤ T) : Gd C fb g s (g'.pin T) s' :=
  ⟨d.keep, d.tabs, d.size, d.ρ, d.ρn, fun a h => .inr (d.P a h), fun a h => h.elim (fun q => .inr (q ▸ hT)) (d.Pn a), d.os, d.drawn, d.gens⟩
theorem iter_ofT {elts : List Expr} {k : Nat} {pos : Pos} {I : Addr} {fp wr : List Addr} {n : Nat} {item : Nat → List MV} {Pt : Nat → Array Value → Prop} {St : Nat → Heap → Prop} {Mid : Nat → Addr → Heap → Prop} {g₀ : Gh} {h₀ : Heap}
    (W : WalksT C.prog C.w A I fp wr n Pt St Mid) (hfp : ∀ b ∈ fp, b ∈ wr ∨ g₀.P b) (hP : ∀ i vals g h, Ge g₀ g h₀ h → Pt i vals → VRs C g h (item i) vals.toList) (hlive : ∀ i h, St i h → ∀ b ∈ wr, ∃ o, h.get? b = some o) :
    Iter C A (.Tuple elts k pos) (.ref I) wr n (fun i => .tup (item i)) (fun _ => True) (fun i g _ h => Ge g₀ g h₀ h ∧ St i h) where
  next := fun i g σ s r hF xx _ hi => withSize (W.item i s _ _ hi xx.2 fun T vals h' tk hv hT0 hT hm hk hz => ⟨.ref T, rfl, by
    obtain ⟨gr, d⟩ := r.loop (tk := tk) hF hk hz
    have hTl : T < h'.objs.size := by obtain ⟨o, ho, _⟩ := hT; exact Heap.lt_size ho
    refine withSize (W.go elts k pos i T _ _ _ hm fun h'' hst'' hk'' hz'' => ?_)
    obtain ⟨gr', d'⟩ := gr.loop (tk := tk) hF hk'' hz''
    have dd := d.trans d'
    have hne : ∀ n, g.ρ n ≠ some T := fun n hn => Nat.lt_irrefl _ (Nat.lt_of_lt_of_le (r.live n T hn).2.1 hT0)
    have hTw : T ∉ wr := W.apart i T h' hm
    have hT'' : h''.IsTuple T vals := hT.at fun o e => hk'' T o hTw e
    have gr2 : GR C (g.pin T) σ { s with heap := h'', toks := tk } := gr'.pin (Nat.le_trans r.size hT0) (Nat.lt_of_lt_of_le hTl hz'') hne
    have e2 : Ge g (g.pin T) s.heap h'' := ⟨fun _ _ e => e, fun _ e => .inr e, fun b o hp e => dd.keep b o e (fun n hn => (r.live n b hn).2.2 hp) (fun q => (hF b q).2.2 hp) fun q => r.tabP b q hp⟩
    have e3 : Ge g₀ (g.pin T) h₀ h'' := ⟨fun n a e => e2.ρ _ _ (xx.1.ρ n a e), fun a e => e2.P _ (xx.1.P a e), fun a o hp e => e2.keep a o (xx.1.P a hp) (xx.1.keep a o hp e)⟩
    exact ⟨g.pin T, gr2, dd.pin0 hT0, .tup (.inl rfl) hT'' (hP i vals _ _ e3 hv), e3, hst''⟩⟩)
  done := fun g σ s r hF xx _ => withSize (W.done s _ _ xx.2 fun h' tk hk hz => ⟨rfl, r.loop hF hk hz⟩)
  stab := fun i g σ s g' σ' s' fb r hF xx _ d hfb hfP _ _ => by
    have e2 : Ge g g' s.heap s'.heap := ⟨d.ρ, d.P, fun b o hp e => d.keep b o e (fun n hn => (r.live n b hn).2.2 hp) (fun q => hfP b q hp) fun q => r.tabP b q hp⟩
    refine ⟨⟨fun n a e => e2.ρ _ _ (xx.1.ρ n a e), fun a e => e2.P _ (xx.1.P a e), fun a o hp e => e2.keep a o (xx.1.P a hp) (xx.1.keep a o hp e)⟩, W.frame i _ _ xx.2 fun b hb o e => ?_⟩
    rcases hfp b hb with q | q
    · obtain ⟨h1, h2, h3⟩ := hF b q
      exact d.keep b o e h2 (hfb b q) fun q => Nat.lt_irrefl _ (Nat.lt_of_lt_of_le (r.tabs b q).1 h1)
    · exact e2.keep b o (xx.1.P b q) e
  self := fun i g σ s r xx _ Q q => W.self i s _ _ xx.2 q
  live := fun i g σ s r xx _ b hb => by obtain ⟨o, ho⟩ := hlive i _ xx.2 b hb; exact Heap.lt_size ho
theorem ev_callee {x : Str} {np pos : Pos} {es : List Expr} {T : String} {R : Value → Shared → Prop} (hx : fm.env.kindOf x = some .globalImplicit) (e : nsIn C.K mainGlobals x = some none) (e' : nsIn C.K builtinsNs x = some (some (.type T)))
    (hs : (starEach es fm.env).all (fun p => !p.1) = true) {Qm : List MV → Hp → Prop} (h : EvL C A fm es loc σ Qm) (r : Rel C g σ fm fa loc s)
    (k : ∀ g' σ' s' ms vs, Rel C g' σ' fm fa loc s' → VRs C g' s'.heap ms vs → Gd C fa g s g' s' → Qm ms σ' → wpAny (model C.prog C.w) A (call (.type T) vs []) R NoE s') (hd : (x == ("__debug__" : Str)) = false := by decide) :
    wpAny (model C.prog C.w) A (eval (.Call (.Name x np) es [] pos) fm.env) R NoE s := by
  refine wpAny_Call_NameR (wpAny_mono (ev_bi (Q := fun m σ₁ => m = .val (.type T) ∧ σ₁ = σ) hx e e' ⟨rfl, rfl⟩ hd fa g s r) ?_ fun _ _ e => e)
  rintro v s₁ ⟨g₁, m, σ₁, r₁, hv, d₁, rfl, rfl⟩
  obtain rfl := hv.inv
  refine (Callable.ty T).with (star_none hs) (wpAny_mono (h.argsS hs r₁) ?_ fun _ _ e => e)
  rintro ⟨ps, kw⟩ s₂ ⟨rfl, g₂, ms, σ₂, r₂, hvs, d₂, q⟩
  exact ⟨⟨g₂, σ₂, r₂.gr⟩, k g₂ σ₂ s₂ ms ps r₂ hvs (d₁.trans d₂) q⟩
theorem walk_enum {elts : List Expr} {k : Nat} {tp : Pos} {x : Str} {np pos : Pos} {e : Expr} {n : Nat} {item : Nat → MV} {Q : Hp → Prop} (hh : A.handled = none) (hx : fm.env.kindOf x = some .globalImplicit) (e1 : nsIn C.K mainGlobals x = some none) (e2 : nsIn C.K builtinsNs x = some (some (.type "enumerate")))
    (h : Ev C A fm e loc σ fun m σ₁ => Q σ₁ ∧ ((∃ l, m = .lst l ∧ n = l.length ∧ item = fun i => l.getD i .none) ∨ ∃ x, m = .str x ∧ n = x.cps.size ∧ item = fun i => .str ⟨#[x.cps.getD i 0]⟩))
    (hs : (starEach [e] fm.env).all (fun p => !p.1) = true := by rfl) (hd : (x == ("__debug__" : Str)) = false := by decide) :
    WalkE C A fm (.Tuple elts k tp) (.Call (.Name x np) [e] [] pos) loc σ n (fun i => .tup [.int i, item i]) (fun _ => True) Q := fun fa g s r => by
  refine ev_callee (Qm := fun ms σ₁ => ∃ m, ms = [m] ∧ Q σ₁ ∧ ((∃ l, m = .lst l ∧ n = l.length ∧ item = fun i => l.getD i .none) ∨ ∃ x, m = .str x ∧ n = x.cps.size ∧ item = fun i => .str ⟨#[x.cps.getD i 0]⟩)) hx e1 e2 hs (EvT.mono h fun m σ₁ hm => ⟨m, rfl, hm⟩) r ?_ hd
  rintro g' σ' s' ms vs r' hvs d ⟨m, rfl, q, hm⟩
  obtain ⟨v, rfl, hv⟩ := hvs.inv1
  have hE1 : s'.heap.objs.size + 1 ≠ s'.heap.objs.size := Nat.succ_ne_self _
  have fin : ∀ (h' : Heap) (fp : List Addr) (P : Nat → Value → Prop) (St : Nat → Heap → Prop), Draws C.prog C.w A.in1 s'.heap.objs.size fp n P St → (∀ b ∈ fp, b = s'.heap.objs.size ∨ g'.P b) → s'.heap.objs.size ∈ fp → (∀ i v g h, Ge g' g h' h → P i v → VR C g h (item i) v) →
      (∀ i h, St i h → ∃ o, h.get? s'.heap.objs.size = some o) → St 0 h' → IsEnum h' (s'.heap.objs.size + 1) s'.heap.objs.size 0 .none → h'.objs.size = s'.heap.objs.size + 2 → (∀ b o, s'.heap.get? b = some o → h'.get? b = some o) →
      wpAny (model C.prog C.w) A (pyIter (.ref (s'.heap.objs.size + 1))) (WalkQ C A fm fa (.Tuple elts k tp) loc n (fun i => .tup [.int i, item i]) (fun _ => True) Q g s) NoE { s' with heap := h' } := by
    intro h' fp P St D hfp hif hP hl hst he hz hk
    have hef : s'.heap.objs.size + 1 ∉ fp := fun hb => (hfp _ hb).elim hE1 fun hp => Nat.not_succ_lt_self (r'.gr.P _ hp).2
    refine wpAny_pyIter_enum he ?_
    have r'' : Rel C g' σ' fm fa loc { s' with heap := h' } := r'.ext hk (by show _ ≤ h'.objs.size; (first | lia | omega))
    have d'' : Gd C fa g' s' g' { s' with heap := h' } := .ext hk (by show _ ≤ h'.objs.size; (first | lia | omega)) rfl rfl rfl
    refine ⟨g', σ', [s'.heap.objs.size + 1, s'.heap.objs.size], _, iter_ofT (g₀ := g') (h₀ := h') (item := fun i => [.int i, item i]) (WalksT.enumerateD D (s'.heap.objs.size + 1) hE1 hef hif) ?_ ?_ ?_, r'', d.trans d'', ?_, ?_, ⟨⟨fun _ _ e => e, fun _ e => e, fun _ _ _ e => e⟩, ⟨_, he⟩, hst⟩, trivial, q⟩
    · intro b hb
      rcases List.mem_cons.mp hb with rfl | hb
      · exact .inl (.head _)
      · exact (hfp b hb).elim (fun q => .inl (q ▸ .tail _ (.head _))) .inr
    · rintro i vals g h hg ⟨t, y, hy, rfl⟩
      exact .cons (.int ..) (.cons (hP i y g h hg hy) .nil)
    · rintro i h ⟨⟨old, ho⟩, hst⟩ b hb
      rcases List.mem_cons.mp hb with rfl | hb
      · exact ⟨_, ho⟩
      · rw [List.mem_singleton.mp hb]; exact hl i h hst
    · intro b hb
      have hb' : s'.heap.objs.size ≤ b := by
        rcases List.mem_cons.mp hb with rfl | hb
        · exact Nat.le_succ _
        · rw [List.mem_singleton.mp hb]; exact Nat.le_refl _
      exact ⟨Nat.le_trans r'.gr.size hb', fun n hn => Nat.lt_irrefl _ (Nat.lt_of_lt_of_le (r'.gr.live n b hn).2.1 hb'), fun hp => Nat.lt_irrefl _ (Nat.lt_of_lt_of_le (r'.gr.P b hp).2 hb')⟩
    · intro b hb
      have hb' : s'.heap.objs.size ≤ b := by
        rcases List.mem_cons.mp hb with rfl | hb
        · exact Nat.le_succ _
        · rw [List.mem_singleton.mp hb]; exact Nat.le_refl _
      exact ⟨Nat.le_trans d.size hb', r'.apart hb'⟩
  rcases hm with ⟨l, rfl, rfl, rfl⟩ | ⟨y, rfl, rfl, rfl⟩
  · refine via_p fun P kP => ?_
    obtain ⟨a, xs, rfl, hp, ho, hl⟩ := hv.inv
    refine kP ?_
    clear kP P
    have hne : a ≠ s'.heap.objs.size := Nat.ne_of_lt (r'.gr.P a hp).2
    have hlen := hl.length
    refine call_enumerate_list ho.isList fun h' he hit hz hk => ?_
    have D := Draws.list (prog := C.prog) (w := C.w) (A := A.in1) hh s'.heap.objs.size a hne (Array.mk xs)
    have hz2 : (Array.mk xs).size = l.length := by rw [hlen]; rfl
    rw [hz2] at D
    refine fin h' [s'.heap.objs.size, a] _ _ D ?_ (.head _) ?_ ?_ ⟨hit, ho.isList.at fun o e => hk a o e⟩ he hz hk
    · intro b hb
      rcases List.mem_cons.mp hb with rfl | hb
      · exact .inl rfl
      · rw [List.mem_singleton.mp hb]; exact .inr hp
    · intro i v g h hg hv
      have hv' : xs[i]? = some v := by simpa using hv
      have hi : i < l.length := by rw [hlen]; exact (List.getElem?_eq_some_iff.mp hv').1
      obtain ⟨u, hu, hm⟩ := hl.get (i := i) (m := l.getD i .none) (by rw [List.getD_eq_getElem?_getD, List.getElem?_eq_getElem hi]; rfl)
      rw [hv'] at hu; cases hu
      exact hm.mono ⟨hg.ρ, hg.P, fun b o hp e => hg.keep b o hp (hk b o e)⟩
    · rintro i h ⟨⟨o, ho, _⟩, _⟩; exact ⟨o, ho⟩
  · obtain ⟨t, rfl⟩ := hv.inv
    refine call_enumerate_str fun h' he hit hz hk => ?_
    have pv : ∀ i v g h, Ge g' g h' h → (∃ c u, y.cps[i]? = some c ∧ v = .str ⟨#[c]⟩ u) → VR C g h (.str ⟨#[y.cps.getD i 0]⟩) v := by
      rintro i v g h _ ⟨c, u, hc, rfl⟩
      have : y.cps.getD i 0 = c := by simp [Array.getD_eq_getD_getElem?, hc]
      rw [this]; exact .str ..
    unfold strIterType at hit
    split at hit
    · exact fin h' [s'.heap.objs.size] _ _ (Draws.strAscii (A := A.in1) hh s'.heap.objs.size y t) (fun b hb => .inl (List.mem_singleton.mp hb)) (.head _) pv (fun i h ⟨o, ho, _⟩ => ⟨o, ho⟩) hit he hz hk
    · exact fin h' [s'.heap.objs.size] _ _ (Draws.strWide (A := A.in1) hh s'.heap.objs.size y t) (fun b hb => .inl (List.mem_singleton.mp hb)) (.head _) pv (fun i h ⟨o, ho, _⟩ => ⟨o, ho⟩) hit he hz hk
end
end
section
noncomputable def innerOf (elt : Expr) (gens : List Comprehension) (scope : Scope) (pos : Pos) (d : Nat) (acc : Value) (env : Env) : Sem Unit :=
  match gens[d + 1]? with
  | some g' => eval g'.iter env >>= fun x => standAt g'.iter.pos >>= fun _ => foldedSetIterable g'.iter env x >>= fun x => holding [x] (pyIter x) >>= fun it => runOwn (.compStart (.ListComp elt gens scope pos) (d + 1) it acc env) env >>= fun _ => pure ()
  | none => eval elt env >>= fun v => call (.builtin "list.append") [acc, v] >>= fun _ => pure ()
noncomputable def testsOf (ifs : List Expr) (env : Env) : Sem Bool := forIn ifs true fun c r => if r = true then do let ok ← isTrue c env (eval c env); pure (ForInStep.yield ok) else pure (ForInStep.yield r)
theorem compTurn_gen {elt : Expr} {gens : List Comprehension} {scope : Scope} {pos : Pos} {d : Nat} {tg iter : Expr} {ifs : List Expr} {it acc : Value} {env : Env} (hg : gens[d]? = some ⟨tg, iter, ifs, 0⟩) (hn : ∀ g', gens[d + 1]? = some g' → g'.is_async = 0) :
    compTurn (.ListComp elt gens scope pos) d it acc env = (standAt iter.pos >>= fun _ => pyNext it >>= fun r => match r with
      | none => pure (.done .next)
      | some v => letOwnedTupleGo tg it v >>= fun _ => assign tg env v >>= fun _ => testsOf ifs env >>= fun ok =>
        if ok = true then innerOf elt gens scope pos d acc env >>= fun _ => again (.compLoop (.ListComp elt gens scope pos) d it acc env) else again (.compLoop (.ListComp elt gens scope pos) d it acc env)) := by
  unfold compTurn
  simp only [hg]
  unfold innerOf testsOf
  have e0 : ((0 : Int) != 0) = false := rfl
  simp only [e0, Bool.false_eq_true, if_false]
  congr 1
  funext _
  congr 1
  funext r
  cases r with
  | none => rfl
  | some v =>
    simp only []
    congr 1
    funext _
    congr 1
    funext _
    congr 1
    funext ok
    cases ok
    · rfl
    · simp only [if_true]
      cases h : gens[d + 1]? with
      | none => simp only [bind_assoc, pure_bind]
      | some g' =>
        have := hn g' h
        simp only [this, e0, Bool.false_eq_true, if_false, bind_assoc, pure_bind]
section
variable {C : Cx} {A : Around} {fm : Fm} {fa : List Addr} {loc : Loc} {σ : Hp} {g : Gh} {s : Shared} {Q Q' : MV → Hp → Prop} {QB : Bool → Hp → Prop} {QS : Fl → Loc → Hp → Prop}
noncomputable def Ifs (C : Cx) (A : Around) (fm : Fm) : List Expr → Loc → Hp → (Bool → Hp → Prop) → Prop
  | [], _, σ, Q => Q true σ
  | c :: cs, loc, σ, Q => Tr C A fm c loc σ fun b σ₁ => if b then Ifs C A fm cs loc σ₁ Q else Q false σ₁
theorem tests_false (env : Env) : ∀ cs : List Expr, (forIn cs false fun c r => if r = true then do let ok ← isTrue c env (eval c env); pure (ForInStep.yield ok) else pure (ForInStep.yield r)) = (pure false : Sem Bool)
  | [] => rfl
  | c :: cs => by
    rw [List.forIn_cons]
    simp only [Bool.false_eq_true, if_false, pure_bind]
    exact tests_false env cs
theorem Ifs.run {cs : List Expr} : ∀ {σ : Hp} {Q : Bool → Hp → Prop}, Ifs C A fm cs loc σ Q → ∀ fa g s, Rel C g σ fm fa loc s → wpAny (model C.prog C.w) A (testsOf cs fm.env) (PostB C fm fa loc g s Q) NoE s := by
  induction cs with
  | nil => exact fun h fa g s r => wpAny_pure (.now r h)
  | cons c cs ih =>
    intro σ Q h fa g s r
    unfold testsOf
    rw [List.forIn_cons]
    simp only [if_true]
    refine wpAny_bind (wpAny_bind (wpAny_mono (h fa g s r) ?_ fun _ _ e => e))
    rintro b s₁ ⟨g', σ', r', d, q⟩
    refine wpAny_pure ?_
    cases b
    · simp only []
      rw [tests_false]
      exact wpAny_pure ⟨g', σ', r', d, q⟩
    · exact wpAny_mono (ih q fa g' s₁ r') (fun _ _ p => p.trans d) fun _ _ e => e
inductive InnP (C : Cx) (fm : Fm) (fa fb : List Addr) (a : Addr) (g : Gh) (s : Shared) (Q : Loc → Hp → List MV → Prop) (s' : Shared) : Prop
  | mk (g' : Gh) (loc' : Loc) (σ' : Hp) (ys' : List MV) (xs' : List Value) (r : Rel C g' σ' fm fa loc' s') (d : Gd C fb g s g' s') (L : s'.heap.PlainList a ⟨xs'⟩) (hv : VRs C g' s'.heap ys' xs') (q : Q loc' σ' ys')
noncomputable def Inn (C : Cx) (A : Around) (fm : Fm) (a : Addr) (t : Sem Unit) (ys : List MV) (loc : Loc) (σ : Hp) (Q : Loc → Hp → List MV → Prop) : Prop :=
  ∀ fa g s xs, Rel C g σ fm fa loc s → Free C g [a] → a ∉ fa → (∀ x, fm.env.cells.lookup x ≠ some a) → s.heap.PlainList a ⟨xs⟩ → VRs C g s.heap ys xs →
    wpAny (model C.prog C.w) A t (fun _ s' => InnP C fm fa (a :: fa) a g s Q s') NoE s
theorem Free.keep1 {fb : List Addr} {g' : Gh} {s' : Shared} {a : Addr} (r : GR C g σ s) (hF : Free C g [a]) (d : Gd C fb g s g' s') (hb : a ∉ fb) {o : Obj} (e : s.heap.get? a = some o) : s'.heap.get? a = some o := by
  obtain ⟨h1, h2, h3⟩ := hF a (.head _)
  exact d.keep a o e h2 hb fun q => Nat.lt_irrefl _ (Nat.lt_of_lt_of_le (r.tabs a q).1 h1)
theorem inn_emit {a : Addr} {elt : Expr} {gens : List Comprehension} {scope : Scope} {pos : Pos} {d : Nat} {ys : List MV} {Q : Loc → Hp → List MV → Prop} (hg : gens[d + 1]? = none) (hl : ys.length ≤ 1000000)
    (h : Ev C A fm elt loc σ fun m σ₁ => Q loc σ₁ (ys ++ [m])) : Inn C A fm a (innerOf elt gens scope pos d (.ref a) fm.env) ys loc σ Q := by
  intro fa g s xs r hF ha hac hL hv
  unfold innerOf
  rw [hg]
  refine wpAny_bind (wpAny_mono (h fa g s r) ?_ fun _ _ e => e)
  rintro v s₁ ⟨g₁, m, σ₁, r₁, hm, d₁, q⟩
  have hL₁ : s₁.heap.PlainList a ⟨xs⟩ := hL.at fun o e => hF.keep1 r.gr d₁ ha e
  have hlt : a < s.heap.objs.size := by obtain ⟨o, ho, _⟩ := hL.isList; exact Heap.lt_size ho
  have hF₁ : Free C g₁ [a] := hF.step (fun b hb => by rw [List.mem_singleton.mp hb]; exact hlt) d₁
  have hv₁ := hv.mono (r.ge d₁)
  refine wpAny_bind (wpAny_list_append_plain hL₁ (fun h' hL' hb => ?_) (sizeLine_ge (by show xs.length ≤ _; rw [← hv.length]; exact hl)))
  obtain ⟨gr', d'⟩ := r₁.gr.loop (tk := s₁.toks) (wr := [a]) hF₁ (fun b o hb' e => hb.extBut b o (fun q => hb' (by rw [q]; exact .head _)) e) (Nat.le_of_eq hb.1.symm)
  have r' := r₁.step gr' d' (fun b hb => by rw [List.mem_singleton.mp hb]; exact ⟨ha, hac⟩) fun b hb => (hF₁ b hb).2.2
  have e' : Ge g₁ g₁ s₁.heap h' := d'.ge (fun n a e => (r₁.gr.live n a e).2.2) (fun b hb => (hF₁ b hb).2.2) r₁.gr.tabP
  refine wpAny_pure ⟨g₁, loc, σ₁, ys ++ [m], xs ++ [v], r', (d₁.weak fun b h => .inl (.tail _ h)).trans (d'.weak fun b h => .inl (by rw [List.mem_singleton.mp h]; exact .head _)), ?_, (hv₁.append (.cons hm .nil)).mono e', q⟩
  simpa using hL'
theorem comp_start {elt : Expr} {gens : List Comprehension} {scope : Scope} {pos : Pos} {d : Nat} {it acc : Value} {env : Env} {R : Result → Shared → Prop} {gd : Comprehension} (hg : gens[d]? = some gd) (ha : gd.is_async = 0)
    (h : codeAny (model C.prog C.w) A (.compLoop (.ListComp elt gens scope pos) d it acc env) R s)
    (hs : ∀ Q : Value → Shared → Prop, Q it s → wpAny (model C.prog C.w) A (pyIter it) Q NoE s) : codeAny (model C.prog C.w) A (.compStart (.ListComp elt gens scope pos) d it acc env) R s := by
  refine codeAny_of_tree ?_
  show wpAny _ _ ((compStart (.ListComp elt gens scope pos) d it acc env).onRaise (fun x => do noteFrame x env; standAt theWindowsPlace)) _ _ s
  refine wpAny_notedAt ?_
  unfold compStart
  have hc : clausesOf (.ListComp elt gens scope pos) = gens := rfl
  rw [hc, hg]
  simp only [Option.elim, ha]
  show wpAny _ _ (ask >>= _) _ _ s
  refine wpAny_bind (wpAny_askSetting (wpAny_ite ?_))
  split
  · first
      | exact wpAny_bind (wpAny_pure (wpAny_pure (And.intro rfl h)))
      | exact wpAny_pure (And.intro rfl h)
  · refine wpAny_bind (wpAny_rule ?_)
    show wpAny _ _ (standAt gd.iter.pos >>= _) _ _ s
    refine wpAny_bind (wpAny_standAt (wpAny_bind (wpAny_mono (hs (fun it' s' => it' = it ∧ s' = s) ⟨rfl, rfl⟩) ?_ fun _ _ e => e.elim)))
    rintro it' s' ⟨rfl, rfl⟩
    exact wpAny_pure (And.intro rfl h)
inductive CompI (C : Cx) (fm : Fm) (fa wr : List Addr) (a : Addr) (n : Nat) (J : Hp → Prop) (IR : Nat → Gh → Hp → Heap → Prop) (Inv : Nat → Loc → Hp → List MV → Prop) (g : Gh) (s : Shared) (k : Nat) (s' : Shared) : Prop
  | mk (i : Nat) (g' : Gh) (l' : Loc) (σ' : Hp) (ys' : List MV) (xs' : List Value) (e : k + i = n) (r : Rel C g' σ' fm fa l' s') (d : Gd C (a :: wr ++ fa) g s g' s') (hI : Inv i l' σ' ys') (hJ : J σ') (hF : Free C g' wr) (hFa : Free C g' [a])
    (hi : IR i g' σ' s'.heap) (L : s'.heap.PlainList a ⟨xs'⟩) (hv : VRs C g' s'.heap ys' xs')
theorem comp_next {tg : Expr} {it : Value} {a : Addr} {wr : List Addr} {n i k : Nat} {item : Nat → MV} {J : Hp → Prop} {IR : Nat → Gh → Hp → Heap → Prop} {Inv : Nat → Loc → Hp → List MV → Prop} {g₀ g₂ : Gh} {s₀ s₂ : Shared} {σ₂ : Hp} {l₂ : Loc} {ys : List MV} {xs : List Value}
    (W : Iter C A tg it wr n item J IR) (hi : i < n) (hk : k + i = n) (r : Rel C g σ fm fa loc s) (hlv : ∀ b ∈ wr, b < s.heap.objs.size) (F : Free C g wr) (hla : ∀ b ∈ [a], b < s.heap.objs.size) (Fa : Free C g [a]) (ir : IR (i + 1) g σ s.heap) (hJ : J σ) (hwf : ∀ b ∈ wr, b ∉ fa ∧ ∀ x, fm.env.cells.lookup x ≠ some b) (haw : a ∉ wr)
    (D : Gd C (a :: wr ++ fa) g₀ s₀ g s) (d : Gd C (a :: fa) g s g₂ s₂) (r₂ : Rel C g₂ σ₂ fm fa l₂ s₂) (L : s₂.heap.PlainList a ⟨xs⟩) (hv : VRs C g₂ s₂.heap ys xs) (h : Inv (i + 1) l₂ σ₂ ys ∧ J σ₂) : ∃ m, m < k ∧ CompI C fm fa wr a n J IR Inv g₀ s₀ m s₂ :=
  ⟨k - 1, by (first | lia | omega), i + 1, g₂, l₂, σ₂, ys, xs, by (first | lia | omega), r₂, D.trans (d.weak fun b h => .inl ((List.mem_cons.mp h).elim (fun e => e ▸ .head _) fun h => .tail _ (List.mem_append_right _ h))), h.1, h.2, F.step hlv d, Fa.step hla d,
    W.stab (i + 1) g σ s g₂ σ₂ s₂ (a :: fa) r.gr F ir hJ d (fun b hb q => (List.mem_cons.mp q).elim (fun e => haw (e ▸ hb)) (hwf b hb).1) (fun b hb => (List.mem_cons.mp hb).elim (fun e => e ▸ (Fa a (.head _)).2.2) fun hb => (r.fr.fa b hb).2.2.1) r₂.gr h.2, L, hv⟩
theorem comp_walk {elt : Expr} {gens : List Comprehension} {scope : Scope} {pos : Pos} {d : Nat} {tg iter : Expr} {ifs : List Expr} {it : Value} {a : Addr} {wr : List Addr} {n : Nat} {item : Nat → MV} {J : Hp → Prop} {IR : Nat → Gh → Hp → Heap → Prop} {ys : List MV} {xs : List Value}
    (hg : gens[d]? = some ⟨tg, iter, ifs, 0⟩) (hn : ∀ g', gens[d + 1]? = some g' → g'.is_async = 0) (W : Iter C A tg it wr n item J IR) (Inv : Nat → Loc → Hp → List MV → Prop)
    (turn : ∀ i loc σ ys, i < n → Inv i loc σ ys → J σ → St C A fm tg (item i) loc σ fun l₁ σ₁ => Ifs C A fm ifs l₁ σ₁ fun ok σ₂ => if ok then Inn C A fm a (innerOf elt gens scope pos d (.ref a) fm.env) ys l₁ σ₂ fun l₂ σ₃ ys' => Inv (i + 1) l₂ σ₃ ys' ∧ J σ₃ else Inv (i + 1) l₁ σ₂ ys ∧ J σ₂)
    (hI : Inv 0 loc σ ys) (hJ : J σ) (r : Rel C g σ fm fa loc s) (hF : Free C g wr) (hwf : ∀ b ∈ wr, b ∉ fa ∧ ∀ x, fm.env.cells.lookup x ≠ some b) (hir : IR 0 g σ s.heap)
    (hFa : Free C g [a]) (ha : a ∉ fa) (hac : ∀ x, fm.env.cells.lookup x ≠ some a) (haw : a ∉ wr) (hL : s.heap.PlainList a ⟨xs⟩) (hv : VRs C g s.heap ys xs) :
    codeAny (model C.prog C.w) A (.compLoop (.ListComp elt gens scope pos) d it (.ref a) fm.env) (fun r' s' => r' = .ok .next ∧ InnP C fm fa (a :: wr ++ fa) a g s (fun l σ ys => Inv n l σ ys ∧ J σ) s') s := by
  refine codeAny_loop rfl (CompI C fm fa wr a n J IR Inv g s) (fun k s' hI => ?_) n
    ⟨0, g, loc, σ, ys, xs, rfl, r, .refl .., hI, hJ, hF, hFa, hir, hL, hv⟩
  obtain ⟨i, g', l', σ', ys', xs', hk, r', d', hI, hJ, hF, hFa, hir, hL, hv⟩ := hI
  show wpAny _ A ((compTurn (.ListComp elt gens scope pos) d it (.ref a) fm.env).onRaise (fun x => do noteFrame x fm.env; theTreesLotGoes x)) _ _ s'
  refine wpAny_noted ?_
  rw [compTurn_gen hg hn]
  refine wpAny_bind (wpAny_standAt (wpAny_bind ?_))
  have hlv := W.live i g' σ' s' r'.gr hir hJ
  have hla : ∀ b ∈ [a], b < s'.heap.objs.size := fun b hb => by rw [List.mem_singleton.mp hb]; obtain ⟨o, ho, _⟩ := hL.isList; exact Heap.lt_size ho
  by_cases hi : i < n
  · refine wpAny_mono (W.next i g' σ' s' r'.gr hF hir hJ hi) ?_ fun _ _ e => e.elim
    rintro _ s₁ ⟨v, rfl, h₁⟩
    refine wpAny_bind (wpAny_mono h₁ ?_ fun _ _ e => e.elim)
    rintro _ s₂ ⟨g₂, gr₂, d₂, hv₂, ir₂⟩
    have r₂ := r'.step gr₂ d₂ hwf fun b hb => (hF b hb).2.2
    have F₂ := hF.step hlv d₂
    have Fa₂ := hFa.step hla d₂
    have L₂ : s₂.heap.PlainList a ⟨xs'⟩ := hL.at fun o e => hFa.keep1 r'.gr d₂ haw e
    have V₂ : VRs C g₂ s₂.heap ys' xs' := hv.mono (d₂.ge (fun n a e => (r'.gr.live n a e).2.2) (fun b hb => (hF b hb).2.2) r'.gr.tabP)
    refine wpAny_bind (wpAny_mono (turn i l' σ' ys' hi hI hJ fa g₂ s₂ v r₂ hv₂) ?_ fun _ _ e => e.elim)
    rintro _ s₃ ⟨g₃, l₃, σ₃, r₃, d₃, h₃⟩
    refine wpAny_bind (wpAny_mono (h₃.run fa g₃ s₃ r₃) ?_ fun _ _ e => e.elim)
    rintro ok s₄ ⟨g₄, σ₄, r₄, d₄, h₄⟩
    have d₃₄ := d₃.trans d₄
    have L₄ : s₄.heap.PlainList a ⟨xs'⟩ := L₂.at fun o e => Fa₂.keep1 gr₂ d₃₄ ha e
    have V₄ : VRs C g₄ s₄.heap ys' xs' := V₂.mono (r₂.ge d₃₄)
    have la₂ : ∀ b ∈ [a], b < s₂.heap.objs.size := fun b hb => Nat.lt_of_lt_of_le (hla b hb) d₂.size
    have lv₂ : ∀ b ∈ wr, b < s₂.heap.objs.size := fun b hb => Nat.lt_of_lt_of_le (hlv b hb) d₂.size
    have dW : Gd C (a :: fa) g₂ s₂ g₄ s₄ := d₃₄.weak fun b h => .inl (.tail _ h)
    have dn := fun {g₅ l₅ σ₅ s₅ ys₅ xs₅} d₅ r₅ L₅ V₅ h => comp_next (g₂ := g₅) (l₂ := l₅) (σ₂ := σ₅) (s₂ := s₅) (ys := ys₅) (xs := xs₅) (Inv := Inv) W hi hk r₂ lv₂ F₂ la₂ Fa₂ ir₂ hJ hwf haw (d'.trans (d₂.weak fun b h => .inl (.tail _ (List.mem_append_left _ h)))) (dW.trans d₅) r₅ L₅ V₅ h
    cases ok with
    | false => exact wpAny_pure ⟨rfl, dn (.refl ..) r₄ L₄ V₄ h₄⟩
    | true =>
      refine wpAny_bind (wpAny_mono (h₄ fa g₄ s₄ xs' r₄ (Fa₂.step la₂ d₃₄) ha hac L₄ V₄) ?_ fun _ _ e => e.elim)
      rintro _ s₅ ⟨g₅, l₅, σ₅, ys₅, xs₅, r₅, d₅, L₅, V₅, hh⟩
      exact wpAny_pure ⟨rfl, dn d₅ r₅ L₅ V₅ hh⟩
  · obtain rfl : i = n := by (first | lia | omega)
    refine wpAny_mono (W.done g' σ' s' r'.gr hF hir hJ) ?_ fun _ _ e => e.elim
    rintro _ s₁ ⟨rfl, gr₁, d₁⟩
    have r₁ := r'.step gr₁ d₁ hwf fun b hb => (hF b hb).2.2
    refine wpAny_pure ⟨rfl, g', l', σ', ys', xs', r₁, d'.trans (d₁.weak fun b h => .inl (.tail _ (List.mem_append_left _ h))), hL.at fun o e => hFa.keep1 r'.gr d₁ haw e, hv.mono (d₁.ge (fun n a e => (r'.gr.live n a e).2.2) (fun b hb => (hF b hb).2.2) r'.gr.tabP), hI, hJ⟩
end
end
section
noncomputable def clGo (env : Env) : List (Str × NameKind) → List (Str × Addr) → List (Str × Addr)
  | [], acc => acc
  | (n, k) :: r, acc => clGo env r (if k == .free then (n, (env.cells.lookup n).getD 0) :: acc else acc)
theorem clGo_cons (env : Env) (n : Str) (k : NameKind) (r : List (Str × NameKind)) (acc : List (Str × Addr)) : clGo env ((n, k) :: r) acc = clGo env r (if k == .free then (n, (env.cells.lookup n).getD 0) :: acc else acc) := rfl
noncomputable abbrev clOf (scope : Scope) (env : Env) : List (Str × Addr) := clGo env scope.names []
theorem closureFor_eq {scope : Scope} {env : Env} (h : ∀ n, (n, NameKind.free) ∈ scope.names → ∃ c, env.cells.lookup n = some c) : closureFor scope env = pure (clOf scope env) := by
  have key : ∀ (names : List (Str × NameKind)) (acc : List (Str × Addr)), (∀ n, (n, NameKind.free) ∈ names → ∃ c, env.cells.lookup n = some c) →
      (forIn names acc fun x (cs : List (Str × Addr)) => (if x.2 == NameKind.free then do let a ← cellOf env x.1; pure (ForInStep.yield ((x.1, a) :: cs)) else pure (ForInStep.yield cs) : Sem (ForInStep (List (Str × Addr))))) = pure (clGo env names acc) := by
    intro names
    induction names with
    | nil => intro acc _; rfl
    | cons p r ih =>
      intro acc hh
      obtain ⟨n, k⟩ := p
      rw [List.forIn_cons]
      rw [clGo_cons]
      cases hk : k == NameKind.free with
      | true =>
        have hk' : k = .free := by simpa using hk
        obtain ⟨c, hc⟩ := hh n (by rw [hk']; exact .head _)
        simp only [if_true, cellOf, hc, pure_bind, Option.getD_some]
        exact ih _ fun m hm => hh m (.tail _ hm)
      | false =>
        simp only [Bool.false_eq_true, if_false, pure_bind]
        exact ih _ fun m hm => hh m (.tail _ hm)
  unfold closureFor
  have := key scope.names [] h
  simp only [bind_pure] 
  exact this
theorem clGo_lookup {env : Env} {x : Str} {c : Addr} {names : List (Str × NameKind)} {acc : List (Str × Addr)} (h0 : ∀ c, acc.lookup x = some c → env.cells.lookup x = some c) (hh : ∀ n, (n, NameKind.free) ∈ names → ∃ c, env.cells.lookup n = some c)
    (e : (clGo env names acc).lookup x = some c) : env.cells.lookup x = some c := by
  induction names generalizing acc with
  | nil => exact h0 c e
  | cons p r ih =>
    obtain ⟨n, k⟩ := p
    refine ih (fun c' e' => ?_) (fun m hm => hh m (.tail _ hm)) e
    cases hk : k == NameKind.free with
    | true =>
      rw [hk] at e'
      simp only [if_true] at e'
      rw [List.lookup_cons] at e'
      cases hx : x == n with
      | true =>
        have hxn := beq_iff_eq.mp hx
        rw [hx] at e'
        have hk' : k = .free := by simpa using hk
        obtain ⟨c1, hc1⟩ := hh n (by rw [hk']; exact .head _)
        rw [hc1] at e'
        cases e'
        rw [hxn]; exact hc1
      | false => rw [hx] at e'; exact h0 c' e'
    | false => rw [hk] at e'; exact h0 c' e'
theorem clGo_has {env : Env} {x : Str} {names : List (Str × NameKind)} {acc : List (Str × Addr)} (h : (x, NameKind.free) ∈ names ∨ (acc.lookup x).isSome = true) : ((clGo env names acc).lookup x).isSome = true := by
  induction names generalizing acc with
  | nil => exact h.elim (fun h => nomatch h) id
  | cons p r ih =>
    obtain ⟨n, k⟩ := p
    refine ih ?_
    rcases h with h | h
    · rcases List.mem_cons.mp h with e | h
      · cases e; right; simp
      · exact .inl h
    · right
      split
      · rw [List.lookup_cons]; cases x == n <;> simp [h]
      · exact h
theorem clGo_mem {env : Env} {x : Str} : ∀ {names : List (Str × NameKind)} {acc : List (Str × Addr)}, ((clGo env names acc).lookup x).isSome = true → (x, NameKind.free) ∈ names ∨ (acc.lookup x).isSome = true
  | [], acc, h => .inr h
  | (n, k) :: r, acc, h => by
    rw [clGo_cons] at h
    rcases clGo_mem h with h | h
    · exact .inl (.tail _ h)
    · split at h
      · rename_i hk
        have hk' : k = .free := by simpa using hk
        rw [List.lookup_cons] at h
        cases hx : x == n with
        | true => left; rw [hk', beq_iff_eq.mp hx]; exact .head _
        | false => rw [hx] at h; exact .inr h
      · exact .inr h
theorem cellsFrom_append : ∀ (names : List (Str × NameKind)) (n : Nat) (acc : List (Str × Addr)), cellsFrom n names acc = cellsFrom n names [] ++ acc
  | [], _, _ => rfl
  | (y, k) :: r, n, acc => by
    unfold cellsFrom
    split
    · rw [cellsFrom_append r (n + 1) ((y, n) :: acc), cellsFrom_append r (n + 1) [(y, n)], List.append_assoc]; rfl
    · exact cellsFrom_append r n acc
theorem lookup_append {α : Type} (l m : List (Str × α)) (x : Str) : (l ++ m).lookup x = (l.lookup x).or (m.lookup x) := by
  induction l with
  | nil => rfl
  | cons p l ih =>
    obtain ⟨y, v⟩ := p
    rw [List.cons_append, List.lookup_cons, List.lookup_cons]
    cases x == y
    · exact ih
    · rfl
noncomputable def cEnv (scope : Scope) (env : Env) (L : Addr) : Env := { compEnvC scope (clOf scope env) L env with cells := cellsFrom (L + 1) scope.names (clOf scope env) }
noncomputable def cFm (scope : Scope) (env : Env) (L : Addr) : Fm := ⟨cEnv scope env L, ownOf scope⟩
noncomputable def cLoc (scope : Scope) (loc : Loc) : Loc := fun x => if scope.names.lookup x = some .free then loc x else none
structure CompOk (scope : Scope) (env : Env) : Prop where
  kind : scope.kind = .function
  loc : ∀ x ∈ scope.names, x.2 = .local → scope.names.lookup x.1 = some .local
  free : ∀ x, (x, NameKind.free) ∈ scope.names → env.kindOf x = some .cell ∨ env.kindOf x = some .free
  cell : ∀ x, (x, NameKind.cell) ∈ scope.names → scope.names.lookup x = some .cell
  free' : ∀ x, (x, NameKind.free) ∈ scope.names → scope.names.lookup x = some .free
theorem relabel_kind {scope : Scope} {env : Env} {x : Str} {names : List (Str × NameKind)} {k : NameKind} (h : names.lookup x = some k) :
    (names.map fun (n, k) => if (k == NameKind.free && env.scope.kind == .function && env.kindOf n == some .cell) then (n, NameKind.cell) else (n, k)).lookup x = some (if k == NameKind.free && env.scope.kind == .function && env.kindOf x == some .cell then .cell else k) := by
  induction names with
  | nil => exact nomatch h
  | cons p r ih =>
    obtain ⟨n, k'⟩ := p
    rw [List.lookup_cons] at h
    rw [List.map_cons]
    cases hx : x == n with
    | true =>
      rw [hx] at h; cases h
      have := beq_iff_eq.mp hx
      subst this
      simp only
      split <;> simp [List.lookup_cons]
    | false =>
      rw [hx] at h
      have ih := ih h
      simp only
      split <;> (rw [List.lookup_cons, hx]; exact ih)
theorem relabel_none {env : Env} {x : Str} {names : List (Str × NameKind)} (h : names.lookup x = none) :
    (names.map fun (n, k) => if (k == NameKind.free && env.scope.kind == .function && env.kindOf n == some .cell) then (n, NameKind.cell) else (n, k)).lookup x = none := by
  induction names with
  | nil => rfl
  | cons p r ih =>
    obtain ⟨n, k'⟩ := p
    rw [List.lookup_cons] at h
    rw [List.map_cons]
    cases hx : x == n with
    | true => rw [hx] at h; cases h
    | false =>
      rw [hx] at h
      have ih := ih h
      simp only
      split <;> (rw [List.lookup_cons, hx]; exact ih)
section
variable {C : Cx} {A : Around} {fm : Fm} {fa : List Addr} {loc : Loc} {σ : Hp} {g : Gh} {s : Shared} {Q Q' : MV → Hp → Prop} {QB : Bool → Hp → Prop} {QS : Fl → Loc → Hp → Prop}
theorem new_comp {scope : Scope} {R : Env → Shared → Prop} (H : CompOk scope fm.env) (r : Rel C g σ fm fa loc s)
    (h : ∀ h' fb, fb = s.heap.objs.size :: (ownOf scope).filterMap (fun x => (cEnv scope fm.env s.heap.objs.size).cells.lookup x) → (∀ b ∈ fb, s.heap.objs.size ≤ b) → (∀ b o, s.heap.get? b = some o → h'.get? b = some o) → s.heap.objs.size ≤ h'.objs.size →
      Rel C g σ (cFm scope fm.env s.heap.objs.size) fb (cLoc scope loc) { s with heap := h' } → ∀ cenv : Env, cenv.locals = s.heap.objs.size → { cenv with scope := relabel scope fm.env } = cEnv scope fm.env s.heap.objs.size → R cenv { s with heap := h' }) :
    wpAny (model C.prog C.w) A (newFunctionEnv scope fm.env.globals (clOf scope fm.env) [] fm.env.qual none .none (some fm.env)) R NoE s := by
  have hfree : ∀ n, (n, NameKind.free) ∈ scope.names → ∃ c, fm.env.cells.lookup n = some c := fun n hn => r.fr.has n (H.free n hn)
  simp only [newFunctionEnv, Option.isSome_some, if_true]
  refine wpAny_bind (wpAny_alloc ?_)
  refine wpAny_bind (wpAny_layCells _ (fun name kind cells => by cases hkc : kind == NameKind.cell <;> simp [hkc]) _ _ _ _ ?_)
  have hz : ({ s with heap := s.heap.push { cls := .type "dict", data := .dict #[] } } : Shared).heap.objs.size = s.heap.objs.size + 1 := Heap.size_push ..
  rw [hz]
  have ok := cellsFrom_ok scope.names (s.heap.push { cls := .type "dict", data := .dict #[] }) (s.heap.objs.size + 1) [] ⟨fun _ _ hm => (nomatch hm), List.Pairwise.nil⟩ (by rw [Heap.size_push]; exact Nat.le_refl _)
  rw [Heap.size_push] at ok
  have keep : ∀ b o, s.heap.get? b = some o → (pushCells (s.heap.push { cls := .type "dict", data := .dict #[] }) scope.names).get? b = some o := fun b o e => pushCells_keeps _ _ b o (Heap.get?_push_of_some _ e)
  have hns : (pushCells (s.heap.push { cls := .type "dict", data := .dict #[] }) scope.names).Ns s.heap.objs.size fun _ => none := (Heap.Ns.new s.heap (.type "dict")).keeps (pushCells_keeps _ _)
  generalize pushCells (s.heap.push { cls := .type "dict", data := .dict #[] }) scope.names = h' at ok keep hns ⊢
  have hlt : s.heap.objs.size < h'.objs.size := hns.lt
  refine wpAny_bind (wpAny_pure (wpAny_pure ?_))
  have hcl : (cEnv scope fm.env s.heap.objs.size).cells = cellsFrom (s.heap.objs.size + 1) scope.names [] ++ clOf scope fm.env := cellsFrom_append ..
  have hsplit : ∀ x c, (cEnv scope fm.env s.heap.objs.size).cells.lookup x = some c → ((cellsFrom (s.heap.objs.size + 1) scope.names []).lookup x = some c ∧ x ∈ ownOf scope) ∨ (fm.env.cells.lookup x = some c ∧ (x, NameKind.free) ∈ scope.names) := fun x c e => by
    rw [hcl, lookup_append] at e
    cases hn : (cellsFrom (s.heap.objs.size + 1) scope.names []).lookup x with
    | some c' =>
      rw [hn] at e; cases e
      refine .inl ⟨rfl, ?_⟩
      rcases mem_cellsFrom scope.names (s.heap.objs.size + 1) [] x (by rw [hn]; rfl) with q | q
      · exact List.mem_map.mpr ⟨(x, .cell), List.mem_filter.mpr ⟨q, rfl⟩, rfl⟩
      · cases q
    | none =>
      rw [hn] at e
      have e' : (clOf scope fm.env).lookup x = some c := e
      refine .inr ⟨clGo_lookup (fun c h => by cases h) hfree e', ?_⟩
      rcases clGo_mem (x := x) (names := scope.names) (acc := []) (env := fm.env) (by rw [show (clGo fm.env scope.names []).lookup x = some c from e']; rfl) with q | q
      · exact q
      · cases q
  have hnew : ∀ x c, (cellsFrom (s.heap.objs.size + 1) scope.names []).lookup x = some c → h'.IsCell c none ∧ s.heap.objs.size + 1 ≤ c := fun x c e => ok.empty x c (mem_of_lookup e)
  have hownc : ∀ x ∈ ownOf scope, ∃ c, (cellsFrom (s.heap.objs.size + 1) scope.names []).lookup x = some c := fun x hx => by
    obtain ⟨p, hp, rfl⟩ := List.mem_map.mp hx
    obtain ⟨hp1, hp2⟩ := List.mem_filter.mp hp
    have hp3 : p.2 = NameKind.cell := by simpa using hp2
    exact Option.isSome_iff_exists.mp (lookup_cellsFrom scope.names (s.heap.objs.size + 1) [] p.1 (.inl (hp3 ▸ hp1)))
  have hup : ∀ x c, (cellsFrom (s.heap.objs.size + 1) scope.names []).lookup x = some c → (cEnv scope fm.env s.heap.objs.size).cells.lookup x = some c := fun x c e => by rw [hcl, lookup_append, e]; rfl
  have hcells : ∀ x c, fm.env.cells.lookup x = some c → c < s.heap.objs.size := fun x c e => by obtain ⟨⟨v, hv⟩, _⟩ := r.fr.cells x c e; exact hv.lt
  have hfb : ∀ b ∈ s.heap.objs.size :: (ownOf scope).filterMap (fun x => (cEnv scope fm.env s.heap.objs.size).cells.lookup x), s.heap.objs.size ≤ b ∧ b < h'.objs.size := by
    intro b hb
    rcases List.mem_cons.mp hb with rfl | hb
    · exact ⟨Nat.le_refl _, hlt⟩
    · obtain ⟨x, hx, hc⟩ := List.mem_filterMap.mp hb
      obtain ⟨c, hc'⟩ := hownc x hx
      have := hup x c hc'
      rw [hc] at this; cases this
      obtain ⟨h1, h2⟩ := hnew x b hc'
      exact ⟨Nat.le_of_succ_le h2, h1.lt⟩
  have hg : Ge g g s.heap h' := ⟨fun _ _ e => e, fun _ e => e, fun a o _ e => keep a o e⟩
  have hkof : ∀ x k, scope.names.lookup x = some k → (cEnv scope fm.env s.heap.objs.size).kindOf x = some (if k == NameKind.free && fm.env.scope.kind == .function && fm.env.kindOf x == some .cell then .cell else k) := fun x k e => relabel_kind (scope := scope) (env := fm.env) e
  have hkno : ∀ x, scope.names.lookup x = none → (cEnv scope fm.env s.heap.objs.size).kindOf x = none := fun x e => relabel_none (env := fm.env) e
  refine h h' _ rfl (fun b hb => (hfb b hb).1) keep (Nat.le_of_lt hlt) ⟨r.gr.ext (s' := { s with heap := h' }) keep (Nat.le_of_lt hlt), H.kind, r.fr.glob, r.fr.bi, ⟨_, hns⟩, .head _, fun x v e => ?_, fun x c e => ?_, fun x hx => ?_, fun x y c e e' => ?_, fun b hb => ?_, fun x hx => ?_⟩ _ rfl rfl
  · have e' : (if scope.names.lookup x = some .free then loc x else none) = some v := e
    by_cases hf : scope.names.lookup x = some .free
    · rw [if_pos hf] at e'
      obtain ⟨u, hu, hv⟩ := r.fr.var x v e'
      have hm : (x, NameKind.free) ∈ scope.names := mem_of_lookup hf
      refine ⟨u, ?_, hv.mono hg⟩
      obtain ⟨c, hc⟩ := hfree x hm
      have hIc : h'.IsCell c (some u) := by
        rcases hu with ⟨q, _⟩ | ⟨_, c', hc', hi⟩
        · rcases H.free x hm with w | w <;> (rw [w] at q; cases q)
        · rw [hc] at hc'; cases hc'; exact hi.keeps keep
      obtain ⟨c2, hc2⟩ := Option.isSome_iff_exists.mp (clGo_has (x := x) (names := scope.names) (acc := []) (env := fm.env) (.inl hm))
      have hcc : (cEnv scope fm.env s.heap.objs.size).cells.lookup x = some c := by
        rw [hcl, lookup_append]
        cases hn : (cellsFrom (s.heap.objs.size + 1) scope.names []).lookup x with
        | some c' =>
          exfalso
          rcases mem_cellsFrom scope.names (s.heap.objs.size + 1) [] x (by rw [hn]; rfl) with q | q
          · have := H.cell x q; rw [hf] at this; cases this
          · cases q
        | none =>
          show (clOf scope fm.env).lookup x = some c
          have : fm.env.cells.lookup x = some c2 := clGo_lookup (fun c h => by cases h) hfree hc2
          rw [hc] at this; cases this; exact hc2
      refine .inr ⟨?_, c, hcc, hIc⟩
      have := hkof x _ hf
      show (cEnv scope fm.env s.heap.objs.size).kindOf x = _ ∨ (cEnv scope fm.env s.heap.objs.size).kindOf x = _
      rw [this]
      split
      · exact .inl rfl
      · exact .inr rfl
    · rw [if_neg hf] at e'; cases e'
  · rcases hsplit x c e with ⟨e1, hx⟩ | ⟨e1, hx⟩
    · obtain ⟨h1, h2⟩ := hnew x c e1
      have hge : s.heap.objs.size ≤ c := Nat.le_of_succ_le h2
      exact ⟨⟨_, h1⟩, fun q => by have q' : c = s.heap.objs.size := q; rw [q'] at h2; exact Nat.not_succ_le_self _ h2, Nat.le_trans r.gr.size hge, fun n hn => Nat.lt_irrefl _ (Nat.lt_of_lt_of_le (r.gr.live n c hn).2.1 hge), fun hno => absurd hx hno⟩
    · refine via_p fun P kP => ?_
      obtain ⟨⟨v, hv⟩, c1, c2, c3, c5⟩ := r.fr.cells x c e1
      refine kP ?_
      clear kP P
      have hlt' := hcells x c e1
      exact ⟨⟨v, hv.keeps keep⟩, fun q => by have q' : c = s.heap.objs.size := q; rw [q'] at hlt'; exact Nat.lt_irrefl _ hlt', c2, c3, fun _ hm => Nat.lt_irrefl _ (Nat.lt_of_lt_of_le hlt' (hfb c hm).1)⟩
  · obtain ⟨c, hc⟩ := hownc x hx
    obtain ⟨p, hp, rfl⟩ := List.mem_map.mp hx
    obtain ⟨hp1, hp2⟩ := List.mem_filter.mp hp
    have hp3 : p.2 = NameKind.cell := by simpa using hp2
    have hk := hkof p.1 _ (H.cell p.1 (hp3 ▸ hp1))
    refine ⟨?_, c, hup _ c hc, .tail _ (List.mem_filterMap.mpr ⟨p.1, hx, hup _ c hc⟩)⟩
    show (cEnv scope fm.env s.heap.objs.size).kindOf p.1 = _
    rw [hk]; rfl
  · rcases hsplit x c e with ⟨e1, _⟩ | ⟨e1, _⟩ <;> rcases hsplit y c e' with ⟨e2, _⟩ | ⟨e2, _⟩
    · exact name_of_addr ok.apart (mem_of_lookup e1) (mem_of_lookup e2)
    · exact absurd (hcells y c e2) (Nat.not_lt.mpr (Nat.le_of_succ_le (hnew x c e1).2))
    · exact absurd (hcells x c e1) (Nat.not_lt.mpr (Nat.le_of_succ_le (hnew y c e2).2))
    · exact r.fr.inj x y c e1 e2
  · obtain ⟨f1, f2⟩ := hfb b hb
    exact ⟨Nat.le_trans r.gr.size f1, f2, fun hp => Nat.lt_irrefl _ (Nat.lt_of_lt_of_le (r.gr.P b hp).2 f1), fun n hn => Nat.lt_irrefl _ (Nat.lt_of_lt_of_le (r.gr.live n b hn).2.1 f1)⟩
  · have hx' : (cEnv scope fm.env s.heap.objs.size).kindOf x = some .cell ∨ (cEnv scope fm.env s.heap.objs.size).kindOf x = some .free := hx
    cases hk : scope.names.lookup x with
    | none => rw [hkno x hk] at hx'; rcases hx' with q | q <;> cases q
    | some k =>
      have hk2 := hkof x k hk
      cases k with
      | free =>
        obtain ⟨c2, hc2⟩ := Option.isSome_iff_exists.mp (clGo_has (x := x) (names := scope.names) (acc := []) (env := fm.env) (.inl (mem_of_lookup hk)))
        show ∃ c, (cEnv scope fm.env s.heap.objs.size).cells.lookup x = some c
        rw [hcl, lookup_append]
        cases (cellsFrom (s.heap.objs.size + 1) scope.names []).lookup x with
        | some c => exact ⟨c, rfl⟩
        | none => exact ⟨c2, hc2⟩
      | cell =>
        obtain ⟨c, hc⟩ := hownc x (List.mem_map.mpr ⟨(x, .cell), List.mem_filter.mpr ⟨mem_of_lookup hk, rfl⟩, rfl⟩)
        exact ⟨c, hup x c hc⟩
      | _ => rw [hk2] at hx'; rcases hx' with q | q <;> cases q
end
end
section
section
variable {C : Cx} {A : Around} {fm : Fm} {fa : List Addr} {loc : Loc} {σ : Hp} {g : Gh} {s : Shared} {Q Q' : MV → Hp → Prop} {QB : Bool → Hp → Prop} {QS : Fl → Loc → Hp → Prop}
structure Built (C : Cx) (fm : Fm) (fa : List Addr) (loc : Loc) (g : Gh) (s : Shared) (g' : Gh) (σ' : Hp) (s' : Shared) (a L : Addr) (ys : List MV) : Prop where
  rel : Rel C g' σ' fm fa loc s'
  gd : Gd C fa g s g' s'
  free : Free C g' [a, L]
  apa : s.heap.objs.size ≤ a ∧ a ∉ fa ∧ ∀ x, fm.env.cells.lookup x ≠ some a
  apL : s.heap.objs.size ≤ L ∧ L ∉ fa ∧ ∀ x, fm.env.cells.lookup x ≠ some L
  ne : a ≠ L
  lst : ∃ xs, s'.heap.PlainList a ⟨xs⟩ ∧ VRs C g' s'.heap ys xs
theorem Free.mono {wr wr' : List Addr} (h : Free C g wr) (k : ∀ b ∈ wr', b ∈ wr) : Free C g wr' := fun b hb => h b (k b hb)
theorem Built.go {g' : Gh} {σ' : Hp} {s' : Shared} {a L : Addr} {ys : List MV} {h' : Heap} (B : Built C fm fa loc g s g' σ' s' a L ys) (hb : Heap.SameBut L s'.heap h') : Built C fm fa loc g s g' σ' { s' with heap := h' } a L ys := by
  have hF : Free C g' [L] := B.free.mono fun b hb => .tail _ hb
  obtain ⟨gr, d⟩ := B.rel.gr.loop (tk := s'.toks) (wr := [L]) hF (fun b o hn e => hb.extBut b o (fun q => hn (by rw [q]; exact .head _)) e) (Nat.le_of_eq hb.1.symm)
  have e : Ge g' g' s'.heap h' := d.ge (fun n a e => (B.rel.gr.live n a e).2.2) (fun b hb => (hF b hb).2.2) B.rel.gr.tabP
  obtain ⟨xs, hl, hv⟩ := B.lst
  exact ⟨B.rel.step gr d (fun b hb => by rw [List.mem_singleton.mp hb]; exact B.apL.2) (fun b hb => (hF b hb).2.2), ((B.gd.weak (fa := L :: fa) fun b h => .inl (.tail _ h)).trans (d.weak fun b h => .inl (by rw [List.mem_singleton.mp h]; exact .head _))).weak (fun b h => (List.mem_cons.mp h).elim (fun q => .inr (q ▸ B.apL.1)) .inl), B.free, B.apa, B.apL, B.ne, xs, hl.at fun o e => hb.extBut a o B.ne e, hv.mono e⟩
theorem comp_core {elt : Expr} {tg iter : Expr} {ifs : List Expr} {rest : List Comprehension} {scope : Scope} {pos : Pos} {use : Option (Value → Sem Unit)} {R : Value → Shared → Prop} {pp : Pos} (H : CompOk scope fm.env) (n : Nat) (item : Nat → MV) (J : Hp → Prop) (Inv : Nat → Loc → Hp → List MV → Prop)
    (h : WalkE C A fm tg iter loc σ n item J fun σ₁ => Inv 0 (cLoc scope loc) σ₁ []) (hn : ∀ g', rest[0]? = some g' → g'.is_async = 0)
    (turn : ∀ L a i l σ ys, i < n → Inv i l σ ys → J σ → St C A (cFm scope fm.env L) tg (item i) l σ fun l₁ σ₁ => Ifs C A (cFm scope fm.env L) ifs l₁ σ₁ fun ok σ₂ =>
      if ok then Inn C A (cFm scope fm.env L) a (innerOf elt (⟨tg, iter, ifs, 0⟩ :: rest) scope pos 0 (.ref a) (cEnv scope fm.env L)) ys l₁ σ₂ fun l₂ σ₃ ys' => Inv (i + 1) l₂ σ₃ ys' ∧ J σ₃ else Inv (i + 1) l₁ σ₂ ys ∧ J σ₂)
    (r : Rel C g σ fm fa loc s)
    (k : ∀ g' σ' s' a L l ys, Built C fm fa loc g s g' σ' s' a L ys → (∃ m, s'.heap.Ns L m) → Inv n l σ' ys → J σ' → compPost (model C.prog C.w) A NoE use R (.ref a) L (.ok .next) s')
    (hs : ∀ x, foldedSetIterable iter fm.env x = pure x) :
    wpAny (model C.prog C.w) A (comprehension (.ListComp elt (⟨tg, iter, ifs, 0⟩ :: rest) scope pos) scope fm.env pp (newList []) false (eval iter fm.env) use) R NoE s := by
  have hfree : ∀ n, (n, NameKind.free) ∈ scope.names → ∃ c, fm.env.cells.lookup n = some c := fun n hn => r.fr.has n (H.free n hn)
  refine wpAny_comprehension_free (g := ⟨tg, iter, ifs, 0⟩) (gs := rest) rfl hs (closureFor_eq hfree) H.kind H.loc ?_
  refine wpAny_mono (h fa g s r) (fun x s₁ h₁ => wpAny_mono h₁ ?_ fun _ _ e => e) fun _ _ e => e
  rintro it s₂ ⟨g₂, σ₂, wr, IR, W, r₂, d₂, hF, hw, hir, hJ, hI⟩
  have hlv := W.live 0 g₂ σ₂ s₂ r₂.gr hir hJ
  refine wpAny_newList ?_ (by decide)
  have k₃ : ∀ b o', s₂.heap.get? b = some o' → (s₂.heap.push (lstObj #[] 0)).get? b = some o' := fun b o' e => Heap.get?_push_of_some _ e
  have z₃ : (s₂.heap.push (lstObj #[] 0)).objs.size = s₂.heap.objs.size + 1 := Heap.size_push ..
  have r₃ : Rel C g₂ σ₂ fm fa loc { s₂ with heap := s₂.heap.push (lstObj #[] 0) } := r₂.ext k₃ (size_push_le _ _)
  refine new_comp (s := { s₂ with heap := s₂.heap.push (lstObj #[] 0) }) H r₃ fun h' fb hfb hfb0 keep hz ri cenv hloc henv => ?_
  rw [henv, hloc]
  have hL : ({ s₂ with heap := s₂.heap.push (lstObj #[] 0) } : Shared).heap.objs.size = s₂.heap.objs.size + 1 := z₃
  rw [hL] at hfb hfb0 ri ⊢
  generalize ha : s₂.heap.objs.size = a at *
  have kk : ∀ b o, s₂.heap.get? b = some o → h'.get? b = some o := fun b o e => keep b o (k₃ b o e)
  have hz' : a + 1 ≤ h'.objs.size := by have := hz; rw [hL] at this; exact this
  have d₄ : Gd C [] g₂ s₂ g₂ { s₂ with heap := h' } := .ext kk (by rw [ha]; exact Nat.le_of_succ_le hz') rfl rfl rfl
  have hir₄ : IR 0 g₂ σ₂ h' := W.stab 0 g₂ σ₂ s₂ g₂ σ₂ { s₂ with heap := h' } [] r₂.gr hF hir hJ d₄ (fun _ _ h => nomatch h) (fun _ h => nomatch h) ri.gr hJ
  have Fa : Free C g₂ [a] := by rw [← ha]; exact free_new r₂.gr
  have hLi : h'.PlainList a ⟨[]⟩ := by
    have : (s₂.heap.push (lstObj #[] 0)).PlainList a ⟨[]⟩ := by rw [← ha]; exact ⟨_, Heap.get?_push_size _ rfl⟩
    exact this.at fun o e => keep a o e
  have hwlt : ∀ b ∈ wr, b < a := fun b hb => hlv b hb
  have icell : ∀ x c, (cFm scope fm.env (a + 1)).env.cells.lookup x = some c → a + 1 ≤ c ∨ fm.env.cells.lookup x = some c := fun x c e => by
    have e' : (cellsFrom (a + 1 + 1) scope.names (clOf scope fm.env)).lookup x = some c := e
    rw [cellsFrom_append, lookup_append] at e'
    cases hq : (cellsFrom (a + 1 + 1) scope.names []).lookup x with
    | some c' =>
      rw [hq] at e'; cases e'
      left
      have := (ri.fr.cells x c e)
      by_cases ho : x ∈ (cFm scope fm.env (a + 1)).own
      · obtain ⟨_, c2, hc2, hm2⟩ := ri.fr.own x ho
        rw [e] at hc2; cases hc2
        exact hfb0 c hm2
      · exfalso
        rcases mem_cellsFrom scope.names (a + 1 + 1) [] x (by rw [hq]; rfl) with q | q
        · exact ho (List.mem_map.mpr ⟨(x, .cell), List.mem_filter.mpr ⟨q, rfl⟩, rfl⟩)
        · cases q
    | none =>
      rw [hq] at e'
      exact .inr (clGo_lookup (fun c h => by cases h) hfree e')
  have ocell : ∀ x c, fm.env.cells.lookup x = some c → c < a := fun x c e => by rw [← ha]; obtain ⟨⟨v, hv⟩, _⟩ := r₂.fr.cells x c e; exact hv.lt
  have hwf : ∀ b ∈ wr, b ∉ fb ∧ ∀ x, (cFm scope fm.env (a + 1)).env.cells.lookup x ≠ some b := fun b hb =>
    ⟨fun q => Nat.lt_irrefl _ (Nat.lt_of_lt_of_le (hwlt b hb) (Nat.le_of_succ_le (hfb0 b q))), fun x q => (icell x b q).elim (fun w => Nat.lt_irrefl _ (Nat.lt_of_lt_of_le (hwlt b hb) (Nat.le_of_succ_le w))) ((hw b hb).2.2 x)⟩
  have afb : a ∉ fb := fun q => Nat.not_succ_le_self _ (hfb0 a q)
  have acell : ∀ x, (cFm scope fm.env (a + 1)).env.cells.lookup x ≠ some a := fun x q => (icell x a q).elim (fun w => Nat.not_succ_le_self _ w) fun w => Nat.lt_irrefl _ (ocell x a w)
  have haw : a ∉ wr := fun q => Nat.lt_irrefl _ (hwlt a q)
  have main := comp_walk (fm := cFm scope fm.env (a + 1)) (d := 0) (gens := ⟨tg, iter, ifs, 0⟩ :: rest) (elt := elt) (scope := scope) (pos := pos) (a := a) (xs := []) (ys := []) rfl hn W Inv (fun i l σ ys => turn (a + 1) a i l σ ys) hI hJ ri hF hwf hir₄ Fa afb acell haw hLi .nil
  refine comp_start (gd := ⟨tg, iter, ifs, 0⟩) rfl rfl (codeAny_mono main ?_) fun Q q => W.self 0 g₂ σ₂ _ ri.gr hir₄ hJ Q q
  rintro r' s' ⟨rfl, g', l', σ', ys, xs, rel', gd', hL', hV', hInv, hJ'⟩
  have d₅ : Gd C (a :: wr ++ fb) g₂ s₂ g' s' := (d₄.weak fun b h => nomatch h).trans gd'
  have hall : ∀ b ∈ a :: wr ++ fb, b ∉ fa ∧ ∀ x, fm.env.cells.lookup x ≠ some b := fun b hb => by
    rcases List.mem_append.mp hb with hb | hb
    · rcases List.mem_cons.mp hb with rfl | hb
      · exact r₂.apart (by rw [ha]; exact Nat.le_refl _)
      · exact (hw b hb).2
    · exact r₂.apart (by rw [ha]; exact Nat.le_of_succ_le (hfb0 b hb))
  have hallP : ∀ b ∈ a :: wr ++ fb, ¬ g₂.P b := fun b hb => by
    rcases List.mem_append.mp hb with hb | hb
    · rcases List.mem_cons.mp hb with rfl | hb
      · exact (Fa b (.head _)).2.2
      · exact (hF b hb).2.2
    · exact (ri.fr.fa b hb).2.2.1
  have rel₅ := r₂.step rel'.gr d₅ hall hallP
  have hallS : ∀ b ∈ a :: wr ++ fb, s.heap.objs.size ≤ b := fun b hb => by
    have hsa : s.heap.objs.size ≤ a := by rw [← ha]; exact d₂.size
    rcases List.mem_append.mp hb with hb | hb
    · rcases List.mem_cons.mp hb with rfl | hb
      · exact hsa
      · exact (hw b hb).1
    · exact Nat.le_trans hsa (Nat.le_of_succ_le (hfb0 b hb))
  have gd₅ : Gd C fa g s g' s' := ((d₂.weak (fa := (a :: wr ++ fb) ++ fa) fun b h => .inl (List.mem_append_right _ h)).trans (d₅.weak fun b h => .inl (List.mem_append_left _ h))).weak fun b h => (List.mem_append.mp h).elim (fun q => .inr (hallS b q)) .inl
  have hLfb : a + 1 ∈ fb := by rw [hfb]; exact .head _
  have FL := rel'.fr.fa (a + 1) hLfb
  refine k g' σ' s' a (a + 1) l' ys ⟨rel₅, gd₅, fun b hb => ?_, ⟨hallS a (List.mem_append_left _ (.head _)), hall a (List.mem_append_left _ (.head _))⟩, ⟨hallS _ (List.mem_append_right _ hLfb), hall _ (List.mem_append_right _ hLfb)⟩, Nat.ne_of_lt (Nat.lt_succ_self _), xs, hL', hV'⟩ rel'.fr.ns hInv hJ'
  rcases List.mem_cons.mp hb with rfl | hb
  · have hb' : b < ({ s₂ with heap := h' } : Shared).heap.objs.size := hz'
    obtain ⟨f1, f2, f3⟩ := Fa b (.head _)
    exact ⟨f1, fun n hn => (gd'.ρn n b hn).elim (f2 n) fun w => Nat.lt_irrefl _ (Nat.lt_of_lt_of_le hb' w), fun hp => (gd'.Pn b hp).elim f3 fun w => Nat.lt_irrefl _ (Nat.lt_of_lt_of_le hb' w)⟩
  · rw [List.mem_singleton.mp hb]
    exact ⟨FL.1, FL.2.2.2, FL.2.2.1⟩
theorem FR.pin {a : Addr} {h : Heap} (r : FR C g fm fa loc h) (h1 : a ∉ fa) (h2 : ∀ x, fm.env.cells.lookup x ≠ some a) : FR C (g.pin a) fm fa loc h where
  fn := r.fn
  glob := r.glob
  bi := r.bi
  ns := r.ns
  L := r.L
  var := fun x v e => by obtain ⟨u, hu, hv⟩ := r.var x v e; exact ⟨u, hu, hv.mono (ge_pin0 a h)⟩
  cells := fun x c e => r.cells x c e
  own := r.own
  inj := r.inj
  fa := fun b hb => by obtain ⟨x, y, z, w⟩ := r.fa b hb; exact ⟨x, y, fun q => q.elim (fun q => h1 (q ▸ hb)) z, w⟩
  has := r.has
theorem Built.frz {g' : Gh} {σ' : Hp} {s' : Shared} {a L : Addr} {ys : List MV} (B : Built C fm fa loc g s g' σ' s' a L ys) : Rel C (g'.pin a) σ' fm fa loc s' ∧ VR C (g'.pin a) s'.heap (.lst ys) (.ref a) ∧ Gd C fa g s (g'.pin a) s' := by
  obtain ⟨xs, hl, hv⟩ := B.lst
  obtain ⟨f1, f2, f3⟩ := B.free a (.head _)
  have hlt : a < s'.heap.objs.size := by obtain ⟨o, ho, _⟩ := hl.isList; exact Heap.lt_size ho
  exact ⟨⟨B.rel.gr.pin f1 hlt f2, B.rel.fr.pin B.apa.2.1 B.apa.2.2⟩, .lst (.inl rfl) hl (hv.mono (ge_pin0 a _)), B.gd.pin0 B.apa.1⟩
theorem ge_set {n : Nat} {a : Addr} {h : Heap} (hn : g.ρ n = none) : Ge g (g.set n a) h h :=
  ⟨fun m b e => by
    show (if m = n then some a else g.ρ m) = some b
    rw [if_neg (fun q => by rw [q, hn] at e; cases e)]; exact e, fun _ e => e, fun _ _ _ e => e⟩
theorem set_cases {n : Nat} {a : Addr} {m : Nat} {b : Addr} (e : (g.set n a).ρ m = some b) : (m = n ∧ b = a) ∨ (m ≠ n ∧ g.ρ m = some b) := by
  have e' : (if m = n then some a else g.ρ m) = some b := e
  by_cases h : m = n
  · rw [if_pos h] at e'; cases e'; exact .inl ⟨h, rfl⟩
  · rw [if_neg h] at e'; exact .inr ⟨h, e'⟩
theorem Rel.track {n : Nat} {a : Addr} {o : MO} (r : Rel C g σ fm fa loc s) (hn : σ n = none) (h0 : C.N0 ≤ a) (h1 : a < s.heap.objs.size) (h2 : ∀ m, g.ρ m ≠ some a) (h3 : ¬ g.P a) (h4 : a ∉ fa) (h5 : ∀ x, fm.env.cells.lookup x ≠ some a) (ho : OR C g s.heap a o) :
    Rel C (g.set n a) (σ.set n o) fm fa loc s := by
  have hρ := r.gr.fresh hn
  have e := ge_set (a := a) (h := s.heap) hρ
  refine ⟨⟨r.gr.lo, r.gr.K, r.gr.lim, r.gr.size, fun m o' h => ?_, fun m m' b h h' => ?_, fun m b h => ?_, r.gr.P, fun b h => by obtain ⟨x, vs, q, t⟩ := r.gr.tabs b h; exact ⟨x, vs, q, t.mono e⟩, fun m b h => ?_⟩,
    ⟨r.fr.fn, r.fr.glob, r.fr.bi, r.fr.ns, r.fr.L, fun x v h => ?_, fun x c h => ?_, r.fr.own, r.fr.inj, fun b h => ?_, r.fr.has⟩⟩
  · have h' : (if m = n then some o else σ m) = some o' := h
    by_cases hm : m = n
    · rw [if_pos hm] at h'; cases h'
      exact ⟨a, by show (if m = n then some a else g.ρ m) = some a; rw [if_pos hm], ho.mono e fun _ e => e⟩
    · rw [if_neg hm] at h'
      obtain ⟨b, hb, hob⟩ := r.gr.heap m o' h'
      exact ⟨b, e.ρ m b hb, hob.mono e fun _ e => e⟩
  · rcases set_cases h with ⟨q1, q2⟩ | ⟨q1, q2⟩ <;> rcases set_cases h' with ⟨q3, q4⟩ | ⟨q3, q4⟩
    · rw [q1, q3]
    · exact absurd (q2 ▸ q4) (h2 m')
    · exact absurd (q4 ▸ q2) (h2 m)
    · exact r.gr.inj m m' b q2 q4
  · rcases set_cases h with ⟨q1, q2⟩ | ⟨q1, q2⟩
    · rw [q2]; exact ⟨h0, h1, h3⟩
    · exact r.gr.live m b q2
  · show (if m = n then some o else σ m) ≠ none
    rcases set_cases h with ⟨q1, _⟩ | ⟨q1, q2⟩
    · rw [if_pos q1]; exact fun e => nomatch e
    · rw [if_neg q1]; exact r.gr.dom m b q2
  · obtain ⟨u, hu, hv⟩ := r.fr.var x v h
    exact ⟨u, hu, hv.mono e⟩
  · obtain ⟨c0, c1, c2, c3, c5⟩ := r.fr.cells x c h
    exact ⟨c0, c1, c2, fun m hm => (set_cases hm).elim (fun w => h5 x (w.2 ▸ h)) fun w => c3 m w.2, c5⟩
  · obtain ⟨x, y, z, w⟩ := r.fr.fa b h
    exact ⟨x, y, z, fun m hm => (set_cases hm).elim (fun v => h4 (v.2 ▸ h)) fun v => w m v.2⟩
theorem Gd.track {n : Nat} {a : Addr} {g' : Gh} {s' : Shared} (d : Gd C fa g s g' s') (hn : g'.ρ n = none) (ha : s.heap.objs.size ≤ a) : Gd C fa g s (g'.set n a) s' :=
  ⟨d.keep, d.tabs, d.size, fun m b e => (ge_set (h := s.heap) hn).ρ m b (d.ρ m b e), fun m b e => (set_cases e).elim (fun w => .inr (w.2 ▸ ha)) fun w => d.ρn m b w.2, d.P, d.Pn, d.os, d.drawn, d.gens⟩
theorem Built.trk {g' : Gh} {σ' : Hp} {s' : Shared} {a L : Addr} {ys : List MV} {n : Nat} (B : Built C fm fa loc g s g' σ' s' a L ys) (hn : σ' n = none) : Rel C (g'.set n a) (σ'.set n (.list ys)) fm fa loc s' ∧ VR C (g'.set n a) s'.heap (.ref n) (.ref a) ∧ Gd C fa g s (g'.set n a) s' := by
  obtain ⟨xs, hl, hv⟩ := B.lst
  obtain ⟨f1, f2, f3⟩ := B.free a (.head _)
  have hlt : a < s'.heap.objs.size := by obtain ⟨o, ho, _⟩ := hl.isList; exact Heap.lt_size ho
  refine ⟨B.rel.track hn f1 hlt f2 f3 B.apa.2.1 B.apa.2.2 (.list hl hv), .ref ?_, B.gd.track (B.rel.gr.fresh hn) B.apa.1⟩
  show (if n = n then some a else _) = some a
  rw [if_pos rfl]
theorem ev_comp {elt : Expr} {tg iter : Expr} {ifs : List Expr} {rest : List Comprehension} {scope : Scope} {pos : Pos} (H : CompOk scope fm.env) (n : Nat) (item : Nat → MV) (J : Hp → Prop) (Inv : Nat → Loc → Hp → List MV → Prop)
    (h : WalkE C A fm tg iter loc σ n item J fun σ₁ => Inv 0 (cLoc scope loc) σ₁ []) (hn : ∀ g', rest[0]? = some g' → g'.is_async = 0)
    (turn : ∀ L a i l σ ys, i < n → Inv i l σ ys → J σ → St C A (cFm scope fm.env L) tg (item i) l σ fun l₁ σ₁ => Ifs C A (cFm scope fm.env L) ifs l₁ σ₁ fun ok σ₂ =>
      if ok then Inn C A (cFm scope fm.env L) a (innerOf elt (⟨tg, iter, ifs, 0⟩ :: rest) scope pos 0 (.ref a) (cEnv scope fm.env L)) ys l₁ σ₂ fun l₂ σ₃ ys' => Inv (i + 1) l₂ σ₃ ys' ∧ J σ₃ else Inv (i + 1) l₁ σ₂ ys ∧ J σ₂)
    (fin : ∀ l σ' ys, Inv n l σ' ys → J σ' → Q (.lst ys) σ') (hs : ∀ x, foldedSetIterable iter fm.env x = pure x := by intro _; rfl) :
    Ev C A fm (.ListComp elt (⟨tg, iter, ifs, 0⟩ :: rest) scope pos) loc σ Q := fun fa g s r => by
  show wpAny _ A (eval (.ListComp elt (⟨tg, iter, ifs, 0⟩ :: rest) scope pos) fm.env) _ _ _
  rw [eval_ListComp]
  refine comp_core (use := none) H n item J Inv h hn turn r (fun g' σ' s' a L l ys B ns hI hJ => ?_) hs
  obtain ⟨m, hm⟩ := ns
  refine ⟨m, hm, fun h' hb => ?_⟩
  obtain ⟨rr, hv, d⟩ := (B.go hb).frz
  exact ⟨_, _, σ', rr, hv, d, fin l σ' ys hI hJ⟩
theorem ex_comp {x : Str} {px : Pos} {spos : Pos} {elt : Expr} {tg iter : Expr} {ifs : List Expr} {rest : List Comprehension} {scope : Scope} {pos : Pos} (H : CompOk scope fm.env) (n : Nat) (item : Nat → MV) (J : Hp → Prop) (Inv : Nat → Loc → Hp → List MV → Prop)
    (h : WalkE C A fm tg iter loc σ n item J fun σ₁ => Inv 0 (cLoc scope loc) σ₁ []) (hn : ∀ g', rest[0]? = some g' → g'.is_async = 0)
    (turn : ∀ L a i l σ ys, i < n → Inv i l σ ys → J σ → St C A (cFm scope fm.env L) tg (item i) l σ fun l₁ σ₁ => Ifs C A (cFm scope fm.env L) ifs l₁ σ₁ fun ok σ₂ =>
      if ok then Inn C A (cFm scope fm.env L) a (innerOf elt (⟨tg, iter, ifs, 0⟩ :: rest) scope pos 0 (.ref a) (cEnv scope fm.env L)) ys l₁ σ₂ fun l₂ σ₃ ys' => Inv (i + 1) l₂ σ₃ ys' ∧ J σ₃ else Inv (i + 1) l₁ σ₂ ys ∧ J σ₂)
    (fin : ∀ l σ' ys, Inv n l σ' ys → J σ' → QS .next (loc.set x (.lst ys)) σ') (hx : canSt fm x)
    (hsw : swapsWith (.ListComp elt (⟨tg, iter, ifs, 0⟩ :: rest) scope pos) (some (.Name x px)) spos.line fm.env = pure true) (hs : ∀ x, foldedSetIterable iter fm.env x = pure x := by intro _; rfl) :
    Ex C A fm (.Assign [.Name x px] (.ListComp elt (⟨tg, iter, ifs, 0⟩ :: rest) scope pos) spos) loc σ QS := fun fa g s r => by
  show wpAny _ A (exec (.Assign [.Name x px] (.ListComp elt (⟨tg, iter, ifs, 0⟩ :: rest) scope pos) spos) fm.env) _ _ _
  rw [exec_Assign_Name_used _ _ _ _ hsw]
  refine wpAny_bind (wpAny_standAt (wpAny_bind ?_))
  show wpAny _ A (do let _ ← comprehension (.ListComp elt (⟨tg, iter, ifs, 0⟩ :: rest) scope pos) scope fm.env _ (newList []) false (eval iter fm.env) (some (assign (.Name x px) fm.env))) _ _ s
  refine wpAny_bind (wpAny_mono (comp_core (use := some (assign (.Name x px) fm.env)) (R := fun _ s' => PostS C fm fa g s QS .next s') H n item J Inv h hn turn r (fun g' σ' s' a L l ys B ns hI hJ => ?_) hs) (fun _ s' hq => wpAny_pure (wpAny_pure hq)) fun _ _ e => e)
  refine via_p fun P kP => ?_
  obtain ⟨rr, hv, d⟩ := B.frz
  refine kP ?_
  clear kP P
  refine wpAny_assign_Name (store_name rr hv hx fun s'' r'' d'' => ?_)
  refine via_p fun P kP => ?_
  obtain ⟨m, o, es, ep, ho, q⟩ := ns
  refine kP ?_
  clear kP P
  have hFL := B.free L (.tail _ (.head _))
  have kL : ∀ o, s'.heap.get? L = some o → s''.heap.get? L = some o := fun o e => d''.keep L o e hFL.2.1 B.apL.2.1 fun q => Nat.lt_irrefl _ (Nat.lt_of_lt_of_le (rr.gr.tabs L q).1 hFL.1)
  refine ⟨m, ⟨o, es, ep, kL _ ho, q⟩, fun h' hb => ?_⟩
  have hF : Free C (g'.pin a) [L] := fun b hb => by
    rw [List.mem_singleton.mp hb]
    exact ⟨hFL.1, hFL.2.1, fun q => q.elim (fun q => B.ne q.symm) hFL.2.2⟩
  obtain ⟨gr, dd⟩ := r''.gr.loop (tk := s''.toks) (wr := [L]) hF (fun b o hn e => hb.extBut b o (fun q => hn (by rw [q]; exact .head _)) e) (Nat.le_of_eq hb.1.symm)
  have r3 := r''.step gr dd (fun b hb => by rw [List.mem_singleton.mp hb]; exact B.apL.2) (fun b hb => (hF b hb).2.2)
  refine ⟨_, .next, _, σ', r3, .next, ?_, fin l σ' ys hI hJ⟩
  exact (((d.trans d'').weak (fa := L :: fa) fun b h => .inl (.tail _ h)).trans (dd.weak fun b h => .inl (by rw [List.mem_singleton.mp h]; exact .head _))).weak (fun b h => (List.mem_cons.mp h).elim (fun q => .inr (q ▸ B.apL.1)) .inl)
end
end
section
section
variable {C : Cx} {A : Around} {fm : Fm} {fa : List Addr} {loc : Loc} {σ : Hp} {g : Gh} {s : Shared} {Q Q' : MV → Hp → Prop} {QB : Bool → Hp → Prop} {QS : Fl → Loc → Hp → Prop}
theorem inn_gen {a : Addr} {elt : Expr} {gens : List Comprehension} {scope : Scope} {pos : Pos} {d : Nat} {tg iter : Expr} {ifs : List Expr} {ys : List MV} {Q : Loc → Hp → List MV → Prop} (n : Nat) (item : Nat → MV) (J : Hp → Prop) (Inv : Nat → Loc → Hp → List MV → Prop)
    (hg : gens[d + 1]? = some ⟨tg, iter, ifs, 0⟩) (hn : ∀ g', gens[d + 1 + 1]? = some g' → g'.is_async = 0)
    (h : WalkE C A fm tg iter loc σ n item J fun σ₁ => Inv 0 loc σ₁ ys)
    (turn : ∀ i loc σ ys, i < n → Inv i loc σ ys → J σ → St C A fm tg (item i) loc σ fun l₁ σ₁ => Ifs C A fm ifs l₁ σ₁ fun ok σ₂ => if ok then Inn C A fm a (innerOf elt gens scope pos (d + 1) (.ref a) fm.env) ys l₁ σ₂ fun l₂ σ₃ ys' => Inv (i + 1) l₂ σ₃ ys' ∧ J σ₃ else Inv (i + 1) l₁ σ₂ ys ∧ J σ₂)
    (fin : ∀ l σ' ys', Inv n l σ' ys' → J σ' → Q l σ' ys') (hs : ∀ x, foldedSetIterable iter fm.env x = pure x := by intro _; rfl) : Inn C A fm a (innerOf elt gens scope pos d (.ref a) fm.env) ys loc σ Q := by
  intro fa g s xs r hF ha hac hL hv
  unfold innerOf
  rw [hg]
  refine wpAny_bind (wpAny_mono (h fa g s r) (fun x s₁ h₁ => wpAny_bind (wpAny_standAt ?_)) fun _ _ e => e)
  rw [hs]
  refine wpAny_bind (wpAny_pure (wpAny_bind (wpAny_holding (wpAny_mono h₁ ?_ fun _ _ e => e))))
  rintro it s₂ ⟨g₂, σ₂, wr, IR, W, r₂, d₂, hF₂, hw, hir, hJ, hI⟩
  have hlt : a < s.heap.objs.size := by obtain ⟨o, ho, _⟩ := hL.isList; exact Heap.lt_size ho
  have Fa := hF.step (fun b hb => by rw [List.mem_singleton.mp hb]; exact hlt) d₂
  have L₂ : s₂.heap.PlainList a ⟨xs⟩ := hL.at fun o e => hF.keep1 r.gr d₂ ha e
  have V₂ := hv.mono (r.ge d₂)
  have haw : a ∉ wr := fun q => Nat.lt_irrefl _ (Nat.lt_of_lt_of_le hlt (hw a q).1)
  have main := comp_walk (fm := fm) (d := d + 1) (gens := gens) (elt := elt) (scope := scope) (pos := pos) (a := a) hg hn W Inv turn hI hJ r₂ hF₂ (fun b hb => (hw b hb).2) hir Fa ha hac haw L₂ V₂
  refine wpAny_bind (wpAny_runOwn (comp_start (gd := ⟨tg, iter, ifs, 0⟩) hg rfl (codeAny_mono main ?_) fun Q q => W.self 0 g₂ σ₂ _ r₂.gr hir hJ Q q))
  rintro r' s' ⟨rfl, g', l', σ', ys', xs', rel', gd', hL', hV', hInv, hJ'⟩
  refine wpAny_pure ⟨g', l', σ', ys', xs', rel', ?_, hL', hV', fin l' σ' ys' hInv hJ'⟩
  exact ((d₂.weak (fa := (a :: wr ++ fa)) fun b h => .inl (List.mem_append_right _ h)).trans gd').weak fun b h => by
    rcases List.mem_append.mp h with h | h
    · rcases List.mem_cons.mp h with rfl | h
      · exact .inl (.head _)
      · exact .inr (hw b h).1
    · exact .inl (.tail _ h)
theorem cal_range1 {n : Int} (q : Q (.rng 0 n 1) σ) : Cal C A fm (.type "range") [.int n] loc σ Q := by
  intro fa g s vs r hvs
  obtain ⟨x, rfl, hx⟩ := hvs.inv1
  obtain ⟨t, rfl⟩ := hx.inv
  refine call_range_1 ?_
  refine (Post.pinned (s := { s with toks := s.toks + 1 + 1 }) (r.toks _) rfl (.rng (.inl rfl) (Heap.get?_push_size _ rfl)) q).trans (.toks _)
end
end
section
open Builtin.Str (tooLong)

section
variable {C : Cx} {A : Around} {fm : Fm} {fa : List Addr} {loc : Loc} {σ : Hp} {g : Gh} {s : Shared} {Q Q' : MV → Hp → Prop} {QB : Bool → Hp → Prop} {QS : Fl → Loc → Hp → Prop}
noncomputable def MTy (C : Cx) (σ : Hp) (m : MV) (T : String) : Prop := ∀ g s v, GR C g σ s → VR C g s.heap m v → s.TypeIs v T ∧ ∀ a, v = .ref a → ∃ ob, s.heap.get? a = some ob ∧ ob.dict = none
theorem mty_str {x : Str} : MTy C σ (.str x) "str" := by
  intro g s v r hv; obtain ⟨t, rfl⟩ := hv.inv; exact ⟨typeIs_str _ _ _, fun _ e => nomatch e⟩
theorem mty_lst {m : MV} {l : List MV} (h : lstOf σ m = some l) : MTy C σ m "list" := fun g s v r hv => by
  obtain ⟨a, xs, rfl, ⟨n, ho⟩, hl⟩ := r.lstP h hv
  exact ⟨⟨_, ho, rfl⟩, fun b e => ⟨_, Value.ref.inj e ▸ ho, rfl⟩⟩
theorem mty_dct {m : MV} {l : List (Str × MV)} (h : dctOf σ m = some l) : MTy C σ m "dict" := fun g s v r hv => by
  obtain ⟨a, kvs, rfl, ⟨o, es, ep, ho, he, hr⟩, _⟩ := r.dct h hv
  exact ⟨⟨_, ho, he.1⟩, fun b e => ⟨_, Value.ref.inj e ▸ ho, he.2.1⟩⟩
theorem ev_meth {o : Expr} {name : Str} {apos pos : Pos} {es : List Expr}
    (h : Ev C A fm o loc σ fun m σ₁ => ∃ T id, PlainAttrs T ∧ Slot T name id ∧ typeOf (.builtin id) = pure (.type "method_descriptor") ∧ MTy C σ₁ m T ∧ EvL C A fm es loc σ₁ fun ms σ₂ => Cal C A fm (.builtin id) (m :: ms) loc σ₂ Q)
    (hbase : attributeBase o name fm.env (eval o fm.env) = eval o fm.env := by rfl) (hs : (starEach es fm.env).all (fun p => !p.1) = true := by rfl) (hline : (apos.endLine == pos.line) = true := by rfl) (hf : es.length < 30 := by decide) :
    Ev C A fm (.Call (.Attribute o name apos) es [] pos) loc σ Q := fun fa g s r => by
  have hpl := starEach_plain hs
  refine wpAny_Call_method_lateS hbase ?_ hline (wpAny_mono (h fa g s r) ?_ fun _ _ e => e)
  · rw [hpl]
    have : es.length + ([] : List Keyword).length + (if ([] : List Keyword).isEmpty then 0 else 1) < 30 := by simpa using hf
    simp only [Bool.and_eq_true]
    refine ⟨⟨?_, rfl⟩, decide_eq_true this⟩
    simp [backTo]
  rintro v s₁ ⟨g₁, m, σ₁, r₁, hv, d₁, T, id, pa, slot, hty, hm, h₁⟩
  obtain ⟨hT, hd⟩ := hm g₁ s₁ v r₁.gr hv
  refine ⟨T, id, pa, slot, hty, hT, hd, ?_⟩
  refine (Callable.bi (C := C) id).with (star_none hs) (wpAny_mono (h₁.argsS hs r₁) ?_ fun _ _ e => e)
  rintro ⟨ps, kw⟩ s₂ ⟨rfl, g₂, ms, σ₂, r₂, hvs, d₂, q⟩
  refine ⟨⟨g₂, σ₂, r₂.gr⟩, ?_⟩
  exact wpAny_mono (q fa g₂ s₂ (v :: ps) r₂ (.cons (hv.mono (r₁.ge d₂)) hvs)) (fun _ _ p => p.trans (d₁.trans d₂)) fun _ _ e => e
theorem Post.updL {n : Nat} {l' : List MV} {a : Addr} {xs' : List Value} {h' : Heap} {v : Value} {m : MV} {t : Nat} (r : Rel C g σ fm fa loc s) (ha : g.ρ n = some a) (hP : h'.PlainList a ⟨xs'⟩) (hb : Heap.SameBut a s.heap h') (hl : VRs C g s.heap l' xs')
    (hv : VR C g s.heap m v) (q : Q m (σ.set n (.list l'))) : Post C fm fa loc g s Q v { s with heap := h', toks := t } := by
  have ht : ∀ b ∈ C.tabs, b < C.N0 := fun b hb => (r.gr.tabs b hb).1
  obtain ⟨hN, _, hPn⟩ := r.gr.live n a ha
  have hg : Ge g g s.heap h' := ⟨fun _ _ e => e, fun _ e => e, fun b o hp e => hb.extBut b o (fun q => hPn (q ▸ hp)) e⟩
  exact ⟨g, m, _, r.upd (s' := { s with heap := h', toks := t }) ha hb (.list hP (hl.mono hg)), hv.mono hg, .upd ha hN ht hb rfl rfl rfl, q⟩
theorem Rel.lbl {n : Nat} {l : List MV} {v : Value} (r : Rel C g σ fm fa loc s) (hn : σ n = some (.list l)) (hv : VR C g s.heap (.ref n) v) : ∃ a xs, v = .ref a ∧ g.ρ n = some a ∧ s.heap.PlainList a ⟨xs⟩ ∧ VRs C g s.heap l xs := by
  obtain ⟨a, e, ha⟩ := hv.inv
  obtain ⟨xs, ho, hl⟩ := (r.gr.obj ha hn).inv
  exact ⟨a, xs, e, ha, ho, hl⟩
theorem cal_append {n : Nat} {l : List MV} {m : MV} (hn : σ n = some (.list l)) (hs : l.length ≤ 1000000) (q : Q .none (σ.set n (.list (l ++ [m])))) : Cal C A fm (.builtin "list.append") [.ref n, m] loc σ Q := by
  intro fa g s vs r hvs
  obtain ⟨x₁, x₂, rfl, hx, hy⟩ := hvs.inv2
  obtain ⟨a, xs, rfl, ha, ho, hl⟩ := r.lbl hn hx
  refine wpAny_list_append_plain ho (fun h' hP hb => ?_) (sizeLine_ge (by show xs.length ≤ _; rw [← hl.length]; exact hs))
  refine .updL (t := s.toks) r ha (xs' := xs ++ [_]) (by simpa using hP) hb (hl.append (.cons hy .nil)) .none q
theorem plain_upd {h : Heap} {a : Addr} {items : Array Value} {n : Nat} (ho : h.get? a = some (lstObj items n)) (f : Array Value → Array Value) : (h.update a (Obj.mapSeq f)).PlainList a (f items) := by
  obtain ⟨n', e⟩ : ∃ n', Obj.mapSeq f (lstObj items n) = lstObj (f items) n' := by
    simp only [Obj.mapSeq]
    exact ⟨_, rfl⟩
  exact ⟨n', by rw [Heap.get?_update_self _ ho (by rw [e]; rfl), e]⟩
theorem VRs.reverse {h : Heap} {l : List MV} {r : List Value} (hl : VRs C g h l r) : VRs C g h l.reverse r.reverse := by
  induction l generalizing r with
  | nil => exact hl.inv ▸ .nil
  | cons a l ih =>
    obtain ⟨v, r', rfl, ha, hl⟩ := hl.inv
    rw [List.reverse_cons, List.reverse_cons]
    exact (ih hl).append (.cons ha .nil)
theorem cal_reverse {n : Nat} {l : List MV} (hn : σ n = some (.list l)) (hs : l.length ≤ 1000000) (q : Q .none (σ.set n (.list l.reverse))) : Cal C A fm (.builtin "list.reverse") [.ref n] loc σ Q := by
  intro fa g s vs r hvs
  obtain ⟨x₁, rfl, hx⟩ := hvs.inv1
  obtain ⟨a, xs, rfl, ha, ⟨k, ho⟩, hl⟩ := r.lbl hn hx
  refine call_meets F.slot_list_reverse ⟨_, ho, rfl⟩ F.entry_list_reverse (F.args_list_reverse_1 _) (AutoListH.list_reverse_list_0 a ⟨xs⟩ k (sizeLine_ge (by show xs.length ≤ _; rw [← hl.length]; exact hs))) ⟨ho, ?_⟩
  exact .updL (t := s.toks) r ha (xs' := xs.reverse) (by simpa using plain_upd ho fun x => x.reverse) (Heap.SameBut.update ..) hl.reverse .none q
theorem VRs.tail {h : Heap} {a : MV} {l : List MV} {r : List Value} (hl : VRs C g h (a :: l) r) : ∃ v r', r = v :: r' ∧ VR C g h a v ∧ VRs C g h l r' := by
  exact hl.inv
theorem cal_upper {x : Str} (hs : tooLong (Txt.upper x).length = false) (q : Q (.str (Txt.upper x)) σ) : Cal C A fm (.builtin "str.upper") [.str x] loc σ Q := by
  intro fa g s vs r hvs
  obtain ⟨x₁, rfl, hx⟩ := hvs.inv1
  obtain ⟨t, rfl⟩ := hx.inv
  exact call_gives F.slot_str_upper (typeIs_str _ _ _) F.entry_str_upper (F.args_str_upper_1 _) (gives_str_upper x _ hs) ⟨fit_le hs, .tok r (.str ..) q⟩
theorem cal_lower {x : Str} (hs : tooLong (Txt.lower x).length = false) (q : Q (.str (Txt.lower x)) σ) : Cal C A fm (.builtin "str.lower") [.str x] loc σ Q := by
  intro fa g s vs r hvs
  obtain ⟨x₁, rfl, hx⟩ := hvs.inv1
  obtain ⟨t, rfl⟩ := hx.inv
  exact call_gives F.slot_str_lower (typeIs_str _ _ _) F.entry_str_lower (F.args_str_lower_1 _) (gives_str_lower x _ hs) ⟨fit_le hs, .tok r (.str ..) q⟩
theorem VRs.strsV {h : Heap} {ts : List Str} {r : List Value} (z : VRs C g h (ts.map .str) r) : ∃ l, r = strValues l ∧ l.map (·.1) = ts := by
  induction ts generalizing r with
  | nil => exact ⟨[], z.inv, rfl⟩
  | cons x ts ih =>
    obtain ⟨v, r', rfl, a, b⟩ := z.inv
    obtain ⟨t, rfl⟩ := a.inv
    obtain ⟨l, e, e'⟩ := ih b
    exact ⟨(x, t) :: l, congrArg (_ :: ·) e, congrArg (x :: ·) e'⟩
theorem cal_join {x : Str} {m : MV} {ts : List Str} (hm : lstOf σ m = some (ts.map .str)) (hok : JoinOk x ts = true) (q : Q (.str (Txt.join x ts)) σ) : Cal C A fm (.builtin "str.join") [.str x, m] loc σ Q := by
  intro fa g s vs r hvs
  obtain ⟨x₁, x₂, rfl, hx, hy⟩ := hvs.inv2
  obtain ⟨_, rfl⟩ := hx.inv
  obtain ⟨a, xs, rfl, ho, hl⟩ := r.gr.lst hm hy
  obtain ⟨l, rfl, e⟩ := hl.strsV
  exact SC.join (l := l) ho e hok fun t' k => .tok r (.str ..) q
theorem cal_lenl {m : MV} {l : List MV} (hm : lstOf σ m = some l) (hs : l.length ≤ 1000000) (q : Q (.int l.length) σ) : Cal C A fm (.builtin "len") [m] loc σ Q := by
  intro fa g s vs r hvs
  obtain ⟨x₁, rfl, hy⟩ := hvs.inv1
  obtain ⟨a, xs, rfl, ho, hl⟩ := r.gr.lst hm hy
  refine Calls.call_len_list ho (Int.lt_of_le_of_lt (Int.ofNat_le.mpr (show xs.length ≤ 1000000 from hl.length ▸ hs)) (show ((1000000 : Nat) : Int) < 2 ^ 63 by decide)) ?_
  have e : (Array.mk xs).size = l.length := by show xs.length = _; rw [hl.length]
  rw [e]
  exact .tok r (.int ..) q
theorem cal_lens {x : Str} (hs : x.length ≤ 1000000) (q : Q (.int x.length) σ) : Cal C A fm (.builtin "len") [.str x] loc σ Q := by
  intro fa g s vs r hvs
  obtain ⟨x₁, rfl, hx⟩ := hvs.inv1
  obtain ⟨t, rfl⟩ := hx.inv
  exact P.len_str (by (first | lia | omega)) (.tok r (.int ..) q)
theorem cal_isiT {l : List MV} (q : Q (.bool true) σ) : Cal C A fm (.builtin "isinstance") [.tup l, .val (.type "tuple")] loc σ Q := by
  intro fa g s vs r hvs
  obtain ⟨x₁, x₂, rfl, hx, hy⟩ := hvs.inv2
  obtain rfl := hy.inv
  obtain ⟨a, xs, rfl, hp, ⟨o, ho, hc, _⟩, hl⟩ := hx.inv
  exact IsiPair.tuple_tuple ho hc (.now r (.bool ..) q)
theorem cal_isiI {i : Int} (q : Q (.bool false) σ) : Cal C A fm (.builtin "isinstance") [.int i, .val (.type "tuple")] loc σ Q := by
  intro fa g s vs r hvs
  obtain ⟨x₁, x₂, rfl, hx, hy⟩ := hvs.inv2
  obtain rfl := hy.inv
  obtain ⟨_, rfl⟩ := hx.inv
  exact IsiPair.int_tuple (.tok r (.bool ..) q)
end
end
section
mutual
inductive Ok (S : Nat → Prop) : MV → Prop
  | none : Ok S .none
  | bool (b : Bool) : Ok S (.bool b)
  | int (i : Int) : Ok S (.int i)
  | str (x : Str) : Ok S (.str x)
  | rng (a b c : Int) : Ok S (.rng a b c)
  | val (v : Value) : Ok S (.val v)
  | tup {l : List MV} : Oks S l → Ok S (.tup l)
  | lst {l : List MV} : Oks S l → Ok S (.lst l)
  | dct {l : List (Str × MV)} : Okd S l → Ok S (.dct l)
  | ref {n : Nat} : S n → Ok S (.ref n)
  | strm {x : Str} {n : Nat} : S n → Ok S (.strm x n)
  | meth {f : Addr} {n : Nat} : S n → Ok S (.meth f n)
inductive Oks (S : Nat → Prop) : List MV → Prop
  | nil : Oks S []
  | cons {m : MV} {l : List MV} : Ok S m → Oks S l → Oks S (m :: l)
inductive Okd (S : Nat → Prop) : List (Str × MV) → Prop
  | nil : Okd S []
  | cons {k : Str} {m : MV} {l : List (Str × MV)} : Ok S m → Okd S l → Okd S ((k, m) :: l)
end
noncomputable def OI (S : Nat → Prop) : MV → Prop
  | .tup l => Oks S l
  | .lst l => Oks S l
  | .dct l => Okd S l
  | .ref n => S n
  | .strm _ n => S n
  | .meth _ n => S n
  | _ => True
theorem Ok.inv {S : Nat → Prop} {m : MV} (x : Ok S m) : OI S m :=
  Ok.casesOn (motive_1 := fun m _ => OI S m) x trivial (fun _ => trivial) (fun _ => trivial) (fun _ => trivial) (fun _ _ _ => trivial) (fun _ => trivial) id id id id id id
noncomputable def OIs (S : Nat → Prop) : List MV → Prop
  | [] => True
  | m :: l => Ok S m ∧ Oks S l
theorem Oks.inv {S : Nat → Prop} {l : List MV} (x : Oks S l) : OIs S l := Oks.casesOn (motive_2 := fun l _ => OIs S l) x trivial And.intro
noncomputable def OId (S : Nat → Prop) : List (Str × MV) → Prop
  | [] => True
  | (_, m) :: l => Ok S m ∧ Okd S l
theorem Okd.inv {S : Nat → Prop} {l : List (Str × MV)} (x : Okd S l) : OId S l := Okd.casesOn (motive_3 := fun l _ => OId S l) x trivial And.intro
theorem Strm.lab {C : Cx} {g : Gh} {h : Heap} {S : Nat → Prop} (hS : ∀ n a, g.ρ n = some a → S n) {x : Str} {n : Nat} {a : Addr} (z : Strm C g h x n a) : S n :=
  Strm.casesOn z fun _ _ _ _ _ _ _ _ _ _ _ _ _ _ _ _ z4 _ _ _ => hS _ _ z4.2.2
theorem VR.ok {C : Cx} {g : Gh} {h : Heap} {S : Nat → Prop} (hS : ∀ n a, g.ρ n = some a → S n) {m : MV} {v : Value} (x : VR C g h m v) : Ok S m :=
  VR.rec (motive_1 := fun m _ _ => Ok S m) (motive_2 := fun l _ _ => Oks S l) (motive_3 := fun l _ _ => Okd S l) .none .bool (fun i _ => .int i) (fun x _ => .str x) (fun _ _ _ h => .tup h) (fun _ _ _ h => .lst h) (fun _ _ _ h => .dct h) (fun _ _ => .rng ..)
    (fun hn => .ref (hS _ _ hn)) .val (fun hs => .strm (hs.lab hS)) (fun _ _ hn => .meth (hS _ _ hn)) .nil (fun _ _ a b => .cons a b) .nil (fun _ _ a b => .cons a b) x
theorem VRs.ok {C : Cx} {g : Gh} {h : Heap} {S : Nat → Prop} (hS : ∀ n a, g.ρ n = some a → S n) {l : List MV} {r : List Value} (x : VRs C g h l r) : Oks S l :=
  VRs.rec (motive_1 := fun m _ _ => Ok S m) (motive_2 := fun l _ _ => Oks S l) (motive_3 := fun l _ _ => Okd S l) .none .bool (fun i _ => .int i) (fun x _ => .str x) (fun _ _ _ h => .tup h) (fun _ _ _ h => .lst h) (fun _ _ _ h => .dct h) (fun _ _ => .rng ..)
    (fun hn => .ref (hS _ _ hn)) .val (fun hs => .strm (hs.lab hS)) (fun _ _ hn => .meth (hS _ _ hn)) .nil (fun _ _ a b => .cons a b) .nil (fun _ _ a b => .cons a b) x
theorem VRd.ok {C : Cx} {g : Gh} {h : Heap} {S : Nat → Prop} (hS : ∀ n a, g.ρ n = some a → S n) {l : List (Str × MV)} {r : List (Str × Value)} (x : VRd C g h l r) : Okd S l :=
  VRd.rec (motive_1 := fun m _ _ => Ok S m) (motive_2 := fun l _ _ => Oks S l) (motive_3 := fun l _ _ => Okd S l) .none .bool (fun i _ => .int i) (fun x _ => .str x) (fun _ _ _ h => .tup h) (fun _ _ _ h => .lst h) (fun _ _ _ h => .dct h) (fun _ _ => .rng ..)
    (fun hn => .ref (hS _ _ hn)) .val (fun hs => .strm (hs.lab hS)) (fun _ _ hn => .meth (hS _ _ hn)) .nil (fun _ _ a b => .cons a b) .nil (fun _ _ a b => .cons a b) x
structure Gl (S : Nat → Prop) (g g' : Gh) : Prop where
  ρ : ∀ n a, S n → g.ρ n = some a → g'.ρ n = some a
  P : ∀ a, g.P a → g'.P a
theorem Strm.lose {C : Cx} {g g' : Gh} {h : Heap} {x : Str} {n : Nat} {a : Addr} {S : Nat → Prop} (e : Gl S g g') (hn : S n) (z : Strm C g h x n a) : Strm C g' h x n a :=
  Strm.casesOn z fun d f ct cx b t fl fd sl m o z1 z2 z3 hr hc z4 z5 z6 hne =>
    ⟨d, f, ct, cx, b, t, fl, fd, sl, m, o, ⟨e.P _ z1.1, z1.2⟩, ⟨e.P _ z2.1, z2.2⟩, ⟨e.P _ z3.1, z3.2⟩, hr, hc, ⟨e.P _ z4.1, z4.2.1, e.ρ _ _ hn z4.2.2⟩, ⟨e.P _ z5.1, z5.2⟩, z6.imp fun c y => ⟨y.1, e.P _ y.2.1, y.2.2⟩, hne⟩
theorem VR.lose {C : Cx} {g g' : Gh} {h : Heap} {S : Nat → Prop} (e : Gl S g g') {m : MV} {v : Value} (o : Ok S m) (x : VR C g h m v) : VR C g' h m v :=
  VR.rec (motive_1 := fun m v _ => Ok S m → VR C g' h m v) (motive_2 := fun l r _ => Oks S l → VRs C g' h l r) (motive_3 := fun l r _ => Okd S l → VRd C g' h l r) (fun _ => .none) (fun b _ => .bool b) (fun i t _ => .int i t) (fun x t _ => .str x t)
    (fun hp ho _ ih o => .tup (e.P _ hp) ho (ih o.inv)) (fun hp ho _ ih o => .lst (e.P _ hp) ho (ih o.inv)) (fun hp ho _ ih o => .dct (e.P _ hp) ho (ih o.inv)) (fun hp hr _ => .rng (e.P _ hp) hr) (fun hn o => .ref (e.ρ _ _ o.inv hn)) (fun v _ => .val v)
    (fun hs o => .strm (hs.lose e o.inv)) (fun hp ho hn o => .meth (e.P _ hp) ho (e.ρ _ _ o.inv hn)) (fun _ => .nil) (fun _ _ a b o => .cons (a o.inv.1) (b o.inv.2)) (fun _ => .nil) (fun _ _ a b o => .cons (a o.inv.1) (b o.inv.2)) x o
theorem VRs.lose {C : Cx} {g g' : Gh} {h : Heap} {S : Nat → Prop} (e : Gl S g g') {l : List MV} {r : List Value} (o : Oks S l) (x : VRs C g h l r) : VRs C g' h l r :=
  VRs.rec (motive_1 := fun m v _ => Ok S m → VR C g' h m v) (motive_2 := fun l r _ => Oks S l → VRs C g' h l r) (motive_3 := fun l r _ => Okd S l → VRd C g' h l r) (fun _ => .none) (fun b _ => .bool b) (fun i t _ => .int i t) (fun x t _ => .str x t)
    (fun hp ho _ ih o => .tup (e.P _ hp) ho (ih o.inv)) (fun hp ho _ ih o => .lst (e.P _ hp) ho (ih o.inv)) (fun hp ho _ ih o => .dct (e.P _ hp) ho (ih o.inv)) (fun hp hr _ => .rng (e.P _ hp) hr) (fun hn o => .ref (e.ρ _ _ o.inv hn)) (fun v _ => .val v)
    (fun hs o => .strm (hs.lose e o.inv)) (fun hp ho hn o => .meth (e.P _ hp) ho (e.ρ _ _ o.inv hn)) (fun _ => .nil) (fun _ _ a b o => .cons (a o.inv.1) (b o.inv.2)) (fun _ => .nil) (fun _ _ a b o => .cons (a o.inv.1) (b o.inv.2)) x o
theorem VRd.lose {C : Cx} {g g' : Gh} {h : Heap} {S : Nat → Prop} (e : Gl S g g') {l : List (Str × MV)} {r : List (Str × Value)} (o : Okd S l) (x : VRd C g h l r) : VRd C g' h l r :=
  VRd.rec (motive_1 := fun m v _ => Ok S m → VR C g' h m v) (motive_2 := fun l r _ => Oks S l → VRs C g' h l r) (motive_3 := fun l r _ => Okd S l → VRd C g' h l r) (fun _ => .none) (fun b _ => .bool b) (fun i t _ => .int i t) (fun x t _ => .str x t)
    (fun hp ho _ ih o => .tup (e.P _ hp) ho (ih o.inv)) (fun hp ho _ ih o => .lst (e.P _ hp) ho (ih o.inv)) (fun hp ho _ ih o => .dct (e.P _ hp) ho (ih o.inv)) (fun hp hr _ => .rng (e.P _ hp) hr) (fun hn o => .ref (e.ρ _ _ o.inv hn)) (fun v _ => .val v)
    (fun hs o => .strm (hs.lose e o.inv)) (fun hp ho hn o => .meth (e.P _ hp) ho (e.ρ _ _ o.inv hn)) (fun _ => .nil) (fun _ _ a b o => .cons (a o.inv.1) (b o.inv.2)) (fun _ => .nil) (fun _ _ a b o => .cons (a o.inv.1) (b o.inv.2)) x o
inductive MOk (S : Nat → Prop) : MO → Prop
  | list {l : List MV} : Oks S l → MOk S (.list l)
  | dict {l : List (Str × MV)} : Okd S l → MOk S (.dict l)
  | raw (o : Obj) : MOk S (.raw o)
  | inst {c : Addr} {d : Nat} : S d → MOk S (.inst c d)
  | attrs {l : List (Str × MV)} : (∀ x v, l.lookup x = some v → Ok S v) → MOk S (.attrs l)
  | citer {b : Bool} {f : Addr} {n : Nat} {x : Str} : S n → MOk S (.citer b f n x)
noncomputable def MOI (S : Nat → Prop) : MO → Prop
  | .list l => Oks S l
  | .dict l => Okd S l
  | .raw _ => True
  | .inst _ d => S d
  | .attrs l => ∀ x v, l.lookup x = some v → Ok S v
  | .citer _ _ n _ => S n
theorem MOk.inv {S : Nat → Prop} {o : MO} (x : MOk S o) : MOI S o := MOk.casesOn (motive := fun o _ => MOI S o) x id id (fun _ => trivial) id id id
theorem OR.ok {C : Cx} {g : Gh} {h : Heap} {S : Nat → Prop} (hS : ∀ n a, g.ρ n = some a → S n) {a : Addr} {o : MO} (x : OR C g h a o) (hc : ∀ f n x, o ≠ .citer false f n x) : MOk S o :=
  OR.casesOn (motive := fun o _ => (∀ f n x, o ≠ .citer false f n x) → MOk S o) x (fun _ hl _ => .list (hl.ok hS)) (fun _ hl _ => .dict (hl.ok hS)) (fun _ _ => .raw _) (fun hd _ _ => .inst (hS _ _ hd)) (fun _ _ h1 _ => .attrs fun x v hv => (h1 x v hv).elim fun _ hu => hu.2.ok hS)
    (fun _ hq _ => .citer (hq.ok hS).inv) (fun _ hc => absurd rfl (hc _ _ _)) hc
theorem OR.lose {C : Cx} {g g' : Gh} {h : Heap} {S : Nat → Prop} (e : Gl S g g') {a : Addr} {o : MO} (k : MOk S o) (x : OR C g h a o) : OR C g' h a o :=
  OR.casesOn (motive := fun o _ => MOk S o → OR C g' h a o) x (fun ho hl o => .list ho (hl.lose e o.inv)) (fun ho hl o => .dict ho (hl.lose e o.inv)) (fun ho _ => .raw ho) (fun hd ho o => .inst (e.ρ _ _ o.inv hd) ho)
    (fun hn h0 h1 o => .attrs hn h0 fun x v hv => (h1 x v hv).imp fun u hu => ⟨hu.1, hu.2.lose e (o.inv x v hv)⟩) (fun ho hq o => .alive ho (hq.lose e (.meth o.inv))) (fun ho _ => .dead ho) k
mutual
inductive Frz (S : Nat → Prop) (σ : Hp) : MV → MV → Prop
  | same {m : MV} : Ok S m → Frz S σ m m
  | lst {n : Nat} {l l' : List MV} : ¬ S n → σ n = some (.list l) → Frzs S σ l l' → Frz S σ (.ref n) (.lst l')
  | dct {n : Nat} {l : List (Str × MV)} : ¬ S n → σ n = some (.dict l) → Okd S l → Frz S σ (.ref n) (.dct l)
  | tup {l l' : List MV} : Frzs S σ l l' → Frz S σ (.tup l) (.tup l')
inductive Frzs (S : Nat → Prop) (σ : Hp) : List MV → List MV → Prop
  | nil : Frzs S σ [] []
  | cons {m m' : MV} {l l' : List MV} : Frz S σ m m' → Frzs S σ l l' → Frzs S σ (m :: l) (m' :: l')
end
open Classical in
noncomputable def restr (S : Nat → Prop) (σ : Hp) : Hp := fun n => if S n then σ n else none
open Classical in
noncomputable def leave (S : Nat → Prop) (g : Gh) (lo hi : Nat) : Gh := ⟨fun n => if S n then g.ρ n else none, fun a => g.P a ∨ (lo ≤ a ∧ a < hi ∧ ∀ n, S n → g.ρ n ≠ some a)⟩
section
variable {C : Cx} {A : Around} {σ : Hp} {g : Gh} {s : Shared} {Q : MV → Hp → Prop}
theorem leave_ρ {S : Nat → Prop} {lo hi n : Nat} {a : Addr} (h : (leave S g lo hi).ρ n = some a) : S n ∧ g.ρ n = some a := by
  classical
  have h' : (if S n then g.ρ n else none) = some a := h
  by_cases hn : S n
  · rw [if_pos hn] at h'; exact ⟨hn, h'⟩
  · rw [if_neg hn] at h'; cases h'
theorem leave_gl {S : Nat → Prop} {lo hi : Nat} : Gl S g (leave S g lo hi) := ⟨fun n a hn h => by
  classical
  show (if S n then g.ρ n else none) = some a
  rw [if_pos hn]; exact h, fun _ h => .inl h⟩
theorem Frz.lab {S : Nat → Prop} {lo n : Nat} {a : Addr} (r : GR C g σ s) (hn : ∀ n a, ¬ S n → g.ρ n = some a → lo ≤ a) (hS : ¬ S n) (ha : g.ρ n = some a) : (leave S g lo s.heap.objs.size).P a :=
  .inr ⟨hn _ _ hS ha, (r.live _ _ ha).2.1, fun k hk q => hS (r.inj _ _ _ q ha ▸ hk)⟩
theorem Frz.list {S : Nat → Prop} {lo n : Nat} {l l' : List MV} {v : Value} (r : GR C g σ s) (hn : ∀ n a, ¬ S n → g.ρ n = some a → lo ≤ a) (hS : ¬ S n) (hσ : σ n = some (.list l)) (k : ∀ xs, VRs C g s.heap l xs → VRs C (leave S g lo s.heap.objs.size) s.heap l' xs)
    (hv : VR C g s.heap (.ref n) v) : VR C (leave S g lo s.heap.objs.size) s.heap (.lst l') v := by
  obtain ⟨a, rfl, ha⟩ := hv.inv
  obtain ⟨b, hb, ho⟩ := r.heap _ _ hσ
  obtain rfl := Option.some.inj (ha.symm.trans hb)
  cases ho with
  | list ho hx => exact .lst (Frz.lab r hn hS ha) ho (k _ hx)
theorem Frz.dict {S : Nat → Prop} {lo n : Nat} {l : List (Str × MV)} {v : Value} (r : GR C g σ s) (hn : ∀ n a, ¬ S n → g.ρ n = some a → lo ≤ a) (hS : ¬ S n) (hσ : σ n = some (.dict l)) (o : Okd S l)
    (hv : VR C g s.heap (.ref n) v) : VR C (leave S g lo s.heap.objs.size) s.heap (.dct l) v := by
  obtain ⟨a, rfl, ha⟩ := hv.inv
  obtain ⟨b, hb, ho⟩ := r.heap _ _ hσ
  obtain rfl := Option.some.inj (ha.symm.trans hb)
  cases ho with
  | dict ho hx => exact .dct (Frz.lab r hn hS ha) ho (hx.lose leave_gl o)
theorem Frz.run {S : Nat → Prop} {lo : Nat} (r : GR C g σ s) (hn : ∀ n a, ¬ S n → g.ρ n = some a → lo ≤ a) {m m' : MV} {v : Value} (z : Frz S σ m m') (hv : VR C g s.heap m v) : VR C (leave S g lo s.heap.objs.size) s.heap m' v :=
  Frz.rec (motive_1 := fun m m' _ => ∀ v, VR C g s.heap m v → VR C (leave S g lo s.heap.objs.size) s.heap m' v) (motive_2 := fun l l' _ => ∀ r, VRs C g s.heap l r → VRs C (leave S g lo s.heap.objs.size) s.heap l' r)
    (fun o _ hv => hv.lose leave_gl o) (fun hS hσ _ ih _ hv => Frz.list r hn hS hσ ih hv) (fun hS hσ o _ hv => Frz.dict r hn hS hσ o hv)
    (fun _ ih v hv => hv.inv.elim fun a y => y.elim fun xs y => y.1 ▸ .tup (.inl y.2.1) y.2.2.1 (ih _ y.2.2.2)) (fun _ h => h.inv ▸ .nil) (fun _ _ a b _ h => h.inv.elim fun v y => y.elim fun r y => y.1 ▸ .cons (a _ y.2.1) (b _ y.2.2)) z v hv
theorem GR.leave {S : Nat → Prop} {lo : Nat} (r : GR C g σ s) (hlo : C.N0 ≤ lo) (hok : ∀ n o, S n → σ n = some o → MOk S o) : GR C (leave S g lo s.heap.objs.size) (restr S σ) s := by
  classical
  refine ⟨r.lo, r.K, r.lim, r.size, fun n o h => ?_, fun n m a h h' => ?_, fun n a h => ?_, fun a h => ?_, fun a h => ?_, fun n a h => ?_⟩
  · have h' : (if S n then σ n else none) = some o := h
    by_cases hn : S n
    · rw [if_pos hn] at h'
      obtain ⟨a, ha, ho⟩ := r.heap n o h'
      exact ⟨a, leave_gl.ρ n a hn ha, ho.lose leave_gl (hok n o hn h')⟩
    · rw [if_neg hn] at h'; cases h'
  · exact r.inj n m a (leave_ρ h).2 (leave_ρ h').2
  · obtain ⟨h1, h2⟩ := leave_ρ h
    obtain ⟨x, y, z⟩ := r.live n a h2
    exact ⟨x, y, fun q => q.elim z fun q => q.2.2 n h1 h2⟩
  · rcases h with h | ⟨h1, h2, _⟩
    · exact r.P a h
    · exact ⟨Nat.le_trans hlo h1, h2⟩
  · obtain ⟨x, vs, e, t⟩ := r.tabs a h
    exact ⟨x, vs, e, t.1, fun pos c' hc => by obtain ⟨c, e1, e2, e3⟩ := t.2 pos c' hc; exact ⟨c, e1, .inl e2, e3⟩⟩
  · obtain ⟨h1, h2⟩ := leave_ρ h
    show (if S n then σ n else none) ≠ none
    rw [if_pos h1]; exact r.dom n a h2
theorem Gd.leave {S : Nat → Prop} {fb : List Addr} {g' : Gh} {s' : Shared} (d : Gd C fb g s g' s') (hS : ∀ n a, g.ρ n = some a → S n) : Gd C fb g s (leave S g' s.heap.objs.size s'.heap.objs.size) s' :=
  ⟨d.keep, d.tabs, d.size, fun n a h => leave_gl.ρ n a (hS n a h) (d.ρ n a h), fun n a h => d.ρn n a (leave_ρ h).2, fun a h => .inl (d.P a h), fun a h => h.elim (d.Pn a) fun q => .inr q.1, d.os, d.drawn, d.gens⟩
theorem fn_exit {f : Value} {ms : List MV} (S : Nat → Prop) (hS : ∀ n, σ n ≠ none → S n)
    (h : Fn C A f ms σ fun m σ₁ => ∃ m', Frz S σ₁ m m' ∧ (∀ n o, S n → σ₁ n = some o → MOk S o ∨ (σ n = some o ∧ ∀ f k x, o ≠ .citer false f k x)) ∧ Q m' (restr S σ₁)) : Fn C A f ms σ Q := by
  intro g s vs r hvs
  refine codeAny_mono (h g s vs r hvs) ?_
  rintro x s' ⟨v, g', m, σ', rfl, r', hm, d, m', hz, hok, q⟩
  have hS' : ∀ n a, g.ρ n = some a → S n := fun n a e => hS n (r.dom n a e)
  refine ⟨v, _, m', _, rfl, r'.leave (lo := s.heap.objs.size) r.size (fun n o hn e => ?_), hz.run r' (fun n a hn e => ?_) hm, d.leave hS', q⟩
  · rcases hok n o hn e with q | ⟨q, q'⟩
    · exact q
    · obtain ⟨a, ha, ho⟩ := r.heap n o q
      exact ho.ok hS' q'
  · rcases d.ρn n a e with q | q
    · exact absurd (hS' n a q) hn
    · exact q
theorem fn_pure {f : Value} {ms : List MV} (hc : ∀ n f k x, σ n ≠ some (.citer false f k x))
    (h : Fn C A f ms σ fun m σ₁ => ∃ m', Frz (fun n => σ n ≠ none) σ₁ m m' ∧ (∀ n, σ n ≠ none → σ₁ n = σ n) ∧ Q m' σ) : Fn C A f ms σ Q := by
  refine fn_exit (fun n => σ n ≠ none) (fun _ h => h) ?_
  intro g s vs r hvs
  refine codeAny_mono (h g s vs r hvs) ?_
  rintro x s' hX2
  refine via_p fun P kP => ?_
  obtain ⟨v, g', m, σ', e, r', hm, d, m', hz, hok, q⟩ := hX2
  refine kP ?_
  clear kP P
  refine ⟨v, g', m, σ', e, r', hm, d, m', hz, fun n o hn e => .inr ⟨by rw [← hok n hn]; exact e, fun f k x e' => hc n f k x (by rw [← hok n hn, e, e'])⟩, ?_⟩
  have : restr (fun n => σ n ≠ none) σ' = σ := by
    funext n
    unfold restr
    by_cases hn : σ n = none
    · rw [if_neg (fun q => q hn), hn]
    · rw [if_pos hn, hok n hn]
  rw [this]; exact q
end
end
section
structure KlsAt (K : Frag) (c : Addr) : Prop where
  ga : findIn K (.ref c) "__getattribute__" = some (some (.builtin "object.__getattribute__"))
  gh : findIn K (.ref c) "__getattr__" = some none
  sa : findIn K (.ref c) "__setattr__" = some (some (.builtin "object.__setattr__"))
  hd : hasDictIn K c = true
  po : plainOver K c = true
  mks : makesIn K c = true
section
variable {C : Cx} {A : Around} {fm : Fm} {fa : List Addr} {loc : Loc} {σ : Hp} {g : Gh} {s : Shared} {Q Q' : MV → Hp → Prop} {QB : Bool → Hp → Prop} {QS : Fl → Loc → Hp → Prop}
theorem lookIn_of {h : Heap} {a : Addr} {m : Str → Option Value} (hn : h.Ns1 a m) : ∃ o, h.get? a = some o ∧ ∀ x, lookIn x o = some (m x) := by
  refine via_p fun P kP => ?_
  obtain ⟨o, es, ep, ho, hd, hk, hu, hm⟩ := hn
  refine kP ?_
  clear kP P
  refine ⟨o, ho, fun x => ?_⟩
  unfold lookIn
  rw [hd]
  have hany : es.toList.any (·.refKey) = false := by
    rw [List.any_eq_false]; intro e he; obtain ⟨n, t, h⟩ := hk e (by simpa using he); simp [DictEntry.refKey, h]
  have e1 := hm x
  simp only [nsFind, findBy, ← Array.find?_toList] at e1
  dsimp only
  cases hf : es.toList.find? (·.key.isStr x) with
  | some e => rw [hf] at e1; simp only [Option.map_some] at e1; rw [← e1]
  | none => rw [hf] at e1; simp only [Option.map_none] at e1; simp only [hany]; rw [← e1]; rfl
noncomputable def plainMV : MV → Bool
  | .val _ => false
  | _ => true
theorem VR.handed {h : Heap} {m : MV} {v : Value} (hv : VR C g h m v) (hp : plainMV m = true) : handedIn v = true := by
  have h := hv.inv
  cases m
  case val => exact nomatch hp
  case none => exact h ▸ rfl
  case bool => exact h ▸ rfl
  case int => obtain ⟨_, rfl⟩ := h; rfl
  case str => obtain ⟨_, rfl⟩ := h; rfl
  case rng => obtain ⟨_, _, _, _, rfl, _⟩ := h; rfl
  case ref => obtain ⟨_, rfl, _⟩ := h; rfl
  case strm => obtain ⟨_, rfl, _⟩ := h; rfl
  all_goals obtain ⟨_, _, rfl, _⟩ := h; rfl
theorem GR.inst {n d : Nat} {c : Addr} {l : List (Str × MV)} {v : Value} (r : GR C g σ s) (h1 : σ n = some (.inst c d)) (h2 : σ d = some (.attrs l)) (hv : VR C g s.heap (.ref n) v) :
    ∃ a dx m o, v = .ref a ∧ g.ρ n = some a ∧ g.ρ d = some dx ∧ s.heap.get? a = some (instObj c dx) ∧ s.heap.Ns1 dx m ∧ (∀ x, l.lookup x = none → m x = none) ∧ (∀ x v, l.lookup x = some v → ∃ u, m x = some u ∧ VR C g s.heap v u) ∧
      s.heap.get? dx = some o ∧ (∀ x, lookIn x o = some (m x)) ∧ InstAt s.heap a (instObj c dx) c (some o) := by
  refine via_p fun P kP => ?_
  obtain ⟨a, e, ha⟩ := hv.inv
  refine kP ?_
  clear kP P
  refine via_p fun P kP => ?_
  obtain ⟨dx, hd, ho⟩ := (r.obj ha h1).inv
  refine kP ?_
  clear kP P
  refine via_p fun P kP => ?_
  obtain ⟨m, hn, h0, h1⟩ := (r.obj hd h2).inv
  refine kP ?_
  clear kP P
  refine via_p fun P kP => ?_
  obtain ⟨o, e1, e2⟩ := lookIn_of hn
  refine kP ?_
  clear kP P
  exact ⟨_, _, _, o, e, ha, hd, ho, hn, h0, h1, e1, e2, ho, rfl, rfl, e1⟩
noncomputable def Att (C : Cx) (A : Around) (fm : Fm) (name : Str) (m : MV) (loc : Loc) (σ : Hp) (Q : MV → Hp → Prop) : Prop :=
  ∀ fa g s v ex, Rel C g σ fm fa loc s → VR C g s.heap m v → wpAny (model C.prog C.w) A (getAttr v name ex) (Post C fm fa loc g s Q) NoE s
theorem ev_attr {o : Expr} {name : Str} {pos : Pos} (h : Ev C A fm o loc σ fun m σ₁ => Att C A fm name m loc σ₁ Q)
    (hbase : attributeBase o name fm.env (eval o fm.env) = eval o fm.env := by rfl) (ht : ∀ a b, letTemporaryGo o a b = pure () := by intro _ _; rfl) : Ev C A fm (.Attribute o name pos) loc σ Q := fun fa g s r => by
  rw [arm_eval_Attribute, hbase]
  refine wpAny_bind (wpAny_mono (h fa g s r) ?_ fun _ _ e => e)
  rintro v s₁ ⟨g₁, m, σ₁, r₁, hv, d₁, h₁⟩
  refine wpAny_bind (wpAny_standAt (wpAny_bind (wpAny_holding (wpAny_mono (h₁ fa g₁ s₁ v true r₁ hv) ?_ fun _ _ e => e))))
  intro u s₂ p
  rw [ht]
  exact wpAny_bind (wpAny_pure (wpAny_pure (p.trans d₁)))
theorem att_inst {n d : Nat} {c : Addr} {l : List (Str × MV)} {name : Str} {v : MV} (K : KlsAt C.K c) (h1 : σ n = some (.inst c d)) (h2 : σ d = some (.attrs l)) (hl : l.lookup name = some v) (hp : plainMV v = true)
    (hn : findIn C.K (.ref c) name = some none) (q : Q v σ) : Att C A fm name (.ref n) loc σ Q := by
  intro fa g s x ex r hx
  refine via_p fun P kP => ?_
  obtain ⟨a, dx, m, o, rfl, ha, hd, ho, hns, h0, h3, ho', hlk, I⟩ := r.gr.inst h1 h2 hx
  refine kP ?_
  clear kP P
  refine via_p fun P kP => ?_
  obtain ⟨u, hu, hv⟩ := h3 name v hl
  refine kP ?_
  clear kP P
  exact get_value r.gr.KIn I K.ga (findObj_own K.hd hn rfl (by rw [hlk, hu])) (hv.handed hp) (.tok r hv q)
theorem att_meth {n d : Nat} {c f : Addr} {l : List (Str × MV)} {name : Str} (K : KlsAt C.K c) (h1 : σ n = some (.inst c d)) (h2 : σ d = some (.attrs l)) (hl : l.lookup name = none)
    (hn : findObj C.K c (some emptyDict) name = some (.bind (.builtin "function.__get__") (.ref f))) (hnd : ∀ o, lookIn name o = some none → findObj C.K c (some o) name = findObj C.K c (some emptyDict) name)
    (ht : typeIn C.K (.ref f) = some (.type "function")) (q : Q (.meth f n) σ) : Att C A fm name (.ref n) loc σ Q := by
  intro fa g s x ex r hx
  refine via_p fun P kP => ?_
  obtain ⟨a, dx, m, o, rfl, ha, hd, ho, hns, h0, h3, ho', hlk, I⟩ := r.gr.inst h1 h2 hx
  refine kP ?_
  clear kP P
  refine get_bind r.gr.KIn I K.ga ((hnd o (by rw [hlk, h0 name hl])).trans hn) K.gh (wpAny_call (PySem.W.fn_get (s := { s with toks := s.toks + 1 }) r.gr.KIn ht ?_))
  show wpAny _ _ (handedOut _) _ _ _
  refine wpAny_pure ?_
  exact ((Post.pinned (s := { s with toks := s.toks + 1 }) (r.toks _) rfl (.meth (.inl rfl) (Heap.get?_push_size _ rfl) ha) q).trans (.toks _))
theorem ev_methF {o : Expr} {name : Str} {apos pos : Pos} {es : List Expr}
    (h : Ev C A fm o loc σ fun m σ₁ => ∃ n d c l f, m = .ref n ∧ KlsAt C.K c ∧ σ₁ n = some (.inst c d) ∧ σ₁ d = some (.attrs l) ∧ l.lookup name = none ∧ findIn C.K (.ref c) name = some (some (.ref f)) ∧ typeIn C.K (.ref f) = some (.type "function") ∧ Callable C (.ref f) ∧
      EvL C A fm es loc σ₁ fun ms σ₂ => Cal C A fm (.ref f) (.ref n :: ms) loc σ₂ Q)
    (hbase : attributeBase o name fm.env (eval o fm.env) = eval o fm.env := by rfl) (hs : (starEach es fm.env).all (fun p => !p.1) = true := by rfl) (hline : (apos.endLine == pos.line) = true := by rfl) (hf : es.length < 30 := by decide) :
    Ev C A fm (.Call (.Attribute o name apos) es [] pos) loc σ Q := fun fa g s r => by
  have hpl := starEach_plain hs
  have hfew : methodCallForm (es.length + ([] : List Keyword).length) (backTo pos (starEach es fm.env)) (backToKw pos (keywordEach [] fm.env)) = true := by
    rw [hpl]
    have : es.length + ([] : List Keyword).length + (if ([] : List Keyword).isEmpty then 0 else 1) < 30 := by simpa using hf
    unfold methodCallForm
    simp only [Bool.and_eq_true]
    refine ⟨⟨?_, rfl⟩, decide_eq_true this⟩
    simp [backTo]
  have hpos : methodCallPos true o fm.env apos pos = pure pos := by unfold methodCallPos; simp [hline]
  rw [arm_eval_Call, hbase]
  refine wpAny_bind (wpAny_mono (h fa g s r) ?_ fun _ _ e => e)
  rintro v s₁ hX2
  refine via_p fun P kP => ?_
  obtain ⟨g₁, m, σ₁, r₁, hv, d₁, n, d, c, l, f, rfl, K, h1, h2, hl, hfi, hty, hcal, h₁⟩ := hX2
  refine kP ?_
  clear kP P
  refine wpAny_bind (wpAny_standAt ?_)
  refine via_p fun P kP => ?_
  obtain ⟨a, dx, mm, oo, rfl, ha, hd, ho, hns, h0, h3, ho', hlk, I⟩ := r₁.gr.inst h1 h2 hv
  refine kP ?_
  clear kP P
  unfold methodCall
  rw [hfew]
  refine wpAny_bind (wpAny_holding (method_fn r₁.gr.KIn I K.ga K.gh hfi hty (by show (lookIn name oo).map (·.isSome) = _; rw [hlk, h0 name hl]; rfl) ?_))
  refine wpAny_bind (wpAny_of_eq hpos ?_)
  rw [hpl]
  refine hcal.with (by simp [backTo]) (wpAny_mono (h₁.args r₁) ?_ fun _ _ e => e)
  rintro hX0 s₂ hX2
  refine via_p fun P kP => ?_
  obtain ⟨ps, kw⟩ := hX0
  obtain ⟨rfl, g₂, ms, σ₂, r₂, hvs, d₂, q⟩ := hX2
  refine kP ?_
  clear kP P
  refine ⟨⟨g₂, σ₂, r₂.gr⟩, ?_⟩
  exact wpAny_mono (q fa g₂ s₂ (.ref a :: ps) r₂ (.cons (hv.mono (r₁.ge d₂)) hvs)) (fun _ _ p => p.trans (d₁.trans d₂)) fun _ _ e => e
end
end
section
open Builtin Builtin.ObjectAttr

noncomputable def aset (l : List (Str × MV)) (x : Str) (v : MV) : List (Str × MV) := if l.any (fun p => p.1 == x) then l.map (fun p => if p.1 == x then (p.1, v) else p) else l ++ [(x, v)]
theorem lookup_map_set (x : Str) (v : MV) (l : List (Str × MV)) (y : Str) : (l.map fun p => if p.1 == x then (p.1, v) else p).lookup y = if y = x then (if l.any (fun p => p.1 == x) then some v else none) else l.lookup y := by
  induction l with
  | nil => simp
  | cons p l ih =>
    obtain ⟨k, w⟩ := p
    by_cases hk : k = x
    · subst hk
      by_cases hy : y = k
      · subst hy; simp
      · have hy' : (y == k) = false := by simpa using hy
        simp only [List.map_cons, beq_self_eq_true, if_true, List.lookup_cons, hy', ih, hy, if_false]
    · have hk' : (k == x) = false := by simpa using hk
      by_cases hy : y = k
      · subst hy
        simp [hk, hk']
      · have hy' : (y == k) = false := by simpa using hy
        simp only [List.map_cons, hk', Bool.false_eq_true, if_false, List.lookup_cons, hy', ih, List.any_cons, Bool.false_or]
theorem lookup_app (x : Str) (v : MV) : ∀ (l : List (Str × MV)) (y : Str), l.any (fun p => p.1 == x) = false → (l ++ [(x, v)]).lookup y = if y = x then some v else l.lookup y
  | [], y, _ => by
    by_cases hy : y = x
    · subst hy; simp
    · have hy' : (y == x) = false := by simpa using hy
      simp [List.lookup_cons, hy, hy']
  | (k, w) :: l, y, h => by
    simp only [List.any_cons, Bool.or_eq_false_iff] at h
    have ih := lookup_app x v l y h.2
    have hk : ¬ k = x := by simpa using h.1
    by_cases hy : y = k
    · subst hy
      simp [hk]
    · have hy' : (y == k) = false := by simpa using hy
      simp only [List.cons_append, List.lookup_cons, hy', ih]
theorem lookup_aset (l : List (Str × MV)) (x : Str) (v : MV) (y : Str) : (aset l x v).lookup y = if y = x then some v else l.lookup y := by
  unfold aset
  cases h : l.any (fun p => p.1 == x) with
  | true => rw [if_pos rfl, lookup_map_set, h]; simp
  | false => rw [if_neg (by simp), lookup_app x v l y h]
section
variable {C : Cx} {A : Around} {fm : Fm} {fa : List Addr} {loc : Loc} {σ : Hp} {g : Gh} {s : Shared} {Q Q' : MV → Hp → Prop} {QB : Bool → Hp → Prop} {QS : Fl → Loc → Hp → Prop}
theorem set_ns {prog : Program} {w : World} {E : Value → Shared → Prop} {K : Frag} {x c dx : Addr} {o : Obj} {m : Str → Option Value} {ns : List Str} {name : Str} {v : Value} {R : Unit → Shared → Prop} (X : K.In s.heap) (I : InstAt s.heap x (instObj c dx) c (some o))
    (KC : KlsAt K c) (ht : takerIn K c name = some none) (hn : s.heap.Ns1 dx m) (hw : Within m ns) (hsz : ns.length ≤ 1000)
    (hq : ∀ h', h'.Ns1 dx (fun y => if y = name then some v else m y) → Heap.SameBut dx s.heap h' → R () { s with heap := h', toks := s.toks + 2 }) :
    wpAny (model prog w) A (setAttr (.ref x) name v) R E s := by
  refine set_plain X I KC.sa (osa_open (s := { s with toks := s.toks + 1 }) X I KC.po ht fun b => ?_)
  refine via_p fun P kP => ?_
  obtain ⟨cd, hc, hd'⟩ := any_some KC.hd
  refine kP ?_
  clear kP P
  have hx := I.at_
  refine wpAny_bind (wpAny_pure (wpAny_bind (wpAny_bind (wpAny_loadPart hx (wpAny_bind (looks_clsIn X hc _ _ _ { s with toks := s.toks + 1 } (fun _ _ e => e) ?_))))))
  rw [hd']
  refine wpAny_pure (a := some dx) (wpAny_bind (wpAny_pure (wpAny_bind ?_)))
  refine wpAny_nsSet1 (s := { s with toks := s.toks + 1 }) hn fun h' hn' hs => ?_
  refine via_p fun P kP => ?_
  obtain ⟨oD, esD, epD, hoD, hdD, hcD⟩ := hn'.count (Within.cons name v hw)
  refine kP ?_
  clear kP P
  refine wpAny_bind (wpAny_lookBehind hoD (by rw [hdD]; exact pastItsLine_dict (Nat.le_trans hcD (by rw [List.length_cons, sizeLine_eq]; (first | lia | omega)))) ?_)
  exact wpAny_pure (hq h' hn' hs)
noncomputable def StA (C : Cx) (A : Around) (fm : Fm) (name : Str) (m v : MV) (loc : Loc) (σ : Hp) (Q : Hp → Prop) : Prop :=
  ∀ fa g s a u, Rel C g σ fm fa loc s → VR C g s.heap m a → VR C g s.heap v u → wpAny (model C.prog C.w) A (setAttr a name u) (fun _ s' => ∃ g' σ', Rel C g' σ' fm fa loc s' ∧ Gd C fa g s g' s' ∧ Q σ') NoE s
theorem sta_inst {n d : Nat} {c : Addr} {l : List (Str × MV)} {name : Str} {v : MV} {Q : Hp → Prop} (K : KlsAt C.K c) (h1 : σ n = some (.inst c d)) (h2 : σ d = some (.attrs l)) (ht : takerIn C.K c name = some none) (hsz : l.length ≤ 1000)
    (q : Q (σ.set d (.attrs (aset l name v)))) : StA C A fm name (.ref n) v loc σ Q := by
  intro fa g s x u r hx hu
  refine via_p fun P kP => ?_
  obtain ⟨a, dx, m, o, rfl, ha, hd, ho, hns, h0, h3, ho', hlk, I⟩ := r.gr.inst h1 h2 hx
  refine kP ?_
  clear kP P
  have hw : Within m (l.map (·.1)) := fun y hy => by
    cases e : l.lookup y with
    | none => exact absurd (h0 y e) hy
    | some w =>
      have : (y, w) ∈ l := by
        clear h0 h3 h2 q hsz
        induction l with
        | nil => cases e
        | cons p l ih =>
          rw [List.lookup_cons] at e
          cases hb : y == p.1 with
          | true => rw [hb] at e; cases e; rw [beq_iff_eq.mp hb]; exact .head _
          | false => rw [hb] at e; exact .tail _ (ih e)
      exact List.mem_map.mpr ⟨(y, w), this, rfl⟩
  refine set_ns r.gr.KIn I K ht hns hw (by simpa using hsz) fun h' hn' hs => ?_
  have htb : ∀ b ∈ C.tabs, b < C.N0 := fun b hb => (r.gr.tabs b hb).1
  obtain ⟨hN, _, hPn⟩ := r.gr.live d dx hd
  have hg : Ge g g s.heap h' := ⟨fun _ _ e => e, fun _ e => e, fun b o hp e => hs.extBut b o (fun q => hPn (q ▸ hp)) e⟩
  refine ⟨g, _, r.upd (s' := { s with heap := h', toks := s.toks + 2 }) hd hs (.attrs hn' (fun y hy => ?_) fun y w hy => ?_), .upd hd hN htb hs rfl rfl rfl, q⟩
  · rw [lookup_aset] at hy
    by_cases e : y = name
    · rw [if_pos e] at hy; cases hy
    · rw [if_neg e] at hy; simp only [if_neg e]; exact h0 y hy
  · rw [lookup_aset] at hy
    by_cases e : y = name
    · rw [if_pos e] at hy; cases hy
      exact ⟨u, by simp only [if_pos e], hu.mono hg⟩
    · rw [if_neg e] at hy
      obtain ⟨z, hz, hv⟩ := h3 y w hy
      exact ⟨z, by simp only [if_neg e]; exact hz, hv.mono hg⟩
theorem ex_seta {o e : Expr} {name : Str} {p pos : Pos} (h : Ev C A fm e loc σ fun v σ₁ => Ev C A fm o loc σ₁ fun m σ₂ => StA C A fm name m v loc σ₂ fun σ₃ => QS .next loc σ₃)
    (hs : swapsWith e (some (.Attribute o name p)) pos.line fm.env = pure false := by rfl) : Ex C A fm (.Assign [.Attribute o name p] e pos) loc σ QS := fun fa g s r => by
  refine plainObj_wpAny_Assign_Attribute (wpAny_mono (h fa g s r) ?_ fun _ _ e => e) hs
  rintro v s₁ ⟨g₁, m, σ₁, r₁, hv, d₁, h₁⟩
  refine wpAny_mono (h₁ fa g₁ s₁ r₁) ?_ fun _ _ e => e
  rintro ov s₂ ⟨g₂, mo, σ₂, r₂, ho, d₂, h₂⟩
  refine wpAny_mono (h₂ fa g₂ s₂ ov v r₂ ho (hv.mono (r₁.ge d₂))) ?_ fun _ _ e => e
  rintro _ s₃ ⟨g₃, σ₃, r₃, d₃, q⟩
  exact ⟨g₃, .next, loc, σ₃, r₃, .next, d₁.trans (d₂.trans d₃), q⟩
theorem ex_auga {o e : Expr} {name : Str} {op : Operator} {tp pos : Pos} (h : Ev C A fm o loc σ fun m σ₁ => Att C A fm name m loc σ₁ fun old σ₂ => Ev C A fm e loc σ₂ fun v σ₃ => Op2 C A fm (inplaceOp op) old v loc σ₃ fun k σ₄ => StA C A fm name m k loc σ₄ fun σ₅ => QS .next loc σ₅) :
    Ex C A fm (.AugAssign (.Attribute o name tp) op e pos) loc σ QS := fun fa g s r => by
  refine wpAny_AugAssign_AttributeAny (wpAny_mono (h fa g s r) ?_ fun _ _ e => e)
  rintro ov s₁ ⟨g₁, m, σ₁, r₁, ho, d₁, h₁⟩
  refine wpAny_mono (h₁ fa g₁ s₁ ov true r₁ ho) ?_ fun _ _ e => e
  rintro old s₂ ⟨g₂, mo, σ₂, r₂, hold, d₂, h₂⟩
  refine wpAny_mono (h₂ fa g₂ s₂ r₂) ?_ fun _ _ e => e
  rintro v s₃ ⟨g₃, mv, σ₃, r₃, hv, d₃, h₃⟩
  refine wpAny_mono (h₃ fa g₃ s₃ old v r₃ (hold.mono (r₂.ge d₃)) hv) ?_ fun _ _ e => e
  rintro k s₄ ⟨g₄, mk, σ₄, r₄, hk, d₄, h₄⟩
  refine wpAny_mono (h₄ fa g₄ s₄ ov k r₄ (ho.mono (r₁.ge (d₂.trans (d₃.trans d₄)))) hk) ?_ fun _ _ e => e
  rintro _ s₅ ⟨g₅, σ₅, r₅, d₅, q⟩
  exact ⟨g₅, .next, loc, σ₅, r₅, .next, d₁.trans (d₂.trans (d₃.trans (d₄.trans d₅))), q⟩
theorem GR.new {a : Addr} {n : Nat} {o : MO} {s' : Shared} (r : GR C g σ s) (hn : g.ρ n = none) (k : ∀ b o, s.heap.get? b = some o → s'.heap.get? b = some o) (ha : s.heap.objs.size ≤ a) (hl : a < s'.heap.objs.size)
    (ho : OR C (g.set n a) s'.heap a o) : GR C (g.set n a) (σ.set n o) s' := by
  have hs : s.heap.objs.size ≤ s'.heap.objs.size := Nat.le_of_lt (Nat.lt_of_le_of_lt ha hl)
  have e0 : Ge g (g.set n a) s.heap s.heap := ge_set hn
  have e : Ge g (g.set n a) s.heap s'.heap := ⟨e0.ρ, e0.P, fun b o hp h => k b o h⟩
  have q := r.ext (s' := s') k hs
  refine ⟨r.lo, q.K, q.lim, q.size, fun m o' h => ?_, fun m m' b h h' => ?_, fun m b h => ?_, q.P, fun b h => by obtain ⟨x, vs, e', t⟩ := r.tabs b h; exact ⟨x, vs, k _ _ e', t.mono e⟩, fun m b h => ?_⟩
  · have h' : (if m = n then some o else σ m) = some o' := h
    by_cases hm : m = n
    · rw [if_pos hm] at h'; cases h'
      exact ⟨a, by show (if m = n then some a else g.ρ m) = some a; rw [if_pos hm], ho⟩
    · rw [if_neg hm] at h'
      obtain ⟨b, hb, hob⟩ := r.heap m o' h'
      exact ⟨b, e.ρ m b hb, hob.mono e fun _ e => k _ _ e⟩
  · rcases set_cases h with ⟨h1, h2⟩ | ⟨h1, h2⟩ <;> rcases set_cases h' with ⟨h3, h4⟩ | ⟨h3, h4⟩
    · rw [h1, h3]
    · exact absurd (r.live m' b h4).2.1 (Nat.not_lt.mpr (h2 ▸ ha))
    · exact absurd (r.live m b h2).2.1 (Nat.not_lt.mpr (h4 ▸ ha))
    · exact r.inj m m' b h2 h4
  · rcases set_cases h with ⟨h1, h2⟩ | ⟨h1, h2⟩
    · subst h2; exact ⟨Nat.le_trans r.size ha, hl, fun w => Nat.lt_irrefl _ (Nat.lt_of_lt_of_le (r.P b w).2 ha)⟩
    · obtain ⟨x, y, z⟩ := r.live m b h2; exact ⟨x, Nat.lt_of_lt_of_le y hs, z⟩
  · show (if m = n then some o else σ m) ≠ none
    rcases set_cases h with ⟨h1, _⟩ | ⟨h1, h2⟩
    · rw [if_pos h1]; exact fun e => nomatch e
    · rw [if_neg h1]; exact r.dom m b h2
theorem fn_make {c fI : Addr} {ℓ d : Nat} {ms : List MV} (K : KlsAt C.K c) (hℓ : σ ℓ = none) (hd : σ d = none) (hne : ℓ ≠ d) (hi : findIn C.K (.ref c) "__init__" = some (some (.ref fI))) (hf : typeIn C.K (.ref fI) = some (.type "function"))
    (h : ∀ rest, Fn C (A.under (.builtin "type.__call__" ⟨.ref c :: rest, []⟩)) (.ref fI) (.ref ℓ :: ms) ((σ.set d (.attrs [])).set ℓ (.inst c d)) fun m σ' => m = .none ∧ Q (.ref ℓ) σ') : Fn C A (.ref c) ms σ Q := by
  intro g s vs r hvs
  obtain ⟨hh, gg, dr, t, os⟩ := s
  refine make_core (makes_of r.KIn K.mks) (looks_findIn r.KIn hi) (fun self => bind_fn r.KIn self hf) (.inl rfl) ?_
  have hρd := r.fresh hd
  have r₁ := r.new (s' := ⟨hh.push emptyDict, gg, dr, t, os⟩) (a := hh.objs.size) (o := .attrs []) hρd (fun b o e => Heap.get?_push_of_some _ e) (Nat.le_refl _) (by show _ < (hh.push _).objs.size; rw [Heap.size_push]; exact Nat.lt_succ_self _)
    (.attrs (m := fun _ => none) (Heap.Ns1.of_empty ⟨_, #[], _, Heap.get?_push_size _ rfl, rfl, fun e he => absurd he (by simp), fun _ => rfl⟩) (fun _ _ => rfl) fun _ _ e => nomatch e)
  have hρℓ : (g.set d hh.objs.size).ρ ℓ = none := by
    show (if ℓ = d then _ else g.ρ ℓ) = none
    rw [if_neg hne]; exact r.fresh hℓ
  have r₂ := r₁.new (s' := ⟨(hh.push emptyDict).push (instObj c hh.objs.size), gg, dr, t, os⟩) (a := hh.objs.size + 1) (o := .inst c d) hρℓ (fun b o e => Heap.get?_push_of_some _ e) (by show (hh.push _).objs.size ≤ _; rw [Heap.size_push]; exact Nat.le_refl _)
    (by show _ < ((hh.push _).push _).objs.size; rw [Heap.size_push, Heap.size_push]; exact Nat.lt_succ_self _)
    (.inst (dx := hh.objs.size) (by show (if d = ℓ then _ else (if d = d then _ else _)) = _; rw [if_neg (Ne.symm hne), if_pos rfl]) (by show ((hh.push _).push _).get? _ = _; rw [← Heap.size_push hh emptyDict]; exact Heap.get?_push_size _ rfl))
  have D₁ : Gd C [] g ⟨hh, gg, dr, t, os⟩ (g.set d hh.objs.size) ⟨hh.push emptyDict, gg, dr, t, os⟩ := .new hρd (fun b o e => Heap.get?_push_of_some _ e) (Nat.le_refl _) (by show _ < (hh.push _).objs.size; rw [Heap.size_push]; exact Nat.lt_succ_self _) rfl rfl rfl
  have D₂ : Gd C [] (g.set d hh.objs.size) ⟨hh.push emptyDict, gg, dr, t, os⟩ ((g.set d hh.objs.size).set ℓ (hh.objs.size + 1)) ⟨(hh.push emptyDict).push (instObj c hh.objs.size), gg, dr, t, os⟩ :=
    .new hρℓ (fun b o e => Heap.get?_push_of_some _ e) (by show (hh.push _).objs.size ≤ _; rw [Heap.size_push]; exact Nat.le_refl _) (by show _ < ((hh.push _).push _).objs.size; rw [Heap.size_push, Heap.size_push]; exact Nat.lt_succ_self _) rfl rfl rfl
  have hx : VR C ((g.set d hh.objs.size).set ℓ (hh.objs.size + 1)) ((hh.push emptyDict).push (instObj c hh.objs.size)) (.ref ℓ) (.ref (hh.objs.size + 1)) := .ref (by show (if ℓ = ℓ then _ else _) = _; rw [if_pos rfl])
  refine codeAny_mono (h _ _ _ (.ref (hh.objs.size + 1) :: vs) r₂ (.cons hx (hvs.mono (r.ge (D₁.trans D₂))))) ?_
  rintro x s' ⟨v, g', m, σ', rfl, r', hv, D, rfl, q⟩
  obtain rfl := hv.inv
  refine ⟨rfl, .ref (hh.objs.size + 1), g', .ref ℓ, σ', rfl, r', ?_, D₁.trans (D₂.trans D), q⟩
  obtain ⟨a, e', e⟩ := hx.inv
  exact e' ▸ .ref (D.ρ _ _ e)
end
end
section
open Builtin Builtin.ObjectAttr

theorem fg_lookup : typeLookup (.type "function") "__getattribute__" = pure (some (.builtin "object.__getattribute__")) := by rw [typeLookup_type, builtinLookup_eq_fast]; kernel_rfl
theorem fg_none : typeLookup (.type "function") "__getattr__" = pure none := by rw [typeLookup_type, builtinLookup_eq_fast]; kernel_rfl
theorem fg_read : typeLookup (.type "function") "read" = pure none := by rw [typeLookup_type, builtinLookup_eq_fast]; kernel_rfl
theorem fs_lookup : typeLookup (.type "function") "__setattr__" = pure (some (.builtin "object.__setattr__")) := by rw [typeLookup_type, builtinLookup_eq_fast]; kernel_rfl
theorem slot_fga : Slot "function" "__getattribute__" "object.__getattribute__" :=
  Slot.of (T := "function") (name := "__getattribute__") (owner := "object") (n := "__getattribute__") fg_lookup (by decide +kernel) (by decide +kernel) (by decide +kernel)
    (.inl (by decide +kernel)) (by rw [isSubtype_type]; kernel_rfl)
theorem slot_fsa : Slot "function" "__setattr__" "object.__setattr__" :=
  Slot.of (T := "function") (name := "__setattr__") (owner := "object") (n := "__setattr__") fs_lookup (by decide +kernel) (by decide +kernel) (by decide +kernel)
    (.inl (by decide +kernel)) (by rw [isSubtype_type]; kernel_rfl)
theorem entry_ga : entryFor table "object.__getattribute__" = some Builtin.«object.__getattribute__» := entryFor_of_tree (by kernel_rfl)
theorem args_ga (a b : Value) : argsOk "object.__getattribute__" ⟨[a, b], []⟩ := by unfold argsOk; kernel_rfl
theorem fun_get {prog : Program} {w : World} {A : Around} {E : Value → Shared → Prop} {Q : Value → Shared → Prop} {s : Shared} {f d : Addr} {fd : FuncData} {u : Value} {name : Str} {m : Str → Option Value} {sl : Array (Option Value)} {ex : Bool}
  (hf : s.heap.get? f = some ⟨.type "function", some d, .func fd, sl⟩) (hd : s.heap.Ns d m) (hm : m name = some u) (hn : typeLookup (.type "function") name = pure none) (hh : handedIn u = true)
  (hq : Q u { s with toks := s.toks + 1 }) :
  wpAny (model prog w) A (getAttr (.ref f) name ex) Q E s := by
  obtain ⟨h, g, dr, tk, os⟩ := s
  have hT : Shared.TypeIs ⟨h, g, dr, tk + 1, os⟩ (.ref f) "function" := ⟨_, hf, rfl⟩
  have L0 : Looks (model prog w) h (typeOf (.ref f)) (.type "function") := (Looks.ld hf).andThen .now
  unfold getAttr getAttrBy
  refine wpAny_bind (wpAny_mkText (wpAny_holding (wpAny_bind (L0.at (wpAny_bind (wpAny_of_eq fg_lookup ?_))))))
  show wpAny _ _ (getAttrByItsOwn _ _ _ _ _ _) _ _ _
  unfold getAttrByItsOwn hookBefore
  refine wpAny_bind (wpAny_pure (wpAny_bind (wpAny_attempt (wpAny_holding ?_))))
  unfold callGetattribute
  rw [show (ex && onTheHeap (Value.builtin "object.__getattribute__")) = false from Bool.and_false _, if_neg (by decide)]
  unfold boundAndCalled
  rw [slot_fga.bind]
  refine wpAny_bind (wpAny_pure ?_)
  refine wpAny_call_entry slot_fga hT entry_ga ?_ (args_ga _ _)
  unfold Builtin.«object.__getattribute__»
  refine wpAny_bind (wpAny_pure (wpAny_bind (wpAny_pure (wpAny_bind (L0.at ?_)))))
  unfold find
  refine wpAny_bind (wpAny_bind (wpAny_of_eq hn (wpAny_bind (wpAny_pure (wpAny_bind (wpAny_pure ?_))))))
  unfold ownThenClass
  refine wpAny_bind ?_
  show wpAny _ _ (ObjectAttr.ownDict f >>= inDict name) _ _ _
  unfold ObjectAttr.ownDict
  refine wpAny_bind (wpAny_bind (wpAny_loadPart hf ?_))
  show wpAny _ _ (instanceDict f false) _ _ _
  unfold instanceDict
  refine wpAny_bind (wpAny_loadPart hf ?_)
  refine wpAny_pure (a := some d) ?_
  refine wpAny_nsGet (s := ⟨h, g, dr, tk + 1, os⟩) hd ?_
  rw [hm]
  refine wpAny_bind (wpAny_rule (wpAny_pure ?_))
  refine wpAny_pure ⟨u, rfl, ?_⟩
  show wpAny _ _ (handedOut u) _ _ _
  rw [handedOut_of hh]; exact wpAny_pure hq
theorem fun_meth {prog : Program} {w : World} {A : Around} {E : Value → Shared → Prop} {Q : Value × List Value → Shared → Prop} {s : Shared} {f d : Addr} {fd : FuncData} {u : Value} {m : Str → Option Value} {sl : Array (Option Value)} {pl : Sem Bool}
  (hf : s.heap.get? f = some ⟨.type "function", some d, .func fd, sl⟩) (hd : s.heap.Ns d m) (hm : m "read" = some u) (hh : handedIn u = true)
  (hq : Q (u, []) { s with toks := s.toks + 1 }) :
  wpAny (model prog w) A (getMethod (.ref f) "read" pl) Q E s := by
  have L0 : Looks (model prog w) s.heap (typeOf (.ref f)) (.type "function") := (Looks.ld hf).andThen .now
  unfold getMethod specialOf
  refine wpAny_bind (wpAny_bind (L0.here (wpAny_of_eq fg_lookup ?_)))
  dsimp only
  rw [PySem.F.canon_object_ga, if_neg (by decide)]
  refine wpAny_bind (wpAny_bind (L0.here (wpAny_of_eq fg_none ?_)))
  refine wpAny_bind (wpAny_bind (L0.here (wpAny_of_eq fg_read ?_)))
  exact wpAny_bind (fun_get hf hd hm fg_read hh (wpAny_pure hq))
end
section
structure RdIs (C : Cx) (rp : Arguments) (rb : List Stmt) (rs : Scope) (p : Str) : Prop where
  rd : ∀ fd, C.rd fd → fd.params = rp ∧ fd.body = .stmts rb ∧ fd.scope = rs ∧ fd.globals = mainGlobals ∧ fd.builtins = builtinsNs ∧ fd.defaults = .none ∧ fd.kwdefaults = .none
  bind : ∀ (fd : FuncData) v, fd.params = rp → fd.defaults = .none → fd.kwdefaults = .none → bindArgs fd ⟨[v], []⟩ = pure [(p, v)]
  cell : ∀ x ∈ rs.names, x.2 ≠ .cell
  loc : rs.names.lookup p = some .local
  free : ∀ y, rs.names.lookup y = some .free → y = "text" ∨ y = "at"
  text : rs.names.lookup ("text" : Str) = some .free
  at_ : rs.names.lookup ("at" : Str) = some .free
  co : rs.isCoroutine = false
  gen : rs.isGenerator = false
  kind : rs.kind = .function
noncomputable def rdLoc (p : Str) (m : MV) (x : Str) (n : Nat) : Loc := fun y => if y = p then some m else if y = "text" then some (.str x) else if y = "at" then some (.ref n) else none
section
variable {C : Cx} {A : Around} {fm : Fm} {fa : List Addr} {loc : Loc} {σ : Hp} {g : Gh} {s : Shared} {Q Q' : MV → Hp → Prop} {QB : Bool → Hp → Prop} {QS : Fl → Loc → Hp → Prop}
theorem strm_fn {rp : Arguments} {rb : List Stmt} {rs : Scope} {p : Str} {m : MV} {x : Str} {n : Nat} {v : Value} {f ct cx b : Addr} {fd : FuncData} {o : Obj} {t : Tok} (R : RdIs C rp rb rs p) (hroom : A.depth < recursionLimit)
    (h : ∀ fd L f, C.rd fd → Exs C (A.deeper (callEnv fd L f)) ⟨callEnv fd L f, []⟩ rb (rdLoc p m x n) σ fun fl _ σ' => Q (retOf fl) σ')
    (r : GR C g σ s) (hv : VR C g s.heap m v) (hf : s.heap.get? f = some o) (hd : o.data = .func fd) (hr : C.rd fd) (h1 : fd.closure.lookup ("text" : Str) = some cx) (h2 : fd.closure.lookup ("at" : Str) = some ct)
    (h3 : ∀ y c, fd.closure.lookup y = some c → (y = "text" ∧ c = cx) ∨ (y = "at" ∧ c = ct)) (p1 : g.P ct) (c1 : s.heap.IsCell ct (some (.ref b))) (hn : g.ρ n = some b) (p2 : g.P cx) (c2 : s.heap.IsCell cx (some (.str x t))) (hcd : s.heap.CodeRec fd.code fd.qualname) (hne : ct ≠ cx) :
    codeAny (model C.prog C.w) A (.call (.ref f) ⟨[v], []⟩) (fun r' s' => ∃ v g' m σ', r' = .ok (.ret v) ∧ GR C g' σ' s' ∧ VR C g' s'.heap m v ∧ Gd C [] g s g' s' ∧ Q m σ') s := by
  refine via_p fun P kP => ?_
  obtain ⟨e1, e2, e3, e4, e5, e6, e7⟩ := R.rd fd hr
  refine kP ?_
  clear kP P
  subst e3
  refine codeAny_call_def hroom hf hd r.lim hcd e2 (.of_eq (R.bind fd v e1 e6 e7)) R.cell (fun y hy => by rw [List.mem_singleton.mp hy]; exact R.loc) (fun h₀ hns keep => ?_) R.co R.gen R.kind
  have hkd : ∀ y, (callEnv fd s.heap.objs.size f).kindOf y = fd.scope.names.lookup y := fun y => rfl
  have hs : s.heap.objs.size < h₀.objs.size := hns.lt
  have hg : Ge g g s.heap h₀ := ⟨fun _ _ e => e, fun _ e => e, fun a o _ e => keep a o e⟩
  have e8 : (fun y : Str => ([(p, v)] : List (Str × Value)).reverse.lookup y) = fun y => if y = p then some v else none := by
    funext y
    by_cases hy : y = p
    · subst hy; simp
    · have hy' : (y == p) = false := by simpa using hy
      simp [List.lookup_cons, hy, hy']
  rw [e8] at hns
  have hcc : ∀ y c, fd.closure.lookup y = some c → g.P c ∧ ∃ u, s.heap.IsCell c (some u) := fun y c e => by
    rcases h3 y c e with ⟨_, rfl⟩ | ⟨_, rfl⟩
    · exact ⟨p2, _, c2⟩
    · exact ⟨p1, _, c1⟩
  have r' : Rel C g σ ⟨callEnv fd s.heap.objs.size f, []⟩ [s.heap.objs.size] (rdLoc p m x n) { s with heap := h₀, toks := s.toks + 1 } := by
    refine ⟨r.ext keep (Nat.le_of_lt hs), R.kind, e4, e5, ⟨_, hns⟩, .head _, fun y w e => ?_, fun y c e => ?_, (fun y hy => (nomatch hy)), fun y z c e e' => ?_, fun a ha => ?_, fun y hy => ?_⟩
    · unfold rdLoc at e
      split at e
      · rename_i hy; cases e
        exact ⟨v, .inl ⟨by rw [hkd, hy]; exact R.loc, _, hns, by rw [if_pos hy]⟩, hv.mono hg⟩
      · split at e
        · rename_i hy; cases e
          exact ⟨_, .inr ⟨.inr (by rw [hkd, hy]; exact R.text), cx, by rw [hy]; exact h1, c2.keeps keep⟩, .str ..⟩
        · split at e
          · rename_i hy; cases e
            exact ⟨_, .inr ⟨.inr (by rw [hkd, hy]; exact R.at_), ct, by rw [hy]; exact h2, c1.keeps keep⟩, .ref hn⟩
          · cases e
    · refine via_p fun P kP => ?_
      obtain ⟨hp, u, hu⟩ := hcc y c e
      refine kP ?_
      clear kP P
      refine ⟨⟨_, hu.keeps keep⟩, fun q => ?_, (r.P c hp).1, fun k hk => (r.live k c hk).2.2 hp, fun _ hm => ?_⟩
      · have q' : c = s.heap.objs.size := q
        exact Nat.lt_irrefl _ (q' ▸ hu.lt)
      · exact Nat.lt_irrefl _ ((List.mem_singleton.mp hm) ▸ hu.lt)
    · rcases h3 y c e with ⟨a1, a2⟩ | ⟨a1, a2⟩ <;> rcases h3 z c e' with ⟨b1, b2⟩ | ⟨b1, b2⟩
      · rw [a1, b1]
      · exact absurd (b2.symm.trans a2) hne
      · exact absurd (a2.symm.trans b2) hne
      · rw [a1, b1]
    · rw [List.mem_singleton.mp ha]
      exact ⟨r.size, hs, fun hp => Nat.lt_irrefl _ (r.P _ hp).2, fun k hk => Nat.lt_irrefl _ (r.live k _ hk).2.1⟩
    · rcases hy with hy | hy
      · exact absurd rfl (R.cell _ (mem_of_lookup hy))
      · rcases R.free y hy with rfl | rfl
        · exact ⟨cx, h1⟩
        · exact ⟨ct, h2⟩
  refine wpAny_mono (h fd s.heap.objs.size f hr [s.heap.objs.size] g _ r') ?_ fun _ _ e => e.elim
  rintro fl s₂ hX2
  refine via_p fun P kP => ?_
  obtain ⟨g₂, fl', l₂, σ₂, r₂, hfl, d, q⟩ := hX2
  refine kP ?_
  clear kP P
  have d0 : Gd C [s.heap.objs.size] g s g { s with heap := h₀, toks := s.toks + 1 } := .ext keep (Nat.le_of_lt hs) rfl rfl rfl
  have d1 : Gd C [] g s g₂ s₂ := (d0.trans d).weak fun a ha => .inr (by rw [List.mem_singleton.mp ha]; exact Nat.le_refl _)
  cases hfl with
  | next => exact ⟨_, g₂, .none, σ₂, rfl, r₂.gr, .none, d1, q⟩
  | brk => exact ⟨_, g₂, .none, σ₂, rfl, r₂.gr, .none, d1, q⟩
  | cont => exact ⟨_, g₂, .none, σ₂, rfl, r₂.gr, .none, d1, q⟩
  | ret hv => exact ⟨_, g₂, _, σ₂, rfl, r₂.gr, hv, d1, q⟩
theorem ev_read {o e : Expr} {apos pos : Pos} {rp : Arguments} {rb : List Stmt} {rs : Scope} {p : Str} (R : RdIs C rp rb rs p) (hroom : A.depth < recursionLimit)
    (h : Ev C A fm o loc σ fun m σ₁ => ∃ x n, m = .strm x n ∧ Ev C A fm e loc σ₁ fun k σ₂ => ∀ fd L f, C.rd fd → Exs C (A.deeper (callEnv fd L f)) ⟨callEnv fd L f, []⟩ rb (rdLoc p k x n) σ₂ fun fl _ σ' => Q (retOf fl) σ')
    (hbase : attributeBase o ("read" : Str) fm.env (eval o fm.env) = eval o fm.env := by rfl) (hs : (starEach [e] fm.env).all (fun p => !p.1) = true := by rfl) (hline : (apos.endLine == pos.line) = true := by rfl) :
    Ev C A fm (.Call (.Attribute o "read" apos) [e] [] pos) loc σ Q := fun fa g s r => by
  have hpl := starEach_plain hs
  have hfew : methodCallForm ([e].length + ([] : List Keyword).length) (backTo pos (starEach [e] fm.env)) (backToKw pos (keywordEach [] fm.env)) = true := by
    rw [hpl]; rfl
  have hpos : methodCallPos true o fm.env apos pos = pure pos := by unfold methodCallPos; simp [hline]
  rw [arm_eval_Call, hbase]
  refine wpAny_bind (wpAny_mono (h fa g s r) ?_ fun _ _ e => e)
  rintro v s₁ hX2
  refine via_p fun P kP => ?_
  obtain ⟨g₁, m, σ₁, r₁, hv, d₁, x, n, rfl, h₁⟩ := hX2
  refine kP ?_
  clear kP P
  refine wpAny_bind (wpAny_standAt ?_)
  obtain ⟨a', rfl, hst⟩ := hv.inv
  refine via_p fun P kP => ?_
  obtain ⟨d, f, ct, cx, b, t, fl, fd, sl, mm, o', ⟨p1, o1⟩, ⟨p2, n2, m2⟩, ⟨p3, o3, o3', o3''⟩, hr, ⟨hc1, hc2, hc3⟩, ⟨p4, c4, hρ⟩, ⟨p5, c5⟩, ⟨c, hc, p6, h6⟩, hne⟩ := id hst
  refine kP ?_
  clear kP P
  unfold methodCall
  rw [hfew]
  refine wpAny_bind (wpAny_holding (fun_meth o1 n2 m2 rfl ?_))
  refine wpAny_bind (wpAny_of_eq hpos ?_)
  rw [hpl]
  have hE : EvL C A fm [e] loc σ₁ fun ks σ₂ => ∃ k, ks = [k] ∧ ∀ fd L f, C.rd fd → Exs C (A.deeper (callEnv fd L f)) ⟨callEnv fd L f, []⟩ rb (rdLoc p k x n) σ₂ fun fl _ σ' => Q (retOf fl) σ' :=
    EvT.mono h₁ fun k σ₂ q => ⟨k, rfl, q⟩
  refine Calls.callWith_function (o := o') (fd := fd) (wpAny_mono (hE.args (r₁.toks (s₁.toks + 1))) ?_ fun _ _ e => e)
  rintro hX0 s₂ hX2
  refine via_p fun P kP => ?_
  obtain ⟨ps, kw⟩ := hX0
  obtain ⟨rfl, g₂, ms, σ₂, r₂, hvs, d₂, k, rfl, q⟩ := hX2
  refine kP ?_
  clear kP P
  have ge := (r₁.toks (s₁.toks + 1)).ge d₂
  obtain ⟨u, rfl, hu⟩ := hvs.inv1
  refine ⟨⟨ge.keep _ _ p3 o3, o3''⟩, ?_⟩
  have cell : ∀ {c w}, g₁.P c → s₁.heap.IsCell c w → s₂.heap.IsCell c w := fun hp ⟨oo, h1, h2⟩ => ⟨oo, ge.keep _ _ hp h1, h2⟩
  have h6' : s₂.heap.CodeRec fd.code fd.qualname := by
    rw [hc]
    refine via_p fun P kP => ?_
    obtain ⟨c', oc, vs, tt, ec, hoc, rc⟩ := h6
    refine kP ?_
    clear kP P
    cases ec
    exact ⟨c, oc, vs, tt, rfl, ge.keep _ _ p6 hoc, rc⟩
  refine wpAny_call (codeAny_mono (strm_fn R hroom q r₂.gr hu (ge.keep _ _ p3 o3) o3'' hr hc1 hc2 hc3 (ge.P _ p4) (cell p4 c4) (ge.ρ _ _ hρ) (ge.P _ p5) (cell p5 c5) h6' hne) ?_)
  rintro x' s' hX2
  refine via_p fun P kP => ?_
  obtain ⟨w, g', mw, σ', rfl, r', hw, D, q'⟩ := hX2
  refine kP ?_
  clear kP P
  exact ⟨g', mw, σ', r₂.call r' D, hw, d₁.trans ((Gd.toks (fa := fa) (s₁.toks + 1)).trans (d₂.trans (D.weak fun a h => nomatch h))), q'⟩
end
end
section
open Builtin

theorem ci_lookup : typeLookup (.type "callable_iterator") "__next__" = pure (some (.builtin "callable_iterator.__next__")) := by rw [typeLookup_type, builtinLookup_eq_fast]; kernel_rfl
theorem slot_ci : Slot "callable_iterator" "__next__" "callable_iterator.__next__" :=
  Slot.of (T := "callable_iterator") (name := "__next__") (owner := "callable_iterator") (n := "__next__") ci_lookup (by decide +kernel) (by decide +kernel) (by decide +kernel)
    (.inl (by decide +kernel)) (by rw [isSubtype_type]; kernel_rfl)
theorem entry_ci : entryFor table "callable_iterator.__next__" = some Builtin.«callable_iterator.__next__» := entryFor_of_tree (by kernel_rfl)
theorem args_ci (a : Value) : argsOk "callable_iterator.__next__" ⟨[a], []⟩ := by unfold argsOk; kernel_rfl
theorem ci_iter : typeLookup (.type "callable_iterator") "__iter__" = pure (some (.builtin "callable_iterator.__iter__")) := by rw [typeLookup_type, builtinLookup_eq_fast]; kernel_rfl
section
variable {prog : Program} {w : World} {A : Around} {E : Value → Shared → Prop} {s : Shared}
theorem wpAny_callBorrowed {f : Value} {pos : List Value} {Q : Value → Shared → Prop}
    (hc : codeAny (model prog w) A (.call f ⟨pos, []⟩) (fun r s' => match r with | .ok (.ret v) => Q v s' | .ok _ => False | .error e => E e s') s) :
    wpAny (model prog w) A (callBorrowed f pos) Q E s := fun Γ p hΓ => by
  have h : Sem.wp (model prog w) Γ (PySem.call f pos []) _ _ p s := (wpAny_call (kw := []) hc) Γ p hΓ
  rw [Sem.wp_cmd_call] at h
  unfold callBorrowed
  rw [Sem.wp_call]
  refine cast ?_ h
  congr 1
  funext r s'
  rcases r with e | f
  · rfl
  · cases f <;> rfl
theorem borrows_meth {q f : Addr} {self : Value} {o : Obj} {fd : FuncData} {Q : Bool → Shared → Prop} (hq : s.heap.get? q = some (methodObj (.ref f) self)) (hf : s.heap.get? f = some o) (hd : o.data = .func fd) (h : Q true s) :
    wpAny (model prog w) A (borrowsExactly (.ref q)) Q E s := by
  unfold borrowsExactly
  refine wpAny_bind (wpAny_load hq ?_)
  dsimp only
  rw [if_pos (by decide +kernel)]
  show wpAny _ _ (load f >>= _) _ _ _
  refine wpAny_bind (wpAny_load hf ?_)
  rw [hd]
  exact wpAny_pure h
noncomputable abbrev ciObj (q s d : Value) : Obj := { cls := .type "callable_iterator", data := .fields #[q, s, d] }
theorem ci_upd {h : Heap} {a : Addr} {q x d y : Value} {i : Nat} (ho : h.get? a = some (ciObj q x d)) (q' x' d' : Value) (e : (#[q, x, d] : Array Value).setIfInBounds i y = #[q', x', d']) :
    (h.update a (Obj.mapFields (·.setIfInBounds i y))).get? a = some (ciObj q' x' d') := by
  have e1 : Obj.mapFields (·.setIfInBounds i y) (ciObj q x d) = ciObj q' x' d' := by simp only [Obj.mapFields, e]
  rw [Heap.get?_update_self _ ho (by rw [e1]; rfl), e1]
theorem ci_stop {α : Type} {Qn : α → Shared → Prop} {Q : Option Value → Shared → Prop} (hh : A.handled = none) (hQ : ∀ h', (∀ b o, s.heap.get? b = some o → h'.get? b = some o) → s.heap.objs.size ≤ h'.objs.size → Q none { s with heap := h' }) :
    wpAny (model prog w) A.in1 (Builtin.SmallTypes.stopIteration : Sem α) Qn
      (fun e s' => wpAny (model prog w) A (isInstance e (.type "StopIteration") >>= fun b => if b = true then pure none else throw e) Q E s') s := by
  show wpAny _ _ (newExc (.type "StopIteration") [] >>= _) _ _ _
  refine wpAny_bind ?_
  simp only [newExc, newTuple]
  refine wpAny_bind (wpAny_newObj_type ?_ (by size_fits))
  refine wpAny_bind (m := firstArgMember _ _) (wpAny_of_eq (a := Value.none) (by first | rfl | (simp only [firstArgMember]; rfl)) ?_)
  refine wpAny_newObj_type ?_ (by size_fits)
  unfold raiseNew
  refine wpAny_bind (wpAny_handled ?_)
  rw [show A.in1.handled = none from hh]
  refine wpAny_bind (wpAny_pure (wpAny_throw ?_))
  refine wpAny_bind (wpAny_isInstance (T := "StopIteration") (b := true) ⟨_, Heap.get?_push_size _ rfl, rfl⟩ isSubtype_stop ?_)
  exact wpAny_pure (hQ _ (fun b o e => Heap.get?_push_of_some _ (Heap.get?_push_of_some _ e)) (Nat.le_trans (size_push_le _ _) (size_push_le _ _)))
end
end
section
open Builtin

section
variable {C : Cx} {A : Around} {fm : Fm} {fa : List Addr} {loc : Loc} {σ : Hp} {g : Gh} {s : Shared} {Q Q' : MV → Hp → Prop} {QB : Bool → Hp → Prop} {QS : Fl → Loc → Hp → Prop}
inductive PostN (C : Cx) (fm : Fm) (fa : List Addr) (loc : Loc) (g : Gh) (s : Shared) (Q : Option Str → Hp → Prop) (r' : Option Value) (s' : Shared) : Prop
  | mk (g' : Gh) (σ' : Hp) (r : Rel C g' σ' fm fa loc s') (d : Gd C fa g s g' s') (q : (r' = none ∧ Q none σ') ∨ ∃ ch t, r' = some (.str ch t) ∧ Q (some ch) σ')
theorem next_dead {ℓ n : Nat} {f : Addr} {sent : Str} {it : Value} {Q : Option Str → Hp → Prop} (hh : A.handled = none) (hσ : σ ℓ = some (.citer false f n sent)) (q : Q none σ) (r : Rel C g σ fm fa loc s) (hv : VR C g s.heap (.ref ℓ) it) :
    wpAny (model C.prog C.w) A (pyNext it) (PostN C fm fa loc g s Q) NoE s := by
  obtain ⟨a, rfl, ha⟩ := hv.inv
  have ho : s.heap.get? a = some _ := (r.gr.obj ha hσ).inv
  have hT : s.TypeIs (.ref a) "callable_iterator" := ⟨_, ho, rfl⟩
  unfold pyNext
  refine wpAny_bind (wpAny_attempt (wpAny_callSpecial?_slot (name := Str.ofString "__next__") hT slot_ci (wpAny_call_entry slot_ci hT entry_ci ?_ (args_ci _))))
  unfold Builtin.«callable_iterator.__next__»
  refine wpAny_bind (wpAny_pure (wpAny_bind (wpAny_field ho rfl (x := .bool true) rfl ?_)))
  rw [if_pos (by decide +kernel)]
  refine wpAny_bind (wpAny_rule (wpAny_bind (ci_stop hh fun h' k hz => ?_)))
  exact ⟨g, σ, r.ext (s' := { s with heap := h' }) k hz, .ext k hz rfl rfl rfl, .inl ⟨rfl, q⟩⟩
theorem next_alive {ℓ n : Nat} {f : Addr} {sent : Str} {it : Value} {o : Obj} {fd : FuncData} {Q : Option Str → Hp → Prop} (hh : A.handled = none) (hf : C.K.lookup f = some o) (hd : o.data = .func fd) (hσ : σ ℓ = some (.citer true f n sent))
    (h : Fn C A.in1 (.ref f) [.ref n] σ fun m σ₁ => ∃ ch, m = .str ch ∧ σ₁ ℓ = some (.citer true f n sent) ∧ if ch = sent then Q none (σ₁.set ℓ (.citer false f n sent)) else Q (some ch) σ₁)
    (r : Rel C g σ fm fa loc s) (hv : VR C g s.heap (.ref ℓ) it) :
    wpAny (model C.prog C.w) A (pyNext it) (PostN C fm fa loc g s Q) NoE s := by
  refine via_p fun P kP => ?_
  obtain ⟨a, rfl, ha⟩ := hv.inv
  refine kP ?_
  clear kP P
  refine via_p fun P kP => ?_
  obtain ⟨q, t, ho, hq⟩ := (r.gr.obj ha hσ).inv
  refine kP ?_
  clear kP P
  refine via_p fun P kP => ?_
  obtain ⟨q', b', rfl, hP, hqo, hn⟩ := hq.inv
  refine kP ?_
  clear kP P
  have hT : s.TypeIs (.ref a) "callable_iterator" := ⟨_, ho, rfl⟩
  unfold pyNext
  refine wpAny_bind (wpAny_attempt (wpAny_callSpecial?_slot (name := Str.ofString "__next__") hT slot_ci (wpAny_call_entry slot_ci hT entry_ci ?_ (args_ci _))))
  unfold Builtin.«callable_iterator.__next__»
  refine wpAny_bind (wpAny_pure (wpAny_bind (wpAny_field ho rfl (x := .bool false) rfl ?_)))
  rw [if_neg (by decide +kernel)]
  refine wpAny_bind (wpAny_field ho rfl (x := .ref q') rfl (wpAny_bind (wpAny_attempt ?_)))
  unfold callOutOfASlot
  refine wpAny_bind (borrows_meth hqo (r.gr.KIn _ _ hf) hd ?_)
  rw [if_pos rfl]
  refine wpAny_callBorrowed (method_call hqo (codeAny_mono (h g s [.ref b'] r.gr (.cons (.ref hn) .nil)) ?_))
  rintro x s₁ hX2
  refine via_p fun P kP => ?_
  obtain ⟨v, g₁, m, σ₁, rfl, r₁, hm, d₁, ch, rfl, hσ₁, hQ⟩ := hX2
  refine kP ?_
  clear kP P
  obtain ⟨u, rfl⟩ := hm.inv
  have R₁ := r.call r₁ d₁
  have ha₁ := d₁.ρ ℓ a ha
  have D₁ : Gd C fa g s g₁ s₁ := d₁.weak fun a h => nomatch h
  refine via_p fun P kP => ?_
  obtain ⟨q₁, t₁, ho₁, hq₁⟩ := (r₁.obj ha₁ hσ₁).inv
  refine kP ?_
  clear kP P
  refine via_p fun P kP => ?_
  obtain ⟨q₁', b₁, rfl, hP₁, hqo₁, hn₁⟩ := hq₁.inv
  refine kP ?_
  clear kP P
  dsimp only
  refine wpAny_bind (wpAny_field ho₁ rfl (x := .bool false) rfl ?_)
  rw [if_neg (by decide +kernel)]
  refine wpAny_bind (wpAny_field ho₁ rfl (x := .str sent t₁) rfl (wpAny_bind (wpAny_holding (wpAny_eqBool_str ?_))))
  by_cases he : ch = sent
  · rw [if_pos he] at hQ
    rw [if_neg (by simp [he])]
    refine wpAny_bind (wpAny_rule (wpAny_bind ?_))
    show wpAny _ _ (field (.ref a) 0 >>= _) _ _ _
    refine wpAny_bind (wpAny_field ho₁ rfl (x := .ref q₁') rfl ?_)
    unfold slotLetsGo
    refine wpAny_bind (wpAny_bind (borrows_meth hqo₁ (r₁.KIn _ _ hf) hd ?_))
    rw [if_pos rfl]
    refine wpAny_pure ?_
    have u1 := ci_upd (i := 0) (y := .none) ho₁ .none (.str sent t₁) (.bool false) rfl
    have u2 := ci_upd (i := 1) (y := .none) u1 .none .none (.bool false) rfl
    have u3 := ci_upd (i := 2) (y := .bool true) u2 .none .none (.bool true) rfl
    refine wpAny_bind (wpAny_setField ho₁ rfl (by simp) (wpAny_bind (wpAny_setField u1 rfl (by simp) (wpAny_setField u2 rfl (by simp) ?_))))
    have sb := (Heap.SameBut.update s₁.heap a (Obj.mapFields (·.setIfInBounds 0 .none))).trans ((Heap.SameBut.update _ a (Obj.mapFields (·.setIfInBounds 1 .none))).trans (Heap.SameBut.update _ a (Obj.mapFields (·.setIfInBounds 2 (.bool true)))))
    have htb : ∀ b ∈ C.tabs, b < C.N0 := fun b hb => (r.gr.tabs b hb).1
    have R₂ := R₁.upd (s' := { s₁ with heap := ((s₁.heap.update a (Obj.mapFields (·.setIfInBounds 0 .none))).update a (Obj.mapFields (·.setIfInBounds 1 .none))).update a (Obj.mapFields (·.setIfInBounds 2 (.bool true))) }) ha₁ sb (OR.dead (f := f) (n := n) (sent := sent) u3)
    have D₂ := D₁.trans (Gd.upd (fa := fa) (s' := { s₁ with heap := ((s₁.heap.update a (Obj.mapFields (·.setIfInBounds 0 .none))).update a (Obj.mapFields (·.setIfInBounds 1 .none))).update a (Obj.mapFields (·.setIfInBounds 2 (.bool true))) }) ha₁ (r₁.live ℓ a ha₁).1 htb sb rfl rfl rfl)
    refine ci_stop hh fun h' k hz => ?_
    exact ⟨g₁, _, R₂.ext (s' := { s₁ with heap := h' }) k hz, D₂.trans (.ext k hz rfl rfl rfl), .inl ⟨rfl, hQ⟩⟩
  · rw [if_neg he] at hQ
    rw [if_pos (by simp [Ne.symm he])]
    refine wpAny_pure ⟨_, rfl, ?_⟩
    exact wpAny_pure ⟨g₁, σ₁, R₁, D₁, .inr ⟨ch, u, rfl, hQ⟩⟩
end
end
section
open Builtin

theorem slot_cii : Slot "callable_iterator" "__iter__" "callable_iterator.__iter__" :=
  Slot.of (T := "callable_iterator") (name := "__iter__") (owner := "callable_iterator") (n := "__iter__") ci_iter (by decide +kernel) (by decide +kernel) (by decide +kernel)
    (.inl (by decide +kernel)) (by rw [isSubtype_type]; kernel_rfl)
theorem entry_cii : entryFor table "callable_iterator.__iter__" = some Builtin.«dict_keyiterator.__iter__» := entryFor_alias (id' := "dict_keyiterator.__iter__") (by kernel_rfl) rfl (by decide +kernel) (by kernel_rfl)
theorem args_cii (a : Value) : argsOk "callable_iterator.__iter__" ⟨[a], []⟩ := by unfold argsOk; kernel_rfl
theorem entry_iter : entryFor table "iter" = some Builtin.«iter» := entryFor_of_tree (by kernel_rfl)
theorem kind_iter : builtinKind "iter" = none := by decide +kernel
theorem plain_iter : plainId "iter" = true := by decide +kernel
theorem args_iter2 (a b : Value) : argsOk "iter" ⟨[a, b], []⟩ := by unfold argsOk; kernel_rfl
theorem meth_call : typeLookup (.type "method") "__call__" = pure (some (.builtin "method.__call__")) := by rw [typeLookup_type, builtinLookup_eq_fast]; kernel_rfl
section
variable {C : Cx} {A : Around} {fm : Fm} {fa : List Addr} {loc : Loc} {σ : Hp} {g : Gh} {s : Shared} {Q Q' : MV → Hp → Prop} {QB : Bool → Hp → Prop} {QS : Fl → Loc → Hp → Prop}
theorem cal_iter2 {f : Addr} {n ℓ : Nat} {sent : Str} (hℓ : σ ℓ = none) (q : Q (.ref ℓ) (σ.set ℓ (.citer true f n sent))) : Cal C A fm (.builtin "iter") [.meth f n, .str sent] loc σ Q := by
  intro fa g s vs r hvs
  obtain ⟨x₁, x₂, rfl, hx, hy⟩ := hvs.inv2
  obtain ⟨t, rfl⟩ := hy.inv
  obtain ⟨a, b, rfl, hP, ho, hn⟩ := hx.inv
  have L0 : Looks (model C.prog C.w) s.heap (typeOf (.ref a)) (.type "method") := (Looks.ld ho).andThen .now
  refine Calls.call_function_entry kind_iter plain_iter entry_iter (args_iter2 _ _) ?_
  unfold Builtin.«iter» specialOf
  refine wpAny_bind (wpAny_pure (wpAny_bind (wpAny_bind (L0.here (wpAny_of_eq meth_call ?_)))))
  rw [if_neg (by decide)]
  refine wpAny_bind (wpAny_rule (wpAny_bind ?_))
  show wpAny _ _ (newObj (.type "callable_iterator") (.fields #[.ref a, .str sent t, .bool false])) _ _ _
  refine wpAny_newObj_type ?_ (by size_fits)
  refine wpAny_pure ⟨_, rfl, ?_⟩
  have hρ := r.gr.fresh hℓ
  have k : ∀ b o', s.heap.get? b = some o' → (s.heap.push (ciObj (.ref a) (.str sent t) (.bool false))).get? b = some o' := fun b o' e => Heap.get?_push_of_some _ e
  have hl : s.heap.objs.size < (s.heap.push (ciObj (.ref a) (.str sent t) (.bool false))).objs.size := by rw [Heap.size_push]; exact Nat.lt_succ_self _
  have e0 : Ge g (g.set ℓ s.heap.objs.size) s.heap s.heap := ge_set hρ
  refine ⟨_, .ref ℓ, _, r.new (s' := { s with heap := s.heap.push (ciObj (.ref a) (.str sent t) (.bool false)) }) hρ k (Nat.le_refl _) hl (.alive (Heap.get?_push_size _ rfl) (.meth hP (k _ _ ho) (e0.ρ _ _ hn))), .ref ?_, .new hρ k (Nat.le_refl _) hl rfl rfl rfl, q⟩
  show (if ℓ = ℓ then _ else _) = _
  rw [if_pos rfl]
noncomputable def Turn (C : Cx) (A : Around) (ℓ : Nat) (σ : Hp) (Q : Option Str → Hp → Prop) : Prop :=
  (∃ f n sent, σ ℓ = some (.citer false f n sent) ∧ Q none σ) ∨
  ∃ f n sent, σ ℓ = some (.citer true f n sent) ∧ (∃ o fd, C.K.lookup f = some o ∧ o.data = .func fd) ∧
    Fn C A.in1 (.ref f) [.ref n] σ fun m σ₁ => ∃ ch, m = .str ch ∧ σ₁ ℓ = some (.citer true f n sent) ∧ if ch = sent then Q none (σ₁.set ℓ (.citer false f n sent)) else Q (some ch) σ₁
theorem Turn.run {ℓ : Nat} {it : Value} {Q : Option Str → Hp → Prop} (hh : A.handled = none) (h : Turn C A ℓ σ Q) (r : Rel C g σ fm fa loc s) (hv : VR C g s.heap (.ref ℓ) it) : wpAny (model C.prog C.w) A (pyNext it) (PostN C fm fa loc g s Q) NoE s := by
  rcases h with ⟨f, n, sent, hσ, q⟩ | ⟨f, n, sent, hσ, ⟨o, fd, ho, hd⟩, q⟩
  · exact next_dead hh hσ q r hv
  · exact next_alive hh ho hd hσ q r hv
theorem ci_type {ℓ n : Nat} {a : Addr} {b : Bool} {f : Addr} {sent : Str} (r : GR C g σ s) (ha : g.ρ ℓ = some a) (hσ : σ ℓ = some (.citer b f n sent)) : s.TypeIs (.ref a) "callable_iterator" := by
  have ho := (r.obj ha hσ).inv
  cases b with
  | false => exact ⟨_, ho, rfl⟩
  | true => obtain ⟨_, _, ho, _⟩ := ho; exact ⟨_, ho, rfl⟩
inductive ForCI (C : Cx) (fm : Fm) (fa : List Addr) (g : Gh) (s : Shared) (ℓ : Nat) (a : Addr) (I : Nat → Loc → Hp → Prop) (k : Nat) (s' : Shared) : Prop
  | mk (g' : Gh) (l' : Loc) (σ' : Hp) (r : Rel C g' σ' fm fa l' s') (d : Gd C fa g s g' s') (ha : g'.ρ ℓ = some a) (hI : I k l' σ')
theorem ex_forC {x : Str} {p pos : Pos} {it : Expr} {body : List Stmt} {ℓ : Nat} (hh : A.handled = none) (I : Nat → Loc → Hp → Prop)
    (turn : ∀ k loc σ, I k loc σ → (∃ b f n sent, σ ℓ = some (.citer b f n sent)) ∧ Turn C A ℓ σ fun ch σ₁ => match ch with
      | none => QS .next loc σ₁
      | some ch => Exs C A fm body (loc.set x (.str ch)) σ₁ fun fl l σ₂ => match fl with
        | .next | .cont => ∃ m, m < k ∧ I m l σ₂
        | .brk => QS .next l σ₂
        | .ret v => QS (.ret v) l σ₂)
    (hx : canSt fm x) (k : Nat) (h : Ev C A fm it loc σ fun m σ₁ => m = .ref ℓ ∧ (∃ b f n sent, σ₁ ℓ = some (.citer b f n sent)) ∧ I k loc σ₁) (hs : ∀ x, foldedSetIterable it fm.env x = pure x := by intro _; rfl) :
    Ex C A fm (.For (.Name x p) it body [] pos) loc σ QS := fun fa g s r => by
  refine wpAny_For (wpAny_mono (h fa g s r) ?_ fun _ _ e => e) hs
  rintro v s₁ ⟨g₁, m, σ₁, r₁, hv, d₁, rfl, ⟨b, f, n, sent, hσ⟩, hI⟩
  obtain ⟨a, rfl, ha⟩ := hv.inv
  have hT := ci_type r₁.gr ha hσ
  refine wpAny_pyIter_slot hT slot_cii (wpAny_call_entry slot_cii hT entry_cii ?_ (args_cii _))
  show wpAny _ _ (ret (.ref a)) _ _ s₁
  refine wpAny_pure ⟨_, rfl, "callable_iterator", _, hT, slot_ci.lookup, ?_⟩
  refine codeAny_forLoop_any (ForCI C fm fa g s ℓ a I) (fun k s' hI => ?_) k ⟨g₁, loc, σ₁, r₁, d₁, ha, hI⟩
  obtain ⟨g', l', σ', r', d', ha', hI⟩ := hI
  refine wpAny_mono ((turn k l' σ' hI).2.run hh r' (.ref ha')) ?_ fun _ _ e => e.elim
  rintro res s₂ ⟨g₂, σ₂, r₂, d₂, hres⟩
  have dd := d'.trans d₂
  rcases hres with ⟨rfl, q⟩ | ⟨ch, t, rfl, q⟩
  · exact wpAny_execs_nil ⟨g₂, .next, l', σ₂, r₂, .next, dd, q⟩
  · refine wpAny_pure ?_
    refine wpAny_assign_Name (wpAny_mono (store_name r₂ (.str ch t) hx fun s₃ r₃ d₃ => ?_) (fun _ _ h => h) fun _ _ e => e.elim)
    refine wpAny_mono (q fa g₂ s₃ r₃) ?_ fun _ _ e => e.elim
    rintro fl s₄ ⟨g₄, fl', l₄, σ₄, r₄, hf, d₄, h₄⟩
    have d5 := dd.trans (d₃.trans d₄)
    have ha₄ := (d₂.trans (d₃.trans d₄)).ρ ℓ a ha'
    cases hf with
    | next => obtain ⟨m, hm, hi⟩ := h₄; exact ⟨m, hm, g₄, l₄, σ₄, r₄, d5, ha₄, hi⟩
    | cont => obtain ⟨m, hm, hi⟩ := h₄; exact ⟨m, hm, g₄, l₄, σ₄, r₄, d5, ha₄, hi⟩
    | brk => exact ⟨g₄, .next, l₄, σ₄, r₄, .next, d5, h₄⟩
    | ret hv => exact ⟨g₄, _, l₄, σ₄, r₄, .ret hv, d5, h₄⟩
end
end
section
noncomputable def CodeAt (K : Frag) (c P : Addr) : Prop := ∃ o vs file tf flags tg inF text tt, K.lookup c = some o ∧ o.cls = .type "code" ∧ o.data = .fields vs ∧ vs[11]? = some (.ref P) ∧ vs.getD 11 .none = .ref P ∧ vs.getD 18 .none = .str file tf ∧
    vs.getD 7 .none = .int flags tg ∧ vs.getD 9 .none = .bool inF ∧ vs.getD 10 .none = .int text tt
structure MkOk (K : Frag) (nm : Value) : Prop where
  bi : ∃ bm o, nsIn K mainGlobals "__builtins__" = some (some (.ref bm)) ∧ bm ≠ builtinsNs ∧ K.lookup bm = some o ∧ o.cls = .type "module" ∧ o.dict = some builtinsNs ∧ o.data = .plain
  nm : nsIn K mainGlobals "__name__" = some (some nm)
  ns : nsOkIn K mainGlobals = true
theorem codeAmong_app {pos : Pos} {a b : Nat} {c c' : Value} (l : List Value) (h : TriplesOk l) (hn : codeAmong pos (l ++ [rawInt a, rawInt b, c]) = some c') : codeAmong pos l = some c' ∨ (c' = c ∧ pos.line = a ∧ pos.col = b) := by
  fun_induction TriplesOk l with
  | case1 =>
    simp only [List.nil_append, codeAmong, rawInt] at hn
    split at hn
    · rename_i hc
      cases hn
      right
      simp only [Bool.and_eq_true, beq_iff_eq] at hc
      refine ⟨rfl, ?_, ?_⟩ <;> (first | lia | omega)
    · cases hn
  | case2 a' t b' u x rest ih =>
    simp only [List.cons_append, codeAmong] at hn ⊢
    split at hn
    · rename_i hc; rw [if_pos hc]; exact .inl hn
    · rename_i hc; rw [if_neg hc]; exact ih h hn
  | case3 l h1 h2 => exact h.elim
section
variable {C : Cx} {A : Around} {fm : Fm} {fa : List Addr} {loc : Loc} {σ : Hp} {g : Gh} {s : Shared}
theorem GR.grow {P c' : Addr} {a b : Nat} {ps : Array Value} {h' : Heap} {tk : Nat} (r : GR C g σ s) (hP : P ∈ C.tabs) (hps : s.heap.get? P = some (X.tableObj ps)) (hx : Heap.ExtBut P s.heap h') (hge : s.heap.objs.size ≤ c') (hlt : c' < h'.objs.size)
    (ht : h'.get? P = some (X.tableObj (ps ++ #[rawInt a, rawInt b, .ref c']))) (hrec : h'.CodeRec (.ref c') (C.tq P a b)) :
    GR C (g.pin c') σ { s with heap := h', toks := tk } ∧ Gd C [] g s (g.pin c') { s with heap := h', toks := tk } := by
  obtain ⟨hPN, vs, hvs, hok⟩ := r.tabs P hP
  rw [hps] at hvs
  have e1 : ps = vs := by injection hvs with e; injection e with _ _ e _; injection e
  subst e1
  have hs : s.heap.objs.size ≤ h'.objs.size := Nat.le_of_lt (Nat.lt_of_le_of_lt hge hlt)
  have hN : ∀ b, C.N0 ≤ b → b ≠ P := fun b h q => Nat.lt_irrefl _ (Nat.lt_of_lt_of_le hPN (q ▸ h))
  have e : Ge g (g.pin c') s.heap h' := ⟨fun _ _ e => e, fun _ e => .inr e, fun b o hp e => hx b o (hN b (r.P b hp).1) e⟩
  have hk : ∀ b o, b ∉ C.tabs → s.heap.get? b = some o → h'.get? b = some o := fun b o hb e => hx b o (fun q => hb (q ▸ hP)) e
  refine ⟨⟨r.lo, fun p hp => ⟨(r.K p hp).1, (r.K p hp).2.1, hk _ _ (r.K p hp).2.1 (r.K p hp).2.2⟩, ?_, Nat.le_trans r.size hs, fun n o h => ?_, r.inj, fun n b h => ?_, fun b h => ?_, fun q hb => ?_, r.dom⟩,
    ⟨fun b o h _ _ h3 => hk b o h3 h, fun b hb ps' h => ?_, hs, fun _ _ e => e, fun _ _ e => .inl e, fun _ e => .inr e, fun b h => h.elim (fun q => .inr (q ▸ hge)) .inl, rfl, rfl, id⟩⟩
  · refine r.lim.extBut hx ?_
    exact fun q => absurd (C.tlo P hP) (by rw [← q]; decide)
  · obtain ⟨b, hb, ho⟩ := r.heap n o h
    exact ⟨b, hb, ho.mono e fun ob q => hx _ _ (hN b (r.live n b hb).1) q⟩
  · obtain ⟨x, y, z⟩ := r.live n b h
    exact ⟨x, Nat.lt_of_lt_of_le y hs, fun q => q.elim (fun q => Nat.lt_irrefl _ (Nat.lt_of_lt_of_le y (q ▸ hge))) z⟩
  · rcases h with rfl | h
    · exact ⟨Nat.le_trans r.size hge, hlt⟩
    · exact ⟨(r.P b h).1, Nat.lt_of_lt_of_le (r.P b h).2 hs⟩
  · by_cases hbP : q = P
    · subst hbP
      refine ⟨hPN, _, ht, ?_, fun pos c₂ hc => ?_⟩
      · have := TriplesOk_snoc a b (.ref c') ps.toList hok.1
        simpa using this
      · have hc' : codeAmong pos (ps.toList ++ [rawInt a, rawInt b, .ref c']) = some c₂ := by simpa using hc
        rcases codeAmong_app _ hok.1 hc' with z | ⟨rfl, q1, q2⟩
        · exact (hok.mono e).2 pos c₂ z
        · exact ⟨c', rfl, .inl rfl, by rw [q1, q2]; exact hrec⟩
    · obtain ⟨x, vs, e', t⟩ := r.tabs q hb
      exact ⟨x, vs, hx _ _ hbP e', t.mono e⟩
  · by_cases hbP : b = P
    · subst hbP
      rw [hps] at h
      have e2 : ps = ps' := by injection h with e; injection e with _ _ e _; injection e
      subst e2
      exact ⟨_, ht⟩
    · exact ⟨#[], by rw [hx _ _ hbP h]; simp⟩
end
end
section
structure FdIs (fd : FuncData) (name qual : Str) (params : Arguments) (body : FuncBody) (scope : Scope) (cl : List (Str × Addr)) : Prop where
  name : fd.name = name
  qual : fd.qualname = qual
  params : fd.params = params
  body : fd.body = body
  scope : fd.scope = scope
  glob : fd.globals = mainGlobals
  clo : fd.closure = cl
  bi : fd.builtins = builtinsNs
  df : fd.defaults = .none
  kw : fd.kwdefaults = .none
noncomputable def noDoc : FuncBody → Prop
  | .stmts b => docOf b = none
  | .expr _ => True
section
variable {C : Cx} {A : Around} {σ : Hp} {g : Gh} {s : Shared}
theorem mk_code {name qual : Str} {params : Arguments} {body : FuncBody} {scope : Scope} {env : Env} {pos : Pos} {fl : Nat} {c P : Addr} {R : Value → Shared → Prop} (r : GR C g σ s) (hc : env.code = .ref c) (hca : CodeAt C.K c P) (hP : P ∈ C.tabs) (hq : C.tq P pos.line pos.col = qual)
    (h : ∀ g' s' c', GR C g' σ s' → Gd C [] g s g' s' → g'.P c' → s'.heap.CodeRec (.ref c') qual → R (.ref c') s') : wpAny (model C.prog C.w) A (functionCode env pos fl name qual params scope body) R NoE s := by
  obtain ⟨o, vs, file, tf, flags, tg, inF, text, tt, ho, hcls, hd, h11, h11', h18, h7, h9, h10⟩ := hca
  obtain ⟨hPN, ps, hps, htr, hok⟩ := r.tabs P hP
  have hne : c ≠ P := fun q => (r.K _ (mem_lookup ho)).2.1 (q ▸ hP)
  have ho' := r.KIn _ _ ho
  have hcode : s.heap.IsCode c P ps := ⟨o, vs, file, tf, flags, tg, inF, text, tt, _, ho', hd, h11', h18, h7, h9, h10, hps, rfl, htr, hne⟩
  cases hf : codeAmong pos ps.toList with
  | some c' =>
    obtain ⟨c'', rfl, hp, hrec⟩ := hok pos c' hf
    exact wpAny_functionCode_hit hc hcode hf (h g s c'' r (.refl ..) hp (hq ▸ hrec))
  | none =>
    refine wpAny_functionCodeX hc hcode ⟨⟨o, vs, ho', hcls, hd, h11⟩, hps⟩ hf fun c' h' tk hx hge hlt _ hrec htab _ => ?_
    obtain ⟨r', d'⟩ := r.grow (tk := tk) hP hps hx hge hlt htab.2 (hq ▸ hrec)
    exact h _ _ c' r' d' (.inl rfl) hrec
theorem mk_fn {name qual : Str} {params : Arguments} {body : FuncBody} {scope : Scope} {env : Env} {pos : Pos} {fl : Nat} {c P : Addr} {nm : Value} {R : Value → Shared → Prop} (r : GR C g σ s) (M : MkOk C.K nm) (hgl : env.globals = mainGlobals) (hc : env.code = .ref c) (hca : CodeAt C.K c P) (hP : P ∈ C.tabs)
    (hq : C.tq P pos.line pos.col = qual) (hdoc : noDoc body) (hfree : ∀ n, (n, NameKind.free) ∈ scope.names → ∃ c, env.cells.lookup n = some c)
    (h : ∀ g' s' a fd, GR C g' σ s' → Gd C [] g s g' s' → s.heap.objs.size ≤ a → a < s'.heap.objs.size → s'.heap.get? a = some ⟨.type "function", none, .func fd, #[]⟩ → FdIs fd name qual params body scope (clOf scope env) →
      (∃ c', fd.code = .ref c' ∧ g'.P c' ∧ s'.heap.CodeRec (.ref c') qual) → ¬ g'.P a → (∀ n, g'.ρ n ≠ some a) → R (.ref a) s') :
    wpAny (model C.prog C.w) A (makeFunction name qual params body scope env [] [] [] pos fl) R NoE s := by
  have hcl := closureFor_eq hfree
  simp only [makeFunction, List.zip_nil_right, List.filterMap_nil, List.isEmpty_nil, if_true, pure_bind, hcl]
  have main : ∀ (ct : Value) (s₁ : Shared), GR C g σ s₁ → Gd C [] g s g s₁ → wpAny (model C.prog C.w) A (do
      let fd : FuncData := { name, qualname := qual, params, body, scope, globals := env.globals, closure := clOf scope env, closureTuple := ct,
                             code := ← functionCode env pos fl name qual params scope body, builtins := ← builtinsFor env.globals env.builtins,
                             defaults := .none, kwdefaults := .none, annotations := none, pyModule := (← nsGet env.globals "__name__").getD .none,
                             doc := ← match body with
                               | .stmts b => (match docOf b with | some s => mkText s | none => pure .none)
                               | .expr _ => pure .none }
      newObj (.type "function") (.func fd)) R NoE s₁ := by
    intro ct s₁ r₁ d₁
    refine wpAny_bind (mk_code r₁ hc hca hP hq fun g₂ s₂ c' r₂ d₂ hp hrec => ?_)
    refine via_p fun P kP => ?_
    obtain ⟨bm, o, e1, e2, e3, e4, e5, e6⟩ := M.bi
    refine kP ?_
    clear kP P
    have hg : s₂.heap.Ns mainGlobals (s₂.heap.nsMap mainGlobals) := .of_isNs (isNs_of_in r₂.KIn M.ns)
    rw [hgl]
    refine wpAny_bind (wpAny_builtinsFor hg (mg_of r₂.KIn hg e1) e2 (r₂.KIn _ _ e3) e4 e5 e6 ?_)
    refine wpAny_bind (wpAny_nsGet hg ?_)
    have fin : ∀ fd : FuncData, FdIs fd name qual params body scope (clOf scope env) → fd.code = .ref c' → wpAny (model C.prog C.w) A (newObj (.type "function") (.func fd)) R NoE s₂ := by
      intro fd hfd hcd
      refine wpAny_newObj_type ?_ (by size_fits)
      obtain ⟨r₃, d₃⟩ := r₂.push (fa := []) { cls := .type "function", data := .func fd } s₂.toks
      have dd := d₁.trans (d₂.trans d₃)
      refine h g₂ _ s₂.heap.objs.size fd r₃ dd (Nat.le_trans d₁.size d₂.size) (by show _ < (s₂.heap.push _).objs.size; rw [Heap.size_push]; exact Nat.lt_succ_self _) (Heap.get?_push_size _ rfl) hfd ⟨c', hcd, hp, hrec.push _⟩
        (fun q => Nat.lt_irrefl _ (r₂.P _ q).2) fun n q => Nat.lt_irrefl _ (r₂.live n _ q).2.1
    cases body with
    | stmts b =>
      have hb : docOf b = none := hdoc
      simp only [hb]
      exact wpAny_bind (wpAny_pure (fin _ ⟨rfl, rfl, rfl, rfl, rfl, rfl, rfl, rfl, rfl, rfl⟩ rfl))
    | expr e => exact wpAny_bind (wpAny_pure (fin _ ⟨rfl, rfl, rfl, rfl, rfl, rfl, rfl, rfl, rfl, rfl⟩ rfl))
  cases he : (clOf scope env).isEmpty with
  | true => simp only [if_true, pure_bind]; exact main .none s r (.refl ..)
  | false =>
    simp only [Bool.false_eq_true, if_false]
    refine wpAny_bind (wpAny_newTextTuple ?_)
    obtain ⟨r₁, d₁⟩ := r.push (fa := []) { cls := .type "tuple", data := .seq (((clOf scope env).mergeSort fun a b => a.1.cps.toList ≤ b.1.cps.toList).map (Value.ref ·.2)).toArray } s.toks
    exact main _ _ r₁ d₁
end
end
section
open Builtin Builtin.ObjectAttr

theorem mro_function : mroOf (.type "function") = pure [.type "function", .type "object"] := by kernel_rfl
theorem refuse_function (self : Value) : refuseLoop self "__setattr__" [.type "function", .type "object"] = pure () := by kernel_rfl
theorem fun_set {prog : Program} {w : World} {A : Around} {E : Value → Shared → Prop} {R : Unit → Shared → Prop} {s : Shared} {f : Addr} {fd : FuncData} {u : Value} {sl : Array (Option Value)}
  (hf : s.heap.get? f = some ⟨.type "function", none, .func fd, sl⟩)
  (hq : ∀ h' tk m, h'.get? f = some ⟨.type "function", some s.heap.objs.size, .func fd, sl⟩ → h'.Ns1 s.heap.objs.size m → m "read" = some u → (∀ b o, b ≠ f → s.heap.get? b = some o → h'.get? b = some o) → h'.objs.size = s.heap.objs.size + 1 → R () { s with heap := h', toks := tk }) :
  wpAny (model prog w) A (setAttr (.ref f) "read" u) R E s := by
  have hT : ∀ t, Shared.TypeIs { s with toks := t } (.ref f) "function" := fun t => ⟨_, hf, rfl⟩
  have L0 : Looks (model prog w) s.heap (typeOf (.ref f)) (.type "function") := (Looks.ld hf).andThen .now
  unfold setAttr
  refine wpAny_bind (wpAny_mkText (wpAny_bind (wpAny_callSpecial?_slot (name := Str.ofString "__setattr__") (hT _) slot_fsa (wpAny_call_entry slot_fsa (hT _) PySem.F.store_object.entry ?_ (PySem.F.store_object.args _ _ _)))))
  rw [osa_eq, refuse_eq]
  refine wpAny_bind (wpAny_bind (L0 _ _ _ { s with toks := s.toks + 1 } (fun _ _ e => e) (wpAny_bind (wpAny_of_eq mro_function ?_))))
  rw [refuse_function]
  refine wpAny_pure (wpAny_bind (L0 _ _ _ { s with toks := s.toks + 1 } (fun _ _ e => e) (wpAny_bind (wpAny_of_eq fg_read (wpAny_bind (wpAny_pure ?_))))))
  dsimp only
  unfold storeInOwnDict
  refine wpAny_bind (wpAny_pure ?_)
  rw [if_neg (by decide +kernel)]
  refine wpAny_bind ?_
  show wpAny _ _ (instanceDict f true) _ _ _
  unfold instanceDict
  refine wpAny_bind (wpAny_loadPart (s := { s with toks := s.toks + 1 }) hf ?_)
  dsimp only
  rw [if_neg (by decide +kernel)]
  refine wpAny_bind (wpAny_alloc' ?_)
  have hfs : f ≠ s.heap.objs.size := Nat.ne_of_lt (Heap.lt_size hf)
  have hx₁ : (s.heap.push { cls := .type "dict", data := .dict #[] }).get? f = some ⟨.type "function", none, .func fd, sl⟩ := Heap.get?_push_of_some _ hf
  refine wpAny_bind (wpAny_update' hx₁ ?_)
  refine wpAny_pure ?_
  have hgd : ((s.heap.push { cls := .type "dict", data := .dict #[] }).update f fun o => { cls := o.cls, dict := some s.heap.objs.size, data := o.data, slots := o.slots }).get? s.heap.objs.size
      = some { cls := .type "dict", data := .dict #[] } := (Heap.get?_update_ne _ _ _ _ hfs.symm).trans (Heap.get?_push_at rfl rfl)
  have hnd : ((s.heap.push { cls := .type "dict", data := .dict #[] }).update f fun o => { cls := o.cls, dict := some s.heap.objs.size, data := o.data, slots := o.slots }).Ns s.heap.objs.size (fun _ => none) :=
    ⟨_, #[], _, hgd, rfl, fun e he => absurd he (by simp), fun _ => rfl⟩
  show wpAny _ _ (storeInDict s.heap.objs.size (.str "read" s.toks) "read" u) _ _ _
  unfold storeInDict newKeyGuard
  refine wpAny_bind (wpAny_pure (wpAny_bind (wpAny_nsSet1 (Heap.Ns1.of_empty hnd) fun h' hn' hs => ?_)))
  refine via_p fun P kP => ?_
  obtain ⟨oD, esD, epD, hoD, hdD, hcD⟩ := hn'.count (Within.cons "read" u Within.nil)
  refine kP ?_
  clear kP P
  refine wpAny_bind (wpAny_lookBehind hoD (by rw [hdD]; exact pastItsLine_dict (Nat.le_trans hcD (by rw [List.length_cons, List.length_nil, sizeLine_eq]; (first | lia | omega)))) ?_)
  refine wpAny_pure ⟨_, rfl, wpAny_pure (hq h' _ _ ?_ hn' (by simp) (fun b o hb e => ?_) ?_)⟩
  · refine (hs.2 f hfs).trans (Heap.get?_update_self _ hx₁ rfl)
  · exact (hs.2 b (Nat.ne_of_lt (Heap.lt_size e))).trans ((Heap.get?_update_ne _ _ _ _ hb).trans (Heap.get?_push_of_some _ e))
  · rw [hs.1]; show ((s.heap.push _).update f _).objs.size = _; rw [size_update, Heap.size_push]
end
section
section
variable {C : Cx} {A : Around} {σ : Hp} {g : Gh} {s : Shared} {Q : MV → Hp → Prop}
theorem fn_defR {f : Addr} {qual : Str} {params : Arguments} {body : List Stmt} {scope : Scope} {code : Value} {ps : List Str} {ms : List MV} (F : FnAt C.K f qual params body scope code)
    (hbind : ∀ (fd : FuncData) vs, fd.params = params → fd.defaults = .none → fd.kwdefaults = .none → vs.length = ps.length → bindArgs fd ⟨vs, []⟩ = pure (ps.zip vs)) (hlen : ms.length = ps.length)
    (hkind : ∀ p ∈ ps, scope.names.lookup p = some .local ∨ (p, NameKind.cell) ∈ scope.names ∧ scope.names.lookup p = some .cell) (hown : ∀ x ∈ ownOf scope, scope.names.lookup x = some .cell) (hnf : ∀ x ∈ scope.names, x.2 ≠ .free)
    (hroom : A.depth < recursionLimit) (hco : scope.isCoroutine = false) (hgen : scope.isGenerator = false) (hk : scope.kind = .function)
    (h : ∀ L fa g s g₀ s₀, Rel C g σ ⟨envC scope qual code f L, ownOf scope⟩ fa (locOf ps ms) s → Gd C fa g₀ s₀ g s → (∀ a ∈ fa, s₀.heap.objs.size ≤ a) →
      wpAny (model C.prog C.w) (A.deeper (envC scope qual code f L)) (execs body (envC scope qual code f L)) (fun fl s' => ∃ g' fl' σ', GR C g' σ' s' ∧ FlR C g' s'.heap fl' fl ∧ Gd C [] g₀ s₀ g' s' ∧ Q (retOf fl') σ') NoE s) : Fn C A (.ref f) ms σ Q := by
  intro g s vs r hvs
  refine via_p fun P kP => ?_
  obtain ⟨⟨o, fd, ho, hd, rfl, rfl, hb, rfl, hgl, hcl, rfl, hbi, hdf, hkw⟩, hcd⟩ := F
  refine kP ?_
  clear kP P
  have hL : callEnvC fd s.heap.objs.size f = envC fd.scope fd.qualname fd.code f s.heap.objs.size := by unfold callEnvC envC; rw [hgl, hbi]
  refine codeAny_call_cells hroom (r.KIn _ _ ho) hd r.lim (codeRec_of r.KIn hcd) hb (hbind fd vs rfl hdf hkw (by rw [← hvs.length]; exact hlen)) hcl (fun x hx => ?_) (fun s₁ x => ?_) hco hgen hk
  · have hm := (List.of_mem_zip (a := x.1) (b := x.2) hx).1
    rcases hkind x.1 hm with q | ⟨q, q'⟩
    · exact .inl q
    · exact .inr ⟨q', lookup_cellsFrom _ _ _ _ (.inl q)⟩
  rw [hL] at x ⊢
  generalize hE : envC fd.scope fd.qualname fd.code f s.heap.objs.size = env at x ⊢
  have hscope : env.scope = fd.scope := by rw [← hE]; rfl
  have hloc : env.locals = s.heap.objs.size := by rw [← hE]; rfl
  have hkd : ∀ y, env.kindOf y = fd.scope.names.lookup y := fun y => by unfold Env.kindOf; rw [hscope]
  refine via_p fun P kP => ?_
  obtain ⟨⟨⟨h', tk, rfl⟩, hns, keep, fresh⟩, hcell, hap, habove⟩ := x
  refine kP ?_
  clear kP P
  have hs : s.heap.objs.size < h'.objs.size := hloc ▸ hns.lt
  let fa : List Addr := env.locals :: (ownOf fd.scope).filterMap fun x => env.cells.lookup x
  have hfa : ∀ a ∈ fa, s.heap.objs.size ≤ a ∧ a < h'.objs.size := by
    intro a ha
    rcases List.mem_cons.mp ha with rfl | ha
    · rw [hloc]; exact ⟨Nat.le_refl _, hs⟩
    · obtain ⟨x, hx, hc⟩ := List.mem_filterMap.mp ha
      exact ⟨Nat.le_trans (Nat.le_of_eq hloc.symm) (Nat.le_of_lt (habove x a (mem_of_lookup hc))), (hcell x a hc).lt⟩
  have hin : ∀ y c, env.cells.lookup y = some c → y ∈ ownOf fd.scope := fun y c e => by
    have e' : ((cellsFrom (s.heap.objs.size + 1) fd.scope.names []).lookup y).isSome = true := by
      have : (cellsFrom (s.heap.objs.size + 1) fd.scope.names []).lookup y = some c := by rw [← hE] at e; exact e
      rw [this]; rfl
    rcases mem_cellsFrom _ _ _ _ e' with q | q
    · exact List.mem_map.mpr ⟨(y, .cell), List.mem_filter.mpr ⟨q, rfl⟩, rfl⟩
    · cases q
  have r' : Rel C g σ ⟨env, ownOf fd.scope⟩ fa (locOf ps ms) { s with heap := h', toks := tk } := by
    have q := r.ext (s' := { s with heap := h', toks := tk }) keep (Nat.le_of_lt hs)
    have hg : Ge g g s.heap h' := ⟨fun _ _ e => e, fun _ e => e, fun a o _ e => keep a o e⟩
    refine ⟨q, by rw [hscope]; exact hk, by rw [← hE]; rfl, by rw [← hE]; rfl, ⟨_, hns⟩, .head _, fun y v e => ?_, fun y c e => ?_, fun y hy => ?_, fun y z c e e' => ?_, fun a ha => ?_, fun y hy => ?_⟩
    · obtain ⟨u, hu, hv⟩ := bind_holds (kind := env.kindOf) (m := fun _ => none) (cm := fun _ => none) hvs (fun _ _ e => by cases e) (fun p hp => by
        rw [hkd]; rcases hkind p hp with q | ⟨_, q⟩
        · exact .inl q
        · exact .inr q) y v e
      refine ⟨u, ?_, hv.mono hg⟩
      rcases hu with ⟨k1, k2⟩ | ⟨k1, k2⟩
      · exact .inl ⟨k1, _, hns, k2⟩
      · have : ((cellsFrom (s.heap.objs.size + 1) fd.scope.names []).lookup y).isSome = true := lookup_cellsFrom _ _ _ _ (.inl (mem_of_lookup (by rw [← hkd]; exact k1)))
        obtain ⟨c, hc⟩ := Option.isSome_iff_exists.mp this
        have hc' : env.cells.lookup y = some c := by rw [← hE]; exact hc
        exact .inr ⟨.inl k1, c, hc', k2 ▸ hcell y c hc'⟩
    · have hm : c ∈ fa := .tail _ (List.mem_filterMap.mpr ⟨y, hin y c e, e⟩)
      obtain ⟨f1, f2⟩ := hfa c hm
      refine ⟨⟨_, hcell y c e⟩, Nat.ne_of_gt (habove y c (mem_of_lookup e)), Nat.le_trans r.size f1, fun n hn => Nat.lt_irrefl _ (Nat.lt_of_lt_of_le (r.live n c hn).2.1 f1), fun hno => ?_⟩
      exact absurd (hin y c e) hno
    · obtain ⟨p, hp, rfl⟩ := List.mem_map.mp hy
      obtain ⟨hp1, hp2⟩ := List.mem_filter.mp hp
      have hp3 : p.2 = NameKind.cell := by simpa using hp2
      have : ((cellsFrom (s.heap.objs.size + 1) fd.scope.names []).lookup p.1).isSome = true := lookup_cellsFrom _ _ _ _ (.inl (hp3 ▸ hp1))
      obtain ⟨c, hc⟩ := Option.isSome_iff_exists.mp this
      have hc' : env.cells.lookup p.1 = some c := by rw [← hE]; exact hc
      exact ⟨by rw [hkd]; exact hown _ hy, c, hc', .tail _ (List.mem_filterMap.mpr ⟨p.1, hy, hc'⟩)⟩
    · exact name_of_addr hap (mem_of_lookup e) (mem_of_lookup e')
    · obtain ⟨f1, f2⟩ := hfa a ha
      exact ⟨Nat.le_trans r.size f1, f2, fun hp => Nat.lt_irrefl _ (Nat.lt_of_lt_of_le (r.P a hp).2 f1), fun n hn => Nat.lt_irrefl _ (Nat.lt_of_lt_of_le (r.live n a hn).2.1 f1)⟩
    · rcases hy with hy | hy
      · have : ((cellsFrom (s.heap.objs.size + 1) fd.scope.names []).lookup y).isSome = true := lookup_cellsFrom _ _ _ _ (.inl (mem_of_lookup (by rw [← hkd]; exact hy)))
        obtain ⟨c, hc⟩ := Option.isSome_iff_exists.mp this
        exact ⟨c, by rw [← hE]; exact hc⟩
      · exact absurd rfl (hnf (y, .free) (mem_of_lookup (by rw [← hkd]; exact hy)))
  have d0 : Gd C fa g s g { s with heap := h', toks := tk } := .ext keep (Nat.le_of_lt hs) rfl rfl rfl
  have hx := h s.heap.objs.size
  rw [hE] at hx
  refine wpAny_mono (hx fa g _ g s r' d0 fun a ha => (hfa a ha).1) ?_ fun _ _ e => e.elim
  rintro fl s₂ hX2
  refine via_p fun P kP => ?_
  obtain ⟨g₂, fl', σ₂, r₂, hf, d1, q⟩ := hX2
  refine kP ?_
  clear kP P
  cases hf with
  | next => exact ⟨_, g₂, .none, σ₂, rfl, r₂, .none, d1, q⟩
  | brk => exact ⟨_, g₂, .none, σ₂, rfl, r₂, .none, d1, q⟩
  | cont => exact ⟨_, g₂, .none, σ₂, rfl, r₂, .none, d1, q⟩
  | ret hv => exact ⟨_, g₂, _, σ₂, rfl, r₂, hv, d1, q⟩
end
section
variable {C : Cx} {A : Around} {fm : Fm} {fa : List Addr} {loc : Loc} {σ : Hp} {g : Gh} {s : Shared}
noncomputable def Gh.pins (g : Gh) (cs : List Addr) : Gh := ⟨g.ρ, fun b => b ∈ cs ∨ g.P b⟩
theorem ge_pins (cs : List Addr) (h : Heap) : Ge g (g.pins cs) h h := ⟨fun _ _ e => e, fun _ e => .inr e, fun _ _ _ e => e⟩
theorem Rel.pins {cs : List Addr} (r : Rel C g σ fm fa loc s) (h : ∀ c ∈ cs, C.N0 ≤ c ∧ c < s.heap.objs.size ∧ ∀ n, g.ρ n ≠ some c) (hL : fm.env.locals ∉ cs) : Rel C (g.pins cs) σ ⟨fm.env, []⟩ [fm.env.locals] loc s := by
  have e := ge_pins (g := g) cs s.heap
  refine ⟨⟨r.gr.lo, r.gr.K, r.gr.lim, r.gr.size, fun n o h => ?_, r.gr.inj, fun n a hn => ?_, fun a ha => ?_, fun a ha => ?_, r.gr.dom⟩, ⟨r.fr.fn, r.fr.glob, r.fr.bi, r.fr.ns, .head _, fun x v hx => ?_, fun x c hx => ?_, (fun x hx => nomatch hx), r.fr.inj, fun a ha => ?_, r.fr.has⟩⟩
  · obtain ⟨a, ha, ho⟩ := r.gr.heap n o h; exact ⟨a, ha, ho.mono e fun _ e => e⟩
  · obtain ⟨x, y, z⟩ := r.gr.live n a hn; exact ⟨x, y, fun q => q.elim (fun q => (h a q).2.2 n hn) z⟩
  · rcases ha with ha | ha
    · exact ⟨(h a ha).1, (h a ha).2.1⟩
    · exact r.gr.P a ha
  · obtain ⟨x, vs, q, t⟩ := r.gr.tabs a ha; exact ⟨x, vs, q, t.mono e⟩
  · obtain ⟨u, hu, hv⟩ := r.fr.var x v hx; exact ⟨u, hu, hv.mono e⟩
  · obtain ⟨c0, c1, c2, c3, _⟩ := r.fr.cells x c hx; exact ⟨c0, c1, c2, c3, fun _ q => c1 (List.mem_singleton.mp q)⟩
  · rw [List.mem_singleton.mp ha]
    obtain ⟨x, y, z, w⟩ := r.fr.fa _ r.fr.L
    exact ⟨x, y, fun q => q.elim hL z, w⟩
theorem Gd.pins {fb : List Addr} {cs : List Addr} {g₀ : Gh} {s₀ : Shared} (d : Gd C fb g₀ s₀ g s) (h : ∀ c ∈ cs, s₀.heap.objs.size ≤ c) : Gd C fb g₀ s₀ (g.pins cs) s :=
  ⟨d.keep, d.tabs, d.size, d.ρ, d.ρn, fun a h => .inr (d.P a h), fun a q => q.elim (fun q => .inr (h a q)) (d.Pn a), d.os, d.drawn, d.gens⟩
end
end
section
section
variable {C : Cx} {A : Around} {fm : Fm} {fa : List Addr} {loc : Loc} {σ : Hp} {g : Gh} {s : Shared}
theorem Gd.obj {a : Addr} {o : Obj} {fb : List Addr} {g' : Gh} {s' : Shared} (d : Gd C fb g s g' s') (r : GR C g σ s) (e : s.heap.get? a = some o) (hN : C.N0 ≤ a) (hl : ∀ n, g.ρ n ≠ some a) (hb : a ∉ fb) : s'.heap.get? a = some o ∧ ∀ n, g'.ρ n ≠ some a :=
  ⟨d.keep a o e hl hb fun q => Nat.lt_irrefl _ (Nat.lt_of_lt_of_le (r.tabs a q).1 hN), fun n q => (d.ρn n a q).elim (hl n) fun w => Nat.lt_irrefl _ (Nat.lt_of_lt_of_le (Heap.lt_size e) w)⟩
theorem rd_make {c P : Addr} {nm : Value} {x rn : Str} {n : Nat} {rp la : Arguments} {rb : List Stmt} {rs ls : Scope} {pos1 pos2 pos3 p2 p3 p3' p4 lpos : Pos} {lb : Expr} {rest : List Stmt} {R : Flow → Shared → Prop} {g₀ : Gh} {s₀ : Shared}
    (M : MkOk C.K nm) (hc : fm.env.code = .ref c) (hca : CodeAt C.K c P) (hP : P ∈ C.tabs) (hexec : PlainDefTree rn rp rb rs pos1) (hq1 : C.tq P pos1.line pos1.col = qualnameIn fm.env rn rn) (hq2 : C.tq P lpos.line lpos.col = fm.env.qual ++ "<lambda>")
    (hdoc : docOf rb = none) (hdef : defaultsOf la fm.env = ([], [])) (hfr1 : ∀ y, (y, NameKind.free) ∈ rs.names → y = "text" ∨ y = "at") (hfr2 : ∀ y, (y, NameKind.free) ∉ ls.names)
    (hclo : ∀ ct cx, fm.env.cells.lookup ("text" : Str) = some cx → fm.env.cells.lookup ("at" : Str) = some ct → (clOf rs fm.env).lookup ("text" : Str) = some cx ∧ (clOf rs fm.env).lookup ("at" : Str) = some ct ∧ ∀ y c, (clOf rs fm.env).lookup y = some c → (y = "text" ∧ c = cx) ∨ (y = "at" ∧ c = ct))
    (hrd : ∀ fd, FdIs fd rn (qualnameIn fm.env rn rn) rp (.stmts rb) rs (clOf rs fm.env) → C.rd fd) (kt : ("text" : Str) ∈ fm.own) (ka : ("at" : Str) ∈ fm.own) (kr : fm.env.kindOf rn = some .local) (ks : fm.env.kindOf "stream" = some .local)
    (hrs : rn ≠ "stream") (hrt : rn ≠ "text") (hra : rn ≠ "at") (hdb : (rn == ("__debug__" : Str)) = false) (hcd : (rn == ("__classdict__" : Str)) = false) (ht : loc "text" = some (.str x)) (ha : loc "at" = some (.ref n)) (r : Rel C g σ fm fa loc s) (d : Gd C fa g₀ s₀ g s) (hfa : ∀ a ∈ fa, s₀.heap.objs.size ≤ a)
    (cont : ∀ g' s' v, Rel C g' σ ⟨fm.env, []⟩ [fm.env.locals] ((loc.set rn (.val v)).set "stream" (.strm x n)) s' → Gd C fa g₀ s₀ g' s' → wpAny (model C.prog C.w) A (execs rest fm.env) R NoE s')
    (hs2 : swapsWith (.Lambda la lb ls lpos) (some (.Name "stream" p2)) pos2.line fm.env = pure false := by rfl) (hs3 : swapsWith (.Name rn p4) (some (.Attribute (.Name "stream" p3) "read" p3')) pos3.line fm.env = pure false := by rfl) :
    wpAny (model C.prog C.w) A (execs (.FunctionDef rn rp rb [] none [] rs none rn pos1 :: .Assign [.Name "stream" p2] (.Lambda la lb ls lpos) pos2 :: .Assign [.Attribute (.Name "stream" p3) "read" p3'] (.Name rn p4) pos3 :: rest) fm.env) R NoE s := by
  have hcells : ∀ y, (y, NameKind.free) ∈ rs.names → ∃ c, fm.env.cells.lookup y = some c := fun y hy => by
    rcases hfr1 y hy with rfl | rfl
    · obtain ⟨_, c, h, _⟩ := r.fr.own _ kt; exact ⟨c, h⟩
    · obtain ⟨_, c, h, _⟩ := r.fr.own _ ka; exact ⟨c, h⟩
  have hout : ∀ {a}, s.heap.objs.size ≤ a → a ∉ fa := fun h q => Nat.lt_irrefl _ (Nat.lt_of_lt_of_le (r.fr.fa _ q).2.1 h)
  refine wpAny_execs_cons ?_
  rw [hexec]
  refine wpAny_bind (wpAny_standAt (wpAny_bind (wpAny_holding (mk_fn r.gr M r.fr.glob hc hca hP hq1 hdoc hcells fun g₁ s₁ af fd r₁ d₁ hge hlt hf hfd hcode hPf hlf => wpAny_bind (wpAny_standAt (wpAny_bind (wpAny_bindName ?_)))))))
  have R₁ := r.call r₁ d₁
  have hNf : C.N0 ≤ af := Nat.le_trans r.gr.size hge
  refine store_name R₁ (m := .val (.ref af)) (.val _) (.inl kr) fun s₂ R₂ d₂ => wpAny_pure ?_
  obtain ⟨hf₂, hlf₂⟩ := d₂.obj R₁.gr hf hNf hlf (hout hge)
  refine wpAny_execs_cons (wpAny_Assign_Name ?_ hs2)
  rw [arm_eval_Lambda, hdef]
  refine wpAny_bind (wpAny_pure (wpAny_bind (wpAny_holding (wpAny_pure ?_))))
  refine mk_fn R₂.gr M r.fr.glob hc hca hP hq2 trivial (fun y hy => absurd hy (hfr2 y)) fun g₃ s₃ al fl r₃ d₃ hgel hltl hl hfl hcodel hPl hll => ?_
  have R₃ := R₂.call r₃ d₃
  have hgel' : s.heap.objs.size ≤ al := Nat.le_trans (d₁.size) (Nat.le_trans d₂.size hgel)
  have hNl : C.N0 ≤ al := Nat.le_trans r.gr.size hgel'
  obtain ⟨hf₃, hlf₃⟩ := d₃.obj R₂.gr hf₂ hNf hlf₂ (fun q => nomatch q)
  refine store_name R₃ (m := .val (.ref al)) (.val _) (.inl ks) fun s₄ R₄ d₄ => ?_
  obtain ⟨hf₄, hlf₄⟩ := d₄.obj R₃.gr hf₃ hNf hlf₃ (hout hge)
  obtain ⟨hl₄, hll₄⟩ := d₄.obj R₃.gr hl hNl hll (hout hgel')
  have hne : af ≠ al := fun q => by
    have := Heap.lt_size hf₂
    exact Nat.lt_irrefl _ (Nat.lt_of_lt_of_le this (q ▸ hgel))
  obtain ⟨uf, huf, hvf⟩ := R₄.fr.var rn (.val (.ref af)) (by show (if rn = "stream" then _ else if rn = rn then _ else _) = _; rw [if_neg hrs, if_pos rfl])
  obtain rfl := hvf.inv
  obtain ⟨ul, hul, hvl⟩ := R₄.fr.var "stream" (.val (.ref al)) (by show (if ("stream" : Str) = "stream" then _ else _) = _; rw [if_pos rfl])
  obtain rfl := hvl.inv
  refine wpAny_execs_cons (plainObj_wpAny_Assign_Attribute ?_ hs3)
  refine wpAny_Name (huf.load r.fr.fn ?_ hcd) hdb
  refine wpAny_Name (hul.load r.fr.fn ?_) (by decide)
  refine fun_set hl₄ fun h' tk m hl₅ hns hm hk hsz => ?_
  have hdx : C.N0 ≤ s₄.heap.objs.size := R₄.gr.size
  have hFree : Free C g₃ [al] := fun b hb => by rw [List.mem_singleton.mp hb]; exact ⟨hNl, hll₄, hPl⟩
  obtain ⟨gr₅, d₅⟩ := R₄.gr.loop (tk := tk) hFree (h' := h') (fun b o hb e => hk b o (fun q => hb (by rw [q]; exact .head _)) e) (by rw [hsz]; exact Nat.le_succ _)
  have R₅ := R₄.step gr₅ d₅ (fun b hb => by
    rw [List.mem_singleton.mp hb]
    exact r.apart hgel') fun b hb => (hFree b hb).2.2
  have hf₅ := hk af _ hne hf₄
  obtain ⟨ut, hut, hvt⟩ := R₅.fr.var "text" (.str x) (by show (if ("text" : Str) = "stream" then _ else if ("text" : Str) = rn then _ else loc "text") = _; rw [if_neg (by decide), if_neg (Ne.symm hrt), ht])
  obtain ⟨t, rfl⟩ := hvt.inv
  obtain ⟨ua, hua, hva⟩ := R₅.fr.var "at" (.ref n) (by show (if ("at" : Str) = "stream" then _ else if ("at" : Str) = rn then _ else loc "at") = _; rw [if_neg (by decide), if_neg (Ne.symm hra), ha])
  obtain ⟨b, rfl, hρ⟩ := hva.inv
  obtain ⟨kt', ct0, hct0, hctf⟩ := R₅.fr.own _ kt
  obtain ⟨ka', ca0, hca0, hcaf⟩ := R₅.fr.own _ ka
  have hcx : ∃ cx, fm.env.cells.lookup ("text" : Str) = some cx ∧ h'.IsCell cx (some (.str x t)) := by
    rcases hut with ⟨q, _⟩ | ⟨_, c, h1, h2⟩
    · rw [kt'] at q; cases q
    · exact ⟨c, h1, h2⟩
  have hcta : ∃ ct, fm.env.cells.lookup ("at" : Str) = some ct ∧ h'.IsCell ct (some (.ref b)) := by
    rcases hua with ⟨q, _⟩ | ⟨_, c, h1, h2⟩
    · rw [ka'] at q; cases q
    · exact ⟨c, h1, h2⟩
  obtain ⟨cx, hcx1, hcx2⟩ := hcx
  obtain ⟨ct, hct1, hct2⟩ := hcta
  rw [hct0] at hcx1; cases hcx1
  rw [hca0] at hct1; cases hct1
  have hctx : ca0 ≠ ct0 := fun q => absurd (R₅.fr.inj "at" "text" ca0 hca0 (q ▸ hct0)) (by decide)
  obtain ⟨c', hcode1, hcode2, hcode3⟩ := hcode
  have hrec : h'.CodeRec (.ref c') fd.qualname := by
    rw [hfd.qual]
    obtain ⟨c2, o2, vs2, t2, e2, h2, r2⟩ := hcode3
    cases e2
    have hPc : g₃.P c' := d₃.P _ hcode2
    have q1 := (R₁.ge d₂).keep _ _ hcode2 h2
    have q2 := (R₂.gr.ge d₃).keep _ _ hcode2 q1
    have q3 := (R₃.ge d₄).keep _ _ hPc q2
    exact ⟨c', o2, vs2, t2, rfl, hk _ _ (fun q => hPl (q ▸ hPc)) q3, r2⟩
  have hD₄ : Gd C fa g s g₃ s₄ := (d₁.weak (fa := fa) fun a h => nomatch h).trans (d₂.trans ((d₃.weak (fa := fa) fun a h => nomatch h).trans d₄))
  have hD : Gd C fa g s g₃ { s₄ with heap := h', toks := tk } := ((hD₄.weak (fa := al :: fa) fun a h => .inl (.tail _ h)).trans (d₅.weak (fa := al :: fa) fun a h => .inl (by rw [List.mem_singleton.mp h]; exact .head _))).weak fun a h => by
    rcases List.mem_cons.mp h with rfl | h
    · exact .inr hgel'
    · exact .inl h
  obtain ⟨k1, k2, k3⟩ := hclo ca0 ct0 hct0 hca0
  have hL := R₅.fr.L
  have hLlt := (r.fr.fa _ r.fr.L).2.1
  have hcs : ∀ c ∈ [af, al, s₄.heap.objs.size, ca0, ct0], C.N0 ≤ c ∧ c < h'.objs.size ∧ (∀ n, g₃.ρ n ≠ some c) ∧ c ≠ fm.env.locals ∧ s₀.heap.objs.size ≤ c := by
    intro c hc
    simp only [List.mem_cons, List.not_mem_nil, or_false] at hc
    have hgs := d.size
    rcases hc with rfl | rfl | rfl | rfl | rfl
    · exact ⟨hNf, Heap.lt_size hf₅, hlf₄, fun q => Nat.lt_irrefl _ (Nat.lt_of_lt_of_le hLlt (q ▸ hge)), Nat.le_trans hgs hge⟩
    · exact ⟨hNl, Heap.lt_size hl₅, hll₄, fun q => Nat.lt_irrefl _ (Nat.lt_of_lt_of_le hLlt (q ▸ hgel')), Nat.le_trans hgs hgel'⟩
    · exact ⟨hdx, by rw [hsz]; exact Nat.lt_succ_self _, fun m q => Nat.lt_irrefl _ (R₄.gr.live m _ q).2.1, fun q => Nat.lt_irrefl _ (Nat.lt_of_lt_of_le hLlt (q ▸ hD₄.size)), Nat.le_trans hgs hD₄.size⟩
    · exact ⟨(R₅.fr.fa _ hcaf).1, (R₅.fr.fa _ hcaf).2.1, (R₅.fr.fa _ hcaf).2.2.2, (R₅.fr.cells _ _ hca0).2.1, hfa _ hcaf⟩
    · exact ⟨(R₅.fr.fa _ hctf).1, (R₅.fr.fa _ hctf).2.1, (R₅.fr.fa _ hctf).2.2.2, (R₅.fr.cells _ _ hct0).2.1, hfa _ hctf⟩
  have R₆ := R₅.pins (cs := [af, al, s₄.heap.objs.size, ca0, ct0]) (fun c hc => ⟨(hcs c hc).1, (hcs c hc).2.1, (hcs c hc).2.2.1⟩) (fun q => (hcs _ q).2.2.2.1 rfl)
  have hst : Strm C (g₃.pins [af, al, s₄.heap.objs.size, ca0, ct0]) h' x n al :=
    ⟨s₄.heap.objs.size, af, ca0, ct0, b, t, fl, fd, _, m, _, ⟨.inl (by simp), hl₅⟩, ⟨.inl (by simp), hns.ns, hm⟩, ⟨.inl (by simp), hf₅, rfl, rfl⟩, hrd fd hfd, by rw [hfd.clo]; exact ⟨k1, k2, k3⟩, ⟨.inl (by simp), hct2, hρ⟩, ⟨.inl (by simp), hcx2⟩, ⟨c', hcode1, .inr (d₃.P _ hcode2), hrec⟩, hctx⟩
  obtain ⟨us, hus, hvs⟩ := R₆.fr.var "stream" (.val (.ref al)) (by show (if ("stream" : Str) = "stream" then _ else _) = _; rw [if_pos rfl])
  obtain rfl := hvs.inv
  refine cont _ _ (.ref af) ⟨R₆.gr, { R₆.fr with var := fun y v hy => ?_ }⟩ ((d.trans hD).pins fun c hc => (hcs c hc).2.2.2.2)
  have hy' : (if y = "stream" then some (MV.strm x n) else (loc.set rn (.val (.ref af))) y) = some v := hy
  by_cases e : y = "stream"
  · rw [if_pos e] at hy'; cases hy'
    exact ⟨.ref al, e ▸ hus, .strm hst⟩
  · rw [if_neg e] at hy'
    exact R₆.fr.var y v (by show (if y = "stream" then _ else _) = _; rw [if_neg e]; exact hy')
end
end
section
section
variable {C : Cx} {A : Around} {fm : Fm} {fa : List Addr} {loc : Loc} {σ : Hp} {g : Gh} {s : Shared} {Q Q' : MV → Hp → Prop} {QB : Bool → Hp → Prop} {QS : Fl → Loc → Hp → Prop}
theorem Post.kept {m : MV} {v : Value} {h' : Heap} {tk : Nat} (r : Rel C g σ fm fa loc s) (k : ∀ b o, s.heap.get? b = some o → h'.get? b = some o) (hs : s.heap.objs.size ≤ h'.objs.size) (hv : VR C g h' m v) (q : Q m σ) : Post C fm fa loc g s Q v { s with heap := h', toks := tk } :=
  ⟨g, m, σ, r.ext (s' := { s with heap := h', toks := tk }) k hs, hv, .ext k hs rfl rfl rfl, q⟩
theorem two_tuple_iter {prog : Program} {w : World} {E : Value → Shared → Prop} {R : Value → Shared → Prop} {a b : Value} (h : ∀ s₂ : Shared, s₂ = { s with heap := (s.heap.push { cls := .type "tuple", data := .seq #[a, b] }).push { cls := .type "tuple_iterator", data := .fields #[.ref s.heap.objs.size, .int 0 0] } } →
      (s₂.heap.IsTupleIter (s.heap.objs.size + 1) s.heap.objs.size 0 ∧ s₂.heap.IsTuple s.heap.objs.size #[a, b]) → (∀ b ∈ [s.heap.objs.size + 1, s.heap.objs.size], b < s₂.heap.objs.size) → R (.ref (s.heap.objs.size + 1)) s₂) :
    wpAny (model prog w) A (pyIter (.ref s.heap.objs.size)) R E { s with heap := s.heap.push { cls := .type "tuple", data := .seq #[a, b] } } := by
  have ht : (s.heap.push { cls := .type "tuple", data := .seq #[a, b] }).IsTuple s.heap.objs.size #[a, b] := ⟨_, Heap.get?_push_size _ rfl, rfl, _, rfl⟩
  refine wpAny_pyIter_tuple (s := { s with heap := s.heap.push { cls := .type "tuple", data := .seq #[a, b] } }) ht ?_
  have e : (s.heap.push { cls := .type "tuple", data := .seq #[a, b] }).objs.size = s.heap.objs.size + 1 := Heap.size_push ..
  have hit : ((s.heap.push { cls := .type "tuple", data := .seq #[a, b] }).push { cls := .type "tuple_iterator", data := .fields #[.ref s.heap.objs.size, .int 0 0] }).IsTupleIter (s.heap.objs.size + 1) s.heap.objs.size 0 := by
    rw [← e]; exact ⟨_, Heap.get?_push_size _ rfl, rfl, rfl⟩
  have hq := h _ rfl ⟨hit, ht.push _⟩ fun c hc => by
    show c < ((s.heap.push _).push _).objs.size
    rw [Heap.size_push, Heap.size_push]
    simp only [List.mem_cons, List.not_mem_nil, or_false] at hc
    rcases hc with rfl | rfl <;> (first | lia | omega)
  rw [show ({ s with heap := s.heap.push { cls := .type "tuple", data := .seq #[a, b] } } : Shared).heap.objs.size = s.heap.objs.size + 1 from e]
  exact hq
theorem two_at {i j : Int} {t u : Tok} {k : Nat} {v : Value} (hv : (#[Value.int i t, Value.int j u] : Array Value)[k]? = some v) : ∃ t', v = .int (if k = 0 then i else j) t' := by
  cases k with
  | zero => exact ⟨t, (Option.some.inj hv).symm⟩
  | succ k => cases k with
    | zero => exact ⟨u, (Option.some.inj hv).symm⟩
    | succ k => exact nomatch hv
theorem cal_min2 {i j : Int} (hh : A.handled = none) (q : Q (.int (min i j)) σ) : Cal C A fm (.builtin "min") [.int i, .int j] loc σ Q := by
  intro fa g s vs r hvs
  obtain ⟨x, y, rfl, hx, hy⟩ := hvs.inv2
  obtain ⟨t, rfl⟩ := hx.inv
  obtain ⟨u, rfl⟩ := hy.inv
  refine withSize (call_min_two (two_tuple_iter fun s₂ e st hfp => ?_))
  subst e
  refine ⟨_, _, _, _, _, _, _, rfl, Walks.tuple (A := A.in1) hh (s.heap.objs.size + 1) s.heap.objs.size (Nat.ne_of_lt (Nat.lt_succ_self _)) #[.int i t, .int j u], st, hfp, by simp, CmpOf.ints_lt (fun k => if k = 0 then i else j) (fun k v hv => ?_), fun v h' tk hP hk hs => ?_⟩
  · exact two_at hv
  · have hv : ∃ t', v = .int (min i j) t' := by
      replace hP : (#[Value.int i t, Value.int j u] : Array Value)[if decide (j < i) = true then 1 else 0]? = some v := hP
      by_cases hc : j < i
      · simp [hc] at hP; exact ⟨u, by rw [← hP, Int.min_eq_right (by (first | lia | omega))]⟩
      · simp [hc] at hP; exact ⟨t, by rw [← hP, Int.min_eq_left (by (first | lia | omega))]⟩
    obtain ⟨t', rfl⟩ := hv
    refine .kept (tk := tk) r (fun b o e => hk b o (fun hm => ?_) (Heap.get?_push_of_some _ (Heap.get?_push_of_some _ e))) hs (.int ..) q
    have hb : b = s.heap.objs.size + 1 := List.mem_singleton.mp hm
    exact absurd (hb ▸ Heap.lt_size e) (Nat.not_lt.mpr (Nat.le_succ _))
theorem VRs.intsV {h : Heap} {ns : List Int} : ∀ {r : List Value}, VRs C g h (ns.map .int) r → ∀ (i : Nat) (v : Value), r[i]? = some v → ∃ t, v = Value.int (ns.getD i 0) t := by
  induction ns with
  | nil => intro r hl i v e; rw [show r = [] from hl.inv] at e; exact nomatch e
  | cons x ns ih =>
    intro r hl i v e
    obtain ⟨w, r', rfl, h1, h2⟩ := VRs.tail (l := ns.map .int) hl
    cases i with
    | zero => exact Option.some.inj e ▸ h1.inv
    | succ i =>
      simp at e
      obtain ⟨t, ht⟩ := ih h2 i v e
      exact ⟨t, by simpa using ht⟩
theorem preSum_eq (ns : List Int) : ∀ k, k ≤ ns.length → preSum (fun i => ns.getD i 0) k = (ns.take k).sum
  | 0, _ => by simp [preSum]
  | k + 1, h => by
    have e : ns.take (k + 1) = ns.take k ++ [ns[k]'(by (first | lia | omega))] := by rw [List.take_add_one]; simp [List.getElem?_eq_getElem (show k < ns.length by (first | lia | omega))]
    rw [preSum, preSum_eq ns k (by (first | lia | omega)), e, List.sum_append, List.sum_cons, List.sum_nil, Int.add_zero]
    congr 1
    simp [List.getElem?_eq_getElem (show k < ns.length by (first | lia | omega))]
theorem cal_sum {m : MV} {ns : List Int} (hh : A.handled = none) (hm : lstOf σ m = some (ns.map .int)) (hb : ∀ k, k ≤ ns.length → InLong (ns.take k).sum) (hb' : ∀ x ∈ ns, InLong x) (q : Q (.int ns.sum) σ) : Cal C A fm (.builtin "sum") [m] loc σ Q := by
  intro fa g s vs r hvs
  obtain ⟨x, rfl, hx⟩ := hvs.inv1
  obtain ⟨a, xs, rfl, ho, hl⟩ := r.gr.lst hm hx
  have hlen : xs.length = ns.length := by have := hl.length; simpa using this.symm
  have hlt : a < s.heap.objs.size := by obtain ⟨o, ho, _⟩ := ho; exact Heap.lt_size ho
  refine withSize (call_sum_walk (wpAny_pyIter_list ho ?_))
  refine ⟨_, _, _, _, _, _, fun i => ns.getD i 0, rfl, Walks.list (A := A.in1) hh s.heap.objs.size a (Nat.ne_of_lt hlt) ⟨xs⟩, ⟨⟨_, Heap.get?_push_size _ rfl, rfl, rfl⟩, ho.push _⟩, fun b hb => ?_, fun i v hv => hl.intsV i v (by simpa using hv), fun j hj => ?_, fun h' tk t' hk hs => ?_⟩
  · show b < (s.heap.push _).objs.size
    rw [Heap.size_push]
    simp only [List.mem_cons, List.not_mem_nil, or_false] at hb
    rcases hb with rfl | rfl
    · exact Nat.lt_succ_self _
    · exact Nat.lt_succ_of_lt hlt
  · have hj' : j < ns.length := by rw [← hlen]; exact hj
    refine ⟨?_, by rw [preSum_eq ns _ (by (first | lia | omega))]; exact hb _ (by (first | lia | omega))⟩
    show InLong (ns.getD j 0)
    rw [List.getD_eq_getElem?_getD, List.getElem?_eq_getElem hj']
    exact hb' _ (List.getElem_mem ..)
  · have e : (Array.mk xs).size = ns.length := hlen
    rw [e, preSum_eq ns _ (Nat.le_refl _), List.take_length]
    refine .kept (tk := tk) r (fun b o e => hk b o (fun hm => ?_) (Heap.get?_push_of_some _ e)) hs (.int ..) q
    exact Nat.lt_irrefl _ ((List.mem_singleton.mp hm) ▸ Heap.lt_size e)
end
end
section
section
variable {C : Cx} {A : Around} {fm : Fm} {fa : List Addr} {loc : Loc} {σ : Hp} {g : Gh} {s : Shared} {Q Q' : MV → Hp → Prop} {QB : Bool → Hp → Prop} {QS : Fl → Loc → Hp → Prop}
theorem cal_get2 {d dflt : MV} {l : List (Str × MV)} {k : Str} (hd : dctOf σ d = some l) (q : Q ((valAt l k).getD dflt) σ) : Cal C A fm (.builtin "dict.get") [d, .str k, dflt] loc σ Q := by
  intro fa g s vs r hvs
  refine via_p fun P kP => ?_
  obtain ⟨x, y, z, rfl, hx, hy, hz⟩ := hvs.inv3
  refine kP ?_
  clear kP P
  obtain ⟨t, rfl⟩ := hy.inv
  refine via_p fun P kP => ?_
  obtain ⟨a, kvs, rfl, ho, hl, hN⟩ := r.gr.dct hd hx
  refine kP ?_
  clear kP P
  have hs : (a == sysModules) = false := by
    have h16 := Nat.le_trans r.gr.lo hN
    have : ¬ a = sysModules := fun q => absurd (q ▸ h16) (by decide)
    simpa using this
  refine call_meetsIn F.slot_dict_get ho.typeIs F.entry_dict_get (F.args_dict_get_3 _ _ _) (meets_dict_get_default (strKind C.prog C.w) a (strKind_is C.prog C.w k t) hs _) ⟨_, ho.mapOf, ?_⟩
  cases e : valAt l k with
  | none =>
    rw [hl.no e]
    rw [e] at q
    exact .tok r hz q
  | some m =>
    refine via_p fun P kP => ?_
    obtain ⟨v, hv, hm⟩ := hl.at e
    refine kP ?_
    clear kP P
    rw [hv]
    rw [e] at q
    exact .tok r hm q
theorem vrs_range {h : Heap} {f : Nat → MV} {P : Nat → Value → Prop} (hP : ∀ i v, P i v → VR C g h (f i) v) {n k : Nat} {xs : List Value} (hl : xs.length = n) (hx : ∀ j v, xs[j]? = some v → P (k + j) v) : VRs C g h ((List.range' k n).map f) xs := by
  induction n generalizing k xs with
  | zero => rw [List.eq_nil_of_length_eq_zero hl]; exact .nil
  | succ n ih =>
    obtain ⟨v, xs, rfl, hl'⟩ := len_s hl
    rw [List.range'_succ, List.map_cons]
    refine .cons (hP k v (hx 0 v rfl)) (ih hl' fun j w hw => ?_)
    rw [Nat.add_right_comm]
    exact hx (j + 1) w hw
theorem cal_listR {a b c : Int} {n ℓ : Nat} (hh : A.handled = none) (hs : Builtin.Range.small a b c = true) (hn : Builtin.Range.rangeSize a b c = n) (hlen : n ≤ 2 ^ 20) (hℓ : σ ℓ = none)
    (q : Q (.ref ℓ) (σ.set ℓ (.list ((List.range n).map fun i : Nat => .int (a + i * c))))) : Cal C A fm (.type "list") [.rng a b c] loc σ Q := by
  intro fa g s vs r hvs
  obtain ⟨x, rfl, hx⟩ := hvs.inv1
  refine via_p fun P kP => ?_
  obtain ⟨_, _, _, _, rfl, hp, hr⟩ := hx.inv
  refine kP ?_
  clear kP P
  refine withSize (call_list_range hh hr hs hn (Nat.le_trans hlen (by decide)) fun h' tk acc' c' hk hS' hacc hz => ?_)
  have hρ := r.gr.fresh hℓ
  have hl : s.heap.objs.size < h'.objs.size := Heap.lt_size hS'
  have e0 : Ge g (g.set ℓ s.heap.objs.size) s.heap s.heap := ge_set hρ
  refine ⟨_, .ref ℓ, _, r.new (s' := { s with heap := h', toks := tk }) hρ hk (Nat.le_refl _) hl (.list ⟨c', hS'⟩ ?_), .ref ?_, .new hρ hk (Nat.le_refl _) hl rfl rfl rfl, q⟩
  · rw [List.range_eq_range']
    refine vrs_range (P := fun i v => ∃ t, v = .int (a + i * c) t) (fun i v ⟨t, e⟩ => by rw [e]; exact .int ..) (by simpa using hacc.1) fun j v hv => ?_
    rw [Nat.zero_add]
    exact hacc.2 j v (by simpa using hv)
  · show (if ℓ = ℓ then _ else _) = _
    rw [if_pos rfl]
theorem tru_str {x : Str} (hs : x.length ≤ 1000000) (q : QB (x.length != 0) σ) : Tru C A fm (.str x) loc σ QB := by
  intro fa g s v r hv
  obtain ⟨_, rfl⟩ := hv.inv
  refine P.truthy_str (by (first | lia | omega)) ⟨g, σ, r.toks _, .toks _, ?_⟩
  have e : ((x.length : Int) != 0) = (x.length != 0) := by
    rw [Bool.eq_iff_iff]; simp
  rw [e]; exact q
theorem tru_lst {m : MV} {l : List MV} (hm : lstOf σ m = some l) (hs : l.length ≤ 1000000) (q : QB (!l.isEmpty) σ) : Tru C A fm m loc σ QB := by
  intro fa g s x r hx
  obtain ⟨a, xs, rfl, ho, hl⟩ := r.gr.lst hm hx
  have hlen := hl.length
  refine wpAny_truthy_list ho (by show ((xs.length : Nat) : Int) < _; (first | lia | omega)) ?_
  have e : (Array.mk xs).isEmpty = l.isEmpty := by
    show (decide (xs.length = 0)) = _
    rw [← hlen]; cases l <;> simp
  rw [e]; exact ⟨g, σ, r.toks _, .toks _, q⟩
end
end
section
theorem slot_dii : Slot "dict_itemiterator" "__iter__" "dict_itemiterator.__iter__" :=
  Slot.of (T := "dict_itemiterator") (name := "__iter__") (owner := "dict_itemiterator") (n := "__iter__") (by rw [typeLookup_type, builtinLookup_eq_fast]; kernel_rfl) (by decide +kernel) (by decide +kernel) (by decide +kernel)
    (.inl (by decide +kernel)) (by rw [isSubtype_type]; kernel_rfl)
theorem entry_dii : entryFor table "dict_itemiterator.__iter__" = some Builtin.«dict_keyiterator.__iter__» := entryFor_alias (id' := "dict_keyiterator.__iter__") (by kernel_rfl) rfl (by decide +kernel) (by kernel_rfl)
theorem args_dii (a : Value) : argsOk "dict_itemiterator.__iter__" ⟨[a], []⟩ := by unfold argsOk; kernel_rfl
theorem walksT_items {prog : Program} {w : World} {A : Around} {K : Type} [DecidableEq K] {knd : KeyKind prog w K} (hh : A.handled = none) (I d : Addr) (hne : d ≠ I) (kvs : List (K × Value)) (ep : Nat) :
    WalksT prog w A I [I, d] [I] kvs.length (fun i vals => ∃ key k x, kvs[i]? = some (k, x) ∧ knd.is k key = true ∧ vals = #[key, x])
      (fun i h => (∃ ok ov, IsItemIter h I d i kvs.length ep ok ov) ∧ h.DictAt knd d kvs ep)
      (fun i T h => (∃ ok ov, IsItemIterOut h I d (i + 1) kvs.length ep ok ov T) ∧ h.DictAt knd d kvs ep ∧ T ≠ I) where
  sub := fun b hb => by simp at hb; simp [hb]
  frame := fun i h h' st hk => by
    obtain ⟨⟨ok, ov, he⟩, hm⟩ := st
    exact ⟨⟨ok, ov, hk I (by simp) _ he⟩, hm.at' fun o e => hk d (by simp) o e⟩
  item := fun i s Q E hi st hQ => by
    obtain ⟨⟨ok, ov, he⟩, hm⟩ := st
    obtain ⟨⟨k, x⟩, hx⟩ : ∃ p, kvs[i]? = some p := ⟨kvs[i], by simp [hi]⟩
    refine wpAny_pyNext_items_item he hm hx fun key h' hkey ho hT hsz hk => ?_
    exact hQ s.heap.objs.size #[key, x] h' s.toks ⟨key, k, x, hx, hkey, rfl⟩ (Nat.le_refl _) ⟨_, hT, rfl, _, rfl⟩ ⟨⟨_, _, ho⟩, hm.at' (fun o e => hk d o hne e), Nat.ne_of_gt (Heap.lt_size he)⟩ fun b o hb e => hk b o (fun h => hb (by simp [h])) e
  go := fun elts k pos i T s Q E hm hQ => by
    obtain ⟨⟨ok, ov, ho⟩, hd, hTI⟩ := hm
    refine wpAny_letOwnedTupleGo_items ho fun h' he hs => ?_
    exact hQ h' ⟨⟨ok, ov, he⟩, hd.extBut hs.extBut hne⟩ fun b o hb e => hs.extBut b o (fun h => hb (by simp [h])) e
  apart := fun i T h hm hb => hm.2.2 (List.mem_singleton.mp hb)
  done := fun s Q E st hQ => by
    obtain ⟨⟨ok, ov, he⟩, hm⟩ := st
    exact wpAny_pyNext_items_end hh he hm (by simp) fun h' hx => hQ h' s.toks fun b o hb e => hx b o (fun h => hb (by simp [h])) e
  self := fun i s Q E st hq => by
    obtain ⟨⟨ok, ov, he⟩, hm⟩ := st
    have hT : s.TypeIs (.ref I) "dict_itemiterator" := ⟨_, he, rfl⟩
    refine wpAny_pyIter_slot hT slot_dii (wpAny_call_entry slot_dii hT entry_dii ?_ (args_dii _))
    show wpAny _ _ (ret (.ref I)) _ _ s
    exact wpAny_pure ⟨_, rfl, "dict_itemiterator", _, hT, F.slot_dict_itemiterator_next.lookup, hq⟩
section
variable {C : Cx} {A : Around} {fm : Fm} {fa : List Addr} {loc : Loc} {σ : Hp} {g : Gh} {s : Shared} {Q Q' : MV → Hp → Prop} {QB : Bool → Hp → Prop} {QS : Fl → Loc → Hp → Prop}
theorem VRd.getI {h : Heap} {l : List (Str × MV)} {kvs : List (Str × Value)} (z : VRd C g h l kvs) {i : Nat} {k : Str} {v : Value} (e : kvs[i]? = some (k, v)) : ∃ m, l[i]? = some (k, m) ∧ VR C g h m v := by
  induction l generalizing kvs i with
  | nil => rw [z.inv] at e; exact nomatch e
  | cons p l ih =>
    refine via_p fun P kP => ?_
    obtain ⟨w, r, rfl, a, b⟩ := z.inv
    refine kP ?_
    clear kP P
    cases i with
    | zero =>
      obtain ⟨rfl, rfl⟩ := Prod.mk.inj (Option.some.inj e)
      exact ⟨p.2, rfl, a⟩
    | succ i => exact ih b e
theorem walk_items {o : Expr} {elts : List Expr} {k : Nat} {tp apos pos : Pos} {l : List (Str × MV)} {Q : Hp → Prop} (hh : A.handled = none)
    (h : Ev C A fm o loc σ fun m σ₁ => m = .dct l ∧ Q σ₁)
    (hbase : attributeBase o ("items" : Str) fm.env (eval o fm.env) = eval o fm.env := by rfl) (hline : (apos.endLine == pos.line) = true := by rfl) :
    WalkE C A fm (.Tuple elts k tp) (.Call (.Attribute o "items" apos) [] [] pos) loc σ l.length (fun i => .tup [.str (l.getD i ("", .none)).1, (l.getD i ("", .none)).2]) (fun _ => True) Q := fun fa g s r => by
  refine Call_method0 hbase hline (wpAny_mono (h fa g s r) ?_ fun _ _ e => e)
  rintro v s₁ ⟨g₁, m, σ₁, r₁, hv, d₁, rfl, q⟩
  obtain ⟨a, kvs, rfl, hp, ho, hl⟩ := hv.inv
  have hN := (r₁.gr.P a hp).1
  have hs : (a == sysModules) = false := by
    have h16 := Nat.le_trans r₁.gr.lo hN
    have : ¬ a = sysModules := fun q => absurd (q ▸ h16) (by decide)
    simpa using this
  have hd0 : ∃ ob, s₁.heap.get? a = some ob ∧ ob.dict = none := by obtain ⟨o, es, ep, ho, he, _⟩ := id ho; exact ⟨o, ho, he.2.1⟩
  refine ⟨"dict", "dict.items", F.plainAttrs_dict, F.slot_dict_items, F.type_dict_items, ho.typeIs, fun b e => by cases e; exact hd0, ?_⟩
  refine method_meetsIn F.slot_dict_items F.entry_dict_items rfl (PySem.evalArgs_none ⟨rfl, ho.typeIs, F.args_dict_items_1 _, _, meets_dict_items (strKind C.prog C.w) a hs, ⟨kvs, ho⟩, ?_⟩)
  obtain ⟨ep, hat⟩ := ho.dictAt
  obtain ⟨gr₂, d₂⟩ := r₁.gr.push (fa := []) { cls := .type "dict_items", data := .fields #[.ref a] } s₁.toks
  have hview : (s₁.heap.push { cls := .type "dict_items", data := .fields #[.ref a] }).IsItemsView s₁.heap.objs.size a := ⟨_, Heap.get?_push_size _ rfl, rfl, rfl⟩
  refine wpAny_pyIter_items (s := { s₁ with heap := s₁.heap.push { cls := .type "dict_items", data := .fields #[.ref a] } }) hview (hat.push _) ?_
  obtain ⟨gr₃, d₃⟩ := gr₂.push (fa := []) { cls := .type "dict_itemiterator", data := .fields #[.none, .bool false, .ref a, .int 0 0, .int kvs.length 0, .int ep 0, .none, .none] } s₁.toks
  have dd := d₂.trans d₃
  have hlen : kvs.length = l.length := by have := congrArg List.length hl.keys; simpa using this.symm
  have hge : s₁.heap.objs.size ≤ (s₁.heap.push { cls := .type "dict_items", data := .fields #[.ref a] }).objs.size := size_push_le _ _
  have hne : a ≠ (s₁.heap.push { cls := .type "dict_items", data := .fields #[.ref a] }).objs.size := Nat.ne_of_lt (Nat.lt_of_lt_of_le (r₁.gr.P a hp).2 hge)
  have W := walksT_items (knd := strKind C.prog C.w) (A := A) hh (s₁.heap.push { cls := .type "dict_items", data := .fields #[.ref a] }).objs.size a hne kvs ep
  rw [hlen] at W
  refine ⟨g₁, σ₁, [(s₁.heap.push { cls := .type "dict_items", data := .fields #[.ref a] }).objs.size], _, iter_ofT (g₀ := g₁) (h₀ := s₁.heap) (item := fun i => [.str (l.getD i ("", .none)).1, (l.getD i ("", .none)).2]) W (fun b hb => ?_) (fun i vals g h e hP => ?_) (fun i h hst b hb => ?_), r₁.call gr₃ dd, d₁.trans (dd.weak fun a h => nomatch h), free_new gr₂, fun b hb => ?_, ⟨r₁.gr.ge dd, ?_⟩, trivial, q⟩
  · simp only [List.mem_cons, List.not_mem_nil, or_false] at hb
    rcases hb with rfl | rfl
    · exact .inl (.head _)
    · exact .inr hp
  · obtain ⟨key, kk, x, hx, hkey, rfl⟩ := hP
    obtain ⟨m, hm, hv⟩ := hl.getI hx
    have e1 : l.getD i ("", .none) = (kk, m) := by rw [List.getD_eq_getElem?_getD, hm]; rfl
    rw [e1]
    have hkey' : ∃ t, key = .str kk t := by
      cases key <;> simp [PySem.strKind, Value.isStrOf] at hkey
      exact ⟨_, by rw [hkey]⟩
    obtain ⟨t, rfl⟩ := hkey'
    exact .cons (.str ..) (.cons (hv.mono e) .nil)
  · rw [List.mem_singleton.mp hb]
    obtain ⟨⟨ok, ov, he⟩, _⟩ := hst
    exact ⟨_, he⟩
  · rw [List.mem_singleton.mp hb]
    exact ⟨Nat.le_trans d₁.size hge, r₁.apart hge⟩
  · refine ⟨⟨.none, .none, ?_⟩, (hat.push _).push _⟩
    rw [← hlen]
    exact Heap.get?_push_size _ rfl
end
end
section
section
variable {C : Cx} {A : Around} {fm : Fm} {fa : List Addr} {loc : Loc} {σ : Hp} {g : Gh} {s : Shared} {Q Q' : MV → Hp → Prop} {QB : Bool → Hp → Prop} {QS : Fl → Loc → Hp → Prop}
noncomputable abbrev emptyD : Obj := { cls := .type "dict", data := .dict #[] }
theorem ev_dct0 {pos : Pos} (q : Q (.dct []) σ) : Ev C A fm (.Dict [] [] pos) loc σ Q := fun fa g s r =>
  wpAny_Dict_empty (.pinned r rfl (.dct (.inl rfl) (Heap.DictOf.new _) .nil) q)
theorem dict1 {k v : Expr} {pos : Pos} {R : Value → Shared → Prop} (r : Rel C g σ fm fa loc s) (h : Ev C A fm k loc σ fun mk σ₁ => ∃ key, mk = .str key ∧ Ev C A fm v loc σ₁ fun mv σ₂ => Q (.dct [(key, mv)]) σ₂)
    (fin : ∀ g' σ' s' key mv u, Rel C g' σ' fm fa loc s' → Gd C (s.heap.objs.size :: fa) g s g' s' → s'.heap.DictOf (strKind C.prog C.w) s.heap.objs.size [(key, u)] → VR C g' s'.heap mv u → (∀ n, g'.ρ n ≠ some s.heap.objs.size) → ¬ g'.P s.heap.objs.size → s.heap.objs.size < s'.heap.objs.size → Q (.dct [(key, mv)]) σ' → R (.ref s.heap.objs.size) s') :
    wpAny (model C.prog C.w) A (eval (.Dict [some k] [v] pos) fm.env) R NoE s := by
  have kp : ∀ b o, s.heap.get? b = some o → (s.heap.push emptyD).get? b = some o := fun b o e => Heap.get?_push_of_some _ e
  have hz : s.heap.objs.size ≤ (s.heap.push emptyD).objs.size := size_push_le _ _
  have r₀ := r.ext (s' := { s with heap := s.heap.push emptyD }) kp hz
  have d₀ : Gd C fa g s g { s with heap := s.heap.push emptyD } := .ext kp hz rfl rfl rfl
  have hD : (s.heap.push emptyD).get? s.heap.objs.size = some emptyD := Heap.get?_push_size _ rfl
  have hNd := r.gr.size
  have hl0 : ∀ n, g.ρ n ≠ some s.heap.objs.size := fun n q => Nat.lt_irrefl _ (r.gr.live n _ q).2.1
  have hf0 : s.heap.objs.size ∉ fa := fun q => Nat.lt_irrefl _ (r.fr.fa _ q).2.1
  refine wpAny_Dict_walk (knd := strKind C.prog C.w) rfl rfl (by simp) (by simp) (pairTrees_cons_walk (wpAny_mono (h fa g _ r₀) ?_ fun _ _ e => e))
  rintro kv s₁ hX2
  refine via_p fun P kP => ?_
  obtain ⟨g₁, mk, σ₁, r₁, hk, d₁, key, rfl, h₁⟩ := hX2
  refine kP ?_
  clear kP P
  obtain ⟨t, rfl⟩ := hk.inv
  obtain ⟨hD₁, hl₁⟩ := d₁.obj r₀.gr hD hNd hl0 hf0
  refine wpAny_mono (h₁ fa g₁ s₁ r₁) ?_ fun _ _ e => e
  rintro vv s₂ hX2
  refine via_p fun P kP => ?_
  obtain ⟨g₂, mv, σ₂, r₂, hv, d₂, q⟩ := hX2
  refine kP ?_
  clear kP P
  obtain ⟨hD₂, hl₂⟩ := d₂.obj r₁.gr hD₁ hNd hl₁ hf0
  refine pairTrees_nil_walk ⟨[(key, vv)], ⟨strKind_is C.prog C.w key t, rfl, trivial⟩, ⟨_, #[], 0, hD₂, ⟨rfl, rfl, rfl⟩, rfl, fun e he => absurd he (by simp), .nil, by simp⟩, fun h' hm hs => ?_⟩
  have hP : ∀ g' : Gh, (∀ a, g'.P a → g.P a ∨ (s.heap.push emptyD).objs.size ≤ a) → ¬ g'.P s.heap.objs.size := fun g' hh q => by
    rcases hh _ q with q | q
    · exact Nat.lt_irrefl _ (r.gr.P _ q).2
    · rw [Heap.size_push] at q; exact Nat.not_succ_le_self _ q
  have hP₂ := hP g₂ fun a q => (d₁.trans d₂).Pn a q
  have hF : Free C g₂ [s.heap.objs.size] := fun b hb => by rw [List.mem_singleton.mp hb]; exact ⟨hNd, hl₂, hP₂⟩
  obtain ⟨gr₃, d₃⟩ := r₂.gr.loop (tk := s₂.toks + 1) hF (h' := h') (fun b o hb e => hs.extBut b o (fun q => hb (by rw [q]; exact .head _)) e) (Nat.le_of_eq hs.1.symm)
  have r₃ := r₂.step gr₃ d₃ (fun b hb => by rw [List.mem_singleton.mp hb]; exact r.apart (Nat.le_refl _)) fun b hb => (hF b hb).2.2
  have e3 : Ge g₂ g₂ s₂.heap h' := ⟨fun _ _ e => e, fun _ e => e, fun b o hp e => hs.extBut b o (fun q => hP₂ (q ▸ hp)) e⟩
  refine fin g₂ σ₂ _ key mv vv r₃ ((((d₀.trans (d₁.trans d₂)).weak (fa := s.heap.objs.size :: fa) fun a h => .inl (.tail _ h)).trans (d₃.weak fun a h => .inl (by rw [List.mem_singleton.mp h]; exact .head _)))) ?_ (hv.mono e3) hl₂ hP₂ (by show _ < h'.objs.size; rw [hs.1]; exact Heap.lt_size hD₂) q
  simpa [merged, PySem.stored] using hm
theorem ev_dct1 {k v : Expr} {pos : Pos} (h : Ev C A fm k loc σ fun mk σ₁ => ∃ key, mk = .str key ∧ Ev C A fm v loc σ₁ fun mv σ₂ => Q (.dct [(key, mv)]) σ₂) : Ev C A fm (.Dict [some k] [v] pos) loc σ Q := fun fa g s r => by
  refine dict1 r h fun g' σ' s' key mv u r' d hm hv hl hP hlt q => ?_
  have dw : Gd C fa g s g' s' := d.weak fun a h => by
    rcases List.mem_cons.mp h with rfl | h
    · exact .inr (Nat.le_refl _)
    · exact .inl h
  have ap := r.apart (Nat.le_refl s.heap.objs.size)
  exact ⟨g'.pin s.heap.objs.size, _, σ', ⟨r'.gr.pin r.gr.size hlt hl, r'.fr.pin ap.1 ap.2⟩, .dct (.inl rfl) hm (.cons (hv.mono (ge_pin0 _ _)) .nil), dw.pin0 (Nat.le_refl _), q⟩
end
end
section
section
variable {C : Cx} {A : Around} {fm : Fm} {fa : List Addr} {loc : Loc} {σ : Hp} {g : Gh} {s : Shared} {Q Q' : MV → Hp → Prop} {QB : Bool → Hp → Prop} {QS : Fl → Loc → Hp → Prop}
theorem ev_or {x y : Expr} {pos : Pos} (h : Ev C A fm x loc σ fun m σ₁ => Tru C A fm m loc σ₁ fun b σ₂ => if b then Q m σ₂ else Ev C A fm y loc σ₂ Q) : Ev C A fm (.BoolOp .Or [x, y] pos) loc σ Q := fun fa g s r => by
  rw [arm_eval_BoolOp]
  show wpAny _ A (eval x fm.env >>= _) _ _ _
  refine wpAny_bind (wpAny_mono (h fa g s r) ?_ fun _ _ e => e)
  rintro v s₁ ⟨g₁, m, σ₁, r₁, hv, d₁, h₁⟩
  refine wpAny_bind (wpAny_standAt (wpAny_bind (wpAny_holding (wpAny_mono (h₁ fa g₁ s₁ v r₁ hv) ?_ fun _ _ e => e))))
  rintro b s₂ ⟨g₂, σ₂, r₂, d₂, q⟩
  cases b with
  | true => exact wpAny_pure ⟨g₂, m, σ₂, r₂, hv.mono (r₁.ge d₂), d₁.trans d₂, q⟩
  | false =>
    show wpAny _ A (eval y fm.env) _ _ _
    exact wpAny_mono (q fa g₂ s₂ r₂) (fun _ _ p => p.trans (d₁.trans d₂)) fun _ _ e => e
theorem ev_dct1T (ℓ : Nat) {k v : Expr} {pos : Pos} (h : Ev C A fm k loc σ fun mk σ₁ => ∃ key, mk = .str key ∧ Ev C A fm v loc σ₁ fun mv σ₂ => σ₂ ℓ = none ∧ Q (.ref ℓ) (σ₂.set ℓ (.dict [(key, mv)]))) : Ev C A fm (.Dict [some k] [v] pos) loc σ Q := fun fa g s r => by
  refine dict1 (Q := fun m σ₂ => ∃ key mv, m = .dct [(key, mv)] ∧ σ₂ ℓ = none ∧ Q (.ref ℓ) (σ₂.set ℓ (.dict [(key, mv)]))) r (EvT.mono h fun mk σ₁ ⟨key, e, h'⟩ => ⟨key, e, EvT.mono h' fun mv σ₂ q => ⟨key, mv, rfl, q⟩⟩) fun g' σ' s' key mv u r' d hm hv hl hP hlt q => ?_
  obtain ⟨key', mv', e, hσ, q⟩ := q
  cases e
  have dw : Gd C fa g s g' s' := d.weak fun a h => by
    rcases List.mem_cons.mp h with rfl | h
    · exact .inr (Nat.le_refl _)
    · exact .inl h
  have ap := r.apart (Nat.le_refl s.heap.objs.size)
  refine ⟨_, .ref ℓ, _, r'.track hσ r.gr.size hlt hl hP ap.1 ap.2 (.dict hm (.cons hv .nil)), .ref ?_, dw.track (r'.gr.fresh hσ) (Nat.le_refl _), q⟩
  show (if ℓ = ℓ then _ else _) = _
  rw [if_pos rfl]
end
end
section
section
variable {C : Cx} {A : Around} {fm : Fm} {fa : List Addr} {loc : Loc} {σ : Hp} {g : Gh} {s : Shared} {Q Q' : MV → Hp → Prop} {QB : Bool → Hp → Prop} {QS : Fl → Loc → Hp → Prop}
theorem ex_swap {elts : List Expr} {k : Nat} {tp pos : Pos} {e : Expr} {x y : Str} (hh : A.handled = none) (h : Ev C A fm e loc σ fun m σ₁ => ∃ a b, m = .tup [a, b] ∧ QS .next ((loc.set y b).set x a) σ₁) (hx : canSt fm x) (hy : canSt fm y)
    (hs : swapsWithSole [.Tuple elts k tp] e pos.line fm.env = pure false := by rfl) (hw : swappedStores [.Tuple elts k tp] e fm.env = pure (some [x, y]) := by rfl) : Ex C A fm (.Assign [.Tuple elts k tp] e pos) loc σ QS := fun fa g s r => by
  refine Assign_Tuple_swapped (names := [x, y]) (wpAny_mono (h fa g s r) ?_ fun _ _ e => e) hs hw
  rintro v s₁ hX2
  refine via_p fun P kP => ?_
  obtain ⟨g₁, m, σ₁, r₁, hv, d₁, a, b, rfl, q⟩ := hX2
  refine kP ?_
  clear kP P
  refine via_p fun P kP => ?_
  obtain ⟨t, vs, rfl, hp, ho, hl⟩ := hv.inv
  refine kP ?_
  clear kP P
  refine via_p fun P kP => ?_
  obtain ⟨u, w, rfl, hu, hw'⟩ := hl.inv2
  refine kP ?_
  clear kP P
  have hu' := withSize (s := s₁) (wpAny_unpackItems_tuple (prog := C.prog) (w := C.w) (A := A) (E := fun e s' => s₁.heap.objs.size ≤ s'.heap.objs.size → NoE e s') hh ho (Q := fun items s₂ => s₁.heap.objs.size ≤ s₂.heap.objs.size → wpAny (model C.prog C.w) A (assignInOrder ([x, y].reverse.map fun n => bindName fm.env n) items.reverse) (fun _ => PostS C fm fa g s QS .next) NoE s₂) fun h' hk hz => ?_)
  · exact hu'
  have k' : ∀ b o, s₁.heap.get? b = some o → h'.get? b = some o := fun b o e => hk b o (Nat.ne_of_lt (Heap.lt_size e)) e
  have r₂ := r₁.ext (s' := { s₁ with heap := h' }) k' hz
  have d₂ : Gd C fa g₁ s₁ g₁ { s₁ with heap := h' } := .ext k' hz rfl rfl rfl
  have ge : Ge g₁ g₁ s₁.heap h' := ⟨fun _ _ e => e, fun _ e => e, fun a o _ e => k' a o e⟩
  show wpAny _ A (assignInOrder [bindName fm.env y, bindName fm.env x] [w, u]) _ _ _
  refine wpAny_bind (wpAny_holding (wpAny_bindName (store_name r₂ (hw'.mono ge) hy fun s₃ r₃ d₃ => ?_)))
  refine wpAny_bind (wpAny_holding (wpAny_bindName (store_name r₃ ((hu.mono ge).mono (r₂.ge d₃)) hx fun s₄ r₄ d₄ => ?_)))
  exact wpAny_pure ⟨g₁, .next, _, σ₁, r₄, .next, d₁.trans (d₂.trans (d₃.trans d₄)), q⟩
end
end
section
noncomputable def EqIn (C : Cx) (A : Around) (s : Shared) (a b : Value) (r : Bool) : Prop := ∀ (E : Value → Shared → Prop) (Q : Bool → Shared → Prop), Q r s → wpAny (model C.prog C.w) A (eqBool a b) Q E s
section
variable {C : Cx} {A : Around} {s : Shared}
theorem tup_eqc {a b : Addr} {xs ys : List Value} {R : Value → Shared → Prop} {E : Value → Shared → Prop} (ha : s.heap.IsTuple a ⟨xs⟩) (hb : s.heap.IsTuple b ⟨ys⟩) (hu : A.units < cLine) (hl : xs.length = ys.length)
    (he : ∀ p ∈ xs.zip ys, EqIn C A.in1 s p.1 p.2 true) (q : R (.bool true) s) : wpAny (model C.prog C.w) A (compareOp .Eq (.ref a) (.ref b)) R E s := by
  obtain ⟨oa, hoa, hca, na, hda⟩ := id ha
  obtain ⟨ob, hob, hcb, nb, hdb⟩ := id hb
  refine wpAny_richCompare_same_room (op := .Eq) ha.typeIs hb.typeIs F.slot_tuple_eq (wpAny_call_entry F.slot_tuple_eq ha.typeIs F.entry_tuple_eq ?_ (F.args_tuple_eq_2 _ _)) hu
  unfold Builtin.«tuple.__eq__»
  refine wpAny_bind (wpAny_pure ?_)
  refine wpAny_bind (wpAny_isInstance (T := "tuple") (b := true) hb.typeIs AutoSeq1.sub_tuple_tuple ?_)
  rw [if_neg (by decide)]
  refine wpAny_bind (wpAny_bind (wpAny_seqItems hoa hda (wpAny_pure ?_)))
  refine wpAny_bind (wpAny_bind (wpAny_seqItems hob hdb (wpAny_pure ?_)))
  refine wpAny_bind (wpAny_forIn_list _ (fun rest b s' => b.1 = none ∧ s' = s ∧ ∀ p ∈ rest, EqIn C A.in1 s p.1 p.2 true) _ ?_ ?_ _ _ ⟨rfl, rfl, he⟩)
  · rintro ⟨x, y⟩ rest bb s' ⟨hb1, rfl, hr⟩
    refine wpAny_bind (hr (x, y) (.head _) _ _ ?_)
    refine wpAny_pure ⟨rfl, rfl, fun p hp => hr p (.tail _ hp)⟩
  · rintro ⟨b1, b2⟩ s' ⟨hb1, rfl, _⟩
    simp only at hb1
    subst hb1
    have e : Builtin.Tuple.tupleCompareSizes .Eq (Array.mk xs).size (Array.mk ys).size = .bool true := by
      show Value.bool (xs.length == ys.length) = _
      rw [hl]; simp
    exact wpAny_pure ⟨_, rfl, by rw [e]; exact ⟨(fun x => (nomatch x)), q⟩⟩
theorem tup_nec {a b : Addr} {xs ys : List Value} {R : Value → Shared → Prop} {E : Value → Shared → Prop} (ha : s.heap.IsTuple a ⟨xs⟩) (hb : s.heap.IsTuple b ⟨ys⟩) (hu : A.units < cLine) (hl : xs.length = ys.length)
    (he : ∀ p ∈ xs.zip ys, EqIn C A.in1 s p.1 p.2 true) (q : R (.bool false) s) : wpAny (model C.prog C.w) A (compareOp .NotEq (.ref a) (.ref b)) R E s := by
  obtain ⟨oa, hoa, hca, na, hda⟩ := id ha
  obtain ⟨ob, hob, hcb, nb, hdb⟩ := id hb
  refine wpAny_richCompare_same_room (op := .NotEq) ha.typeIs hb.typeIs F.slot_tuple_ne (wpAny_call_entry F.slot_tuple_ne ha.typeIs F.entry_tuple_ne ?_ (F.args_tuple_ne_2 _ _)) hu
  unfold Builtin.«tuple.__ne__»
  refine wpAny_bind (wpAny_pure ?_)
  refine wpAny_bind (wpAny_isInstance (T := "tuple") (b := true) hb.typeIs AutoSeq1.sub_tuple_tuple ?_)
  rw [if_neg (by decide)]
  refine wpAny_bind (wpAny_bind (wpAny_seqItems hoa hda (wpAny_pure ?_)))
  refine wpAny_bind (wpAny_bind (wpAny_seqItems hob hdb (wpAny_pure ?_)))
  refine wpAny_bind (wpAny_forIn_list _ (fun rest b s' => b.1 = none ∧ s' = s ∧ ∀ p ∈ rest, EqIn C A.in1 s p.1 p.2 true) _ ?_ ?_ _ _ ⟨rfl, rfl, he⟩)
  · rintro ⟨x, y⟩ rest bb s' ⟨hb1, rfl, hr⟩
    refine wpAny_bind (hr (x, y) (.head _) _ _ ?_)
    refine wpAny_pure ⟨rfl, rfl, fun p hp => hr p (.tail _ hp)⟩
  · rintro ⟨b1, b2⟩ s' ⟨hb1, rfl, _⟩
    simp only at hb1
    subst hb1
    have e : Builtin.Tuple.tupleCompareSizes .NotEq (Array.mk xs).size (Array.mk ys).size = .bool false := by
      show Value.bool (xs.length != ys.length) = _
      rw [hl]; simp
    exact wpAny_pure ⟨_, rfl, by rw [e]; exact ⟨(fun x => (nomatch x)), q⟩⟩
end
end
section
section
variable {C : Cx} {A : Around} {s : Shared}
theorem dct_same {nm : String} {a b : Addr} {ka kb : List (Str × Value)} {R : Bool → Shared → Prop} {E : Value → Shared → Prop} (ha : (a == sysModules) = false) (hb : (b == sysModules) = false) (da : s.heap.DictOf (strKind C.prog C.w) a ka) (db : s.heap.DictOf (strKind C.prog C.w) b kb)
    (hl : ka.length = kb.length) (he : ∀ (i : Nat) k v, ka[i]? = some (k, v) → ∃ y, valueAt kb k = some y ∧ EqIn C A s v y true) (q : R true s) : wpAny (model C.prog C.w) A (Builtin.Dict.samePairs nm a b) R E s := by
  obtain ⟨oa, ea, pa, hoa, _, hda, hka, hpa, _⟩ := da
  obtain ⟨ob, eb, pb, hob, _, hdb, hkb, hpb, _⟩ := db
  have la : ea.size = ka.length := by rw [← hpa.length]; exact Array.length_toList.symm
  have lb : eb.size = kb.length := by rw [← hpb.length]; exact Array.length_toList.symm
  have hsz : ea.size = eb.size := by rw [la, lb, hl]
  unfold Builtin.Dict.samePairs Builtin.Dict.showsAll
  rw [ha, hb, if_neg Bool.false_ne_true]
  refine wpAny_bind (wpAny_pure (wpAny_bind (wpAny_pure (wpAny_bind (wpAny_dictEntries hoa hda ?_)))))
  refine wpAny_bind (wpAny_dictEntries hob hdb ?_)
  rw [if_neg (by rw [hsz]; simp)]
  refine wpAny_bind (wpAny_dictEpoch hoa hda (wpAny_bind ?_))
  rw [Std.Legacy.Range.forIn_eq_forIn_range']
  refine wpAny_forIn_list _ (fun rest x s' => s' = s ∧ x.1 = none ∧ ∀ i ∈ rest, i < ea.size) _ ?_ ?_ _ _ ⟨rfl, rfl, fun i hi => ?_⟩
  · rintro i rest x s' ⟨rfl, hx, hi⟩
    have hlt := hi i (.head _)
    refine wpAny_bind (wpAny_dictEntries hoa hda ?_)
    rw [Array.getElem?_eq_getElem hlt]
    have hlt' : i < ka.length := by rw [← la]; exact hlt
    obtain ⟨k, v, hkv⟩ : ∃ k v, ka[i]? = some (k, v) := ⟨_, _, List.getElem?_eq_getElem hlt'⟩
    obtain ⟨hkey, hval⟩ := hpa.get? (i := i) (e := ea[i]) (k := k) (v := v) (by rw [Array.getElem?_toList]; exact Array.getElem?_eq_getElem hlt) hkv
    obtain ⟨k', hk', hh⟩ := hka ea[i] (Array.getElem_mem hlt)
    have ekk : k' = k := (strKind C.prog C.w).inj _ _ _ hk' hkey
    subst ekk
    obtain ⟨y, hy, heq⟩ := he i k' v hkv
    show wpAny _ _ (holding [ea[i].key, ea[i].val] _ >>= _) _ _ _
    rw [hh]
    refine wpAny_bind (wpAny_holding (wpAny_bind (wpAny_dictFind_of hkey hob hdb hkb ?_)))
    have hf : findBy (strKind C.prog C.w).is eb k' = some y := by
      rw [← hy, ← hpb.find k']
      obtain ⟨l⟩ := eb
      simp [findBy]
    rw [findBy_of_findIdx?] at hf
    cases hj : eb.findIdx? fun e => (strKind C.prog C.w).is k' e.key with
    | none => rw [hj] at hf; cases hf
    | some j =>
      obtain ⟨hjlt, _, _⟩ := Array.findIdx?_eq_some_iff_getElem.mp hj
      rw [hj] at hf
      have ey : eb[j].val = y := by simpa [Array.getElem?_eq_getElem hjlt] using hf
      refine wpAny_bind (wpAny_dictEntries hob hdb ?_)
      rw [Array.getElem?_eq_getElem hjlt]
      refine wpAny_holding ?_
      rw [hval, ey]
      refine heq _ _ ?_
      show wpAny _ _ (if (!true) = true then _ else _) _ _ _
      rw [if_neg (by decide)]
      refine wpAny_bind (wpAny_dictEpoch hoa hda ?_)
      rw [if_neg (by simp)]
      exact wpAny_pure ⟨rfl, rfl, fun m hm => hi m (.tail _ hm)⟩
  · rintro ⟨x1, x2⟩ s' ⟨rfl, hx, _⟩
    simp only at hx
    subst hx
    exact wpAny_pure q
  · simp [Std.Legacy.Range.size] at hi
    (first | lia | omega)
end
end
section
mutual
inductive Same : Nat → MV → MV → Prop
  | int (n : Nat) (i : Int) : Same n (.int i) (.int i)
  | str (n : Nat) (x : Str) : Same n (.str x) (.str x)
  | nums (n : Nat) (ns : List Int) : Same (n + 1) (.lst (ns.map .int)) (.lst (ns.map .int))
  | tup {n : Nat} {l l' : List MV} : Sames n l l' → Same (n + 1) (.tup l) (.tup l')
  | dct {n : Nat} {l l' : List (Str × MV)} : l.length = l'.length → Samed n l l' → Same (n + 1) (.dct l) (.dct l')
inductive Sames : Nat → List MV → List MV → Prop
  | nil (n : Nat) : Sames n [] []
  | cons {n : Nat} {a b : MV} {l l' : List MV} : Same n a b → Sames n l l' → Sames n (a :: l) (b :: l')
inductive Samed : Nat → List (Str × MV) → List (Str × MV) → Prop
  | nil (n : Nat) (r : List (Str × MV)) : Samed n [] r
  | cons {n : Nat} {k : Str} {a b : MV} {l r : List (Str × MV)} : valAt r k = some b → Same n a b → Samed n l r → Samed n ((k, a) :: l) r
end
section
variable {C : Cx} {g : Gh} {σ : Hp} {s : Shared}
theorem EqIn.refs {A : Around} {s : Shared} {a b : Addr} (h : ∀ (E : Value → Shared → Prop) (Q : Value → Shared → Prop), Q (.bool true) s → wpAny (model C.prog C.w) A (richCompare .Eq (.ref a) (.ref b)) Q E s) : EqIn C A s (.ref a) (.ref b) true := fun E Q q => by
  unfold eqBool
  refine wpAny_holding ?_
  refine wpAny_ite_split (fun _ => wpAny_bind (wpAny_rule (wpAny_pure q))) (fun _ => ?_)
  exact wpAny_bind (h E _ (wpAny_truthy_bool q))
theorem EqIn.int {A : Around} {s : Shared} (i : Int) (t u : Tok) : EqIn C A s (.int i t) (.int i u) true := fun E Q q => wpAny_eqBool_int (by simpa using q)
theorem EqIn.str {A : Around} {s : Shared} (x : Str) (t u : Tok) : EqIn C A s (.str x t) (.str x u) true := fun E Q q => wpAny_eqBool_str (by simpa using q)
theorem lst_ints {A : Around} {a b : Addr} {xs ys : List Value} {ns : List Int} (ha : s.heap.IsList a ⟨xs⟩) (hb : s.heap.IsList b ⟨ys⟩) (hx : VRs C g s.heap (ns.map .int) xs) (hy : VRs C g s.heap (ns.map .int) ys) (hu : A.units < cLine) : SeqAt.RcAt A s (.ref a) (.ref b) true := by
  have lx : xs.length = ns.length := by have := hx.length; simpa using this.symm
  have ly : ys.length = ns.length := by have := hy.length; simpa using this.symm
  have h := SeqAt.RcAt.lists (A := A) (e := fun _ => true) ha hb (by show xs.length = ys.length; rw [lx, ly]) hu fun j h1 h2 => by
    obtain ⟨t, e1⟩ := hx.intsV j (xs[j]'h1) (List.getElem?_eq_getElem h1)
    obtain ⟨u, e2⟩ := hy.intsV j (ys[j]'h2) (List.getElem?_eq_getElem h2)
    show SeqAt.EqAt A.in1 s (xs[j]'h1) (ys[j]'h2) true
    rw [e1, e2]
    exact fun prog w E Q q => wpAny_eqBool_int (by simpa using q)
  have e : ((List.range (Array.mk xs).size).all fun _ => true) = true := List.all_eq_true.mpr fun _ _ => rfl
  rw [e] at h; exact h
end
end
section
section
variable {C : Cx} {g : Gh} {σ : Hp} {s : Shared}
theorem units_in1 (A : Around) : A.in1.units = A.units + 1 := rfl
theorem GR.noMods (r : GR C g σ s) {a : Addr} (hp : g.P a) : (a == sysModules) = false := by
  have h16 := Nat.le_trans r.lo (r.P a hp).1
  have : ¬ a = sysModules := fun q => absurd (q ▸ h16) (by decide)
  simpa using this
theorem Sames.zip {n : Nat} {h : Heap} {Pr : Value → Value → Prop} (ih : ∀ {m m' : MV} {u v : Value}, Same n m m' → VR C g h m u → VR C g h m' v → Pr u v) {l l' : List MV} {xs ys : List Value} (z : Sames n l l') (a : VRs C g h l xs) (b : VRs C g h l' ys) : xs.length = ys.length ∧ ∀ p ∈ xs.zip ys, Pr p.1 p.2 := by
  induction l generalizing l' xs ys with
  | nil =>
    cases z
    obtain rfl : xs = [] := a.inv
    obtain rfl : ys = [] := b.inv
    exact ⟨rfl, fun p hp => (List.not_mem_nil hp).elim⟩
  | cons m l ihl =>
    cases z with
    | cons z1 z2 =>
    obtain ⟨x, xs, rfl, a1, a2⟩ := a.inv
    obtain ⟨y, ys, rfl, b1, b2⟩ := b.inv
    obtain ⟨e, h⟩ := ihl z2 a2 b2
    exact ⟨congrArg Nat.succ e, fun p hp => (List.mem_cons.mp hp).elim (fun q => q ▸ ih z1 a1 b1) (h p)⟩
theorem Samed.at {n : Nat} {h : Heap} {Pr : Value → Value → Prop} (ih : ∀ {m m' : MV} {u v : Value}, Same n m m' → VR C g h m u → VR C g h m' v → Pr u v) {l' : List (Str × MV)} {kb : List (Str × Value)} (hb : VRd C g h l' kb) {l : List (Str × MV)} {ka : List (Str × Value)} (z : Samed n l l') (a : VRd C g h l ka) (i : Nat) (k : Str) (v : Value) (e : ka[i]? = some (k, v)) : ∃ y, valueAt kb k = some y ∧ Pr v y := by
  induction l generalizing ka i with
  | nil => rw [a.inv] at e; exact nomatch e
  | cons p l ihl =>
    cases z with
    | cons hv hs hr =>
    obtain ⟨x, xs, rfl, a1, a2⟩ := a.inv
    cases i with
    | zero =>
      obtain ⟨rfl, rfl⟩ := Prod.mk.inj (Option.some.inj e)
      obtain ⟨w, hw, hvr⟩ := hb.at hv
      exact ⟨w, hw, ih hs a1 hvr⟩
    | succ i => exact ihl hr a2 i e
theorem EqIn.ints {A : Around} {i : Int} {u v : Value} (hm : VR C g s.heap (.int i) u) (hv : VR C g s.heap (.int i) v) : EqIn C A s u v true :=
  hm.inv.elim fun _ e => hv.inv.elim fun _ e' => e ▸ e' ▸ EqIn.int _ _ _
theorem EqIn.strs {A : Around} {i : Str} {u v : Value} (hm : VR C g s.heap (.str i) u) (hv : VR C g s.heap (.str i) v) : EqIn C A s u v true :=
  hm.inv.elim fun _ e => hv.inv.elim fun _ e' => e ▸ e' ▸ EqIn.str _ _ _
theorem EqIn.dcts {A : Around} {l l' : List (Str × MV)} {u v : Value} (r : GR C g σ s) {n : Nat} (ih : ∀ {m m' : MV} {u v : Value}, Same n m m' → VR C g s.heap m u → VR C g s.heap m' v → EqIn C A.in1 s u v true) (hu : A.units + (n + 1) < cLine) (hss : Samed n l l')
    (hlen : l.length = l'.length) (hm : VR C g s.heap (.dct l) u) (hv : VR C g s.heap (.dct l') v) : EqIn C A s u v true := by
  obtain ⟨a, ka, rfl, hp, ho, hl⟩ := hm.inv
  obtain ⟨b, kb, rfl, hp', ho', hl'⟩ := hv.inv
  refine .refs fun E Q q => ?_
  refine wpAny_richCompare_same_room (op := .Eq) ho.typeIs ho'.typeIs PySem.F.slot_dict_eq (wpAny_call_entry PySem.F.slot_dict_eq ho.typeIs PySem.F.entry_dict_eq ?_ (PySem.F.args_dict_eq_2 _ _)) (Nat.lt_of_le_of_lt (Nat.le_add_right _ _) hu)
  show wpAny _ _ (Builtin.Dict.dictSlotArgs "__eq__" _ >>= _) _ _ s
  refine wpAny_bind ?_
  unfold Builtin.Dict.dictSlotArgs
  refine wpAny_bind (wpAny_notOrdered_dict ho.typeIs ?_)
  refine wpAny_pure ?_
  refine wpAny_bind (wpAny_isInstance (T := "dict") ho'.typeIs PySem.F.sub_dict_dict ?_)
  simp only [Bool.not_true, Bool.false_eq_true, if_false]
  refine wpAny_bind (wpAny_pure (wpAny_bind (wpAny_pure ?_)))
  refine wpAny_bind (dct_same (r.noMods hp) (r.noMods hp') ho ho' (hl.len.symm.trans (hlen.trans hl'.len)) (Samed.at (fun a b c => ih a b c) hl' hss hl) ?_)
  exact wpAny_pure ⟨_, rfl, (fun x => (nomatch x)), q⟩
theorem Same.run (r : GR C g σ s) (n : Nat) : ∀ {A : Around} {m m' : MV} {u v : Value}, A.units + n < cLine → Same n m m' → VR C g s.heap m u → VR C g s.heap m' v → EqIn C A s u v true := by
  induction n with
  | zero =>
    intro A m m' u v hu hs hm hv
    cases hs with
    | int _ i => exact .ints hm hv
    | str _ x => exact .strs hm hv
  | succ n ih =>
    intro A m m' u v hu hs hm hv
    have hu0 : A.units < cLine := Nat.lt_of_le_of_lt (Nat.le_add_right _ _) hu
    have hu1 : A.in1.units + n < cLine := by rw [units_in1, Nat.add_right_comm]; exact hu
    cases hs with
    | int _ i => exact .ints hm hv
    | str _ x => exact .strs hm hv
    | nums _ ns =>
      obtain ⟨a, xs, rfl, hp, ho, hl⟩ := hm.inv
      obtain ⟨b, ys, rfl, hp', ho', hl'⟩ := hv.inv
      exact .refs fun E Q q => lst_ints ho.isList ho'.isList hl hl' hu0 _ _ _ _ q
    | tup hss =>
      obtain ⟨a, xs, rfl, hp, ho, hl⟩ := hm.inv
      obtain ⟨b, ys, rfl, hp', ho', hl'⟩ := hv.inv
      obtain ⟨e, hz⟩ := Sames.zip (Pr := fun u v => EqIn C A.in1 s u v true) (fun a b c => ih hu1 a b c) hss hl hl'
      exact .refs fun E Q q => tup_eqc ho ho' hu0 e hz q
    | dct hlen hss => exact .dcts r (fun a b c => ih hu1 a b c) hu hss hlen hm hv
end
end
section
section
variable {C : Cx} {A : Around} {fm : Fm} {fa : List Addr} {loc : Loc} {σ : Hp} {g : Gh} {s : Shared} {Q Q' : MV → Hp → Prop}
theorem op_eqE {m : MV} {l : List MV} (hu : A.units < cLine) (hm : lstOf σ m = some l) (q : Q (.bool l.isEmpty) σ) : Op2 C A fm (compareOp .Eq) m (.lst []) loc σ Q := by
  intro fa g s x y r hx hy
  obtain ⟨a, xs, rfl, ho, hl⟩ := r.gr.lst hm hx
  obtain ⟨b', ys, rfl, hp', ho', hl'⟩ := hy.inv
  obtain rfl : ys = [] := hl'.inv
  have e := hl.length
  cases l with
  | nil =>
    obtain rfl : xs = [] := hl.inv
    exact SeqAt.eq_listAt (e := fun _ => true) ho ho'.isList rfl hu (fun j h1 h2 => absurd h1 (by simp)) (.now r (.bool ..) (by simpa using q))
  | cons b l =>
    refine SeqAt.eq_list_lengthsAt ho ho'.isList ?_ hu (.now r (.bool ..) (by simpa using q))
    show (xs.length != 0) = true
    rw [← e]; simp
end
end
section
section
variable {C : Cx} {A : Around} {fm : Fm} {fa : List Addr} {loc : Loc} {σ : Hp} {g : Gh} {s : Shared} {Q Q' : MV → Hp → Prop}
theorem op_neE {m : MV} {l : List MV} (hu : A.units < cLine) (hm : lstOf σ m = some l) (q : Q (.bool (!l.isEmpty)) σ) : Op2 C A fm (compareOp .NotEq) m (.lst []) loc σ Q := by
  intro fa g s x y r hx hy
  obtain ⟨a, xs, rfl, ⟨k, ho⟩, hl⟩ := r.gr.lstP hm hx
  obtain ⟨b, ys, rfl, hp', ho', hl'⟩ := hy.inv
  obtain rfl : ys = [] := hl'.inv
  obtain ⟨k', ho'⟩ := ho'
  have e := hl.length
  have hT : s.TypeIs (.ref a) "list" := ⟨_, ho, rfl⟩
  have hT' : s.TypeIs (.ref b) "list" := ⟨_, ho', rfl⟩
  refine wpAny_richCompare_same_room (op := .NotEq) hT hT' F.slot_list_ne ?_ hu
  cases l with
  | nil =>
    obtain rfl : xs = [] := hl.inv
    refine call_meets F.slot_list_ne hT F.entry_list_ne (F.args_list_ne_2 _ _) (SeqAt.list_neAt a b #[] #[] k k' none none #[] #[] rfl fun _ => true) ⟨ho, ho', fun j h1 h2 => absurd h1 (by simp), ?_⟩
    exact ⟨(fun x => (nomatch x)), .now r (.bool ..) (by simpa using q)⟩
  | cons c l =>
    refine call_meets F.slot_list_ne hT F.entry_list_ne (F.args_list_ne_2 _ _) (SeqAt.list_ne_lengthsAt a b ⟨xs⟩ #[] k k' none none #[] #[] ?_) ⟨ho, ho', ?_⟩
    · show (xs.length != 0) = true
      rw [← e]; simp
    exact ⟨(fun x => (nomatch x)), .now r (.bool ..) (by simpa using q)⟩
end
end
section
section
variable {prog : Program} {w : World} {A : Around} {E : Value → Shared → Prop} {s : Shared}
theorem nxt_item {it t : Addr} {i : Nat} {items : Array Value} {x : Value} {Q : Value → Shared → Prop} (hit : s.heap.IsTupleIter it t i) (ht : s.heap.IsTuple t items) (hx : items[i]? = some x)
    (hQ : ∀ h', h'.IsTupleIter it t (i + 1) → Heap.SameBut it s.heap h' → Q x { s with heap := h' }) : wpAny (model prog w) A (Builtin.SmallTypes.nextOf (.ref it)) Q E s := by
  obtain ⟨o, ho, hc, hd⟩ := id hit
  obtain ⟨ol, hol, _, nl, hdl⟩ := ht
  unfold Builtin.SmallTypes.nextOf
  refine wpAny_bind (wpAny_callSpecial?_slot (name := Str.ofString "__next__") hit.typeIs F.slot_tuple_iterator_next
    (wpAny_call_entry F.slot_tuple_iterator_next hit.typeIs F.entry_tuple_iterator_next ?_ (F.args_tuple_iterator_next_1 _)))
  show wpAny _ _ (field (.ref it) 0 >>= _) _ _ s
  refine wpAny_bind (wpAny_field ho hd (x := .ref t) rfl ?_)
  show wpAny _ _ (if (Value.ref t == Value.none) = true then _ else _) _ _ s
  rw [if_neg (show ¬ ((Value.ref t == Value.none) = true) from Bool.false_ne_true)]
  show wpAny _ _ (field (.ref it) 1 >>= _) _ _ s
  refine wpAny_bind (wpAny_field ho hd (x := .int i 0) rfl ?_)
  show wpAny _ _ (seqItems? (.ref t) >>= _) _ _ s
  refine wpAny_bind (wpAny_seqItems hol hdl ?_)
  simp only [Int.toNat_natCast, hx]
  refine wpAny_bind (wpAny_setField ho hd (by simp) (wpAny_pure ⟨x, rfl, wpAny_pure (hQ _ ?_ (Heap.SameBut.update ..))⟩))
  exact ⟨_, Heap.get?_update_self _ ho (Obj.isFreed_of_fields (Obj.data_mapFields hd _)), (Obj.cls_mapFields ..).trans hc, by
    rw [Obj.data_mapFields hd]; simp [rawInt]⟩
theorem nxt_end {it t : Addr} {i : Nat} {items : Array Value} {Q : Value → Shared → Prop} (hh : A.handled = none) (hit : s.heap.IsTupleIter it t i) (ht : s.heap.IsTuple t items) (hx : items[i]? = none)
    (hE : ∀ h' e, Heap.ExtBut it s.heap h' → (∃ o, h'.get? e = some o ∧ o.cls = .type "StopIteration") → E (.ref e) { s with heap := h' }) : wpAny (model prog w) A (Builtin.SmallTypes.nextOf (.ref it)) Q E s := by
  obtain ⟨o, ho, hc, hd⟩ := id hit
  obtain ⟨ol, hol, _, nl, hdl⟩ := ht
  unfold Builtin.SmallTypes.nextOf
  refine wpAny_bind (wpAny_callSpecial?_slot (name := Str.ofString "__next__") hit.typeIs F.slot_tuple_iterator_next
    (wpAny_call_entry F.slot_tuple_iterator_next hit.typeIs F.entry_tuple_iterator_next ?_ (F.args_tuple_iterator_next_1 _)))
  show wpAny _ _ (field (.ref it) 0 >>= _) _ _ s
  refine wpAny_bind (wpAny_field ho hd (x := .ref t) rfl ?_)
  show wpAny _ _ (if (Value.ref t == Value.none) = true then _ else _) _ _ s
  rw [if_neg (show ¬ ((Value.ref t == Value.none) = true) from Bool.false_ne_true)]
  show wpAny _ _ (field (.ref it) 1 >>= _) _ _ s
  refine wpAny_bind (wpAny_field ho hd (x := .int i 0) rfl ?_)
  show wpAny _ _ (seqItems? (.ref t) >>= _) _ _ s
  refine wpAny_bind (wpAny_seqItems hol hdl ?_)
  simp only [Int.toNat_natCast, hx]
  refine wpAny_bind (wpAny_rule (wpAny_bind (wpAny_setField ho hd (by simp) ?_)))
  show wpAny _ _ (newExc (.type "StopIteration") [] >>= _) _ _ _
  refine wpAny_bind ?_
  simp only [newExc, newTuple]
  refine wpAny_bind (wpAny_newObj_type ?_ (by size_fits))
  refine wpAny_bind (m := firstArgMember _ _) (wpAny_of_eq (a := Value.none) (by first | rfl | (simp only [firstArgMember]; rfl)) ?_)
  refine wpAny_newObj_type ?_ (by size_fits)
  unfold raiseNew
  refine wpAny_bind (wpAny_handled ?_)
  first | rw [show A.in1.handled = none from hh] | rw [hh]
  refine wpAny_bind (wpAny_pure (wpAny_throw ?_))
  exact hE _ _ (((Heap.SameBut.update ..).extBut.push _).push _) ⟨_, Heap.get?_push_size _ rfl, rfl⟩
structure ZipSt (h : Heap) (z TI TO i1 i2 l1 l2 : Addr) (f0 : Value) (k : Nat) (xs ys : Array Value) : Prop where
  z : IsZip h z TI TO f0
  TI : IsPair h TI (.ref i1) (.ref i2)
  TO : ∃ a b, IsPair h TO a b
  a1 : h.IsTupleIter i1 l1 k
  a2 : h.IsTupleIter i2 l2 k
  d1 : h.IsTuple l1 xs
  d2 : h.IsTuple l2 ys
theorem ZipSt.at {h h' : Heap} {z TI TO i1 i2 l1 l2 : Addr} {f0 : Value} {k : Nat} {xs ys : Array Value} (S : ZipSt h z TI TO i1 i2 l1 l2 f0 k xs ys) (e : ∀ b ∈ [z, TI, TO, i1, i2, l1, l2], ∀ o, h.get? b = some o → h'.get? b = some o) : ZipSt h' z TI TO i1 i2 l1 l2 f0 k xs ys :=
  let ⟨a, b, q⟩ := S.TO
  ⟨e z (by simp) _ S.z, e TI (by simp) _ S.TI, ⟨a, b, e TO (by simp) _ q⟩, S.a1.at fun o x => e i1 (by simp) o x, S.a2.at fun o x => e i2 (by simp) o x, S.d1.at fun o x => e l1 (by simp) o x, S.d2.at fun o x => e l2 (by simp) o x⟩
variable {z TI TO i1 i2 l1 l2 : Addr} {k : Nat} {xs ys : Array Value}
theorem zipt_item {x y : Value} {Q : Value → Shared → Prop} (D : ZipApart z TI TO i1 i2 l1 l2) (S : ZipSt s.heap z TI TO i1 i2 l1 l2 .none k xs ys) (hx : xs[k]? = some x) (hy : ys[k]? = some y)
    (hQ : ∀ h', ZipSt h' z TI TO i1 i2 l1 l2 (rawInt s.heap.objs.size) (k + 1) xs ys → IsPair h' s.heap.objs.size x y → h'.objs.size = s.heap.objs.size + 1 →
      (∀ c o, c ≠ z → c ≠ TO → c ≠ i1 → c ≠ i2 → s.heap.get? c = some o → h'.get? c = some o) → Q (.ref s.heap.objs.size) { s with heap := h' }) :
    wpAny (model prog w) A (Builtin.«zip.__next__» ⟨[.ref z], []⟩) (fun fin s' => ∃ v, fin = .done (.ret v) ∧ Q v s') E s := by
  obtain ⟨a, b, hTO⟩ := S.TO
  have hz := S.z
  show wpAny _ _ (field (.ref z) 2 >>= _) _ _ _
  refine wpAny_bind (wpAny_field hz rfl (x := .bool false) rfl ?_)
  show wpAny _ _ (field (.ref z) 3 >>= _) _ _ _
  refine wpAny_bind (wpAny_field hz rfl (x := .ref TI) rfl ?_)
  refine wpAny_bind (wpAny_seqItems S.TI rfl ?_)
  show wpAny _ _ (Builtin.SmallTypes.ownedTupleIsFree (.ref z) >>= _) _ _ _
  refine wpAny_bind ?_
  unfold Builtin.SmallTypes.ownedTupleIsFree
  refine wpAny_bind (wpAny_field hz rfl (x := .none) rfl (wpAny_pure ?_))
  simp only [if_true]
  refine wpAny_bind (wpAny_rule ?_)
  refine wpAny_bind (wpAny_field hz rfl (x := .ref TO) rfl ?_)
  refine wpAny_bind (wpAny_setField_rec hz (by simp) fun h₁ hz₁ hs₁ => ?_)
  replace hz₁ : IsZip h₁ z TI TO .ellipsis := hz₁
  refine wpAny_bind ?_
  simp only [List.zipIdx_cons, List.zipIdx_nil, List.forIn_cons, List.forIn_nil]
  refine wpAny_bind (wpAny_bind (wpAny_onRaise ?_))
  show wpAny _ _ (Builtin.SmallTypes.nextOf (.ref i1) >>= _) _ _ _
  refine wpAny_bind (nxt_item (S.a1.extBut hs₁.extBut D.i1z) (S.d1.extBut hs₁.extBut D.l1z) hx fun h₂ h1₂ hs₂ => wpAny_pure ?_)
  have hTO₂ : IsPair h₂ TO a b := hs₂.extBut _ _ D.TOi1 (hs₁.extBut _ _ D.TOz hTO)
  refine wpAny_bind (wpAny_seqItems hTO₂ rfl ?_)
  refine wpAny_bind (wpAny_updateSeq_pair hTO₂ fun h₃ hTO₃ hs₃ => ?_)
  replace hTO₃ : IsPair h₃ TO x b := hTO₃
  refine wpAny_bind (wpAny_letGo (wpAny_pure ?_))
  refine wpAny_bind (wpAny_bind (wpAny_onRaise ?_))
  show wpAny _ _ (Builtin.SmallTypes.nextOf (.ref i2) >>= _) _ _ _
  refine wpAny_bind (nxt_item (((S.a2.extBut hs₁.extBut D.i2z).extBut hs₂.extBut D.i12.symm).extBut hs₃.extBut D.TOi2.symm)
    (((S.d2.extBut hs₁.extBut D.l2z).extBut hs₂.extBut D.l2i1).extBut hs₃.extBut D.l2TO) hy fun h₄ h2₄ hs₄ => wpAny_pure ?_)
  have hTO₄ : IsPair h₄ TO x b := hs₄.extBut _ _ D.TOi2 hTO₃
  refine wpAny_bind (wpAny_seqItems hTO₄ rfl ?_)
  refine wpAny_bind (wpAny_updateSeq_pair hTO₄ fun h₅ hTO₅ hs₅ => ?_)
  replace hTO₅ : IsPair h₅ TO x y := hTO₅
  refine wpAny_bind (wpAny_letGo (wpAny_pure (wpAny_pure ?_)))
  refine wpAny_bind (wpAny_seqItems hTO₅ rfl ?_)
  refine wpAny_bind (wpAny_newTuple ?_)
  have hsz : h₅.objs.size = s.heap.objs.size := by rw [hs₅.1, hs₄.1, hs₃.1, hs₂.1, hs₁.1]
  have hz₅ : IsZip h₅ z TI TO .ellipsis := hs₅.extBut _ _ D.TOz.symm (hs₄.extBut _ _ D.i2z.symm (hs₃.extBut _ _ D.TOz.symm (hs₂.extBut _ _ D.i1z.symm hz₁)))
  have hk₅ : ∀ c o, c ≠ z → c ≠ TO → c ≠ i1 → c ≠ i2 → s.heap.get? c = some o → h₅.get? c = some o := fun c o c1 c2 c3 c4 e =>
    hs₅.extBut _ _ c2 (hs₄.extBut _ _ c4 (hs₃.extBut _ _ c2 (hs₂.extBut _ _ c3 (hs₁.extBut _ _ c1 e))))
  have h1₅ : h₅.IsTupleIter i1 l1 (k + 1) := ((h1₂.extBut hs₃.extBut D.TOi1.symm).extBut hs₄.extBut D.i12).extBut hs₅.extBut D.TOi1.symm
  have h2₅ : h₅.IsTupleIter i2 l2 (k + 1) := h2₄.extBut hs₅.extBut D.TOi2.symm
  have hzlt : z < h₅.objs.size := Heap.lt_size hz₅
  show wpAny _ _ (Builtin.SmallTypes.ownedTupleHandOut (.ref z) (.ref h₅.objs.size) >>= _) _ _ _
  refine wpAny_bind ?_
  unfold Builtin.SmallTypes.ownedTupleHandOut
  have hz₆ : IsZip (h₅.push { cls := .type "tuple", data := .seq #[x, y] }) z TI TO .ellipsis := Heap.get?_push_of_some _ hz₅
  refine wpAny_bind (wpAny_setField_rec hz₆ (by simp) fun h₇ hz₇ hs₇ => ?_)
  replace hz₇ : IsZip h₇ z TI TO (rawInt h₅.objs.size) := hz₇
  refine wpAny_setField_rec hz₇ (by simp) fun h₈ hz₈ hs₈ => ?_
  replace hz₈ : IsZip h₈ z TI TO (rawInt h₅.objs.size) := hz₈
  have up : ∀ c o, c ≠ z → h₅.get? c = some o → h₈.get? c = some o := fun c o c1 e => hs₈.extBut _ _ c1 (hs₇.extBut _ _ c1 (Heap.get?_push_of_some _ e))
  have hT₈ : IsPair h₈ h₅.objs.size x y := hs₈.extBut _ _ (Nat.ne_of_gt hzlt) (hs₇.extBut _ _ (Nat.ne_of_gt hzlt) (Heap.get?_push_size _ rfl))
  have hz8 : h₈.objs.size = h₅.objs.size + 1 := by rw [hs₈.1, hs₇.1, Heap.size_push]
  rw [hsz] at hz₈ hT₈ hz8
  refine wpAny_pure ⟨_, rfl, ?_⟩
  show Q (.ref h₅.objs.size) _
  rw [hsz]
  exact hQ h₈ ⟨hz₈, up _ _ D.TIz (hk₅ _ _ D.TIz D.TITO D.TIi1 D.TIi2 S.TI), ⟨_, _, up _ _ D.TOz hTO₅⟩, h1₅.at fun o e => up _ o D.i1z e, h2₅.at fun o e => up _ o D.i2z e,
    S.d1.at fun o e => up _ o D.l1z (hk₅ _ o D.l1z D.l1TO D.l1i1 D.l1i2 e), S.d2.at fun o e => up _ o D.l2z (hk₅ _ o D.l2z D.l2TO D.l2i1 D.l2i2 e)⟩ hT₈ hz8 fun c o c1 c2 c3 c4 e => up c o c1 (hk₅ c o c1 c2 c3 c4 e)
theorem zipt_end {Q : Fin → Shared → Prop} (hh : A.handled = none) (D : ZipApart z TI TO i1 i2 l1 l2) (S : ZipSt s.heap z TI TO i1 i2 l1 l2 .none k xs ys) (hend : xs[k]? = none ∨ ys[k]? = none)
    (hE : ∀ h' e, (∀ c o, c ≠ z → c ≠ TO → c ≠ i1 → c ≠ i2 → s.heap.get? c = some o → h'.get? c = some o) → (∃ o, h'.get? e = some o ∧ o.cls = .type "StopIteration") → E (.ref e) { s with heap := h' }) :
    wpAny (model prog w) A (Builtin.«zip.__next__» ⟨[.ref z], []⟩) Q E s := by
  obtain ⟨a, b, hTO⟩ := S.TO
  have hz := S.z
  show wpAny _ _ (field (.ref z) 2 >>= _) _ _ _
  refine wpAny_bind (wpAny_field hz rfl (x := .bool false) rfl ?_)
  show wpAny _ _ (field (.ref z) 3 >>= _) _ _ _
  refine wpAny_bind (wpAny_field hz rfl (x := .ref TI) rfl ?_)
  refine wpAny_bind (wpAny_seqItems S.TI rfl ?_)
  show wpAny _ _ (Builtin.SmallTypes.ownedTupleIsFree (.ref z) >>= _) _ _ _
  refine wpAny_bind ?_
  unfold Builtin.SmallTypes.ownedTupleIsFree
  refine wpAny_bind (wpAny_field hz rfl (x := .none) rfl (wpAny_pure ?_))
  simp only [if_true]
  refine wpAny_bind (wpAny_rule ?_)
  refine wpAny_bind (wpAny_field hz rfl (x := .ref TO) rfl ?_)
  refine wpAny_bind (wpAny_setField_rec hz (by simp) fun h₁ hz₁ hs₁ => ?_)
  replace hz₁ : IsZip h₁ z TI TO .ellipsis := hz₁
  refine wpAny_bind ?_
  simp only [List.zipIdx_cons, List.zipIdx_nil, List.forIn_cons, List.forIn_nil]
  refine wpAny_bind (wpAny_bind (wpAny_onRaise ?_))
  show wpAny _ _ (Builtin.SmallTypes.nextOf (.ref i1) >>= _) _ _ _
  cases hx : xs[k]? with
  | none =>
    refine wpAny_bind (nxt_end hh (S.a1.extBut hs₁.extBut D.i1z) (S.d1.extBut hs₁.extBut D.l1z) hx fun h₂ e hs₂ he => ?_)
    obtain ⟨oe, hoe, hce⟩ := he
    have hz₂ : IsZip h₂ z TI TO .ellipsis := hs₂ _ _ D.i1z.symm hz₁
    have hez : e ≠ z := fun x => by subst x; rw [hz₂] at hoe; cases hoe; simp at hce
    refine wpAny_setField_rec hz₂ (by simp) fun h₃ _ hs₃ => hE h₃ e (fun c o c1 _ c3 _ x => hs₃.extBut _ _ c1 (hs₂ _ _ c3 (hs₁.extBut _ _ c1 x))) ⟨oe, hs₃.extBut _ _ hez hoe, hce⟩
  | some x =>
    have hy : ys[k]? = none := by rcases hend with h | h; rw [hx] at h; cases h; exact h
    refine wpAny_bind (nxt_item (S.a1.extBut hs₁.extBut D.i1z) (S.d1.extBut hs₁.extBut D.l1z) hx fun h₂ h1₂ hs₂ => wpAny_pure ?_)
    have hTO₂ : IsPair h₂ TO a b := hs₂.extBut _ _ D.TOi1 (hs₁.extBut _ _ D.TOz hTO)
    refine wpAny_bind (wpAny_seqItems hTO₂ rfl ?_)
    refine wpAny_bind (wpAny_updateSeq_pair hTO₂ fun h₃ hTO₃ hs₃ => ?_)
    refine wpAny_bind (wpAny_letGo (wpAny_pure ?_))
    refine wpAny_bind (wpAny_bind (wpAny_onRaise ?_))
    show wpAny _ _ (Builtin.SmallTypes.nextOf (.ref i2) >>= _) _ _ _
    refine wpAny_bind (nxt_end hh (((S.a2.extBut hs₁.extBut D.i2z).extBut hs₂.extBut D.i12.symm).extBut hs₃.extBut D.TOi2.symm)
      (((S.d2.extBut hs₁.extBut D.l2z).extBut hs₂.extBut D.l2i1).extBut hs₃.extBut D.l2TO) hy fun h₄ e hs₄ he => ?_)
    obtain ⟨oe, hoe, hce⟩ := he
    have hz₄ : IsZip h₄ z TI TO .ellipsis := hs₄ _ _ D.i2z.symm (hs₃.extBut _ _ D.TOz.symm (hs₂.extBut _ _ D.i1z.symm hz₁))
    have hez : e ≠ z := fun x => by subst x; rw [hz₄] at hoe; cases hoe; simp at hce
    refine wpAny_setField_rec hz₄ (by simp) fun h₅ _ hs₅ => hE h₅ e (fun c o c1 c2 c3 c4 x => hs₅.extBut _ _ c1 (hs₄ _ _ c4 (hs₃.extBut _ _ c2 (hs₂.extBut _ _ c3 (hs₁.extBut _ _ c1 x))))) ⟨oe, hs₅.extBut _ _ hez hoe, hce⟩
theorem walksT_zipT (hh : A.handled = none) (D : ZipApart z TI TO i1 i2 l1 l2) :
    WalksT prog w A z [z, TI, TO, i1, i2, l1, l2] [z, TO, i1, i2] (min xs.size ys.size) (fun i vals => ∃ x y, xs[i]? = some x ∧ ys[i]? = some y ∧ vals = #[x, y])
      (fun i h => ZipSt h z TI TO i1 i2 l1 l2 .none i xs ys) (fun i T h => ZipSt h z TI TO i1 i2 l1 l2 (rawInt T) (i + 1) xs ys ∧ T ≠ z ∧ T ≠ TO ∧ T ≠ i1 ∧ T ≠ i2) where
  sub := fun c hc => by simp at hc ⊢; rcases hc with rfl | rfl | rfl | rfl <;> simp
  frame := fun i h h' hst hk => hst.at hk
  item := fun i s Q E hi S hQ => by
    have hix : i < xs.size := by (first | lia | omega)
    have hiy : i < ys.size := by (first | lia | omega)
    have hT : s.TypeIs (.ref z) "zip" := ⟨_, S.z, rfl⟩
    have lt : ∀ {c o}, s.heap.get? c = some o → s.heap.objs.size ≠ c := fun e => Nat.ne_of_gt (Heap.lt_size e)
    unfold pyNext
    refine wpAny_bind (wpAny_attempt (wpAny_callSpecial?_slot (name := Str.ofString "__next__") hT F.slot_zip_next (wpAny_call_entry F.slot_zip_next hT F.entry_zip_next
      (zipt_item D S (Array.getElem?_eq_getElem hix) (Array.getElem?_eq_getElem hiy) fun h' S' hp hz hk => wpAny_pure ?_) (F.args_zip_next_1 _))))
    exact hQ s.heap.objs.size #[xs[i], ys[i]] h' s.toks ⟨_, _, Array.getElem?_eq_getElem hix, Array.getElem?_eq_getElem hiy, rfl⟩ (Nat.le_refl _) ⟨_, hp, rfl, _, rfl⟩
      ⟨S', lt S.z, (by obtain ⟨_, _, q⟩ := S.TO; exact lt q), (by obtain ⟨_, e, _⟩ := S.a1; exact lt e), (by obtain ⟨_, e, _⟩ := S.a2; exact lt e)⟩
      fun c o hc e => hk c o (fun x => hc (by simp [x])) (fun x => hc (by simp [x])) (fun x => hc (by simp [x])) (fun x => hc (by simp [x])) e
  go := fun elts k pos i T s Q E hm hQ => by
    obtain ⟨S, _⟩ := hm
    refine wpAny_letOwnedTupleGo_zip S.z fun h' hz' hs' => ?_
    obtain ⟨a, b, hTO⟩ := S.TO
    exact hQ h' ⟨hz', hs'.extBut _ _ D.TIz S.TI, ⟨a, b, hs'.extBut _ _ D.TOz hTO⟩, S.a1.extBut hs'.extBut D.i1z, S.a2.extBut hs'.extBut D.i2z,
      S.d1.extBut hs'.extBut D.l1z, S.d2.extBut hs'.extBut D.l2z⟩ fun c o hc e => hs'.extBut _ _ (fun x => hc (by simp [x])) e
  apart := fun i T h hm hT => by
    obtain ⟨_, t1, t2, t3, t4⟩ := hm
    simp at hT
    rcases hT with rfl | rfl | rfl | rfl
    · exact t1 rfl
    · exact t2 rfl
    · exact t3 rfl
    · exact t4 rfl
  done := fun s Q E S hQ => by
    have hend : xs[min xs.size ys.size]? = none ∨ ys[min xs.size ys.size]? = none := by
      rcases Nat.le_total xs.size ys.size with h | h
      · exact .inl (by rw [Nat.min_eq_left h]; exact Array.getElem?_eq_none (Nat.le_refl _))
      · exact .inr (by rw [Nat.min_eq_right h]; exact Array.getElem?_eq_none (Nat.le_refl _))
    have hT : s.TypeIs (.ref z) "zip" := ⟨_, S.z, rfl⟩
    unfold pyNext
    refine wpAny_bind (wpAny_attempt (wpAny_callSpecial?_slot (name := Str.ofString "__next__") hT F.slot_zip_next
      (wpAny_call_entry F.slot_zip_next hT F.entry_zip_next (zipt_end hh D S hend fun h' e hk he => ?_) (F.args_zip_next_1 _))))
    obtain ⟨o, ho, hc⟩ := he
    refine wpAny_bind (wpAny_isInstance (T := "StopIteration") (b := true) ⟨o, ho, hc⟩ isSubtype_stop ?_)
    exact wpAny_pure (hQ h' s.toks fun c o hc e => hk c o (fun x => hc (by simp [x])) (fun x => hc (by simp [x])) (fun x => hc (by simp [x])) (fun x => hc (by simp [x])) e)
  self := fun i s Q E hst hQ => wpAny_pyIter_zip hst.z hQ
end
noncomputable abbrev ztH (h : Heap) (l1 l2 : Addr) : Heap :=
  ((((h.push { cls := .type "tuple_iterator", data := .fields #[.ref l1, .int 0 0] }).push { cls := .type "tuple_iterator", data := .fields #[.ref l2, .int 0 0] }).push
    { cls := .type "tuple", data := .seq #[.ref h.objs.size, .ref (h.objs.size + 1)] }).push { cls := .type "tuple", data := .seq #[.none, .none] }).push { cls := .type "zip", data := .fields #[.none, .bool false, .bool false, .ref (h.objs.size + 2), .ref (h.objs.size + 3)] }
theorem meets_zipT (l1 l2 : Addr) (xs ys : Array Value) :
    Meets (Builtin.«zip.__new__» ⟨[.type "zip", .ref l1, .ref l2], []⟩) (fun _ R s => s.heap.IsTuple l1 xs ∧ s.heap.IsTuple l2 ys ∧ R (.ok (.ret (.ref (s.heap.objs.size + 4)))) { s with heap := ztH s.heap l1 l2 }) :=
  .of_wp fun prog w A R s h => by
    obtain ⟨hp, g, d, tk, os⟩ := s; obtain ⟨hl1, hl2, h⟩ := h
    have hsub := sub_zip
    have hL1 : Heap.IsTuple (Shared.heap ⟨hp, g, d, tk, os⟩) l1 xs := hl1
    have hL2 : Heap.IsTuple (Shared.heap ⟨hp.push { cls := .type "tuple_iterator", data := .fields #[.ref l1, .int 0 0] }, g, d, tk, os⟩) l2 ys := Heap.IsTuple.push hl2 _
    wp_walk using wpAny_pyIter_tuple hL1, wpAny_pyIter_tuple hL2
    simp only [Heap.size_push, ztH] at h ⊢
    exact ⟨_, rfl, h⟩
section
variable {prog : Program} {w : World} {A : Around} {E : Value → Shared → Prop} {s : Shared}
theorem call_zipT {l1 l2 : Addr} {xs ys : Array Value} {Q : Value → Shared → Prop} (hl1 : s.heap.IsTuple l1 xs) (hl2 : s.heap.IsTuple l2 ys)
    (h : ∀ h', ZipSt h' (s.heap.objs.size + 4) (s.heap.objs.size + 2) (s.heap.objs.size + 3) s.heap.objs.size (s.heap.objs.size + 1) l1 l2 .none 0 xs ys → h'.objs.size = s.heap.objs.size + 5 →
      (∀ c o, s.heap.get? c = some o → h'.get? c = some o) → Q (.ref (s.heap.objs.size + 4)) { s with heap := h' }) :
    wpAny (model prog w) A (call (.type "zip") [.ref l1, .ref l2]) Q E s := by
  refine callType_new F.called_zip (by decide) (F.typeCall_zip_2 _ _) (F.newCall_zip_2 _ _) (fun obj => F.args_object_init_3 obj _ _) F.entry_zip_new
    (meets_zipT l1 l2 xs ys) ⟨hl1, hl2, ?_⟩
  have gg : ∀ {h : Heap} {n : Nat} (o : Obj), o.isFreed = false → h.objs.size = n → (h.push o).get? n = some o := fun o hf e => e ▸ Heap.get?_push_size _ hf
  have up : ∀ {h : Heap} {n : Nat} {o o' : Obj}, h.get? n = some o → (h.push o').get? n = some o := fun e => Heap.get?_push_of_some _ e
  have g5 : (ztH s.heap l1 l2).get? (s.heap.objs.size + 4) = some _ := gg _ rfl (by simp only [Heap.size_push])
  have g4 : (ztH s.heap l1 l2).get? (s.heap.objs.size + 3) = some _ := up (gg _ rfl (by simp only [Heap.size_push]))
  have g3 : (ztH s.heap l1 l2).get? (s.heap.objs.size + 2) = some _ := up (up (gg _ rfl (by simp only [Heap.size_push])))
  have g2 : (ztH s.heap l1 l2).get? (s.heap.objs.size + 1) = some _ := up (up (up (gg _ rfl (by simp only [Heap.size_push]))))
  have g1 : (ztH s.heap l1 l2).get? s.heap.objs.size = some _ := up (up (up (up (gg _ rfl rfl))))
  have kk : ∀ c o, s.heap.get? c = some o → (ztH s.heap l1 l2).get? c = some o := fun c o e => up (up (up (up (up e))))
  exact ⟨⟨_, g5, rfl⟩, h _ ⟨g5, g3, ⟨_, _, g4⟩, ⟨_, g1, rfl, rfl⟩, ⟨_, g2, rfl, rfl⟩, hl1.at fun o e => kk _ o e, hl2.at fun o e => kk _ o e⟩ (by simp only [ztH, Heap.size_push]) kk⟩
end
end
section
section
variable {C : Cx} {A : Around} {fm : Fm} {fa : List Addr} {loc : Loc} {σ : Hp} {g : Gh} {s : Shared} {Q Q' : MV → Hp → Prop}
theorem mk_gcode {qual : Str} {scope : Scope} {env : Env} {pos : Pos} {c P : Addr} {R : Value → Shared → Prop} (r : GR C g σ s) (hc : env.code = .ref c) (hca : CodeAt C.K c P) (hP : P ∈ C.tabs) (hq : C.tq P pos.line pos.col = qual)
    (h : ∀ g' s' c', GR C g' σ s' → Gd C [] g s g' s' → R c' s') : wpAny (model C.prog C.w) A (genexprCode env pos qual scope) R NoE s := by
  obtain ⟨o, vs, file, tf, flags, tg, inF, text, tt, ho, hcls, hd, h11, h11', h18, h7, h9, h10⟩ := hca
  obtain ⟨hPN, ps, hps, htr, hok⟩ := r.tabs P hP
  have hne : c ≠ P := fun q => (r.K _ (mem_lookup ho)).2.1 (q ▸ hP)
  have ho' := r.KIn _ _ ho
  have hcode : s.heap.IsCode c P ps := ⟨o, vs, file, tf, flags, tg, inF, text, tt, _, ho', hd, h11', h18, h7, h9, h10, hps, rfl, htr, hne⟩
  cases hf : codeAmong pos ps.toList with
  | some c' => exact wpAny_genexprCode_hit hc hcode hf (h g s c' r (.refl ..))
  | none =>
    refine wpAny_genexprCodeX hc hcode ⟨⟨o, vs, ho', hcls, hd, h11⟩, hps⟩ hf fun c' h' tk hx hge hlt _ hrec htab _ => ?_
    obtain ⟨r', d'⟩ := r.grow (tk := tk) hP hps hx hge hlt htab.2 (hq ▸ hrec)
    exact h _ _ _ r' d'
theorem GR.same {s' : Shared} (r : GR C g σ s) (e : s'.heap = s.heap) : GR C g σ s' := by
  obtain ⟨a, b, c, d, f, i, l, p, t, m⟩ := r
  exact ⟨a, by rw [e]; exact b, by rw [e]; exact c, by rw [e]; exact d, by rw [e]; exact f, i, by rw [e]; exact l, by rw [e]; exact p, by rw [e]; exact t, m⟩
theorem GR.moved {s' : Shared} {wr : List Addr} (r : GR C g σ s) (hw : Free C g wr) (k : ∀ b o, b ∉ wr → s.heap.get? b = some o → s'.heap.get? b = some o) (hs : s.heap.objs.size ≤ s'.heap.objs.size)
    (ho : s'.os = s.os) (hd : s'.drawn = s.drawn) (hg : AllBare s.gens → AllBare s'.gens) : GR C g σ s' ∧ Gd C wr g s g s' := by
  obtain ⟨r', d⟩ := r.loop (tk := s'.toks) hw k hs
  exact ⟨r'.same rfl, ⟨d.keep, d.tabs, d.size, d.ρ, d.ρn, d.P, d.Pn, ho, hd, hg⟩⟩
theorem passing_all (n : Nat) : passing (fun _ => true) n 0 = List.range n := by
  unfold passing
  simp
theorem ne_add {n a b : Nat} (h : a ≠ b) : n + a ≠ n + b := fun e => h (Nat.add_left_cancel e)
theorem ne_low {n l a : Nat} (h : l < n) : n + a ≠ l := Nat.ne_of_gt (Nat.lt_of_lt_of_le h (Nat.le_add_right n a))
theorem zipApart_of (n l1 l2 : Nat) (h1 : l1 < n) (h2 : l2 < n) : ZipApart (n + 4) (n + 2) (n + 3) n (n + 1) l1 l2 := by
  constructor <;> first | exact ne_add (by decide) | exact ne_add (b := 0) (by decide) | exact ne_add (a := 0) (by decide) | exact ne_low h1 | exact ne_low h2 | exact ne_low (a := 0) h1 | exact ne_low (a := 0) h2 | exact (ne_low h1).symm | exact (ne_low h2).symm | exact (ne_low (a := 0) h1).symm | exact (ne_low (a := 0) h2).symm
theorem mem4 {n b : Nat} (h : b ∈ [n + 4, n + 3, n, n + 1]) : n ≤ b ∧ b < n + 5 := by
  have key : ∀ k, k < 5 → b = n + k → n ≤ b ∧ b < n + 5 := fun k hk e => e ▸ ⟨Nat.le_add_right n k, Nat.add_lt_add_left hk n⟩
  simp only [List.mem_cons, List.not_mem_nil, or_false] at h
  rcases h with h | h | h | h
  · exact key 4 (by decide) h
  · exact key 3 (by decide) h
  · exact key 0 (by decide) h
  · exact key 1 (by decide) h
theorem mem7 {n b l1 l2 : Nat} (h : b ∈ [n + 4, n + 2, n + 3, n, n + 1, l1, l2]) : (n ≤ b ∧ b < n + 5) ∨ b = l1 ∨ b = l2 := by
  simp only [List.mem_cons, List.not_mem_nil, or_false] at h
  rcases h with h | h | h | h | h | h
  · exact .inl (mem4 (by simp [h]))
  · exact .inl (h ▸ ⟨Nat.le_add_right n 2, Nat.add_lt_add_left (by decide) n⟩)
  · exact .inl (mem4 (by simp [h]))
  · exact .inl (mem4 (by simp [h]))
  · exact .inl (mem4 (by simp [h]))
  · exact .inr h
theorem two_pairs {a b c d : Int} {h : Heap} {vs : List Value} (z : VRs C g h [.tup [.int a, .int b], .tup [.int c, .int d]] vs) : ∃ l1 l2 ta tb tc td, vs = [.ref l1, .ref l2] ∧ g.P l1 ∧ g.P l2 ∧ h.IsTuple l1 #[.int a ta, .int b tb] ∧ h.IsTuple l2 #[.int c tc, .int d td] := by
  have one : ∀ {a b : Int} {x : Value}, VR C g h (.tup [.int a, .int b]) x → ∃ l ta tb, x = .ref l ∧ g.P l ∧ h.IsTuple l #[.int a ta, .int b tb] := by
    intro a b x hx
    refine via_p fun P kP => ?_
    obtain ⟨l, xs, rfl, hp, ho, hl⟩ := hx.inv
    refine kP ?_
    clear kP P
    refine via_p fun P kP => ?_
    obtain ⟨u, v, rfl, hu, hv⟩ := hl.inv2
    refine kP ?_
    clear kP P
    obtain ⟨t, rfl⟩ := hu.inv
    obtain ⟨t', rfl⟩ := hv.inv
    exact ⟨l, t, t', rfl, hp, ho⟩
  refine via_p fun P kP => ?_
  obtain ⟨x, y, rfl, hx, hy⟩ := z.inv2
  refine kP ?_
  clear kP P
  refine via_p fun P kP => ?_
  obtain ⟨l1, ta, tb, rfl, p1, o1⟩ := one hx
  refine kP ?_
  clear kP P
  refine via_p fun P kP => ?_
  obtain ⟨l2, tc, td, rfl, p2, o2⟩ := one hy
  refine kP ?_
  clear kP P
  exact ⟨l1, l2, ta, tb, tc, td, rfl, p1, p2, o1, o2⟩
theorem acc_pair {acc : Array Value} {x y : Int} (hacc : ItemsOf (fun j v => ∃ i, (passing (fun _ => true) 2 0)[j]? = some i ∧ ∃ t, v = Value.int (if i = 0 then x else y) t) acc (passing (fun _ => true) 2 0).length) : ∃ t u, acc = #[Value.int x t, Value.int y u] := by
  rw [passing_all] at hacc
  obtain ⟨hsz, hit⟩ := hacc
  obtain ⟨xs⟩ := acc
  obtain ⟨u, v, rfl⟩ := len2 hsz
  obtain ⟨i, hi, t, e⟩ := hit 0 u rfl
  obtain ⟨i', hi', t', e'⟩ := hit 1 v rfl
  obtain rfl : 0 = i := Option.some.inj hi
  obtain rfl : 1 = i' := Option.some.inj hi'
  exact ⟨t, t', by rw [e, e']; rfl⟩
theorem pair_at {a b c d : Int} {ta tb tc td : Tok} {i : Nat} {x y : Value} (hx : (#[Value.int a ta, Value.int b tb] : Array Value)[i]? = some x) (hy : (#[Value.int c tc, Value.int d td] : Array Value)[i]? = some y) :
    ∃ p q tp tq, x = Value.int p tp ∧ y = Value.int q tq ∧ p + q = (if i = 0 then a + c else b + d) := by
  match i, hx, hy with
  | 0, hx, hy => exact ⟨a, c, ta, tc, (Option.some.inj hx).symm, (Option.some.inj hy).symm, rfl⟩
  | 1, hx, hy => exact ⟨b, d, tb, td, (Option.some.inj hx).symm, (Option.some.inj hy).symm, rfl⟩
  | n + 2, hx, hy => exact nomatch hx
theorem tupgen_fin {g₂ g₄ : Gh} {σ₂ : Hp} {s₂ s₄ s₅ s₆ : Shared} {h' : Heap} {wr : List Addr} {m : MV} {o : Obj} (r₂ : Rel C g₂ σ₂ fm fa loc s₂) (D : Gd C fa g s g₂ s₂) (hk : ∀ b o, s₂.heap.get? b = some o → h'.get? b = some o) (hz : s₂.heap.objs.size ≤ h'.objs.size)
    (r₄ : GR C g₄ σ₂ s₄) (d₄ : Gd C [] g₂ { s₂ with heap := h' } g₄ s₄) (hwr : ∀ b ∈ wr, s₂.heap.objs.size ≤ b ∧ b < h'.objs.size) (r₅ : GR C g₄ σ₂ s₅) (d₅ : Gd C [] g₄ s₄ g₄ s₅)
    (k₆ : ∀ b o, b ∉ s₄.heap.objs.size :: wr → s₅.heap.get? b = some o → s₆.heap.get? b = some o) (hos : s₆.os = s₅.os) (hdr : s₆.drawn = s₅.drawn) (hg : AllBare s₅.gens → AllBare s₆.gens) (hz6 : s₅.heap.objs.size ≤ s₆.heap.objs.size)
    (hv : VR C (g₄.pin s₆.heap.objs.size) (s₆.heap.push o) m (.ref s₆.heap.objs.size)) (q : Q m σ₂) : Post C fm fa loc g s Q (.ref s₆.heap.objs.size) { s₆ with heap := s₆.heap.push o } := by
  have hz4 : h'.objs.size ≤ s₄.heap.objs.size := d₄.size
  have hlo : ∀ b ∈ s₄.heap.objs.size :: wr, s₂.heap.objs.size ≤ b := fun b hb => (List.mem_cons.mp hb).elim (fun e => e ▸ Nat.le_trans hz hz4) fun hb => (hwr b hb).1
  have F₂ : Free C g₄ (s₄.heap.objs.size :: wr) := fun b hb => (List.mem_cons.mp hb).elim (fun e => e ▸ (free_new r₄ _ (.head _))) fun hb =>
    ⟨Nat.le_trans r₂.gr.size (hwr b hb).1, fun n hn => (d₄.ρn n b hn).elim (fun q => Nat.lt_irrefl _ (Nat.lt_of_lt_of_le (r₂.gr.live n b q).2.1 (hwr b hb).1)) fun q => Nat.lt_irrefl _ (Nat.lt_of_lt_of_le (hwr b hb).2 q),
      fun hp => (d₄.Pn b hp).elim (fun q => Nat.lt_irrefl _ (Nat.lt_of_lt_of_le (r₂.gr.P b q).2 (hwr b hb).1)) fun q => Nat.lt_irrefl _ (Nat.lt_of_lt_of_le (hwr b hb).2 q)⟩
  obtain ⟨r₇, d₇⟩ := r₅.moved (s' := { s₆ with heap := s₆.heap.push o }) F₂ (fun b o' hb e => Heap.get?_push_of_some _ (k₆ b o' hb e)) (Nat.le_trans hz6 (size_push_le _ _)) hos hdr hg
  have h06 : s₂.heap.objs.size ≤ s₆.heap.objs.size := Nat.le_trans (Nat.le_trans hz hz4) (Nat.le_trans d₅.size hz6)
  have r₈ := r₇.pin (T := s₆.heap.objs.size) (Nat.le_trans r₂.gr.size h06) (by rw [Heap.size_push]; exact Nat.lt_succ_self _) fun n hn => Nat.lt_irrefl _ (Nat.lt_of_lt_of_le (r₅.live n _ hn).2.1 hz6)
  have d₃ : Gd C [] g₂ s₂ g₂ { s₂ with heap := h' } := .ext hk hz rfl rfl rfl
  have dN : Gd C [] g₂ s₂ g₄ s₅ := (d₃.trans d₄).trans d₅
  exact ⟨_, m, σ₂, r₂.step r₈ (((dN.weak fun a h => nomatch h).trans d₇).pin0 h06) (fun b hb => r₂.apart (hlo b hb)) (fun b hb hp => Nat.lt_irrefl _ (Nat.lt_of_lt_of_le (r₂.gr.P b hp).2 (hlo b hb))), hv,
    ((D.trans (dN.weak fun a h => nomatch h)).loopD d₇ fun b hb => Nat.le_trans D.size (hlo b hb)).pin0 (Nat.le_trans D.size h06), q⟩
theorem ev_tupgen {e1 e2 : Expr} {xt xz xa xb : Str} {np zp pa pb pt pa' pb' ep zpos gpos pos : Pos} {kt : Nat} {scope : Scope} {c P : Addr} {nm : Value} (hh : A.handled = none) (hroom : A.depth < recursionLimit)
    (hxt : fm.env.kindOf xt = some .globalImplicit) (t1 : nsIn C.K mainGlobals xt = some none) (t2 : nsIn C.K builtinsNs xt = some (some (.type "tuple")))
    (hxz : fm.env.kindOf xz = some .globalImplicit) (z1 : nsIn C.K mainGlobals xz = some none) (z2 : nsIn C.K builtinsNs xz = some (some (.type "zip")))
    (h : EvL C A fm [e1, e2] loc σ fun ms σ₁ => ∃ a b c d : Int, ms = [.tup [.int a, .int b], .tup [.int c, .int d]] ∧ Q (.tup [.int (a + c), .int (b + d)]) σ₁)
    (M : MkOk C.K nm) (hc : fm.env.code = .ref c) (hca : CodeAt C.K c P) (hP : P ∈ C.tabs) (hq : C.tq P gpos.line gpos.col = fm.env.qual ++ "<genexpr>")
    (hco : scope.isCoroutine = false) (hfree : ∀ y ∈ scope.names, y.2 ≠ .free) (hcell : ∀ y ∈ scope.names, y.2 ≠ .cell) (h0 : scope.names.lookup (".0" : Str) = some NameKind.local)
    (hxa : scope.names.lookup xa = some .local) (hxb : scope.names.lookup xb = some .local) (hab : xa ≠ xb) (hkind : scope.kind = .function)
    (hs : (starEach [e1, e2] fm.env).all (fun p => !p.1) = true := by rfl) (hd : (xt == ("__debug__" : Str)) = false := by decide) (hdz : (xz == ("__debug__" : Str)) = false := by decide) (hda : (xa == ("__debug__" : Str)) = false := by decide) (hdb : (xb == ("__debug__" : Str)) = false := by decide)
    (hf : ∀ x, genFold (.Call (.Name xz zp) [e1, e2] [] zpos) fm.env x = pure x := by intro _; rfl) :
    Ev C A fm (.Call (.Name xt np) [.GeneratorExp (.BinOp (.Name xa pa') .Add (.Name xb pb') ep) [⟨.Tuple [.Name xa pa, .Name xb pb] kt pt, .Call (.Name xz zp) [e1, e2] [] zpos, [], 0⟩] scope gpos] [] pos) loc σ Q := fun fa g s r => by
  refine wpAny_Call_NameR (wpAny_mono (ev_bi (Q := fun m σ₁ => m = .val (.type "tuple") ∧ σ₁ = σ) hxt t1 t2 ⟨rfl, rfl⟩ hd fa g s r) ?_ fun _ _ e => e)
  rintro v s₁ hX2
  refine via_p fun P kP => ?_
  obtain ⟨g₁, m, σ₁, r₁, hv, d₁, rfl, rfl⟩ := hX2
  refine kP ?_
  clear kP P
  obtain rfl := hv.inv
  show wpAny _ A (callWith pos (.type "tuple") [] (backTo pos [(false, eval _ fm.env)]) []) _ _ _
  refine (Callable.ty "tuple").with (by simp [backTo]) (Calls.evalArgs_plain (Calls.spliced_cons ?_))
  refine wpAny_GeneratorExp_walksQT hh hco (cl := clOf scope fm.env) (closureFor_eq fun n hn => absurd rfl (hfree _ hn)) hcell h0 hxa hxb hab hkind hroom ?_ hf
  refine ev_callee hxz z1 z2 hs h r₁ ?_ hdz
  rintro g₂ σ₂ s₂ ms vs r₂ hvs d₂ hX8
  refine via_p fun P kP => ?_
  obtain ⟨a, b, c', d, rfl, q⟩ := hX8
  refine kP ?_
  clear kP P
  refine via_p fun P kP => ?_
  obtain ⟨l1, l2, ta, tb, tc, td, rfl, hp1, hp2, ht1, ht2⟩ := two_pairs hvs
  refine kP ?_
  clear kP P
  refine call_zipT ht1 ht2 fun h' S hz hk => ?_
  refine wpAny_pyIter_zip S.z ?_
  have hl1 := (r₂.gr.P _ hp1).2
  have hl2 := (r₂.gr.P _ hp2).2
  have D : ZipApart (s₂.heap.objs.size + 4) (s₂.heap.objs.size + 2) (s₂.heap.objs.size + 3) s₂.heap.objs.size (s₂.heap.objs.size + 1) l1 l2 := zipApart_of _ _ _ hl1 hl2
  have hzz : s₂.heap.objs.size ≤ h'.objs.size := hz ▸ Nat.le_add_right _ _
  have r₃ : Rel C g₂ σ₂ fm fa loc { s₂ with heap := h' } := r₂.ext hk hzz
  refine ⟨r₃.gr.lim, ?_⟩
  refine mk_gcode r₃.gr hc hca hP hq fun g₄ s₄ cv r₄ d₄ => ?_
  refine via_p fun P kP => ?_
  obtain ⟨bm, ob, m1, m2, m3, m4, m5, m6⟩ := M.bi
  refine kP ?_
  clear kP P
  have hg : s₄.heap.Ns mainGlobals (s₄.heap.nsMap mainGlobals) := .of_isNs (isNs_of_in r₄.KIn M.ns)
  have hgl : fm.env.globals = mainGlobals := r.fr.glob
  rw [hgl]
  refine wpAny_builtinsFor hg (mg_of r₄.KIn hg m1) m2 (r₄.KIn _ _ m3) m4 m5 m6 ?_
  have keepNew : ∀ b o, s₂.heap.objs.size ≤ b → h'.get? b = some o → s₄.heap.get? b = some o := fun b o hb e =>
    d₄.keep b o e (fun n hn => Nat.lt_irrefl _ (Nat.lt_of_lt_of_le (r₂.gr.live n b hn).2.1 hb)) (by simp) fun q => Nat.lt_irrefl _ (Nat.lt_of_lt_of_le (r₂.gr.tabs b q).1 (Nat.le_trans r₂.gr.size hb))
  have keepP : ∀ b o, g₂.P b → h'.get? b = some o → s₄.heap.get? b = some o := fun b o hb e => (r₃.gr.ge d₄).keep b o hb e
  have S₄ : ZipSt s₄.heap (s₂.heap.objs.size + 4) (s₂.heap.objs.size + 2) (s₂.heap.objs.size + 3) s₂.heap.objs.size (s₂.heap.objs.size + 1) l1 l2 .none 0 #[.int a ta, .int b tb] #[.int c' tc, .int d td] := by
    refine S.at fun b hb o e => ?_
    rcases mem7 hb with q | rfl | rfl
    · exact keepNew _ _ q.1 e
    · exact keepP _ _ hp1 e
    · exact keepP _ _ hp2 e
  have hz4 : h'.objs.size ≤ s₄.heap.objs.size := d₄.size
  have hlt : ∀ b ∈ [s₂.heap.objs.size + 4, s₂.heap.objs.size + 2, s₂.heap.objs.size + 3, s₂.heap.objs.size, s₂.heap.objs.size + 1, l1, l2], b < s₄.heap.objs.size := fun b hb => by
    refine Nat.lt_of_lt_of_le ?_ hz4
    rcases mem7 hb with q | rfl | rfl
    · exact hz ▸ q.2
    · exact Nat.lt_of_lt_of_le hl1 hzz
    · exact Nat.lt_of_lt_of_le hl2 hzz
  have hcs : cStatics < C.N0 := Nat.lt_of_lt_of_le (by decide) r.gr.lo
  refine ⟨s₂.heap.objs.size + 4, [s₂.heap.objs.size + 4, s₂.heap.objs.size + 2, s₂.heap.objs.size + 3, s₂.heap.objs.size, s₂.heap.objs.size + 1, l1, l2], [s₂.heap.objs.size + 4, s₂.heap.objs.size + 3, s₂.heap.objs.size, s₂.heap.objs.size + 1], 2, _,
    (fun i h => ZipSt h (s₂.heap.objs.size + 4) (s₂.heap.objs.size + 2) (s₂.heap.objs.size + 3) s₂.heap.objs.size (s₂.heap.objs.size + 1) l1 l2 .none i #[.int a ta, .int b tb] #[.int c' tc, .int d td]), _, fun _ => true,
    (fun i v => ∃ t, v = .int (if i = 0 then a + c' else b + d) t), rfl, (fun A' hA' => (walksT_zipT (xs := #[.int a ta, .int b tb]) (ys := #[.int c' tc, .int d td]) hA' D).toU), ?_, S₄, hlt, r₄.lim, ?_, ?_, ?_⟩
  · rintro i vals ⟨x, y, _, _, rfl⟩; exact ⟨_, _, rfl⟩
  · exact fun hb => Nat.not_lt.mpr (mem4 hb).1 (Nat.lt_of_lt_of_le hcs r₂.gr.size)
  · intro href hhref
    refine ⟨fun A' E' i va vb s₂ m₂ hA' hPt hn ha hb hkk => ?_, fun A' E' i va vb s₅ m₂ hA' hPt _ hn ha hb hkk => ?_⟩
    · rw [List.forIn_nil]
      exact wpAny_pure ⟨rfl, s₂.heap, s₂.toks, rfl, fun _ _ e => e⟩
    · refine via_p fun P kP => ?_
      obtain ⟨x, y, hx, hy, e⟩ := hPt
      refine kP ?_
      clear kP P
      refine via_p fun P kP => ?_
      obtain ⟨p, q, tp, tq, rfl, rfl, hpq⟩ := pair_at hx hy
      refine kP ?_
      clear kP P
      simp only [Array.mk.injEq, List.cons.injEq, and_true] at e
      obtain ⟨rfl, rfl⟩ := e
      refine wpAny_BinOp (wpAny_Name (wpAny_loadName_local hkind hxa hn ha ?_) hda)
      refine wpAny_Name (wpAny_loadName_local hkind hxb hn hb ?_) hdb
      exact add_int ⟨⟨_, by rw [hpq]⟩, s₅.heap, _, rfl, fun _ _ e => e⟩
  · intro ga h₅ tk gs hbare hga hz5 hk5 W5 G5
    refine Calls.spliced_nil ?_
    have hm5 : ∀ b o, s₄.heap.get? b = some o → h₅.get? b = some o := hk5
    obtain ⟨r₅, d₅⟩ := r₄.moved (wr := []) (s' := { s₄ with gens := s₄.gens.push gs, toks := tk, heap := h₅ }) (fun _ hb => nomatch hb) (fun b o _ e => hm5 b o e) (hz5 ▸ Nat.le_succ_of_le (Nat.le_of_lt hga)) rfl rfl (fun x => x.push hbare)
    refine ⟨⟨g₄, σ₂, r₅⟩, ?_⟩
    show wpAny _ A (call (.type "tuple") [.ref ga]) _ _ _
    refine call_tuple_gen (hsz := by rw [passing_all, List.length_range]; decide) W5.in4_3 (fun i s h => h.1.typeIs) G5 (fun b hb => ?_) (.head _) fun s₆ acc hm hacc => ?_
    · show b < h₅.objs.size
      rw [hz5]
      rcases List.mem_cons.mp hb with e | hb
      · rw [e]; exact Nat.lt_succ_self _
      rcases List.mem_cons.mp hb with e | hb
      · rw [e]; exact Nat.lt_succ_of_lt hga
      · exact Nat.lt_succ_of_lt (Nat.lt_trans (List.mem_range.mp hb) hga)
    refine via_p fun P kP => ?_
    obtain ⟨og, gx, gy, hog, _⟩ := G5.1
    refine kP ?_
    clear kP P
    have hga6 : s₆.heap.get? ga = some og := hm.heap ga og (fun hb => by
      rcases List.mem_cons.mp hb with e | hb
      · exact Nat.lt_irrefl _ (e ▸ hga)
      · exact Nat.lt_irrefl _ (Nat.lt_of_lt_of_le (mem4 hb).2 (Nat.le_trans (Nat.le_of_eq hz.symm) (Nat.le_trans hz4 (Nat.le_of_lt hga))))) hog
    have hz6 : h₅.objs.size ≤ s₆.heap.objs.size := hz5 ▸ Heap.lt_size hga6
    obtain ⟨t, u, rfl⟩ := acc_pair hacc
    exact tupgen_fin r₂ (d₁.trans d₂) hk hzz r₄ d₄ (wr := [s₂.heap.objs.size + 4, s₂.heap.objs.size + 3, s₂.heap.objs.size, s₂.heap.objs.size + 1]) (fun b hb => hz ▸ mem4 hb) r₅ d₅ hm.heap hm.os hm.drawn
      (fun x => AllBare.movedS (s := { s₄ with gens := s₄.gens.push gs, toks := tk, heap := h₅ }) (s' := s₆) x hm) hz6 (.tup (.inl rfl) (isTuple_of (Heap.get?_push_size _ rfl)) (.cons (.int ..) (.cons (.int ..) .nil))) q
end
end
section
mutual
inductive Fz (σ : Hp) : MV → MV → Prop
  | ok {m : MV} : Ok (fun _ => False) m → Fz σ m m
  | lst {n : Nat} {l l' : List MV} : σ n = some (.list l) → Fzs σ l l' → Fz σ (.ref n) (.lst l')
  | dct {n : Nat} {l l' : List (Str × MV)} : σ n = some (.dict l) → Fzd σ l l' → Fz σ (.ref n) (.dct l')
  | tup {l l' : List MV} : Fzs σ l l' → Fz σ (.tup l) (.tup l')
  | lstF {l l' : List MV} : Fzs σ l l' → Fz σ (.lst l) (.lst l')
inductive Fzs (σ : Hp) : List MV → List MV → Prop
  | nil : Fzs σ [] []
  | cons {m m' : MV} {l l' : List MV} : Fz σ m m' → Fzs σ l l' → Fzs σ (m :: l) (m' :: l')
inductive Fzd (σ : Hp) : List (Str × MV) → List (Str × MV) → Prop
  | nil : Fzd σ [] []
  | cons {k : Str} {m m' : MV} {l l' : List (Str × MV)} : Fz σ m m' → Fzd σ l l' → Fzd σ ((k, m) :: l) ((k, m') :: l')
end
noncomputable def gF (C : Cx) (g : Gh) (s : Shared) : Gh := leave (fun _ => False) g C.N0 s.heap.objs.size
section
variable {C : Cx} {A : Around} {fm : Fm} {fa : List Addr} {loc : Loc} {σ : Hp} {g : Gh} {s : Shared} {Q Q' : MV → Hp → Prop} {QS : Fl → Loc → Hp → Prop}
theorem Fz.lab {n : Nat} {a : Addr} (r : GR C g σ s) (ha : g.ρ n = some a) : (gF C g s).P a := .inr ⟨(r.live _ _ ha).1, (r.live _ _ ha).2.1, fun k hk => hk.elim⟩
theorem Fz.list {n : Nat} {l l' : List MV} {v : Value} (r : GR C g σ s) (hσ : σ n = some (.list l)) (k : ∀ xs, VRs C g s.heap l xs → VRs C (gF C g s) s.heap l' xs) (hv : VR C g s.heap (.ref n) v) : VR C (gF C g s) s.heap (.lst l') v := by
  obtain ⟨a, rfl, ha⟩ := hv.inv
  obtain ⟨b, hb, ho⟩ := r.heap _ _ hσ
  obtain rfl := Option.some.inj (ha.symm.trans hb)
  cases ho with
  | list ho hx => exact .lst (Fz.lab r ha) ho (k _ hx)
theorem Fz.dict {n : Nat} {l l' : List (Str × MV)} {v : Value} (r : GR C g σ s) (hσ : σ n = some (.dict l)) (k : ∀ xs, VRd C g s.heap l xs → VRd C (gF C g s) s.heap l' xs) (hv : VR C g s.heap (.ref n) v) : VR C (gF C g s) s.heap (.dct l') v := by
  obtain ⟨a, rfl, ha⟩ := hv.inv
  obtain ⟨b, hb, ho⟩ := r.heap _ _ hσ
  obtain rfl := Option.some.inj (ha.symm.trans hb)
  cases ho with
  | dict ho hx => exact .dct (Fz.lab r ha) ho (k _ hx)
theorem Fz.run (r : GR C g σ s) {m m' : MV} {v : Value} (z : Fz σ m m') (x : VR C g s.heap m v) : VR C (gF C g s) s.heap m' v :=
  Fz.rec (motive_1 := fun m m' _ => ∀ v, VR C g s.heap m v → VR C (gF C g s) s.heap m' v) (motive_2 := fun l l' _ => ∀ v, VRs C g s.heap l v → VRs C (gF C g s) s.heap l' v) (motive_3 := fun l l' _ => ∀ v, VRd C g s.heap l v → VRd C (gF C g s) s.heap l' v)
    (fun o _ hv => hv.lose leave_gl o) (fun hσ _ ih _ hv => Fz.list r hσ ih hv) (fun hσ _ ih _ hv => Fz.dict r hσ ih hv) (fun _ ih _ hv => hv.inv.elim fun _ y => y.elim fun _ y => y.1 ▸ .tup (.inl y.2.1) y.2.2.1 (ih _ y.2.2.2))
    (fun _ ih _ hv => hv.inv.elim fun _ y => y.elim fun _ y => y.1 ▸ .lst (.inl y.2.1) y.2.2.1 (ih _ y.2.2.2)) (fun _ h => h.inv ▸ .nil) (fun _ _ a b _ h => h.inv.elim fun _ y => y.elim fun _ y => y.1 ▸ .cons (a _ y.2.1) (b _ y.2.2))
    (fun _ h => h.inv ▸ .nil) (fun _ _ a b _ h => h.inv.elim fun _ y => y.elim fun _ y => y.1 ▸ .cons (a _ y.2.1) (b _ y.2.2)) z v x
theorem Fzs.run (r : GR C g σ s) {l l' : List MV} {w : List Value} (z : Fzs σ l l') (x : VRs C g s.heap l w) : VRs C (gF C g s) s.heap l' w :=
  Fzs.rec (motive_1 := fun m m' _ => ∀ v, VR C g s.heap m v → VR C (gF C g s) s.heap m' v) (motive_2 := fun l l' _ => ∀ v, VRs C g s.heap l v → VRs C (gF C g s) s.heap l' v) (motive_3 := fun l l' _ => ∀ v, VRd C g s.heap l v → VRd C (gF C g s) s.heap l' v)
    (fun o _ hv => hv.lose leave_gl o) (fun hσ _ ih _ hv => Fz.list r hσ ih hv) (fun hσ _ ih _ hv => Fz.dict r hσ ih hv) (fun _ ih _ hv => hv.inv.elim fun _ y => y.elim fun _ y => y.1 ▸ .tup (.inl y.2.1) y.2.2.1 (ih _ y.2.2.2))
    (fun _ ih _ hv => hv.inv.elim fun _ y => y.elim fun _ y => y.1 ▸ .lst (.inl y.2.1) y.2.2.1 (ih _ y.2.2.2)) (fun _ h => h.inv ▸ .nil) (fun _ _ a b _ h => h.inv.elim fun _ y => y.elim fun _ y => y.1 ▸ .cons (a _ y.2.1) (b _ y.2.2))
    (fun _ h => h.inv ▸ .nil) (fun _ _ a b _ h => h.inv.elim fun _ y => y.elim fun _ y => y.1 ▸ .cons (a _ y.2.1) (b _ y.2.2)) z w x
theorem GR.fz (r : GR C g σ s) : GR C (gF C g s) (restr (fun _ => False) σ) s := r.leave (Nat.le_refl _) fun _ _ h => h.elim
theorem op_eqF {n : Nat} {l l' f f' : List MV} (hu : A.units + n + 1 < cLine) (h1 : Fzs σ l f) (h2 : Fzs σ l' f') (h : Sames n f f') (q : Q (.bool true) σ) : Op2 C A fm (compareOp .Eq) (.tup l) (.tup l') loc σ Q := by
  intro fa g s x y r hx hy
  obtain ⟨a, xs, rfl, hp, ho, hl⟩ := hx.inv
  obtain ⟨b, ys, rfl, hp', ho', hl'⟩ := hy.inv
  obtain ⟨e, hz⟩ := Sames.zip (g := gF C g s) (Pr := fun u v => EqIn C A.in1 s u v true) (fun a b c => Same.run r.gr.fz n (by rw [units_in1, Nat.add_right_comm]; exact hu) a b c) h (h1.run r.gr hl) (h2.run r.gr hl')
  exact tup_eqc ho ho' (Nat.lt_of_le_of_lt (Nat.le_trans (Nat.le_add_right _ _) (Nat.le_add_right _ _)) hu) e hz (.now r (.bool ..) q)
theorem op_neF {n : Nat} {l l' f f' : List MV} (hu : A.units + n + 1 < cLine) (h1 : Fzs σ l f) (h2 : Fzs σ l' f') (h : Sames n f f') (q : Q (.bool false) σ) : Op2 C A fm (compareOp .NotEq) (.tup l) (.tup l') loc σ Q := by
  intro fa g s x y r hx hy
  obtain ⟨a, xs, rfl, hp, ho, hl⟩ := hx.inv
  obtain ⟨b, ys, rfl, hp', ho', hl'⟩ := hy.inv
  obtain ⟨e, hz⟩ := Sames.zip (g := gF C g s) (Pr := fun u v => EqIn C A.in1 s u v true) (fun a b c => Same.run r.gr.fz n (by rw [units_in1, Nat.add_right_comm]; exact hu) a b c) h (h1.run r.gr hl) (h2.run r.gr hl')
  exact tup_nec ho ho' (Nat.lt_of_le_of_lt (Nat.le_trans (Nat.le_add_right _ _) (Nat.le_add_right _ _)) hu) e hz (.now r (.bool ..) q)
theorem ex_compT (ℓ : Nat) {x : Str} {px : Pos} {spos : Pos} {elt : Expr} {tg iter : Expr} {ifs : List Expr} {rest : List Comprehension} {scope : Scope} {pos : Pos} (H : CompOk scope fm.env) (n : Nat) (item : Nat → MV) (J : Hp → Prop) (Inv : Nat → Loc → Hp → List MV → Prop)
    (h : WalkE C A fm tg iter loc σ n item J fun σ₁ => Inv 0 (cLoc scope loc) σ₁ []) (hn : ∀ g', rest[0]? = some g' → g'.is_async = 0)
    (turn : ∀ L a i l σ ys, i < n → Inv i l σ ys → J σ → St C A (cFm scope fm.env L) tg (item i) l σ fun l₁ σ₁ => Ifs C A (cFm scope fm.env L) ifs l₁ σ₁ fun ok σ₂ =>
      if ok then Inn C A (cFm scope fm.env L) a (innerOf elt (⟨tg, iter, ifs, 0⟩ :: rest) scope pos 0 (.ref a) (cEnv scope fm.env L)) ys l₁ σ₂ fun l₂ σ₃ ys' => Inv (i + 1) l₂ σ₃ ys' ∧ J σ₃ else Inv (i + 1) l₁ σ₂ ys ∧ J σ₂)
    (fin : ∀ l σ' ys, Inv n l σ' ys → J σ' → σ' ℓ = none ∧ QS .next (loc.set x (.ref ℓ)) (σ'.set ℓ (.list ys))) (hx : canSt fm x)
    (hsw : swapsWith (.ListComp elt (⟨tg, iter, ifs, 0⟩ :: rest) scope pos) (some (.Name x px)) spos.line fm.env = pure true) (hs : ∀ x, foldedSetIterable iter fm.env x = pure x := by intro _; rfl) :
    Ex C A fm (.Assign [.Name x px] (.ListComp elt (⟨tg, iter, ifs, 0⟩ :: rest) scope pos) spos) loc σ QS := fun fa g s r => by
  show wpAny _ A (exec (.Assign [.Name x px] (.ListComp elt (⟨tg, iter, ifs, 0⟩ :: rest) scope pos) spos) fm.env) _ _ _
  rw [exec_Assign_Name_used _ _ _ _ hsw]
  refine wpAny_bind (wpAny_standAt (wpAny_bind ?_))
  show wpAny _ A (do let _ ← comprehension (.ListComp elt (⟨tg, iter, ifs, 0⟩ :: rest) scope pos) scope fm.env _ (newList []) false (eval iter fm.env) (some (assign (.Name x px) fm.env))) _ _ s
  refine wpAny_bind (wpAny_mono (comp_core (use := some (assign (.Name x px) fm.env)) (R := fun _ s' => PostS C fm fa g s QS .next s') H n item J Inv h hn turn r (fun g' σ' s' a L l ys B ns hI hJ => ?_) hs) (fun _ s' hq => wpAny_pure (wpAny_pure hq)) fun _ _ e => e)
  obtain ⟨hf, q⟩ := fin l σ' ys hI hJ
  refine via_p fun P kP => ?_
  obtain ⟨rr, hv, d⟩ := B.trk hf
  refine kP ?_
  clear kP P
  refine wpAny_assign_Name (store_name rr hv hx fun s'' r'' d'' => ?_)
  refine via_p fun P kP => ?_
  obtain ⟨m, o, es, ep, ho, q'⟩ := ns
  refine kP ?_
  clear kP P
  have hFL := B.free L (.tail _ (.head _))
  have hL2 : ∀ k, (g'.set ℓ a).ρ k ≠ some L := fun k e => by
    rcases set_cases e with ⟨_, e⟩ | ⟨_, e⟩
    · exact B.ne e.symm
    · exact hFL.2.1 k e
  have kL : ∀ o, s'.heap.get? L = some o → s''.heap.get? L = some o := fun o e => d''.keep L o e hL2 B.apL.2.1 fun q => Nat.lt_irrefl _ (Nat.lt_of_lt_of_le (rr.gr.tabs L q).1 hFL.1)
  refine ⟨m, ⟨o, es, ep, kL _ ho, q'⟩, fun h' hb => ?_⟩
  have hF : Free C (g'.set ℓ a) [L] := fun b hb => by
    rw [List.mem_singleton.mp hb]
    exact ⟨hFL.1, hL2, hFL.2.2⟩
  obtain ⟨gr, dd⟩ := r''.gr.loop (tk := s''.toks) (wr := [L]) hF (fun b o hn e => hb.extBut b o (fun q => hn (by rw [q]; exact .head _)) e) (Nat.le_of_eq hb.1.symm)
  have r3 := r''.step gr dd (fun b hb => by rw [List.mem_singleton.mp hb]; exact B.apL.2) (fun b hb => (hF b hb).2.2)
  refine ⟨_, .next, _, _, r3, .next, ?_, q⟩
  exact (((d.trans d'').weak (fa := L :: fa) fun b h => .inl (.tail _ h)).trans (dd.weak fun b h => .inl (by rw [List.mem_singleton.mp h]; exact .head _))).weak (fun b h => (List.mem_cons.mp h).elim (fun q => .inr (q ▸ B.apL.1)) .inl)
end
end
section
structure Ar (A : Around) (n : Nat) : Prop where
  d : A.depth + n ≤ 900
  u : A.units + 20 * n ≤ 9000
  h : A.handled = none
theorem Ar.deeper {A : Around} {n : Nat} (h : Ar A (n + 1)) (env : Env) : Ar (A.deeper env) n := ⟨by have := h.d; show A.depth + 1 + n ≤ 900; (first | lia | omega), by have := h.u; show A.units + 3 + 20 * n ≤ 9000; (first | lia | omega), h.h⟩
theorem Ar.in1 {A : Around} {n : Nat} (h : Ar A (n + 1)) : Ar A.in1 n := ⟨by have := h.d; show A.depth + n ≤ 900; (first | lia | omega), by have := h.u; show A.units + 1 + 20 * n ≤ 9000; (first | lia | omega), h.h⟩
theorem Ar.make {A : Around} {n : Nat} (h : Ar A (n + 1)) (c : Addr) (rest : List Value) : Ar (A.under (.builtin "type.__call__" ⟨.ref c :: rest, []⟩)) n :=
  ⟨by have := h.d; show A.depth + 1 + n ≤ 900; (first | lia | omega), by have := h.u; show A.units + 1 + 20 * n ≤ 9000; (first | lia | omega), h.h⟩
theorem Ar.le {A : Around} {m n : Nat} (h : Ar A n) (hm : m ≤ n := by (first | lia | omega)) : Ar A m := ⟨by have := h.d; (first | lia | omega), by have := h.u; (first | lia | omega), h.h⟩
theorem Ar.room {A : Around} {n : Nat} (h : Ar A n) : A.depth < recursionLimit := by have := h.d; have : recursionLimit = 1000 := rfl; (first | lia | omega)
theorem Ar.cl {A : Around} {n : Nat} (h : Ar A n) : A.units + 800 < cLine := by have := h.u; have : cLine = 9900 := rfl; (first | lia | omega)
theorem lt3 {motive : (w : Nat) → w < 3 → Prop} (h0 : motive 0 (by decide)) (h1 : motive 1 (by decide)) (h2 : motive 2 (by decide)) (w : Nat) (hw : w < 3) : motive w hw :=
  Nat.rec (motive := fun w => ∀ hw, motive w hw) (fun _ => h0) (fun w _ => Nat.rec (motive := fun w => ∀ hw, motive (w + 1) hw) (fun _ => h1) (fun w _ => Nat.rec (motive := fun w => ∀ hw, motive (w + 2) hw) (fun _ => h2)
    (fun w _ hw => absurd hw (Nat.not_lt.mpr (Nat.le_add_left 3 w))) w) w) w hw
theorem lt4 {motive : (w : Nat) → w < 4 → Prop} (h0 : motive 0 (by decide)) (h1 : motive 1 (by decide)) (h2 : motive 2 (by decide)) (h3 : motive 3 (by decide)) (w : Nat) (hw : w < 4) : motive w hw :=
  Nat.rec (motive := fun w => ∀ hw, motive w hw) (fun _ => h0) (fun w _ => Nat.rec (motive := fun w => ∀ hw, motive (w + 1) hw) (fun _ => h1) (fun w _ => Nat.rec (motive := fun w => ∀ hw, motive (w + 2) hw) (fun _ => h2)
    (fun w _ => Nat.rec (motive := fun w => ∀ hw, motive (w + 3) hw) (fun _ => h3) (fun w _ hw => absurd hw (Nat.not_lt.mpr (Nat.le_add_left 4 w))) w) w) w) w hw
theorem cnt_ne {sg : List Nat} (hl : sg.length ≤ 1) (hne : sg ≠ [10]) : sg.count 10 = 0 :=
  List.count_eq_zero.mpr fun hm => hne (by
    cases hm with
    | head l => rw [List.eq_nil_of_length_eq_zero (Nat.le_zero.mp (Nat.le_of_succ_le_succ hl))]
    | tail b h => rw [List.eq_nil_of_length_eq_zero (Nat.le_zero.mp (Nat.le_of_succ_le_succ hl))] at h; cases h)
noncomputable def nth : List Stmt → Nat → Stmt
  | [], _ => .Pass ⟨0, 0, 0, 0⟩
  | s :: _, 0 => s
  | _ :: l, n + 1 => nth l n
noncomputable def dfArgs : Stmt → Arguments
  | .FunctionDef _ a _ _ _ _ _ _ _ _ => a
  | _ => ⟨[], [], none, [], [], none, []⟩
noncomputable def dfBody : Stmt → List Stmt
  | .FunctionDef _ _ b _ _ _ _ _ _ _ => b
  | .ClassDef _ _ _ b _ _ _ _ _ _ _ => b
  | _ => []
noncomputable def dfScope : Stmt → Scope
  | .FunctionDef _ _ _ _ _ _ s _ _ _ => s
  | _ => ⟨.module, [], false, false, []⟩
noncomputable def stB : Stmt → List Stmt
  | .For _ _ b _ _ => b
  | .While _ b _ _ => b
  | .If _ b e _ => b ++ e
  | _ => []
noncomputable def sideOk (ps : List Str) (scope : Scope) : Bool :=
  ps.all (fun p => scope.names.lookup p == some .local || scope.names.lookup p == some .cell) && (ownOf scope).all (fun x => scope.names.lookup x == some .cell) && scope.names.all (fun x => x.2 != .free) && !scope.isCoroutine && !scope.isGenerator && (scope.kind == .function)
noncomputable def BindAt (params : Arguments) (vs : List Value) (r : List (Str × Value)) : Prop := ∀ n q b s g c d m an co ct bi, bindArgs (FuncData.mk n q params b s g c .none .none d m an co ct bi) ⟨vs, []⟩ = pure r
theorem BindAt.go {params : Arguments} {vs : List Value} {r : List (Str × Value)} {fd : FuncData} (hp : fd.params = params) (hd : fd.defaults = .none) (hk : fd.kwdefaults = .none) (h : BindAt params vs r) : bindArgs fd ⟨vs, []⟩ = pure r := by
  cases fd
  cases hp; cases hd; cases hk
  exact h ..
theorem bind1 {params : Arguments} {p : Str} (h : ∀ v, BindAt params [v] [(p, v)]) (fd : FuncData) (vs : List Value) (hp : fd.params = params) (hd : fd.defaults = .none) (hk : fd.kwdefaults = .none) (hl : vs.length = [p].length) : bindArgs fd ⟨vs, []⟩ = pure ([p].zip vs) := by
  obtain ⟨v, rfl⟩ := List.length_eq_one_iff.mp hl
  exact (h v).go hp hd hk
theorem bind2 {params : Arguments} {p q : Str} (h : ∀ v w, BindAt params [v, w] [(p, v), (q, w)]) (fd : FuncData) (vs : List Value) (hp : fd.params = params) (hd : fd.defaults = .none) (hk : fd.kwdefaults = .none) (hl : vs.length = [p, q].length) : bindArgs fd ⟨vs, []⟩ = pure ([p, q].zip vs) := by
  obtain ⟨v, w, rfl⟩ := len2 hl
  exact (h v w).go hp hd hk
theorem bind3 {params : Arguments} {p q r : Str} (h : ∀ v w x, BindAt params [v, w, x] [(p, v), (q, w), (r, x)]) (fd : FuncData) (vs : List Value) (hp : fd.params = params) (hd : fd.defaults = .none) (hk : fd.kwdefaults = .none) (hl : vs.length = [p, q, r].length) : bindArgs fd ⟨vs, []⟩ = pure ([p, q, r].zip vs) := by
  obtain ⟨v, w, x, rfl⟩ := len3 hl
  exact (h v w x).go hp hd hk
theorem bind4 {params : Arguments} {p q r s : Str} (h : ∀ v w x y, BindAt params [v, w, x, y] [(p, v), (q, w), (r, x), (s, y)]) (fd : FuncData) (vs : List Value) (hp : fd.params = params) (hd : fd.defaults = .none) (hk : fd.kwdefaults = .none) (hl : vs.length = [p, q, r, s].length) : bindArgs fd ⟨vs, []⟩ = pure ([p, q, r, s].zip vs) := by
  obtain ⟨v, w, x, y, rfl⟩ := len4 hl
  exact (h v w x y).go hp hd hk
section
variable {C : Cx} {A : Around} {σ : Hp} {g : Gh} {s : Shared} {Q : MV → Hp → Prop}
theorem fn_go {f : Addr} {qual : Str} {params : Arguments} {body : List Stmt} {scope : Scope} {code : Value} {ps : List Str} {ms : List MV} {n : Nat} (F : FnAt C.K f qual params body scope code) (hA : Ar A (n + 1)) (loc : Loc)
    (hbind : ∀ (fd : FuncData) vs, fd.params = params → fd.defaults = .none → fd.kwdefaults = .none → vs.length = ps.length → bindArgs fd ⟨vs, []⟩ = pure (ps.zip vs)) (hside : sideOk ps scope = true) (hlen : ms.length = ps.length) (hloc : locOf ps ms = loc)
    (h : ∀ L A' K, Via (fun fl _ σ' => Q (retOf fl) σ') K → Ar A' n → Exs C A' ⟨envC scope qual code f L, ownOf scope⟩ body loc σ K) : Fn C A (.ref f) ms σ Q := by
  simp only [sideOk, Bool.and_eq_true, List.all_eq_true, Bool.or_eq_true, beq_iff_eq, Bool.not_eq_true', bne_iff_ne] at hside
  obtain ⟨⟨⟨⟨⟨h1, h2⟩, h3⟩, h4⟩, h5⟩, h6⟩ := hside
  subst hloc
  refine fn_def F hbind hlen (fun p hp => ?_) h2 (fun x hx => h3 x hx) hA.room h4 h5 h6 fun L => h L _ _ .id (hA.deeper _)
  rcases h1 p hp with q | q
  · exact .inl q
  · exact .inr ⟨mem_of_lookup q, q⟩
end
theorem at_same {l : Loc} {x : Str} {v : MV} : (l.set x v) x = some v := if_pos rfl
theorem at_other {l : Loc} {x y : Str} {v m : MV} (h : (y == x) = false) (h' : l y = some m) : (l.set x v) y = some m := (if_neg (fun e => by subst e; simp at h)).trans h'
theorem hp_same {σ : Hp} {n : Nat} {o : MO} : (σ.set n o) n = some o := if_pos rfl
theorem hp_other {σ : Hp} {n k : Nat} {o : MO} {r : Option MO} (h : k ≠ n) (h' : σ k = r) : (σ.set n o) k = r := (if_neg h).trans h'
theorem iteB {b : Bool} {X Y : Prop} (h1 : b = true → X) (h2 : b = false → Y) : if b = true then X else Y := by cases b; exact (if_neg (by simp)).mpr (h2 rfl) ; exact (if_pos rfl).mpr (h1 rfl)
section
variable {C : Cx} {A : Around} {fm : Fm} {fa : List Addr} {loc : Loc} {σ : Hp} {g : Gh} {s : Shared} {Q Q' : MV → Hp → Prop} {QB : Bool → Hp → Prop} {QS : Fl → Loc → Hp → Prop}
theorem EvL.mono : ∀ {es : List Expr} {loc : Loc} {σ : Hp} {Q Q' : List MV → Hp → Prop}, EvL C A fm es loc σ Q → (∀ ms σ', Q ms σ' → Q' ms σ') → EvL C A fm es loc σ Q'
  | [], _, _, _, _, h, k => k _ _ h
  | e :: es, _, _, _, _, h, k => EvT.mono h fun m σ' h' => EvL.mono h' fun ms σ'' q => k _ _ q
theorem ev_globI {x : Str} {pos : Pos} {i : Int} {t : Tok} (hx : fm.env.kindOf x = some .globalImplicit) (e : nsIn C.K mainGlobals x = some (some (.int i t))) (q : Q (.int i) σ) (hd : (x == ("__debug__" : Str)) = false := by decide) :
    Ev C A fm (.Name x pos) loc σ Q := fun fa g s r => by
  refine Calls.Name_function_global r.fr.fn hx ?_ hd
  unfold loadGlobal
  rw [r.fr.glob]
  refine wpAny_bind (looks_nsIn r.gr.KIn e _ _ _ _ (fun _ _ e => e) ?_)
  exact wpAny_pure (.now r (.int _ _) q)
theorem ev_callF {x : Str} {np pos : Pos} {es : List Expr} {f : Addr} {qual : Str} {params : Arguments} {body : List Stmt} {scope : Scope} {code : Value} (F : FnAt C.K f qual params body scope code)
    (hx : fm.env.kindOf x = some .globalImplicit) (e : nsIn C.K mainGlobals x = some (some (.ref f))) (h : EvL C A fm es loc σ fun ms σ₂ => Fn C A (.ref f) ms σ₂ Q)
    (hs : (starEach es fm.env).all (fun p => !p.1) = true := by rfl) (hd : (x == ("__debug__" : Str)) = false := by decide) : Ev C A fm (.Call (.Name x np) es [] pos) loc σ Q := by
  obtain ⟨o, fd, h1, h2, _⟩ := F.ex
  refine ev_call (ev_glob hx e ⟨_, rfl, .fn h1 h2, ?_⟩ hd) hs
  exact EvL.mono h fun ms σ₂ hf => cal_fn hf
theorem ev_callB {x : Str} {np pos : Pos} {es : List Expr} {v : Value} (hv : Callable C v) (hx : fm.env.kindOf x = some .globalImplicit) (e : nsIn C.K mainGlobals x = some none) (e' : nsIn C.K builtinsNs x = some (some v))
    (h : EvL C A fm es loc σ fun ms σ₂ => Cal C A fm v ms loc σ₂ Q) (hs : (starEach es fm.env).all (fun p => !p.1) = true := by rfl) (hd : (x == ("__debug__" : Str)) = false := by decide) : Ev C A fm (.Call (.Name x np) es [] pos) loc σ Q :=
  ev_call (ev_bi hx e e' ⟨_, rfl, hv, h⟩ hd) hs
end
end
section
section
variable {C : Cx} {A : Around} {fm : Fm} {fa : List Addr} {loc : Loc} {σ : Hp} {g : Gh} {s : Shared} {Q Q' : MV → Hp → Prop} {QB : Bool → Hp → Prop} {QS : Fl → Loc → Hp → Prop}
theorem ty_lower : typeOf (.builtin "str.lower") = pure (.type "method_descriptor") := by kernel_rfl!
theorem ty_upper : typeOf (.builtin "str.upper") = pure (.type "method_descriptor") := by kernel_rfl!
theorem ty_join : typeOf (.builtin "str.join") = pure (.type "method_descriptor") := by kernel_rfl!
theorem ty_append : typeOf (.builtin "list.append") = pure (.type "method_descriptor") := by kernel_rfl!
theorem ty_reverse : typeOf (.builtin "list.reverse") = pure (.type "method_descriptor") := by kernel_rfl!
theorem ty_get : typeOf (.builtin "dict.get") = pure (.type "method_descriptor") := by kernel_rfl!
section
variable {o : Expr} {apos pos : Pos} {es : List Expr}
theorem evl_nil {Q : List MV → Hp → Prop} (q : Q [] σ) : EvL C A fm [] loc σ Q := q
theorem evl_cons {e : Expr} {es : List Expr} {Q : List MV → Hp → Prop} (h : Ev C A fm e loc σ fun m σ₁ => EvL C A fm es loc σ₁ fun ms σ₂ => Q (m :: ms) σ₂) : EvL C A fm (e :: es) loc σ Q := h
theorem ev_lower (h : Ev C A fm o loc σ fun m σ₁ => ∃ x, m = .str x ∧ Builtin.Str.tooLong (Txt.lower x).length = false ∧ Q (.str (Txt.lower x)) σ₁)
    (hbase : attributeBase o "lower" fm.env (eval o fm.env) = eval o fm.env := by rfl) (hline : (apos.endLine == pos.line) = true := by rfl) : Ev C A fm (.Call (.Attribute o "lower" apos) [] [] pos) loc σ Q :=
  ev_meth (EvT.mono h <| by rintro m σ' ⟨x, e, h1, q⟩; subst e; exact ⟨"str", "str.lower", F.plainAttrs_str, F.slot_str_lower, ty_lower, mty_str, cal_lower h1 q⟩) hbase rfl hline
theorem ev_upper (h : Ev C A fm o loc σ fun m σ₁ => ∃ x, m = .str x ∧ Builtin.Str.tooLong (Txt.upper x).length = false ∧ Q (.str (Txt.upper x)) σ₁)
    (hbase : attributeBase o "upper" fm.env (eval o fm.env) = eval o fm.env := by rfl) (hline : (apos.endLine == pos.line) = true := by rfl) : Ev C A fm (.Call (.Attribute o "upper" apos) [] [] pos) loc σ Q :=
  ev_meth (EvT.mono h <| by rintro m σ' ⟨x, e, h1, q⟩; subst e; exact ⟨"str", "str.upper", F.plainAttrs_str, F.slot_str_upper, ty_upper, mty_str, cal_upper h1 q⟩) hbase rfl hline
theorem ev_join {a : Expr} (h : Ev C A fm o loc σ fun m σ₁ => ∃ x, m = .str x ∧ Ev C A fm a loc σ₁ fun l σ₂ => ∃ ts : List Str, lstOf σ₂ l = some (ts.map .str) ∧ JoinOk x ts = true ∧ Q (.str (Txt.join x ts)) σ₂)
    (hbase : attributeBase o "join" fm.env (eval o fm.env) = eval o fm.env := by rfl) (hs : (starEach [a] fm.env).all (fun p => !p.1) = true := by rfl) (hline : (apos.endLine == pos.line) = true := by rfl) : Ev C A fm (.Call (.Attribute o "join" apos) [a] [] pos) loc σ Q :=
  ev_meth (EvT.mono h <| by rintro m σ' ⟨x, e, h1⟩; subst e; exact ⟨"str", "str.join", F.plainAttrs_str, F.slot_str_join, ty_join, mty_str, EvT.mono h1 <| by rintro l σ₂ ⟨ts, h2, h3, q⟩; exact cal_join h2 h3 q⟩) hbase hs hline (by simp)
theorem ev_append {a : Expr} (h : Ev C A fm o loc σ fun m σ₁ => ∃ n l0, m = .ref n ∧ σ₁ n = some (.list l0) ∧ Ev C A fm a loc σ₁ fun v σ₂ => ∃ l, σ₂ n = some (.list l) ∧ l.length ≤ 1000000 ∧ Q .none (σ₂.set n (.list (l ++ [v]))))
    (hbase : attributeBase o "append" fm.env (eval o fm.env) = eval o fm.env := by rfl) (hs : (starEach [a] fm.env).all (fun p => !p.1) = true := by rfl) (hline : (apos.endLine == pos.line) = true := by rfl) : Ev C A fm (.Call (.Attribute o "append" apos) [a] [] pos) loc σ Q :=
  ev_meth (EvT.mono h <| by rintro m σ' ⟨n, l0, e, h0, h1⟩; subst e; exact ⟨"list", "list.append", F.plainAttrs_list, F.slot_list_append, ty_append, mty_lst (l := l0) (lst_ref h0), EvT.mono h1 <| by rintro v σ₂ ⟨l, h2, h3, q⟩; exact cal_append h2 h3 q⟩) hbase hs hline (by simp)
theorem ev_reverse (h : Ev C A fm o loc σ fun m σ₁ => ∃ n l, m = .ref n ∧ σ₁ n = some (.list l) ∧ l.length ≤ 1000000 ∧ Q .none (σ₁.set n (.list l.reverse)))
    (hbase : attributeBase o "reverse" fm.env (eval o fm.env) = eval o fm.env := by rfl) (hline : (apos.endLine == pos.line) = true := by rfl) : Ev C A fm (.Call (.Attribute o "reverse" apos) [] [] pos) loc σ Q :=
  ev_meth (EvT.mono h <| by rintro m σ' ⟨n, l, e, h0, h1, q⟩; subst e; exact ⟨"list", "list.reverse", F.plainAttrs_list, F.slot_list_reverse, ty_reverse, mty_lst (l := l) (lst_ref h0), cal_reverse h0 h1 q⟩) hbase rfl hline
theorem ev_get {a b : Expr} (h : Ev C A fm o loc σ fun m σ₁ => ∃ l0, dctOf σ₁ m = some l0 ∧ Ev C A fm a loc σ₁ fun k σ₂ => ∃ x, k = .str x ∧ Ev C A fm b loc σ₂ fun d σ₃ => ∃ l, dctOf σ₃ m = some l ∧ Q ((valAt l x).getD d) σ₃)
    (hbase : attributeBase o "get" fm.env (eval o fm.env) = eval o fm.env := by rfl) (hs : (starEach [a, b] fm.env).all (fun p => !p.1) = true := by rfl) (hline : (apos.endLine == pos.line) = true := by rfl) : Ev C A fm (.Call (.Attribute o "get" apos) [a, b] [] pos) loc σ Q :=
  ev_meth (EvT.mono h <| by rintro m σ' ⟨l0, e, h1⟩; exact ⟨"dict", "dict.get", F.plainAttrs_dict, F.slot_dict_get, ty_get, mty_dct (l := l0) e, EvT.mono h1 <| by rintro k σ₂ ⟨x, e', h2⟩; subst e'; exact EvT.mono h2 <| by rintro d σ₃ ⟨l, h3, q⟩; exact cal_get2 h3 q⟩) hbase hs hline (by simp)
end
end
section
variable {C : Cx} {A : Around} {fm : Fm} {loc : Loc} {σ : Hp} {QS : Fl → Loc → Hp → Prop} {rest : List Stmt}
theorem then_next (h : Exs C A fm rest loc σ QS) : Then C A fm rest QS .next loc σ := h
theorem then_ret {m : MV} (h : QS (.ret m) loc σ) : Then C A fm rest QS (.ret m) loc σ := h
theorem then_brk (h : QS .brk loc σ) : Then C A fm rest QS .brk loc σ := h
theorem then_cont (h : QS .cont loc σ) : Then C A fm rest QS .cont loc σ := h
end
end
section
noncomputable def Lp (I : Loc → Hp → Prop) (QS : Fl → Loc → Hp → Prop) : Fl → Loc → Hp → Prop
  | .next, l, σ => I l σ
  | .cont, l, σ => I l σ
  | .brk, l, σ => QS .next l σ
  | .ret v, l, σ => QS (.ret v) l σ
section
variable {C : Cx} {A : Around} {fm : Fm} {fa : List Addr} {loc : Loc} {σ : Hp} {g : Gh} {s : Shared} {Q Q' : MV → Hp → Prop} {QB : Bool → Hp → Prop} {QS : Fl → Loc → Hp → Prop} {I : Loc → Hp → Prop}
theorem lp_next (h : I loc σ) : Lp I QS .next loc σ := h
theorem lp_cont (h : I loc σ) : Lp I QS .cont loc σ := h
theorem lp_brk (h : QS .next loc σ) : Lp I QS .brk loc σ := h
theorem lp_ret {m : MV} (h : QS (.ret m) loc σ) : Lp I QS (.ret m) loc σ := h
theorem fitsL {i : Int} (h : -1000000000000 < i ∧ i < 1000000000000) : Builtin.Range.rangeFitsLong i = true := by
  simp only [Builtin.Range.rangeFitsLong, Bool.and_eq_true, decide_eq_true_eq]
  have : (2 : Int) ^ 63 = 9223372036854775808 := rfl
  (first | lia | omega)
theorem smallR {a b c : Int} (ha : -100000000 < a ∧ a < 100000000) (hb : -100000000 < b ∧ b < 100000000) (hc : 0 < c ∧ c < 100000000) : Builtin.Range.small a b c = true := by
  have hr : 0 ≤ Builtin.Range.rangeSize a b c ∧ Builtin.Range.rangeSize a b c < 1000000000 := by
    simp only [Builtin.Range.rangeSize]
    rw [if_pos (by (first | lia | omega))]
    split
    · have h1 : 0 ≤ (b - a - 1) / c := Int.ediv_nonneg (by (first | lia | omega)) (by (first | lia | omega))
      have h2 : (b - a - 1) / c ≤ b - a - 1 := Int.ediv_le_self _ (by (first | lia | omega))
      (first | lia | omega)
    · (first | lia | omega)
  simp only [Builtin.Range.small, Bool.and_eq_true, Bool.or_eq_true]
  refine ⟨⟨⟨⟨fitsL (by (first | lia | omega)), fitsL (by (first | lia | omega))⟩, fitsL (by (first | lia | omega))⟩, fitsL (by (first | lia | omega))⟩, .inr ?_⟩
  rw [if_pos (by (first | lia | omega))]
  exact fitsL (by (first | lia | omega))
theorem cal_range3 {a b c : Int} (hc : 0 < c ∧ c < 1000) (q : Q (.rng a b c) σ) : Cal C A fm (.type "range") [.int a, .int b, .int c] loc σ Q := by
  intro fa g s vs r hvs
  refine via_p fun P kP => ?_
  obtain ⟨x, y, z, rfl, hx, hy, hz⟩ := hvs.inv3
  refine kP ?_
  clear kP P
  obtain ⟨_, rfl⟩ := hx.inv
  obtain ⟨_, rfl⟩ := hy.inv
  obtain ⟨_, rfl⟩ := hz.inv
  refine call_range_3 (by (first | lia | omega)) ?_ (.inl (PyProof.noPylong_small (by (first | lia | omega))))
  exact Post.pinned r rfl (.rng (.inl rfl) (Heap.get?_push_size _ rfl)) q
theorem mulOk {i j : Int} (h : -1000000000000 < i ∧ i < 1000000000000) : IntMulOk i j := IntMulOk.of_left (intBits_le_64 (by have : (2 : Int) ^ 64 = 18446744073709551616 := rfl; (first | lia | omega)) (by have : (2 : Int) ^ 64 = 18446744073709551616 := rfl; (first | lia | omega)))
theorem op_mulB {i j : Int} (h : -1000000000000 < i ∧ i < 1000000000000) (q : Q (.int (i * j)) σ) : Op2 C A fm (binaryOp .Mult) (.int i) (.int j) loc σ Q := op_mul q (mulOk h)
theorem StT.mono {t : Value → Sem Unit} {m : MV} {Q Q' : Loc → Hp → Prop} (h : StT C A fm t m loc σ Q) (k : ∀ l σ', Q l σ' → Q' l σ') : StT C A fm t m loc σ Q' :=
  fun fa g s v r hv => wpAny_mono (h fa g s v r hv) (fun _ _ x => PostU.casesOn x fun g' l σ' r' d q => ⟨g', l, σ', r', d, k _ _ q⟩) fun _ _ e => e
theorem ex_forL {tg it : Expr} {body orelse : List Stmt} {pos : Pos} (n : Nat) (item : Nat → MV) (J : Hp → Prop) (Inv : Nat → Loc → Hp → Prop)
    (h : WalkE C A fm tg it loc σ n item J fun σ₁ => Inv 0 loc σ₁)
    (turn : ∀ i K, Via (Lp (fun l σ => Inv (i + 1) l σ ∧ J σ) QS) K → ∀ loc σ, i < n → Inv i loc σ → J σ → St C A fm tg (item i) loc σ fun l₁ σ₁ => Exs C A fm body l₁ σ₁ K)
    (fin : ∀ loc σ, Inv n loc σ → J σ → Exs C A fm orelse loc σ QS) (hs : ∀ x, foldedSetIterable it fm.env x = pure x := by intro _; rfl) : Ex C A fm (.For tg it body orelse pos) loc σ QS := by
  refine ex_for n item J Inv h (fun i loc σ hi hI hJ => ?_) fin hs
  refine StT.mono (turn i _ .id loc σ hi hI hJ) fun l σ' h' => ExT.mono h' fun f l σ'' q => ?_
  cases f <;> exact q
theorem ex_whileL {test : Expr} {body orelse : List Stmt} {pos : Pos} (I : Nat → Loc → Hp → Prop)
    (turn : ∀ n K K', Via (Lp (fun l σ => ∃ m, m < n ∧ I m l σ) QS) K → Via QS K' → ∀ loc σ, I n loc σ → Tr C A fm test loc σ fun b σ₁ => if b then Exs C A fm body loc σ₁ K else Exs C A fm orelse loc σ₁ K')
    (n : Nat) (h : I n loc σ) : Ex C A fm (.While test body orelse pos) loc σ QS := by
  refine ex_while I (fun n loc σ hI => TrT.mono (turn n _ _ .id .id loc σ hI) fun b σ' h' => ?_) n h
  cases b
  · exact h'
  · refine ExT.mono h' fun f l σ'' q => ?_
    cases f <;> exact q
theorem ex_forR {x : Str} {p np cp pos : Pos} {e : Expr} {body orelse : List Stmt} (n : Nat) (Inv : Nat → Loc → Hp → Prop) (hh : A.handled = none) (hb : nsIn C.K mainGlobals "range" = some none ∧ nsIn C.K builtinsNs "range" = some (some (.type "range")))
    (hk : fm.env.kindOf "range" = some .globalImplicit) (hx : canSt fm x) (hn : n < 1000000)
    (h : Ev C A fm e loc σ fun m σ₁ => m = .int n ∧ Inv 0 loc σ₁)
    (turn : ∀ i K, Via (Lp (fun l σ => Inv (i + 1) l σ) QS) K → ∀ loc σ, i < n → Inv i loc σ → Exs C A fm body (loc.set x (.int i)) σ K)
    (fin : ∀ loc σ, Inv n loc σ → Exs C A fm orelse loc σ QS) (hs : (starEach [e] fm.env).all (fun p => !p.1) = true := by rfl) : Ex C A fm (.For (.Name x p) (.Call (.Name "range" np) [e] [] cp) body orelse pos) loc σ QS := by
  refine ex_forL n (fun i => .int (0 + i * 1)) (fun _ => True) Inv (walk_of (ev_callB (.ty _) hk hb.1 hb.2 (EvT.mono h ?_) hs)) (fun i K hK loc σ hi hI _ => ?_) (fun loc σ hI _ => fin loc σ hI)
  · rintro m σ₁ ⟨rfl, h0⟩
    refine cal_range1 ⟨walk_range hh ?_ ?_, h0⟩
    · exact smallR (by (first | lia | omega)) (by (first | lia | omega)) (by (first | lia | omega))
    · simp only [Builtin.Range.rangeSize]; split <;> (try split) <;> (first | lia | omega)
  · refine st_name hx ?_
    rw [Int.mul_one, Int.zero_add]
    exact turn i K (fun f l σ q => hK f l σ (by cases f <;> first | exact q | exact ⟨q, trivial⟩)) loc σ hi hI
end
noncomputable def S (l : List Nat) : Str := ⟨l.toArray⟩
theorem S_len (l : List Nat) : (S l).length = l.length := by simp [S, Str.length]
theorem S_inj {l m : List Nat} : S l = S m ↔ l = m := by
  constructor
  · intro h; have := congrArg (fun x => x.cps.toList) h; simpa [S] using this
  · rintro rfl; rfl
theorem S_app (l m : List Nat) : S l ++ S m = S (l ++ m) := by
  show (⟨_⟩ : Str) = _
  simp [S]
theorem S_drop (l : List Nat) (k : Nat) : cutS (S l) (some k) none = S (l.drop k) := by
  unfold cutS clip1
  simp only [S, Str.length, List.size_toArray, Str.mk.injEq]
  congr 1
  by_cases h : k ≤ l.length
  · have e : (max 0 (min (if (k : Int) < 0 then (k : Int) + l.length else k) (l.length : Int))).toNat = k := by rw [if_neg (by (first | lia | omega))]; (first | lia | omega)
    rw [e]
    exact List.take_of_length_le (by simp)
  · have e : (max 0 (min (if (k : Int) < 0 then (k : Int) + l.length else k) (l.length : Int))).toNat = l.length := by rw [if_neg (by (first | lia | omega))]; (first | lia | omega)
    rw [e]
    simp; (first | lia | omega)
theorem S_all (l : List Nat) : cutS (S l) none none = S l := by
  unfold cutS clip1
  simp [S, Str.length]
theorem S_take (l : List Nat) (p : Nat) (hp : 0 < p) : cutS (S l) none (some (-(p : Int))) = S (l.take (l.length - p)) := by
  unfold cutS clip1
  simp only [S, Str.length, List.size_toArray, Str.mk.injEq]
  congr 1
  have e : (max 0 (min (if (-(p : Int)) < 0 then (-(p : Int)) + l.length else -(p : Int)) (l.length : Int))).toNat = l.length - p := by rw [if_pos (by (first | lia | omega))]; (first | lia | omega)
  rw [e]; simp
theorem S_at (l : List Nat) (k : Nat) {c : Nat} (h : l[k]? = some c) : (seqIndex? (k : Int) (S l).length).bind ((S l).cps[·]?) = some c := by
  have hl : k < l.length := (List.getElem?_eq_some_iff.mp h).1
  have e : seqIndex? (k : Int) (S l).length = some k := by
    simp only [seqIndex?, S_len]
    rw [if_neg (show ¬ ((k : Int) < 0) by (first | lia | omega)), if_pos (by simp; (first | lia | omega))]; simp
  rw [e]
  simpa [S] using h
theorem S_atN (l : List Nat) (k : Nat) (hk : 0 < k) (hl : k ≤ l.length) {c : Nat} (h : l[l.length - k]? = some c) : (seqIndex? (-(k : Int)) (S l).length).bind ((S l).cps[·]?) = some c := by
  have e : seqIndex? (-(k : Int)) (S l).length = some (l.length - k) := by
    simp only [seqIndex?, S_len]
    rw [if_pos (show (-(k : Int)) < 0 by (first | lia | omega)), if_pos (by simp; (first | lia | omega))]
    have e : ((-(k : Int)) + l.length).toNat = l.length - k := by (first | lia | omega)
    rw [e]
  rw [e]
  simpa [S] using h
section
variable {C : Cx} {A : Around} {fm : Fm} {loc : Loc} {σ : Hp} {Q : MV → Hp → Prop}
theorem gi_S {l : List Nat} {k : Nat} {c : Nat} (hl : l.length ≤ 1000000) (h : l[k]? = some c) (q : Q (.str (S [c])) σ) : Itm C A fm (.str (S l)) (.int k) loc σ Q := by
  have hk : k < l.length := (List.getElem?_eq_some_iff.mp h).1
  exact gi_str (c := c) (by simp; (first | lia | omega)) (S_at l k h) q
theorem gi_SN {l : List Nat} {k : Nat} {i : Int} {c : Nat} (hi : i = -(k : Int)) (hl : l.length ≤ 1000000) (hk : 0 < k) (hk' : k ≤ l.length) (h : l[l.length - k]? = some c) (q : Q (.str (S [c])) σ) : Itm C A fm (.str (S l)) (.int i) loc σ Q := by
  subst hi
  exact gi_str (c := c) (by simp; (first | lia | omega)) (S_atN l k hk hk' h) q
end
section
variable {C : Cx} {A : Around} {fm : Fm} {loc : Loc} {σ : Hp} {Q : MV → Hp → Prop} {QB : Bool → Hp → Prop}
theorem at_eq {l : Loc} {x : Str} {v m : MV} (h : v = m) : (l.set x v) x = some m := h ▸ at_same
theorem evo_none {Q : Option Int → Hp → Prop} (q : Q none σ) : EvO C A fm none loc σ Q := q
theorem evo_some {e : Expr} {Q : Option Int → Hp → Prop} (h : Ev C A fm e loc σ fun m σ₁ => (m = .none ∧ Q none σ₁) ∨ ∃ i, m = .int i ∧ Q (some i) σ₁) : EvO C A fm (some e) loc σ Q := h
theorem tru_S {l : List Nat} (hs : l.length ≤ 1000000) (q : QB (!l.isEmpty) σ) : Tru C A fm (.str (S l)) loc σ QB :=
  tru_str (by rw [S_len]; exact hs) (by rw [S_len]; cases l <;> exact q)
theorem slc_Sd {l : List Nat} {k : Nat} (hs : l.length ≤ 1000000) (q : Q (.str (S (l.drop k))) σ) : Slc C A fm (.str (S l)) (some (k : Int)) none none loc σ Q :=
  slc_str (by rw [S_drop]; exact q) (by rw [S_len]; exact hs)
theorem slc_Sa {l : List Nat} (hs : l.length ≤ 1000000) (q : Q (.str (S l)) σ) : Slc C A fm (.str (S l)) none none none loc σ Q :=
  slc_str (by rw [S_all]; exact q) (by rw [S_len]; exact hs)
theorem slc_St {l : List Nat} {p : Nat} {i : Int} (hi : i = -(p : Int)) (hp : 0 < p) (hs : l.length ≤ 1000000) (q : Q (.str (S (l.take (l.length - p)))) σ) : Slc C A fm (.str (S l)) none (some i) none loc σ Q := by
  subst hi
  exact slc_str (by rw [S_take l p hp]; exact q) (by rw [S_len]; exact hs)
theorem cal_lenS {l : List Nat} (hs : l.length ≤ 1000000) (q : Q (.int l.length) σ) : Cal C A fm (.builtin "len") [.str (S l)] loc σ Q := cal_lens (by rw [S_len]; exact hs) (by rw [S_len]; exact q)
end
section
variable {C : Cx} {A : Around} {fm : Fm} {loc : Loc} {σ : Hp} {QS : Fl → Loc → Hp → Prop}
theorem ExT.mid {t : Sem Flow} (P : Loc → Hp → Prop) (h : ExT C A fm t loc σ fun f l σ' => f = .next ∧ P l σ') (k : ∀ l σ', P l σ' → QS .next l σ') : ExT C A fm t loc σ QS :=
  ExT.mono h fun f l σ' ⟨e, hp⟩ => e ▸ k l σ' hp
theorem TrT.val {t : Sem Bool} {QB : Bool → Hp → Prop} (b : Bool) (h : TrT C A fm t loc σ fun b' σ' => b' = b ∧ σ' = σ) (k : QB b σ) : TrT C A fm t loc σ QB :=
  TrT.mono h fun b' σ' ⟨e, e'⟩ => by subst e; subst e'; exact k
end
structure Wf (σ : Hp) : Prop where
  fin : ∃ B, ∀ n, B ≤ n → σ n = none
  nc : ∀ n f k x, σ n ≠ some (.citer false f k x)
theorem Wf.new {σ : Hp} (h : Wf σ) : ∃ n, σ n = none := by obtain ⟨B, hB⟩ := h.fin; exact ⟨B, hB B (Nat.le_refl _)⟩
theorem Wf.set {σ : Hp} (h : Wf σ) (n : Nat) (o : MO) (ho : ∀ f k x, o ≠ .citer false f k x) : Wf (σ.set n o) := by
  obtain ⟨⟨B, hB⟩, nc⟩ := h
  refine ⟨⟨max B (n + 1), fun m hm => ?_⟩, fun m f k x e => ?_⟩
  · show (if m = n then some o else σ m) = none
    rw [if_neg (by (first | lia | omega))]; exact hB m (by (first | lia | omega))
  · have e' : (if m = n then some o else σ m) = some (.citer false f k x) := e
    by_cases hm : m = n
    · rw [if_pos hm] at e'; cases e'; exact ho f k x rfl
    · rw [if_neg hm] at e'; exact nc m f k x e'
end
local macro_rules | `(tactic| walk_at "lk") => `(tactic| first | with_reducible assumption | with_reducible exact at_same | ((with_reducible refine' at_other ?k1 ?k2); (case k1 => kernel_rfl!); (case k2 => walk_at "lk")) | ((with_reducible refine at_eq ?_); first | rfl | (congr 1; first | lia | omega)))
local macro_rules | `(tactic| walk_at "hp") => `(tactic| first | with_reducible assumption | with_reducible exact hp_same | ((with_reducible refine' hp_other ?k1 ?k2); (case k1 => first | with_reducible assumption | (apply Ne.symm; with_reducible assumption) | lia | omega); (case k2 => walk_at "hp")))
local macro_rules | `(tactic| walk_at "nm") => `(tactic| ((with_reducible refine' ev_name ?k1 ?_); (case k1 => walk_at "lk")))
local macro_rules | `(tactic| walk_at "can") => `(tactic| first | with_reducible assumption | exact Or.inl (by kernel_rfl!) | exact Or.inr (by decide))
local macro_rules | `(tactic| walk_at "bind") => `(tactic| first
  | exact bind1 (fun _ _ _ _ _ _ _ _ _ _ _ _ _ => by kernel_rfl!)
  | exact bind2 (fun _ _ _ _ _ _ _ _ _ _ _ _ _ _ => by kernel_rfl!)
  | exact bind3 (fun _ _ _ _ _ _ _ _ _ _ _ _ _ _ _ => by kernel_rfl!)
  | exact bind4 (fun _ _ _ _ _ _ _ _ _ _ _ _ _ _ _ _ => by kernel_rfl!))
local macro_rules | `(tactic| walk_at "s") => `(tactic| first
  | with_reducible first | refine exs_cons ?_ | refine exs_nil ?_ | refine ex_if ?_ | refine ex_ret ?_ | refine ex_pass ?_ | refine ex_brk ?_ | refine ex_cont ?_
  | ((with_reducible refine' ex_assign ?_ ?k1 ?k2); (case k1 => walk_at "can"); (case k2 => with_unfolding_all rfl))
  | ((with_reducible refine' ex_aug ?k1 ?_ ?k2); (case k1 => walk_at "lk"); (case k2 => walk_at "can"))
  | ((with_reducible refine' ex_set ?_ ?k1); (case k1 => with_unfolding_all rfl))
  | ((with_reducible refine' ex_augset ?_ ?k1); (case k1 => intros; with_unfolding_all rfl))
  | ((with_reducible refine' ex_expr ?_ ?k1 ?k2); (case k1 => with_unfolding_all rfl); (case k2 => with_unfolding_all rfl))
  | with_reducible first | refine tr_cmp ?_ | refine tr_not ?_ | refine and_cons ?_ | refine or_cons ?_ | refine and_nil ?_ | refine or_nil ?_
  | walk_at "nm"
  | ((with_reducible refine' ex_asg2 ?_ ?k1 ?k2); (case k1 => with_unfolding_all rfl); (case k2 => with_unfolding_all rfl))
  | ((with_reducible refine' st_name ?k1 ?_); (case k1 => walk_at "can"))
  | with_reducible first | refine ev_int ?_ | refine ev_str ?_ | refine ev_bool ?_ | refine ev_none ?_ | refine ev_binop ?_ | refine ev_unop ?_ | refine ev_cmp ?_ | refine ev_if ?_
  | ((with_reducible refine' ev_tup ?_ ?k1); (case k1 => with_unfolding_all rfl))
  | with_reducible first | refine ev_slice ?_ | refine ev_sub ?_ | refine evo_none ?_ | refine evo_some ?_ | refine Or.inr ⟨_, rfl, ?_⟩ | refine Or.inl ⟨rfl, ?_⟩ | refine evl_nil ?_ | refine evl_cons ?_ | refine ⟨_, rfl, ?_⟩ | refine tru_bool ?_ | refine tru_int ?_ | refine op_add ?_ | refine op_sub ?_ | refine op_iadd ?_ | refine op_isub ?_ | refine op_neg ?_ | refine op_eq ?_ | refine op_ne ?_ | refine op_lt ?_ | refine op_gt ?_ | refine op_ge ?_ | refine op_eqs ?_ | refine op_ins ?_ | refine then_next ?_ | refine then_ret ?_ | refine then_brk ?_ | refine then_cont ?_ | refine lp_next ?_ | refine lp_ret ?_ | refine lp_brk ?_ | refine lp_cont ?_
  | with_reducible refine via_go (by with_reducible assumption) ?_)
local macro_rules | `(tactic| walk_at "ss") => `(tactic| repeat walk_at "s")
section
noncomputable abbrev st2 (n : Nat) : Stmt := nth PySem.Challenge.pw_pe0146_02.main.body n
noncomputable abbrev me2 (c n : Nat) : Stmt := nth (dfBody (st2 c)) n
noncomputable def lowOk (x : Str) : Prop := Builtin.Str.tooLong (Txt.lower x).length = false
noncomputable def subCost (x y : Str) : Int := if x = y then 0 else if Txt.lower x = Txt.lower y then 1 else 2
noncomputable def FnIs (C : Cx) (f : Addr) (qual : Str) (st : Stmt) : Prop := ∃ cd, FnAt C.K f qual (dfArgs st) (dfBody st) (dfScope st) cd
noncomputable def BiIs (C : Cx) (x : Str) (v : Value) : Prop := nsIn C.K mainGlobals x = some none ∧ nsIn C.K builtinsNs x = some (some v)
noncomputable def GlIs (C : Cx) (x : Str) (v : Value) : Prop := nsIn C.K mainGlobals x = some (some v)
structure Tx (C : Cx) where
  sub : Addr
  lev : Addr
  afs : Addr
  acs : Addr
  Fsub : FnIs C sub "_substitution_cost" (st2 11)
  Flev : FnIs C lev "_levenshtein_distance" (st2 12)
  Fafs : FnIs C afs "add_func_stats" (st2 5)
  Facs : FnIs C acs "add_callers" (st2 6)
  g_sub : GlIs C "_substitution_cost" (.ref sub)
  g_lev : GlIs C "_levenshtein_distance" (.ref lev)
  g_afs : GlIs C "add_func_stats" (.ref afs)
  g_acs : GlIs C "add_callers" (.ref acs)
  g_case : ∃ t, GlIs C "_CASE_COST" (.int 1 t)
  g_move : ∃ t, GlIs C "_MOVE_COST" (.int 2 t)
  g_max : ∃ t, GlIs C "_MAX_STRING_SIZE" (.int 40 t)
  b_len : BiIs C "len" (.builtin "len")
  b_range : BiIs C "range" (.type "range")
  b_list : BiIs C "list" (.type "list")
  b_min : BiIs C "min" (.builtin "min")
  b_tuple : BiIs C "tuple" (.type "tuple")
  b_isi : BiIs C "isinstance" (.builtin "isinstance")
  b_zip : BiIs C "zip" (.type "zip")
  b_enum : BiIs C "enumerate" (.type "enumerate")
  b_iter : BiIs C "iter" (.builtin "iter")
  b_sum : BiIs C "sum" (.builtin "sum")
variable {C : Cx} {A : Around} {σ : Hp} {Q : MV → Hp → Prop}
theorem fn_sub (T : Tx C) {n : Nat} (hA : Ar A (n + 1)) {x y : Str} (hx : lowOk x) (hy : lowOk y) (q : Q (.int (subCost x y)) σ) : Fn C A (.ref T.sub) [.str x, .str y] σ Q := by
  obtain ⟨cd, F⟩ := T.Fsub
  refine fn_go F hA (Loc.set (Loc.set (fun _ => none) "ch_a" (.str x)) "ch_b" (.str y)) (ps := ["ch_a", "ch_b"]) (by walk_at "bind") (by kernel_rfl!) rfl rfl fun L A' KF hKF hA' => exs_cons ?_
  walk_at "ss"
  refine iteB (fun h => ?_) fun h => ?_
  · walk_at "ss"
    simp at h; simpa [subCost, h, retOf_ret] using q
  walk_at "ss"
  refine ev_lower ?_
  walk_at "nm"
  refine ⟨_, rfl, hx, ?_⟩
  refine ev_lower ?_
  walk_at "nm"
  refine ⟨_, rfl, hy, ?_⟩
  walk_at "ss"
  obtain ⟨t1, g1⟩ := T.g_case
  obtain ⟨t2, g2⟩ := T.g_move
  refine iteB (fun h' => ?_) fun h' => ?_
  · walk_at "ss"
    refine ev_globI (by kernel_rfl!) g1 ?_
    walk_at "ss"
    simp at h h'; simpa [subCost, h, h', retOf_ret] using q
  walk_at "ss"
  refine ev_globI (by kernel_rfl!) g2 ?_
  walk_at "ss"
  simp at h h'; simpa [subCost, h, h', retOf_ret] using q
end
section
noncomputable def vw : Program := view PySem.Challenge.pw_pe0146_02 [0, 2, 4, 5, 6, 8, 9, 10, 11, 12, 14, 15, 16, 17]
abbrev en (P : Params) (x : Str) (n : Nat) (v : Value) : DictEntry := { hash := PyData.keyHash P x, key := .str x n, val := v }
noncomputable def K2 (P : Params) : Frag := [
  (0, { cls := .type "dict", data := Data.dict #[en P "__name__" 1 (.str ("builtins") 160), en P "__doc__" 2 (.builtin "builtins.__doc__:str#opaque"), en P "__package__" 3 (.builtin "builtins.__package__:str#opaque"), en P "__loader__" 4 (.builtin "builtins.__loader__:shared#opaque"), en P "__spec__" 5 (.builtin "builtins.__spec__#opaque"), en P "__build_class__" 6 (.builtin "__build_class__"), en P "__import__" 7 (.builtin "__import__"), en P "abs" 8 (.builtin "abs"), en P "all" 9 (.builtin "all"), en P "any" 10 (.builtin "any"), en P "ascii" 11 (.builtin "ascii"), en P "bin" 12 (.builtin "bin"), en P "breakpoint" 13 (.builtin "breakpoint"), en P "callable" 14 (.builtin "callable"), en P "chr" 15 (.builtin "chr"), en P "compile" 16 (.builtin "compile"), en P "delattr" 17 (.builtin "delattr"), en P "dir" 18 (.builtin "dir"), en P "divmod" 19 (.builtin "divmod"), en P "eval" 20 (.builtin "eval"), en P "exec" 21 (.builtin "exec"), en P "format" 22 (.builtin "format"), en P "getattr" 23 (.builtin "getattr"), en P "globals" 24 (.builtin "globals"), en P "hasattr" 25 (.builtin "hasattr"), en P "hash" 26 (.builtin "hash"), en P "hex" 27 (.builtin "hex"), en P "id" 28 (.builtin "id"), en P "input" 29 (.builtin "input"), en P "isinstance" 30 (.builtin "isinstance"), en P "issubclass" 31 (.builtin "issubclass"), en P "iter" 32 (.builtin "iter"), en P "aiter" 33 (.builtin "aiter"), en P "len" 34 (.builtin "len"), en P "locals" 35 (.builtin "locals"), en P "max" 36 (.builtin "max"), en P "min" 37 (.builtin "min"), en P "next" 38 (.builtin "next"), en P "anext" 39 (.builtin "anext"), en P "oct" 40 (.builtin "oct"), en P "ord" 41 (.builtin "ord"), en P "pow" 42 (.builtin "pow"), en P "print" 43 (.builtin "print"), en P "repr" 44 (.builtin "repr"), en P "round" 45 (.builtin "round"), en P "setattr" 46 (.builtin "setattr"), en P "sorted" 47 (.builtin "sorted"), en P "sum" 48 (.builtin "sum"), en P "vars" 49 (.builtin "vars"), en P "None" 50 (.none), en P "Ellipsis" 51 (Value.ellipsis), en P "NotImplemented" 52 (Value.notImplemented), en P "False" 53 (.bool Bool.false), en P "True" 54 (.bool Bool.true), en P "bool" 55 (.type "bool"), en P "memoryview" 56 (.type "memoryview"), en P "bytearray" 57 (.type "bytearray"), en P "bytes" 58 (.type "bytes"), en P "classmethod" 59 (.type "classmethod"), en P "complex" 60 (.type "complex"), en P "dict" 61 (.type "dict"), en P "enumerate" 62 (.type "enumerate"), en P "filter" 63 (.type "filter"), en P "float" 64 (.type "float"), en P "frozenset" 65 (.type "frozenset"), en P "property" 66 (.type "property"), en P "int" 67 (.type "int"), en P "list" 68 (.type "list"), en P "map" 69 (.type "map"), en P "object" 70 (.type "object"), en P "range" 71 (.type "range"), en P "reversed" 72 (.type "reversed"), en P "set" 73 (.type "set"), en P "slice" 74 (.type "slice"), en P "staticmethod" 75 (.type "staticmethod"), en P "str" 76 (.type "str"), en P "super" 77 (.type "super"), en P "tuple" 78 (.type "tuple"), en P "type" 79 (.type "type"), en P "zip" 80 (.type "zip"), en P "__debug__" 81 (.bool Bool.true), en P "BaseException" 82 (.type "BaseException"), en P "BaseExceptionGroup" 83 (.type "BaseExceptionGroup"), en P "Exception" 84 (.type "Exception"), en P "GeneratorExit" 85 (.type "GeneratorExit"), en P "KeyboardInterrupt" 86 (.type "KeyboardInterrupt"), en P "SystemExit" 87 (.type "SystemExit"), en P "ArithmeticError" 88 (.type "ArithmeticError"), en P "AssertionError" 89 (.type "AssertionError"), en P "AttributeError" 90 (.type "AttributeError"), en P "BufferError" 91 (.type "BufferError"), en P "EOFError" 92 (.type "EOFError"), en P "ImportError" 93 (.type "ImportError"), en P "LookupError" 94 (.type "LookupError"), en P "MemoryError" 95 (.type "MemoryError"), en P "NameError" 96 (.type "NameError"), en P "OSError" 97 (.type "OSError"), en P "ReferenceError" 98 (.type "ReferenceError"), en P "RuntimeError" 99 (.type "RuntimeError"), en P "StopAsyncIteration" 100 (.type "StopAsyncIteration"), en P "StopIteration" 101 (.type "StopIteration"), en P "SyntaxError" 102 (.type "SyntaxError"), en P "SystemError" 103 (.type "SystemError"), en P "TypeError" 104 (.type "TypeError"), en P "ValueError" 105 (.type "ValueError"), en P "Warning" 106 (.type "Warning"), en P "FloatingPointError" 107 (.type "FloatingPointError"), en P "OverflowError" 108 (.type "OverflowError"), en P "ZeroDivisionError" 109 (.type "ZeroDivisionError"), en P "BytesWarning" 110 (.type "BytesWarning"), en P "DeprecationWarning" 111 (.type "DeprecationWarning"), en P "EncodingWarning" 112 (.type "EncodingWarning"), en P "FutureWarning" 113 (.type "FutureWarning"), en P "ImportWarning" 114 (.type "ImportWarning"), en P "PendingDeprecationWarning" 115 (.type "PendingDeprecationWarning"), en P "ResourceWarning" 116 (.type "ResourceWarning"), en P "RuntimeWarning" 117 (.type "RuntimeWarning"), en P "SyntaxWarning" 118 (.type "SyntaxWarning"), en P "UnicodeWarning" 119 (.type "UnicodeWarning"), en P "UserWarning" 120 (.type "UserWarning"), en P "BlockingIOError" 121 (.type "BlockingIOError"), en P "ChildProcessError" 122 (.type "ChildProcessError"), en P "ConnectionError" 123 (.type "ConnectionError"), en P "FileExistsError" 124 (.type "FileExistsError"), en P "FileNotFoundError" 125 (.type "FileNotFoundError"), en P "InterruptedError" 126 (.type "InterruptedError"), en P "IsADirectoryError" 127 (.type "IsADirectoryError"), en P "NotADirectoryError" 128 (.type "NotADirectoryError"), en P "PermissionError" 129 (.type "PermissionError"), en P "ProcessLookupError" 130 (.type "ProcessLookupError"), en P "TimeoutError" 131 (.type "TimeoutError"), en P "IndentationError" 132 (.type "IndentationError"), en P "_IncompleteInputError" 133 (.type "_IncompleteInputError"), en P "IndexError" 134 (.type "IndexError"), en P "KeyError" 135 (.type "KeyError"), en P "ModuleNotFoundError" 136 (.type "ModuleNotFoundError"), en P "NotImplementedError" 137 (.type "NotImplementedError"), en P "PythonFinalizationError" 138 (.type "PythonFinalizationError"), en P "RecursionError" 139 (.type "RecursionError"), en P "UnboundLocalError" 140 (.type "UnboundLocalError"), en P "UnicodeError" 141 (.type "UnicodeError"), en P "BrokenPipeError" 142 (.type "BrokenPipeError"), en P "ConnectionAbortedError" 143 (.type "ConnectionAbortedError"), en P "ConnectionRefusedError" 144 (.type "ConnectionRefusedError"), en P "ConnectionResetError" 145 (.type "ConnectionResetError"), en P "TabError" 146 (.type "TabError"), en P "UnicodeDecodeError" 147 (.type "UnicodeDecodeError"), en P "UnicodeEncodeError" 148 (.type "UnicodeEncodeError"), en P "UnicodeTranslateError" 149 (.type "UnicodeTranslateError"), en P "ExceptionGroup" 150 (.type "ExceptionGroup"), en P "EnvironmentError" 151 (.type "OSError"), en P "IOError" 152 (.type "OSError"), en P "open" 153 (.builtin "open"), en P "quit" 154 (.builtin "builtins.quit#opaque"), en P "exit" 155 (.builtin "builtins.exit#opaque"), en P "copyright" 156 (.builtin "builtins.copyright#opaque"), en P "credits" 157 (.builtin "builtins.credits#opaque"), en P "license" 158 (.builtin "builtins.license#opaque"), en P "help" 159 (.builtin "builtins.help#opaque")] 159 }),
  (1, { cls := .type "dict", data := Data.dict #[en P "builtins" 162 (.ref 4), en P "__main__" 163 (.ref 5)] 2 }),
  (3, { cls := .type "dict", data := Data.dict #[en P "__name__" 165 (.str ("law_pe0146_02") 363), en P "__doc__" 166 (.none), en P "__package__" 167 (.none), en P "__loader__" 168 (.builtin "__main__.__loader__#opaque"), en P "__spec__" 169 (.none), en P "__annotations__" 170 (.ref 6), en P "__builtins__" 171 (.ref 4), en P "__file__" 173 (.str ("/claim/cut.py") 172), en P "__cached__" 174 (.none), en P "_wall" 193 (.ref 21), en P "_netrclex" 253 (.ref 59), en P "TupleComp" 297 (.ref 87), en P "add_func_stats" 315 (.ref 98), en P "add_callers" 326 (.ref 105), en P "_MAX_STRING_SIZE" 330 (.int 40 329), en P "_MOVE_COST" 332 (.int 2 331), en P "_CASE_COST" 334 (.int 1 333), en P "_substitution_cost" 342 (.ref 112), en P "_levenshtein_distance" 362 (.ref 119), en P "_law_reader" 375 (.ref 126), en P "_law_nearest" 387 (.ref 133), en P "_law_walks" 393 (.ref 138), en P "law" 399 (.ref 143)] 23 }),
  (4, { cls := .type "module", dict := Option.some 0 }),
  (5, { cls := .type "module", dict := Option.some 3 }),
  (6, { cls := .type "dict", data := Data.dict #[] }),
  (9, { cls := .type "code", data := Data.fields #[.str ("<module>") 176, .str ("<module>") 177, .str ("/claim/cut.py") 178, .int 1 0, .int 0 0, .int 0 0, .int 0 0, .int 0 0, .ref 7, .bool Bool.false, .int 175 0, .ref 8, .none, .none, .none, .none, .int 179 0, .int 1 0, .str ("/claim/cut.py") 180] }),
  (10, { cls := .type "frame", slots := #[Option.some (.ref 9), Option.some (.ref 3), Option.some (.ref 3), Option.none, Option.some (.str ("__main__") 164), Option.none, Option.some (.ref 0)] }),
  (13, { cls := .type "code", data := Data.fields #[.str ("<module>") 182, .str ("<module>") 183, .str ("/claim/cut.py") 184, .int 1 0, .int 0 0, .int 0 0, .int 0 0, .int 0 0, .ref 11, .bool Bool.false, .int 181 0, .ref 12, .none, .none, .none, .none, .int 185 0, .int 1 0, .str ("/claim/cut.py") 186] }),
  (14, { cls := .type "frame", slots := #[Option.some (.ref 13), Option.some (.ref 3), Option.some (.ref 3), Option.none, Option.some (.str ("__main__") 164), Option.none, Option.some (.ref 0)] }),
  (20, { cls := .type "code", data := Data.fields #[.str ("_wall") 187, .str ("_wall") 188, .str ("/claim/cut.py") 189, .int 1 0, .int 1 0, .int 0 0, .int 0 0, .int 3 0, .ref 15, .bool Bool.true, .int 181 0, .ref 16, .none, .ref 17, .ref 18, .ref 19, .int 191 0, .int 1 0, .str ("/claim/cut.py") 192] }),
  (34, { cls := .type "code", data := Data.fields #[.str ("__init__") 208, .str ("_netrclex.__init__") 209, .str ("/claim/cut.py") 210, .int 7 0, .int 2 0, .int 0 0, .int 0 0, .int 3 0, .ref 29, .bool Bool.true, .int 181 0, .ref 30, .none, .ref 31, .ref 32, .ref 33, .int 213 0, .int 7 0, .str ("/claim/cut.py") 214] }),
  (35, { cls := .type "function", data := Data.func { name := "__init__", qualname := "_netrclex.__init__", params := dfArgs (me2 2 0), body := .stmts (dfBody (me2 2 0)), scope := dfScope (me2 2 0), globals := 3, closure := [], defaults := .none, kwdefaults := .none, pyModule := .str ("cpy313.netrc") 194, code := .ref 34 } }),
  (41, { cls := .type "code", data := Data.fields #[.str ("_read_char") 216, .str ("_netrclex._read_char") 217, .str ("/claim/cut.py") 218, .int 13 0, .int 1 0, .int 0 0, .int 0 0, .int 3 0, .ref 36, .bool Bool.true, .int 181 0, .ref 37, .none, .ref 38, .ref 39, .ref 40, .int 221 0, .int 13 0, .str ("/claim/cut.py") 222] }),
  (42, { cls := .type "function", data := Data.func { name := "_read_char", qualname := "_netrclex._read_char", params := dfArgs (me2 2 1), body := .stmts (dfBody (me2 2 1)), scope := dfScope (me2 2 1), globals := 3, closure := [], defaults := .none, kwdefaults := .none, pyModule := .str ("cpy313.netrc") 194, code := .ref 41 } }),
  (48, { cls := .type "code", data := Data.fields #[.str ("get_token") 224, .str ("_netrclex.get_token") 225, .str ("/claim/cut.py") 226, .int 19 0, .int 1 0, .int 0 0, .int 0 0, .int 3 0, .ref 43, .bool Bool.true, .int 181 0, .ref 44, .none, .ref 45, .ref 46, .ref 47, .int 231 0, .int 19 0, .str ("/claim/cut.py") 232] }),
  (49, { cls := .type "function", data := Data.func { name := "get_token", qualname := "_netrclex.get_token", params := dfArgs (me2 2 2), body := .stmts (dfBody (me2 2 2)), scope := dfScope (me2 2 2), globals := 3, closure := [], defaults := .none, kwdefaults := .none, pyModule := .str ("cpy313.netrc") 194, code := .ref 48 } }),
  (55, { cls := .type "code", data := Data.fields #[.str ("push_token") 234, .str ("_netrclex.push_token") 235, .str ("/claim/cut.py") 236, .int 46 0, .int 2 0, .int 0 0, .int 0 0, .int 3 0, .ref 50, .bool Bool.true, .int 181 0, .ref 51, .none, .ref 52, .ref 53, .ref 54, .int 239 0, .int 46 0, .str ("/claim/cut.py") 240] }),
  (56, { cls := .type "function", data := Data.func { name := "push_token", qualname := "_netrclex.push_token", params := dfArgs (me2 2 3), body := .stmts (dfBody (me2 2 3)), scope := dfScope (me2 2 3), globals := 3, closure := [], defaults := .none, kwdefaults := .none, pyModule := .str ("cpy313.netrc") 194, code := .ref 55 } }),
  (58, { cls := .type "dict", data := Data.dict #[en P "__module__" 203 (.str ("cpy313.netrc") 194), en P "__firstlineno__" 207 (.int 5 206), en P "__init__" 215 (.ref 35), en P "_read_char" 223 (.ref 42), en P "get_token" 233 (.ref 49), en P "push_token" 241 (.ref 56), en P "__static_attributes__" 246 (.ref 57), en P "__dict__" 248 (.ref 60), en P "__weakref__" 250 (.ref 61), en P "__doc__" 251 (.none)] 4 }),
  (59, { cls := .type "type", data := Data.cls { name := "_netrclex", bases := [.type "object"], mro := [.ref 59, .type "object"], ns := 58, qualname := "_netrclex" }, slots := #[Option.none, Option.none, Option.some (.str ("_netrclex") 196), Option.some (.str ("_netrclex") 204), Option.some (.builtin "object.__new__"), Option.some (.bool Bool.true)] }),
  (60, { cls := .type "getset_descriptor", data := Data.fields #[.str ("__dict__") 247, .ref 59, .builtin "function.__dict__", .builtin "function.__dict__#set"] }),
  (61, { cls := .type "getset_descriptor", data := Data.fields #[.str ("__weakref__") 249, .ref 59, .builtin "ExceptionGroup.__weakref__", .none] }),
  (76, { cls := .type "code", data := Data.fields #[.str ("__init__") 268, .str ("TupleComp.__init__") 269, .str ("/claim/cut.py") 270, .int 51 0, .int 2 0, .int 0 0, .int 0 0, .int 3 0, .ref 71, .bool Bool.true, .int 181 0, .ref 72, .none, .ref 73, .ref 74, .ref 75, .int 273 0, .int 51 0, .str ("/claim/cut.py") 274] }),
  (77, { cls := .type "function", data := Data.func { name := "__init__", qualname := "TupleComp.__init__", params := dfArgs (me2 4 0), body := .stmts (dfBody (me2 4 0)), scope := dfScope (me2 4 0), globals := 3, closure := [], defaults := .none, kwdefaults := .none, pyModule := .str ("cpy313.pstats") 254, code := .ref 76 } }),
  (83, { cls := .type "code", data := Data.fields #[.str ("compare") 276, .str ("TupleComp.compare") 277, .str ("/claim/cut.py") 278, .int 54 0, .int 3 0, .int 0 0, .int 0 0, .int 3 0, .ref 78, .bool Bool.true, .int 181 0, .ref 79, .none, .ref 80, .ref 81, .ref 82, .int 286 0, .int 54 0, .str ("/claim/cut.py") 287] }),
  (84, { cls := .type "function", data := Data.func { name := "compare", qualname := "TupleComp.compare", params := dfArgs (me2 4 1), body := .stmts (dfBody (me2 4 1)), scope := dfScope (me2 4 1), globals := 3, closure := [], defaults := .none, kwdefaults := .none, pyModule := .str ("cpy313.pstats") 254, code := .ref 83 } }),
  (86, { cls := .type "dict", data := Data.dict #[en P "__module__" 263 (.str ("cpy313.pstats") 254), en P "__firstlineno__" 267 (.int 49 266), en P "__init__" 275 (.ref 77), en P "compare" 288 (.ref 84), en P "__static_attributes__" 290 (.ref 85), en P "__dict__" 292 (.ref 88), en P "__weakref__" 294 (.ref 89), en P "__doc__" 295 (.none)] 4 }),
  (87, { cls := .type "type", data := Data.cls { name := "TupleComp", bases := [.type "object"], mro := [.ref 87, .type "object"], ns := 86, qualname := "TupleComp" }, slots := #[Option.none, Option.none, Option.some (.str ("TupleComp") 256), Option.some (.str ("TupleComp") 264), Option.some (.builtin "object.__new__"), Option.some (.bool Bool.true)] }),
  (88, { cls := .type "getset_descriptor", data := Data.fields #[.str ("__dict__") 291, .ref 87, .builtin "function.__dict__", .builtin "function.__dict__#set"] }),
  (89, { cls := .type "getset_descriptor", data := Data.fields #[.str ("__weakref__") 293, .ref 87, .builtin "ExceptionGroup.__weakref__", .none] }),
  (97, { cls := .type "code", data := Data.fields #[.str ("add_func_stats") 298, .str ("add_func_stats") 299, .str ("/claim/cut.py") 300, .int 63 0, .int 2 0, .int 0 0, .int 0 0, .int 3 0, .ref 92, .bool Bool.true, .int 181 0, .ref 93, .none, .ref 94, .ref 95, .ref 96, .int 313 0, .int 63 0, .str ("/claim/cut.py") 314] }),
  (98, { cls := .type "function", data := Data.func { name := "add_func_stats", qualname := "add_func_stats", params := dfArgs (st2 5), body := .stmts (dfBody (st2 5)), scope := dfScope (st2 5), globals := 3, closure := [], defaults := .none, kwdefaults := .none, pyModule := .str ("cpy313.pstats") 254, code := .ref 97 } }),
  (100, { cls := .none, data := Data.fields #[] }),
  (104, { cls := .type "code", data := Data.fields #[.str ("add_callers") 316, .str ("add_callers") 317, .str ("/claim/cut.py") 318, .int 67 0, .int 2 0, .int 0 0, .int 0 0, .int 3 0, .ref 99, .bool Bool.true, .int 181 0, .ref 100, .none, .ref 101, .ref 102, .ref 103, .int 324 0, .int 67 0, .str ("/claim/cut.py") 325] }),
  (105, { cls := .type "function", data := Data.func { name := "add_callers", qualname := "add_callers", params := dfArgs (st2 6), body := .stmts (dfBody (st2 6)), scope := dfScope (st2 6), globals := 3, closure := [], defaults := .none, kwdefaults := .none, pyModule := .str ("cpy313.pstats") 254, code := .ref 104 } }),
  (111, { cls := .type "code", data := Data.fields #[.str ("_substitution_cost") 335, .str ("_substitution_cost") 336, .str ("/claim/cut.py") 337, .int 84 0, .int 2 0, .int 0 0, .int 0 0, .int 3 0, .ref 106, .bool Bool.true, .int 181 0, .ref 107, .none, .ref 108, .ref 109, .ref 110, .int 340 0, .int 84 0, .str ("/claim/cut.py") 341] }),
  (112, { cls := .type "function", data := Data.func { name := "_substitution_cost", qualname := "_substitution_cost", params := dfArgs (st2 11), body := .stmts (dfBody (st2 11)), scope := dfScope (st2 11), globals := 3, closure := [], defaults := .none, kwdefaults := .none, pyModule := .str ("cpy313.traceback") 327, code := .ref 111 } }),
  (118, { cls := .type "code", data := Data.fields #[.str ("_levenshtein_distance") 343, .str ("_levenshtein_distance") 344, .str ("/claim/cut.py") 345, .int 90 0, .int 3 0, .int 0 0, .int 0 0, .int 3 0, .ref 113, .bool Bool.true, .int 181 0, .ref 114, .none, .ref 115, .ref 116, .ref 117, .int 360 0, .int 90 0, .str ("/claim/cut.py") 361] }),
  (119, { cls := .type "function", data := Data.func { name := "_levenshtein_distance", qualname := "_levenshtein_distance", params := dfArgs (st2 12), body := .stmts (dfBody (st2 12)), scope := dfScope (st2 12), globals := 3, closure := [], defaults := .none, kwdefaults := .none, pyModule := .str ("cpy313.traceback") 327, code := .ref 118 } }),
  (121, { cls := .none, data := Data.fields #[] }),
  (125, { cls := .type "code", data := Data.fields #[.str ("_law_reader") 365, .str ("_law_reader") 366, .str ("/claim/cut.py") 367, .int 129 0, .int 1 0, .int 0 0, .int 0 0, .int 3 0, .ref 120, .bool Bool.true, .int 181 0, .ref 121, .none, .ref 122, .ref 123, .ref 124, .int 373 0, .int 129 0, .str ("/claim/cut.py") 374] }),
  (126, { cls := .type "function", data := Data.func { name := "_law_reader", qualname := "_law_reader", params := dfArgs (st2 14), body := .stmts (dfBody (st2 14)), scope := dfScope (st2 14), globals := 3, closure := [], defaults := .none, kwdefaults := .none, pyModule := .str ("law_pe0146_02") 363, code := .ref 125 } }),
  (132, { cls := .type "code", data := Data.fields #[.str ("_law_nearest") 376, .str ("_law_nearest") 377, .str ("/claim/cut.py") 378, .int 139 0, .int 1 0, .int 0 0, .int 0 0, .int 3 0, .ref 127, .bool Bool.true, .int 181 0, .ref 128, .none, .ref 129, .ref 130, .ref 131, .int 385 0, .int 139 0, .str ("/claim/cut.py") 386] }),
  (133, { cls := .type "function", data := Data.func { name := "_law_nearest", qualname := "_law_nearest", params := dfArgs (st2 15), body := .stmts (dfBody (st2 15)), scope := dfScope (st2 15), globals := 3, closure := [], defaults := .none, kwdefaults := .none, pyModule := .str ("law_pe0146_02") 363, code := .ref 132 } }),
  (137, { cls := .type "code", data := Data.fields #[.str ("_law_walks") 388, .str ("_law_walks") 389, .str ("/claim/cut.py") 390, .int 147 0, .int 4 0, .int 0 0, .int 0 0, .int 3 0, .ref 134, .bool Bool.true, .int 181 0, .ref 135, .none, .none, .none, .ref 136, .int 391 0, .int 147 0, .str ("/claim/cut.py") 392] }),
  (138, { cls := .type "function", data := Data.func { name := "_law_walks", qualname := "_law_walks", params := dfArgs (st2 16), body := .stmts (dfBody (st2 16)), scope := dfScope (st2 16), globals := 3, closure := [], defaults := .none, kwdefaults := .none, pyModule := .str ("law_pe0146_02") 363, code := .ref 137 } }),
  (142, { cls := .type "code", data := Data.fields #[.str ("law") 394, .str ("law") 395, .str ("/claim/cut.py") 396, .int 171 0, .int 1 0, .int 0 0, .int 0 0, .int 3 0, .ref 139, .bool Bool.true, .int 181 0, .ref 140, .none, .none, .none, .ref 141, .int 397 0, .int 171 0, .str ("/claim/cut.py") 398] }),
  (143, { cls := .type "function", data := Data.func { name := "law", qualname := "law", params := dfArgs (st2 17), body := .stmts (dfBody (st2 17)), scope := dfScope (st2 17), globals := 3, closure := [], defaults := .none, kwdefaults := .none, pyModule := .str ("law_pe0146_02") 363, code := .ref 142 } })]
def as2 : List Addr := [0, 1, 3, 4, 5, 6, 9, 10, 13, 14, 20, 34, 35, 41, 42, 48, 49, 55, 56, 58, 59, 60, 61, 76, 77, 83, 84, 86, 87, 88, 89, 97, 98, 100, 104, 105, 111, 112, 118, 119, 121, 125, 126, 132, 133, 137, 138, 142, 143]
noncomputable abbrev HK : Hook := kHook K2 as2 (fun _ => by kernel_rfl)
noncomputable def d2 : DefRec := ⟨"law", dfArgs (st2 17), dfBody (st2 17), dfScope (st2 17), match st2 17 with | .FunctionDef _ _ _ _ _ _ _ _ _ p => p | _ => ⟨0, 0, 0, 0⟩⟩
set_option maxRecDepth 100000 in
set_option maxHeartbeats 0 in
theorem leftK : LeftO PySem.Challenge.rw_pe0146_02.row.prog vw [] (fun s => xlAt vw [] s && recOk (RowW.records (OpenRow.toRowW PySem.Challenge.rw_pe0146_02.row)) s) (Hook.obs HK) (Hook.val HK) 2002 := by
  intro w
  kernel_rfl
end
section
set_option maxHeartbeats 4000000

noncomputable def comm : List Nat → List Nat → Nat
  | x :: xs, y :: ys => if x = y then comm xs ys + 1 else 0
  | _, _ => 0
noncomputable def lvI (bc : Nat) (a : List Nat) : Nat → Int × Int × Int × List Int → Int × Int × Int × List Int
  | 0, s => s
  | i + 1, s =>
    let (d, r, m, row) := lvI bc a i s
    let d' := row.getD i 0
    let r' := min (min r d' + 2) (d + subCost (S [bc]) (S [a.getD i 0]))
    (d', r', (if r' < m then r' else m), row.set i r')
noncomputable def lvO (a b : List Nat) (mc : Int) : Nat → Option (Int × List Int)
  | 0 => some (0, (List.range a.length).map fun i : Nat => 2 + (i : Int) * 2)
  | j + 1 => match lvO a b mc j with
    | none => none
    | some (_, row) =>
      let (_, r, m, row') := lvI (b.getD j 0) a a.length ((j : Int) * 2, (j : Int) * 2, 9223372036854775807, row)
      if m > mc then none else some (r, row')
theorem lvI_succ (bc : Nat) (a : List Nat) (i : Nat) (s : Int × Int × Int × List Int) : lvI bc a (i + 1) s =
    (let (d, r, m, row) := lvI bc a i s
     let d' := row.getD i 0
     let r' := min (min r d' + 2) (d + subCost (S [bc]) (S [a.getD i 0]))
     (d', r', (if r' < m then r' else m), row.set i r')) := rfl
theorem lvO_succ (a b : List Nat) (mc : Int) (j : Nat) : lvO a b mc (j + 1) = match lvO a b mc j with
    | none => none
    | some (_, row) =>
      let (_, r, m, row') := lvI (b.getD j 0) a a.length ((j : Int) * 2, (j : Int) * 2, 9223372036854775807, row)
      if m > mc then none else some (r, row') := rfl
noncomputable def lvD (a b : List Nat) (mc : Int) : Int := match lvO a b mc b.length with
  | none => mc + 1
  | some (r, _) => r
noncomputable def cutP (p : Nat) (l : List Nat) : List Nat := l.take (l.length - p)
noncomputable def lvT (a b : List Nat) (mc : Int) : Int :=
  if a = [] ∨ b = [] then 2 * ((a.length : Int) + b.length)
  else if b.length < a.length then (if ((a.length : Int) - b.length) * 2 > mc then mc + 1 else lvD b a mc)
  else (if ((b.length : Int) - a.length) * 2 > mc then mc + 1 else lvD a b mc)
noncomputable def levF (a b : List Nat) (mc : Int) : Int :=
  if a = b then 0
  else
    let a1 := a.drop (comm a b)
    let b1 := b.drop (comm a b)
    let p := comm a1.reverse b1.reverse
    lvT (cutP p a1) (cutP p b1) mc
noncomputable def okS (l : List Nat) : Prop := ∀ c ∈ l, lowOk (S [c])
theorem lvO_none {a b : List Nat} {mc : Int} {j : Nat} (h : lvO a b mc j = none) : ∀ k, lvO a b mc (j + k) = none
  | 0 => h
  | k + 1 => by rw [← Nat.add_assoc, lvO_succ, lvO_none h k]
variable {C : Cx} {A : Around} {σ : Hp} {Q : MV → Hp → Prop}
theorem lev_dp (T : Tx C) {n : Nat} {A' : Around} (hA' : Ar A' (n + 1)) {cd : Value} {L : Addr} {a b : List Nat} {mc : Int} {l : Loc} {ℓ : Nat} {K : Fl → Loc → Hp → Prop} (hK : Via (fun fl _ σ' => retOf fl = .int (if ((b.length : Int) - a.length) * 2 > mc then mc + 1 else lvD a b mc) ∧ ∀ n, σ n ≠ none → σ' n = σ n) K) (la : l "a" = some (.str (S a))) (lb : l "b" = some (.str (S b))) (lm : l "max_cost" = some (.int mc))
    (oka : okS a) (okb : okS b) (hla : a.length ≤ 40) (hlb : b.length ≤ 40) (hℓ : σ ℓ = none) :
    Exs C A' ⟨envC (dfScope (st2 12)) "_levenshtein_distance" cd T.lev L, ownOf (dfScope (st2 12))⟩ ((dfBody (st2 12)).drop 12) l σ K := by
  obtain ⟨t1, g1⟩ := T.g_case
  obtain ⟨t2, g2⟩ := T.g_move
  obtain ⟨cs, Fs⟩ := id T.Fsub
  refine exs_cons ?_
  walk_at "ss"
  refine ev_callB (.bi _) (by kernel_rfl!) T.b_len.1 T.b_len.2 ?_
  walk_at "ss"
  refine cal_lenS (by (first | lia | omega)) ?_
  refine ev_callB (.bi _) (by kernel_rfl!) T.b_len.1 T.b_len.2 ?_
  walk_at "ss"
  refine cal_lenS (by (first | lia | omega)) ?_
  walk_at "ss"
  refine ev_globI (by kernel_rfl!) g2 ?_
  refine op_mulB (by (first | lia | omega)) ?_
  walk_at "ss"
  refine iteB (fun h => ?_) fun h => ?_
  · walk_at "ss"
    exact ⟨by rw [if_pos (by simpa using h)]; rfl, fun _ _ => rfl⟩
  rw [if_neg (by simpa using h)] at hK
  walk_at "ss"
  refine ev_callB (.ty _) (by kernel_rfl!) T.b_list.1 T.b_list.2 ?_
  walk_at "ss"
  refine ev_callB (.ty _) (by kernel_rfl!) T.b_range.1 T.b_range.2 ?_
  walk_at "ss"
  refine ev_globI (by kernel_rfl!) g2 ?_
  walk_at "ss"
  refine ev_globI (by kernel_rfl!) g2 ?_
  walk_at "ss"
  refine ev_callB (.bi _) (by kernel_rfl!) T.b_len.1 T.b_len.2 ?_
  walk_at "ss"
  refine cal_lenS (by (first | lia | omega)) ?_
  walk_at "ss"
  refine op_mulB (by (first | lia | omega)) ?_
  walk_at "ss"
  refine ev_globI (by kernel_rfl!) g2 ?_
  walk_at "ss"
  refine cal_range3 (by (first | lia | omega)) ?_
  refine cal_listR (n := a.length) (ℓ := ℓ) hA'.h (smallR (by (first | lia | omega)) (by (first | lia | omega)) (by (first | lia | omega))) ?_ (by (first | lia | omega)) hℓ ?_
  · simp only [Builtin.Range.rangeSize]
    rw [if_pos (by (first | lia | omega))]
    split <;> (first | lia | omega)
  walk_at "ss"
  have dom : ∀ (row : List Int) n, σ n ≠ none → (σ.set ℓ (.list (row.map .int))) n = σ n := fun row n hn => hp_other (fun e => hn (by rw [e]; exact hℓ)) rfl
  refine ex_forR b.length (fun j l σ₁ => ∃ r row, A8 (lvO a b mc j = some (r, row)) (row.length = a.length) (l "a" = some (.str (S a))) (l "b" = some (.str (S b))) (l "max_cost" = some (.int mc)) (l "row" = some (.ref ℓ)) (l "result" = some (.int r)) (σ₁ = σ.set ℓ (.list (row.map .int))))
    hA'.h T.b_range (by kernel_rfl!) (.inl (by kernel_rfl!)) (by (first | lia | omega)) ?_ ?_ ?_
  · refine ev_callB (.bi _) (by kernel_rfl!) T.b_len.1 T.b_len.2 ?_
    walk_at "ss"
    refine cal_lenS (by (first | lia | omega)) ⟨rfl, 0, _, rfl, by simp, by walk_at "lk", by walk_at "lk", by walk_at "lk", by walk_at "lk", by walk_at "lk", ?_⟩
    simp [Function.comp_def]
  · rintro j K1 hK1 l₁ σ₁ hj ⟨r, row, hO, hrow, la₁, lb₁, lm₁, lr₁, lre₁, rfl⟩
    walk_at "ss"
    refine gi_S (by (first | lia | omega)) (List.getElem?_eq_getElem hj) ?_
    walk_at "ss"
    refine ev_globI (by kernel_rfl!) g2 ?_
    refine op_mulB (by (first | lia | omega)) ?_
    walk_at "ss"
    generalize hbc : b[j] = bc
    have hgd : b.getD j 0 = bc := by rw [← hbc]; simp [List.getD, hj]
    have okbc : lowOk (S [bc]) := okb bc (hbc ▸ List.getElem_mem hj)
    refine ex_forR a.length (fun i l σ₁ => ∃ d r' m row', A11 (lvI bc a i ((j : Int) * 2, (j : Int) * 2, 9223372036854775807, row) = (d, r', m, row')) (row'.length = a.length) (l "a" = some (.str (S a))) (l "b" = some (.str (S b))) (l "max_cost" = some (.int mc)) (l "row" = some (.ref ℓ)) (l "result" = some (.int r')) (l "distance" = some (.int d)) (l "minimum" = some (.int m)) (l "bchar" = some (.str (S [bc]))) (σ₁ = σ.set ℓ (.list (row'.map .int))))
      hA'.h T.b_range (by kernel_rfl!) (.inl (by kernel_rfl!)) (by (first | lia | omega)) ?_ ?_ ?_
    · refine ev_callB (.bi _) (by kernel_rfl!) T.b_len.1 T.b_len.2 ?_
      walk_at "ss"
      exact cal_lenS (by (first | lia | omega)) ⟨rfl, _, _, _, row, rfl, hrow, by walk_at "lk", by walk_at "lk", by walk_at "lk", by walk_at "lk", by walk_at "lk", by walk_at "lk", by walk_at "lk", by walk_at "lk", rfl⟩
    · rintro i K2 hK2 l₂ σ₂ hi ⟨d, r', m, row', hI, hrow', la₂, lb₂, lm₂, lr₂, lre₂, ld₂, lmi₂, lbc₂, rfl⟩
      walk_at "ss"
      refine ev_callF Fs (by kernel_rfl!) T.g_sub ?_
      walk_at "ss"
      refine gi_S (by (first | lia | omega)) (List.getElem?_eq_getElem hi) ?_
      walk_at "ss"
      refine fn_sub T hA' okbc (oka _ (List.getElem_mem hi)) ?_
      walk_at "ss"
      refine gi_list (l := row'.map .int) (lst_ref hp_same) (by (first | lia | omega)) (by (first | lia | omega)) (m := .int (row'.getD i 0)) ?_ ?_
      · simp [List.getD, hrow', hi]
      walk_at "ss"
      refine ev_callB (.bi _) (by kernel_rfl!) T.b_min.1 T.b_min.2 ?_
      walk_at "ss"
      refine cal_min2 hA'.h ?_
      refine ev_globI (by kernel_rfl!) g2 ?_
      walk_at "ss"
      refine ev_callB (.bi _) (by kernel_rfl!) T.b_min.1 T.b_min.2 ?_
      walk_at "ss"
      refine cal_min2 hA'.h ?_
      walk_at "ss"
      refine set_list hp_same (by (first | lia | omega)) (by simp [hrow']; (first | lia | omega)) (by (first | lia | omega)) ?_
      walk_at "ss"
      have hIs : lvI bc a (i + 1) ((j : Int) * 2, (j : Int) * 2, 9223372036854775807, row) = (row'.getD i 0, min (min r' (row'.getD i 0) + 2) (d + subCost (S [bc]) (S [a[i]])),
          (if min (min r' (row'.getD i 0) + 2) (d + subCost (S [bc]) (S [a[i]])) < m then min (min r' (row'.getD i 0) + 2) (d + subCost (S [bc]) (S [a[i]])) else m), row'.set i (min (min r' (row'.getD i 0) + 2) (d + subCost (S [bc]) (S [a[i]])))) := by
        have hga : a.getD i 0 = a[i] := by simp [List.getD, hi]
        rw [lvI_succ, hI, hga]
      have hσ : ∀ x : Int, ((σ.set ℓ (.list (row'.map .int))).set ℓ (.list ((row'.map MV.int).set (i : Int).toNat (.int x)))) = σ.set ℓ (.list ((row'.set i x).map .int)) := by
        intro x; funext n
        show (if n = ℓ then _ else if n = ℓ then _ else _) = (if n = ℓ then _ else _)
        split
        · simp [List.map_set]
        · rfl
      refine iteB (fun h => ?_) fun h => ?_
      · walk_at "ss"
        refine ⟨_, _, _, _, hIs, by simp [hrow'], by walk_at "lk", by walk_at "lk", by walk_at "lk", by walk_at "lk", by walk_at "lk", by walk_at "lk", ?_, by walk_at "lk", hσ _⟩
        rw [if_pos (by simpa using h)]; walk_at "lk"
      · walk_at "ss"
        refine ⟨_, _, _, _, hIs, by simp [hrow'], by walk_at "lk", by walk_at "lk", by walk_at "lk", by walk_at "lk", by walk_at "lk", by walk_at "lk", ?_, by walk_at "lk", hσ _⟩
        rw [if_neg (by simpa using h)]; walk_at "lk"
    · rintro l₂ σ₂ ⟨d, r', m, row', hI, hrow', la₂, lb₂, lm₂, lr₂, lre₂, ld₂, lmi₂, lbc₂, rfl⟩
      walk_at "ss"
      have hO' : lvO a b mc (j + 1) = if m > mc then none else some (r', row') := by
        rw [lvO_succ, hO]; simp only [hgd, hI]
      refine iteB (fun h => ?_) fun h => ?_
      · walk_at "ss"
        rw [if_pos (by simpa using h)] at hO'
        have := lvO_none hO' (b.length - (j + 1))
        rw [show j + 1 + (b.length - (j + 1)) = b.length by (first | lia | omega)] at this
        exact ⟨by simp [lvD, this, retOf_ret], dom row'⟩
      · walk_at "ss"
        rw [if_neg (by simpa using h)] at hO'
        exact ⟨_, _, hO', hrow', by walk_at "lk", by walk_at "lk", by walk_at "lk", by walk_at "lk", by walk_at "lk", rfl⟩
  · rintro l₁ σ₁ ⟨r, row, hO, hrow, la₁, lb₁, lm₁, lr₁, lre₁, rfl⟩
    walk_at "ss"
    exact ⟨by simp [lvD, hO, retOf_ret], dom row⟩
end
section
set_option maxHeartbeats 4000000

variable {C : Cx} {A : Around} {σ : Hp} {Q : MV → Hp → Prop}
theorem comm_step {x y : Nat} {a b : List Nat} {k : Nat} (ha : a[k]? = some x) (hb : b[k]? = some y) : comm (a.drop k) (b.drop k) = if x = y then comm (a.drop (k + 1)) (b.drop (k + 1)) + 1 else 0 := by
  obtain ⟨h1, h1'⟩ := List.getElem?_eq_some_iff.mp ha
  obtain ⟨h2, h2'⟩ := List.getElem?_eq_some_iff.mp hb
  rw [List.drop_eq_getElem_cons h1, List.drop_eq_getElem_cons h2, h1', h2']; rfl
theorem comm_nil {a b : List Nat} (h : a = [] ∨ b = []) : comm a b = 0 := by
  rcases h with rfl | rfl
  · cases b <;> rfl
  · cases a <;> rfl
theorem fn_lev (T : Tx C) {n : Nat} (hA : Ar A (n + 2)) {a b : List Nat} {mc : Int} (ha : okS a) (hb : okS b) (hla : a.length ≤ 40) (hlb : b.length ≤ 40) (hw : Wf σ) (q : Q (.int (levF a b mc)) σ) :
    Fn C A (.ref T.lev) [.str (S a), .str (S b), .int mc] σ Q := by
  obtain ⟨ℓ, hℓ⟩ := hw.new
  refine fn_pure hw.nc ?_
  suffices h : Fn C A (.ref T.lev) [.str (S a), .str (S b), .int mc] σ fun m σ₁ => m = .int (levF a b mc) ∧ ∀ n, σ n ≠ none → σ₁ n = σ n by
    intro g s vs r hv
    refine codeAny_mono (h g s vs r hv) ?_
    rintro r s' ⟨v, g', m, σ', e, r', hv', d, rfl, hk⟩
    exact ⟨v, g', _, σ', e, r', hv', d, _, .same (.int _), hk, q⟩
  clear q
  obtain ⟨cd, F⟩ := T.Flev
  obtain ⟨t1, g1⟩ := T.g_case
  obtain ⟨t2, g2⟩ := T.g_move
  obtain ⟨t3, g3⟩ := T.g_max
  refine fn_go F hA (Loc.set (Loc.set (Loc.set (fun _ => none) "a" (.str (S a))) "b" (.str (S b))) "max_cost" (.int mc)) (ps := ["a", "b", "max_cost"]) (by walk_at "bind") (by kernel_rfl!) rfl rfl fun L A' KF hKF hA' => exs_cons ?_
  walk_at "ss"
  refine iteB (fun h => ?_) fun h => ?_
  · walk_at "ss"
    have h' : a = b := by simpa [S_inj] using h
    exact ⟨by simp [levF, h', retOf_ret], fun _ _ => rfl⟩
  walk_at "ss"
  have hab : a ≠ b := by simpa [S_inj] using h
  generalize hk : comm a b = k0
  refine ex_whileL (fun m l σ' => ∃ k, A7 (σ' = σ) (l "a" = some (.str (S a))) (l "b" = some (.str (S b))) (l "max_cost" = some (.int mc)) (l "pre" = some (.int (k : Nat))) (k + m = k0) (comm (a.drop k) (b.drop k) = m)) ?_ k0 ?_
  rotate_left
  · exact ⟨0, rfl, by walk_at "lk", by walk_at "lk", by walk_at "lk", by walk_at "lk", by (first | lia | omega), by simpa using hk⟩
  rintro m K1 K2 hK1 hK2 l σ' ⟨k, rfl, la, lb, lm, lp, hkm, hc⟩
  refine TrT.val (decide (0 < m)) ?_ ?_
  · refine tr_and (and_cons ?_)
    refine tr_val ?_
    walk_at "ss"
    refine slc_Sd (by (first | lia | omega)) ?_
    refine tru_S (by simp; (first | lia | omega)) ?_
    refine iteB (fun h => ?_) fun h => ?_
    rotate_left
    · have : a.drop k = [] := by simpa using h
      exact ⟨by rw [this] at hc; rw [← hc, comm_nil (.inl rfl)]; rfl, rfl⟩
    walk_at "ss"
    refine tr_val ?_
    walk_at "ss"
    refine slc_Sd (by (first | lia | omega)) ?_
    refine tru_S (by simp; (first | lia | omega)) ?_
    refine iteB (fun h' => ?_) fun h' => ?_
    rotate_left
    · have : b.drop k = [] := by simpa using h'
      exact ⟨by rw [this] at hc; rw [← hc, comm_nil (.inr rfl)]; rfl, rfl⟩
    have hka : k < a.length := by
      rcases Nat.lt_or_ge k a.length with q | q
      · exact q
      · rw [List.drop_eq_nil_of_le q] at h; simp at h
    have hkb : k < b.length := by
      rcases Nat.lt_or_ge k b.length with q | q
      · exact q
      · rw [List.drop_eq_nil_of_le q] at h'; simp at h'
    walk_at "ss"
    refine gi_S (by (first | lia | omega)) (List.getElem?_eq_getElem hka) ?_
    walk_at "ss"
    refine gi_S (by (first | lia | omega)) (List.getElem?_eq_getElem hkb) ?_
    walk_at "ss"
    have hcs := comm_step (List.getElem?_eq_getElem hka) (List.getElem?_eq_getElem hkb)
    rw [hc] at hcs
    refine iteB (fun h => ?_) fun h => ?_
    · walk_at "ss"
      have : a[k] = b[k] := by simpa [S_inj] using h
      rw [if_pos this] at hcs
      exact ⟨by simp; (first | lia | omega), rfl⟩
    · have : a[k] ≠ b[k] := by simpa [S_inj] using h
      rw [if_neg this] at hcs
      exact ⟨by simp; (first | lia | omega), rfl⟩
  refine iteB (fun h => ?_) fun h => ?_
  · walk_at "ss"
    have hm : 0 < m := by simpa using h
    have hka : k < a.length := by
      rcases Nat.lt_or_ge k a.length with q | q
      · exact q
      · rw [List.drop_eq_nil_of_le q, comm_nil (.inl rfl)] at hc; (first | lia | omega)
    have hkb : k < b.length := by
      rcases Nat.lt_or_ge k b.length with q | q
      · exact q
      · rw [List.drop_eq_nil_of_le q, comm_nil (.inr rfl)] at hc; (first | lia | omega)
    have hcs := comm_step (List.getElem?_eq_getElem hka) (List.getElem?_eq_getElem hkb)
    rw [hc] at hcs
    split at hcs
    · exact ⟨m - 1, by (first | lia | omega), k + 1, rfl, by walk_at "lk", by walk_at "lk", by walk_at "lk", by walk_at "lk", by (first | lia | omega), by (first | lia | omega)⟩
    · (first | lia | omega)
  have hm : m = 0 := by simpa using h
  have hkk : k = k0 := by (first | lia | omega)
  subst hkk
  walk_at "ss"
  refine slc_Sd (by (first | lia | omega)) ?_
  walk_at "ss"
  refine slc_Sd (by (first | lia | omega)) ?_
  walk_at "ss"
  generalize hfm : (⟨envC (dfScope (st2 12)) "_levenshtein_distance" cd T.lev L, ownOf (dfScope (st2 12))⟩ : Fm) = fm
  have key : ∀ (x : Str) (l : Loc) (al : List Nat) (p : Nat) (Q : MV → Hp → Prop) (p1 p2 p3 p4 p5 p6 : Pos), (x == ("__debug__" : Str)) = false → (x == ("__classdict__" : Str)) = false → l x = some (.str (S al)) → l "post" = some (.int (-(p : Int))) → al.length ≤ 40 → Q (.str (S (cutP p al))) σ' →
      Ev C A' fm (.Subscript (.Name x p1) (.Slice none (some (.BoolOp .Or [.Name "post" p2, .Constant .none 0 p3] p4)) none p5) p6) l σ' Q := by
    intro x l al p Q p1 p2 p3 p4 p5 p6 hx1 hx2 lx lp hl q
    refine ev_slice (ev_name lx ?_ hx1 hx2)
    walk_at "ss"
    refine ev_or ?_
    walk_at "ss"
    refine iteB (fun h => ?_) fun h => ?_
    · walk_at "ss"
      refine slc_St rfl (by simp at h; (first | lia | omega)) (by (first | lia | omega)) q
    · walk_at "ss"
      have hp : p = 0 := by simp at h; (first | lia | omega)
      subst hp
      refine slc_Sa (by (first | lia | omega)) ?_
      simpa [cutP] using q
  subst hfm
  generalize ha1 : a.drop k = a1
  generalize hb1 : b.drop k = b1
  generalize hp0 : comm a1.reverse b1.reverse = p0
  have hla1 : a1.length ≤ 40 := by rw [← ha1]; simp; (first | lia | omega)
  have hlb1 : b1.length ≤ 40 := by rw [← hb1]; simp; (first | lia | omega)
  refine ex_whileL (fun m l σ'' => ∃ p : Nat, A7 (σ'' = σ') (l "a" = some (.str (S a1))) (l "b" = some (.str (S b1))) (l "max_cost" = some (.int mc)) (l "post" = some (.int (-(p : Int)))) (p + m = p0) (comm (a1.reverse.drop p) (b1.reverse.drop p) = m)) ?_ p0 ?_
  rotate_left
  · exact ⟨0, rfl, by walk_at "lk", by walk_at "lk", by walk_at "lk", by walk_at "lk", by (first | lia | omega), by simpa using hp0⟩
  clear la lb lm lp hc hkm h
  rintro m' K3 K4 hK3 hK4 l' σ'' ⟨p, rfl, la, lb, lm, lp, hkm, hc⟩
  have cutE : ∀ al : List Nat, (cutP p al).isEmpty = true ↔ al.length ≤ p := by
    intro al; simp [cutP, List.take_eq_nil_iff]; constructor
    · rintro (h | h)
      · (first | lia | omega)
      · simp [h]
    · intro h; left; (first | lia | omega)
  have atR : ∀ (al : List Nat) (h : p < al.length), al.reverse[p]? = al[al.length - (p + 1)]? := by
    intro al h
    rw [List.getElem?_reverse h]; congr 1; (first | lia | omega)
  refine TrT.val (decide (0 < m')) ?_ ?_
  · refine tr_and (and_cons ?_)
    refine tr_val ?_
    refine key _ _ a1 p _ _ _ _ _ _ _ (by kernel_rfl!) (by kernel_rfl!) la lp hla1 ?_
    refine tru_S (by simp [cutP]; (first | lia | omega)) ?_
    refine iteB (fun h => ?_) fun h => ?_
    rotate_left
    · have : a1.length ≤ p := (cutE a1).mp (by simpa using h)
      exact ⟨by rw [List.drop_eq_nil_of_le (by simpa using this)] at hc; rw [← hc, comm_nil (.inl rfl)]; rfl, rfl⟩
    walk_at "ss"
    refine tr_val ?_
    refine key _ _ b1 p _ _ _ _ _ _ _ (by kernel_rfl!) (by kernel_rfl!) lb lp hlb1 ?_
    refine tru_S (by simp [cutP]; (first | lia | omega)) ?_
    refine iteB (fun h' => ?_) fun h' => ?_
    rotate_left
    · have : b1.length ≤ p := (cutE b1).mp (by simpa using h')
      exact ⟨by rw [List.drop_eq_nil_of_le (as := b1.reverse) (by simpa using this)] at hc; rw [← hc, comm_nil (.inr rfl)]; rfl, rfl⟩
    have hka : p < a1.length := by
      rcases Nat.lt_or_ge p a1.length with q | q
      · exact q
      · rw [(cutE a1).mpr q] at h; cases h
    have hkb : p < b1.length := by
      rcases Nat.lt_or_ge p b1.length with q | q
      · exact q
      · rw [(cutE b1).mpr q] at h'; cases h'
    have ea := atR a1 hka
    have eb := atR b1 hkb
    have ea' : a1[a1.length - (p + 1)]? = some a1[a1.length - (p + 1)] := List.getElem?_eq_getElem (by (first | lia | omega))
    have eb' : b1[b1.length - (p + 1)]? = some b1[b1.length - (p + 1)] := List.getElem?_eq_getElem (by (first | lia | omega))
    walk_at "ss"
    refine gi_SN (k := p + 1) (by (first | lia | omega)) (by (first | lia | omega)) (by (first | lia | omega)) (by (first | lia | omega)) ea' ?_
    walk_at "ss"
    refine gi_SN (k := p + 1) (by (first | lia | omega)) (by (first | lia | omega)) (by (first | lia | omega)) (by (first | lia | omega)) eb' ?_
    walk_at "ss"
    have hcs := comm_step (ea.trans ea') (eb.trans eb')
    rw [hc] at hcs
    refine iteB (fun h => ?_) fun h => ?_
    · walk_at "ss"
      rw [if_pos (by simpa [S_inj] using h)] at hcs
      exact ⟨by simp; (first | lia | omega), rfl⟩
    · rw [if_neg (by simpa [S_inj] using h)] at hcs
      exact ⟨by simp; (first | lia | omega), rfl⟩
  refine iteB (fun h => ?_) fun h => ?_
  · walk_at "ss"
    have hm : 0 < m' := by simpa using h
    have hka : p < a1.reverse.length := by
      rcases Nat.lt_or_ge p a1.reverse.length with q | q
      · exact q
      · rw [List.drop_eq_nil_of_le q, comm_nil (.inl rfl)] at hc; (first | lia | omega)
    have hkb : p < b1.reverse.length := by
      rcases Nat.lt_or_ge p b1.reverse.length with q | q
      · exact q
      · rw [List.drop_eq_nil_of_le q, comm_nil (.inr rfl)] at hc; (first | lia | omega)
    have hcs := comm_step (List.getElem?_eq_getElem hka) (List.getElem?_eq_getElem hkb)
    rw [hc] at hcs
    split at hcs
    · exact ⟨m' - 1, by (first | lia | omega), p + 1, rfl, by walk_at "lk", by walk_at "lk", by walk_at "lk", by walk_at "lk", by (first | lia | omega), by (first | lia | omega)⟩
    · (first | lia | omega)
  have hm' : m' = 0 := by simpa using h
  have hpp : p = p0 := by (first | lia | omega)
  subst hpp
  iterate 5 walk_at "s"
  refine key _ _ a1 p _ _ _ _ _ _ _ (by kernel_rfl!) (by kernel_rfl!) la lp hla1 ?_
  iterate 3 walk_at "s"
  refine key _ _ b1 p _ _ _ _ _ _ _ (by kernel_rfl!) (by kernel_rfl!) (by walk_at "lk") (by walk_at "lk") hlb1 ?_
  walk_at "ss"
  have hlev : levF a b mc = lvT (cutP p a1) (cutP p b1) mc := by
    simp only [levF, if_neg hab, hk, ha1, hb1, hp0]
  rw [hlev] at hKF
  have oka : okS (cutP p a1) := fun c hc => ha c (by rw [← ha1] at hc; exact List.mem_of_mem_drop (List.mem_of_mem_take hc))
  have okb : okS (cutP p b1) := fun c hc => hb c (by rw [← hb1] at hc; exact List.mem_of_mem_drop (List.mem_of_mem_take hc))
  have hla2 : (cutP p a1).length ≤ 40 := by simp [cutP]; (first | lia | omega)
  have hlb2 : (cutP p b1).length ≤ 40 := by simp [cutP]; (first | lia | omega)
  generalize cutP p a1 = a2 at *
  generalize cutP p b1 = b2 at *
  clear key cutE atR
  refine TrT.val (decide (a2 = [] ∨ b2 = [])) ?_ ?_
  · refine tr_or (or_cons ?_)
    walk_at "ss"
    refine tr_val ?_
    walk_at "ss"
    refine tru_S (by (first | lia | omega)) ?_
    refine iteB (fun h => ?_) fun h => ?_
    · have : a2 = [] := by simpa using h
      exact ⟨by simp [this], rfl⟩
    walk_at "ss"
    refine tr_val ?_
    walk_at "ss"
    refine tru_S (by (first | lia | omega)) ?_
    have e1 : a2 ≠ [] := by simpa using h
    refine iteB (fun h => ?_) fun h => ?_
    · have : b2 = [] := by simpa using h
      exact ⟨by simp [this], rfl⟩
    walk_at "ss"
    have e2 : b2 ≠ [] := by simpa using h
    exact ⟨by simp [e1, e2], rfl⟩
  refine iteB (fun h => ?_) fun h => ?_
  · have h' : a2 = [] ∨ b2 = [] := by simpa using h
    walk_at "ss"
    refine ev_globI (by kernel_rfl!) g2 ?_
    walk_at "ss"
    refine ev_callB (.bi _) (by kernel_rfl!) T.b_len.1 T.b_len.2 ?_
    walk_at "ss"
    refine cal_lenS (by (first | lia | omega)) ?_
    refine ev_callB (.bi _) (by kernel_rfl!) T.b_len.1 T.b_len.2 ?_
    walk_at "ss"
    refine cal_lenS (by (first | lia | omega)) ?_
    walk_at "ss"
    refine op_mulB (by (first | lia | omega)) ?_
    walk_at "ss"
    exact ⟨by simp [lvT, h', retOf_ret], fun _ _ => rfl⟩
  have hne : ¬ (a2 = [] ∨ b2 = []) := by simpa using h
  walk_at "ss"
  refine TrT.val false ?_ ?_
  · refine tr_or (or_cons ?_)
    walk_at "ss"
    refine ev_callB (.bi _) (by kernel_rfl!) T.b_len.1 T.b_len.2 ?_
    walk_at "ss"
    refine cal_lenS (by (first | lia | omega)) ?_
    refine ev_globI (by kernel_rfl!) g3 ?_
    walk_at "ss"
    refine iteB (fun h => ?_) fun h => ?_
    · simp at h; (first | lia | omega)
    walk_at "ss"
    refine ev_callB (.bi _) (by kernel_rfl!) T.b_len.1 T.b_len.2 ?_
    walk_at "ss"
    refine cal_lenS (by (first | lia | omega)) ?_
    refine ev_globI (by kernel_rfl!) g3 ?_
    walk_at "ss"
    refine iteB (fun h => ?_) fun h => ?_
    · simp at h; (first | lia | omega)
    walk_at "ss"
    exact ⟨rfl, rfl⟩
  refine iteB (fun h => ?_) fun h => ?_
  · cases h
  iterate 3 walk_at "s"
  refine ExT.mid (fun l σ₁ => A3 (σ₁ = σ'') (l "max_cost" = some (.int mc)) (∃ a3 b3, A7 (l "a" = some (.str (S a3))) (l "b" = some (.str (S b3))) (okS a3) (okS b3) (a3.length ≤ 40) (b3.length ≤ 40) (lvT a2 b2 mc = if ((b3.length : Int) - a3.length) * 2 > mc then mc + 1 else lvD a3 b3 mc))) ?_ ?_
  · walk_at "ss"
    refine ev_callB (.bi _) (by kernel_rfl!) T.b_len.1 T.b_len.2 ?_
    walk_at "ss"
    refine cal_lenS (by (first | lia | omega)) ?_
    refine ev_callB (.bi _) (by kernel_rfl!) T.b_len.1 T.b_len.2 ?_
    walk_at "ss"
    refine cal_lenS (by (first | lia | omega)) ?_
    walk_at "ss"
    refine iteB (fun h => ?_) fun h => ?_
    · walk_at "s"
      refine ex_swap (x := "a") (y := "b") hA'.h ?_ (.inl (by kernel_rfl!)) (.inl (by kernel_rfl!))
      walk_at "ss"
      refine ⟨by simp, _, _, rfl, ?_⟩
      walk_at "ss"
      have h' : b2.length < a2.length := by simpa using h
      exact ⟨rfl, rfl, by walk_at "lk", b2, a2, by walk_at "lk", by walk_at "lk", okb, oka, hlb2, hla2, by simp only [lvT, if_neg hne, if_pos h']⟩
    · walk_at "ss"
      have h' : ¬ b2.length < a2.length := by simpa using h
      exact ⟨rfl, rfl, by walk_at "lk", a2, b2, by walk_at "lk", by walk_at "lk", oka, okb, hla2, hlb2, by simp only [lvT, if_neg hne, if_neg h']⟩
  · rintro l₃ σ₃ ⟨rfl, lm₃, a3, b3, la₃, lb₃, ok3, ok3', hl3, hl3', e3⟩
    rw [e3] at hKF
    exact lev_dp T hA' hKF la₃ lb₃ lm₃ ok3 ok3' hl3 hl3' hℓ
end
section
section
variable {C : Cx} {A : Around} {fm : Fm} {fa : List Addr} {loc : Loc} {σ : Hp} {g : Gh} {s : Shared} {QS : Fl → Loc → Hp → Prop}
theorem st_tup2 {x y : Str} {p q pos : Pos} {k : Nat} {a b : MV} {Q : Loc → Hp → Prop} (hh : A.handled = none) (hx : canSt fm x) (hy : canSt fm y) (h : Q ((loc.set x a).set y b) σ) : St C A fm (.Tuple [.Name x p, .Name y q] k pos) (.tup [a, b]) loc σ Q :=
  st_tup (xs := [x, y]) (ps := [p, q]) rfl hh (fun z hz => by rcases List.mem_cons.mp hz with rfl | hz; exact hx; rcases List.mem_cons.mp hz with rfl | hz; exact hy; cases hz) rfl rfl h
theorem st_tup5 {x1 x2 x3 x4 x5 : Str} {p1 p2 p3 p4 p5 pos : Pos} {k : Nat} {a1 a2 a3 a4 a5 : MV} {Q : Loc → Hp → Prop} (hh : A.handled = none) (h1 : canSt fm x1) (h2 : canSt fm x2) (h3 : canSt fm x3) (h4 : canSt fm x4) (h5 : canSt fm x5)
    (h : Q (((((loc.set x1 a1).set x2 a2).set x3 a3).set x4 a4).set x5 a5) σ) : St C A fm (.Tuple [.Name x1 p1, .Name x2 p2, .Name x3 p3, .Name x4 p4, .Name x5 p5] k pos) (.tup [a1, a2, a3, a4, a5]) loc σ Q :=
  st_tup (xs := [x1, x2, x3, x4, x5]) (ps := [p1, p2, p3, p4, p5]) rfl hh (fun z hz => by
    simp only [List.mem_cons, List.not_mem_nil, or_false] at hz
    rcases hz with rfl | rfl | rfl | rfl | rfl <;> assumption) rfl rfl h
theorem ex_for2 {x y : Str} {p q tp pos : Pos} {k : Nat} {it : Expr} {body orelse : List Stmt} (n : Nat) (ia ib : Nat → MV) (J : Hp → Prop) (Inv : Nat → Loc → Hp → Prop) (hh : A.handled = none) (hx : canSt fm x) (hy : canSt fm y)
    (h : WalkE C A fm (.Tuple [.Name x p, .Name y q] k tp) it loc σ n (fun i => .tup [ia i, ib i]) J fun σ₁ => Inv 0 loc σ₁)
    (turn : ∀ i K, Via (Lp (fun l σ => Inv (i + 1) l σ ∧ J σ) QS) K → ∀ loc σ, i < n → Inv i loc σ → J σ → Exs C A fm body ((loc.set x (ia i)).set y (ib i)) σ K)
    (fin : ∀ loc σ, Inv n loc σ → J σ → Exs C A fm orelse loc σ QS) (hs : ∀ x, foldedSetIterable it fm.env x = pure x := by intro _; rfl) : Ex C A fm (.For (.Tuple [.Name x p, .Name y q] k tp) it body orelse pos) loc σ QS :=
  ex_forL n _ J Inv h (fun i K hK loc σ hi hI hJ => st_tup2 hh hx hy (turn i K hK loc σ hi hI hJ)) fin hs
theorem ex_for1 {x : Str} {p pos : Pos} {it : Expr} {body orelse : List Stmt} (n : Nat) (item : Nat → MV) (J : Hp → Prop) (Inv : Nat → Loc → Hp → Prop) (hx : canSt fm x)
    (h : WalkE C A fm (.Name x p) it loc σ n item J fun σ₁ => Inv 0 loc σ₁)
    (turn : ∀ i K, Via (Lp (fun l σ => Inv (i + 1) l σ ∧ J σ) QS) K → ∀ loc σ, i < n → Inv i loc σ → J σ → Exs C A fm body (loc.set x (item i)) σ K)
    (fin : ∀ loc σ, Inv n loc σ → J σ → Exs C A fm orelse loc σ QS) (hs : ∀ x, foldedSetIterable it fm.env x = pure x := by intro _; rfl) : Ex C A fm (.For (.Name x p) it body orelse pos) loc σ QS :=
  ex_forL n _ J Inv h (fun i K hK loc σ hi hI hJ => st_name hx (turn i K hK loc σ hi hI hJ)) fin hs
end
noncomputable def addC : MV → MV → MV
  | .int u, .int v => .int (u + v)
  | .tup [.int a, .int b], .tup [.int c, .int d] => .tup [.int (c + a), .int (d + b)]
  | _, _ => .none
inductive CVk : Bool → MV → Prop
  | int (i : Int) : CVk true (.int i)
  | pair (i j : Int) : CVk false (.tup [.int i, .int j])
noncomputable def putAll (l : List (Str × MV)) : List (Str × MV) := l.foldl (fun acc p => putAt acc p.1 p.2) []
noncomputable def mergeC (l : List (Str × MV)) (k : Str) (v : MV) : List (Str × MV) := putAt (putAll l) k (match valAt (putAll l) k with | none => v | some u => addC u v)
theorem putAt_len (k : Str) (v : MV) : ∀ l : List (Str × MV), (putAt l k v).length ≤ l.length + 1
  | [] => Nat.le_refl 1
  | (y, u) :: l => by
    rw [putAt_cons]
    split
    · simp
    · simp only [List.length_cons]; have := putAt_len k v l; (first | lia | omega)
theorem putAll_len : ∀ l : List (Str × MV), (putAll l).length ≤ l.length := by
  have : ∀ (l acc : List (Str × MV)), (l.foldl (fun acc p => putAt acc p.1 p.2) acc).length ≤ acc.length + l.length := by
    intro l
    induction l with
    | nil => intro acc; simp
    | cons p l ih => intro acc; rw [List.foldl_cons]; have := ih (putAt acc p.1 p.2); have := putAt_len p.1 p.2 acc; simp only [List.length_cons]; (first | lia | omega)
  intro l; have := this l []; simpa [putAll] using this
theorem putAt_mem {k : Str} {v : MV} {q : Str × MV} : ∀ {l : List (Str × MV)}, q ∈ putAt l k v → q ∈ l ∨ q = (k, v)
  | [], h => .inr (List.mem_singleton.mp h)
  | (y, u) :: l, h => by
    rw [putAt_cons] at h
    split at h
    · rename_i hy
      rcases List.mem_cons.mp h with rfl | h
      · exact .inr (by rw [hy])
      · exact .inl (.tail _ h)
    · rcases List.mem_cons.mp h with rfl | h
      · exact .inl (.head _)
      · exact (putAt_mem h).imp (.tail _) id
theorem putAll_mem {q : Str × MV} {l : List (Str × MV)} (h : q ∈ putAll l) : q ∈ l := by
  have : ∀ (l acc : List (Str × MV)), q ∈ l.foldl (fun acc p => putAt acc p.1 p.2) acc → q ∈ acc ∨ q ∈ l := by
    intro l
    induction l with
    | nil => intro acc h; exact .inl h
    | cons p l ih =>
      intro acc h
      rcases ih _ h with h | h
      · rcases putAt_mem h with h | rfl
        · exact .inl h
        · exact .inr (.head _)
      · exact .inr (.tail _ h)
  exact (this l [] h).elim (fun h => nomatch h) id
theorem valAt_mem {k : Str} {v : MV} : ∀ {l : List (Str × MV)}, valAt l k = some v → (k, v) ∈ l
  | [], h => by cases h
  | (y, u) :: l, h => by
    rw [show valAt ((y, u) :: l) k = if y = k then some u else valAt l k from rfl] at h
    split at h
    · rename_i hy; cases h; rw [hy]; exact .head _
    · exact .tail _ (valAt_mem h)
theorem putAll_take {l : List (Str × MV)} {i : Nat} (hi : i < l.length) : putAll (l.take (i + 1)) = putAt (putAll (l.take i)) (l.getD i ("", .none)).1 (l.getD i ("", .none)).2 := by
  rw [putAll, List.take_add_one, List.getElem?_eq_getElem hi, List.foldl_append]
  simp [putAll, List.getD, hi]
theorem okd_of {S : Nat → Prop} {b : Bool} : ∀ {l : List (Str × MV)}, (∀ q ∈ l, CVk b q.2) → Okd S l
  | [], _ => .nil
  | (k, v) :: l, h => .cons (by cases h _ (.head _) with | int i => exact .int i | pair i j => exact .tup (.cons (.int _) (.cons (.int _) .nil))) (okd_of fun q hq => h q (.tail _ hq))
theorem CVk.add {b : Bool} {u v : MV} (hu : CVk b u) (hv : CVk b v) : CVk b (addC u v) := by cases hu <;> cases hv <;> constructor
theorem mergeC_k {b : Bool} {l : List (Str × MV)} {k : Str} {v : MV} (h : ∀ q ∈ l, CVk b q.2) (hv : CVk b v) : ∀ q ∈ mergeC l k v, CVk b q.2 := by
  intro q hq
  rcases putAt_mem hq with hq | rfl
  · exact h q (putAll_mem hq)
  · show CVk b (match valAt (putAll l) k with | none => v | some u => addC u v)
    cases e : valAt (putAll l) k with
    | none => exact hv
    | some u => exact (h _ (putAll_mem (valAt_mem e))).add hv
noncomputable def FnC (C : Cx) (f : Addr) (qual : Str) (st : Stmt) (P : Addr) : Prop := ∃ c, FnAt C.K f qual (dfArgs st) (dfBody st) (dfScope st) (.ref c) ∧ CodeAt C.K c P ∧ P ∈ C.tabs
end
section
set_option maxHeartbeats 4000000

structure Tz (C : Cx) extends Tx C where
  nm : Value
  mkO : MkOk C.K nm
  Pacs : Addr
  Cacs : FnC C acs "add_callers" (st2 6) Pacs
  tq_acs : C.tq Pacs 74 42 = "add_callers.<locals>.<genexpr>"
variable {C : Cx} {A : Around} {σ : Hp} {Q : MV → Hp → Prop}
theorem fn_acs (T : Tz C) {n : Nat} (hA : Ar A (n + 1)) {b : Bool} {l : List (Str × MV)} {k : Str} {v : MV} (hl : ∀ q ∈ l, CVk b q.2) (hv : CVk b v) (hlen : l.length ≤ 1000) (hw : Wf σ) (q : Q (.dct (mergeC l k v)) σ) :
    Fn C A (.ref T.acs) [.dct l, .dct [(k, v)]] σ Q := by
  obtain ⟨ℓ, hℓ⟩ := hw.new
  refine fn_pure hw.nc ?_
  suffices h : Fn C A (.ref T.acs) [.dct l, .dct [(k, v)]] σ fun m σ₁ => m = .ref ℓ ∧ σ₁ ℓ = some (.dict (mergeC l k v)) ∧ ∀ n, σ n ≠ none → σ₁ n = σ n by
    intro g s vs r hv'
    refine codeAny_mono (h g s vs r hv') ?_
    rintro r s' hX2
    refine via_p fun P kP => ?_
    obtain ⟨v', g', m, σ', e, r', hv'', d, rfl, h1, hk⟩ := hX2
    refine kP ?_
    clear kP P
    exact ⟨v', g', _, σ', e, r', hv'', d, _, .dct (fun h => h hℓ) h1 (okd_of (mergeC_k hl hv)), hk, q⟩
  obtain ⟨cd, F, hca, hP⟩ := T.Cacs
  have dom : ∀ (o : MO) n, σ n ≠ none → (σ.set ℓ o) n = σ n := fun row n hn => hp_other (fun e => hn (by rw [e]; exact hℓ)) rfl
  refine fn_go F hA (Loc.set (Loc.set (fun _ => none) "target" (.dct l)) "source" (.dct [(k, v)])) (ps := ["target", "source"]) (by walk_at "bind") (by kernel_rfl!) rfl rfl fun L A' KF hKF hA' => exs_cons ?_
  walk_at "ss"
  refine ev_dctT ℓ hℓ ?_
  walk_at "ss"
  refine ex_for2 l.length (fun i => .str (l.getD i ("", .none)).1) (fun i => (l.getD i ("", .none)).2) (fun _ => True) (fun i lo σ' => A3 (lo "source" = some (.dct [(k, v)])) (lo "new_callers" = some (.ref ℓ)) (σ' = σ.set ℓ (.dict (putAll (l.take i))))) hA'.h (.inl (by kernel_rfl!)) (.inl (by kernel_rfl!)) ?_ ?_ ?_
  · refine walk_items hA'.h ?_
    walk_at "ss"
    exact ⟨rfl, by walk_at "lk", by walk_at "lk", rfl⟩
  · rintro i K1 hK1 lo σ' hi ⟨l1, l2, rfl⟩ _
    walk_at "ss"
    refine set_dict hp_same (by have := putAll_len (l.take i); simp at this; (first | lia | omega)) ?_
    walk_at "ss"
    refine ⟨⟨by walk_at "lk", by walk_at "lk", ?_⟩, trivial⟩
    rw [putAll_take hi]
    funext n
    show (if n = ℓ then _ else if n = ℓ then _ else _) = (if n = ℓ then _ else _)
    split <;> rfl
  rintro lo σ' ⟨l1, l2, rfl⟩ _
  rw [List.take_length]
  have hlen' := putAll_len l
  walk_at "ss"
  refine ex_for2 1 (fun i => .str (([(k, v)] : List (Str × MV)).getD i ("", .none)).1) (fun i => (([(k, v)] : List (Str × MV)).getD i ("", .none)).2) (fun _ => True) (fun i lo σ' => A3 (lo "new_callers" = some (.ref ℓ)) ((i = 0 → σ' = σ.set ℓ (.dict (putAll l)))) ((i = 1 → σ' = σ.set ℓ (.dict (mergeC l k v))))) hA'.h (.inl (by kernel_rfl!)) (.inl (by kernel_rfl!)) ?_ ?_ ?_
  · refine walk_items (l := [(k, v)]) hA'.h ?_
    walk_at "ss"
    exact ⟨rfl, by walk_at "lk", fun _ => rfl, fun h => nomatch h⟩
  · rintro i K1 hK1 lo σ' hi ⟨l2, hσ, _⟩ _
    have hi0 : i = 0 := by (first | lia | omega)
    subst hi0
    have := hσ rfl
    subst this
    show Exs C A' _ _ ((lo.set "func" (.str k)).set "caller" v) _ _
    have hset : ∀ (o o' : MO), (σ.set ℓ o).set ℓ o' = σ.set ℓ o' := fun o o' => by
      funext n
      show (if n = ℓ then _ else if n = ℓ then _ else _) = (if n = ℓ then _ else _)
      split <;> rfl
    have hd : dctOf (σ.set ℓ (.dict (putAll l))) (.ref ℓ) = some (putAll l) := dct_ref hp_same
    walk_at "ss"
    refine op_ind hd ?_
    walk_at "ss"
    refine iteB (fun h => ?_) fun h => ?_
    · cases e : valAt (putAll l) k with
      | none => rw [e] at h; cases h
      | some u =>
        have hu := hl _ (putAll_mem (valAt_mem e))
        have hm : mergeC l k v = putAt (putAll l) k (addC u v) := by simp only [mergeC, e]
        walk_at "ss"
        refine tr_val ?_
        refine ev_callB (.bi _) (by kernel_rfl!) T.b_isi.1 T.b_isi.2 ?_
        walk_at "ss"
        refine ev_bi (by kernel_rfl!) T.b_tuple.1 T.b_tuple.2 ?_
        walk_at "ss"
        cases hv with
        | int i =>
          cases hu with
          | int j =>
            refine cal_isiI ?_
            walk_at "ss"
            refine iteB (fun h => nomatch h) fun _ => ?_
            walk_at "ss"
            refine gi_dct hd e ?_
            walk_at "ss"
            refine set_dict hp_same (by (first | lia | omega)) ?_
            walk_at "ss"
            exact ⟨⟨by walk_at "lk", (fun h => nomatch h), fun _ => by rw [hm, hset]; rfl⟩, trivial⟩
        | pair i j =>
          cases hu with
          | pair i' j' =>
            refine cal_isiT ?_
            walk_at "ss"
            refine iteB (fun _ => ?_) fun h => nomatch h
            walk_at "ss"
            refine ev_tupgen hA'.h hA'.room (by kernel_rfl!) T.b_tuple.1 T.b_tuple.2 (by kernel_rfl!) T.b_zip.1 T.b_zip.2 ?_ T.mkO rfl hca hP T.tq_acs (by kernel_rfl!) (by decide) (by decide) (by kernel_rfl!) (by kernel_rfl!) (by kernel_rfl!) (by decide) (by kernel_rfl!)
            walk_at "ss"
            refine gi_dct hd e ?_
            walk_at "ss"
            refine ⟨_, _, _, _, rfl, ?_⟩
            walk_at "ss"
            refine set_dict hp_same (by (first | lia | omega)) ?_
            walk_at "ss"
            exact ⟨⟨by walk_at "lk", (fun h => nomatch h), fun _ => by rw [hm, hset]; rfl⟩, trivial⟩
    · have e : valAt (putAll l) k = none := by simpa using h
      have hm : mergeC l k v = putAt (putAll l) k v := by simp only [mergeC, e]
      walk_at "ss"
      refine set_dict hp_same (by (first | lia | omega)) ?_
      walk_at "ss"
      exact ⟨⟨by walk_at "lk", (fun h => nomatch h), fun _ => by rw [hm, hset]⟩, trivial⟩
  rintro lo σ' ⟨l2, _, hσ⟩ _
  have := hσ rfl
  subst this
  walk_at "ss"
  exact ⟨rfl, hp_same, dom _⟩
theorem fn_afs (T : Tz C) {n : Nat} (hA : Ar A (n + 2)) {b : Bool} {l : List (Str × MV)} {k : Str} {v : MV} (hl : ∀ q ∈ l, CVk b q.2) (hv : CVk b v) (hlen : l.length ≤ 1000) (hw : Wf σ) {a1 a2 a3 a4 b1 b2 b3 b4 : Int}
    (q : Q (.tup [.int (b1 + a1), .int (b2 + a2), .int (b3 + a3), .int (b4 + a4), .dct (mergeC l k v)]) σ) :
    Fn C A (.ref T.afs) [.tup [.int a1, .int a2, .int a3, .int a4, .dct l], .tup [.int b1, .int b2, .int b3, .int b4, .dct [(k, v)]]] σ Q := by
  obtain ⟨cd, F⟩ := T.Fafs
  obtain ⟨ca, Fa, _, _⟩ := id T.Cacs
  refine fn_go F hA (Loc.set (Loc.set (fun _ => none) "target" (.tup [.int a1, .int a2, .int a3, .int a4, .dct l])) "source" (.tup [.int b1, .int b2, .int b3, .int b4, .dct [(k, v)]])) (ps := ["target", "source"]) (by walk_at "bind") (by kernel_rfl!) rfl rfl fun L A' KF hKF hA' => exs_cons ?_
  refine ex_asg ?_ (by with_unfolding_all rfl) (by with_unfolding_all rfl) (by with_unfolding_all rfl)
  walk_at "ss"
  refine st_tup5 hA'.h (.inl (by kernel_rfl!)) (.inl (by kernel_rfl!)) (.inl (by kernel_rfl!)) (.inl (by kernel_rfl!)) (.inl (by kernel_rfl!)) ?_
  walk_at "ss"
  refine ex_asg ?_ (by with_unfolding_all rfl) (by with_unfolding_all rfl) (by with_unfolding_all rfl)
  walk_at "ss"
  refine st_tup5 hA'.h (.inl (by kernel_rfl!)) (.inl (by kernel_rfl!)) (.inl (by kernel_rfl!)) (.inl (by kernel_rfl!)) (.inl (by kernel_rfl!)) ?_
  walk_at "ss"
  refine ev_callF Fa (by kernel_rfl!) T.g_acs ?_
  walk_at "ss"
  refine fn_acs T hA' hl hv hlen hw ?_
  refine ⟨by simp, ?_⟩
  walk_at "ss"
  exact q
end
section
theorem set_set {σ : Hp} {n : Nat} {o o' : MO} : (σ.set n o).set n o' = σ.set n o' := by
  funext m
  show (if m = n then _ else if m = n then _ else _) = (if m = n then _ else _)
  split <;> rfl
theorem set_comm {σ : Hp} {n k : Nat} {o o' : MO} (h : n ≠ k) : (σ.set n o).set k o' = (σ.set k o').set n o := by
  funext m
  show (if m = k then _ else if m = n then _ else _) = (if m = n then _ else if m = k then _ else _)
  split
  · rw [if_neg (by (first | lia | omega))]
  · rfl
theorem set_self {σ : Hp} {n : Nat} {o : MO} (h : σ n = some o) : σ.set n o = σ := by
  funext m
  show (if m = n then _ else _) = _
  split
  · rename_i e; rw [e, h]
  · rfl
noncomputable def isWs (c : Nat) : Bool := c == 10 || c == 9 || c == 13 || c == 32
noncomputable def wsS : Str := "\n\t\u000d "
theorem ws_ok : ∀ c, c < 128 → Txt.contains wsS (S [c]) = isWs c := by decide +kernel
noncomputable def lexQ : List Nat → List Nat → List Nat × List Nat
  | tok, [] => (tok, [])
  | tok, c :: r => if c = 34 then (tok, r) else if c = 92 then (match r with | [] => (tok, []) | e :: r' => lexQ (tok ++ [e]) r') else lexQ (tok ++ [c]) r
noncomputable def lexW : List Nat → List Nat → List Nat × List Nat
  | tok, [] => (tok, [])
  | tok, c :: r => if isWs c = true then (tok, r) else if c = 92 then (match r with | [] => (tok, []) | e :: r' => lexW (tok ++ [e]) r') else lexW (tok ++ [c]) r
noncomputable def lexT : List Nat → List Nat × List Nat
  | [] => ([], [])
  | c :: r => if isWs c = true then lexT r else if c = 34 then lexQ [] r else if c = 92 then (match r with | [] => ([], []) | e :: r' => lexW [e] r') else lexW [c] r
theorem lexQ_nil (tok : List Nat) : lexQ tok [] = (tok, []) := rfl
theorem lexW_nil (tok : List Nat) : lexW tok [] = (tok, []) := rfl
theorem lexT_nil : lexT [] = ([], []) := rfl
noncomputable def lexA (x : Str) (n : Nat) (pb : MV) (ln : Int) : List (Str × MV) := [("lineno", .int ln), ("instream", .strm x n), ("whitespace", .str wsS), ("pushback", pb)]
noncomputable def lexO (l : List Nat) (n : Nat) (pb : MV) (p : Nat) : MO := .attrs (lexA (S l) n pb (1 + ((l.take p).count 10 : Nat)))
noncomputable def lexH (σ : Hp) (d n : Nat) (l : List Nat) (pb : MV) (p : Nat) : Hp := (σ.set n (.list [.int p])).set d (lexO l n pb p)
theorem lexH_n {σ : Hp} {d n : Nat} {l : List Nat} {pb : MV} {p : Nat} (h : d ≠ n) : lexH σ d n l pb p n = some (.list [.int p]) := hp_other (Ne.symm h) hp_same
theorem lexH_d {σ : Hp} {d n : Nat} {l : List Nat} {pb : MV} {p : Nat} : lexH σ d n l pb p d = some (lexO l n pb p) := hp_same
theorem lexH_o {σ : Hp} {d n m : Nat} {l : List Nat} {pb : MV} {p : Nat} (h1 : m ≠ d) (h2 : m ≠ n) : lexH σ d n l pb p m = σ m := hp_other h1 (hp_other h2 rfl)
theorem lexH_set {σ : Hp} {d n m : Nat} {l : List Nat} {pb : MV} {p : Nat} {o : MO} (h1 : m ≠ d) (h2 : m ≠ n) : (lexH σ d n l pb p).set m o = lexH (σ.set m o) d n l pb p := by
  unfold lexH
  rw [set_comm (Ne.symm h1), set_comm (σ := σ) (Ne.symm h2)]
theorem S_sl (l : List Nat) (p k : Nat) (hp : p ≤ l.length) : cutS (S l) (some (p : Int)) (some ((p : Int) + k)) = S ((l.drop p).take k) := by
  unfold cutS clip1
  simp only [S, Str.length, List.size_toArray, Str.mk.injEq]
  have e1 : (max 0 (min (if (p : Int) < 0 then (p : Int) + l.length else p) (l.length : Int))).toNat = p := by rw [if_neg (by (first | lia | omega))]; (first | lia | omega)
  rw [e1]
  congr 1
  rcases Nat.lt_or_ge (p + k) l.length with h | h
  · have e2 : (max 0 (min (if (p : Int) + k < 0 then (p : Int) + k + l.length else (p : Int) + k) (l.length : Int))).toNat = p + k := by rw [if_neg (by (first | lia | omega))]; (first | lia | omega)
    rw [e2]; congr 1; (first | lia | omega)
  · have e2 : (max 0 (min (if (p : Int) + k < 0 then (p : Int) + k + l.length else (p : Int) + k) (l.length : Int))).toNat = l.length := by rw [if_neg (by (first | lia | omega))]; (first | lia | omega)
    rw [e2, List.take_of_length_le (i := l.length - p) (by simp), List.take_of_length_le (i := k) (by simp; (first | lia | omega))]
section
variable {C : Cx} {A : Around} {fm : Fm} {loc : Loc} {σ : Hp} {Q : MV → Hp → Prop}
theorem slc_Ss {l : List Nat} {p k : Nat} {i j : Int} (hi : i = p) (hj : j = p + k) (hs : l.length ≤ 1000000) (hp : p ≤ l.length) (q : Q (.str (S ((l.drop p).take k))) σ) : Slc C A fm (.str (S l)) (some i) (some j) none loc σ Q := by
  subst hi; subst hj
  exact slc_str (by rw [S_sl l p k hp]; exact q) (by rw [S_len]; exact hs)
theorem gi_one {n : Nat} {m : MV} (h : σ n = some (.list [m])) (q : Q m σ) : Itm C A fm (.ref n) (.int 0) loc σ Q :=
  gi_list (l := [m]) (lst_ref h) (by decide) (by decide) rfl q
end
end
section
set_option maxHeartbeats 4000000

noncomputable abbrev rdSt : Stmt := me2 14 1
structure Tl (C : Cx) extends Tz C where
  lex : Addr
  klex : KlsAt C.K lex
  fI : Addr
  fR : Addr
  fG : Addr
  FI : FnIs C fI "_netrclex.__init__" (me2 2 0)
  FR : FnIs C fR "_netrclex._read_char" (me2 2 1)
  FG : FnIs C fG "_netrclex.get_token" (me2 2 2)
  tI : typeIn C.K (.ref fI) = some (.type "function")
  tR : typeIn C.K (.ref fR) = some (.type "function")
  tG : typeIn C.K (.ref fG) = some (.type "function")
  lI : findIn C.K (.ref lex) "__init__" = some (some (.ref fI))
  lR : findIn C.K (.ref lex) "_read_char" = some (some (.ref fR))
  lG : findIn C.K (.ref lex) "get_token" = some (some (.ref fG))
  oR : findObj C.K lex (some emptyDict) "_read_char" = some (.bind (.builtin "function.__get__") (.ref fR))
  oR' : ∀ o, lookIn "_read_char" o = some none → findObj C.K lex (some o) "_read_char" = findObj C.K lex (some emptyDict) "_read_char"
  n1 : findIn C.K (.ref lex) "lineno" = some none
  n2 : findIn C.K (.ref lex) "instream" = some none
  n3 : findIn C.K (.ref lex) "whitespace" = some none
  n4 : findIn C.K (.ref lex) "pushback" = some none
  s1 : takerIn C.K lex "lineno" = some none
  s2 : takerIn C.K lex "instream" = some none
  s3 : takerIn C.K lex "whitespace" = some none
  s4 : takerIn C.K lex "pushback" = some none
  rdR : RdIs C (dfArgs rdSt) (dfBody rdSt) (dfScope rdSt) "size"
variable {C : Cx} {A : Around} {σ : Hp} {Q : MV → Hp → Prop}
theorem fn_rc (T : Tl C) {N : Nat} (hA : Ar A (N + 1)) {i d n : Nat} {l : List Nat} {pb : MV} {p : Nat} (hi : σ i = some (.inst T.lex d)) (hdn : d ≠ n) (hid : i ≠ d) (hin : i ≠ n) (hp : p ≤ l.length) (hl : l.length ≤ 10000)
    (q : Q (.str (S ((l.drop p).take 1))) (lexH σ d n l pb (p + ((l.drop p).take 1).length))) : Fn C A (.ref T.fR) [.ref i] (lexH σ d n l pb p) Q := by
  obtain ⟨cd, F⟩ := T.FR
  have hi' : ∀ p', lexH σ d n l pb p' i = some (.inst T.lex d) := fun p' => (lexH_o hid hin).trans hi
  have hsl : ((l.drop p).take 1).length ≤ 1 := by simp; (first | lia | omega)
  refine fn_go F hA (Loc.set (fun _ => none) "self" (.ref i)) (ps := ["self"]) (by walk_at "bind") (by kernel_rfl!) rfl rfl fun L A' KF hKF hA' => exs_cons ?_
  walk_at "ss"
  refine ev_read T.rdR hA'.room ?_
  refine ev_attr ?_
  walk_at "ss"
  refine att_inst T.klex (hi' p) lexH_d (v := .strm (S l) n) rfl rfl T.n2 ?_
  refine ⟨_, _, rfl, ?_⟩
  walk_at "ss"
  intro fd L' f hrd
  obtain ⟨h1, h2, h3, h4, h5, h6, h7⟩ := T.rdR.rd fd hrd
  obtain ⟨_, _, _, _, _, _, _, _, _, _, _⟩ := fd
  simp only at h1 h2 h3 h4 h5 h6 h7
  subst h1; subst h2; subst h3; subst h4; subst h5; subst h6; subst h7
  have l1 : rdLoc "size" (.int 1) (S l) n "size" = some (.int 1) := rfl
  have l2 : rdLoc "size" (.int 1) (S l) n "text" = some (.str (S l)) := (if_neg (by decide)).trans (if_pos rfl)
  have l3 : rdLoc "size" (.int 1) (S l) n "at" = some (.ref n) := (if_neg (by decide)).trans ((if_neg (by decide)).trans (if_pos rfl))
  generalize rdLoc "size" (.int 1) (S l) n = lo at l1 l2 l3
  refine exs_cons ?_
  walk_at "ss"
  refine gi_one (lexH_n hdn) ?_
  walk_at "ss"
  refine gi_one (lexH_n hdn) ?_
  walk_at "ss"
  refine slc_Ss (p := p) (k := 1) rfl (by (first | lia | omega)) (by (first | lia | omega)) hp ?_
  walk_at "ss"
  generalize hsg : (l.drop p).take 1 = sg at *
  refine gi_one (lexH_n hdn) ?_
  walk_at "ss"
  refine ev_callB (.bi _) (by kernel_rfl!) T.b_len.1 T.b_len.2 ?_
  walk_at "ss"
  refine cal_lenS (by (first | lia | omega)) ?_
  walk_at "ss"
  refine set_list (l := [.int p]) (lexH_n hdn) (by decide) (by simp) (by decide) ?_
  walk_at "ss"
  have hσ : (lexH σ d n l pb p).set n (.list (([MV.int p]).set (0 : Int).toNat (.int (p + sg.length)))) = (σ.set n (.list [.int ((p + sg.length : Nat) : Int)])).set d (lexO l n pb p) := by
    unfold lexH
    rw [set_comm hdn, set_set]
    simp
  rw [hσ]
  generalize hσ2 : (σ.set n (.list [.int ((p + sg.length : Nat) : Int)])).set d (lexO l n pb p) = σ2
  have hi2 : σ2 i = some (.inst T.lex d) := by rw [← hσ2]; exact hp_other hid (hp_other hin hi)
  have hd2 : σ2 d = some (lexO l n pb p) := by rw [← hσ2]; exact hp_same
  simp only [retOf_ret]
  have hcount : (l.take (p + sg.length)).count 10 = (l.take p).count 10 + sg.count 10 := by
    subst hsg
    have : l.take (p + ((l.drop p).take 1).length) = l.take p ++ (l.drop p).take 1 := by
      rw [List.take_add]
      congr 1
      simp
    rw [this, List.count_append]
  walk_at "ss"
  refine iteB (fun h => ?_) fun h => ?_
  · have hsg' : sg = [10] := by
      have h' : S sg = S [10] := (of_decide_eq_true h).trans (by decide)
      exact S_inj.mp h'
    walk_at "ss"
    refine ex_auga ?_
    walk_at "ss"
    refine att_inst T.klex hi2 hd2 (v := .int (1 + ((l.take p).count 10 : Nat))) rfl rfl T.n1 ?_
    walk_at "ss"
    refine sta_inst T.klex hi2 hd2 T.s1 (by show 4 ≤ 1000; decide) ?_
    walk_at "ss"
    have e : σ2.set d (.attrs (aset (lexA (S l) n pb (1 + ((l.take p).count 10 : Nat))) "lineno" (.int (1 + ((l.take p).count 10 : Nat) + 1)))) = lexH σ d n l pb (p + sg.length) := by
      rw [← hσ2, set_set]
      unfold lexH lexO
      rw [hcount, hsg']
      have : (1 + ((l.take p).count 10 : Nat) + 1 : Int) = 1 + (((l.take p).count 10 + [10].count 10 : Nat) : Int) := by simp; (first | lia | omega)
      rw [this]
      rfl
    have hq := q
    show Q _ _
    exact e ▸ q
  · walk_at "ss"
    have e : σ2 = lexH σ d n l pb (p + sg.length) := by
      rw [← hσ2]
      unfold lexH lexO
      have : sg.count 10 = 0 := by
        have hne : sg ≠ [10] := fun e => by rw [e] at h; simp [S] at h; exact absurd h (by decide)
        exact cnt_ne hsl hne
      rw [hcount, this]
      rfl
    exact e ▸ q
end
section
section
variable {C : Cx} {A : Around} {fm : Fm} {loc : Loc} {σ : Hp} {Q : MV → Hp → Prop} {QS : Fl → Loc → Hp → Prop}
theorem ex_forCL {x : Str} {p pos : Pos} {it : Expr} {body : List Stmt} {ℓ : Nat} (hh : A.handled = none) (I : Nat → Loc → Hp → Prop)
    (turn : ∀ k K K', Via (Lp (fun l σ => ∃ m, m < k ∧ I m l σ) QS) K → Via QS K' → ∀ loc σ, I k loc σ → (∃ b f n sent, σ ℓ = some (.citer b f n sent)) ∧ Turn C A ℓ σ fun ch σ₁ => match ch with
      | none => K' .next loc σ₁
      | some ch => Exs C A fm body (loc.set x (.str ch)) σ₁ K)
    (hx : canSt fm x) (k : Nat) (h : Ev C A fm it loc σ fun m σ₁ => m = .ref ℓ ∧ (∃ b f n sent, σ₁ ℓ = some (.citer b f n sent)) ∧ I k loc σ₁) (hs : ∀ x, foldedSetIterable it fm.env x = pure x := by intro _; rfl) :
    Ex C A fm (.For (.Name x p) it body [] pos) loc σ QS := by
  refine ex_forC hh I (fun k loc σ hI => ⟨(turn k _ _ .id .id loc σ hI).1, ?_⟩) hx k h hs
  rcases (turn k _ _ .id .id loc σ hI).2 with ⟨f, n, sent, h1, h2⟩ | ⟨f, n, sent, h1, h2, h3⟩
  · exact .inl ⟨f, n, sent, h1, h2⟩
  · refine .inr ⟨f, n, sent, h1, h2, fun g s vs r hv => codeAny_mono (h3 g s vs r hv) ?_⟩
    rintro x s' hX2
    refine via_p fun P kP => ?_
    obtain ⟨v, g', m, σ', e, r', hm, d, ch, e', hc, hq⟩ := hX2
    refine kP ?_
    clear kP P
    refine ⟨v, g', m, σ', e, r', hm, d, ch, e', hc, ?_⟩
    split at hq
    · rw [if_pos ‹_›]; exact hq
    · rw [if_neg ‹_›]
      refine ExT.mono hq fun fl l σ' q => ?_
      cases fl <;> exact q
end
theorem lexQ_esc (tok r : List Nat) : lexQ tok (92 :: r) = lexQ (tok ++ r.take 1) (r.drop 1) := by
  cases r with
  | nil => show (tok, []) = (tok ++ [], _); rw [List.append_nil]
  | cons e r' => rfl
theorem lexQ_end (tok r : List Nat) : lexQ tok (34 :: r) = (tok, r) := by cases r <;> rfl
theorem lexQ_c {tok r : List Nat} {c : Nat} (h1 : c ≠ 34) (h2 : c ≠ 92) : lexQ tok (c :: r) = lexQ (tok ++ [c]) r := by cases r <;> exact (if_neg h1).trans (if_neg h2)
theorem lexW_esc (tok r : List Nat) : lexW tok (92 :: r) = lexW (tok ++ r.take 1) (r.drop 1) := by
  cases r with
  | nil => show (tok, []) = (tok ++ [], _); rw [List.append_nil]
  | cons e r' => rfl
theorem lexW_end {tok r : List Nat} {c : Nat} (h : isWs c = true) : lexW tok (c :: r) = (tok, r) := by cases r <;> exact if_pos h
theorem lexW_c {tok r : List Nat} {c : Nat} (h1 : isWs c = false) (h2 : c ≠ 92) : lexW tok (c :: r) = lexW (tok ++ [c]) r := by cases r <;> exact (if_neg (by rw [h1]; decide)).trans (if_neg h2)
theorem lexT_ws {r : List Nat} {c : Nat} (h : isWs c = true) : lexT (c :: r) = lexT r := by cases r <;> exact if_pos h
theorem lexT_q {r : List Nat} : lexT (34 :: r) = lexQ [] r := by cases r <;> rfl
theorem lexT_esc {r : List Nat} : lexT (92 :: r) = lexW (r.take 1) (r.drop 1) := by cases r <;> rfl
theorem lexT_c {r : List Nat} {c : Nat} (h1 : isWs c = false) (h2 : c ≠ 34) (h3 : c ≠ 92) : lexT (c :: r) = lexW [c] r := by cases r <;> exact (if_neg (by rw [h1]; decide)).trans ((if_neg h2).trans (if_neg h3))
theorem drop_next {l r : List Nat} {c p : Nat} (h : l.drop p = c :: r) : l.drop (p + 1) = r ∧ p < l.length := by
  refine ⟨?_, ?_⟩
  · rw [← List.drop_drop, h]; rfl
  · rcases Nat.lt_or_ge p l.length with q | q
    · exact q
    · rw [List.drop_eq_nil_of_le q] at h; cases h
theorem drop_take1 (r : List Nat) : r.drop (r.take 1).length = r.drop 1 := by cases r <;> simp
end
section
set_option maxHeartbeats 4000000

variable {C : Cx} {A : Around} {σ : Hp} {Q : MV → Hp → Prop}
theorem eq1 {c k : Nat} {x : Str} (hx : x = S [k]) : decide (S [c] = x) = decide (c = k) := by
  subst hx
  simp [S_inj]
section
variable {fm : Fm} {lo : Loc} {i d n ℓ : Nat} {l : List Nat} {pb : MV} {p : Nat}
noncomputable abbrev gH (T : Tl C) (σ : Hp) (ℓ i d n : Nat) (l : List Nat) (pb : MV) (b : Bool) (p : Nat) : Hp := lexH (σ.set ℓ (.citer b T.fR i "")) d n l pb p
theorem turn_lex (T : Tl C) {N : Nat} (hA : Ar A (N + 2)) {Qt : Option Str → Hp → Prop} (hi : σ i = some (.inst T.lex d)) (hdn : d ≠ n) (hid : i ≠ d) (hin : i ≠ n) (hℓi : ℓ ≠ i) (hℓd : ℓ ≠ d) (hℓn : ℓ ≠ n) (hp : p ≤ l.length) (hl : l.length ≤ 10000)
    (h0 : l.drop p = [] → Qt none (gH T σ ℓ i d n l pb false p)) (h1 : ∀ c r, l.drop p = c :: r → Qt (some (S [c])) (gH T σ ℓ i d n l pb true (p + 1))) : Turn C A ℓ (gH T σ ℓ i d n l pb true p) Qt := by
  obtain ⟨cd, F⟩ := id T.FR
  obtain ⟨o, fd, hK, hd, _⟩ := F.ex
  refine .inr ⟨T.fR, i, "", (lexH_o hℓd hℓn).trans hp_same, ⟨o, fd, hK, hd⟩, ?_⟩
  refine fn_rc T (hA.in1) (hp_other (Ne.symm hℓi) hi) hdn hid hin hp hl ?_
  refine ⟨_, rfl, (lexH_o hℓd hℓn).trans hp_same, ?_⟩
  cases hr : l.drop p with
  | nil =>
    rw [if_pos (by decide)]
    show Qt none ((lexH _ d n l pb p).set ℓ _)
    rw [lexH_set hℓd hℓn, set_set]
    exact h0 hr
  | cons c r =>
    show (if S [c] = _ then _ else Qt (some (S [c])) (lexH _ d n l pb (p + 1)))
    rw [if_neg (by intro e; have := congrArg (fun x => x.cps.size) e; simp [S] at this; exact absurd this (by decide))]
    exact h1 c r hr
theorem ev_rc (T : Tl C) {N : Nat} (hA : Ar A (N + 2)) {q1 q2 q3 : Pos} {b : Bool} (hlo : lo "self" = some (.ref i)) (hi : σ i = some (.inst T.lex d)) (hdn : d ≠ n) (hid : i ≠ d) (hin : i ≠ n) (hℓi : ℓ ≠ i) (hp : p ≤ l.length) (hl : l.length ≤ 10000)
    (q : Q (.str (S ((l.drop p).take 1))) (gH T σ ℓ i d n l pb b (p + ((l.drop p).take 1).length)))
    (hline : (q2.endLine == q3.line) = true) : Ev C A fm (.Call (.Attribute (.Name "self" q1) "_read_char" q2) [] [] q3) lo (gH T σ ℓ i d n l pb b p) Q := by
  obtain ⟨cd, F⟩ := id T.FR
  obtain ⟨o, fd, hK, hd, _⟩ := F.ex
  have hi' : (σ.set ℓ (.citer b T.fR i "")) i = some (.inst T.lex d) := hp_other (Ne.symm hℓi) hi
  refine ev_methF (ev_name hlo ?_) (by rfl) rfl hline
  refine ⟨i, d, T.lex, _, T.fR, rfl, T.klex, (lexH_o hid hin).trans hi', lexH_d, rfl, T.lR, T.tR, .fn hK hd, ?_⟩
  walk_at "ss"
  refine cal_fn ?_
  exact fn_rc T (hA.le (m := N + 1)) hi' hdn hid hin hp hl q
end
inductive InG (i ℓ : Nat) (lo : Loc) (tok : List Nat) : Prop | mk : lo "self" = some (.ref i) → lo "fiter" = some (.ref ℓ) → lo "token" = some (.str (S tok)) → InG i ℓ lo tok
theorem fn_gt (T : Tl C) {N : Nat} (hA : Ar A (N + 3)) {i d n : Nat} {l : List Nat} {pb : MV} {p₀ : Nat} (hi : σ i = some (.inst T.lex d)) (hdn : d ≠ n) (hid : i ≠ d) (hin : i ≠ n) (hp : p₀ ≤ l.length) (hl : l.length ≤ 10000) (hw : Wf σ)
    (hpb : lstOf (lexH σ d n l pb p₀) pb = some []) (hpo : ∀ S : Nat → Prop, (∀ m, σ m ≠ none → S m) → Ok S pb) (has : ∀ c ∈ l, c < 128) {tokF rF : List Nat} (hlex : lexT (l.drop p₀) = (tokF, rF))
    (q : Q (.str (S tokF)) (lexH σ d n l pb (l.length - rF.length))) : Fn C A (.ref T.fG) [.ref i] (lexH σ d n l pb p₀) Q := by
  have hwf : Wf (lexH σ d n l pb p₀) := (hw.set _ _ (by intros; intro h; cases h)).set _ _ (by intros; intro h; cases h)
  obtain ⟨ℓ, hℓ⟩ := hwf.new
  have hℓd : ℓ ≠ d := ne_of_hp hℓ lexH_d
  have hℓn : ℓ ≠ n := ne_of_hp hℓ (lexH_n hdn)
  have hℓσ : σ ℓ = none := (lexH_o hℓd hℓn).symm.trans hℓ
  have hℓi : ℓ ≠ i := ne_of_hp hℓσ hi
  refine fn_exit (fun m => lexH σ d n l pb p₀ m ≠ none) (fun _ h => h) ?_
  have dom : ∀ m, lexH σ d n l pb p₀ m ≠ none ↔ m = d ∨ m = n ∨ σ m ≠ none := by
    intro m
    by_cases h1 : m = d
    · subst m; simp [lexH_d]
    by_cases h2 : m = n
    · subst m; simp [lexH_n hdn]
    rw [lexH_o h1 h2]; simp [h1, h2]
  suffices h : Fn C A (.ref T.fG) [.ref i] (lexH σ d n l pb p₀) fun m σ₁ => m = .str (S tokF) ∧ ∃ b, σ₁ = gH T σ ℓ i d n l pb b (l.length - rF.length) by
    intro g s vs r hv
    refine codeAny_mono (h g s vs r hv) ?_
    rintro r s' ⟨v, g', m, σ', e, r', hv', dd, rfl, b, rfl⟩
    refine ⟨v, g', _, _, e, r', hv', dd, _, .same (.str _), ?_, ?_⟩
    · intro m o hm ho
      by_cases h1 : m = d
      · subst m
        rw [show gH T σ ℓ i d n l pb b _ d = _ from lexH_d] at ho; cases ho
        refine .inl (.attrs fun x v hv => ?_)
        have hlen : (x, v) ∈ lexA (S l) n pb (1 + ((l.take (l.length - rF.length)).count 10 : Nat)) := by
          have : ∀ (l : List (Str × MV)), l.lookup x = some v → (x, v) ∈ l := by
            intro l
            induction l with
            | nil => intro h; cases h
            | cons q l ih =>
              intro h
              rw [List.lookup_cons] at h
              cases hx : x == q.1 with
              | true => rw [hx] at h; cases h; rw [beq_iff_eq.mp hx]; exact .head _
              | false => rw [hx] at h; exact .tail _ (ih h)
          exact this _ hv
        simp only [lexA, List.mem_cons, Prod.mk.injEq, List.not_mem_nil, or_false] at hlen
        rcases hlen with ⟨_, rfl⟩ | ⟨_, rfl⟩ | ⟨_, rfl⟩ | ⟨_, rfl⟩
        · exact .int _
        · exact .strm ((dom n).mpr (.inr (.inl rfl)))
        · exact .str _
        · exact hpo _ fun m hm => (dom m).mpr (.inr (.inr hm))
      by_cases h2 : m = n
      · subst m
        rw [show gH T σ ℓ i d n l pb b _ n = _ from lexH_n hdn] at ho; cases ho
        exact .inl (.list (.cons (.int _) .nil))
      · have hm' : σ m ≠ none := by rcases (dom m).mp hm with q | q | q <;> first | exact absurd q ‹_› | exact q
        have hmℓ : m ≠ ℓ := fun e => hm' (e ▸ hℓσ)
        rw [show gH T σ ℓ i d n l pb b _ m = _ from (lexH_o h1 h2).trans (hp_other hmℓ rfl)] at ho
        exact .inr ⟨(lexH_o h1 h2).trans ho, fun f k x e => hw.nc m f k x (e ▸ ho)⟩
    · have : restr (fun m => lexH σ d n l pb p₀ m ≠ none) (gH T σ ℓ i d n l pb b (l.length - rF.length)) = lexH σ d n l pb (l.length - rF.length) := by
        funext m
        unfold restr
        by_cases h1 : m = d
        · subst m
          rw [if_pos ((dom d).mpr (.inl rfl))]
          exact (show gH T σ ℓ i d n l pb b _ d = _ from lexH_d).trans lexH_d.symm
        by_cases h2 : m = n
        · subst m
          rw [if_pos ((dom n).mpr (.inr (.inl rfl)))]
          exact (lexH_n hdn).trans (lexH_n hdn).symm
        by_cases h3 : m = ℓ
        · subst m
          rw [if_neg (fun h => h hℓ), lexH_o hℓd hℓn, hℓσ]
        · by_cases h4 : σ m = none
          · rw [if_neg (fun h => by rcases (dom m).mp h with q | q | q; exact h1 q; exact h2 q; exact q h4), lexH_o h1 h2, h4]
          · rw [if_pos ((dom m).mpr (.inr (.inr h4)))]
            exact (lexH_o h1 h2).trans ((hp_other h3 rfl).trans (lexH_o h1 h2).symm)
      rw [this]; exact q
  clear q
  obtain ⟨cd, F⟩ := T.FG
  obtain ⟨cr, Fr⟩ := id T.FR
  obtain ⟨o, fd, hK, hd, _⟩ := Fr.ex
  refine fn_go F hA (Loc.set (fun _ => none) "self" (.ref i)) (ps := ["self"]) (by walk_at "bind") (by kernel_rfl!) rfl rfl fun L A' KF hKF hA' => exs_cons ?_
  have hi1 : lexH σ d n l pb p₀ i = some (.inst T.lex d) := (lexH_o hid hin).trans hi
  walk_at "ss"
  refine tr_val ?_
  refine ev_attr ?_
  walk_at "ss"
  refine att_inst T.klex hi1 lexH_d (v := pb) rfl (by cases pb <;> first | rfl | cases hpb) T.n4 ?_
  refine tru_lst hpb (by simp) ?_
  refine iteB (fun h => nomatch h) fun _ => ?_
  walk_at "ss"
  refine ev_callB (.bi _) (by kernel_rfl!) T.b_iter.1 T.b_iter.2 ?_
  walk_at "ss"
  refine ev_attr ?_
  walk_at "ss"
  refine att_meth T.klex hi1 lexH_d rfl T.oR T.oR' T.tR ?_
  walk_at "ss"
  refine cal_iter2 hℓ ?_
  rw [lexH_set hℓd hℓn]
  walk_at "ss"
  have hc : ∀ b p, ∃ b' f k sent, gH T σ ℓ i d n l pb b p ℓ = some (.citer b' f k sent) := fun b p => ⟨b, _, _, _, (lexH_o hℓd hℓn).trans hp_same⟩
  have hlen : ∀ p r, p ≤ l.length → l.drop p = r → l.length - r.length = p := by
    intro p r hp e
    have := congrArg List.length e
    simp at this; (first | lia | omega)
  generalize hfm : (⟨envC (dfScope (me2 2 2)) "_netrclex.get_token" cd T.fG L, ownOf (dfScope (me2 2 2))⟩ : Fm) = fm at *
  have hch : canSt fm "ch" := hfm ▸ .inl (by kernel_rfl!)
  have htk : canSt fm "token" := hfm ▸ .inl (by kernel_rfl!)
  have ws : ∀ {q2 q3 : Pos} {lo : Loc} {c b p tok} {QB : Bool → Hp → Prop}, InG i ℓ lo tok → c < 128 → QB (isWs c) (gH T σ ℓ i d n l pb b p) →
      Ev C A' fm (.Attribute (.Name "self" q2) "whitespace" q3) lo (gH T σ ℓ i d n l pb b p) fun b σ₂ => Op2 C A' fm (compareOp .In) (.str (S [c])) b lo σ₂ fun m σ₃ => ∃ b, m = .bool b ∧ QB b σ₃ := by
    intro q2 q3 lo c b p tok QB hI hc q
    refine ev_attr (ev_name hI.1 ?_)
    refine att_inst T.klex ((lexH_o hid hin).trans (hp_other (Ne.symm hℓi) hi)) lexH_d (v := .str wsS) rfl rfl T.n3 ?_
    refine op_ins ⟨_, rfl, ?_⟩
    rw [ws_ok c hc]; exact q
  have addt : ∀ {q1 q2 q3 : Pos} {lo : Loc} {sg b p tok} {QS : Fl → Loc → Hp → Prop}, InG i ℓ lo tok → lo "ch" = some (.str (S sg)) → tok.length + sg.length ≤ 100000 → QS .next (lo.set "token" (.str (S (tok ++ sg)))) (gH T σ ℓ i d n l pb b p) →
      Ex C A' fm (.AugAssign (.Name "token" q1) .Add (.Name "ch" q2) q3) lo (gH T σ ℓ i d n l pb b p) QS := by
    intro q1 q2 q3 lo sg b p tok QS hI hlc hz q
    refine ex_aug hI.3 ?_ htk
    refine ev_name hlc ?_
    refine op_iadds (by rw [S_len, S_len]; (first | lia | omega)) ?_
    rw [S_app]; exact q
  refine ex_forCL (ℓ := ℓ) hA'.h (fun k lo σ' => (∃ p, A5 (σ' = gH T σ ℓ i d n l pb true p) (p ≤ l.length) (InG i ℓ lo []) (lexT (l.drop p) = (tokF, rF)) (k = l.length - p + 1)) ∨ A4 (σ' = gH T σ ℓ i d n l pb false l.length) (InG i ℓ lo tokF) (rF = []) (k = 0)) ?_ hch (l.length - p₀ + 1) ?_
  rotate_left
  · refine ev_name (by walk_at "lk") ⟨rfl, hc _ _, .inl ⟨p₀, rfl, hp, ⟨by walk_at "lk", by walk_at "lk", by walk_at "lk"⟩, hlex, rfl⟩⟩
  rintro k K1 K2 hK1 hK2 lo σ' (⟨p, rfl, hp', hI, hx, rfl⟩ | ⟨rfl, hI, hr, rfl⟩)
  rotate_left
  · refine ⟨hc _ _, .inl ⟨T.fR, i, "", (lexH_o hℓd hℓn).trans hp_same, ?_⟩⟩
    obtain ⟨l1, l2, l3⟩ := hI
    walk_at "ss"
    exact ⟨rfl, false, by rw [hr]; rfl⟩
  refine ⟨hc _ _, turn_lex T hA' hi hdn hid hin hℓi hℓd hℓn hp' hl (fun h0 => ?_) fun c r h1 => ?_⟩
  · obtain ⟨l1, l2, l3⟩ := hI
    rw [h0] at hx
    simp only [lexT_nil, Prod.mk.injEq] at hx
    obtain ⟨e1, e2⟩ := hx
    walk_at "ss"
    exact ⟨congrArg (fun x => MV.str (S x)) e1, false, by rw [← e2, hlen p [] hp' h0]⟩
  obtain ⟨hr, hpl⟩ := drop_next h1
  have hc128 : ∀ c r p, l.drop p = c :: r → c < 128 := fun c r p e => has c (List.mem_of_mem_drop (i := p) (by rw [e]; exact .head _))
  rw [h1] at hx
  have hI' : ∀ v, InG i ℓ (lo.set "ch" v) [] := fun v => by obtain ⟨l1, l2, l3⟩ := hI; exact ⟨by walk_at "lk", by walk_at "lk", by walk_at "lk"⟩
  clear hI
  walk_at "ss"
  refine ws (hI' _) (hc128 _ _ _ h1) ?_
  refine iteB (fun h => ?_) fun h => ?_
  · rw [lexT_ws h] at hx
    walk_at "ss"
    exact ⟨l.length - (p + 1) + 1, by (first | lia | omega), .inl ⟨p + 1, rfl, by (first | lia | omega), hI' _, by rw [hr]; exact hx, rfl⟩⟩
  have hws := h
  walk_at "ss"
  rw [eq1 (k := 34) (by decide)]
  refine iteB (fun h => ?_) fun h => ?_
  · -- in quotes
    have hc34 : c = 34 := of_decide_eq_true h
    subst hc34
    rw [lexT_q] at hx
    walk_at "ss"
    refine ex_forCL (ℓ := ℓ) hA'.h (fun k lo σ' => ∃ p tok, A6 (σ' = gH T σ ℓ i d n l pb true p) (p ≤ l.length) (InG i ℓ lo tok) (lexQ tok (l.drop p) = (tokF, rF)) (tok.length ≤ p) (k = l.length - p)) ?_ hch (l.length - (p + 1)) ?_
    rotate_left
    · have hI := hI' (.str (S [34]))
      obtain ⟨l1, l2, l3⟩ := hI
      refine ev_name (by walk_at "lk") ⟨rfl, hc _ _, p + 1, [], rfl, by (first | lia | omega), ⟨l1, l2, l3⟩, by rw [hr]; exact hx, by simp, rfl⟩
    clear hx hI' hws h1 hr r h
    rintro k K3 K4 hK3 hK4 lo σ' ⟨p₁, tok, rfl, hp₁, hI, hx, htl, rfl⟩
    refine ⟨hc _ _, turn_lex T hA' hi hdn hid hin hℓi hℓd hℓn hp₁ hl (fun h0 => ?_) fun c r h1 => ?_⟩
    · rw [h0] at hx
      simp only [lexQ_nil, Prod.mk.injEq] at hx
      obtain ⟨e1, e2⟩ := hx
      walk_at "ss"
      have e := hlen p₁ [] hp₁ h0
      simp at e
      exact ⟨0, by (first | lia | omega), .inr ⟨by rw [← e], e1 ▸ hI, e2.symm, rfl⟩⟩
    obtain ⟨hr, hpl⟩ := drop_next h1
    have hI' : ∀ v, InG i ℓ (lo.set "ch" v) tok := fun v => by obtain ⟨l1, l2, l3⟩ := hI; exact ⟨by walk_at "lk", by walk_at "lk", by walk_at "lk"⟩
    clear hI
    rw [h1] at hx
    walk_at "ss"
    rw [eq1 (k := 34) (by decide)]
    refine iteB (fun h => ?_) fun h => ?_
    · have hc34 : c = 34 := of_decide_eq_true h
      subst hc34
      rw [lexQ_end] at hx
      simp only [Prod.mk.injEq] at hx
      obtain ⟨e1, e2⟩ := hx
      obtain ⟨l1, l2, l3⟩ := hI' (.str (S [34]))
      walk_at "ss"
      exact ⟨congrArg (fun x => MV.str (S x)) e1, true, by rw [← e2, hlen _ _ (by (first | lia | omega)) hr]⟩
    have hc34 : c ≠ 34 := of_decide_eq_false h
    walk_at "ss"
    rw [eq1 (k := 92) (by decide)]
    refine iteB (fun h => ?_) fun h => ?_
    · have hc92 : c = 92 := of_decide_eq_true h
      subst hc92
      rw [lexQ_esc] at hx
      walk_at "ss"
      have hI2 := hI' (.str (S [92]))
      refine ev_rc T hA' hI2.1 hi hdn hid hin hℓi (p := p₁ + 1) (by (first | lia | omega)) hl ?_ (by rfl)
      rw [hr]
      have hsg : (r.take 1).length ≤ 1 := by simp; (first | lia | omega)
      have hrl : p₁ + 1 + r.length = l.length := by have := congrArg List.length hr; simp at this; (first | lia | omega)
      have hsg' : (r.take 1).length ≤ r.length := by simp; (first | lia | omega)
      walk_at "ss"
      have hI3 : InG i ℓ ((lo.set "ch" (.str (S [92]))).set "ch" (.str (S (r.take 1)))) tok := by obtain ⟨l1, l2, l3⟩ := hI2; exact ⟨by walk_at "lk", by walk_at "lk", by walk_at "lk"⟩
      refine addt hI3 at_same (by (first | lia | omega)) ?_
      walk_at "ss"
      refine ⟨l.length - (p₁ + 1 + (r.take 1).length), by (first | lia | omega), p₁ + 1 + (r.take 1).length, tok ++ r.take 1, rfl, by (first | lia | omega), ?_, ?_, by rw [List.length_append]; (first | lia | omega), rfl⟩
      · obtain ⟨l1, l2, l3⟩ := hI3; exact ⟨by walk_at "lk", by walk_at "lk", at_same⟩
      · rw [← List.drop_drop, hr, drop_take1]; exact hx
    · have hc92 : c ≠ 92 := of_decide_eq_false h
      rw [lexQ_c hc34 hc92] at hx
      walk_at "ss"
      refine addt (hI' _) at_same (by simp; (first | lia | omega)) ?_
      walk_at "ss"
      refine ⟨l.length - (p₁ + 1), by (first | lia | omega), p₁ + 1, tok ++ [c], rfl, by (first | lia | omega), ?_, by rw [hr]; exact hx, by simp; (first | lia | omega), rfl⟩
      obtain ⟨l1, l2, l3⟩ := hI' (.str (S [c])); exact ⟨by walk_at "lk", by walk_at "lk", at_same⟩
  have hc34 : c ≠ 34 := of_decide_eq_false h
  have fin : ∀ {lo : Loc} {p₁ tok rest}, p₁ ≤ l.length → p < p₁ → InG i ℓ lo tok → lexW tok (l.drop p₁) = (tokF, rF) → tok.length ≤ p₁ → rest = (.For (.Name "ch" ⟨38, 20, 38, 22⟩) (.Name "fiter" ⟨38, 26, 38, 31⟩) (stB (nth (stB (nth (stB (nth (dfBody (me2 2 2)) 3)) 1)) 3)) [] ⟨38, 16, 43, 31⟩ : Stmt) →
      ∀ {QS : Fl → Loc → Hp → Prop}, (∀ lo, InG i ℓ lo tokF → rF = [] → QS .next lo (gH T σ ℓ i d n l pb false l.length)) → (∀ lo b, QS (.ret (.str (S tokF))) lo (gH T σ ℓ i d n l pb b (l.length - rF.length))) →
      Ex C A' fm rest lo (gH T σ ℓ i d n l pb true p₁) QS := by
    intro lo p₁ tok rest hp₁ hpp hI hx htl hrest QS k1 k2
    subst hrest
    refine ex_forCL (ℓ := ℓ) hA'.h (fun k lo σ' => ∃ p tok, A6 (σ' = gH T σ ℓ i d n l pb true p) (p ≤ l.length) (InG i ℓ lo tok) (lexW tok (l.drop p) = (tokF, rF)) (tok.length ≤ p) (k = l.length - p)) ?_ hch (l.length - p₁) ?_
    rotate_left
    · obtain ⟨l1, l2, l3⟩ := hI
      exact ev_name (by walk_at "lk") ⟨rfl, hc _ _, p₁, tok, rfl, hp₁, ⟨l1, l2, l3⟩, hx, htl, rfl⟩
    rintro k K3 K4 hK3 hK4 lo σ' ⟨p₁, tok, rfl, hp₁, hI, hx, htl, rfl⟩
    refine ⟨hc _ _, turn_lex T hA' hi hdn hid hin hℓi hℓd hℓn hp₁ hl (fun h0 => ?_) fun c r h1 => ?_⟩
    · rw [h0] at hx
      simp only [lexW_nil, Prod.mk.injEq] at hx
      obtain ⟨e1, e2⟩ := hx
      have e := hlen p₁ [] hp₁ h0
      simp at e
      rw [← e]
      refine hK4 _ _ _ ?_
      exact k1 _ (e1 ▸ hI) e2.symm
    obtain ⟨hr, hpl⟩ := drop_next h1
    have hI' : ∀ v, InG i ℓ (lo.set "ch" v) tok := fun v => by obtain ⟨l1, l2, l3⟩ := hI; exact ⟨by walk_at "lk", by walk_at "lk", by walk_at "lk"⟩
    clear hI
    rw [h1] at hx
    show Exs C A' fm _ _ _ _
    refine exs_cons ?_
    walk_at "ss"
    refine ws (hI' _) (hc128 _ _ _ h1) ?_
    refine iteB (fun h => ?_) fun h => ?_
    · rw [lexW_end h] at hx
      simp only [Prod.mk.injEq] at hx
      obtain ⟨e1, e2⟩ := hx
      obtain ⟨l1, l2, l3⟩ := hI' (.str (S [c]))
      walk_at "ss"
      have := k2 (lo.set "ch" (.str (S [c]))) true
      rw [← e1, ← e2, hlen _ _ (by (first | lia | omega)) hr] at this
      exact this
    have hws := h
    walk_at "ss"
    rw [eq1 (k := 92) (by decide)]
    refine iteB (fun h => ?_) fun h => ?_
    · have hc92 : c = 92 := of_decide_eq_true h
      subst hc92
      rw [lexW_esc] at hx
      walk_at "ss"
      have hI2 := hI' (.str (S [92]))
      refine ev_rc T hA' hI2.1 hi hdn hid hin hℓi (p := p₁ + 1) (by (first | lia | omega)) hl ?_ (by rfl)
      rw [hr]
      have hsg : (r.take 1).length ≤ 1 := by simp; (first | lia | omega)
      have hrl : p₁ + 1 + r.length = l.length := by have := congrArg List.length hr; simp at this; (first | lia | omega)
      have hsg' : (r.take 1).length ≤ r.length := by simp; (first | lia | omega)
      walk_at "ss"
      have hI3 : InG i ℓ ((lo.set "ch" (.str (S [92]))).set "ch" (.str (S (r.take 1)))) tok := by obtain ⟨l1, l2, l3⟩ := hI2; exact ⟨by walk_at "lk", by walk_at "lk", by walk_at "lk"⟩
      refine addt hI3 at_same (by (first | lia | omega)) ?_
      walk_at "ss"
      refine ⟨l.length - (p₁ + 1 + (r.take 1).length), by (first | lia | omega), p₁ + 1 + (r.take 1).length, tok ++ r.take 1, rfl, by (first | lia | omega), ?_, ?_, by rw [List.length_append]; (first | lia | omega), rfl⟩
      · obtain ⟨l1, l2, l3⟩ := hI3; exact ⟨by walk_at "lk", by walk_at "lk", at_same⟩
      · rw [← List.drop_drop, hr, drop_take1]; exact hx
    · have hc92 : c ≠ 92 := of_decide_eq_false h
      rw [lexW_c hws hc92] at hx
      walk_at "ss"
      refine addt (hI' _) at_same (by simp; (first | lia | omega)) ?_
      walk_at "ss"
      refine ⟨l.length - (p₁ + 1), by (first | lia | omega), p₁ + 1, tok ++ [c], rfl, by (first | lia | omega), ?_, by rw [hr]; exact hx, by simp; (first | lia | omega), rfl⟩
      obtain ⟨l1, l2, l3⟩ := hI' (.str (S [c])); exact ⟨by walk_at "lk", by walk_at "lk", at_same⟩
  walk_at "ss"
  rw [eq1 (k := 92) (by decide)]
  have hrl : p + 1 + r.length = l.length := by have := congrArg List.length hr; simp at this; (first | lia | omega)
  refine iteB (fun h => ?_) fun h => ?_
  · have hc92 : c = 92 := of_decide_eq_true h
    subst hc92
    rw [lexT_esc] at hx
    walk_at "ss"
    have hI2 := hI' (.str (S [92]))
    refine ev_rc T hA' hI2.1 hi hdn hid hin hℓi (p := p + 1) (by (first | lia | omega)) hl ?_ (by rfl)
    rw [hr]
    have hsg : (r.take 1).length ≤ 1 := by simp; (first | lia | omega)
    have hsg' : (r.take 1).length ≤ r.length := by simp; (first | lia | omega)
    walk_at "ss"
    have hI3 : InG i ℓ ((lo.set "ch" (.str (S [92]))).set "ch" (.str (S (r.take 1)))) [] := by obtain ⟨l1, l2, l3⟩ := hI2; exact ⟨by walk_at "lk", by walk_at "lk", by walk_at "lk"⟩
    refine addt hI3 at_same (by simp only [List.length_nil]; (first | lia | omega)) ?_
    walk_at "s"
    walk_at "s"
    refine fin (p₁ := p + 1 + (r.take 1).length) (tok := [] ++ r.take 1) (by (first | lia | omega)) (by (first | lia | omega)) ?_ ?_ (by simp only [List.nil_append]; (first | lia | omega)) rfl (fun lo hI hr => ?_) fun lo b => ?_
    · obtain ⟨l1, l2, l3⟩ := hI3; exact ⟨by walk_at "lk", by walk_at "lk", at_same⟩
    · rw [← List.drop_drop, hr, drop_take1]; exact hx
    · walk_at "ss"
      exact ⟨0, by (first | lia | omega), .inr ⟨rfl, hI, hr, rfl⟩⟩
    · walk_at "ss"
      exact ⟨rfl, b, rfl⟩
  · have hc92 : c ≠ 92 := of_decide_eq_false h
    rw [lexT_c hws hc34 hc92] at hx
    walk_at "ss"
    refine addt (hI' _) at_same (by simp) ?_
    walk_at "s"
    walk_at "s"
    refine fin (p₁ := p + 1) (tok := [] ++ [c]) (by (first | lia | omega)) (by (first | lia | omega)) ?_ (by rw [hr]; exact hx) (by simp) rfl (fun lo hI hr => ?_) fun lo b => ?_
    · obtain ⟨l1, l2, l3⟩ := hI' (.str (S [c])); exact ⟨by walk_at "lk", by walk_at "lk", at_same⟩
    · walk_at "ss"
      exact ⟨0, by (first | lia | omega), .inr ⟨rfl, hI, hr, rfl⟩⟩
    · walk_at "ss"
      exact ⟨rfl, b, rfl⟩
end
section
set_option maxHeartbeats 400000

structure Tr2 (C : Cx) extends Tl C where
  rdr : Addr
  Prdr : Addr
  Crdr : FnC C rdr "_law_reader" (st2 14) Prdr
  tq_rd : C.tq Prdr 132 4 = "_law_reader.<locals>._law_read_on"
  tq_la : C.tq Prdr 136 13 = "_law_reader.<locals>.<lambda>"
  g_lex : GlIs C "_netrclex" (.ref lex)
  keep_lex : keepIn C.K (.ref lex) = true
  rd_in : ∀ fd, FdIs fd "_law_read_on" "_law_reader.<locals>._law_read_on" (dfArgs rdSt) (.stmts (dfBody rdSt)) (dfScope rdSt) fd.closure → C.rd fd
variable {C : Cx} {A : Around} {σ : Hp} {Q : MV → Hp → Prop}
theorem fn_init (T : Tl C) {N : Nat} (hA : Ar A (N + 1)) {i d n : Nat} {l : List Nat} (hi : σ i = some (.inst T.lex d)) (hd : σ d = some (.attrs [])) (hid : i ≠ d) (q : Q .none (σ.set d (lexO l n (.lst []) 0))) : Fn C A (.ref T.fI) [.ref i, .strm (S l) n] σ Q := by
  obtain ⟨cd, F⟩ := T.FI
  have hi' : ∀ o, (σ.set d o) i = some (.inst T.lex d) := fun o => hp_other hid hi
  refine fn_go F hA (Loc.set (Loc.set (fun _ => none) "self" (.ref i)) "fp" (.strm (S l) n)) (ps := ["self", "fp"]) (by walk_at "bind") (by kernel_rfl!) rfl rfl fun L A' KF hKF hA' => exs_cons ?_
  refine ex_seta ?_
  walk_at "ss"
  refine sta_inst T.klex hi hd T.s1 (by decide) ?_
  walk_at "ss"
  refine ex_seta ?_
  walk_at "ss"
  refine sta_inst T.klex (hi' _) hp_same T.s2 (by show 1 ≤ 1000; decide) ?_
  rw [set_set]
  walk_at "ss"
  refine ex_seta ?_
  walk_at "ss"
  refine sta_inst T.klex (hi' _) hp_same T.s3 (by show 2 ≤ 1000; decide) ?_
  rw [set_set]
  walk_at "ss"
  refine ex_seta ?_
  refine ev_lst ?_
  walk_at "ss"
  refine ⟨by decide, ?_⟩
  walk_at "ss"
  refine sta_inst T.klex (hi' _) hp_same T.s4 (by show 3 ≤ 1000; decide) ?_
  rw [set_set]
  walk_at "ss"
  have e : lexO l n (.lst []) 0 = .attrs (aset (aset (aset (aset [] "lineno" (.int 1)) "instream" (.strm (S l) n)) "whitespace" (.str "\n\t\u000d ")) "pushback" (.lst [])) := by
    unfold lexO
    simp only [List.take_zero, List.count_nil]
    rfl
  rw [e] at q
  exact q
theorem fn_new (T : Tr2 C) {N : Nat} (hA : Ar A (N + 2)) {i d n : Nat} {l : List Nat} (hi : σ i = none) (hd : σ d = none) (hid : i ≠ d) (q : Q (.ref i) ((σ.set i (.inst T.lex d)).set d (lexO l n (.lst []) 0))) : Fn C A (.ref T.lex) [.strm (S l) n] σ Q := by
  refine fn_make T.klex hi hd hid T.lI T.tI fun rest => ?_
  refine fn_init T.toTl (N := N) (hA.make _ _) hp_same (hp_other (Ne.symm hid) hp_same) hid ⟨rfl, ?_⟩
  rw [set_comm (n := d) (Ne.symm hid), set_set]
  exact q
theorem fn_rdr (T : Tr2 C) {N : Nat} (hA : Ar A (N + 3)) {i d n : Nat} {l : List Nat} (hi : σ i = none) (hd : σ d = none) (hn : σ n = none) (hid : i ≠ d) (hin : i ≠ n) (hdn : d ≠ n)
    (q : Q (.tup [.ref i, .ref n]) (lexH (σ.set i (.inst T.lex d)) d n l (.lst []) 0)) : Fn C A (.ref T.rdr) [.str (S l)] σ Q := by
  refine via_p fun P kP => ?_
  obtain ⟨cd, F, hca, hP⟩ := T.Crdr
  refine kP ?_
  clear kP P
  refine fn_defR (ps := ["text"]) F (by walk_at "bind") rfl (fun p hp => ?_) (by decide +kernel) (by decide +kernel) hA.room (by kernel_rfl!) (by kernel_rfl!) (by kernel_rfl!) ?_
  · rw [List.mem_singleton.mp hp]; exact .inr ⟨by decide +kernel, by decide +kernel⟩
  intro L fa g s g₀ s₀ r d₀ hfa
  have hA' := hA.deeper (envC (dfScope (st2 14)) "_law_reader" (.ref cd) T.rdr L)
  generalize A.deeper (envC (dfScope (st2 14)) "_law_reader" (.ref cd) T.rdr L) = A' at hA' ⊢
  have h1 : Ex C A' ⟨envC (dfScope (st2 14)) "_law_reader" (.ref cd) T.rdr L, ownOf (dfScope (st2 14))⟩ (nth (dfBody (st2 14)) 0) (Loc.set (fun _ => none) "text" (.str (S l))) σ
      (fun fl lo σ' => A3 (fl = .next) (lo = (Loc.set (fun _ => none) "text" (.str (S l))).set "at" (.ref n)) (σ' = σ.set n (.list [.int 0]))) := by
    show Ex _ _ _ (.Assign _ _ _) _ _ _
    refine ex_assign ?_ (.inr (show ("at" : Str) ∈ ownOf (dfScope (st2 14)) from by decide +kernel)) (by with_unfolding_all rfl)
    refine ev_lstT n ?_
    walk_at "ss"
    exact ⟨by decide, hn, rfl, rfl, rfl⟩
  show wpAny _ _ (execs (_ :: _) _) _ _ _
  refine wpAny_execs_cons (wpAny_mono (h1 fa g s r) ?_ fun _ _ e => e)
  rintro f s₁ hX2
  refine via_p fun P kP => ?_
  obtain ⟨g₁, fl, lo, σ₁, r₁, hf, d₁, rfl, rfl, rfl⟩ := hX2
  refine kP ?_
  clear kP P
  cases hf
  show wpAny _ _ (execs (_ :: _ :: _ :: _) _) _ _ _
  refine rd_make (fm := ⟨envC (dfScope (st2 14)) "_law_reader" (.ref cd) T.rdr L, ownOf (dfScope (st2 14))⟩) (x := S l) (n := n) (rn := "_law_read_on") (rp := dfArgs rdSt) (rb := dfBody rdSt) (rs := dfScope rdSt) T.mkO rfl hca hP (fun env => by kernel_rfl!) (T.tq_rd.trans (by kernel_rfl!)) (T.tq_la.trans (by kernel_rfl!)) (by kernel_rfl!) (by kernel_rfl!) ?_ ?_ ?_ ?_ (show ("text" : Str) ∈ ownOf (dfScope (st2 14)) from by decide +kernel) (show ("at" : Str) ∈ ownOf (dfScope (st2 14)) from by decide +kernel) (by kernel_rfl!) (by kernel_rfl!)
    (by decide) (by decide) (by decide) (by decide) (by decide) (at_other (by decide) at_same) at_same r₁ (d₀.trans d₁) hfa ?_ (by kernel_rfl!) (by kernel_rfl!)
  · intro y hy
    have h : (dfScope rdSt).names.all (fun p => p.2 != .free || p.1 == "text" || p.1 == "at") = true := by kernel_rfl!
    have := List.all_eq_true.mp h _ hy
    simpa using this
  · exact fun y h => absurd h List.not_mem_nil
  · intro ct cx hx ht
    have e : clOf (dfScope rdSt) (envC (dfScope (st2 14)) "_law_reader" (.ref cd) T.rdr L) = [(("text" : Str), ((envC (dfScope (st2 14)) "_law_reader" (.ref cd) T.rdr L).cells.lookup ("text" : Str)).getD 0), (("at" : Str), ((envC (dfScope (st2 14)) "_law_reader" (.ref cd) T.rdr L).cells.lookup ("at" : Str)).getD 0)] := by kernel_rfl!
    rw [e, show (envC (dfScope (st2 14)) "_law_reader" (.ref cd) T.rdr L).cells.lookup ("text" : Str) = some cx from hx, show (envC (dfScope (st2 14)) "_law_reader" (.ref cd) T.rdr L).cells.lookup ("at" : Str) = some ct from ht]
    refine ⟨by simp, ?_, fun y c hc => ?_⟩
    · rw [List.lookup_cons, show (("at" : Str) == "text") = false from by decide +kernel]; simp
    · rw [List.lookup_cons] at hc
      cases hy : y == ("text" : Str) with
      | true => rw [hy] at hc; cases hc; exact .inl ⟨beq_iff_eq.mp hy, rfl⟩
      | false =>
        rw [hy, List.lookup_cons] at hc
        cases hy' : y == ("at" : Str) with
        | true => rw [hy'] at hc; cases hc; exact .inr ⟨beq_iff_eq.mp hy', rfl⟩
        | false => rw [hy'] at hc; cases hc
  · intro fd hfd
    have e : qualnameIn (envC (dfScope (st2 14)) "_law_reader" (.ref cd) T.rdr L) "_law_read_on" "_law_read_on" = "_law_reader.<locals>._law_read_on" := by kernel_rfl!
    exact T.rd_in fd ⟨hfd.name, hfd.qual.trans e, hfd.params, hfd.body, hfd.scope, hfd.glob, rfl, hfd.bi, hfd.df, hfd.kw⟩
  intro g' s' v r' d'
  have hin' : σ.set n (.list [.int 0]) i = none := hp_other hin hi
  have hdn' : σ.set n (.list [.int 0]) d = none := hp_other hdn hd
  have h2 : Exs C A' ⟨envC (dfScope (st2 14)) "_law_reader" (.ref cd) T.rdr L, []⟩ ((dfBody (st2 14)).drop 4) ((((Loc.set (fun _ => none) "text" (.str (S l))).set "at" (.ref n)).set "_law_read_on" (.val v)).set "stream" (.strm (S l) n)) (σ.set n (.list [.int 0]))
      (fun fl lo σ' => Q (retOf fl) σ') := by
    refine exs_cons ?_
    refine ex_ret ?_
    refine ev_tup ?_ (by with_unfolding_all rfl)
    refine evl_cons ?_
    refine ev_call (ev_glob (by kernel_rfl!) T.g_lex ⟨_, rfl, .kp T.keep_lex, ?_⟩)
    walk_at "ss"
    refine cal_fn ?_
    refine fn_new T hA' hin' hdn' hid ?_
    walk_at "ss"
    refine ⟨by show 2 ≤ _; decide, ?_⟩
    have e : ((σ.set n (.list [.int 0])).set i (.inst T.lex d)).set d (lexO l n (.lst []) 0) = lexH (σ.set i (.inst T.lex d)) d n l (.lst []) 0 := by
      unfold lexH
      rw [set_comm (n := n) (Ne.symm hin)]; rfl
    show Q _ _
    rw [e]; exact q
  refine wpAny_mono (h2 _ g' s' r') ?_ fun _ _ e => e
  rintro f s₂ hX2
  refine via_p fun P kP => ?_
  obtain ⟨g₂, fl, lo, σ₂, r₂, hf, d₂, q⟩ := hX2
  refine kP ?_
  clear kP P
  have d3 : Gd C [(envC (dfScope (st2 14)) "_law_reader" (.ref cd) T.rdr L).locals] g₀ s₀ g' s' := d'.weak fun a ha => .inr (hfa a ha)
  exact ⟨g₂, fl, σ₂, r₂.gr, hf, (d3.trans d₂).weak (fun a ha => .inr (by rw [List.mem_singleton.mp ha]; exact hfa _ r.fr.L)), q⟩
end
section
set_option maxHeartbeats 400000

structure Tc (C : Cx) extends Tr2 C where
  tcp : Addr
  ktcp : KlsAt C.K tcp
  gI : Addr
  gC : Addr
  GI : FnIs C gI "TupleComp.__init__" (me2 4 0)
  GC : FnIs C gC "TupleComp.compare" (me2 4 1)
  uI : typeIn C.K (.ref gI) = some (.type "function")
  uC : typeIn C.K (.ref gC) = some (.type "function")
  mI : findIn C.K (.ref tcp) "__init__" = some (some (.ref gI))
  mC : findIn C.K (.ref tcp) "compare" = some (some (.ref gC))
  m1 : findIn C.K (.ref tcp) "comp_select_list" = some none
  v1 : takerIn C.K tcp "comp_select_list" = some none
  g_tcp : GlIs C "TupleComp" (.ref tcp)
  keep_tcp : keepIn C.K (.ref tcp) = true
noncomputable def cmpP (d0 d1 a b a' b' : Int) : Int := if a < a' then -d0 else if a > a' then d0 else if b < b' then -d1 else if b > b' then d1 else 0
noncomputable def keyL (d0 d1 : Int) : MV := .lst [.tup [.int 0, .int d0], .tup [.int 1, .int d1]]
variable {C : Cx} {A : Around} {σ : Hp} {Q : MV → Hp → Prop}
theorem fn_tnew (T : Tc C) {N : Nat} (hA : Ar A (N + 2)) {i d : Nat} {d0 d1 : Int} (hi : σ i = none) (hd : σ d = none) (hid : i ≠ d) (q : Q (.ref i) ((σ.set i (.inst T.tcp d)).set d (.attrs [("comp_select_list", keyL d0 d1)]))) : Fn C A (.ref T.tcp) [keyL d0 d1] σ Q := by
  refine fn_make T.ktcp hi hd hid T.mI T.uI fun rest => ?_
  obtain ⟨cd, F⟩ := T.GI
  refine fn_go F (n := N) (hA.make _ _) (Loc.set (Loc.set (fun _ => none) "self" (.ref i)) "comp_select_list" (keyL d0 d1)) (ps := ["self", "comp_select_list"]) (by walk_at "bind") (by kernel_rfl!) rfl rfl fun L A' KF hKF hA' => exs_cons ?_
  refine ex_seta ?_
  walk_at "ss"
  refine sta_inst T.ktcp hp_same (hp_other (Ne.symm hid) hp_same) T.v1 (by decide) ?_
  walk_at "ss"
  refine ⟨rfl, ?_⟩
  rw [set_comm (n := d) (Ne.symm hid), set_set]
  exact q
theorem fn_cmp (T : Tc C) {N : Nat} (hA : Ar A (N + 1)) {i d : Nat} {d0 d1 a b a' b' : Int} {L R : List MV} (hi : σ i = some (.inst T.tcp d)) (hd : σ d = some (.attrs [("comp_select_list", keyL d0 d1)]))
    (q : Q (.int (cmpP d0 d1 a b a' b')) σ) : Fn C A (.ref T.gC) [.ref i, .tup (.int a :: .int b :: L), .tup (.int a' :: .int b' :: R)] σ Q := by
  obtain ⟨cd, F⟩ := T.GC
  refine fn_go F hA (Loc.set (Loc.set (Loc.set (fun _ => none) "self" (.ref i)) "left" (.tup (.int a :: .int b :: L))) "right" (.tup (.int a' :: .int b' :: R))) (ps := ["self", "left", "right"]) (by walk_at "bind") (by kernel_rfl!) rfl rfl fun Lx A' KF hKF hA' => exs_cons ?_
  refine ex_forL 2 (fun k => ([.tup [.int 0, .int d0], .tup [.int 1, .int d1]] : List MV).getD k .none) (fun σ' => lstOf σ' (keyL d0 d1) = some [.tup [.int 0, .int d0], .tup [.int 1, .int d1]])
    (fun k lo σ' => A5 (σ' = σ) (lo "left" = some (.tup (.int a :: .int b :: L))) (lo "right" = some (.tup (.int a' :: .int b' :: R))) ((1 ≤ k → a = a')) ((2 ≤ k → b = b'))) ?_ ?_ ?_
  · refine walk_of ?_
    refine ev_attr ?_
    walk_at "ss"
    refine att_inst T.ktcp hi hd (v := keyL d0 d1) rfl rfl T.m1 ⟨walk_list hA'.h rfl, rfl, by walk_at "lk", by walk_at "lk", (fun h => absurd h (by decide)), (fun h => absurd h (by decide))⟩
  · rintro k K1 hK1 lo σ' hk ⟨rfl, l1, l2, h1, h2⟩ hJ
    match k, hk with
    | 0, _ =>
      refine st_tup2 (a := .int 0) (b := .int d0) hA'.h (.inl (by kernel_rfl!)) (.inl (by kernel_rfl!)) ?_
      walk_at "ss"
      refine gi_tup (m := .int a) (by decide) (by simp; (first | lia | omega)) (by decide) rfl ?_
      walk_at "ss"
      refine gi_tup (m := .int a') (by decide) (by simp; (first | lia | omega)) (by decide) rfl ?_
      walk_at "ss"
      refine iteB (fun h => ?_) fun h => ?_
      · walk_at "ss"
        have h' := of_decide_eq_true h
        simpa [cmpP, h', retOf_ret] using q
      have h' := of_decide_eq_false h
      walk_at "ss"
      refine iteB (fun h => ?_) fun h => ?_
      · walk_at "ss"
        have h2' := of_decide_eq_true h
        simpa [cmpP, h', h2', retOf_ret] using q
      have h2' := of_decide_eq_false h
      walk_at "ss"
      exact ⟨⟨rfl, by walk_at "lk", by walk_at "lk", fun _ => by (first | lia | omega), fun h => absurd h (by decide)⟩, hJ⟩
    | 1, _ =>
      have ha : a = a' := h1 (Nat.le_refl _)
      subst ha
      refine st_tup2 (a := .int 1) (b := .int d1) hA'.h (.inl (by kernel_rfl!)) (.inl (by kernel_rfl!)) ?_
      walk_at "ss"
      refine gi_tup (m := .int b) (by decide) (by simp; (first | lia | omega)) (by decide) rfl ?_
      walk_at "ss"
      refine gi_tup (m := .int b') (by decide) (by simp; (first | lia | omega)) (by decide) rfl ?_
      walk_at "ss"
      refine iteB (fun h => ?_) fun h => ?_
      · walk_at "ss"
        have h' := of_decide_eq_true h
        simpa [cmpP, h', retOf_ret] using q
      have h' := of_decide_eq_false h
      walk_at "ss"
      refine iteB (fun h => ?_) fun h => ?_
      · walk_at "ss"
        have h2' := of_decide_eq_true h
        simpa [cmpP, h', h2', retOf_ret] using q
      have h2' := of_decide_eq_false h
      walk_at "ss"
      exact ⟨⟨rfl, by walk_at "lk", by walk_at "lk", fun _ => rfl, fun _ => by (first | lia | omega)⟩, hJ⟩
  · rintro lo σ' ⟨rfl, _, _, h1, h2⟩ _
    walk_at "ss"
    have := h1 (by decide); have := h2 (by decide)
    subst_vars
    simpa [cmpP, retOf_ret] using q
end
section
set_option maxHeartbeats 400000

structure Tn (C : Cx) extends Tc C where
  nea : Addr
  Fnea : FnIs C nea "_law_nearest" (st2 15)
  g_nea : GlIs C "_law_nearest" (.ref nea)
noncomputable def abcd : List Nat := [97, 98, 99, 100]
noncomputable def nearG (w : List Nat) : Nat → Int × Nat
  | 0 => (levF w [122] 9, 4)
  | k + 1 => if cmpP 1 1 (levF w [abcd.getD k 0] 9) k (nearG w k).1 ((nearG w k).2 : Nat) < 0 then (levF w [abcd.getD k 0] 9, k) else nearG w k
noncomputable def nearF (w : List Nat) : Int × Nat := nearG w 4
theorem abcd_at (k : Nat) : MV.str (S [abcd.getD k 0]) = .str ⟨#[("abcd" : Str).cps.getD k 0]⟩ := by
  have e : ("abcd" : Str).cps = abcd.toArray := by decide +kernel
  rw [e]
  simp [S, Array.getD_eq_getD_getElem?, List.getD]
theorem low_ok : ∀ c, c < 128 → lowOk (S [c]) := by
  show ∀ c, c < 128 → Builtin.Str.tooLong (Txt.lower (S [c])).length = false
  decide +kernel
theorem okS_of {l : List Nat} (h : ∀ c ∈ l, c < 128) : okS l := fun c hc => low_ok c (h c hc)
variable {C : Cx} {A : Around} {σ : Hp} {Q : MV → Hp → Prop}
theorem fn_near (T : Tn C) {N : Nat} (hA : Ar A (N + 3)) {w : List Nat} (hw : ∀ c ∈ w, c < 128) (hl : w.length ≤ 40) (hwf : Wf σ) (q : Q (.tup [.int (nearF w).1, .int ((nearF w).2 : Nat)]) σ) : Fn C A (.ref T.nea) [.str (S w)] σ Q := by
  obtain ⟨i, hi⟩ := hwf.new
  have hwf1 := hwf.set i (.inst T.tcp 0) (by intros; intro h; cases h)
  obtain ⟨d, hd⟩ := hwf1.new
  have hid : i ≠ d := (ne_of_hp hd hp_same).symm
  have hd' : σ d = none := (hp_other (Ne.symm hid) rfl).symm.trans hd
  refine fn_pure hwf.nc ?_
  have dom : ∀ o o' n, σ n ≠ none → ((σ.set i o).set d o') n = σ n := fun o o' n hn => hp_other (fun e => hn (by rw [e]; exact hd')) (hp_other (fun e => hn (by rw [e]; exact hi)) rfl)
  suffices h : Fn C A (.ref T.nea) [.str (S w)] σ fun m σ₁ => m = .tup [.int (nearF w).1, .int ((nearF w).2 : Nat)] ∧ σ₁ = (σ.set i (.inst T.tcp d)).set d (.attrs [("comp_select_list", keyL 1 1)]) by
    intro g s vs r hv'
    refine codeAny_mono (h g s vs r hv') ?_
    rintro r s' hX2
    refine via_p fun P kP => ?_
    obtain ⟨v', g', m, σ', e, r', hv'', dd, rfl, rfl⟩ := hX2
    refine kP ?_
    clear kP P
    exact ⟨v', g', _, _, e, r', hv'', dd, _, .same (.tup (.cons (.int _) (.cons (.int _) .nil))), dom _ _, q⟩
  clear q
  obtain ⟨cd, F⟩ := T.Fnea
  obtain ⟨cl, Fl⟩ := id T.Flev
  obtain ⟨cc, Fc⟩ := id T.GC
  refine via_p fun P kP => ?_
  obtain ⟨oc, fdc, hK, hdc, _⟩ := Fc.ex
  refine kP ?_
  clear kP P
  generalize hσ1 : (σ.set i (.inst T.tcp d)).set d (.attrs [("comp_select_list", keyL 1 1)]) = σ1
  have hi1 : σ1 i = some (.inst T.tcp d) := hσ1 ▸ hp_other hid hp_same
  have hd1 : σ1 d = some (.attrs [("comp_select_list", keyL 1 1)]) := by rw [← hσ1]; exact hp_same
  have hwf2 : Wf σ1 := by rw [← hσ1]; exact (hwf.set _ _ (by intros; intro h; cases h)).set _ _ (by intros; intro h; cases h)
  refine fn_go F hA (Loc.set (fun _ => none) "word" (.str (S w))) (ps := ["word"]) (by walk_at "bind") (by kernel_rfl!) rfl rfl fun L A' KF hKF hA' => exs_cons ?_
  walk_at "ss"
  refine ev_call (ev_glob (by kernel_rfl!) T.g_tcp ⟨_, rfl, .kp T.keep_tcp, ?_⟩)
  refine evl_cons (ev_lst ?_)
  walk_at "ss"
  refine ⟨by show 2 ≤ _; decide, ?_⟩
  walk_at "ss"
  refine ⟨by show 2 ≤ _; decide, ?_⟩
  walk_at "ss"
  refine ⟨by show 2 ≤ _; decide, ?_⟩
  walk_at "ss"
  refine cal_fn ?_
  refine fn_tnew T.toTc hA' hi hd' hid (d0 := 1) (d1 := 1) ?_
  rw [hσ1]
  walk_at "ss"
  refine ev_callF Fl (by kernel_rfl!) T.g_lev ?_
  walk_at "ss"
  refine fn_lev T.toTx hA' (a := w) (b := [122]) (okS_of hw) (okS_of (by simp)) hl (by decide) hwf2 ?_
  walk_at "ss"
  refine ⟨by show 2 ≤ _; decide, ?_⟩
  walk_at "ss"
  refine ex_for2 4 (fun k => .int k) (fun k => .str (S [abcd.getD k 0])) (fun _ => True) (fun k lo σ' => A4 (σ' = σ1) (lo "word" = some (.str (S w))) (lo "order" = some (.ref i)) (lo "best" = some (.tup [.int (nearG w k).1, .int ((nearG w k).2 : Nat)]))) hA'.h (.inl (by kernel_rfl!)) (.inl (by kernel_rfl!)) ?_ ?_ ?_
  · refine walk_enum (Q := fun σ' => A4 (σ' = σ1) _ _ _) (item := fun k => .str (S [abcd.getD k 0])) hA'.h (by kernel_rfl!) T.b_enum.1 T.b_enum.2 ?_
    walk_at "ss"
    exact ⟨⟨rfl, by walk_at "lk", by walk_at "lk", by walk_at "lk"⟩, .inr ⟨_, rfl, rfl, funext abcd_at⟩⟩
  · rintro k K1 hK1 lo σ' hk ⟨rfl, l1, l2, l3⟩ _
    have hc : abcd.getD k 0 < 128 := by
      cases k, hk using lt4 with
      | h0 => decide
      | h1 => decide
      | h2 => decide
      | h3 => decide
    walk_at "ss"
    refine ev_callF Fl (by kernel_rfl!) T.g_lev ?_
    walk_at "ss"
    refine fn_lev T.toTx hA' (a := w) (b := [abcd.getD k 0]) (okS_of hw) (okS_of (by intro c h; rw [List.mem_singleton.mp h]; exact hc)) hl (by show 1 ≤ 40; decide) hwf2 ?_
    walk_at "ss"
    refine ⟨by show 2 ≤ _; decide, ?_⟩
    walk_at "ss"
    refine ev_methF ?_ (by rfl) (by rfl) (by rfl) (by decide)
    walk_at "ss"
    refine ⟨i, d, T.tcp, _, T.gC, rfl, T.ktcp, hi1, hd1, rfl, T.mC, T.uC, .fn hK hdc, ?_⟩
    walk_at "ss"
    refine cal_fn ?_
    refine fn_cmp T.toTc (N := N + 1) hA' hi1 hd1 ?_
    walk_at "ss"
    have hs : nearG w (k + 1) = if cmpP 1 1 (levF w [abcd.getD k 0] 9) k (nearG w k).1 ((nearG w k).2 : Nat) < 0 then (levF w [abcd.getD k 0] 9, k) else nearG w k := rfl
    refine iteB (fun h => ?_) fun h => ?_
    · rw [if_pos (of_decide_eq_true h)] at hs
      walk_at "ss"
      exact ⟨⟨rfl, by walk_at "lk", by walk_at "lk", by rw [hs]; exact at_same⟩, trivial⟩
    · rw [if_neg (of_decide_eq_false h)] at hs
      walk_at "ss"
      exact ⟨⟨rfl, by walk_at "lk", by walk_at "lk", by rw [hs]; walk_at "lk"⟩, trivial⟩
  · rintro lo σ' ⟨rfl, l1, l2, l3⟩ _
    walk_at "ss"
    exact ⟨rfl, rfl⟩
end
section
structure Row where
  a : Int
  b : Int
  c : Int
  d : Int
  calls : List (Nat × Int × Int)
noncomputable abbrev Kn := List (List Nat × Int × Nat)
structure WS where
  pos : List Nat
  reads : List Nat
  last : List Nat
  tree : List Nat
  bk : List (Nat × Row)
  kn : Kn
noncomputable def getK (kn : Kn) (w : List Nat) : Option (Int × Nat) := match kn with
  | [] => none
  | (k, v) :: l => if k = w then some v else getK l w
noncomputable def updC (l : List (Nat × Int × Int)) (h : Nat) (p : Int) : List (Nat × Int × Int) := match l with
  | [] => [(h, 1, p)]
  | (k, n, s) :: l => if k = h then (k, 1 + n, p + s) :: l else (k, n, s) :: updC l h p
noncomputable def zeroR : Row := ⟨0, 0, 0, 0, []⟩
noncomputable def addR (r : Row) (h : Nat) (p : Int) : Row := ⟨(if p = 0 then 1 else 0) + r.a, 1 + r.b, p + r.c, p * p + r.d, updC r.calls h p⟩
noncomputable def getB (bk : List (Nat × Row)) (g : Nat) : Option Row := match bk with
  | [] => none
  | (k, r) :: l => if k = g then some r else getB l g
noncomputable def putB (bk : List (Nat × Row)) (g : Nat) (r : Row) : List (Nat × Row) := match bk with
  | [] => [(g, r)]
  | (k, r') :: l => if k = g then (k, r) :: l else (k, r') :: putB l g r
theorem getK_nil (w : List Nat) : getK [] w = none := rfl
theorem getK_cons (k : List Nat) (v : Int × Nat) (l : Kn) (w : List Nat) : getK ((k, v) :: l) w = if k = w then some v else getK l w := rfl
theorem updC_cons (k : Nat) (n s : Int) (l : List (Nat × Int × Int)) (h : Nat) (p : Int) : updC ((k, n, s) :: l) h p = if k = h then (k, 1 + n, p + s) :: l else (k, n, s) :: updC l h p := rfl
theorem putB_cons (k : Nat) (r' : Row) (l : List (Nat × Row)) (g : Nat) (r : Row) : putB ((k, r') :: l) g r = if k = g then (k, r) :: l else (k, r') :: putB l g r := rfl
theorem getB_nil (g : Nat) : getB [] g = none := rfl
theorem getB_cons (k : Nat) (r : Row) (l : List (Nat × Row)) (g : Nat) : getB ((k, r) :: l) g = if k = g then some r else getB l g := rfl
noncomputable def addK (kn : Kn) (w : List Nat) : Kn := match getK kn w with | some _ => kn | none => kn ++ [(w, nearF w)]
noncomputable def step (texts : List (List Nat)) (ws : WS) (h : Nat) : WS × Nat :=
  let l := texts.getD h []
  let tr := lexT (l.drop (ws.pos.getD h 0))
  let v := (getK ws.kn tr.1).getD (nearF tr.1)
  ({ pos := ws.pos.set h (l.length - tr.2.length)
     reads := ws.reads.set h (ws.reads.getD h 0 + 1)
     last := ws.last.set h v.2
     tree := ws.tree
     bk := putB ws.bk v.2 (addR ((getB ws.bk v.2).getD zeroR) h v.1)
     kn := addK ws.kn tr.1 }, v.2)
structure StepOk (texts : List (List Nat)) (ws : WS) (h : Nat) : Prop where
  h4 : h < 4
  tok : (lexT ((texts.getD h []).drop (ws.pos.getD h 0))).1.length ≤ 40
  asc : ∀ c ∈ (lexT ((texts.getD h []).drop (ws.pos.getD h 0))).1, c < 128
  goal : ((getK ws.kn (lexT ((texts.getD h []).drop (ws.pos.getD h 0))).1).getD (nearF (lexT ((texts.getD h []).drop (ws.pos.getD h 0))).1)).2 ≤ 4
  price : 0 ≤ ((getK ws.kn (lexT ((texts.getD h []).drop (ws.pos.getD h 0))).1).getD (nearF (lexT ((texts.getD h []).drop (ws.pos.getD h 0))).1)).1 ∧
    ((getK ws.kn (lexT ((texts.getD h []).drop (ws.pos.getD h 0))).1).getD (nearF (lexT ((texts.getD h []).drop (ws.pos.getD h 0))).1)).1 ≤ 1000
  kn : ws.kn.length ≤ 10000
inductive WalkTo (texts : List (List Nat)) : Nat → WS → Nat → WS → Prop
  | done {ws : WS} {h : Nat} : h ∈ ws.tree → WalkTo texts 0 ws h ws
  | step {n : Nat} {ws ws' : WS} {h : Nat} : h ∉ ws.tree → StepOk texts ws h → WalkTo texts n (step texts ws h).1 (step texts ws h).2 ws' → WalkTo texts (n + 1) ws h ws'
inductive TreeTo (last : List Nat) : Nat → List Nat → Nat → List Nat → Prop
  | done {t : List Nat} {h : Nat} : h ∈ t → TreeTo last 0 t h t
  | step {n : Nat} {t t' : List Nat} {h : Nat} : h ∉ t → h < 4 → t.length ≤ 10000 → TreeTo last n (t ++ [h]) (last.getD h 0) t' → TreeTo last (n + 1) t h t'
inductive AllTo (texts : List (List Nat)) : List Nat → WS → WS → Prop
  | nil {ws : WS} : AllTo texts [] ws ws
  | cons {s : Nat} {ss : List Nat} {n m : Nat} {ws ws1 ws' : WS} {t : List Nat} : s < 4 → WalkTo texts n ws s ws1 → TreeTo ws1.last m ws1.tree s t → AllTo texts ss { ws1 with tree := t } ws' → AllTo texts (s :: ss) ws ws'
theorem WalkTo.go {texts : List (List Nat)} {n : Nat} {ws ws' : WS} {h : Nat} (p : WalkTo texts n ws h ws') (hn : h ∉ ws.tree) :
    ∃ m, m < n ∧ StepOk texts ws h ∧ WalkTo texts m (Mine.step texts ws h).1 (Mine.step texts ws h).2 ws' := by
  cases p with
  | done e => exact absurd e hn
  | step _ a b => exact ⟨_, Nat.lt_succ_self _, a, b⟩
theorem WalkTo.stop {texts : List (List Nat)} {n : Nat} {ws ws' : WS} {h : Nat} (p : WalkTo texts n ws h ws') (hn : h ∈ ws.tree) : ws' = ws := by
  cases p with
  | done e => rfl
  | step e _ _ => exact absurd hn e
theorem TreeTo.go {last : List Nat} {n : Nat} {t t' : List Nat} {h : Nat} (p : TreeTo last n t h t') (hn : h ∉ t) :
    ∃ m, m < n ∧ h < 4 ∧ t.length ≤ 10000 ∧ TreeTo last m (t ++ [h]) (last.getD h 0) t' := by
  cases p with
  | done e => exact absurd e hn
  | step _ a b c => exact ⟨_, Nat.lt_succ_self _, a, b, c⟩
theorem TreeTo.stop {last : List Nat} {n : Nat} {t t' : List Nat} {h : Nat} (p : TreeTo last n t h t') (hn : h ∈ t) : t' = t := by
  cases p with
  | done e => rfl
  | step e _ _ _ => exact absurd hn e
theorem AllTo.inv {texts : List (List Nat)} {s : Nat} {ss : List Nat} {ws ws' : WS} (p : AllTo texts (s :: ss) ws ws') :
    ∃ n m ws1 t, s < 4 ∧ WalkTo texts n ws s ws1 ∧ TreeTo ws1.last m ws1.tree s t ∧ AllTo texts ss { ws1 with tree := t } ws' := by
  cases p with
  | cons a b c d => exact ⟨_, _, _, _, a, b, c, d⟩
theorem AllTo.stop {texts : List (List Nat)} {ws ws' : WS} (p : AllTo texts [] ws ws') : ws' = ws := by
  cases p; rfl
noncomputable def ws0 (kn : Kn) : WS := ⟨[0, 0, 0, 0], [0, 0, 0, 0], [4, 4, 4, 4], [4], [], kn⟩
noncomputable def nameS (g : Nat) : Str := S [[97, 98, 99, 100, 122].getD g 0]
noncomputable def rC (even : Bool) (l : List (Nat × Int × Int)) : List (Str × MV) := l.map fun q => (nameS q.1, if even = true then .int q.2.1 else .tup [.int q.2.1, .int q.2.2])
noncomputable def rR (even : Bool) (r : Row) : MV := .tup [.int r.a, .int r.b, .int r.c, .int r.d, .dct (rC even r.calls)]
noncomputable def rB (even : Bool) (bk : List (Nat × Row)) : List (Str × MV) := bk.map fun q => (nameS q.1, rR even q.2)
noncomputable def rK (kn : Kn) : List (Str × MV) := kn.map fun q => (S q.1, .tup [.int q.2.1, .int (q.2.2 : Nat)])
structure BkOk (bk : List (Nat × Row)) : Prop where
  keys : (bk.map (·.1)).Nodup
  lt : ∀ q ∈ bk, q.1 ≤ 4
  ck : ∀ q ∈ bk, (q.2.calls.map (·.1)).Nodup
  cl : ∀ q ∈ bk, ∀ c ∈ q.2.calls, c.1 < 4
theorem nodup_len : ∀ (k : Nat) (l : List Nat), l.Nodup → (∀ x ∈ l, x < k) → l.length ≤ k
  | 0, [], _, _ => Nat.le_refl _
  | 0, x :: l, _, h => absurd (h x (.head _)) (Nat.not_lt_zero _)
  | k + 1, l, hn, h => by
    have h1 : (l.filter (· != k)).length ≤ k := nodup_len k _ (hn.filter _) fun x hx => by
      have := List.mem_filter.mp hx
      have h2 := h x this.1
      have h3 : x ≠ k := by simpa using this.2
      (first | lia | omega)
    have h2 : l.length ≤ (l.filter (· != k)).length + 1 := by
      clear h1 h
      induction l with
      | nil => simp
      | cons x l ih =>
        rw [List.nodup_cons] at hn
        by_cases hx : x = k
        · subst hx
          have : l.filter (· != x) = l := List.filter_eq_self.mpr fun y hy => by
            have : y ≠ x := fun e => hn.1 (e ▸ hy)
            simpa using this
          simp [this]
        · have := ih hn.2
          rw [List.filter_cons_of_pos (by simpa using hx)]
          simp only [List.length_cons]; (first | lia | omega)
    (first | lia | omega)
theorem nameS_inj {g h : Nat} (hg : g ≤ 4) (hh : h ≤ 4) (e : nameS g = nameS h) : g = h := by
  have : ∀ g h : Fin 5, nameS g = nameS h → g = h := by decide
  have := this ⟨g, by (first | lia | omega)⟩ ⟨h, by (first | lia | omega)⟩ e
  exact Fin.mk.inj this
theorem valAt_rK (w : List Nat) : ∀ kn : Kn, valAt (rK kn) (S w) = (getK kn w).map fun v => .tup [.int v.1, .int (v.2 : Nat)]
  | [] => rfl
  | (k, v) :: l => by
    show (if S k = S w then _ else valAt (rK l) (S w)) = (if k = w then some v else getK l w).map _
    by_cases h : k = w
    · rw [if_pos (by rw [h]), if_pos h]; rfl
    · rw [if_neg (fun e => h (S_inj.mp e)), if_neg h, valAt_rK w l]
theorem putAt_rK {w : List Nat} {v : Int × Nat} : ∀ {kn : Kn}, getK kn w = none → putAt (rK kn) (S w) (.tup [.int v.1, .int (v.2 : Nat)]) = rK (kn ++ [(w, v)])
  | [], _ => rfl
  | (k, u) :: l, h => by
    rw [getK_cons] at h
    split at h
    · cases h
    · rename_i hk
      show (if S k = S w then _ else _ :: putAt (rK l) (S w) _) = _
      rw [if_neg (fun e => hk (S_inj.mp e)), putAt_rK h]; rfl
theorem addK_get (kn : Kn) (w : List Nat) : getK (addK kn w) w = some ((getK kn w).getD (nearF w)) := by
  unfold addK
  cases e : getK kn w with
  | some v => simp [e]
  | none =>
    have : ∀ l : Kn, getK l w = none → getK (l ++ [(w, nearF w)]) w = some (nearF w) := by
      intro l
      induction l with
      | nil => intro _; simp [getK_cons, getK_nil]
      | cons q l ih =>
        intro h
        obtain ⟨k, v⟩ := q
        rw [getK_cons] at h
        split at h
        · cases h
        · rename_i hk
          show (if k = w then _ else getK (l ++ _) w) = _
          rw [if_neg hk, ih h]
    simpa using this kn e
theorem valAt_rB {even : Bool} {g : Nat} (hg : g ≤ 4) : ∀ {bk : List (Nat × Row)}, (∀ q ∈ bk, q.1 ≤ 4) → valAt (rB even bk) (nameS g) = (getB bk g).map (rR even)
  | [], _ => rfl
  | (k, r) :: l, h => by
    show (if nameS k = nameS g then _ else valAt (rB even l) (nameS g)) = (if k = g then some r else getB l g).map _
    by_cases hk : k = g
    · rw [if_pos (by rw [hk]), if_pos hk]; rfl
    · rw [if_neg (fun e => hk (nameS_inj (h _ (.head _)) hg e)), if_neg hk, valAt_rB hg fun q hq => h q (.tail _ hq)]
theorem putAt_rB {even : Bool} {g : Nat} {r : Row} (hg : g ≤ 4) : ∀ {bk : List (Nat × Row)}, (∀ q ∈ bk, q.1 ≤ 4) → putAt (rB even bk) (nameS g) (rR even r) = rB even (putB bk g r)
  | [], _ => rfl
  | (k, r') :: l, h => by
    show (if nameS k = nameS g then _ else _ :: putAt (rB even l) (nameS g) _) = rB even (if k = g then _ else _)
    by_cases hk : k = g
    · rw [if_pos (by rw [hk]), if_pos hk]; rfl
    · rw [if_neg (fun e => hk (nameS_inj (h _ (.head _)) hg e)), if_neg hk, putAt_rB hg fun q hq => h q (.tail _ hq)]; rfl
noncomputable def vC (even : Bool) (n s : Int) : MV := if even = true then .int n else .tup [.int n, .int s]
theorem putAll_nodup : ∀ {l : List (Str × MV)}, (l.map (·.1)).Nodup → putAll l = l := by
  have app : ∀ (l : List (Str × MV)) (k : Str) (v : MV), k ∉ l.map (·.1) → putAt l k v = l ++ [(k, v)] := by
    intro l k v
    induction l with
    | nil => intro _; rfl
    | cons p l ih =>
      intro h
      simp only [List.map_cons, List.mem_cons, not_or] at h
      obtain ⟨y, u⟩ := p
      show (if y = k then _ else _) = _
      rw [if_neg (fun e => h.1 e.symm), ih h.2]; rfl
  have : ∀ (l acc : List (Str × MV)), ((acc ++ l).map (·.1)).Nodup → l.foldl (fun acc p => putAt acc p.1 p.2) acc = acc ++ l := by
    intro l
    induction l with
    | nil => intro acc _; simp
    | cons p l ih =>
      intro acc h
      rw [List.foldl_cons, app _ _ _ (fun hm => ?_), ih]
      · simp
      · simpa using h
      · simp only [List.map_append, List.map_cons] at h
        exact (List.nodup_append.mp h).2.2 _ hm _ (.head _) rfl
  intro l h
  exact this l [] (by simpa using h)
theorem rC_keys {even : Bool} {l : List (Nat × Int × Int)} (hn : (l.map (·.1)).Nodup) (hl : ∀ c ∈ l, c.1 < 4) : ((rC even l).map (·.1)).Nodup := by
  induction l with
  | nil => simp [rC]
  | cons q l ih =>
    simp only [List.map_cons, List.nodup_cons] at hn
    simp only [rC, List.map_cons, List.nodup_cons]
    refine ⟨fun hm => ?_, ih hn.2 fun c hc => hl c (.tail _ hc)⟩
    simp only [List.map_map, List.mem_map, Function.comp] at hm
    obtain ⟨c, hc, e⟩ := hm
    have h1 := hl c (.tail _ hc)
    have h2 := hl q (.head _)
    exact hn.1 (List.mem_map.mpr ⟨c, hc, nameS_inj (by (first | lia | omega)) (by (first | lia | omega)) e⟩)
theorem mergeC_rC {even : Bool} {l : List (Nat × Int × Int)} {h : Nat} {p : Int} (hh : h < 4) (hn : (l.map (·.1)).Nodup) (hl : ∀ c ∈ l, c.1 < 4) :
    mergeC (rC even l) (nameS h) (vC even 1 p) = rC even (updC l h p) := by
  unfold mergeC
  rw [putAll_nodup (rC_keys hn hl)]
  clear hn
  induction l with
  | nil => rfl
  | cons q l ih =>
    obtain ⟨k, n, s⟩ := q
    have hk : k < 4 := hl _ (.head _)
    have ih := ih fun c hc => hl c (.tail _ hc)
    show putAt ((nameS k, vC even n s) :: rC even l) (nameS h) (match (if nameS k = nameS h then some (vC even n s) else valAt (rC even l) (nameS h)) with | none => vC even 1 p | some u => addC u (vC even 1 p)) = rC even (if k = h then _ else _)
    by_cases hkh : k = h
    · subst hkh
      rw [if_pos rfl, if_pos rfl]
      show (if nameS k = nameS k then _ else _) = _
      rw [if_pos rfl]
      cases even
      · rfl
      · show (nameS k, MV.int (n + 1)) :: _ = (nameS k, MV.int (1 + n)) :: _
        rw [Int.add_comm]; rfl
    · have hne : nameS k ≠ nameS h := fun e => hkh (nameS_inj (by (first | lia | omega)) (by (first | lia | omega)) e)
      rw [if_neg hkh, if_neg hne]
      show (if nameS k = nameS h then _ else _) = _
      rw [if_neg hne]
      have : rC even ((k, n, s) :: updC l h p) = (nameS k, vC even n s) :: rC even (updC l h p) := rfl
      rw [this, ← ih]
      all_goals rfl
theorem rC_cv {even : Bool} {l : List (Nat × Int × Int)} : ∀ q ∈ rC even l, CVk even q.2 := by
  intro q hq
  obtain ⟨c, _, rfl⟩ := List.mem_map.mp hq
  cases even
  · exact .pair _ _
  · exact .int _
theorem updC_keys {h : Nat} {p : Int} : ∀ {l : List (Nat × Int × Int)} {c : Nat × Int × Int}, c ∈ updC l h p → c.1 = h ∨ c.1 ∈ l.map (·.1)
  | [], c, hc => .inl (by rw [List.mem_singleton.mp hc])
  | (k, n, s) :: l, c, hc => by
    rw [updC_cons] at hc
    split at hc
    · rename_i e
      rcases List.mem_cons.mp hc with rfl | hc
      · exact .inl e
      · exact .inr (.tail _ (List.mem_map.mpr ⟨c, hc, rfl⟩))
    · rcases List.mem_cons.mp hc with rfl | hc
      · exact .inr (.head _)
      · exact (updC_keys hc).imp id (.tail _)
theorem updC_nodup {h : Nat} {p : Int} : ∀ {l : List (Nat × Int × Int)}, (l.map (·.1)).Nodup → ((updC l h p).map (·.1)).Nodup
  | [], _ => List.nodup_cons.mpr ⟨List.not_mem_nil, .nil⟩
  | (k, n, s) :: l, hn => by
    simp only [List.map_cons, List.nodup_cons] at hn
    rw [updC_cons]
    split
    · simp only [List.map_cons, List.nodup_cons]; exact hn
    · rename_i hk
      simp only [List.map_cons, List.nodup_cons]
      refine ⟨fun hm => ?_, updC_nodup hn.2⟩
      obtain ⟨c, hc, e⟩ := List.mem_map.mp hm
      rcases updC_keys hc with q | q
      · exact hk (e ▸ q)
      · exact hn.1 (e ▸ q)
theorem putB_keys {g : Nat} {r : Row} : ∀ {bk : List (Nat × Row)} {q : Nat × Row}, q ∈ putB bk g r → q = (g, r) ∨ q ∈ bk
  | [], q, hq => .inl (List.mem_singleton.mp hq)
  | (k, r') :: l, q, hq => by
    rw [putB_cons] at hq
    split at hq
    · rename_i e
      rcases List.mem_cons.mp hq with rfl | hq
      · exact .inl (by rw [e])
      · exact .inr (.tail _ hq)
    · rcases List.mem_cons.mp hq with rfl | hq
      · exact .inr (.head _)
      · exact (putB_keys hq).imp id (.tail _)
theorem putB_nodup {g : Nat} {r : Row} : ∀ {bk : List (Nat × Row)}, (bk.map (·.1)).Nodup → ((putB bk g r).map (·.1)).Nodup
  | [], _ => List.nodup_cons.mpr ⟨List.not_mem_nil, .nil⟩
  | (k, r') :: l, hn => by
    simp only [List.map_cons, List.nodup_cons] at hn
    rw [putB_cons]
    split
    · simp only [List.map_cons, List.nodup_cons]; exact hn
    · rename_i hk
      simp only [List.map_cons, List.nodup_cons]
      refine ⟨fun hm => ?_, putB_nodup hn.2⟩
      obtain ⟨c, hc, e⟩ := List.mem_map.mp hm
      rcases putB_keys hc with rfl | q
      · exact hk e.symm
      · exact hn.1 (e ▸ List.mem_map.mpr ⟨c, q, rfl⟩)
theorem getB_mem {g : Nat} {r : Row} : ∀ {bk : List (Nat × Row)}, getB bk g = some r → (g, r) ∈ bk
  | [], h => by cases h
  | (k, r') :: l, h => by
    rw [getB_cons] at h
    split at h
    · rename_i e; cases h; rw [e]; exact .head _
    · exact .tail _ (getB_mem h)
theorem BkOk.row {bk : List (Nat × Row)} (h : BkOk bk) (g : Nat) : (((getB bk g).getD zeroR).calls.map (·.1)).Nodup ∧ ∀ c ∈ ((getB bk g).getD zeroR).calls, c.1 < 4 := by
  cases e : getB bk g with
  | none => exact ⟨by simp [zeroR], by simp [zeroR]⟩
  | some r => exact ⟨h.ck _ (getB_mem e), h.cl _ (getB_mem e)⟩
theorem BkOk.put {bk : List (Nat × Row)} (h : BkOk bk) {g w : Nat} (hg : g ≤ 4) (hw : w < 4) (p : Int) : BkOk (putB bk g (addR ((getB bk g).getD zeroR) w p)) := by
  obtain ⟨r1, r2⟩ := h.row g
  refine ⟨putB_nodup h.keys, fun q hq => ?_, fun q hq => ?_, fun q hq => ?_⟩
  · rcases putB_keys hq with rfl | hq
    · exact hg
    · exact h.lt q hq
  · rcases putB_keys hq with rfl | hq
    · exact updC_nodup r1
    · exact h.ck q hq
  · rcases putB_keys hq with rfl | hq
    · intro c hc
      rcases updC_keys hc with e | e
      · rw [e]; exact hw
      · obtain ⟨c', hc', e'⟩ := List.mem_map.mp e
        rw [← e']; exact r2 c' hc'
    · exact h.cl q hq
theorem BkOk.len {bk : List (Nat × Row)} (h : BkOk bk) : bk.length ≤ 5 := by
  have := nodup_len 5 _ h.keys fun x hx => by obtain ⟨q, hq, rfl⟩ := List.mem_map.mp hx; have := h.lt q hq; (first | lia | omega)
  simpa using this
theorem rC_len {even : Bool} {l : List (Nat × Int × Int)} (hn : (l.map (·.1)).Nodup) (hl : ∀ c ∈ l, c.1 < 4) : (rC even l).length ≤ 1000 := by
  have := nodup_len 4 _ hn fun x hx => by obtain ⟨q, hq, rfl⟩ := List.mem_map.mp hx; exact hl q hq
  simp [rC] at this ⊢; (first | lia | omega)
end
section
noncomputable def compB (scope : Scope) (outer : List (Str × NameKind)) : Bool :=
  (scope.kind == .function) && scope.names.all (fun x => x.2 != .local || scope.names.lookup x.1 == some .local) && scope.names.all (fun x => x.2 != .free || ((outer.lookup x.1 == some .cell || outer.lookup x.1 == some .free) && scope.names.lookup x.1 == some .free)) &&
    scope.names.all (fun x => x.2 != .cell || scope.names.lookup x.1 == some .cell)
theorem compOk_of {scope : Scope} {env : Env} (h : compB scope env.scope.names = true) : CompOk scope env := by
  simp only [compB, Bool.and_eq_true, List.all_eq_true, Bool.or_eq_true, bne_iff_ne, beq_iff_eq, Prod.forall] at h
  obtain ⟨⟨⟨h1, h2⟩, h3⟩, h4⟩ := h
  refine ⟨h1, fun x hx e => ?_, fun x hx => ?_, fun x hx => ?_, fun x hx => ?_⟩
  · obtain ⟨a, b⟩ := x
    exact (h2 a b hx).resolve_left (fun q => q e)
  · exact ((h3 x _ hx).resolve_left (fun q => q rfl)).1
  · exact (h4 x _ hx).resolve_left (fun q => q rfl)
  · exact ((h3 x _ hx).resolve_left (fun q => q rfl)).2
noncomputable def nI (l : List Nat) : List Int := l.map fun n : Nat => (n : Int)
theorem nI_any (l : List Nat) (h : Nat) : (nI l).any (· == (h : Int)) = decide (h ∈ l) := by
  induction l with
  | nil => rfl
  | cons x l ih =>
    show ((x : Int) == h || (nI l).any _) = _
    rw [ih]
    by_cases e : x = h
    · subst e; simp
    · have : ((x : Int) == h) = false := by simp; (first | lia | omega)
      rw [this]; simp [Ne.symm e]
theorem nI_at (l : List Nat) (h : Nat) (hh : h < l.length) : ((nI l).map MV.int)[(h : Int).toNat]? = some (.int (l.getD h 0 : Nat)) := by
  simp [nI, List.getD, hh]
theorem nI_set (l : List Nat) (h v : Nat) : ((nI l).map MV.int).set (h : Int).toNat (.int (v : Nat)) = (nI (l.set h v)).map MV.int := by
  simp [nI, List.map_set]
theorem getD_set_ne (l : List Nat) {h k : Nat} (v : Nat) (hk : k ≠ h) : (l.set h v).getD k 0 = l.getD k 0 := by
  simp [List.getD, List.getElem?_set_ne (Ne.symm hk)]
theorem getD_set_eq (l : List Nat) {h : Nat} (v : Nat) (hh : h < l.length) : (l.set h v).getD h 0 = v := by
  simp [List.getD, hh]
structure WAt (lex : Addr) (σ₀ : Hp) (B kL : Nat) (even : Bool) (texts : List (List Nat)) (ws : WS) (σ' : Hp) : Prop where
  i : ∀ k, k < 4 → σ' (B + 3 * k) = some (.inst lex (B + 3 * k + 1))
  d : ∀ k, k < 4 → σ' (B + 3 * k + 1) = some (lexO (texts.getD k []) (B + 3 * k + 2) (.lst []) (ws.pos.getD k 0))
  n : ∀ k, k < 4 → σ' (B + 3 * k + 2) = some (.list [.int (ws.pos.getD k 0 : Nat)])
  reads : σ' (B + 12) = some (.list ((nI ws.reads).map .int))
  last : σ' (B + 13) = some (.list ((nI ws.last).map .int))
  tree : σ' (B + 14) = some (.list ((nI ws.tree).map .int))
  bk : σ' (B + 15) = some (.dict (rB even ws.bk))
  kn : σ' kL = some (.dict (rK ws.kn))
  old : ∀ m, m < B → m ≠ kL → σ' m = σ₀ m
  wf : Wf σ'
  kB : kL < B
  hi : ∀ m, B + 16 ≤ m → σ' m = none
  l1 : ws.pos.length = 4
  l2 : ws.reads.length = 4
  l3 : ws.last.length = 4
  pos : ∀ k, k < 4 → ws.pos.getD k 0 ≤ (texts.getD k []).length
  bok : BkOk ws.bk
section
variable {lex : Addr} {σ₀ σ' : Hp} {B kL : Nat} {even : Bool} {texts : List (List Nat)} {ws : WS}
theorem Wf.setL {σ : Hp} (h : Wf σ) (n : Nat) (l : List MV) : Wf (σ.set n (.list l)) := h.set _ _ (by intros; intro h; cases h)
theorem Wf.setD {σ : Hp} (h : Wf σ) (n : Nat) (l : List (Str × MV)) : Wf (σ.set n (.dict l)) := h.set _ _ (by intros; intro h; cases h)
theorem Wf.setA {σ : Hp} (h : Wf σ) (n : Nat) (l : List (Str × MV)) : Wf (σ.set n (.attrs l)) := h.set _ _ (by intros; intro h; cases h)
theorem Wf.setI {σ : Hp} (h : Wf σ) (n : Nat) (c : Addr) (d : Nat) : Wf (σ.set n (.inst c d)) := h.set _ _ (by intros; intro h; cases h)
theorem Wf.lexH {σ : Hp} (h : Wf σ) (d n : Nat) (l : List Nat) (pb : MV) (p : Nat) : Wf (lexH σ d n l pb p) := (h.setL _ _).setA _ _
theorem WAt.read (W : WAt lex σ₀ B kL even texts ws σ') {h p : Nat} (hh : h < 4) (hp : p ≤ (texts.getD h []).length) :
    WAt lex σ₀ B kL even texts { ws with pos := ws.pos.set h p } (lexH σ' (B + 3 * h + 1) (B + 3 * h + 2) (texts.getD h []) (.lst []) p) := by
  have hl := W.l1
  have hB := W.kB
  have o : ∀ m, m ≠ B + 3 * h + 1 → m ≠ B + 3 * h + 2 → lexH σ' (B + 3 * h + 1) (B + 3 * h + 2) (texts.getD h []) (.lst []) p m = σ' m := fun m h1 h2 => lexH_o h1 h2
  refine ⟨fun k hk => (o _ (by (first | lia | omega)) (by (first | lia | omega))).trans (W.i k hk), fun k hk => ?_, fun k hk => ?_, (o _ (by (first | lia | omega)) (by (first | lia | omega))).trans W.reads, (o _ (by (first | lia | omega)) (by (first | lia | omega))).trans W.last, (o _ (by (first | lia | omega)) (by (first | lia | omega))).trans W.tree,
    (o _ (by (first | lia | omega)) (by (first | lia | omega))).trans W.bk, (o _ (by (first | lia | omega)) (by (first | lia | omega))).trans W.kn, fun m h1 h2 => (o _ (by (first | lia | omega)) (by (first | lia | omega))).trans (W.old m h1 h2), W.wf.lexH .., hB, fun m hm => (o _ (by (first | lia | omega)) (by (first | lia | omega))).trans (W.hi m hm), by simp [hl], W.l2, W.l3, fun k hk => ?_, W.bok⟩
  · by_cases e : k = h
    · subst e; rw [lexH_d, getD_set_eq _ _ (by (first | lia | omega))]
    · rw [o _ (by (first | lia | omega)) (by (first | lia | omega)), W.d k hk, getD_set_ne _ _ e]
  · by_cases e : k = h
    · subst e; rw [lexH_n (by (first | lia | omega)), getD_set_eq _ _ (by (first | lia | omega))]
    · rw [o _ (by (first | lia | omega)) (by (first | lia | omega)), W.n k hk, getD_set_ne _ _ e]
  · by_cases e : k = h
    · subst e; rw [getD_set_eq _ _ (by (first | lia | omega))]; exact hp
    · rw [getD_set_ne _ _ e]; exact W.pos k hk
theorem WAt.setReads (W : WAt lex σ₀ B kL even texts ws σ') {l : List Nat} (hl : l.length = 4) : WAt lex σ₀ B kL even texts { ws with reads := l } (σ'.set (B + 12) (.list ((nI l).map .int))) := by
  have hB := W.kB
  have o : ∀ m, m ≠ B + 12 → (σ'.set (B + 12) (.list ((nI l).map .int))) m = σ' m := fun m h1 => hp_other h1 rfl
  exact ⟨fun k hk => (o _ (by (first | lia | omega))).trans (W.i k hk), fun k hk => (o _ (by (first | lia | omega))).trans (W.d k hk), fun k hk => (o _ (by (first | lia | omega))).trans (W.n k hk), hp_same, (o _ (by (first | lia | omega))).trans W.last, (o _ (by (first | lia | omega))).trans W.tree,
    (o _ (by (first | lia | omega))).trans W.bk, (o _ (by (first | lia | omega))).trans W.kn, fun m h1 h2 => (o _ (by (first | lia | omega))).trans (W.old m h1 h2), W.wf.setL .., hB, fun m hm => (o _ (by (first | lia | omega))).trans (W.hi m hm), W.l1, hl, W.l3, W.pos, W.bok⟩
theorem WAt.setLast (W : WAt lex σ₀ B kL even texts ws σ') {l : List Nat} (hl : l.length = 4) : WAt lex σ₀ B kL even texts { ws with last := l } (σ'.set (B + 13) (.list ((nI l).map .int))) := by
  have hB := W.kB
  have o : ∀ m, m ≠ B + 13 → (σ'.set (B + 13) (.list ((nI l).map .int))) m = σ' m := fun m h1 => hp_other h1 rfl
  exact ⟨fun k hk => (o _ (by (first | lia | omega))).trans (W.i k hk), fun k hk => (o _ (by (first | lia | omega))).trans (W.d k hk), fun k hk => (o _ (by (first | lia | omega))).trans (W.n k hk), (o _ (by (first | lia | omega))).trans W.reads, hp_same, (o _ (by (first | lia | omega))).trans W.tree,
    (o _ (by (first | lia | omega))).trans W.bk, (o _ (by (first | lia | omega))).trans W.kn, fun m h1 h2 => (o _ (by (first | lia | omega))).trans (W.old m h1 h2), W.wf.setL .., hB, fun m hm => (o _ (by (first | lia | omega))).trans (W.hi m hm), W.l1, W.l2, hl, W.pos, W.bok⟩
theorem WAt.setTree (W : WAt lex σ₀ B kL even texts ws σ') {l : List Nat} : WAt lex σ₀ B kL even texts { ws with tree := l } (σ'.set (B + 14) (.list ((nI l).map .int))) := by
  have hB := W.kB
  have o : ∀ m, m ≠ B + 14 → (σ'.set (B + 14) (.list ((nI l).map .int))) m = σ' m := fun m h1 => hp_other h1 rfl
  exact ⟨fun k hk => (o _ (by (first | lia | omega))).trans (W.i k hk), fun k hk => (o _ (by (first | lia | omega))).trans (W.d k hk), fun k hk => (o _ (by (first | lia | omega))).trans (W.n k hk), (o _ (by (first | lia | omega))).trans W.reads, (o _ (by (first | lia | omega))).trans W.last, hp_same,
    (o _ (by (first | lia | omega))).trans W.bk, (o _ (by (first | lia | omega))).trans W.kn, fun m h1 h2 => (o _ (by (first | lia | omega))).trans (W.old m h1 h2), W.wf.setL .., hB, fun m hm => (o _ (by (first | lia | omega))).trans (W.hi m hm), W.l1, W.l2, W.l3, W.pos, W.bok⟩
theorem WAt.setBk (W : WAt lex σ₀ B kL even texts ws σ') {b : List (Nat × Row)} (hb : BkOk b) : WAt lex σ₀ B kL even texts { ws with bk := b } (σ'.set (B + 15) (.dict (rB even b))) := by
  have hB := W.kB
  have o : ∀ m, m ≠ B + 15 → (σ'.set (B + 15) (.dict (rB even b))) m = σ' m := fun m h1 => hp_other h1 rfl
  exact ⟨fun k hk => (o _ (by (first | lia | omega))).trans (W.i k hk), fun k hk => (o _ (by (first | lia | omega))).trans (W.d k hk), fun k hk => (o _ (by (first | lia | omega))).trans (W.n k hk), (o _ (by (first | lia | omega))).trans W.reads, (o _ (by (first | lia | omega))).trans W.last, (o _ (by (first | lia | omega))).trans W.tree,
    hp_same, (o _ (by (first | lia | omega))).trans W.kn, fun m h1 h2 => (o _ (by (first | lia | omega))).trans (W.old m h1 h2), W.wf.setD .., hB, fun m hm => (o _ (by (first | lia | omega))).trans (W.hi m hm), W.l1, W.l2, W.l3, W.pos, hb⟩
theorem WAt.setKn (W : WAt lex σ₀ B kL even texts ws σ') {b : Kn} : WAt lex σ₀ B kL even texts { ws with kn := b } (σ'.set kL (.dict (rK b))) := by
  have hB := W.kB
  have o : ∀ m, m ≠ kL → (σ'.set kL (.dict (rK b))) m = σ' m := fun m h1 => hp_other h1 rfl
  exact ⟨fun k hk => (o _ (by (first | lia | omega))).trans (W.i k hk), fun k hk => (o _ (by (first | lia | omega))).trans (W.d k hk), fun k hk => (o _ (by (first | lia | omega))).trans (W.n k hk), (o _ (by (first | lia | omega))).trans W.reads, (o _ (by (first | lia | omega))).trans W.last, (o _ (by (first | lia | omega))).trans W.tree,
    (o _ (by (first | lia | omega))).trans W.bk, hp_same, fun m h1 h2 => (o _ h2).trans (W.old m h1 h2), W.wf.setD .., hB, fun m hm => (o _ (by (first | lia | omega))).trans (W.hi m hm), W.l1, W.l2, W.l3, W.pos, W.bok⟩
theorem WAt.asLex (W : WAt lex σ₀ B kL even texts ws σ') {h : Nat} (hh : h < 4) : σ' = lexH σ' (B + 3 * h + 1) (B + 3 * h + 2) (texts.getD h []) (.lst []) (ws.pos.getD h 0) := by
  unfold lexH
  rw [set_self (W.n h hh), set_self (W.d h hh)]
noncomputable def rdH (lex : Addr) (σ : Hp) (B : Nat) (texts : List (List Nat)) : Nat → Hp
  | 0 => σ
  | k + 1 => lexH ((rdH lex σ B texts k).set (B + 3 * k) (.inst lex (B + 3 * k + 1))) (B + 3 * k + 1) (B + 3 * k + 2) (texts.getD k []) (.lst []) 0
theorem rdH_other {σ : Hp} : ∀ (k m : Nat), (m < B ∨ B + 3 * k ≤ m) → rdH lex σ B texts k m = σ m
  | 0, _, _ => rfl
  | k + 1, m, h => (lexH_o (by (first | lia | omega)) (by (first | lia | omega))).trans ((hp_other (by (first | lia | omega)) rfl).trans (rdH_other k m (by (first | lia | omega))))
theorem rdH_at {σ : Hp} : ∀ (k j : Nat), j < k → rdH lex σ B texts k (B + 3 * j) = some (.inst lex (B + 3 * j + 1)) ∧ rdH lex σ B texts k (B + 3 * j + 1) = some (lexO (texts.getD j []) (B + 3 * j + 2) (.lst []) 0) ∧ rdH lex σ B texts k (B + 3 * j + 2) = some (.list [.int 0])
  | k + 1, j, h => by
    by_cases e : j = k
    · subst e
      exact ⟨(lexH_o (by (first | lia | omega)) (by (first | lia | omega))).trans hp_same, lexH_d, lexH_n (by (first | lia | omega))⟩
    · obtain ⟨h1, h2, h3⟩ := rdH_at (σ := σ) k j (by (first | lia | omega))
      exact ⟨(lexH_o (by (first | lia | omega)) (by (first | lia | omega))).trans ((hp_other (by (first | lia | omega)) rfl).trans h1), (lexH_o (by (first | lia | omega)) (by (first | lia | omega))).trans ((hp_other (by (first | lia | omega)) rfl).trans h2), (lexH_o (by (first | lia | omega)) (by (first | lia | omega))).trans ((hp_other (by (first | lia | omega)) rfl).trans h3)⟩
theorem rdH_wf {σ : Hp} (h : Wf σ) : ∀ k, Wf (rdH lex σ B texts k)
  | 0 => h
  | k + 1 => ((rdH_wf h k).setI ..).lexH ..
end
end
section
set_option maxHeartbeats 400000

structure Tw (C : Cx) extends Tn C where
  wlk : Addr
  Fwlk : FnIs C wlk "_law_walks" (st2 16)
  g_rdr : GlIs C "_law_reader" (.ref rdr)
variable {C : Cx} {A : Around} {σ : Hp} {Q : MV → Hp → Prop}
noncomputable def rdL (B k : Nat) : List MV := (List.range k).map fun j => .tup [.ref (B + 3 * j), .ref (B + 3 * j + 2)]
structure FrW (B kL : Nat) (even : Bool) (lo : Loc) : Prop where
  rd : lo "readers" = some (.lst (rdL B 4))
  reads : lo "reads" = some (.ref (B + 12))
  last : lo "last" = some (.ref (B + 13))
  tree : lo "tree" = some (.ref (B + 14))
  book : lo "book" = some (.ref (B + 15))
  known : lo "known" = some (.ref kL)
  even : lo "even" = some (.bool even)
section
variable {fm : Fm} {loc : Loc}
theorem gi_n4 {h : Nat} (hh : h < 4) (q : Q (.str (nameS h)) σ) : Itm C A fm (.str "abcd") (.int (h : Nat)) loc σ Q := by
  have e : ("abcd" : Str) = S [97, 98, 99, 100] := by decide +kernel
  rw [e]
  refine gi_S (c := [97, 98, 99, 100, 122].getD h 0) (by decide) ?_ q
  cases h, hh using lt4 with
  | h0 => rfl
  | h1 => rfl
  | h2 => rfl
  | h3 => rfl
theorem gi_n5 {h : Nat} (hh : h ≤ 4) (q : Q (.str (nameS h)) σ) : Itm C A fm (.str "abcdz") (.int (h : Nat)) loc σ Q := by
  have e : ("abcdz" : Str) = S [97, 98, 99, 100, 122] := by decide +kernel
  rw [e]
  refine gi_S (c := [97, 98, 99, 100, 122].getD h 0) (by decide) ?_ q
  rcases Nat.lt_or_eq_of_le hh with hh | hh
  · cases h, hh using lt4 with
    | h0 => rfl
    | h1 => rfl
    | h2 => rfl
    | h3 => rfl
  · rw [hh]; rfl
end
theorem ex_wstep (T : Tw C) {N : Nat} {A' : Around} (hA' : Ar A' (N + 4)) {cd : Value} {L : Addr} {B kL : Nat} {even : Bool} {texts : List (List Nat)} {ws : WS} {h : Nat} {σ₀ σ' : Hp} {lo : Loc} {QS : Fl → Loc → Hp → Prop} {sv : MV}
    (W : WAt T.lex σ₀ B kL even texts ws σ') (O : StepOk texts ws h) (has : ∀ k, k < 4 → ∀ c ∈ texts.getD k [], c < 128) (htl : ∀ k, k < 4 → (texts.getD k []).length ≤ 10000) (hI : FrW B kL even lo) (hs : lo "start" = some sv) (hh : lo "here" = some (.int (h : Nat)))
    (q : ∀ lo' σ'', WAt T.lex σ₀ B kL even texts (step texts ws h).1 σ'' → FrW B kL even lo' → lo' "start" = some sv → lo' "here" = some (.int ((step texts ws h).2 : Nat)) → QS .next lo' σ'') :
    Exs C A' ⟨envC (dfScope (st2 16)) "_law_walks" cd T.wlk L, ownOf (dfScope (st2 16))⟩ (stB (nth (stB (nth (dfBody (st2 16)) 5)) 1)) lo σ' QS := by
  obtain ⟨h4, o1, o2, o3, o4, o5⟩ := O
  obtain ⟨I1, I2, I3, I4, I5, I6, I7⟩ := id hI
  obtain ⟨cn, Fn⟩ := id T.Fnea
  obtain ⟨ca, Fa⟩ := id T.Fafs
  obtain ⟨cg, Fg⟩ := id T.FG
  obtain ⟨og, fdg, hK, hdg, _⟩ := Fg.ex
  refine exs_cons ?_
  walk_at "ss"
  refine ev_methF ?_ (by rfl) (by rfl) (by rfl) (by decide)
  walk_at "ss"
  refine gi_list (l := rdL B 4) rfl (by (first | lia | omega)) (by (first | lia | omega)) (m := .tup [.ref (B + 3 * h), .ref (B + 3 * h + 2)]) ?_ ?_
  · simp [rdL, h4]
  walk_at "ss"
  refine gi_tup (m := .ref (B + 3 * h)) (by decide) (by simp) (by decide) rfl ?_
  refine ⟨_, _, T.lex, _, T.fG, rfl, T.klex, W.i h h4, W.d h h4, rfl, T.lG, T.tG, .fn hK hdg, ?_⟩
  walk_at "ss"
  refine cal_fn ?_
  generalize hlex : lexT ((texts.getD h []).drop (ws.pos.getD h 0)) = tr at *
  have hpos : (texts.getD h []).length - tr.2.length ≤ (texts.getD h []).length := by (first | lia | omega)
  rw [W.asLex h4]
  refine fn_gt T.toTl (N := N + 1) hA' (W.i h h4) (by (first | lia | omega)) (by (first | lia | omega)) (by (first | lia | omega)) (W.pos h h4) (htl h h4) W.wf rfl (fun S _ => .lst .nil) (has h h4) (tokF := tr.1) (rF := tr.2) hlex ?_
  have W1 := W.read h4 hpos
  generalize hσ1 : lexH σ' (B + 3 * h + 1) (B + 3 * h + 2) (texts.getD h []) (.lst []) ((texts.getD h []).length - tr.2.length) = σ1 at *
  clear hσ1
  generalize hv : (getK ws.kn tr.1).getD (nearF tr.1) = v at *
  have hkg := addK_get ws.kn tr.1
  rw [hv] at hkg
  have hstep : step texts ws h = ({ pos := ws.pos.set h ((texts.getD h []).length - tr.2.length), reads := ws.reads.set h (ws.reads.getD h 0 + 1), last := ws.last.set h v.2, tree := ws.tree, bk := putB ws.bk v.2 (addR ((getB ws.bk v.2).getD zeroR) h v.1), kn := addK ws.kn tr.1 }, v.2) := by
    simp only [step, hlex, hv]
  rw [hstep] at q
  walk_at "s"
  walk_at "s"
  refine ExT.mid (fun lo' σ2 => A5 (WAt T.lex σ₀ B kL even texts { ws with pos := ws.pos.set h ((texts.getD h []).length - tr.2.length), kn := addK ws.kn tr.1 } σ2) (FrW B kL even lo') (lo' "start" = some sv) (lo' "here" = some (.int (h : Nat))) (lo' "word" = some (.str (S tr.1)))) ?_ ?_
  · walk_at "ss"
    have hkd : dctOf σ1 (.ref kL) = some (rK ws.kn) := dct_ref W1.kn
    refine op_nind hkd ?_
    rw [valAt_rK]
    walk_at "ss"
    cases e : getK ws.kn tr.1 with
    | some u =>
      refine iteB (fun h => nomatch h) fun _ => ?_
      walk_at "ss"
      have : addK ws.kn tr.1 = ws.kn := by simp [addK, e]
      rw [this]
      exact ⟨rfl, W1, ⟨by walk_at "lk", by walk_at "lk", by walk_at "lk", by walk_at "lk", by walk_at "lk", by walk_at "lk", by walk_at "lk"⟩, by walk_at "lk", by walk_at "lk", by walk_at "lk"⟩
    | none =>
      refine iteB (fun _ => ?_) fun h => nomatch h
      walk_at "ss"
      refine ev_callF Fn (by kernel_rfl!) T.g_nea ?_
      walk_at "ss"
      refine fn_near T.toTn (N := N + 1) hA' o2 o1 W1.wf ?_
      walk_at "ss"
      refine set_dict W1.kn (by simp [rK]; (first | lia | omega)) ?_
      walk_at "ss"
      have e2 : addK ws.kn tr.1 = ws.kn ++ [(tr.1, nearF tr.1)] := by simp [addK, e]
      rw [e2]
      refine ⟨rfl, ?_, ⟨by walk_at "lk", by walk_at "lk", by walk_at "lk", by walk_at "lk", by walk_at "lk", by walk_at "lk", by walk_at "lk"⟩, by walk_at "lk", by walk_at "lk", by walk_at "lk"⟩
      rw [putAt_rK e]
      exact W1.setKn
  rintro lo2 σ2 ⟨W2, hI2, hs2, hh2, hw2⟩
  clear I1 I2 I3 I4 I5 I6 I7 hI hs hh
  obtain ⟨I1, I2, I3, I4, I5, I6, I7⟩ := id hI2
  walk_at "s"
  walk_at "s"
  refine ex_asg ?_ (by with_unfolding_all rfl) (by with_unfolding_all rfl) (by with_unfolding_all rfl)
  walk_at "ss"
  have hkd : dctOf σ2 (.ref kL) = some (rK (addK ws.kn tr.1)) := dct_ref W2.kn
  refine gi_dct hkd (m := .tup [.int v.1, .int (v.2 : Nat)]) (by rw [valAt_rK, hkg]; rfl) ?_
  refine st_tup2 hA'.h (.inl (by kernel_rfl!)) (.inl (by kernel_rfl!)) ?_
  walk_at "ss"
  refine ev_dct1 ?_
  walk_at "ss"
  refine gi_n4 h4 ?_
  refine ⟨_, rfl, ?_⟩
  refine EvT.mono (Q := fun m τ => m = vC even 1 v.1 ∧ σ2 = τ) ?_ ?_
  · walk_at "s"
    refine tr_val ?_
    walk_at "ss"
    refine iteB (fun h => ?_) fun h => ?_
    · subst h
      walk_at "ss"
      exact ⟨rfl, rfl⟩
    · subst h
      walk_at "ss"
      exact ⟨by show 2 ≤ _; decide, rfl, rfl⟩
  rintro _ _ ⟨rfl, rfl⟩
  walk_at "ss"
  refine gi_n5 o3 ?_
  walk_at "ss"
  refine ev_callF Fa (by kernel_rfl!) T.g_afs ?_
  refine evl_cons ?_
  have hbd : dctOf σ2 (.ref (B + 15)) = some (rB even ws.bk) := dct_ref W2.bk
  refine ev_get ?_
  walk_at "ss"
  refine ⟨_, hbd, ?_⟩
  walk_at "ss"
  refine ev_dct0 ?_
  walk_at "ss"
  refine ⟨by show 5 ≤ _; decide, _, hbd, ?_⟩
  have hrow : ((valAt (rB even ws.bk) (nameS v.2)).getD (.tup [.int 0, .int 0, .int 0, .int 0, .dct []])) = rR even ((getB ws.bk v.2).getD zeroR) := by
    rw [valAt_rB o3 W.bok.lt]
    cases getB ws.bk v.2 <;> rfl
  rw [hrow]
  obtain ⟨r1, r2⟩ := W.bok.row v.2
  have hbok := W.bok.put o3 h4 v.1
  generalize (getB ws.bk v.2).getD zeroR = row at *
  refine evl_cons ?_
  refine ev_tup ?_ (by with_unfolding_all rfl)
  refine evl_cons ?_
  refine EvT.mono (Q := fun m τ => m = .int (if v.1 = 0 then 1 else 0) ∧ σ2 = τ) ?_ ?_
  · walk_at "ss"
    refine iteB (fun h => ?_) fun h => ?_
    · have h' : v.1 = 0 := by simpa using h
      walk_at "ss"
      exact ⟨by rw [if_pos h'], rfl⟩
    · have h' : ¬ v.1 = 0 := by simpa using h
      walk_at "ss"
      exact ⟨by rw [if_neg h'], rfl⟩
  rintro _ _ ⟨rfl, rfl⟩
  walk_at "ss"
  refine op_mulB (by (first | lia | omega)) ?_
  walk_at "ss"
  refine ⟨by show 5 ≤ _; decide, ?_⟩
  walk_at "ss"
  refine fn_afs T.toTz (n := N + 2) hA' (b := even) (l := rC even row.calls) (k := nameS h) (v := vC even 1 v.1) rC_cv (by cases even <;> constructor) (rC_len r1 r2) W2.wf ?_
  rw [mergeC_rC h4 r1 r2]
  show Ev _ _ _ _ _ _ _
  walk_at "ss"
  refine set_dict W2.bk (by have := W.bok.len; simp [rB]; (first | lia | omega)) ?_
  have hput : putAt (rB even ws.bk) (nameS v.2) (.tup [.int ((if v.1 = 0 then 1 else 0) + row.a), .int (1 + row.b), .int (v.1 + row.c), .int (v.1 * v.1 + row.d), .dct (rC even (updC row.calls h v.1))]) = rB even (putB ws.bk v.2 (addR row h v.1)) :=
    putAt_rB (even := even) (r := addR row h v.1) o3 W.bok.lt
  rw [hput]
  have W3 := W2.setBk hbok
  generalize σ2.set (B + 15) (.dict (rB even (putB ws.bk v.2 (addR row h v.1)))) = σ3 at *
  walk_at "ss"
  refine gi_list (l := (nI ws.reads).map .int) (lst_ref W3.reads) (by (first | lia | omega)) (by (first | lia | omega)) (nI_at _ _ (by rw [W.l2]; (first | lia | omega))) ?_
  walk_at "ss"
  refine set_list W3.reads (by (first | lia | omega)) (by simp [nI, W.l2]; (first | lia | omega)) (by (first | lia | omega)) ?_
  have e1 : ((nI ws.reads).map MV.int).set (h : Int).toNat (.int ((ws.reads.getD h 0 : Nat) + 1)) = (nI (ws.reads.set h (ws.reads.getD h 0 + 1))).map MV.int := nI_set ws.reads h (ws.reads.getD h 0 + 1)
  rw [e1]
  have W4 := W3.setReads (l := ws.reads.set h (ws.reads.getD h 0 + 1)) (by simp [W.l2])
  generalize σ3.set (B + 12) (.list ((nI (ws.reads.set h (ws.reads.getD h 0 + 1))).map .int)) = σ4 at *
  walk_at "ss"
  refine set_list W4.last (by (first | lia | omega)) (by simp [nI, W.l3]; (first | lia | omega)) (by (first | lia | omega)) ?_
  rw [nI_set]
  have W5 := W4.setLast (l := ws.last.set h v.2) (by simp [W.l3])
  walk_at "ss"
  exact q _ _ W5 ⟨by walk_at "lk", by walk_at "lk", by walk_at "lk", by walk_at "lk", by walk_at "lk", by walk_at "lk", by walk_at "lk"⟩ (by walk_at "lk") (by walk_at "lk")
end
section
set_option maxHeartbeats 400000

variable {C : Cx} {A : Around} {σ : Hp} {Q : MV → Hp → Prop}
noncomputable def resW (even : Bool) (ws : WS) : MV := .tup [.lst ((nI ws.reads).map .int), .lst ((nI ws.last).map .int), .dct (rB even ws.bk), .lst ((nI ws.pos).map .int)]
theorem oks_ints {S : Nat → Prop} : ∀ l : List Int, Oks S (l.map .int)
  | [] => .nil
  | i :: l => .cons (.int i) (oks_ints l)
theorem frzs_ints {S : Nat → Prop} {σ : Hp} : ∀ l : List Int, Frzs S σ (l.map .int) (l.map .int)
  | [] => .nil
  | i :: l => .cons (.same (.int i)) (frzs_ints l)
theorem okd_rC {S : Nat → Prop} {even : Bool} : ∀ l : List (Nat × Int × Int), Okd S (rC even l)
  | [] => .nil
  | q :: l => .cons (by cases even; exact .tup (.cons (.int _) (.cons (.int _) .nil)); exact .int _) (okd_rC l)
theorem okd_rB {S : Nat → Prop} {even : Bool} : ∀ bk : List (Nat × Row), Okd S (rB even bk)
  | [] => .nil
  | q :: l => .cons (.tup (.cons (.int _) (.cons (.int _) (.cons (.int _) (.cons (.int _) (.cons (.dct (okd_rC _)) .nil)))))) (okd_rB l)
theorem okd_rK {S : Nat → Prop} : ∀ kn : Kn, Okd S (rK kn)
  | [] => .nil
  | q :: l => .cons (.tup (.cons (.int _) (.cons (.int _) .nil))) (okd_rK l)
theorem fn_walks (T : Tw C) {N : Nat} (hA : Ar A (N + 5)) {tL sL kL : Nat} {even : Bool} {texts : List (List Nat)} {starts : List Nat} {kn : Kn} {wsF : WS} (hw : Wf σ) (ht : σ tL = some (.list (texts.map fun l => .str (S l)))) (hs : σ sL = some (.list ((nI starts).map .int)))
    (hk : σ kL = some (.dict (rK kn))) (htk : tL ≠ kL) (hsk : sL ≠ kL) (h4 : texts.length = 4) (has : ∀ k, k < 4 → ∀ c ∈ texts.getD k [], c < 128) (htl : ∀ k, k < 4 → (texts.getD k []).length ≤ 10000)
    (hall : AllTo texts starts (ws0 kn) wsF) (q : Q (resW even wsF) (σ.set kL (.dict (rK wsF.kn)))) : Fn C A (.ref T.wlk) [.ref tL, .ref sL, .ref kL, .bool even] σ Q := by
  obtain ⟨B, hB⟩ := hw.fin
  have lt : ∀ m, σ m ≠ none → m < B := fun m hm => by
    rcases Nat.lt_or_ge m B with h | h
    · exact h
    · exact absurd (hB m h) hm
  have hkB := lt kL (by rw [hk]; simp)
  have htB := lt tL (by rw [ht]; simp)
  have hsB := lt sL (by rw [hs]; simp)
  refine fn_exit (fun m => σ m ≠ none) (fun _ h => h) ?_
  suffices h : Fn C A (.ref T.wlk) [.ref tL, .ref sL, .ref kL, .bool even] σ fun m σ₁ => m = .tup [.ref (B + 12), .ref (B + 13), .ref (B + 15), .lst ((nI wsF.pos).map .int)] ∧ WAt T.lex σ B kL even texts wsF σ₁ by
    intro g s vs r hv
    refine codeAny_mono (h g s vs r hv) ?_
    rintro r s' ⟨v, g', m, σ', e, r', hv', dd, rfl, W⟩
    refine ⟨v, g', _, _, e, r', hv', dd, resW even wsF, ?_, ?_, ?_⟩
    · have no : ∀ k, ¬ (σ (B + k) ≠ none) := fun k h => h (hB _ (by (first | lia | omega)))
      exact .tup (.cons (.lst (no 12) W.reads (frzs_ints _)) (.cons (.lst (no 13) W.last (frzs_ints _)) (.cons (.dct (no 15) W.bk (okd_rB _)) (.cons (.same (.lst (oks_ints _))) .nil))))
    · intro m o hm ho
      by_cases h1 : m = kL
      · subst m
        rw [W.kn] at ho; cases ho
        exact .inl (.dict (okd_rK _))
      · rw [W.old m (lt m hm) h1] at ho
        exact .inr ⟨ho, fun f k x e => hw.nc m f k x (e ▸ ho)⟩
    · have : restr (fun m => σ m ≠ none) σ' = σ.set kL (.dict (rK wsF.kn)) := by
        funext m
        unfold restr
        by_cases h1 : m = kL
        · subst m
          rw [if_pos (show σ kL ≠ none by rw [hk]; simp), W.kn]
          exact hp_same.symm
        · rw [show (σ.set kL (.dict (rK wsF.kn))) m = σ m from hp_other h1 rfl]
          by_cases h2 : σ m = none
          · rw [if_neg (show ¬ (σ m ≠ none) from fun h => h h2), h2]
          · rw [if_pos (show σ m ≠ none from h2), W.old m (lt m h2) h1]
      rw [this]; exact q
  clear q
  obtain ⟨cd, F⟩ := T.Fwlk
  obtain ⟨cr, Fr, _, _⟩ := id T.Crdr
  refine fn_go F hA (Loc.set (Loc.set (Loc.set (Loc.set (fun _ => none) "texts" (.ref tL)) "starts" (.ref sL)) "known" (.ref kL)) "even" (.bool even)) (ps := ["texts", "starts", "known", "even"]) (by walk_at "bind") (by kernel_rfl!) rfl rfl fun L A' KF hKF hA' => exs_cons ?_
  have hJ : ∀ k, lstOf (rdH T.lex σ B texts k) (.ref tL) = some (texts.map fun l => .str (S l)) := fun k => lst_ref ((rdH_other k tL (.inl htB)).trans ht)
  show Ex _ _ _ (.Assign _ (.ListComp _ (_ :: _) _ _) _) _ _ _
  refine ex_comp (compOk_of (by kernel_rfl!)) 4 (fun k => (texts.map fun l => MV.str (S l)).getD k .none) (fun σ' => lstOf σ' (.ref tL) = some (texts.map fun l => .str (S l))) (fun k lo σ' ys => σ' = rdH T.lex σ B texts k ∧ ys = rdL B k) ?_ (by intro g h; cases h) ?_ ?_ (.inl (by kernel_rfl!)) (by kernel_rfl!)
  · refine walk_of ?_
    walk_at "ss"
    have := walk_list (C := C) (A := A') (tg := .Name "text" ⟨148, 37, 148, 41⟩) (m := .ref tL) (σ := σ) hA'.h (hJ 0)
    rw [List.length_map, h4] at this
    exact ⟨this, rfl, rfl⟩
  · rintro L' a k lo σ' ys hk4 ⟨rfl, rfl⟩ hJ'
    refine st_name (.inl (by kernel_rfl!)) ?_
    have hit : (texts.map fun l => MV.str (S l)).getD k .none = .str (S (texts.getD k [])) := by
      have : k < texts.length := by (first | lia | omega)
      simp [List.getD, this]
    rw [hit]
    show Inn _ _ _ _ _ _ _ _ _
    refine inn_emit rfl (by simp [rdL]; (first | lia | omega)) ?_
    refine ev_callF Fr (by kernel_rfl!) T.g_rdr ?_
    walk_at "ss"
    have no : ∀ m, B + 3 * k ≤ m → rdH T.lex σ B texts k m = none := fun m hm => (rdH_other k m (.inr hm)).trans (hB m (by (first | lia | omega)))
    refine fn_rdr T.toTr2 (N := N + 1) hA' (i := B + 3 * k) (d := B + 3 * k + 1) (n := B + 3 * k + 2) (no _ (by (first | lia | omega))) (no _ (by (first | lia | omega))) (no _ (by (first | lia | omega))) (by (first | lia | omega)) (by (first | lia | omega)) (by (first | lia | omega)) ?_
    refine ⟨⟨rfl, ?_⟩, hJ (k + 1)⟩
    simp [rdL, List.range_succ]
  rintro lo₀ σ' ys ⟨rfl, rfl⟩ _
  have no : ∀ m, B + 12 ≤ m → rdH T.lex σ B texts 4 m = none := fun m hm => (rdH_other 4 m (.inr (by (first | lia | omega)))).trans (hB m (by (first | lia | omega)))
  walk_at "ss"
  refine ev_lstT (B + 12) ?_
  walk_at "ss"
  refine ⟨by show 4 ≤ _; decide, no _ (by (first | lia | omega)), ?_⟩
  walk_at "ss"
  refine ev_lstT (B + 13) ?_
  walk_at "ss"
  refine ⟨by show 4 ≤ _; decide, (hp_other (by (first | lia | omega)) (no _ (by (first | lia | omega)))), ?_⟩
  walk_at "ss"
  refine ev_lstT (B + 14) ?_
  walk_at "ss"
  refine ⟨by show 1 ≤ _; decide, (hp_other (by (first | lia | omega)) (hp_other (by (first | lia | omega)) (no _ (by (first | lia | omega))))), ?_⟩
  walk_at "ss"
  refine ev_dctT (B + 15) (hp_other (by (first | lia | omega)) (hp_other (by (first | lia | omega)) (hp_other (by (first | lia | omega)) (no _ (by (first | lia | omega)))))) ?_
  generalize hσ1 : ((((rdH T.lex σ B texts 4).set (B + 12) (.list [.int 0, .int 0, .int 0, .int 0])).set (B + 13) (.list [.int 4, .int 4, .int 4, .int 4])).set (B + 14) (.list [.int 4])).set (B + 15) (.dict []) = σ1
  have W : WAt T.lex σ B kL even texts (ws0 kn) σ1 := by
    have o : ∀ m, m < B + 12 ∨ B + 16 ≤ m → σ1 m = rdH T.lex σ B texts 4 m := fun m h => by
      rw [← hσ1]
      exact hp_other (by (first | lia | omega)) (hp_other (by (first | lia | omega)) (hp_other (by (first | lia | omega)) (hp_other (by (first | lia | omega)) rfl)))
    have p0 : ∀ k, k < 4 → [0, 0, 0, 0].getD k 0 = 0 := by decide
    refine ⟨fun k hk => (o _ (by (first | lia | omega))).trans (rdH_at 4 k hk).1, fun k hk => (o _ (by (first | lia | omega))).trans ((rdH_at 4 k hk).2.1.trans (by rw [show (ws0 kn).pos.getD k 0 = 0 from p0 k hk])), fun k hk => (o _ (by (first | lia | omega))).trans ((rdH_at 4 k hk).2.2.trans (by rw [show (ws0 kn).pos.getD k 0 = 0 from p0 k hk]; rfl)),
      ?_, ?_, ?_, ?_, (o _ (by (first | lia | omega))).trans ((rdH_other 4 _ (by (first | lia | omega))).trans hk), fun m h1 h2 => (o _ (by (first | lia | omega))).trans (rdH_other 4 _ (by (first | lia | omega))), ?_, hkB, fun m hm => (o _ (by (first | lia | omega))).trans (no _ (by (first | lia | omega))), rfl, rfl, rfl, fun k hk => by rw [show (ws0 kn).pos.getD k 0 = 0 from p0 k hk]; (first | lia | omega), ⟨by simp [ws0], by simp [ws0], by simp [ws0], by simp [ws0]⟩⟩
    · rw [← hσ1]; exact hp_other (by (first | lia | omega)) (hp_other (by (first | lia | omega)) (hp_other (by (first | lia | omega)) hp_same))
    · rw [← hσ1]; exact hp_other (by (first | lia | omega)) (hp_other (by (first | lia | omega)) hp_same)
    · rw [← hσ1]; exact hp_other (by (first | lia | omega)) hp_same
    · rw [← hσ1]; exact hp_same
    · rw [← hσ1]; exact ((((rdH_wf hw 4).setL ..).setL ..).setL ..).setD ..
  have ht1 : ∀ {ws σ'}, WAt T.lex σ B kL even texts ws σ' → lstOf σ' (.ref sL) = some ((nI starts).map .int) := fun {ws σ'} W => lst_ref ((W.old sL hsB hsk).trans hs)
  clear hσ1
  walk_at "ss"
  refine ex_for1 starts.length (fun k => ((nI starts).map MV.int).getD k .none) (fun σ' => lstOf σ' (.ref sL) = some ((nI starts).map .int)) (fun k lo σ' => ∃ ws, A3 (WAt T.lex σ B kL even texts ws σ') (AllTo texts (starts.drop k) ws wsF) (FrW B kL even lo)) (.inl (by kernel_rfl!)) ?_ ?_ ?_
  · refine walk_of ?_
    walk_at "ss"
    have := walk_list (C := C) (A := A') (tg := .Name "start" ⟨153, 8, 153, 13⟩) (m := .ref sL) (σ := σ1) hA'.h (ht1 W)
    rw [List.length_map, nI, List.length_map] at this
    exact ⟨this, ws0 kn, W, hall, ⟨by walk_at "lk", by walk_at "lk", by walk_at "lk", by walk_at "lk", by walk_at "lk", by walk_at "lk", by walk_at "lk"⟩⟩
  · rintro k K1 hK1 lo σ' hk ⟨ws, W, hal, hI⟩ hJ'
    rw [List.drop_eq_getElem_cons hk] at hal
    have hit : ((nI starts).map MV.int).getD k .none = .int (starts[k] : Nat) := by simp [nI, List.getD, hk]
    rw [hit]
    generalize starts[k] = st at *
    obtain ⟨n, m, ws1, t, hst, hwk, htr, hal'⟩ := hal.inv
    obtain ⟨I1, I2, I3, I4, I5, I6, I7⟩ := id hI
    walk_at "ss"
    refine ex_whileL (fun n lo σ' => ∃ ws h, A5 (WAt T.lex σ B kL even texts ws σ') (WalkTo texts n ws h ws1) (FrW B kL even lo) (lo "start" = some (.int (st : Nat))) (lo "here" = some (.int (h : Nat)))) ?_ n ⟨ws, st, W, hwk, ⟨by walk_at "lk", by walk_at "lk", by walk_at "lk", by walk_at "lk", by walk_at "lk", by walk_at "lk", by walk_at "lk"⟩, by walk_at "lk", by walk_at "lk"⟩
    clear I1 I2 I3 I4 I5 I6 I7 hI W hwk
    rintro n K2 K3 hK2 hK3 lo σ' ⟨ws, h, W, hwk, hI, hs1, hh1⟩
    obtain ⟨I1, I2, I3, I4, I5, I6, I7⟩ := id hI
    walk_at "ss"
    refine op_nini (ns := nI ws.tree) (lst_ref W.tree) ?_
    rw [nI_any]
    walk_at "ss"
    refine iteB (fun hb => ?_) fun hb => ?_
    · have hb' : h ∉ ws.tree := by simpa using hb
      obtain ⟨n', hn', hok, hwk'⟩ := hwk.go hb'
      refine ex_wstep T (N := N) hA' W hok has htl hI hs1 hh1 fun lo' σ'' W' hI' hs' hh' => ?_
      exact hK2 _ _ _ (lp_next ⟨n', hn', _, _, W', hwk', hI', hs', hh'⟩)
    · have hb' : h ∈ ws.tree := by simpa using hb
      obtain rfl := hwk.stop hb'
      walk_at "ss"
      refine ex_whileL (fun n lo σ' => ∃ t' h, A5 (WAt T.lex σ B kL even texts { ws1 with tree := t' } σ') (TreeTo ws1.last n t' h t) (FrW B kL even lo) (lo "start" = some (.int (st : Nat))) (lo "here" = some (.int (h : Nat)))) ?_ m ⟨ws1.tree, st, W, htr, ⟨by walk_at "lk", by walk_at "lk", by walk_at "lk", by walk_at "lk", by walk_at "lk", by walk_at "lk", by walk_at "lk"⟩, by walk_at "lk", by walk_at "lk"⟩
      clear I1 I2 I3 I4 I5 I6 I7 hI W htr hs1 hh1 hb hb'
      rintro n K4 K5 hK4 hK5 lo σ' ⟨t', h, W, htr, hI, hs1, hh1⟩
      obtain ⟨I1, I2, I3, I4, I5, I6, I7⟩ := id hI
      walk_at "ss"
      refine op_nini (ns := nI t') (lst_ref W.tree) ?_
      rw [nI_any]
      walk_at "ss"
      refine iteB (fun hb => ?_) fun hb => ?_
      · have hb' : h ∉ t' := by simpa using hb
        obtain ⟨n', hn', h4', hl', htr'⟩ := htr.go hb'
        walk_at "ss"
        refine ev_append ?_
        walk_at "ss"
        refine ⟨_, _, rfl, W.tree, ?_⟩
        walk_at "ss"
        refine ⟨_, W.tree, by simp [nI]; (first | lia | omega), ?_⟩
        have e : (nI t').map MV.int ++ [.int (h : Nat)] = (nI (t' ++ [h])).map MV.int := by simp [nI]
        rw [e]
        have W2 := W.setTree (l := t' ++ [h])
        walk_at "ss"
        refine gi_list (l := (nI ws1.last).map .int) (lst_ref W2.last) (by (first | lia | omega)) (by (first | lia | omega)) (nI_at _ _ (by rw [W.l3]; (first | lia | omega))) ?_
        walk_at "ss"
        exact ⟨n', hn', _, _, W2, htr', ⟨by walk_at "lk", by walk_at "lk", by walk_at "lk", by walk_at "lk", by walk_at "lk", by walk_at "lk", by walk_at "lk"⟩, by walk_at "lk", by walk_at "lk"⟩
      · have hb' : h ∈ t' := by simpa using hb
        obtain rfl := htr.stop hb'
        walk_at "ss"
        exact ⟨⟨_, W, hal', hI⟩, ht1 W⟩
  · rintro lo σ' ⟨ws, W, hal, hI⟩ _
    rw [List.drop_length] at hal
    obtain rfl := hal.stop
    obtain ⟨I1, I2, I3, I4, I5, I6, I7⟩ := id hI
    walk_at "ss"
    refine ev_comp (compOk_of (by kernel_rfl!)) 4 (fun k => (rdL B 4).getD k .none) (fun σ'' => lstOf σ'' (.lst (rdL B 4)) = some (rdL B 4)) (fun k lo σ'' ys => σ'' = σ' ∧ ys = ((nI wsF.pos).map .int).take k) ?_ (by intro g h; cases h) ?_ ?_
    · refine walk_of ?_
      walk_at "ss"
      exact ⟨walk_list hA'.h rfl, rfl, rfl⟩
    · rintro L' a k lo σ'' ys hk4 ⟨rfl, rfl⟩ hJ'
      have hit : (rdL B 4).getD k .none = .tup [.ref (B + 3 * k), .ref (B + 3 * k + 2)] := by simp [rdL, List.getD, hk4]
      rw [hit]
      refine st_tup2 hA'.h (.inl (by kernel_rfl!)) (.inl (by kernel_rfl!)) ?_
      show Inn _ _ _ _ _ _ _ _ _
      refine inn_emit rfl (by simp; (first | lia | omega)) ?_
      walk_at "ss"
      refine gi_one (W.n k hk4) ?_
      refine ⟨⟨rfl, ?_⟩, rfl⟩
      rw [List.take_add_one]
      have : ((nI wsF.pos).map MV.int)[k]? = some (.int (wsF.pos.getD k 0 : Nat)) := nI_at _ k (by rw [W.l1]; (first | lia | omega))
      rw [this]; rfl
    rintro lo σ'' ys ⟨rfl, rfl⟩ _
    refine ⟨by show 4 ≤ _; decide, hKF _ _ _ ⟨?_, W⟩⟩
    have : ((nI wsF.pos).map MV.int).take 4 = (nI wsF.pos).map MV.int := List.take_of_length_le (by simp [nI, W.l1])
    simp only [retOf_ret, this]
end
section
noncomputable def kOf (n : Nat) : Nat := n / 5 % 4
noncomputable def gOf (n : Nat) : Nat := n % 5
noncomputable def nmC (g : Nat) : Nat := [97, 98, 99, 100, 122].getD g 0
noncomputable def sgC (w : Nat) : Nat := [32, 34, 92, 35].getD w 0
noncomputable def wordOf (w n : Nat) : List Nat := [[nmC (gOf n)], [nmC (gOf n) - 32], [nmC (gOf n), sgC w], [sgC w, nmC (gOf n) - 32]].getD (kOf n) []
noncomputable def escA (c : Nat) : List Nat := [92, c]
noncomputable def escQ (c : Nat) : List Nat := if c = 34 ∨ c = 92 then [92, c] else [c]
noncomputable def bodyOf (w n : Nat) : List Nat := if 20 ≤ n then (wordOf w n).flatMap escA ++ [10] else [34] ++ (wordOf w n).flatMap escQ ++ [34]
noncomputable def tailOf (n : Nat) : List Nat := if 20 ≤ n then [] else [32]
noncomputable def numOf (dr : List Nat) (w k : Nat) : Nat := dr.getD (3 * w + k) 0
noncomputable def textK (dr : List Nat) (w : Nat) : Nat → List Nat
  | 0 => []
  | k + 1 => textK dr w k ++ bodyOf w (numOf dr w k) ++ tailOf (numOf dr w k)
theorem textK_zero (dr : List Nat) (w : Nat) : textK dr w 0 = [] := rfl
theorem textK_succ (dr : List Nat) (w k : Nat) : textK dr w (k + 1) = textK dr w k ++ bodyOf w (numOf dr w k) ++ tailOf (numOf dr w k) := rfl
noncomputable def stopK (dr : List Nat) (w : Nat) : Nat → Nat
  | 0 => 0
  | k + 1 => (textK dr w k ++ bodyOf w (numOf dr w k)).length
noncomputable def textOf (dr : List Nat) (w : Nat) : List Nat := textK dr w 3
noncomputable def endsOf (dr : List Nat) (w : Nat) : List Nat := (List.range 4).map (stopK dr w) ++ [(textOf dr w).length]
noncomputable def arrK (dr : List Nat) (w k : Nat) : List (Nat × Nat) := (List.range k).map fun j => (kOf (numOf dr w j), gOf (numOf dr w j))
noncomputable def dueOf (dr : List Nat) (w : Nat) : List (Nat × Nat) := arrK dr w 3 ++ [(0, 4)]
noncomputable def pV (p : Nat × Nat) : MV := .tup [.int (p.1 : Nat), .int (p.2 : Nat)]
noncomputable def dueV (dr : List Nat) (w : Nat) : MV := .lst ((dueOf dr w).map pV)
noncomputable def endsV (dr : List Nat) (w : Nat) : MV := .lst ((nI (endsOf dr w)).map .int)
noncomputable def topsOf (dr thr : List Nat) : List Nat := (List.range 4).map fun w => ((dueOf dr w).getD (thr.getD w 0) (0, 4)).2
noncomputable def goRing (tops : List Nat) (w : Nat) : Nat → Nat
  | 0 => tops.getD w 0
  | k + 1 => if goRing tops w k ≠ w ∧ goRing tops w k ≠ 4 then tops.getD (goRing tops w k) 0 else goRing tops w k
theorem goRing_zero (tops : List Nat) (w : Nat) : goRing tops w 0 = tops.getD w 0 := rfl
theorem goRing_succ (tops : List Nat) (w k : Nat) : goRing tops w (k + 1) = if goRing tops w k ≠ w ∧ goRing tops w k ≠ 4 then tops.getD (goRing tops w k) 0 else goRing tops w k := rfl
noncomputable def onRing (tops : List Nat) (w : Nat) : Bool := goRing tops w 3 == w
noncomputable def ringsK (tops : List Nat) (k : Nat) : List Nat := (List.range k).filter (onRing tops)
noncomputable def ringsOf (tops : List Nat) : List Nat := ringsK tops 4
noncomputable def incr (thr : List Nat) (w : Nat) : List Nat := thr.set w (thr.getD w 0 + 1)
inductive PopTo (dr : List Nat) : Nat → List Nat → List Nat → Prop
  | done {thr : List Nat} : (∀ w, w < 4 → thr.getD w 0 ≤ 3) → ringsOf (topsOf dr thr) = [] → PopTo dr 0 thr thr
  | step {n : Nat} {thr thr' : List Nat} : (∀ w, w < 4 → thr.getD w 0 ≤ 3) → ringsOf (topsOf dr thr) ≠ [] → PopTo dr n ((ringsOf (topsOf dr thr)).foldl incr thr) thr' → PopTo dr (n + 1) thr thr'
theorem PopTo.go {dr : List Nat} {n : Nat} {thr thr' : List Nat} (p : PopTo dr n thr thr') (hn : ringsOf (topsOf dr thr) ≠ []) :
    ∃ m, m < n ∧ PopTo dr m ((ringsOf (topsOf dr thr)).foldl incr thr) thr' := by
  cases p with
  | done _ e => exact absurd e hn
  | step _ _ b => exact ⟨_, Nat.lt_succ_self _, b⟩
theorem PopTo.stop {dr : List Nat} {n : Nat} {thr thr' : List Nat} (p : PopTo dr n thr thr') (hn : ringsOf (topsOf dr thr) = []) : thr' = thr := by
  cases p with
  | done _ _ => rfl
  | step _ e _ => exact absurd hn e
noncomputable def hitsOf (dr thr : List Nat) (g : Nat) : List (Nat × Nat) := (List.range 4).flatMap fun w => (((dueOf dr w).take (thr.getD w 0 + 1)).filter fun p => p.2 == g).map fun p => (w, p.1)
noncomputable def kindsOf (hits : List (Nat × Nat)) (w : Nat) : List Nat := (hits.filter fun p => p.1 == w).map (·.2)
noncomputable def callsK (hits : List (Nat × Nat)) (k : Nat) : List (Nat × Int × Int) := (List.range k).filterMap fun w => if kindsOf hits w = [] then none else some (w, ((kindsOf hits w).length : Int), ((kindsOf hits w).sum : Nat))
noncomputable def rowOf (hits : List (Nat × Nat)) : Row := ⟨((((hits.map (·.2)).filter (· == 0)).length : Nat) : Int), (hits.length : Nat), ((hits.map (·.2)).sum : Nat), (((hits.map (·.2)).map fun k => k * k).sum : Nat), callsK hits 4⟩
noncomputable def profK (dr thr : List Nat) (k : Nat) : List (Nat × Row) := (List.range k).filterMap fun g => if hitsOf dr thr g = [] then none else some (g, rowOf (hitsOf dr thr g))
structure DrOk (dr : List Nat) : Prop where
  len : dr.length = 12
  lt : ∀ x ∈ dr, x < 40
theorem DrOk.num {dr : List Nat} (h : DrOk dr) {w k : Nat} (hw : w < 4) (hk : k < 3) : numOf dr w k < 40 := by
  have hl : 3 * w + k < dr.length := by rw [h.len]; (first | lia | omega)
  unfold numOf
  rw [List.getD_eq_getElem?_getD, List.getElem?_eq_getElem hl]
  exact h.lt _ (List.getElem_mem hl)
theorem word_asc : ∀ w, w < 4 → ∀ n, n < 40 → ∀ c ∈ bodyOf w n ++ tailOf n, c < 128 := by decide +kernel
theorem word_len : ∀ w, w < 4 → ∀ n, n < 40 → (bodyOf w n ++ tailOf n).length ≤ 10 := by decide +kernel
theorem textK_asc {dr : List Nat} (h : DrOk dr) {w : Nat} (hw : w < 4) : ∀ k, k ≤ 3 → ∀ c ∈ textK dr w k, c < 128
  | 0, _, c, hc => by cases hc
  | k + 1, hk, c, hc => by
    rw [textK_succ, List.append_assoc] at hc
    rcases List.mem_append.mp hc with hc | hc
    · exact textK_asc h hw k (by (first | lia | omega)) c hc
    · exact word_asc w hw _ (h.num hw (by (first | lia | omega))) c hc
theorem textK_len {dr : List Nat} (h : DrOk dr) {w : Nat} (hw : w < 4) : ∀ k, k ≤ 3 → (textK dr w k).length ≤ 10 * k
  | 0, _ => by simp [textK_zero]
  | k + 1, hk => by
    rw [textK_succ, List.append_assoc, List.length_append]
    have := textK_len h hw k (by (first | lia | omega))
    have := word_len w hw _ (h.num (k := k) hw (by (first | lia | omega)))
    (first | lia | omega)
end
section
theorem can_own {fm : Fm} {x : Str} (h : fm.own.contains x = true) : canSt fm x := .inr (by simpa using h)
theorem cutL_nat {α : Type} (l : List α) (a b : Nat) : cutL l (some (a : Int)) (some (b : Int)) none = (l.drop a).take (b - a) := by
  unfold cutL slIdx
  rw [sliceBounds_plain]
  simp only [Option.elim_some, clipAt_nat, sliceRange_one]
  rw [pick_range _ _ _ (Nat.min_le_right ..)]
  rcases Nat.le_total a l.length with h | h
  · rw [Nat.min_eq_left h]
    rcases Nat.le_total b l.length with h' | h'
    · rw [Nat.min_eq_left h']
    · rw [Nat.min_eq_right h', List.take_of_length_le (i := l.length - a) (by simp), List.take_of_length_le (i := b - a) (by simp; (first | lia | omega))]
  · rw [Nat.min_eq_right h, List.drop_eq_nil_of_le (Nat.le_refl _), List.drop_eq_nil_of_le h]
    simp
theorem cutL_take {α : Type} (l : List α) (k : Nat) : cutL l none (some (k : Int)) none = l.take k := by
  unfold cutL slIdx
  rw [sliceBounds_plain]
  simp only [Option.elim_some, Option.elim_none, clipAt_nat, sliceRange_one]
  rw [pick_range _ _ _ (Nat.min_le_right ..)]
  simp only [List.drop_zero, Nat.sub_zero]
  rcases Nat.le_total k l.length with h | h
  · rw [Nat.min_eq_left h]
  · rw [Nat.min_eq_right h, List.take_of_length_le (Nat.le_refl _), List.take_of_length_le h]
theorem up_ok : ∀ g, g < 5 → Txt.upper (S [nmC g]) = S [nmC g - 32] ∧ Builtin.Str.tooLong (Txt.upper (S [nmC g])).length = false := by decide +kernel
theorem join_ok : ∀ w, w < 4 → ∀ n, n < 40 → JoinOk "" ((wordOf w n).map fun c => S (escA c)) = true ∧ Txt.join "" ((wordOf w n).map fun c => S (escA c)) = S ((wordOf w n).flatMap escA) ∧
    JoinOk "" ((wordOf w n).map fun c => S (escQ c)) = true ∧ Txt.join "" ((wordOf w n).map fun c => S (escQ c)) = S ((wordOf w n).flatMap escQ) := by decide +kernel
theorem esc_ok : ∀ c, c < 128 → Txt.contains (S [34, 92]) (S [c]) = decide (c = 34 ∨ c = 92) := by decide +kernel
theorem word_ok : ∀ w, w < 4 → ∀ n, n < 40 → (∀ c ∈ wordOf w n, c < 128) ∧ (wordOf w n).length ≤ 2 := by decide +kernel
theorem map_take1 {β : Type} (f : Nat → β) (l : List Nat) {i : Nat} (hi : i < l.length) : (l.take i).map f ++ [f (l.getD i 0)] = (l.take (i + 1)).map f := by
  rw [List.take_add_one, List.getElem?_eq_getElem hi, List.map_append, List.getD_eq_getElem?_getD, List.getElem?_eq_getElem hi]; rfl
structure LS (dr : List Nat) (k : Nat) (σ : Hp) : Prop where
  d0 : σ 0 = some (.list ((nI dr).map .int))
  due : σ 1 = some (.list ((List.range k).map (dueV dr)))
  txt : σ 2 = some (.list ((List.range k).map fun w => .str (S (textOf dr w))))
  ends : σ 3 = some (.list ((List.range k).map (endsV dr)))
  wf : Wf σ
theorem LS.keep {dr : List Nat} {k : Nat} {σ σ' : Hp} (h : LS dr k σ) (hk : ∀ m, m < 4 → σ' m = σ m) (hw : Wf σ') : LS dr k σ' :=
  ⟨(hk 0 (by decide)).trans h.d0, (hk 1 (by decide)).trans h.due, (hk 2 (by decide)).trans h.txt, (hk 3 (by decide)).trans h.ends, hw⟩
theorem LS.no {dr : List Nat} {k : Nat} {σ : Hp} (h : LS dr k σ) {ℓ : Nat} (hℓ : σ ℓ = none) : 4 ≤ ℓ := by
  rcases Nat.lt_or_ge ℓ 4 with q | q
  · cases ℓ, q using lt4 with
    | h0 => rw [h.d0] at hℓ; cases hℓ
    | h1 => rw [h.due] at hℓ; cases hℓ
    | h2 => rw [h.txt] at hℓ; cases hℓ
    | h3 => rw [h.ends] at hℓ; cases hℓ
  · exact q
theorem LS.set {dr : List Nat} {k : Nat} {σ : Hp} (h : LS dr k σ) {ℓ : Nat} (hℓ : 4 ≤ ℓ) {o : MO} (ho : ∀ f k x, o ≠ .citer false f k x) : LS dr k (σ.set ℓ o) := h.keep (fun m hm => hp_other (by (first | lia | omega)) rfl) (h.wf.set _ _ ho)
end
section
theorem dueOf_at (dr : List Nat) (w k : Nat) : ((dueOf dr w).getD k (0, 4)).2 ≤ 4 := by
  rw [List.getD_eq_getElem?_getD]
  cases h : (dueOf dr w)[k]? with
  | none => exact Nat.le_refl _
  | some p =>
    have := List.mem_of_getElem? h
    rcases List.mem_append.mp this with q | q
    · obtain ⟨j, _, rfl⟩ := List.mem_map.mp q
      exact Nat.le_of_lt_succ (Nat.mod_lt _ (by decide))
    · rw [List.mem_singleton.mp q]; exact Nat.le_refl _
theorem topsOf_len (dr thr : List Nat) : (topsOf dr thr).length = 4 := by simp [topsOf]
theorem topsOf_at (dr thr : List Nat) {w : Nat} (hw : w < 4) : (topsOf dr thr).getD w 0 = ((dueOf dr w).getD (thr.getD w 0) (0, 4)).2 := by
  simp [topsOf, List.getD, hw]
theorem topsOf_le (dr thr : List Nat) (w : Nat) : (topsOf dr thr).getD w 0 ≤ 4 := by
  rcases Nat.lt_or_ge w 4 with h | h
  · rw [topsOf_at dr thr h]; exact dueOf_at ..
  · rw [List.getD_eq_getElem?_getD, List.getElem?_eq_none (by rw [topsOf_len]; exact h)]; decide
theorem goRing_le {tops : List Nat} (h : ∀ w, tops.getD w 0 ≤ 4) (w : Nat) : ∀ k, goRing tops w k ≤ 4
  | 0 => h w
  | k + 1 => by
    rw [goRing_succ]
    split
    · exact h _
    · exact goRing_le h w k
theorem incr_len (thr : List Nat) (w : Nat) : (incr thr w).length = thr.length := by simp [incr]
theorem foldl_incr_len (l : List Nat) : ∀ thr : List Nat, (l.foldl incr thr).length = thr.length := by
  induction l with
  | nil => intro _; rfl
  | cons x l ih => intro thr; rw [List.foldl_cons, ih, incr_len]
theorem ringsK_lt {tops : List Nat} {k x : Nat} (h : x ∈ ringsK tops k) : x < k := by
  have := (List.mem_filter.mp h).1
  simpa using this
theorem nI_at' (l : List Nat) (h : Nat) (hh : h < l.length) : ((nI l).map MV.int)[h]? = some (.int (l.getD h 0 : Nat)) := by
  simp [nI, List.getD, hh]
theorem nI_get (l : List Nat) (h : Nat) (hh : h < l.length) : ((nI l).map MV.int).getD h .none = .int (l.getD h 0 : Nat) := by
  rw [List.getD_eq_getElem?_getD, nI_at' l h hh]; rfl
theorem map_at {α β : Type} (f : α → β) (l : List α) (d : α) {i : Nat} (h : i < l.length) : (l.map f)[i]? = some (f (l.getD i d)) := by
  rw [List.getElem?_map, List.getElem?_eq_getElem h]; simp [List.getD, h]
theorem dueOf_len (dr : List Nat) (w : Nat) : (dueOf dr w).length = 4 := by simp [dueOf, arrK]
end
section
noncomputable def hitW (dr thr : List Nat) (g w : Nat) : List (Nat × Nat) := (((dueOf dr w).take (thr.getD w 0 + 1)).filter fun p => p.2 == g).map fun p => (w, p.1)
noncomputable def hitsK (dr thr : List Nat) (g k : Nat) : List (Nat × Nat) := (List.range k).flatMap (hitW dr thr g)
theorem hitsOf_K (dr thr : List Nat) (g : Nat) : hitsOf dr thr g = hitsK dr thr g 4 := rfl
theorem hitsK_succ (dr thr : List Nat) (g k : Nat) : hitsK dr thr g (k + 1) = hitsK dr thr g k ++ hitW dr thr g k := by simp [hitsK, List.range_succ]
theorem hitW_mem {dr thr : List Nat} {g w : Nat} {p : Nat × Nat} (h : p ∈ hitW dr thr g w) : p.2 ≤ 3 := by
  obtain ⟨q, hq, rfl⟩ := List.mem_map.mp h
  have := List.mem_of_mem_take (List.mem_filter.mp hq).1
  rcases List.mem_append.mp this with q' | q'
  · obtain ⟨j, _, rfl⟩ := List.mem_map.mp q'
    exact Nat.le_of_lt_succ (Nat.mod_lt _ (by decide))
  · rw [List.mem_singleton.mp q']; exact Nat.zero_le _
theorem hitW_len (dr thr : List Nat) (g w : Nat) : (hitW dr thr g w).length ≤ 4 := by
  unfold hitW
  rw [List.length_map]
  exact Nat.le_trans (List.length_filter_le _ _) (by rw [List.length_take, dueOf_len]; (first | lia | omega))
theorem hitsK_len (dr thr : List Nat) (g : Nat) : ∀ k, (hitsK dr thr g k).length ≤ 4 * k
  | 0 => by simp [hitsK]
  | k + 1 => by rw [hitsK_succ, List.length_append]; have := hitsK_len dr thr g k; have := hitW_len dr thr g k; (first | lia | omega)
theorem hitsK_mem {dr thr : List Nat} {g : Nat} {p : Nat × Nat} : ∀ {k}, p ∈ hitsK dr thr g k → p.2 ≤ 3
  | k, h => by
    obtain ⟨w, _, hw⟩ := List.mem_flatMap.mp h
    exact hitW_mem hw
theorem take_snoc {α : Type} (l : List α) (d : α) {j : Nat} (h : j < l.length) : l.take (j + 1) = l.take j ++ [l.getD j d] := by
  rw [List.take_add_one, List.getElem?_eq_getElem h]; simp [List.getD, h]
theorem sum_le {l : List Nat} {b : Nat} (h : ∀ x ∈ l, x ≤ b) : l.sum ≤ b * l.length := by
  induction l with
  | nil => simp
  | cons x l ih =>
    have := ih fun y hy => h y (.tail _ hy)
    have := h x (.head _)
    rw [List.sum_cons, List.length_cons, Nat.mul_add]; (first | lia | omega)
theorem nI_sum (l : List Nat) : (nI l).sum = ((l.sum : Nat) : Int) := by
  induction l with
  | nil => rfl
  | cons x l ih =>
    show (x : Int) + (nI l).sum = _
    rw [ih, List.sum_cons]; push_cast; rfl
theorem nI_take (l : List Nat) (k : Nat) : (nI l).take k = nI (l.take k) := by simp [nI, List.map_take]
theorem inLong_small {i : Int} (h0 : 0 ≤ i) (h1 : i < 1000000000) : InLong i := by
  unfold InLong
  have : (2 : Int) ^ 63 = 9223372036854775808 := rfl
  (first | lia | omega)
theorem kindsOf_append (a b : List (Nat × Nat)) (w : Nat) : kindsOf (a ++ b) w = kindsOf a w ++ kindsOf b w := by simp [kindsOf]
theorem kindsOf_le {l : List (Nat × Nat)} (h : ∀ p ∈ l, p.2 ≤ 3) (w : Nat) : ∀ x ∈ kindsOf l w, x ≤ 3 := by
  intro x hx
  obtain ⟨p, hp, rfl⟩ := List.mem_map.mp hx
  exact h p (List.mem_filter.mp hp).1
theorem kindsOf_len (l : List (Nat × Nat)) (w : Nat) : (kindsOf l w).length ≤ l.length := by simp [kindsOf]; exact List.length_filter_le _ _
theorem callsK_succ (h : List (Nat × Nat)) (k : Nat) : callsK h (k + 1) = callsK h k ++ (if kindsOf h k = [] then [] else [(k, ((kindsOf h k).length : Int), (((kindsOf h k).sum : Nat) : Int))]) := by
  unfold callsK
  rw [List.range_succ, List.filterMap_append]
  congr 1
  by_cases e : kindsOf h k = []
  · simp [e]
  · simp [e]
theorem callsK_lt {h : List (Nat × Nat)} {k : Nat} {c : Nat × Int × Int} (hc : c ∈ callsK h k) : c.1 < k := by
  obtain ⟨w, hw, e⟩ := List.mem_filterMap.mp hc
  split at e
  · cases e
  · cases e; simpa using hw
theorem putAt_new {l : List (Str × MV)} {k : Str} {v : MV} (h : k ∉ l.map (·.1)) : putAt l k v = l ++ [(k, v)] := by
  induction l with
  | nil => rfl
  | cons p l ih =>
    simp only [List.map_cons, List.mem_cons, not_or] at h
    obtain ⟨y, u⟩ := p
    show (if y = k then _ else _) = _
    rw [if_neg (fun e => h.1 e.symm), ih h.2]; rfl
theorem callsK_len (h : List (Nat × Nat)) (k : Nat) : (callsK h k).length ≤ k := by
  unfold callsK
  exact Nat.le_trans (List.length_filterMap_le _ _) (by simp)
theorem putAt_calls {even : Bool} {h : List (Nat × Nat)} {k : Nat} (hk : k < 4) (hne : kindsOf h k ≠ []) : putAt (rC even (callsK h k)) (nameS k) (vC even ((kindsOf h k).length : Int) (((kindsOf h k).sum : Nat) : Int)) = rC even (callsK h (k + 1)) := by
  rw [putAt_new, callsK_succ, if_neg hne]
  · simp [rC, vC]
  · intro hm
    obtain ⟨q, hq, e⟩ := List.mem_map.mp hm
    obtain ⟨c, hc, rfl⟩ := List.mem_map.mp hq
    have := callsK_lt hc
    have := nameS_inj (by (first | lia | omega)) (by (first | lia | omega)) e
    (first | lia | omega)
theorem profK_succ (dr thr : List Nat) (k : Nat) : profK dr thr (k + 1) = profK dr thr k ++ (if hitsOf dr thr k = [] then [] else [(k, rowOf (hitsOf dr thr k))]) := by
  unfold profK
  rw [List.range_succ, List.filterMap_append]
  congr 1
  by_cases e : hitsOf dr thr k = []
  · simp [e]
  · simp [e]
theorem profK_lt {dr thr : List Nat} {k : Nat} {c : Nat × Row} (hc : c ∈ profK dr thr k) : c.1 < k := by
  obtain ⟨w, hw, e⟩ := List.mem_filterMap.mp hc
  split at e
  · cases e
  · cases e; simpa using hw
noncomputable def PfD (even : Bool) (pL : Nat) (σ : Hp) : List (Str × MV) → List (Nat × Row) → Prop
  | [], [] => True
  | (k, m) :: D, (g, r) :: P => k = nameS g ∧ (∃ c, c ≠ pL ∧ m = .tup [.int r.a, .int r.b, .int r.c, .int r.d, .ref c] ∧ σ c = some (.dict (rC even r.calls))) ∧ PfD even pL σ D P
  | _, _ => False
theorem PfD.keep {even : Bool} {pL : Nat} {σ σ' : Hp} (h : ∀ c, c ≠ pL → σ c ≠ none → σ' c = σ c) {D : List (Str × MV)} : ∀ {P : List (Nat × Row)}, PfD even pL σ D P → PfD even pL σ' D P := by
  induction D with
  | nil => intro P; cases P <;> exact id
  | cons q D ih =>
    rcases q with ⟨k, m⟩
    rintro (_ | ⟨⟨g, r⟩, P⟩)
    · exact id
    rintro ⟨e, ⟨c, hc, hm, hs⟩, hr⟩
    exact ⟨e, ⟨c, hc, hm, (h c hc (by rw [hs]; intro e; cases e)).trans hs⟩, ih hr⟩
theorem PfD.snoc {even : Bool} {pL : Nat} {σ : Hp} {g : Nat} {r : Row} {c : Nat} (hc : c ≠ pL) (hs : σ c = some (.dict (rC even r.calls))) {D : List (Str × MV)} : ∀ {P : List (Nat × Row)}, PfD even pL σ D P →
    PfD even pL σ (D ++ [(nameS g, .tup [.int r.a, .int r.b, .int r.c, .int r.d, .ref c])]) (P ++ [(g, r)]) := by
  induction D with
  | nil =>
    intro P hp
    cases P with
    | nil => exact ⟨rfl, ⟨c, hc, rfl, hs⟩, trivial⟩
    | cons p P => exact False.elim hp
  | cons q D ih =>
    rcases q with ⟨k, m⟩
    rintro (_ | ⟨⟨g', r'⟩, P⟩)
    · exact fun hp => False.elim hp
    rintro ⟨e, h, hr⟩
    exact ⟨e, h, ih hr⟩
theorem PfD.keys {even : Bool} {pL : Nat} {σ : Hp} {D : List (Str × MV)} : ∀ {P : List (Nat × Row)}, PfD even pL σ D P → D.map (·.1) = P.map fun q => nameS q.1 := by
  induction D with
  | nil =>
    intro P hp
    cases P with
    | nil => rfl
    | cons p P => exact False.elim hp
  | cons q D ih =>
    rcases q with ⟨k, m⟩
    rintro (_ | ⟨⟨g', r'⟩, P⟩)
    · exact fun hp => False.elim hp
    rintro ⟨e, h, hr⟩
    rw [List.map_cons, List.map_cons, ih hr, e]
theorem okd_rC' {S : Nat → Prop} {even : Bool} (l : List (Nat × Int × Int)) : Okd S (rC even l) := by
  induction l with
  | nil => exact .nil
  | cons q l ih => exact .cons (by cases even; exact .tup (.cons (.int _) (.cons (.int _) .nil)); exact .int _) ih
theorem fzd_same {σ : Hp} {l : List (Str × MV)} : Okd (fun _ => False) l → Fzd σ l l := by
  induction l with
  | nil => exact fun _ => .nil
  | cons q l ih =>
    intro h
    cases h with
    | cons a b => exact .cons (.ok a) (ih b)
theorem PfD.fz {even : Bool} {pL : Nat} {σ : Hp} {D : List (Str × MV)} : ∀ {P : List (Nat × Row)}, PfD even pL σ D P → Fzd σ D (rB even P) := by
  induction D with
  | nil =>
    intro P hp
    cases P with
    | nil => exact .nil
    | cons p P => exact False.elim hp
  | cons q D ih =>
    rcases q with ⟨k, m⟩
    rintro (_ | ⟨⟨g, r⟩, P⟩)
    · exact fun hp => False.elim hp
    rintro ⟨e, ⟨c, hc, hm, hs⟩, hr⟩
    subst e; subst hm
    exact .cons (.tup (.cons (.ok (.int _)) (.cons (.ok (.int _)) (.cons (.ok (.int _)) (.cons (.ok (.int _)) (.cons (.dct hs (fzd_same (okd_rC' _))) .nil)))))) (ih hr)
end
section
noncomputable def getC (l : List (Nat × Int × Int)) (h : Nat) : Option (Int × Int) := match l with
  | [] => none
  | (k, v) :: l => if k = h then some v else getC l h
theorem getC_nil (h : Nat) : getC [] h = none := rfl
theorem getC_cons (k : Nat) (v : Int × Int) (l : List (Nat × Int × Int)) (h : Nat) : getC ((k, v) :: l) h = if k = h then some v else getC l h := rfl
noncomputable def SameC (l l' : List (Nat × Int × Int)) : Prop := l.length = l'.length ∧ ∀ c ∈ l, getC l' c.1 = some c.2
structure SameR (r r' : Row) : Prop where
  a : r.a = r'.a
  b : r.b = r'.b
  c : r.c = r'.c
  d : r.d = r'.d
  calls : SameC r.calls r'.calls
noncomputable def SameB (bk bk' : List (Nat × Row)) : Prop := bk.length = bk'.length ∧ ∀ q ∈ bk, ∃ r', getB bk' q.1 = some r' ∧ SameR q.2 r'
structure GoodW (dr thr : List Nat) (ws : WS) : Prop where
  reads : ws.reads = thr.map (· + 1)
  last : ws.last = topsOf dr thr
  pos : ws.pos = (List.range 4).map fun w => (endsOf dr w).getD (thr.getD w 0 + 1) 0
  bok : BkOk ws.bk
  bk : SameB ws.bk (profK dr thr 5)
noncomputable def startsOf (dr : List Nat) : List Nat := (List.range 4).map fun p => (dr.sum / 2 + p) % 4
noncomputable def textsOf (dr : List Nat) : List (List Nat) := (List.range 4).map (textOf dr)
noncomputable def kn0 : Kn := [([], (0, 4))]
noncomputable def PlainLaw2 : Prop := ∀ dr, DrOk dr → ∃ n thr ws1 ws2, PopTo dr n [0, 0, 0, 0] thr ∧ AllTo (textsOf dr) (startsOf dr) (ws0 kn0) ws1 ∧ GoodW dr thr ws1 ∧ AllTo (textsOf dr) (startsOf dr).reverse (ws0 ws1.kn) ws2 ∧ GoodW dr thr ws2
theorem valAt_rC {even : Bool} {h : Nat} (hh : h ≤ 4) : ∀ {l : List (Nat × Int × Int)}, (∀ c ∈ l, c.1 ≤ 4) → valAt (rC even l) (nameS h) = (getC l h).map fun v => vC even v.1 v.2
  | [], _ => rfl
  | (k, v) :: l, hl => by
    show (if nameS k = nameS h then _ else valAt (rC even l) (nameS h)) = (if k = h then some v else getC l h).map _
    by_cases hk : k = h
    · rw [if_pos (by rw [hk]), if_pos hk]; rfl
    · rw [if_neg (fun e => hk (nameS_inj (hl _ (.head _)) hh e)), if_neg hk, valAt_rC hh fun q hq => hl q (.tail _ hq)]
theorem same_vC (n : Nat) (even : Bool) (a b : Int) : Same (n + 1) (vC even a b) (vC even a b) := by
  cases even
  · exact .tup (.cons (.int _ _) (.cons (.int _ _) (.nil _)))
  · exact .int _ _
theorem samed_rC (n : Nat) {even : Bool} {l' : List (Nat × Int × Int)} (hl' : ∀ c ∈ l', c.1 ≤ 4) : ∀ {l : List (Nat × Int × Int)}, (∀ c ∈ l, c.1 ≤ 4) → (∀ c ∈ l, getC l' c.1 = some c.2) → Samed (n + 1) (rC even l) (rC even l')
  | [], _, _ => .nil _ _
  | c :: l, hl, h => .cons (b := vC even c.2.1 c.2.2) (by rw [valAt_rC (hl c (.head _)) hl', h c (.head _)]; rfl) (same_vC n even c.2.1 c.2.2) (samed_rC n hl' (fun q hq => hl q (.tail _ hq)) fun q hq => h q (.tail _ hq))
theorem same_rR (n : Nat) {even : Bool} {r r' : Row} (h : SameR r r') (hl : ∀ c ∈ r.calls, c.1 ≤ 4) (hl' : ∀ c ∈ r'.calls, c.1 ≤ 4) : Same (n + 3) (rR even r) (rR even r') := by
  unfold rR
  rw [h.a, h.b, h.c, h.d]
  exact .tup (.cons (.int _ _) (.cons (.int _ _) (.cons (.int _ _) (.cons (.int _ _) (.cons (.dct (by simp [rC, h.calls.1]) (samed_rC n hl' hl h.calls.2)) (.nil _))))))
theorem samed_rB (n : Nat) {even : Bool} {bk' : List (Nat × Row)} (hk' : ∀ q ∈ bk', q.1 ≤ 4) (hc' : ∀ q ∈ bk', ∀ c ∈ q.2.calls, c.1 ≤ 4) : ∀ {bk : List (Nat × Row)}, (∀ q ∈ bk, q.1 ≤ 4) → (∀ q ∈ bk, ∀ c ∈ q.2.calls, c.1 ≤ 4) →
    (∀ q ∈ bk, ∃ r', getB bk' q.1 = some r' ∧ SameR q.2 r') → Samed (n + 3) (rB even bk) (rB even bk')
  | [], _, _, _ => .nil _ _
  | q :: bk, hk, hc, h => by
    obtain ⟨r', hr, hs⟩ := h q (.head _)
    exact .cons (b := rR even r') (by rw [valAt_rB (hk q (.head _)) hk', hr]; rfl) (same_rR n hs (hc q (.head _)) (hc' _ (getB_mem hr)))
      (samed_rB n hk' hc' (fun p hp => hk p (.tail _ hp)) (fun p hp => hc p (.tail _ hp)) fun p hp => h p (.tail _ hp))
theorem profK_calls {dr thr : List Nat} {k : Nat} : ∀ q ∈ profK dr thr k, ∀ c ∈ q.2.calls, c.1 ≤ 4 := by
  intro q hq c hc
  obtain ⟨w, _, e⟩ := List.mem_filterMap.mp hq
  split at e
  · cases e
  · cases e
    exact Nat.le_of_lt (callsK_lt hc)
noncomputable def wantF (even : Bool) (dr thr : List Nat) : List MV := [.lst ((nI (thr.map (· + 1))).map .int), .lst ((nI (topsOf dr thr)).map .int), .dct (rB even (profK dr thr 5)), .lst ((nI ((List.range 4).map fun w => (endsOf dr w).getD (thr.getD w 0 + 1) 0)).map .int)]
theorem GoodW.sames {even : Bool} {dr thr : List Nat} {ws : WS} (G : GoodW dr thr ws) : Sames 5 [.lst ((nI ws.reads).map .int), .lst ((nI ws.last).map .int), .dct (rB even ws.bk), .lst ((nI ws.pos).map .int)] (wantF even dr thr) := by
  rw [G.reads, G.last, G.pos]
  refine .cons (.nums _ _) (.cons (.nums _ _) (.cons (.dct (by simp [rB, G.bk.1]) ?_) (.cons (.nums _ _) (.nil _))))
  exact samed_rB 1 (fun q hq => Nat.le_of_lt_succ (profK_lt hq)) profK_calls G.bok.lt (fun q hq c hc => Nat.le_of_lt (G.bok.cl q hq c hc)) G.bk.2
end
section
theorem findObj_congr {K : Frag} {c : Addr} {o o' : Obj} {name : Str} (h : lookIn name o = lookIn name o') : findObj K c (some o) name = findObj K c (some o') name := by
  unfold findObj PySem.W.ownOf
  simp only [h]
noncomputable def oOf (K : Frag) (f : Addr) : Obj := (K.lookup f).getD { cls := .none, data := .plain }
noncomputable def fdD : FuncData := { name := "", qualname := "", params := ⟨[], [], none, [], [], none, []⟩, body := .stmts [], scope := ⟨.module, [], false, false, []⟩, globals := 0, closure := [], defaults := .none, kwdefaults := .none }
noncomputable def fdOf (K : Frag) (f : Addr) : FuncData := match (oOf K f).data with | .func fd => fd | _ => fdD
theorem fnAt_of {K : Frag} {f : Addr} {qual : Str} {st : Stmt} {code : Value} (h1 : K.lookup f = some (oOf K f)) (h2 : (oOf K f).data = .func (fdOf K f))
    (h3 : ((fdOf K f).qualname, (fdOf K f).params, (fdOf K f).body, (fdOf K f).scope, (fdOf K f).globals, (fdOf K f).closure, (fdOf K f).code, (fdOf K f).builtins, (fdOf K f).defaults, (fdOf K f).kwdefaults) = (qual, dfArgs st, .stmts (dfBody st), dfScope st, mainGlobals, [], code, builtinsNs, .none, .none))
    (h4 : codeIn K code qual = true) : FnAt K f qual (dfArgs st) (dfBody st) (dfScope st) code := by
  simp only [Prod.mk.injEq] at h3
  obtain ⟨a, b, c, d, e, f', g, h, i, j⟩ := h3
  exact ⟨⟨_, _, h1, h2, a, b, c, d, e, f', g, h, i, j⟩, h4⟩
theorem klsAt_of {K : Frag} {c : Addr} (h1 : findIn K (.ref c) "__getattribute__" = some (some (.builtin "object.__getattribute__"))) (h2 : findIn K (.ref c) "__getattr__" = some none) (h3 : findIn K (.ref c) "__setattr__" = some (some (.builtin "object.__setattr__")))
    (h4 : hasDictIn K c = true) (h5 : plainOver K c = true) (h6 : makesIn K c = true) : KlsAt K c := ⟨h1, h2, h3, h4, h5, h6⟩
noncomputable def flOf (K : Frag) (c : Addr) : Array Value := match (oOf K c).data with | .fields vs => vs | _ => #[]
theorem codeAt_of {K : Frag} {c P : Addr} {file : Str} {tf : Tok} {flags : Int} {tg : Tok} {inF : Bool} {text : Int} {tt : Tok} (h1 : K.lookup c = some (oOf K c)) (h2 : (oOf K c).cls = .type "code") (h3 : (oOf K c).data = .fields (flOf K c)) (h4 : (flOf K c)[11]? = some (.ref P)) (h5 : (flOf K c).getD 11 .none = .ref P)
    (h6 : (flOf K c).getD 18 .none = .str file tf) (h7 : (flOf K c).getD 7 .none = .int flags tg) (h8 : (flOf K c).getD 9 .none = .bool inF) (h9 : (flOf K c).getD 10 .none = .int text tt) : CodeAt K c P :=
  ⟨_, _, _, _, _, _, _, _, _, h1, h2, h3, h4, h5, h6, h7, h8, h9⟩
theorem vrs_ints {C : Cx} {g : Gh} {h : Heap} {vs : List Value} {ns : List Int} (hI : IntsAre vs ns) : VRs C g h (ns.map .int) vs := by
  induction hI with
  | nil => exact .nil
  | cons i t _ ih => exact .cons (.int _ _) ih
noncomputable def StL (C : Cx) (sc : Addr) (ns : List Int) : Prop := ∀ g σ s, GR C g σ s → ∃ vs : List Value, s.heap.IsList sc ⟨vs⟩ ∧ IntsAre vs ns
theorem slc_stat {C : Cx} {A : Around} {fm : Fm} {loc : Loc} {σ : Hp} {Q : MV → Hp → Prop} {sc : Addr} {ns : List Int} {lo hi st : Option Int} (hsc : StL C sc ns) (hl : ns.length ≤ 1000000) (hst : st ≠ some 0) (q : Q (.lst (cutL (ns.map .int) lo hi st)) σ) :
    Slc C A fm (.val (.ref sc)) lo hi st loc σ Q := by
  intro fa g s x sl vl vu vs r hx hs pl pu ps
  obtain ⟨xs, ho, hI⟩ := hsc _ _ _ r.gr
  have hv := vrs_ints (C := C) (g := g) (h := s.heap) hI
  obtain rfl := hx.inv
  refine ⟨⟨_, _, ho.typeIs, slot_list_getitem.lookup⟩, wpAny_getItem_list_slice ho hs pl pu ps hst ?_ (sizeLine_ge (by show xs.length ≤ _; rw [← hv.length]; simpa using hl))⟩
  have e : slicePick ⟨xs⟩ lo hi st = ⟨(slIdx lo hi st (ns.map MV.int).length).filterMap (xs[·]?)⟩ := by
    unfold slicePick slIdx
    have : (Array.mk xs).size = (ns.map MV.int).length := by rw [hv.length]; rfl
    rw [this]
    simp
  rw [e]
  exact Post.lst r (hv.pick _) q
noncomputable def g0 : Gh := ⟨fun _ => none, fun _ => False⟩
noncomputable def cK (K : Frag) (tabs : List Addr) (sc : Addr) (o : Obj) : Frag := K.filter (fun p => !tabs.contains p.1) ++ [(sc, o)]
theorem gr_start {C : Cx} {s : Shared} {K : Frag} {tabs : List Addr} {sc : Addr} {o : Obj} (hN : C.N0 = s.heap.objs.size) (hK : C.K = cK K tabs sc o) (hT : C.tabs = tabs) (KX : K.In s.heap) (hnd : (K.map (·.1)).Nodup) (ho : s.heap.get? sc = some o) (hsc : sc ∉ tabs) (hlim : s.heap.NoLimit) (h16 : 16 ≤ s.heap.objs.size)
    (htab : ∀ a ∈ tabs, s.heap.get? a = some (X.tableObj #[])) : GR C g0 (fun _ => none) s := by
  have lk : ∀ (L : Frag), (L.map (·.1)).Nodup → ∀ p ∈ L, L.lookup p.1 = some p.2 := by
    intro L
    induction L with
    | nil => intro _ p hp; cases hp
    | cons q L ih =>
      intro hn p hp
      simp only [List.map_cons, List.nodup_cons] at hn
      obtain ⟨a, b⟩ := q
      rw [List.lookup_cons]
      rcases List.mem_cons.mp hp with rfl | hp
      · simp
      · have hne : (p.1 == a) = false := by
          have : p.1 ≠ a := fun e => hn.1 (e ▸ List.mem_map.mpr ⟨p, hp, rfl⟩)
          simpa using this
        rw [hne]; exact ih hn.2 p hp
  refine ⟨by rw [hN]; exact h16, fun p hp => ?_, hlim, Nat.le_of_eq hN, (fun n o h => by cases h), (fun n m a h => by cases h), (fun n a h => by cases h), (fun a h => h.elim), fun a ha => ?_, (fun n a h => by cases h)⟩
  · rw [hK] at hp
    rcases List.mem_append.mp hp with hp | hp
    · obtain ⟨hp, ht⟩ := List.mem_filter.mp hp
      have hg := KX _ _ (lk K hnd p hp)
      exact ⟨by rw [hN]; exact Heap.lt_size hg, by rw [hT]; simpa using ht, hg⟩
    · rw [List.mem_singleton.mp hp]
      exact ⟨by rw [hN]; exact Heap.lt_size ho, by rw [hT]; exact hsc, ho⟩
  · rw [hT] at ha
    refine ⟨by rw [hN]; exact Heap.lt_size (htab a ha), #[], htab a ha, ?_, fun pos c' h => nomatch h⟩
    exact trivial
theorem stL_start {C : Cx} {K : Frag} {tabs : List Addr} {sc : Addr} {o : Obj} {vs : List Value} {ns : List Int} {n : Nat} (hK : C.K = cK K tabs sc o) (hc : o.cls = .type "list") (hd : o.data = .seq ⟨vs⟩ n) (hI : IntsAre vs ns) : StL C sc ns := fun g σ s r =>
  ⟨vs, ⟨o, (r.K (sc, o) (by rw [hK]; exact List.mem_append_right _ (.head _))).2.2, hc, n, hd⟩, hI⟩
end
local macro_rules | `(tactic| walk_at "can") => `(tactic| first | with_reducible assumption | exact Or.inl (by kernel_rfl!) | exact can_own (by kernel_rfl!))
section
set_option maxHeartbeats 400000

noncomputable abbrev fmL (cd : Value) (f L : Addr) : Fm := ⟨envC (dfScope (st2 17)) "law" cd f L, ownOf (dfScope (st2 17))⟩
noncomputable def dr0 : List Nat := [6, 24, 13, 20, 17, 26, 32, 9, 0, 35, 2, 8]
noncomputable abbrev hp0 : Hp := fun _ => none
variable {C : Cx} {A : Around} {σ : Hp} {Q : MV → Hp → Prop} {QS : Fl → Loc → Hp → Prop}
theorem ex_l1 (T : Tw C) {N : Nat} {A' : Around} (hA' : Ar A' N) {cd : Value} {f L : Addr} {lo : Loc} {ns : List Int} (hlen : ns.length ≤ 1000) {sc : Addr} (hsc : StL C sc ns) (h1 : lo "script" = some (.val (.ref sc))) (h2 : lo "draws" = some (.ref 0))
    (q : ∀ lo' dr, DrOk dr → lo' "draws" = some (.ref 0) → QS .next lo' (hp0.set 0 (.list ((nI dr).map .int)))) : Ex C A' (fmL cd f L) (nth (dfBody (st2 17)) 1) lo (hp0.set 0 (.list ((nI dr0).map .int))) QS := by
  show Ex C A' _ (.For (.Tuple [.Name _ _, .Name _ _] _ _) _ _ _ _) _ _ _
  refine ex_for2 (ns.take 12).length (fun i => .int i) (fun i => ((ns.take 12).map MV.int).getD i .none) (fun _ => True) (fun i lo σ' => ∃ dr, A3 (DrOk dr) (lo "draws" = some (.ref 0)) (σ' = hp0.set 0 (.list ((nI dr).map .int)))) hA'.h (by walk_at "can") (by walk_at "can") ?_ ?_ ?_
  · refine walk_enum (Q := fun σ' => ∃ dr, A3 (DrOk dr) (lo "draws" = some (.ref 0)) (σ' = hp0.set 0 (.list ((nI dr).map .int)))) (item := fun i => ((ns.take 12).map MV.int).getD i .none) hA'.h (by kernel_rfl!) T.b_enum.1 T.b_enum.2 ?_
    walk_at "ss"
    refine slc_stat hsc (by (first | lia | omega)) (by simp) ?_
    rw [show (12 : Int) = ((12 : Nat) : Int) from rfl, cutL_take, ← List.map_take]
    exact ⟨⟨dr0, ⟨by decide, by decide⟩, h2, rfl⟩, .inl ⟨_, rfl, by simp, rfl⟩⟩
  · rintro i K1 hK1 lo σ' hi ⟨dr, hdr, l1, rfl⟩ _
    have hi12 : i < 12 := by simp at hi; (first | lia | omega)
    obtain ⟨x, hx⟩ : ∃ x, ((ns.take 12).map MV.int).getD i .none = .int x := ⟨(ns.take 12)[i], by rw [List.getD_eq_getElem?_getD, List.getElem?_map, List.getElem?_eq_getElem hi]; rfl⟩
    rw [hx]
    walk_at "ss"
    refine gi_list (l := (nI dr).map .int) (lst_ref hp_same) (by (first | lia | omega)) (by (first | lia | omega)) (nI_at _ _ (by rw [hdr.len]; (first | lia | omega))) ?_
    walk_at "ss"
    refine op_mod (by decide) ?_
    walk_at "ss"
    refine set_list hp_same (by (first | lia | omega)) (by simp [nI, hdr.len]; (first | lia | omega)) (by (first | lia | omega)) ?_
    obtain ⟨v, hv, hv40⟩ : ∃ v : Nat, ((dr.getD i 0 : Nat) + x : Int) % 40 = (v : Nat) ∧ v < 40 := ⟨(((dr.getD i 0 : Nat) + x : Int) % 40).toNat, by (first | lia | omega), by (first | lia | omega)⟩
    rw [hv, nI_set, set_set]
    walk_at "ss"
    exact ⟨⟨dr.set i v, ⟨by simp [hdr.len], fun y hy => (List.mem_or_eq_of_mem_set hy).elim (hdr.lt y) (fun e => e ▸ hv40)⟩, by walk_at "lk", rfl⟩, trivial⟩
  · rintro lo σ' ⟨dr, hdr, l1, rfl⟩ _
    walk_at "ss"
    exact q _ _ hdr l1
theorem keep4 {lo : Loc} {a b c d v : MV} {y : Str} (hy : y ∉ (["kind", "name", "word", "text"] : List Str)) (e : lo y = some v) : ((((lo.set "kind" a).set "name" b).set "word" c).set "text" d) y = some v := by
  simp only [List.mem_cons, not_or, List.not_mem_nil, not_false_eq_true, and_true] at hy
  exact (if_neg hy.2.2.2).trans ((if_neg hy.2.2.1).trans ((if_neg hy.2.1).trans ((if_neg hy.1).trans e)))
theorem keep5 {lo : Loc} {a b c d d' v : MV} {y : Str} (hy : y ∉ (["kind", "name", "word", "text"] : List Str)) (e : lo y = some v) : (((((lo.set "kind" a).set "name" b).set "word" c).set "text" d).set "text" d') y = some v := by
  refine (if_neg ?_).trans (keep4 hy e)
  simp only [List.mem_cons, not_or, List.not_mem_nil, not_false_eq_true, and_true] at hy
  exact hy.2.2.2
theorem ex_num (T : Tw C) {N : Nat} {A' : Around} (hA' : Ar A' N) {cd : Value} {f L : Addr} {lo : Loc} {w k ar sp : Nat} {dr : List Nat} {arl : List MV} {spl : List MV} (hdr : DrOk dr) (hw : w < 4) (hk : k < 3) (hna : ar ≠ sp)
    (h1 : lo "arrows" = some (.ref ar)) (h2 : lo "stops" = some (.ref sp)) (h3 : lo "text" = some (.str (S (textK dr w k)))) (h4 : lo "number" = some (.int (numOf dr w k : Nat))) (h5 : lo "sign" = some (.str (S [sgC w])))
    (ha : σ ar = some (.list arl)) (hs : σ sp = some (.list spl)) (hal : arl.length ≤ 100) (hsl : spl.length ≤ 100)
    (q : ∀ lo', (∀ y v, y ∉ (["kind", "name", "word", "text"] : List Str) → lo y = some v → lo' y = some v) → lo' "text" = some (.str (S (textK dr w (k + 1)))) →
      QS .next lo' ((σ.set ar (.list (arl ++ [pV (kOf (numOf dr w k), gOf (numOf dr w k))]))).set sp (.list (spl ++ [.int (stopK dr w (k + 1) : Nat)])))) :
    Exs C A' (fmL cd f L) (stB (nth (stB (nth (dfBody (st2 17)) 5)) 4)) lo σ QS := by
  have hn := hdr.num hw hk
  have hstop : stopK dr w (k + 1) = (textK dr w k ++ bodyOf w (numOf dr w k)).length := rfl
  have htext : textK dr w (k + 1) = textK dr w k ++ bodyOf w (numOf dr w k) ++ tailOf (numOf dr w k) := rfl
  have htl := textK_len hdr hw k (by (first | lia | omega))
  rw [htext] at q
  rw [hstop] at q
  generalize numOf dr w k = n at *
  generalize textK dr w k = tx at *
  have hg5 : gOf n < 5 := Nat.mod_lt _ (by decide)
  obtain ⟨u1, u2⟩ := up_ok (gOf n) hg5
  obtain ⟨w1, w2⟩ := word_ok w hw n hn
  obtain ⟨j1, j2, j3, j4⟩ := join_ok w hw n hn
  have hbl := word_len w hw n hn
  rw [List.length_append] at hbl
  refine exs_cons ?_
  walk_at "ss"
  refine op_div (by (first | lia | omega)) (by decide) (by decide) ?_
  walk_at "ss"
  refine op_mod (by decide) ?_
  have e1 : ((n : Int) / 5 % 4) = ((kOf n : Nat) : Int) := by unfold kOf; (first | lia | omega)
  have e2 : ((n : Int) % 5) = ((gOf n : Nat) : Int) := by unfold gOf; (first | lia | omega)
  rw [e1]
  walk_at "ss"
  refine op_mod (by decide) ?_
  rw [e2]
  refine gi_n5 (by (first | lia | omega)) ?_
  rw [show nameS (gOf n) = S [nmC (gOf n)] from rfl]
  walk_at "ss"
  refine ev_lst ?_
  walk_at "ss"
  refine ev_upper ?_
  walk_at "ss"
  refine ⟨u2, ?_⟩
  rw [u1]
  walk_at "ss"
  refine op_adds (by simp [S_len]) ?_
  walk_at "ss"
  refine ev_upper ?_
  walk_at "ss"
  refine ⟨u2, ?_⟩
  rw [u1]
  refine op_adds (by simp [S_len]) ?_
  walk_at "ss"
  refine ⟨by show 4 ≤ _; decide, ?_⟩
  walk_at "ss"
  rw [S_app, S_app]
  have hk4 : kOf n < 4 := Nat.mod_lt _ (by decide)
  refine gi_list (l := [.str (S [nmC (gOf n)]), .str (S [nmC (gOf n) - 32]), .str (S ([nmC (gOf n)] ++ [sgC w])), .str (S ([sgC w] ++ [nmC (gOf n) - 32]))]) rfl (by (first | lia | omega)) (by (first | lia | omega)) (m := .str (S (wordOf w n))) ?_ ?_
  · unfold wordOf
    generalize kOf n = kk at hk4 ⊢
    cases kk, hk4 using lt4 with
    | h0 => rfl
    | h1 => rfl
    | h2 => rfl
    | h3 => rfl
  walk_at "ss"
  refine ev_append ?_
  walk_at "ss"
  refine ⟨ar, arl, rfl, ha, ?_⟩
  walk_at "ss"
  refine op_mod (by decide) ?_
  rw [e2]
  walk_at "ss"
  refine ⟨by show 2 ≤ _; decide, arl, ha, by (first | lia | omega), ?_⟩
  have hs' : (σ.set ar (.list (arl ++ [pV (kOf n, gOf n)]))) sp = some (.list spl) := hp_other (Ne.symm hna) hs
  change Then _ _ _ _ _ _ _ (σ.set ar (.list (arl ++ [pV (kOf n, gOf n)])))
  generalize σ.set ar (.list (arl ++ [pV (kOf n, gOf n)])) = σ1 at *
  have hbA : 20 ≤ n → bodyOf w n = (wordOf w n).flatMap escA ++ [10] ∧ tailOf n = [] := fun h => ⟨if_pos h, if_pos h⟩
  have hbQ : ¬ 20 ≤ n → bodyOf w n = [34] ++ (wordOf w n).flatMap escQ ++ [34] ∧ tailOf n = [32] := fun h => ⟨if_neg h, if_neg h⟩
  have fA : ((wordOf w n).flatMap escA).length ≤ 100 := by
    have : ∀ w, w < 4 → ∀ n, n < 40 → ((wordOf w n).flatMap escA).length ≤ 100 ∧ ((wordOf w n).flatMap escQ).length ≤ 100 := by decide +kernel
    exact (this w hw n hn).1
  have fQ : ((wordOf w n).flatMap escQ).length ≤ 100 := by
    have : ∀ w, w < 4 → ∀ n, n < 40 → ((wordOf w n).flatMap escA).length ≤ 100 ∧ ((wordOf w n).flatMap escQ).length ≤ 100 := by decide +kernel
    exact (this w hw n hn).2
  generalize wordOf w n = wd at *
  have bs : ("\\" : Str) = S [92] := by decide
  have hjA : ∀ {lo : Loc} {p1 p2 p3 p4 p5 p6 p7 p8 p9 : Pos} {sc : Scope} {Q : MV → Hp → Prop}, compB sc (fmL cd f L).env.scope.names = true → (∀ L', canSt (cFm sc (fmL cd f L).env L') "one") → lo "word" = some (.str (S wd)) → Q (.str (S (wd.flatMap escA))) σ1 →
      (p2.endLine == p8.line) = true → Ev C A' (fmL cd f L) (.Call (.Attribute (.Constant (.str "") 0 p1) "join" p2) [.ListComp (.BinOp (.Constant (.str "\\") 0 p3) .Add (.Name "one" p4) p5) [⟨.Name "one" p6, .Name "word" p7, [], 0⟩] sc p9] [] p8) lo σ1 Q := by
    intro lo p1 p2 p3 p4 p5 p6 p7 p8 p9 sc Q hsc hone hlo q hline
    refine ev_join ?_ (by rfl) (by rfl) hline
    walk_at "ss"
    refine ev_comp (compOk_of hsc) wd.length (fun i => .str (S [wd.getD i 0])) (fun _ => True) (fun i lo σ'' ys => σ'' = σ1 ∧ ys = (wd.take i).map fun c => .str (S (escA c))) ?_ (by intro g h; cases h) ?_ ?_
    · refine walk_of (ev_name hlo ?_)
      have := walk_str (C := C) (A := A') (tg := .Name "one" p6) (σ := σ1) (x := S wd) hA'.h
      have e : (fun i => MV.str ⟨#[(S wd).cps.getD i 0]⟩) = fun i => .str (S [wd.getD i 0]) := by
        funext i; simp [S, Array.getD_eq_getD_getElem?, List.getD]
      rw [e] at this
      exact ⟨by simpa [S] using this, rfl, rfl⟩
    · rintro L' a i lo σ'' ys hi ⟨rfl, rfl⟩ _
      refine st_name (hone L') ?_
      show Inn _ _ _ _ _ _ _ _ _
      refine inn_emit rfl (by simp; (first | lia | omega)) ?_
      walk_at "ss"
      rw [bs]
      refine op_adds (by simp [S_len]) ?_
      rw [S_app]
      exact ⟨⟨rfl, map_take1 (fun c => MV.str (S (escA c))) wd hi⟩, trivial⟩
    · rintro l σ'' ys ⟨rfl, rfl⟩ _
      refine ⟨wd.map fun c => S (escA c), congrArg some (by simp [Function.comp_def]), j1, ?_⟩
      rw [j2]; exact q
  walk_at "ss"
  have hjQ : ∀ {lo : Loc} {p1 p2 p3 p4 p5 p6 p7 p8 p9 q1 q2 q3 q4 q5 : Pos} {sc : Scope} {Q : MV → Hp → Prop}, compB sc (fmL cd f L).env.scope.names = true → (∀ L', canSt (cFm sc (fmL cd f L).env L') "one") → lo "word" = some (.str (S wd)) → Q (.str (S (wd.flatMap escQ))) σ1 →
      (p2.endLine == p8.line) = true → behindInMarks .In (.Constant (.str "\"\\") 0 q2) = false → Ev C A' (fmL cd f L) (.Call (.Attribute (.Constant (.str "") 0 p1) "join" p2) [.ListComp (.IfExp (.Compare (.Name "one" q1) [.In] [.Constant (.str "\"\\") 0 q2] q3) (.BinOp (.Constant (.str "\\") 0 p3) .Add (.Name "one" p4) p5) (.Name "one" q4) q5) [⟨.Name "one" p6, .Name "word" p7, [], 0⟩] sc p9] [] p8) lo σ1 Q := by
    intro lo p1 p2 p3 p4 p5 p6 p7 p8 p9 q1 q2 q3 q4 q5 sc Q hsc hone hlo q hline hbm
    refine ev_join ?_ (by rfl) (by rfl) hline
    walk_at "ss"
    refine ev_comp (compOk_of hsc) wd.length (fun i => .str (S [wd.getD i 0])) (fun _ => True) (fun i lo σ'' ys => σ'' = σ1 ∧ ys = (wd.take i).map fun c => .str (S (escQ c))) ?_ (by intro g h; cases h) ?_ ?_
    · refine walk_of (ev_name hlo ?_)
      have := walk_str (C := C) (A := A') (tg := .Name "one" p6) (σ := σ1) (x := S wd) hA'.h
      have e : (fun i => MV.str ⟨#[(S wd).cps.getD i 0]⟩) = fun i => .str (S [wd.getD i 0]) := by
        funext i; simp [S, Array.getD_eq_getD_getElem?, List.getD]
      rw [e] at this
      exact ⟨by simpa [S] using this, rfl, rfl⟩
    · rintro L' a i lo σ'' ys hi ⟨rfl, rfl⟩ _
      refine st_name (hone L') ?_
      show Inn _ _ _ _ _ _ _ _ _
      refine inn_emit rfl (by simp; (first | lia | omega)) ?_
      have h128 : wd.getD i 0 < 128 := w1 _ (by rw [List.getD_eq_getElem?_getD, List.getElem?_eq_getElem hi]; exact List.getElem_mem hi)
      have step := map_take1 (fun c => MV.str (S (escQ c))) wd hi
      refine ev_if (tr_cmp ?_ hbm)
      walk_at "ss"
      rw [show ("\"\\" : Str) = S [34, 92] from by decide, esc_ok _ h128]
      refine iteB (fun h => ?_) fun h => ?_
      · walk_at "ss"
        rw [bs]
        refine op_adds (by simp [S_len]) ?_
        rw [S_app]
        have e : escQ (wd.getD i 0) = [92] ++ [wd.getD i 0] := if_pos (of_decide_eq_true h)
        rw [← e]
        exact ⟨⟨rfl, step⟩, trivial⟩
      · walk_at "ss"
        have e : escQ (wd.getD i 0) = [wd.getD i 0] := if_neg (of_decide_eq_false h)
        rw [← e]
        exact ⟨⟨rfl, step⟩, trivial⟩
    · rintro l σ'' ys ⟨rfl, rfl⟩ _
      refine ⟨wd.map fun c => S (escQ c), congrArg some (by simp [Function.comp_def]), j3, ?_⟩
      rw [j4]; exact q
  refine iteB (fun h => ?_) fun h => ?_
  · have h20 : 20 ≤ n := by have := of_decide_eq_true h; (first | lia | omega)
    obtain ⟨hb, ht⟩ := hbA h20
    rw [hb, ht] at q
    walk_at "ss"
    refine hjA (by kernel_rfl!) (fun L' => .inl (by kernel_rfl!)) (by walk_at "lk") ?_ (by rfl)
    walk_at "ss"
    rw [show ("\n" : Str) = S [10] from by decide]
    refine op_adds (by simp only [S_len, List.length_append, List.length_cons, List.length_nil]; (first | lia | omega)) ?_
    rw [S_app]
    refine op_iadds (by simp only [S_len, List.length_append, List.length_cons, List.length_nil]; (first | lia | omega)) ?_
    rw [S_app]
    walk_at "ss"
    refine ev_append ?_
    walk_at "ss"
    refine ⟨sp, spl, rfl, hs', ?_⟩
    refine ev_callB (.bi _) (by kernel_rfl!) T.b_len.1 T.b_len.2 ?_
    walk_at "ss"
    refine cal_lenS (by simp only [List.length_append, List.length_cons, List.length_nil]; (first | lia | omega)) ?_
    refine ⟨spl, hs', by (first | lia | omega), ?_⟩
    walk_at "ss"
    refine q _ (fun y v hy e => ?_) (by rw [List.append_nil]; walk_at "lk")
    exact keep4 hy e
  · have h20 : ¬ 20 ≤ n := by have := of_decide_eq_false h; (first | lia | omega)
    obtain ⟨hb, ht⟩ := hbQ h20
    rw [hb, ht] at q
    walk_at "ss"
    rw [show ("\"" : Str) = S [34] from by decide]
    refine hjQ (by kernel_rfl!) (fun L' => .inl (by kernel_rfl!)) (by walk_at "lk") ?_ (by rfl) (by with_unfolding_all rfl)
    refine op_adds (by simp only [S_len, List.length_append, List.length_cons, List.length_nil]; (first | lia | omega)) ?_
    rw [S_app]
    walk_at "ss"
    refine op_adds (by simp only [S_len, List.length_append, List.length_cons, List.length_nil]; (first | lia | omega)) ?_
    rw [S_app]
    refine op_iadds (by simp only [S_len, List.length_append, List.length_cons, List.length_nil]; (first | lia | omega)) ?_
    rw [S_app]
    walk_at "ss"
    refine ev_append ?_
    walk_at "ss"
    refine ⟨sp, spl, rfl, hs', ?_⟩
    refine ev_callB (.bi _) (by kernel_rfl!) T.b_len.1 T.b_len.2 ?_
    walk_at "ss"
    refine cal_lenS (by simp only [List.length_append, List.length_cons, List.length_nil]; (first | lia | omega)) ?_
    refine ⟨spl, hs', by (first | lia | omega), ?_⟩
    walk_at "ss"
    rw [show (" " : Str) = S [32] from by decide]
    refine op_iadds (by simp only [S_len, List.length_append, List.length_cons, List.length_nil]; (first | lia | omega)) ?_
    rw [S_app]
    walk_at "ss"
    refine q _ (fun y v hy e => ?_) (by walk_at "lk")
    exact keep5 hy e
end
section
set_option maxHeartbeats 400000

variable {C : Cx} {A : Around} {σ : Hp} {Q : MV → Hp → Prop} {QS : Fl → Loc → Hp → Prop}
theorem gi_sg {C : Cx} {A : Around} {fm : Fm} {loc : Loc} {h : Nat} (hh : h < 4) (q : Q (.str (S [sgC h])) σ) : Itm C A fm (.str " \"\\#") (.int (h : Nat)) loc σ Q := by
  have e : (" \"\\#" : Str) = S [32, 34, 92, 35] := by decide +kernel
  rw [e]
  refine gi_S (c := sgC h) (by decide) ?_ q
  cases h, hh using lt4 with
  | h0 => rfl
  | h1 => rfl
  | h2 => rfl
  | h3 => rfl
theorem ex_l2 (T : Tw C) {N : Nat} {A' : Around} (hA' : Ar A' N) {cd : Value} {f L : Addr} {lo : Loc} {dr : List Nat} (hdr : DrOk dr) (h0 : lo "draws" = some (.ref 0)) (h1 : lo "due" = some (.ref 1)) (h2 : lo "texts" = some (.ref 2)) (h3 : lo "ends" = some (.ref 3)) (L0 : LS dr 0 σ)
    (q : ∀ lo' σ', LS dr 4 σ' → lo' "draws" = some (.ref 0) → lo' "due" = some (.ref 1) → lo' "texts" = some (.ref 2) → lo' "ends" = some (.ref 3) → QS .next lo' σ') :
    Ex C A' (fmL cd f L) (nth (dfBody (st2 17)) 5) lo σ QS := by
  show Ex C A' _ (.For (.Name _ _) (.Call (.Name _ _) [_] [] _) _ _ _) _ _ _
  refine ex_forR 4 (fun k lo σ' => A5 (LS dr k σ') (lo "draws" = some (.ref 0)) (lo "due" = some (.ref 1)) (lo "texts" = some (.ref 2)) (lo "ends" = some (.ref 3))) hA'.h T.b_range (by kernel_rfl!) (by walk_at "can") (by decide) ?_ ?_ ?_
  · walk_at "ss"
    exact ⟨rfl, L0, h0, h1, h2, h3⟩
  · clear h0 h1 h2 h3 L0
    rintro w K1 hK1 lo σ' hw ⟨L1, h0, h1, h2, h3⟩
    walk_at "ss"
    refine gi_sg hw ?_
    walk_at "ss"
    obtain ⟨ar, har⟩ := L1.wf.new
    have har4 := L1.no har
    refine ev_lstT ar ?_
    walk_at "ss"
    refine ⟨by decide, har, ?_⟩
    have L2 := L1.set har4 (o := .list []) (by intros; intro h; cases h)
    walk_at "ss"
    obtain ⟨sp, hsp⟩ := L2.wf.new
    have hsp4 := L2.no hsp
    have hne : ar ≠ sp := (ne_of_hp hsp hp_same).symm
    refine ev_lstT sp ?_
    walk_at "ss"
    refine ⟨by show 1 ≤ _; decide, hsp, ?_⟩
    have L3 := L2.set hsp4 (o := .list [.int 0]) (by intros; intro h; cases h)
    have ha3 : ((σ'.set ar (.list [])).set sp (.list [.int 0])) ar = some (.list []) := hp_other hne hp_same
    have hs3 : ((σ'.set ar (.list [])).set sp (.list [.int 0])) sp = some (.list [.int 0]) := hp_same
    generalize (σ'.set ar (.list [])).set sp (.list [.int 0]) = σ3 at *
    clear L1 L2 har hsp
    walk_at "ss"
    have hnum : (cutL ((nI dr).map MV.int) (some ((3 * w : Nat) : Int)) (some ((3 * w + 3 : Nat) : Int)) none) = (List.range 3).map fun k => MV.int (numOf dr w k : Nat) := by
      rw [cutL_nat]
      apply List.ext_getElem?
      intro k
      have hl := hdr.len
      by_cases hk : k < 3
      · have : 3 * w + k < dr.length := by (first | lia | omega)
        simp [hk, nI, numOf, List.getD, this]
      · rw [List.getElem?_eq_none (by simp; (first | lia | omega)), List.getElem?_eq_none (by simp; (first | lia | omega))]
    refine ex_for1 3 (fun k => ((List.range 3).map fun k => MV.int (numOf dr w k : Nat)).getD k .none) (fun σ' => lstOf σ' (.lst ((List.range 3).map fun k => MV.int (numOf dr w k : Nat))) = some ((List.range 3).map fun k => MV.int (numOf dr w k : Nat))) (fun k lo σ' => A12 (LS dr w σ') (lo "draws" = some (.ref 0)) (lo "due" = some (.ref 1)) (lo "texts" = some (.ref 2)) (lo "ends" = some (.ref 3)) (lo "who" = some (.int (w : Nat))) (lo "sign" = some (.str (S [sgC w]))) (lo "arrows" = some (.ref ar)) (lo "stops" = some (.ref sp)) (lo "text" = some (.str (S (textK dr w k)))) (σ' ar = some (.list ((arrK dr w k).map pV))) (σ' sp = some (.list (((List.range (k + 1)).map (stopK dr w)).map fun n => .int (n : Nat))))) (by walk_at "can") ?_ ?_ ?_
    · refine walk_of ?_
      walk_at "ss"
      refine op_mulB (by (first | lia | omega)) ?_
      walk_at "ss"
      refine op_mulB (by (first | lia | omega)) ?_
      walk_at "ss"
      refine slc_lst (l := (nI dr).map .int) (lst_ref L3.d0) (by simp [nI, hdr.len]) (by simp) ?_
      rw [show (3 : Int) * (w : Nat) = ((3 * w : Nat) : Int) by (first | lia | omega), show ((3 * w : Nat) : Int) + 3 = ((3 * w + 3 : Nat) : Int) by (first | lia | omega), hnum]
      have := walk_list (C := C) (A := A') (tg := .Name "number" ⟨183, 12, 183, 18⟩) (m := .lst ((List.range 3).map fun k => MV.int (numOf dr w k : Nat))) (σ := σ3) hA'.h rfl
      exact ⟨this, L3, by walk_at "lk", by walk_at "lk", by walk_at "lk", by walk_at "lk", by walk_at "lk", by walk_at "lk", by walk_at "lk", by walk_at "lk", by walk_at "lk", ha3, hs3⟩
    · rintro k K2 hK2 lo σ' hk ⟨L4, i0, i1, i2, i3, i4, i5, i6, i7, i8, i9, i10⟩ _
      have hit : ((List.range 3).map fun k => MV.int (numOf dr w k : Nat)).getD k .none = .int (numOf dr w k : Nat) := by simp [List.getD, hk]
      rw [hit]
      refine ex_num T hA' hdr hw hk hne (by walk_at "lk") (by walk_at "lk") (by walk_at "lk") at_same (by walk_at "lk") i9 i10 (by simp [arrK]; (first | lia | omega)) (by simp; (first | lia | omega)) fun lo' keep ht => ?_
      refine hK2 _ _ _ (lp_next ?_)
      refine ⟨⟨(L4.set har4 (by intros; intro h; cases h)).set hsp4 (by intros; intro h; cases h), keep _ _ (by decide) (by walk_at "lk"), keep _ _ (by decide) (by walk_at "lk"), keep _ _ (by decide) (by walk_at "lk"), keep _ _ (by decide) (by walk_at "lk"), keep _ _ (by decide) (by walk_at "lk"), keep _ _ (by decide) (by walk_at "lk"),
        keep _ _ (by decide) (by walk_at "lk"), keep _ _ (by decide) (by walk_at "lk"), ht, ?_, ?_⟩, rfl⟩
      · refine (hp_other hne hp_same).trans ?_
        simp [arrK, List.range_succ]
      · refine hp_same.trans ?_
        rw [List.range_succ (n := k + 1)]
        simp
    · rintro lo σ' ⟨L4, i0, i1, i2, i3, i4, i5, i6, i7, i8, i9, i10⟩ _
      walk_at "ss"
      refine ev_append ?_
      walk_at "ss"
      refine ⟨1, _, rfl, L4.due, ?_⟩
      walk_at "ss"
      refine ev_lst ?_
      walk_at "ss"
      refine ⟨by show 2 ≤ _; decide, ?_⟩
      walk_at "ss"
      refine ⟨by show 1 ≤ _; decide, ?_⟩
      walk_at "ss"
      refine op_addl (l := (arrK dr w 3).map pV) (m := [.tup [.int 0, .int 4]]) (lst_ref i9) rfl (by simp [arrK]) ?_
      refine ⟨_, L4.due, by simp; (first | lia | omega), ?_⟩
      have e1 : (List.range w).map (dueV dr) ++ [.lst ((arrK dr w 3).map pV ++ [.tup [.int 0, .int 4]])] = (List.range (w + 1)).map (dueV dr) := by
        rw [List.range_succ, List.map_append]
        simp [dueV, dueOf, pV]
      rw [e1]
      walk_at "ss"
      refine ev_append ?_
      walk_at "ss"
      have t2 : (σ'.set 1 (.list ((List.range (w + 1)).map (dueV dr)))) 2 = _ := (hp_other (by decide) rfl).trans L4.txt
      refine ⟨2, _, rfl, t2, ?_⟩
      walk_at "ss"
      refine ⟨_, t2, by simp; (first | lia | omega), ?_⟩
      have e2 : (List.range w).map (fun w => MV.str (S (textOf dr w))) ++ [.str (S (textK dr w 3))] = (List.range (w + 1)).map (fun w => MV.str (S (textOf dr w))) := by
        rw [List.range_succ, List.map_append]; rfl
      rw [e2]
      walk_at "ss"
      refine ev_append ?_
      walk_at "ss"
      have t3 : ((σ'.set 1 (.list ((List.range (w + 1)).map (dueV dr)))).set 2 (.list ((List.range (w + 1)).map fun w => MV.str (S (textOf dr w))))) 3 = _ := (hp_other (by decide) (hp_other (by decide) rfl)).trans L4.ends
      refine ⟨3, _, rfl, t3, ?_⟩
      walk_at "ss"
      refine ev_lst ?_
      refine ev_callB (.bi _) (by kernel_rfl!) T.b_len.1 T.b_len.2 ?_
      walk_at "ss"
      refine cal_lenS (by have := textK_len hdr hw 3 (by (first | lia | omega)); (first | lia | omega)) ?_
      refine ⟨by show 1 ≤ _; decide, ?_⟩
      refine op_addl (l := ((List.range (3 + 1)).map (stopK dr w)).map fun n => .int (n : Nat)) (m := [.int ((textK dr w 3).length : Nat)]) (lst_ref ((hp_other (by (first | lia | omega)) (hp_other (by (first | lia | omega)) rfl)).trans i10)) rfl (by simp) ?_
      refine ⟨_, t3, by simp; (first | lia | omega), ?_⟩
      have e3 : (List.range w).map (endsV dr) ++ [.lst ((((List.range (3 + 1)).map (stopK dr w)).map fun n => MV.int (n : Nat)) ++ [.int ((textK dr w 3).length : Nat)])] = (List.range (w + 1)).map (endsV dr) := by
        rw [List.range_succ (n := w), List.map_append]
        simp [endsV, endsOf, nI, textOf]
      rw [e3]
      walk_at "ss"
      refine ⟨⟨?_, ?_, ?_, ?_, ?_⟩, by walk_at "lk", by walk_at "lk", by walk_at "lk", by walk_at "lk"⟩
      · exact (hp_other (by decide) (hp_other (by decide) (hp_other (by decide) rfl))).trans L4.d0
      · exact hp_other (by decide) (hp_other (by decide) hp_same)
      · exact hp_other (by decide) hp_same
      · exact hp_same
      · exact ((L4.wf.setL ..).setL ..).setL ..
  · rintro lo' σ' ⟨L1, h0, h1, h2, h3⟩
    walk_at "ss"
    exact q _ _ L1 h0 h1 h2 h3
end
section
set_option maxHeartbeats 400000

variable {C : Cx} {A : Around} {σ : Hp} {Q : MV → Hp → Prop} {QS : Fl → Loc → Hp → Prop}
theorem ex_l3 (T : Tw C) {N : Nat} {A' : Around} (hA' : Ar A' N) {cd : Value} {f L : Addr} {lo : Loc} {dr thr0 thrF : List Nat} {n0 tL : Nat} (hdr : DrOk dr) (h1 : lo "due" = some (.ref 1)) (h2 : lo "texts" = some (.ref 2)) (h3 : lo "ends" = some (.ref 3)) (h4 : lo "thrown" = some (.ref tL)) (h0 : lo "draws" = some (.ref 0))
    (L0 : LS dr 4 σ) (ht : σ tL = some (.list ((nI thr0).map .int))) (htl : 4 ≤ tL) (hl0 : thr0.length = 4) (hpop : PopTo dr n0 thr0 thrF)
    (q : ∀ lo' σ', LS dr 4 σ' → σ' tL = some (.list ((nI thrF).map .int)) → thrF.length = 4 → (∀ w, w < 4 → thrF.getD w 0 ≤ 3) → lo' "draws" = some (.ref 0) → lo' "due" = some (.ref 1) → lo' "texts" = some (.ref 2) → lo' "ends" = some (.ref 3) → lo' "thrown" = some (.ref tL) → lo' "tops" = some (.lst ((nI (topsOf dr thrF)).map .int)) → QS .next lo' σ') :
    Ex C A' (fmL cd f L) (nth (dfBody (st2 17)) 7) lo σ QS := by
  show Ex C A' _ (.While _ _ _ _) _ _ _
  refine ex_whileL (fun n lo σ' => ∃ thr, A9 (thr.length = 4) (LS dr 4 σ') (σ' tL = some (.list ((nI thr).map .int))) (PopTo dr n thr thrF) (lo "draws" = some (.ref 0)) (lo "due" = some (.ref 1)) (lo "texts" = some (.ref 2)) (lo "ends" = some (.ref 3)) (lo "thrown" = some (.ref tL))) ?_ n0 ⟨thr0, hl0, L0, ht, hpop, h0, h1, h2, h3, h4⟩
  clear h0 h1 h2 h3 h4 L0 ht hpop hl0
  rintro n K1 K2 hK1 hK2 lo σ' ⟨thr, hl, L0, ht, hpop, h0, h1, h2, h3, h4⟩
  refine tr_val (ev_bool (tru_bool ?_)) (by with_unfolding_all rfl)
  refine iteB (fun _ => ?_) fun h => nomatch h
  have hth : ∀ w, w < 4 → thr.getD w 0 ≤ 3 := by cases hpop <;> assumption
  refine exs_cons ?_
  show Ex _ _ _ (.Assign _ (.ListComp _ (_ :: _) _ _) _) _ _ _
  refine ex_comp (compOk_of (by kernel_rfl!)) 4 (fun k => .int (0 + k * 1)) (fun _ => True) (fun k l σ'' ys => A4 (σ'' = σ') (l "due" = some (.ref 1)) (l "thrown" = some (.ref tL)) (ys = ((nI (topsOf dr thr)).map .int).take k)) ?_ (by intro g h; cases h) ?_ ?_ (by walk_at "can") (by kernel_rfl!)
  · refine walk_of ?_
    refine ev_callB (.ty _) (by kernel_rfl!) T.b_range.1 T.b_range.2 ?_
    walk_at "ss"
    refine cal_range1 ⟨walk_range hA'.h (by decide) (by decide), rfl, (if_pos (by kernel_rfl!)).trans h1, (if_pos (by kernel_rfl!)).trans h4, rfl⟩
  · rintro L' a k l σ'' ys hk ⟨rfl, l1, l2, rfl⟩ _
    rw [show ((0 : Int) + (k : Int) * 1) = ((k : Nat) : Int) by (first | lia | omega)]
    refine st_name (by walk_at "can") ?_
    show Inn _ _ _ _ _ _ _ _ _
    refine inn_emit rfl (by simp; (first | lia | omega)) ?_
    walk_at "ss"
    refine gi_list (l := (List.range 4).map (dueV dr)) (lst_ref L0.due) (by (first | lia | omega)) (by (first | lia | omega)) (m := dueV dr k) (by simp [hk]) ?_
    walk_at "ss"
    refine gi_list (l := (nI thr).map .int) (lst_ref ht) (by (first | lia | omega)) (by (first | lia | omega)) (nI_at _ _ (by (first | lia | omega))) ?_
    have hd : ((dueOf dr k).map pV)[((thr.getD k 0 : Nat) : Int).toNat]? = some (pV ((dueOf dr k).getD (thr.getD k 0) (0, 4))) := by
      have := hth k hk
      have hl := dueOf_len dr k
      have : thr.getD k 0 < (dueOf dr k).length := by (first | lia | omega)
      exact map_at pV _ (0, 4) this
    refine gi_list (l := (dueOf dr k).map pV) rfl (by (first | lia | omega)) (by have := hth k hk; (first | lia | omega)) hd ?_
    walk_at "ss"
    refine gi_tup (m := .int (((dueOf dr k).getD (thr.getD k 0) (0, 4)).2 : Nat)) (by decide) (by simp) (by decide) rfl ?_
    refine ⟨⟨rfl, by walk_at "lk", by walk_at "lk", ?_⟩, trivial⟩
    rw [List.take_add_one, nI_at' _ k (by rw [topsOf_len]; (first | lia | omega)), topsOf_at dr thr hk]
    rfl
  rintro l σ'' ys ⟨rfl, _, _, rfl⟩ _
  have htops := topsOf_le dr thr
  have htl4 := topsOf_len dr thr
  rw [show ((nI (topsOf dr thr)).map MV.int).take 4 = (nI (topsOf dr thr)).map .int from List.take_of_length_le (by simp [nI, htl4])]
  generalize htp : topsOf dr thr = tops at *
  walk_at "ss"
  obtain ⟨rL, hrL⟩ := L0.wf.new
  have hr4 := L0.no hrL
  have hrt : rL ≠ tL := ne_of_hp hrL ht
  refine ev_lstT rL ?_
  walk_at "ss"
  refine ⟨by decide, hrL, ?_⟩
  walk_at "ss"
  refine ex_forR 4 (fun k lo σ₁ => A10 (LS dr 4 σ₁) (σ₁ tL = some (.list ((nI thr).map .int))) (σ₁ rL = some (.list ((nI (ringsK tops k)).map .int))) (lo "draws" = some (.ref 0)) (lo "due" = some (.ref 1)) (lo "texts" = some (.ref 2)) (lo "ends" = some (.ref 3)) (lo "thrown" = some (.ref tL)) (lo "tops" = some (.lst ((nI tops).map .int))) (lo "rings" = some (.ref rL))) hA'.h T.b_range (by kernel_rfl!) (by walk_at "can") (by decide) ?_ ?_ ?_
  · walk_at "ss"
    exact ⟨rfl, L0.set hr4 (by intros; intro h; cases h), (hp_other (Ne.symm hrt) rfl).trans ht, hp_same, by walk_at "lk", by walk_at "lk", by walk_at "lk", by walk_at "lk", by walk_at "lk", by walk_at "lk", by walk_at "lk"⟩
  · clear h0 h1 h2 h3 h4
    rintro w K3 hK3 lo σ₁ hw ⟨L1, t1, r1, h0, h1, h2, h3, h4, h5, h6⟩
    walk_at "ss"
    refine gi_list (l := (nI tops).map .int) rfl (by (first | lia | omega)) (by (first | lia | omega)) (nI_at _ _ (by (first | lia | omega))) ?_
    walk_at "ss"
    refine ex_forR 3 (fun s lo σ₂ => A10 (σ₂ = σ₁) (lo "draws" = some (.ref 0)) (lo "due" = some (.ref 1)) (lo "texts" = some (.ref 2)) (lo "ends" = some (.ref 3)) (lo "thrown" = some (.ref tL)) (lo "tops" = some (.lst ((nI tops).map .int))) (lo "rings" = some (.ref rL)) (lo "who" = some (.int (w : Nat))) (lo "here" = some (.int (goRing tops w s : Nat)))) hA'.h T.b_range (by kernel_rfl!) (by walk_at "can") (by decide) ?_ ?_ ?_
    · walk_at "ss"
      exact ⟨rfl, rfl, by walk_at "lk", by walk_at "lk", by walk_at "lk", by walk_at "lk", by walk_at "lk", by walk_at "lk", by walk_at "lk", by walk_at "lk", by walk_at "lk"⟩
    · rintro s K4 hK4 lo σ₂ hs ⟨rfl, h0, h1, h2, h3, h4, h5, h6, h7, h8⟩
      have hgl := goRing_le htops w s
      have hgs : goRing tops w (s + 1) = if goRing tops w s ≠ w ∧ goRing tops w s ≠ 4 then tops.getD (goRing tops w s) 0 else goRing tops w s := rfl
      generalize goRing tops w s = gg at *
      walk_at "ss"
      refine TrT.val (decide (gg ≠ w ∧ gg ≠ 4)) ?_ ?_
      · refine tr_and (and_cons ?_)
        walk_at "ss"
        refine iteB (fun h => ?_) fun h => ?_
        · walk_at "ss"
          refine iteB (fun h' => ?_) fun h' => ?_
          · walk_at "ss"
            exact ⟨by simp at h h' ⊢; (first | lia | omega), rfl⟩
          · exact ⟨by simp at h h' ⊢; (first | lia | omega), rfl⟩
        · exact ⟨by simp at h ⊢; (first | lia | omega), rfl⟩
      refine iteB (fun h => ?_) fun h => ?_
      · have h' : gg ≠ w ∧ gg ≠ 4 := of_decide_eq_true h
        walk_at "ss"
        refine gi_list (l := (nI tops).map .int) rfl (by (first | lia | omega)) (by (first | lia | omega)) (nI_at _ _ (by (first | lia | omega))) ?_
        walk_at "ss"
        exact ⟨rfl, by walk_at "lk", by walk_at "lk", by walk_at "lk", by walk_at "lk", by walk_at "lk", by walk_at "lk", by walk_at "lk", by walk_at "lk", by rw [hgs, if_pos h']; walk_at "lk"⟩
      · have h' : ¬ (gg ≠ w ∧ gg ≠ 4) := of_decide_eq_false h
        walk_at "ss"
        exact ⟨rfl, by walk_at "lk", by walk_at "lk", by walk_at "lk", by walk_at "lk", by walk_at "lk", by walk_at "lk", by walk_at "lk", by walk_at "lk", by rw [hgs, if_neg h']; walk_at "lk"⟩
    · clear h0 h1 h2 h3 h4 h5 h6
      rintro lo σ₂ ⟨rfl, h0, h1, h2, h3, h4, h5, h6, h7, h8⟩
      have hrk : ringsK tops (w + 1) = ringsK tops w ++ (if goRing tops w 3 = w then [w] else []) := by
        unfold ringsK
        rw [List.range_succ, List.filter_append]
        congr 1
        by_cases e : goRing tops w 3 = w
        · rw [if_pos e]; simp [onRing, e]
        · rw [if_neg e]; simp [onRing, e]
      walk_at "ss"
      refine iteB (fun h => ?_) fun h => ?_
      · have e : goRing tops w 3 = w := Int.ofNat.inj (show ((goRing tops w 3 : Nat) : Int) = (w : Nat) by simpa using h)
        rw [if_pos e] at hrk
        walk_at "ss"
        refine ev_append ?_
        walk_at "ss"
        refine ⟨rL, _, rfl, r1, ?_⟩
        walk_at "ss"
        refine ⟨_, r1, ?_, ?_⟩
        · have : (ringsK tops w).length ≤ w := by unfold ringsK; have := List.length_filter_le (onRing tops) (List.range w); simpa using this
          simp [nI]; (first | lia | omega)
        have e2 : (nI (ringsK tops w)).map MV.int ++ [.int (w : Nat)] = (nI (ringsK tops (w + 1))).map MV.int := by rw [hrk]; simp [nI]
        rw [e2]
        walk_at "ss"
        exact ⟨L1.set hr4 (by intros; intro h; cases h), (hp_other (Ne.symm hrt) rfl).trans t1, hp_same, by walk_at "lk", by walk_at "lk", by walk_at "lk", by walk_at "lk", by walk_at "lk", by walk_at "lk", by walk_at "lk"⟩
      · have e : ¬ goRing tops w 3 = w := fun e => (show ¬ ((goRing tops w 3 : Nat) : Int) = (w : Nat) by simpa using h) (by rw [e])
        rw [if_neg e, List.append_nil] at hrk
        walk_at "ss"
        exact ⟨L1, t1, by rw [hrk]; exact r1, by walk_at "lk", by walk_at "lk", by walk_at "lk", by walk_at "lk", by walk_at "lk", by walk_at "lk", by walk_at "lk"⟩
  · clear h0 h1 h2 h3 h4
    rintro lo σ₁ ⟨L1, t1, r1, h0, h1, h2, h3, h4, h5, h6⟩
    have hrs : ringsK tops 4 = ringsOf tops := rfl
    rw [hrs] at r1
    walk_at "ss"
    refine ev_lst ?_
    walk_at "ss"
    refine ⟨by decide, ?_⟩
    refine op_eqE (by have := hA'.cl; (first | lia | omega)) (l := (nI (ringsOf tops)).map .int) (lst_ref r1) ?_
    walk_at "ss"
    refine iteB (fun h => ?_) fun h => ?_
    · have hr0 : ringsOf tops = [] := by
        cases e : ringsOf tops with
        | nil => rfl
        | cons x l => rw [e] at h; cases h
      obtain rfl := hpop.stop (by rw [htp]; exact hr0)
      walk_at "ss"
      exact q _ _ L1 t1 hl hth h0 h1 h2 h3 h4 (by rw [htp]; exact h5)
    · have hr0 : ringsOf tops ≠ [] := by
        intro e; rw [e] at h; cases h
      obtain ⟨n', hn', hpop'⟩ := hpop.go (by rw [htp]; exact hr0)
      rw [htp] at hpop'
      walk_at "ss"
      refine ex_for1 (ringsOf tops).length (fun k => ((nI (ringsOf tops)).map MV.int).getD k .none) (fun σ₂ => lstOf σ₂ (.ref rL) = some ((nI (ringsOf tops)).map .int)) (fun k lo σ₂ => A7 (LS dr 4 σ₂) (σ₂ tL = some (.list ((nI (((ringsOf tops).take k).foldl incr thr)).map .int))) (lo "draws" = some (.ref 0)) (lo "due" = some (.ref 1)) (lo "texts" = some (.ref 2)) (lo "ends" = some (.ref 3)) (lo "thrown" = some (.ref tL))) (by walk_at "can") ?_ ?_ ?_
      · refine walk_of ?_
        walk_at "ss"
        have := walk_list (C := C) (A := A') (tg := .Name "who" ⟨211, 12, 211, 15⟩) (m := .ref rL) (σ := σ₁) (l := (nI (ringsOf tops)).map .int) hA'.h (lst_ref r1)
        rw [List.length_map, nI, List.length_map] at this
        exact ⟨this, L1, t1, by walk_at "lk", by walk_at "lk", by walk_at "lk", by walk_at "lk", by walk_at "lk"⟩
      · clear h0 h1 h2 h3 h4 h5 h6
        rintro k K5 hK5 lo σ₂ hk ⟨L2, t2, h0, h1, h2, h3, h4⟩ hJ
        have hit : ((nI (ringsOf tops)).map MV.int).getD k .none = .int ((ringsOf tops).getD k 0 : Nat) := nI_get _ k hk
        rw [hit]
        have hx4 : (ringsOf tops).getD k 0 < 4 := by
          rw [List.getD_eq_getElem?_getD, List.getElem?_eq_getElem hk]
          exact ringsK_lt (List.getElem_mem hk)
        have hfl : (((ringsOf tops).take k).foldl incr thr).length = 4 := by rw [foldl_incr_len]; exact hl
        have hfs : ((ringsOf tops).take (k + 1)).foldl incr thr = incr (((ringsOf tops).take k).foldl incr thr) ((ringsOf tops).getD k 0) := by
          rw [List.take_add_one, List.getElem?_eq_getElem hk, List.foldl_append]
          simp [List.getD, hk]
        rw [hfs] at hK5
        generalize ((ringsOf tops).take k).foldl incr thr = th at *
        generalize (ringsOf tops).getD k 0 = x at *
        walk_at "ss"
        refine gi_list (l := (nI th).map .int) (lst_ref t2) (by (first | lia | omega)) (by (first | lia | omega)) (nI_at _ _ (by (first | lia | omega))) ?_
        walk_at "ss"
        refine set_list t2 (by (first | lia | omega)) (by simp [nI, hfl]; (first | lia | omega)) (by (first | lia | omega)) ?_
        have e1 : ((nI th).map MV.int).set (x : Int).toNat (.int ((th.getD x 0 : Nat) + 1)) = (nI (incr th x)).map MV.int := nI_set th x (th.getD x 0 + 1)
        rw [e1]
        walk_at "ss"
        refine ⟨⟨L2.set htl (by intros; intro h; cases h), hp_same, by walk_at "lk", by walk_at "lk", by walk_at "lk", by walk_at "lk", by walk_at "lk"⟩, ?_⟩
        show (match (σ₂.set tL (.list ((nI (incr th x)).map .int))) rL with | some (.list l) => some l | _ => none) = _
        rw [show (σ₂.set tL (.list ((nI (incr th x)).map .int))) rL = σ₂ rL from hp_other hrt rfl]
        exact hJ
      · clear h0 h1 h2 h3 h4 h5 h6
        rintro lo σ₂ ⟨L2, t2, h0, h1, h2, h3, h4⟩ _
        rw [List.take_length] at t2
        walk_at "ss"
        exact ⟨n', hn', _, by rw [foldl_incr_len]; exact hl, L2, t2, hpop', h0, h1, h2, h3, h4⟩
end
section
set_option maxHeartbeats 400000

variable {C : Cx} {A : Around} {σ : Hp} {Q : MV → Hp → Prop} {QS : Fl → Loc → Hp → Prop}
structure FrP (tL pL : Nat) (tops : List Nat) (whole : Nat) (lo : Loc) : Prop where
  h0 : lo "draws" = some (.ref 0)
  h1 : lo "due" = some (.ref 1)
  h2 : lo "texts" = some (.ref 2)
  h3 : lo "ends" = some (.ref 3)
  h4 : lo "thrown" = some (.ref tL)
  h5 : lo "tops" = some (.lst ((nI tops).map .int))
  h6 : lo "whole" = some (.int (whole : Nat))
  h7 : lo "profile" = some (.ref pL)
theorem ex_hits (T : Tw C) {N : Nat} {A' : Around} (hA' : Ar A' N) {cd : Value} {f L : Addr} {lo : Loc} {dr thr tops : List Nat} {tL pL whole g : Nat} (F : FrP tL pL tops whole lo) (hg : lo "goal" = some (.int (g : Nat)))
    (L0 : LS dr 4 σ) (ht : σ tL = some (.list ((nI thr).map .int))) (hl : thr.length = 4) (hth : ∀ w, w < 4 → thr.getD w 0 ≤ 3) (q : QS .next (lo.set "hits" (.lst ((hitsOf dr thr g).map pV))) σ) :
    Ex C A' (fmL cd f L) (nth (stB (nth (dfBody (st2 17)) 10)) 0) lo σ QS := by
  obtain ⟨h0, h1, h2, h3, h4, h5, h6, h7⟩ := F
  show Ex _ _ _ (.Assign _ (.ListComp _ (_ :: _) _ _) _) _ _ _
  refine ex_comp (compOk_of (by kernel_rfl!)) 4 (fun k => .int (0 + k * 1)) (fun _ => True) (fun k l σ'' ys => A5 (σ'' = σ) (l "due" = some (.ref 1)) (l "thrown" = some (.ref tL)) (l "goal" = some (.int (g : Nat))) (ys = (hitsK dr thr g k).map pV)) ?_ (by intro g' h; cases h; rfl) ?_ ?_ (by walk_at "can") (by kernel_rfl!)
  · refine walk_of ?_
    refine ev_callB (.ty _) (by kernel_rfl!) T.b_range.1 T.b_range.2 ?_
    walk_at "ss"
    refine cal_range1 ⟨walk_range hA'.h (by decide) (by decide), rfl, (if_pos (by kernel_rfl!)).trans h1, (if_pos (by kernel_rfl!)).trans h4, (if_pos (by kernel_rfl!)).trans hg, rfl⟩
  · rintro L' a k l σ'' ys hk ⟨rfl, l1, l2, l3, rfl⟩ _
    rw [show ((0 : Int) + (k : Int) * 1) = ((k : Nat) : Int) by (first | lia | omega)]
    refine st_name (by walk_at "can") ?_
    show Inn _ _ _ _ _ _ _ _ _
    have hdl := dueOf_len dr k
    have htk := hth k hk
    refine inn_gen (thr.getD k 0 + 1) (fun j => (((dueOf dr k).take (thr.getD k 0 + 1)).map pV).getD j .none) (fun σ₁ => lstOf σ₁ (.lst (((dueOf dr k).take (thr.getD k 0 + 1)).map pV)) = some (((dueOf dr k).take (thr.getD k 0 + 1)).map pV))
      (fun j l σ₁ ys => A6 (σ₁ = σ'') (l "due" = some (.ref 1)) (l "thrown" = some (.ref tL)) (l "goal" = some (.int (g : Nat))) (l "who" = some (.int (k : Nat))) (ys = (hitsK dr thr g k ++ ((((dueOf dr k).take (thr.getD k 0 + 1)).take j).filter fun p => p.2 == g).map fun p => (k, p.1)).map pV)) rfl (by intro g' h; cases h) ?_ ?_ ?_
    · refine walk_of ?_
      walk_at "ss"
      refine gi_list (l := (List.range 4).map (dueV dr)) (lst_ref L0.due) (by (first | lia | omega)) (by (first | lia | omega)) (m := dueV dr k) (by simp [hk]) ?_
      walk_at "ss"
      refine gi_list (l := (nI thr).map .int) (lst_ref ht) (by (first | lia | omega)) (by (first | lia | omega)) (nI_at _ _ (by (first | lia | omega))) ?_
      walk_at "ss"
      refine slc_lst (l := (dueOf dr k).map pV) rfl (by simp; (first | lia | omega)) (by simp) ?_
      rw [show ((thr.getD k 0 : Nat) : Int) + 1 = ((thr.getD k 0 + 1 : Nat) : Int) by (first | lia | omega), cutL_take, ← List.map_take]
      have := walk_list (C := C) (A := A') (tg := .Tuple [.Name "kind" ⟨216, 52, 216, 56⟩, .Name "to" ⟨216, 58, 216, 60⟩] 0 ⟨216, 52, 216, 60⟩) (m := .lst (((dueOf dr k).take (thr.getD k 0 + 1)).map pV)) (σ := σ'') hA'.h rfl
      rw [List.length_map, List.length_take, hdl, Nat.min_eq_left (by (first | lia | omega))] at this
      exact ⟨this, rfl, by walk_at "lk", by walk_at "lk", by walk_at "lk", by walk_at "lk", by simp⟩
    · rintro j l σ₁ ys hj ⟨rfl, i1, i2, i3, i4, rfl⟩ hJ
      have hjl : j < ((dueOf dr k).take (thr.getD k 0 + 1)).length := by rw [List.length_take, hdl]; (first | lia | omega)
      have hitm : (((dueOf dr k).take (thr.getD k 0 + 1)).map pV).getD j .none = pV (((dueOf dr k).take (thr.getD k 0 + 1)).getD j (0, 0)) := by
        rw [List.getD_eq_getElem?_getD, map_at pV _ (0, 0) hjl]; rfl
      rw [hitm]
      have hts : ((dueOf dr k).take (thr.getD k 0 + 1)).take (j + 1) = ((dueOf dr k).take (thr.getD k 0 + 1)).take j ++ [((dueOf dr k).take (thr.getD k 0 + 1)).getD j (0, 0)] := take_snoc _ _ hjl
      rw [hts]
      have hdl2 : (((dueOf dr k).take (thr.getD k 0 + 1)).take j).length ≤ 4 := by simp; (first | lia | omega)
      generalize ((dueOf dr k).take (thr.getD k 0 + 1)).take j = pre at *
      generalize ((dueOf dr k).take (thr.getD k 0 + 1)).getD j (0, 0) = p at *
      obtain ⟨p1, p2⟩ := p
      refine st_tup2 (a := .int (p1 : Nat)) (b := .int (p2 : Nat)) hA'.h (by walk_at "can") (by walk_at "can") ?_
      show Tr _ _ _ _ _ _ _
      walk_at "ss"
      refine iteB (fun h => ?_) fun h => ?_
      · have e : p2 = g := Int.ofNat.inj (show ((p2 : Nat) : Int) = (g : Nat) by simpa using h)
        show Inn _ _ _ _ _ _ _ _ _
        refine inn_emit rfl ?_ ?_
        · have := hitsK_len dr thr g k
          have := List.length_filter_le (fun p : Nat × Nat => p.2 == g) pre
          simp only [List.length_map, List.length_append]; (first | lia | omega)
        walk_at "ss"
        refine ⟨by show 2 ≤ _; decide, ⟨rfl, by walk_at "lk", by walk_at "lk", by walk_at "lk", by walk_at "lk", ?_⟩, rfl⟩
        simp [e, pV]
      · have e : ¬ p2 = g := fun e => (show ¬ ((p2 : Nat) : Int) = (g : Nat) by simpa using h) (by rw [e])
        refine ⟨⟨rfl, by walk_at "lk", by walk_at "lk", by walk_at "lk", by walk_at "lk", ?_⟩, rfl⟩
        simp [e]
    · rintro l σ₁ ys ⟨rfl, i1, i2, i3, i4, rfl⟩ _
      refine ⟨⟨rfl, i1, i2, i3, ?_⟩, trivial⟩
      rw [hitsK_succ, hitW, List.take_of_length_le (i := thr.getD k 0 + 1) (l := (dueOf dr k).take (thr.getD k 0 + 1)) (by rw [List.length_take]; (first | lia | omega))]
  · rintro l σ'' ys ⟨rfl, _, _, _, rfl⟩ _
    exact q
end
section
set_option maxHeartbeats 400000

variable {C : Cx} {A : Around} {σ : Hp} {Q : MV → Hp → Prop} {QS : Fl → Loc → Hp → Prop}
section
variable {fm : Fm} {loc : Loc}
theorem cal_sumN {l : List Nat} {b : Nat} (hh : A.handled = none) (hb : ∀ x ∈ l, x ≤ 100) (hl : l.length ≤ 1000) (q : Q (.int (l.sum : Nat)) σ) : Cal C A fm (.builtin "sum") [.lst ((nI l).map .int)] loc σ Q := by
  refine cal_sum (ns := nI l) hh rfl (fun k hk => ?_) (fun x hx => ?_) (by rw [nI_sum]; exact q)
  · rw [nI_take, nI_sum]
    have h1 : ∀ x ∈ l.take k, x ≤ 100 := fun x hx => hb x (List.mem_of_mem_take hx)
    have h2 := sum_le h1
    have h3 : (l.take k).length ≤ 1000 := by rw [List.length_take]; (first | lia | omega)
    exact inLong_small (by (first | lia | omega)) (by (first | lia | omega))
  · obtain ⟨n, hn, rfl⟩ := List.mem_map.mp hx
    have := hb n hn
    exact inLong_small (by (first | lia | omega)) (by (first | lia | omega))
end
theorem ex_calls (T : Tw C) {N : Nat} {A' : Around} (hA' : Ar A' N) {cd : Value} {f L : Addr} {lo : Loc} {hits : List (Nat × Nat)} {tops : List Nat} {tL pL whole g cL : Nat} {even : Bool} (he : even = decide (whole % 2 = 0)) (hwh : whole ≤ 1000000) (F : FrP tL pL tops whole lo) (hg : lo "goal" = some (.int (g : Nat)))
    (hh : lo "hits" = some (.lst (hits.map pV))) (hc : lo "calls" = some (.ref cL)) (hcl : σ cL = some (.dict [])) (hlen : hits.length ≤ 100) (hle : ∀ p ∈ hits, p.2 ≤ 3)
    (q : ∀ lo', FrP tL pL tops whole lo' → lo' "goal" = some (.int (g : Nat)) → lo' "hits" = some (.lst (hits.map pV)) → lo' "calls" = some (.ref cL) → QS .next lo' (σ.set cL (.dict (rC even (callsK hits 4))))) :
    Ex C A' (fmL cd f L) (nth (stB (nth (stB (nth (dfBody (st2 17)) 10)) 1)) 1) lo σ QS := by
  show Ex C A' _ (.For (.Name _ _) (.Call (.Name _ _) [_] [] _) _ _ _) _ _ _
  refine ex_forR 4 (fun k lo σ' => A5 (FrP tL pL tops whole lo) (lo "goal" = some (.int (g : Nat))) (lo "hits" = some (.lst (hits.map pV))) (lo "calls" = some (.ref cL)) (σ' = σ.set cL (.dict (rC even (callsK hits k))))) hA'.h T.b_range (by kernel_rfl!) (by walk_at "can") (by decide) ?_ ?_ ?_
  · walk_at "ss"
    exact ⟨rfl, F, hg, hh, hc, (set_self hcl).symm⟩
  · clear F hg hh hc
    rintro w K1 hK1 lo σ' hw ⟨F, hg, hh, hc, rfl⟩
    obtain ⟨h0, h1, h2, h3, h4, h5, h6, h7⟩ := F
    refine exs_cons ?_
    show Ex _ _ _ (.Assign _ (.ListComp _ (_ :: _) _ _) _) _ _ _
    refine ex_comp (compOk_of (by kernel_rfl!)) hits.length (fun j => (hits.map pV).getD j .none) (fun σ₁ => lstOf σ₁ (.lst (hits.map pV)) = some (hits.map pV)) (fun j l σ'' ys => A3 (σ'' = σ.set cL (.dict (rC even (callsK hits w)))) (l "who" = some (.int (w : Nat))) (ys = (nI (kindsOf (hits.take j) w)).map .int)) ?_ (by intro g' h; cases h) ?_ ?_ (by walk_at "can") (by kernel_rfl!)
    · refine walk_of ?_
      walk_at "ss"
      have := walk_list (C := C) (A := A') (tg := .Tuple [.Name "one" ⟨220, 34, 220, 37⟩, .Name "kind" ⟨220, 39, 220, 43⟩] 0 ⟨220, 34, 220, 43⟩) (m := .lst (hits.map pV)) (σ := σ.set cL (.dict (rC even (callsK hits w)))) hA'.h rfl
      rw [List.length_map] at this
      exact ⟨this, rfl, (if_pos (by kernel_rfl!)).trans at_same, rfl⟩
    · rintro L' a j l σ'' ys hj ⟨rfl, l1, rfl⟩ _
      have hitm : (hits.map pV).getD j .none = pV (hits.getD j (0, 0)) := by
        rw [List.getD_eq_getElem?_getD, map_at pV _ (0, 0) hj]; rfl
      have hkl := kindsOf_len (hits.take j) w
      rw [List.length_take] at hkl
      rw [hitm, take_snoc hits (0, 0) hj, kindsOf_append]
      generalize hits.getD j (0, 0) = p
      obtain ⟨p1, p2⟩ := p
      refine st_tup2 (a := .int (p1 : Nat)) (b := .int (p2 : Nat)) hA'.h (by walk_at "can") (by walk_at "can") ?_
      show Tr _ _ _ _ _ _ _
      walk_at "ss"
      refine iteB (fun h => ?_) fun h => ?_
      · have e : p1 = w := Int.ofNat.inj (show ((p1 : Nat) : Int) = (w : Nat) by simpa using h)
        show Inn _ _ _ _ _ _ _ _ _
        refine inn_emit rfl (by simp [nI]; (first | lia | omega)) ?_
        walk_at "ss"
        exact ⟨⟨rfl, by walk_at "lk", by simp [kindsOf, e, nI]⟩, rfl⟩
      · have e : ¬ p1 = w := fun e => (show ¬ ((p1 : Nat) : Int) = (w : Nat) by simpa using h) (by rw [e])
        exact ⟨⟨rfl, by walk_at "lk", by simp [kindsOf, e, nI]⟩, rfl⟩
    rintro l σ'' ys ⟨rfl, _, rfl⟩ _
    rw [List.take_length]
    have hkl := kindsOf_len hits w
    have hkle := kindsOf_le hle w
    walk_at "ss"
    refine ev_lst ?_
    walk_at "ss"
    refine ⟨by decide, ?_⟩
    refine op_neE (by have := hA'.cl; (first | lia | omega)) (l := (nI (kindsOf hits w)).map .int) rfl ?_
    walk_at "ss"
    refine iteB (fun h => ?_) fun h => ?_
    · have hne : kindsOf hits w ≠ [] := by intro e; rw [e] at h; cases h
      walk_at "s"
      walk_at "s"
      refine EvT.mono (Q := fun m τ => m = vC even ((kindsOf hits w).length : Int) (((kindsOf hits w).sum : Nat) : Int) ∧ σ.set cL (.dict (rC even (callsK hits w))) = τ) ?_ ?_
      · refine ev_if ?_
        walk_at "ss"
        refine op_mod (by decide) ?_
        walk_at "ss"
        refine iteB (fun h => ?_) fun h => ?_
        · have e : even = true := by rw [he]; have : ((whole : Nat) : Int) % 2 = 0 := by simpa using h
                                     simp; (first | lia | omega)
          refine ev_callB (.bi _) (by kernel_rfl!) T.b_len.1 T.b_len.2 ?_
          walk_at "ss"
          refine cal_lenl (l := (nI (kindsOf hits w)).map .int) rfl (by simp [nI]; (first | lia | omega)) ?_
          refine ⟨?_, rfl⟩
          rw [e]; simp [vC, nI]
        · have e : even = false := by rw [he]; have : ¬ ((whole : Nat) : Int) % 2 = 0 := by simpa using h
                                      simp; (first | lia | omega)
          refine ev_tup ?_ (by with_unfolding_all rfl)
          refine evl_cons ?_
          refine ev_callB (.bi _) (by kernel_rfl!) T.b_len.1 T.b_len.2 ?_
          walk_at "ss"
          refine cal_lenl (l := (nI (kindsOf hits w)).map .int) rfl (by simp [nI]; (first | lia | omega)) ?_
          refine evl_cons ?_
          refine ev_callB (.bi _) (by kernel_rfl!) T.b_sum.1 T.b_sum.2 ?_
          walk_at "ss"
          refine cal_sumN (b := 3) hA'.h (fun x hx => by have := hkle x hx; (first | lia | omega)) (by (first | lia | omega)) ?_
          walk_at "ss"
          refine ⟨by show 2 ≤ _; decide, ?_, rfl⟩
          rw [e]; simp [vC, nI]
      rintro _ _ ⟨rfl, rfl⟩
      walk_at "ss"
      refine gi_n4 hw ?_
      refine set_dict hp_same (by have := callsK_len hits w; simp [rC]; (first | lia | omega)) ?_
      rw [set_set, putAt_calls hw hne]
      walk_at "ss"
      exact ⟨⟨by walk_at "lk", by walk_at "lk", by walk_at "lk", by walk_at "lk", by walk_at "lk", by walk_at "lk", by walk_at "lk", by walk_at "lk"⟩, by walk_at "lk", by walk_at "lk", by walk_at "lk", rfl⟩
    · have hne : kindsOf hits w = [] := by
        cases e : kindsOf hits w with
        | nil => rfl
        | cons x l => rw [e] at h; cases h
      walk_at "ss"
      refine ⟨⟨by walk_at "lk", by walk_at "lk", by walk_at "lk", by walk_at "lk", by walk_at "lk", by walk_at "lk", by walk_at "lk", by walk_at "lk"⟩, by walk_at "lk", by walk_at "lk", by walk_at "lk", ?_⟩
      rw [callsK_succ, if_pos hne, List.append_nil]
  · rintro lo' σ' ⟨F, hg, hh, hc, rfl⟩
    walk_at "ss"
    exact q _ F hg hh hc
end
section
set_option maxHeartbeats 400000

variable {C : Cx} {A : Around} {σ : Hp} {Q : MV → Hp → Prop} {QS : Fl → Loc → Hp → Prop}
structure PS (even : Bool) (dr thr : List Nat) (tL pL k : Nat) (σ : Hp) : Prop where
  ls : LS dr 4 σ
  t : σ tL = some (.list ((nI thr).map .int))
  p : ∃ D, σ pL = some (.dict D) ∧ PfD even pL σ D (profK dr thr k)
theorem ex_prof (T : Tw C) {N : Nat} {A' : Around} (hA' : Ar A' N) {cd : Value} {f L : Addr} {lo : Loc} {dr thr tops : List Nat} {tL pL whole : Nat} {even : Bool} (he : even = decide (whole % 2 = 0)) (hwh : whole ≤ 1000000) (F : FrP tL pL tops whole lo) (hpl : 4 ≤ pL) (htp : tL ≠ pL)
    (hl : thr.length = 4) (hth : ∀ w, w < 4 → thr.getD w 0 ≤ 3) (P0 : PS even dr thr tL pL 0 σ)
    (q : ∀ lo' σ', FrP tL pL tops whole lo' → PS even dr thr tL pL 5 σ' → QS .next lo' σ') :
    Ex C A' (fmL cd f L) (nth (dfBody (st2 17)) 10) lo σ QS := by
  show Ex C A' _ (.For (.Name _ _) (.Call (.Name _ _) [_] [] _) _ _ _) _ _ _
  refine ex_forR 5 (fun k lo σ' => FrP tL pL tops whole lo ∧ PS even dr thr tL pL k σ') hA'.h T.b_range (by kernel_rfl!) (by walk_at "can") (by decide) ?_ ?_ ?_
  · walk_at "ss"
    exact ⟨rfl, F, P0⟩
  · clear F P0
    rintro g K1 hK1 lo σ' hg ⟨F, P⟩
    obtain ⟨D, hD, hP⟩ := P.p
    have hF : FrP tL pL tops whole (lo.set "goal" (.int (g : Nat))) := by
      obtain ⟨h0, h1, h2, h3, h4, h5, h6, h7⟩ := F
      exact ⟨by walk_at "lk", by walk_at "lk", by walk_at "lk", by walk_at "lk", by walk_at "lk", by walk_at "lk", by walk_at "lk", by walk_at "lk"⟩
    refine exs_cons ?_
    refine ex_hits T hA' hF at_same P.ls P.t hl hth ?_
    have hlen := hitsK_len dr thr g 4
    rw [← hitsOf_K] at hlen
    have hle : ∀ p ∈ hitsOf dr thr g, p.2 ≤ 3 := fun p hp => hitsK_mem (k := 4) (by rw [← hitsOf_K]; exact hp)
    have hps := profK_succ dr thr g
    generalize hitsOf dr thr g = hits at *
    have hF2 : FrP tL pL tops whole ((lo.set "goal" (.int (g : Nat))).set "hits" (.lst (hits.map pV))) := by
      obtain ⟨h0, h1, h2, h3, h4, h5, h6, h7⟩ := hF
      exact ⟨by walk_at "lk", by walk_at "lk", by walk_at "lk", by walk_at "lk", by walk_at "lk", by walk_at "lk", by walk_at "lk", by walk_at "lk"⟩
    have hg2 : ((lo.set "goal" (.int (g : Nat))).set "hits" (.lst (hits.map pV))) "goal" = some (.int (g : Nat)) := at_other (by kernel_rfl!) at_same
    have hh2 : ((lo.set "goal" (.int (g : Nat))).set "hits" (.lst (hits.map pV))) "hits" = some (.lst (hits.map pV)) := at_same
    generalize (lo.set "goal" (.int (g : Nat))).set "hits" (.lst (hits.map pV)) = lo2 at *
    clear F hF
    walk_at "ss"
    refine ev_lst ?_
    walk_at "ss"
    refine ⟨by decide, ?_⟩
    refine op_neE (by have := hA'.cl; (first | lia | omega)) (l := hits.map pV) rfl ?_
    walk_at "ss"
    refine iteB (fun h => ?_) fun h => ?_
    rotate_left
    · have hne : hits = [] := by
        cases hits with
        | nil => rfl
        | cons x l => cases h
      rw [if_pos hne, List.append_nil] at hps
      walk_at "ss"
      exact ⟨hF2, P.ls, P.t, D, hD, by rw [hps]; exact hP⟩
    have hne : hits ≠ [] := by intro e; rw [e] at h; cases h
    rw [if_neg hne] at hps
    obtain ⟨cL, hcL⟩ := P.ls.wf.new
    have hc4 := P.ls.no hcL
    have hcp : cL ≠ pL := ne_of_hp hcL hD
    have hct : cL ≠ tL := ne_of_hp hcL P.t
    walk_at "ss"
    refine ev_dctT cL hcL ?_
    walk_at "s"
    walk_at "s"
    have hF3 : FrP tL pL tops whole (lo2.set "calls" (.ref cL)) := by
      obtain ⟨h0, h1, h2, h3, h4, h5, h6, h7⟩ := hF2
      exact ⟨by walk_at "lk", by walk_at "lk", by walk_at "lk", by walk_at "lk", by walk_at "lk", by walk_at "lk", by walk_at "lk", by walk_at "lk"⟩
    refine ex_calls T hA' he hwh hF3 (by walk_at "lk") (by walk_at "lk") at_same hp_same (by (first | lia | omega)) hle fun lo3 F hg3 hh3 hc3 => ?_
    rw [set_set]
    have hcs : (σ'.set cL (.dict (rC even (callsK hits 4)))) cL = some (.dict (rC even (rowOf hits).calls)) := hp_same
    have hD2 : (σ'.set cL (.dict (rC even (callsK hits 4)))) pL = some (.dict D) := (hp_other (Ne.symm hcp) rfl).trans hD
    have ht2 : (σ'.set cL (.dict (rC even (callsK hits 4)))) tL = some (.list ((nI thr).map .int)) := (hp_other (Ne.symm hct) rfl).trans P.t
    have hP2 : PfD even pL (σ'.set cL (.dict (rC even (callsK hits 4)))) D (profK dr thr g) := hP.keep fun c _ hn => hp_other (fun e => hn (by rw [e]; exact hcL)) rfl
    have hls2 : LS dr 4 (σ'.set cL (.dict (rC even (callsK hits 4)))) := P.ls.set hc4 (by intros; intro h; cases h)
    generalize σ'.set cL (.dict (rC even (callsK hits 4))) = σ2 at *
    clear hF3 hF2 hg2 hh2
    obtain ⟨h0, h1, h2, h3, h4, h5, h6, h7⟩ := F
    refine then_next (exs_cons ?_)
    show Ex _ _ _ (.Assign _ (.ListComp _ (_ :: _) _ _) _) _ _ _
    refine ex_comp (compOk_of (by kernel_rfl!)) hits.length (fun j => (hits.map pV).getD j .none) (fun σ₁ => lstOf σ₁ (.lst (hits.map pV)) = some (hits.map pV)) (fun j l σ'' ys => σ'' = σ2 ∧ ys = (nI ((hits.take j).map (·.2))).map .int) ?_ (by intro g' h; cases h) ?_ ?_ (by walk_at "can") (by kernel_rfl!)
    · refine walk_of ?_
      walk_at "ss"
      have := walk_list (C := C) (A := A') (tg := .Tuple [.Name "one" ⟨223, 30, 223, 33⟩, .Name "kind" ⟨223, 35, 223, 39⟩] 0 ⟨223, 30, 223, 39⟩) (m := .lst (hits.map pV)) (σ := σ2) hA'.h rfl
      rw [List.length_map] at this
      exact ⟨this, rfl, rfl⟩
    · rintro L' a j l σ'' ys hj ⟨rfl, rfl⟩ _
      have hitm : (hits.map pV).getD j .none = pV (hits.getD j (0, 0)) := by
        rw [List.getD_eq_getElem?_getD, map_at pV _ (0, 0) hj]; rfl
      rw [hitm, take_snoc hits (0, 0) hj]
      generalize hits.getD j (0, 0) = p
      obtain ⟨p1, p2⟩ := p
      refine st_tup2 (a := .int (p1 : Nat)) (b := .int (p2 : Nat)) hA'.h (by walk_at "can") (by walk_at "can") ?_
      show Inn _ _ _ _ _ _ _ _ _
      refine inn_emit rfl (by simp [nI]; (first | lia | omega)) ?_
      walk_at "ss"
      exact ⟨⟨rfl, by simp [nI]⟩, rfl⟩
    rintro l σ'' ys ⟨rfl, rfl⟩ _
    rw [List.take_length]
    have hks : ∀ x ∈ hits.map (·.2), x ≤ 3 := fun x hx => by obtain ⟨p, hp, rfl⟩ := List.mem_map.mp hx; exact hle p hp
    have hkl : (hits.map (·.2)).length ≤ 16 := by rw [List.length_map]; (first | lia | omega)
    have hrow : rowOf hits = ⟨((((hits.map (·.2)).filter (· == 0)).length : Nat) : Int), ((hits.map (·.2)).length : Nat), ((hits.map (·.2)).sum : Nat), (((hits.map (·.2)).map fun k => k * k).sum : Nat), callsK hits 4⟩ := by
      simp [rowOf]
    generalize hits.map (·.2) = ks at *
    walk_at "ss"
    refine ev_callB (.bi _) (by kernel_rfl!) T.b_len.1 T.b_len.2 ?_
    refine evl_cons ?_
    refine ev_comp (compOk_of (by kernel_rfl!)) ks.length (fun j => ((nI ks).map MV.int).getD j .none) (fun σ₁ => lstOf σ₁ (.lst ((nI ks).map .int)) = some ((nI ks).map .int)) (fun j l σ₁ ys => σ₁ = σ'' ∧ ys = (nI ((ks.take j).filter (· == 0))).map .int) ?_ (by intro g' h; cases h) ?_ ?_
    · refine walk_of ?_
      walk_at "ss"
      have := walk_list (C := C) (A := A') (tg := .Name "kind" ⟨224, 34, 224, 38⟩) (m := .lst ((nI ks).map .int)) (σ := σ'') hA'.h rfl
      rw [List.length_map, nI, List.length_map] at this
      exact ⟨this, rfl, rfl⟩
    · rintro L' a j l σ₁ ys hj ⟨rfl, rfl⟩ _
      have hfl : ((ks.take j).filter (· == 0)).length ≤ 16 := Nat.le_trans (List.length_filter_le _ _) (by rw [List.length_take]; (first | lia | omega))
      rw [nI_get ks j hj, take_snoc ks 0 hj]
      generalize ks.getD j 0 = x
      refine st_name (by walk_at "can") ?_
      show Tr _ _ _ _ _ _ _
      walk_at "ss"
      refine iteB (fun h => ?_) fun h => ?_
      · have e : x = 0 := Int.ofNat.inj (show ((x : Nat) : Int) = ((0 : Nat) : Int) by simpa using h)
        show Inn _ _ _ _ _ _ _ _ _
        refine inn_emit rfl (by simp [nI]; (first | lia | omega)) ?_
        walk_at "ss"
        exact ⟨⟨rfl, by simp [e, nI]⟩, rfl⟩
      · have e : ¬ x = 0 := fun e => (show ¬ ((x : Nat) : Int) = ((0 : Nat) : Int) by simpa using h) (by rw [e])
        exact ⟨⟨rfl, by simp [e, nI]⟩, rfl⟩
    rintro l σ₁ ys ⟨rfl, rfl⟩ _
    rw [List.take_length]
    have hfl : (ks.filter (· == 0)).length ≤ 16 := Nat.le_trans (List.length_filter_le _ _) hkl
    walk_at "ss"
    refine cal_lenl (l := (nI (ks.filter (· == 0))).map .int) rfl (by simp [nI]; (first | lia | omega)) ?_
    rw [show (((nI (ks.filter (· == 0))).map MV.int).length : Int) = ((ks.filter (· == 0)).length : Nat) by simp [nI]]
    walk_at "ss"
    refine ev_callB (.bi _) (by kernel_rfl!) T.b_len.1 T.b_len.2 ?_
    walk_at "ss"
    refine cal_lenl (l := (nI ks).map .int) rfl (by simp [nI]; (first | lia | omega)) ?_
    rw [show (((nI ks).map MV.int).length : Int) = (ks.length : Nat) by simp [nI]]
    refine evl_cons ?_
    refine ev_callB (.bi _) (by kernel_rfl!) T.b_sum.1 T.b_sum.2 ?_
    walk_at "ss"
    refine cal_sumN (b := 3) hA'.h (fun x hx => by have := hks x hx; (first | lia | omega)) (by (first | lia | omega)) ?_
    refine evl_cons ?_
    refine ev_callB (.bi _) (by kernel_rfl!) T.b_sum.1 T.b_sum.2 ?_
    refine evl_cons ?_
    refine ev_comp (compOk_of (by kernel_rfl!)) ks.length (fun j => ((nI ks).map MV.int).getD j .none) (fun σ₂ => lstOf σ₂ (.lst ((nI ks).map .int)) = some ((nI ks).map .int)) (fun j l σ₂ ys => σ₂ = σ₁ ∧ ys = (nI ((ks.take j).map fun k => k * k)).map .int) ?_ (by intro g' h; cases h) ?_ ?_
    · refine walk_of ?_
      walk_at "ss"
      have := walk_list (C := C) (A := A') (tg := .Name "kind" ⟨225, 90, 225, 94⟩) (m := .lst ((nI ks).map .int)) (σ := σ₁) hA'.h rfl
      rw [List.length_map, nI, List.length_map] at this
      exact ⟨this, rfl, rfl⟩
    · rintro L' a j l σ₂ ys hj ⟨rfl, rfl⟩ _
      have hx3 : ks.getD j 0 ≤ 3 := hks _ (by rw [List.getD_eq_getElem?_getD, List.getElem?_eq_getElem hj]; exact List.getElem_mem hj)
      rw [nI_get ks j hj, take_snoc ks 0 hj]
      generalize ks.getD j 0 = x at *
      refine st_name (by walk_at "can") ?_
      show Inn _ _ _ _ _ _ _ _ _
      refine inn_emit rfl (by simp [nI]; (first | lia | omega)) ?_
      walk_at "ss"
      refine op_mulB (by (first | lia | omega)) ?_
      exact ⟨⟨rfl, by simp [nI]⟩, rfl⟩
    rintro l σ₂ ys ⟨rfl, rfl⟩ _
    rw [List.take_length]
    walk_at "ss"
    refine cal_sumN (b := 9) hA'.h (fun x hx => ?_) (by rw [List.length_map]; (first | lia | omega)) ?_
    · obtain ⟨y, hy, rfl⟩ := List.mem_map.mp hx
      have := hks y hy
      have : y * y ≤ 3 * 3 := Nat.mul_le_mul this this
      (first | lia | omega)
    walk_at "ss"
    refine ⟨by show 5 ≤ _; decide, ?_⟩
    walk_at "ss"
    refine gi_n5 (by (first | lia | omega)) ?_
    have hkeys : nameS g ∉ D.map (·.1) := by
      rw [hP2.keys]
      intro hm
      obtain ⟨q, hq, e⟩ := List.mem_map.mp hm
      have := profK_lt hq
      have := nameS_inj (by (first | lia | omega)) (by (first | lia | omega)) e
      (first | lia | omega)
    have hDl : D.length ≤ 5 := by
      have h1 := congrArg List.length hP2.keys
      simp at h1
      have : (profK dr thr g).length ≤ g := by unfold profK; exact Nat.le_trans (List.length_filterMap_le _ _) (by simp)
      (first | lia | omega)
    refine set_dict hD2 (by (first | lia | omega)) ?_
    rw [putAt_new hkeys]
    walk_at "ss"
    refine ⟨⟨by walk_at "lk", by walk_at "lk", by walk_at "lk", by walk_at "lk", by walk_at "lk", by walk_at "lk", by walk_at "lk", by walk_at "lk"⟩, hls2.set hpl (by intros; intro h; cases h), (hp_other htp rfl).trans ht2, _, hp_same, ?_⟩
    have hsn := hP2.snoc (g := g) (r := rowOf hits) hcp hcs
    rw [← hps] at hsn
    rw [hrow] at hsn
    exact hsn.keep fun c hc _ => hp_other hc rfl
  · rintro lo' σ' ⟨F, P⟩
    walk_at "ss"
    exact q _ _ F P
end
section
set_option maxHeartbeats 400000

structure Tq (C : Cx) extends Tw C where
  g_wlk : GlIs C "_law_walks" (.ref wlk)
  law : Addr
  Flaw : FnIs C law "law" (st2 17)
variable {C : Cx} {A : Around} {σ : Hp} {Q : MV → Hp → Prop} {QS : Fl → Loc → Hp → Prop}
theorem ex_l4 (T : Tq C) {N : Nat} {A' : Around} (hA' : Ar A' (N + 5)) {cd : Value} {f L : Addr} {lo : Loc} {dr thr : List Nat} {tL pL : Nat} {ws1 ws2 : WS} (hdr : DrOk dr) (F : FrP tL pL (topsOf dr thr) dr.sum lo) (P : PS (decide (dr.sum % 2 = 0)) dr thr tL pL 5 σ) (hl : thr.length = 4) (hth : ∀ w, w < 4 → thr.getD w 0 ≤ 3)
    (hsum : dr.sum ≤ 1000) (a1 : AllTo (textsOf dr) (startsOf dr) (ws0 kn0) ws1) (G1 : GoodW dr thr ws1) (a2 : AllTo (textsOf dr) (startsOf dr).reverse (ws0 ws1.kn) ws2) (G2 : GoodW dr thr ws2)
    (q : ∀ lo' σ', QS (.ret (.bool true)) lo' σ') : Exs C A' (fmL cd f L) ((dfBody (st2 17)).drop 11) lo σ QS := by
  obtain ⟨h0, h1, h2, h3, h4, h5, h6, h7⟩ := F
  obtain ⟨D, hD, hP⟩ := P.p
  obtain ⟨cw, Fw⟩ := id T.Fwlk
  have L0 := P.ls
  have ht := P.t
  refine exs_cons ?_
  show Ex _ _ _ (.Assign [.Name _ _] (.Tuple [.ListComp _ (_ :: _) _ _, _, _, .ListComp _ (_ :: _) _ _] _ _) _) _ _ _
  refine ex_assign ?_ (by walk_at "can") (by with_unfolding_all rfl)
  refine ev_tup ?_ (by with_unfolding_all rfl)
  refine evl_cons ?_
  refine ev_comp (compOk_of (by kernel_rfl!)) 4 (fun j => ((nI thr).map MV.int).getD j .none) (fun σ₁ => lstOf σ₁ (.ref tL) = some ((nI thr).map .int)) (fun j l σ₁ ys => σ₁ = σ ∧ ys = (nI ((thr.take j).map (· + 1))).map .int) ?_ (by intro g' h; cases h) ?_ ?_
  · refine walk_of ?_
    walk_at "ss"
    have := walk_list (C := C) (A := A') (tg := .Name "k" ⟨226, 25, 226, 26⟩) (m := .ref tL) (σ := σ) (l := (nI thr).map .int) hA'.h (lst_ref ht)
    rw [List.length_map, nI, List.length_map, hl] at this
    exact ⟨this, rfl, rfl⟩
  · rintro L' a j l σ₁ ys hj ⟨rfl, rfl⟩ hJ
    have hj' : j < thr.length := by (first | lia | omega)
    rw [nI_get thr j hj', take_snoc thr 0 hj']
    generalize thr.getD j 0 = x at *
    refine st_name (by walk_at "can") ?_
    show Inn _ _ _ _ _ _ _ _ _
    refine inn_emit rfl (by simp [nI]; (first | lia | omega)) ?_
    walk_at "ss"
    exact ⟨⟨rfl, by simp [nI]⟩, hJ⟩
  rintro l σ₁ ys ⟨rfl, rfl⟩ _
  rw [show thr.take 4 = thr from List.take_of_length_le (by (first | lia | omega))]
  walk_at "ss"
  refine ev_comp (compOk_of (by kernel_rfl!)) 4 (fun k => .int (0 + k * 1)) (fun _ => True) (fun k l σ₂ ys => A4 (σ₂ = σ₁) (l "ends" = some (.ref 3)) (l "thrown" = some (.ref tL)) (ys = (nI ((List.range k).map fun w => (endsOf dr w).getD (thr.getD w 0 + 1) 0)).map .int)) ?_ (by intro g' h; cases h) ?_ ?_
  · refine walk_of ?_
    refine ev_callB (.ty _) (by kernel_rfl!) T.b_range.1 T.b_range.2 ?_
    walk_at "ss"
    refine cal_range1 ⟨walk_range hA'.h (by decide) (by decide), rfl, (if_pos (by kernel_rfl!)).trans h3, (if_pos (by kernel_rfl!)).trans h4, rfl⟩
  · rintro L' a k l σ₂ ys hk ⟨rfl, l1, l2, rfl⟩ _
    rw [show ((0 : Int) + (k : Int) * 1) = ((k : Nat) : Int) by (first | lia | omega)]
    refine st_name (by walk_at "can") ?_
    show Inn _ _ _ _ _ _ _ _ _
    refine inn_emit rfl (by simp [nI]; (first | lia | omega)) ?_
    walk_at "ss"
    refine gi_list (l := (List.range 4).map (endsV dr)) (lst_ref L0.ends) (by (first | lia | omega)) (by (first | lia | omega)) (m := endsV dr k) (by simp [hk]) ?_
    walk_at "ss"
    refine gi_list (l := (nI thr).map .int) (lst_ref ht) (by (first | lia | omega)) (by (first | lia | omega)) (nI_at _ _ (by (first | lia | omega))) ?_
    walk_at "ss"
    have hth' := hth k hk
    rw [show ((thr.getD k 0 : Nat) : Int) + 1 = ((thr.getD k 0 + 1 : Nat) : Int) by (first | lia | omega)]
    have hel : (endsOf dr k).length = 5 := by simp [endsOf]
    refine gi_list (l := (nI (endsOf dr k)).map .int) rfl (by (first | lia | omega)) (by (first | lia | omega)) (nI_at _ _ (by (first | lia | omega))) ?_
    refine ⟨⟨rfl, by walk_at "lk", by walk_at "lk", ?_⟩, trivial⟩
    simp [List.range_succ, nI]
  rintro l σ₂ ys ⟨rfl, _, _, rfl⟩ _
  walk_at "ss"
  refine ⟨by show 4 ≤ _; decide, ?_⟩
  generalize hwl : ([.lst ((nI (thr.map (· + 1))).map .int), .lst ((nI (topsOf dr thr)).map .int), .ref pL, .lst ((nI ((List.range 4).map fun w => (endsOf dr w).getD (thr.getD w 0 + 1) 0)).map .int)] : List MV) = wl
  have hfz : ∀ σ', (∀ c, σ₂ c ≠ none → σ' c = σ₂ c) → Fzs σ' wl (wantF (decide (dr.sum % 2 = 0)) dr thr) := by
    intro σ' hk
    subst hwl
    have oki : ∀ l : List Int, Ok (fun _ => False) (.lst (l.map .int)) := fun l => .lst (oks_ints l)
    have hP' : PfD (decide (dr.sum % 2 = 0)) pL σ' D (profK dr thr 5) := hP.keep fun c _ hn => hk c hn
    exact .cons (.ok (oki _)) (.cons (.ok (oki _)) (.cons (.dct ((hk pL (by rw [hD]; simp)).trans hD) hP'.fz) (.cons (.ok (oki _)) .nil)))
  have hfw : ∀ (σ' : Hp) (ws : WS), Fzs σ' [.lst ((nI ws.reads).map .int), .lst ((nI ws.last).map .int), .dct (rB (decide (dr.sum % 2 = 0)) ws.bk), .lst ((nI ws.pos).map .int)] [.lst ((nI ws.reads).map .int), .lst ((nI ws.last).map .int), .dct (rB (decide (dr.sum % 2 = 0)) ws.bk), .lst ((nI ws.pos).map .int)] := by
    intro σ' ws
    have oki : ∀ l : List Int, Ok (fun _ => False) (.lst (l.map .int)) := fun l => .lst (oks_ints l)
    exact .cons (.ok (oki _)) (.cons (.ok (oki _)) (.cons (.ok (.dct (okd_rB _))) (.cons (.ok (oki _)) .nil)))
  clear hwl
  obtain ⟨kL, hkL⟩ := L0.wf.new
  have hk4 := L0.no hkL
  walk_at "ss"
  refine ev_dct1T kL ?_
  walk_at "ss"
  refine ⟨by show 2 ≤ _; decide, hkL, ?_⟩
  have hkn : [(("" : Str), MV.tup [.int 0, .int 4])] = rK kn0 := by
    have : ("" : Str) = S [] := by decide
    rw [this]; rfl
  rw [hkn]
  have L1 : LS dr 4 (σ₂.set kL (.dict (rK kn0))) := L0.set hk4 (by intros; intro h; cases h)
  obtain ⟨sL, hsL⟩ := L1.wf.new
  have hs4 := L1.no hsL
  have hsk : sL ≠ kL := ne_of_hp hsL hp_same
  have hk1 : (σ₂.set kL (.dict (rK kn0))) kL = some (.dict (rK kn0)) := hp_same
  have hkeep1 : ∀ c, σ₂ c ≠ none → (σ₂.set kL (.dict (rK kn0))) c = σ₂ c := fun c hc => hp_other (fun e => hc (by rw [e]; exact hkL)) rfl
  generalize hσ3 : σ₂.set kL (.dict (rK kn0)) = σ3 at *
  walk_at "s"
  walk_at "s"
  show Ex _ _ _ (.Assign _ (.ListComp _ (_ :: _) _ _) _) _ _ _
  refine ex_compT sL (compOk_of (by kernel_rfl!)) 4 (fun k => .int (0 + k * 1)) (fun _ => True) (fun k l σ' ys => A3 (σ' = σ3) (l "whole" = some (.int (dr.sum : Nat))) (ys = (nI ((List.range k).map fun p => (dr.sum / 2 + p) % 4)).map .int)) ?_ (by intro g' h; cases h) ?_ ?_ (by walk_at "can") (by kernel_rfl!)
  · refine walk_of ?_
    refine ev_callB (.ty _) (by kernel_rfl!) T.b_range.1 T.b_range.2 ?_
    walk_at "ss"
    refine cal_range1 ⟨walk_range hA'.h (by decide) (by decide), rfl, (if_pos (by kernel_rfl!)).trans (by walk_at "lk"), rfl⟩
  · rintro L' a k l σ' ys hk ⟨rfl, l1, rfl⟩ _
    rw [show ((0 : Int) + (k : Int) * 1) = ((k : Nat) : Int) by (first | lia | omega)]
    refine st_name (by walk_at "can") ?_
    show Inn _ _ _ _ _ _ _ _ _
    refine inn_emit rfl (by simp [nI]; (first | lia | omega)) ?_
    walk_at "ss"
    refine op_div (by (first | lia | omega)) (by decide) (by decide) ?_
    walk_at "ss"
    refine op_mod (by decide) ?_
    have e : (((dr.sum : Nat) : Int) / 2 + (k : Nat)) % 4 = (((dr.sum / 2 + k) % 4 : Nat) : Int) := by (first | lia | omega)
    rw [e]
    refine ⟨⟨rfl, by walk_at "lk", ?_⟩, trivial⟩
    simp [List.range_succ, nI]
  rintro l σ' ys ⟨rfl, _, rfl⟩ _
  refine ⟨hsL, ?_⟩
  have hst : (List.range 4).map (fun p => (dr.sum / 2 + p) % 4) = startsOf dr := rfl
  rw [hst]
  have L2 := L1.set hs4 (o := .list ((nI (startsOf dr)).map .int)) (by intros; intro h; cases h)
  have hk2 : (σ'.set sL (.list ((nI (startsOf dr)).map .int))) kL = some (.dict (rK kn0)) := (hp_other (Ne.symm hsk) rfl).trans hk1
  have hkeep2 : ∀ c, σ₂ c ≠ none → (σ'.set sL (.list ((nI (startsOf dr)).map .int))) c = σ₂ c := fun c hc => (hp_other (fun e => by rw [e] at hc; exact hc ((hkeep1 sL hc).symm.trans hsL)) rfl).trans (hkeep1 c hc)
  have hs2 : (σ'.set sL (.list ((nI (startsOf dr)).map .int))) sL = some (.list ((nI (startsOf dr)).map .int)) := hp_same
  generalize σ'.set sL (.list ((nI (startsOf dr)).map .int)) = σ4 at *
  have htx : ∀ {σ'}, LS dr 4 σ' → σ' 2 = some (.list ((textsOf dr).map fun l => .str (S l))) := fun {σ'} L => by rw [L.txt]; simp [textsOf]
  have hget : ∀ k, k < 4 → (textsOf dr).getD k [] = textOf dr k := fun k hk => by simp [textsOf, List.getD, hk]
  have has : ∀ k, k < 4 → ∀ c ∈ (textsOf dr).getD k [], c < 128 := fun k hk c hc => textK_asc hdr hk 3 (by (first | lia | omega)) c (by rw [hget k hk] at hc; exact hc)
  have hlt : ∀ k, k < 4 → ((textsOf dr).getD k []).length ≤ 10000 := fun k hk => by rw [hget k hk]; have := textK_len hdr hk 3 (by (first | lia | omega)); unfold textOf; (first | lia | omega)
  have ev2 : (decide (((dr.sum : Nat) : Int) % 2 = 0)) = decide (dr.sum % 2 = 0) := by
    by_cases h : dr.sum % 2 = 0
    · rw [decide_eq_true h, decide_eq_true (by (first | lia | omega))]
    · rw [decide_eq_false h, decide_eq_false (by (first | lia | omega))]
  walk_at "ss"
  refine ev_callF Fw (by kernel_rfl!) T.g_wlk ?_
  walk_at "ss"
  refine op_mod (by decide) ?_
  walk_at "ss"
  rw [show ((((dr.sum : Nat) : Int) % 2 == 0) : Bool) = decide (dr.sum % 2 = 0) from ev2]
  refine fn_walks T.toTw (N := N) hA' L2.wf (htx L2) hs2 hk2 (by (first | lia | omega)) (by exact hsk) (by simp [textsOf]) has hlt a1 ?_
  have L3 := L2.set hk4 (o := .dict (rK ws1.kn)) (by intros; intro h; cases h)
  have hk3 : (σ4.set kL (.dict (rK ws1.kn))) kL = some (.dict (rK ws1.kn)) := hp_same
  have hs3 : (σ4.set kL (.dict (rK ws1.kn))) sL = some (.list ((nI (startsOf dr)).map .int)) := (hp_other hsk rfl).trans hs2
  have hkeep3 : ∀ c, σ₂ c ≠ none → (σ4.set kL (.dict (rK ws1.kn))) c = σ₂ c := fun c hc => (hp_other (fun e => by rw [e] at hc; exact hc hkL) rfl).trans (hkeep2 c hc)
  generalize σ4.set kL (.dict (rK ws1.kn)) = σ5 at *
  walk_at "ss"
  refine op_neF (n := 5) (by have := hA'.cl; (first | lia | omega)) (hfw σ5 ws1) (hfz σ5 hkeep3) G1.sames ?_
  walk_at "ss"
  refine iteB (fun h => nomatch h) fun _ => ?_
  walk_at "ss"
  refine ev_reverse ?_
  walk_at "ss"
  refine ⟨sL, _, rfl, hs3, by simp [nI, startsOf], ?_⟩
  rw [show ((nI (startsOf dr)).map MV.int).reverse = (nI (startsOf dr).reverse).map .int by simp [nI]]
  have L4 := L3.set hs4 (o := .list ((nI (startsOf dr).reverse).map .int)) (by intros; intro h; cases h)
  have hk5 : (σ5.set sL (.list ((nI (startsOf dr).reverse).map .int))) kL = some (.dict (rK ws1.kn)) := (hp_other (Ne.symm hsk) rfl).trans hk3
  have hs5 : (σ5.set sL (.list ((nI (startsOf dr).reverse).map .int))) sL = some (.list ((nI (startsOf dr).reverse).map .int)) := hp_same
  have hkeep4 : ∀ c, σ₂ c ≠ none → (σ5.set sL (.list ((nI (startsOf dr).reverse).map .int))) c = σ₂ c := fun c hc => (hp_other (fun e => by rw [e] at hc; exact hc ((hkeep1 sL hc).symm.trans hsL)) rfl).trans (hkeep3 c hc)
  generalize σ5.set sL (.list ((nI (startsOf dr).reverse).map .int)) = σ6 at *
  walk_at "ss"
  refine ev_callF Fw (by kernel_rfl!) T.g_wlk ?_
  walk_at "ss"
  refine op_mod (by decide) ?_
  walk_at "ss"
  rw [show ((((dr.sum : Nat) : Int) % 2 == 0) : Bool) = decide (dr.sum % 2 = 0) from ev2]
  refine fn_walks T.toTw (N := N) hA' L4.wf (htx L4) hs5 hk5 (by (first | lia | omega)) (by exact hsk) (by simp [textsOf]) has hlt a2 ?_
  have hkeep5 : ∀ c, σ₂ c ≠ none → (σ6.set kL (.dict (rK ws2.kn))) c = σ₂ c := fun c hc => (hp_other (fun e => by rw [e] at hc; exact hc hkL) rfl).trans (hkeep4 c hc)
  generalize σ6.set kL (.dict (rK ws2.kn)) = σ7 at *
  walk_at "ss"
  refine op_eqF (n := 5) (by have := hA'.cl; (first | lia | omega)) (hfw σ7 ws2) (hfz σ7 hkeep5) G2.sames ?_
  walk_at "ss"
  exact q _ _
end
section
set_option maxHeartbeats 400000

variable {C : Cx} {A : Around} {σ : Hp} {Q : MV → Hp → Prop} {QS : Fl → Loc → Hp → Prop}
theorem hp0_wf : Wf hp0 := ⟨⟨0, fun _ _ => rfl⟩, fun _ _ _ _ h => nomatch h⟩
theorem fn_law (T : Tq C) (PL : PlainLaw2) {N : Nat} (hA : Ar A (N + 6)) {ns : List Int} {sc : Addr} (hsc : StL C sc ns) (hlen : ns.length ≤ 1000) : Fn C A (.ref T.law) [.val (.ref sc)] hp0 fun m _ => m = .bool true := by
  obtain ⟨cd, F⟩ := T.Flaw
  refine fn_go F hA (Loc.set (fun _ => none) "script" (.val (.ref sc))) (ps := ["script"]) (by walk_at "bind") (by kernel_rfl!) rfl rfl fun L A' KF hKF hA' => exs_cons ?_
  walk_at "s"
  refine ev_lstT 0 ?_
  walk_at "ss"
  refine ⟨by show 12 ≤ _; decide, rfl, ?_⟩
  refine then_next (exs_cons ?_)
  refine ex_l1 T.toTw hA' hlen hsc (by walk_at "lk") at_same fun lo dr hdr hd => ?_
  refine via_p fun P kP => ?_
  obtain ⟨n, thr, ws1, ws2, hpop, a1, G1, a2, G2⟩ := PL dr hdr
  refine kP ?_
  clear kP P
  have hsum : dr.sum ≤ 1000 := by
    have := sum_le (b := 40) (fun x hx => Nat.le_of_lt (hdr.lt x hx))
    rw [hdr.len] at this; (first | lia | omega)
  walk_at "s"
  walk_at "s"
  walk_at "s"
  refine ev_lstT 1 ?_
  walk_at "ss"
  refine ⟨by decide, rfl, ?_⟩
  walk_at "ss"
  refine ev_lstT 2 ?_
  walk_at "ss"
  refine ⟨by decide, rfl, ?_⟩
  walk_at "ss"
  refine ev_lstT 3 ?_
  walk_at "ss"
  refine ⟨by decide, rfl, ?_⟩
  have L0 : LS dr 0 ((((hp0.set 0 (.list ((nI dr).map .int))).set 1 (.list [])).set 2 (.list [])).set 3 (.list [])) := ⟨rfl, rfl, rfl, rfl, (((hp0_wf.setL ..).setL ..).setL ..).setL ..⟩
  walk_at "s"
  walk_at "s"
  refine ex_l2 T.toTw hA' hdr (by walk_at "lk") (by walk_at "lk") (by walk_at "lk") (by walk_at "lk") L0 fun lo2 σ2 L2 h0 h1 h2 h3 => ?_
  obtain ⟨tL, htL⟩ := L2.wf.new
  have ht4 := L2.no htL
  walk_at "s"
  walk_at "s"
  walk_at "s"
  refine ev_lstT tL ?_
  walk_at "ss"
  refine ⟨by show 4 ≤ _; decide, htL, ?_⟩
  have L3 := L2.set ht4 (o := .list ((nI [0, 0, 0, 0]).map .int)) (by intros; intro h; cases h)
  walk_at "s"
  walk_at "s"
  refine ex_l3 T.toTw hA' hdr (by walk_at "lk") (by walk_at "lk") (by walk_at "lk") at_same (by walk_at "lk") L3 hp_same ht4 rfl hpop fun lo4 σ4 L4 t4 hl4 hth4 i0 i1 i2 i3 i4 i5 => ?_
  walk_at "s"
  walk_at "s"
  walk_at "s"
  refine ev_callB (.bi _) (by kernel_rfl!) T.b_sum.1 T.b_sum.2 ?_
  walk_at "ss"
  refine cal_sum (ns := nI dr) hA'.h (lst_ref L4.d0) (fun k hk => ?_) (fun x hx => ?_) ?_
  · rw [nI_take, nI_sum]
    have h1 : ∀ x ∈ dr.take k, x ≤ 40 := fun x hx => Nat.le_of_lt (hdr.lt x (List.mem_of_mem_take hx))
    have h2 := sum_le h1
    have h3 : (dr.take k).length ≤ 12 := by rw [List.length_take, hdr.len]; (first | lia | omega)
    exact inLong_small (by (first | lia | omega)) (by (first | lia | omega))
  · refine via_p fun P kP => ?_
    obtain ⟨n, hn, rfl⟩ := List.mem_map.mp hx
    refine kP ?_
    clear kP P
    have := hdr.lt n hn
    exact inLong_small (by (first | lia | omega)) (by (first | lia | omega))
  rw [nI_sum]
  obtain ⟨pL, hpL⟩ := L4.wf.new
  have hp4 := L4.no hpL
  have htp : tL ≠ pL := (ne_of_hp hpL t4).symm
  walk_at "ss"
  refine ev_dctT pL hpL ?_
  walk_at "s"
  walk_at "s"
  refine ex_prof T.toTw (whole := dr.sum) (tops := topsOf dr thr) (even := decide (dr.sum % 2 = 0)) hA' rfl (by (first | lia | omega)) ⟨by walk_at "lk", by walk_at "lk", by walk_at "lk", by walk_at "lk", by walk_at "lk", by walk_at "lk", by walk_at "lk", at_same⟩ hp4 htp hl4 hth4
    ⟨L4.set hp4 (by intros; intro h; cases h), (hp_other htp rfl).trans t4, [], hp_same, trivial⟩ fun lo5 σ5 F5 P5 => ?_
  exact ex_l4 T (N := N) hA' hdr F5 P5 hl4 hth4 hsum a1 G1 a2 G2 fun _ _ => hKF _ _ _ rfl
end
section
set_option maxHeartbeats 400000

noncomputable abbrev fragOf2 {K : Frag} {h : Heap} (_ : K.In h) : Frag := K
theorem mkOk_of {K : Frag} {nm : Value} {bm : Addr} (h1 : nsIn K mainGlobals "__builtins__" = some (some (.ref bm))) (h2 : bm ≠ builtinsNs) (h3 : K.lookup bm = some (oOf K bm)) (h4 : (oOf K bm).cls = .type "module") (h5 : (oOf K bm).dict = some builtinsNs) (h6 : (oOf K bm).data = .plain)
    (h7 : nsIn K mainGlobals "__name__" = some (some nm)) (h8 : nsOkIn K mainGlobals = true) : MkOk K nm := ⟨⟨bm, _, h1, h2, h3, h4, h5, h6⟩, h7, h8⟩
noncomputable def cx2 (K : Frag) (w : World) (n : Nat) (sc : Addr) (o : Obj) : Cx where
  prog := PySem.Challenge.pw_pe0146_02
  w := w
  N0 := n
  tabs := [100, 121]
  K := cK K [100, 121] sc o
  tq := fun P l _ => if P = 100 then "add_callers.<locals>.<genexpr>" else if l = 132 then "_law_reader.<locals>._law_read_on" else "_law_reader.<locals>.<lambda>"
  rd := fun fd => fd.params = dfArgs rdSt ∧ fd.body = .stmts (dfBody rdSt) ∧ fd.scope = dfScope rdSt ∧ fd.globals = mainGlobals ∧ fd.builtins = builtinsNs ∧ fd.defaults = .none ∧ fd.kwdefaults = .none
  tlo := by decide
theorem rdIs2 {K : Frag} {w : World} {n : Nat} {sc : Addr} {o : Obj} : RdIs (cx2 K w n sc o) (dfArgs rdSt) (dfBody rdSt) (dfScope rdSt) "size" where
  rd := fun _ h => h
  bind := by
    intro fd v hp hd hk
    obtain ⟨_, _, _, _, _, _, _, _, _, _, _⟩ := fd
    simp only at hp hd hk
    subst hp; subst hd; subst hk
    kernel_rfl!
  cell := by decide +kernel
  loc := by kernel_rfl!
  free := by
    intro y hy
    have h : (dfScope rdSt).names.all (fun p => p.2 != .free || p.1 == "text" || p.1 == "at") = true := by kernel_rfl!
    have := List.all_eq_true.mp h _ (mem_of_lookup hy)
    simpa using this
  text := by kernel_rfl!
  at_ := by kernel_rfl!
  co := by kernel_rfl!
  gen := by kernel_rfl!
  kind := by kernel_rfl!
noncomputable def outOk (s₁ : Shared) (v : Value) (s' : Shared) : Prop := v = .bool true ∧ OldK s₁.heap s'.heap ∧ s'.os = s₁.os ∧ (AllBare s₁.gens → AllBare s'.gens)
theorem join2 (PL : PlainLaw2) {K : Frag} {w : World} {s₁ : Shared} {sc : Addr} {o : Obj} {vs : List Value} {ns : List Int} {n : Nat} (T : Tq (cx2 K w s₁.heap.objs.size sc o)) (KX : K.In s₁.heap) (hnd : (K.map (·.1)).Nodup) (ho : s₁.heap.get? sc = some o) (hc : o.cls = .type "list") (hd : o.data = .seq ⟨vs⟩ n) (hI : IntsAre vs ns) (hlen : ns.length ≤ 1000)
    (hlim : s₁.heap.NoLimit) (t1 : K.lookup 100 = some (X.tableObj #[])) (t2 : K.lookup 121 = some (X.tableObj #[])) (c1 : ∃ c, CodeAt (cx2 K w s₁.heap.objs.size sc o).K c 100) (c2 : ∃ c, CodeAt (cx2 K w s₁.heap.objs.size sc o).K c 121) :
    wpAny (model PySem.Challenge.pw_pe0146_02 w) callerA (call (.ref T.law) [.ref sc]) (outOk s₁) NoE s₁ := by
  have htab : ∀ a ∈ ([100, 121] : List Addr), s₁.heap.get? a = some (X.tableObj #[]) := by
    intro a ha
    simp only [List.mem_cons, List.not_mem_nil, or_false] at ha
    rcases ha with rfl | rfl
    · exact KX _ _ t1
    · exact KX _ _ t2
  have hcod : ∀ a ∈ ([100, 121] : List Addr), ∃ c, CodeAt (cx2 K w s₁.heap.objs.size sc o).K c a := by
    intro a ha
    simp only [List.mem_cons, List.not_mem_nil, or_false] at ha
    rcases ha with rfl | rfl
    · exact c1
    · exact c2
  have hsc : sc ∉ ([100, 121] : List Addr) := by
    intro ha
    have := htab sc ha
    rw [ho] at this; cases this
    simp [X.tableObj] at hc
  have h16 : 16 ≤ s₁.heap.objs.size := Nat.le_of_lt (Nat.lt_of_le_of_lt (by decide : 16 ≤ 100) (Heap.lt_size (htab 100 (.head _))))
  have r : GR (cx2 K w s₁.heap.objs.size sc o) g0 hp0 s₁ := gr_start rfl rfl rfl KX hnd ho hsc hlim h16 htab
  have hs : StL (cx2 K w s₁.heap.objs.size sc o) sc ns := stL_start rfl hc hd hI
  have hA : Ar callerA (0 + 6) := ⟨by decide, by decide, rfl⟩
  have h := fn_law T PL hA hs hlen g0 s₁ [.ref sc] r (.cons (.val _) .nil)
  refine wpAny_call (codeAny_mono h ?_)
  rintro x s' hX2
  refine via_p fun P kP => ?_
  obtain ⟨v, g', m, σ', rfl, r', hv, d, rfl⟩ := hX2
  refine kP ?_
  clear kP P
  obtain rfl := hv.inv
  have hk : ∀ b o, s₁.heap.get? b = some o → b ∉ ([100, 121] : List Addr) → s'.heap.get? b = some o := fun b o e hb => d.keep b o e (fun _ h => by cases h) (fun h => nomatch h) hb
  have ht : ∀ b ∈ ([100, 121] : List Addr), ∃ more, s'.heap.get? b = some (X.tableObj (#[] ++ more)) := fun b hb => d.tabs b hb #[] (htab b hb)
  refine ⟨rfl, ⟨fun b o' e => ?_, fun b o' e => ?_⟩, d.os, d.gens⟩
  · by_cases hb : b ∈ ([100, 121] : List Addr)
    · have e2 := htab b hb
      rw [e] at e2; cases e2
      obtain ⟨more, hm⟩ := ht b hb
      refine via_p fun P kP => ?_
      obtain ⟨c, oc, vs', _, _, _, _, _, _, _, q1, q2, q3, q4, _⟩ := hcod b hb
      refine kP ?_
      clear kP P
      exact .inr (.inl ⟨⟨c, oc, vs', r.KIn _ _ q1, q2, q3, q4⟩, rfl, #[], more, rfl, hm⟩)
    · exact .inl (hk b o' e hb)
  · by_cases hb : b ∈ ([100, 121] : List Addr)
    · obtain ⟨more, hm⟩ := ht b hb; exact ⟨_, hm⟩
    · exact ⟨_, hk b o' e hb⟩
end
section
noncomputable def fT (t : List Nat) (x : Nat) : Nat := t.getD x 0
noncomputable def inO (t : List Nat) (z x : Nat) : Bool := x == z || x == fT t z || x == fT t (fT t z) || x == fT t (fT t (fT t z))
noncomputable def popL (t : List Nat) (z : Nat) (c : List Nat) : List Nat := (List.range 4).map fun x => c.getD x 0 + if inO t z x = true then 1 else 0
noncomputable def Tops (t : List Nat) : Prop := ∃ a b c d, a < 5 ∧ b < 5 ∧ c < 5 ∧ d < 5 ∧ t = [a, b, c, d]
theorem tops_of (dr c : List Nat) : Tops (topsOf dr c) :=
  ⟨_, _, _, _, Nat.lt_succ_of_le (dueOf_at dr 0 _), Nat.lt_succ_of_le (dueOf_at dr 1 _), Nat.lt_succ_of_le (dueOf_at dr 2 _), Nat.lt_succ_of_le (dueOf_at dr 3 _), rfl⟩
set_option synthInstance.maxHeartbeats 400000 in
set_option synthInstance.maxSize 100000 in
theorem ring_f1 : ∀ a, a < 5 → ∀ b, b < 5 → ∀ c, c < 5 → ∀ d, d < 5 → ∀ z, z < 4 → onRing [a, b, c, d] z = true →
    ∀ x, x < 5 → inO [a, b, c, d] z x = true → x < 4 ∧ onRing [a, b, c, d] x = true ∧ fT [a, b, c, d] x < 4 ∧ ∀ y, y < 4 → inO [a, b, c, d] x y = inO [a, b, c, d] z y := by decide +kernel
set_option synthInstance.maxHeartbeats 400000 in
set_option synthInstance.maxSize 100000 in
theorem ring_f2 : ∀ a, a < 5 → ∀ b, b < 5 → ∀ c, c < 5 → ∀ d, d < 5 → ∀ z, z < 4 → onRing [a, b, c, d] z = true →
    ∀ z', z' < 4 → onRing [a, b, c, d] z' = true → inO [a, b, c, d] z z' = false → ∀ x, x < 4 → inO [a, b, c, d] z x = true → inO [a, b, c, d] z' x = false := by decide +kernel
theorem ring_facts : ∀ a, a < 5 → ∀ b, b < 5 → ∀ c, c < 5 → ∀ d, d < 5 → ∀ z, z < 4 → onRing [a, b, c, d] z = true →
    (∀ x, x < 5 → inO [a, b, c, d] z x = true → x < 4 ∧ onRing [a, b, c, d] x = true ∧ fT [a, b, c, d] x < 4 ∧ ∀ y, y < 4 → inO [a, b, c, d] x y = inO [a, b, c, d] z y) ∧
    (∀ z', z' < 4 → onRing [a, b, c, d] z' = true → inO [a, b, c, d] z z' = false → ∀ x, x < 4 → inO [a, b, c, d] z x = true → inO [a, b, c, d] z' x = false) ∧ (∀ x, inO [a, b, c, d] z x = true → x < 5) := by
  intro a ha b hb c hc d hd z hz h
  have h1 := ring_f1 a ha b hb c hc d hd z hz h
  have h2 := ring_f2 a ha b hb c hc d hd z hz h
  refine ⟨h1, h2, fun x hx => ?_⟩
  have hf : ∀ y, fT [a, b, c, d] y < 5 := by
    intro y
    unfold fT
    match y with
    | 0 => exact ha
    | 1 => exact hb
    | 2 => exact hc
    | 3 => exact hd
    | n + 4 => simp
  simp only [inO, Bool.or_eq_true, beq_iff_eq] at hx
  rcases hx with ((h | h) | h) | h
  · (first | lia | omega)
  · rw [h]; exact hf _
  · rw [h]; exact hf _
  · rw [h]; exact hf _
section
variable {t t' : List Nat} {z z' x : Nat}
theorem Tops.orb (T : Tops t) (hz : z < 4) (h : onRing t z = true) (hx : inO t z x = true) : x < 4 ∧ onRing t x = true ∧ fT t x < 4 ∧ ∀ y, y < 4 → inO t x y = inO t z y := by
  refine via_p fun P kP => ?_
  obtain ⟨a, b, c, d, ha, hb, hc, hd, rfl⟩ := T
  refine kP ?_
  clear kP P
  obtain ⟨h1, _, h3⟩ := ring_facts a ha b hb c hc d hd z hz h
  exact h1 x (h3 x hx) hx
theorem Tops.apart (T : Tops t) (hz : z < 4) (h : onRing t z = true) (hz' : z' < 4) (h' : onRing t z' = true) (hn : inO t z z' = false) (hx : x < 4) (hi : inO t z x = true) : inO t z' x = false := by
  obtain ⟨a, b, c, d, ha, hb, hc, hd, rfl⟩ := T
  exact (ring_facts a ha b hb c hc d hd z hz h).2.1 z' hz' h' hn x hx hi
theorem inO_self (t : List Nat) (z : Nat) : inO t z z = true := by simp [inO]
theorem orb_congr (h : ∀ x, inO t z x = true → fT t' x = fT t x) : onRing t' z = onRing t z ∧ ∀ x, inO t' z x = inO t z x := by
  have h0 : fT t' z = fT t z := h z (by simp [inO])
  have h1 : fT t' (fT t z) = fT t (fT t z) := h _ (by simp [inO])
  have h2 : fT t' (fT t (fT t z)) = fT t (fT t (fT t z)) := h _ (by simp [inO])
  have h3 : fT t' (fT t (fT t (fT t z))) = fT t (fT t (fT t (fT t z))) := h _ (by simp [inO])
  constructor
  · unfold onRing
    congr 1
    have e : ∀ t y, t.getD y 0 = fT t y := fun _ _ => rfl
    simp only [goRing_succ, goRing_zero, e, h0]
    by_cases a1 : fT t z ≠ z ∧ fT t z ≠ 4
    · simp only [if_pos a1, h1]
      by_cases a2 : fT t (fT t z) ≠ z ∧ fT t (fT t z) ≠ 4
      · simp only [if_pos a2, h2]
        by_cases a3 : fT t (fT t (fT t z)) ≠ z ∧ fT t (fT t (fT t z)) ≠ 4
        · simp only [if_pos a3, h3]
        · simp only [if_neg a3]
      · simp only [if_neg a2]
    · simp only [if_neg a1]
  · intro x
    simp only [inO, h0, h1, h2]
end
noncomputable def RPop (dr c c' : List Nat) : Prop := ∃ z, z < 4 ∧ onRing (topsOf dr c) z = true ∧ c' = popL (topsOf dr c) z c
theorem popL_at (t : List Nat) (z : Nat) (c : List Nat) {x : Nat} (hx : x < 4) : (popL t z c).getD x 0 = c.getD x 0 + if inO t z x = true then 1 else 0 := by simp [popL, List.getD, hx]
theorem fT_of (dr : List Nat) {c c' : List Nat} {x : Nat} (h : x < 4 → c'.getD x 0 = c.getD x 0) : fT (topsOf dr c') x = fT (topsOf dr c) x := by
  rcases Nat.lt_or_ge x 4 with hx | hx
  · show (topsOf dr c').getD x 0 = (topsOf dr c).getD x 0
    rw [topsOf_at dr c' hx, topsOf_at dr c hx, h hx]
  · show (topsOf dr c').getD x 0 = (topsOf dr c).getD x 0
    rw [List.getD_eq_getElem?_getD, List.getD_eq_getElem?_getD, List.getElem?_eq_none (by rw [topsOf_len]; exact hx), List.getElem?_eq_none (by rw [topsOf_len]; exact hx)]
theorem pop_keeps {dr c : List Nat} {z z' : Nat} (hz : z < 4) (h : onRing (topsOf dr c) z = true) (hz' : z' < 4) (h' : onRing (topsOf dr c) z' = true) (hn : inO (topsOf dr c) z z' = false) :
    onRing (topsOf dr (popL (topsOf dr c) z c)) z' = true ∧ ∀ x, inO (topsOf dr (popL (topsOf dr c) z c)) z' x = inO (topsOf dr c) z' x := by
  have T := tops_of dr c
  have hn' : inO (topsOf dr c) z' z = false := T.apart hz h hz' h' hn hz (inO_self ..)
  have key := orb_congr (t := topsOf dr c) (t' := topsOf dr (popL (topsOf dr c) z c)) (z := z') fun x hx => fT_of dr fun hx4 => by
    rw [popL_at _ _ _ hx4, T.apart hz' h' hz h hn' hx4 hx]; rfl
  exact ⟨key.1.trans h', key.2⟩
theorem popL_ext {c c' : List Nat} (f g : Nat → Nat) (h : ∀ x, x < 4 → f x = g x) : (List.range 4).map f = (List.range 4).map g := List.map_congr_left fun x hx => h x (by simpa using hx)
theorem RPop.diamond {dr c b d : List Nat} (h1 : RPop dr c b) (h2 : RPop dr c d) : b = d ∨ ∃ e, RPop dr b e ∧ RPop dr d e := by
  obtain ⟨z, hz, r, rfl⟩ := h1
  obtain ⟨z', hz', r', rfl⟩ := h2
  have T := tops_of dr c
  cases hn : inO (topsOf dr c) z z' with
  | true =>
    left
    refine popL_ext (c := []) (c' := []) _ _ fun x hx => ?_
    rw [(T.orb hz r hn).2.2.2 x hx]
  | false =>
    right
    have hn' : inO (topsOf dr c) z' z = false := T.apart hz r hz' r' hn hz (inO_self ..)
    obtain ⟨p1, p2⟩ := pop_keeps hz r hz' r' hn
    obtain ⟨q1, q2⟩ := pop_keeps hz' r' hz r hn'
    refine ⟨_, ⟨z', hz', p1, rfl⟩, z, hz, q1, ?_⟩
    refine popL_ext (c := []) (c' := []) _ _ fun x hx => ?_
    rw [p2, q2, popL_at _ _ _ hx, popL_at _ _ _ hx]; (first | lia | omega)
inductive Nrm (dr : List Nat) : Nat → List Nat → List Nat → Prop
  | done {c : List Nat} : (∀ z, z < 4 → onRing (topsOf dr c) z = false) → Nrm dr 0 c c
  | step {n : Nat} {c c1 e : List Nat} : RPop dr c c1 → Nrm dr n c1 e → Nrm dr (n + 1) c e
theorem Nrm.pop {dr : List Nat} {n : Nat} {c b e : List Nat} (h : Nrm dr n c e) (hr : RPop dr c b) : ∃ m, n = m + 1 ∧ Nrm dr m b e := by
  induction h generalizing b with
  | done h => obtain ⟨z, hz, r, _⟩ := hr; exact absurd (r.symm.trans (h z hz)) (by decide)
  | step hs hn ih =>
    rcases hs.diamond hr with rfl | ⟨d, h1, h2⟩
    · exact ⟨_, rfl, hn⟩
    · obtain ⟨m, rfl, hm⟩ := ih h1
      exact ⟨m + 1, rfl, .step h2 hm⟩
noncomputable def Le3 (c : List Nat) : Prop := c.length = 4 ∧ ∀ w, w < 4 → c.getD w 0 ≤ 3
theorem ring_lt {dr c : List Nat} {x : Nat} (hx : x < 4) (h3 : c.getD x 0 ≤ 3) (hf : fT (topsOf dr c) x < 4) : c.getD x 0 ≤ 2 := by
  rcases Nat.lt_or_ge (c.getD x 0) 3 with h | h
  · (first | lia | omega)
  · have e : c.getD x 0 = 3 := by (first | lia | omega)
    have : fT (topsOf dr c) x = 4 := by
      show (topsOf dr c).getD x 0 = 4
      rw [topsOf_at dr c hx, e]
      simp [dueOf, arrK]
    (first | lia | omega)
theorem Le3.pop {dr c b : List Nat} (h : Le3 c) (hr : RPop dr c b) : Le3 b := by
  obtain ⟨z, hz, r, rfl⟩ := hr
  refine ⟨by simp [popL], fun w hw => ?_⟩
  rw [popL_at _ _ _ hw]
  split
  · rename_i hi
    have := ring_lt hw (h.2 w hw) ((tops_of dr c).orb hz r hi).2.2.1
    (first | lia | omega)
  · exact h.2 w hw
theorem sum4 (c : List Nat) (h : c.length = 4) : c.sum = c.getD 0 0 + c.getD 1 0 + c.getD 2 0 + c.getD 3 0 := by
  obtain ⟨a, b, d, e, rfl⟩ := len4 h
  simp [List.getD]; (first | lia | omega)
theorem RPop.more {dr c b : List Nat} (hl : c.length = 4) (hr : RPop dr c b) : c.sum < b.sum := by
  obtain ⟨z, hz, r, rfl⟩ := hr
  rw [sum4 c hl, sum4 _ (by simp [popL]), popL_at _ _ _ (by decide), popL_at _ _ _ (by decide), popL_at _ _ _ (by decide), popL_at _ _ _ (by decide)]
  have hz' := inO_self (topsOf dr c) z
  cases z, hz using lt4 with
  | h0 => rw [if_pos hz']; (first | lia | omega)
  | h1 => rw [if_pos hz']; (first | lia | omega)
  | h2 => rw [if_pos hz']; (first | lia | omega)
  | h3 => rw [if_pos hz']; (first | lia | omega)
theorem Nrm.exists (dr : List Nat) : ∀ (k : Nat) (c : List Nat), Le3 c → 12 - c.sum ≤ k → ∃ n e, Nrm dr n c e ∧ Le3 e := by
  intro k
  induction k with
  | zero =>
    intro c hc hk
    by_cases h : ∀ z, z < 4 → onRing (topsOf dr c) z = false
    · exact ⟨0, c, .done h, hc⟩
    · simp only [Classical.not_forall, Bool.not_eq_false] at h
      obtain ⟨z, hz, r⟩ := h
      have hr : RPop dr c _ := ⟨z, hz, r, rfl⟩
      have := hr.more hc.1
      have h3 := (hc.pop hr).2
      have hs := sum4 _ (hc.pop hr).1
      have := h3 0 (by decide); have := h3 1 (by decide); have := h3 2 (by decide); have := h3 3 (by decide)
      (first | lia | omega)
  | succ k ih =>
    intro c hc hk
    by_cases h : ∀ z, z < 4 → onRing (topsOf dr c) z = false
    · exact ⟨0, c, .done h, hc⟩
    · simp only [Classical.not_forall, Bool.not_eq_false] at h
      obtain ⟨z, hz, r⟩ := h
      have hr : RPop dr c _ := ⟨z, hz, r, rfl⟩
      have := hr.more hc.1
      obtain ⟨n, e, hn, he⟩ := ih _ (hc.pop hr) (by (first | lia | omega))
      exact ⟨n + 1, e, .step hr hn, he⟩
theorem RPop.le {dr c b : List Nat} (hr : RPop dr c b) {w : Nat} (hw : w < 4) : c.getD w 0 ≤ b.getD w 0 := by
  obtain ⟨z, hz, r, rfl⟩ := hr
  rw [popL_at _ _ _ hw]; (first | lia | omega)
theorem Nrm.le {dr : List Nat} {w : Nat} (hw : w < 4) {n : Nat} {c e : List Nat} (h : Nrm dr n c e) : c.getD w 0 ≤ e.getD w 0 := by
  induction h with
  | done _ => exact Nat.le_refl _
  | step h _ ih => exact Nat.le_trans (h.le hw) ih
theorem Nrm.same {dr : List Nat} {n : Nat} {c e : List Nat} (h : Nrm dr n c e) (hc : ∀ z, z < 4 → onRing (topsOf dr c) z = false) : c = e := by
  cases h with
  | done _ => rfl
  | step hr _ => obtain ⟨z, hz, r, _⟩ := hr; rw [hc z hz] at r; cases r
theorem Nrm.many {dr : List Nat} (k : Nat) : ∀ (U : List Nat) {n : Nat} {c e : List Nat}, U.length ≤ k → Nrm dr n c e → c.length = 4 → (∀ z ∈ U, z < 4 ∧ onRing (topsOf dr c) z = true ∧ ∀ x, inO (topsOf dr c) z x = true → x ∈ U) →
    ∃ m, (U ≠ [] → m < n) ∧ m ≤ n ∧ Nrm dr m ((List.range 4).map fun x => c.getD x 0 + if x ∈ U then 1 else 0) e := by
  have no : ∀ {n : Nat} {c e : List Nat}, Nrm dr n c e → c.length = 4 → ∃ m, (([] : List Nat) ≠ [] → m < n) ∧ m ≤ n ∧ Nrm dr m ((List.range 4).map fun x => c.getD x 0 + if x ∈ ([] : List Nat) then 1 else 0) e := by
    intro n c e h hl
    have : (List.range 4).map (fun x => c.getD x 0 + if x ∈ ([] : List Nat) then 1 else 0) = c := by
      obtain ⟨a, b, d, e, rfl⟩ := len4 hl
      rfl
    exact ⟨n, fun h => absurd rfl h, Nat.le_refl _, by rw [this]; exact h⟩
  induction k with
  | zero => intro U n c e hk h hl _; obtain rfl := List.eq_nil_of_length_eq_zero (Nat.le_zero.mp hk); exact no h hl
  | succ k ih =>
    intro U n c e hk h hl hU
    cases U with
    | nil => exact no h hl
    | cons z U =>
    obtain ⟨hz, r, hcl⟩ := hU z (.head _)
    have T := tops_of dr c
    have hr : RPop dr c _ := ⟨z, hz, r, rfl⟩
    obtain ⟨m, rfl, hm⟩ := h.pop hr
    have hlen : ((z :: U).filter fun x => !inO (topsOf dr c) z x).length ≤ k := by
      rw [List.filter_cons_of_neg (by simp [inO_self])]
      have := List.length_filter_le (fun x => !inO (topsOf dr c) z x) U
      simp only [List.length_cons] at hk; (first | lia | omega)
    obtain ⟨m', _, h2, h3⟩ := ih ((z :: U).filter fun x => !inO (topsOf dr c) z x) hlen hm (by simp [popL]) (fun z' hz' => by
      obtain ⟨h1, h2⟩ := List.mem_filter.mp hz'
      obtain ⟨hz4, r', hcl'⟩ := hU z' h1
      have hn : inO (topsOf dr c) z z' = false := by simpa using h2
      have hn' : inO (topsOf dr c) z' z = false := T.apart hz r hz4 r' hn hz (inO_self ..)
      obtain ⟨p1, p2⟩ := pop_keeps hz r hz4 r' hn
      refine ⟨hz4, p1, fun x hx => ?_⟩
      rw [p2] at hx
      have hx4 := (T.orb hz4 r' hx).1
      exact List.mem_filter.mpr ⟨hcl' x hx, by rw [T.apart hz4 r' hz r hn' hx4 hx]; rfl⟩)
    refine ⟨m', fun _ => by (first | lia | omega), by (first | lia | omega), ?_⟩
    have e : (List.range 4).map (fun x => (popL (topsOf dr c) z c).getD x 0 + if x ∈ (z :: U).filter (fun x => !inO (topsOf dr c) z x) then 1 else 0) = (List.range 4).map (fun x => c.getD x 0 + if x ∈ z :: U then 1 else 0) := by
      refine popL_ext (c := []) (c' := []) _ _ fun x hx => ?_
      rw [popL_at _ _ _ hx]
      cases hi : inO (topsOf dr c) z x with
      | true =>
        rw [if_pos rfl, if_neg (fun h => by have := (List.mem_filter.mp h).2; rw [hi] at this; cases this), if_pos (hcl x hi)]
      | false =>
        by_cases hm : x ∈ z :: U
        · rw [if_neg (by simp), if_pos (List.mem_filter.mpr ⟨hm, by rw [hi]; rfl⟩), if_pos hm]
        · rw [if_neg (by simp), if_neg (fun h => hm (List.mem_filter.mp h).1), if_neg hm]
    rw [← e]; exact h3
theorem foldl_incr (l : List Nat) : ∀ c : List Nat, c.length = 4 → l.Nodup → (∀ x ∈ l, x < 4) → l.foldl incr c = (List.range 4).map fun x => c.getD x 0 + if x ∈ l then 1 else 0 := by
  induction l with
  | nil =>
    intro c hl _ _
    match c, hl with
    | [a, b, d, e], _ => rfl
  | cons y l ih =>
    intro c hl hn hlt
    rw [List.nodup_cons] at hn
    rw [List.foldl_cons, ih (incr c y) (by rw [incr_len]; exact hl) hn.2 fun x hx => hlt x (.tail _ hx)]
    refine popL_ext (c := []) (c' := []) _ _ fun x hx => ?_
    have hy := hlt y (.head _)
    by_cases e : x = y
    · subst e
      rw [show (incr c x).getD x 0 = c.getD x 0 + 1 from getD_set_eq _ _ (by (first | lia | omega)), if_neg hn.1, if_pos (.head _)]
    · rw [show (incr c y).getD x 0 = c.getD x 0 from getD_set_ne _ _ e]
      by_cases hm : x ∈ l
      · rw [if_pos hm, if_pos (.tail _ hm)]
      · rw [if_neg hm, if_neg (fun h => by rcases List.mem_cons.mp h with h | h; exact e h; exact hm h)]
theorem PopTo.of_nrm {dr : List Nat} : ∀ (n : Nat) {c e : List Nat}, Nrm dr n c e → Le3 c → ∃ k, PopTo dr k c e := by
  intro n
  induction n using Nat.strongRecOn with
  | ind n ih =>
    intro c e h h3
    have T := tops_of dr c
    by_cases hr : ringsOf (topsOf dr c) = []
    · have hno : ∀ z, z < 4 → onRing (topsOf dr c) z = false := fun z hz => by
        cases ho : onRing (topsOf dr c) z with
        | false => rfl
        | true =>
          have : z ∈ ringsOf (topsOf dr c) := List.mem_filter.mpr ⟨by simpa using hz, ho⟩
          rw [hr] at this; cases this
      exact ⟨0, h.same hno ▸ .done h3.2 hr⟩
    · have hmem : ∀ z, z ∈ ringsOf (topsOf dr c) ↔ z < 4 ∧ onRing (topsOf dr c) z = true := fun z => by
        unfold ringsOf ringsK; rw [List.mem_filter]; simp
      have hnd : (ringsOf (topsOf dr c)).Nodup := List.nodup_range.filter _
      have hf := foldl_incr (ringsOf (topsOf dr c)) c h3.1 hnd fun x hx => ((hmem x).mp hx).1
      obtain ⟨m, h1, _, h2⟩ := Nrm.many _ (ringsOf (topsOf dr c)) (Nat.le_refl _) h h3.1 (fun z hz => by
        obtain ⟨hz4, r⟩ := (hmem z).mp hz
        exact ⟨hz4, r, fun x hx => (hmem x).mpr ⟨(T.orb hz4 r hx).1, (T.orb hz4 r hx).2.1⟩⟩)
      rw [← hf] at h2
      have h3' : Le3 ((ringsOf (topsOf dr c)).foldl incr c) := by
        refine ⟨by rw [foldl_incr_len]; exact h3.1, fun w hw => ?_⟩
        rw [hf]
        simp only [List.getD_eq_getElem?_getD, List.getElem?_map, List.getElem?_range hw, Option.map_some, Option.getD_some]
        split
        · rename_i hm
          obtain ⟨_, r⟩ := (hmem w).mp hm
          have := ring_lt (dr := dr) hw (h3.2 w hw) (T.orb hw r (inO_self ..)).2.2.1
          rw [List.getD_eq_getElem?_getD] at this; (first | lia | omega)
        · have := h3.2 w hw; rw [List.getD_eq_getElem?_getD] at this; (first | lia | omega)
      obtain ⟨k, hk⟩ := ih m (h1 hr) h2 h3'
      exact ⟨k + 1, .step h3.2 hr hk⟩
end
section
theorem lexQ_body (R : List Nat) : ∀ (wd tok : List Nat), lexQ tok (wd.flatMap escQ ++ 34 :: R) = (tok ++ wd, R)
  | [], tok => by simp [lexQ_end]
  | c :: wd, tok => by
    rw [List.flatMap_cons, List.append_assoc]
    by_cases h : c = 34 ∨ c = 92
    · rw [show escQ c = [92, c] from if_pos h]
      show lexQ tok (92 :: c :: (wd.flatMap escQ ++ 34 :: R)) = _
      rw [lexQ_esc]
      show lexQ (tok ++ [c]) (wd.flatMap escQ ++ 34 :: R) = _
      rw [lexQ_body R wd]; simp
    · rw [show escQ c = [c] from if_neg h]
      show lexQ tok (c :: (wd.flatMap escQ ++ 34 :: R)) = _
      rw [lexQ_c (fun e => h (.inl e)) (fun e => h (.inr e)), lexQ_body R wd]; simp
theorem lexW_body (R : List Nat) : ∀ (wd tok : List Nat), lexW tok (wd.flatMap escA ++ 10 :: R) = (tok ++ wd, R)
  | [], tok => by
    show lexW tok (10 :: R) = _
    rw [lexW_end (by decide)]; simp
  | c :: wd, tok => by
    show lexW tok (92 :: c :: (wd.flatMap escA ++ 10 :: R)) = _
    rw [lexW_esc]
    show lexW (tok ++ [c]) (wd.flatMap escA ++ 10 :: R) = _
    rw [lexW_body R wd]; simp
theorem wordOf_ne : ∀ w, w < 4 → ∀ n, n < 40 → wordOf w n ≠ [] := by decide +kernel
theorem lex_body {w n : Nat} (hw : w < 4) (hn : n < 40) (R : List Nat) : lexT (bodyOf w n ++ R) = (wordOf w n, R) := by
  unfold bodyOf
  split
  · cases e : wordOf w n with
    | nil => exact absurd e (wordOf_ne w hw n hn)
    | cons c wd =>
      show lexT (92 :: c :: (wd.flatMap escA ++ [10] ++ R)) = _
      rw [lexT_esc]
      show lexW [c] (wd.flatMap escA ++ [10] ++ R) = _
      rw [List.append_assoc]
      show lexW [c] (wd.flatMap escA ++ 10 :: R) = _
      rw [lexW_body]; rfl
  · rw [List.append_assoc, List.append_assoc]
    show lexT (34 :: ((wordOf w n).flatMap escQ ++ 34 :: R)) = _
    rw [lexT_q, lexQ_body]; simp
theorem lex_tail {w n : Nat} (hw : w < 4) (hn : n < 40) (n' : Nat) (R : List Nat) : lexT (tailOf n' ++ (bodyOf w n ++ R)) = (wordOf w n, R) := by
  unfold tailOf
  split
  · exact lex_body hw hn R
  · show lexT (32 :: (bodyOf w n ++ R)) = _
    rw [lexT_ws (by decide), lex_body hw hn R]
theorem lex_end (n' : Nat) : lexT (tailOf n') = ([], []) := by
  unfold tailOf
  split
  · rfl
  · rfl
noncomputable def tokR (dr : List Nat) (w k : Nat) : List Nat := if k < 3 then wordOf w (numOf dr w k) else []
noncomputable def posR (dr : List Nat) (w k : Nat) : Nat := (endsOf dr w).getD k 0
theorem lex_read {dr : List Nat} (hdr : DrOk dr) {w k : Nat} (hw : w < 4) (hk : k ≤ 3) : ∃ R, lexT ((textOf dr w).drop (posR dr w k)) = (tokR dr w k, R) ∧ (textOf dr w).length - R.length = posR dr w (k + 1) := by
  have n0 := hdr.num hw (k := 0) (by decide)
  have n1 := hdr.num hw (k := 1) (by decide)
  have n2 := hdr.num hw (k := 2) (by decide)
  have ht : textOf dr w = bodyOf w (numOf dr w 0) ++ (tailOf (numOf dr w 0) ++ (bodyOf w (numOf dr w 1) ++ (tailOf (numOf dr w 1) ++ (bodyOf w (numOf dr w 2) ++ tailOf (numOf dr w 2))))) := by
    simp [textOf, textK_succ, textK_zero]
  have p0 : posR dr w 0 = 0 := rfl
  have p1 : posR dr w 1 = (bodyOf w (numOf dr w 0)).length := by simp [posR, endsOf, stopK, textK_succ, textK_zero, List.range_succ]
  have p2 : posR dr w 2 = (bodyOf w (numOf dr w 0) ++ (tailOf (numOf dr w 0) ++ bodyOf w (numOf dr w 1))).length := by simp [posR, endsOf, stopK, textK_succ, textK_zero, List.range_succ]
  have p3 : posR dr w 3 = (bodyOf w (numOf dr w 0) ++ (tailOf (numOf dr w 0) ++ (bodyOf w (numOf dr w 1) ++ (tailOf (numOf dr w 1) ++ bodyOf w (numOf dr w 2))))).length := by simp [posR, endsOf, stopK, textK_succ, textK_zero, List.range_succ]
  have p4 : posR dr w 4 = (textOf dr w).length := by simp [posR, endsOf, stopK, textK_succ, textK_zero, List.range_succ]
  have hk4 : k < 4 := Nat.lt_succ_of_le hk
  clear hk
  cases k, hk4 using lt4 with
  | h0 =>
    refine ⟨tailOf (numOf dr w 0) ++ (bodyOf w (numOf dr w 1) ++ (tailOf (numOf dr w 1) ++ (bodyOf w (numOf dr w 2) ++ tailOf (numOf dr w 2)))), ?_, ?_⟩
    · rw [p0, List.drop_zero, ht]; exact lex_body hw n0 _
    · rw [p1, ht]; simp only [List.length_append]; (first | lia | omega)
  | h1 =>
    refine ⟨tailOf (numOf dr w 1) ++ (bodyOf w (numOf dr w 2) ++ tailOf (numOf dr w 2)), ?_, ?_⟩
    · rw [p1, ht, List.drop_left]; exact lex_tail hw n1 _ _
    · rw [p2, ht]; simp only [List.length_append]; (first | lia | omega)
  | h2 =>
    refine ⟨tailOf (numOf dr w 2), ?_, ?_⟩
    · rw [p2, ht]
      rw [show bodyOf w (numOf dr w 0) ++ (tailOf (numOf dr w 0) ++ (bodyOf w (numOf dr w 1) ++ (tailOf (numOf dr w 1) ++ (bodyOf w (numOf dr w 2) ++ tailOf (numOf dr w 2))))) = (bodyOf w (numOf dr w 0) ++ (tailOf (numOf dr w 0) ++ bodyOf w (numOf dr w 1))) ++ (tailOf (numOf dr w 1) ++ (bodyOf w (numOf dr w 2) ++ tailOf (numOf dr w 2))) by simp, List.drop_left]
      exact lex_tail hw n2 _ _
    · rw [p3, ht]; simp only [List.length_append]; (first | lia | omega)
  | h3 =>
    refine ⟨[], ?_, ?_⟩
    · rw [p3, ht]
      rw [show bodyOf w (numOf dr w 0) ++ (tailOf (numOf dr w 0) ++ (bodyOf w (numOf dr w 1) ++ (tailOf (numOf dr w 1) ++ (bodyOf w (numOf dr w 2) ++ tailOf (numOf dr w 2))))) = (bodyOf w (numOf dr w 0) ++ (tailOf (numOf dr w 0) ++ (bodyOf w (numOf dr w 1) ++ (tailOf (numOf dr w 1) ++ bodyOf w (numOf dr w 2))))) ++ tailOf (numOf dr w 2) by simp, List.drop_left]
      exact lex_end _
    · rw [p4]; simp
noncomputable def valT (w : List Nat) : Int × Nat := if w = [] then (0, 4) else nearF w
set_option maxHeartbeats 4000000 in
theorem near_ok : ∀ w, w < 4 → ∀ n, n < 40 → nearF (wordOf w n) = ((kOf n : Int), gOf n) := by decide +kernel
noncomputable def dueAt (dr : List Nat) (w k : Nat) : Nat × Nat := (dueOf dr w).getD k (0, 4)
theorem due_num {dr : List Nat} {w k : Nat} (hk : k < 3) : dueAt dr w k = (kOf (numOf dr w k), gOf (numOf dr w k)) := by
  unfold dueAt dueOf arrK
  cases k, hk using lt3 with
  | h0 => rfl
  | h1 => rfl
  | h2 => rfl
theorem due_3 (dr : List Nat) (w k : Nat) (hk : 3 ≤ k) : dueAt dr w k = (0, 4) := by
  unfold dueAt
  rw [List.getD_eq_getElem?_getD]
  rcases Nat.lt_or_ge k 4 with h | h
  · have : k = 3 := by (first | lia | omega)
    subst this
    simp [dueOf, arrK]
  · rw [List.getElem?_eq_none (by rw [dueOf_len]; exact h)]; rfl
theorem val_read {dr : List Nat} (hdr : DrOk dr) {w k : Nat} (hw : w < 4) (hk : k ≤ 3) : valT (tokR dr w k) = (((dueAt dr w k).1 : Int), (dueAt dr w k).2) ∧ (tokR dr w k).length ≤ 40 ∧ ∀ c ∈ tokR dr w k, c < 128 := by
  unfold tokR
  split
  · rename_i h
    have hn := hdr.num hw h
    obtain ⟨w1, w2⟩ := word_ok w hw _ hn
    refine ⟨?_, by (first | lia | omega), w1⟩
    rw [valT, if_neg (wordOf_ne w hw _ hn), near_ok w hw _ hn, due_num h]
  · rename_i h
    refine ⟨?_, by simp, by simp⟩
    rw [due_3 dr w k (by (first | lia | omega))]; rfl
theorem due_le (dr : List Nat) (w k : Nat) : (dueAt dr w k).2 ≤ 4 ∧ (dueAt dr w k).1 ≤ 3 := by
  refine ⟨dueOf_at dr w k, ?_⟩
  rcases Nat.lt_or_ge k 3 with h | h
  · rw [due_num h]; exact Nat.le_of_lt_succ (Nat.mod_lt _ (by decide))
  · rw [due_3 dr w k h]; decide
end
section
noncomputable def stat (f : Nat → List Nat) (h : List Nat → Int) : Int := h (f 0) + h (f 1) + h (f 2) + h (f 3)
noncomputable def c0 (l : List Nat) : Int := ((l.filter (· == 0)).length : Nat)
noncomputable def c1 (l : List Nat) : Int := (l.length : Nat)
noncomputable def c2 (l : List Nat) : Int := (l.sum : Nat)
noncomputable def c3 (l : List Nat) : Int := ((l.map fun k => k * k).sum : Nat)
noncomputable def callOf (l : List Nat) : Option (Int × Int) := if l = [] then none else some (c1 l, c2 l)
structure RowIs (r : Row) (f : Nat → List Nat) : Prop where
  a : r.a = stat f c0
  b : r.b = stat f c1
  c : r.c = stat f c2
  d : r.d = stat f c3
  calls : ∀ w, w < 4 → getC r.calls w = callOf (f w)
structure BInv (bk : List (Nat × Row)) (F : Nat → Nat → List Nat) : Prop where
  ok : BkOk bk
  non : ∀ g, g ≤ 4 → getB bk g = none → ∀ w, w < 4 → F g w = []
  row : ∀ g r, g ≤ 4 → getB bk g = some r → (∃ w, w < 4 ∧ F g w ≠ []) ∧ RowIs r (F g)
theorem getB_put (g0 : Nat) (r : Row) (g : Nat) : ∀ bk : List (Nat × Row), getB (putB bk g0 r) g = if g = g0 then some r else getB bk g
  | [] => by
    show (if g0 = g then some r else none) = _
    by_cases h : g = g0
    · rw [if_pos h.symm, if_pos h]
    · rw [if_neg (Ne.symm h), if_neg h]; rfl
  | (k, r') :: l => by
    by_cases hk : k = g0
    · subst hk
      rw [show putB ((k, r') :: l) k r = (k, r) :: l from if_pos rfl]
      show (if k = g then some r else getB l g) = if g = k then some r else (if k = g then some r' else getB l g)
      by_cases h : g = k
      · rw [if_pos h.symm, if_pos h]
      · rw [if_neg (Ne.symm h), if_neg h, if_neg (Ne.symm h)]
    · rw [show putB ((k, r') :: l) g0 r = (k, r') :: putB l g0 r from if_neg hk]
      show (if k = g then some r' else getB (putB l g0 r) g) = if g = g0 then some r else (if k = g then some r' else getB l g)
      rw [getB_put g0 r g l]
      by_cases h : k = g
      · subst h; rw [if_pos rfl, if_neg hk, if_pos rfl]
      · rw [if_neg h, if_neg h]
theorem getC_upd (h : Nat) (p : Int) (w : Nat) : ∀ l : List (Nat × Int × Int), getC (updC l h p) w = if w = h then some (match getC l h with | none => (1, p) | some (n, s) => (1 + n, p + s)) else getC l w
  | [] => by
    show (if h = w then some (1, p) else none) = _
    by_cases e : w = h
    · rw [if_pos e.symm, if_pos e]; rfl
    · rw [if_neg (Ne.symm e), if_neg e]; rfl
  | (k, n, s) :: l => by
    by_cases hk : k = h
    · subst hk
      rw [show updC ((k, n, s) :: l) k p = (k, 1 + n, p + s) :: l from if_pos rfl]
      show (if k = w then some (1 + n, p + s) else getC l w) = if w = k then some (match (if k = k then some (n, s) else getC l k) with | none => (1, p) | some (n, s) => (1 + n, p + s)) else (if k = w then some (n, s) else getC l w)
      by_cases e : w = k
      · rw [if_pos e.symm, if_pos e, if_pos rfl]
      · rw [if_neg (Ne.symm e), if_neg e, if_neg (Ne.symm e)]
    · rw [show updC ((k, n, s) :: l) h p = (k, n, s) :: updC l h p from if_neg hk]
      show (if k = w then some (n, s) else getC (updC l h p) w) = if w = h then some (match (if k = h then some (n, s) else getC l h) with | none => (1, p) | some (n, s) => (1 + n, p + s)) else (if k = w then some (n, s) else getC l w)
      rw [getC_upd h p w l, if_neg hk]
      by_cases e : k = w
      · subst e; rw [if_pos rfl, if_neg hk, if_pos rfl]
      · rw [if_neg e, if_neg e]
theorem stat_upd {f f' : Nat → List Nat} {h : List Nat → Int} {w : Nat} {δ : Int} (hw : w < 4) (h1 : ∀ v, v ≠ w → f' v = f v) (h2 : h (f' w) = δ + h (f w)) : stat f' h = δ + stat f h := by
  unfold stat
  cases w, hw using lt4 with
  | h0 => rw [h2, h1 1 (by decide), h1 2 (by decide), h1 3 (by decide)]; (first | lia | omega)
  | h1 => rw [h2, h1 0 (by decide), h1 2 (by decide), h1 3 (by decide)]; (first | lia | omega)
  | h2 => rw [h2, h1 0 (by decide), h1 1 (by decide), h1 3 (by decide)]; (first | lia | omega)
  | h3 => rw [h2, h1 0 (by decide), h1 1 (by decide), h1 2 (by decide)]; (first | lia | omega)
theorem RowIs.add {r : Row} {f f' : Nat → List Nat} {w p : Nat} (R : RowIs r f) (hw : w < 4) (h1 : ∀ v, v ≠ w → f' v = f v) (h2 : f' w = f w ++ [p]) : RowIs (addR r w (p : Int)) f' := by
  have hp : ((p : Int) = 0) ↔ p = 0 := by (first | lia | omega)
  refine ⟨?_, ?_, ?_, ?_, fun v hv => ?_⟩
  · show (if (p : Int) = 0 then 1 else 0) + r.a = _
    rw [R.a]
    refine (stat_upd hw h1 ?_).symm
    rw [h2]; unfold c0
    by_cases e : p = 0
    · rw [if_pos (hp.mpr e)]; simp [e]; (first | lia | omega)
    · rw [if_neg (fun q => e (hp.mp q))]; simp [e]
  · show 1 + r.b = _
    rw [R.b]
    refine (stat_upd hw h1 ?_).symm
    rw [h2]; unfold c1; simp; (first | lia | omega)
  · show (p : Int) + r.c = _
    rw [R.c]
    refine (stat_upd hw h1 ?_).symm
    rw [h2]; unfold c2; simp; (first | lia | omega)
  · show (p : Int) * p + r.d = _
    rw [R.d]
    refine (stat_upd hw h1 ?_).symm
    rw [h2]; unfold c3; simp; (first | lia | omega)
  · show getC (updC r.calls w p) v = _
    rw [getC_upd]
    by_cases e : v = w
    · subst e
      rw [if_pos rfl, R.calls v hv, h2]
      unfold callOf
      by_cases e2 : f v = []
      · rw [if_pos e2, e2]; simp [c1, c2]
      · rw [if_neg e2, if_neg (by simp)]
        simp [c1, c2]; (first | lia | omega)
    · rw [if_neg e, R.calls v hv, h1 v e]
theorem RowIs.zero {f : Nat → List Nat} (h : ∀ w, w < 4 → f w = []) : RowIs zeroR f := by
  have e : ∀ k : List Nat → Int, k [] = 0 → stat f k = 0 := fun k hk => by
    unfold stat; rw [h 0 (by decide), h 1 (by decide), h 2 (by decide), h 3 (by decide), hk]; rfl
  exact ⟨(e c0 rfl).symm, (e c1 rfl).symm, (e c2 rfl).symm, (e c3 rfl).symm, fun w hw => by rw [h w hw]; rfl⟩
theorem BInv.add {bk : List (Nat × Row)} {F F' : Nat → Nat → List Nat} {g0 w p : Nat} (B : BInv bk F) (hg : g0 ≤ 4) (hw : w < 4) (h1 : ∀ g v, ¬ (g = g0 ∧ v = w) → F' g v = F g v) (h2 : F' g0 w = F g0 w ++ [p]) :
    BInv (putB bk g0 (addR ((getB bk g0).getD zeroR) w (p : Int))) F' := by
  have hr : RowIs ((getB bk g0).getD zeroR) (F g0) := by
    cases e : getB bk g0 with
    | none => exact RowIs.zero (B.non g0 hg e)
    | some r => exact (B.row g0 r hg e).2
  refine ⟨B.ok.put hg hw p, fun g hg4 e v hv => ?_, fun g r hg4 e => ?_⟩
  · rw [getB_put] at e
    by_cases h : g = g0
    · rw [if_pos h] at e; cases e
    · rw [if_neg h] at e
      rw [h1 g v (fun q => h q.1)]; exact B.non g hg4 e v hv
  · rw [getB_put] at e
    by_cases h : g = g0
    · subst h
      rw [if_pos rfl] at e; cases e
      exact ⟨⟨w, hw, by rw [h2]; simp⟩, hr.add hw (fun v hv => h1 g v (fun q => hv q.2)) h2⟩
    · rw [if_neg h] at e
      obtain ⟨⟨v, hv, hne⟩, R⟩ := B.row g r hg4 e
      have hF : F' g = F g := funext fun v => h1 g v (fun q => h q.1)
      exact ⟨⟨v, hv, by rw [hF]; exact hne⟩, by rw [hF]; exact R⟩
theorem len_le_of_sub : ∀ {l l' : List Nat}, l.Nodup → (∀ x ∈ l, x ∈ l') → l.length ≤ l'.length
  | [], _, _, _ => Nat.zero_le _
  | x :: l, l', hn, h => by
    rw [List.nodup_cons] at hn
    have hx := h x (.head _)
    have := len_le_of_sub (l := l) (l' := l'.erase x) hn.2 fun y hy => (List.mem_erase_of_ne (by intro e; subst e; exact hn.1 hy)).mpr (h y (.tail _ hy))
    rw [List.length_erase_of_mem hx] at this
    have : 0 < l'.length := List.length_pos_of_mem hx
    simp only [List.length_cons]; (first | lia | omega)
theorem len_eq_of_same {l l' : List Nat} (h1 : l.Nodup) (h2 : l'.Nodup) (h : ∀ x, x ∈ l ↔ x ∈ l') : l.length = l'.length :=
  Nat.le_antisymm (len_le_of_sub h1 fun x hx => (h x).mp hx) (len_le_of_sub h2 fun x hx => (h x).mpr hx)
theorem getB_some {bk : List (Nat × Row)} (hn : (bk.map (·.1)).Nodup) : ∀ q ∈ bk, getB bk q.1 = some q.2 := by
  induction bk with
  | nil => intro q hq; cases hq
  | cons p bk ih =>
    intro q hq
    simp only [List.map_cons, List.nodup_cons] at hn
    obtain ⟨k, r⟩ := p
    show (if k = q.1 then some r else getB bk q.1) = _
    rcases List.mem_cons.mp hq with rfl | hq
    · rw [if_pos rfl]
    · have hne : k ≠ q.1 := fun e => hn.1 (e ▸ List.mem_map.mpr ⟨q, hq, rfl⟩)
      rw [if_neg hne]; exact ih hn.2 q hq
theorem getC_some {l : List (Nat × Int × Int)} (hn : (l.map (·.1)).Nodup) : ∀ q ∈ l, getC l q.1 = some q.2 := by
  induction l with
  | nil => intro q hq; cases hq
  | cons p l ih =>
    intro q hq
    simp only [List.map_cons, List.nodup_cons] at hn
    obtain ⟨k, r⟩ := p
    show (if k = q.1 then some r else getC l q.1) = _
    rcases List.mem_cons.mp hq with rfl | hq
    · rw [if_pos rfl]
    · have hne : k ≠ q.1 := fun e => hn.1 (e ▸ List.mem_map.mpr ⟨q, hq, rfl⟩)
      rw [if_neg hne]; exact ih hn.2 q hq
theorem getC_key {l : List (Nat × Int × Int)} {w : Nat} {v : Int × Int} (h : getC l w = some v) : w ∈ l.map (·.1) := by
  induction l with
  | nil => cases h
  | cons p l ih =>
    obtain ⟨k, r⟩ := p
    rw [getC_cons] at h
    split at h
    · rename_i e; rw [e]; exact .head _
    · exact .tail _ (ih h)
noncomputable def blk (dr : List Nat) (n g w : Nat) : List Nat := (((dueOf dr w).take n).filter fun p => p.2 == g).map (·.1)
theorem hits_blk (dr thr : List Nat) (g : Nat) : hitsOf dr thr g = (List.range 4).flatMap fun w => (blk dr (thr.getD w 0 + 1) g w).map fun k => (w, k) := by
  unfold hitsOf blk
  simp [Function.comp_def]
theorem kinds_hits (f : Nat → List Nat) {w : Nat} (hw : w < 4) : kindsOf ((List.range 4).flatMap fun w => (f w).map fun k => (w, k)) w = f w := by
  have e : ∀ v, ((f v).map fun k => (v, k)).filter (fun p => p.1 == w) = if v = w then (f v).map (fun k => (v, k)) else [] := by
    intro v
    by_cases h : v = w
    · rw [if_pos h]; exact List.filter_eq_self.mpr fun p hp => by obtain ⟨k, _, rfl⟩ := List.mem_map.mp hp; simpa using h
    · rw [if_neg h]; exact List.filter_eq_nil_iff.mpr fun p hp => by obtain ⟨k, _, rfl⟩ := List.mem_map.mp hp; simpa using h
  have : (List.range 4).flatMap (fun w => (f w).map fun k => (w, k)) = (f 0).map (fun k => (0, k)) ++ ((f 1).map (fun k => (1, k)) ++ ((f 2).map (fun k => (2, k)) ++ (f 3).map fun k => (3, k))) := by
    simp [List.range_succ]
  rw [this]
  unfold kindsOf
  simp only [List.filter_append, e]
  cases w, hw using lt4 with
  | h0 => simp [Function.comp_def]
  | h1 => simp [Function.comp_def]
  | h2 => simp [Function.comp_def]
  | h3 => simp [Function.comp_def]
theorem row_hits (f : Nat → List Nat) : RowIs (rowOf ((List.range 4).flatMap fun w => (f w).map fun k => (w, k))) f := by
  have this : (List.range 4).flatMap (fun w => (f w).map fun k => (w, k)) = (f 0).map (fun k => (0, k)) ++ ((f 1).map (fun k => (1, k)) ++ ((f 2).map (fun k => (2, k)) ++ (f 3).map fun k => (3, k))) := by
    simp [List.range_succ]
  have hm : ((List.range 4).flatMap fun w => (f w).map fun k => (w, k)).map (·.2) = f 0 ++ (f 1 ++ (f 2 ++ f 3)) := by
    rw [this]; simp [Function.comp_def]
  refine ⟨?_, ?_, ?_, ?_, fun w hw => ?_⟩
  · show (((((List.range 4).flatMap fun w => (f w).map fun k => (w, k)).map (·.2)).filter (· == 0)).length : Int) = _
    rw [hm]; unfold stat c0; simp; (first | lia | omega)
  · show ((((List.range 4).flatMap fun w => (f w).map fun k => (w, k)).length : Nat) : Int) = _
    rw [this]; unfold stat c1; simp; (first | lia | omega)
  · show (((((List.range 4).flatMap fun w => (f w).map fun k => (w, k)).map (·.2)).sum : Nat) : Int) = _
    rw [hm]; unfold stat c2; simp; (first | lia | omega)
  · show ((((((List.range 4).flatMap fun w => (f w).map fun k => (w, k)).map (·.2)).map fun k => k * k).sum : Nat) : Int) = _
    rw [hm]; unfold stat c3; simp; (first | lia | omega)
  · have hk := kinds_hits f hw
    generalize (List.range 4).flatMap (fun w => (f w).map fun k => (w, k)) = H at *
    show getC (callsK H 4) w = _
    have key : ∀ n, getC (callsK H n) w = if w < n then callOf (kindsOf H w) else none := by
      intro n
      induction n with
      | zero => rfl
      | succ n ih =>
        rw [callsK_succ]
        have app : ∀ (l m : List (Nat × Int × Int)), getC (l ++ m) w = (getC l w).or (getC m w) := by
          intro l m
          induction l with
          | nil => simp [getC_nil]
          | cons p l ih2 =>
            obtain ⟨k, v⟩ := p
            show (if k = w then some v else getC (l ++ m) w) = (if k = w then some v else getC l w).or _
            by_cases e : k = w
            · rw [if_pos e, if_pos e]; rfl
            · rw [if_neg e, if_neg e, ih2]
        rw [app, ih]
        by_cases h2 : w = n
        · subst h2
          rw [if_neg (Nat.lt_irrefl _), if_pos (Nat.lt_succ_self _)]
          simp only [Option.none_or]
          unfold callOf
          split
          · rfl
          · show (if w = w then some (((kindsOf H w).length : Int), (((kindsOf H w).sum : Nat) : Int)) else none) = _
            rw [if_pos rfl]; rfl
        · have hlast : getC (if kindsOf H n = [] then [] else [(n, ((kindsOf H n).length : Int), (((kindsOf H n).sum : Nat) : Int))]) w = none := by
            split
            · rfl
            · show (if n = w then _ else none) = none
              rw [if_neg (Ne.symm h2)]
          rw [hlast, Option.or_none]
          by_cases h1 : w < n
          · rw [if_pos h1, if_pos (Nat.lt_succ_of_lt h1)]
          · rw [if_neg h1, if_neg (by (first | lia | omega))]
    rw [key 4, if_pos hw, hk]
theorem RowIs.same {r r' : Row} {f : Nat → List Nat} (h : RowIs r f) (h' : RowIs r' f) (hn : (r.calls.map (·.1)).Nodup) (hn' : (r'.calls.map (·.1)).Nodup) (hl : ∀ c ∈ r.calls, c.1 < 4) (hl' : ∀ c ∈ r'.calls, c.1 < 4) : SameR r r' := by
  refine ⟨h.a.trans h'.a.symm, h.b.trans h'.b.symm, h.c.trans h'.c.symm, h.d.trans h'.d.symm, ?_, fun c hc => ?_⟩
  · have key : ∀ {r r' : Row}, RowIs r f → RowIs r' f → (r.calls.map (·.1)).Nodup → (∀ c ∈ r.calls, c.1 < 4) → ∀ x, x ∈ r.calls.map (·.1) → x ∈ r'.calls.map (·.1) := by
      intro r r' h h' hn hl x hx
      obtain ⟨c, hc, rfl⟩ := List.mem_map.mp hx
      have e := getC_some hn c hc
      have hlt := hl c hc
      rw [h.calls _ hlt, ← h'.calls _ hlt] at e
      exact getC_key e
    have := len_eq_of_same hn hn' fun x => ⟨key h h' hn hl x, key h' h hn' hl' x⟩
    simpa using this
  · have hlt := hl c hc
    rw [h'.calls _ hlt, ← h.calls _ hlt]
    exact getC_some hn c hc
theorem profK_get (dr thr : List Nat) {g : Nat} : ∀ n, getB (profK dr thr n) g = if g < n ∧ hitsOf dr thr g ≠ [] then some (rowOf (hitsOf dr thr g)) else none := by
  intro n
  induction n with
  | zero => rw [if_neg (by (first | lia | omega))]; rfl
  | succ n ih =>
    rw [profK_succ]
    have app : ∀ (l m : List (Nat × Row)), getB (l ++ m) g = (getB l g).or (getB m g) := by
      intro l m
      induction l with
      | nil => simp [getB_nil]
      | cons p l ih2 =>
        obtain ⟨k, v⟩ := p
        show (if k = g then some v else getB (l ++ m) g) = (if k = g then some v else getB l g).or _
        by_cases e : k = g
        · rw [if_pos e, if_pos e]; rfl
        · rw [if_neg e, if_neg e, ih2]
    rw [app, ih]
    by_cases h2 : g = n
    · subst h2
      rw [if_neg (by (first | lia | omega))]
      simp only [Option.none_or]
      by_cases he : hitsOf dr thr g = []
      · rw [if_pos he, if_neg (by simp [he])]; rfl
      · rw [if_neg he, if_pos ⟨by (first | lia | omega), he⟩]
        show (if g = g then _ else none) = _
        rw [if_pos rfl]
    · have hlast : getB (if hitsOf dr thr n = [] then [] else [(n, rowOf (hitsOf dr thr n))]) g = none := by
        split
        · rfl
        · show (if n = g then _ else none) = none
          rw [if_neg (Ne.symm h2)]
      rw [hlast, Option.or_none]
      by_cases h1 : g < n
      · by_cases he : hitsOf dr thr g ≠ []
        · rw [if_pos ⟨h1, he⟩, if_pos ⟨by (first | lia | omega), he⟩]
        · rw [if_neg (fun q => he q.2), if_neg (fun q => he q.2)]
      · rw [if_neg (fun q => h1 q.1), if_neg (fun q => by (first | lia | omega))]
theorem profK_nodup (dr thr : List Nat) : ∀ n, ((profK dr thr n).map (·.1)).Nodup
  | 0 => by simp [profK]
  | n + 1 => by
    rw [profK_succ, List.map_append]
    refine List.nodup_append.mpr ⟨profK_nodup dr thr n, by split <;> simp, fun a ha b hb => ?_⟩
    obtain ⟨q, hq, rfl⟩ := List.mem_map.mp ha
    have := profK_lt hq
    split at hb
    · cases hb
    · simp at hb; (first | lia | omega)
theorem callsK_nodup (H : List (Nat × Nat)) : ∀ n, ((callsK H n).map (·.1)).Nodup
  | 0 => by simp [callsK]
  | n + 1 => by
    rw [callsK_succ, List.map_append]
    refine List.nodup_append.mpr ⟨callsK_nodup H n, by split <;> simp, fun a ha b hb => ?_⟩
    obtain ⟨q, hq, rfl⟩ := List.mem_map.mp ha
    have := callsK_lt hq
    split at hb
    · cases hb
    · simp at hb; (first | lia | omega)
theorem BInv.fin {bk : List (Nat × Row)} {dr thr : List Nat} (B : BInv bk fun g w => blk dr (thr.getD w 0 + 1) g w) : SameB bk (profK dr thr 5) := by
  have hne : ∀ g, hitsOf dr thr g ≠ [] ↔ ∃ w, w < 4 ∧ blk dr (thr.getD w 0 + 1) g w ≠ [] := by
    intro g
    rw [hits_blk]
    constructor
    · intro h
      obtain ⟨p, hp⟩ := List.exists_mem_of_ne_nil _ h
      obtain ⟨w, hw, hm⟩ := List.mem_flatMap.mp hp
      refine ⟨w, by simpa using hw, fun e => ?_⟩
      rw [e] at hm; cases hm
    · rintro ⟨w, hw, h⟩ e
      obtain ⟨k, hk⟩ := List.exists_mem_of_ne_nil _ h
      have : (w, k) ∈ (List.range 4).flatMap fun w => (blk dr (thr.getD w 0 + 1) g w).map fun k => (w, k) := List.mem_flatMap.mpr ⟨w, by simpa using hw, List.mem_map.mpr ⟨k, hk, rfl⟩⟩
      rw [e] at this; cases this
  have hget : ∀ q ∈ bk, getB (profK dr thr 5) q.1 = some (rowOf (hitsOf dr thr q.1)) ∧ RowIs q.2 (fun w => blk dr (thr.getD w 0 + 1) q.1 w) := by
    intro q hq
    have h4 := B.ok.lt q hq
    obtain ⟨h1, R⟩ := B.row q.1 q.2 h4 (getB_some B.ok.keys q hq)
    rw [profK_get, if_pos ⟨by (first | lia | omega), (hne q.1).mpr h1⟩]
    exact ⟨rfl, R⟩
  refine ⟨?_, fun q hq => ?_⟩
  · have := len_eq_of_same B.ok.keys (profK_nodup dr thr 5) fun x => ⟨fun hx => ?_, fun hx => ?_⟩
    · simpa using this
    · obtain ⟨q, hq, rfl⟩ := List.mem_map.mp hx
      have := getB_mem (hget q hq).1
      exact List.mem_map.mpr ⟨_, this, rfl⟩
    · obtain ⟨q, hq, rfl⟩ := List.mem_map.mp hx
      have hlt := profK_lt hq
      have e := getB_some (profK_nodup dr thr 5) q hq
      rw [profK_get] at e
      split at e
      · rename_i h
        obtain ⟨w, hw, hb⟩ := (hne q.1).mp h.2
        cases hg : getB bk q.1 with
        | some r => exact List.mem_map.mpr ⟨_, getB_mem hg, rfl⟩
        | none => exact absurd (B.non q.1 (by (first | lia | omega)) hg w hw) hb
      · cases e
  · obtain ⟨h1, R⟩ := hget q hq
    refine ⟨_, h1, ?_⟩
    rw [hits_blk]
    refine R.same (row_hits _) (B.ok.ck q hq) (callsK_nodup _ 4) (B.ok.cl q hq) fun c hc => callsK_lt hc
end
section
noncomputable def Chain (last : List Nat) : Nat → List Nat → Nat → Prop
  | s, [], h => s = h
  | s, x :: p, h => s = x ∧ Chain last (last.getD x 0) p h
theorem Chain.snoc {last : List Nat} {x : Nat} : ∀ {s : Nat} {p : List Nat}, Chain last s p x → Chain last s (p ++ [x]) (last.getD x 0)
  | s, [], h => ⟨h, rfl⟩
  | s, y :: p, ⟨h1, h2⟩ => ⟨h1, Chain.snoc h2⟩
theorem Chain.congr {last last' : List Nat} : ∀ {s : Nat} {p : List Nat} {h : Nat}, (∀ x ∈ p, last'.getD x 0 = last.getD x 0) → Chain last s p h → Chain last' s p h
  | s, [], h, _, e => e
  | s, y :: p, h, k, ⟨h1, h2⟩ => ⟨h1, by rw [k y (.head _)]; exact Chain.congr (fun x hx => k x (.tail _ hx)) h2⟩
theorem Chain.split {last : List Nat} : ∀ {s : Nat} {p q : List Nat} {h : Nat}, Chain last s (p ++ q) h → ∃ m, Chain last s p m ∧ Chain last m q h
  | s, [], q, h, e => ⟨s, rfl, e⟩
  | s, y :: p, q, h, ⟨h1, h2⟩ => by obtain ⟨m, a, b⟩ := Chain.split h2; exact ⟨m, ⟨h1, a⟩, b⟩
inductive RT (last tree : List Nat) : Nat → Prop
  | root : RT last tree 4
  | step {x : Nat} : x < 4 → x ∈ tree → RT last tree (last.getD x 0) → RT last tree x
theorem RT.mono {last last' tree tree' : List Nat} (h1 : ∀ x ∈ tree, x ∈ tree') (h2 : ∀ x, x < 4 → x ∈ tree → last'.getD x 0 = last.getD x 0) {x : Nat} (h : RT last tree x) : RT last' tree' x := by
  induction h with
  | root => exact .root
  | step a b _ ih => exact .step a (h1 _ b) (by rw [h2 _ a b]; exact ih)
theorem RT.chain {last tree : List Nat} : ∀ {s : Nat} {p : List Nat} {h : Nat}, Chain last s p h → RT last tree h → (∀ x ∈ p, x < 4 ∧ x ∈ tree) → RT last tree s ∧ ∀ x ∈ p, RT last tree x
  | s, [], h, e, r, _ => ⟨e ▸ r, fun x hx => by cases hx⟩
  | s, y :: p, h, ⟨e, c⟩, r, k => by
    obtain ⟨a, b⟩ := RT.chain c r fun x hx => k x (.tail _ hx)
    have hy := k y (.head _)
    have ry : RT last tree y := .step hy.1 hy.2 a
    exact ⟨e ▸ ry, fun x hx => by rcases List.mem_cons.mp hx with rfl | hx; exact ry; exact b x hx⟩
theorem ring_chain {t : List Nat} {z : Nat} {q : List Nat} (hn : (z :: q).Nodup) (hlt : ∀ x ∈ z :: q, x < 4) (h : Chain t z (z :: q) z) : onRing t z = true ∧ ∀ x, inO t z x = true ↔ x ∈ z :: q := by
  have hl : (z :: q).length ≤ 4 := nodup_len 4 _ hn hlt
  have e : ∀ y, t.getD y 0 = fT t y := fun _ => rfl
  match q, hn, hlt, h, hl with
  | [], hn, hlt, ⟨_, h1⟩, _ =>
    have f1 : fT t z = z := h1
    refine ⟨by simp [onRing, goRing_succ, goRing_zero, e, f1, -List.getD_eq_getElem?_getD], fun x => ?_⟩
    simp [inO, f1]
  | [a], hn, hlt, ⟨_, h1, h2⟩, _ =>
    have f1 : fT t z = a := h1
    have f2 : fT t a = z := h2
    have hza : a ≠ z := by simp at hn; exact fun q => hn q.symm
    have ha4 : a ≠ 4 := by have := hlt a (by simp); (first | lia | omega)
    refine ⟨by simp [onRing, goRing_succ, goRing_zero, e, f1, f2, hza, ha4, -List.getD_eq_getElem?_getD], fun x => ?_⟩
    simp [inO, f1, f2]
    constructor
    · rintro ((h | h) | h) <;> simp [h]
    · rintro (h | h) <;> simp [h]
  | [a, b], hn, hlt, ⟨_, h1, h2, h3⟩, _ =>
    have f1 : fT t z = a := h1
    have f2 : fT t a = b := by subst h1; exact h2
    have f3 : fT t b = z := by subst h1; subst h2; exact h3
    have hza : a ≠ z ∧ b ≠ z := by simp at hn; exact ⟨fun q => hn.1.1 q.symm, fun q => hn.1.2 q.symm⟩
    have ha4 : a ≠ 4 ∧ b ≠ 4 := ⟨by have := hlt a (by simp); (first | lia | omega), by have := hlt b (by simp); (first | lia | omega)⟩
    refine ⟨by simp [onRing, goRing_succ, goRing_zero, e, f1, f2, f3, hza, ha4, -List.getD_eq_getElem?_getD], fun x => ?_⟩
    simp [inO, f1, f2, f3]
    constructor
    · rintro (((h | h) | h) | h) <;> simp [h]
    · rintro (h | h | h) <;> simp [h]
  | [a, b, c], hn, hlt, ⟨_, h1, h2, h3, h4⟩, _ =>
    have f1 : fT t z = a := h1
    have f2 : fT t a = b := by subst h1; exact h2
    have f3 : fT t b = c := by subst h1; subst h2; exact h3
    have f4 : fT t c = z := by subst h1; subst h2; subst h3; exact h4
    have hza : a ≠ z ∧ b ≠ z ∧ c ≠ z := by simp at hn; exact ⟨fun q => hn.1.1 q.symm, fun q => hn.1.2.1 q.symm, fun q => hn.1.2.2 q.symm⟩
    have ha4 : a ≠ 4 ∧ b ≠ 4 ∧ c ≠ 4 := ⟨by have := hlt a (by simp); (first | lia | omega), by have := hlt b (by simp); (first | lia | omega), by have := hlt c (by simp); (first | lia | omega)⟩
    refine ⟨by simp [onRing, goRing_succ, goRing_zero, e, f1, f2, f3, f4, hza, ha4, -List.getD_eq_getElem?_getD], fun x => ?_⟩
    simp [inO, f1, f2, f3]
    constructor
    · rintro (((h | h) | h) | h) <;> simp [h]
    · rintro (h | h | h | h) <;> simp [h]
  | _ :: _ :: _ :: _ :: _, _, _, _, hl => simp at hl
structure KnOk (kn : Kn) : Prop where
  nil : getK kn [] = some (0, 4)
  val : ∀ t v, getK kn t = some v → v = valT t
theorem KnOk.read {kn : Kn} (h : KnOk kn) (t : List Nat) : (getK kn t).getD (nearF t) = valT t ∧ KnOk (addK kn t) ∧ (addK kn t).length ≤ kn.length + 1 := by
  cases e : getK kn t with
  | some v =>
    have : addK kn t = kn := by simp [addK, e]
    exact ⟨h.val t v e, by rw [this]; exact h, by rw [this]; (first | lia | omega)⟩
  | none =>
    have ht : t ≠ [] := fun q => by rw [q, h.nil] at e; cases e
    have hv : valT t = nearF t := if_neg ht
    have ha : addK kn t = kn ++ [(t, nearF t)] := by simp [addK, e]
    have app : ∀ (l : Kn) (u : List Nat), getK (l ++ [(t, nearF t)]) u = (getK l u).or (if t = u then some (nearF t) else none) := by
      intro l u
      induction l with
      | nil => simp [getK_cons, getK_nil]
      | cons p l ih =>
        obtain ⟨k, v⟩ := p
        show (if k = u then some v else getK (l ++ _) u) = (if k = u then some v else getK l u).or _
        by_cases q : k = u
        · rw [if_pos q, if_pos q]; rfl
        · rw [if_neg q, if_neg q, ih]
    refine ⟨hv.symm, ⟨by rw [ha, app, h.nil]; rfl, fun u v hu => ?_⟩, by rw [ha]; simp⟩
    rw [ha, app] at hu
    cases q : getK kn u with
    | some v' => rw [q] at hu; cases hu; exact h.val u _ q
    | none =>
      rw [q] at hu
      by_cases q2 : t = u
      · rw [if_pos q2] at hu; cases hu; rw [← q2, hv]
      · rw [if_neg q2] at hu; cases hu
open Classical in
noncomputable def cOf (ws : WS) (p : List Nat) : List Nat := (List.range 4).map fun w => ws.reads.getD w 0 - if w ∈ ws.tree ∨ w ∈ p then 1 else 0
structure WInv (dr thr : List Nat) (K0 : Nat) (ws : WS) (p : List Nat) (s h : Nat) : Prop where
  l1 : ws.pos.length = 4
  l2 : ws.reads.length = 4
  l3 : ws.last.length = 4
  pos : ∀ w, w < 4 → ws.pos.getD w 0 = posR dr w (ws.reads.getD w 0)
  kn : KnOk ws.kn
  kl : ws.kn.length ≤ K0 + ws.reads.sum
  bk : BInv ws.bk fun g w => blk dr (ws.reads.getD w 0) g w
  root : 4 ∈ ws.tree
  tl : ∀ x ∈ ws.tree, x ≤ 4
  pn : p.Nodup
  pl : ∀ x ∈ p, x < 4 ∧ x ∉ ws.tree
  hp : h ∉ p
  h4 : h ≤ 4
  ch : Chain ws.last s p h
  rd : ∀ w, w < 4 → (w ∈ ws.tree ∨ w ∈ p) → 1 ≤ ws.reads.getD w 0
  la : ∀ w, w < 4 → (w ∈ ws.tree ∨ w ∈ p) → ws.last.getD w 0 = (dueAt dr w (ws.reads.getD w 0 - 1)).2
  nrm : ∃ n, Nrm dr n (cOf ws p) thr
  rt : ∀ x ∈ ws.tree, RT ws.last ws.tree x
theorem cOf_at (ws : WS) (p : List Nat) {w : Nat} (hw : w < 4) : (cOf ws p).getD w 0 = ws.reads.getD w 0 - (open Classical in if w ∈ ws.tree ∨ w ∈ p then 1 else 0) := by
  unfold cOf
  simp [List.getD, hw]
theorem list4 {l l' : List Nat} (h1 : l.length = 4) (h2 : l'.length = 4) (h : ∀ w, w < 4 → l.getD w 0 = l'.getD w 0) : l = l' := by
  obtain ⟨a, b, c, d, rfl⟩ := len4 h1
  obtain ⟨a', b', c', d', rfl⟩ := len4 h2
  rw [show a = a' from h 0 (by decide), show b = b' from h 1 (by decide), show c = c' from h 2 (by decide), show d = d' from h 3 (by decide)]
theorem cOf_len (ws : WS) (p : List Nat) : (cOf ws p).length = 4 := by simp [cOf]
section
variable {dr thr : List Nat} {K0 : Nat} {ws : WS} {p : List Nat} {s h : Nat}
theorem WInv.unread (W : WInv dr thr K0 ws p s h) (h3 : Le3 thr) (hh : h ∉ ws.tree) : h < 4 ∧ ws.reads.getD h 0 ≤ 3 ∧ (cOf ws p).getD h 0 = ws.reads.getD h 0 := by
  have hlt : h < 4 := by
    have := W.h4
    rcases Nat.lt_or_ge h 4 with q | q
    · exact q
    · have : h = 4 := by (first | lia | omega)
      exact absurd (this ▸ W.root) hh
  have hc : (cOf ws p).getD h 0 = ws.reads.getD h 0 := by
    rw [cOf_at ws p hlt, if_neg (fun q => q.elim hh W.hp)]; rfl
  obtain ⟨n, hn⟩ := W.nrm
  have := hn.le hlt
  rw [hc] at this
  exact ⟨hlt, Nat.le_trans this (h3.2 h hlt), hc⟩
theorem top_at (W : WInv dr thr K0 ws p s h) {w : Nat} (hw : w < 4) (hu : w ∈ ws.tree ∨ w ∈ p) : fT (topsOf dr (cOf ws p)) w = ws.last.getD w 0 := by
  show (topsOf dr (cOf ws p)).getD w 0 = _
  rw [topsOf_at dr _ hw, cOf_at ws p hw, if_pos hu, W.la w hw hu]; rfl
theorem sum_set {l : List Nat} (hl : l.length = 4) {h : Nat} (hh : h < 4) : (l.set h (l.getD h 0 + 1)).sum = l.sum + 1 := by
  match l, hl with
  | [a, b, c, d], _ =>
    cases h, hh using lt4 with
    | h0 => simp; (first | lia | omega)
    | h1 => simp; (first | lia | omega)
    | h2 => simp; (first | lia | omega)
    | h3 => simp; (first | lia | omega)
theorem blk_succ {dr : List Nat} {w k g : Nat} (hk : k ≤ 3) : blk dr (k + 1) g w = blk dr k g w ++ (if (dueAt dr w k).2 = g then [(dueAt dr w k).1] else []) := by
  unfold blk
  rw [take_snoc (dueOf dr w) (0, 4) (by rw [dueOf_len]; (first | lia | omega)), List.filter_append, List.map_append]
  congr 1
  show (([dueAt dr w k] : List (Nat × Nat)).filter _).map _ = _
  by_cases e : (dueAt dr w k).2 = g
  · rw [if_pos e]; simp [e]
  · rw [if_neg e]; simp [e]
theorem WInv.step (W : WInv dr thr K0 ws p s h) (hdr : DrOk dr) (h3 : Le3 thr) (hK : K0 ≤ 1000) (hh : h ∉ ws.tree) (hsum : ws.reads.sum ≤ 100) :
    StepOk (textsOf dr) ws h ∧ (Mine.step (textsOf dr) ws h).1.tree = ws.tree ∧ (Mine.step (textsOf dr) ws h).1.reads.sum = ws.reads.sum + 1 ∧ ∃ p', WInv dr thr K0 (Mine.step (textsOf dr) ws h).1 p' s (Mine.step (textsOf dr) ws h).2 := by
  obtain ⟨hlt, hr3, hc⟩ := W.unread h3 hh
  have hget : (textsOf dr).getD h [] = textOf dr h := by simp [textsOf, List.getD, hlt]
  obtain ⟨R, hlex, hend⟩ := lex_read hdr hlt hr3
  have hlex' : lexT (((textsOf dr).getD h []).drop (ws.pos.getD h 0)) = (tokR dr h (ws.reads.getD h 0), R) := by rw [hget, W.pos h hlt]; exact hlex
  obtain ⟨v1, v2, v3⟩ := val_read hdr hlt hr3
  obtain ⟨k1, k2, k3⟩ := W.kn.read (tokR dr h (ws.reads.getD h 0))
  rw [v1] at k1
  obtain ⟨d1, d2⟩ := due_le dr h (ws.reads.getD h 0)
  have hstep : Mine.step (textsOf dr) ws h = ((⟨ws.pos.set h (posR dr h (ws.reads.getD h 0 + 1)), ws.reads.set h (ws.reads.getD h 0 + 1), ws.last.set h (dueAt dr h (ws.reads.getD h 0)).2, ws.tree, putB ws.bk (dueAt dr h (ws.reads.getD h 0)).2 (addR ((getB ws.bk (dueAt dr h (ws.reads.getD h 0)).2).getD zeroR) h ((dueAt dr h (ws.reads.getD h 0)).1 : Int)), addK ws.kn (tokR dr h (ws.reads.getD h 0))⟩ : WS), (dueAt dr h (ws.reads.getD h 0)).2) := by
    unfold Mine.step
    simp only [hlex', k1]
    rw [hget, hend]
  have hbl := blk_succ (dr := dr) (w := h) (g := (dueAt dr h (ws.reads.getD h 0)).2) hr3
  have hbl0 : ∀ g, g ≠ (dueAt dr h (ws.reads.getD h 0)).2 → blk dr (ws.reads.getD h 0 + 1) g h = blk dr (ws.reads.getD h 0) g h := fun g hg => by
    rw [blk_succ hr3, if_neg (Ne.symm hg)]; simp
  rw [if_pos rfl] at hbl
  have hok : StepOk (textsOf dr) ws h := by
    refine ⟨hlt, ?_, ?_, ?_, ?_, ?_⟩
    · rw [hlex']; exact v2
    · rw [hlex']; exact v3
    · rw [hlex']; show ((getK ws.kn _).getD (nearF _)).2 ≤ 4; rw [k1]; exact d1
    · rw [hlex']; show 0 ≤ ((getK ws.kn _).getD (nearF _)).1 ∧ ((getK ws.kn _).getD (nearF _)).1 ≤ 1000; rw [k1]; constructor <;> simp only [] <;> (first | lia | omega)
    · have := W.kl; (first | lia | omega)
  refine ⟨hok, by rw [hstep], by rw [hstep]; exact sum_set W.l2 hlt, ?_⟩
  rw [hstep]
  generalize hr : ws.reads.getD h 0 = r at *
  generalize hdu : dueAt dr h r = du at *
  obtain ⟨kd, gl⟩ := du
  simp only at *
  have rset : ∀ w, w ≠ h → (ws.reads.set h (r + 1)).getD w 0 = ws.reads.getD w 0 := fun w hw => getD_set_ne _ _ hw
  have rseth : (ws.reads.set h (r + 1)).getD h 0 = r + 1 := getD_set_eq _ _ (by rw [W.l2]; exact hlt)
  have lset : ∀ w, w ≠ h → (ws.last.set h gl).getD w 0 = ws.last.getD w 0 := fun w hw => getD_set_ne _ _ hw
  have lseth : (ws.last.set h gl).getD h 0 = gl := getD_set_eq _ _ (by rw [W.l3]; exact hlt)
  have bk' : BInv (putB ws.bk gl (addR ((getB ws.bk gl).getD zeroR) h (kd : Int))) fun g w => blk dr ((ws.reads.set h (r + 1)).getD w 0) g w := by
    refine W.bk.add d1 hlt (fun g v hgv => ?_) ?_
    · by_cases e : v = h
      · have hg : g ≠ gl := fun q => hgv ⟨q, e⟩
        show blk dr _ g v = blk dr _ g v
        rw [e, rseth, hr]; exact hbl0 g hg
      · show blk dr _ g v = blk dr _ g v
        rw [rset v e]
    · show blk dr _ gl h = blk dr _ gl h ++ _
      rw [rseth, hr]; exact hbl
  have pos' : ∀ w, w < 4 → (ws.pos.set h (posR dr h (r + 1))).getD w 0 = posR dr w ((ws.reads.set h (r + 1)).getD w 0) := fun w hw => by
    by_cases e : w = h
    · rw [e, rseth, getD_set_eq _ _ (by rw [W.l1]; exact hlt)]
    · rw [rset w e, getD_set_ne _ _ e]; exact W.pos w hw
  have kl' : (addK ws.kn (tokR dr h r)).length ≤ K0 + (ws.reads.set h (r + 1)).sum := by
    have := sum_set W.l2 hlt
    rw [hr] at this
    have := W.kl; (first | lia | omega)
  have rt' : ∀ x ∈ ws.tree, RT (ws.last.set h gl) ws.tree x := fun x hx => (W.rt x hx).mono (fun _ h => h) fun y _ hy => lset y fun e => hh (e ▸ hy)
  have pn' : (p ++ [h]).Nodup := List.nodup_append.mpr ⟨W.pn, by simp, fun a ha b hb => by rw [List.mem_singleton.mp hb]; exact fun e => W.hp (e ▸ ha)⟩
  have pl' : ∀ x ∈ p ++ [h], x < 4 ∧ x ∉ ws.tree := fun x hx => by
    rcases List.mem_append.mp hx with q | q
    · exact W.pl x q
    · rw [List.mem_singleton.mp q]; exact ⟨hlt, hh⟩
  have ch0 : Chain (ws.last.set h gl) s p h := W.ch.congr fun x hx => lset x fun e => W.hp (e ▸ hx)
  have ch' : Chain (ws.last.set h gl) s (p ++ [h]) gl := by have := ch0.snoc; rw [lseth] at this; exact this
  have rd' : ∀ w, w < 4 → (w ∈ ws.tree ∨ w ∈ p ++ [h]) → 1 ≤ (ws.reads.set h (r + 1)).getD w 0 := fun w hw hu => by
    by_cases e : w = h
    · rw [e, rseth]; (first | lia | omega)
    · rw [rset w e]
      exact W.rd w hw (hu.imp id fun q => (List.mem_append.mp q).resolve_right fun q => e (List.mem_singleton.mp q))
  have la' : ∀ w, w < 4 → (w ∈ ws.tree ∨ w ∈ p ++ [h]) → (ws.last.set h gl).getD w 0 = (dueAt dr w ((ws.reads.set h (r + 1)).getD w 0 - 1)).2 := fun w hw hu => by
    by_cases e : w = h
    · rw [e, rseth, lseth, Nat.add_sub_cancel, hdu]
    · rw [rset w e, lset w e]
      exact W.la w hw (hu.imp id fun q => (List.mem_append.mp q).resolve_right fun q => e (List.mem_singleton.mp q))
  have hcs : ∀ (ws' : WS), ws'.reads = ws.reads.set h (r + 1) → ws'.tree = ws.tree → cOf ws' (p ++ [h]) = cOf ws p := by
    intro ws' e1 e2
    refine list4 (cOf_len ..) (cOf_len ..) fun w hw => ?_
    rw [cOf_at _ _ hw, cOf_at _ _ hw, e1, e2]
    by_cases e : w = h
    · rw [e, rseth, if_pos (.inr (by simp)), if_neg (fun q => q.elim hh W.hp), hr]; (first | lia | omega)
    · rw [rset w e]
      by_cases hu : w ∈ ws.tree ∨ w ∈ p
      · rw [if_pos hu, if_pos (hu.imp id fun q => List.mem_append_left _ q)]
      · rw [if_neg hu, if_neg (fun q => hu (q.imp id fun q => (List.mem_append.mp q).resolve_right fun q => e (List.mem_singleton.mp q)))]
  by_cases hg : gl ∈ p ++ [h]
  · -- a ring closes
    obtain ⟨q1, q2, hq⟩ := List.append_of_mem hg
    rw [hq] at pn' pl' ch' rd' la' hcs
    have hn1 : q1.Nodup := (List.nodup_append.mp pn').1
    have hn2 : (gl :: q2).Nodup := (List.nodup_append.mp pn').2.1
    have hdis : ∀ x ∈ q1, x ∉ gl :: q2 := fun x hx hy => (List.nodup_append.mp pn').2.2 x hx x hy rfl
    obtain ⟨m, c1, c2⟩ := ch'.split
    have hm : m = gl := c2.1
    subst m
    have hl2 : ∀ x ∈ gl :: q2, x < 4 := fun x hx => (pl' x (List.mem_append_right _ hx)).1
    refine ⟨q1, ⟨by simp [W.l1], by simp [W.l2], by simp [W.l3], pos', k2, kl', bk', W.root, W.tl, hn1, fun x hx => pl' x (List.mem_append_left _ hx), fun q => hdis gl q (.head _), d1, c1, fun w hw hu => rd' w hw (hu.imp id fun q => List.mem_append_left _ q), fun w hw hu => la' w hw (hu.imp id fun q => List.mem_append_left _ q), ?_, rt'⟩⟩
    obtain ⟨n, hn⟩ := W.nrm
    have htop : ∀ x ∈ gl :: q2, fT (topsOf dr (cOf ws p)) x = (ws.last.set h gl).getD x 0 := fun x hx => by
      have hx4 := hl2 x hx
      have hxm : x ∈ p ++ [h] := by rw [hq]; exact List.mem_append_right _ hx
      by_cases e : x = h
      · rw [e]
        show (topsOf dr (cOf ws p)).getD h 0 = _
        rw [topsOf_at dr _ hlt, hc, lseth]
        have : (dueOf dr h).getD r (0, 4) = dueAt dr h r := rfl
        rw [this, hdu]
      · rw [lset x e]
        exact top_at W hx4 (.inr ((List.mem_append.mp hxm).resolve_right fun q => e (List.mem_singleton.mp q)))
    have c3 : Chain (topsOf dr (cOf ws p)) gl (gl :: q2) gl := c2.congr htop
    obtain ⟨r1, r2⟩ := ring_chain hn2 hl2 c3
    have hpop : RPop dr (cOf ws p) (popL (topsOf dr (cOf ws p)) gl (cOf ws p)) := ⟨gl, hl2 gl (.head _), r1, rfl⟩
    obtain ⟨n', rfl, hn'⟩ := hn.pop hpop
    have e5 := hcs (⟨ws.pos.set h (posR dr h (r + 1)), ws.reads.set h (r + 1), ws.last.set h gl, ws.tree, putB ws.bk gl (addR ((getB ws.bk gl).getD zeroR) h (kd : Int)), addK ws.kn (tokR dr h r)⟩ : WS) rfl rfl
    refine ⟨n', ?_⟩
    have e : cOf { pos := ws.pos.set h (posR dr h (r + 1)), reads := ws.reads.set h (r + 1), last := ws.last.set h gl, tree := ws.tree, bk := putB ws.bk gl (addR ((getB ws.bk gl).getD zeroR) h (kd : Int)), kn := addK ws.kn (tokR dr h r) } q1 = popL (topsOf dr (cOf ws p)) gl (cOf ws p) := by
      refine list4 (cOf_len ..) (by simp [popL]) fun w hw => ?_
      rw [popL_at _ _ _ hw, show (cOf ws p).getD w 0 = (cOf (⟨ws.pos.set h (posR dr h (r + 1)), ws.reads.set h (r + 1), ws.last.set h gl, ws.tree, putB ws.bk gl (addR ((getB ws.bk gl).getD zeroR) h (kd : Int)), addK ws.kn (tokR dr h r)⟩ : WS) (q1 ++ gl :: q2)).getD w 0 from by rw [e5], cOf_at _ _ hw, cOf_at _ _ hw]
      by_cases hi : w ∈ gl :: q2
      · have hA : ¬ (w ∈ ws.tree ∨ w ∈ q1) := fun q => q.elim (pl' w (List.mem_append_right _ hi)).2 fun q => hdis w q hi
        have hB : w ∈ ws.tree ∨ w ∈ q1 ++ gl :: q2 := .inr (List.mem_append_right _ hi)
        rw [if_pos ((r2 w).mpr hi), if_neg hA, if_pos hB]
        have := rd' w hw (.inr (List.mem_append_right _ hi))
        show (ws.reads.set h (r + 1)).getD w 0 - 0 = (ws.reads.set h (r + 1)).getD w 0 - 1 + 1
        (first | lia | omega)
      · rw [if_neg (fun q => hi ((r2 w).mp q))]
        by_cases hu : w ∈ ws.tree ∨ w ∈ q1
        · rw [if_pos hu, if_pos (hu.imp id fun q => List.mem_append_left _ q)]; rfl
        · rw [if_neg hu, if_neg (fun q => hu (q.imp id fun q => (List.mem_append.mp q).resolve_right hi))]; rfl
    rw [e]; exact hn'
  · -- the path goes on
    refine ⟨p ++ [h], ⟨by simp [W.l1], by simp [W.l2], by simp [W.l3], pos', k2, kl', bk', W.root, W.tl, pn', pl', hg, d1, ch', rd', la', ?_, rt'⟩⟩
    have e := hcs (⟨ws.pos.set h (posR dr h (r + 1)), ws.reads.set h (r + 1), ws.last.set h gl, ws.tree, putB ws.bk gl (addR ((getB ws.bk gl).getD zeroR) h (kd : Int)), addK ws.kn (tokR dr h r)⟩ : WS) rfl rfl
    obtain ⟨n, hn⟩ := W.nrm
    exact ⟨n, by rw [e]; exact hn⟩
end
end
section
section
variable {dr thr : List Nat} {K0 : Nat} {ws : WS} {p : List Nat} {s h : Nat}
theorem WInv.sum_le (W : WInv dr thr K0 ws p s h) (h3 : Le3 thr) : ws.reads.sum ≤ 16 := by
  obtain ⟨n, hn⟩ := W.nrm
  have key : ∀ w, w < 4 → ws.reads.getD w 0 ≤ 4 := fun w hw => by
    have h1 := hn.le hw
    rw [cOf_at ws p hw] at h1
    have h2 := h3.2 w hw
    split at h1 <;> (first | lia | omega)
  rw [sum4 _ W.l2]
  have := key 0 (by decide); have := key 1 (by decide); have := key 2 (by decide); have := key 3 (by decide)
  (first | lia | omega)
theorem walk_ex (hdr : DrOk dr) (h3 : Le3 thr) (hK : K0 ≤ 1000) (k : Nat) {ws : WS} {p : List Nat} {h : Nat} (hk : 17 ≤ ws.reads.sum + k) (W : WInv dr thr K0 ws p s h) :
    ∃ n ws' p' h', WalkTo (textsOf dr) n ws h ws' ∧ WInv dr thr K0 ws' p' s h' ∧ h' ∈ ws'.tree ∧ ws'.tree = ws.tree := by
  induction k generalizing ws p h with
  | zero => have := W.sum_le h3; (first | lia | omega)
  | succ k ih =>
    by_cases hh : h ∈ ws.tree
    · exact ⟨0, ws, p, h, .done hh, W, hh, rfl⟩
    · obtain ⟨ok, e1, e2, p', W'⟩ := W.step hdr h3 hK hh (by have := W.sum_le h3; (first | lia | omega))
      obtain ⟨n, ws', p'', h', w1, w2, w3, w4⟩ := ih (by rw [e2]; (first | lia | omega)) W'
      exact ⟨n + 1, ws', p'', h', .step hh ok w1, w2, w3, w4.trans e1⟩
theorem tree_ex {last : List Nat} (p : List Nat) {t : List Nat} {s h : Nat} (c : Chain last s p h) (hh : h ∈ t) (hn : p.Nodup) (hp : ∀ x ∈ p, x < 4 ∧ x ∉ t) (hl : t.length + p.length ≤ 100) : ∃ m, TreeTo last m t s (t ++ p) := by
  induction p generalizing t s with
  | nil => exact ⟨0, by rw [List.append_nil]; exact .done (by rw [show s = h from c]; exact hh)⟩
  | cons x p ih =>
    obtain ⟨e, c⟩ := c
    subst e
    rw [List.nodup_cons] at hn
    obtain ⟨h1, h2⟩ := hp s (.head _)
    simp only [List.length_cons] at hl
    obtain ⟨m, hm⟩ := ih (t := t ++ [s]) c (List.mem_append_left _ hh) hn.2 (fun y hy => ⟨(hp y (.tail _ hy)).1, fun q => by
      rcases List.mem_append.mp q with q | q
      · exact (hp y (.tail _ hy)).2 q
      · rw [List.mem_singleton.mp q] at hy; exact hn.1 hy⟩) (by simp; (first | lia | omega))
    refine ⟨m + 1, .step h2 h1 (by (first | lia | omega)) ?_⟩
    rw [show t ++ s :: p = t ++ [s] ++ p by simp]; exact hm
theorem WInv.start (W : WInv dr thr K0 ws [] s h) {s' : Nat} (hs : s' ≤ 4) : WInv dr thr K0 ws [] s' s' :=
  ⟨W.l1, W.l2, W.l3, W.pos, W.kn, W.kl, W.bk, W.root, W.tl, W.pn, W.pl, fun q => (by cases q), hs, rfl, W.rd, W.la, W.nrm, W.rt⟩
theorem WInv.grow (W : WInv dr thr K0 ws p s h) (hh : h ∈ ws.tree) {s' : Nat} (hs : s' ≤ 4) : WInv dr thr K0 { ws with tree := ws.tree ++ p } [] s' s' := by
  have use : ∀ w, (w ∈ ws.tree ++ p ∨ w ∈ ([] : List Nat)) → (w ∈ ws.tree ∨ w ∈ p) := fun w q => q.elim List.mem_append.mp fun q => (by cases q)
  have e : cOf { ws with tree := ws.tree ++ p } [] = cOf ws p := by
    refine list4 (cOf_len ..) (cOf_len ..) fun w hw => ?_
    rw [cOf_at _ _ hw, cOf_at _ _ hw]
    by_cases hu : w ∈ ws.tree ∨ w ∈ p
    · rw [if_pos hu, if_pos (.inl (List.mem_append.mpr hu))]
    · rw [if_neg hu, if_neg (fun q => hu (use w q))]
  have r0 : ∀ x ∈ ws.tree, RT ws.last (ws.tree ++ p) x := fun x hx => (W.rt x hx).mono (fun y hy => List.mem_append_left _ hy) fun _ _ _ => rfl
  have r1 := (RT.chain W.ch (r0 h hh) fun x hx => ⟨(W.pl x hx).1, List.mem_append_right _ hx⟩).2
  refine ⟨W.l1, W.l2, W.l3, W.pos, W.kn, W.kl, W.bk, List.mem_append_left _ W.root, fun x hx => ?_, .nil, fun x hx => (by cases hx), fun q => (by cases q), hs, rfl, fun w hw q => W.rd w hw (use w q), fun w hw q => W.la w hw (use w q), ?_, fun x hx => (List.mem_append.mp hx).elim (r0 x) (r1 x)⟩
  · rcases List.mem_append.mp hx with q | q
    · exact W.tl x q
    · exact Nat.le_of_lt (W.pl x q).1
  · obtain ⟨n, hn⟩ := W.nrm
    exact ⟨n, by rw [e]; exact hn⟩
theorem chain_in {last p t : List Nat} {s h : Nat} (c : Chain last s p h) (hh : h ∈ t) : s ∈ t ++ p := by
  cases p with
  | nil => exact List.mem_append_left _ (by rw [show s = h from c]; exact hh)
  | cons y p => exact List.mem_append_right _ (by rw [c.1]; exact .head _)
theorem all_ex (hdr : DrOk dr) (h3 : Le3 thr) (hK : K0 ≤ 1000) (ss : List Nat) {ws : WS} {s0 : Nat} (hlt : ∀ x ∈ ss, x < 4) (W : WInv dr thr K0 ws [] s0 s0) (hn : ws.tree.Nodup) :
    ∃ ws' s1, AllTo (textsOf dr) ss ws ws' ∧ WInv dr thr K0 ws' [] s1 s1 ∧ (∀ x ∈ ws.tree, x ∈ ws'.tree) ∧ ∀ x ∈ ss, x ∈ ws'.tree := by
  induction ss generalizing ws s0 with
  | nil => exact ⟨ws, s0, .nil, W, fun _ h => h, fun x hx => nomatch hx⟩
  | cons s ss ih =>
    have hs := hlt s (.head _)
    refine via_p fun P kP => ?_
    obtain ⟨n, ws1, p, h, w1, w2, w3, w4⟩ := walk_ex hdr h3 hK 17 (Nat.le_add_left ..) (W.start (Nat.le_of_lt hs))
    refine kP ?_
    clear kP P
    have hn1 : ws1.tree.Nodup := by rw [w4]; exact hn
    have hl1 : ws1.tree.length ≤ 5 := len_le_of_sub (l' := [0, 1, 2, 3, 4]) hn1 fun x hx => by
      have := w2.tl x hx
      simp; (first | lia | omega)
    have hl2 : p.length ≤ 4 := nodup_len 4 _ w2.pn fun x hx => (w2.pl x hx).1
    obtain ⟨m, hm⟩ := tree_ex p w2.ch w3 w2.pn w2.pl (by (first | lia | omega))
    have hn2 : (ws1.tree ++ p).Nodup := List.nodup_append.mpr ⟨hn1, w2.pn, fun a ha b hb e => (w2.pl b hb).2 (e ▸ ha)⟩
    refine via_p fun P kP => ?_
    obtain ⟨ws', s1, a1, a2, a3, a4⟩ := ih (ws := { ws1 with tree := ws1.tree ++ p }) (fun x hx => hlt x (.tail _ hx)) (w2.grow w3 (Nat.le_of_lt hs)) hn2
    refine kP ?_
    clear kP P
    refine ⟨ws', s1, .cons hs w1 hm a1, a2, fun x hx => a3 x (List.mem_append_left _ (by rw [w4]; exact hx)), fun x hx => ?_⟩
    rcases List.mem_cons.mp hx with rfl | hx
    · exact a3 x (chain_in w2.ch w3)
    · exact a4 x hx
theorem RowIs.congr {r : Row} {f f' : Nat → List Nat} (R : RowIs r f) (h : ∀ w, w < 4 → f' w = f w) : RowIs r f' := by
  have e : ∀ k, stat f' k = stat f k := fun k => by
    unfold stat; rw [h 0 (by decide), h 1 (by decide), h 2 (by decide), h 3 (by decide)]
  exact ⟨by rw [e]; exact R.a, by rw [e]; exact R.b, by rw [e]; exact R.c, by rw [e]; exact R.d, fun w hw => by rw [h w hw]; exact R.calls w hw⟩
theorem BInv.congr {bk : List (Nat × Row)} {F F' : Nat → Nat → List Nat} (B : BInv bk F) (h : ∀ g w, w < 4 → F' g w = F g w) : BInv bk F' :=
  ⟨B.ok, fun g hg e w hw => by rw [h g w hw]; exact B.non g hg e w hw, fun g r hg e => by
    obtain ⟨⟨w, hw, q⟩, R⟩ := B.row g r hg e
    exact ⟨⟨w, hw, by rw [h g w hw]; exact q⟩, R.congr (h g)⟩⟩
theorem map1_getD {l : List Nat} (h : l.length = 4) {w : Nat} (hw : w < 4) : l.getD w 0 + 1 = (l.map (· + 1)).getD w 0 := by
  have hl : w < l.length := h ▸ hw
  simp [List.getD, hl]
theorem WInv.good (W : WInv dr thr K0 ws [] s h) (hall : ∀ w, w < 4 → w ∈ ws.tree) (h3 : Le3 thr) : GoodW dr thr ws := by
  have T := tops_of dr (cOf ws [])
  have no : ∀ z, z < 4 → onRing (topsOf dr (cOf ws [])) z = false := fun z hz => by
    cases ho : onRing (topsOf dr (cOf ws [])) z with
    | false => rfl
    | true =>
      exfalso
      have key : ∀ x, RT ws.last ws.tree x → inO (topsOf dr (cOf ws [])) z x = true → False := by
        intro x hx
        induction hx with
        | root => intro hi; have := (T.orb hz ho hi).1; (first | lia | omega)
        | step a b _ ih =>
          intro hi
          obtain ⟨_, _, o3, o4⟩ := T.orb hz ho hi
          refine ih ?_
          rw [← top_at W a (.inl b), ← o4 _ o3]
          simp [inO]
      exact key z (W.rt z (hall z hz)) (inO_self ..)
  obtain ⟨n, hn⟩ := W.nrm
  have hc := hn.same no
  have hrd : ∀ w, w < 4 → ws.reads.getD w 0 = thr.getD w 0 + 1 := fun w hw => by
    have h1 := cOf_at ws [] hw
    rw [if_pos (.inl (hall w hw)), hc] at h1
    have := W.rd w hw (.inl (hall w hw))
    (first | lia | omega)
  refine ⟨list4 W.l2 (by simp [h3.1]) fun w hw => ?_, list4 W.l3 (topsOf_len ..) fun w hw => ?_, list4 W.l1 (by simp) fun w hw => ?_, W.bk.ok, BInv.fin (W.bk.congr fun g w hw => ?_)⟩
  · rw [hrd w hw]
    exact map1_getD h3.1 hw
  · rw [← top_at W hw (.inl (hall w hw)), hc]; rfl
  · rw [W.pos w hw, hrd w hw]
    simp [posR, List.getD, hw]
  · show blk dr _ g w = blk dr _ g w
    rw [hrd w hw]
theorem WInv.init (hdr : DrOk dr) {n : Nat} (hn : Nrm dr n [0, 0, 0, 0] thr) {kn : Kn} (hk : KnOk kn) (hs : s ≤ 4) : WInv dr thr kn.length (ws0 kn) [] s s := by
  have z : ∀ w, ([0, 0, 0, 0] : List Nat).getD w 0 = 0 := fun w => by
    match w with
    | 0 => rfl
    | 1 => rfl
    | 2 => rfl
    | 3 => rfl
    | w + 4 => rfl
  have no : ∀ w, w < 4 → ¬ (w ∈ [4] ∨ w ∈ ([] : List Nat)) := fun w hw q => by simp at q; (first | lia | omega)
  have e : cOf (ws0 kn) [] = [0, 0, 0, 0] := by
    refine list4 (cOf_len ..) rfl fun w hw => ?_
    rw [cOf_at _ _ hw, show (ws0 kn).tree = [4] from rfl, if_neg (no w hw)]; rfl
  refine ⟨rfl, rfl, rfl, fun w hw => ?_, hk, Nat.le_refl _, ⟨⟨?_, ?_, ?_, ?_⟩, fun g hg _ w hw => ?_, fun g r hg q => (by cases q)⟩, .head _, fun x hx => ?_, .nil, fun x hx => (by cases hx), fun q => (by cases q), hs, rfl, fun w hw q => absurd q (no w hw), fun w hw q => absurd q (no w hw), ⟨n, by rw [e]; exact hn⟩, fun x hx => ?_⟩
  · show ([0, 0, 0, 0] : List Nat).getD w 0 = posR dr w (([0, 0, 0, 0] : List Nat).getD w 0)
    rw [z w]; rfl
  · exact .nil
  · exact fun q hq => nomatch hq
  · exact fun q hq => nomatch hq
  · exact fun q hq => nomatch hq
  · show blk dr (([0, 0, 0, 0] : List Nat).getD w 0) g w = []
    rw [z w]; rfl
  · rw [List.mem_singleton.mp hx]; exact Nat.le_refl _
  · rw [List.mem_singleton.mp hx]; exact .root
theorem starts_all (dr : List Nat) : (∀ x ∈ startsOf dr, x < 4) ∧ ∀ w, w < 4 → w ∈ startsOf dr := by
  constructor
  · intro x hx
    obtain ⟨p, _, rfl⟩ := List.mem_map.mp hx
    exact Nat.mod_lt _ (by decide)
  · intro w hw
    refine List.mem_map.mpr ⟨(w + 4 - dr.sum / 2 % 4) % 4, List.mem_range.mpr (Nat.mod_lt _ (by decide)), ?_⟩
    (first | lia | omega)
theorem knOk0 : KnOk kn0 := by
  refine ⟨rfl, fun t v h => ?_⟩
  cases t with
  | nil => cases h; rfl
  | cons a t => cases h
theorem plainLaw2 : PlainLaw2 := by
  intro dr hdr
  have z3 : Le3 [0, 0, 0, 0] := ⟨rfl, by decide⟩
  refine via_p fun P kP => ?_
  obtain ⟨n, thr, hn, h3⟩ := Nrm.exists dr 12 [0, 0, 0, 0] z3 (by decide)
  refine kP ?_
  clear kP P
  obtain ⟨k, hp⟩ := PopTo.of_nrm n hn z3
  obtain ⟨s1, s2⟩ := starts_all dr
  refine via_p fun P kP => ?_
  obtain ⟨ws1, t1, a1, W1, _, b1⟩ := all_ex hdr h3 (by decide) (startsOf dr) s1 (WInv.init (s := 0) hdr hn knOk0 (by decide)) (by simp [ws0])
  refine kP ?_
  clear kP P
  have hk : ws1.kn.length ≤ 1000 := by
    have h1 := W1.kl
    have h2 := W1.sum_le h3
    have h3 : kn0.length = 1 := rfl
    (first | lia | omega)
  refine via_p fun P kP => ?_
  obtain ⟨ws2, t2, a2, W2, _, b2⟩ := all_ex hdr h3 hk (startsOf dr).reverse (fun x hx => s1 x (List.mem_reverse.mp hx)) (WInv.init (s := 0) hdr hn W1.kn (by decide)) (by simp [ws0])
  refine kP ?_
  clear kP P
  exact ⟨k, thr, ws1, ws2, hp, a1, W1.good (fun w hw => b1 w (s2 w hw)) h3, a2, W2.good (fun w hw => b2 w (List.mem_reverse.mpr (s2 w hw))) h3⟩
end
end
end Mine
set_option maxRecDepth 100000 in
set_option maxHeartbeats 0 in
theorem PySem.Challenge.cw_pe0146_02_holds : PySem.Challenge.rw_pe0146_02.Holds := by
  refine holds_law (by decide +kernel) fun said => ?_
  refine holds_open (q := Mine.vw) (loose := []) (d := Mine.d2) (kwd := []) (Xt := fun s => xlAt Mine.vw [] s && recOk (RowW.records (OpenRow.toRowW PySem.Challenge.rw_pe0146_02.row)) s) (XP := XL Mine.vw []) (Yf := Hook.obs Mine.HK) (Ya := Hook.val Mine.HK) (YP := Hook.says Mine.HK) (N := 2002)
    Mine.leftK (Hook.of Mine.HK) (Hook.keeps Mine.HK) (fun s e => xl_of s (Bool.and_eq_true_iff.mp e).1) XL.keeps (by kernel_rfl) (by kernel_rfl) (by kernel_rfl) (fun s e => recFacts_of (Bool.and_eq_true_iff.mp e).2) (by kernel_rfl) said (by decide +kernel) ⟨rfl, rfl, rfl, rfl, rfl, by decide +kernel⟩ ?hw ?hc
  case hw => w_witness2
  intro w s₀ s₁ mg mb G Y fa o pm cd doc dV kV ho hd hcd hD hmg hg args vals as hpre hlay hrd hwl hlo
  have KX := kIn_of Y
  have hT := G.T
  wrow_args hpre hlay hrd hwl hlo
  rename_i ns hs1 a1 a2 a3 a4 as1 as2 sc vs as3 hL ra ww rr hI hr2 hc1 hc2
  obtain ⟨ol, hol, hcl, nl, hdl⟩ := hL
  have fi : ∀ {K : Frag} {f c : Addr} {qual : Str} {st : Stmt}, K.lookup f = some (Mine.oOf K f) → (Mine.oOf K f).data = .func (Mine.fdOf K f) →
    ((Mine.fdOf K f).qualname, (Mine.fdOf K f).params, (Mine.fdOf K f).body, (Mine.fdOf K f).scope, (Mine.fdOf K f).globals, (Mine.fdOf K f).closure, (Mine.fdOf K f).code, (Mine.fdOf K f).builtins, (Mine.fdOf K f).defaults, (Mine.fdOf K f).kwdefaults) = (qual, Mine.dfArgs st, .stmts (Mine.dfBody st), Mine.dfScope st, mainGlobals, [], .ref c, builtinsNs, .none, .none) →
    codeIn K (.ref c) qual = true → ∃ cd, Mine.FnAt K f qual (Mine.dfArgs st) (Mine.dfBody st) (Mine.dfScope st) cd := fun a b c d => ⟨_, Mine.fnAt_of a b c d⟩
  obtain ⟨T, hlaw⟩ : ∃ T : Mine.Tq (Mine.cx2 (Mine.fragOf2 KX) w s₁.heap.objs.size sc ol), T.law = 143 := ⟨{
    sub := 112, lev := 119, afs := 98, acs := 105
    Fsub := fi (c := 111) (by kernel_rfl!) (by kernel_rfl!) (by kernel_rfl!) (by kernel_rfl!)
    Flev := fi (c := 118) (by kernel_rfl!) (by kernel_rfl!) (by kernel_rfl!) (by kernel_rfl!)
    Fafs := fi (c := 97) (by kernel_rfl!) (by kernel_rfl!) (by kernel_rfl!) (by kernel_rfl!)
    Facs := fi (c := 104) (by kernel_rfl!) (by kernel_rfl!) (by kernel_rfl!) (by kernel_rfl!)
    g_sub := by unfold Mine.GlIs; kernel_rfl!
    g_lev := by unfold Mine.GlIs; kernel_rfl!
    g_afs := by unfold Mine.GlIs; kernel_rfl!
    g_acs := by unfold Mine.GlIs; kernel_rfl!
    g_case := ⟨333, by unfold Mine.GlIs; kernel_rfl!⟩
    g_move := ⟨331, by unfold Mine.GlIs; kernel_rfl!⟩
    g_max := ⟨329, by unfold Mine.GlIs; kernel_rfl!⟩
    b_len := ⟨by kernel_rfl!, by kernel_rfl!⟩
    b_range := ⟨by kernel_rfl!, by kernel_rfl!⟩
    b_list := ⟨by kernel_rfl!, by kernel_rfl!⟩
    b_min := ⟨by kernel_rfl!, by kernel_rfl!⟩
    b_tuple := ⟨by kernel_rfl!, by kernel_rfl!⟩
    b_isi := ⟨by kernel_rfl!, by kernel_rfl!⟩
    b_zip := ⟨by kernel_rfl!, by kernel_rfl!⟩
    b_enum := ⟨by kernel_rfl!, by kernel_rfl!⟩
    b_iter := ⟨by kernel_rfl!, by kernel_rfl!⟩
    b_sum := ⟨by kernel_rfl!, by kernel_rfl!⟩
    nm := .str "law_pe0146_02" 363
    mkO := Mine.mkOk_of (bm := 4) (by kernel_rfl!) (by decide) (by kernel_rfl!) (by kernel_rfl!) (by kernel_rfl!) (by kernel_rfl!) (by kernel_rfl!) (by kernel_rfl!)
    Pacs := 100
    Cacs := ⟨104, Mine.fnAt_of (by kernel_rfl!) (by kernel_rfl!) (by kernel_rfl!) (by kernel_rfl!), Mine.codeAt_of (file := "/claim/cut.py") (tf := 325) (flags := 3) (tg := 0) (inF := true) (text := 181) (tt := 0) (by kernel_rfl!) (by kernel_rfl!) (by kernel_rfl!) (by kernel_rfl!) (by kernel_rfl!) (by kernel_rfl!) (by kernel_rfl!) (by kernel_rfl!) (by kernel_rfl!), .head _⟩
    tq_acs := by kernel_rfl!
    lex := 59
    klex := Mine.klsAt_of (by kernel_rfl!) (by kernel_rfl!) (by kernel_rfl!) (by kernel_rfl!) (by kernel_rfl!) (by kernel_rfl!)
    fI := 35, fR := 42, fG := 49
    FI := fi (c := 34) (by kernel_rfl!) (by kernel_rfl!) (by kernel_rfl!) (by kernel_rfl!)
    FR := fi (c := 41) (by kernel_rfl!) (by kernel_rfl!) (by kernel_rfl!) (by kernel_rfl!)
    FG := fi (c := 48) (by kernel_rfl!) (by kernel_rfl!) (by kernel_rfl!) (by kernel_rfl!)
    tI := by kernel_rfl!
    tR := by kernel_rfl!
    tG := by kernel_rfl!
    lI := by kernel_rfl!
    lR := by kernel_rfl!
    lG := by kernel_rfl!
    oR := by kernel_rfl!
    oR' := fun o h => Mine.findObj_congr (h.trans (by kernel_rfl!))
    n1 := by kernel_rfl!
    n2 := by kernel_rfl!
    n3 := by kernel_rfl!
    n4 := by kernel_rfl!
    s1 := by kernel_rfl!
    s2 := by kernel_rfl!
    s3 := by kernel_rfl!
    s4 := by kernel_rfl!
    rdR := Mine.rdIs2
    rdr := 126
    Prdr := 121
    Crdr := ⟨125, Mine.fnAt_of (by kernel_rfl!) (by kernel_rfl!) (by kernel_rfl!) (by kernel_rfl!), Mine.codeAt_of (file := "/claim/cut.py") (tf := 374) (flags := 3) (tg := 0) (inF := true) (text := 181) (tt := 0) (by kernel_rfl!) (by kernel_rfl!) (by kernel_rfl!) (by kernel_rfl!) (by kernel_rfl!) (by kernel_rfl!) (by kernel_rfl!) (by kernel_rfl!) (by kernel_rfl!), .tail _ (.head _)⟩
    tq_rd := by kernel_rfl!
    tq_la := by kernel_rfl!
    g_lex := by unfold Mine.GlIs; kernel_rfl!
    keep_lex := by kernel_rfl!
    rd_in := fun fd h => ⟨h.params, h.body, h.scope, h.glob, h.bi, h.df, h.kw⟩
    tcp := 87
    ktcp := Mine.klsAt_of (by kernel_rfl!) (by kernel_rfl!) (by kernel_rfl!) (by kernel_rfl!) (by kernel_rfl!) (by kernel_rfl!)
    gI := 77, gC := 84
    GI := fi (c := 76) (by kernel_rfl!) (by kernel_rfl!) (by kernel_rfl!) (by kernel_rfl!)
    GC := fi (c := 83) (by kernel_rfl!) (by kernel_rfl!) (by kernel_rfl!) (by kernel_rfl!)
    uI := by kernel_rfl!
    uC := by kernel_rfl!
    mI := by kernel_rfl!
    mC := by kernel_rfl!
    m1 := by kernel_rfl!
    v1 := by kernel_rfl!
    g_tcp := by unfold Mine.GlIs; kernel_rfl!
    keep_tcp := by kernel_rfl!
    nea := 133
    Fnea := fi (c := 132) (by kernel_rfl!) (by kernel_rfl!) (by kernel_rfl!) (by kernel_rfl!)
    g_nea := by unfold Mine.GlIs; kernel_rfl!
    wlk := 138
    Fwlk := fi (c := 137) (by kernel_rfl!) (by kernel_rfl!) (by kernel_rfl!) (by kernel_rfl!)
    g_rdr := by unfold Mine.GlIs; kernel_rfl!
    g_wlk := by unfold Mine.GlIs; kernel_rfl!
    law := 143
    Flaw := fi (c := 142) (by kernel_rfl!) (by kernel_rfl!) (by kernel_rfl!) (by kernel_rfl!) }, rfl⟩

  have hfa : fa = 143 := by
    have := mg_of KX hT.g (n := "law") (v := .ref 143) (by kernel_rfl!)
    rw [show mg "law" = some (.ref fa) from hmg] at this
    cases this; rfl
  subst hfa
  have hout := Mine.join2 Mine.plainLaw2 T KX (of_decide_eq_true (by kernel_rfl!)) hol hcl hdl hI (by omega) hT.nolimit (by kernel_rfl!) (by kernel_rfl!) ⟨104, Mine.codeAt_of (file := "/claim/cut.py") (tf := 325) (flags := 3) (tg := 0) (inF := true) (text := 181) (tt := 0) (by kernel_rfl!) (by kernel_rfl!) (by kernel_rfl!) (by kernel_rfl!) (by kernel_rfl!) (by kernel_rfl!) (by kernel_rfl!) (by kernel_rfl!) (by kernel_rfl!)⟩ ⟨125, Mine.codeAt_of (file := "/claim/cut.py") (tf := 374) (flags := 3) (tg := 0) (inF := true) (text := 181) (tt := 0) (by kernel_rfl!) (by kernel_rfl!) (by kernel_rfl!) (by kernel_rfl!) (by kernel_rfl!) (by kernel_rfl!) (by kernel_rfl!) (by kernel_rfl!) (by kernel_rfl!)⟩
  rw [hlaw] at hout
  refine wpAny_mono hout ?_ fun _ _ h => h.elim
  rintro v s' ⟨rfl, hold, hos, hgn⟩
  exact ⟨.inl ⟨_, .bool true, [], rfl, fun _ => rfl, .bool true, by kernel_rfl!, fun _ => ⟨.nil, fun a h => nomatch h⟩⟩, hold, hos, hgn (by rw [hg]; exact .empty)⟩
