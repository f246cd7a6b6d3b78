import PyProof.Rows.All
import Wide.All
import OpenK.AllK
import Wide.FinOn
import Lean
import PySem.Challenge.RW_pe0146_01
open PySem PySem.W PyProof.Rows
set_option Elab.async false
set_option linter.all false
set_option linter.unusedVariables false
set_option linter.unusedSectionVars false
set_option maxRecDepth 100000
set_option compiler.extract_closed false
set_option genSizeOf false
set_option genSizeOfSpec false
namespace Mine
theorem lt9 {i n : Nat} (h : i < n) (h5 : n ≤ 5) : (i : Int) < 1000000000 := by lia
theorem ne1 {m c k : Nat} (h : k ≤ m) (h2 : c < k) : m ≠ c := fun e => Nat.lt_irrefl _ (Nat.lt_of_lt_of_le h2 (e ▸ h))
theorem ne2 {m c k : Nat} (h : m < k) (h2 : k ≤ c) : m ≠ c := fun e => Nat.lt_irrefl _ (Nat.lt_of_lt_of_le (e ▸ h) h2)
theorem ne3 {B c k : Nat} (h : c ≠ k) : B + c ≠ B + k := fun e => h (Nat.add_left_cancel e)
local macro_rules | `(tactic| walk_at "l") => `(tactic| first | (with_reducible first | assumption | exact Int.natCast_nonneg _ | ((first | apply lt9 | apply ne3 | apply Nat.succ_le_of_lt) <;> first | assumption | decide) | (apply ne1 <;> first | assumption | decide) | (apply ne2 <;> first | assumption | decide) | (apply Nat.le_trans <;> first | assumption | decide) | (apply Nat.lt_of_lt_of_le <;> first | assumption | decide) | exact Nat.le_of_lt (by assumption)) | lia)
section
theorem via_p {G : Prop} (k : ∀ P : Prop, (G → P) → P) : G := k G id
theorem len_s {α : Type} {l : List α} {n : Nat} (h : l.length = n + 1) : ∃ x r, l = x :: r ∧ r.length = n := by
  cases l with
  | nil => exact nomatch h
  | cons x r => exact ⟨x, r, rfl, Nat.succ.inj h⟩
theorem len2 {α : Type} {l : List α} (h : l.length = 2) : ∃ v w, l = [v, w] := by
  obtain ⟨v, r, rfl, h'⟩ := len_s h
  obtain ⟨w, rfl⟩ := List.length_eq_one_iff.mp h'
  exact ⟨v, w, rfl⟩
theorem len3 {α : Type} {l : List α} (h : l.length = 3) : ∃ v w x, l = [v, w, x] := by
  obtain ⟨v, r, rfl, h'⟩ := len_s h
  obtain ⟨w, x, rfl⟩ := len2 h'
  exact ⟨v, w, x, rfl⟩
inductive A3 (a b c : Prop) : Prop | mk : a → b → c → A3 a b c
inductive A4 (a b c d : Prop) : Prop | mk : a → b → c → d → A4 a b c d
inductive A5 (a b c d e : Prop) : Prop | mk : a → b → c → d → e → A5 a b c d e
inductive A6 (a b c d e f : Prop) : Prop | mk : a → b → c → d → e → f → A6 a b c d e f
inductive A7 (a b c d e f g : Prop) : Prop | mk : a → b → c → d → e → f → g → A7 a b c d e f g
inductive A8 (a b c d e f g h : Prop) : Prop | mk : a → b → c → d → e → f → g → h → A8 a b c d e f g h
inductive A9 (a b c d e f g h i : Prop) : Prop | mk : a → b → c → d → e → f → g → h → i → A9 a b c d e f g h i
inductive A10 (a b c d e f g h i j : Prop) : Prop | mk : a → b → c → d → e → f → g → h → i → j → A10 a b c d e f g h i j
inductive A11 (a b c d e f g h i j k : Prop) : Prop | mk : a → b → c → d → e → f → g → h → i → j → k → A11 a b c d e f g h i j k
inductive A12 (a b c d e f g h i j k l : Prop) : Prop | mk : a → b → c → d → e → f → g → h → i → j → k → l → A12 a b c d e f g h i j k l
inductive MV where
  | none
  | bool (b : Bool)
  | int (i : Int)
  | str (x : Str)
  | tup (l : List MV)
  | lst (l : List MV)
  | dct (l : List (Str × MV))
  | rng (a b c : Int)
  | ref (n : Nat)
  | val (v : Value)
  | strm (x : Str) (n : Nat)
  | meth (f : Addr) (n : Nat)
structure Gh where
  ρ : Nat → Option Addr
  P : Addr → Prop
noncomputable abbrev tupObj (xs : Array Value) (n : Nat) : Obj := { cls := .type "tuple", data := .seq xs n }
noncomputable abbrev lstObj (xs : Array Value) (n : Nat) : Obj := { cls := .type "list", data := .seq xs n }
structure Cx where
  prog : Program
  w : World
  N0 : Nat
  tabs : List Addr
  K : Frag
  tq : Addr → Nat → Nat → Str
  rd : FuncData → Prop
  tlo : ∀ a ∈ tabs, 16 ≤ a
inductive Strm (C : Cx) (g : Gh) (h : Heap) (x : Str) (n : Nat) (a : Addr) : Prop
  | mk (d f ct cx b : Addr) (t : Tok) (fl fd : FuncData) (sl : Array (Option Value)) (m : Str → Option Value) (o : Obj) :
    (g.P a ∧ h.get? a = some ⟨.type "function", some d, .func fl, sl⟩) → (g.P d ∧ h.Ns d m ∧ m "read" = some (.ref f)) → (g.P f ∧ h.get? f = some o ∧ o.cls = .type "function" ∧ o.data = .func fd) →
    C.rd fd → (fd.closure.lookup ("text" : Str) = some cx ∧ fd.closure.lookup ("at" : Str) = some ct ∧ ∀ y c, fd.closure.lookup y = some c → (y = "text" ∧ c = cx) ∨ (y = "at" ∧ c = ct)) →
    (g.P ct ∧ h.IsCell ct (some (.ref b)) ∧ g.ρ n = some b) → (g.P cx ∧ h.IsCell cx (some (.str x t))) → (∃ c, fd.code = .ref c ∧ g.P c ∧ h.CodeRec (.ref c) fd.qualname) → ct ≠ cx → Strm C g h x n a
mutual
inductive VR (C : Cx) (g : Gh) (h : Heap) : MV → Value → Prop
  | none : VR C g h .none .none
  | bool (b : Bool) : VR C g h (.bool b) (.bool b)
  | int (i : Int) (t : Tok) : VR C g h (.int i) (.int i t)
  | str (x : Str) (t : Tok) : VR C g h (.str x) (.str x t)
  | tup {l : List MV} {a : Addr} {xs : List Value} : g.P a → h.IsTuple a ⟨xs⟩ → VRs C g h l xs → VR C g h (.tup l) (.ref a)
  | lst {l : List MV} {a : Addr} {xs : List Value} : g.P a → h.PlainList a ⟨xs⟩ → VRs C g h l xs → VR C g h (.lst l) (.ref a)
  | dct {l : List (Str × MV)} {a : Addr} {kvs : List (Str × Value)} : g.P a → h.DictOf (strKind C.prog C.w) a kvs → VRd C g h l kvs → VR C g h (.dct l) (.ref a)
  | rng {a b c : Int} {t u v : Tok} {r : Addr} : g.P r → IsRange h r a b c t u v → VR C g h (.rng a b c) (.ref r)
  | ref {n : Nat} {a : Addr} : g.ρ n = some a → VR C g h (.ref n) (.ref a)
  | val (v : Value) : VR C g h (.val v) v
  | strm {x : Str} {n : Nat} {a : Addr} : Strm C g h x n a → VR C g h (.strm x n) (.ref a)
  | meth {f : Addr} {n : Nat} {a b : Addr} : g.P a → h.get? a = some (methodObj (.ref f) (.ref b)) → g.ρ n = some b → VR C g h (.meth f n) (.ref a)
inductive VRs (C : Cx) (g : Gh) (h : Heap) : List MV → List Value → Prop
  | nil : VRs C g h [] []
  | cons {m : MV} {v : Value} {l : List MV} {r : List Value} : VR C g h m v → VRs C g h l r → VRs C g h (m :: l) (v :: r)
inductive VRd (C : Cx) (g : Gh) (h : Heap) : List (Str × MV) → List (Str × Value) → Prop
  | nil : VRd C g h [] []
  | cons {k : Str} {m : MV} {v : Value} {l : List (Str × MV)} {r : List (Str × Value)} : VR C g h m v → VRd C g h l r → VRd C g h ((k, m) :: l) ((k, v) :: r)
end
noncomputable def VI (C : Cx) (g : Gh) (h : Heap) (v : Value) : MV → Prop
  | .none => v = .none
  | .bool b => v = .bool b
  | .int i => ∃ t, v = .int i t
  | .str x => ∃ t, v = .str x t
  | .tup l => ∃ a xs, v = .ref a ∧ g.P a ∧ h.IsTuple a ⟨xs⟩ ∧ VRs C g h l xs
  | .lst l => ∃ a xs, v = .ref a ∧ g.P a ∧ h.PlainList a ⟨xs⟩ ∧ VRs C g h l xs
  | .dct l => ∃ a kvs, v = .ref a ∧ g.P a ∧ h.DictOf (strKind C.prog C.w) a kvs ∧ VRd C g h l kvs
  | .rng a b c => ∃ t u w r, v = .ref r ∧ g.P r ∧ IsRange h r a b c t u w
  | .ref n => ∃ a, v = .ref a ∧ g.ρ n = some a
  | .val u => v = u
  | .strm x n => ∃ a, v = .ref a ∧ Strm C g h x n a
  | .meth f n => ∃ a b, v = .ref a ∧ g.P a ∧ h.get? a = some (methodObj (.ref f) (.ref b)) ∧ g.ρ n = some b
theorem VR.inv {C : Cx} {g : Gh} {h : Heap} {m : MV} {v : Value} (x : VR C g h m v) : VI C g h v m :=
  VR.casesOn (motive_1 := fun m v _ => VI C g h v m) x rfl (fun _ => rfl) (fun _ t => ⟨t, rfl⟩) (fun _ t => ⟨t, rfl⟩) (fun a b c => ⟨_, _, rfl, a, b, c⟩) (fun a b c => ⟨_, _, rfl, a, b, c⟩) (fun a b c => ⟨_, _, rfl, a, b, c⟩)
    (fun a b => ⟨_, _, _, _, rfl, a, b⟩) (fun a => ⟨_, rfl, a⟩) (fun _ => rfl) (fun a => ⟨_, rfl, a⟩) (fun a b c => ⟨_, _, rfl, a, b, c⟩)
noncomputable def VIs (C : Cx) (g : Gh) (h : Heap) (r : List Value) : List MV → Prop
  | [] => r = []
  | m :: l => ∃ v r', r = v :: r' ∧ VR C g h m v ∧ VRs C g h l r'
theorem VRs.inv {C : Cx} {g : Gh} {h : Heap} {l : List MV} {r : List Value} (x : VRs C g h l r) : VIs C g h r l :=
  VRs.casesOn (motive_2 := fun l r _ => VIs C g h r l) x rfl (fun a b => ⟨_, _, rfl, a, b⟩)
noncomputable def VId (C : Cx) (g : Gh) (h : Heap) (r : List (Str × Value)) : List (Str × MV) → Prop
  | [] => r = []
  | (k, m) :: l => ∃ v r', r = (k, v) :: r' ∧ VR C g h m v ∧ VRd C g h l r'
theorem VRd.inv {C : Cx} {g : Gh} {h : Heap} {l : List (Str × MV)} {r : List (Str × Value)} (x : VRd C g h l r) : VId C g h r l :=
  VRd.casesOn (motive_3 := fun l r _ => VId C g h r l) x rfl (fun a b => ⟨_, _, rfl, a, b⟩)
theorem VRs.inv1 {C : Cx} {g : Gh} {h : Heap} {a : MV} {r : List Value} (x : VRs C g h [a] r) : ∃ v, r = [v] ∧ VR C g h a v := by
  obtain ⟨v, _, rfl, y, z⟩ := x.inv
  obtain rfl := z.inv
  exact ⟨v, rfl, y⟩
theorem VRs.inv2 {C : Cx} {g : Gh} {h : Heap} {a b : MV} {r : List Value} (x : VRs C g h [a, b] r) : ∃ v w, r = [v, w] ∧ VR C g h a v ∧ VR C g h b w := by
  obtain ⟨v, _, rfl, y, z⟩ := x.inv
  obtain ⟨w, rfl, z'⟩ := z.inv1
  exact ⟨v, w, rfl, y, z'⟩
theorem VRs.inv3 {C : Cx} {g : Gh} {h : Heap} {a b c : MV} {r : List Value} (x : VRs C g h [a, b, c] r) : ∃ v w u, r = [v, w, u] ∧ VR C g h a v ∧ VR C g h b w ∧ VR C g h c u := by
  obtain ⟨v, _, rfl, y, z⟩ := x.inv
  obtain ⟨w, u, rfl, z'⟩ := z.inv2
  exact ⟨v, w, u, rfl, y, z'⟩
structure Ge (g g' : Gh) (h h' : Heap) : Prop where
  ρ : ∀ n a, g.ρ n = some a → g'.ρ n = some a
  P : ∀ a, g.P a → g'.P a
  keep : ∀ a o, g.P a → h.get? a = some o → h'.get? a = some o
theorem CodeRec.at' {h h' : Heap} {c : Addr} {q : Str} (k : ∀ o, h.get? c = some o → h'.get? c = some o) : h.CodeRec (.ref c) q → h'.CodeRec (.ref c) q := by
  rintro ⟨c', o6, vs, t6, e6, h6, r6⟩
  cases e6
  exact ⟨c, o6, vs, t6, rfl, k _ h6, r6⟩
theorem Strm.mono {C : Cx} {g g' : Gh} {h h' : Heap} {x : Str} {n : Nat} {a : Addr} (e : Ge g g' h h') (z : Strm C g h x n a) : Strm C g' h' x n a :=
  Strm.casesOn z fun d f ct cx b t fl fd sl m o z1 z2 z3 hr hc z4 z5 z6 hne =>
    ⟨d, f, ct, cx, b, t, fl, fd, sl, m, o, ⟨e.P _ z1.1, e.keep _ _ z1.1 z1.2⟩, ⟨e.P _ z2.1, z2.2.1.at fun _ q => e.keep _ _ z2.1 q, z2.2.2⟩, ⟨e.P _ z3.1, e.keep _ _ z3.1 z3.2.1, z3.2.2⟩, hr, hc,
      ⟨e.P _ z4.1, z4.2.1.imp fun _ q => ⟨e.keep _ _ z4.1 q.1, q.2⟩, e.ρ _ _ z4.2.2⟩, ⟨e.P _ z5.1, z5.2.imp fun _ q => ⟨e.keep _ _ z5.1 q.1, q.2⟩⟩, z6.elim fun c y => ⟨c, y.1, e.P _ y.2.1, CodeRec.at' (fun _ q => e.keep _ _ y.2.1 q) y.2.2⟩, hne⟩
theorem VR.mono {C : Cx} {g g' : Gh} {h h' : Heap} (e : Ge g g' h h') {m : MV} {v : Value} (x : VR C g h m v) : VR C g' h' m v :=
  VR.rec (motive_1 := fun m v _ => VR C g' h' m v) (motive_2 := fun l r _ => VRs C g' h' l r) (motive_3 := fun l r _ => VRd C g' h' l r) .none .bool .int .str (fun hp ho _ hl => .tup (e.P _ hp) (ho.at fun _ q => e.keep _ _ hp q) hl)
    (fun hp ho _ hl => .lst (e.P _ hp) (ho.at fun _ q => e.keep _ _ hp q) hl) (fun hp ho _ hl => .dct (e.P _ hp) (ho.at fun _ q => e.keep _ _ hp q) hl) (fun hp hr => .rng (e.P _ hp) (e.keep _ _ hp hr)) (fun hn => .ref (e.ρ _ _ hn)) .val
    (fun hs => .strm (hs.mono e)) (fun hp ho hn => .meth (e.P _ hp) (e.keep _ _ hp ho) (e.ρ _ _ hn)) .nil (fun _ _ a b => .cons a b) .nil (fun _ _ a b => .cons a b) x
theorem VRs.mono {C : Cx} {g g' : Gh} {h h' : Heap} (e : Ge g g' h h') {l : List MV} {r : List Value} (x : VRs C g h l r) : VRs C g' h' l r :=
  VRs.rec (motive_1 := fun m v _ => VR C g' h' m v) (motive_2 := fun l r _ => VRs C g' h' l r) (motive_3 := fun l r _ => VRd C g' h' l r) .none .bool .int .str (fun hp ho _ hl => .tup (e.P _ hp) (ho.at fun _ q => e.keep _ _ hp q) hl)
    (fun hp ho _ hl => .lst (e.P _ hp) (ho.at fun _ q => e.keep _ _ hp q) hl) (fun hp ho _ hl => .dct (e.P _ hp) (ho.at fun _ q => e.keep _ _ hp q) hl) (fun hp hr => .rng (e.P _ hp) (e.keep _ _ hp hr)) (fun hn => .ref (e.ρ _ _ hn)) .val
    (fun hs => .strm (hs.mono e)) (fun hp ho hn => .meth (e.P _ hp) (e.keep _ _ hp ho) (e.ρ _ _ hn)) .nil (fun _ _ a b => .cons a b) .nil (fun _ _ a b => .cons a b) x
theorem VRd.mono {C : Cx} {g g' : Gh} {h h' : Heap} (e : Ge g g' h h') {l : List (Str × MV)} {r : List (Str × Value)} (x : VRd C g h l r) : VRd C g' h' l r :=
  VRd.rec (motive_1 := fun m v _ => VR C g' h' m v) (motive_2 := fun l r _ => VRs C g' h' l r) (motive_3 := fun l r _ => VRd C g' h' l r) .none .bool .int .str (fun hp ho _ hl => .tup (e.P _ hp) (ho.at fun _ q => e.keep _ _ hp q) hl)
    (fun hp ho _ hl => .lst (e.P _ hp) (ho.at fun _ q => e.keep _ _ hp q) hl) (fun hp ho _ hl => .dct (e.P _ hp) (ho.at fun _ q => e.keep _ _ hp q) hl) (fun hp hr => .rng (e.P _ hp) (e.keep _ _ hp hr)) (fun hn => .ref (e.ρ _ _ hn)) .val
    (fun hs => .strm (hs.mono e)) (fun hp ho hn => .meth (e.P _ hp) (e.keep _ _ hp ho) (e.ρ _ _ hn)) .nil (fun _ _ a b => .cons a b) .nil (fun _ _ a b => .cons a b) x
theorem VRs.length {C : Cx} {g : Gh} {h : Heap} {l : List MV} {r : List Value} (x : VRs C g h l r) : l.length = r.length := by
  induction l generalizing r with
  | nil => obtain rfl := x.inv; rfl
  | cons m l ih => obtain ⟨v, r', rfl, _, y⟩ := x.inv; exact congrArg Nat.succ (ih y)
theorem VRs.get {C : Cx} {g : Gh} {h : Heap} {l : List MV} {r : List Value} (x : VRs C g h l r) {i : Nat} {m : MV} (e : l[i]? = some m) : ∃ v, r[i]? = some v ∧ VR C g h m v := by
  induction l generalizing r i with
  | nil => exact nomatch e
  | cons m' l ih =>
    obtain ⟨v, r', rfl, y, z⟩ := x.inv
    cases i with
    | zero => exact ⟨v, rfl, Option.some.inj e ▸ y⟩
    | succ i => exact ih z e
theorem VRs.append {C : Cx} {g : Gh} {h : Heap} {l : List MV} {r : List Value} {l' : List MV} {r' : List Value} (x : VRs C g h l r) (b : VRs C g h l' r') : VRs C g h (l ++ l') (r ++ r') := by
  induction l generalizing r with
  | nil => obtain rfl := x.inv; exact b
  | cons m l ih => obtain ⟨v, r', rfl, y, z⟩ := x.inv; exact .cons y (ih z)
inductive MO where
  | list (l : List MV)
  | dict (l : List (Str × MV))
  | raw (o : Obj)
  | inst (cls : Addr) (d : Nat)
  | attrs (l : List (Str × MV))
  | citer (alive : Bool) (f : Addr) (n : Nat) (sent : Str)
noncomputable abbrev Hp := Nat → Option MO
noncomputable def Hp.set (σ : Hp) (n : Nat) (o : MO) : Hp := fun m => if m = n then some o else σ m
inductive OR (C : Cx) (g : Gh) (h : Heap) (a : Addr) : MO → Prop
  | list {l : List MV} {xs : List Value} : h.PlainList a ⟨xs⟩ → VRs C g h l xs → OR C g h a (.list l)
  | dict {l : List (Str × MV)} {kvs : List (Str × Value)} : h.DictOf (strKind C.prog C.w) a kvs → VRd C g h l kvs → OR C g h a (.dict l)
  | raw {o : Obj} : h.get? a = some o → OR C g h a (.raw o)
  | inst {cls : Addr} {d : Nat} {dx : Addr} : g.ρ d = some dx → h.get? a = some (instObj cls dx) → OR C g h a (.inst cls d)
  | attrs {l : List (Str × MV)} {m : Str → Option Value} : h.Ns1 a m → (∀ x, l.lookup x = none → m x = none) → (∀ x v, l.lookup x = some v → ∃ u, m x = some u ∧ VR C g h v u) → OR C g h a (.attrs l)
  | alive {f : Addr} {n : Nat} {sent : Str} {q : Value} {t : Tok} : h.get? a = some { cls := .type "callable_iterator", data := .fields #[q, .str sent t, .bool false] } → VR C g h (.meth f n) q → OR C g h a (.citer true f n sent)
  | dead {f : Addr} {n : Nat} {sent : Str} : h.get? a = some { cls := .type "callable_iterator", data := .fields #[.none, .none, .bool true] } → OR C g h a (.citer false f n sent)
noncomputable def OVI (C : Cx) (g : Gh) (h : Heap) (a : Addr) : MO → Prop
  | .list l => ∃ xs, h.PlainList a ⟨xs⟩ ∧ VRs C g h l xs
  | .dict l => ∃ kvs, h.DictOf (strKind C.prog C.w) a kvs ∧ VRd C g h l kvs
  | .raw o => h.get? a = some o
  | .inst cls d => ∃ dx, g.ρ d = some dx ∧ h.get? a = some (instObj cls dx)
  | .attrs l => ∃ m, h.Ns1 a m ∧ (∀ x, l.lookup x = none → m x = none) ∧ (∀ x v, l.lookup x = some v → ∃ u, m x = some u ∧ VR C g h v u)
  | .citer true f n sent => ∃ q t, h.get? a = some { cls := .type "callable_iterator", data := .fields #[q, .str sent t, .bool false] } ∧ VR C g h (.meth f n) q
  | .citer false _ _ _ => h.get? a = some { cls := .type "callable_iterator", data := .fields #[.none, .none, .bool true] }
theorem OR.inv {C : Cx} {g : Gh} {h : Heap} {a : Addr} {o : MO} (x : OR C g h a o) : OVI C g h a o :=
  OR.casesOn (motive := fun o _ => OVI C g h a o) x (fun a b => ⟨_, a, b⟩) (fun a b => ⟨_, a, b⟩) id (fun a b => ⟨_, a, b⟩) (fun a b c => ⟨_, a, b, c⟩) (fun a b => ⟨_, _, a, b⟩) id
theorem OR.mono {C : Cx} {g g' : Gh} {h h' : Heap} {a : Addr} {o : MO} (e : Ge g g' h h') (k : ∀ ob, h.get? a = some ob → h'.get? a = some ob) (x : OR C g h a o) : OR C g' h' a o :=
  OR.casesOn (motive := fun o _ => OR C g' h' a o) x (fun ho hl => .list (ho.at k) (hl.mono e)) (fun ho hl => .dict (ho.at k) (hl.mono e)) (fun ho => .raw (k _ ho)) (fun hd ho => .inst (e.ρ _ _ hd) (k _ ho))
    (fun hn h0 h1 => .attrs (hn.at k) h0 fun x v hv => (h1 x v hv).imp fun _ hu => ⟨hu.1, hu.2.mono e⟩) (fun ho hq => .alive (k _ ho) (hq.mono e)) (fun ho => .dead (k _ ho))
structure Fm where
  env : Env
  own : List Str
noncomputable abbrev Loc := Str → Option MV
noncomputable def Loc.set (l : Loc) (x : Str) (v : MV) : Loc := fun y => if y = x then some v else l y
noncomputable def Holds (env : Env) (h : Heap) (x : Str) (v : Value) : Prop :=
  (env.kindOf x = some .local ∧ ∃ m, h.Ns env.locals m ∧ m x = some v) ∨
  ((env.kindOf x = some .cell ∨ env.kindOf x = some .free) ∧ ∃ c, env.cells.lookup x = some c ∧ h.IsCell c (some v))
structure FR (C : Cx) (g : Gh) (fm : Fm) (fa : List Addr) (loc : Loc) (h : Heap) : Prop where
  fn : fm.env.scope.kind = .function
  glob : fm.env.globals = mainGlobals
  bi : fm.env.builtins = builtinsNs
  ns : ∃ m, h.Ns fm.env.locals m
  L : fm.env.locals ∈ fa
  var : ∀ x v, loc x = some v → ∃ u, Holds fm.env h x u ∧ VR C g h v u
  cells : ∀ x c, fm.env.cells.lookup x = some c → (∃ v, h.IsCell c v) ∧ c ≠ fm.env.locals ∧ C.N0 ≤ c ∧ (∀ n, g.ρ n ≠ some c) ∧ (x ∉ fm.own → c ∉ fa)
  own : ∀ x ∈ fm.own, fm.env.kindOf x = some .cell ∧ ∃ c, fm.env.cells.lookup x = some c ∧ c ∈ fa
  inj : ∀ x y c, fm.env.cells.lookup x = some c → fm.env.cells.lookup y = some c → x = y
  fa : ∀ a ∈ fa, C.N0 ≤ a ∧ a < h.objs.size ∧ ¬ g.P a ∧ ∀ n, g.ρ n ≠ some a
  has : ∀ x, fm.env.kindOf x = some .cell ∨ fm.env.kindOf x = some .free → ∃ c, fm.env.cells.lookup x = some c
noncomputable def TabOk (C : Cx) (g : Gh) (h : Heap) (a : Addr) (vs : Array Value) : Prop :=
  TriplesOk vs.toList ∧ ∀ pos c', codeAmong pos vs.toList = some c' → ∃ c, c' = .ref c ∧ g.P c ∧ h.CodeRec c' (C.tq a pos.line pos.col)
theorem TabOk.mono {C : Cx} {g g' : Gh} {h h' : Heap} {a : Addr} {vs : Array Value} (e : Ge g g' h h') (x : TabOk C g h a vs) : TabOk C g' h' a vs :=
  ⟨x.1, fun pos c' hc => by obtain ⟨c, rfl, hp, hr⟩ := x.2 pos c' hc; exact ⟨c, rfl, e.P _ hp, CodeRec.at' (fun _ q => e.keep _ _ hp q) hr⟩⟩
structure GR (C : Cx) (g : Gh) (σ : Hp) (s : Shared) : Prop where
  lo : 16 ≤ C.N0
  K : ∀ p ∈ C.K, p.1 < C.N0 ∧ p.1 ∉ C.tabs ∧ s.heap.get? p.1 = some p.2
  lim : s.heap.NoLimit
  size : C.N0 ≤ s.heap.objs.size
  heap : ∀ n o, σ n = some o → ∃ a, g.ρ n = some a ∧ OR C g s.heap a o
  inj : ∀ n m a, g.ρ n = some a → g.ρ m = some a → n = m
  live : ∀ n a, g.ρ n = some a → C.N0 ≤ a ∧ a < s.heap.objs.size ∧ ¬ g.P a
  P : ∀ a, g.P a → C.N0 ≤ a ∧ a < s.heap.objs.size
  tabs : ∀ a ∈ C.tabs, a < C.N0 ∧ ∃ vs, s.heap.get? a = some (X.tableObj vs) ∧ TabOk C g s.heap a vs
  dom : ∀ n a, g.ρ n = some a → σ n ≠ none
structure Rel (C : Cx) (g : Gh) (σ : Hp) (fm : Fm) (fa : List Addr) (loc : Loc) (s : Shared) : Prop where
  gr : GR C g σ s
  fr : FR C g fm fa loc s.heap
structure Gd (C : Cx) (fa : List Addr) (g : Gh) (s : Shared) (g' : Gh) (s' : Shared) : Prop where
  keep : ∀ b o, s.heap.get? b = some o → (∀ n, g.ρ n ≠ some b) → b ∉ fa → b ∉ C.tabs → s'.heap.get? b = some o
  tabs : ∀ a ∈ C.tabs, ∀ ps, s.heap.get? a = some (X.tableObj ps) → ∃ more, s'.heap.get? a = some (X.tableObj (ps ++ more))
  size : s.heap.objs.size ≤ s'.heap.objs.size
  ρ : ∀ n a, g.ρ n = some a → g'.ρ n = some a
  ρn : ∀ n a, g'.ρ n = some a → g.ρ n = some a ∨ s.heap.objs.size ≤ a
  P : ∀ a, g.P a → g'.P a
  Pn : ∀ a, g'.P a → g.P a ∨ s.heap.objs.size ≤ a
  os : s'.os = s.os
  drawn : s'.drawn = s.drawn
  gens : AllBare s.gens → AllBare s'.gens
theorem Gd.refl (C : Cx) (fa : List Addr) (g : Gh) (s : Shared) : Gd C fa g s g s :=
  ⟨fun _ _ e _ _ _ => e, fun _ _ ps e => ⟨#[], by simpa using e⟩, Nat.le_refl _, fun _ _ e => e, fun _ _ e => .inl e, fun _ e => e, fun _ e => .inl e, rfl, rfl, id⟩
theorem Gd.trans {C : Cx} {fa : List Addr} {g g₁ g₂ : Gh} {s s₁ s₂ : Shared} (x : Gd C fa g s g₁ s₁) (y : Gd C fa g₁ s₁ g₂ s₂) : Gd C fa g s g₂ s₂ where
  keep := fun b o e h1 h2 h3 => y.keep b o (x.keep b o e h1 h2 h3) (fun n hn => by
    rcases x.ρn n b hn with q | q
    · exact h1 n q
    · exact Nat.lt_irrefl _ (Nat.lt_of_lt_of_le (Heap.lt_size e) q)) h2 h3
  tabs := fun a ha ps e => by
    obtain ⟨m1, e1⟩ := x.tabs a ha ps e
    obtain ⟨m2, e2⟩ := y.tabs a ha _ e1
    exact ⟨m1 ++ m2, by rw [e2, Array.append_assoc]⟩
  size := Nat.le_trans x.size y.size
  ρ := fun n a e => y.ρ n a (x.ρ n a e)
  ρn := fun n a e => (y.ρn n a e).elim (x.ρn n a) fun q => .inr (Nat.le_trans x.size q)
  P := fun a e => y.P a (x.P a e)
  Pn := fun a e => (y.Pn a e).elim (x.Pn a) fun q => .inr (Nat.le_trans x.size q)
  os := y.os.trans x.os
  drawn := y.drawn.trans x.drawn
  gens := fun q => y.gens (x.gens q)
theorem Gd.ge {C : Cx} {fa : List Addr} {g g' : Gh} {s s' : Shared} (x : Gd C fa g s g' s') (h1 : ∀ n a, g.ρ n = some a → ¬ g.P a) (h2 : ∀ a ∈ fa, ¬ g.P a) (h3 : ∀ a ∈ C.tabs, ¬ g.P a) : Ge g g' s.heap s'.heap :=
  ⟨x.ρ, x.P, fun a o hp e => x.keep a o e (fun n hn => h1 n a hn hp) (fun hm => h2 a hm hp) fun hm => h3 a hm hp⟩
theorem GR.tabP {C : Cx} {g : Gh} {σ : Hp} {s : Shared} (r : GR C g σ s) : ∀ a ∈ C.tabs, ¬ g.P a := fun a ha hp => Nat.lt_irrefl _ (Nat.lt_of_lt_of_le (r.tabs a ha).1 (r.P a hp).1)
theorem GR.ge {C : Cx} {g g' : Gh} {σ : Hp} {s s' : Shared} (r : GR C g σ s) (x : Gd C [] g s g' s') : Ge g g' s.heap s'.heap :=
  x.ge (fun n a e => (r.live n a e).2.2) (fun _ h => nomatch h) r.tabP
theorem Rel.ge {C : Cx} {g g' : Gh} {σ : Hp} {fm : Fm} {fa : List Addr} {loc : Loc} {s s' : Shared} (r : Rel C g σ fm fa loc s) (x : Gd C fa g s g' s') : Ge g g' s.heap s'.heap :=
  x.ge (fun n a e => (r.gr.live n a e).2.2) (fun a ha => (r.fr.fa a ha).2.2.1) r.gr.tabP
theorem GR.ext {C : Cx} {g : Gh} {σ : Hp} {s s' : Shared} (r : GR C g σ s) (k : ∀ b o, s.heap.get? b = some o → s'.heap.get? b = some o) (hs : s.heap.objs.size ≤ s'.heap.objs.size) : GR C g σ s' where
  lo := r.lo
  K := fun p hp => ⟨(r.K p hp).1, (r.K p hp).2.1, k _ _ (r.K p hp).2.2⟩
  lim := r.lim.keeps k
  size := Nat.le_trans r.size hs
  heap := fun n o e => by obtain ⟨a, ha, ho⟩ := r.heap n o e; exact ⟨a, ha, ho.mono ⟨fun _ _ e => e, fun _ e => e, fun a o _ e => k a o e⟩ fun _ e => k _ _ e⟩
  inj := r.inj
  live := fun n a e => by obtain ⟨x, y, z⟩ := r.live n a e; exact ⟨x, Nat.lt_of_lt_of_le y hs, z⟩
  P := fun a e => by obtain ⟨x, y⟩ := r.P a e; exact ⟨x, Nat.lt_of_lt_of_le y hs⟩
  tabs := fun a ha => by obtain ⟨x, vs, e, t⟩ := r.tabs a ha; exact ⟨x, vs, k _ _ e, t.mono ⟨fun _ _ e => e, fun _ e => e, fun a o _ e => k a o e⟩⟩
  dom := r.dom
theorem Holds.ext {env : Env} {h h' : Heap} {x : Str} {v : Value} (k : ∀ b o, h.get? b = some o → h'.get? b = some o) : Holds env h x v → Holds env h' x v := by
  rintro (⟨a, m, hn, e⟩ | ⟨a, c, hc, e⟩)
  · exact .inl ⟨a, m, hn.keeps k, e⟩
  · exact .inr ⟨a, c, hc, e.keeps k⟩
theorem FR.ext {C : Cx} {g : Gh} {fm : Fm} {fa : List Addr} {loc : Loc} {h h' : Heap} (r : FR C g fm fa loc h) (k : ∀ b o, h.get? b = some o → h'.get? b = some o) (hs : h.objs.size ≤ h'.objs.size) : FR C g fm fa loc h' where
  fn := r.fn
  glob := r.glob
  bi := r.bi
  ns := by obtain ⟨m, e⟩ := r.ns; exact ⟨m, e.keeps k⟩
  L := r.L
  var := fun x v e => by obtain ⟨u, hu, hv⟩ := r.var x v e; exact ⟨u, hu.ext k, hv.mono ⟨fun _ _ e => e, fun _ e => e, fun a o _ e => k a o e⟩⟩
  cells := fun x c e => by obtain ⟨⟨v, hv⟩, q⟩ := r.cells x c e; exact ⟨⟨v, hv.keeps k⟩, q⟩
  own := r.own
  inj := r.inj
  fa := fun a ha => by obtain ⟨x, y, z⟩ := r.fa a ha; exact ⟨x, Nat.lt_of_lt_of_le y hs, z⟩
  has := r.has
theorem Rel.ext {C : Cx} {g : Gh} {σ : Hp} {fm : Fm} {fa : List Addr} {loc : Loc} {s s' : Shared} (r : Rel C g σ fm fa loc s) (k : ∀ b o, s.heap.get? b = some o → s'.heap.get? b = some o) (hs : s.heap.objs.size ≤ s'.heap.objs.size) : Rel C g σ fm fa loc s' :=
  ⟨r.gr.ext k hs, r.fr.ext k hs⟩
theorem Gd.ext {C : Cx} {fa : List Addr} {g : Gh} {s s' : Shared} (k : ∀ b o, s.heap.get? b = some o → s'.heap.get? b = some o) (hs : s.heap.objs.size ≤ s'.heap.objs.size)
    (ho : s'.os = s.os) (hd : s'.drawn = s.drawn) (hg : s'.gens = s.gens) : Gd C fa g s g s' :=
  ⟨fun b o e _ _ _ => k b o e, fun a _ ps e => ⟨#[], by rw [k a _ e]; simp⟩, hs, fun _ _ e => e, fun _ _ e => .inl e, fun _ e => e, fun _ e => .inl e, ho, hd, fun q => hg ▸ q⟩
noncomputable def Gh.set (g : Gh) (n : Nat) (a : Addr) : Gh := ⟨fun m => if m = n then some a else g.ρ m, g.P⟩
noncomputable def Gh.pin (g : Gh) (a : Addr) : Gh := ⟨g.ρ, fun b => b = a ∨ g.P b⟩
section
variable {C : Cx} {g : Gh} {σ : Hp} {fm : Fm} {fa : List Addr} {loc : Loc} {s s' : Shared}
theorem Gd.toks (t : Nat) : Gd C fa g s g { s with toks := t } := .ext (fun _ _ e => e) (Nat.le_refl _) rfl rfl rfl
theorem Rel.toks (r : Rel C g σ fm fa loc s) (t : Nat) : Rel C g σ fm fa loc { s with toks := t } := r.ext (fun _ _ e => e) (Nat.le_refl _)
theorem ge_pin1 {g : Gh} {h : Heap} (a : Addr) : Ge g (g.pin a) h h := ⟨fun _ _ e => e, fun _ e => .inr e, fun _ _ _ e => e⟩
theorem Rel.pin {a : Addr} (r : Rel C g σ fm fa loc s) (k : ∀ b o, s.heap.get? b = some o → s'.heap.get? b = some o) (ha : s.heap.objs.size ≤ a) (hl : a < s'.heap.objs.size) :
    Rel C (g.pin a) σ fm fa loc s' := by
  have hs : s.heap.objs.size ≤ s'.heap.objs.size := Nat.le_of_lt (Nat.lt_of_le_of_lt ha hl)
  have e : Ge g (g.pin a) s.heap s'.heap := ⟨fun _ _ e => e, fun _ e => .inr e, fun a o _ e => k a o e⟩
  have q := r.ext k hs
  refine ⟨⟨r.gr.lo, q.gr.K, q.gr.lim, q.gr.size, fun n o h => ?_, r.gr.inj, fun n b h => ?_, fun b h => ?_, fun b h => by obtain ⟨x, vs, e', t⟩ := q.gr.tabs b h; exact ⟨x, vs, e', t.mono (ge_pin1 a)⟩, r.gr.dom⟩,
    ⟨r.fr.fn, r.fr.glob, r.fr.bi, q.fr.ns, r.fr.L, fun x v h => ?_, fun x c h => ?_, r.fr.own, r.fr.inj, fun b h => ?_, r.fr.has⟩⟩
  · obtain ⟨b, hb, ho⟩ := r.gr.heap n o h
    exact ⟨b, hb, ho.mono e fun _ e => k _ _ e⟩
  · obtain ⟨x, y, z⟩ := r.gr.live n b h
    exact ⟨x, Nat.lt_of_lt_of_le y hs, fun w => w.elim (fun w => Nat.lt_irrefl _ (Nat.lt_of_lt_of_le y (w ▸ ha))) z⟩
  · rcases h with h | h
    · subst h; exact ⟨Nat.le_trans r.gr.size ha, hl⟩
    · obtain ⟨x, y⟩ := r.gr.P b h; exact ⟨x, Nat.lt_of_lt_of_le y hs⟩
  · obtain ⟨u, hu, hv⟩ := r.fr.var x v h
    exact ⟨u, hu.ext k, hv.mono e⟩
  · refine via_p fun P kP => ?_
    obtain ⟨⟨v, hv⟩, c1, c2, c3, c5⟩ := r.fr.cells x c h
    refine kP ?_
    clear kP P
    exact ⟨⟨v, hv.keeps k⟩, c1, c2, c3, c5⟩
  · obtain ⟨x, y, z, w⟩ := r.fr.fa b h
    exact ⟨x, Nat.lt_of_lt_of_le y hs, fun w => w.elim (fun w => Nat.lt_irrefl _ (Nat.lt_of_lt_of_le y (w ▸ ha))) z, w⟩
theorem Gd.pin {a : Addr} (k : ∀ b o, s.heap.get? b = some o → s'.heap.get? b = some o) (ha : s.heap.objs.size ≤ a) (hl : a < s'.heap.objs.size)
    (ho : s'.os = s.os) (hd : s'.drawn = s.drawn) (hg : s'.gens = s.gens) : Gd C fa g s (g.pin a) s' where
  keep := fun b o e _ _ _ => k b o e
  tabs := fun a _ ps e => ⟨#[], by rw [k a _ e]; simp⟩
  size := Nat.le_of_lt (Nat.lt_of_le_of_lt ha hl)
  ρ := fun _ _ e => e
  ρn := fun _ _ e => .inl e
  P := fun _ e => .inr e
  Pn := fun b e => e.elim (fun w => .inr (w ▸ ha)) .inl
  os := ho
  drawn := hd
  gens := fun q => hg ▸ q
theorem GR.obj (r : GR C g σ s) {n : Nat} {a : Addr} {o : MO} (ha : g.ρ n = some a) (e : σ n = some o) : OR C g s.heap a o := by
  obtain ⟨b, hb, ho⟩ := r.heap n o e
  exact Option.some.inj (ha.symm.trans hb) ▸ ho
theorem GR.fresh (r : GR C g σ s) {n : Nat} (h : σ n = none) : g.ρ n = none := by
  cases e : g.ρ n with
  | none => rfl
  | some a => exact absurd h (r.dom n a e)
theorem Rel.new {a : Addr} {n : Nat} {o : MO} (r : Rel C g σ fm fa loc s) (hn : g.ρ n = none) (k : ∀ b o, s.heap.get? b = some o → s'.heap.get? b = some o) (ha : s.heap.objs.size ≤ a) (hl : a < s'.heap.objs.size)
    (ho : OR C (g.set n a) s'.heap a o) : Rel C (g.set n a) (σ.set n o) fm fa loc s' := by
  have hs : s.heap.objs.size ≤ s'.heap.objs.size := Nat.le_of_lt (Nat.lt_of_le_of_lt ha hl)
  have up : ∀ m b, g.ρ m = some b → (g.set n a).ρ m = some b := fun m b e => by
    show (if m = n then some a else g.ρ m) = some b
    rw [if_neg (fun q => by rw [q, hn] at e; cases e)]; exact e
  have dn : ∀ m b, (g.set n a).ρ m = some b → (m = n ∧ b = a) ∨ (m ≠ n ∧ g.ρ m = some b) := fun m b e => by
    have e' : (if m = n then some a else g.ρ m) = some b := e
    by_cases h : m = n
    · rw [if_pos h] at e'; cases e'; exact .inl ⟨h, rfl⟩
    · rw [if_neg h] at e'; exact .inr ⟨h, e'⟩
  have e : Ge g (g.set n a) s.heap s'.heap := ⟨up, fun _ e => e, fun a o _ e => k a o e⟩
  have q := r.ext k hs
  refine ⟨⟨r.gr.lo, q.gr.K, q.gr.lim, q.gr.size, fun m o' h => ?_, fun m m' b h h' => ?_, fun m b h => ?_, q.gr.P, fun b h => by obtain ⟨x, vs, e', t⟩ := r.gr.tabs b h; exact ⟨x, vs, k _ _ e', t.mono e⟩, fun m b h => ?_⟩,
    ⟨r.fr.fn, r.fr.glob, r.fr.bi, q.fr.ns, r.fr.L, fun x v h => ?_, fun x c h => ?_, r.fr.own, r.fr.inj, fun b h => ?_, r.fr.has⟩⟩
  · have h' : (if m = n then some o else σ m) = some o' := h
    by_cases hm : m = n
    · rw [if_pos hm] at h'; cases h'
      exact ⟨a, by show (if m = n then some a else g.ρ m) = some a; rw [if_pos hm], ho⟩
    · rw [if_neg hm] at h'
      obtain ⟨b, hb, hob⟩ := r.gr.heap m o' h'
      exact ⟨b, up m b hb, hob.mono e fun _ e => k _ _ e⟩
  · rcases dn m b h with ⟨h1, h2⟩ | ⟨h1, h2⟩ <;> rcases dn m' b h' with ⟨h3, h4⟩ | ⟨h3, h4⟩
    · rw [h1, h3]
    · exact absurd (r.gr.live m' b h4).2.1 (Nat.not_lt.mpr (h2 ▸ ha))
    · exact absurd (r.gr.live m b h2).2.1 (Nat.not_lt.mpr (h4 ▸ ha))
    · exact r.gr.inj m m' b h2 h4
  · rcases dn m b h with ⟨h1, h2⟩ | ⟨h1, h2⟩
    · subst h2; exact ⟨Nat.le_trans r.gr.size ha, hl, fun w => Nat.lt_irrefl _ (Nat.lt_of_lt_of_le (r.gr.P b w).2 ha)⟩
    · obtain ⟨x, y, z⟩ := r.gr.live m b h2; exact ⟨x, Nat.lt_of_lt_of_le y hs, z⟩
  · show (if m = n then some o else σ m) ≠ none
    rcases dn m b h with ⟨h1, _⟩ | ⟨h1, h2⟩
    · rw [if_pos h1]; exact fun e => nomatch e
    · rw [if_neg h1]; exact r.gr.dom m b h2
  · obtain ⟨u, hu, hv⟩ := r.fr.var x v h
    exact ⟨u, hu.ext k, hv.mono e⟩
  · refine via_p fun P kP => ?_
    obtain ⟨⟨v, hv⟩, c1, c2, c3, c5⟩ := r.fr.cells x c h
    refine kP ?_
    clear kP P
    exact ⟨⟨v, hv.keeps k⟩, c1, c2, fun m hm => (dn m c hm).elim (fun w => Nat.lt_irrefl _ (Nat.lt_of_lt_of_le hv.lt (w.2 ▸ ha))) fun w => c3 m w.2, c5⟩
  · obtain ⟨x, y, z, w⟩ := r.fr.fa b h
    exact ⟨x, Nat.lt_of_lt_of_le y hs, z, fun m hm => (dn m b hm).elim (fun v => Nat.lt_irrefl _ (Nat.lt_of_lt_of_le y (v.2 ▸ ha))) fun v => w m v.2⟩
theorem Gd.new {a : Addr} {n : Nat} (hn : g.ρ n = none) (k : ∀ b o, s.heap.get? b = some o → s'.heap.get? b = some o) (ha : s.heap.objs.size ≤ a) (hl : a < s'.heap.objs.size)
    (ho : s'.os = s.os) (hd : s'.drawn = s.drawn) (hg : s'.gens = s.gens) : Gd C fa g s (g.set n a) s' where
  keep := fun b o e _ _ _ => k b o e
  tabs := fun a _ ps e => ⟨#[], by rw [k a _ e]; simp⟩
  size := Nat.le_of_lt (Nat.lt_of_le_of_lt ha hl)
  ρ := fun m b e => by
    show (if m = n then some a else g.ρ m) = some b
    rw [if_neg (fun q => by rw [q, hn] at e; cases e)]; exact e
  ρn := fun m b e => by
    have e' : (if m = n then some a else g.ρ m) = some b := e
    by_cases h : m = n
    · rw [if_pos h] at e'; cases e'; exact .inr ha
    · rw [if_neg h] at e'; exact .inl e'
  P := fun _ e => e
  Pn := fun _ e => .inl e
  os := ho
  drawn := hd
  gens := fun q => hg ▸ q
theorem Rel.upd {a : Addr} {n : Nat} {o : MO} (r : Rel C g σ fm fa loc s) (hn : g.ρ n = some a) (hb : Heap.SameBut a s.heap s'.heap) (ho : OR C g s'.heap a o) : Rel C g (σ.set n o) fm fa loc s' := by
  have hs : s'.heap.objs.size = s.heap.objs.size := hb.1
  have k : ∀ b o, b ≠ a → s.heap.get? b = some o → s'.heap.get? b = some o := fun b o h e => hb.extBut b o h e
  obtain ⟨ha0, ha1, ha2⟩ := r.gr.live n a hn
  have e : Ge g g s.heap s'.heap := ⟨fun _ _ e => e, fun _ e => e, fun b o hp e => k b o (fun q => ha2 (q ▸ hp)) e⟩
  have hlo : ∀ b, b < C.N0 → b ≠ a := fun b h q => Nat.lt_irrefl _ (Nat.lt_of_lt_of_le h (q ▸ ha0))
  have hL : fm.env.locals ≠ a := fun q => (r.fr.fa _ r.fr.L).2.2.2 n (q ▸ hn)
  have hc : ∀ x c, fm.env.cells.lookup x = some c → c ≠ a := fun x c h q => (r.fr.cells x c h).2.2.2.1 n (q ▸ hn)
  refine ⟨⟨r.gr.lo, fun p hp => ⟨(r.gr.K p hp).1, (r.gr.K p hp).2.1, k _ _ (hlo _ (r.gr.K p hp).1) (r.gr.K p hp).2.2⟩, r.gr.lim.extBut hb.extBut (hlo _ ?_), hs ▸ r.gr.size, fun m o' h => ?_, r.gr.inj, fun m b h => ?_, fun b h => ?_, fun b h => ?_, fun m b h => ?_⟩,
    ⟨r.fr.fn, r.fr.glob, r.fr.bi, ?_, r.fr.L, fun x v h => ?_, fun x c h => ?_, r.fr.own, r.fr.inj, fun b h => ?_, r.fr.has⟩⟩
  · exact Nat.lt_of_lt_of_le (by decide) r.gr.lo
  · have h' : (if m = n then some o else σ m) = some o' := h
    by_cases hm : m = n
    · rw [if_pos hm] at h'; cases h'
      exact ⟨a, hm ▸ hn, ho⟩
    · rw [if_neg hm] at h'
      obtain ⟨b, hb', hob⟩ := r.gr.heap m o' h'
      exact ⟨b, hb', hob.mono e fun _ e' => k _ _ (fun q => hm (r.gr.inj m n a (q ▸ hb') hn)) e'⟩
  · rw [hs]; exact r.gr.live m b h
  · rw [hs]; exact r.gr.P b h
  · obtain ⟨x, vs, e', t⟩ := r.gr.tabs b h; exact ⟨x, vs, k _ _ (hlo _ x) e', t.mono e⟩
  · show (if m = n then some o else σ m) ≠ none
    by_cases hm : m = n
    · rw [if_pos hm]; exact fun e => nomatch e
    · rw [if_neg hm]; exact r.gr.dom m b h
  · obtain ⟨m, hm⟩ := r.fr.ns; exact ⟨m, hm.sameBut hb hL⟩
  · obtain ⟨u, hu, hv⟩ := r.fr.var x v h
    refine ⟨u, ?_, hv.mono e⟩
    rcases hu with ⟨q, m, hm, em⟩ | ⟨q, c, hcc, hce⟩
    · exact .inl ⟨q, m, hm.sameBut hb hL, em⟩
    · exact .inr ⟨q, c, hcc, hce.sameBut hb (hc x c hcc)⟩
  · obtain ⟨⟨v, hv⟩, q⟩ := r.fr.cells x c h
    exact ⟨⟨v, hv.sameBut hb (hc x c h)⟩, q⟩
  · rw [hs]; exact r.fr.fa b h
theorem Gd.upd {a : Addr} {n : Nat} (hn : g.ρ n = some a) (hN : C.N0 ≤ a) (ht : ∀ b ∈ C.tabs, b < C.N0) (hb : Heap.SameBut a s.heap s'.heap) (ho : s'.os = s.os) (hd : s'.drawn = s.drawn) (hg : s'.gens = s.gens) : Gd C fa g s g s' where
  keep := fun b o e h _ _ => hb.extBut b o (fun q => h n (q ▸ hn)) e
  tabs := fun b h ps e => ⟨#[], by rw [hb.extBut b _ (fun q => Nat.lt_irrefl _ (Nat.lt_of_lt_of_le (ht b h) (q ▸ hN))) e]; simp⟩
  size := Nat.le_of_eq hb.1.symm
  ρ := fun _ _ e => e
  ρn := fun _ _ e => .inl e
  P := fun _ e => e
  Pn := fun _ e => .inl e
  os := ho
  drawn := hd
  gens := fun q => hg ▸ q
theorem Gd.own {a : Addr} (hn : a ∈ fa) (hN : C.N0 ≤ a) (ht : ∀ b ∈ C.tabs, b < C.N0) (hb : Heap.SameBut a s.heap s'.heap) (ho : s'.os = s.os) (hd : s'.drawn = s.drawn) (hg : s'.gens = s.gens) : Gd C fa g s g s' where
  keep := fun b o e _ h _ => hb.extBut b o (fun q => h (q ▸ hn)) e
  tabs := fun b h ps e => ⟨#[], by rw [hb.extBut b _ (fun q => Nat.lt_irrefl _ (Nat.lt_of_lt_of_le (ht b h) (q ▸ hN))) e]; simp⟩
  size := Nat.le_of_eq hb.1.symm
  ρ := fun _ _ e => e
  ρn := fun _ _ e => .inl e
  P := fun _ e => e
  Pn := fun _ e => .inl e
  os := ho
  drawn := hd
  gens := fun q => hg ▸ q
theorem Rel.own {a : Addr} (r : Rel C g σ fm fa loc s) (ha : a ∈ fa) (hb : Heap.SameBut a s.heap s'.heap) {loc' : Loc}
    (hns : ∃ m, s'.heap.Ns fm.env.locals m) (hcell : ∀ x c, fm.env.cells.lookup x = some c → ∃ v, s'.heap.IsCell c v)
    (hv : ∀ x v, loc' x = some v → ∃ u, Holds fm.env s'.heap x u ∧ VR C g s.heap v u) : Rel C g σ fm fa loc' s' := by
  have hs : s'.heap.objs.size = s.heap.objs.size := hb.1
  have k : ∀ b o, b ≠ a → s.heap.get? b = some o → s'.heap.get? b = some o := fun b o h e => hb.extBut b o h e
  obtain ⟨ha0, ha1, ha2, ha3⟩ := r.fr.fa a ha
  have e : Ge g g s.heap s'.heap := ⟨fun _ _ e => e, fun _ e => e, fun b o hp e => k b o (fun q => ha2 (q ▸ hp)) e⟩
  have hlo : ∀ b, b < C.N0 → b ≠ a := fun b h q => Nat.lt_irrefl _ (Nat.lt_of_lt_of_le h (q ▸ ha0))
  refine ⟨⟨r.gr.lo, fun p hp => ⟨(r.gr.K p hp).1, (r.gr.K p hp).2.1, k _ _ (hlo _ (r.gr.K p hp).1) (r.gr.K p hp).2.2⟩, r.gr.lim.extBut hb.extBut (hlo _ ?_), hs ▸ r.gr.size, fun m o' h => ?_, r.gr.inj, fun m b h => ?_, fun b h => ?_, fun b h => ?_, r.gr.dom⟩,
    ⟨r.fr.fn, r.fr.glob, r.fr.bi, hns, r.fr.L, fun x v h => ?_, fun x c h => ?_, r.fr.own, r.fr.inj, fun b h => ?_, r.fr.has⟩⟩
  · exact Nat.lt_of_lt_of_le (by decide) r.gr.lo
  · obtain ⟨b, hb', hob⟩ := r.gr.heap m o' h
    exact ⟨b, hb', hob.mono e fun _ e' => k _ _ (fun q => ha3 m (q ▸ hb')) e'⟩
  · rw [hs]; exact r.gr.live m b h
  · rw [hs]; exact r.gr.P b h
  · obtain ⟨x, vs, e', t⟩ := r.gr.tabs b h; exact ⟨x, vs, k _ _ (hlo _ x) e', t.mono e⟩
  · obtain ⟨u, hu, hv⟩ := hv x v h
    exact ⟨u, hu, hv.mono e⟩
  · exact ⟨hcell x c h, (r.fr.cells x c h).2⟩
  · rw [hs]; exact r.fr.fa b h
theorem Rel.local {x : Str} {v : MV} {u : Value} (r : Rel C g σ fm fa loc s) (hx : fm.env.kindOf x = some .local) (hv : VR C g s.heap v u)
    {m : Str → Option Value} (hm0 : s.heap.Ns fm.env.locals m) (hm : s'.heap.Ns fm.env.locals (fun y => if y = x then some u else m y)) (hb : Heap.SameBut fm.env.locals s.heap s'.heap) : Rel C g σ fm fa (loc.set x v) s' := by
  refine r.own r.fr.L hb ⟨_, hm⟩ (fun y c h => ?_) fun y w h => ?_
  · obtain ⟨⟨o, ho⟩, q, _⟩ := r.fr.cells y c h; exact ⟨o, ho.sameBut hb q⟩
  · have h' : (if y = x then some v else loc y) = some w := h
    by_cases hy : y = x
    · rw [if_pos hy] at h'; cases h'
      exact ⟨u, .inl ⟨hy ▸ hx, _, hm, by rw [if_pos hy]⟩, hv⟩
    · rw [if_neg hy] at h'
      obtain ⟨z, hz, hzv⟩ := r.fr.var y w h'
      refine ⟨z, ?_, hzv⟩
      rcases hz with ⟨q, m', hm', em⟩ | ⟨q, c, hcc, hce⟩
      · refine .inl ⟨q, _, hm, ?_⟩
        rw [if_neg hy]
        obtain ⟨o, es, ep, ho, hd, _, hf⟩ := hm0
        obtain ⟨o', es', ep', ho', hd', _, hf'⟩ := hm'
        rw [ho] at ho'; cases ho'
        rw [hd] at hd'; cases hd'
        rw [← hf, hf', em]
      · exact .inr ⟨q, c, hcc, hce.sameBut hb (r.fr.cells y c hcc).2.1⟩
theorem Rel.cell {x : Str} {v : MV} {u : Value} {c : Addr} (r : Rel C g σ fm fa loc s) (hx : x ∈ fm.own) (hc : fm.env.cells.lookup x = some c) (hv : VR C g s.heap v u)
    (hm : s'.heap.IsCell c (some u)) (hb : Heap.SameBut c s.heap s'.heap) : Rel C g σ fm fa (loc.set x v) s' := by
  obtain ⟨hk, c', hc', hf⟩ := r.fr.own x hx
  rw [hc] at hc'; cases hc'
  refine r.own hf hb ?_ (fun y d h => ?_) fun y w h => ?_
  · obtain ⟨m, e⟩ := r.fr.ns; exact ⟨m, e.sameBut hb (Ne.symm (r.fr.cells x c hc).2.1)⟩
  · by_cases hd : d = c
    · exact ⟨_, hd ▸ hm⟩
    · obtain ⟨⟨o, ho⟩, _⟩ := r.fr.cells y d h; exact ⟨o, ho.sameBut hb hd⟩
  · have h' : (if y = x then some v else loc y) = some w := h
    by_cases hy : y = x
    · rw [if_pos hy] at h'; cases h'
      exact ⟨u, .inr ⟨.inl (hy ▸ hk), c, hy ▸ hc, hm⟩, hv⟩
    · rw [if_neg hy] at h'
      obtain ⟨z, hz, hzv⟩ := r.fr.var y w h'
      refine ⟨z, ?_, hzv⟩
      rcases hz with ⟨q, m', hm', em⟩ | ⟨q, d, hcc, hce⟩
      · exact .inl ⟨q, _, hm'.sameBut hb (Ne.symm (r.fr.cells x c hc).2.1), em⟩
      · exact .inr ⟨q, d, hcc, hce.sameBut hb fun e => hy (r.fr.inj y x c (e ▸ hcc) hc)⟩
end
end
set_option genInjectivity false
section
noncomputable abbrev NoE : Value → Shared → Prop := fun _ _ => False
section
variable (C : Cx) (A : Around) (fm : Fm)
inductive Post (fa : List Addr) (loc : Loc) (g : Gh) (s : Shared) (Q : MV → Hp → Prop) (v : Value) (s' : Shared) : Prop
  | mk (g' : Gh) (m : MV) (σ' : Hp) (r : Rel C g' σ' fm fa loc s') (hv : VR C g' s'.heap m v) (d : Gd C fa g s g' s') (q : Q m σ')
noncomputable def EvT (t : Sem Value) (loc : Loc) (σ : Hp) (Q : MV → Hp → Prop) : Prop :=
  ∀ fa g s, Rel C g σ fm fa loc s → wpAny (model C.prog C.w) A t (Post C fm fa loc g s Q) NoE s
noncomputable abbrev Ev (e : Expr) (loc : Loc) (σ : Hp) (Q : MV → Hp → Prop) : Prop := EvT C A fm (eval e fm.env) loc σ Q
inductive PostB (fa : List Addr) (loc : Loc) (g : Gh) (s : Shared) (Q : Bool → Hp → Prop) (b : Bool) (s' : Shared) : Prop
  | mk (g' : Gh) (σ' : Hp) (r : Rel C g' σ' fm fa loc s') (d : Gd C fa g s g' s') (q : Q b σ')
noncomputable def TrT (t : Sem Bool) (loc : Loc) (σ : Hp) (Q : Bool → Hp → Prop) : Prop :=
  ∀ fa g s, Rel C g σ fm fa loc s → wpAny (model C.prog C.w) A t (PostB C fm fa loc g s Q) NoE s
noncomputable abbrev Tr (e : Expr) (loc : Loc) (σ : Hp) (Q : Bool → Hp → Prop) : Prop := TrT C A fm (isTrue e fm.env (eval e fm.env)) loc σ Q
inductive Fl where
  | next | brk | cont
  | ret (m : MV)
inductive FlR (C : Cx) (g : Gh) (h : Heap) : Fl → Flow → Prop
  | next : FlR C g h .next .next
  | brk : FlR C g h .brk .brk
  | cont : FlR C g h .cont .cont
  | ret {m : MV} {v : Value} : VR C g h m v → FlR C g h (.ret m) (.ret v)
inductive PostS (fa : List Addr) (g : Gh) (s : Shared) (Q : Fl → Loc → Hp → Prop) (f : Flow) (s' : Shared) : Prop
  | mk (g' : Gh) (fl : Fl) (loc' : Loc) (σ' : Hp) (r : Rel C g' σ' fm fa loc' s') (hf : FlR C g' s'.heap fl f) (d : Gd C fa g s g' s') (q : Q fl loc' σ')
noncomputable def ExT (t : Sem Flow) (loc : Loc) (σ : Hp) (Q : Fl → Loc → Hp → Prop) : Prop :=
  ∀ fa g s, Rel C g σ fm fa loc s → wpAny (model C.prog C.w) A t (PostS C fm fa g s Q) NoE s
noncomputable abbrev Ex (st : Stmt) (loc : Loc) (σ : Hp) (Q : Fl → Loc → Hp → Prop) : Prop := ExT C A fm (exec st fm.env) loc σ Q
noncomputable abbrev Exs (st : List Stmt) (loc : Loc) (σ : Hp) (Q : Fl → Loc → Hp → Prop) : Prop := ExT C A fm (execs st fm.env) loc σ Q
inductive PostU (fa : List Addr) (g : Gh) (s : Shared) (Q : Loc → Hp → Prop) (u : Unit) (s' : Shared) : Prop
  | mk (g' : Gh) (loc' : Loc) (σ' : Hp) (r : Rel C g' σ' fm fa loc' s') (d : Gd C fa g s g' s') (q : Q loc' σ')
noncomputable def StT (t : Value → Sem Unit) (m : MV) (loc : Loc) (σ : Hp) (Q : Loc → Hp → Prop) : Prop :=
  ∀ fa g s v, Rel C g σ fm fa loc s → VR C g s.heap m v → wpAny (model C.prog C.w) A (t v) (PostU C fm fa g s Q) NoE s
inductive PostF (g : Gh) (s : Shared) (Q : MV → Hp → Prop) (r : Except Value Flow) (s' : Shared) : Prop
  | mk (v : Value) (g' : Gh) (m : MV) (σ' : Hp) (e : r = .ok (.ret v)) (r' : GR C g' σ' s') (hv : VR C g' s'.heap m v) (d : Gd C [] g s g' s') (q : Q m σ')
noncomputable def Fn (f : Value) (ms : List MV) (σ : Hp) (Q : MV → Hp → Prop) : Prop :=
  ∀ g s vs, GR C g σ s → VRs C g s.heap ms vs → codeAny (model C.prog C.w) A (.call f ⟨vs, []⟩) (PostF C g s Q) s
end
section
variable {C : Cx} {A : Around} {fm : Fm} {fa : List Addr} {loc : Loc} {σ : Hp} {g : Gh} {s : Shared} {Q Q' : MV → Hp → Prop}
theorem Post.trans {g₁ : Gh} {s₁ s' : Shared} {v : Value} (d : Gd C fa g s g₁ s₁) : Post C fm fa loc g₁ s₁ Q v s' → Post C fm fa loc g s Q v s' :=
  fun x => Post.casesOn x fun g' m σ' r hv d' q => ⟨g', m, σ', r, hv, d.trans d', q⟩
theorem PostB.trans {g₁ : Gh} {s₁ s' : Shared} {b : Bool} {Q : Bool → Hp → Prop} (d : Gd C fa g s g₁ s₁) : PostB C fm fa loc g₁ s₁ Q b s' → PostB C fm fa loc g s Q b s' :=
  fun x => PostB.casesOn x fun g' σ' r d' q => ⟨g', σ', r, d.trans d', q⟩
theorem PostS.trans {g₁ : Gh} {s₁ s' : Shared} {f : Flow} {Q : Fl → Loc → Hp → Prop} (d : Gd C fa g s g₁ s₁) : PostS C fm fa g₁ s₁ Q f s' → PostS C fm fa g s Q f s' :=
  fun x => PostS.casesOn x fun g' fl l' σ' r hv d' q => ⟨g', fl, l', σ', r, hv, d.trans d', q⟩
theorem PostU.trans {g₁ : Gh} {s₁ s' : Shared} {u : Unit} {Q : Loc → Hp → Prop} (d : Gd C fa g s g₁ s₁) : PostU C fm fa g₁ s₁ Q u s' → PostU C fm fa g s Q u s' :=
  fun x => PostU.casesOn x fun g' l' σ' r d' q => ⟨g', l', σ', r, d.trans d', q⟩
theorem EvT.mono {t : Sem Value} (h : EvT C A fm t loc σ Q) (k : ∀ m σ', Q m σ' → Q' m σ') : EvT C A fm t loc σ Q' :=
  fun fa g s r => wpAny_mono (h fa g s r) (fun _ _ x => Post.casesOn x fun g' m σ' r' hv d q => ⟨g', m, σ', r', hv, d, k _ _ q⟩) fun _ _ e => e
theorem ExT.mono {t : Sem Flow} {Q Q' : Fl → Loc → Hp → Prop} (h : ExT C A fm t loc σ Q) (k : ∀ f l σ', Q f l σ' → Q' f l σ') : ExT C A fm t loc σ Q' :=
  fun fa g s r => wpAny_mono (h fa g s r) (fun _ _ x => PostS.casesOn x fun g' m l σ' r' hv d q => ⟨g', m, l, σ', r', hv, d, k _ _ _ q⟩) fun _ _ e => e
theorem TrT.mono {t : Sem Bool} {Q Q' : Bool → Hp → Prop} (h : TrT C A fm t loc σ Q) (k : ∀ m σ', Q m σ' → Q' m σ') : TrT C A fm t loc σ Q' :=
  fun fa g s r => wpAny_mono (h fa g s r) (fun _ _ x => PostB.casesOn x fun g' σ' r' d q => ⟨g', σ', r', d, k _ _ q⟩) fun _ _ e => e
theorem Post.now {m : MV} {v : Value} (r : Rel C g σ fm fa loc s) (hv : VR C g s.heap m v) (q : Q m σ) : Post C fm fa loc g s Q v s := ⟨g, m, σ, r, hv, .refl .., q⟩
theorem Post.tok {m : MV} {v : Value} {t : Nat} (r : Rel C g σ fm fa loc s) (hv : VR C g s.heap m v) (q : Q m σ) : Post C fm fa loc g s Q v { s with toks := t } :=
  ⟨g, m, σ, r.toks t, hv, .toks t, q⟩
theorem ev_int {i : Int} {k : Nat} {pos : Pos} (q : Q (.int i) σ) : Ev C A fm (.Constant (.int i) k pos) loc σ Q := fun fa g s r => wpAny_Constant_int (.tok r (.int ..) q)
theorem ev_str {x : Str} {k : Nat} {pos : Pos} (q : Q (.str x) σ) : Ev C A fm (.Constant (.str x) k pos) loc σ Q := fun fa g s r => wpAny_Constant_str (.tok r (.str ..) q)
theorem ev_none {k : Nat} {pos : Pos} (q : Q .none σ) : Ev C A fm (.Constant .none k pos) loc σ Q := fun fa g s r => wpAny_Constant_none (.now r .none q)
theorem Holds.load {x : Str} {u : Value} {E : Value → Shared → Prop} {R : Value → Shared → Prop} (hk : fm.env.scope.kind = .function) (h : Holds fm.env s.heap x u) (q : R u s)
    (hn : (x == ("__classdict__" : Str)) = false := by decide) : wpAny (model C.prog C.w) A (loadName fm.env x) R E s := by
  rcases h with ⟨a, m, hm, e⟩ | ⟨a | a, c, hc, e⟩
  · exact wpAny_loadName_local hk a hm e q
  · exact wpAny_loadName_cell hk a hc e q
  · exact wpAny_loadName_free hk a hc e q hn
theorem ev_name {x : Str} {pos : Pos} {m : MV} (hx : loc x = some m) (q : Q m σ) (hd : (x == ("__debug__" : Str)) = false := by decide) (hn : (x == ("__classdict__" : Str)) = false := by decide) :
    Ev C A fm (.Name x pos) loc σ Q := fun fa g s r => by
  obtain ⟨u, hu, hv⟩ := r.fr.var x m hx
  exact wpAny_Name (hu.load r.fr.fn (.now r hv q) hn) hd
theorem mem_lookup {α : Type} {l : List (Addr × α)} {a : Addr} {o : α} (e : l.lookup a = some o) : (a, o) ∈ l := by
  induction l with
  | nil => exact nomatch e
  | cons p l ih =>
    rw [List.lookup_cons] at e
    cases hb : a == p.1 with
    | true => rw [hb] at e; rw [beq_iff_eq.mp hb, ← Option.some.inj e]; exact .head _
    | false => rw [hb] at e; exact .tail _ (ih e)
theorem GR.KIn (r : GR C g σ s) : C.K.In s.heap := fun a o e => (r.K _ (mem_lookup e)).2.2
theorem ev_glob {x : Str} {pos : Pos} {v : Value} (hx : fm.env.kindOf x = some .globalImplicit) (e : nsIn C.K mainGlobals x = some (some v)) (q : Q (.val v) σ) (hd : (x == ("__debug__" : Str)) = false := by decide) :
    Ev C A fm (.Name x pos) loc σ Q := fun fa g s r => by
  refine Calls.Name_function_global r.fr.fn hx ?_ hd
  unfold loadGlobal
  rw [r.fr.glob]
  refine wpAny_bind (looks_nsIn r.gr.KIn e _ _ _ _ (fun _ _ e => e) ?_)
  exact wpAny_pure (.now r (.val v) q)
theorem ev_bi {x : Str} {pos : Pos} {v : Value} (hx : fm.env.kindOf x = some .globalImplicit) (e : nsIn C.K mainGlobals x = some none) (e' : nsIn C.K builtinsNs x = some (some v)) (q : Q (.val v) σ) (hd : (x == ("__debug__" : Str)) = false := by decide) :
    Ev C A fm (.Name x pos) loc σ Q := fun fa g s r => by
  refine Calls.Name_function_global r.fr.fn hx ?_ hd
  unfold loadGlobal
  rw [r.fr.glob]
  refine wpAny_bind (looks_nsIn r.gr.KIn e _ _ _ _ (fun _ _ e => e) ?_)
  rw [r.fr.bi]
  refine wpAny_bind (looks_nsIn r.gr.KIn e' _ _ _ _ (fun _ _ e => e) ?_)
  exact wpAny_pure (.now r (.val v) q)
noncomputable def Op1 (C : Cx) (A : Around) (fm : Fm) (f : Value → Sem Value) (a : MV) (loc : Loc) (σ : Hp) (Q : MV → Hp → Prop) : Prop :=
  ∀ fa g s x, Rel C g σ fm fa loc s → VR C g s.heap a x → wpAny (model C.prog C.w) A (f x) (Post C fm fa loc g s Q) NoE s
noncomputable def Op2 (C : Cx) (A : Around) (fm : Fm) (f : Value → Value → Sem Value) (a b : MV) (loc : Loc) (σ : Hp) (Q : MV → Hp → Prop) : Prop :=
  ∀ fa g s x y, Rel C g σ fm fa loc s → VR C g s.heap a x → VR C g s.heap b y → wpAny (model C.prog C.w) A (f x y) (Post C fm fa loc g s Q) NoE s
theorem two {f : Value → Value → Sem Value} {t u : Sem Value} (h : EvT C A fm t loc σ fun a σ₁ => EvT C A fm u loc σ₁ fun b σ₂ => Op2 C A fm f a b loc σ₂ Q) (fa : List Addr) (g : Gh) (s : Shared) (r : Rel C g σ fm fa loc s) :
    wpAny (model C.prog C.w) A t (fun x s₁ => wpAny (model C.prog C.w) A u (fun y s₂ => wpAny (model C.prog C.w) A (f x y) (Post C fm fa loc g s Q) NoE s₂) NoE s₁) NoE s := by
  refine wpAny_mono (h fa g s r) ?_ fun _ _ e => e
  rintro x s₁ ⟨g₁, a, σ₁, r₁, hx, d₁, h₁⟩
  refine wpAny_mono (h₁ fa g₁ s₁ r₁) ?_ fun _ _ e => e
  rintro y s₂ ⟨g₂, b, σ₂, r₂, hy, d₂, h₂⟩
  exact wpAny_mono (h₂ fa g₂ s₂ x y r₂ (hx.mono (r₁.ge d₂)) hy) (fun _ _ p => p.trans (d₁.trans d₂)) fun _ _ e => e
theorem one {f : Value → Sem Value} {t : Sem Value} (h : EvT C A fm t loc σ fun a σ₁ => Op1 C A fm f a loc σ₁ Q) (fa : List Addr) (g : Gh) (s : Shared) (r : Rel C g σ fm fa loc s) :
    wpAny (model C.prog C.w) A t (fun x s₁ => wpAny (model C.prog C.w) A (f x) (Post C fm fa loc g s Q) NoE s₁) NoE s := by
  refine wpAny_mono (h fa g s r) ?_ fun _ _ e => e
  rintro x s₁ ⟨g₁, a, σ₁, r₁, hx, d₁, h₁⟩
  exact wpAny_mono (h₁ fa g₁ s₁ x r₁ hx) (fun _ _ p => p.trans d₁) fun _ _ e => e
theorem ev_binop {l r : Expr} {op : Operator} {pos : Pos} (h : Ev C A fm l loc σ fun a σ₁ => Ev C A fm r loc σ₁ fun b σ₂ => Op2 C A fm (binaryOp op) a b loc σ₂ Q) : Ev C A fm (.BinOp l op r pos) loc σ Q :=
  fun fa g s r => wpAny_BinOp (two h fa g s r)
theorem ev_unop {x : Expr} {op : UnaryOp} {pos : Pos} (h : Ev C A fm x loc σ fun a σ₁ => Op1 C A fm (unaryOp op) a loc σ₁ Q) : Ev C A fm (.UnaryOp op x pos) loc σ Q :=
  fun fa g s r => wpAny_UnaryOp (one h fa g s r)
theorem ev_cmp {l r : Expr} {op : CmpOp} {pos : Pos} (h : Ev C A fm l loc σ fun a σ₁ => Ev C A fm r loc σ₁ fun b σ₂ => Op2 C A fm (compareOp op) a b loc σ₂ Q) (hm : behindInMarks op r = false := by with_unfolding_all rfl) : Ev C A fm (.Compare l [op] [r] pos) loc σ Q :=
  fun fa g s r => wpAny_Compare1 (two h fa g s r) hm
section
variable {i j : Int}
theorem op_int {f : Value → Value → Sem Value} (h : ∀ fa g s t u, Rel C g σ fm fa loc s → wpAny (model C.prog C.w) A (f (.int i t) (.int j u)) (Post C fm fa loc g s Q) NoE s) : Op2 C A fm f (.int i) (.int j) loc σ Q := fun fa g s x y r hx hy => by
  obtain ⟨t, rfl⟩ := hx.inv
  obtain ⟨u, rfl⟩ := hy.inv
  exact h fa g s t u r
theorem op_add (q : Q (.int (i + j)) σ) : Op2 C A fm (binaryOp .Add) (.int i) (.int j) loc σ Q := op_int fun fa g s _ _ r => add_int (.tok r (.int ..) q)
theorem op_sub (q : Q (.int (i - j)) σ) : Op2 C A fm (binaryOp .Sub) (.int i) (.int j) loc σ Q := op_int fun fa g s _ _ r => sub_int (.tok r (.int ..) q)
theorem op_mul (q : Q (.int (i * j)) σ) (hm : IntMulOk i j := by mul_fits) : Op2 C A fm (binaryOp .Mult) (.int i) (.int j) loc σ Q := op_int fun fa g s _ _ r => mul_int (.tok r (.int ..) q) hm
theorem op_mod (hj : 0 < j) (q : Q (.int (i % j)) σ) : Op2 C A fm (binaryOp .Mod) (.int i) (.int j) loc σ Q := op_int fun fa g s _ _ r => by
  refine mod_int' (Int.ne_of_gt hj) ?_
  rw [Int.fmod_eq_emod_of_nonneg _ (Int.le_of_lt hj)]
  exact .tok r (.int ..) q
end
end
end
section
section
variable {C : Cx} {A : Around} {fm : Fm} {fa : List Addr} {loc : Loc} {σ : Hp} {g : Gh} {s : Shared} {Q Q' : MV → Hp → Prop} {QB : Bool → Hp → Prop} {QS : Fl → Loc → Hp → Prop}
noncomputable def Tru (C : Cx) (A : Around) (fm : Fm) (m : MV) (loc : Loc) (σ : Hp) (Q : Bool → Hp → Prop) : Prop :=
  ∀ fa g s x, Rel C g σ fm fa loc s → VR C g s.heap m x → wpAny (model C.prog C.w) A (truthy x) (PostB C fm fa loc g s Q) NoE s
theorem PostB.now {b : Bool} (r : Rel C g σ fm fa loc s) (q : QB b σ) : PostB C fm fa loc g s QB b s := ⟨g, σ, r, .refl .., q⟩
theorem tru_bool {b : Bool} (q : QB b σ) : Tru C A fm (.bool b) loc σ QB := fun fa g s x r hx => by obtain rfl := hx.inv; exact wpAny_truthy_bool (.now r q)
theorem tru_int {i : Int} (q : QB (i != 0) σ) : Tru C A fm (.int i) loc σ QB := fun fa g s x r hx => by obtain ⟨_, rfl⟩ := hx.inv; exact truthy_int (.now r q)
theorem tr_cmp {l r : Expr} {op : CmpOp} {pos : Pos} (h : Ev C A fm l loc σ fun a σ₁ => Ev C A fm r loc σ₁ fun b σ₂ => Op2 C A fm (compareOp op) a b loc σ₂ fun m σ₃ => ∃ b, m = .bool b ∧ QB b σ₃)
    (hm : behindInMarks op r = false := by with_unfolding_all rfl) : Tr C A fm (.Compare l [op] [r] pos) loc σ QB := fun fa g s rr => by
  refine wpAny_isTrue_Compare1 (wpAny_mono (two h fa g s rr) (fun x s₁ h₁ => wpAny_mono h₁ (fun y s₂ h₂ => wpAny_mono h₂ ?_ fun _ _ e => e) fun _ _ e => e) fun _ _ e => e) hm
  rintro c s₃ ⟨g', m, σ', r', hv, d, b, rfl, q⟩
  obtain rfl := hv.inv
  exact wpAny_truthy_bool ⟨g', σ', r', d, q⟩
theorem tr_val {e : Expr} (h : Ev C A fm e loc σ fun m σ₁ => Tru C A fm m loc σ₁ QB) (he : isTrue e fm.env (eval e fm.env) = (do let v ← eval e fm.env; standAt e.pos; holding [v] (truthy v)) := by rfl) : Tr C A fm e loc σ QB := fun fa g s r => by
  refine wpAny_isTrue_value (wpAny_mono (h fa g s r) ?_ fun _ _ e => e) he
  rintro x s₁ ⟨g', m, σ', r', hv, d, q⟩
  exact wpAny_mono (q fa g' s₁ x r' hv) (fun _ _ p => p.trans d) fun _ _ e => e
theorem tr_not {x : Expr} {pos : Pos} (h : Tr C A fm x loc σ fun b σ₁ => QB (!b) σ₁) : Tr C A fm (.UnaryOp .Not x pos) loc σ QB := fun fa g s r =>
  wpAny_isTrue_Not (wpAny_mono (h fa g s r) (fun _ _ ⟨g', σ', r', d, q⟩ => ⟨g', σ', r', d, q⟩) fun _ _ e => e)
theorem tr_and {es : List Expr} {pos : Pos} (h : TrT C A fm (allTrue .And es fm.env) loc σ QB) : Tr C A fm (.BoolOp .And es pos) loc σ QB := fun fa g s r => wpAny_isTrue_BoolOp (h fa g s r)
theorem tr_or {es : List Expr} {pos : Pos} (h : TrT C A fm (allTrue .Or es fm.env) loc σ QB) : Tr C A fm (.BoolOp .Or es pos) loc σ QB := fun fa g s r => wpAny_isTrue_BoolOp (h fa g s r)
theorem and_nil (q : QB true σ) : TrT C A fm (allTrue .And [] fm.env) loc σ QB := fun fa g s r => wpAny_allTrue_And_nil (.now r q)
theorem or_nil (q : QB false σ) : TrT C A fm (allTrue .Or [] fm.env) loc σ QB := fun fa g s r => wpAny_allTrue_Or_nil (.now r q)
theorem and_cons {x : Expr} {es : List Expr} (h : Tr C A fm x loc σ fun b σ₁ => if b then TrT C A fm (allTrue .And es fm.env) loc σ₁ QB else QB false σ₁) : TrT C A fm (allTrue .And (x :: es) fm.env) loc σ QB := fun fa g s r => by
  refine wpAny_allTrue_And_cons (wpAny_mono (h fa g s r) ?_ fun _ _ e => e)
  rintro b s₁ ⟨g', σ', r', d, q⟩
  cases b
  · exact ⟨g', σ', r', d, q⟩
  · exact wpAny_mono (q fa g' s₁ r') (fun _ _ p => p.trans d) fun _ _ e => e
theorem or_cons {x : Expr} {es : List Expr} (h : Tr C A fm x loc σ fun b σ₁ => if b then QB true σ₁ else TrT C A fm (allTrue .Or es fm.env) loc σ₁ QB) : TrT C A fm (allTrue .Or (x :: es) fm.env) loc σ QB := fun fa g s r => by
  refine wpAny_allTrue_Or_cons (wpAny_mono (h fa g s r) ?_ fun _ _ e => e)
  rintro b s₁ ⟨g', σ', r', d, q⟩
  cases b
  · exact wpAny_mono (q fa g' s₁ r') (fun _ _ p => p.trans d) fun _ _ e => e
  · exact ⟨g', σ', r', d, q⟩
theorem ev_if {test body orelse : Expr} {pos : Pos} (h : Tr C A fm test loc σ fun b σ₁ => if b then Ev C A fm body loc σ₁ Q else Ev C A fm orelse loc σ₁ Q) : Ev C A fm (.IfExp test body orelse pos) loc σ Q := fun fa g s r => by
  refine wpAny_IfExp (wpAny_mono (h fa g s r) ?_ fun _ _ e => e)
  rintro b s₁ ⟨g', σ', r', d, q⟩
  cases b
  · exact wpAny_mono (q fa g' s₁ r') (fun _ _ p => p.trans d) fun _ _ e => e
  · exact wpAny_mono (q fa g' s₁ r') (fun _ _ p => p.trans d) fun _ _ e => e
theorem PostS.now {fl : Fl} {f : Flow} (r : Rel C g σ fm fa loc s) (hf : FlR C g s.heap fl f) (q : QS fl loc σ) : PostS C fm fa g s QS f s := ⟨g, fl, loc, σ, r, hf, .refl .., q⟩
theorem ex_cont {pos : Pos} (q : QS .cont loc σ) : Ex C A fm (.Continue pos) loc σ QS := fun fa g s r => wpAny_Continue (.now r .cont q)
theorem exs_nil (q : QS .next loc σ) : Exs C A fm [] loc σ QS := fun fa g s r => wpAny_execs_nil (.now r .next q)
noncomputable def Via (QS K : Fl → Loc → Hp → Prop) : Prop := ∀ f l σ, QS f l σ → K f l σ
theorem Via.id : Via QS QS := fun _ _ _ h => h
theorem via_go {K : Fl → Loc → Hp → Prop} {f : Fl} (k : Via QS K) (h : QS f loc σ) : K f loc σ := k _ _ _ h
noncomputable def Then (C : Cx) (A : Around) (fm : Fm) (rest : List Stmt) (QS : Fl → Loc → Hp → Prop) : Fl → Loc → Hp → Prop
  | .next, l, σ => Exs C A fm rest l σ QS
  | f, l, σ => QS f l σ
theorem exs_cons {st : Stmt} {rest : List Stmt} (h : Ex C A fm st loc σ (Then C A fm rest QS)) : Exs C A fm (st :: rest) loc σ QS := fun fa g s r => by
  refine wpAny_execs_cons (wpAny_mono (h fa g s r) ?_ fun _ _ e => e)
  rintro f s₁ ⟨g', fl, l', σ', r', hf, d, q⟩
  cases hf with
  | next => exact wpAny_mono (q fa g' s₁ r') (fun _ _ p => p.trans d) fun _ _ e => e
  | brk => exact ⟨g', .brk, l', σ', r', .brk, d, q⟩
  | cont => exact ⟨g', .cont, l', σ', r', .cont, d, q⟩
  | ret hv => exact ⟨g', _, l', σ', r', .ret hv, d, q⟩
theorem ex_ret {e : Expr} {pos : Pos} (h : Ev C A fm e loc σ fun m σ₁ => QS (.ret m) loc σ₁) : Ex C A fm (.Return (some e) pos) loc σ QS := fun fa g s r =>
  wpAny_Return_some (wpAny_mono (h fa g s r) (fun _ _ ⟨g', m, σ', r', hv, d, q⟩ => ⟨g', .ret m, loc, σ', r', .ret hv, d, q⟩) fun _ _ e => e)
theorem ex_if {test : Expr} {body orelse : List Stmt} {pos : Pos} (h : Tr C A fm test loc σ fun b σ₁ => if b then Exs C A fm body loc σ₁ QS else Exs C A fm orelse loc σ₁ QS) : Ex C A fm (.If test body orelse pos) loc σ QS := fun fa g s r => by
  refine wpAny_If (wpAny_mono (h fa g s r) ?_ fun _ _ e => e)
  rintro b s₁ ⟨g', σ', r', d, q⟩
  cases b
  · exact wpAny_mono (q fa g' s₁ r') (fun _ _ p => p.trans d) fun _ _ e => e
  · exact wpAny_mono (q fa g' s₁ r') (fun _ _ p => p.trans d) fun _ _ e => e
theorem ex_while {test : Expr} {body orelse : List Stmt} {pos : Pos} (I : Nat → Loc → Hp → Prop)
    (turn : ∀ n loc σ, I n loc σ → Tr C A fm test loc σ fun b σ₁ => if b then Exs C A fm body loc σ₁ fun f l σ₂ => (match f with
        | .next | .cont => ∃ m, m < n ∧ I m l σ₂
        | .brk => QS .next l σ₂
        | .ret v => QS (.ret v) l σ₂) else Exs C A fm orelse loc σ₁ QS)
    (n : Nat) (h : I n loc σ) : Ex C A fm (.While test body orelse pos) loc σ QS := fun fa g s r => by
  refine wpAny_While (codeAny_whileLoop (fun n s' => ∃ g' l' σ', Rel C g' σ' fm fa l' s' ∧ Gd C fa g s g' s' ∧ I n l' σ') (fun n s' hI => ?_) n ⟨g, loc, σ, r, .refl .., h⟩)
  refine via_p fun P kP => ?_
  obtain ⟨g', l', σ', r', d, hI⟩ := hI
  refine kP ?_
  clear kP P
  refine wpAny_mono (turn n l' σ' hI fa g' s' r') ?_ fun _ _ e => e.elim
  rintro b s₁ hX2
  refine via_p fun P kP => ?_
  obtain ⟨g₁, σ₁, r₁, d₁, q⟩ := hX2
  refine kP ?_
  clear kP P
  cases b
  · exact wpAny_mono (q fa g₁ s₁ r₁) (fun f s₂ p => p.trans (d.trans d₁)) fun _ _ e => e.elim
  · refine wpAny_mono (q fa g₁ s₁ r₁) ?_ fun _ _ e => e.elim
    rintro f s₂ hX2
    refine via_p fun P kP => ?_
    obtain ⟨g₂, fl, l₂, σ₂, r₂, hf, d₂, q₂⟩ := hX2
    refine kP ?_
    clear kP P
    have d' := d.trans (d₁.trans d₂)
    cases hf with
    | next => obtain ⟨m, hm, hi⟩ := q₂; exact ⟨m, hm, g₂, l₂, σ₂, r₂, d', hi⟩
    | cont => obtain ⟨m, hm, hi⟩ := q₂; exact ⟨m, hm, g₂, l₂, σ₂, r₂, d', hi⟩
    | brk => exact ⟨g₂, .next, l₂, σ₂, r₂, .next, d', q₂⟩
    | ret hv => exact ⟨g₂, _, l₂, σ₂, r₂, .ret hv, d', q₂⟩
theorem store_name {x : Str} {m : MV} {v : Value} {R : Unit → Shared → Prop} (r : Rel C g σ fm fa loc s) (hv : VR C g s.heap m v) (hx : fm.env.kindOf x = some .local ∨ x ∈ fm.own)
    (h : ∀ s', Rel C g σ fm fa (loc.set x m) s' → Gd C fa g s g s' → R () s') : wpAny (model C.prog C.w) A (storeName fm.env x v) R NoE s := by
  have ht : ∀ b ∈ C.tabs, b < C.N0 := fun b hb => (r.gr.tabs b hb).1
  rcases hx with hx | hx
  · obtain ⟨mm, hm⟩ := r.fr.ns
    refine wpAny_storeName_local hx hm (fun h' hn hb => h _ ?_ ?_) (by rw [r.fr.fn]; rfl)
    · exact r.local hx hv hm hn hb
    · exact .own r.fr.L (r.fr.fa _ r.fr.L).1 ht hb rfl rfl rfl
  · obtain ⟨hk, c, hc, hf⟩ := r.fr.own x hx
    obtain ⟨⟨v0, hv0⟩, _⟩ := r.fr.cells x c hc
    refine wpAny_storeName_cell r.fr.fn hk hc hv0 fun h' hm hb => h _ ?_ ?_
    · exact r.cell hx hc hv hm hb
    · exact .own hf (r.fr.fa c hf).1 ht hb rfl rfl rfl
noncomputable def canSt (fm : Fm) (x : Str) : Prop := fm.env.kindOf x = some .local ∨ x ∈ fm.own
theorem ex_assign {x : Str} {p pos : Pos} {e : Expr} (h : Ev C A fm e loc σ fun m σ₁ => QS .next (loc.set x m) σ₁) (hx : canSt fm x) (hs : swapsWith e (some (.Name x p)) pos.line fm.env = pure false := by rfl) :
    Ex C A fm (.Assign [.Name x p] e pos) loc σ QS := fun fa g s r => by
  refine wpAny_Assign_Name (wpAny_mono (h fa g s r) ?_ fun _ _ e => e) hs
  rintro v s₁ ⟨g', m, σ', r', hv, d, q⟩
  exact store_name r' hv hx fun s₂ r₂ d₂ => ⟨g', .next, _, σ', r₂, .next, d.trans d₂, q⟩
theorem ex_aug {x : Str} {p pos : Pos} {e : Expr} {op : Operator} {m : MV} (hm : loc x = some m) (h : Ev C A fm e loc σ fun n σ₁ => Op2 C A fm (inplaceOp op) m n loc σ₁ fun k σ₂ => QS .next (loc.set x k) σ₂) (hx : canSt fm x)
    (hn : (x == ("__classdict__" : Str)) = false := by decide) : Ex C A fm (.AugAssign (.Name x p) op e pos) loc σ QS := fun fa g s r => by
  refine wpAny_AugAssign_Name ?_
  obtain ⟨u, hu, hv⟩ := r.fr.var x m hm
  refine hu.load r.fr.fn ?_ hn
  refine wpAny_mono (h fa g s r) ?_ fun _ _ e => e
  rintro v s₁ ⟨g', n, σ', r', hv', d, q⟩
  refine wpAny_mono (q fa g' s₁ u v r' (hv.mono (r.ge d)) hv') ?_ fun _ _ e => e
  rintro w s₂ ⟨g₂, k, σ₂, r₂, hw, d₂, q₂⟩
  exact store_name r₂ hw hx fun s₃ r₃ d₃ => ⟨g₂, .next, _, σ₂, r₃, .next, (d.trans d₂).trans d₃, q₂⟩
theorem ex_expr {e : Expr} {pos : Pos} (h : Ev C A fm e loc σ fun m σ₁ => QS .next loc σ₁) (hi : interactive fm.env = false) (hs : swapsWith e none pos.line fm.env = pure false := by rfl) :
    Ex C A fm (.Expr e pos) loc σ QS := fun fa g s r =>
  wpAny_Expr_any (wpAny_mono (h fa g s r) (fun _ _ ⟨g', m, σ', r', hv, d, q⟩ => ⟨g', .next, loc, σ', r', .next, d, q⟩) fun _ _ e => e) hi hs
end
end
section
section
variable {C : Cx} {A : Around} {fm : Fm} {fa : List Addr} {loc : Loc} {σ : Hp} {g : Gh} {s : Shared} {Q Q' : MV → Hp → Prop} {QB : Bool → Hp → Prop} {QS : Fl → Loc → Hp → Prop}
inductive PostL (C : Cx) (fm : Fm) (fa : List Addr) (loc : Loc) (g : Gh) (s : Shared) (Q : List MV → Hp → Prop) (vs : List Value) (s' : Shared) : Prop
  | mk (g' : Gh) (ms : List MV) (σ' : Hp) (r : Rel C g' σ' fm fa loc s') (hv : VRs C g' s'.heap ms vs) (d : Gd C fa g s g' s') (q : Q ms σ')
noncomputable def EvL (C : Cx) (A : Around) (fm : Fm) : List Expr → Loc → Hp → (List MV → Hp → Prop) → Prop
  | [], _, σ, Q => Q [] σ
  | e :: es, loc, σ, Q => Ev C A fm e loc σ fun m σ₁ => EvL C A fm es loc σ₁ fun ms σ₂ => Q (m :: ms) σ₂
theorem starEach_plain {env : Env} {es : List Expr} (h : (starEach es env).all (fun p => !p.1) = true) : starEach es env = es.map fun e => (false, eval e env) := by
  induction es with
  | nil => rfl
  | cons e es ih =>
    cases e
    case Starred => exact nomatch h
    all_goals exact congrArg ((false, _) :: ·) (ih h)
theorem EvL.run {pos : Pos} {es : List Expr} : ∀ {σ : Hp} {Q : List MV → Hp → Prop}, EvL C A fm es loc σ Q → ∀ fa g s, Rel C g σ fm fa loc s →
    wpAny (model C.prog C.w) A (spliced (backTo pos (es.map fun e => (false, eval e fm.env)))) (PostL C fm fa loc g s Q) NoE s := by
  induction es with
  | nil => exact fun h fa g s r => Calls.spliced_nil ⟨g, [], _, r, .nil, .refl .., h⟩
  | cons e es ih =>
    intro σ Q h fa g s r
    refine Calls.spliced_cons (wpAny_mono (h fa g s r) ?_ fun _ _ e => e)
    rintro v s₁ ⟨g₁, m, σ₁, r₁, hv, d₁, h₁⟩
    refine wpAny_mono (ih h₁ fa g₁ s₁ r₁) ?_ fun _ _ e => e
    rintro vs s₂ ⟨g₂, ms, σ₂, r₂, hvs, d₂, q⟩
    exact ⟨g₂, m :: ms, σ₂, r₂, .cons (hv.mono (r₁.ge d₂)) hvs, d₁.trans d₂, q⟩
theorem EvL.runS {pos : Pos} {es : List Expr} {Q : List MV → Hp → Prop} (h : EvL C A fm es loc σ Q) (hs : (starEach es fm.env).all (fun p => !p.1) = true) (r : Rel C g σ fm fa loc s) :
    wpAny (model C.prog C.w) A (spliced (backTo pos (starEach es fm.env))) (PostL C fm fa loc g s Q) NoE s := starEach_plain hs ▸ h.run fa g s r
noncomputable def Cal (C : Cx) (A : Around) (fm : Fm) (f : Value) (ms : List MV) (loc : Loc) (σ : Hp) (Q : MV → Hp → Prop) : Prop :=
  ∀ fa g s vs, Rel C g σ fm fa loc s → VRs C g s.heap ms vs → wpAny (model C.prog C.w) A (call f vs []) (Post C fm fa loc g s Q) NoE s
theorem Rel.call {g' : Gh} {σ' : Hp} {s' : Shared} (r : Rel C g σ fm fa loc s) (r' : GR C g' σ' s') (d : Gd C [] g s g' s') : Rel C g' σ' fm fa loc s' := by
  have e : Ge g g' s.heap s'.heap := r.gr.ge d
  have hN : ∀ a, C.N0 ≤ a → a ∉ C.tabs := fun a h ht => Nat.lt_irrefl _ (Nat.lt_of_lt_of_le (r.gr.tabs a ht).1 h)
  have kf : ∀ a ∈ fa, ∀ o, s.heap.get? a = some o → s'.heap.get? a = some o := fun a ha o e => d.keep a o e (r.fr.fa a ha).2.2.2 (fun h => nomatch h) (hN a (r.fr.fa a ha).1)
  have kc : ∀ x c, fm.env.cells.lookup x = some c → ∀ o, s.heap.get? c = some o → s'.heap.get? c = some o := fun x c hc o e =>
    d.keep c o e (r.fr.cells x c hc).2.2.2.1 (fun h => nomatch h) (hN c (r.fr.cells x c hc).2.2.1)
  refine ⟨r', r.fr.fn, r.fr.glob, r.fr.bi, ?_, r.fr.L, fun x v h => ?_, fun x c h => ?_, r.fr.own, r.fr.inj, fun a h => ?_, r.fr.has⟩
  · obtain ⟨m, o, es, ep, ho, q⟩ := r.fr.ns; exact ⟨m, o, es, ep, kf _ r.fr.L _ ho, q⟩
  · obtain ⟨u, hu, hv⟩ := r.fr.var x v h
    refine ⟨u, ?_, hv.mono e⟩
    rcases hu with ⟨q, m, ⟨o, es, ep, ho, q'⟩, em⟩ | ⟨q, c, hc, o, ho, q'⟩
    · exact .inl ⟨q, m, ⟨o, es, ep, kf _ r.fr.L _ ho, q'⟩, em⟩
    · exact .inr ⟨q, c, hc, o, kc x c hc _ ho, q'⟩
  · refine via_p fun P kP => ?_
    obtain ⟨⟨v, o, ho, q'⟩, c1, c2, c3, c5⟩ := r.fr.cells x c h
    refine kP ?_
    clear kP P
    have hl := Heap.lt_size ho
    exact ⟨⟨v, o, kc x c h _ ho, q'⟩, c1, c2, fun n hn => (d.ρn n c hn).elim (c3 n) fun w => Nat.lt_irrefl _ (Nat.lt_of_lt_of_le hl w),
      c5⟩
  · obtain ⟨x, y, z, w⟩ := r.fr.fa a h
    exact ⟨x, Nat.lt_of_lt_of_le y d.size, fun hp => (d.Pn a hp).elim z fun q => Nat.lt_irrefl _ (Nat.lt_of_lt_of_le y q), fun n hn => (d.ρn n a hn).elim (w n) fun q => Nat.lt_irrefl _ (Nat.lt_of_lt_of_le y q)⟩
theorem Gd.weak {g' : Gh} {s' : Shared} {fb : List Addr} (d : Gd C fb g s g' s') (h : ∀ a ∈ fb, a ∈ fa ∨ s.heap.objs.size ≤ a) : Gd C fa g s g' s' :=
  ⟨fun b o e h1 h2 h3 => d.keep b o e h1 (fun hb => (h b hb).elim h2 fun q => Nat.lt_irrefl _ (Nat.lt_of_lt_of_le (Heap.lt_size e) q)) h3, d.tabs, d.size, d.ρ, d.ρn, d.P, d.Pn, d.os, d.drawn, d.gens⟩
theorem cal_fn {f : Value} {ms : List MV} (h : Fn C A f ms σ Q) : Cal C A fm f ms loc σ Q := fun fa g s vs r hv => by
  refine wpAny_call (codeAny_mono (h g s vs r.gr hv) ?_)
  rintro x s' ⟨v, g', m, σ', rfl, r', hm, d, q⟩
  exact ⟨g', m, σ', r.call r' d, hm, d.weak (fun a h => nomatch h), q⟩
theorem EvL.args {f : Value} {pos : Pos} {es : List Expr} {Q : List MV → Hp → Prop} (h : EvL C A fm es loc σ Q) (r : Rel C g σ fm fa loc s) :
    wpAny (model C.prog C.w) A (evalArgs f true (backTo pos (es.map fun e => (false, eval e fm.env))) []) (fun a s' => a.kw = [] ∧ PostL C fm fa loc g s Q a.pos s') NoE s := by
  cases es with
  | nil => exact PySem.evalArgs_none ⟨rfl, g, [], σ, r, .nil, .refl .., h⟩
  | cons e es => exact Calls.evalArgs_plain (wpAny_mono (EvL.run h fa g s r) (fun vs s' p => ⟨rfl, p⟩) fun _ _ e => e)
theorem EvL.argsS {f : Value} {pos : Pos} {es : List Expr} {Q : List MV → Hp → Prop} (h : EvL C A fm es loc σ Q) (hs : (starEach es fm.env).all (fun p => !p.1) = true) (r : Rel C g σ fm fa loc s) :
    wpAny (model C.prog C.w) A (evalArgs f true (backTo pos (starEach es fm.env)) []) (fun a s' => a.kw = [] ∧ PostL C fm fa loc g s Q a.pos s') NoE s := starEach_plain hs ▸ h.args r
theorem star_none {env : Env} {pos : Pos} {es : List Expr} (hs : (starEach es env).all (fun p => !p.1) = true) : (backTo pos (starEach es env)).any (·.1) = false := by
  rw [starEach_plain hs]
  cases es with
  | nil => rfl
  | cons e es => simp [backTo]
inductive Callable (C : Cx) : Value → Prop
  | bi (id : String) : Callable C (.builtin id)
  | ty (n : String) : Callable C (.type n)
  | fn {f : Addr} {o : Obj} {fd : FuncData} : C.K.lookup f = some o → o.data = .func fd → Callable C (.ref f)
  | kp {f : Value} : keepIn C.K f = true → Callable C f
theorem Callable.with {f : Value} (hf : Callable C f) {pos : Pos} {first : List Value} {args : List (Bool × Sem Value)} {R : Value → Shared → Prop} (hp : args.any (·.1) = false)
    (h : wpAny (model C.prog C.w) A (evalArgs f true args []) (fun a s₁ => (∃ g σ, GR C g σ s₁) ∧ wpAny (model C.prog C.w) A (call f (first ++ a.pos) a.kw) R NoE s₁) NoE s) :
    wpAny (model C.prog C.w) A (callWith pos f first args []) R NoE s := by
  cases hf with
  | bi id => exact Calls.callWith_builtin hp (wpAny_mono h (fun _ _ x => x.2) fun _ _ e => e)
  | ty n =>
    unfold callWith
    refine wpAny_bind (wpAny_holding (wpAny_mono h (fun a s₁ h₁ => wpAny_bind (wpAny_standAt ?_)) fun _ _ x => x))
    rw [hp]
    refine wpAny_bind (wpAny_pure ?_)
    exact wpAny_bind (wpAny_mono h₁.2 (fun r s₂ hr => wpAny_bind (wpAny_holding (wpAny_point (wpAny_pure hr)))) fun _ _ x => x)
  | @fn f o fd ho hd =>
    refine Calls.callWith_function (o := o) (fd := fd) (wpAny_mono h ?_ fun _ _ e => e)
    rintro a s₁ ⟨⟨g, σ, r⟩, h₁⟩
    exact ⟨⟨r.KIn _ _ ho, hd⟩, h₁⟩
  | kp hk =>
    refine callWith_of (P := C.K.In) (by simpa using hp) (keeps_K hk) (wpAny_mono h ?_ fun _ _ e => e)
    rintro a s₁ ⟨⟨g, σ, r⟩, h₁⟩
    exact ⟨r.KIn, h₁⟩
theorem ev_call {x : Str} {np pos : Pos} {es : List Expr} (h : Ev C A fm (.Name x np) loc σ fun m σ₁ => ∃ f, m = .val f ∧ Callable C f ∧ EvL C A fm es loc σ₁ fun ms σ₂ => Cal C A fm f ms loc σ₂ Q)
    (hs : (starEach es fm.env).all (fun p => !p.1) = true := by rfl) : Ev C A fm (.Call (.Name x np) es [] pos) loc σ Q := fun fa g s r => by
  refine wpAny_Call_NameR (wpAny_mono (h fa g s r) ?_ fun _ _ e => e)
  rintro v s₁ ⟨g₁, m, σ₁, r₁, hv, d₁, f, rfl, hf, h₁⟩
  obtain rfl := hv.inv
  refine hf.with (star_none hs) (wpAny_mono (h₁.argsS hs r₁) ?_ fun _ _ e => e)
  rintro ⟨ps, kw⟩ s₂ ⟨rfl, g₂, ms, σ₂, r₂, hvs, d₂, q⟩
  refine ⟨⟨g₂, σ₂, r₂.gr⟩, ?_⟩
  exact wpAny_mono (q fa g₂ s₂ ps r₂ hvs) (fun _ _ p => p.trans (d₁.trans d₂)) fun _ _ e => e
end
end
section
noncomputable def envC (scope : Scope) (qual : Str) (code : Value) (f L : Addr) : Env := newEnv scope L mainGlobals (cellsFrom (L + 1) scope.names []) (qual ++ ".<locals>.") (some f) code none builtinsNs
noncomputable def ownOf (scope : Scope) : List Str := (scope.names.filter fun p => p.2 == .cell).map (·.1)
noncomputable def locOf (ps : List Str) (ms : List MV) : Loc := (ps.zip ms).foldl (fun l p => l.set p.1 p.2) fun _ => none
noncomputable def retOf : Fl → MV
  | .ret m => m
  | _ => .none
theorem retOf_ret (m : MV) : retOf (.ret m) = m := rfl
structure FnAt (K : Frag) (f : Addr) (qual : Str) (params : Arguments) (body : List Stmt) (scope : Scope) (code : Value) : Prop where
  ex : ∃ o fd, K.lookup f = some o ∧ o.data = .func fd ∧ fd.qualname = qual ∧ fd.params = params ∧ fd.body = .stmts body ∧ fd.scope = scope ∧ fd.globals = mainGlobals ∧ fd.closure = [] ∧ fd.code = code ∧ fd.builtins = builtinsNs ∧ fd.defaults = .none ∧ fd.kwdefaults = .none
  code : codeIn K code qual = true
theorem lookup_cellsFrom (names : List (Str × NameKind)) (n : Nat) (acc : List (Str × Addr)) (x : Str) (h : (x, NameKind.cell) ∈ names ∨ (acc.lookup x).isSome = true) : ((cellsFrom n names acc).lookup x).isSome = true := by
  induction names generalizing n acc with
  | nil => exact h.elim (fun h => nomatch h) id
  | cons p r ih =>
    obtain ⟨y, k⟩ := p
    unfold cellsFrom
    split
    · rename_i hk
      apply ih
      rcases h with h | h
      · rcases List.mem_cons.mp h with e | h
        · cases e; right; simp
        · exact .inl h
      · right
        rw [List.lookup_cons]
        cases x == y <;> simp [h]
    · rename_i hk
      apply ih
      rcases h with h | h
      · rcases List.mem_cons.mp h with e | h
        · cases e; simp at hk
        · exact .inl h
      · exact .inr h
theorem mem_cellsFrom : ∀ (names : List (Str × NameKind)) (n : Nat) (acc : List (Str × Addr)) (x : Str), ((cellsFrom n names acc).lookup x).isSome = true → (x, NameKind.cell) ∈ names ∨ (acc.lookup x).isSome = true
  | [], _, _, _, h => .inr h
  | (y, k) :: r, n, acc, x, h => by
    unfold cellsFrom at h
    split at h
    · rename_i hk
      have hk' : k = .cell := by simpa using hk
      rcases mem_cellsFrom r _ _ x h with h | h
      · exact .inl (.tail _ h)
      · rw [List.lookup_cons] at h
        cases hb : x == y with
        | true => left; rw [hk', beq_iff_eq.mp hb]; exact .head _
        | false => rw [hb] at h; exact .inr h
    · rcases mem_cellsFrom r _ _ x h with h | h
      · exact .inl (.tail _ h)
      · exact .inr h
section
variable {C : Cx} {A : Around} {σ : Hp} {g : Gh} {s : Shared} {Q : MV → Hp → Prop}
noncomputable def HoldsF (kind : Str → Option NameKind) (m cm : Str → Option Value) (x : Str) (u : Value) : Prop :=
  (kind x = some .local ∧ m x = some u) ∨ (kind x = some .cell ∧ cm x = some u)
theorem bind_holds {kind : Str → Option NameKind} {h : Heap} {ps : List Str} : ∀ {ms : List MV} {vs : List Value} {m cm : Str → Option Value} {loc : Loc}, VRs C g h ms vs →
    (∀ x v, loc x = some v → ∃ u, HoldsF kind m cm x u ∧ VR C g h v u) → (∀ p ∈ ps, kind p = some .local ∨ kind p = some .cell) →
    ∀ x v, ((ps.zip ms).foldl (fun l p => l.set p.1 p.2) loc) x = some v → ∃ u, HoldsF kind (bindL kind (ps.zip vs) m) (bindC kind (ps.zip vs) cm) x u ∧ VR C g h v u := by
  induction ps with
  | nil => exact fun _ h0 _ x v e => h0 x v e
  | cons p ps ih =>
    intro ms vs m cm loc hm h0 hk x v e
    cases ms with
    | nil => obtain rfl : vs = [] := hm.inv; exact h0 x v e
    | cons a ms =>
    obtain ⟨b, vs, rfl, hv, hr⟩ := hm.inv
    simp only [List.zip_cons_cons, List.foldl_cons] at e
    simp only [List.zip_cons_cons, bindL, bindC]
    refine ih hr (fun y w q => ?_) (fun q hq => hk q (.tail _ hq)) x v e
    have q' : (if y = p then some a else loc y) = some w := q
    by_cases hy : y = p
    · rw [if_pos hy] at q'; cases q'
      subst hy
      rcases hk y (.head _) with k | k
      · exact ⟨b, .inl ⟨k, by simp [k]⟩, hv⟩
      · refine ⟨b, .inr ⟨k, ?_⟩, hv⟩
        rw [if_neg (by rw [k]; decide)]; simp
    · rw [if_neg hy] at q'
      obtain ⟨u, hu, hw⟩ := h0 y w q'
      refine ⟨u, ?_, hw⟩
      rcases hk p (.head _) with k | k
      · rw [if_pos k, if_pos k]
        rcases hu with ⟨a1, a2⟩ | ⟨a1, a2⟩
        · exact .inl ⟨a1, (if_neg hy).trans a2⟩
        · exact .inr ⟨a1, a2⟩
      · have nk : ¬ kind p = some .local := by rw [k]; decide
        rw [if_neg nk, if_neg nk]
        rcases hu with ⟨a1, a2⟩ | ⟨a1, a2⟩
        · exact .inl ⟨a1, a2⟩
        · exact .inr ⟨a1, (if_neg hy).trans a2⟩
theorem fn_def {f : Addr} {qual : Str} {params : Arguments} {body : List Stmt} {scope : Scope} {code : Value} {ps : List Str} {ms : List MV} (F : FnAt C.K f qual params body scope code)
    (hbind : ∀ (fd : FuncData) vs, fd.params = params → fd.defaults = .none → fd.kwdefaults = .none → vs.length = ps.length → bindArgs fd ⟨vs, []⟩ = pure (ps.zip vs)) (hlen : ms.length = ps.length)
    (hkind : ∀ p ∈ ps, scope.names.lookup p = some .local ∨ (p, NameKind.cell) ∈ scope.names ∧ scope.names.lookup p = some .cell) (hown : ∀ x ∈ ownOf scope, scope.names.lookup x = some .cell) (hnf : ∀ x ∈ scope.names, x.2 ≠ .free)
    (hroom : A.depth < recursionLimit) (hco : scope.isCoroutine = false) (hgen : scope.isGenerator = false) (hk : scope.kind = .function)
    (h : ∀ L, Exs C (A.deeper (envC scope qual code f L)) ⟨envC scope qual code f L, ownOf scope⟩ body (locOf ps ms) σ fun fl _ σ' => Q (retOf fl) σ') : Fn C A (.ref f) ms σ Q := by
  intro g s vs r hvs
  refine via_p fun P kP => ?_
  obtain ⟨⟨o, fd, ho, hd, rfl, rfl, hb, rfl, hgl, hcl, rfl, hbi, hdf, hkw⟩, hcd⟩ := F
  refine kP ?_
  clear kP P
  have hL : callEnvC fd s.heap.objs.size f = envC fd.scope fd.qualname fd.code f s.heap.objs.size := by unfold callEnvC envC; rw [hgl, hbi]
  refine codeAny_call_cells hroom (r.KIn _ _ ho) hd r.lim (codeRec_of r.KIn hcd) hb (hbind fd vs rfl hdf hkw (by rw [← hvs.length]; exact hlen)) hcl (fun x hx => ?_) (fun s₁ x => ?_) hco hgen hk
  · have hm := (List.of_mem_zip (a := x.1) (b := x.2) hx).1
    rcases hkind x.1 hm with q | ⟨q, q'⟩
    · exact .inl q
    · exact .inr ⟨q', lookup_cellsFrom _ _ _ _ (.inl q)⟩
  rw [hL] at x ⊢
  generalize hE : envC fd.scope fd.qualname fd.code f s.heap.objs.size = env at x ⊢
  have hscope : env.scope = fd.scope := by rw [← hE]; rfl
  have hloc : env.locals = s.heap.objs.size := by rw [← hE]; rfl
  have hkd : ∀ y, env.kindOf y = fd.scope.names.lookup y := fun y => by unfold Env.kindOf; rw [hscope]
  refine via_p fun P kP => ?_
  obtain ⟨⟨⟨h', tk, rfl⟩, hns, keep, fresh⟩, hcell, hap, habove⟩ := x
  refine kP ?_
  clear kP P
  have hs : s.heap.objs.size < h'.objs.size := hloc ▸ hns.lt
  let fa : List Addr := env.locals :: (ownOf fd.scope).filterMap fun x => env.cells.lookup x
  have hfa : ∀ a ∈ fa, s.heap.objs.size ≤ a ∧ a < h'.objs.size := by
    intro a ha
    rcases List.mem_cons.mp ha with rfl | ha
    · rw [hloc]; exact ⟨Nat.le_refl _, hs⟩
    · obtain ⟨x, hx, hc⟩ := List.mem_filterMap.mp ha
      exact ⟨Nat.le_trans (Nat.le_of_eq hloc.symm) (Nat.le_of_lt (habove x a (mem_of_lookup hc))), (hcell x a hc).lt⟩
  have hin : ∀ y c, env.cells.lookup y = some c → y ∈ ownOf fd.scope := fun y c e => by
    have e' : ((cellsFrom (s.heap.objs.size + 1) fd.scope.names []).lookup y).isSome = true := by
      have : (cellsFrom (s.heap.objs.size + 1) fd.scope.names []).lookup y = some c := by rw [← hE] at e; exact e
      rw [this]; rfl
    rcases mem_cellsFrom _ _ _ _ e' with q | q
    · exact List.mem_map.mpr ⟨(y, .cell), List.mem_filter.mpr ⟨q, rfl⟩, rfl⟩
    · cases q
  have r' : Rel C g σ ⟨env, ownOf fd.scope⟩ fa (locOf ps ms) { s with heap := h', toks := tk } := by
    have q := r.ext (s' := { s with heap := h', toks := tk }) keep (Nat.le_of_lt hs)
    have hg : Ge g g s.heap h' := ⟨fun _ _ e => e, fun _ e => e, fun a o _ e => keep a o e⟩
    refine ⟨q, by rw [hscope]; exact hk, by rw [← hE]; rfl, by rw [← hE]; rfl, ⟨_, hns⟩, .head _, fun y v e => ?_, fun y c e => ?_, fun y hy => ?_, fun y z c e e' => ?_, fun a ha => ?_, fun y hy => ?_⟩
    · obtain ⟨u, hu, hv⟩ := bind_holds (kind := env.kindOf) (m := fun _ => none) (cm := fun _ => none) hvs (fun _ _ e => by cases e) (fun p hp => by
        rw [hkd]; rcases hkind p hp with q | ⟨_, q⟩
        · exact .inl q
        · exact .inr q) y v e
      refine ⟨u, ?_, hv.mono hg⟩
      rcases hu with ⟨k1, k2⟩ | ⟨k1, k2⟩
      · exact .inl ⟨k1, _, hns, k2⟩
      · have : ((cellsFrom (s.heap.objs.size + 1) fd.scope.names []).lookup y).isSome = true := lookup_cellsFrom _ _ _ _ (.inl (mem_of_lookup (by rw [← hkd]; exact k1)))
        obtain ⟨c, hc⟩ := Option.isSome_iff_exists.mp this
        have hc' : env.cells.lookup y = some c := by rw [← hE]; exact hc
        exact .inr ⟨.inl k1, c, hc', k2 ▸ hcell y c hc'⟩
    · have hm : c ∈ fa := .tail _ (List.mem_filterMap.mpr ⟨y, hin y c e, e⟩)
      obtain ⟨f1, f2⟩ := hfa c hm
      refine ⟨⟨_, hcell y c e⟩, Nat.ne_of_gt (habove y c (mem_of_lookup e)), Nat.le_trans r.size f1, fun n hn => Nat.lt_irrefl _ (Nat.lt_of_lt_of_le (r.live n c hn).2.1 f1), fun hno => ?_⟩
      exact absurd (hin y c e) hno
    · obtain ⟨p, hp, rfl⟩ := List.mem_map.mp hy
      obtain ⟨hp1, hp2⟩ := List.mem_filter.mp hp
      have hp3 : p.2 = NameKind.cell := by simpa using hp2
      have : ((cellsFrom (s.heap.objs.size + 1) fd.scope.names []).lookup p.1).isSome = true := lookup_cellsFrom _ _ _ _ (.inl (hp3 ▸ hp1))
      obtain ⟨c, hc⟩ := Option.isSome_iff_exists.mp this
      have hc' : env.cells.lookup p.1 = some c := by rw [← hE]; exact hc
      exact ⟨by rw [hkd]; exact hown _ hy, c, hc', .tail _ (List.mem_filterMap.mpr ⟨p.1, hy, hc'⟩)⟩
    · exact name_of_addr hap (mem_of_lookup e) (mem_of_lookup e')
    · obtain ⟨f1, f2⟩ := hfa a ha
      exact ⟨Nat.le_trans r.size f1, f2, fun hp => Nat.lt_irrefl _ (Nat.lt_of_lt_of_le (r.P a hp).2 f1), fun n hn => Nat.lt_irrefl _ (Nat.lt_of_lt_of_le (r.live n a hn).2.1 f1)⟩
    · rcases hy with hy | hy
      · have : ((cellsFrom (s.heap.objs.size + 1) fd.scope.names []).lookup y).isSome = true := lookup_cellsFrom _ _ _ _ (.inl (mem_of_lookup (by rw [← hkd]; exact hy)))
        obtain ⟨c, hc⟩ := Option.isSome_iff_exists.mp this
        exact ⟨c, by rw [← hE]; exact hc⟩
      · exact absurd rfl (hnf (y, .free) (mem_of_lookup (by rw [← hkd]; exact hy)))
  have hx := h s.heap.objs.size
  rw [hE] at hx
  refine wpAny_mono (hx fa g _ r') ?_ fun _ _ e => e.elim
  rintro fl s₂ hX2
  refine via_p fun P kP => ?_
  obtain ⟨g₂, fl', l₂, σ₂, r₂, hf, d, q⟩ := hX2
  refine kP ?_
  clear kP P
  have d0 : Gd C fa g s g { s with heap := h', toks := tk } := .ext keep (Nat.le_of_lt hs) rfl rfl rfl
  have d1 : Gd C [] g s g₂ s₂ := (d0.trans d).weak fun a ha => .inr (hfa a ha).1
  cases hf with
  | next => exact ⟨_, g₂, .none, σ₂, rfl, r₂.gr, .none, d1, q⟩
  | brk => exact ⟨_, g₂, .none, σ₂, rfl, r₂.gr, .none, d1, q⟩
  | cont => exact ⟨_, g₂, .none, σ₂, rfl, r₂.gr, .none, d1, q⟩
  | ret hv => exact ⟨_, g₂, _, σ₂, rfl, r₂.gr, hv, d1, q⟩
end
end
section
theorem size_push_le (h : Heap) (o : Obj) : h.objs.size ≤ (h.push o).objs.size := by rw [Heap.size_push]; exact Nat.le_succ _
theorem size_update (h : Heap) (a : Addr) (f : Obj → Obj) : (h.update a f).objs.size = h.objs.size := (Heap.SameBut.update h a f).1
theorem runs_size {M : Model} {Γ : Ctx} {p : Pos} {t : Sem Fin} {fs : List Frame} {s s' : Shared} {e : End} (h : Runs M Γ p t fs s e s') : s.heap.objs.size ≤ s'.heap.objs.size := by
  induction h <;> (try simp only [Shared.setGen, size_update, Heap.size_push] at *) <;> (first | lia | omega)
theorem wakes_size {M : Model} {Γ : Ctx} {p : Pos} {g : Nat} {r : Resume} {s s' : Shared} {res : GenResult} (h : Wakes M Γ p g r s res s') : s.heap.objs.size ≤ s'.heap.objs.size := by
  unfold Wakes at h
  cases hg : s.gens[g]? with
  | none => rw [hg] at h; exact h.elim
  | some st =>
    rw [hg] at h
    cases st with
    | fresh c =>
      cases r with
      | send v =>
        cases v
        case none => obtain ⟨_, s₁, hr, _, _, rfl⟩ := h; exact (runs_size hr : (s.setGen g .running).heap.objs.size ≤ s₁.heap.objs.size)
        all_goals exact Nat.le_of_eq (congrArg (fun s : Shared => s.heap.objs.size) h.2.symm)
      | throw x => exact Nat.le_of_eq (show (s.setGen g .finished).heap.objs.size = _ from congrArg (fun s : Shared => s.heap.objs.size) h.2.symm)
    | suspended => obtain ⟨_, s₁, hr, _, _, rfl⟩ := h; exact (runs_size hr : (s.setGen g .running).heap.objs.size ≤ s₁.heap.objs.size)
    | running => exact Nat.le_of_eq (congrArg (fun s : Shared => s.heap.objs.size) h.2.symm)
    | finished => exact Nat.le_of_eq (congrArg (fun s : Shared => s.heap.objs.size) h.2.symm)
theorem wp_size {α : Type} (M : Model) (Γ : Ctx) (n : Nat) (t : Sem α) : ∀ (Q : α → Pos → Shared → Prop) (E : Value → Pos → Shared → Prop) (p : Pos) (s : Shared), n ≤ s.heap.objs.size → Sem.wp M Γ t Q E p s →
    Sem.wp M Γ t (fun a p' s' => n ≤ s'.heap.objs.size ∧ Q a p' s') (fun e p' s' => n ≤ s'.heap.objs.size ∧ E e p' s') p s := by
  induction t with
  | pure | raise => intro Q E p s hn h; exact ⟨hn, h⟩
  | unsupported | finish | register | yield | fork | await => intro Q E p s _ h; exact h
  | rule _ k ih | point _ k ih => intro Q E p s hn h; exact ih () Q E p s hn h
  | «at» p' k ih => intro Q E p s hn h; exact ih () Q E p' s hn h
  | load a _ k ih | genState a k ih => intro Q E p s hn h; obtain ⟨o, ho, h⟩ := h; exact ⟨o, ho, ih _ Q E p s hn h⟩
  | update a _ f k ih => intro Q E p s hn h; exact ⟨h.1, ih () Q E p _ (by rw [size_update]; exact hn) h.2⟩
  | loadIfAlive _ k ih | ask k ih | handled _ k ih | stack k ih | thread k ih | fresh k ih | os _ _ k ih | newGen _ k ih => intro Q E p s hn h; exact ih _ Q E p _ hn h
  | alloc o k ih => intro Q E p s hn h; exact ih _ Q E p _ (Nat.le_trans hn (size_push_le _ _)) h
  | choose src m k ih => intro Q E p s hn h; exact ⟨h.1, ih _ Q E p _ hn h.2⟩
  | call c hd _ _ k ih => intro Q E p s hn h; obtain ⟨r, s', hr, h⟩ := h; exact ⟨r, s', hr, ih r Q E p s' (Nat.le_trans hn (runs_size hr)) h⟩
  | resume g r _ k ih => intro Q E p s hn h; obtain ⟨res, s', hw, h⟩ := h; exact ⟨res, s', hw, ih res Q E p s' (Nat.le_trans hn (wakes_size hw)) h⟩
theorem withSize {α : Type} {M : Model} {A : Around} {s : Shared} {t : Sem α} {Q : α → Shared → Prop} {E : Value → Shared → Prop}
    (h : wpAny M A t (fun a s' => s.heap.objs.size ≤ s'.heap.objs.size → Q a s') (fun e s' => s.heap.objs.size ≤ s'.heap.objs.size → E e s') s) : wpAny M A t Q E s :=
  fun Γ p hΓ => Sem.wp_mono M Γ t (fun _ _ _ x => x.2 x.1) (fun _ _ _ x => x.2 x.1) p s (wp_size M Γ _ t _ _ p s (Nat.le_refl _) (h Γ p hΓ))
end
section
noncomputable def lstOf (σ : Hp) : MV → Option (List MV)
  | .lst l => some l
  | .ref n => match σ n with | some (.list l) => some l | _ => none
  | _ => none
noncomputable def dctOf (σ : Hp) : MV → Option (List (Str × MV))
  | .dct l => some l
  | .ref n => match σ n with | some (.dict l) => some l | _ => none
  | _ => none
theorem ne_of_hp {σ : Hp} {a b : Nat} {o : MO} (ha : σ a = none) (hb : σ b = some o) : a ≠ b := fun e => by rw [e, hb] at ha; cases ha
theorem lst_ref {σ : Hp} {n : Nat} {l : List MV} (h : σ n = some (.list l)) : lstOf σ (.ref n) = some l := by
  show (match σ n with | some (.list l) => some l | _ => none) = _
  rw [h]
theorem dct_ref {σ : Hp} {n : Nat} {l : List (Str × MV)} (h : σ n = some (.dict l)) : dctOf σ (.ref n) = some l := by
  show (match σ n with | some (.dict l) => some l | _ => none) = _
  rw [h]
theorem lstOf_some {σ : Hp} {m : MV} {l : List MV} (h : lstOf σ m = some l) : m = .lst l ∨ ∃ n, m = .ref n ∧ σ n = some (.list l) := by
  cases m
  case lst l' => exact .inl (congrArg _ (Option.some.inj h))
  case ref n =>
    refine .inr ⟨n, rfl, ?_⟩
    revert h
    show (match σ n with | some (.list l) => some l | _ => none) = _ → _
    cases σ n with
    | none => exact fun h => nomatch h
    | some o => cases o with
      | list l' => exact fun h => congrArg _ (congrArg _ (Option.some.inj h))
      | _ => exact fun h => nomatch h
  all_goals exact nomatch h
theorem dctOf_some {σ : Hp} {m : MV} {l : List (Str × MV)} (h : dctOf σ m = some l) : m = .dct l ∨ ∃ n, m = .ref n ∧ σ n = some (.dict l) := by
  cases m
  case dct l' => exact .inl (congrArg _ (Option.some.inj h))
  case ref n =>
    refine .inr ⟨n, rfl, ?_⟩
    revert h
    show (match σ n with | some (.dict l) => some l | _ => none) = _ → _
    cases σ n with
    | none => exact fun h => nomatch h
    | some o => cases o with
      | dict l' => exact fun h => congrArg _ (congrArg _ (Option.some.inj h))
      | _ => exact fun h => nomatch h
  all_goals exact nomatch h
section
variable {C : Cx} {A : Around} {fm : Fm} {fa : List Addr} {loc : Loc} {σ : Hp} {g : Gh} {s : Shared} {Q Q' : MV → Hp → Prop} {QB : Bool → Hp → Prop} {QS : Fl → Loc → Hp → Prop}
theorem GR.lstP {m : MV} {l : List MV} {v : Value} (r : GR C g σ s) (h : lstOf σ m = some l) (hv : VR C g s.heap m v) : ∃ a xs, v = .ref a ∧ s.heap.PlainList a ⟨xs⟩ ∧ VRs C g s.heap l xs := by
  rcases lstOf_some h with rfl | ⟨n, rfl, e⟩
  · exact hv.inv.imp fun a y => y.imp fun xs y => ⟨y.1, y.2.2⟩
  · exact hv.inv.imp fun a y => (r.obj y.2 e).inv.imp fun xs z => ⟨y.1, z⟩
theorem GR.lst {m : MV} {l : List MV} {v : Value} (r : GR C g σ s) (h : lstOf σ m = some l) (hv : VR C g s.heap m v) : ∃ a xs, v = .ref a ∧ s.heap.IsList a ⟨xs⟩ ∧ VRs C g s.heap l xs :=
  (r.lstP h hv).imp fun _ y => y.imp fun _ y => ⟨y.1, y.2.1.isList, y.2.2⟩
theorem GR.dct {m : MV} {l : List (Str × MV)} {v : Value} (r : GR C g σ s) (h : dctOf σ m = some l) (hv : VR C g s.heap m v) : ∃ a kvs, v = .ref a ∧ s.heap.DictOf (strKind C.prog C.w) a kvs ∧ VRd C g s.heap l kvs ∧ C.N0 ≤ a := by
  rcases dctOf_some h with rfl | ⟨n, rfl, e⟩
  · exact hv.inv.imp fun a y => y.imp fun xs y => ⟨y.1, y.2.2.1, y.2.2.2, (r.P _ y.2.1).1⟩
  · exact hv.inv.imp fun a y => (r.obj y.2 e).inv.imp fun xs z => ⟨y.1, z.1, z.2, (r.live n a y.2).1⟩
theorem isList_of {h : Heap} {a : Addr} {xs : List Value} {n : Nat} (e : h.get? a = some (lstObj ⟨xs⟩ n)) : h.PlainList a ⟨xs⟩ := ⟨n, e⟩
theorem isTuple_of {h : Heap} {a : Addr} {xs : List Value} {n : Nat} (e : h.get? a = some (tupObj ⟨xs⟩ n)) : h.IsTuple a ⟨xs⟩ := ⟨_, e, rfl, n, rfl⟩
theorem Post.pinned {m : MV} {o : Obj} (r : Rel C g σ fm fa loc s) (hf : o.isFreed = false) (hv : VR C (g.pin s.heap.objs.size) (s.heap.push o) m (.ref s.heap.objs.size)) (q : Q m σ) :
    Post C fm fa loc g s Q (.ref s.heap.objs.size) { s with heap := s.heap.push o } := by
  have k : ∀ b o', s.heap.get? b = some o' → (s.heap.push o).get? b = some o' := fun b o' e => Heap.get?_push_of_some _ e
  have hl : s.heap.objs.size < (s.heap.push o).objs.size := by rw [Heap.size_push]; exact Nat.lt_succ_self _
  exact ⟨_, m, σ, r.pin (s' := { s with heap := s.heap.push o }) k (Nat.le_refl _) hl, hv, .pin k (Nat.le_refl _) hl rfl rfl rfl, q⟩
theorem ge_pin (o : Obj) : Ge g (g.pin s.heap.objs.size) s.heap (s.heap.push o) := ⟨fun _ _ e => e, fun _ e => .inr e, fun _ _ _ e => Heap.get?_push_of_some _ e⟩
theorem Post.tup {ms : List MV} {xs : List Value} {n : Nat} (r : Rel C g σ fm fa loc s) (hv : VRs C g s.heap ms xs) (q : Q (.tup ms) σ) : Post C fm fa loc g s Q (.ref s.heap.objs.size) { s with heap := s.heap.push (tupObj ⟨xs⟩ n) } :=
  .pinned r rfl (.tup (.inl rfl) (isTuple_of (Heap.get?_push_size _ rfl)) (hv.mono (ge_pin _))) q
theorem Post.lst {ms : List MV} {xs : List Value} {n : Nat} (r : Rel C g σ fm fa loc s) (hv : VRs C g s.heap ms xs) (q : Q (.lst ms) σ) : Post C fm fa loc g s Q (.ref s.heap.objs.size) { s with heap := s.heap.push (lstObj ⟨xs⟩ n) } :=
  .pinned r rfl (.lst (.inl rfl) (isList_of (Heap.get?_push_size _ rfl)) (hv.mono (ge_pin _))) q
theorem Post.lstT {ℓ : Nat} {ms : List MV} {xs : List Value} {n : Nat} (r : Rel C g σ fm fa loc s) (hσ : σ ℓ = none) (hv : VRs C g s.heap ms xs) (q : Q (.ref ℓ) (σ.set ℓ (.list ms))) :
    Post C fm fa loc g s Q (.ref s.heap.objs.size) { s with heap := s.heap.push (lstObj ⟨xs⟩ n) } := by
  have hℓ := r.gr.fresh hσ
  have k : ∀ b o', s.heap.get? b = some o' → (s.heap.push (lstObj ⟨xs⟩ n)).get? b = some o' := fun b o' e => Heap.get?_push_of_some _ e
  have hl : s.heap.objs.size < (s.heap.push (lstObj ⟨xs⟩ n)).objs.size := by rw [Heap.size_push]; exact Nat.lt_succ_self _
  have up : ∀ m b, g.ρ m = some b → (g.set ℓ s.heap.objs.size).ρ m = some b := fun m b e => by
    show (if m = ℓ then _ else g.ρ m) = some b
    rw [if_neg (fun q => by rw [q, hℓ] at e; cases e)]; exact e
  have e : Ge g (g.set ℓ s.heap.objs.size) s.heap (s.heap.push (lstObj ⟨xs⟩ n)) := ⟨up, fun _ e => e, fun a o _ e => k a o e⟩
  refine ⟨_, .ref ℓ, _, r.new (s' := { s with heap := s.heap.push (lstObj ⟨xs⟩ n) }) hℓ k (Nat.le_refl _) hl (.list (isList_of (Heap.get?_push_size _ rfl)) (hv.mono e)), .ref ?_, .new hℓ k (Nat.le_refl _) hl rfl rfl rfl, q⟩
  show (if ℓ = ℓ then _ else _) = _
  rw [if_pos rfl]
theorem Post.dctT {ℓ : Nat} (r : Rel C g σ fm fa loc s) (hσ : σ ℓ = none) (q : Q (.ref ℓ) (σ.set ℓ (.dict []))) :
    Post C fm fa loc g s Q (.ref s.heap.objs.size) { s with heap := s.heap.push { cls := .type "dict", data := .dict #[] } } := by
  have hℓ := r.gr.fresh hσ
  have k : ∀ b o', s.heap.get? b = some o' → (s.heap.push { cls := .type "dict", data := .dict #[] }).get? b = some o' := fun b o' e => Heap.get?_push_of_some _ e
  have hl : s.heap.objs.size < (s.heap.push { cls := .type "dict", data := .dict #[] }).objs.size := by rw [Heap.size_push]; exact Nat.lt_succ_self _
  refine ⟨_, .ref ℓ, _, r.new (s' := { s with heap := s.heap.push { cls := .type "dict", data := .dict #[] } }) hℓ k (Nat.le_refl _) hl (.dict (Heap.DictOf.new _) .nil), .ref ?_, .new hℓ k (Nat.le_refl _) hl rfl rfl rfl, q⟩
  show (if ℓ = ℓ then _ else _) = _
  rw [if_pos rfl]
end
end
section
section
variable {C : Cx} {A : Around} {fm : Fm} {fa : List Addr} {loc : Loc} {σ : Hp} {g : Gh} {s : Shared} {Q Q' : MV → Hp → Prop} {QB : Bool → Hp → Prop} {QS : Fl → Loc → Hp → Prop}
theorem sizeLine_ge {n : Nat} (h : n ≤ 1000000) : n ≤ sizeLine := Nat.le_trans h (by decide)
theorem ev_tup {es : List Expr} {k : Nat} {pos : Pos} (h : EvL C A fm es loc σ fun ms σ₁ => ms.length ≤ 1000000 ∧ Q (.tup ms) σ₁) (hs : (starEach es fm.env).all (fun p => !p.1) = true := by rfl) : Ev C A fm (.Tuple es k pos) loc σ Q := fun fa g s r => by
  refine wpAny_Tuple ?_
  refine wpAny_mono (h.runS hs r) ?_ fun _ _ e => e
  rintro vs s₁ ⟨g₁, ms, σ₁, r₁, hv, d, hl, q⟩
  exact ⟨sizeLine_ge (hv.length ▸ hl), (Post.tup r₁ hv q).trans d⟩
theorem ev_lst {es : List Expr} {pos : Pos} (h : EvL C A fm es loc σ fun ms σ₁ => ms.length ≤ 1000000 ∧ Q (.lst ms) σ₁) (hs : (starEach es fm.env).all (fun p => !p.1) = true := by rfl) : Ev C A fm (.List es pos) loc σ Q := fun fa g s r => by
  refine wpAny_List ?_
  refine wpAny_mono (h.runS hs r) ?_ fun _ _ e => e
  rintro vs s₁ ⟨g₁, ms, σ₁, r₁, hv, d, hl, q⟩
  exact ⟨sizeLine_ge (hv.length ▸ hl), (Post.lst r₁ hv q).trans d⟩
theorem ev_lstT (ℓ : Nat) {es : List Expr} {pos : Pos} (h : EvL C A fm es loc σ fun ms σ₁ => ms.length ≤ 1000000 ∧ σ₁ ℓ = none ∧ Q (.ref ℓ) (σ₁.set ℓ (.list ms))) (hs : (starEach es fm.env).all (fun p => !p.1) = true := by rfl) : Ev C A fm (.List es pos) loc σ Q := fun fa g s r => by
  refine wpAny_List ?_
  refine wpAny_mono (h.runS hs r) ?_ fun _ _ e => e
  rintro vs s₁ ⟨g₁, ms, σ₁, r₁, hv, d, hl, hn, q⟩
  exact ⟨sizeLine_ge (hv.length ▸ hl), (Post.lstT r₁ hn hv q).trans d⟩
theorem ev_dctT (ℓ : Nat) {pos : Pos} (hn : σ ℓ = none) (q : Q (.ref ℓ) (σ.set ℓ (.dict []))) : Ev C A fm (.Dict [] [] pos) loc σ Q := fun fa g s r =>
  wpAny_Dict_empty (.dctT r hn q)
theorem subscripted_ops (slice : Expr) (o i : Value) : ∃ ops, subscripted slice false o i = operate ops (getItem o i) := by
  cases slice
  case Slice a b c p => cases c <;> exact ⟨_, rfl⟩
  all_goals exact ⟨_, rfl⟩
noncomputable def Itm (C : Cx) (A : Around) (fm : Fm) (a b : MV) (loc : Loc) (σ : Hp) (Q : MV → Hp → Prop) : Prop :=
  ∀ fa g s x y, Rel C g σ fm fa loc s → VR C g s.heap a x → VR C g s.heap b y →
    (∃ T id, s.TypeIs x T ∧ typeLookup (.type T) "__getitem__" = pure (some (.builtin id))) ∧ wpAny (model C.prog C.w) A (getItem x y) (Post C fm fa loc g s Q) NoE s
theorem ev_sub {v sl : Expr} {pos : Pos} (h : Ev C A fm v loc σ fun a σ₁ => Ev C A fm sl loc σ₁ fun b σ₂ => Itm C A fm a b loc σ₂ Q) : Ev C A fm (.Subscript v sl pos) loc σ Q := fun fa g s r => by
  refine Subscript_ (two (f := subscriptTail v sl) ?_ fa g s r)
  refine EvT.mono h fun a σ₁ h₁ => EvT.mono h₁ fun b σ₂ h₂ => ?_
  intro fa g s x y r hx hy
  obtain ⟨⟨T, id, hT, hl⟩, hg⟩ := h₂ fa g s x y r hx hy
  obtain ⟨ops, ho⟩ := subscripted_ops sl x y
  exact tail_any hT hl hg ho
theorem get_arr {xs : List Value} {i : Nat} {v : Value} (h : xs[i]? = some v) : (Array.mk xs)[i]? = some v := (List.getElem?_toArray ..).trans h
theorem lt63 {k : Int} (h : k < 1000000000) : k < 2 ^ 63 := Int.lt_trans h (by decide)
theorem gi_list {a : MV} {l : List MV} {k : Int} {m : MV} (ha : lstOf σ a = some l) (h0 : 0 ≤ k) (hk : k < 1000000000) (hm : l[k.toNat]? = some m) (q : Q m σ) : Itm C A fm a (.int k) loc σ Q := by
  intro fa g s x y r hx hy
  obtain ⟨_, rfl⟩ := hy.inv
  obtain ⟨a, xs, rfl, ho, hl⟩ := r.gr.lst ha hx
  obtain ⟨v, hv, hm'⟩ := hl.get hm
  exact ⟨⟨_, _, ho.typeIs, slot_list_getitem.lookup⟩, wpAny_getItem_list ho h0 (lt63 hk) (get_arr hv) (.now r hm' q)⟩
theorem seqIndex_of {k : Int} {n : Nat} (h0 : 0 ≤ k) (hk : k < n) : seqIndex? k n = some k.toNat := by
  have hh : ¬ k < 0 := Int.not_lt.mpr h0
  unfold seqIndex?
  simp [hh, h0, hk]
theorem gi_tup {l : List MV} {k : Int} {m : MV} (h0 : 0 ≤ k) (hk : k < l.length) (hk' : k < 1000000000) (hm : l[k.toNat]? = some m) (q : Q m σ) : Itm C A fm (.tup l) (.int k) loc σ Q := by
  intro fa g s x y r hx hy
  obtain ⟨_, rfl⟩ := hy.inv
  obtain ⟨a, xs, rfl, hp, ho, hl⟩ := hx.inv
  obtain ⟨v, hv, hm'⟩ := hl.get hm
  exact ⟨⟨"tuple", _, ho.typeIs, slot_tuple_getitem.lookup⟩, getItem_tuple (items := ⟨xs⟩) (j := k.toNat) ho (Int.le_trans (show -(2 ^ 63) ≤ (0 : Int) by decide) h0) (lt63 hk') (seqIndex_of h0 (Int.lt_of_lt_of_le hk (Int.ofNat_le.mpr (Nat.le_of_eq hl.length)))) (get_arr hv) (.now r hm' q)⟩
theorem gi_str {x : Str} {k : Int} {c : Nat} (hr : (decide (k < -(2 ^ 63 : Int)) || decide (k ≥ 2 ^ 63)) = false) (hc : (seqIndex? k x.length).bind (x.cps[·]?) = some c) (q : Q (.str ⟨#[c]⟩) σ) : Itm C A fm (.str x) (.int k) loc σ Q := by
  intro fa g s u y r hx hy
  obtain ⟨_, rfl⟩ := hy.inv
  obtain ⟨_, rfl⟩ := hx.inv
  exact ⟨⟨"str", _, typeIs_str .., slot_str_getitem.lookup⟩, getItem_str hr hc (.tok r (.str ..) q)⟩
noncomputable def valAt : List (Str × MV) → Str → Option MV
  | [], _ => none
  | (k, v) :: l, x => if k = x then some v else valAt l x
theorem VRd.at {h : Heap} {x : Str} {l : List (Str × MV)} {kvs : List (Str × Value)} (z : VRd C g h l kvs) {m : MV} (e : valAt l x = some m) : ∃ v, valueAt kvs x = some v ∧ VR C g h m v := by
  induction l generalizing kvs with
  | nil => exact nomatch e
  | cons p l ih =>
    obtain ⟨v, r, rfl, a, b⟩ := z.inv
    have e' : (if p.1 = x then some p.2 else valAt l x) = some m := e
    by_cases hk : p.1 = x
    · rw [if_pos hk] at e'
      exact ⟨v, by simp [valueAt, hk], Option.some.inj e' ▸ a⟩
    · rw [if_neg hk] at e'
      exact (ih b e').imp fun u y => ⟨(by simp [valueAt, hk] : _ = _).trans y.1, y.2⟩
theorem VRd.no {h : Heap} {x : Str} {l : List (Str × MV)} {kvs : List (Str × Value)} (z : VRd C g h l kvs) (e : valAt l x = none) : valueAt kvs x = none := by
  induction l generalizing kvs with
  | nil => exact z.inv ▸ rfl
  | cons p l ih =>
    obtain ⟨v, r, rfl, a, b⟩ := z.inv
    have e' : (if p.1 = x then some p.2 else valAt l x) = none := e
    by_cases hk : p.1 = x
    · rw [if_pos hk] at e'; exact nomatch e'
    · rw [if_neg hk] at e'
      exact (by simp [valueAt, hk] : _ = _).trans (ih b e')
theorem gi_dct {a : MV} {l : List (Str × MV)} {x : Str} {m : MV} (ha : dctOf σ a = some l) (hm : valAt l x = some m) (q : Q m σ) : Itm C A fm a (.str x) loc σ Q := by
  intro fa g s u y r hx hy
  obtain ⟨_, rfl⟩ := hy.inv
  obtain ⟨a, kvs, rfl, ho, hl, hN⟩ := r.gr.dct ha hx
  obtain ⟨v, hv, hm'⟩ := hl.at hm
  exact ⟨⟨"dict", _, ho.typeIs, PySem.slot_dict_getitem.lookup⟩, wpAny_getItem_of (strKind_is ..) ho.mapOf hv (.tok r hm' q)⟩
end
end
section
section
variable {C : Cx} {A : Around} {fm : Fm} {fa : List Addr} {loc : Loc} {σ : Hp} {g : Gh} {s : Shared} {Q Q' : MV → Hp → Prop} {QB : Bool → Hp → Prop} {QS : Fl → Loc → Hp → Prop}
noncomputable def EvO (C : Cx) (A : Around) (fm : Fm) : Option Expr → Loc → Hp → (Option Int → Hp → Prop) → Prop
  | none, _, σ, Q => Q none σ
  | some e, loc, σ, Q => Ev C A fm e loc σ fun m σ₁ => (m = .none ∧ Q none σ₁) ∨ ∃ i, m = .int i ∧ Q (some i) σ₁
inductive PostO (C : Cx) (fm : Fm) (fa : List Addr) (loc : Loc) (g : Gh) (s : Shared) (Q : Option Int → Hp → Prop) (v : Value) (s' : Shared) : Prop
  | mk (g' : Gh) (σ' : Hp) (i : Option Int) (r : Rel C g' σ' fm fa loc s') (p : IsPart v i) (d : Gd C fa g s g' s') (q : Q i σ')
theorem EvO.run {e : Option Expr} {Q : Option Int → Hp → Prop} (h : EvO C A fm e loc σ Q) (fa : List Addr) (g : Gh) (s : Shared) (r : Rel C g σ fm fa loc s) :
    wpAny (model C.prog C.w) A (evalPart e fm.env) (PostO C fm fa loc g s Q) NoE s := by
  cases e with
  | none => exact wpAny_pure ⟨g, σ, none, r, .none, .refl .., h⟩
  | some e =>
    refine wpAny_mono (h fa g s r) ?_ fun _ _ e => e
    rintro v s₁ ⟨g₁, m, σ₁, r₁, hv, d, ⟨rfl, q⟩ | ⟨i, rfl, q⟩⟩
    · exact ⟨g₁, σ₁, none, r₁, hv.inv ▸ .none, d, q⟩
    · exact ⟨g₁, σ₁, some i, r₁, hv.inv.elim fun _ e => e ▸ .int .., d, q⟩
noncomputable def slIdx (lo hi st : Option Int) (n : Nat) : List Nat := sliceRange (sliceBounds lo hi st n).1 (sliceBounds lo hi st n).2.1 (sliceBounds lo hi st n).2.2
noncomputable def cutL {α : Type} (l : List α) (lo hi st : Option Int) : List α := (slIdx lo hi st l.length).filterMap (l[·]?)
noncomputable def clip1 (v : Option Int) (d n : Int) : Int := match v with
  | none => d
  | some i => max 0 (min (if i < 0 then i + n else i) n)
noncomputable def cutS (x : Str) (lo hi : Option Int) : Str :=
  ⟨((x.cps.toList.drop (clip1 lo 0 x.length).toNat).take ((clip1 hi x.length x.length).toNat - (clip1 lo 0 x.length).toNat)).toArray⟩
theorem clip1_lo (v : Option Int) {d n : Int} (hd : 0 ≤ d) : 0 ≤ clip1 v d n := by
  cases v with
  | none => exact hd
  | some i => exact Int.le_max_left ..
theorem clip1_hi (v : Option Int) {d n : Int} (hd : d ≤ n) (hn : 0 ≤ n) : clip1 v d n ≤ n := by
  cases v with
  | none => exact hd
  | some i => exact Int.max_le.mpr ⟨hn, Int.min_le_right ..⟩
theorem pick_range {α : Type} (l : List α) (a b : Nat) (hb : b ≤ l.length) : ((List.range (b - a)).map fun k => a + k).filterMap (l[·]?) = (l.drop a).take (b - a) := by
  have : ∀ n a, ((List.range n).map fun k => a + k).filterMap (l[·]?) = (l.drop a).take n := by
    intro n
    induction n with
    | zero => intro a; rfl
    | succ n ih =>
      intro a
      have e : ((fun k => a + k) ∘ Nat.succ) = fun k => (a + 1) + k := funext fun k => (Nat.add_right_comm a k 1 : _)
      rw [List.range_succ_eq_map, List.map_cons, List.map_map, e, List.filterMap_cons, ih (a + 1)]
      show (match l[a]? with | none => _ | some b => _) = _
      cases h : l[a]? with
      | none =>
        have h' := List.getElem?_eq_none_iff.mp h
        rw [List.drop_eq_nil_of_le h', List.drop_eq_nil_of_le (Nat.le_succ_of_le h')]
        simp
      | some b =>
        obtain ⟨ha, rfl⟩ := List.getElem?_eq_some_iff.mp h
        rw [List.drop_eq_getElem_cons ha, List.take_succ_cons]
  exact this (b - a) a
theorem slRange (a b : Int) (ha : 0 ≤ a) (hb : 0 ≤ b) : sliceRange a b 1 = (List.range (b.toNat - a.toNat)).map fun k => a.toNat + k := by
  obtain ⟨m, rfl⟩ := Int.eq_ofNat_of_zero_le ha
  obtain ⟨n, rfl⟩ := Int.eq_ofNat_of_zero_le hb
  unfold sliceRange
  have hc : (if (1 : Int) > 0 then (if (m : Int) < n then ((n : Int) - m + 1 - 1) / 1 else 0) else (if (m : Int) > n then ((m : Int) - n - 1 - 1) / (-1) else 0)).toNat = n - m := by
    rw [if_pos (by decide), Int.ediv_one, Int.add_sub_cancel]
    split
    · rw [Int.toNat_sub]
    · rename_i h
      exact (Nat.sub_eq_zero_of_le (Int.ofNat_le.mp (Int.not_lt.mp h))).symm
  simp only [hc]
  exact List.map_congr_left fun k _ => by rw [Int.one_mul]; rfl
theorem strIdx (x : Str) (lo hi : Option Int) : Builtin.Str.strSliceIndices lo hi 1 x.length = (List.range ((clip1 hi x.length x.length).toNat - (clip1 lo 0 x.length).toNat)).map fun k => (clip1 lo 0 x.length).toNat + k := by
  have e1 : ∀ v d, (match v with | none => d | some i => (fun i => if (1 : Int) > 0 then max 0 (min i (x.length : Int)) else max (-1) (min i ((x.length : Int) - 1))) (if i < 0 then i + (x.length : Int) else i)) = clip1 v d x.length := by
    intro v d; cases v with
    | none => rfl
    | some i => exact if_pos (by decide)
  refine Eq.trans ?_ (slRange _ _ (clip1_lo lo (Int.le_refl 0)) (clip1_lo hi (Int.natCast_nonneg _)))
  unfold Builtin.Str.strSliceIndices
  simp only [← e1]
  rfl
theorem cps_len (x : Str) : x.cps.toList.length = x.length := Array.length_toList
theorem cutS_eq (x : Str) (lo hi : Option Int) : (Builtin.Str.strSliceIndices lo hi 1 x.length).filterMap (x.cps[·]?) = (cutS x lo hi).cps.toList := by
  have e : (fun i : Nat => x.cps[i]?) = fun i : Nat => x.cps.toList[i]? := funext fun i => (Array.getElem?_toList ..).symm
  rw [strIdx, e, pick_range _ _ _ (Int.toNat_le.mpr (cps_len x ▸ clip1_hi hi (Int.le_refl _) (Int.natCast_nonneg _)))]
  rfl
theorem VRs.pick {h : Heap} {l : List MV} {r : List Value} (hl : VRs C g h l r) (is : List Nat) : VRs C g h (is.filterMap (l[·]?)) (is.filterMap (r[·]?)) := by
  induction is with
  | nil => exact .nil
  | cons i is ih =>
    rw [List.filterMap_cons, List.filterMap_cons]
    cases hi : l[i]? with
    | none => rw [List.getElem?_eq_none_iff.mpr (hl.length ▸ List.getElem?_eq_none_iff.mp hi)]; exact ih
    | some m =>
      obtain ⟨v, hv, hm⟩ := hl.get hi
      rw [hv]
      exact .cons hm ih
noncomputable def Slc (C : Cx) (A : Around) (fm : Fm) (a : MV) (lo hi st : Option Int) (loc : Loc) (σ : Hp) (Q : MV → Hp → Prop) : Prop :=
  ∀ fa g s x sl vl vu vs, Rel C g σ fm fa loc s → VR C g s.heap a x → s.heap.IsSliceOf sl vl vu vs → IsPart vl lo → IsPart vu hi → IsPart vs st →
    (∃ T id, s.TypeIs x T ∧ typeLookup (.type T) "__getitem__" = pure (some (.builtin id))) ∧ wpAny (model C.prog C.w) A (getItem x (.ref sl)) (Post C fm fa loc g s Q) NoE s
theorem ev_slice {v : Expr} {lo hi st : Option Expr} {p pos : Pos} (h : Ev C A fm v loc σ fun a σ₁ => EvO C A fm lo loc σ₁ fun l σ₂ => EvO C A fm hi loc σ₂ fun u σ₃ => EvO C A fm st loc σ₃ fun t σ₄ => Slc C A fm a l u t loc σ₄ Q) :
    Ev C A fm (.Subscript v (.Slice lo hi st p) pos) loc σ Q := fun fa g s r => by
  refine Subscript_ (wpAny_mono (h fa g s r) ?_ fun _ _ e => e)
  rintro x s₁ ⟨g₁, a, σ₁, r₁, hx, d₁, h₁⟩
  refine wpAny_Slice (wpAny_mono (h₁.run fa g₁ s₁ r₁) ?_ fun _ _ e => e)
  rintro vl s₂ ⟨g₂, σ₂, l, r₂, pl, d₂, h₂⟩
  refine wpAny_mono (h₂.run fa g₂ s₂ r₂) ?_ fun _ _ e => e
  rintro vu s₃ ⟨g₃, σ₃, u, r₃, pu, d₃, h₃⟩
  refine wpAny_mono (h₃.run fa g₃ s₃ r₃) ?_ fun _ _ e => e
  rintro vs s₄ ⟨g₄, σ₄, t, r₄, ps, d₄, h₄⟩
  have k : ∀ b o', s₄.heap.get? b = some o' → (s₄.heap.push { cls := .type "slice", data := .fields #[vl, vu, vs] }).get? b = some o' := fun b o' e => Heap.get?_push_of_some _ e
  have hs := size_push_le s₄.heap { cls := .type "slice", data := .fields #[vl, vu, vs] }
  have r₅ : Rel C g₄ σ₄ fm fa loc { s₄ with heap := s₄.heap.push { cls := .type "slice", data := .fields #[vl, vu, vs] } } := r₄.ext k hs
  have d₅ : Gd C fa g₄ s₄ g₄ { s₄ with heap := s₄.heap.push { cls := .type "slice", data := .fields #[vl, vu, vs] } } := .ext k hs rfl rfl rfl
  have dd := d₂.trans (d₃.trans (d₄.trans d₅))
  obtain ⟨⟨T, id, hT, hl⟩, hg⟩ := h₄ fa g₄ _ x s₄.heap.objs.size vl vu vs r₅ (hx.mono (r₁.ge dd)) (.new ..) pl pu ps
  obtain ⟨ops, ho⟩ := subscripted_ops (.Slice lo hi st p) x (.ref s₄.heap.objs.size)
  exact tail_any hT hl (wpAny_mono hg (fun _ _ p => p.trans (d₁.trans dd)) fun _ _ e => e) ho
theorem part_of {v : Value} {i : Option Int} (h : IsPart v i) : ∃ p : Option (Int × Tok), v = partValue p ∧ p.map (·.1) = i := by
  cases h with
  | none => exact ⟨none, rfl, rfl⟩
  | int i t => exact ⟨some (i, t), rfl, rfl⟩
theorem cutS_all (x : Str) {l u : Option Int} (h : (clip1 u x.length x.length).toNat - (clip1 l 0 x.length).toNat = x.length) : cutS x l u = x := by
  have h3 : (clip1 u x.length x.length).toNat ≤ x.length := Int.toNat_le.mpr (clip1_hi u (Int.le_refl _) (Int.natCast_nonneg _))
  generalize hb : (clip1 u x.length x.length).toNat = b at h h3
  generalize ha : (clip1 l 0 x.length).toNat = a at h
  have e : (x.cps.toList.drop a).take (b - a) = x.cps.toList := by
    cases a with
    | zero => exact List.take_of_length_le (cps_len x ▸ Nat.le_of_eq h.symm)
    | succ a =>
      have h0 : x.cps.toList = [] := List.length_eq_zero_iff.mp ((cps_len x).trans (by walk_at "l"))
      rw [h0, List.drop_nil, List.take_nil]
  unfold cutS
  rw [hb, ha, e]
theorem slc_str {x : Str} {lo hi : Option Int} (q : Q (.str (cutS x lo hi)) σ) (hx : x.length ≤ 1000000) : Slc C A fm (.str x) lo hi none loc σ Q := by
  intro fa g s v sl vl vu vs r hv hs pl pu ps
  obtain ⟨t, rfl⟩ := hv.inv
  refine ⟨⟨"str", _, typeIs_str .., slot_str_getitem.lookup⟩, ?_⟩
  refine via_p fun P kP => ?_
  obtain ⟨l, rfl, rfl⟩ := part_of pl
  refine kP ?_
  clear kP P
  refine via_p fun P kP => ?_
  obtain ⟨u, rfl, rfl⟩ := part_of pu
  refine kP ?_
  clear kP P
  cases ps
  refine wpAny_getItem_str_slice (l := l) (u := u) (st := none) hs rfl ?_
  unfold sliceMade slicePicked
  rw [show ((none : Option (Int × Tok)).map (·.1)).getD 1 = 1 from rfl]
  generalize l.map (·.1) = lo at *
  generalize u.map (·.1) = hi at *
  split
  · rename_i hh
    simp only [Bool.and_eq_true, beq_iff_eq] at hh
    rw [strIdx, List.length_map, List.length_range] at hh
    rw [cutS_all x hh.2] at q
    exact .now r (.str ..) q
  · rw [cutS_eq]
    refine ⟨sizeLine_ge (Nat.le_trans ?_ hx), .tok r (.str ..) q⟩
    exact Nat.le_trans (List.length_take_le' ..) (Nat.le_trans (Nat.le_trans (Nat.le_of_eq List.length_drop) (Nat.sub_le ..)) (Nat.le_of_eq (cps_len x)))
end
end
section
section
variable {C : Cx} {A : Around} {fm : Fm} {fa : List Addr} {loc : Loc} {σ : Hp} {g : Gh} {s : Shared} {Q Q' : MV → Hp → Prop} {QB : Bool → Hp → Prop} {QS : Fl → Loc → Hp → Prop}
noncomputable abbrev St (C : Cx) (A : Around) (fm : Fm) (t : Expr) (m : MV) (loc : Loc) (σ : Hp) (Q : Loc → Hp → Prop) : Prop := StT C A fm (assign t fm.env) m loc σ Q
theorem st_name {x : Str} {p : Pos} {m : MV} {Q : Loc → Hp → Prop} (hx : canSt fm x) (q : Q (loc.set x m) σ) : St C A fm (.Name x p) m loc σ Q := fun fa g s v r hv =>
  wpAny_assign_Name (store_name r hv hx fun s' r' d => ⟨g, _, σ, r', d, q⟩)
noncomputable def setAll : List Str → List MV → Loc → Loc
  | x :: xs, m :: ms, l => setAll xs ms (l.set x m)
  | _, _, l => l
theorem inOrder {Q : Loc → Hp → Prop} {xs : List Str} : ∀ {ps : List Pos} {ms : List MV} {vs : List Value} {loc : Loc} {g : Gh} {s : Shared}, (∀ x ∈ xs, canSt fm x) → xs.length = ps.length → xs.length = ms.length → Rel C g σ fm fa loc s → VRs C g s.heap ms vs →
    Q (setAll xs ms loc) σ → wpAny (model C.prog C.w) A (assignInOrder ((xs.zip ps).map fun p => assign (.Name p.1 p.2) fm.env) vs) (PostU C fm fa g s Q) NoE s := by
  induction xs with
  | nil =>
    intro ps ms vs loc g s _ _ hl r hv q
    obtain rfl := List.eq_nil_of_length_eq_zero hl.symm
    obtain rfl : vs = [] := hv.inv
    exact wpAny_pure ⟨g, loc, σ, r, .refl .., q⟩
  | cons x xs ih =>
    intro ps ms vs loc g s hx h1 h2 r hv q
    cases ps with
    | nil => exact nomatch h1
    | cons p ps =>
    cases ms with
    | nil => exact nomatch h2
    | cons m ms =>
    obtain ⟨v, vs, rfl, hv, hvs⟩ := hv.inv
    refine wpAny_bind (wpAny_holding (wpAny_assign_Name (store_name r hv (hx x (.head _)) fun s' r' d => ?_)))
    exact wpAny_mono (ih (fun y hy => hx y (.tail _ hy)) (Nat.succ.inj h1) (Nat.succ.inj h2) r' (hvs.mono (r.ge d)) q) (fun _ _ p => p.trans d) fun _ _ e => e
theorem st_tup {es : List Expr} {xs : List Str} {ps : List Pos} {k : Nat} {pos : Pos} {ms : List MV} {Q : Loc → Hp → Prop} (he : assignEach es fm.env = (xs.zip ps).map fun p => (false, assign (.Name p.1 p.2) fm.env))
    (hh : A.handled = none) (hx : ∀ x ∈ xs, canSt fm x) (h1 : xs.length = ps.length) (h2 : xs.length = ms.length) (q : Q (setAll xs ms loc) σ) : St C A fm (.Tuple es k pos) (.tup ms) loc σ Q := fun fa g s v r hv => by
  obtain ⟨a, vs, rfl, hp, ho, hl⟩ := hv.inv
  have hn : (assignEach es fm.env).length = (Array.mk vs).size := by
    rw [he, List.length_map, List.length_zip, ← h1, Nat.min_self, h2]; exact hl.length
  have hst : (assignEach es fm.env).findIdx? (·.1) = none := by rw [he, List.findIdx?_eq_none_iff]; intro x hx; obtain ⟨p, _, rfl⟩ := List.mem_map.mp hx; rfl
  rw [arm_assign_Tuple]
  refine wpAny_bind (wpAny_standAt ?_)
  unfold unpack
  rw [hn, hst]
  refine wpAny_bind (wpAny_holding (withSize (wpAny_unpackItems_tuple hh ho fun h' hk hz => ?_)))
  have k : ∀ b o, s.heap.get? b = some o → h'.get? b = some o := fun b o e => hk b o (Nat.ne_of_lt (Heap.lt_size e)) e
  rw [he, List.map_map]
  have d : Gd C fa g s g { s with heap := h' } := .ext k hz rfl rfl rfl
  exact wpAny_mono (inOrder (vs := vs) hx h1 h2 (r.ext k hz) (hl.mono (r.ge d)) q) (fun _ _ p => p.trans d) fun _ _ e => e
theorem ex_asg {t e : Expr} {pos : Pos} (h : Ev C A fm e loc σ fun m σ₁ => St C A fm t m loc σ₁ fun l σ₂ => QS .next l σ₂)
    (he : (assignEach [t] fm.env).map (·.2) = [assign t fm.env]) (hs : swapsWithSole [t] e pos.line fm.env = pure false) (hw : swappedStores [t] e fm.env = pure none) : Ex C A fm (.Assign [t] e pos) loc σ QS := fun fa g s r => by
  refine wpAny_Assign_stores (wpAny_mono (h fa g s r) ?_ fun _ _ e => e) hs hw
  rintro v s₁ ⟨g₁, m, σ₁, r₁, hv, d₁, h₁⟩
  rw [he]
  show wpAny _ A (assign t fm.env v) _ _ _
  refine wpAny_mono (h₁ fa g₁ s₁ v r₁ hv) ?_ fun _ _ e => e
  rintro _ s₂ ⟨g₂, l₂, σ₂, r₂, d₂, q⟩
  exact ⟨g₂, .next, l₂, σ₂, r₂, .next, d₁.trans d₂, q⟩
theorem ex_asg2 {t₁ t₂ e : Expr} {pos : Pos} (h : Ev C A fm e loc σ fun m σ₁ => St C A fm t₁ m loc σ₁ fun l σ₂ => St C A fm t₂ m l σ₂ fun l σ₃ => QS .next l σ₃)
    (he : (assignEach [t₁, t₂] fm.env).map (·.2) = [assign t₁ fm.env, assign t₂ fm.env] := by rfl) (hw : swappedStores [t₁, t₂] e fm.env = pure none := by rfl) : Ex C A fm (.Assign [t₁, t₂] e pos) loc σ QS := fun fa g s r => by
  refine wpAny_Assign_two (wpAny_mono (h fa g s r) ?_ fun _ _ e => e) he hw
  rintro v s₁ ⟨g₁, m, σ₁, r₁, hv, d₁, h₁⟩
  refine wpAny_mono (h₁ fa g₁ s₁ v r₁ hv) ?_ fun _ _ e => e
  rintro _ s₂ ⟨g₂, l₂, σ₂, r₂, d₂, h₂⟩
  refine wpAny_mono (h₂ fa g₂ s₂ v r₂ (hv.mono (r₁.ge d₂))) ?_ fun _ _ e => e
  rintro _ s₃ ⟨g₃, l₃, σ₃, r₃, d₃, q⟩
  exact ⟨g₃, .next, l₃, σ₃, r₃, .next, d₁.trans (d₂.trans d₃), q⟩
noncomputable def Set (C : Cx) (A : Around) (fm : Fm) (o i v : MV) (loc : Loc) (σ : Hp) (Q : Hp → Prop) : Prop :=
  ∀ fa g s x y z, Rel C g σ fm fa loc s → VR C g s.heap o x → VR C g s.heap i y → VR C g s.heap v z → wpAny (model C.prog C.w) A (setItem x y z) (PostU C fm fa g s fun l σ' => l = loc ∧ Q σ') NoE s
theorem ex_set {o i e : Expr} {p pos : Pos} (h : Ev C A fm e loc σ fun v σ₁ => Ev C A fm o loc σ₁ fun a σ₂ => Ev C A fm i loc σ₂ fun b σ₃ => Set C A fm a b v loc σ₃ fun σ₄ => QS .next loc σ₄)
    (hs : swapsWith e (some (.Subscript o i p)) pos.line fm.env = pure false := by rfl) : Ex C A fm (.Assign [.Subscript o i p] e pos) loc σ QS := fun fa g s r => by
  refine wpAny_Assign_Subscript (wpAny_mono (h fa g s r) ?_ fun _ _ e => e) hs
  rintro z s₁ ⟨g₁, v, σ₁, r₁, hz, d₁, h₁⟩
  refine wpAny_mono (h₁ fa g₁ s₁ r₁) ?_ fun _ _ e => e
  rintro x s₂ ⟨g₂, a, σ₂, r₂, hx, d₂, h₂⟩
  refine wpAny_mono (h₂ fa g₂ s₂ r₂) ?_ fun _ _ e => e
  rintro y s₃ ⟨g₃, b, σ₃, r₃, hy, d₃, h₃⟩
  refine wpAny_mono (h₃ fa g₃ s₃ x y z r₃ (hx.mono (r₂.ge d₃)) hy (hz.mono (r₁.ge (d₂.trans d₃)))) ?_ fun _ _ e => e
  rintro _ s₄ ⟨g₄, l, σ₄, r₄, d₄, rfl, q⟩
  exact ⟨g₄, .next, _, σ₄, r₄, .next, d₁.trans (d₂.trans (d₃.trans d₄)), q⟩
theorem VRs.set {h : Heap} {l : List MV} {r : List Value} (hl : VRs C g h l r) {m : MV} {v : Value} (hv : VR C g h m v) : ∀ i : Nat, VRs C g h (l.set i m) (r.set i v) := by
  induction l generalizing r with
  | nil => exact fun i => hl.inv ▸ .nil
  | cons a l ih =>
    obtain ⟨x, xs, rfl, ha, hl⟩ := hl.inv
    intro i
    cases i with
    | zero => exact .cons hv hl
    | succ i => exact .cons ha (ih hl i)
theorem setItem_plain {A : Around} {E : Value → Shared → Prop} {l : Addr} {items : Array Value} {k : Int} {t : Tok} {v : Value} {Q : Unit → Shared → Prop} (hl : s.heap.PlainList l items)
    (h0 : 0 ≤ k) (hfit : k < 2 ^ 63) (hn : k < items.size)
    (hQ : ∀ h', h'.PlainList l (items.setIfInBounds k.toNat v) → Heap.SameBut l s.heap h' → Q () { s with heap := h' }) :
    wpAny (model C.prog C.w) A (setItem (.ref l) (.int k t) v) Q E s := by
  have hl' := hl.isList
  obtain ⟨ne, ho⟩ := hl
  unfold setItem
  try with_reducible refine wpAny_holding ?_
  first | refine wpAny_bind (wpAny_pure ?_) | skip
  refine wpAny_bind (wpAny_sequenceKey hl'.typeIs (by decide) ?_)
  refine wpAny_bind (wpAny_callSpecial?_slot (name := Str.ofString "__setitem__") hl'.typeIs slot_list_setitem
    (wpAny_call_entry slot_list_setitem hl'.typeIs entry_list_setitem ?_ (args_list_setitem _ _ _)))
  show wpAny _ _ (Builtin.List.listSubscript? (.int k t) >>= _) _ _ s
  refine wpAny_bind (wpAny_listSubscript_int (fitsIndex_of h0 hfit) ?_)
  clear hfit
  obtain ⟨j, rfl⟩ := Int.eq_ofNat_of_zero_le h0
  have hj : j < items.size := by walk_at "l"
  have hx' : items[j]? = some items[j] := Array.getElem?_eq_getElem hj
  show wpAny _ _ ((seqItemAt l j >>= fun r => pure (r.map (j, ·))) >>= _) _ _ s
  refine wpAny_bind (wpAny_bind (wpAny_seqItemAt ho rfl (wpAny_pure ?_)))
  rw [hx']
  show wpAny _ _ (setSeqItemAt l j v >>= _) _ _ s
  have hfin : (s.heap.update l (Obj.mapSeq (·.setIfInBounds j v))).PlainList l (items.setIfInBounds j v) := by
    have e : Obj.mapSeq (·.setIfInBounds j v) (lstObj items ne) = lstObj (items.setIfInBounds j v) ne := by simp [Obj.mapSeq]
    exact ⟨ne, by rw [Heap.get?_update_self _ ho (by rw [e]; rfl), e]⟩
  refine wpAny_bind (wpAny_setSeqItemAt ho rfl ?_)
  first
    | exact wpAny_bind (wpAny_pure (wpAny_pure ⟨.none, rfl, wpAny_pure (hQ _ hfin (Heap.SameBut.update ..))⟩))
    | exact wpAny_pure ⟨.none, rfl, wpAny_pure (hQ _ hfin (Heap.SameBut.update ..))⟩
theorem set_list {n : Nat} {l : List MV} {k : Int} {v : MV} {Q : Hp → Prop} (hn : σ n = some (.list l)) (h0 : 0 ≤ k) (hk : k < l.length) (hf : k < 1000000000) (q : Q (σ.set n (.list (l.set k.toNat v)))) : Set C A fm (.ref n) (.int k) v loc σ Q := by
  intro fa g s x y z r hx hy hz
  obtain ⟨_, rfl⟩ := hy.inv
  obtain ⟨a, rfl, ha⟩ := hx.inv
  obtain ⟨xs, ho, hl⟩ := (r.gr.obj ha hn).inv
  have ht : ∀ b ∈ C.tabs, b < C.N0 := fun b hb => (r.gr.tabs b hb).1
  obtain ⟨hN, _, hP⟩ := r.gr.live n a ha
  refine setItem_plain ho h0 (lt63 hf) (Int.lt_of_lt_of_le hk (Int.ofNat_le.mpr (Nat.le_of_eq hl.length))) fun h' hL hb => ?_
  have hg : Ge g g s.heap h' := ⟨fun _ _ e => e, fun _ e => e, fun b o hp e => hb.extBut b o (fun q => hP (q ▸ hp)) e⟩
  have hL' : h'.PlainList a ⟨xs.set k.toNat z⟩ := by simpa using hL
  exact ⟨g, loc, _, r.upd (s' := { s with heap := h' }) ha hb (.list hL' ((hl.set hz _).mono hg)), .upd ha hN ht hb rfl rfl rfl, rfl, q⟩
end
end
section
section
variable {C : Cx} {A : Around} {fm : Fm} {fa : List Addr} {loc : Loc} {σ : Hp} {g : Gh} {s : Shared} {Q Q' : MV → Hp → Prop} {QB : Bool → Hp → Prop} {QS : Fl → Loc → Hp → Prop}
section
variable {i j : Int}
theorem op_eq (q : Q (.bool (i == j)) σ) : Op2 C A fm (compareOp .Eq) (.int i) (.int j) loc σ Q := op_int fun fa g s _ _ r => eq_int (.now r (.bool _) q)
theorem op_ne (q : Q (.bool (i != j)) σ) : Op2 C A fm (compareOp .NotEq) (.int i) (.int j) loc σ Q := op_int fun fa g s _ _ r => ne_int (.now r (.bool _) q)
theorem op_lt (q : Q (.bool (decide (i < j))) σ) : Op2 C A fm (compareOp .Lt) (.int i) (.int j) loc σ Q := op_int fun fa g s _ _ r => lt_int (.now r (.bool _) q)
theorem op_gt (q : Q (.bool (decide (i > j))) σ) : Op2 C A fm (compareOp .Gt) (.int i) (.int j) loc σ Q := op_int fun fa g s _ _ r => gt_int (.now r (.bool _) q)
theorem op_neg (q : Q (.int (-i)) σ) : Op1 C A fm (unaryOp .USub) (.int i) loc σ Q := fun fa g s x r hx => hx.inv.elim fun _ e => e ▸ neg_int (.tok r (.int ..) q)
theorem op_iadd (q : Q (.int (i + j)) σ) : Op2 C A fm (inplaceOp .Add) (.int i) (.int j) loc σ Q := op_int fun fa g s _ _ r => iadd_int (.tok r (.int ..) q)
theorem op_isub (q : Q (.int (i - j)) σ) : Op2 C A fm (inplaceOp .Sub) (.int i) (.int j) loc σ Q := op_int fun fa g s _ _ r => isub_int (.tok r (.int ..) q)
theorem op_div (hi : -1000000000000 < i ∧ i < 1000000000000) (hj : 0 < j) (hj1 : j < 1000000) (q : Q (.int (i / j)) σ) : Op2 C A fm (binaryOp .FloorDiv) (.int i) (.int j) loc σ Q := by
  refine op_int fun fa g s _ _ r => ?_
  refine floordiv_int (Int.ne_of_gt hj) ?_ (Or.inl (PyProof.noPylong_small (by walk_at "l")))
  rw [Int.fdiv_eq_ediv_of_nonneg _ (Int.le_of_lt hj)]
  exact .tok r (.int ..) q
end
theorem str_beq (x y : Str) : (x.cps.toList == y.cps.toList) = decide (x = y) := by
  by_cases h : x = y
  · subst h; simp
  · have : ¬ x.cps.toList = y.cps.toList := fun e => h (by cases x; cases y; simp at e; rw [e])
    rw [decide_eq_false h]
    simpa using this
section
variable {x y : Str}
theorem op_str {f : Value → Value → Sem Value} (h : ∀ fa g s t u, Rel C g σ fm fa loc s → wpAny (model C.prog C.w) A (f (.str x t) (.str y u)) (Post C fm fa loc g s Q) NoE s) : Op2 C A fm f (.str x) (.str y) loc σ Q := fun fa g s a b r hx hy => by
  obtain ⟨t, rfl⟩ := hx.inv
  obtain ⟨u, rfl⟩ := hy.inv
  exact h fa g s t u r
theorem op_eqs (q : Q (.bool (decide (x = y))) σ) : Op2 C A fm (compareOp .Eq) (.str x) (.str y) loc σ Q := by
  refine op_str fun fa g s _ _ r => ?_; refine PySem.P.eq_str ?_; rw [str_beq]; exact .now r (.bool _) q
theorem op_ins (q : Q (.bool (Txt.contains x y)) σ) : Op2 C A fm (compareOp .In) (.str y) (.str x) loc σ Q := by
  refine op_str fun fa g s _ _ r => ?_; exact PySem.SB.contains (.now r (.bool _) q)
theorem op_adds (hl : x.length + y.length ≤ 1000000) (q : Q (.str (x ++ y)) σ) : Op2 C A fm (binaryOp .Add) (.str x) (.str y) loc σ Q := by
  refine op_str fun fa g s _ _ r => ?_; exact PyProof.Rows.add_str (fun t' tk => .tok r (.str ..) q) (sizeLine_ge hl)
theorem op_iadds (hl : x.length + y.length ≤ 1000000) (q : Q (.str (x ++ y)) σ) : Op2 C A fm (inplaceOp .Add) (.str x) (.str y) loc σ Q := by
  refine op_str fun fa g s _ _ r => ?_; exact PyProof.Rows.iadd_str (fun t' tk => .tok r (.str ..) q) (sizeLine_ge hl)
end
theorem VRs.ints {h : Heap} {ns : List Int} {vs : List Value} (x : VRs C g h (ns.map MV.int) vs) : IntsAre vs ns := by
  induction ns generalizing vs with
  | nil => exact x.inv ▸ .nil
  | cons n ns ih =>
    obtain ⟨v, r, rfl, y, z⟩ := x.inv
    obtain ⟨t, rfl⟩ := y.inv
    exact .cons n t (ih z)
theorem op_nini {a : MV} {ns : List Int} {k : Int} (ha : lstOf σ a = some (ns.map MV.int)) (q : Q (.bool (!(ns.any (· == k)))) σ) : Op2 C A fm (compareOp .NotIn) (.int k) a loc σ Q := by
  intro fa g s x y r hx ha'
  obtain ⟨t, rfl⟩ := hx.inv
  obtain ⟨b, xs, rfl, ho, hl⟩ := r.gr.lst ha ha'
  exact notin_list_ints (vs := xs) ho hl.ints (.now r (.bool _) q)
theorem GR.notMods (r : GR C g σ s) {a : Addr} (h : C.N0 ≤ a) : (a == sysModules) = false := by
  have h1 := r.lo
  have h2 : sysModules = 1 := rfl
  rw [h2]
  exact beq_eq_false_iff_ne.mpr (fun q => by rw [q] at h; exact absurd (Nat.le_trans h1 h) (by decide))
theorem VRd.isSome {h : Heap} {x : Str} {l : List (Str × MV)} {kvs : List (Str × Value)} (hl : VRd C g h l kvs) : (valueAt kvs x).isSome = (valAt l x).isSome := by
  cases e : valAt l x with
  | none => rw [hl.no e]; rfl
  | some m => obtain ⟨v, hv, _⟩ := hl.at e; rw [hv]; rfl
theorem op_ind {a : MV} {l : List (Str × MV)} {k : Str} (ha : dctOf σ a = some l) (q : Q (.bool (valAt l k).isSome) σ) : Op2 C A fm (compareOp .In) (.str k) a loc σ Q := by
  intro fa g s x y r hx ha'
  obtain ⟨t, rfl⟩ := hx.inv
  obtain ⟨b, kvs, rfl, ho, hl, hN⟩ := r.gr.dct ha ha'
  refine wpAny_in_of (strKind_is ..) (r.gr.notMods hN) ho.mapOf ?_
  rw [hl.isSome]
  exact .tok r (.bool _) q
noncomputable def putAt : List (Str × MV) → Str → MV → List (Str × MV)
  | [], k, v => [(k, v)]
  | (y, u) :: l, k, v => if y = k then (y, v) :: l else (y, u) :: putAt l k v
theorem putAt_cons (y : Str) (u : MV) (l : List (Str × MV)) (k : Str) (v : MV) : putAt ((y, u) :: l) k v = if y = k then (y, v) :: l else (y, u) :: putAt l k v := rfl
theorem VRd.keys {h : Heap} {l : List (Str × MV)} {kvs : List (Str × Value)} (x : VRd C g h l kvs) : l.map (·.1) = kvs.map (·.1) := by
  induction l generalizing kvs with
  | nil => exact x.inv ▸ rfl
  | cons p l ih => obtain ⟨v, r, rfl, _, y⟩ := x.inv; exact congrArg (p.1 :: ·) (ih y)
theorem VRd.len {h : Heap} {l : List (Str × MV)} {kvs : List (Str × Value)} (hl : VRd C g h l kvs) : l.length = kvs.length := by
  have := congrArg List.length hl.keys
  simpa using this
theorem stored_hit {y k : Str} {u v : Value} {r : List (Str × Value)} (hy : y = k) (hn : ¬ y ∈ r.map (·.1)) : PySem.stored ((y, u) :: r) k v = (y, v) :: r := by
  unfold PySem.stored
  rw [if_pos (by simp [hy]), List.map_cons, map_store_of_not_mem _ _ _ (by rw [← hy]; exact hn)]
  simp [hy]
theorem stored_miss {y k : Str} {u v : Value} {r : List (Str × Value)} (hy : ¬ y = k) : PySem.stored ((y, u) :: r) k v = (y, u) :: PySem.stored r k v := by
  unfold PySem.stored
  by_cases hk : (r.any fun kv => decide (kv.1 = k)) = true
  · rw [if_pos hk, if_pos (by simp [hy] at hk ⊢; exact hk)]
    simp [hy]
  · rw [if_neg hk, if_neg (by simp [hy] at hk ⊢; exact hk)]
    rfl
theorem VRd.stored {h : Heap} {k : Str} {m : MV} {v : Value} (hv : VR C g h m v) {l : List (Str × MV)} {kvs : List (Str × Value)} (x : VRd C g h l kvs) (hn : (kvs.map (·.1)).Nodup) : VRd C g h (putAt l k m) (PySem.stored kvs k v) := by
  induction l generalizing kvs with
  | nil => exact x.inv ▸ .cons hv .nil
  | cons p l ih =>
    obtain ⟨u, r, rfl, a, b⟩ := x.inv
    rw [List.map_cons, List.nodup_cons] at hn
    show VRd C g h (if p.1 = k then (p.1, m) :: l else p :: putAt l k m) _
    by_cases hy : p.1 = k
    · rw [if_pos hy, stored_hit hy hn.1]
      exact .cons hv b
    · rw [if_neg hy, stored_miss hy]
      exact .cons a (ih b hn.2)
theorem set_dict {n : Nat} {l : List (Str × MV)} {k : Str} {v : MV} {Q : Hp → Prop} (hn : σ n = some (.dict l)) (hl : l.length ≤ 1000000) (q : Q (σ.set n (.dict (putAt l k v)))) : Set C A fm (.ref n) (.str k) v loc σ Q := by
  intro fa g s x y z r hx hy hz
  obtain ⟨t, rfl⟩ := hy.inv
  obtain ⟨a, rfl, ha⟩ := hx.inv
  obtain ⟨kvs, ho, hd⟩ := (r.gr.obj ha hn).inv
  have hN := (r.gr.live n a ha).1
  have ht : ∀ b ∈ C.tabs, b < C.N0 := fun b hb => (r.gr.tabs b hb).1
  obtain ⟨_, _, hP⟩ := r.gr.live n a ha
  refine via_p fun P kP => ?_
  obtain ⟨o, es, ep, ho1, ho2, ho3, ho4, ho5, hnd⟩ := id ho
  refine kP ?_
  clear kP P
  refine wpAny_setItem_pairs (strKind_is ..) ho (fun h' hL hb => ?_) (sizeLine_ge (by rw [← hd.len]; exact hl))
  have hg : Ge g g s.heap h' := ⟨fun _ _ e => e, fun _ e => e, fun b o hp e => hb.extBut b o (fun q => hP (q ▸ hp)) e⟩
  exact ⟨g, loc, _, r.upd (s' := { s with heap := h', toks := s.toks + 1 }) ha hb (.dict hL ((hd.stored hz hnd).mono hg)), .upd ha hN ht hb rfl rfl rfl, rfl, q⟩
theorem ex_augset {o i e : Expr} {p pos : Pos} {op : Operator} (h : Ev C A fm o loc σ fun a σ₁ => Ev C A fm i loc σ₁ fun b σ₂ => Itm C A fm a b loc σ₂ fun c σ₃ => Ev C A fm e loc σ₃ fun d σ₄ => Op2 C A fm (inplaceOp op) c d loc σ₄ fun k σ₅ => Set C A fm a b k loc σ₅ fun σ₆ => QS .next loc σ₆)
    (hi : ∀ ov iv new, augStore i ov iv new = (do holding [new, ov, iv] (setItem ov iv new); release [new, ov, iv] []; pure .next) := by intros; rfl) : Ex C A fm (.AugAssign (.Subscript o i p) op e pos) loc σ QS := fun fa g s r => by
  refine wpAny_AugAssign_SubscriptAny (wpAny_mono (h fa g s r) ?_ fun _ _ e => e) hi
  rintro x s₁ ⟨g₁, a, σ₁, r₁, hx, d₁, h₁⟩
  refine wpAny_mono (h₁ fa g₁ s₁ r₁) ?_ fun _ _ e => e
  rintro y s₂ ⟨g₂, b, σ₂, r₂, hy, d₂, h₂⟩
  refine wpAny_mono (h₂ fa g₂ s₂ x y r₂ (hx.mono (r₁.ge d₂)) hy).2 ?_ fun _ _ e => e
  rintro z s₃ ⟨g₃, c, σ₃, r₃, hz, d₃, h₃⟩
  refine wpAny_mono (h₃ fa g₃ s₃ r₃) ?_ fun _ _ e => e
  rintro u s₄ ⟨g₄, d, σ₄, r₄, hu, d₄, h₄⟩
  refine wpAny_mono (h₄ fa g₄ s₄ z u r₄ (hz.mono (r₃.ge d₄)) hu) ?_ fun _ _ e => e
  rintro v s₅ ⟨g₅, k, σ₅, r₅, hv, d₅, h₅⟩
  refine wpAny_mono (h₅ fa g₅ s₅ x y v r₅ (hx.mono (r₁.ge (d₂.trans (d₃.trans (d₄.trans d₅))))) (hy.mono (r₂.ge (d₃.trans (d₄.trans d₅)))) hv) ?_ fun _ _ e => e
  rintro _ s₆ ⟨g₆, l, σ₆, r₆, d₆, rfl, q⟩
  exact ⟨g₆, .next, _, σ₆, r₆, .next, d₁.trans (d₂.trans (d₃.trans (d₄.trans (d₅.trans d₆)))), q⟩
theorem op_addl {a b : MV} {l m : List MV} (ha : lstOf σ a = some l) (hb : lstOf σ b = some m) (hz : l.length + m.length ≤ 1000000) (q : Q (.lst (l ++ m)) σ) : Op2 C A fm (binaryOp .Add) a b loc σ Q := by
  intro fa g s x y r hx hy
  refine via_p fun P kP => ?_
  obtain ⟨a', xs, rfl, ho, hl⟩ := r.gr.lst ha hx
  refine kP ?_
  clear kP P
  refine via_p fun P kP => ?_
  obtain ⟨b', ys, rfl, ho', hl'⟩ := r.gr.lst hb hy
  refine kP ?_
  clear kP P
  refine via_p fun P kP => ?_
  obtain ⟨⟨cls, dd, data, sl⟩, h1, hc, n, hd⟩ := ho
  refine kP ?_
  clear kP P
  refine via_p fun P kP => ?_
  obtain ⟨⟨cls2, dd2, data2, sl2⟩, h2, hc2, n2, hd2⟩ := ho'
  refine kP ?_
  clear kP P
  simp only at hc hd hc2 hd2
  subst hc hd hc2 hd2
  have e1 := hl.length
  have e2 := hl'.length
  refine concat_meets ⟨_, h1, rfl⟩ ⟨_, h2, rfl⟩ noFill_list_add seq_list_add PySem.F.slot_list_add PySem.F.entry_list_add (PySem.F.args_list_add_2 _ _) (list_addW a' b' ⟨xs⟩ ⟨ys⟩ n n2 dd dd2 sl sl2 (sizeLine_ge (by show xs.length + ys.length ≤ _; (first | lia | omega)))) ⟨h1, h2, ?_⟩
  have e : (Array.mk xs ++ Array.mk ys) = Array.mk (xs ++ ys) := by simp
  rw [e]
  exact Post.lst r (hl.append hl') q
end
end
section
noncomputable def Free (C : Cx) (g : Gh) (wr : List Addr) : Prop := ∀ b ∈ wr, C.N0 ≤ b ∧ (∀ n, g.ρ n ≠ some b) ∧ ¬ g.P b
section
variable {C : Cx} {A : Around} {fm : Fm} {fa : List Addr} {loc : Loc} {σ : Hp} {g : Gh} {s : Shared} {Q Q' : MV → Hp → Prop} {QB : Bool → Hp → Prop} {QS : Fl → Loc → Hp → Prop}
theorem Rel.step {g' : Gh} {σ' : Hp} {s' : Shared} {wr : List Addr} (r : Rel C g σ fm fa loc s) (r' : GR C g' σ' s') (d : Gd C wr g s g' s') (hw : ∀ b ∈ wr, b ∉ fa ∧ ∀ x, fm.env.cells.lookup x ≠ some b) (hP : ∀ b ∈ wr, ¬ g.P b) : Rel C g' σ' fm fa loc s' := by
  have e : Ge g g' s.heap s'.heap := d.ge (fun n a e => (r.gr.live n a e).2.2) hP r.gr.tabP
  have hN : ∀ a, C.N0 ≤ a → a ∉ C.tabs := fun a h ht => Nat.lt_irrefl _ (Nat.lt_of_lt_of_le (r.gr.tabs a ht).1 h)
  have kf : ∀ a ∈ fa, ∀ o, s.heap.get? a = some o → s'.heap.get? a = some o := fun a ha o e => d.keep a o e (r.fr.fa a ha).2.2.2 (fun h => (hw a h).1 ha) (hN a (r.fr.fa a ha).1)
  have kc : ∀ x c, fm.env.cells.lookup x = some c → ∀ o, s.heap.get? c = some o → s'.heap.get? c = some o := fun x c hc o e =>
    d.keep c o e (r.fr.cells x c hc).2.2.2.1 (fun h => (hw c h).2 x hc) (hN c (r.fr.cells x c hc).2.2.1)
  refine ⟨r', r.fr.fn, r.fr.glob, r.fr.bi, ?_, r.fr.L, fun x v h => ?_, fun x c h => ?_, r.fr.own, r.fr.inj, fun a h => ?_, r.fr.has⟩
  · obtain ⟨m, o, es, ep, ho, q⟩ := r.fr.ns; exact ⟨m, o, es, ep, kf _ r.fr.L _ ho, q⟩
  · refine via_p fun P kP => ?_
    obtain ⟨u, hu, hv⟩ := r.fr.var x v h
    refine kP ?_
    clear kP P
    refine ⟨u, ?_, hv.mono e⟩
    rcases hu with ⟨q, m, ⟨o, es, ep, ho, q'⟩, em⟩ | ⟨q, c, hc, o, ho, q'⟩
    · exact .inl ⟨q, m, ⟨o, es, ep, kf _ r.fr.L _ ho, q'⟩, em⟩
    · exact .inr ⟨q, c, hc, o, kc x c hc _ ho, q'⟩
  · refine via_p fun P kP => ?_
    obtain ⟨⟨v, o, ho, q'⟩, c1, c2, c3, c5⟩ := r.fr.cells x c h
    refine kP ?_
    clear kP P
    have hl := Heap.lt_size ho
    exact ⟨⟨v, o, kc x c h _ ho, q'⟩, c1, c2, fun n hn => (d.ρn n c hn).elim (c3 n) fun w => Nat.lt_irrefl _ (Nat.lt_of_lt_of_le hl w),
      c5⟩
  · refine via_p fun P kP => ?_
    obtain ⟨x, y, z, w⟩ := r.fr.fa a h
    refine kP ?_
    clear kP P
    exact ⟨x, Nat.lt_of_lt_of_le y d.size, fun hp => (d.Pn a hp).elim z fun q => Nat.lt_irrefl _ (Nat.lt_of_lt_of_le y q), fun n hn => (d.ρn n a hn).elim (w n) fun q => Nat.lt_irrefl _ (Nat.lt_of_lt_of_le y q)⟩
theorem Free.step {g' : Gh} {s' : Shared} {wr fb : List Addr} (h : Free C g wr) (hl : ∀ b ∈ wr, b < s.heap.objs.size) (d : Gd C fb g s g' s') : Free C g' wr := fun b hb => by
  obtain ⟨h1, h2, h3⟩ := h b hb
  have hb' := hl b hb
  exact ⟨h1, fun n hn => (d.ρn n b hn).elim (h2 n) fun w => Nat.lt_irrefl _ (Nat.lt_of_lt_of_le hb' w), fun hp => (d.Pn b hp).elim h3 fun w => Nat.lt_irrefl _ (Nat.lt_of_lt_of_le hb' w)⟩
theorem GR.loop {h' : Heap} {tk : Nat} {wr : List Addr} (r : GR C g σ s) (hw : Free C g wr) (k : ∀ b o, b ∉ wr → s.heap.get? b = some o → h'.get? b = some o) (hs : s.heap.objs.size ≤ h'.objs.size) :
    GR C g σ { s with heap := h', toks := tk } ∧ Gd C wr g s g { s with heap := h', toks := tk } := by
  have hlo : ∀ b, b < C.N0 → b ∉ wr := fun b h q => Nat.lt_irrefl _ (Nat.lt_of_lt_of_le h (hw b q).1)
  have hρ : ∀ n a, g.ρ n = some a → a ∉ wr := fun n a h q => (hw a q).2.1 n h
  have hP : ∀ a, g.P a → a ∉ wr := fun a h q => (hw a q).2.2 h
  have e : Ge g g s.heap h' := ⟨fun _ _ e => e, fun _ e => e, fun a o hp e => k a o (hP a hp) e⟩
  refine ⟨⟨r.lo, fun p hp => ⟨(r.K p hp).1, (r.K p hp).2.1, k _ _ (hlo _ (r.K p hp).1) (r.K p hp).2.2⟩, ?_, Nat.le_trans r.size hs, fun n o h => ?_, r.inj, fun n a h => ?_, fun a h => ?_, fun a h => ?_, r.dom⟩, ?_⟩
  · obtain ⟨mc, ⟨o, es, ep, ho, q⟩, h0⟩ := r.lim
    exact ⟨mc, ⟨o, es, ep, k _ _ (hlo _ (Nat.lt_of_lt_of_le (by decide) r.lo)) ho, q⟩, h0⟩
  · obtain ⟨a, ha, ho⟩ := r.heap n o h
    exact ⟨a, ha, ho.mono e fun ob q => k _ _ (hρ n a ha) q⟩
  · obtain ⟨x, y, z⟩ := r.live n a h; exact ⟨x, Nat.lt_of_lt_of_le y hs, z⟩
  · obtain ⟨x, y⟩ := r.P a h; exact ⟨x, Nat.lt_of_lt_of_le y hs⟩
  · obtain ⟨x, vs, q, t⟩ := r.tabs a h; exact ⟨x, vs, k _ _ (hlo _ x) q, t.mono e⟩
  · exact ⟨fun b o e _ h2 _ => k b o h2 e, fun a ha ps q => ⟨#[], by
      have := k a _ (hlo a (r.tabs a ha).1) q
      rw [this]; simp⟩, hs, fun _ _ e => e, fun _ _ e => .inl e, fun _ e => e, fun _ e => .inl e, rfl, rfl, id⟩
inductive NextP (C : Cx) (wr : List Addr) (σ : Hp) (m : MV) (v : Value) (I : Gh → Hp → Heap → Prop) (g : Gh) (s s' : Shared) : Prop
  | mk (g' : Gh) (r : GR C g' σ s') (d : Gd C wr g s g' s') (hv : VR C g' s'.heap m v) (hi : I g' σ s'.heap)
structure Iter (C : Cx) (A : Around) (tg : Expr) (it : Value) (wr : List Addr) (n : Nat) (item : Nat → MV) (J : Hp → Prop) (IR : Nat → Gh → Hp → Heap → Prop) : Prop where
  next : ∀ i g σ s, GR C g σ s → Free C g wr → IR i g σ s.heap → J σ → i < n →
    wpAny (model C.prog C.w) A (pyNext it) (fun r s₁ => ∃ v, r = some v ∧ wpAny (model C.prog C.w) A (letOwnedTupleGo tg it v) (fun _ s₂ => NextP C wr σ (item i) v (IR (i + 1)) g s s₂) NoE s₁) NoE s
  done : ∀ g σ s, GR C g σ s → Free C g wr → IR n g σ s.heap → J σ →
    wpAny (model C.prog C.w) A (pyNext it) (fun r s₁ => r = none ∧ GR C g σ s₁ ∧ Gd C wr g s g s₁) NoE s
  stab : ∀ i g σ s g' σ' s' fb, GR C g σ s → Free C g wr → IR i g σ s.heap → J σ → Gd C fb g s g' s' → (∀ b ∈ wr, b ∉ fb) → (∀ b ∈ fb, ¬ g.P b) → GR C g' σ' s' → J σ' → IR i g' σ' s'.heap
  self : ∀ i g σ s, GR C g σ s → IR i g σ s.heap → J σ → ∀ Q, Q it s → wpAny (model C.prog C.w) A (pyIter it) Q NoE s
  live : ∀ i g σ s, GR C g σ s → IR i g σ s.heap → J σ → ∀ b ∈ wr, b < s.heap.objs.size
inductive WalkP (C : Cx) (A : Around) (tg : Expr) (σ : Hp) (n : Nat) (item : Nat → MV) (J : Hp → Prop) (g : Gh) (s : Shared) (it : Value) (s' : Shared) : Prop
  | mk (wr : List Addr) (IR : Nat → Gh → Hp → Heap → Prop) (W : Iter C A tg it wr n item J IR) (r : GR C g σ s') (d : Gd C [] g s g s') (hF : Free C g wr) (hz : ∀ b ∈ wr, s.heap.objs.size ≤ b) (hi : IR 0 g σ s'.heap)
noncomputable def Walk (C : Cx) (A : Around) (tg : Expr) (m : MV) (σ : Hp) (n : Nat) (item : Nat → MV) (J : Hp → Prop) : Prop :=
  J σ ∧ ∀ g s x, GR C g σ s → VR C g s.heap m x → wpAny (model C.prog C.w) A (pyIter x) (WalkP C A tg σ n item J g s) NoE s
inductive LoopI (C : Cx) (fm : Fm) (fa wr : List Addr) (n : Nat) (J : Hp → Prop) (IR : Nat → Gh → Hp → Heap → Prop) (Inv : Nat → Loc → Hp → Prop) (g₀ : Gh) (s₀ : Shared) (k : Nat) (s' : Shared) : Prop
  | mk (i : Nat) (g' : Gh) (l' : Loc) (σ' : Hp) (e : k + i = n) (r : Rel C g' σ' fm fa l' s') (d : Gd C fa g₀ s₀ g' s') (hI : Inv i l' σ') (hJ : J σ') (hF : Free C g' wr) (hi : IR i g' σ' s'.heap)
theorem Gd.loopD {wr : List Addr} {g₀ g₂ : Gh} {s₀ s₂ : Shared} (d' : Gd C fa g₀ s₀ g s) (d₂ : Gd C wr g s g₂ s₂) (hw0 : ∀ b ∈ wr, s₀.heap.objs.size ≤ b) : Gd C fa g₀ s₀ g₂ s₂ :=
  ((d'.weak (fa := wr ++ fa) fun a h => .inl (List.mem_append_right _ h)).trans (d₂.weak fun a h => .inl (List.mem_append_left _ h))).weak fun a h => (List.mem_append.mp h).elim (fun q => .inr (hw0 a q)) .inl
theorem loop_next {tg : Expr} {it : Value} {wr : List Addr} {n i k : Nat} {item : Nat → MV} {J : Hp → Prop} {IR : Nat → Gh → Hp → Heap → Prop} {Inv : Nat → Loc → Hp → Prop} {g₀ g₂ : Gh} {s₀ s₂ : Shared} {σ₂ : Hp} {l₂ : Loc}
    (W : Iter C A tg it wr n item J IR) (hi : i < n) (hk : k + i = n) (r : Rel C g σ fm fa loc s) (hlv : ∀ b ∈ wr, b < s.heap.objs.size) (F : Free C g wr) (ir : IR (i + 1) g σ s.heap) (hJ : J σ) (hwf : ∀ b ∈ wr, b ∉ fa ∧ ∀ x, fm.env.cells.lookup x ≠ some b)
    (D : Gd C fa g₀ s₀ g s) (d : Gd C fa g s g₂ s₂) (r₂ : Rel C g₂ σ₂ fm fa l₂ s₂) (h : Inv (i + 1) l₂ σ₂ ∧ J σ₂) : ∃ m, m < k ∧ LoopI C fm fa wr n J IR Inv g₀ s₀ m s₂ :=
  ⟨k - 1, by walk_at "l", i + 1, g₂, l₂, σ₂, by walk_at "l", r₂, D.trans d, h.1, h.2, F.step hlv d, W.stab (i + 1) g σ s g₂ σ₂ s₂ fa r.gr F ir hJ d (fun b hb => (hwf b hb).1) (fun b hb => (r.fr.fa b hb).2.2.1) r₂.gr h.2⟩
theorem loop_for {tg : Expr} {it : Value} {wr : List Addr} {n : Nat} {item : Nat → MV} {J : Hp → Prop} {IR : Nat → Gh → Hp → Heap → Prop} {body orelse : List Stmt} {g₀ : Gh} {s₀ : Shared}
    (W : Iter C A tg it wr n item J IR) (Inv : Nat → Loc → Hp → Prop)
    (turn : ∀ i loc σ, i < n → Inv i loc σ → J σ → St C A fm tg (item i) loc σ fun l₁ σ₁ => Exs C A fm body l₁ σ₁ fun f l σ₂ => (match f with
        | .next | .cont => Inv (i + 1) l σ₂ ∧ J σ₂
        | .brk => QS .next l σ₂
        | .ret v => QS (.ret v) l σ₂))
    (fin : ∀ loc σ, Inv n loc σ → J σ → Exs C A fm orelse loc σ QS)
    (hw0 : ∀ b ∈ wr, s₀.heap.objs.size ≤ b) (hwf : ∀ b ∈ wr, b ∉ fa ∧ ∀ x, fm.env.cells.lookup x ≠ some b)
    (hI : Inv 0 loc σ) (hJ : J σ) (r : Rel C g σ fm fa loc s) (hF : Free C g wr) (hir : IR 0 g σ s.heap) (d₀ : Gd C fa g₀ s₀ g s) :
    codeAny (model C.prog C.w) A (.forLoop tg it body orelse fm.env) (fun r s' => match r with | .ok f => PostS C fm fa g₀ s₀ QS f s' | .error e => cameBackBy (model C.prog C.w) A fm.env NoE e s') s := by
  refine codeAny_forLoop_any (LoopI C fm fa wr n J IR Inv g₀ s₀) (fun k s' hI => ?_) n ⟨0, g, loc, σ, rfl, r, d₀, hI, hJ, hF, hir⟩
  obtain ⟨i, g', l', σ', hk, r', d', hI, hJ, hF, hir⟩ := hI
  have hlv := W.live i g' σ' s' r'.gr hir hJ
  by_cases hi : i < n
  · refine wpAny_mono (W.next i g' σ' s' r'.gr hF hir hJ hi) ?_ fun _ _ e => e.elim
    rintro _ s₁ ⟨v, rfl, h₁⟩
    refine wpAny_mono h₁ ?_ fun _ _ e => e.elim
    rintro _ s₂ ⟨g₂, gr₂, d₂, hv, ir₂⟩
    have r₂ := r'.step gr₂ d₂ hwf fun b hb => (hF b hb).2.2
    refine wpAny_mono (turn i l' σ' hi hI hJ fa g₂ s₂ v r₂ hv) ?_ fun _ _ e => e.elim
    rintro _ s₃ ⟨g₃, l₃, σ₃, r₃, d₃, h₃⟩
    refine wpAny_mono (h₃ fa g₃ s₃ r₃) ?_ fun _ _ e => e.elim
    rintro f s₄ ⟨g₄, fl, l₄, σ₄, r₄, hf, d₄, h₄⟩
    have D := d'.loopD d₂ hw0
    have fin2 := fun h => loop_next (Inv := Inv) W hi hk r₂ (fun b hb => Nat.lt_of_lt_of_le (hlv b hb) d₂.size) (hF.step hlv d₂) ir₂ hJ hwf D (d₃.trans d₄) r₄ h
    cases hf with
    | next => exact fin2 h₄
    | cont => exact fin2 h₄
    | brk => exact ⟨g₄, .next, l₄, σ₄, r₄, .next, D.trans (d₃.trans d₄), h₄⟩
    | ret hv => exact ⟨g₄, _, l₄, σ₄, r₄, .ret hv, D.trans (d₃.trans d₄), h₄⟩
  · obtain rfl : i = n := by walk_at "l"
    refine wpAny_mono (W.done g' σ' s' r'.gr hF hir hJ) ?_ fun _ _ e => e.elim
    rintro _ s₁ ⟨rfl, gr₁, d₁⟩
    exact wpAny_mono (fin l' σ' hI hJ fa g' s₁ (r'.step gr₁ d₁ hwf fun b hb => (hF b hb).2.2)) (fun f s₂ p => p.trans (d'.loopD d₁ hw0)) fun _ _ e => e.elim
inductive WalkQ (C : Cx) (A : Around) (fm : Fm) (fa : List Addr) (tg : Expr) (loc : Loc) (n : Nat) (item : Nat → MV) (J : Hp → Prop) (Q : Hp → Prop) (g : Gh) (s : Shared) (it : Value) (s' : Shared) : Prop
  | mk (g' : Gh) (σ' : Hp) (wr : List Addr) (IR : Nat → Gh → Hp → Heap → Prop) (W : Iter C A tg it wr n item J IR) (r : Rel C g' σ' fm fa loc s') (d : Gd C fa g s g' s') (hF : Free C g' wr)
    (hz : ∀ b ∈ wr, s.heap.objs.size ≤ b ∧ b ∉ fa ∧ ∀ x, fm.env.cells.lookup x ≠ some b) (hi : IR 0 g' σ' s'.heap) (hJ : J σ') (q : Q σ')
noncomputable def WalkE (C : Cx) (A : Around) (fm : Fm) (tg e : Expr) (loc : Loc) (σ : Hp) (n : Nat) (item : Nat → MV) (J : Hp → Prop) (Q : Hp → Prop) : Prop :=
  ∀ fa g s, Rel C g σ fm fa loc s → wpAny (model C.prog C.w) A (eval e fm.env) (fun x s₁ => wpAny (model C.prog C.w) A (pyIter x) (WalkQ C A fm fa tg loc n item J Q g s) NoE s₁) NoE s
theorem Rel.apart (r : Rel C g σ fm fa loc s) {b : Addr} (h : s.heap.objs.size ≤ b) : b ∉ fa ∧ ∀ x, fm.env.cells.lookup x ≠ some b :=
  ⟨fun q => Nat.lt_irrefl _ (Nat.lt_of_lt_of_le (r.fr.fa b q).2.1 h), fun y q => by
    obtain ⟨⟨v, hv⟩, _⟩ := r.fr.cells y b q
    exact Nat.lt_irrefl _ (Nat.lt_of_lt_of_le hv.lt h)⟩
theorem walk_of {tg e : Expr} {n : Nat} {item : Nat → MV} {J : Hp → Prop} {Q : Hp → Prop} (h : Ev C A fm e loc σ fun m σ₁ => Walk C A tg m σ₁ n item J ∧ Q σ₁) : WalkE C A fm tg e loc σ n item J Q := fun fa g s r => by
  refine wpAny_mono (h fa g s r) ?_ fun _ _ e => e
  rintro x s₁ ⟨g₁, m, σ₁, r₁, hx, d₁, ⟨hJ, hw⟩, q⟩
  refine wpAny_mono (hw g₁ s₁ x r₁.gr hx) ?_ fun _ _ e => e
  rintro it s₂ ⟨wr, IR, W, gr₂, d₂, hF, hsz, hir⟩
  exact ⟨g₁, σ₁, wr, IR, W, r₁.call gr₂ d₂, d₁.trans (d₂.weak fun a h => nomatch h), hF, fun b hb => ⟨Nat.le_trans d₁.size (hsz b hb), r₁.apart (hsz b hb)⟩, hir, hJ, q⟩
theorem ex_for {tg it : Expr} {body orelse : List Stmt} {pos : Pos} (n : Nat) (item : Nat → MV) (J : Hp → Prop) (Inv : Nat → Loc → Hp → Prop)
    (h : WalkE C A fm tg it loc σ n item J fun σ₁ => Inv 0 loc σ₁)
    (turn : ∀ i loc σ, i < n → Inv i loc σ → J σ → St C A fm tg (item i) loc σ fun l₁ σ₁ => Exs C A fm body l₁ σ₁ fun f l σ₂ => (match f with
        | .next | .cont => Inv (i + 1) l σ₂ ∧ J σ₂
        | .brk => QS .next l σ₂
        | .ret v => QS (.ret v) l σ₂))
    (fin : ∀ loc σ, Inv n loc σ → J σ → Exs C A fm orelse loc σ QS) (hs : ∀ x, foldedSetIterable it fm.env x = pure x := by intro _; rfl) : Ex C A fm (.For tg it body orelse pos) loc σ QS := fun fa g s r => by
  refine wpAny_For (wpAny_mono (h fa g s r) (fun x s₁ h₁ => wpAny_mono h₁ ?_ fun _ _ e => e) fun _ _ e => e) hs
  rintro it s₂ ⟨g₂, σ₂, wr, IR, W, r₂, d₂, hF, hsz, hir, hJ, hI⟩
  exact loop_for (g₀ := g) (s₀ := s) W Inv turn fin (fun b hb => (hsz b hb).1) (fun b hb => (hsz b hb).2) hI hJ r₂ hF hir d₂
end
end
section
section
variable {C : Cx} {A : Around} {fm : Fm} {fa : List Addr} {loc : Loc} {σ : Hp} {g : Gh} {s : Shared} {Q Q' : MV → Hp → Prop} {QB : Bool → Hp → Prop} {QS : Fl → Loc → Hp → Prop}
noncomputable def PlainTg (C : Cx) (A : Around) (T : List String) (tg : Expr) : Prop := ∀ (s : Shared) (I : Addr) (v : Value) (R : Unit → Shared → Prop), (∃ o n vs, s.heap.get? I = some o ∧ o.cls = .type n ∧ n ∈ T ∧ o.data = .fields vs) → R () s → wpAny (model C.prog C.w) A (letOwnedTupleGo tg (.ref I) v) R NoE s
theorem plainTg {tg : Expr} : PlainTg C A ["list_iterator", "range_iterator", "str_ascii_iterator", "str_iterator", "tuple_iterator", "callable_iterator"] tg := by
  rintro s I v R hX4 hR
  refine via_p fun P kP => ?_
  obtain ⟨o, n, vs, ho, hc, hn, hd⟩ := hX4
  refine kP ?_
  clear kP P
  unfold letOwnedTupleGo
  have main : wpAny (model C.prog C.w) A (do
      let (.ref r, .ref a) := (Value.ref I, v) | return
      let o ← load r
      match o.cls, o.data with
      | .type n, .fields vs =>
        if ["enumerate", "zip", "dict_itemiterator", "dict_reverseitemiterator", "odict_iterator", "itertools.zip_longest", "itertools.pairwise"].contains n && vs[0]? == some (rawInt a) then
          rule "for.unpacks-the-owned-tuple"
          updateField r 0 .none
      | _, _ => pure ()) R NoE s := by
    cases v with
    | ref a =>
      refine wpAny_bind (wpAny_load ho ?_)
      rw [hc, hd]
      have : ["enumerate", "zip", "dict_itemiterator", "dict_reverseitemiterator", "odict_iterator", "itertools.zip_longest", "itertools.pairwise"].contains n = false := by
        simp only [List.mem_cons, List.not_mem_nil, or_false] at hn
        rcases hn with rfl | rfl | rfl | rfl | rfl | rfl <;> decide
      simp only [this, Bool.false_and, Bool.false_eq_true, if_false]
      exact wpAny_pure hR
    | _ => exact wpAny_pure hR
  cases tg <;> first | exact wpAny_pure hR | exact main
theorem iter_of {tg : Expr} {I : Addr} {n : Nat} {item : Nat → MV} {P : Nat → Value → Prop} {St : Nat → Heap → Prop} (W : Walks C.prog C.w A I [I] [I] n P St) (hP : ∀ i v g h, P i v → VR C g h (item i) v)
    (hT : ∀ i h, St i h → ∃ o nm vs, h.get? I = some o ∧ o.cls = .type nm ∧ nm ∈ ["list_iterator", "range_iterator", "str_ascii_iterator", "str_iterator", "tuple_iterator", "callable_iterator"] ∧ o.data = .fields vs) :
    Iter C A tg (.ref I) [I] n item (fun _ => True) (fun i _ _ h => St i h) where
  next := fun i g σ s r hF hst _ hi => withSize (W.item i s _ _ hi hst fun v h' tk hv hst' hk hz => ⟨v, rfl, by
    obtain ⟨gr, d⟩ := r.loop (tk := tk) hF hk hz
    exact plainTg (tg := tg) _ I v _ (hT (i + 1) h' hst') ⟨g, gr, d, hP i v g h' hv, hst'⟩⟩)
  done := fun g σ s r hF hst _ => withSize (W.done s _ _ hst fun h' tk hk hz => ⟨rfl, r.loop hF hk hz⟩)
  stab := fun i g σ s g' σ' s' fb r hF hst _ d hfb _ _ _ => W.frame i _ _ hst fun b hb o e => by
    obtain rfl := List.mem_singleton.mp hb
    obtain ⟨h1, h2, h3⟩ := hF b (.head _)
    exact d.keep b o e h2 (hfb b (.head _)) fun q => Nat.lt_irrefl _ (Nat.lt_of_lt_of_le (r.tabs b q).1 h1)
  self := fun i g σ s r hst _ Q q => W.self i s _ _ hst q
  live := fun i g σ s r hst _ b hb => by
    obtain rfl := List.mem_singleton.mp hb
    obtain ⟨o, _, _, ho, _⟩ := hT i _ hst
    exact Heap.lt_size ho
theorem free_new (r : GR C g σ s) : Free C g [s.heap.objs.size] := fun b hb => by
  obtain rfl := List.mem_singleton.mp hb
  exact ⟨r.size, fun n hn => Nat.lt_irrefl _ (r.live n _ hn).2.1, fun hp => Nat.lt_irrefl _ (r.P _ hp).2⟩
theorem GR.push (r : GR C g σ s) (o : Obj) (tk : Nat) : GR C g σ { s with heap := s.heap.push o, toks := tk } ∧ Gd C fa g s g { s with heap := s.heap.push o, toks := tk } :=
  ⟨r.ext (fun b o' e => Heap.get?_push_of_some _ e) (size_push_le _ _), .ext (fun b o' e => Heap.get?_push_of_some _ e) (size_push_le _ _) rfl rfl rfl⟩
theorem walk_range {tg : Expr} {a b c : Int} {n : Nat} (hh : A.handled = none) (hs : Builtin.Range.small a b c = true) (hn : Builtin.Range.rangeSize a b c = n) : Walk C A tg (.rng a b c) σ n (fun i => .int (a + i * c)) (fun _ => True) := by
  refine ⟨trivial, fun g s x r hx => ?_⟩
  refine via_p fun P kP => ?_
  obtain ⟨_, _, _, _, rfl, hp, hr⟩ := hx.inv
  refine kP ?_
  clear kP P
  refine wpAny_pyIter_range hr hs ?_
  obtain ⟨gr, d⟩ := r.push (fa := []) { cls := .type "range_iterator", data := .fields #[rawInt a, rawInt (Builtin.Range.rangeSize a b c), rawInt c] } s.toks
  refine ⟨[s.heap.objs.size], _, iter_of (Walks.range hh s.heap.objs.size a c n) (fun i v g h ⟨t, e⟩ => by rw [e]; exact .int ..) (fun i h hst => ⟨_, _, _, hst, rfl, by simp, rfl⟩), gr, d, free_new r, fun b hb => by rw [List.mem_singleton.mp hb]; exact Nat.le_refl _, ?_⟩
  show IsRangeIter _ _ _ _ _
  rw [hn]
  have e1 : a + ((0 : Nat) : Int) * c = a := by simp
  have e2 : ((n : Int) - ((0 : Nat) : Int)) = n := by simp
  rw [e1, e2]
  exact Heap.get?_push_size _ rfl
theorem walk_str {tg : Expr} {x : Str} (hh : A.handled = none) : Walk C A tg (.str x) σ x.cps.size (fun i => .str ⟨#[x.cps.getD i 0]⟩) (fun _ => True) := by
  refine ⟨trivial, fun g s v r hx => ?_⟩
  obtain ⟨t, rfl⟩ := hx.inv
  have key : ∀ (ty : String) (o : Obj), (ty = "str_ascii_iterator" ∨ ty = "str_iterator") → Walks C.prog C.w A s.heap.objs.size [s.heap.objs.size] [s.heap.objs.size] x.cps.size (SignAt x) (fun i h => h.IsStrIter s.heap.objs.size ty x t i) →
      Heap.IsStrIter (s.heap.push o) s.heap.objs.size ty x t 0 → WalkP C A tg σ x.cps.size (fun i => .str ⟨#[x.cps.getD i 0]⟩) (fun _ => True) g s (.ref s.heap.objs.size) { s with heap := s.heap.push o } := by
    intro ty o hty W h0
    obtain ⟨gr, d⟩ := r.push (fa := []) o s.toks
    refine ⟨[s.heap.objs.size], _, iter_of W (fun i v g h hv => ?_) (fun i h hst => ?_), gr, d, free_new r, fun b hb => by rw [List.mem_singleton.mp hb]; exact Nat.le_refl _, h0⟩
    · obtain ⟨c, u, hc, rfl⟩ := hv
      have : x.cps.getD i 0 = c := by simp [Array.getD_eq_getD_getElem?, hc]
      rw [this]; exact .str ..
    · obtain ⟨o', ho', hc', hd'⟩ := hst
      exact ⟨o', ty, _, ho', hc', by rcases hty with rfl | rfl <;> simp, hd'⟩
  cases ha : x.cps.all (· < 128)
  · exact wpAny_pyIter_wide ha (key _ _ (.inr rfl) (Walks.strWide hh _ x t) ⟨_, Heap.get?_push_size _ rfl, rfl, rfl⟩)
  · exact wpAny_pyIter_ascii ha (key _ _ (.inl rfl) (Walks.strAscii hh _ x t) ⟨_, Heap.get?_push_size _ rfl, rfl, rfl⟩)
theorem walk_list {tg : Expr} {m : MV} {l : List MV} (hh : A.handled = none) (hl : lstOf σ m = some l) : Walk C A tg m σ l.length (fun i => l.getD i .none) (fun σ' => lstOf σ' m = some l) := by
  refine ⟨hl, fun g s x r hx => ?_⟩
  refine via_p fun P kP => ?_
  obtain ⟨a, xs, rfl, ho, hv⟩ := r.lst hl hx
  refine kP ?_
  clear kP P
  refine wpAny_pyIter_list ho ?_
  obtain ⟨gr, d⟩ := r.push (fa := []) { cls := .type "list_iterator", data := .fields #[.ref a, .int 0 0] } s.toks
  refine ⟨[s.heap.objs.size], fun i g' σ' h => VR C g' h m (.ref a) ∧ h.IsListIter s.heap.objs.size a i ∧ a ≠ s.heap.objs.size, ?_, gr, d, free_new r, fun b hb => by rw [List.mem_singleton.mp hb]; exact Nat.le_refl _, ?_⟩
  · have hT : ∀ {i : Nat} {h : Heap}, h.IsListIter s.heap.objs.size a i → ∃ o nm vs, h.get? s.heap.objs.size = some o ∧ o.cls = .type nm ∧ nm ∈ ["list_iterator", "range_iterator", "str_ascii_iterator", "str_iterator", "tuple_iterator", "callable_iterator"] ∧ o.data = .fields vs := fun hst => by
      obtain ⟨o', ho', hc', hd'⟩ := hst
      exact ⟨o', _, _, ho', hc', by simp, hd'⟩
    refine ⟨fun i g' σ' s' r' hF hst hJ hi => ?_, fun g' σ' s' r' hF hst hJ => ?_, fun i g' σ' s' g'' σ'' s'' fb r' hF hst hJ d' hfb hfp r'' hJ' => ?_, fun i g' σ' s' r' hst hJ Q q => ?_, fun i g' σ' s' r' hst hJ b hb => ?_⟩
    · obtain ⟨h1, h2, h3⟩ := hst
      refine via_p fun P kP => ?_
      obtain ⟨a', xs', e, ho', hv'⟩ := r'.lst hJ h1
      refine kP ?_
      clear kP P
      cases e
      obtain ⟨v, hv1, hv2⟩ := hv'.get (i := i) (m := l.getD i .none) (by rw [List.getD_eq_getElem?_getD, List.getElem?_eq_getElem hi]; rfl)
      refine withSize (wpAny_pyNext_list_item h2 ho' (by simpa using hv1) fun h' hit hb hz => ⟨v, rfl, ?_⟩)
      have k : ∀ b o, b ∉ [s.heap.objs.size] → s'.heap.get? b = some o → h'.get? b = some o := fun b o hb' e => hb.extBut b o (fun q => hb' (by rw [q]; exact .head _)) e
      obtain ⟨gr', d'⟩ := r'.loop (tk := s'.toks) hF k hz
      have hg : Ge g' g' s'.heap h' := ⟨fun _ _ e => e, fun _ e => e, fun b o hp e => k b o (fun q => (hF b q).2.2 hp) e⟩
      exact plainTg (tg := tg) _ _ v _ (hT hit) ⟨g', gr', d', hv2.mono hg, h1.mono hg, hit, h3⟩
    · obtain ⟨h1, h2, h3⟩ := hst
      refine via_p fun P kP => ?_
      obtain ⟨a', xs', e, ho', hv'⟩ := r'.lst hJ h1
      refine kP ?_
      clear kP P
      cases e
      refine withSize (wpAny_pyNext_list_end hh h2 ho' (by have := hv'.length; simp; (first | lia | omega)) fun h' hk hz => ⟨rfl, ?_⟩)
      exact r'.loop (tk := s'.toks) hF (fun b o hb' e => hk b o (fun q => hb' (by rw [q]; exact .head _)) e) hz
    · obtain ⟨h1, h2, h3⟩ := hst
      obtain ⟨f1, f2, f3⟩ := hF _ (.head _)
      have hg : Ge g' g'' s'.heap s''.heap := ⟨d'.ρ, d'.P, fun b o hp e => d'.keep b o e (fun n hn => (r'.live n b hn).2.2 hp) (fun q => hfp b q hp) fun q => r'.tabP b q hp⟩
      exact ⟨h1.mono hg, h2.at fun o e => d'.keep _ o e f2 (hfb _ (.head _)) (fun q => Nat.lt_irrefl _ (Nat.lt_of_lt_of_le (r'.tabs _ q).1 f1)), h3⟩
    · exact wpAny_pyIter_listiter hst.2.1 q
    · obtain rfl := List.mem_singleton.mp hb
      refine via_p fun P kP => ?_
      obtain ⟨o, _, _, ho, _⟩ := hT hst.2.1
      refine kP ?_
      clear kP P
      exact Heap.lt_size ho
  · refine ⟨hx.mono ⟨fun _ _ e => e, fun _ e => e, fun b o _ e => Heap.get?_push_of_some _ e⟩, ⟨_, Heap.get?_push_size _ rfl, rfl, rfl⟩, ?_⟩
    obtain ⟨o, ho, _⟩ := ho
    exact Nat.ne_of_lt (Heap.lt_size ho)
end
end
section
section
variable {C : Cx} {A : Around} {fm : Fm} {fa : List Addr} {loc : Loc} {σ : Hp} {g : Gh} {s : Shared} {Q Q' : MV → Hp → Prop} {QB : Bool → Hp → Prop} {QS : Fl → Loc → Hp → Prop}
theorem ge_pin0 (T : Addr) (h : Heap) : Ge g (g.pin T) h h := ⟨fun _ _ e => e, fun _ e => .inr e, fun _ _ _ e => e⟩
theorem GR.pin {T : Addr} (r : GR C g σ s) (h1 : C.N0 ≤ T) (h2 : T < s.heap.objs.size) (h3 : ∀ n, g.ρ n ≠ some T) : GR C (g.pin T) σ s := by
  refine ⟨r.lo, r.K, r.lim, r.size, fun n o h => ?_, r.inj, fun n a h => ?_, fun a h => ?_, fun a h => by obtain ⟨x, vs, q, t⟩ := r.tabs a h; exact ⟨x, vs, q, t.mono (ge_pin0 T _)⟩, r.dom⟩
  · obtain ⟨a, ha, ho⟩ := r.heap n o h; exact ⟨a, ha, ho.mono (ge_pin0 T _) fun _ e => e⟩
  · obtain ⟨x, y, z⟩ := r.live n a h; exact ⟨x, y, fun q => q.elim (fun q => h3 n (q ▸ h)) z⟩
  · rcases h with h | h
    · exact h ▸ ⟨h1, h2⟩
    · exact r.P a h
theorem Gd.pin0 {fb : List Addr} {g' : Gh} {s' : Shared} {T : Addr} (d : Gd C fb g s g' s') (hT : s.heap.objs.size ≤ T) : Gd C fb g s (g'.pin T) s' :=
  ⟨d.keep, d.tabs, d.size, d.ρ, d.ρn, fun a h => .inr (d.P a h), fun a h => h.elim (fun q => .inr (q ▸ hT)) (d.Pn a), d.os, d.drawn, d.gens⟩
theorem iter_ofT {elts : List Expr} {k : Nat} {pos : Pos} {I : Addr} {fp wr : List Addr} {n : Nat} {item : Nat → List MV} {Pt : Nat → Array Value → Prop} {St : Nat → Heap → Prop} {Mid : Nat → Addr → Heap → Prop} {g₀ : Gh} {h₀ : Heap}
    (W : WalksT C.prog C.w A I fp wr n Pt St Mid) (hfp : ∀ b ∈ fp, b ∈ wr ∨ g₀.P b) (hP : ∀ i vals g h, Ge g₀ g h₀ h → Pt i vals → VRs C g h (item i) vals.toList) (hlive : ∀ i h, St i h → ∀ b ∈ wr, ∃ o, h.get? b = some o) :
    Iter C A (.Tuple elts k pos) (.ref I) wr n (fun i => .tup (item i)) (fun _ => True) (fun i g _ h => Ge g₀ g h₀ h ∧ St i h) where
  next := fun i g σ s r hF xx _ hi => withSize (W.item i s _ _ hi xx.2 fun T vals h' tk hv hT0 hT hm hk hz => ⟨.ref T, rfl, by
    obtain ⟨gr, d⟩ := r.loop (tk := tk) hF hk hz
    have hTl : T < h'.objs.size := by obtain ⟨o, ho, _⟩ := hT; exact Heap.lt_size ho
    refine withSize (W.go elts k pos i T _ _ _ hm fun h'' hst'' hk'' hz'' => ?_)
    obtain ⟨gr', d'⟩ := gr.loop (tk := tk) hF hk'' hz''
    have dd := d.trans d'
    have hne : ∀ n, g.ρ n ≠ some T := fun n hn => Nat.lt_irrefl _ (Nat.lt_of_lt_of_le (r.live n T hn).2.1 hT0)
    have hTw : T ∉ wr := W.apart i T h' hm
    have hT'' : h''.IsTuple T vals := hT.at fun o e => hk'' T o hTw e
    have gr2 : GR C (g.pin T) σ { s with heap := h'', toks := tk } := gr'.pin (Nat.le_trans r.size hT0) (Nat.lt_of_lt_of_le hTl hz'') hne
    have e2 : Ge g (g.pin T) s.heap h'' := ⟨fun _ _ e => e, fun _ e => .inr e, fun b o hp e => dd.keep b o e (fun n hn => (r.live n b hn).2.2 hp) (fun q => (hF b q).2.2 hp) fun q => r.tabP b q hp⟩
    have e3 : Ge g₀ (g.pin T) h₀ h'' := ⟨fun n a e => e2.ρ _ _ (xx.1.ρ n a e), fun a e => e2.P _ (xx.1.P a e), fun a o hp e => e2.keep a o (xx.1.P a hp) (xx.1.keep a o hp e)⟩
    exact ⟨g.pin T, gr2, dd.pin0 hT0, .tup (.inl rfl) hT'' (hP i vals _ _ e3 hv), e3, hst''⟩⟩)
  done := fun g σ s r hF xx _ => withSize (W.done s _ _ xx.2 fun h' tk hk hz => ⟨rfl, r.loop hF hk hz⟩)
  stab := fun i g σ s g' σ' s' fb r hF xx _ d hfb hfP _ _ => by
    have e2 : Ge g g' s.heap s'.heap := ⟨d.ρ, d.P, fun b o hp e => d.keep b o e (fun n hn => (r.live n b hn).2.2 hp) (fun q => hfP b q hp) fun q => r.tabP b q hp⟩
    refine ⟨⟨fun n a e => e2.ρ _ _ (xx.1.ρ n a e), fun a e => e2.P _ (xx.1.P a e), fun a o hp e => e2.keep a o (xx.1.P a hp) (xx.1.keep a o hp e)⟩, W.frame i _ _ xx.2 fun b hb o e => ?_⟩
    rcases hfp b hb with q | q
    · obtain ⟨h1, h2, h3⟩ := hF b q
      exact d.keep b o e h2 (hfb b q) fun q => Nat.lt_irrefl _ (Nat.lt_of_lt_of_le (r.tabs b q).1 h1)
    · exact e2.keep b o (xx.1.P b q) e
  self := fun i g σ s r xx _ Q q => W.self i s _ _ xx.2 q
  live := fun i g σ s r xx _ b hb => by obtain ⟨o, ho⟩ := hlive i _ xx.2 b hb; exact Heap.lt_size ho
theorem ev_callee {x : Str} {np pos : Pos} {es : List Expr} {T : String} {R : Value → Shared → Prop} (hx : fm.env.kindOf x = some .globalImplicit) (e : nsIn C.K mainGlobals x = some none) (e' : nsIn C.K builtinsNs x = some (some (.type T)))
    (hs : (starEach es fm.env).all (fun p => !p.1) = true) {Qm : List MV → Hp → Prop} (h : EvL C A fm es loc σ Qm) (r : Rel C g σ fm fa loc s)
    (k : ∀ g' σ' s' ms vs, Rel C g' σ' fm fa loc s' → VRs C g' s'.heap ms vs → Gd C fa g s g' s' → Qm ms σ' → wpAny (model C.prog C.w) A (call (.type T) vs []) R NoE s') (hd : (x == ("__debug__" : Str)) = false := by decide) :
    wpAny (model C.prog C.w) A (eval (.Call (.Name x np) es [] pos) fm.env) R NoE s := by
  refine wpAny_Call_NameR (wpAny_mono (ev_bi (Q := fun m σ₁ => m = .val (.type T) ∧ σ₁ = σ) hx e e' ⟨rfl, rfl⟩ hd fa g s r) ?_ fun _ _ e => e)
  rintro v s₁ ⟨g₁, m, σ₁, r₁, hv, d₁, rfl, rfl⟩
  obtain rfl := hv.inv
  refine (Callable.ty T).with (star_none hs) (wpAny_mono (h.argsS hs r₁) ?_ fun _ _ e => e)
  rintro ⟨ps, kw⟩ s₂ ⟨rfl, g₂, ms, σ₂, r₂, hvs, d₂, q⟩
  exact ⟨⟨g₂, σ₂, r₂.gr⟩, k g₂ σ₂ s₂ ms ps r₂ hvs (d₁.trans d₂) q⟩
theorem walk_enum {elts : List Expr} {k : Nat} {tp : Pos} {x : Str} {np pos : Pos} {e : Expr} {n : Nat} {item : Nat → MV} {Q : Hp → Prop} (hh : A.handled = none) (hx : fm.env.kindOf x = some .globalImplicit) (e1 : nsIn C.K mainGlobals x = some none) (e2 : nsIn C.K builtinsNs x = some (some (.type "enumerate")))
    (h : Ev C A fm e loc σ fun m σ₁ => Q σ₁ ∧ ((∃ l, m = .lst l ∧ n = l.length ∧ item = fun i => l.getD i .none) ∨ ∃ x, m = .str x ∧ n = x.cps.size ∧ item = fun i => .str ⟨#[x.cps.getD i 0]⟩))
    (hs : (starEach [e] fm.env).all (fun p => !p.1) = true := by rfl) (hd : (x == ("__debug__" : Str)) = false := by decide) :
    WalkE C A fm (.Tuple elts k tp) (.Call (.Name x np) [e] [] pos) loc σ n (fun i => .tup [.int i, item i]) (fun _ => True) Q := fun fa g s r => by
  refine ev_callee (Qm := fun ms σ₁ => ∃ m, ms = [m] ∧ Q σ₁ ∧ ((∃ l, m = .lst l ∧ n = l.length ∧ item = fun i => l.getD i .none) ∨ ∃ x, m = .str x ∧ n = x.cps.size ∧ item = fun i => .str ⟨#[x.cps.getD i 0]⟩)) hx e1 e2 hs (EvT.mono h fun m σ₁ hm => ⟨m, rfl, hm⟩) r ?_ hd
  rintro g' σ' s' ms vs r' hvs d ⟨m, rfl, q, hm⟩
  obtain ⟨v, rfl, hv⟩ := hvs.inv1
  have hE1 : s'.heap.objs.size + 1 ≠ s'.heap.objs.size := Nat.succ_ne_self _
  have fin : ∀ (h' : Heap) (fp : List Addr) (P : Nat → Value → Prop) (St : Nat → Heap → Prop), Draws C.prog C.w A.in1 s'.heap.objs.size fp n P St → (∀ b ∈ fp, b = s'.heap.objs.size ∨ g'.P b) → s'.heap.objs.size ∈ fp → (∀ i v g h, Ge g' g h' h → P i v → VR C g h (item i) v) →
      (∀ i h, St i h → ∃ o, h.get? s'.heap.objs.size = some o) → St 0 h' → IsEnum h' (s'.heap.objs.size + 1) s'.heap.objs.size 0 .none → h'.objs.size = s'.heap.objs.size + 2 → (∀ b o, s'.heap.get? b = some o → h'.get? b = some o) →
      wpAny (model C.prog C.w) A (pyIter (.ref (s'.heap.objs.size + 1))) (WalkQ C A fm fa (.Tuple elts k tp) loc n (fun i => .tup [.int i, item i]) (fun _ => True) Q g s) NoE { s' with heap := h' } := by
    intro h' fp P St D hfp hif hP hl hst he hz hk
    have hef : s'.heap.objs.size + 1 ∉ fp := fun hb => (hfp _ hb).elim hE1 fun hp => Nat.not_succ_lt_self (r'.gr.P _ hp).2
    refine wpAny_pyIter_enum he ?_
    have r'' : Rel C g' σ' fm fa loc { s' with heap := h' } := r'.ext hk (by show _ ≤ h'.objs.size; (first | lia | omega))
    have d'' : Gd C fa g' s' g' { s' with heap := h' } := .ext hk (by show _ ≤ h'.objs.size; (first | lia | omega)) rfl rfl rfl
    refine ⟨g', σ', [s'.heap.objs.size + 1, s'.heap.objs.size], _, iter_ofT (g₀ := g') (h₀ := h') (item := fun i => [.int i, item i]) (WalksT.enumerateD D (s'.heap.objs.size + 1) hE1 hef hif) ?_ ?_ ?_, r'', d.trans d'', ?_, ?_, ⟨⟨fun _ _ e => e, fun _ e => e, fun _ _ _ e => e⟩, ⟨_, he⟩, hst⟩, trivial, q⟩
    · intro b hb
      rcases List.mem_cons.mp hb with rfl | hb
      · exact .inl (.head _)
      · exact (hfp b hb).elim (fun q => .inl (q ▸ .tail _ (.head _))) .inr
    · rintro i vals g h hg ⟨t, y, hy, rfl⟩
      exact .cons (.int ..) (.cons (hP i y g h hg hy) .nil)
    · rintro i h ⟨⟨old, ho⟩, hst⟩ b hb
      rcases List.mem_cons.mp hb with rfl | hb
      · exact ⟨_, ho⟩
      · rw [List.mem_singleton.mp hb]; exact hl i h hst
    · intro b hb
      have hb' : s'.heap.objs.size ≤ b := by
        rcases List.mem_cons.mp hb with rfl | hb
        · exact Nat.le_succ _
        · rw [List.mem_singleton.mp hb]; exact Nat.le_refl _
      exact ⟨Nat.le_trans r'.gr.size hb', fun n hn => Nat.lt_irrefl _ (Nat.lt_of_lt_of_le (r'.gr.live n b hn).2.1 hb'), fun hp => Nat.lt_irrefl _ (Nat.lt_of_lt_of_le (r'.gr.P b hp).2 hb')⟩
    · intro b hb
      have hb' : s'.heap.objs.size ≤ b := by
        rcases List.mem_cons.mp hb with rfl | hb
        · exact Nat.le_succ _
        · rw [List.mem_singleton.mp hb]; exact Nat.le_refl _
      exact ⟨Nat.le_trans d.size hb', r'.apart hb'⟩
  rcases hm with ⟨l, rfl, rfl, rfl⟩ | ⟨y, rfl, rfl, rfl⟩
  · refine via_p fun P kP => ?_
    obtain ⟨a, xs, rfl, hp, ho, hl⟩ := hv.inv
    refine kP ?_
    clear kP P
    have hne : a ≠ s'.heap.objs.size := Nat.ne_of_lt (r'.gr.P a hp).2
    have hlen := hl.length
    refine call_enumerate_list ho.isList fun h' he hit hz hk => ?_
    have D := Draws.list (prog := C.prog) (w := C.w) (A := A.in1) hh s'.heap.objs.size a hne (Array.mk xs)
    have hz2 : (Array.mk xs).size = l.length := by rw [hlen]; rfl
    rw [hz2] at D
    refine fin h' [s'.heap.objs.size, a] _ _ D ?_ (.head _) ?_ ?_ ⟨hit, ho.isList.at fun o e => hk a o e⟩ he hz hk
    · intro b hb
      rcases List.mem_cons.mp hb with rfl | hb
      · exact .inl rfl
      · rw [List.mem_singleton.mp hb]; exact .inr hp
    · intro i v g h hg hv
      have hv' : xs[i]? = some v := by simpa using hv
      have hi : i < l.length := by rw [hlen]; exact (List.getElem?_eq_some_iff.mp hv').1
      obtain ⟨u, hu, hm⟩ := hl.get (i := i) (m := l.getD i .none) (by rw [List.getD_eq_getElem?_getD, List.getElem?_eq_getElem hi]; rfl)
      rw [hv'] at hu; cases hu
      exact hm.mono ⟨hg.ρ, hg.P, fun b o hp e => hg.keep b o hp (hk b o e)⟩
    · rintro i h ⟨⟨o, ho, _⟩, _⟩; exact ⟨o, ho⟩
  · obtain ⟨t, rfl⟩ := hv.inv
    refine call_enumerate_str fun h' he hit hz hk => ?_
    have pv : ∀ i v g h, Ge g' g h' h → (∃ c u, y.cps[i]? = some c ∧ v = .str ⟨#[c]⟩ u) → VR C g h (.str ⟨#[y.cps.getD i 0]⟩) v := by
      rintro i v g h _ ⟨c, u, hc, rfl⟩
      have : y.cps.getD i 0 = c := by simp [Array.getD_eq_getD_getElem?, hc]
      rw [this]; exact .str ..
    unfold strIterType at hit
    split at hit
    · exact fin h' [s'.heap.objs.size] _ _ (Draws.strAscii (A := A.in1) hh s'.heap.objs.size y t) (fun b hb => .inl (List.mem_singleton.mp hb)) (.head _) pv (fun i h ⟨o, ho, _⟩ => ⟨o, ho⟩) hit he hz hk
    · exact fin h' [s'.heap.objs.size] _ _ (Draws.strWide (A := A.in1) hh s'.heap.objs.size y t) (fun b hb => .inl (List.mem_singleton.mp hb)) (.head _) pv (fun i h ⟨o, ho, _⟩ => ⟨o, ho⟩) hit he hz hk
end
end
section
noncomputable def innerOf (elt : Expr) (gens : List Comprehension) (scope : Scope) (pos : Pos) (d : Nat) (acc : Value) (env : Env) : Sem Unit :=
  match gens[d + 1]? with
  | some g' => eval g'.iter env >>= fun x => standAt g'.iter.pos >>= fun _ => foldedSetIterable g'.iter env x >>= fun x => holding [x] (pyIter x) >>= fun it => runOwn (.compStart (.ListComp elt gens scope pos) (d + 1) it acc env) env >>= fun _ => pure ()
  | none => eval elt env >>= fun v => call (.builtin "list.append") [acc, v] >>= fun _ => pure ()
noncomputable def testsOf (ifs : List Expr) (env : Env) : Sem Bool := forIn ifs true fun c r => if r = true then do let ok ← isTrue c env (eval c env); pure (ForInStep.yield ok) else pure (ForInStep.yield r)
theorem compTurn_gen {elt : Expr} {gens : List Comprehension} {scope : Scope} {pos : Pos} {d : Nat} {tg iter : Expr} {ifs : List Expr} {it acc : Value} {env : Env} (hg : gens[d]? = some ⟨tg, iter, ifs, 0⟩) (hn : ∀ g', gens[d + 1]? = some g' → g'.is_async = 0) :
    compTurn (.ListComp elt gens scope pos) d it acc env = (standAt iter.pos >>= fun _ => pyNext it >>= fun r => match r with
      | none => pure (.done .next)
      | some v => letOwnedTupleGo tg it v >>= fun _ => assign tg env v >>= fun _ => testsOf ifs env >>= fun ok =>
        if ok = true then innerOf elt gens scope pos d acc env >>= fun _ => again (.compLoop (.ListComp elt gens scope pos) d it acc env) else again (.compLoop (.ListComp elt gens scope pos) d it acc env)) := by
  unfold compTurn
  simp only [hg]
  unfold innerOf testsOf
  have e0 : ((0 : Int) != 0) = false := rfl
  simp only [e0, Bool.false_eq_true, if_false]
  congr 1
  funext _
  congr 1
  funext r
  cases r with
  | none => rfl
  | some v =>
    simp only []
    congr 1
    funext _
    congr 1
    funext _
    congr 1
    funext ok
    cases ok
    · rfl
    · simp only [if_true]
      cases h : gens[d + 1]? with
      | none => simp only [bind_assoc, pure_bind]
      | some g' =>
        have := hn g' h
        simp only [this, e0, Bool.false_eq_true, if_false, bind_assoc, pure_bind]
section
variable {C : Cx} {A : Around} {fm : Fm} {fa : List Addr} {loc : Loc} {σ : Hp} {g : Gh} {s : Shared} {Q Q' : MV → Hp → Prop} {QB : Bool → Hp → Prop} {QS : Fl → Loc → Hp → Prop}
noncomputable def Ifs (C : Cx) (A : Around) (fm : Fm) : List Expr → Loc → Hp → (Bool → Hp → Prop) → Prop
  | [], _, σ, Q => Q true σ
  | c :: cs, loc, σ, Q => Tr C A fm c loc σ fun b σ₁ => if b then Ifs C A fm cs loc σ₁ Q else Q false σ₁
theorem tests_false (env : Env) : ∀ cs : List Expr, (forIn cs false fun c r => if r = true then do let ok ← isTrue c env (eval c env); pure (ForInStep.yield ok) else pure (ForInStep.yield r)) = (pure false : Sem Bool)
  | [] => rfl
  | c :: cs => by
    rw [List.forIn_cons]
    simp only [Bool.false_eq_true, if_false, pure_bind]
    exact tests_false env cs
theorem Ifs.run {cs : List Expr} : ∀ {σ : Hp} {Q : Bool → Hp → Prop}, Ifs C A fm cs loc σ Q → ∀ fa g s, Rel C g σ fm fa loc s → wpAny (model C.prog C.w) A (testsOf cs fm.env) (PostB C fm fa loc g s Q) NoE s := by
  induction cs with
  | nil => exact fun h fa g s r => wpAny_pure (.now r h)
  | cons c cs ih =>
    intro σ Q h fa g s r
    unfold testsOf
    rw [List.forIn_cons]
    simp only [if_true]
    refine wpAny_bind (wpAny_bind (wpAny_mono (h fa g s r) ?_ fun _ _ e => e))
    rintro b s₁ ⟨g', σ', r', d, q⟩
    refine wpAny_pure ?_
    cases b
    · simp only []
      rw [tests_false]
      exact wpAny_pure ⟨g', σ', r', d, q⟩
    · exact wpAny_mono (ih q fa g' s₁ r') (fun _ _ p => p.trans d) fun _ _ e => e
inductive InnP (C : Cx) (fm : Fm) (fa fb : List Addr) (a : Addr) (g : Gh) (s : Shared) (Q : Loc → Hp → List MV → Prop) (s' : Shared) : Prop
  | mk (g' : Gh) (loc' : Loc) (σ' : Hp) (ys' : List MV) (xs' : List Value) (r : Rel C g' σ' fm fa loc' s') (d : Gd C fb g s g' s') (L : s'.heap.PlainList a ⟨xs'⟩) (hv : VRs C g' s'.heap ys' xs') (q : Q loc' σ' ys')
noncomputable def Inn (C : Cx) (A : Around) (fm : Fm) (a : Addr) (t : Sem Unit) (ys : List MV) (loc : Loc) (σ : Hp) (Q : Loc → Hp → List MV → Prop) : Prop :=
  ∀ fa g s xs, Rel C g σ fm fa loc s → Free C g [a] → a ∉ fa → (∀ x, fm.env.cells.lookup x ≠ some a) → s.heap.PlainList a ⟨xs⟩ → VRs C g s.heap ys xs →
    wpAny (model C.prog C.w) A t (fun _ s' => InnP C fm fa (a :: fa) a g s Q s') NoE s
theorem Free.keep1 {fb : List Addr} {g' : Gh} {s' : Shared} {a : Addr} (r : GR C g σ s) (hF : Free C g [a]) (d : Gd C fb g s g' s') (hb : a ∉ fb) {o : Obj} (e : s.heap.get? a = some o) : s'.heap.get? a = some o := by
  obtain ⟨h1, h2, h3⟩ := hF a (.head _)
  exact d.keep a o e h2 hb fun q => Nat.lt_irrefl _ (Nat.lt_of_lt_of_le (r.tabs a q).1 h1)
theorem inn_emit {a : Addr} {elt : Expr} {gens : List Comprehension} {scope : Scope} {pos : Pos} {d : Nat} {ys : List MV} {Q : Loc → Hp → List MV → Prop} (hg : gens[d + 1]? = none) (hl : ys.length ≤ 1000000)
    (h : Ev C A fm elt loc σ fun m σ₁ => Q loc σ₁ (ys ++ [m])) : Inn C A fm a (innerOf elt gens scope pos d (.ref a) fm.env) ys loc σ Q := by
  intro fa g s xs r hF ha hac hL hv
  unfold innerOf
  rw [hg]
  refine wpAny_bind (wpAny_mono (h fa g s r) ?_ fun _ _ e => e)
  rintro v s₁ ⟨g₁, m, σ₁, r₁, hm, d₁, q⟩
  have hL₁ : s₁.heap.PlainList a ⟨xs⟩ := hL.at fun o e => hF.keep1 r.gr d₁ ha e
  have hlt : a < s.heap.objs.size := by obtain ⟨o, ho, _⟩ := hL.isList; exact Heap.lt_size ho
  have hF₁ : Free C g₁ [a] := hF.step (fun b hb => by rw [List.mem_singleton.mp hb]; exact hlt) d₁
  have hv₁ := hv.mono (r.ge d₁)
  refine wpAny_bind (wpAny_list_append_plain hL₁ (fun h' hL' hb => ?_) (sizeLine_ge (by show xs.length ≤ _; rw [← hv.length]; exact hl)))
  obtain ⟨gr', d'⟩ := r₁.gr.loop (tk := s₁.toks) (wr := [a]) hF₁ (fun b o hb' e => hb.extBut b o (fun q => hb' (by rw [q]; exact .head _)) e) (Nat.le_of_eq hb.1.symm)
  have r' := r₁.step gr' d' (fun b hb => by rw [List.mem_singleton.mp hb]; exact ⟨ha, hac⟩) fun b hb => (hF₁ b hb).2.2
  have e' : Ge g₁ g₁ s₁.heap h' := d'.ge (fun n a e => (r₁.gr.live n a e).2.2) (fun b hb => (hF₁ b hb).2.2) r₁.gr.tabP
  refine wpAny_pure ⟨g₁, loc, σ₁, ys ++ [m], xs ++ [v], r', (d₁.weak fun b h => .inl (.tail _ h)).trans (d'.weak fun b h => .inl (by rw [List.mem_singleton.mp h]; exact .head _)), ?_, (hv₁.append (.cons hm .nil)).mono e', q⟩
  simpa using hL'
theorem comp_start {elt : Expr} {gens : List Comprehension} {scope : Scope} {pos : Pos} {d : Nat} {it acc : Value} {env : Env} {R : Result → Shared → Prop} {gd : Comprehension} (hg : gens[d]? = some gd) (ha : gd.is_async = 0)
    (h : codeAny (model C.prog C.w) A (.compLoop (.ListComp elt gens scope pos) d it acc env) R s)
    (hs : ∀ Q : Value → Shared → Prop, Q it s → wpAny (model C.prog C.w) A (pyIter it) Q NoE s) : codeAny (model C.prog C.w) A (.compStart (.ListComp elt gens scope pos) d it acc env) R s := by
  refine codeAny_of_tree ?_
  show wpAny _ _ ((compStart (.ListComp elt gens scope pos) d it acc env).onRaise (fun x => do noteFrame x env; standAt theWindowsPlace)) _ _ s
  refine wpAny_notedAt ?_
  unfold compStart
  have hc : clausesOf (.ListComp elt gens scope pos) = gens := rfl
  rw [hc, hg]
  simp only [Option.elim, ha]
  show wpAny _ _ (ask >>= _) _ _ s
  refine wpAny_bind (wpAny_askSetting (wpAny_ite ?_))
  split
  · first
      | exact wpAny_bind (wpAny_pure (wpAny_pure (And.intro rfl h)))
      | exact wpAny_pure (And.intro rfl h)
  · refine wpAny_bind (wpAny_rule ?_)
    show wpAny _ _ (standAt gd.iter.pos >>= _) _ _ s
    refine wpAny_bind (wpAny_standAt (wpAny_bind (wpAny_mono (hs (fun it' s' => it' = it ∧ s' = s) ⟨rfl, rfl⟩) ?_ fun _ _ e => e.elim)))
    rintro it' s' ⟨rfl, rfl⟩
    exact wpAny_pure (And.intro rfl h)
inductive CompI (C : Cx) (fm : Fm) (fa wr : List Addr) (a : Addr) (n : Nat) (J : Hp → Prop) (IR : Nat → Gh → Hp → Heap → Prop) (Inv : Nat → Loc → Hp → List MV → Prop) (g : Gh) (s : Shared) (k : Nat) (s' : Shared) : Prop
  | mk (i : Nat) (g' : Gh) (l' : Loc) (σ' : Hp) (ys' : List MV) (xs' : List Value) (e : k + i = n) (r : Rel C g' σ' fm fa l' s') (d : Gd C (a :: wr ++ fa) g s g' s') (hI : Inv i l' σ' ys') (hJ : J σ') (hF : Free C g' wr) (hFa : Free C g' [a])
    (hi : IR i g' σ' s'.heap) (L : s'.heap.PlainList a ⟨xs'⟩) (hv : VRs C g' s'.heap ys' xs')
theorem comp_next {tg : Expr} {it : Value} {a : Addr} {wr : List Addr} {n i k : Nat} {item : Nat → MV} {J : Hp → Prop} {IR : Nat → Gh → Hp → Heap → Prop} {Inv : Nat → Loc → Hp → List MV → Prop} {g₀ g₂ : Gh} {s₀ s₂ : Shared} {σ₂ : Hp} {l₂ : Loc} {ys : List MV} {xs : List Value}
    (W : Iter C A tg it wr n item J IR) (hi : i < n) (hk : k + i = n) (r : Rel C g σ fm fa loc s) (hlv : ∀ b ∈ wr, b < s.heap.objs.size) (F : Free C g wr) (hla : ∀ b ∈ [a], b < s.heap.objs.size) (Fa : Free C g [a]) (ir : IR (i + 1) g σ s.heap) (hJ : J σ) (hwf : ∀ b ∈ wr, b ∉ fa ∧ ∀ x, fm.env.cells.lookup x ≠ some b) (haw : a ∉ wr)
    (D : Gd C (a :: wr ++ fa) g₀ s₀ g s) (d : Gd C (a :: fa) g s g₂ s₂) (r₂ : Rel C g₂ σ₂ fm fa l₂ s₂) (L : s₂.heap.PlainList a ⟨xs⟩) (hv : VRs C g₂ s₂.heap ys xs) (h : Inv (i + 1) l₂ σ₂ ys ∧ J σ₂) : ∃ m, m < k ∧ CompI C fm fa wr a n J IR Inv g₀ s₀ m s₂ :=
  ⟨k - 1, by walk_at "l", i + 1, g₂, l₂, σ₂, ys, xs, by walk_at "l", r₂, D.trans (d.weak fun b h => .inl ((List.mem_cons.mp h).elim (fun e => e ▸ .head _) fun h => .tail _ (List.mem_append_right _ h))), h.1, h.2, F.step hlv d, Fa.step hla d,
    W.stab (i + 1) g σ s g₂ σ₂ s₂ (a :: fa) r.gr F ir hJ d (fun b hb q => (List.mem_cons.mp q).elim (fun e => haw (e ▸ hb)) (hwf b hb).1) (fun b hb => (List.mem_cons.mp hb).elim (fun e => e ▸ (Fa a (.head _)).2.2) fun hb => (r.fr.fa b hb).2.2.1) r₂.gr h.2, L, hv⟩
theorem comp_walk {elt : Expr} {gens : List Comprehension} {scope : Scope} {pos : Pos} {d : Nat} {tg iter : Expr} {ifs : List Expr} {it : Value} {a : Addr} {wr : List Addr} {n : Nat} {item : Nat → MV} {J : Hp → Prop} {IR : Nat → Gh → Hp → Heap → Prop} {ys : List MV} {xs : List Value}
    (hg : gens[d]? = some ⟨tg, iter, ifs, 0⟩) (hn : ∀ g', gens[d + 1]? = some g' → g'.is_async = 0) (W : Iter C A tg it wr n item J IR) (Inv : Nat → Loc → Hp → List MV → Prop)
    (turn : ∀ i loc σ ys, i < n → Inv i loc σ ys → J σ → St C A fm tg (item i) loc σ fun l₁ σ₁ => Ifs C A fm ifs l₁ σ₁ fun ok σ₂ => if ok then Inn C A fm a (innerOf elt gens scope pos d (.ref a) fm.env) ys l₁ σ₂ fun l₂ σ₃ ys' => Inv (i + 1) l₂ σ₃ ys' ∧ J σ₃ else Inv (i + 1) l₁ σ₂ ys ∧ J σ₂)
    (hI : Inv 0 loc σ ys) (hJ : J σ) (r : Rel C g σ fm fa loc s) (hF : Free C g wr) (hwf : ∀ b ∈ wr, b ∉ fa ∧ ∀ x, fm.env.cells.lookup x ≠ some b) (hir : IR 0 g σ s.heap)
    (hFa : Free C g [a]) (ha : a ∉ fa) (hac : ∀ x, fm.env.cells.lookup x ≠ some a) (haw : a ∉ wr) (hL : s.heap.PlainList a ⟨xs⟩) (hv : VRs C g s.heap ys xs) :
    codeAny (model C.prog C.w) A (.compLoop (.ListComp elt gens scope pos) d it (.ref a) fm.env) (fun r' s' => r' = .ok .next ∧ InnP C fm fa (a :: wr ++ fa) a g s (fun l σ ys => Inv n l σ ys ∧ J σ) s') s := by
  refine codeAny_loop rfl (CompI C fm fa wr a n J IR Inv g s) (fun k s' hI => ?_) n
    ⟨0, g, loc, σ, ys, xs, rfl, r, .refl .., hI, hJ, hF, hFa, hir, hL, hv⟩
  obtain ⟨i, g', l', σ', ys', xs', hk, r', d', hI, hJ, hF, hFa, hir, hL, hv⟩ := hI
  show wpAny _ A ((compTurn (.ListComp elt gens scope pos) d it (.ref a) fm.env).onRaise (fun x => do noteFrame x fm.env; theTreesLotGoes x)) _ _ s'
  refine wpAny_noted ?_
  rw [compTurn_gen hg hn]
  refine wpAny_bind (wpAny_standAt (wpAny_bind ?_))
  have hlv := W.live i g' σ' s' r'.gr hir hJ
  have hla : ∀ b ∈ [a], b < s'.heap.objs.size := fun b hb => by rw [List.mem_singleton.mp hb]; obtain ⟨o, ho, _⟩ := hL.isList; exact Heap.lt_size ho
  by_cases hi : i < n
  · refine wpAny_mono (W.next i g' σ' s' r'.gr hF hir hJ hi) ?_ fun _ _ e => e.elim
    rintro _ s₁ ⟨v, rfl, h₁⟩
    refine wpAny_bind (wpAny_mono h₁ ?_ fun _ _ e => e.elim)
    rintro _ s₂ ⟨g₂, gr₂, d₂, hv₂, ir₂⟩
    have r₂ := r'.step gr₂ d₂ hwf fun b hb => (hF b hb).2.2
    have F₂ := hF.step hlv d₂
    have Fa₂ := hFa.step hla d₂
    have L₂ : s₂.heap.PlainList a ⟨xs'⟩ := hL.at fun o e => hFa.keep1 r'.gr d₂ haw e
    have V₂ : VRs C g₂ s₂.heap ys' xs' := hv.mono (d₂.ge (fun n a e => (r'.gr.live n a e).2.2) (fun b hb => (hF b hb).2.2) r'.gr.tabP)
    refine wpAny_bind (wpAny_mono (turn i l' σ' ys' hi hI hJ fa g₂ s₂ v r₂ hv₂) ?_ fun _ _ e => e.elim)
    rintro _ s₃ ⟨g₃, l₃, σ₃, r₃, d₃, h₃⟩
    refine wpAny_bind (wpAny_mono (h₃.run fa g₃ s₃ r₃) ?_ fun _ _ e => e.elim)
    rintro ok s₄ ⟨g₄, σ₄, r₄, d₄, h₄⟩
    have d₃₄ := d₃.trans d₄
    have L₄ : s₄.heap.PlainList a ⟨xs'⟩ := L₂.at fun o e => Fa₂.keep1 gr₂ d₃₄ ha e
    have V₄ : VRs C g₄ s₄.heap ys' xs' := V₂.mono (r₂.ge d₃₄)
    have la₂ : ∀ b ∈ [a], b < s₂.heap.objs.size := fun b hb => Nat.lt_of_lt_of_le (hla b hb) d₂.size
    have lv₂ : ∀ b ∈ wr, b < s₂.heap.objs.size := fun b hb => Nat.lt_of_lt_of_le (hlv b hb) d₂.size
    have dW : Gd C (a :: fa) g₂ s₂ g₄ s₄ := d₃₄.weak fun b h => .inl (.tail _ h)
    have dn := fun {g₅ l₅ σ₅ s₅ ys₅ xs₅} d₅ r₅ L₅ V₅ h => comp_next (g₂ := g₅) (l₂ := l₅) (σ₂ := σ₅) (s₂ := s₅) (ys := ys₅) (xs := xs₅) (Inv := Inv) W hi hk r₂ lv₂ F₂ la₂ Fa₂ ir₂ hJ hwf haw (d'.trans (d₂.weak fun b h => .inl (.tail _ (List.mem_append_left _ h)))) (dW.trans d₅) r₅ L₅ V₅ h
    cases ok with
    | false => exact wpAny_pure ⟨rfl, dn (.refl ..) r₄ L₄ V₄ h₄⟩
    | true =>
      refine wpAny_bind (wpAny_mono (h₄ fa g₄ s₄ xs' r₄ (Fa₂.step la₂ d₃₄) ha hac L₄ V₄) ?_ fun _ _ e => e.elim)
      rintro _ s₅ ⟨g₅, l₅, σ₅, ys₅, xs₅, r₅, d₅, L₅, V₅, hh⟩
      exact wpAny_pure ⟨rfl, dn d₅ r₅ L₅ V₅ hh⟩
  · obtain rfl : i = n := by walk_at "l"
    refine wpAny_mono (W.done g' σ' s' r'.gr hF hir hJ) ?_ fun _ _ e => e.elim
    rintro _ s₁ ⟨rfl, gr₁, d₁⟩
    have r₁ := r'.step gr₁ d₁ hwf fun b hb => (hF b hb).2.2
    refine wpAny_pure ⟨rfl, g', l', σ', ys', xs', r₁, d'.trans (d₁.weak fun b h => .inl (.tail _ (List.mem_append_left _ h))), hL.at fun o e => hFa.keep1 r'.gr d₁ haw e, hv.mono (d₁.ge (fun n a e => (r'.gr.live n a e).2.2) (fun b hb => (hF b hb).2.2) r'.gr.tabP), hI, hJ⟩
end
end
section
noncomputable def clGo (env : Env) : List (Str × NameKind) → List (Str × Addr) → List (Str × Addr)
  | [], acc => acc
  | (n, k) :: r, acc => clGo env r (if k == .free then (n, (env.cells.lookup n).getD 0) :: acc else acc)
theorem clGo_cons (env : Env) (n : Str) (k : NameKind) (r : List (Str × NameKind)) (acc : List (Str × Addr)) : clGo env ((n, k) :: r) acc = clGo env r (if k == .free then (n, (env.cells.lookup n).getD 0) :: acc else acc) := rfl
noncomputable abbrev clOf (scope : Scope) (env : Env) : List (Str × Addr) := clGo env scope.names []
theorem closureFor_eq {scope : Scope} {env : Env} (h : ∀ n, (n, NameKind.free) ∈ scope.names → ∃ c, env.cells.lookup n = some c) : closureFor scope env = pure (clOf scope env) := by
  have key : ∀ (names : List (Str × NameKind)) (acc : List (Str × Addr)), (∀ n, (n, NameKind.free) ∈ names → ∃ c, env.cells.lookup n = some c) →
      (forIn names acc fun x (cs : List (Str × Addr)) => (if x.2 == NameKind.free then do let a ← cellOf env x.1; pure (ForInStep.yield ((x.1, a) :: cs)) else pure (ForInStep.yield cs) : Sem (ForInStep (List (Str × Addr))))) = pure (clGo env names acc) := by
    intro names
    induction names with
    | nil => intro acc _; rfl
    | cons p r ih =>
      intro acc hh
      obtain ⟨n, k⟩ := p
      rw [List.forIn_cons]
      rw [clGo_cons]
      cases hk : k == NameKind.free with
      | true =>
        have hk' : k = .free := by simpa using hk
        obtain ⟨c, hc⟩ := hh n (by rw [hk']; exact .head _)
        simp only [if_true, cellOf, hc, pure_bind, Option.getD_some]
        exact ih _ fun m hm => hh m (.tail _ hm)
      | false =>
        simp only [Bool.false_eq_true, if_false, pure_bind]
        exact ih _ fun m hm => hh m (.tail _ hm)
  unfold closureFor
  have := key scope.names [] h
  simp only [bind_pure] 
  exact this
theorem clGo_lookup {env : Env} {x : Str} {c : Addr} {names : List (Str × NameKind)} {acc : List (Str × Addr)} (h0 : ∀ c, acc.lookup x = some c → env.cells.lookup x = some c) (hh : ∀ n, (n, NameKind.free) ∈ names → ∃ c, env.cells.lookup n = some c)
    (e : (clGo env names acc).lookup x = some c) : env.cells.lookup x = some c := by
  induction names generalizing acc with
  | nil => exact h0 c e
  | cons p r ih =>
    obtain ⟨n, k⟩ := p
    refine ih (fun c' e' => ?_) (fun m hm => hh m (.tail _ hm)) e
    cases hk : k == NameKind.free with
    | true =>
      rw [hk] at e'
      simp only [if_true] at e'
      rw [List.lookup_cons] at e'
      cases hx : x == n with
      | true =>
        have hxn := beq_iff_eq.mp hx
        rw [hx] at e'
        have hk' : k = .free := by simpa using hk
        obtain ⟨c1, hc1⟩ := hh n (by rw [hk']; exact .head _)
        rw [hc1] at e'
        cases e'
        rw [hxn]; exact hc1
      | false => rw [hx] at e'; exact h0 c' e'
    | false => rw [hk] at e'; exact h0 c' e'
theorem clGo_has {env : Env} {x : Str} {names : List (Str × NameKind)} {acc : List (Str × Addr)} (h : (x, NameKind.free) ∈ names ∨ (acc.lookup x).isSome = true) : ((clGo env names acc).lookup x).isSome = true := by
  induction names generalizing acc with
  | nil => exact h.elim (fun h => nomatch h) id
  | cons p r ih =>
    obtain ⟨n, k⟩ := p
    refine ih ?_
    rcases h with h | h
    · rcases List.mem_cons.mp h with e | h
      · cases e; right; simp
      · exact .inl h
    · right
      split
      · rw [List.lookup_cons]; cases x == n <;> simp [h]
      · exact h
theorem clGo_mem {env : Env} {x : Str} : ∀ {names : List (Str × NameKind)} {acc : List (Str × Addr)}, ((clGo env names acc).lookup x).isSome = true → (x, NameKind.free) ∈ names ∨ (acc.lookup x).isSome = true
  | [], acc, h => .inr h
  | (n, k) :: r, acc, h => by
    rw [clGo_cons] at h
    rcases clGo_mem h with h | h
    · exact .inl (.tail _ h)
    · split at h
      · rename_i hk
        have hk' : k = .free := by simpa using hk
        rw [List.lookup_cons] at h
        cases hx : x == n with
        | true => left; rw [hk', beq_iff_eq.mp hx]; exact .head _
        | false => rw [hx] at h; exact .inr h
      · exact .inr h
theorem cellsFrom_append : ∀ (names : List (Str × NameKind)) (n : Nat) (acc : List (Str × Addr)), cellsFrom n names acc = cellsFrom n names [] ++ acc
  | [], _, _ => rfl
  | (y, k) :: r, n, acc => by
    unfold cellsFrom
    split
    · rw [cellsFrom_append r (n + 1) ((y, n) :: acc), cellsFrom_append r (n + 1) [(y, n)], List.append_assoc]; rfl
    · exact cellsFrom_append r n acc
theorem lookup_append {α : Type} (l m : List (Str × α)) (x : Str) : (l ++ m).lookup x = (l.lookup x).or (m.lookup x) := by
  induction l with
  | nil => rfl
  | cons p l ih =>
    obtain ⟨y, v⟩ := p
    rw [List.cons_append, List.lookup_cons, List.lookup_cons]
    cases x == y
    · exact ih
    · rfl
noncomputable def cEnv (scope : Scope) (env : Env) (L : Addr) : Env := { compEnvC scope (clOf scope env) L env with cells := cellsFrom (L + 1) scope.names (clOf scope env) }
noncomputable def cFm (scope : Scope) (env : Env) (L : Addr) : Fm := ⟨cEnv scope env L, ownOf scope⟩
noncomputable def cLoc (scope : Scope) (loc : Loc) : Loc := fun x => if scope.names.lookup x = some .free then loc x else none
structure CompOk (scope : Scope) (env : Env) : Prop where
  kind : scope.kind = .function
  loc : ∀ x ∈ scope.names, x.2 = .local → scope.names.lookup x.1 = some .local
  free : ∀ x, (x, NameKind.free) ∈ scope.names → env.kindOf x = some .cell ∨ env.kindOf x = some .free
  cell : ∀ x, (x, NameKind.cell) ∈ scope.names → scope.names.lookup x = some .cell
  free' : ∀ x, (x, NameKind.free) ∈ scope.names → scope.names.lookup x = some .free
theorem relabel_kind {scope : Scope} {env : Env} {x : Str} {names : List (Str × NameKind)} {k : NameKind} (h : names.lookup x = some k) :
    (names.map fun (n, k) => if (k == NameKind.free && env.scope.kind == .function && env.kindOf n == some .cell) then (n, NameKind.cell) else (n, k)).lookup x = some (if k == NameKind.free && env.scope.kind == .function && env.kindOf x == some .cell then .cell else k) := by
  induction names with
  | nil => exact nomatch h
  | cons p r ih =>
    obtain ⟨n, k'⟩ := p
    rw [List.lookup_cons] at h
    rw [List.map_cons]
    cases hx : x == n with
    | true =>
      rw [hx] at h; cases h
      have := beq_iff_eq.mp hx
      subst this
      simp only
      split <;> simp [List.lookup_cons]
    | false =>
      rw [hx] at h
      have ih := ih h
      simp only
      split <;> (rw [List.lookup_cons, hx]; exact ih)
theorem relabel_none {env : Env} {x : Str} {names : List (Str × NameKind)} (h : names.lookup x = none) :
    (names.map fun (n, k) => if (k == NameKind.free && env.scope.kind == .function && env.kindOf n == some .cell) then (n, NameKind.cell) else (n, k)).lookup x = none := by
  induction names with
  | nil => rfl
  | cons p r ih =>
    obtain ⟨n, k'⟩ := p
    rw [List.lookup_cons] at h
    rw [List.map_cons]
    cases hx : x == n with
    | true => rw [hx] at h; cases h
    | false =>
      rw [hx] at h
      have ih := ih h
      simp only
      split <;> (rw [List.lookup_cons, hx]; exact ih)
section
variable {C : Cx} {A : Around} {fm : Fm} {fa : List Addr} {loc : Loc} {σ : Hp} {g : Gh} {s : Shared} {Q Q' : MV → Hp → Prop} {QB : Bool → Hp → Prop} {QS : Fl → Loc → Hp → Prop}
theorem new_comp {scope : Scope} {R : Env → Shared → Prop} (H : CompOk scope fm.env) (r : Rel C g σ fm fa loc s)
    (h : ∀ h' fb, fb = s.heap.objs.size :: (ownOf scope).filterMap (fun x => (cEnv scope fm.env s.heap.objs.size).cells.lookup x) → (∀ b ∈ fb, s.heap.objs.size ≤ b) → (∀ b o, s.heap.get? b = some o → h'.get? b = some o) → s.heap.objs.size ≤ h'.objs.size →
      Rel C g σ (cFm scope fm.env s.heap.objs.size) fb (cLoc scope loc) { s with heap := h' } → ∀ cenv : Env, cenv.locals = s.heap.objs.size → { cenv with scope := relabel scope fm.env } = cEnv scope fm.env s.heap.objs.size → R cenv { s with heap := h' }) :
    wpAny (model C.prog C.w) A (newFunctionEnv scope fm.env.globals (clOf scope fm.env) [] fm.env.qual none .none (some fm.env)) R NoE s := by
  have hfree : ∀ n, (n, NameKind.free) ∈ scope.names → ∃ c, fm.env.cells.lookup n = some c := fun n hn => r.fr.has n (H.free n hn)
  simp only [newFunctionEnv, Option.isSome_some, if_true]
  refine wpAny_bind (wpAny_alloc ?_)
  refine wpAny_bind (wpAny_layCells _ (fun name kind cells => by cases hkc : kind == NameKind.cell <;> simp [hkc]) _ _ _ _ ?_)
  have hz : ({ s with heap := s.heap.push { cls := .type "dict", data := .dict #[] } } : Shared).heap.objs.size = s.heap.objs.size + 1 := Heap.size_push ..
  rw [hz]
  have ok := cellsFrom_ok scope.names (s.heap.push { cls := .type "dict", data := .dict #[] }) (s.heap.objs.size + 1) [] ⟨fun _ _ hm => (nomatch hm), List.Pairwise.nil⟩ (by rw [Heap.size_push]; exact Nat.le_refl _)
  rw [Heap.size_push] at ok
  have keep : ∀ b o, s.heap.get? b = some o → (pushCells (s.heap.push { cls := .type "dict", data := .dict #[] }) scope.names).get? b = some o := fun b o e => pushCells_keeps _ _ b o (Heap.get?_push_of_some _ e)
  have hns : (pushCells (s.heap.push { cls := .type "dict", data := .dict #[] }) scope.names).Ns s.heap.objs.size fun _ => none := (Heap.Ns.new s.heap (.type "dict")).keeps (pushCells_keeps _ _)
  generalize pushCells (s.heap.push { cls := .type "dict", data := .dict #[] }) scope.names = h' at ok keep hns ⊢
  have hlt : s.heap.objs.size < h'.objs.size := hns.lt
  refine wpAny_bind (wpAny_pure (wpAny_pure ?_))
  have hcl : (cEnv scope fm.env s.heap.objs.size).cells = cellsFrom (s.heap.objs.size + 1) scope.names [] ++ clOf scope fm.env := cellsFrom_append ..
  have hsplit : ∀ x c, (cEnv scope fm.env s.heap.objs.size).cells.lookup x = some c → ((cellsFrom (s.heap.objs.size + 1) scope.names []).lookup x = some c ∧ x ∈ ownOf scope) ∨ (fm.env.cells.lookup x = some c ∧ (x, NameKind.free) ∈ scope.names) := fun x c e => by
    rw [hcl, lookup_append] at e
    cases hn : (cellsFrom (s.heap.objs.size + 1) scope.names []).lookup x with
    | some c' =>
      rw [hn] at e; cases e
      refine .inl ⟨rfl, ?_⟩
      rcases mem_cellsFrom scope.names (s.heap.objs.size + 1) [] x (by rw [hn]; rfl) with q | q
      · exact List.mem_map.mpr ⟨(x, .cell), List.mem_filter.mpr ⟨q, rfl⟩, rfl⟩
      · cases q
    | none =>
      rw [hn] at e
      have e' : (clOf scope fm.env).lookup x = some c := e
      refine .inr ⟨clGo_lookup (fun c h => by cases h) hfree e', ?_⟩
      rcases clGo_mem (x := x) (names := scope.names) (acc := []) (env := fm.env) (by rw [show (clGo fm.env scope.names []).lookup x = some c from e']; rfl) with q | q
      · exact q
      · cases q
  have hnew : ∀ x c, (cellsFrom (s.heap.objs.size + 1) scope.names []).lookup x = some c → h'.IsCell c none ∧ s.heap.objs.size + 1 ≤ c := fun x c e => ok.empty x c (mem_of_lookup e)
  have hownc : ∀ x ∈ ownOf scope, ∃ c, (cellsFrom (s.heap.objs.size + 1) scope.names []).lookup x = some c := fun x hx => by
    obtain ⟨p, hp, rfl⟩ := List.mem_map.mp hx
    obtain ⟨hp1, hp2⟩ := List.mem_filter.mp hp
    have hp3 : p.2 = NameKind.cell := by simpa using hp2
    exact Option.isSome_iff_exists.mp (lookup_cellsFrom scope.names (s.heap.objs.size + 1) [] p.1 (.inl (hp3 ▸ hp1)))
  have hup : ∀ x c, (cellsFrom (s.heap.objs.size + 1) scope.names []).lookup x = some c → (cEnv scope fm.env s.heap.objs.size).cells.lookup x = some c := fun x c e => by rw [hcl, lookup_append, e]; rfl
  have hcells : ∀ x c, fm.env.cells.lookup x = some c → c < s.heap.objs.size := fun x c e => by obtain ⟨⟨v, hv⟩, _⟩ := r.fr.cells x c e; exact hv.lt
  have hfb : ∀ b ∈ s.heap.objs.size :: (ownOf scope).filterMap (fun x => (cEnv scope fm.env s.heap.objs.size).cells.lookup x), s.heap.objs.size ≤ b ∧ b < h'.objs.size := by
    intro b hb
    rcases List.mem_cons.mp hb with rfl | hb
    · exact ⟨Nat.le_refl _, hlt⟩
    · obtain ⟨x, hx, hc⟩ := List.mem_filterMap.mp hb
      obtain ⟨c, hc'⟩ := hownc x hx
      have := hup x c hc'
      rw [hc] at this; cases this
      obtain ⟨h1, h2⟩ := hnew x b hc'
      exact ⟨Nat.le_of_succ_le h2, h1.lt⟩
  have hg : Ge g g s.heap h' := ⟨fun _ _ e => e, fun _ e => e, fun a o _ e => keep a o e⟩
  have hkof : ∀ x k, scope.names.lookup x = some k → (cEnv scope fm.env s.heap.objs.size).kindOf x = some (if k == NameKind.free && fm.env.scope.kind == .function && fm.env.kindOf x == some .cell then .cell else k) := fun x k e => relabel_kind (scope := scope) (env := fm.env) e
  have hkno : ∀ x, scope.names.lookup x = none → (cEnv scope fm.env s.heap.objs.size).kindOf x = none := fun x e => relabel_none (env := fm.env) e
  refine h h' _ rfl (fun b hb => (hfb b hb).1) keep (Nat.le_of_lt hlt) ⟨r.gr.ext (s' := { s with heap := h' }) keep (Nat.le_of_lt hlt), H.kind, r.fr.glob, r.fr.bi, ⟨_, hns⟩, .head _, fun x v e => ?_, fun x c e => ?_, fun x hx => ?_, fun x y c e e' => ?_, fun b hb => ?_, fun x hx => ?_⟩ _ rfl rfl
  · have e' : (if scope.names.lookup x = some .free then loc x else none) = some v := e
    by_cases hf : scope.names.lookup x = some .free
    · rw [if_pos hf] at e'
      obtain ⟨u, hu, hv⟩ := r.fr.var x v e'
      have hm : (x, NameKind.free) ∈ scope.names := mem_of_lookup hf
      refine ⟨u, ?_, hv.mono hg⟩
      obtain ⟨c, hc⟩ := hfree x hm
      have hIc : h'.IsCell c (some u) := by
        rcases hu with ⟨q, _⟩ | ⟨_, c', hc', hi⟩
        · rcases H.free x hm with w | w <;> (rw [w] at q; cases q)
        · rw [hc] at hc'; cases hc'; exact hi.keeps keep
      obtain ⟨c2, hc2⟩ := Option.isSome_iff_exists.mp (clGo_has (x := x) (names := scope.names) (acc := []) (env := fm.env) (.inl hm))
      have hcc : (cEnv scope fm.env s.heap.objs.size).cells.lookup x = some c := by
        rw [hcl, lookup_append]
        cases hn : (cellsFrom (s.heap.objs.size + 1) scope.names []).lookup x with
        | some c' =>
          exfalso
          rcases mem_cellsFrom scope.names (s.heap.objs.size + 1) [] x (by rw [hn]; rfl) with q | q
          · have := H.cell x q; rw [hf] at this; cases this
          · cases q
        | none =>
          show (clOf scope fm.env).lookup x = some c
          have : fm.env.cells.lookup x = some c2 := clGo_lookup (fun c h => by cases h) hfree hc2
          rw [hc] at this; cases this; exact hc2
      refine .inr ⟨?_, c, hcc, hIc⟩
      have := hkof x _ hf
      show (cEnv scope fm.env s.heap.objs.size).kindOf x = _ ∨ (cEnv scope fm.env s.heap.objs.size).kindOf x = _
      rw [this]
      split
      · exact .inl rfl
      · exact .inr rfl
    · rw [if_neg hf] at e'; cases e'
  · rcases hsplit x c e with ⟨e1, hx⟩ | ⟨e1, hx⟩
    · obtain ⟨h1, h2⟩ := hnew x c e1
      have hge : s.heap.objs.size ≤ c := Nat.le_of_succ_le h2
      exact ⟨⟨_, h1⟩, fun q => by have q' : c = s.heap.objs.size := q; rw [q'] at h2; exact Nat.not_succ_le_self _ h2, Nat.le_trans r.gr.size hge, fun n hn => Nat.lt_irrefl _ (Nat.lt_of_lt_of_le (r.gr.live n c hn).2.1 hge), fun hno => absurd hx hno⟩
    · refine via_p fun P kP => ?_
      obtain ⟨⟨v, hv⟩, c1, c2, c3, c5⟩ := r.fr.cells x c e1
      refine kP ?_
      clear kP P
      have hlt' := hcells x c e1
      exact ⟨⟨v, hv.keeps keep⟩, fun q => by have q' : c = s.heap.objs.size := q; rw [q'] at hlt'; exact Nat.lt_irrefl _ hlt', c2, c3, fun _ hm => Nat.lt_irrefl _ (Nat.lt_of_lt_of_le hlt' (hfb c hm).1)⟩
  · obtain ⟨c, hc⟩ := hownc x hx
    obtain ⟨p, hp, rfl⟩ := List.mem_map.mp hx
    obtain ⟨hp1, hp2⟩ := List.mem_filter.mp hp
    have hp3 : p.2 = NameKind.cell := by simpa using hp2
    have hk := hkof p.1 _ (H.cell p.1 (hp3 ▸ hp1))
    refine ⟨?_, c, hup _ c hc, .tail _ (List.mem_filterMap.mpr ⟨p.1, hx, hup _ c hc⟩)⟩
    show (cEnv scope fm.env s.heap.objs.size).kindOf p.1 = _
    rw [hk]; rfl
  · rcases hsplit x c e with ⟨e1, _⟩ | ⟨e1, _⟩ <;> rcases hsplit y c e' with ⟨e2, _⟩ | ⟨e2, _⟩
    · exact name_of_addr ok.apart (mem_of_lookup e1) (mem_of_lookup e2)
    · exact absurd (hcells y c e2) (Nat.not_lt.mpr (Nat.le_of_succ_le (hnew x c e1).2))
    · exact absurd (hcells x c e1) (Nat.not_lt.mpr (Nat.le_of_succ_le (hnew y c e2).2))
    · exact r.fr.inj x y c e1 e2
  · obtain ⟨f1, f2⟩ := hfb b hb
    exact ⟨Nat.le_trans r.gr.size f1, f2, fun hp => Nat.lt_irrefl _ (Nat.lt_of_lt_of_le (r.gr.P b hp).2 f1), fun n hn => Nat.lt_irrefl _ (Nat.lt_of_lt_of_le (r.gr.live n b hn).2.1 f1)⟩
  · have hx' : (cEnv scope fm.env s.heap.objs.size).kindOf x = some .cell ∨ (cEnv scope fm.env s.heap.objs.size).kindOf x = some .free := hx
    cases hk : scope.names.lookup x with
    | none => rw [hkno x hk] at hx'; rcases hx' with q | q <;> cases q
    | some k =>
      have hk2 := hkof x k hk
      cases k with
      | free =>
        obtain ⟨c2, hc2⟩ := Option.isSome_iff_exists.mp (clGo_has (x := x) (names := scope.names) (acc := []) (env := fm.env) (.inl (mem_of_lookup hk)))
        show ∃ c, (cEnv scope fm.env s.heap.objs.size).cells.lookup x = some c
        rw [hcl, lookup_append]
        cases (cellsFrom (s.heap.objs.size + 1) scope.names []).lookup x with
        | some c => exact ⟨c, rfl⟩
        | none => exact ⟨c2, hc2⟩
      | cell =>
        obtain ⟨c, hc⟩ := hownc x (List.mem_map.mpr ⟨(x, .cell), List.mem_filter.mpr ⟨mem_of_lookup hk, rfl⟩, rfl⟩)
        exact ⟨c, hup x c hc⟩
      | _ => rw [hk2] at hx'; rcases hx' with q | q <;> cases q
end
end
section
section
variable {C : Cx} {A : Around} {fm : Fm} {fa : List Addr} {loc : Loc} {σ : Hp} {g : Gh} {s : Shared} {Q Q' : MV → Hp → Prop} {QB : Bool → Hp → Prop} {QS : Fl → Loc → Hp → Prop}
structure Built (C : Cx) (fm : Fm) (fa : List Addr) (loc : Loc) (g : Gh) (s : Shared) (g' : Gh) (σ' : Hp) (s' : Shared) (a L : Addr) (ys : List MV) : Prop where
  rel : Rel C g' σ' fm fa loc s'
  gd : Gd C fa g s g' s'
  free : Free C g' [a, L]
  apa : s.heap.objs.size ≤ a ∧ a ∉ fa ∧ ∀ x, fm.env.cells.lookup x ≠ some a
  apL : s.heap.objs.size ≤ L ∧ L ∉ fa ∧ ∀ x, fm.env.cells.lookup x ≠ some L
  ne : a ≠ L
  lst : ∃ xs, s'.heap.PlainList a ⟨xs⟩ ∧ VRs C g' s'.heap ys xs
theorem Free.mono {wr wr' : List Addr} (h : Free C g wr) (k : ∀ b ∈ wr', b ∈ wr) : Free C g wr' := fun b hb => h b (k b hb)
theorem Built.go {g' : Gh} {σ' : Hp} {s' : Shared} {a L : Addr} {ys : List MV} {h' : Heap} (B : Built C fm fa loc g s g' σ' s' a L ys) (hb : Heap.SameBut L s'.heap h') : Built C fm fa loc g s g' σ' { s' with heap := h' } a L ys := by
  have hF : Free C g' [L] := B.free.mono fun b hb => .tail _ hb
  obtain ⟨gr, d⟩ := B.rel.gr.loop (tk := s'.toks) (wr := [L]) hF (fun b o hn e => hb.extBut b o (fun q => hn (by rw [q]; exact .head _)) e) (Nat.le_of_eq hb.1.symm)
  have e : Ge g' g' s'.heap h' := d.ge (fun n a e => (B.rel.gr.live n a e).2.2) (fun b hb => (hF b hb).2.2) B.rel.gr.tabP
  obtain ⟨xs, hl, hv⟩ := B.lst
  exact ⟨B.rel.step gr d (fun b hb => by rw [List.mem_singleton.mp hb]; exact B.apL.2) (fun b hb => (hF b hb).2.2), ((B.gd.weak (fa := L :: fa) fun b h => .inl (.tail _ h)).trans (d.weak fun b h => .inl (by rw [List.mem_singleton.mp h]; exact .head _))).weak (fun b h => (List.mem_cons.mp h).elim (fun q => .inr (q ▸ B.apL.1)) .inl), B.free, B.apa, B.apL, B.ne, xs, hl.at fun o e => hb.extBut a o B.ne e, hv.mono e⟩
theorem comp_core {elt : Expr} {tg iter : Expr} {ifs : List Expr} {rest : List Comprehension} {scope : Scope} {pos : Pos} {use : Option (Value → Sem Unit)} {R : Value → Shared → Prop} {pp : Pos} (H : CompOk scope fm.env) (n : Nat) (item : Nat → MV) (J : Hp → Prop) (Inv : Nat → Loc → Hp → List MV → Prop)
    (h : WalkE C A fm tg iter loc σ n item J fun σ₁ => Inv 0 (cLoc scope loc) σ₁ []) (hn : ∀ g', rest[0]? = some g' → g'.is_async = 0)
    (turn : ∀ L a i l σ ys, i < n → Inv i l σ ys → J σ → St C A (cFm scope fm.env L) tg (item i) l σ fun l₁ σ₁ => Ifs C A (cFm scope fm.env L) ifs l₁ σ₁ fun ok σ₂ =>
      if ok then Inn C A (cFm scope fm.env L) a (innerOf elt (⟨tg, iter, ifs, 0⟩ :: rest) scope pos 0 (.ref a) (cEnv scope fm.env L)) ys l₁ σ₂ fun l₂ σ₃ ys' => Inv (i + 1) l₂ σ₃ ys' ∧ J σ₃ else Inv (i + 1) l₁ σ₂ ys ∧ J σ₂)
    (r : Rel C g σ fm fa loc s)
    (k : ∀ g' σ' s' a L l ys, Built C fm fa loc g s g' σ' s' a L ys → (∃ m, s'.heap.Ns L m) → Inv n l σ' ys → J σ' → compPost (model C.prog C.w) A NoE use R (.ref a) L (.ok .next) s')
    (hs : ∀ x, foldedSetIterable iter fm.env x = pure x) :
    wpAny (model C.prog C.w) A (comprehension (.ListComp elt (⟨tg, iter, ifs, 0⟩ :: rest) scope pos) scope fm.env pp (newList []) false (eval iter fm.env) use) R NoE s := by
  have hfree : ∀ n, (n, NameKind.free) ∈ scope.names → ∃ c, fm.env.cells.lookup n = some c := fun n hn => r.fr.has n (H.free n hn)
  refine wpAny_comprehension_free (g := ⟨tg, iter, ifs, 0⟩) (gs := rest) rfl hs (closureFor_eq hfree) H.kind H.loc ?_
  refine wpAny_mono (h fa g s r) (fun x s₁ h₁ => wpAny_mono h₁ ?_ fun _ _ e => e) fun _ _ e => e
  rintro it s₂ ⟨g₂, σ₂, wr, IR, W, r₂, d₂, hF, hw, hir, hJ, hI⟩
  have hlv := W.live 0 g₂ σ₂ s₂ r₂.gr hir hJ
  refine wpAny_newList ?_ (by decide)
  have k₃ : ∀ b o', s₂.heap.get? b = some o' → (s₂.heap.push (lstObj #[] 0)).get? b = some o' := fun b o' e => Heap.get?_push_of_some _ e
  have z₃ : (s₂.heap.push (lstObj #[] 0)).objs.size = s₂.heap.objs.size + 1 := Heap.size_push ..
  have r₃ : Rel C g₂ σ₂ fm fa loc { s₂ with heap := s₂.heap.push (lstObj #[] 0) } := r₂.ext k₃ (size_push_le _ _)
  refine new_comp (s := { s₂ with heap := s₂.heap.push (lstObj #[] 0) }) H r₃ fun h' fb hfb hfb0 keep hz ri cenv hloc henv => ?_
  rw [henv, hloc]
  have hL : ({ s₂ with heap := s₂.heap.push (lstObj #[] 0) } : Shared).heap.objs.size = s₂.heap.objs.size + 1 := z₃
  rw [hL] at hfb hfb0 ri ⊢
  generalize ha : s₂.heap.objs.size = a at *
  have kk : ∀ b o, s₂.heap.get? b = some o → h'.get? b = some o := fun b o e => keep b o (k₃ b o e)
  have hz' : a + 1 ≤ h'.objs.size := by have := hz; rw [hL] at this; exact this
  have d₄ : Gd C [] g₂ s₂ g₂ { s₂ with heap := h' } := .ext kk (by rw [ha]; exact Nat.le_of_succ_le hz') rfl rfl rfl
  have hir₄ : IR 0 g₂ σ₂ h' := W.stab 0 g₂ σ₂ s₂ g₂ σ₂ { s₂ with heap := h' } [] r₂.gr hF hir hJ d₄ (fun _ _ h => nomatch h) (fun _ h => nomatch h) ri.gr hJ
  have Fa : Free C g₂ [a] := by rw [← ha]; exact free_new r₂.gr
  have hLi : h'.PlainList a ⟨[]⟩ := by
    have : (s₂.heap.push (lstObj #[] 0)).PlainList a ⟨[]⟩ := by rw [← ha]; exact ⟨_, Heap.get?_push_size _ rfl⟩
    exact this.at fun o e => keep a o e
  have hwlt : ∀ b ∈ wr, b < a := fun b hb => hlv b hb
  have icell : ∀ x c, (cFm scope fm.env (a + 1)).env.cells.lookup x = some c → a + 1 ≤ c ∨ fm.env.cells.lookup x = some c := fun x c e => by
    have e' : (cellsFrom (a + 1 + 1) scope.names (clOf scope fm.env)).lookup x = some c := e
    rw [cellsFrom_append, lookup_append] at e'
    cases hq : (cellsFrom (a + 1 + 1) scope.names []).lookup x with
    | some c' =>
      rw [hq] at e'; cases e'
      left
      have := (ri.fr.cells x c e)
      by_cases ho : x ∈ (cFm scope fm.env (a + 1)).own
      · obtain ⟨_, c2, hc2, hm2⟩ := ri.fr.own x ho
        rw [e] at hc2; cases hc2
        exact hfb0 c hm2
      · exfalso
        rcases mem_cellsFrom scope.names (a + 1 + 1) [] x (by rw [hq]; rfl) with q | q
        · exact ho (List.mem_map.mpr ⟨(x, .cell), List.mem_filter.mpr ⟨q, rfl⟩, rfl⟩)
        · cases q
    | none =>
      rw [hq] at e'
      exact .inr (clGo_lookup (fun c h => by cases h) hfree e')
  have ocell : ∀ x c, fm.env.cells.lookup x = some c → c < a := fun x c e => by rw [← ha]; obtain ⟨⟨v, hv⟩, _⟩ := r₂.fr.cells x c e; exact hv.lt
  have hwf : ∀ b ∈ wr, b ∉ fb ∧ ∀ x, (cFm scope fm.env (a + 1)).env.cells.lookup x ≠ some b := fun b hb =>
    ⟨fun q => Nat.lt_irrefl _ (Nat.lt_of_lt_of_le (hwlt b hb) (Nat.le_of_succ_le (hfb0 b q))), fun x q => (icell x b q).elim (fun w => Nat.lt_irrefl _ (Nat.lt_of_lt_of_le (hwlt b hb) (Nat.le_of_succ_le w))) ((hw b hb).2.2 x)⟩
  have afb : a ∉ fb := fun q => Nat.not_succ_le_self _ (hfb0 a q)
  have acell : ∀ x, (cFm scope fm.env (a + 1)).env.cells.lookup x ≠ some a := fun x q => (icell x a q).elim (fun w => Nat.not_succ_le_self _ w) fun w => Nat.lt_irrefl _ (ocell x a w)
  have haw : a ∉ wr := fun q => Nat.lt_irrefl _ (hwlt a q)
  have main := comp_walk (fm := cFm scope fm.env (a + 1)) (d := 0) (gens := ⟨tg, iter, ifs, 0⟩ :: rest) (elt := elt) (scope := scope) (pos := pos) (a := a) (xs := []) (ys := []) rfl hn W Inv (fun i l σ ys => turn (a + 1) a i l σ ys) hI hJ ri hF hwf hir₄ Fa afb acell haw hLi .nil
  refine comp_start (gd := ⟨tg, iter, ifs, 0⟩) rfl rfl (codeAny_mono main ?_) fun Q q => W.self 0 g₂ σ₂ _ ri.gr hir₄ hJ Q q
  rintro r' s' ⟨rfl, g', l', σ', ys, xs, rel', gd', hL', hV', hInv, hJ'⟩
  have d₅ : Gd C (a :: wr ++ fb) g₂ s₂ g' s' := (d₄.weak fun b h => nomatch h).trans gd'
  have hall : ∀ b ∈ a :: wr ++ fb, b ∉ fa ∧ ∀ x, fm.env.cells.lookup x ≠ some b := fun b hb => by
    rcases List.mem_append.mp hb with hb | hb
    · rcases List.mem_cons.mp hb with rfl | hb
      · exact r₂.apart (by rw [ha]; exact Nat.le_refl _)
      · exact (hw b hb).2
    · exact r₂.apart (by rw [ha]; exact Nat.le_of_succ_le (hfb0 b hb))
  have hallP : ∀ b ∈ a :: wr ++ fb, ¬ g₂.P b := fun b hb => by
    rcases List.mem_append.mp hb with hb | hb
    · rcases List.mem_cons.mp hb with rfl | hb
      · exact (Fa b (.head _)).2.2
      · exact (hF b hb).2.2
    · exact (ri.fr.fa b hb).2.2.1
  have rel₅ := r₂.step rel'.gr d₅ hall hallP
  have hallS : ∀ b ∈ a :: wr ++ fb, s.heap.objs.size ≤ b := fun b hb => by
    have hsa : s.heap.objs.size ≤ a := by rw [← ha]; exact d₂.size
    rcases List.mem_append.mp hb with hb | hb
    · rcases List.mem_cons.mp hb with rfl | hb
      · exact hsa
      · exact (hw b hb).1
    · exact Nat.le_trans hsa (Nat.le_of_succ_le (hfb0 b hb))
  have gd₅ : Gd C fa g s g' s' := ((d₂.weak (fa := (a :: wr ++ fb) ++ fa) fun b h => .inl (List.mem_append_right _ h)).trans (d₅.weak fun b h => .inl (List.mem_append_left _ h))).weak fun b h => (List.mem_append.mp h).elim (fun q => .inr (hallS b q)) .inl
  have hLfb : a + 1 ∈ fb := by rw [hfb]; exact .head _
  have FL := rel'.fr.fa (a + 1) hLfb
  refine k g' σ' s' a (a + 1) l' ys ⟨rel₅, gd₅, fun b hb => ?_, ⟨hallS a (List.mem_append_left _ (.head _)), hall a (List.mem_append_left _ (.head _))⟩, ⟨hallS _ (List.mem_append_right _ hLfb), hall _ (List.mem_append_right _ hLfb)⟩, Nat.ne_of_lt (Nat.lt_succ_self _), xs, hL', hV'⟩ rel'.fr.ns hInv hJ'
  rcases List.mem_cons.mp hb with rfl | hb
  · have hb' : b < ({ s₂ with heap := h' } : Shared).heap.objs.size := hz'
    obtain ⟨f1, f2, f3⟩ := Fa b (.head _)
    exact ⟨f1, fun n hn => (gd'.ρn n b hn).elim (f2 n) fun w => Nat.lt_irrefl _ (Nat.lt_of_lt_of_le hb' w), fun hp => (gd'.Pn b hp).elim f3 fun w => Nat.lt_irrefl _ (Nat.lt_of_lt_of_le hb' w)⟩
  · rw [List.mem_singleton.mp hb]
    exact ⟨FL.1, FL.2.2.2, FL.2.2.1⟩
theorem FR.pin {a : Addr} {h : Heap} (r : FR C g fm fa loc h) (h1 : a ∉ fa) (h2 : ∀ x, fm.env.cells.lookup x ≠ some a) : FR C (g.pin a) fm fa loc h where
  fn := r.fn
  glob := r.glob
  bi := r.bi
  ns := r.ns
  L := r.L
  var := fun x v e => by obtain ⟨u, hu, hv⟩ := r.var x v e; exact ⟨u, hu, hv.mono (ge_pin0 a h)⟩
  cells := fun x c e => r.cells x c e
  own := r.own
  inj := r.inj
  fa := fun b hb => by obtain ⟨x, y, z, w⟩ := r.fa b hb; exact ⟨x, y, fun q => q.elim (fun q => h1 (q ▸ hb)) z, w⟩
  has := r.has
theorem Built.frz {g' : Gh} {σ' : Hp} {s' : Shared} {a L : Addr} {ys : List MV} (B : Built C fm fa loc g s g' σ' s' a L ys) : Rel C (g'.pin a) σ' fm fa loc s' ∧ VR C (g'.pin a) s'.heap (.lst ys) (.ref a) ∧ Gd C fa g s (g'.pin a) s' := by
  obtain ⟨xs, hl, hv⟩ := B.lst
  obtain ⟨f1, f2, f3⟩ := B.free a (.head _)
  have hlt : a < s'.heap.objs.size := by obtain ⟨o, ho, _⟩ := hl.isList; exact Heap.lt_size ho
  exact ⟨⟨B.rel.gr.pin f1 hlt f2, B.rel.fr.pin B.apa.2.1 B.apa.2.2⟩, .lst (.inl rfl) hl (hv.mono (ge_pin0 a _)), B.gd.pin0 B.apa.1⟩
theorem ge_set {n : Nat} {a : Addr} {h : Heap} (hn : g.ρ n = none) : Ge g (g.set n a) h h :=
  ⟨fun m b e => by
    show (if m = n then some a else g.ρ m) = some b
    rw [if_neg (fun q => by rw [q, hn] at e; cases e)]; exact e, fun _ e => e, fun _ _ _ e => e⟩
theorem set_cases {n : Nat} {a : Addr} {m : Nat} {b : Addr} (e : (g.set n a).ρ m = some b) : (m = n ∧ b = a) ∨ (m ≠ n ∧ g.ρ m = some b) := by
  have e' : (if m = n then some a else g.ρ m) = some b := e
  by_cases h : m = n
  · rw [if_pos h] at e'; cases e'; exact .inl ⟨h, rfl⟩
  · rw [if_neg h] at e'; exact .inr ⟨h, e'⟩
theorem Rel.track {n : Nat} {a : Addr} {o : MO} (r : Rel C g σ fm fa loc s) (hn : σ n = none) (h0 : C.N0 ≤ a) (h1 : a < s.heap.objs.size) (h2 : ∀ m, g.ρ m ≠ some a) (h3 : ¬ g.P a) (h4 : a ∉ fa) (h5 : ∀ x, fm.env.cells.lookup x ≠ some a) (ho : OR C g s.heap a o) :
    Rel C (g.set n a) (σ.set n o) fm fa loc s := by
  have hρ := r.gr.fresh hn
  have e := ge_set (a := a) (h := s.heap) hρ
  refine ⟨⟨r.gr.lo, r.gr.K, r.gr.lim, r.gr.size, fun m o' h => ?_, fun m m' b h h' => ?_, fun m b h => ?_, r.gr.P, fun b h => by obtain ⟨x, vs, q, t⟩ := r.gr.tabs b h; exact ⟨x, vs, q, t.mono e⟩, fun m b h => ?_⟩,
    ⟨r.fr.fn, r.fr.glob, r.fr.bi, r.fr.ns, r.fr.L, fun x v h => ?_, fun x c h => ?_, r.fr.own, r.fr.inj, fun b h => ?_, r.fr.has⟩⟩
  · have h' : (if m = n then some o else σ m) = some o' := h
    by_cases hm : m = n
    · rw [if_pos hm] at h'; cases h'
      exact ⟨a, by show (if m = n then some a else g.ρ m) = some a; rw [if_pos hm], ho.mono e fun _ e => e⟩
    · rw [if_neg hm] at h'
      obtain ⟨b, hb, hob⟩ := r.gr.heap m o' h'
      exact ⟨b, e.ρ m b hb, hob.mono e fun _ e => e⟩
  · rcases set_cases h with ⟨q1, q2⟩ | ⟨q1, q2⟩ <;> rcases set_cases h' with ⟨q3, q4⟩ | ⟨q3, q4⟩
    · rw [q1, q3]
    · exact absurd (q2 ▸ q4) (h2 m')
    · exact absurd (q4 ▸ q2) (h2 m)
    · exact r.gr.inj m m' b q2 q4
  · rcases set_cases h with ⟨q1, q2⟩ | ⟨q1, q2⟩
    · rw [q2]; exact ⟨h0, h1, h3⟩
    · exact r.gr.live m b q2
  · show (if m = n then some o else σ m) ≠ none
    rcases set_cases h with ⟨q1, _⟩ | ⟨q1, q2⟩
    · rw [if_pos q1]; exact fun e => nomatch e
    · rw [if_neg q1]; exact r.gr.dom m b q2
  · obtain ⟨u, hu, hv⟩ := r.fr.var x v h
    exact ⟨u, hu, hv.mono e⟩
  · obtain ⟨c0, c1, c2, c3, c5⟩ := r.fr.cells x c h
    exact ⟨c0, c1, c2, fun m hm => (set_cases hm).elim (fun w => h5 x (w.2 ▸ h)) fun w => c3 m w.2, c5⟩
  · obtain ⟨x, y, z, w⟩ := r.fr.fa b h
    exact ⟨x, y, z, fun m hm => (set_cases hm).elim (fun v => h4 (v.2 ▸ h)) fun v => w m v.2⟩
theorem Gd.track {n : Nat} {a : Addr} {g' : Gh} {s' : Shared} (d : Gd C fa g s g' s') (hn : g'.ρ n = none) (ha : s.heap.objs.size ≤ a) : Gd C fa g s (g'.set n a) s' :=
  ⟨d.keep, d.tabs, d.size, fun m b e => (ge_set (h := s.heap) hn).ρ m b (d.ρ m b e), fun m b e => (set_cases e).elim (fun w => .inr (w.2 ▸ ha)) fun w => d.ρn m b w.2, d.P, d.Pn, d.os, d.drawn, d.gens⟩
theorem Built.trk {g' : Gh} {σ' : Hp} {s' : Shared} {a L : Addr} {ys : List MV} {n : Nat} (B : Built C fm fa loc g s g' σ' s' a L ys) (hn : σ' n = none) : Rel C (g'.set n a) (σ'.set n (.list ys)) fm fa loc s' ∧ VR C (g'.set n a) s'.heap (.ref n) (.ref a) ∧ Gd C fa g s (g'.set n a) s' := by
  obtain ⟨xs, hl, hv⟩ := B.lst
  obtain ⟨f1, f2, f3⟩ := B.free a (.head _)
  have hlt : a < s'.heap.objs.size := by obtain ⟨o, ho, _⟩ := hl.isList; exact Heap.lt_size ho
  refine ⟨B.rel.track hn f1 hlt f2 f3 B.apa.2.1 B.apa.2.2 (.list hl hv), .ref ?_, B.gd.track (B.rel.gr.fresh hn) B.apa.1⟩
  show (if n = n then some a else _) = some a
  rw [if_pos rfl]
theorem ev_comp {elt : Expr} {tg iter : Expr} {ifs : List Expr} {rest : List Comprehension} {scope : Scope} {pos : Pos} (H : CompOk scope fm.env) (n : Nat) (item : Nat → MV) (J : Hp → Prop) (Inv : Nat → Loc → Hp → List MV → Prop)
    (h : WalkE C A fm tg iter loc σ n item J fun σ₁ => Inv 0 (cLoc scope loc) σ₁ []) (hn : ∀ g', rest[0]? = some g' → g'.is_async = 0)
    (turn : ∀ L a i l σ ys, i < n → Inv i l σ ys → J σ → St C A (cFm scope fm.env L) tg (item i) l σ fun l₁ σ₁ => Ifs C A (cFm scope fm.env L) ifs l₁ σ₁ fun ok σ₂ =>
      if ok then Inn C A (cFm scope fm.env L) a (innerOf elt (⟨tg, iter, ifs, 0⟩ :: rest) scope pos 0 (.ref a) (cEnv scope fm.env L)) ys l₁ σ₂ fun l₂ σ₃ ys' => Inv (i + 1) l₂ σ₃ ys' ∧ J σ₃ else Inv (i + 1) l₁ σ₂ ys ∧ J σ₂)
    (fin : ∀ l σ' ys, Inv n l σ' ys → J σ' → Q (.lst ys) σ') (hs : ∀ x, foldedSetIterable iter fm.env x = pure x := by intro _; rfl) :
    Ev C A fm (.ListComp elt (⟨tg, iter, ifs, 0⟩ :: rest) scope pos) loc σ Q := fun fa g s r => by
  show wpAny _ A (eval (.ListComp elt (⟨tg, iter, ifs, 0⟩ :: rest) scope pos) fm.env) _ _ _
  rw [eval_ListComp]
  refine comp_core (use := none) H n item J Inv h hn turn r (fun g' σ' s' a L l ys B ns hI hJ => ?_) hs
  obtain ⟨m, hm⟩ := ns
  refine ⟨m, hm, fun h' hb => ?_⟩
  obtain ⟨rr, hv, d⟩ := (B.go hb).frz
  exact ⟨_, _, σ', rr, hv, d, fin l σ' ys hI hJ⟩
theorem ex_comp {x : Str} {px : Pos} {spos : Pos} {elt : Expr} {tg iter : Expr} {ifs : List Expr} {rest : List Comprehension} {scope : Scope} {pos : Pos} (H : CompOk scope fm.env) (n : Nat) (item : Nat → MV) (J : Hp → Prop) (Inv : Nat → Loc → Hp → List MV → Prop)
    (h : WalkE C A fm tg iter loc σ n item J fun σ₁ => Inv 0 (cLoc scope loc) σ₁ []) (hn : ∀ g', rest[0]? = some g' → g'.is_async = 0)
    (turn : ∀ L a i l σ ys, i < n → Inv i l σ ys → J σ → St C A (cFm scope fm.env L) tg (item i) l σ fun l₁ σ₁ => Ifs C A (cFm scope fm.env L) ifs l₁ σ₁ fun ok σ₂ =>
      if ok then Inn C A (cFm scope fm.env L) a (innerOf elt (⟨tg, iter, ifs, 0⟩ :: rest) scope pos 0 (.ref a) (cEnv scope fm.env L)) ys l₁ σ₂ fun l₂ σ₃ ys' => Inv (i + 1) l₂ σ₃ ys' ∧ J σ₃ else Inv (i + 1) l₁ σ₂ ys ∧ J σ₂)
    (fin : ∀ l σ' ys, Inv n l σ' ys → J σ' → QS .next (loc.set x (.lst ys)) σ') (hx : canSt fm x)
    (hsw : swapsWith (.ListComp elt (⟨tg, iter, ifs, 0⟩ :: rest) scope pos) (some (.Name x px)) spos.line fm.env = pure true) (hs : ∀ x, foldedSetIterable iter fm.env x = pure x := by intro _; rfl) :
    Ex C A fm (.Assign [.Name x px] (.ListComp elt (⟨tg, iter, ifs, 0⟩ :: rest) scope pos) spos) loc σ QS := fun fa g s r => by
  show wpAny _ A (exec (.Assign [.Name x px] (.ListComp elt (⟨tg, iter, ifs, 0⟩ :: rest) scope pos) spos) fm.env) _ _ _
  rw [exec_Assign_Name_used _ _ _ _ hsw]
  refine wpAny_bind (wpAny_standAt (wpAny_bind ?_))
  show wpAny _ A (do let _ ← comprehension (.ListComp elt (⟨tg, iter, ifs, 0⟩ :: rest) scope pos) scope fm.env _ (newList []) false (eval iter fm.env) (some (assign (.Name x px) fm.env))) _ _ s
  refine wpAny_bind (wpAny_mono (comp_core (use := some (assign (.Name x px) fm.env)) (R := fun _ s' => PostS C fm fa g s QS .next s') H n item J Inv h hn turn r (fun g' σ' s' a L l ys B ns hI hJ => ?_) hs) (fun _ s' hq => wpAny_pure (wpAny_pure hq)) fun _ _ e => e)
  refine via_p fun P kP => ?_
  obtain ⟨rr, hv, d⟩ := B.frz
  refine kP ?_
  clear kP P
  refine wpAny_assign_Name (store_name rr hv hx fun s'' r'' d'' => ?_)
  refine via_p fun P kP => ?_
  obtain ⟨m, o, es, ep, ho, q⟩ := ns
  refine kP ?_
  clear kP P
  have hFL := B.free L (.tail _ (.head _))
  have kL : ∀ o, s'.heap.get? L = some o → s''.heap.get? L = some o := fun o e => d''.keep L o e hFL.2.1 B.apL.2.1 fun q => Nat.lt_irrefl _ (Nat.lt_of_lt_of_le (rr.gr.tabs L q).1 hFL.1)
  refine ⟨m, ⟨o, es, ep, kL _ ho, q⟩, fun h' hb => ?_⟩
  have hF : Free C (g'.pin a) [L] := fun b hb => by
    rw [List.mem_singleton.mp hb]
    exact ⟨hFL.1, hFL.2.1, fun q => q.elim (fun q => B.ne q.symm) hFL.2.2⟩
  obtain ⟨gr, dd⟩ := r''.gr.loop (tk := s''.toks) (wr := [L]) hF (fun b o hn e => hb.extBut b o (fun q => hn (by rw [q]; exact .head _)) e) (Nat.le_of_eq hb.1.symm)
  have r3 := r''.step gr dd (fun b hb => by rw [List.mem_singleton.mp hb]; exact B.apL.2) (fun b hb => (hF b hb).2.2)
  refine ⟨_, .next, _, σ', r3, .next, ?_, fin l σ' ys hI hJ⟩
  exact (((d.trans d'').weak (fa := L :: fa) fun b h => .inl (.tail _ h)).trans (dd.weak fun b h => .inl (by rw [List.mem_singleton.mp h]; exact .head _))).weak (fun b h => (List.mem_cons.mp h).elim (fun q => .inr (q ▸ B.apL.1)) .inl)
end
end
section
section
variable {C : Cx} {A : Around} {fm : Fm} {fa : List Addr} {loc : Loc} {σ : Hp} {g : Gh} {s : Shared} {Q Q' : MV → Hp → Prop} {QB : Bool → Hp → Prop} {QS : Fl → Loc → Hp → Prop}
theorem inn_gen {a : Addr} {elt : Expr} {gens : List Comprehension} {scope : Scope} {pos : Pos} {d : Nat} {tg iter : Expr} {ifs : List Expr} {ys : List MV} {Q : Loc → Hp → List MV → Prop} (n : Nat) (item : Nat → MV) (J : Hp → Prop) (Inv : Nat → Loc → Hp → List MV → Prop)
    (hg : gens[d + 1]? = some ⟨tg, iter, ifs, 0⟩) (hn : ∀ g', gens[d + 1 + 1]? = some g' → g'.is_async = 0)
    (h : WalkE C A fm tg iter loc σ n item J fun σ₁ => Inv 0 loc σ₁ ys)
    (turn : ∀ i loc σ ys, i < n → Inv i loc σ ys → J σ → St C A fm tg (item i) loc σ fun l₁ σ₁ => Ifs C A fm ifs l₁ σ₁ fun ok σ₂ => if ok then Inn C A fm a (innerOf elt gens scope pos (d + 1) (.ref a) fm.env) ys l₁ σ₂ fun l₂ σ₃ ys' => Inv (i + 1) l₂ σ₃ ys' ∧ J σ₃ else Inv (i + 1) l₁ σ₂ ys ∧ J σ₂)
    (fin : ∀ l σ' ys', Inv n l σ' ys' → J σ' → Q l σ' ys') (hs : ∀ x, foldedSetIterable iter fm.env x = pure x := by intro _; rfl) : Inn C A fm a (innerOf elt gens scope pos d (.ref a) fm.env) ys loc σ Q := by
  intro fa g s xs r hF ha hac hL hv
  unfold innerOf
  rw [hg]
  refine wpAny_bind (wpAny_mono (h fa g s r) (fun x s₁ h₁ => wpAny_bind (wpAny_standAt ?_)) fun _ _ e => e)
  rw [hs]
  refine wpAny_bind (wpAny_pure (wpAny_bind (wpAny_holding (wpAny_mono h₁ ?_ fun _ _ e => e))))
  rintro it s₂ ⟨g₂, σ₂, wr, IR, W, r₂, d₂, hF₂, hw, hir, hJ, hI⟩
  have hlt : a < s.heap.objs.size := by obtain ⟨o, ho, _⟩ := hL.isList; exact Heap.lt_size ho
  have Fa := hF.step (fun b hb => by rw [List.mem_singleton.mp hb]; exact hlt) d₂
  have L₂ : s₂.heap.PlainList a ⟨xs⟩ := hL.at fun o e => hF.keep1 r.gr d₂ ha e
  have V₂ := hv.mono (r.ge d₂)
  have haw : a ∉ wr := fun q => Nat.lt_irrefl _ (Nat.lt_of_lt_of_le hlt (hw a q).1)
  have main := comp_walk (fm := fm) (d := d + 1) (gens := gens) (elt := elt) (scope := scope) (pos := pos) (a := a) hg hn W Inv turn hI hJ r₂ hF₂ (fun b hb => (hw b hb).2) hir Fa ha hac haw L₂ V₂
  refine wpAny_bind (wpAny_runOwn (comp_start (gd := ⟨tg, iter, ifs, 0⟩) hg rfl (codeAny_mono main ?_) fun Q q => W.self 0 g₂ σ₂ _ r₂.gr hir hJ Q q))
  rintro r' s' ⟨rfl, g', l', σ', ys', xs', rel', gd', hL', hV', hInv, hJ'⟩
  refine wpAny_pure ⟨g', l', σ', ys', xs', rel', ?_, hL', hV', fin l' σ' ys' hInv hJ'⟩
  exact ((d₂.weak (fa := (a :: wr ++ fa)) fun b h => .inl (List.mem_append_right _ h)).trans gd').weak fun b h => by
    rcases List.mem_append.mp h with h | h
    · rcases List.mem_cons.mp h with rfl | h
      · exact .inl (.head _)
      · exact .inr (hw b h).1
    · exact .inl (.tail _ h)
theorem cal_range1 {n : Int} (q : Q (.rng 0 n 1) σ) : Cal C A fm (.type "range") [.int n] loc σ Q := by
  intro fa g s vs r hvs
  obtain ⟨x, rfl, hx⟩ := hvs.inv1
  obtain ⟨t, rfl⟩ := hx.inv
  refine call_range_1 ?_
  refine (Post.pinned (s := { s with toks := s.toks + 1 + 1 }) (r.toks _) rfl (.rng (.inl rfl) (Heap.get?_push_size _ rfl)) q).trans (.toks _)
end
end
section
open Builtin.Str (tooLong)

section
variable {C : Cx} {A : Around} {fm : Fm} {fa : List Addr} {loc : Loc} {σ : Hp} {g : Gh} {s : Shared} {Q Q' : MV → Hp → Prop} {QB : Bool → Hp → Prop} {QS : Fl → Loc → Hp → Prop}
noncomputable def MTy (C : Cx) (σ : Hp) (m : MV) (T : String) : Prop := ∀ g s v, GR C g σ s → VR C g s.heap m v → s.TypeIs v T ∧ ∀ a, v = .ref a → ∃ ob, s.heap.get? a = some ob ∧ ob.dict = none
theorem mty_str {x : Str} : MTy C σ (.str x) "str" := by
  intro g s v r hv; obtain ⟨t, rfl⟩ := hv.inv; exact ⟨typeIs_str _ _ _, fun _ e => nomatch e⟩
theorem mty_lst {m : MV} {l : List MV} (h : lstOf σ m = some l) : MTy C σ m "list" := fun g s v r hv => by
  obtain ⟨a, xs, rfl, ⟨n, ho⟩, hl⟩ := r.lstP h hv
  exact ⟨⟨_, ho, rfl⟩, fun b e => ⟨_, Value.ref.inj e ▸ ho, rfl⟩⟩
theorem ev_meth {o : Expr} {name : Str} {apos pos : Pos} {es : List Expr}
    (h : Ev C A fm o loc σ fun m σ₁ => ∃ T id, PlainAttrs T ∧ Slot T name id ∧ typeOf (.builtin id) = pure (.type "method_descriptor") ∧ MTy C σ₁ m T ∧ EvL C A fm es loc σ₁ fun ms σ₂ => Cal C A fm (.builtin id) (m :: ms) loc σ₂ Q)
    (hbase : attributeBase o name fm.env (eval o fm.env) = eval o fm.env := by rfl) (hs : (starEach es fm.env).all (fun p => !p.1) = true := by rfl) (hline : (apos.endLine == pos.line) = true := by rfl) (hf : es.length < 30 := by decide) :
    Ev C A fm (.Call (.Attribute o name apos) es [] pos) loc σ Q := fun fa g s r => by
  have hpl := starEach_plain hs
  refine wpAny_Call_method_lateS hbase ?_ hline (wpAny_mono (h fa g s r) ?_ fun _ _ e => e)
  · rw [hpl]
    have : es.length + ([] : List Keyword).length + (if ([] : List Keyword).isEmpty then 0 else 1) < 30 := by simpa using hf
    simp only [Bool.and_eq_true]
    refine ⟨⟨?_, rfl⟩, decide_eq_true this⟩
    simp [backTo]
  rintro v s₁ ⟨g₁, m, σ₁, r₁, hv, d₁, T, id, pa, slot, hty, hm, h₁⟩
  obtain ⟨hT, hd⟩ := hm g₁ s₁ v r₁.gr hv
  refine ⟨T, id, pa, slot, hty, hT, hd, ?_⟩
  refine (Callable.bi (C := C) id).with (star_none hs) (wpAny_mono (h₁.argsS hs r₁) ?_ fun _ _ e => e)
  rintro ⟨ps, kw⟩ s₂ ⟨rfl, g₂, ms, σ₂, r₂, hvs, d₂, q⟩
  refine ⟨⟨g₂, σ₂, r₂.gr⟩, ?_⟩
  exact wpAny_mono (q fa g₂ s₂ (v :: ps) r₂ (.cons (hv.mono (r₁.ge d₂)) hvs)) (fun _ _ p => p.trans (d₁.trans d₂)) fun _ _ e => e
theorem Post.updL {n : Nat} {l' : List MV} {a : Addr} {xs' : List Value} {h' : Heap} {v : Value} {m : MV} {t : Nat} (r : Rel C g σ fm fa loc s) (ha : g.ρ n = some a) (hP : h'.PlainList a ⟨xs'⟩) (hb : Heap.SameBut a s.heap h') (hl : VRs C g s.heap l' xs')
    (hv : VR C g s.heap m v) (q : Q m (σ.set n (.list l'))) : Post C fm fa loc g s Q v { s with heap := h', toks := t } := by
  have ht : ∀ b ∈ C.tabs, b < C.N0 := fun b hb => (r.gr.tabs b hb).1
  obtain ⟨hN, _, hPn⟩ := r.gr.live n a ha
  have hg : Ge g g s.heap h' := ⟨fun _ _ e => e, fun _ e => e, fun b o hp e => hb.extBut b o (fun q => hPn (q ▸ hp)) e⟩
  exact ⟨g, m, _, r.upd (s' := { s with heap := h', toks := t }) ha hb (.list hP (hl.mono hg)), hv.mono hg, .upd ha hN ht hb rfl rfl rfl, q⟩
theorem Rel.lbl {n : Nat} {l : List MV} {v : Value} (r : Rel C g σ fm fa loc s) (hn : σ n = some (.list l)) (hv : VR C g s.heap (.ref n) v) : ∃ a xs, v = .ref a ∧ g.ρ n = some a ∧ s.heap.PlainList a ⟨xs⟩ ∧ VRs C g s.heap l xs := by
  obtain ⟨a, e, ha⟩ := hv.inv
  obtain ⟨xs, ho, hl⟩ := (r.gr.obj ha hn).inv
  exact ⟨a, xs, e, ha, ho, hl⟩
theorem cal_append {n : Nat} {l : List MV} {m : MV} (hn : σ n = some (.list l)) (hs : l.length ≤ 1000000) (q : Q .none (σ.set n (.list (l ++ [m])))) : Cal C A fm (.builtin "list.append") [.ref n, m] loc σ Q := by
  intro fa g s vs r hvs
  obtain ⟨x₁, x₂, rfl, hx, hy⟩ := hvs.inv2
  obtain ⟨a, xs, rfl, ha, ho, hl⟩ := r.lbl hn hx
  refine wpAny_list_append_plain ho (fun h' hP hb => ?_) (sizeLine_ge (by show xs.length ≤ _; rw [← hl.length]; exact hs))
  refine .updL (t := s.toks) r ha (xs' := xs ++ [_]) (by simpa using hP) hb (hl.append (.cons hy .nil)) .none q
theorem plain_upd {h : Heap} {a : Addr} {items : Array Value} {n : Nat} (ho : h.get? a = some (lstObj items n)) (f : Array Value → Array Value) : (h.update a (Obj.mapSeq f)).PlainList a (f items) := by
  obtain ⟨n', e⟩ : ∃ n', Obj.mapSeq f (lstObj items n) = lstObj (f items) n' := by
    simp only [Obj.mapSeq]
    exact ⟨_, rfl⟩
  exact ⟨n', by rw [Heap.get?_update_self _ ho (by rw [e]; rfl), e]⟩
theorem VRs.reverse {h : Heap} {l : List MV} {r : List Value} (hl : VRs C g h l r) : VRs C g h l.reverse r.reverse := by
  induction l generalizing r with
  | nil => exact hl.inv ▸ .nil
  | cons a l ih =>
    obtain ⟨v, r', rfl, ha, hl⟩ := hl.inv
    rw [List.reverse_cons, List.reverse_cons]
    exact (ih hl).append (.cons ha .nil)
theorem VRs.tail {h : Heap} {a : MV} {l : List MV} {r : List Value} (hl : VRs C g h (a :: l) r) : ∃ v r', r = v :: r' ∧ VR C g h a v ∧ VRs C g h l r' := by
  exact hl.inv
theorem cal_lower {x : Str} (hs : tooLong (Txt.lower x).length = false) (q : Q (.str (Txt.lower x)) σ) : Cal C A fm (.builtin "str.lower") [.str x] loc σ Q := by
  intro fa g s vs r hvs
  obtain ⟨x₁, rfl, hx⟩ := hvs.inv1
  obtain ⟨t, rfl⟩ := hx.inv
  exact call_gives F.slot_str_lower (typeIs_str _ _ _) F.entry_str_lower (F.args_str_lower_1 _) (gives_str_lower x _ hs) ⟨fit_le hs, .tok r (.str ..) q⟩
theorem VRs.strsV {h : Heap} {ts : List Str} {r : List Value} (z : VRs C g h (ts.map .str) r) : ∃ l, r = strValues l ∧ l.map (·.1) = ts := by
  induction ts generalizing r with
  | nil => exact ⟨[], z.inv, rfl⟩
  | cons x ts ih =>
    obtain ⟨v, r', rfl, a, b⟩ := z.inv
    obtain ⟨t, rfl⟩ := a.inv
    obtain ⟨l, e, e'⟩ := ih b
    exact ⟨(x, t) :: l, congrArg (_ :: ·) e, congrArg (x :: ·) e'⟩
theorem cal_join {x : Str} {m : MV} {ts : List Str} (hm : lstOf σ m = some (ts.map .str)) (hok : JoinOk x ts = true) (q : Q (.str (Txt.join x ts)) σ) : Cal C A fm (.builtin "str.join") [.str x, m] loc σ Q := by
  intro fa g s vs r hvs
  obtain ⟨x₁, x₂, rfl, hx, hy⟩ := hvs.inv2
  obtain ⟨_, rfl⟩ := hx.inv
  obtain ⟨a, xs, rfl, ho, hl⟩ := r.gr.lst hm hy
  obtain ⟨l, rfl, e⟩ := hl.strsV
  exact SC.join (l := l) ho e hok fun t' k => .tok r (.str ..) q
theorem cal_lenl {m : MV} {l : List MV} (hm : lstOf σ m = some l) (hs : l.length ≤ 1000000) (q : Q (.int l.length) σ) : Cal C A fm (.builtin "len") [m] loc σ Q := by
  intro fa g s vs r hvs
  obtain ⟨x₁, rfl, hy⟩ := hvs.inv1
  obtain ⟨a, xs, rfl, ho, hl⟩ := r.gr.lst hm hy
  refine Calls.call_len_list ho (Int.lt_of_le_of_lt (Int.ofNat_le.mpr (show xs.length ≤ 1000000 from hl.length ▸ hs)) (show ((1000000 : Nat) : Int) < 2 ^ 63 by decide)) ?_
  have e : (Array.mk xs).size = l.length := by show xs.length = _; rw [hl.length]
  rw [e]
  exact .tok r (.int ..) q
theorem cal_lens {x : Str} (hs : x.length ≤ 1000000) (q : Q (.int x.length) σ) : Cal C A fm (.builtin "len") [.str x] loc σ Q := by
  intro fa g s vs r hvs
  obtain ⟨x₁, rfl, hx⟩ := hvs.inv1
  obtain ⟨t, rfl⟩ := hx.inv
  exact P.len_str (by walk_at "l") (.tok r (.int ..) q)
theorem cal_isiI {i : Int} (q : Q (.bool false) σ) : Cal C A fm (.builtin "isinstance") [.int i, .val (.type "tuple")] loc σ Q := by
  intro fa g s vs r hvs
  obtain ⟨x₁, x₂, rfl, hx, hy⟩ := hvs.inv2
  obtain rfl := hy.inv
  obtain ⟨_, rfl⟩ := hx.inv
  exact IsiPair.int_tuple (.tok r (.bool ..) q)
end
end
section
mutual
inductive Ok (S : Nat → Prop) : MV → Prop
  | none : Ok S .none
  | bool (b : Bool) : Ok S (.bool b)
  | int (i : Int) : Ok S (.int i)
  | str (x : Str) : Ok S (.str x)
  | rng (a b c : Int) : Ok S (.rng a b c)
  | val (v : Value) : Ok S (.val v)
  | tup {l : List MV} : Oks S l → Ok S (.tup l)
  | lst {l : List MV} : Oks S l → Ok S (.lst l)
  | dct {l : List (Str × MV)} : Okd S l → Ok S (.dct l)
  | ref {n : Nat} : S n → Ok S (.ref n)
  | strm {x : Str} {n : Nat} : S n → Ok S (.strm x n)
  | meth {f : Addr} {n : Nat} : S n → Ok S (.meth f n)
inductive Oks (S : Nat → Prop) : List MV → Prop
  | nil : Oks S []
  | cons {m : MV} {l : List MV} : Ok S m → Oks S l → Oks S (m :: l)
inductive Okd (S : Nat → Prop) : List (Str × MV) → Prop
  | nil : Okd S []
  | cons {k : Str} {m : MV} {l : List (Str × MV)} : Ok S m → Okd S l → Okd S ((k, m) :: l)
end
noncomputable def OI (S : Nat → Prop) : MV → Prop
  | .tup l => Oks S l
  | .lst l => Oks S l
  | .dct l => Okd S l
  | .ref n => S n
  | .strm _ n => S n
  | .meth _ n => S n
  | _ => True
theorem Ok.inv {S : Nat → Prop} {m : MV} (x : Ok S m) : OI S m :=
  Ok.casesOn (motive_1 := fun m _ => OI S m) x trivial (fun _ => trivial) (fun _ => trivial) (fun _ => trivial) (fun _ _ _ => trivial) (fun _ => trivial) id id id id id id
noncomputable def OIs (S : Nat → Prop) : List MV → Prop
  | [] => True
  | m :: l => Ok S m ∧ Oks S l
theorem Oks.inv {S : Nat → Prop} {l : List MV} (x : Oks S l) : OIs S l := Oks.casesOn (motive_2 := fun l _ => OIs S l) x trivial And.intro
noncomputable def OId (S : Nat → Prop) : List (Str × MV) → Prop
  | [] => True
  | (_, m) :: l => Ok S m ∧ Okd S l
theorem Okd.inv {S : Nat → Prop} {l : List (Str × MV)} (x : Okd S l) : OId S l := Okd.casesOn (motive_3 := fun l _ => OId S l) x trivial And.intro
theorem Strm.lab {C : Cx} {g : Gh} {h : Heap} {S : Nat → Prop} (hS : ∀ n a, g.ρ n = some a → S n) {x : Str} {n : Nat} {a : Addr} (z : Strm C g h x n a) : S n :=
  Strm.casesOn z fun _ _ _ _ _ _ _ _ _ _ _ _ _ _ _ _ z4 _ _ _ => hS _ _ z4.2.2
theorem VR.ok {C : Cx} {g : Gh} {h : Heap} {S : Nat → Prop} (hS : ∀ n a, g.ρ n = some a → S n) {m : MV} {v : Value} (x : VR C g h m v) : Ok S m :=
  VR.rec (motive_1 := fun m _ _ => Ok S m) (motive_2 := fun l _ _ => Oks S l) (motive_3 := fun l _ _ => Okd S l) .none .bool (fun i _ => .int i) (fun x _ => .str x) (fun _ _ _ h => .tup h) (fun _ _ _ h => .lst h) (fun _ _ _ h => .dct h) (fun _ _ => .rng ..)
    (fun hn => .ref (hS _ _ hn)) .val (fun hs => .strm (hs.lab hS)) (fun _ _ hn => .meth (hS _ _ hn)) .nil (fun _ _ a b => .cons a b) .nil (fun _ _ a b => .cons a b) x
theorem VRs.ok {C : Cx} {g : Gh} {h : Heap} {S : Nat → Prop} (hS : ∀ n a, g.ρ n = some a → S n) {l : List MV} {r : List Value} (x : VRs C g h l r) : Oks S l :=
  VRs.rec (motive_1 := fun m _ _ => Ok S m) (motive_2 := fun l _ _ => Oks S l) (motive_3 := fun l _ _ => Okd S l) .none .bool (fun i _ => .int i) (fun x _ => .str x) (fun _ _ _ h => .tup h) (fun _ _ _ h => .lst h) (fun _ _ _ h => .dct h) (fun _ _ => .rng ..)
    (fun hn => .ref (hS _ _ hn)) .val (fun hs => .strm (hs.lab hS)) (fun _ _ hn => .meth (hS _ _ hn)) .nil (fun _ _ a b => .cons a b) .nil (fun _ _ a b => .cons a b) x
theorem VRd.ok {C : Cx} {g : Gh} {h : Heap} {S : Nat → Prop} (hS : ∀ n a, g.ρ n = some a → S n) {l : List (Str × MV)} {r : List (Str × Value)} (x : VRd C g h l r) : Okd S l :=
  VRd.rec (motive_1 := fun m _ _ => Ok S m) (motive_2 := fun l _ _ => Oks S l) (motive_3 := fun l _ _ => Okd S l) .none .bool (fun i _ => .int i) (fun x _ => .str x) (fun _ _ _ h => .tup h) (fun _ _ _ h => .lst h) (fun _ _ _ h => .dct h) (fun _ _ => .rng ..)
    (fun hn => .ref (hS _ _ hn)) .val (fun hs => .strm (hs.lab hS)) (fun _ _ hn => .meth (hS _ _ hn)) .nil (fun _ _ a b => .cons a b) .nil (fun _ _ a b => .cons a b) x
structure Gl (S : Nat → Prop) (g g' : Gh) : Prop where
  ρ : ∀ n a, S n → g.ρ n = some a → g'.ρ n = some a
  P : ∀ a, g.P a → g'.P a
theorem Strm.lose {C : Cx} {g g' : Gh} {h : Heap} {x : Str} {n : Nat} {a : Addr} {S : Nat → Prop} (e : Gl S g g') (hn : S n) (z : Strm C g h x n a) : Strm C g' h x n a :=
  Strm.casesOn z fun d f ct cx b t fl fd sl m o z1 z2 z3 hr hc z4 z5 z6 hne =>
    ⟨d, f, ct, cx, b, t, fl, fd, sl, m, o, ⟨e.P _ z1.1, z1.2⟩, ⟨e.P _ z2.1, z2.2⟩, ⟨e.P _ z3.1, z3.2⟩, hr, hc, ⟨e.P _ z4.1, z4.2.1, e.ρ _ _ hn z4.2.2⟩, ⟨e.P _ z5.1, z5.2⟩, z6.imp fun c y => ⟨y.1, e.P _ y.2.1, y.2.2⟩, hne⟩
theorem VR.lose {C : Cx} {g g' : Gh} {h : Heap} {S : Nat → Prop} (e : Gl S g g') {m : MV} {v : Value} (o : Ok S m) (x : VR C g h m v) : VR C g' h m v :=
  VR.rec (motive_1 := fun m v _ => Ok S m → VR C g' h m v) (motive_2 := fun l r _ => Oks S l → VRs C g' h l r) (motive_3 := fun l r _ => Okd S l → VRd C g' h l r) (fun _ => .none) (fun b _ => .bool b) (fun i t _ => .int i t) (fun x t _ => .str x t)
    (fun hp ho _ ih o => .tup (e.P _ hp) ho (ih o.inv)) (fun hp ho _ ih o => .lst (e.P _ hp) ho (ih o.inv)) (fun hp ho _ ih o => .dct (e.P _ hp) ho (ih o.inv)) (fun hp hr _ => .rng (e.P _ hp) hr) (fun hn o => .ref (e.ρ _ _ o.inv hn)) (fun v _ => .val v)
    (fun hs o => .strm (hs.lose e o.inv)) (fun hp ho hn o => .meth (e.P _ hp) ho (e.ρ _ _ o.inv hn)) (fun _ => .nil) (fun _ _ a b o => .cons (a o.inv.1) (b o.inv.2)) (fun _ => .nil) (fun _ _ a b o => .cons (a o.inv.1) (b o.inv.2)) x o
theorem VRs.lose {C : Cx} {g g' : Gh} {h : Heap} {S : Nat → Prop} (e : Gl S g g') {l : List MV} {r : List Value} (o : Oks S l) (x : VRs C g h l r) : VRs C g' h l r :=
  VRs.rec (motive_1 := fun m v _ => Ok S m → VR C g' h m v) (motive_2 := fun l r _ => Oks S l → VRs C g' h l r) (motive_3 := fun l r _ => Okd S l → VRd C g' h l r) (fun _ => .none) (fun b _ => .bool b) (fun i t _ => .int i t) (fun x t _ => .str x t)
    (fun hp ho _ ih o => .tup (e.P _ hp) ho (ih o.inv)) (fun hp ho _ ih o => .lst (e.P _ hp) ho (ih o.inv)) (fun hp ho _ ih o => .dct (e.P _ hp) ho (ih o.inv)) (fun hp hr _ => .rng (e.P _ hp) hr) (fun hn o => .ref (e.ρ _ _ o.inv hn)) (fun v _ => .val v)
    (fun hs o => .strm (hs.lose e o.inv)) (fun hp ho hn o => .meth (e.P _ hp) ho (e.ρ _ _ o.inv hn)) (fun _ => .nil) (fun _ _ a b o => .cons (a o.inv.1) (b o.inv.2)) (fun _ => .nil) (fun _ _ a b o => .cons (a o.inv.1) (b o.inv.2)) x o
theorem VRd.lose {C : Cx} {g g' : Gh} {h : Heap} {S : Nat → Prop} (e : Gl S g g') {l : List (Str × MV)} {r : List (Str × Value)} (o : Okd S l) (x : VRd C g h l r) : VRd C g' h l r :=
  VRd.rec (motive_1 := fun m v _ => Ok S m → VR C g' h m v) (motive_2 := fun l r _ => Oks S l → VRs C g' h l r) (motive_3 := fun l r _ => Okd S l → VRd C g' h l r) (fun _ => .none) (fun b _ => .bool b) (fun i t _ => .int i t) (fun x t _ => .str x t)
    (fun hp ho _ ih o => .tup (e.P _ hp) ho (ih o.inv)) (fun hp ho _ ih o => .lst (e.P _ hp) ho (ih o.inv)) (fun hp ho _ ih o => .dct (e.P _ hp) ho (ih o.inv)) (fun hp hr _ => .rng (e.P _ hp) hr) (fun hn o => .ref (e.ρ _ _ o.inv hn)) (fun v _ => .val v)
    (fun hs o => .strm (hs.lose e o.inv)) (fun hp ho hn o => .meth (e.P _ hp) ho (e.ρ _ _ o.inv hn)) (fun _ => .nil) (fun _ _ a b o => .cons (a o.inv.1) (b o.inv.2)) (fun _ => .nil) (fun _ _ a b o => .cons (a o.inv.1) (b o.inv.2)) x o
inductive MOk (S : Nat → Prop) : MO → Prop
  | list {l : List MV} : Oks S l → MOk S (.list l)
  | dict {l : List (Str × MV)} : Okd S l → MOk S (.dict l)
  | raw (o : Obj) : MOk S (.raw o)
  | inst {c : Addr} {d : Nat} : S d → MOk S (.inst c d)
  | attrs {l : List (Str × MV)} : (∀ x v, l.lookup x = some v → Ok S v) → MOk S (.attrs l)
  | citer {b : Bool} {f : Addr} {n : Nat} {x : Str} : S n → MOk S (.citer b f n x)
noncomputable def MOI (S : Nat → Prop) : MO → Prop
  | .list l => Oks S l
  | .dict l => Okd S l
  | .raw _ => True
  | .inst _ d => S d
  | .attrs l => ∀ x v, l.lookup x = some v → Ok S v
  | .citer _ _ n _ => S n
theorem MOk.inv {S : Nat → Prop} {o : MO} (x : MOk S o) : MOI S o := MOk.casesOn (motive := fun o _ => MOI S o) x id id (fun _ => trivial) id id id
theorem OR.ok {C : Cx} {g : Gh} {h : Heap} {S : Nat → Prop} (hS : ∀ n a, g.ρ n = some a → S n) {a : Addr} {o : MO} (x : OR C g h a o) (hc : ∀ f n x, o ≠ .citer false f n x) : MOk S o :=
  OR.casesOn (motive := fun o _ => (∀ f n x, o ≠ .citer false f n x) → MOk S o) x (fun _ hl _ => .list (hl.ok hS)) (fun _ hl _ => .dict (hl.ok hS)) (fun _ _ => .raw _) (fun hd _ _ => .inst (hS _ _ hd)) (fun _ _ h1 _ => .attrs fun x v hv => (h1 x v hv).elim fun _ hu => hu.2.ok hS)
    (fun _ hq _ => .citer (hq.ok hS).inv) (fun _ hc => absurd rfl (hc _ _ _)) hc
theorem OR.lose {C : Cx} {g g' : Gh} {h : Heap} {S : Nat → Prop} (e : Gl S g g') {a : Addr} {o : MO} (k : MOk S o) (x : OR C g h a o) : OR C g' h a o :=
  OR.casesOn (motive := fun o _ => MOk S o → OR C g' h a o) x (fun ho hl o => .list ho (hl.lose e o.inv)) (fun ho hl o => .dict ho (hl.lose e o.inv)) (fun ho _ => .raw ho) (fun hd ho o => .inst (e.ρ _ _ o.inv hd) ho)
    (fun hn h0 h1 o => .attrs hn h0 fun x v hv => (h1 x v hv).imp fun u hu => ⟨hu.1, hu.2.lose e (o.inv x v hv)⟩) (fun ho hq o => .alive ho (hq.lose e (.meth o.inv))) (fun ho _ => .dead ho) k
mutual
inductive Frz (S : Nat → Prop) (σ : Hp) : MV → MV → Prop
  | same {m : MV} : Ok S m → Frz S σ m m
  | lst {n : Nat} {l l' : List MV} : ¬ S n → σ n = some (.list l) → Frzs S σ l l' → Frz S σ (.ref n) (.lst l')
  | dct {n : Nat} {l : List (Str × MV)} : ¬ S n → σ n = some (.dict l) → Okd S l → Frz S σ (.ref n) (.dct l)
  | tup {l l' : List MV} : Frzs S σ l l' → Frz S σ (.tup l) (.tup l')
inductive Frzs (S : Nat → Prop) (σ : Hp) : List MV → List MV → Prop
  | nil : Frzs S σ [] []
  | cons {m m' : MV} {l l' : List MV} : Frz S σ m m' → Frzs S σ l l' → Frzs S σ (m :: l) (m' :: l')
end
open Classical in
noncomputable def restr (S : Nat → Prop) (σ : Hp) : Hp := fun n => if S n then σ n else none
open Classical in
noncomputable def leave (S : Nat → Prop) (g : Gh) (lo hi : Nat) : Gh := ⟨fun n => if S n then g.ρ n else none, fun a => g.P a ∨ (lo ≤ a ∧ a < hi ∧ ∀ n, S n → g.ρ n ≠ some a)⟩
section
variable {C : Cx} {A : Around} {σ : Hp} {g : Gh} {s : Shared} {Q : MV → Hp → Prop}
theorem leave_ρ {S : Nat → Prop} {lo hi n : Nat} {a : Addr} (h : (leave S g lo hi).ρ n = some a) : S n ∧ g.ρ n = some a := by
  classical
  have h' : (if S n then g.ρ n else none) = some a := h
  by_cases hn : S n
  · rw [if_pos hn] at h'; exact ⟨hn, h'⟩
  · rw [if_neg hn] at h'; cases h'
theorem leave_gl {S : Nat → Prop} {lo hi : Nat} : Gl S g (leave S g lo hi) := ⟨fun n a hn h => by
  classical
  show (if S n then g.ρ n else none) = some a
  rw [if_pos hn]; exact h, fun _ h => .inl h⟩
theorem Frz.lab {S : Nat → Prop} {lo n : Nat} {a : Addr} (r : GR C g σ s) (hn : ∀ n a, ¬ S n → g.ρ n = some a → lo ≤ a) (hS : ¬ S n) (ha : g.ρ n = some a) : (leave S g lo s.heap.objs.size).P a :=
  .inr ⟨hn _ _ hS ha, (r.live _ _ ha).2.1, fun k hk q => hS (r.inj _ _ _ q ha ▸ hk)⟩
theorem Frz.list {S : Nat → Prop} {lo n : Nat} {l l' : List MV} {v : Value} (r : GR C g σ s) (hn : ∀ n a, ¬ S n → g.ρ n = some a → lo ≤ a) (hS : ¬ S n) (hσ : σ n = some (.list l)) (k : ∀ xs, VRs C g s.heap l xs → VRs C (leave S g lo s.heap.objs.size) s.heap l' xs)
    (hv : VR C g s.heap (.ref n) v) : VR C (leave S g lo s.heap.objs.size) s.heap (.lst l') v := by
  obtain ⟨a, rfl, ha⟩ := hv.inv
  obtain ⟨b, hb, ho⟩ := r.heap _ _ hσ
  obtain rfl := Option.some.inj (ha.symm.trans hb)
  cases ho with
  | list ho hx => exact .lst (Frz.lab r hn hS ha) ho (k _ hx)
theorem Frz.dict {S : Nat → Prop} {lo n : Nat} {l : List (Str × MV)} {v : Value} (r : GR C g σ s) (hn : ∀ n a, ¬ S n → g.ρ n = some a → lo ≤ a) (hS : ¬ S n) (hσ : σ n = some (.dict l)) (o : Okd S l)
    (hv : VR C g s.heap (.ref n) v) : VR C (leave S g lo s.heap.objs.size) s.heap (.dct l) v := by
  obtain ⟨a, rfl, ha⟩ := hv.inv
  obtain ⟨b, hb, ho⟩ := r.heap _ _ hσ
  obtain rfl := Option.some.inj (ha.symm.trans hb)
  cases ho with
  | dict ho hx => exact .dct (Frz.lab r hn hS ha) ho (hx.lose leave_gl o)
theorem Frz.run {S : Nat → Prop} {lo : Nat} (r : GR C g σ s) (hn : ∀ n a, ¬ S n → g.ρ n = some a → lo ≤ a) {m m' : MV} {v : Value} (z : Frz S σ m m') (hv : VR C g s.heap m v) : VR C (leave S g lo s.heap.objs.size) s.heap m' v :=
  Frz.rec (motive_1 := fun m m' _ => ∀ v, VR C g s.heap m v → VR C (leave S g lo s.heap.objs.size) s.heap m' v) (motive_2 := fun l l' _ => ∀ r, VRs C g s.heap l r → VRs C (leave S g lo s.heap.objs.size) s.heap l' r)
    (fun o _ hv => hv.lose leave_gl o) (fun hS hσ _ ih _ hv => Frz.list r hn hS hσ ih hv) (fun hS hσ o _ hv => Frz.dict r hn hS hσ o hv)
    (fun _ ih v hv => hv.inv.elim fun a y => y.elim fun xs y => y.1 ▸ .tup (.inl y.2.1) y.2.2.1 (ih _ y.2.2.2)) (fun _ h => h.inv ▸ .nil) (fun _ _ a b _ h => h.inv.elim fun v y => y.elim fun r y => y.1 ▸ .cons (a _ y.2.1) (b _ y.2.2)) z v hv
theorem GR.leave {S : Nat → Prop} {lo : Nat} (r : GR C g σ s) (hlo : C.N0 ≤ lo) (hok : ∀ n o, S n → σ n = some o → MOk S o) : GR C (leave S g lo s.heap.objs.size) (restr S σ) s := by
  classical
  refine ⟨r.lo, r.K, r.lim, r.size, fun n o h => ?_, fun n m a h h' => ?_, fun n a h => ?_, fun a h => ?_, fun a h => ?_, fun n a h => ?_⟩
  · have h' : (if S n then σ n else none) = some o := h
    by_cases hn : S n
    · rw [if_pos hn] at h'
      obtain ⟨a, ha, ho⟩ := r.heap n o h'
      exact ⟨a, leave_gl.ρ n a hn ha, ho.lose leave_gl (hok n o hn h')⟩
    · rw [if_neg hn] at h'; cases h'
  · exact r.inj n m a (leave_ρ h).2 (leave_ρ h').2
  · obtain ⟨h1, h2⟩ := leave_ρ h
    obtain ⟨x, y, z⟩ := r.live n a h2
    exact ⟨x, y, fun q => q.elim z fun q => q.2.2 n h1 h2⟩
  · rcases h with h | ⟨h1, h2, _⟩
    · exact r.P a h
    · exact ⟨Nat.le_trans hlo h1, h2⟩
  · obtain ⟨x, vs, e, t⟩ := r.tabs a h
    exact ⟨x, vs, e, t.1, fun pos c' hc => by obtain ⟨c, e1, e2, e3⟩ := t.2 pos c' hc; exact ⟨c, e1, .inl e2, e3⟩⟩
  · obtain ⟨h1, h2⟩ := leave_ρ h
    show (if S n then σ n else none) ≠ none
    rw [if_pos h1]; exact r.dom n a h2
theorem Gd.leave {S : Nat → Prop} {fb : List Addr} {g' : Gh} {s' : Shared} (d : Gd C fb g s g' s') (hS : ∀ n a, g.ρ n = some a → S n) : Gd C fb g s (leave S g' s.heap.objs.size s'.heap.objs.size) s' :=
  ⟨d.keep, d.tabs, d.size, fun n a h => leave_gl.ρ n a (hS n a h) (d.ρ n a h), fun n a h => d.ρn n a (leave_ρ h).2, fun a h => .inl (d.P a h), fun a h => h.elim (d.Pn a) fun q => .inr q.1, d.os, d.drawn, d.gens⟩
theorem fn_exit {f : Value} {ms : List MV} (S : Nat → Prop) (hS : ∀ n, σ n ≠ none → S n)
    (h : Fn C A f ms σ fun m σ₁ => ∃ m', Frz S σ₁ m m' ∧ (∀ n o, S n → σ₁ n = some o → MOk S o ∨ (σ n = some o ∧ ∀ f k x, o ≠ .citer false f k x)) ∧ Q m' (restr S σ₁)) : Fn C A f ms σ Q := by
  intro g s vs r hvs
  refine codeAny_mono (h g s vs r hvs) ?_
  rintro x s' ⟨v, g', m, σ', rfl, r', hm, d, m', hz, hok, q⟩
  have hS' : ∀ n a, g.ρ n = some a → S n := fun n a e => hS n (r.dom n a e)
  refine ⟨v, _, m', _, rfl, r'.leave (lo := s.heap.objs.size) r.size (fun n o hn e => ?_), hz.run r' (fun n a hn e => ?_) hm, d.leave hS', q⟩
  · rcases hok n o hn e with q | ⟨q, q'⟩
    · exact q
    · obtain ⟨a, ha, ho⟩ := r.heap n o q
      exact ho.ok hS' q'
  · rcases d.ρn n a e with q | q
    · exact absurd (hS' n a q) hn
    · exact q
theorem fn_pure {f : Value} {ms : List MV} (hc : ∀ n f k x, σ n ≠ some (.citer false f k x))
    (h : Fn C A f ms σ fun m σ₁ => ∃ m', Frz (fun n => σ n ≠ none) σ₁ m m' ∧ (∀ n, σ n ≠ none → σ₁ n = σ n) ∧ Q m' σ) : Fn C A f ms σ Q := by
  refine fn_exit (fun n => σ n ≠ none) (fun _ h => h) ?_
  intro g s vs r hvs
  refine codeAny_mono (h g s vs r hvs) ?_
  rintro x s' hX2
  refine via_p fun P kP => ?_
  obtain ⟨v, g', m, σ', e, r', hm, d, m', hz, hok, q⟩ := hX2
  refine kP ?_
  clear kP P
  refine ⟨v, g', m, σ', e, r', hm, d, m', hz, fun n o hn e => .inr ⟨by rw [← hok n hn]; exact e, fun f k x e' => hc n f k x (by rw [← hok n hn, e, e'])⟩, ?_⟩
  have : restr (fun n => σ n ≠ none) σ' = σ := by
    funext n
    unfold restr
    by_cases hn : σ n = none
    · rw [if_neg (fun q => q hn), hn]
    · rw [if_pos hn, hok n hn]
  rw [this]; exact q
end
end
section
structure KlsAt (K : Frag) (c : Addr) : Prop where
  ga : findIn K (.ref c) "__getattribute__" = some (some (.builtin "object.__getattribute__"))
  gh : findIn K (.ref c) "__getattr__" = some none
  sa : findIn K (.ref c) "__setattr__" = some (some (.builtin "object.__setattr__"))
  hd : hasDictIn K c = true
  po : plainOver K c = true
  mks : makesIn K c = true
section
variable {C : Cx} {A : Around} {fm : Fm} {fa : List Addr} {loc : Loc} {σ : Hp} {g : Gh} {s : Shared} {Q Q' : MV → Hp → Prop} {QB : Bool → Hp → Prop} {QS : Fl → Loc → Hp → Prop}
theorem lookIn_of {h : Heap} {a : Addr} {m : Str → Option Value} (hn : h.Ns1 a m) : ∃ o, h.get? a = some o ∧ ∀ x, lookIn x o = some (m x) := by
  refine via_p fun P kP => ?_
  obtain ⟨o, es, ep, ho, hd, hk, hu, hm⟩ := hn
  refine kP ?_
  clear kP P
  refine ⟨o, ho, fun x => ?_⟩
  unfold lookIn
  rw [hd]
  have hany : es.toList.any (·.refKey) = false := by
    rw [List.any_eq_false]; intro e he; obtain ⟨n, t, h⟩ := hk e (by simpa using he); simp [DictEntry.refKey, h]
  have e1 := hm x
  simp only [nsFind, findBy, ← Array.find?_toList] at e1
  dsimp only
  cases hf : es.toList.find? (·.key.isStr x) with
  | some e => rw [hf] at e1; simp only [Option.map_some] at e1; rw [← e1]
  | none => rw [hf] at e1; simp only [Option.map_none] at e1; simp only [hany]; rw [← e1]; rfl
noncomputable def plainMV : MV → Bool
  | .val _ => false
  | _ => true
theorem VR.handed {h : Heap} {m : MV} {v : Value} (hv : VR C g h m v) (hp : plainMV m = true) : handedIn v = true := by
  have h := hv.inv
  cases m
  case val => exact nomatch hp
  case none => exact h ▸ rfl
  case bool => exact h ▸ rfl
  case int => obtain ⟨_, rfl⟩ := h; rfl
  case str => obtain ⟨_, rfl⟩ := h; rfl
  case rng => obtain ⟨_, _, _, _, rfl, _⟩ := h; rfl
  case ref => obtain ⟨_, rfl, _⟩ := h; rfl
  case strm => obtain ⟨_, rfl, _⟩ := h; rfl
  all_goals obtain ⟨_, _, rfl, _⟩ := h; rfl
theorem GR.inst {n d : Nat} {c : Addr} {l : List (Str × MV)} {v : Value} (r : GR C g σ s) (h1 : σ n = some (.inst c d)) (h2 : σ d = some (.attrs l)) (hv : VR C g s.heap (.ref n) v) :
    ∃ a dx m o, v = .ref a ∧ g.ρ n = some a ∧ g.ρ d = some dx ∧ s.heap.get? a = some (instObj c dx) ∧ s.heap.Ns1 dx m ∧ (∀ x, l.lookup x = none → m x = none) ∧ (∀ x v, l.lookup x = some v → ∃ u, m x = some u ∧ VR C g s.heap v u) ∧
      s.heap.get? dx = some o ∧ (∀ x, lookIn x o = some (m x)) ∧ InstAt s.heap a (instObj c dx) c (some o) := by
  refine via_p fun P kP => ?_
  obtain ⟨a, e, ha⟩ := hv.inv
  refine kP ?_
  clear kP P
  refine via_p fun P kP => ?_
  obtain ⟨dx, hd, ho⟩ := (r.obj ha h1).inv
  refine kP ?_
  clear kP P
  refine via_p fun P kP => ?_
  obtain ⟨m, hn, h0, h1⟩ := (r.obj hd h2).inv
  refine kP ?_
  clear kP P
  refine via_p fun P kP => ?_
  obtain ⟨o, e1, e2⟩ := lookIn_of hn
  refine kP ?_
  clear kP P
  exact ⟨_, _, _, o, e, ha, hd, ho, hn, h0, h1, e1, e2, ho, rfl, rfl, e1⟩
noncomputable def Att (C : Cx) (A : Around) (fm : Fm) (name : Str) (m : MV) (loc : Loc) (σ : Hp) (Q : MV → Hp → Prop) : Prop :=
  ∀ fa g s v ex, Rel C g σ fm fa loc s → VR C g s.heap m v → wpAny (model C.prog C.w) A (getAttr v name ex) (Post C fm fa loc g s Q) NoE s
theorem ev_attr {o : Expr} {name : Str} {pos : Pos} (h : Ev C A fm o loc σ fun m σ₁ => Att C A fm name m loc σ₁ Q)
    (hbase : attributeBase o name fm.env (eval o fm.env) = eval o fm.env := by rfl) (ht : ∀ a b, letTemporaryGo o a b = pure () := by intro _ _; rfl) : Ev C A fm (.Attribute o name pos) loc σ Q := fun fa g s r => by
  rw [arm_eval_Attribute, hbase]
  refine wpAny_bind (wpAny_mono (h fa g s r) ?_ fun _ _ e => e)
  rintro v s₁ ⟨g₁, m, σ₁, r₁, hv, d₁, h₁⟩
  refine wpAny_bind (wpAny_standAt (wpAny_bind (wpAny_holding (wpAny_mono (h₁ fa g₁ s₁ v true r₁ hv) ?_ fun _ _ e => e))))
  intro u s₂ p
  rw [ht]
  exact wpAny_bind (wpAny_pure (wpAny_pure (p.trans d₁)))
theorem att_inst {n d : Nat} {c : Addr} {l : List (Str × MV)} {name : Str} {v : MV} (K : KlsAt C.K c) (h1 : σ n = some (.inst c d)) (h2 : σ d = some (.attrs l)) (hl : l.lookup name = some v) (hp : plainMV v = true)
    (hn : findIn C.K (.ref c) name = some none) (q : Q v σ) : Att C A fm name (.ref n) loc σ Q := by
  intro fa g s x ex r hx
  refine via_p fun P kP => ?_
  obtain ⟨a, dx, m, o, rfl, ha, hd, ho, hns, h0, h3, ho', hlk, I⟩ := r.gr.inst h1 h2 hx
  refine kP ?_
  clear kP P
  refine via_p fun P kP => ?_
  obtain ⟨u, hu, hv⟩ := h3 name v hl
  refine kP ?_
  clear kP P
  exact get_value r.gr.KIn I K.ga (findObj_own K.hd hn rfl (by rw [hlk, hu])) (hv.handed hp) (.tok r hv q)
theorem att_meth {n d : Nat} {c f : Addr} {l : List (Str × MV)} {name : Str} (K : KlsAt C.K c) (h1 : σ n = some (.inst c d)) (h2 : σ d = some (.attrs l)) (hl : l.lookup name = none)
    (hn : findObj C.K c (some emptyDict) name = some (.bind (.builtin "function.__get__") (.ref f))) (hnd : ∀ o, lookIn name o = some none → findObj C.K c (some o) name = findObj C.K c (some emptyDict) name)
    (ht : typeIn C.K (.ref f) = some (.type "function")) (q : Q (.meth f n) σ) : Att C A fm name (.ref n) loc σ Q := by
  intro fa g s x ex r hx
  refine via_p fun P kP => ?_
  obtain ⟨a, dx, m, o, rfl, ha, hd, ho, hns, h0, h3, ho', hlk, I⟩ := r.gr.inst h1 h2 hx
  refine kP ?_
  clear kP P
  refine get_bind r.gr.KIn I K.ga ((hnd o (by rw [hlk, h0 name hl])).trans hn) K.gh (wpAny_call (PySem.W.fn_get (s := { s with toks := s.toks + 1 }) r.gr.KIn ht ?_))
  show wpAny _ _ (handedOut _) _ _ _
  refine wpAny_pure ?_
  exact ((Post.pinned (s := { s with toks := s.toks + 1 }) (r.toks _) rfl (.meth (.inl rfl) (Heap.get?_push_size _ rfl) ha) q).trans (.toks _))
theorem ev_methF {o : Expr} {name : Str} {apos pos : Pos} {es : List Expr}
    (h : Ev C A fm o loc σ fun m σ₁ => ∃ n d c l f, m = .ref n ∧ KlsAt C.K c ∧ σ₁ n = some (.inst c d) ∧ σ₁ d = some (.attrs l) ∧ l.lookup name = none ∧ findIn C.K (.ref c) name = some (some (.ref f)) ∧ typeIn C.K (.ref f) = some (.type "function") ∧ Callable C (.ref f) ∧
      EvL C A fm es loc σ₁ fun ms σ₂ => Cal C A fm (.ref f) (.ref n :: ms) loc σ₂ Q)
    (hbase : attributeBase o name fm.env (eval o fm.env) = eval o fm.env := by rfl) (hs : (starEach es fm.env).all (fun p => !p.1) = true := by rfl) (hline : (apos.endLine == pos.line) = true := by rfl) (hf : es.length < 30 := by decide) :
    Ev C A fm (.Call (.Attribute o name apos) es [] pos) loc σ Q := fun fa g s r => by
  have hpl := starEach_plain hs
  have hfew : methodCallForm (es.length + ([] : List Keyword).length) (backTo pos (starEach es fm.env)) (backToKw pos (keywordEach [] fm.env)) = true := by
    rw [hpl]
    have : es.length + ([] : List Keyword).length + (if ([] : List Keyword).isEmpty then 0 else 1) < 30 := by simpa using hf
    unfold methodCallForm
    simp only [Bool.and_eq_true]
    refine ⟨⟨?_, rfl⟩, decide_eq_true this⟩
    simp [backTo]
  have hpos : methodCallPos true o fm.env apos pos = pure pos := by unfold methodCallPos; simp [hline]
  rw [arm_eval_Call, hbase]
  refine wpAny_bind (wpAny_mono (h fa g s r) ?_ fun _ _ e => e)
  rintro v s₁ hX2
  refine via_p fun P kP => ?_
  obtain ⟨g₁, m, σ₁, r₁, hv, d₁, n, d, c, l, f, rfl, K, h1, h2, hl, hfi, hty, hcal, h₁⟩ := hX2
  refine kP ?_
  clear kP P
  refine wpAny_bind (wpAny_standAt ?_)
  refine via_p fun P kP => ?_
  obtain ⟨a, dx, mm, oo, rfl, ha, hd, ho, hns, h0, h3, ho', hlk, I⟩ := r₁.gr.inst h1 h2 hv
  refine kP ?_
  clear kP P
  unfold methodCall
  rw [hfew]
  refine wpAny_bind (wpAny_holding (method_fn r₁.gr.KIn I K.ga K.gh hfi hty (by show (lookIn name oo).map (·.isSome) = _; rw [hlk, h0 name hl]; rfl) ?_))
  refine wpAny_bind (wpAny_of_eq hpos ?_)
  rw [hpl]
  refine hcal.with (by simp [backTo]) (wpAny_mono (h₁.args r₁) ?_ fun _ _ e => e)
  rintro hX0 s₂ hX2
  refine via_p fun P kP => ?_
  obtain ⟨ps, kw⟩ := hX0
  obtain ⟨rfl, g₂, ms, σ₂, r₂, hvs, d₂, q⟩ := hX2
  refine kP ?_
  clear kP P
  refine ⟨⟨g₂, σ₂, r₂.gr⟩, ?_⟩
  exact wpAny_mono (q fa g₂ s₂ (.ref a :: ps) r₂ (.cons (hv.mono (r₁.ge d₂)) hvs)) (fun _ _ p => p.trans (d₁.trans d₂)) fun _ _ e => e
end
end
section
open Builtin Builtin.ObjectAttr

noncomputable def aset (l : List (Str × MV)) (x : Str) (v : MV) : List (Str × MV) := if l.any (fun p => p.1 == x) then l.map (fun p => if p.1 == x then (p.1, v) else p) else l ++ [(x, v)]
theorem lookup_map_set (x : Str) (v : MV) (l : List (Str × MV)) (y : Str) : (l.map fun p => if p.1 == x then (p.1, v) else p).lookup y = if y = x then (if l.any (fun p => p.1 == x) then some v else none) else l.lookup y := by
  induction l with
  | nil => simp
  | cons p l ih =>
    obtain ⟨k, w⟩ := p
    by_cases hk : k = x
    · subst hk
      by_cases hy : y = k
      · subst hy; simp
      · have hy' : (y == k) = false := by simpa using hy
        simp only [List.map_cons, beq_self_eq_true, if_true, List.lookup_cons, hy', ih, hy, if_false]
    · have hk' : (k == x) = false := by simpa using hk
      by_cases hy : y = k
      · subst hy
        simp [hk, hk']
      · have hy' : (y == k) = false := by simpa using hy
        simp only [List.map_cons, hk', Bool.false_eq_true, if_false, List.lookup_cons, hy', ih, List.any_cons, Bool.false_or]
theorem lookup_app (x : Str) (v : MV) : ∀ (l : List (Str × MV)) (y : Str), l.any (fun p => p.1 == x) = false → (l ++ [(x, v)]).lookup y = if y = x then some v else l.lookup y
  | [], y, _ => by
    by_cases hy : y = x
    · subst hy; simp
    · have hy' : (y == x) = false := by simpa using hy
      simp [List.lookup_cons, hy, hy']
  | (k, w) :: l, y, h => by
    simp only [List.any_cons, Bool.or_eq_false_iff] at h
    have ih := lookup_app x v l y h.2
    have hk : ¬ k = x := by simpa using h.1
    by_cases hy : y = k
    · subst hy
      simp [hk]
    · have hy' : (y == k) = false := by simpa using hy
      simp only [List.cons_append, List.lookup_cons, hy', ih]
theorem lookup_aset (l : List (Str × MV)) (x : Str) (v : MV) (y : Str) : (aset l x v).lookup y = if y = x then some v else l.lookup y := by
  unfold aset
  cases h : l.any (fun p => p.1 == x) with
  | true => rw [if_pos rfl, lookup_map_set, h]; simp
  | false => rw [if_neg (by simp), lookup_app x v l y h]
section
variable {C : Cx} {A : Around} {fm : Fm} {fa : List Addr} {loc : Loc} {σ : Hp} {g : Gh} {s : Shared} {Q Q' : MV → Hp → Prop} {QB : Bool → Hp → Prop} {QS : Fl → Loc → Hp → Prop}
theorem set_ns {prog : Program} {w : World} {E : Value → Shared → Prop} {K : Frag} {x c dx : Addr} {o : Obj} {m : Str → Option Value} {ns : List Str} {name : Str} {v : Value} {R : Unit → Shared → Prop} (X : K.In s.heap) (I : InstAt s.heap x (instObj c dx) c (some o))
    (KC : KlsAt K c) (ht : takerIn K c name = some none) (hn : s.heap.Ns1 dx m) (hw : Within m ns) (hsz : ns.length ≤ 1000)
    (hq : ∀ h', h'.Ns1 dx (fun y => if y = name then some v else m y) → Heap.SameBut dx s.heap h' → R () { s with heap := h', toks := s.toks + 2 }) :
    wpAny (model prog w) A (setAttr (.ref x) name v) R E s := by
  refine set_plain X I KC.sa (osa_open (s := { s with toks := s.toks + 1 }) X I KC.po ht fun b => ?_)
  refine via_p fun P kP => ?_
  obtain ⟨cd, hc, hd'⟩ := any_some KC.hd
  refine kP ?_
  clear kP P
  have hx := I.at_
  refine wpAny_bind (wpAny_pure (wpAny_bind (wpAny_bind (wpAny_loadPart hx (wpAny_bind (looks_clsIn X hc _ _ _ { s with toks := s.toks + 1 } (fun _ _ e => e) ?_))))))
  rw [hd']
  refine wpAny_pure (a := some dx) (wpAny_bind (wpAny_pure (wpAny_bind ?_)))
  refine wpAny_nsSet1 (s := { s with toks := s.toks + 1 }) hn fun h' hn' hs => ?_
  refine via_p fun P kP => ?_
  obtain ⟨oD, esD, epD, hoD, hdD, hcD⟩ := hn'.count (Within.cons name v hw)
  refine kP ?_
  clear kP P
  refine wpAny_bind (wpAny_lookBehind hoD (by rw [hdD]; exact pastItsLine_dict (Nat.le_trans hcD (by rw [List.length_cons, sizeLine_eq]; (first | lia | omega)))) ?_)
  exact wpAny_pure (hq h' hn' hs)
noncomputable def StA (C : Cx) (A : Around) (fm : Fm) (name : Str) (m v : MV) (loc : Loc) (σ : Hp) (Q : Hp → Prop) : Prop :=
  ∀ fa g s a u, Rel C g σ fm fa loc s → VR C g s.heap m a → VR C g s.heap v u → wpAny (model C.prog C.w) A (setAttr a name u) (fun _ s' => ∃ g' σ', Rel C g' σ' fm fa loc s' ∧ Gd C fa g s g' s' ∧ Q σ') NoE s
theorem sta_inst {n d : Nat} {c : Addr} {l : List (Str × MV)} {name : Str} {v : MV} {Q : Hp → Prop} (K : KlsAt C.K c) (h1 : σ n = some (.inst c d)) (h2 : σ d = some (.attrs l)) (ht : takerIn C.K c name = some none) (hsz : l.length ≤ 1000)
    (q : Q (σ.set d (.attrs (aset l name v)))) : StA C A fm name (.ref n) v loc σ Q := by
  intro fa g s x u r hx hu
  refine via_p fun P kP => ?_
  obtain ⟨a, dx, m, o, rfl, ha, hd, ho, hns, h0, h3, ho', hlk, I⟩ := r.gr.inst h1 h2 hx
  refine kP ?_
  clear kP P
  have hw : Within m (l.map (·.1)) := fun y hy => by
    cases e : l.lookup y with
    | none => exact absurd (h0 y e) hy
    | some w =>
      have : (y, w) ∈ l := by
        clear h0 h3 h2 q hsz
        induction l with
        | nil => cases e
        | cons p l ih =>
          rw [List.lookup_cons] at e
          cases hb : y == p.1 with
          | true => rw [hb] at e; cases e; rw [beq_iff_eq.mp hb]; exact .head _
          | false => rw [hb] at e; exact .tail _ (ih e)
      exact List.mem_map.mpr ⟨(y, w), this, rfl⟩
  refine set_ns r.gr.KIn I K ht hns hw (by simpa using hsz) fun h' hn' hs => ?_
  have htb : ∀ b ∈ C.tabs, b < C.N0 := fun b hb => (r.gr.tabs b hb).1
  obtain ⟨hN, _, hPn⟩ := r.gr.live d dx hd
  have hg : Ge g g s.heap h' := ⟨fun _ _ e => e, fun _ e => e, fun b o hp e => hs.extBut b o (fun q => hPn (q ▸ hp)) e⟩
  refine ⟨g, _, r.upd (s' := { s with heap := h', toks := s.toks + 2 }) hd hs (.attrs hn' (fun y hy => ?_) fun y w hy => ?_), .upd hd hN htb hs rfl rfl rfl, q⟩
  · rw [lookup_aset] at hy
    by_cases e : y = name
    · rw [if_pos e] at hy; cases hy
    · rw [if_neg e] at hy; simp only [if_neg e]; exact h0 y hy
  · rw [lookup_aset] at hy
    by_cases e : y = name
    · rw [if_pos e] at hy; cases hy
      exact ⟨u, by simp only [if_pos e], hu.mono hg⟩
    · rw [if_neg e] at hy
      obtain ⟨z, hz, hv⟩ := h3 y w hy
      exact ⟨z, by simp only [if_neg e]; exact hz, hv.mono hg⟩
theorem ex_seta {o e : Expr} {name : Str} {p pos : Pos} (h : Ev C A fm e loc σ fun v σ₁ => Ev C A fm o loc σ₁ fun m σ₂ => StA C A fm name m v loc σ₂ fun σ₃ => QS .next loc σ₃)
    (hs : swapsWith e (some (.Attribute o name p)) pos.line fm.env = pure false := by rfl) : Ex C A fm (.Assign [.Attribute o name p] e pos) loc σ QS := fun fa g s r => by
  refine plainObj_wpAny_Assign_Attribute (wpAny_mono (h fa g s r) ?_ fun _ _ e => e) hs
  rintro v s₁ ⟨g₁, m, σ₁, r₁, hv, d₁, h₁⟩
  refine wpAny_mono (h₁ fa g₁ s₁ r₁) ?_ fun _ _ e => e
  rintro ov s₂ ⟨g₂, mo, σ₂, r₂, ho, d₂, h₂⟩
  refine wpAny_mono (h₂ fa g₂ s₂ ov v r₂ ho (hv.mono (r₁.ge d₂))) ?_ fun _ _ e => e
  rintro _ s₃ ⟨g₃, σ₃, r₃, d₃, q⟩
  exact ⟨g₃, .next, loc, σ₃, r₃, .next, d₁.trans (d₂.trans d₃), q⟩
theorem ex_auga {o e : Expr} {name : Str} {op : Operator} {tp pos : Pos} (h : Ev C A fm o loc σ fun m σ₁ => Att C A fm name m loc σ₁ fun old σ₂ => Ev C A fm e loc σ₂ fun v σ₃ => Op2 C A fm (inplaceOp op) old v loc σ₃ fun k σ₄ => StA C A fm name m k loc σ₄ fun σ₅ => QS .next loc σ₅) :
    Ex C A fm (.AugAssign (.Attribute o name tp) op e pos) loc σ QS := fun fa g s r => by
  refine wpAny_AugAssign_AttributeAny (wpAny_mono (h fa g s r) ?_ fun _ _ e => e)
  rintro ov s₁ ⟨g₁, m, σ₁, r₁, ho, d₁, h₁⟩
  refine wpAny_mono (h₁ fa g₁ s₁ ov true r₁ ho) ?_ fun _ _ e => e
  rintro old s₂ ⟨g₂, mo, σ₂, r₂, hold, d₂, h₂⟩
  refine wpAny_mono (h₂ fa g₂ s₂ r₂) ?_ fun _ _ e => e
  rintro v s₃ ⟨g₃, mv, σ₃, r₃, hv, d₃, h₃⟩
  refine wpAny_mono (h₃ fa g₃ s₃ old v r₃ (hold.mono (r₂.ge d₃)) hv) ?_ fun _ _ e => e
  rintro k s₄ ⟨g₄, mk, σ₄, r₄, hk, d₄, h₄⟩
  refine wpAny_mono (h₄ fa g₄ s₄ ov k r₄ (ho.mono (r₁.ge (d₂.trans (d₃.trans d₄)))) hk) ?_ fun _ _ e => e
  rintro _ s₅ ⟨g₅, σ₅, r₅, d₅, q⟩
  exact ⟨g₅, .next, loc, σ₅, r₅, .next, d₁.trans (d₂.trans (d₃.trans (d₄.trans d₅))), q⟩
theorem GR.new {a : Addr} {n : Nat} {o : MO} {s' : Shared} (r : GR C g σ s) (hn : g.ρ n = none) (k : ∀ b o, s.heap.get? b = some o → s'.heap.get? b = some o) (ha : s.heap.objs.size ≤ a) (hl : a < s'.heap.objs.size)
    (ho : OR C (g.set n a) s'.heap a o) : GR C (g.set n a) (σ.set n o) s' := by
  have hs : s.heap.objs.size ≤ s'.heap.objs.size := Nat.le_of_lt (Nat.lt_of_le_of_lt ha hl)
  have e0 : Ge g (g.set n a) s.heap s.heap := ge_set hn
  have e : Ge g (g.set n a) s.heap s'.heap := ⟨e0.ρ, e0.P, fun b o hp h => k b o h⟩
  have q := r.ext (s' := s') k hs
  refine ⟨r.lo, q.K, q.lim, q.size, fun m o' h => ?_, fun m m' b h h' => ?_, fun m b h => ?_, q.P, fun b h => by obtain ⟨x, vs, e', t⟩ := r.tabs b h; exact ⟨x, vs, k _ _ e', t.mono e⟩, fun m b h => ?_⟩
  · have h' : (if m = n then some o else σ m) = some o' := h
    by_cases hm : m = n
    · rw [if_pos hm] at h'; cases h'
      exact ⟨a, by show (if m = n then some a else g.ρ m) = some a; rw [if_pos hm], ho⟩
    · rw [if_neg hm] at h'
      obtain ⟨b, hb, hob⟩ := r.heap m o' h'
      exact ⟨b, e.ρ m b hb, hob.mono e fun _ e => k _ _ e⟩
  · rcases set_cases h with ⟨h1, h2⟩ | ⟨h1, h2⟩ <;> rcases set_cases h' with ⟨h3, h4⟩ | ⟨h3, h4⟩
    · rw [h1, h3]
    · exact absurd (r.live m' b h4).2.1 (Nat.not_lt.mpr (h2 ▸ ha))
    · exact absurd (r.live m b h2).2.1 (Nat.not_lt.mpr (h4 ▸ ha))
    · exact r.inj m m' b h2 h4
  · rcases set_cases h with ⟨h1, h2⟩ | ⟨h1, h2⟩
    · subst h2; exact ⟨Nat.le_trans r.size ha, hl, fun w => Nat.lt_irrefl _ (Nat.lt_of_lt_of_le (r.P b w).2 ha)⟩
    · obtain ⟨x, y, z⟩ := r.live m b h2; exact ⟨x, Nat.lt_of_lt_of_le y hs, z⟩
  · show (if m = n then some o else σ m) ≠ none
    rcases set_cases h with ⟨h1, _⟩ | ⟨h1, h2⟩
    · rw [if_pos h1]; exact fun e => nomatch e
    · rw [if_neg h1]; exact r.dom m b h2
theorem fn_make {c fI : Addr} {ℓ d : Nat} {ms : List MV} (K : KlsAt C.K c) (hℓ : σ ℓ = none) (hd : σ d = none) (hne : ℓ ≠ d) (hi : findIn C.K (.ref c) "__init__" = some (some (.ref fI))) (hf : typeIn C.K (.ref fI) = some (.type "function"))
    (h : ∀ rest, Fn C (A.under (.builtin "type.__call__" ⟨.ref c :: rest, []⟩)) (.ref fI) (.ref ℓ :: ms) ((σ.set d (.attrs [])).set ℓ (.inst c d)) fun m σ' => m = .none ∧ Q (.ref ℓ) σ') : Fn C A (.ref c) ms σ Q := by
  intro g s vs r hvs
  obtain ⟨hh, gg, dr, t, os⟩ := s
  refine make_core (makes_of r.KIn K.mks) (looks_findIn r.KIn hi) (fun self => bind_fn r.KIn self hf) (.inl rfl) ?_
  have hρd := r.fresh hd
  have r₁ := r.new (s' := ⟨hh.push emptyDict, gg, dr, t, os⟩) (a := hh.objs.size) (o := .attrs []) hρd (fun b o e => Heap.get?_push_of_some _ e) (Nat.le_refl _) (by show _ < (hh.push _).objs.size; rw [Heap.size_push]; exact Nat.lt_succ_self _)
    (.attrs (m := fun _ => none) (Heap.Ns1.of_empty ⟨_, #[], _, Heap.get?_push_size _ rfl, rfl, fun e he => absurd he (by simp), fun _ => rfl⟩) (fun _ _ => rfl) fun _ _ e => nomatch e)
  have hρℓ : (g.set d hh.objs.size).ρ ℓ = none := by
    show (if ℓ = d then _ else g.ρ ℓ) = none
    rw [if_neg hne]; exact r.fresh hℓ
  have r₂ := r₁.new (s' := ⟨(hh.push emptyDict).push (instObj c hh.objs.size), gg, dr, t, os⟩) (a := hh.objs.size + 1) (o := .inst c d) hρℓ (fun b o e => Heap.get?_push_of_some _ e) (by show (hh.push _).objs.size ≤ _; rw [Heap.size_push]; exact Nat.le_refl _)
    (by show _ < ((hh.push _).push _).objs.size; rw [Heap.size_push, Heap.size_push]; exact Nat.lt_succ_self _)
    (.inst (dx := hh.objs.size) (by show (if d = ℓ then _ else (if d = d then _ else _)) = _; rw [if_neg (Ne.symm hne), if_pos rfl]) (by show ((hh.push _).push _).get? _ = _; rw [← Heap.size_push hh emptyDict]; exact Heap.get?_push_size _ rfl))
  have D₁ : Gd C [] g ⟨hh, gg, dr, t, os⟩ (g.set d hh.objs.size) ⟨hh.push emptyDict, gg, dr, t, os⟩ := .new hρd (fun b o e => Heap.get?_push_of_some _ e) (Nat.le_refl _) (by show _ < (hh.push _).objs.size; rw [Heap.size_push]; exact Nat.lt_succ_self _) rfl rfl rfl
  have D₂ : Gd C [] (g.set d hh.objs.size) ⟨hh.push emptyDict, gg, dr, t, os⟩ ((g.set d hh.objs.size).set ℓ (hh.objs.size + 1)) ⟨(hh.push emptyDict).push (instObj c hh.objs.size), gg, dr, t, os⟩ :=
    .new hρℓ (fun b o e => Heap.get?_push_of_some _ e) (by show (hh.push _).objs.size ≤ _; rw [Heap.size_push]; exact Nat.le_refl _) (by show _ < ((hh.push _).push _).objs.size; rw [Heap.size_push, Heap.size_push]; exact Nat.lt_succ_self _) rfl rfl rfl
  have hx : VR C ((g.set d hh.objs.size).set ℓ (hh.objs.size + 1)) ((hh.push emptyDict).push (instObj c hh.objs.size)) (.ref ℓ) (.ref (hh.objs.size + 1)) := .ref (by show (if ℓ = ℓ then _ else _) = _; rw [if_pos rfl])
  refine codeAny_mono (h _ _ _ (.ref (hh.objs.size + 1) :: vs) r₂ (.cons hx (hvs.mono (r.ge (D₁.trans D₂))))) ?_
  rintro x s' ⟨v, g', m, σ', rfl, r', hv, D, rfl, q⟩
  obtain rfl := hv.inv
  refine ⟨rfl, .ref (hh.objs.size + 1), g', .ref ℓ, σ', rfl, r', ?_, D₁.trans (D₂.trans D), q⟩
  obtain ⟨a, e', e⟩ := hx.inv
  exact e' ▸ .ref (D.ρ _ _ e)
end
end
section
open Builtin Builtin.ObjectAttr

theorem fg_lookup : typeLookup (.type "function") "__getattribute__" = pure (some (.builtin "object.__getattribute__")) := by rw [typeLookup_type, builtinLookup_eq_fast]; kernel_rfl
theorem fg_none : typeLookup (.type "function") "__getattr__" = pure none := by rw [typeLookup_type, builtinLookup_eq_fast]; kernel_rfl
theorem fg_read : typeLookup (.type "function") "read" = pure none := by rw [typeLookup_type, builtinLookup_eq_fast]; kernel_rfl
theorem fs_lookup : typeLookup (.type "function") "__setattr__" = pure (some (.builtin "object.__setattr__")) := by rw [typeLookup_type, builtinLookup_eq_fast]; kernel_rfl
theorem slot_fga : Slot "function" "__getattribute__" "object.__getattribute__" :=
  Slot.of (T := "function") (name := "__getattribute__") (owner := "object") (n := "__getattribute__") fg_lookup (by decide +kernel) (by decide +kernel) (by decide +kernel)
    (.inl (by decide +kernel)) (by rw [isSubtype_type]; kernel_rfl)
theorem slot_fsa : Slot "function" "__setattr__" "object.__setattr__" :=
  Slot.of (T := "function") (name := "__setattr__") (owner := "object") (n := "__setattr__") fs_lookup (by decide +kernel) (by decide +kernel) (by decide +kernel)
    (.inl (by decide +kernel)) (by rw [isSubtype_type]; kernel_rfl)
theorem entry_ga : entryFor table "object.__getattribute__" = some Builtin.«object.__getattribute__» := entryFor_of_tree (by kernel_rfl)
theorem args_ga (a b : Value) : argsOk "object.__getattribute__" ⟨[a, b], []⟩ := by unfold argsOk; kernel_rfl
theorem fun_get {prog : Program} {w : World} {A : Around} {E : Value → Shared → Prop} {Q : Value → Shared → Prop} {s : Shared} {f d : Addr} {fd : FuncData} {u : Value} {name : Str} {m : Str → Option Value} {sl : Array (Option Value)} {ex : Bool}
  (hf : s.heap.get? f = some ⟨.type "function", some d, .func fd, sl⟩) (hd : s.heap.Ns d m) (hm : m name = some u) (hn : typeLookup (.type "function") name = pure none) (hh : handedIn u = true)
  (hq : Q u { s with toks := s.toks + 1 }) :
  wpAny (model prog w) A (getAttr (.ref f) name ex) Q E s := by
  obtain ⟨h, g, dr, tk, os⟩ := s
  have hT : Shared.TypeIs ⟨h, g, dr, tk + 1, os⟩ (.ref f) "function" := ⟨_, hf, rfl⟩
  have L0 : Looks (model prog w) h (typeOf (.ref f)) (.type "function") := (Looks.ld hf).andThen .now
  unfold getAttr getAttrBy
  refine wpAny_bind (wpAny_mkText (wpAny_holding (wpAny_bind (L0.at (wpAny_bind (wpAny_of_eq fg_lookup ?_))))))
  show wpAny _ _ (getAttrByItsOwn _ _ _ _ _ _) _ _ _
  unfold getAttrByItsOwn hookBefore
  refine wpAny_bind (wpAny_pure (wpAny_bind (wpAny_attempt (wpAny_holding ?_))))
  unfold callGetattribute
  rw [show (ex && onTheHeap (Value.builtin "object.__getattribute__")) = false from Bool.and_false _, if_neg (by decide)]
  unfold boundAndCalled
  rw [slot_fga.bind]
  refine wpAny_bind (wpAny_pure ?_)
  refine wpAny_call_entry slot_fga hT entry_ga ?_ (args_ga _ _)
  unfold Builtin.«object.__getattribute__»
  refine wpAny_bind (wpAny_pure (wpAny_bind (wpAny_pure (wpAny_bind (L0.at ?_)))))
  unfold find
  refine wpAny_bind (wpAny_bind (wpAny_of_eq hn (wpAny_bind (wpAny_pure (wpAny_bind (wpAny_pure ?_))))))
  unfold ownThenClass
  refine wpAny_bind ?_
  show wpAny _ _ (ObjectAttr.ownDict f >>= inDict name) _ _ _
  unfold ObjectAttr.ownDict
  refine wpAny_bind (wpAny_bind (wpAny_loadPart hf ?_))
  show wpAny _ _ (instanceDict f false) _ _ _
  unfold instanceDict
  refine wpAny_bind (wpAny_loadPart hf ?_)
  refine wpAny_pure (a := some d) ?_
  refine wpAny_nsGet (s := ⟨h, g, dr, tk + 1, os⟩) hd ?_
  rw [hm]
  refine wpAny_bind (wpAny_rule (wpAny_pure ?_))
  refine wpAny_pure ⟨u, rfl, ?_⟩
  show wpAny _ _ (handedOut u) _ _ _
  rw [handedOut_of hh]; exact wpAny_pure hq
theorem fun_meth {prog : Program} {w : World} {A : Around} {E : Value → Shared → Prop} {Q : Value × List Value → Shared → Prop} {s : Shared} {f d : Addr} {fd : FuncData} {u : Value} {m : Str → Option Value} {sl : Array (Option Value)} {pl : Sem Bool}
  (hf : s.heap.get? f = some ⟨.type "function", some d, .func fd, sl⟩) (hd : s.heap.Ns d m) (hm : m "read" = some u) (hh : handedIn u = true)
  (hq : Q (u, []) { s with toks := s.toks + 1 }) :
  wpAny (model prog w) A (getMethod (.ref f) "read" pl) Q E s := by
  have L0 : Looks (model prog w) s.heap (typeOf (.ref f)) (.type "function") := (Looks.ld hf).andThen .now
  unfold getMethod specialOf
  refine wpAny_bind (wpAny_bind (L0.here (wpAny_of_eq fg_lookup ?_)))
  dsimp only
  rw [PySem.F.canon_object_ga, if_neg (by decide)]
  refine wpAny_bind (wpAny_bind (L0.here (wpAny_of_eq fg_none ?_)))
  refine wpAny_bind (wpAny_bind (L0.here (wpAny_of_eq fg_read ?_)))
  exact wpAny_bind (fun_get hf hd hm fg_read hh (wpAny_pure hq))
end
section
structure RdIs (C : Cx) (rp : Arguments) (rb : List Stmt) (rs : Scope) (p : Str) : Prop where
  rd : ∀ fd, C.rd fd → fd.params = rp ∧ fd.body = .stmts rb ∧ fd.scope = rs ∧ fd.globals = mainGlobals ∧ fd.builtins = builtinsNs ∧ fd.defaults = .none ∧ fd.kwdefaults = .none
  bind : ∀ (fd : FuncData) v, fd.params = rp → fd.defaults = .none → fd.kwdefaults = .none → bindArgs fd ⟨[v], []⟩ = pure [(p, v)]
  cell : ∀ x ∈ rs.names, x.2 ≠ .cell
  loc : rs.names.lookup p = some .local
  free : ∀ y, rs.names.lookup y = some .free → y = "text" ∨ y = "at"
  text : rs.names.lookup ("text" : Str) = some .free
  at_ : rs.names.lookup ("at" : Str) = some .free
  co : rs.isCoroutine = false
  gen : rs.isGenerator = false
  kind : rs.kind = .function
noncomputable def rdLoc (p : Str) (m : MV) (x : Str) (n : Nat) : Loc := fun y => if y = p then some m else if y = "text" then some (.str x) else if y = "at" then some (.ref n) else none
section
variable {C : Cx} {A : Around} {fm : Fm} {fa : List Addr} {loc : Loc} {σ : Hp} {g : Gh} {s : Shared} {Q Q' : MV → Hp → Prop} {QB : Bool → Hp → Prop} {QS : Fl → Loc → Hp → Prop}
theorem strm_fn {rp : Arguments} {rb : List Stmt} {rs : Scope} {p : Str} {m : MV} {x : Str} {n : Nat} {v : Value} {f ct cx b : Addr} {fd : FuncData} {o : Obj} {t : Tok} (R : RdIs C rp rb rs p) (hroom : A.depth < recursionLimit)
    (h : ∀ fd L f, C.rd fd → Exs C (A.deeper (callEnv fd L f)) ⟨callEnv fd L f, []⟩ rb (rdLoc p m x n) σ fun fl _ σ' => Q (retOf fl) σ')
    (r : GR C g σ s) (hv : VR C g s.heap m v) (hf : s.heap.get? f = some o) (hd : o.data = .func fd) (hr : C.rd fd) (h1 : fd.closure.lookup ("text" : Str) = some cx) (h2 : fd.closure.lookup ("at" : Str) = some ct)
    (h3 : ∀ y c, fd.closure.lookup y = some c → (y = "text" ∧ c = cx) ∨ (y = "at" ∧ c = ct)) (p1 : g.P ct) (c1 : s.heap.IsCell ct (some (.ref b))) (hn : g.ρ n = some b) (p2 : g.P cx) (c2 : s.heap.IsCell cx (some (.str x t))) (hcd : s.heap.CodeRec fd.code fd.qualname) (hne : ct ≠ cx) :
    codeAny (model C.prog C.w) A (.call (.ref f) ⟨[v], []⟩) (fun r' s' => ∃ v g' m σ', r' = .ok (.ret v) ∧ GR C g' σ' s' ∧ VR C g' s'.heap m v ∧ Gd C [] g s g' s' ∧ Q m σ') s := by
  refine via_p fun P kP => ?_
  obtain ⟨e1, e2, e3, e4, e5, e6, e7⟩ := R.rd fd hr
  refine kP ?_
  clear kP P
  subst e3
  refine codeAny_call_def hroom hf hd r.lim hcd e2 (.of_eq (R.bind fd v e1 e6 e7)) R.cell (fun y hy => by rw [List.mem_singleton.mp hy]; exact R.loc) (fun h₀ hns keep => ?_) R.co R.gen R.kind
  have hkd : ∀ y, (callEnv fd s.heap.objs.size f).kindOf y = fd.scope.names.lookup y := fun y => rfl
  have hs : s.heap.objs.size < h₀.objs.size := hns.lt
  have hg : Ge g g s.heap h₀ := ⟨fun _ _ e => e, fun _ e => e, fun a o _ e => keep a o e⟩
  have e8 : (fun y : Str => ([(p, v)] : List (Str × Value)).reverse.lookup y) = fun y => if y = p then some v else none := by
    funext y
    by_cases hy : y = p
    · subst hy; simp
    · have hy' : (y == p) = false := by simpa using hy
      simp [List.lookup_cons, hy, hy']
  rw [e8] at hns
  have hcc : ∀ y c, fd.closure.lookup y = some c → g.P c ∧ ∃ u, s.heap.IsCell c (some u) := fun y c e => by
    rcases h3 y c e with ⟨_, rfl⟩ | ⟨_, rfl⟩
    · exact ⟨p2, _, c2⟩
    · exact ⟨p1, _, c1⟩
  have r' : Rel C g σ ⟨callEnv fd s.heap.objs.size f, []⟩ [s.heap.objs.size] (rdLoc p m x n) { s with heap := h₀, toks := s.toks + 1 } := by
    refine ⟨r.ext keep (Nat.le_of_lt hs), R.kind, e4, e5, ⟨_, hns⟩, .head _, fun y w e => ?_, fun y c e => ?_, (fun y hy => (nomatch hy)), fun y z c e e' => ?_, fun a ha => ?_, fun y hy => ?_⟩
    · unfold rdLoc at e
      split at e
      · rename_i hy; cases e
        exact ⟨v, .inl ⟨by rw [hkd, hy]; exact R.loc, _, hns, by rw [if_pos hy]⟩, hv.mono hg⟩
      · split at e
        · rename_i hy; cases e
          exact ⟨_, .inr ⟨.inr (by rw [hkd, hy]; exact R.text), cx, by rw [hy]; exact h1, c2.keeps keep⟩, .str ..⟩
        · split at e
          · rename_i hy; cases e
            exact ⟨_, .inr ⟨.inr (by rw [hkd, hy]; exact R.at_), ct, by rw [hy]; exact h2, c1.keeps keep⟩, .ref hn⟩
          · cases e
    · refine via_p fun P kP => ?_
      obtain ⟨hp, u, hu⟩ := hcc y c e
      refine kP ?_
      clear kP P
      refine ⟨⟨_, hu.keeps keep⟩, fun q => ?_, (r.P c hp).1, fun k hk => (r.live k c hk).2.2 hp, fun _ hm => ?_⟩
      · have q' : c = s.heap.objs.size := q
        exact Nat.lt_irrefl _ (q' ▸ hu.lt)
      · exact Nat.lt_irrefl _ ((List.mem_singleton.mp hm) ▸ hu.lt)
    · rcases h3 y c e with ⟨a1, a2⟩ | ⟨a1, a2⟩ <;> rcases h3 z c e' with ⟨b1, b2⟩ | ⟨b1, b2⟩
      · rw [a1, b1]
      · exact absurd (b2.symm.trans a2) hne
      · exact absurd (a2.symm.trans b2) hne
      · rw [a1, b1]
    · rw [List.mem_singleton.mp ha]
      exact ⟨r.size, hs, fun hp => Nat.lt_irrefl _ (r.P _ hp).2, fun k hk => Nat.lt_irrefl _ (r.live k _ hk).2.1⟩
    · rcases hy with hy | hy
      · exact absurd rfl (R.cell _ (mem_of_lookup hy))
      · rcases R.free y hy with rfl | rfl
        · exact ⟨cx, h1⟩
        · exact ⟨ct, h2⟩
  refine wpAny_mono (h fd s.heap.objs.size f hr [s.heap.objs.size] g _ r') ?_ fun _ _ e => e.elim
  rintro fl s₂ hX2
  refine via_p fun P kP => ?_
  obtain ⟨g₂, fl', l₂, σ₂, r₂, hfl, d, q⟩ := hX2
  refine kP ?_
  clear kP P
  have d0 : Gd C [s.heap.objs.size] g s g { s with heap := h₀, toks := s.toks + 1 } := .ext keep (Nat.le_of_lt hs) rfl rfl rfl
  have d1 : Gd C [] g s g₂ s₂ := (d0.trans d).weak fun a ha => .inr (by rw [List.mem_singleton.mp ha]; exact Nat.le_refl _)
  cases hfl with
  | next => exact ⟨_, g₂, .none, σ₂, rfl, r₂.gr, .none, d1, q⟩
  | brk => exact ⟨_, g₂, .none, σ₂, rfl, r₂.gr, .none, d1, q⟩
  | cont => exact ⟨_, g₂, .none, σ₂, rfl, r₂.gr, .none, d1, q⟩
  | ret hv => exact ⟨_, g₂, _, σ₂, rfl, r₂.gr, hv, d1, q⟩
theorem ev_read {o e : Expr} {apos pos : Pos} {rp : Arguments} {rb : List Stmt} {rs : Scope} {p : Str} (R : RdIs C rp rb rs p) (hroom : A.depth < recursionLimit)
    (h : Ev C A fm o loc σ fun m σ₁ => ∃ x n, m = .strm x n ∧ Ev C A fm e loc σ₁ fun k σ₂ => ∀ fd L f, C.rd fd → Exs C (A.deeper (callEnv fd L f)) ⟨callEnv fd L f, []⟩ rb (rdLoc p k x n) σ₂ fun fl _ σ' => Q (retOf fl) σ')
    (hbase : attributeBase o ("read" : Str) fm.env (eval o fm.env) = eval o fm.env := by rfl) (hs : (starEach [e] fm.env).all (fun p => !p.1) = true := by rfl) (hline : (apos.endLine == pos.line) = true := by rfl) :
    Ev C A fm (.Call (.Attribute o "read" apos) [e] [] pos) loc σ Q := fun fa g s r => by
  have hpl := starEach_plain hs
  have hfew : methodCallForm ([e].length + ([] : List Keyword).length) (backTo pos (starEach [e] fm.env)) (backToKw pos (keywordEach [] fm.env)) = true := by
    rw [hpl]; rfl
  have hpos : methodCallPos true o fm.env apos pos = pure pos := by unfold methodCallPos; simp [hline]
  rw [arm_eval_Call, hbase]
  refine wpAny_bind (wpAny_mono (h fa g s r) ?_ fun _ _ e => e)
  rintro v s₁ hX2
  refine via_p fun P kP => ?_
  obtain ⟨g₁, m, σ₁, r₁, hv, d₁, x, n, rfl, h₁⟩ := hX2
  refine kP ?_
  clear kP P
  refine wpAny_bind (wpAny_standAt ?_)
  obtain ⟨a', rfl, hst⟩ := hv.inv
  refine via_p fun P kP => ?_
  obtain ⟨d, f, ct, cx, b, t, fl, fd, sl, mm, o', ⟨p1, o1⟩, ⟨p2, n2, m2⟩, ⟨p3, o3, o3', o3''⟩, hr, ⟨hc1, hc2, hc3⟩, ⟨p4, c4, hρ⟩, ⟨p5, c5⟩, ⟨c, hc, p6, h6⟩, hne⟩ := id hst
  refine kP ?_
  clear kP P
  unfold methodCall
  rw [hfew]
  refine wpAny_bind (wpAny_holding (fun_meth o1 n2 m2 rfl ?_))
  refine wpAny_bind (wpAny_of_eq hpos ?_)
  rw [hpl]
  have hE : EvL C A fm [e] loc σ₁ fun ks σ₂ => ∃ k, ks = [k] ∧ ∀ fd L f, C.rd fd → Exs C (A.deeper (callEnv fd L f)) ⟨callEnv fd L f, []⟩ rb (rdLoc p k x n) σ₂ fun fl _ σ' => Q (retOf fl) σ' :=
    EvT.mono h₁ fun k σ₂ q => ⟨k, rfl, q⟩
  refine Calls.callWith_function (o := o') (fd := fd) (wpAny_mono (hE.args (r₁.toks (s₁.toks + 1))) ?_ fun _ _ e => e)
  rintro hX0 s₂ hX2
  refine via_p fun P kP => ?_
  obtain ⟨ps, kw⟩ := hX0
  obtain ⟨rfl, g₂, ms, σ₂, r₂, hvs, d₂, k, rfl, q⟩ := hX2
  refine kP ?_
  clear kP P
  have ge := (r₁.toks (s₁.toks + 1)).ge d₂
  obtain ⟨u, rfl, hu⟩ := hvs.inv1
  refine ⟨⟨ge.keep _ _ p3 o3, o3''⟩, ?_⟩
  have cell : ∀ {c w}, g₁.P c → s₁.heap.IsCell c w → s₂.heap.IsCell c w := fun hp ⟨oo, h1, h2⟩ => ⟨oo, ge.keep _ _ hp h1, h2⟩
  have h6' : s₂.heap.CodeRec fd.code fd.qualname := by
    rw [hc]
    refine via_p fun P kP => ?_
    obtain ⟨c', oc, vs, tt, ec, hoc, rc⟩ := h6
    refine kP ?_
    clear kP P
    cases ec
    exact ⟨c, oc, vs, tt, rfl, ge.keep _ _ p6 hoc, rc⟩
  refine wpAny_call (codeAny_mono (strm_fn R hroom q r₂.gr hu (ge.keep _ _ p3 o3) o3'' hr hc1 hc2 hc3 (ge.P _ p4) (cell p4 c4) (ge.ρ _ _ hρ) (ge.P _ p5) (cell p5 c5) h6' hne) ?_)
  rintro x' s' hX2
  refine via_p fun P kP => ?_
  obtain ⟨w, g', mw, σ', rfl, r', hw, D, q'⟩ := hX2
  refine kP ?_
  clear kP P
  exact ⟨g', mw, σ', r₂.call r' D, hw, d₁.trans ((Gd.toks (fa := fa) (s₁.toks + 1)).trans (d₂.trans (D.weak fun a h => nomatch h))), q'⟩
end
end
section
open Builtin

theorem ci_lookup : typeLookup (.type "callable_iterator") "__next__" = pure (some (.builtin "callable_iterator.__next__")) := by rw [typeLookup_type, builtinLookup_eq_fast]; kernel_rfl
theorem slot_ci : Slot "callable_iterator" "__next__" "callable_iterator.__next__" :=
  Slot.of (T := "callable_iterator") (name := "__next__") (owner := "callable_iterator") (n := "__next__") ci_lookup (by decide +kernel) (by decide +kernel) (by decide +kernel)
    (.inl (by decide +kernel)) (by rw [isSubtype_type]; kernel_rfl)
theorem entry_ci : entryFor table "callable_iterator.__next__" = some Builtin.«callable_iterator.__next__» := entryFor_of_tree (by kernel_rfl)
theorem args_ci (a : Value) : argsOk "callable_iterator.__next__" ⟨[a], []⟩ := by unfold argsOk; kernel_rfl
theorem ci_iter : typeLookup (.type "callable_iterator") "__iter__" = pure (some (.builtin "callable_iterator.__iter__")) := by rw [typeLookup_type, builtinLookup_eq_fast]; kernel_rfl
section
variable {prog : Program} {w : World} {A : Around} {E : Value → Shared → Prop} {s : Shared}
theorem wpAny_callBorrowed {f : Value} {pos : List Value} {Q : Value → Shared → Prop}
    (hc : codeAny (model prog w) A (.call f ⟨pos, []⟩) (fun r s' => match r with | .ok (.ret v) => Q v s' | .ok _ => False | .error e => E e s') s) :
    wpAny (model prog w) A (callBorrowed f pos) Q E s := fun Γ p hΓ => by
  have h : Sem.wp (model prog w) Γ (PySem.call f pos []) _ _ p s := (wpAny_call (kw := []) hc) Γ p hΓ
  rw [Sem.wp_cmd_call] at h
  unfold callBorrowed
  rw [Sem.wp_call]
  refine cast ?_ h
  congr 1
  funext r s'
  rcases r with e | f
  · rfl
  · cases f <;> rfl
theorem borrows_meth {q f : Addr} {self : Value} {o : Obj} {fd : FuncData} {Q : Bool → Shared → Prop} (hq : s.heap.get? q = some (methodObj (.ref f) self)) (hf : s.heap.get? f = some o) (hd : o.data = .func fd) (h : Q true s) :
    wpAny (model prog w) A (borrowsExactly (.ref q)) Q E s := by
  unfold borrowsExactly
  refine wpAny_bind (wpAny_load hq ?_)
  dsimp only
  rw [if_pos (by decide +kernel)]
  show wpAny _ _ (load f >>= _) _ _ _
  refine wpAny_bind (wpAny_load hf ?_)
  rw [hd]
  exact wpAny_pure h
noncomputable abbrev ciObj (q s d : Value) : Obj := { cls := .type "callable_iterator", data := .fields #[q, s, d] }
theorem ci_upd {h : Heap} {a : Addr} {q x d y : Value} {i : Nat} (ho : h.get? a = some (ciObj q x d)) (q' x' d' : Value) (e : (#[q, x, d] : Array Value).setIfInBounds i y = #[q', x', d']) :
    (h.update a (Obj.mapFields (·.setIfInBounds i y))).get? a = some (ciObj q' x' d') := by
  have e1 : Obj.mapFields (·.setIfInBounds i y) (ciObj q x d) = ciObj q' x' d' := by simp only [Obj.mapFields, e]
  rw [Heap.get?_update_self _ ho (by rw [e1]; rfl), e1]
theorem ci_stop {α : Type} {Qn : α → Shared → Prop} {Q : Option Value → Shared → Prop} (hh : A.handled = none) (hQ : ∀ h', (∀ b o, s.heap.get? b = some o → h'.get? b = some o) → s.heap.objs.size ≤ h'.objs.size → Q none { s with heap := h' }) :
    wpAny (model prog w) A.in1 (Builtin.SmallTypes.stopIteration : Sem α) Qn
      (fun e s' => wpAny (model prog w) A (isInstance e (.type "StopIteration") >>= fun b => if b = true then pure none else throw e) Q E s') s := by
  show wpAny _ _ (newExc (.type "StopIteration") [] >>= _) _ _ _
  refine wpAny_bind ?_
  simp only [newExc, newTuple]
  refine wpAny_bind (wpAny_newObj_type ?_ (by size_fits))
  refine wpAny_bind (m := firstArgMember _ _) (wpAny_of_eq (a := Value.none) (by first | rfl | (simp only [firstArgMember]; rfl)) ?_)
  refine wpAny_newObj_type ?_ (by size_fits)
  unfold raiseNew
  refine wpAny_bind (wpAny_handled ?_)
  rw [show A.in1.handled = none from hh]
  refine wpAny_bind (wpAny_pure (wpAny_throw ?_))
  refine wpAny_bind (wpAny_isInstance (T := "StopIteration") (b := true) ⟨_, Heap.get?_push_size _ rfl, rfl⟩ isSubtype_stop ?_)
  exact wpAny_pure (hQ _ (fun b o e => Heap.get?_push_of_some _ (Heap.get?_push_of_some _ e)) (Nat.le_trans (size_push_le _ _) (size_push_le _ _)))
end
end
section
open Builtin

section
variable {C : Cx} {A : Around} {fm : Fm} {fa : List Addr} {loc : Loc} {σ : Hp} {g : Gh} {s : Shared} {Q Q' : MV → Hp → Prop} {QB : Bool → Hp → Prop} {QS : Fl → Loc → Hp → Prop}
inductive PostN (C : Cx) (fm : Fm) (fa : List Addr) (loc : Loc) (g : Gh) (s : Shared) (Q : Option Str → Hp → Prop) (r' : Option Value) (s' : Shared) : Prop
  | mk (g' : Gh) (σ' : Hp) (r : Rel C g' σ' fm fa loc s') (d : Gd C fa g s g' s') (q : (r' = none ∧ Q none σ') ∨ ∃ ch t, r' = some (.str ch t) ∧ Q (some ch) σ')
theorem next_dead {ℓ n : Nat} {f : Addr} {sent : Str} {it : Value} {Q : Option Str → Hp → Prop} (hh : A.handled = none) (hσ : σ ℓ = some (.citer false f n sent)) (q : Q none σ) (r : Rel C g σ fm fa loc s) (hv : VR C g s.heap (.ref ℓ) it) :
    wpAny (model C.prog C.w) A (pyNext it) (PostN C fm fa loc g s Q) NoE s := by
  obtain ⟨a, rfl, ha⟩ := hv.inv
  have ho : s.heap.get? a = some _ := (r.gr.obj ha hσ).inv
  have hT : s.TypeIs (.ref a) "callable_iterator" := ⟨_, ho, rfl⟩
  unfold pyNext
  refine wpAny_bind (wpAny_attempt (wpAny_callSpecial?_slot (name := Str.ofString "__next__") hT slot_ci (wpAny_call_entry slot_ci hT entry_ci ?_ (args_ci _))))
  unfold Builtin.«callable_iterator.__next__»
  refine wpAny_bind (wpAny_pure (wpAny_bind (wpAny_field ho rfl (x := .bool true) rfl ?_)))
  rw [if_pos (by decide +kernel)]
  refine wpAny_bind (wpAny_rule (wpAny_bind (ci_stop hh fun h' k hz => ?_)))
  exact ⟨g, σ, r.ext (s' := { s with heap := h' }) k hz, .ext k hz rfl rfl rfl, .inl ⟨rfl, q⟩⟩
theorem next_alive {ℓ n : Nat} {f : Addr} {sent : Str} {it : Value} {o : Obj} {fd : FuncData} {Q : Option Str → Hp → Prop} (hh : A.handled = none) (hf : C.K.lookup f = some o) (hd : o.data = .func fd) (hσ : σ ℓ = some (.citer true f n sent))
    (h : Fn C A.in1 (.ref f) [.ref n] σ fun m σ₁ => ∃ ch, m = .str ch ∧ σ₁ ℓ = some (.citer true f n sent) ∧ if ch = sent then Q none (σ₁.set ℓ (.citer false f n sent)) else Q (some ch) σ₁)
    (r : Rel C g σ fm fa loc s) (hv : VR C g s.heap (.ref ℓ) it) :
    wpAny (model C.prog C.w) A (pyNext it) (PostN C fm fa loc g s Q) NoE s := by
  refine via_p fun P kP => ?_
  obtain ⟨a, rfl, ha⟩ := hv.inv
  refine kP ?_
  clear kP P
  refine via_p fun P kP => ?_
  obtain ⟨q, t, ho, hq⟩ := (r.gr.obj ha hσ).inv
  refine kP ?_
  clear kP P
  refine via_p fun P kP => ?_
  obtain ⟨q', b', rfl, hP, hqo, hn⟩ := hq.inv
  refine kP ?_
  clear kP P
  have hT : s.TypeIs (.ref a) "callable_iterator" := ⟨_, ho, rfl⟩
  unfold pyNext
  refine wpAny_bind (wpAny_attempt (wpAny_callSpecial?_slot (name := Str.ofString "__next__") hT slot_ci (wpAny_call_entry slot_ci hT entry_ci ?_ (args_ci _))))
  unfold Builtin.«callable_iterator.__next__»
  refine wpAny_bind (wpAny_pure (wpAny_bind (wpAny_field ho rfl (x := .bool false) rfl ?_)))
  rw [if_neg (by decide +kernel)]
  refine wpAny_bind (wpAny_field ho rfl (x := .ref q') rfl (wpAny_bind (wpAny_attempt ?_)))
  unfold callOutOfASlot
  refine wpAny_bind (borrows_meth hqo (r.gr.KIn _ _ hf) hd ?_)
  rw [if_pos rfl]
  refine wpAny_callBorrowed (method_call hqo (codeAny_mono (h g s [.ref b'] r.gr (.cons (.ref hn) .nil)) ?_))
  rintro x s₁ hX2
  refine via_p fun P kP => ?_
  obtain ⟨v, g₁, m, σ₁, rfl, r₁, hm, d₁, ch, rfl, hσ₁, hQ⟩ := hX2
  refine kP ?_
  clear kP P
  obtain ⟨u, rfl⟩ := hm.inv
  have R₁ := r.call r₁ d₁
  have ha₁ := d₁.ρ ℓ a ha
  have D₁ : Gd C fa g s g₁ s₁ := d₁.weak fun a h => nomatch h
  refine via_p fun P kP => ?_
  obtain ⟨q₁, t₁, ho₁, hq₁⟩ := (r₁.obj ha₁ hσ₁).inv
  refine kP ?_
  clear kP P
  refine via_p fun P kP => ?_
  obtain ⟨q₁', b₁, rfl, hP₁, hqo₁, hn₁⟩ := hq₁.inv
  refine kP ?_
  clear kP P
  dsimp only
  refine wpAny_bind (wpAny_field ho₁ rfl (x := .bool false) rfl ?_)
  rw [if_neg (by decide +kernel)]
  refine wpAny_bind (wpAny_field ho₁ rfl (x := .str sent t₁) rfl (wpAny_bind (wpAny_holding (wpAny_eqBool_str ?_))))
  by_cases he : ch = sent
  · rw [if_pos he] at hQ
    rw [if_neg (by simp [he])]
    refine wpAny_bind (wpAny_rule (wpAny_bind ?_))
    show wpAny _ _ (field (.ref a) 0 >>= _) _ _ _
    refine wpAny_bind (wpAny_field ho₁ rfl (x := .ref q₁') rfl ?_)
    unfold slotLetsGo
    refine wpAny_bind (wpAny_bind (borrows_meth hqo₁ (r₁.KIn _ _ hf) hd ?_))
    rw [if_pos rfl]
    refine wpAny_pure ?_
    have u1 := ci_upd (i := 0) (y := .none) ho₁ .none (.str sent t₁) (.bool false) rfl
    have u2 := ci_upd (i := 1) (y := .none) u1 .none .none (.bool false) rfl
    have u3 := ci_upd (i := 2) (y := .bool true) u2 .none .none (.bool true) rfl
    refine wpAny_bind (wpAny_setField ho₁ rfl (by simp) (wpAny_bind (wpAny_setField u1 rfl (by simp) (wpAny_setField u2 rfl (by simp) ?_))))
    have sb := (Heap.SameBut.update s₁.heap a (Obj.mapFields (·.setIfInBounds 0 .none))).trans ((Heap.SameBut.update _ a (Obj.mapFields (·.setIfInBounds 1 .none))).trans (Heap.SameBut.update _ a (Obj.mapFields (·.setIfInBounds 2 (.bool true)))))
    have htb : ∀ b ∈ C.tabs, b < C.N0 := fun b hb => (r.gr.tabs b hb).1
    have R₂ := R₁.upd (s' := { s₁ with heap := ((s₁.heap.update a (Obj.mapFields (·.setIfInBounds 0 .none))).update a (Obj.mapFields (·.setIfInBounds 1 .none))).update a (Obj.mapFields (·.setIfInBounds 2 (.bool true))) }) ha₁ sb (OR.dead (f := f) (n := n) (sent := sent) u3)
    have D₂ := D₁.trans (Gd.upd (fa := fa) (s' := { s₁ with heap := ((s₁.heap.update a (Obj.mapFields (·.setIfInBounds 0 .none))).update a (Obj.mapFields (·.setIfInBounds 1 .none))).update a (Obj.mapFields (·.setIfInBounds 2 (.bool true))) }) ha₁ (r₁.live ℓ a ha₁).1 htb sb rfl rfl rfl)
    refine ci_stop hh fun h' k hz => ?_
    exact ⟨g₁, _, R₂.ext (s' := { s₁ with heap := h' }) k hz, D₂.trans (.ext k hz rfl rfl rfl), .inl ⟨rfl, hQ⟩⟩
  · rw [if_neg he] at hQ
    rw [if_pos (by simp [Ne.symm he])]
    refine wpAny_pure ⟨_, rfl, ?_⟩
    exact wpAny_pure ⟨g₁, σ₁, R₁, D₁, .inr ⟨ch, u, rfl, hQ⟩⟩
end
end
section
open Builtin

theorem slot_cii : Slot "callable_iterator" "__iter__" "callable_iterator.__iter__" :=
  Slot.of (T := "callable_iterator") (name := "__iter__") (owner := "callable_iterator") (n := "__iter__") ci_iter (by decide +kernel) (by decide +kernel) (by decide +kernel)
    (.inl (by decide +kernel)) (by rw [isSubtype_type]; kernel_rfl)
theorem entry_cii : entryFor table "callable_iterator.__iter__" = some Builtin.«dict_keyiterator.__iter__» := entryFor_alias (id' := "dict_keyiterator.__iter__") (by kernel_rfl) rfl (by decide +kernel) (by kernel_rfl)
theorem args_cii (a : Value) : argsOk "callable_iterator.__iter__" ⟨[a], []⟩ := by unfold argsOk; kernel_rfl
theorem entry_iter : entryFor table "iter" = some Builtin.«iter» := entryFor_of_tree (by kernel_rfl)
theorem kind_iter : builtinKind "iter" = none := by decide +kernel
theorem plain_iter : plainId "iter" = true := by decide +kernel
theorem args_iter2 (a b : Value) : argsOk "iter" ⟨[a, b], []⟩ := by unfold argsOk; kernel_rfl
theorem meth_call : typeLookup (.type "method") "__call__" = pure (some (.builtin "method.__call__")) := by rw [typeLookup_type, builtinLookup_eq_fast]; kernel_rfl
section
variable {C : Cx} {A : Around} {fm : Fm} {fa : List Addr} {loc : Loc} {σ : Hp} {g : Gh} {s : Shared} {Q Q' : MV → Hp → Prop} {QB : Bool → Hp → Prop} {QS : Fl → Loc → Hp → Prop}
theorem cal_iter2 {f : Addr} {n ℓ : Nat} {sent : Str} (hℓ : σ ℓ = none) (q : Q (.ref ℓ) (σ.set ℓ (.citer true f n sent))) : Cal C A fm (.builtin "iter") [.meth f n, .str sent] loc σ Q := by
  intro fa g s vs r hvs
  obtain ⟨x₁, x₂, rfl, hx, hy⟩ := hvs.inv2
  obtain ⟨t, rfl⟩ := hy.inv
  obtain ⟨a, b, rfl, hP, ho, hn⟩ := hx.inv
  have L0 : Looks (model C.prog C.w) s.heap (typeOf (.ref a)) (.type "method") := (Looks.ld ho).andThen .now
  refine Calls.call_function_entry kind_iter plain_iter entry_iter (args_iter2 _ _) ?_
  unfold Builtin.«iter» specialOf
  refine wpAny_bind (wpAny_pure (wpAny_bind (wpAny_bind (L0.here (wpAny_of_eq meth_call ?_)))))
  rw [if_neg (by decide)]
  refine wpAny_bind (wpAny_rule (wpAny_bind ?_))
  show wpAny _ _ (newObj (.type "callable_iterator") (.fields #[.ref a, .str sent t, .bool false])) _ _ _
  refine wpAny_newObj_type ?_ (by size_fits)
  refine wpAny_pure ⟨_, rfl, ?_⟩
  have hρ := r.gr.fresh hℓ
  have k : ∀ b o', s.heap.get? b = some o' → (s.heap.push (ciObj (.ref a) (.str sent t) (.bool false))).get? b = some o' := fun b o' e => Heap.get?_push_of_some _ e
  have hl : s.heap.objs.size < (s.heap.push (ciObj (.ref a) (.str sent t) (.bool false))).objs.size := by rw [Heap.size_push]; exact Nat.lt_succ_self _
  have e0 : Ge g (g.set ℓ s.heap.objs.size) s.heap s.heap := ge_set hρ
  refine ⟨_, .ref ℓ, _, r.new (s' := { s with heap := s.heap.push (ciObj (.ref a) (.str sent t) (.bool false)) }) hρ k (Nat.le_refl _) hl (.alive (Heap.get?_push_size _ rfl) (.meth hP (k _ _ ho) (e0.ρ _ _ hn))), .ref ?_, .new hρ k (Nat.le_refl _) hl rfl rfl rfl, q⟩
  show (if ℓ = ℓ then _ else _) = _
  rw [if_pos rfl]
noncomputable def Turn (C : Cx) (A : Around) (ℓ : Nat) (σ : Hp) (Q : Option Str → Hp → Prop) : Prop :=
  (∃ f n sent, σ ℓ = some (.citer false f n sent) ∧ Q none σ) ∨
  ∃ f n sent, σ ℓ = some (.citer true f n sent) ∧ (∃ o fd, C.K.lookup f = some o ∧ o.data = .func fd) ∧
    Fn C A.in1 (.ref f) [.ref n] σ fun m σ₁ => ∃ ch, m = .str ch ∧ σ₁ ℓ = some (.citer true f n sent) ∧ if ch = sent then Q none (σ₁.set ℓ (.citer false f n sent)) else Q (some ch) σ₁
theorem Turn.run {ℓ : Nat} {it : Value} {Q : Option Str → Hp → Prop} (hh : A.handled = none) (h : Turn C A ℓ σ Q) (r : Rel C g σ fm fa loc s) (hv : VR C g s.heap (.ref ℓ) it) : wpAny (model C.prog C.w) A (pyNext it) (PostN C fm fa loc g s Q) NoE s := by
  rcases h with ⟨f, n, sent, hσ, q⟩ | ⟨f, n, sent, hσ, ⟨o, fd, ho, hd⟩, q⟩
  · exact next_dead hh hσ q r hv
  · exact next_alive hh ho hd hσ q r hv
theorem ci_type {ℓ n : Nat} {a : Addr} {b : Bool} {f : Addr} {sent : Str} (r : GR C g σ s) (ha : g.ρ ℓ = some a) (hσ : σ ℓ = some (.citer b f n sent)) : s.TypeIs (.ref a) "callable_iterator" := by
  have ho := (r.obj ha hσ).inv
  cases b with
  | false => exact ⟨_, ho, rfl⟩
  | true => obtain ⟨_, _, ho, _⟩ := ho; exact ⟨_, ho, rfl⟩
inductive ForCI (C : Cx) (fm : Fm) (fa : List Addr) (g : Gh) (s : Shared) (ℓ : Nat) (a : Addr) (I : Nat → Loc → Hp → Prop) (k : Nat) (s' : Shared) : Prop
  | mk (g' : Gh) (l' : Loc) (σ' : Hp) (r : Rel C g' σ' fm fa l' s') (d : Gd C fa g s g' s') (ha : g'.ρ ℓ = some a) (hI : I k l' σ')
theorem ex_forC {x : Str} {p pos : Pos} {it : Expr} {body : List Stmt} {ℓ : Nat} (hh : A.handled = none) (I : Nat → Loc → Hp → Prop)
    (turn : ∀ k loc σ, I k loc σ → (∃ b f n sent, σ ℓ = some (.citer b f n sent)) ∧ Turn C A ℓ σ fun ch σ₁ => match ch with
      | none => QS .next loc σ₁
      | some ch => Exs C A fm body (loc.set x (.str ch)) σ₁ fun fl l σ₂ => match fl with
        | .next | .cont => ∃ m, m < k ∧ I m l σ₂
        | .brk => QS .next l σ₂
        | .ret v => QS (.ret v) l σ₂)
    (hx : canSt fm x) (k : Nat) (h : Ev C A fm it loc σ fun m σ₁ => m = .ref ℓ ∧ (∃ b f n sent, σ₁ ℓ = some (.citer b f n sent)) ∧ I k loc σ₁) (hs : ∀ x, foldedSetIterable it fm.env x = pure x := by intro _; rfl) :
    Ex C A fm (.For (.Name x p) it body [] pos) loc σ QS := fun fa g s r => by
  refine wpAny_For (wpAny_mono (h fa g s r) ?_ fun _ _ e => e) hs
  rintro v s₁ ⟨g₁, m, σ₁, r₁, hv, d₁, rfl, ⟨b, f, n, sent, hσ⟩, hI⟩
  obtain ⟨a, rfl, ha⟩ := hv.inv
  have hT := ci_type r₁.gr ha hσ
  refine wpAny_pyIter_slot hT slot_cii (wpAny_call_entry slot_cii hT entry_cii ?_ (args_cii _))
  show wpAny _ _ (ret (.ref a)) _ _ s₁
  refine wpAny_pure ⟨_, rfl, "callable_iterator", _, hT, slot_ci.lookup, ?_⟩
  refine codeAny_forLoop_any (ForCI C fm fa g s ℓ a I) (fun k s' hI => ?_) k ⟨g₁, loc, σ₁, r₁, d₁, ha, hI⟩
  obtain ⟨g', l', σ', r', d', ha', hI⟩ := hI
  refine wpAny_mono ((turn k l' σ' hI).2.run hh r' (.ref ha')) ?_ fun _ _ e => e.elim
  rintro res s₂ ⟨g₂, σ₂, r₂, d₂, hres⟩
  have dd := d'.trans d₂
  rcases hres with ⟨rfl, q⟩ | ⟨ch, t, rfl, q⟩
  · exact wpAny_execs_nil ⟨g₂, .next, l', σ₂, r₂, .next, dd, q⟩
  · refine wpAny_pure ?_
    refine wpAny_assign_Name (wpAny_mono (store_name r₂ (.str ch t) hx fun s₃ r₃ d₃ => ?_) (fun _ _ h => h) fun _ _ e => e.elim)
    refine wpAny_mono (q fa g₂ s₃ r₃) ?_ fun _ _ e => e.elim
    rintro fl s₄ ⟨g₄, fl', l₄, σ₄, r₄, hf, d₄, h₄⟩
    have d5 := dd.trans (d₃.trans d₄)
    have ha₄ := (d₂.trans (d₃.trans d₄)).ρ ℓ a ha'
    cases hf with
    | next => obtain ⟨m, hm, hi⟩ := h₄; exact ⟨m, hm, g₄, l₄, σ₄, r₄, d5, ha₄, hi⟩
    | cont => obtain ⟨m, hm, hi⟩ := h₄; exact ⟨m, hm, g₄, l₄, σ₄, r₄, d5, ha₄, hi⟩
    | brk => exact ⟨g₄, .next, l₄, σ₄, r₄, .next, d5, h₄⟩
    | ret hv => exact ⟨g₄, _, l₄, σ₄, r₄, .ret hv, d5, h₄⟩
end
end
section
noncomputable def CodeAt (K : Frag) (c P : Addr) : Prop := ∃ o vs file tf flags tg inF text tt, K.lookup c = some o ∧ o.cls = .type "code" ∧ o.data = .fields vs ∧ vs[11]? = some (.ref P) ∧ vs.getD 11 .none = .ref P ∧ vs.getD 18 .none = .str file tf ∧
    vs.getD 7 .none = .int flags tg ∧ vs.getD 9 .none = .bool inF ∧ vs.getD 10 .none = .int text tt
structure MkOk (K : Frag) (nm : Value) : Prop where
  bi : ∃ bm o, nsIn K mainGlobals "__builtins__" = some (some (.ref bm)) ∧ bm ≠ builtinsNs ∧ K.lookup bm = some o ∧ o.cls = .type "module" ∧ o.dict = some builtinsNs ∧ o.data = .plain
  nm : nsIn K mainGlobals "__name__" = some (some nm)
  ns : nsOkIn K mainGlobals = true
theorem codeAmong_app {pos : Pos} {a b : Nat} {c c' : Value} (l : List Value) (h : TriplesOk l) (hn : codeAmong pos (l ++ [rawInt a, rawInt b, c]) = some c') : codeAmong pos l = some c' ∨ (c' = c ∧ pos.line = a ∧ pos.col = b) := by
  fun_induction TriplesOk l with
  | case1 =>
    simp only [List.nil_append, codeAmong, rawInt] at hn
    split at hn
    · rename_i hc
      cases hn
      right
      simp only [Bool.and_eq_true, beq_iff_eq] at hc
      refine ⟨rfl, ?_, ?_⟩ <;> (first | lia | omega)
    · cases hn
  | case2 a' t b' u x rest ih =>
    simp only [List.cons_append, codeAmong] at hn ⊢
    split at hn
    · rename_i hc; rw [if_pos hc]; exact .inl hn
    · rename_i hc; rw [if_neg hc]; exact ih h hn
  | case3 l h1 h2 => exact h.elim
section
variable {C : Cx} {A : Around} {fm : Fm} {fa : List Addr} {loc : Loc} {σ : Hp} {g : Gh} {s : Shared}
theorem GR.grow {P c' : Addr} {a b : Nat} {ps : Array Value} {h' : Heap} {tk : Nat} (r : GR C g σ s) (hP : P ∈ C.tabs) (hps : s.heap.get? P = some (X.tableObj ps)) (hx : Heap.ExtBut P s.heap h') (hge : s.heap.objs.size ≤ c') (hlt : c' < h'.objs.size)
    (ht : h'.get? P = some (X.tableObj (ps ++ #[rawInt a, rawInt b, .ref c']))) (hrec : h'.CodeRec (.ref c') (C.tq P a b)) :
    GR C (g.pin c') σ { s with heap := h', toks := tk } ∧ Gd C [] g s (g.pin c') { s with heap := h', toks := tk } := by
  obtain ⟨hPN, vs, hvs, hok⟩ := r.tabs P hP
  rw [hps] at hvs
  have e1 : ps = vs := by injection hvs with e; injection e with _ _ e _; injection e
  subst e1
  have hs : s.heap.objs.size ≤ h'.objs.size := Nat.le_of_lt (Nat.lt_of_le_of_lt hge hlt)
  have hN : ∀ b, C.N0 ≤ b → b ≠ P := fun b h q => Nat.lt_irrefl _ (Nat.lt_of_lt_of_le hPN (q ▸ h))
  have e : Ge g (g.pin c') s.heap h' := ⟨fun _ _ e => e, fun _ e => .inr e, fun b o hp e => hx b o (hN b (r.P b hp).1) e⟩
  have hk : ∀ b o, b ∉ C.tabs → s.heap.get? b = some o → h'.get? b = some o := fun b o hb e => hx b o (fun q => hb (q ▸ hP)) e
  refine ⟨⟨r.lo, fun p hp => ⟨(r.K p hp).1, (r.K p hp).2.1, hk _ _ (r.K p hp).2.1 (r.K p hp).2.2⟩, ?_, Nat.le_trans r.size hs, fun n o h => ?_, r.inj, fun n b h => ?_, fun b h => ?_, fun q hb => ?_, r.dom⟩,
    ⟨fun b o h _ _ h3 => hk b o h3 h, fun b hb ps' h => ?_, hs, fun _ _ e => e, fun _ _ e => .inl e, fun _ e => .inr e, fun b h => h.elim (fun q => .inr (q ▸ hge)) .inl, rfl, rfl, id⟩⟩
  · refine r.lim.extBut hx ?_
    exact fun q => absurd (C.tlo P hP) (by rw [← q]; decide)
  · obtain ⟨b, hb, ho⟩ := r.heap n o h
    exact ⟨b, hb, ho.mono e fun ob q => hx _ _ (hN b (r.live n b hb).1) q⟩
  · obtain ⟨x, y, z⟩ := r.live n b h
    exact ⟨x, Nat.lt_of_lt_of_le y hs, fun q => q.elim (fun q => Nat.lt_irrefl _ (Nat.lt_of_lt_of_le y (q ▸ hge))) z⟩
  · rcases h with rfl | h
    · exact ⟨Nat.le_trans r.size hge, hlt⟩
    · exact ⟨(r.P b h).1, Nat.lt_of_lt_of_le (r.P b h).2 hs⟩
  · by_cases hbP : q = P
    · subst hbP
      refine ⟨hPN, _, ht, ?_, fun pos c₂ hc => ?_⟩
      · have := TriplesOk_snoc a b (.ref c') ps.toList hok.1
        simpa using this
      · have hc' : codeAmong pos (ps.toList ++ [rawInt a, rawInt b, .ref c']) = some c₂ := by simpa using hc
        rcases codeAmong_app _ hok.1 hc' with z | ⟨rfl, q1, q2⟩
        · exact (hok.mono e).2 pos c₂ z
        · exact ⟨c', rfl, .inl rfl, by rw [q1, q2]; exact hrec⟩
    · obtain ⟨x, vs, e', t⟩ := r.tabs q hb
      exact ⟨x, vs, hx _ _ hbP e', t.mono e⟩
  · by_cases hbP : b = P
    · subst hbP
      rw [hps] at h
      have e2 : ps = ps' := by injection h with e; injection e with _ _ e _; injection e
      subst e2
      exact ⟨_, ht⟩
    · exact ⟨#[], by rw [hx _ _ hbP h]; simp⟩
end
end
section
structure FdIs (fd : FuncData) (name qual : Str) (params : Arguments) (body : FuncBody) (scope : Scope) (cl : List (Str × Addr)) : Prop where
  name : fd.name = name
  qual : fd.qualname = qual
  params : fd.params = params
  body : fd.body = body
  scope : fd.scope = scope
  glob : fd.globals = mainGlobals
  clo : fd.closure = cl
  bi : fd.builtins = builtinsNs
  df : fd.defaults = .none
  kw : fd.kwdefaults = .none
noncomputable def noDoc : FuncBody → Prop
  | .stmts b => docOf b = none
  | .expr _ => True
section
variable {C : Cx} {A : Around} {σ : Hp} {g : Gh} {s : Shared}
theorem mk_code {name qual : Str} {params : Arguments} {body : FuncBody} {scope : Scope} {env : Env} {pos : Pos} {fl : Nat} {c P : Addr} {R : Value → Shared → Prop} (r : GR C g σ s) (hc : env.code = .ref c) (hca : CodeAt C.K c P) (hP : P ∈ C.tabs) (hq : C.tq P pos.line pos.col = qual)
    (h : ∀ g' s' c', GR C g' σ s' → Gd C [] g s g' s' → g'.P c' → s'.heap.CodeRec (.ref c') qual → R (.ref c') s') : wpAny (model C.prog C.w) A (functionCode env pos fl name qual params scope body) R NoE s := by
  obtain ⟨o, vs, file, tf, flags, tg, inF, text, tt, ho, hcls, hd, h11, h11', h18, h7, h9, h10⟩ := hca
  obtain ⟨hPN, ps, hps, htr, hok⟩ := r.tabs P hP
  have hne : c ≠ P := fun q => (r.K _ (mem_lookup ho)).2.1 (q ▸ hP)
  have ho' := r.KIn _ _ ho
  have hcode : s.heap.IsCode c P ps := ⟨o, vs, file, tf, flags, tg, inF, text, tt, _, ho', hd, h11', h18, h7, h9, h10, hps, rfl, htr, hne⟩
  cases hf : codeAmong pos ps.toList with
  | some c' =>
    obtain ⟨c'', rfl, hp, hrec⟩ := hok pos c' hf
    exact wpAny_functionCode_hit hc hcode hf (h g s c'' r (.refl ..) hp (hq ▸ hrec))
  | none =>
    refine wpAny_functionCodeX hc hcode ⟨⟨o, vs, ho', hcls, hd, h11⟩, hps⟩ hf fun c' h' tk hx hge hlt _ hrec htab _ => ?_
    obtain ⟨r', d'⟩ := r.grow (tk := tk) hP hps hx hge hlt htab.2 (hq ▸ hrec)
    exact h _ _ c' r' d' (.inl rfl) hrec
theorem mk_fn {name qual : Str} {params : Arguments} {body : FuncBody} {scope : Scope} {env : Env} {pos : Pos} {fl : Nat} {c P : Addr} {nm : Value} {R : Value → Shared → Prop} (r : GR C g σ s) (M : MkOk C.K nm) (hgl : env.globals = mainGlobals) (hc : env.code = .ref c) (hca : CodeAt C.K c P) (hP : P ∈ C.tabs)
    (hq : C.tq P pos.line pos.col = qual) (hdoc : noDoc body) (hfree : ∀ n, (n, NameKind.free) ∈ scope.names → ∃ c, env.cells.lookup n = some c)
    (h : ∀ g' s' a fd, GR C g' σ s' → Gd C [] g s g' s' → s.heap.objs.size ≤ a → a < s'.heap.objs.size → s'.heap.get? a = some ⟨.type "function", none, .func fd, #[]⟩ → FdIs fd name qual params body scope (clOf scope env) →
      (∃ c', fd.code = .ref c' ∧ g'.P c' ∧ s'.heap.CodeRec (.ref c') qual) → ¬ g'.P a → (∀ n, g'.ρ n ≠ some a) → R (.ref a) s') :
    wpAny (model C.prog C.w) A (makeFunction name qual params body scope env [] [] [] pos fl) R NoE s := by
  have hcl := closureFor_eq hfree
  simp only [makeFunction, List.zip_nil_right, List.filterMap_nil, List.isEmpty_nil, if_true, pure_bind, hcl]
  have main : ∀ (ct : Value) (s₁ : Shared), GR C g σ s₁ → Gd C [] g s g s₁ → wpAny (model C.prog C.w) A (do
      let fd : FuncData := { name, qualname := qual, params, body, scope, globals := env.globals, closure := clOf scope env, closureTuple := ct,
                             code := ← functionCode env pos fl name qual params scope body, builtins := ← builtinsFor env.globals env.builtins,
                             defaults := .none, kwdefaults := .none, annotations := none, pyModule := (← nsGet env.globals "__name__").getD .none,
                             doc := ← match body with
                               | .stmts b => (match docOf b with | some s => mkText s | none => pure .none)
                               | .expr _ => pure .none }
      newObj (.type "function") (.func fd)) R NoE s₁ := by
    intro ct s₁ r₁ d₁
    refine wpAny_bind (mk_code r₁ hc hca hP hq fun g₂ s₂ c' r₂ d₂ hp hrec => ?_)
    refine via_p fun P kP => ?_
    obtain ⟨bm, o, e1, e2, e3, e4, e5, e6⟩ := M.bi
    refine kP ?_
    clear kP P
    have hg : s₂.heap.Ns mainGlobals (s₂.heap.nsMap mainGlobals) := .of_isNs (isNs_of_in r₂.KIn M.ns)
    rw [hgl]
    refine wpAny_bind (wpAny_builtinsFor hg (mg_of r₂.KIn hg e1) e2 (r₂.KIn _ _ e3) e4 e5 e6 ?_)
    refine wpAny_bind (wpAny_nsGet hg ?_)
    have fin : ∀ fd : FuncData, FdIs fd name qual params body scope (clOf scope env) → fd.code = .ref c' → wpAny (model C.prog C.w) A (newObj (.type "function") (.func fd)) R NoE s₂ := by
      intro fd hfd hcd
      refine wpAny_newObj_type ?_ (by size_fits)
      obtain ⟨r₃, d₃⟩ := r₂.push (fa := []) { cls := .type "function", data := .func fd } s₂.toks
      have dd := d₁.trans (d₂.trans d₃)
      refine h g₂ _ s₂.heap.objs.size fd r₃ dd (Nat.le_trans d₁.size d₂.size) (by show _ < (s₂.heap.push _).objs.size; rw [Heap.size_push]; exact Nat.lt_succ_self _) (Heap.get?_push_size _ rfl) hfd ⟨c', hcd, hp, hrec.push _⟩
        (fun q => Nat.lt_irrefl _ (r₂.P _ q).2) fun n q => Nat.lt_irrefl _ (r₂.live n _ q).2.1
    cases body with
    | stmts b =>
      have hb : docOf b = none := hdoc
      simp only [hb]
      exact wpAny_bind (wpAny_pure (fin _ ⟨rfl, rfl, rfl, rfl, rfl, rfl, rfl, rfl, rfl, rfl⟩ rfl))
    | expr e => exact wpAny_bind (wpAny_pure (fin _ ⟨rfl, rfl, rfl, rfl, rfl, rfl, rfl, rfl, rfl, rfl⟩ rfl))
  cases he : (clOf scope env).isEmpty with
  | true => simp only [if_true, pure_bind]; exact main .none s r (.refl ..)
  | false =>
    simp only [Bool.false_eq_true, if_false]
    refine wpAny_bind (wpAny_newTextTuple ?_)
    obtain ⟨r₁, d₁⟩ := r.push (fa := []) { cls := .type "tuple", data := .seq (((clOf scope env).mergeSort fun a b => a.1.cps.toList ≤ b.1.cps.toList).map (Value.ref ·.2)).toArray } s.toks
    exact main _ _ r₁ d₁
end
end
section
open Builtin Builtin.ObjectAttr

theorem mro_function : mroOf (.type "function") = pure [.type "function", .type "object"] := by kernel_rfl
theorem refuse_function (self : Value) : refuseLoop self "__setattr__" [.type "function", .type "object"] = pure () := by kernel_rfl
theorem fun_set {prog : Program} {w : World} {A : Around} {E : Value → Shared → Prop} {R : Unit → Shared → Prop} {s : Shared} {f : Addr} {fd : FuncData} {u : Value} {sl : Array (Option Value)}
  (hf : s.heap.get? f = some ⟨.type "function", none, .func fd, sl⟩)
  (hq : ∀ h' tk m, h'.get? f = some ⟨.type "function", some s.heap.objs.size, .func fd, sl⟩ → h'.Ns1 s.heap.objs.size m → m "read" = some u → (∀ b o, b ≠ f → s.heap.get? b = some o → h'.get? b = some o) → h'.objs.size = s.heap.objs.size + 1 → R () { s with heap := h', toks := tk }) :
  wpAny (model prog w) A (setAttr (.ref f) "read" u) R E s := by
  have hT : ∀ t, Shared.TypeIs { s with toks := t } (.ref f) "function" := fun t => ⟨_, hf, rfl⟩
  have L0 : Looks (model prog w) s.heap (typeOf (.ref f)) (.type "function") := (Looks.ld hf).andThen .now
  unfold setAttr
  refine wpAny_bind (wpAny_mkText (wpAny_bind (wpAny_callSpecial?_slot (name := Str.ofString "__setattr__") (hT _) slot_fsa (wpAny_call_entry slot_fsa (hT _) PySem.F.store_object.entry ?_ (PySem.F.store_object.args _ _ _)))))
  rw [osa_eq, refuse_eq]
  refine wpAny_bind (wpAny_bind (L0 _ _ _ { s with toks := s.toks + 1 } (fun _ _ e => e) (wpAny_bind (wpAny_of_eq mro_function ?_))))
  rw [refuse_function]
  refine wpAny_pure (wpAny_bind (L0 _ _ _ { s with toks := s.toks + 1 } (fun _ _ e => e) (wpAny_bind (wpAny_of_eq fg_read (wpAny_bind (wpAny_pure ?_))))))
  dsimp only
  unfold storeInOwnDict
  refine wpAny_bind (wpAny_pure ?_)
  rw [if_neg (by decide +kernel)]
  refine wpAny_bind ?_
  show wpAny _ _ (instanceDict f true) _ _ _
  unfold instanceDict
  refine wpAny_bind (wpAny_loadPart (s := { s with toks := s.toks + 1 }) hf ?_)
  dsimp only
  rw [if_neg (by decide +kernel)]
  refine wpAny_bind (wpAny_alloc' ?_)
  have hfs : f ≠ s.heap.objs.size := Nat.ne_of_lt (Heap.lt_size hf)
  have hx₁ : (s.heap.push { cls := .type "dict", data := .dict #[] }).get? f = some ⟨.type "function", none, .func fd, sl⟩ := Heap.get?_push_of_some _ hf
  refine wpAny_bind (wpAny_update' hx₁ ?_)
  refine wpAny_pure ?_
  have hgd : ((s.heap.push { cls := .type "dict", data := .dict #[] }).update f fun o => { cls := o.cls, dict := some s.heap.objs.size, data := o.data, slots := o.slots }).get? s.heap.objs.size
      = some { cls := .type "dict", data := .dict #[] } := (Heap.get?_update_ne _ _ _ _ hfs.symm).trans (Heap.get?_push_at rfl rfl)
  have hnd : ((s.heap.push { cls := .type "dict", data := .dict #[] }).update f fun o => { cls := o.cls, dict := some s.heap.objs.size, data := o.data, slots := o.slots }).Ns s.heap.objs.size (fun _ => none) :=
    ⟨_, #[], _, hgd, rfl, fun e he => absurd he (by simp), fun _ => rfl⟩
  show wpAny _ _ (storeInDict s.heap.objs.size (.str "read" s.toks) "read" u) _ _ _
  unfold storeInDict newKeyGuard
  refine wpAny_bind (wpAny_pure (wpAny_bind (wpAny_nsSet1 (Heap.Ns1.of_empty hnd) fun h' hn' hs => ?_)))
  refine via_p fun P kP => ?_
  obtain ⟨oD, esD, epD, hoD, hdD, hcD⟩ := hn'.count (Within.cons "read" u Within.nil)
  refine kP ?_
  clear kP P
  refine wpAny_bind (wpAny_lookBehind hoD (by rw [hdD]; exact pastItsLine_dict (Nat.le_trans hcD (by rw [List.length_cons, List.length_nil, sizeLine_eq]; (first | lia | omega)))) ?_)
  refine wpAny_pure ⟨_, rfl, wpAny_pure (hq h' _ _ ?_ hn' (by simp) (fun b o hb e => ?_) ?_)⟩
  · refine (hs.2 f hfs).trans (Heap.get?_update_self _ hx₁ rfl)
  · exact (hs.2 b (Nat.ne_of_lt (Heap.lt_size e))).trans ((Heap.get?_update_ne _ _ _ _ hb).trans (Heap.get?_push_of_some _ e))
  · rw [hs.1]; show ((s.heap.push _).update f _).objs.size = _; rw [size_update, Heap.size_push]
end
section
section
variable {C : Cx} {A : Around} {σ : Hp} {g : Gh} {s : Shared} {Q : MV → Hp → Prop}
theorem fn_defR {f : Addr} {qual : Str} {params : Arguments} {body : List Stmt} {scope : Scope} {code : Value} {ps : List Str} {ms : List MV} (F : FnAt C.K f qual params body scope code)
    (hbind : ∀ (fd : FuncData) vs, fd.params = params → fd.defaults = .none → fd.kwdefaults = .none → vs.length = ps.length → bindArgs fd ⟨vs, []⟩ = pure (ps.zip vs)) (hlen : ms.length = ps.length)
    (hkind : ∀ p ∈ ps, scope.names.lookup p = some .local ∨ (p, NameKind.cell) ∈ scope.names ∧ scope.names.lookup p = some .cell) (hown : ∀ x ∈ ownOf scope, scope.names.lookup x = some .cell) (hnf : ∀ x ∈ scope.names, x.2 ≠ .free)
    (hroom : A.depth < recursionLimit) (hco : scope.isCoroutine = false) (hgen : scope.isGenerator = false) (hk : scope.kind = .function)
    (h : ∀ L fa g s g₀ s₀, Rel C g σ ⟨envC scope qual code f L, ownOf scope⟩ fa (locOf ps ms) s → Gd C fa g₀ s₀ g s → (∀ a ∈ fa, s₀.heap.objs.size ≤ a) →
      wpAny (model C.prog C.w) (A.deeper (envC scope qual code f L)) (execs body (envC scope qual code f L)) (fun fl s' => ∃ g' fl' σ', GR C g' σ' s' ∧ FlR C g' s'.heap fl' fl ∧ Gd C [] g₀ s₀ g' s' ∧ Q (retOf fl') σ') NoE s) : Fn C A (.ref f) ms σ Q := by
  intro g s vs r hvs
  refine via_p fun P kP => ?_
  obtain ⟨⟨o, fd, ho, hd, rfl, rfl, hb, rfl, hgl, hcl, rfl, hbi, hdf, hkw⟩, hcd⟩ := F
  refine kP ?_
  clear kP P
  have hL : callEnvC fd s.heap.objs.size f = envC fd.scope fd.qualname fd.code f s.heap.objs.size := by unfold callEnvC envC; rw [hgl, hbi]
  refine codeAny_call_cells hroom (r.KIn _ _ ho) hd r.lim (codeRec_of r.KIn hcd) hb (hbind fd vs rfl hdf hkw (by rw [← hvs.length]; exact hlen)) hcl (fun x hx => ?_) (fun s₁ x => ?_) hco hgen hk
  · have hm := (List.of_mem_zip (a := x.1) (b := x.2) hx).1
    rcases hkind x.1 hm with q | ⟨q, q'⟩
    · exact .inl q
    · exact .inr ⟨q', lookup_cellsFrom _ _ _ _ (.inl q)⟩
  rw [hL] at x ⊢
  generalize hE : envC fd.scope fd.qualname fd.code f s.heap.objs.size = env at x ⊢
  have hscope : env.scope = fd.scope := by rw [← hE]; rfl
  have hloc : env.locals = s.heap.objs.size := by rw [← hE]; rfl
  have hkd : ∀ y, env.kindOf y = fd.scope.names.lookup y := fun y => by unfold Env.kindOf; rw [hscope]
  refine via_p fun P kP => ?_
  obtain ⟨⟨⟨h', tk, rfl⟩, hns, keep, fresh⟩, hcell, hap, habove⟩ := x
  refine kP ?_
  clear kP P
  have hs : s.heap.objs.size < h'.objs.size := hloc ▸ hns.lt
  let fa : List Addr := env.locals :: (ownOf fd.scope).filterMap fun x => env.cells.lookup x
  have hfa : ∀ a ∈ fa, s.heap.objs.size ≤ a ∧ a < h'.objs.size := by
    intro a ha
    rcases List.mem_cons.mp ha with rfl | ha
    · rw [hloc]; exact ⟨Nat.le_refl _, hs⟩
    · obtain ⟨x, hx, hc⟩ := List.mem_filterMap.mp ha
      exact ⟨Nat.le_trans (Nat.le_of_eq hloc.symm) (Nat.le_of_lt (habove x a (mem_of_lookup hc))), (hcell x a hc).lt⟩
  have hin : ∀ y c, env.cells.lookup y = some c → y ∈ ownOf fd.scope := fun y c e => by
    have e' : ((cellsFrom (s.heap.objs.size + 1) fd.scope.names []).lookup y).isSome = true := by
      have : (cellsFrom (s.heap.objs.size + 1) fd.scope.names []).lookup y = some c := by rw [← hE] at e; exact e
      rw [this]; rfl
    rcases mem_cellsFrom _ _ _ _ e' with q | q
    · exact List.mem_map.mpr ⟨(y, .cell), List.mem_filter.mpr ⟨q, rfl⟩, rfl⟩
    · cases q
  have r' : Rel C g σ ⟨env, ownOf fd.scope⟩ fa (locOf ps ms) { s with heap := h', toks := tk } := by
    have q := r.ext (s' := { s with heap := h', toks := tk }) keep (Nat.le_of_lt hs)
    have hg : Ge g g s.heap h' := ⟨fun _ _ e => e, fun _ e => e, fun a o _ e => keep a o e⟩
    refine ⟨q, by rw [hscope]; exact hk, by rw [← hE]; rfl, by rw [← hE]; rfl, ⟨_, hns⟩, .head _, fun y v e => ?_, fun y c e => ?_, fun y hy => ?_, fun y z c e e' => ?_, fun a ha => ?_, fun y hy => ?_⟩
    · obtain ⟨u, hu, hv⟩ := bind_holds (kind := env.kindOf) (m := fun _ => none) (cm := fun _ => none) hvs (fun _ _ e => by cases e) (fun p hp => by
        rw [hkd]; rcases hkind p hp with q | ⟨_, q⟩
        · exact .inl q
        · exact .inr q) y v e
      refine ⟨u, ?_, hv.mono hg⟩
      rcases hu with ⟨k1, k2⟩ | ⟨k1, k2⟩
      · exact .inl ⟨k1, _, hns, k2⟩
      · have : ((cellsFrom (s.heap.objs.size + 1) fd.scope.names []).lookup y).isSome = true := lookup_cellsFrom _ _ _ _ (.inl (mem_of_lookup (by rw [← hkd]; exact k1)))
        obtain ⟨c, hc⟩ := Option.isSome_iff_exists.mp this
        have hc' : env.cells.lookup y = some c := by rw [← hE]; exact hc
        exact .inr ⟨.inl k1, c, hc', k2 ▸ hcell y c hc'⟩
    · have hm : c ∈ fa := .tail _ (List.mem_filterMap.mpr ⟨y, hin y c e, e⟩)
      obtain ⟨f1, f2⟩ := hfa c hm
      refine ⟨⟨_, hcell y c e⟩, Nat.ne_of_gt (habove y c (mem_of_lookup e)), Nat.le_trans r.size f1, fun n hn => Nat.lt_irrefl _ (Nat.lt_of_lt_of_le (r.live n c hn).2.1 f1), fun hno => ?_⟩
      exact absurd (hin y c e) hno
    · obtain ⟨p, hp, rfl⟩ := List.mem_map.mp hy
      obtain ⟨hp1, hp2⟩ := List.mem_filter.mp hp
      have hp3 : p.2 = NameKind.cell := by simpa using hp2
      have : ((cellsFrom (s.heap.objs.size + 1) fd.scope.names []).lookup p.1).isSome = true := lookup_cellsFrom _ _ _ _ (.inl (hp3 ▸ hp1))
      obtain ⟨c, hc⟩ := Option.isSome_iff_exists.mp this
      have hc' : env.cells.lookup p.1 = some c := by rw [← hE]; exact hc
      exact ⟨by rw [hkd]; exact hown _ hy, c, hc', .tail _ (List.mem_filterMap.mpr ⟨p.1, hy, hc'⟩)⟩
    · exact name_of_addr hap (mem_of_lookup e) (mem_of_lookup e')
    · obtain ⟨f1, f2⟩ := hfa a ha
      exact ⟨Nat.le_trans r.size f1, f2, fun hp => Nat.lt_irrefl _ (Nat.lt_of_lt_of_le (r.P a hp).2 f1), fun n hn => Nat.lt_irrefl _ (Nat.lt_of_lt_of_le (r.live n a hn).2.1 f1)⟩
    · rcases hy with hy | hy
      · have : ((cellsFrom (s.heap.objs.size + 1) fd.scope.names []).lookup y).isSome = true := lookup_cellsFrom _ _ _ _ (.inl (mem_of_lookup (by rw [← hkd]; exact hy)))
        obtain ⟨c, hc⟩ := Option.isSome_iff_exists.mp this
        exact ⟨c, by rw [← hE]; exact hc⟩
      · exact absurd rfl (hnf (y, .free) (mem_of_lookup (by rw [← hkd]; exact hy)))
  have d0 : Gd C fa g s g { s with heap := h', toks := tk } := .ext keep (Nat.le_of_lt hs) rfl rfl rfl
  have hx := h s.heap.objs.size
  rw [hE] at hx
  refine wpAny_mono (hx fa g _ g s r' d0 fun a ha => (hfa a ha).1) ?_ fun _ _ e => e.elim
  rintro fl s₂ hX2
  refine via_p fun P kP => ?_
  obtain ⟨g₂, fl', σ₂, r₂, hf, d1, q⟩ := hX2
  refine kP ?_
  clear kP P
  cases hf with
  | next => exact ⟨_, g₂, .none, σ₂, rfl, r₂, .none, d1, q⟩
  | brk => exact ⟨_, g₂, .none, σ₂, rfl, r₂, .none, d1, q⟩
  | cont => exact ⟨_, g₂, .none, σ₂, rfl, r₂, .none, d1, q⟩
  | ret hv => exact ⟨_, g₂, _, σ₂, rfl, r₂, hv, d1, q⟩
end
section
variable {C : Cx} {A : Around} {fm : Fm} {fa : List Addr} {loc : Loc} {σ : Hp} {g : Gh} {s : Shared}
noncomputable def Gh.pins (g : Gh) (cs : List Addr) : Gh := ⟨g.ρ, fun b => b ∈ cs ∨ g.P b⟩
theorem ge_pins (cs : List Addr) (h : Heap) : Ge g (g.pins cs) h h := ⟨fun _ _ e => e, fun _ e => .inr e, fun _ _ _ e => e⟩
theorem Rel.pins {cs : List Addr} (r : Rel C g σ fm fa loc s) (h : ∀ c ∈ cs, C.N0 ≤ c ∧ c < s.heap.objs.size ∧ ∀ n, g.ρ n ≠ some c) (hL : fm.env.locals ∉ cs) : Rel C (g.pins cs) σ ⟨fm.env, []⟩ [fm.env.locals] loc s := by
  have e := ge_pins (g := g) cs s.heap
  refine ⟨⟨r.gr.lo, r.gr.K, r.gr.lim, r.gr.size, fun n o h => ?_, r.gr.inj, fun n a hn => ?_, fun a ha => ?_, fun a ha => ?_, r.gr.dom⟩, ⟨r.fr.fn, r.fr.glob, r.fr.bi, r.fr.ns, .head _, fun x v hx => ?_, fun x c hx => ?_, (fun x hx => nomatch hx), r.fr.inj, fun a ha => ?_, r.fr.has⟩⟩
  · obtain ⟨a, ha, ho⟩ := r.gr.heap n o h; exact ⟨a, ha, ho.mono e fun _ e => e⟩
  · obtain ⟨x, y, z⟩ := r.gr.live n a hn; exact ⟨x, y, fun q => q.elim (fun q => (h a q).2.2 n hn) z⟩
  · rcases ha with ha | ha
    · exact ⟨(h a ha).1, (h a ha).2.1⟩
    · exact r.gr.P a ha
  · obtain ⟨x, vs, q, t⟩ := r.gr.tabs a ha; exact ⟨x, vs, q, t.mono e⟩
  · obtain ⟨u, hu, hv⟩ := r.fr.var x v hx; exact ⟨u, hu, hv.mono e⟩
  · obtain ⟨c0, c1, c2, c3, _⟩ := r.fr.cells x c hx; exact ⟨c0, c1, c2, c3, fun _ q => c1 (List.mem_singleton.mp q)⟩
  · rw [List.mem_singleton.mp ha]
    obtain ⟨x, y, z, w⟩ := r.fr.fa _ r.fr.L
    exact ⟨x, y, fun q => q.elim hL z, w⟩
theorem Gd.pins {fb : List Addr} {cs : List Addr} {g₀ : Gh} {s₀ : Shared} (d : Gd C fb g₀ s₀ g s) (h : ∀ c ∈ cs, s₀.heap.objs.size ≤ c) : Gd C fb g₀ s₀ (g.pins cs) s :=
  ⟨d.keep, d.tabs, d.size, d.ρ, d.ρn, fun a h => .inr (d.P a h), fun a q => q.elim (fun q => .inr (h a q)) (d.Pn a), d.os, d.drawn, d.gens⟩
end
end
section
section
variable {C : Cx} {A : Around} {fm : Fm} {fa : List Addr} {loc : Loc} {σ : Hp} {g : Gh} {s : Shared}
theorem Gd.obj {a : Addr} {o : Obj} {fb : List Addr} {g' : Gh} {s' : Shared} (d : Gd C fb g s g' s') (r : GR C g σ s) (e : s.heap.get? a = some o) (hN : C.N0 ≤ a) (hl : ∀ n, g.ρ n ≠ some a) (hb : a ∉ fb) : s'.heap.get? a = some o ∧ ∀ n, g'.ρ n ≠ some a :=
  ⟨d.keep a o e hl hb fun q => Nat.lt_irrefl _ (Nat.lt_of_lt_of_le (r.tabs a q).1 hN), fun n q => (d.ρn n a q).elim (hl n) fun w => Nat.lt_irrefl _ (Nat.lt_of_lt_of_le (Heap.lt_size e) w)⟩
theorem rd_make {c P : Addr} {nm : Value} {x rn : Str} {n : Nat} {rp la : Arguments} {rb : List Stmt} {rs ls : Scope} {pos1 pos2 pos3 p2 p3 p3' p4 lpos : Pos} {lb : Expr} {rest : List Stmt} {R : Flow → Shared → Prop} {g₀ : Gh} {s₀ : Shared}
    (M : MkOk C.K nm) (hc : fm.env.code = .ref c) (hca : CodeAt C.K c P) (hP : P ∈ C.tabs) (hexec : PlainDefTree rn rp rb rs pos1) (hq1 : C.tq P pos1.line pos1.col = qualnameIn fm.env rn rn) (hq2 : C.tq P lpos.line lpos.col = fm.env.qual ++ "<lambda>")
    (hdoc : docOf rb = none) (hdef : defaultsOf la fm.env = ([], [])) (hfr1 : ∀ y, (y, NameKind.free) ∈ rs.names → y = "text" ∨ y = "at") (hfr2 : ∀ y, (y, NameKind.free) ∉ ls.names)
    (hclo : ∀ ct cx, fm.env.cells.lookup ("text" : Str) = some cx → fm.env.cells.lookup ("at" : Str) = some ct → (clOf rs fm.env).lookup ("text" : Str) = some cx ∧ (clOf rs fm.env).lookup ("at" : Str) = some ct ∧ ∀ y c, (clOf rs fm.env).lookup y = some c → (y = "text" ∧ c = cx) ∨ (y = "at" ∧ c = ct))
    (hrd : ∀ fd, FdIs fd rn (qualnameIn fm.env rn rn) rp (.stmts rb) rs (clOf rs fm.env) → C.rd fd) (kt : ("text" : Str) ∈ fm.own) (ka : ("at" : Str) ∈ fm.own) (kr : fm.env.kindOf rn = some .local) (ks : fm.env.kindOf "stream" = some .local)
    (hrs : rn ≠ "stream") (hrt : rn ≠ "text") (hra : rn ≠ "at") (hdb : (rn == ("__debug__" : Str)) = false) (hcd : (rn == ("__classdict__" : Str)) = false) (ht : loc "text" = some (.str x)) (ha : loc "at" = some (.ref n)) (r : Rel C g σ fm fa loc s) (d : Gd C fa g₀ s₀ g s) (hfa : ∀ a ∈ fa, s₀.heap.objs.size ≤ a)
    (cont : ∀ g' s' v, Rel C g' σ ⟨fm.env, []⟩ [fm.env.locals] ((loc.set rn (.val v)).set "stream" (.strm x n)) s' → Gd C fa g₀ s₀ g' s' → wpAny (model C.prog C.w) A (execs rest fm.env) R NoE s')
    (hs2 : swapsWith (.Lambda la lb ls lpos) (some (.Name "stream" p2)) pos2.line fm.env = pure false := by rfl) (hs3 : swapsWith (.Name rn p4) (some (.Attribute (.Name "stream" p3) "read" p3')) pos3.line fm.env = pure false := by rfl) :
    wpAny (model C.prog C.w) A (execs (.FunctionDef rn rp rb [] none [] rs none rn pos1 :: .Assign [.Name "stream" p2] (.Lambda la lb ls lpos) pos2 :: .Assign [.Attribute (.Name "stream" p3) "read" p3'] (.Name rn p4) pos3 :: rest) fm.env) R NoE s := by
  have hcells : ∀ y, (y, NameKind.free) ∈ rs.names → ∃ c, fm.env.cells.lookup y = some c := fun y hy => by
    rcases hfr1 y hy with rfl | rfl
    · obtain ⟨_, c, h, _⟩ := r.fr.own _ kt; exact ⟨c, h⟩
    · obtain ⟨_, c, h, _⟩ := r.fr.own _ ka; exact ⟨c, h⟩
  have hout : ∀ {a}, s.heap.objs.size ≤ a → a ∉ fa := fun h q => Nat.lt_irrefl _ (Nat.lt_of_lt_of_le (r.fr.fa _ q).2.1 h)
  refine wpAny_execs_cons ?_
  rw [hexec]
  refine wpAny_bind (wpAny_standAt (wpAny_bind (wpAny_holding (mk_fn r.gr M r.fr.glob hc hca hP hq1 hdoc hcells fun g₁ s₁ af fd r₁ d₁ hge hlt hf hfd hcode hPf hlf => wpAny_bind (wpAny_standAt (wpAny_bind (wpAny_bindName ?_)))))))
  have R₁ := r.call r₁ d₁
  have hNf : C.N0 ≤ af := Nat.le_trans r.gr.size hge
  refine store_name R₁ (m := .val (.ref af)) (.val _) (.inl kr) fun s₂ R₂ d₂ => wpAny_pure ?_
  obtain ⟨hf₂, hlf₂⟩ := d₂.obj R₁.gr hf hNf hlf (hout hge)
  refine wpAny_execs_cons (wpAny_Assign_Name ?_ hs2)
  rw [arm_eval_Lambda, hdef]
  refine wpAny_bind (wpAny_pure (wpAny_bind (wpAny_holding (wpAny_pure ?_))))
  refine mk_fn R₂.gr M r.fr.glob hc hca hP hq2 trivial (fun y hy => absurd hy (hfr2 y)) fun g₃ s₃ al fl r₃ d₃ hgel hltl hl hfl hcodel hPl hll => ?_
  have R₃ := R₂.call r₃ d₃
  have hgel' : s.heap.objs.size ≤ al := Nat.le_trans (d₁.size) (Nat.le_trans d₂.size hgel)
  have hNl : C.N0 ≤ al := Nat.le_trans r.gr.size hgel'
  obtain ⟨hf₃, hlf₃⟩ := d₃.obj R₂.gr hf₂ hNf hlf₂ (fun q => nomatch q)
  refine store_name R₃ (m := .val (.ref al)) (.val _) (.inl ks) fun s₄ R₄ d₄ => ?_
  obtain ⟨hf₄, hlf₄⟩ := d₄.obj R₃.gr hf₃ hNf hlf₃ (hout hge)
  obtain ⟨hl₄, hll₄⟩ := d₄.obj R₃.gr hl hNl hll (hout hgel')
  have hne : af ≠ al := fun q => by
    have := Heap.lt_size hf₂
    exact Nat.lt_irrefl _ (Nat.lt_of_lt_of_le this (q ▸ hgel))
  obtain ⟨uf, huf, hvf⟩ := R₄.fr.var rn (.val (.ref af)) (by show (if rn = "stream" then _ else if rn = rn then _ else _) = _; rw [if_neg hrs, if_pos rfl])
  obtain rfl := hvf.inv
  obtain ⟨ul, hul, hvl⟩ := R₄.fr.var "stream" (.val (.ref al)) (by show (if ("stream" : Str) = "stream" then _ else _) = _; rw [if_pos rfl])
  obtain rfl := hvl.inv
  refine wpAny_execs_cons (plainObj_wpAny_Assign_Attribute ?_ hs3)
  refine wpAny_Name (huf.load r.fr.fn ?_ hcd) hdb
  refine wpAny_Name (hul.load r.fr.fn ?_) (by decide)
  refine fun_set hl₄ fun h' tk m hl₅ hns hm hk hsz => ?_
  have hdx : C.N0 ≤ s₄.heap.objs.size := R₄.gr.size
  have hFree : Free C g₃ [al] := fun b hb => by rw [List.mem_singleton.mp hb]; exact ⟨hNl, hll₄, hPl⟩
  obtain ⟨gr₅, d₅⟩ := R₄.gr.loop (tk := tk) hFree (h' := h') (fun b o hb e => hk b o (fun q => hb (by rw [q]; exact .head _)) e) (by rw [hsz]; exact Nat.le_succ _)
  have R₅ := R₄.step gr₅ d₅ (fun b hb => by
    rw [List.mem_singleton.mp hb]
    exact r.apart hgel') fun b hb => (hFree b hb).2.2
  have hf₅ := hk af _ hne hf₄
  obtain ⟨ut, hut, hvt⟩ := R₅.fr.var "text" (.str x) (by show (if ("text" : Str) = "stream" then _ else if ("text" : Str) = rn then _ else loc "text") = _; rw [if_neg (by decide), if_neg (Ne.symm hrt), ht])
  obtain ⟨t, rfl⟩ := hvt.inv
  obtain ⟨ua, hua, hva⟩ := R₅.fr.var "at" (.ref n) (by show (if ("at" : Str) = "stream" then _ else if ("at" : Str) = rn then _ else loc "at") = _; rw [if_neg (by decide), if_neg (Ne.symm hra), ha])
  obtain ⟨b, rfl, hρ⟩ := hva.inv
  obtain ⟨kt', ct0, hct0, hctf⟩ := R₅.fr.own _ kt
  obtain ⟨ka', ca0, hca0, hcaf⟩ := R₅.fr.own _ ka
  have hcx : ∃ cx, fm.env.cells.lookup ("text" : Str) = some cx ∧ h'.IsCell cx (some (.str x t)) := by
    rcases hut with ⟨q, _⟩ | ⟨_, c, h1, h2⟩
    · rw [kt'] at q; cases q
    · exact ⟨c, h1, h2⟩
  have hcta : ∃ ct, fm.env.cells.lookup ("at" : Str) = some ct ∧ h'.IsCell ct (some (.ref b)) := by
    rcases hua with ⟨q, _⟩ | ⟨_, c, h1, h2⟩
    · rw [ka'] at q; cases q
    · exact ⟨c, h1, h2⟩
  obtain ⟨cx, hcx1, hcx2⟩ := hcx
  obtain ⟨ct, hct1, hct2⟩ := hcta
  rw [hct0] at hcx1; cases hcx1
  rw [hca0] at hct1; cases hct1
  have hctx : ca0 ≠ ct0 := fun q => absurd (R₅.fr.inj "at" "text" ca0 hca0 (q ▸ hct0)) (by decide)
  obtain ⟨c', hcode1, hcode2, hcode3⟩ := hcode
  have hrec : h'.CodeRec (.ref c') fd.qualname := by
    rw [hfd.qual]
    obtain ⟨c2, o2, vs2, t2, e2, h2, r2⟩ := hcode3
    cases e2
    have hPc : g₃.P c' := d₃.P _ hcode2
    have q1 := (R₁.ge d₂).keep _ _ hcode2 h2
    have q2 := (R₂.gr.ge d₃).keep _ _ hcode2 q1
    have q3 := (R₃.ge d₄).keep _ _ hPc q2
    exact ⟨c', o2, vs2, t2, rfl, hk _ _ (fun q => hPl (q ▸ hPc)) q3, r2⟩
  have hD₄ : Gd C fa g s g₃ s₄ := (d₁.weak (fa := fa) fun a h => nomatch h).trans (d₂.trans ((d₃.weak (fa := fa) fun a h => nomatch h).trans d₄))
  have hD : Gd C fa g s g₃ { s₄ with heap := h', toks := tk } := ((hD₄.weak (fa := al :: fa) fun a h => .inl (.tail _ h)).trans (d₅.weak (fa := al :: fa) fun a h => .inl (by rw [List.mem_singleton.mp h]; exact .head _))).weak fun a h => by
    rcases List.mem_cons.mp h with rfl | h
    · exact .inr hgel'
    · exact .inl h
  obtain ⟨k1, k2, k3⟩ := hclo ca0 ct0 hct0 hca0
  have hL := R₅.fr.L
  have hLlt := (r.fr.fa _ r.fr.L).2.1
  have hcs : ∀ c ∈ [af, al, s₄.heap.objs.size, ca0, ct0], C.N0 ≤ c ∧ c < h'.objs.size ∧ (∀ n, g₃.ρ n ≠ some c) ∧ c ≠ fm.env.locals ∧ s₀.heap.objs.size ≤ c := by
    intro c hc
    simp only [List.mem_cons, List.not_mem_nil, or_false] at hc
    have hgs := d.size
    rcases hc with rfl | rfl | rfl | rfl | rfl
    · exact ⟨hNf, Heap.lt_size hf₅, hlf₄, fun q => Nat.lt_irrefl _ (Nat.lt_of_lt_of_le hLlt (q ▸ hge)), Nat.le_trans hgs hge⟩
    · exact ⟨hNl, Heap.lt_size hl₅, hll₄, fun q => Nat.lt_irrefl _ (Nat.lt_of_lt_of_le hLlt (q ▸ hgel')), Nat.le_trans hgs hgel'⟩
    · exact ⟨hdx, by rw [hsz]; exact Nat.lt_succ_self _, fun m q => Nat.lt_irrefl _ (R₄.gr.live m _ q).2.1, fun q => Nat.lt_irrefl _ (Nat.lt_of_lt_of_le hLlt (q ▸ hD₄.size)), Nat.le_trans hgs hD₄.size⟩
    · exact ⟨(R₅.fr.fa _ hcaf).1, (R₅.fr.fa _ hcaf).2.1, (R₅.fr.fa _ hcaf).2.2.2, (R₅.fr.cells _ _ hca0).2.1, hfa _ hcaf⟩
    · exact ⟨(R₅.fr.fa _ hctf).1, (R₅.fr.fa _ hctf).2.1, (R₅.fr.fa _ hctf).2.2.2, (R₅.fr.cells _ _ hct0).2.1, hfa _ hctf⟩
  have R₆ := R₅.pins (cs := [af, al, s₄.heap.objs.size, ca0, ct0]) (fun c hc => ⟨(hcs c hc).1, (hcs c hc).2.1, (hcs c hc).2.2.1⟩) (fun q => (hcs _ q).2.2.2.1 rfl)
  have hst : Strm C (g₃.pins [af, al, s₄.heap.objs.size, ca0, ct0]) h' x n al :=
    ⟨s₄.heap.objs.size, af, ca0, ct0, b, t, fl, fd, _, m, _, ⟨.inl (by simp), hl₅⟩, ⟨.inl (by simp), hns.ns, hm⟩, ⟨.inl (by simp), hf₅, rfl, rfl⟩, hrd fd hfd, by rw [hfd.clo]; exact ⟨k1, k2, k3⟩, ⟨.inl (by simp), hct2, hρ⟩, ⟨.inl (by simp), hcx2⟩, ⟨c', hcode1, .inr (d₃.P _ hcode2), hrec⟩, hctx⟩
  obtain ⟨us, hus, hvs⟩ := R₆.fr.var "stream" (.val (.ref al)) (by show (if ("stream" : Str) = "stream" then _ else _) = _; rw [if_pos rfl])
  obtain rfl := hvs.inv
  refine cont _ _ (.ref af) ⟨R₆.gr, { R₆.fr with var := fun y v hy => ?_ }⟩ ((d.trans hD).pins fun c hc => (hcs c hc).2.2.2.2)
  have hy' : (if y = "stream" then some (MV.strm x n) else (loc.set rn (.val (.ref af))) y) = some v := hy
  by_cases e : y = "stream"
  · rw [if_pos e] at hy'; cases hy'
    exact ⟨.ref al, e ▸ hus, .strm hst⟩
  · rw [if_neg e] at hy'
    exact R₆.fr.var y v (by show (if y = "stream" then _ else _) = _; rw [if_neg e]; exact hy')
end
end
section
section
variable {C : Cx} {A : Around} {fm : Fm} {fa : List Addr} {loc : Loc} {σ : Hp} {g : Gh} {s : Shared} {Q Q' : MV → Hp → Prop} {QB : Bool → Hp → Prop} {QS : Fl → Loc → Hp → Prop}
theorem Post.kept {m : MV} {v : Value} {h' : Heap} {tk : Nat} (r : Rel C g σ fm fa loc s) (k : ∀ b o, s.heap.get? b = some o → h'.get? b = some o) (hs : s.heap.objs.size ≤ h'.objs.size) (hv : VR C g h' m v) (q : Q m σ) : Post C fm fa loc g s Q v { s with heap := h', toks := tk } :=
  ⟨g, m, σ, r.ext (s' := { s with heap := h', toks := tk }) k hs, hv, .ext k hs rfl rfl rfl, q⟩
theorem two_tuple_iter {prog : Program} {w : World} {E : Value → Shared → Prop} {R : Value → Shared → Prop} {a b : Value} (h : ∀ s₂ : Shared, s₂ = { s with heap := (s.heap.push { cls := .type "tuple", data := .seq #[a, b] }).push { cls := .type "tuple_iterator", data := .fields #[.ref s.heap.objs.size, .int 0 0] } } →
      (s₂.heap.IsTupleIter (s.heap.objs.size + 1) s.heap.objs.size 0 ∧ s₂.heap.IsTuple s.heap.objs.size #[a, b]) → (∀ b ∈ [s.heap.objs.size + 1, s.heap.objs.size], b < s₂.heap.objs.size) → R (.ref (s.heap.objs.size + 1)) s₂) :
    wpAny (model prog w) A (pyIter (.ref s.heap.objs.size)) R E { s with heap := s.heap.push { cls := .type "tuple", data := .seq #[a, b] } } := by
  have ht : (s.heap.push { cls := .type "tuple", data := .seq #[a, b] }).IsTuple s.heap.objs.size #[a, b] := ⟨_, Heap.get?_push_size _ rfl, rfl, _, rfl⟩
  refine wpAny_pyIter_tuple (s := { s with heap := s.heap.push { cls := .type "tuple", data := .seq #[a, b] } }) ht ?_
  have e : (s.heap.push { cls := .type "tuple", data := .seq #[a, b] }).objs.size = s.heap.objs.size + 1 := Heap.size_push ..
  have hit : ((s.heap.push { cls := .type "tuple", data := .seq #[a, b] }).push { cls := .type "tuple_iterator", data := .fields #[.ref s.heap.objs.size, .int 0 0] }).IsTupleIter (s.heap.objs.size + 1) s.heap.objs.size 0 := by
    rw [← e]; exact ⟨_, Heap.get?_push_size _ rfl, rfl, rfl⟩
  have hq := h _ rfl ⟨hit, ht.push _⟩ fun c hc => by
    show c < ((s.heap.push _).push _).objs.size
    rw [Heap.size_push, Heap.size_push]
    simp only [List.mem_cons, List.not_mem_nil, or_false] at hc
    rcases hc with rfl | rfl <;> (first | lia | omega)
  rw [show ({ s with heap := s.heap.push { cls := .type "tuple", data := .seq #[a, b] } } : Shared).heap.objs.size = s.heap.objs.size + 1 from e]
  exact hq
theorem two_at {i j : Int} {t u : Tok} {k : Nat} {v : Value} (hv : (#[Value.int i t, Value.int j u] : Array Value)[k]? = some v) : ∃ t', v = .int (if k = 0 then i else j) t' := by
  cases k with
  | zero => exact ⟨t, (Option.some.inj hv).symm⟩
  | succ k => cases k with
    | zero => exact ⟨u, (Option.some.inj hv).symm⟩
    | succ k => exact nomatch hv
theorem cal_min2 {i j : Int} (hh : A.handled = none) (q : Q (.int (min i j)) σ) : Cal C A fm (.builtin "min") [.int i, .int j] loc σ Q := by
  intro fa g s vs r hvs
  obtain ⟨x, y, rfl, hx, hy⟩ := hvs.inv2
  obtain ⟨t, rfl⟩ := hx.inv
  obtain ⟨u, rfl⟩ := hy.inv
  refine withSize (call_min_two (two_tuple_iter fun s₂ e st hfp => ?_))
  subst e
  refine ⟨_, _, _, _, _, _, _, rfl, Walks.tuple (A := A.in1) hh (s.heap.objs.size + 1) s.heap.objs.size (Nat.ne_of_lt (Nat.lt_succ_self _)) #[.int i t, .int j u], st, hfp, by simp, CmpOf.ints_lt (fun k => if k = 0 then i else j) (fun k v hv => ?_), fun v h' tk hP hk hs => ?_⟩
  · exact two_at hv
  · have hv : ∃ t', v = .int (min i j) t' := by
      replace hP : (#[Value.int i t, Value.int j u] : Array Value)[if decide (j < i) = true then 1 else 0]? = some v := hP
      by_cases hc : j < i
      · simp [hc] at hP; exact ⟨u, by rw [← hP, Int.min_eq_right (by walk_at "l")]⟩
      · simp [hc] at hP; exact ⟨t, by rw [← hP, Int.min_eq_left (by walk_at "l")]⟩
    obtain ⟨t', rfl⟩ := hv
    refine .kept (tk := tk) r (fun b o e => hk b o (fun hm => ?_) (Heap.get?_push_of_some _ (Heap.get?_push_of_some _ e))) hs (.int ..) q
    have hb : b = s.heap.objs.size + 1 := List.mem_singleton.mp hm
    exact absurd (hb ▸ Heap.lt_size e) (Nat.not_lt.mpr (Nat.le_succ _))
theorem VRs.intsV {h : Heap} {ns : List Int} : ∀ {r : List Value}, VRs C g h (ns.map .int) r → ∀ (i : Nat) (v : Value), r[i]? = some v → ∃ t, v = Value.int (ns.getD i 0) t := by
  induction ns with
  | nil => intro r hl i v e; rw [show r = [] from hl.inv] at e; exact nomatch e
  | cons x ns ih =>
    intro r hl i v e
    obtain ⟨w, r', rfl, h1, h2⟩ := VRs.tail (l := ns.map .int) hl
    cases i with
    | zero => exact Option.some.inj e ▸ h1.inv
    | succ i =>
      simp at e
      obtain ⟨t, ht⟩ := ih h2 i v e
      exact ⟨t, by simpa using ht⟩
theorem preSum_eq (ns : List Int) : ∀ k, k ≤ ns.length → preSum (fun i => ns.getD i 0) k = (ns.take k).sum
  | 0, _ => by simp [preSum]
  | k + 1, h => by
    have e : ns.take (k + 1) = ns.take k ++ [ns[k]'(by walk_at "l")] := by rw [List.take_add_one]; simp [List.getElem?_eq_getElem (show k < ns.length by walk_at "l")]
    rw [preSum, preSum_eq ns k (by walk_at "l"), e, List.sum_append, List.sum_cons, List.sum_nil, Int.add_zero]
    congr 1
    simp [List.getElem?_eq_getElem (show k < ns.length by walk_at "l")]
theorem cal_sum {m : MV} {ns : List Int} (hh : A.handled = none) (hm : lstOf σ m = some (ns.map .int)) (hb : ∀ k, k ≤ ns.length → InLong (ns.take k).sum) (hb' : ∀ x ∈ ns, InLong x) (q : Q (.int ns.sum) σ) : Cal C A fm (.builtin "sum") [m] loc σ Q := by
  intro fa g s vs r hvs
  obtain ⟨x, rfl, hx⟩ := hvs.inv1
  obtain ⟨a, xs, rfl, ho, hl⟩ := r.gr.lst hm hx
  have hlen : xs.length = ns.length := by have := hl.length; simpa using this.symm
  have hlt : a < s.heap.objs.size := by obtain ⟨o, ho, _⟩ := ho; exact Heap.lt_size ho
  refine withSize (call_sum_walk (wpAny_pyIter_list ho ?_))
  refine ⟨_, _, _, _, _, _, fun i => ns.getD i 0, rfl, Walks.list (A := A.in1) hh s.heap.objs.size a (Nat.ne_of_lt hlt) ⟨xs⟩, ⟨⟨_, Heap.get?_push_size _ rfl, rfl, rfl⟩, ho.push _⟩, fun b hb => ?_, fun i v hv => hl.intsV i v (by simpa using hv), fun j hj => ?_, fun h' tk t' hk hs => ?_⟩
  · show b < (s.heap.push _).objs.size
    rw [Heap.size_push]
    simp only [List.mem_cons, List.not_mem_nil, or_false] at hb
    rcases hb with rfl | rfl
    · exact Nat.lt_succ_self _
    · exact Nat.lt_succ_of_lt hlt
  · have hj' : j < ns.length := by rw [← hlen]; exact hj
    refine ⟨?_, by rw [preSum_eq ns _ (by walk_at "l")]; exact hb _ (by walk_at "l")⟩
    show InLong (ns.getD j 0)
    rw [List.getD_eq_getElem?_getD, List.getElem?_eq_getElem hj']
    exact hb' _ (List.getElem_mem ..)
  · have e : (Array.mk xs).size = ns.length := hlen
    rw [e, preSum_eq ns _ (Nat.le_refl _), List.take_length]
    refine .kept (tk := tk) r (fun b o e => hk b o (fun hm => ?_) (Heap.get?_push_of_some _ e)) hs (.int ..) q
    exact Nat.lt_irrefl _ ((List.mem_singleton.mp hm) ▸ Heap.lt_size e)
end
end
section
section
variable {C : Cx} {A : Around} {fm : Fm} {fa : List Addr} {loc : Loc} {σ : Hp} {g : Gh} {s : Shared} {Q Q' : MV → Hp → Prop} {QB : Bool → Hp → Prop} {QS : Fl → Loc → Hp → Prop}
theorem vrs_range {h : Heap} {f : Nat → MV} {P : Nat → Value → Prop} (hP : ∀ i v, P i v → VR C g h (f i) v) {n k : Nat} {xs : List Value} (hl : xs.length = n) (hx : ∀ j v, xs[j]? = some v → P (k + j) v) : VRs C g h ((List.range' k n).map f) xs := by
  induction n generalizing k xs with
  | zero => rw [List.eq_nil_of_length_eq_zero hl]; exact .nil
  | succ n ih =>
    obtain ⟨v, xs, rfl, hl'⟩ := len_s hl
    rw [List.range'_succ, List.map_cons]
    refine .cons (hP k v (hx 0 v rfl)) (ih hl' fun j w hw => ?_)
    rw [Nat.add_right_comm]
    exact hx (j + 1) w hw
theorem cal_listR {a b c : Int} {n ℓ : Nat} (hh : A.handled = none) (hs : Builtin.Range.small a b c = true) (hn : Builtin.Range.rangeSize a b c = n) (hlen : n ≤ 2 ^ 20) (hℓ : σ ℓ = none)
    (q : Q (.ref ℓ) (σ.set ℓ (.list ((List.range n).map fun i : Nat => .int (a + i * c))))) : Cal C A fm (.type "list") [.rng a b c] loc σ Q := by
  intro fa g s vs r hvs
  obtain ⟨x, rfl, hx⟩ := hvs.inv1
  refine via_p fun P kP => ?_
  obtain ⟨_, _, _, _, rfl, hp, hr⟩ := hx.inv
  refine kP ?_
  clear kP P
  refine withSize (call_list_range hh hr hs hn (Nat.le_trans hlen (by decide)) fun h' tk acc' c' hk hS' hacc hz => ?_)
  have hρ := r.gr.fresh hℓ
  have hl : s.heap.objs.size < h'.objs.size := Heap.lt_size hS'
  have e0 : Ge g (g.set ℓ s.heap.objs.size) s.heap s.heap := ge_set hρ
  refine ⟨_, .ref ℓ, _, r.new (s' := { s with heap := h', toks := tk }) hρ hk (Nat.le_refl _) hl (.list ⟨c', hS'⟩ ?_), .ref ?_, .new hρ hk (Nat.le_refl _) hl rfl rfl rfl, q⟩
  · rw [List.range_eq_range']
    refine vrs_range (P := fun i v => ∃ t, v = .int (a + i * c) t) (fun i v ⟨t, e⟩ => by rw [e]; exact .int ..) (by simpa using hacc.1) fun j v hv => ?_
    rw [Nat.zero_add]
    exact hacc.2 j v (by simpa using hv)
  · show (if ℓ = ℓ then _ else _) = _
    rw [if_pos rfl]
theorem tru_str {x : Str} (hs : x.length ≤ 1000000) (q : QB (x.length != 0) σ) : Tru C A fm (.str x) loc σ QB := by
  intro fa g s v r hv
  obtain ⟨_, rfl⟩ := hv.inv
  refine P.truthy_str (by walk_at "l") ⟨g, σ, r.toks _, .toks _, ?_⟩
  have e : ((x.length : Int) != 0) = (x.length != 0) := by
    rw [Bool.eq_iff_iff]; simp
  rw [e]; exact q
theorem tru_lst {m : MV} {l : List MV} (hm : lstOf σ m = some l) (hs : l.length ≤ 1000000) (q : QB (!l.isEmpty) σ) : Tru C A fm m loc σ QB := by
  intro fa g s x r hx
  obtain ⟨a, xs, rfl, ho, hl⟩ := r.gr.lst hm hx
  have hlen := hl.length
  refine wpAny_truthy_list ho (by show ((xs.length : Nat) : Int) < _; (first | lia | omega)) ?_
  have e : (Array.mk xs).isEmpty = l.isEmpty := by
    show (decide (xs.length = 0)) = _
    rw [← hlen]; cases l <;> simp
  rw [e]; exact ⟨g, σ, r.toks _, .toks _, q⟩
end
end
section
theorem slot_dii : Slot "dict_itemiterator" "__iter__" "dict_itemiterator.__iter__" :=
  Slot.of (T := "dict_itemiterator") (name := "__iter__") (owner := "dict_itemiterator") (n := "__iter__") (by rw [typeLookup_type, builtinLookup_eq_fast]; kernel_rfl) (by decide +kernel) (by decide +kernel) (by decide +kernel)
    (.inl (by decide +kernel)) (by rw [isSubtype_type]; kernel_rfl)
theorem entry_dii : entryFor table "dict_itemiterator.__iter__" = some Builtin.«dict_keyiterator.__iter__» := entryFor_alias (id' := "dict_keyiterator.__iter__") (by kernel_rfl) rfl (by decide +kernel) (by kernel_rfl)
theorem args_dii (a : Value) : argsOk "dict_itemiterator.__iter__" ⟨[a], []⟩ := by unfold argsOk; kernel_rfl
theorem walksT_items {prog : Program} {w : World} {A : Around} {K : Type} [DecidableEq K] {knd : KeyKind prog w K} (hh : A.handled = none) (I d : Addr) (hne : d ≠ I) (kvs : List (K × Value)) (ep : Nat) :
    WalksT prog w A I [I, d] [I] kvs.length (fun i vals => ∃ key k x, kvs[i]? = some (k, x) ∧ knd.is k key = true ∧ vals = #[key, x])
      (fun i h => (∃ ok ov, IsItemIter h I d i kvs.length ep ok ov) ∧ h.DictAt knd d kvs ep)
      (fun i T h => (∃ ok ov, IsItemIterOut h I d (i + 1) kvs.length ep ok ov T) ∧ h.DictAt knd d kvs ep ∧ T ≠ I) where
  sub := fun b hb => by simp at hb; simp [hb]
  frame := fun i h h' st hk => by
    obtain ⟨⟨ok, ov, he⟩, hm⟩ := st
    exact ⟨⟨ok, ov, hk I (by simp) _ he⟩, hm.at' fun o e => hk d (by simp) o e⟩
  item := fun i s Q E hi st hQ => by
    obtain ⟨⟨ok, ov, he⟩, hm⟩ := st
    obtain ⟨⟨k, x⟩, hx⟩ : ∃ p, kvs[i]? = some p := ⟨kvs[i], by simp [hi]⟩
    refine wpAny_pyNext_items_item he hm hx fun key h' hkey ho hT hsz hk => ?_
    exact hQ s.heap.objs.size #[key, x] h' s.toks ⟨key, k, x, hx, hkey, rfl⟩ (Nat.le_refl _) ⟨_, hT, rfl, _, rfl⟩ ⟨⟨_, _, ho⟩, hm.at' (fun o e => hk d o hne e), Nat.ne_of_gt (Heap.lt_size he)⟩ fun b o hb e => hk b o (fun h => hb (by simp [h])) e
  go := fun elts k pos i T s Q E hm hQ => by
    obtain ⟨⟨ok, ov, ho⟩, hd, hTI⟩ := hm
    refine wpAny_letOwnedTupleGo_items ho fun h' he hs => ?_
    exact hQ h' ⟨⟨ok, ov, he⟩, hd.extBut hs.extBut hne⟩ fun b o hb e => hs.extBut b o (fun h => hb (by simp [h])) e
  apart := fun i T h hm hb => hm.2.2 (List.mem_singleton.mp hb)
  done := fun s Q E st hQ => by
    obtain ⟨⟨ok, ov, he⟩, hm⟩ := st
    exact wpAny_pyNext_items_end hh he hm (by simp) fun h' hx => hQ h' s.toks fun b o hb e => hx b o (fun h => hb (by simp [h])) e
  self := fun i s Q E st hq => by
    obtain ⟨⟨ok, ov, he⟩, hm⟩ := st
    have hT : s.TypeIs (.ref I) "dict_itemiterator" := ⟨_, he, rfl⟩
    refine wpAny_pyIter_slot hT slot_dii (wpAny_call_entry slot_dii hT entry_dii ?_ (args_dii _))
    show wpAny _ _ (ret (.ref I)) _ _ s
    exact wpAny_pure ⟨_, rfl, "dict_itemiterator", _, hT, F.slot_dict_itemiterator_next.lookup, hq⟩
section
variable {C : Cx} {A : Around} {fm : Fm} {fa : List Addr} {loc : Loc} {σ : Hp} {g : Gh} {s : Shared} {Q Q' : MV → Hp → Prop} {QB : Bool → Hp → Prop} {QS : Fl → Loc → Hp → Prop}
theorem VRd.getI {h : Heap} {l : List (Str × MV)} {kvs : List (Str × Value)} (z : VRd C g h l kvs) {i : Nat} {k : Str} {v : Value} (e : kvs[i]? = some (k, v)) : ∃ m, l[i]? = some (k, m) ∧ VR C g h m v := by
  induction l generalizing kvs i with
  | nil => rw [z.inv] at e; exact nomatch e
  | cons p l ih =>
    refine via_p fun P kP => ?_
    obtain ⟨w, r, rfl, a, b⟩ := z.inv
    refine kP ?_
    clear kP P
    cases i with
    | zero =>
      obtain ⟨rfl, rfl⟩ := Prod.mk.inj (Option.some.inj e)
      exact ⟨p.2, rfl, a⟩
    | succ i => exact ih b e
theorem walk_items {o : Expr} {elts : List Expr} {k : Nat} {tp apos pos : Pos} {l : List (Str × MV)} {Q : Hp → Prop} (hh : A.handled = none)
    (h : Ev C A fm o loc σ fun m σ₁ => m = .dct l ∧ Q σ₁)
    (hbase : attributeBase o ("items" : Str) fm.env (eval o fm.env) = eval o fm.env := by rfl) (hline : (apos.endLine == pos.line) = true := by rfl) :
    WalkE C A fm (.Tuple elts k tp) (.Call (.Attribute o "items" apos) [] [] pos) loc σ l.length (fun i => .tup [.str (l.getD i ("", .none)).1, (l.getD i ("", .none)).2]) (fun _ => True) Q := fun fa g s r => by
  refine Call_method0 hbase hline (wpAny_mono (h fa g s r) ?_ fun _ _ e => e)
  rintro v s₁ ⟨g₁, m, σ₁, r₁, hv, d₁, rfl, q⟩
  obtain ⟨a, kvs, rfl, hp, ho, hl⟩ := hv.inv
  have hN := (r₁.gr.P a hp).1
  have hs : (a == sysModules) = false := by
    have h16 := Nat.le_trans r₁.gr.lo hN
    have : ¬ a = sysModules := fun q => absurd (q ▸ h16) (by decide)
    simpa using this
  have hd0 : ∃ ob, s₁.heap.get? a = some ob ∧ ob.dict = none := by obtain ⟨o, es, ep, ho, he, _⟩ := id ho; exact ⟨o, ho, he.2.1⟩
  refine ⟨"dict", "dict.items", F.plainAttrs_dict, F.slot_dict_items, F.type_dict_items, ho.typeIs, fun b e => by cases e; exact hd0, ?_⟩
  refine method_meetsIn F.slot_dict_items F.entry_dict_items rfl (PySem.evalArgs_none ⟨rfl, ho.typeIs, F.args_dict_items_1 _, _, meets_dict_items (strKind C.prog C.w) a hs, ⟨kvs, ho⟩, ?_⟩)
  obtain ⟨ep, hat⟩ := ho.dictAt
  obtain ⟨gr₂, d₂⟩ := r₁.gr.push (fa := []) { cls := .type "dict_items", data := .fields #[.ref a] } s₁.toks
  have hview : (s₁.heap.push { cls := .type "dict_items", data := .fields #[.ref a] }).IsItemsView s₁.heap.objs.size a := ⟨_, Heap.get?_push_size _ rfl, rfl, rfl⟩
  refine wpAny_pyIter_items (s := { s₁ with heap := s₁.heap.push { cls := .type "dict_items", data := .fields #[.ref a] } }) hview (hat.push _) ?_
  obtain ⟨gr₃, d₃⟩ := gr₂.push (fa := []) { cls := .type "dict_itemiterator", data := .fields #[.none, .bool false, .ref a, .int 0 0, .int kvs.length 0, .int ep 0, .none, .none] } s₁.toks
  have dd := d₂.trans d₃
  have hlen : kvs.length = l.length := by have := congrArg List.length hl.keys; simpa using this.symm
  have hge : s₁.heap.objs.size ≤ (s₁.heap.push { cls := .type "dict_items", data := .fields #[.ref a] }).objs.size := size_push_le _ _
  have hne : a ≠ (s₁.heap.push { cls := .type "dict_items", data := .fields #[.ref a] }).objs.size := Nat.ne_of_lt (Nat.lt_of_lt_of_le (r₁.gr.P a hp).2 hge)
  have W := walksT_items (knd := strKind C.prog C.w) (A := A) hh (s₁.heap.push { cls := .type "dict_items", data := .fields #[.ref a] }).objs.size a hne kvs ep
  rw [hlen] at W
  refine ⟨g₁, σ₁, [(s₁.heap.push { cls := .type "dict_items", data := .fields #[.ref a] }).objs.size], _, iter_ofT (g₀ := g₁) (h₀ := s₁.heap) (item := fun i => [.str (l.getD i ("", .none)).1, (l.getD i ("", .none)).2]) W (fun b hb => ?_) (fun i vals g h e hP => ?_) (fun i h hst b hb => ?_), r₁.call gr₃ dd, d₁.trans (dd.weak fun a h => nomatch h), free_new gr₂, fun b hb => ?_, ⟨r₁.gr.ge dd, ?_⟩, trivial, q⟩
  · simp only [List.mem_cons, List.not_mem_nil, or_false] at hb
    rcases hb with rfl | rfl
    · exact .inl (.head _)
    · exact .inr hp
  · obtain ⟨key, kk, x, hx, hkey, rfl⟩ := hP
    obtain ⟨m, hm, hv⟩ := hl.getI hx
    have e1 : l.getD i ("", .none) = (kk, m) := by rw [List.getD_eq_getElem?_getD, hm]; rfl
    rw [e1]
    have hkey' : ∃ t, key = .str kk t := by
      cases key <;> simp [PySem.strKind, Value.isStrOf] at hkey
      exact ⟨_, by rw [hkey]⟩
    obtain ⟨t, rfl⟩ := hkey'
    exact .cons (.str ..) (.cons (hv.mono e) .nil)
  · rw [List.mem_singleton.mp hb]
    obtain ⟨⟨ok, ov, he⟩, _⟩ := hst
    exact ⟨_, he⟩
  · rw [List.mem_singleton.mp hb]
    exact ⟨Nat.le_trans d₁.size hge, r₁.apart hge⟩
  · refine ⟨⟨.none, .none, ?_⟩, (hat.push _).push _⟩
    rw [← hlen]
    exact Heap.get?_push_size _ rfl
end
end
section
section
variable {C : Cx} {A : Around} {fm : Fm} {fa : List Addr} {loc : Loc} {σ : Hp} {g : Gh} {s : Shared} {Q Q' : MV → Hp → Prop} {QB : Bool → Hp → Prop} {QS : Fl → Loc → Hp → Prop}
noncomputable abbrev emptyD : Obj := { cls := .type "dict", data := .dict #[] }
theorem ev_dct0 {pos : Pos} (q : Q (.dct []) σ) : Ev C A fm (.Dict [] [] pos) loc σ Q := fun fa g s r =>
  wpAny_Dict_empty (.pinned r rfl (.dct (.inl rfl) (Heap.DictOf.new _) .nil) q)
theorem dict1 {k v : Expr} {pos : Pos} {R : Value → Shared → Prop} (r : Rel C g σ fm fa loc s) (h : Ev C A fm k loc σ fun mk σ₁ => ∃ key, mk = .str key ∧ Ev C A fm v loc σ₁ fun mv σ₂ => Q (.dct [(key, mv)]) σ₂)
    (fin : ∀ g' σ' s' key mv u, Rel C g' σ' fm fa loc s' → Gd C (s.heap.objs.size :: fa) g s g' s' → s'.heap.DictOf (strKind C.prog C.w) s.heap.objs.size [(key, u)] → VR C g' s'.heap mv u → (∀ n, g'.ρ n ≠ some s.heap.objs.size) → ¬ g'.P s.heap.objs.size → s.heap.objs.size < s'.heap.objs.size → Q (.dct [(key, mv)]) σ' → R (.ref s.heap.objs.size) s') :
    wpAny (model C.prog C.w) A (eval (.Dict [some k] [v] pos) fm.env) R NoE s := by
  have kp : ∀ b o, s.heap.get? b = some o → (s.heap.push emptyD).get? b = some o := fun b o e => Heap.get?_push_of_some _ e
  have hz : s.heap.objs.size ≤ (s.heap.push emptyD).objs.size := size_push_le _ _
  have r₀ := r.ext (s' := { s with heap := s.heap.push emptyD }) kp hz
  have d₀ : Gd C fa g s g { s with heap := s.heap.push emptyD } := .ext kp hz rfl rfl rfl
  have hD : (s.heap.push emptyD).get? s.heap.objs.size = some emptyD := Heap.get?_push_size _ rfl
  have hNd := r.gr.size
  have hl0 : ∀ n, g.ρ n ≠ some s.heap.objs.size := fun n q => Nat.lt_irrefl _ (r.gr.live n _ q).2.1
  have hf0 : s.heap.objs.size ∉ fa := fun q => Nat.lt_irrefl _ (r.fr.fa _ q).2.1
  refine wpAny_Dict_walk (knd := strKind C.prog C.w) rfl rfl (by simp) (by simp) (pairTrees_cons_walk (wpAny_mono (h fa g _ r₀) ?_ fun _ _ e => e))
  rintro kv s₁ hX2
  refine via_p fun P kP => ?_
  obtain ⟨g₁, mk, σ₁, r₁, hk, d₁, key, rfl, h₁⟩ := hX2
  refine kP ?_
  clear kP P
  obtain ⟨t, rfl⟩ := hk.inv
  obtain ⟨hD₁, hl₁⟩ := d₁.obj r₀.gr hD hNd hl0 hf0
  refine wpAny_mono (h₁ fa g₁ s₁ r₁) ?_ fun _ _ e => e
  rintro vv s₂ hX2
  refine via_p fun P kP => ?_
  obtain ⟨g₂, mv, σ₂, r₂, hv, d₂, q⟩ := hX2
  refine kP ?_
  clear kP P
  obtain ⟨hD₂, hl₂⟩ := d₂.obj r₁.gr hD₁ hNd hl₁ hf0
  refine pairTrees_nil_walk ⟨[(key, vv)], ⟨strKind_is C.prog C.w key t, rfl, trivial⟩, ⟨_, #[], 0, hD₂, ⟨rfl, rfl, rfl⟩, rfl, fun e he => absurd he (by simp), .nil, by simp⟩, fun h' hm hs => ?_⟩
  have hP : ∀ g' : Gh, (∀ a, g'.P a → g.P a ∨ (s.heap.push emptyD).objs.size ≤ a) → ¬ g'.P s.heap.objs.size := fun g' hh q => by
    rcases hh _ q with q | q
    · exact Nat.lt_irrefl _ (r.gr.P _ q).2
    · rw [Heap.size_push] at q; exact Nat.not_succ_le_self _ q
  have hP₂ := hP g₂ fun a q => (d₁.trans d₂).Pn a q
  have hF : Free C g₂ [s.heap.objs.size] := fun b hb => by rw [List.mem_singleton.mp hb]; exact ⟨hNd, hl₂, hP₂⟩
  obtain ⟨gr₃, d₃⟩ := r₂.gr.loop (tk := s₂.toks + 1) hF (h' := h') (fun b o hb e => hs.extBut b o (fun q => hb (by rw [q]; exact .head _)) e) (Nat.le_of_eq hs.1.symm)
  have r₃ := r₂.step gr₃ d₃ (fun b hb => by rw [List.mem_singleton.mp hb]; exact r.apart (Nat.le_refl _)) fun b hb => (hF b hb).2.2
  have e3 : Ge g₂ g₂ s₂.heap h' := ⟨fun _ _ e => e, fun _ e => e, fun b o hp e => hs.extBut b o (fun q => hP₂ (q ▸ hp)) e⟩
  refine fin g₂ σ₂ _ key mv vv r₃ ((((d₀.trans (d₁.trans d₂)).weak (fa := s.heap.objs.size :: fa) fun a h => .inl (.tail _ h)).trans (d₃.weak fun a h => .inl (by rw [List.mem_singleton.mp h]; exact .head _)))) ?_ (hv.mono e3) hl₂ hP₂ (by show _ < h'.objs.size; rw [hs.1]; exact Heap.lt_size hD₂) q
  simpa [merged, PySem.stored] using hm
theorem ev_dct1 {k v : Expr} {pos : Pos} (h : Ev C A fm k loc σ fun mk σ₁ => ∃ key, mk = .str key ∧ Ev C A fm v loc σ₁ fun mv σ₂ => Q (.dct [(key, mv)]) σ₂) : Ev C A fm (.Dict [some k] [v] pos) loc σ Q := fun fa g s r => by
  refine dict1 r h fun g' σ' s' key mv u r' d hm hv hl hP hlt q => ?_
  have dw : Gd C fa g s g' s' := d.weak fun a h => by
    rcases List.mem_cons.mp h with rfl | h
    · exact .inr (Nat.le_refl _)
    · exact .inl h
  have ap := r.apart (Nat.le_refl s.heap.objs.size)
  exact ⟨g'.pin s.heap.objs.size, _, σ', ⟨r'.gr.pin r.gr.size hlt hl, r'.fr.pin ap.1 ap.2⟩, .dct (.inl rfl) hm (.cons (hv.mono (ge_pin0 _ _)) .nil), dw.pin0 (Nat.le_refl _), q⟩
end
end
section
section
variable {C : Cx} {A : Around} {fm : Fm} {fa : List Addr} {loc : Loc} {σ : Hp} {g : Gh} {s : Shared} {Q Q' : MV → Hp → Prop} {QB : Bool → Hp → Prop} {QS : Fl → Loc → Hp → Prop}
theorem ev_or {x y : Expr} {pos : Pos} (h : Ev C A fm x loc σ fun m σ₁ => Tru C A fm m loc σ₁ fun b σ₂ => if b then Q m σ₂ else Ev C A fm y loc σ₂ Q) : Ev C A fm (.BoolOp .Or [x, y] pos) loc σ Q := fun fa g s r => by
  rw [arm_eval_BoolOp]
  show wpAny _ A (eval x fm.env >>= _) _ _ _
  refine wpAny_bind (wpAny_mono (h fa g s r) ?_ fun _ _ e => e)
  rintro v s₁ ⟨g₁, m, σ₁, r₁, hv, d₁, h₁⟩
  refine wpAny_bind (wpAny_standAt (wpAny_bind (wpAny_holding (wpAny_mono (h₁ fa g₁ s₁ v r₁ hv) ?_ fun _ _ e => e))))
  rintro b s₂ ⟨g₂, σ₂, r₂, d₂, q⟩
  cases b with
  | true => exact wpAny_pure ⟨g₂, m, σ₂, r₂, hv.mono (r₁.ge d₂), d₁.trans d₂, q⟩
  | false =>
    show wpAny _ A (eval y fm.env) _ _ _
    exact wpAny_mono (q fa g₂ s₂ r₂) (fun _ _ p => p.trans (d₁.trans d₂)) fun _ _ e => e
end
end
section
section
variable {C : Cx} {A : Around} {fm : Fm} {fa : List Addr} {loc : Loc} {σ : Hp} {g : Gh} {s : Shared} {Q Q' : MV → Hp → Prop} {QB : Bool → Hp → Prop} {QS : Fl → Loc → Hp → Prop}
theorem ex_swap {elts : List Expr} {k : Nat} {tp pos : Pos} {e : Expr} {x y : Str} (hh : A.handled = none) (h : Ev C A fm e loc σ fun m σ₁ => ∃ a b, m = .tup [a, b] ∧ QS .next ((loc.set y b).set x a) σ₁) (hx : canSt fm x) (hy : canSt fm y)
    (hs : swapsWithSole [.Tuple elts k tp] e pos.line fm.env = pure false := by rfl) (hw : swappedStores [.Tuple elts k tp] e fm.env = pure (some [x, y]) := by rfl) : Ex C A fm (.Assign [.Tuple elts k tp] e pos) loc σ QS := fun fa g s r => by
  refine Assign_Tuple_swapped (names := [x, y]) (wpAny_mono (h fa g s r) ?_ fun _ _ e => e) hs hw
  rintro v s₁ hX2
  refine via_p fun P kP => ?_
  obtain ⟨g₁, m, σ₁, r₁, hv, d₁, a, b, rfl, q⟩ := hX2
  refine kP ?_
  clear kP P
  refine via_p fun P kP => ?_
  obtain ⟨t, vs, rfl, hp, ho, hl⟩ := hv.inv
  refine kP ?_
  clear kP P
  refine via_p fun P kP => ?_
  obtain ⟨u, w, rfl, hu, hw'⟩ := hl.inv2
  refine kP ?_
  clear kP P
  have hu' := withSize (s := s₁) (wpAny_unpackItems_tuple (prog := C.prog) (w := C.w) (A := A) (E := fun e s' => s₁.heap.objs.size ≤ s'.heap.objs.size → NoE e s') hh ho (Q := fun items s₂ => s₁.heap.objs.size ≤ s₂.heap.objs.size → wpAny (model C.prog C.w) A (assignInOrder ([x, y].reverse.map fun n => bindName fm.env n) items.reverse) (fun _ => PostS C fm fa g s QS .next) NoE s₂) fun h' hk hz => ?_)
  · exact hu'
  have k' : ∀ b o, s₁.heap.get? b = some o → h'.get? b = some o := fun b o e => hk b o (Nat.ne_of_lt (Heap.lt_size e)) e
  have r₂ := r₁.ext (s' := { s₁ with heap := h' }) k' hz
  have d₂ : Gd C fa g₁ s₁ g₁ { s₁ with heap := h' } := .ext k' hz rfl rfl rfl
  have ge : Ge g₁ g₁ s₁.heap h' := ⟨fun _ _ e => e, fun _ e => e, fun a o _ e => k' a o e⟩
  show wpAny _ A (assignInOrder [bindName fm.env y, bindName fm.env x] [w, u]) _ _ _
  refine wpAny_bind (wpAny_holding (wpAny_bindName (store_name r₂ (hw'.mono ge) hy fun s₃ r₃ d₃ => ?_)))
  refine wpAny_bind (wpAny_holding (wpAny_bindName (store_name r₃ ((hu.mono ge).mono (r₂.ge d₃)) hx fun s₄ r₄ d₄ => ?_)))
  exact wpAny_pure ⟨g₁, .next, _, σ₁, r₄, .next, d₁.trans (d₂.trans (d₃.trans d₄)), q⟩
end
end
section
noncomputable def EqIn (C : Cx) (A : Around) (s : Shared) (a b : Value) (r : Bool) : Prop := ∀ (E : Value → Shared → Prop) (Q : Bool → Shared → Prop), Q r s → wpAny (model C.prog C.w) A (eqBool a b) Q E s
section
variable {C : Cx} {A : Around} {s : Shared}
theorem tup_eqc {a b : Addr} {xs ys : List Value} {R : Value → Shared → Prop} {E : Value → Shared → Prop} (ha : s.heap.IsTuple a ⟨xs⟩) (hb : s.heap.IsTuple b ⟨ys⟩) (hu : A.units < cLine) (hl : xs.length = ys.length)
    (he : ∀ p ∈ xs.zip ys, EqIn C A.in1 s p.1 p.2 true) (q : R (.bool true) s) : wpAny (model C.prog C.w) A (compareOp .Eq (.ref a) (.ref b)) R E s := by
  obtain ⟨oa, hoa, hca, na, hda⟩ := id ha
  obtain ⟨ob, hob, hcb, nb, hdb⟩ := id hb
  refine wpAny_richCompare_same_room (op := .Eq) ha.typeIs hb.typeIs F.slot_tuple_eq (wpAny_call_entry F.slot_tuple_eq ha.typeIs F.entry_tuple_eq ?_ (F.args_tuple_eq_2 _ _)) hu
  unfold Builtin.«tuple.__eq__»
  refine wpAny_bind (wpAny_pure ?_)
  refine wpAny_bind (wpAny_isInstance (T := "tuple") (b := true) hb.typeIs AutoSeq1.sub_tuple_tuple ?_)
  rw [if_neg (by decide)]
  refine wpAny_bind (wpAny_bind (wpAny_seqItems hoa hda (wpAny_pure ?_)))
  refine wpAny_bind (wpAny_bind (wpAny_seqItems hob hdb (wpAny_pure ?_)))
  refine wpAny_bind (wpAny_forIn_list _ (fun rest b s' => b.1 = none ∧ s' = s ∧ ∀ p ∈ rest, EqIn C A.in1 s p.1 p.2 true) _ ?_ ?_ _ _ ⟨rfl, rfl, he⟩)
  · rintro ⟨x, y⟩ rest bb s' ⟨hb1, rfl, hr⟩
    refine wpAny_bind (hr (x, y) (.head _) _ _ ?_)
    refine wpAny_pure ⟨rfl, rfl, fun p hp => hr p (.tail _ hp)⟩
  · rintro ⟨b1, b2⟩ s' ⟨hb1, rfl, _⟩
    simp only at hb1
    subst hb1
    have e : Builtin.Tuple.tupleCompareSizes .Eq (Array.mk xs).size (Array.mk ys).size = .bool true := by
      show Value.bool (xs.length == ys.length) = _
      rw [hl]; simp
    exact wpAny_pure ⟨_, rfl, by rw [e]; exact ⟨(fun x => (nomatch x)), q⟩⟩
theorem tup_nec {a b : Addr} {xs ys : List Value} {R : Value → Shared → Prop} {E : Value → Shared → Prop} (ha : s.heap.IsTuple a ⟨xs⟩) (hb : s.heap.IsTuple b ⟨ys⟩) (hu : A.units < cLine) (hl : xs.length = ys.length)
    (he : ∀ p ∈ xs.zip ys, EqIn C A.in1 s p.1 p.2 true) (q : R (.bool false) s) : wpAny (model C.prog C.w) A (compareOp .NotEq (.ref a) (.ref b)) R E s := by
  obtain ⟨oa, hoa, hca, na, hda⟩ := id ha
  obtain ⟨ob, hob, hcb, nb, hdb⟩ := id hb
  refine wpAny_richCompare_same_room (op := .NotEq) ha.typeIs hb.typeIs F.slot_tuple_ne (wpAny_call_entry F.slot_tuple_ne ha.typeIs F.entry_tuple_ne ?_ (F.args_tuple_ne_2 _ _)) hu
  unfold Builtin.«tuple.__ne__»
  refine wpAny_bind (wpAny_pure ?_)
  refine wpAny_bind (wpAny_isInstance (T := "tuple") (b := true) hb.typeIs AutoSeq1.sub_tuple_tuple ?_)
  rw [if_neg (by decide)]
  refine wpAny_bind (wpAny_bind (wpAny_seqItems hoa hda (wpAny_pure ?_)))
  refine wpAny_bind (wpAny_bind (wpAny_seqItems hob hdb (wpAny_pure ?_)))
  refine wpAny_bind (wpAny_forIn_list _ (fun rest b s' => b.1 = none ∧ s' = s ∧ ∀ p ∈ rest, EqIn C A.in1 s p.1 p.2 true) _ ?_ ?_ _ _ ⟨rfl, rfl, he⟩)
  · rintro ⟨x, y⟩ rest bb s' ⟨hb1, rfl, hr⟩
    refine wpAny_bind (hr (x, y) (.head _) _ _ ?_)
    refine wpAny_pure ⟨rfl, rfl, fun p hp => hr p (.tail _ hp)⟩
  · rintro ⟨b1, b2⟩ s' ⟨hb1, rfl, _⟩
    simp only at hb1
    subst hb1
    have e : Builtin.Tuple.tupleCompareSizes .NotEq (Array.mk xs).size (Array.mk ys).size = .bool false := by
      show Value.bool (xs.length != ys.length) = _
      rw [hl]; simp
    exact wpAny_pure ⟨_, rfl, by rw [e]; exact ⟨(fun x => (nomatch x)), q⟩⟩
end
end
section
section
variable {C : Cx} {A : Around} {s : Shared}
theorem dct_same {nm : String} {a b : Addr} {ka kb : List (Str × Value)} {R : Bool → Shared → Prop} {E : Value → Shared → Prop} (ha : (a == sysModules) = false) (hb : (b == sysModules) = false) (da : s.heap.DictOf (strKind C.prog C.w) a ka) (db : s.heap.DictOf (strKind C.prog C.w) b kb)
    (hl : ka.length = kb.length) (he : ∀ (i : Nat) k v, ka[i]? = some (k, v) → ∃ y, valueAt kb k = some y ∧ EqIn C A s v y true) (q : R true s) : wpAny (model C.prog C.w) A (Builtin.Dict.samePairs nm a b) R E s := by
  obtain ⟨oa, ea, pa, hoa, _, hda, hka, hpa, _⟩ := da
  obtain ⟨ob, eb, pb, hob, _, hdb, hkb, hpb, _⟩ := db
  have la : ea.size = ka.length := by rw [← hpa.length]; exact Array.length_toList.symm
  have lb : eb.size = kb.length := by rw [← hpb.length]; exact Array.length_toList.symm
  have hsz : ea.size = eb.size := by rw [la, lb, hl]
  unfold Builtin.Dict.samePairs Builtin.Dict.showsAll
  rw [ha, hb, if_neg Bool.false_ne_true]
  refine wpAny_bind (wpAny_pure (wpAny_bind (wpAny_pure (wpAny_bind (wpAny_dictEntries hoa hda ?_)))))
  refine wpAny_bind (wpAny_dictEntries hob hdb ?_)
  rw [if_neg (by rw [hsz]; simp)]
  refine wpAny_bind (wpAny_dictEpoch hoa hda (wpAny_bind ?_))
  rw [Std.Legacy.Range.forIn_eq_forIn_range']
  refine wpAny_forIn_list _ (fun rest x s' => s' = s ∧ x.1 = none ∧ ∀ i ∈ rest, i < ea.size) _ ?_ ?_ _ _ ⟨rfl, rfl, fun i hi => ?_⟩
  · rintro i rest x s' ⟨rfl, hx, hi⟩
    have hlt := hi i (.head _)
    refine wpAny_bind (wpAny_dictEntries hoa hda ?_)
    rw [Array.getElem?_eq_getElem hlt]
    have hlt' : i < ka.length := by rw [← la]; exact hlt
    obtain ⟨k, v, hkv⟩ : ∃ k v, ka[i]? = some (k, v) := ⟨_, _, List.getElem?_eq_getElem hlt'⟩
    obtain ⟨hkey, hval⟩ := hpa.get? (i := i) (e := ea[i]) (k := k) (v := v) (by rw [Array.getElem?_toList]; exact Array.getElem?_eq_getElem hlt) hkv
    obtain ⟨k', hk', hh⟩ := hka ea[i] (Array.getElem_mem hlt)
    have ekk : k' = k := (strKind C.prog C.w).inj _ _ _ hk' hkey
    subst ekk
    obtain ⟨y, hy, heq⟩ := he i k' v hkv
    show wpAny _ _ (holding [ea[i].key, ea[i].val] _ >>= _) _ _ _
    rw [hh]
    refine wpAny_bind (wpAny_holding (wpAny_bind (wpAny_dictFind_of hkey hob hdb hkb ?_)))
    have hf : findBy (strKind C.prog C.w).is eb k' = some y := by
      rw [← hy, ← hpb.find k']
      obtain ⟨l⟩ := eb
      simp [findBy]
    rw [findBy_of_findIdx?] at hf
    cases hj : eb.findIdx? fun e => (strKind C.prog C.w).is k' e.key with
    | none => rw [hj] at hf; cases hf
    | some j =>
      obtain ⟨hjlt, _, _⟩ := Array.findIdx?_eq_some_iff_getElem.mp hj
      rw [hj] at hf
      have ey : eb[j].val = y := by simpa [Array.getElem?_eq_getElem hjlt] using hf
      refine wpAny_bind (wpAny_dictEntries hob hdb ?_)
      rw [Array.getElem?_eq_getElem hjlt]
      refine wpAny_holding ?_
      rw [hval, ey]
      refine heq _ _ ?_
      show wpAny _ _ (if (!true) = true then _ else _) _ _ _
      rw [if_neg (by decide)]
      refine wpAny_bind (wpAny_dictEpoch hoa hda ?_)
      rw [if_neg (by simp)]
      exact wpAny_pure ⟨rfl, rfl, fun m hm => hi m (.tail _ hm)⟩
  · rintro ⟨x1, x2⟩ s' ⟨rfl, hx, _⟩
    simp only at hx
    subst hx
    exact wpAny_pure q
  · simp [Std.Legacy.Range.size] at hi
    (first | lia | omega)
end
end
section
mutual
inductive Same : Nat → MV → MV → Prop
  | int (n : Nat) (i : Int) : Same n (.int i) (.int i)
  | str (n : Nat) (x : Str) : Same n (.str x) (.str x)
  | nums (n : Nat) (ns : List Int) : Same (n + 1) (.lst (ns.map .int)) (.lst (ns.map .int))
  | tup {n : Nat} {l l' : List MV} : Sames n l l' → Same (n + 1) (.tup l) (.tup l')
  | dct {n : Nat} {l l' : List (Str × MV)} : l.length = l'.length → Samed n l l' → Same (n + 1) (.dct l) (.dct l')
inductive Sames : Nat → List MV → List MV → Prop
  | nil (n : Nat) : Sames n [] []
  | cons {n : Nat} {a b : MV} {l l' : List MV} : Same n a b → Sames n l l' → Sames n (a :: l) (b :: l')
inductive Samed : Nat → List (Str × MV) → List (Str × MV) → Prop
  | nil (n : Nat) (r : List (Str × MV)) : Samed n [] r
  | cons {n : Nat} {k : Str} {a b : MV} {l r : List (Str × MV)} : valAt r k = some b → Same n a b → Samed n l r → Samed n ((k, a) :: l) r
end
section
variable {C : Cx} {g : Gh} {σ : Hp} {s : Shared}
theorem EqIn.refs {A : Around} {s : Shared} {a b : Addr} (h : ∀ (E : Value → Shared → Prop) (Q : Value → Shared → Prop), Q (.bool true) s → wpAny (model C.prog C.w) A (richCompare .Eq (.ref a) (.ref b)) Q E s) : EqIn C A s (.ref a) (.ref b) true := fun E Q q => by
  unfold eqBool
  refine wpAny_holding ?_
  refine wpAny_ite_split (fun _ => wpAny_bind (wpAny_rule (wpAny_pure q))) (fun _ => ?_)
  exact wpAny_bind (h E _ (wpAny_truthy_bool q))
theorem EqIn.int {A : Around} {s : Shared} (i : Int) (t u : Tok) : EqIn C A s (.int i t) (.int i u) true := fun E Q q => wpAny_eqBool_int (by simpa using q)
theorem EqIn.str {A : Around} {s : Shared} (x : Str) (t u : Tok) : EqIn C A s (.str x t) (.str x u) true := fun E Q q => wpAny_eqBool_str (by simpa using q)
theorem lst_ints {A : Around} {a b : Addr} {xs ys : List Value} {ns : List Int} (ha : s.heap.IsList a ⟨xs⟩) (hb : s.heap.IsList b ⟨ys⟩) (hx : VRs C g s.heap (ns.map .int) xs) (hy : VRs C g s.heap (ns.map .int) ys) (hu : A.units < cLine) : SeqAt.RcAt A s (.ref a) (.ref b) true := by
  have lx : xs.length = ns.length := by have := hx.length; simpa using this.symm
  have ly : ys.length = ns.length := by have := hy.length; simpa using this.symm
  have h := SeqAt.RcAt.lists (A := A) (e := fun _ => true) ha hb (by show xs.length = ys.length; rw [lx, ly]) hu fun j h1 h2 => by
    obtain ⟨t, e1⟩ := hx.intsV j (xs[j]'h1) (List.getElem?_eq_getElem h1)
    obtain ⟨u, e2⟩ := hy.intsV j (ys[j]'h2) (List.getElem?_eq_getElem h2)
    show SeqAt.EqAt A.in1 s (xs[j]'h1) (ys[j]'h2) true
    rw [e1, e2]
    exact fun prog w E Q q => wpAny_eqBool_int (by simpa using q)
  have e : ((List.range (Array.mk xs).size).all fun _ => true) = true := List.all_eq_true.mpr fun _ _ => rfl
  rw [e] at h; exact h
end
end
section
section
variable {C : Cx} {g : Gh} {σ : Hp} {s : Shared}
theorem units_in1 (A : Around) : A.in1.units = A.units + 1 := rfl
theorem GR.noMods (r : GR C g σ s) {a : Addr} (hp : g.P a) : (a == sysModules) = false := by
  have h16 := Nat.le_trans r.lo (r.P a hp).1
  have : ¬ a = sysModules := fun q => absurd (q ▸ h16) (by decide)
  simpa using this
theorem Sames.zip {n : Nat} {h : Heap} {Pr : Value → Value → Prop} (ih : ∀ {m m' : MV} {u v : Value}, Same n m m' → VR C g h m u → VR C g h m' v → Pr u v) {l l' : List MV} {xs ys : List Value} (z : Sames n l l') (a : VRs C g h l xs) (b : VRs C g h l' ys) : xs.length = ys.length ∧ ∀ p ∈ xs.zip ys, Pr p.1 p.2 := by
  induction l generalizing l' xs ys with
  | nil =>
    cases z
    obtain rfl : xs = [] := a.inv
    obtain rfl : ys = [] := b.inv
    exact ⟨rfl, fun p hp => (List.not_mem_nil hp).elim⟩
  | cons m l ihl =>
    cases z with
    | cons z1 z2 =>
    obtain ⟨x, xs, rfl, a1, a2⟩ := a.inv
    obtain ⟨y, ys, rfl, b1, b2⟩ := b.inv
    obtain ⟨e, h⟩ := ihl z2 a2 b2
    exact ⟨congrArg Nat.succ e, fun p hp => (List.mem_cons.mp hp).elim (fun q => q ▸ ih z1 a1 b1) (h p)⟩
theorem Samed.at {n : Nat} {h : Heap} {Pr : Value → Value → Prop} (ih : ∀ {m m' : MV} {u v : Value}, Same n m m' → VR C g h m u → VR C g h m' v → Pr u v) {l' : List (Str × MV)} {kb : List (Str × Value)} (hb : VRd C g h l' kb) {l : List (Str × MV)} {ka : List (Str × Value)} (z : Samed n l l') (a : VRd C g h l ka) (i : Nat) (k : Str) (v : Value) (e : ka[i]? = some (k, v)) : ∃ y, valueAt kb k = some y ∧ Pr v y := by
  induction l generalizing ka i with
  | nil => rw [a.inv] at e; exact nomatch e
  | cons p l ihl =>
    cases z with
    | cons hv hs hr =>
    obtain ⟨x, xs, rfl, a1, a2⟩ := a.inv
    cases i with
    | zero =>
      obtain ⟨rfl, rfl⟩ := Prod.mk.inj (Option.some.inj e)
      obtain ⟨w, hw, hvr⟩ := hb.at hv
      exact ⟨w, hw, ih hs a1 hvr⟩
    | succ i => exact ihl hr a2 i e
theorem EqIn.ints {A : Around} {i : Int} {u v : Value} (hm : VR C g s.heap (.int i) u) (hv : VR C g s.heap (.int i) v) : EqIn C A s u v true :=
  hm.inv.elim fun _ e => hv.inv.elim fun _ e' => e ▸ e' ▸ EqIn.int _ _ _
theorem EqIn.strs {A : Around} {i : Str} {u v : Value} (hm : VR C g s.heap (.str i) u) (hv : VR C g s.heap (.str i) v) : EqIn C A s u v true :=
  hm.inv.elim fun _ e => hv.inv.elim fun _ e' => e ▸ e' ▸ EqIn.str _ _ _
theorem EqIn.dcts {A : Around} {l l' : List (Str × MV)} {u v : Value} (r : GR C g σ s) {n : Nat} (ih : ∀ {m m' : MV} {u v : Value}, Same n m m' → VR C g s.heap m u → VR C g s.heap m' v → EqIn C A.in1 s u v true) (hu : A.units + (n + 1) < cLine) (hss : Samed n l l')
    (hlen : l.length = l'.length) (hm : VR C g s.heap (.dct l) u) (hv : VR C g s.heap (.dct l') v) : EqIn C A s u v true := by
  obtain ⟨a, ka, rfl, hp, ho, hl⟩ := hm.inv
  obtain ⟨b, kb, rfl, hp', ho', hl'⟩ := hv.inv
  refine .refs fun E Q q => ?_
  refine wpAny_richCompare_same_room (op := .Eq) ho.typeIs ho'.typeIs PySem.F.slot_dict_eq (wpAny_call_entry PySem.F.slot_dict_eq ho.typeIs PySem.F.entry_dict_eq ?_ (PySem.F.args_dict_eq_2 _ _)) (Nat.lt_of_le_of_lt (Nat.le_add_right _ _) hu)
  show wpAny _ _ (Builtin.Dict.dictSlotArgs "__eq__" _ >>= _) _ _ s
  refine wpAny_bind ?_
  unfold Builtin.Dict.dictSlotArgs
  refine wpAny_bind (wpAny_notOrdered_dict ho.typeIs ?_)
  refine wpAny_pure ?_
  refine wpAny_bind (wpAny_isInstance (T := "dict") ho'.typeIs PySem.F.sub_dict_dict ?_)
  simp only [Bool.not_true, Bool.false_eq_true, if_false]
  refine wpAny_bind (wpAny_pure (wpAny_bind (wpAny_pure ?_)))
  refine wpAny_bind (dct_same (r.noMods hp) (r.noMods hp') ho ho' (hl.len.symm.trans (hlen.trans hl'.len)) (Samed.at (fun a b c => ih a b c) hl' hss hl) ?_)
  exact wpAny_pure ⟨_, rfl, (fun x => (nomatch x)), q⟩
theorem Same.run (r : GR C g σ s) (n : Nat) : ∀ {A : Around} {m m' : MV} {u v : Value}, A.units + n < cLine → Same n m m' → VR C g s.heap m u → VR C g s.heap m' v → EqIn C A s u v true := by
  induction n with
  | zero =>
    intro A m m' u v hu hs hm hv
    cases hs with
    | int _ i => exact .ints hm hv
    | str _ x => exact .strs hm hv
  | succ n ih =>
    intro A m m' u v hu hs hm hv
    have hu0 : A.units < cLine := Nat.lt_of_le_of_lt (Nat.le_add_right _ _) hu
    have hu1 : A.in1.units + n < cLine := by rw [units_in1, Nat.add_right_comm]; exact hu
    cases hs with
    | int _ i => exact .ints hm hv
    | str _ x => exact .strs hm hv
    | nums _ ns =>
      obtain ⟨a, xs, rfl, hp, ho, hl⟩ := hm.inv
      obtain ⟨b, ys, rfl, hp', ho', hl'⟩ := hv.inv
      exact .refs fun E Q q => lst_ints ho.isList ho'.isList hl hl' hu0 _ _ _ _ q
    | tup hss =>
      obtain ⟨a, xs, rfl, hp, ho, hl⟩ := hm.inv
      obtain ⟨b, ys, rfl, hp', ho', hl'⟩ := hv.inv
      obtain ⟨e, hz⟩ := Sames.zip (Pr := fun u v => EqIn C A.in1 s u v true) (fun a b c => ih hu1 a b c) hss hl hl'
      exact .refs fun E Q q => tup_eqc ho ho' hu0 e hz q
    | dct hlen hss => exact .dcts r (fun a b c => ih hu1 a b c) hu hss hlen hm hv
end
end
section
section
variable {C : Cx} {A : Around} {fm : Fm} {fa : List Addr} {loc : Loc} {σ : Hp} {g : Gh} {s : Shared} {Q Q' : MV → Hp → Prop}
end
end
section
section
variable {C : Cx} {A : Around} {fm : Fm} {fa : List Addr} {loc : Loc} {σ : Hp} {g : Gh} {s : Shared} {Q Q' : MV → Hp → Prop}
theorem op_neE {m : MV} {l : List MV} (hu : A.units < cLine) (hm : lstOf σ m = some l) (q : Q (.bool (!l.isEmpty)) σ) : Op2 C A fm (compareOp .NotEq) m (.lst []) loc σ Q := by
  intro fa g s x y r hx hy
  obtain ⟨a, xs, rfl, ⟨k, ho⟩, hl⟩ := r.gr.lstP hm hx
  obtain ⟨b, ys, rfl, hp', ho', hl'⟩ := hy.inv
  obtain rfl : ys = [] := hl'.inv
  obtain ⟨k', ho'⟩ := ho'
  have e := hl.length
  have hT : s.TypeIs (.ref a) "list" := ⟨_, ho, rfl⟩
  have hT' : s.TypeIs (.ref b) "list" := ⟨_, ho', rfl⟩
  refine wpAny_richCompare_same_room (op := .NotEq) hT hT' F.slot_list_ne ?_ hu
  cases l with
  | nil =>
    obtain rfl : xs = [] := hl.inv
    refine call_meets F.slot_list_ne hT F.entry_list_ne (F.args_list_ne_2 _ _) (SeqAt.list_neAt a b #[] #[] k k' none none #[] #[] rfl fun _ => true) ⟨ho, ho', fun j h1 h2 => absurd h1 (by simp), ?_⟩
    exact ⟨(fun x => (nomatch x)), .now r (.bool ..) (by simpa using q)⟩
  | cons c l =>
    refine call_meets F.slot_list_ne hT F.entry_list_ne (F.args_list_ne_2 _ _) (SeqAt.list_ne_lengthsAt a b ⟨xs⟩ #[] k k' none none #[] #[] ?_) ⟨ho, ho', ?_⟩
    · show (xs.length != 0) = true
      rw [← e]; simp
    exact ⟨(fun x => (nomatch x)), .now r (.bool ..) (by simpa using q)⟩
end
end
section
structure Ar (A : Around) (n : Nat) : Prop where
  d : A.depth + n ≤ 900
  u : A.units + 20 * n ≤ 9000
  h : A.handled = none
theorem Ar.deeper {A : Around} {n : Nat} (h : Ar A (n + 1)) (env : Env) : Ar (A.deeper env) n := ⟨by have := h.d; show A.depth + 1 + n ≤ 900; (first | lia | omega), by have := h.u; show A.units + 3 + 20 * n ≤ 9000; (first | lia | omega), h.h⟩
theorem Ar.in1 {A : Around} {n : Nat} (h : Ar A (n + 1)) : Ar A.in1 n := ⟨by have := h.d; show A.depth + n ≤ 900; (first | lia | omega), by have := h.u; show A.units + 1 + 20 * n ≤ 9000; (first | lia | omega), h.h⟩
theorem Ar.make {A : Around} {n : Nat} (h : Ar A (n + 1)) (c : Addr) (rest : List Value) : Ar (A.under (.builtin "type.__call__" ⟨.ref c :: rest, []⟩)) n :=
  ⟨by have := h.d; show A.depth + 1 + n ≤ 900; (first | lia | omega), by have := h.u; show A.units + 1 + 20 * n ≤ 9000; (first | lia | omega), h.h⟩
theorem Ar.le {A : Around} {m n : Nat} (h : Ar A n) (hm : m ≤ n := by walk_at "l") : Ar A m := ⟨by have := h.d; (first | lia | omega), by have := h.u; (first | lia | omega), h.h⟩
theorem Ar.room {A : Around} {n : Nat} (h : Ar A n) : A.depth < recursionLimit := by have := h.d; have : recursionLimit = 1000 := rfl; (first | lia | omega)
theorem Ar.cl {A : Around} {n : Nat} (h : Ar A n) : A.units + 800 < cLine := by have := h.u; have : cLine = 9900 := rfl; (first | lia | omega)
theorem lt4 {motive : (w : Nat) → w < 4 → Prop} (h0 : motive 0 (by decide)) (h1 : motive 1 (by decide)) (h2 : motive 2 (by decide)) (h3 : motive 3 (by decide)) (w : Nat) (hw : w < 4) : motive w hw :=
  Nat.rec (motive := fun w => ∀ hw, motive w hw) (fun _ => h0) (fun w _ => Nat.rec (motive := fun w => ∀ hw, motive (w + 1) hw) (fun _ => h1) (fun w _ => Nat.rec (motive := fun w => ∀ hw, motive (w + 2) hw) (fun _ => h2)
    (fun w _ => Nat.rec (motive := fun w => ∀ hw, motive (w + 3) hw) (fun _ => h3) (fun w _ hw => absurd hw (Nat.not_lt.mpr (Nat.le_add_left 4 w))) w) w) w) w hw
theorem cnt_ne {sg : List Nat} (hl : sg.length ≤ 1) (hne : sg ≠ [10]) : sg.count 10 = 0 :=
  List.count_eq_zero.mpr fun hm => hne (by
    cases hm with
    | head l => rw [List.eq_nil_of_length_eq_zero (Nat.le_zero.mp (Nat.le_of_succ_le_succ hl))]
    | tail b h => rw [List.eq_nil_of_length_eq_zero (Nat.le_zero.mp (Nat.le_of_succ_le_succ hl))] at h; cases h)
noncomputable def nth : List Stmt → Nat → Stmt
  | [], _ => .Pass ⟨0, 0, 0, 0⟩
  | s :: _, 0 => s
  | _ :: l, n + 1 => nth l n
noncomputable def dfArgs : Stmt → Arguments
  | .FunctionDef _ a _ _ _ _ _ _ _ _ => a
  | _ => ⟨[], [], none, [], [], none, []⟩
noncomputable def dfBody : Stmt → List Stmt
  | .FunctionDef _ _ b _ _ _ _ _ _ _ => b
  | .ClassDef _ _ _ b _ _ _ _ _ _ _ => b
  | _ => []
noncomputable def dfScope : Stmt → Scope
  | .FunctionDef _ _ _ _ _ _ s _ _ _ => s
  | _ => ⟨.module, [], false, false, []⟩
noncomputable def stB : Stmt → List Stmt
  | .For _ _ b _ _ => b
  | .While _ b _ _ => b
  | .If _ b e _ => b ++ e
  | _ => []
noncomputable def sideOk (ps : List Str) (scope : Scope) : Bool :=
  ps.all (fun p => scope.names.lookup p == some .local || scope.names.lookup p == some .cell) && (ownOf scope).all (fun x => scope.names.lookup x == some .cell) && scope.names.all (fun x => x.2 != .free) && !scope.isCoroutine && !scope.isGenerator && (scope.kind == .function)
noncomputable def BindAt (params : Arguments) (vs : List Value) (r : List (Str × Value)) : Prop := ∀ n q b s g c d m an co ct bi, bindArgs (FuncData.mk n q params b s g c .none .none d m an co ct bi) ⟨vs, []⟩ = pure r
theorem BindAt.go {params : Arguments} {vs : List Value} {r : List (Str × Value)} {fd : FuncData} (hp : fd.params = params) (hd : fd.defaults = .none) (hk : fd.kwdefaults = .none) (h : BindAt params vs r) : bindArgs fd ⟨vs, []⟩ = pure r := by
  cases fd
  cases hp; cases hd; cases hk
  exact h ..
theorem bind1 {params : Arguments} {p : Str} (h : ∀ v, BindAt params [v] [(p, v)]) (fd : FuncData) (vs : List Value) (hp : fd.params = params) (hd : fd.defaults = .none) (hk : fd.kwdefaults = .none) (hl : vs.length = [p].length) : bindArgs fd ⟨vs, []⟩ = pure ([p].zip vs) := by
  obtain ⟨v, rfl⟩ := List.length_eq_one_iff.mp hl
  exact (h v).go hp hd hk
theorem bind2 {params : Arguments} {p q : Str} (h : ∀ v w, BindAt params [v, w] [(p, v), (q, w)]) (fd : FuncData) (vs : List Value) (hp : fd.params = params) (hd : fd.defaults = .none) (hk : fd.kwdefaults = .none) (hl : vs.length = [p, q].length) : bindArgs fd ⟨vs, []⟩ = pure ([p, q].zip vs) := by
  obtain ⟨v, w, rfl⟩ := len2 hl
  exact (h v w).go hp hd hk
theorem bind3 {params : Arguments} {p q r : Str} (h : ∀ v w x, BindAt params [v, w, x] [(p, v), (q, w), (r, x)]) (fd : FuncData) (vs : List Value) (hp : fd.params = params) (hd : fd.defaults = .none) (hk : fd.kwdefaults = .none) (hl : vs.length = [p, q, r].length) : bindArgs fd ⟨vs, []⟩ = pure ([p, q, r].zip vs) := by
  obtain ⟨v, w, x, rfl⟩ := len3 hl
  exact (h v w x).go hp hd hk
section
variable {C : Cx} {A : Around} {σ : Hp} {g : Gh} {s : Shared} {Q : MV → Hp → Prop}
theorem fn_go {f : Addr} {qual : Str} {params : Arguments} {body : List Stmt} {scope : Scope} {code : Value} {ps : List Str} {ms : List MV} {n : Nat} (F : FnAt C.K f qual params body scope code) (hA : Ar A (n + 1)) (loc : Loc)
    (hbind : ∀ (fd : FuncData) vs, fd.params = params → fd.defaults = .none → fd.kwdefaults = .none → vs.length = ps.length → bindArgs fd ⟨vs, []⟩ = pure (ps.zip vs)) (hside : sideOk ps scope = true) (hlen : ms.length = ps.length) (hloc : locOf ps ms = loc)
    (h : ∀ L A' K, Via (fun fl _ σ' => Q (retOf fl) σ') K → Ar A' n → Exs C A' ⟨envC scope qual code f L, ownOf scope⟩ body loc σ K) : Fn C A (.ref f) ms σ Q := by
  simp only [sideOk, Bool.and_eq_true, List.all_eq_true, Bool.or_eq_true, beq_iff_eq, Bool.not_eq_true', bne_iff_ne] at hside
  obtain ⟨⟨⟨⟨⟨h1, h2⟩, h3⟩, h4⟩, h5⟩, h6⟩ := hside
  subst hloc
  refine fn_def F hbind hlen (fun p hp => ?_) h2 (fun x hx => h3 x hx) hA.room h4 h5 h6 fun L => h L _ _ .id (hA.deeper _)
  rcases h1 p hp with q | q
  · exact .inl q
  · exact .inr ⟨mem_of_lookup q, q⟩
end
theorem at_same {l : Loc} {x : Str} {v : MV} : (l.set x v) x = some v := if_pos rfl
theorem at_other {l : Loc} {x y : Str} {v m : MV} (h : (y == x) = false) (h' : l y = some m) : (l.set x v) y = some m := (if_neg (fun e => by subst e; simp at h)).trans h'
theorem hp_same {σ : Hp} {n : Nat} {o : MO} : (σ.set n o) n = some o := if_pos rfl
theorem hp_other {σ : Hp} {n k : Nat} {o : MO} {r : Option MO} (h : k ≠ n) (h' : σ k = r) : (σ.set n o) k = r := (if_neg h).trans h'
theorem iteB {b : Bool} {X Y : Prop} (h1 : b = true → X) (h2 : b = false → Y) : if b = true then X else Y := by cases b; exact (if_neg (by simp)).mpr (h2 rfl) ; exact (if_pos rfl).mpr (h1 rfl)
section
variable {C : Cx} {A : Around} {fm : Fm} {fa : List Addr} {loc : Loc} {σ : Hp} {g : Gh} {s : Shared} {Q Q' : MV → Hp → Prop} {QB : Bool → Hp → Prop} {QS : Fl → Loc → Hp → Prop}
theorem EvL.mono : ∀ {es : List Expr} {loc : Loc} {σ : Hp} {Q Q' : List MV → Hp → Prop}, EvL C A fm es loc σ Q → (∀ ms σ', Q ms σ' → Q' ms σ') → EvL C A fm es loc σ Q'
  | [], _, _, _, _, h, k => k _ _ h
  | e :: es, _, _, _, _, h, k => EvT.mono h fun m σ' h' => EvL.mono h' fun ms σ'' q => k _ _ q
theorem ev_globI {x : Str} {pos : Pos} {i : Int} {t : Tok} (hx : fm.env.kindOf x = some .globalImplicit) (e : nsIn C.K mainGlobals x = some (some (.int i t))) (q : Q (.int i) σ) (hd : (x == ("__debug__" : Str)) = false := by decide) :
    Ev C A fm (.Name x pos) loc σ Q := fun fa g s r => by
  refine Calls.Name_function_global r.fr.fn hx ?_ hd
  unfold loadGlobal
  rw [r.fr.glob]
  refine wpAny_bind (looks_nsIn r.gr.KIn e _ _ _ _ (fun _ _ e => e) ?_)
  exact wpAny_pure (.now r (.int _ _) q)
theorem ev_callF {x : Str} {np pos : Pos} {es : List Expr} {f : Addr} {qual : Str} {params : Arguments} {body : List Stmt} {scope : Scope} {code : Value} (F : FnAt C.K f qual params body scope code)
    (hx : fm.env.kindOf x = some .globalImplicit) (e : nsIn C.K mainGlobals x = some (some (.ref f))) (h : EvL C A fm es loc σ fun ms σ₂ => Fn C A (.ref f) ms σ₂ Q)
    (hs : (starEach es fm.env).all (fun p => !p.1) = true := by rfl) (hd : (x == ("__debug__" : Str)) = false := by decide) : Ev C A fm (.Call (.Name x np) es [] pos) loc σ Q := by
  obtain ⟨o, fd, h1, h2, _⟩ := F.ex
  refine ev_call (ev_glob hx e ⟨_, rfl, .fn h1 h2, ?_⟩ hd) hs
  exact EvL.mono h fun ms σ₂ hf => cal_fn hf
theorem ev_callB {x : Str} {np pos : Pos} {es : List Expr} {v : Value} (hv : Callable C v) (hx : fm.env.kindOf x = some .globalImplicit) (e : nsIn C.K mainGlobals x = some none) (e' : nsIn C.K builtinsNs x = some (some v))
    (h : EvL C A fm es loc σ fun ms σ₂ => Cal C A fm v ms loc σ₂ Q) (hs : (starEach es fm.env).all (fun p => !p.1) = true := by rfl) (hd : (x == ("__debug__" : Str)) = false := by decide) : Ev C A fm (.Call (.Name x np) es [] pos) loc σ Q :=
  ev_call (ev_bi hx e e' ⟨_, rfl, hv, h⟩ hd) hs
end
end
section
section
variable {C : Cx} {A : Around} {fm : Fm} {fa : List Addr} {loc : Loc} {σ : Hp} {g : Gh} {s : Shared} {Q Q' : MV → Hp → Prop} {QB : Bool → Hp → Prop} {QS : Fl → Loc → Hp → Prop}
theorem ty_lower : typeOf (.builtin "str.lower") = pure (.type "method_descriptor") := by kernel_rfl!
theorem ty_join : typeOf (.builtin "str.join") = pure (.type "method_descriptor") := by kernel_rfl!
theorem ty_append : typeOf (.builtin "list.append") = pure (.type "method_descriptor") := by kernel_rfl!
section
variable {o : Expr} {apos pos : Pos} {es : List Expr}
theorem evl_nil {Q : List MV → Hp → Prop} (q : Q [] σ) : EvL C A fm [] loc σ Q := q
theorem evl_cons {e : Expr} {es : List Expr} {Q : List MV → Hp → Prop} (h : Ev C A fm e loc σ fun m σ₁ => EvL C A fm es loc σ₁ fun ms σ₂ => Q (m :: ms) σ₂) : EvL C A fm (e :: es) loc σ Q := h
theorem ev_lower (h : Ev C A fm o loc σ fun m σ₁ => ∃ x, m = .str x ∧ Builtin.Str.tooLong (Txt.lower x).length = false ∧ Q (.str (Txt.lower x)) σ₁)
    (hbase : attributeBase o "lower" fm.env (eval o fm.env) = eval o fm.env := by rfl) (hline : (apos.endLine == pos.line) = true := by rfl) : Ev C A fm (.Call (.Attribute o "lower" apos) [] [] pos) loc σ Q :=
  ev_meth (EvT.mono h <| by rintro m σ' ⟨x, e, h1, q⟩; subst e; exact ⟨"str", "str.lower", F.plainAttrs_str, F.slot_str_lower, ty_lower, mty_str, cal_lower h1 q⟩) hbase rfl hline
theorem ev_join {a : Expr} (h : Ev C A fm o loc σ fun m σ₁ => ∃ x, m = .str x ∧ Ev C A fm a loc σ₁ fun l σ₂ => ∃ ts : List Str, lstOf σ₂ l = some (ts.map .str) ∧ JoinOk x ts = true ∧ Q (.str (Txt.join x ts)) σ₂)
    (hbase : attributeBase o "join" fm.env (eval o fm.env) = eval o fm.env := by rfl) (hs : (starEach [a] fm.env).all (fun p => !p.1) = true := by rfl) (hline : (apos.endLine == pos.line) = true := by rfl) : Ev C A fm (.Call (.Attribute o "join" apos) [a] [] pos) loc σ Q :=
  ev_meth (EvT.mono h <| by rintro m σ' ⟨x, e, h1⟩; subst e; exact ⟨"str", "str.join", F.plainAttrs_str, F.slot_str_join, ty_join, mty_str, EvT.mono h1 <| by rintro l σ₂ ⟨ts, h2, h3, q⟩; exact cal_join h2 h3 q⟩) hbase hs hline (by simp)
theorem ev_append {a : Expr} (h : Ev C A fm o loc σ fun m σ₁ => ∃ n l0, m = .ref n ∧ σ₁ n = some (.list l0) ∧ Ev C A fm a loc σ₁ fun v σ₂ => ∃ l, σ₂ n = some (.list l) ∧ l.length ≤ 1000000 ∧ Q .none (σ₂.set n (.list (l ++ [v]))))
    (hbase : attributeBase o "append" fm.env (eval o fm.env) = eval o fm.env := by rfl) (hs : (starEach [a] fm.env).all (fun p => !p.1) = true := by rfl) (hline : (apos.endLine == pos.line) = true := by rfl) : Ev C A fm (.Call (.Attribute o "append" apos) [a] [] pos) loc σ Q :=
  ev_meth (EvT.mono h <| by rintro m σ' ⟨n, l0, e, h0, h1⟩; subst e; exact ⟨"list", "list.append", F.plainAttrs_list, F.slot_list_append, ty_append, mty_lst (l := l0) (lst_ref h0), EvT.mono h1 <| by rintro v σ₂ ⟨l, h2, h3, q⟩; exact cal_append h2 h3 q⟩) hbase hs hline (by simp)
end
end
section
variable {C : Cx} {A : Around} {fm : Fm} {loc : Loc} {σ : Hp} {QS : Fl → Loc → Hp → Prop} {rest : List Stmt}
theorem then_next (h : Exs C A fm rest loc σ QS) : Then C A fm rest QS .next loc σ := h
theorem then_ret {m : MV} (h : QS (.ret m) loc σ) : Then C A fm rest QS (.ret m) loc σ := h
theorem then_cont (h : QS .cont loc σ) : Then C A fm rest QS .cont loc σ := h
end
end
section
noncomputable def Lp (I : Loc → Hp → Prop) (QS : Fl → Loc → Hp → Prop) : Fl → Loc → Hp → Prop
  | .next, l, σ => I l σ
  | .cont, l, σ => I l σ
  | .brk, l, σ => QS .next l σ
  | .ret v, l, σ => QS (.ret v) l σ
section
variable {C : Cx} {A : Around} {fm : Fm} {fa : List Addr} {loc : Loc} {σ : Hp} {g : Gh} {s : Shared} {Q Q' : MV → Hp → Prop} {QB : Bool → Hp → Prop} {QS : Fl → Loc → Hp → Prop} {I : Loc → Hp → Prop}
theorem lp_next (h : I loc σ) : Lp I QS .next loc σ := h
theorem lp_cont (h : I loc σ) : Lp I QS .cont loc σ := h
theorem lp_ret {m : MV} (h : QS (.ret m) loc σ) : Lp I QS (.ret m) loc σ := h
theorem fitsL {i : Int} (h : -1000000000000 < i ∧ i < 1000000000000) : Builtin.Range.rangeFitsLong i = true := by
  simp only [Builtin.Range.rangeFitsLong, Bool.and_eq_true, decide_eq_true_eq]
  have : (2 : Int) ^ 63 = 9223372036854775808 := rfl
  (first | lia | omega)
theorem smallR {a b c : Int} (ha : -100000000 < a ∧ a < 100000000) (hb : -100000000 < b ∧ b < 100000000) (hc : 0 < c ∧ c < 100000000) : Builtin.Range.small a b c = true := by
  have hr : 0 ≤ Builtin.Range.rangeSize a b c ∧ Builtin.Range.rangeSize a b c < 1000000000 := by
    simp only [Builtin.Range.rangeSize]
    rw [if_pos (by walk_at "l")]
    split
    · have h1 : 0 ≤ (b - a - 1) / c := Int.ediv_nonneg (by walk_at "l") (by walk_at "l")
      have h2 : (b - a - 1) / c ≤ b - a - 1 := Int.ediv_le_self _ (by walk_at "l")
      (first | lia | omega)
    · (first | lia | omega)
  simp only [Builtin.Range.small, Bool.and_eq_true, Bool.or_eq_true]
  refine ⟨⟨⟨⟨fitsL (by walk_at "l"), fitsL (by walk_at "l")⟩, fitsL (by walk_at "l")⟩, fitsL (by walk_at "l")⟩, .inr ?_⟩
  rw [if_pos (by walk_at "l")]
  exact fitsL (by walk_at "l")
theorem cal_range3 {a b c : Int} (hc : 0 < c ∧ c < 1000) (q : Q (.rng a b c) σ) : Cal C A fm (.type "range") [.int a, .int b, .int c] loc σ Q := by
  intro fa g s vs r hvs
  refine via_p fun P kP => ?_
  obtain ⟨x, y, z, rfl, hx, hy, hz⟩ := hvs.inv3
  refine kP ?_
  clear kP P
  obtain ⟨_, rfl⟩ := hx.inv
  obtain ⟨_, rfl⟩ := hy.inv
  obtain ⟨_, rfl⟩ := hz.inv
  refine call_range_3 (by walk_at "l") ?_ (.inl (PyProof.noPylong_small (by walk_at "l")))
  exact Post.pinned r rfl (.rng (.inl rfl) (Heap.get?_push_size _ rfl)) q
theorem mulOk {i j : Int} (h : -1000000000000 < i ∧ i < 1000000000000) : IntMulOk i j := IntMulOk.of_left (intBits_le_64 (by have : (2 : Int) ^ 64 = 18446744073709551616 := rfl; (first | lia | omega)) (by have : (2 : Int) ^ 64 = 18446744073709551616 := rfl; (first | lia | omega)))
theorem op_mulB {i j : Int} (h : -1000000000000 < i ∧ i < 1000000000000) (q : Q (.int (i * j)) σ) : Op2 C A fm (binaryOp .Mult) (.int i) (.int j) loc σ Q := op_mul q (mulOk h)
theorem StT.mono {t : Value → Sem Unit} {m : MV} {Q Q' : Loc → Hp → Prop} (h : StT C A fm t m loc σ Q) (k : ∀ l σ', Q l σ' → Q' l σ') : StT C A fm t m loc σ Q' :=
  fun fa g s v r hv => wpAny_mono (h fa g s v r hv) (fun _ _ x => PostU.casesOn x fun g' l σ' r' d q => ⟨g', l, σ', r', d, k _ _ q⟩) fun _ _ e => e
theorem ex_forL {tg it : Expr} {body orelse : List Stmt} {pos : Pos} (n : Nat) (item : Nat → MV) (J : Hp → Prop) (Inv : Nat → Loc → Hp → Prop)
    (h : WalkE C A fm tg it loc σ n item J fun σ₁ => Inv 0 loc σ₁)
    (turn : ∀ i K, Via (Lp (fun l σ => Inv (i + 1) l σ ∧ J σ) QS) K → ∀ loc σ, i < n → Inv i loc σ → J σ → St C A fm tg (item i) loc σ fun l₁ σ₁ => Exs C A fm body l₁ σ₁ K)
    (fin : ∀ loc σ, Inv n loc σ → J σ → Exs C A fm orelse loc σ QS) (hs : ∀ x, foldedSetIterable it fm.env x = pure x := by intro _; rfl) : Ex C A fm (.For tg it body orelse pos) loc σ QS := by
  refine ex_for n item J Inv h (fun i loc σ hi hI hJ => ?_) fin hs
  refine StT.mono (turn i _ .id loc σ hi hI hJ) fun l σ' h' => ExT.mono h' fun f l σ'' q => ?_
  cases f <;> exact q
theorem ex_whileL {test : Expr} {body orelse : List Stmt} {pos : Pos} (I : Nat → Loc → Hp → Prop)
    (turn : ∀ n K K', Via (Lp (fun l σ => ∃ m, m < n ∧ I m l σ) QS) K → Via QS K' → ∀ loc σ, I n loc σ → Tr C A fm test loc σ fun b σ₁ => if b then Exs C A fm body loc σ₁ K else Exs C A fm orelse loc σ₁ K')
    (n : Nat) (h : I n loc σ) : Ex C A fm (.While test body orelse pos) loc σ QS := by
  refine ex_while I (fun n loc σ hI => TrT.mono (turn n _ _ .id .id loc σ hI) fun b σ' h' => ?_) n h
  cases b
  · exact h'
  · refine ExT.mono h' fun f l σ'' q => ?_
    cases f <;> exact q
theorem ex_forR {x : Str} {p np cp pos : Pos} {e : Expr} {body orelse : List Stmt} (n : Nat) (Inv : Nat → Loc → Hp → Prop) (hh : A.handled = none) (hb : nsIn C.K mainGlobals "range" = some none ∧ nsIn C.K builtinsNs "range" = some (some (.type "range")))
    (hk : fm.env.kindOf "range" = some .globalImplicit) (hx : canSt fm x) (hn : n < 1000000)
    (h : Ev C A fm e loc σ fun m σ₁ => m = .int n ∧ Inv 0 loc σ₁)
    (turn : ∀ i K, Via (Lp (fun l σ => Inv (i + 1) l σ) QS) K → ∀ loc σ, i < n → Inv i loc σ → Exs C A fm body (loc.set x (.int i)) σ K)
    (fin : ∀ loc σ, Inv n loc σ → Exs C A fm orelse loc σ QS) (hs : (starEach [e] fm.env).all (fun p => !p.1) = true := by rfl) : Ex C A fm (.For (.Name x p) (.Call (.Name "range" np) [e] [] cp) body orelse pos) loc σ QS := by
  refine ex_forL n (fun i => .int (0 + i * 1)) (fun _ => True) Inv (walk_of (ev_callB (.ty _) hk hb.1 hb.2 (EvT.mono h ?_) hs)) (fun i K hK loc σ hi hI _ => ?_) (fun loc σ hI _ => fin loc σ hI)
  · rintro m σ₁ ⟨rfl, h0⟩
    refine cal_range1 ⟨walk_range hh ?_ ?_, h0⟩
    · exact smallR (by walk_at "l") (by walk_at "l") (by walk_at "l")
    · simp only [Builtin.Range.rangeSize]; split <;> (try split) <;> (first | lia | omega)
  · refine st_name hx ?_
    rw [Int.mul_one, Int.zero_add]
    exact turn i K (fun f l σ q => hK f l σ (by cases f <;> first | exact q | exact ⟨q, trivial⟩)) loc σ hi hI
end
noncomputable def S (l : List Nat) : Str := ⟨l.toArray⟩
theorem S_len (l : List Nat) : (S l).length = l.length := by simp [S, Str.length]
theorem S_inj {l m : List Nat} : S l = S m ↔ l = m := by
  constructor
  · intro h; have := congrArg (fun x => x.cps.toList) h; simpa [S] using this
  · rintro rfl; rfl
theorem S_app (l m : List Nat) : S l ++ S m = S (l ++ m) := by
  show (⟨_⟩ : Str) = _
  simp [S]
theorem clipN (k n : Nat) (d : Int) : (clip1 (some (k : Int)) d n).toNat = min k n := by
  show (max 0 (min (if (k : Int) < 0 then (k : Int) + n else k) (n : Int))).toNat = _
  rw [if_neg (Int.not_lt.mpr (Int.natCast_nonneg k))]
  rcases Nat.le_total k n with h | h
  · rw [Nat.min_eq_left h, Int.min_eq_left (Int.ofNat_le.mpr h), Int.max_eq_right (Int.natCast_nonneg _), Int.toNat_natCast]
  · rw [Nat.min_eq_right h, Int.min_eq_right (Int.ofNat_le.mpr h), Int.max_eq_right (Int.natCast_nonneg _), Int.toNat_natCast]
theorem clipM (p n : Nat) (d : Int) (hp : 0 < p) : (clip1 (some (-(p : Int))) d n).toNat = n - p := by
  show (max 0 (min (if -(p : Int) < 0 then -(p : Int) + n else -(p : Int)) (n : Int))).toNat = _
  have h : -(p : Int) < 0 := Int.neg_neg_of_pos (Int.natCast_pos.mpr hp)
  have h2 : -(p : Int) + n ≤ n := by have := Int.add_le_add_right (Int.le_of_lt h) n; rwa [Int.zero_add] at this
  rw [if_pos h, Int.min_eq_left h2]
  clear h h2
  lia
theorem S_drop (l : List Nat) (k : Nat) : cutS (S l) (some k) none = S (l.drop k) := by
  unfold cutS
  rw [S_len, clipN]
  show (⟨_⟩ : Str) = ⟨(l.drop k).toArray⟩
  rw [show (S l).cps.toList = l from rfl, List.take_of_length_le (by rw [List.length_drop]; exact Nat.le_refl _)]
  rcases Nat.le_total k l.length with h | h
  · rw [Nat.min_eq_left h]
  · rw [Nat.min_eq_right h, List.drop_length, List.drop_of_length_le h]
theorem S_all (l : List Nat) : cutS (S l) none none = S l := by
  unfold cutS clip1
  simp [S, Str.length]
theorem S_take (l : List Nat) (p : Nat) (hp : 0 < p) : cutS (S l) none (some (-(p : Int))) = S (l.take (l.length - p)) := by
  unfold cutS
  rw [S_len, clipM _ _ _ hp]
  rfl
theorem S_at (l : List Nat) (k : Nat) {c : Nat} (h : l[k]? = some c) : (seqIndex? (k : Int) (S l).length).bind ((S l).cps[·]?) = some c := by
  have hl : k < l.length := (List.getElem?_eq_some_iff.mp h).1
  have e : seqIndex? (k : Int) (S l).length = some k := by
    simp only [seqIndex?, S_len]
    rw [if_neg (show ¬ ((k : Int) < 0) by walk_at "l"), if_pos (by simp; (first | lia | omega))]; simp
  rw [e]
  simpa [S] using h
theorem S_atN (l : List Nat) (k : Nat) (hk : 0 < k) (hl : k ≤ l.length) {c : Nat} (h : l[l.length - k]? = some c) : (seqIndex? (-(k : Int)) (S l).length).bind ((S l).cps[·]?) = some c := by
  have e : seqIndex? (-(k : Int)) (S l).length = some (l.length - k) := by
    simp only [seqIndex?, S_len]
    rw [if_pos (show (-(k : Int)) < 0 by walk_at "l"), if_pos (by simp; (first | lia | omega))]
    have e : ((-(k : Int)) + l.length).toNat = l.length - k := by walk_at "l"
    rw [e]
  rw [e]
  simpa [S] using h
section
variable {C : Cx} {A : Around} {fm : Fm} {loc : Loc} {σ : Hp} {Q : MV → Hp → Prop}
theorem gi_S {l : List Nat} {k : Nat} {c : Nat} (hl : l.length ≤ 1000000) (h : l[k]? = some c) (q : Q (.str (S [c])) σ) : Itm C A fm (.str (S l)) (.int k) loc σ Q := by
  have hk : k < l.length := (List.getElem?_eq_some_iff.mp h).1
  exact gi_str (c := c) (by simp; (first | lia | omega)) (S_at l k h) q
theorem gi_SN {l : List Nat} {k : Nat} {i : Int} {c : Nat} (hi : i = -(k : Int)) (hl : l.length ≤ 1000000) (hk : 0 < k) (hk' : k ≤ l.length) (h : l[l.length - k]? = some c) (q : Q (.str (S [c])) σ) : Itm C A fm (.str (S l)) (.int i) loc σ Q := by
  subst hi
  exact gi_str (c := c) (by simp; (first | lia | omega)) (S_atN l k hk hk' h) q
end
section
variable {C : Cx} {A : Around} {fm : Fm} {loc : Loc} {σ : Hp} {Q : MV → Hp → Prop} {QB : Bool → Hp → Prop}
theorem at_eq {l : Loc} {x : Str} {v m : MV} (h : v = m) : (l.set x v) x = some m := h ▸ at_same
theorem evo_none {Q : Option Int → Hp → Prop} (q : Q none σ) : EvO C A fm none loc σ Q := q
theorem evo_some {e : Expr} {Q : Option Int → Hp → Prop} (h : Ev C A fm e loc σ fun m σ₁ => (m = .none ∧ Q none σ₁) ∨ ∃ i, m = .int i ∧ Q (some i) σ₁) : EvO C A fm (some e) loc σ Q := h
theorem tru_S {l : List Nat} (hs : l.length ≤ 1000000) (q : QB (!l.isEmpty) σ) : Tru C A fm (.str (S l)) loc σ QB :=
  tru_str (by rw [S_len]; exact hs) (by rw [S_len]; cases l <;> exact q)
theorem slc_Sd {l : List Nat} {k : Nat} (hs : l.length ≤ 1000000) (q : Q (.str (S (l.drop k))) σ) : Slc C A fm (.str (S l)) (some (k : Int)) none none loc σ Q :=
  slc_str (by rw [S_drop]; exact q) (by rw [S_len]; exact hs)
theorem slc_Sa {l : List Nat} (hs : l.length ≤ 1000000) (q : Q (.str (S l)) σ) : Slc C A fm (.str (S l)) none none none loc σ Q :=
  slc_str (by rw [S_all]; exact q) (by rw [S_len]; exact hs)
theorem slc_St {l : List Nat} {p : Nat} {i : Int} (hi : i = -(p : Int)) (hp : 0 < p) (hs : l.length ≤ 1000000) (q : Q (.str (S (l.take (l.length - p)))) σ) : Slc C A fm (.str (S l)) none (some i) none loc σ Q := by
  subst hi
  exact slc_str (by rw [S_take l p hp]; exact q) (by rw [S_len]; exact hs)
theorem cal_lenS {l : List Nat} (hs : l.length ≤ 1000000) (q : Q (.int l.length) σ) : Cal C A fm (.builtin "len") [.str (S l)] loc σ Q := cal_lens (by rw [S_len]; exact hs) (by rw [S_len]; exact q)
end
section
variable {C : Cx} {A : Around} {fm : Fm} {loc : Loc} {σ : Hp} {QS : Fl → Loc → Hp → Prop}
theorem ExT.mid {t : Sem Flow} (P : Loc → Hp → Prop) (h : ExT C A fm t loc σ fun f l σ' => f = .next ∧ P l σ') (k : ∀ l σ', P l σ' → QS .next l σ') : ExT C A fm t loc σ QS :=
  ExT.mono h fun f l σ' ⟨e, hp⟩ => e ▸ k l σ' hp
theorem TrT.val {t : Sem Bool} {QB : Bool → Hp → Prop} (b : Bool) (h : TrT C A fm t loc σ fun b' σ' => b' = b ∧ σ' = σ) (k : QB b σ) : TrT C A fm t loc σ QB :=
  TrT.mono h fun b' σ' ⟨e, e'⟩ => by subst e; subst e'; exact k
end
structure Wf (σ : Hp) : Prop where
  fin : ∃ B, ∀ n, B ≤ n → σ n = none
  nc : ∀ n f k x, σ n ≠ some (.citer false f k x)
theorem Wf.new {σ : Hp} (h : Wf σ) : ∃ n, σ n = none := by obtain ⟨B, hB⟩ := h.fin; exact ⟨B, hB B (Nat.le_refl _)⟩
theorem Wf.set {σ : Hp} (h : Wf σ) (n : Nat) (o : MO) (ho : ∀ f k x, o ≠ .citer false f k x) : Wf (σ.set n o) := by
  obtain ⟨⟨B, hB⟩, nc⟩ := h
  refine ⟨⟨max B (n + 1), fun m hm => ?_⟩, fun m f k x e => ?_⟩
  · show (if m = n then some o else σ m) = none
    rw [if_neg (by walk_at "l")]; exact hB m (by walk_at "l")
  · have e' : (if m = n then some o else σ m) = some (.citer false f k x) := e
    by_cases hm : m = n
    · rw [if_pos hm] at e'; cases e'; exact ho f k x rfl
    · rw [if_neg hm] at e'; exact nc m f k x e'
end
local macro_rules | `(tactic| walk_at "lk") => `(tactic| first | with_reducible assumption | with_reducible exact at_same | ((with_reducible refine' at_other ?k1 ?k2); (case k1 => kernel_rfl!); (case k2 => walk_at "lk")) | ((with_reducible refine at_eq ?_); first | rfl | (congr 1; lia)))
local macro_rules | `(tactic| walk_at "nm") => `(tactic| ((with_reducible refine' ev_name ?k1 ?_); (case k1 => walk_at "lk")))
local macro_rules | `(tactic| walk_at "can") => `(tactic| first | with_reducible assumption | exact Or.inl (by kernel_rfl!) | exact Or.inr (by decide))
local macro_rules | `(tactic| walk_at "bind") => `(tactic| first
  | exact bind1 (fun _ _ _ _ _ _ _ _ _ _ _ _ _ => by kernel_rfl!)
  | exact bind2 (fun _ _ _ _ _ _ _ _ _ _ _ _ _ _ => by kernel_rfl!)
  | exact bind3 (fun _ _ _ _ _ _ _ _ _ _ _ _ _ _ _ => by kernel_rfl!))
local macro_rules | `(tactic| walk_at "s") => `(tactic| first
  | with_reducible first | refine exs_cons ?_ | refine exs_nil ?_ | refine ex_if ?_ | refine ex_ret ?_ | refine ex_pass ?_ | refine ex_cont ?_
  | ((with_reducible refine' ex_assign ?_ ?k1 ?k2); (case k1 => walk_at "can"); (case k2 => with_unfolding_all rfl))
  | ((with_reducible refine' ex_aug ?k1 ?_ ?k2); (case k1 => walk_at "lk"); (case k2 => walk_at "can"))
  | ((with_reducible refine' ex_set ?_ ?k1); (case k1 => with_unfolding_all rfl))
  | ((with_reducible refine' ex_augset ?_ ?k1); (case k1 => intros; with_unfolding_all rfl))
  | ((with_reducible refine' ex_expr ?_ ?k1 ?k2); (case k1 => with_unfolding_all rfl); (case k2 => with_unfolding_all rfl))
  | with_reducible first | refine tr_cmp ?_ | refine tr_not ?_ | refine and_cons ?_ | refine or_cons ?_ | refine and_nil ?_ | refine or_nil ?_
  | walk_at "nm"
  | ((with_reducible refine' ex_asg2 ?_ ?k1 ?k2); (case k1 => with_unfolding_all rfl); (case k2 => with_unfolding_all rfl))
  | ((with_reducible refine' st_name ?k1 ?_); (case k1 => walk_at "can"))
  | with_reducible first | refine ev_int ?_ | refine ev_str ?_ | refine ev_none ?_ | refine ev_binop ?_ | refine ev_unop ?_ | refine ev_cmp ?_ | refine ev_if ?_
  | ((with_reducible refine' ev_tup ?_ ?k1); (case k1 => with_unfolding_all rfl))
  | with_reducible first | refine ev_slice ?_ | refine ev_sub ?_ | refine evo_none ?_ | refine evo_some ?_ | refine Or.inr ⟨_, rfl, ?_⟩ | refine Or.inl ⟨rfl, ?_⟩ | refine evl_nil ?_ | refine evl_cons ?_ | refine ⟨_, rfl, ?_⟩ | refine tru_bool ?_ | refine tru_int ?_ | refine op_add ?_ | refine op_sub ?_ | refine op_iadd ?_ | refine op_isub ?_ | refine op_neg ?_ | refine op_eq ?_ | refine op_ne ?_ | refine op_lt ?_ | refine op_gt ?_ | refine op_eqs ?_ | refine op_ins ?_ | refine then_next ?_ | refine then_ret ?_ | refine then_cont ?_ | refine lp_next ?_ | refine lp_ret ?_ | refine lp_cont ?_
  | with_reducible refine via_go (by with_reducible assumption) ?_)
local macro_rules | `(tactic| walk_at "ss") => `(tactic| repeat walk_at "s")
section
noncomputable abbrev st1 (n : Nat) : Stmt := nth PySem.Challenge.pw_pe0146_01.main.body n
noncomputable abbrev me1 (c n : Nat) : Stmt := nth (dfBody (st1 c)) n
noncomputable def lowOk (x : Str) : Prop := Builtin.Str.tooLong (Txt.lower x).length = false
noncomputable def subCost (x y : Str) : Int := if x = y then 0 else if Txt.lower x = Txt.lower y then 1 else 2
noncomputable def FnIs (C : Cx) (f : Addr) (qual : Str) (st : Stmt) : Prop := ∃ cd, FnAt C.K f qual (dfArgs st) (dfBody st) (dfScope st) cd
noncomputable def BiIs (C : Cx) (x : Str) (v : Value) : Prop := nsIn C.K mainGlobals x = some none ∧ nsIn C.K builtinsNs x = some (some v)
noncomputable def GlIs (C : Cx) (x : Str) (v : Value) : Prop := nsIn C.K mainGlobals x = some (some v)
noncomputable def FnC (C : Cx) (f : Addr) (qual : Str) (st : Stmt) (P : Addr) : Prop := ∃ c, FnAt C.K f qual (dfArgs st) (dfBody st) (dfScope st) (.ref c) ∧ CodeAt C.K c P ∧ P ∈ C.tabs
noncomputable abbrev rdSt : Stmt := me1 13 1
structure Tm (C : Cx) where
  sub : Addr
  lev : Addr
  afs : Addr
  acs : Addr
  Fsub : FnIs C sub "_substitution_cost" (st1 10)
  Flev : FnIs C lev "_levenshtein_distance" (st1 11)
  Fafs : FnIs C afs "add_func_stats" (st1 4)
  Facs : FnIs C acs "add_callers" (st1 5)
  g_sub : GlIs C "_substitution_cost" (.ref sub)
  g_lev : GlIs C "_levenshtein_distance" (.ref lev)
  g_afs : GlIs C "add_func_stats" (.ref afs)
  g_acs : GlIs C "add_callers" (.ref acs)
  g_case : ∃ t, GlIs C "_CASE_COST" (.int 1 t)
  g_move : ∃ t, GlIs C "_MOVE_COST" (.int 2 t)
  g_max : ∃ t, GlIs C "_MAX_STRING_SIZE" (.int 40 t)
  b_len : BiIs C "len" (.builtin "len")
  b_range : BiIs C "range" (.type "range")
  b_list : BiIs C "list" (.type "list")
  b_min : BiIs C "min" (.builtin "min")
  b_tuple : BiIs C "tuple" (.type "tuple")
  b_isi : BiIs C "isinstance" (.builtin "isinstance")
  b_zip : BiIs C "zip" (.type "zip")
  b_max : BiIs C "max" (.builtin "max")
  b_sorted : BiIs C "sorted" (.builtin "sorted")
  b_enum : BiIs C "enumerate" (.type "enumerate")
  b_iter : BiIs C "iter" (.builtin "iter")
  b_sum : BiIs C "sum" (.builtin "sum")
  nm : Value
  mkO : MkOk C.K nm
  lex : Addr
  klex : KlsAt C.K lex
  fI : Addr
  fR : Addr
  fG : Addr
  FI : FnIs C fI "_netrclex.__init__" (me1 1 0)
  FR : FnIs C fR "_netrclex._read_char" (me1 1 1)
  FG : FnIs C fG "_netrclex.get_token" (me1 1 2)
  tI : typeIn C.K (.ref fI) = some (.type "function")
  tR : typeIn C.K (.ref fR) = some (.type "function")
  tG : typeIn C.K (.ref fG) = some (.type "function")
  lI : findIn C.K (.ref lex) "__init__" = some (some (.ref fI))
  lR : findIn C.K (.ref lex) "_read_char" = some (some (.ref fR))
  lG : findIn C.K (.ref lex) "get_token" = some (some (.ref fG))
  oR : findObj C.K lex (some emptyDict) "_read_char" = some (.bind (.builtin "function.__get__") (.ref fR))
  oR' : ∀ o, lookIn "_read_char" o = some none → findObj C.K lex (some o) "_read_char" = findObj C.K lex (some emptyDict) "_read_char"
  n1 : findIn C.K (.ref lex) "lineno" = some none
  n2 : findIn C.K (.ref lex) "instream" = some none
  n3 : findIn C.K (.ref lex) "whitespace" = some none
  n4 : findIn C.K (.ref lex) "pushback" = some none
  s1 : takerIn C.K lex "lineno" = some none
  s2 : takerIn C.K lex "instream" = some none
  s3 : takerIn C.K lex "whitespace" = some none
  s4 : takerIn C.K lex "pushback" = some none
  rdR : RdIs C (dfArgs rdSt) (dfBody rdSt) (dfScope rdSt) "size"
  rdr : Addr
  Prdr : Addr
  Crdr : FnC C rdr "_law_reader" (st1 13) Prdr
  tq_rd : C.tq Prdr 129 4 = "_law_reader.<locals>._law_read_on"
  tq_la : C.tq Prdr 133 13 = "_law_reader.<locals>.<lambda>"
  g_lex : GlIs C "_netrclex" (.ref lex)
  keep_lex : keepIn C.K (.ref lex) = true
  rd_in : ∀ fd, FdIs fd "_law_read_on" "_law_reader.<locals>._law_read_on" (dfArgs rdSt) (.stmts (dfBody rdSt)) (dfScope rdSt) fd.closure → C.rd fd
  tcp : Addr
  ktcp : KlsAt C.K tcp
  gI : Addr
  gC : Addr
  GI : FnIs C gI "TupleComp.__init__" (me1 3 0)
  GC : FnIs C gC "TupleComp.compare" (me1 3 1)
  uI : typeIn C.K (.ref gI) = some (.type "function")
  uC : typeIn C.K (.ref gC) = some (.type "function")
  mI : findIn C.K (.ref tcp) "__init__" = some (some (.ref gI))
  mC : findIn C.K (.ref tcp) "compare" = some (some (.ref gC))
  m1 : findIn C.K (.ref tcp) "comp_select_list" = some none
  v1 : takerIn C.K tcp "comp_select_list" = some none
  g_tcp : GlIs C "TupleComp" (.ref tcp)
  keep_tcp : keepIn C.K (.ref tcp) = true
  fP : Addr
  FP : FnIs C fP "_netrclex.push_token" (me1 1 3)
  tP : typeIn C.K (.ref fP) = some (.type "function")
  lP : findIn C.K (.ref lex) "push_token" = some (some (.ref fP))
  wrd : Addr
  wrt : Addr
  prc : Addr
  Fwrd : FnIs C wrd "_law_word" (st1 14)
  Fwrt : FnIs C wrt "_law_written" (st1 15)
  Fprc : FnIs C prc "_law_price" (st1 16)
  g_wrd : GlIs C "_law_word" (.ref wrd)
  g_wrt : GlIs C "_law_written" (.ref wrt)
  g_prc : GlIs C "_law_price" (.ref prc)
  g_rdr : GlIs C "_law_reader" (.ref rdr)
  law : Addr
  Plaw : Addr
  Claw : FnC C law "law" (st1 17) Plaw
  tq_lam : C.tq Plaw 202 34 = "law.<locals>.<lambda>"
variable {C : Cx} {A : Around} {σ : Hp} {Q : MV → Hp → Prop}
theorem fn_sub (T : Tm C) {n : Nat} (hA : Ar A (n + 1)) {x y : Str} (hx : lowOk x) (hy : lowOk y) (q : Q (.int (subCost x y)) σ) : Fn C A (.ref T.sub) [.str x, .str y] σ Q := by
  obtain ⟨cd, F⟩ := T.Fsub
  refine fn_go F hA (Loc.set (Loc.set (fun _ => none) "ch_a" (.str x)) "ch_b" (.str y)) (ps := ["ch_a", "ch_b"]) (by walk_at "bind") (by kernel_rfl!) rfl rfl fun L A' KF hKF hA' => exs_cons ?_
  walk_at "ss"
  refine iteB (fun h => ?_) fun h => ?_
  · walk_at "ss"
    simp at h; simpa [subCost, h, retOf_ret] using q
  walk_at "ss"
  refine ev_lower ?_
  walk_at "nm"
  refine ⟨_, rfl, hx, ?_⟩
  refine ev_lower ?_
  walk_at "nm"
  refine ⟨_, rfl, hy, ?_⟩
  walk_at "ss"
  obtain ⟨t1, g1⟩ := T.g_case
  obtain ⟨t2, g2⟩ := T.g_move
  refine iteB (fun h' => ?_) fun h' => ?_
  · walk_at "ss"
    refine ev_globI (by kernel_rfl!) g1 ?_
    walk_at "ss"
    simp at h h'; simpa [subCost, h, h', retOf_ret] using q
  walk_at "ss"
  refine ev_globI (by kernel_rfl!) g2 ?_
  walk_at "ss"
  simp at h h'; simpa [subCost, h, h', retOf_ret] using q
end
section
noncomputable def vw : Program := view PySem.Challenge.pw_pe0146_01 [1, 3, 4, 5, 7, 8, 9, 10, 11, 13, 14, 15, 16, 17]
noncomputable abbrev en (P : Params) (x : Str) (n : Nat) (v : Value) : DictEntry := { hash := PyData.keyHash P x, key := .str x n, val := v }
noncomputable def K1 (P : Params) : Frag := [
  (0, { cls := .type "dict", data := Data.dict #[en P "__name__" 1 (.str ("builtins") 160), en P "__doc__" 2 (.builtin "builtins.__doc__:str#opaque"), en P "__package__" 3 (.builtin "builtins.__package__:str#opaque"), en P "__loader__" 4 (.builtin "builtins.__loader__:shared#opaque"), en P "__spec__" 5 (.builtin "builtins.__spec__#opaque"), en P "__build_class__" 6 (.builtin "__build_class__"), en P "__import__" 7 (.builtin "__import__"), en P "abs" 8 (.builtin "abs"), en P "all" 9 (.builtin "all"), en P "any" 10 (.builtin "any"), en P "ascii" 11 (.builtin "ascii"), en P "bin" 12 (.builtin "bin"), en P "breakpoint" 13 (.builtin "breakpoint"), en P "callable" 14 (.builtin "callable"), en P "chr" 15 (.builtin "chr"), en P "compile" 16 (.builtin "compile"), en P "delattr" 17 (.builtin "delattr"), en P "dir" 18 (.builtin "dir"), en P "divmod" 19 (.builtin "divmod"), en P "eval" 20 (.builtin "eval"), en P "exec" 21 (.builtin "exec"), en P "format" 22 (.builtin "format"), en P "getattr" 23 (.builtin "getattr"), en P "globals" 24 (.builtin "globals"), en P "hasattr" 25 (.builtin "hasattr"), en P "hash" 26 (.builtin "hash"), en P "hex" 27 (.builtin "hex"), en P "id" 28 (.builtin "id"), en P "input" 29 (.builtin "input"), en P "isinstance" 30 (.builtin "isinstance"), en P "issubclass" 31 (.builtin "issubclass"), en P "iter" 32 (.builtin "iter"), en P "aiter" 33 (.builtin "aiter"), en P "len" 34 (.builtin "len"), en P "locals" 35 (.builtin "locals"), en P "max" 36 (.builtin "max"), en P "min" 37 (.builtin "min"), en P "next" 38 (.builtin "next"), en P "anext" 39 (.builtin "anext"), en P "oct" 40 (.builtin "oct"), en P "ord" 41 (.builtin "ord"), en P "pow" 42 (.builtin "pow"), en P "print" 43 (.builtin "print"), en P "repr" 44 (.builtin "repr"), en P "round" 45 (.builtin "round"), en P "setattr" 46 (.builtin "setattr"), en P "sorted" 47 (.builtin "sorted"), en P "sum" 48 (.builtin "sum"), en P "vars" 49 (.builtin "vars"), en P "None" 50 (.none), en P "Ellipsis" 51 (Value.ellipsis), en P "NotImplemented" 52 (Value.notImplemented), en P "False" 53 (.bool false), en P "True" 54 (.bool true), en P "bool" 55 (.type "bool"), en P "memoryview" 56 (.type "memoryview"), en P "bytearray" 57 (.type "bytearray"), en P "bytes" 58 (.type "bytes"), en P "classmethod" 59 (.type "classmethod"), en P "complex" 60 (.type "complex"), en P "dict" 61 (.type "dict"), en P "enumerate" 62 (.type "enumerate"), en P "filter" 63 (.type "filter"), en P "float" 64 (.type "float"), en P "frozenset" 65 (.type "frozenset"), en P "property" 66 (.type "property"), en P "int" 67 (.type "int"), en P "list" 68 (.type "list"), en P "map" 69 (.type "map"), en P "object" 70 (.type "object"), en P "range" 71 (.type "range"), en P "reversed" 72 (.type "reversed"), en P "set" 73 (.type "set"), en P "slice" 74 (.type "slice"), en P "staticmethod" 75 (.type "staticmethod"), en P "str" 76 (.type "str"), en P "super" 77 (.type "super"), en P "tuple" 78 (.type "tuple"), en P "type" 79 (.type "type"), en P "zip" 80 (.type "zip"), en P "__debug__" 81 (.bool true), en P "BaseException" 82 (.type "BaseException"), en P "BaseExceptionGroup" 83 (.type "BaseExceptionGroup"), en P "Exception" 84 (.type "Exception"), en P "GeneratorExit" 85 (.type "GeneratorExit"), en P "KeyboardInterrupt" 86 (.type "KeyboardInterrupt"), en P "SystemExit" 87 (.type "SystemExit"), en P "ArithmeticError" 88 (.type "ArithmeticError"), en P "AssertionError" 89 (.type "AssertionError"), en P "AttributeError" 90 (.type "AttributeError"), en P "BufferError" 91 (.type "BufferError"), en P "EOFError" 92 (.type "EOFError"), en P "ImportError" 93 (.type "ImportError"), en P "LookupError" 94 (.type "LookupError"), en P "MemoryError" 95 (.type "MemoryError"), en P "NameError" 96 (.type "NameError"), en P "OSError" 97 (.type "OSError"), en P "ReferenceError" 98 (.type "ReferenceError"), en P "RuntimeError" 99 (.type "RuntimeError"), en P "StopAsyncIteration" 100 (.type "StopAsyncIteration"), en P "StopIteration" 101 (.type "StopIteration"), en P "SyntaxError" 102 (.type "SyntaxError"), en P "SystemError" 103 (.type "SystemError"), en P "TypeError" 104 (.type "TypeError"), en P "ValueError" 105 (.type "ValueError"), en P "Warning" 106 (.type "Warning"), en P "FloatingPointError" 107 (.type "FloatingPointError"), en P "OverflowError" 108 (.type "OverflowError"), en P "ZeroDivisionError" 109 (.type "ZeroDivisionError"), en P "BytesWarning" 110 (.type "BytesWarning"), en P "DeprecationWarning" 111 (.type "DeprecationWarning"), en P "EncodingWarning" 112 (.type "EncodingWarning"), en P "FutureWarning" 113 (.type "FutureWarning"), en P "ImportWarning" 114 (.type "ImportWarning"), en P "PendingDeprecationWarning" 115 (.type "PendingDeprecationWarning"), en P "ResourceWarning" 116 (.type "ResourceWarning"), en P "RuntimeWarning" 117 (.type "RuntimeWarning"), en P "SyntaxWarning" 118 (.type "SyntaxWarning"), en P "UnicodeWarning" 119 (.type "UnicodeWarning"), en P "UserWarning" 120 (.type "UserWarning"), en P "BlockingIOError" 121 (.type "BlockingIOError"), en P "ChildProcessError" 122 (.type "ChildProcessError"), en P "ConnectionError" 123 (.type "ConnectionError"), en P "FileExistsError" 124 (.type "FileExistsError"), en P "FileNotFoundError" 125 (.type "FileNotFoundError"), en P "InterruptedError" 126 (.type "InterruptedError"), en P "IsADirectoryError" 127 (.type "IsADirectoryError"), en P "NotADirectoryError" 128 (.type "NotADirectoryError"), en P "PermissionError" 129 (.type "PermissionError"), en P "ProcessLookupError" 130 (.type "ProcessLookupError"), en P "TimeoutError" 131 (.type "TimeoutError"), en P "IndentationError" 132 (.type "IndentationError"), en P "_IncompleteInputError" 133 (.type "_IncompleteInputError"), en P "IndexError" 134 (.type "IndexError"), en P "KeyError" 135 (.type "KeyError"), en P "ModuleNotFoundError" 136 (.type "ModuleNotFoundError"), en P "NotImplementedError" 137 (.type "NotImplementedError"), en P "PythonFinalizationError" 138 (.type "PythonFinalizationError"), en P "RecursionError" 139 (.type "RecursionError"), en P "UnboundLocalError" 140 (.type "UnboundLocalError"), en P "UnicodeError" 141 (.type "UnicodeError"), en P "BrokenPipeError" 142 (.type "BrokenPipeError"), en P "ConnectionAbortedError" 143 (.type "ConnectionAbortedError"), en P "ConnectionRefusedError" 144 (.type "ConnectionRefusedError"), en P "ConnectionResetError" 145 (.type "ConnectionResetError"), en P "TabError" 146 (.type "TabError"), en P "UnicodeDecodeError" 147 (.type "UnicodeDecodeError"), en P "UnicodeEncodeError" 148 (.type "UnicodeEncodeError"), en P "UnicodeTranslateError" 149 (.type "UnicodeTranslateError"), en P "ExceptionGroup" 150 (.type "ExceptionGroup"), en P "EnvironmentError" 151 (.type "OSError"), en P "IOError" 152 (.type "OSError"), en P "open" 153 (.builtin "open"), en P "quit" 154 (.builtin "builtins.quit#opaque"), en P "exit" 155 (.builtin "builtins.exit#opaque"), en P "copyright" 156 (.builtin "builtins.copyright#opaque"), en P "credits" 157 (.builtin "builtins.credits#opaque"), en P "license" 158 (.builtin "builtins.license#opaque"), en P "help" 159 (.builtin "builtins.help#opaque")] 159 }),
  (1, { cls := .type "dict", data := Data.dict #[en P "builtins" 162 (.ref 4), en P "__main__" 163 (.ref 5)] 2 }),
  (3, { cls := .type "dict", data := Data.dict #[en P "__name__" 165 (.str ("law_pe0146_01") 356), en P "__doc__" 166 (.none), en P "__package__" 167 (.none), en P "__loader__" 168 (.builtin "__main__.__loader__#opaque"), en P "__spec__" 169 (.none), en P "__annotations__" 170 (.ref 6), en P "__builtins__" 171 (.ref 4), en P "__file__" 173 (.str ("/claim/cut.py") 172), en P "__cached__" 174 (.none), en P "_netrclex" 246 (.ref 52), en P "TupleComp" 290 (.ref 80), en P "add_func_stats" 308 (.ref 91), en P "add_callers" 319 (.ref 98), en P "_MAX_STRING_SIZE" 323 (.int 40 322), en P "_MOVE_COST" 325 (.int 2 324), en P "_CASE_COST" 327 (.int 1 326), en P "_substitution_cost" 335 (.ref 105), en P "_levenshtein_distance" 355 (.ref 112), en P "_law_reader" 368 (.ref 119), en P "_law_word" 376 (.ref 126), en P "_law_written" 382 (.ref 131), en P "_law_price" 388 (.ref 136), en P "law" 394 (.ref 141)] 23 }),
  (4, { cls := .type "module", dict := some 0 }),
  (5, { cls := .type "module", dict := some 3 }),
  (6, { cls := .type "dict", data := Data.dict #[] }),
  (9, { cls := .type "code", data := Data.fields #[.str ("<module>") 176, .str ("<module>") 177, .str ("/claim/cut.py") 178, .int 1 0, .int 0 0, .int 0 0, .int 0 0, .int 0 0, .ref 7, .bool false, .int 175 0, .ref 8, .none, .none, .none, .none, .int 179 0, .int 1 0, .str ("/claim/cut.py") 180] }),
  (10, { cls := .type "frame", slots := #[some (.ref 9), some (.ref 3), some (.ref 3), none, some (.str ("__main__") 164), none, some (.ref 0)] }),
  (13, { cls := .type "code", data := Data.fields #[.str ("<module>") 182, .str ("<module>") 183, .str ("/claim/cut.py") 184, .int 1 0, .int 0 0, .int 0 0, .int 0 0, .int 0 0, .ref 11, .bool false, .int 181 0, .ref 12, .none, .none, .none, .none, .int 185 0, .int 1 0, .str ("/claim/cut.py") 186] }),
  (14, { cls := .type "frame", slots := #[some (.ref 13), some (.ref 3), some (.ref 3), none, some (.str ("__main__") 164), none, some (.ref 0)] }),
  (27, { cls := .type "code", data := Data.fields #[.str ("__init__") 201, .str ("_netrclex.__init__") 202, .str ("/claim/cut.py") 203, .int 4 0, .int 2 0, .int 0 0, .int 0 0, .int 3 0, .ref 22, .bool true, .int 181 0, .ref 23, .none, .ref 24, .ref 25, .ref 26, .int 206 0, .int 4 0, .str ("/claim/cut.py") 207] }),
  (28, { cls := .type "function", data := Data.func { name := "__init__", qualname := "_netrclex.__init__", params := dfArgs (me1 1 0), body := .stmts (dfBody (me1 1 0)), scope := dfScope (me1 1 0), globals := 3, closure := [], defaults := .none, kwdefaults := .none, pyModule := .str ("cpy313.netrc") 187, code := .ref 27 } }),
  (34, { cls := .type "code", data := Data.fields #[.str ("_read_char") 209, .str ("_netrclex._read_char") 210, .str ("/claim/cut.py") 211, .int 10 0, .int 1 0, .int 0 0, .int 0 0, .int 3 0, .ref 29, .bool true, .int 181 0, .ref 30, .none, .ref 31, .ref 32, .ref 33, .int 214 0, .int 10 0, .str ("/claim/cut.py") 215] }),
  (35, { cls := .type "function", data := Data.func { name := "_read_char", qualname := "_netrclex._read_char", params := dfArgs (me1 1 1), body := .stmts (dfBody (me1 1 1)), scope := dfScope (me1 1 1), globals := 3, closure := [], defaults := .none, kwdefaults := .none, pyModule := .str ("cpy313.netrc") 187, code := .ref 34 } }),
  (41, { cls := .type "code", data := Data.fields #[.str ("get_token") 217, .str ("_netrclex.get_token") 218, .str ("/claim/cut.py") 219, .int 16 0, .int 1 0, .int 0 0, .int 0 0, .int 3 0, .ref 36, .bool true, .int 181 0, .ref 37, .none, .ref 38, .ref 39, .ref 40, .int 224 0, .int 16 0, .str ("/claim/cut.py") 225] }),
  (42, { cls := .type "function", data := Data.func { name := "get_token", qualname := "_netrclex.get_token", params := dfArgs (me1 1 2), body := .stmts (dfBody (me1 1 2)), scope := dfScope (me1 1 2), globals := 3, closure := [], defaults := .none, kwdefaults := .none, pyModule := .str ("cpy313.netrc") 187, code := .ref 41 } }),
  (48, { cls := .type "code", data := Data.fields #[.str ("push_token") 227, .str ("_netrclex.push_token") 228, .str ("/claim/cut.py") 229, .int 43 0, .int 2 0, .int 0 0, .int 0 0, .int 3 0, .ref 43, .bool true, .int 181 0, .ref 44, .none, .ref 45, .ref 46, .ref 47, .int 232 0, .int 43 0, .str ("/claim/cut.py") 233] }),
  (49, { cls := .type "function", data := Data.func { name := "push_token", qualname := "_netrclex.push_token", params := dfArgs (me1 1 3), body := .stmts (dfBody (me1 1 3)), scope := dfScope (me1 1 3), globals := 3, closure := [], defaults := .none, kwdefaults := .none, pyModule := .str ("cpy313.netrc") 187, code := .ref 48 } }),
  (51, { cls := .type "dict", data := Data.dict #[en P "__module__" 196 (.str ("cpy313.netrc") 187), en P "__firstlineno__" 200 (.int 2 199), en P "__init__" 208 (.ref 28), en P "_read_char" 216 (.ref 35), en P "get_token" 226 (.ref 42), en P "push_token" 234 (.ref 49), en P "__static_attributes__" 239 (.ref 50), en P "__dict__" 241 (.ref 53), en P "__weakref__" 243 (.ref 54), en P "__doc__" 244 (.none)] 4 }),
  (52, { cls := .type "type", data := Data.cls { name := "_netrclex", bases := [.type "object"], mro := [.ref 52, .type "object"], ns := 51, qualname := "_netrclex" }, slots := #[none, none, some (.str ("_netrclex") 189), some (.str ("_netrclex") 197), some (.builtin "object.__new__"), some (.bool true)] }),
  (53, { cls := .type "getset_descriptor", data := Data.fields #[.str ("__dict__") 240, .ref 52, .builtin "function.__dict__", .builtin "function.__dict__#set"] }),
  (54, { cls := .type "getset_descriptor", data := Data.fields #[.str ("__weakref__") 242, .ref 52, .builtin "ExceptionGroup.__weakref__", .none] }),
  (69, { cls := .type "code", data := Data.fields #[.str ("__init__") 261, .str ("TupleComp.__init__") 262, .str ("/claim/cut.py") 263, .int 48 0, .int 2 0, .int 0 0, .int 0 0, .int 3 0, .ref 64, .bool true, .int 181 0, .ref 65, .none, .ref 66, .ref 67, .ref 68, .int 266 0, .int 48 0, .str ("/claim/cut.py") 267] }),
  (70, { cls := .type "function", data := Data.func { name := "__init__", qualname := "TupleComp.__init__", params := dfArgs (me1 3 0), body := .stmts (dfBody (me1 3 0)), scope := dfScope (me1 3 0), globals := 3, closure := [], defaults := .none, kwdefaults := .none, pyModule := .str ("cpy313.pstats") 247, code := .ref 69 } }),
  (76, { cls := .type "code", data := Data.fields #[.str ("compare") 269, .str ("TupleComp.compare") 270, .str ("/claim/cut.py") 271, .int 51 0, .int 3 0, .int 0 0, .int 0 0, .int 3 0, .ref 71, .bool true, .int 181 0, .ref 72, .none, .ref 73, .ref 74, .ref 75, .int 279 0, .int 51 0, .str ("/claim/cut.py") 280] }),
  (77, { cls := .type "function", data := Data.func { name := "compare", qualname := "TupleComp.compare", params := dfArgs (me1 3 1), body := .stmts (dfBody (me1 3 1)), scope := dfScope (me1 3 1), globals := 3, closure := [], defaults := .none, kwdefaults := .none, pyModule := .str ("cpy313.pstats") 247, code := .ref 76 } }),
  (79, { cls := .type "dict", data := Data.dict #[en P "__module__" 256 (.str ("cpy313.pstats") 247), en P "__firstlineno__" 260 (.int 46 259), en P "__init__" 268 (.ref 70), en P "compare" 281 (.ref 77), en P "__static_attributes__" 283 (.ref 78), en P "__dict__" 285 (.ref 81), en P "__weakref__" 287 (.ref 82), en P "__doc__" 288 (.none)] 4 }),
  (80, { cls := .type "type", data := Data.cls { name := "TupleComp", bases := [.type "object"], mro := [.ref 80, .type "object"], ns := 79, qualname := "TupleComp" }, slots := #[none, none, some (.str ("TupleComp") 249), some (.str ("TupleComp") 257), some (.builtin "object.__new__"), some (.bool true)] }),
  (81, { cls := .type "getset_descriptor", data := Data.fields #[.str ("__dict__") 284, .ref 80, .builtin "function.__dict__", .builtin "function.__dict__#set"] }),
  (82, { cls := .type "getset_descriptor", data := Data.fields #[.str ("__weakref__") 286, .ref 80, .builtin "ExceptionGroup.__weakref__", .none] }),
  (90, { cls := .type "code", data := Data.fields #[.str ("add_func_stats") 291, .str ("add_func_stats") 292, .str ("/claim/cut.py") 293, .int 60 0, .int 2 0, .int 0 0, .int 0 0, .int 3 0, .ref 85, .bool true, .int 181 0, .ref 86, .none, .ref 87, .ref 88, .ref 89, .int 306 0, .int 60 0, .str ("/claim/cut.py") 307] }),
  (91, { cls := .type "function", data := Data.func { name := "add_func_stats", qualname := "add_func_stats", params := dfArgs (st1 4), body := .stmts (dfBody (st1 4)), scope := dfScope (st1 4), globals := 3, closure := [], defaults := .none, kwdefaults := .none, pyModule := .str ("cpy313.pstats") 247, code := .ref 90 } }),
  (97, { cls := .type "code", data := Data.fields #[.str ("add_callers") 309, .str ("add_callers") 310, .str ("/claim/cut.py") 311, .int 64 0, .int 2 0, .int 0 0, .int 0 0, .int 3 0, .ref 92, .bool true, .int 181 0, .ref 93, .none, .ref 94, .ref 95, .ref 96, .int 317 0, .int 64 0, .str ("/claim/cut.py") 318] }),
  (98, { cls := .type "function", data := Data.func { name := "add_callers", qualname := "add_callers", params := dfArgs (st1 5), body := .stmts (dfBody (st1 5)), scope := dfScope (st1 5), globals := 3, closure := [], defaults := .none, kwdefaults := .none, pyModule := .str ("cpy313.pstats") 247, code := .ref 97 } }),
  (104, { cls := .type "code", data := Data.fields #[.str ("_substitution_cost") 328, .str ("_substitution_cost") 329, .str ("/claim/cut.py") 330, .int 81 0, .int 2 0, .int 0 0, .int 0 0, .int 3 0, .ref 99, .bool true, .int 181 0, .ref 100, .none, .ref 101, .ref 102, .ref 103, .int 333 0, .int 81 0, .str ("/claim/cut.py") 334] }),
  (105, { cls := .type "function", data := Data.func { name := "_substitution_cost", qualname := "_substitution_cost", params := dfArgs (st1 10), body := .stmts (dfBody (st1 10)), scope := dfScope (st1 10), globals := 3, closure := [], defaults := .none, kwdefaults := .none, pyModule := .str ("cpy313.traceback") 320, code := .ref 104 } }),
  (111, { cls := .type "code", data := Data.fields #[.str ("_levenshtein_distance") 336, .str ("_levenshtein_distance") 337, .str ("/claim/cut.py") 338, .int 87 0, .int 3 0, .int 0 0, .int 0 0, .int 3 0, .ref 106, .bool true, .int 181 0, .ref 107, .none, .ref 108, .ref 109, .ref 110, .int 353 0, .int 87 0, .str ("/claim/cut.py") 354] }),
  (112, { cls := .type "function", data := Data.func { name := "_levenshtein_distance", qualname := "_levenshtein_distance", params := dfArgs (st1 11), body := .stmts (dfBody (st1 11)), scope := dfScope (st1 11), globals := 3, closure := [], defaults := .none, kwdefaults := .none, pyModule := .str ("cpy313.traceback") 320, code := .ref 111 } }),
  (114, { cls := .none, data := Data.fields #[] }),
  (118, { cls := .type "code", data := Data.fields #[.str ("_law_reader") 358, .str ("_law_reader") 359, .str ("/claim/cut.py") 360, .int 126 0, .int 1 0, .int 0 0, .int 0 0, .int 3 0, .ref 113, .bool true, .int 181 0, .ref 114, .none, .ref 115, .ref 116, .ref 117, .int 366 0, .int 126 0, .str ("/claim/cut.py") 367] }),
  (119, { cls := .type "function", data := Data.func { name := "_law_reader", qualname := "_law_reader", params := dfArgs (st1 13), body := .stmts (dfBody (st1 13)), scope := dfScope (st1 13), globals := 3, closure := [], defaults := .none, kwdefaults := .none, pyModule := .str ("law_pe0146_01") 356, code := .ref 118 } }),
  (125, { cls := .type "code", data := Data.fields #[.str ("_law_word") 369, .str ("_law_word") 370, .str ("/claim/cut.py") 371, .int 136 0, .int 1 0, .int 0 0, .int 0 0, .int 3 0, .ref 120, .bool true, .int 181 0, .ref 121, .none, .ref 122, .ref 123, .ref 124, .int 374 0, .int 136 0, .str ("/claim/cut.py") 375] }),
  (126, { cls := .type "function", data := Data.func { name := "_law_word", qualname := "_law_word", params := dfArgs (st1 14), body := .stmts (dfBody (st1 14)), scope := dfScope (st1 14), globals := 3, closure := [], defaults := .none, kwdefaults := .none, pyModule := .str ("law_pe0146_01") 356, code := .ref 125 } }),
  (130, { cls := .type "code", data := Data.fields #[.str ("_law_written") 377, .str ("_law_written") 378, .str ("/claim/cut.py") 379, .int 139 0, .int 2 0, .int 0 0, .int 0 0, .int 3 0, .ref 127, .bool true, .int 181 0, .ref 128, .none, .none, .none, .ref 129, .int 380 0, .int 139 0, .str ("/claim/cut.py") 381] }),
  (131, { cls := .type "function", data := Data.func { name := "_law_written", qualname := "_law_written", params := dfArgs (st1 15), body := .stmts (dfBody (st1 15)), scope := dfScope (st1 15), globals := 3, closure := [], defaults := .none, kwdefaults := .none, pyModule := .str ("law_pe0146_01") 356, code := .ref 130 } }),
  (135, { cls := .type "code", data := Data.fields #[.str ("_law_price") 383, .str ("_law_price") 384, .str ("/claim/cut.py") 385, .int 145 0, .int 2 0, .int 0 0, .int 0 0, .int 3 0, .ref 132, .bool true, .int 181 0, .ref 133, .none, .none, .none, .ref 134, .int 386 0, .int 145 0, .str ("/claim/cut.py") 387] }),
  (136, { cls := .type "function", data := Data.func { name := "_law_price", qualname := "_law_price", params := dfArgs (st1 16), body := .stmts (dfBody (st1 16)), scope := dfScope (st1 16), globals := 3, closure := [], defaults := .none, kwdefaults := .none, pyModule := .str ("law_pe0146_01") 356, code := .ref 135 } }),
  (138, { cls := .none, data := Data.fields #[] }),
  (140, { cls := .type "code", data := Data.fields #[.str ("law") 389, .str ("law") 390, .str ("/claim/cut.py") 391, .int 155 0, .int 1 0, .int 0 0, .int 0 0, .int 3 0, .ref 137, .bool true, .int 181 0, .ref 138, .none, .none, .none, .ref 139, .int 392 0, .int 155 0, .str ("/claim/cut.py") 393] }),
  (141, { cls := .type "function", data := Data.func { name := "law", qualname := "law", params := dfArgs (st1 17), body := .stmts (dfBody (st1 17)), scope := dfScope (st1 17), globals := 3, closure := [], defaults := .none, kwdefaults := .none, pyModule := .str ("law_pe0146_01") 356, code := .ref 140 } })]
def as1 : List Addr := [0, 1, 3, 4, 5, 6, 9, 10, 13, 14, 27, 28, 34, 35, 41, 42, 48, 49, 51, 52, 53, 54, 69, 70, 76, 77, 79, 80, 81, 82, 90, 91, 97, 98, 104, 105, 111, 112, 114, 118, 119, 125, 126, 130, 131, 135, 136, 138, 140, 141]
noncomputable abbrev HK : Hook := kHook K1 as1 (fun _ => by kernel_rfl)
noncomputable def d1 : DefRec := ⟨"law", dfArgs (st1 17), dfBody (st1 17), dfScope (st1 17), match st1 17 with | .FunctionDef _ _ _ _ _ _ _ _ _ p => p | _ => ⟨0, 0, 0, 0⟩⟩
set_option maxRecDepth 100000 in
set_option maxHeartbeats 0 in
theorem leftK : LeftO PySem.Challenge.rw_pe0146_01.row.prog vw [] (fun s => xlAt vw [] s && recOk (RowW.records (OpenRow.toRowW PySem.Challenge.rw_pe0146_01.row)) s) (Hook.obs HK) (Hook.val HK) 1988 := by
  intro w
  kernel_rfl
end
section
set_option maxHeartbeats 4000000

noncomputable def comm : List Nat → List Nat → Nat
  | x :: xs, y :: ys => if x = y then comm xs ys + 1 else 0
  | _, _ => 0
noncomputable def lvI (bc : Nat) (a : List Nat) : Nat → Int × Int × Int × List Int → Int × Int × Int × List Int
  | 0, s => s
  | i + 1, s =>
    let (d, r, m, row) := lvI bc a i s
    let d' := row.getD i 0
    let r' := min (min r d' + 2) (d + subCost (S [bc]) (S [a.getD i 0]))
    (d', r', (if r' < m then r' else m), row.set i r')
noncomputable def lvO (a b : List Nat) (mc : Int) : Nat → Option (Int × List Int)
  | 0 => some (0, (List.range a.length).map fun i : Nat => 2 + (i : Int) * 2)
  | j + 1 => match lvO a b mc j with
    | none => none
    | some (_, row) =>
      let (_, r, m, row') := lvI (b.getD j 0) a a.length ((j : Int) * 2, (j : Int) * 2, 9223372036854775807, row)
      if m > mc then none else some (r, row')
theorem lvI_succ (bc : Nat) (a : List Nat) (i : Nat) (s : Int × Int × Int × List Int) : lvI bc a (i + 1) s =
    (let (d, r, m, row) := lvI bc a i s
     let d' := row.getD i 0
     let r' := min (min r d' + 2) (d + subCost (S [bc]) (S [a.getD i 0]))
     (d', r', (if r' < m then r' else m), row.set i r')) := rfl
theorem lvO_succ (a b : List Nat) (mc : Int) (j : Nat) : lvO a b mc (j + 1) = match lvO a b mc j with
    | none => none
    | some (_, row) =>
      let (_, r, m, row') := lvI (b.getD j 0) a a.length ((j : Int) * 2, (j : Int) * 2, 9223372036854775807, row)
      if m > mc then none else some (r, row') := rfl
noncomputable def lvD (a b : List Nat) (mc : Int) : Int := match lvO a b mc b.length with
  | none => mc + 1
  | some (r, _) => r
noncomputable def cutP (p : Nat) (l : List Nat) : List Nat := l.take (l.length - p)
noncomputable def lvT (a b : List Nat) (mc : Int) : Int :=
  if a = [] ∨ b = [] then 2 * ((a.length : Int) + b.length)
  else if b.length < a.length then (if ((a.length : Int) - b.length) * 2 > mc then mc + 1 else lvD b a mc)
  else (if ((b.length : Int) - a.length) * 2 > mc then mc + 1 else lvD a b mc)
noncomputable def levF (a b : List Nat) (mc : Int) : Int :=
  if a = b then 0
  else
    let a1 := a.drop (comm a b)
    let b1 := b.drop (comm a b)
    let p := comm a1.reverse b1.reverse
    lvT (cutP p a1) (cutP p b1) mc
noncomputable def okS (l : List Nat) : Prop := ∀ c ∈ l, lowOk (S [c])
theorem lvO_none {a b : List Nat} {mc : Int} {j : Nat} (h : lvO a b mc j = none) : ∀ k, lvO a b mc (j + k) = none
  | 0 => h
  | k + 1 => by rw [← Nat.add_assoc, lvO_succ, lvO_none h k]
variable {C : Cx} {A : Around} {σ : Hp} {Q : MV → Hp → Prop}
theorem lev_dp (T : Tm C) {n : Nat} {A' : Around} (hA' : Ar A' (n + 1)) {cd : Value} {L : Addr} {a b : List Nat} {mc : Int} {l : Loc} {ℓ : Nat} {K : Fl → Loc → Hp → Prop} (hK : Via (fun fl _ σ' => retOf fl = .int (if ((b.length : Int) - a.length) * 2 > mc then mc + 1 else lvD a b mc) ∧ ∀ n, σ n ≠ none → σ' n = σ n) K) (la : l "a" = some (.str (S a))) (lb : l "b" = some (.str (S b))) (lm : l "max_cost" = some (.int mc))
    (oka : okS a) (okb : okS b) (hla : a.length ≤ 40) (hlb : b.length ≤ 40) (hℓ : σ ℓ = none) :
    Exs C A' ⟨envC (dfScope (st1 11)) "_levenshtein_distance" cd T.lev L, ownOf (dfScope (st1 11))⟩ ((dfBody (st1 11)).drop 12) l σ K := by
  obtain ⟨t1, g1⟩ := T.g_case
  obtain ⟨t2, g2⟩ := T.g_move
  obtain ⟨cs, Fs⟩ := id T.Fsub
  refine exs_cons ?_
  walk_at "ss"
  refine ev_callB (.bi _) (by kernel_rfl!) T.b_len.1 T.b_len.2 ?_
  walk_at "ss"
  refine cal_lenS (by walk_at "l") ?_
  refine ev_callB (.bi _) (by kernel_rfl!) T.b_len.1 T.b_len.2 ?_
  walk_at "ss"
  refine cal_lenS (by walk_at "l") ?_
  walk_at "ss"
  refine ev_globI (by kernel_rfl!) g2 ?_
  refine op_mulB (by walk_at "l") ?_
  walk_at "ss"
  refine iteB (fun h => ?_) fun h => ?_
  · walk_at "ss"
    exact ⟨by rw [if_pos (by simpa using h)]; rfl, fun _ _ => rfl⟩
  rw [if_neg (by simpa using h)] at hK
  walk_at "ss"
  refine ev_callB (.ty _) (by kernel_rfl!) T.b_list.1 T.b_list.2 ?_
  walk_at "ss"
  refine ev_callB (.ty _) (by kernel_rfl!) T.b_range.1 T.b_range.2 ?_
  walk_at "ss"
  refine ev_globI (by kernel_rfl!) g2 ?_
  walk_at "ss"
  refine ev_globI (by kernel_rfl!) g2 ?_
  walk_at "ss"
  refine ev_callB (.bi _) (by kernel_rfl!) T.b_len.1 T.b_len.2 ?_
  walk_at "ss"
  refine cal_lenS (by walk_at "l") ?_
  walk_at "ss"
  refine op_mulB (by walk_at "l") ?_
  walk_at "ss"
  refine ev_globI (by kernel_rfl!) g2 ?_
  walk_at "ss"
  refine cal_range3 (by walk_at "l") ?_
  refine cal_listR (n := a.length) (ℓ := ℓ) hA'.h (smallR (by walk_at "l") (by walk_at "l") (by walk_at "l")) ?_ (by walk_at "l") hℓ ?_
  · simp only [Builtin.Range.rangeSize]
    rw [if_pos (by walk_at "l")]
    split <;> (first | lia | omega)
  walk_at "ss"
  have dom : ∀ (row : List Int) n, σ n ≠ none → (σ.set ℓ (.list (row.map .int))) n = σ n := fun row n hn => hp_other (fun e => hn (by rw [e]; exact hℓ)) rfl
  refine ex_forR b.length (fun j l σ₁ => ∃ r row, A8 (lvO a b mc j = some (r, row)) (row.length = a.length) (l "a" = some (.str (S a))) (l "b" = some (.str (S b))) (l "max_cost" = some (.int mc)) (l "row" = some (.ref ℓ)) (l "result" = some (.int r)) (σ₁ = σ.set ℓ (.list (row.map .int))))
    hA'.h T.b_range (by kernel_rfl!) (.inl (by kernel_rfl!)) (by walk_at "l") ?_ ?_ ?_
  · refine ev_callB (.bi _) (by kernel_rfl!) T.b_len.1 T.b_len.2 ?_
    walk_at "ss"
    refine cal_lenS (by walk_at "l") ⟨rfl, 0, _, rfl, by simp, by walk_at "lk", by walk_at "lk", by walk_at "lk", by walk_at "lk", by walk_at "lk", ?_⟩
    simp [Function.comp_def]
  · rintro j K1 hK1 l₁ σ₁ hj ⟨r, row, hO, hrow, la₁, lb₁, lm₁, lr₁, lre₁, rfl⟩
    walk_at "ss"
    refine gi_S (by walk_at "l") (List.getElem?_eq_getElem hj) ?_
    walk_at "ss"
    refine ev_globI (by kernel_rfl!) g2 ?_
    refine op_mulB (by walk_at "l") ?_
    walk_at "ss"
    generalize hbc : b[j] = bc
    have hgd : b.getD j 0 = bc := by rw [← hbc]; simp [List.getD, hj]
    have okbc : lowOk (S [bc]) := okb bc (hbc ▸ List.getElem_mem hj)
    refine ex_forR a.length (fun i l σ₁ => ∃ d r' m row', A11 (lvI bc a i ((j : Int) * 2, (j : Int) * 2, 9223372036854775807, row) = (d, r', m, row')) (row'.length = a.length) (l "a" = some (.str (S a))) (l "b" = some (.str (S b))) (l "max_cost" = some (.int mc)) (l "row" = some (.ref ℓ)) (l "result" = some (.int r')) (l "distance" = some (.int d)) (l "minimum" = some (.int m)) (l "bchar" = some (.str (S [bc]))) (σ₁ = σ.set ℓ (.list (row'.map .int))))
      hA'.h T.b_range (by kernel_rfl!) (.inl (by kernel_rfl!)) (by walk_at "l") ?_ ?_ ?_
    · refine ev_callB (.bi _) (by kernel_rfl!) T.b_len.1 T.b_len.2 ?_
      walk_at "ss"
      exact cal_lenS (by walk_at "l") ⟨rfl, _, _, _, row, rfl, hrow, by walk_at "lk", by walk_at "lk", by walk_at "lk", by walk_at "lk", by walk_at "lk", by walk_at "lk", by walk_at "lk", by walk_at "lk", rfl⟩
    · rintro i K2 hK2 l₂ σ₂ hi ⟨d, r', m, row', hI, hrow', la₂, lb₂, lm₂, lr₂, lre₂, ld₂, lmi₂, lbc₂, rfl⟩
      walk_at "ss"
      refine ev_callF Fs (by kernel_rfl!) T.g_sub ?_
      walk_at "ss"
      refine gi_S (by walk_at "l") (List.getElem?_eq_getElem hi) ?_
      walk_at "ss"
      refine fn_sub T hA' okbc (oka _ (List.getElem_mem hi)) ?_
      walk_at "ss"
      refine gi_list (l := row'.map .int) (lst_ref hp_same) (by walk_at "l") (by walk_at "l") (m := .int (row'.getD i 0)) ?_ ?_
      · simp [List.getD, hrow', hi]
      walk_at "ss"
      refine ev_callB (.bi _) (by kernel_rfl!) T.b_min.1 T.b_min.2 ?_
      walk_at "ss"
      refine cal_min2 hA'.h ?_
      refine ev_globI (by kernel_rfl!) g2 ?_
      walk_at "ss"
      refine ev_callB (.bi _) (by kernel_rfl!) T.b_min.1 T.b_min.2 ?_
      walk_at "ss"
      refine cal_min2 hA'.h ?_
      walk_at "ss"
      refine set_list hp_same (by walk_at "l") (by simp [hrow']; (first | lia | omega)) (by walk_at "l") ?_
      walk_at "ss"
      have hIs : lvI bc a (i + 1) ((j : Int) * 2, (j : Int) * 2, 9223372036854775807, row) = (row'.getD i 0, min (min r' (row'.getD i 0) + 2) (d + subCost (S [bc]) (S [a[i]])),
          (if min (min r' (row'.getD i 0) + 2) (d + subCost (S [bc]) (S [a[i]])) < m then min (min r' (row'.getD i 0) + 2) (d + subCost (S [bc]) (S [a[i]])) else m), row'.set i (min (min r' (row'.getD i 0) + 2) (d + subCost (S [bc]) (S [a[i]])))) := by
        have hga : a.getD i 0 = a[i] := by simp [List.getD, hi]
        rw [lvI_succ, hI, hga]
      have hσ : ∀ x : Int, ((σ.set ℓ (.list (row'.map .int))).set ℓ (.list ((row'.map MV.int).set (i : Int).toNat (.int x)))) = σ.set ℓ (.list ((row'.set i x).map .int)) := by
        intro x; funext n
        show (if n = ℓ then _ else if n = ℓ then _ else _) = (if n = ℓ then _ else _)
        split
        · simp [List.map_set]
        · rfl
      refine iteB (fun h => ?_) fun h => ?_
      · walk_at "ss"
        refine ⟨_, _, _, _, hIs, by simp [hrow'], by walk_at "lk", by walk_at "lk", by walk_at "lk", by walk_at "lk", by walk_at "lk", by walk_at "lk", ?_, by walk_at "lk", hσ _⟩
        rw [if_pos (by simpa using h)]; walk_at "lk"
      · walk_at "ss"
        refine ⟨_, _, _, _, hIs, by simp [hrow'], by walk_at "lk", by walk_at "lk", by walk_at "lk", by walk_at "lk", by walk_at "lk", by walk_at "lk", ?_, by walk_at "lk", hσ _⟩
        rw [if_neg (by simpa using h)]; walk_at "lk"
    · rintro l₂ σ₂ ⟨d, r', m, row', hI, hrow', la₂, lb₂, lm₂, lr₂, lre₂, ld₂, lmi₂, lbc₂, rfl⟩
      walk_at "ss"
      have hO' : lvO a b mc (j + 1) = if m > mc then none else some (r', row') := by
        rw [lvO_succ, hO]; simp only [hgd, hI]
      refine iteB (fun h => ?_) fun h => ?_
      · walk_at "ss"
        rw [if_pos (by simpa using h)] at hO'
        have := lvO_none hO' (b.length - (j + 1))
        rw [show j + 1 + (b.length - (j + 1)) = b.length by walk_at "l"] at this
        exact ⟨by simp [lvD, this, retOf_ret], dom row'⟩
      · walk_at "ss"
        rw [if_neg (by simpa using h)] at hO'
        exact ⟨_, _, hO', hrow', by walk_at "lk", by walk_at "lk", by walk_at "lk", by walk_at "lk", by walk_at "lk", rfl⟩
  · rintro l₁ σ₁ ⟨r, row, hO, hrow, la₁, lb₁, lm₁, lr₁, lre₁, rfl⟩
    walk_at "ss"
    exact ⟨by simp [lvD, hO, retOf_ret], dom row⟩
end
section
set_option maxHeartbeats 4000000

variable {C : Cx} {A : Around} {σ : Hp} {Q : MV → Hp → Prop}
theorem comm_step {x y : Nat} {a b : List Nat} {k : Nat} (ha : a[k]? = some x) (hb : b[k]? = some y) : comm (a.drop k) (b.drop k) = if x = y then comm (a.drop (k + 1)) (b.drop (k + 1)) + 1 else 0 := by
  obtain ⟨h1, h1'⟩ := List.getElem?_eq_some_iff.mp ha
  obtain ⟨h2, h2'⟩ := List.getElem?_eq_some_iff.mp hb
  rw [List.drop_eq_getElem_cons h1, List.drop_eq_getElem_cons h2, h1', h2']; rfl
theorem comm_nil {a b : List Nat} (h : a = [] ∨ b = []) : comm a b = 0 := by
  rcases h with rfl | rfl
  · cases b <;> rfl
  · cases a <;> rfl
theorem fn_lev (T : Tm C) {n : Nat} (hA : Ar A (n + 2)) {a b : List Nat} {mc : Int} (ha : okS a) (hb : okS b) (hla : a.length ≤ 40) (hlb : b.length ≤ 40) (hw : Wf σ) (q : Q (.int (levF a b mc)) σ) :
    Fn C A (.ref T.lev) [.str (S a), .str (S b), .int mc] σ Q := by
  obtain ⟨ℓ, hℓ⟩ := hw.new
  refine fn_pure hw.nc ?_
  suffices h : Fn C A (.ref T.lev) [.str (S a), .str (S b), .int mc] σ fun m σ₁ => m = .int (levF a b mc) ∧ ∀ n, σ n ≠ none → σ₁ n = σ n by
    intro g s vs r hv
    refine codeAny_mono (h g s vs r hv) ?_
    rintro r s' ⟨v, g', m, σ', e, r', hv', d, rfl, hk⟩
    exact ⟨v, g', _, σ', e, r', hv', d, _, .same (.int _), hk, q⟩
  clear q
  obtain ⟨cd, F⟩ := T.Flev
  obtain ⟨t1, g1⟩ := T.g_case
  obtain ⟨t2, g2⟩ := T.g_move
  obtain ⟨t3, g3⟩ := T.g_max
  refine fn_go F hA (Loc.set (Loc.set (Loc.set (fun _ => none) "a" (.str (S a))) "b" (.str (S b))) "max_cost" (.int mc)) (ps := ["a", "b", "max_cost"]) (by walk_at "bind") (by kernel_rfl!) rfl rfl fun L A' KF hKF hA' => exs_cons ?_
  walk_at "ss"
  refine iteB (fun h => ?_) fun h => ?_
  · walk_at "ss"
    have h' : a = b := by simpa [S_inj] using h
    exact ⟨by simp [levF, h', retOf_ret], fun _ _ => rfl⟩
  walk_at "ss"
  have hab : a ≠ b := by simpa [S_inj] using h
  generalize hk : comm a b = k0
  refine ex_whileL (fun m l σ' => ∃ k, A7 (σ' = σ) (l "a" = some (.str (S a))) (l "b" = some (.str (S b))) (l "max_cost" = some (.int mc)) (l "pre" = some (.int (k : Nat))) (k + m = k0) (comm (a.drop k) (b.drop k) = m)) ?_ k0 ?_
  rotate_left
  · exact ⟨0, rfl, by walk_at "lk", by walk_at "lk", by walk_at "lk", by walk_at "lk", by walk_at "l", by simpa using hk⟩
  rintro m K1 K2 hK1 hK2 l σ' ⟨k, rfl, la, lb, lm, lp, hkm, hc⟩
  refine TrT.val (decide (0 < m)) ?_ ?_
  · refine tr_and (and_cons ?_)
    refine tr_val ?_
    walk_at "ss"
    refine slc_Sd (by walk_at "l") ?_
    refine tru_S (by simp; (first | lia | omega)) ?_
    refine iteB (fun h => ?_) fun h => ?_
    rotate_left
    · have : a.drop k = [] := by simpa using h
      exact ⟨by rw [this] at hc; rw [← hc, comm_nil (.inl rfl)]; rfl, rfl⟩
    walk_at "ss"
    refine tr_val ?_
    walk_at "ss"
    refine slc_Sd (by walk_at "l") ?_
    refine tru_S (by simp; (first | lia | omega)) ?_
    refine iteB (fun h' => ?_) fun h' => ?_
    rotate_left
    · have : b.drop k = [] := by simpa using h'
      exact ⟨by rw [this] at hc; rw [← hc, comm_nil (.inr rfl)]; rfl, rfl⟩
    have hka : k < a.length := by
      rcases Nat.lt_or_ge k a.length with q | q
      · exact q
      · rw [List.drop_eq_nil_of_le q] at h; simp at h
    have hkb : k < b.length := by
      rcases Nat.lt_or_ge k b.length with q | q
      · exact q
      · rw [List.drop_eq_nil_of_le q] at h'; simp at h'
    walk_at "ss"
    refine gi_S (by walk_at "l") (List.getElem?_eq_getElem hka) ?_
    walk_at "ss"
    refine gi_S (by walk_at "l") (List.getElem?_eq_getElem hkb) ?_
    walk_at "ss"
    have hcs := comm_step (List.getElem?_eq_getElem hka) (List.getElem?_eq_getElem hkb)
    rw [hc] at hcs
    refine iteB (fun h => ?_) fun h => ?_
    · walk_at "ss"
      have : a[k] = b[k] := by simpa [S_inj] using h
      rw [if_pos this] at hcs
      exact ⟨by simp; (first | lia | omega), rfl⟩
    · have : a[k] ≠ b[k] := by simpa [S_inj] using h
      rw [if_neg this] at hcs
      exact ⟨by simp; (first | lia | omega), rfl⟩
  refine iteB (fun h => ?_) fun h => ?_
  · walk_at "ss"
    have hm : 0 < m := by simpa using h
    have hka : k < a.length := by
      rcases Nat.lt_or_ge k a.length with q | q
      · exact q
      · rw [List.drop_eq_nil_of_le q, comm_nil (.inl rfl)] at hc; (first | lia | omega)
    have hkb : k < b.length := by
      rcases Nat.lt_or_ge k b.length with q | q
      · exact q
      · rw [List.drop_eq_nil_of_le q, comm_nil (.inr rfl)] at hc; (first | lia | omega)
    have hcs := comm_step (List.getElem?_eq_getElem hka) (List.getElem?_eq_getElem hkb)
    rw [hc] at hcs
    split at hcs
    · exact ⟨m - 1, by walk_at "l", k + 1, rfl, by walk_at "lk", by walk_at "lk", by walk_at "lk", by walk_at "lk", by walk_at "l", by walk_at "l"⟩
    · (first | lia | omega)
  have hm : m = 0 := by simpa using h
  have hkk : k = k0 := by walk_at "l"
  subst hkk
  walk_at "ss"
  refine slc_Sd (by walk_at "l") ?_
  walk_at "ss"
  refine slc_Sd (by walk_at "l") ?_
  walk_at "ss"
  generalize hfm : (⟨envC (dfScope (st1 11)) "_levenshtein_distance" cd T.lev L, ownOf (dfScope (st1 11))⟩ : Fm) = fm
  have key : ∀ (x : Str) (l : Loc) (al : List Nat) (p : Nat) (Q : MV → Hp → Prop) (p1 p2 p3 p4 p5 p6 : Pos), (x == ("__debug__" : Str)) = false → (x == ("__classdict__" : Str)) = false → l x = some (.str (S al)) → l "post" = some (.int (-(p : Int))) → al.length ≤ 40 → Q (.str (S (cutP p al))) σ' →
      Ev C A' fm (.Subscript (.Name x p1) (.Slice none (some (.BoolOp .Or [.Name "post" p2, .Constant .none 0 p3] p4)) none p5) p6) l σ' Q := by
    intro x l al p Q p1 p2 p3 p4 p5 p6 hx1 hx2 lx lp hl q
    refine ev_slice (ev_name lx ?_ hx1 hx2)
    walk_at "ss"
    refine ev_or ?_
    walk_at "ss"
    refine iteB (fun h => ?_) fun h => ?_
    · walk_at "ss"
      refine slc_St rfl (by simp at h; (first | lia | omega)) (by walk_at "l") q
    · walk_at "ss"
      have hp : p = 0 := by simp at h; (first | lia | omega)
      subst hp
      refine slc_Sa (by walk_at "l") ?_
      simpa [cutP] using q
  subst hfm
  generalize ha1 : a.drop k = a1
  generalize hb1 : b.drop k = b1
  generalize hp0 : comm a1.reverse b1.reverse = p0
  have hla1 : a1.length ≤ 40 := by rw [← ha1]; simp; (first | lia | omega)
  have hlb1 : b1.length ≤ 40 := by rw [← hb1]; simp; (first | lia | omega)
  refine ex_whileL (fun m l σ'' => ∃ p : Nat, A7 (σ'' = σ') (l "a" = some (.str (S a1))) (l "b" = some (.str (S b1))) (l "max_cost" = some (.int mc)) (l "post" = some (.int (-(p : Int)))) (p + m = p0) (comm (a1.reverse.drop p) (b1.reverse.drop p) = m)) ?_ p0 ?_
  rotate_left
  · exact ⟨0, rfl, by walk_at "lk", by walk_at "lk", by walk_at "lk", by walk_at "lk", by walk_at "l", by simpa using hp0⟩
  clear la lb lm lp hc hkm h
  rintro m' K3 K4 hK3 hK4 l' σ'' ⟨p, rfl, la, lb, lm, lp, hkm, hc⟩
  have cutE : ∀ al : List Nat, (cutP p al).isEmpty = true ↔ al.length ≤ p := by
    intro al; simp [cutP, List.take_eq_nil_iff]; constructor
    · rintro (h | h)
      · (first | lia | omega)
      · simp [h]
    · intro h; left; (first | lia | omega)
  have atR : ∀ (al : List Nat) (h : p < al.length), al.reverse[p]? = al[al.length - (p + 1)]? := by
    intro al h
    rw [List.getElem?_reverse h]; congr 1; (first | lia | omega)
  refine TrT.val (decide (0 < m')) ?_ ?_
  · refine tr_and (and_cons ?_)
    refine tr_val ?_
    refine key _ _ a1 p _ _ _ _ _ _ _ (by kernel_rfl!) (by kernel_rfl!) la lp hla1 ?_
    refine tru_S (by simp [cutP]; (first | lia | omega)) ?_
    refine iteB (fun h => ?_) fun h => ?_
    rotate_left
    · have : a1.length ≤ p := (cutE a1).mp (by simpa using h)
      exact ⟨by rw [List.drop_eq_nil_of_le (by simpa using this)] at hc; rw [← hc, comm_nil (.inl rfl)]; rfl, rfl⟩
    walk_at "ss"
    refine tr_val ?_
    refine key _ _ b1 p _ _ _ _ _ _ _ (by kernel_rfl!) (by kernel_rfl!) lb lp hlb1 ?_
    refine tru_S (by simp [cutP]; (first | lia | omega)) ?_
    refine iteB (fun h' => ?_) fun h' => ?_
    rotate_left
    · have : b1.length ≤ p := (cutE b1).mp (by simpa using h')
      exact ⟨by rw [List.drop_eq_nil_of_le (as := b1.reverse) (by simpa using this)] at hc; rw [← hc, comm_nil (.inr rfl)]; rfl, rfl⟩
    have hka : p < a1.length := by
      rcases Nat.lt_or_ge p a1.length with q | q
      · exact q
      · rw [(cutE a1).mpr q] at h; cases h
    have hkb : p < b1.length := by
      rcases Nat.lt_or_ge p b1.length with q | q
      · exact q
      · rw [(cutE b1).mpr q] at h'; cases h'
    have ea := atR a1 hka
    have eb := atR b1 hkb
    have ea' : a1[a1.length - (p + 1)]? = some a1[a1.length - (p + 1)] := List.getElem?_eq_getElem (by walk_at "l")
    have eb' : b1[b1.length - (p + 1)]? = some b1[b1.length - (p + 1)] := List.getElem?_eq_getElem (by walk_at "l")
    walk_at "ss"
    refine gi_SN (k := p + 1) (by walk_at "l") (by walk_at "l") (by walk_at "l") (by walk_at "l") ea' ?_
    walk_at "ss"
    refine gi_SN (k := p + 1) (by walk_at "l") (by walk_at "l") (by walk_at "l") (by walk_at "l") eb' ?_
    walk_at "ss"
    have hcs := comm_step (ea.trans ea') (eb.trans eb')
    rw [hc] at hcs
    refine iteB (fun h => ?_) fun h => ?_
    · walk_at "ss"
      rw [if_pos (by simpa [S_inj] using h)] at hcs
      exact ⟨by simp; (first | lia | omega), rfl⟩
    · rw [if_neg (by simpa [S_inj] using h)] at hcs
      exact ⟨by simp; (first | lia | omega), rfl⟩
  refine iteB (fun h => ?_) fun h => ?_
  · walk_at "ss"
    have hm : 0 < m' := by simpa using h
    have hka : p < a1.reverse.length := by
      rcases Nat.lt_or_ge p a1.reverse.length with q | q
      · exact q
      · rw [List.drop_eq_nil_of_le q, comm_nil (.inl rfl)] at hc; (first | lia | omega)
    have hkb : p < b1.reverse.length := by
      rcases Nat.lt_or_ge p b1.reverse.length with q | q
      · exact q
      · rw [List.drop_eq_nil_of_le q, comm_nil (.inr rfl)] at hc; (first | lia | omega)
    have hcs := comm_step (List.getElem?_eq_getElem hka) (List.getElem?_eq_getElem hkb)
    rw [hc] at hcs
    split at hcs
    · exact ⟨m' - 1, by walk_at "l", p + 1, rfl, by walk_at "lk", by walk_at "lk", by walk_at "lk", by walk_at "lk", by walk_at "l", by walk_at "l"⟩
    · (first | lia | omega)
  have hm' : m' = 0 := by simpa using h
  have hpp : p = p0 := by walk_at "l"
  subst hpp
  iterate 5 walk_at "s"
  refine key _ _ a1 p _ _ _ _ _ _ _ (by kernel_rfl!) (by kernel_rfl!) la lp hla1 ?_
  iterate 3 walk_at "s"
  refine key _ _ b1 p _ _ _ _ _ _ _ (by kernel_rfl!) (by kernel_rfl!) (by walk_at "lk") (by walk_at "lk") hlb1 ?_
  walk_at "ss"
  have hlev : levF a b mc = lvT (cutP p a1) (cutP p b1) mc := by
    simp only [levF, if_neg hab, hk, ha1, hb1, hp0]
  rw [hlev] at hKF
  have oka : okS (cutP p a1) := fun c hc => ha c (by rw [← ha1] at hc; exact List.mem_of_mem_drop (List.mem_of_mem_take hc))
  have okb : okS (cutP p b1) := fun c hc => hb c (by rw [← hb1] at hc; exact List.mem_of_mem_drop (List.mem_of_mem_take hc))
  have hla2 : (cutP p a1).length ≤ 40 := by simp [cutP]; (first | lia | omega)
  have hlb2 : (cutP p b1).length ≤ 40 := by simp [cutP]; (first | lia | omega)
  generalize cutP p a1 = a2 at *
  generalize cutP p b1 = b2 at *
  clear key cutE atR
  refine TrT.val (decide (a2 = [] ∨ b2 = [])) ?_ ?_
  · refine tr_or (or_cons ?_)
    walk_at "ss"
    refine tr_val ?_
    walk_at "ss"
    refine tru_S (by walk_at "l") ?_
    refine iteB (fun h => ?_) fun h => ?_
    · have : a2 = [] := by simpa using h
      exact ⟨by simp [this], rfl⟩
    walk_at "ss"
    refine tr_val ?_
    walk_at "ss"
    refine tru_S (by walk_at "l") ?_
    have e1 : a2 ≠ [] := by simpa using h
    refine iteB (fun h => ?_) fun h => ?_
    · have : b2 = [] := by simpa using h
      exact ⟨by simp [this], rfl⟩
    walk_at "ss"
    have e2 : b2 ≠ [] := by simpa using h
    exact ⟨by simp [e1, e2], rfl⟩
  refine iteB (fun h => ?_) fun h => ?_
  · have h' : a2 = [] ∨ b2 = [] := by simpa using h
    walk_at "ss"
    refine ev_globI (by kernel_rfl!) g2 ?_
    walk_at "ss"
    refine ev_callB (.bi _) (by kernel_rfl!) T.b_len.1 T.b_len.2 ?_
    walk_at "ss"
    refine cal_lenS (by walk_at "l") ?_
    refine ev_callB (.bi _) (by kernel_rfl!) T.b_len.1 T.b_len.2 ?_
    walk_at "ss"
    refine cal_lenS (by walk_at "l") ?_
    walk_at "ss"
    refine op_mulB (by walk_at "l") ?_
    walk_at "ss"
    exact ⟨by simp [lvT, h', retOf_ret], fun _ _ => rfl⟩
  have hne : ¬ (a2 = [] ∨ b2 = []) := by simpa using h
  walk_at "ss"
  refine TrT.val false ?_ ?_
  · refine tr_or (or_cons ?_)
    walk_at "ss"
    refine ev_callB (.bi _) (by kernel_rfl!) T.b_len.1 T.b_len.2 ?_
    walk_at "ss"
    refine cal_lenS (by walk_at "l") ?_
    refine ev_globI (by kernel_rfl!) g3 ?_
    walk_at "ss"
    refine iteB (fun h => ?_) fun h => ?_
    · simp at h; (first | lia | omega)
    walk_at "ss"
    refine ev_callB (.bi _) (by kernel_rfl!) T.b_len.1 T.b_len.2 ?_
    walk_at "ss"
    refine cal_lenS (by walk_at "l") ?_
    refine ev_globI (by kernel_rfl!) g3 ?_
    walk_at "ss"
    refine iteB (fun h => ?_) fun h => ?_
    · simp at h; (first | lia | omega)
    walk_at "ss"
    exact ⟨rfl, rfl⟩
  refine iteB (fun h => ?_) fun h => ?_
  · cases h
  iterate 3 walk_at "s"
  refine ExT.mid (fun l σ₁ => A3 (σ₁ = σ'') (l "max_cost" = some (.int mc)) (∃ a3 b3, A7 (l "a" = some (.str (S a3))) (l "b" = some (.str (S b3))) (okS a3) (okS b3) (a3.length ≤ 40) (b3.length ≤ 40) (lvT a2 b2 mc = if ((b3.length : Int) - a3.length) * 2 > mc then mc + 1 else lvD a3 b3 mc))) ?_ ?_
  · walk_at "ss"
    refine ev_callB (.bi _) (by kernel_rfl!) T.b_len.1 T.b_len.2 ?_
    walk_at "ss"
    refine cal_lenS (by walk_at "l") ?_
    refine ev_callB (.bi _) (by kernel_rfl!) T.b_len.1 T.b_len.2 ?_
    walk_at "ss"
    refine cal_lenS (by walk_at "l") ?_
    walk_at "ss"
    refine iteB (fun h => ?_) fun h => ?_
    · walk_at "s"
      refine ex_swap (x := "a") (y := "b") hA'.h ?_ (.inl (by kernel_rfl!)) (.inl (by kernel_rfl!))
      walk_at "ss"
      refine ⟨by simp, _, _, rfl, ?_⟩
      walk_at "ss"
      have h' : b2.length < a2.length := by simpa using h
      exact ⟨rfl, rfl, by walk_at "lk", b2, a2, by walk_at "lk", by walk_at "lk", okb, oka, hlb2, hla2, by simp only [lvT, if_neg hne, if_pos h']⟩
    · walk_at "ss"
      have h' : ¬ b2.length < a2.length := by simpa using h
      exact ⟨rfl, rfl, by walk_at "lk", a2, b2, by walk_at "lk", by walk_at "lk", oka, okb, hla2, hlb2, by simp only [lvT, if_neg hne, if_neg h']⟩
  · rintro l₃ σ₃ ⟨rfl, lm₃, a3, b3, la₃, lb₃, ok3, ok3', hl3, hl3', e3⟩
    rw [e3] at hKF
    exact lev_dp T hA' hKF la₃ lb₃ lm₃ ok3 ok3' hl3 hl3' hℓ
end
section
section
variable {C : Cx} {A : Around} {fm : Fm} {fa : List Addr} {loc : Loc} {σ : Hp} {g : Gh} {s : Shared} {QS : Fl → Loc → Hp → Prop}
theorem st_tup2 {x y : Str} {p q pos : Pos} {k : Nat} {a b : MV} {Q : Loc → Hp → Prop} (hh : A.handled = none) (hx : canSt fm x) (hy : canSt fm y) (h : Q ((loc.set x a).set y b) σ) : St C A fm (.Tuple [.Name x p, .Name y q] k pos) (.tup [a, b]) loc σ Q :=
  st_tup (xs := [x, y]) (ps := [p, q]) rfl hh (fun z hz => by rcases List.mem_cons.mp hz with rfl | hz; exact hx; rcases List.mem_cons.mp hz with rfl | hz; exact hy; cases hz) rfl rfl h
theorem st_tup5 {x1 x2 x3 x4 x5 : Str} {p1 p2 p3 p4 p5 pos : Pos} {k : Nat} {a1 a2 a3 a4 a5 : MV} {Q : Loc → Hp → Prop} (hh : A.handled = none) (h1 : canSt fm x1) (h2 : canSt fm x2) (h3 : canSt fm x3) (h4 : canSt fm x4) (h5 : canSt fm x5)
    (h : Q (((((loc.set x1 a1).set x2 a2).set x3 a3).set x4 a4).set x5 a5) σ) : St C A fm (.Tuple [.Name x1 p1, .Name x2 p2, .Name x3 p3, .Name x4 p4, .Name x5 p5] k pos) (.tup [a1, a2, a3, a4, a5]) loc σ Q :=
  st_tup (xs := [x1, x2, x3, x4, x5]) (ps := [p1, p2, p3, p4, p5]) rfl hh (fun z hz => by
    simp only [List.mem_cons, List.not_mem_nil, or_false] at hz
    rcases hz with rfl | rfl | rfl | rfl | rfl <;> assumption) rfl rfl h
theorem ex_for2 {x y : Str} {p q tp pos : Pos} {k : Nat} {it : Expr} {body orelse : List Stmt} (n : Nat) (ia ib : Nat → MV) (J : Hp → Prop) (Inv : Nat → Loc → Hp → Prop) (hh : A.handled = none) (hx : canSt fm x) (hy : canSt fm y)
    (h : WalkE C A fm (.Tuple [.Name x p, .Name y q] k tp) it loc σ n (fun i => .tup [ia i, ib i]) J fun σ₁ => Inv 0 loc σ₁)
    (turn : ∀ i K, Via (Lp (fun l σ => Inv (i + 1) l σ ∧ J σ) QS) K → ∀ loc σ, i < n → Inv i loc σ → J σ → Exs C A fm body ((loc.set x (ia i)).set y (ib i)) σ K)
    (fin : ∀ loc σ, Inv n loc σ → J σ → Exs C A fm orelse loc σ QS) (hs : ∀ x, foldedSetIterable it fm.env x = pure x := by intro _; rfl) : Ex C A fm (.For (.Tuple [.Name x p, .Name y q] k tp) it body orelse pos) loc σ QS :=
  ex_forL n _ J Inv h (fun i K hK loc σ hi hI hJ => st_tup2 hh hx hy (turn i K hK loc σ hi hI hJ)) fin hs
theorem ex_for1 {x : Str} {p pos : Pos} {it : Expr} {body orelse : List Stmt} (n : Nat) (item : Nat → MV) (J : Hp → Prop) (Inv : Nat → Loc → Hp → Prop) (hx : canSt fm x)
    (h : WalkE C A fm (.Name x p) it loc σ n item J fun σ₁ => Inv 0 loc σ₁)
    (turn : ∀ i K, Via (Lp (fun l σ => Inv (i + 1) l σ ∧ J σ) QS) K → ∀ loc σ, i < n → Inv i loc σ → J σ → Exs C A fm body (loc.set x (item i)) σ K)
    (fin : ∀ loc σ, Inv n loc σ → J σ → Exs C A fm orelse loc σ QS) (hs : ∀ x, foldedSetIterable it fm.env x = pure x := by intro _; rfl) : Ex C A fm (.For (.Name x p) it body orelse pos) loc σ QS :=
  ex_forL n _ J Inv h (fun i K hK loc σ hi hI hJ => st_name hx (turn i K hK loc σ hi hI hJ)) fin hs
end
noncomputable def addC : MV → MV → MV
  | .int u, .int v => .int (u + v)
  | .tup [.int a, .int b], .tup [.int c, .int d] => .tup [.int (c + a), .int (d + b)]
  | _, _ => .none
inductive CVk : Bool → MV → Prop
  | int (i : Int) : CVk true (.int i)
  | pair (i j : Int) : CVk false (.tup [.int i, .int j])
noncomputable def putAll (l : List (Str × MV)) : List (Str × MV) := l.foldl (fun acc p => putAt acc p.1 p.2) []
noncomputable def mergeC (l : List (Str × MV)) (k : Str) (v : MV) : List (Str × MV) := putAt (putAll l) k (match valAt (putAll l) k with | none => v | some u => addC u v)
theorem putAt_len (k : Str) (v : MV) : ∀ l : List (Str × MV), (putAt l k v).length ≤ l.length + 1
  | [] => Nat.le_refl 1
  | (y, u) :: l => by
    rw [putAt_cons]
    split
    · simp
    · simp only [List.length_cons]; have := putAt_len k v l; (first | lia | omega)
theorem putAll_len : ∀ l : List (Str × MV), (putAll l).length ≤ l.length := by
  have : ∀ (l acc : List (Str × MV)), (l.foldl (fun acc p => putAt acc p.1 p.2) acc).length ≤ acc.length + l.length := by
    intro l
    induction l with
    | nil => intro acc; simp
    | cons p l ih => intro acc; rw [List.foldl_cons]; have := ih (putAt acc p.1 p.2); have := putAt_len p.1 p.2 acc; simp only [List.length_cons]; (first | lia | omega)
  intro l; have := this l []; simpa [putAll] using this
theorem putAt_mem {k : Str} {v : MV} {q : Str × MV} : ∀ {l : List (Str × MV)}, q ∈ putAt l k v → q ∈ l ∨ q = (k, v)
  | [], h => .inr (List.mem_singleton.mp h)
  | (y, u) :: l, h => by
    rw [putAt_cons] at h
    split at h
    · rename_i hy
      rcases List.mem_cons.mp h with rfl | h
      · exact .inr (by rw [hy])
      · exact .inl (.tail _ h)
    · rcases List.mem_cons.mp h with rfl | h
      · exact .inl (.head _)
      · exact (putAt_mem h).imp (.tail _) id
theorem putAll_mem {q : Str × MV} {l : List (Str × MV)} (h : q ∈ putAll l) : q ∈ l := by
  have : ∀ (l acc : List (Str × MV)), q ∈ l.foldl (fun acc p => putAt acc p.1 p.2) acc → q ∈ acc ∨ q ∈ l := by
    intro l
    induction l with
    | nil => intro acc h; exact .inl h
    | cons p l ih =>
      intro acc h
      rcases ih _ h with h | h
      · rcases putAt_mem h with h | rfl
        · exact .inl h
        · exact .inr (.head _)
      · exact .inr (.tail _ h)
  exact (this l [] h).elim (fun h => nomatch h) id
theorem valAt_mem {k : Str} {v : MV} : ∀ {l : List (Str × MV)}, valAt l k = some v → (k, v) ∈ l
  | [], h => by cases h
  | (y, u) :: l, h => by
    rw [show valAt ((y, u) :: l) k = if y = k then some u else valAt l k from rfl] at h
    split at h
    · rename_i hy; cases h; rw [hy]; exact .head _
    · exact .tail _ (valAt_mem h)
theorem putAll_take {l : List (Str × MV)} {i : Nat} (hi : i < l.length) : putAll (l.take (i + 1)) = putAt (putAll (l.take i)) (l.getD i ("", .none)).1 (l.getD i ("", .none)).2 := by
  rw [putAll, List.take_add_one, List.getElem?_eq_getElem hi, List.foldl_append]
  simp [putAll, List.getD, hi]
theorem okd_of {S : Nat → Prop} {b : Bool} : ∀ {l : List (Str × MV)}, (∀ q ∈ l, CVk b q.2) → Okd S l
  | [], _ => .nil
  | (k, v) :: l, h => .cons (by cases h _ (.head _) with | int i => exact .int i | pair i j => exact .tup (.cons (.int _) (.cons (.int _) .nil))) (okd_of fun q hq => h q (.tail _ hq))
theorem CVk.add {b : Bool} {u v : MV} (hu : CVk b u) (hv : CVk b v) : CVk b (addC u v) := by cases hu <;> cases hv <;> constructor
theorem mergeC_k {b : Bool} {l : List (Str × MV)} {k : Str} {v : MV} (h : ∀ q ∈ l, CVk b q.2) (hv : CVk b v) : ∀ q ∈ mergeC l k v, CVk b q.2 := by
  intro q hq
  rcases putAt_mem hq with hq | rfl
  · exact h q (putAll_mem hq)
  · show CVk b (match valAt (putAll l) k with | none => v | some u => addC u v)
    cases e : valAt (putAll l) k with
    | none => exact hv
    | some u => exact (h _ (putAll_mem (valAt_mem e))).add hv
end
section
set_option maxHeartbeats 4000000

variable {C : Cx} {A : Around} {σ : Hp} {Q : MV → Hp → Prop}
theorem fn_acs (T : Tm C) {n : Nat} (hA : Ar A (n + 1)) {l : List (Str × MV)} {k : Str} {v : MV} (hl : ∀ q ∈ l, CVk true q.2) (hv : CVk true v) (hlen : l.length ≤ 1000) (hw : Wf σ) (q : Q (.dct (mergeC l k v)) σ) :
    Fn C A (.ref T.acs) [.dct l, .dct [(k, v)]] σ Q := by
  obtain ⟨ℓ, hℓ⟩ := hw.new
  refine fn_pure hw.nc ?_
  suffices h : Fn C A (.ref T.acs) [.dct l, .dct [(k, v)]] σ fun m σ₁ => m = .ref ℓ ∧ σ₁ ℓ = some (.dict (mergeC l k v)) ∧ ∀ n, σ n ≠ none → σ₁ n = σ n by
    intro g s vs r hv'
    refine codeAny_mono (h g s vs r hv') ?_
    rintro r s' hX2
    refine via_p fun P kP => ?_
    obtain ⟨v', g', m, σ', e, r', hv'', d, rfl, h1, hk⟩ := hX2
    refine kP ?_
    clear kP P
    exact ⟨v', g', _, σ', e, r', hv'', d, _, .dct (fun h => h hℓ) h1 (okd_of (mergeC_k hl hv)), hk, q⟩
  obtain ⟨cd, F⟩ := T.Facs
  have dom : ∀ (o : MO) n, σ n ≠ none → (σ.set ℓ o) n = σ n := fun row n hn => hp_other (fun e => hn (by rw [e]; exact hℓ)) rfl
  refine fn_go F hA (Loc.set (Loc.set (fun _ => none) "target" (.dct l)) "source" (.dct [(k, v)])) (ps := ["target", "source"]) (by walk_at "bind") (by kernel_rfl!) rfl rfl fun L A' KF hKF hA' => exs_cons ?_
  walk_at "ss"
  refine ev_dctT ℓ hℓ ?_
  walk_at "ss"
  refine ex_for2 l.length (fun i => .str (l.getD i ("", .none)).1) (fun i => (l.getD i ("", .none)).2) (fun _ => True) (fun i lo σ' => A3 (lo "source" = some (.dct [(k, v)])) (lo "new_callers" = some (.ref ℓ)) (σ' = σ.set ℓ (.dict (putAll (l.take i))))) hA'.h (.inl (by kernel_rfl!)) (.inl (by kernel_rfl!)) ?_ ?_ ?_
  · refine walk_items hA'.h ?_
    walk_at "ss"
    exact ⟨rfl, by walk_at "lk", by walk_at "lk", rfl⟩
  · rintro i K1 hK1 lo σ' hi ⟨l1, l2, rfl⟩ _
    walk_at "ss"
    refine set_dict hp_same (by have := putAll_len (l.take i); simp at this; (first | lia | omega)) ?_
    walk_at "ss"
    refine ⟨⟨by walk_at "lk", by walk_at "lk", ?_⟩, trivial⟩
    rw [putAll_take hi]
    funext n
    show (if n = ℓ then _ else if n = ℓ then _ else _) = (if n = ℓ then _ else _)
    split <;> rfl
  rintro lo σ' ⟨l1, l2, rfl⟩ _
  rw [List.take_length]
  have hlen' := putAll_len l
  walk_at "ss"
  refine ex_for2 1 (fun i => .str (([(k, v)] : List (Str × MV)).getD i ("", .none)).1) (fun i => (([(k, v)] : List (Str × MV)).getD i ("", .none)).2) (fun _ => True) (fun i lo σ' => A3 (lo "new_callers" = some (.ref ℓ)) ((i = 0 → σ' = σ.set ℓ (.dict (putAll l)))) ((i = 1 → σ' = σ.set ℓ (.dict (mergeC l k v))))) hA'.h (.inl (by kernel_rfl!)) (.inl (by kernel_rfl!)) ?_ ?_ ?_
  · refine walk_items (l := [(k, v)]) hA'.h ?_
    walk_at "ss"
    exact ⟨rfl, by walk_at "lk", fun _ => rfl, fun h => nomatch h⟩
  · rintro i K1 hK1 lo σ' hi ⟨l2, hσ, _⟩ _
    have hi0 : i = 0 := by walk_at "l"
    subst hi0
    have := hσ rfl
    subst this
    show Exs C A' _ _ ((lo.set "func" (.str k)).set "caller" v) _ _
    have hset : ∀ (o o' : MO), (σ.set ℓ o).set ℓ o' = σ.set ℓ o' := fun o o' => by
      funext n
      show (if n = ℓ then _ else if n = ℓ then _ else _) = (if n = ℓ then _ else _)
      split <;> rfl
    have hd : dctOf (σ.set ℓ (.dict (putAll l))) (.ref ℓ) = some (putAll l) := dct_ref hp_same
    walk_at "ss"
    refine op_ind hd ?_
    walk_at "ss"
    refine iteB (fun h => ?_) fun h => ?_
    · cases e : valAt (putAll l) k with
      | none => rw [e] at h; cases h
      | some u =>
        have hu := hl _ (putAll_mem (valAt_mem e))
        have hm : mergeC l k v = putAt (putAll l) k (addC u v) := by simp only [mergeC, e]
        walk_at "ss"
        refine tr_val ?_
        refine ev_callB (.bi _) (by kernel_rfl!) T.b_isi.1 T.b_isi.2 ?_
        walk_at "ss"
        refine ev_bi (by kernel_rfl!) T.b_tuple.1 T.b_tuple.2 ?_
        walk_at "ss"
        cases hv with
        | int i =>
          cases hu with
          | int j =>
            refine cal_isiI ?_
            walk_at "ss"
            refine iteB (fun h => nomatch h) fun _ => ?_
            walk_at "ss"
            refine gi_dct hd e ?_
            walk_at "ss"
            refine set_dict hp_same (by walk_at "l") ?_
            walk_at "ss"
            exact ⟨⟨by walk_at "lk", (fun h => nomatch h), fun _ => by rw [hm, hset]; rfl⟩, trivial⟩
    · have e : valAt (putAll l) k = none := by simpa using h
      have hm : mergeC l k v = putAt (putAll l) k v := by simp only [mergeC, e]
      walk_at "ss"
      refine set_dict hp_same (by walk_at "l") ?_
      walk_at "ss"
      exact ⟨⟨by walk_at "lk", (fun h => nomatch h), fun _ => by rw [hm, hset]⟩, trivial⟩
  rintro lo σ' ⟨l2, _, hσ⟩ _
  have := hσ rfl
  subst this
  walk_at "ss"
  exact ⟨rfl, hp_same, dom _⟩
theorem fn_afs (T : Tm C) {n : Nat} (hA : Ar A (n + 2)) {l : List (Str × MV)} {k : Str} {v : MV} (hl : ∀ q ∈ l, CVk true q.2) (hv : CVk true v) (hlen : l.length ≤ 1000) (hw : Wf σ) {a1 a2 a3 a4 b1 b2 b3 b4 : Int}
    (q : Q (.tup [.int (b1 + a1), .int (b2 + a2), .int (b3 + a3), .int (b4 + a4), .dct (mergeC l k v)]) σ) :
    Fn C A (.ref T.afs) [.tup [.int a1, .int a2, .int a3, .int a4, .dct l], .tup [.int b1, .int b2, .int b3, .int b4, .dct [(k, v)]]] σ Q := by
  obtain ⟨cd, F⟩ := T.Fafs
  obtain ⟨ca, Fa⟩ := id T.Facs
  refine fn_go F hA (Loc.set (Loc.set (fun _ => none) "target" (.tup [.int a1, .int a2, .int a3, .int a4, .dct l])) "source" (.tup [.int b1, .int b2, .int b3, .int b4, .dct [(k, v)]])) (ps := ["target", "source"]) (by walk_at "bind") (by kernel_rfl!) rfl rfl fun L A' KF hKF hA' => exs_cons ?_
  refine ex_asg ?_ (by with_unfolding_all rfl) (by with_unfolding_all rfl) (by with_unfolding_all rfl)
  walk_at "ss"
  refine st_tup5 hA'.h (.inl (by kernel_rfl!)) (.inl (by kernel_rfl!)) (.inl (by kernel_rfl!)) (.inl (by kernel_rfl!)) (.inl (by kernel_rfl!)) ?_
  walk_at "ss"
  refine ex_asg ?_ (by with_unfolding_all rfl) (by with_unfolding_all rfl) (by with_unfolding_all rfl)
  walk_at "ss"
  refine st_tup5 hA'.h (.inl (by kernel_rfl!)) (.inl (by kernel_rfl!)) (.inl (by kernel_rfl!)) (.inl (by kernel_rfl!)) (.inl (by kernel_rfl!)) ?_
  walk_at "ss"
  refine ev_callF Fa (by kernel_rfl!) T.g_acs ?_
  walk_at "ss"
  refine fn_acs T hA' hl hv hlen hw ?_
  refine ⟨by simp, ?_⟩
  walk_at "ss"
  exact q
end
section
theorem set_set {σ : Hp} {n : Nat} {o o' : MO} : (σ.set n o).set n o' = σ.set n o' := by
  funext m
  show (if m = n then _ else if m = n then _ else _) = (if m = n then _ else _)
  split <;> rfl
theorem set_comm {σ : Hp} {n k : Nat} {o o' : MO} (h : n ≠ k) : (σ.set n o).set k o' = (σ.set k o').set n o := by
  funext m
  show (if m = k then _ else if m = n then _ else _) = (if m = n then _ else if m = k then _ else _)
  split
  · rw [if_neg (by walk_at "l")]
  · rfl
theorem set_self {σ : Hp} {n : Nat} {o : MO} (h : σ n = some o) : σ.set n o = σ := by
  funext m
  show (if m = n then _ else _) = _
  split
  · rename_i e; rw [e, h]
  · rfl
noncomputable def isWs (c : Nat) : Bool := c == 10 || c == 9 || c == 13 || c == 32
noncomputable def wsS : Str := "\n\t\u000d "
theorem ws_ok : ∀ c, c < 128 → Txt.contains wsS (S [c]) = isWs c := by decide +kernel
noncomputable def lexQ : List Nat → List Nat → List Nat × List Nat
  | tok, [] => (tok, [])
  | tok, c :: r => if c = 34 then (tok, r) else if c = 92 then (match r with | [] => (tok, []) | e :: r' => lexQ (tok ++ [e]) r') else lexQ (tok ++ [c]) r
noncomputable def lexW : List Nat → List Nat → List Nat × List Nat
  | tok, [] => (tok, [])
  | tok, c :: r => if isWs c = true then (tok, r) else if c = 92 then (match r with | [] => (tok, []) | e :: r' => lexW (tok ++ [e]) r') else lexW (tok ++ [c]) r
noncomputable def lexT : List Nat → List Nat × List Nat
  | [] => ([], [])
  | c :: r => if isWs c = true then lexT r else if c = 34 then lexQ [] r else if c = 92 then (match r with | [] => ([], []) | e :: r' => lexW [e] r') else lexW [c] r
theorem lexQ_nil (tok : List Nat) : lexQ tok [] = (tok, []) := rfl
theorem lexW_nil (tok : List Nat) : lexW tok [] = (tok, []) := rfl
theorem lexT_nil : lexT [] = ([], []) := rfl
noncomputable def lexA (x : Str) (n : Nat) (pb : MV) (ln : Int) : List (Str × MV) := [("lineno", .int ln), ("instream", .strm x n), ("whitespace", .str wsS), ("pushback", pb)]
noncomputable def lexO (l : List Nat) (n : Nat) (pb : MV) (p : Nat) : MO := .attrs (lexA (S l) n pb (1 + ((l.take p).count 10 : Nat)))
noncomputable def lexH (σ : Hp) (d n : Nat) (l : List Nat) (pb : MV) (p : Nat) : Hp := (σ.set n (.list [.int p])).set d (lexO l n pb p)
theorem lexH_n {σ : Hp} {d n : Nat} {l : List Nat} {pb : MV} {p : Nat} (h : d ≠ n) : lexH σ d n l pb p n = some (.list [.int p]) := hp_other (Ne.symm h) hp_same
theorem lexH_d {σ : Hp} {d n : Nat} {l : List Nat} {pb : MV} {p : Nat} : lexH σ d n l pb p d = some (lexO l n pb p) := hp_same
theorem lexH_o {σ : Hp} {d n m : Nat} {l : List Nat} {pb : MV} {p : Nat} (h1 : m ≠ d) (h2 : m ≠ n) : lexH σ d n l pb p m = σ m := hp_other h1 (hp_other h2 rfl)
theorem lexH_set {σ : Hp} {d n m : Nat} {l : List Nat} {pb : MV} {p : Nat} {o : MO} (h1 : m ≠ d) (h2 : m ≠ n) : (lexH σ d n l pb p).set m o = lexH (σ.set m o) d n l pb p := by
  unfold lexH
  rw [set_comm (Ne.symm h1), set_comm (σ := σ) (Ne.symm h2)]
theorem S_sl (l : List Nat) (p k : Nat) (hp : p ≤ l.length) : cutS (S l) (some (p : Int)) (some ((p : Int) + k)) = S ((l.drop p).take k) := by
  unfold cutS
  rw [S_len, clipN, show ((p : Int) + k) = ((p + k : Nat) : Int) from (Int.natCast_add p k).symm, clipN, Nat.min_eq_left hp]
  show (⟨((l.drop p).take _).toArray⟩ : Str) = ⟨_⟩
  rcases Nat.le_total (p + k) l.length with h | h
  · rw [Nat.min_eq_left h, Nat.add_sub_cancel_left]
  · rw [Nat.min_eq_right h, List.take_of_length_le (i := l.length - p) (by rw [List.length_drop]; exact Nat.le_refl _), List.take_of_length_le (i := k) (by rw [List.length_drop]; exact Nat.sub_le_iff_le_add'.mpr h)]
section
variable {C : Cx} {A : Around} {fm : Fm} {loc : Loc} {σ : Hp} {Q : MV → Hp → Prop}
theorem slc_Ss {l : List Nat} {p k : Nat} {i j : Int} (hi : i = p) (hj : j = p + k) (hs : l.length ≤ 1000000) (hp : p ≤ l.length) (q : Q (.str (S ((l.drop p).take k))) σ) : Slc C A fm (.str (S l)) (some i) (some j) none loc σ Q := by
  subst hi; subst hj
  exact slc_str (by rw [S_sl l p k hp]; exact q) (by rw [S_len]; exact hs)
theorem gi_one {n : Nat} {m : MV} (h : σ n = some (.list [m])) (q : Q m σ) : Itm C A fm (.ref n) (.int 0) loc σ Q :=
  gi_list (l := [m]) (lst_ref h) (by decide) (by decide) rfl q
end
end
section
set_option maxHeartbeats 4000000

variable {C : Cx} {A : Around} {σ : Hp} {Q : MV → Hp → Prop}
theorem fn_rc (T : Tm C) {N : Nat} (hA : Ar A (N + 1)) {i d n : Nat} {l : List Nat} {pb : MV} {p : Nat} (hi : σ i = some (.inst T.lex d)) (hdn : d ≠ n) (hid : i ≠ d) (hin : i ≠ n) (hp : p ≤ l.length) (hl : l.length ≤ 10000)
    (q : Q (.str (S ((l.drop p).take 1))) (lexH σ d n l pb (p + ((l.drop p).take 1).length))) : Fn C A (.ref T.fR) [.ref i] (lexH σ d n l pb p) Q := by
  obtain ⟨cd, F⟩ := T.FR
  have hi' : ∀ p', lexH σ d n l pb p' i = some (.inst T.lex d) := fun p' => (lexH_o hid hin).trans hi
  have hsl : ((l.drop p).take 1).length ≤ 1 := by simp; (first | lia | omega)
  refine fn_go F hA (Loc.set (fun _ => none) "self" (.ref i)) (ps := ["self"]) (by walk_at "bind") (by kernel_rfl!) rfl rfl fun L A' KF hKF hA' => exs_cons ?_
  walk_at "ss"
  refine ev_read T.rdR hA'.room ?_
  refine ev_attr ?_
  walk_at "ss"
  refine att_inst T.klex (hi' p) lexH_d (v := .strm (S l) n) rfl rfl T.n2 ?_
  refine ⟨_, _, rfl, ?_⟩
  walk_at "ss"
  intro fd L' f hrd
  obtain ⟨h1, h2, h3, h4, h5, h6, h7⟩ := T.rdR.rd fd hrd
  obtain ⟨_, _, _, _, _, _, _, _, _, _, _⟩ := fd
  simp only at h1 h2 h3 h4 h5 h6 h7
  subst h1; subst h2; subst h3; subst h4; subst h5; subst h6; subst h7
  have l1 : rdLoc "size" (.int 1) (S l) n "size" = some (.int 1) := rfl
  have l2 : rdLoc "size" (.int 1) (S l) n "text" = some (.str (S l)) := (if_neg (by decide)).trans (if_pos rfl)
  have l3 : rdLoc "size" (.int 1) (S l) n "at" = some (.ref n) := (if_neg (by decide)).trans ((if_neg (by decide)).trans (if_pos rfl))
  generalize rdLoc "size" (.int 1) (S l) n = lo at l1 l2 l3
  refine exs_cons ?_
  walk_at "ss"
  refine gi_one (lexH_n hdn) ?_
  walk_at "ss"
  refine gi_one (lexH_n hdn) ?_
  walk_at "ss"
  refine slc_Ss (p := p) (k := 1) rfl (by walk_at "l") (by walk_at "l") hp ?_
  walk_at "ss"
  generalize hsg : (l.drop p).take 1 = sg at *
  refine gi_one (lexH_n hdn) ?_
  walk_at "ss"
  refine ev_callB (.bi _) (by kernel_rfl!) T.b_len.1 T.b_len.2 ?_
  walk_at "ss"
  refine cal_lenS (by walk_at "l") ?_
  walk_at "ss"
  refine set_list (l := [.int p]) (lexH_n hdn) (by decide) (by simp) (by decide) ?_
  walk_at "ss"
  have hσ : (lexH σ d n l pb p).set n (.list (([MV.int p]).set (0 : Int).toNat (.int (p + sg.length)))) = (σ.set n (.list [.int ((p + sg.length : Nat) : Int)])).set d (lexO l n pb p) := by
    unfold lexH
    rw [set_comm hdn, set_set]
    simp
  rw [hσ]
  generalize hσ2 : (σ.set n (.list [.int ((p + sg.length : Nat) : Int)])).set d (lexO l n pb p) = σ2
  have hi2 : σ2 i = some (.inst T.lex d) := by rw [← hσ2]; exact hp_other hid (hp_other hin hi)
  have hd2 : σ2 d = some (lexO l n pb p) := by rw [← hσ2]; exact hp_same
  simp only [retOf_ret]
  have hcount : (l.take (p + sg.length)).count 10 = (l.take p).count 10 + sg.count 10 := by
    subst hsg
    have : l.take (p + ((l.drop p).take 1).length) = l.take p ++ (l.drop p).take 1 := by
      rw [List.take_add]
      congr 1
      simp
    rw [this, List.count_append]
  walk_at "ss"
  refine iteB (fun h => ?_) fun h => ?_
  · have hsg' : sg = [10] := by
      have h' : S sg = S [10] := (of_decide_eq_true h).trans (by decide)
      exact S_inj.mp h'
    walk_at "ss"
    refine ex_auga ?_
    walk_at "ss"
    refine att_inst T.klex hi2 hd2 (v := .int (1 + ((l.take p).count 10 : Nat))) rfl rfl T.n1 ?_
    walk_at "ss"
    refine sta_inst T.klex hi2 hd2 T.s1 (by show 4 ≤ 1000; decide) ?_
    walk_at "ss"
    have e : σ2.set d (.attrs (aset (lexA (S l) n pb (1 + ((l.take p).count 10 : Nat))) "lineno" (.int (1 + ((l.take p).count 10 : Nat) + 1)))) = lexH σ d n l pb (p + sg.length) := by
      rw [← hσ2, set_set]
      unfold lexH lexO
      rw [hcount, hsg']
      have : (1 + ((l.take p).count 10 : Nat) + 1 : Int) = 1 + (((l.take p).count 10 + [10].count 10 : Nat) : Int) := by simp; (first | lia | omega)
      rw [this]
      rfl
    have hq := q
    show Q _ _
    exact e ▸ q
  · walk_at "ss"
    have e : σ2 = lexH σ d n l pb (p + sg.length) := by
      rw [← hσ2]
      unfold lexH lexO
      have : sg.count 10 = 0 := by
        have hne : sg ≠ [10] := fun e => by rw [e] at h; simp [S] at h; exact absurd h (by decide)
        exact cnt_ne hsl hne
      rw [hcount, this]
      rfl
    exact e ▸ q
end
section
section
variable {C : Cx} {A : Around} {fm : Fm} {loc : Loc} {σ : Hp} {Q : MV → Hp → Prop} {QS : Fl → Loc → Hp → Prop}
theorem ex_forCL {x : Str} {p pos : Pos} {it : Expr} {body : List Stmt} {ℓ : Nat} (hh : A.handled = none) (I : Nat → Loc → Hp → Prop)
    (turn : ∀ k K K', Via (Lp (fun l σ => ∃ m, m < k ∧ I m l σ) QS) K → Via QS K' → ∀ loc σ, I k loc σ → (∃ b f n sent, σ ℓ = some (.citer b f n sent)) ∧ Turn C A ℓ σ fun ch σ₁ => match ch with
      | none => K' .next loc σ₁
      | some ch => Exs C A fm body (loc.set x (.str ch)) σ₁ K)
    (hx : canSt fm x) (k : Nat) (h : Ev C A fm it loc σ fun m σ₁ => m = .ref ℓ ∧ (∃ b f n sent, σ₁ ℓ = some (.citer b f n sent)) ∧ I k loc σ₁) (hs : ∀ x, foldedSetIterable it fm.env x = pure x := by intro _; rfl) :
    Ex C A fm (.For (.Name x p) it body [] pos) loc σ QS := by
  refine ex_forC hh I (fun k loc σ hI => ⟨(turn k _ _ .id .id loc σ hI).1, ?_⟩) hx k h hs
  rcases (turn k _ _ .id .id loc σ hI).2 with ⟨f, n, sent, h1, h2⟩ | ⟨f, n, sent, h1, h2, h3⟩
  · exact .inl ⟨f, n, sent, h1, h2⟩
  · refine .inr ⟨f, n, sent, h1, h2, fun g s vs r hv => codeAny_mono (h3 g s vs r hv) ?_⟩
    rintro x s' hX2
    refine via_p fun P kP => ?_
    obtain ⟨v, g', m, σ', e, r', hm, d, ch, e', hc, hq⟩ := hX2
    refine kP ?_
    clear kP P
    refine ⟨v, g', m, σ', e, r', hm, d, ch, e', hc, ?_⟩
    split at hq
    · rw [if_pos ‹_›]; exact hq
    · rw [if_neg ‹_›]
      refine ExT.mono hq fun fl l σ' q => ?_
      cases fl <;> exact q
end
theorem lexQ_esc (tok r : List Nat) : lexQ tok (92 :: r) = lexQ (tok ++ r.take 1) (r.drop 1) := by
  cases r with
  | nil => show (tok, []) = (tok ++ [], _); rw [List.append_nil]
  | cons e r' => rfl
theorem lexQ_end (tok r : List Nat) : lexQ tok (34 :: r) = (tok, r) := by cases r <;> rfl
theorem lexQ_c {tok r : List Nat} {c : Nat} (h1 : c ≠ 34) (h2 : c ≠ 92) : lexQ tok (c :: r) = lexQ (tok ++ [c]) r := by cases r <;> exact (if_neg h1).trans (if_neg h2)
theorem lexW_esc (tok r : List Nat) : lexW tok (92 :: r) = lexW (tok ++ r.take 1) (r.drop 1) := by
  cases r with
  | nil => show (tok, []) = (tok ++ [], _); rw [List.append_nil]
  | cons e r' => rfl
theorem lexW_end {tok r : List Nat} {c : Nat} (h : isWs c = true) : lexW tok (c :: r) = (tok, r) := by cases r <;> exact if_pos h
theorem lexW_c {tok r : List Nat} {c : Nat} (h1 : isWs c = false) (h2 : c ≠ 92) : lexW tok (c :: r) = lexW (tok ++ [c]) r := by cases r <;> exact (if_neg (by rw [h1]; decide)).trans (if_neg h2)
theorem lexT_ws {r : List Nat} {c : Nat} (h : isWs c = true) : lexT (c :: r) = lexT r := by cases r <;> exact if_pos h
theorem lexT_q {r : List Nat} : lexT (34 :: r) = lexQ [] r := by cases r <;> rfl
theorem lexT_esc {r : List Nat} : lexT (92 :: r) = lexW (r.take 1) (r.drop 1) := by cases r <;> rfl
theorem lexT_c {r : List Nat} {c : Nat} (h1 : isWs c = false) (h2 : c ≠ 34) (h3 : c ≠ 92) : lexT (c :: r) = lexW [c] r := by cases r <;> exact (if_neg (by rw [h1]; decide)).trans ((if_neg h2).trans (if_neg h3))
theorem drop_next {l r : List Nat} {c p : Nat} (h : l.drop p = c :: r) : l.drop (p + 1) = r ∧ p < l.length := by
  refine ⟨?_, ?_⟩
  · rw [← List.drop_drop, h]; rfl
  · rcases Nat.lt_or_ge p l.length with q | q
    · exact q
    · rw [List.drop_eq_nil_of_le q] at h; cases h
theorem drop_take1 (r : List Nat) : r.drop (r.take 1).length = r.drop 1 := by cases r <;> simp
end
section
set_option maxHeartbeats 4000000

variable {C : Cx} {A : Around} {σ : Hp} {Q : MV → Hp → Prop}
theorem eq1 {c k : Nat} {x : Str} (hx : x = S [k]) : decide (S [c] = x) = decide (c = k) := by
  subst hx
  simp [S_inj]
section
variable {fm : Fm} {lo : Loc} {i d n ℓ : Nat} {l : List Nat} {pb : MV} {p : Nat}
noncomputable abbrev gH (T : Tm C) (σ : Hp) (ℓ i d n : Nat) (l : List Nat) (pb : MV) (b : Bool) (p : Nat) : Hp := lexH (σ.set ℓ (.citer b T.fR i "")) d n l pb p
theorem turn_lex (T : Tm C) {N : Nat} (hA : Ar A (N + 2)) {Qt : Option Str → Hp → Prop} (hi : σ i = some (.inst T.lex d)) (hdn : d ≠ n) (hid : i ≠ d) (hin : i ≠ n) (hℓi : ℓ ≠ i) (hℓd : ℓ ≠ d) (hℓn : ℓ ≠ n) (hp : p ≤ l.length) (hl : l.length ≤ 10000)
    (h0 : l.drop p = [] → Qt none (gH T σ ℓ i d n l pb false p)) (h1 : ∀ c r, l.drop p = c :: r → Qt (some (S [c])) (gH T σ ℓ i d n l pb true (p + 1))) : Turn C A ℓ (gH T σ ℓ i d n l pb true p) Qt := by
  obtain ⟨cd, F⟩ := id T.FR
  obtain ⟨o, fd, hK, hd, _⟩ := F.ex
  refine .inr ⟨T.fR, i, "", (lexH_o hℓd hℓn).trans hp_same, ⟨o, fd, hK, hd⟩, ?_⟩
  refine fn_rc T (hA.in1) (hp_other (Ne.symm hℓi) hi) hdn hid hin hp hl ?_
  refine ⟨_, rfl, (lexH_o hℓd hℓn).trans hp_same, ?_⟩
  cases hr : l.drop p with
  | nil =>
    rw [if_pos (by decide)]
    show Qt none ((lexH _ d n l pb p).set ℓ _)
    rw [lexH_set hℓd hℓn, set_set]
    exact h0 hr
  | cons c r =>
    show (if S [c] = _ then _ else Qt (some (S [c])) (lexH _ d n l pb (p + 1)))
    rw [if_neg (by intro e; have := congrArg (fun x => x.cps.size) e; simp [S] at this; exact absurd this (by decide))]
    exact h1 c r hr
theorem ev_rc (T : Tm C) {N : Nat} (hA : Ar A (N + 2)) {q1 q2 q3 : Pos} {b : Bool} (hlo : lo "self" = some (.ref i)) (hi : σ i = some (.inst T.lex d)) (hdn : d ≠ n) (hid : i ≠ d) (hin : i ≠ n) (hℓi : ℓ ≠ i) (hp : p ≤ l.length) (hl : l.length ≤ 10000)
    (q : Q (.str (S ((l.drop p).take 1))) (gH T σ ℓ i d n l pb b (p + ((l.drop p).take 1).length)))
    (hline : (q2.endLine == q3.line) = true) : Ev C A fm (.Call (.Attribute (.Name "self" q1) "_read_char" q2) [] [] q3) lo (gH T σ ℓ i d n l pb b p) Q := by
  obtain ⟨cd, F⟩ := id T.FR
  obtain ⟨o, fd, hK, hd, _⟩ := F.ex
  have hi' : (σ.set ℓ (.citer b T.fR i "")) i = some (.inst T.lex d) := hp_other (Ne.symm hℓi) hi
  refine ev_methF (ev_name hlo ?_) (by rfl) rfl hline
  refine ⟨i, d, T.lex, _, T.fR, rfl, T.klex, (lexH_o hid hin).trans hi', lexH_d, rfl, T.lR, T.tR, .fn hK hd, ?_⟩
  walk_at "ss"
  refine cal_fn ?_
  exact fn_rc T (hA.le (m := N + 1)) hi' hdn hid hin hp hl q
end
inductive InG (i ℓ : Nat) (lo : Loc) (tok : List Nat) : Prop | mk : lo "self" = some (.ref i) → lo "fiter" = some (.ref ℓ) → lo "token" = some (.str (S tok)) → InG i ℓ lo tok
theorem fn_gt (T : Tm C) {N : Nat} (hA : Ar A (N + 3)) {i d n : Nat} {l : List Nat} {pb : MV} {p₀ : Nat} (hi : σ i = some (.inst T.lex d)) (hdn : d ≠ n) (hid : i ≠ d) (hin : i ≠ n) (hp : p₀ ≤ l.length) (hl : l.length ≤ 10000) (hw : Wf σ)
    (hpb : lstOf (lexH σ d n l pb p₀) pb = some []) (hpo : ∀ S : Nat → Prop, (∀ m, σ m ≠ none → S m) → Ok S pb) (has : ∀ c ∈ l, c < 128) {tokF rF : List Nat} (hlex : lexT (l.drop p₀) = (tokF, rF))
    (q : Q (.str (S tokF)) (lexH σ d n l pb (l.length - rF.length))) : Fn C A (.ref T.fG) [.ref i] (lexH σ d n l pb p₀) Q := by
  have hwf : Wf (lexH σ d n l pb p₀) := (hw.set _ _ (by intros; intro h; cases h)).set _ _ (by intros; intro h; cases h)
  obtain ⟨ℓ, hℓ⟩ := hwf.new
  have hℓd : ℓ ≠ d := ne_of_hp hℓ lexH_d
  have hℓn : ℓ ≠ n := ne_of_hp hℓ (lexH_n hdn)
  have hℓσ : σ ℓ = none := (lexH_o hℓd hℓn).symm.trans hℓ
  have hℓi : ℓ ≠ i := ne_of_hp hℓσ hi
  refine fn_exit (fun m => lexH σ d n l pb p₀ m ≠ none) (fun _ h => h) ?_
  have dom : ∀ m, lexH σ d n l pb p₀ m ≠ none ↔ m = d ∨ m = n ∨ σ m ≠ none := by
    intro m
    by_cases h1 : m = d
    · subst m; simp [lexH_d]
    by_cases h2 : m = n
    · subst m; simp [lexH_n hdn]
    rw [lexH_o h1 h2]; simp [h1, h2]
  suffices h : Fn C A (.ref T.fG) [.ref i] (lexH σ d n l pb p₀) fun m σ₁ => m = .str (S tokF) ∧ ∃ b, σ₁ = gH T σ ℓ i d n l pb b (l.length - rF.length) by
    intro g s vs r hv
    refine codeAny_mono (h g s vs r hv) ?_
    rintro r s' ⟨v, g', m, σ', e, r', hv', dd, rfl, b, rfl⟩
    refine ⟨v, g', _, _, e, r', hv', dd, _, .same (.str _), ?_, ?_⟩
    · intro m o hm ho
      by_cases h1 : m = d
      · subst m
        rw [show gH T σ ℓ i d n l pb b _ d = _ from lexH_d] at ho; cases ho
        refine .inl (.attrs fun x v hv => ?_)
        have hlen : (x, v) ∈ lexA (S l) n pb (1 + ((l.take (l.length - rF.length)).count 10 : Nat)) := by
          have : ∀ (l : List (Str × MV)), l.lookup x = some v → (x, v) ∈ l := by
            intro l
            induction l with
            | nil => intro h; cases h
            | cons q l ih =>
              intro h
              rw [List.lookup_cons] at h
              cases hx : x == q.1 with
              | true => rw [hx] at h; cases h; rw [beq_iff_eq.mp hx]; exact .head _
              | false => rw [hx] at h; exact .tail _ (ih h)
          exact this _ hv
        simp only [lexA, List.mem_cons, Prod.mk.injEq, List.not_mem_nil, or_false] at hlen
        rcases hlen with ⟨_, rfl⟩ | ⟨_, rfl⟩ | ⟨_, rfl⟩ | ⟨_, rfl⟩
        · exact .int _
        · exact .strm ((dom n).mpr (.inr (.inl rfl)))
        · exact .str _
        · exact hpo _ fun m hm => (dom m).mpr (.inr (.inr hm))
      by_cases h2 : m = n
      · subst m
        rw [show gH T σ ℓ i d n l pb b _ n = _ from lexH_n hdn] at ho; cases ho
        exact .inl (.list (.cons (.int _) .nil))
      · have hm' : σ m ≠ none := by rcases (dom m).mp hm with q | q | q <;> first | exact absurd q ‹_› | exact q
        have hmℓ : m ≠ ℓ := fun e => hm' (e ▸ hℓσ)
        rw [show gH T σ ℓ i d n l pb b _ m = _ from (lexH_o h1 h2).trans (hp_other hmℓ rfl)] at ho
        exact .inr ⟨(lexH_o h1 h2).trans ho, fun f k x e => hw.nc m f k x (e ▸ ho)⟩
    · have : restr (fun m => lexH σ d n l pb p₀ m ≠ none) (gH T σ ℓ i d n l pb b (l.length - rF.length)) = lexH σ d n l pb (l.length - rF.length) := by
        funext m
        unfold restr
        by_cases h1 : m = d
        · subst m
          rw [if_pos ((dom d).mpr (.inl rfl))]
          exact (show gH T σ ℓ i d n l pb b _ d = _ from lexH_d).trans lexH_d.symm
        by_cases h2 : m = n
        · subst m
          rw [if_pos ((dom n).mpr (.inr (.inl rfl)))]
          exact (lexH_n hdn).trans (lexH_n hdn).symm
        by_cases h3 : m = ℓ
        · subst m
          rw [if_neg (fun h => h hℓ), lexH_o hℓd hℓn, hℓσ]
        · by_cases h4 : σ m = none
          · rw [if_neg (fun h => by rcases (dom m).mp h with q | q | q; exact h1 q; exact h2 q; exact q h4), lexH_o h1 h2, h4]
          · rw [if_pos ((dom m).mpr (.inr (.inr h4)))]
            exact (lexH_o h1 h2).trans ((hp_other h3 rfl).trans (lexH_o h1 h2).symm)
      rw [this]; exact q
  clear q
  obtain ⟨cd, F⟩ := T.FG
  obtain ⟨cr, Fr⟩ := id T.FR
  obtain ⟨o, fd, hK, hd, _⟩ := Fr.ex
  refine fn_go F hA (Loc.set (fun _ => none) "self" (.ref i)) (ps := ["self"]) (by walk_at "bind") (by kernel_rfl!) rfl rfl fun L A' KF hKF hA' => exs_cons ?_
  have hi1 : lexH σ d n l pb p₀ i = some (.inst T.lex d) := (lexH_o hid hin).trans hi
  walk_at "ss"
  refine tr_val ?_
  refine ev_attr ?_
  walk_at "ss"
  refine att_inst T.klex hi1 lexH_d (v := pb) rfl (by cases pb <;> first | rfl | cases hpb) T.n4 ?_
  refine tru_lst hpb (by simp) ?_
  refine iteB (fun h => nomatch h) fun _ => ?_
  walk_at "ss"
  refine ev_callB (.bi _) (by kernel_rfl!) T.b_iter.1 T.b_iter.2 ?_
  walk_at "ss"
  refine ev_attr ?_
  walk_at "ss"
  refine att_meth T.klex hi1 lexH_d rfl T.oR T.oR' T.tR ?_
  walk_at "ss"
  refine cal_iter2 hℓ ?_
  rw [lexH_set hℓd hℓn]
  walk_at "ss"
  have hc : ∀ b p, ∃ b' f k sent, gH T σ ℓ i d n l pb b p ℓ = some (.citer b' f k sent) := fun b p => ⟨b, _, _, _, (lexH_o hℓd hℓn).trans hp_same⟩
  have hlen : ∀ p r, p ≤ l.length → l.drop p = r → l.length - r.length = p := by
    intro p r hp e
    have := congrArg List.length e
    simp at this; (first | lia | omega)
  generalize hfm : (⟨envC (dfScope (me1 1 2)) "_netrclex.get_token" cd T.fG L, ownOf (dfScope (me1 1 2))⟩ : Fm) = fm at *
  have hch : canSt fm "ch" := hfm ▸ .inl (by kernel_rfl!)
  have htk : canSt fm "token" := hfm ▸ .inl (by kernel_rfl!)
  have ws : ∀ {q2 q3 : Pos} {lo : Loc} {c b p tok} {QB : Bool → Hp → Prop}, InG i ℓ lo tok → c < 128 → QB (isWs c) (gH T σ ℓ i d n l pb b p) →
      Ev C A' fm (.Attribute (.Name "self" q2) "whitespace" q3) lo (gH T σ ℓ i d n l pb b p) fun b σ₂ => Op2 C A' fm (compareOp .In) (.str (S [c])) b lo σ₂ fun m σ₃ => ∃ b, m = .bool b ∧ QB b σ₃ := by
    intro q2 q3 lo c b p tok QB hI hc q
    refine ev_attr (ev_name hI.1 ?_)
    refine att_inst T.klex ((lexH_o hid hin).trans (hp_other (Ne.symm hℓi) hi)) lexH_d (v := .str wsS) rfl rfl T.n3 ?_
    refine op_ins ⟨_, rfl, ?_⟩
    rw [ws_ok c hc]; exact q
  have addt : ∀ {q1 q2 q3 : Pos} {lo : Loc} {sg b p tok} {QS : Fl → Loc → Hp → Prop}, InG i ℓ lo tok → lo "ch" = some (.str (S sg)) → tok.length + sg.length ≤ 100000 → QS .next (lo.set "token" (.str (S (tok ++ sg)))) (gH T σ ℓ i d n l pb b p) →
      Ex C A' fm (.AugAssign (.Name "token" q1) .Add (.Name "ch" q2) q3) lo (gH T σ ℓ i d n l pb b p) QS := by
    intro q1 q2 q3 lo sg b p tok QS hI hlc hz q
    refine ex_aug hI.3 ?_ htk
    refine ev_name hlc ?_
    refine op_iadds (by rw [S_len, S_len]; (first | lia | omega)) ?_
    rw [S_app]; exact q
  refine ex_forCL (ℓ := ℓ) hA'.h (fun k lo σ' => (∃ p, A5 (σ' = gH T σ ℓ i d n l pb true p) (p ≤ l.length) (InG i ℓ lo []) (lexT (l.drop p) = (tokF, rF)) (k = l.length - p + 1)) ∨ A4 (σ' = gH T σ ℓ i d n l pb false l.length) (InG i ℓ lo tokF) (rF = []) (k = 0)) ?_ hch (l.length - p₀ + 1) ?_
  rotate_left
  · refine ev_name (by walk_at "lk") ⟨rfl, hc _ _, .inl ⟨p₀, rfl, hp, ⟨by walk_at "lk", by walk_at "lk", by walk_at "lk"⟩, hlex, rfl⟩⟩
  rintro k K1 K2 hK1 hK2 lo σ' (⟨p, rfl, hp', hI, hx, rfl⟩ | ⟨rfl, hI, hr, rfl⟩)
  rotate_left
  · refine ⟨hc _ _, .inl ⟨T.fR, i, "", (lexH_o hℓd hℓn).trans hp_same, ?_⟩⟩
    obtain ⟨l1, l2, l3⟩ := hI
    walk_at "ss"
    exact ⟨rfl, false, by rw [hr]; rfl⟩
  refine ⟨hc _ _, turn_lex T hA' hi hdn hid hin hℓi hℓd hℓn hp' hl (fun h0 => ?_) fun c r h1 => ?_⟩
  · obtain ⟨l1, l2, l3⟩ := hI
    rw [h0] at hx
    simp only [lexT_nil, Prod.mk.injEq] at hx
    obtain ⟨e1, e2⟩ := hx
    walk_at "ss"
    exact ⟨congrArg (fun x => MV.str (S x)) e1, false, by rw [← e2, hlen p [] hp' h0]⟩
  obtain ⟨hr, hpl⟩ := drop_next h1
  have hc128 : ∀ c r p, l.drop p = c :: r → c < 128 := fun c r p e => has c (List.mem_of_mem_drop (i := p) (by rw [e]; exact .head _))
  rw [h1] at hx
  have hI' : ∀ v, InG i ℓ (lo.set "ch" v) [] := fun v => by obtain ⟨l1, l2, l3⟩ := hI; exact ⟨by walk_at "lk", by walk_at "lk", by walk_at "lk"⟩
  clear hI
  walk_at "ss"
  refine ws (hI' _) (hc128 _ _ _ h1) ?_
  refine iteB (fun h => ?_) fun h => ?_
  · rw [lexT_ws h] at hx
    walk_at "ss"
    exact ⟨l.length - (p + 1) + 1, by walk_at "l", .inl ⟨p + 1, rfl, by walk_at "l", hI' _, by rw [hr]; exact hx, rfl⟩⟩
  have hws := h
  walk_at "ss"
  rw [eq1 (k := 34) (by decide)]
  refine iteB (fun h => ?_) fun h => ?_
  · -- in quotes
    have hc34 : c = 34 := of_decide_eq_true h
    subst hc34
    rw [lexT_q] at hx
    walk_at "ss"
    refine ex_forCL (ℓ := ℓ) hA'.h (fun k lo σ' => ∃ p tok, A6 (σ' = gH T σ ℓ i d n l pb true p) (p ≤ l.length) (InG i ℓ lo tok) (lexQ tok (l.drop p) = (tokF, rF)) (tok.length ≤ p) (k = l.length - p)) ?_ hch (l.length - (p + 1)) ?_
    rotate_left
    · have hI := hI' (.str (S [34]))
      obtain ⟨l1, l2, l3⟩ := hI
      refine ev_name (by walk_at "lk") ⟨rfl, hc _ _, p + 1, [], rfl, by walk_at "l", ⟨l1, l2, l3⟩, by rw [hr]; exact hx, by simp, rfl⟩
    clear hx hI' hws h1 hr r h
    rintro k K3 K4 hK3 hK4 lo σ' ⟨p₁, tok, rfl, hp₁, hI, hx, htl, rfl⟩
    refine ⟨hc _ _, turn_lex T hA' hi hdn hid hin hℓi hℓd hℓn hp₁ hl (fun h0 => ?_) fun c r h1 => ?_⟩
    · rw [h0] at hx
      simp only [lexQ_nil, Prod.mk.injEq] at hx
      obtain ⟨e1, e2⟩ := hx
      walk_at "ss"
      have e := hlen p₁ [] hp₁ h0
      simp at e
      exact ⟨0, by walk_at "l", .inr ⟨by rw [← e], e1 ▸ hI, e2.symm, rfl⟩⟩
    obtain ⟨hr, hpl⟩ := drop_next h1
    have hI' : ∀ v, InG i ℓ (lo.set "ch" v) tok := fun v => by obtain ⟨l1, l2, l3⟩ := hI; exact ⟨by walk_at "lk", by walk_at "lk", by walk_at "lk"⟩
    clear hI
    rw [h1] at hx
    walk_at "ss"
    rw [eq1 (k := 34) (by decide)]
    refine iteB (fun h => ?_) fun h => ?_
    · have hc34 : c = 34 := of_decide_eq_true h
      subst hc34
      rw [lexQ_end] at hx
      simp only [Prod.mk.injEq] at hx
      obtain ⟨e1, e2⟩ := hx
      obtain ⟨l1, l2, l3⟩ := hI' (.str (S [34]))
      walk_at "ss"
      exact ⟨congrArg (fun x => MV.str (S x)) e1, true, by rw [← e2, hlen _ _ (by walk_at "l") hr]⟩
    have hc34 : c ≠ 34 := of_decide_eq_false h
    walk_at "ss"
    rw [eq1 (k := 92) (by decide)]
    refine iteB (fun h => ?_) fun h => ?_
    · have hc92 : c = 92 := of_decide_eq_true h
      subst hc92
      rw [lexQ_esc] at hx
      walk_at "ss"
      have hI2 := hI' (.str (S [92]))
      refine ev_rc T hA' hI2.1 hi hdn hid hin hℓi (p := p₁ + 1) (by walk_at "l") hl ?_ (by rfl)
      rw [hr]
      have hsg : (r.take 1).length ≤ 1 := by simp; (first | lia | omega)
      have hrl : p₁ + 1 + r.length = l.length := by have := congrArg List.length hr; simp at this; (first | lia | omega)
      have hsg' : (r.take 1).length ≤ r.length := by simp; (first | lia | omega)
      walk_at "ss"
      have hI3 : InG i ℓ ((lo.set "ch" (.str (S [92]))).set "ch" (.str (S (r.take 1)))) tok := by obtain ⟨l1, l2, l3⟩ := hI2; exact ⟨by walk_at "lk", by walk_at "lk", by walk_at "lk"⟩
      refine addt hI3 at_same (by walk_at "l") ?_
      walk_at "ss"
      refine ⟨l.length - (p₁ + 1 + (r.take 1).length), by walk_at "l", p₁ + 1 + (r.take 1).length, tok ++ r.take 1, rfl, by walk_at "l", ?_, ?_, by rw [List.length_append]; (first | lia | omega), rfl⟩
      · obtain ⟨l1, l2, l3⟩ := hI3; exact ⟨by walk_at "lk", by walk_at "lk", at_same⟩
      · rw [← List.drop_drop, hr, drop_take1]; exact hx
    · have hc92 : c ≠ 92 := of_decide_eq_false h
      rw [lexQ_c hc34 hc92] at hx
      walk_at "ss"
      refine addt (hI' _) at_same (by simp; (first | lia | omega)) ?_
      walk_at "ss"
      refine ⟨l.length - (p₁ + 1), by walk_at "l", p₁ + 1, tok ++ [c], rfl, by walk_at "l", ?_, by rw [hr]; exact hx, by simp; (first | lia | omega), rfl⟩
      obtain ⟨l1, l2, l3⟩ := hI' (.str (S [c])); exact ⟨by walk_at "lk", by walk_at "lk", at_same⟩
  have hc34 : c ≠ 34 := of_decide_eq_false h
  have fin : ∀ {lo : Loc} {p₁ tok rest}, p₁ ≤ l.length → p < p₁ → InG i ℓ lo tok → lexW tok (l.drop p₁) = (tokF, rF) → tok.length ≤ p₁ → rest = (.For (.Name "ch" ⟨35, 20, 35, 22⟩) (.Name "fiter" ⟨35, 26, 35, 31⟩) (stB (nth (stB (nth (stB (nth (dfBody (me1 1 2)) 3)) 1)) 3)) [] ⟨35, 16, 40, 31⟩ : Stmt) →
      ∀ {QS : Fl → Loc → Hp → Prop}, (∀ lo, InG i ℓ lo tokF → rF = [] → QS .next lo (gH T σ ℓ i d n l pb false l.length)) → (∀ lo b, QS (.ret (.str (S tokF))) lo (gH T σ ℓ i d n l pb b (l.length - rF.length))) →
      Ex C A' fm rest lo (gH T σ ℓ i d n l pb true p₁) QS := by
    intro lo p₁ tok rest hp₁ hpp hI hx htl hrest QS k1 k2
    subst hrest
    refine ex_forCL (ℓ := ℓ) hA'.h (fun k lo σ' => ∃ p tok, A6 (σ' = gH T σ ℓ i d n l pb true p) (p ≤ l.length) (InG i ℓ lo tok) (lexW tok (l.drop p) = (tokF, rF)) (tok.length ≤ p) (k = l.length - p)) ?_ hch (l.length - p₁) ?_
    rotate_left
    · obtain ⟨l1, l2, l3⟩ := hI
      exact ev_name (by walk_at "lk") ⟨rfl, hc _ _, p₁, tok, rfl, hp₁, ⟨l1, l2, l3⟩, hx, htl, rfl⟩
    rintro k K3 K4 hK3 hK4 lo σ' ⟨p₁, tok, rfl, hp₁, hI, hx, htl, rfl⟩
    refine ⟨hc _ _, turn_lex T hA' hi hdn hid hin hℓi hℓd hℓn hp₁ hl (fun h0 => ?_) fun c r h1 => ?_⟩
    · rw [h0] at hx
      simp only [lexW_nil, Prod.mk.injEq] at hx
      obtain ⟨e1, e2⟩ := hx
      have e := hlen p₁ [] hp₁ h0
      simp at e
      rw [← e]
      refine hK4 _ _ _ ?_
      exact k1 _ (e1 ▸ hI) e2.symm
    obtain ⟨hr, hpl⟩ := drop_next h1
    have hI' : ∀ v, InG i ℓ (lo.set "ch" v) tok := fun v => by obtain ⟨l1, l2, l3⟩ := hI; exact ⟨by walk_at "lk", by walk_at "lk", by walk_at "lk"⟩
    clear hI
    rw [h1] at hx
    show Exs C A' fm _ _ _ _
    refine exs_cons ?_
    walk_at "ss"
    refine ws (hI' _) (hc128 _ _ _ h1) ?_
    refine iteB (fun h => ?_) fun h => ?_
    · rw [lexW_end h] at hx
      simp only [Prod.mk.injEq] at hx
      obtain ⟨e1, e2⟩ := hx
      obtain ⟨l1, l2, l3⟩ := hI' (.str (S [c]))
      walk_at "ss"
      have := k2 (lo.set "ch" (.str (S [c]))) true
      rw [← e1, ← e2, hlen _ _ (by walk_at "l") hr] at this
      exact this
    have hws := h
    walk_at "ss"
    rw [eq1 (k := 92) (by decide)]
    refine iteB (fun h => ?_) fun h => ?_
    · have hc92 : c = 92 := of_decide_eq_true h
      subst hc92
      rw [lexW_esc] at hx
      walk_at "ss"
      have hI2 := hI' (.str (S [92]))
      refine ev_rc T hA' hI2.1 hi hdn hid hin hℓi (p := p₁ + 1) (by walk_at "l") hl ?_ (by rfl)
      rw [hr]
      have hsg : (r.take 1).length ≤ 1 := by simp; (first | lia | omega)
      have hrl : p₁ + 1 + r.length = l.length := by have := congrArg List.length hr; simp at this; (first | lia | omega)
      have hsg' : (r.take 1).length ≤ r.length := by simp; (first | lia | omega)
      walk_at "ss"
      have hI3 : InG i ℓ ((lo.set "ch" (.str (S [92]))).set "ch" (.str (S (r.take 1)))) tok := by obtain ⟨l1, l2, l3⟩ := hI2; exact ⟨by walk_at "lk", by walk_at "lk", by walk_at "lk"⟩
      refine addt hI3 at_same (by walk_at "l") ?_
      walk_at "ss"
      refine ⟨l.length - (p₁ + 1 + (r.take 1).length), by walk_at "l", p₁ + 1 + (r.take 1).length, tok ++ r.take 1, rfl, by walk_at "l", ?_, ?_, by rw [List.length_append]; (first | lia | omega), rfl⟩
      · obtain ⟨l1, l2, l3⟩ := hI3; exact ⟨by walk_at "lk", by walk_at "lk", at_same⟩
      · rw [← List.drop_drop, hr, drop_take1]; exact hx
    · have hc92 : c ≠ 92 := of_decide_eq_false h
      rw [lexW_c hws hc92] at hx
      walk_at "ss"
      refine addt (hI' _) at_same (by simp; (first | lia | omega)) ?_
      walk_at "ss"
      refine ⟨l.length - (p₁ + 1), by walk_at "l", p₁ + 1, tok ++ [c], rfl, by walk_at "l", ?_, by rw [hr]; exact hx, by simp; (first | lia | omega), rfl⟩
      obtain ⟨l1, l2, l3⟩ := hI' (.str (S [c])); exact ⟨by walk_at "lk", by walk_at "lk", at_same⟩
  walk_at "ss"
  rw [eq1 (k := 92) (by decide)]
  have hrl : p + 1 + r.length = l.length := by have := congrArg List.length hr; simp at this; (first | lia | omega)
  refine iteB (fun h => ?_) fun h => ?_
  · have hc92 : c = 92 := of_decide_eq_true h
    subst hc92
    rw [lexT_esc] at hx
    walk_at "ss"
    have hI2 := hI' (.str (S [92]))
    refine ev_rc T hA' hI2.1 hi hdn hid hin hℓi (p := p + 1) (by walk_at "l") hl ?_ (by rfl)
    rw [hr]
    have hsg : (r.take 1).length ≤ 1 := by simp; (first | lia | omega)
    have hsg' : (r.take 1).length ≤ r.length := by simp; (first | lia | omega)
    walk_at "ss"
    have hI3 : InG i ℓ ((lo.set "ch" (.str (S [92]))).set "ch" (.str (S (r.take 1)))) [] := by obtain ⟨l1, l2, l3⟩ := hI2; exact ⟨by walk_at "lk", by walk_at "lk", by walk_at "lk"⟩
    refine addt hI3 at_same (by simp only [List.length_nil]; (first | lia | omega)) ?_
    walk_at "s"
    walk_at "s"
    refine fin (p₁ := p + 1 + (r.take 1).length) (tok := [] ++ r.take 1) (by walk_at "l") (by walk_at "l") ?_ ?_ (by simp only [List.nil_append]; (first | lia | omega)) rfl (fun lo hI hr => ?_) fun lo b => ?_
    · obtain ⟨l1, l2, l3⟩ := hI3; exact ⟨by walk_at "lk", by walk_at "lk", at_same⟩
    · rw [← List.drop_drop, hr, drop_take1]; exact hx
    · walk_at "ss"
      exact ⟨0, by walk_at "l", .inr ⟨rfl, hI, hr, rfl⟩⟩
    · walk_at "ss"
      exact ⟨rfl, b, rfl⟩
  · have hc92 : c ≠ 92 := of_decide_eq_false h
    rw [lexT_c hws hc34 hc92] at hx
    walk_at "ss"
    refine addt (hI' _) at_same (by simp) ?_
    walk_at "s"
    walk_at "s"
    refine fin (p₁ := p + 1) (tok := [] ++ [c]) (by walk_at "l") (by walk_at "l") ?_ (by rw [hr]; exact hx) (by simp) rfl (fun lo hI hr => ?_) fun lo b => ?_
    · obtain ⟨l1, l2, l3⟩ := hI' (.str (S [c])); exact ⟨by walk_at "lk", by walk_at "lk", at_same⟩
    · walk_at "ss"
      exact ⟨0, by walk_at "l", .inr ⟨rfl, hI, hr, rfl⟩⟩
    · walk_at "ss"
      exact ⟨rfl, b, rfl⟩
end
section
set_option maxHeartbeats 400000

variable {C : Cx} {A : Around} {σ : Hp} {Q : MV → Hp → Prop}
theorem fn_init (T : Tm C) {N : Nat} (hA : Ar A (N + 1)) {i d n b : Nat} {l : List Nat} (hi : σ i = some (.inst T.lex d)) (hd : σ d = some (.attrs [])) (hid : i ≠ d) (hb : σ b = none) (q : Q .none ((σ.set d (lexO l n (.ref b) 0)).set b (.list []))) : Fn C A (.ref T.fI) [.ref i, .strm (S l) n] σ Q := by
  obtain ⟨cd, F⟩ := T.FI
  have hbi : b ≠ i := ne_of_hp hb hi
  have hbd : b ≠ d := ne_of_hp hb hd
  have hi' : ∀ o, (σ.set d o) i = some (.inst T.lex d) := fun o => hp_other hid hi
  refine fn_go F hA (Loc.set (Loc.set (fun _ => none) "self" (.ref i)) "fp" (.strm (S l) n)) (ps := ["self", "fp"]) (by walk_at "bind") (by kernel_rfl!) rfl rfl fun L A' KF hKF hA' => exs_cons ?_
  refine ex_seta ?_
  walk_at "ss"
  refine sta_inst T.klex hi hd T.s1 (by decide) ?_
  walk_at "ss"
  refine ex_seta ?_
  walk_at "ss"
  refine sta_inst T.klex (hi' _) hp_same T.s2 (by show 1 ≤ 1000; decide) ?_
  rw [set_set]
  walk_at "ss"
  refine ex_seta ?_
  walk_at "ss"
  refine sta_inst T.klex (hi' _) hp_same T.s3 (by show 2 ≤ 1000; decide) ?_
  rw [set_set]
  walk_at "ss"
  refine ex_seta ?_
  refine ev_lstT b ?_
  walk_at "ss"
  refine ⟨by decide, hp_other hbd hb, ?_⟩
  walk_at "ss"
  refine sta_inst T.klex (hp_other (Ne.symm hbi) (hi' _)) (hp_other (Ne.symm hbd) hp_same) T.s4 (by show 3 ≤ 1000; decide) ?_
  rw [set_comm hbd, set_set]
  walk_at "ss"
  have e : lexO l n (.ref b) 0 = .attrs (aset (aset (aset (aset [] "lineno" (.int 1)) "instream" (.strm (S l) n)) "whitespace" (.str "\n\t\u000d ")) "pushback" (.ref b)) := by
    unfold lexO
    simp only [List.take_zero, List.count_nil]
    rfl
  rw [e] at q
  exact q
theorem fn_new (T : Tm C) {N : Nat} (hA : Ar A (N + 2)) {i d n b : Nat} {l : List Nat} (hi : σ i = none) (hd : σ d = none) (hb : σ b = none) (hid : i ≠ d) (hbi : b ≠ i) (hbd : b ≠ d) (q : Q (.ref i) (((σ.set i (.inst T.lex d)).set d (lexO l n (.ref b) 0)).set b (.list []))) : Fn C A (.ref T.lex) [.strm (S l) n] σ Q := by
  refine fn_make T.klex hi hd hid T.lI T.tI fun rest => ?_
  refine fn_init T (N := N) (hA.make _ _) hp_same (hp_other (Ne.symm hid) hp_same) hid (hp_other hbi (hp_other hbd hb)) ⟨rfl, ?_⟩
  rw [set_comm (n := d) (Ne.symm hid), set_set]
  exact q
theorem fn_rdr (T : Tm C) {N : Nat} (hA : Ar A (N + 3)) {i d n b : Nat} {l : List Nat} (hi : σ i = none) (hd : σ d = none) (hn : σ n = none) (hb : σ b = none) (hid : i ≠ d) (hin : i ≠ n) (hdn : d ≠ n) (hbi : b ≠ i) (hbd : b ≠ d) (hbn : b ≠ n)
    (q : Q (.ref i) (lexH ((σ.set i (.inst T.lex d)).set b (.list [])) d n l (.ref b) 0)) : Fn C A (.ref T.rdr) [.str (S l)] σ Q := by
  refine via_p fun P kP => ?_
  obtain ⟨cd, F, hca, hP⟩ := T.Crdr
  refine kP ?_
  clear kP P
  refine fn_defR (ps := ["text"]) F (by walk_at "bind") rfl (fun p hp => ?_) (by decide +kernel) (by decide +kernel) hA.room (by kernel_rfl!) (by kernel_rfl!) (by kernel_rfl!) ?_
  · rw [List.mem_singleton.mp hp]; exact .inr ⟨by decide +kernel, by decide +kernel⟩
  intro L fa g s g₀ s₀ r d₀ hfa
  have hA' := hA.deeper (envC (dfScope (st1 13)) "_law_reader" (.ref cd) T.rdr L)
  generalize A.deeper (envC (dfScope (st1 13)) "_law_reader" (.ref cd) T.rdr L) = A' at hA' ⊢
  have h1 : Ex C A' ⟨envC (dfScope (st1 13)) "_law_reader" (.ref cd) T.rdr L, ownOf (dfScope (st1 13))⟩ (nth (dfBody (st1 13)) 0) (Loc.set (fun _ => none) "text" (.str (S l))) σ
      (fun fl lo σ' => A3 (fl = .next) (lo = (Loc.set (fun _ => none) "text" (.str (S l))).set "at" (.ref n)) (σ' = σ.set n (.list [.int 0]))) := by
    show Ex _ _ _ (.Assign _ _ _) _ _ _
    refine ex_assign ?_ (.inr (show ("at" : Str) ∈ ownOf (dfScope (st1 13)) from by decide +kernel)) (by with_unfolding_all rfl)
    refine ev_lstT n ?_
    walk_at "ss"
    exact ⟨by decide, hn, rfl, rfl, rfl⟩
  show wpAny _ _ (execs (_ :: _) _) _ _ _
  refine wpAny_execs_cons (wpAny_mono (h1 fa g s r) ?_ fun _ _ e => e)
  rintro f s₁ hX2
  refine via_p fun P kP => ?_
  obtain ⟨g₁, fl, lo, σ₁, r₁, hf, d₁, rfl, rfl, rfl⟩ := hX2
  refine kP ?_
  clear kP P
  cases hf
  show wpAny _ _ (execs (_ :: _ :: _ :: _) _) _ _ _
  refine rd_make (fm := ⟨envC (dfScope (st1 13)) "_law_reader" (.ref cd) T.rdr L, ownOf (dfScope (st1 13))⟩) (x := S l) (n := n) (rn := "_law_read_on") (rp := dfArgs rdSt) (rb := dfBody rdSt) (rs := dfScope rdSt) T.mkO rfl hca hP (fun env => by kernel_rfl!) (T.tq_rd.trans (by kernel_rfl!)) (T.tq_la.trans (by kernel_rfl!)) (by kernel_rfl!) (by kernel_rfl!) ?_ ?_ ?_ ?_ (show ("text" : Str) ∈ ownOf (dfScope (st1 13)) from by decide +kernel) (show ("at" : Str) ∈ ownOf (dfScope (st1 13)) from by decide +kernel) (by kernel_rfl!) (by kernel_rfl!)
    (by decide) (by decide) (by decide) (by decide) (by decide) (at_other (by decide) at_same) at_same r₁ (d₀.trans d₁) hfa ?_ (by kernel_rfl!) (by kernel_rfl!)
  · intro y hy
    have h : (dfScope rdSt).names.all (fun p => p.2 != .free || p.1 == "text" || p.1 == "at") = true := by kernel_rfl!
    have := List.all_eq_true.mp h _ hy
    simpa using this
  · exact fun y h => absurd h List.not_mem_nil
  · intro ct cx hx ht
    have e : clOf (dfScope rdSt) (envC (dfScope (st1 13)) "_law_reader" (.ref cd) T.rdr L) = [(("text" : Str), ((envC (dfScope (st1 13)) "_law_reader" (.ref cd) T.rdr L).cells.lookup ("text" : Str)).getD 0), (("at" : Str), ((envC (dfScope (st1 13)) "_law_reader" (.ref cd) T.rdr L).cells.lookup ("at" : Str)).getD 0)] := by kernel_rfl!
    rw [e, show (envC (dfScope (st1 13)) "_law_reader" (.ref cd) T.rdr L).cells.lookup ("text" : Str) = some cx from hx, show (envC (dfScope (st1 13)) "_law_reader" (.ref cd) T.rdr L).cells.lookup ("at" : Str) = some ct from ht]
    refine ⟨by simp, ?_, fun y c hc => ?_⟩
    · rw [List.lookup_cons, show (("at" : Str) == "text") = false from by decide +kernel]; simp
    · rw [List.lookup_cons] at hc
      cases hy : y == ("text" : Str) with
      | true => rw [hy] at hc; cases hc; exact .inl ⟨beq_iff_eq.mp hy, rfl⟩
      | false =>
        rw [hy, List.lookup_cons] at hc
        cases hy' : y == ("at" : Str) with
        | true => rw [hy'] at hc; cases hc; exact .inr ⟨beq_iff_eq.mp hy', rfl⟩
        | false => rw [hy'] at hc; cases hc
  · intro fd hfd
    have e : qualnameIn (envC (dfScope (st1 13)) "_law_reader" (.ref cd) T.rdr L) "_law_read_on" "_law_read_on" = "_law_reader.<locals>._law_read_on" := by kernel_rfl!
    exact T.rd_in fd ⟨hfd.name, hfd.qual.trans e, hfd.params, hfd.body, hfd.scope, hfd.glob, rfl, hfd.bi, hfd.df, hfd.kw⟩
  intro g' s' v r' d'
  have hin' : σ.set n (.list [.int 0]) i = none := hp_other hin hi
  have hdn' : σ.set n (.list [.int 0]) d = none := hp_other hdn hd
  have h2 : Exs C A' ⟨envC (dfScope (st1 13)) "_law_reader" (.ref cd) T.rdr L, []⟩ ((dfBody (st1 13)).drop 4) ((((Loc.set (fun _ => none) "text" (.str (S l))).set "at" (.ref n)).set "_law_read_on" (.val v)).set "stream" (.strm (S l) n)) (σ.set n (.list [.int 0]))
      (fun fl lo σ' => Q (retOf fl) σ') := by
    refine exs_cons ?_
    refine ex_ret ?_
    refine ev_call (ev_glob (by kernel_rfl!) T.g_lex ⟨_, rfl, .kp T.keep_lex, ?_⟩)
    walk_at "ss"
    refine cal_fn ?_
    refine fn_new T hA' hin' hdn' (hp_other hbn hb) hid hbi hbd ?_
    have e : (((σ.set n (.list [.int 0])).set i (.inst T.lex d)).set d (lexO l n (.ref b) 0)).set b (.list []) = lexH ((σ.set i (.inst T.lex d)).set b (.list [])) d n l (.ref b) 0 := by
      unfold lexH
      rw [set_comm (n := n) (Ne.symm hin), set_comm (n := d) (Ne.symm hbd), set_comm (n := n) (Ne.symm hbn)]; rfl
    show Q _ _
    rw [e]; exact q
  refine wpAny_mono (h2 _ g' s' r') ?_ fun _ _ e => e
  rintro f s₂ hX2
  refine via_p fun P kP => ?_
  obtain ⟨g₂, fl, lo, σ₂, r₂, hf, d₂, q⟩ := hX2
  refine kP ?_
  clear kP P
  have d3 : Gd C [(envC (dfScope (st1 13)) "_law_reader" (.ref cd) T.rdr L).locals] g₀ s₀ g' s' := d'.weak fun a ha => .inr (hfa a ha)
  exact ⟨g₂, fl, σ₂, r₂.gr, hf, (d3.trans d₂).weak (fun a ha => .inr (by rw [List.mem_singleton.mp ha]; exact hfa _ r.fr.L)), q⟩
end
section
set_option maxHeartbeats 400000

noncomputable def cmpP (d0 d1 a b a' b' : Int) : Int := if a < a' then -d0 else if a > a' then d0 else if b < b' then -d1 else if b > b' then d1 else 0
noncomputable def keyL (d0 d1 : Int) : MV := .lst [.tup [.int 0, .int d0], .tup [.int 1, .int d1]]
variable {C : Cx} {A : Around} {σ : Hp} {Q : MV → Hp → Prop}
theorem fn_tnew (T : Tm C) {N : Nat} (hA : Ar A (N + 2)) {i d : Nat} {d0 d1 : Int} (hi : σ i = none) (hd : σ d = none) (hid : i ≠ d) (q : Q (.ref i) ((σ.set i (.inst T.tcp d)).set d (.attrs [("comp_select_list", keyL d0 d1)]))) : Fn C A (.ref T.tcp) [keyL d0 d1] σ Q := by
  refine fn_make T.ktcp hi hd hid T.mI T.uI fun rest => ?_
  obtain ⟨cd, F⟩ := T.GI
  refine fn_go F (n := N) (hA.make _ _) (Loc.set (Loc.set (fun _ => none) "self" (.ref i)) "comp_select_list" (keyL d0 d1)) (ps := ["self", "comp_select_list"]) (by walk_at "bind") (by kernel_rfl!) rfl rfl fun L A' KF hKF hA' => exs_cons ?_
  refine ex_seta ?_
  walk_at "ss"
  refine sta_inst T.ktcp hp_same (hp_other (Ne.symm hid) hp_same) T.v1 (by decide) ?_
  walk_at "ss"
  refine ⟨rfl, ?_⟩
  rw [set_comm (n := d) (Ne.symm hid), set_set]
  exact q
theorem fn_cmp (T : Tm C) {N : Nat} (hA : Ar A (N + 1)) {i d : Nat} {d0 d1 a b a' b' : Int} {L R : List MV} (hi : σ i = some (.inst T.tcp d)) (hd : σ d = some (.attrs [("comp_select_list", keyL d0 d1)]))
    (q : Q (.int (cmpP d0 d1 a b a' b')) σ) : Fn C A (.ref T.gC) [.ref i, .tup (.int a :: .int b :: L), .tup (.int a' :: .int b' :: R)] σ Q := by
  obtain ⟨cd, F⟩ := T.GC
  refine fn_go F hA (Loc.set (Loc.set (Loc.set (fun _ => none) "self" (.ref i)) "left" (.tup (.int a :: .int b :: L))) "right" (.tup (.int a' :: .int b' :: R))) (ps := ["self", "left", "right"]) (by walk_at "bind") (by kernel_rfl!) rfl rfl fun Lx A' KF hKF hA' => exs_cons ?_
  refine ex_forL 2 (fun k => ([.tup [.int 0, .int d0], .tup [.int 1, .int d1]] : List MV).getD k .none) (fun σ' => lstOf σ' (keyL d0 d1) = some [.tup [.int 0, .int d0], .tup [.int 1, .int d1]])
    (fun k lo σ' => A5 (σ' = σ) (lo "left" = some (.tup (.int a :: .int b :: L))) (lo "right" = some (.tup (.int a' :: .int b' :: R))) ((1 ≤ k → a = a')) ((2 ≤ k → b = b'))) ?_ ?_ ?_
  · refine walk_of ?_
    refine ev_attr ?_
    walk_at "ss"
    refine att_inst T.ktcp hi hd (v := keyL d0 d1) rfl rfl T.m1 ⟨walk_list hA'.h rfl, rfl, by walk_at "lk", by walk_at "lk", (fun h => absurd h (by decide)), (fun h => absurd h (by decide))⟩
  · rintro k K1 hK1 lo σ' hk ⟨rfl, l1, l2, h1, h2⟩ hJ
    match k, hk with
    | 0, _ =>
      refine st_tup2 (a := .int 0) (b := .int d0) hA'.h (.inl (by kernel_rfl!)) (.inl (by kernel_rfl!)) ?_
      walk_at "ss"
      refine gi_tup (m := .int a) (by decide) (by simp; (first | lia | omega)) (by decide) rfl ?_
      walk_at "ss"
      refine gi_tup (m := .int a') (by decide) (by simp; (first | lia | omega)) (by decide) rfl ?_
      walk_at "ss"
      refine iteB (fun h => ?_) fun h => ?_
      · walk_at "ss"
        have h' := of_decide_eq_true h
        simpa [cmpP, h', retOf_ret] using q
      have h' := of_decide_eq_false h
      walk_at "ss"
      refine iteB (fun h => ?_) fun h => ?_
      · walk_at "ss"
        have h2' := of_decide_eq_true h
        simpa [cmpP, h', h2', retOf_ret] using q
      have h2' := of_decide_eq_false h
      walk_at "ss"
      exact ⟨⟨rfl, by walk_at "lk", by walk_at "lk", fun _ => by walk_at "l", fun h => absurd h (by decide)⟩, hJ⟩
    | 1, _ =>
      have ha : a = a' := h1 (Nat.le_refl _)
      subst ha
      refine st_tup2 (a := .int 1) (b := .int d1) hA'.h (.inl (by kernel_rfl!)) (.inl (by kernel_rfl!)) ?_
      walk_at "ss"
      refine gi_tup (m := .int b) (by decide) (by simp; (first | lia | omega)) (by decide) rfl ?_
      walk_at "ss"
      refine gi_tup (m := .int b') (by decide) (by simp; (first | lia | omega)) (by decide) rfl ?_
      walk_at "ss"
      refine iteB (fun h => ?_) fun h => ?_
      · walk_at "ss"
        have h' := of_decide_eq_true h
        simpa [cmpP, h', retOf_ret] using q
      have h' := of_decide_eq_false h
      walk_at "ss"
      refine iteB (fun h => ?_) fun h => ?_
      · walk_at "ss"
        have h2' := of_decide_eq_true h
        simpa [cmpP, h', h2', retOf_ret] using q
      have h2' := of_decide_eq_false h
      walk_at "ss"
      exact ⟨⟨rfl, by walk_at "lk", by walk_at "lk", fun _ => rfl, fun _ => by walk_at "l"⟩, hJ⟩
  · rintro lo σ' ⟨rfl, _, _, h1, h2⟩ _
    walk_at "ss"
    have := h1 (by decide); have := h2 (by decide)
    subst_vars
    simpa [cmpP, retOf_ret] using q
end
section
section
variable {C : Cx} {A : Around} {fm : Fm} {fa : List Addr} {loc : Loc} {σ : Hp} {g : Gh} {s : Shared} {Q Q' : MV → Hp → Prop} {QB : Bool → Hp → Prop} {QS : Fl → Loc → Hp → Prop}
theorem VRs.strsAre {h : Heap} {ts : List Str} {r : List Value} (z : VRs C g h (ts.map .str) r) : StrsAre r ts := by
  induction ts generalizing r with
  | nil => rw [z.inv]; exact .nil
  | cons x ts ih =>
    obtain ⟨v, r', rfl, a, b⟩ := z.inv
    obtain ⟨t, rfl⟩ := a.inv
    exact .cons x t (ih b)
theorem op_ini {a : MV} {ns : List Int} {k : Int} (ha : lstOf σ a = some (ns.map MV.int)) (q : Q (.bool (ns.any (· == k))) σ) : Op2 C A fm (compareOp .In) (.int k) a loc σ Q := by
  intro fa g s x y r hx ha'
  obtain ⟨t, rfl⟩ := hx.inv
  obtain ⟨b, xs, rfl, ho, hl⟩ := r.gr.lst ha ha'
  exact in_list_ints (vs := xs) ho hl.ints (.now r (.bool _) q)
theorem op_nint {a : MV} {ts : List Str} {k : Str} (ha : lstOf σ a = some (ts.map MV.str)) (q : Q (.bool (!(ts.any (· == k)))) σ) : Op2 C A fm (compareOp .NotIn) (.str k) a loc σ Q := by
  intro fa g s x y r hx ha'
  obtain ⟨t, rfl⟩ := hx.inv
  obtain ⟨b, xs, rfl, ho, hl⟩ := r.gr.lst ha ha'
  exact notin_list_strs (vs := xs) ho hl.strsAre (.now r (.bool _) q)
theorem cal_pop0 {n : Nat} {l : List MV} {m : MV} (hn : σ n = some (.list (m :: l))) (hs : l.length < 1000000) (q : Q m (σ.set n (.list l))) : Cal C A fm (.builtin "list.pop") [.ref n, .int 0] loc σ Q := by
  intro fa g s vs r hvs
  obtain ⟨x₁, x₂, rfl, hx, hy⟩ := hvs.inv2
  obtain ⟨t, rfl⟩ := hy.inv
  obtain ⟨a, xs, rfl, ha, ⟨k, ho⟩, hl⟩ := r.lbl hn hx
  obtain ⟨v, ys, rfl, hv, hl⟩ := hl.inv
  have hlen := hl.length
  refine call_meets F.slot_list_pop ⟨_, ho, rfl⟩ F.entry_list_pop (F.args_list_pop_2 _ _) (MeetsSeq.list_pop_at a ⟨v :: ys⟩ k 0 t 0 v (by decide) (by simp [seqIndex?]) (by simp) (sizeLine_ge (by show ys.length + 1 ≤ _; lia))) ⟨ho, ?_⟩
  refine .updL (t := s.toks) r ha (xs' := ys) ?_ (Heap.SameBut.update ..) hl hv q
  have := plain_upd ho fun xs => xs.eraseIdxIfInBounds 0
  simpa [Array.eraseIdxIfInBounds] using this
theorem VRs.insertIdx {h : Heap} {m : MV} {v : Value} (hv : VR C g h m v) : ∀ {l : List MV} {r : List Value} (hl : VRs C g h l r) (k : Nat), VRs C g h (l.take k ++ m :: l.drop k) (r.take k ++ v :: r.drop k)
  | [], r, hl, k => by rw [show r = [] from hl.inv]; simpa using VRs.cons hv .nil
  | a :: l, r, hl, 0 => .cons hv hl
  | a :: l, r, hl, k + 1 => by
    obtain ⟨u, r', rfl, ha, hl⟩ := hl.inv
    exact .cons ha (VRs.insertIdx hv hl k)
theorem cal_insert {n : Nat} {l : List MV} {m : MV} {k : Nat} {ki : Int} (hki : ki = (k : Nat)) (hn : σ n = some (.list l)) (hs : l.length ≤ 100000) (hk : k ≤ l.length) (q : Q .none (σ.set n (.list (l.take k ++ m :: l.drop k)))) : Cal C A fm (.builtin "list.insert") [.ref n, .int ki, m] loc σ Q := by
  intro fa g s vs r hvs
  obtain ⟨x₁, x₂, x₃, rfl, hx, hy, hz⟩ := hvs.inv3
  obtain ⟨t, rfl⟩ := hy.inv
  obtain ⟨a, xs, rfl, ha, ⟨c, ho⟩, hl⟩ := r.lbl hn hx
  have hlen := hl.length
  have hk0 : ki < 1000000000 := by walk_at "l"
  have hf : Builtin.List.listFitsIndex ki = true := PySem.fitsIndex_of (hki ▸ Int.natCast_nonneg k) (lt63 hk0)
  have hf' : ¬ (!Builtin.List.listFitsIndex ki) = true := by rw [hf]; simp
  have hsz : (Array.mk xs).size ≤ sizeLine := sizeLine_ge (by show xs.length ≤ _; lia)
  have hM := @AutoListH.list_insert_list_int_val_1 a ⟨xs⟩ c ki t x₃ hf' hsz
  have e' : (if ki < 0 then (ki + (((Array.mk xs).size : Nat) : Int)).toNat else min ki.toNat (Array.mk xs).size) = k := by
    rw [if_neg (Int.not_lt.mpr (hki ▸ Int.natCast_nonneg k))]; show min ki.toNat xs.length = k; lia
  refine call_meets F.slot_list_insert ⟨_, ho, rfl⟩ F.entry_list_insert (F.args_list_insert_3 _ _ _) hM ⟨ho, ?_⟩
  refine .updL (t := s.toks) r ha (xs' := xs.take k ++ x₃ :: xs.drop k) ?_ (Heap.SameBut.update ..) (hl.insertIdx hz k) .none q
  have e := plain_upd ho fun xs => have j := if ki < 0 then (ki + ((xs.size : Nat) : Int)).toNat else min ki.toNat xs.size; (xs.extract 0 j).push x₃ ++ xs.extract j
  have e3 : ((Array.mk xs).extract 0 k).push x₃ ++ (Array.mk xs).extract k = ⟨xs.take k ++ x₃ :: xs.drop k⟩ := by
    apply Array.ext'
    simp [List.extract_eq_take_drop]
    exact List.take_of_length_le (by simp)
  rw [← e3, ← e']
  exact e
theorem jlt {j : Nat} (h : j < 1000000000) : (j : Int) < 2 ^ 63 - 1 := Int.lt_of_lt_of_le (Int.ofNat_lt.mpr h) (by decide)
theorem cal_index {m : MV} {ts : List Str} {x : Str} {j : Nat} (hm : lstOf σ m = some (ts.map .str)) (hs : ts.length ≤ 1000000) (hj : ts[j]? = some x) (hno : ∀ i, i < j → ts[i]? ≠ some x) (q : Q (.int j) σ) : Cal C A fm (.builtin "list.index") [m, .str x] loc σ Q := by
  intro fa g s vs r hvs
  obtain ⟨x₁, x₂, rfl, hx, hy⟩ := hvs.inv2
  obtain ⟨t, rfl⟩ := hy.inv
  obtain ⟨a, xs, rfl, ⟨c, ho⟩, hl⟩ := r.gr.lstP hm hx
  have hlen := hl.length
  rw [List.length_map] at hlen
  obtain ⟨hj', ej⟩ := List.getElem?_eq_some_iff.mp hj
  have at' : ∀ i (hi : i < xs.length), ∃ u, xs[i] = .str (ts[i]'(hlen ▸ hi)) u := fun i hi => by
    obtain ⟨v, e, hv⟩ := hl.get (i := i) (m := .str (ts[i]'(hlen ▸ hi))) (by rw [List.getElem?_map, List.getElem?_eq_getElem (hlen ▸ hi)]; rfl)
    obtain ⟨u, rfl⟩ := hv.inv
    rw [List.getElem?_eq_getElem hi] at e
    exact ⟨u, Option.some.inj e⟩
  refine call_meets F.slot_list_index ⟨_, ho, rfl⟩ F.entry_list_index (F.args_list_index_2 _ _) (MeetsSeq.list_index a ⟨xs⟩ c (.str x t) (isStrOf x) (fun y hy => eq_isStrOf x t hl.strsAre y (by simpa using hy)) j (by show j < xs.length; lia) (jlt (by walk_at "l")) ?_ ?_) ⟨ho, .tok r (.int ..) q⟩
  · obtain ⟨u, e⟩ := at' j (by walk_at "l")
    show isStrOf x (xs[j]'(by walk_at "l")) = true
    rw [e, ej]
    exact decide_eq_true rfl
  · intro i hi hij
    obtain ⟨u, e⟩ := at' i hi
    show isStrOf x (xs[i]'hi) = false
    rw [e]
    refine decide_eq_false fun he => hno i hij ?_
    rw [List.getElem?_eq_getElem (by rw [hlen]; exact hi), he]
theorem cal_listL {m : MV} {l : List MV} (hm : lstOf σ m = some l) (hs : l.length ≤ 1000000) (q : Q (.lst l) σ) : Cal C A fm (.type "list") [m] loc σ Q := by
  intro fa g s vs r hvs
  obtain ⟨x₁, rfl, hx⟩ := hvs.inv1
  obtain ⟨a, xs, rfl, ⟨c, ho⟩, hl⟩ := r.gr.lstP hm hx
  have hlen := hl.length
  refine call_list_seq a (.inl rfl) ho rfl rfl (fun h' c' hk hS => ?_) (sizeLine_ge (by show xs.length ≤ _; lia))
  have hlt := Heap.lt_size hS
  have e : Ge g (g.pin s.heap.objs.size) s.heap h' := ⟨fun _ _ e => e, fun _ e => .inr e, fun a o _ e => hk a o e⟩
  exact ⟨g.pin s.heap.objs.size, .lst l, σ, r.pin (s' := { s with heap := h' }) hk (Nat.le_refl _) hlt, .lst (.inl rfl) ⟨c', hS⟩ (hl.mono e), .pin hk (Nat.le_refl _) hlt rfl rfl rfl, q⟩
end
section
variable {C : Cx} {A : Around} {fm : Fm} {loc : Loc} {σ : Hp} {Q : MV → Hp → Prop} {o : Expr} {apos pos : Pos}
theorem ty_pop : typeOf (.builtin "list.pop") = pure (.type "method_descriptor") := F.type_list_pop
theorem ev_pop0 {a : Expr} (h : Ev C A fm o loc σ fun m σ₁ => ∃ n v l, m = .ref n ∧ σ₁ n = some (.list (v :: l)) ∧ l.length < 1000000 ∧ Ev C A fm a loc σ₁ fun k σ₂ => k = .int 0 ∧ σ₂ = σ₁ ∧ Q v (σ₁.set n (.list l)))
    (hbase : attributeBase o "pop" fm.env (eval o fm.env) = eval o fm.env := by rfl) (hs : (starEach [a] fm.env).all (fun p => !p.1) = true := by rfl) (hline : (apos.endLine == pos.line) = true := by rfl) : Ev C A fm (.Call (.Attribute o "pop" apos) [a] [] pos) loc σ Q :=
  ev_meth (EvT.mono h <| by rintro m σ' ⟨n, v, l, e, h0, h2, h1⟩; subst e; exact ⟨"list", "list.pop", F.plainAttrs_list, F.slot_list_pop, ty_pop, mty_lst (lst_ref h0), EvT.mono h1 <| by rintro k σ₂ ⟨e, e', q⟩; subst e; subst e'; exact cal_pop0 h0 h2 q⟩) hbase hs hline (by simp)
theorem ev_insert {a b : Expr} (h : Ev C A fm o loc σ fun m σ₁ => ∃ n l0, m = .ref n ∧ σ₁ n = some (.list l0) ∧ Ev C A fm a loc σ₁ fun k σ₂ => ∃ i : Nat, k = .int i ∧ Ev C A fm b loc σ₂ fun v σ₃ => ∃ l, σ₃ n = some (.list l) ∧ l.length ≤ 100000 ∧ i ≤ l.length ∧ Q .none (σ₃.set n (.list (l.take i ++ v :: l.drop i))))
    (hbase : attributeBase o "insert" fm.env (eval o fm.env) = eval o fm.env := by rfl) (hs : (starEach [a, b] fm.env).all (fun p => !p.1) = true := by rfl) (hline : (apos.endLine == pos.line) = true := by rfl) : Ev C A fm (.Call (.Attribute o "insert" apos) [a, b] [] pos) loc σ Q :=
  ev_meth (EvT.mono h <| by rintro m σ' ⟨n, l0, e, h0, h1⟩; subst e; exact ⟨"list", "list.insert", F.plainAttrs_list, F.slot_list_insert, F.type_list_insert, mty_lst (lst_ref h0), EvT.mono h1 <| by rintro k σ₂ ⟨i, e, h2⟩; subst e; exact EvT.mono h2 <| by rintro v σ₃ ⟨l, h3, h4, h5, q⟩; exact cal_insert rfl h3 h4 h5 q⟩) hbase hs hline (by simp)
theorem ev_index {a : Expr} (h : Ev C A fm o loc σ fun m σ₁ => ∃ ts : List Str, lstOf σ₁ m = some (ts.map .str) ∧ Ev C A fm a loc σ₁ fun k σ₂ => ∃ (x : Str) (j : Nat), k = .str x ∧ lstOf σ₂ m = some (ts.map .str) ∧ ts.length ≤ 1000000 ∧ ts[j]? = some x ∧ (∀ i, i < j → ts[i]? ≠ some x) ∧ Q (.int j) σ₂)
    (hbase : attributeBase o "index" fm.env (eval o fm.env) = eval o fm.env := by rfl) (hs : (starEach [a] fm.env).all (fun p => !p.1) = true := by rfl) (hline : (apos.endLine == pos.line) = true := by rfl) : Ev C A fm (.Call (.Attribute o "index" apos) [a] [] pos) loc σ Q :=
  ev_meth (EvT.mono h <| by rintro m σ' ⟨ts, e, h1⟩; exact ⟨"list", "list.index", F.plainAttrs_list, F.slot_list_index, F.type_list_index, mty_lst e, EvT.mono h1 <| by rintro k σ₂ ⟨x, j, e', h2, h3, h4, h5, q⟩; subst e'; exact cal_index h2 h3 h4 h5 q⟩) hbase hs hline (by simp)
end
end
section
section
variable {C : Cx} {A : Around} {fm : Fm} {fa : List Addr} {loc : Loc} {σ : Hp} {g : Gh} {s : Shared} {Q Q' : MV → Hp → Prop} {QB : Bool → Hp → Prop} {QS : Fl → Loc → Hp → Prop}
inductive Pl : Nat → MV → Prop
  | int (n : Nat) (i : Int) : Pl n (.int i)
  | str (n : Nat) (x : Str) : Pl n (.str x)
  | tup {n : Nat} {l : List MV} : (∀ m ∈ l, Pl n m) → Pl (n + 1) (.tup l)
  | lst {n : Nat} {l : List MV} : (∀ m ∈ l, Pl n m) → Pl (n + 1) (.lst l)
theorem range_all (n : Nat) : ((List.range n).all fun _ => true) = true := List.all_eq_true.mpr fun _ _ => rfl
theorem pair_get {h : Heap} {l : List MV} {xs ys : List Value} (hx : VRs C g h l xs) (hy : VRs C g h l ys) (j : Nat) (h1 : j < xs.length) (h2 : j < ys.length) : ∃ m ∈ l, VR C g h m xs[j] ∧ VR C g h m ys[j] := by
  have e1 := hx.length
  have hj : j < l.length := by walk_at "l"
  obtain ⟨v, ev, hv⟩ := hx.get (List.getElem?_eq_getElem hj)
  obtain ⟨w, ew, hw⟩ := hy.get (List.getElem?_eq_getElem hj)
  rw [List.getElem?_eq_getElem h1] at ev
  rw [List.getElem?_eq_getElem h2] at ew
  exact ⟨l[j], List.getElem_mem hj, Option.some.inj ev ▸ hv, Option.some.inj ew ▸ hw⟩
theorem Pl.eq {n : Nat} {m : MV} (p : Pl n m) : ∀ {A : Around} {u v : Value}, A.units + n < cLine → VR C g s.heap m u → VR C g s.heap m v → SeqAt.EqAt A s u v true := by
  refine Pl.rec (motive := fun n m _ => ∀ {A : Around} {u v : Value}, A.units + n < cLine → VR C g s.heap m u → VR C g s.heap m v → SeqAt.EqAt A s u v true) ?_ ?_ ?_ ?_ p
  · intro n i A u v _ hu hv
    obtain ⟨t, rfl⟩ := hu.inv
    obtain ⟨t', rfl⟩ := hv.inv
    exact fun prog w E Q q => wpAny_eqBool_int (by simpa using q)
  · intro n x A u v _ hu hv
    obtain ⟨t, rfl⟩ := hu.inv
    obtain ⟨t', rfl⟩ := hv.inv
    exact fun prog w E Q q => wpAny_eqBool_str (by simpa using q)
  · intro n l _ ih A u v hA hu hv
    obtain ⟨a, xs, rfl, _, ha, hx⟩ := hu.inv
    obtain ⟨b, ys, rfl, _, hb, hy⟩ := hv.inv
    by_cases hab : a = b
    · subst hab; exact .same _
    have e : xs.length = ys.length := by rw [← hx.length, ← hy.length]
    have h := SeqAt.RcAt.tuples (A := A) (e := fun _ => true) ha hb (by walk_at "l") fun j h1 h2 => by
      obtain ⟨m, hm, q1, q2⟩ := pair_get hx hy j h1 h2
      exact ih m hm (by rw [units_in1]; lia) q1 q2
    have e2 : ((List.range (min (Array.mk xs).size (Array.mk ys).size)).all (fun _ => true) && (Array.mk xs).size == (Array.mk ys).size) = true := by
      rw [range_all]; simpa using e
    rw [e2] at h
    exact .of_refs hab h
  · intro n l _ ih A u v hA hu hv
    obtain ⟨a, xs, rfl, _, ⟨ca, ha⟩, hx⟩ := hu.inv
    obtain ⟨b, ys, rfl, _, ⟨cb, hb⟩, hy⟩ := hv.inv
    by_cases hab : a = b
    · subst hab; exact .same _
    have e : xs.length = ys.length := by rw [← hx.length, ← hy.length]
    have h := SeqAt.RcAt.lists (A := A) (e := fun _ => true) ⟨_, ha, rfl, _, rfl⟩ ⟨_, hb, rfl, _, rfl⟩ e (by walk_at "l") fun j h1 h2 => by
      obtain ⟨m, hm, q1, q2⟩ := pair_get hx hy j h1 h2
      exact ih m hm (by rw [units_in1]; lia) q1 q2
    rw [range_all] at h
    exact .of_refs hab h
theorem op_neL {a b : MV} {l : List MV} {n : Nat} (hu : A.units + n + 1 < cLine) (ha : lstOf σ a = some l) (hb : lstOf σ b = some l) (hp : ∀ m ∈ l, Pl n m) (q : Q (.bool false) σ) : Op2 C A fm (compareOp .NotEq) a b loc σ Q := by
  intro fa g s x y r hx hy
  obtain ⟨a, xs, rfl, ha, hx⟩ := r.gr.lst ha hx
  obtain ⟨b, ys, rfl, hb, hy⟩ := r.gr.lst hb hy
  have e : xs.length = ys.length := by rw [← hx.length, ← hy.length]
  have h := SeqAt.RcNeAt.lists (A := A) (e := fun _ => true) ha hb e (by walk_at "l") fun j h1 h2 => by
    obtain ⟨m, hm, q1, q2⟩ := pair_get hx hy j h1 h2
    exact (hp m hm).eq (by rw [units_in1]; lia) q1 q2
  rw [range_all] at h
  exact h _ _ _ _ (.now r (.bool _) q)
theorem op_eqL {a b : MV} {l : List MV} {n : Nat} (hu : A.units + n + 1 < cLine) (ha : lstOf σ a = some l) (hb : lstOf σ b = some l) (hp : ∀ m ∈ l, Pl n m) (q : Q (.bool true) σ) : Op2 C A fm (compareOp .Eq) a b loc σ Q := by
  intro fa g s x y r hx hy
  obtain ⟨a, xs, rfl, ha, hx⟩ := r.gr.lst ha hx
  obtain ⟨b, ys, rfl, hb, hy⟩ := r.gr.lst hb hy
  have e : xs.length = ys.length := by rw [← hx.length, ← hy.length]
  have h := SeqAt.RcAt.lists (A := A) (e := fun _ => true) ha hb e (by walk_at "l") fun j h1 h2 => by
    obtain ⟨m, hm, q1, q2⟩ := pair_get hx hy j h1 h2
    exact (hp m hm).eq (by rw [units_in1]; lia) q1 q2
  rw [range_all] at h
  exact h _ _ _ _ (.now r (.bool _) q)
theorem op_nes {x y : Str} (q : Q (.bool (!decide (x = y))) σ) : Op2 C A fm (compareOp .NotEq) (.str x) (.str y) loc σ Q := by
  refine op_str fun fa g s _ _ r => ?_
  refine PySem.P.ne_str ?_
  rw [show (x.cps.toList != y.cps.toList) = !(x.cps.toList == y.cps.toList) from rfl, str_beq]
  exact .now r (.bool _) q
theorem op_le {i j : Int} (q : Q (.bool (decide (i ≤ j))) σ) : Op2 C A fm (compareOp .LtE) (.int i) (.int j) loc σ Q := op_int fun fa g s _ _ r => PyProof.Rows.le_int (.now r (.bool _) q)
theorem tr_chain {l e1 e2 : Expr} {op1 op2 : CmpOp} {pos : Pos} (h : Ev C A fm l loc σ fun a σ₁ => Ev C A fm e1 loc σ₁ fun b σ₂ => Op2 C A fm (compareOp op1) a b loc σ₂ fun m σ₃ => ∃ t, m = .bool t ∧ if t then Ev C A fm e2 loc σ₃ fun c σ₄ => Op2 C A fm (compareOp op2) b c loc σ₄ fun m σ₅ => ∃ t, m = .bool t ∧ QB t σ₅ else QB false σ₃)
    (hm : lastMarks [op1, op2] [e1, e2] = false := by with_unfolding_all rfl) : Tr C A fm (.Compare l [op1, op2] [e1, e2] pos) loc σ QB := fun fa g s r => by
  refine isTrue_chain (wpAny_mono (h fa g s r) ?_ fun _ _ e => e) hm
  rintro x s₁ ⟨g₁, a, σ₁, r₁, hx, d₁, h₁⟩
  refine test_link (wpAny_mono (h₁ fa g₁ s₁ r₁) ?_ fun _ _ e => e)
  rintro y s₂ ⟨g₂, b, σ₂, r₂, hy, d₂, h₂⟩
  refine wpAny_mono (h₂ fa g₂ s₂ x y r₂ (hx.mono (r₁.ge d₂)) hy) ?_ fun _ _ e => e
  rintro c s₃ ⟨g₃, m, σ₃, r₃, hm, d₃, t, rfl, h₃⟩
  obtain rfl := hm.inv
  refine wpAny_truthy_bool ?_
  have d' := (d₁.trans d₂).trans d₃
  cases t
  · exact ⟨g₃, σ₃, r₃, d', h₃⟩
  refine test_last (wpAny_mono (h₃ fa g₃ s₃ r₃) ?_ fun _ _ e => e)
  rintro z s₄ ⟨g₄, c', σ₄, r₄, hz, d₄, h₄⟩
  refine wpAny_mono (h₄ fa g₄ s₄ y z r₄ ((hy.mono (r₂.ge d₃)).mono (r₃.ge d₄)) hz) ?_ fun _ _ e => e
  rintro c'' s₅ ⟨g₅, m', σ₅, r₅, hm', d₅, t', rfl, h₅⟩
  obtain rfl := hm'.inv
  exact wpAny_truthy_bool ⟨g₅, σ₅, r₅, (d'.trans d₄).trans d₅, h₅⟩
theorem pair_lt {a b : Addr} {i j k l : Int} {ti tj tk tl : Tok} {R : Value → Shared → Prop} {E : Value → Shared → Prop} (ha : s.heap.IsTuple a ⟨[.int i ti, .int j tj]⟩) (hb : s.heap.IsTuple b ⟨[.int k tk, .int l tl]⟩) (hu : A.units < cLine)
    (q : R (.bool (decide (i < k ∨ i = k ∧ j < l))) s) : wpAny (model C.prog C.w) A (richCompare .Lt (.ref a) (.ref b)) R E s := by
  obtain ⟨oa, hoa, hca, na, hda⟩ := id ha
  obtain ⟨ob, hob, hcb, nb, hdb⟩ := id hb
  refine wpAny_richCompare_same_room (op := .Lt) ha.typeIs hb.typeIs F.slot_tuple_lt (wpAny_call_entry F.slot_tuple_lt ha.typeIs F.entry_tuple_lt ?_ (F.args_tuple_lt_2 _ _)) hu
  unfold Builtin.«tuple.__lt__»
  refine wpAny_bind (wpAny_pure ?_)
  refine wpAny_bind (wpAny_isInstance (T := "tuple") (b := true) hb.typeIs AutoSeq1.sub_tuple_tuple ?_)
  rw [if_neg (by decide)]
  refine wpAny_bind (wpAny_bind (wpAny_seqItems hoa hda (wpAny_pure ?_)))
  refine wpAny_bind (wpAny_bind (wpAny_seqItems hob hdb (wpAny_pure ?_)))
  show wpAny _ _ (forIn [(Value.int i ti, Value.int k tk), (Value.int j tj, Value.int l tl)] _ _ >>= _) _ _ _
  refine wpAny_bind ?_
  rw [List.forIn_cons]
  refine wpAny_bind (wpAny_bind (wpAny_eqBool_int ?_))
  by_cases h1 : i = k
  · rw [if_neg (by simpa using h1)]
    refine wpAny_bind (wpAny_pure ?_)
    refine wpAny_pure ?_
    show wpAny _ _ (forIn [(Value.int j tj, Value.int l tl)] _ _) _ _ _
    rw [List.forIn_cons]
    refine wpAny_bind (wpAny_bind (wpAny_eqBool_int ?_))
    by_cases h2 : j = l
    · rw [if_neg (by simpa using h2)]
      refine wpAny_bind (wpAny_pure ?_)
      refine wpAny_pure ?_
      show wpAny _ _ (forIn [] _ _) _ _ _
      rw [List.forIn_nil]
      refine wpAny_pure ?_
      have e : Builtin.Tuple.tupleCompareSizes .Lt (Array.mk [Value.int i ti, Value.int j tj]).size (Array.mk [Value.int k tk, Value.int l tl]).size = .bool (decide (i < k ∨ i = k ∧ j < l)) := by
        rw [decide_eq_false fun h => h.elim (fun h => Int.ne_of_lt h h1) fun h => Int.ne_of_lt h.2 h2]; rfl
      exact wpAny_pure ⟨_, rfl, by rw [e]; exact ⟨(fun x => (nomatch x)), q⟩⟩
    · rw [if_pos (by simpa using h2)]
      refine wpAny_bind (wpAny_rule (wpAny_bind (wpAny_lt_int ?_)))
      refine wpAny_bind (wpAny_pure (wpAny_pure (wpAny_pure (wpAny_pure ⟨_, rfl, ?_⟩))))
      rw [show decide (j < l) = decide (i < k ∨ i = k ∧ j < l) from decide_eq_decide.mpr ⟨fun h => .inr ⟨h1, h⟩, fun h => h.elim (fun h => absurd h1 (Int.ne_of_lt h)) And.right⟩]
      exact ⟨(fun x => (nomatch x)), q⟩
  · rw [if_pos (by simpa using h1)]
    refine wpAny_bind (wpAny_rule (wpAny_bind (wpAny_lt_int ?_)))
    refine wpAny_bind (wpAny_pure (wpAny_pure (wpAny_pure (wpAny_pure ⟨_, rfl, ?_⟩))))
    rw [show decide (i < k) = decide (i < k ∨ i = k ∧ j < l) from decide_eq_decide.mpr ⟨.inl, fun h => h.elim id fun h => absurd h.1 h1⟩]
    exact ⟨(fun x => (nomatch x)), q⟩
end
end
section
mutual
inductive Fz (σ : Hp) : MV → MV → Prop
  | ok {m : MV} : Ok (fun _ => False) m → Fz σ m m
  | lst {n : Nat} {l l' : List MV} : σ n = some (.list l) → Fzs σ l l' → Fz σ (.ref n) (.lst l')
  | dct {n : Nat} {l l' : List (Str × MV)} : σ n = some (.dict l) → Fzd σ l l' → Fz σ (.ref n) (.dct l')
  | tup {l l' : List MV} : Fzs σ l l' → Fz σ (.tup l) (.tup l')
  | lstF {l l' : List MV} : Fzs σ l l' → Fz σ (.lst l) (.lst l')
inductive Fzs (σ : Hp) : List MV → List MV → Prop
  | nil : Fzs σ [] []
  | cons {m m' : MV} {l l' : List MV} : Fz σ m m' → Fzs σ l l' → Fzs σ (m :: l) (m' :: l')
inductive Fzd (σ : Hp) : List (Str × MV) → List (Str × MV) → Prop
  | nil : Fzd σ [] []
  | cons {k : Str} {m m' : MV} {l l' : List (Str × MV)} : Fz σ m m' → Fzd σ l l' → Fzd σ ((k, m) :: l) ((k, m') :: l')
end
noncomputable def gF (C : Cx) (g : Gh) (s : Shared) : Gh := leave (fun _ => False) g C.N0 s.heap.objs.size
section
variable {C : Cx} {A : Around} {fm : Fm} {fa : List Addr} {loc : Loc} {σ : Hp} {g : Gh} {s : Shared} {Q Q' : MV → Hp → Prop} {QS : Fl → Loc → Hp → Prop}
theorem Fz.lab {n : Nat} {a : Addr} (r : GR C g σ s) (ha : g.ρ n = some a) : (gF C g s).P a := .inr ⟨(r.live _ _ ha).1, (r.live _ _ ha).2.1, fun k hk => hk.elim⟩
theorem Fz.list {n : Nat} {l l' : List MV} {v : Value} (r : GR C g σ s) (hσ : σ n = some (.list l)) (k : ∀ xs, VRs C g s.heap l xs → VRs C (gF C g s) s.heap l' xs) (hv : VR C g s.heap (.ref n) v) : VR C (gF C g s) s.heap (.lst l') v := by
  obtain ⟨a, rfl, ha⟩ := hv.inv
  obtain ⟨b, hb, ho⟩ := r.heap _ _ hσ
  obtain rfl := Option.some.inj (ha.symm.trans hb)
  cases ho with
  | list ho hx => exact .lst (Fz.lab r ha) ho (k _ hx)
theorem Fz.dict {n : Nat} {l l' : List (Str × MV)} {v : Value} (r : GR C g σ s) (hσ : σ n = some (.dict l)) (k : ∀ xs, VRd C g s.heap l xs → VRd C (gF C g s) s.heap l' xs) (hv : VR C g s.heap (.ref n) v) : VR C (gF C g s) s.heap (.dct l') v := by
  obtain ⟨a, rfl, ha⟩ := hv.inv
  obtain ⟨b, hb, ho⟩ := r.heap _ _ hσ
  obtain rfl := Option.some.inj (ha.symm.trans hb)
  cases ho with
  | dict ho hx => exact .dct (Fz.lab r ha) ho (k _ hx)
theorem Fz.run (r : GR C g σ s) {m m' : MV} {v : Value} (z : Fz σ m m') (x : VR C g s.heap m v) : VR C (gF C g s) s.heap m' v :=
  Fz.rec (motive_1 := fun m m' _ => ∀ v, VR C g s.heap m v → VR C (gF C g s) s.heap m' v) (motive_2 := fun l l' _ => ∀ v, VRs C g s.heap l v → VRs C (gF C g s) s.heap l' v) (motive_3 := fun l l' _ => ∀ v, VRd C g s.heap l v → VRd C (gF C g s) s.heap l' v)
    (fun o _ hv => hv.lose leave_gl o) (fun hσ _ ih _ hv => Fz.list r hσ ih hv) (fun hσ _ ih _ hv => Fz.dict r hσ ih hv) (fun _ ih _ hv => hv.inv.elim fun _ y => y.elim fun _ y => y.1 ▸ .tup (.inl y.2.1) y.2.2.1 (ih _ y.2.2.2))
    (fun _ ih _ hv => hv.inv.elim fun _ y => y.elim fun _ y => y.1 ▸ .lst (.inl y.2.1) y.2.2.1 (ih _ y.2.2.2)) (fun _ h => h.inv ▸ .nil) (fun _ _ a b _ h => h.inv.elim fun _ y => y.elim fun _ y => y.1 ▸ .cons (a _ y.2.1) (b _ y.2.2))
    (fun _ h => h.inv ▸ .nil) (fun _ _ a b _ h => h.inv.elim fun _ y => y.elim fun _ y => y.1 ▸ .cons (a _ y.2.1) (b _ y.2.2)) z v x
theorem Fzs.run (r : GR C g σ s) {l l' : List MV} {w : List Value} (z : Fzs σ l l') (x : VRs C g s.heap l w) : VRs C (gF C g s) s.heap l' w :=
  Fzs.rec (motive_1 := fun m m' _ => ∀ v, VR C g s.heap m v → VR C (gF C g s) s.heap m' v) (motive_2 := fun l l' _ => ∀ v, VRs C g s.heap l v → VRs C (gF C g s) s.heap l' v) (motive_3 := fun l l' _ => ∀ v, VRd C g s.heap l v → VRd C (gF C g s) s.heap l' v)
    (fun o _ hv => hv.lose leave_gl o) (fun hσ _ ih _ hv => Fz.list r hσ ih hv) (fun hσ _ ih _ hv => Fz.dict r hσ ih hv) (fun _ ih _ hv => hv.inv.elim fun _ y => y.elim fun _ y => y.1 ▸ .tup (.inl y.2.1) y.2.2.1 (ih _ y.2.2.2))
    (fun _ ih _ hv => hv.inv.elim fun _ y => y.elim fun _ y => y.1 ▸ .lst (.inl y.2.1) y.2.2.1 (ih _ y.2.2.2)) (fun _ h => h.inv ▸ .nil) (fun _ _ a b _ h => h.inv.elim fun _ y => y.elim fun _ y => y.1 ▸ .cons (a _ y.2.1) (b _ y.2.2))
    (fun _ h => h.inv ▸ .nil) (fun _ _ a b _ h => h.inv.elim fun _ y => y.elim fun _ y => y.1 ▸ .cons (a _ y.2.1) (b _ y.2.2)) z w x
theorem GR.fz (r : GR C g σ s) : GR C (gF C g s) (restr (fun _ => False) σ) s := r.leave (Nat.le_refl _) fun _ _ h => h.elim
theorem op_neF {n : Nat} {l l' f f' : List MV} (hu : A.units + n + 1 < cLine) (h1 : Fzs σ l f) (h2 : Fzs σ l' f') (h : Sames n f f') (q : Q (.bool false) σ) : Op2 C A fm (compareOp .NotEq) (.tup l) (.tup l') loc σ Q := by
  intro fa g s x y r hx hy
  obtain ⟨a, xs, rfl, hp, ho, hl⟩ := hx.inv
  obtain ⟨b, ys, rfl, hp', ho', hl'⟩ := hy.inv
  obtain ⟨e, hz⟩ := Sames.zip (g := gF C g s) (Pr := fun u v => EqIn C A.in1 s u v true) (fun a b c => Same.run r.gr.fz n (by rw [units_in1, Nat.add_right_comm]; exact hu) a b c) h (h1.run r.gr hl) (h2.run r.gr hl')
  exact tup_nec ho ho' (Nat.lt_of_le_of_lt (Nat.le_trans (Nat.le_add_right _ _) (Nat.le_add_right _ _)) hu) e hz (.now r (.bool ..) q)
theorem ev_compT (ℓ : Nat) {elt : Expr} {tg iter : Expr} {ifs : List Expr} {rest : List Comprehension} {scope : Scope} {pos : Pos} (H : CompOk scope fm.env) (n : Nat) (item : Nat → MV) (J : Hp → Prop) (Inv : Nat → Loc → Hp → List MV → Prop)
    (h : WalkE C A fm tg iter loc σ n item J fun σ₁ => Inv 0 (cLoc scope loc) σ₁ []) (hn : ∀ g', rest[0]? = some g' → g'.is_async = 0)
    (turn : ∀ L a i l σ ys, i < n → Inv i l σ ys → J σ → St C A (cFm scope fm.env L) tg (item i) l σ fun l₁ σ₁ => Ifs C A (cFm scope fm.env L) ifs l₁ σ₁ fun ok σ₂ =>
      if ok then Inn C A (cFm scope fm.env L) a (innerOf elt (⟨tg, iter, ifs, 0⟩ :: rest) scope pos 0 (.ref a) (cEnv scope fm.env L)) ys l₁ σ₂ fun l₂ σ₃ ys' => Inv (i + 1) l₂ σ₃ ys' ∧ J σ₃ else Inv (i + 1) l₁ σ₂ ys ∧ J σ₂)
    (fin : ∀ l σ' ys, Inv n l σ' ys → J σ' → σ' ℓ = none ∧ Q (.ref ℓ) (σ'.set ℓ (.list ys))) (hs : ∀ x, foldedSetIterable iter fm.env x = pure x := by intro _; rfl) :
    Ev C A fm (.ListComp elt (⟨tg, iter, ifs, 0⟩ :: rest) scope pos) loc σ Q := fun fa g s r => by
  show wpAny _ A (eval (.ListComp elt (⟨tg, iter, ifs, 0⟩ :: rest) scope pos) fm.env) _ _ _
  rw [eval_ListComp]
  refine comp_core (use := none) H n item J Inv h hn turn r (fun g' σ' s' a L l ys B ns hI hJ => ?_) hs
  obtain ⟨m, hm⟩ := ns
  refine ⟨m, hm, fun h' hb => ?_⟩
  obtain ⟨hf, q⟩ := fin l σ' ys hI hJ
  obtain ⟨rr, hv, d⟩ := (B.go hb).trk hf
  exact ⟨_, _, _, rr, hv, d, q⟩
end
end
section
theorem minName : (toString "min" ++ toString ".loop" : String) = "min.loop" := by decide
noncomputable def Kept (I S : Addr) (h₀ h : Heap) : Prop := ∀ b o, b ∉ [I] → b ≠ S → h₀.get? b = some o → h.get? b = some o
inductive Old (items : Array Value) (bt : Nat → Nat → Bool) (j : Nat) (old : Array Value) : Prop
  | none : j = 0 → old = #[] → Old items bt j old
  | one (i : Nat) (v : Value) : j = i + 1 → old = #[v, v] → items[argBest bt i]? = some v → Old items bt j old
section
variable {prog : Program} {w : World} {A : Around} {R : Result → Shared → Prop} {I S ax : Addr} {items : Array Value} {h₀ : Heap}
noncomputable def Less (prog : Program) (w : World) (A : Around) (I S : Addr) (h₀ : Heap) (items : Array Value) (bt : Nat → Nat → Bool) : Prop :=
  ∀ (i j : Nat) u v (s : Shared), items[i]? = some u → items[j]? = some v → Kept I S h₀ s.heap →
    ∀ (E : Value → Shared → Prop) (Q : Value → Shared → Prop), Q (.bool (bt i j)) s → wpAny (model prog w) A.in1 (richCompare .Lt u v) Q E s
theorem min_turns (hh : A.handled = none) (hne : ax ≠ I) (hSI : S ≠ I) (hSa : S ≠ ax) (bt : Nat → Nat → Bool) (hc : Less prog w A I S h₀ items bt) (h0 : 0 < items.size) :
    ∀ (k j : Nat) (s : Shared) (c : Nat) (old : Array Value), items.size - j = k → j ≤ items.size → s.heap.IsListIter I ax j ∧ s.heap.IsList ax items → s.heap.get? S = some { cls := .type "list", dict := none, data := .seq old c, slots := #[] } →
      Old items bt j old → Kept I S h₀ s.heap → (∀ v h' tk, items[argBest bt (items.size - 1)]? = some v → Kept I S h₀ h' → R (.ok (.ret v)) { s with heap := h', toks := tk }) →
      codeAny (model prog w) A (.builtin "min.loop" ⟨[.ref I, .none, .ref S], []⟩) R s := by
  have W := Walks.list (prog := prog) (w := w) (A := A.in1) hh I ax hne items
  have hSw : S ∉ [I] := fun h => hSI (List.mem_singleton.mp h)
  have upd : ∀ (h : Heap) (f : Array Value → Array Value), Kept I S h₀ h → Kept I S h₀ (h.update S (Obj.mapSeq f)) := fun h f hk b o h1 h2 e => (Heap.get?_update_other _ _ (Ne.symm h2)).trans (hk b o h1 h2 e)
  have stU : ∀ (h : Heap) (f : Array Value → Array Value) (j : Nat), h.IsListIter I ax j ∧ h.IsList ax items → (h.update S (Obj.mapSeq f)).IsListIter I ax j ∧ (h.update S (Obj.mapSeq f)).IsList ax items := fun h f j hst =>
    W.frame j h _ hst fun b hb o e => (Heap.get?_update_other _ _ (fun q : S = b => by
      simp only [List.mem_cons, List.not_mem_nil, or_false] at hb
      rcases hb with rfl | rfl
      · exact hSI q
      · exact hSa q)).trans e
  intro k
  induction k with
  | zero =>
    intro j s c old hk hj hst hS ho hK hR
    obtain rfl : j = items.size := by walk_at "l"
    refine codeAny_builtin F.entry_min_loop ?_
    rw [Around.under_plainId F.plain_min_loop _]
    cases ho with
    | none e => exact absurd h0 (by walk_at "l")
    | one j v e eo hv =>
      subst eo
      refine wpAny_bind (wpAny_seqItems hS rfl ?_)
      refine wpAny_bind (wpAny_tryCatch (W.done s _ _ hst fun h' tk hk' => ?_))
      have hS' := hk' S _ hSw hS
      show wpAny _ A.in1 (updateSeq S (fun _ => #[]) >>= _) _ _ _
      refine wpAny_bind ?_
      refine wpAny_updateSeq hS' rfl (wpAny_bind (wpAny_letGo (wpAny_pure ?_)))
      rw [e] at hR
      exact hR v _ tk hv (upd h' _ fun b o h1 h2 e => hk' b o h1 (hK b o h1 h2 e))
  | succ k ih =>
    intro j s c old hk hj hst hS ho hK hR
    have hlt : j < items.size := by walk_at "l"
    refine codeAny_builtin F.entry_min_loop ?_
    rw [Around.under_plainId F.plain_min_loop _]
    refine wpAny_bind (wpAny_seqItems hS rfl ?_)
    refine wpAny_bind (wpAny_tryCatch (W.item j s _ _ hlt hst fun v h' tk hP hst' hk' => ?_))
    have hS' := hk' S _ hSw hS
    have hK' : Kept I S h₀ h' := fun b o h1 h2 e => hk' b o h1 (hK b o h1 h2 e)
    cases ho with
    | none e eo =>
      subst e
      subst eo
      show wpAny _ A.in1 (updateSeq S (fun _ => #[v, v]) >>= _) _ _ _
      refine wpAny_bind ?_
      refine wpAny_updateSeq hS' rfl ?_
      rw [minName]
      exact wpAny_pure ⟨plainId_quiet F.plain_min_loop _, ih 1 { s with heap := _, toks := tk } _ _ (by walk_at "l") hlt (stU _ _ _ hst') (Heap.get?_update_self _ hS' rfl) (.one 0 v rfl rfl hP) (upd _ _ hK') fun v h' tk hv hk => hR v h' tk hv hk⟩
    | one i u e eo hu =>
      subst e
      subst eo
      show wpAny _ A.in1 (tryCatch (holding [v, v] (richCompare .Lt v u >>= _)) _ >>= _) _ _ _
      refine wpAny_bind (wpAny_tryCatch (wpAny_holding (wpAny_bind (hc (i + 1) (argBest bt i) v u _ hP hu hK' _ _ ?_))))
      refine wpAny_bind (wpAny_holding (wpAny_truthy_bool ?_))
      refine wpAny_bind (wpAny_letGo (wpAny_pure ?_))
      cases hb : bt (i + 1) (argBest bt i) with
      | true =>
        rw [if_pos rfl]
        refine wpAny_bind ?_
        refine wpAny_updateSeq hS' rfl (wpAny_bind (wpAny_letGo ?_))
        rw [minName]
        have hb' : argBest bt (i + 1) = i + 1 := by show (if bt (i + 1) (argBest bt i) = true then i + 1 else argBest bt i) = _; rw [hb]; rfl
        exact wpAny_pure ⟨plainId_quiet F.plain_min_loop _, ih (i + 2) { s with heap := _, toks := tk } _ _ (by walk_at "l") hlt (stU _ _ _ hst') (Heap.get?_update_self _ hS' rfl) (.one (i + 1) v rfl rfl (by rw [hb']; exact hP)) (upd _ _ hK') fun v h' tk hv hk => hR v h' tk hv hk⟩
      | false =>
        rw [if_neg (by decide)]
        refine wpAny_bind (wpAny_letGo ?_)
        rw [minName]
        have hb' : argBest bt (i + 1) = argBest bt i := by show (if bt (i + 1) (argBest bt i) = true then i + 1 else argBest bt i) = _; rw [hb]; rfl
        exact wpAny_pure ⟨plainId_quiet F.plain_min_loop _, ih (i + 2) { s with heap := h', toks := tk } _ _ (by walk_at "l") hlt hst' hS' (.one (i + 1) u rfl rfl (by rw [hb']; exact hu)) hK' fun v h' tk hv hk => hR v h' tk hv hk⟩
end
section
variable {C : Cx} {A : Around} {fm : Fm} {fa : List Addr} {loc : Loc} {σ : Hp} {g : Gh} {s : Shared} {Q Q' : MV → Hp → Prop}
noncomputable def LtIn (C : Cx) (A : Around) (a b : MV) (t : Bool) : Prop := ∀ (g : Gh) (s : Shared) (u v : Value), VR C g s.heap a u → VR C g s.heap b v → ∀ (E : Value → Shared → Prop) (R : Value → Shared → Prop), R (.bool t) s → wpAny (model C.prog C.w) A (richCompare .Lt u v) R E s
theorem ltIn_int {i j : Int} : LtIn C A (.int i) (.int j) (decide (i < j)) := fun g s u v hu hv E R q => by
  obtain ⟨t, rfl⟩ := hu.inv
  obtain ⟨t', rfl⟩ := hv.inv
  exact wpAny_lt_int q
theorem ltIn_pair {i j k l : Int} (hA : A.units < cLine) : LtIn C A (.tup [.int i, .int j]) (.tup [.int k, .int l]) (decide (i < k ∨ i = k ∧ j < l)) := fun g s u v hu hv E R q => by
  obtain ⟨a, xs, rfl, _, ha, hx⟩ := hu.inv
  obtain ⟨b, ys, rfl, _, hb, hy⟩ := hv.inv
  obtain ⟨x1, x2, rfl, h1, h2⟩ := hx.inv2
  obtain ⟨y1, y2, rfl, h3, h4⟩ := hy.inv2
  obtain ⟨t1, rfl⟩ := h1.inv
  obtain ⟨t2, rfl⟩ := h2.inv
  obtain ⟨t3, rfl⟩ := h3.inv
  obtain ⟨t4, rfl⟩ := h4.inv
  exact pair_lt ha hb hA q
theorem cal_minG {m : MV} {l : List MV} (bt : Nat → Nat → Bool) (hh : A.handled = none) (hl : l ≠ []) (hm : lstOf σ m = some l) (hc : ∀ (i j : Nat) a b, l[i]? = some a → l[j]? = some b → LtIn C A.in1 a b (bt i j)) (q : ∀ a, l[argBest bt (l.length - 1)]? = some a → Q a σ) :
    Cal C A fm (.builtin "min") [m] loc σ Q := by
  intro fa g s vs r hvs
  obtain ⟨x, rfl, hx⟩ := hvs.inv1
  obtain ⟨a, xs, rfl, ho, hv⟩ := r.gr.lst hm hx
  have hlen := hv.length
  have hlt : a < s.heap.objs.size := by obtain ⟨o, ho, _⟩ := ho; exact Heap.lt_size ho
  refine withSize (call_function_tree F.kind_min F.plain_min F.entry_min (F.args_min1 _) ?_)
  show wpAny _ A.in1 (Builtin.Builtins.bindParams "min" ["key", "default"] 0 ⟨[], []⟩ >>= _) _ _ s
  refine wpAny_bind (wpAny_of_eq (show Builtin.Builtins.bindParams "min" ["key", "default"] 0 ⟨[], []⟩ = pure [none, none] from rfl) ?_)
  refine wpAny_bind (wpAny_pure ?_)
  refine wpAny_bind (wpAny_pyIter_list ho ?_)
  refine wpAny_bind (wpAny_newObj_type ?_)
  have e1 : (s.heap.push { cls := .type "list_iterator", data := .fields #[.ref a, .int 0 0] }).objs.size = s.heap.objs.size + 1 := Heap.size_push ..
  rw [minName]
  have k0 : ∀ b o, s.heap.get? b = some o → ((s.heap.push { cls := .type "list_iterator", data := .fields #[.ref a, .int 0 0] }).push { cls := .type "list", data := .seq #[] }).get? b = some o := fun b o e => Heap.get?_push_of_some _ (Heap.get?_push_of_some _ e)
  have kk : ∀ h', Kept s.heap.objs.size (s.heap.push { cls := .type "list_iterator", data := .fields #[.ref a, .int 0 0] }).objs.size s.heap h' → ∀ b o, s.heap.get? b = some o → h'.get? b = some o := fun h' hk b o e => by
    have hb := Heap.lt_size e
    exact hk b o (fun q => Nat.lt_irrefl _ (List.mem_singleton.mp q ▸ hb)) (fun q => by rw [q, e1] at hb; exact absurd hb (Nat.not_lt.mpr (Nat.le_succ _))) e
  refine wpAny_pure ⟨plainId_quiet F.plain_min_loop _, min_turns (I := s.heap.objs.size) (S := (s.heap.push { cls := .type "list_iterator", data := .fields #[.ref a, .int 0 0] }).objs.size) (ax := a) (items := ⟨xs⟩) (h₀ := s.heap) hh (Nat.ne_of_lt hlt) (by rw [e1]; exact Nat.succ_ne_self _) (by rw [e1]; exact Ne.symm (Nat.ne_of_lt (Nat.lt_succ_of_lt hlt))) bt ?_ (by
      show 0 < xs.length
      rw [← hlen]; exact List.length_pos_iff.mpr hl) _ 0 _ 0 #[] rfl (Nat.zero_le _) ⟨⟨_, Heap.get?_push_of_some _ (Heap.get?_push_size _ rfl), rfl, rfl⟩, (ho.push _).push _⟩ (Heap.get?_push_size _ rfl) (.none rfl rfl) (fun b o _ _ e => k0 b o e) fun v h' tk hv' hk hs => ?_⟩
  · intro i j u v s' hu hv' hk E R q
    have hg : Ge g g s.heap s'.heap := ⟨fun _ _ e => e, fun _ e => e, fun b o _ e => kk _ hk b o e⟩
    have getL : ∀ (i : Nat) (u : Value), (Array.mk xs)[i]? = some u → ∃ a, l[i]? = some a ∧ VR C g s.heap a u := fun i u hu => by
      have hu' : xs[i]? = some u := by simpa using hu
      obtain ⟨hi, _⟩ := List.getElem?_eq_some_iff.mp hu'
      obtain ⟨v, ev, hv2⟩ := hv.get (List.getElem?_eq_getElem (by walk_at "l" : i < l.length))
      rw [hu'] at ev
      exact ⟨_, List.getElem?_eq_getElem (by walk_at "l" : i < l.length), Option.some.inj ev ▸ hv2⟩
    obtain ⟨a1, e1, v1⟩ := getL i u hu
    obtain ⟨a2, e2, v2⟩ := getL j v hv'
    exact hc i j a1 a2 e1 e2 g s' u v (v1.mono hg) (v2.mono hg) E R q
  · have hv2 : xs[argBest bt (l.length - 1)]? = some v := by rw [hlen]; simpa using hv'
    obtain ⟨hi, _⟩ := List.getElem?_eq_some_iff.mp hv2
    obtain ⟨v', ev, hvv⟩ := hv.get (List.getElem?_eq_getElem (by walk_at "l" : argBest bt (l.length - 1) < l.length))
    rw [hv2] at ev
    cases ev
    have hk' := kk h' hk
    have hg : Ge g g s.heap h' := ⟨fun _ _ e => e, fun _ e => e, fun b o _ e => hk' b o e⟩
    exact .kept (tk := tk) r hk' hs (hvv.mono hg) (q _ (List.getElem?_eq_getElem (by walk_at "l")))
theorem cal_max2 {i j : Int} (hh : A.handled = none) (q : Q (.int (max i j)) σ) : Cal C A fm (.builtin "max") [.int i, .int j] loc σ Q := by
  intro fa g s vs r hvs
  obtain ⟨x, y, rfl, hx, hy⟩ := hvs.inv2
  obtain ⟨t, rfl⟩ := hx.inv
  obtain ⟨u, rfl⟩ := hy.inv
  refine withSize (call_max_two (two_tuple_iter fun s₂ e st hfp => ?_))
  subst e
  refine ⟨_, _, _, _, _, _, _, rfl, Walks.tuple (A := A.in1) hh (s.heap.objs.size + 1) s.heap.objs.size (Nat.ne_of_lt (Nat.lt_succ_self _)) #[.int i t, .int j u], st, hfp, by simp, CmpOf.ints_gt (fun k => if k = 0 then i else j) (fun k v hv => ?_), fun v h' tk hP hk hs => ?_⟩
  · exact two_at hv
  · have hv : ∃ t', v = .int (max i j) t' := by
      replace hP : (#[Value.int i t, Value.int j u] : Array Value)[if decide (j > i) = true then 1 else 0]? = some v := hP
      by_cases hc : j > i
      · simp [hc] at hP; exact ⟨u, by rw [← hP, Int.max_eq_right (by walk_at "l")]⟩
      · simp [hc] at hP; exact ⟨t, by rw [← hP, Int.max_eq_left (by walk_at "l")]⟩
    obtain ⟨t', rfl⟩ := hv
    refine .kept (tk := tk) r (fun b o e => hk b o (fun hm => ?_) (Heap.get?_push_of_some _ (Heap.get?_push_of_some _ e))) hs (.int ..) q
    have hb : b = s.heap.objs.size + 1 := List.mem_singleton.mp hm
    exact absurd (hb ▸ Heap.lt_size e) (Nat.not_lt.mpr (Nat.le_succ _))
end
end
section
theorem ne_add {n a b : Nat} (h : a ≠ b) : n + a ≠ n + b := fun e => h (Nat.add_left_cancel e)
theorem ne_low {n l a : Nat} (h : l < n) : n + a ≠ l := Nat.ne_of_gt (Nat.lt_of_lt_of_le h (Nat.le_add_right n a))
theorem zipApart_of (n l1 l2 : Nat) (h1 : l1 < n) (h2 : l2 < n) : ZipApart (n + 4) (n + 2) (n + 3) n (n + 1) l1 l2 := by
  constructor <;> first | exact ne_add (by decide) | exact ne_add (b := 0) (by decide) | exact ne_add (a := 0) (by decide) | exact ne_low h1 | exact ne_low h2 | exact ne_low (a := 0) h1 | exact ne_low (a := 0) h2 | exact (ne_low h1).symm | exact (ne_low h2).symm | exact (ne_low (a := 0) h1).symm | exact (ne_low (a := 0) h2).symm
theorem mem4 {n b : Nat} (h : b ∈ [n + 4, n + 3, n, n + 1]) : n ≤ b ∧ b < n + 5 := by
  simp only [List.mem_cons, List.not_mem_nil, or_false] at h
  lia
section
variable {C : Cx} {A : Around} {fm : Fm} {fa : List Addr} {loc : Loc} {σ : Hp} {g : Gh} {s : Shared} {Q Q' : MV → Hp → Prop}
theorem VRs.at_D {h : Heap} {l : List MV} {xs : List Value} (hl : VRs C g h l xs) {i : Nat} {v : Value} (e : xs[i]? = some v) : VR C g h (l.getD i .none) v := by
  have hlen := hl.length
  obtain ⟨hi, _⟩ := List.getElem?_eq_some_iff.mp e
  obtain ⟨u, hu, hm⟩ := hl.get (i := i) (m := l.getD i .none) (by rw [List.getD_eq_getElem?_getD, List.getElem?_eq_getElem (by walk_at "l")]; rfl)
  rw [e] at hu; cases hu
  exact hm
theorem walk_zip {elts : List Expr} {k : Nat} {tp : Pos} {x : Str} {np pos : Pos} {e f : Expr} {n : Nat} {l m : List MV} {Q : Hp → Prop} (hh : A.handled = none) (hx : fm.env.kindOf x = some .globalImplicit) (e1 : nsIn C.K mainGlobals x = some none) (e2 : nsIn C.K builtinsNs x = some (some (.type "zip")))
    (hl : l.length = n) (hm : m.length = n) (h : EvL C A fm [e, f] loc σ fun ms σ₁ => ms = [.lst l, .lst m] ∧ Q σ₁)
    (hs : (starEach [e, f] fm.env).all (fun p => !p.1) = true := by rfl) (hd : (x == ("__debug__" : Str)) = false := by decide) :
    WalkE C A fm (.Tuple elts k tp) (.Call (.Name x np) [e, f] [] pos) loc σ n (fun i => .tup [l.getD i .none, m.getD i .none]) (fun _ => True) Q := fun fa g s r => by
  refine ev_callee hx e1 e2 hs h r ?_ hd
  rintro g' σ' s' ms vs r' hvs d ⟨rfl, q⟩
  obtain ⟨v, u, rfl, hv, hu⟩ := hvs.inv2
  obtain ⟨a, xs, rfl, pa, oa, hxs⟩ := hv.inv
  obtain ⟨b, ys, rfl, pb, ob, hys⟩ := hu.inv
  have la := (r'.gr.P a pa).2
  have lb := (r'.gr.P b pb).2
  refine call_zip_2 oa.isList ob.isList fun h' z1 z2 z3 z4 z5 hz hk => ?_
  refine wpAny_pyIter_zip z1 ?_
  have hz' : s'.heap.objs.size ≤ h'.objs.size := by walk_at "l"
  have r2 : Rel C (g'.pin (s'.heap.objs.size + 2)) σ' fm fa loc { s' with heap := h' } := r'.pin (s' := { s' with heap := h' }) hk (Nat.le_add_right _ 2) (by show _ < h'.objs.size; lia)
  have d2 : Gd C fa g' s' (g'.pin (s'.heap.objs.size + 2)) { s' with heap := h' } := .pin hk (Nat.le_add_right _ 2) (by show _ < h'.objs.size; lia) rfl rfl rfl
  have D := zipApart_of s'.heap.objs.size a b la lb
  have W := WalksT.zip2 (prog := C.prog) (w := C.w) (A := A) hh _ _ _ _ _ _ _ D ⟨xs⟩ ⟨ys⟩
  have en : min (Array.mk xs).size (Array.mk ys).size = n := by
    have h1 := hxs.length
    have h2 := hys.length
    show min xs.length ys.length = n
    lia
  rw [en] at W
  have hg0 : Ge g' (g'.pin (s'.heap.objs.size + 2)) s'.heap h' := ⟨fun _ _ e => e, fun _ e => .inr e, fun b o _ e => hk b o e⟩
  refine ⟨_, σ', _, _, iter_ofT (g₀ := g'.pin (s'.heap.objs.size + 2)) (h₀ := h') (item := fun i => [l.getD i .none, m.getD i .none]) W ?_ ?_ ?_, r2, d.trans d2, ?_, ?_, ⟨⟨fun _ _ e => e, fun _ e => e, fun _ _ _ e => e⟩, z1, z2, ⟨_, _, z3⟩, z4, z5, oa.isList.at fun o e => hk a o e, ob.isList.at fun o e => hk b o e⟩, trivial, q⟩
  · intro c hc
    simp only [List.mem_cons, List.not_mem_nil, or_false] at hc
    rcases hc with rfl | rfl | rfl | rfl | rfl | rfl | rfl
    · exact .inl (by simp)
    · exact .inr (.inl rfl)
    · exact .inl (by simp)
    · exact .inl (by simp)
    · exact .inl (by simp)
    · exact .inr (.inr pa)
    · exact .inr (.inr pb)
  · rintro i vals g h hg ⟨x, y, hx, hy, rfl⟩
    have hg' : Ge g' g s'.heap h := ⟨fun n a e => hg.ρ n a (hg0.ρ n a e), fun a e => hg.P a (hg0.P a e), fun a o p e => hg.keep a o (hg0.P a p) (hk a o e)⟩
    exact .cons ((hxs.at_D (by simpa using hx)).mono hg') (.cons ((hys.at_D (by simpa using hy)).mono hg') .nil)
  · rintro i h ⟨y1, y2, ⟨_, _, y3⟩, y4, y5, _⟩ c hc
    simp only [List.mem_cons, List.not_mem_nil, or_false] at hc
    rcases hc with rfl | rfl | rfl | rfl
    · exact ⟨_, y1⟩
    · exact ⟨_, y3⟩
    · obtain ⟨o, ho, _⟩ := y4; exact ⟨o, ho⟩
    · obtain ⟨o, ho, _⟩ := y5; exact ⟨o, ho⟩
  · intro c hc
    obtain ⟨hb1, hb2⟩ := mem4 hc
    refine ⟨Nat.le_trans r'.gr.size hb1, fun n hn => Nat.lt_irrefl _ (Nat.lt_of_lt_of_le (r'.gr.live n c hn).2.1 hb1), fun hp => ?_⟩
    rcases hp with rfl | hp
    · simp only [List.mem_cons, List.not_mem_nil, or_false] at hc
      lia
    · exact Nat.lt_irrefl _ (Nat.lt_of_lt_of_le (r'.gr.P c hp).2 hb1)
  · intro c hc
    obtain ⟨hb1, hb2⟩ := mem4 hc
    exact ⟨Nat.le_trans d.size hb1, r'.apart hb1⟩
end
end
section
section
variable {C : Cx} {A : Around} {fm : Fm} {fa : List Addr} {loc : Loc} {σ : Hp} {g : Gh} {s : Shared} {Q Q' : MV → Hp → Prop}
noncomputable def lamLoc (p : Str) (m : MV) (x : Str) (mk : MV) : Loc := fun y => if y = p then some m else if y = x then some mk else none
structure LamIs (fm : Fm) (p x : Str) (params : Arguments) (scope : Scope) : Prop where
  bind : ∀ (fd : FuncData) v, fd.params = params → fd.defaults = .none → fd.kwdefaults = .none → bindArgs fd ⟨[v], []⟩ = pure [(p, v)]
  cell : ∀ y ∈ scope.names, y.2 ≠ .cell
  loc : scope.names.lookup p = some .local
  fr : scope.names.lookup x = some .free
  own : x ∈ fm.own
  free : ∀ y, scope.names.lookup y = some .free → y = x
  clo : ∀ cx, fm.env.cells.lookup x = some cx → (clOf scope fm.env).lookup x = some cx ∧ ∀ y c, (clOf scope fm.env).lookup y = some c → y = x ∧ c = cx
  co : scope.isCoroutine = false
  gen : scope.isGenerator = false
  kind : scope.kind = .function
theorem lam_call {p x name qual : Str} {params : Arguments} {body : Expr} {scope : Scope} {f : Addr} {fd : FuncData} {o : Obj} {m mk : MV} {v : Value} (Lm : LamIs fm p x params scope) (r : Rel C g σ fm fa loc s) (hv : VR C g s.heap m v) (hf : s.heap.get? f = some o) (hd : o.data = .func fd)
    (hfd : FdIs fd name qual params (.expr body) scope (clOf scope fm.env)) (hcd : s.heap.CodeRec fd.code fd.qualname) (hroom : A.depth < recursionLimit) (hlx : loc x = some mk)
    (h : ∀ env, Ev C (A.deeper env) ⟨env, []⟩ body (lamLoc p m x mk) σ Q) : wpAny (model C.prog C.w) A (call (.ref f) [v] []) (Post C fm fa loc g s Q) NoE s := by
  obtain ⟨hk, cx, hcx, hcxf⟩ := r.fr.own x Lm.own
  obtain ⟨hclo, hclo'⟩ := Lm.clo cx hcx
  obtain ⟨u, hu, hvu⟩ := r.fr.var x mk hlx
  have hcu : s.heap.IsCell cx (some u) := by
    rcases hu with ⟨e, _⟩ | ⟨_, c, e, hc⟩
    · rw [hk] at e; cases e
    · rw [hcx] at e; cases e; exact hc
  obtain ⟨_, hcL, hcN, hcρ, _⟩ := r.fr.cells x cx hcx
  obtain ⟨e1, e2, e3, e4, e5, e6, e7, e8, e9, e10⟩ := hfd
  refine wpAny_call ?_
  subst e5
  refine kla_callFunE hroom hf hd Lm.co Lm.gen e4 hcd ?_
  rw [Lm.bind fd v e3 e9 e10]
  refine wpAny_pure (wpAny_newFunctionEnv Lm.cell (fun y hy => by rw [List.mem_singleton.mp hy]; exact Lm.loc) (fun h₁ hns hsb => ⟨r.gr.lim.fresh _ hsb, kla_codeExpr ?_⟩) Lm.kind)
  have keep : ∀ b o, s.heap.get? b = some o → h₁.get? b = some o := fun b o e => hsb.extBut b o (Nat.ne_of_lt (Heap.lt_size e)) (Heap.get?_push_of_some _ e)
  generalize henv : newEnv fd.scope s.heap.objs.size fd.globals fd.closure (fd.qualname ++ ".<locals>.") (some f) fd.code none fd.builtins = env
  have k1 : env.scope = fd.scope := by rw [← henv]; rfl
  have k2 : env.locals = s.heap.objs.size := by rw [← henv]; rfl
  have k3 : env.cells = clOf fd.scope fm.env := by rw [← henv]; exact e7
  have k4 : env.globals = mainGlobals := by rw [← henv]; exact e6
  have k5 : env.builtins = builtinsNs := by rw [← henv]; exact e8
  have hkd : ∀ y, env.kindOf y = fd.scope.names.lookup y := fun y => by unfold Env.kindOf; rw [k1]
  have hs : s.heap.objs.size < h₁.objs.size := hns.lt
  have hg : Ge g g s.heap h₁ := ⟨fun _ _ e => e, fun _ e => e, fun a o _ e => keep a o e⟩
  have e11 : (fun y : Str => ([(p, v)] : List (Str × Value)).reverse.lookup y) = fun y => if y = p then some v else none := by
    funext y
    by_cases hy : y = p
    · subst hy; simp
    · have hy' : (y == p) = false := by simpa using hy
      simp [List.lookup_cons, hy, hy']
  rw [e11] at hns
  have r' : Rel C g σ ⟨env, []⟩ [s.heap.objs.size] (lamLoc p m x mk) { s with heap := h₁, toks := s.toks + 1 } := by
    refine ⟨r.gr.ext keep (Nat.le_of_lt hs), by rw [k1]; exact Lm.kind, k4, k5, ⟨_, by rw [k2]; exact hns⟩, by rw [k2]; exact .head _, fun y w e => ?_, fun y c e => ?_, (fun y hy => (nomatch hy)), fun y z c e e' => ?_, fun a ha => ?_, fun y hy => ?_⟩
    · unfold lamLoc at e
      split at e
      · rename_i hy; cases e
        exact ⟨v, .inl ⟨by rw [hkd, hy]; exact Lm.loc, _, by rw [k2]; exact hns, by rw [if_pos hy]⟩, hv.mono hg⟩
      · split at e
        · rename_i hy; cases e
          exact ⟨u, .inr ⟨.inr (by rw [hkd, hy]; exact Lm.fr), cx, by rw [k3, hy]; exact hclo, hcu.keeps keep⟩, hvu.mono hg⟩
        · cases e
    · rw [k3] at e
      obtain ⟨_, rfl⟩ := hclo' y c e
      refine ⟨⟨_, hcu.keeps keep⟩, fun q => ?_, hcN, hcρ, fun _ hm => ?_⟩
      · have q' : c = s.heap.objs.size := q.trans k2
        exact Nat.lt_irrefl _ (q' ▸ hcu.lt)
      · exact Nat.lt_irrefl _ ((List.mem_singleton.mp hm) ▸ hcu.lt)
    · rw [k3] at e e'
      exact (hclo' y c e).1.trans (hclo' z c e').1.symm
    · rw [List.mem_singleton.mp ha]
      exact ⟨r.gr.size, hs, fun hp => Nat.lt_irrefl _ (r.gr.P _ hp).2, fun k hk => Nat.lt_irrefl _ (r.gr.live k _ hk).2.1⟩
    · have hy : fd.scope.names.lookup y = some .cell ∨ fd.scope.names.lookup y = some .free := hy.imp (fun q => (hkd y).symm.trans q) fun q => (hkd y).symm.trans q
      rcases hy with hy | hy
      · exact absurd rfl (Lm.cell _ (mem_of_lookup hy))
      · rw [Lm.free y hy]; exact ⟨cx, by rw [k3]; exact hclo⟩
  refine wpAny_mono (h env [s.heap.objs.size] g _ r') ?_ fun _ _ e => e.elim
  rintro w s₂ ⟨g₂, m₂, σ₂, r₂, hw, d, q⟩
  have d0 : Gd C [s.heap.objs.size] g s g { s with heap := h₁, toks := s.toks + 1 } := .ext keep (Nat.le_of_lt hs) rfl rfl rfl
  have d1 : Gd C [] g s g₂ s₂ := (d0.trans d).weak fun a ha => .inr (by rw [List.mem_singleton.mp ha]; exact Nat.le_refl _)
  exact ⟨g₂, m₂, σ₂, r.call r₂.gr d1, hw, d1.weak (fun a h => nomatch h), q⟩
end
end
section
theorem kas_asc_ok {cmp : Nat → Nat → (Bool → Shared → Prop) → Shared → Prop} {p : Array Nat} {s : Shared} : ∀ (f n : Nat) {Q : Nat → Shared → Prop}, (∀ m, n ≤ m → m < n + f → ∀ C : Bool → Shared → Prop, C false s → cmp (p.getD m 0) (p.getD (m - 1) 0) C s) → Q (n + f) s → (kas_asc p f n).kasWp cmp Q s
  | 0, n, Q, _, q => q
  | f + 1, n, Q, h, q => h n (Nat.le_refl _) (by walk_at "l") _ (by
      show (if false = true then KasT.ret n else kas_asc p f (n + 1)).kasWp cmp Q s
      rw [if_neg (by decide)]
      exact kas_asc_ok f (n + 1) (fun m h1 h2 => h m (by walk_at "l") (by walk_at "l")) (by rw [show n + 1 + f = n + (f + 1) by walk_at "l"]; exact q))
theorem range_getD {n m : Nat} (h : m < n) : (List.toArray (List.range n)).getD m 0 = m := by
  simp [Array.getD, h]
theorem kas_sort_ok {cmp : Nat → Nat → (Bool → Shared → Prop) → Shared → Prop} {s : Shared} {n : Nat} {Q : Array Nat → Shared → Prop} (h2 : 2 ≤ n) (h : ∀ m, m + 1 < n → ∀ C : Bool → Shared → Prop, C false s → cmp (m + 1) m C s)
    (q : Q (List.toArray (List.range n)) s) : (kas_sort n).kasWp cmp Q s := by
  unfold kas_sort kas_count
  rw [KasT.kasWp_bind, KasT.kasWp_bind]
  refine kas_asc_ok (n - 1) 1 (fun m h1 h3 C hC => ?_) ?_
  · rw [range_getD (by walk_at "l"), range_getD (by walk_at "l")]
    obtain ⟨k, rfl⟩ : ∃ k, m = k + 1 := ⟨m - 1, by walk_at "l"⟩
    exact h k (by walk_at "l") C hC
  · rw [show 1 + (n - 1) = n by walk_at "l", if_pos (by simp)]
    show (if n < n then kas_bin (n - max n 1) _ (max n 1) else KasT.ret (List.toArray (List.range n))).kasWp cmp Q s
    rw [if_neg (Nat.lt_irrefl n)]
    exact q
noncomputable def kMV (k : Int × Int) : MV := .tup [.int k.1, .int k.2]
noncomputable def kLt (a b : Int × Int) : Bool := decide (a.1 < b.1 ∨ a.1 = b.1 ∧ a.2 < b.2)
section
variable {C : Cx} {A : Around} {fm : Fm} {fa : List Addr} {loc : Loc} {σ : Hp} {g : Gh} {s : Shared}
theorem kMV_at {h : Heap} {k : Int × Int} {v : Value} (x : VR C g h (kMV k) v) : ∃ a t u, v = .ref a ∧ h.IsTuple a ⟨[.int k.1 t, .int k.2 u]⟩ := by
  obtain ⟨a, xs, rfl, _, ha, hx⟩ := x.inv
  obtain ⟨x1, x2, rfl, h1, h2⟩ := hx.inv2
  obtain ⟨t1, rfl⟩ := h1.inv
  obtain ⟨t2, rfl⟩ := h2.inv
  exact ⟨a, t1, t2, rfl, ha⟩
theorem key_lt {B : Around} {a b : Int × Int} {u v : Value} {R : Bool → Shared → Prop} {E : Value → Shared → Prop} (hu : VR C g s.heap (kMV a) u) (hv : VR C g s.heap (kMV b) v) (q : R (kLt a b) s) : wpAny (model C.prog C.w) B (keyLt' (tuples' true) u v) R E s := by
  obtain ⟨x, t1, t2, rfl, o1, h1, c1, n1, d1⟩ := kMV_at hu
  obtain ⟨y, t3, t4, rfl, o2, h2, c2, n2, d2⟩ := kMV_at hv
  refine kat_lt h1 d1 h2 d2 ?_
  show KatLex _ _ _ _ _ _ [(Value.int a.1 t1, Value.int b.1 t3), (Value.int a.2 t2, Value.int b.2 t4)] 0 s
  refine kat_cons (wpAny_eqBool_int (kat_go (fun h => kat_yes ?_) fun h => kat_no ?_))
  · have h' : a.1 = b.1 := by simpa using h
    refine kat_cons (wpAny_eqBool_int (kat_go (fun h => kat_yes (kat_nil ?_)) fun h => kat_no ?_))
    · have h2 : a.2 = b.2 := by simpa using h
      rw [show decide ((Array.mk [Value.int a.1 t1, Value.int a.2 t2]).size < (Array.mk [Value.int b.1 t3, Value.int b.2 t4]).size) = kLt a b from (decide_eq_decide.mpr ⟨fun h => absurd h (Nat.lt_irrefl 2), fun h => h.elim (fun h => absurd h' (Int.ne_of_lt h)) fun h => absurd h2 (Int.ne_of_lt h.2)⟩)]
      exact q
    · refine kat_one _ _ (wpAny_lt_int ?_)
      show R _ s
      rw [show decide (a.2 < b.2) = kLt a b from decide_eq_decide.mpr ⟨fun h => .inr ⟨h', h⟩, fun h => h.elim (fun h => absurd h' (Int.ne_of_lt h)) And.right⟩]
      exact q
  · have h' : a.1 ≠ b.1 := by simpa using h
    refine oneLt_int ?_
    rw [show decide (a.1 < b.1) = kLt a b from decide_eq_decide.mpr ⟨.inl, fun h => h.elim id fun h => absurd h.1 h'⟩]
    exact q
theorem katTups_of {h : Heap} {ks : List (Int × Int)} {vs : List Value} (x : VRs C g h (ks.map kMV) vs) : ∃ fs : List Value, KatTups h vs fs ∧ fs.length = vs.length ∧ ∀ v ∈ fs, ∃ i t, v = .int i t := by
  induction ks generalizing vs with
  | nil => rw [show vs = [] from x.inv]; exact ⟨[], .nil, rfl, fun v h => nomatch h⟩
  | cons k ks ih =>
    obtain ⟨v, r, rfl, hv, hr⟩ := x.inv
    obtain ⟨a, t, u, rfl, o, ho, hc, n, hd⟩ := kMV_at hv
    obtain ⟨fs, h1, h2, h3⟩ := ih hr
    exact ⟨.int k.1 t :: fs, .cons ho hc hd rfl h1, by simp [h2], fun v hv => by
      rcases List.mem_cons.mp hv with rfl | hv
      · exact ⟨_, _, rfl⟩
      · exact h3 v hv⟩
theorem sort_tail {B : Around} {P : PySem.Fin → Shared → Prop} {E : Value → Shared → Prop} {a kS : Addr} {vs : List Value} {keys : Array Value} {e e1 : Nat} {st : SortSt} (hk : s.heap.get? kS = some (seqObj "list" keys e)) (ha : s.heap.get? a = some (seqObj "list" #[] e1)) (hne : a ≠ kS) (h64 : vs.length < 64) (hkz : keys.size < 64)
    (hs : (arrOf st).map (·.2) = vs.toArray) (hf : failedOf st = none) (h : P (.done (.ret .none)) { s with heap := (s.heap.update kS (Obj.mapSeq fun _ => #[])).update a (Obj.mapSeq fun _ => vs.toArray) }) :
    wpAny (model C.prog C.w) B (ksk_tail a false e1 (.ref kS) st) P E s := by
  unfold ksk_tail
  try dsimp only
  refine wpAny_bind (listUpdate_at hk rfl ?_ (sizeLine_ge (by walk_at "l")) (Nat.zero_le _))
  have ha' : (s.heap.update kS (Obj.mapSeq fun _ => (#[] : Array Value))).get? a = some (seqObj "list" #[] e1) := (Heap.get?_update_other _ _ (Ne.symm hne)).trans ha
  refine wpAny_bind (wpAny_letGo ?_)
  refine wpAny_bind (seqEpoch_at ha' rfl ?_)
  rw [hs]
  refine wpAny_bind (listUpdate_at ha' rfl ?_ (Nat.zero_le _) (by show vs.length ≤ _; exact Nat.le_trans (Nat.le_of_lt h64) (Nat.le_succ_of_le (sizeLine_ge (by decide)))))
  rw [hf]
  simp only [bne_self_eq_false, Bool.false_eq_true, if_false]
  exact wpAny_pure h
theorem sort_end {B : Around} {P : PySem.Fin → Shared → Prop} {a kS : Addr} {vs keys : List Value} {ks : List (Int × Int)} {e e1 : Nat} (hk : s.heap.get? kS = some (seqObj "list" ⟨keys⟩ e)) (ha : s.heap.get? a = some (seqObj "list" #[] e1)) (hne : a ≠ kS) (h64 : vs.length < 64)
    (hl : ks.length = vs.length) (hv : VRs C g s.heap (ks.map kMV) keys) (hasc : ∀ i x y, ks[i]? = some x → ks[i + 1]? = some y → kLt y x = false)
    (h : P (.done (.ret .none)) { s with heap := (s.heap.update kS (Obj.mapSeq fun _ => #[])).update a (Obj.mapSeq fun _ => vs.toArray) }) : wpAny (model C.prog C.w) B (ksk_end a false vs.toArray e1 (.ref kS) ⟨keys⟩) P NoE s := by
  have hlen : keys.length = vs.length := by have := hv.length; simp at this; lia
  have hz : (Array.mk keys).size < 64 := by show keys.length < 64; lia
  unfold ksk_end
  try dsimp only
  rw [if_neg (by decide)]
  by_cases h2 : vs.toArray.size < 2
  · rw [if_pos h2, if_pos h2]
    refine wpAny_bind (wpAny_pure ?_)
    rw [StateT.run_pure]
    refine wpAny_bind (wpAny_pure ?_)
    refine sort_tail (st := SortSt.mk' general' ((Array.mk keys).zip vs.toArray) #[] 7 none) hk ha hne h64 hz ?_ rfl h
    show ((Array.mk keys).zip vs.toArray).map (·.2) = _
    apply Array.toList_inj.mp
    simp [List.map_snd_zip, hlen]
  · rw [if_neg h2, if_neg h2]
    have h2' : 2 ≤ vs.length := by simpa using h2
    obtain ⟨fs, f1, f2, f3⟩ := katTups_of hv
    refine wpAny_bind (kat_kind (T := .type "int") f1 (by walk_at "l") (fun v hv' => ?_) (by decide) ?_)
    · obtain ⟨i, t, rfl⟩ := f3 v hv'
      exact .now
    rw [show (Value.type "int" != Value.type "tuple") = true from by decide, if_neg (by decide)]
    have hl' : keys.length = vs.length := hlen
    refine wpAny_bind (wpAny_mono (kat_run (vs := vs) (ks := keys) (Q := fun st' s' => s' = s ∧ (arrOf st').map (·.2) = vs.toArray ∧ failedOf st' = none) (G := fun p s' => s' = s ∧ p = List.toArray (List.range vs.length)) hl' h2' h64 ?c1 ?c2) ?c3 fun _ _ e => e)
    case c1 =>
      rintro p st' s' hp har hfl ⟨rfl, rfl⟩
      refine ⟨rfl, ?_, hfl⟩
      rw [kat_snds hl' har]
      congr 1
      apply List.ext_getElem?
      intro i
      by_cases hi : i < vs.length
      · simp [hi]
      · simp [hi]
    case c2 =>
      refine kas_sort_ok h2' (fun m hm K hK => ?_) ⟨rfl, rfl⟩
      show wpAny _ _ (keyLt' _ (keys.getD (m + 1) Value.none) (keys.getD m Value.none)) _ _ s
      have g1 := hv.get (i := m) (m := kMV (ks[m]'(by walk_at "l"))) (by rw [List.getElem?_map, List.getElem?_eq_getElem (by walk_at "l")]; rfl)
      have g2 := hv.get (i := m + 1) (m := kMV (ks[m + 1]'(by walk_at "l"))) (by rw [List.getElem?_map, List.getElem?_eq_getElem (by walk_at "l")]; rfl)
      obtain ⟨u, e1, u1⟩ := g1
      obtain ⟨v, e2, v1⟩ := g2
      rw [List.getD_eq_getElem?_getD, List.getD_eq_getElem?_getD, e1, e2]
      refine key_lt v1 u1 ?_
      rw [hasc m _ _ (List.getElem?_eq_getElem (by walk_at "l")) (List.getElem?_eq_getElem (by walk_at "l"))]
      exact hK
    case c3 =>
      rintro ⟨⟨⟩, st'⟩ s' ⟨rfl, hs, hf⟩
      exact sort_tail hk ha hne h64 hz hs hf h
end
end
section
section
variable {C : Cx} {A B : Around} {fm : Fm} {fa : List Addr} {loc : Loc} {σ : Hp} {g : Gh} {s : Shared} {Q : MV → Hp → Prop}
structure Mineo (C : Cx) (g : Gh) (fm : Fm) (fa : List Addr) (a : Addr) : Prop where
  free : Free C g [a]
  ap : a ∉ fa ∧ ∀ x, fm.env.cells.lookup x ≠ some a
theorem Mineo.step {a : Addr} {fb : List Addr} {g' : Gh} {s' : Shared} {o : Obj} (h : Mineo C g fm fa a) (e : s.heap.get? a = some o) (d : Gd C fb g s g' s') : Mineo C g' fm fa a :=
  ⟨h.free.step (fun b hb => by rw [List.mem_singleton.mp hb]; exact Heap.lt_size e) d, h.ap⟩
theorem Mineo.new {a : Addr} (r : Rel C g σ fm fa loc s) (h : s.heap.objs.size ≤ a) : Mineo C g fm fa a :=
  ⟨fun b hb => by
    rw [List.mem_singleton.mp hb]
    exact ⟨Nat.le_trans r.gr.size h, fun n hn => Nat.lt_irrefl _ (Nat.lt_of_lt_of_le (r.gr.live n a hn).2.1 h), fun hp => Nat.lt_irrefl _ (Nat.lt_of_lt_of_le (r.gr.P a hp).2 h)⟩, r.apart h⟩
theorem Rel.mineo {a : Addr} {h' : Heap} {tk : Nat} (r : Rel C g σ fm fa loc s) (h : Mineo C g fm fa a) (hb : Heap.SameBut a s.heap h') : Rel C g σ fm fa loc { s with heap := h', toks := tk } ∧ Gd C [a] g s g { s with heap := h', toks := tk } := by
  obtain ⟨gr, d⟩ := r.gr.loop (tk := tk) (wr := [a]) h.free (fun b o hn e => hb.extBut b o (fun q => hn (by rw [q]; exact .head _)) e) (Nat.le_of_eq hb.1.symm)
  exact ⟨r.step gr d (fun b hb => by rw [List.mem_singleton.mp hb]; exact h.ap) (fun b hb => (h.free b hb).2.2), d⟩
theorem sort_rest {P : PySem.Fin → Shared → Prop} {a kS f : Addr} {o : Obj} {l : List MV} {vs : List Value} {ks : List (Int × Int)} {e1 : Nat} (r : Rel C g σ fm fa loc s) (ma : Mineo C g fm fa a) (mk : Mineo C g fm fa kS) (mf : Mineo C g fm fa f) (hne : a ≠ kS) (hfa : f ≠ a) (hfk : f ≠ kS)
    (ha : s.heap.get? a = some (seqObj "list" #[] e1)) (hk : s.heap.get? kS = some (seqObj "list" #[] 0)) (hf : s.heap.get? f = some o) (hv : VRs C g s.heap l vs) (hl : ks.length = l.length) (h64 : l.length < 64)
    (turn : ∀ (j : Nat) (m : MV) (kk : Int × Int) (v : Value) (g' : Gh) (s' : Shared), l[j]? = some m → ks[j]? = some kk → Rel C g' σ fm fa loc s' → Ge g g' s.heap s'.heap → s'.heap.get? f = some o → VR C g' s'.heap m v → wpAny (model C.prog C.w) B (call (.ref f) [v] []) (Post C fm fa loc g' s' fun w σ' => w = kMV kk ∧ σ' = σ) NoE s')
    (hasc : ∀ (i : Nat) (x y : Int × Int), ks[i]? = some x → ks[i + 1]? = some y → kLt y x = false)
    (fin : ∀ g' s', Rel C g' σ fm fa loc s' → Gd C (a :: kS :: fa) g s g' s' → Mineo C g' fm fa a → s'.heap.PlainList a ⟨vs⟩ → P (.done (.ret .none)) s') :
    wpAny (model C.prog C.w) B (ksk_rest a (.ref f) false vs.toArray e1 (.ref kS)) P NoE s := by
  have hlen := hv.length
  have hge : ∀ {g' s'}, Gd C (a :: kS :: fa) g s g' s' → Ge g g' s.heap s'.heap := fun d => d.ge (fun n a e => (r.gr.live n a e).2.2) (fun b hb => by
    rcases List.mem_cons.mp hb with rfl | hb
    · exact (ma.free _ (.head _)).2.2
    rcases List.mem_cons.mp hb with rfl | hb
    · exact (mk.free _ (.head _)).2.2
    · exact (r.fr.fa b hb).2.2.1) r.gr.tabP
  unfold ksk_rest
  refine wpAny_bind (wpAny_rule ?_)
  rw [List.forIn_toArray]
  refine wpAny_bind (ksk_fold (fun i s' => ∃ g' kA e, (Rel C g' σ fm fa loc s' ∧ Gd C (a :: kS :: fa) g s g' s') ∧ (Mineo C g' fm fa a ∧ Mineo C g' fm fa kS ∧ Mineo C g' fm fa f) ∧ (s'.heap.get? a = some (seqObj "list" #[] e1) ∧ s'.heap.get? kS = some (seqObj "list" (Array.mk kA) e) ∧ s'.heap.get? f = some o) ∧ VRs C g' s'.heap ((ks.take i).map kMV) kA) vs 0 s
    ⟨g, [], 0, ⟨r, .refl ..⟩, ⟨ma, mk, mf⟩, ⟨ha, hk, hf⟩, by simpa using VRs.nil⟩ ?step ?done)
  case step =>
    rintro j x s' hx ⟨g', kA, e, ⟨r', d'⟩, ⟨ma', mk', mf'⟩, ⟨ha', hk', hf'⟩, hK⟩
    simp only [Nat.zero_add] at hK ⊢
    have hj : j < vs.length := (List.getElem?_eq_some_iff.mp hx).1
    obtain ⟨m, hm⟩ : ∃ m, l[j]? = some m := ⟨_, List.getElem?_eq_getElem (by walk_at "l")⟩
    obtain ⟨kk, hkk⟩ : ∃ kk, ks[j]? = some kk := ⟨_, List.getElem?_eq_getElem (by walk_at "l")⟩
    obtain ⟨x', ex, hxv⟩ := hv.get hm
    rw [hx] at ex; cases ex
    have hKl := hK.length
    simp at hKl
    refine wpAny_bind (wpAny_attempt (wpAny_mono (turn j m kk x g' s' hm hkk r' (hge d') hf' (hxv.mono (hge d'))) ?_ fun _ _ h => h.elim))
    rintro w s₂ ⟨g₂, m₂, σ₂, r₂, hw, d₂, rfl, rfl⟩
    try dsimp only
    have ha₂ := Free.keep1 r'.gr ma'.free d₂ ma'.ap.1 ha'
    have hk₂ := Free.keep1 r'.gr mk'.free d₂ mk'.ap.1 hk'
    have hf₂ := Free.keep1 r'.gr mf'.free d₂ mf'.ap.1 hf'
    have mk₂ := mk'.step hk' d₂
    have s1 := Heap.SameBut.update s₂.heap kS (Obj.mapSeq (·.push w))
    obtain ⟨c2, hc2⟩ : ∃ c2, (s₂.heap.update kS (Obj.mapSeq (·.push w))).get? kS = some (seqObj "list" ((Array.mk kA).push w) c2) := ⟨_, get?_update_seq hk₂ (·.push w)⟩
    refine wpAny_bind (listUpdate_at hk₂ rfl ?_ (sizeLine_ge (by show kA.length ≤ _; lia)) (Nat.le_trans (Nat.le_of_eq (Array.size_push ..)) (Nat.succ_le_succ (sizeLine_ge (by show kA.length ≤ _; lia)))))
    obtain ⟨r₃, d₃⟩ := r₂.mineo (tk := s₂.toks) mk₂ s1
    have d4 : Gd C (a :: kS :: fa) g s g₂ { s₂ with heap := s₂.heap.update kS (Obj.mapSeq (·.push w)) } :=
      (d'.trans (d₂.weak fun b hb => .inl (.tail _ (.tail _ hb)))).trans (d₃.weak fun b hb => .inl (by rw [List.mem_singleton.mp hb]; exact .tail _ (.head _)))
    have e2 : Ge g' g₂ s'.heap s₂.heap := r'.ge d₂
    have e3 : Ge g₂ g₂ s₂.heap (s₂.heap.update kS (Obj.mapSeq (·.push w))) := d₃.ge (fun n a e => (r₂.gr.live n a e).2.2) (fun b hb => by rw [List.mem_singleton.mp hb]; exact (mk₂.free _ (.head _)).2.2) r₂.gr.tabP
    refine wpAny_pure ⟨rfl, g₂, kA ++ [w], c2, ⟨r₃, d4⟩, ⟨(ma'.step ha' d₂).step ha₂ d₃, mk₂.step hk₂ d₃, (mf'.step hf' d₂).step hf₂ d₃⟩, ⟨(Heap.get?_update_other _ _ (Ne.symm hne)).trans ha₂, ?_, (Heap.get?_update_other _ _ (Ne.symm hfk)).trans hf₂⟩, ?_⟩
    · rw [show (Array.mk (kA ++ [w])) = (Array.mk kA).push w by simp]; exact hc2
    · have ek : ks.take (j + 1) = ks.take j ++ [kk] := by rw [List.take_add_one, hkk]; rfl
      rw [ek, List.map_append]
      exact ((hK.mono e2).mono e3).append (.cons (hw.mono e3) .nil)
  case done =>
    rintro s' ⟨g', kA, e, ⟨r', d'⟩, ⟨ma', mk', mf'⟩, ⟨ha', hk', hf'⟩, hK⟩
    rw [List.take_of_length_le (by walk_at "l")] at hK
    try dsimp only
    refine wpAny_bind (listItems_at hk' rfl ?_)
    refine sort_end hk' ha' hne (by walk_at "l") (by walk_at "l") hK hasc ?_
    have s1 := Heap.SameBut.update s'.heap kS (Obj.mapSeq fun _ => (#[] : Array Value))
    obtain ⟨r₁, d₁⟩ := r'.mineo (tk := s'.toks) mk' s1
    have ha₁ : (s'.heap.update kS (Obj.mapSeq fun _ => (#[] : Array Value))).get? a = some (seqObj "list" #[] e1) := (Heap.get?_update_other _ _ (Ne.symm hne)).trans ha'
    have ma₁ := ma'.step ha' d₁
    have s2 := Heap.SameBut.update (s'.heap.update kS (Obj.mapSeq fun _ => (#[] : Array Value))) a (Obj.mapSeq fun _ => vs.toArray)
    obtain ⟨r₂, d₂⟩ := r₁.mineo (tk := s'.toks) ma₁ s2
    exact fin g' _ r₂ ((d'.trans (d₁.weak fun b hb => .inl (by rw [List.mem_singleton.mp hb]; exact .tail _ (.head _)))).trans (d₂.weak fun b hb => .inl (by rw [List.mem_singleton.mp hb]; exact .head _))) (ma₁.step ha₁ d₂) ⟨_, get?_update_seq ha₁ fun _ => vs.toArray⟩
end
end
section
section
variable {C : Cx} {A : Around} {fm : Fm} {fa : List Addr} {loc : Loc} {σ : Hp} {g : Gh} {s : Shared} {Q : MV → Hp → Prop}
theorem sorted_run {f lA : Addr} {o : Obj} {l : List MV} {vs : List Value} {ks : List (Int × Int)} (r : Rel C g σ fm fa loc s) (mf : Mineo C g fm fa f) (hf : s.heap.get? f = some o) (hL : s.heap.IsList lA ⟨vs⟩) (hv : VRs C g s.heap l vs) (hl : ks.length = l.length) (h64 : l.length < 64)
    (turn : ∀ (j : Nat) (m : MV) (kk : Int × Int) (v : Value) (g' : Gh) (s' : Shared), l[j]? = some m → ks[j]? = some kk → Rel C g' σ fm fa loc s' → Ge g g' s.heap s'.heap → s'.heap.get? f = some o → VR C g' s'.heap m v → wpAny (model C.prog C.w) A.in1.in1 (call (.ref f) [v] []) (Post C fm fa loc g' s' fun w σ' => w = kMV kk ∧ σ' = σ) NoE s')
    (hasc : ∀ (i : Nat) (x y : Int × Int), ks[i]? = some x → ks[i + 1]? = some y → kLt y x = false) (q : Q (.lst l) σ) :
    wpAny (model C.prog C.w) A (call (.builtin "sorted") [.ref lA] [(Str.ofString "key", .ref f)]) (Post C fm fa loc g s Q) NoE s := by
  have hlen := hv.length
  have hz : vs.length ≤ sizeLine := sizeLine_ge (by walk_at "l")
  refine call_function_entry_kw kind_sorted plain_sorted entry_sorted (ksk_s1 _ _) ?_
  unfold Builtin.«sorted»
  refine wpAny_bind (m := checkCount "sorted" 1 1 _) (wpAny_pure ?_)
  refine wpAny_bind (collect_list (vs := vs) hL ?_ hz)
  refine wpAny_bind (wpAny_newList ?_ hz)
  generalize hh1 : (s.heap.push (seqObj "list" #[] 0)).update s.heap.objs.size (Obj.mapSeq (· ++ vs.toArray)) = h1
  have hsz : h1.objs.size = s.heap.objs.size + 1 := by rw [← hh1, Heap.size_update, size_push']
  have keep1 : ∀ b o, s.heap.get? b = some o → h1.get? b = some o := fun b o q => by
    have hlt : b < s.heap.objs.size := Heap.lt_size q
    rw [← hh1, Heap.get?_update_ne _ _ _ _ (Nat.ne_of_lt hlt), Heap.get?_push_ne _ _ _ (Nat.ne_of_lt hlt)]
    exact q
  show wpAny _ _ _ _ _ { s with heap := h1.push (seqObj "list" vs.toArray 0) }
  rw [hsz]
  have hoL : (h1.push (seqObj "list" vs.toArray 0)).get? (s.heap.objs.size + 1) = some (seqObj "list" vs.toArray 0) := by
    rw [← hsz]; exact Heap.get?_push_size _ rfl
  refine wpAny_bind (wpAny_holding (wpAny_call_entry_kw slot_list_sort ⟨_, hoL, rfl⟩ entry_list_sort ?body (ksk_l1 _ _)))
  rw [ksk_t1]
  unfold ksk_tree
  refine wpAny_bind (listItems_at hoL rfl ?_)
  refine wpAny_bind (listUpdate_at hoL rfl ?_ hz (Nat.zero_le _))
  obtain ⟨e1, ho1⟩ : ∃ e1, ((h1.push (seqObj "list" vs.toArray 0)).update (s.heap.objs.size + 1) (Obj.mapSeq fun _ => #[])).get? (s.heap.objs.size + 1) = some (seqObj "list" #[] e1) := ⟨_, get?_update_seq hoL fun _ => #[]⟩
  refine wpAny_bind (seqEpoch_at ho1 rfl ?_)
  refine wpAny_bind (wpAny_newTuple ?_ hz)
  refine wpAny_bind (wpAny_newList ?_ (Nat.zero_le _))
  refine wpAny_holding ?_
  generalize hh2 : (h1.push (seqObj "list" vs.toArray 0)).update (s.heap.objs.size + 1) (Obj.mapSeq fun _ => #[]) = h2 at ho1 ⊢
  have hsz2 : h2.objs.size = s.heap.objs.size + 2 := by rw [← hh2, Heap.size_update, size_push', hsz]
  have keep2 : ∀ b o, s.heap.get? b = some o → h2.get? b = some o := fun b o q => by
    have hlt : b < s.heap.objs.size := Heap.lt_size q
    rw [← hh2, Heap.get?_update_ne _ _ _ _ (Nat.ne_of_lt (Nat.lt_succ_of_lt hlt))]
    exact Heap.get?_push_of_some _ (keep1 b o q)
  have keep3 : ∀ b o, s.heap.get? b = some o → ((h2.push (seqObj "tuple" vs.toArray 0)).push (seqObj "list" #[] 0)).get? b = some o := fun b o q => Heap.get?_push_of_some _ (Heap.get?_push_of_some _ (keep2 b o q))
  have hkS : (h2.push (seqObj "tuple" vs.toArray 0)).objs.size = s.heap.objs.size + 3 := by rw [size_push', hsz2]
  have hz3 : s.heap.objs.size ≤ ((h2.push (seqObj "tuple" vs.toArray 0)).push (seqObj "list" #[] 0)).objs.size := by rw [size_push', hkS]; lia
  have r4 : Rel C g σ fm fa loc { s with heap := (h2.push (seqObj "tuple" vs.toArray 0)).push (seqObj "list" #[] 0) } := r.ext keep3 hz3
  have d4 : Gd C fa g s g { s with heap := (h2.push (seqObj "tuple" vs.toArray 0)).push (seqObj "list" #[] 0) } := .ext keep3 hz3 rfl rfl rfl
  have e4 : Ge g g s.heap ((h2.push (seqObj "tuple" vs.toArray 0)).push (seqObj "list" #[] 0)) := ⟨fun _ _ e => e, fun _ e => e, fun b o _ e => keep3 b o e⟩
  have hfl := Heap.lt_size hf
  show wpAny _ _ (ksk_rest _ _ _ _ _ (.ref (h2.push (seqObj "tuple" vs.toArray 0)).objs.size)) _ _ { s with heap := (h2.push (seqObj "tuple" vs.toArray 0)).push (seqObj "list" #[] 0) }
  refine sort_rest (l := l) (vs := vs) (ks := ks) (o := o) r4 (Mineo.new r (by walk_at "l")) (Mineo.new r (by rw [hkS]; lia)) mf (by rw [hkS]; lia) (by walk_at "l") (by rw [hkS]; lia)
    (Heap.get?_push_of_some _ (Heap.get?_push_of_some _ ho1)) (Heap.get?_push_size _ rfl) (keep3 _ _ hf) (hv.mono e4) hl h64 (fun j m kk v g' s' h1 h2 r' e' hf' hv' => turn j m kk v g' s' h1 h2 r' ⟨e'.ρ, e'.P, fun a o hp e => e'.keep a o hp (keep3 a o e)⟩ hf' hv') hasc fun g' s' r' d' m' hP => ?_
  refine ⟨_, rfl, wpAny_pure ⟨_, rfl, ?_⟩⟩
  have d5 : Gd C fa g s g' s' := ((d4.weak fun b hb => .inl (.tail _ (.tail _ hb))).trans d').weak fun b hb => by
    rcases List.mem_cons.mp hb with rfl | hb
    · exact .inr (by walk_at "l")
    rcases List.mem_cons.mp hb with rfl | hb
    · exact .inr (by rw [hkS]; lia)
    · exact .inl hb
  obtain ⟨n, hP'⟩ := id hP
  have hlt := Heap.lt_size hP'
  obtain ⟨f1, f2, f3⟩ := m'.free _ (.head _)
  have e5 : Ge g g' s.heap s'.heap := r.ge d5
  exact ⟨g'.pin (s.heap.objs.size + 1), .lst l, σ, ⟨r'.gr.pin f1 hlt f2, r'.fr.pin m'.ap.1 m'.ap.2⟩, .lst (.inl rfl) hP ((hv.mono e5).mono (ge_pin1 _)), d5.pin0 (by walk_at "l"), q⟩
theorem ev_sortedK {np kp lpos pos : Pos} {e body : Expr} {params : Arguments} {scope : Scope} {p x : Str} {c P : Addr} {nm : Value} {mk : MV} {l : List MV} {ks : List (Int × Int)} {N : Nat} (hA : Ar A (N + 3))
    (hx : fm.env.kindOf "sorted" = some .globalImplicit) (b1 : nsIn C.K mainGlobals "sorted" = some none) (b2 : nsIn C.K builtinsNs "sorted" = some (some (.builtin "sorted")))
    (h : Ev C A fm e loc σ fun m σ₁ => σ₁ = σ ∧ lstOf σ m = some l)
    (M : MkOk C.K nm) (hgl : fm.env.globals = mainGlobals) (hc : fm.env.code = .ref c) (hca : CodeAt C.K c P) (hP : P ∈ C.tabs) (hq : C.tq P lpos.line lpos.col = fm.env.qual ++ "<lambda>") (hdef : defaultsOf params fm.env = ([], []))
    (hfree : ∀ n, (n, NameKind.free) ∈ scope.names → ∃ c, fm.env.cells.lookup n = some c) (Lm : LamIs fm p x params scope) (hlx : loc x = some mk) (hl : ks.length = l.length) (h64 : l.length < 64)
    (hkey : ∀ (j : Nat) (m : MV) (kk : Int × Int), l[j]? = some m → ks[j]? = some kk → ∀ (A' : Around) (env : Env), Ar A' N → Ev C A' ⟨env, []⟩ body (lamLoc p m x mk) σ fun w σ' => w = kMV kk ∧ σ' = σ)
    (hasc : ∀ (i : Nat) (x y : Int × Int), ks[i]? = some x → ks[i + 1]? = some y → kLt y x = false) (q : Q (.lst l) σ)
    (hs : (starEach [e] fm.env).all (fun p => !p.1) = true := by rfl)
    (he : backTo pos (starEach [e] fm.env) = (false, eval e fm.env) :: backTo pos (starEach [] fm.env) := by rfl) (hplain : (backTo pos (starEach [e] fm.env)).any (·.1) = false := by rfl) :
    Ev C A fm (.Call (.Name "sorted" np) [e] [⟨some "key", .Lambda params body scope lpos, kp⟩] pos) loc σ Q := fun fa g s r => by
  refine wpAny_Call_Name_kw (wpAny_mono (ev_bi (Q := fun m σ₁ => m = .val (.builtin "sorted") ∧ σ₁ = σ) hx b1 b2 ⟨rfl, rfl⟩ (by decide) fa g s r) ?_ fun _ _ e => e)
  rintro v s₁ ⟨g₁, m, σ₁, r₁, hv, d₁, rfl, rfl⟩
  obtain rfl := hv.inv
  refine callWith_kw ?_ he hplain
  have hL : EvL C A fm [e] loc σ₁ fun ms σ₂ => ∃ m, ms = [m] ∧ σ₂ = σ₁ ∧ lstOf σ₁ m = some l := EvT.mono h fun m σ₂ hm => ⟨m, rfl, hm.1, hm.2⟩
  refine wpAny_mono (hL.runS hs r₁) ?_ fun _ _ e => e
  rintro vs s₂ ⟨g₂, ms, σ₂, r₂, hvs, d₂, m, rfl, rfl, hm⟩
  obtain ⟨lv, rfl, hlv⟩ := hvs.inv1
  refine kws_cons (kla_eval hdef ?_)
  refine mk_fn r₂.gr M hgl hc hca hP hq trivial hfree fun g₃ s₃ a fd gr₃ d₃ ha1 ha2 hfo hfd hcd hnp hnρ => kws_nil ?_
  have r₃ := r₂.call gr₃ d₃
  obtain ⟨lA, xs, rfl, hlist, hxs⟩ := gr₃.lst hm (hlv.mono (r₂.gr.ge d₃))
  obtain ⟨c', hcc, hcp, hrec⟩ := hcd
  have mf : Mineo C g₃ fm fa a := ⟨fun b hb => by rw [List.mem_singleton.mp hb]; exact ⟨Nat.le_trans r₂.gr.size ha1, hnρ, hnp⟩, r₂.apart ha1⟩
  show wpAny _ _ (call (.builtin "sorted") [.ref lA] [(Str.ofString "key", .ref a)]) _ _ s₃
  refine wpAny_mono (sorted_run (Q := Q) r₃ mf hfo hlist hxs hl h64 (fun j m' kk v g' s' h1 h2 r' e' hf' hv' => ?_) hasc q) (fun _ _ pp => pp.trans ((d₁.trans d₂).trans (d₃.weak fun a h => nomatch h))) fun _ _ e => e
  refine lam_call Lm r' hv' hf' rfl hfd ?_ (hA.in1.in1.room) hlx fun env => hkey j m' kk h1 h2 _ env (hA.in1.in1.deeper env)
  rw [hcc, hfd.qual]
  exact CodeRec.at' (fun _ q => e'.keep _ _ hcp q) hrec
end
end
section
theorem findObj_congr {K : Frag} {c : Addr} {o o' : Obj} {name : Str} (h : lookIn name o = lookIn name o') : findObj K c (some o) name = findObj K c (some o') name := by
  unfold findObj PySem.W.ownOf
  simp only [h]
noncomputable def oOf (K : Frag) (f : Addr) : Obj := (K.lookup f).getD { cls := .none, data := .plain }
noncomputable def fdD : FuncData := { name := "", qualname := "", params := ⟨[], [], none, [], [], none, []⟩, body := .stmts [], scope := ⟨.module, [], false, false, []⟩, globals := 0, closure := [], defaults := .none, kwdefaults := .none }
noncomputable def fdOf (K : Frag) (f : Addr) : FuncData := match (oOf K f).data with | .func fd => fd | _ => fdD
theorem fnAt_of {K : Frag} {f : Addr} {qual : Str} {st : Stmt} {code : Value} (h1 : K.lookup f = some (oOf K f)) (h2 : (oOf K f).data = .func (fdOf K f))
    (h3 : ((fdOf K f).qualname, (fdOf K f).params, (fdOf K f).body, (fdOf K f).scope, (fdOf K f).globals, (fdOf K f).closure, (fdOf K f).code, (fdOf K f).builtins, (fdOf K f).defaults, (fdOf K f).kwdefaults) = (qual, dfArgs st, .stmts (dfBody st), dfScope st, mainGlobals, [], code, builtinsNs, .none, .none))
    (h4 : codeIn K code qual = true) : FnAt K f qual (dfArgs st) (dfBody st) (dfScope st) code := by
  simp only [Prod.mk.injEq] at h3
  obtain ⟨a, b, c, d, e, f', g, h, i, j⟩ := h3
  exact ⟨⟨_, _, h1, h2, a, b, c, d, e, f', g, h, i, j⟩, h4⟩
theorem klsAt_of {K : Frag} {c : Addr} (h1 : findIn K (.ref c) "__getattribute__" = some (some (.builtin "object.__getattribute__"))) (h2 : findIn K (.ref c) "__getattr__" = some none) (h3 : findIn K (.ref c) "__setattr__" = some (some (.builtin "object.__setattr__")))
    (h4 : hasDictIn K c = true) (h5 : plainOver K c = true) (h6 : makesIn K c = true) : KlsAt K c := ⟨h1, h2, h3, h4, h5, h6⟩
noncomputable def flOf (K : Frag) (c : Addr) : Array Value := match (oOf K c).data with | .fields vs => vs | _ => #[]
theorem codeAt_of {K : Frag} {c P : Addr} {file : Str} {tf : Tok} {flags : Int} {tg : Tok} {inF : Bool} {text : Int} {tt : Tok} (h1 : K.lookup c = some (oOf K c)) (h2 : (oOf K c).cls = .type "code") (h3 : (oOf K c).data = .fields (flOf K c)) (h4 : (flOf K c)[11]? = some (.ref P)) (h5 : (flOf K c).getD 11 .none = .ref P)
    (h6 : (flOf K c).getD 18 .none = .str file tf) (h7 : (flOf K c).getD 7 .none = .int flags tg) (h8 : (flOf K c).getD 9 .none = .bool inF) (h9 : (flOf K c).getD 10 .none = .int text tt) : CodeAt K c P :=
  ⟨_, _, _, _, _, _, _, _, _, h1, h2, h3, h4, h5, h6, h7, h8, h9⟩
theorem vrs_ints {C : Cx} {g : Gh} {h : Heap} {vs : List Value} {ns : List Int} (hI : IntsAre vs ns) : VRs C g h (ns.map .int) vs := by
  induction hI with
  | nil => exact .nil
  | cons i t _ ih => exact .cons (.int _ _) ih
noncomputable def StL (C : Cx) (sc : Addr) (ns : List Int) : Prop := ∀ g σ s, GR C g σ s → ∃ vs : List Value, s.heap.IsList sc ⟨vs⟩ ∧ IntsAre vs ns
theorem slc_stat {C : Cx} {A : Around} {fm : Fm} {loc : Loc} {σ : Hp} {Q : MV → Hp → Prop} {sc : Addr} {ns : List Int} {lo hi st : Option Int} (hsc : StL C sc ns) (hl : ns.length ≤ 1000000) (hst : st ≠ some 0) (q : Q (.lst (cutL (ns.map .int) lo hi st)) σ) :
    Slc C A fm (.val (.ref sc)) lo hi st loc σ Q := by
  intro fa g s x sl vl vu vs r hx hs pl pu ps
  obtain ⟨xs, ho, hI⟩ := hsc _ _ _ r.gr
  have hv := vrs_ints (C := C) (g := g) (h := s.heap) hI
  obtain rfl := hx.inv
  refine ⟨⟨_, _, ho.typeIs, slot_list_getitem.lookup⟩, wpAny_getItem_list_slice ho hs pl pu ps hst ?_ (sizeLine_ge (by show xs.length ≤ _; rw [← hv.length]; simpa using hl))⟩
  have e : slicePick ⟨xs⟩ lo hi st = ⟨(slIdx lo hi st (ns.map MV.int).length).filterMap (xs[·]?)⟩ := by
    unfold slicePick slIdx
    have : (Array.mk xs).size = (ns.map MV.int).length := by rw [hv.length]; rfl
    rw [this]
    simp
  rw [e]
  exact Post.lst r (hv.pick _) q
noncomputable def g0 : Gh := ⟨fun _ => none, fun _ => False⟩
noncomputable def cK (K : Frag) (tabs : List Addr) (sc : Addr) (o : Obj) : Frag := K.filter (fun p => !tabs.contains p.1) ++ [(sc, o)]
theorem gr_start {C : Cx} {s : Shared} {K : Frag} {tabs : List Addr} {sc : Addr} {o : Obj} (hN : C.N0 = s.heap.objs.size) (hK : C.K = cK K tabs sc o) (hT : C.tabs = tabs) (KX : K.In s.heap) (hnd : (K.map (·.1)).Nodup) (ho : s.heap.get? sc = some o) (hsc : sc ∉ tabs) (hlim : s.heap.NoLimit) (h16 : 16 ≤ s.heap.objs.size)
    (htab : ∀ a ∈ tabs, s.heap.get? a = some (X.tableObj #[])) : GR C g0 (fun _ => none) s := by
  have lk : ∀ (L : Frag), (L.map (·.1)).Nodup → ∀ p ∈ L, L.lookup p.1 = some p.2 := by
    intro L
    induction L with
    | nil => intro _ p hp; cases hp
    | cons q L ih =>
      intro hn p hp
      simp only [List.map_cons, List.nodup_cons] at hn
      obtain ⟨a, b⟩ := q
      rw [List.lookup_cons]
      rcases List.mem_cons.mp hp with rfl | hp
      · simp
      · have hne : (p.1 == a) = false := by
          have : p.1 ≠ a := fun e => hn.1 (e ▸ List.mem_map.mpr ⟨p, hp, rfl⟩)
          simpa using this
        rw [hne]; exact ih hn.2 p hp
  refine ⟨by rw [hN]; exact h16, fun p hp => ?_, hlim, Nat.le_of_eq hN, (fun n o h => by cases h), (fun n m a h => by cases h), (fun n a h => by cases h), (fun a h => h.elim), fun a ha => ?_, (fun n a h => by cases h)⟩
  · rw [hK] at hp
    rcases List.mem_append.mp hp with hp | hp
    · obtain ⟨hp, ht⟩ := List.mem_filter.mp hp
      have hg := KX _ _ (lk K hnd p hp)
      exact ⟨by rw [hN]; exact Heap.lt_size hg, by rw [hT]; simpa using ht, hg⟩
    · rw [List.mem_singleton.mp hp]
      exact ⟨by rw [hN]; exact Heap.lt_size ho, by rw [hT]; exact hsc, ho⟩
  · rw [hT] at ha
    refine ⟨by rw [hN]; exact Heap.lt_size (htab a ha), #[], htab a ha, ?_, fun pos c' h => nomatch h⟩
    exact trivial
theorem stL_start {C : Cx} {K : Frag} {tabs : List Addr} {sc : Addr} {o : Obj} {vs : List Value} {ns : List Int} {n : Nat} (hK : C.K = cK K tabs sc o) (hc : o.cls = .type "list") (hd : o.data = .seq ⟨vs⟩ n) (hI : IntsAre vs ns) : StL C sc ns := fun g σ s r =>
  ⟨vs, ⟨o, (r.K (sc, o) (by rw [hK]; exact List.mem_append_right _ (.head _))).2.2, hc, n, hd⟩, hI⟩
end
section
set_option maxHeartbeats 400000

variable {C : Cx} {A : Around} {σ : Hp} {Q : MV → Hp → Prop}
theorem fn_pt (T : Tm C) {N : Nat} (hA : Ar A (N + 1)) {i d n b p : Nat} {l : List Nat} {ml : List MV} {m : MV} (hi : σ i = some (.inst T.lex d)) (hd : σ d = some (lexO l n (.ref b) p)) (hb : σ b = some (.list ml)) (hl : ml.length ≤ 1000000)
    (q : Q .none (σ.set b (.list (ml ++ [m])))) : Fn C A (.ref T.fP) [.ref i, m] σ Q := by
  obtain ⟨cd, F⟩ := T.FP
  refine fn_go F hA (Loc.set (Loc.set (fun _ => none) "self" (.ref i)) "token" m) (ps := ["self", "token"]) (by walk_at "bind") (by kernel_rfl!) rfl rfl fun L A' KF hKF hA' => exs_cons ?_
  walk_at "ss"
  refine ev_append ?_
  refine ev_attr ?_
  walk_at "ss"
  refine att_inst T.klex hi hd (v := .ref b) rfl rfl T.n4 ?_
  refine ⟨_, _, rfl, hb, ?_⟩
  walk_at "ss"
  refine ⟨_, hb, hl, ?_⟩
  walk_at "ss"
  exact q
theorem fn_gp (T : Tm C) {N : Nat} (hA : Ar A (N + 1)) {i d n b p : Nat} {l : List Nat} {ml : List MV} {m : MV} (hi : σ i = some (.inst T.lex d)) (hd : σ d = some (lexO l n (.ref b) p)) (hb : σ b = some (.list (m :: ml))) (hl : ml.length < 1000000)
    (q : Q m (σ.set b (.list ml))) : Fn C A (.ref T.fG) [.ref i] σ Q := by
  obtain ⟨cd, F⟩ := T.FG
  refine fn_go F hA (Loc.set (fun _ => none) "self" (.ref i)) (ps := ["self"]) (by walk_at "bind") (by kernel_rfl!) rfl rfl fun L A' KF hKF hA' => exs_cons ?_
  walk_at "ss"
  refine tr_val ?_
  refine ev_attr ?_
  walk_at "ss"
  refine att_inst T.klex hi hd (v := .ref b) rfl rfl T.n4 ?_
  refine tru_lst (lst_ref hb) (by simp; lia) ?_
  refine iteB (fun _ => ?_) fun h => nomatch h
  walk_at "ss"
  refine ev_pop0 ?_
  refine ev_attr ?_
  walk_at "ss"
  refine att_inst T.klex hi hd (v := .ref b) rfl rfl T.n4 ?_
  refine ⟨_, _, _, rfl, hb, hl, ?_⟩
  walk_at "ss"
  refine ⟨rfl, rfl, ?_⟩
  walk_at "ss"
  exact q
end
section
namespace Rotor
structure St where
  w : Nat
  cnt : Nat → Nat
noncomputable def ring (row : Nat → List Nat) (v k : Nat) : Nat := (row v).getD (k % (row v).length) 0
noncomputable def step (row : Nat → List Nat) (s : St) : St := ⟨ring row s.w (s.cnt s.w), fun u => if u = s.w then s.cnt u + 1 else s.cnt u⟩
noncomputable def run (row : Nat → List Nat) (s : St) (n : Nat) : St := match n with
  | 0 => s
  | n + 1 => step row (run row s n)
theorem run_zero (row : Nat → List Nat) (s : St) : run row s 0 = s := rfl
theorem run_succ (row : Nat → List Nat) (s : St) (n : Nat) : run row s (n + 1) = step row (run row s n) := rfl
theorem run_add (row : Nat → List Nat) (s : St) (a b : Nat) : run row s (a + b) = run row (run row s a) b := by
  induction b with
  | zero => rfl
  | succ b ih => rw [← Nat.add_assoc, run_succ, run_succ, ih]
noncomputable def hits (row : Nat → List Nat) (u v a : Nat) (d : Nat) : Nat := match d with
  | 0 => 0
  | d + 1 => hits row u v a d + if ring row u (a + d) = v then 1 else 0
theorem hits_zero (row : Nat → List Nat) (u v a : Nat) : hits row u v a 0 = 0 := rfl
theorem hits_succ (row : Nat → List Nat) (u v a d : Nat) : hits row u v a (d + 1) = hits row u v a d + if ring row u (a + d) = v then 1 else 0 := rfl
noncomputable def sumTo (f : Nat → Nat) (n : Nat) : Nat := match n with
  | 0 => 0
  | n + 1 => sumTo f n + f n
theorem sumTo_succ (f : Nat → Nat) (n : Nat) : sumTo f (n + 1) = sumTo f n + f n := rfl
theorem sumTo_congr {f g : Nat → Nat} {n : Nat} (h : ∀ i, i < n → f i = g i) : sumTo f n = sumTo g n := by
  induction n with
  | zero => rfl
  | succ n ih => rw [sumTo_succ, sumTo_succ, ih (fun i hi => h i (by walk_at "l")), h n (by walk_at "l")]
theorem sumTo_one {f g : Nat → Nat} {n j x : Nat} (hj : j < n) (h : ∀ i, i ≠ j → f i = g i) (e : f j = g j + x) : sumTo f n = sumTo g n + x := by
  induction n with
  | zero => lia
  | succ n ih =>
    rw [sumTo_succ, sumTo_succ]
    by_cases hn : j = n
    · subst hn
      rw [e, sumTo_congr (fun i hi => h i (by walk_at "l"))]; lia
    · rw [ih (by walk_at "l"), h n (fun q => hn q.symm)]; lia
theorem sumTo_le {f g : Nat → Nat} {n : Nat} (h : ∀ i, i < n → f i ≤ g i) : sumTo f n ≤ sumTo g n := by
  induction n with
  | zero => exact Nat.le_refl _
  | succ n ih => rw [sumTo_succ, sumTo_succ]; have := ih (fun i hi => h i (by walk_at "l")); have := h n (by walk_at "l"); lia
theorem sumTo_eq {f g : Nat → Nat} {n : Nat} (h : ∀ i, i < n → f i ≤ g i) (e : sumTo g n ≤ sumTo f n) : ∀ i, i < n → f i = g i := by
  induction n with
  | zero => intro i hi; lia
  | succ n ih =>
    rw [sumTo_succ, sumTo_succ] at e
    have h1 := sumTo_le (f := f) (g := g) (n := n) (fun i hi => h i (by walk_at "l"))
    have h2 := h n (by walk_at "l")
    intro i hi
    by_cases q : i = n
    · subst q; lia
    · exact ih (fun i hi => h i (by walk_at "l")) (by walk_at "l") i (by walk_at "l")
noncomputable def entr (row : Nat → List Nat) (N : Nat) (s t : St) (v : Nat) : Nat := sumTo (fun u => hits row u v (s.cnt u) (t.cnt u - s.cnt u)) N
noncomputable def ind (a b : Nat) : Nat := if a = b then 1 else 0
structure Ok (row : Nat → List Nat) (N : Nat) : Prop where
  lt : ∀ v, v < N → ∀ u ∈ row v, u < N
  pos : ∀ v, v < N → 0 < (row v).length
  nod : ∀ v, v < N → (row v).Nodup
  sym : ∀ v u, v < N → u < N → (u ∈ row v ↔ v ∈ row u)
theorem ring_mem {row : Nat → List Nat} {N v k : Nat} (O : Ok row N) (hv : v < N) : ring row v k ∈ row v := by
  have hl := Nat.mod_lt k (O.pos v hv)
  unfold ring
  rw [List.getD_eq_getElem?_getD, List.getElem?_eq_getElem hl]
  exact List.getElem_mem hl
theorem run_lt {row : Nat → List Nat} {N : Nat} (O : Ok row N) {s : St} (hs : s.w < N) (n : Nat) : (run row s n).w < N := by
  induction n with
  | zero => exact hs
  | succ n ih => rw [run_succ]; exact O.lt _ ih _ (ring_mem O ih)
theorem cnt_mono (row : Nat → List Nat) (s : St) (n u : Nat) : s.cnt u ≤ (run row s n).cnt u := by
  induction n with
  | zero => exact Nat.le_refl _
  | succ n ih =>
    rw [run_succ]; show _ ≤ if u = _ then _ else _
    split <;> lia
theorem sumTo_none (N : Nat) : sumTo (fun _ => 0) N = 0 := by
  induction N with
  | zero => rfl
  | succ N ih => rw [sumTo_succ, ih]
theorem balance {row : Nat → List Nat} {N : Nat} (O : Ok row N) {s : St} (hs : s.w < N) (n v : Nat) :
    entr row N s (run row s n) v + ind s.w v = ((run row s n).cnt v - s.cnt v) + ind (run row s n).w v := by
  induction n with
  | zero =>
    have : entr row N s (run row s 0) v = 0 := by
      unfold entr
      rw [show sumTo (fun u => hits row u v (s.cnt u) ((run row s 0).cnt u - s.cnt u)) N = sumTo (fun _ => 0) N from sumTo_congr fun i _ => by rw [run_zero, Nat.sub_self]; rfl, sumTo_none]
    rw [this, run_zero]; lia
  | succ n ih =>
    have hw := run_lt O hs n
    have hm := cnt_mono row s n
    rw [run_succ]
    generalize run row s n = r at *
    have e : entr row N s (step row r) v = entr row N s r v + ind (step row r).w v := by
      refine sumTo_one hw (fun u hu => ?_) ?_
      · show hits row u v _ ((if u = r.w then _ else r.cnt u) - _) = _
        rw [if_neg hu]
      · show hits row r.w v _ ((if r.w = r.w then r.cnt r.w + 1 else _) - _) = _
        have h1 : r.cnt r.w + 1 - s.cnt r.w = (r.cnt r.w - s.cnt r.w) + 1 := by have := hm r.w; lia
        rw [if_pos rfl, h1, hits_succ, show s.cnt r.w + (r.cnt r.w - s.cnt r.w) = r.cnt r.w from by have := hm r.w; lia]
        rfl
    have e2 : (step row r).cnt v = r.cnt v + ind r.w v := by
      show (if v = r.w then _ else _) = _
      unfold ind
      by_cases h : v = r.w
      · rw [if_pos h, if_pos h.symm]
      · rw [if_neg h, if_neg fun q => h q.symm]; rfl
    have := hm v
    rw [e, e2]; lia
theorem ring_inj {row : Nat → List Nat} {N v a i j : Nat} (O : Ok row N) (hv : v < N) (hij : i < j) (hj : j < i + (row v).length) : ring row v i ≠ ring row v j := by
  have hp := O.pos v hv
  have hi' := Nat.mod_lt i hp
  have hj' := Nat.mod_lt j hp
  unfold ring
  rw [List.getD_eq_getElem?_getD, List.getD_eq_getElem?_getD, List.getElem?_eq_getElem hi', List.getElem?_eq_getElem hj']
  intro e
  have e' : i % (row v).length = j % (row v).length := (List.getElem_inj (O.nod v hv)).mp e
  have h1 := Nat.div_add_mod i (row v).length
  have h2 := Nat.div_add_mod j (row v).length
  have h3 : (row v).length * (j / (row v).length) = (row v).length * (i / (row v).length) + (j - i) := by walk_at "l"
  have h4 : (row v).length ∣ (j - i) := by
    have := Nat.dvd_sub (Nat.dvd_mul_right (row v).length (j / (row v).length)) (Nat.dvd_mul_right (row v).length (i / (row v).length))
    rwa [show (row v).length * (j / (row v).length) - (row v).length * (i / (row v).length) = j - i from by walk_at "l"] at this
  have := Nat.le_of_dvd (by walk_at "l") h4
  lia
theorem hits_pos {row : Nat → List Nat} {u v a d : Nat} (h : 0 < hits row u v a d) : ∃ k, a ≤ k ∧ k < a + d ∧ ring row u k = v := by
  induction d with
  | zero => exact absurd h (by rw [hits_zero]; lia)
  | succ d ih =>
    by_cases q : ring row u (a + d) = v
    · exact ⟨a + d, by walk_at "l", by walk_at "l", q⟩
    · rw [hits_succ, if_neg q] at h
      obtain ⟨k, h1, h2, h3⟩ := ih h
      exact ⟨k, h1, by walk_at "l", h3⟩
theorem hits_le {row : Nat → List Nat} {N u v a d : Nat} (O : Ok row N) (hu : u < N) (hd : d ≤ (row u).length) : hits row u v a d ≤ 1 := by
  induction d with
  | zero => exact Nat.zero_le _
  | succ d ih =>
    rw [hits_succ]
    by_cases q : ring row u (a + d) = v
    · rw [if_pos q]
      have : ¬ 0 < hits row u v a d := fun h => by
        obtain ⟨k, h1, h2, h3⟩ := hits_pos h
        exact ring_inj (a := 0) O hu h2 (by walk_at "l") (h3.trans q.symm)
      lia
    · rw [if_neg q]; exact ih (by walk_at "l")
theorem hits_not {row : Nat → List Nat} {N u v a d : Nat} (O : Ok row N) (hu : u < N) (hv : v ∉ row u) : hits row u v a d = 0 := by
  rcases Nat.eq_zero_or_pos (hits row u v a d) with h | h
  · exact h
  · obtain ⟨k, _, _, e⟩ := hits_pos h
    exact absurd (e ▸ ring_mem O hu) hv
theorem sumTo_mem {l : List Nat} {N : Nat} (hn : l.Nodup) (hl : ∀ x ∈ l, x < N) : sumTo (fun u => if u ∈ l then 1 else 0) N = l.length := by
  induction l with
  | nil =>
    rw [show sumTo (fun u => if u ∈ ([] : List Nat) then 1 else 0) N = sumTo (fun _ => 0) N from sumTo_congr fun i _ => if_neg List.not_mem_nil, sumTo_none]; rfl
  | cons y l ih =>
    rw [List.nodup_cons] at hn
    have h1 : ∀ i, i ≠ y → (if i ∈ y :: l then 1 else 0) = if i ∈ l then 1 else 0 := fun i hi => by
      by_cases h : i ∈ l
      · rw [if_pos h, if_pos (.tail _ h)]
      · rw [if_neg h, if_neg fun q => by rcases List.mem_cons.mp q with q | q; exact hi q; exact h q]
    have h2 : (if y ∈ y :: l then 1 else 0) = (if y ∈ l then 1 else 0) + 1 := by rw [if_pos (.head _), if_neg hn.1]
    rw [sumTo_one (hl y (.head _)) h1 h2, ih hn.2 fun x hx => hl x (.tail _ hx)]; rfl
noncomputable def Fit (row : Nat → List Nat) (N : Nat) (s t : St) : Prop := ∀ u, u < N → t.cnt u - s.cnt u ≤ (row u).length
theorem hits_fit {row : Nat → List Nat} {N : Nat} (O : Ok row N) {s t : St} (F : Fit row N s t) {v : Nat} (hv : v < N) (u : Nat) (hu : u < N) : hits row u v (s.cnt u) (t.cnt u - s.cnt u) ≤ if u ∈ row v then 1 else 0 := by
  by_cases h : u ∈ row v
  · rw [if_pos h]; exact hits_le O hu (F u hu)
  · rw [if_neg h, hits_not O hu fun q => h ((O.sym u v hu hv).mp q)]; exact Nat.le_refl _
theorem entr_le {row : Nat → List Nat} {N : Nat} (O : Ok row N) {s t : St} (F : Fit row N s t) {v : Nat} (hv : v < N) : entr row N s t v ≤ (row v).length := by
  rw [← sumTo_mem (O.nod v hv) (O.lt v hv)]
  exact sumTo_le (hits_fit O F hv)
theorem entr_all {row : Nat → List Nat} {N : Nat} (O : Ok row N) {s t : St} (F : Fit row N s t) {v : Nat} (hv : v < N) (h : (row v).length ≤ entr row N s t v) {u : Nat} (hu : u ∈ row v) : hits row u v (s.cnt u) (t.cnt u - s.cnt u) = 1 := by
  have hN := O.lt v hv u hu
  rw [← sumTo_mem (O.nod v hv) (O.lt v hv)] at h
  rw [sumTo_eq (hits_fit O F hv) h u hN, if_pos hu]
theorem sum_steps {row : Nat → List Nat} {N : Nat} (O : Ok row N) {s : St} (hs : s.w < N) (n : Nat) : sumTo (fun u => (run row s n).cnt u - s.cnt u) N = n := by
  induction n with
  | zero => rw [show sumTo (fun u => (run row s 0).cnt u - s.cnt u) N = sumTo (fun _ => 0) N from sumTo_congr fun i _ => by rw [run_zero, Nat.sub_self], sumTo_none]
  | succ n ih =>
    have hw := run_lt O hs n
    have hm := cnt_mono row s n
    rw [run_succ]
    generalize run row s n = r at *
    rw [← ih]
    refine sumTo_one hw (fun u hu => ?_) ?_
    · show (if u = r.w then _ else r.cnt u) - _ = _
      rw [if_neg hu]
    · show (if r.w = r.w then r.cnt r.w + 1 else _) - _ = _
      rw [if_pos rfl]; have := hm r.w; lia
noncomputable def arcs (row : Nat → List Nat) (N : Nat) : Nat := sumTo (fun u => (row u).length) N
theorem fit_step {row : Nat → List Nat} {N : Nat} (O : Ok row N) {s : St} (hs : s.w < N) {n : Nat} (F : Fit row N s (run row s n))
    (h : (run row s n).w = s.w → (run row s n).cnt s.w - s.cnt s.w < (row s.w).length) : Fit row N s (run row s (n + 1)) := by
  intro u hu
  have hw := run_lt O hs n
  have hm := cnt_mono row s n
  have hb := balance O hs n u
  have he := entr_le O F hu
  rw [run_succ]
  generalize run row s n = r at *
  show (if u = r.w then _ else _) - _ ≤ _
  by_cases q : u = r.w
  · rw [if_pos q]
    by_cases z : r.w = s.w
    · have := h z; have := hm u; rw [q, z] at *; lia
    · unfold ind at hb
      rw [if_neg (fun e => z (q.symm.trans e.symm)), if_pos q.symm] at hb
      have := hm u
      lia
  · rw [if_neg q]; exact F u hu
structure Ph (row : Nat → List Nat) (N : Nat) (s e : St) (n : Nat) : Prop where
  run : run row s n = e
  w : e.w = s.w
  d : e.cnt s.w - s.cnt s.w = (row s.w).length
  fit : Fit row N s e
theorem Ph.ex {row : Nat → List Nat} {N : Nat} (O : Ok row N) {s : St} (hs : s.w < N) : ∃ e n, n ≤ arcs row N ∧ Ph row N s e n := by
  refine Classical.byContradiction fun hno => ?_
  have key : ∀ n, n ≤ arcs row N + 1 → Fit row N s (Rotor.run row s n) := by
    intro n
    induction n with
    | zero => intro _ u hu; rw [run_zero, Nat.sub_self]; exact Nat.zero_le _
    | succ n ih =>
      intro hn
      have F := ih (by walk_at "l")
      refine fit_step O hs F fun hw => ?_
      have h1 := F s.w hs
      rcases Nat.lt_or_ge ((Rotor.run row s n).cnt s.w - s.cnt s.w) (row s.w).length with h | h
      · exact h
      · exact absurd ⟨_, n, by walk_at "l", rfl, hw, by walk_at "l", F⟩ hno
  have F := key _ (Nat.le_refl _)
  have h1 := sum_steps O hs (arcs row N + 1)
  have h2 := sumTo_le (f := fun u => (Rotor.run row s (arcs row N + 1)).cnt u - s.cnt u) (g := fun u => (row u).length) (n := N) F
  unfold arcs at *
  lia
theorem Ph.entr {row : Nat → List Nat} {N : Nat} (O : Ok row N) {s e : St} {n : Nat} (hs : s.w < N) (P : Ph row N s e n) (v : Nat) : entr row N s e v = e.cnt v - s.cnt v := by
  have := balance O hs n v
  rw [P.run, P.w] at this; lia
theorem cnt_stay {row : Nat → List Nat} {s : St} {v : Nat} (a b : Nat) (h : ∀ t, a ≤ t → t < a + b → (Rotor.run row s t).w ≠ v) : (Rotor.run row s (a + b)).cnt v = (Rotor.run row s a).cnt v := by
  induction b with
  | zero => rfl
  | succ b ih =>
    rw [← Nat.add_assoc, run_succ]
    show (if v = _ then _ else _) = _
    rw [if_neg fun q => h (a + b) (by walk_at "l") (by walk_at "l") q.symm]
    exact ih fun t h1 h2 => h t h1 (by walk_at "l")
theorem Ph.next {row : Nat → List Nat} {N : Nat} (O : Ok row N) {s e e' : St} {n n' : Nat} (hs : s.w < N) (P : Ph row N s e n) (P' : Ph row N e e' n') :
    ∀ k t, t + k = n → 0 < k → e'.cnt (Rotor.run row s t).w - e.cnt (Rotor.run row s t).w = (row (Rotor.run row s t).w).length := by
  have he : e.w < N := P.w ▸ hs
  intro k
  induction k using Nat.strongRecOn with
  | _ k ih =>
    intro t ht hk
    have hv := run_lt O hs t
    by_cases hl : ∃ t', t < t' ∧ t' < n ∧ (Rotor.run row s t').w = (Rotor.run row s t).w
    · obtain ⟨t', h1, h2, h3⟩ := hl
      rw [← h3]
      exact ih (n - t') (by walk_at "l") t' (by walk_at "l") (by walk_at "l")
    · have hst : e.cnt (Rotor.run row s t).w = (Rotor.run row s t).cnt (Rotor.run row s t).w + 1 := by
        have h1 := cnt_stay (row := row) (s := s) (v := (Rotor.run row s t).w) (t + 1) (k - 1) fun t' a b q => hl ⟨t', by walk_at "l", by walk_at "l", q⟩
        rw [show t + 1 + (k - 1) = n from by walk_at "l", P.run] at h1
        rw [h1, run_succ]
        exact if_pos rfl
      have hp : (Rotor.run row s (t + 1)).w = ring row (Rotor.run row s t).w (e.cnt (Rotor.run row s t).w - 1) := by
        rw [hst, run_succ]; rfl
      have hpN := run_lt O hs (t + 1)
      have hS : e'.cnt (Rotor.run row s (t + 1)).w - e.cnt (Rotor.run row s (t + 1)).w = (row (Rotor.run row s (t + 1)).w).length := by
        by_cases hn : t + 1 = n
        · rw [hn, P.run]; exact P'.d
        · exact ih (k - 1) (by walk_at "l") (t + 1) (by walk_at "l") (by walk_at "l")
      generalize (Rotor.run row s (t + 1)).w = p at *
      generalize (Rotor.run row s t).w = v at *
      have hvp : v ∈ row p := (O.sym v p hv hpN).mp (hp ▸ ring_mem O hv)
      have h1 := entr_all O P'.fit hpN (by rw [P'.entr O he, hS]; exact Nat.le_refl _) hvp
      obtain ⟨k', a, b, c⟩ := hits_pos (show 0 < hits row v p (e.cnt v) (e'.cnt v - e.cnt v) by walk_at "l")
      have h2 := P'.fit v hv
      have h3 : ¬ k' < (e.cnt v - 1) + (row v).length := fun q => ring_inj (a := 0) O hv (by walk_at "l") q (hp.symm.trans c.symm)
      lia
noncomputable def ball (row : Nat → List Nat) (r : Nat) (i v : Nat) : Prop := match i with
  | 0 => v = r
  | i + 1 => ball row r i v ∨ ∃ u, ball row r i u ∧ v ∈ row u
theorem ball_lt {row : Nat → List Nat} {N r : Nat} (O : Ok row N) (hr : r < N) (i : Nat) : ∀ v, ball row r i v → v < N := by
  induction i with
  | zero => intro v h; exact (show v = r from h) ▸ hr
  | succ i ih =>
    intro v h
    rcases (show ball row r i v ∨ _ from h) with h | ⟨u, h1, h2⟩
    · exact ih v h
    · exact O.lt u (ih u h1) v h2
theorem Ph.nbr {row : Nat → List Nat} {N : Nat} (O : Ok row N) {s e : St} {n : Nat} (hs : s.w < N) (P : Ph row N s e n) {v u : Nat} (hv : v < N) (h : e.cnt v - s.cnt v = (row v).length) (hu : u ∈ row v) : 0 < e.cnt u - s.cnt u := by
  have h1 := entr_all O P.fit hv (by rw [P.entr O hs, h]; exact Nat.le_refl _) hu
  rcases Nat.eq_zero_or_pos (e.cnt u - s.cnt u) with q | q
  · rw [q, hits_zero] at h1; lia
  · exact q
theorem sent {row : Nat → List Nat} {s : St} {v n : Nat} (h : 0 < (Rotor.run row s n).cnt v - s.cnt v) : ∃ t, t < n ∧ (Rotor.run row s t).w = v := by
  refine Classical.byContradiction fun hno => ?_
  have := cnt_stay (row := row) (s := s) (v := v) 0 n fun t _ b q => hno ⟨t, by walk_at "l", q⟩
  rw [Nat.zero_add, run_zero] at this; lia
theorem Ph.grow {row : Nat → List Nat} {N : Nat} (O : Ok row N) {s e e' : St} {n n' : Nat} (hs : s.w < N) (P : Ph row N s e n) (P' : Ph row N e e' n') {v : Nat} (h : 0 < e.cnt v - s.cnt v) : e'.cnt v - e.cnt v = (row v).length := by
  rw [← P.run] at h
  obtain ⟨t, h1, h2⟩ := sent h
  have := Ph.next O hs P P' (n - t) t (by walk_at "l") (by walk_at "l")
  rwa [h2] at this
theorem phases {row : Nat → List Nat} {N : Nat} (O : Ok row N) {s : St} (hs : s.w < N) (i : Nat) : ∃ T x y n, T + n ≤ (i + 1) * arcs row N ∧ Rotor.run row s T = x ∧ x.w = s.w ∧ Ph row N x y n ∧ ∀ v, ball row s.w (i + 1) v → 0 < y.cnt v - x.cnt v := by
  induction i with
  | zero =>
    obtain ⟨e, n, h1, P⟩ := Ph.ex O hs
    refine ⟨0, s, e, n, by walk_at "l", rfl, rfl, P, fun v hv => ?_⟩
    rcases (show v = s.w ∨ _ from hv) with h | ⟨u, h, h2⟩
    · rw [h, P.d]; exact O.pos _ hs
    · rw [show u = s.w from h] at h2; exact P.nbr O hs hs P.d h2
  | succ i ih =>
    obtain ⟨T, x, y, n, h1, h2, h3, P, hb⟩ := ih
    have hx : x.w < N := h3 ▸ hs
    have hy : y.w < N := P.w ▸ hx
    obtain ⟨z, n', h1', P'⟩ := Ph.ex O hy
    refine ⟨T + n, y, z, n', ?_, ?_, P.w.trans h3, P', fun v hv => ?_⟩
    · rw [Nat.add_mul (i + 1) 1, Nat.one_mul]; lia
    · rw [run_add, h2, P.run]
    · rcases (show ball row s.w (i + 1) v ∨ _ from hv) with h | ⟨u, h, h4⟩
      · rw [P.grow O hx P' (hb v h)]; exact O.pos v (ball_lt O hs _ v h)
      · exact P'.nbr O hy (ball_lt O hs _ u h) (P.grow O hx P' (hb u h)) h4
theorem ring_per {row : Nat → List Nat} (v k : Nat) : ring row v (k + (row v).length) = ring row v k := by
  unfold ring; rw [Nat.add_mod_right]
structure Eqv (row : Nat → List Nat) (N : Nat) (a b : St) : Prop where
  w : b.w = a.w
  c : ∀ u, u < N → b.cnt u = a.cnt u + (row u).length
theorem Eqv.run {row : Nat → List Nat} {N : Nat} (O : Ok row N) {a b : St} (ha : a.w < N) (E : Eqv row N a b) (n : Nat) : Eqv row N (Rotor.run row a n) (Rotor.run row b n) := by
  induction n with
  | zero => exact E
  | succ n ih =>
    have hw := run_lt O ha n
    rw [run_succ, run_succ]
    generalize Rotor.run row a n = a' at *
    generalize Rotor.run row b n = b' at *
    refine ⟨?_, fun u hu => ?_⟩
    · show ring row b'.w (b'.cnt b'.w) = ring row a'.w (a'.cnt a'.w)
      rw [ih.w, ih.c _ hw, ring_per]
    · show (if u = b'.w then _ else _) = (if u = a'.w then _ else _) + _
      rw [ih.w, ih.c u hu]
      split <;> lia
theorem lockin {row : Nat → List Nat} {N : Nat} (O : Ok row N) {s : St} (hs : s.w < N) {D : Nat} (hD : 0 < D) (hb : ∀ v, v < N → ball row s.w D v) (k : Nat) (hk : D * arcs row N ≤ k) : Eqv row N (Rotor.run row s k) (Rotor.run row s (k + arcs row N)) := by
  obtain ⟨i, rfl⟩ : ∃ i, D = i + 1 := ⟨D - 1, by walk_at "l"⟩
  obtain ⟨T, x, y, n, h1, h2, h3, P, h4⟩ := phases O hs i
  have hx : x.w < N := h3 ▸ hs
  have hy : y.w < N := P.w ▸ hx
  obtain ⟨z, n', h1', P'⟩ := Ph.ex O hy
  have hd : ∀ v, v < N → z.cnt v - y.cnt v = (row v).length := fun v hv => P.grow O hx P' (h4 v (hb v hv))
  have hn : n' = arcs row N := by
    have := sum_steps O hy n'
    rw [P'.run, sumTo_congr (g := fun u => (row u).length) hd] at this
    exact this.symm
  have hE : Eqv row N y z := ⟨P'.w, fun u hu => by have := hd u hu; have := cnt_mono row y n' u; rw [P'.run] at this; lia⟩
  have hyr : Rotor.run row s (T + n) = y := by rw [run_add, h2, P.run]
  have := hE.run O hy (k - (T + n))
  rw [← P'.run, ← run_add, ← hyr, ← run_add, ← run_add] at this
  rw [hn] at this
  rwa [show T + n + (k - (T + n)) = k from by walk_at "l", show T + n + (arcs row N + (k - (T + n))) = k + arcs row N from by walk_at "l"] at this
end Rotor
end
section
namespace Rotor
open Mine
noncomputable def low1 (c : Nat) : Nat := if c = 65 then 97 else c
noncomputable def pairsAt (a b : List Nat) (sh : Int) : List (Nat × Nat) := (List.range a.length).filterMap fun (p : Nat) =>
  if 0 ≤ (p : Int) + sh ∧ (p : Int) + sh < b.length then some (a.getD p 0, b.getD ((p : Int) + sh).toNat 0) else none
noncomputable def costAt (a b : List Nat) (sh : Int) : Int := 2 * ((a.length : Int) + b.length) - 4 * ((pairsAt a b sh).length : Int) + ((pairsAt a b sh).map fun q => if q.1 = q.2 then (0 : Int) else if low1 q.1 = low1 q.2 then 1 else 2).sum
noncomputable def lawPrice (a b : List Nat) : Int := min (min (costAt a b (-1)) (costAt a b 0)) (costAt a b 1)
noncomputable def signs : List Nat := [97, 65, 98, 32, 34, 92]
noncomputable def wordOf1 (n : Nat) : List Nat := [signs.getD (n / 2 % 6) 0, signs.getD (n / 12 % 6) 0].take (1 + n % 2)
noncomputable def allW : List (List Nat) := [97, 35] :: (signs.map fun c => [c]) ++ signs.flatMap fun c => signs.map fun d => [c, d]
noncomputable def wq (k : Nat) : List (List Nat) := allW.drop (6 * k)
theorem cut_mem {P : List Nat → Prop} (k : Nat) (h1 : ∀ a ∈ (wq k).take 6, P a) (h2 : ∀ a ∈ wq (k + 1), P a) : ∀ a ∈ wq k, P a := fun a ha => by
  rw [← List.take_append_drop 6 (wq k)] at ha
  refine (List.mem_append.mp ha).elim (h1 a) fun h => h2 a ?_
  have e : wq (k + 1) = (wq k).drop 6 := by unfold wq; rw [List.drop_drop]; rfl
  rw [e]; exact h
theorem price0 : ∀ a ∈ (wq 0).take 6, ∀ b ∈ allW, a ≠ b → levF a b 9 = lawPrice a b := by decide +kernel
theorem price1 : ∀ a ∈ (wq 1).take 6, ∀ b ∈ allW, a ≠ b → levF a b 9 = lawPrice a b := by decide +kernel
theorem price2 : ∀ a ∈ (wq 2).take 6, ∀ b ∈ allW, a ≠ b → levF a b 9 = lawPrice a b := by decide +kernel
theorem price3 : ∀ a ∈ (wq 3).take 6, ∀ b ∈ allW, a ≠ b → levF a b 9 = lawPrice a b := by decide +kernel
theorem price4 : ∀ a ∈ (wq 4).take 6, ∀ b ∈ allW, a ≠ b → levF a b 9 = lawPrice a b := by decide +kernel
theorem price5 : ∀ a ∈ (wq 5).take 6, ∀ b ∈ allW, a ≠ b → levF a b 9 = lawPrice a b := by decide +kernel
theorem price6 : ∀ a ∈ (wq 6).take 6, ∀ b ∈ allW, a ≠ b → levF a b 9 = lawPrice a b := by decide +kernel
theorem price7 : ∀ a ∈ (wq 7).take 6, ∀ b ∈ allW, a ≠ b → levF a b 9 = lawPrice a b := by decide +kernel
theorem price_ok : ∀ a ∈ allW, ∀ b ∈ allW, a ≠ b → levF a b 9 = lawPrice a b := cut_mem 0 price0 <| cut_mem 1 price1 <| cut_mem 2 price2 <| cut_mem 3 price3 <| cut_mem 4 price4 <| cut_mem 5 price5 <| cut_mem 6 price6 <| cut_mem 7 price7 <| fun a h => absurd h List.not_mem_nil
end Rotor
end
section
open Rotor (low1 pairsAt costAt lawPrice signs wordOf1 allW)
noncomputable def compB (scope : Scope) (outer : List (Str × NameKind)) : Bool :=
  (scope.kind == .function) && scope.names.all (fun x => x.2 != .local || scope.names.lookup x.1 == some .local) && scope.names.all (fun x => x.2 != .free || ((outer.lookup x.1 == some .cell || outer.lookup x.1 == some .free) && scope.names.lookup x.1 == some .free)) &&
    scope.names.all (fun x => x.2 != .cell || scope.names.lookup x.1 == some .cell)
theorem compOk_of {scope : Scope} {env : Env} (h : compB scope env.scope.names = true) : CompOk scope env := by
  simp only [compB, Bool.and_eq_true, List.all_eq_true, Bool.or_eq_true, bne_iff_ne, beq_iff_eq, Prod.forall] at h
  obtain ⟨⟨⟨h1, h2⟩, h3⟩, h4⟩ := h
  refine ⟨h1, fun x hx e => ?_, fun x hx => ?_, fun x hx => ?_, fun x hx => ?_⟩
  · obtain ⟨a, b⟩ := x
    exact (h2 a b hx).resolve_left (fun q => q e)
  · exact ((h3 x _ hx).resolve_left (fun q => q rfl)).1
  · exact (h4 x _ hx).resolve_left (fun q => q rfl)
  · exact ((h3 x _ hx).resolve_left (fun q => q rfl)).2
theorem Wf.setL {σ : Hp} (h : Wf σ) (n : Nat) (l : List MV) : Wf (σ.set n (.list l)) := h.set _ _ (by intros; intro h; cases h)
theorem Wf.setD {σ : Hp} (h : Wf σ) (n : Nat) (l : List (Str × MV)) : Wf (σ.set n (.dict l)) := h.set _ _ (by intros; intro h; cases h)
theorem Wf.setA {σ : Hp} (h : Wf σ) (n : Nat) (l : List (Str × MV)) : Wf (σ.set n (.attrs l)) := h.set _ _ (by intros; intro h; cases h)
theorem Wf.setI {σ : Hp} (h : Wf σ) (n : Nat) (c : Addr) (d : Nat) : Wf (σ.set n (.inst c d)) := h.set _ _ (by intros; intro h; cases h)
theorem Wf.lexH {σ : Hp} (h : Wf σ) (d n : Nat) (l : List Nat) (pb : MV) (p : Nat) : Wf (lexH σ d n l pb p) := (h.setL _ _).setA _ _
theorem can_own {fm : Fm} {x : Str} (h : fm.own.contains x = true) : canSt fm x := .inr (by simpa using h)
theorem map_take1 {β : Type} (f : Nat → β) (l : List Nat) {i : Nat} (hi : i < l.length) : (l.take i).map f ++ [f (l.getD i 0)] = (l.take (i + 1)).map f := by
  rw [List.take_add_one, List.getElem?_eq_getElem hi, List.map_append, List.getD_eq_getElem?_getD, List.getElem?_eq_getElem hi]; rfl
theorem esc_ok : ∀ c, c < 128 → Txt.contains (S [34, 92]) (S [c]) = decide (c = 34 ∨ c = 92) := by decide +kernel
theorem low_ok : ∀ c, c < 128 → lowOk (S [c]) := by
  show ∀ c, c < 128 → Builtin.Str.tooLong (Txt.lower (S [c])).length = false
  decide +kernel
theorem okS_of {l : List Nat} (h : ∀ c ∈ l, c < 128) : okS l := fun c hc => low_ok c (h c hc)
theorem S_hi (l : List Nat) (k : Nat) : cutS (S l) none (some (k : Int)) = S (l.take k) := by
  have := S_sl l 0 k (Nat.zero_le _)
  rw [show ((0 : Nat) : Int) + k = k by walk_at "l"] at this
  rw [List.drop_zero] at this
  rw [← this]
  unfold cutS clip1
  simp only [S, Str.length, List.size_toArray, Str.mk.injEq]
  congr 2 <;> (try congr 1) <;> lia
section
variable {C : Cx} {A : Around} {fm : Fm} {loc : Loc} {σ : Hp} {Q : MV → Hp → Prop}
theorem slc_Sh {l : List Nat} {k : Nat} {i : Int} (hi : i = (k : Nat)) (hs : l.length ≤ 1000000) (q : Q (.str (S (l.take k))) σ) : Slc C A fm (.str (S l)) none (some i) none loc σ Q := by
  subst hi
  exact slc_str (by rw [S_hi]; exact q) (by rw [S_len]; exact hs)
theorem inLong_small {i : Int} (h1 : -1000000000000 < i) (h2 : i < 1000000000000) : InLong i := by
  unfold InLong
  have : (2 : Int) ^ 63 = 9223372036854775808 := rfl
  lia
theorem sum_bound {ns : List Int} {b : Int} (hb : ∀ x ∈ ns, 0 ≤ x ∧ x ≤ b) : 0 ≤ ns.sum ∧ ns.sum ≤ b * ns.length := by
  induction ns with
  | nil => simp
  | cons x ns ih =>
    have h1 := hb x (.head _)
    have h2 := ih fun y hy => hb y (.tail _ hy)
    have : b * ((ns.length + 1 : Nat) : Int) = b * ns.length + b := by rw [Int.natCast_add, Int.mul_add]; simp
    simp only [List.sum_cons, List.length_cons, this]
    lia
theorem cal_sumB {m : MV} {ns : List Int} (hh : A.handled = none) (hm : lstOf σ m = some (ns.map .int)) (hb : ∀ x ∈ ns, 0 ≤ x ∧ x ≤ 1000000) (hl : ns.length ≤ 1000) (q : Q (.int ns.sum) σ) : Cal C A fm (.builtin "sum") [m] loc σ Q := by
  refine cal_sum hh hm (fun k hk => ?_) (fun x hx => inLong_small (by have := hb x hx; lia) (by have := hb x hx; lia)) q
  have h := sum_bound (ns := ns.take k) fun x hx => hb x (List.mem_of_mem_take hx)
  have h2 : (ns.take k).length ≤ 1000 := by rw [List.length_take]; lia
  exact inLong_small (by walk_at "l") (by walk_at "l")
theorem cal_range2 {a b : Int} (q : Q (.rng a b 1) σ) : Cal C A fm (.type "range") [.int a, .int b] loc σ Q := by
  intro fa g s vs r hvs
  obtain ⟨x, y, rfl, hx, hy⟩ := hvs.inv2
  obtain ⟨_, rfl⟩ := hx.inv
  obtain ⟨_, rfl⟩ := hy.inv
  refine call_range_2 ?_
  exact ⟨g.pin s.heap.objs.size, .rng a b 1, σ, r.pin (s' := { s with heap := _, toks := s.toks + 1 }) (fun b o e => Heap.get?_push_of_some _ e) (Nat.le_refl _) (by show _ < (s.heap.push _).objs.size; rw [Heap.size_push]; exact Nat.lt_succ_self _), .rng (.inl rfl) (Heap.get?_push_size _ rfl),
    .pin (fun b o e => Heap.get?_push_of_some _ e) (Nat.le_refl _) (by show _ < (s.heap.push _).objs.size; rw [Heap.size_push]; exact Nat.lt_succ_self _) rfl rfl rfl, q⟩
theorem str_item (l : List Nat) : (fun i => MV.str ⟨#[(S l).cps.getD i 0]⟩) = fun i => .str (S [l.getD i 0]) := by
  funext i; simp [S, Array.getD_eq_getD_getElem?, List.getD]
theorem walk_S {tg : Expr} {l : List Nat} (hh : A.handled = none) : Walk C A tg (.str (S l)) σ l.length (fun i => .str (S [l.getD i 0])) (fun _ => True) := by
  have := walk_str (C := C) (A := A) (tg := tg) (σ := σ) (x := S l) hh
  rw [str_item] at this
  simpa [S] using this
end
section
variable {C : Cx} {A : Around} {σ : Hp}
theorem Iter.congr {tg : Expr} {it : Value} {wr : List Addr} {n : Nat} {item item' : Nat → MV} {J : Hp → Prop} {IR : Nat → Gh → Hp → Heap → Prop} (W : Iter C A tg it wr n item J IR) (h : ∀ i, i < n → item i = item' i) : Iter C A tg it wr n item' J IR :=
  ⟨fun i g σ s r F hi hJ hn => h i hn ▸ W.next i g σ s r F hi hJ hn, W.done, W.stab, W.self, W.live⟩
theorem Walk.congr {tg : Expr} {m : MV} {n : Nat} {item item' : Nat → MV} {J : Hp → Prop} (W : Walk C A tg m σ n item J) (h : ∀ i, i < n → item i = item' i) : Walk C A tg m σ n item' J :=
  ⟨W.1, fun g s x r hx => wpAny_mono (W.2 g s x r hx) (fun _ _ p => WalkP.casesOn p fun wr IR W r d hF hz hi => ⟨wr, IR, W.congr h, r, d, hF, hz, hi⟩) fun _ _ e => e⟩
theorem WalkE.congr {fm : Fm} {loc : Loc} {tg e : Expr} {n : Nat} {item item' : Nat → MV} {J Q : Hp → Prop} (W : WalkE C A fm tg e loc σ n item J Q) (h : ∀ i, i < n → item i = item' i) : WalkE C A fm tg e loc σ n item' J Q :=
  fun fa g s r => wpAny_mono (W fa g s r) (fun _ _ h1 => wpAny_mono h1 (fun _ _ p => WalkQ.casesOn p fun g' σ' wr IR W r d hF hz hi hJ q => ⟨g', σ', wr, IR, W.congr h, r, d, hF, hz, hi, hJ, q⟩) fun _ _ e => e) fun _ _ e => e
theorem walk_listC {tg : Expr} {m : MV} {l : List MV} {n : Nat} {item : Nat → MV} (hh : A.handled = none) (hl : lstOf σ m = some l) (hn : l.length = n) (hi : ∀ i, i < n → l[i]? = some (item i)) : Walk C A tg m σ n item (fun σ' => lstOf σ' m = some l) :=
  hn ▸ (walk_list hh hl).congr fun i h => by rw [List.getD_eq_getElem?_getD, hi i (hn ▸ h)]; rfl
end
noncomputable def escA (c : Nat) : List Nat := [92, c]
noncomputable def escQ (c : Nat) : List Nat := if c = 34 ∨ c = 92 then [92, c] else [c]
noncomputable def bodyOf (w : List Nat) (n : Nat) : List Nat := if n / 72 % 2 = 1 then w.flatMap escA else [34] ++ w.flatMap escQ ++ [34]
noncomputable def sepOf (n : Nat) : Nat := if n % 3 = 0 then 10 else 32
noncomputable def written (w : List Nat) (n : Nat) : List Nat := bodyOf w n ++ [sepOf n]
theorem allW_ok : ∀ w ∈ allW, (∀ c ∈ w, c < 128) ∧ w.length ≤ 2 ∧ w ≠ [] ∧ (∀ c ∈ w, Txt.lower (S [c]) = S [low1 c]) := by decide +kernel
theorem join_ok : ∀ w ∈ allW, JoinOk "" (w.map fun c => S (escA c)) = true ∧ Txt.join "" (w.map fun c => S (escA c)) = S (w.flatMap escA) ∧
    JoinOk "" (w.map fun c => S (escQ c)) = true ∧ Txt.join "" (w.map fun c => S (escQ c)) = S (w.flatMap escQ) := by decide +kernel
theorem wordOf1_in : ∀ n, n < 288 → wordOf1 n ∈ allW ∧ wordOf1 n ≠ [97, 35] := by decide +kernel
theorem body_len : ∀ w ∈ allW, (w.flatMap escA).length ≤ 4 ∧ (w.flatMap escQ).length ≤ 4 := by decide +kernel
end
local macro_rules | `(tactic| walk_at "can") => `(tactic| first | with_reducible assumption | exact Or.inl (by kernel_rfl!) | exact can_own (by kernel_rfl!))
section
set_option maxHeartbeats 400000

open Rotor (low1 pairsAt costAt lawPrice wordOf1 allW)
variable {C : Cx} {A : Around} {σ : Hp} {Q : MV → Hp → Prop}
theorem signs_S : ("aAb \"\\" : Str) = S Rotor.signs := by decide
theorem fn_word (T : Tm C) {N : Nat} (hA : Ar A (N + 1)) {n : Nat} (hn : n < 100000) (q : Q (.str (S (wordOf1 n))) σ) : Fn C A (.ref T.wrd) [.int (n : Nat)] σ Q := by
  obtain ⟨cd, F⟩ := T.Fwrd
  refine fn_go F hA (Loc.set (fun _ => none) "number" (.int (n : Nat))) (ps := ["number"]) (by walk_at "bind") (by kernel_rfl!) rfl rfl fun L A' KF hKF hA' => exs_cons ?_
  walk_at "ss"
  rw [signs_S]
  have hs1 : n / 2 % 6 < Rotor.signs.length := Nat.mod_lt _ (by decide)
  have hs2 : n / 12 % 6 < Rotor.signs.length := Nat.mod_lt _ (by decide)
  refine op_div (by walk_at "l") (by decide) (by decide) ?_
  walk_at "ss"
  refine op_mod (by decide) ?_
  rw [show ((n : Int) / 2 % 6) = ((n / 2 % 6 : Nat) : Int) by walk_at "l"]
  refine gi_S (by decide) (List.getElem?_eq_getElem hs1) ?_
  walk_at "ss"
  refine op_div (by walk_at "l") (by decide) (by decide) ?_
  walk_at "ss"
  refine op_mod (by decide) ?_
  rw [show ((n : Int) / 12 % 6) = ((n / 12 % 6 : Nat) : Int) by walk_at "l"]
  refine gi_S (by decide) (List.getElem?_eq_getElem hs2) ?_
  refine op_adds (by simp [S_len]) ?_
  rw [S_app]
  walk_at "ss"
  refine op_mod (by decide) ?_
  walk_at "ss"
  refine slc_Sh (k := 1 + n % 2) (by walk_at "l") (by simp) ?_
  walk_at "ss"
  have e : wordOf1 n = ([Rotor.signs[n / 2 % 6]] ++ [Rotor.signs[n / 12 % 6]]).take (1 + n % 2) := by
    unfold wordOf1
    rw [List.getD_eq_getElem?_getD, List.getD_eq_getElem?_getD, List.getElem?_eq_getElem hs1, List.getElem?_eq_getElem hs2]
    rfl
  rw [e] at q
  exact q
theorem bs_S : ("\\" : Str) = S [92] := by decide
theorem fn_written (T : Tm C) {N : Nat} (hA : Ar A (N + 1)) {n : Nat} {w : List Nat} (hn : n < 100000) (hw : w ∈ allW) (q : Q (.str (S (written w n))) σ) : Fn C A (.ref T.wrt) [.str (S w), .int (n : Nat)] σ Q := by
  obtain ⟨cd, F⟩ := T.Fwrt
  obtain ⟨w1, w2, w3, w4⟩ := allW_ok w hw
  obtain ⟨j1, j2, j3, j4⟩ := join_ok w hw
  obtain ⟨b1, b2⟩ := body_len w hw
  refine fn_go F hA (Loc.set (Loc.set (fun _ => none) "word" (.str (S w))) "number" (.int (n : Nat))) (ps := ["word", "number"]) (by walk_at "bind") (by kernel_rfl!) rfl rfl fun L A' KF hKF hA' => exs_cons ?_
  have last : ∀ {lo : Loc} {b : List Nat}, lo "text" = some (.str (S b)) → lo "number" = some (.int (n : Nat)) → b = bodyOf w n → Exs C A' ⟨envC (dfScope (st1 15)) "_law_written" cd T.wrt L, ownOf (dfScope (st1 15))⟩ ((dfBody (st1 15)).drop 1) lo σ KF := by
    intro lo b h1 h2 h3
    have hb : b.length ≤ 10 := by
      subst h3; unfold bodyOf; split
      · lia
      · simp only [List.length_append, List.length_cons, List.length_nil]; lia
    refine exs_cons ?_
    walk_at "ss"
    refine op_mod (by decide) ?_
    walk_at "ss"
    refine iteB (fun h => ?_) fun h => ?_
    · walk_at "ss"
      have h0 : (n : Int) % 3 = 0 := by simpa using h
      have h' : n % 3 = 0 := by walk_at "l"
      rw [show ("\n" : Str) = S [10] from by decide]
      refine op_adds (by simp only [S_len, List.length_append, List.length_cons, List.length_nil]; lia) ?_
      rw [S_app, h3]
      walk_at "ss"
      have e : written w n = bodyOf w n ++ [10] := by unfold written sepOf; rw [if_pos h']
      rw [e] at q
      exact q
    · walk_at "ss"
      have h' : ¬ n % 3 = 0 := fun e => by
        have : (n : Int) % 3 = 0 := by walk_at "l"
        simp [this] at h
      rw [show (" " : Str) = S [32] from by decide]
      refine op_adds (by simp only [S_len, List.length_append, List.length_cons, List.length_nil]; lia) ?_
      rw [S_app, h3]
      walk_at "ss"
      have e : written w n = bodyOf w n ++ [32] := by unfold written sepOf; rw [if_neg h']
      rw [e] at q
      exact q
  walk_at "ss"
  refine op_div (by walk_at "l") (by decide) (by decide) ?_
  walk_at "ss"
  refine op_mod (by decide) ?_
  walk_at "ss"
  refine iteB (fun h => ?_) fun h => ?_
  · have h0 : (n : Int) / 72 % 2 = 1 := by simpa using h
    have hb : bodyOf w n = w.flatMap escA := if_pos (by walk_at "l")
    walk_at "ss"
    refine ev_join ?_ (by rfl) (by rfl) (by rfl)
    walk_at "ss"
    refine ev_comp (compOk_of (by kernel_rfl!)) w.length (fun i => .str (S [w.getD i 0])) (fun _ => True) (fun i lo σ'' ys => σ'' = σ ∧ ys = (w.take i).map fun c => .str (S (escA c))) ?_ (by intro g h; cases h) ?_ ?_
    · refine walk_of ?_
      walk_at "ss"
      exact ⟨walk_S hA'.h, rfl, rfl⟩
    · rintro L' a i lo σ'' ys hi ⟨rfl, rfl⟩ _
      refine st_name (by walk_at "can") ?_
      show Inn _ _ _ _ _ _ _ _ _
      refine inn_emit rfl (by simp; lia) ?_
      walk_at "ss"
      rw [bs_S]
      refine op_adds (by simp [S_len]) ?_
      rw [S_app]
      exact ⟨⟨rfl, map_take1 (fun c => MV.str (S (escA c))) w hi⟩, trivial⟩
    · rintro l σ'' ys ⟨rfl, rfl⟩ _
      refine ⟨w.map fun c => S (escA c), congrArg some (by simp [Function.comp_def]), j1, ?_⟩
      rw [j2]
      refine then_next (exs_nil (then_next ?_))
      exact last at_same (by walk_at "lk") hb.symm
  · have hb : bodyOf w n = [34] ++ w.flatMap escQ ++ [34] := if_neg (fun e => by
      have : (n : Int) / 72 % 2 = 1 := by walk_at "l"
      simp [this] at h)
    walk_at "ss"
    refine ev_join ?_ (by rfl) (by rfl) (by rfl)
    walk_at "ss"
    refine ev_comp (compOk_of (by kernel_rfl!)) w.length (fun i => .str (S [w.getD i 0])) (fun _ => True) (fun i lo σ'' ys => σ'' = σ ∧ ys = (w.take i).map fun c => .str (S (escQ c))) ?_ (by intro g h; cases h) ?_ ?_
    · refine walk_of ?_
      walk_at "ss"
      exact ⟨walk_S hA'.h, rfl, rfl⟩
    · rintro L' a i lo σ'' ys hi ⟨rfl, rfl⟩ _
      refine st_name (by walk_at "can") ?_
      show Inn _ _ _ _ _ _ _ _ _
      refine inn_emit rfl (by simp; lia) ?_
      have h128 : w.getD i 0 < 128 := w1 _ (by rw [List.getD_eq_getElem?_getD, List.getElem?_eq_getElem hi]; exact List.getElem_mem hi)
      have step := map_take1 (fun c => MV.str (S (escQ c))) w hi
      walk_at "ss"
      rw [show ("\"\\" : Str) = S [34, 92] from by decide, esc_ok _ h128]
      refine iteB (fun h => ?_) fun h => ?_
      · walk_at "ss"
        rw [bs_S]
        refine op_adds (by simp [S_len]) ?_
        rw [S_app]
        have e : escQ (w.getD i 0) = [92] ++ [w.getD i 0] := if_pos (of_decide_eq_true h)
        rw [← e]
        exact ⟨⟨rfl, step⟩, trivial⟩
      · walk_at "ss"
        have e : escQ (w.getD i 0) = [w.getD i 0] := if_neg (of_decide_eq_false h)
        rw [← e]
        exact ⟨⟨rfl, step⟩, trivial⟩
    · rintro l σ'' ys ⟨rfl, rfl⟩ _
      refine ⟨w.map fun c => S (escQ c), congrArg some (by simp [Function.comp_def]), j3, ?_⟩
      rw [j4, show ("\"" : Str) = S [34] from by decide]
      refine op_adds (by simp only [S_len, List.length_append, List.length_cons, List.length_nil]; lia) ?_
      rw [S_app]
      walk_at "ss"
      refine op_adds (by simp only [S_len, List.length_append, List.length_cons, List.length_nil]; lia) ?_
      rw [S_app]
      refine then_next (exs_nil (then_next ?_))
      exact last at_same (by walk_at "lk") (by rw [hb])
end
section
set_option maxHeartbeats 400000

open Rotor (low1 pairsAt costAt lawPrice wordOf1 allW)
noncomputable def pairF (a b : List Nat) (sh : Int) (p : Nat) : Option (Nat × Nat) := if 0 ≤ (p : Int) + sh ∧ (p : Int) + sh < b.length then some (a.getD p 0, b.getD ((p : Int) + sh).toNat 0) else none
noncomputable def pairU (a b : List Nat) (sh : Int) (k : Nat) : List (Nat × Nat) := (List.range k).filterMap (pairF a b sh)
theorem pairU_len (a b : List Nat) (sh : Int) : pairU a b sh a.length = pairsAt a b sh := rfl
theorem pairU_yes {a b : List Nat} {sh : Int} {k : Nat} (h : 0 ≤ (k : Int) + sh ∧ (k : Int) + sh < b.length) : pairU a b sh (k + 1) = pairU a b sh k ++ [(a.getD k 0, b.getD ((k : Int) + sh).toNat 0)] := by
  unfold pairU
  rw [List.range_succ, List.filterMap_append]
  simp [pairF, h]
theorem pairU_no {a b : List Nat} {sh : Int} {k : Nat} (h : ¬ (0 ≤ (k : Int) + sh ∧ (k : Int) + sh < b.length)) : pairU a b sh (k + 1) = pairU a b sh k := by
  unfold pairU
  rw [List.range_succ, List.filterMap_append]
  simp [pairF, h]
theorem pairU_le (a b : List Nat) (sh : Int) (k : Nat) : (pairU a b sh k).length ≤ k := by
  have := List.length_filterMap_le (pairF a b sh) (List.range k)
  simpa [pairU] using this
theorem pairsAt_mem {a b : List Nat} {sh : Int} {q : Nat × Nat} (h : q ∈ pairsAt a b sh) : q.1 ∈ a ∧ q.2 ∈ b := by
  obtain ⟨p, hp, e⟩ := List.mem_filterMap.mp h
  have hp' := List.mem_range.mp hp
  split at e
  · rename_i hc
    cases e
    have h2 : ((p : Int) + sh).toNat < b.length := by walk_at "l"
    rw [List.getD_eq_getElem?_getD, List.getD_eq_getElem?_getD, List.getElem?_eq_getElem hp', List.getElem?_eq_getElem h2]
    exact ⟨List.getElem_mem hp', List.getElem_mem h2⟩
  · cases e
noncomputable def pV2 (q : Nat × Nat) : MV := .tup [.str (S [q.1]), .str (S [q.2])]
noncomputable def pc1 (q : Nat × Nat) : Int := if q.1 = q.2 then 0 else if low1 q.1 = low1 q.2 then 1 else 2
theorem low_of {w : List Nat} (hw : w ∈ allW) {c : Nat} (hc : c ∈ w) : Txt.lower (S [c]) = S [low1 c] := (allW_ok w hw).2.2.2 c hc
variable {C : Cx} {A : Around} {σ : Hp} {Q : MV → Hp → Prop}
theorem fn_price (T : Tm C) {N : Nat} (hA : Ar A (N + 1)) {a b : List Nat} (ha : a ∈ allW) (hb : b ∈ allW) (hw : Wf σ) (q : Q (.int (lawPrice a b)) σ) : Fn C A (.ref T.prc) [.str (S a), .str (S b)] σ Q := by
  obtain ⟨ℓ, hℓ⟩ := hw.new
  refine fn_pure hw.nc ?_
  suffices h : Fn C A (.ref T.prc) [.str (S a), .str (S b)] σ fun m σ₁ => m = .int (lawPrice a b) ∧ ∀ n, σ n ≠ none → σ₁ n = σ n by
    intro g s vs r hv
    refine codeAny_mono (h g s vs r hv) ?_
    rintro r s' ⟨v, g', m, σ', e, r', hv', d, rfl, hk⟩
    exact ⟨v, g', _, σ', e, r', hv', d, _, .same (.int _), hk, q⟩
  clear q
  obtain ⟨cd, F⟩ := T.Fprc
  obtain ⟨a1, a2, a3, a4⟩ := allW_ok a ha
  obtain ⟨b1, b2, b3, b4⟩ := allW_ok b hb
  have dom : ∀ (o : MO) n, σ n ≠ none → (σ.set ℓ o) n = σ n := fun row n hn => hp_other (fun e => hn (by rw [e]; exact hℓ)) rfl
  refine fn_go F hA (Loc.set (Loc.set (fun _ => none) "one" (.str (S a))) "other" (.str (S b))) (ps := ["one", "other"]) (by walk_at "bind") (by kernel_rfl!) rfl rfl fun L A' KF hKF hA' => exs_cons ?_
  walk_at "ss"
  refine ev_lstT ℓ ?_
  walk_at "ss"
  refine ⟨by decide, hℓ, ?_⟩
  walk_at "ss"
  refine ex_for1 3 (fun i => .int (-1 + i * 1)) (fun _ => True) (fun i lo σ' => A4 (lo "one" = some (.str (S a))) (lo "other" = some (.str (S b))) (lo "costs" = some (.ref ℓ)) (σ' = σ.set ℓ (.list (((List.range i).map fun k : Nat => costAt a b (-1 + k)).map .int)))) (by walk_at "can") ?_ ?_ ?_
  · refine walk_of ?_
    refine ev_callB (.ty _) (by kernel_rfl!) T.b_range.1 T.b_range.2 ?_
    walk_at "ss"
    refine cal_range2 ⟨walk_range hA'.h (by decide) (by decide), by walk_at "lk", by walk_at "lk", by walk_at "lk", rfl⟩
  · rintro i K1 hK1 lo σ' hi ⟨l1, l2, l3, rfl⟩ _
    rw [show (-1 + (i : Int) * 1) = -1 + i by walk_at "l"]
    generalize hsh : (-1 + (i : Int)) = sh
    refine exs_cons ?_
    show Ex _ _ _ (.Assign _ (.ListComp _ (_ :: _) _ _) _) _ _ _
    refine ex_comp (compOk_of (by kernel_rfl!)) a.length (fun k => .tup [.int k, .str (S [a.getD k 0])]) (fun _ => True) (fun k l σ'' ys => A4 (σ'' = σ.set ℓ (.list (((List.range i).map fun k : Nat => costAt a b (-1 + k)).map .int))) (l "shift" = some (.int sh)) (l "other" = some (.str (S b))) (ys = (pairU a b sh k).map pV2)) ?_ (by intro g h; cases h) ?_ ?_ (by walk_at "can") (by kernel_rfl!)
    · refine walk_enum (item := fun k => .str (S [a.getD k 0])) hA'.h (by kernel_rfl!) T.b_enum.1 T.b_enum.2 ?_
      walk_at "ss"
      exact ⟨⟨rfl, (if_pos (by kernel_rfl!)).trans (by walk_at "lk"), (if_pos (by kernel_rfl!)).trans (by walk_at "lk"), rfl⟩, .inr ⟨_, rfl, by simp [S], (str_item a).symm⟩⟩
    · rintro L' ad k l σ'' ys hk ⟨rfl, m1, m2, rfl⟩ _
      have hyl := pairU_le a b sh k
      refine st_tup2 hA'.h (by walk_at "can") (by walk_at "can") ?_
      show Tr _ _ _ _ _ _ _
      refine tr_chain ?_
      walk_at "ss"
      refine op_le ⟨_, rfl, ?_⟩
      refine iteB (fun h => ?_) fun h => ?_
      · have h0 := of_decide_eq_true h
        refine ev_callB (.bi _) (by kernel_rfl!) T.b_len.1 T.b_len.2 ?_
        walk_at "ss"
        refine cal_lenS (by walk_at "l") ?_
        walk_at "ss"
        refine iteB (fun h => ?_) fun h => ?_
        · have h1 := of_decide_eq_true h
          rw [pairU_yes ⟨h0, h1⟩]
          show Inn _ _ _ _ _ _ _ _ _
          refine inn_emit rfl (by simp; lia) ?_
          walk_at "ss"
          have hlt : ((k : Int) + sh).toNat < b.length := by walk_at "l"
          rw [show (k : Int) + sh = ((((k : Int) + sh).toNat : Nat) : Int) by walk_at "l"]
          refine gi_S (by walk_at "l") (List.getElem?_eq_getElem hlt) ?_
          walk_at "ss"
          refine ⟨by show 2 ≤ _; decide, ?_⟩
          rw [show ((((k : Int) + sh).toNat : Nat) : Int).toNat = ((k : Int) + sh).toNat by walk_at "l"]
          refine ⟨⟨rfl, by walk_at "lk", by walk_at "lk", ?_⟩, trivial⟩
          rw [List.map_append]
          simp [pV2, List.getD, hlt]
        · have h1 : ¬ (0 ≤ (k : Int) + sh ∧ (k : Int) + sh < b.length) := fun e => of_decide_eq_false h e.2
          exact ⟨⟨rfl, by walk_at "lk", by walk_at "lk", by rw [pairU_no h1]⟩, trivial⟩
      · have h1 : ¬ (0 ≤ (k : Int) + sh ∧ (k : Int) + sh < b.length) := fun e => of_decide_eq_false h e.1
        exact ⟨⟨rfl, by walk_at "lk", by walk_at "lk", by rw [pairU_no h1]⟩, trivial⟩
    rintro l σ'' ys ⟨rfl, _, _, rfl⟩ _
    rw [pairU_len]
    have hpl : (pairsAt a b sh).length ≤ 2 := by have := pairU_le a b sh a.length; rw [pairU_len] at this; lia
    have hmem : ∀ q ∈ pairsAt a b sh, q.1 ∈ a ∧ q.2 ∈ b := fun q hq => pairsAt_mem hq
    have hcost : costAt a b sh = 2 * ((a.length : Int) + b.length) - 4 * ((pairsAt a b sh).length : Int) + ((pairsAt a b sh).map pc1).sum := rfl
    generalize pairsAt a b sh = ps at *
    walk_at "ss"
    refine ev_callB (.bi _) (by kernel_rfl!) T.b_len.1 T.b_len.2 ?_
    walk_at "ss"
    refine cal_lenS (by walk_at "l") ?_
    refine ev_callB (.bi _) (by kernel_rfl!) T.b_len.1 T.b_len.2 ?_
    walk_at "ss"
    refine cal_lenS (by walk_at "l") ?_
    walk_at "ss"
    refine op_mulB (by walk_at "l") ?_
    walk_at "ss"
    refine ev_callB (.bi _) (by kernel_rfl!) T.b_len.1 T.b_len.2 ?_
    walk_at "ss"
    refine cal_lenl (l := ps.map pV2) rfl (by simp; lia) ?_
    rw [List.length_map]
    refine op_mulB (by walk_at "l") ?_
    walk_at "ss"
    refine ex_for2 ps.length (fun k => .str (S [(ps.getD k (0, 0)).1])) (fun k => .str (S [(ps.getD k (0, 0)).2])) (fun σ' => lstOf σ' (.lst (ps.map pV2)) = some (ps.map pV2)) (fun k lo σ' => A5 (lo "one" = some (.str (S a))) (lo "other" = some (.str (S b))) (lo "costs" = some (.ref ℓ)) (σ' = σ.set ℓ (.list (((List.range i).map fun k : Nat => costAt a b (-1 + k)).map .int))) (lo "cost" = some (.int (2 * ((a.length : Int) + b.length) - 4 * (ps.length : Int) + ((ps.take k).map pc1).sum)))) hA'.h (by walk_at "can") (by walk_at "can") ?_ ?_ ?_
    · refine walk_of ?_
      walk_at "ss"
      refine ⟨walk_listC (l := ps.map pV2) hA'.h rfl (by simp) (fun k hk => ?_), by walk_at "lk", by walk_at "lk", by walk_at "lk", rfl, ?_⟩
      · rw [List.getElem?_map, List.getElem?_eq_getElem hk]
        simp [pV2, List.getD, hk]
      · rw [List.take_zero, List.map_nil, List.sum_nil, Int.add_zero]
        walk_at "lk"
    · rintro k K2 hK2 lo σ' hk ⟨l1, l2, l3, rfl, l5⟩ hJ
      obtain ⟨m1, m2⟩ := hmem _ (List.getElem_mem hk)
      have ek : ps.getD k (0, 0) = ps[k] := by simp [List.getD, hk]
      have es : (ps.take (k + 1)).map pc1 = (ps.take k).map pc1 ++ [pc1 ps[k]] := by rw [List.take_add_one, List.getElem?_eq_getElem hk, List.map_append]; rfl
      rw [ek]
      generalize ps[k] = pq at *
      obtain ⟨x, y⟩ := pq
      simp only at m1 m2
      have e0 : pc1 (x, y) = if x = y then 0 else if low1 x = low1 y then 1 else 2 := rfl
      walk_at "ss"
      refine op_nes ?_
      refine ⟨_, rfl, ?_⟩
      refine iteB (fun h => ?_) fun h => ?_
      · have hne : x ≠ y := fun e => by rw [e] at h; simp at h
        rw [if_neg hne] at e0
        walk_at "ss"
        refine ev_lower ?_
        walk_at "nm"
        refine ⟨_, rfl, low_ok x (a1 x m1), ?_⟩
        refine ev_lower ?_
        walk_at "nm"
        refine ⟨_, rfl, low_ok y (b1 y m2), ?_⟩
        rw [low_of ha m1, low_of hb m2]
        walk_at "ss"
        refine iteB (fun h => ?_) fun h => ?_
        · have h' : low1 x = low1 y := by simpa [S_inj] using h
          walk_at "ss"
          refine ⟨⟨by walk_at "lk", by walk_at "lk", by walk_at "lk", rfl, ?_⟩, hJ⟩
          rw [es, List.sum_append, e0, if_pos h']
          refine at_eq (congrArg MV.int ?_)
          simp only [List.sum_cons, List.sum_nil]; lia
        · have h' : ¬ low1 x = low1 y := by simpa [S_inj] using h
          walk_at "ss"
          refine ⟨⟨by walk_at "lk", by walk_at "lk", by walk_at "lk", rfl, ?_⟩, hJ⟩
          rw [es, List.sum_append, e0, if_neg h']
          refine at_eq (congrArg MV.int ?_)
          simp only [List.sum_cons, List.sum_nil]; lia
      · have hne : x = y := by
          have : decide (S [x] = S [y]) = true := by simpa using h
          simpa [S_inj] using this
        rw [if_pos hne] at e0
        walk_at "ss"
        refine ⟨⟨by walk_at "lk", by walk_at "lk", by walk_at "lk", rfl, ?_⟩, hJ⟩
        rw [es, List.sum_append, e0]
        simp only [List.sum_cons, List.sum_nil, Int.add_zero]
        walk_at "lk"
    · rintro lo σ' ⟨l1, l2, l3, rfl, l5⟩ _
      rw [List.take_length, ← hcost] at l5
      walk_at "ss"
      refine ev_append ?_
      walk_at "ss"
      refine ⟨ℓ, _, rfl, hp_same, ?_⟩
      walk_at "ss"
      refine ⟨_, hp_same, by simp; lia, ?_⟩
      rw [set_set]
      walk_at "ss"
      refine ⟨⟨by walk_at "lk", by walk_at "lk", by walk_at "lk", ?_⟩, trivial⟩
      rw [List.range_succ, ← hsh]
      simp
  · rintro lo σ' ⟨l1, l2, l3, rfl⟩ _
    walk_at "ss"
    refine ev_callB (.bi _) (by kernel_rfl!) T.b_min.1 T.b_min.2 ?_
    walk_at "ss"
    refine cal_minG (l := ((List.range 3).map fun k : Nat => costAt a b (-1 + k)).map .int) (fun i j => decide ((((List.range 3).map fun k : Nat => costAt a b (-1 + k))).getD i 0 < (((List.range 3).map fun k : Nat => costAt a b (-1 + k))).getD j 0)) hA'.h (by simp) (lst_ref hp_same) (fun i j x y hx hy => ?_) (fun x hx => ?_)
    · rw [List.getElem?_map] at hx hy
      obtain ⟨x', hx', rfl⟩ := Option.map_eq_some_iff.mp hx
      obtain ⟨y', hy', rfl⟩ := Option.map_eq_some_iff.mp hy
      rw [List.getD_eq_getElem?_getD, List.getD_eq_getElem?_getD, hx', hy']
      exact ltIn_int
    · have e3 : ((List.range 3).map fun k : Nat => costAt a b (-1 + k)) = [costAt a b (-1), costAt a b 0, costAt a b 1] := rfl
      rw [e3] at hx
      have hx' : x = .int (lawPrice a b) := by
        unfold lawPrice
        generalize costAt a b (-1) = c0 at *
        generalize costAt a b 0 = c1 at *
        generalize costAt a b 1 = c2 at *
        simp only [List.length_map, List.length_cons, List.length_nil, argBest, List.getD_cons_zero, List.getD_cons_succ] at hx
        by_cases h1 : c1 < c0
        · by_cases h2 : c2 < c1
          · simp [h1, h2] at hx; rw [← hx]; congr 1; lia
          · simp [h1, h2] at hx; rw [← hx]; congr 1; lia
        · by_cases h2 : c2 < c0
          · simp [h1, h2] at hx; rw [← hx]; congr 1; lia
          · simp [h1, h2] at hx; rw [← hx]; congr 1; lia
      subst hx'
      walk_at "ss"
      exact ⟨rfl, dom _⟩
end
section
open Rotor (wordOf1 allW)
structure DrOk (d : List Nat) : Prop where
  len : d.length = 4
  lt : ∀ x ∈ d, x < 288
noncomputable def meantOf (d : List Nat) : List (List Nat) := [97, 35] :: d.map wordOf1
noncomputable def numsOf (d : List Nat) : List Nat := d.sum :: d
noncomputable def flatW (ps : List (List Nat × Nat)) : List Nat := ps.flatMap fun p => written p.1 p.2
noncomputable def textOf (d : List Nat) : List Nat := flatW ((meantOf d).zip (numsOf d))
noncomputable def toS (l : List (List Nat)) : List Str := l.map S
noncomputable def nI (l : List Nat) : List Int := l.map fun n : Nat => (n : Int)
theorem lexW_bare {c : Nat} (hc : isWs c = true) (r : List Nat) : ∀ (w tok : List Nat), lexW tok (w.flatMap escA ++ c :: r) = (tok ++ w, r)
  | [], tok => by rw [List.append_nil]; exact lexW_end hc
  | x :: w, tok => by
    show lexW tok (92 :: x :: (w.flatMap escA ++ c :: r)) = _
    rw [lexW_esc]
    show lexW (tok ++ [x]) (w.flatMap escA ++ c :: r) = _
    rw [lexW_bare hc r w (tok ++ [x])]
    simp
theorem lexQ_quoted (r : List Nat) : ∀ (w tok : List Nat), lexQ tok (w.flatMap escQ ++ 34 :: r) = (tok ++ w, r)
  | [], tok => by rw [List.append_nil]; exact lexQ_end tok r
  | x :: w, tok => by
    rw [List.flatMap_cons, List.append_assoc]
    unfold escQ
    by_cases hx : x = 34 ∨ x = 92
    · rw [if_pos hx]
      show lexQ tok (92 :: x :: (w.flatMap escQ ++ 34 :: r)) = _
      rw [lexQ_esc]
      show lexQ (tok ++ [x]) (w.flatMap escQ ++ 34 :: r) = _
      rw [lexQ_quoted r w (tok ++ [x])]
      simp
    · rw [if_neg hx]
      show lexQ tok (x :: (w.flatMap escQ ++ 34 :: r)) = _
      rw [lexQ_c (fun e => hx (.inl e)) (fun e => hx (.inr e)), lexQ_quoted r w (tok ++ [x])]
      simp
theorem sep_ws (n : Nat) : isWs (sepOf n) = true := by unfold sepOf; split <;> rfl
theorem lexT_written {w : List Nat} (hw : w ≠ []) (n : Nat) (r : List Nat) : lexT (written w n ++ r) = (w, if n / 72 % 2 = 1 then r else sepOf n :: r) := by
  unfold written bodyOf
  by_cases h : n / 72 % 2 = 1
  · rw [if_pos h, if_pos h]
    cases w with
    | nil => exact absurd rfl hw
    | cons x w =>
      rw [List.append_assoc]
      show lexT (92 :: x :: (w.flatMap escA ++ sepOf n :: r)) = _
      rw [lexT_esc]
      show lexW [x] (w.flatMap escA ++ sepOf n :: r) = _
      rw [lexW_bare (sep_ws n)]
      rfl
  · rw [if_neg h, if_neg h]
    simp only [List.append_assoc, List.cons_append, List.nil_append]
    rw [lexT_q, lexQ_quoted]
    rfl
noncomputable def RdTo (l : List Nat) (p : Nat) (ws : List (List Nat)) (e : Nat) : Prop := match ws with
  | [] => p = e
  | w :: ws => ∃ r, lexT (l.drop p) = (w, r) ∧ RdTo l (l.length - r.length) ws e
theorem rdTo_cons {l : List Nat} {p : Nat} {w : List Nat} {ws : List (List Nat)} {e : Nat} (h : RdTo l p (w :: ws) e) : ∃ r, lexT (l.drop p) = (w, r) ∧ RdTo l (l.length - r.length) ws e := h
theorem drop_suffix {l a r : List Nat} (h : l = a ++ r) : l.drop (l.length - r.length) = r := by
  subst h
  rw [List.length_append, Nat.add_sub_cancel]
  exact List.drop_left
theorem rdTo_flat {l : List Nat} : ∀ (ps : List (List Nat × Nat)) (p : Nat), (∀ q ∈ ps, q.1 ≠ []) → (l.drop p = flatW ps ∨ ∃ c, isWs c = true ∧ l.drop p = c :: flatW ps) → RdTo l p (ps.map (·.1) ++ [[]]) l.length
  | [], p, _, h => by
    have e : lexT (l.drop p) = ([], []) := by
      rcases h with h | ⟨c, hc, h⟩
      · rw [h]; rfl
      · rw [h, lexT_ws hc]; rfl
    exact ⟨[], e, by simp [RdTo]⟩
  | (w, n) :: ps, p, hw, h => by
    have e : lexT (l.drop p) = (w, if n / 72 % 2 = 1 then flatW ps else sepOf n :: flatW ps) := by
      rw [← lexT_written (hw _ (.head _)) n (flatW ps)]
      rcases h with h | ⟨c, hc, h⟩
      · rw [h]; rfl
      · rw [h, lexT_ws hc]; rfl
    have hs : ∃ a, l = a ++ flatW ((w, n) :: ps) := by
      rcases h with h | ⟨c, hc, h⟩
      · exact ⟨l.take p, by rw [← h, List.take_append_drop]⟩
      · exact ⟨l.take p ++ [c], by rw [List.append_assoc, List.singleton_append, ← h, List.take_append_drop]⟩
    obtain ⟨a, ha⟩ := hs
    refine ⟨_, e, ?_⟩
    refine rdTo_flat ps _ (fun q hq => hw q (.tail _ hq)) ?_
    by_cases hn : n / 72 % 2 = 1
    · rw [if_pos hn]
      exact .inl (drop_suffix (a := a ++ written w n) (by rw [ha]; simp [flatW]))
    · rw [if_neg hn]
      exact .inr ⟨sepOf n, sep_ws n, drop_suffix (a := a ++ bodyOf w n) (by rw [ha]; simp [flatW, written])⟩
theorem meant_in {d : List Nat} (hd : DrOk d) : ∀ w ∈ meantOf d, w ∈ allW := by
  intro w hw
  rcases List.mem_cons.mp hw with rfl | hw
  · decide
  · obtain ⟨x, hx, rfl⟩ := List.mem_map.mp hw
    exact (wordOf1_in x (hd.lt x hx)).1
theorem meant_len {d : List Nat} (hd : DrOk d) : (meantOf d).length = 5 := by simp [meantOf, hd.len]
theorem nums_len {d : List Nat} (hd : DrOk d) : (numsOf d).length = 5 := by simp [numsOf, hd.len]
theorem rdTo_text {d : List Nat} (hd : DrOk d) : RdTo (textOf d) 0 (meantOf d ++ [[]]) (textOf d).length := by
  have h := rdTo_flat (l := textOf d) ((meantOf d).zip (numsOf d)) 0 (fun q hq => (allW_ok _ (meant_in hd _ (List.of_mem_zip hq).1)).2.2.1) (.inl rfl)
  rw [List.map_fst_zip (by rw [meant_len hd, nums_len hd]; exact Nat.le_refl _)] at h
  exact h
theorem written_ok {w : List Nat} (hw : w ∈ allW) (n : Nat) : (written w n).length ≤ 7 ∧ ∀ c ∈ written w n, c < 128 := by
  obtain ⟨h1, h2, h3, h4⟩ := allW_ok w hw
  obtain ⟨b1, b2⟩ := body_len w hw
  have eA : ∀ c ∈ w.flatMap escA, c < 128 := fun c hc => by
    obtain ⟨x, hx, hc⟩ := List.mem_flatMap.mp hc
    have := h1 x hx
    simp [escA] at hc
    lia
  have eQ : ∀ c ∈ w.flatMap escQ, c < 128 := fun c hc => by
    obtain ⟨x, hx, hc⟩ := List.mem_flatMap.mp hc
    have := h1 x hx
    unfold escQ at hc
    split at hc
    · simp at hc; lia
    · simp at hc; lia
  have hs : sepOf n < 128 := by unfold sepOf; split <;> decide
  unfold written bodyOf
  split
  · refine ⟨by rw [List.length_append]; simp only [List.length_cons, List.length_nil]; lia, fun c hc => ?_⟩
    rcases List.mem_append.mp hc with hc | hc
    · exact eA c hc
    · rw [List.mem_singleton.mp hc]; exact hs
  · refine ⟨by simp only [List.length_append, List.length_cons, List.length_nil]; lia, fun c hc => ?_⟩
    simp only [List.mem_append, List.mem_singleton] at hc
    rcases hc with ((rfl | hc) | rfl) | rfl
    · decide
    · exact eQ c hc
    · decide
    · exact hs
theorem flat_ok : ∀ (ps : List (List Nat × Nat)), (∀ q ∈ ps, q.1 ∈ allW) → (flatW ps).length ≤ 7 * ps.length ∧ ∀ c ∈ flatW ps, c < 128
  | [], _ => ⟨Nat.zero_le _, fun c h => nomatch h⟩
  | (w, n) :: ps, h => by
    obtain ⟨h1, h2⟩ := flat_ok ps fun q hq => h q (.tail _ hq)
    obtain ⟨g1, g2⟩ := written_ok (h _ (.head _)) n
    refine ⟨?_, fun c hc => ?_⟩
    · show (written w n ++ flatW ps).length ≤ _
      rw [List.length_append, List.length_cons]; simp only at g1; lia
    · rcases List.mem_append.mp (show c ∈ written w n ++ flatW ps from hc) with hc | hc
      · exact g2 c hc
      · exact h2 c hc
theorem text_ok {d : List Nat} (hd : DrOk d) : (textOf d).length ≤ 35 ∧ ∀ c ∈ textOf d, c < 128 := by
  have h := flat_ok ((meantOf d).zip (numsOf d)) fun q hq => meant_in hd _ (List.of_mem_zip hq).1
  rw [List.length_zip, meant_len hd, nums_len hd] at h
  exact h
theorem join_S : ∀ ls : List (List Nat), Txt.join "" (ls.map S) = S ls.flatten
  | [] => by decide
  | [x] => by
    show S x = _
    simp
  | x :: y :: r => by
    have ih := join_S (y :: r)
    have e : Txt.join "" ((x :: y :: r).map S) = S x ++ ("" : Str) ++ Txt.join "" ((y :: r).map S) := by
      show Builtin.Str.glued "" _ = _ ++ _ ++ Builtin.Str.glued "" _
      rw [StrLaws.glued_eq_join, StrLaws.glued_eq_join]
      rfl
    rw [e, ih, show ("" : Str) = S [] from by decide, S_app, S_app]
    simp
end
section
set_option maxHeartbeats 400000

open Rotor (wordOf1 allW)
noncomputable abbrev lawB : List Stmt := dfBody (st1 17)
noncomputable abbrev fmL (cd : Value) (f L : Addr) : Fm := ⟨envC (dfScope (st1 17)) "law" cd f L, ownOf (dfScope (st1 17))⟩
noncomputable abbrev hp0 : Hp := fun _ => none
theorem hp0_wf : Wf hp0 := ⟨⟨0, fun _ _ => rfl⟩, fun _ _ _ _ h => nomatch h⟩
theorem cutL_map {α β : Type} (f : α → β) (l : List α) (lo hi st : Option Int) : cutL (l.map f) lo hi st = (cutL l lo hi st).map f := by
  unfold cutL
  rw [List.length_map]
  induction slIdx lo hi st l.length with
  | nil => rfl
  | cons i is ih =>
    rw [List.filterMap_cons, List.filterMap_cons, List.getElem?_map, ih]
    cases l[i]? <;> rfl
theorem cutL_len {α : Type} (l : List α) (a : Nat) : (cutL l (some (a : Int)) (some 10) (some 4)).length ≤ l.length + 4 := by
  unfold cutL
  refine Nat.le_trans (List.length_filterMap_le _ _) ?_
  unfold slIdx sliceRange
  rw [List.length_map, List.length_range]
  have e : sliceBounds (some (a : Int)) (some 10) (some 4) l.length = (max 0 (min (if (a : Int) < 0 then (a : Int) + l.length else a) l.length), max 0 (min (if (10 : Int) < 0 then (10 : Int) + l.length else 10) l.length), 4) := rfl
  rw [e]
  simp only
  have h1 : 0 ≤ max 0 (min (if (a : Int) < 0 then (a : Int) + l.length else a) l.length) := Int.le_max_left _ _
  have h2 : max 0 (min (if (10 : Int) < 0 then (10 : Int) + l.length else 10) l.length) ≤ l.length := Int.max_le.mpr ⟨Int.natCast_nonneg _, Int.min_le_right _ _⟩
  generalize max 0 (min (if (a : Int) < 0 then (a : Int) + l.length else a) (l.length : Int)) = x at *
  generalize max 0 (min (if (10 : Int) < 0 then (10 : Int) + l.length else 10) (l.length : Int)) = y at *
  rw [if_pos (by decide)]
  split <;> lia
variable {C : Cx} {A : Around} {σ : Hp} {Q : MV → Hp → Prop} {QS : Fl → Loc → Hp → Prop}
theorem ex_draws (T : Tm C) {N : Nat} {A' : Around} (hA' : Ar A' N) {cd : Value} {f L : Addr} {lo : Loc} {ns : List Int} {sc : Addr} (hsc : StL C sc ns) (hlen : ns.length ≤ 500) (h1 : lo "script" = some (.val (.ref sc)))
    (q : ∀ d, DrOk d → QS .next (lo.set "draws" (.lst ((nI d).map .int))) σ) : Ex C A' (fmL cd f L) (nth lawB 0) lo σ QS := by
  show Ex _ _ _ (.Assign _ (.ListComp _ (_ :: _) _ _) _) _ _ _
  refine ex_comp (compOk_of (by kernel_rfl!)) 4 (fun k => .tup [.int k, .int ([72, 197, 220, 27].getD k 0 : Nat)]) (fun _ => True) (fun k l σ' ys => A3 (σ' = σ) (l "script" = some (.val (.ref sc))) (∃ d : List Nat, d.length = k ∧ (∀ x ∈ d, x < 288) ∧ ys = (nI d).map .int)) ?_ (by intro g h; cases h) ?_ ?_ (by walk_at "can") (by kernel_rfl!)
  · refine WalkE.congr (walk_enum (item := fun k => ([.int 72, .int 197, .int 220, .int 27] : List MV).getD k .none) hA'.h (by kernel_rfl!) T.b_enum.1 T.b_enum.2 ?_) fun k hk => ?_
    · refine ev_lst ?_
      walk_at "ss"
      exact ⟨by show 4 ≤ _; decide, ⟨rfl, (if_pos (by kernel_rfl!)).trans h1, [], rfl, (fun x h => nomatch h), rfl⟩, .inl ⟨_, rfl, rfl, rfl⟩⟩
    · cases k, hk using lt4 with
      | h0 => rfl
      | h1 => rfl
      | h2 => rfl
      | h3 => rfl
  · rintro L' a k l σ' ys hk ⟨rfl, m1, d, d1, d2, rfl⟩ _
    refine st_tup2 hA'.h (by walk_at "can") (by walk_at "can") ?_
    show Inn _ _ _ _ _ _ _ _ _
    refine inn_emit rfl (by simp [nI, d1]; lia) ?_
    walk_at "ss"
    refine ev_callB (.bi _) (by kernel_rfl!) T.b_sum.1 T.b_sum.2 ?_
    refine evl_cons ?_
    have hcl := cutL_len ns k
    have hcm := cutL_map MV.int ns (some (k : Int)) (some 10) (some 4)
    generalize cutL ns (some (k : Int)) (some 10) (some 4) = xs at *
    refine ev_comp (compOk_of (by kernel_rfl!)) xs.length (fun j => .int (xs.getD j 0)) (fun σ' => lstOf σ' (.lst (xs.map .int)) = some (xs.map .int)) (fun j l σ2 ys => σ2 = σ' ∧ ys = ((xs.take j).map fun x => x % 288).map .int) ?_ (by intro g h; cases h) ?_ ?_
    · refine walk_of ?_
      walk_at "ss"
      refine slc_stat hsc (by walk_at "l") (by decide) ?_
      rw [hcm]
      exact ⟨walk_listC hA'.h rfl (by simp) (fun j hj => by rw [List.getElem?_map, List.getElem?_eq_getElem hj]; simp [List.getD, hj]), rfl, rfl⟩
    · rintro L2 a2 j l2 σ2 ys2 hj ⟨rfl, rfl⟩ hJ
      refine st_name (by walk_at "can") ?_
      show Inn _ _ _ _ _ _ _ _ _
      refine inn_emit rfl (by simp; lia) ?_
      walk_at "ss"
      refine op_mod (by decide) ?_
      refine ⟨⟨rfl, ?_⟩, hJ⟩
      have e : xs.take (j + 1) = xs.take j ++ [xs[j]] := by rw [List.take_add_one, List.getElem?_eq_getElem hj]; rfl
      rw [e, List.map_append, List.map_append, show xs.getD j 0 = xs[j] by simp [List.getD, hj]]
      rfl
    rintro l2 σ2 ys2 ⟨rfl, rfl⟩ _
    rw [List.take_length]
    walk_at "ss"
    refine cal_sumB (ns := xs.map fun x => x % 288) hA'.h rfl (fun y hy => ?_) (by simp; lia) ?_
    · obtain ⟨x, _, rfl⟩ := List.mem_map.mp hy
      lia
    generalize (xs.map fun x => x % 288).sum = s0
    walk_at "ss"
    refine op_mod (by decide) ?_
    generalize hv : ((([72, 197, 220, 27].getD k 0 : Nat) : Int) + s0) % 288 = v
    refine ⟨⟨rfl, by walk_at "lk", d ++ [v.toNat], by simp [d1], fun x hx => ?_, ?_⟩, trivial⟩
    · rcases List.mem_append.mp hx with hx | hx
      · exact d2 x hx
      · rw [List.mem_singleton.mp hx]; lia
    · have : ((v.toNat : Nat) : Int) = v := by walk_at "l"
      simp [nI, this]
  · rintro l σ' ys ⟨rfl, _, d, d1, d2, rfl⟩ _
    exact q d ⟨d1, d2⟩
theorem take_1 {α : Type} {l : List α} {k : Nat} (h : k < l.length) : l.take (k + 1) = l.take k ++ [l[k]] := by rw [List.take_add_one, List.getElem?_eq_getElem h]; rfl
theorem ex_a1 (T : Tm C) {N : Nat} {A' : Around} (hA' : Ar A' (N + 5)) {cd : Value} {f L : Addr} {lo : Loc} {d : List Nat} (hd : DrOk d) (h1 : lo "draws" = some (.lst ((nI d).map .int)))
    (q : ∀ lo', lo' "numbers" = some (.lst ((nI (numsOf d)).map .int)) → lo' "meant" = some (.lst ((toS (meantOf d)).map .str)) → lo' "text" = some (.str (S (textOf d))) → lo' "lexer" = some (.ref 0) → Exs C A' (fmL cd f L) (lawB.drop 5) lo' (lexH ((hp0.set 0 (.inst T.lex 1)).set 3 (.list [])) 1 2 (textOf d) (.ref 3) 0) QS) :
    Exs C A' (fmL cd f L) (lawB.drop 1) lo hp0 QS := by
  obtain ⟨cw, Fw⟩ := id T.Fwrd
  obtain ⟨ct, Ft⟩ := id T.Fwrt
  obtain ⟨cr, Fr, _, _⟩ := id T.Crdr
  have hdl := hd.len
  refine exs_cons ?_
  walk_at "s"
  refine ev_binop (ev_lst ?_)
  refine evl_cons ?_
  refine ev_callB (.bi _) (by kernel_rfl!) T.b_sum.1 T.b_sum.2 ?_
  walk_at "ss"
  refine cal_sumB (ns := nI d) hA'.h rfl (fun y hy => ?_) (by simp [nI]; lia) ?_
  · obtain ⟨x, hx, rfl⟩ := List.mem_map.mp hy
    have := hd.lt x hx
    lia
  walk_at "ss"
  refine ⟨by show 1 ≤ _; decide, ?_⟩
  walk_at "ss"
  refine op_addl (l := [.int (nI d).sum]) (m := (nI d).map .int) rfl rfl (by simp [nI]; lia) ?_
  have hsum : (nI d).sum = ((d.sum : Nat) : Int) := by
    clear h1 q hdl hd
    induction d with
    | nil => rfl
    | cons x d ih => show (x : Int) + (nI d).sum = _; rw [ih, List.sum_cons]; lia
  rw [hsum]
  show Then _ _ _ _ _ _ (lo.set "numbers" (.lst ((nI (numsOf d)).map .int))) _
  walk_at "s"
  walk_at "s"
  walk_at "s"
  refine ev_binop (ev_lst ?_)
  walk_at "ss"
  refine ⟨by show 1 ≤ _; decide, ?_⟩
  show Ev _ _ _ (.ListComp _ (_ :: _) _ _) _ _ _
  refine ev_comp (compOk_of (by kernel_rfl!)) 4 (fun k => .int (d.getD k 0 : Nat)) (fun σ' => lstOf σ' (.lst ((nI d).map .int)) = some ((nI d).map .int)) (fun k l σ' ys => σ' = hp0 ∧ ys = (toS ((d.map wordOf1).take k)).map .str) ?_ (by intro g h; cases h) ?_ ?_
  · refine walk_of ?_
    walk_at "ss"
    exact ⟨walk_listC hA'.h rfl (by simp [nI, hdl]) (fun k hk => by simp [nI, List.getD, show k < d.length by walk_at "l"]), rfl, rfl⟩
  · rintro L' a k l σ' ys hk ⟨rfl, rfl⟩ hJ
    have hk' : k < (d.map wordOf1).length := by simp; lia
    refine st_name (by walk_at "can") ?_
    show Inn _ _ _ _ _ _ _ _ _
    refine inn_emit rfl (by simp [toS]; lia) ?_
    refine ev_callF Fw (by kernel_rfl!) T.g_wrd ?_
    walk_at "ss"
    have ek : d.getD k 0 = d[k]'(by walk_at "l") := by simp [List.getD, show k < d.length by walk_at "l"]
    have hx := hd.lt _ (List.getElem_mem (by walk_at "l" : k < d.length))
    refine fn_word T (N := N) (hA'.le (by walk_at "l")) (by rw [ek]; lia) ?_
    refine ⟨⟨rfl, ?_⟩, hJ⟩
    rw [take_1 hk', ek]
    simp [toS]
  rintro l σ' ys ⟨rfl, rfl⟩ _
  rw [show (d.map wordOf1).take 4 = d.map wordOf1 from List.take_of_length_le (by simp; lia)]
  refine op_addl (l := [.str "a#"]) (m := (toS (d.map wordOf1)).map .str) rfl rfl (by simp [toS]; lia) ?_
  have hm : [MV.str "a#"] ++ (toS (d.map wordOf1)).map .str = (toS (meantOf d)).map .str := by
    rw [show ("a#" : Str) = S [97, 35] from by decide]; rfl
  rw [hm]
  have hml := meant_len hd
  have hnl := nums_len hd
  walk_at "s"
  walk_at "s"
  walk_at "s"
  refine ev_join ?_ (by rfl) (by rfl) (by rfl)
  walk_at "ss"
  refine ev_comp (compOk_of (by kernel_rfl!)) 5 (fun k => .tup [((toS (meantOf d)).map MV.str).getD k .none, ((nI (numsOf d)).map MV.int).getD k .none]) (fun _ => True) (fun k l σ' ys => σ' = hp0 ∧ ys = (((((meantOf d).zip (numsOf d)).map fun p => written p.1 p.2).take k).map S).map .str) ?_ (by intro g h; cases h) ?_ ?_
  · refine walk_zip hA'.h (by kernel_rfl!) T.b_zip.1 T.b_zip.2 (by simp [toS, hml]) (by simp [nI, hnl]) ?_
    walk_at "ss"
    exact ⟨rfl, rfl, rfl⟩
  · rintro L' a k l σ' ys hk ⟨rfl, rfl⟩ hJ
    have k1 : k < (meantOf d).length := by walk_at "l"
    have k2 : k < (numsOf d).length := by walk_at "l"
    have e1 : ((toS (meantOf d)).map MV.str).getD k .none = .str (S (meantOf d)[k]) := by simp [toS, List.getD, k1]
    have e2 : ((nI (numsOf d)).map MV.int).getD k .none = .int ((numsOf d)[k] : Nat) := by simp [nI, List.getD, k2]
    have k3 : k < (((meantOf d).zip (numsOf d)).map fun p => written p.1 p.2).length := by simp; lia
    have e3 : (((meantOf d).zip (numsOf d)).map fun p => written p.1 p.2)[k] = written (meantOf d)[k] (numsOf d)[k] := by simp
    rw [e1, e2]
    refine st_tup2 hA'.h (by walk_at "can") (by walk_at "can") ?_
    show Inn _ _ _ _ _ _ _ _ _
    refine inn_emit rfl (by simp; lia) ?_
    refine ev_callF Ft (by kernel_rfl!) T.g_wrt ?_
    walk_at "ss"
    have hs : ∀ y ∈ numsOf d, y < 100000 := by
      have h5 : d.sum ≤ 288 * d.length := by
        have : ∀ l : List Nat, (∀ x ∈ l, x < 288) → l.sum ≤ 288 * l.length := by
          intro l
          induction l with
          | nil => intro _; simp
          | cons x l ih => intro h; have h1 := h x (.head _); have h2 := ih fun y hy => h y (.tail _ hy); simp only [List.sum_cons, List.length_cons]; lia
        exact this d hd.lt
      intro y hy
      rcases List.mem_cons.mp hy with rfl | hy
      · lia
      · have := hd.lt y hy; lia
    refine fn_written T (N := N) (hA'.le (by walk_at "l")) (hs _ (List.getElem_mem k2)) (meant_in hd _ (List.getElem_mem k1)) ?_
    refine ⟨⟨rfl, ?_⟩, hJ⟩
    rw [take_1 k3, e3]
    simp
  rintro l σ' ys ⟨rfl, rfl⟩ _
  rw [List.take_of_length_le (by simp; lia)]
  generalize hls : ((meantOf d).zip (numsOf d)).map (fun p => written p.1 p.2) = ls
  have hfl : ls.flatten = textOf d := by rw [← hls]; rfl
  refine ⟨ls.map S, rfl, joinOk_of_weight ?_ (by decide), ?_⟩
  · have hll : ls.length ≤ 5 := by rw [← hls]; simp; lia
    have hw : ∀ x ∈ ls, x.length ≤ 7 := by
      rw [← hls]
      intro x hx
      obtain ⟨p, hp, rfl⟩ := List.mem_map.mp hx
      exact (written_ok (meant_in hd _ (List.of_mem_zip hp).1) _).1
    have : ((ls.map S).map (·.length)).sum ≤ 7 * ls.length := by
      clear hls hfl hll
      induction ls with
      | nil => simp
      | cons x l ih => have h1 := hw x (.head _); have h2 := ih fun y hy => hw y (.tail _ hy); simp only [List.map_cons, List.sum_cons, List.length_cons, S_len]; lia
    rw [List.length_map]; lia
  rw [join_S, hfl]
  walk_at "ss"
  refine ev_callF Fr (by kernel_rfl!) T.g_rdr ?_
  walk_at "ss"
  refine fn_rdr T (N := N + 1) (hA'.le (by walk_at "l")) (i := 0) (d := 1) (n := 2) (b := 3) rfl rfl rfl rfl (by decide) (by decide) (by decide) (by decide) (by decide) (by decide) ?_
  refine then_next ?_
  exact q _ (by walk_at "lk") (by walk_at "lk") (by walk_at "lk") (by walk_at "lk")
end
section
set_option maxHeartbeats 400000

open Rotor (wordOf1 allW)
variable {C : Cx} {A : Around} {σ : Hp} {Q : MV → Hp → Prop} {QS : Fl → Loc → Hp → Prop}
theorem pl_strs (n : Nat) (l : List Str) : ∀ m ∈ l.map MV.str, Pl n m := fun m hm => by
  obtain ⟨x, _, rfl⟩ := List.mem_map.mp hm
  exact .str n x
theorem count_filter (l : List Nat) : ((l.filter (· == 10)).length : Int) = ((l.count 10 : Nat) : Int) := by
  rw [List.count_eq_length_filter]
theorem ex_a2 (T : Tm C) {N : Nat} {A' : Around} (hA' : Ar A' (N + 5)) {cd : Value} {f L : Addr} {lo : Loc} {d : List Nat} (hd : DrOk d) (h1 : lo "numbers" = some (.lst ((nI (numsOf d)).map .int))) (h2 : lo "meant" = some (.lst ((toS (meantOf d)).map .str))) (h3 : lo "text" = some (.str (S (textOf d)))) (h4 : lo "lexer" = some (.ref 0))
    (q : ∀ lo' σ', lo' "numbers" = some (.lst ((nI (numsOf d)).map .int)) → lo' "meant" = some (.lst ((toS (meantOf d)).map .str)) → (∀ m, 4 ≤ m → σ' m = none) → Wf σ' → Exs C A' (fmL cd f L) (lawB.drop 7) lo' σ' QS) :
    Exs C A' (fmL cd f L) (lawB.drop 5) lo (lexH ((hp0.set 0 (.inst T.lex 1)).set 3 (.list [])) 1 2 (textOf d) (.ref 3) 0) QS := by
  obtain ⟨cg, Fg⟩ := id T.FG
  obtain ⟨o, fd, hK, hdd, _⟩ := Fg.ex
  have hml := meant_len hd
  obtain ⟨tl, t128⟩ := text_ok hd
  have hrd := rdTo_text hd
  generalize textOf d = tx at *
  have hw0 : Wf ((hp0.set 0 (.inst T.lex 1)).set 3 (.list [])) := (hp0_wf.setI _ _ _).setL _ _
  have hi0 : ((hp0.set 0 (.inst T.lex 1)).set 3 (.list [])) 0 = some (.inst T.lex 1) := rfl
  have hb0 : ((hp0.set 0 (.inst T.lex 1)).set 3 (.list [])) 3 = some (.list []) := rfl
  have hfr : ∀ m, 4 ≤ m → ((hp0.set 0 (.inst T.lex 1)).set 3 (.list [])) m = none := fun m hm => hp_other (by walk_at "l") (hp_other (by walk_at "l") rfl)
  generalize ((hp0.set 0 (.inst T.lex 1)).set 3 (.list [])) = σA at *
  have hws : (meantOf d ++ [[]]).length = 6 := by simp [hml]
  generalize hwl : meantOf d ++ [[]] = wl at *
  refine exs_cons ?_
  show Ex _ _ _ (.Assign _ (.ListComp _ (_ :: _) _ _) _) _ _ _
  refine ex_comp (compOk_of (by kernel_rfl!)) 6 (fun k => .int (0 + k * 1)) (fun _ => True) (fun k l σ' ys => ∃ p, A5 (p ≤ tx.length) (RdTo tx p (wl.drop k) tx.length) (σ' = lexH σA 1 2 tx (.ref 3) p) (l "lexer" = some (.ref 0)) (ys = (toS (wl.take k)).map .str)) ?_ (by intro g h; cases h) ?_ ?_ (by walk_at "can") (by kernel_rfl!)
  · refine walk_of ?_
    refine ev_callB (.ty _) (by kernel_rfl!) T.b_range.1 T.b_range.2 ?_
    walk_at "ss"
    exact cal_range1 ⟨walk_range hA'.h (by decide) (by decide), 0, Nat.zero_le _, hrd, rfl, (if_pos (by kernel_rfl!)).trans h4, rfl⟩
  · rintro L' a k l σ' ys hk ⟨p, hp, hr, rfl, l1, rfl⟩ _
    refine st_name (by walk_at "can") ?_
    show Inn _ _ _ _ _ _ _ _ _
    refine inn_emit rfl (by simp [toS]; lia) ?_
    have hk' : k < wl.length := by walk_at "l"
    rw [List.drop_eq_getElem_cons hk'] at hr
    obtain ⟨r, hlx, hr'⟩ := rdTo_cons hr
    refine ev_methF ?_ (by rfl) (by rfl) (by rfl) (by decide)
    walk_at "ss"
    refine ⟨0, 1, T.lex, _, T.fG, rfl, T.klex, (lexH_o (by decide) (by decide)).trans hi0, lexH_d, rfl, T.lG, T.tG, .fn hK hdd, ?_⟩
    walk_at "ss"
    refine cal_fn ?_
    refine fn_gt T (N := N + 2) (hA'.le (by walk_at "l")) hi0 (by decide) (by decide) (by decide) hp (by walk_at "l") hw0 (lst_ref ((lexH_o (by decide) (by decide)).trans hb0)) (fun S h => .ref (h 3 (by rw [hb0]; simp))) t128 hlx ?_
    refine ⟨⟨tx.length - r.length, Nat.sub_le .., hr', rfl, by walk_at "lk", ?_⟩, trivial⟩
    rw [take_1 hk']
    simp only [toS, List.map_append, List.map_cons, List.map_nil]
  rintro l σ' ys ⟨p, hp, hr, rfl, l1, rfl⟩ _
  rw [List.drop_eq_nil_of_le (by walk_at "l")] at hr
  obtain rfl : p = tx.length := hr
  rw [List.take_of_length_le (by walk_at "l")]
  have hi1 : (lexH σA 1 2 tx (.ref 3) tx.length) 0 = some (.inst T.lex 1) := (lexH_o (by decide) (by decide)).trans hi0
  have hd1 : (lexH σA 1 2 tx (.ref 3) tx.length) 1 = some (lexO tx 2 (.ref 3) tx.length) := lexH_d
  have hf1 : ∀ m, 4 ≤ m → (lexH σA 1 2 tx (.ref 3) tx.length) m = none := fun m hm => (lexH_o (by walk_at "l") (by walk_at "l")).trans (hfr m hm)
  have hw1 : Wf (lexH σA 1 2 tx (.ref 3) tx.length) := hw0.lexH ..
  generalize lexH σA 1 2 tx (.ref 3) tx.length = σ1 at *
  refine then_next (exs_cons ?_)
  refine ex_if (TrT.val false ?_ ?_)
  · refine tr_or (or_cons ?_)
    refine tr_cmp ?_
    walk_at "ss"
    refine ev_lst ?_
    walk_at "ss"
    refine ⟨by show 1 ≤ _; decide, ?_⟩
    refine op_addl (l := (toS (meantOf d)).map .str) (m := [.str ""]) rfl rfl (by simp [toS, hml]) ?_
    have hm : (toS (meantOf d)).map MV.str ++ [.str ""] = (toS wl).map .str := by
      rw [← hwl, show ("" : Str) = S [] from by decide]; simp [toS]
    rw [hm]
    refine op_neL (n := 0) (by have := hA'.cl; lia) rfl rfl (pl_strs 0 _) ⟨_, rfl, ?_⟩
    rw [if_neg (by decide)]
    refine or_cons ?_
    refine tr_cmp ?_
    refine ev_attr ?_
    walk_at "ss"
    refine att_inst T.klex hi1 hd1 (v := .int (1 + ((tx.take tx.length).count 10 : Nat))) rfl rfl T.n1 ?_
    walk_at "ss"
    refine ev_callB (.bi _) (by kernel_rfl!) T.b_len.1 T.b_len.2 ?_
    refine evl_cons ?_
    refine ev_comp (compOk_of (by kernel_rfl!)) tx.length (fun i => .str (S [tx.getD i 0])) (fun _ => True) (fun i lo σ'' ys => σ'' = σ1 ∧ ys = ((tx.take i).filter (· == 10)).map fun c => .str (S [c])) ?_ (by intro g h; cases h) ?_ ?_
    · refine walk_of ?_
      walk_at "ss"
      exact ⟨walk_S hA'.h, rfl, rfl⟩
    · rintro L' a i lo' σ'' ys hi ⟨rfl, rfl⟩ _
      have ei : tx.getD i 0 = tx[i] := by simp [List.getD, hi]
      rw [take_1 hi, List.filter_append, ei]
      generalize tx[i] = c
      refine st_name (by walk_at "can") ?_
      show Tr _ _ _ _ _ _ _
      have hfl : ((tx.take i).filter (· == 10)).length ≤ 35 := Nat.le_trans (List.length_filter_le _ _) (by rw [List.length_take]; lia)
      walk_at "ss"
      rw [show ("\n" : Str) = S [10] from by decide]
      refine iteB (fun h => ?_) fun h => ?_
      · have e : c = 10 := by simpa [S_inj] using h
        subst e
        show Inn _ _ _ _ _ _ _ _ _
        refine inn_emit rfl (by rw [List.length_map]; lia) ?_
        walk_at "ss"
        exact ⟨⟨rfl, by simp⟩, trivial⟩
      · have e : ¬ c = 10 := by simpa [S_inj] using h
        exact ⟨⟨rfl, by simp [e]⟩, trivial⟩
    rintro l2 σ'' ys ⟨rfl, rfl⟩ _
    rw [List.take_length]
    have hfl : (tx.filter (· == 10)).length ≤ 35 := Nat.le_trans (List.length_filter_le _ _) (by walk_at "l")
    walk_at "ss"
    refine cal_lenl rfl (by rw [List.length_map]; lia) ?_
    rw [List.length_map, count_filter]
    walk_at "ss"
    exact iteB (fun h => by simp at h) fun _ => or_nil ⟨rfl, rfl⟩
  rw [if_neg (by decide)]
  refine exs_nil (then_next ?_)
  exact q _ _ (by walk_at "lk") (by walk_at "lk") hf1 hw1
end
section
open Rotor (wordOf1 allW lawPrice)
noncomputable def addW (acc : List (List Nat)) (w : List Nat) : List (List Nat) := if w ∈ acc then acc else acc ++ [w]
noncomputable def dedW (l : List (List Nat)) : List (List Nat) := l.foldl addW []
theorem dedW_snoc (l : List (List Nat)) (w : List Nat) : dedW (l ++ [w]) = addW (dedW l) w := by unfold dedW; rw [List.foldl_append]; rfl
theorem addW_facts {P : List Nat → Prop} : ∀ (l acc : List (List Nat)), acc.Nodup → (∀ w ∈ acc, P w) → (∀ w ∈ l, P w) →
    (l.foldl addW acc).Nodup ∧ (∀ w ∈ l.foldl addW acc, P w) ∧ (l.foldl addW acc).length ≤ acc.length + l.length ∧ (∃ t, l.foldl addW acc = acc ++ t) ∧ ∀ w ∈ l, w ∈ l.foldl addW acc
  | [], acc, h1, h2, _ => ⟨h1, h2, Nat.le_refl _, ⟨[], by simp⟩, fun w h => nomatch h⟩
  | x :: l, acc, h1, h2, h3 => by
    have key : (addW acc x).Nodup ∧ (∀ w ∈ addW acc x, P w) ∧ (addW acc x).length ≤ acc.length + 1 ∧ (∃ t, addW acc x = acc ++ t) ∧ x ∈ addW acc x := by
      unfold addW
      split
      · exact ⟨h1, h2, Nat.le_succ _, ⟨[], by simp⟩, ‹_›⟩
      · refine ⟨List.nodup_append.mpr ⟨h1, by simp, fun a ha b hb => ?_⟩, fun w hw => ?_, by simp, ⟨[x], rfl⟩, by simp⟩
        · rw [List.mem_singleton.mp hb]; exact fun e => ‹x ∉ acc› (e ▸ ha)
        · rcases List.mem_append.mp hw with hw | hw
          · exact h2 w hw
          · rw [List.mem_singleton.mp hw]; exact h3 x (.head _)
    obtain ⟨k1, k2, k3, ⟨t, k4⟩, k5⟩ := key
    obtain ⟨i1, i2, i3, ⟨t', i4⟩, i5⟩ := addW_facts l (addW acc x) k1 k2 fun w hw => h3 w (.tail _ hw)
    refine ⟨i1, i2, by simp only [List.foldl_cons, List.length_cons]; lia, ⟨t ++ t', by rw [List.foldl_cons, i4, k4, List.append_assoc]⟩, fun w hw => ?_⟩
    rcases List.mem_cons.mp hw with rfl | hw
    · rw [List.foldl_cons, i4]; exact List.mem_append_left _ k5
    · exact i5 w hw
structure WOk (W : List (List Nat)) : Prop where
  nd : W.Nodup
  mem : ∀ w ∈ W, w ∈ allW
  h0 : W[0]? = some [97, 35]
  two : 2 ≤ W.length
  five : W.length ≤ 5
theorem wOk_of {d : List Nat} (hd : DrOk d) : WOk (dedW (meantOf d)) ∧ ∀ w ∈ dedW (meantOf d), w ∈ meantOf d := by
  obtain ⟨i1, i2, i3, i4, i5⟩ := addW_facts (P := fun w => w ∈ allW ∧ w ∈ meantOf d) (meantOf d) [] .nil (fun w h => nomatch h) fun w hw => ⟨meant_in hd w hw, hw⟩
  have hl := meant_len hd
  have e0 : dedW (meantOf d) = (d.map wordOf1).foldl addW [[97, 35]] := rfl
  obtain ⟨j1, j2, j3, ⟨t, j4⟩, j5⟩ := addW_facts (P := fun w => w ∈ allW) (d.map wordOf1) [[97, 35]] (by simp) (fun w h => by rw [List.mem_singleton.mp h]; decide) fun w hw => meant_in hd w (.tail _ hw)
  have h5 : (dedW (meantOf d)).length ≤ 0 + 5 := by rw [← hl]; exact i3
  rw [Nat.zero_add] at h5
  refine ⟨⟨i1, fun w hw => (i2 w hw).1, by rw [e0, j4]; rfl, ?_, h5⟩, fun w hw => (i2 w hw).2⟩
  obtain ⟨x, d', rfl⟩ : ∃ x d', d = x :: d' := by
    cases d with
    | nil => exact absurd hd.len (by decide)
    | cons x d' => exact ⟨x, d', rfl⟩
  have hx := (wordOf1_in x (hd.lt x (.head _))).2
  have hm := j5 (wordOf1 x) (.head _)
  rw [e0]
  rw [j4] at hm ⊢
  cases t with
  | nil => simp at hm; exact absurd hm hx
  | cons a t => simp
noncomputable def wd (W : List (List Nat)) (i : Nat) : List Nat := W.getD i []
theorem wd_at {W : List (List Nat)} {i : Nat} (h : i < W.length) : W[i]? = some (wd W i) := by unfold wd; rw [List.getD_eq_getElem?_getD, List.getElem?_eq_getElem h]; rfl
theorem wd_mem {W : List (List Nat)} {i : Nat} (h : i < W.length) : wd W i ∈ W := List.mem_of_getElem? (wd_at h)
theorem wd_inj {W : List (List Nat)} (O : WOk W) {i j : Nat} (hi : i < W.length) (hj : j < W.length) (e : wd W i = wd W j) : i = j := by
  have a := wd_at hi
  have b := wd_at hj
  rw [← e] at b
  exact (List.getElem?_inj hi O.nd).mp (a.trans b.symm)
theorem wd_zero {W : List (List Nat)} (O : WOk W) : wd W 0 = [97, 35] := by
  have := O.h0
  rw [wd_at (by have := O.two; lia)] at this
  exact Option.some.inj this
noncomputable def tb (W : List (List Nat)) (i j : Nat) : Int := if i = j then 0 else if j < i then lawPrice (wd W i) (wd W j) else lawPrice (wd W j) (wd W i)
theorem tb_symm (W : List (List Nat)) (i j : Nat) : tb W i j = tb W j i := by
  unfold tb
  by_cases h : i = j
  · rw [if_pos h, if_pos h.symm]
  · rw [if_neg h, if_neg (Ne.symm h)]
    by_cases h1 : j < i
    · rw [if_pos h1, if_neg (by walk_at "l")]
    · rw [if_neg h1, if_pos (by walk_at "l")]
theorem price_le : ∀ a ∈ allW, ∀ b ∈ allW, 0 ≤ lawPrice a b ∧ lawPrice a b ≤ 100 := by decide +kernel
theorem tb_le {W : List (List Nat)} (O : WOk W) {i j : Nat} (hi : i < W.length) (hj : j < W.length) : 0 ≤ tb W i j ∧ tb W i j ≤ 100 := by
  unfold tb
  split
  · decide
  · split
    · exact price_le _ (O.mem _ (wd_mem hi)) _ (O.mem _ (wd_mem hj))
    · exact price_le _ (O.mem _ (wd_mem hj)) _ (O.mem _ (wd_mem hi))
inductive Hang (W : List (List Nat)) (R : Int) : Nat → Prop
  | zero : Hang W R 0
  | step {u v : Nat} : Hang W R u → v < W.length → u ≠ v → tb W u v ≤ R → Hang W R v
theorem Hang.mono {W : List (List Nat)} {R R' : Int} (h : R ≤ R') {v : Nat} (x : Hang W R v) : Hang W R' v := by
  induction x with
  | zero => exact .zero
  | step _ h1 h2 h3 ih => exact ih.step h1 h2 (Int.le_trans h3 h)
noncomputable def nearOf (W : List (List Nat)) (R : Int) (i : Nat) : List Nat := (List.range W.length).filter fun j => decide (j ≠ i) && decide (tb W i j ≤ R)
theorem near_mem {W : List (List Nat)} {R : Int} {i j : Nat} : j ∈ nearOf W R i ↔ j < W.length ∧ j ≠ i ∧ tb W i j ≤ R := by
  unfold nearOf
  rw [List.mem_filter, List.mem_range]
  simp
theorem near_nd (W : List (List Nat)) (R : Int) (i : Nat) : (nearOf W R i).Nodup := List.nodup_range.sublist List.filter_sublist
theorem near_len (W : List (List Nat)) (R : Int) (i : Nat) : (nearOf W R i).length ≤ W.length := by
  unfold nearOf
  exact Nat.le_trans (List.length_filter_le _ _) (by simp)
end
section
set_option maxHeartbeats 400000

open Rotor (wordOf1 allW lawPrice)
structure NM (d : List Nat) (lo : Loc) : Prop where
  n : lo "numbers" = some (.lst ((nI (numsOf d)).map .int))
  m : lo "meant" = some (.lst ((toS (meantOf d)).map .str))
theorem any_S (acc : List (List Nat)) (w : List Nat) : (toS acc).any (· == S w) = decide (w ∈ acc) := by
  induction acc with
  | nil => rfl
  | cons x acc ih =>
    show (S x == S w || (toS acc).any _) = _
    rw [ih]
    by_cases e : x = w
    · subst e; simp
    · have : (S x == S w) = false := by simpa [S_inj] using e
      rw [this]; simp [Ne.symm e]
noncomputable def TabIs (σ : Hp) (n : Nat) (t : Nat → Nat → Int) : Prop := ∀ a, a < n → σ (5 + a) = some (.list ((List.range n).map fun b => .int (t a b)))
theorem row_set {n : Nat} (f : Nat → Int) {j : Nat} (v : Int) : ((List.range n).map fun b => MV.int (f b)).set j (.int v) = (List.range n).map fun b => .int (if b = j then v else f b) := by
  apply List.ext_getElem?
  intro i
  rw [List.getElem?_set, List.getElem?_map, List.getElem?_map]
  by_cases hi : i < n
  · rw [List.getElem?_range hi]
    by_cases e : j = i
    · subst e; simp [hi]
    · simp [e, Ne.symm e]
  · have : (List.range n)[i]? = none := by simp; lia
    rw [this]
    by_cases e : j = i
    · subst e; simp [hi]
    · simp [e]
theorem row_at {n : Nat} (f : Nat → Int) {j : Nat} (h : j < n) : ((List.range n).map fun b => MV.int (f b))[(j : Int).toNat]? = some (.int (f j)) := by simp [h]
theorem TabIs.upd {σ : Hp} {n : Nat} {t : Nat → Nat → Int} (h : TabIs σ n t) (i j : Nat) (v : Int) : TabIs (σ.set (5 + i) (.list (((List.range n).map fun b => MV.int (t i b)).set j (.int v)))) n (fun a b => if a = i ∧ b = j then v else t a b) := by
  intro a ha
  by_cases e : a = i
  · subst e
    rw [row_set]
    refine hp_same.trans ?_
    simp
  · refine (hp_other (by walk_at "l") (h a ha)).trans ?_
    simp [e]
structure SB (W : List (List Nat)) (σ : Hp) : Prop where
  w : σ 4 = some (.list ((toS W).map .str))
  t : TabIs σ W.length (tb W)
  wf : Wf σ
structure LB (d : List Nat) (W : List (List Nat)) (lo : Loc) : Prop where
  nm : NM d lo
  words : lo "words" = some (.ref 4)
  places : lo "places" = some (.rng 0 (W.length : Nat) 1)
  table : lo "table" = some (.lst ((List.range W.length).map fun i => .ref (5 + i)))
variable {C : Cx} {A : Around} {σ : Hp} {Q : MV → Hp → Prop} {QS : Fl → Loc → Hp → Prop}
theorem walk_places {tg : Expr} {n : Nat} (hh : A.handled = none) (hn : n < 1000000) : Walk C A tg (.rng 0 (n : Nat) 1) σ n (fun i => .int (i : Nat)) (fun _ => True) := by
  have := walk_range (C := C) (A := A) (tg := tg) (σ := σ) (a := 0) (b := (n : Nat)) (c := 1) (n := n) hh (smallR (by walk_at "l") (by walk_at "l") (by walk_at "l")) (by simp only [Builtin.Range.rangeSize]; split <;> (try split) <;> lia)
  exact this.congr fun i _ => by rw [Int.mul_one, Int.zero_add]
theorem ex_b1 (T : Tm C) {N : Nat} {A' : Around} (hA' : Ar A' (N + 5)) {cd : Value} {f L : Addr} {lo : Loc} {d : List Nat} (hd : DrOk d) (h : NM d lo) (hfr : ∀ m, 4 ≤ m → σ m = none) (hw : Wf σ)
    (q : ∀ lo' σ', NM d lo' → lo' "words" = some (.ref 4) → lo' "places" = some (.rng 0 ((dedW (meantOf d)).length : Nat) 1) → σ' 4 = some (.list ((toS (dedW (meantOf d))).map .str)) → (∀ m, 5 ≤ m → σ' m = none) → Wf σ' → Exs C A' (fmL cd f L) (lawB.drop 10) lo' σ' QS) :
    Exs C A' (fmL cd f L) (lawB.drop 7) lo σ QS := by
  have hml := meant_len hd
  obtain ⟨hW, _⟩ := wOk_of hd
  obtain ⟨h1, h2⟩ := h
  refine exs_cons ?_
  walk_at "s"
  refine ev_lstT 4 ?_
  walk_at "ss"
  refine ⟨by decide, hfr 4 (by walk_at "l"), ?_⟩
  refine then_next (exs_cons ?_)
  have hle : ∀ k, (dedW ((meantOf d).take k)).length ≤ 5 := fun k => by
    have := (addW_facts (P := fun _ => True) ((meantOf d).take k) [] .nil (fun w h => nomatch h) fun _ _ => trivial).2.2.1
    rw [List.length_take] at this
    show (List.foldl addW [] _).length ≤ 5
    simp at this; lia
  refine ex_for1 5 (fun k => .str (S (wd (meantOf d) k))) (fun σ' => lstOf σ' (.lst ((toS (meantOf d)).map .str)) = some ((toS (meantOf d)).map .str)) (fun k lo σ' => A3 (NM d lo) (lo "words" = some (.ref 4)) (σ' = σ.set 4 (.list ((toS (dedW ((meantOf d).take k))).map .str)))) (by walk_at "can") ?_ ?_ ?_
  · refine walk_of ?_
    walk_at "ss"
    exact ⟨walk_listC hA'.h rfl (by simp [toS, hml]) (fun k hk => by rw [List.getElem?_map, toS, List.getElem?_map, wd_at (by walk_at "l")]; rfl), ⟨by walk_at "lk", by walk_at "lk"⟩, by walk_at "lk", rfl⟩
  · rintro k K1 hK1 lo σ' hk ⟨⟨m1, m2⟩, m3, rfl⟩ hJ
    have hk' : k < (meantOf d).length := by walk_at "l"
    have ek : (meantOf d)[k] = wd (meantOf d) k := by have := wd_at hk'; rw [List.getElem?_eq_getElem hk'] at this; exact Option.some.inj this
    have es : dedW ((meantOf d).take (k + 1)) = addW (dedW ((meantOf d).take k)) (wd (meantOf d) k) := by rw [take_1 hk', dedW_snoc, ek]
    have hl := hle k
    generalize dedW ((meantOf d).take k) = acc at *
    generalize wd (meantOf d) k = w at *
    walk_at "ss"
    refine op_nint (ts := toS acc) (lst_ref hp_same) ?_
    rw [any_S]
    refine ⟨_, rfl, ?_⟩
    refine iteB (fun h => ?_) fun h => ?_
    · have e : ¬ w ∈ acc := by simpa using h
      walk_at "ss"
      refine ev_append ?_
      walk_at "ss"
      refine ⟨4, _, rfl, hp_same, ?_⟩
      walk_at "nm"
      refine ⟨_, hp_same, by simp [toS]; lia, ?_⟩
      rw [set_set]
      walk_at "ss"
      refine ⟨⟨⟨by walk_at "lk", by walk_at "lk"⟩, by walk_at "lk", ?_⟩, hJ⟩
      rw [es, addW, if_neg e]
      simp only [toS, List.map_append, List.map_cons, List.map_nil]
    · have e : w ∈ acc := by simpa using h
      walk_at "ss"
      refine ⟨⟨⟨by walk_at "lk", by walk_at "lk"⟩, by walk_at "lk", ?_⟩, hJ⟩
      rw [es, addW, if_pos e]
  · rintro lo σ' ⟨⟨m1, m2⟩, m3, rfl⟩ _
    rw [List.take_of_length_le (by walk_at "l")]
    have h5 := hW.five
    generalize dedW (meantOf d) = W at *
    refine exs_nil (then_next (exs_cons ?_))
    walk_at "s"
    refine ev_callB (.ty _) (by kernel_rfl!) T.b_range.1 T.b_range.2 ?_
    refine evl_cons ?_
    refine ev_callB (.bi _) (by kernel_rfl!) T.b_len.1 T.b_len.2 ?_
    walk_at "ss"
    refine cal_lenl (l := (toS W).map .str) (lst_ref hp_same) (by simp [toS]; lia) ?_
    rw [show (((toS W).map MV.str).length : Int) = (W.length : Nat) by simp [toS]]
    walk_at "ss"
    refine cal_range1 (then_next ?_)
    exact q _ _ ⟨by walk_at "lk", by walk_at "lk"⟩ (by walk_at "lk") (by walk_at "lk") hp_same (fun m hm => hp_other (by walk_at "l") (hfr m (by walk_at "l"))) (hw.setL _ _)
theorem ex_b2 (T : Tm C) {N : Nat} {A' : Around} (hA' : Ar A' (N + 5)) {cd : Value} {f L : Addr} {lo : Loc} {d : List Nat} {W : List (List Nat)} (hW : WOk W) (h : NM d lo) (h3 : lo "words" = some (.ref 4)) (h4 : lo "places" = some (.rng 0 (W.length : Nat) 1)) (hs : σ 4 = some (.list ((toS W).map .str))) (hfr : ∀ m, 5 ≤ m → σ m = none) (hw : Wf σ)
    (q : ∀ lo' σ', LB d W lo' → σ' 4 = some (.list ((toS W).map .str)) → TabIs σ' W.length (fun _ _ => 0) → (∀ m, 10 ≤ m → σ' m = none) → Wf σ' → Exs C A' (fmL cd f L) (lawB.drop 11) lo' σ' QS) :
    Exs C A' (fmL cd f L) (lawB.drop 10) lo σ QS := by
  have h5 := hW.five
  obtain ⟨h1, h2⟩ := h
  generalize hn : W.length = n at *
  refine exs_cons ?_
  show Ex _ _ _ (.Assign _ (.ListComp _ (_ :: _) _ _) _) _ _ _
  refine ex_assign ?_ (by walk_at "can") (by kernel_rfl!)
  refine ev_comp (compOk_of (by kernel_rfl!)) n (fun i => .int (i : Nat)) (fun _ => True) (fun i l σ' ys => A5 (l "places" = some (.rng 0 (n : Nat) 1)) (∀ k, k < i → σ' (5 + k) = some (.list ((List.range n).map fun _ => .int 0))) (∀ m, m < 5 ∨ 5 + i ≤ m → σ' m = σ m) (Wf σ') (ys = (List.range i).map fun k => .ref (5 + k))) ?_ (by intro g h; cases h) ?_ ?_
  · refine walk_of ?_
    walk_at "ss"
    exact ⟨walk_places hA'.h (by walk_at "l"), (if_pos (by kernel_rfl!)).trans h4, (fun k hk => absurd hk (Nat.not_lt_zero k)), (fun _ _ => rfl), hw, rfl⟩
  · rintro L' a i l σ' ys hi ⟨l1, l2, l3, l4, rfl⟩ _
    refine st_name (by walk_at "can") ?_
    show Inn _ _ _ _ _ _ _ _ _
    refine inn_emit rfl (by simp; lia) ?_
    show Ev _ _ _ (.ListComp _ (_ :: _) _ _) _ _ _
    refine ev_compT (5 + i) (compOk_of (by kernel_rfl!)) n (fun i => .int (i : Nat)) (fun _ => True) (fun j l2 σ2 ys2 => σ2 = σ' ∧ ys2 = (List.range j).map fun _ => .int 0) ?_ (by intro g h; cases h) ?_ ?_
    · refine walk_of ?_
      walk_at "ss"
      exact ⟨walk_places hA'.h (by walk_at "l"), rfl, rfl⟩
    · rintro L2 a2 j l2 σ2 ys2 hj ⟨rfl, rfl⟩ _
      refine st_name (by walk_at "can") ?_
      show Inn _ _ _ _ _ _ _ _ _
      refine inn_emit rfl (by simp; lia) ?_
      walk_at "ss"
      exact ⟨⟨rfl, by rw [List.range_succ, List.map_append]; rfl⟩, trivial⟩
    · rintro l2 σ2 ys2 ⟨rfl, rfl⟩ _
      refine ⟨(l3 _ (.inr (Nat.le_refl _))).trans (hfr _ (by walk_at "l")), ⟨by walk_at "lk", fun k hk => ?_, fun m hm => (hp_other (by walk_at "l") rfl).trans (l3 m (by walk_at "l")), l4.setL _ _, by rw [List.range_succ, List.map_append]; rfl⟩, trivial⟩
      by_cases e : k = i
      · subst e; exact hp_same
      · exact hp_other (by walk_at "l") (l2 k (by walk_at "l"))
  · rintro l σ' ys ⟨l1, l2, l3, l4, rfl⟩ _
    refine then_next ?_
    refine q _ _ ⟨⟨by walk_at "lk", by walk_at "lk"⟩, by walk_at "lk", ?_, ?_⟩ ((l3 4 (.inl (by decide))).trans hs) l2 (fun m hm => (l3 m (.inr (by walk_at "l"))).trans (hfr m (by walk_at "l"))) l4
    · rw [hn]; walk_at "lk"
    · rw [hn]; walk_at "lk"
end
section
set_option maxHeartbeats 400000

open Rotor (wordOf1 allW lawPrice price_ok)
variable {C : Cx} {A : Around} {σ : Hp} {Q : MV → Hp → Prop} {QS : Fl → Loc → Hp → Prop}
theorem toS_at {W : List (List Nat)} {i : Nat} (h : i < W.length) : ((toS W).map MV.str)[(i : Int).toNat]? = some (.str (S (wd W i))) := by
  rw [Int.toNat_natCast, List.getElem?_map, toS, List.getElem?_map, wd_at h]; rfl
theorem ref_at {n i k : Nat} (h : i < n) : ((List.range n).map fun i => MV.ref (k + i))[(i : Int).toNat]? = some (.ref (k + i)) := by simp [h]
noncomputable def fillT (W : List (List Nat)) (i j a b : Nat) : Int := if (a < i ∧ b < i) ∨ (a = i ∧ b < j) ∨ (b = i ∧ a < j) then tb W a b else 0
theorem TabIs.congr {σ : Hp} {n : Nat} {t t' : Nat → Nat → Int} (h : TabIs σ n t) (e : ∀ a b, a < n → b < n → t a b = t' a b) : TabIs σ n t' := fun a ha => by
  rw [h a ha]
  congr 2
  exact List.map_congr_left fun b hb => by rw [e a b ha (List.mem_range.mp hb)]
theorem fl_step {i j a b : Nat} : ((a < i ∧ b < i) ∨ (a = i ∧ b < j + 1) ∨ (b = i ∧ a < j + 1)) ↔ (((a < i ∧ b < i) ∨ (a = i ∧ b < j) ∨ (b = i ∧ a < j)) ∨ (a = i ∧ b = j) ∨ (a = j ∧ b = i)) := by
  constructor
  · rintro (h | ⟨h, h2⟩ | ⟨h, h2⟩)
    · exact .inl (.inl h)
    · rcases Nat.lt_succ_iff_lt_or_eq.mp h2 with q | q
      · exact .inl (.inr (.inl ⟨h, q⟩))
      · exact .inr (.inl ⟨h, q⟩)
    · rcases Nat.lt_succ_iff_lt_or_eq.mp h2 with q | q
      · exact .inl (.inr (.inr ⟨h, q⟩))
      · exact .inr (.inr ⟨q, h⟩)
  · rintro ((h | ⟨h, h2⟩ | ⟨h, h2⟩) | ⟨h, h2⟩ | ⟨h, h2⟩)
    · exact .inl h
    · exact .inr (.inl ⟨h, Nat.lt_succ_of_lt h2⟩)
    · exact .inr (.inr ⟨h, Nat.lt_succ_of_lt h2⟩)
    · exact .inr (.inl ⟨h, Nat.lt_succ_of_le (Nat.le_of_eq h2)⟩)
    · exact .inr (.inr ⟨h2, Nat.lt_succ_of_le (Nat.le_of_eq h)⟩)
theorem fl_row {i a b : Nat} : ((a < i + 1 ∧ b < i + 1) ∨ (a = i + 1 ∧ b < 0) ∨ (b = i + 1 ∧ a < 0)) ↔ (((a < i ∧ b < i) ∨ (a = i ∧ b < i) ∨ (b = i ∧ a < i)) ∨ (a = i ∧ b = i)) := by
  constructor
  · rintro (⟨h, h2⟩ | ⟨_, h⟩ | ⟨_, h⟩)
    · rcases Nat.lt_succ_iff_lt_or_eq.mp h with q | q
      · rcases Nat.lt_succ_iff_lt_or_eq.mp h2 with r | r
        · exact .inl (.inl ⟨q, r⟩)
        · exact .inl (.inr (.inr ⟨r, q⟩))
      · rcases Nat.lt_succ_iff_lt_or_eq.mp h2 with r | r
        · exact .inl (.inr (.inl ⟨q, r⟩))
        · exact .inr ⟨q, r⟩
    · cases h
    · cases h
  · rintro ((⟨h, h2⟩ | ⟨h, h2⟩ | ⟨h, h2⟩) | ⟨h, h2⟩)
    · exact .inl ⟨Nat.lt_succ_of_lt h, Nat.lt_succ_of_lt h2⟩
    · exact .inl ⟨Nat.lt_succ_of_le (Nat.le_of_eq h), Nat.lt_succ_of_lt h2⟩
    · exact .inl ⟨Nat.lt_succ_of_lt h2, Nat.lt_succ_of_le (Nat.le_of_eq h)⟩
    · exact .inl ⟨Nat.lt_succ_of_le (Nat.le_of_eq h), Nat.lt_succ_of_le (Nat.le_of_eq h2)⟩
structure SC (W : List (List Nat)) (i j : Nat) (σ : Hp) : Prop where
  w : σ 4 = some (.list ((toS W).map .str))
  t : TabIs σ W.length (fillT W i j)
  wf : Wf σ
  fr : ∀ m, 10 ≤ m → σ m = none
theorem LB.lk {d : List Nat} {W : List (List Nat)} {lo : Loc} (h : LB d W lo) {y : Str} (hy : ([("words" : Str), "places", "table", "numbers", "meant"].all (fun x => !(x == y))) = true) (v : MV) : LB d W (lo.set y v) := by
  simp only [List.all_cons, List.all_nil, Bool.and_true, Bool.and_eq_true, Bool.not_eq_true'] at hy
  obtain ⟨a, b, c, e, g⟩ := hy
  exact ⟨⟨at_other e h.nm.n, at_other g h.nm.m⟩, at_other a h.words, at_other b h.places, at_other c h.table⟩
theorem ex_b3 (T : Tm C) {N : Nat} {A' : Around} (hA' : Ar A' (N + 5)) {cd : Value} {f L : Addr} {lo : Loc} {d : List Nat} {W : List (List Nat)} (hW : WOk W) (h : LB d W lo) (hs : σ 4 = some (.list ((toS W).map .str))) (ht : TabIs σ W.length (fun _ _ => 0)) (hfr : ∀ m, 10 ≤ m → σ m = none) (hw : Wf σ)
    (q : ∀ lo' σ', LB d W lo' → SB W σ' → (∀ m, 10 ≤ m → σ' m = none) → QS .next lo' σ') : Ex C A' (fmL cd f L) (nth lawB 11) lo σ QS := by
  obtain ⟨cl, Fl⟩ := id T.Flev
  obtain ⟨cp, Fp⟩ := id T.Fprc
  have h5 := hW.five
  show Ex C A' _ (.For (.Name _ _) _ _ _ _) _ _ _
  refine ex_for1 W.length (fun i => .int (i : Nat)) (fun _ => True) (fun i lo σ' => LB d W lo ∧ SC W i 0 σ') (by walk_at "can") ?_ ?_ ?_
  · refine walk_of ?_
    obtain ⟨⟨l1, l2⟩, l3, l4, l5⟩ := id h
    walk_at "ss"
    exact ⟨walk_places hA'.h (by walk_at "l"), h, hs, ht.congr fun a b _ _ => (if_neg (by walk_at "l")).symm, hw, hfr⟩
  · rintro i K1 hK1 lo σ' hi ⟨hl, hc⟩ _
    have hl1 := hl.lk (y := "one") (by decide +kernel) (.int (i : Nat))
    refine exs_cons ?_
    refine ex_forR i (fun j lo σ' => A3 (LB d W lo) (lo "one" = some (.int (i : Nat))) (SC W i j σ')) hA'.h T.b_range (by kernel_rfl!) (by walk_at "can") (by walk_at "l") ?_ ?_ ?_
    · walk_at "ss"
      exact ⟨rfl, hl1, at_same, hc⟩
    · clear hl hc hl1
      rintro j K2 hK2 lo σ' hj ⟨hl, l6, hc⟩
      have hjn : j < W.length := by walk_at "l"
      have hl1 := hl.lk (y := "two") (by decide +kernel) (.int (j : Nat))
      have l6' : (lo.set "two" (.int (j : Nat))) "one" = some (.int (i : Nat)) := at_other (by decide +kernel) l6
      have l7' : (lo.set "two" (.int (j : Nat))) "two" = some (.int (j : Nat)) := at_same
      generalize lo.set "two" (.int (j : Nat)) = lo1 at *
      clear hl l6
      obtain ⟨⟨l1, l2⟩, l3, l4, l5⟩ := id hl1
      obtain ⟨c1, c2, c3, c4⟩ := id hc
      have wi := hW.mem _ (wd_mem hi)
      have wj := hW.mem _ (wd_mem hjn)
      obtain ⟨wi1, wi2, _⟩ := allW_ok _ wi
      obtain ⟨wj1, wj2, _⟩ := allW_ok _ wj
      have hne : wd W i ≠ wd W j := fun e => by have := wd_inj hW hi hjn e; lia
      have hp := price_ok _ wi _ wj hne
      have htb : tb W i j = lawPrice (wd W i) (wd W j) := by unfold tb; rw [if_neg (by walk_at "l"), if_pos (by walk_at "l")]
      refine exs_cons ?_
      walk_at "ss"
      refine ev_callF Fl (by kernel_rfl!) T.g_lev ?_
      walk_at "ss"
      refine gi_list (l := (toS W).map .str) (lst_ref c1) (by walk_at "l") (by walk_at "l") (toS_at hi) ?_
      walk_at "ss"
      refine gi_list (l := (toS W).map .str) (lst_ref c1) (by walk_at "l") (by walk_at "l") (toS_at hjn) ?_
      walk_at "ss"
      refine fn_lev T (n := N + 3) hA' (okS_of wi1) (okS_of wj1) (by walk_at "l") (by walk_at "l") c3 ?_
      rw [hp]
      walk_at "ss"
      refine ev_callF Fp (by kernel_rfl!) T.g_prc ?_
      walk_at "ss"
      refine gi_list (l := (toS W).map .str) (lst_ref c1) (by walk_at "l") (by walk_at "l") (toS_at hi) ?_
      walk_at "ss"
      refine gi_list (l := (toS W).map .str) (lst_ref c1) (by walk_at "l") (by walk_at "l") (toS_at hjn) ?_
      walk_at "ss"
      refine fn_price T (N := N + 4) hA' wi wj c3 ?_
      walk_at "ss"
      refine iteB (fun h => by simp at h) fun _ => ?_
      rw [← htb]
      walk_at "ss"
      refine gi_list (l := (List.range W.length).map fun i => .ref (5 + i)) rfl (by walk_at "l") (by walk_at "l") (ref_at hi) ?_
      walk_at "ss"
      refine set_list (c2 i hi) (by walk_at "l") (by simp; lia) (by walk_at "l") ?_
      have c2' := c2.upd i j (tb W i j)
      rw [Int.toNat_natCast]
      have o1 : ∀ m, m < 5 ∨ 10 ≤ m → (σ'.set (5 + i) (.list (((List.range W.length).map fun b => MV.int (fillT W i j i b)).set j (.int (tb W i j))))) m = σ' m := fun m hm => hp_other (by walk_at "l") rfl
      have w1 := c3.setL (5 + i) (((List.range W.length).map fun b => MV.int (fillT W i j i b)).set j (.int (tb W i j)))
      generalize σ'.set (5 + i) (.list (((List.range W.length).map fun b => MV.int (fillT W i j i b)).set j (.int (tb W i j)))) = σ1 at *
      walk_at "ss"
      refine gi_list (l := (List.range W.length).map fun i => .ref (5 + i)) rfl (by walk_at "l") (by walk_at "l") (ref_at hjn) ?_
      walk_at "ss"
      refine set_list (c2' j hjn) (by walk_at "l") (by simp; lia) (by walk_at "l") ?_
      have c2'' := c2'.upd j i (tb W i j)
      rw [Int.toNat_natCast]
      walk_at "ss"
      refine ⟨hl1.lk (y := "price") (by decide +kernel) _, by walk_at "lk", (hp_other (by walk_at "l") (o1 4 (by walk_at "l"))).trans c1, c2''.congr fun a b ha hb => ?_, w1.setL _ _, fun m hm => (hp_other (by walk_at "l") (o1 m (by walk_at "l"))).trans (c4 m hm)⟩
      unfold fillT
      by_cases e1 : a = j ∧ b = i
      · rw [if_pos e1, if_pos (fl_step.mpr (.inr (.inr e1))), e1.1, e1.2, tb_symm]
      · rw [if_neg e1]
        by_cases e2 : a = i ∧ b = j
        · rw [if_pos e2, if_pos (fl_step.mpr (.inr (.inl e2))), e2.1, e2.2]
        · rw [if_neg e2]
          by_cases e3 : (a < i ∧ b < i) ∨ (a = i ∧ b < j) ∨ (b = i ∧ a < j)
          · rw [if_pos e3, if_pos (fl_step.mpr (.inl e3))]
          · rw [if_neg e3, if_neg fun h => (fl_step.mp h).elim e3 fun h => h.elim e2 e1]
    · rintro lo σ' ⟨hl, l6, hc⟩
      walk_at "ss"
      refine ⟨⟨hl, hc.w, hc.t.congr fun a b ha hb => ?_, hc.wf, hc.fr⟩, trivial⟩
      unfold fillT
      by_cases e1 : a = i ∧ b = i
      · rw [if_pos (fl_row.mpr (.inr e1)), e1.1, e1.2, if_neg fun h => by rcases h with ⟨h, _⟩ | ⟨_, h⟩ | ⟨_, h⟩ <;> exact Nat.lt_irrefl _ h]; unfold tb; rw [if_pos rfl]
      · by_cases e3 : (a < i ∧ b < i) ∨ (a = i ∧ b < i) ∨ (b = i ∧ a < i)
        · rw [if_pos e3, if_pos (fl_row.mpr (.inl e3))]
        · rw [if_neg e3, if_neg fun h => (fl_row.mp h).elim e3 e1]
  · rintro lo σ' ⟨hl, hc⟩ _
    walk_at "ss"
    refine q _ _ hl ⟨hc.w, hc.t.congr fun a b ha hb => if_pos (.inl ⟨ha, hb⟩), hc.wf⟩ hc.fr
end
section
open Rotor (sumTo sumTo_le sumTo_eq sumTo_mem sumTo_succ)
theorem sumTo_ones (n : Nat) : sumTo (fun _ => 1) n = n := by
  induction n with
  | zero => rfl
  | succ n ih => rw [sumTo_succ, ih]
theorem full_of {l : List Nat} {n : Nat} (hn : l.Nodup) (hl : ∀ x ∈ l, x < n) : l.length ≤ n ∧ (n ≤ l.length → ∀ v, v < n → v ∈ l) := by
  have h := sumTo_mem hn hl
  have hle : ∀ i, i < n → (if i ∈ l then 1 else 0) ≤ (1 : Nat) := fun i _ => by split <;> decide
  have h1 := sumTo_le (f := fun u => if u ∈ l then 1 else 0) (g := fun _ => 1) hle
  rw [h, sumTo_ones] at h1
  refine ⟨h1, fun h2 v hv => ?_⟩
  have h3 := sumTo_eq (f := fun u => if u ∈ l then 1 else 0) (g := fun _ => 1) hle (by rw [h, sumTo_ones]; exact h2) v hv
  by_cases e : v ∈ l
  · exact e
  · rw [if_neg e] at h3; cases h3
noncomputable def outL (l : List Nat) (j : Nat) : List Nat := (List.range j).filter fun b => !decide (b ∈ l)
theorem outL_succ (l : List Nat) (j : Nat) : outL l (j + 1) = if j ∈ l then outL l j else outL l j ++ [j] := by
  unfold outL
  rw [List.range_succ, List.filter_append]
  split
  · simp [*]
  · simp [*]
theorem outL_mem {l : List Nat} {j b : Nat} : b ∈ outL l j ↔ b < j ∧ b ∉ l := by
  unfold outL
  rw [List.mem_filter, List.mem_range]; simp
theorem outL_len (l : List Nat) (j : Nat) : (outL l j).length ≤ j := by
  unfold outL
  exact Nat.le_trans (List.length_filter_le _ _) (by simp)
noncomputable def candL (l : List Nat) (n k : Nat) : List (Nat × Nat) := (l.take k).flatMap fun a => (outL l n).map fun b => (a, b)
theorem candL_mem {l : List Nat} {n k : Nat} {q : Nat × Nat} (h : q ∈ candL l n k) : q.1 ∈ l ∧ q.2 < n ∧ q.2 ∉ l := by
  obtain ⟨a, ha, h⟩ := List.mem_flatMap.mp h
  obtain ⟨b, hb, rfl⟩ := List.mem_map.mp h
  obtain ⟨h1, h2⟩ := outL_mem.mp hb
  exact ⟨List.mem_of_mem_take ha, h1, h2⟩
theorem candL_len (l : List Nat) (n k : Nat) : (candL l n k).length ≤ l.length * n := by
  unfold candL
  have : ∀ m : List Nat, (m.flatMap fun a => (outL l n).map fun b => (a, b)).length ≤ m.length * n := by
    intro m
    induction m with
    | nil => simp
    | cons x m ih =>
      rw [List.flatMap_cons, List.length_append, List.length_map, List.length_cons, Nat.succ_mul]
      have := outL_len l n
      lia
  refine Nat.le_trans (this _) ?_
  rw [List.length_take]
  exact Nat.mul_le_mul_right n (Nat.min_le_right _ _)
theorem candL_ne {l : List Nat} {n : Nat} (hn : l.Nodup) (hl : ∀ x ∈ l, x < n) (h0 : l ≠ []) (h : l.length < n) : candL l n l.length ≠ [] := by
  have hb : ∃ b, b < n ∧ b ∉ l := Classical.byContradiction fun hc => by
    have : ∀ b, b < n → b ∈ l := fun b hb => Classical.byContradiction fun e => hc ⟨b, hb, e⟩
    have := (full_of (l := List.range n) (n := l.length)) 
    have h1 : n ≤ l.length := by
      have hsub : ∀ x ∈ List.range n, x ∈ l := fun x hx => by
        have := List.mem_range.mp hx
        exact ‹∀ b, b < n → b ∈ l› x this
      have := List.Nodup.length_le_of_subset (List.nodup_range (n := n)) hsub
      simpa using this
    lia
  obtain ⟨b, hb, hbl⟩ := hb
  cases l with
  | nil => exact absurd rfl h0
  | cons a l =>
    intro e
    have : (a, b) ∈ candL (a :: l) n (a :: l).length := by
      unfold candL
      rw [List.take_length]
      exact List.mem_flatMap.mpr ⟨a, .head _, List.mem_map.mpr ⟨b, outL_mem.mpr ⟨hb, hbl⟩, rfl⟩⟩
    rw [e] at this; cases this
end
section
set_option maxHeartbeats 400000

open Rotor (wordOf1 allW lawPrice price_ok)
noncomputable def cV (W : List (List Nat)) (q : Nat × Nat) : MV := .tup [.int (tb W q.1 q.2), .int (q.2 : Nat)]
theorem nI_any (l : List Nat) (h : Nat) : (nI l).any (· == (h : Int)) = decide (h ∈ l) := by
  induction l with
  | nil => rfl
  | cons x l ih =>
    show ((x : Int) == h || (nI l).any _) = _
    rw [ih]
    by_cases e : x = h
    · subst e; simp
    · have : ((x : Int) == h) = false := by simp; lia
      rw [this]; simp [Ne.symm e]
theorem nI_get {l : List Nat} {i : Nat} (h : i < l.length) : ((nI l).map MV.int)[i]? = some (.int (l[i] : Nat)) := by simp [nI, h]
theorem SB.keep {W : List (List Nat)} {σ σ' : Hp} (h : SB W σ) (hW : W.length ≤ 5) (hk : ∀ m, m < 10 → σ' m = σ m) (hw : Wf σ') : SB W σ' :=
  ⟨(hk 4 (by decide)).trans h.w, fun a ha => (hk _ (by walk_at "l")).trans (h.t a ha), hw⟩
structure CI (W : List (List Nat)) (l : List Nat) (R : Int) (σ : Hp) : Prop where
  sb : SB W σ
  k : σ 10 = some (.list ((nI l).map .int))
  fr : ∀ m, 11 ≤ m → σ m = none
  nd : l.Nodup
  lt : ∀ x ∈ l, x < W.length
  ne : l ≠ []
  hang : ∀ v ∈ l, Hang W R v
  R0 : 0 ≤ R ∧ R ≤ 100
variable {C : Cx} {A : Around} {σ : Hp} {Q : MV → Hp → Prop} {QS : Fl → Loc → Hp → Prop}
theorem ex_c1 (T : Tm C) {N : Nat} {A' : Around} (hA' : Ar A' (N + 5)) {cd : Value} {f L : Addr} {lo : Loc} {d : List Nat} {W : List (List Nat)} (hW : WOk W) (h : LB d W lo) (hs : SB W σ) (hfr : ∀ m, 10 ≤ m → σ m = none)
    (q : ∀ lo' σ' R, LB d W lo' → lo' "reach" = some (.int R) → (∀ v, v < W.length → Hang W R v) → (0 ≤ R ∧ R ≤ 100) → SB W σ' → (∀ m, 11 ≤ m → σ' m = none) → Exs C A' (fmL cd f L) (lawB.drop 15) lo' σ' QS) : Exs C A' (fmL cd f L) (lawB.drop 12) lo σ QS := by
  have h5 := hW.five
  have h2 := hW.two
  refine exs_cons ?_
  walk_at "s"
  walk_at "s"
  refine then_next (exs_cons ?_)
  have hl1 := h.lk (y := "reach") (by decide +kernel) (.int 0)
  walk_at "s"
  refine ev_lstT 10 ?_
  walk_at "ss"
  refine ⟨by show 1 ≤ _; decide, hfr 10 (by walk_at "l"), ?_⟩
  have hl2 := hl1.lk (y := "linked") (by decide +kernel) (.ref 10)
  refine then_next (exs_cons ?_)
  refine ex_whileL (fun m lo σ' => ∃ l R, A5 (LB d W lo) (lo "reach" = some (.int R)) (lo "linked" = some (.ref 10)) (CI W l R σ') (m + l.length = W.length)) ?_ (W.length - 1) ?_
  rotate_left
  · refine ⟨[0], 0, hl2, by walk_at "lk", at_same, ⟨hs.keep h5 (fun m hm => hp_other (by walk_at "l") rfl) (hs.wf.setL _ _), hp_same, fun m hm => hp_other (by walk_at "l") (hfr m (by walk_at "l")), by simp, fun x hx => by rw [List.mem_singleton.mp hx]; lia, by simp, fun v hv => by rw [List.mem_singleton.mp hv]; exact .zero, by decide⟩, by simp; lia⟩
  rintro m K1 K2 hK1 hK2 lo σ' ⟨l, R, hl, lr, lk, hc, hm⟩
  clear hl1 hl2 h
  obtain ⟨hsb, hk, hf, hnd, hlt, hne, hhg, hR⟩ := id hc
  obtain ⟨⟨m1, m2⟩, m3, m4, m5⟩ := id hl
  obtain ⟨c1, c2, c3⟩ := id hsb
  have hll := (full_of hnd hlt).1
  walk_at "ss"
  refine ev_callB (.bi _) (by kernel_rfl!) T.b_len.1 T.b_len.2 ?_
  walk_at "ss"
  refine cal_lenl (l := (nI l).map .int) (lst_ref hk) (by simp [nI]; lia) ?_
  rw [show (((nI l).map MV.int).length : Int) = (l.length : Nat) by simp [nI]]
  refine ev_callB (.bi _) (by kernel_rfl!) T.b_len.1 T.b_len.2 ?_
  walk_at "ss"
  refine cal_lenl (l := (toS W).map .str) (lst_ref c1) (by simp [toS]; lia) ?_
  rw [show (((toS W).map MV.str).length : Int) = (W.length : Nat) by simp [toS]]
  walk_at "ss"
  refine iteB (fun h => ?_) fun h => ?_
  rotate_left
  · have hge : ¬ l.length < W.length := fun e => by
      have : (l.length : Int) < W.length := by walk_at "l"
      simp [this] at h
    have hall := (full_of hnd hlt).2 (by walk_at "l")
    refine exs_nil (hK2 _ _ _ (then_next ?_))
    exact q _ _ R hl lr (fun v hv => hhg v (hall v hv)) hR hsb hf
  · have hlt' : l.length < W.length := by have := of_decide_eq_true h; lia
    refine exs_cons ?_
    refine ex_asg ?_ (by with_unfolding_all rfl) (by with_unfolding_all rfl) (by with_unfolding_all rfl)
    refine ev_callB (.bi _) (by kernel_rfl!) T.b_min.1 T.b_min.2 ?_
    refine evl_cons ?_
    have hcl : ∀ k, (candL l W.length k).length ≤ 25 := fun k => by
      have := candL_len l W.length k
      have : l.length * W.length ≤ 5 * 5 := Nat.mul_le_mul (by walk_at "l") h5
      lia
    refine ev_comp (compOk_of (by kernel_rfl!)) l.length (fun k => .int (l.getD k 0 : Nat)) (fun σ2 => lstOf σ2 (.ref 10) = some ((nI l).map .int)) (fun k lo2 σ2 ys => A4 (σ2 = σ') (lo2 "places" = some (.rng 0 (W.length : Nat) 1)) (lo2 "table" = some (.lst ((List.range W.length).map fun i => .ref (5 + i)))) (lo2 "linked" = some (.ref 10) ∧ ys = (candL l W.length k).map (cV W))) ?_ (by intro g h; cases h; rfl) ?_ ?_
    · refine walk_of ?_
      walk_at "ss"
      exact ⟨walk_listC hA'.h (lst_ref hk) (by simp [nI]) (fun k hk => by rw [nI_get hk]; simp [List.getD, hk]), rfl, (if_pos (by kernel_rfl!)).trans m4, (if_pos (by kernel_rfl!)).trans m5, (if_pos (by kernel_rfl!)).trans lk, rfl⟩
    · rintro L' ad k lo2 σ2 ys hk2 ⟨rfl, n1, n2, n3, rfl⟩ hJ
      have ek : l.getD k 0 = l[k] := by simp [List.getD, hk2]
      have ham : l[k] ∈ l := List.getElem_mem hk2
      have ec : candL l W.length (k + 1) = candL l W.length k ++ (outL l W.length).map fun b => (l[k], b) := by unfold candL; rw [take_1 hk2, List.flatMap_append]; simp
      rw [ek]
      have hy := hcl k
      generalize candL l W.length k = cs at *
      generalize l[k] = a at *
      have ha := hlt a ham
      refine st_name (by walk_at "can") ?_
      show Inn _ _ _ _ _ _ _ _ _
      refine inn_gen W.length (fun j => .int (j : Nat)) (fun _ => True) (fun j lo3 σ3 ys => A4 (σ3 = σ2) (lo3 "places" = some (.rng 0 (W.length : Nat) 1)) (lo3 "table" = some (.lst ((List.range W.length).map fun i => .ref (5 + i)))) (lo3 "linked" = some (.ref 10) ∧ lo3 "one" = some (.int (a : Nat)) ∧ ys = cs.map (cV W) ++ ((outL l j).map fun b => (a, b)).map (cV W))) rfl (by intro g h; cases h) ?_ ?_ ?_
      · refine walk_of ?_
        walk_at "ss"
        exact ⟨walk_places hA'.h (by walk_at "l"), rfl, by walk_at "lk", by walk_at "lk", by walk_at "lk", at_same, by simp [outL]⟩
      · rintro j lo3 σ3 ys hj ⟨rfl, p1, p2, p3, p4, rfl⟩ _
        have hol := outL_len l j
        refine st_name (by walk_at "can") ?_
        show Tr _ _ _ _ _ _ _
        walk_at "ss"
        refine op_nini (ns := nI l) (lst_ref hk) ?_
        rw [nI_any]
        refine ⟨_, rfl, ?_⟩
        refine iteB (fun h => ?_) fun h => ?_
        · have hj' : j ∉ l := by simpa using h
          show Inn _ _ _ _ _ _ _ _ _
          refine inn_emit rfl (by simp; lia) ?_
          walk_at "ss"
          refine gi_list (l := (List.range W.length).map fun i => .ref (5 + i)) rfl (by walk_at "l") (by walk_at "l") (ref_at ha) ?_
          walk_at "ss"
          refine gi_list (lst_ref (c2 a ha)) (by walk_at "l") (by walk_at "l") (row_at _ hj) ?_
          walk_at "ss"
          refine ⟨by show 2 ≤ _; decide, ⟨rfl, by walk_at "lk", by walk_at "lk", by walk_at "lk", by walk_at "lk", ?_⟩, trivial⟩
          rw [outL_succ, if_neg hj']
          simp [cV]
        · have hj' : j ∈ l := by simpa using h
          refine ⟨⟨rfl, by walk_at "lk", by walk_at "lk", by walk_at "lk", by walk_at "lk", ?_⟩, trivial⟩
          rw [outL_succ, if_pos hj']
      · rintro lo3 σ3 ys ⟨rfl, p1, p2, p3, p4, rfl⟩ _
        exact ⟨⟨rfl, p1, p2, p3, by rw [ec]; simp⟩, hJ⟩
    rintro lo2 σ2 ys ⟨rfl, n1, n2, n3, rfl⟩ _
    have hcn := candL_ne hnd hlt hne hlt'
    have hcm : ∀ q ∈ candL l W.length l.length, q.1 ∈ l ∧ q.2 < W.length ∧ q.2 ∉ l := fun q hq => candL_mem hq
    generalize candL l W.length l.length = cs at *
    walk_at "ss"
    refine cal_minG (l := cs.map (cV W)) (fun i j => decide (tb W (cs.getD i (0, 0)).1 (cs.getD i (0, 0)).2 < tb W (cs.getD j (0, 0)).1 (cs.getD j (0, 0)).2 ∨ tb W (cs.getD i (0, 0)).1 (cs.getD i (0, 0)).2 = tb W (cs.getD j (0, 0)).1 (cs.getD j (0, 0)).2 ∧ ((cs.getD i (0, 0)).2 : Int) < (cs.getD j (0, 0)).2)) hA'.h (by simpa using hcn) rfl (fun i j x y hx hy => ?_) (fun x hx => ?_)
    · rw [List.getElem?_map] at hx hy
      obtain ⟨x', hx', rfl⟩ := Option.map_eq_some_iff.mp hx
      obtain ⟨y', hy', rfl⟩ := Option.map_eq_some_iff.mp hy
      rw [List.getD_eq_getElem?_getD, List.getD_eq_getElem?_getD, hx', hy']
      exact ltIn_pair (by have := hA'.in1.cl; lia)
    · obtain ⟨⟨a, b⟩, hq, rfl⟩ := List.mem_map.mp (List.mem_of_getElem? hx)
      obtain ⟨ha, hb, hbl⟩ := hcm _ hq
      simp only at ha hb hbl
      have htb := tb_le hW (hlt a ha) hb
      refine st_tup2 (a := .int (tb W a b)) (b := .int (b : Nat)) hA'.h (by walk_at "can") (by walk_at "can") ?_
      have hl3 := (hl.lk (y := "price") (by decide +kernel) (.int (tb W a b))).lk (y := "two") (by decide +kernel) (.int (b : Nat))
      walk_at "ss"
      refine ev_callB (.bi _) (by kernel_rfl!) T.b_max.1 T.b_max.2 ?_
      walk_at "ss"
      refine cal_max2 hA'.h ?_
      have hl4 := hl3.lk (y := "reach") (by decide +kernel) (.int (max R (tb W a b)))
      walk_at "ss"
      refine ev_append ?_
      walk_at "ss"
      refine ⟨10, _, rfl, hk, ?_⟩
      walk_at "nm"
      refine ⟨_, hk, by simp [nI]; lia, ?_⟩
      refine then_next (exs_nil (hK1 _ _ _ (lp_next ?_)))
      refine ⟨m - 1, by walk_at "l", l ++ [b], max R (tb W a b), hl4, at_same, by walk_at "lk", ⟨hsb.keep h5 (fun m hm => hp_other (by walk_at "l") rfl) (c3.setL _ _), by simp [nI, hp_same], fun m hm => hp_other (by walk_at "l") (hf m (by walk_at "l")), ?_, fun x hx => ?_, by simp, fun v hv => ?_, by walk_at "l"⟩, by simp; lia⟩
      · exact List.nodup_append.mpr ⟨hnd, by simp, fun x hx y hy => by rw [List.mem_singleton.mp hy]; exact fun e => hbl (e ▸ hx)⟩
      · rcases List.mem_append.mp hx with hx | hx
        · exact hlt x hx
        · rw [List.mem_singleton.mp hx]; exact hb
      · rcases List.mem_append.mp hv with hv | hv
        · exact (hhg v hv).mono (by walk_at "l")
        · rw [List.mem_singleton.mp hv]
          exact ((hhg a ha).mono (R' := max R (tb W a b)) (by walk_at "l")).step hb (fun e => hbl (e ▸ ha)) (by walk_at "l")
end
section
set_option maxHeartbeats 400000

open Rotor (wordOf1 allW lawPrice price_ok sumTo sumTo_succ)
noncomputable def nearK (W : List (List Nat)) (R : Int) (i j : Nat) : List Nat := (List.range j).filter fun k => decide (k ≠ i) && decide (tb W i k ≤ R)
theorem nearK_succ (W : List (List Nat)) (R : Int) (i j : Nat) : nearK W R i (j + 1) = if j ≠ i ∧ tb W i j ≤ R then nearK W R i j ++ [j] else nearK W R i j := by
  unfold nearK
  rw [List.range_succ, List.filter_append]
  split
  · simp [*]
  · rename_i h
    have : (decide (j ≠ i) && decide (tb W i j ≤ R)) = false := by
      rw [Bool.and_eq_false_iff]
      by_cases e : j ≠ i
      · exact .inr (decide_eq_false fun h2 => h ⟨e, h2⟩)
      · exact .inl (decide_eq_false e)
    rw [List.filter_cons, this]
    simp
theorem nearK_len (W : List (List Nat)) (R : Int) (i j : Nat) : (nearK W R i j).length ≤ j := by
  unfold nearK
  exact Nat.le_trans (List.length_filter_le _ _) (by simp)
noncomputable def rowV (W : List (List Nat)) (R : Int) (i : Nat) : MV := .lst ((nI (nearOf W R i)).map .int)
noncomputable def nearV (W : List (List Nat)) (R : Int) : MV := .lst ((List.range W.length).map (rowV W R))
noncomputable def arcsOf (W : List (List Nat)) (R : Int) : Nat := sumTo (fun u => (nearOf W R u).length) W.length
theorem arcs_le {W : List (List Nat)} (h : W.length ≤ 5) (R : Int) : arcsOf W R ≤ 25 := by
  have : ∀ k, k ≤ W.length → sumTo (fun u => (nearOf W R u).length) k ≤ 5 * k := by
    intro k
    induction k with
    | zero => intro _; exact Nat.le_refl _
    | succ k ih => intro hk; rw [sumTo_succ]; have := ih (by walk_at "l"); have := near_len W R k; lia
  have := this W.length (Nat.le_refl _)
  unfold arcsOf; lia
theorem sum_sumTo (f : Nat → Nat) (n : Nat) : ((List.range n).map fun i => ((f i : Nat) : Int)).sum = ((sumTo f n : Nat) : Int) := by
  induction n with
  | zero => rfl
  | succ n ih => rw [List.range_succ, List.map_append, List.sum_append, ih, sumTo_succ]; simp
structure LC (d : List Nat) (W : List (List Nat)) (R : Int) (lo : Loc) : Prop where
  lb : LB d W lo
  near : lo "near" = some (nearV W R)
variable {C : Cx} {A : Around} {σ : Hp} {Q : MV → Hp → Prop} {QS : Fl → Loc → Hp → Prop}
theorem ex_c2 (T : Tm C) {N : Nat} {A' : Around} (hA' : Ar A' (N + 5)) {cd : Value} {f L : Addr} {lo : Loc} {d : List Nat} {W : List (List Nat)} {R : Int} (hW : WOk W) (h : LB d W lo) (hr : lo "reach" = some (.int R)) (hs : SB W σ)
    (q : ∀ lo', LC d W R lo' → lo' "arcs" = some (.int (arcsOf W R : Nat)) → Exs C A' (fmL cd f L) (lawB.drop 17) lo' σ QS) : Exs C A' (fmL cd f L) (lawB.drop 15) lo σ QS := by
  have h5 := hW.five
  obtain ⟨⟨m1, m2⟩, m3, m4, m5⟩ := id h
  obtain ⟨c1, c2, c3⟩ := id hs
  refine exs_cons ?_
  show Ex _ _ _ (.Assign _ (.ListComp _ (_ :: _) _ _) _) _ _ _
  refine ex_assign ?_ (by walk_at "can") (by kernel_rfl!)
  refine ev_comp (compOk_of (by kernel_rfl!)) W.length (fun i => .int (i : Nat)) (fun _ => True) (fun i l σ' ys => A5 (σ' = σ) (l "places" = some (.rng 0 (W.length : Nat) 1)) (l "table" = some (.lst ((List.range W.length).map fun i => .ref (5 + i)))) (l "reach" = some (.int R)) (ys = (List.range i).map (rowV W R))) ?_ (by intro g h; cases h) ?_ ?_
  · refine walk_of ?_
    walk_at "ss"
    exact ⟨walk_places hA'.h (by walk_at "l"), rfl, (if_pos (by kernel_rfl!)).trans m4, (if_pos (by kernel_rfl!)).trans m5, (if_pos (by kernel_rfl!)).trans hr, rfl⟩
  · rintro L' a i l σ' ys hi ⟨rfl, l1, l2, l3, rfl⟩ _
    refine st_name (by walk_at "can") ?_
    show Inn _ _ _ _ _ _ _ _ _
    refine inn_emit rfl (by simp; lia) ?_
    show Ev _ _ _ (.ListComp _ (_ :: _) _ _) _ _ _
    refine ev_comp (compOk_of (by kernel_rfl!)) W.length (fun i => .int (i : Nat)) (fun _ => True) (fun j l2 σ2 ys2 => A5 (σ2 = σ') (l2 "one" = some (.int (i : Nat))) (l2 "table" = some (.lst ((List.range W.length).map fun i => .ref (5 + i)))) (l2 "reach" = some (.int R)) (ys2 = (nI (nearK W R i j)).map .int)) ?_ (by intro g h; cases h) ?_ ?_
    · refine walk_of ?_
      walk_at "ss"
      exact ⟨walk_places hA'.h (by walk_at "l"), rfl, (if_pos (by kernel_rfl!)).trans at_same, (if_pos (by kernel_rfl!)).trans (by walk_at "lk"), (if_pos (by kernel_rfl!)).trans (by walk_at "lk"), rfl⟩
    · rintro L2 a2 j l2 σ2 ys2 hj ⟨rfl, n1, n2, n3, rfl⟩ _
      have hnl := nearK_len W R i j
      have hsu := nearK_succ W R i j
      refine st_name (by walk_at "can") ?_
      show Tr _ _ _ _ _ _ _
      refine tr_and (and_cons ?_)
      walk_at "ss"
      refine iteB (fun h => ?_) fun h => ?_
      · have hne : j ≠ i := fun e => by subst e; simp at h
        refine and_cons ?_
        walk_at "ss"
        refine gi_list (l := (List.range W.length).map fun i => .ref (5 + i)) rfl (by walk_at "l") (by walk_at "l") (ref_at hi) ?_
        walk_at "ss"
        refine gi_list (lst_ref (c2 i hi)) (by walk_at "l") (by walk_at "l") (row_at _ hj) ?_
        walk_at "ss"
        refine op_le ⟨_, rfl, ?_⟩
        refine iteB (fun h => ?_) fun h => ?_
        · have hle := of_decide_eq_true h
          refine and_nil ?_
          show Inn _ _ _ _ _ _ _ _ _
          refine inn_emit rfl (by simp [nI]; lia) ?_
          walk_at "ss"
          refine ⟨⟨rfl, by walk_at "lk", by walk_at "lk", by walk_at "lk", ?_⟩, trivial⟩
          rw [hsu, if_pos ⟨hne, hle⟩]
          simp [nI]
        · have hle := of_decide_eq_false h
          refine ⟨⟨rfl, by walk_at "lk", by walk_at "lk", by walk_at "lk", ?_⟩, trivial⟩
          rw [hsu, if_neg fun e => hle e.2]
      · have hne : ¬ j ≠ i := fun e => by
          have : ((j : Int) != (i : Int)) = true := by simp; lia
          rw [this] at h; cases h
        refine ⟨⟨rfl, by walk_at "lk", by walk_at "lk", by walk_at "lk", ?_⟩, trivial⟩
        rw [hsu, if_neg fun e => hne e.1]
    · rintro l2 σ2 ys2 ⟨rfl, n1, n2, n3, rfl⟩ _
      refine ⟨⟨rfl, by walk_at "lk", by walk_at "lk", by walk_at "lk", ?_⟩, trivial⟩
      rw [List.range_succ, List.map_append]
      rfl
  · rintro l σ' ys ⟨rfl, l1, l2, l3, rfl⟩ _
    have hl1 := h.lk (y := "near") (by decide +kernel) (nearV W R)
    show Then _ _ _ _ _ _ (lo.set "near" (nearV W R)) _
    refine then_next (exs_cons ?_)
    walk_at "s"
    refine ev_callB (.bi _) (by kernel_rfl!) T.b_sum.1 T.b_sum.2 ?_
    refine evl_cons ?_
    refine ev_comp (compOk_of (by kernel_rfl!)) W.length (rowV W R) (fun σ2 => lstOf σ2 (nearV W R) = some ((List.range W.length).map (rowV W R))) (fun i l σ2 ys => σ2 = σ' ∧ ys = ((List.range i).map fun i => (((nearOf W R i).length : Nat) : Int)).map .int) ?_ (by intro g h; cases h) ?_ ?_
    · refine walk_of ?_
      walk_at "ss"
      exact ⟨walk_listC hA'.h rfl (by simp) (fun k hk => by simp [hk]), rfl, rfl⟩
    · rintro L' a i l σ2 ys hi ⟨rfl, rfl⟩ hJ
      have hnl := near_len W R i
      refine st_name (by walk_at "can") ?_
      show Inn _ _ _ _ _ _ _ _ _
      refine inn_emit rfl (by simp; lia) ?_
      refine ev_callB (.bi _) (by kernel_rfl!) T.b_len.1 T.b_len.2 ?_
      walk_at "ss"
      refine cal_lenl (l := (nI (nearOf W R i)).map .int) rfl (by simp [nI]; lia) ?_
      refine ⟨⟨rfl, ?_⟩, hJ⟩
      rw [List.range_succ, List.map_append, List.map_append]
      simp [nI]
    rintro l σ2 ys ⟨rfl, rfl⟩ _
    walk_at "ss"
    refine cal_sumB (ns := (List.range W.length).map fun i => (((nearOf W R i).length : Nat) : Int)) hA'.h rfl (fun y hy => ?_) (by simp; lia) ?_
    · obtain ⟨i, hi, rfl⟩ := List.mem_map.mp hy
      have := near_len W R i
      lia
    rw [sum_sumTo]
    refine then_next ?_
    exact q _ ⟨hl1.lk (y := "arcs") (by decide +kernel) _, by walk_at "lk"⟩ at_same
end
section
open Rotor (ball)
noncomputable def newK (W : List (List Nat)) (R : Int) (l : List Nat) (j : Nat) : List Nat := (List.range j).filter fun b => !decide (b ∈ l) && !((nearOf W R b).filter fun a => decide (a ∈ l)).isEmpty
theorem newK_succ (W : List (List Nat)) (R : Int) (l : List Nat) (j : Nat) : newK W R l (j + 1) = newK W R l j ++ if !decide (j ∈ l) && !((nearOf W R j).filter fun a => decide (a ∈ l)).isEmpty then [j] else [] := by
  unfold newK
  rw [List.range_succ, List.filter_append, List.filter_cons]
  split <;> simp [*]
theorem newK_len (W : List (List Nat)) (R : Int) (l : List Nat) (j : Nat) : (newK W R l j).length ≤ j := by
  unfold newK
  exact Nat.le_trans (List.length_filter_le _ _) (by simp)
theorem newK_mem {W : List (List Nat)} {R : Int} {l : List Nat} {j b : Nat} : b ∈ newK W R l j ↔ b < j ∧ b ∉ l ∧ ∃ a, a ∈ nearOf W R b ∧ a ∈ l := by
  unfold newK
  rw [List.mem_filter, List.mem_range]
  simp only [Bool.and_eq_true, Bool.not_eq_true', decide_eq_false_iff_not, List.isEmpty_eq_false_iff, ne_eq, List.filter_eq_nil_iff, decide_eq_true_eq]
  constructor
  · rintro ⟨h1, h2, h3⟩
    refine ⟨h1, h2, Classical.byContradiction fun hc => h3 fun a ha e => hc ⟨a, ha, e⟩⟩
  · rintro ⟨h1, h2, a, ha, e⟩
    exact ⟨h1, h2, fun h => h a ha e⟩
noncomputable def bfs (W : List (List Nat)) (R : Int) (k : Nat) : List Nat := match k with
  | 0 => [0]
  | k + 1 => bfs W R k ++ newK W R (bfs W R k) W.length
theorem bfs_succ (W : List (List Nat)) (R : Int) (k : Nat) : bfs W R (k + 1) = bfs W R k ++ newK W R (bfs W R k) W.length := rfl
theorem bfs_ok {W : List (List Nat)} (hW : 0 < W.length) (R : Int) (k : Nat) : (bfs W R k).Nodup ∧ (∀ x ∈ bfs W R k, x < W.length) ∧ 0 ∈ bfs W R k := by
  induction k with
  | zero => exact ⟨by simp [bfs], fun x hx => by rw [List.mem_singleton.mp hx]; exact hW, .head _⟩
  | succ k ih =>
    rw [bfs_succ]
    obtain ⟨h1, h2, h3⟩ := ih
    refine ⟨List.nodup_append.mpr ⟨h1, List.nodup_range.sublist List.filter_sublist, fun a ha b hb e => (newK_mem.mp hb).2.1 (e ▸ ha)⟩, fun x hx => ?_, List.mem_append_left _ h3⟩
    rcases List.mem_append.mp hx with hx | hx
    · exact h2 x hx
    · exact (newK_mem.mp hx).1
theorem bfs_more {W : List (List Nat)} (hW : 0 < W.length) {R : Int} (hh : ∀ v, v < W.length → Hang W R v) {k : Nat} (h : (bfs W R k).length < W.length) : newK W R (bfs W R k) W.length ≠ [] := by
  obtain ⟨h1, h2, h3⟩ := bfs_ok hW R k
  intro e
  have key : ∀ v, Hang W R v → v ∈ bfs W R k := by
    intro v hv
    induction hv with
    | zero => exact h3
    | @step u v hu hv hne ht ih =>
      refine Classical.byContradiction fun hc => ?_
      have : v ∈ newK W R (bfs W R k) W.length := newK_mem.mpr ⟨hv, hc, u, near_mem.mpr ⟨h2 u ih, hne, by rw [tb_symm]; exact ht⟩, ih⟩
      rw [e] at this; cases this
  have hsub : ∀ x ∈ List.range W.length, x ∈ bfs W R k := fun x hx => key x (hh x (List.mem_range.mp hx))
  have := List.Nodup.length_le_of_subset (List.nodup_range (n := W.length)) hsub
  simp at this; lia
theorem bfs_ball {W : List (List Nat)} {R : Int} {row : Nat → List Nat} (hW : 0 < W.length) (hr : ∀ u v, u < W.length → (v ∈ row u ↔ v ∈ nearOf W R u)) (k : Nat) : ∀ v ∈ bfs W R k, ball row 0 k v := by
  induction k with
  | zero => intro v hv; exact List.mem_singleton.mp hv
  | succ k ih =>
    intro v hv
    rw [bfs_succ] at hv
    rcases List.mem_append.mp hv with hv | hv
    · exact .inl (ih v hv)
    · obtain ⟨h1, h2, a, ha, e⟩ := newK_mem.mp hv
      obtain ⟨a1, a2, a3⟩ := near_mem.mp ha
      refine .inr ⟨a, ih a e, (hr a v a1).mpr (near_mem.mpr ⟨h1, fun e => a2 e.symm, by rw [tb_symm]; exact a3⟩)⟩
end
section
set_option maxHeartbeats 400000

theorem LC.lk {d : List Nat} {W : List (List Nat)} {R : Int} {lo : Loc} (h : LC d W R lo) {y : Str} (hy : ([("words" : Str), "places", "table", "numbers", "meant"].all (fun x => !(x == y))) = true) (hy2 : (("near" : Str) == y) = false) (v : MV) : LC d W R (lo.set y v) := ⟨h.lb.lk hy v, at_other hy2 h.near⟩
variable {C : Cx} {A : Around} {σ : Hp} {Q : MV → Hp → Prop} {QS : Fl → Loc → Hp → Prop}
theorem ex_c3 (T : Tm C) {N : Nat} {A' : Around} (hA' : Ar A' (N + 5)) {cd : Value} {f L : Addr} {lo : Loc} {d : List Nat} {W : List (List Nat)} {R : Int} (hW : WOk W) (h : LC d W R lo) (ha : lo "arcs" = some (.int (arcsOf W R : Nat))) (hs : SB W σ) (hh : ∀ v, v < W.length → Hang W R v)
    (q : ∀ lo' k, LC d W R lo' → lo' "arcs" = some (.int (arcsOf W R : Nat)) → lo' "rounds" = some (.int (k : Nat)) → 0 < k → k ≤ 5 → (bfs W R k).length = W.length → Exs C A' (fmL cd f L) (lawB.drop 20) lo' σ QS) : Exs C A' (fmL cd f L) (lawB.drop 17) lo σ QS := by
  have h5 := hW.five
  have h2 := hW.two
  have h0 : 0 < W.length := by walk_at "l"
  refine exs_cons ?_
  have hl1 := h.lk (y := "rounds") (by decide +kernel) (by decide +kernel) (.int ((0 : Nat) : Int))
  walk_at "s"
  walk_at "s"
  refine then_next (exs_cons ?_)
  walk_at "s"
  refine ev_lst ?_
  walk_at "ss"
  refine ⟨by show 1 ≤ _; decide, ?_⟩
  refine then_next (exs_cons ?_)
  have hl2 := hl1.lk (y := "seen") (by decide +kernel) (by decide +kernel) (.lst ((nI (bfs W R 0)).map .int))
  refine ex_whileL (fun m lo σ' => ∃ k : Nat, A7 (LC d W R lo) (lo "arcs" = some (.int (arcsOf W R : Nat))) (lo "rounds" = some (.int (k : Nat))) (lo "seen" = some (.lst ((nI (bfs W R k)).map .int))) (σ' = σ) (m + (bfs W R k).length = W.length) (k + 1 ≤ (bfs W R k).length)) ?_ (W.length - 1) ?_
  rotate_left
  · exact ⟨0, hl2, by walk_at "lk", by walk_at "lk", at_same, rfl, by show _ + 1 = _; lia, Nat.le_refl _⟩
  clear hl1 hl2 h ha
  rintro m K1 K2 hK1 hK2 lo σ' ⟨k, hl, ha, lr, ls, rfl, hm, hkl⟩
  obtain ⟨⟨⟨m1, m2⟩, m3, m4, m5⟩, m6⟩ := id hl
  obtain ⟨c1, c2, c3⟩ := id hs
  obtain ⟨b1, b2, b3⟩ := bfs_ok h0 R k
  have hbl := (full_of b1 b2).1
  walk_at "ss"
  refine ev_callB (.bi _) (by kernel_rfl!) T.b_len.1 T.b_len.2 ?_
  walk_at "ss"
  refine cal_lenl (l := (nI (bfs W R k)).map .int) rfl (by simp [nI]; lia) ?_
  rw [show (((nI (bfs W R k)).map MV.int).length : Int) = ((bfs W R k).length : Nat) by simp [nI]]
  refine ev_callB (.bi _) (by kernel_rfl!) T.b_len.1 T.b_len.2 ?_
  walk_at "ss"
  refine cal_lenl (l := (toS W).map .str) (lst_ref c1) (by simp [toS]; lia) ?_
  rw [show (((toS W).map MV.str).length : Int) = (W.length : Nat) by simp [toS]]
  walk_at "ss"
  refine iteB (fun h => ?_) fun h => ?_
  rotate_left
  · have hge : ¬ (bfs W R k).length < W.length := fun e => by
      have : ((bfs W R k).length : Int) < W.length := by walk_at "l"
      simp [this] at h
    refine exs_nil (hK2 _ _ _ (then_next ?_))
    refine q _ k hl ha lr ?_ (by walk_at "l") (by walk_at "l")
    rcases Nat.eq_zero_or_pos k with e | e
    · rw [e] at hge; simp [bfs] at hge; lia
    · exact e
  · have hlt : (bfs W R k).length < W.length := by have := of_decide_eq_true h; lia
    have hmore := bfs_more h0 hh hlt
    have hsu := bfs_succ W R k
    have hfull : ∀ x ∈ bfs W R (k + 1), x < W.length := (bfs_ok h0 R (k + 1)).2.1
    have hnd := (bfs_ok h0 R (k + 1)).1
    have hl' := (full_of hnd hfull).1
    rw [hsu] at hl'
    generalize hbf : bfs W R k = l at *
    refine exs_cons ?_
    walk_at "s"
    walk_at "ss"
    refine ev_comp (compOk_of (by kernel_rfl!)) W.length (fun i => .int (i : Nat)) (fun _ => True) (fun j l1 σ2 ys => A4 (σ2 = σ') (l1 "seen" = some (.lst ((nI l).map .int))) (l1 "near" = some (nearV W R)) (ys = (nI (newK W R l j)).map .int)) ?_ (by intro g h; cases h) ?_ ?_
    · refine walk_of ?_
      walk_at "ss"
      exact ⟨walk_places hA'.h (by walk_at "l"), rfl, (if_pos (by kernel_rfl!)).trans ls, (if_pos (by kernel_rfl!)).trans m6, rfl⟩
    · rintro L' ad j l1 σ2 ys hj ⟨rfl, n1, n2, rfl⟩ _
      have hnl := newK_len W R l j
      have hns := newK_succ W R l j
      have hrl := near_len W R j
      refine st_name (by walk_at "can") ?_
      show Tr _ _ _ _ _ _ _
      refine tr_and (and_cons ?_)
      walk_at "ss"
      refine op_nini (ns := nI l) rfl ?_
      rw [nI_any]
      refine ⟨_, rfl, ?_⟩
      refine iteB (fun h => ?_) fun h => ?_
      · have e1 : j ∉ l := by simpa using h
        refine and_cons ?_
        refine tr_cmp ?_
        refine ev_comp (compOk_of (by kernel_rfl!)) (nearOf W R j).length (fun i => .int ((nearOf W R j).getD i 0 : Nat)) (fun σ3 => lstOf σ3 (rowV W R j) = some ((nI (nearOf W R j)).map .int)) (fun i l2 σ3 ys2 => A3 (σ3 = σ2) (l2 "seen" = some (.lst ((nI l).map .int))) (ys2 = (nI (((nearOf W R j).take i).filter fun a => decide (a ∈ l))).map .int)) ?_ (by intro g h; cases h) ?_ ?_
        · refine walk_of ?_
          walk_at "ss"
          refine gi_list (l := (List.range W.length).map (rowV W R)) rfl (by walk_at "l") (by walk_at "l") (m := rowV W R j) (by simp [hj]) ?_
          exact ⟨walk_listC hA'.h rfl (by simp [nI]) (fun i hi => by rw [nI_get hi]; simp [List.getD, hi]), rfl, (if_pos (by kernel_rfl!)).trans (by walk_at "lk"), rfl⟩
        · rintro L2 a2 i l2 σ3 ys2 hi ⟨rfl, p1, rfl⟩ hJ
          have hfl : (((nearOf W R j).take i).filter fun a => decide (a ∈ l)).length ≤ 5 := Nat.le_trans (List.length_filter_le _ _) (by rw [List.length_take]; lia)
          have ei : (nearOf W R j).getD i 0 = (nearOf W R j)[i] := by simp [List.getD, hi]
          have et := take_1 hi
          rw [ei]
          generalize (nearOf W R j)[i] = a at *
          refine st_name (by walk_at "can") ?_
          show Tr _ _ _ _ _ _ _
          walk_at "ss"
          refine op_ini (ns := nI l) rfl ?_
          rw [nI_any]
          refine ⟨_, rfl, ?_⟩
          rw [et, List.filter_append]
          refine iteB (fun h => ?_) fun h => ?_
          · show Inn _ _ _ _ _ _ _ _ _
            refine inn_emit rfl (by simp [nI]; lia) ?_
            walk_at "ss"
            exact ⟨⟨rfl, by walk_at "lk", by simp [nI, of_decide_eq_true h]⟩, hJ⟩
          · exact ⟨⟨rfl, by walk_at "lk", by simp [of_decide_eq_false h]⟩, hJ⟩
        · rintro l2 σ3 ys2 ⟨rfl, p1, rfl⟩ _
          rw [List.take_length]
          refine ev_lst (evl_nil ⟨by decide, ?_⟩)
          refine op_neE (by have := hA'.cl; lia) rfl ⟨_, rfl, ?_⟩
          have e2 : ((nI ((nearOf W R j).filter fun a => decide (a ∈ l))).map MV.int).isEmpty = ((nearOf W R j).filter fun a => decide (a ∈ l)).isEmpty := by
            cases ((nearOf W R j).filter fun a => decide (a ∈ l)) <;> rfl
          rw [e2]
          refine iteB (fun h => ?_) fun h => ?_
          · refine and_nil ?_
            show Inn _ _ _ _ _ _ _ _ _
            refine inn_emit rfl (by simp [nI]; lia) ?_
            walk_at "ss"
            refine ⟨⟨rfl, by walk_at "lk", by walk_at "lk", ?_⟩, trivial⟩
            rw [hns, if_pos (by rw [h]; simp [e1])]
            simp [nI]
          · refine ⟨⟨rfl, by walk_at "lk", by walk_at "lk", ?_⟩, trivial⟩
            rw [hns, if_neg (by rw [h]; simp)]
            simp
      · have e1 : j ∈ l := by simpa using h
        refine ⟨⟨rfl, by walk_at "lk", by walk_at "lk", ?_⟩, trivial⟩
        rw [hns, if_neg (by simp [e1])]
        simp
    rintro l1 σ2 ys ⟨rfl, n1, n2, rfl⟩ _
    refine op_addl (l := (nI l).map .int) (m := (nI (newK W R l W.length)).map .int) rfl rfl (by simp [nI]; rw [List.length_append] at hl'; lia) ?_
    have e3 : (nI l).map MV.int ++ (nI (newK W R l W.length)).map .int = (nI (bfs W R (k + 1))).map .int := by rw [hsu]; simp [nI]
    rw [e3]
    have hl3 := hl.lk (y := "seen") (by decide +kernel) (by decide +kernel) (.lst ((nI (bfs W R (k + 1))).map .int))
    walk_at "ss"
    rw [show ((k : Int) + 1) = ((k + 1 : Nat) : Int) by walk_at "l"]
    have hl4 := hl3.lk (y := "rounds") (by decide +kernel) (by decide +kernel) (.int ((k + 1 : Nat) : Int))
    have hpos : 0 < (newK W R l W.length).length := List.length_pos_iff.mpr hmore
    refine ⟨m - (newK W R l W.length).length, by walk_at "l", k + 1, hl4, by walk_at "lk", by walk_at "lk", by walk_at "lk", rfl, ?_, ?_⟩
    · rw [hsu, List.length_append]; rw [List.length_append] at hl'; lia
    · rw [hsu, List.length_append]; lia
end
section
theorem kLt_trans {a b c : Int × Int} (h1 : kLt a b = true) (h2 : kLt b c = true) : kLt a c = true := by
  refine decide_eq_true ?_
  rcases of_decide_eq_true h1 with p | ⟨p, p2⟩
  · rcases of_decide_eq_true h2 with q | ⟨q, q2⟩
    · exact .inl (Int.lt_trans p q)
    · exact .inl (q ▸ p)
  · rcases of_decide_eq_true h2 with q | ⟨q, q2⟩
    · exact .inl (p ▸ q)
    · exact .inr ⟨p.trans q, Int.lt_trans p2 q2⟩
theorem kLt_asymm {a b : Int × Int} (h : kLt a b = true) : kLt b a = false := by
  refine decide_eq_false fun h' => ?_
  rcases of_decide_eq_true h with p | ⟨p, p2⟩
  · rcases h' with q | ⟨q, q2⟩
    · exact Int.lt_irrefl _ (Int.lt_trans p q)
    · exact Int.ne_of_lt p q.symm
  · rcases h' with q | ⟨q, q2⟩
    · exact Int.ne_of_lt q p.symm
    · exact Int.lt_irrefl _ (Int.lt_trans p2 q2)
theorem kLt_total {a b : Int × Int} (h : kLt a b = false) (hne : a ≠ b) : kLt b a = true := by
  have := of_decide_eq_false h
  obtain ⟨a1, a2⟩ := a
  obtain ⟨b1, b2⟩ := b
  have : ¬ (a1 = b1 ∧ a2 = b2) := fun e => hne (by rw [e.1, e.2])
  exact decide_eq_true (by simp only at *; lia)
structure Dirs (d0 d1 : Int) : Prop where
  a : d0 = 1 ∨ d0 = -1
  b : d1 = 1 ∨ d1 = -1
noncomputable def kyOf (W : List (List Nat)) (d0 d1 : Int) (i j : Nat) : Int × Int := (d0 * tb W i j, d1 * (j : Int))
theorem kyOf_inj {W : List (List Nat)} {d0 d1 : Int} (D : Dirs d0 d1) {i j k : Nat} (h : j ≠ k) : kyOf W d0 d1 i j ≠ kyOf W d0 d1 i k := by
  intro e
  have := congrArg Prod.snd e
  simp only [kyOf] at this
  rcases D.b with q | q <;> rw [q] at this <;> lia
theorem sg_of {d a a' : Int} (h : d = 1 ∨ d = -1) : (d * a < d * a' ↔ (a < a' ∧ -d < 0) ∨ (a' < a ∧ d < 0)) ∧ (d * a = d * a' ↔ a = a') := by
  rcases h with rfl | rfl <;> constructor <;> lia
theorem cmp1 {a a' d e : Int} : ((if a < a' then -d else if a > a' then d else e) < 0) ↔ (((a < a' ∧ -d < 0) ∨ (a' < a ∧ d < 0)) ∨ (a = a' ∧ e < 0)) := by
  rcases Int.lt_trichotomy a a' with p | p | p
  · rw [if_pos p]
    refine ⟨fun h => .inl (.inl ⟨p, h⟩), ?_⟩
    rintro ((⟨_, h⟩ | ⟨q, _⟩) | ⟨q, _⟩)
    · exact h
    · exact absurd (Int.lt_trans p q) (Int.lt_irrefl _)
    · exact absurd q (Int.ne_of_lt p)
  · subst p
    rw [if_neg (Int.lt_irrefl _), if_neg (Int.lt_irrefl _)]
    refine ⟨fun h => .inr ⟨rfl, h⟩, ?_⟩
    rintro ((⟨q, _⟩ | ⟨q, _⟩) | ⟨_, h⟩)
    · exact absurd q (Int.lt_irrefl _)
    · exact absurd q (Int.lt_irrefl _)
    · exact h
  · rw [if_neg (fun q => Int.lt_irrefl _ (Int.lt_trans p q)), if_pos p]
    refine ⟨fun h => .inl (.inr ⟨p, h⟩), ?_⟩
    rintro ((⟨q, _⟩ | ⟨_, h⟩) | ⟨q, _⟩)
    · exact absurd (Int.lt_trans p q) (Int.lt_irrefl _)
    · exact h
    · exact absurd q.symm (Int.ne_of_lt p)
theorem cmp_lt {d0 d1 a b a' b' : Int} (D : Dirs d0 d1) : (decide (cmpP d0 d1 a b a' b' < 0)) = kLt (d0 * a, d1 * b) (d0 * a', d1 * b') := by
  refine decide_eq_decide.mpr ?_
  show _ ↔ d0 * a < d0 * a' ∨ d0 * a = d0 * a' ∧ d1 * b < d1 * b'
  rw [(sg_of D.a).1, (sg_of D.a).2, (sg_of D.b).1]
  refine cmp1.trans (or_congr Iff.rfl (and_congr Iff.rfl (cmp1.trans ⟨fun h => h.elim id fun h => absurd h.2 (Int.lt_irrefl _), .inl⟩)))
noncomputable def Asc (W : List (List Nat)) (d0 d1 : Int) (i : Nat) (l : List Nat) : Prop := l.Pairwise fun a b => kLt (kyOf W d0 d1 i a) (kyOf W d0 d1 i b) = true
theorem asc_ins {W : List (List Nat)} {d0 d1 : Int} (D : Dirs d0 d1) {i : Nat} {l : List Nat} {x s : Nat} (h : Asc W d0 d1 i l) (hx : x ∉ l) (hs : s ≤ l.length) (h1 : ∀ t, s ≤ t → t < l.length → kLt (kyOf W d0 d1 i x) (kyOf W d0 d1 i (l.getD t 0)) = true)
    (h2 : s = 0 ∨ kLt (kyOf W d0 d1 i x) (kyOf W d0 d1 i (l.getD (s - 1) 0)) = false) : Asc W d0 d1 i (l.take s ++ x :: l.drop s) := by
  have hd : ∀ y ∈ l.drop s, kLt (kyOf W d0 d1 i x) (kyOf W d0 d1 i y) = true := fun y hy => by
    obtain ⟨t, ht, e⟩ := List.getElem_of_mem hy
    rw [List.length_drop] at ht
    have := h1 (s + t) (by walk_at "l") (by walk_at "l")
    rw [List.getElem_drop] at e
    rw [← e]
    simpa [List.getD, show s + t < l.length by walk_at "l"] using this
  have ht : ∀ y ∈ l.take s, kLt (kyOf W d0 d1 i y) (kyOf W d0 d1 i x) = true := fun y hy => by
    obtain ⟨t, ht, e⟩ := List.getElem_of_mem hy
    rw [List.length_take] at ht
    rw [List.getElem_take] at e
    have hs0 : s ≠ 0 := by walk_at "l"
    have h3 : kLt (kyOf W d0 d1 i (l.getD (s - 1) 0)) (kyOf W d0 d1 i x) = true := by
      refine kLt_total (h2.resolve_left hs0) (kyOf_inj D fun e2 => hx ?_)
      rw [e2]
      simp [List.getD, show s - 1 < l.length by walk_at "l"]
    have es : l.getD (s - 1) 0 = l[s - 1]'(by walk_at "l") := by simp [List.getD, show s - 1 < l.length by walk_at "l"]
    rw [es] at h3
    by_cases e3 : t = s - 1
    · subst e3; rw [← e]; exact h3
    · have := List.pairwise_iff_getElem.mp h t (s - 1) (by walk_at "l") (by walk_at "l") (by walk_at "l")
      rw [← e]
      exact kLt_trans this h3
  refine List.pairwise_append.mpr ⟨h.sublist (List.take_sublist s l), List.pairwise_cons.mpr ⟨hd, h.sublist (List.drop_sublist s l)⟩, fun a ha b hb => ?_⟩
  rcases List.mem_cons.mp hb with rfl | hb
  · exact ht a ha
  · exact kLt_trans (ht a ha) (hd b hb)
theorem asc_step {W : List (List Nat)} {d0 d1 : Int} {i : Nat} {l : List Nat} (h : Asc W d0 d1 i l) : ∀ (t : Nat) (x y : Int × Int), (l.map (kyOf W d0 d1 i))[t]? = some x → (l.map (kyOf W d0 d1 i))[t + 1]? = some y → kLt y x = false := by
  intro t x y hx hy
  rw [List.getElem?_map] at hx hy
  obtain ⟨a, ha, rfl⟩ := Option.map_eq_some_iff.mp hx
  obtain ⟨b, hb, rfl⟩ := Option.map_eq_some_iff.mp hy
  obtain ⟨h1, e1⟩ := List.getElem?_eq_some_iff.mp ha
  obtain ⟨h2, e2⟩ := List.getElem?_eq_some_iff.mp hb
  have := List.pairwise_iff_getElem.mp h t (t + 1) h1 h2 (Nat.lt_succ_self t)
  rw [e1, e2] at this
  exact kLt_asymm this
end
section
set_option maxHeartbeats 400000

noncomputable def Kp (own : List Str) (lo lo' : Loc) : Prop := ∀ y v, own.contains y = false → lo y = some v → lo' y = some v
theorem Kp.refl {own : List Str} {lo : Loc} : Kp own lo lo := fun _ _ _ h => h
theorem Kp.set {own : List Str} {lo lo' : Loc} (h : Kp own lo lo') {x : Str} (hx : own.contains x = true) (v : MV) : Kp own lo (lo'.set x v) := fun y w hy e =>
  at_other (by cases hq : y == x with
    | false => rfl
    | true => rw [beq_iff_eq.mp hq, hx] at hy; cases hy) (h y w hy e)
theorem LC.kp {d : List Nat} {W : List (List Nat)} {R : Int} {lo lo' : Loc} {own : List Str} (h : LC d W R lo) (k : Kp own lo lo') (hy : ([("words" : Str), "places", "table", "numbers", "meant", "near"].all (fun x => !own.contains x)) = true) : LC d W R lo' := by
  simp only [List.all_cons, List.all_nil, Bool.and_true, Bool.and_eq_true, Bool.not_eq_true'] at hy
  obtain ⟨a, b, c, e, g, i⟩ := hy
  exact ⟨⟨⟨k _ _ e h.lb.nm.n, k _ _ g h.lb.nm.m⟩, k _ _ a h.lb.words, k _ _ b h.lb.places, k _ _ c h.lb.table⟩, k _ _ i h.near⟩
noncomputable def eV (W : List (List Nat)) (i j : Nat) : MV := .tup [.int (tb W i j), .int (j : Nat), .str (S (wd W j))]
variable {C : Cx} {A : Around} {σ : Hp} {Q : MV → Hp → Prop} {QS : Fl → Loc → Hp → Prop}
theorem ex_row (T : Tm C) {N : Nat} {A' : Around} (hA' : Ar A' (N + 5)) {cd : Value} {f L : Addr} {lo : Loc} {d : List Nat} {W : List (List Nat)} {R : Int} {i B : Nat} {d0 d1 : Int} (D : Dirs d0 d1) (hW : WOk W) (hi : i < W.length) (hB : 11 ≤ B) (h : LC d W R lo) (h1 : lo "one" = some (.int (i : Nat))) (h2 : lo "order" = some (.ref B)) (h3 : lo "row" = some (.ref (B + 2)))
    (hs : SB W σ) (o1 : σ B = some (.inst T.tcp (B + 1))) (o2 : σ (B + 1) = some (.attrs [("comp_select_list", keyL d0 d1)])) (o3 : σ (B + 2) = some (.list []))
    (q : ∀ lo' rw, Kp ["two", "entry", "spot"] lo lo' → Asc W d0 d1 i rw → rw.Perm (nearOf W R i) → QS .next lo' (σ.set (B + 2) (.list (rw.map (eV W i))))) :
    Ex C A' (fmL cd f L) (nth (stB (nth lawB 21)) 4) lo σ QS := by
  obtain ⟨cc, Fc⟩ := id T.GC
  obtain ⟨oc, fdc, hK, hdc, _⟩ := Fc.ex
  have h5 := hW.five
  show Ex C A' _ (.For (.Name _ _) _ _ _ _) _ _ _
  refine ex_for1 (nearOf W R i).length (fun k => .int ((nearOf W R i).getD k 0 : Nat)) (fun σ' => lstOf σ' (rowV W R i) = some ((nI (nearOf W R i)).map .int)) (fun k lo' σ' => ∃ rw : List Nat, A4 (Kp ["two", "entry", "spot"] lo lo') (Asc W d0 d1 i rw) (rw.Perm ((nearOf W R i).take k)) (σ' = σ.set (B + 2) (.list (rw.map (eV W i))))) (by walk_at "can") ?_ ?_ ?_
  · obtain ⟨⟨⟨m1, m2⟩, m3, m4, m5⟩, m6⟩ := id h
    refine walk_of ?_
    walk_at "ss"
    refine gi_list (l := (List.range W.length).map (rowV W R)) rfl (by walk_at "l") (by walk_at "l") (m := rowV W R i) (by simp [hi]) ?_
    refine ⟨walk_listC hA'.h rfl (by simp [nI]) (fun k hk => by rw [nI_get hk]; simp [List.getD, hk]), [], .refl, .nil, by simp, ?_⟩
    exact (set_self o3).symm
  · rintro k K1 hK1 lo0 σ' hk ⟨rw, kp, hasc, hperm, rfl⟩ hJ
    have ek : (nearOf W R i).getD k 0 = (nearOf W R i)[k] := by simp [List.getD, hk]
    have hjm := near_mem.mp (List.getElem_mem hk)
    have htk := take_1 hk
    have hnd : ((nearOf W R i).take (k + 1)).Nodup := (near_nd W R i).sublist (List.take_sublist _ _)
    rw [htk] at hnd
    have hjr : (nearOf W R i)[k] ∉ rw := fun e => (List.nodup_append.mp hnd).2.2 _ (hperm.mem_iff.mp e) _ (List.mem_singleton.mpr rfl) rfl
    have hlt : ∀ x ∈ rw, x < W.length := fun x hx => (near_mem.mp (List.mem_of_mem_take (hperm.mem_iff.mp hx))).1
    have hrl : rw.length ≤ 5 := by
      have := hperm.length_eq
      rw [List.length_take] at this
      have := near_len W R i
      lia
    rw [ek]
    generalize (nearOf W R i)[k] = j at *
    obtain ⟨hj, hji, _⟩ := hjm
    have kp1 := kp.set (x := "two") (by decide +kernel) (.int (j : Nat))
    have l2 : (lo0.set "two" (.int (j : Nat))) "two" = some (.int (j : Nat)) := at_same
    generalize lo0.set "two" (.int (j : Nat)) = lo1 at *
    clear kp
    have hl1 := h.kp kp1 (by decide +kernel)
    obtain ⟨⟨⟨m1, m2⟩, m3, m4, m5⟩, m6⟩ := id hl1
    have n1 := kp1 _ _ (by decide +kernel) h1
    have n2 := kp1 _ _ (by decide +kernel) h2
    have n3 := kp1 _ _ (by decide +kernel) h3
    have sb1 : SB W (σ.set (B + 2) (.list (rw.map (eV W i)))) := hs.keep h5 (fun m hm => hp_other (by walk_at "l") rfl) (hs.wf.setL _ _)
    obtain ⟨c1, c2, c3⟩ := id sb1
    have p1 : (σ.set (B + 2) (.list (rw.map (eV W i)))) B = some (.inst T.tcp (B + 1)) := (hp_other (by walk_at "l") rfl).trans o1
    have p2 : (σ.set (B + 2) (.list (rw.map (eV W i)))) (B + 1) = some (.attrs [("comp_select_list", keyL d0 d1)]) := (hp_other (by walk_at "l") rfl).trans o2
    have p3 : (σ.set (B + 2) (.list (rw.map (eV W i)))) (B + 2) = some (.list (rw.map (eV W i))) := hp_same
    refine exs_cons ?_
    walk_at "ss"
    refine gi_list (l := (List.range W.length).map fun i => .ref (5 + i)) rfl (by walk_at "l") (by walk_at "l") (ref_at hi) ?_
    walk_at "ss"
    refine gi_list (lst_ref (c2 i hi)) (by walk_at "l") (by walk_at "l") (row_at _ hj) ?_
    walk_at "ss"
    refine gi_list (l := (toS W).map .str) (lst_ref c1) (by walk_at "l") (by walk_at "l") (toS_at hj) ?_
    refine evl_nil ⟨by show 3 ≤ _; decide, ?_⟩
    have kp2 := kp1.set (x := "entry") (by decide +kernel) (eV W i j)
    refine then_next (exs_cons ?_)
    show Ex _ _ _ _ (lo1.set "entry" (eV W i j)) _ _
    walk_at "s"
    refine ev_callB (.bi _) (by kernel_rfl!) T.b_len.1 T.b_len.2 ?_
    walk_at "ss"
    refine cal_lenl (lst_ref p3) (by simp; lia) ?_
    rw [List.length_map]
    have kp3 := kp2.set (x := "spot") (by decide +kernel) (.int (rw.length : Nat))
    refine then_next (exs_cons ?_)
    refine ex_whileL (fun s lo' σ' => A5 (Kp ["two", "entry", "spot"] lo lo') (lo' "entry" = some (eV W i j)) (lo' "spot" = some (.int (s : Nat))) (σ' = σ.set (B + 2) (.list (rw.map (eV W i)))) (s ≤ rw.length ∧ ∀ t, s ≤ t → t < rw.length → kLt (kyOf W d0 d1 i j) (kyOf W d0 d1 i (rw.getD t 0)) = true)) ?_ rw.length ?_
    rotate_left
    · exact ⟨kp3, by walk_at "lk", at_same, rfl, Nat.le_refl _, fun t h1 h2 => absurd h2 (by walk_at "l")⟩
    clear kp1 kp2 kp3 hl1 n1 n2 n3 m1 m2 m3 m4 m5 m6 l2
    rintro s K2 K3 hK2 hK3 lo2 σ2 ⟨kp1, l1, l2, rfl, hsl, hst⟩
    have n2 := kp1 _ _ (by decide +kernel) h2
    have n3 := kp1 _ _ (by decide +kernel) h3
    have fin : (s = 0 ∨ kLt (kyOf W d0 d1 i j) (kyOf W d0 d1 i (rw.getD (s - 1) 0)) = false) → Exs C A' (fmL cd f L) [] lo2 (σ.set (B + 2) (.list (rw.map (eV W i)))) K3 := by
      intro hend
      refine exs_nil (hK3 _ _ _ (then_next (exs_cons ?_)))
      walk_at "s"
      refine ev_insert ?_
      walk_at "ss"
      refine ⟨B + 2, _, rfl, p3, ?_⟩
      walk_at "nm"
      refine ⟨s, rfl, ?_⟩
      walk_at "nm"
      refine ⟨_, p3, by simp; lia, by simp; lia, ?_⟩
      rw [set_set]
      refine then_next (exs_nil (hK1 _ _ _ (lp_next ?_)))
      refine ⟨⟨rw.take s ++ j :: rw.drop s, kp1, asc_ins D hasc hjr hsl hst hend, ?_, ?_⟩, hJ⟩
      · rw [htk]
        have e1 : (rw.take s ++ j :: rw.drop s).Perm (j :: (rw.take s ++ rw.drop s)) := List.perm_middle
        rw [List.take_append_drop] at e1
        exact e1.trans ((List.Perm.cons j hperm).trans (List.perm_append_singleton j _).symm)
      · congr 2
        simp [List.map_take, List.map_drop]
    refine tr_and (and_cons ?_)
    walk_at "ss"
    refine iteB (fun h => ?_) fun h => ?_
    · have hs0 : 0 < s := by have := of_decide_eq_true h; lia
      have hs1 : s - 1 < rw.length := by walk_at "l"
      refine and_cons ?_
      refine tr_cmp ?_
      refine ev_methF ?_ (by rfl) (by rfl) (by rfl) (by decide)
      walk_at "ss"
      refine ⟨B, B + 1, T.tcp, _, T.gC, rfl, T.ktcp, p1, p2, rfl, T.mC, T.uC, .fn hK hdc, ?_⟩
      walk_at "ss"
      rw [show ((s : Int) - 1) = ((s - 1 : Nat) : Int) by walk_at "l"]
      refine gi_list (lst_ref p3) (by walk_at "l") (by walk_at "l") (m := eV W i (rw.getD (s - 1) 0)) (by rw [Int.toNat_natCast, List.getElem?_map, List.getElem?_eq_getElem hs1]; simp [List.getD, hs1]) ?_
      refine evl_nil ?_
      refine cal_fn ?_
      refine fn_cmp T (N := N + 4) hA' p1 p2 ?_
      walk_at "ss"
      rw [cmp_lt D]
      show if kLt (kyOf W d0 d1 i j) (kyOf W d0 d1 i (rw.getD (s - 1) 0)) = true then _ else _
      refine iteB (fun h => ?_) fun h => ?_
      · refine and_nil ?_
        rw [if_pos rfl]
        walk_at "ss"
        refine ⟨s - 1, by walk_at "l", kp1.set (by decide +kernel) _, by walk_at "lk", ?_, rfl, by walk_at "l", fun t h1 h2 => ?_⟩
        · rw [show ((s : Int) - 1) = ((s - 1 : Nat) : Int) by walk_at "l"]; exact at_same
        · by_cases e : t = s - 1
          · rw [e]; exact h
          · exact hst t (by walk_at "l") h2
      · rw [if_neg (by decide)]
        exact fin (.inr h)
    · rw [if_neg (by decide)]
      have := of_decide_eq_false h
      exact fin (.inl (by walk_at "l"))
  · rintro lo' σ' ⟨rw, kp, hasc, hperm, rfl⟩ _
    rw [List.take_length] at hperm
    exact exs_nil (q lo' rw kp hasc hperm)
end
section
set_option maxHeartbeats 400000

theorem first_idx {α : Type} {x : α} : ∀ {l : List α}, x ∈ l → ∃ j : Nat, l[j]? = some x ∧ ∀ i, i < j → l[i]? ≠ some x
  | y :: l, h => by
    by_cases e : y = x
    · exact ⟨0, by rw [e]; rfl, fun i hi => absurd hi (Nat.not_lt_zero i)⟩
    · obtain ⟨j, h1, h2⟩ := first_idx ((List.mem_cons.mp h).resolve_left (Ne.symm e))
      refine ⟨j + 1, h1, fun i hi => ?_⟩
      cases i with
      | zero => exact fun q => e (Option.some.inj q)
      | succ i => exact h2 i (Nat.lt_of_succ_lt_succ hi)
theorem nums_lt {d : List Nat} (hd : DrOk d) : ∀ y ∈ numsOf d, y < 100000 := by
  have h5 : d.sum ≤ 288 * d.length := by
    have : ∀ l : List Nat, (∀ x ∈ l, x < 288) → l.sum ≤ 288 * l.length := by
      intro l
      induction l with
      | nil => intro _; simp
      | cons x l ih => intro h; have h1 := h x (.head _); have h2 := ih fun y hy => h y (.tail _ hy); simp only [List.sum_cons, List.length_cons]; lia
    exact this d hd.lt
  have := hd.len
  intro y hy
  rcases List.mem_cons.mp hy with rfl | hy
  · lia
  · have := hd.lt y hy; lia
theorem dirs_of (m : Nat) : Dirs (1 - (m : Int) / 144 % 2 * 2) (1 - (m : Int) / 72 % 2 * 2) := ⟨by walk_at "l", by walk_at "l"⟩
noncomputable abbrev lamE : Expr := match nth (stB (nth lawB 21)) 5 with
  | .If (.Compare _ _ [.Call _ _ [⟨_, e, _⟩] _] _) _ _ _ => e
  | _ => .Constant .none 0 ⟨0, 0, 0, 0⟩
noncomputable def lamP : Expr → Arguments
  | .Lambda a _ _ _ => a
  | _ => ⟨[], [], none, [], [], none, []⟩
noncomputable def lamS : Expr → Scope
  | .Lambda _ _ s _ => s
  | _ => ⟨.module, [], false, false, []⟩
theorem lamIs (cd : Value) (f L : Addr) : LamIs (fmL cd f L) "entry" "keys" (lamP lamE) (lamS lamE) where
  bind := by
    intro fd v hp hd hk
    obtain ⟨_, _, _, _, _, _, _, _, _, _, _⟩ := fd
    simp only at hp hd hk
    subst hp; subst hd; subst hk
    kernel_rfl!
  cell := by decide +kernel
  loc := by kernel_rfl!
  fr := by kernel_rfl!
  own := by show ("keys" : Str) ∈ ownOf (dfScope (st1 17)); decide +kernel
  free := by
    intro y hy
    have h : (lamS lamE).names.all (fun p => p.2 != .free || p.1 == "keys") = true := by kernel_rfl!
    have := List.all_eq_true.mp h _ (mem_of_lookup hy)
    simpa using this
  clo := by
    intro cx hx
    have e : clOf (lamS lamE) (fmL cd f L).env = [(("keys" : Str), ((fmL cd f L).env.cells.lookup ("keys" : Str)).getD 0)] := by kernel_rfl!
    rw [e, hx]
    refine ⟨by simp, fun y c hc => ?_⟩
    rw [List.lookup_cons] at hc
    cases hy : y == ("keys" : Str) with
    | true => rw [hy] at hc; cases hc; exact ⟨beq_iff_eq.mp hy, rfl⟩
    | false => rw [hy] at hc; cases hc
  co := by kernel_rfl!
  gen := by kernel_rfl!
  kind := by kernel_rfl!
variable {C : Cx} {A : Around} {σ : Hp} {Q : MV → Hp → Prop} {QS : Fl → Loc → Hp → Prop}
theorem ex_sort (T : Tm C) {N : Nat} {A' : Around} (hA' : Ar A' (N + 5)) {c f L : Addr} (hca : CodeAt C.K c T.Plaw) (hP : T.Plaw ∈ C.tabs) {lo : Loc} {W : List (List Nat)} {i B : Nat} {d0 d1 : Int} {rw : List Nat} (D : Dirs d0 d1) (hW : WOk W) (hi : i < W.length) (hlt : ∀ x ∈ rw, x < W.length) (hasc : Asc W d0 d1 i rw) (hrl : rw.length ≤ 5)
    (h2 : lo "keys" = some (keyL d0 d1)) (h3 : lo "row" = some (.ref (B + 2))) (o3 : σ (B + 2) = some (.list (rw.map (eV W i))))
    (q : QS .next lo σ) : Ex C A' (fmL (.ref c) f L) (nth (stB (nth lawB 21)) 5) lo σ QS := by
  show Ex C A' _ (.If _ _ _ _) _ _ _
  refine ex_if (tr_cmp ?_)
  walk_at "nm"
  refine ev_sortedK (N := N + 2) (l := rw.map (eV W i)) (ks := rw.map (kyOf W d0 d1 i)) hA' (by kernel_rfl!) T.b_sorted.1 T.b_sorted.2 ?_ T.mkO rfl rfl hca hP (T.tq_lam.trans (by kernel_rfl!)) (by kernel_rfl!) ?_ (lamIs (.ref c) f L) h2 (by simp) (by simp; lia) ?_ (asc_step hasc) ?_
  · walk_at "nm"
    exact ⟨rfl, lst_ref o3⟩
  · intro n hn
    have hn' : n = "keys" := by
      have h : (lamS lamE).names.all (fun p => p.2 != .free || p.1 == "keys") = true := by kernel_rfl!
      have := List.all_eq_true.mp h _ hn
      simpa using this
    subst hn'
    have : ((cellsFrom (L + 1) (dfScope (st1 17)).names []).lookup ("keys" : Str)).isSome = true := lookup_cellsFrom _ _ _ _ (.inl (by decide +kernel))
    obtain ⟨cx, hcx⟩ := Option.isSome_iff_exists.mp this
    exact ⟨cx, hcx⟩
  · intro j m kk hm hkk A2 env hA2
    rw [List.getElem?_map] at hm hkk
    obtain ⟨x, hx, rfl⟩ := Option.map_eq_some_iff.mp hm
    rw [hx] at hkk
    cases hkk
    have hxl := hlt x (List.mem_of_getElem? hx)
    have htb := tb_le hW hi hxl
    have k1 : lamLoc "entry" (eV W i x) "keys" (keyL d0 d1) "entry" = some (eV W i x) := rfl
    have k2 : lamLoc "entry" (eV W i x) "keys" (keyL d0 d1) "keys" = some (keyL d0 d1) := rfl
    generalize lamLoc "entry" (eV W i x) "keys" (keyL d0 d1) = ll at *
    have b0 : -10 < d0 ∧ d0 < 10 := by rcases D.a with q | q <;> lia
    have b1 : -10 < d1 ∧ d1 < 10 := by rcases D.b with q | q <;> lia
    walk_at "ss"
    refine gi_list (l := [.tup [.int 0, .int d0], .tup [.int 1, .int d1]]) rfl (by decide) (by decide) rfl ?_
    walk_at "ss"
    refine gi_tup (m := .int d0) (by decide) (by simp only [List.length_cons, List.length_nil]; lia) (by decide) rfl ?_
    walk_at "ss"
    refine gi_tup (m := .int (tb W i x)) (by decide) (by simp only [List.length_cons, List.length_nil]; lia) (by decide) rfl ?_
    refine op_mulB (by walk_at "l") ?_
    walk_at "ss"
    refine gi_list (l := [.tup [.int 0, .int d0], .tup [.int 1, .int d1]]) rfl (by decide) (by decide) rfl ?_
    walk_at "ss"
    refine gi_tup (m := .int d1) (by decide) (by simp only [List.length_cons, List.length_nil]; lia) (by decide) rfl ?_
    walk_at "ss"
    refine gi_tup (m := .int (x : Nat)) (by decide) (by simp only [List.length_cons, List.length_nil]; lia) (by decide) rfl ?_
    refine op_mulB (by walk_at "l") ?_
    walk_at "ss"
    exact ⟨by show 2 ≤ _; decide, rfl, rfl⟩
  · refine op_neL (n := 1) (by have := hA'.cl; lia) (lst_ref o3) rfl (fun m hm => ?_) ⟨_, rfl, ?_⟩
    · obtain ⟨x, _, rfl⟩ := List.mem_map.mp hm
      refine .tup fun y hy => ?_
      simp only [List.mem_cons, List.not_mem_nil, or_false] at hy
      rcases hy with rfl | rfl | rfl
      · exact .int _ _
      · exact .int _ _
      · exact .str _ _
    · rw [if_neg (by decide)]
      exact exs_nil q
end
section
set_option maxHeartbeats 400000

structure RotAt (lex : Addr) (σ : Hp) (i : Nat) (q : List (List Nat)) : Prop where
  ri : σ (23 + 10 * i) = some (.inst lex (24 + 10 * i))
  rd : σ (24 + 10 * i) = some (lexO [] (25 + 10 * i) (.ref (26 + 10 * i)) 0)
  rb : σ (26 + 10 * i) = some (.list ((toS q).map .str))
noncomputable def rotD (W : List (List Nat)) (k : Nat) : List (Str × MV) := (List.range k).map fun i => (S (wd W i), .ref (23 + 10 * i))
structure SR (lex : Addr) (W : List (List Nat)) (R : Int) (k : Nat) (rows : Nat → List Nat) (σ : Hp) : Prop where
  sb : SB W σ
  dict : σ 11 = some (.dict (rotD W k))
  rot : ∀ i, i < k → RotAt lex σ i ((rows i).map (wd W))
  row : ∀ i, i < k → (rows i).Perm (nearOf W R i)
  fr : ∀ m, 20 + 10 * k ≤ m → σ m = none
theorem putAt_new {k : Str} {v : MV} : ∀ {l : List (Str × MV)}, (∀ p ∈ l, p.1 ≠ k) → putAt l k v = l ++ [(k, v)]
  | [], _ => rfl
  | (y, u) :: l, h => by
    rw [putAt_cons, if_neg (h _ (.head _)), putAt_new fun p hp => h p (.tail _ hp)]
    rfl
theorem rotD_put {W : List (List Nat)} (hW : WOk W) {k : Nat} (hk : k < W.length) : putAt (rotD W k) (S (wd W k)) (.ref (23 + 10 * k)) = rotD W (k + 1) := by
  have h : ∀ p ∈ rotD W k, p.1 ≠ S (wd W k) := fun p hp => by
    obtain ⟨i, hi, rfl⟩ := List.mem_map.mp hp
    have hi' := List.mem_range.mp hi
    intro e
    have := wd_inj hW (by walk_at "l") hk (S_inj.mp e)
    lia
  rw [putAt_new h]
  unfold rotD
  rw [List.range_succ, List.map_append]; rfl
theorem nI_nth {l : List Nat} {j : Nat} {x : Nat} (h : l[j]? = some x) : ((nI l).map MV.int)[(j : Int).toNat]? = some (.int (x : Nat)) := by
  rw [Int.toNat_natCast, List.getElem?_map, nI, List.getElem?_map, h]; rfl
noncomputable abbrev ownR : List Str := ["number", "keys", "order", "row", "two", "entry", "spot", "rotor", "one"]
variable {C : Cx} {A : Around} {σ : Hp} {Q : MV → Hp → Prop} {QS : Fl → Loc → Hp → Prop}
theorem Kp.trans {own own' : List Str} {lo lo1 lo2 : Loc} (h1 : Kp own lo lo1) (h2 : Kp own' lo1 lo2) (h : ∀ y, own.contains y = false → own'.contains y = false) : Kp own lo lo2 := fun y v hy e => h2 y v (h y hy) (h1 y v hy e)
theorem sub_own {own own' : List Str} (h : (own'.all fun x => own.contains x) = true) : ∀ y, own.contains y = false → own'.contains y = false := fun y hy => by
  cases hq : own'.contains y with
  | false => rfl
  | true =>
    have := List.all_eq_true.mp h y (by simpa using hq)
    rw [this] at hy; cases hy
theorem ex_turn (T : Tm C) {N : Nat} {A' : Around} (hA' : Ar A' (N + 5)) {c f L : Addr} (hca : CodeAt C.K c T.Plaw) (hP : T.Plaw ∈ C.tabs) {lo : Loc} {d : List Nat} {W : List (List Nat)} {R : Int} {i : Nat} {rows : Nat → List Nat} (hd : DrOk d) (hW : WOk W) (hWm : ∀ w ∈ W, w ∈ meantOf d) (hi : i < W.length)
    (h : LC d W R lo) (h1 : lo "one" = some (.int (i : Nat))) (h2 : lo "rotors" = some (.ref 11)) (hs : SR T.lex W R i rows σ)
    (q : ∀ lo' σ' rows', Kp ownR lo lo' → SR T.lex W R (i + 1) rows' σ' → QS .next lo' σ') : Exs C A' (fmL (.ref c) f L) (stB (nth lawB 21)) lo σ QS := by
  obtain ⟨hsb, hdic, hrot, hrow, hfr⟩ := id hs
  obtain ⟨⟨⟨m1, m2⟩, m3, m4, m5⟩, m6⟩ := id h
  obtain ⟨c1, c2, c3⟩ := id hsb
  obtain ⟨cr, Fr, _, _⟩ := id T.Crdr
  obtain ⟨cp, Fp⟩ := id T.FP
  obtain ⟨op, fdp, hKp, hdp, _⟩ := Fp.ex
  have h5 := hW.five
  have hml := meant_len hd
  have hnl := nums_len hd
  obtain ⟨j, hj, hjno⟩ := first_idx (hWm _ (wd_mem hi))
  have hj5 : j < 5 := by have := (List.getElem?_eq_some_iff.mp hj).1; lia
  obtain ⟨m, hm⟩ : ∃ m, (numsOf d)[j]? = some m := ⟨_, List.getElem?_eq_getElem (by walk_at "l")⟩
  have hml2 := nums_lt hd m (List.mem_of_getElem? hm)
  refine exs_cons ?_
  walk_at "s"
  walk_at "s"
  walk_at "s"
  refine ev_index ?_
  walk_at "nm"
  refine ⟨toS (meantOf d), rfl, ?_⟩
  walk_at "ss"
  refine gi_list (l := (toS W).map .str) (lst_ref c1) (by walk_at "l") (by walk_at "l") (toS_at hi) ?_
  refine ⟨S (wd W i), j, rfl, rfl, by simp [toS]; lia, by rw [toS, List.getElem?_map, hj]; rfl, fun t ht e => ?_, ?_⟩
  · rw [toS, List.getElem?_map] at e
    obtain ⟨x, hx, hx2⟩ := Option.map_eq_some_iff.mp e
    exact hjno t ht (by rw [hx, S_inj.mp hx2])
  refine gi_list (l := (nI (numsOf d)).map .int) rfl (by walk_at "l") (by walk_at "l") (nI_nth hm) ?_
  have kp1 := (Kp.refl (own := ownR) (lo := lo)).set (x := "number") (by decide +kernel) (.int (m : Nat))
  refine then_next (exs_cons ?_)
  walk_at "s"
  refine ev_lst ?_
  walk_at "ss"
  refine op_div (by walk_at "l") (by decide) (by decide) ?_
  walk_at "ss"
  refine op_mod (by decide) ?_
  walk_at "ss"
  refine op_mulB (by walk_at "l") ?_
  walk_at "ss"
  refine ⟨by show 2 ≤ _; decide, ?_⟩
  walk_at "ss"
  refine op_div (by walk_at "l") (by decide) (by decide) ?_
  walk_at "ss"
  refine op_mod (by decide) ?_
  walk_at "ss"
  refine op_mulB (by walk_at "l") ?_
  walk_at "ss"
  refine ⟨by show 2 ≤ _; decide, ?_⟩
  walk_at "ss"
  refine ⟨by show 2 ≤ _; decide, ?_⟩
  have D := dirs_of m
  generalize (1 - (m : Int) / 144 % 2 * 2) = d0 at *
  generalize (1 - (m : Int) / 72 % 2 * 2) = d1 at *
  have kp2 := kp1.set (x := "keys") (by decide +kernel) (keyL d0 d1)
  generalize hB : 20 + 10 * i = B at *
  refine then_next (exs_cons ?_)
  show Ex _ _ _ _ ((lo.set "number" (.int (m : Nat))).set "keys" (keyL d0 d1)) _ _
  walk_at "s"
  refine ev_call (ev_glob (by kernel_rfl!) T.g_tcp ⟨_, rfl, .kp T.keep_tcp, ?_⟩)
  walk_at "ss"
  refine cal_fn ?_
  refine fn_tnew T (N := N + 3) hA' (i := B) (d := B + 1) (hfr B (by walk_at "l")) (hfr _ (by walk_at "l")) (by walk_at "l") ?_
  have kp3 := kp2.set (x := "order") (by decide +kernel) (.ref B)
  refine then_next (exs_cons ?_)
  walk_at "s"
  refine ev_lstT (B + 2) ?_
  walk_at "ss"
  refine ⟨by decide, hp_other (by walk_at "l") (hp_other (by walk_at "l") (hfr _ (by walk_at "l"))), ?_⟩
  have kp4 := kp3.set (x := "row") (by decide +kernel) (.ref (B + 2))
  have g1 : ((((σ.set B (.inst T.tcp (B + 1))).set (B + 1) (.attrs [("comp_select_list", keyL d0 d1)])).set (B + 2) (.list []))) B = some (.inst T.tcp (B + 1)) := hp_other (by walk_at "l") (hp_other (by walk_at "l") hp_same)
  have g2 : ((((σ.set B (.inst T.tcp (B + 1))).set (B + 1) (.attrs [("comp_select_list", keyL d0 d1)])).set (B + 2) (.list []))) (B + 1) = some (.attrs [("comp_select_list", keyL d0 d1)]) := hp_other (by walk_at "l") hp_same
  have g3 : ((((σ.set B (.inst T.tcp (B + 1))).set (B + 1) (.attrs [("comp_select_list", keyL d0 d1)])).set (B + 2) (.list []))) (B + 2) = some (.list []) := hp_same
  have g4 : ∀ m, m < B ∨ B + 3 ≤ m → ((((σ.set B (.inst T.tcp (B + 1))).set (B + 1) (.attrs [("comp_select_list", keyL d0 d1)])).set (B + 2) (.list []))) m = σ m := fun m hm => hp_other (by walk_at "l") (hp_other (by walk_at "l") (hp_other (by walk_at "l") rfl))
  have g5 : Wf ((((σ.set B (.inst T.tcp (B + 1))).set (B + 1) (.attrs [("comp_select_list", keyL d0 d1)])).set (B + 2) (.list []))) := ((c3.setI _ _ _).setA _ _).setL _ _
  generalize ((((σ.set B (.inst T.tcp (B + 1))).set (B + 1) (.attrs [("comp_select_list", keyL d0 d1)])).set (B + 2) (.list []))) = σ1 at *
  have e1 : ((((lo.set "number" (.int (m : Nat))).set "keys" (keyL d0 d1)).set "order" (.ref B)).set "row" (.ref (B + 2))) "one" = some (.int (i : Nat)) := by walk_at "lk"
  have e2 : ((((lo.set "number" (.int (m : Nat))).set "keys" (keyL d0 d1)).set "order" (.ref B)).set "row" (.ref (B + 2))) "keys" = some (keyL d0 d1) := by walk_at "lk"
  have e3 : ((((lo.set "number" (.int (m : Nat))).set "keys" (keyL d0 d1)).set "order" (.ref B)).set "row" (.ref (B + 2))) "order" = some (.ref B) := by walk_at "lk"
  have e4 : ((((lo.set "number" (.int (m : Nat))).set "keys" (keyL d0 d1)).set "order" (.ref B)).set "row" (.ref (B + 2))) "row" = some (.ref (B + 2)) := by walk_at "lk"
  refine then_next (exs_cons ?_)
  show Ex C A' _ _ ((((lo.set "number" (.int (m : Nat))).set "keys" (keyL d0 d1)).set "order" (.ref B)).set "row" (.ref (B + 2))) _ _
  generalize ((((lo.set "number" (.int (m : Nat))).set "keys" (keyL d0 d1)).set "order" (.ref B)).set "row" (.ref (B + 2))) = lo1 at *
  clear kp1 kp2 kp3
  have hsb1 : SB W σ1 := hsb.keep h5 (fun m hm => g4 m (by walk_at "l")) g5
  refine ex_row T hA' D hW hi (by walk_at "l") (h.kp kp4 (by decide +kernel)) e1 e3 e4 hsb1 g1 g2 g3 fun lo2 rw kpr hasc hperm => ?_
  have kp5 : Kp ownR lo lo2 := kp4.trans kpr (sub_own (by decide +kernel))
  have f1 := kpr _ _ (by decide +kernel) e1
  have f2 := kpr _ _ (by decide +kernel) e2
  have f4 := kpr _ _ (by decide +kernel) e4
  have hlt : ∀ x ∈ rw, x < W.length := fun x hx => (near_mem.mp (hperm.mem_iff.mp hx)).1
  have hrl : rw.length ≤ 5 := by have := hperm.length_eq; have := near_len W R i; lia
  have g3' : (σ1.set (B + 2) (.list (rw.map (eV W i)))) (B + 2) = some (.list (rw.map (eV W i))) := hp_same
  have g4' : ∀ m, m < B ∨ B + 3 ≤ m → (σ1.set (B + 2) (.list (rw.map (eV W i)))) m = σ m := fun m hm => (hp_other (by walk_at "l") rfl).trans (g4 m hm)
  have g5' : Wf (σ1.set (B + 2) (.list (rw.map (eV W i)))) := g5.setL _ _
  generalize σ1.set (B + 2) (.list (rw.map (eV W i))) = σ2 at *
  clear e1 e2 e3 e4 kp4 kpr g1 g2 g3 hsb1
  refine then_next (exs_cons ?_)
  refine ex_sort T hA' hca hP D hW hi hlt hasc hrl f2 f4 g3' ?_
  refine then_next (exs_cons ?_)
  walk_at "s"
  refine ev_callF Fr (by kernel_rfl!) T.g_rdr ?_
  walk_at "ss"
  rw [show ("" : Str) = S [] from by decide]
  have no : ∀ m, B + 3 ≤ m → σ2 m = none := fun m hm => (g4' m (.inr hm)).trans (hfr m (by walk_at "l"))
  refine fn_rdr T (N := N + 2) hA' (i := B + 3) (d := B + 4) (n := B + 5) (b := B + 6) (no _ (by walk_at "l")) (no _ (by walk_at "l")) (no _ (by walk_at "l")) (no _ (by walk_at "l")) (by walk_at "l") (by walk_at "l") (by walk_at "l") (by walk_at "l") (by walk_at "l") (by walk_at "l") ?_
  have kp6 := kp5.set (x := "rotor") (by decide +kernel) (.ref (B + 3))
  have r1 : (lexH ((σ2.set (B + 3) (.inst T.lex (B + 4))).set (B + 6) (.list [])) (B + 4) (B + 5) [] (.ref (B + 6)) 0) (B + 3) = some (.inst T.lex (B + 4)) := (lexH_o (by walk_at "l") (by walk_at "l")).trans (hp_other (by walk_at "l") hp_same)
  have r2 : (lexH ((σ2.set (B + 3) (.inst T.lex (B + 4))).set (B + 6) (.list [])) (B + 4) (B + 5) [] (.ref (B + 6)) 0) (B + 4) = some (lexO [] (B + 5) (.ref (B + 6)) 0) := lexH_d
  have r3 : (lexH ((σ2.set (B + 3) (.inst T.lex (B + 4))).set (B + 6) (.list [])) (B + 4) (B + 5) [] (.ref (B + 6)) 0) (B + 6) = some (.list []) := (lexH_o (by walk_at "l") (by walk_at "l")).trans hp_same
  have r4 : ∀ m, m < B + 3 ∨ B + 7 ≤ m → (lexH ((σ2.set (B + 3) (.inst T.lex (B + 4))).set (B + 6) (.list [])) (B + 4) (B + 5) [] (.ref (B + 6)) 0) m = σ2 m := fun m hm => (lexH_o (by walk_at "l") (by walk_at "l")).trans (hp_other (by walk_at "l") (hp_other (by walk_at "l") rfl))
  have r5 : Wf (lexH ((σ2.set (B + 3) (.inst T.lex (B + 4))).set (B + 6) (.list [])) (B + 4) (B + 5) [] (.ref (B + 6)) 0) := ((g5'.setI _ _ _).setL _ _).lexH ..
  generalize lexH ((σ2.set (B + 3) (.inst T.lex (B + 4))).set (B + 6) (.list [])) (B + 4) (B + 5) [] (.ref (B + 6)) 0 = σ3 at *
  have f1' : (lo2.set "rotor" (.ref (B + 3))) "one" = some (.int (i : Nat)) := at_other (by decide +kernel) f1
  have f4' : (lo2.set "rotor" (.ref (B + 3))) "row" = some (.ref (B + 2)) := at_other (by decide +kernel) f4
  have f6' : (lo2.set "rotor" (.ref (B + 3))) "rotor" = some (.ref (B + 3)) := at_same
  refine then_next (exs_cons ?_)
  show Ex C A' _ _ (lo2.set "rotor" (.ref (B + 3))) _ _
  generalize lo2.set "rotor" (.ref (B + 3)) = lo3 at *
  clear kp5 f1 f2 f4
  have b3 : σ3 (B + 2) = some (.list (rw.map (eV W i))) := (r4 _ (by walk_at "l")).trans g3'
  refine ex_for1 rw.length (fun k => eV W i (rw.getD k 0)) (fun σ' => lstOf σ' (.ref (B + 2)) = some (rw.map (eV W i))) (fun k lo' σ' => Kp ["entry"] lo3 lo' ∧ σ' = σ3.set (B + 6) (.list ((toS ((rw.take k).map (wd W))).map .str))) (by walk_at "can") ?_ ?_ ?_
  · refine walk_of ?_
    walk_at "nm"
    exact ⟨walk_listC hA'.h (lst_ref b3) (by simp) (fun k hk => by simp [List.getD, hk]), .refl, (set_self r3).symm⟩
  · rintro k K1 hK1 lo' σ' hk ⟨kp, rfl⟩ hJ
    have ek : rw.getD k 0 = rw[k] := by simp [List.getD, hk]
    have htk := take_1 hk
    rw [ek]
    generalize rw[k] = x at *
    have kp' := kp.set (x := "entry") (by decide +kernel) (eV W i x)
    have v1 := kp' _ _ (by decide +kernel) f6'
    have v2 : (lo'.set "entry" (eV W i x)) "entry" = some (eV W i x) := at_same
    generalize lo'.set "entry" (eV W i x) = lo4 at *
    refine exs_cons ?_
    walk_at "s"
    refine ev_methF ?_ (by rfl) (by rfl) (by rfl) (by decide)
    walk_at "ss"
    refine ⟨B + 3, B + 4, T.lex, _, T.fP, rfl, T.klex, (hp_other (by walk_at "l") rfl).trans r1, (hp_other (by walk_at "l") rfl).trans r2, rfl, T.lP, T.tP, .fn hKp hdp, ?_⟩
    walk_at "ss"
    refine gi_tup (m := .str (S (wd W x))) (by decide) (by simp only [List.length_cons, List.length_nil]; lia) (by decide) rfl ?_
    refine evl_nil ?_
    refine cal_fn ?_
    refine fn_pt T (N := N + 4) hA' ((hp_other (by walk_at "l") rfl).trans r1) ((hp_other (by walk_at "l") rfl).trans r2) hp_same (by simp [toS]; lia) ?_
    rw [set_set]
    refine then_next (exs_nil (hK1 _ _ _ (lp_next ?_)))
    refine ⟨⟨kp', ?_⟩, lst_ref ((hp_other (by walk_at "l") rfl).trans b3)⟩
    rw [htk]
    simp [toS]
  · rintro lo' σ' ⟨kp, rfl⟩ _
    rw [List.take_length]
    have kp7 : Kp ownR lo lo' := kp6.trans kp (sub_own (by decide +kernel))
    have v1 := kp _ _ (by decide +kernel) f1'
    have v6 := kp _ _ (by decide +kernel) f6'
    have v7 := kp7 _ _ (by decide +kernel) h2
    have hl7 := h.kp kp7 (by decide +kernel)
    obtain ⟨⟨⟨x1, x2⟩, x3, x4, x5⟩, x6⟩ := id hl7
    have r3' : (σ3.set (B + 6) (.list ((toS (rw.map (wd W))).map .str))) (B + 6) = some (.list ((toS (rw.map (wd W))).map .str)) := hp_same
    have r1' : (σ3.set (B + 6) (.list ((toS (rw.map (wd W))).map .str))) (B + 3) = some (.inst T.lex (B + 4)) := (hp_other (by walk_at "l") rfl).trans r1
    have r2' : (σ3.set (B + 6) (.list ((toS (rw.map (wd W))).map .str))) (B + 4) = some (lexO [] (B + 5) (.ref (B + 6)) 0) := (hp_other (by walk_at "l") rfl).trans r2
    have r4' : ∀ m, m < B ∨ B + 7 ≤ m → (σ3.set (B + 6) (.list ((toS (rw.map (wd W))).map .str))) m = σ m := fun m hm => (hp_other (by walk_at "l") rfl).trans ((r4 m (by walk_at "l")).trans (g4' m (by walk_at "l")))
    have r5' : Wf (σ3.set (B + 6) (.list ((toS (rw.map (wd W))).map .str))) := r5.setL _ _
    generalize σ3.set (B + 6) (.list ((toS (rw.map (wd W))).map .str)) = σ4 at *
    have hsb4 : SB W σ4 := hsb.keep h5 (fun m hm => r4' m (by walk_at "l")) r5'
    obtain ⟨y1, y2, y3⟩ := id hsb4
    refine exs_nil (then_next (exs_cons ?_))
    walk_at "s"
    walk_at "nm"
    walk_at "nm"
    walk_at "ss"
    refine gi_list (l := (toS W).map .str) (lst_ref y1) (by walk_at "l") (by walk_at "l") (toS_at hi) ?_
    refine set_dict ((r4' 11 (by walk_at "l")).trans hdic) (by simp [rotD]; lia) ?_
    rw [show B + 3 = 23 + 10 * i by walk_at "l", rotD_put hW hi]
    refine then_next (exs_nil ?_)
    refine q _ _ (fun k => if k = i then rw else rows k) kp7 ⟨hsb4.keep h5 (fun m hm => hp_other (by walk_at "l") rfl) (r5'.setD _ _), hp_same, fun k hk => ?_, fun k hk => ?_, fun m hm => (hp_other (by walk_at "l") rfl).trans ((r4' m (by walk_at "l")).trans (hfr m (by walk_at "l")))⟩
    · by_cases e : k = i
      · subst e
        rw [if_pos rfl]
        refine ⟨(hp_other (by walk_at "l") rfl).trans ?_, (hp_other (by walk_at "l") rfl).trans ?_, (hp_other (by walk_at "l") rfl).trans ?_⟩
        · rw [show 23 + 10 * k = B + 3 by walk_at "l", show 24 + 10 * k = B + 4 by walk_at "l"]; exact r1'
        · rw [show 24 + 10 * k = B + 4 by walk_at "l", show 25 + 10 * k = B + 5 by walk_at "l", show 26 + 10 * k = B + 6 by walk_at "l"]; exact r2'
        · rw [show 26 + 10 * k = B + 6 by walk_at "l"]; exact r3'
      · rw [if_neg e]
        obtain ⟨z1, z2, z3⟩ := hrot k (by walk_at "l")
        exact ⟨(hp_other (by walk_at "l") rfl).trans ((r4' _ (by walk_at "l")).trans z1), (hp_other (by walk_at "l") rfl).trans ((r4' _ (by walk_at "l")).trans z2), (hp_other (by walk_at "l") rfl).trans ((r4' _ (by walk_at "l")).trans z3)⟩
    · by_cases e : k = i
      · subst e; rw [if_pos rfl]; exact hperm
      · rw [if_neg e]; exact hrow k (by walk_at "l")
end
section
open Rotor (step run run_zero run_succ run_add run_lt hits hits_zero hits_succ hits_pos hits_le hits_fit hits_not ring ring_mem ring_per Fit Eqv cnt_mono entr entr_all balance arcs ball lockin sumTo sumTo_congr)
noncomputable def rotl (l : List Nat) (k : Nat) : List Nat := l.drop (k % l.length) ++ l.take (k % l.length)
theorem rotl_zero (l : List Nat) : rotl l 0 = l := by unfold rotl; rw [Nat.zero_mod]; simp
theorem rotl_per (l : List Nat) (k : Nat) : rotl l (k + l.length) = rotl l k := by unfold rotl; rw [Nat.add_mod_right]
theorem rotl_len (l : List Nat) (k : Nat) : (rotl l k).length = l.length := by
  unfold rotl
  rw [List.length_append, List.length_drop, List.length_take]
  cases l with
  | nil => simp
  | cons x l =>
    have := Nat.mod_lt k (show 0 < (x :: l).length by simp)
    lia
theorem rotl_step {l : List Nat} {k : Nat} (h : 0 < l.length) : ∃ t, rotl l k = l.getD (k % l.length) 0 :: t ∧ rotl l (k + 1) = t ++ [l.getD (k % l.length) 0] := by
  have hk := Nat.mod_lt k h
  have e : l.getD (k % l.length) 0 = l[k % l.length] := by simp [List.getD, hk]
  have e2 := Nat.mod_add_mod k l.length 1
  rw [e]
  refine ⟨l.drop (k % l.length + 1) ++ l.take (k % l.length), ?_, ?_⟩
  · unfold rotl
    rw [List.drop_eq_getElem_cons hk]; rfl
  · unfold rotl
    rw [← e2]
    by_cases q : k % l.length + 1 < l.length
    · rw [Nat.mod_eq_of_lt q, take_1 hk, List.append_assoc]
    · have q' : k % l.length + 1 = l.length := by walk_at "l"
      have := take_1 hk
      rw [q', List.take_length] at this
      rw [q', Nat.mod_self, List.drop_zero, List.take_zero, List.append_nil, List.drop_length, List.nil_append]
      exact this
noncomputable def came (row : Nat → List Nat) (s : Rotor.St) (n v : Nat) : List Nat := match n with
  | 0 => []
  | n + 1 => came row s n v ++ if (run row s (n + 1)).w = v then [(run row s n).w] else []
theorem came_succ (row : Nat → List Nat) (s : Rotor.St) (n v : Nat) : came row s (n + 1) v = came row s n v ++ if (run row s (n + 1)).w = v then [(run row s n).w] else [] := rfl
theorem came_count (row : Nat → List Nat) (s : Rotor.St) (n v u : Nat) : (came row s n v).count u = hits row u v (s.cnt u) ((run row s n).cnt u - s.cnt u) := by
  induction n with
  | zero => rw [run_zero, Nat.sub_self]; rfl
  | succ n ih =>
    have hm := cnt_mono row s n u
    rw [came_succ, List.count_append, ih, run_succ]
    generalize run row s n = r at *
    show _ = hits row u v (s.cnt u) ((if u = r.w then r.cnt u + 1 else r.cnt u) - s.cnt u)
    show _ + (if ring row r.w (r.cnt r.w) = v then [r.w] else []).count u = _
    by_cases q : u = r.w
    · rw [if_pos q, show r.cnt u + 1 - s.cnt u = (r.cnt u - s.cnt u) + 1 by walk_at "l", hits_succ, show s.cnt u + (r.cnt u - s.cnt u) = r.cnt u by walk_at "l", q]
      split <;> simp
    · rw [if_neg q]
      split
      · rw [List.count_cons, if_neg (by simpa using fun e => q e.symm)]; simp
      · simp
theorem came_lt {row : Nat → List Nat} {N : Nat} (O : Rotor.Ok row N) {s : Rotor.St} (hs : s.w < N) (n v : Nat) : ∀ u ∈ came row s n v, u < N := by
  induction n with
  | zero => intro u h; cases h
  | succ n ih =>
    intro u h
    rw [came_succ] at h
    rcases List.mem_append.mp h with h | h
    · exact ih u h
    · split at h
      · rw [List.mem_singleton.mp h]; exact run_lt O hs n
      · cases h
theorem came_nd {row : Nat → List Nat} {N : Nat} (O : Rotor.Ok row N) {s : Rotor.St} (hs : s.w < N) {n : Nat} (F : Fit row N s (run row s n)) (v : Nat) : (came row s n v).Nodup := by
  refine List.nodup_iff_count.mpr fun u => ?_
  by_cases h : u ∈ came row s n v
  · have hu := came_lt O hs n v u h
    rw [came_count]
    exact hits_le O hu (F u hu)
  · rw [List.count_eq_zero_of_not_mem h]; decide
theorem fit_le {row : Nat → List Nat} {N : Nat} {s : Rotor.St} {m : Nat} (E : Eqv row N s (run row s m)) {n : Nat} (h : n ≤ m) : Fit row N s (run row s n) := by
  intro u hu
  have h1 := E.c u hu
  have h2 := cnt_mono row (run row s n) (m - n) u
  rw [← run_add, show n + (m - n) = m by walk_at "l"] at h2
  lia
theorem came_perm {row : Nat → List Nat} {N : Nat} (O : Rotor.Ok row N) {s : Rotor.St} (hs : s.w < N) {m : Nat} (E : Eqv row N s (run row s m)) {v : Nat} (hv : v < N) : (came row s m v).Perm (row v) := by
  have F := fit_le E (Nat.le_refl m)
  refine (List.perm_ext_iff_of_nodup (came_nd O hs F v) (O.nod v hv)).mpr fun u => ?_
  have hb := balance O hs m v
  rw [E.w, E.c v hv] at hb
  rw [← List.count_pos_iff, came_count]
  constructor
  · intro h
    obtain ⟨k, h1, h2, h3⟩ := hits_pos h
    refine Classical.byContradiction fun hc => ?_
    have hu : u < N := by
      refine Classical.byContradiction fun hn => ?_
      have := came_count row s m v u
      rw [List.count_eq_zero_of_not_mem fun e => hn (came_lt O hs m v u e)] at this
      lia
    have := hits_fit O F hv u hu
    rw [if_neg hc] at this; lia
  · intro h
    rw [entr_all O F hv (by walk_at "l") h]; decide
theorem rows_ok {W : List (List Nat)} {R : Int} {rows : Nat → List Nat} (hW : WOk W) (hp : ∀ i, i < W.length → (rows i).Perm (nearOf W R i)) (hh : ∀ v, v < W.length → Hang W R v) : Rotor.Ok rows W.length := by
  have h2 := hW.two
  have key : ∀ v, Hang W R v → v < W.length ∧ (v ≠ 0 → nearOf W R v ≠ [] ∧ nearOf W R 0 ≠ []) := by
    intro v hv
    induction hv with
    | zero => exact ⟨by walk_at "l", fun h => absurd rfl h⟩
    | @step u v hu hv hne ht ih =>
      refine ⟨hv, fun _ => ⟨List.ne_nil_of_mem (a := u) (near_mem.mpr ⟨ih.1, hne, by rw [tb_symm]; exact ht⟩), ?_⟩⟩
      by_cases e : u = 0
      · subst e
        exact List.ne_nil_of_mem (a := v) (near_mem.mpr ⟨hv, hne.symm, ht⟩)
      · exact (ih.2 e).2
  refine ⟨fun v hv u hu => (near_mem.mp ((hp v hv).mem_iff.mp hu)).1, fun v hv => ?_, fun v hv => (hp v hv).nodup_iff.mpr (near_nd W R v), fun v u hv hu => ?_⟩
  · rw [(hp v hv).length_eq]
    refine List.length_pos_iff.mpr ?_
    by_cases e : v = 0
    · subst e; exact ((key 1 (hh 1 (by walk_at "l"))).2 (by decide)).2
    · exact ((key v (hh v hv)).2 e).1
  · rw [(hp v hv).mem_iff, (hp u hu).mem_iff, near_mem, near_mem, tb_symm W v u]
    constructor
    · rintro ⟨a, b, c⟩; exact ⟨hv, b.symm, c⟩
    · rintro ⟨a, b, c⟩; exact ⟨hu, b.symm, c⟩
theorem arcs_eq {W : List (List Nat)} {R : Int} {rows : Nat → List Nat} (hp : ∀ i, i < W.length → (rows i).Perm (nearOf W R i)) : arcs rows W.length = arcsOf W R := sumTo_congr fun i hi => (hp i hi).length_eq
noncomputable def s00 : Rotor.St := ⟨0, fun _ => 0⟩
theorem locked {W : List (List Nat)} {R : Int} {rows : Nat → List Nat} (hW : WOk W) (hp : ∀ i, i < W.length → (rows i).Perm (nearOf W R i)) (hh : ∀ v, v < W.length → Hang W R v) {k : Nat} (hk : 0 < k) (hb : (bfs W R k).length = W.length) :
    Eqv rows W.length (run rows s00 (arcsOf W R * k)) (run rows (run rows s00 (arcsOf W R * k)) (arcsOf W R)) := by
  have O := rows_ok hW hp hh
  have h0 : 0 < W.length := by have := hW.two; lia
  obtain ⟨b1, b2, _⟩ := bfs_ok h0 R k
  have hf := (full_of b1 b2).2 (by walk_at "l")
  have hr : ∀ u v, u < W.length → (v ∈ rows u ↔ v ∈ nearOf W R u) := fun u v hu => (hp u hu).mem_iff
  have := lockin O (s := s00) h0 hk (fun v hv => bfs_ball h0 hr k v (hf v hv)) (arcsOf W R * k) (by rw [arcs_eq hp, Nat.mul_comm]; exact Nat.le_refl _)
  rw [arcs_eq hp, run_add] at this
  exact this
noncomputable def kd (W : List (List Nat)) (f : Nat → MV) (l : List Nat) : List (Str × MV) := l.map fun i => (S (wd W i), f i)
theorem kd_val {W : List (List Nat)} (hW : WOk W) {f : Nat → MV} {j : Nat} (hj : j < W.length) : ∀ {l : List Nat}, (∀ x ∈ l, x < W.length) → valAt (kd W f l) (S (wd W j)) = if j ∈ l then some (f j) else none
  | [], _ => rfl
  | y :: l, h => by
    have ih := kd_val hW (f := f) hj fun x hx => h x (.tail _ hx)
    show (if S (wd W y) = S (wd W j) then some (f y) else valAt (kd W f l) (S (wd W j))) = _
    by_cases e : y = j
    · subst e; rw [if_pos rfl, if_pos (.head _)]
    · rw [if_neg fun q => e (wd_inj hW (h y (.head _)) hj (S_inj.mp q)), ih]
      by_cases q : j ∈ l
      · rw [if_pos q, if_pos (.tail _ q)]
      · rw [if_neg q, if_neg fun z => by rcases List.mem_cons.mp z with z | z; exact e z.symm; exact q z]
theorem kd_put {W : List (List Nat)} (hW : WOk W) {f : Nat → MV} {v : MV} {j : Nat} (hj : j < W.length) : ∀ {l : List Nat}, (∀ x ∈ l, x < W.length) → l.Nodup → putAt (kd W f l) (S (wd W j)) v = if j ∈ l then kd W (fun i => if i = j then v else f i) l else kd W f l ++ [(S (wd W j), v)]
  | [], _, _ => rfl
  | y :: l, h, hn => by
    rw [List.nodup_cons] at hn
    have ih := kd_put hW (f := f) (v := v) hj (fun x hx => h x (.tail _ hx)) hn.2
    show putAt ((S (wd W y), f y) :: kd W f l) _ _ = _
    rw [putAt_cons]
    by_cases e : y = j
    · subst e
      rw [if_pos rfl, if_pos (.head _)]
      show _ = (S (wd W y), if y = y then v else f y) :: kd W _ l
      rw [if_pos rfl]
      congr 1
      refine List.map_congr_left fun i hi => ?_
      show _ = (S (wd W i), if i = y then v else f i)
      rw [if_neg (fun (q : i = y) => hn.1 (q ▸ hi))]
    · rw [if_neg fun q => e (wd_inj hW (h y (.head _)) hj (S_inj.mp q)), ih]
      by_cases q : j ∈ l
      · rw [if_pos q, if_pos (.tail _ q)]
        show _ = (S (wd W y), if y = j then v else f y) :: kd W _ l
        rw [if_neg e]
      · rw [if_neg q, if_neg fun z => by rcases List.mem_cons.mp z with z | z; exact e z.symm; exact q z]
        rfl
theorem kd_snoc {W : List (List Nat)} (hW : WOk W) {f : Nat → MV} {j : Nat} (hj : j < W.length) {l : List Nat} (h : ∀ x ∈ l, x < W.length) (hn : l.Nodup) (hjl : j ∉ l) : putAt (kd W f l) (S (wd W j)) (f j) = kd W f (l ++ [j]) := by
  rw [kd_put hW hj h hn, if_neg hjl]
  unfold kd
  rw [List.map_append]; rfl
theorem kd_all {W : List (List Nat)} (hW : WOk W) {f : Nat → MV} : ∀ (r acc : List Nat), (acc ++ r).Nodup → (∀ x ∈ acc ++ r, x < W.length) → (kd W f r).foldl (fun acc p => putAt acc p.1 p.2) (kd W f acc) = kd W f (acc ++ r)
  | [], acc, _, _ => by rw [List.append_nil]; rfl
  | x :: r, acc, hn, h => by
    show (kd W f r).foldl _ (putAt (kd W f acc) (S (wd W x)) (f x)) = _
    have e : acc ++ x :: r = (acc ++ [x]) ++ r := by simp
    rw [e] at hn h ⊢
    have hn1 := (List.nodup_append.mp hn).1
    rw [kd_snoc hW (h x (by simp)) (fun y hy => h y (by simp [hy])) (List.nodup_append.mp hn1).1 fun q => (List.nodup_append.mp hn1).2.2 x q x (.head _) rfl]
    exact kd_all hW r (acc ++ [x]) hn h
theorem kd_merge {W : List (List Nat)} (hW : WOk W) {f : Nat → MV} {j : Nat} (hj : j < W.length) {l : List Nat} (h : ∀ x ∈ l, x < W.length) (hn : l.Nodup) (hjl : j ∉ l) : mergeC (kd W f l) (S (wd W j)) (f j) = kd W f (l ++ [j]) := by
  have e : putAll (kd W f l) = kd W f l := kd_all hW l [] hn h
  unfold mergeC
  rw [e, kd_val hW hj h, if_neg hjl]
  exact kd_snoc hW hj h hn hjl
theorem kd_same {W : List (List Nat)} (hW : WOk W) {f : Nat → Int} {l l' : List Nat} (hp : l.Perm l') (h : ∀ x ∈ l, x < W.length) (n : Nat) : Same (n + 1) (.dct (kd W (fun i => .int (f i)) l)) (.dct (kd W (fun i => .int (f i)) l')) := by
  refine .dct (by simp [kd, hp.length_eq]) ?_
  have h' : ∀ x ∈ l', x < W.length := fun x hx => h x (hp.mem_iff.mpr hx)
  have key : ∀ r : List Nat, (∀ x ∈ r, x ∈ l) → Samed n (kd W (fun i => .int (f i)) r) (kd W (fun i => .int (f i)) l') := by
    intro r
    induction r with
    | nil => intro _; exact .nil _ _
    | cons x r ih =>
      intro hr
      have hx := hr x (.head _)
      refine .cons (k := S (wd W x)) (b := .int (f x)) ?_ (.int _ _) (ih fun y hy => hr y (.tail _ hy))
      rw [kd_val hW (h x hx) h', if_pos (hp.mem_iff.mp hx)]
  exact key l fun _ h => h
end
section
set_option maxHeartbeats 400000

open Rotor (step run run_zero run_succ run_lt)
noncomputable def qV (W : List (List Nat)) (l : List Nat) : List MV := (toS (l.map (wd W))).map .str
structure SQ (lex : Addr) (W : List (List Nat)) (rows : Nat → List Nat) (s : Rotor.St) (σ : Hp) : Prop where
  sb : SB W σ
  dict : σ 11 = some (.dict (rotD W W.length))
  rot : ∀ i, i < W.length → RotAt lex σ i ((rotl (rows i) (s.cnt i)).map (wd W))
theorem SR.sq {lex : Addr} {W : List (List Nat)} {R : Int} {rows : Nat → List Nat} {σ : Hp} (h : SR lex W R W.length rows σ) : SQ lex W rows s00 σ := ⟨h.sb, h.dict, fun i hi => by
  have := h.rot i hi
  show RotAt lex σ i ((rotl (rows i) 0).map (wd W))
  rw [rotl_zero]; exact this⟩
theorem rotD_val {W : List (List Nat)} (hW : WOk W) {i : Nat} (hi : i < W.length) : valAt (rotD W W.length) (S (wd W i)) = some (.ref (23 + 10 * i)) :=
  (kd_val hW (f := fun i => .ref (23 + 10 * i)) hi (l := List.range W.length) fun x hx => List.mem_range.mp hx).trans (if_pos (List.mem_range.mpr hi))
theorem SQ.go {lex : Addr} {W : List (List Nat)} {rows : Nat → List Nat} {s : Rotor.St} {σ : Hp} (h : SQ lex W rows s σ) (hW : WOk W) (O : Rotor.Ok rows W.length) (hw : s.w < W.length) :
    ∃ t, σ (26 + 10 * s.w) = some (.list (.str (S (wd W (step rows s).w)) :: t)) ∧ t.length ≤ 1000 ∧ SQ lex W rows (step rows s) (σ.set (26 + 10 * s.w) (.list (t ++ [.str (S (wd W (step rows s).w))]))) := by
  obtain ⟨t, t1, t2⟩ := rotl_step (k := s.cnt s.w) (O.pos _ hw)
  obtain ⟨r1, r2, r3⟩ := h.rot _ hw
  have hl := rotl_len (rows s.w) (s.cnt s.w)
  have h5 := hW.five
  have hle := (full_of (O.nod _ hw) (O.lt _ hw)).1
  rw [t1] at r3 hl
  refine ⟨qV W t, r3, by simp [qV, toS]; simp at hl; lia, h.sb.keep h5 (fun m hm => hp_other (by walk_at "l") rfl) (h.sb.wf.setL _ _), (hp_other (by walk_at "l") rfl).trans h.dict, fun i hi => ?_⟩
  by_cases e : i = s.w
  · subst e
    show RotAt lex _ _ ((rotl (rows s.w) (if s.w = s.w then s.cnt s.w + 1 else s.cnt s.w)).map (wd W))
    rw [if_pos rfl, t2]
    refine ⟨(hp_other (by walk_at "l") rfl).trans r1, (hp_other (by walk_at "l") rfl).trans r2, hp_same.trans ?_⟩
    simp only [qV, toS, List.map_append, List.map_cons, List.map_nil]
    rfl
  · show RotAt lex _ _ ((rotl (rows i) (if i = s.w then s.cnt i + 1 else s.cnt i)).map (wd W))
    rw [if_neg e]
    obtain ⟨z1, z2, z3⟩ := h.rot i hi
    exact ⟨(hp_other (by walk_at "l") rfl).trans z1, (hp_other (by walk_at "l") rfl).trans z2, (hp_other (by walk_at "l") rfl).trans z3⟩
variable {C : Cx} {A : Around} {σ : Hp} {Q : MV → Hp → Prop} {QS : Fl → Loc → Hp → Prop}
theorem ex_rotors (T : Tm C) {N : Nat} {A' : Around} (hA' : Ar A' (N + 5)) {c f L : Addr} (hca : CodeAt C.K c T.Plaw) (hP : T.Plaw ∈ C.tabs) {lo : Loc} {d : List Nat} {W : List (List Nat)} {R n k : Int} (hd : DrOk d) (hW : WOk W) (hWm : ∀ w ∈ W, w ∈ meantOf d)
    (h : LC d W R lo) (ha : lo "arcs" = some (.int n)) (hr : lo "rounds" = some (.int k)) (hs : SB W σ) (hfr : ∀ m, 11 ≤ m → σ m = none)
    (q : ∀ lo' σ' rows, LC d W R lo' → lo' "arcs" = some (.int n) → lo' "rounds" = some (.int k) → lo' "rotors" = some (.ref 11) → SR T.lex W R W.length rows σ' → Exs C A' (fmL (.ref c) f L) (lawB.drop 22) lo' σ' QS) :
    Exs C A' (fmL (.ref c) f L) (lawB.drop 20) lo σ QS := by
  have h5 := hW.five
  refine exs_cons ?_
  walk_at "s"
  refine ev_dctT 11 (hfr 11 (by walk_at "l")) ?_
  have hl1 := h.lk (y := "rotors") (by decide +kernel) (by decide +kernel) (.ref 11)
  refine then_next (exs_cons ?_)
  refine ex_for1 W.length (fun i => .int (i : Nat)) (fun _ => True) (fun i lo' σ' => ∃ rows, A5 (LC d W R lo') (lo' "arcs" = some (.int n)) (lo' "rounds" = some (.int k)) (lo' "rotors" = some (.ref 11)) (SR T.lex W R i rows σ')) (by walk_at "can") ?_ ?_ ?_
  · refine walk_of ?_
    obtain ⟨⟨⟨m1, m2⟩, m3, m4, m5⟩, m6⟩ := id hl1
    walk_at "nm"
    refine ⟨walk_places hA'.h (by walk_at "l"), fun _ => [], hl1, by walk_at "lk", by walk_at "lk", at_same, hs.keep h5 (fun m hm => hp_other (by walk_at "l") rfl) (hs.wf.setD _ _), hp_same, fun i hi => absurd hi (by walk_at "l"), fun i hi => absurd hi (by walk_at "l"), fun m hm => hp_other (by walk_at "l") (hfr m (by walk_at "l"))⟩
  · rintro i K1 hK1 lo' σ' hi ⟨rows, h1, h2, h3, h4, h6⟩ _
    have kp := (Kp.refl (own := ownR) (lo := lo')).set (x := "one") (by decide +kernel) (.int (i : Nat))
    have v1 : (lo'.set "one" (.int (i : Nat))) "one" = some (.int (i : Nat)) := at_same
    generalize lo'.set "one" (.int (i : Nat)) = lo1 at *
    refine ex_turn T hA' hca hP hd hW hWm hi (h1.kp kp (by decide +kernel)) v1 (kp _ _ (by decide +kernel) h4) h6 fun lo2 σ2 rows2 kp2 hs2 => ?_
    have kp3 : Kp ownR lo' lo2 := kp.trans kp2 fun y hy => hy
    exact hK1 _ _ _ (lp_next ⟨⟨rows2, h1.kp kp3 (by decide +kernel), kp3 _ _ (by decide +kernel) h2, kp3 _ _ (by decide +kernel) h3, kp3 _ _ (by decide +kernel) h4, hs2⟩, trivial⟩)
  · rintro lo' σ' ⟨rows, h1, h2, h3, h4, h6⟩ _
    exact exs_nil (then_next (q lo' σ' rows h1 h2 h3 h4 h6))
noncomputable abbrev ownW : List Str := ["here", "step", "rotor", "begin", "lines", "word", "before", "price", "book"]
theorem ex_walk1 (T : Tm C) {N : Nat} {A' : Around} (hA' : Ar A' (N + 5)) {cd : Value} {f L : Addr} {lo : Loc} {d : List Nat} {W : List (List Nat)} {R : Int} {n k : Nat} {rows : Nat → List Nat} (hW : WOk W) (O : Rotor.Ok rows W.length) (hn : n ≤ 25) (hk : k ≤ 5)
    (h : LC d W R lo) (ha : lo "arcs" = some (.int n)) (hr : lo "rounds" = some (.int k)) (ht : lo "rotors" = some (.ref 11)) (hs : SQ T.lex W rows s00 σ) (hfr : ∀ m, 70 ≤ m → σ m = none)
    (q : ∀ lo' σ', Kp ownW lo lo' → lo' "here" = some (.str (S (wd W (run rows s00 (n * k)).w))) → SQ T.lex W rows (run rows s00 (n * k)) σ' → (∀ m, 70 ≤ m → σ' m = none) → Exs C A' (fmL cd f L) (lawB.drop 24) lo' σ' QS) :
    Exs C A' (fmL cd f L) (lawB.drop 22) lo σ QS := by
  obtain ⟨cg, Fg⟩ := id T.FG
  obtain ⟨og, fdg, hKg, hdg, _⟩ := Fg.ex
  obtain ⟨cp, Fp⟩ := id T.FP
  obtain ⟨op, fdp, hKp, hdp, _⟩ := Fp.ex
  have h5 := hW.five
  have h0 : 0 < W.length := by have := hW.two; lia
  have hnk : n * k ≤ 25 * 5 := Nat.mul_le_mul hn hk
  refine exs_cons ?_
  walk_at "s"
  walk_at "s"
  rw [show ("a#" : Str) = S (wd W (run rows s00 0).w) by rw [run_zero]; show _ = S (wd W 0); rw [wd_zero hW]; decide]
  have kp1 := (Kp.refl (own := ownW) (lo := lo)).set (x := "here") (by decide +kernel) (.str (S (wd W (run rows s00 0).w)))
  refine then_next (exs_cons ?_)
  refine ex_forR (n * k) (fun t lo' σ' => A4 (Kp ownW lo lo') (lo' "here" = some (.str (S (wd W (run rows s00 t).w)))) (SQ T.lex W rows (run rows s00 t) σ') (∀ m, 70 ≤ m → σ' m = none)) hA'.h T.b_range (by kernel_rfl!) (by walk_at "can") (by walk_at "l") ?_ ?_ ?_
  · walk_at "ss"
    refine op_mulB (by walk_at "l") ?_
    exact ⟨congrArg MV.int (Int.natCast_mul n k).symm, kp1, at_same, hs, hfr⟩
  · rintro t K1 hK1 lo' σ' ht' ⟨kp, l1, hq, hf⟩
    have hw := run_lt O (s := s00) h0 t
    have ht2 := kp _ _ (by decide +kernel) ht
    have kp2 := kp.set (x := "step") (by decide +kernel) (.int t)
    have l2 : (lo'.set "step" (.int t)) "here" = some (.str (S (wd W (run rows s00 t).w))) := at_other (by decide +kernel) l1
    have l3 : (lo'.set "step" (.int t)) "rotors" = some (.ref 11) := at_other (by decide +kernel) ht2
    generalize lo'.set "step" (.int t) = lo1 at *
    rw [run_succ] at hK1
    generalize run rows s00 t = s at *
    obtain ⟨ml, g1, g2, g3⟩ := hq.go hW O hw
    obtain ⟨q1, q2, q3⟩ := id hq
    obtain ⟨r1, r2, _⟩ := q3 _ hw
    refine exs_cons ?_
    walk_at "s"
    walk_at "s"
    walk_at "nm"
    walk_at "nm"
    refine gi_dct (dct_ref q2) (rotD_val hW hw) ?_
    have kp3 := kp2.set (x := "rotor") (by decide +kernel) (.ref (23 + 10 * s.w))
    have l4 : (lo1.set "rotor" (.ref (23 + 10 * s.w))) "rotor" = some (.ref (23 + 10 * s.w)) := at_same
    refine then_next (exs_cons ?_)
    show Ex C A' _ _ (lo1.set "rotor" (.ref (23 + 10 * s.w))) _ _
    generalize lo1.set "rotor" (.ref (23 + 10 * s.w)) = lo2 at *
    walk_at "s"
    refine ev_methF ?_ (by rfl) (by rfl) (by rfl) (by decide)
    walk_at "nm"
    refine ⟨23 + 10 * s.w, 24 + 10 * s.w, T.lex, _, T.fG, rfl, T.klex, r1, r2, rfl, T.lG, T.tG, .fn hKg hdg, ?_⟩
    refine evl_nil ?_
    refine cal_fn ?_
    refine fn_gp T (N := N + 4) hA' r1 r2 g1 (by walk_at "l") ?_
    have kp4 := kp3.set (x := "here") (by decide +kernel) (.str (S (wd W (step rows s).w)))
    have l5 : (lo2.set "here" (.str (S (wd W (step rows s).w)))) "rotor" = some (.ref (23 + 10 * s.w)) := at_other (by decide +kernel) l4
    have l6 : (lo2.set "here" (.str (S (wd W (step rows s).w)))) "here" = some (.str (S (wd W (step rows s).w))) := at_same
    refine then_next (exs_cons ?_)
    show Ex C A' _ _ (lo2.set "here" (.str (S (wd W (step rows s).w)))) _ _
    generalize lo2.set "here" (.str (S (wd W (step rows s).w))) = lo3 at *
    walk_at "s"
    refine ev_methF ?_ (by rfl) (by rfl) (by rfl) (by decide)
    walk_at "nm"
    refine ⟨23 + 10 * s.w, 24 + 10 * s.w, T.lex, _, T.fP, rfl, T.klex, (hp_other (by walk_at "l") rfl).trans r1, (hp_other (by walk_at "l") rfl).trans r2, rfl, T.lP, T.tP, .fn hKp hdp, ?_⟩
    refine evl_cons ?_
    walk_at "nm"
    refine evl_nil ?_
    refine cal_fn ?_
    refine fn_pt T (N := N + 4) hA' ((hp_other (by walk_at "l") rfl).trans r1) ((hp_other (by walk_at "l") rfl).trans r2) hp_same (by walk_at "l") ?_
    rw [set_set]
    refine then_next (exs_nil (hK1 _ _ _ (lp_next ?_)))
    exact ⟨kp4, l6, g3, fun m hm => hp_other (by walk_at "l") (hf m hm)⟩
  · rintro lo' σ' ⟨kp, l1, hq, hf⟩
    exact exs_nil (then_next (q lo' σ' kp l1 hq hf))
end
section
set_option maxHeartbeats 400000

open Rotor (step run run_zero run_succ run_lt)
noncomputable def linV (W : List (List Nat)) (rows : Nat → List Nat) (s : Rotor.St) (i : Nat) : MV := .lst (qV W (rotl (rows i) (s.cnt i)))
noncomputable def linesV (W : List (List Nat)) (rows : Nat → List Nat) (s : Rotor.St) : MV := .lst ((List.range W.length).map (linV W rows s))
noncomputable def bkV (W : List (List Nat)) (us : List Nat) (j : Nat) : MV := .tup [.int us.length, .int us.length, .int (us.map fun u => tb W u j).sum, .int (us.map fun u => tb W u j * tb W u j).sum, .dct (kd W (fun u => .int (tb W u j)) us)]
noncomputable def bkD (W : List (List Nat)) (rows : Nat → List Nat) (s : Rotor.St) (t n : Nat) : List (Str × MV) := kd W (fun j => bkV W (came rows s t j) j) (List.range n)
theorem SQ.keep {lex : Addr} {W : List (List Nat)} {rows : Nat → List Nat} {s : Rotor.St} {σ σ' : Hp} (h : SQ lex W rows s σ) (hW : W.length ≤ 5) (hk : ∀ m, m < 70 → σ' m = σ m) (hw : Wf σ') : SQ lex W rows s σ' :=
  ⟨h.sb.keep hW (fun m hm => hk m (by walk_at "l")) hw, (hk 11 (by decide)).trans h.dict, fun i hi => by
    obtain ⟨a, b, c⟩ := h.rot i hi
    exact ⟨(hk _ (by walk_at "l")).trans a, (hk _ (by walk_at "l")).trans b, (hk _ (by walk_at "l")).trans c⟩⟩
theorem bk_add (W : List (List Nat)) (us : List Nat) (u j : Nat) {m : MV} (h : m = .dct (kd W (fun u => .int (tb W u j)) (us ++ [u]))) : MV.tup [.int (1 + us.length), .int (1 + us.length), .int (tb W u j + (us.map fun u => tb W u j).sum), .int (tb W u j * tb W u j + (us.map fun u => tb W u j * tb W u j).sum), m] = bkV W (us ++ [u]) j := by
  subst h
  unfold bkV
  simp only [List.map_append, List.sum_append, List.length_append, List.map_cons, List.map_nil, List.sum_cons, List.sum_nil, List.length_cons, List.length_nil]
  congr 2
  · congr 1; lia
  congr 1
  · congr 1; lia
  congr 1
  · congr 1; lia
  congr 1
  · congr 1; lia
theorem bk_go {W : List (List Nat)} (hW : WOk W) {rows : Nat → List Nat} {s : Rotor.St} {t : Nat} (hw : (run rows s (t + 1)).w < W.length) : putAt (bkD W rows s t W.length) (S (wd W (run rows s (t + 1)).w)) (bkV W (came rows s t (run rows s (t + 1)).w ++ [(run rows s t).w]) (run rows s (t + 1)).w) = bkD W rows s (t + 1) W.length := by
  unfold bkD
  rw [kd_put hW hw (fun x hx => List.mem_range.mp hx) List.nodup_range, if_pos (List.mem_range.mpr hw)]
  refine List.map_congr_left fun i hi => ?_
  show (S (wd W i), if i = (run rows s (t + 1)).w then _ else bkV W (came rows s t i) i) = (S (wd W i), bkV W (came rows s (t + 1) i) i)
  rw [came_succ]
  by_cases e : i = (run rows s (t + 1)).w
  · subst e; rw [if_pos rfl, if_pos rfl]
  · rw [if_neg e, if_neg (Ne.symm e), List.append_nil]
variable {C : Cx} {A : Around} {σ : Hp} {Q : MV → Hp → Prop} {QS : Fl → Loc → Hp → Prop}
theorem ev_attrS {fm : Fm} {loc : Loc} {o : Expr} {name : Str} {pos : Pos} (h : Ev C A fm o loc σ fun m σ₁ => Att C A fm name m loc σ₁ Q)
    (hbase : attributeBase o name fm.env (eval o fm.env) = eval o fm.env := by rfl) : Ev C A fm (.Attribute o name pos) loc σ Q := fun fa g s r => by
  rw [arm_eval_Attribute, hbase]
  refine wpAny_bind (wpAny_mono (h fa g s r) ?_ fun _ _ e => e)
  rintro v s₁ ⟨g₁, m, σ₁, r₁, hv, d₁, h₁⟩
  refine wpAny_bind (wpAny_standAt (wpAny_bind (wpAny_holding (wpAny_mono (h₁ fa g₁ s₁ v true r₁ hv) ?_ fun _ _ e => e))))
  intro u s₂ p
  exact wpAny_bind (wpAny_letTemporaryGo (wpAny_pure (p.trans d₁)))
theorem ex_mid (T : Tm C) {N : Nat} {A' : Around} (hA' : Ar A' (N + 5)) {cd : Value} {f L : Addr} {lo : Loc} {d : List Nat} {W : List (List Nat)} {R : Int} {rows : Nat → List Nat} {s : Rotor.St} (hW : WOk W) (O : Rotor.Ok rows W.length)
    (h : LC d W R lo) {hv : MV} (hh : lo "here" = some hv) (ht : lo "rotors" = some (.ref 11)) (hs : SQ T.lex W rows s σ) (hfr : ∀ m, 70 ≤ m → σ m = none)
    (q : ∀ lo' σ', Kp ownW lo lo' → lo' "here" = some hv → lo' "begin" = some hv → lo' "lines" = some (linesV W rows s) → lo' "book" = some (.ref 70) → SQ T.lex W rows s σ' → σ' 70 = some (.dict (bkD W rows s 0 W.length)) → (∀ m, 71 ≤ m → σ' m = none) → Exs C A' (fmL cd f L) (lawB.drop 28) lo' σ' QS) :
    Exs C A' (fmL cd f L) (lawB.drop 24) lo σ QS := by
  have h5 := hW.five
  obtain ⟨sb, sd, sr⟩ := id hs
  obtain ⟨c1, c2, c3⟩ := id sb
  refine exs_cons ?_
  walk_at "s"
  walk_at "nm"
  have kp1 := (Kp.refl (own := ownW) (lo := lo)).set (x := "begin") (by decide +kernel) hv
  have l1 : (lo.set "begin" hv) "here" = some hv := at_other (by decide +kernel) hh
  have l2 : (lo.set "begin" hv) "begin" = some hv := at_same
  have l3 := kp1 _ _ (by decide +kernel) ht
  have hl1 := h.kp kp1 (by decide +kernel)
  refine then_next (exs_cons ?_)
  show Ex C A' _ (.Assign _ (.ListComp _ (_ :: _) _ _) _) (lo.set "begin" hv) _ _
  generalize lo.set "begin" hv = lo1 at *
  obtain ⟨⟨⟨m1, m2⟩, m3, m4, m5⟩, m6⟩ := id hl1
  refine ex_comp (compOk_of (by kernel_rfl!)) W.length (fun i => .str (S (wd W i))) (fun σ' => lstOf σ' (.ref 4) = some ((toS W).map .str)) (fun i l σ' ys => A3 (σ' = σ) (l "rotors" = some (.ref 11)) (ys = (List.range i).map (linV W rows s))) ?_ (by intro g h; cases h) ?_ ?_ (by walk_at "can") (by kernel_rfl!)
  · refine walk_of ?_
    walk_at "ss"
    exact ⟨walk_listC hA'.h (lst_ref c1) (by simp [toS]) (fun k hk => by rw [List.getElem?_map, toS, List.getElem?_map, wd_at hk]; rfl), rfl, (if_pos (by kernel_rfl!)).trans l3, rfl⟩
  · rintro L' a i l σ' ys hi ⟨rfl, p1, rfl⟩ hJ
    obtain ⟨r1, r2, r3⟩ := sr i hi
    have hl := rotl_len (rows i) (s.cnt i)
    have hle := (full_of (O.nod _ hi) (O.lt _ hi)).1
    refine st_name (by walk_at "can") ?_
    show Inn _ _ _ _ _ _ _ _ _
    refine inn_emit rfl (by simp; lia) ?_
    refine ev_callB (.ty _) (by kernel_rfl!) T.b_list.1 T.b_list.2 ?_
    refine evl_cons ?_
    refine ev_attrS ?_
    walk_at "ss"
    refine gi_dct (dct_ref sd) (rotD_val hW hi) ?_
    refine att_inst T.klex r1 r2 (v := .ref (26 + 10 * i)) rfl rfl T.n4 ?_
    refine evl_nil ?_
    refine cal_listL (l := qV W (rotl (rows i) (s.cnt i))) (lst_ref r3) (by simp [qV, toS]; lia) ?_
    refine ⟨⟨rfl, by walk_at "lk", ?_⟩, hJ⟩
    rw [List.range_succ, List.map_append]; rfl
  rintro l σ' ys ⟨rfl, p1, rfl⟩ _
  have kp2 := kp1.set (x := "lines") (by decide +kernel) (linesV W rows s)
  have l4 : (lo1.set "lines" (linesV W rows s)) "here" = some hv := at_other (by decide +kernel) l1
  have l5 : (lo1.set "lines" (linesV W rows s)) "begin" = some hv := at_other (by decide +kernel) l2
  have l6 : (lo1.set "lines" (linesV W rows s)) "lines" = some (linesV W rows s) := at_same
  have l7 : (lo1.set "lines" (linesV W rows s)) "words" = some (.ref 4) := at_other (by decide +kernel) m3
  show Then _ _ _ _ _ _ (lo1.set "lines" (linesV W rows s)) _
  generalize lo1.set "lines" (linesV W rows s) = lo2 at *
  clear l1 l2 l3 hl1 m1 m2 m3 m4 m5 m6
  refine then_next (exs_cons ?_)
  walk_at "s"
  refine ev_dctT 70 (hfr 70 (by walk_at "l")) ?_
  have kp3 := kp2.set (x := "book") (by decide +kernel) (.ref 70)
  have n4 : (lo2.set "book" (.ref 70)) "here" = some hv := at_other (by decide +kernel) l4
  have n5 : (lo2.set "book" (.ref 70)) "begin" = some hv := at_other (by decide +kernel) l5
  have n6 : (lo2.set "book" (.ref 70)) "lines" = some (linesV W rows s) := at_other (by decide +kernel) l6
  have n7 : (lo2.set "book" (.ref 70)) "words" = some (.ref 4) := at_other (by decide +kernel) l7
  have n8 : (lo2.set "book" (.ref 70)) "book" = some (.ref 70) := at_same
  refine then_next (exs_cons ?_)
  show Ex C A' _ _ (lo2.set "book" (.ref 70)) _ _
  generalize lo2.set "book" (.ref 70) = lo3 at *
  clear l4 l5 l6 l7
  refine ex_for1 W.length (fun i => .str (S (wd W i))) (fun σ' => lstOf σ' (.ref 4) = some ((toS W).map .str)) (fun i lo' σ2 => Kp ["word"] lo3 lo' ∧ σ2 = σ'.set 70 (.dict (bkD W rows s 0 i))) (by walk_at "can") ?_ ?_ ?_
  · refine walk_of ?_
    walk_at "nm"
    exact ⟨walk_listC hA'.h (lst_ref ((hp_other (by decide) rfl).trans c1)) (by simp [toS]) (fun k hk => by rw [List.getElem?_map, toS, List.getElem?_map, wd_at hk]; rfl), .refl, rfl⟩
  · rintro i K1 hK1 lo' σ2 hi ⟨kp, rfl⟩ hJ
    have kp' := kp.set (x := "word") (by decide +kernel) (.str (S (wd W i)))
    have v1 : (lo'.set "word" (.str (S (wd W i)))) "word" = some (.str (S (wd W i))) := at_same
    have v2 := kp' _ _ (by decide +kernel) n8
    generalize lo'.set "word" (.str (S (wd W i))) = lo4 at *
    refine exs_cons ?_
    walk_at "s"
    refine ev_tup ?_ (by with_unfolding_all rfl)
    walk_at "ss"
    refine ev_dct0 ?_
    walk_at "ss"
    refine ⟨by show 5 ≤ _; decide, ?_⟩
    walk_at "ss"
    refine set_dict hp_same (by simp [bkD, kd]; lia) ?_
    rw [set_set]
    refine then_next (exs_nil (hK1 _ _ _ (lp_next ?_)))
    refine ⟨⟨kp', ?_⟩, lst_ref ((hp_other (by decide) rfl).trans c1)⟩
    congr 2
    have := kd_snoc hW (f := fun j => bkV W (came rows s 0 j) j) hi (l := List.range i) (fun x hx => by have := List.mem_range.mp hx; lia) List.nodup_range (fun e => by have := List.mem_range.mp e; lia)
    rw [← List.range_succ] at this
    exact this
  · rintro lo' σ2 ⟨kp, rfl⟩ _
    have kp4 : Kp ownW lo lo' := kp3.trans kp (sub_own (by decide +kernel))
    refine exs_nil (then_next (q lo' _ kp4 (kp _ _ (by decide +kernel) n4) (kp _ _ (by decide +kernel) n5) (kp _ _ (by decide +kernel) n6) (kp _ _ (by decide +kernel) n8) (hs.keep h5 (fun m hm => hp_other (by walk_at "l") rfl) (c3.setD _ _)) hp_same fun m hm => hp_other (by walk_at "l") (hfr m (by walk_at "l"))))
end
section
set_option maxHeartbeats 400000

open Rotor (step run run_zero run_succ run_lt)
theorem toS_no {W : List (List Nat)} (hW : WOk W) {i : Nat} (hi : i < W.length) : (toS W)[i]? = some (S (wd W i)) ∧ ∀ t, t < i → (toS W)[t]? ≠ some (S (wd W i)) := by
  refine ⟨by rw [toS, List.getElem?_map, wd_at hi]; rfl, fun t ht e => ?_⟩
  rw [toS, List.getElem?_map, wd_at (by walk_at "l")] at e
  have := wd_inj hW (by walk_at "l") hi (S_inj.mp (Option.some.inj e))
  lia
theorem kd_cv {W : List (List Nat)} {f : Nat → Int} {l : List Nat} : ∀ q ∈ kd W (fun u => .int (f u)) l, CVk true q.2 := fun q hq => by
  obtain ⟨i, _, rfl⟩ := List.mem_map.mp hq
  exact .int _
noncomputable abbrev ownV : List Str := ["here", "step", "rotor", "before", "price"]
variable {C : Cx} {A : Around} {σ : Hp} {Q : MV → Hp → Prop} {QS : Fl → Loc → Hp → Prop}
theorem ex_walk2 (T : Tm C) {N : Nat} {A' : Around} (hA' : Ar A' (N + 5)) {cd : Value} {f L : Addr} {lo : Loc} {d : List Nat} {W : List (List Nat)} {R : Int} {rows : Nat → List Nat} {s : Rotor.St} {n : Nat} (hW : WOk W) (O : Rotor.Ok rows W.length) (hn : n ≤ 25) (h0 : s.w < W.length) (hF : ∀ t, t ≤ n → Rotor.Fit rows W.length s (run rows s t))
    (h : LC d W R lo) (ha : lo "arcs" = some (.int n)) (hh : lo "here" = some (.str (S (wd W s.w)))) (ht : lo "rotors" = some (.ref 11)) (hb : lo "book" = some (.ref 70)) (hs : SQ T.lex W rows s σ) (hd : σ 70 = some (.dict (bkD W rows s 0 W.length))) (hfr : ∀ m, 71 ≤ m → σ m = none)
    (q : ∀ lo' σ', Kp ownV lo lo' → lo' "here" = some (.str (S (wd W (run rows s n).w))) → SQ T.lex W rows (run rows s n) σ' → σ' 70 = some (.dict (bkD W rows s n W.length)) → (∀ m, 71 ≤ m → σ' m = none) → Exs C A' (fmL cd f L) (lawB.drop 29) lo' σ' QS) :
    Exs C A' (fmL cd f L) (lawB.drop 28) lo σ QS := by
  obtain ⟨cg, Fg⟩ := id T.FG
  obtain ⟨og, fdg, hKg, hdg, _⟩ := Fg.ex
  obtain ⟨cp, Fp⟩ := id T.FP
  obtain ⟨op, fdp, hKp, hdp, _⟩ := Fp.ex
  obtain ⟨ca, Fa⟩ := id T.Fafs
  have h5 := hW.five
  refine exs_cons ?_
  refine ex_forR n (fun t lo' σ' => A5 (Kp ownV lo lo') (lo' "here" = some (.str (S (wd W (run rows s t).w)))) (SQ T.lex W rows (run rows s t) σ') (σ' 70 = some (.dict (bkD W rows s t W.length))) (∀ m, 71 ≤ m → σ' m = none)) hA'.h T.b_range (by kernel_rfl!) (by walk_at "can") (by walk_at "l") ?_ ?_ ?_
  · walk_at "ss"
    exact ⟨rfl, .refl, hh, hs, hd, hfr⟩
  · rintro t K1 hK1 lo' σ' ht' ⟨kp, l1, hq, hbk, hf⟩
    have hw := run_lt O (s := s) h0 t
    have hw' := run_lt O (s := s) h0 (t + 1)
    have hlc := h.kp kp (by decide +kernel)
    have ht2 := kp _ _ (by decide +kernel) ht
    have hb2 := kp _ _ (by decide +kernel) hb
    have hgo := bk_go hW (rows := rows) (s := s) (t := t) hw'
    have hnd := came_nd O h0 (hF (t + 1) ht') (run rows s (t + 1)).w
    rw [came_succ, if_pos rfl] at hnd
    have hcl := came_lt O h0 t (run rows s (t + 1)).w
    have hbv : valAt (bkD W rows s t W.length) (S (wd W (run rows s (t + 1)).w)) = some (bkV W (came rows s t (run rows s (t + 1)).w) (run rows s (t + 1)).w) :=
      (kd_val hW hw' (l := List.range W.length) fun x hx => List.mem_range.mp hx).trans (if_pos (List.mem_range.mpr hw'))
    have hbl : (bkD W rows s t W.length).length ≤ 5 := by simp [bkD, kd]; exact h5
    generalize bkD W rows s t W.length = bk0 at *
    generalize bkD W rows s (t + 1) W.length = bk1 at *
    rw [run_succ] at hK1 hgo hnd hcl hbv hw'
    generalize came rows s t (step rows (run rows s t)).w = us at *
    have kp2 := kp.set (x := "step") (by decide +kernel) (.int t)
    have l2 : (lo'.set "step" (.int t)) "here" = some (.str (S (wd W (run rows s t).w))) := at_other (by decide +kernel) l1
    generalize lo'.set "step" (.int t) = lo1 at *
    generalize run rows s t = z at *
    obtain ⟨ml, g1, g2, g3⟩ := hq.go hW O hw
    obtain ⟨q1, q2, q3⟩ := id hq
    obtain ⟨r1, r2, _⟩ := q3 _ hw
    refine exs_cons ?_
    walk_at "s"
    walk_at "nm"
    have kp3 := kp2.set (x := "before") (by decide +kernel) (.str (S (wd W z.w)))
    have l3 : (lo1.set "before" (.str (S (wd W z.w)))) "before" = some (.str (S (wd W z.w))) := at_same
    have l4 := kp3 _ _ (by decide +kernel) ht
    refine then_next (exs_cons ?_)
    show Ex C A' _ _ (lo1.set "before" (.str (S (wd W z.w)))) _ _
    generalize lo1.set "before" (.str (S (wd W z.w))) = lo2 at *
    walk_at "s"
    walk_at "s"
    walk_at "nm"
    walk_at "nm"
    refine gi_dct (dct_ref q2) (rotD_val hW hw) ?_
    have kp4 := kp3.set (x := "rotor") (by decide +kernel) (.ref (23 + 10 * z.w))
    have l5 : (lo2.set "rotor" (.ref (23 + 10 * z.w))) "rotor" = some (.ref (23 + 10 * z.w)) := at_same
    have l6 : (lo2.set "rotor" (.ref (23 + 10 * z.w))) "before" = some (.str (S (wd W z.w))) := at_other (by decide +kernel) l3
    refine then_next (exs_cons ?_)
    show Ex C A' _ _ (lo2.set "rotor" (.ref (23 + 10 * z.w))) _ _
    generalize lo2.set "rotor" (.ref (23 + 10 * z.w)) = lo3 at *
    walk_at "s"
    refine ev_methF ?_ (by rfl) (by rfl) (by rfl) (by decide)
    walk_at "nm"
    refine ⟨23 + 10 * z.w, 24 + 10 * z.w, T.lex, _, T.fG, rfl, T.klex, r1, r2, rfl, T.lG, T.tG, .fn hKg hdg, ?_⟩
    refine evl_nil ?_
    refine cal_fn ?_
    refine fn_gp T (N := N + 4) hA' r1 r2 g1 (by walk_at "l") ?_
    have kp5 := kp4.set (x := "here") (by decide +kernel) (.str (S (wd W (step rows z).w)))
    have l7 : (lo3.set "here" (.str (S (wd W (step rows z).w)))) "rotor" = some (.ref (23 + 10 * z.w)) := at_other (by decide +kernel) l5
    have l8 : (lo3.set "here" (.str (S (wd W (step rows z).w)))) "here" = some (.str (S (wd W (step rows z).w))) := at_same
    have l9 : (lo3.set "here" (.str (S (wd W (step rows z).w)))) "before" = some (.str (S (wd W z.w))) := at_other (by decide +kernel) l6
    refine then_next (exs_cons ?_)
    show Ex C A' _ _ (lo3.set "here" (.str (S (wd W (step rows z).w)))) _ _
    generalize lo3.set "here" (.str (S (wd W (step rows z).w))) = lo4 at *
    walk_at "s"
    refine ev_methF ?_ (by rfl) (by rfl) (by rfl) (by decide)
    walk_at "nm"
    refine ⟨23 + 10 * z.w, 24 + 10 * z.w, T.lex, _, T.fP, rfl, T.klex, (hp_other (by walk_at "l") rfl).trans r1, (hp_other (by walk_at "l") rfl).trans r2, rfl, T.lP, T.tP, .fn hKp hdp, ?_⟩
    refine evl_cons ?_
    walk_at "nm"
    refine evl_nil ?_
    refine cal_fn ?_
    refine fn_pt T (N := N + 4) hA' ((hp_other (by walk_at "l") rfl).trans r1) ((hp_other (by walk_at "l") rfl).trans r2) hp_same (by walk_at "l") ?_
    rw [set_set]
    have hbk' : (σ'.set (26 + 10 * z.w) (.list (ml ++ [.str (S (wd W (step rows z).w))]))) 70 = some (.dict bk0) := (hp_other (by walk_at "l") rfl).trans hbk
    have hf' : ∀ m, 71 ≤ m → (σ'.set (26 + 10 * z.w) (.list (ml ++ [.str (S (wd W (step rows z).w))]))) m = none := fun m hm => hp_other (by walk_at "l") (hf m hm)
    generalize σ'.set (26 + 10 * z.w) (.list (ml ++ [.str (S (wd W (step rows z).w))])) = σ2 at *
    clear g1 r1 r2 q1 q2 q3 hq hbk hf l1 l2 l3 l4 l5 l6 kp2 kp3 kp4 kp hlc ht2 hb2
    obtain ⟨q1, q2, q3⟩ := id g3
    obtain ⟨c1, c2, c3⟩ := id q1
    have hlc := h.kp kp5 (by decide +kernel)
    obtain ⟨⟨⟨m1, m2⟩, m3, m4, m5⟩, m6⟩ := id hlc
    obtain ⟨i1, i2⟩ := toS_no hW hw
    obtain ⟨j1, j2⟩ := toS_no hW hw'
    have hus := List.nodup_append.mp hnd
    have hz : z.w ∉ us := fun e => hus.2.2 _ e _ (.head _) rfl
    have hul := (full_of hus.1 hcl).1
    have htb := tb_le hW hw hw'
    have hk9 := kd_merge hW hw (f := fun u => .int (tb W u (step rows z).w)) hcl hus.1 hz
    have hba := bk_add W us z.w (step rows z).w (m := .dct (mergeC (kd W (fun u => .int (tb W u (step rows z).w)) us) (S (wd W z.w)) (.int (tb W z.w (step rows z).w)))) (congrArg MV.dct hk9)
    have hl9 : (kd W (fun u => MV.int (tb W u (step rows z).w)) us).length ≤ 1000 := by simp [kd]; lia
    refine then_next (exs_cons ?_)
    walk_at "s"
    walk_at "s"
    walk_at "s"
    walk_at "nm"
    refine ev_index ?_
    walk_at "nm"
    refine ⟨toS W, lst_ref c1, ?_⟩
    walk_at "nm"
    refine ⟨_, z.w, rfl, lst_ref c1, by simp [toS]; lia, i1, i2, ?_⟩
    refine gi_list (l := (List.range W.length).map fun i => .ref (5 + i)) rfl (by walk_at "l") (by walk_at "l") (ref_at hw) ?_
    refine ev_index ?_
    walk_at "nm"
    refine ⟨toS W, lst_ref c1, ?_⟩
    walk_at "nm"
    refine ⟨_, (step rows z).w, rfl, lst_ref c1, by simp [toS]; lia, j1, j2, ?_⟩
    refine gi_list (lst_ref (c2 z.w hw)) (by walk_at "l") (by walk_at "l") (row_at _ hw') ?_
    have kp6 := kp5.set (x := "price") (by decide +kernel) (.int (tb W z.w (step rows z).w))
    have v1 : (lo4.set "price" (.int (tb W z.w (step rows z).w))) "price" = some (.int (tb W z.w (step rows z).w)) := at_same
    have v2 : (lo4.set "price" (.int (tb W z.w (step rows z).w))) "here" = some (.str (S (wd W (step rows z).w))) := at_other (by decide +kernel) l8
    have v3 : (lo4.set "price" (.int (tb W z.w (step rows z).w))) "before" = some (.str (S (wd W z.w))) := at_other (by decide +kernel) l9
    have v4 := kp6 _ _ (by decide +kernel) hb
    refine then_next (exs_cons ?_)
    show Ex C A' _ _ (lo4.set "price" (.int (tb W z.w (step rows z).w))) _ _
    generalize lo4.set "price" (.int (tb W z.w (step rows z).w)) = lo5 at *
    generalize tb W z.w (step rows z).w = pr at *
    walk_at "s"
    refine ev_callF Fa (by kernel_rfl!) T.g_afs ?_
    refine evl_cons ?_
    walk_at "s"
    walk_at "nm"
    walk_at "nm"
    refine gi_dct (dct_ref hbk') hbv ?_
    refine evl_cons ?_
    refine ev_tup ?_ (by with_unfolding_all rfl)
    walk_at "ss"
    refine op_mulB (by walk_at "l") ?_
    refine evl_cons ?_
    refine ev_dct1 ?_
    walk_at "nm"
    refine ⟨_, rfl, ?_⟩
    walk_at "nm"
    refine evl_nil ⟨by show 5 ≤ _; decide, ?_⟩
    refine evl_nil ?_
    refine fn_afs T (n := N + 3) hA' kd_cv (.int _) hl9 c3 ?_
    rw [hba]
    walk_at "nm"
    walk_at "nm"
    refine set_dict hbk' (by walk_at "l") ?_
    rw [hgo]
    refine then_next (exs_nil (hK1 _ _ _ (lp_next ?_)))
    exact ⟨kp6, v2, g3.keep h5 (fun m hm => hp_other (by walk_at "l") rfl) (c3.setD _ _), hp_same, fun m hm => hp_other (by walk_at "l") (hf' m hm)⟩
  · rintro lo' σ' ⟨kp, l1, hq, hbk, hf⟩
    exact exs_nil (then_next (q lo' σ' kp l1 hq hbk hf))
end
section
set_option maxHeartbeats 400000

theorem perm_sum {l l' : List Nat} (h : l.Perm l') (f : Nat → Int) : (l.map f).sum = (l'.map f).sum := by
  induction h with
  | nil => rfl
  | cons x _ ih => simp only [List.map_cons, List.sum_cons, ih]
  | swap x y l => simp only [List.map_cons, List.sum_cons]; lia
  | trans _ _ h1 h2 => exact h1.trans h2
theorem fzd_of {σ : Hp} : ∀ {l : List (Str × MV)}, (∀ q ∈ l, CVk true q.2) → Fzd σ l l
  | [], _ => .nil
  | (k, v) :: l, h => .cons (by cases h _ (.head _) with | int i => exact .ok (.int i)) (fzd_of fun q hq => h q (.tail _ hq))
noncomputable abbrev ownC : List Str := ["one", "prices", "calls", "two"]
variable {C : Cx} {A : Around} {σ : Hp} {Q : MV → Hp → Prop} {QB : Bool → Hp → Prop} {QS : Fl → Loc → Hp → Prop}
theorem ev_and {fm : Fm} {loc : Loc} {x y : Expr} {pos : Pos} (h : Ev C A fm x loc σ fun m σ₁ => Tru C A fm m loc σ₁ fun b σ₂ => if b then Ev C A fm y loc σ₂ Q else Q m σ₂) : Ev C A fm (.BoolOp .And [x, y] pos) loc σ Q := fun fa g s r => by
  rw [arm_eval_BoolOp]
  show wpAny _ A (eval x fm.env >>= _) _ _ _
  refine wpAny_bind (wpAny_mono (h fa g s r) ?_ fun _ _ e => e)
  rintro v s₁ ⟨g₁, m, σ₁, r₁, hv, d₁, h₁⟩
  refine wpAny_bind (wpAny_standAt (wpAny_bind (wpAny_holding (wpAny_mono (h₁ fa g₁ s₁ v r₁ hv) ?_ fun _ _ e => e))))
  rintro b s₂ ⟨g₂, σ₂, r₂, d₂, q⟩
  cases b with
  | false => exact wpAny_pure ⟨g₂, m, σ₂, r₂, hv.mono (r₁.ge d₂), d₁.trans d₂, q⟩
  | true =>
    show wpAny _ A (eval y fm.env) _ _ _
    exact wpAny_mono (q fa g₂ s₂ r₂) (fun _ _ p => p.trans (d₁.trans d₂)) fun _ _ e => e
theorem ex_check (T : Tm C) {N : Nat} {A' : Around} (hA' : Ar A' (N + 5)) {cd : Value} {f L : Addr} {lo : Loc} {d : List Nat} {W : List (List Nat)} {R : Int} {us : Nat → List Nat} (hW : WOk W)
    (h : LC d W R lo) (hb : lo "book" = some (.ref 70)) (hs : SB W σ) (hd : σ 70 = some (.dict (kd W (fun j => bkV W (us j) j) (List.range W.length)))) (hus : ∀ j, j < W.length → (us j).Perm (nearOf W R j)) (hfr : ∀ m, 71 ≤ m → σ m = none)
    (q : ∀ lo' σ', Kp ownC lo lo' → (∀ m, m < 71 → σ' m = σ m) → Wf σ' → Exs C A' (fmL cd f L) (lawB.drop 30) lo' σ' QS) : Exs C A' (fmL cd f L) (lawB.drop 29) lo σ QS := by
  have h5 := hW.five
  refine exs_cons ?_
  refine ex_for1 W.length (fun i => .int (i : Nat)) (fun _ => True) (fun i lo' σ' => A4 (Kp ownC lo lo') (∀ m, m < 71 → σ' m = σ m) (Wf σ') (∀ m, 71 + i ≤ m → σ' m = none)) (by walk_at "can") ?_ ?_ ?_
  · refine walk_of ?_
    have m4 := h.lb.places
    walk_at "nm"
    exact ⟨walk_places hA'.h (by walk_at "l"), .refl, fun m _ => rfl, hs.wf, fun m hm => hfr m (by walk_at "l")⟩
  · rintro i K1 hK1 lo' σ' hi ⟨kp, hk, hwf, hf⟩ _
    have kp1 := kp.set (x := "one") (by decide +kernel) (.int (i : Nat))
    have v1 : (lo'.set "one" (.int (i : Nat))) "one" = some (.int (i : Nat)) := at_same
    generalize lo'.set "one" (.int (i : Nat)) = lo1 at *
    have hlt : ∀ x ∈ nearOf W R i, x < W.length := fun x hx => (near_mem.mp hx).1
    have hnd := near_nd W R i
    have hnl := near_len W R i
    have hlc := h.kp kp1 (by decide +kernel)
    have sb' : SB W σ' := hs.keep h5 (fun m hm => hk m (by walk_at "l")) hwf
    refine exs_cons ?_
    show Ex C A' _ (.Assign _ (.ListComp _ (_ :: _) _ _) _) _ _ _
    refine ex_comp (compOk_of (by kernel_rfl!)) (nearOf W R i).length (fun k => .int ((nearOf W R i).getD k 0 : Nat)) (fun σ2 => lstOf σ2 (rowV W R i) = some ((nI (nearOf W R i)).map .int)) (fun k l σ2 ys => A4 (σ2 = σ') (l "table" = some (.lst ((List.range W.length).map fun i => .ref (5 + i)))) (l "one" = some (.int (i : Nat))) (ys = (((nearOf W R i).take k).map (tb W i)).map .int)) ?_ (by intro g h; cases h) ?_ ?_ (by walk_at "can") (by kernel_rfl!)
    · obtain ⟨⟨⟨m1, m2⟩, m3, m4, m5⟩, m6⟩ := id hlc
      refine walk_of ?_
      walk_at "ss"
      refine gi_list (l := (List.range W.length).map (rowV W R)) rfl (by walk_at "l") (by walk_at "l") (m := rowV W R i) (by simp [hi]) ?_
      exact ⟨walk_listC hA'.h rfl (by simp [nI]) (fun k hk => by rw [nI_get hk]; simp [List.getD, hk]), rfl, (if_pos (by kernel_rfl!)).trans m5, (if_pos (by kernel_rfl!)).trans v1, rfl⟩
    · rintro L' a k l σ2 ys hk2 ⟨rfl, p1, p2, rfl⟩ hJ
      have ek : (nearOf W R i).getD k 0 = (nearOf W R i)[k] := by simp [List.getD, hk2]
      have hj := hlt _ (List.getElem_mem hk2)
      have htk := take_1 hk2
      rw [ek]
      generalize (nearOf W R i)[k] = j at *
      obtain ⟨c1, c2, c3⟩ := id sb'
      refine st_name (by walk_at "can") ?_
      show Inn _ _ _ _ _ _ _ _ _
      refine inn_emit rfl (by simp; lia) ?_
      walk_at "ss"
      refine gi_list (l := (List.range W.length).map fun i => .ref (5 + i)) rfl (by walk_at "l") (by walk_at "l") (ref_at hi) ?_
      walk_at "ss"
      refine gi_list (lst_ref (c2 i hi)) (by walk_at "l") (by walk_at "l") (row_at _ hj) ?_
      refine ⟨⟨rfl, by walk_at "lk", by walk_at "lk", ?_⟩, hJ⟩
      rw [htk]; simp
    rintro l σ2 ys ⟨rfl, p1, p2, rfl⟩ _
    rw [List.take_length]
    have kp2 := kp1.set (x := "prices") (by decide +kernel) (.lst (((nearOf W R i).map (tb W i)).map .int))
    have v2 : (lo1.set "prices" (.lst (((nearOf W R i).map (tb W i)).map .int))) "prices" = some (.lst (((nearOf W R i).map (tb W i)).map .int)) := at_same
    have v3 : (lo1.set "prices" (.lst (((nearOf W R i).map (tb W i)).map .int))) "one" = some (.int (i : Nat)) := at_other (by decide +kernel) v1
    show Then _ _ _ _ _ _ (lo1.set "prices" (.lst (((nearOf W R i).map (tb W i)).map .int))) _
    generalize lo1.set "prices" (.lst (((nearOf W R i).map (tb W i)).map .int)) = lo2 at *
    refine then_next (exs_cons ?_)
    walk_at "s"
    refine ev_dctT (71 + i) (hf _ (Nat.le_refl _)) ?_
    have kp3 := kp2.set (x := "calls") (by decide +kernel) (.ref (71 + i))
    have w1 : (lo2.set "calls" (.ref (71 + i))) "calls" = some (.ref (71 + i)) := at_same
    have w2 : (lo2.set "calls" (.ref (71 + i))) "prices" = some (.lst (((nearOf W R i).map (tb W i)).map .int)) := at_other (by decide +kernel) v2
    have w3 : (lo2.set "calls" (.ref (71 + i))) "one" = some (.int (i : Nat)) := at_other (by decide +kernel) v3
    refine then_next (exs_cons ?_)
    show Ex C A' _ _ (lo2.set "calls" (.ref (71 + i))) _ _
    generalize lo2.set "calls" (.ref (71 + i)) = lo3 at *
    clear v1 v2 v3 hlc kp1 kp2
    have hlc := h.kp kp3 (by decide +kernel)
    refine ex_for1 (nearOf W R i).length (fun k => .int ((nearOf W R i).getD k 0 : Nat)) (fun σ3 => lstOf σ3 (rowV W R i) = some ((nI (nearOf W R i)).map .int)) (fun k lo' σ3 => Kp ["two"] lo3 lo' ∧ σ3 = σ2.set (71 + i) (.dict (kd W (fun u => .int (tb W i u)) ((nearOf W R i).take k)))) (by walk_at "can") ?_ ?_ ?_
    · obtain ⟨⟨⟨m1, m2⟩, m3, m4, m5⟩, m6⟩ := id hlc
      refine walk_of ?_
      walk_at "ss"
      refine gi_list (l := (List.range W.length).map (rowV W R)) rfl (by walk_at "l") (by walk_at "l") (m := rowV W R i) (by simp [hi]) ?_
      exact ⟨walk_listC hA'.h rfl (by simp [nI]) (fun k hk => by rw [nI_get hk]; simp [List.getD, hk]), .refl, rfl⟩
    · rintro k K2 hK2 lo4 σ3 hk2 ⟨kpa, rfl⟩ hJ
      have ek : (nearOf W R i).getD k 0 = (nearOf W R i)[k] := by simp [List.getD, hk2]
      have hj := hlt _ (List.getElem_mem hk2)
      have htk := take_1 hk2
      have hnk : ((nearOf W R i).take (k + 1)).Nodup := hnd.sublist (List.take_sublist _ _)
      rw [htk] at hnk
      rw [ek]
      generalize (nearOf W R i)[k] = j at *
      have hjt : j ∉ (nearOf W R i).take k := fun e => (List.nodup_append.mp hnk).2.2 _ e _ (.head _) rfl
      have kpb := kpa.set (x := "two") (by decide +kernel) (.int (j : Nat))
      have u1 : (lo4.set "two" (.int (j : Nat))) "two" = some (.int (j : Nat)) := at_same
      generalize lo4.set "two" (.int (j : Nat)) = lo5 at *
      have u2 := kpb _ _ (by decide +kernel) w1
      have u3 := kpb _ _ (by decide +kernel) w3
      obtain ⟨⟨⟨m1, m2⟩, m3, m4, m5⟩, m6⟩ := hlc.kp kpb (by decide +kernel)
      have sb3 : SB W (σ2.set (71 + i) (.dict (kd W (fun u => .int (tb W i u)) ((nearOf W R i).take k)))) := sb'.keep h5 (fun m hm => hp_other (by walk_at "l") rfl) (hwf.setD _ _)
      obtain ⟨c1, c2, c3⟩ := id sb3
      refine exs_cons ?_
      walk_at "s"
      walk_at "ss"
      refine gi_list (l := (List.range W.length).map fun i => .ref (5 + i)) rfl (by walk_at "l") (by walk_at "l") (ref_at hi) ?_
      walk_at "ss"
      refine gi_list (lst_ref (c2 i hi)) (by walk_at "l") (by walk_at "l") (row_at _ hj) ?_
      walk_at "ss"
      refine gi_list (l := (toS W).map .str) (lst_ref c1) (by walk_at "l") (by walk_at "l") (toS_at hj) ?_
      refine set_dict hp_same (by simp [kd]; lia) ?_
      rw [set_set, kd_snoc hW (f := fun u => .int (tb W i u)) hj (fun x hx => hlt x (List.mem_of_mem_take hx)) (hnd.sublist (List.take_sublist _ _)) hjt, ← htk]
      exact then_next (exs_nil (hK2 _ _ _ (lp_next ⟨⟨kpb, rfl⟩, hJ⟩)))
    rintro lo4 σ3 ⟨kpa, rfl⟩ _
    rw [List.take_length]
    have u1 := kpa _ _ (by decide +kernel) w1
    have u2 := kpa _ _ (by decide +kernel) w2
    have u3 := kpa _ _ (by decide +kernel) w3
    have kp4 : Kp ownC lo lo4 := kp3.trans kpa (sub_own (by decide +kernel))
    have u4 := kp4 _ _ (by decide +kernel) hb
    have hlc4 := hlc.kp kpa (by decide +kernel)
    clear w1 w2 w3 hlc kp3 kpa
    obtain ⟨⟨⟨m1, m2⟩, m3, m4, m5⟩, m6⟩ := id hlc4
    have hwf3 : Wf (σ2.set (71 + i) (.dict (kd W (fun u => .int (tb W i u)) (nearOf W R i)))) := hwf.setD _ _
    have hk3 : ∀ m, m < 71 → (σ2.set (71 + i) (.dict (kd W (fun u => .int (tb W i u)) (nearOf W R i)))) m = σ m := fun m hm => (hp_other (by walk_at "l") rfl).trans (hk m hm)
    have hc3 : (σ2.set (71 + i) (.dict (kd W (fun u => .int (tb W i u)) (nearOf W R i)))) (71 + i) = some (.dict (kd W (fun u => .int (tb W i u)) (nearOf W R i))) := hp_same
    have hf3 : ∀ m, 71 + (i + 1) ≤ m → (σ2.set (71 + i) (.dict (kd W (fun u => .int (tb W i u)) (nearOf W R i)))) m = none := fun m hm => (hp_other (by walk_at "l") rfl).trans (hf m (by walk_at "l"))
    generalize σ2.set (71 + i) (.dict (kd W (fun u => .int (tb W i u)) (nearOf W R i))) = σ3 at *
    have c1 : σ3 4 = some (.list ((toS W).map .str)) := (hk3 4 (by decide)).trans hs.w
    have c70 := (hk3 70 (by decide)).trans hd
    have hp := hus i hi
    have hvb : valAt (kd W (fun j => bkV W (us j) j) (List.range W.length)) (S (wd W i)) = some (bkV W (us i) i) :=
      (kd_val hW hi (l := List.range W.length) fun x hx => List.mem_range.mp hx).trans (if_pos (List.mem_range.mpr hi))
    have htb : ∀ p ∈ (nearOf W R i).map (tb W i), 0 ≤ p ∧ p ≤ 100 := fun p hp => by
      obtain ⟨x, hx, rfl⟩ := List.mem_map.mp hp
      exact tb_le hW hi (hlt x hx)
    have es1 : ((us i).map fun u => tb W u i).sum = ((nearOf W R i).map (tb W i)).sum := by
      rw [perm_sum hp]
      congr 1
      exact List.map_congr_left fun u _ => tb_symm W u i
    have es2 : ((us i).map fun u => tb W u i * tb W u i).sum = (((nearOf W R i).map (tb W i)).map fun p => p * p).sum := by
      rw [perm_sum hp, List.map_map]
      congr 1
      exact List.map_congr_left fun u _ => by rw [tb_symm W u i]; rfl
    have hsm : Same 1 (.dct (kd W (fun u => .int (tb W u i)) (us i))) (.dct (kd W (fun u => .int (tb W i u)) (nearOf W R i))) := by
      have := kd_same hW (f := fun u => tb W u i) hp (fun x hx => hlt x (hp.mem_iff.mp hx)) 0
      have e : (fun u => MV.int (tb W u i)) = fun u => .int (tb W i u) := funext fun u => by rw [tb_symm]
      rw [e] at this ⊢
      exact this
    have epl : ((us i).length : Int) = ((((nearOf W R i).map (tb W i)).map MV.int).length : Nat) := by rw [hp.length_eq]; simp
    have hpl : (((nearOf W R i).map (tb W i)).map MV.int).length ≤ 5 := by simp; lia
    have hpl2 : ((nearOf W R i).map (tb W i)).length ≤ 5 := by simp; lia
    generalize (nearOf W R i).map (tb W i) = pr at *
    refine exs_nil (then_next (exs_cons ?_))
    refine ex_if (tr_cmp ?_)
    walk_at "s"
    walk_at "nm"
    walk_at "s"
    walk_at "nm"
    walk_at "nm"
    refine gi_list (l := (toS W).map .str) (lst_ref c1) (by walk_at "l") (by walk_at "l") (toS_at hi) ?_
    refine gi_dct (dct_ref c70) hvb ?_
    refine ev_tup ?_ (by with_unfolding_all rfl)
    refine evl_cons ?_
    refine ev_callB (.bi _) (by kernel_rfl!) T.b_len.1 T.b_len.2 ?_
    walk_at "ss"
    refine cal_lenl (l := pr.map .int) rfl (by walk_at "l") ?_
    refine evl_cons ?_
    refine ev_callB (.bi _) (by kernel_rfl!) T.b_len.1 T.b_len.2 ?_
    walk_at "ss"
    refine cal_lenl (l := pr.map .int) rfl (by walk_at "l") ?_
    refine evl_cons ?_
    refine ev_callB (.bi _) (by kernel_rfl!) T.b_sum.1 T.b_sum.2 ?_
    walk_at "ss"
    refine cal_sumB (ns := pr) hA'.h rfl (fun y hy => by have := htb y hy; lia) (by walk_at "l") ?_
    refine evl_cons ?_
    refine ev_callB (.bi _) (by kernel_rfl!) T.b_sum.1 T.b_sum.2 ?_
    refine evl_cons ?_
    refine ev_comp (compOk_of (by kernel_rfl!)) pr.length (fun j => .int (pr.getD j 0)) (fun σ' => lstOf σ' (.lst (pr.map .int)) = some (pr.map .int)) (fun j l σ2 ys => σ2 = σ3 ∧ ys = ((pr.take j).map fun p => p * p).map .int) ?_ (by intro g h; cases h) ?_ ?_
    · refine walk_of ?_
      walk_at "ss"
      exact ⟨walk_listC hA'.h rfl (by simp) (fun j hj => by rw [List.getElem?_map, List.getElem?_eq_getElem hj]; simp [List.getD, hj]), rfl, rfl⟩
    · rintro L2 a2 j l2 σ2 ys2 hj ⟨rfl, rfl⟩ hJ
      have ej : pr.getD j 0 = pr[j] := by simp [List.getD, hj]
      have hb2 := htb _ (List.getElem_mem hj)
      have htk := take_1 hj
      rw [ej]
      generalize pr[j] = p at *
      refine st_name (by walk_at "can") ?_
      show Inn _ _ _ _ _ _ _ _ _
      refine inn_emit rfl (by simp; lia) ?_
      walk_at "ss"
      refine op_mulB (by walk_at "l") ?_
      refine ⟨⟨rfl, ?_⟩, hJ⟩
      rw [htk]; simp
    rintro l2 σ2 ys2 ⟨rfl, rfl⟩ _
    rw [List.take_length]
    walk_at "ss"
    refine cal_sumB (ns := pr.map fun p => p * p) hA'.h rfl (fun y hy => ?_) (by simp; lia) ?_
    · obtain ⟨p, hp, rfl⟩ := List.mem_map.mp hy
      obtain ⟨b1, b2⟩ := htb p hp
      have e1 := Int.mul_nonneg b1 b1
      have e2 : p * p ≤ 100 * 100 := Int.mul_le_mul b2 b2 b1 (by decide)
      lia
    refine evl_cons ?_
    walk_at "nm"
    refine evl_nil ⟨by show 5 ≤ _; decide, ?_⟩
    refine op_neF (n := 1) (by have := hA'.cl; lia) (.cons (.ok (.int _)) (.cons (.ok (.int _)) (.cons (.ok (.int _)) (.cons (.ok (.int _)) (.cons (.ok (.dct (okd_of kd_cv))) .nil))))) (.cons (.ok (.int _)) (.cons (.ok (.int _)) (.cons (.ok (.int _)) (.cons (.ok (.int _)) (.cons (.dct hc3 (fzd_of kd_cv)) .nil))))) ?_ ⟨_, rfl, ?_⟩
    · rw [← epl, ← es1, ← es2]
      exact .cons (.int _ _) (.cons (.int _ _) (.cons (.int _ _) (.cons (.int _ _) (.cons hsm (.nil _)))))
    · rw [if_neg (by decide)]
      exact exs_nil (then_next (exs_nil (hK1 _ _ _ (lp_next ⟨⟨kp4, hk3, hwf3, hf3⟩, trivial⟩))))
  · rintro lo' σ' ⟨kp, hk, hwf, hf⟩ _
    exact exs_nil (then_next (q lo' σ' kp hk hwf))
end
section
set_option maxHeartbeats 400000

open Rotor (step run run_zero run_succ run_lt run_add)
variable {C : Cx} {A : Around} {σ : Hp} {Q : MV → Hp → Prop} {QS : Fl → Loc → Hp → Prop}
theorem ex_end (T : Tm C) {N : Nat} {A' : Around} (hA' : Ar A' (N + 5)) {cd : Value} {f L : Addr} {lo : Loc} {d : List Nat} {W : List (List Nat)} {R : Int} {rows : Nat → List Nat} {s s' : Rotor.St} {x : Str} (hW : WOk W) (O : Rotor.Ok rows W.length)
    (h : LC d W R lo) (hh : lo "here" = some (.str x)) (hb : lo "begin" = some (.str x)) (hl : lo "lines" = some (linesV W rows s)) (ht : lo "rotors" = some (.ref 11)) (hs : SQ T.lex W rows s' σ) (he : ∀ i, i < W.length → linV W rows s' i = linV W rows s i)
    (q : QS (.ret (.bool true)) lo σ) : Exs C A' (fmL cd f L) (lawB.drop 30) lo σ QS := by
  have h5 := hW.five
  obtain ⟨sb, sd, sr⟩ := id hs
  obtain ⟨c1, c2, c3⟩ := id sb
  obtain ⟨⟨⟨m1, m2⟩, m3, m4, m5⟩, m6⟩ := id h
  refine exs_cons ?_
  walk_at "s"
  refine ev_and ?_
  walk_at "ss"
  rw [decide_eq_true rfl, if_pos rfl]
  walk_at "s"
  refine ev_comp (compOk_of (by kernel_rfl!)) W.length (fun i => .str (S (wd W i))) (fun σ' => lstOf σ' (.ref 4) = some ((toS W).map .str)) (fun i l σ' ys => A3 (σ' = σ) (l "rotors" = some (.ref 11)) (ys = (List.range i).map (linV W rows s'))) ?_ (by intro g h; cases h) ?_ ?_
  · refine walk_of ?_
    walk_at "ss"
    exact ⟨walk_listC hA'.h (lst_ref c1) (by simp [toS]) (fun k hk => by rw [List.getElem?_map, toS, List.getElem?_map, wd_at hk]; rfl), rfl, (if_pos (by kernel_rfl!)).trans ht, rfl⟩
  · rintro L' a i l σ' ys hi ⟨rfl, p1, rfl⟩ hJ
    obtain ⟨r1, r2, r3⟩ := sr i hi
    have hl := rotl_len (rows i) (s'.cnt i)
    have hle := (full_of (O.nod _ hi) (O.lt _ hi)).1
    refine st_name (by walk_at "can") ?_
    show Inn _ _ _ _ _ _ _ _ _
    refine inn_emit rfl (by simp; lia) ?_
    refine ev_callB (.ty _) (by kernel_rfl!) T.b_list.1 T.b_list.2 ?_
    refine evl_cons ?_
    refine ev_attrS ?_
    walk_at "ss"
    refine gi_dct (dct_ref sd) (rotD_val hW hi) ?_
    refine att_inst T.klex r1 r2 (v := .ref (26 + 10 * i)) rfl rfl T.n4 ?_
    refine evl_nil ?_
    refine cal_listL (l := qV W (rotl (rows i) (s'.cnt i))) (lst_ref r3) (by simp [qV, toS]; lia) ?_
    refine ⟨⟨rfl, by walk_at "lk", ?_⟩, hJ⟩
    rw [List.range_succ, List.map_append]; rfl
  rintro l σ' ys ⟨rfl, p1, rfl⟩ _
  walk_at "nm"
  have e : (List.range W.length).map (linV W rows s') = (List.range W.length).map (linV W rows s) := List.map_congr_left fun i hi => he i (List.mem_range.mp hi)
  rw [e]
  refine op_eqL (n := 1) (l := (List.range W.length).map (linV W rows s)) (by have := hA'.cl; lia) rfl rfl (fun m hm => ?_) (then_ret q)
  obtain ⟨i, _, rfl⟩ := List.mem_map.mp hm
  refine .lst fun y hy => ?_
  obtain ⟨z, _, rfl⟩ := List.mem_map.mp hy
  exact .str _ _
theorem fn_law (T : Tm C) {N : Nat} (hA : Ar A (N + 6)) {sc : Addr} {ns : List Int} (hsc : StL C sc ns) (hlen : ns.length ≤ 500) : Fn C A (.ref T.law) [.val (.ref sc)] hp0 fun m _ => m = .bool true := by
  refine via_p fun P kP => ?_
  obtain ⟨cd, F, hca, hP⟩ := T.Claw
  refine kP ?_
  clear kP P
  refine fn_go F (n := N + 5) hA (Loc.set (fun _ => none) "script" (.val (.ref sc))) (ps := ["script"]) (by walk_at "bind") (by kernel_rfl!) rfl rfl fun L A' KF hKF hA' => exs_cons ?_
  refine ex_draws T hA' hsc hlen at_same fun d hd => then_next ?_
  refine ex_a1 T hA' hd at_same fun lo1 n1 n2 n3 n4 => ?_
  refine ex_a2 T hA' hd n1 n2 n3 n4 fun lo2 σ2 m1 m2 hf2 hw2 => ?_
  obtain ⟨hW, hWm⟩ := wOk_of hd
  refine ex_b1 T hA' hd ⟨m1, m2⟩ hf2 hw2 fun lo3 σ3 hn3 w3 p3 s3 hf3 hw3 => ?_
  generalize dedW (meantOf d) = W at *
  refine ex_b2 T hA' hW hn3 w3 p3 s3 hf3 hw3 fun lo4 σ4 hl4 s4 t4 hf4 hw4 => exs_cons ?_
  refine ex_b3 T hA' hW hl4 s4 t4 hf4 hw4 fun lo5 σ5 hl5 hs5 hf5 => then_next ?_
  refine ex_c1 T hA' hW hl5 hs5 hf5 fun lo6 σ6 R hl6 hr6 hh hR hs6 hf6 => ?_
  refine ex_c2 T hA' hW hl6 hr6 hs6 fun lo7 hl7 ha7 => ?_
  refine ex_c3 T hA' hW hl7 ha7 hs6 hh fun lo8 k hl8 ha8 hk8 hk0 hk5 hbf => ?_
  have hn := arcs_le hW.five R
  refine ex_rotors T hA' hca hP hd hW hWm hl8 ha8 hk8 hs6 hf6 fun lo9 σ9 rows hl9 ha9 hk9 ht9 hsr => ?_
  have O := rows_ok hW hsr.row hh
  have E := locked hW hsr.row hh hk0 hbf
  have h0 : s00.w < W.length := by have := hW.two; show 0 < _; lia
  have h5 := hW.five
  refine ex_walk1 T hA' hW O hn hk5 hl9 ha9 hk9 ht9 hsr.sq (fun m hm => hsr.fr m (by walk_at "l")) fun lo10 σ10 kp10 hh10 hq10 hf10 => ?_
  have hw := run_lt O h0 (arcsOf W R * k)
  generalize run rows s00 (arcsOf W R * k) = s at *
  refine ex_mid T hA' hW O (hl9.kp kp10 (by decide +kernel)) hh10 (kp10 _ _ (by decide +kernel) ht9) hq10 hf10 fun lo11 σ11 kp11 hh11 hb11 hl11 hk11 hq11 hd11 hf11 => ?_
  have kp11' : Kp ownW lo9 lo11 := kp10.trans kp11 fun _ h => h
  refine ex_walk2 T hA' hW O hn hw (fun t ht => fit_le E ht) (hl9.kp kp11' (by decide +kernel)) (kp11' _ _ (by decide +kernel) ha9) hh11 (kp11' _ _ (by decide +kernel) ht9) hk11 hq11 hd11 hf11 fun lo12 σ12 kp12 hh12 hq12 hd12 hf12 => ?_
  have kp12' : Kp ownW lo9 lo12 := kp11'.trans kp12 (sub_own (by decide +kernel))
  refine ex_check T hA' (us := came rows s (arcsOf W R)) hW (hl9.kp kp12' (by decide +kernel)) (kp12 _ _ (by decide +kernel) hk11) hq12.sb hd12 (fun j hj => (came_perm O hw E hj).trans (hsr.row j hj)) hf12 fun lo13 σ13 kp13 hk13 hw13 => ?_
  refine ex_end T hA' (s := s) (s' := run rows s (arcsOf W R)) (x := S (wd W s.w)) hW O ((hl9.kp kp12' (by decide +kernel)).kp kp13 (by decide +kernel)) ?_ (kp13 _ _ (by decide +kernel) (kp12 _ _ (by decide +kernel) hb11)) (kp13 _ _ (by decide +kernel) (kp12 _ _ (by decide +kernel) hl11)) (kp13 _ _ (by decide +kernel) (kp12' _ _ (by decide +kernel) ht9)) (hq12.keep h5 (fun m hm => hk13 m (by walk_at "l")) hw13) (fun i hi => ?_) (hKF _ _ _ rfl)
  · rw [← E.w]; exact kp13 _ _ (by decide +kernel) hh12
  · unfold linV
    rw [E.c i hi, rotl_per]
end
section
set_option maxHeartbeats 400000

noncomputable abbrev fragOf2 {K : Frag} {h : Heap} (_ : K.In h) : Frag := K
theorem mkOk_of {K : Frag} {nm : Value} {bm : Addr} (h1 : nsIn K mainGlobals "__builtins__" = some (some (.ref bm))) (h2 : bm ≠ builtinsNs) (h3 : K.lookup bm = some (oOf K bm)) (h4 : (oOf K bm).cls = .type "module") (h5 : (oOf K bm).dict = some builtinsNs) (h6 : (oOf K bm).data = .plain)
    (h7 : nsIn K mainGlobals "__name__" = some (some nm)) (h8 : nsOkIn K mainGlobals = true) : MkOk K nm := ⟨⟨bm, _, h1, h2, h3, h4, h5, h6⟩, h7, h8⟩
noncomputable def cx1 (K : Frag) (w : World) (n : Nat) (sc : Addr) (o : Obj) : Cx where
  prog := PySem.Challenge.pw_pe0146_01
  w := w
  N0 := n
  tabs := [114, 138]
  K := cK K [114, 138] sc o
  tq := fun P l _ => if P = 138 then "law.<locals>.<lambda>" else if l = 129 then "_law_reader.<locals>._law_read_on" else "_law_reader.<locals>.<lambda>"
  rd := fun fd => fd.params = dfArgs rdSt ∧ fd.body = .stmts (dfBody rdSt) ∧ fd.scope = dfScope rdSt ∧ fd.globals = mainGlobals ∧ fd.builtins = builtinsNs ∧ fd.defaults = .none ∧ fd.kwdefaults = .none
  tlo := by decide
theorem rdIs1 {K : Frag} {w : World} {n : Nat} {sc : Addr} {o : Obj} : RdIs (cx1 K w n sc o) (dfArgs rdSt) (dfBody rdSt) (dfScope rdSt) "size" where
  rd := fun _ h => h
  bind := by
    intro fd v hp hd hk
    obtain ⟨_, _, _, _, _, _, _, _, _, _, _⟩ := fd
    simp only at hp hd hk
    subst hp; subst hd; subst hk
    kernel_rfl!
  cell := by decide +kernel
  loc := by kernel_rfl!
  free := by
    intro y hy
    have h : (dfScope rdSt).names.all (fun p => p.2 != .free || p.1 == "text" || p.1 == "at") = true := by kernel_rfl!
    have := List.all_eq_true.mp h _ (mem_of_lookup hy)
    simpa using this
  text := by kernel_rfl!
  at_ := by kernel_rfl!
  co := by kernel_rfl!
  gen := by kernel_rfl!
  kind := by kernel_rfl!
noncomputable def outOk (s₁ : Shared) (v : Value) (s' : Shared) : Prop := v = .bool true ∧ OldK s₁.heap s'.heap ∧ s'.os = s₁.os ∧ (AllBare s₁.gens → AllBare s'.gens)
theorem join1 {K : Frag} {w : World} {s₁ : Shared} {sc : Addr} {o : Obj} {vs : List Value} {ns : List Int} {n : Nat} (T : Tm (cx1 K w s₁.heap.objs.size sc o)) (KX : K.In s₁.heap) (hnd : (K.map (·.1)).Nodup) (ho : s₁.heap.get? sc = some o) (hc : o.cls = .type "list") (hd : o.data = .seq ⟨vs⟩ n) (hI : IntsAre vs ns) (hlen : ns.length ≤ 500)
    (hlim : s₁.heap.NoLimit) (t1 : K.lookup 114 = some (X.tableObj #[])) (t2 : K.lookup 138 = some (X.tableObj #[])) (c1 : ∃ c, CodeAt (cx1 K w s₁.heap.objs.size sc o).K c 114) (c2 : ∃ c, CodeAt (cx1 K w s₁.heap.objs.size sc o).K c 138) :
    wpAny (model PySem.Challenge.pw_pe0146_01 w) callerA (call (.ref T.law) [.ref sc]) (outOk s₁) NoE s₁ := by
  have htab : ∀ a ∈ ([114, 138] : List Addr), s₁.heap.get? a = some (X.tableObj #[]) := by
    intro a ha
    simp only [List.mem_cons, List.not_mem_nil, or_false] at ha
    rcases ha with rfl | rfl
    · exact KX _ _ t1
    · exact KX _ _ t2
  have hcod : ∀ a ∈ ([114, 138] : List Addr), ∃ c, CodeAt (cx1 K w s₁.heap.objs.size sc o).K c a := by
    intro a ha
    simp only [List.mem_cons, List.not_mem_nil, or_false] at ha
    rcases ha with rfl | rfl
    · exact c1
    · exact c2
  have hsc : sc ∉ ([114, 138] : List Addr) := by
    intro ha
    have := htab sc ha
    rw [ho] at this; cases this
    simp [X.tableObj] at hc
  have h16 : 16 ≤ s₁.heap.objs.size := Nat.le_of_lt (Nat.lt_of_le_of_lt (by decide : 16 ≤ 114) (Heap.lt_size (htab 114 (.head _))))
  have r : GR (cx1 K w s₁.heap.objs.size sc o) g0 hp0 s₁ := gr_start rfl rfl rfl KX hnd ho hsc hlim h16 htab
  have hs : StL (cx1 K w s₁.heap.objs.size sc o) sc ns := stL_start rfl hc hd hI
  have hA : Ar callerA (0 + 6) := ⟨by decide, by decide, rfl⟩
  have h := fn_law T hA hs hlen g0 s₁ [.ref sc] r (.cons (.val _) .nil)
  refine wpAny_call (codeAny_mono h ?_)
  rintro x s' hX2
  refine via_p fun P kP => ?_
  obtain ⟨v, g', m, σ', rfl, r', hv, d, rfl⟩ := hX2
  refine kP ?_
  clear kP P
  obtain rfl := hv.inv
  have hk : ∀ b o, s₁.heap.get? b = some o → b ∉ ([114, 138] : List Addr) → s'.heap.get? b = some o := fun b o e hb => d.keep b o e (fun _ h => by cases h) (fun h => nomatch h) hb
  have ht : ∀ b ∈ ([114, 138] : List Addr), ∃ more, s'.heap.get? b = some (X.tableObj (#[] ++ more)) := fun b hb => d.tabs b hb #[] (htab b hb)
  refine ⟨rfl, ⟨fun b o' e => ?_, fun b o' e => ?_⟩, d.os, d.gens⟩
  · by_cases hb : b ∈ ([114, 138] : List Addr)
    · have e2 := htab b hb
      rw [e] at e2; cases e2
      obtain ⟨more, hm⟩ := ht b hb
      refine via_p fun P kP => ?_
      obtain ⟨c, oc, vs', _, _, _, _, _, _, _, q1, q2, q3, q4, _⟩ := hcod b hb
      refine kP ?_
      clear kP P
      exact .inr (.inl ⟨⟨c, oc, vs', r.KIn _ _ q1, q2, q3, q4⟩, rfl, #[], more, rfl, hm⟩)
    · exact .inl (hk b o' e hb)
  · by_cases hb : b ∈ ([114, 138] : List Addr)
    · obtain ⟨more, hm⟩ := ht b hb; exact ⟨_, hm⟩
    · exact ⟨_, hk b o' e hb⟩
end
end Mine
set_option maxRecDepth 100000 in
set_option maxHeartbeats 0 in
theorem PySem.Challenge.cw_pe0146_01_holds : PySem.Challenge.rw_pe0146_01.Holds := by
  refine holds_law (by decide +kernel) fun said => ?_
  refine holds_open (q := Mine.vw) (loose := []) (d := Mine.d1) (kwd := []) (Xt := fun s => xlAt Mine.vw [] s && recOk (RowW.records (OpenRow.toRowW PySem.Challenge.rw_pe0146_01.row)) s) (XP := XL Mine.vw []) (Yf := Hook.obs Mine.HK) (Ya := Hook.val Mine.HK) (YP := Hook.says Mine.HK) (N := 1988)
    Mine.leftK (Hook.of Mine.HK) (Hook.keeps Mine.HK) (fun s e => xl_of s (Bool.and_eq_true_iff.mp e).1) XL.keeps (by kernel_rfl) (by kernel_rfl) (by kernel_rfl) (fun s e => recFacts_of (Bool.and_eq_true_iff.mp e).2) (by kernel_rfl) said (by decide +kernel) ⟨rfl, rfl, rfl, rfl, rfl, by decide +kernel⟩ ?hw ?hc
  case hw => w_witness2
  intro w s₀ s₁ mg mb G Y fa o pm cd doc dV kV ho hd hcd hD hmg hg args vals as hpre hlay hrd hwl hlo
  have KX := kIn_of Y
  have hT := G.T
  wrow_args hpre hlay hrd hwl hlo
  rename_i ns hs1 a1 a2 a3 a4 as1 as2 sc vs as3 hL ra ww rr hI hr2 hc1 hc2
  obtain ⟨ol, hol, hcl, nl, hdl⟩ := hL
  have fi : ∀ {K : Frag} {f c : Addr} {qual : Str} {st : Stmt}, K.lookup f = some (Mine.oOf K f) → (Mine.oOf K f).data = .func (Mine.fdOf K f) →
    ((Mine.fdOf K f).qualname, (Mine.fdOf K f).params, (Mine.fdOf K f).body, (Mine.fdOf K f).scope, (Mine.fdOf K f).globals, (Mine.fdOf K f).closure, (Mine.fdOf K f).code, (Mine.fdOf K f).builtins, (Mine.fdOf K f).defaults, (Mine.fdOf K f).kwdefaults) = (qual, Mine.dfArgs st, .stmts (Mine.dfBody st), Mine.dfScope st, mainGlobals, [], .ref c, builtinsNs, .none, .none) →
    codeIn K (.ref c) qual = true → ∃ cd, Mine.FnAt K f qual (Mine.dfArgs st) (Mine.dfBody st) (Mine.dfScope st) cd := fun a b c d => ⟨_, Mine.fnAt_of a b c d⟩
  obtain ⟨T, hlaw⟩ : ∃ T : Mine.Tm (Mine.cx1 (Mine.fragOf2 KX) w s₁.heap.objs.size sc ol), T.law = 141 := ⟨{
    sub := 105, lev := 112, afs := 91, acs := 98
    Fsub := fi (c := 104) (by kernel_rfl!) (by kernel_rfl!) (by kernel_rfl!) (by kernel_rfl!)
    Flev := fi (c := 111) (by kernel_rfl!) (by kernel_rfl!) (by kernel_rfl!) (by kernel_rfl!)
    Fafs := fi (c := 90) (by kernel_rfl!) (by kernel_rfl!) (by kernel_rfl!) (by kernel_rfl!)
    Facs := fi (c := 97) (by kernel_rfl!) (by kernel_rfl!) (by kernel_rfl!) (by kernel_rfl!)
    g_sub := by unfold Mine.GlIs; kernel_rfl!
    g_lev := by unfold Mine.GlIs; kernel_rfl!
    g_afs := by unfold Mine.GlIs; kernel_rfl!
    g_acs := by unfold Mine.GlIs; kernel_rfl!
    g_case := ⟨326, by unfold Mine.GlIs; kernel_rfl!⟩
    g_move := ⟨324, by unfold Mine.GlIs; kernel_rfl!⟩
    g_max := ⟨322, by unfold Mine.GlIs; kernel_rfl!⟩
    b_len := ⟨by kernel_rfl!, by kernel_rfl!⟩
    b_range := ⟨by kernel_rfl!, by kernel_rfl!⟩
    b_list := ⟨by kernel_rfl!, by kernel_rfl!⟩
    b_min := ⟨by kernel_rfl!, by kernel_rfl!⟩
    b_tuple := ⟨by kernel_rfl!, by kernel_rfl!⟩
    b_isi := ⟨by kernel_rfl!, by kernel_rfl!⟩
    b_zip := ⟨by kernel_rfl!, by kernel_rfl!⟩
    b_max := ⟨by kernel_rfl!, by kernel_rfl!⟩
    b_sorted := ⟨by kernel_rfl!, by kernel_rfl!⟩
    b_enum := ⟨by kernel_rfl!, by kernel_rfl!⟩
    b_iter := ⟨by kernel_rfl!, by kernel_rfl!⟩
    b_sum := ⟨by kernel_rfl!, by kernel_rfl!⟩
    nm := .str "law_pe0146_01" 356
    mkO := Mine.mkOk_of (bm := 4) (by kernel_rfl!) (by decide) (by kernel_rfl!) (by kernel_rfl!) (by kernel_rfl!) (by kernel_rfl!) (by kernel_rfl!) (by kernel_rfl!)
    lex := 52
    klex := Mine.klsAt_of (by kernel_rfl!) (by kernel_rfl!) (by kernel_rfl!) (by kernel_rfl!) (by kernel_rfl!) (by kernel_rfl!)
    fI := 28, fR := 35, fG := 42
    FI := fi (c := 27) (by kernel_rfl!) (by kernel_rfl!) (by kernel_rfl!) (by kernel_rfl!)
    FR := fi (c := 34) (by kernel_rfl!) (by kernel_rfl!) (by kernel_rfl!) (by kernel_rfl!)
    FG := fi (c := 41) (by kernel_rfl!) (by kernel_rfl!) (by kernel_rfl!) (by kernel_rfl!)
    tI := by kernel_rfl!
    tR := by kernel_rfl!
    tG := by kernel_rfl!
    lI := by kernel_rfl!
    lR := by kernel_rfl!
    lG := by kernel_rfl!
    oR := by kernel_rfl!
    oR' := fun o h => Mine.findObj_congr (h.trans (by kernel_rfl!))
    n1 := by kernel_rfl!
    n2 := by kernel_rfl!
    n3 := by kernel_rfl!
    n4 := by kernel_rfl!
    s1 := by kernel_rfl!
    s2 := by kernel_rfl!
    s3 := by kernel_rfl!
    s4 := by kernel_rfl!
    rdR := Mine.rdIs1
    rdr := 119
    Prdr := 114
    Crdr := ⟨118, Mine.fnAt_of (by kernel_rfl!) (by kernel_rfl!) (by kernel_rfl!) (by kernel_rfl!), Mine.codeAt_of (file := "/claim/cut.py") (tf := 367) (flags := 3) (tg := 0) (inF := true) (text := 181) (tt := 0) (by kernel_rfl!) (by kernel_rfl!) (by kernel_rfl!) (by kernel_rfl!) (by kernel_rfl!) (by kernel_rfl!) (by kernel_rfl!) (by kernel_rfl!) (by kernel_rfl!), .head _⟩
    tq_rd := by kernel_rfl!
    tq_la := by kernel_rfl!
    g_lex := by unfold Mine.GlIs; kernel_rfl!
    keep_lex := by kernel_rfl!
    rd_in := fun fd h => ⟨h.params, h.body, h.scope, h.glob, h.bi, h.df, h.kw⟩
    tcp := 80
    ktcp := Mine.klsAt_of (by kernel_rfl!) (by kernel_rfl!) (by kernel_rfl!) (by kernel_rfl!) (by kernel_rfl!) (by kernel_rfl!)
    gI := 70, gC := 77
    GI := fi (c := 69) (by kernel_rfl!) (by kernel_rfl!) (by kernel_rfl!) (by kernel_rfl!)
    GC := fi (c := 76) (by kernel_rfl!) (by kernel_rfl!) (by kernel_rfl!) (by kernel_rfl!)
    uI := by kernel_rfl!
    uC := by kernel_rfl!
    mI := by kernel_rfl!
    mC := by kernel_rfl!
    m1 := by kernel_rfl!
    v1 := by kernel_rfl!
    g_tcp := by unfold Mine.GlIs; kernel_rfl!
    keep_tcp := by kernel_rfl!
    fP := 49
    FP := fi (c := 48) (by kernel_rfl!) (by kernel_rfl!) (by kernel_rfl!) (by kernel_rfl!)
    tP := by kernel_rfl!
    lP := by kernel_rfl!
    wrd := 126, wrt := 131, prc := 136
    Fwrd := fi (c := 125) (by kernel_rfl!) (by kernel_rfl!) (by kernel_rfl!) (by kernel_rfl!)
    Fwrt := fi (c := 130) (by kernel_rfl!) (by kernel_rfl!) (by kernel_rfl!) (by kernel_rfl!)
    Fprc := fi (c := 135) (by kernel_rfl!) (by kernel_rfl!) (by kernel_rfl!) (by kernel_rfl!)
    g_wrd := by unfold Mine.GlIs; kernel_rfl!
    g_wrt := by unfold Mine.GlIs; kernel_rfl!
    g_prc := by unfold Mine.GlIs; kernel_rfl!
    g_rdr := by unfold Mine.GlIs; kernel_rfl!
    law := 141
    Plaw := 138
    Claw := ⟨140, Mine.fnAt_of (by kernel_rfl!) (by kernel_rfl!) (by kernel_rfl!) (by kernel_rfl!), Mine.codeAt_of (file := "/claim/cut.py") (tf := 393) (flags := 3) (tg := 0) (inF := true) (text := 181) (tt := 0) (by kernel_rfl!) (by kernel_rfl!) (by kernel_rfl!) (by kernel_rfl!) (by kernel_rfl!) (by kernel_rfl!) (by kernel_rfl!) (by kernel_rfl!) (by kernel_rfl!), .tail _ (.head _)⟩
    tq_lam := by kernel_rfl! }, rfl⟩
  have hfa : fa = 141 := by
    have := mg_of KX hT.g (n := "law") (v := .ref 141) (by kernel_rfl!)
    rw [show mg "law" = some (.ref fa) from hmg] at this
    cases this; rfl
  subst hfa
  have hout := Mine.join1 T KX (of_decide_eq_true (by kernel_rfl!)) hol hcl hdl hI (by omega) hT.nolimit (by kernel_rfl!) (by kernel_rfl!) ⟨118, Mine.codeAt_of (file := "/claim/cut.py") (tf := 367) (flags := 3) (tg := 0) (inF := true) (text := 181) (tt := 0) (by kernel_rfl!) (by kernel_rfl!) (by kernel_rfl!) (by kernel_rfl!) (by kernel_rfl!) (by kernel_rfl!) (by kernel_rfl!) (by kernel_rfl!) (by kernel_rfl!)⟩ ⟨140, Mine.codeAt_of (file := "/claim/cut.py") (tf := 393) (flags := 3) (tg := 0) (inF := true) (text := 181) (tt := 0) (by kernel_rfl!) (by kernel_rfl!) (by kernel_rfl!) (by kernel_rfl!) (by kernel_rfl!) (by kernel_rfl!) (by kernel_rfl!) (by kernel_rfl!) (by kernel_rfl!)⟩
  rw [hlaw] at hout
  refine wpAny_mono hout ?_ fun _ _ h => h.elim
  rintro v s' ⟨rfl, hold, hos, hgn⟩
  exact ⟨.inl ⟨_, .bool true, [], rfl, fun _ => rfl, .bool true, by kernel_rfl!, fun _ => ⟨.nil, fun a h => nomatch h⟩⟩, hold, hos, hgn (by rw [hg]; exact .empty)⟩
