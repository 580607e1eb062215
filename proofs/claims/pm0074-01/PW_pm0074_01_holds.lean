import PyProof.Rows.All
import Wide.All
import OpenK.AllK
import Wide.FinOn
import Lean
import PySem.Challenge.RW_pm0074_01
set_option Elab.async false
set_option genInjectivity false
set_option genSizeOf false
set_option bootstrap.genMatcherCode false

section
namespace Mine

/-! ## linear facts over Nat, by a closed certificate -/
inductive Tm where
  | v (i : Nat)
  | n (k : Nat)
  | a (x y : Tm)
  | m (k : Nat) (x : Tm)
  | w (x : Tm) (k : Nat)
noncomputable def lg : List Nat → Nat → Nat
  | [], _ => 0
  | x :: _, 0 => x
  | _ :: r, i + 1 => lg r i
noncomputable def Tm.den (c : List Nat) : Tm → Nat
  | .v i => lg c i
  | .n k => k
  | .a x y => x.den c + y.den c
  | .m k x => k * x.den c
  | .w x k => x.den c * k
noncomputable def ladd : List Nat → List Nat → List Nat
  | [], q => q
  | x :: p, [] => x :: p
  | x :: p, y :: q => (x + y) :: ladd p q
noncomputable def lsc (k : Nat) : List Nat → List Nat
  | [] => []
  | x :: p => (k * x) :: lsc k p
noncomputable def lun : Nat → List Nat
  | 0 => [1]
  | i + 1 => 0 :: lun i
noncomputable def ldot : List Nat → List Nat → Nat
  | [], _ => 0
  | _ :: _, [] => 0
  | x :: p, y :: c => x * y + ldot p c
noncomputable def Tm.po : Tm → List Nat
  | .v i => lun i
  | .n _ => []
  | .a x y => ladd x.po y.po
  | .m k x => lsc k x.po
  | .w x k => lsc k x.po
noncomputable def Tm.kk : Tm → Nat
  | .v _ => 0
  | .n k => k
  | .a x y => x.kk + y.kk
  | .m k x => k * x.kk
  | .w x k => k * x.kk
theorem ldot_add : ∀ p q c : List Nat, ldot (ladd p q) c = ldot p c + ldot q c
  | [], q, c => (Nat.zero_add _).symm
  | x :: p, [], c => (Nat.add_zero _).symm
  | x :: p, y :: q, [] => rfl
  | x :: p, y :: q, z :: c => by
    refine (?_ : (x + y) * z + ldot (ladd p q) c = (x * z + ldot p c) + (y * z + ldot q c))
    rw [ldot_add p q c, Nat.add_mul, Nat.add_add_add_comm]
theorem ldot_sc (k : Nat) : ∀ p c : List Nat, ldot (lsc k p) c = k * ldot p c
  | [], c => rfl
  | x :: p, [] => rfl
  | x :: p, z :: c => by
    refine (?_ : k * x * z + ldot (lsc k p) c = k * (x * z + ldot p c))
    rw [ldot_sc k p c, Nat.mul_add, Nat.mul_assoc]
theorem ldot_un : ∀ (i : Nat) (c : List Nat), ldot (lun i) c = lg c i
  | 0, [] => rfl
  | i + 1, [] => rfl
  | 0, z :: c => by show 1 * z + 0 = z; rw [Nat.one_mul]; rfl
  | i + 1, z :: c => by show 0 * z + ldot (lun i) c = lg c i; rw [Nat.zero_mul, Nat.zero_add, ldot_un i c]
theorem Tm.den_eq (c : List Nat) : ∀ t : Tm, t.den c = t.kk + ldot t.po c
  | .v i => ((Nat.zero_add _).trans (ldot_un i c)).symm
  | .n k => rfl
  | .a x y => by
    refine (?_ : x.den c + y.den c = (x.kk + y.kk) + ldot (ladd x.po y.po) c)
    rw [Tm.den_eq c x, Tm.den_eq c y, ldot_add, Nat.add_add_add_comm]
  | .m k x => by
    refine (?_ : k * x.den c = k * x.kk + ldot (lsc k x.po) c)
    rw [Tm.den_eq c x, ldot_sc, Nat.mul_add]
  | .w x k => by
    refine (?_ : x.den c * k = k * x.kk + ldot (lsc k x.po) c)
    rw [Tm.den_eq c x, ldot_sc, Nat.mul_comm, Nat.mul_add]
noncomputable def lle : List Nat → List Nat → Bool
  | [], _ => true
  | x :: p, [] => Nat.ble x 0 && lle p []
  | x :: p, y :: q => Nat.ble x y && lle p q
theorem lle_dot : ∀ (p q c : List Nat), lle p q = true → ldot p c ≤ ldot q c
  | [], q, c, _ => Nat.zero_le _
  | x :: p, [], [], _ => Nat.le_refl _
  | x :: p, y :: q, [], _ => Nat.le_refl _
  | x :: p, [], z :: c, h => by
    have h := (Bool.and_eq_true _ _).mp h
    exact Nat.add_le_add (Nat.le_trans (Nat.mul_le_mul_right z (Nat.le_of_ble_eq_true h.1)) (Nat.le_of_eq (Nat.zero_mul z))) (Nat.le_trans (lle_dot p [] c h.2) (Nat.le_refl 0))
  | x :: p, y :: q, z :: c, h => by
    have h := (Bool.and_eq_true _ _).mp h
    exact Nat.add_le_add (Nat.mul_le_mul_right z (Nat.le_of_ble_eq_true h.1)) (lle_dot p q c h.2)
inductive Fc where
  | le (l r : Tm)
  | lt (l r : Tm)
  | eq (l r : Tm)
  | qe (l r : Tm)
  | nle (l r : Tm)
  | nlt (l r : Tm)
  | ff
noncomputable def Fc.den (c : List Nat) : Fc → Prop
  | .le l r => l.den c ≤ r.den c
  | .lt l r => l.den c < r.den c
  | .eq l r => l.den c = r.den c
  | .qe l r => l.den c = r.den c
  | .nle l r => ¬ l.den c ≤ r.den c
  | .nlt l r => ¬ l.den c < r.den c
  | .ff => False
noncomputable def Fc.lo : Fc → Tm
  | .le l _ => l
  | .lt l _ => .a l (.n 1)
  | .eq l _ => l
  | .qe _ r => r
  | .nle _ r => .a r (.n 1)
  | .nlt _ r => r
  | .ff => .n 1
noncomputable def Fc.hi : Fc → Tm
  | .le _ r => r
  | .lt _ r => r
  | .eq _ r => r
  | .qe l _ => l
  | .nle l _ => l
  | .nlt l _ => l
  | .ff => .n 0
noncomputable def Fc.no : Fc → Fc
  | .le l r => .nle l r
  | .lt l r => .nlt l r
  | .eq _ _ => .ff
  | .qe _ _ => .ff
  | .nle l r => .le l r
  | .nlt l r => .lt l r
  | .ff => .le (.n 0) (.n 0)
noncomputable def Fc.goal : Fc → Bool
  | .le _ _ => true
  | .lt _ _ => true
  | .eq _ _ => false
  | .qe _ _ => false
  | .nle _ _ => true
  | .nlt _ _ => true
  | .ff => true
theorem Fc.fact {c : List Nat} : ∀ f : Fc, f.den c → f.lo.den c ≤ f.hi.den c
  | .le _ _, h => h
  | .lt _ _, h => h
  | .eq _ _, h => Nat.le_of_eq h
  | .qe _ _, h => Nat.le_of_eq (Eq.symm h)
  | .nle _ _, h => Nat.lt_of_not_le h
  | .nlt _ _, h => Nat.le_of_not_lt h
  | .ff, h => False.elim h
theorem Fc.back {c : List Nat} : ∀ f : Fc, f.goal = true → (f.no.den c → False) → f.den c
  | .le _ _, _, h => Classical.byContradiction h
  | .lt _ _, _, h => Classical.byContradiction h
  | .nle _ _, _, h => h
  | .nlt _ _, _, h => h
  | .ff, _, h => h (Nat.le_refl 0)
inductive Fs where
  | e
  | c (k : Nat) (f : Fc) (t : Fs)
noncomputable def Fs.imp (c : List Nat) (G : Prop) : Fs → Prop
  | .e => G
  | .c _ f t => f.den c → t.imp c G
noncomputable def Fs.chk : Fs → Tm → Tm → Bool
  | .e, x, y => lle y.po x.po && Nat.blt y.kk x.kk
  | .c k f t, x, y => t.chk (.a x (.m k f.lo)) (.a y (.m k f.hi))
theorem Fs.ok {c : List Nat} {G : Prop} : ∀ (s : Fs) (x y : Tm), s.chk x y = true → ((x.den c ≤ y.den c → False) → G) → s.imp c G
  | .e, x, y, h, g => g fun hxy => by
    have h := (Bool.and_eq_true _ _).mp h
    rw [Tm.den_eq c x, Tm.den_eq c y] at hxy
    exact Nat.not_lt_of_le hxy (Nat.lt_of_lt_of_le (Nat.add_lt_add_right (Nat.le_of_ble_eq_true h.2) _) (Nat.add_le_add_left (lle_dot _ _ c h.1) _))
  | .c k f t, x, y, h, g => fun hf => Fs.ok t _ _ h fun hn => g fun hxy => hn (Nat.add_le_add hxy (Nat.mul_le_mul_left k (f.fact hf)))
theorem lin (c : List Nat) (g : Fc) (k : Nat) (s : Fs) (h : (g.goal && s.chk (.m k g.no.lo) (.m k g.no.hi)) = true) : s.imp c (g.den c) := by
  have h := (Bool.and_eq_true _ _).mp h
  exact s.ok _ _ h.2 fun hn => g.back h.1 fun hg => hn (Nat.mul_le_mul_left k (g.no.fact hg))
theorem lsa (x y : Nat) : x ≤ (x - y) + y := by omega
theorem lsb (x y : Nat) : x - y ≤ x := Nat.sub_le x y
end Mine
end

section
open PySem PySem.W PyProof.Rows PySem.Calls PySem.Spec
namespace Mine

noncomputable abbrev PR : Program := PySem.Challenge.pw_pm0074_01

/-! ## abstract values, objects, states -/
inductive AV where
  | none
  | bool (b : Bool)
  | int (i : Int)
  | str (s : Str)
  | raw (v : Value)
noncomputable abbrev AV.ref (a : Addr) : AV := .raw (.ref a)

noncomputable def AV.is : AV → Value → Prop
  | .none, v => v = .none
  | .bool b, v => v = .bool b
  | .int i, v => ∃ t, v = .int i t
  | .str s, v => ∃ t, v = .str s t
  | .raw w, v => v = w

inductive AO where
  | list (l : List AV)
  | tuple (l : List AV)
  | dict (l : List (Str × AV))
  | idict (l : List (Int × AV))
  | sset (l : List Str)
  | attrs (l : List (Str × AV))
  | node (d : Addr) (a b c : Option AV)
  | inst (C d : Addr)
  | lit (l : Addr) (i : Nat)
  | mw (it : Addr)
  | junk
  | raw (o : Obj)
  | froz (o : Obj) (x : AO)

noncomputable def ovIs : Option AV → Option Value → Prop
  | none, o => o = none
  | some v, o => ∃ u, o = some u ∧ v.is u

noncomputable def kvIs {K : Type} (p : K × AV) (q : K × Value) : Prop := p.1 = q.1 ∧ p.2.is q.2

noncomputable def atIs (p : Str × AV) (e : DictEntry) : Prop := ∃ hh t v, e = ⟨hh, .str p.1 t, v⟩ ∧ p.2.is v

noncomputable def AO.is (w : World) : AO → Obj → Prop
  | .list l, o => ∃ (vs : List Value) (n : Nat), o = ({ cls := .type "list", data := .seq vs.toArray n } : Obj) ∧ Paired AV.is l vs
  | .tuple l, o => ∃ (vs : List Value) (n : Nat), o = ({ cls := .type "tuple", data := .seq vs.toArray n } : Obj) ∧ Paired AV.is l vs
  | .dict l, o => ∃ (kvs : List (Str × Value)), o.IsDictOf (strKind PR w) kvs ∧ Paired kvIs l kvs
  | .idict l, o => ∃ (kvs : List (Int × Value)), o.IsDictOf (intKind PR w) kvs ∧ Paired kvIs l kvs
  | .sset l, o => ∃ n, o.SetObjOf (strKind PR w) (fun s => l.contains s) n ∧ n ≤ l.length
  | .attrs l, o => ∃ (es : List DictEntry) (n : Nat), o = dictOf es n ∧ Paired atIs l es
  | .node d a b c, o => ∃ sl : Array (Option Value), o = ({ cls := .ref 33, dict := some d, data := .plain, slots := sl } : Obj) ∧ ovIs a (sl[0]?).join ∧ ovIs b (sl[1]?).join ∧ ovIs c (sl[2]?).join ∧ sl.size ≤ 3
  | .inst C d, o => o = ({ cls := .ref C, dict := some d, data := .plain } : Obj)
  | .lit l i, o => o = ({ cls := .type "list_iterator", data := .fields #[.ref l, .int i 0] } : Obj)
  | .mw it, o => o = ({ cls := .type "method-wrapper", data := .fields #[.builtin "list_iterator.__next__", .ref it] } : Obj)
  | .junk, o => ∀ v, o.data ≠ .cell v
  | .raw o', o => o = o'
  | .froz o' x, o => o = o' ∧ x.is w o

/-! results with several parts, in one piece -/
inductive E11 {α : Type} (p q : α → Prop) : Prop
  | mk (x : α) (a : p x) (b : q x)
inductive E22 {α β : Type} (p q : α → β → Prop) : Prop
  | mk (x : α) (y : β) (a : p x y) (b : q x y)
structure AS where
  loc : List (Str × AV)
  hp : List (Addr × AO)

inductive Fl where
  | next | brk | cont
  | ret (v : AV)

inductive Has (ro hp : List (Addr × AO)) (a : Addr) (x : AO) : Prop
  | own : (a, x) ∈ hp → Has ro hp a x
  | fz {o : Obj} : (a, .froz o x) ∈ hp → Has ro hp a x
  | ro : (a, x) ∈ ro → Has ro hp a x

inductive Wr (a : Addr) (x x' : AO) : List (Addr × AO) → List (Addr × AO) → Prop
  | here {r} : Wr a x x' ((a, x) :: r) ((a, x') :: r)
  | hereF {o r} : Wr a x x' ((a, .froz o x) :: r) ((a, x') :: r)
  | there {p r r'} : Wr a x x' r r' → Wr a x x' (p :: r) (p :: r')

noncomputable def upd {K α : Type} [DecidableEq K] (x : K) (v : α) : List (K × α) → List (K × α)
  | [] => [(x, v)]
  | (y, u) :: r => if x = y then (x, v) :: r else (y, u) :: upd x v r

noncomputable def HRel (w : World) (news : List (Addr × Obj)) (hp : List (Addr × AO)) : Prop := Paired (fun (p : Addr × Obj) (q : Addr × AO) => p.1 = q.1 ∧ q.2.is w p.2 ∧ p.1 ≠ sysModules) news hp

/-! ## frames -/
structure FD where
  h0 : Heap
  Lf : Addr
  env : Env
  mode : Option (Str → Option Value)
  ro : List (Addr × AO)
  fs : List Addr

/-- the ground that stands: the given one, but for the slots of the outer frames' dicts -/
noncomputable def FD.Gr (fd : FD) (g : Heap) : Prop := KtsTurn fd.fs fd.h0 g

noncomputable def NsOf (o : Obj) (m : Str → Option Value) : Prop := ∃ es ep, o.data = .dict es ep ∧ StrKeys es ∧ ∀ name, nsFind es name = m name

noncomputable def Rd (fd : FD) (fx own : List (Addr × Obj)) (mf : Str → Option Value) (x : Str) (v : Value) : Prop :=
  (fd.env.kindOf x = some .local ∧ ((fd.mode = none ∧ mf x = some v) ∨ ∃ oin m, fd.mode.isSome = true ∧ own = [(fd.env.locals, oin)] ∧ NsOf oin m ∧ m x = some v)) ∨
  ((fd.env.kindOf x = some .cell ∨ fd.env.kindOf x = some .free) ∧ ∃ c o, fd.env.cells.lookup x = some c ∧ ((c, o) ∈ own ∨ (c, o) ∈ fx) ∧ o.data = .cell (some v))

structure Vars (fd : FD) (fx own : List (Addr × Obj)) (mf : Str → Option Value) (loc : List (Str × AV)) : Prop where
  shape : match fd.mode with
    | none => fd.env.locals = fd.Lf ∧ (∀ x c, fd.env.cells.lookup x = some c → ∃ o v, (c, o) ∈ own ∧ o.data = .cell v) ∧ (fd.env.cells.Pairwise fun x y => x.2 ≠ y.2)
    | some m0 => mf = m0 ∧ ∃ oin m, own = [(fd.env.locals, oin)] ∧ NsOf oin m
  read : ∀ x V, loc.lookup x = some V → ∃ v, V.is v ∧ Rd fd fx own mf x v

inductive Rep (w : World) (fd : FD) (fx : List (Addr × Obj)) (σ : AS) (h : Heap) : Prop
  | mk (g : Heap) (G : fd.Gr g) (mf : Str → Option Value) (own news : List (Addr × Obj)) (F : Fr g fd.Lf h mf) (N : News g fd.Lf h (fx ++ (own ++ news))) (nd : ((fx ++ (own ++ news)).map (·.1)).Nodup) (H : HRel w news σ.hp) (V : Vars fd fx own mf σ.loc) (low : sysModules < g.objs.size)

/-- the result state: nothing but heap and tokens has moved -/
noncomputable def GSame (a b : Array GenState) : Prop := (∀ (i : Nat) (x : GenState), a[i]? = some x → b[i]? = some x) ∧ ∀ (i : Nat) (x : GenState), b[i]? = some x → a[i]? = some x ∨ x.bare = true
theorem GSame.refl (a : Array GenState) : GSame a a := ⟨fun _ _ e => e, fun _ _ e => .inl e⟩
theorem GSame.trans {a b c : Array GenState} (x : GSame a b) (y : GSame b c) : GSame a c := ⟨fun i z e => y.1 i z (x.1 i z e), fun i z e => (y.2 i z e).elim (x.2 i z) .inr⟩
noncomputable def Same (s s' : Shared) : Prop := GSame s.gens s'.gens ∧ s'.drawn = s.drawn ∧ s'.os = s.os
theorem Same.refl (s : Shared) : Same s s := ⟨.refl _, rfl, rfl⟩
theorem Same.trans {s s' s'' : Shared} (a : Same s s') (b : Same s' s'') : Same s s'' := ⟨a.1.trans b.1, b.2.1.trans a.2.1, b.2.2.trans a.2.2⟩
theorem Same.mk' (s : Shared) (h : Heap) (t : Nat) : Same s { s with heap := h, toks := t } := ⟨.refl _, rfl, rfl⟩

end Mine
end

section
open PySem PySem.W PyProof.Rows PySem.Calls PySem.Spec
namespace Mine

/-! ## lists put together of pieces, in two orders -/
inductive PT where
  | n
  | c (i : Nat) (t : PT)
  | l (j : Nat)
  | a (s t : PT)
noncomputable def pe : List (Addr × AO) → Nat → Addr × AO
  | [], _ => (0, .junk)
  | x :: _, 0 => x
  | _ :: r, k + 1 => pe r k
noncomputable def pl : List (List (Addr × AO)) → Nat → List (Addr × AO)
  | [], _ => []
  | x :: _, 0 => x
  | _ :: r, k + 1 => pl r k
noncomputable def PT.den (e : Nat → Addr × AO) (l : Nat → List (Addr × AO)) : PT → List (Addr × AO)
  | .n => []
  | .c i t => e i :: t.den e l
  | .l j => l j
  | .a s t => s.den e l ++ t.den e l
noncomputable def PT.ix : PT → List Nat
  | .n => []
  | .c i t => (2 * i) :: t.ix
  | .l j => [2 * j + 1]
  | .a s t => s.ix ++ t.ix
theorem PT.den_ix (e : Nat → Addr × AO) (l : Nat → List (Addr × AO)) : ∀ t : PT, t.den e l = t.ix.flatMap fun k => if k % 2 = 0 then [e (k / 2)] else l (k / 2)
  | .n => rfl
  | .c i t => by
    refine (?_ : e i :: t.den e l = _)
    rw [PT.den_ix e l t]
    refine (?_ : _ = ((2 * i) :: t.ix).flatMap _)
    rw [List.flatMap_cons, if_pos (Nat.mul_mod_right 2 i), Nat.mul_div_cancel_left i (by decide)]
    rfl
  | .l j => by
    refine (?_ : l j = [2 * j + 1].flatMap _)
    rw [List.flatMap_cons, List.flatMap_nil, List.append_nil, if_neg (by omega), show (2 * j + 1) / 2 = j by omega]
  | .a s t => by
    refine (?_ : s.den e l ++ t.den e l = (s.ix ++ t.ix).flatMap _)
    rw [List.flatMap_append, ← PT.den_ix e l s, ← PT.den_ix e l t]
theorem pm (e : List (Addr × AO)) (l : List (List (Addr × AO))) (s t : PT) (h : s.ix.isPerm t.ix = true) : (s.den (pe e) (pl l)).Perm (t.den (pe e) (pl l)) := by
  rw [PT.den_ix, PT.den_ix]
  exact List.Perm.flatMap_right _ (List.isPerm_iff.mp h)
/-! small facts, used often -/
theorem fu {c k n : Nat} (h : Nat.ble c k = true) : c ≤ n + k := Nat.le_trans (Nat.le_of_ble_eq_true h) (Nat.le_add_left k n)
end Mine
end

section
open PySem PySem.W PyProof.Rows PySem.Calls PySem.Spec
namespace Mine

theorem Paired.nil_iff {α β : Type} {F : α → β → Prop} {l : List β} (h : Paired F [] l) : l = [] := by cases h; rfl

theorem Paired.mem_l {α β : Type} {F : α → β → Prop} : ∀ {l₁ : List α} {l₂ : List β}, Paired F l₁ l₂ → ∀ b ∈ l₂, ∃ a ∈ l₁, F a b
  | _, _, .nil, b, hb => nomatch hb
  | _, _, .cons (a := a) h t, b, hb => by
    rcases List.mem_cons.mp hb with rfl | hb
    · exact ⟨_, .head _, h⟩
    · obtain ⟨a', h1, h2⟩ := Paired.mem_l t b hb
      exact ⟨a', .tail _ h1, h2⟩
theorem Paired.mem_r {α β : Type} {F : α → β → Prop} : ∀ {l₁ : List α} {l₂ : List β}, Paired F l₁ l₂ → ∀ a ∈ l₁, ∃ b ∈ l₂, F a b
  | _, _, .nil, b, hb => nomatch hb
  | _, _, .cons (b := b) h t, a, ha => by
    rcases List.mem_cons.mp ha with rfl | ha
    · exact ⟨_, .head _, h⟩
    · obtain ⟨a', h1, h2⟩ := Paired.mem_r t a ha
      exact ⟨a', .tail _ h1, h2⟩
theorem Paired.append {α β : Type} {F : α → β → Prop} : ∀ {l₁ l₂ : List α} {m₁ m₂ : List β}, Paired F l₁ m₁ → Paired F l₂ m₂ → Paired F (l₁ ++ l₂) (m₁ ++ m₂)
  | _, _, _, _, .nil, h => h
  | _, _, _, _, .cons a t, h => .cons a (Paired.append t h)
theorem Paired.split {α β : Type} {F : α → β → Prop} : ∀ {l₁ l₂ : List α} {m : List β}, Paired F (l₁ ++ l₂) m → ∃ m₁ m₂, m = m₁ ++ m₂ ∧ Paired F l₁ m₁ ∧ Paired F l₂ m₂
  | [], _, m, h => ⟨[], m, rfl, .nil, h⟩
  | _ :: _, _, _, .cons a t => by
    obtain ⟨m₁, m₂, rfl, h1, h2⟩ := Paired.split t
    exact ⟨_ :: m₁, m₂, rfl, .cons a h1, h2⟩
theorem Paired.splitR {α β : Type} {F : α → β → Prop} : ∀ {m₁ m₂ : List β} {l : List α}, Paired F l (m₁ ++ m₂) → ∃ l₁ l₂, l = l₁ ++ l₂ ∧ Paired F l₁ m₁ ∧ Paired F l₂ m₂
  | [], _, l, h => ⟨[], l, rfl, .nil, h⟩
  | _ :: _, _, _, .cons a t => by
    obtain ⟨m₁, m₂, rfl, h1, h2⟩ := Paired.splitR t
    exact ⟨_ :: m₁, m₂, rfl, .cons a h1, h2⟩
theorem Paired.get {α β : Type} {F : α → β → Prop} : ∀ {l₁ : List α} {l₂ : List β}, Paired F l₁ l₂ → ∀ {i : Nat} {a : α}, l₁[i]? = some a → ∃ b, l₂[i]? = some b ∧ F a b
  | _, _, .nil, i, a, h => by simp at h
  | _, _, .cons (b := b) h t, 0, a, e => by simp at e; subst e; exact ⟨b, by simp, h⟩
  | _, _, .cons h t, i + 1, a, e => by
    simp only [List.getElem?_cons_succ] at e ⊢
    exact Paired.get t e
theorem Paired.getR {α β : Type} {F : α → β → Prop} : ∀ {l₁ : List α} {l₂ : List β}, Paired F l₁ l₂ → ∀ {i : Nat} {b : β}, l₂[i]? = some b → ∃ a, l₁[i]? = some a ∧ F a b
  | _, _, .nil, i, a, h => by simp at h
  | _, _, .cons (a := a) h t, 0, b, e => by simp at e; subst e; exact ⟨a, by simp, h⟩
  | _, _, .cons h t, i + 1, a, e => by
    simp only [List.getElem?_cons_succ] at e ⊢
    exact Paired.getR t e
theorem Paired.imp {α β : Type} {F G : α → β → Prop} (hi : ∀ a b, F a b → G a b) : ∀ {l₁ : List α} {l₂ : List β}, Paired F l₁ l₂ → Paired G l₁ l₂
  | _, _, .nil => .nil
  | _, _, .cons h t => .cons (hi _ _ h) (Paired.imp hi t)
theorem Paired.map_l {α β γ : Type} {F : α → β → Prop} {f : γ → α} : ∀ {l : List γ} {m : List β}, Paired F (l.map f) m ↔ Paired (fun c b => F (f c) b) l m := by
  intro l m
  constructor
  · intro h
    induction l generalizing m with
    | nil => cases h; exact .nil
    | cons c l ih => cases h with | cons a t => exact .cons a (ih t)
  · intro h
    induction h with
    | nil => exact .nil
    | cons a _ ih => exact .cons a ih
theorem Paired.map_r {α β γ : Type} {F : α → β → Prop} {f : γ → β} : ∀ {l : List α} {m : List γ}, Paired F l (m.map f) ↔ Paired (fun a c => F a (f c)) l m := by
  intro l m
  constructor
  · intro h
    induction m generalizing l with
    | nil => cases h; exact .nil
    | cons c m ih => cases h with | cons a t => exact .cons a (ih t)
  · intro h
    induction h with
    | nil => exact .nil
    | cons a _ ih => exact .cons a ih

theorem none_of_size {h : Heap} {r : Addr} (hr : h.objs.size ≤ r) : h.get? r = none := by
  cases q : h.get? r with
  | none => rfl
  | some o => exact absurd (Heap.lt_size q) (Nat.not_lt.mpr hr)

/-! ## the tracked list -/
noncomputable abbrev Ext (h h' : Heap) : Prop := ∀ b o, h.get? b = some o → h'.get? b = some o
noncomputable abbrev ExtB (a : Addr) (h h' : Heap) : Prop := ∀ b o, b ≠ a → h.get? b = some o → h'.get? b = some o

section
variable {w : World} {fd : FD} {fx : List (Addr × Obj)} {σ : AS} {h h' : Heap} {h0 : Heap} {L : Addr} {m : Str → Option Value} {T T₁ T₂ news : List (Addr × Obj)}

theorem frExt (F : Fr h0 L h m) (k : Ext h h') : Fr h0 L h' m := ⟨F.ns.keeps k, fun b o e => k _ _ (F.keep b o e), F.above⟩
theorem newsExt (N : News h0 L h T) (k : Ext h h') : News h0 L h' T := fun p hp => ⟨k _ _ (N p hp).1, (N p hp).2⟩
theorem fr_ne {a : Addr} {o : Obj} (F : Fr h0 L h m) (N : News h0 L h T) (hm : (a, o) ∈ T) : ∀ b x, h0.get? b = some x → b ≠ a := fun b x e q => by
  have := (N _ hm).2.2; simp only at this; rw [← q, e] at this; cases this
theorem frExtB {a : Addr} {o : Obj} (F : Fr h0 L h m) (N : News h0 L h T) (hm : (a, o) ∈ T) (k : ExtB a h h') : Fr h0 L h' m := by
  obtain ⟨oL, es, ep, hL, r⟩ := F.ns
  exact ⟨⟨oL, es, ep, k _ _ (Ne.symm (N _ hm).2.1) hL, r⟩, fun b x e => k _ _ (fr_ne F N hm b x e) (F.keep b x e), F.above⟩
theorem nodup_ne {a : Addr} {o : Obj} (nd : ((T₁ ++ (a, o) :: T₂).map (·.1)).Nodup) : (∀ p ∈ T₁, p.1 ≠ a) ∧ ∀ p ∈ T₂, p.1 ≠ a := by
  rw [List.map_append, List.map_cons, List.nodup_append] at nd
  refine ⟨fun p hp => nd.2.2 p.1 (List.mem_map_of_mem hp) a (.head _), fun p hp q => ?_⟩
  have := (List.nodup_cons.mp nd.2.1).1
  exact this (by rw [← q]; exact List.mem_map_of_mem (f := (·.1)) hp)
theorem newsSetB {a : Addr} {o o' : Obj} (N : News h0 L h (T₁ ++ (a, o) :: T₂)) (nd : ((T₁ ++ (a, o) :: T₂).map (·.1)).Nodup) (k : ExtB a h h') (ho : h'.get? a = some o') : News h0 L h' (T₁ ++ (a, o') :: T₂) := by
  obtain ⟨n1, n2⟩ := nodup_ne nd
  have D := N (a, o) (List.mem_append_right _ (.head _))
  intro p hp
  rcases List.mem_append.mp hp with q | q
  · have P := N p (List.mem_append_left _ q); exact ⟨k _ _ (n1 p q) P.1, P.2⟩
  · rcases List.mem_cons.mp q with rfl | q
    · exact ⟨ho, D.2⟩
    · have P := N p (List.mem_append_right _ (.tail _ q)); exact ⟨k _ _ (n2 p q) P.1, P.2⟩
theorem fresh_ne (N : News h0 L h T) {r : Addr} (hr : h.get? r = none) : r ∉ T.map (·.1) := fun q => by
  obtain ⟨p, hp, e⟩ := List.mem_map.mp q
  have := (N p hp).1; rw [e, hr] at this; cases this
theorem fresh_L (F : Fr h0 L h m) {r : Addr} (hr : h.get? r = none) : r ≠ L := fun q => by
  obtain ⟨oL, _, _, hL, _⟩ := F.ns
  rw [q, hL] at hr; cases hr
theorem fresh_0 (F : Fr h0 L h m) {r : Addr} (hr : h.get? r = none) : h0.get? r = none := by
  cases q : h0.get? r with
  | none => rfl
  | some o => have := F.keep _ _ q; rw [hr] at this; cases this

theorem Wr.split {a : Addr} {x x' : AO} : ∀ {hp hp' : List (Addr × AO)}, Wr a x x' hp hp' → ∃ pre post y, hp = pre ++ (a, y) :: post ∧ hp' = pre ++ (a, x') :: post ∧ (y = x ∨ ∃ o, y = .froz o x)
  | _, _, .here => ⟨[], _, _, rfl, rfl, .inl rfl⟩
  | _, _, .hereF => ⟨[], _, _, rfl, rfl, .inr ⟨_, rfl⟩⟩
  | _, _, .there (p := p) t => by
    obtain ⟨pre, post, y, rfl, rfl, hy⟩ := t.split
    exact ⟨p :: pre, post, y, rfl, rfl, hy⟩

theorem Rep.ext (R : Rep w fd fx σ h) (k : Ext h h') : Rep w fd fx σ h' := by
  obtain ⟨g0, GT, mf, own, news, F, N, nd, H, V, hz⟩ := R
  exact ⟨g0, GT, mf, own, news, frExt F k, newsExt N k, nd, H, V, hz⟩

theorem Rep.new (R : Rep w fd fx σ h) (k : Ext h h') {r : Addr} {o : Obj} {x : AO} (hr' : h.objs.size ≤ r) (ho : h'.get? r = some o) (hx : x.is w o) :
    Rep w fd fx ⟨σ.loc, (r, x) :: σ.hp⟩ h' := by
  have hr := none_of_size hr'
  obtain ⟨g0, GT, mf, own, news, F, N, nd, H, V, hz⟩ := R
  have hf := fresh_ne N hr
  have e : fx ++ (own ++ (r, o) :: news) = (fx ++ own) ++ (r, o) :: news := by simp
  have e' : fx ++ (own ++ news) = (fx ++ own) ++ news := by simp
  refine ⟨g0, GT, mf, own, (r, o) :: news, frExt F k, ?_, ?_, .cons ⟨rfl, hx, Nat.ne_of_gt (Nat.lt_of_lt_of_le (Nat.lt_of_lt_of_le hz (Nat.le_trans F.above (Nat.le_of_lt F.ns.lt))) hr')⟩ H, V, hz⟩
  · intro p hp
    rw [e] at hp
    rcases List.mem_append.mp hp with q | q
    · exact newsExt N k p (by rw [e']; exact List.mem_append_left _ q)
    · rcases List.mem_cons.mp q with rfl | q
      · exact ⟨ho, fresh_L F hr, fresh_0 F hr⟩
      · exact newsExt N k p (by rw [e']; exact List.mem_append_right _ q)
  · rw [e]
    rw [e'] at nd hf
    rw [List.map_append, List.map_cons]
    rw [List.map_append] at nd hf
    refine List.nodup_append.mpr ⟨(List.nodup_append.mp nd).1, List.nodup_cons.mpr ⟨fun q => hf (List.mem_append_right _ q), (List.nodup_append.mp nd).2.1⟩, ?_⟩
    intro a ha b hb q
    rcases List.mem_cons.mp hb with rfl | hb
    · exact hf (List.mem_append_left _ (q ▸ ha))
    · exact (List.nodup_append.mp nd).2.2 a ha b hb q

theorem Rep.wr (R : Rep w fd fx σ h) {a : Addr} {x x' : AO} {hp' : List (Addr × AO)} (W : Wr a x x' σ.hp hp') (k : ExtB a h h')
    (ho : ∀ o, h.get? a = some o → x.is w o → ∃ o', h'.get? a = some o' ∧ x'.is w o') : Rep w fd fx ⟨σ.loc, hp'⟩ h' := by
  obtain ⟨g0, GT, mf, own, news, F, N, nd, H, V, hz⟩ := R
  obtain ⟨pre, post, y, e1, rfl, hy⟩ := W.split
  rw [e1] at H
  obtain ⟨n1, n2, rfl, H1, H2⟩ := Paired.splitR H
  cases H2 with
  | @cons p _ n2 _ hp H2 =>
    obtain ⟨b, o⟩ := p
    obtain ⟨rfl, hp2, hp3⟩ := hp
    have e : fx ++ (own ++ (n1 ++ (b, o) :: n2)) = (fx ++ (own ++ n1)) ++ (b, o) :: n2 := by simp
    rw [e] at N nd
    have hb := (N (b, o) (List.mem_append_right _ (.head _))).1
    have hx : x.is w o := by
      rcases hy with rfl | ⟨o₁, rfl⟩
      · exact hp2
      · exact hp2.2
    obtain ⟨o', ho', hx'⟩ := ho o hb hx
    refine ⟨g0, GT, mf, own, n1 ++ (b, o') :: n2, frExtB F N (List.mem_append_right _ (.head _)) k, ?_, ?_, Paired.append H1 (.cons ⟨rfl, hx', hp3⟩ H2), V, hz⟩
    · have e2 : fx ++ (own ++ (n1 ++ (b, o') :: n2)) = (fx ++ (own ++ n1)) ++ (b, o') :: n2 := by simp
      rw [e2]; exact newsSetB N nd k ho'
    · have e2 : (fx ++ (own ++ (n1 ++ (b, o') :: n2))).map (·.1) = ((fx ++ (own ++ n1)) ++ (b, o) :: n2).map (·.1) := by simp
      rw [e2]; exact nd

theorem Rep.ownS (R : Rep w fd fx σ h) {a : Addr} {x : AO} (hm : (a, x) ∈ σ.hp) : a ≠ sysModules := by
  obtain ⟨g0, GT, mf, own, news, F, N, nd, H, V, hz⟩ := R
  obtain ⟨p, hp, e, hx, e2⟩ := Paired.mem_l H (a, x) hm
  simp only at e; rw [← e]; exact e2
theorem Rep.own (R : Rep w fd fx σ h) {a : Addr} {x : AO} (hm : (a, x) ∈ σ.hp) : E11 (fun o => h.get? a = some o) fun o => x.is w o := by
  obtain ⟨g0, GT, mf, own, news, F, N, nd, H, V, hz⟩ := R
  obtain ⟨p, hp, e, hx, _⟩ := Paired.mem_l H (a, x) hm
  refine ⟨p.2, ?_, hx⟩
  have := (N p (List.mem_append_right _ (List.mem_append_right _ hp))).1
  rw [e] at this; exact this

noncomputable def RoOk (w : World) (fd : FD) : Prop := ∀ p ∈ fd.ro, p.1 ≠ sysModules ∧ ∃ o, (∀ g, fd.Gr g → g.get? p.1 = some o) ∧ p.2.is w o

theorem Rep.keep (R : Rep w fd fx σ h) : E11 (fun g => fd.Gr g) fun g => Ext g h := by
  obtain ⟨g0, GT, mf, own, news, F, N, nd, H, V, hz⟩ := R
  exact ⟨g0, GT, F.keep⟩

theorem Rep.has (R : Rep w fd fx σ h) (ro : RoOk w fd) {a : Addr} {x : AO} (H : Has fd.ro σ.hp a x) : E11 (fun o => h.get? a = some o) fun o => x.is w o := by
  cases H with
  | own hm => exact R.own hm
  | fz hm => obtain ⟨o, h1, h2⟩ := R.own hm; exact ⟨o, h1, h2.2⟩
  | ro hm => obtain ⟨_, o, h1, h2⟩ := ro _ hm; obtain ⟨g, GT, k⟩ := R.keep; exact ⟨o, k _ _ (h1 g GT), h2⟩

theorem Rep.hasS (R : Rep w fd fx σ h) (ro : RoOk w fd) {a : Addr} {x : AO} (H : Has fd.ro σ.hp a x) : (a == sysModules) = false := by
  refine beq_eq_false_iff_ne.mpr ?_
  cases H with
  | own hm => exact R.ownS hm
  | fz hm => exact R.ownS hm
  | ro hm => exact (ro _ hm).1
theorem Rep.wrS (R : Rep w fd fx σ h) {a : Addr} {x x' : AO} {hp' : List (Addr × AO)} (W : Wr a x x' σ.hp hp') : (a == sysModules) = false := by
  obtain ⟨pre, post, y, e1, _, _⟩ := W.split
  exact beq_eq_false_iff_ne.mpr (R.ownS (x := y) (by rw [e1]; exact List.mem_append_right _ (.head _)))
theorem Rep.wrO (R : Rep w fd fx σ h) {a : Addr} {x x' : AO} {hp' : List (Addr × AO)} (W : Wr a x x' σ.hp hp') : E11 (fun o => h.get? a = some o) fun o => x.is w o := by
  obtain ⟨pre, post, y, e1, _, hy⟩ := W.split
  obtain ⟨o, h1, h2⟩ := R.own (x := y) (by rw [e1]; exact List.mem_append_right _ (.head _))
  rcases hy with rfl | ⟨o', rfl⟩
  · exact ⟨o, h1, h2⟩
  · exact ⟨o, h1, h2.2⟩
theorem Rep.froz (R : Rep w fd fx σ h) {a : Addr} {x : AO} {o : Obj} (hm : (a, .froz o x) ∈ σ.hp) : h.get? a = some o ∧ x.is w o := by
  obtain ⟨o', h1, h2, h3⟩ := R.own hm
  subst h2; exact ⟨h1, h3⟩

theorem Rep.freeze (R : Rep w fd fx σ h) {a : Addr} {x : AO} {hp' : List (Addr × AO)} {o : Obj} (ho : h.get? a = some o) (W : Wr a x (.froz o x) σ.hp hp') : Rep w fd fx ⟨σ.loc, hp'⟩ h :=
  R.wr W (fun _ _ _ e => e) fun o' h1 h2 => by
    rw [ho] at h1; cases h1; exact ⟨o, ho, rfl, h2⟩

/-! ## the extra tracked -/
theorem Vars.fx_cons {own : List (Addr × Obj)} {mf : Str → Option Value} {loc : List (Str × AV)} {p : Addr × Obj} (V : Vars fd fx own mf loc) : Vars fd (p :: fx) own mf loc := by
  refine ⟨V.shape, fun x U e => ?_⟩
  obtain ⟨v, h1, h2⟩ := V.read x U e
  refine ⟨v, h1, h2.imp id fun ⟨k, c, o, h3, h4, h5⟩ => ⟨k, c, o, h3, h4.imp id (.tail _), h5⟩⟩
theorem Vars.fx_set {own : List (Addr × Obj)} {mf : Str → Option Value} {loc : List (Str × AV)} {r : Addr} {o : Obj} (V : Vars fd ((r, o) :: fx) own mf loc) (hc : ∀ v, o.data ≠ .cell v) : Vars fd fx own mf loc := by
  refine ⟨V.shape, fun x U e => ?_⟩
  obtain ⟨v, h1, h2⟩ := V.read x U e
  refine ⟨v, h1, h2.imp id fun ⟨k, c, o', h3, h4, h5⟩ => ⟨k, c, o', h3, h4.imp id fun hm => ?_, h5⟩⟩
  rcases List.mem_cons.mp hm with q | q
  · cases q; exact absurd h5 (hc _)
  · exact q

theorem Rep.fx_add (R : Rep w fd fx σ h) (k : Ext h h') {r : Addr} {o : Obj} (hr : h.get? r = none) (ho : h'.get? r = some o) : Rep w fd ((r, o) :: fx) σ h' := by
  obtain ⟨g0, GT, mf, own, news, F, N, nd, H, V, hz⟩ := R
  have hf := fresh_ne N hr
  refine ⟨g0, GT, mf, own, news, frExt F k, ?_, ?_, H, V.fx_cons, hz⟩
  · intro p hp
    rcases List.mem_cons.mp hp with rfl | q
    · exact ⟨ho, fresh_L F hr, fresh_0 F hr⟩
    · exact newsExt N k p q
  · exact List.nodup_cons.mpr ⟨hf, nd⟩
theorem Rep.fx_get {r : Addr} {o : Obj} (R : Rep w fd ((r, o) :: fx) σ h) : h.get? r = some o := by
  obtain ⟨g0, GT, mf, own, news, F, N, nd, H, V, hz⟩ := R
  exact (N (r, o) (.head _)).1
theorem Rep.fx_set {r : Addr} {o o' : Obj} (R : Rep w fd ((r, o) :: fx) σ h) (k : ExtB r h h') (ho : h'.get? r = some o') (hc : ∀ v, o.data ≠ .cell v) : Rep w fd ((r, o') :: fx) σ h' := by
  obtain ⟨g0, GT, mf, own, news, F, N, nd, H, V, hz⟩ := R
  exact ⟨g0, GT, mf, own, news, frExtB F N (.head _) k, newsSetB (T₁ := []) N nd k ho, nd, H, (V.fx_set hc).fx_cons, hz⟩
theorem Rep.fx_drop {r : Addr} {o : Obj} (R : Rep w fd ((r, o) :: fx) σ h) (hc : ∀ v, o.data ≠ .cell v) : Rep w fd fx σ h := by
  obtain ⟨g0, GT, mf, own, news, F, N, nd, H, V, hz⟩ := R
  exact ⟨g0, GT, mf, own, news, F, fun p hp => N p (.tail _ hp), (List.nodup_cons.mp nd).2, H, V.fx_set hc, hz⟩

/-! ## forgetting -/
theorem Rep.forget {loc' : List (Str × AV)} (R : Rep w fd fx σ h) (hl : ∀ x v, loc'.lookup x = some v → σ.loc.lookup x = some v) : Rep w fd fx ⟨loc', σ.hp⟩ h := by
  obtain ⟨g0, GT, mf, own, news, F, N, nd, H, V, hz⟩ := R
  exact ⟨g0, GT, mf, own, news, F, N, nd, H, ⟨V.shape, fun x U e => V.read x U (hl x U e)⟩, hz⟩

theorem Rep.ns (R : Rep w fd fx σ h) : ∃ m, h.Ns fd.Lf m := by
  obtain ⟨g0, GT, mf, own, news, F, N, nd, H, V, hz⟩ := R
  exact ⟨mf, F.ns⟩
end
end Mine
end

section
open PySem PySem.W PyProof.Rows PySem.Calls PySem.Spec
namespace Mine

theorem upd_lookup {K α : Type} [DecidableEq K] [BEq K] [LawfulBEq K] (x : K) (v : α) (l : List (K × α)) (y : K) : (upd x v l).lookup y = if y = x then some v else l.lookup y := by
  induction l with
  | nil =>
    refine (?_ : List.lookup y [(x, v)] = _)
    rw [List.lookup_cons]
    by_cases e : y = x
    · subst e; simp
    · have : (y == x) = false := beq_eq_false_iff_ne.mpr e
      simp [this, e]
  | cons p r ih =>
    obtain ⟨z, u⟩ := p
    unfold upd
    by_cases hz : x = z
    · subst hz
      rw [if_pos rfl, List.lookup_cons, List.lookup_cons]
      by_cases e : y = x
      · subst e; simp
      · have : (y == x) = false := beq_eq_false_iff_ne.mpr e
        simp [this, e]
    · rw [if_neg hz, List.lookup_cons, List.lookup_cons]
      by_cases e : y = z
      · subst e
        have : ¬ y = x := fun q => hz q.symm
        simp [this]
      · have : (y == z) = false := beq_eq_false_iff_ne.mpr e
        simp only [this]; exact ih

theorem NsOf.uniq {o : Obj} {m m' : Str → Option Value} (a : NsOf o m) (b : NsOf o m') : m = m' := by
  obtain ⟨es, ep, h1, h2, h3⟩ := a
  obtain ⟨es', ep', h1', h2', h3'⟩ := b
  rw [h1] at h1'; cases h1'
  funext x; rw [← h3, ← h3']
theorem NsOf.ns {h : Heap} {a : Addr} {o : Obj} {m : Str → Option Value} (x : NsOf o m) (ho : h.get? a = some o) : h.Ns a m := by
  obtain ⟨es, ep, h1, h2, h3⟩ := x
  exact ⟨o, es, ep, ho, h1, h2, h3⟩
theorem ns_of {h : Heap} {a : Addr} {m : Str → Option Value} (x : h.Ns a m) : ∃ o, h.get? a = some o ∧ NsOf o m := by
  obtain ⟨o, es, ep, ho, r⟩ := x
  exact ⟨o, ho, es, ep, r⟩

section
variable {prog : Program} {w : World} {A : Around} {E : Value → Shared → Prop} {s : Shared} {fd : FD} {fx : List (Addr × Obj)} {σ : AS}

theorem rep_load {x : Str} {V : AV} {Q : Value → Shared → Prop} (R : Rep w fd fx σ s.heap) (hk : fd.env.scope.kind = .function) (hx : σ.loc.lookup x = some V)
    (hcd : (x == ("__classdict__" : Str)) = false) (h : ∀ v, V.is v → Q v s) : wpAny (model prog w) A (loadName fd.env x) Q E s := by
  obtain ⟨g0, GT, mf, own, news, F, N, nd, H, Vv, hz⟩ := R
  obtain ⟨v, hv, hr⟩ := Vv.read x V hx
  rcases hr with ⟨hl, hr⟩ | ⟨hl, c, o, hc, hm, hd⟩
  · rcases hr with ⟨hmode, hmf⟩ | ⟨oin, m, hmode, ho, hns, hm⟩
    · have sh := Vv.shape
      rw [hmode] at sh
      exact wpAny_loadName_local hk hl (by rw [sh.1]; exact F.ns) hmf (h v hv)
    · subst ho
      have := (N (fd.env.locals, oin) (List.mem_append_right _ (.head _))).1
      exact wpAny_loadName_local hk hl (hns.ns this) hm (h v hv)
  · have hcell : s.heap.IsCell c (some v) := ⟨o, by
      rcases hm with hm | hm
      · exact (N (c, o) (List.mem_append_right _ (List.mem_append_left _ hm))).1
      · exact (N (c, o) (List.mem_append_left _ hm)).1, hd⟩
    rcases hl with hl | hl
    · exact wpAny_loadName_cell hk hl hc hcell (h v hv)
    · exact wpAny_loadName_free hk hl hc hcell (h v hv) hcd

theorem rep_store {x : Str} {V : AV} {v : Value} {Q : Unit → Shared → Prop} (R : Rep w fd fx σ s.heap) (hk : fd.env.scope.kind = .function)
    (hx : fd.env.kindOf x = some .local ∨ (fd.env.kindOf x = some .cell ∧ fd.mode = none ∧ (fd.env.cells.lookup x).isSome = true)) (hv : V.is v)
    (h : ∀ s', Same s s' → Rep w fd fx ⟨upd x V σ.loc, σ.hp⟩ s'.heap → Q () s') : wpAny (model prog w) A (storeName fd.env x v) Q E s := by
  obtain ⟨g0, GT, mf, own, news, F, N, nd, H, Vv, hz⟩ := R
  have hp : (fd.env.scope.kind == .class || (fd.env.scope.kind == .module && fd.env.locals != fd.env.globals)) = false := by rw [hk]; rfl
  have sh := Vv.shape
  rcases hx with hl | ⟨hl, hmode, hcs⟩
  · cases hmode : fd.mode with
    | none =>
      rw [hmode] at sh
      have ns : s.heap.Ns fd.env.locals mf := by rw [sh.1]; exact F.ns
      refine wpAny_storeName_local hl ns (fun h' hn hs => h _ ⟨.refl _, rfl, rfl⟩ ⟨g0, GT, fun y => if y = x then some v else mf y, own, news, ?_, ?_, nd, H, ⟨?_, ?_⟩, hz⟩) hp
      · rw [sh.1] at hn hs; exact F.set hn hs
      · rw [sh.1] at hs; exact N.set hs
      · rw [hmode]; exact sh
      · intro y U e
        rw [upd_lookup] at e
        by_cases hy : y = x
        · subst hy
          rw [if_pos rfl] at e; cases e
          exact ⟨v, hv, .inl ⟨hl, .inl ⟨hmode, by simp⟩⟩⟩
        · rw [if_neg hy] at e
          obtain ⟨u, h1, h2⟩ := Vv.read y U e
          refine ⟨u, h1, h2.imp (fun ⟨k, h3⟩ => ⟨k, h3.imp (fun ⟨a, b⟩ => ⟨a, by simpa [hy] using b⟩) id⟩) id⟩
    | some m0 =>
      rw [hmode] at sh
      obtain ⟨rfl, oin, m, rfl, hns⟩ := sh
      have hin := (N (fd.env.locals, oin) (List.mem_append_right _ (.head _))).1
      refine wpAny_storeName_local hl (hns.ns hin) (fun h' hn hs => ?_) hp
      obtain ⟨o', ho', hns'⟩ := ns_of hn
      have kB : ExtB fd.env.locals s.heap h' := fun b o hb e => (hs.2 b hb).trans e
      refine h _ ⟨.refl _, rfl, rfl⟩ ⟨g0, GT, mf, [(fd.env.locals, o')], news, frExtB F N (List.mem_append_right _ (.head _)) kB, newsSetB (T₂ := news) N nd kB ho', by simpa using nd, H, ⟨?_, ?_⟩, hz⟩
      · rw [hmode]; exact ⟨rfl, o', _, rfl, hns'⟩
      · intro y U e
        rw [upd_lookup] at e
        by_cases hy : y = x
        · subst hy
          rw [if_pos rfl] at e; cases e
          exact ⟨v, hv, .inl ⟨hl, .inr ⟨o', _, by rw [hmode]; rfl, rfl, hns', by simp⟩⟩⟩
        · rw [if_neg hy] at e
          obtain ⟨u, h1, h2⟩ := Vv.read y U e
          refine ⟨u, h1, ?_⟩
          rcases h2 with ⟨k, h3⟩ | ⟨k, c, o, h3, h4, h5⟩
          · refine .inl ⟨k, ?_⟩
            rcases h3 with ⟨a, b⟩ | ⟨oin', m', a, b, c, d⟩
            · rw [hmode] at a; cases a
            · cases b
              have := c.uniq hns
              subst this
              exact .inr ⟨o', _, by rw [hmode]; rfl, rfl, hns', by simpa [hy] using d⟩
          · refine .inr ⟨k, c, o, h3, ?_, h5⟩
            rcases h4 with h4 | h4
            · obtain ⟨es, ep, hd', _⟩ := hns
              rcases List.mem_singleton.mp h4 with h4
              cases h4
              rw [hd'] at h5; cases h5
            · exact .inr h4
  · rw [hmode] at sh
    obtain ⟨c, hc⟩ := Option.isSome_iff_exists.mp hcs
    obtain ⟨o, v0, hm, hd⟩ := sh.2.1 x c hc
    have hmT : (c, o) ∈ fx ++ (own ++ news) := List.mem_append_right _ (List.mem_append_left _ hm)
    refine wpAny_storeName_cell hk hl hc ⟨o, (N _ hmT).1, hd⟩ fun h' hcell hs => ?_
    obtain ⟨o', ho', hd'⟩ := hcell
    have kB : ExtB c s.heap h' := fun b o hb e => (hs.2 b hb).trans e
    obtain ⟨own1, own2, rfl⟩ := List.append_of_mem hm
    have e1 : fx ++ ((own1 ++ (c, o) :: own2) ++ news) = (fx ++ own1) ++ (c, o) :: (own2 ++ news) := by simp
    have e2 : fx ++ ((own1 ++ (c, o') :: own2) ++ news) = (fx ++ own1) ++ (c, o') :: (own2 ++ news) := by simp
    rw [e1] at N nd
    have inj : ∀ y c', fd.env.cells.lookup y = some c' → y ≠ x → c' ≠ c := fun y c' hy hne q => by
      subst q
      exact hne (name_of_addr sh.2.2 (mem_of_lookup hy) (mem_of_lookup hc))
    have keepO : ∀ c' o'', c' ≠ c → (c', o'') ∈ own1 ++ (c, o) :: own2 → (c', o'') ∈ own1 ++ (c, o') :: own2 := fun c' o'' hne hq => by
      rcases List.mem_append.mp hq with q | q
      · exact List.mem_append_left _ q
      · rcases List.mem_cons.mp q with q | q
        · cases q; exact absurd rfl hne
        · exact List.mem_append_right _ (.tail _ q)
    have s' : Shared := { s with heap := h' }
    refine h { s with heap := h' } ⟨.refl _, rfl, rfl⟩ ⟨g0, GT, mf, own1 ++ (c, o') :: own2, news, frExtB F N (List.mem_append_right _ (.head _)) kB, ?_, ?_, H, ⟨?_, ?_⟩, hz⟩
    · rw [e2]; exact newsSetB N nd kB ho'
    · rw [e2]; simpa using nd
    · rw [hmode]
      refine ⟨sh.1, fun y c' hy => ?_, sh.2.2⟩
      by_cases hyx : y = x
      · subst hyx; rw [hc] at hy; cases hy
        exact ⟨o', some v, List.mem_append_right _ (.head _), hd'⟩
      · obtain ⟨o2, v2, h1, h2⟩ := sh.2.1 y c' hy
        exact ⟨o2, v2, keepO _ _ (inj y c' hy hyx) h1, h2⟩
    · intro y U e
      rw [upd_lookup] at e
      by_cases hy : y = x
      · subst hy
        rw [if_pos rfl] at e; cases e
        exact ⟨v, hv, .inr ⟨.inl hl, c, o', hc, .inl (List.mem_append_right _ (.head _)), hd'⟩⟩
      · rw [if_neg hy] at e
        obtain ⟨u, h1, h2⟩ := Vv.read y U e
        refine ⟨u, h1, ?_⟩
        rcases h2 with h2 | ⟨k, c', o2, h3, h4, h5⟩
        · refine .inl ⟨h2.1, ?_⟩
          rcases h2.2 with h6 | ⟨oin, m, a, b, _⟩
          · exact .inl h6
          · rw [hmode] at a; cases a
        · refine .inr ⟨k, c', o2, h3, h4.imp (keepO _ _ (inj y c' h3 hy)) id, h5⟩
end
end Mine
end

section
open PySem PySem.W PyProof.Rows PySem.Calls PySem.Spec
namespace Mine

/-! ## the predicate transformer -/
noncomputable def lim : Nat := 1000000

structure Prm where
  sc : Scope
  ro : List (Addr × AO)
  nh : Bool
  comp : Bool

noncomputable def globs : List (Str × Value) := [("len", .builtin "len"), ("max", .builtin "max"), ("range", .type "range"), ("enumerate", .type "enumerate"), ("sorted", .builtin "sorted"), ("iter", .builtin "iter"), ("StopIteration", .type "StopIteration"), ("CycleError", .ref 48),
  ("set", .type "set"), ("tuple", .type "tuple"), ("bool", .type "bool"), ("_law_operators", .ref 151), ("_law_code", .ref 156), ("_law_rest", .ref 163), ("_law_far", .ref 168), ("ISEOF", .ref 144),
  ("ENDMARKER", .int 0 372), ("EXACT_TOKEN_TYPES", .ref 135), ("_NODE_OUT", .int (-1) 190), ("_NODE_DONE", .int (-2) 193), ("_NodeInfo", .ref 33), ("TopologicalSorter", .ref 130)]
noncomputable def absV : Value → AV
  | .int i _ => .int i
  | v => .raw v

noncomputable def lookNm (P : Prm) (σ : AS) (x : Str) : Option AV := match σ.loc.lookup x with
  | some v => some v
  | none => match P.sc.names.lookup x with
    | some .globalImplicit => (globs.lookup x).map absV
    | _ => none
noncomputable def storable (P : Prm) (x : Str) : Bool := match P.sc.names.lookup x with
  | some .local => true
  | some .cell => !P.comp
  | _ => false

noncomputable abbrev KV := AV → AS → Prop
noncomputable abbrev HPs := List (Addr × AO)
noncomputable def On (b : Bool) (p : Prop) : Prop := match b with
  | true => p
  | false => False
noncomputable def Off (b : Bool) (p : Prop) : Prop := match b with
  | true => False
  | false => p
theorem On.get {b : Bool} {p : Prop} (h : On b p) : b = true ∧ p := by
  cases b with
  | true => exact ⟨rfl, h⟩
  | false => exact h.elim
theorem Off.get {b : Bool} {p : Prop} (h : Off b p) : b = false ∧ p := by
  cases b with
  | true => exact h.elim
  | false => exact ⟨rfl, h⟩
/-- here an unfolding stops -/
structure Cl (p : Prop) : Prop where
  h : p
/-! what a value must be -/
noncomputable def onI (v : AV) (f : Int → Prop) : Prop := match v with
  | .int x => f x
  | _ => False
noncomputable def onS (v : AV) (f : Str → Prop) : Prop := match v with
  | .str x => f x
  | _ => False
noncomputable def onB (v : AV) (f : Bool → Prop) : Prop := match v with
  | .bool x => f x
  | _ => False
noncomputable def onN (v : AV) (f : Prop) : Prop := match v with
  | .none => f
  | _ => False
noncomputable def onV (v : Value) (f : Addr → Prop) : Prop := match v with
  | .ref a => f a
  | _ => False
noncomputable def onR (v : AV) (f : Addr → Prop) : Prop := match v with
  | .raw v => onV v f
  | _ => False
inductive OnI (f : Int → Prop) : AV → Prop
  | mk (x : Int) (h : f x) : OnI f (.int x)
inductive OnS (f : Str → Prop) : AV → Prop
  | mk (x : Str) (h : f x) : OnS f (.str x)
inductive OnB (f : Bool → Prop) : AV → Prop
  | mk (x : Bool) (h : f x) : OnB f (.bool x)
inductive OnN (f : Prop) : AV → Prop
  | mk (h : f) : OnN f .none
inductive OnV (f : Addr → Prop) : Value → Prop
  | mk (a : Addr) (h : f a) : OnV f (.ref a)
inductive OnR (f : Addr → Prop) : AV → Prop
  | mk (a : Addr) (h : f a) : OnR f (.raw (.ref a))
theorem onI_get {v : AV} {f : Int → Prop} (h : onI v f) : OnI f v := by cases v <;> first | exact False.elim h | exact .mk _ h
theorem onS_get {v : AV} {f : Str → Prop} (h : onS v f) : OnS f v := by cases v <;> first | exact False.elim h | exact .mk _ h
theorem onB_get {v : AV} {f : Bool → Prop} (h : onB v f) : OnB f v := by cases v <;> first | exact False.elim h | exact .mk _ h
theorem onN_get {v : AV} {f : Prop} (h : onN v f) : OnN f v := by cases v <;> first | exact False.elim h | exact .mk h
theorem onV_get {v : Value} {f : Addr → Prop} (h : onV v f) : OnV f v := by cases v <;> first | exact False.elim h | exact .mk _ h
theorem onR_get {v : AV} {f : Addr → Prop} (h : onR v f) : OnR f v := by
  cases v
  case raw v => obtain ⟨a, h⟩ := onV_get h; exact .mk a h
  all_goals exact False.elim h
/-! the steps with a state behind them: flat, so that what comes behind is named once -/
inductive TruL (ro : HPs) (σ : AS) (a : Addr) (k : Bool → Prop) : Prop
  | mk (l : List AV) (h : Has ro σ.hp a (.list l)) (hl : l.length ≤ lim) (hk : k (!l.isEmpty))

noncomputable def truA (ro : List (Addr × AO)) (v : AV) (σ : AS) (k : Bool → Prop) : Prop := match v with
  | .none => k false
  | .bool b => k b
  | .raw r => onV r fun a => TruL ro σ a k
  | _ => False

noncomputable def dictEq (d e : List (Str × Int)) : Bool := decide (d.length = e.length) && d.all fun p => decide (e.lookup p.1 = some p.2)
noncomputable def mapI (d : List (Str × Int)) : List (Str × AV) := d.map fun p => (p.1, .int p.2)

inductive EqL (ro : HPs) (σ : AS) (p q : Addr) (k : Bool → Prop) : Prop
  | mk (l l' : List Str) (h1 : Has ro σ.hp p (.list (l.map .str))) (h2 : Has ro σ.hp q (.list (l'.map .str))) (hl : l.length ≤ lim) (hl' : l'.length ≤ lim) (hk : k (decide (l = l')))
inductive EqD (ro : HPs) (σ : AS) (p q : Addr) (k : Bool → Prop) : Prop
  | mk (d e : List (Str × Int)) (h1 : Has ro σ.hp p (.dict (mapI d))) (h2 : Has ro σ.hp q (.dict (mapI e))) (hl : d.length ≤ lim) (hl' : e.length ≤ lim) (hk : k (dictEq d e))
noncomputable def eqA (ro : List (Addr × AO)) (a b : AV) (σ : AS) (k : Bool → Prop) : Prop := match a with
  | .int x => onI b fun y => k (decide (x = y))
  | .str x => onS b fun y => k (decide (x = y))
  | .bool x => onB b fun y => k (decide (x = y))
  | .raw r => onV r fun p => onR b fun q => Cl (EqL ro σ p q k ∨ EqD ro σ p q k)
  | .none => False
noncomputable def isA (a b : AV) (k : Bool → Prop) : Prop := match a with
  | .none => onN b (k true)
  | .raw r => onV r fun _ => onN b (k false)
  | .bool x => onB b fun y => k (decide (x = y))
  | .int _ => False
  | .str _ => False
inductive InL (ro : HPs) (σ : AS) (s : Str) (q : Addr) (k : Bool → Prop) : Prop
  | mk (l : List Str) (h : Has ro σ.hp q (.list (l.map .str))) (hl : l.length ≤ lim) (hk : k (l.contains s))
inductive InD (ro : HPs) (σ : AS) (s : Str) (q : Addr) (k : Bool → Prop) : Prop
  | mk (d : List (Str × AV)) (h : Has ro σ.hp q (.dict d)) (hk : k (d.lookup s).isSome)
inductive InS (ro : HPs) (σ : AS) (s : Str) (q : Addr) (k : Bool → Prop) : Prop
  | mk (l : List Str) (h : Has ro σ.hp q (.sset l)) (hl : l.length ≤ 1000) (hk : k (l.contains s))
noncomputable def inA (ro : List (Addr × AO)) (a b : AV) (σ : AS) (k : Bool → Prop) : Prop := onS a fun s => onR b fun q => Cl (InL ro σ s q k ∨ InD ro σ s q k ∨ InS ro σ s q k)
noncomputable def cmpA (ro : List (Addr × AO)) (op : CmpOp) (a b : AV) (σ : AS) (k : Bool → Prop) : Prop := match op with
  | .Lt => onI a fun x => onI b fun y => k (decide (x < y))
  | .GtE => onI a fun x => onI b fun y => k (decide (x ≥ y))
  | .Eq => eqA ro a b σ k
  | .NotEq => eqA ro a b σ fun t => k (!t)
  | .Is => isA a b k
  | .IsNot => isA a b fun t => k (!t)
  | .In => inA ro a b σ k
  | .NotIn => inA ro a b σ fun t => k (!t)
  | _ => False

inductive AddL (ro : HPs) (σ : AS) (p q : Addr) (k : KV) : Prop
  | mk (l l' : List AV) (h1 : Has ro σ.hp p (.list l)) (h2 : Has ro σ.hp q (.list l')) (hl : l.length + l'.length ≤ lim) (hk : ∀ r, k (.ref r) ⟨σ.loc, (r, .list (l ++ l')) :: σ.hp⟩)
noncomputable def addA (a b : AV) (σ : AS) (k : KV) (f : Addr → Prop) : Prop := match a with
  | .int x => onI b fun y => k (.int (x + y)) σ
  | .str x => onS b fun y => x.length + y.length ≤ lim ∧ k (.str (x ++ y)) σ
  | .raw r => onV r f
  | .none => False
  | .bool _ => False
/-- the four operators -/
noncomputable def onO (op : Operator) (add sub mod fdiv : Prop) : Prop := match op with
  | .Add => add
  | .Sub => sub
  | .Mod => mod
  | .FloorDiv => fdiv
  | _ => False
inductive OnO (a b c d : Prop) : Operator → Prop
  | add (h : a) : OnO a b c d .Add
  | sub (h : b) : OnO a b c d .Sub
  | mod (h : c) : OnO a b c d .Mod
  | fdiv (h : d) : OnO a b c d .FloorDiv
theorem onO_get {op : Operator} {a b c d : Prop} (h : onO op a b c d) : OnO a b c d op := by
  cases op <;> first | exact False.elim h | exact .add h | exact .sub h | exact .mod h | exact .fdiv h
noncomputable def binA (ro : List (Addr × AO)) (op : Operator) (a b : AV) (σ : AS) (k : KV) : Prop := onO op
  (addA a b σ k fun p => onR b fun q => AddL ro σ p q k)
  (onI a fun x => onI b fun y => k (.int (x - y)) σ)
  (onI a fun x => onI b fun y => (0 < y ∧ y < 100) ∧ k (.int (x % y)) σ)
  (onI a fun x => onI b fun y => (0 < y ∧ y < 100) ∧ k (.int (x / y)) σ)
noncomputable def iopA (_ro : List (Addr × AO)) (op : Operator) (a b : AV) (σ : AS) (k : KV) : Prop := onO op
  (addA a b σ k fun _ => False)
  (onI a fun x => onI b fun y => k (.int (x - y)) σ) False False

noncomputable def fields4 : List Str := ["_node2info", "_ready_nodes", "_npassedout", "_nfinished"]
noncomputable def nodeField (name : Str) : Nat := if name = ("node" : Str) then 0 else if name = ("npredecessors" : Str) then 1 else if name = ("successors" : Str) then 2 else 3

noncomputable def hdA : AV → Bool
  | .raw v => handedIn v
  | _ => true
inductive At0 (ro : HPs) (σ : AS) (a : Addr) (k : AV → Prop) : Prop
  | mk (d : Addr) (x : AV) (y z : Option AV) (l : List (Str × AV)) (h : Has ro σ.hp a (.node d (some x) y z)) (hd : Has ro σ.hp d (.attrs l)) (hx : hdA x = true) (hk : k x)
inductive At1 (ro : HPs) (σ : AS) (a : Addr) (k : AV → Prop) : Prop
  | mk (d : Addr) (x : Option AV) (y : AV) (z : Option AV) (l : List (Str × AV)) (h : Has ro σ.hp a (.node d x (some y) z)) (hd : Has ro σ.hp d (.attrs l)) (hx : hdA y = true) (hk : k y)
inductive At2 (ro : HPs) (σ : AS) (a : Addr) (k : AV → Prop) : Prop
  | mk (d : Addr) (x y : Option AV) (z : AV) (l : List (Str × AV)) (h : Has ro σ.hp a (.node d x y (some z))) (hd : Has ro σ.hp d (.attrs l)) (hx : hdA z = true) (hk : k z)
inductive AtI (ro : HPs) (σ : AS) (a : Addr) (name : Str) (k : AV → Prop) : Prop
  | mk (d : Addr) (l : List (Str × AV)) (h : Has ro σ.hp a (.inst 130 d)) (hd : Has ro σ.hp d (.attrs l)) (hn : name ∈ fields4) (v : AV) (hv : l.lookup name = some v) (hx : hdA v = true) (hk : k v)
inductive St0 (ro : HPs) (σ : AS) (a : Addr) (v : AV) (k : AS → Prop) : Prop
  | mk (d : Addr) (x y z : Option AV) (l : List (Str × AV)) (hp' : HPs) (h : Has ro σ.hp d (.attrs l)) (W : Wr a (.node d x y z) (.node d (some v) y z) σ.hp hp') (hk : k ⟨σ.loc, hp'⟩)
inductive St1 (ro : HPs) (σ : AS) (a : Addr) (v : AV) (k : AS → Prop) : Prop
  | mk (d : Addr) (x y z : Option AV) (l : List (Str × AV)) (hp' : HPs) (h : Has ro σ.hp d (.attrs l)) (W : Wr a (.node d x y z) (.node d x (some v) z) σ.hp hp') (hk : k ⟨σ.loc, hp'⟩)
inductive St2 (ro : HPs) (σ : AS) (a : Addr) (v : AV) (k : AS → Prop) : Prop
  | mk (d : Addr) (x y z : Option AV) (l : List (Str × AV)) (hp' : HPs) (h : Has ro σ.hp d (.attrs l)) (W : Wr a (.node d x y z) (.node d x y (some v)) σ.hp hp') (hk : k ⟨σ.loc, hp'⟩)
inductive StI (ro : HPs) (σ : AS) (a : Addr) (name : Str) (v : AV) (k : AS → Prop) : Prop
  | mk (d : Addr) (l : List (Str × AV)) (hp' : HPs) (h : Has ro σ.hp a (.inst 130 d)) (W : Wr d (.attrs l) (.attrs (upd name v l)) σ.hp hp') (hn : name ∈ fields4) (hl : l.length ≤ 50) (hk : k ⟨σ.loc, hp'⟩)
noncomputable def attrA (ro : List (Addr × AO)) (o : AV) (name : Str) (σ : AS) (k : AV → Prop) : Prop := match o with
  | .raw (.ref a) => match nodeField name with
    | 0 => At0 ro σ a k
    | 1 => At1 ro σ a k
    | 2 => At2 ro σ a k
    | _ => AtI ro σ a name k
  | _ => False
noncomputable def setA (ro : List (Addr × AO)) (o : AV) (name : Str) (v : AV) (σ : AS) (k : AS → Prop) : Prop := match o with
  | .raw (.ref a) => match nodeField name with
    | 0 => St0 ro σ a v k
    | 1 => St1 ro σ a v k
    | 2 => St2 ro σ a v k
    | _ => StI ro σ a name v k
  | _ => False

inductive SbS (s : Str) (j : Int) (k : AV → Prop) : Prop
  | mk (c : Nat) (n : Nat) (hj : j = n) (hn : n ≤ lim) (hc : s.cps[n]? = some c) (hk : k (.str ⟨#[c]⟩))
inductive SbL (ro : HPs) (σ : AS) (a : Addr) (j : Int) (k : AV → Prop) : Prop
  | mk (l : List AV) (v : AV) (n : Nat) (h : Has ro σ.hp a (.list l)) (hj : j = n) (hn : n ≤ lim) (hv : l[n]? = some v) (hk : k v)
inductive SbD (ro : HPs) (σ : AS) (a : Addr) (s : Str) (k : AV → Prop) : Prop
  | mk (l : List (Str × AV)) (v : AV) (h : Has ro σ.hp a (.dict l)) (hv : l.lookup s = some v) (hk : k v)
inductive SiL (σ : AS) (a : Addr) (j : Int) (v : AV) (k : AS → Prop) : Prop
  | mk (l : List AV) (hp' : HPs) (n : Nat) (W : Wr a (.list l) (.list (l.set n v)) σ.hp hp') (hj : j = n) (hn : n < l.length) (hl : l.length ≤ lim) (hk : k ⟨σ.loc, hp'⟩)
inductive SiI (σ : AS) (a : Addr) (j : Int) (v : AV) (k : AS → Prop) : Prop
  | mk (l : List (Int × AV)) (hp' : HPs) (W : Wr a (.idict l) (.idict (upd j v l)) σ.hp hp') (hl : l.length ≤ lim) (hk : k ⟨σ.loc, hp'⟩)
inductive SiD (σ : AS) (a : Addr) (s : Str) (v : AV) (k : AS → Prop) : Prop
  | mk (l : List (Str × AV)) (hp' : HPs) (W : Wr a (.dict l) (.dict (upd s v l)) σ.hp hp') (hl : l.length ≤ lim) (hk : k ⟨σ.loc, hp'⟩)
inductive DeD (σ : AS) (a : Addr) (s : Str) (k : AS → Prop) : Prop
  | mk (l : List (Str × AV)) (hp' : HPs) (W : Wr a (.dict l) (.dict (l.filter fun p => decide (p.1 ≠ s))) σ.hp hp') (hs : (l.lookup s).isSome = true) (hl : l.length ≤ lim) (hk : k ⟨σ.loc, hp'⟩)
noncomputable def onIS (v : AV) (f : Int → Prop) (g : Str → Prop) : Prop := match v with
  | .int x => f x
  | .str x => g x
  | _ => False
inductive OnIS (f : Int → Prop) (g : Str → Prop) : AV → Prop
  | int (x : Int) (h : f x) : OnIS f g (.int x)
  | str (x : Str) (h : g x) : OnIS f g (.str x)
theorem onIS_get {v : AV} {f : Int → Prop} {g : Str → Prop} (h : onIS v f g) : OnIS f g v := by cases v <;> first | exact False.elim h | exact .int _ h | exact .str _ h
noncomputable def subA (ro : List (Addr × AO)) (o i : AV) (σ : AS) (k : AV → Prop) : Prop := match o with
  | .str s => onI i fun j => SbS s j k
  | .raw r => onV r fun a => onIS i (fun j => SbL ro σ a j k) fun s => SbD ro σ a s k
  | _ => False
noncomputable def setI (o i v : AV) (σ : AS) (k : AS → Prop) : Prop := onR o fun a => onIS i (fun j => Cl (SiL σ a j v k ∨ SiI σ a j v k)) fun s => SiD σ a s v k
noncomputable def delA (o i : AV) (σ : AS) (k : AS → Prop) : Prop := onR o fun a => onS i fun s => DeD σ a s k
noncomputable def sdrop (s : Str) (n : Nat) : Str := ⟨(s.cps.toList.drop n).toArray⟩
inductive SlS (σ : AS) (s : Str) (x : Int) (k : KV) : Prop
  | mk (n : Nat) (hx : x = n) (hn : n ≤ s.length) (hl : s.length ≤ lim) (hk : k (.str (sdrop s n)) σ)
inductive SlL (ro : HPs) (σ : AS) (a : Addr) (x : Int) (k : KV) : Prop
  | mk (l : List AV) (n : Nat) (h : Has ro σ.hp a (.list l)) (hx : x = n) (hn : n ≤ l.length) (hl : l.length ≤ lim) (hk : ∀ r, k (.ref r) ⟨σ.loc, (r, .list (l.drop n)) :: σ.hp⟩)
inductive SlM (ro : HPs) (σ : AS) (a : Addr) (x y : Int) (k : KV) : Prop
  | mk (l : List AV) (n n' : Nat) (h : Has ro σ.hp a (.list l)) (hx : x = n) (hy : y = n') (hnn : n ≤ n') (hn : n' ≤ l.length) (hl : l.length ≤ lim) (hk : ∀ r, k (.ref r) ⟨σ.loc, (r, .list ((l.drop n).take (n' - n))) :: σ.hp⟩)
noncomputable def sliceA (ro : List (Addr × AO)) (o i : AV) (j : Option AV) (σ : AS) (k : KV) : Prop := onI i fun x => match j with
  | none => match o with
    | .str s => SlS σ s x k
    | .raw r => onV r fun a => SlL ro σ a x k
    | _ => False
  | some w => onR o fun a => onI w fun y => SlM ro σ a x y k

/-- the level below -/
structure Sm where
  E : Prm → Expr → AS → KV → Prop
  Q : BoolOp → Prm → List Expr → AS → KV → Prop
  T : Prm → Expr → AS → (Bool → AS → Prop) → Prop
  TT : BoolOp → Prm → List Expr → AS → (Bool → AS → Prop) → Prop
  A : Prm → List Expr → AS → (List AV → AS → Prop) → Prop
  S : Prm → Stmt → AS → (Fl → AS → Prop) → Prop
  B : Prm → List Stmt → AS → (Fl → AS → Prop) → Prop
  C : Prm → Addr → List AV → List (Addr × AO) → (AV → List (Addr × AO) → Prop) → Prop

/-! methods -/
inductive MT where
  | str | list | dict | idict | sset | inst
noncomputable def isMT (ro : List (Addr × AO)) (o : AV) (σ : AS) : MT → Prop
  | .str => ∃ s, o = .str s
  | .list => ∃ a l, o = .ref a ∧ Has ro σ.hp a (.list l)
  | .dict => ∃ a l, o = .ref a ∧ Has ro σ.hp a (.dict l)
  | .idict => ∃ a l, o = .ref a ∧ Has ro σ.hp a (.idict l)
  | .sset => ∃ a l, o = .ref a ∧ l.length ≤ 1000 ∧ Has ro σ.hp a (.sset l)
  | .inst => ∃ a d l, o = .ref a ∧ Has ro σ.hp a (.inst 130 d) ∧ Has ro σ.hp d (.attrs l) ∧ ∀ p ∈ l, p.1 ∈ fields4

inductive LmA (σ : AS) (a : Addr) (v : AV) (k : KV) : Prop
  | mk (l : List AV) (hp' : HPs) (W : Wr a (.list l) (.list (l ++ [v])) σ.hp hp') (hl : l.length ≤ lim) (hk : k .none ⟨σ.loc, hp'⟩)
inductive LmP (σ : AS) (a : Addr) (k : KV) : Prop
  | mk (l : List AV) (v : AV) (hp' : HPs) (W : Wr a (.list (l ++ [v])) (.list l) σ.hp hp') (hl : l.length ≤ lim) (hk : k v ⟨σ.loc, hp'⟩)
inductive LmE (ro : HPs) (σ : AS) (a b : Addr) (k : KV) : Prop
  | mk (l l' : List AV) (hp' : HPs) (h : Has ro σ.hp b (.list l') ∨ Has ro σ.hp b (.tuple l')) (W : Wr a (.list l) (.list (l ++ l')) σ.hp hp') (hl : l.length + l'.length ≤ lim) (hk : k .none ⟨σ.loc, hp'⟩)
inductive LmI (ro : HPs) (σ : AS) (a : Addr) (s : Str) (k : KV) : Prop
  | mk (l : List Str) (h : Has ro σ.hp a (.list (l.map .str))) (hl : l.length ≤ lim) (hs : s ∈ l) (hk : k (.int (l.idxOf s : Nat)) σ)
inductive LmC (σ : AS) (a : Addr) (k : KV) : Prop
  | mk (l : List AV) (hp' : HPs) (W : Wr a (.list l) (.list []) σ.hp hp') (hl : l.length ≤ lim) (hk : k .none ⟨σ.loc, hp'⟩)
inductive DmG (ro : HPs) (σ : AS) (a : Addr) (s : Str) (d : AV) (k : KV) : Prop
  | mk (l : List (Str × AV)) (h : Has ro σ.hp a (.dict l)) (hk : k ((l.lookup s).getD d) σ)
inductive ImG (ro : HPs) (σ : AS) (a : Addr) (s : Int) (d : AV) (k : KV) : Prop
  | mk (l : List (Int × AV)) (h : Has ro σ.hp a (.idict l)) (hk : k ((l.lookup s).getD d) σ)
inductive SmJ (ro : HPs) (σ : AS) (b : Addr) (x : Str) (k : KV) : Prop
  | mk (l : List Str) (h : Has ro σ.hp b (.list (l.map .str))) (hl : (l.map (·.length)).sum + l.length * x.length ≤ 16777216) (hk : k (.str (Txt.join x l)) σ)
inductive SmA (σ : AS) (a : Addr) (s : Str) (k : KV) : Prop
  | mk (l : List Str) (hp' : HPs) (W : Wr a (.sset l) (.sset (s :: l)) σ.hp hp') (hl : l.length ≤ 1000) (hk : k .none ⟨σ.loc, hp'⟩)
noncomputable def listM (ro : List (Addr × AO)) (a : Addr) (name : Str) (vs : List AV) (σ : AS) (k : KV) : Prop :=
  if name = ("append" : Str) then match vs with
    | [v] => LmA σ a v k
    | _ => False
  else if name = ("pop" : Str) then match vs with
    | [] => LmP σ a k
    | _ => False
  else if name = ("extend" : Str) then match vs with
    | [.raw (.ref b)] => LmE ro σ a b k
    | _ => False
  else if name = ("index" : Str) then match vs with
    | [.str s] => LmI ro σ a s k
    | _ => False
  else if name = ("clear" : Str) then match vs with
    | [] => LmC σ a k
    | _ => False
  else False
noncomputable def dictM (ro : List (Addr × AO)) (a : Addr) (name : Str) (vs : List AV) (σ : AS) (k : KV) : Prop :=
  if name = ("get" : Str) then match vs with
    | [.str s] => DmG ro σ a s .none k
    | [.str s, d] => DmG ro σ a s d k
    | _ => False
  else False
noncomputable def idictM (ro : List (Addr × AO)) (a : Addr) (name : Str) (vs : List AV) (σ : AS) (k : KV) : Prop :=
  if name = ("get" : Str) then match vs with
    | [.int s, d] => ImG ro σ a s d k
    | _ => False
  else False
noncomputable def strM (ro : List (Addr × AO)) (x : Str) (name : Str) (vs : List AV) (σ : AS) (k : KV) : Prop :=
  if name = ("startswith" : Str) then match vs with
    | [.str y] => k (.bool (Txt.startswith x y)) σ
    | _ => False
  else if name = ("join" : Str) then match vs with
    | [.raw (.ref b)] => SmJ ro σ b x k
    | _ => False
  else False
noncomputable def ssetM (a : Addr) (name : Str) (vs : List AV) (σ : AS) (k : KV) : Prop :=
  if name = ("add" : Str) then match vs with
    | [.str s] => SmA σ a s k
    | _ => False
  else False

noncomputable def meths : List (Str × Addr) := [("_get_nodeinfo", 73), ("add", 80), ("prepare", 85), ("get_ready", 92), ("is_active", 99), ("done", 113), ("_find_cycle", 120), ("static_order", 127)]
noncomputable def listF : List (Str × Value) := [("append", .builtin "list.append"), ("pop", .builtin "list.pop"), ("extend", .builtin "list.extend"), ("index", .builtin "list.index"), ("clear", .builtin "list.clear")]
noncomputable def methF (t : MT) (name : Str) : Option Value := match t with
  | .str => if name = ("startswith" : Str) then some (.builtin "str.startswith") else if name = ("join" : Str) then some (.builtin "str.join") else none
  | .list => listF.lookup name
  | .dict => if name = ("get" : Str) then some (.builtin "dict.get") else none
  | .idict => if name = ("get" : Str) then some (.builtin "dict.get") else none
  | .sset => if name = ("add" : Str) then some (.builtin "set.add") else none
  | .inst => (meths.lookup name).map .ref
noncomputable def methA (m : Sm) (P : Prm) (t : MT) (o : AV) (name : Str) (vs : List AV) (σ : AS) (k : KV) : Prop := match t with
  | .str => match o with
    | .str x => strM P.ro x name vs σ k
    | _ => False
  | t => match o with
    | .raw (.ref a) => match t with
      | .list => listM P.ro a name vs σ k
      | .dict => dictM P.ro a name vs σ k
      | .idict => idictM P.ro a name vs σ k
      | .sset => ssetM a name vs σ k
      | .inst => match meths.lookup name with
        | some f => Cl (m.C P f (.ref a :: vs) σ.hp fun v hp => k v ⟨σ.loc, hp⟩)
        | none => False
      | .str => False
    | _ => False

inductive LnL (ro : HPs) (σ : AS) (a : Addr) (k : KV) : Prop
  | mk (l : List AV) (h : Has ro σ.hp a (.list l)) (hl : l.length ≤ lim) (hk : k (.int l.length) σ)
inductive LnT (ro : HPs) (σ : AS) (a : Addr) (k : KV) : Prop
  | mk (l : List AV) (h : Has ro σ.hp a (.tuple l)) (hl : l.length ≤ lim) (hk : k (.int l.length) σ)
inductive LnD (ro : HPs) (σ : AS) (a : Addr) (k : KV) : Prop
  | mk (l : List (Str × AV)) (h : Has ro σ.hp a (.dict l)) (hl : l.length ≤ lim) (hk : k (.int l.length) σ)
inductive MxL (ro : HPs) (nh : Bool) (σ : AS) (a : Addr) (k : KV) : Prop
  | mk (hn : nh = true) (l : List Int) (M : Int) (h : Has ro σ.hp a (.list (l.map .int))) (hm : M ∈ l) (hx : ∀ x ∈ l, x ≤ M) (hk : k (.int M) σ)
inductive SoD (ro : HPs) (nh : Bool) (σ : AS) (a : Addr) (k : KV) : Prop
  | mk (hn : nh = true) (l : List (Str × AV)) (h : Has ro σ.hp a (.dict l)) (hl : l.length < 64) (hk : ∀ r (l' : List Str), l'.Perm (l.map (·.1)) → PyProof.Rows.sortedS l' = true → k (.ref r) ⟨σ.loc, (r, .list (l'.map .str)) :: σ.hp⟩)
inductive TuL (ro : HPs) (σ : AS) (a : Addr) (k : KV) : Prop
  | mk (l : List AV) (h : Has ro σ.hp a (.list l)) (hl : l.length ≤ lim) (hk : ∀ r, k (.ref r) ⟨σ.loc, (r, .tuple l) :: σ.hp⟩)
noncomputable def builtinA (ro : List (Addr × AO)) (nh : Bool) (id : String) (vs : List AV) (σ : AS) (k : KV) : Prop :=
  if id = "len" then match vs with
    | [.str s] => s.length ≤ lim ∧ k (.int s.length) σ
    | [.raw (.ref a)] => Cl (LnL ro σ a k ∨ LnT ro σ a k ∨ LnD ro σ a k)
    | _ => False
  else if id = "max" then match vs with
    | [.raw (.ref a)] => MxL ro nh σ a k
    | _ => False
  else if id = "sorted" then match vs with
    | [.raw (.ref a)] => SoD ro nh σ a k
    | _ => False
  else False
noncomputable def typeA (ro : List (Addr × AO)) (n : String) (vs : List AV) (σ : AS) (k : KV) : Prop :=
  if n = "set" then match vs with
    | [] => ∀ r, k (.ref r) ⟨σ.loc, (r, .sset []) :: σ.hp⟩
    | _ => False
  else if n = "tuple" then match vs with
    | [.raw (.ref a)] => TuL ro σ a k
    | _ => False
  else if n = "bool" then match vs with
    | [v] => truA ro v σ fun b => k (.bool b) σ
    | _ => False
  else False

noncomputable def callA (m : Sm) (P : Prm) (f : AV) (vs : List AV) (σ : AS) (k : KV) : Prop := match f with
  | .raw (.builtin id) => builtinA P.ro P.nh id vs σ k
  | .raw (.type n) => typeA P.ro n vs σ k
  | .raw (.ref f) =>
    if f = 33 then match vs with
      | [v] => ∀ r d, Cl (m.C P 29 [.ref r, v] ((r, .node d none none none) :: (d, .attrs []) :: σ.hp) fun v hp => v = .none ∧ k (.ref r) ⟨σ.loc, hp⟩)
      | _ => False
    else if f = 130 then match vs with
      | [g] => ∀ r d, Cl (m.C P 66 [.ref r, g] ((r, .inst 130 d) :: (d, .attrs []) :: σ.hp) fun v hp => v = .none ∧ k (.ref r) ⟨σ.loc, hp⟩)
      | _ => False
    else Cl (m.C P f vs σ.hp fun v hp => k v ⟨σ.loc, hp⟩)
  | _ => False

/-! iteration -/
noncomputable abbrev Items := List (List AV)
noncomputable def selSeq : AO → Option Items
  | .list l => some (l.map fun v => [v])
  | .tuple l => some (l.map fun v => [v])
  | .dict l => some (l.map fun p => [.str p.1])
  | _ => none
noncomputable def selVals : AO → Option Items
  | .dict l => some (l.map fun p => [p.2])
  | _ => none
noncomputable def selItems : AO → Option Items
  | .dict l => some (l.map fun p => [.str p.1, p.2])
  | _ => none
noncomputable def selEnum : AO → Option Items
  | .list l => some (l.zipIdx.map fun p => [.int p.2, p.1])
  | _ => none
noncomputable abbrev KI := Items → (AS → Prop) → AS → Prop
inductive FzF (sel : AO → Option Items) (σ : AS) (a : Addr) (k : KI) : Prop
  | mk (x : AO) (items : Items) (o : Obj) (h : (a, AO.froz o x) ∈ σ.hp) (hs : sel x = some items) (hl : items.length ≤ lim) (hk : k items (fun σ' => (a, AO.froz o x) ∈ σ'.hp) σ)
inductive FzR (ro : HPs) (sel : AO → Option Items) (σ : AS) (a : Addr) (k : KI) : Prop
  | mk (x : AO) (items : Items) (h : (a, x) ∈ ro) (hs : sel x = some items) (hl : items.length ≤ lim) (hk : k items (fun _ => True) σ)
inductive FzN (sel : AO → Option Items) (σ : AS) (a : Addr) (k : KI) : Prop
  | mk (x : AO) (items : Items) (hp' : Obj → HPs) (hs : sel x = some items) (hl : items.length ≤ lim) (W : ∀ o, Wr a x (.froz o x) σ.hp (hp' o)) (hk : ∀ o, k items (fun σ' => (a, AO.froz o x) ∈ σ'.hp) ⟨σ.loc, hp' o⟩)
noncomputable def frz (ro : List (Addr × AO)) (v : AV) (sel : AO → Option Items) (σ : AS) (k : Items → (AS → Prop) → AS → Prop) : Prop := match v with
  | .raw (.ref a) =>
    Cl ((FzF sel σ a k ∨ FzR ro sel σ a k) ∨ FzN sel σ a k)
  | _ => False

inductive IterK where
  | items (o : Expr) | vals (o : Expr) | enum (x : Expr) | range (x : Expr) | plain
noncomputable def isBase : Expr → Bool
  | .Name .. => true
  | .Constant .. => true
  | .Attribute .. => true
  | .Subscript .. => true
  | _ => false
noncomputable def iterK : Expr → IterK
  | .Call (.Attribute o name apos) [] [] pos => match isBase o && apos.endLine == pos.line with
    | true => if name = ("items" : Str) then .items o else if name = ("values" : Str) then .vals o else .plain
    | false => .plain
  | .Call (.Name f _) [x] [] _ => if f = ("enumerate" : Str) then .enum x else if f = ("range" : Str) then .range x else .plain
  | _ => .plain
noncomputable def isSetE : Expr → Bool
  | .Set .. => true
  | _ => false
noncomputable def isStarE : Expr → Bool
  | .Starred .. => true
  | _ => false
noncomputable def iterA (m : Sm) (P : Prm) (e : Expr) (σ : AS) (k : Items → (AS → Prop) → AS → Prop) : Prop := match iterK e with
  | .items o => m.E P o σ fun v σ => frz P.ro v selItems σ k
  | .vals o => m.E P o σ fun v σ => frz P.ro v selVals σ k
  | .enum x => (isStarE x = false ∧ lookNm P σ "enumerate" = some (.raw (.type "enumerate"))) ∧ m.E P x σ fun v σ => frz P.ro v selEnum σ k
  | .range x => (isStarE x = false ∧ lookNm P σ "range" = some (.raw (.type "range"))) ∧ m.E P x σ fun v σ => match v with
    | .int n => (0 ≤ n ∧ n ≤ lim) ∧ k ((List.range n.toNat).map fun (i : Nat) => [.int i]) (fun _ => True) σ
    | _ => False
  | .plain => m.E P e σ fun v σ => frz P.ro v selSeq σ k

noncomputable def isNm : Expr → Bool
  | .Name _ _ => true
  | _ => false
noncomputable def isTwo : List Expr → Bool
  | [a, b] => isNm a && isNm b
  | _ => false
noncomputable def isTup2 : Expr → Bool
  | .Tuple es _ _ => isTwo es
  | _ => false
noncomputable def tgtOk (it t : Expr) : Bool := !isSetE it && match iterK it with
  | .items _ => isTup2 t
  | .enum _ => isTup2 t
  | _ => isNm t
noncomputable def targetNames : Expr → Option (List Str)
  | .Name x _ => some [x]
  | .Tuple [.Name x _, .Name y _] _ _ => some [x, y]
  | _ => none
noncomputable def storeAll (P : Prm) : List Str → List AV → AS → (AS → Prop) → Prop
  | [], [], σ, k => k σ
  | x :: xs, v :: vs, σ, k => match storable P x with
    | true => storeAll P xs vs ⟨upd x v σ.loc, σ.hp⟩ k
    | false => False
  | _, _, _, _ => False

/-- what is left of the locals when some names are forgotten -/
noncomputable def fgtL (ns : List Str) (l : List (Str × AV)) : List (Str × AV) := l.filter fun p => !ns.contains p.1
theorem fgtL_no {ns : List Str} {x : Str} (hx : ns.contains x = true) : ∀ l : List (Str × AV), (fgtL ns l).lookup x = none
  | [] => rfl
  | (y, u) :: r => by
    cases hb : ns.contains y with
    | true =>
      have e : fgtL ns ((y, u) :: r) = fgtL ns r := by unfold fgtL; rw [List.filter_cons_of_neg]; simp only [hb]; decide
      rw [e]; exact fgtL_no hx r
    | false =>
      have e : fgtL ns ((y, u) :: r) = (y, u) :: fgtL ns r := by unfold fgtL; rw [List.filter_cons_of_pos]; simp only [hb]; decide
      have hne : (x == y) = false := by
        cases hc : x == y with
        | false => rfl
        | true => rw [eq_of_beq hc, hb] at hx; cases hx
      rw [e, List.lookup_cons, hne]; exact fgtL_no hx r
theorem fgtL_lk {ns : List Str} : ∀ (l : List (Str × AV)) (x : Str) (v : AV), (fgtL ns l).lookup x = some v → l.lookup x = some v
  | [], _, _, h => by cases h
  | (y, u) :: r, x, v, h => by
    cases hb : ns.contains y with
    | true =>
      have e : fgtL ns ((y, u) :: r) = fgtL ns r := by unfold fgtL; rw [List.filter_cons_of_neg]; simp only [hb]; decide
      rw [e] at h
      rw [List.lookup_cons]
      cases hc : x == y with
      | true => rw [eq_of_beq hc, fgtL_no hb] at h; cases h
      | false => exact fgtL_lk r x v h
    | false =>
      have e : fgtL ns ((y, u) :: r) = (y, u) :: fgtL ns r := by unfold fgtL; rw [List.filter_cons_of_pos]; simp only [hb]; decide
      rw [e, List.lookup_cons] at h
      rw [List.lookup_cons]
      cases hc : x == y with
      | true => rw [hc] at h; exact h
      | false => rw [hc] at h; exact fgtL_lk r x v h
inductive Fgt (I : AS → Prop) (σ : AS) : Prop
  | mk (ns : List Str) (h : I ⟨fgtL ns σ.loc, σ.hp⟩)
noncomputable def loopK (I : AS → Prop) (k : Fl → AS → Prop) (fl : Fl) (σ : AS) : Prop := match fl with
  | .next => Fgt I σ
  | .cont => Fgt I σ
  | .brk => Fgt (k .next) σ
  | .ret v => k (.ret v) σ
/-- what may stand behind a loop's body -/
structure LoopK (I : AS → Prop) (k K : Fl → AS → Prop) : Prop where
  next : ∀ ns σ, I ⟨fgtL ns σ.loc, σ.hp⟩ → K .next σ
  cont : ∀ ns σ, I ⟨fgtL ns σ.loc, σ.hp⟩ → K .cont σ
  brk : ∀ ns σ, k .next ⟨fgtL ns σ.loc, σ.hp⟩ → K .brk σ
  ret : ∀ v σ, k (.ret v) σ → K (.ret v) σ
theorem loopK_ok (I : AS → Prop) (k : Fl → AS → Prop) : LoopK I k (loopK I k) := ⟨fun ns _ h => ⟨ns, h⟩, fun ns _ h => ⟨ns, h⟩, fun ns _ h => ⟨ns, h⟩, fun _ _ h => h⟩
structure TurnK (I K : AS → Prop) : Prop where
  next : ∀ ns σ, I ⟨fgtL ns σ.loc, σ.hp⟩ → K σ
theorem fgt_ok (I : AS → Prop) : TurnK I (Fgt I) := ⟨fun ns _ h => ⟨ns, h⟩⟩
inductive forA (m : Sm) (P : Prm) (ts : List Str) (items : Items) (keep : AS → Prop) (body : List Stmt) (σ : AS) (k : Fl → AS → Prop) : Prop
  | mk (I : Nat → AS → Prop) (h0 : I 0 σ) (hk : ∀ i σ', I i σ' → keep σ')
    (hb : ∀ i vs σ', items[i]? = some vs → I i σ' → ∀ K, LoopK (I (i + 1)) k K → storeAll P ts vs σ' fun σ₁ => m.B P body σ₁ K)
    (he : ∀ σ', I items.length σ' → k .next σ')

inductive Emit where
  | list (elt : Expr) | dict (key val : Expr)
inductive EmL (σ : AS) (r : Addr) (v : AV) (k : AS → Prop) : Prop
  | mk (l : List AV) (hp' : HPs) (W : Wr r (.list l) (.list (l ++ [v])) σ.hp hp') (hl : l.length ≤ lim) (hk : k ⟨σ.loc, hp'⟩)
noncomputable def emitA (m : Sm) (P : Prm) (r : Addr) (em : Emit) (σ : AS) (k : AS → Prop) : Prop := match em with
  | .list e => m.E P e σ fun v σ => EmL σ r v k
  | .dict e e' => m.E P e σ fun kv σ => m.E P e' σ fun v σ => match kv with
    | .str s => SiD σ r s v k
    | _ => False
noncomputable def ifsA (m : Sm) (P : Prm) : List Expr → AS → (Bool → AS → Prop) → Prop
  | [], σ, k => k true σ
  | e :: es, σ, k => m.T P e σ fun b σ => (b = true → ifsA m P es σ k) ∧ (b = false → k false σ)

inductive TurnI (items : Items) (keep : AS → Prop) (σ : AS) (k : AS → Prop) (step : (AS → Prop) → List AV → AS → Prop) : Prop
  | mk (I : Nat → AS → Prop) (h0 : I 0 σ) (hk : ∀ i σ', I i σ' → keep σ') (hb : ∀ i vs σ', items[i]? = some vs → I i σ' → ∀ K, TurnK (I (i + 1)) K → step K vs σ') (he : ∀ σ', I items.length σ' → k σ')
mutual
noncomputable def turnsA (m : Sm) (P : Prm) (r : Addr) (em : Emit) (ts : List Str) (ifs : List Expr) (rest : List Comprehension) (items : Items) (keep : AS → Prop) (σ : AS) (k : AS → Prop) : Nat → Prop
  | 0 => False
  | d + 1 => TurnI items keep σ k fun J vs σ' => storeAll P ts vs σ' fun σ₁ => ifsA m P ifs σ₁ fun b σ₂ =>
      (b = true → gensA m P r em rest σ₂ J d) ∧ (b = false → J σ₂)
noncomputable def gensA (m : Sm) (P : Prm) (r : Addr) (em : Emit) (gs : List Comprehension) (σ : AS) (k : AS → Prop) : Nat → Prop
  | 0 => False
  | d + 1 => match gs with
    | [] => emitA m P r em σ k
    | ⟨t, it, ifs, a⟩ :: rest => On (tgtOk it t && P.nh && isNm t && decide (a = 0)) <| iterA m P it σ fun items keep σ => match targetNames t with
      | some ts => turnsA m P r em ts ifs rest items keep σ k d
      | none => False
end

noncomputable def compScope (P : Prm) (sc : Scope) : Scope := { sc with names := sc.names.map fun (n, k) => if k == .free && P.sc.kind == .function && P.sc.names.lookup n == some .cell then (n, .cell) else (n, k) }
noncomputable def freeOk (P : Prm) (sc : Scope) : Bool := sc.kind == .function && (sc.names.all fun p => p.2 == .local || p.2 == .globalImplicit || (p.2 == .free && (P.sc.names.lookup p.1 == some .cell || (P.comp && P.sc.names.lookup p.1 == some .free)))) &&
  decide ((sc.names.map (·.1)).Nodup) && (sc.names.all fun p => p.1 != ("__debug__" : Str) && p.1 != ("__classdict__" : Str))
noncomputable def compLoc (sc : Scope) (σ : AS) : List (Str × AV) := σ.loc.filter fun p => sc.names.lookup p.1 == some .free
noncomputable def comprA (m : Sm) (P : Prm) (em : Emit) (init : AO) (gens : List Comprehension) (sc : Scope) (σ : AS) (k : KV) : Prop := match gens with
  | ⟨t, it, ifs, a⟩ :: rest => match freeOk P sc && P.nh && tgtOk it t && isNm t && decide (a = 0) with
    | true => iterA m P it σ fun items keep σ => ∀ r, match targetNames t with
      | some ts => turnsA m ⟨compScope P sc, P.ro, P.nh, true⟩ r em ts ifs rest items keep ⟨compLoc sc σ, (r, init) :: σ.hp⟩ (fun σ' => k (.ref r) ⟨σ.loc, σ'.hp⟩) 10
      | none => False
    | false => False
  | [] => False

noncomputable def hasStar : List Expr → Bool
  | [] => false
  | .Starred .. :: _ => true
  | _ :: r => hasStar r
/-- which road a method call takes: some true is the road of a bound method -/
noncomputable def callForm (o : Expr) (args : List Expr) (apos pos : Pos) : Option Bool := match isBase o && decide (args.length < 30) with
  | true => match hasStar args with
    | true => some true
    | false => match apos.endLine == pos.line with
      | true => some false
      | false => none
  | false => none
noncomputable def isNC : Expr → Bool
  | .Name .. => true
  | .Constant (.str _) .. => true
  | _ => false

inductive McT (m : Sm) (P : Prm) (ov : AV) (name : Str) (args : List Expr) (σ : AS) (k : KV) : Prop
  | mk (t : MT) (h : isMT P.ro ov σ t) (hm : (methF t name).isSome = true) (hk : m.A P args σ fun vs σ => methA m P t ov name vs σ k)
inductive McI (m : Sm) (P : Prm) (ov : AV) (name : Str) (args : List Expr) (σ : AS) (k : KV) : Prop
  | mk (h : isMT P.ro ov σ .inst) (hm : (methF .inst name).isSome = true) (hk : m.A P args σ fun vs σ => methA m P .inst ov name vs σ k)
noncomputable def nextW (ro : List (Addr × AO)) (v : AV) (σ : AS) (k : KV) : Prop := match v with
  | .raw (.ref a) => ∃ l, Has ro σ.hp a (.list l) ∧ ∀ i m, k (.ref m) ⟨σ.loc, (m, .mw i) :: (i, .lit a 0) :: σ.hp⟩
  | _ => False
noncomputable def cmpE (m : Sm) (P : Prm) (l : Expr) (ops : List CmpOp) (rs : List Expr) (σ : AS) (k : Bool → AS → Prop) : Prop := match ops, rs with
  | [op], [r] => Off (isSetE r) <| m.E P l σ fun a σ => m.E P r σ fun b σ => cmpA P.ro op a b σ fun t => k t σ
  | _, _ => False
noncomputable def callE (m : Sm) (P : Prm) (f : Expr) (args : List Expr) (ks : List Keyword) (pos : Pos) (σ : AS) (k : KV) : Prop := match ks with
  | [] => match f with
    | .Attribute o name apos => match callForm o args apos pos with
      | some false => m.E P o σ fun ov σ => McT m P ov name args σ k
      | some true => m.E P o σ fun ov σ => McI m P ov name args σ k
      | none => False
    | .Name f p => m.E P (.Name f p) σ fun fv σ => m.A P args σ fun vs σ => callA m P fv vs σ k
    | _ => False
  | _ => False
noncomputable def iterE (m : Sm) (P : Prm) (f : Expr) (xs : List Expr) (ks : List Keyword) (name : Str) (σ : AS) (k : KV) : Prop := match ks with
  | [] => match xs with
    | [x] => match f with
      | .Name f _ => match decide (f = ("iter" : Str)) && decide (name = ("__next__" : Str)) with
        | true => (isStarE x = false ∧ lookNm P σ "iter" = some (.raw (.builtin "iter"))) ∧ m.E P x σ fun v σ => nextW P.ro v σ k
        | false => False
      | _ => False
    | _ => False
  | _ => False
noncomputable def attrE (m : Sm) (P : Prm) (o : Expr) (name : Str) (σ : AS) (k : KV) : Prop := match o with
  | .Name x p => m.E P (.Name x p) σ fun ov σ => attrA P.ro ov name σ fun v => k v σ
  | .Call f xs ks _ => iterE m P f xs ks name σ k
  | .Subscript a b p => m.E P (.Subscript a b p) σ fun ov σ => attrA P.ro ov name σ fun v => k v σ
  | _ => False
noncomputable def sliceE (m : Sm) (P : Prm) (o : Expr) (lo hi st : Option Expr) (σ : AS) (k : KV) : Prop := match st with
  | none => match lo with
    | some lo => match hi with
      | none => On (isNC o) <| m.E P o σ fun ov σ => m.E P lo σ fun iv σ => sliceA P.ro ov iv none σ k
      | some hi => On (isNC o) <| m.E P o σ fun ov σ => m.E P lo σ fun iv σ => m.E P hi σ fun jv σ => sliceA P.ro ov iv (some jv) σ k
    | none => False
  | some _ => False
noncomputable def isIx : Expr → Bool
  | .Name .. => true
  | .Constant .. => true
  | .BinOp .. => true
  | _ => false
noncomputable def subE (m : Sm) (P : Prm) (o i : Expr) (σ : AS) (k : KV) : Prop := match i with
  | .Slice lo hi st _ => sliceE m P o lo hi st σ k
  | i => On (isNC o && isIx i) <| m.E P o σ fun ov σ => m.E P i σ fun iv σ => subA P.ro ov iv σ fun v => k v σ
noncomputable def stepE (m : Sm) (P : Prm) (e : Expr) (σ : AS) (k : KV) : Prop := match e with
  | .Constant c _ _ => match c with
    | .none => k .none σ
    | .bool b => k (.bool b) σ
    | .int i => k (.int i) σ
    | .str s => k (.str s) σ
    | _ => False
  | .Name x _ => match lookNm P σ x with
    | some v => k v σ
    | none => False
  | .BinOp l op r _ => m.E P l σ fun a σ => m.E P r σ fun b σ => binA P.ro op a b σ k
  | .BoolOp op es _ => m.Q op P es σ k
  | .Compare l ops rs _ => cmpE m P l ops rs σ fun t σ => k (.bool t) σ
  | .Call f args ks pos => callE m P f args ks pos σ k
  | .Attribute o name _ => attrE m P o name σ k
  | .Subscript o i _ => subE m P o i σ k
  | .List es _ => m.A P es σ fun vs σ => vs.length ≤ lim ∧ ∀ r, k (.ref r) ⟨σ.loc, (r, .list vs) :: σ.hp⟩
  | .Dict ks vs _ => match ks, vs with
    | [], [] => Cl ((∀ r, k (.ref r) ⟨σ.loc, (r, .dict []) :: σ.hp⟩) ∨ ∀ r, k (.ref r) ⟨σ.loc, (r, .idict []) :: σ.hp⟩)
    | _, _ => False
  | .ListComp elt gens sc _ => comprA m P (.list elt) (.list []) gens sc σ k
  | .DictComp kx vx gens sc _ => comprA m P (.dict kx vx) (.dict []) gens sc σ k
  | .NamedExpr t e _ => match t with
    | .Name x _ => m.E P e σ fun v σ => match storable P x with
      | true => k v ⟨upd x v σ.loc, σ.hp⟩
      | false => False
    | _ => False
  | _ => False

noncomputable def stepQ (m : Sm) (op : BoolOp) (P : Prm) (es : List Expr) (σ : AS) (k : KV) : Prop := match es with
  | [] => False
  | [e] => m.E P e σ k
  | e :: rest => m.E P e σ fun v σ => truA P.ro v σ fun b => match op with
    | .And => (b = true → m.Q op P rest σ k) ∧ (b = false → k v σ)
    | .Or => (b = false → m.Q op P rest σ k) ∧ (b = true → k v σ)
noncomputable def stepT (m : Sm) (P : Prm) (e : Expr) (σ : AS) (k : Bool → AS → Prop) : Prop := match e with
  | .UnaryOp .Not e _ => m.T P e σ fun b σ => k (!b) σ
  | .BoolOp op es _ => m.TT op P es σ k
  | .Compare l ops rs _ => cmpE m P l ops rs σ k
  | .Name x p => m.E P (.Name x p) σ fun v σ => truA P.ro v σ fun b => k b σ
  | .Call f a ks p => m.E P (.Call f a ks p) σ fun v σ => truA P.ro v σ fun b => k b σ
  | .Constant c q p => m.E P (.Constant c q p) σ fun v σ => truA P.ro v σ fun b => k b σ
  | _ => False
noncomputable def stepTT (m : Sm) (op : BoolOp) (P : Prm) (es : List Expr) (σ : AS) (k : Bool → AS → Prop) : Prop := match es with
  | [] => k (op == .And) σ
  | e :: rest => m.T P e σ fun b σ => match op with
    | .And => (b = true → m.TT op P rest σ k) ∧ (b = false → k false σ)
    | .Or => (b = false → m.TT op P rest σ k) ∧ (b = true → k true σ)
inductive SrL (ro : HPs) (σ : AS) (a : Addr) (k : List AV → Prop) : Prop
  | mk (l : List AV) (h : Has ro σ.hp a (.list l) ∨ Has ro σ.hp a (.tuple l)) (hl : l.length ≤ lim) (hk : k l)
noncomputable def starA (ro : List (Addr × AO)) (v : AV) (σ : AS) (k : List AV → Prop) : Prop := match v with
  | .raw (.ref a) => SrL ro σ a k
  | _ => False
noncomputable def stepA (m : Sm) (P : Prm) (es : List Expr) (σ : AS) (k : List AV → AS → Prop) : Prop := match es with
  | [] => k [] σ
  | .Starred e _ :: rest => m.E P e σ fun v σ => starA P.ro v σ fun l => m.A P rest σ fun vs σ => k (l ++ vs) σ
  | e :: rest => m.E P e σ fun v σ => m.A P rest σ fun vs σ => k (v :: vs) σ

noncomputable def isNmX : Expr → Bool
  | .Name _ _ => true
  | _ => false
noncomputable def isIxS : Expr → Bool
  | .Name .. => true
  | .Constant .. => true
  | .Subscript .. => true
  | _ => false
noncomputable def isBin : Expr → Bool
  | .BinOp .. => true
  | _ => false
noncomputable def assignA (m : Sm) (P : Prm) (t : Expr) (v : AV) (σ : AS) (k : AS → Prop) : Prop := match t with
  | .Name x _ => match storable P x with
    | true => k ⟨upd x v σ.loc, σ.hp⟩
    | false => False
  | .Attribute o name _ => m.E P o σ fun ov σ => setA P.ro ov name v σ k
  | .Subscript o i _ => On (isIxS i) <| m.E P o σ fun ov σ => m.E P i σ fun iv σ => setI ov iv v σ k
  | _ => False
noncomputable def augA (m : Sm) (P : Prm) (t : Expr) (op : Operator) (e : Expr) (σ : AS) (k : AS → Prop) : Prop := match t with
  | .Name x _ => match lookNm P σ x with
    | some a => m.E P e σ fun b σ => iopA P.ro op a b σ fun r σ => match storable P x with
      | true => k ⟨upd x r σ.loc, σ.hp⟩
      | false => False
    | none => False
  | .Attribute o name _ => On (isNmX o) <| m.E P o σ fun ov σ => attrA P.ro ov name σ fun a => m.E P e σ fun b σ => iopA P.ro op a b σ fun r σ => setA P.ro ov name r σ k
  | .Subscript o i _ => On (isBin i) <| m.E P o σ fun ov σ => m.E P i σ fun iv σ => subA P.ro ov iv σ fun a => m.E P e σ fun b σ => iopA P.ro op a b σ fun r σ => setI ov iv r σ k
  | _ => False

inductive whileA (m : Sm) (P : Prm) (t : Expr) (body orelse : List Stmt) (σ : AS) (k : Fl → AS → Prop) : Prop
  | mk (I : Nat → AS → Prop) (h0 : ∃ n, I n σ) (hb : ∀ n σ', I n σ' → ∀ K, LoopK (fun σ => ∃ n', n' < n ∧ I n' σ) k K → m.T P t σ' fun b σ₁ =>
    (b = true → m.B P body σ₁ K) ∧ (b = false → m.B P orelse σ₁ k))

noncomputable def compS (e : Expr) : Option Scope := PySem.swapsWith.match_1 (fun _ => Option Scope) e (fun _ _ s _ => some s) (fun _ _ s _ => some s) (fun _ _ _ s _ => some s) fun _ => none
noncomputable def isCmp (e : Expr) : Bool := (compS e).isSome
inductive CmpI : Expr → Prop
  | l (a : Expr) (b : List Comprehension) (s : Scope) (p : Pos) : CmpI (.ListComp a b s p)
  | s (a : Expr) (b : List Comprehension) (s : Scope) (p : Pos) : CmpI (.SetComp a b s p)
  | d (k a : Expr) (b : List Comprehension) (s : Scope) (p : Pos) : CmpI (.DictComp k a b s p)
theorem isCmp_inv {e : Expr} (h : isCmp e = true) : CmpI e := by
  cases e <;> first | exact .l .. | exact .s .. | exact .d .. | exact absurd h Bool.false_ne_true
noncomputable def okT : Expr → Bool
  | .Name .. => true
  | .Attribute .. => true
  | .Subscript .. => true
  | _ => false
/-! ## the functions of the program -/
structure Fn where
  name : Str
  qual : Str
  params : Arguments
  body : List Stmt
  scope : Scope
noncomputable def topFn (n : Str) : Option Fn := PR.main.body.findSome? fun st => match st with
  | .FunctionDef m a b _ _ _ sc _ _ _ => if m = n then some ⟨n, n, a, b, sc⟩ else none
  | _ => none
noncomputable def clsFn (c n : Str) : Option Fn := PR.main.body.findSome? fun st => match st with
  | .ClassDef m _ _ bd _ _ _ _ _ _ _ => if m = c then bd.findSome? fun st => match st with
      | .FunctionDef m a b _ _ _ sc _ _ _ => if m = n then some ⟨n, c ++ "." ++ n, a, b, sc⟩ else none
      | _ => none
    else none
  | _ => none
noncomputable def ft : List (Addr × Option Str × Str) := [(29, some "_NodeInfo", "__init__"), (66, some "TopologicalSorter", "__init__"), (73, some "TopologicalSorter", "_get_nodeinfo"), (80, some "TopologicalSorter", "add"),
  (85, some "TopologicalSorter", "prepare"), (92, some "TopologicalSorter", "get_ready"), (99, some "TopologicalSorter", "is_active"), (113, some "TopologicalSorter", "done"), (120, some "TopologicalSorter", "_find_cycle"),
  (144, none, "ISEOF"), (151, none, "_law_operators"), (156, none, "_law_code"), (163, none, "_law_rest"), (168, none, "_law_far"), (173, none, "law")]
noncomputable def fnAt (f : Addr) : Option Fn := match ft.lookup f with
  | some (none, n) => topFn n
  | some (some c, n) => clsFn c n
  | none => none

/-- the generator and what of it is used -/
noncomputable def gFn : Option Fn := clsFn "TopologicalSorter" "static_order"
noncomputable def GPart (F : Fn) (t : Expr) (g dn : Stmt) : Prop := ∃ p1 ap cp p4 p5 p6 p7 p8, (ap.endLine == cp.line) = true ∧
    F.body = [.Expr (.Call (.Attribute (.Name "self" p1) "prepare" ap) [] [] cp) p4, .While t [g, .Expr (.YieldFrom (.Name "node_group" p5) p6) p7, dn] [] p8]
noncomputable def PPart (F : Fn) (pre : List Stmt) (te : Expr) (c : Str) : Prop := ∃ m k1 k2 k3 k4 k5 k6 k7 k8,
    F.body = pre ++ [.If te [.Raise (some (.Call (.Name "CycleError" k1) [.JoinedStr [.Constant (.str m) k2 k3] k4, .Name c k5] [] k6)) none k7] [] k8]

/-- `try: x = y[-1](); break` with one handler -/
inductive NxI (x : Str) (it lst : Addr) (i : Nat) (items : List AV) (σ : AS) (k : Fl → AS → Prop) : Prop
  | mk (v : AV) (hp' : HPs) (hv : items[i]? = some v) (W : Wr it (.lit lst i) (.lit lst (i + 1)) σ.hp hp') (hk : k .brk ⟨upd x v σ.loc, hp'⟩)
inductive NxE (m : Sm) (P : Prm) (hb : List Stmt) (it lst : Addr) (i : Nat) (items : List AV) (σ : AS) (k : Fl → AS → Prop) : Prop
  | mk (hp' : HPs) (hv : items[i]? = none) (W : Wr it (.lit lst i) .junk σ.hp hp') (hk : m.B ⟨P.sc, P.ro, false, P.comp⟩ hb ⟨σ.loc, hp'⟩ k)
inductive nextA (m : Sm) (P : Prm) (x y ex : Str) (hb : List Stmt) (σ : AS) (k : Fl → AS → Prop) : Prop
  | mk (hnh : P.nh = true) (hcm : P.comp = false) (hex : lookNm P σ ex = some (.raw (.type "StopIteration"))) (hst : storable P x = true)
    (a : Addr) (l : List AV) (q it lst : Addr) (i : Nat) (items : List AV) (hy : lookNm P σ y = some (.ref a)) (Hl : Has P.ro σ.hp a (.list (l ++ [.ref q]))) (hlim : l.length ≤ lim) (Hm : Has P.ro σ.hp q (.mw it)) (Hs : Has P.ro σ.hp lst (.list items))
    (hc : NxI x it lst i items σ k ∨ NxE m P hb it lst i items σ k)
/-- the loop of the generator with the body of the `for`; the states are those of the frame that iterates -/
inductive GNx (m : Sm) (P Pg : Prm) (x : Str) (dn : Stmt) (body : List Stmt) (J : Nat → List (Str × AV) → AS → Prop) (n : Nat) (σ σg : AS) : Prop
  | mk (tp : Addr) (items : List AV) (hgrp : lookNm Pg σg "node_group" = some (.ref tp)) (Ht : Has P.ro σg.hp tp (.tuple items)) (hlim : items.length ≤ lim)
    (n' : Nat) (JJ : Nat → AS → Prop) (hlt : n' + items.length < n) (h0 : JJ 0 (⟨σ.loc, σg.hp⟩ : AS)) (hhas : ∀ i σ, JJ i σ → Has P.ro σ.hp tp (.tuple items))
    (hstep : ∀ i v σ, items[i]? = some v → JJ i σ → ∀ K : Fl → AS → Prop, TurnK (JJ (i + 1)) (K .next) → m.B P body ⟨upd x v σ.loc, σ.hp⟩ K)
    (hdone : ∀ σ, JJ items.length σ → ∀ K : Fl → AS → Prop, TurnK (fun τ => J n' τ.loc ⟨σ.loc, τ.hp⟩) (K .next) → m.S Pg dn ⟨σg.loc, σ.hp⟩ K)
noncomputable def GTurn (m : Sm) (P Pg : Prm) (x : Str) (t : Expr) (g dn : Stmt) (body : List Stmt) (J : Nat → List (Str × AV) → AS → Prop) (k : AS → Prop) (n : Nat) (lg : List (Str × AV)) (σ : AS) : Prop :=
  m.T Pg t ⟨lg, σ.hp⟩ fun b σg => (b = false → k ⟨σ.loc, σg.hp⟩) ∧ (b = true → m.S Pg g σg fun fl σg => match fl with
      | .next => GNx m P Pg x dn body J n σ σg
      | _ => False)
noncomputable def genLoop (N : Nat) (m : Sm) (P Pg : Prm) (x : Str) (t : Expr) (g dn : Stmt) (body : List Stmt) (lg : List (Str × AV)) (σ : AS) (k : AS → Prop) : Prop :=
  ∃ J : Nat → List (Str × AV) → AS → Prop, (∃ n, n ≤ N ∧ J n lg σ) ∧ ∀ n lg σ, J n lg σ → GTurn m P Pg x t g dn body J k n lg σ
/-- `try: for x in y.static_order(): body` with the handler of a CycleError -/
inductive genA (m : Sm) (P : Prm) (x y ce : Str) (body hb : List Stmt) (σ : AS) (k : Fl → AS → Prop) : Prop
  | mk (c0 : P.nh = true ∧ P.comp = false ∧ storable P x = true ∧ lookNm P σ ce = some (.ref 48)) (N : Nat) (a d : Addr) (l : List (Str × AV)) (hy : lookNm P σ y = some (.ref a)) (H : Has P.ro σ.hp a (.inst 130 d)) (D : Has P.ro σ.hp d (.attrs l)) (hll : ∀ p ∈ l, p.1 ∈ fields4)
    (F Fp : Fn) (hF : gFn = some F) (hFp : fnAt 85 = some Fp) (t : Expr) (g dn : Stmt) (hG : GPart F t g dn) (pre : List Stmt) (te : Expr) (c : Str) (hP : PPart Fp pre te c)
    (h : m.B ⟨Fp.scope, P.ro, P.nh, false⟩ pre ⟨[("self", .ref a)], σ.hp⟩ fun fl σp => match fl with
        | .next => m.T ⟨Fp.scope, P.ro, P.nh, false⟩ te σp fun b σp =>
            (b = true → (lookNm ⟨Fp.scope, P.ro, P.nh, false⟩ σp c).isSome = true ∧ lookNm ⟨Fp.scope, P.ro, P.nh, false⟩ σp "CycleError" = some (.ref 48) ∧ m.B ⟨P.sc, P.ro, false, P.comp⟩ hb ⟨σ.loc, σp.hp⟩ k) ∧
            (b = false → genLoop N m P ⟨F.scope, P.ro, P.nh, false⟩ x t g dn body [("self", .ref a)] ⟨σ.loc, σp.hp⟩ (k .next))
        | _ => False)
inductive TryA (m : Sm) (P : Prm) (st : Stmt) (σ : AS) (k : Fl → AS → Prop) : Prop
  | next (x y ex : Str) (p1 p2 p3 p4 p5 p6 p7 p8 p9 p10 p11 : Pos) (c1 : Nat) (b : Stmt) (hb : List Stmt)
    (e : st = .Try [.Assign [.Name x p1] (.Call (.Subscript (.Name y p2) (.UnaryOp .USub (.Constant (.int 1) c1 p3) p4) p5) [] [] p6) p7, .Break p8] [.ExceptHandler (some (.Name ex p9)) none (b :: hb) p10] [] [] p11)
    (h : nextA m P x y ex (b :: hb) σ k)
  | gen (x y ce : Str) (p1 p2 p3 p4 p5 p6 ap cp : Pos) (body : List Stmt) (b : Stmt) (hb : List Stmt)
    (e : st = .Try [.For (.Name x p1) (.Call (.Attribute (.Name y p2) "static_order" ap) [] [] cp) body [] p3] [.ExceptHandler (some (.Name ce p4)) none (b :: hb) p5] [] [] p6)
    (hl : (ap.endLine == cp.line) = true) (h : genA m P x y ce body (b :: hb) σ k)
noncomputable def isCallE : Expr → Bool
  | .Call .. => true
  | _ => false
noncomputable def delS (m : Sm) (P : Prm) (ts : List Expr) (σ : AS) (k : AS → Prop) : Prop := match ts with
  | [t] => match t with
    | .Subscript o i _ => On (isCallE i) <| m.E P o σ fun ov σ => m.E P i σ fun iv σ => delA ov iv σ k
    | _ => False
  | _ => False
noncomputable def assignS (m : Sm) (P : Prm) (ts : List Expr) (e : Expr) (σ : AS) (k : AS → Prop) : Prop := match ts with
  | [t] => On (okT t) <| m.E P e σ fun v σ => assignA m P t v σ fun σ => k σ
  | [t, t'] => On (okT t && okT t') <| m.E P e σ fun v σ => assignA m P t v σ fun σ => assignA m P t' v σ fun σ => k σ
  | _ => False
noncomputable def forS (m : Sm) (P : Prm) (t it : Expr) (b o : List Stmt) (σ : AS) (k : Fl → AS → Prop) : Prop := match o with
  | [] => match P.nh && tgtOk it t with
    | true => iterA m P it σ fun items keep σ => match targetNames t with
      | some ts => forA m P ts items keep b σ k
      | none => False
    | false => False
  | _ => False
noncomputable def stepS (m : Sm) (P : Prm) (st : Stmt) (σ : AS) (k : Fl → AS → Prop) : Prop := match st with
  | .Expr e _ => Off (isCmp e) <| m.E P e σ fun _ σ => k .next σ
  | .Assign ts e _ => assignS m P ts e σ fun σ => k .next σ
  | .AugAssign t op e _ => augA m P t op e σ fun σ => k .next σ
  | .If t b o _ => m.T P t σ fun c σ => (c = true → m.B P b σ k) ∧ (c = false → m.B P o σ k)
  | .While t b o _ => whileA m P t b o σ k
  | .For t it b o _ => forS m P t it b o σ k
  | .Return r _ => match r with
    | some e => m.E P e σ fun v σ => k (.ret v) σ
    | none => False
  | .Break _ => k .brk σ
  | .Continue _ => k .cont σ
  | .Try b h o f p => TryA m P (.Try b h o f p) σ k
  | .Delete ts _ => delS m P ts σ fun σ => k .next σ
  | _ => False
noncomputable def stepB (m : Sm) (P : Prm) (ss : List Stmt) (σ : AS) (k : Fl → AS → Prop) : Prop := match ss with
  | [] => k .next σ
  | s :: rest => m.S P s σ fun fl σ => match fl with
    | .next => m.B P rest σ k
    | fl => k fl σ

end Mine
end

section
open PySem PySem.W PyProof.Rows PySem.Calls PySem.Spec
set_option maxRecDepth 100000
namespace Mine

/-! ## the heap that the program's opening leaves: what the walk asks of it -/
noncomputable def ne (P : PySem.Params) (n : Str) (t : Nat) (v : Value) : DictEntry := { hash := PyData.keyHash P n, key := .str n t, val := v }
noncomputable def dcO (es : Array DictEntry) (n : Nat) : Obj := { cls := .type "dict", data := .dict es n }
noncomputable def stI (i : Nat) : Stmt := (PR.main.body[i]?).getD (.Pass default)
noncomputable def stJ (i j : Nat) : Stmt := match stI i with
  | .ClassDef _ _ _ bd _ _ _ _ _ _ _ => (bd[j]?).getD (.Pass default)
  | _ => .Pass default
noncomputable def fnO (s : Stmt) (q : Str) (dV md : Value) (c : Addr) : Obj := match s with
  | .FunctionDef n a b _ _ _ sc _ _ _ => { cls := .type "function", data := .func { name := n, qualname := q, params := a, body := .stmts b, scope := sc, globals := 3, closure := [], defaults := dV, kwdefaults := .none, pyModule := md, code := .ref c } }
  | _ => { cls := .none, data := .plain }
noncomputable def cdO (n q : Str) (t : Nat) (line argc fl e : Int) (a b c d' f : Value) (x : Nat) : Obj :=
  { cls := .type "code", data := .fields #[.str n t, .str q (t + 1), .str "/claim/cut.py" (t + 2), .int line 0, .int argc 0, .int 0 0, .int 0 0, .int fl 0, a, .bool true, .int e 0, b, .none, c, d', f, .int x 0, .int line 0, .str "/claim/cut.py" (x + 1)] }

noncomputable def tE (s : Str) (t : Nat) (i : Int) (u : Nat) : Str × Nat × Int × Nat := (s, t, i, u)
noncomputable def toksE : List (Str × Nat × Int × Nat) := [tE "!" 470 54 468, tE "!=" 472 28 416, tE "%" 474 24 408, tE "%=" 476 40 440, tE "&" 478 19 398, tE "&=" 480 41 442, tE "(" 482 7 374, tE ")" 484 8 376, tE "*" 486 16 392, tE "**" 488 35 430, tE "**=" 490 46 452, tE "*=" 492 38 436, tE "+" 494 14 388, tE "+=" 496 36 432, tE "," 498 12 384, tE "-" 500 15 390, tE "-=" 502 37 434, tE "->" 504 51 462, tE "." 506 23 406, tE "..." 508 52 464, tE "/" 510 17 394, tE "//" 512 47 454, tE "//=" 514 48 456, tE "/=" 516 39 438, tE ":" 518 11 382, tE ":=" 520 53 466, tE ";" 522 13 386, tE "<" 524 20 400, tE "<<" 526 33 426, tE "<<=" 528 44 448, tE "<=" 530 29 418, tE "=" 532 22 404, tE "==" 534 27 414, tE ">" 536 21 402, tE ">=" 538 30 420, tE ">>" 539 34 428, tE ">>=" 540 45 450, tE "@" 541 49 458, tE "@=" 542 50 460, tE "[" 543 9 378, tE "]" 544 10 380, tE "^" 545 32 424, tE "^=" 546 43 446, tE "{" 547 25 410, tE "|" 548 18 396, tE "|=" 549 42 444, tE "}" 550 26 412, tE "~" 551 31 422]
noncomputable def KK (P : PySem.Params) : Frag := [
  (3, dcO #[ne P "__name__" 165 (.str "law_pm0074_01" 574), ne P "__doc__" 166 (.none), ne P "__package__" 167 (.none), ne P "__loader__" 168 (.builtin "__main__.__loader__#opaque"), ne P "__spec__" 169 (.none), ne P "__annotations__" 170 (.ref 6), ne P "__builtins__" 171 (.ref 4), ne P "__file__" 173 (.str "/claim/cut.py" 172), ne P "__cached__" 174 (.none), ne P "_NODE_OUT" 191 (.int (-1) 190), ne P "_NODE_DONE" 194 (.int (-2) 193), ne P "_NodeInfo" 231 (.ref 33), ne P "CycleError" 249 (.ref 48), ne P "TopologicalSorter" 369 (.ref 130), ne P "ENDMARKER" 373 (.int 0 372), ne P "LPAR" 375 (.int 7 374), ne P "RPAR" 377 (.int 8 376), ne P "LSQB" 379 (.int 9 378), ne P "RSQB" 381 (.int 10 380), ne P "COLON" 383 (.int 11 382), ne P "COMMA" 385 (.int 12 384), ne P "SEMI" 387 (.int 13 386), ne P "PLUS" 389 (.int 14 388), ne P "MINUS" 391 (.int 15 390), ne P "STAR" 393 (.int 16 392), ne P "SLASH" 395 (.int 17 394), ne P "VBAR" 397 (.int 18 396), ne P "AMPER" 399 (.int 19 398), ne P "LESS" 401 (.int 20 400), ne P "GREATER" 403 (.int 21 402), ne P "EQUAL" 405 (.int 22 404), ne P "DOT" 407 (.int 23 406), ne P "PERCENT" 409 (.int 24 408), ne P "LBRACE" 411 (.int 25 410), ne P "RBRACE" 413 (.int 26 412), ne P "EQEQUAL" 415 (.int 27 414), ne P "NOTEQUAL" 417 (.int 28 416), ne P "LESSEQUAL" 419 (.int 29 418), ne P "GREATEREQUAL" 421 (.int 30 420), ne P "TILDE" 423 (.int 31 422), ne P "CIRCUMFLEX" 425 (.int 32 424), ne P "LEFTSHIFT" 427 (.int 33 426), ne P "RIGHTSHIFT" 429 (.int 34 428), ne P "DOUBLESTAR" 431 (.int 35 430), ne P "PLUSEQUAL" 433 (.int 36 432), ne P "MINEQUAL" 435 (.int 37 434), ne P "STAREQUAL" 437 (.int 38 436), ne P "SLASHEQUAL" 439 (.int 39 438), ne P "PERCENTEQUAL" 441 (.int 40 440), ne P "AMPEREQUAL" 443 (.int 41 442), ne P "VBAREQUAL" 445 (.int 42 444), ne P "CIRCUMFLEXEQUAL" 447 (.int 43 446), ne P "LEFTSHIFTEQUAL" 449 (.int 44 448), ne P "RIGHTSHIFTEQUAL" 451 (.int 45 450), ne P "DOUBLESTAREQUAL" 453 (.int 46 452), ne P "DOUBLESLASH" 455 (.int 47 454), ne P "DOUBLESLASHEQUAL" 457 (.int 48 456), ne P "AT" 459 (.int 49 458), ne P "ATEQUAL" 461 (.int 50 460), ne P "RARROW" 463 (.int 51 462), ne P "ELLIPSIS" 465 (.int 52 464), ne P "COLONEQUAL" 467 (.int 53 466), ne P "EXCLAMATION" 469 (.int 54 468), ne P "EXACT_TOKEN_TYPES" 566 (.ref 135), ne P "ISEOF" 573 (.ref 144), ne P "_law_operators" 581 (.ref 151), ne P "_law_code" 587 (.ref 156), ne P "_law_rest" 596 (.ref 163), ne P "_law_far" 602 (.ref 168), ne P "law" 608 (.ref 173)] 70),
  (29, fnO (stJ 3 1) "_NodeInfo.__init__" (.none) (.str "cpy313.graphlib" 187) 28),
  (28, cdO "__init__" "_NodeInfo.__init__" 211 7 2 3 181 (.ref 23) (.ref 24) (.ref 25) (.ref 26) (.ref 27) 216),
  (66, fnO (stJ 5 0) "TopologicalSorter.__init__" (.ref 59) (.str "cpy313.graphlib" 187) 65),
  (65, cdO "__init__" "TopologicalSorter.__init__" 262 15 2 3 181 (.ref 60) (.ref 61) (.ref 62) (.ref 63) (.ref 64) 269),
  (73, fnO (stJ 5 1) "TopologicalSorter._get_nodeinfo" (.none) (.str "cpy313.graphlib" 187) 72),
  (72, cdO "_get_nodeinfo" "TopologicalSorter._get_nodeinfo" 272 24 2 3 181 (.ref 67) (.ref 68) (.ref 69) (.ref 70) (.ref 71) 278),
  (80, fnO (stJ 5 2) "TopologicalSorter.add" (.none) (.str "cpy313.graphlib" 187) 79),
  (79, cdO "add" "TopologicalSorter.add" 281 29 2 7 181 (.ref 74) (.ref 75) (.ref 76) (.ref 77) (.ref 78) 290),
  (85, fnO (stJ 5 3) "TopologicalSorter.prepare" (.none) (.str "cpy313.graphlib" 187) 84),
  (84, cdO "prepare" "TopologicalSorter.prepare" 293 38 1 3 181 (.ref 81) (.ref 82) (.none) (.none) (.ref 83) 296),
  (92, fnO (stJ 5 4) "TopologicalSorter.get_ready" (.none) (.str "cpy313.graphlib" 187) 91),
  (91, cdO "get_ready" "TopologicalSorter.get_ready" 299 46 1 3 181 (.ref 86) (.ref 87) (.ref 88) (.ref 89) (.ref 90) 306),
  (99, fnO (stJ 5 5) "TopologicalSorter.is_active" (.none) (.str "cpy313.graphlib" 187) 98),
  (98, cdO "is_active" "TopologicalSorter.is_active" 309 57 1 3 181 (.ref 93) (.ref 94) (.ref 95) (.ref 96) (.ref 97) 313),
  (113, fnO (stJ 5 7) "TopologicalSorter.done" (.none) (.str "cpy313.graphlib" 187) 112),
  (112, cdO "done" "TopologicalSorter.done" 323 65 1 7 181 (.ref 107) (.ref 108) (.ref 109) (.ref 110) (.ref 111) 334),
  (120, fnO (stJ 5 8) "TopologicalSorter._find_cycle" (.none) (.str "cpy313.graphlib" 187) 119),
  (119, cdO "_find_cycle" "TopologicalSorter._find_cycle" 337 88 1 3 181 (.ref 114) (.ref 115) (.ref 116) (.ref 117) (.ref 118) 347),
  (127, fnO (stJ 5 9) "TopologicalSorter.static_order" (.none) (.str "cpy313.graphlib" 187) 126),
  (126, cdO "static_order" "TopologicalSorter.static_order" 350 117 1 35 181 (.ref 121) (.ref 122) (.ref 123) (.ref 124) (.ref 125) 355),
  (144, fnO (stI 57) "ISEOF" (.none) (.str "cpy313.token" 370) 143),
  (143, cdO "ISEOF" "ISEOF" 567 174 1 3 181 (.ref 138) (.ref 139) (.ref 140) (.ref 141) (.ref 142) 571),
  (151, fnO (stI 59) "_law_operators" (.none) (.str "law_pm0074_01" 574) 150),
  (150, cdO "_law_operators" "_law_operators" 576 177 0 3 181 (.ref 145) (.ref 146) (.ref 147) (.ref 148) (.ref 149) 579),
  (156, fnO (stI 60) "_law_code" (.none) (.str "law_pm0074_01" 574) 155),
  (155, cdO "_law_code" "_law_code" 582 179 1 3 181 (.ref 152) (.ref 153) (.none) (.none) (.ref 154) 585),
  (163, fnO (stI 61) "_law_rest" (.none) (.str "law_pm0074_01" 574) 162),
  (162, cdO "_law_rest" "_law_rest" 588 190 2 3 181 (.ref 157) (.ref 158) (.ref 159) (.ref 160) (.ref 161) 594),
  (168, fnO (stI 62) "_law_far" (.none) (.str "law_pm0074_01" 574) 167),
  (167, cdO "_law_far" "_law_far" 597 197 1 3 181 (.ref 164) (.ref 165) (.none) (.none) (.ref 166) 600),
  (173, fnO (stI 63) "law" (.none) (.str "law_pm0074_01" 574) 172),
  (172, cdO "law" "law" 603 212 1 3 181 (.ref 169) (.ref 170) (.none) (.none) (.ref 171) 606),
  (59, { cls := .type "tuple", data := .seq #[.none] }),
  (135, dcO (toksE.map fun e => ne P e.1 e.2.1 (.int e.2.2.1 e.2.2.2)).toArray 48),
  (32, dcO #[ne P "__module__" 202 (.str "cpy313.graphlib" 187), ne P "__firstlineno__" 206 (.int 4 205), ne P "__slots__" 210 (.ref 22), ne P "__init__" 218 (.ref 29), ne P "__static_attributes__" 222 (.ref 30), ne P "node" 224 (.ref 34), ne P "npredecessors" 226 (.ref 35), ne P "successors" 228 (.ref 36), ne P "__doc__" 229 (.none)] 5),
  (47, dcO #[ne P "__module__" 239 (.str "cpy313.graphlib" 187), ne P "__firstlineno__" 243 (.int 11 242), ne P "__static_attributes__" 244 (.ref 46), ne P "__weakref__" 246 (.ref 49), ne P "__doc__" 247 (.none)] 3),
  (129, dcO #[ne P "__module__" 257 (.str "cpy313.graphlib" 187), ne P "__firstlineno__" 261 (.int 13 260), ne P "__init__" 271 (.ref 66), ne P "_get_nodeinfo" 280 (.ref 73), ne P "add" 292 (.ref 80), ne P "prepare" 298 (.ref 85), ne P "get_ready" 308 (.ref 92), ne P "is_active" 315 (.ref 99), ne P "__bool__" 322 (.ref 106), ne P "done" 336 (.ref 113), ne P "_find_cycle" 349 (.ref 120), ne P "static_order" 357 (.ref 127), ne P "__static_attributes__" 362 (.ref 128), ne P "__dict__" 364 (.ref 131), ne P "__weakref__" 366 (.ref 132), ne P "__doc__" 367 (.none)] 4),
  (33, { cls := Value.type "type", data := Data.cls { name := "_NodeInfo", bases := [Value.type "object"], mro := [Value.ref 33, Value.type "object"], ns := 32, qualname := "_NodeInfo", hasDict := false, slotNames := ["node", "npredecessors", "successors"] }, slots := #[none, none, some (Value.str ("_NodeInfo") 195), some (Value.str ("_NodeInfo") 203), some (Value.builtin "object.__new__"), some (Value.bool false)] }),
  (34, { cls := Value.type "member_descriptor", data := Data.fields #[Value.str ("node") 223, Value.ref 33, Value.builtin "proto.slot", Value.builtin "proto.slot#set", Value.int 2 0] }),
  (35, { cls := Value.type "member_descriptor", data := Data.fields #[Value.str ("npredecessors") 225, Value.ref 33, Value.builtin "proto.slot", Value.builtin "proto.slot#set", Value.int 1 0] }),
  (36, { cls := Value.type "member_descriptor", data := Data.fields #[Value.str ("successors") 227, Value.ref 33, Value.builtin "proto.slot", Value.builtin "proto.slot#set", Value.int 0 0] }),
  (48, { cls := Value.type "type", data := Data.cls { name := "CycleError", bases := [Value.type "ValueError"], mro := [Value.ref 48, Value.type "ValueError", Value.type "Exception", Value.type "BaseException", Value.type "object"], ns := 47, qualname := "CycleError" }, slots := #[some (Value.ref 39), none, some (Value.str ("CycleError") 232), some (Value.str ("CycleError") 240), some (Value.builtin "ValueError.__new__"), some (Value.bool true)] }),
  (130, { cls := Value.type "type", data := Data.cls { name := "TopologicalSorter", bases := [Value.type "object"], mro := [Value.ref 130, Value.type "object"], ns := 129, qualname := "TopologicalSorter" }, slots := #[none, none, some (Value.str ("TopologicalSorter") 250), some (Value.str ("TopologicalSorter") 258), some (Value.builtin "object.__new__"), some (Value.bool true)] })]
noncomputable def KA : List Addr := [3, 29, 28, 66, 65, 73, 72, 80, 79, 85, 84, 92, 91, 99, 98, 113, 112, 120, 119, 127, 126, 144, 143, 151, 150, 156, 155, 163, 162, 168, 167, 173, 172, 59, 135, 32, 47, 129, 33, 34, 35, 36, 48, 130]
end Mine
end

section
open PySem PySem.W PyProof.Rows
set_option maxRecDepth 100000
set_option maxHeartbeats 8000000
namespace Mine
/-- the text less what the walk does not ask -/
noncomputable def hq : Program := view PySem.Challenge.pw_pm0074_01 [63]
/-- the names that the view leaves out -/
noncomputable def hl : List Str := (PySem.Challenge.pw_pm0074_01.main.body.take 63).filterMap fun st => match st with
  | .Assign ts _ _ => match ts with
    | [.Name x _] => if x = "__name__" then none else some x
    | _ => none
  | .FunctionDef n _ _ _ _ _ _ _ _ _ => some n
  | .ClassDef n _ _ _ _ _ _ _ _ _ _ => some n
  | _ => none
noncomputable def hk : Hook := kHook KK KA (fun _ => by kernel_rfl)
noncomputable def hr : OpenRow := PySem.Challenge.rw_pm0074_01.row
noncomputable def sideP (w : World) : Prop := (openEnds treeTable hr.prog w 6000).map (fun s => (openSeen hq hl (importedModules hr.prog.main.body) (fun s => xlAt hq [] s && recOk (RowW.records hr.toRowW) s) true s, hk.obs s)) = some (openGood hq hl, hk.val w)
theorem side_f : ∀ w : World, sideP (w.withFollow "special-get-raises" false) := by
  unfold sideP openEnds fencedOpening topFrom
  rw [PySem.W.Fast.te10274390034422433532, PySem.W.Fast.te14289696077712309145, PySem.W.Fast.te14082659384304107361, PySem.W.Fast.te4187177175401517315, PySem.W.Fast.te1435165496053646825, PySem.W.Fast.te14364793385576792824]
  intro w
  kernel_rfl
theorem side_t : ∀ w : World, sideP (w.withFollow "special-get-raises" true) := by
  unfold sideP openEnds fencedOpening topFrom
  rw [PySem.W.Fast.te10274390034422433532, PySem.W.Fast.te14289696077712309145, PySem.W.Fast.te14082659384304107361, PySem.W.Fast.te4187177175401517315, PySem.W.Fast.te1435165496053646825, PySem.W.Fast.te14364793385576792824]
  intro w
  kernel_rfl
theorem left0 : LeftO hr.prog hq hl (fun s => xlAt hq [] s && recOk (RowW.records hr.toRowW) s) (Hook.obs hk) (Hook.val hk) 6000 := fun w => byRow2 "special-get-raises" (P := sideP) side_f side_t w
end Mine
end

section
open PySem PySem.W PyProof.Rows PySem.Calls PySem.Spec
namespace Mine

theorem lim_lt {n : Nat} (h : n ≤ lim) : (n : Int) < 2 ^ 63 := by unfold lim at h; omega
theorem lim_line {n : Nat} (h : n ≤ lim) : n ≤ sizeLine := by unfold lim at h; rw [sizeLine_eq]; exact lin [_] (.le (.v 0) (.n 16777216)) 1 (.c 1 (.le (.v 0) (.n 1000000)) .e) (Eq.refl true) h

noncomputable abbrev LObj (vs : List Value) (n : Nat) : Obj := { cls := .type "list", data := .seq vs.toArray n }
noncomputable abbrev TObj (vs : List Value) (n : Nat) : Obj := { cls := .type "tuple", data := .seq vs.toArray n }

section
variable {w : World} {A : Around} {E : Value → Shared → Prop} {s : Shared} {fd : FD} {fx : List (Addr × Obj)} {σ : AS}

theorem has_list {a : Addr} {l : List AV} (R : Rep w fd fx σ s.heap) (ro : RoOk w fd) (H : Has fd.ro σ.hp a (.list l)) :
    E22 (fun (vs : List Value) (n : Nat) => s.heap.get? a = some (LObj vs n)) fun vs _ => Paired AV.is l vs := by
  obtain ⟨o, h1, vs, n, rfl, h2⟩ := R.has ro H
  exact ⟨vs, n, h1, h2⟩
theorem has_tuple {a : Addr} {l : List AV} (R : Rep w fd fx σ s.heap) (ro : RoOk w fd) (H : Has fd.ro σ.hp a (.tuple l)) :
    E22 (fun (vs : List Value) (n : Nat) => s.heap.get? a = some (TObj vs n)) fun vs _ => Paired AV.is l vs := by
  obtain ⟨o, h1, vs, n, rfl, h2⟩ := R.has ro H
  exact ⟨vs, n, h1, h2⟩
theorem isl {a : Addr} {vs : List Value} {n : Nat} {h : Heap} (e : h.get? a = some (LObj vs n)) : h.IsList a vs.toArray := ⟨_, e, rfl, n, rfl⟩
theorem has_dict {a : Addr} {l : List (Str × AV)} (R : Rep w fd fx σ s.heap) (ro : RoOk w fd) (H : Has fd.ro σ.hp a (.dict l)) :
    E11 (fun kvs => s.heap.DictOf (strKind PR w) a kvs) fun kvs => Paired kvIs l kvs := by
  obtain ⟨o, h1, kvs, h2, h3⟩ := R.has ro H
  exact ⟨kvs, Heap.dictOf_iff.mpr ⟨o, h1, h2⟩, h3⟩
theorem has_idict {a : Addr} {l : List (Int × AV)} (R : Rep w fd fx σ s.heap) (ro : RoOk w fd) (H : Has fd.ro σ.hp a (.idict l)) :
    E11 (fun kvs => s.heap.DictOf (intKind PR w) a kvs) fun kvs => Paired kvIs l kvs := by
  obtain ⟨o, h1, kvs, h2, h3⟩ := R.has ro H
  exact ⟨kvs, Heap.dictOf_iff.mpr ⟨o, h1, h2⟩, h3⟩

theorem valueAt_of {K : Type} [DecidableEq K] [BEq K] [LawfulBEq K] {l : List (K × AV)} {kvs : List (K × Value)} (h : Paired kvIs l kvs) (k : K) :
    (l.lookup k = none ∧ valueAt kvs k = none) ∨ ∃ V v, l.lookup k = some V ∧ valueAt kvs k = some v ∧ V.is v := by
  induction h with
  | nil => exact .inl ⟨rfl, rfl⟩
  | @cons p q l kvs hpq _ ih =>
    obtain ⟨k1, V⟩ := p
    obtain ⟨k2, v⟩ := q
    obtain ⟨e, hv⟩ := hpq
    simp only at e hv
    subst e
    rw [List.lookup_cons]
    unfold valueAt
    rw [List.find?_cons]
    by_cases hk : k = k1
    · subst hk
      simp only [beq_self_eq_true, decide_true]
      exact .inr ⟨V, v, rfl, rfl, hv⟩
    · have e1 : (k == k1) = false := beq_eq_false_iff_ne.mpr hk
      have e2 : decide (k1 = k) = false := decide_eq_false fun q => hk q.symm
      simp only [e1, e2]
      exact ih

/-! ### truth -/
inductive TruI (ro : HPs) (σ : AS) (k : Bool → Prop) : AV → Prop
  | none (h : k false) : TruI ro σ k .none
  | bool (b : Bool) (h : k b) : TruI ro σ k (.bool b)
  | ref (a : Addr) (h : TruL ro σ a k) : TruI ro σ k (.raw (.ref a))
theorem truA_inv {ro : HPs} {σ : AS} {k : Bool → Prop} {V : AV} (h : truA ro V σ k) : TruI ro σ k V := by
  cases V
  case none => exact .none h
  case bool b => exact .bool b h
  case raw r => obtain ⟨a, h⟩ := onV_get h; exact .ref a h
  all_goals exact False.elim h
theorem truA_sound {v : Value} {V : AV} {k : Bool → Prop} {Q : Bool → Shared → Prop} (R : Rep w fd fx σ s.heap) (ro : RoOk w fd) (hv : V.is v) (h : truA fd.ro V σ k)
    (q : ∀ b s', Same s s' → Rep w fd fx σ s'.heap → k b → Q b s') : wpAny (model PR w) A (truthy v) Q E s := by
  cases truA_inv h with
  | none h => cases hv; exact truthy_none (q _ _ (.refl s) R h)
  | bool b h => cases hv; exact wpAny_truthy_bool (q _ _ (.refl s) R h)
  | ref a h =>
    cases hv
    obtain ⟨l, H, hl, hk⟩ := h
    obtain ⟨vs, n, ho, hp⟩ := has_list R ro H
    have hlen := hp.length
    refine wpAny_truthy_list (isl ho) (by rw [List.size_toArray, ← hlen]; exact lim_lt hl) ?_
    have e : vs.toArray.isEmpty = l.isEmpty := by
      rw [List.isEmpty_toArray]
      cases hp <;> rfl
    rw [e]
    exact q _ _ ⟨.refl _, rfl, rfl⟩ R hk

/-! ### comparison -/
theorem strs_of_paired : ∀ {l : List Str} {vs : List Value}, Paired AV.is (l.map .str) vs → StrsAre vs l
  | [], _, h => by cases h; exact .nil
  | x :: l, _, h => by
    cases h with
    | cons a t =>
      obtain ⟨t', rfl⟩ := a
      exact .cons x t' (strs_of_paired t)
theorem eqAt_str {A : Around} {s : Shared} (x y : Str) (t u : Tok) : SeqAt.EqAt A s (.str x t) (.str y u) (decide (x = y)) := fun _ _ _ _ h => wpAny_eqBool_str h
noncomputable def eqAtI (l l' : List Str) (j : Nat) : Bool := decide ((l[j]?) = l'[j]?)
theorem all_eqAtI : ∀ {l l' : List Str}, l.length = l'.length → (List.range l.length).all (eqAtI l l') = decide (l = l') := by
  intro l l' hl
  by_cases h : l = l'
  · subst h
    simp [eqAtI]
  · rw [decide_eq_false h]
    refine Bool.eq_false_iff.mpr fun q => h ?_
    rw [List.all_eq_true] at q
    refine List.ext_getElem? fun j => ?_
    by_cases hj : j < l.length
    · exact of_decide_eq_true (q j (List.mem_range.mpr hj))
    · rw [List.getElem?_eq_none (by exact lin [_, _] (.le (.v 0) (.v 1)) 1 (.c 1 (.nlt (.v 1) (.v 0)) .e) (Eq.refl true) hj), List.getElem?_eq_none (by exact lin [_, _, _] (.le (.v 0) (.v 1)) 1 (.c 1 (.qe (.v 2) (.v 0)) (.c 1 (.nlt (.v 1) (.v 2)) .e)) (Eq.refl true) hl hj)]
theorem eqAt_strs {A : Around} {s : Shared} {l l' : List Str} {vs vs' : List Value} (hp : Paired AV.is (l.map .str) vs) (hp' : Paired AV.is (l'.map .str) vs') :
    ∀ j (h1 : j < vs.toArray.size) (h2 : j < vs'.toArray.size), SeqAt.EqAt A s vs.toArray[j] vs'.toArray[j] (eqAtI l l' j) := by
  intro j h1 h2
  have g1 : vs[j]? = some vs.toArray[j] := by simp at h1; simp [h1]
  have g2 : vs'[j]? = some vs'.toArray[j] := by simp at h2; simp [h2]
  obtain ⟨a, e1, a1⟩ := Paired.getR hp g1
  obtain ⟨a', e2, a2⟩ := Paired.getR hp' g2
  rw [List.getElem?_map] at e1 e2
  cases q1 : l[j]? with
  | none => rw [q1] at e1; cases e1
  | some x =>
    cases q2 : l'[j]? with
    | none => rw [q2] at e2; cases e2
    | some y =>
      rw [q1] at e1; rw [q2] at e2
      cases e1; cases e2
      obtain ⟨t, z1⟩ := a1
      obtain ⟨u, z2⟩ := a2
      rw [z1, z2]
      have : eqAtI l l' j = decide (x = y) := by simp [eqAtI, q1, q2]
      rw [this]; exact eqAt_str x y t u

theorem flat_int (i : Int) (t : Tok) : PyProof.V.Flat (.int i t) (.int i) := PyProof.V.Flat.int i t
theorem mapI_paired : ∀ {d : List (Str × Int)} {kvs : List (Str × Value)}, Paired kvIs (mapI d) kvs → Paired (fun (p : Str × Int) (q : Str × Value) => p.1 = q.1 ∧ ∃ t, q.2 = .int p.2 t) d kvs := fun h => Paired.map_l.mp h
theorem valueAt_int {d : List (Str × Int)} {kvs : List (Str × Value)} (h : Paired (fun (p : Str × Int) (q : Str × Value) => p.1 = q.1 ∧ ∃ t, q.2 = .int p.2 t) d kvs) (k : Str) :
    (d.lookup k = none ∧ valueAt kvs k = none) ∨ ∃ i t, d.lookup k = some i ∧ valueAt kvs k = some (.int i t) := by
  induction h with
  | nil => exact .inl ⟨rfl, rfl⟩
  | @cons p q l kvs hpq _ ih =>
    obtain ⟨k1, i⟩ := p
    obtain ⟨k2, v⟩ := q
    obtain ⟨e, t, hv⟩ := hpq
    simp only at e hv
    subst e hv
    rw [List.lookup_cons]
    unfold valueAt
    rw [List.find?_cons]
    by_cases hk : k = k1
    · subst hk
      simp only [beq_self_eq_true, decide_true]
      exact .inr ⟨i, t, rfl, rfl⟩
    · have e1 : (k == k1) = false := beq_eq_false_iff_ne.mpr hk
      have e2 : decide (k1 = k) = false := decide_eq_false fun q => hk q.symm
      simp only [e1, e2]
      exact ih
theorem keq_hits {A : Around} {s : Shared} {e : List (Str × Int)} {kb : List (Str × Value)} (hb : Paired (fun (p : Str × Int) (q : Str × Value) => p.1 = q.1 ∧ ∃ t, q.2 = .int p.2 t) e kb) :
    ∀ {d : List (Str × Int)} {ka : List (Str × Value)}, Paired (fun (p : Str × Int) (q : Str × Value) => p.1 = q.1 ∧ ∃ t, q.2 = .int p.2 t) d ka → KeqHits A s kb ka (d.all fun p => decide (e.lookup p.1 = some p.2))
  | [], _, h => by cases h; exact .nil
  | (k, i) :: d, _, h => by
    cases h with
    | @cons _ q _ ka hq t =>
      obtain ⟨k', v⟩ := q
      obtain ⟨e1, t', e2⟩ := hq
      simp only at e1 e2
      subst e1 e2
      have ih := keq_hits (A := A) (s := s) hb t
      rcases valueAt_int hb k with ⟨h1, h2⟩ | ⟨j, u, h1, h2⟩
      · have : (List.all ((k, i) :: d) fun p => decide (e.lookup p.1 = some p.2)) = false := by
          simp [h1]
        rw [this]; exact .miss h2
      · have hq := KeqHits.hit (k := k) h2 (keq_flat (A := A) (s := s) (flat_int i t') (flat_int j u)) ih
        have e3 : (List.all ((k, i) :: d) fun p => decide (e.lookup p.1 = some p.2)) = (PyData.eqv (.int i) (.int j) && d.all fun p => decide (e.lookup p.1 = some p.2)) := by
          rw [List.all_cons, h1]
          congr 1
          refine (?_ : decide (some j = some i) = (i == j))
          by_cases hij : i = j
          · subst hij; simp
          · have : ¬ j = i := fun q => hij q.symm
            simp [hij, this]
        rw [e3]; exact hq

inductive EqI (ro : HPs) (σ : AS) (k : Bool → Prop) : AV → AV → Prop
  | int (x y : Int) (h : k (decide (x = y))) : EqI ro σ k (.int x) (.int y)
  | str (x y : Str) (h : k (decide (x = y))) : EqI ro σ k (.str x) (.str y)
  | bool (x y : Bool) (h : k (decide (x = y))) : EqI ro σ k (.bool x) (.bool y)
  | ref (p q : Addr) (h : EqL ro σ p q k ∨ EqD ro σ p q k) : EqI ro σ k (.ref p) (.ref q)
theorem eqA_inv {ro : HPs} {σ : AS} {k : Bool → Prop} {U V : AV} (h : eqA ro U V σ k) : EqI ro σ k U V := by
  cases U
  case none => exact False.elim h
  case bool x => obtain ⟨y, h⟩ := onB_get h; exact .bool _ _ h
  case int x => obtain ⟨y, h⟩ := onI_get h; exact .int _ _ h
  case str x => obtain ⟨y, h⟩ := onS_get h; exact .str _ _ h
  case raw r => obtain ⟨a, h⟩ := onV_get h; obtain ⟨b, h⟩ := onR_get h; exact .ref _ _ (Cl.h h)
theorem eqA_sound {u v : Value} {U V : AV} {k : Bool → Prop} {Q : Value → Shared → Prop} (R : Rep w fd fx σ s.heap) (ro : RoOk w fd) (hu : A.units + 64 < cLine) (h1 : U.is u) (h2 : V.is v) (h : eqA fd.ro U V σ k)
    (q : ∀ b s', Same s s' → Rep w fd fx σ s'.heap → k b → Q (.bool b) s') : wpAny (model PR w) A (compareOp .Eq u v) Q E s := by
  rcases eqA_inv h with ⟨x, y, h⟩ | ⟨x, y, h⟩ | ⟨x, y, h⟩ | ⟨_, _, h⟩
  · obtain ⟨t, rfl⟩ := h1
    obtain ⟨t', rfl⟩ := h2
    refine PyProof.Rows.eq_int ?_
    have e : (x == y) = decide (x = y) := by by_cases hxy : x = y <;> simp [hxy]
    rw [e]; exact q _ _ (.refl s) R h
  · obtain ⟨t, rfl⟩ := h1
    obtain ⟨t', rfl⟩ := h2
    refine PyProof.Rows.eq_str ?_
    have e : (x == y) = decide (x = y) := by by_cases hxy : x = y <;> simp [hxy]
    rw [e]; exact q _ _ (.refl s) R h
  · cases h1; cases h2
    refine eq_dataH (.bool x) (.bool y) rfl rfl hu ?_
    have e : PyData.eqv (.bool x) (.bool y) = decide (x = y) := by show (x == y) = _; by_cases hxy : x = y <;> simp [hxy]
    rw [e]; exact q _ _ (.refl s) R h
  · cases h1; cases h2
    rcases h with ⟨l, l', H1, H2, b1, b2, hk⟩ | ⟨d, e, H1, H2, b1, b2, hk⟩
    · obtain ⟨vs, n, ho, hp⟩ := has_list R ro H1
      obtain ⟨vs', n', ho', hp'⟩ := has_list R ro H2
      have n1 := hp.length
      have n2 := hp'.length
      rw [List.length_map] at n1 n2
      by_cases hsz : vs.length = vs'.length
      · refine SeqAt.eq_listAt (isl ho) (isl ho') (by simpa using hsz) (by exact lin [_, _] (.lt (.v 0) (.v 1)) 1 (.c 1 (.lt (.a (.v 0) (.n 64)) (.v 1)) .e) (Eq.refl true) hu) (eqAt_strs hp hp') ?_
        rw [List.size_toArray, ← n1, all_eqAtI (by exact Nat.le_antisymm (lin [_, _, _, _] (.le (.v 0) (.v 1)) 1 (.c 1 (.eq (.v 0) (.v 2)) (.c 1 (.qe (.v 1) (.v 3)) (.c 1 (.eq (.v 2) (.v 3)) .e))) (Eq.refl true) n1 n2 hsz) (lin [_, _, _, _] (.le (.v 0) (.v 1)) 1 (.c 1 (.qe (.v 1) (.v 2)) (.c 1 (.eq (.v 0) (.v 3)) (.c 1 (.qe (.v 2) (.v 3)) .e))) (Eq.refl true) n1 n2 hsz))]
        exact q _ _ (.refl s) R hk
      · refine SeqAt.eq_list_lengthsAt (isl ho) (isl ho') (by simpa using hsz) (by exact lin [_, _] (.lt (.v 0) (.v 1)) 1 (.c 1 (.lt (.a (.v 0) (.n 64)) (.v 1)) .e) (Eq.refl true) hu) ?_
        have e : decide (l = l') = false := decide_eq_false fun z => hsz (by rw [← n1, ← n2, z])
        have := q _ _ (.refl s) R hk
        rw [e] at this; exact this
    · obtain ⟨ka, da, hp⟩ := has_dict R ro H1
      obtain ⟨kb, db, hp'⟩ := has_dict R ro H2
      have pa := mapI_paired hp
      have pb := mapI_paired hp'
      refine keq_eq (R.hasS ro H1) (R.hasS ro H2) da db (by exact lin [_, _] (.lt (.v 0) (.v 1)) 1 (.c 1 (.lt (.a (.v 0) (.n 64)) (.v 1)) .e) (Eq.refl true) hu) (fun _ => keq_hits pb pa) ?_
      have e1 := pa.length
      have e2 := pb.length
      have e3 : (ka.length == kb.length && d.all fun p => decide (e.lookup p.1 = some p.2)) = dictEq d e := by
        unfold dictEq
        rw [← e1, ← e2]
        congr 1
      rw [e3]; exact q _ _ (.refl s) R hk

theorem neA_sound {u v : Value} {U V : AV} {k : Bool → Prop} {Q : Value → Shared → Prop} (R : Rep w fd fx σ s.heap) (ro : RoOk w fd) (hu : A.units + 64 < cLine) (h1 : U.is u) (h2 : V.is v) (h : eqA fd.ro U V σ k)
    (q : ∀ b s', Same s s' → Rep w fd fx σ s'.heap → k b → Q (.bool (!b)) s') : wpAny (model PR w) A (compareOp .NotEq u v) Q E s := by
  rcases eqA_inv h with ⟨x, y, h⟩ | ⟨x, y, h⟩ | ⟨x, y, h⟩ | ⟨_, _, h⟩
  · obtain ⟨t, rfl⟩ := h1
    obtain ⟨t', rfl⟩ := h2
    refine ne_dataH (.int x t) (.int y t') rfl rfl hu ?_
    have e : PyData.eqv (.int x) (.int y) = decide (x = y) := by show (x == y) = _; by_cases hxy : x = y <;> simp [hxy]
    rw [e]; exact q _ _ (.refl s) R h
  · obtain ⟨t, rfl⟩ := h1
    obtain ⟨t', rfl⟩ := h2
    refine P.ne_str ?_
    have e : (x.cps.toList != y.cps.toList) = !decide (x = y) := by
      refine (?_ : (!(x.cps.toList == y.cps.toList)) = _)
      congr 1
      by_cases hxy : x = y
      · subst hxy; simp
      · rw [decide_eq_false hxy]
        exact beq_eq_false_iff_ne.mpr fun z => hxy (PySem.Str.ext' (Array.toList_inj.mp z))
    rw [e]; exact q _ _ (.refl s) R h
  · cases h1; cases h2
    refine ne_dataH (.bool x) (.bool y) rfl rfl hu ?_
    have e : PyData.eqv (.bool x) (.bool y) = decide (x = y) := by show (x == y) = _; by_cases hxy : x = y <;> simp [hxy]
    rw [e]; exact q _ _ (.refl s) R h
  · cases h1; cases h2
    rcases h with ⟨l, l', H1, H2, b1, b2, hk⟩ | ⟨d, e, H1, H2, b1, b2, hk⟩
    · obtain ⟨vs, n, ho, hp⟩ := has_list R ro H1
      obtain ⟨vs', n', ho', hp'⟩ := has_list R ro H2
      have n1 := hp.length
      have n2 := hp'.length
      rw [List.length_map] at n1 n2
      by_cases hsz : vs.length = vs'.length
      · refine SeqAt.RcNeAt.lists (isl ho) (isl ho') (by simpa using hsz) (by exact lin [_, _] (.lt (.v 0) (.v 1)) 1 (.c 1 (.lt (.a (.v 0) (.n 64)) (.v 1)) .e) (Eq.refl true) hu) (eqAt_strs hp hp') PR w E Q ?_
        rw [List.size_toArray, ← n1, all_eqAtI (by exact Nat.le_antisymm (lin [_, _, _, _] (.le (.v 0) (.v 1)) 1 (.c 1 (.eq (.v 0) (.v 2)) (.c 1 (.qe (.v 1) (.v 3)) (.c 1 (.eq (.v 2) (.v 3)) .e))) (Eq.refl true) n1 n2 hsz) (lin [_, _, _, _] (.le (.v 0) (.v 1)) 1 (.c 1 (.qe (.v 1) (.v 2)) (.c 1 (.eq (.v 0) (.v 3)) (.c 1 (.qe (.v 2) (.v 3)) .e))) (Eq.refl true) n1 n2 hsz))]
        exact q _ _ (.refl s) R hk
      · refine SeqAt.RcNeAt.lists_lengths (isl ho) (isl ho') (by simpa using hsz) (by exact lin [_, _] (.lt (.v 0) (.v 1)) 1 (.c 1 (.lt (.a (.v 0) (.n 64)) (.v 1)) .e) (Eq.refl true) hu) PR w E Q ?_
        have e : decide (l = l') = false := decide_eq_false fun z => hsz (by rw [← n1, ← n2, z])
        have := q _ _ (.refl s) R hk
        rw [e] at this; exact this
    · obtain ⟨ka, da, hp⟩ := has_dict R ro H1
      obtain ⟨kb, db, hp'⟩ := has_dict R ro H2
      have pa := mapI_paired hp
      have pb := mapI_paired hp'
      refine keq_ne (R.hasS ro H1) (R.hasS ro H2) da db (by exact lin [_, _] (.lt (.v 0) (.v 1)) 1 (.c 1 (.lt (.a (.v 0) (.n 64)) (.v 1)) .e) (Eq.refl true) hu) (fun _ => keq_hits pb pa) ?_
      have e1 := pa.length
      have e2 := pb.length
      have e3 : (ka.length == kb.length && d.all fun p => decide (e.lookup p.1 = some p.2)) = dictEq d e := by
        unfold dictEq
        rw [← e1, ← e2]
        congr 1
      rw [e3]; exact q _ _ (.refl s) R hk

theorem isA_sound {u v : Value} {U V : AV} {k : Bool → Prop} (h1 : U.is u) (h2 : V.is v) (h : isA U V k) : plainIs u v = true ∧ ∃ b, k b ∧ (u == v) = b := by
  cases U
  case none => obtain ⟨h⟩ := onN_get h; cases h1; cases h2; exact ⟨rfl, _, h, rfl⟩
  case raw r => obtain ⟨a, h⟩ := onV_get h; obtain ⟨h⟩ := onN_get h; cases h1; cases h2; exact ⟨rfl, _, h, rfl⟩
  case bool x =>
    obtain ⟨y, h⟩ := onB_get h
    cases h1; cases h2
    refine ⟨rfl, _, h, ?_⟩
    by_cases hxy : x = y
    · subst hxy; simp
    · have : (Value.bool x == Value.bool y) = false := beq_eq_false_iff_ne.mpr fun q => hxy (Value.bool.inj q)
      rw [this, decide_eq_false hxy]
  all_goals exact False.elim h
end
end Mine
end

section
open PySem PySem.W PyProof.Rows PySem.Calls PySem.Spec
set_option maxRecDepth 100000
namespace Mine

noncomputable def slots3 : List (Str × Addr × Nat) := [("node", 34, 0), ("npredecessors", 35, 1), ("successors", 36, 2)]
structure KFacts (K : Frag) : Prop where
  g130 : plainGet K 130 "" = true
  h130 : hasDictIn K 130 = true
  f130 : ∀ n ∈ fields4, findIn K (.ref 130) n = some none
  s130 : findIn K (.ref 130) "__setattr__" = some (some (.builtin "object.__setattr__"))
  p130 : plainOver K 130 = true
  t130 : ∀ n ∈ fields4, takerIn K 130 n = some none
  m130 : ∀ p ∈ meths, findIn K (.ref 130) p.1 = some (some (.ref p.2)) ∧ isFn K (.ref p.2) = true
  g33 : plainGet K 33 "" = true
  c33 : isClsIn K 33 = true
  s33 : findIn K (.ref 33) "__setattr__" = some (some (.builtin "object.__setattr__"))
  p33 : plainOver K 33 = true
  a33 : ∀ q ∈ slots3, findIn K (.ref 33) q.1 = some (some (.ref q.2.1)) ∧ specialIn K (.ref q.2.1) "__get__" = some (some (.builtin "member_descriptor.__get__")) ∧ takesIn K (.ref q.2.1) = some true ∧
    slotIn K q.2.1 33 = some q.2.2 ∧ takerIn K 33 q.1 = some (some (.ref q.2.1)) ∧ typeIn K (.ref q.2.1) = some (.type "member_descriptor")
end Mine
end

section
open PySem PySem.W PyProof.Rows PySem.Calls PySem.Spec
namespace Mine

/-- what a value-giving step owes -/
noncomputable def KQ (w : World) (fd : FD) (fx : List (Addr × Obj)) (s₀ : Shared) (k : KV) (Q : Value → Shared → Prop) : Prop :=
  ∀ V v σ s, V.is v → Same s₀ s → Rep w fd fx σ s.heap → k V σ → Q v s
noncomputable def UQ (w : World) (fd : FD) (fx : List (Addr × Obj)) (s₀ : Shared) (k : AS → Prop) (Q : Unit → Shared → Prop) : Prop :=
  ∀ σ s, Same s₀ s → Rep w fd fx σ s.heap → k σ → Q () s
noncomputable def BQ (w : World) (fd : FD) (fx : List (Addr × Obj)) (s₀ : Shared) (k : Bool → AS → Prop) (Q : Bool → Shared → Prop) : Prop :=
  ∀ b σ s, Same s₀ s → Rep w fd fx σ s.heap → k b σ → Q b s

theorem isI (i : Int) (t : Tok) : (AV.int i).is (.int i t) := ⟨t, rfl⟩
theorem isSt (i : Str) (t : Tok) : (AV.str i).is (.str i t) := ⟨t, rfl⟩
theorem same_val (s : Shared) (t : Nat) : Same s { s with toks := t } := ⟨.refl _, rfl, rfl⟩
theorem same_hp (s : Shared) (h : Heap) (t : Nat) : Same s { s with heap := h, toks := t } := ⟨.refl _, rfl, rfl⟩
theorem sameBut_B {a : Addr} {h h' : Heap} (x : Heap.SameBut a h h') : ExtB a h h' := fun b o hb e => (x.2 b hb).trans e

section
variable {w : World} {A : Around} {E : Value → Shared → Prop} {s s₀ : Shared} {fd : FD} {fx : List (Addr × Obj)} {σ : AS}

/-! ### membership -/
theorem any_contains (l : List Str) (x : Str) : l.any (· == x) = l.contains x := by
  induction l with
  | nil => rfl
  | cons y l ih =>
    rw [List.any_cons, ih, List.contains_cons]
    congr 1
    exact Bool.eq_iff_iff.mpr ⟨fun h => by rw [beq_iff_eq] at h ⊢; exact h.symm, fun h => by rw [beq_iff_eq] at h ⊢; exact h.symm⟩
theorem lookup_isSome {K : Type} [DecidableEq K] [BEq K] [LawfulBEq K] {l : List (K × AV)} {kvs : List (K × Value)} (h : Paired kvIs l kvs) (x : K) : (valueAt kvs x).isSome = (l.lookup x).isSome := by
  rcases valueAt_of h x with ⟨h1, h2⟩ | ⟨V, v, h1, h2, _⟩ <;> rw [h1, h2] <;> rfl
theorem has_set {a : Addr} {l : List Str} (R : Rep w fd fx σ s.heap) (ro : RoOk w fd) (H : Has fd.ro σ.hp a (.sset l)) (hl : l.length ≤ 1000) : ∃ n, s.heap.SetOf (strKind PR w) a (fun s => l.contains s) n ∧ n ≤ l.length := by
  obtain ⟨o, h1, n, h2, h3⟩ := R.has ro H
  exact ⟨n, h2.setOf h1 (by show n < 4096; exact lin [_, _] (.lt (.v 0) (.n 4096)) 1 (.c 1 (.le (.v 1) (.n 1000)) (.c 1 (.le (.v 0) (.v 1)) .e)) (Eq.refl true) hl h3), h3⟩
theorem inA_sound {u v : Value} {U V : AV} {k : Bool → Prop} {Q : Value → Shared → Prop} (R : Rep w fd fx σ s.heap) (ro : RoOk w fd) (h1 : U.is u) (h2 : V.is v) (h : inA fd.ro U V σ k)
    (q : ∀ b s', Same s s' → Rep w fd fx σ s'.heap → k b → Q (.bool b) s') : wpAny (model PR w) A (compareOp .In u v) Q E s := by
  obtain ⟨x, h⟩ := onS_get h
  obtain ⟨a, h⟩ := onR_get h
  · obtain ⟨t, rfl⟩ := h1
    cases h2
    rcases h with ⟨l, H, hl, hk⟩ | ⟨d, H, hk⟩ | ⟨l, H, hl, hk⟩
    · obtain ⟨vs, n, ho, hp⟩ := has_list R ro H
      refine in_list_strs (isl ho) (strs_of_paired hp) ?_
      rw [any_contains]; exact q _ _ (.refl s) R hk
    · obtain ⟨kvs, hd, hp⟩ := has_dict R ro H
      refine wpAny_in_of (strKind_is _ _ _ _) (R.hasS ro H) hd.mapOf ?_
      rw [lookup_isSome hp]; exact q _ _ (same_val s _) R hk
    · obtain ⟨n, hS, _⟩ := has_set R ro H hl
      exact wpAny_inSet_of (strKind_is _ _ _ _) rfl hS (q _ _ (same_val s _) R hk)
theorem notInA_sound {u v : Value} {U V : AV} {k : Bool → Prop} {Q : Value → Shared → Prop} (R : Rep w fd fx σ s.heap) (ro : RoOk w fd) (h1 : U.is u) (h2 : V.is v) (h : inA fd.ro U V σ k)
    (q : ∀ b s', Same s s' → Rep w fd fx σ s'.heap → k b → Q (.bool (!b)) s') : wpAny (model PR w) A (compareOp .NotIn u v) Q E s := by
  obtain ⟨x, h⟩ := onS_get h
  obtain ⟨a, h⟩ := onR_get h
  · obtain ⟨t, rfl⟩ := h1
    cases h2
    rcases h with ⟨l, H, hl, hk⟩ | ⟨d, H, hk⟩ | ⟨l, H, hl, hk⟩
    · obtain ⟨vs, n, ho, hp⟩ := has_list R ro H
      refine notin_list_strs (isl ho) (strs_of_paired hp) ?_
      rw [any_contains]; exact q _ _ (.refl s) R hk
    · obtain ⟨kvs, hd, hp⟩ := has_dict R ro H
      refine wpAny_notIn_of (strKind_is _ _ _ _) (R.hasS ro H) hd.mapOf ?_
      rw [lookup_isSome hp]; exact q _ _ (same_val s _) R hk
    · obtain ⟨n, hS, _⟩ := has_set R ro H hl
      exact wpAny_notInSet_of (strKind_is _ _ _ _) rfl hS (q _ _ (same_val s _) R hk)

theorem cmpA_sound {op : CmpOp} {u v : Value} {U V : AV} {k : Bool → Prop} {Q : Value → Shared → Prop} (R : Rep w fd fx σ s.heap) (ro : RoOk w fd) (hu : A.units + 64 < cLine) (h1 : U.is u) (h2 : V.is v) (h : cmpA fd.ro op U V σ k)
    (q : ∀ b s', Same s s' → Rep w fd fx σ s'.heap → k b → Q (.bool b) s') : wpAny (model PR w) A (compareOp op u v) Q E s := by
  cases op
  case Lt =>
    obtain ⟨x, h⟩ := onI_get h; obtain ⟨y, h⟩ := onI_get h
    obtain ⟨t, rfl⟩ := h1; obtain ⟨t', rfl⟩ := h2
    exact wpAny_lt_int (q _ _ (.refl s) R h)
  case GtE =>
    obtain ⟨x, h⟩ := onI_get h; obtain ⟨y, h⟩ := onI_get h
    obtain ⟨t, rfl⟩ := h1; obtain ⟨t', rfl⟩ := h2
    exact P.ge_int (q _ _ (.refl s) R h)
  case Eq => exact eqA_sound R ro hu h1 h2 h q
  case NotEq => exact neA_sound (k := fun t => k (!t)) R ro hu h1 h2 h fun b s' a b c => q _ s' a b c
  case Is =>
    obtain ⟨hp, b, hk, e⟩ := isA_sound h1 h2 h
    refine wpAny_is_plain hp ?_
    rw [e]; exact q _ _ (.refl s) R hk
  case IsNot =>
    obtain ⟨hp, b, hk, e⟩ := isA_sound (k := fun t => k (!t)) h1 h2 h
    refine wpAny_isNot_plain hp ?_
    rw [e]; exact q _ _ (.refl s) R hk
  case In => exact inA_sound R ro h1 h2 h q
  case NotIn => exact notInA_sound (k := fun t => k (!t)) R ro h1 h2 h fun b s' a b c => q _ s' a b c
  all_goals exact False.elim h

/-! ### arithmetic -/
theorem noPylong (x : Int) {y : Int} (h0 : 0 < y) (h1 : y < 100) : Builtin.divisionGoesByPylong x y = false := by
  have h2 : y.natAbs.log2 < 7 := by
    have h3 : y.natAbs ≠ 0 := by omega
    rw [Nat.log2_lt h3]; omega
  have h4 : y ≠ 0 := by omega
  have h5 : y.natAbs.log2 / 30 = 0 := by omega
  delta Builtin.divisionGoesByPylong
  simp [h4, h5]
theorem fdiv_pos (x : Int) {y : Int} (h : 0 < y) : x.fdiv y = x / y := Int.fdiv_eq_ediv_of_nonneg x (by omega)
theorem fmod_pos (x : Int) {y : Int} (h : 0 < y) : x.fmod y = x % y := Int.fmod_eq_emod_of_nonneg x (by omega)
theorem rep_push (R : Rep w fd fx σ s.heap) {o : Obj} {x : AO} (hx : x.is w o) (hf : o.isFreed = false := by rfl) : Rep w fd fx ⟨σ.loc, (s.heap.objs.size, x) :: σ.hp⟩ (s.heap.push o) :=
  R.new (h' := s.heap.push o) (fun b o' e => Heap.get?_push_of_some _ e) (Nat.le_refl _) (Heap.get?_push_size _ hf) hx
theorem list_is {l : List AV} {vs : List Value} (h : Paired AV.is l vs) (n : Nat) : (AO.list l).is w (LObj vs n) := ⟨vs, n, rfl, h⟩

theorem binA_sound {op : Operator} {u v : Value} {U V : AV} {k : KV} {Q : Value → Shared → Prop} (R : Rep w fd fx σ s.heap) (ro : RoOk w fd) (hs : Same s₀ s) (h1 : U.is u) (h2 : V.is v) (h : binA fd.ro op U V σ k)
    (q : KQ w fd fx s₀ k Q) : wpAny (model PR w) A (binaryOp op u v) Q E s := by
  cases onO_get h with
  | add h =>
    cases U
    case int x =>
      obtain ⟨y, h⟩ := onI_get h
      obtain ⟨t, rfl⟩ := h1; obtain ⟨t', rfl⟩ := h2
      exact wpAny_add_int (q _ _ _ _ (isI _ _) (hs.trans (same_val s _)) R h)
    case str x =>
      obtain ⟨y, h⟩ := onS_get h
      obtain ⟨t, rfl⟩ := h1; obtain ⟨t', rfl⟩ := h2
      exact PyProof.Rows.add_str (fun t' tk => q _ _ _ _ (isSt _ _) (hs.trans (same_val s _)) R h.2) (lim_line h.1)
    case raw r =>
      obtain ⟨a, h⟩ := onV_get h
      obtain ⟨b, h⟩ := onR_get h
      cases h1; cases h2
      obtain ⟨l, l', H1, H2, hl, hk⟩ := h
      obtain ⟨vs, n, ho, hp⟩ := has_list R ro H1
      obtain ⟨vs', n', ho', hp'⟩ := has_list R ro H2
      refine P.add_list (n := n) (n2 := n') ho ho' ?_ (by simp only [List.size_toArray]; rw [← hp.length, ← hp'.length]; exact lim_line hl)
      refine q (.ref _) _ _ _ rfl (hs.trans (same_hp s _ _)) (rep_push R (x := .list (l ++ l')) ?_) (hk _)
      exact ⟨vs ++ vs', 0, by simp, Paired.append hp hp'⟩
    all_goals exact False.elim h
  | sub h =>
    obtain ⟨x, h⟩ := onI_get h; obtain ⟨y, h⟩ := onI_get h
    obtain ⟨t, rfl⟩ := h1; obtain ⟨t', rfl⟩ := h2
    exact PyProof.Rows.sub_int (q _ _ _ _ (isI _ _) (hs.trans (same_val s _)) R h)
  | mod h =>
    obtain ⟨x, h⟩ := onI_get h; obtain ⟨y, h⟩ := onI_get h
    obtain ⟨t, rfl⟩ := h1; obtain ⟨t', rfl⟩ := h2
    obtain ⟨⟨h0, h9⟩, hk⟩ := h
    refine PyProof.Rows.mod_int' (Int.ne_of_gt h0) ?_
    rw [fmod_pos _ h0]
    exact q _ _ _ _ (isI _ _) (hs.trans (same_val s _)) R hk
  | fdiv h =>
    obtain ⟨x, h⟩ := onI_get h; obtain ⟨y, h⟩ := onI_get h
    obtain ⟨t, rfl⟩ := h1; obtain ⟨t', rfl⟩ := h2
    obtain ⟨⟨h0, h9⟩, hk⟩ := h
    refine PyProof.Rows.floordiv_int (Int.ne_of_gt h0) ?_ (.inl (noPylong _ h0 h9))
    rw [fdiv_pos _ h0]
    exact q _ _ _ _ (isI _ _) (hs.trans (same_val s _)) R hk

theorem augB_sound {op : Operator} {u v : Value} {U V : AV} {k : KV} {Q : Value → Shared → Prop} (R : Rep w fd fx σ s.heap) (ro : RoOk w fd) (hs : Same s₀ s) (h1 : U.is u) (h2 : V.is v) (h : iopA fd.ro op U V σ k)
    (q : KQ w fd fx s₀ k Q) : wpAny (model PR w) A (inplaceOp op u v) Q E s := by
  cases onO_get h with
  | add h =>
    cases U
    case int x =>
      obtain ⟨y, h⟩ := onI_get h
      obtain ⟨t, rfl⟩ := h1; obtain ⟨t', rfl⟩ := h2
      exact wpAny_iadd_int (q _ _ _ _ (isI _ _) (hs.trans (same_val s _)) R h)
    case raw r => obtain ⟨a, h⟩ := onV_get h; exact False.elim h
    case none => exact False.elim h
    case bool b => exact False.elim h
    case str x h0 =>
    clear h0
    obtain ⟨y, h⟩ := onS_get h
    obtain ⟨t, rfl⟩ := h1; obtain ⟨t', rfl⟩ := h2
    have h : x.length + y.length ≤ lim ∧ k (.str (x ++ y)) σ := h
    refine PySem.P.iadd_str ?_
    split
    · rename_i e
      have : x ++ y = y := by
        have e0 : x.cps.size = 0 := by simpa [Str.length] using e
        exact PySem.Str.ext' (show x.cps ++ y.cps = y.cps by simp [Array.size_eq_zero_iff.mp e0])
      rw [this] at h
      exact q _ _ _ _ (isSt _ _) hs R h.2
    · split
      · rename_i e
        have : x ++ y = x := by
          have e0 : y.cps.size = 0 := by simpa [Str.length] using e
          exact PySem.Str.ext' (show x.cps ++ y.cps = x.cps by simp [Array.size_eq_zero_iff.mp e0])
        rw [this] at h
        exact q _ _ _ _ (isSt _ _) hs R h.2
      · refine ⟨?_, ?_⟩
        · have e : (x ++ y).length = x.length + y.length := by show (x.cps ++ y.cps).size = _; simp [Str.length]
          rw [e]; exact lim_line h.1
        · exact q _ _ _ _ (isSt _ _) (hs.trans (same_val s _)) R h.2
  | sub h =>
    obtain ⟨x, h⟩ := onI_get h; obtain ⟨y, h⟩ := onI_get h
    obtain ⟨t, rfl⟩ := h1; obtain ⟨t', rfl⟩ := h2
    exact PyProof.Rows.isub_int (q _ _ _ _ (isI _ _) (hs.trans (same_val s _)) R h)
  | mod h => exact False.elim h
  | fdiv h => exact False.elim h
end
end Mine
end

section
open PySem PySem.W PyProof.Rows PySem.Calls PySem.Spec
set_option maxRecDepth 100000
namespace Mine

section
variable {w : World} {A : Around} {E : Value → Shared → Prop} {s s₀ : Shared} {fd : FD} {fx : List (Addr × Obj)} {σ : AS} {K : Frag}

theorem Upd.of {d : Addr} {o o' : Obj} {post : List (Addr × Obj)} (h2 : ∀ p ∈ post, p.1 ≠ d) : ∀ {pre : List (Addr × Obj)}, (∀ p ∈ pre, p.1 ≠ d) → Upd d o o' (pre ++ (d, o) :: post) (pre ++ (d, o') :: post)
  | [], _ => .head h2
  | p :: _, h1 => .tail (h1 p (.head _)) (Upd.of h2 fun q hq => h1 q (.tail _ hq))

inductive UpdR (w : World) (fd : FD) (fx : List (Addr × Obj)) (σ : AS) (a : Addr) (x x' : AO) (hp' : List (Addr × AO)) (h : Heap) : Prop
  | mk (g : Heap) (G : fd.Gr g) (mf : Str → Option Value) (pre post : List (Addr × Obj)) (o : Obj) (F : Fr g fd.Lf h mf) (N : News g fd.Lf h (pre ++ (a, o) :: post)) (m1 : ∀ p ∈ pre, p.1 ≠ a) (m2 : ∀ p ∈ post, p.1 ≠ a) (i : x.is w o)
      (back : ∀ o' h', x'.is w o' → Fr g fd.Lf h' mf → News g fd.Lf h' (pre ++ (a, o') :: post) → Rep w fd fx ⟨σ.loc, hp'⟩ h')
theorem Rep.upd {h : Heap} (R : Rep w fd fx σ h) {a : Addr} {x x' : AO} {hp' : List (Addr × AO)} (W : Wr a x x' σ.hp hp') :
    UpdR w fd fx σ a x x' hp' h := by
  obtain ⟨g0, GT, mf, own, news, F, N, nd, H, V, hz⟩ := R
  obtain ⟨pre, post, y, e1, rfl, hy⟩ := W.split
  rw [e1] at H
  obtain ⟨n1, n2, rfl, H1, H2⟩ := Paired.splitR H
  cases H2 with
  | @cons p _ n2 _ hp H2 =>
    obtain ⟨b, o⟩ := p
    obtain ⟨rfl, hp2, hp3⟩ := hp
    have e : ∀ o, fx ++ (own ++ (n1 ++ (b, o) :: n2)) = (fx ++ (own ++ n1)) ++ (b, o) :: n2 := fun o => by simp
    rw [e] at N nd
    have hx : x.is w o := by
      rcases hy with rfl | ⟨o₁, rfl⟩
      · exact hp2
      · exact hp2.2
    obtain ⟨m1, m2⟩ := nodup_ne nd
    refine ⟨g0, GT, mf, fx ++ (own ++ n1), n2, o, F, N, m1, m2, hx, fun o' h' hx' F' N' => ⟨g0, GT, mf, own, n1 ++ (b, o') :: n2, F', ?_, ?_, Paired.append H1 (.cons ⟨rfl, hx', hp3⟩ H2), V, hz⟩⟩
    · rw [e]; exact N'
    · rw [e]; simpa using nd

theorem upd_length {K α : Type} [DecidableEq K] (x : K) (v : α) (l : List (K × α)) : (upd x v l).length ≤ l.length + 1 := by
  induction l with
  | nil => simp [upd]
  | cons p l ih =>
    obtain ⟨a, b⟩ := p
    unfold upd
    split
    · simp
    · simp only [List.length_cons]; exact lin [_, _] (.le (.a (.v 0) (.n 1)) (.a (.a (.v 1) (.n 1)) (.n 1))) 1 (.c 1 (.le (.v 0) (.a (.v 1) (.n 1))) .e) (Eq.refl true) ih

/-! ### attributes -/
theorem hdA_of {V : AV} {v : Value} (h : V.is v) (e : hdA V = true) : handedIn v = true := by
  cases V with
  | none => cases h; rfl
  | bool b => cases h; rfl
  | int i => obtain ⟨t, rfl⟩ := h; rfl
  | str i => obtain ⟨t, rfl⟩ := h; rfl
  | raw v => cases h; exact e
theorem nodeField_0 {name : Str} (h : nodeField name = 0) : name = "node" := by
  unfold nodeField at h; split at h; assumption; split at h; cases h; split at h <;> cases h
theorem nodeField_1 {name : Str} (h : nodeField name = 1) : name = "npredecessors" := by
  unfold nodeField at h; split at h; cases h; split at h; assumption; split at h <;> cases h
theorem nodeField_2 {name : Str} (h : nodeField name = 2) : name = "successors" := by
  unfold nodeField at h; split at h; cases h; split at h; cases h; split at h; assumption; cases h

theorem isStr_ne {x y : Str} {t : Tok} (h : x ≠ y) : (Value.str x t).isStr y = false := beq_eq_false_iff_ne.mpr h
theorem isStr_self {x : Str} {t : Tok} : (Value.str x t).isStr x = true := beq_self_eq_true x
theorem getL_of {l : List (Str × AV)} {es : List DictEntry} (h : Paired atIs l es) (name : Str) :
    (l.lookup name = none ∧ getL name es = some none) ∨ ∃ V v, l.lookup name = some V ∧ getL name es = some (some v) ∧ V.is v := by
  have key : (es.any (·.refKey)) = false := by
    induction h with
    | nil => rfl
    | cons a _ ih =>
      obtain ⟨hh, t, v, rfl, _⟩ := a
      rw [List.any_cons, ih]; rfl
  unfold getL
  rw [key]
  induction h with
  | nil => exact .inl ⟨rfl, rfl⟩
  | @cons p e l es a h' ih =>
    obtain ⟨hh, t, v, rfl, hv⟩ := a
    obtain ⟨k, V⟩ := p
    rw [List.lookup_cons, List.find?_cons]
    by_cases hk : name = k
    · subst hk
      simp only [beq_self_eq_true, isStr_self]
      exact .inr ⟨V, v, rfl, rfl, hv⟩
    · have e1 : (name == k) = false := beq_eq_false_iff_ne.mpr hk
      rw [e1]
      have e2 : (Value.str k t).isStr name = false := isStr_ne (Ne.symm hk)
      simp only [e2]
      rw [List.any_cons] at key
      exact ih (Bool.or_eq_false_iff.mp key).2
theorem putL_of {name : Str} {V : AV} {v : Value} (hv : V.is v) (hh : Int) (t : Tok) {l : List (Str × AV)} {es : List DictEntry} (h : Paired atIs l es) : Paired atIs (upd name V l) (putL name hh (.str name t) v es) := by
  induction h with
  | nil => exact .cons ⟨hh, t, v, rfl, hv⟩ .nil
  | @cons p e l es a h' ih =>
    obtain ⟨hh', t', v', rfl, hv'⟩ := a
    obtain ⟨k, U⟩ := p
    unfold upd putL
    by_cases hk : name = k
    · subst hk
      rw [if_pos rfl, if_pos isStr_self]
      exact .cons ⟨hh', t', v, rfl, hv⟩ h'
    · rw [if_neg hk, if_neg (by rw [isStr_ne (Ne.symm hk)]; simp)]
      exact .cons ⟨hh', t', v', rfl, hv'⟩ ih

theorem inst_at {a d C : Addr} {l : List (Str × AV)} (R : Rep w fd fx σ s.heap) (ro : RoOk w fd) (H : Has fd.ro σ.hp a (.inst C d)) (D : Has fd.ro σ.hp d (.attrs l)) :
    ∃ ox es n, InstAt s.heap a ox C (some (dictOf es n)) ∧ Paired atIs l es ∧ ox.dict = some d := by
  obtain ⟨o, h1, rfl⟩ := R.has ro H
  obtain ⟨od, h2, es, n, rfl, h3⟩ := R.has ro D
  exact ⟨_, es, n, ⟨h1, rfl, rfl, h2⟩, h3, rfl⟩
theorem node_at {a d : Addr} {x y z : Option AV} {l : List (Str × AV)} (R : Rep w fd fx σ s.heap) (ro : RoOk w fd) (H : Has fd.ro σ.hp a (.node d x y z)) (D : Has fd.ro σ.hp d (.attrs l)) :
    E22 (fun ox od => InstAt s.heap a ox 33 (some od)) fun ox _ => (AO.node d x y z).is w ox := by
  obtain ⟨o, h1, sl, rfl, r⟩ := R.has ro H
  obtain ⟨od, h2, es, n, rfl, h3⟩ := R.has ro D
  exact ⟨_, _, ⟨h1, rfl, rfl, h2⟩, sl, rfl, r⟩

theorem attrA_sound {e : Bool} {u : Value} {U : AV} {name : Str} {k : AV → Prop} {Q : Value → Shared → Prop} (R : Rep w fd fx σ s.heap) (ro : RoOk w fd) (X : ∀ g, fd.Gr g → K.In g) (KF : KFacts K) (h1 : U.is u) (h : attrA fd.ro U name σ k)
    (q : ∀ V v s', V.is v → Same s s' → Rep w fd fx σ s'.heap → k V → Q v s') : wpAny (model PR w) A (getAttr u name e) Q E s := by
  obtain ⟨g0, GT, mf, own, news, F, _⟩ := id R
  unfold attrA at h
  split at h
  · cases h1
    split at h
    · rename_i hn
      rw [nodeField_0 hn]
      obtain ⟨d, x, y, z, l, H, D, hd, hk⟩ := h
      obtain ⟨ox, od, I, sl, rfl, ⟨v, h3, h4⟩, _⟩ := node_at R ro H D
      obtain ⟨f1, f2, f3, f4, _⟩ := KF.a33 ("node", 34, 0) (.head _)
      exact get_slot F (X g0 GT) I KF.g33 KF.c33 f1 f2 f3 f4 h3 (hdA_of h4 hd) (q _ _ _ h4 (same_val s _) R hk)
    · rename_i hn
      rw [nodeField_1 hn]
      obtain ⟨d, x, y, z, l, H, D, hd, hk⟩ := h
      obtain ⟨ox, od, I, sl, rfl, _, ⟨v, h3, h4⟩, _⟩ := node_at R ro H D
      obtain ⟨f1, f2, f3, f4, _⟩ := KF.a33 ("npredecessors", 35, 1) (.tail _ (.head _))
      exact get_slot F (X g0 GT) I KF.g33 KF.c33 f1 f2 f3 f4 h3 (hdA_of h4 hd) (q _ _ _ h4 (same_val s _) R hk)
    · rename_i hn
      rw [nodeField_2 hn]
      obtain ⟨d, x, y, z, l, H, D, hd, hk⟩ := h
      obtain ⟨ox, od, I, sl, rfl, _, _, ⟨v, h3, h4⟩, _⟩ := node_at R ro H D
      obtain ⟨f1, f2, f3, f4, _⟩ := KF.a33 ("successors", 36, 2) (.tail _ (.tail _ (.head _)))
      exact get_slot F (X g0 GT) I KF.g33 KF.c33 f1 f2 f3 f4 h3 (hdA_of h4 hd) (q _ _ _ h4 (same_val s _) R hk)
    · obtain ⟨d, l, H, D, hn, V, hl, hd, hk⟩ := h
      obtain ⟨ox, es, n, I, hp, _⟩ := inst_at R ro H D
      rcases getL_of hp name with ⟨h3, _⟩ | ⟨V', v, h3, h4, h5⟩
      · rw [h3] at hl; cases hl
      · rw [h3] at hl; cases hl
        exact get_own F (X g0 GT) I KF.g130 KF.h130 (KF.f130 _ hn) rfl h4 (hdA_of h5 hd) (q _ _ _ h5 (same_val s _) R hk)
  · exact h.elim

theorem ovIs_set {sl : Array (Option Value)} {i j : Nat} {v : Value} {x : Option AV} (hij : j ≠ i) (h : ovIs x (sl[j]?).join) : ovIs x ((((sl ++ Array.replicate (i + 1 - sl.size) none).setIfInBounds i (some v))[j]?).join) := by
  have : (((sl ++ Array.replicate (i + 1 - sl.size) none).setIfInBounds i (some v))[j]?).join = (sl[j]?).join := by
    rw [Array.getElem?_setIfInBounds_ne (Ne.symm hij), Array.getElem?_append]
    split
    · rfl
    · rename_i hz
      rw [Array.getElem?_eq_none (by exact lin [_, _] (.le (.v 0) (.v 1)) 1 (.c 1 (.nlt (.v 1) (.v 0)) .e) (Eq.refl true) hz : sl.size ≤ j), Array.getElem?_replicate]
      split <;> rfl
  rw [this]; exact h
theorem ovIs_self {sl : Array (Option Value)} {i : Nat} {v : Value} {V : AV} (h : V.is v) : ovIs (some V) ((((sl ++ Array.replicate (i + 1 - sl.size) none).setIfInBounds i (some v))[i]?).join) := by
  have : (((sl ++ Array.replicate (i + 1 - sl.size) none).setIfInBounds i (some v))[i]?).join = some v := by
    rw [Array.getElem?_setIfInBounds_self_of_lt (by simp; exact lin [_, _, _] (.lt (.v 0) (.a (.v 1) (.v 2))) 1 (.c 1 (.le (.a (.v 0) (.n 1)) (.a (.v 2) (.v 1))) .e) (Eq.refl true) (lsa _ _))]; rfl
  rw [this]; exact ⟨v, rfl, h⟩
theorem sl_size {sl : Array (Option Value)} {i : Nat} {v : Value} (hi : i < 3) (h : sl.size ≤ 3) : ((sl ++ Array.replicate (i + 1 - sl.size) none).setIfInBounds i (some v)).size ≤ 3 := by simp; omega

theorem setA_sound {u v : Value} {U V : AV} {name : Str} {k : AS → Prop} {Q : Unit → Shared → Prop} (R : Rep w fd fx σ s.heap) (ro : RoOk w fd) (X : ∀ g, fd.Gr g → K.In g) (KF : KFacts K) (h1 : U.is u) (h2 : V.is v) (h : setA fd.ro U name V σ k)
    (q : UQ w fd fx s k Q) : wpAny (model PR w) A (setAttr u name v) Q E s := by
  unfold setA at h
  split at h
  · cases h1
    split at h
    · rename_i hn
      rw [nodeField_0 hn]
      obtain ⟨d, x, y, z, l, hp', D, W, hk⟩ := h
      obtain ⟨g0, GT, mf, pre, post, o, F, N, m1, m2, ⟨sl, rfl, i1, i2, i3, i4⟩, back⟩ := R.upd W
      obtain ⟨od, h2', es, n, rfl, h3⟩ := R.has ro D
      obtain ⟨f1, f2, f3, f4, f5, f6⟩ := KF.a33 ("node", 34, 0) (.head _)
      exact set_slot F (X g0 GT) N ⟨(N _ (List.mem_append_right _ (.head _))).1, rfl, rfl, h2'⟩ KF.s33 KF.p33 f5 f6 f4 (by decide) rfl rfl (Upd.of m2 m1) fun h' F' N' =>
        q _ _ (same_hp s _ _) (back _ _ ⟨_, rfl, ovIs_self h2, ovIs_set (by decide) i2, ovIs_set (by decide) i3, sl_size (by decide) i4⟩ F' N') hk
    · rename_i hn
      rw [nodeField_1 hn]
      obtain ⟨d, x, y, z, l, hp', D, W, hk⟩ := h
      obtain ⟨g0, GT, mf, pre, post, o, F, N, m1, m2, ⟨sl, rfl, i1, i2, i3, i4⟩, back⟩ := R.upd W
      obtain ⟨od, h2', es, n, rfl, h3⟩ := R.has ro D
      obtain ⟨f1, f2, f3, f4, f5, f6⟩ := KF.a33 ("npredecessors", 35, 1) (.tail _ (.head _))
      exact set_slot F (X g0 GT) N ⟨(N _ (List.mem_append_right _ (.head _))).1, rfl, rfl, h2'⟩ KF.s33 KF.p33 f5 f6 f4 (by decide) rfl rfl (Upd.of m2 m1) fun h' F' N' =>
        q _ _ (same_hp s _ _) (back _ _ ⟨_, rfl, ovIs_set (by decide) i1, ovIs_self h2, ovIs_set (by decide) i3, sl_size (by decide) i4⟩ F' N') hk
    · rename_i hn
      rw [nodeField_2 hn]
      obtain ⟨d, x, y, z, l, hp', D, W, hk⟩ := h
      obtain ⟨g0, GT, mf, pre, post, o, F, N, m1, m2, ⟨sl, rfl, i1, i2, i3, i4⟩, back⟩ := R.upd W
      obtain ⟨od, h2', es, n, rfl, h3⟩ := R.has ro D
      obtain ⟨f1, f2, f3, f4, f5, f6⟩ := KF.a33 ("successors", 36, 2) (.tail _ (.tail _ (.head _)))
      exact set_slot F (X g0 GT) N ⟨(N _ (List.mem_append_right _ (.head _))).1, rfl, rfl, h2'⟩ KF.s33 KF.p33 f5 f6 f4 (by decide) rfl rfl (Upd.of m2 m1) fun h' F' N' =>
        q _ _ (same_hp s _ _) (back _ _ ⟨_, rfl, ovIs_set (by decide) i1, ovIs_set (by decide) i2, ovIs_self h2, sl_size (by decide) i4⟩ F' N') hk
    · obtain ⟨d, l, hp', H, W, hn, hl, hk⟩ := h
      obtain ⟨g0, GT, mf, pre, post, o, F, N, m1, m2, ⟨es, n, rfl, hp⟩, back⟩ := R.upd W
      obtain ⟨ox, h3, rfl⟩ := R.has ro H
      have hz : (putL name (PyData.keyHash w.params name) (.str name (s.toks + 1)) v es).length ≤ 1000 := by
        have e1 := (putL_of h2 (PyData.keyHash w.params name) (s.toks + 1) (name := name) hp).length
        have e2 := upd_length name V l
        exact lin [_, _, _] (.le (.v 0) (.n 1000)) 1 (.c 1 (.le (.v 1) (.n 50)) (.c 1 (.qe (.v 2) (.v 0)) (.c 1 (.le (.v 2) (.a (.v 1) (.n 1))) .e))) (Eq.refl true) hl e1 e2
      refine set_dict F (X g0 GT) N ⟨h3, rfl, rfl, (N _ (List.mem_append_right _ (.head _))).1⟩ rfl KF.s130 KF.p130 (KF.t130 _ hn) KF.h130 ?_ rfl (Upd.of m2 m1) hz fun h' F' N' =>
        q _ _ (same_hp s _ _) (back _ _ ⟨_, _, rfl, putL_of h2 _ _ hp⟩ F' N') hk
      rcases getL_of hp name with ⟨_, h4⟩ | ⟨_, _, _, h4, _⟩ <;> rw [h4] <;> rfl
  · exact h.elim

/-! ### items -/
theorem stored_of {K : Type} [DecidableEq K] {k : K} {V : AV} {v : Value} (hv : V.is v) {l : List (K × AV)} {kvs : List (K × Value)} (h : Paired kvIs l kvs) (nd : (kvs.map (·.1)).Nodup) : Paired kvIs (upd k V l) (stored kvs k v) := by
  induction h with
  | nil => exact .cons ⟨rfl, hv⟩ .nil
  | @cons p q l kvs a h' ih =>
    obtain ⟨k1, U⟩ := p
    obtain ⟨k2, u⟩ := q
    obtain ⟨e, hu⟩ := a
    simp only at e hu
    subst e
    rw [List.map_cons, List.nodup_cons] at nd
    have ih := ih nd.2
    unfold stored at ih ⊢
    unfold upd
    rw [List.any_cons, List.map_cons]
    by_cases hk : k = k1
    · subst hk
      simp only [decide_true, Bool.true_or, if_true]
      refine .cons ⟨rfl, hv⟩ ?_
      have : kvs.map (fun kv => if kv.1 = k then (kv.1, v) else kv) = kvs := by
        conv => rhs; rw [← List.map_id kvs]
        refine List.map_congr_left fun kv hm => ?_
        rw [if_neg (fun (z : kv.1 = k) => nd.1 (by rw [← z]; exact List.mem_map_of_mem (f := (·.1)) hm))]; rfl
      rw [this]; exact h'
    · have e2 : ¬ k1 = k := fun z => hk z.symm
      simp only [e2, if_neg hk, decide_false, Bool.false_or]
      split
      · rename_i hz
        rw [if_pos hz] at ih
        exact .cons ⟨rfl, hu⟩ ih
      · rename_i hz
        rw [if_neg hz] at ih
        exact .cons ⟨rfl, hu⟩ ih

theorem without_of {K : Type} [DecidableEq K] {k : K} {l : List (K × AV)} {kvs : List (K × Value)} (h : Paired kvIs l kvs) : Paired kvIs (l.filter fun p => decide (p.1 ≠ k)) (without kvs k) := by
  unfold without
  induction h with
  | nil => exact .nil
  | @cons p q l kvs a h' ih =>
    have e := a.1
    rw [List.filter_cons, List.filter_cons, e]
    split
    · exact .cons a ih
    · exact ih
theorem isDict_nodup {K : Type} [DecidableEq K] {knd : KeyKind PR w K} {o : Obj} {kvs : List (K × Value)} (h : o.IsDictOf knd kvs) : (kvs.map (·.1)).Nodup := by
  obtain ⟨_, _, _, _, _, _, h⟩ := h; exact h

theorem subA_sound {u v : Value} {U V : AV} {k : AV → Prop} {Q : Value → Shared → Prop} (R : Rep w fd fx σ s.heap) (ro : RoOk w fd) (h1 : U.is u) (h2 : V.is v) (h : subA fd.ro U V σ k)
    (q : ∀ V v s', V.is v → Same s s' → Rep w fd fx σ s'.heap → k V → Q v s') : ItemOn (model PR w) A E u v Q s := by
  cases U <;> try (exact False.elim h)
  case str x =>
    obtain ⟨j, h⟩ := onI_get h
    obtain ⟨t, rfl⟩ := h1; obtain ⟨t', rfl⟩ := h2
    obtain ⟨c, n, rfl, hn, hc, hk⟩ := h
    refine ⟨"str", _, F.slot_str_getitem.lookup, typeIs_str _ _ _, PySem.P.getItem_str (c := c) (by simp; unfold lim at hn; omega) ?_ (q _ _ _ (isSt _ _) (same_val s _) R hk)⟩
    have hlt : n < x.cps.size := by
      rcases Nat.lt_or_ge n x.cps.size with z | z
      · exact z
      · rw [Array.getElem?_eq_none z] at hc; cases hc
    have e : seqIndex? (n : Int) x.length = some n := by
      have h1 : ¬ ((n : Int) < 0) := by omega
      have h2 : ((n : Int) < (x.length : Nat)) := by show (n : Int) < (x.cps.size : Nat); omega
      unfold seqIndex?
      simp only [h1, h2, if_false, decide_true, Int.natCast_nonneg, Bool.and_self, if_true, Int.toNat_natCast]
    rw [e]; exact hc
  case raw a =>
  obtain ⟨a, h⟩ := onV_get h
  obtain ⟨j, h⟩ | ⟨x, h⟩ := onIS_get h
  · obtain ⟨t', rfl⟩ := h2; cases h1
    obtain ⟨l, V, n, H, rfl, hn, hl, hk⟩ := h
    obtain ⟨vs, m, ho, hp⟩ := has_list R ro H
    obtain ⟨v, hv, hvi⟩ := Paired.get hp hl
    refine ⟨"list", _, list_getitem_lookup, (isl ho).typeIs, wpAny_getItem_list (isl ho) (by omega) (lim_lt hn) (x := v) ?_ (q _ _ _ hvi (.refl s) R hk)⟩
    simpa using hv
  · obtain ⟨t', rfl⟩ := h2; cases h1
    obtain ⟨l, V, H, hl, hk⟩ := h
    obtain ⟨kvs, hd, hp⟩ := has_dict R ro H
    rcases valueAt_of hp x with ⟨h3, _⟩ | ⟨V', v, h3, h4, h5⟩
    · rw [h3] at hl; cases hl
    · rw [h3] at hl; cases hl
      exact ⟨"dict", _, slot_dict_getitem.lookup, hd.typeIs, wpAny_getItem_of (strKind_is _ _ _ _) hd.mapOf h4 (q _ _ _ h5 (same_val s _) R hk)⟩

theorem setItem_listX {l : Addr} {items : Array Value} {o : Obj} {k : Int} {n : Nat} {t : Tok} {v : Value} {Q : Unit → Shared → Prop} (ho : s.heap.get? l = some o) (hc : o.cls = .type "list") (hd : o.data = .seq items n)
    (h0 : 0 ≤ k) (hfit : k < 2 ^ 63) (hn : k < items.size)
    (hQ : ∀ j, j = k.toNat → Q () { s with heap := s.heap.update l (Obj.mapSeq (·.setIfInBounds j v)) }) : wpAny (model PR w) A (setItem (.ref l) (.int k t) v) Q E s := by
  have hl : s.heap.IsList l items := ⟨o, ho, hc, n, hd⟩
  unfold setItem
  try with_reducible refine wpAny_holding ?_
  first | refine wpAny_bind (wpAny_pure ?_) | skip
  refine wpAny_bind (wpAny_sequenceKey hl.typeIs (by decide) ?_)
  refine wpAny_bind (wpAny_callSpecial?_slot (name := Str.ofString "__setitem__") hl.typeIs slot_list_setitem
    (wpAny_call_entry slot_list_setitem hl.typeIs entry_list_setitem ?_ (args_list_setitem _ _ _)))
  refine (?_ : wpAny _ _ (Builtin.List.listSubscript? (.int k t) >>= _) _ _ s)
  refine wpAny_bind (wpAny_listSubscript_int (fitsIndex_of h0 hfit) ?_)
  clear hfit
  obtain ⟨j, rfl⟩ := Int.eq_ofNat_of_zero_le h0
  have hj : j < items.size := by omega
  have hx' : items[j]? = some items[j] := Array.getElem?_eq_getElem hj
  refine (?_ : wpAny _ _ ((seqItemAt l j >>= fun r => pure (r.map (j, ·))) >>= _) _ _ s)
  refine wpAny_bind (wpAny_bind (wpAny_seqItemAt ho hd (wpAny_pure ?_)))
  rw [hx']
  refine (?_ : wpAny _ _ (setSeqItemAt l j v >>= _) _ _ s)
  refine wpAny_bind (wpAny_setSeqItemAt ho hd ?_)
  first
    | exact wpAny_bind (wpAny_pure (wpAny_pure ⟨.none, rfl, wpAny_pure (hQ _ rfl)⟩))
    | exact wpAny_pure ⟨.none, rfl, wpAny_pure (hQ _ rfl)⟩
theorem Paired.set {α β : Type} {F : α → β → Prop} {a : α} {b : β} (hab : F a b) : ∀ {l : List α} {m : List β}, Paired F l m → ∀ n, Paired F (l.set n a) (m.set n b)
  | _, _, .nil, _ => .nil
  | _, _, .cons _ t, 0 => .cons hab t
  | _, _, .cons h t, n + 1 => .cons h (Paired.set hab t n)

theorem setI_sound {u v x : Value} {U V X : AV} {k : AS → Prop} {Q : Unit → Shared → Prop} (R : Rep w fd fx σ s.heap) (h1 : U.is u) (h2 : V.is v) (h3 : X.is x) (h : setI U V X σ k)
    (q : UQ w fd fx s k Q) : wpAny (model PR w) A (setItem u v x) Q E s := by
  obtain ⟨a, h⟩ := onR_get h
  obtain ⟨j, h⟩ | ⟨x, h⟩ := onIS_get h
  · cases h1; obtain ⟨t', rfl⟩ := h2
    rcases (h : Cl _) with ⟨l, hp', n, W, hj, hn, hl, hk⟩ | ⟨l, hp', W, hl, hk⟩
    · subst hj
      obtain ⟨o, ho, vs, m, rfl, hp⟩ := R.wrO W
      have hlen := hp.length
      refine setItem_listX ho rfl rfl (Int.natCast_nonneg n) (lim_lt (Nat.le_trans (Nat.le_of_lt hn) hl)) (by simp; exact lin [_, _, _] (.lt (.v 0) (.v 1)) 1 (.c 1 (.lt (.v 0) (.v 2)) (.c 1 (.eq (.v 2) (.v 1)) .e)) (Eq.refl true) hn hlen) fun j hj => by have hj : j = n := hj; subst hj; exact (q _ _ (same_hp s _ s.toks) (R.wr W (sameBut_B (Heap.SameBut.update ..)) fun o1 e1 _ => ⟨_, Heap.get?_update_self _ ho rfl, vs.set j x, m, by simp [Obj.mapSeq], Paired.set h3 hp j⟩) hk)
    · obtain ⟨o, ho, kvs, hd, hp⟩ := R.wrO W
      refine wpAny_setItem_pairs (intKind_is _ _ _ _) (Heap.dictOf_iff.mpr ⟨o, ho, hd⟩) (fun h' hd' hs => q _ _ (same_hp s _ _) (R.wr W (sameBut_B hs) fun o1 e1 _ => ?_) hk) (by rw [← hp.length]; exact lim_line hl)
      obtain ⟨o', ho', hd''⟩ := Heap.dictOf_iff.mp hd'
      exact ⟨o', ho', _, hd'', stored_of h3 hp (isDict_nodup hd)⟩
  · cases h1; obtain ⟨t', rfl⟩ := h2
    obtain ⟨l, hp', W, hl, hk⟩ := h
    obtain ⟨o, ho, kvs, hd, hp⟩ := R.wrO W
    refine wpAny_setItem_pairs (strKind_is _ _ _ _) (Heap.dictOf_iff.mpr ⟨o, ho, hd⟩) (fun h' hd' hs => q _ _ (same_hp s _ _) (R.wr W (sameBut_B hs) fun o1 e1 _ => ?_) hk) (by rw [← hp.length]; exact lim_line hl)
    obtain ⟨o', ho', hd''⟩ := Heap.dictOf_iff.mp hd'
    exact ⟨o', ho', _, hd'', stored_of h3 hp (isDict_nodup hd)⟩

theorem delA_sound {u v : Value} {U V : AV} {k : AS → Prop} {Q : Unit → Shared → Prop} (R : Rep w fd fx σ s.heap) (h1 : U.is u) (h2 : V.is v) (h : delA U V σ k)
    (q : UQ w fd fx s k Q) : wpAny (model PR w) A (delItem u v) Q E s := by
  obtain ⟨a, h⟩ := onR_get h
  obtain ⟨x, h⟩ := onS_get h
  · cases h1; obtain ⟨t', rfl⟩ := h2
    obtain ⟨l, hp', W, hs, hl, hk⟩ := h
    obtain ⟨o, ho, kvs, hd, hp⟩ := R.wrO W
    have hD : s.heap.DictOf (strKind PR w) _ kvs := Heap.dictOf_iff.mpr ⟨o, ho, hd⟩
    unfold delItem
    try with_reducible refine wpAny_holding ?_
    refine wpAny_bind (wpAny_sequenceKey hD.typeIs (by decide) ?_)
    refine wpAny_bind (wpAny_callSpecial?_slot (name := Str.ofString "__delitem__") hD.typeIs PySem.F.slot_dict_delitem
      (call_meetsIn PySem.F.slot_dict_delitem hD.typeIs PySem.F.entry_dict_delitem (PySem.F.args_dict_delitem_2 _ _) (meets_dict_delitem_pairs (strKind PR w) _ (strKind_is _ _ _ _)) ⟨kvs, hD, (by rw [← hp.length]; exact lim_line hl), by rw [lookup_isSome hp]; exact hs, fun h' hmm hsb => ?_⟩))
    obtain ⟨o', ho', hd'⟩ := Heap.dictOf_iff.mp hmm
    exact wpAny_pure (q _ _ (same_hp s _ _) (R.wr W (sameBut_B hsb) fun o1 e1 _ => ⟨o', ho', _, hd', without_of hp⟩) hk)

/-! ### slices -/
theorem keptRep : KeptH (Rep w fd fx σ) := fun _ _ R => R.ext fun _ _ e => Heap.get?_push_of_some _ e
theorem Paired.drop {α β : Type} {F : α → β → Prop} : ∀ {l : List α} {m : List β}, Paired F l m → ∀ n, Paired F (l.drop n) (m.drop n)
  | _, _, .nil, n => by simp; exact .nil
  | _, _, .cons h t, 0 => .cons h t
  | _, _, .cons _ t, n + 1 => Paired.drop t n
theorem Paired.take {α β : Type} {F : α → β → Prop} : ∀ {l : List α} {m : List β}, Paired F l m → ∀ n, Paired F (l.take n) (m.take n)
  | _, _, .nil, n => by simp; exact .nil
  | _, _, .cons _ _, 0 => .nil
  | _, _, .cons h t, n + 1 => .cons h (Paired.take t n)
noncomputable def optIs : Option AV → Value → Prop
  | none, v => v = .none
  | some V, v => V.is v
theorem sliceA_sound {u v x : Value} {U V : AV} {X : Option AV} {k : KV} {Q : Value → Shared → Prop} (R : Rep w fd fx σ s.heap) (ro : RoOk w fd) (h1 : U.is u) (h2 : V.is v) (h3 : optIs X x) (h : sliceA fd.ro U V X σ k)
    (q : KQ w fd fx s k Q) : ItemOn (model PR w) A E u (.ref s.heap.objs.size) Q { s with heap := s.heap.push { cls := .type "slice", data := .fields #[v, x, .none] } } := by
  obtain ⟨x0, h⟩ := onI_get h
  cases X
  case none =>
   cases U <;> try (exact False.elim h)
   case str y h0 =>
    clear h0
    obtain ⟨t, rfl⟩ := h1; obtain ⟨t', rfl⟩ := h2; cases h3
    obtain ⟨n, rfl, hn, hl, hk⟩ := h
    refine SBH.sliceItem_sn (P := Rep w fd fx σ) keptRep R (fun h' t' k R' => ?_) (lim_line hl)
    have e := slice_from_eq (x := y) (i := n) (b := y.length) (by omega) (by omega) rfl
    rw [e]
    have e2 : (y.cps.toList.drop (n : Int).toNat).take (((y.length : Int) - (n : Int)).toNat) = y.cps.toList.drop n := by
      rw [List.take_of_length_le]
      · simp
      · simp [Str.length]
    rw [e2]
    exact q (.str (sdrop y n)) _ _ _ (isSt _ _) (same_hp s _ _) R' hk
   case raw r h0 =>
    clear h0
    obtain ⟨a, h⟩ := onV_get h
    obtain ⟨t', rfl⟩ := h2; cases h1; cases h3
    obtain ⟨l, n, H, rfl, hn, hl, hk⟩ := h
    obtain ⟨vs, m, ho, hp⟩ := has_list R ro H
    have hlen := hp.length
    refine ⟨"list", _, list_getitem_lookup, ((isl ho).push _).typeIs, wpAny_getItem_list_slice ((isl ho).push _) (Heap.IsSliceOf.new ..) (.int _ _) .none .none (by simp) ?_ (by simp; rw [← hlen]; exact lim_line hl)⟩
    have e := slicePick_from vs.toArray n (by simp; exact lin [_, _, _] (.le (.v 0) (.v 1)) 1 (.c 1 (.le (.v 0) (.v 2)) (.c 1 (.eq (.v 2) (.v 1)) .e)) (Eq.refl true) hn hlen)
    rw [e]
    refine q (.ref _) _ _ _ rfl (same_hp s _ s.toks) (rep_push (s := { s with heap := s.heap.push _ }) (keptRep _ _ R) (x := .list (l.drop n)) ?_) (hk _)
    exact ⟨vs.drop n, 0, by simp, Paired.drop hp n⟩
  case some W h0 =>
    clear h0
    obtain ⟨a, h4⟩ := onR_get h
    obtain ⟨y0, h⟩ := onI_get h4
    obtain ⟨t', rfl⟩ := h2; cases h1; obtain ⟨t2, rfl⟩ := h3
    obtain ⟨l, n, n', H, rfl, rfl, hn, hn', hl, hk⟩ := h
    obtain ⟨vs, m, ho, hp⟩ := has_list R ro H
    have hlen := hp.length
    refine ⟨"list", _, list_getitem_lookup, ((isl ho).push _).typeIs, wpAny_getItem_list_slice ((isl ho).push _) (Heap.IsSliceOf.new ..) (.int _ _) (.int _ _) .none (by simp) ?_ (by simp; rw [← hlen]; exact lim_line hl)⟩
    have e := slicePick_run vs.toArray n n' (by simp; exact lin [_, _, _] (.le (.v 0) (.v 1)) 1 (.c 1 (.le (.v 0) (.v 2)) (.c 1 (.eq (.v 2) (.v 1)) .e)) (Eq.refl true) hn' hlen) hn
    rw [e]
    refine q (.ref _) _ _ _ rfl (same_hp s _ s.toks) (rep_push (s := { s with heap := s.heap.push _ }) (keptRep _ _ R) (x := .list ((l.drop n).take (n' - n))) ?_) (hk _)
    exact ⟨(vs.drop n).take (n' - n), 0, by simp, Paired.take (Paired.drop hp n) _⟩
end
end Mine
end

section
open PySem PySem.W PyProof.Rows PySem.Calls PySem.Spec
set_option maxRecDepth 100000
namespace Mine

section
variable {w : World} {A : Around} {E : Value → Shared → Prop} {s s₀ : Shared} {fd : FD} {fx : List (Addr × Obj)} {σ : AS} {K : Frag}

theorem mem_of_lk {α : Type} {x : Str} {v : α} : ∀ {l : List (Str × α)}, l.lookup x = some v → (x, v) ∈ l
  | [], h => by cases h
  | (y, u) :: r, h => by
    rw [List.lookup_cons] at h
    by_cases e : x = y
    · subst e; simp only [beq_self_eq_true] at h; cases h; exact .head _
    · rw [beq_eq_false_iff_ne.mpr e] at h; exact .tail _ (mem_of_lk h)

theorem meths_fields : ∀ p ∈ meths, p.1 ∉ fields4 := by decide

theorem getM_list {a : Addr} {l : List AV} {name : Str} {f : Value} {pl : Sem Bool} {Q : Value × List Value → Shared → Prop} (R : Rep w fd fx σ s.heap) (ro : RoOk w fd) (H : Has fd.ro σ.hp a (.list l)) (hf : methF .list name = some f)
    (h : Q (f, [.ref a]) s) : wpAny (model PR w) A (getMethod (.ref a) name pl) Q E s := by
  obtain ⟨vs, n, ho, hp⟩ := has_list R ro H
  have hm := mem_of_lk (l := listF) hf
  have hT : s.TypeIs (.ref a) "list" := ⟨_, ho, rfl⟩
  have nr : ∀ b, Value.ref a = .ref b → ∃ o, s.heap.get? b = some o ∧ o.dict = none := fun b e => by cases e; exact ⟨_, ho, rfl⟩
  unfold listF at hm
  rcases List.mem_cons.mp hm with e | hm
  · cases e; exact getMethod_builtin hT F.plainAttrs_list F.slot_list_append F.type_list_append nr h
  rcases List.mem_cons.mp hm with e | hm
  · cases e; exact getMethod_builtin hT F.plainAttrs_list F.slot_list_pop F.type_list_pop nr h
  rcases List.mem_cons.mp hm with e | hm
  · cases e; exact getMethod_builtin hT F.plainAttrs_list F.slot_list_extend F.type_list_extend nr h
  rcases List.mem_cons.mp hm with e | hm
  · cases e; exact getMethod_builtin hT F.plainAttrs_list F.slot_list_index F.type_list_index nr h
  rcases List.mem_cons.mp hm with e | hm
  · cases e; exact getMethod_builtin hT F.plainAttrs_list F.slot_list_clear F.type_list_clear nr h
  · cases hm

theorem getM_sound {u : Value} {U : AV} {t : MT} {name : Str} {f : Value} {pl : Sem Bool} {Q : Value × List Value → Shared → Prop} (R : Rep w fd fx σ s.heap) (ro : RoOk w fd) (X : ∀ g, fd.Gr g → K.In g) (KF : KFacts K) (h1 : U.is u)
    (ht : isMT fd.ro U σ t) (hf : methF t name = some f) (h : Q (f, [u]) s) : wpAny (model PR w) A (getMethod u name pl) Q E s := by
  cases t with
  | str =>
    obtain ⟨x, rfl⟩ := ht
    obtain ⟨t, rfl⟩ := h1
    unfold methF at hf
    dsimp only at hf
    split at hf
    · rename_i e; subst e; cases hf; exact GM.startswith h
    · split at hf
      · rename_i e; subst e; cases hf; exact GM.join h
      · cases hf
  | list =>
    obtain ⟨a, l, rfl, H⟩ := ht
    cases h1
    exact getM_list R ro H hf h
  | dict =>
    obtain ⟨a, l, rfl, H⟩ := ht
    cases h1
    obtain ⟨kvs, hd, hp⟩ := has_dict R ro H
    unfold methF at hf
    dsimp only at hf
    split at hf
    · rename_i e; subst e; cases hf
      exact getMethod_builtin hd.typeIs F.plainAttrs_dict F.slot_dict_get F.type_dict_get hd.mapOf.noDict h
    · cases hf
  | idict =>
    obtain ⟨a, l, rfl, H⟩ := ht
    cases h1
    obtain ⟨kvs, hd, hp⟩ := has_idict R ro H
    unfold methF at hf
    dsimp only at hf
    split at hf
    · rename_i e; subst e; cases hf
      exact getMethod_builtin hd.typeIs F.plainAttrs_dict F.slot_dict_get F.type_dict_get hd.mapOf.noDict h
    · cases hf
  | sset =>
    obtain ⟨a, l, rfl, hl, H⟩ := ht
    cases h1
    obtain ⟨n, hS, _⟩ := has_set R ro H hl
    unfold methF at hf
    dsimp only at hf
    split at hf
    · rename_i e; subst e; cases hf; exact getMethod_set_add hS h
    · cases hf
  | inst =>
    obtain ⟨a, d, l, rfl, H, D, hl⟩ := ht
    cases h1
    obtain ⟨g0, GT, mf, own, news, F, _⟩ := id R
    obtain ⟨ox, es, n, I, hp, _⟩ := inst_at R ro H D
    unfold methF at hf
    dsimp only at hf
    obtain ⟨g, hg, rfl⟩ := Option.map_eq_some_iff.mp hf
    have hm := mem_of_lk hg
    obtain ⟨f1, f2⟩ := KF.m130 _ hm
    refine method_inst F (X g0 GT) I KF.g130 f1 f2 ?_ h
    rcases getL_of hp name with ⟨_, e⟩ | ⟨V, v, e, _⟩
    · exact e
    · have := hl _ (mem_of_lk e)
      exact absurd this (meths_fields _ hm)

/-! ### calls of the built-in methods -/
theorem update_wr {a : Addr} {l l' : List AV} {vs : List Value} {n : Nat} {f : Array Value → Array Value} {hp' : List (Addr × AO)} (R : Rep w fd fx σ s.heap) (W : Wr a (.list l) (.list l') σ.hp hp') (ho : s.heap.get? a = some (LObj vs n))
    {vs' : List Value} (hf : (f vs.toArray) = vs'.toArray) (hp : Paired AV.is l' vs') : Rep w fd fx ⟨σ.loc, hp'⟩ (s.heap.update a (Obj.mapSeq f)) := by
  refine R.wr W (sameBut_B (Heap.SameBut.update ..)) fun o h1 _ => ?_
  have e := IsL.update (l := a) (items := vs.toArray) (n := n) ho f
  rw [hf] at e
  exact ⟨_, e, vs', _, rfl, hp⟩

theorem notTooLong {n : Nat} (h : n ≤ lim) : ¬ Builtin.List.listTooLong n = true := by
  unfold Builtin.List.listTooLong
  have := lim_line h
  simp; exact lin [_, _] (.le (.v 0) (.v 1)) 1 (.c 1 (.le (.v 0) (.v 1)) .e) (Eq.refl true) this

theorem isStrOf_at (k : Str) : ∀ {vs : List Value} {ys : List Str}, StrsAre vs ys → ∀ (j : Nat) (h1 : j < vs.length) (h2 : j < ys.length), isStrOf k vs[j] = (ys[j] == k)
  | _, _, .cons n t _, 0, _, _ => rfl
  | _, _, .cons n t h, j + 1, h1, h2 => by
    simp only [List.getElem_cons_succ]
    exact isStrOf_at k h j _ _
theorem ne_of_lt_idxOf' {k : Str} {l : List Str} {m : Nat} (h : m < l.idxOf k) (h2 : m < l.length) : (l[m] == k) = false := by
  induction l generalizing m with
  | nil => cases h2
  | cons x l ih =>
    rw [List.idxOf_cons] at h
    by_cases e : x == k
    · simp [e] at h
    · simp only [e] at h
      cases m with
      | zero => simpa using e
      | succ m =>
        simp only [List.getElem_cons_succ]
        exact ih (by simpa using h) _

theorem listM_sound {a : Addr} {name : Str} {f : Value} {vs : List Value} {Vs : List AV} {k : KV} {Q : Value → Shared → Prop} (R : Rep w fd fx σ s.heap) (ro : RoOk w fd) (hs : Same s₀ s) (hv : Paired AV.is Vs vs)
    (hf : methF .list name = some f) (h : listM fd.ro a name Vs σ k) (q : KQ w fd fx s₀ k Q) : wpAny (model PR w) A (call f (.ref a :: vs)) Q E s := by
  unfold listM at h
  split at h
  · rename_i e; subst e; cases hf
    split at h
    · cases hv with | cons hx hv => cases hv with | nil =>
      obtain ⟨l, hp', W, hl, hk⟩ := h
      obtain ⟨o, ho, vs, n, rfl, hp⟩ := R.wrO W
      refine call_meets F.slot_list_append ⟨_, ho, rfl⟩ F.entry_list_append (F.args_list_append_2 _ _) (PySem.list_append _ vs.toArray n _ (by rw [List.size_toArray, ← hp.length]; exact lim_line hl)) ⟨ho, ?_⟩
      exact q .none _ _ _ rfl (hs.trans (same_hp s _ _)) (update_wr R W ho (vs' := vs ++ [_]) (by simp) (Paired.append hp (.cons hx .nil))) hk
    · exact h.elim
  split at h
  · rename_i e; subst e; cases hf
    split at h
    · cases hv with | nil =>
      obtain ⟨l, V, hp', W, hl, hk⟩ := h
      obtain ⟨o, ho, vs, n, rfl, hp⟩ := R.wrO W
      obtain ⟨vs1, vs2, rfl, hp1, hp2⟩ := Paired.split hp
      cases hp2 with | @cons _ v _ _ hx hp2 => cases hp2 with | nil =>
      have hlen := hp1.length
      refine call_meets F.slot_list_pop ⟨_, ho, rfl⟩ F.entry_list_pop (F.args_list_pop_1 _) (MeetsSeq.list_pop_last _ _ n v (by simp) (by simp; rw [← hlen]; exact Nat.le_trans (Nat.succ_le_succ hl) (by rw [sizeLine_eq]; decide))) ⟨ho, ?_⟩
      refine q V _ _ _ hx (hs.trans (same_hp s _ _)) (update_wr R W ho (vs' := vs1) ?_ hp1) hk
      simp [List.eraseIdx_append_of_length_le]
    · exact h.elim
  split at h
  · rename_i e; subst e; cases hf
    split at h
    · cases hv with | cons hx hv => cases hv with | nil =>
      cases hx
      obtain ⟨l, l', hp', H, W, hl, hk⟩ := h
      obtain ⟨o, ho, vs, n, rfl, hp⟩ := R.wrO W
      have hlen := hp.length
      rcases H with H | H
      · obtain ⟨vs', n', ho', hp2⟩ := has_list R ro H
        have hlen2 := hp2.length
        have hsz : vs.length + vs'.length ≤ lim := by exact lin [_, _, _, _, _] (.le (.a (.v 0) (.v 1)) (.v 2)) 1 (.c 1 (.le (.a (.v 3) (.v 4)) (.v 2)) (.c 1 (.qe (.v 3) (.v 0)) (.c 1 (.qe (.v 4) (.v 1)) .e))) (Eq.refl true) hl hlen hlen2
        refine call_meets F.slot_list_extend ⟨_, ho, rfl⟩ F.entry_list_extend (F.args_list_extend_2 _ _) (AutoSeq1.list_extend_list_list_0 _ vs.toArray n _ vs'.toArray n' ?_ ?_ ?_) ⟨ho, ho', ?_⟩
        · simp only [List.size_toArray]; intro z; rw [Bool.and_eq_true] at z; exact absurd z.2 (notTooLong hsz)
        · simp only [List.size_toArray]; exact lim_line (by exact lin [_, _, _] (.le (.v 0) (.v 1)) 1 (.c 1 (.le (.a (.v 0) (.v 2)) (.v 1)) .e) (Eq.refl true) hsz)
        · simp only [List.size_toArray]; exact Nat.le_succ_of_le (lim_line hsz)
        · exact q .none _ _ _ rfl (hs.trans (same_hp s _ _)) (update_wr R W ho (vs' := vs ++ vs') (by simp) (Paired.append hp hp2)) hk
      · obtain ⟨vs', n', ho', hp2⟩ := has_tuple R ro H
        have hlen2 := hp2.length
        have hsz : vs.length + vs'.length ≤ lim := by exact lin [_, _, _, _, _] (.le (.a (.v 0) (.v 1)) (.v 2)) 1 (.c 1 (.le (.a (.v 3) (.v 4)) (.v 2)) (.c 1 (.qe (.v 3) (.v 0)) (.c 1 (.qe (.v 4) (.v 1)) .e))) (Eq.refl true) hl hlen hlen2
        refine call_meets F.slot_list_extend ⟨_, ho, rfl⟩ F.entry_list_extend (F.args_list_extend_2 _ _) (AutoSeq1.list_extend_list_tuple_0 _ vs.toArray n _ vs'.toArray n' ?_ ?_ ?_) ⟨ho, ho', ?_⟩
        · simp only [List.size_toArray]; intro z; rw [Bool.and_eq_true] at z; exact absurd z.2 (notTooLong hsz)
        · simp only [List.size_toArray]; exact lim_line (by exact lin [_, _, _] (.le (.v 0) (.v 1)) 1 (.c 1 (.le (.a (.v 0) (.v 2)) (.v 1)) .e) (Eq.refl true) hsz)
        · simp only [List.size_toArray]; exact Nat.le_succ_of_le (lim_line hsz)
        · exact q .none _ _ _ rfl (hs.trans (same_hp s _ _)) (update_wr R W ho (vs' := vs ++ vs') (by simp) (Paired.append hp hp2)) hk
    · exact h.elim
  split at h
  · rename_i e; subst e; cases hf
    split at h
    · cases hv with | cons hx hv => cases hv with | nil =>
      obtain ⟨t, rfl⟩ := hx
      obtain ⟨l, H, hl, hm, hk⟩ := h
      rename_i x
      obtain ⟨vs, n, ho, hp⟩ := has_list R ro H
      have hS := strs_of_paired hp
      have hlen := hp.length
      rw [List.length_map] at hlen
      have hj : l.idxOf x < l.length := List.idxOf_lt_length_iff.mpr hm
      refine call_meets F.slot_list_index ⟨_, ho, rfl⟩ F.entry_list_index (F.args_list_index_2 _ _)
        (MeetsSeq.list_index _ vs.toArray n (.str x t) (isStrOf x) (fun y hy => eq_isStrOf x t hS y (by simpa using hy)) (l.idxOf x) (by simp; exact lin [_, _, _] (.lt (.v 0) (.v 1)) 1 (.c 1 (.eq (.v 2) (.v 1)) (.c 1 (.lt (.v 0) (.v 2)) .e)) (Eq.refl true) hlen hj) ?_ ?_ ?_) ⟨ho, ?_⟩
      · unfold lim at hl; omega
      · refine (?_ : isStrOf x vs[l.idxOf x] = true)
        rw [isStrOf_at x hS _ (by exact lin [_, _, _] (.lt (.v 0) (.v 1)) 1 (.c 1 (.eq (.v 2) (.v 1)) (.c 1 (.lt (.v 0) (.v 2)) .e)) (Eq.refl true) hlen hj) hj]
        simpa using List.getElem_idxOf hj
      · intro m hm1 hm2
        refine (?_ : isStrOf x vs[m] = false)
        rw [isStrOf_at x hS _ (by simpa using hm1) (by exact lin [_, _, _] (.lt (.v 0) (.v 1)) 1 (.c 1 (.lt (.v 2) (.v 1)) (.c 1 (.lt (.v 0) (.v 2)) .e)) (Eq.refl true) hj hm2)]
        exact ne_of_lt_idxOf' hm2 _
      · exact q _ _ _ _ (isI _ _) (hs.trans (same_val s _)) R hk
    · exact h.elim
  split at h
  · rename_i e; subst e; cases hf
    split at h
    · cases hv with | nil =>
      obtain ⟨l, hp', W, hl, hk⟩ := h
      obtain ⟨o, ho, vs, n, rfl, hp⟩ := R.wrO W
      refine call_meets F.slot_list_clear ⟨_, ho, rfl⟩ F.entry_list_clear (F.args_list_clear_1 _) (AutoSeq1.list_clear_list_0 _ vs.toArray n (by rw [List.size_toArray, ← hp.length]; exact lim_line hl)) ⟨ho, ?_⟩
      exact q .none _ _ _ rfl (hs.trans (same_hp s _ _)) (update_wr R W ho (vs' := []) (by simp) .nil) hk
    · exact h.elim
  · exact h.elim
end
end Mine
end

section
open PySem PySem.W PyProof.Rows PySem.Calls PySem.Spec
open Sem (wp)
set_option maxRecDepth 100000
namespace Mine
theorem GSame.of_eq {a b : Array GenState} (e : b = a) : GSame a b := e ▸ .refl a

theorem str_of_is {w : World} {k : Str} {v : Value} (h : (strKind PR w).is k v = true) : ∃ t, v = .str k t := by
  cases v with
  | str y t => exact ⟨t, by rw [show y = k from beq_iff_eq.mp h]⟩
  | _ => cases h

theorem slot_dict_len' : typeLookup (.type "dict") "__len__" = pure (some (.builtin "dict.__len__")) := by rw [typeLookup_type, builtinLookup_eq_fast]; kernel_rfl

section
variable {w : World} {A : Around} {E : Value → Shared → Prop} {s : Shared}
theorem strsAre_its : ∀ {kvs : List (Str × Value)} {vs : List Value}, vs.length = kvs.length → (∀ (j : Nat) (v : Value), vs[j]? = some v → ∃ k x, kvs[j]? = some (k, x) ∧ (strKind PR w).is k v = true) → StrsAre vs (kvs.map (·.1))
  | [], [], _, _ => .nil
  | [], _ :: _, h, _ => by simp at h
  | _ :: _, [], h, _ => by simp at h
  | p :: r, v :: vs, h1, h2 => by
    obtain ⟨k, x, e1, e2⟩ := h2 0 v rfl
    simp only [List.getElem?_cons_zero, Option.some.injEq] at e1
    subst e1
    obtain ⟨t, rfl⟩ := str_of_is e2
    exact .cons k t (strsAre_its (by simpa using h1) fun j v hj => h2 (j + 1) v (by simpa using hj))
theorem strsAre_items {kvs : List (Str × Value)} {acc : Array Value} (h : ItemsOf (fun i v => ∃ k x, kvs[i]? = some (k, x) ∧ (strKind PR w).is k v = true) acc kvs.length) : StrsAre acc.toList (kvs.map (·.1)) :=
  strsAre_its (by simpa using h.1) fun j v hj => h.2 j v (by simpa using hj)

theorem collect_dict {d : Addr} {kvs : List (Str × Value)} {Q : List Value → Shared → Prop} (hh : A.handled = none) (hd : (d == sysModules) = false) (hm : s.heap.DictOf (strKind PR w) d kvs) (hsz : kvs.length ≤ 1000)
    (hQ : ∀ vs s', Same s s' → Ext s.heap s'.heap → s.heap.objs.size ≤ s'.heap.objs.size → StrsAre vs (kvs.map (·.1)) → Q vs s') : wpAny (model PR w) A (collect (.ref d)) Q E s := by
  obtain ⟨ep, hat⟩ := hm.dictAt
  have hlt := hat.lt_size
  unfold collect
  refine wpAny_bind (wpAny_runValue (codeAny_builtin F.entry_proto_collect ?_))
  rw [Around.under_plainId F.plain_proto_collect _]
  refine (?_ : wpAny _ A.in1 (newList [] >>= fun l => again (.builtin "list.__iadd__" ⟨[l, .ref d], []⟩)) _ _ s)
  refine wpAny_bind (wpAny_newObj_type ?_)
  refine wpAny_pure ⟨plainId_quiet F.plain_list_iadd _, codeAny_builtin F.entry_list_iadd ?_⟩
  rw [Around.under_plainId F.plain_list_iadd _]
  have hS₁ : (s.heap.push { cls := .type "list", data := .seq ([] : List Value).toArray }).get? s.heap.objs.size = some { cls := .type "list", data := .seq ([] : List Value).toArray } := Heap.get?_push_size _ rfl
  have hat1 : (s.heap.push { cls := .type "list", data := .seq ([] : List Value).toArray }).DictAt (strKind PR w) d kvs ep := hat.push _
  have h1 : Builtin.List.listSameRef (.ref s.heap.objs.size) (.ref d) = false := by simp [Builtin.List.listSameRef]; exact Nat.ne_of_gt hlt
  generalize hG : (s.heap.push { cls := .type "list", data := .seq ([] : List Value).toArray }) = H at *
  have hHs : H.objs.size = s.heap.objs.size + 1 := by rw [← hG, Heap.size_push]
  refine (?_ : wpAny _ A.in1 (Builtin.List.listExtendWith (.ref s.heap.objs.size) (.ref d) (.ref s.heap.objs.size)) _ _ _)
  unfold Builtin.List.listExtendWith
  refine wpAny_bind (wpAny_typeOf (hat1.dictOf.typeIs (s := { s with heap := H })) ?_)
  rw [if_neg (by rw [h1]; decide)]
  refine wpAny_bind (wpAny_pyIter_dict hd hat1 ?_)
  refine wpAny_bind (wpAny_holding ?_)
  have hat2 := hat1.push { cls := .type "dict_keyiterator", data := .fields #[.ref d, .int 0 0, .int kvs.length 0, .int ep 0] }
  have hI2 : (H.push { cls := .type "dict_keyiterator", data := .fields #[.ref d, .int 0 0, .int kvs.length 0, .int ep 0] }).IsKeyIter H.objs.size d 0 kvs.length ep := ⟨_, Heap.get?_push_size _ rfl, rfl, rfl⟩
  have hS2 : (H.push { cls := .type "dict_keyiterator", data := .fields #[.ref d, .int 0 0, .int kvs.length 0, .int ep 0] }).get? s.heap.objs.size = some { cls := .type "list", data := .seq ([] : List Value).toArray } := Heap.get?_push_of_some _ hS₁
  generalize hG2 : (H.push { cls := .type "dict_keyiterator", data := .fields #[.ref d, .int 0 0, .int kvs.length 0, .int ep 0] }) = H2 at *
  unfold Builtin.List.listLengthHint
  refine wpAny_bind (wpAny_specialOf (hat2.dictOf.typeIs (s := { s with heap := H2 })) slot_dict_len' ?_)
  generalize hid : ("dict.__len__" : String) = id0; (fail_if_success (clear hid id0)); wp_delta; rw [show splitId id0 = some ("dict", "__len__") from by subst hid; decide +kernel]; subst hid
  refine wpAny_bind (wpAny_isInstance (b := true) (hat2.dictOf.typeIs (s := { s with heap := H2 })) (by rw [isSubtype_type]; kernel_rfl) ?_)
  rw [if_neg (by decide)]
  dsimp only
  rw [if_pos (by decide +kernel)]
  refine wpAny_bind (wpAny_typeOf (hat2.dictOf.typeIs (s := { s with heap := H2 })) ?_)
  refine wpAny_pure ?_
  rw [if_pos (by decide +kernel)]
  refine wpAny_bind (wpAny_rule (wpAny_bind ?_))
  unfold Builtin.List.listTouch
  have u1 := IsL.update (l := s.heap.objs.size) (items := ([] : List Value).toArray) (n := 0) hS2 (·.push .none)
  refine wpAny_bind (listUpdate_at hS2 rfl ?_ (by simp) (by simp [sizeLine_eq]))
  have u2 := IsL.update u1 (·.pop)
  refine listUpdate_at u1 rfl ?_ (by simp [sizeLine_eq]) (by simp [sizeLine_eq])
  generalize hG3 : (H2.update s.heap.objs.size (Obj.mapSeq (·.push .none))) = H3 at *
  generalize hG4 : (H3.update s.heap.objs.size (Obj.mapSeq (·.pop))) = H4 at *
  have k34 : ExtB s.heap.objs.size H3 H4 := fun b o hb e => by rw [← hG4]; exact (Heap.get?_update_other _ _ hb.symm).trans e
  have k23 : ExtB s.heap.objs.size H2 H3 := fun b o hb e => by rw [← hG3]; exact (Heap.get?_update_other _ _ hb.symm).trans e
  have k12 : Ext H H2 := fun b o e => by rw [← hG2]; exact Heap.get?_push_of_some _ e
  have k01 : Ext s.heap H := fun b o e => by rw [← hG]; exact Heap.get?_push_of_some _ e
  have k24 : ExtB s.heap.objs.size H2 H4 := fun b o hb e => k34 b o hb (k23 b o hb e)
  have k04 : Ext s.heap H4 := fun b o e => k24 b o (Nat.ne_of_lt (Heap.lt_size e)) (k12 _ _ (k01 _ _ e))
  have neI : d ≠ H.objs.size := Nat.ne_of_lt (by rw [hHs]; exact Nat.lt_succ_of_lt hlt)
  have neS : d ≠ s.heap.objs.size := Nat.ne_of_lt hlt
  have neIS : H.objs.size ≠ s.heap.objs.size := by rw [hHs]; exact Nat.succ_ne_self _
  have W := (Walks.dictKeys (knd := strKind PR w) (prog := PR) (w := w) (A := A.in1) hh H.objs.size d neI kvs ep).toS
  have hst : H4.IsKeyIter H.objs.size d 0 kvs.length ep ∧ H4.DictAt (strKind PR w) d kvs ep :=
    ⟨hI2.at fun o e => k24 _ _ neIS e, hat2.at' fun o e => k24 _ _ neS e⟩
  refine wpAny_pure ⟨plainId_quiet F.plain_extend_loop _, codeAny_extend_loopS W (by rw [sizeLine_eq]; exact lin [_] (.le (.v 0) (.n 16777216)) 1 (.c 1 (.le (.v 0) (.n 1000)) .e) (Eq.refl true) hsz) s.heap.objs.size (by simp only [List.mem_cons, List.not_mem_nil, or_false, not_or]; exact ⟨neIS.symm, neS.symm⟩) _ kvs.length 0 _ _ _ rfl (Nat.zero_le _) hst u2 (ItemsOf.nil _) fun s' acc' c' hm' hS' hacc => ?_⟩
  refine (?_ : wpAny _ A (load s.heap.objs.size >>= _) _ _ s')
  refine wpAny_bind (wpAny_load hS' ?_)
  refine wpAny_pure (hQ acc'.toList s' ⟨.of_eq hm'.gens, hm'.drawn, hm'.os⟩ (fun b o e => ?_) (Nat.le_of_lt (Heap.lt_size hS')) (strsAre_items hacc))
  have hb := Heap.lt_size e
  exact hm'.heap b o (by simp only [List.mem_cons, List.not_mem_nil, or_false, not_or]; exact ⟨Nat.ne_of_lt hb, Nat.ne_of_lt (by rw [hHs]; exact Nat.lt_succ_of_lt hb)⟩) (k04 _ _ e)
end
end Mine
end

section
open PySem PySem.W PyProof.Rows PySem.Calls PySem.Spec
open Sem (wp)
set_option maxRecDepth 100000
namespace Mine
section
variable {w : World} {A : Around} {E : Value → Shared → Prop} {s : Shared}
theorem sorted_dict {d : Addr} {kvs : List (Str × Value)} {Q : Value → Shared → Prop} (hh : A.handled = none) (hd : (d == sysModules) = false) (hm : s.heap.DictOf (PySem.strKind PR w) d kvs) (hsz : kvs.length < 64)
    (hQ : ∀ r vs' ss' n s', Same s s' → Ext s.heap s'.heap → s.heap.objs.size ≤ r → s'.heap.get? r = some (LObj vs' n) → StrsAre vs' ss' → ss'.Perm (kvs.map (·.1)) → sortedS ss' = true → Q (.ref r) s') :
    wpAny (model PR w) A (call (.builtin "sorted") [.ref d]) Q E s := by
  refine Calls.call_function_entry kind_sorted plain_sorted entry_sorted (args_sorted1 _) ?_
  unfold Builtin.«sorted»
  refine wpAny_bind (m := checkCount "sorted" 1 1 _) (wpAny_pure ?_)
  refine wpAny_bind (collect_dict hh hd hm (by exact lin [_] (.le (.v 0) (.n 1000)) 1 (.c 1 (.lt (.v 0) (.n 64)) .e) (Eq.refl true) hsz) fun vs s1 hs hk hsz1 hS => ?_)
  refine wpAny_bind (wpAny_newList ?_)
  have hoL : (s1.heap.push (seqObj "list" vs.toArray 0)).get? s1.heap.objs.size = some (seqObj "list" vs.toArray 0) := Heap.get?_push_size _ rfl
  have hlen := hS.length
  rw [List.length_map] at hlen
  refine wpAny_bind (wpAny_holding (wpAny_call_entry slot_list_sort ⟨_, hoL, rfl⟩ entry_list_sort (list_sort_treeK strKind_oneLt hoL hS.keysOf (fun v₁ v₂ rest e => keyKind_strs (by rw [← e]; exact hS)) (by exact lin [_, _] (.lt (.v 0) (.n 64)) 1 (.c 1 (.lt (.v 1) (.n 64)) (.c 1 (.eq (.v 0) (.v 1)) .e)) (Eq.refl true) hsz hlen) fun st' hp hst => ⟨_, rfl, ?_⟩) (args_list_sort _)))
  obtain ⟨ss', h1, h2, h3⟩ := sorted_out_str hS hp hst
  obtain ⟨e, he⟩ := sortedHeap_at (out := (arrOf st').map (·.2)) hoL
  exact wpAny_pure ⟨_, rfl, hQ _ _ ss' e _ ⟨hs.1, hs.2.1, hs.2.2⟩ (fun b o hb => by
    have hb1 := hk b o hb
    have hb2 := Heap.lt_size hb1
    rw [sortedHeap_old (Nat.ne_of_lt hb2) (by rw [size_push']; exact Nat.lt_succ_of_lt hb2), Heap.get?_push_ne _ _ _ (Nat.ne_of_lt hb2)]
    exact hb1) hsz1 he h1 h2 h3⟩
end
end Mine
end

section
open PySem PySem.W PyProof.Rows PySem.Calls PySem.Spec
open Sem (wp)
set_option maxRecDepth 100000
namespace Mine

section
variable {w : World} {A : Around} {E : Value → Shared → Prop} {s s₀ : Shared} {fd : FD} {fx : List (Addr × Obj)} {σ : AS} {K : Frag}

theorem meets_bool_new_list (l : Addr) (items : Array Value) (n : Nat) (hfit : (items.size : Int) < 2 ^ 63) :
    Meets (Builtin.«bool.__new__» ⟨[.type "bool", .ref l], []⟩) (fun _ R s => s.heap.get? l = some { cls := .type "list", data := .seq items n } ∧ ∀ tk, R (.ok (.ret (.bool (!items.isEmpty)))) { s with toks := tk }) :=
  Meets.of_wp fun prog w A R s hs => by
    obtain ⟨hp, g, d, tk, os⟩ := s
    obtain ⟨ho, hs⟩ := hs
    have f1 := F.conv_sub_bool
    have tr : ∀ {A : Around} {E : Value → Shared → Prop} {Q : Bool → Shared → Prop} {tk : Nat}, (∀ tk, Q (!items.isEmpty) ⟨hp, g, d, tk, os⟩) → wpAny (model prog w) A (truthy (.ref l)) Q E ⟨hp, g, d, tk, os⟩ :=
      fun h => wpAny_truthy_list (s := ⟨hp, g, d, _, os⟩) ⟨_, ho, rfl, n, rfl⟩ hfit (h _)
    repeat (any_goals (first | assumption | (with_reducible refine tr fun tk => ?_) | wp_step))
    all_goals first | exact ⟨_, rfl, hs _⟩ | exact hs _ | skip
theorem call_bool_list {l : Addr} {vs : List Value} {n : Nat} {Q : Value → Shared → Prop} (ho : s.heap.get? l = some (LObj vs n)) (hfit : (vs.length : Int) < 2 ^ 63) (h : ∀ tk, Q (.bool (!vs.isEmpty)) { s with toks := tk }) :
    wpAny (model PR w) A (call (.type "bool") [.ref l]) Q E s :=
  call_bool_1 (meets_bool_new_list l vs.toArray n (by simpa using hfit)) (show _ ∧ _ from ⟨ho, fun tk => ⟨rfl, by simpa using h tk⟩⟩)

theorem Rep.back {h : Heap} (R : Rep w fd fx σ h) : ∃ g mf T, Fr g fd.Lf h mf ∧ News g fd.Lf h T ∧ ∀ h', Fr g fd.Lf h' mf → News g fd.Lf h' T → Rep w fd fx σ h' := by
  obtain ⟨g0, GT, mf, own, news, F, N, nd, H, V, hz⟩ := R
  exact ⟨g0, mf, _, F, N, fun h' F' N' => ⟨g0, GT, mf, own, news, F', N', nd, H, V, hz⟩⟩
theorem ints_of_paired : ∀ {l : List Int} {vs : List Value}, Paired AV.is (l.map .int) vs → IntsAre vs l
  | [], _, h => by cases h; exact .nil
  | x :: l, _, h => by
    cases h with
    | cons a t =>
      obtain ⟨t', rfl⟩ := a
      exact .cons x t' (ints_of_paired t)
theorem paired_of_strs : ∀ {l : List Str} {vs : List Value}, StrsAre vs l → Paired AV.is (l.map .str) vs
  | _, _, .nil => .nil
  | _, _, .cons x t h => .cons ⟨t, rfl⟩ (paired_of_strs h)

/-! ### the other methods -/
theorem lookup_getD {K : Type} [DecidableEq K] [BEq K] [LawfulBEq K] {l : List (K × AV)} {kvs : List (K × Value)} (h : Paired kvIs l kvs) (x : K) {D : AV} {d : Value} (hd : D.is d) : ((l.lookup x).getD D).is ((valueAt kvs x).getD d) := by
  rcases valueAt_of h x with ⟨h1, h2⟩ | ⟨V, v, h1, h2, h3⟩
  · rw [h1, h2]; exact hd
  · rw [h1, h2]; exact h3
theorem dictM_sound {a : Addr} {name : Str} {f : Value} {vs : List Value} {Vs : List AV} {k : KV} {Q : Value → Shared → Prop} (R : Rep w fd fx σ s.heap) (ro : RoOk w fd) (hs : Same s₀ s) (hv : Paired AV.is Vs vs)
    (hf : methF .dict name = some f) (h : dictM fd.ro a name Vs σ k) (q : KQ w fd fx s₀ k Q) : wpAny (model PR w) A (call f (.ref a :: vs)) Q E s := by
  unfold dictM at h
  split at h
  · rename_i e; subst e; cases hf
    split at h
    · cases hv with | cons hx hv => cases hv with | nil =>
      obtain ⟨t, rfl⟩ := hx
      obtain ⟨l, H, hk⟩ := h
      obtain ⟨kvs, hd, hp⟩ := has_dict R ro H
      refine call_meetsIn F.slot_dict_get hd.typeIs F.entry_dict_get (F.args_dict_get_2 _ _) (meets_dict_get (PySem.strKind PR w) _ (strKind_is _ _ _ _) (R.hasS ro H)) ⟨_, hd.mapOf, ?_⟩
      exact q _ _ _ _ (lookup_getD hp _ (D := .none) (d := .none) rfl) (hs.trans (same_val s _)) R hk
    · cases hv with | cons hx hv => cases hv with | cons hy hv => cases hv with | nil =>
      obtain ⟨t, rfl⟩ := hx
      obtain ⟨l, H, hk⟩ := h
      obtain ⟨kvs, hd, hp⟩ := has_dict R ro H
      refine call_meetsIn F.slot_dict_get hd.typeIs F.entry_dict_get (F.args_dict_get_3 _ _ _) (meets_dict_get_default (PySem.strKind PR w) _ (strKind_is _ _ _ _) (R.hasS ro H) _) ⟨_, hd.mapOf, ?_⟩
      exact q _ _ _ _ (lookup_getD hp _ hy) (hs.trans (same_val s _)) R hk
    · exact h.elim
  · exact h.elim
theorem idictM_sound {a : Addr} {name : Str} {f : Value} {vs : List Value} {Vs : List AV} {k : KV} {Q : Value → Shared → Prop} (R : Rep w fd fx σ s.heap) (ro : RoOk w fd) (hs : Same s₀ s) (hv : Paired AV.is Vs vs)
    (hf : methF .idict name = some f) (h : idictM fd.ro a name Vs σ k) (q : KQ w fd fx s₀ k Q) : wpAny (model PR w) A (call f (.ref a :: vs)) Q E s := by
  unfold idictM at h
  split at h
  · rename_i e; subst e; cases hf
    split at h
    · cases hv with | cons hx hv => cases hv with | cons hy hv => cases hv with | nil =>
      obtain ⟨t, rfl⟩ := hx
      obtain ⟨l, H, hk⟩ := h
      obtain ⟨kvs, hd, hp⟩ := has_idict R ro H
      refine call_meetsIn F.slot_dict_get hd.typeIs F.entry_dict_get (F.args_dict_get_3 _ _ _) (meets_dict_get_default (intKind PR w) _ (intKind_is _ _ _ _) (R.hasS ro H) _) ⟨_, hd.mapOf, ?_⟩
      exact q _ _ _ _ (lookup_getD hp _ hy) (hs.trans (same_val s _)) R hk
    · exact h.elim
  · exact h.elim
theorem strM_sound {x : Str} {t : Tok} {name : Str} {f : Value} {vs : List Value} {Vs : List AV} {k : KV} {Q : Value → Shared → Prop} (R : Rep w fd fx σ s.heap) (ro : RoOk w fd) (hs : Same s₀ s) (hv : Paired AV.is Vs vs)
    (hf : methF .str name = some f) (h : strM fd.ro x name Vs σ k) (q : KQ w fd fx s₀ k Q) : wpAny (model PR w) A (call f (.str x t :: vs)) Q E s := by
  unfold strM at h
  split at h
  · rename_i e; subst e; cases hf
    split at h
    · cases hv with | cons hx hv => cases hv with | nil =>
      obtain ⟨t', rfl⟩ := hx
      refine call_gives F.slot_str_startswith (typeIs_str _ _ _) F.entry_str_startswith (F.args_str_startswith_2 _ _) (gives_str_startswith _ _ _ _) ?_
      exact q (.bool _) _ _ _ rfl hs R h
    · exact h.elim
  split at h
  · rename_i e; subst e; cases hf
    split at h
    · cases hv with | cons hx hv => cases hv with | nil =>
      cases hx
      obtain ⟨l, H, hl, hk⟩ := h
      obtain ⟨vs, n, ho, hp⟩ := has_list R ro H
      exact join_list (isl ho) (by simpa using strs_of_paired hp) hl fun t' k => q _ _ _ _ (isSt _ _) (hs.trans (same_val s _)) R hk
    · exact h.elim
  · exact h.elim
theorem ssetM_sound {a : Addr} {name : Str} {f : Value} {vs : List Value} {Vs : List AV} {k : KV} {Q : Value → Shared → Prop} (R : Rep w fd fx σ s.heap) (hs : Same s₀ s) (hv : Paired AV.is Vs vs)
    (hf : methF .sset name = some f) (h : ssetM a name Vs σ k) (q : KQ w fd fx s₀ k Q) : wpAny (model PR w) A (call f (.ref a :: vs)) Q E s := by
  unfold ssetM at h
  split at h
  · rename_i e; subst e; cases hf
    split at h
    · cases hv with | cons hx hv => cases hv with | nil =>
      obtain ⟨t, rfl⟩ := hx
      obtain ⟨l, hp', W, hl, hk⟩ := h
      rename_i x
      obtain ⟨o, ho, n, hS, hn⟩ := R.wrO W
      refine call_set_add (strKind_is _ _ x _) rfl (hS.setOf ho (by show n < 4096; exact lin [_, _] (.lt (.v 0) (.n 4096)) 1 (.c 1 (.le (.v 1) (.n 1000)) (.c 1 (.le (.v 0) (.v 1)) .e)) (Eq.refl true) hl hn)) (by show n + 1 < 4096; exact lin [_, _] (.lt (.a (.v 0) (.n 1)) (.n 4096)) 1 (.c 1 (.le (.v 1) (.n 1000)) (.c 1 (.le (.v 0) (.v 1)) .e)) (Eq.refl true) hl hn) fun h' hsb hS' => ?_
      refine q .none _ _ _ rfl (hs.trans (same_hp s _ _)) (R.wr W (sameBut_B hsb) fun o1 _ _ => ?_) hk
      obtain ⟨o', ho', hS''⟩ := hS'.objOf
      refine ⟨o', ho', (if l.contains x then n else n + 1), ?_, ?_⟩
      · have e : (fun k' => l.contains k' || decide (k' = x)) = fun k' => (x :: l).contains k' := by
          funext y
          rw [List.contains_cons, Bool.or_comm]
          congr 1
        rw [e] at hS''; exact hS''
      · simp only [List.length_cons]; split <;> omega
    · exact h.elim
  · exact h.elim

/-! ### builtin functions -/
theorem builtinA_sound {id : String} {vs : List Value} {Vs : List AV} {nh : Bool} {k : KV} {Q : Value → Shared → Prop} (R : Rep w fd fx σ s.heap) (ro : RoOk w fd) (hh : nh = true → A.handled = none) (hs : Same s₀ s) (hv : Paired AV.is Vs vs)
    (h : builtinA fd.ro nh id Vs σ k) (q : KQ w fd fx s₀ k Q) : wpAny (model PR w) A (call (.builtin id) vs) Q E s := by
  unfold builtinA at h
  split at h
  · rename_i e; subst e
    split at h
    · cases hv with | cons hx hv => cases hv with | nil =>
      obtain ⟨t, rfl⟩ := hx
      exact PyProof.Rows.len_str (by have := lim_lt h.1; omega) (q _ _ _ _ (isI _ _) (hs.trans (same_val s _)) R h.2)
    · cases hv with | cons hx hv => cases hv with | nil =>
      cases hx
      rcases h with ⟨l, H, hl, hk⟩ | ⟨l, H, hl, hk⟩ | ⟨l, H, hl, hk⟩
      · obtain ⟨vs, n, ho, hp⟩ := has_list R ro H
        have e := hp.length
        refine Calls.call_len_list (isl ho) (by rw [List.size_toArray, ← e]; exact lim_lt hl) ?_
        rw [List.size_toArray, ← e]
        exact q _ _ _ _ (isI _ _) (hs.trans (same_val s _)) R hk
      · obtain ⟨vs, n, ho, hp⟩ := has_tuple R ro H
        have e := hp.length
        refine len_tuple ⟨_, ho, rfl, n, rfl⟩ (by rw [List.size_toArray, ← e]; exact lim_lt hl) ?_
        rw [List.size_toArray, ← e]
        exact q _ _ _ _ (isI _ _) (hs.trans (same_val s _)) R hk
      · obtain ⟨kvs, hd, hp⟩ := has_dict R ro H
        have e := hp.length
        refine call_len_dict (R.hasS ro H) hd (by rw [← e]; exact lim_lt hl) ?_
        rw [← e]
        exact q _ _ _ _ (isI _ _) (hs.trans (same_val s _)) R hk
    · exact h.elim
  split at h
  · rename_i e; subst e
    split at h
    · cases hv with | cons hx hv => cases hv with | nil =>
      cases hx
      obtain ⟨hnh, l, M, H, hM, hle, hk⟩ := h
      obtain ⟨vs, n, ho, hp⟩ := has_list R ro H
      obtain ⟨g0, mf, T, F, N, back⟩ := R.back
      refine max_list_N (hh hnh) F N (isl ho) (ints_of_paired hp) (List.length_pos_of_mem hM) fun h' M' t tk F' N' hm' hle' => ?_
      have e : M' = M := Int.le_antisymm (hle _ hm') (hle' _ hM)
      rw [e]
      exact q _ _ _ _ (isI _ _) (hs.trans (same_hp s _ _)) (back _ F' N') hk
    · exact h.elim
  split at h
  · rename_i e; subst e
    split at h
    · cases hv with | cons hx hv => cases hv with | nil =>
      cases hx
      obtain ⟨hnh, l, H, hl, hk⟩ := h
      obtain ⟨kvs, hd, hp⟩ := has_dict R ro H
      have e := hp.length
      have ek : kvs.map (·.1) = l.map (·.1) := by
        clear e hd hl hk H
        induction hp with
        | nil => rfl
        | cons a _ ih => rw [List.map_cons, List.map_cons, ih, a.1]
      refine sorted_dict (hh hnh) (R.hasS ro H) hd (by exact lin [_, _] (.lt (.v 0) (.n 64)) 1 (.c 1 (.lt (.v 1) (.n 64)) (.c 1 (.qe (.v 1) (.v 0)) .e)) (Eq.refl true) hl e) fun r vs' ss' n s' hs' hk' hr ho' h1 h2 h3 => ?_
      exact q (.ref r) _ _ _ rfl (hs.trans hs') (R.new (x := .list (ss'.map .str)) hk' hr ho' ⟨vs', n, rfl, paired_of_strs h1⟩) (hk r ss' (ek ▸ h2) h3)
    · exact h.elim
  · exact h.elim
theorem typeA_sound {n : String} {vs : List Value} {Vs : List AV} {k : KV} {Q : Value → Shared → Prop} (R : Rep w fd fx σ s.heap) (ro : RoOk w fd) (hs : Same s₀ s) (hv : Paired AV.is Vs vs)
    (h : typeA fd.ro n Vs σ k) (q : KQ w fd fx s₀ k Q) : wpAny (model PR w) A (call (.type n) vs) Q E s := by
  unfold typeA at h
  split at h
  · rename_i e; subst e
    split at h
    · cases hv with | nil =>
      refine call_set_0 fun led => q (.ref _) _ _ _ rfl (hs.trans (same_hp s _ s.toks)) (rep_push R (x := .sset []) ⟨0, ?_, Nat.le_refl _⟩) (h _)
      exact setObjOf_fresh led
    · exact h.elim
  split at h
  · rename_i e; subst e
    split at h
    · cases hv with | cons hx hv => cases hv with | nil =>
      cases hx
      obtain ⟨l, H, hl, hk⟩ := h
      obtain ⟨vs, n, ho, hp⟩ := has_list R ro H
      refine call_tuple_list (isl ho) (fun h' hk' => ?_) (by rw [List.size_toArray, ← hp.length]; exact lim_line hl)
      exact q (.ref _) _ _ _ rfl (hs.trans (same_hp s _ s.toks)) (rep_push (s := { s with heap := h' }) (R.ext hk') (x := .tuple l) ⟨vs, 0, rfl, hp⟩) (hk _)
    · exact h.elim
  split at h
  · rename_i e; subst e
    split at h
    · cases hv with | cons hx hv => cases hv with | nil =>
      cases truA_inv h with
      | none h => cases hx; exact call_bool_none (q (.bool _) _ _ _ rfl hs R h)
      | bool b h => cases hx; exact call_bool_bool (q (.bool _) _ _ _ rfl hs R h)
      | ref a h =>
        cases hx
        obtain ⟨l, H, hl, hk⟩ := h
        obtain ⟨vs, n, ho, hp⟩ := has_list R ro H
        refine call_bool_list ho (by rw [← hp.length]; exact lim_lt hl) fun tk => ?_
        have e : vs.isEmpty = l.isEmpty := by cases hp <;> rfl
        rw [e]
        exact q (.bool _) _ _ _ rfl (hs.trans (same_val s _)) R hk
    · exact h.elim
  · exact h.elim
end
end Mine
end

section
open PySem PySem.W PyProof.Rows PySem.Calls PySem.Spec
open Sem (wp)
set_option maxRecDepth 100000
namespace Mine
namespace LF
theorem typeOf_next : typeOf (.builtin "list_iterator.__next__") = pure (.type "wrapper_descriptor") := by show builtinType _ = _; rw [builtinType_eq_fast]; kernel_rfl
theorem lk_next : typeLookup (.type "list_iterator") "__next__" = pure (some (.builtin "list_iterator.__next__")) := by rw [typeLookup_type, builtinLookup_eq_fast]; kernel_rfl
theorem slot_ga : Slot "list_iterator" "__getattribute__" "object.__getattribute__" :=
  .of (owner := "object") (n := "__getattribute__") (by rw [typeLookup_type, builtinLookup_eq_fast]; kernel_rfl) (by decide +kernel) (by decide +kernel) (by decide +kernel)
    (by first | exact .inl (by decide +kernel) | exact .inr (by decide +kernel)) (by rw [isSubtype_type]; kernel_rfl)
theorem slot_wget : Slot "wrapper_descriptor" "__get__" "wrapper_descriptor.__get__" :=
  .of (owner := "wrapper_descriptor") (n := "__get__") (by rw [typeLookup_type, builtinLookup_eq_fast]; kernel_rfl) (by decide +kernel) (by decide +kernel) (by decide +kernel)
    (by first | exact .inl (by decide +kernel) | exact .inr (by decide +kernel)) (by rw [isSubtype_type]; kernel_rfl)
theorem noset : typeLookup (.type "wrapper_descriptor") "__set__" = pure none := by rw [typeLookup_type, builtinLookup_eq_fast]; kernel_rfl
theorem nodel : typeLookup (.type "wrapper_descriptor") "__delete__" = pure none := by rw [typeLookup_type, builtinLookup_eq_fast]; kernel_rfl
theorem entry_wget : entryFor table "wrapper_descriptor.__get__" = some Builtin.«wrapper_descriptor.__get__» := entryFor_of_tree (by kernel_rfl)
theorem args_wget (a b c : Value) : argsOk "wrapper_descriptor.__get__" ⟨[a, b, c], []⟩ := by unfold argsOk; kernel_rfl
theorem entry_oga : entryFor table "object.__getattribute__" = some Builtin.«object.__getattribute__» := entryFor_of_tree (by kernel_rfl)
theorem args_oga (a b : Value) : argsOk "object.__getattribute__" ⟨[a, b], []⟩ := by unfold argsOk; kernel_rfl
theorem sub_li : isSubtype (.type "list_iterator") (.type "list_iterator") = pure true := by rw [isSubtype_type]; kernel_rfl
theorem no_getattr : typeLookup (.type "list_iterator") "__getattr__" = pure none := by rw [typeLookup_type, builtinLookup_eq_fast]; kernel_rfl
theorem owner_next : (".".intercalate ("list_iterator.__next__".cutAt '.').dropLast) = "list_iterator" := by
  have e0 : "list_iterator.__next__".cutAt '.' = ["list_iterator", "__next__"] := by first | rfl | decide +kernel
  rw [e0]; decide +kernel
theorem sub_owner : isSubtype (.type "list_iterator") (.type (".".intercalate ("list_iterator.__next__".cutAt '.').dropLast)) = pure true := by
  rw [owner_next]; exact sub_li
end LF
noncomputable abbrev mwObj (it : Addr) : Obj := { cls := .type "method-wrapper", data := .fields #[.builtin "list_iterator.__next__", .ref it] }
section
variable {prog : Program} {w : World} {A : Around} {E : Value → Shared → Prop} {h : Heap} {g : Array GenState} {d : Drawn} {t : Nat} {os : OsState} {a : Addr} {o : Obj}
theorem mw_get {R : Result → Shared → Prop} (hx : h.get? a = some o) (hc : o.cls = .type "list_iterator") (hq : R (.ok (.ret (.ref h.objs.size))) ⟨h.push (mwObj a), g, d, t, os⟩) :
    codeAny (model prog w) A (.call (.builtin "wrapper_descriptor.__get__") ⟨[.builtin "list_iterator.__next__", .ref a, .type "list_iterator"], []⟩) R ⟨h, g, d, t, os⟩ := by
  have hT : (⟨h, g, d, t, os⟩ : Shared).TypeIs (.ref a) "list_iterator" := ⟨_, hx, hc⟩
  have hT5 : (⟨h, g, d, t, os⟩ : Shared).TypeIs (.builtin "list_iterator.__next__") "wrapper_descriptor" := LF.typeOf_next
  have f8 := LF.sub_owner
  refine codeAny_call_builtin LF.slot_wget.plain LF.entry_wget (LF.slot_wget.check _ _ _ _ _ _ _ _ hT5 (LF.args_wget _ _ _) ?_)
  repeat (any_goals (first | assumption | wp_step))

theorem next_entry {fs : Array Value} {tk : Tok} {Q : Fin → Shared → Prop} (hx : h.get? a = some { cls := .type "list_iterator", data := .fields fs }) (hq : Q (.done (.ret (.ref h.objs.size))) ⟨h.push (mwObj a), g, d, t, os⟩) :
    wpAny (model prog w) A (Builtin.«object.__getattribute__» ⟨[.ref a, .str "__next__" tk], []⟩) Q E ⟨h, g, d, t, os⟩ := by
  have hT : (⟨h, g, d, t, os⟩ : Shared).TypeIs (.ref a) "list_iterator" := ⟨_, hx, rfl⟩
  have hT5 : (⟨h, g, d, t, os⟩ : Shared).TypeIs (.builtin "list_iterator.__next__") "wrapper_descriptor" := LF.typeOf_next
  have f4 := LF.lk_next
  have f5 := LF.typeOf_next
  have f6 := LF.slot_wget.lookup
  have f7 := LF.noset
  have f9 := LF.nodel
  repeat (any_goals (first | assumption | wp_step))
  refine mw_get hx rfl ?_
  repeat (any_goals (first | assumption | wp_step))

theorem next_call {fs : Array Value} {tk : Tok} {R : Result → Shared → Prop} (hx : h.get? a = some { cls := .type "list_iterator", data := .fields fs }) (hq : R (.ok (.ret (.ref h.objs.size))) ⟨h.push (mwObj a), g, d, t, os⟩) :
    codeAny (model prog w) A (.call (.builtin "object.__getattribute__") ⟨[.ref a, .str "__next__" tk], []⟩) R ⟨h, g, d, t, os⟩ :=
  codeAny_call_builtin LF.slot_ga.plain LF.entry_oga (LF.slot_ga.check _ _ _ _ _ _ _ _ (show (⟨h, g, d, t, os⟩ : Shared).TypeIs (.ref a) "list_iterator" from ⟨_, hx, rfl⟩) (LF.args_oga _ _) (next_entry hx hq))

theorem next_attr {fs : Array Value} {e : Bool} {Q : Value → Shared → Prop} (hx : h.get? a = some { cls := .type "list_iterator", data := .fields fs }) (hq : Q (.ref h.objs.size) ⟨h.push (mwObj a), g, d, t + 1, os⟩) :
    wpAny (model prog w) A (getAttr (.ref a) "__next__" e) Q E ⟨h, g, d, t, os⟩ := by
  have hT : ∀ t, (⟨h, g, d, t, os⟩ : Shared).TypeIs (.ref a) "list_iterator" := fun _ => ⟨_, hx, rfl⟩
  have f2 := LF.slot_ga.lookup
  have f3 := LF.slot_ga.bind (.ref a)
  have f4 := LF.no_getattr
  unfold getAttr getAttrBy
  repeat (any_goals (first | assumption | exact hT _ | wp_step))
  rw [if_neg (by cases e <;> decide)]
  unfold boundAndCalled
  repeat (any_goals (first | assumption | exact hT _ | wp_step))
  refine next_call hx ?_
  repeat (any_goals (first | assumption | exact hT _ | wp_step))

theorem bound_ok (a : Addr) : checkBoundCall "list_iterator.__next__" ⟨[.ref a], []⟩ = pure () := by
  kernel_rfl
theorem mw_call {p it : Addr} {R : Result → Shared → Prop} {s : Shared} (ho : s.heap.get? p = some (mwObj it)) (h : codeAny (model prog w) A (.builtin "list_iterator.__next__" ⟨[.ref it], []⟩) R s) :
    codeAny (model prog w) A (.call (.ref p) ⟨[], []⟩) R s := by
  obtain ⟨hh, g, dr, t, os⟩ := s
  refine codeAny_of_tree ?_
  refine (?_ : wpAny _ _ (callAny (.ref p) _) _ _ _)
  dsimp only at ho
  simp only [callAny]
  refine wpAny_bind (wpAny_load ho ?_)
  dsimp only
  rw [if_pos (by decide)]
  show wpAny _ _ (if (Value.type "method-wrapper" != Value.type "method") = true then (do
    checkBoundCall "list_iterator.__next__" { pos := [.ref it] }
    again (Code.builtin "list_iterator.__next__" { pos := [.ref it] })) else _) _ _ _
  rw [if_pos (by decide), bound_ok]
  exact wpAny_bind (wpAny_pure (wpAny_pure ⟨Code.quiet_builtin _ (by decide +kernel), h⟩))

noncomputable abbrev liObj (l : Addr) (i : Nat) : Obj := { cls := .type "list_iterator", data := .fields #[.ref l, .int i 0] }
theorem li_item {it l : Addr} {i n : Nat} {vs : List Value} {x : Value} {R : Result → Shared → Prop} {s : Shared} (ho : s.heap.get? it = some (liObj l i)) (hl : s.heap.get? l = some (LObj vs n)) (hx : vs[i]? = some x)
    (hq : ∀ h', h'.get? it = some (liObj l (i + 1)) → Heap.SameBut it s.heap h' → R (.ok (.ret x)) { s with heap := h' }) :
    codeAny (model prog w) A (.builtin "list_iterator.__next__" ⟨[.ref it], []⟩) R s := by
  refine codeAny_builtin entry_listiter_next ?_
  refine (?_ : wpAny _ _ (field (.ref it) 0 >>= _) _ _ s)
  refine wpAny_bind (wpAny_field ho rfl (x := .ref l) rfl ?_)
  refine (?_ : wpAny _ _ (if (Value.ref l == Value.none) = true then _ else _) _ _ s)
  rw [if_neg (show ¬ ((Value.ref l == Value.none) = true) from Bool.false_ne_true)]
  refine (?_ : wpAny _ _ (field (.ref it) 1 >>= _) _ _ s)
  refine wpAny_bind (wpAny_field ho rfl (x := .int i 0) rfl ?_)
  refine (?_ : wpAny _ _ (seqItems? (.ref l) >>= _) _ _ s)
  refine wpAny_bind (wpAny_seqItems hl rfl ?_)
  have hx' : vs.toArray[i]? = some x := by simpa using hx
  simp only [Int.toNat_natCast, hx']
  refine wpAny_bind (wpAny_setField_rec ho (by simp) fun h' he' hs' => wpAny_pure (hq h' ?_ hs'))
  refine he'.trans ?_
  simp [rawInt]

theorem li_end {it l : Addr} {i n : Nat} {vs : List Value} {R : Result → Shared → Prop} {s : Shared} (hh : A.handled = none) (ho : s.heap.get? it = some (liObj l i)) (hl : s.heap.get? l = some (LObj vs n)) (hx : vs[i]? = none)
    (hq : ∀ e hm h' o oe vs a0, Heap.SameBut it s.heap hm → hm.get? it = some o → (∀ v, o.data ≠ .cell v) → (∀ b o, hm.get? b = some o → h'.get? b = some o) → hm.objs.size ≤ e → h'.get? e = some oe → oe.cls = .type "StopIteration" → oe.data = .fields vs → vs[1]? = some .none → vs[0]? = some a0 → R (.error (.ref e)) { s with heap := h' }) :
    codeAny (model prog w) A (.builtin "list_iterator.__next__" ⟨[.ref it], []⟩) R s := by
  refine codeAny_builtin entry_listiter_next ?_
  refine (?_ : wpAny _ _ (field (.ref it) 0 >>= _) _ _ s)
  refine wpAny_bind (wpAny_field ho rfl (x := .ref l) rfl ?_)
  refine (?_ : wpAny _ _ (if (Value.ref l == Value.none) = true then _ else _) _ _ s)
  rw [if_neg (show ¬ ((Value.ref l == Value.none) = true) from Bool.false_ne_true)]
  refine (?_ : wpAny _ _ (field (.ref it) 1 >>= _) _ _ s)
  refine wpAny_bind (wpAny_field ho rfl (x := .int i 0) rfl ?_)
  refine (?_ : wpAny _ _ (seqItems? (.ref l) >>= _) _ _ s)
  refine wpAny_bind (wpAny_seqItems hl rfl ?_)
  have hx' : vs.toArray[i]? = none := by simpa using hx
  simp only [Int.toNat_natCast, hx']
  refine wpAny_bind (wpAny_rule (wpAny_bind (wpAny_setField ho rfl (by simp) ?_)))
  refine (?_ : wpAny _ _ (newExc (.type "StopIteration") [] >>= _) _ _ _)
  refine wpAny_bind ?_
  simp only [newExc, newTuple]
  refine wpAny_bind (wpAny_newObj_type ?_ (by size_fits))
  refine wpAny_bind (m := firstArgMember _ _) (wpAny_of_eq (a := Value.none) (by first | rfl | (simp only [firstArgMember]; rfl)) ?_)
  refine wpAny_newObj_type ?_ (by size_fits)
  simp only [raiseNew]
  refine wpAny_bind (wpAny_handled ?_)
  rw [show (A.under (Code.builtin "list_iterator.__next__" { pos := [Value.ref it] })).handled = none from hh]
  have hit : it < s.heap.objs.size := Heap.lt_size ho
  have u := Heap.get?_update_self (Obj.mapFields (·.setIfInBounds 0 Value.none)) ho rfl
  refine wpAny_throw (hq _ _ _ _ _ _ _ (Heap.SameBut.update ..) u (fun v z => by cases z) (fun b o e => Heap.get?_push_of_some _ (Heap.get?_push_of_some _ e)) ?_ (Heap.get?_push_size _ rfl) rfl rfl rfl rfl)
  rw [Heap.size_push]
  exact Nat.le_succ _

theorem kind_iter : builtinKind "iter" = none := by decide +kernel
theorem plain_iter : plainId "iter" = true := by decide +kernel
theorem entry_iter : entryFor table "iter" = some Builtin.«iter» := entryFor_of_tree (by kernel_rfl)
theorem args_iter (a : Value) : argsOk "iter" ⟨[a], []⟩ := by unfold argsOk; kernel_rfl
theorem iter_list {l : Addr} {vs : List Value} {n : Nat} {s : Shared} {Q : Value → Shared → Prop} (hl : s.heap.get? l = some (LObj vs n)) (h : Q (.ref s.heap.objs.size) { s with heap := s.heap.push (liObj l 0) }) :
    wpAny (model prog w) A (call (.builtin "iter") [.ref l]) Q E s := by
  refine Calls.call_function_entry kind_iter plain_iter entry_iter (args_iter _) ?_
  unfold Builtin.«iter»
  refine wpAny_bind (m := someArgs "iter" 1 2 _) (wpAny_pure ?_)
  dsimp only
  exact wpAny_bind (wpAny_pyIter_list (isl hl) (wpAny_pure ⟨_, rfl, h⟩))
end
end Mine
end

section
open PySem PySem.W PyProof.Rows PySem.Calls PySem.Spec
open Sem (wp)
set_option maxRecDepth 100000
namespace Mine

theorem zip_lookup {α : Type} : ∀ {ns : List Str} {vs : List α}, ns.length = vs.length → ∀ n ∈ ns, ((ns.zip vs).lookup n).isSome = true
  | [], _, _, n, h => nomatch h
  | x :: ns, [], h, _, _ => by simp at h
  | x :: ns, v :: vs, h, n, hn => by
    rw [List.zip_cons_cons, List.lookup_cons]
    by_cases e : n = x
    · subst e; simp
    · rw [beq_eq_false_iff_ne.mpr e]
      rcases List.mem_cons.mp hn with q | q
      · exact absurd q e
      · exact zip_lookup (by simpa using h) n q
theorem zip_back {α : Type} : ∀ {ns : List Str} {vs : List α}, ns.length = vs.length → ns.Nodup → (ns.filterMap fun n => ((ns.zip vs).lookup n).map (n, ·)) = ns.zip vs
  | [], _, _, _ => rfl
  | x :: ns, [], h, _ => by simp at h
  | x :: ns, v :: vs, h, nd => by
    rw [List.nodup_cons] at nd
    rw [List.zip_cons_cons, List.filterMap_cons]
    simp only [List.lookup_cons, beq_self_eq_true, Option.map_some]
    congr 1
    have h2 := zip_back (ns := ns) (vs := vs) (by simpa using h) nd.2
    conv => rhs; rw [← h2]
    clear h2 h
    have key : ∀ l : List Str, (∀ n ∈ l, n ≠ x) → (l.filterMap fun n => (match n == x with | true => some v | false => List.lookup n (ns.zip vs)).map (n, ·)) = l.filterMap fun n => (List.lookup n (ns.zip vs)).map (n, ·) := by
      intro l
      induction l with
      | nil => intro _; rfl
      | cons y l ih =>
        intro hl
        rw [List.filterMap_cons, List.filterMap_cons, ih fun n hn => hl n (.tail _ hn), beq_eq_false_iff_ne.mpr (hl y (.head _))]
    exact key ns fun n hn e => nd.1 (e ▸ hn)

section
variable {M : Model} {A : Around} {E : Value → Shared → Prop} {s : Shared}
theorem loop_dflt {slots : List (Str × Value)} {Q : List (Str × Value) → Shared → Prop} (hq : Q slots s) : ∀ (l : List (Str × Value)), (∀ p ∈ l, (slots.lookup p.1).isSome = true) →
    wpAny M A (forIn l slots fun x r => if (List.lookup x.1 r).isNone = true then pure (ForInStep.yield (r ++ [(x.1, x.2)])) else pure (ForInStep.yield r)) Q E s
  | [], _ => wpAny_pure hq
  | p :: l, h => by
    obtain ⟨n, d⟩ := p
    rw [List.forIn_cons]
    have h1 := h (n, d) (.head _)
    have e : (List.lookup n slots).isNone = false := by
      cases q : List.lookup n slots with
      | none => simp only at h1; rw [q] at h1; cases h1
      | some v => rfl
    simp only [e, Bool.false_eq_true, if_false]
    exact wpAny_bind (wpAny_pure (loop_dflt hq l fun q hq => h q (.tail _ hq)))

inductive BForm (fd : FuncData) (ns : List Str) (all : List Value) : Prop
  | mk (X1 X2 : Option (Array Value) → Sem (List (Str × Value))) (i1 i2 : Option (Array Value) → Nat) (l3 : Option (Array Value) → List Value)
    (e : bindArgs fd ⟨all, []⟩ =
      (seqItems? fd.defaults >>= fun it => if (decide (all.length > ns.length) && fd.params.vararg.isNone) = true then X1 it else
        if (!((ns.take (i1 it)).filter fun n => ((ns.zip all).lookup n).isNone).isEmpty) = true then X2 it else
        (forIn ((ns.drop (i2 it)).zip (l3 it)) (ns.zip all) fun x r => if (List.lookup x.1 r).isNone = true then pure (ForInStep.yield (r ++ [(x.1, x.2)])) else pure (ForInStep.yield r)) >>= fun slots =>
        match fd.params.vararg with
        | some a => newTuple (all.drop ns.length) >>= fun t => pure ((ns ++ []).filterMap (fun n => (slots.lookup n).map (n, ·)) ++ [(a.arg, t)])
        | _ => pure ((ns ++ []).filterMap fun n => (slots.lookup n).map (n, ·))))
theorem bind_form : ∀ (fd : FuncData) {ns : List Str} (_ : fd.params.posonlyargs = []) (_ : fd.params.args.map (·.arg) = ns) (_ : fd.params.kwonlyargs = []) (_ : fd.params.kwarg = none) (all : List Value), BForm fd ns all := by
  rintro ⟨f1, f2, ⟨p1, p2, p3, p4, p5, p6, p7⟩, f4, f5, f6, f7, f8, f9, f10, f11, f12, f13, f14, f15⟩ ns hp ha hk hkw all
  cases hp; cases hk; cases hkw; cases ha
  exact .mk _ _ (fun _ => _) (fun _ => _) (fun _ => _) rfl
theorem bind_gen {fd : FuncData} {ns : List Str} {vs rest : List Value} {items : Option (Array Value)} {Q : List (Str × Value) → Shared → Prop}
    (hp : fd.params.posonlyargs = []) (ha : fd.params.args.map (·.arg) = ns) (hk : fd.params.kwonlyargs = []) (hkw : fd.params.kwarg = none) (nd : ns.Nodup)
    (hd : ∀ (Q : Option (Array Value) → Shared → Prop), Q items s → wpAny M A (seqItems? fd.defaults) Q E s)
    (hl : ns.length = vs.length) (hv : fd.params.vararg = none → rest = []) (hr : rest.length ≤ lim)
    (h : match fd.params.vararg with
      | none => Q (ns.zip vs) s
      | some a => Q (ns.zip vs ++ [(a.arg, .ref s.heap.objs.size)]) { s with heap := s.heap.push { cls := .type "tuple", data := .seq rest.toArray } }) :
    wpAny M A (bindArgs fd ⟨vs ++ rest, []⟩) Q E s := by
  obtain ⟨X1, X2, i1, i2, l3, e⟩ := bind_form fd hp ha hk hkw (vs ++ rest)
  refine (Eq.symm e) ▸ ?_
  have ez : ns.zip (vs ++ rest) = ns.zip vs := by
    rw [← List.append_nil ns, List.zip_append hl]; simp
  rw [ez]
  refine wpAny_bind (hd _ ?_)
  rw [if_neg (by
    cases hva : fd.params.vararg with
    | none => rw [hv hva]; simp [hl]
    | some a => simp)]
  have ef : ∀ k, (List.filter (fun n => (List.lookup n (ns.zip vs)).isNone) (List.take k ns)) = [] := fun k => by
    rw [List.filter_eq_nil_iff]
    intro n hn
    have := zip_lookup (vs := vs) hl n (List.mem_of_mem_take hn)
    cases q : List.lookup n (ns.zip vs) with
    | none => rw [q] at this; cases this
    | some v => simp
  rw [ef, if_neg (by simp)]
  refine wpAny_bind (loop_dflt (slots := ns.zip vs) ?_ _ fun p hp' => zip_lookup hl _ (List.mem_of_mem_drop (List.of_mem_zip hp').1))
  rw [List.append_nil, zip_back hl nd]
  have ed : List.drop ns.length (vs ++ rest) = rest := by rw [hl]; simp
  rw [ed]
  cases hva : fd.params.vararg with
  | none => rw [hva] at h; exact wpAny_pure h
  | some a =>
    rw [hva] at h
    exact wpAny_bind (wpAny_newObj_type (wpAny_pure h) (by show rest.toArray.size ≤ sizeLine; rw [List.size_toArray]; exact lim_line hr))
end
end Mine
end

section
open PySem PySem.W PyProof.Rows PySem.Calls PySem.Spec
open Sem (wp)
set_option maxRecDepth 100000
namespace Mine

noncomputable def fnNames (F : Fn) : List Str := F.params.args.map (·.arg)
noncomputable def fnBind (F : Fn) : List Str := fnNames F ++ (F.params.vararg.map (·.arg)).toList
noncomputable def fnChk (F : Fn) : Bool :=
  F.params.posonlyargs.isEmpty && F.params.kwonlyargs.isEmpty && F.params.kwarg.isNone && decide ((fnBind F).Nodup) && F.scope.kind == .function && !F.scope.isGenerator && !F.scope.isCoroutine &&
  ((fnBind F).all fun x => F.scope.names.lookup x == some .local || F.scope.names.lookup x == some .cell) && decide ((F.scope.names.map (·.1)).Nodup) &&
  (F.scope.names.all fun p => p.1 != ("__debug__" : Str) && p.1 != ("__classdict__" : Str))

noncomputable def lenEq {α β : Type} : List α → List β → Bool
  | [], [] => true
  | _ :: a, _ :: b => lenEq a b
  | _, _ => false
theorem lenEq_eq {α β : Type} : ∀ {a : List α} {b : List β}, lenEq a b = true → a.length = b.length
  | [], [], _ => rfl
  | _ :: _, _ :: _, h => congrArg (· + 1) (lenEq_eq h)
  | [], _ :: _, h => nomatch h
  | _ :: _, [], h => nomatch h
noncomputable def bindA (F : Fn) (vs : List AV) (hp : List (Addr × AO)) (k : List (Str × AV) → List (Addr × AO) → Prop) : Prop := match F.params.vararg with
  | none => On (lenEq (fnNames F) vs) (k ((fnNames F).zip vs) hp)
  | some a => (fnNames F).length ≤ vs.length ∧ vs.length ≤ lim ∧ ∀ r, k ((fnNames F).zip (vs.take (fnNames F).length) ++ [(a.arg, .ref r)]) ((r, .tuple (vs.drop (fnNames F).length)) :: hp)
noncomputable def stepC (m : Sm) (P : Prm) (f : Addr) (vs : List AV) (hp : List (Addr × AO)) (k : AV → List (Addr × AO) → Prop) : Prop := match fnAt f with
  | some F => bindA F vs hp fun loc hp => m.B ⟨F.scope, P.ro, P.nh, false⟩ F.body ⟨loc, hp⟩ fun fl σ => match fl with
    | .next => k .none σ.hp
    | .ret v => k v σ.hp
    | _ => False
  | none => False

noncomputable def sem : Nat → Sm
  | 0 => ⟨fun _ _ _ _ => False, fun _ _ _ _ _ => False, fun _ _ _ _ => False, fun _ _ _ _ _ => False, fun _ _ _ _ => False, fun _ _ _ _ => False, fun _ _ _ _ => False, fun _ _ _ _ _ => False⟩
  | n + 1 => ⟨stepE (sem n), stepQ (sem n), stepT (sem n), stepTT (sem n), stepA (sem n), stepS (sem n), stepB (sem n), stepC (sem n)⟩

/-! ## the context -/
noncomputable def GlobIn (K : Frag) (p : Str × Value) : Prop := nsIn K mainGlobals p.1 = some (some p.2) ∨ (nsIn K mainGlobals p.1 = some none ∧ bootBuiltins p.1 = some p.2 ∧ p.1 ≠ "__name__")
inductive FnIn (K : Frag) (f : Addr) : Prop
  | mk (F : Fn) (hF : fnAt f = some F) (chk : fnChk F = true) (fo : Obj) (dV kV doc pm : Value) (an : Option Addr) (cdv ct : Value) (h1 : K.lookup f = some fo) (h2 : fo.data = .func (fnX F.name F.qual F.params F.body F.scope [] dV kV doc pm an cdv ct))
    (h3 : codeIn K cdv F.qual = true) (h4 : dV = .none ∨ ∃ T o xs n, dV = .ref T ∧ K.lookup T = some o ∧ o.data = .seq xs n)
noncomputable def genChk (F : Fn) : Bool :=
  F.params.posonlyargs.isEmpty && F.params.kwonlyargs.isEmpty && F.params.kwarg.isNone && F.params.vararg.isNone && F.scope.kind == .function && F.scope.isGenerator && !F.scope.isCoroutine && fnNames F == [("self" : Str)] &&
  F.scope.names.lookup ("self" : Str) == some .local && F.scope.names.lookup ("node_group" : Str) == some .local && (F.scope.names.all fun p => p.2 != .cell) && (F.scope.names.all fun p => p.1 != ("__debug__" : Str) && p.1 != ("__classdict__" : Str))
inductive GenIn (K : Frag) : Prop
  | mk (F : Fn) (hF : gFn = some F) (chk : genChk F = true) (fo : Obj) (dV kV doc pm : Value) (an : Option Addr) (cdv ct : Value) (h1 : K.lookup 127 = some fo) (h2 : fo.data = .func (fnX F.name F.qual F.params F.body F.scope [] dV kV doc pm an cdv ct))
    (h3 : codeIn K cdv F.qual = true) (h4 : dV = .none ∨ ∃ T o xs n, dV = .ref T ∧ K.lookup T = some o ∧ o.data = .seq xs n)
inductive CycIn (K : Frag) : Prop
  | mk (nm q N bs hdct sn sub ab col dd k0 k1 k2 k3 k5 : _) (h : K.lookup 48 = some (excClassObj nm q 48 N bs [.type "ValueError", .type "Exception", .type "BaseException", .type "object"] hdct sn sub ab col dd k0 k1 k2 k3 k5 "ValueError.__new__"))
    (oN : Obj) (es : Array DictEntry) (n : Nat) (h1 : K.lookup N = some oN) (h2 : oN.data = .dict es n) (h3 : StrKeys es) (h4 : nsFind es "__init__" = none)
structure KFns (K : Frag) : Prop where
  gen : GenIn K
  cyc : CycIn K
  gl : ∀ p ∈ globs, GlobIn K p
  fn : ∀ p ∈ ft, FnIn K p.1
  mk33 : makesIn K 33 = true ∧ findIn K (.ref 33) "__init__" = some (some (.ref 29)) ∧ typeIn K (.ref 29) = some (.type "function")
  mk130 : makesIn K 130 = true ∧ findIn K (.ref 130) "__init__" = some (some (.ref 66)) ∧ typeIn K (.ref 66) = some (.type "function")

structure KMs (K : Frag) : Prop where
  kp : ∀ f ∈ 33 :: 130 :: ft.map (·.1), keepIn K (.ref f) = true
  kg : keepIn K (.ref 127) = true
  bm : ∀ p ∈ meths, specialIn K (.ref p.2) "__get__" = some (some (.builtin "function.__get__")) ∧ takesIn K (.ref p.2) = some false ∧ copiedNames.contains p.1 = false ∧ fnIn K p.2 = true

structure Fits (P : Prm) (fd : FD) : Prop where
  ro : P.ro = fd.ro
  sc : fd.env.scope = P.sc
  kd : P.sc.kind = .function
  gl : fd.env.globals = mainGlobals
  bl : fd.env.builtins = builtinsNs
  mode : P.comp = fd.mode.isSome
  cells : ∀ x, P.sc.names.lookup x = some .cell ∨ (P.comp = true ∧ P.sc.names.lookup x = some .free) → (fd.env.cells.lookup x).isSome = true
  nm : (P.sc.names.all fun p => p.1 != ("__debug__" : Str) && p.1 != ("__classdict__" : Str)) = true

inductive TopE (Gr : Heap → Prop) : Prop
  | mk (p : Program) (loose : List Str) (mg mb : Str → Option Value) (h : ∀ g, Gr g → TopRead p loose mg mb g)
inductive FrE (fd : FD) (fr : Option (List Env)) : Prop
  | mk (A₀ : Around) (base : Heap) (outer : List Env) (fenv : Env) (B : ∀ g, fd.Gr g → Below A₀ base outer g) (hfs : fd.fs = outer.filterMap (·.frame)) (hA : fr = some (fenv :: outer)) (hf : fenv.frame = some fd.Lf) (hke : fenv.scope.kind = .function) (hfe : fd.mode = none → fenv = fd.env)
structure Cx (w : World) (K : Frag) (P : Prm) (fd : FD) (A : Around) (n : Nat) : Prop where
  fit : Fits P fd
  X : ∀ g, fd.Gr g → K.In g
  KF : KFacts K
  KN : KFns K
  KM : KMs K
  ro : RoOk w fd
  top : TopE fd.Gr
  un : A.units + 32 * n + 200 < cLine
  dp : A.depth + 4 * n + 100 < recursionLimit
  nh : P.nh = true → A.handled = none
  fr : FrE fd A.frames

theorem Cx.le {w : World} {K : Frag} {P : Prm} {fd : FD} {A : Around} {n m : Nat} (C : Cx w K P fd A n) (h : m ≤ n) : Cx w K P fd A m :=
  ⟨C.fit, C.X, C.KF, C.KN, C.KM, C.ro, C.top, by have := C.un; exact lin [_, _, _, _] (.lt (.a (.a (.v 0) (.m 32 (.v 1))) (.n 200)) (.v 2)) 1 (.c 32 (.le (.v 1) (.v 3)) (.c 1 (.lt (.a (.a (.v 0) (.m 32 (.v 3))) (.n 200)) (.v 2)) .e)) (Eq.refl true) h this, by have := C.dp; exact lin [_, _, _, _] (.lt (.a (.a (.v 0) (.m 4 (.v 1))) (.n 100)) (.v 2)) 1 (.c 4 (.le (.v 1) (.v 3)) (.c 1 (.lt (.a (.a (.v 0) (.m 4 (.v 3))) (.n 100)) (.v 2)) .e)) (Eq.refl true) h this, C.nh, C.fr⟩

section
variable {w : World} {A : Around} {E : Value → Shared → Prop} {s s₀ : Shared} {fd : FD} {fx : List (Addr × Obj)} {σ : AS} {K : Frag} {P : Prm} {n : Nat}

theorem nameOk (C : Cx w K P fd A n) {x : Str} {k : NameKind} (h : P.sc.names.lookup x = some k) : (x == ("__debug__" : Str)) = false ∧ (x == ("__classdict__" : Str)) = false := by
  have := List.all_eq_true.mp C.fit.nm _ (mem_of_lk h)
  simp only [Bool.and_eq_true, bne_iff_ne, ne_eq] at this
  exact ⟨beq_eq_false_iff_ne.mpr this.1, beq_eq_false_iff_ne.mpr this.2⟩
theorem kindOf_eq (C : Cx w K P fd A n) (x : Str) : fd.env.kindOf x = P.sc.names.lookup x := by
  refine (?_ : fd.env.scope.names.lookup x = _); rw [C.fit.sc]

theorem absV_is (v : Value) : (absV v).is v := by
  cases v <;> first | rfl | exact ⟨_, rfl⟩

theorem name_sound (C : Cx w K P fd A n) (R : Rep w fd fx σ s.heap) {x : Str} {pos : Pos} {V : AV} {Q : Value → Shared → Prop} (hx : lookNm P σ x = some V) (q : ∀ v, V.is v → Q v s) :
    wpAny (model PR w) A (eval (.Name x pos) fd.env) Q E s := by
  have hk : fd.env.scope.kind = .function := by rw [C.fit.sc]; exact C.fit.kd
  unfold lookNm at hx
  split at hx
  · rename_i V' hl
    cases hx
    have hkn : ∃ k, P.sc.names.lookup x = some k := by
      obtain ⟨g0, GT, mf, own, news, F, N, nd, H, Vv, hz⟩ := R
      obtain ⟨v, hv, hr⟩ := Vv.read x _ hl
      rcases hr with ⟨h, _⟩ | ⟨h | h, _⟩ <;> exact ⟨_, (kindOf_eq C x).symm.trans h⟩
    obtain ⟨k, hkn⟩ := hkn
    exact wpAny_Name (rep_load R hk hl (nameOk C hkn).2 q) (nameOk C hkn).1
  · split at hx
    · rename_i hl hkn
      obtain ⟨g, hg, rfl⟩ := Option.map_eq_some_iff.mp hx
      obtain ⟨p, loose, mg, mb, T⟩ := C.top
      obtain ⟨g0, GT, kp⟩ := R.keep
      have T := T g0 GT
      have X := C.X g0 GT
      refine wpAny_Name ?_ (nameOk C hkn).1
      rw [loadName_read hk (by rw [kindOf_eq C]; exact hkn)]
      rcases C.KN.gl _ (mem_of_lk hg) with e | ⟨e, e2, e3⟩
      · exact loadGlobal_global (by rw [C.fit.gl]; exact T.g.keeps kp) (mg_of X T.g e) (q _ (absV_is _))
      · exact loadGlobal_builtin (by rw [C.fit.gl]; exact T.g.keeps kp) (mg_none_of X T.g e) (by rw [C.fit.bl]; exact T.b.keeps kp) ((T.builtins x e3).trans e2) (q _ (absV_is _))
    · cases hx

theorem store_sound (C : Cx w K P fd A n) (R : Rep w fd fx σ s.heap) {x : Str} {V : AV} {v : Value} {Q : Unit → Shared → Prop} (hx : storable P x = true) (hv : V.is v)
    (q : ∀ s', Same s s' → Rep w fd fx ⟨upd x V σ.loc, σ.hp⟩ s'.heap → Q () s') : wpAny (model PR w) A (storeName fd.env x v) Q E s := by
  have hk : fd.env.scope.kind = .function := by rw [C.fit.sc]; exact C.fit.kd
  refine rep_store R hk ?_ hv q
  rw [kindOf_eq C]
  unfold storable at hx
  split at hx
  · rename_i h; exact .inl h
  · rename_i h
    have hc : P.comp = false := by simpa using hx
    refine .inr ⟨h, ?_, C.fit.cells x (.inl h)⟩
    have := C.fit.mode
    rw [hc] at this
    cases q : fd.mode with
    | none => rfl
    | some m => rw [q] at this; cases this
  · cases hx
end
end Mine
end

section
open PySem PySem.W PyProof.Rows PySem.Calls PySem.Spec
open Sem (wp)
set_option maxRecDepth 100000
namespace Mine

noncomputable def LQ (w : World) (fd : FD) (fx : List (Addr × Obj)) (s₀ : Shared) (k : List AV → AS → Prop) (Q : List Value → Shared → Prop) : Prop :=
  ∀ Vs vs σ s, Paired AV.is Vs vs → Same s₀ s → Rep w fd fx σ s.heap → k Vs σ → Q vs s
noncomputable def FlIs : Fl → Flow → Prop
  | .next, f => f = .next
  | .brk, f => f = .brk
  | .cont, f => f = .cont
  | .ret V, f => ∃ v, f = .ret v ∧ V.is v
noncomputable def FQ (w : World) (fd : FD) (fx : List (Addr × Obj)) (s₀ : Shared) (k : Fl → AS → Prop) (Q : Flow → Shared → Prop) : Prop :=
  ∀ fl f σ s, FlIs fl f → Same s₀ s → Rep w fd fx σ s.heap → k fl σ → Q f s

structure Snd (w : World) (K : Frag) (n : Nat) : Prop where
  E : ∀ {P fd fx A} {E : Value → Shared → Prop} {Q s s₀ σ e k}, Cx w K P fd A n → Rep w fd fx σ s.heap → Same s₀ s → (sem n).E P e σ k → KQ w fd fx s₀ k Q → wpAny (model PR w) A (eval e fd.env) Q E s
  U : ∀ {P fd fx A} {E : Value → Shared → Prop} {Q : Unit → Shared → Prop} {s s₀ σ e k k2 f}, Cx w K P fd A n → Rep w fd fx σ s.heap → Same s₀ s → (sem n).E P e σ k → isCmp e = true →
    (∀ V v fx σ s (E : Value → Shared → Prop) (Q' : Unit → Shared → Prop), V.is v → Same s₀ s → Rep w fd fx σ s.heap → k V σ → UQ w fd fx s₀ k2 Q' → wpAny (model PR w) A (f v) Q' E s) → UQ w fd fx s₀ k2 Q →
    wpAny (model PR w) A (evalThenUse e fd.env f) Q E s
  Q : ∀ {P fd fx A} {E : Value → Shared → Prop} {Q s s₀ σ op es k pos}, Cx w K P fd A n → Rep w fd fx σ s.heap → Same s₀ s → (sem n).Q op P es σ k → KQ w fd fx s₀ k Q → wpAny (model PR w) A (boolOp pos op (evalEach es fd.env)) Q E s
  T : ∀ {P fd fx A} {E : Value → Shared → Prop} {Q s s₀ σ e k}, Cx w K P fd A n → Rep w fd fx σ s.heap → Same s₀ s → (sem n).T P e σ k → BQ w fd fx s₀ k Q → wpAny (model PR w) A (isTrue e fd.env (eval e fd.env)) Q E s
  TT : ∀ {P fd fx A} {E : Value → Shared → Prop} {Q s s₀ σ op es k}, Cx w K P fd A n → Rep w fd fx σ s.heap → Same s₀ s → (sem n).TT op P es σ k → BQ w fd fx s₀ k Q → wpAny (model PR w) A (allTrue op es fd.env) Q E s
  A : ∀ {P fd fx A} {E : Value → Shared → Prop} {Q s s₀ σ es k pos}, Cx w K P fd A n → Rep w fd fx σ s.heap → Same s₀ s → (sem n).A P es σ k → LQ w fd fx s₀ k Q → wpAny (model PR w) A (spliced (backTo pos (starEach es fd.env))) Q E s
  G : ∀ {P fd fx A} {E : Value → Shared → Prop} {Q s s₀ σ es k pos f}, Cx w K P fd A n → Rep w fd fx σ s.heap → Same s₀ s → (sem n).A P es σ k → LQ w fd fx s₀ k Q → wpAny (model PR w) A (evalArgs f true (backTo pos (starEach es fd.env)) []) (fun a s => a.kw = [] ∧ Q a.pos s) E s
  S : ∀ {P fd fx A} {E : Value → Shared → Prop} {Q s s₀ σ st k}, Cx w K P fd A n → Rep w fd fx σ s.heap → Same s₀ s → (sem n).S P st σ k → FQ w fd fx s₀ k Q → wpAny (model PR w) A (exec st fd.env) Q E s
  B : ∀ {P fd fx A} {E : Value → Shared → Prop} {Q s s₀ σ ss k}, Cx w K P fd A n → Rep w fd fx σ s.heap → Same s₀ s → (sem n).B P ss σ k → FQ w fd fx s₀ k Q → wpAny (model PR w) A (execs ss fd.env) Q E s
  C : ∀ {P fd fx A R s s₀ σ f Vs vs k}, Cx w K P fd A n → Rep w fd fx σ s.heap → Same s₀ s → Paired AV.is Vs vs → (sem n).C P f Vs σ.hp k →
    (∀ V v hp s, V.is v → Same s₀ s → Rep w fd fx ⟨σ.loc, hp⟩ s.heap → k V hp → R (.ok (.ret v)) s) → codeAny (model PR w) A (.call (.ref f) ⟨vs, []⟩) R s

theorem list_iter_lookup : typeLookup (.type "list") "__iter__" = pure (some (.builtin "list.__iter__")) := by rw [typeLookup_type, builtinLookup_eq_fast]; kernel_rfl
theorem tuple_iter_lookup : typeLookup (.type "tuple") "__iter__" = pure (some (.builtin "tuple.__iter__")) := by rw [typeLookup_type, builtinLookup_eq_fast]; kernel_rfl

section
variable {w : World} {A : Around} {E : Value → Shared → Prop} {s s₀ : Shared} {fd : FD} {fx : List (Addr × Obj)} {σ : AS} {K : Frag} {P : Prm} {n : Nat}

/-! ### calling -/
theorem callWithX {M : Model} {pos : Pos} {f : Value} {first : List Value} {Q : Value → Shared → Prop} {I : Heap → Prop} {args : List (Bool × Sem Value)}
    (hk : ∀ h, I h → ∃ k, (k = Keeper.frame ∨ k = Keeper.machine ∨ k = Keeper.boundFrame) ∧ Looks M h (keeperOf f) k)
    (h : wpAny M A (evalArgs f true args []) (fun a s₁ => a.kw = [] ∧ I s₁.heap ∧ wpAny M A (call f (first ++ a.pos)) Q E s₁) E s) : wpAny M A (callWith pos f first args []) Q E s := by
  unfold callWith
  refine wpAny_bind (wpAny_holding (wpAny_mono h (fun a s₁ h₁ => wpAny_bind (wpAny_standAt ?_)) fun _ _ x => x))
  obtain ⟨hkw, hI, h₁⟩ := h₁
  obtain ⟨k, hk', L⟩ := hk _ hI
  have h₁ : wpAny M A (call f (first ++ a.pos) a.kw) Q E s₁ := by rw [hkw]; exact h₁
  refine wpAny_bind (L.here ?_)
  have tail : ∀ {t : Sem Value}, wpAny M A t Q E s₁ → wpAny M A (t >>= fun r => holding [r] point >>= fun _ => pure r) Q E s₁ :=
    fun ht => wpAny_bind (wpAny_mono ht (fun r s₂ hr => wpAny_bind (wpAny_holding (wpAny_point (wpAny_pure hr)))) fun _ _ x => x)
  have marked (mk : Value) : wpAny M A (callMarked mk f (first ++ a.pos) a.kw) Q E s₁ := by unfold callMarked; exact Calls.wpAny_keep h₁
  generalize ((args.any fun x => x.1) || ([] : List (Option Str × Sem Value)).any fun x => x.1.isNone) = b
  rcases hk' with rfl | rfl | rfl <;> cases b <;> dsimp only <;> first | exact tail h₁ | exact tail (marked _) | exact tail (wpAny_operating h₁) | (split <;> first | exact tail h₁ | exact tail (marked _))

theorem keeper_builtin {M : Model} (i : String) (h : Heap) : Looks M h (keeperOf (.builtin i)) .machine := fun _ _ _ _ _ q => wpAny_pure q
theorem keeper_type {M : Model} (i : String) (h : Heap) : Looks M h (keeperOf (.type i)) .machine := fun _ _ _ _ _ q => wpAny_pure q

/-! ### star -/
theorem star_one {v : Value} {V : AV} {k : List AV → Prop} {Q : List Value → Shared → Prop} (C : Cx w K P fd A n) (R : Rep w fd fx σ s.heap) (hs : Same s₀ s) (hv : V.is v)
    (h : starA P.ro V σ k)
    (q : ∀ l vs s', Paired AV.is l vs → Same s₀ s' → Rep w fd fx σ s'.heap → k l → Q vs s') : wpAny (model PR w) A (collect v) Q E s := by
  rw [C.fit.ro] at h
  unfold starA at h
  split at h
  · cases hv
    obtain ⟨l, H, hl, hk⟩ := h
    rcases H with H | H
    · obtain ⟨vs, m, ho, hp⟩ := has_list R C.ro H
      exact wpAny_collect_seq _ (.inl rfl) ho rfl rfl (fun h' hk' => q l _ _ hp (hs.trans (same_hp s _ s.toks)) (R.ext hk') hk) (by rw [List.size_toArray, ← hp.length]; exact lim_line hl)
    · obtain ⟨vs, m, ho, hp⟩ := has_tuple R C.ro H
      exact wpAny_collect_seq _ (.inr rfl) ho rfl rfl (fun h' hk' => q l _ _ hp (hs.trans (same_hp s _ s.toks)) (R.ext hk') hk) (by rw [List.size_toArray, ← hp.length]; exact lim_line hl)
  · exact h.elim
theorem star_iter {v : Value} {V : AV} {k : List AV → Prop} {Q : Bool → Shared → Prop} (C : Cx w K P fd A n) (R : Rep w fd fx σ s.heap) (hv : V.is v)
    (h : starA P.ro V σ k)
    (q : Q false s) : wpAny (model PR w) A (notIterableAtAll v) Q E s := by
  rw [C.fit.ro] at h
  unfold notIterableAtAll
  unfold starA at h
  split at h
  · cases hv
    obtain ⟨l, H, hl, hk⟩ := h
    rcases H with H | H
    · obtain ⟨vs, m, ho, hp⟩ := has_list R C.ro H
      exact wpAny_bind (wpAny_specialOf ⟨_, ho, rfl⟩ list_iter_lookup (wpAny_pure q))
    · obtain ⟨vs, m, ho, hp⟩ := has_tuple R C.ro H
      exact wpAny_bind (wpAny_specialOf ⟨_, ho, rfl⟩ tuple_iter_lookup (wpAny_pure q))
  · exact h.elim

theorem starEach_cons {e : Expr} {rest : List Expr} {env : Env} (h : ∀ e' p, e = .Starred e' p → False) : starEach (e :: rest) env = (false, eval e env) :: starEach rest env := by
  cases e <;> first | rfl | exact (h _ _ rfl).elim

theorem sndA (I : Snd w K n) {Q : List Value → Shared → Prop} {es : List Expr} {k : List AV → AS → Prop} {pos : Pos} (C : Cx w K P fd A (n + 1)) (R : Rep w fd fx σ s.heap) (hs : Same s₀ s) (h : stepA (sem n) P es σ k) (q : LQ w fd fx s₀ k Q) :
    wpAny (model PR w) A (spliced (backTo pos (starEach es fd.env))) Q E s := by
  have C' := C.le (Nat.le_succ n)
  unfold stepA at h
  split at h
  · exact wpAny_pure (q [] [] _ _ .nil hs R h)
  · rename_i e p rest
    rw [arm_starEach_Starred]
    refine (?_ : wpAny _ _ (spliced ((true, do let v ← eval e fd.env; standAt pos; pure v) :: backTo pos (starEach rest fd.env))) _ _ _)
    unfold spliced
    refine wpAny_bind (wpAny_bind (I.E C' R hs h fun V v σ1 s1 hv hs1 R1 h1 => wpAny_bind (wpAny_standAt (wpAny_pure ?_))))
    have key : wpAny (model PR w) A (collect v) (fun here s' => wpAny (model PR w) A (holding here (spliced (backTo pos (starEach rest fd.env)))) (fun r s'' => Q (here ++ r) s'') E s') E s1 := by
      refine star_one (k := fun l => (sem n).A P rest σ1 fun vs σ => k (l ++ vs) σ) C' R1 hs1 hv h1 fun l vs s2 hp hs2 R2 h2 => ?_
      exact wpAny_holding (I.A C' R2 hs2 h2 fun Vs vs' σ3 s3 hp3 hs3 R3 h3 => q _ _ _ _ (Paired.append hp hp3) hs3 R3 h3)
    simp only [if_true]
    refine wpAny_bind (star_iter C' R1 hv h1 ?_)
    simp only [Bool.false_eq_true, if_false]
    refine wpAny_bind (wpAny_mono key (fun here s' hh => ?_) fun _ _ x => x)
    exact wpAny_bind (wpAny_mono hh (fun r s'' hr => wpAny_pure hr) fun _ _ x => x)
  · rename_i e rest hne
    rw [starEach_cons (fun e' p he => hne e' p he)]
    refine (?_ : wpAny _ _ (spliced ((false, eval e fd.env) :: backTo pos (starEach rest fd.env))) _ _ _)
    refine Calls.spliced_cons (I.E C' R hs h fun V v σ1 s1 hv hs1 R1 h1 => ?_)
    exact I.A C' R1 hs1 h1 fun Vs vs σ2 s2 hp hs2 R2 h2 => q (V :: Vs) (v :: vs) _ _ (.cons hv hp) hs2 R2 h2

theorem evalArgs_plain {M : Model} {f : Value} {args : List (Bool × Sem Value)} {Q : List Value → Shared → Prop} (hn : ∀ x, args ≠ [(true, x)]) (h : wpAny M A (spliced args) Q E s) : wpAny M A (evalArgs f true args []) (fun a s => a.kw = [] ∧ Q a.pos s) E s := by
  unfold evalArgs
  dsimp only
  split
  · exact absurd rfl (hn _)
  · refine wpAny_bind (wpAny_mono h (fun vs s' hv => ?_) fun _ _ x => x)
    refine wpAny_bind (wpAny_pure ?_)
    refine wpAny_holding ?_
    rw [if_pos (by rfl)]
    exact wpAny_bind (wpAny_pure (wpAny_bind (wpAny_pure (wpAny_pure ⟨rfl, hv⟩))))

theorem sndG (I : Snd w K n) {Q : List Value → Shared → Prop} {es : List Expr} {k : List AV → AS → Prop} {pos : Pos} {f : Value} (C : Cx w K P fd A (n + 1)) (R : Rep w fd fx σ s.heap) (hs : Same s₀ s) (h : stepA (sem n) P es σ k) (q : LQ w fd fx s₀ k Q) :
    wpAny (model PR w) A (evalArgs f true (backTo pos (starEach es fd.env)) []) (fun a s => a.kw = [] ∧ Q a.pos s) E s := by
  by_cases hl : ∃ e p, es = [.Starred e p]
  · obtain ⟨e, p, rfl⟩ := hl
    have C' := C.le (Nat.le_succ n)
    unfold stepA at h
    refine (?_ : wpAny _ _ (evalArgs f true [(true, do let v ← eval e fd.env; standAt pos; pure v)] []) _ _ _)
    unfold evalArgs
    dsimp only
    refine wpAny_bind (wpAny_bind (I.E C' R hs h fun V v σ1 s1 hv hs1 R1 h1 => wpAny_bind (wpAny_standAt (wpAny_pure ?_))))
    refine wpAny_bind (wpAny_pure ?_)
    refine wpAny_holding ?_
    rw [if_pos (by rfl)]
    refine wpAny_bind (wpAny_pure ?_)
    dsimp only
    refine wpAny_bind ?_
    refine wpAny_bind (star_iter C' R1 hv h1 ?_)
    simp only [Bool.false_eq_true, if_false]
    refine wpAny_holding (star_one (k := fun l => (sem n).A P [] σ1 fun vs σ => k (l ++ vs) σ) C' R1 hs1 hv h1 fun l vs s2 hp hs2 R2 h2 => ?_)
    have hn : k (l ++ []) σ1 := by
      cases n with
      | zero => exact h2.elim
      | succ n => exact h2
    rw [List.append_nil] at hn
    exact wpAny_pure ⟨rfl, q l vs _ _ hp hs2 R2 hn⟩
  · refine evalArgs_plain (fun x hx => hl ?_) (sndA I C R hs h q)
    cases es with
    | nil => cases hx
    | cons e rest =>
      by_cases hst : ∃ e' p, e = .Starred e' p
      · obtain ⟨e', p, rfl⟩ := hst
        cases rest with
        | nil => exact ⟨_, _, rfl⟩
        | cons e2 r2 =>
          by_cases hst2 : ∃ e' p, e2 = .Starred e' p
          · obtain ⟨e3, p3, rfl⟩ := hst2; cases hx
          · rw [arm_starEach_Starred, starEach_cons (fun a b c => hst2 ⟨a, b, c⟩)] at hx; cases hx
      · rw [starEach_cons (fun a b c => hst ⟨a, b, c⟩)] at hx; cases hx
end
end Mine
end

section
open PySem PySem.W PyProof.Rows PySem.Calls PySem.Spec
open Sem (wp)
set_option maxRecDepth 100000
namespace Mine

theorem ref_is (a : Addr) : (AV.ref a).is (.ref a) := rfl
theorem make_own {w : World} {K : Frag} {A : Around} {C fI : Addr} {s : Shared} {R : Result → Shared → Prop} {rest : List Value} (X : K.In s.heap) (hm : makesIn K C = true)
    (hi : findIn K (.ref C) "__init__" = some (some (.ref fI))) (hf : typeIn K (.ref fI) = some (.type "function"))
    (h : codeAny (model PR w) (A.under (.builtin "type.__call__" ⟨.ref C :: rest, []⟩)) (.call (.ref fI) ⟨.ref (s.heap.objs.size + 1) :: rest, []⟩) (InitBack (s.heap.objs.size + 1) R) { s with heap := (s.heap.push emptyDict).push (instObj C s.heap.objs.size) }) :
    codeAny (model PR w) A (.call (.ref C) ⟨rest, []⟩) R s := by
  obtain ⟨hh, g, d, t, os⟩ := s
  exact make_core (makes_of X hm) (looks_findIn X hi) (fun self => bind_fn X self hf) (.inl rfl) h

section
variable {w : World} {A : Around} {E : Value → Shared → Prop} {s s₀ : Shared} {fd : FD} {fx : List (Addr × Obj)} {σ : AS} {K : Frag} {P : Prm} {n : Nat}

theorem Cx.under (C : Cx w K P fd A (n + 1)) (C₁ : Addr) (l : List Value) : Cx w K P fd (A.under (.builtin "type.__call__" ⟨.ref C₁ :: l, []⟩)) n := by
  refine ⟨C.fit, C.X, C.KF, C.KN, C.KM, C.ro, C.top, ?_, ?_, C.nh, ?_⟩
  · have := C.un
    have e : (A.under (.builtin "type.__call__" ⟨.ref C₁ :: l, []⟩)).units ≤ A.units + 4 := by
      refine (?_ : A.units + Code.cUnits (.builtin "type.__call__" ⟨.ref C₁ :: l, []⟩) ≤ A.units + 4)
      have e : Code.cUnits (.builtin "type.__call__" ⟨.ref C₁ :: l, []⟩) = Code.cUnits (.builtin "type.__call__" ⟨[.ref 0], []⟩) := rfl
      rw [e]
      exact Nat.add_le_add_left (by decide +kernel) _
    exact lin [_, _, _, _] (.lt (.a (.a (.v 0) (.m 32 (.v 1))) (.n 200)) (.v 2)) 1 (.c 1 (.lt (.a (.a (.v 3) (.m 32 (.a (.v 1) (.n 1)))) (.n 200)) (.v 2)) (.c 1 (.le (.v 0) (.a (.v 3) (.n 4))) .e)) (Eq.refl true) this e
  · have := C.dp
    have e := depth_under_kw A C₁ l []
    rw [e]
    exact lin [_, _, _] (.lt (.a (.a (.a (.v 0) (.n 1)) (.m 4 (.v 1))) (.n 100)) (.v 2)) 1 (.c 1 (.lt (.a (.a (.v 0) (.m 4 (.a (.v 1) (.n 1)))) (.n 100)) (.v 2)) .e) (Eq.refl true) this
  · exact C.fr

theorem fn_mem {f : Addr} {Vs : List AV} {hp : List (Addr × AO)} {k : AV → List (Addr × AO) → Prop} (h : (sem n).C P f Vs hp k) : f ∈ ft.map (·.1) := by
  cases n with
  | zero => exact h.elim
  | succ n =>
    have h : stepC (sem n) P f Vs hp k := h
    unfold stepC fnAt at h
    cases q : ft.lookup f with
    | none => rw [q] at h; exact h.elim
    | some c =>
      clear h
      revert q
      generalize ft = l
      intro q
      induction l with
      | nil => cases q
      | cons p l ih =>
        obtain ⟨a, b⟩ := p
        rw [List.lookup_cons] at q
        by_cases e : f = a
        · subst e; exact .head _
        · rw [beq_eq_false_iff_ne.mpr e] at q; exact .tail _ (ih q)

theorem keeper_fn (C : Cx w K P fd A n) {f : Addr} (hf : f ∈ 33 :: 130 :: ft.map (·.1)) : ∀ h, K.In h → ∃ k, (k = Keeper.frame ∨ k = Keeper.machine ∨ k = Keeper.boundFrame) ∧ Looks (model PR w) h (keeperOf (.ref f)) k := fun h X => by
  obtain ⟨k, hk, L⟩ := looks_keep (C.KM.kp f hf) X
  exact ⟨k, hk.elim .inl fun x => .inr (.inl x), L⟩
theorem keeper_of {f : Addr} (hf : keepIn K (.ref f) = true) : ∀ h, K.In h → ∃ k, (k = Keeper.frame ∨ k = Keeper.machine ∨ k = Keeper.boundFrame) ∧ Looks (model PR w) h (keeperOf (.ref f)) k := fun h X => by
  obtain ⟨k, hk, L⟩ := looks_keep hf X
  exact ⟨k, hk.elim .inl fun x => .inr (.inl x), L⟩
theorem repX (C : Cx w K P fd A n) (R : Rep w fd fx σ s.heap) : K.In s.heap := by
  obtain ⟨g, GT, k⟩ := R.keep
  exact (C.X g GT).keeps k

/-- calling what a name stands for -/
theorem callA_sound (I : Snd w K n) {f : Value} {F : AV} {Vs : List AV} {vs : List Value} {k : KV} {Q : Value → Shared → Prop} (C : Cx w K P fd A (n + 1)) (R : Rep w fd fx σ s.heap) (hs : Same s₀ s) (hF : F.is f) (hv : Paired AV.is Vs vs)
    (h : callA (sem n) P F Vs σ k) (q : KQ w fd fx s₀ k Q) : wpAny (model PR w) A (call f vs) Q E s := by
  have C' := C.le (Nat.le_succ n)
  unfold callA at h
  split at h
  · cases hF; rw [C.fit.ro] at h; exact builtinA_sound R C.ro C.nh hs hv h q
  · cases hF; rw [C.fit.ro] at h; exact typeA_sound R C.ro hs hv h q
  · cases hF
    split at h
    · rename_i e; subst e
      split at h
      · cases hv with | cons hx hv => cases hv with | nil =>
        obtain ⟨m1, m2, m3⟩ := C.KN.mk33
        refine wpAny_call (make_own (repX C R) m1 m2 m3 ?_)
        have R1 := rep_push (s := s) R (o := emptyDict) (x := .attrs []) ⟨[], 0, rfl, .nil⟩
        have R2 := rep_push (s := { s with heap := s.heap.push emptyDict }) R1 (o := instObj 33 s.heap.objs.size) (x := .node s.heap.objs.size none none none) ⟨#[], rfl, rfl, rfl, rfl, by decide⟩
        rw [show (s.heap.push emptyDict).objs.size = s.heap.objs.size + 1 from Heap.size_push _ _] at R2
        refine I.C (C.under _ _) R2 (hs.trans (same_hp s _ s.toks)) (.cons (ref_is _) (.cons hx .nil)) (h _ _).h fun V v hp s' hv' hs' R' hk => ?_
        obtain ⟨rfl, hk⟩ := hk
        exact ⟨hv', q (.ref _) _ _ _ rfl hs' R' hk⟩
      · exact h.elim
    split at h
    · rename_i e; subst e
      split at h
      · cases hv with | cons hx hv => cases hv with | nil =>
        obtain ⟨m1, m2, m3⟩ := C.KN.mk130
        refine wpAny_call (make_own (repX C R) m1 m2 m3 ?_)
        have R1 := rep_push (s := s) R (o := emptyDict) (x := .attrs []) ⟨[], 0, rfl, .nil⟩
        have R2 := rep_push (s := { s with heap := s.heap.push emptyDict }) R1 (o := instObj 130 s.heap.objs.size) (x := .inst 130 s.heap.objs.size) rfl
        rw [show (s.heap.push emptyDict).objs.size = s.heap.objs.size + 1 from Heap.size_push _ _] at R2
        refine I.C (C.under _ _) R2 (hs.trans (same_hp s _ s.toks)) (.cons (ref_is _) (.cons hx .nil)) (h _ _).h fun V v hp s' hv' hs' R' hk => ?_
        obtain ⟨rfl, hk⟩ := hk
        exact ⟨hv', q (.ref _) _ _ _ rfl hs' R' hk⟩
      · exact h.elim
    · refine wpAny_call (I.C C' R hs hv h.h fun V v hp s' hv' hs' R' hk => q _ _ _ _ hv' hs' R' hk)
  · exact h.elim

theorem methA_sound (I : Snd w K n) {u f : Value} {U : AV} {t : MT} {name : Str} {Vs : List AV} {vs : List Value} {k : KV} {Q : Value → Shared → Prop} (C : Cx w K P fd A (n + 1)) (R : Rep w fd fx σ s.heap) (hs : Same s₀ s) (hU : U.is u) (hv : Paired AV.is Vs vs)
    (hf : methF t name = some f) (h : methA (sem n) P t U name Vs σ k) (q : KQ w fd fx s₀ k Q) : wpAny (model PR w) A (call f (u :: vs)) Q E s := by
  have C' := C.le (Nat.le_succ n)
  unfold methA at h
  rw [C.fit.ro] at h
  split at h
  · split at h
    · obtain ⟨t, rfl⟩ := hU; exact strM_sound R C.ro hs hv hf h q
    · exact h.elim
  · split at h
    · cases hU
      split at h
      · exact listM_sound R C.ro hs hv hf h q
      · exact dictM_sound R C.ro hs hv hf h q
      · exact idictM_sound R C.ro hs hv hf h q
      · exact ssetM_sound R hs hv hf h q
      · split at h
        · rename_i g hg
          have e : f = .ref g := by
            unfold methF at hf; dsimp only at hf
            rw [hg] at hf; cases hf; rfl
          subst e
          exact wpAny_call (I.C C' R hs (.cons (ref_is _) hv) h.h fun V v hp s' hv' hs' R' hk => q _ _ _ _ hv' hs' R' hk)
        · exact h.elim
      · exact h.elim
    · exact h.elim
end
end Mine
end

section
open PySem PySem.W PyProof.Rows PySem.Calls PySem.Spec
open Sem (wp)
set_option maxRecDepth 100000
namespace Mine

section
variable {w : World} {A : Around} {E : Value → Shared → Prop} {s s₀ : Shared} {fd : FD} {fx : List (Addr × Obj)} {σ : AS} {K : Frag} {P : Prm} {n : Nat}

theorem sub_step {M : Model} {env : Env} {value slice : Expr} {pos : Pos} {Q : Value → Shared → Prop} (ops : Value → Value → List Value) (hs : ∀ o i, subscripted slice false o i = operate (ops o i) (getItem o i))
    (h : wpAny M A (eval value env) (fun o s₁ => wpAny M A (eval slice env) (fun i s₂ => (∀ r, letTemporaryGo value o r = pure ()) ∧ ItemOn M A E o i Q s₂) E s₁) E s) :
    wpAny M A (eval (.Subscript value slice pos) env) Q E s := by
  rw [arm_eval_Subscript]
  refine wpAny_bind (wpAny_mono h (fun o s₁ h₁ => wpAny_bind (wpAny_holding (wpAny_mono h₁ (fun i s₂ h₂ => wpAny_bind (wpAny_standAt ?_)) fun _ _ x => x))) fun _ _ x => x)
  obtain ⟨ht, T, id, hl, hT, hg⟩ := h₂
  refine wpAny_bind ?_
  rw [getitemInPython_of_ne hT.not_modules]
  refine wpAny_bind (wpAny_specialOf hT hl ?_)
  refine wpAny_pure ?_
  rw [hs]
  exact wpAny_bind (wpAny_operating (wpAny_mono hg (fun r s₃ h₃ => wpAny_bind (wpAny_of_eq (ht r) (wpAny_pure h₃))) fun _ _ x => x))

/-- the base of a subscript -/
theorem base_sound (I : Snd w K n) {o : Expr} {k : KV} {Q : Value → Shared → Prop} (C : Cx w K P fd A (n + 1)) (R : Rep w fd fx σ s.heap) (hs : Same s₀ s) (hb : isNC o = true) (h : (sem n).E P o σ k)
    (q : ∀ V v σ s, V.is v → Same s₀ s → Rep w fd fx σ s.heap → (∀ r, letTemporaryGo o v r = pure ()) → k V σ → Q v s) : wpAny (model PR w) A (eval o fd.env) Q E s := by
  have C' := C.le (Nat.le_succ n)
  unfold isNC at hb
  split at hb
  · exact I.E C' R hs h fun V v σ s hv hs R hk => q V v σ s hv hs R (fun _ => rfl) hk
  · cases n with
    | zero => exact h.elim
    | succ m =>
      rw [arm_eval_Constant]
      exact wpAny_mkText (q _ _ _ _ (isSt _ _) (hs.trans (same_val s _)) R (fun _ => rfl) h)
  · cases hb

theorem getMeth_bound {pl : Bool} {a d g : Addr} {l : List (Str × AV)} {name : Str} {Q : Value → Shared → Prop} (C : Cx w K P fd A n) (R : Rep w fd fx σ s.heap) (H : Has fd.ro σ.hp a (.inst 130 d)) (D : Has fd.ro σ.hp d (.attrs l))
    (hl : ∀ p ∈ l, p.1 ∈ fields4) (hg : meths.lookup name = some g)
    (h : ∀ tk, Q (.ref s.heap.objs.size) { s with heap := s.heap.push (methodObj (.ref g) (.ref a)), toks := tk }) : wpAny (model PR w) A (getAttr (.ref a) name pl) Q E s := by
  obtain ⟨g0, GT, mf, own, news, F, _⟩ := id R
  obtain ⟨ox, es, m, I, hp, _⟩ := inst_at R C.ro H D
  have hm := mem_of_lk hg
  obtain ⟨f1, f2⟩ := C.KF.m130 _ hm
  obtain ⟨b1, b2, b3, b4⟩ := C.KM.bm _ hm
  obtain ⟨cd, hc, hd⟩ := any_some C.KF.h130
  have hgl : getL name es = some none := by
    rcases getL_of hp name with ⟨_, e⟩ | ⟨V, v, e, _⟩
    · exact e
    · exact absurd (hl _ (mem_of_lk e)) (meths_fields _ hm)
  have hf : findObj K 130 (some (dictOf es m)) name = some (.bind (.builtin "function.__get__") (.ref g)) := by
    unfold findObj
    rw [hc, Option.bind_some, f1, Option.bind_some]
    have ho : PySem.W.ownOf cd (some (dictOf es m)) name = some none := by unfold PySem.W.ownOf; rw [if_pos hd]; exact hgl
    simp only at b1 b2 b3
    simp only [b1, Option.bind_some, b2, ho, b3, Bool.false_and, Bool.false_eq_true, if_false]
  exact get_bind ((C.X g0 GT).keeps F.keep) I (plainGet_of C.KF.g130).1 hf (plainGet_of C.KF.g130).2 (wpAny_call (fn_get (s := { s with toks := s.toks + 1 }) ((C.X g0 GT).keeps F.keep) (beq_iff_eq.mp f2) (handed_on rfl (h _))))

theorem noStar_form {args : List Expr} {env : Env} {pos : Pos} : hasStar args = false → (backTo pos (starEach args env)).all (fun x => !x.1) = true := by
  induction args with
  | nil => intro _; rfl
  | cons e r ih =>
    intro h
    have hne : ∀ e' p, e = .Starred e' p → False := fun e' p he => by subst he; cases h
    rw [starEach_cons hne]
    have hr : hasStar r = false := by cases e <;> first | exact h | exact (hne _ _ rfl).elim
    exact ih hr
theorem star_form {args : List Expr} {env : Env} {pos : Pos} : hasStar args = true → (backTo pos (starEach args env)).all (fun x => !x.1) = false := by
  induction args with
  | nil => intro h; cases h
  | cons e r ih =>
    intro h
    by_cases hst : ∃ e' p, e = .Starred e' p
    · obtain ⟨e', p, rfl⟩ := hst; rfl
    · rw [starEach_cons fun a b c => hst ⟨a, b, c⟩]
      have hr : hasStar r = true := by cases e <;> first | exact h | exact (hst ⟨_, _, rfl⟩).elim
      exact ih hr
theorem attrBase {o : Expr} {name : Str} {env : Env} {whole : Sem Value} (h : isBase o = true) : attributeBase o name env whole = whole := by
  cases o <;> first | rfl | cases h

theorem method_keeper (C : Cx w K P fd A n) {t : MT} {name : Str} {f : Value} (h : methF t name = some f) : ∀ h, K.In h → ∃ k, (k = Keeper.frame ∨ k = Keeper.machine ∨ k = Keeper.boundFrame) ∧ Looks (model PR w) h (keeperOf f) k := by
  intro hh X
  cases t with
  | inst =>
    unfold methF at h; dsimp only at h
    obtain ⟨g, hg, rfl⟩ := Option.map_eq_some_iff.mp h
    have : ∀ p ∈ meths, p.2 = 127 ∨ p.2 ∈ ft.map (·.1) := by decide
    rcases this _ (mem_of_lk hg) with e | e
    · simp only at e; subst e; exact keeper_of C.KM.kg hh X
    · exact keeper_fn C (.tail _ (.tail _ e)) hh X
  | list =>
    have hm := mem_of_lk (l := listF) h
    have : ∀ p ∈ listF, ∃ i, p.2 = .builtin i := by
      unfold listF; simp only [List.forall_mem_cons]
      exact ⟨⟨_, rfl⟩, ⟨_, rfl⟩, ⟨_, rfl⟩, ⟨_, rfl⟩, ⟨_, rfl⟩, fun _ h => nomatch h⟩
    obtain ⟨i, e⟩ := this _ hm
    simp only at e; subst e
    exact ⟨_, .inr (.inl rfl), keeper_builtin _ _⟩
  | str =>
    unfold methF at h; dsimp only at h
    split at h
    · cases h; exact ⟨_, .inr (.inl rfl), keeper_builtin _ _⟩
    · split at h
      · cases h; exact ⟨_, .inr (.inl rfl), keeper_builtin _ _⟩
      · cases h
  | dict => unfold methF at h; dsimp only at h; split at h <;> cases h; exact ⟨_, .inr (.inl rfl), keeper_builtin _ _⟩
  | idict => unfold methF at h; dsimp only at h; split at h <;> cases h; exact ⟨_, .inr (.inl rfl), keeper_builtin _ _⟩
  | sset => unfold methF at h; dsimp only at h; split at h <;> cases h; exact ⟨_, .inr (.inl rfl), keeper_builtin _ _⟩

theorem methCall_sound (I : Snd w K n) {o : Expr} {name : Str} {apos pos : Pos} {args : List Expr} {k : KV} {Q : Value → Shared → Prop} (C : Cx w K P fd A (n + 1)) (R : Rep w fd fx σ s.heap) (hs : Same s₀ s)
    (h : match callForm o args apos pos with
      | some false => (sem n).E P o σ fun ov σ => McT (sem n) P ov name args σ k
      | some true => (sem n).E P o σ fun ov σ => McI (sem n) P ov name args σ k
      | none => False)
    (q : KQ w fd fx s₀ k Q) : wpAny (model PR w) A (eval (.Call (.Attribute o name apos) args [] pos) fd.env) Q E s := by
  have C' := C.le (Nat.le_succ n)
  unfold callForm at h
  split at h
  all_goals rename_i hform
  · split at hform
    · rename_i hb
      obtain ⟨hb1, hb2⟩ := Bool.and_eq_true_iff.mp hb
      split at hform
      · cases hform
      · rename_i hst
        split at hform
        · rename_i hline
          rw [arm_eval_Call, attrBase hb1]
          refine wpAny_bind (I.E C' R hs h fun V v σ1 s1 hv hs1 R1 h1 => wpAny_bind (wpAny_standAt ?_))
          obtain ⟨t, ht, hf, h2⟩ := h1
          obtain ⟨f, hf⟩ := Option.isSome_iff_exists.mp hf
          unfold methodCall
          have e1 : methodCallForm (args.length + ([] : List Keyword).length) (backTo pos (starEach args fd.env)) (backToKw pos (keywordEach [] fd.env)) = true := by
            unfold methodCallForm
            rw [noStar_form hst]
            have : args.length < 30 := of_decide_eq_true hb2
            have e0 : backToKw pos (keywordEach [] fd.env) = [] := rfl
            rw [e0]
            simp [this]
          rw [e1]
          unfold calleeOf
          rw [C.fit.ro] at ht
          rw [if_pos rfl]
          refine wpAny_bind (wpAny_holding (getM_sound R1 C.ro C.X C.KF hv ht hf ?_))
          unfold methodCallPos
          rw [hline]
          refine wpAny_bind (wpAny_pure ?_)
          refine callWithX (I := fun h => K.In h) (method_keeper C hf) (wpAny_mono (I.G (Q := fun vs s' => K.In s'.heap ∧ wpAny (model PR w) A (call f (v :: vs)) Q E s') C' R1 hs1 h2 fun Vs vs σ2 s2 hp hs2 R2 h3 => ?_) (fun a s' hh => ⟨hh.1, hh.2⟩) fun _ _ x => x)
          exact ⟨repX C' R2, methA_sound I C R2 hs2 hv hp hf h3 q⟩
        · cases hform
    · cases hform
  · split at hform
    · rename_i hb
      obtain ⟨hb1, hb2⟩ := Bool.and_eq_true_iff.mp hb
      split at hform
      · rename_i hst
        rw [arm_eval_Call, attrBase hb1]
        refine wpAny_bind (I.E C' R hs h fun V v σ1 s1 hv hs1 R1 h1 => wpAny_bind (wpAny_standAt ?_))
        obtain ⟨⟨a, d, l, rfl, H, D, hl⟩, hf, h2⟩ := h1
        cases hv
        obtain ⟨f, hf⟩ := Option.isSome_iff_exists.mp hf
        have hf' := hf
        unfold methF at hf'; dsimp only at hf'
        obtain ⟨g, hg, rfl⟩ := Option.map_eq_some_iff.mp hf'
        unfold methodCall
        have e1 : methodCallForm (args.length + ([] : List Keyword).length) (backTo pos (starEach args fd.env)) (backToKw pos (keywordEach [] fd.env)) = false := by
          unfold methodCallForm
          rw [star_form hst]; rfl
        rw [e1]
        unfold calleeOf
        rw [C.fit.ro] at H D
        rw [if_neg (by decide)]
        refine wpAny_bind (wpAny_holding (wpAny_bind (getMeth_bound C R1 H D hl hg fun tk => wpAny_pure ?_)))
        unfold methodCallPos
        refine wpAny_bind (wpAny_pure ?_)
        have R1' : Rep w fd ((s1.heap.objs.size, methodObj (.ref g) (.ref a)) :: fx) σ1 (s1.heap.push (methodObj (.ref g) (.ref a))) :=
          R1.fx_add (fun b o e => Heap.get?_push_of_some _ e) (none_of_size (Nat.le_refl _)) (Heap.get?_push_size _ rfl)
        have hb4 := (C.KM.bm _ (mem_of_lk hg)).2.2.2
        refine callWithX (I := fun h => MethP K s1.heap.objs.size g (.ref a) h) (fun h X => keeps_M hb4 h X) (wpAny_mono (I.G (Q := fun vs s' => MethP K s1.heap.objs.size g (.ref a) s'.heap ∧ wpAny (model PR w) A (call (.ref s1.heap.objs.size) vs) Q E s') C' R1' (hs1.trans (same_hp s1 _ tk)) h2 fun Vs vs σ2 s2 hp hs2 R2 h3 => ?_) (fun a s' hh => ⟨hh.1, hh.2⟩) fun _ _ x => x)
        refine ⟨⟨R2.fx_get, repX C' R2⟩, wpAny_call (method_call R2.fx_get ?_)⟩
        unfold methA at h3
        dsimp only at h3
        rw [hg] at h3
        exact I.C C' R2 hs2 (.cons (ref_is _) hp) h3.h fun V v hp s' hv' hs' R' hk => q _ _ _ _ hv' hs' (R'.fx_drop fun _ e => by cases e) hk
      · split at hform <;> cases hform
    · cases hform
  · exact h.elim
end
end Mine
end

section
open PySem PySem.W PyProof.Rows PySem.Calls PySem.Spec
open Sem (wp)
set_option maxRecDepth 100000
namespace Mine

structure CSnd (w : World) (K : Frag) (n : Nat) : Prop where
  L : ∀ {P fd fx A} {E : Value → Shared → Prop} {Q s s₀ σ k elt gens sc pos}, Cx w K P fd A (n + 1) → Rep w fd fx σ s.heap → Same s₀ s → comprA (sem n) P (.list elt) (.list []) gens sc σ k → KQ w fd fx s₀ k Q → wpAny (model PR w) A (eval (.ListComp elt gens sc pos) fd.env) Q E s
  D : ∀ {P fd fx A} {E : Value → Shared → Prop} {Q s s₀ σ k kx vx gens sc pos}, Cx w K P fd A (n + 1) → Rep w fd fx σ s.heap → Same s₀ s → comprA (sem n) P (.dict kx vx) (.dict []) gens sc σ k → KQ w fd fx s₀ k Q → wpAny (model PR w) A (eval (.DictComp kx vx gens sc pos) fd.env) Q E s
  LU : ∀ {P fd fx A} {E : Value → Shared → Prop} {Q : Unit → Shared → Prop} {s s₀ σ k k2 elt gens sc pos f}, Cx w K P fd A (n + 1) → Rep w fd fx σ s.heap → Same s₀ s → comprA (sem n) P (.list elt) (.list []) gens sc σ k →
    (∀ V v fx σ s (E : Value → Shared → Prop) (Q' : Unit → Shared → Prop), V.is v → Same s₀ s → Rep w fd fx σ s.heap → k V σ → UQ w fd fx s₀ k2 Q' → wpAny (model PR w) A (f v) Q' E s) → UQ w fd fx s₀ k2 Q →
    wpAny (model PR w) A (evalThenUse (.ListComp elt gens sc pos) fd.env f) Q E s
  DU : ∀ {P fd fx A} {E : Value → Shared → Prop} {Q : Unit → Shared → Prop} {s s₀ σ k k2 kx vx gens sc pos f}, Cx w K P fd A (n + 1) → Rep w fd fx σ s.heap → Same s₀ s → comprA (sem n) P (.dict kx vx) (.dict []) gens sc σ k →
    (∀ V v fx σ s (E : Value → Shared → Prop) (Q' : Unit → Shared → Prop), V.is v → Same s₀ s → Rep w fd fx σ s.heap → k V σ → UQ w fd fx s₀ k2 Q' → wpAny (model PR w) A (f v) Q' E s) → UQ w fd fx s₀ k2 Q →
    wpAny (model PR w) A (evalThenUse (.DictComp kx vx gens sc pos) fd.env f) Q E s

section
variable {w : World} {A : Around} {E : Value → Shared → Prop} {s s₀ : Shared} {fd : FD} {fx : List (Addr × Obj)} {σ : AS} {K : Frag} {P : Prm} {n : Nat}

theorem truQ {v : Value} {V : AV} {k : Bool → Prop} {Q : Bool → Shared → Prop} (C : Cx w K P fd A n) (R : Rep w fd fx σ s.heap) (hv : V.is v) (h : truA P.ro V σ k)
    (q : ∀ b s', Same s s' → Rep w fd fx σ s'.heap → k b → Q b s') : wpAny (model PR w) A (truthy v) Q E s := by
  rw [C.fit.ro] at h; exact truA_sound R C.ro hv h q

theorem sndQ (I : Snd w K n) {op : BoolOp} {es : List Expr} {k : KV} {pos : Pos} {Q : Value → Shared → Prop} (C : Cx w K P fd A (n + 1)) (R : Rep w fd fx σ s.heap) (hs : Same s₀ s) (h : stepQ (sem n) op P es σ k) (q : KQ w fd fx s₀ k Q) :
    wpAny (model PR w) A (boolOp pos op (evalEach es fd.env)) Q E s := by
  have C' := C.le (Nat.le_succ n)
  unfold stepQ at h
  split at h
  · exact h.elim
  · exact I.E C' R hs h q
  · rename_i e rest hne
    cases rest with
    | nil => exact absurd rfl (hne)
    | cons e2 r2 =>
      refine wpAny_bind (I.E C' R hs h fun V v σ1 s1 hv hs1 R1 h1 => wpAny_bind (wpAny_standAt (wpAny_bind (wpAny_holding (truQ C' R1 hv h1 fun b s2 hs2 R2 h2 => ?_)))))
      cases op with
      | And =>
        cases b with
        | true => exact I.Q C' R2 (hs1.trans hs2) (h2.1 rfl) q
        | false => exact wpAny_pure (q _ _ _ _ hv (hs1.trans hs2) R2 (h2.2 rfl))
      | Or =>
        cases b with
        | false => exact I.Q C' R2 (hs1.trans hs2) (h2.1 rfl) q
        | true => exact wpAny_pure (q _ _ _ _ hv (hs1.trans hs2) R2 (h2.2 rfl))
theorem sndTT (I : Snd w K n) {op : BoolOp} {es : List Expr} {k : Bool → AS → Prop} {Q : Bool → Shared → Prop} (C : Cx w K P fd A (n + 1)) (R : Rep w fd fx σ s.heap) (hs : Same s₀ s) (h : stepTT (sem n) op P es σ k) (q : BQ w fd fx s₀ k Q) :
    wpAny (model PR w) A (allTrue op es fd.env) Q E s := by
  have C' := C.le (Nat.le_succ n)
  unfold stepTT at h
  split at h
  · exact wpAny_pure (q _ _ _ hs R h)
  · rw [arm_allTrue_cons]
    refine wpAny_bind (I.T C' R hs h fun b σ1 s1 hs1 R1 h1 => ?_)
    cases op with
    | And =>
      cases b with
      | true => exact I.TT C' R1 hs1 (h1.1 rfl) q
      | false => exact wpAny_pure (q _ _ _ hs1 R1 (h1.2 rfl))
    | Or =>
      cases b with
      | false => exact I.TT C' R1 hs1 (h1.1 rfl) q
      | true => exact wpAny_pure (q _ _ _ hs1 R1 (h1.2 rfl))
theorem behind_off {op : CmpOp} {r : Expr} (h : isSetE r = false) : behindInMarks op r = false := by
  cases r <;> first | rfl | cases h
theorem cmpE_of {m : Sm} {l : Expr} {ops : List CmpOp} {rs : List Expr} {k : Bool → AS → Prop} (h : cmpE m P l ops rs σ k) : ∃ op r, ops = [op] ∧ rs = [r] ∧ Off (isSetE r) (m.E P l σ fun a σ => m.E P r σ fun b σ => cmpA P.ro op a b σ fun t => k t σ) := by
  cases ops with
  | nil => exact False.elim h
  | cons op ops => cases ops with
    | cons _ _ => exact False.elim h
    | nil => cases rs with
      | nil => exact False.elim h
      | cons r rs => cases rs with
        | cons _ _ => exact False.elim h
        | nil => exact ⟨op, r, rfl, rfl, h⟩
theorem sndT (I : Snd w K n) {e : Expr} {k : Bool → AS → Prop} {Q : Bool → Shared → Prop} (C : Cx w K P fd A (n + 1)) (R : Rep w fd fx σ s.heap) (hs : Same s₀ s) (h : stepT (sem n) P e σ k) (q : BQ w fd fx s₀ k Q) :
    wpAny (model PR w) A (isTrue e fd.env (eval e fd.env)) Q E s := by
  have C' := C.le (Nat.le_succ n)
  cases e <;> try (exact False.elim h)
  case UnaryOp op e p =>
    cases op <;> try (exact False.elim h)
    rw [arm_isTrue_UnaryOp]
    exact wpAny_bind (I.T C' R hs h fun b σ1 s1 hs1 R1 h1 => wpAny_pure (q _ _ _ hs1 R1 h1))
  case BoolOp op es p =>
    rw [arm_isTrue_BoolOp]
    exact I.TT C' R hs h q
  case Compare l ops rs p =>
    obtain ⟨op, r, rfl, rfl, h⟩ := cmpE_of (h : cmpE (sem n) P l ops rs σ k)
    obtain ⟨hset, h⟩ := h.get
    refine wpAny_isTrue_Compare1 (I.E C' R hs h fun V v σ1 s1 hv hs1 R1 h1 => I.E C' R1 hs1 h1 fun V2 v2 σ2 s2 hv2 hs2 R2 h2 => ?_) (behind_off hset)
    rw [C.fit.ro] at h2
    refine cmpA_sound R2 C.ro (by have := C.un; exact lin [_, _, _] (.lt (.a (.v 0) (.n 64)) (.v 1)) 1 (.c 1 (.lt (.a (.a (.v 0) (.m 32 (.a (.v 2) (.n 1)))) (.n 200)) (.v 1)) .e) (Eq.refl true) this) hv hv2 h2 fun b s3 hs3 R3 h3 => ?_
    exact wpAny_truthy_bool (q _ _ _ (hs2.trans hs3) R3 h3)
  all_goals
    refine wpAny_isTrue_value (I.E C' R hs h fun V v σ1 s1 hv hs1 R1 h1 => truQ C' R1 hv h1 fun b s2 hs2 R2 h2 => q _ _ _ (hs1.trans hs2) R2 h2) ?_
    rfl

theorem callA_keeper {f : Value} {F : AV} {Vs : List AV} {k : KV} (C : Cx w K P fd A (n + 1)) (hF : F.is f) (h : callA (sem n) P F Vs σ k) : ∀ h, K.In h → ∃ k, (k = Keeper.frame ∨ k = Keeper.machine ∨ k = Keeper.boundFrame) ∧ Looks (model PR w) h (keeperOf f) k := by
  unfold callA at h
  split at h
  · cases hF; exact fun h _ => ⟨_, .inr (.inl rfl), keeper_builtin _ _⟩
  · cases hF; exact fun h _ => ⟨_, .inr (.inl rfl), keeper_type _ _⟩
  · cases hF
    refine keeper_fn C ?_
    split at h
    · rename_i e; subst e; exact .head _
    split at h
    · rename_i e; subst e; exact .tail _ (.head _)
    · exact .tail _ (.tail _ (fn_mem h.h))
  · exact h.elim

theorem callE_sound (I : Snd w K n) {f : Expr} {args : List Expr} {ks : List Keyword} {pos : Pos} {k : KV} {Q : Value → Shared → Prop} (C : Cx w K P fd A (n + 1)) (R : Rep w fd fx σ s.heap) (hs : Same s₀ s) (h : callE (sem n) P f args ks pos σ k) (q : KQ w fd fx s₀ k Q) :
    wpAny (model PR w) A (eval (.Call f args ks pos) fd.env) Q E s := by
  have C' := C.le (Nat.le_succ n)
  unfold callE at h
  split at h
  rotate_left
  · exact h.elim
  split at h
  · exact methCall_sound I C R hs h q
  · refine Call_ (I.E C' R hs h fun V v σ1 s1 hv hs1 R1 h1 => ?_)
    refine callWithX (I := fun h => K.In h ∧ ∀ h, K.In h → ∃ k, (k = Keeper.frame ∨ k = Keeper.machine ∨ k = Keeper.boundFrame) ∧ Looks (model PR w) h (keeperOf v) k) (fun h X => X.2 h X.1)
      (wpAny_mono (I.G (Q := fun vs s' => (K.In s'.heap ∧ ∀ h, K.In h → ∃ k, (k = Keeper.frame ∨ k = Keeper.machine ∨ k = Keeper.boundFrame) ∧ Looks (model PR w) h (keeperOf v) k) ∧ wpAny (model PR w) A (call v vs) Q E s') C' R1 hs1 h1 fun Vs vs σ2 s2 hp hs2 R2 h2 => ?_) (fun a s' hh => ⟨hh.1, hh.2⟩) fun _ _ x => x)
    exact ⟨⟨repX C' R2, callA_keeper C hv h2⟩, callA_sound I C R2 hs2 hv hp h2 q⟩
  · exact h.elim
theorem iterE_sound (I : Snd w K n) {f : Expr} {xs : List Expr} {ks : List Keyword} {name : Str} {p0 p1 : Pos} {k : KV} {Q : Value → Shared → Prop} (C : Cx w K P fd A (n + 1)) (R : Rep w fd fx σ s.heap) (hs : Same s₀ s) (h : iterE (sem n) P f xs ks name σ k) (q : KQ w fd fx s₀ k Q) :
    wpAny (model PR w) A (eval (.Attribute (.Call f xs ks p0) name p1) fd.env) Q E s := by
  have C' := C.le (Nat.le_succ n)
  unfold iterE at h
  split at h
  rotate_left
  · exact h.elim
  split at h
  rotate_left
  · exact h.elim
  split at h
  rotate_left
  · exact h.elim
  split at h
  · rename_i hfn
    simp only [Bool.and_eq_true, decide_eq_true_eq] at hfn
    obtain ⟨rfl, rfl⟩ := hfn
    obtain ⟨⟨hst, hlk⟩, h⟩ := h
    refine Attribute_any_ (Call_ (name_sound C R hlk fun v hv => ?_)) (by rfl)
    cases hv
    rw [starEach_cons (fun e' p z => by subst z; cases hst)]
    refine callWithX (I := fun _ => True) (fun _ _ => ⟨_, .inr (.inl rfl), keeper_builtin _ _⟩) ?_
    refine evalArgs_plain (fun x z => by cases z) (Q := fun vs s' => True ∧ wpAny (model PR w) A (call (.builtin "iter") ([] ++ vs)) _ E s') ?_
    refine Calls.spliced_cons (I.E C' R hs h fun V v σ1 s1 hv hs1 R1 h1 => Calls.spliced_nil ⟨trivial, ?_⟩)
    rw [C.fit.ro] at h1
    unfold nextW at h1
    split at h1
    · rename_i a
      cases hv
      obtain ⟨l, H, hk⟩ := h1
      obtain ⟨vs, m, ho, hp⟩ := has_list R1 C.ro H
      refine iter_list ho ?_
      have R2 := rep_push (s := s1) R1 (o := liObj a 0) (x := .lit a 0) rfl
      obtain ⟨hh, g, d, tk, os⟩ := s1
      refine next_attr (Heap.get?_push_size _ rfl) ?_
      exact q (.ref _) _ _ _ rfl (hs1.trans ⟨.refl _, rfl, rfl⟩) (rep_push (s := ⟨hh.push (liObj a 0), g, d, tk, os⟩) R2 (o := mwObj hh.objs.size) (x := .mw hh.objs.size) rfl) (hk _ _)
    · exact h1.elim
  · exact h.elim
theorem attrE_sound (I : Snd w K n) {o : Expr} {name : Str} {pos : Pos} {k : KV} {Q : Value → Shared → Prop} (C : Cx w K P fd A (n + 1)) (R : Rep w fd fx σ s.heap) (hs : Same s₀ s) (h : attrE (sem n) P o name σ k) (q : KQ w fd fx s₀ k Q) :
    wpAny (model PR w) A (eval (.Attribute o name pos) fd.env) Q E s := by
  have C' := C.le (Nat.le_succ n)
  unfold attrE at h
  split at h
  · refine Attribute_name (I.E C' R hs h fun V v σ1 s1 hv hs1 R1 h1 => ?_)
    rw [C.fit.ro] at h1
    exact attrA_sound R1 C.ro C.X C.KF hv h1 fun V2 v2 s2 hv2 hs2 R2 h2 => q _ _ _ _ hv2 (hs1.trans hs2) R2 h2
  · exact iterE_sound I C R hs h q
  · refine Attribute_any_ (I.E C' R hs h fun V v σ1 s1 hv hs1 R1 h1 => ?_)
    rw [C.fit.ro] at h1
    exact attrA_sound R1 C.ro C.X C.KF hv h1 fun V2 v2 s2 hv2 hs2 R2 h2 => q _ _ _ _ hv2 (hs1.trans hs2) R2 h2
  · exact h.elim
theorem sliceE_sound (I : Snd w K n) {o : Expr} {lo hi st : Option Expr} {p0 pos : Pos} {k : KV} {Q : Value → Shared → Prop} (C : Cx w K P fd A (n + 1)) (R : Rep w fd fx σ s.heap) (hs : Same s₀ s) (h : sliceE (sem n) P o lo hi st σ k) (q : KQ w fd fx s₀ k Q) :
    wpAny (model PR w) A (eval (.Subscript o (.Slice lo hi st p0) pos) fd.env) Q E s := by
  have C' := C.le (Nat.le_succ n)
  unfold sliceE at h
  split at h
  rotate_left
  · exact h.elim
  split at h
  rotate_left
  · exact h.elim
  split at h
  · obtain ⟨hb, h⟩ := h.get
    refine sub_step (fun o i => [i, o]) (fun _ _ => rfl) (base_sound I C R hs hb h fun V v σ1 s1 hv hs1 R1 ht h1 => wpAny_Slice ?_)
    refine I.E C' R1 hs1 h1 fun V2 v2 σ2 s2 hv2 hs2 R2 h2 => wpAny_pure (wpAny_pure ⟨ht, ?_⟩)
    rw [C.fit.ro] at h2
    exact sliceA_sound (X := none) R2 C.ro hv hv2 (show optIs none Value.none from rfl) h2 fun V v σ s hv hs' R h => q _ _ _ _ hv (hs2.trans hs') R h
  · obtain ⟨hb, h⟩ := h.get
    refine sub_step (fun o i => [i, o]) (fun _ _ => rfl) (base_sound I C R hs hb h fun V v σ1 s1 hv hs1 R1 ht h1 => wpAny_Slice ?_)
    refine I.E C' R1 hs1 h1 fun V2 v2 σ2 s2 hv2 hs2 R2 h2 => I.E C' R2 hs2 h2 fun V3 v3 σ3 s3 hv3 hs3 R3 h3 => wpAny_pure ⟨ht, ?_⟩
    rw [C.fit.ro] at h3
    exact sliceA_sound (X := some V3) R3 C.ro hv hv2 hv3 h3 fun V v σ s hv hs' R h => q _ _ _ _ hv (hs3.trans hs') R h
theorem ix_ok {i : Expr} (h : isIx i = true) (o v : Value) : subscripted i false o v = operate [o, v] (getItem o v) := by
  cases i <;> first | rfl | cases h
theorem subE_sound (I : Snd w K n) {o i : Expr} {pos : Pos} {k : KV} {Q : Value → Shared → Prop} (C : Cx w K P fd A (n + 1)) (R : Rep w fd fx σ s.heap) (hs : Same s₀ s) (h : subE (sem n) P o i σ k) (q : KQ w fd fx s₀ k Q) :
    wpAny (model PR w) A (eval (.Subscript o i pos) fd.env) Q E s := by
  have C' := C.le (Nat.le_succ n)
  unfold subE at h
  split at h
  · exact sliceE_sound I C R hs h q
  · obtain ⟨hb, h⟩ := h.get
    obtain ⟨hb, hi⟩ := Bool.and_eq_true_iff.mp hb
    refine sub_step (fun o i => [o, i]) (ix_ok hi) (base_sound I C R hs hb h fun V v σ1 s1 hv hs1 R1 ht h1 => ?_)
    refine I.E C' R1 hs1 h1 fun V2 v2 σ2 s2 hv2 hs2 R2 h2 => ⟨ht, ?_⟩
    rw [C.fit.ro] at h2
    exact subA_sound R2 C.ro hv hv2 h2 fun V3 v3 s3 hv3 hs3 R3 h3 => q _ _ _ _ hv3 (hs2.trans hs3) R3 h3
theorem sndE (I : Snd w K n) (CI : CSnd w K n) {e : Expr} {k : KV} {Q : Value → Shared → Prop} (C : Cx w K P fd A (n + 1)) (R : Rep w fd fx σ s.heap) (hs : Same s₀ s) (h : stepE (sem n) P e σ k) (q : KQ w fd fx s₀ k Q) :
    wpAny (model PR w) A (eval e fd.env) Q E s := by
  have C' := C.le (Nat.le_succ n)
  cases e <;> try (exact False.elim h)
  case Constant c u p =>
    rw [arm_eval_Constant]
    cases c <;> try (exact False.elim h)
    · exact wpAny_pure (q .none _ _ _ rfl hs R h)
    · exact wpAny_pure (q (.bool _) _ _ _ rfl hs R h)
    · exact wpAny_mkInt (q _ _ _ _ (isI _ _) (hs.trans (same_val s _)) R h)
    · exact wpAny_mkText (q _ _ _ _ (isSt _ _) (hs.trans (same_val s _)) R h)
  case Name x p =>
    cases hV : lookNm P σ x with
    | some V =>
      have h : match lookNm P σ x with | some v => k v σ | none => False := h
      rw [hV] at h
      exact name_sound C R hV fun v hv => q _ _ _ _ hv hs R h
    | none =>
      have h : match lookNm P σ x with | some v => k v σ | none => False := h
      rw [hV] at h
      exact False.elim h
  case BinOp l op r p =>
    rw [arm_eval_BinOp]
    refine wpAny_bind (I.E C' R hs h fun V v σ1 s1 hv hs1 R1 h1 => wpAny_bind (wpAny_holding (I.E C' R1 hs1 h1 fun V2 v2 σ2 s2 hv2 hs2 R2 h2 => wpAny_bind (wpAny_standAt (wpAny_operating ?_)))))
    rw [C.fit.ro] at h2
    exact binA_sound R2 C.ro hs2 hv hv2 h2 q
  case BoolOp op es p =>
    rw [arm_eval_BoolOp]
    exact I.Q C' R hs h q
  case Compare l ops rs p =>
    obtain ⟨op, r, rfl, rfl, h⟩ := cmpE_of (h : cmpE (sem n) P l ops rs σ fun t σ => k (.bool t) σ)
    obtain ⟨hset, h⟩ := h.get
    refine wpAny_Compare1 (I.E C' R hs h fun V v σ1 s1 hv hs1 R1 h1 => I.E C' R1 hs1 h1 fun V2 v2 σ2 s2 hv2 hs2 R2 h2 => ?_) (behind_off hset)
    rw [C.fit.ro] at h2
    exact cmpA_sound R2 C.ro (by have := C.un; exact lin [_, _, _] (.lt (.a (.v 0) (.n 64)) (.v 1)) 1 (.c 1 (.lt (.a (.a (.v 0) (.m 32 (.a (.v 2) (.n 1)))) (.n 200)) (.v 1)) .e) (Eq.refl true) this) hv hv2 h2 fun b s3 hs3 R3 h3 => q (.bool b) _ _ _ rfl (hs2.trans hs3) R3 h3
  case Call f args ks p => exact callE_sound I C R hs h q
  case Attribute o nm p => exact attrE_sound I C R hs h q
  case Subscript o i p => exact subE_sound I C R hs h q
  case List es p =>
    rw [arm_eval_List]
    refine wpAny_bind (wpAny_standAt (wpAny_bind (I.A C' R hs h fun Vs vs σ1 s1 hp hs1 R1 h1 => wpAny_newList ?_ (by rw [← hp.length]; exact lim_line h1.1))))
    exact q (.ref _) _ _ _ rfl (hs1.trans (same_hp s1 _ s1.toks)) (rep_push R1 (x := .list Vs) ⟨vs, 0, rfl, hp⟩) (h1.2 _)
  case Dict ks vs p =>
    cases ks with
    | cons _ _ => exact False.elim h
    | nil => cases vs with
    | cons _ _ => exact False.elim h
    | nil =>
    rw [eval_Dict_empty]
    refine wpAny_bind (wpAny_standAt ?_)
    unfold newDict
    rcases (h : Cl _) with h | h
    · refine wpAny_newObj_type (q (.ref _) _ _ _ rfl (hs.trans (same_hp s _ s.toks)) (rep_push R (x := .dict []) ?_) (h _))
      obtain ⟨o, ho, hd⟩ := Heap.dictOf_iff.mp (Heap.DictOf.new (knd := PySem.strKind PR w) s.heap)
      rw [Heap.get?_push_size _ rfl] at ho; cases ho
      exact ⟨[], hd, .nil⟩
    · refine wpAny_newObj_type (q (.ref _) _ _ _ rfl (hs.trans (same_hp s _ s.toks)) (rep_push R (x := .idict []) ?_) (h _))
      obtain ⟨o, ho, hd⟩ := Heap.dictOf_iff.mp (Heap.DictOf.new (knd := intKind PR w) s.heap)
      rw [Heap.get?_push_size _ rfl] at ho; cases ho
      exact ⟨[], hd, .nil⟩
  case ListComp => exact CI.L C R hs h q
  case DictComp => exact CI.D C R hs h q
  case NamedExpr t e p =>
    cases t <;> try (exact False.elim h)
    case Name x px =>
    refine wpAny_NamedExpr (I.E C' R hs h fun V v σ1 s1 hv hs1 R1 h1 => ?_)
    split at h1
    · rename_i hst
      rw [arm_assign_Name]
      refine wpAny_bind (wpAny_standAt ?_)
      unfold bindName
      refine wpAny_bind (wpAny_holding (wpAny_point (wpAny_bind (store_sound C' R1 hst hv fun s2 hs2 R2 => wpAny_point ?_))))
      exact q _ _ _ _ hv (hs1.trans hs2) R2 h1
    · exact h1.elim

theorem sndU (CI : CSnd w K n) {e : Expr} {k : KV} {k2 : AS → Prop} {f : Value → Sem Unit} {Q : Unit → Shared → Prop} (C : Cx w K P fd A (n + 1)) (R : Rep w fd fx σ s.heap) (hs : Same s₀ s) (h : stepE (sem n) P e σ k) (he : isCmp e = true)
    (hf : ∀ V v fx σ s (E : Value → Shared → Prop) (Q' : Unit → Shared → Prop), V.is v → Same s₀ s → Rep w fd fx σ s.heap → k V σ → UQ w fd fx s₀ k2 Q' → wpAny (model PR w) A (f v) Q' E s) (q : UQ w fd fx s₀ k2 Q) :
    wpAny (model PR w) A (evalThenUse e fd.env f) Q E s := by
  cases isCmp_inv he with
  | l _ _ _ _ => exact CI.LU C R hs h hf q
  | s _ _ _ _ => exact False.elim h
  | d _ _ _ _ _ => exact CI.DU C R hs h hf q
end
end Mine
end

section
open PySem PySem.W PyProof.Rows PySem.Calls PySem.Spec
open Sem (wp)
set_option maxRecDepth 100000
namespace Mine

section
variable {w : World} {A : Around} {E : Value → Shared → Prop} {s s₀ : Shared} {fd : FD} {fx : List (Addr × Obj)} {σ : AS} {K : Frag} {P : Prm} {n : Nat}

theorem bind_sound (C : Cx w K P fd A n) (R : Rep w fd fx σ s.heap) (hs : Same s₀ s) {x : Str} {V : AV} {v : Value} {k : AS → Prop} {Q : Unit → Shared → Prop} (hx : storable P x = true) (hv : V.is v) (h : k ⟨upd x V σ.loc, σ.hp⟩) (q : UQ w fd fx s₀ k Q) :
    wpAny (model PR w) A (bindName fd.env x v) Q E s := by
  unfold bindName
  exact wpAny_bind (wpAny_holding (wpAny_point (wpAny_bind (store_sound C R hx hv fun s2 hs2 R2 => wpAny_point (q _ _ (hs.trans hs2) R2 h)))))
theorem UQ.of (hs : Same s₀ s) {k : AS → Prop} {Q : Unit → Shared → Prop} (q : UQ w fd fx s₀ k Q) : UQ w fd fx s k Q := fun σ s' hs' R h => q σ s' (hs.trans hs') R h
theorem KQ.of (hs : Same s₀ s) {k : KV} {Q : Value → Shared → Prop} (q : KQ w fd fx s₀ k Q) : KQ w fd fx s k Q := fun V v σ s' hv hs' R h => q V v σ s' hv (hs.trans hs') R h

theorem assign_sound (I : Snd w K n) {t : Expr} {V : AV} {v : Value} {k : AS → Prop} {Q : Unit → Shared → Prop} (C : Cx w K P fd A (n + 1)) (R : Rep w fd fx σ s.heap) (hs : Same s₀ s) (hv : V.is v) (h : assignA (sem n) P t V σ k) (q : UQ w fd fx s₀ k Q) :
    wpAny (model PR w) A (assign t fd.env v) Q E s := by
  have C' := C.le (Nat.le_succ n)
  unfold assignA at h
  split at h
  · split at h
    · rename_i hst
      rw [arm_assign_Name]
      exact wpAny_bind (wpAny_standAt (bind_sound C R hs hst hv h q))
    · exact h.elim
  · rw [arm_assign_Attribute]
    refine wpAny_bind (wpAny_holding (I.E C' R hs h fun V1 v1 σ1 s1 hv1 hs1 R1 h1 => wpAny_bind (wpAny_standAt (wpAny_bind (wpAny_holding ?_)))))
    rw [C.fit.ro] at h1
    exact setA_sound R1 C.ro C.X C.KF hv1 hv h1 fun σ2 s2 hs2 R2 h2 => wpAny_release (q _ _ (hs1.trans hs2) R2 h2)
  · obtain ⟨_, h⟩ := h.get
    rw [arm_assign_Subscript]
    refine wpAny_bind (wpAny_holding (I.E C' R hs h fun V1 v1 σ1 s1 hv1 hs1 R1 h1 => wpAny_bind (wpAny_holding (I.E C' R1 hs1 h1 fun V2 v2 σ2 s2 hv2 hs2 R2 h2 => wpAny_bind (wpAny_standAt (wpAny_bind (wpAny_holding ?_)))))))
    exact setI_sound R2 hv1 hv2 hv h2 fun σ3 s3 hs3 R3 h3 => wpAny_release (q _ _ (hs2.trans hs3) R3 h3)
  · exact h.elim

theorem swaps_no (e : Expr) (t : Option Expr) (l : Nat) (env : Env) (h : compS e = none) : swapsWith e t l env = pure false := by
  delta swapsWith
  delta compS at h
  rw [h]
theorem nm_some (f : Str → Pos → Bool) (t : Expr) (a : Unit → Sem Bool) : ∃ b, PySem.swapsWith.match_4 (fun _ => Sem Bool) (some t) a (fun x p => pure (f x p)) (fun _ => pure false) = pure b := by
  cases t <;> exact ⟨_, rfl⟩
theorem swaps_some (e t : Expr) (l : Nat) (env : Env) {sc : Scope} (h : compS e = some sc) : ∃ b, swapsWith e (some t) l env = pure b := by
  delta swapsWith
  delta compS at h
  rw [h]
  exact nm_some _ t _
theorem swaps_cases (t e : Expr) (l : Nat) (env : Env) : ∃ b, swapsWithSole [t] e l env = pure b ∧ (b = true → isCmp e = true) := by
  cases h : compS e with
  | none => exact ⟨false, swaps_no e (some t) l env h, fun z => nomatch z⟩
  | some sc =>
    obtain ⟨b, e2⟩ := swaps_some e t l env h
    exact ⟨b, e2, fun _ => congrArg Option.isSome h⟩
theorem swapsNone (e : Expr) (l : Nat) (env : Env) (h : isCmp e = false) : swapsWith e none l env = pure false :=
  swaps_no e none l env (Option.not_isSome_iff_eq_none.mp fun z => Bool.false_ne_true (h.symm.trans z))
theorem swapped_one (t e : Expr) (env : Env) (h : ∀ a b c, t ≠ .Tuple a b c) (h2 : ∀ a b, t ≠ .List a b) : swappedStores [t] e env = pure none := by
  unfold swappedStores
  cases t <;> first | rfl | exact absurd rfl (h _ _ _) | exact absurd rfl (h2 _ _)
theorem swapped_two (t t' e : Expr) (env : Env) : swappedStores [t, t'] e env = pure none := by
  unfold swappedStores
  cases t <;> first | rfl | (cases e <;> rfl)
theorem assignEach_one {t : Expr} {env : Env} (h : ∀ e' p, t = .Starred e' p → False) : (assignEach [t] env).map (·.2) = [assign t env] := by
  cases t <;> first | rfl | exact (h _ _ rfl).elim
theorem assignEach_two {t t' : Expr} {env : Env} (h : ∀ e' p, t = .Starred e' p → False) (h' : ∀ e' p, t' = .Starred e' p → False) : (assignEach [t, t'] env).map (·.2) = [assign t env, assign t' env] := by
  refine Eq.trans ?_ (congrArg (assign t env :: ·) (assignEach_one h'))
  cases t <;> first | rfl | exact (h _ _ rfl).elim

/-- the statement `t = e` -/
theorem assign1_sound (I : Snd w K n) {t e : Expr} {pos : Pos} {k : AS → Prop} {Q : Flow → Shared → Prop} (C : Cx w K P fd A (n + 1)) (R : Rep w fd fx σ s.heap) (hs : Same s₀ s) (h : (sem n).E P e σ fun v σ => assignA (sem n) P t v σ k)
    (htt : okT t = true) (q : UQ w fd fx s₀ k fun _ => Q .next) : wpAny (model PR w) A (exec (.Assign [t] e pos) fd.env) Q E s := by
  have C' := C.le (Nat.le_succ n)
  have t1 : ∀ a b c, t ≠ .Tuple a b c := fun a b c e => by subst e; cases htt
  have t2 : ∀ a b, t ≠ .List a b := fun a b e => by subst e; cases htt
  have t3 : ∀ e' p, t = .Starred e' p → False := fun a b e => by subst e; cases htt
  rw [arm_exec_Assign]
  refine wpAny_bind (wpAny_standAt ?_)
  obtain ⟨b, hb, hcmp⟩ := swaps_cases t e pos.line fd.env
  refine wpAny_bind (wpAny_of_eq hb ?_)
  rw [assignEach_one t3]
  cases b with
  | false =>
    rw [if_neg (by decide)]
    refine wpAny_bind (I.E C' R hs h fun V v σ1 s1 hv hs1 R1 h1 => ?_)
    refine wpAny_bind (wpAny_of_eq (swapped_one t e fd.env t1 t2) ?_)
    refine (?_ : wpAny _ _ (assign t fd.env v >>= fun _ => pure Flow.next) _ _ _)
    exact wpAny_bind (assign_sound I C R1 hs1 hv h1 fun σ2 s2 hs2 R2 h2 => wpAny_pure (q _ _ hs2 R2 h2))
  | true =>
    rw [if_pos rfl]
    refine wpAny_bind (I.U C' R hs h (hcmp rfl) (k2 := k) (fun V v fx σ s E Q' hv hs' R' h' q' => ?_) fun σ2 s2 hs2 R2 h2 => wpAny_pure (q _ _ hs2 R2 h2))
    refine (?_ : wpAny _ _ (assign t fd.env v) _ _ _)
    exact assign_sound I C R' hs' hv h' q'
theorem assign2_sound (I : Snd w K n) {t t' e : Expr} {pos : Pos} {k : AS → Prop} {Q : Flow → Shared → Prop} (C : Cx w K P fd A (n + 1)) (R : Rep w fd fx σ s.heap) (hs : Same s₀ s) (h : (sem n).E P e σ fun v σ => assignA (sem n) P t v σ fun σ => assignA (sem n) P t' v σ k)
    (htt : okT t = true) (htt' : okT t' = true) (q : UQ w fd fx s₀ k fun _ => Q .next) : wpAny (model PR w) A (exec (.Assign [t, t'] e pos) fd.env) Q E s := by
  have C' := C.le (Nat.le_succ n)
  have t3 : ∀ e' p, t = .Starred e' p → False := fun a b e => by subst e; cases htt
  have t3' : ∀ e' p, t' = .Starred e' p → False := fun a b e => by subst e; cases htt'
  rw [arm_exec_Assign]
  refine wpAny_bind (wpAny_standAt ?_)
  refine wpAny_bind (wpAny_of_eq (show swapsWithSole [t, t'] e pos.line fd.env = pure false from rfl) ?_)
  rw [if_neg (by decide)]
  refine wpAny_bind (I.E C' R hs h fun V v σ1 s1 hv hs1 R1 h1 => ?_)
  refine wpAny_bind (wpAny_of_eq (swapped_two t t' e fd.env) ?_)
  rw [assignEach_two t3 t3']
  refine (?_ : wpAny _ _ ((holding [v] (assign t fd.env v) >>= fun _ => assign t' fd.env v) >>= fun _ => pure Flow.next) _ _ _)
  refine wpAny_bind (wpAny_bind (wpAny_holding (assign_sound I C R1 hs1 hv h1 fun σ2 s2 hs2 R2 h2 => ?_)))
  exact assign_sound I C R2 hs2 hv h2 fun σ3 s3 hs3 R3 h3 => wpAny_pure (q _ _ hs3 R3 h3)
end
end Mine
end

section
open PySem PySem.W PyProof.Rows PySem.Calls PySem.Spec
open Sem (wp)
set_option maxRecDepth 100000
namespace Mine

/-- a run of items -/
structure Stream (w : World) (K : Frag) (A : Around) (h0 : Heap → Prop) (target : Expr) (ts : List Str) (it : Value) (items : Items) (keep : AS → Prop) (T : Nat → List (Addr × Obj) → Prop) : Prop where
  cell : ∀ i trk, T i trk → ∀ p ∈ trk, ∀ v, p.2.data ≠ .cell v
  next : ∀ {P fd fx n i trk σ s vs k} {E E' : Value → Shared → Prop} {Q' : Unit → Shared → Prop}, Cx w K P fd A n → fd.Gr = h0 → T i trk → Rep w fd (trk ++ fx) σ s.heap → keep σ → items[i]? = some vs → storeAll P ts vs σ k →
    (∀ trk' σ1 s1, T (i + 1) trk' → Same s s1 → Rep w fd (trk' ++ fx) σ1 s1.heap → k σ1 → Q' () s1) →
    wpAny (model PR w) A (pyNext it) (fun r s₁ => ∃ v, r = some v ∧ wpAny (model PR w) A (letOwnedTupleGo target it v) (fun _ s₂ => wpAny (model PR w) A (assign target fd.env v) Q' E' s₂) E' s₁) E s
  self : ∀ {P fd fx n i trk σ s} {E : Value → Shared → Prop} {Q : Value → Shared → Prop}, isNm target = true → Cx w K P fd A n → fd.Gr = h0 → T i trk → Rep w fd (trk ++ fx) σ s.heap → keep σ → Q it s → wpAny (model PR w) A (pyIter it) Q E s
  stop : ∀ {P fd fx n trk σ s} {E : Value → Shared → Prop} {Q : Option Value → Shared → Prop}, Cx w K P fd A n → fd.Gr = h0 → T items.length trk → Rep w fd (trk ++ fx) σ s.heap → keep σ → (∀ s1, Same s s1 → Rep w fd fx σ s1.heap → Q none s1) →
    wpAny (model PR w) A (pyNext it) Q E s

section
variable {w : World} {A : Around} {E : Value → Shared → Prop} {s s₀ : Shared} {fd : FD} {fx : List (Addr × Obj)} {σ : AS} {K : Frag} {P : Prm} {n : Nat}

theorem Rep.drops {h : Heap} : ∀ {trk : List (Addr × Obj)}, (∀ p ∈ trk, ∀ v, p.2.data ≠ .cell v) → Rep w fd (trk ++ fx) σ h → Rep w fd fx σ h
  | [], _, R => R
  | (a, o) :: trk, hc, R => Rep.drops (trk := trk) (fun p hp => hc p (.tail _ hp)) (Rep.fx_drop (r := a) (o := o) R (hc _ (.head _)))

theorem Rep.drop_any {h h' : Heap} {r : Addr} {o : Obj} (R : Rep w fd ((r, o) :: fx) σ h) (k : ExtB r h h') (hc : ∀ v, o.data ≠ .cell v) : Rep w fd fx σ h' := by
  obtain ⟨g0, GT, mf, own, news, F, N, nd, H, V, hz⟩ := R
  have nd' := List.nodup_cons.mp nd
  refine ⟨g0, GT, mf, own, news, frExtB F N (.head _) k, fun p hp => ?_, nd'.2, H, V.fx_set hc, hz⟩
  have D := N p (.tail _ hp)
  exact ⟨k _ _ (fun z => nd'.1 (by rw [← z]; exact List.mem_map_of_mem (f := (·.1)) hp)) D.1, D.2⟩

theorem storeAll_one {x : Str} {V : AV} {k : AS → Prop} (h : storeAll P [x] [V] σ k) : storable P x = true ∧ k ⟨upd x V σ.loc, σ.hp⟩ := by
  unfold storeAll at h
  split at h
  · rename_i e; exact ⟨e, h⟩
  · exact h.elim
theorem storeAll_two {x y : Str} {V U : AV} {k : AS → Prop} (h : storeAll P [x, y] [V, U] σ k) : storable P x = true ∧ storable P y = true ∧ k ⟨upd y U (upd x V σ.loc), σ.hp⟩ := by
  unfold storeAll at h
  split at h
  · rename_i e
    obtain ⟨a, b⟩ := storeAll_one h
    exact ⟨e, a, b⟩
  · exact h.elim

theorem stream_walk {I : Addr} {fp : List Addr} {fz : List (Addr × Obj)} {Pv : Nat → Value → Prop} {St : Nat → Heap → Prop} {items : Items} {keep : AS → Prop} {x : Str} {px : Pos} {h0 : Heap → Prop}
    (W : Walks PR w A I fp [I] items.length Pv St) (hfp : ∀ b ∈ fp, b = I ∨ ∃ o, (b, o) ∈ fz) (hP : ∀ i v, i < items.length → Pv i v → ∃ V, items[i]? = some [V] ∧ V.is v)
    (obj : ∀ i h, St i h → ∃ o, h.get? I = some o ∧ ∀ v, o.data ≠ .cell v) (hne : ∀ p ∈ fz, p.1 ≠ I)
    (under : ∀ {fd fx σ h}, fd.Gr = h0 → keep σ → Rep w fd fx σ h → ∀ p ∈ fz, h.get? p.1 = some p.2) :
    Stream w K A h0 (.Name x px) [x] (.ref I) items keep (fun i trk => ∃ o, trk = [(I, o)] ∧ (∀ v, o.data ≠ .cell v) ∧ ∀ h, h.get? I = some o → (∀ p ∈ fz, h.get? p.1 = some p.2) → St i h) where
  cell := fun i trk ht p hp => by
    obtain ⟨o, rfl, hc, _⟩ := ht
    rcases List.mem_singleton.mp hp with rfl
    exact hc
  next := by
    intro P fd fx n i trk σ s vs k E E' Q' C h0e hT R hk hi hst q
    obtain ⟨o, rfl, hc, hSt⟩ := hT
    have hlt : i < items.length := (List.getElem?_eq_some_iff.mp hi).1
    refine W.item i s _ _ hlt (hSt _ R.fx_get (under h0e hk R)) fun v h' tk hv hst' hmv => ⟨v, rfl, ?_⟩
    obtain ⟨V, hV, hvi⟩ := hP i v hlt hv
    rw [hV] at hi; cases hi
    obtain ⟨o', ho', hc'⟩ := obj _ _ hst'
    have R1 : Rep w fd ((I, o') :: fx) σ h' := R.fx_set (fun b ob hb e => hmv b ob (fun z => hb (List.mem_singleton.mp z)) e) ho' hc
    refine (?_ : wpAny _ _ (pure ()) _ _ _)
    refine wpAny_pure ?_
    obtain ⟨hsb, hst⟩ := storeAll_one hst
    rw [arm_assign_Name]
    refine wpAny_bind (wpAny_standAt (bind_sound (s₀ := s) (k := k) C R1 (same_hp s _ _) hsb hvi hst fun σ1 s1 hs1 R1' hk1 => ?_))
    refine q [(I, o')] _ _ ⟨o', rfl, hc', fun h e1 e2 => ?_⟩ hs1 R1' hk1
    refine W.frame _ h' h hst' fun b hb ob eb => ?_
    rcases hfp b hb with rfl | ⟨ob', hm⟩
    · rw [ho'] at eb; cases eb; exact e1
    · have e3 := under h0e hk R1 _ hm
      rw [e3] at eb; cases eb
      exact e2 _ hm
  self := by
    intro P fd fx n i trk σ s E Q _ C h0e hT R hk q
    obtain ⟨o, rfl, hc, hSt⟩ := hT
    exact W.self i s _ _ (hSt _ R.fx_get (under h0e hk R)) q
  stop := by
    intro P fd fx n trk σ s E Q C h0e hT R hk q
    obtain ⟨o, rfl, hc, hSt⟩ := hT
    refine W.done s _ _ (hSt _ R.fx_get (under h0e hk R)) fun h' tk hmv => q _ (same_hp s _ _) ?_
    have R0 : Rep w fd ((I, o) :: fx) σ s.heap := R
    exact R0.drop_any (fun b ob hb e => hmv b ob (fun z => hb (List.mem_singleton.mp z)) e) hc
end
end Mine
end

section
open PySem PySem.W PyProof.Rows PySem.Calls PySem.Spec
open Sem (wp)
set_option maxRecDepth 100000
namespace Mine
section
variable {w : World} {A : Around} {E : Value → Shared → Prop} {s s₀ : Shared} {fd : FD} {fx : List (Addr × Obj)} {σ : AS} {K : Frag} {P : Prm} {n : Nat}

theorem Rep.fx_set2 {h h' : Heap} {a b : Addr} {oa ob oa' ob' : Obj} (R : Rep w fd ((a, oa) :: (b, ob) :: fx) σ h) (k : ∀ c o, c ≠ a → c ≠ b → h.get? c = some o → h'.get? c = some o) (ha : h'.get? a = some oa') (hb : h'.get? b = some ob')
    (ca : ∀ v, oa.data ≠ .cell v) (cb : ∀ v, ob.data ≠ .cell v) : Rep w fd ((a, oa') :: (b, ob') :: fx) σ h' := by
  obtain ⟨g0, GT, mf, own, news, F, N, nd, H, V, hz⟩ := R
  have Na := N (a, oa) (.head _)
  have Nb := N (b, ob) (.tail _ (.head _))
  have nd' := List.nodup_cons.mp nd
  have nd2 := List.nodup_cons.mp nd'.2
  refine ⟨g0, GT, mf, own, news, ?_, ?_, nd, H, ?_, hz⟩
  · obtain ⟨oL, es, ep, hL, r⟩ := F.ns
    exact ⟨⟨oL, es, ep, k _ _ (Ne.symm Na.2.1) (Ne.symm Nb.2.1) hL, r⟩, fun c o e => k _ _ (fr_ne F N (.head _) c o e) (fr_ne F N (.tail _ (.head _)) c o e) (F.keep c o e), F.above⟩
  · intro p hp
    rcases List.mem_cons.mp hp with rfl | hp
    · exact ⟨ha, Na.2⟩
    rcases List.mem_cons.mp hp with rfl | hp
    · exact ⟨hb, Nb.2⟩
    have D := N p (.tail _ (.tail _ hp))
    refine ⟨k _ _ (fun z => nd'.1 ?_) (fun z => nd2.1 ?_) D.1, D.2⟩
    · rw [← z]; exact .tail _ (List.mem_map_of_mem (f := (·.1)) hp)
    · rw [← z]; exact List.mem_map_of_mem (f := (·.1)) hp
  · exact ((V.fx_set ca).fx_set cb).fx_cons.fx_cons

theorem assign_two (C : Cx w K P fd A n) (R : Rep w fd fx σ s.heap) (hs : Same s₀ s) {x y : Str} {px py : Pos} {V U : AV} {v u : Value} {k : AS → Prop} {Q : Unit → Shared → Prop} (hv : V.is v) (hu : U.is u) (h : storeAll P [x, y] [V, U] σ k)
    (q : UQ w fd fx s₀ k Q) : wpAny (model PR w) A (do holding [u] (assign (.Name x px) fd.env v); do holding [] (assign (.Name y py) fd.env u); pure ()) Q E s := by
  obtain ⟨h1, h2, h3⟩ := storeAll_two h
  refine wpAny_bind (wpAny_holding ?_)
  rw [arm_assign_Name]
  refine wpAny_bind (wpAny_standAt (bind_sound (s₀ := s₀) (k := fun σ1 => k ⟨upd y U σ1.loc, σ1.hp⟩) C R hs h1 hv h3 fun σ1 s1 hs1 R1 hk1 => ?_))
  refine wpAny_bind (wpAny_holding ?_)
  rw [arm_assign_Name]
  exact wpAny_bind (wpAny_standAt (bind_sound (s₀ := s₀) C R1 hs1 h2 hu hk1 fun σ2 s2 hs2 R2 hk2 => wpAny_pure (q _ _ hs2 R2 hk2)))

noncomputable def enumObj (it : Addr) (i : Nat) (old : Value) : Obj := { cls := .type "enumerate", dict := none, data := .fields #[.none, .bool false, .ref it, rawInt i, .none, old], slots := #[] }

theorem stream_enum {e it l : Addr} {ol : Obj} {L : List AV} {vs : List Value} {m : Nat} {keep : AS → Prop} {x y : Str} {px py : Pos} {k1 : Nat} {pt : Pos} {h0 : Heap → Prop} (hh : A.handled = none) (hp : Paired AV.is L vs) (hol : ol = LObj vs m)
    (hel : e ≠ it) (hle : l ≠ e) (hli : l ≠ it) (under : ∀ {fd fx σ h}, fd.Gr = h0 → keep σ → Rep w fd fx σ h → h.get? l = some ol) :
    Stream w K A h0 (.Tuple [.Name x px, .Name y py] k1 pt) [x, y] (.ref e) (L.zipIdx.map fun p => [.int p.2, p.1]) keep
      (fun i trk => ∃ old oi, trk = [(e, enumObj it i old), (it, oi)] ∧ (∀ v, oi.data ≠ .cell v) ∧ ∀ h : Heap, h.get? it = some oi → h.IsListIter it l i) where
  cell := fun i trk ht p hpm => by
    obtain ⟨old, oi, rfl, hc, _⟩ := ht
    rcases List.mem_cons.mp hpm with rfl | hpm
    · intro v q; cases q
    · rcases List.mem_singleton.mp hpm with rfl; exact hc
  next := by
    intro P fd fx n i trk σ s vs1 k E E' Q' C h0e hT R hk hi hst q
    obtain ⟨old, oi, rfl, hc, hIt⟩ := hT
    have R : Rep w fd ((e, enumObj it i old) :: (it, oi) :: fx) σ s.heap := R
    have he : IsEnum s.heap e it ((i : Nat) : Int) old := R.fx_get
    have hgi : s.heap.get? it = some oi := by
      obtain ⟨g0, GT, mf, own, news, F, N, _⟩ := R
      exact (N (it, oi) (.tail _ (.head _))).1
    have hit := hIt _ hgi
    have hl : s.heap.IsList l vs.toArray := by
      have := under h0e hk R
      rw [hol] at this; exact isl this
    rw [List.getElem?_map, List.getElem?_zipIdx] at hi
    cases hLi : L[i]? with
    | none => rw [hLi] at hi; cases hi
    | some V =>
      rw [hLi] at hi
      simp only [Option.map_some, Option.some.injEq] at hi
      subst hi
      obtain ⟨v, hv, hvi⟩ := Paired.get hp hLi
      have heH : e < s.heap.objs.size := Heap.lt_size he
      have hiH : it < s.heap.objs.size := Heap.lt_size hgi
      refine wpAny_pyNext_enum_item he hit hl (by simpa using hv) hel fun h₁ heo hit₁ ht₁ hz₁ hk₁ => ⟨_, rfl, ?_⟩
      refine wpAny_letOwnedTupleGo_enum heo fun h₂ he₂ hs₂ => ?_
      replace hs₂ : Heap.SameBut e h₁ h₂ := hs₂
      have ht₂ : h₂.IsTuple s.heap.objs.size #[.int i s.toks, v] := ⟨_, (hs₂.2 _ (Nat.ne_of_gt heH)).trans ht₁, rfl, _, rfl⟩
      have hz₂ : h₂.objs.size = s.heap.objs.size + 1 := hs₂.1.trans hz₁
      refine wpAny_assign_Tuple hh ht₂ rfl rfl fun h₃ hx₃ => ?_
      replace hx₃ : Heap.ExtBut h₂.objs.size h₂ h₃ := hx₃
      have old₃ : ∀ b o, b < s.heap.objs.size → h₂.get? b = some o → h₃.get? b = some o := fun b o hb x => hx₃ b o (by rw [hz₂]; exact Nat.ne_of_lt (Nat.lt_succ_of_lt hb)) x
      obtain ⟨oi', hgi', hci', hdi'⟩ := hit₁
      have hgi3 : h₃.get? it = some oi' := old₃ _ _ hiH ((hs₂.2 _ (Ne.symm hel)).trans hgi')
      have he3 : h₃.get? e = some (enumObj it (i + 1) v) := old₃ _ _ heH he₂
      have R1 : Rep w fd ((e, enumObj it (i + 1) v) :: (it, oi') :: fx) σ h₃ := R.fx_set2 (fun b o hbe hbi x => old₃ b o (Heap.lt_size x) ((hs₂.2 _ hbe).trans (hk₁ b o hbe hbi x))) he3 hgi3 (fun _ q => by cases q) hc
      have hc' : ∀ v, oi'.data ≠ .cell v := fun v q => by rw [q] at hdi'; cases hdi'
      refine (?_ : wpAny _ A (do holding [v] (assign (.Name x px) fd.env (.int i s.toks)); do holding [] (assign (.Name y py) fd.env v); pure ()) _ _ _)
      refine assign_two (s := { s with heap := h₃, toks := s.toks + 1 }) (s₀ := s) C R1 (same_hp s _ _) (V := .int i) ⟨_, rfl⟩ hvi ?_ fun σ1 s1 hs1 R1' hk1 => q _ _ _ ⟨v, oi', rfl, hc', fun h e1 => ⟨oi', e1, hci', hdi'⟩⟩ hs1 R1' hk1
      simpa using hst
  self := by
    intro P fd fx n i trk σ s E Q hn; cases hn
  stop := by
    intro P fd fx n trk σ s E Q C h0e hT R hk q
    obtain ⟨old, oi, rfl, hc, hIt⟩ := hT
    have R : Rep w fd ((e, enumObj it _ old) :: (it, oi) :: fx) σ s.heap := R
    have he := R.fx_get
    have hgi : s.heap.get? it = some oi := by
      obtain ⟨g0, GT, mf, own, news, F, N, _⟩ := R
      exact (N (it, oi) (.tail _ (.head _))).1
    have hit := hIt _ hgi
    have hl : s.heap.IsList l vs.toArray := by
      have := under h0e hk R
      rw [hol] at this; exact isl this
    have hlen := hp.length
    refine wpAny_pyNext_enum_end hh he hit hl (by simp [hlen]) fun h' hx => q _ (same_hp s _ s.toks) ?_
    have R2 : Rep w fd ((it, oi) :: fx) σ s.heap := R.fx_drop fun _ q => by cases q
    exact R2.drop_any (fun b o hb x => hx b o hb x) hc

theorem stream_items {it d : Addr} {od : Obj} {L : List (Str × AV)} {kvs : List (Str × Value)} {ep : Nat} {keep : AS → Prop} {x y : Str} {px py : Pos} {k1 : Nat} {pt : Pos} {h0 : Heap → Prop} (hh : A.handled = none) (hp : Paired kvIs L kvs)
    (hat : ∀ h : Heap, h.get? d = some od → h.DictAt (PySem.strKind PR w) d kvs ep) (hdi : d ≠ it) (under : ∀ {fd fx σ h}, fd.Gr = h0 → keep σ → Rep w fd fx σ h → h.get? d = some od) :
    Stream w K A h0 (.Tuple [.Name x px, .Name y py] k1 pt) [x, y] (.ref it) (L.map fun p => [.str p.1, p.2]) keep
      (fun i trk => ∃ ok ov, trk = [(it, { cls := .type "dict_itemiterator", dict := none, data := .fields #[.none, .bool false, .ref d, .int i 0, .int kvs.length 0, .int ep 0, ok, ov], slots := #[] })]) where
  cell := fun i trk ht p hpm => by
    obtain ⟨ok, ov, rfl⟩ := ht
    rcases List.mem_singleton.mp hpm with rfl
    intro v q; cases q
  next := by
    intro P fd fx n i trk σ s vs1 k E E' Q' C h0e hT R hk hi hst q
    obtain ⟨ok, ov, rfl⟩ := hT
    have hit : IsItemIter s.heap it d i kvs.length ep ok ov := Rep.fx_get R
    have hm := hat _ (under h0e hk R)
    rw [List.getElem?_map] at hi
    cases hLi : L[i]? with
    | none => rw [hLi] at hi; cases hi
    | some p =>
      rw [hLi] at hi
      simp only [Option.map_some, Option.some.injEq] at hi
      subst hi
      obtain ⟨⟨k', v⟩, hv, hke, hvi⟩ := Paired.get hp hLi
      simp only at hke hvi
      have hiH : it < s.heap.objs.size := Heap.lt_size hit
      refine wpAny_pyNext_items_item hit hm hv fun key h₁ hkey heo ht₁ hz₁ hk₁ => ⟨_, rfl, ?_⟩
      refine wpAny_letOwnedTupleGo_items heo fun h₂ he₂ hs₂ => ?_
      replace hs₂ : Heap.SameBut it h₁ h₂ := hs₂
      have ht₂ : h₂.IsTuple s.heap.objs.size #[key, v] := ⟨_, (hs₂.2 _ (Nat.ne_of_gt hiH)).trans ht₁, rfl, _, rfl⟩
      have hz₂ : h₂.objs.size = s.heap.objs.size + 1 := hs₂.1.trans hz₁
      refine wpAny_assign_Tuple hh ht₂ rfl rfl fun h₃ hx₃ => ?_
      replace hx₃ : Heap.ExtBut h₂.objs.size h₂ h₃ := hx₃
      have old₃ : ∀ b o, b < s.heap.objs.size → h₂.get? b = some o → h₃.get? b = some o := fun b o hb x => hx₃ b o (by rw [hz₂]; exact Nat.ne_of_lt (Nat.lt_succ_of_lt hb)) x
      have he3 := old₃ _ _ hiH he₂
      have R1 := Rep.fx_set R (h' := h₃) (fun b o hb x => old₃ b o (Heap.lt_size x) ((hs₂.2 _ hb).trans (hk₁ b o hb x))) he3 (fun _ q => by cases q)
      obtain ⟨t, rfl⟩ := str_of_is hkey
      refine (?_ : wpAny _ A (do holding [v] (assign (.Name x px) fd.env (.str k' t)); do holding [] (assign (.Name y py) fd.env v); pure ()) _ _ _)
      refine assign_two (s := { s with heap := h₃ }) (s₀ := s) C R1 (same_hp s _ s.toks) (V := .str p.1) ⟨t, by rw [hke]⟩ hvi hst fun σ1 s1 hs1 R1' hk1 => q _ _ _ ⟨_, _, rfl⟩ hs1 R1' hk1
  self := by
    intro P fd fx n i trk σ s E Q hn; cases hn
  stop := by
    intro P fd fx n trk σ s E Q C h0e hT R hk q
    obtain ⟨ok, ov, rfl⟩ := hT
    have hit : IsItemIter s.heap it d _ kvs.length ep ok ov := Rep.fx_get R
    have hm := hat _ (under h0e hk R)
    have hlen := hp.length
    refine wpAny_pyNext_items_end hh hit hm (by simp [hlen]) fun h' hx => q _ (same_hp s _ s.toks) ?_
    exact Rep.drop_any R (fun b o hb x => hx b o hb x) (fun _ q => by cases q)
end
end Mine
end

section
open PySem PySem.W PyProof.Rows PySem.Calls PySem.Spec
open Sem (wp)
set_option maxRecDepth 100000
namespace Mine
section
variable {w : World} {A : Around} {E : Value → Shared → Prop} {s s₀ : Shared} {fd : FD} {fx : List (Addr × Obj)} {σ : AS} {K : Frag} {P : Prm} {n : Nat}

theorem Rep.fx_add2 {h h' : Heap} (R : Rep w fd fx σ h) (k : Ext h h') {r q : Addr} {o o' : Obj} (hr : h.get? r = none) (hq : h.get? q = none) (hne : r ≠ q) (ho : h'.get? r = some o) (ho' : h'.get? q = some o') : Rep w fd ((r, o) :: (q, o') :: fx) σ h' := by
  obtain ⟨g0, GT, mf, own, news, F, N, nd, H, V, hz⟩ := R
  have hf := fresh_ne N hr
  have hf2 := fresh_ne N hq
  refine ⟨g0, GT, mf, own, news, frExt F k, ?_, ?_, H, V.fx_cons.fx_cons, hz⟩
  · intro p hp
    rcases List.mem_cons.mp hp with rfl | hp
    · exact ⟨ho, fresh_L F hr, fresh_0 F hr⟩
    rcases List.mem_cons.mp hp with rfl | hp
    · exact ⟨ho', fresh_L F hq, fresh_0 F hq⟩
    · exact newsExt N k p hp
  · refine List.nodup_cons.mpr ⟨fun z => ?_, List.nodup_cons.mpr ⟨hf2, nd⟩⟩
    rcases List.mem_cons.mp z with e | z
    · exact hne e
    · exact hf z

/-- what may be walked -/
structure Frz (w : World) (fd : FD) (fx : List (Addr × Obj)) (h : Heap) (a : Addr) (o : Obj) (x : AO) (sel : AO → Option Items) (items : Items) (keep : AS → Prop) (σ' : AS) : Prop where
  sel : sel x = some items
  len : items.length ≤ lim
  at_ : h.get? a = some o
  is : x.is w o
  rep : Rep w fd fx σ' h
  kp : keep σ'
  under : ∀ {fd' fx' σ₁ h'}, fd'.Gr = fd.Gr → keep σ₁ → Rep w fd' fx' σ₁ h' → h'.get? a = some o
  sys : (a == sysModules) = false
theorem frz_sound {v : Value} {V : AV} {sel : AO → Option Items} {kk : Items → (AS → Prop) → AS → Prop} {G : Prop} (R : Rep w fd fx σ s.heap) (ro : RoOk w fd) (hv : V.is v) (h : frz fd.ro V sel σ kk)
    (q : ∀ a o x items keep σ', v = .ref a → Frz w fd fx s.heap a o x sel items keep σ' → kk items keep σ' → G) : G := by
  unfold frz at h
  split at h
  · cases hv
    rcases h with (⟨x, items, o, hm, hsel, hl, hk⟩ | ⟨x, items, hm, hsel, hl, hk⟩) | ⟨x, items, hp', hsel, hl, hW, hk⟩
    · obtain ⟨ho, hx⟩ := R.froz hm
      exact q _ o x items _ σ rfl ⟨hsel, hl, ho, hx, R, hm, fun {fd' fx' σ₁ h'} _ hk R' => (R'.froz hk).1, beq_eq_false_iff_ne.mpr (R.ownS hm)⟩ hk
    · obtain ⟨hs, o, ho, hx⟩ := ro _ hm
      obtain ⟨g0, GT, kp⟩ := R.keep
      refine q _ o x items _ σ rfl ⟨hsel, hl, kp _ _ (ho g0 GT), hx, R, trivial, fun {fd' fx' σ₁ h'} e _ R' => ?_, beq_eq_false_iff_ne.mpr hs⟩ hk
      obtain ⟨g1, GT1, kp1⟩ := R'.keep
      exact kp1 _ _ (ho g1 (by rw [← e]; exact GT1))
    · obtain ⟨o₀, ho, hx⟩ := R.wrO (hW default)
      have R' := R.freeze ho (hW o₀)
      refine q _ o₀ x items _ _ rfl ⟨hsel, hl, ho, hx, R', ?_, fun {fd' fx' σ₁ h'} _ hk R' => (R'.froz hk).1, R.wrS (hW o₀)⟩ (hk o₀)
      obtain ⟨pre, post, y, _, e, _⟩ := (hW o₀).split
      refine (?_ : _ ∈ hp' o₀)
      rw [e]; exact List.mem_append_right _ (.head _)
  · exact h.elim

noncomputable def IterG (w : World) (K : Frag) (A : Around) (fd : FD) (fx : List (Addr × Obj)) (s₀ : Shared) (target : Expr) (ts : List Str) (kk : Items → (AS → Prop) → AS → Prop) (Q : Value → Shared → Prop) : Prop :=
  ∀ it items keep T trk σ1 s1, Stream w K A fd.Gr target ts it items keep T → T 0 trk → items.length ≤ lim → Same s₀ s1 → Rep w fd (trk ++ fx) σ1 s1.heap → keep σ1 → kk items keep σ1 → Q it s1

theorem paired_items {L : List AV} {vs : List Value} (hp : Paired AV.is L vs) (i : Nat) (v : Value) (h : vs.toArray[i]? = some v) : ∃ V, (L.map fun v => [v])[i]? = some [V] ∧ V.is v := by
  obtain ⟨V, h1, h2⟩ := Paired.getR hp (by simpa using h)
  exact ⟨V, by rw [List.getElem?_map, h1]; rfl, h2⟩

/-- iterating over a sequence or a dict -/
theorem plain_sound {v : Value} {V : AV} {x : Str} {px : Pos} {kk : Items → (AS → Prop) → AS → Prop} {Q : Value → Shared → Prop} (hh : A.handled = none) (R : Rep w fd fx σ s.heap) (ro : RoOk w fd) (hs : Same s₀ s) (hv : V.is v)
    (h : frz fd.ro V selSeq σ kk) (q : IterG w K A fd fx s₀ (.Name x px) [x] kk Q) : wpAny (model PR w) A (pyIter v) Q E s := by
  refine frz_sound R ro hv h fun a o X items keep σ' hva FZ hk => ?_
  subst hva
  have hlt := Heap.lt_size FZ.at_
  obtain ⟨hsel, hl, hat, his, R', hkeep, under, hsys⟩ := FZ
  unfold selSeq at hsel
  split at hsel
  · rename_i L
    cases hsel
    obtain ⟨vs, m, rfl, hp⟩ := his
    have hlen := hp.length
    refine wpAny_pyIter_list (isl hat) ?_
    have W := Walks.list (prog := PR) (w := w) hh s.heap.objs.size a (Nat.ne_of_lt hlt) vs.toArray
    have e : vs.toArray.size = (L.map fun v => [v]).length := by simp [hlen]
    rw [e] at W
    have hit : (s.heap.push { cls := .type "list_iterator", data := .fields #[.ref a, .int 0 0] }).get? s.heap.objs.size = some { cls := .type "list_iterator", data := .fields #[.ref a, .int 0 0] } := Heap.get?_push_size _ rfl
    refine q _ _ keep _ [(s.heap.objs.size, { cls := .type "list_iterator", data := .fields #[.ref a, .int 0 0] })] σ' _ (stream_walk (fz := [(a, LObj vs m)]) W ?_ (fun i v _ hv => paired_items hp i v hv) ?_ ?_ ?_) ⟨_, rfl, (fun _ z => by cases z), ?_⟩ hl (hs.trans (same_hp s _ s.toks)) (R'.fx_add (fun b o e => Heap.get?_push_of_some _ e) (none_of_size (Nat.le_refl _)) hit) hkeep hk
    · intro b hb; rcases List.mem_cons.mp hb with rfl | hb
      · exact .inl rfl
      · rcases List.mem_singleton.mp hb with rfl; exact .inr ⟨_, .head _⟩
    · rintro i h ⟨⟨o, h1, h2, h3⟩, _⟩
      exact ⟨o, h1, fun v z => by rw [h3] at z; cases z⟩
    · intro p hp; rcases List.mem_singleton.mp hp with rfl; exact Nat.ne_of_lt hlt
    · intro fd' fx' σ₁ h' e hk' R'' p hp; rcases List.mem_singleton.mp hp with rfl; exact under e hk' R''
    · intro h e1 e2
      exact ⟨⟨_, e1, rfl, rfl⟩, isl (e2 (a, LObj vs m) (.head _))⟩
  · rename_i L
    cases hsel
    obtain ⟨vs, m, rfl, hp⟩ := his
    have hlen := hp.length
    refine wpAny_pyIter_tuple ⟨_, hat, rfl, m, rfl⟩ ?_
    have W := Walks.tuple (prog := PR) (w := w) hh s.heap.objs.size a (Nat.ne_of_lt hlt) vs.toArray
    have e : vs.toArray.size = (L.map fun v => [v]).length := by simp [hlen]
    rw [e] at W
    have hit : (s.heap.push { cls := .type "tuple_iterator", data := .fields #[.ref a, .int 0 0] }).get? s.heap.objs.size = some { cls := .type "tuple_iterator", data := .fields #[.ref a, .int 0 0] } := Heap.get?_push_size _ rfl
    refine q _ _ keep _ [(s.heap.objs.size, { cls := .type "tuple_iterator", data := .fields #[.ref a, .int 0 0] })] σ' _ (stream_walk (fz := [(a, TObj vs m)]) W ?_ (fun i v _ hv => paired_items hp i v hv) ?_ ?_ ?_) ⟨_, rfl, (fun _ z => by cases z), ?_⟩ hl (hs.trans (same_hp s _ s.toks)) (R'.fx_add (fun b o e => Heap.get?_push_of_some _ e) (none_of_size (Nat.le_refl _)) hit) hkeep hk
    · intro b hb; rcases List.mem_cons.mp hb with rfl | hb
      · exact .inl rfl
      · rcases List.mem_singleton.mp hb with rfl; exact .inr ⟨_, .head _⟩
    · rintro i h ⟨⟨o, h1, h2, h3⟩, _⟩
      exact ⟨o, h1, fun v z => by rw [h3] at z; cases z⟩
    · intro p hp; rcases List.mem_singleton.mp hp with rfl; exact Nat.ne_of_lt hlt
    · intro fd' fx' σ₁ h' e hk' R'' p hp; rcases List.mem_singleton.mp hp with rfl; exact under e hk' R''
    · intro h e1 e2
      exact ⟨⟨_, e1, rfl, rfl⟩, ⟨_, e2 (a, TObj vs m) (.head _), rfl, m, rfl⟩⟩
  · rename_i L
    cases hsel
    obtain ⟨kvs, hd, hp⟩ := his
    have hlen := hp.length
    obtain ⟨es, ep, hex, hdat, hko, hpr, hnd⟩ := id hd
    have mk : ∀ h : Heap, h.get? a = some o → h.DictAt (PySem.strKind PR w) a kvs ep := fun h e => ⟨o, es, e, hex, hdat, hko, hpr, hnd⟩
    refine wpAny_pyIter_dict hsys (mk _ hat) ?_
    have W := Walks.dictKeys (prog := PR) (w := w) (knd := PySem.strKind PR w) hh s.heap.objs.size a (Nat.ne_of_lt hlt) kvs ep
    have e : kvs.length = (L.map fun p => [AV.str p.1]).length := by simp [hlen]
    have W' : Walks PR w A s.heap.objs.size [s.heap.objs.size, a] [s.heap.objs.size] (L.map fun p => [AV.str p.1]).length (fun i v => ∃ k x, kvs[i]? = some (k, x) ∧ (PySem.strKind PR w).is k v = true)
      (fun i h => h.IsKeyIter s.heap.objs.size a i kvs.length ep ∧ h.DictAt (PySem.strKind PR w) a kvs ep) := by rw [← e]; exact W
    have hit : (s.heap.push { cls := .type "dict_keyiterator", data := .fields #[.ref a, .int 0 0, .int kvs.length 0, .int ep 0] }).get? s.heap.objs.size = some { cls := .type "dict_keyiterator", data := .fields #[.ref a, .int 0 0, .int kvs.length 0, .int ep 0] } := Heap.get?_push_size _ rfl
    refine q _ _ keep _ [(s.heap.objs.size, { cls := .type "dict_keyiterator", data := .fields #[.ref a, .int 0 0, .int kvs.length 0, .int ep 0] })] σ' _ (stream_walk (fz := [(a, o)]) W' ?_ ?_ ?_ ?_ ?_) ⟨_, rfl, (fun _ z => by cases z), ?_⟩ hl (hs.trans (same_hp s _ s.toks)) (R'.fx_add (fun b o e => Heap.get?_push_of_some _ e) (none_of_size (Nat.le_refl _)) hit) hkeep hk
    · intro b hb; rcases List.mem_cons.mp hb with rfl | hb
      · exact .inl rfl
      · rcases List.mem_singleton.mp hb with rfl; exact .inr ⟨_, .head _⟩
    · rintro i v - ⟨k, x, hkx, hkk⟩
      obtain ⟨p, h1, h2, h3⟩ := Paired.getR hp hkx
      obtain ⟨t, rfl⟩ := str_of_is hkk
      exact ⟨.str p.1, by rw [List.getElem?_map, h1]; rfl, t, by rw [h2]⟩
    · rintro i h ⟨⟨o, h1, h2, h3⟩, _⟩
      exact ⟨o, h1, fun v z => by rw [h3] at z; cases z⟩
    · intro p hp; rcases List.mem_singleton.mp hp with rfl; exact Nat.ne_of_lt hlt
    · intro fd' fx' σ₁ h' e hk' R'' p hp; rcases List.mem_singleton.mp hp with rfl; exact under e hk' R''
    · intro h e1 e2
      exact ⟨⟨_, e1, rfl, rfl⟩, mk h (e2 (a, o) (.head _))⟩
  · cases hsel
end
end Mine
end

section
open PySem PySem.W PyProof.Rows PySem.Calls PySem.Spec
open Sem (wp)
set_option maxRecDepth 100000
namespace Mine
section
variable {w : World} {A : Around} {E : Value → Shared → Prop} {s s₀ : Shared} {fd : FD} {fx : List (Addr × Obj)} {σ : AS} {K : Frag} {P : Prm} {n : Nat}

theorem noargs_form (o : Expr) (env : Env) (pos : Pos) : methodCallForm (([] : List Expr).length + ([] : List Keyword).length) (backTo pos (starEach [] env)) (backToKw pos (keywordEach [] env)) = true := rfl

/-- a call of a method of a dict, without arguments -/
theorem view_call (I : Snd w K n) {o : Expr} {name : Str} {id : String} {apos pos : Pos} {k : KV} {Q : Value → Shared → Prop} (C : Cx w K P fd A (n + 1)) (R : Rep w fd fx σ s.heap) (hs : Same s₀ s) (hb : isBase o = true) (hl : (apos.endLine == pos.line) = true)
    (h : (sem n).E P o σ k)
    (q : ∀ V v σ1 s1, V.is v → Same s₀ s1 → Rep w fd fx σ1 s1.heap → k V σ1 → (∀ (Q' : Value × List Value → Shared → Prop) (pl : Sem Bool), Q' (.builtin id, [v]) s1 → wpAny (model PR w) A (getMethod v name pl) Q' E s1) ∧
      wpAny (model PR w) A (call (.builtin id) [v]) Q E s1) :
    wpAny (model PR w) A (eval (.Call (.Attribute o name apos) [] [] pos) fd.env) Q E s := by
  have C' := C.le (Nat.le_succ n)
  rw [arm_eval_Call, attrBase hb]
  refine wpAny_bind (I.E C' R hs h fun V v σ1 s1 hv hs1 R1 h1 => wpAny_bind (wpAny_standAt ?_))
  obtain ⟨q1, q2⟩ := q V v σ1 s1 hv hs1 R1 h1
  unfold methodCall
  rw [noargs_form o]
  unfold calleeOf
  rw [if_pos rfl]
  refine wpAny_bind (wpAny_holding (q1 _ _ ?_))
  unfold methodCallPos
  rw [hl]
  refine wpAny_bind (wpAny_pure ?_)
  exact callWithX (I := fun _ => True) (fun _ _ => ⟨_, .inr (.inl rfl), keeper_builtin _ _⟩) (evalArgs_plain (fun x h => by cases h) (Calls.spliced_nil (Q := fun vs s' => True ∧ wpAny (model PR w) A (call (.builtin id) ([v] ++ vs)) Q E s') ⟨trivial, q2⟩))

theorem isNm_of {t : Expr} (h : isNm t = true) : ∃ x px, t = .Name x px := by
  unfold isNm at h
  split at h
  · exact ⟨_, _, rfl⟩
  · cases h
theorem isTup2_of {t : Expr} (h : isTup2 t = true) : ∃ x px y py k pt, t = .Tuple [.Name x px, .Name y py] k pt := by
  unfold isTup2 at h
  split at h
  · unfold isTwo at h
    split at h
    · obtain ⟨h1, h2⟩ := Bool.and_eq_true_iff.mp h
      obtain ⟨_, _, rfl⟩ := isNm_of h1
      obtain ⟨_, _, rfl⟩ := isNm_of h2
      exact ⟨_, _, _, _, _, _, rfl⟩
    · cases h
  · cases h

inductive ItI : Expr → IterK → Prop
  | items (o : Expr) (apos pos : Pos) (h : (isBase o && apos.endLine == pos.line) = true) : ItI (.Call (.Attribute o "items" apos) [] [] pos) (.items o)
  | vals (o : Expr) (apos pos : Pos) (h : (isBase o && apos.endLine == pos.line) = true) : ItI (.Call (.Attribute o "values" apos) [] [] pos) (.vals o)
  | enum (p : Pos) (x : Expr) (pos : Pos) : ItI (.Call (.Name "enumerate" p) [x] [] pos) (.enum x)
  | range (p : Pos) (x : Expr) (pos : Pos) : ItI (.Call (.Name "range" p) [x] [] pos) (.range x)
  | plain (e : Expr) : ItI e .plain
theorem iterK_inv (e : Expr) : ItI e (iterK e) := by
  cases e <;> try (exact .plain _)
  case Call f args ks pos =>
    cases f <;> try (exact .plain _)
    case Attribute o nm apos =>
      cases args with
      | cons _ l => exact .plain _
      | nil =>
        cases ks with
        | cons _ _ => exact .plain _
        | nil =>
        show ItI _ (match isBase o && apos.endLine == pos.line with
          | true => if nm = ("items" : Str) then .items o else if nm = ("values" : Str) then .vals o else .plain
          | false => .plain)
        cases hb : isBase o && apos.endLine == pos.line with
        | false => exact .plain _
        | true =>
          dsimp only
          by_cases h1 : nm = ("items" : Str)
          · rw [if_pos h1, h1]; exact .items o apos pos hb
          · rw [if_neg h1]
            by_cases h2 : nm = ("values" : Str)
            · rw [if_pos h2, h2]; exact .vals o apos pos hb
            · rw [if_neg h2]; exact .plain _
    case Name f p =>
      cases args with
      | nil => exact .plain _
      | cons x l => cases l with
        | cons _ _ => exact .plain _
        | nil =>
          cases ks with
          | cons _ _ => exact .plain _
          | nil =>
          refine (?_ : ItI _ (if f = ("enumerate" : Str) then .enum x else if f = ("range" : Str) then .range x else .plain))
          by_cases h1 : f = ("enumerate" : Str)
          · rw [if_pos h1, h1]; exact .enum p x pos
          · rw [if_neg h1]
            by_cases h2 : f = ("range" : Str)
            · rw [if_pos h2, h2]; exact .range p x pos
            · rw [if_neg h2]; exact .plain _

theorem iter_sound (I : Snd w K n) {e t : Expr} {ts : List Str} {kk : Items → (AS → Prop) → AS → Prop} {Q : Value → Shared → Prop} (C : Cx w K P fd A (n + 1)) (R : Rep w fd fx σ s.heap) (hs : Same s₀ s) (hh : A.handled = none)
    (h : iterA (sem n) P e σ kk) (ht : tgtOk e t = true) (hts : targetNames t = some ts) (q : IterG w K A fd fx s₀ t ts kk Q) :
    wpAny (model PR w) A (eval e fd.env) (fun x s' => wpAny (model PR w) A (pyIter x) Q E s') E s := by
  have C' := C.le (Nat.le_succ n)
  unfold tgtOk at ht
  obtain ⟨ht1, ht⟩ := Bool.and_eq_true_iff.mp ht
  unfold iterA at h
  split at h
  · -- items
    rename_i o hk
    rw [hk] at ht
    obtain ⟨x, px, y, py, k1, pt, rfl⟩ := isTup2_of ht
    cases hts
    have iv := iterK_inv e
    rw [hk] at iv
    cases iv with
    | items o' apos pos hbl =>
          obtain ⟨hb, hl⟩ := Bool.and_eq_true_iff.mp hbl
          refine view_call I (id := "dict.items") C R hs hb hl h fun V v σ1 s1 hv hs1 R1 h1 => ?_
          rw [C.fit.ro] at h1
          refine frz_sound R1 C.ro hv h1 fun a o X items keep σ' hva FZ hk => ?_
          subst hva
          obtain ⟨hsel, hlm, hat, his, R', hkeep, under, hsys⟩ := FZ
          unfold selItems at hsel
          split at hsel
          · rename_i L
            cases hsel
            obtain ⟨kvs, hd, hp⟩ := his
            have hlen := hp.length
            obtain ⟨es, ep, hex, hdat, hko, hpr, hnd⟩ := id hd
            have mk : ∀ h : Heap, h.get? a = some o → h.DictAt (PySem.strKind PR w) a kvs ep := fun h e => ⟨o, es, e, hex, hdat, hko, hpr, hnd⟩
            have hD := (mk _ hat).dictOf
            refine ⟨fun Q' pl hq => getMethod_builtin hD.typeIs F.plainAttrs_dict F.slot_dict_items F.type_dict_items hD.mapOf.noDict hq, ?_⟩
            refine call_meetsIn F.slot_dict_items hD.typeIs F.entry_dict_items (F.args_dict_items_1 _) (meets_dict_items (PySem.strKind PR w) a hsys) ⟨⟨kvs, hD⟩, ?_⟩
            have hlt := Heap.lt_size hat
            have hat1 := Heap.get?_push_of_some { cls := .type "dict_items", data := .fields #[.ref a] } hat
            refine wpAny_pyIter_items (knd := PySem.strKind PR w) (d := a) (kvs := kvs) (ep := ep) ⟨_, Heap.get?_push_size _ rfl, rfl, rfl⟩ (mk _ hat1) ?_
            have hsz := Heap.size_push s1.heap { cls := .type "dict_items", data := .fields #[.ref a] }
            have R1' := keptRep s1.heap { cls := .type "dict_items", data := .fields #[.ref a] } R'
            refine q _ _ keep _ [_] σ' _ (stream_items (d := a) (od := o) hh hp mk (by show a ≠ (s1.heap.push _).objs.size; rw [hsz]; exact Nat.ne_of_lt (Nat.lt_succ_of_lt hlt)) under) ⟨.none, .none, rfl⟩ hlm (hs1.trans (same_hp s1 _ s1.toks)) ?_ hkeep hk
            exact R1'.fx_add (fun b o e => Heap.get?_push_of_some _ e) (none_of_size (Nat.le_refl _)) (Heap.get?_push_size _ rfl)
          · cases hsel
  · -- values
    rename_i o hk
    rw [hk] at ht
    obtain ⟨x, px, rfl⟩ := isNm_of ht
    cases hts
    have iv := iterK_inv e
    rw [hk] at iv
    cases iv with
    | vals o' apos pos hbl =>
            obtain ⟨hb, hl⟩ := Bool.and_eq_true_iff.mp hbl
            refine view_call I (id := "dict.values") C R hs hb hl h fun V v σ1 s1 hv hs1 R1 h1 => ?_
            rw [C.fit.ro] at h1
            refine frz_sound R1 C.ro hv h1 fun a o X items keep σ' hva FZ hk => ?_
            subst hva
            obtain ⟨hsel, hlm, hat, his, R', hkeep, under, hsys⟩ := FZ
            unfold selVals at hsel
            split at hsel
            · rename_i L
              cases hsel
              obtain ⟨kvs, hd, hp⟩ := his
              have hlen := hp.length
              obtain ⟨es, ep, hex, hdat, hko, hpr, hnd⟩ := id hd
              have mk : ∀ h : Heap, h.get? a = some o → h.DictAt (PySem.strKind PR w) a kvs ep := fun h e => ⟨o, es, e, hex, hdat, hko, hpr, hnd⟩
              have hD := (mk _ hat).dictOf
              refine ⟨fun Q' pl hq => getMethod_builtin hD.typeIs F.plainAttrs_dict F.slot_dict_values F.type_dict_values hD.mapOf.noDict hq, ?_⟩
              refine call_meetsIn F.slot_dict_values hD.typeIs F.entry_dict_values (F.args_dict_values_1 _) (meets_dict_values (PySem.strKind PR w) a hsys) ⟨⟨kvs, hD⟩, ?_⟩
              have hlt := Heap.lt_size hat
              have hat1 := Heap.get?_push_of_some { cls := .type "dict_values", data := .fields #[.ref a] } hat
              have hsz := Heap.size_push s1.heap { cls := .type "dict_values", data := .fields #[.ref a] }
              have R1' := keptRep s1.heap { cls := .type "dict_values", data := .fields #[.ref a] } R'
              refine wpAny_pyIter_values (knd := PySem.strKind PR w) (d := a) (kvs := kvs) (ep := ep) ⟨_, Heap.get?_push_size _ rfl, rfl, rfl⟩ (mk _ hat1) ?_
              have hne : a ≠ (s1.heap.push { cls := .type "dict_values", data := .fields #[.ref a] }).objs.size := by rw [hsz]; exact Nat.ne_of_lt (Nat.lt_succ_of_lt hlt)
              generalize hH : s1.heap.push { cls := .type "dict_values", data := .fields #[.ref a] } = H at *
              have W := Walks.dictValues (prog := PR) (w := w) (knd := PySem.strKind PR w) hh H.objs.size a hne kvs ep
              have e : kvs.length = (L.map fun p => [p.2]).length := by simp [hlen]
              have W' : Walks PR w A H.objs.size [H.objs.size, a] [H.objs.size] (L.map fun p => [p.2]).length (fun i v => ∃ k, kvs[i]? = some (k, v))
                (fun i h => h.IsValIter H.objs.size a i kvs.length ep ∧ h.DictAt (PySem.strKind PR w) a kvs ep) := by rw [← e]; exact W
              refine q _ _ keep _ [(H.objs.size, { cls := .type "dict_valueiterator", data := .fields #[.ref a, .int 0 0, .int kvs.length 0, .int ep 0] })] σ' _ (stream_walk (fz := [(a, o)]) W' ?_ ?_ ?_ ?_ ?_) ⟨_, rfl, (fun _ z => by cases z), ?_⟩ hlm (hs1.trans (same_hp s1 _ s1.toks)) (R1'.fx_add (fun b o e => Heap.get?_push_of_some _ e) (none_of_size (Nat.le_refl _)) (Heap.get?_push_size _ rfl)) hkeep hk
              · intro b hb; rcases List.mem_cons.mp hb with rfl | hb
                · exact .inl rfl
                · rcases List.mem_singleton.mp hb with rfl; exact .inr ⟨_, .head _⟩
              · rintro i v - ⟨k, hkx⟩
                obtain ⟨p, h1, h2, h3⟩ := Paired.getR hp hkx
                exact ⟨p.2, by rw [List.getElem?_map, h1]; rfl, h3⟩
              · rintro i h ⟨⟨o, h1, h2, h3⟩, _⟩
                exact ⟨o, h1, fun v z => by rw [h3] at z; cases z⟩
              · intro p hp; rcases List.mem_singleton.mp hp with rfl; exact hne
              · intro fd' fx' σ₁ h' e hk' R'' p hp; rcases List.mem_singleton.mp hp with rfl; exact under e hk' R''
              · intro h e1 e2
                exact ⟨⟨_, e1, rfl, rfl⟩, mk h (e2 (a, o) (.head _))⟩
            · cases hsel
  · -- enumerate
    rename_i x1 hk
    rw [hk] at ht
    obtain ⟨x, px, y, py, k1, pt, rfl⟩ := isTup2_of ht
    cases hts
    have iv := iterK_inv e
    rw [hk] at iv
    cases iv with
    | enum p _ pos =>
        obtain ⟨⟨hst, hlk⟩, h⟩ := h
        refine Call_ (name_sound C R hlk fun v hv => ?_)
        cases hv
        have hne : ∀ e' p, x1 = .Starred e' p → False := fun e' p z => by subst z; cases hst
        rw [starEach_cons hne]
        refine callWithX (I := fun _ => True) (fun _ _ => ⟨_, .inr (.inl rfl), keeper_type _ _⟩) ?_
        refine evalArgs_plain (fun x z => by cases z) (Q := fun vs s' => True ∧ wpAny (model PR w) A (call (.type "enumerate") ([] ++ vs)) _ E s') ?_
        refine Calls.spliced_cons (I.E C' R hs h fun V v σ1 s1 hv hs1 R1 h1 => Calls.spliced_nil ⟨trivial, ?_⟩)
        rw [C.fit.ro] at h1
        refine frz_sound R1 C.ro hv h1 fun a o X items keep σ' hva FZ hk => ?_
        subst hva
        obtain ⟨hsel, hlm, hat, his, R', hkeep, under, hsys⟩ := FZ
        unfold selEnum at hsel
        split at hsel
        · rename_i L
          cases hsel
          obtain ⟨vs, m, rfl, hp⟩ := his
          have hlt := Heap.lt_size hat
          refine call_enumerate_list (isl hat) fun h' he hit hsz hk' => ?_
          refine wpAny_pyIter_enum (i := 0) he ?_
          obtain ⟨oi, hoi, hci, hdi⟩ := id hit
          have hci' : ∀ v, oi.data ≠ .cell v := fun v z => by rw [hdi] at z; cases z
          refine q _ _ keep _ [(s1.heap.objs.size + 1, enumObj s1.heap.objs.size 0 .none), (s1.heap.objs.size, oi)] σ' _ (stream_enum hh hp rfl (Nat.succ_ne_self _) (Nat.ne_of_lt (Nat.lt_succ_of_lt hlt)) (Nat.ne_of_lt hlt) under)
            ⟨.none, oi, rfl, hci', fun h e1 => ⟨oi, e1, hci, hdi⟩⟩ hlm (hs1.trans (same_hp s1 _ s1.toks)) ?_ hkeep hk
          exact R'.fx_add2 hk' (none_of_size (Nat.le_succ _)) (none_of_size (Nat.le_refl _)) (Nat.succ_ne_self _) he hoi
        · cases hsel
  · -- range
    rename_i x1 hk
    rw [hk] at ht
    obtain ⟨x, px, rfl⟩ := isNm_of ht
    cases hts
    have iv := iterK_inv e
    rw [hk] at iv
    cases iv with
    | range p _ pos =>
        obtain ⟨⟨hst, hlk⟩, h⟩ := h
        refine Call_ (name_sound C R hlk fun v hv => ?_)
        cases hv
        have hne : ∀ e' p, x1 = .Starred e' p → False := fun e' p z => by subst z; cases hst
        rw [starEach_cons hne]
        refine callWithX (I := fun _ => True) (fun _ _ => ⟨_, .inr (.inl rfl), keeper_type _ _⟩) ?_
        refine evalArgs_plain (fun x z => by cases z) (Q := fun vs s' => True ∧ wpAny (model PR w) A (call (.type "range") ([] ++ vs)) _ E s') ?_
        refine Calls.spliced_cons (I.E C' R hs h fun V v σ1 s1 hv hs1 R1 h1 => Calls.spliced_nil ⟨trivial, ?_⟩)
        split at h1
        · rename_i N
          obtain ⟨⟨h0, hN⟩, hk⟩ := h1
          obtain ⟨t, rfl⟩ := hv
          obtain ⟨N, rfl⟩ := Int.eq_ofNat_of_zero_le h0
          refine call_range_1 ?_
          have hN' : N ≤ lim := by omega
          unfold lim at hN
          refine wpAny_pyIter_range (a := 0) (b := N) (c := 1) (Heap.get?_push_size _ rfl) (small_one (by decide) (by decide) (by omega) (by omega)) ?_
          have esz : Builtin.Range.rangeSize 0 (N : Int) 1 = N := by rw [rangeSize_nat]; simp
          rw [esz]
          have R1' := keptRep s1.heap { cls := .type "range", data := .fields #[.int 0 s1.toks, .int N t, .int 1 (s1.toks + 1)] } R1
          dsimp only
          generalize hH : s1.heap.push { cls := .type "range", data := .fields #[.int 0 s1.toks, .int N t, .int 1 (s1.toks + 1)] } = H at *
          have W := Walks.range (prog := PR) (w := w) hh H.objs.size 0 1 N
          have e : N = ((List.range N).map fun (i : Nat) => [AV.int i]).length := by simp
          have W' : Walks PR w A H.objs.size [H.objs.size] [H.objs.size] ((List.range N).map fun (i : Nat) => [AV.int i]).length (fun i v => ∃ t, v = .int (0 + i * 1) t) (fun i h => IsRangeIter h H.objs.size (0 + (i : Nat) * 1) ((N : Int) - (i : Nat)) 1) := by rw [← e]; exact W
          have hobj : (H.push { cls := .type "range_iterator", data := .fields #[rawInt 0, rawInt N, rawInt 1] }).get? H.objs.size = some { cls := .type "range_iterator", data := .fields #[rawInt 0, rawInt N, rawInt 1] } := Heap.get?_push_size _ rfl
          rw [Int.toNat_natCast] at hk
          refine q _ _ (fun _ => True) _ [(H.objs.size, { cls := .type "range_iterator", data := .fields #[rawInt 0, rawInt N, rawInt 1] })] σ1 _ (stream_walk (fz := []) W' ?_ ?_ ?_ ?_ ?_) ⟨_, rfl, (fun _ z => by cases z), ?_⟩ ?_ (hs1.trans (same_hp s1 _ _)) (R1'.fx_add (fun b o e => Heap.get?_push_of_some _ e) (none_of_size (Nat.le_refl _)) hobj) trivial hk
          · intro b hb; exact .inl (List.mem_singleton.mp hb)
          · rintro i v hi ⟨t', rfl⟩
            have hi : i < N := by simpa using hi
            refine ⟨.int i, ?_, t', by simp⟩
            rw [List.getElem?_map, List.getElem?_range hi]; rfl
          · intro i h hst; exact ⟨_, hst, fun v z => by cases z⟩
          · intro p hp; cases hp
          · intro fd' fx' σ₁ h' _ _ _ p hp; cases hp
          · intro h e1 _
            refine (?_ : h.get? _ = _)
            rw [e1]; simp
          · simp; exact hN'
        · exact h1.elim
  · -- plain
    rename_i hk
    rw [hk] at ht
    obtain ⟨x, px, rfl⟩ := isNm_of ht
    cases hts
    refine I.E C' R hs h fun V v σ1 s1 hv hs1 R1 h1 => ?_
    rw [C.fit.ro] at h1
    exact plain_sound hh R1 C.ro hs1 hv h1 q
end
end Mine
end

section
open PySem PySem.W PyProof.Rows PySem.Calls PySem.Spec
open Sem (wp)
set_option maxRecDepth 100000
namespace Mine
section
variable {w : World} {A : Around} {E : Value → Shared → Prop} {s s₀ : Shared} {fd : FD} {fx : List (Addr × Obj)} {σ : AS} {K : Frag} {P : Prm} {n : Nat}

/-- after the frames were looked at -/
theorem noted_rep {e : Addr} {oe : Obj} {h h' : Heap} (C : Cx w K P fd A n) (R : Rep w fd ((e, oe) :: fx) σ h) (hc : ∀ v, oe.data ≠ .cell v) (st : (hideAll h (e :: fd.Lf :: fd.fs)).StaysIn h') (up : h.UpToSlots h') : Rep w fd fx σ h' := by
  obtain ⟨A₀, base, outer, fenv, B, hfs, hA, hf, hke⟩ := C.fr
  obtain ⟨g0, GT, mf, own, news, F, N, nd, H, V, hz⟩ := R
  have K' := B g0 GT
  have Ne := N (e, oe) (.head _)
  have nd' := List.nodup_cons.mp nd
  have fsIn : ∀ b ∈ fd.fs, ∃ o, g0.get? b = some o ∧ ∀ vs, o.data ≠ .fields vs := fun b hb => by
    rw [hfs] at hb
    exact (K'.frames.mem hb).2
  obtain ⟨T, S⟩ := kts_turn_at (h := h') (fs := fd.fs) (g := g0) (fun b hb => (fsIn b hb).imp fun _ x => x.1)
    (fun b o x nm => st b o (hideAll_get _ (F.keep b o x) fun hm => by
      rcases List.mem_cons.mp hm with z | hm
      · rw [z] at x; rw [Ne.2.2] at x; cases x
      rcases List.mem_cons.mp hm with z | hm
      · rw [z, kts_self F] at x; cases x
      · exact nm hm))
    (fun b o x hm => by
      obtain ⟨o', ho', hd⟩ := fsIn b hm
      rw [x] at ho'; cases ho'
      exact up b o (F.keep b o x) hd)
  refine ⟨_, KtsTurn.trans GT T, mf, own, news, ⟨up.ns F.ns, S, by rw [T.size]; exact F.above⟩, fun p hp => ?_, nd'.2, H, V.fx_set hc, by rw [T.size]; exact hz⟩
  have D := N p (.tail _ hp)
  refine ⟨st _ _ (hideAll_get _ D.1 fun hm => ?_), D.2.1, T.none_ _ D.2.2⟩
  rcases List.mem_cons.mp hm with z | hm
  · exact nd'.1 (by rw [← z]; exact List.mem_map_of_mem (f := (·.1)) hp)
  rcases List.mem_cons.mp hm with z | hm
  · exact D.2.1 z
  · obtain ⟨o', ho', _⟩ := fsIn _ hm
    rw [D.2.2] at ho'; cases ho'


theorem sub_stop : isSubtype (.type "StopIteration") (.type "BaseException") = pure true := by rw [isSubtype_type]; kernel_rfl
theorem sub_stop_self : isSubtype (.type "StopIteration") (.type "StopIteration") = pure true := by rw [isSubtype_type]; kernel_rfl
theorem sub_stop_tuple : isSubtype (.type ((Manifest.find? "StopIteration").elim "type" fun x => x.metatype)) (.type "tuple") = pure false := by
  have e : ((Manifest.find? "StopIteration").elim "type" fun x => x.metatype) = "type" := by decide +kernel
  rw [e, isSubtype_type]; kernel_rfl

theorem Cx.marked (C : Cx w K P fd A n) (x : Option Value) : Cx w K ⟨P.sc, P.ro, false, P.comp⟩ fd (A.mark x) n :=
  ⟨⟨C.fit.ro, C.fit.sc, C.fit.kd, C.fit.gl, C.fit.bl, C.fit.mode, C.fit.cells, C.fit.nm⟩, C.X, C.KF, C.KN, C.KM, C.ro, C.top, C.un, C.dp, fun h => (nomatch h), C.fr⟩

theorem caught_sound (I : Snd w K n) {e : Addr} {oe : Obj} {vs : Array Value} {a0 : Value} {ex : Str} {p9 p10 : Pos} {b : Stmt} {hb : List Stmt} {k : Fl → AS → Prop} {Q : Flow → Shared → Prop} (C : Cx w K P fd A (n + 1)) (R : Rep w fd ((e, oe) :: fx) σ s.heap) (hs : Same s₀ s) (hcm : P.comp = false)
    (h1 : oe.cls = .type "StopIteration") (h2 : oe.data = .fields vs) (h3 : vs[1]? = some .none) (h4 : vs[0]? = some a0) (hx : lookNm P σ ex = some (.raw (.type "StopIteration")))
    (h : (sem n).B ⟨P.sc, P.ro, false, P.comp⟩ (b :: hb) σ k) (q : FQ w fd fx s₀ k Q) :
    wpAny (model PR w) A (noteFrame (.ref e) fd.env) (fun _ s₂ => wpAny (model PR w) A (setFlight (.ref e) none) (fun _ s₃ => wpAny (model PR w) A (handleBy (.ref e) fd.env [.ExceptHandler (some (.Name ex p9)) none (b :: hb) p10]) Q E s₃) E s₂) E s := by
  have C' := C.le (Nat.le_succ n)
  obtain ⟨A₀, base, outer, fenv, B, hfs, hA, hf, hke, hfe⟩ := C.fr
  have hmode : fd.mode = none := by
    have := C.fit.mode
    rw [hcm] at this
    cases q : fd.mode with
    | none => rfl
    | some m => rw [q] at this; cases this
  have henv := hfe hmode
  subst henv
  have he : s.heap.get? e = some oe := R.fx_get
  have cellFree : ∀ v, oe.data ≠ .cell v := fun v z => by rw [h2] at z; cases z
  obtain ⟨g0, GT, mf, own, news, F, N, nd, H, V, hz⟩ := id R
  have B₁ := pushX (B g0 GT) F hf hke
  have ff : s.heap.FunFrames (hideAll s.heap (e :: fd.Lf :: fd.fs)) (fd.env :: outer) := funFrames_hide B₁.frames fun env hm a ha => by
    rcases List.mem_cons.mp hm with rfl | hm
    · rw [hf] at ha; cases ha; exact .tail _ (.head _)
    · rw [hfs]; exact .tail _ (.tail _ (List.mem_filterMap.mpr ⟨env, hm, ha⟩))
  have stB : (hideAll s.heap (e :: fd.Lf :: fd.fs)).StaysIn s.heap := fun b o z => of_hideAll _ z
  have enB : (hideAll s.heap (e :: fd.Lf :: fd.fs)).get? e = none := hideAll_none _ (.head _)
  unfold noteFrame
  simp only [hf]
  refine wpAny_bind (wpAny_field he h2 h3 ?_)
  rw [if_neg (by decide)]
  refine wpAny_newEntryW hA ff hf he stB enB h2 (Array.getElem?_eq_some_iff.mp h3).1 h4 fun h' hL => ?_
  obtain ⟨k1, k2, k3, k4⟩ := hL
  rw [h1] at k3
  have fl : Heap.FlyingW (hideAll s.heap (e :: fd.Lf :: fd.fs)) (fd.env :: outer) e (.type "StopIteration") a0 h' := ⟨k1, enB, k2, k3⟩
  obtain ⟨ob, hob, hobc⟩ := fl.there
  have R' : Rep w fd fx σ h' := noted_rep C R cellFree k1 k4
  have CM := C'.marked (some (.ref e))
  refine wpAny_handleBy_builtin (X := "StopIteration") (T := "StopIteration") (b := true) sub_stop sub_stop_tuple sub_stop_self (name_sound (s := { s with heap := h' }) CM R' hx fun v hv => ?_)
  cases hv
  refine ⟨rfl, ⟨ob, hob, hobc⟩, ?_⟩
  rw [if_pos rfl]
  refine lands_againW fl fun h6 fl6 up6 => ?_
  exact I.B (s := { s with heap := h6 }) CM (noted_rep C R cellFree fl6.1 (Heap.UpToSlots.trans k4 up6)) (hs.trans (same_hp s _ s.toks)) h q

inductive SnocR (l : List AV) (m : Addr) : List Value → Prop
  | mk (vl0 : List Value) (e : l.length = vl0.length) : SnocR l m (vl0 ++ [.ref m])
theorem snoc_ref {l : List AV} {m : Addr} {vl : List Value} (h : Paired AV.is (l ++ [AV.ref m]) vl) : SnocR l m vl := by
  obtain ⟨m1, m2, rfl, h1, h2⟩ := Paired.split h
  cases h2 with
  | cons hv t =>
    cases t
    cases hv
    exact .mk m1 h1.length
theorem nextA_sound (I : Snd w K n) {x y ex : Str} {p1 p2 p3 p4 p5 p6 p7 p8 p9 p10 p11 : Pos} {c1 : Nat} {b : Stmt} {hb : List Stmt} {k : Fl → AS → Prop} {Q : Flow → Shared → Prop} (C : Cx w K P fd A (n + 1)) (R : Rep w fd fx σ s.heap) (hs : Same s₀ s)
    (h : nextA (sem n) P x y ex (b :: hb) σ k) (q : FQ w fd fx s₀ k Q) :
    wpAny (model PR w) A (exec (.Try [.Assign [.Name x p1] (.Call (.Subscript (.Name y p2) (.UnaryOp .USub (.Constant (.int 1) c1 p3) p4) p5) [] [] p6) p7, .Break p8] [.ExceptHandler (some (.Name ex p9)) none (b :: hb) p10] [] [] p11) fd.env) Q E s := by
  have C' := C.le (Nat.le_succ n)
  obtain ⟨hnh, hcm, hex, hst, a, l, m, it, lst, i, items, hy, Hl, hlim, Hm, Hs, hcase⟩ := h
  have hh := C.nh hnh
  rw [C.fit.ro] at Hl Hm Hs
  obtain ⟨vl, nl, hol, hpl⟩ := has_list R C.ro Hl
  obtain ⟨vs, ns, hos, hps⟩ := has_list R C.ro Hs
  obtain ⟨om, hom, him⟩ := R.has C.ro Hm
  have him : om = mwObj it := him
  subst him
  obtain ⟨vl0, hlen⟩ := snoc_ref hpl
  refine wpAny_Try_except (wpAny_execs_cons (wpAny_Assign_Name (Call_ (Subscript_UnaryOp (name_sound C R hy fun v hv => ?_))) (by rfl)))
  cases hv
  refine wpAny_UnaryOp (wpAny_Constant_int (neg_int ?_))
  refine ⟨"list", _, list_getitem_lookup, (isl hol).typeIs, wpAny_getItem_list_neg (isl hol) (by decide) (by simp; omega) (by decide) (x := .ref m) ?_ ?_⟩
  · have e : ((-1 : Int) + ((vl0 ++ [Value.ref m]).toArray.size : Nat)).toNat = vl0.length := by simp; omega
    rw [e]; simp
  refine callWithX (I := fun h => h.get? m = some (mwObj it)) (fun h hm => ⟨.machine, .inr (.inl rfl), ?_⟩) (evalArgs_plain (Q := fun vs s' => s'.heap.get? m = some (mwObj it) ∧ wpAny (model PR w) A (call (.ref m) ([] ++ vs)) _ _ s') (fun x z => by cases z) (Calls.spliced_nil ⟨hom, wpAny_call (mw_call hom ?_)⟩))
  · refine (?_ : Looks (model PR w) h (load m >>= _) _)
    exact (Looks.ld hm).andThen (Looks.of_pure rfl)
  rcases hcase with ⟨V, hp', hV, W, hk⟩ | ⟨hp', hV, W, hk⟩
  · obtain ⟨v, hv, hvi⟩ := Paired.get hps hV
    obtain ⟨oi, hoi, hii⟩ := R.wrO W
    have hii : oi = liObj lst i := hii
    subst hii
    refine li_item hoi hos hv fun h' e1 e2 => ?_
    have R1 : Rep w fd fx ⟨σ.loc, hp'⟩ h' := R.wr W (sameBut_B e2) fun _ _ _ => ⟨_, e1, rfl⟩
    refine store_sound C (s := { s with heap := h', toks := _ }) R1 hst hvi fun s2 hs2 R2 => ?_
    refine wpAny_execs_cons (wpAny_Break ?_)
    exact q .brk _ _ _ rfl (hs.trans ((same_hp s _ _).trans hs2)) R2 hk
  · have hv : vs[i]? = none := by
      have := hps.length
      rw [List.getElem?_eq_none_iff] at hV ⊢
      exact lin [_, _, _] (.le (.v 0) (.v 1)) 1 (.c 1 (.le (.v 2) (.v 1)) (.c 1 (.qe (.v 2) (.v 0)) .e)) (Eq.refl true) hV this
    obtain ⟨oi, hoi, hii⟩ := R.wrO W
    have hii : oi = liObj lst i := hii
    subst hii
    refine li_end hh hoi hos hv fun e hm h' o oe fs a0 e1 e2 e3 e4 e5 e6 e7 e8 e9 e10 => ?_
    have R1 : Rep w fd fx ⟨σ.loc, hp'⟩ hm := R.wr W (sameBut_B e1) fun _ _ _ => ⟨_, e2, e3⟩
    have R2 : Rep w fd ((e, oe) :: fx) ⟨σ.loc, hp'⟩ h' := R1.fx_add e4 (none_of_size e5) e6
    exact caught_sound (s := { s with heap := h', toks := _ }) (s₀ := s₀) I C R2 (hs.trans (same_hp s _ _)) hcm e7 e8 e9 e10 hex hk q
end
end Mine
end

section
open PySem PySem.W PyProof.Rows PySem.Calls PySem.Spec
open Sem (wp)
set_option maxRecDepth 100000
namespace Mine
section
variable {w : World} {A : Around} {E : Value → Shared → Prop} {s s₀ : Shared} {fd : FD} {fx : List (Addr × Obj)} {σ : AS} {K : Frag} {P : Prm} {n : Nat}

theorem load_sound (C : Cx w K P fd A n) (R : Rep w fd fx σ s.heap) {x : Str} {V : AV} {Q : Value → Shared → Prop} (hx : lookNm P σ x = some V) (q : ∀ v, V.is v → Q v s) :
    wpAny (model PR w) A (loadName fd.env x) Q E s := by
  have hk : fd.env.scope.kind = .function := by rw [C.fit.sc]; exact C.fit.kd
  unfold lookNm at hx
  split at hx
  · rename_i V' hl
    cases hx
    have hkn : ∃ k, P.sc.names.lookup x = some k := by
      obtain ⟨g0, GT, mf, own, news, F, N, nd, H, Vv, hz⟩ := R
      obtain ⟨v, hv, hr⟩ := Vv.read x _ hl
      rcases hr with ⟨h, _⟩ | ⟨h | h, _⟩ <;> exact ⟨_, (kindOf_eq C x).symm.trans h⟩
    obtain ⟨k, hkn⟩ := hkn
    exact rep_load R hk hl (nameOk C hkn).2 q
  · split at hx
    · rename_i hl hkn
      obtain ⟨g, hg, rfl⟩ := Option.map_eq_some_iff.mp hx
      obtain ⟨p, loose, mg, mb, T⟩ := C.top
      obtain ⟨g0, GT, kp⟩ := R.keep
      have T := T g0 GT
      have X := C.X g0 GT
      rw [loadName_read hk (by rw [kindOf_eq C]; exact hkn)]
      rcases C.KN.gl _ (mem_of_lk hg) with e | ⟨e, e2, e3⟩
      · exact loadGlobal_global (by rw [C.fit.gl]; exact T.g.keeps kp) (mg_of X T.g e) (q _ (absV_is _))
      · exact loadGlobal_builtin (by rw [C.fit.gl]; exact T.g.keeps kp) (mg_none_of X T.g e) (by rw [C.fit.bl]; exact T.b.keeps kp) ((T.builtins x e3).trans e2) (q _ (absV_is _))
    · cases hx

theorem tgt_names {it t : Expr} (h : tgtOk it t = true) : ∃ ts, targetNames t = some ts := by
  unfold tgtOk at h
  have h := (Bool.and_eq_true_iff.mp h).2
  split at h
  · obtain ⟨x, px, y, py, k1, pt, rfl⟩ := isTup2_of h; exact ⟨_, rfl⟩
  · obtain ⟨x, px, y, py, k1, pt, rfl⟩ := isTup2_of h; exact ⟨_, rfl⟩
  · obtain ⟨x, px, rfl⟩ := isNm_of h; exact ⟨_, rfl⟩

theorem stream_step {h0 : Heap → Prop} {t : Expr} {ts : List Str} {it : Value} {items : Items} {keep : AS → Prop} {T : Nat → List (Addr × Obj) → Prop} (S : Stream w K A h0 t ts it items keep T) {i : Nat} {trk : List (Addr × Obj)} {vs : List AV} {k' : AS → Prop}
    (C : Cx w K P fd A n) (h0e : fd.Gr = h0) (hT : T i trk) (R : Rep w fd (trk ++ fx) σ s.heap) (hk : keep σ) (hv : items[i]? = some vs) (h : storeAll P ts vs σ k') :
    wpAny (model PR w) A (pyNext it) (fun r s₁ => ∃ v, r = some v ∧ wpAny (model PR w) A (letOwnedTupleGo t it v) (fun _ s₂ => wpAny (model PR w) A (assign t fd.env v) (fun _ s3 => ∃ trk' σ3, T (i + 1) trk' ∧ Same s s3 ∧ Rep w fd (trk' ++ fx) σ3 s3.heap ∧ k' σ3) (fun _ _ => False) s₂) (fun _ _ => False) s₁) E s :=
  S.next C h0e hT R hk hv h fun trk' σ1 s1 a b c d => ⟨trk', σ1, a, b, c, d⟩

theorem isNmX_of {t : Expr} (h : isNmX t = true) : ∃ x px, t = .Name x px := by
  unfold isNmX at h
  split at h
  · exact ⟨_, _, rfl⟩
  · cases h
theorem isBin_of {t : Expr} (h : isBin t = true) : ∃ a b c d, t = .BinOp a b c d := by
  unfold isBin at h
  split at h
  · exact ⟨_, _, _, _, rfl⟩
  · cases h
theorem aug_sound (I : Snd w K n) {t e : Expr} {op : Operator} {pos : Pos} {k : AS → Prop} {Q : Flow → Shared → Prop} (C : Cx w K P fd A (n + 1)) (R : Rep w fd fx σ s.heap) (hs : Same s₀ s) (h : augA (sem n) P t op e σ k) (q : UQ w fd fx s₀ k fun _ => Q .next) :
    wpAny (model PR w) A (exec (.AugAssign t op e pos) fd.env) Q E s := by
  have C' := C.le (Nat.le_succ n)
  unfold augA at h
  split at h
  · split at h
    · rename_i a ha
      refine wpAny_AugAssign_Name (load_sound C R ha fun old hold => ?_)
      refine I.E C' R hs h fun V3 v3 σ3 s3 hv3 hs3 R3 h3 => ?_
      rw [C.fit.ro] at h3
      refine augB_sound R3 C.ro hs3 hold hv3 h3 fun V4 v4 σ4 s4 hv4 hs4 R4 h4 => ?_
      split at h4
      · rename_i hst
        exact store_sound C' R4 hst hv4 fun s5 hs5 R5 => q _ _ (hs4.trans hs5) R5 h4
      · exact h4.elim
    · exact h.elim
  · obtain ⟨hb, h⟩ := h.get
    obtain ⟨x, px, rfl⟩ := isNmX_of hb
    refine wpAny_AugAssign_AttributeAny (I.E C' R hs h fun V v σ1 s1 hv hs1 R1 h1 => ?_)
    rw [C.fit.ro] at h1
    refine attrA_sound R1 C.ro C.X C.KF hv h1 fun V2 v2 s2 hv2 hs2 R2 h2 => ?_
    refine I.E C' R2 (hs1.trans hs2) h2 fun V3 v3 σ3 s3 hv3 hs3 R3 h3 => ?_
    refine augB_sound R3 C.ro hs3 hv2 hv3 h3 fun V4 v4 σ4 s4 hv4 hs4 R4 h4 => ?_
    exact setA_sound R4 C.ro C.X C.KF hv hv4 h4 fun σ5 s5 hs5 R5 h5 => q _ _ (hs4.trans hs5) R5 h5
  · obtain ⟨hb, h⟩ := h.get
    obtain ⟨_, _, _, _, rfl⟩ := isBin_of hb
    refine wpAny_AugAssign_Subscript_any (I.E C' R hs h fun V v σ1 s1 hv hs1 R1 h1 => ?_) (by intro _ _ _; rfl)
    refine I.E C' R1 hs1 h1 fun V2 v2 σ2 s2 hv2 hs2 R2 h2 => ?_
    rw [C.fit.ro] at h2
    obtain ⟨T, id, hl, hT, hg⟩ := subA_sound (E := E) (Q := fun old s3 => ∃ V3, V3.is old ∧ Same s2 s3 ∧ Rep w fd fx σ2 s3.heap ∧ ((sem n).E P e σ2 fun b σ => iopA fd.ro op V3 b σ fun r σ => setI V V2 r σ k)) R2 C.ro hv hv2 h2 fun V3 v3 s3 hv3 hs3 R3 h3 => ⟨V3, hv3, hs3, R3, h3⟩
    refine wpAny_mono hg (fun old s3 ⟨V3, hv3, hs3, R3, h3⟩ => ?_) fun _ _ x => x
    refine I.E C' R3 (hs2.trans hs3) h3 fun V4 v4 σ4 s4 hv4 hs4 R4 h4 => ?_
    refine augB_sound R4 C.ro hs4 hv3 hv4 h4 fun V5 v5 σ5 s5 hv5 hs5 R5 h5 => ?_
    exact setI_sound R5 hv hv2 hv5 h5 fun σ6 s6 hs6 R6 h6 => q _ _ (hs5.trans hs6) R6 h6
  · exact h.elim

theorem while_sound (I : Snd w K n) {t : Expr} {b o : List Stmt} {pos : Pos} {k : Fl → AS → Prop} {Q : Flow → Shared → Prop} (C : Cx w K P fd A (n + 1)) (R : Rep w fd fx σ s.heap) (hs : Same s₀ s) (h : whileA (sem n) P t b o σ k) (q : FQ w fd fx s₀ k Q) :
    wpAny (model PR w) A (exec (.While t b o pos) fd.env) Q E s := by
  have C' := C.le (Nat.le_succ n)
  obtain ⟨J, ⟨m, h0⟩, step⟩ := h
  refine wpAny_While (codeAny_whileLoop (fun m s' => ∃ σ', J m σ' ∧ Same s₀ s' ∧ Rep w fd fx σ' s'.heap) ?_ m ⟨σ, h0, hs, R⟩)
  rintro m s1 ⟨σ1, h1, hs1, R1⟩
  refine I.T C' R1 hs1 (step m σ1 h1 _ (loopK_ok _ _)) fun c σ2 s2 hs2 R2 h2 => ?_
  cases c with
  | true =>
    rw [if_pos rfl]
    refine I.B C' R2 hs2 (h2.1 rfl) fun fl f σ3 s3 hf hs3 R3 h3 => ?_
    cases fl with
    | next => cases hf; obtain ⟨ns, m', hm, hJ⟩ := h3; exact ⟨m', hm, _, hJ, hs3, R3.forget (fgtL_lk _)⟩
    | cont => cases hf; obtain ⟨ns, m', hm, hJ⟩ := h3; exact ⟨m', hm, _, hJ, hs3, R3.forget (fgtL_lk _)⟩
    | brk => cases hf; obtain ⟨ns, h3⟩ := h3; exact q .next _ _ _ rfl hs3 (R3.forget (fgtL_lk _)) h3
    | ret V => obtain ⟨v, rfl, hv⟩ := hf; exact q (.ret V) _ _ _ ⟨v, rfl, hv⟩ hs3 R3 h3
  | false =>
    rw [if_neg (by decide)]
    exact I.B C' R2 hs2 (h2.2 rfl) q

theorem folded {it : Expr} {env : Env} (h : isSetE it = false) : ∀ x, foldedSetIterable it env x = pure x := by
  intro x
  cases it <;> first | rfl | cases h

theorem for_sound (I : Snd w K n) {t it : Expr} {ts : List Str} {b : List Stmt} {pos : Pos} {k : Fl → AS → Prop} {Q : Flow → Shared → Prop} (C : Cx w K P fd A (n + 1)) (R : Rep w fd fx σ s.heap) (hs : Same s₀ s) (hh : A.handled = none)
    (h : iterA (sem n) P it σ fun items keep σ => forA (sem n) P ts items keep b σ k) (ht : tgtOk it t = true) (hts : targetNames t = some ts) (q : FQ w fd fx s₀ k Q) :
    wpAny (model PR w) A (exec (.For t it b [] pos) fd.env) Q E s := by
  have C' := C.le (Nat.le_succ n)
  have hset : isSetE it = false := by
    have := (Bool.and_eq_true_iff.mp ht).1
    simpa using this
  refine wpAny_For (iter_sound I C R hs hh h ht hts fun itv items keep T trk σ1 s1 S hT hlen hs1 R1 hk1 h1 => ?_) (folded hset)
  obtain ⟨J, j0, jk, step, fin⟩ := h1
  refine codeAny_forLoop_any (fun m s' => ∃ i trk σ', m = items.length - i ∧ i ≤ items.length ∧ T i trk ∧ J i σ' ∧ Same s₀ s' ∧ Rep w fd (trk ++ fx) σ' s'.heap) ?_ items.length ⟨0, trk, σ1, rfl, Nat.zero_le _, hT, j0, hs1, R1⟩
  rintro m s2 ⟨i, trk2, σ2, rfl, hi, hT2, hJ, hs2, R2⟩
  cases hv : items[i]? with
  | none =>
    have hsz : i = items.length := Nat.le_antisymm hi (by simpa using hv)
    subst hsz
    refine S.stop C' rfl hT2 R2 (jk _ _ hJ) fun s3 hs3 R3 => ?_
    exact wpAny_execs_nil (q .next _ _ _ rfl (hs2.trans hs3) R3 (fin _ hJ))
  | some vs =>
    have hlt : i < items.length := (List.getElem?_eq_some_iff.mp hv).1
    refine wpAny_mono (stream_step S C' rfl hT2 R2 (jk _ _ hJ) hv (step i vs σ2 hv hJ _ (loopK_ok _ _))) (fun r s3 hgo => ?_) fun _ _ x => x
    obtain ⟨v, rfl, hgo⟩ := hgo
    refine wpAny_mono hgo (fun _ s4 hgo => wpAny_mono hgo (fun _ s5 hgo => ?_) fun _ _ x => x.elim) fun _ _ x => x.elim
    obtain ⟨trk', σ3, hT3, hs3, R3, h3⟩ := hgo
    have hs3 := hs2.trans hs3
    refine I.B C' R3 hs3 h3 fun fl f σ4 s4 hf hs4 R4 h4 => ?_
    have R4' := R4.drops (S.cell _ _ hT3)
    cases fl with
    | next => cases hf; obtain ⟨ns, h4⟩ := h4; exact ⟨items.length - (i + 1), by exact lin [_, _, _, _] (.lt (.v 0) (.v 1)) 1 (.c 1 (.eq (.a (.v 0) (.a (.v 2) (.n 1))) (.v 3)) (.c 1 (.qe (.a (.v 1) (.v 2)) (.v 3)) .e)) (Eq.refl true) (Nat.sub_add_cancel (lin [_, _] (.le (.a (.v 0) (.n 1)) (.v 1)) 1 (.c 1 (.lt (.v 0) (.v 1)) .e) (Eq.refl true) hlt)) (Nat.sub_add_cancel (lin [_, _] (.le (.v 0) (.v 1)) 1 (.c 1 (.lt (.v 0) (.v 1)) .e) (Eq.refl true) hlt)), i + 1, trk', _, rfl, hlt, hT3, h4, hs4, R4.forget (fgtL_lk _)⟩
    | cont => cases hf; obtain ⟨ns, h4⟩ := h4; exact ⟨items.length - (i + 1), by exact lin [_, _, _, _] (.lt (.v 0) (.v 1)) 1 (.c 1 (.eq (.a (.v 0) (.a (.v 2) (.n 1))) (.v 3)) (.c 1 (.qe (.a (.v 1) (.v 2)) (.v 3)) .e)) (Eq.refl true) (Nat.sub_add_cancel (lin [_, _] (.le (.a (.v 0) (.n 1)) (.v 1)) 1 (.c 1 (.lt (.v 0) (.v 1)) .e) (Eq.refl true) hlt)) (Nat.sub_add_cancel (lin [_, _] (.le (.v 0) (.v 1)) 1 (.c 1 (.lt (.v 0) (.v 1)) .e) (Eq.refl true) hlt)), i + 1, trk', _, rfl, hlt, hT3, h4, hs4, R4.forget (fgtL_lk _)⟩
    | brk => cases hf; obtain ⟨ns, h4⟩ := h4; exact q .next _ _ _ rfl hs4 (R4'.forget (fgtL_lk _)) h4
    | ret V => obtain ⟨v, rfl, hv⟩ := hf; exact q (.ret V) _ _ _ ⟨v, rfl, hv⟩ hs4 R4' h4

theorem sndB (I : Snd w K n) {ss : List Stmt} {k : Fl → AS → Prop} {Q : Flow → Shared → Prop} (C : Cx w K P fd A (n + 1)) (R : Rep w fd fx σ s.heap) (hs : Same s₀ s) (h : stepB (sem n) P ss σ k) (q : FQ w fd fx s₀ k Q) :
    wpAny (model PR w) A (execs ss fd.env) Q E s := by
  have C' := C.le (Nat.le_succ n)
  unfold stepB at h
  split at h
  · exact wpAny_execs_nil (q .next _ _ _ rfl hs R h)
  · refine wpAny_execs_cons (I.S C' R hs h fun fl f σ1 s1 hf hs1 R1 h1 => ?_)
    cases fl with
    | next => cases hf; exact I.B C' R1 hs1 h1 q
    | cont => cases hf; exact q .cont _ _ _ rfl hs1 R1 h1
    | brk => cases hf; exact q .brk _ _ _ rfl hs1 R1 h1
    | ret V => obtain ⟨v, rfl, hv⟩ := hf; exact q (.ret V) _ _ _ ⟨v, rfl, hv⟩ hs1 R1 h1

theorem notInteractive (C : Cx w K P fd A n) : interactive fd.env = false := by
  unfold interactive
  rw [C.fit.sc, C.fit.kd]; rfl

end
end Mine
end

section
open PySem PySem.W PyProof.Rows PySem.Calls PySem.Spec
open Sem (wp)
set_option maxRecDepth 100000
namespace Mine

theorem cellsFrom_addr : ∀ (names : List (Str × NameKind)) (n : Nat) (acc : List (Str × Addr)), (∀ p ∈ acc, p.2 < n) → (acc.map (·.2)).Nodup →
    ((cellsFrom n names acc).map (·.2)).Nodup ∧ ∀ p ∈ cellsFrom n names acc, p ∈ acc ∨ n ≤ p.2
  | [], n, acc, _, h2 => ⟨h2, fun p hp => .inl hp⟩
  | (x, k) :: r, n, acc, h1, h2 => by
    unfold cellsFrom
    split
    · obtain ⟨a, b⟩ := cellsFrom_addr r (n + 1) ((x, n) :: acc) (fun p hp => by
        rcases List.mem_cons.mp hp with rfl | hp
        · exact Nat.lt_succ_self _
        · exact Nat.lt_succ_of_lt (h1 p hp)) (by
        rw [List.map_cons, List.nodup_cons]
        refine ⟨fun q => ?_, h2⟩
        obtain ⟨p, hp, e⟩ := List.mem_map.mp q
        have := h1 p hp
        simp only at e
        rw [e] at this; exact Nat.lt_irrefl _ this)
      refine ⟨a, fun p hp => ?_⟩
      rcases b p hp with h | h
      · rcases List.mem_cons.mp h with rfl | h
        · exact .inr (Nat.le_refl _)
        · exact .inl h
      · exact .inr (Nat.le_of_succ_le h)
    · obtain ⟨a, b⟩ := cellsFrom_addr r n acc h1 h2
      exact ⟨a, b⟩
theorem cells_map {cm : Str → Option Value} : ∀ {cs : List (Str × Addr)} {cells : List (Addr × Obj)}, CellsAre cm cs cells → cells.map (·.1) = cs.map (·.2)
  | _, _, .nil => rfl
  | _, _, .cons _ h => by rw [List.map_cons, List.map_cons, cells_map h]
theorem cells_look {cm : Str → Option Value} : ∀ {cs : List (Str × Addr)} {cells : List (Addr × Obj)}, CellsAre cm cs cells → ∀ {x : Str} {c : Addr}, cs.lookup x = some c → ∃ o, (c, o) ∈ cells ∧ o.data = .cell (cm x)
  | _, _, .nil, _, _, h => by cases h
  | _, _, .cons (n := m) (c := c') hd h, x, c, e => by
    rw [List.lookup_cons] at e
    by_cases q : x = m
    · subst q; simp only [beq_self_eq_true] at e; cases e; exact ⟨_, .head _, hd⟩
    · rw [beq_eq_false_iff_ne.mpr q] at e
      obtain ⟨o, h1, h2⟩ := cells_look h e
      exact ⟨o, .tail _ h1, h2⟩
theorem bindL_none {kf : Str → Option NameKind} {x : Str} : ∀ {binds : List (Str × Value)} {m : Str → Option Value}, x ∉ binds.map (·.1) → bindL kf binds m x = m x
  | [], _, _ => rfl
  | (y, v) :: r, m, h => by
    rw [List.map_cons, List.mem_cons, not_or] at h
    unfold bindL
    rw [bindL_none h.2]
    split
    · simp [h.1]
    · rfl
theorem bindL_get {kf : Str → Option NameKind} {x : Str} {v : Value} (hk : kf x = some .local) : ∀ {binds : List (Str × Value)} {m : Str → Option Value}, (binds.map (·.1)).Nodup → (x, v) ∈ binds → bindL kf binds m x = some v
  | [], _, _, h => nomatch h
  | (y, u) :: r, m, nd, h => by
    rw [List.map_cons, List.nodup_cons] at nd
    unfold bindL
    rcases List.mem_cons.mp h with e | h
    · cases e; rw [bindL_none nd.1, if_pos hk]; simp
    · exact bindL_get hk nd.2 h
theorem bindC_none {kf : Str → Option NameKind} {x : Str} : ∀ {binds : List (Str × Value)} {m : Str → Option Value}, x ∉ binds.map (·.1) → bindC kf binds m x = m x
  | [], _, _ => rfl
  | (y, v) :: r, m, h => by
    rw [List.map_cons, List.mem_cons, not_or] at h
    unfold bindC
    rw [bindC_none h.2]
    split
    · rfl
    · simp [h.1]
theorem bindC_get {kf : Str → Option NameKind} {x : Str} {v : Value} (hk : kf x ≠ some .local) : ∀ {binds : List (Str × Value)} {m : Str → Option Value}, (binds.map (·.1)).Nodup → (x, v) ∈ binds → bindC kf binds m x = some v
  | [], _, _, h => nomatch h
  | (y, u) :: r, m, nd, h => by
    rw [List.map_cons, List.nodup_cons] at nd
    unfold bindC
    rcases List.mem_cons.mp h with e | h
    · cases e; rw [bindC_none nd.1, if_neg hk]; simp
    · exact bindC_get hk nd.2 h

section
variable {prog : Program} {w : World} {A₀ A : Around} {s s₁ : Shared} {base h₀ : Heap} {outer : List Env} {L : Addr} {m : Str → Option Value} {env : Env} {news : List (Addr × Obj)}
  {R : Result → Shared → Prop} {name qual : Str} {params : Arguments} {body : List Stmt} {scope : Scope} {dV kV doc pm cdv ct : Value} {an : Option Addr} {fo : Obj} {f : Addr} {args : Args} {binds : List (Str × Value)}
theorem callV (B : Below A₀ base outer h₀) (F : Fr h₀ L s₁.heap m) (N : News h₀ L s₁.heap news) (hlim : h₀.NoLimit) (hA : A.frames = some (env :: outer)) (hf : env.frame = some L) (hke : env.scope.kind = .function)
    (ho : s.heap.get? f = some fo) (hd : fo.data = .func (fnX name qual params body scope [] dV kV doc pm an cdv ct)) (hcd : s.heap.CodeRec cdv qual) (hroom : A.depth < recursionLimit)
    (hbind : ∀ (M : Model) (A : Around) (E : Value → Shared → Prop) (Q : List (Str × Value) → Shared → Prop), Q binds s₁ → wpAny M A (bindArgs (fnX name qual params body scope [] dV kV doc pm an cdv ct) args) Q E s)
    (hkind : ∀ n, ∀ x ∈ binds, scope.names.lookup x.1 = some .local ∨ (scope.names.lookup x.1 = some .cell ∧ ((cellsFrom n scope.names []).lookup x.1).isSome = true))
    (hnd : ((cellsFrom 0 scope.names []).map (·.1)).Nodup)
    (h : ∀ g L' h₁ tk cells, Fr h₀ L g m → Fr g L' h₁ (bindL (envOfC qual scope L' f cdv).kindOf binds fun _ => none) → News g L' h₁ (cells ++ news) →
      CellsAre (bindC (envOfC qual scope L' f cdv).kindOf binds fun _ => none) (cellsFrom (L' + 1) scope.names []) cells → Below A base (env :: outer) g → h₀.StaysIn g → (∀ p ∈ news, p.1 < L') →
      wpAny (model prog w) (A.deeper (envOfC qual scope L' f cdv)) (execs body (envOfC qual scope L' f cdv))
        (fun fl s' => R (.ok (.ret (match fl with | .ret v => v | _ => .none))) s')
        (fun e s' => wpAny (model prog w) (A.deeper (envOfC qual scope L' f cdv)) (leaving (envOfC qual scope L' f cdv) e) (fun _ s'' => R (.error e) s'') (fun e' s'' => R (.error e') s'') s')
        { s₁ with heap := h₁, toks := tk })
    (hco : scope.isCoroutine = false) (hgen : scope.isGenerator = false) (hk : scope.kind = .function) : codeAny (model prog w) A (.call (.ref f) args) R s := by
  obtain ⟨FG, BG, st, lv⟩ := groundX (R := R) B F N hA hf hke
  refine codeAny_call_function hroom ho hd hco hgen rfl hcd (hbind _ _ _ _ ?_)
  refine wpAny_newFunctionEnv_cells hk (hkind _) fun env' he s' x => ?_
  subst he
  refine ⟨(hlim.keeps F.keep).keeps x.toInCall.keep, codeAny_func ?_⟩
  obtain ⟨h₁, tk, rfl, _⟩ := x.done
  have hk₁ := x.toInCall.keep
  obtain ⟨cells, NC, Y⟩ := Cl.news (h₀ := s₁.heap) (Nat.le_refl _) fun n c hm => ⟨x.cell n c (lookup_of_mem_nodup (cellsFrom_names scope.names 0 (s₁.heap.objs.size + 1) [] [] rfl ▸ hnd) hm), x.above n c hm⟩
  refine wpAny_mono (h _ s₁.heap.objs.size h₁ tk cells FG ⟨x.toInCall.ns, fun b o e => hk₁ b o (of_hideAll _ e), Nat.le_of_eq (hideAll_size _ _)⟩ (fun p hp => ?_) Y BG st (fun p hp => Heap.lt_size (N p hp).1)) (fun fl s' hl => hl) fun _ _ y => y
  rcases List.mem_append.mp hp with hp | hp
  · refine ⟨(NC p hp).1, (NC p hp).2.1, ?_⟩
    cases q : (hideAll s₁.heap (news.map (·.1))).get? p.1 with
    | none => rfl
    | some o => have := of_hideAll _ q; rw [(NC p hp).2.2] at this; cases this
  · exact ⟨hk₁ _ _ (N p hp).1, Nat.ne_of_lt (Heap.lt_size (N p hp).1), hideAll_none _ (List.mem_map_of_mem hp)⟩
end
end Mine
end

section
open PySem PySem.W PyProof.Rows PySem.Calls PySem.Spec
open Sem (wp)
set_option maxRecDepth 100000
namespace Mine
section
variable {w : World} {A : Around} {E : Value → Shared → Prop} {s s₀ : Shared} {fd : FD} {fx : List (Addr × Obj)} {σ : AS} {K : Frag} {P : Prm} {n : Nat}

/-- a bound name and its value -/
noncomputable def bdIs (p : Str × AV) (q : Str × Value) : Prop := p.1 = q.1 ∧ p.2.is q.2
theorem bd_lookup {loc : List (Str × AV)} {binds : List (Str × Value)} (h : Paired bdIs loc binds) {x : Str} {V : AV} (e : loc.lookup x = some V) : ∃ v, (x, v) ∈ binds ∧ V.is v := by
  induction h with
  | nil => cases e
  | @cons p q l b a h' ih =>
    obtain ⟨k, U⟩ := p
    obtain ⟨k2, u⟩ := q
    obtain ⟨a1, a2⟩ := a
    simp only at a1 a2
    subst a1
    rw [List.lookup_cons] at e
    by_cases hk : x = k
    · subst hk; simp only [beq_self_eq_true] at e; cases e; exact ⟨u, .head _, a2⟩
    · rw [beq_eq_false_iff_ne.mpr hk] at e
      obtain ⟨v, h1, h2⟩ := ih e
      exact ⟨v, .tail _ h1, h2⟩
theorem bd_zip {Vs : List AV} {vs : List Value} (h : Paired AV.is Vs vs) : ∀ {ns : List Str}, Paired bdIs (ns.zip Vs) (ns.zip vs) := by
  induction h with
  | nil => intro ns; cases ns <;> exact .nil
  | cons a _ ih =>
    intro ns
    cases ns with
    | nil => exact .nil
    | cons x ns => exact .cons ⟨rfl, a⟩ ih

/-- the callee's state, made of the caller's -/
theorem callee_rep {m : Str → Option Value} {own news : List (Addr × Obj)} {gc g h₁ : Heap} {L' : Addr} {qual : Str} {F : Fn} {f : Addr} {cdv : Value} {loc : List (Str × AV)} {hp : List (Addr × AO)} {binds : List (Str × Value)} {cells : List (Addr × Obj)} {h : Heap}
    (hz : sysModules < gc.objs.size) (FG : Fr gc fd.Lf g m) (F1 : Fr g L' h₁ (bindL (envOfC qual F.scope L' f cdv).kindOf binds fun _ => none)) (N1 : News g L' h₁ (cells ++ (fx ++ (own ++ news))))
    (Y : CellsAre (bindC (envOfC qual F.scope L' f cdv).kindOf binds fun _ => none) (cellsFrom (L' + 1) F.scope.names []) cells) (nd : ((fx ++ (own ++ news)).map (·.1)).Nodup) (hlt : ∀ p ∈ fx ++ (own ++ news), p.1 < L')
    (H : HRel w news hp) (hbd : Paired bdIs loc binds) (hnd : (binds.map (·.1)).Nodup) (hkd : ∀ x ∈ binds, F.scope.names.lookup x.1 = some .local ∨ (F.scope.names.lookup x.1 = some .cell ∧ ((cellsFrom (L' + 1) F.scope.names []).lookup x.1).isSome = true)) :
    Rep w ⟨g, L', envOfC qual F.scope L' f cdv, none, fd.ro, fd.Lf :: fd.fs⟩ (fx ++ own) ⟨loc, hp⟩ h₁ := by
  obtain ⟨cd1, cd2⟩ := cellsFrom_addr F.scope.names (L' + 1) [] (fun _ h => nomatch h) .nil
  have hmap := cells_map Y
  have hcl : ∀ p ∈ cells, L' < p.1 := fun p hp => by
    have : p.1 ∈ (cellsFrom (L' + 1) F.scope.names []).map (·.2) := by rw [← hmap]; exact List.mem_map_of_mem hp
    obtain ⟨q, hq, e⟩ := List.mem_map.mp this
    rw [← e]
    rcases cd2 q hq with z | z
    · cases z
    · exact z
  refine ⟨g, .refl, _, cells, news, F1, ?_, ?_, H, ⟨?_, ?_⟩, ?_⟩
  · intro p hp
    refine N1 p ?_
    simp only [List.mem_append] at hp ⊢
    rcases hp with (h | h) | h | h
    · exact .inr (.inl h)
    · exact .inr (.inr (.inl h))
    · exact .inl h
    · exact .inr (.inr (.inr h))
  · have perm : ((fx ++ own) ++ (cells ++ news)).Perm (cells ++ (fx ++ (own ++ news))) := by
      have : (fx ++ own ++ (cells ++ news)).Perm (cells ++ (fx ++ own) ++ news) := by
        rw [← List.append_assoc]
        exact (List.perm_append_comm (l₁ := fx ++ own) (l₂ := cells)).append_right _
      refine this.trans (List.Perm.of_eq ?_)
      simp
    rw [(perm.map (·.1)).nodup_iff, List.map_append, List.nodup_append]
    refine ⟨by rw [hmap]; exact cd1, nd, fun a ha b hb e => ?_⟩
    obtain ⟨p, hp, rfl⟩ := List.mem_map.mp ha
    obtain ⟨q, hq, rfl⟩ := List.mem_map.mp hb
    have h1 := hcl p hp
    have h2 := hlt q hq
    rw [e] at h1
    exact Nat.lt_irrefl _ (Nat.lt_trans h1 h2)
  · refine ⟨rfl, fun x c e => ?_, ?_⟩
    · obtain ⟨o, h1, h2⟩ := cells_look Y e
      exact ⟨o, _, h1, h2⟩
    · refine (?_ : (cellsFrom (L' + 1) F.scope.names []).Pairwise _)
      exact List.pairwise_map.mp cd1
  · intro x V e
    obtain ⟨v, h1, h2⟩ := bd_lookup hbd e
    refine ⟨v, h2, ?_⟩
    rcases hkd _ h1 with hk | ⟨hk, hc⟩
    · exact .inl ⟨hk, .inl ⟨rfl, bindL_get hk hnd h1⟩⟩
    · obtain ⟨c, hc⟩ := Option.isSome_iff_exists.mp hc
      obtain ⟨o, h3, h4⟩ := cells_look Y hc
      refine .inr ⟨.inl hk, c, o, hc, .inl h3, ?_⟩
      rw [h4, bindC_get (by show F.scope.names.lookup x ≠ _; rw [hk]; simp) hnd h1]
  · have hL := FG.ns.lt
    exact Nat.lt_of_lt_of_le hz (Nat.le_trans FG.above (Nat.le_of_lt hL))
end
end Mine
end

section
open PySem PySem.W PyProof.Rows PySem.Calls PySem.Spec
open Sem (wp)
set_option maxRecDepth 100000
namespace Mine

theorem cellsFrom_nd : ∀ (names : List (Str × NameKind)) (n : Nat) (acc : List (Str × Addr)), (acc.map (·.1) ++ names.map (·.1)).Nodup → ((cellsFrom n names acc).map (·.1)).Nodup
  | [], _, acc, h => by show (acc.map (·.1)).Nodup; simpa using h
  | (x, k) :: r, n, acc, h => by
    unfold cellsFrom
    split
    · refine cellsFrom_nd r (n + 1) ((x, n) :: acc) ?_
      have : (((x, n) :: acc).map (·.1) ++ r.map (·.1)).Perm (acc.map (·.1) ++ ((x, k) :: r).map (·.1)) := by
        simp only [List.map_cons, List.cons_append]
        exact (List.perm_middle).symm
      exact this.nodup_iff.mpr h
    · refine cellsFrom_nd r n acc ?_
      refine h.sublist ?_
      exact List.Sublist.append (List.Sublist.refl _) (by simp)

structure FnOk (F : Fn) : Prop where
  po : F.params.posonlyargs = []
  ko : F.params.kwonlyargs = []
  kw : F.params.kwarg = none
  nd : (fnBind F).Nodup
  kd : F.scope.kind = .function
  gen : F.scope.isGenerator = false
  co : F.scope.isCoroutine = false
  ks : ∀ x ∈ fnBind F, F.scope.names.lookup x = some .local ∨ F.scope.names.lookup x = some .cell
  nn : (F.scope.names.map (·.1)).Nodup
  nm : (F.scope.names.all fun p => p.1 != ("__debug__" : Str) && p.1 != ("__classdict__" : Str)) = true
theorem fnOk_of {F : Fn} (h : fnChk F = true) : FnOk F := by
  unfold fnChk at h
  simp only [Bool.and_eq_true] at h
  obtain ⟨⟨⟨⟨⟨⟨⟨⟨⟨h1, h2⟩, h3⟩, h4⟩, h5⟩, h6⟩, h7⟩, h8⟩, h9⟩, h10⟩ := h
  refine ⟨List.isEmpty_iff.mp h1, List.isEmpty_iff.mp h2, Option.isNone_iff_eq_none.mp h3, of_decide_eq_true h4, by simpa using h5, by simpa using h6, by simpa using h7, fun x hx => ?_, of_decide_eq_true h9, by simpa using h10⟩
  have := List.all_eq_true.mp h8 x hx
  rcases Bool.or_eq_true_iff.mp this with q | q
  · exact .inl (by simpa using q)
  · exact .inr (by simpa using q)

section
variable {w : World} {A : Around} {E : Value → Shared → Prop} {s s₀ : Shared} {fd : FD} {fx : List (Addr × Obj)} {σ : AS} {K : Frag} {P : Prm} {n : Nat}

/-- a turn of the callee's ground is a turn of the caller's -/
theorem turn_back {A₀ : Around} {base gc g g' : Heap} {outer : List Env} {L : Addr} {m : Str → Option Value} (B : Below A₀ base outer gc) (FG : Fr gc L g m) (T : KtsTurn (L :: outer.filterMap (·.frame)) g g') :
    ∃ gc', KtsTurn (outer.filterMap (·.frame)) gc gc' ∧ (∀ b o, gc'.get? b = some o → g'.get? b = some o) ∧ g'.Ns L m ∧ gc'.objs.size ≤ L := by
  have hself := kts_self FG
  obtain ⟨T', S⟩ := kts_turn_at (h := g') (fs := outer.filterMap (·.frame)) (g := gc)
    (fun b hb => by
      obtain ⟨_, o, ho, _⟩ := B.frames.mem hb
      exact ⟨o, ho⟩)
    (fun b o e nm => T.other b o (FG.keep b o e) fun hm => by
      rcases List.mem_cons.mp hm with z | z
      · rw [z, hself] at e; cases e
      · exact nm z)
    (fun b o e hm => T.frame b o (FG.keep b o e) (.tail _ hm))
  refine ⟨_, T', S, ?_, by rw [T'.size]; exact FG.above⟩
  obtain ⟨oL, es, ep, hL, hLd, hLk, hLf⟩ := FG.ns
  obtain ⟨sl, hs⟩ := T.up hL
  exact ⟨_, es, ep, hs, hLd, hLk, hLf⟩

theorem leave_rep {A₀ : Around} {base gc g g' : Heap} {outer : List Env} {m m' : Str → Option Value} {own own2 news2 : List (Addr × Obj)} {h' : Heap} {L' : Addr} {hp : List (Addr × AO)} (B : Below A₀ base outer gc) (hfs : fd.fs = outer.filterMap (·.frame)) (GC : fd.Gr gc)
    (FG : Fr gc fd.Lf g m) (T : KtsTurn (fd.Lf :: fd.fs) g g') (F' : Fr g' L' h' m') (N' : News g' L' h' ((fx ++ own) ++ (own2 ++ news2))) (nd : (((fx ++ own) ++ (own2 ++ news2)).map (·.1)).Nodup)
    (H : HRel w news2 hp) (V : Vars fd fx own m σ.loc) (hz : sysModules < gc.objs.size) : Rep w fd fx ⟨σ.loc, hp⟩ h' := by
  rw [hfs] at T
  obtain ⟨gc', T', S, ns, ab⟩ := turn_back B FG T
  obtain ⟨oL, es, ep, hL, r⟩ := ns
  have GC' : fd.Gr gc' := KtsTurn.trans GC (by rw [hfs]; exact T')
  refine ⟨gc', GC', m, own, news2, ⟨⟨oL, es, ep, F'.keep _ _ hL, r⟩, fun b o e => F'.keep b o (S b o e), ab⟩, fun p hp => ?_, ?_, H, V, by rw [T'.size]; exact hz⟩
  · have D := N' p (by
      simp only [List.mem_append] at hp ⊢
      rcases hp with h | h | h
      · exact .inl (.inl h)
      · exact .inl (.inr h)
      · exact .inr (.inr h))
    refine ⟨D.1, fun z => ?_, kts_none S D.2.2⟩
    have := D.2.2; rw [z, hL] at this; cases this
  · refine nd.sublist (List.Sublist.map _ ?_)
    rw [← List.append_assoc]
    exact List.Sublist.append (List.Sublist.refl _) (List.sublist_append_right _ _)

/-- the body of a function, run -/
theorem body_sound (I : Snd w K n) {F : Fn} {f : Addr} {loc : List (Str × AV)} {hp : List (Addr × AO)} {binds : List (Str × Value)} {args : Args} {k : AV → List (Addr × AO) → Prop} {R' : Result → Shared → Prop} {fo : Obj} {dV kV doc pm cdv ct : Value} {an : Option Addr} {s1 : Shared}
    {m : Str → Option Value} {own news news1 : List (Addr × Obj)} {gc : Heap}
    (C : Cx w K P fd A (n + 1)) (ok : FnOk F) (ho : s.heap.get? f = some fo) (hd : fo.data = .func (fnX F.name F.qual F.params F.body F.scope [] dV kV doc pm an cdv ct)) (hcd : s.heap.CodeRec cdv F.qual)
    (hs : Same s₀ s1) (GC : fd.Gr gc) (F1 : Fr gc fd.Lf s1.heap m) (N1 : News gc fd.Lf s1.heap (fx ++ (own ++ news1))) (nd1 : ((fx ++ (own ++ news1)).map (·.1)).Nodup) (H1 : HRel w news1 hp) (V : Vars fd fx own m σ.loc) (hz : sysModules < gc.objs.size)
    (hbind : ∀ (M : Model) (A : Around) (E : Value → Shared → Prop) (Q : List (Str × Value) → Shared → Prop), Q binds s1 → wpAny M A (bindArgs (fnX F.name F.qual F.params F.body F.scope [] dV kV doc pm an cdv ct) args) Q E s)
    (hbd : Paired bdIs loc binds) (hnd : (binds.map (·.1)).Nodup) (hkd : ∀ x ∈ binds, x.1 ∈ fnBind F)
    (h : (sem n).B ⟨F.scope, P.ro, P.nh, false⟩ F.body ⟨loc, hp⟩ fun fl σ => match fl with
      | .next => k .none σ.hp
      | .ret v => k v σ.hp
      | _ => False)
    (q : ∀ V v hp s, V.is v → Same s₀ s → Rep w fd fx ⟨σ.loc, hp⟩ s.heap → k V hp → R' (.ok (.ret v)) s) : codeAny (model PR w) A (.call (.ref f) args) R' s := by
  obtain ⟨A₀, base, outer, fenv, B, hfs, hA, hf, hke, _⟩ := C.fr
  obtain ⟨p, loose, mg, mb, T⟩ := C.top
  have kinds : ∀ n, ∀ x ∈ binds, F.scope.names.lookup x.1 = some .local ∨ (F.scope.names.lookup x.1 = some .cell ∧ ((cellsFrom n F.scope.names []).lookup x.1).isSome = true) := fun n x hx =>
    (ok.ks _ (hkd x hx)).imp id fun h => ⟨h, cellsFrom_some _ _ _ (.inl h)⟩
  have dp := C.dp
  refine callV (B gc GC) F1 N1 (T gc GC).nolimit hA hf hke ho hd hcd (by exact lin [_, _, _] (.lt (.v 0) (.v 1)) 1 (.c 1 (.lt (.a (.a (.v 0) (.m 4 (.a (.v 2) (.n 1)))) (.n 100)) (.v 1)) .e) (Eq.refl true) dp) hbind kinds (cellsFrom_nd _ _ _ (by simpa using ok.nn)) (fun g L' h₁ tk cells FG F2 N2 Y BG st hlt => ?_) ok.co ok.gen ok.kd
  have R2 := callee_rep (qual := F.qual) (F := F) (f := f) (cdv := cdv) (h := h₁) hz FG F2 N2 Y nd1 hlt H1 hbd hnd (kinds _)
  have back : ∀ g', KtsTurn (fd.Lf :: fd.fs) g g' → ∃ gc', fd.Gr gc' ∧ ∀ b o, gc'.get? b = some o → g'.get? b = some o := fun g' T => by
    rw [hfs] at T
    obtain ⟨gc', T', S, _⟩ := turn_back (B gc GC) FG T
    exact ⟨gc', KtsTurn.trans GC (by rw [hfs]; exact T'), S⟩
  have hfs2 : (fenv :: outer).filterMap (·.frame) = fd.Lf :: fd.fs := by rw [List.filterMap_cons_some hf, hfs]
  have C2 : Cx w K ⟨F.scope, P.ro, P.nh, false⟩ ⟨g, L', envOfC F.qual F.scope L' f cdv, none, fd.ro, fd.Lf :: fd.fs⟩ (A.deeper (envOfC F.qual F.scope L' f cdv)) n := by
    refine ⟨⟨C.fit.ro, rfl, ok.kd, rfl, rfl, rfl, fun x hx => cellsFrom_some _ _ _ (hx.elim .inl fun z => by cases z.1), ok.nm⟩, fun g' G' => ?_, C.KF, C.KN, C.KM, fun p hp => ?_, ⟨p, loose, mg, mb, fun g' G' => ?_⟩, ?_, ?_, C.nh, ?_⟩
    · obtain ⟨gc', GC', S⟩ := back g' G'
      exact (C.X gc' GC').keeps S
    · obtain ⟨a, o, b, c⟩ := C.ro p hp
      exact ⟨a, o, fun g' G' => by
        obtain ⟨gc', GC', S⟩ := back g' G'
        exact S _ _ (b gc' GC'), c⟩
    · obtain ⟨gc', GC', S⟩ := back g' G'
      exact (T gc' GC').keeps S
    · have := C.un
      refine (?_ : A.units + 3 + 32 * n + 200 < cLine)
      exact lin [_, _, _] (.lt (.a (.a (.a (.v 0) (.n 3)) (.m 32 (.v 1))) (.n 200)) (.v 2)) 1 (.c 1 (.lt (.a (.a (.v 0) (.m 32 (.a (.v 1) (.n 1)))) (.n 200)) (.v 2)) .e) (Eq.refl true) this
    · refine (?_ : A.depth + 1 + 4 * n + 100 < recursionLimit)
      exact lin [_, _, _] (.lt (.a (.a (.a (.v 0) (.n 1)) (.m 4 (.v 1))) (.n 100)) (.v 2)) 1 (.c 1 (.lt (.a (.a (.v 0) (.m 4 (.a (.v 1) (.n 1)))) (.n 100)) (.v 2)) .e) (Eq.refl true) dp
    · refine ⟨A, base, fenv :: outer, envOfC F.qual F.scope L' f cdv, fun g' G' => ?_, hfs2.symm, ?_, rfl, ok.kd, fun _ => rfl⟩
      · have G' : KtsTurn (fd.Lf :: fd.fs) g g' := G'
        refine ⟨BG.stack, fun b o e => G'.other b o (BG.stays b o e) (fun hm => ?_), BG.frames.of_keeps fun b o e _ => ?_⟩
        · rw [← hfs2] at hm
          rw [(BG.frames.mem hm).1] at e; cases e
        · obtain ⟨sl, hs⟩ := G'.up e
          exact ⟨_, hs, rfl⟩
      · refine (?_ : A.frames.map _ = _)
        rw [hA]; rfl
  refine I.B (fd := ⟨g, L', envOfC F.qual F.scope L' f cdv, none, fd.ro, fd.Lf :: fd.fs⟩) (s := { s1 with heap := h₁, toks := tk }) C2 R2 (hs.trans (same_hp s1 _ _)) h fun fl f' σ2 s2 hfl hs2 R3 h2 => ?_
  obtain ⟨g3, G3, m3, own3, news3, F3, N3, nd3, H3, V3, hz3⟩ := R3
  have R4 := leave_rep (B gc GC) hfs GC FG G3 F3 N3 nd3 H3 V hz
  cases fl with
  | next => cases hfl; exact q .none _ _ _ rfl hs2 R4 h2
  | ret U => obtain ⟨v, rfl, hv⟩ := hfl; exact q U v _ _ hv hs2 R4 h2
  | brk => exact h2.elim
  | cont => exact h2.elim

theorem sndC (I : Snd w K n) {f : Addr} {Vs : List AV} {vs : List Value} {k : AV → List (Addr × AO) → Prop} {R' : Result → Shared → Prop} (C : Cx w K P fd A (n + 1)) (R : Rep w fd fx σ s.heap) (hs : Same s₀ s) (hv : Paired AV.is Vs vs) (h : stepC (sem n) P f Vs σ.hp k)
    (q : ∀ V v hp s, V.is v → Same s₀ s → Rep w fd fx ⟨σ.loc, hp⟩ s.heap → k V hp → R' (.ok (.ret v)) s) : codeAny (model PR w) A (.call (.ref f) ⟨vs, []⟩) R' s := by
  have hmem : f ∈ ft.map (·.1) := fn_mem (n := n + 1) (P := P) (Vs := Vs) (hp := σ.hp) (k := k) h
  obtain ⟨p, hp, rfl⟩ := List.mem_map.mp hmem
  obtain ⟨F, hF, chk, fo, dV, kV, doc, pm, an, cdv, ct, ho, hd, hcd, hdv⟩ := C.KN.fn p hp
  have ok := fnOk_of chk
  unfold stepC at h
  rw [hF] at h
  dsimp only at h
  have X := repX C R
  obtain ⟨gc, GC, m, own, news, FR, N, nd, H, V, hz⟩ := R
  have hseq : ∃ items, ∀ (M : Model) (A : Around) (E : Value → Shared → Prop) (Q : Option (Array Value) → Shared → Prop), Q items s → wpAny M A (seqItems? dV) Q E s := by
    rcases hdv with rfl | ⟨T, o, xs, m, rfl, hT, hdat⟩
    · exact ⟨none, fun M A E Q hq => wpAny_bind (wpAny_pure (wpAny_pure hq))⟩
    · refine ⟨some xs, fun M A E Q hq => ?_⟩
      unfold seqItems?
      refine wpAny_bind (wpAny_load (X _ _ hT) ?_)
      rw [hdat]; exact wpAny_pure hq
  obtain ⟨items, hseq⟩ := hseq
  have hlenv := hv.length
  unfold bindA at h
  split at h
  · rename_i hva
    obtain ⟨hl, h⟩ := h.get
    have hl := lenEq_eq hl
    have nn : fnBind F = fnNames F := by unfold fnBind; rw [hva]; simp
    have e0 : vs = vs ++ [] := by simp
    refine body_sound I (s1 := s) (binds := (fnNames F).zip vs) (news1 := news) (news := news) C ok (X _ _ ho) hd (codeRec_of X hcd) hs GC FR N nd H V hz (fun M A E Q hq => ?_) (bd_zip hv) ?_ ?_ h q
    · rw [e0]
      refine bind_gen (ns := fnNames F) ok.po rfl ok.ko ok.kw (nn ▸ ok.nd) (fun Q hq => hseq M A E Q hq) (by exact Nat.le_antisymm (lin [_, _, _] (.le (.v 0) (.v 1)) 1 (.c 1 (.eq (.v 2) (.v 1)) (.c 1 (.eq (.v 0) (.v 2)) .e)) (Eq.refl true) hlenv hl) (lin [_, _, _] (.le (.v 0) (.v 1)) 1 (.c 1 (.qe (.v 2) (.v 0)) (.c 1 (.qe (.v 1) (.v 2)) .e)) (Eq.refl true) hlenv hl)) (fun _ => rfl) (Nat.zero_le _) ?_
      refine (?_ : match F.params.vararg with | none => _ | some a => _)
      rw [hva]; exact hq
    · rw [List.map_fst_zip (by exact lin [_, _, _] (.le (.v 0) (.v 1)) 1 (.c 1 (.eq (.v 2) (.v 1)) (.c 1 (.eq (.v 0) (.v 2)) .e)) (Eq.refl true) hlenv hl)]; exact nn ▸ ok.nd
    · intro x hx
      rw [nn]; exact (List.of_mem_zip hx).1
  · rename_i a hva
    obtain ⟨hl, hlm, h⟩ := h
    have nn : fnBind F = fnNames F ++ [a.arg] := by unfold fnBind; rw [hva]; rfl
    have e0 : vs = vs.take (fnNames F).length ++ vs.drop (fnNames F).length := (List.take_append_drop _ _).symm
    have hpt := Paired.take hv (fnNames F).length
    have hpd := Paired.drop hv (fnNames F).length
    have hx : (AO.tuple (Vs.drop (fnNames F).length)).is w { cls := .type "tuple", data := .seq (vs.drop (fnNames F).length).toArray } := ⟨_, 0, rfl, hpd⟩
    have RT := rep_push (s := s) (σ := σ) (fd := fd) (fx := fx) ⟨gc, GC, m, own, news, FR, N, nd, H, V, hz⟩ hx
    have FR2 := FR.push { cls := .type "tuple", data := .seq (vs.drop (fnNames F).length).toArray }
    have N2 := N.push FR { cls := .type "tuple", data := .seq (vs.drop (fnNames F).length).toArray }
    refine body_sound I (s1 := { s with heap := s.heap.push { cls := .type "tuple", data := .seq (vs.drop (fnNames F).length).toArray } }) (binds := (fnNames F).zip (vs.take (fnNames F).length) ++ [(a.arg, .ref s.heap.objs.size)])
      (news1 := (s.heap.objs.size, { cls := .type "tuple", data := .seq (vs.drop (fnNames F).length).toArray }) :: news) (news := news) C ok (X _ _ ho) hd (codeRec_of X hcd) (hs.trans (same_hp s _ s.toks)) GC FR2 ?_ ?_ (.cons ⟨rfl, hx, ?_⟩ H) V hz (fun M A E Q hq => ?_)
      (Paired.append (bd_zip hpt) (.cons ⟨rfl, ref_is _⟩ .nil)) ?_ ?_ (h s.heap.objs.size) q
    · intro p hp
      have : p ∈ (s.heap.objs.size, { cls := .type "tuple", data := .seq (vs.drop (fnNames F).length).toArray }) :: (fx ++ (own ++ news)) := by
        simp only [List.mem_append, List.mem_cons] at hp ⊢
        rcases hp with h | h | h | h
        · exact .inr (.inl h)
        · exact .inr (.inr (.inl h))
        · exact .inl h
        · exact .inr (.inr (.inr h))
      exact N2 p this
    · have perm : (fx ++ (own ++ (s.heap.objs.size, ({ cls := .type "tuple", data := .seq (vs.drop (fnNames F).length).toArray } : Obj)) :: news)).Perm ((s.heap.objs.size, { cls := .type "tuple", data := .seq (vs.drop (fnNames F).length).toArray }) :: (fx ++ (own ++ news))) := by
        rw [← List.append_assoc, ← List.append_assoc]
        exact List.perm_middle
      rw [(perm.map (·.1)).nodup_iff]
      refine List.nodup_cons.mpr ⟨fun z => ?_, nd⟩
      obtain ⟨p, hp, e⟩ := List.mem_map.mp z
      have := Heap.lt_size (N p hp).1
      rw [e] at this; exact Nat.lt_irrefl _ this
    · exact Nat.ne_of_gt (Nat.lt_of_lt_of_le hz (Nat.le_trans FR.above (Nat.le_of_lt FR.ns.lt)))
    · rw [e0]
      refine bind_gen (ns := fnNames F) ok.po rfl ok.ko ok.kw ?_ (fun Q hq => hseq M A E Q hq) (by rw [List.length_take]; omega) (fun z => by rw [show F.params.vararg = none from z] at hva; cases hva) (by rw [List.length_drop]; exact lin [_, _, _, _] (.le (.v 0) (.v 1)) 1 (.c 1 (.qe (.v 2) (.v 3)) (.c 1 (.le (.v 2) (.v 1)) (.c 1 (.le (.v 0) (.v 3)) .e))) (Eq.refl true) hlenv hlm (lsb _ _)) ?_
      · have := ok.nd; rw [nn] at this; exact (List.nodup_append.mp this).1
      · refine (?_ : match F.params.vararg with | none => _ | some a => _)
        rw [hva]
        exact hq
    · rw [List.map_append, List.map_fst_zip (by rw [List.length_take]; omega)]
      have := ok.nd; rw [nn] at this; exact this
    · intro x hx
      rw [nn]
      rcases List.mem_append.mp hx with h | h
      · exact List.mem_append_left _ (List.of_mem_zip h).1
      · rcases List.mem_singleton.mp h with rfl; exact List.mem_append_right _ (.head _)
end
end Mine
end

section
open PySem PySem.W PyProof.Rows PySem.Calls PySem.Spec
open Sem (wp)
set_option maxRecDepth 100000
namespace Mine

noncomputable def compE (em : Emit) (gens : List Comprehension) (sc : Scope) (pos : Pos) : Expr := match em with
  | .list elt => .ListComp elt gens sc pos
  | .dict kx vx => .DictComp kx vx gens sc pos
noncomputable def compEmit (em : Emit) (r : Addr) (env : Env) : Sem Unit := match em with
  | .list elt => do let _ ← call (.builtin "list.append") [.ref r, ← eval elt env]
  | .dict kx vx => do
    let kv ← eval kx env
    let vv ← holding [kv] (eval vx env)
    standAt { kx.pos with endLine := vx.pos.endLine, endCol := vx.pos.endCol }
    holding [kv, vv] (dictSet r kv vv)

theorem compTurn_eq {em : Emit} {gens : List Comprehension} {sc : Scope} {pos : Pos} {d : Nat} {it : Value} {r : Addr} {env : Env} {g : Comprehension} (hg : gens[d]? = some g) (ha : g.is_async = 0) :
    compTurn (compE em gens sc pos) d it (.ref r) env = (standAt g.iter.pos >>= fun _ => pyNext it >>= fun x => match x with
      | none => pure (.done .next)
      | some v => letOwnedTupleGo g.target it v >>= fun _ => assign g.target env v >>= fun _ =>
        (forIn g.ifs true fun c r => if r = true then do let ok ← isTrue c env (eval c env); pure (ForInStep.yield ok) else pure (ForInStep.yield r)) >>= fun ok =>
        if ok = true then (match gens[d + 1]? with
          | some g' => (do
            let x ← eval g'.iter env
            standAt g'.iter.pos
            let x ← if g'.is_async != 0 then foldedIterable g'.iter x else foldedSetIterable g'.iter env x
            let _ ← runOwn (.compStart (compE em gens sc pos) (d + 1) (← holding [x] (if g'.is_async != 0 then asyncIter x else pyIter x)) (.ref r) env) env
            again (.compLoop (compE em gens sc pos) d it (.ref r) env))
          | none => (do compEmit em r env; again (.compLoop (compE em gens sc pos) d it (.ref r) env)))
        else again (.compLoop (compE em gens sc pos) d it (.ref r) env)) := by
  obtain ⟨g1, g2, g3, g4⟩ := g
  cases ha
  cases em with
  | list elt => delta compTurn compE; dsimp only; rw [hg]; rfl
  | dict kx vx => delta compTurn compE; dsimp only; rw [hg]; rfl
end Mine
end

section
open PySem PySem.W PyProof.Rows PySem.Calls PySem.Spec
open Sem (wp)
set_option maxRecDepth 100000
namespace Mine
section
variable {w : World} {A : Around} {E : Value → Shared → Prop} {s s₀ : Shared} {fd : FD} {fx : List (Addr × Obj)} {σ : AS} {K : Frag} {P : Prm} {n : Nat} {R' : Result → Shared → Prop}

theorem compStart_sound {em : Emit} {gens : List Comprehension} {sc : Scope} {pos : Pos} {d : Nat} {it : Value} {r : Addr} {env : Env} {g : Comprehension} (hg : gens[d]? = some g) (ha : g.is_async = 0)
    (h0 : codeAny (model PR w) A (.compLoop (compE em gens sc pos) d it (.ref r) env) R' s)
    (h : wpAny (model PR w) A (pyIter it) (fun it' s' => codeAny (model PR w) A (.compLoop (compE em gens sc pos) d it' (.ref r) env) R' s') (fun _ _ => False) s) :
    codeAny (model PR w) A (.compStart (compE em gens sc pos) d it (.ref r) env) R' s := by
  refine codeAny_of_tree ?_
  have body : wpAny (model PR w) (A.under (.compStart (compE em gens sc pos) d it (.ref r) env)) ((compStart (compE em gens sc pos) d it (.ref r) env).onRaise (fun x => do noteFrame x env; standAt theWindowsPlace))
      (fun fin s' => match fin with | .done f => R' (.ok f) s' | .again c' => c'.quiet = true ∧ codeAny (model PR w) A c' R' s') (fun e s' => R' (.error e) s') s := by
    refine wpAny_notedAt ?_
    unfold compStart
    have e1 : clausesOf (compE em gens sc pos) = gens := by cases em <;> rfl
    have hq : ∀ it', (Code.compLoop (compE em gens sc pos) d it' (.ref r) env).quiet = true := fun it' => by cases em <;> rfl
    have hA : A.under (.compStart (compE em gens sc pos) d it (.ref r) env) = A := by cases em <;> rfl
    rw [e1, hg, hA]
    simp only [Option.elim, ha]
    rw [if_neg (by decide)]
    refine wpAny_bind (wpAny_askSetting (wpAny_ite ?_))
    split
    · first
        | exact wpAny_bind (wpAny_pure (wpAny_pure ⟨hq _, h0⟩))
        | exact wpAny_pure ⟨hq _, h0⟩
    · refine wpAny_bind (wpAny_rule (wpAny_bind (wpAny_standAt (wpAny_bind (wpAny_mono h (fun it' s' h' => wpAny_pure ⟨hq _, h'⟩) fun _ _ x => x.elim)))))
  cases em <;> exact body

theorem tests_false {env : Env} {Q : Bool → Shared → Prop} (h : Q false s) : ∀ l : List Expr,
    wpAny (model PR w) A (forIn l false fun c r => if r = true then do let ok ← isTrue c env (eval c env); pure (ForInStep.yield ok) else pure (ForInStep.yield r)) Q E s
  | [] => wpAny_pure h
  | c :: l => by
    rw [List.forIn_cons]
    simp only [Bool.false_eq_true, if_false]
    exact wpAny_bind (wpAny_pure (tests_false h l))
theorem ifs_sound (I : Snd w K n) : ∀ {l : List Expr} {σ : AS} {s : Shared} {k : Bool → AS → Prop} {Q : Bool → Shared → Prop}, Cx w K P fd A n → Rep w fd fx σ s.heap → Same s₀ s → ifsA (sem n) P l σ k → BQ w fd fx s₀ k Q →
    wpAny (model PR w) A (forIn l true fun c r => if r = true then do let ok ← isTrue c fd.env (eval c fd.env); pure (ForInStep.yield ok) else pure (ForInStep.yield r)) Q E s
  | [], σ, s, k, Q, C, R, hs, h, q => wpAny_pure (q _ _ _ hs R h)
  | c :: l, σ, s, k, Q, C, R, hs, h, q => by
    rw [List.forIn_cons]
    simp only [if_true]
    have h : (sem n).T P c σ fun b σ => (b = true → ifsA (sem n) P l σ k) ∧ (b = false → k false σ) := h
    refine wpAny_bind (wpAny_bind (I.T C R hs h fun b σ1 s1 hs1 R1 h1 => wpAny_pure ?_))
    dsimp only
    cases b with
    | true => exact ifs_sound I C R1 hs1 (h1.1 rfl) q
    | false => exact tests_false (q _ _ _ hs1 R1 (h1.2 rfl)) l

theorem emit_sound (I : Snd w K n) {em : Emit} {r : Addr} {k : AS → Prop} {Q : Unit → Shared → Prop} (C : Cx w K P fd A n) (R : Rep w fd fx σ s.heap) (hs : Same s₀ s) (h : emitA (sem n) P r em σ k) (q : UQ w fd fx s₀ k Q) :
    wpAny (model PR w) A (compEmit em r fd.env) Q E s := by
  cases em with
  | list elt =>
    have h : (sem n).E P elt σ fun v σ => EmL σ r v k := h
    refine wpAny_bind (I.E C R hs h fun V v σ1 s1 hv hs1 R1 h1 => wpAny_bind ?_)
    obtain ⟨l, hp', W, hl, hk⟩ := h1
    obtain ⟨o, ho, vs, m, rfl, hp⟩ := R1.wrO W
    refine call_meets F.slot_list_append ⟨_, ho, rfl⟩ F.entry_list_append (F.args_list_append_2 _ _) (PySem.list_append _ vs.toArray m _ (by rw [List.size_toArray, ← hp.length]; exact lim_line hl)) ⟨ho, ?_⟩
    exact wpAny_pure (q _ _ (hs1.trans (same_hp s1 _ _)) (update_wr R1 W ho (vs' := vs ++ [_]) (by simp) (Paired.append hp (.cons hv .nil))) hk)
  | dict kx vx =>
    have h : (sem n).E P kx σ fun kv σ => (sem n).E P vx σ fun v σ => match kv with
      | .str s => SiD σ r s v k
      | _ => False := h
    refine wpAny_bind (I.E C R hs h fun V v σ1 s1 hv hs1 R1 h1 => wpAny_bind (wpAny_holding (I.E C R1 hs1 h1 fun V2 v2 σ2 s2 hv2 hs2 R2 h2 => wpAny_bind (wpAny_standAt (wpAny_holding ?_)))))
    split at h2
    · obtain ⟨t, rfl⟩ := hv
      obtain ⟨l, hp', W, hl, hk⟩ := h2
      obtain ⟨o, ho, kvs, hd, hp⟩ := R2.wrO W
      refine wpAny_dictSet_pairs (strKind_is _ _ _ _) (Heap.dictOf_iff.mpr ⟨o, ho, hd⟩) (fun h' hd' hsb => q _ _ (hs2.trans (same_hp s2 _ _)) (R2.wr W (sameBut_B hsb) fun o1 e1 _ => ?_) hk) (by rw [← hp.length]; exact lim_line hl)
      obtain ⟨o', ho', hd''⟩ := Heap.dictOf_iff.mp hd'
      exact ⟨o', ho', _, hd'', stored_of hv2 hp (isDict_nodup hd)⟩
    · exact h2.elim

theorem turns_sound (I : Snd w K n) {em : Emit} {gens : List Comprehension} {sc : Scope} {pos : Pos} {r : Addr} (C : Cx w K P fd A (n + 1)) :
    ∀ (fuel : Nat) {fx : List (Addr × Obj)} {d : Nat} {it : Value} {items : Items} {keep : AS → Prop} {T : Nat → List (Addr × Obj) → Prop} {trk : List (Addr × Obj)} {ts : List Str} {g : Comprehension} {σ : AS} {s : Shared} {k : AS → Prop} {R' : Result → Shared → Prop},
      gens[d]? = some g → g.is_async = 0 → Stream w K A fd.Gr g.target ts it items keep T → T 0 trk → Same s₀ s → Rep w fd (trk ++ fx) σ s.heap → turnsA (sem n) P r em ts g.ifs (gens.drop (d + 1)) items keep σ k fuel →
      (∀ σ s', Same s₀ s' → Rep w fd fx σ s'.heap → k σ → R' (.ok .next) s') → codeAny (model PR w) A (.compLoop (compE em gens sc pos) d it (.ref r) fd.env) R' s := by
  have C' := C.le (Nat.le_succ n)
  intro fuel
  induction fuel using Nat.strongRecOn with
  | ind fuel ih =>
  intro fx d it items keep T trk ts g σ s k R' hg ha S hT hs R h q
  cases fuel with
  | zero => exact h.elim
  | succ fu =>
  have h : TurnI items keep σ k fun J vs σ' => storeAll P ts vs σ' fun σ₁ => ifsA (sem n) P g.ifs σ₁ fun b σ₂ =>
      (b = true → gensA (sem n) P r em (gens.drop (d + 1)) σ₂ J fu) ∧ (b = false → J σ₂) := h
  obtain ⟨J, j0, jk, step, fin⟩ := h
  have hq : (Code.compLoop (compE em gens sc pos) d it (.ref r) fd.env).quiet = true := by cases em <;> rfl
  have hA : A.under (.compLoop (compE em gens sc pos) d it (.ref r) fd.env) = A := by cases em <;> rfl
  refine codeAny_loop hq (fun m s' => ∃ i trk σ', m = items.length - i ∧ i ≤ items.length ∧ T i trk ∧ J i σ' ∧ Same s₀ s' ∧ Rep w fd (trk ++ fx) σ' s'.heap) ?_ items.length ⟨0, trk, σ, rfl, Nat.zero_le _, hT, j0, hs, R⟩
  rintro m s2 ⟨i, trk2, σ2, rfl, hi, hT2, hJ, hs2, R2⟩
  have body : wpAny (model PR w) A ((compTurn (compE em gens sc pos) d it (.ref r) fd.env).onRaise (fun x => do noteFrame x fd.env; theTreesLotGoes x))
      (fun fin s' => match fin with | .done f => R' (.ok f) s' | .again c' => c' = (Code.compLoop (compE em gens sc pos) d it (.ref r) fd.env) ∧ ∃ m, m < items.length - i ∧ (∃ i trk σ', m = items.length - i ∧ i ≤ items.length ∧ T i trk ∧ J i σ' ∧ Same s₀ s' ∧ Rep w fd (trk ++ fx) σ' s'.heap)) (fun e s' => R' (.error e) s') s2 := by
    refine wpAny_noted ?_
    rw [compTurn_eq hg ha]
    refine wpAny_bind (wpAny_standAt (wpAny_bind ?_))
    cases hv : items[i]? with
    | none =>
      have hsz : i = items.length := Nat.le_antisymm hi (by simpa using hv)
      subst hsz
      exact S.stop C' rfl hT2 R2 (jk _ _ hJ) fun s3 hs3 R3 => wpAny_pure (q _ _ (hs2.trans hs3) R3 (fin _ hJ))
    | some vs =>
      have hlt : i < items.length := (List.getElem?_eq_some_iff.mp hv).1
      refine wpAny_mono (stream_step S C' rfl hT2 R2 (jk _ _ hJ) hv (step i vs σ2 hv hJ _ (fgt_ok _))) (fun x s3 hgo => ?_) fun _ _ x => x
      obtain ⟨v, rfl, hgo⟩ := hgo
      dsimp only
      refine wpAny_bind (wpAny_mono hgo (fun _ s4 hgo => wpAny_bind (wpAny_mono hgo (fun _ s5 hgo => ?_) fun _ _ x => x.elim)) fun _ _ x => x.elim)
      obtain ⟨trk', σ3, hT3, hs3, R3, h3⟩ := hgo
      have hs3 := hs2.trans hs3
      refine wpAny_bind (ifs_sound I C' R3 hs3 h3 fun b σ4 s4 hs4 R4 h4 => ?_)
      have done : ∀ σ5 s5, Same s₀ s5 → Rep w fd (trk' ++ fx) σ5 s5.heap → Fgt (J (i + 1)) σ5 → wpAny (model PR w) A (again (.compLoop (compE em gens sc pos) d it (.ref r) fd.env))
          (fun fin s' => match fin with | .done f => R' (.ok f) s' | .again c' => c' = (Code.compLoop (compE em gens sc pos) d it (.ref r) fd.env) ∧ ∃ m, m < items.length - i ∧ (∃ i trk σ', m = items.length - i ∧ i ≤ items.length ∧ T i trk ∧ J i σ' ∧ Same s₀ s' ∧ Rep w fd (trk ++ fx) σ' s'.heap)) (notedBy (model PR w) A fd.env fun e s' => R' (.error e) s') s5 :=
        fun σ5 s5 hs5 R5 ⟨ns, h5⟩ => wpAny_pure ⟨rfl, items.length - (i + 1), by exact lin [_, _, _, _] (.lt (.v 0) (.v 1)) 1 (.c 1 (.eq (.a (.v 0) (.a (.v 2) (.n 1))) (.v 3)) (.c 1 (.qe (.a (.v 1) (.v 2)) (.v 3)) .e)) (Eq.refl true) (Nat.sub_add_cancel (lin [_, _] (.le (.a (.v 0) (.n 1)) (.v 1)) 1 (.c 1 (.lt (.v 0) (.v 1)) .e) (Eq.refl true) hlt)) (Nat.sub_add_cancel (lin [_, _] (.le (.v 0) (.v 1)) 1 (.c 1 (.lt (.v 0) (.v 1)) .e) (Eq.refl true) hlt)), i + 1, trk', _, rfl, hlt, hT3, h5, hs5, R5.forget (fgtL_lk _)⟩
      cases b with
      | false =>
        rw [if_neg (by decide)]
        exact done _ _ hs4 R4 (h4.2 rfl)
      | true =>
        rw [if_pos rfl]
        have h5 := h4.1 rfl
        cases fu with
        | zero => exact h5.elim
        | succ fu2 =>
        cases hg2 : gens[d + 1]? with
        | none =>
          have hdr : gens.drop (d + 1) = [] := List.drop_eq_nil_iff.mpr (by simpa using hg2)
          rw [hdr] at h5
          exact wpAny_bind (emit_sound (fx := trk' ++ fx) I C' R4 hs4 h5 fun σ6 s6 hs6 R6 h6 => done _ _ hs6 R6 h6)
        | some g2 =>
          have hdr : gens.drop (d + 1) = g2 :: gens.drop (d + 1 + 1) := by
            have hlt2 : d + 1 < gens.length := (List.getElem?_eq_some_iff.mp hg2).1
            rw [List.drop_eq_getElem_cons hlt2]
            congr 1
            rw [List.getElem?_eq_getElem hlt2] at hg2
            exact Option.some.inj hg2
          rw [hdr] at h5
          obtain ⟨t2, it2, ifs2, a2⟩ := g2
          have h5' : On (tgtOk it2 t2 && P.nh && isNm t2 && decide (a2 = 0)) <| iterA (sem n) P it2 σ4 fun items keep σ => match targetNames t2 with
            | some ts => turnsA (sem n) P r em ts ifs2 (gens.drop (d + 1 + 1)) items keep σ (Fgt (J (i + 1))) fu2
            | none => False := h5
          clear h5
          obtain ⟨hc, h5⟩ := h5'.get
          clear h5'
          simp only [Bool.and_eq_true] at hc
          obtain ⟨⟨⟨c1, c2⟩, c3⟩, c4⟩ := hc
          have ha2 : a2 = 0 := of_decide_eq_true c4
          subst ha2
          obtain ⟨ts2, hts2⟩ := tgt_names c1
          rw [hts2] at h5
          have hset : isSetE it2 = false := by
            have := (Bool.and_eq_true_iff.mp c1).1
            simpa using this
          have it_s := iter_sound (E := notedBy (model PR w) A fd.env fun e s' => R' (.error e) s') (fx := trk' ++ fx) (kk := fun items keep σ => turnsA (sem n) P r em ts2 ifs2 (gens.drop (d + 1 + 1)) items keep σ (Fgt (J (i + 1))) fu2)
            (Q := fun it' s6 => codeAny (model PR w) A (.compStart (compE em gens sc pos) (d + 1) it' (.ref r) fd.env) (fun rr s7 => rr = .ok .next ∧ ∃ σ7, Same s₀ s7 ∧ Rep w fd (trk' ++ fx) σ7 s7.heap ∧ Fgt (J (i + 1)) σ7) s6)
            I C R4 hs4 (C.nh c2) h5 c1 hts2 fun it' items' keep' T' trk6 σ6 s6 S6 hT6 hl6 hs6 R6 hk6 h6 => ?_
          · refine wpAny_bind (wpAny_mono it_s (fun x s6 h6 => wpAny_bind (wpAny_standAt ?_)) fun _ _ x => x)
            dsimp only
            rw [if_neg (by decide)]
            refine wpAny_bind (wpAny_of_eq (folded hset x) (wpAny_bind (wpAny_holding ?_)))
            rw [if_neg (by decide)]
            refine wpAny_mono h6 (fun it' s7 h7 => wpAny_bind (wpAny_runOwn (codeAny_mono h7 fun rr s8 h8 => ?_))) fun _ _ x => x
            obtain ⟨rfl, σ7, hs7, R7, h9⟩ := h8
            exact done _ _ hs7 R7 h9
          · have go : codeAny (model PR w) A (.compLoop (compE em gens sc pos) (d + 1) it' (.ref r) fd.env) (fun rr s7 => rr = .ok .next ∧ ∃ σ7, Same s₀ s7 ∧ Rep w fd (trk' ++ fx) σ7 s7.heap ∧ Fgt (J (i + 1)) σ7) s6 :=
              ih fu2 (by exact lin [_] (.lt (.v 0) (.a (.a (.v 0) (.n 1)) (.n 1))) 1 .e (Eq.refl true)) hg2 rfl S6 hT6 hs6 R6 h6 fun σ7 s7 hs7 R7 h7 => ⟨rfl, σ7, hs7, R7, h7⟩
            exact compStart_sound hg2 rfl go (S6.self c3 C' rfl hT6 R6 hk6 go)
  cases em <;> exact body
end
end Mine
end

section
open PySem PySem.W PyProof.Rows PySem.Calls PySem.Spec
open Sem (wp)
set_option maxRecDepth 100000
namespace Mine

noncomputable def clOf (env : Env) : List (Str × NameKind) → List (Str × Addr) → List (Str × Addr)
  | [], acc => acc
  | (n, k) :: r, acc => if k == .free then clOf env r ((n, (env.cells.lookup n).getD 0) :: acc) else clOf env r acc
theorem closure_eq {env : Env} (f : Str × NameKind → List (Str × Addr) → Sem (ForInStep (List (Str × Addr))))
    (hf : ∀ n k cs, f (n, k) cs = if (k == NameKind.free) = true then (do let c ← cellOf env n; pure (ForInStep.yield ((n, c) :: cs))) else pure (ForInStep.yield cs)) :
    ∀ (names : List (Str × NameKind)) (acc : List (Str × Addr)), (∀ p ∈ names, p.2 = .free → (env.cells.lookup p.1).isSome = true) → forIn names acc f = pure (clOf env names acc)
  | [], acc, _ => rfl
  | (n, k) :: r, acc, h => by
    rw [List.forIn_cons, hf]
    unfold clOf
    by_cases hk : (k == NameKind.free) = true
    · rw [if_pos hk, if_pos hk]
      have hs := h (n, k) (.head _) (by simpa using hk)
      obtain ⟨c, hc⟩ := Option.isSome_iff_exists.mp hs
      simp only at hc
      unfold cellOf
      simp only [hc, pure_bind, Option.getD_some]
      exact closure_eq f hf r _ fun p hp => h p (.tail _ hp)
    · rw [if_neg hk, if_neg hk]
      simp only [pure_bind]
      exact closure_eq f hf r _ fun p hp => h p (.tail _ hp)
theorem closureFor_eq {scope : Scope} {env : Env} (h : ∀ p ∈ scope.names, p.2 = .free → (env.cells.lookup p.1).isSome = true) : closureFor scope env = pure (clOf env scope.names []) := by
  unfold closureFor
  dsimp only
  rw [closure_eq (env := env) _ (fun n k cs => ?_) scope.names [] h]
  · rfl
  · by_cases hk : (k == NameKind.free) = true <;> simp only [hk] <;> rfl
theorem clOf_skip {env : Env} {x : Str} : ∀ (names : List (Str × NameKind)) (acc : List (Str × Addr)), x ∉ names.map (·.1) → (clOf env names acc).lookup x = acc.lookup x
  | [], _, _ => rfl
  | (n, k) :: r, acc, h => by
    rw [List.map_cons, List.mem_cons, not_or] at h
    unfold clOf
    split
    · rw [clOf_skip r _ h.2, List.lookup_cons, beq_eq_false_iff_ne.mpr h.1]
    · exact clOf_skip r _ h.2
theorem clOf_get {env : Env} {x : Str} {c : Addr} (hc : env.cells.lookup x = some c) : ∀ (names : List (Str × NameKind)) (acc : List (Str × Addr)), (names.map (·.1)).Nodup → (x, NameKind.free) ∈ names → (clOf env names acc).lookup x = some c
  | [], _, _, h => nomatch h
  | (n, k) :: r, acc, nd, h => by
    rw [List.map_cons, List.nodup_cons] at nd
    unfold clOf
    rcases List.mem_cons.mp h with e | h
    · cases e
      rw [if_pos (by decide), clOf_skip r _ nd.1, List.lookup_cons, hc]
      simp
    · split
      · exact clOf_get hc r _ nd.2 h
      · exact clOf_get hc r _ nd.2 h
theorem lk_of_mem {x : Str} {k : NameKind} : ∀ {names : List (Str × NameKind)}, (names.map (·.1)).Nodup → (x, k) ∈ names → names.lookup x = some k
  | [], _, h => nomatch h
  | (n, k') :: r, nd, h => by
    rw [List.map_cons, List.nodup_cons] at nd
    rw [List.lookup_cons]
    rcases List.mem_cons.mp h with e | h
    · cases e; simp
    · have : x ≠ n := fun e => nd.1 (e ▸ List.mem_map_of_mem (f := (·.1)) h)
      rw [beq_eq_false_iff_ne.mpr this]
      exact lk_of_mem nd.2 h

structure ScOk (P : Prm) (sc : Scope) : Prop where
  kd : sc.kind = .function
  ks : ∀ p ∈ sc.names, p.2 = .local ∨ p.2 = .globalImplicit ∨ (p.2 = .free ∧ (P.sc.names.lookup p.1 = some .cell ∨ (P.comp = true ∧ P.sc.names.lookup p.1 = some .free)))
  nd : (sc.names.map (·.1)).Nodup
  nm : (sc.names.all fun p => p.1 != ("__debug__" : Str) && p.1 != ("__classdict__" : Str)) = true
theorem scOk_of {P : Prm} {sc : Scope} (h : freeOk P sc = true) : ScOk P sc := by
  unfold freeOk at h
  simp only [Bool.and_eq_true] at h
  obtain ⟨⟨⟨h1, h2⟩, h3⟩, h4⟩ := h
  refine ⟨by simpa using h1, fun p hp => ?_, of_decide_eq_true h3, by simpa using h4⟩
  have := List.all_eq_true.mp h2 p hp
  simp only [Bool.or_eq_true, Bool.and_eq_true, beq_iff_eq] at this
  rcases this with (h | h) | h
  · exact .inl h
  · exact .inr (.inl h)
  · exact .inr (.inr h)

section
variable {w : World} {A : Around} {E : Value → Shared → Prop} {s s₀ : Shared} {fd : FD} {fx : List (Addr × Obj)} {σ : AS} {K : Frag} {P : Prm} {n : Nat}

theorem Vars.drops {own : List (Addr × Obj)} {mf : Str → Option Value} {loc : List (Str × AV)} : ∀ {trk : List (Addr × Obj)}, (∀ p ∈ trk, ∀ v, p.2.data ≠ .cell v) → Vars fd (trk ++ fx) own mf loc → Vars fd fx own mf loc
  | [], _, V => V
  | (a, o) :: trk, hc, V => Vars.drops (trk := trk) (fun p hp => hc p (.tail _ hp)) (V.fx_set (r := a) (o := o) (hc _ (.head _)))

theorem relabel_eq (C : Cx w K P fd A n) (sc : Scope) : relabel sc fd.env = compScope P sc := by
  unfold relabel compScope
  simp only [kindOf_eq C, C.fit.sc]
theorem comp_look (C : Cx w K P fd A n) {sc : Scope} (ok : ScOk P sc) {x : Str} (h : sc.names.lookup x = some .free) : (compScope P sc).names.lookup x = some .cell ∨ (compScope P sc).names.lookup x = some .free := by
  have hm := mem_of_lk h
  have nd' : ((compScope P sc).names.map (·.1)).Nodup := by
    have : (compScope P sc).names.map (·.1) = sc.names.map (·.1) := by
      unfold compScope
      rw [List.map_map]
      refine List.map_congr_left fun p _ => ?_
      obtain ⟨n, k⟩ := p
      simp only [Function.comp]
      split <;> rfl
    rw [this]; exact ok.nd
  have hm2 : (if (NameKind.free == NameKind.free && P.sc.kind == ScopeKind.function && P.sc.names.lookup x == some NameKind.cell) = true then (x, NameKind.cell) else (x, NameKind.free)) ∈ (compScope P sc).names := List.mem_map_of_mem (f := fun (n, k) => if k == NameKind.free && P.sc.kind == ScopeKind.function && P.sc.names.lookup n == some NameKind.cell then (n, NameKind.cell) else (n, k)) hm
  split at hm2
  · exact .inl (lk_of_mem nd' hm2)
  · exact .inr (lk_of_mem nd' hm2)
theorem comp_back {sc : Scope} (ok : ScOk P sc) {x : Str} (h : (compScope P sc).names.lookup x = some .cell ∨ (compScope P sc).names.lookup x = some .free) : (x, NameKind.free) ∈ sc.names := by
  have hm : (x, NameKind.cell) ∈ (compScope P sc).names ∨ (x, NameKind.free) ∈ (compScope P sc).names := h.imp mem_of_lk mem_of_lk
  rcases hm with hm | hm
  · obtain ⟨p, hp, e⟩ := List.mem_map.mp hm
    obtain ⟨n, k⟩ := p
    simp only at e
    split at e
    · rename_i hc
      simp only [Bool.and_eq_true, beq_iff_eq] at hc
      cases e
      rw [hc.1.1] at hp; exact hp
    · cases e
      rcases ok.ks _ hp with h | h | h
      · cases h
      · cases h
      · cases h.1
  · obtain ⟨p, hp, e⟩ := List.mem_map.mp hm
    obtain ⟨n, k⟩ := p
    simp only at e
    split at e
    · cases e
    · cases e; exact hp

/-- into the frame of a comprehension -/
theorem comp_enter (C : Cx w K P fd A (n + 1)) {sc : Scope} (ok : ScOk P sc) {trk : List (Addr × Obj)} {hp : List (Addr × AO)} {mf : Str → Option Value} {own news : List (Addr × Obj)} {h h' : Heap} {c : Addr} {oin : Obj}
    {gc : Heap} (GC : fd.Gr gc) (F : Fr gc fd.Lf h mf) (N : News gc fd.Lf h ((trk ++ fx) ++ (own ++ news))) (nd : (((trk ++ fx) ++ (own ++ news)).map (·.1)).Nodup) (H : HRel w news hp) (V : Vars fd fx own mf σ.loc) (hz : sysModules < gc.objs.size)
    (k : Ext h h') (hc : h.get? c = none) (ho : h'.get? c = some oin) (hn : NsOf oin fun _ => none) :
    Rep w ⟨fd.h0, fd.Lf, compEnvC sc (clOf fd.env sc.names []) c fd.env, some mf, fd.ro, fd.fs⟩ (trk ++ (fx ++ own)) ⟨compLoc sc σ, hp⟩ h' := by
  have hf := fresh_ne N hc
  refine ⟨gc, GC, mf, [(c, oin)], news, frExt F k, ?_, ?_, H, ⟨?_, ?_⟩, hz⟩
  · intro p hp
    simp only [List.mem_append, List.mem_singleton] at hp
    rcases hp with (h | h | h) | rfl | h
    · exact newsExt N k p (by simp only [List.mem_append]; exact .inl (.inl h))
    · exact newsExt N k p (by simp only [List.mem_append]; exact .inl (.inr h))
    · exact newsExt N k p (by simp only [List.mem_append]; exact .inr (.inl h))
    · exact ⟨ho, fresh_L F hc, fresh_0 F hc⟩
    · exact newsExt N k p (by simp only [List.mem_append]; exact .inr (.inr h))
  · have perm : (trk ++ (fx ++ own) ++ ([(c, oin)] ++ news)).Perm ((c, oin) :: ((trk ++ fx) ++ (own ++ news))) := by
      have e : trk ++ (fx ++ own) ++ ([(c, oin)] ++ news) = (trk ++ (fx ++ own)) ++ (c, oin) :: news := by simp
      rw [e]
      refine List.perm_middle.trans (List.Perm.of_eq ?_)
      simp
    rw [(perm.map (·.1)).nodup_iff]
    exact List.nodup_cons.mpr ⟨hf, nd⟩
  · exact ⟨rfl, oin, _, rfl, hn⟩
  · intro x U e
    have e2 : σ.loc.lookup x = some U ∧ sc.names.lookup x = some .free := by
      unfold compLoc at e
      clear V
      revert e
      generalize σ.loc = l
      intro e
      induction l with
      | nil => cases e
      | cons p l ih =>
        obtain ⟨y, u⟩ := p
        rw [List.filter_cons] at e
        rw [List.lookup_cons]
        split at e
        · rename_i hb
          rw [List.lookup_cons] at e
          by_cases hx : x = y
          · subst hx
            simp only [beq_self_eq_true] at e ⊢
            exact ⟨e, by simpa using hb⟩
          · rw [beq_eq_false_iff_ne.mpr hx] at e ⊢
            exact ih e
        · rename_i hb
          obtain ⟨a, b⟩ := ih e
          by_cases hx : x = y
          · subst hx
            simp only at hb
            rw [b] at hb
            exact absurd rfl hb
          · rw [beq_eq_false_iff_ne.mpr hx]; exact ⟨a, b⟩
    obtain ⟨v, hv, hr⟩ := V.read x U e2.1
    refine ⟨v, hv, .inr ?_⟩
    have hm := mem_of_lk e2.2
    have ck := comp_look C ok e2.2
    rw [← relabel_eq C] at ck
    refine ⟨ck, ?_⟩
    rcases hr with ⟨hl, _⟩ | ⟨_, c', o, h1, h2, h3⟩
    · rcases ok.ks _ hm with h | h | ⟨_, h⟩
      · cases h
      · cases h
      · rw [kindOf_eq C] at hl
        simp only at h
        rw [hl] at h
        rcases h with h | ⟨_, h⟩ <;> cases h
    · refine ⟨c', o, clOf_get h1 _ _ ok.nd hm, ?_, h3⟩
      rcases h2 with h2 | h2
      · exact .inr (by simp only [List.mem_append]; exact .inr (.inr h2))
      · exact .inr (by simp only [List.mem_append]; exact .inr (.inl h2))
end
end Mine
end

section
open PySem PySem.W PyProof.Rows PySem.Calls PySem.Spec
open Sem (wp)
set_option maxRecDepth 100000
namespace Mine

noncomputable def accOf : Emit → Sem Value
  | .list _ => newList []
  | .dict _ _ => newDict
noncomputable def initOf : Emit → AO
  | .list _ => .list []
  | .dict _ _ => .dict []

section
variable {w : World} {A : Around} {E : Value → Shared → Prop} {s s₀ : Shared} {fd : FD} {fx : List (Addr × Obj)} {σ : AS} {K : Frag} {P : Prm} {n : Nat}

theorem acc_sound {em : Emit} {Q : Value → Shared → Prop} (R : Rep w fd fx σ s.heap) (q : ∀ o, o.isFreed = false → (initOf em).is w o → Q (.ref s.heap.objs.size) { s with heap := s.heap.push o }) : wpAny (model PR w) A (accOf em) Q E s := by
  cases em with
  | list elt => exact wpAny_newList (q _ rfl ⟨[], 0, rfl, .nil⟩) (by decide)
  | dict kx vx =>
    refine (?_ : wpAny _ _ newDict _ _ _)
    unfold newDict
    refine wpAny_newObj_type (q _ rfl ?_)
    obtain ⟨o, ho, hd⟩ := Heap.dictOf_iff.mp (Heap.DictOf.new (knd := PySem.strKind PR w) s.heap)
    rw [Heap.get?_push_size _ rfl] at ho; cases ho
    exact ⟨[], hd, .nil⟩

theorem comp_main (I : Snd w K n) {em : Emit} {gens : List Comprehension} {sc : Scope} {pos p : Pos} {k : KV} {use : Option (Value → Sem Unit)} {Q : Value → Shared → Prop} (C : Cx w K P fd A (n + 1)) (R : Rep w fd fx σ s.heap) (hs : Same s₀ s)
    (h : comprA (sem n) P em (initOf em) gens sc σ k)
    (q : match use with
      | none => KQ w fd fx s₀ k Q
      | some f => ∃ k2, (∀ V v fx σ s (E : Value → Shared → Prop) (Q' : Unit → Shared → Prop), V.is v → Same s₀ s → Rep w fd fx σ s.heap → k V σ → UQ w fd fx s₀ k2 Q' → wpAny (model PR w) A (f v) Q' E s) ∧ UQ w fd fx s₀ k2 fun _ => Q .none) :
    wpAny (model PR w) A (comprehension (compE em gens sc pos) sc fd.env p (accOf em) false (firstIter gens fd.env) use) Q E s := by
  have C' := C.le (Nat.le_succ n)
  unfold comprA at h
  split at h
  · rename_i t itE ifs a rest
    split at h
    · rename_i hb
      simp only [Bool.and_eq_true] at hb
      obtain ⟨⟨⟨⟨b1, b2⟩, b3⟩, b4⟩, b5⟩ := hb
      have ok := scOk_of b1
      have ha : a = 0 := of_decide_eq_true b5
      subst ha
      obtain ⟨ts, hts⟩ := tgt_names b3
      have hset : isSetE itE = false := by
        have := (Bool.and_eq_true_iff.mp b3).1
        simpa using this
      have hcl : clausesOf (compE em (⟨t, itE, ifs, 0⟩ :: rest) sc pos) = ⟨t, itE, ifs, 0⟩ :: rest := by cases em <;> rfl
      have hfree : ∀ p ∈ sc.names, p.2 = .free → (fd.env.cells.lookup p.1).isSome = true := fun p hp hf => by
        rcases ok.ks p hp with h | h | ⟨_, h⟩
        · rw [hf] at h; cases h
        · rw [hf] at h; cases h
        · exact C.fit.cells _ h
      refine wpAny_comprehension_free hcl (folded hset) (closureFor_eq hfree) ok.kd (fun x hx hl => lk_of_mem ok.nd (by obtain ⟨a, b⟩ := x; simp only at hl; rw [hl] at hx; exact hx)) ?_
      refine iter_sound I C R hs (C.nh b2) h b3 hts fun it items keep T trk σ1 s1 S hT hl hs1 R1 hk1 h1 => ?_
      rw [hts] at h1
      refine acc_sound R1 fun o hof hoi => ?_
      have R2 := rep_push (s := s1) R1 hoi hof
      have h2 := h1 s1.heap.objs.size
      generalize hH : s1.heap.push o = H at *
      refine wpAny_newFunctionEnv (s := { s1 with heap := H }) (fun x hx hc => by
        rcases ok.ks x hx with h | h | ⟨h, _⟩ <;> rw [hc] at h <;> cases h) (by intro y hy; cases hy) (fun h₁ hns₁ hsb₁ => ?_) ok.kd
      replace hns₁ : h₁.Ns H.objs.size (fun _ => none) := hns₁
      obtain ⟨oin, hoin, hnof⟩ := ns_of hns₁
      have ext : Ext H h₁ := fun b ob e => hsb₁.extBut b ob (Nat.ne_of_lt (Heap.lt_size e)) (Heap.get?_push_of_some _ e)
      obtain ⟨gc, GC, mf, own, news, F, N, nd, HR, V, hz⟩ := R2
      have R3 := comp_enter C ok GC F N nd HR (V.drops (S.cell _ _ hT)) hz ext (none_of_size (Nat.le_refl _)) hoin hnof
      have eenv : ({ newEnv sc H.objs.size fd.env.globals (clOf fd.env sc.names []) fd.env.qual none .none (some fd.env) builtinsNs with scope := relabel sc fd.env } : Env) = compEnvC sc (clOf fd.env sc.names []) H.objs.size fd.env := rfl
      refine (?_ : codeAny (model PR w) A (.compStart (compE em (⟨t, itE, ifs, 0⟩ :: rest) sc pos) 0 it (.ref s1.heap.objs.size) (compEnvC sc (clOf fd.env sc.names []) H.objs.size fd.env)) (compPost (model PR w) A E use Q (.ref s1.heap.objs.size) H.objs.size) _)
      have C2 : Cx w K ⟨compScope P sc, P.ro, P.nh, true⟩ ⟨fd.h0, fd.Lf, compEnvC sc (clOf fd.env sc.names []) H.objs.size fd.env, some mf, fd.ro, fd.fs⟩ A (n + 1) := by
        refine ⟨⟨C.fit.ro, relabel_eq C sc, ok.kd, C.fit.gl, C.fit.bl, rfl, fun x hx => ?_, ?_⟩, C.X, C.KF, C.KN, C.KM, C.ro, C.top, C.un, C.dp, C.nh, by
          obtain ⟨f1, f2, f3, f4, f5, f6, f7, f8, f9, _⟩ := C.fr
          exact ⟨f1, f2, f3, f4, f5, f6, f7, f8, f9, fun z => by cases z⟩⟩
        · have hm := comp_back ok (hx.imp id And.right)
          obtain ⟨c, hc⟩ := Option.isSome_iff_exists.mp (hfree _ hm rfl)
          refine (?_ : ((clOf fd.env sc.names []).lookup x).isSome = true)
          rw [clOf_get hc _ _ ok.nd hm]; rfl
        · have := ok.nm
          rw [List.all_eq_true] at this ⊢
          intro p hp
          obtain ⟨q, hq, e⟩ := List.mem_map.mp hp
          have hq' := this q hq
          obtain ⟨n1, k1⟩ := q
          simp only at e
          split at e <;> (subst e; exact hq')
      have fin : ∀ σ' s', Same s₀ s' → Rep w ⟨fd.h0, fd.Lf, compEnvC sc (clOf fd.env sc.names []) H.objs.size fd.env, some mf, fd.ro, fd.fs⟩ (fx ++ own) σ' s'.heap → k (.ref s1.heap.objs.size) ⟨σ1.loc, σ'.hp⟩ →
          compPost (model PR w) A E use Q (.ref s1.heap.objs.size) H.objs.size (.ok .next) s' := by
        intro σ' s' hs' R' hk'
        obtain ⟨g0, GT, mf', own', news', F', N', nd', HR', V', hz'⟩ := R'
        obtain ⟨rfl, o2, m2, rfl, hno⟩ := V'.shape
        have N' : News g0 fd.Lf s'.heap ((fx ++ own) ++ ([(H.objs.size, o2)] ++ news')) := N'
        have F' : Fr g0 fd.Lf s'.heap mf' := F'
        have hC := N' (H.objs.size, o2) (by simp)
        have Rt : Rep w fd ((H.objs.size, o2) :: fx) ⟨σ1.loc, σ'.hp⟩ s'.heap := by
          refine ⟨g0, GT, mf', own, news', F', fun p hp => N' p ?_, ?_, HR', ?_, hz'⟩
          · simp only [List.mem_append, List.mem_cons, List.mem_singleton] at hp ⊢
            rcases hp with (h | h) | h | h
            · exact .inr (.inl (.inl h))
            · exact .inl (.inl h)
            · exact .inl (.inr h)
            · exact .inr (.inr h)
          · have perm : ((fx ++ own) ++ ([(H.objs.size, o2)] ++ news')).Perm ((H.objs.size, o2) :: (fx ++ (own ++ news'))) := by
              have e : (fx ++ own) ++ ([(H.objs.size, o2)] ++ news') = (fx ++ own) ++ (H.objs.size, o2) :: news' := by simp
              rw [e]
              refine List.perm_middle.trans (List.Perm.of_eq ?_)
              simp
            exact ((perm.map (·.1)).nodup_iff).mp nd'
          · exact (V.drops (S.cell _ _ hT)).fx_cons
        have cellFree : ∀ v, o2.data ≠ .cell v := fun v z => by obtain ⟨es, ep, hd, _⟩ := hno; rw [hd] at z; cases z
        cases use with
        | none =>
          refine ⟨m2, hno.ns hC.1, fun h' hsb => ?_⟩
          exact q (.ref _) _ _ _ rfl (hs'.trans (same_hp s' _ s'.toks)) (Rt.drop_any (sameBut_B hsb) cellFree) hk'
        | some f =>
          obtain ⟨k2, hf, q⟩ := q
          refine hf (.ref _) _ ((H.objs.size, o2) :: fx) _ _ _ _ rfl hs' Rt hk' fun σ'' s'' hs'' R'' hk'' => ?_
          refine ⟨m2, hno.ns R''.fx_get, fun h' hsb => ?_⟩
          exact q _ _ (hs''.trans (same_hp s'' _ s''.toks)) (R''.drop_any (sameBut_B hsb) cellFree) hk''
      have go : ∀ R₂ : Result → Shared → Prop, (∀ σ' s', Same s₀ s' → Rep w ⟨fd.h0, fd.Lf, compEnvC sc (clOf fd.env sc.names []) H.objs.size fd.env, some mf, fd.ro, fd.fs⟩ (fx ++ own) σ' s'.heap → k (.ref s1.heap.objs.size) ⟨σ1.loc, σ'.hp⟩ → R₂ (.ok .next) s') →
          codeAny (model PR w) A (.compLoop (compE em (⟨t, itE, ifs, 0⟩ :: rest) sc pos) 0 it (.ref s1.heap.objs.size) (compEnvC sc (clOf fd.env sc.names []) H.objs.size fd.env)) R₂ { s1 with heap := h₁, toks := s1.toks + 0 } := fun R₂ hR =>
        turns_sound (fd := ⟨fd.h0, fd.Lf, compEnvC sc (clOf fd.env sc.names []) H.objs.size fd.env, some mf, fd.ro, fd.fs⟩) I C2 10 (d := 0) (g := ⟨t, itE, ifs, 0⟩) (gens := ⟨t, itE, ifs, 0⟩ :: rest) rfl rfl S hT (hs1.trans (same_hp s1 _ _)) R3 h2 hR
      refine compStart_sound (g := ⟨t, itE, ifs, 0⟩) rfl rfl (go _ fin) ?_
      exact S.self (fd := ⟨fd.h0, fd.Lf, compEnvC sc (clOf fd.env sc.names []) H.objs.size fd.env, some mf, fd.ro, fd.fs⟩) b4 (C2.le (Nat.le_succ n)) rfl hT R3 (by obtain ⟨J, j0, jk, _⟩ := h2; exact jk _ _ j0) (go _ fin)
    · exact h.elim
  · exact h.elim

theorem firstAsync_off {m : Sm} {em : Emit} {init : AO} {gens : List Comprehension} {sc : Scope} {k : KV} (h : comprA m P em init gens sc σ k) : firstAsync gens = false := by
  unfold comprA at h
  split at h
  · split at h
    · rename_i hb
      simp only [Bool.and_eq_true] at hb
      have ha := of_decide_eq_true hb.2
      refine (?_ : (_ != (0 : Int)) = false)
      rw [ha]; rfl
    · exact h.elim
  · exact h.elim

theorem csnd (I : Snd w K n) : CSnd w K n where
  L := fun C R hs h q => by
    rw [arm_eval_ListComp]
    dsimp only
    have e : firstAsync _ = false := firstAsync_off h
    rw [e]
    exact comp_main (em := .list _) (use := none) I C R hs h q
  D := fun C R hs h q => by
    rw [arm_eval_DictComp]
    dsimp only
    rw [firstAsync_off h]
    exact comp_main (em := .dict _ _) (use := none) I C R hs h q
  LU := fun {P fd fx A E Q s s₀ σ k k2 elt gens sc pos f} C R hs h hf q => by
    rw [arm_evalThenUse_ListComp]
    dsimp only
    rw [firstAsync_off h]
    exact wpAny_bind (comp_main (em := .list _) (use := some f) (Q := fun _ s => wpAny (model PR w) A (pure ()) Q E s) I C R hs h ⟨k2, hf, fun σ s a b c => wpAny_pure (q σ s a b c)⟩)
  DU := fun {P fd fx A E Q s s₀ σ k k2 kx vx gens sc pos f} C R hs h hf q => by
    rw [arm_evalThenUse_DictComp]
    dsimp only
    rw [firstAsync_off h]
    exact wpAny_bind (comp_main (em := .dict _ _) (use := some f) (Q := fun _ s => wpAny (model PR w) A (pure ()) Q E s) I C R hs h ⟨k2, hf, fun σ s a b c => wpAny_pure (q σ s a b c)⟩)
end
end Mine
end

section
open PySem PySem.W PyProof.Rows PySem.Calls PySem.Spec
open Sem (wp)
set_option maxRecDepth 100000
namespace Mine

/-! ## the heap below an address -/
noncomputable def cutH (h : Heap) (n : Nat) : Heap := ⟨h.objs.extract 0 n, h.life⟩
theorem cutH_size (h : Heap) (n : Nat) : (cutH h n).objs.size ≤ n := by
  refine (?_ : (h.objs.extract 0 n).size ≤ n)
  rw [Array.size_extract]; omega
theorem cutH_objs {h : Heap} {n b : Nat} (hb : b < n) : (cutH h n).objs[b]? = h.objs[b]? := by
  refine (?_ : (h.objs.extract 0 n)[b]? = _)
  rw [Array.getElem?_extract]
  split
  · simp
  · have : h.objs.size ≤ b := by omega
    rw [Array.getElem?_eq_none this]
theorem cutH_get {h : Heap} {n b : Nat} (hb : b < n) : (cutH h n).get? b = h.get? b := by
  unfold Heap.get?
  rw [cutH_objs hb]
theorem cutH_some {h : Heap} {n b : Nat} {o : Obj} (e : (cutH h n).get? b = some o) : h.get? b = some o := by
  have hb : b < n := Nat.lt_of_lt_of_le (Heap.lt_size e) (cutH_size h n)
  rw [cutH_get hb] at e; exact e

theorem gen_ground {A₀ A : Around} {base gc h : Heap} {outer : List Env} {fenv : Env} {Lf : Addr} {mf : Str → Option Value} {news : List (Addr × Obj)} (B : Below A₀ base outer gc) (F : Fr gc Lf h mf) (N : News gc Lf h news)
    (hA : A.frames = some (fenv :: outer)) (hf : fenv.frame = some Lf) (hke : fenv.scope.kind = .function) :
    ∃ g, Fr gc Lf g mf ∧ Below A base (fenv :: outer) g ∧ g.objs.size ≤ Lf + 1 ∧ (∀ b o, g.get? b = some o → h.get? b = some o) ∧ ∀ p ∈ news, g.get? p.1 = none := by
  have nm : ∀ b o, gc.get? b = some o → b ∉ news.map (·.1) := fun b o e q => by
    obtain ⟨p, hp, rfl⟩ := List.mem_map.mp q
    rw [(N p hp).2.2] at e; cases e
  have nL : Lf ∉ news.map (·.1) := fun q => by
    obtain ⟨p, hp, e⟩ := List.mem_map.mp q
    exact (N p hp).2.1 e
  obtain ⟨oL, es, ep, hL, r⟩ := F.ns
  have FG : Fr gc Lf (hideAll (cutH h (Lf + 1)) (news.map (·.1))) mf := by
    refine ⟨⟨oL, es, ep, hideAll_get _ (by rw [cutH_get (Nat.lt_succ_self _)]; exact hL) nL, r⟩, fun b o e => ?_, F.above⟩
    have hb : b < Lf + 1 := Nat.lt_succ_of_lt (Nat.lt_of_lt_of_le (Heap.lt_size e) F.above)
    exact hideAll_get _ (by rw [cutH_get hb]; exact F.keep b o e) (nm b o e)
  have P := pushX B FG hf hke
  exact ⟨_, FG, ⟨hA, P.stays, P.frames⟩, by rw [hideAll_size]; exact cutH_size _ _, fun b o e => cutH_some (of_hideAll _ e), fun p hp => hideAll_none _ (List.mem_map_of_mem hp)⟩

section
variable {w : World} {A : Around} {E : Value → Shared → Prop} {s s₀ : Shared} {fd : FD} {fx : List (Addr × Obj)} {σ : AS} {K : Frag} {P : Prm} {n : Nat}

theorem Cx.enter (C : Cx w K P fd A n) {A₀ : Around} {base : Heap} {outer : List Env} {fenv : Env} (B : ∀ g, fd.Gr g → Below A₀ base outer g) (hfs : fd.fs = outer.filterMap (·.frame)) (hf : fenv.frame = some fd.Lf)
    {gc g : Heap} {mf : Str → Option Value} (GC : fd.Gr gc) (FG : Fr gc fd.Lf g mf) (BG : Below A base (fenv :: outer) g) {P' : Prm} {L' : Addr} {env' : Env} {A' : Around} {n' : Nat}
    (fit : Fits P' ⟨g, L', env', none, fd.ro, fd.Lf :: fd.fs⟩) (he : env'.frame = some L') (hk : env'.scope.kind = .function) (hfr : A'.frames = some (env' :: fenv :: outer)) (un : A'.units + 32 * n' + 200 < cLine) (dp : A'.depth + 4 * n' + 100 < recursionLimit)
    (nh : P'.nh = true → A'.handled = none) : Cx w K P' ⟨g, L', env', none, fd.ro, fd.Lf :: fd.fs⟩ A' n' := by
  obtain ⟨p, loose, mg, mb, T⟩ := C.top
  have back : ∀ g', KtsTurn (fd.Lf :: fd.fs) g g' → ∃ gc', fd.Gr gc' ∧ ∀ b o, gc'.get? b = some o → g'.get? b = some o := fun g' T => by
    rw [hfs] at T
    obtain ⟨gc', T', S, _⟩ := turn_back (B gc GC) FG T
    exact ⟨gc', KtsTurn.trans GC (by rw [hfs]; exact T'), S⟩
  have hfs2 : (fenv :: outer).filterMap (·.frame) = fd.Lf :: fd.fs := by rw [List.filterMap_cons_some hf, hfs]
  refine ⟨fit, fun g' G' => ?_, C.KF, C.KN, C.KM, fun p hp => ?_, ⟨p, loose, mg, mb, fun g' G' => ?_⟩, un, dp, nh, A, base, fenv :: outer, env', fun g' G' => ?_, hfs2.symm, hfr, he, hk, fun _ => rfl⟩
  · obtain ⟨gc', GC', S⟩ := back g' G'
    exact (C.X gc' GC').keeps S
  · obtain ⟨a, o, b, c⟩ := C.ro p hp
    exact ⟨a, o, fun g' G' => by
      obtain ⟨gc', GC', S⟩ := back g' G'
      exact S _ _ (b gc' GC'), c⟩
  · obtain ⟨gc', GC', S⟩ := back g' G'
    exact (T gc' GC').keeps S
  · have G' : KtsTurn (fd.Lf :: fd.fs) g g' := G'
    refine ⟨BG.stack, fun b o e => G'.other b o (BG.stays b o e) (fun hm => ?_), BG.frames.of_keeps fun b o e _ => ?_⟩
    · rw [← hfs2] at hm
      rw [(BG.frames.mem hm).1] at e; cases e
    · obtain ⟨sl, hs⟩ := G'.up e
      exact ⟨_, hs, rfl⟩

/-- what the locals of a sleeping frame are -/
noncomputable def LocOk (env : Env) (m : Str → Option Value) (loc : List (Str × AV)) : Prop := ∀ x V, loc.lookup x = some V → ∃ v, V.is v ∧ env.kindOf x = some .local ∧ m x = some v

theorem Vars.fx_app {own : List (Addr × Obj)} {mf : Str → Option Value} {loc : List (Str × AV)} (V : Vars fd fx own mf loc) : ∀ (trk : List (Addr × Obj)), Vars fd (trk ++ fx) own mf loc
  | [] => V
  | _ :: trk => (V.fx_app trk).fx_cons

theorem leave_rep2 {A₀ : Around} {base gc g g' : Heap} {outer : List Env} {m m' : Str → Option Value} {own own2 news2 trk : List (Addr × Obj)} {h' : Heap} {L' : Addr} {hp : List (Addr × AO)} (B : Below A₀ base outer gc) (hfs : fd.fs = outer.filterMap (·.frame)) (GC : fd.Gr gc)
    (FG : Fr gc fd.Lf g m) (T : KtsTurn (fd.Lf :: fd.fs) g g') (F' : Fr g' L' h' m') (N' : News g' L' h' ((trk ++ (fx ++ own)) ++ (own2 ++ news2))) (nd : (((trk ++ (fx ++ own)) ++ (own2 ++ news2)).map (·.1)).Nodup)
    (H : HRel w news2 hp) (V : Vars fd fx own m σ.loc) (hz : sysModules < gc.objs.size) : ∃ oL, NsOf oL m' ∧ Rep w fd ((L', oL) :: (trk ++ fx)) ⟨σ.loc, hp⟩ h' := by
  rw [hfs] at T
  obtain ⟨gc', T', S, ns, ab⟩ := turn_back B FG T
  obtain ⟨oL, es, ep, hL, r⟩ := ns
  obtain ⟨oG, hoG, hnG⟩ := ns_of F'.ns
  have GC' : fd.Gr gc' := KtsTurn.trans GC (by rw [hfs]; exact T')
  have hmem : ∀ p ∈ (trk ++ fx) ++ (own ++ news2), p ∈ (trk ++ (fx ++ own)) ++ (own2 ++ news2) := fun p hp => by
    simp only [List.mem_append] at hp ⊢
    rcases hp with (h | h) | h | h
    · exact .inl (.inl h)
    · exact .inl (.inr (.inl h))
    · exact .inl (.inr (.inr h))
    · exact .inr (.inr h)
  refine ⟨oG, hnG, gc', GC', m, own, news2, ⟨⟨oL, es, ep, F'.keep _ _ hL, r⟩, fun b o e => F'.keep b o (S b o e), ab⟩, fun p hp => ?_, ?_, H, (V.fx_app trk).fx_cons, by rw [T'.size]; exact hz⟩
  · rcases List.mem_cons.mp hp with rfl | hp
    · refine ⟨hoG, fun z => ?_, kts_none S (kts_self F')⟩
      have := kts_self F'; rw [show L' = fd.Lf from z, hL] at this; cases this
    · have D := N' p (hmem p hp)
      refine ⟨D.1, fun z => ?_, kts_none S D.2.2⟩
      have := D.2.2; rw [z, hL] at this; cases this
  · refine List.nodup_cons.mpr ⟨fun z => ?_, ?_⟩
    · obtain ⟨p, hp, e⟩ := List.mem_map.mp z
      exact (N' p (hmem p hp)).2.1 e
    · refine nd.sublist (List.Sublist.map _ ?_)
      have e1 : (trk ++ fx) ++ (own ++ news2) = (trk ++ (fx ++ own)) ++ news2 := by simp
      refine (?_ : ((trk ++ fx) ++ (own ++ news2)).Sublist _)
      rw [e1]
      exact List.Sublist.append (List.Sublist.refl _) (List.sublist_append_right _ _)

/-- into the frame of a sleeping generator, and back -/
inductive GOut (w : World) (fd : FD) (fx trk : List (Addr × Obj)) (Lg : Addr) (genv : Env) (lc lg : List (Str × AV)) (hp : HPs) (h : Heap) : Prop
  | mk (oL : Obj) (m' : Str → Option Value) (hn : NsOf oL m') (hlo : LocOk genv m' lg) (R : Rep w fd ((Lg, oL) :: (trk ++ fx)) ⟨lc, hp⟩ h)
inductive GTR (w : World) (K : Frag) (P' : Prm) (A' : Around) (n' : Nat) (fd : FD) (fx trk : List (Addr × Obj)) (Lg : Addr) (genv : Env) (lc lg : List (Str × AV)) (hp : HPs) (h : Heap) : Prop
  | mk (g : Heap) (own : List (Addr × Obj)) (CG : Cx w K P' ⟨g, Lg, genv, none, fd.ro, fd.Lf :: fd.fs⟩ A' n') (R : Rep w ⟨g, Lg, genv, none, fd.ro, fd.Lf :: fd.fs⟩ (trk ++ (fx ++ own)) ⟨lg, hp⟩ h)
    (out : ∀ {trk' : List (Addr × Obj)} {lg' : List (Str × AV)} {hp' : List (Addr × AO)} {h' : Heap}, Rep w ⟨g, Lg, genv, none, fd.ro, fd.Lf :: fd.fs⟩ (trk' ++ (fx ++ own)) ⟨lg', hp'⟩ h' → GOut w fd fx trk' Lg genv lc lg' hp' h')
theorem gen_turn {Lg : Addr} {oLg : Obj} {trk : List (Addr × Obj)} {h : Heap} {mg : Str → Option Value} {lg : List (Str × AV)} {genv : Env} {P' : Prm} {A' : Around} {n' : Nat} (C : Cx w K P fd A n) (hcell : genv.cells = []) (hloc : genv.locals = Lg) (hfrm : genv.frame = some Lg) (hkd : genv.scope.kind = .function)
    (fit : ∀ g, Fits P' ⟨g, Lg, genv, none, fd.ro, fd.Lf :: fd.fs⟩) (hfr : A'.frames = A.frames.map (genv :: ·)) (un : A'.units + 32 * n' + 200 < cLine) (dp : A'.depth + 4 * n' + 100 < recursionLimit) (nh : P'.nh = true → A'.handled = none)
    (hlt : fd.Lf < Lg) (htrk : ∀ p ∈ trk, ∀ v, p.2.data ≠ .cell v) (R : Rep w fd ((Lg, oLg) :: (trk ++ fx)) σ h) (hn : NsOf oLg mg) (hlo : LocOk genv mg lg) : GTR w K P' A' n' fd fx trk Lg genv σ.loc lg σ.hp h := by
  obtain ⟨A₀, base, outer, fenv, B, hfs, hA, hf, hke, _⟩ := C.fr
  obtain ⟨gc, GC, mf, own, news, F, N, nd, H, V, hz⟩ := R
  obtain ⟨g, FG, BG, hsz, hsub, hnone⟩ := gen_ground (B gc GC) F N hA hf hke
  have hLo : h.get? Lg = some oLg := (N (Lg, oLg) (.head _)).1
  have nd' := List.nodup_cons.mp nd
  have V' : Vars fd fx own mf σ.loc := Vars.drops (trk := (Lg, oLg) :: trk) (fun p hp => by
    rcases List.mem_cons.mp hp with rfl | hp
    · intro v z; obtain ⟨es, ep, hd, _⟩ := hn; rw [hd] at z; cases z
    · exact htrk p hp) V
  have eapp : (trk ++ (fx ++ own)) ++ ([] ++ news) = (trk ++ fx) ++ (own ++ news) := by simp
  refine ⟨g, own, C.enter B hfs hf GC FG BG (fit g) hfrm hkd (by rw [hfr, hA]; rfl) un dp nh, ⟨g, .refl, mg, [], news, ⟨hn.ns hLo, hsub, Nat.le_trans hsz hlt⟩, fun p hp => ?_, ?_, H, ⟨⟨hloc, fun x c e => ?_, ?_⟩, fun x U e => ?_⟩, ?_⟩, ?_⟩
  · rw [eapp] at hp
    refine ⟨(N p (.tail _ hp)).1, fun z => nd'.1 ?_, hnone p (.tail _ hp)⟩
    show Lg ∈ _
    rw [← show p.1 = Lg from z]; exact List.mem_map_of_mem (f := (·.1)) hp
  · rw [eapp]; exact nd'.2
  · exact absurd e (by show genv.cells.lookup x ≠ _; rw [hcell]; simp)
  · refine (?_ : genv.cells.Pairwise _)
    rw [hcell]; exact .nil
  · obtain ⟨v, h1, h2, h3⟩ := hlo x U e
    exact ⟨v, h1, .inl ⟨h2, .inl ⟨rfl, h3⟩⟩⟩
  · have hL := FG.ns.lt
    exact Nat.lt_of_lt_of_le hz (Nat.le_trans FG.above (Nat.le_of_lt hL))
  · intro trk' lg' hp' h' R'
    obtain ⟨g', G', m', own', news', F', N', nd2, H', V2, hz'⟩ := R'
    obtain ⟨oL, hnL, RL⟩ := leave_rep2 (fx := fx) (σ := σ) (B gc GC) hfs GC FG G' F' N' nd2 H' V' hz
    refine ⟨oL, m', hnL, fun x U e => ?_, RL⟩
    obtain ⟨v, hv, hr⟩ := V2.read x U e
    rcases hr with ⟨hk, ⟨_, hm⟩ | ⟨_, _, hm, _⟩⟩ | ⟨_, c, o, hc, _⟩
    · exact ⟨v, hv, hk, hm⟩
    · cases hm
    · exact absurd hc (by show genv.cells.lookup x ≠ _; rw [hcell]; simp)
end
end Mine
end

section
open PySem PySem.W PyProof.Rows PySem.Calls PySem.Spec
open Sem (wp)
set_option maxRecDepth 100000
namespace Mine

theorem prep_chk {F : Fn} (h : fnAt 85 = some F) : fnNames F = [("self" : Str)] ∧ F.params.vararg = none := by
  have e : (fnAt 85).map (fun F => decide (fnNames F = [("self" : Str)]) && F.params.vararg.isNone) = some true := by decide +kernel
  rw [h] at e
  simp only [Option.map_some, Option.some.injEq, Bool.and_eq_true, decide_eq_true_eq] at e
  exact ⟨e.1, Option.isNone_iff_eq_none.mp e.2⟩
theorem execs_append (env : Env) (ys : List Stmt) : ∀ xs : List Stmt, execs (xs ++ ys) env = (execs xs env >>= fun f => match f with | .next => execs ys env | f => pure f)
  | [] => rfl
  | x :: xs => by
    rw [List.cons_append, execs_cons, execs_cons, bind_assoc]
    refine congrArg _ (funext fun f => ?_)
    cases f with
    | next => exact execs_append env ys xs
    | _ => rfl

section
variable {w : World} {A : Around} {E : Value → Shared → Prop} {s s₀ : Shared} {fd : FD} {fx : List (Addr × Obj)} {σ : AS} {K : Frag} {P : Prm} {n : Nat}

/-- the last statement of `prepare`, the cycle found -/
theorem raise_sound {c m : Str} {k1 k3 k4 k5 k6 k7 : Pos} {k2 : Nat} {Q : Flow → Shared → Prop} (C : Cx w K P fd A n) (R : Rep w fd fx σ s.heap) (hs : Same s₀ s) (hh : A.handled = none) (hc : (lookNm P σ c).isSome = true) (he : lookNm P σ "CycleError" = some (.ref 48))
    (hE : ∀ e a0 s', Same s₀ s' → Rep w fd ((e, { cls := .ref 48, data := .fields #[a0, .none, .none, .none, .bool false, .none] }) :: fx) σ s'.heap → E (.ref e) s') :
    wpAny (model PR w) A (exec (.Raise (some (.Call (.Name "CycleError" k1) [.JoinedStr [.Constant (.str m) k2 k3] k4, .Name c k5] [] k6)) none k7) fd.env) Q E s := by
  obtain ⟨nm, q, N, bs, hdct, sn, sub, ab, col, dd, k0, k1', k2', k3', k5', h48, oN, es, ne, hN, hdN, hkN, hiN⟩ := C.KN.cyc
  obtain ⟨V, hV⟩ := Option.isSome_iff_exists.mp hc
  refine wpAny_Raise_call_sub (nm := nm) (q := q) (C := 48) (N := N) (bs := bs) (hdct := hdct) (sn := sn) (sub := sub) (ab := ab) (col := col) (dd := dd) (k0 := k0) (k1 := k1') (k2 := k2') (k3 := k3') (k5 := k5') (mN := nsFind es) F.excBase_ValueError hh rfl hiN (name_sound C R he fun v hv => ?_)
  cases hv
  refine ⟨rfl, ?_⟩
  refine wpAny_mono (evalArgs_plain (Q := fun vs s' => vs.length ≤ sizeLine ∧ Same s₀ s' ∧ Rep w fd fx σ s'.heap) (fun x z => by cases z) (Calls.spliced_cons (wpAny_JoinedStr_one (pos := k4) ?_))) (fun a s2 h2 => ?_) (fun _ _ x => x)
  · rw [arm_eval_Constant]
    refine wpAny_mkText (Calls.spliced_cons (name_sound (s := { s with toks := s.toks + 1 }) C R hV fun v hv => Calls.spliced_nil ⟨(by decide : 2 ≤ sizeLine), hs.trans (same_val s _), R⟩))
  · obtain ⟨h1, h3, h4, h5⟩ := h2
    have X := repX C h5
    refine ⟨h1, h3, X _ _ h48, ⟨oN, es, ne, X _ _ hN, hdN, hkN, fun _ => rfl⟩, fun h' e hx => ?_⟩
    obtain ⟨t, ht, _⟩ := hx.there
    exact hE e (.ref t) { s2 with heap := h' } (h4.trans (same_hp s2 _ _)) (h5.fx_add hx.keeps hx.new ht)

/-- `prepare`: it comes back, or it raises -/
theorem prep_sound (I : Snd w K n) {a : Addr} {Fp : Fn} {pre : List Stmt} {te : Expr} {c : Str} {l : List Env} {kf kt : List (Addr × AO) → Prop} {R' : Result → Shared → Prop} (C : Cx w K P fd A n) (hun : A.units + 3 + 32 * n + 200 < cLine) (hdp : A.depth + 1 + 4 * n + 100 < recursionLimit)
    (hnh : P.nh = true) (hl : A.frames = some l)
    (R : Rep w fd fx σ s.heap) (hs : Same s₀ s) (hF : fnAt 85 = some Fp) (hp : PPart Fp pre te c)
    (h : (sem n).B ⟨Fp.scope, P.ro, P.nh, false⟩ pre ⟨[("self", .ref a)], σ.hp⟩ fun fl σp => match fl with
        | .next => (sem n).T ⟨Fp.scope, P.ro, P.nh, false⟩ te σp fun b σp =>
            (b = true → (lookNm ⟨Fp.scope, P.ro, P.nh, false⟩ σp c).isSome = true ∧ lookNm ⟨Fp.scope, P.ro, P.nh, false⟩ σp "CycleError" = some (.ref 48) ∧ kt σp.hp) ∧ (b = false → kf σp.hp)
        | _ => False)
    (qn : ∀ hp s, Same s₀ s → Rep w fd fx ⟨σ.loc, hp⟩ s.heap → kf hp → R' (.ok (.ret .none)) s)
    (qe : ∀ e oe a0 Lp oLp hp h1 s', Rep w fd ((Lp, oLp) :: (e, oe) :: fx) ⟨σ.loc, hp⟩ h1 → (∀ v, oe.data ≠ .cell v) → (∀ v, oLp.data ≠ .cell v) → Heap.FlyingW (hideAll h1 (e :: Lp :: fd.Lf :: fd.fs)) l e (.ref 48) a0 s'.heap → h1.UpToSlots s'.heap → Same s₀ s' → kt hp → R' (.error (.ref e)) s') :
    codeAny (model PR w) A (.call (.ref 85) ⟨[.ref a], []⟩) R' s := by
  obtain ⟨F, hF', chk, fo, dV, kV, doc, pm, an, cdv, ct, ho, hd, hcd, hdv⟩ := C.KN.fn (85, some "TopologicalSorter", "prepare") (by decide)
  have hF' : fnAt 85 = some F := hF'
  rw [hF] at hF'; cases hF'
  have ok := fnOk_of chk
  obtain ⟨hnames, hva⟩ := prep_chk hF
  obtain ⟨m, k1, k2, k3, k4, k5, k6, k7, k8, hbody⟩ := hp
  have X := repX C R
  obtain ⟨A₀, base, outer, fenv, B, hfs, hA, hf, hke, _⟩ := C.fr
  rw [hA] at hl; cases hl
  obtain ⟨p, loose, mg, mb, T⟩ := C.top
  obtain ⟨gc, GC, mf, own, news, FR, N, nd, H, V, hz⟩ := R
  have hseq : ∃ items, ∀ (M : Model) (A : Around) (E : Value → Shared → Prop) (Q : Option (Array Value) → Shared → Prop), Q items s → wpAny M A (seqItems? dV) Q E s := by
    rcases hdv with rfl | ⟨T, o, xs, m, rfl, hT, hdat⟩
    · exact ⟨none, fun M A E Q hq => wpAny_bind (wpAny_pure (wpAny_pure hq))⟩
    · refine ⟨some xs, fun M A E Q hq => ?_⟩
      unfold seqItems?
      refine wpAny_bind (wpAny_load (X _ _ hT) ?_)
      rw [hdat]; exact wpAny_pure hq
  obtain ⟨items, hseq⟩ := hseq
  have nn : fnBind Fp = fnNames Fp := by unfold fnBind; rw [hva]; simp
  have hkd : ∀ x ∈ (fnNames Fp).zip [Value.ref a], x.1 ∈ fnBind Fp := fun x hx => by rw [nn]; exact (List.of_mem_zip hx).1
  have kinds : ∀ n, ∀ x ∈ (fnNames Fp).zip [Value.ref a], Fp.scope.names.lookup x.1 = some .local ∨ (Fp.scope.names.lookup x.1 = some .cell ∧ ((cellsFrom n Fp.scope.names []).lookup x.1).isSome = true) := fun n x hx =>
    (ok.ks _ (hkd x hx)).imp id fun h => ⟨h, cellsFrom_some _ _ _ (.inl h)⟩
  have hlen : (fnNames Fp).length = 1 := by rw [hnames]; rfl
  refine callV (B gc GC) FR N (T gc GC).nolimit hA hf hke (X _ _ ho) hd (codeRec_of X hcd) (by have := C.dp; exact lin [_, _, _] (.lt (.v 0) (.v 1)) 1 (.c 1 (.lt (.a (.a (.a (.v 0) (.n 1)) (.m 4 (.v 2))) (.n 100)) (.v 1)) .e) (Eq.refl true) hdp) (binds := (fnNames Fp).zip [Value.ref a]) (s₁ := s) (fun M A E Q hq => ?_) kinds (cellsFrom_nd _ _ _ (by simpa using ok.nn)) (fun g L' h₁ tk cells FG F2 N2 Y BG st hlt => ?_) ok.co ok.gen ok.kd
  · have e0 : [Value.ref a] = [Value.ref a] ++ [] := rfl
    rw [e0]
    refine bind_gen (ns := fnNames Fp) ok.po rfl ok.ko ok.kw (nn ▸ ok.nd) (fun Q hq => hseq M A E Q hq) (by rw [hlen]; rfl) (fun _ => rfl) (Nat.zero_le _) ?_
    refine (?_ : match Fp.params.vararg with | none => _ | some a => _)
    rw [hva]; exact hq
  have hnd : (((fnNames Fp).zip [Value.ref a]).map (·.1)).Nodup := by rw [List.map_fst_zip (by rw [hlen]; exact Nat.le_refl _)]; exact nn ▸ ok.nd
  have R2 := callee_rep (qual := Fp.qual) (F := Fp) (f := 85) (cdv := cdv) (h := h₁) (loc := [("self", .ref a)]) hz FG F2 N2 Y nd hlt H (by rw [hnames]; exact .cons ⟨rfl, ref_is _⟩ .nil) hnd (kinds _)
  have hfr : (A.deeper (envOfC Fp.qual Fp.scope L' 85 cdv)).frames = some (envOfC Fp.qual Fp.scope L' 85 cdv :: fenv :: outer) := by
    refine (?_ : A.frames.map _ = _)
    rw [hA]; rfl
  have C2 : Cx w K ⟨Fp.scope, P.ro, P.nh, false⟩ ⟨g, L', envOfC Fp.qual Fp.scope L' 85 cdv, none, fd.ro, fd.Lf :: fd.fs⟩ (A.deeper (envOfC Fp.qual Fp.scope L' 85 cdv)) n :=
    C.enter B hfs hf GC FG BG ⟨C.fit.ro, rfl, ok.kd, rfl, rfl, rfl, fun x hx => cellsFrom_some _ _ _ (hx.elim .inl fun z => by cases z.1), ok.nm⟩ rfl ok.kd hfr hun hdp C.nh
  have hfs2 : (fenv :: outer).filterMap (·.frame) = fd.Lf :: fd.fs := by rw [List.filterMap_cons_some hf, hfs]
  rw [hbody, execs_append]
  refine wpAny_bind (I.B (fd := ⟨g, L', envOfC Fp.qual Fp.scope L' 85 cdv, none, fd.ro, fd.Lf :: fd.fs⟩) (s := { s with heap := h₁, toks := tk }) C2 R2 (hs.trans (same_hp s _ _)) h fun fl f' σ2 s2 hfl hs2 R3 h2 => ?_)
  cases fl with
  | brk => exact h2.elim
  | cont => exact h2.elim
  | ret U => exact h2.elim
  | next =>
  cases hfl
  refine wpAny_execs_cons (wpAny_If (I.T (fd := ⟨g, L', envOfC Fp.qual Fp.scope L' 85 cdv, none, fd.ro, fd.Lf :: fd.fs⟩) C2 R3 hs2 h2 fun b σ3 s3 hs3 R4 h3 => ?_))
  cases b with
  | false =>
    rw [if_neg (by decide)]
    refine wpAny_execs_nil (wpAny_execs_nil ?_)
    obtain ⟨g3, G3, m3, own3, news3, F3, N3, nd3, H3, V3, hz3⟩ := R4
    exact qn _ _ hs3 (leave_rep (B gc GC) hfs GC FG G3 F3 N3 nd3 H3 V hz) (h3.2 rfl)
  | true =>
    rw [if_pos rfl]
    obtain ⟨hc1, hc2, hk⟩ := h3.1 rfl
    refine wpAny_execs_cons (raise_sound (fd := ⟨g, L', envOfC Fp.qual Fp.scope L' 85 cdv, none, fd.ro, fd.Lf :: fd.fs⟩) C2 R4 hs3 (C.nh hnh) hc1 hc2 fun e a0 s4 hs4 R5 => ?_)
    obtain ⟨g3, G3, m3, own3, news3, F3, N3, nd3, H3, V3, hz3⟩ := id R5
    obtain ⟨oL, hnL, RL⟩ := leave_rep2 (fx := fx) (trk := [(e, _)]) (σ := σ) (B gc GC) hfs GC FG G3 F3 N3 nd3 H3 V hz
    obtain ⟨A₀', base', outer', fenv', B', hfs', hA', hf', hke', _⟩ := C2.fr
    rw [hfr] at hA'; cases hA'
    have B₁ := pushX (B' g3 G3) F3 hf' hke'
    have ff : s4.heap.FunFrames (hideAll s4.heap (e :: L' :: fd.Lf :: fd.fs)) (envOfC Fp.qual Fp.scope L' 85 cdv :: fenv :: outer) := funFrames_hide B₁.frames fun env hm b hb => by
      rcases List.mem_cons.mp hm with rfl | hm
      · cases hb; exact .tail _ (.head _)
      · rw [← hfs2]; exact .tail _ (.tail _ (List.mem_filterMap.mpr ⟨env, hm, hb⟩))
    refine wpAny_leaving_firstW (a0 := a0) hfr ff rfl R5.fx_get (fun b o z => of_hideAll _ z) (hideAll_none _ (.head _)) rfl rfl rfl fun h'' hL => ?_
    obtain ⟨x1, ⟨_, _, x2⟩, x3, x4⟩ := hL
    exact qe e _ a0 L' oL _ s4.heap { s4 with heap := h'' } RL (fun v z => by cases z) (fun v z => by obtain ⟨es, ep, hd, _⟩ := hnL; rw [hd] at z; cases z) ⟨x1, hideAll_none _ (.head _), x2, x3⟩ x4 (hs4.trans (same_hp s4 _ _)) hk
end
end Mine
end

section
open PySem PySem.W PyProof.Rows PySem.Calls PySem.Spec
open Sem (wp)
set_option maxRecDepth 100000
namespace Mine

noncomputable abbrev tiObj (t : Addr) (i : Nat) : Obj := { cls := .type "tuple_iterator", data := .fields #[.ref t, .int i 0] }
noncomputable abbrev yfC (it : Addr) : Code := .builtin "proto.yield_from" ⟨[.ref it, .bool false, .none], []⟩
theorem entry_yf : entryFor table "proto.yield_from" = some Builtin.«proto.yield_from» := entryFor_of_tree (by kernel_rfl)
theorem close_ti : typeLookup (.type "tuple_iterator") "close" = pure none := by rw [typeLookup_type, builtinLookup_eq_fast]; kernel_rfl
section
variable {w : World} {A : Around} {R : GenEnd} {Y : Protocol} {n : Nat} {s₀ : Shared} {fs : List Frame} {s : Shared} {it t : Addr} {i m : Nat} {vs : List Value}

theorem den_builtin {id : String} {args : Args} {b : Builtin} (hb : entryFor table id = some b) : (model PR w).den (.builtin id args) = b args := by
  refine (?_ : (match entryFor table id with | some b => b args | none => unsupported ((withoutEnding? id "#data").getD id)) = _)
  rw [hb]
theorem yf_den (it : Addr) : (model PR w).den (yfC it) = Builtin.«proto.yield_from» ⟨[.ref it, .bool false, .none], []⟩ := den_builtin entry_yf

theorem ti_typeIs {it t : Addr} {i : Nat} (hit : s.heap.get? it = some (tiObj t i)) : s.TypeIs (.ref it) "tuple_iterator" := ⟨_, hit, rfl⟩
theorem ti_item {E : Value → Shared → Prop} {x : Value} {Q : Option Value → Shared → Prop} (hit : s.heap.get? it = some (tiObj t i)) (ht : s.heap.get? t = some (TObj vs m)) (hx : vs[i]? = some x)
    (hQ : ∀ h', h'.get? it = some (tiObj t (i + 1)) → Heap.SameBut it s.heap h' → Q (some x) { s with heap := h' }) : wpAny (model PR w) A (callSpecial? (.ref it) (Str.ofString "__next__")) Q E s := by
  refine wpAny_callSpecial?_slot (name := Str.ofString "__next__") (ti_typeIs hit) F.slot_tuple_iterator_next (wpAny_call_entry F.slot_tuple_iterator_next (ti_typeIs hit) F.entry_tuple_iterator_next ?_ (F.args_tuple_iterator_next_1 _))
  refine (?_ : wpAny _ _ (field (.ref it) 0 >>= _) _ _ s)
  refine wpAny_bind (wpAny_field hit rfl (x := .ref t) rfl ?_)
  refine (?_ : wpAny _ _ (if (Value.ref t == Value.none) = true then _ else _) _ _ s)
  rw [if_neg (show ¬ ((Value.ref t == Value.none) = true) from Bool.false_ne_true)]
  refine (?_ : wpAny _ _ (field (.ref it) 1 >>= _) _ _ s)
  refine wpAny_bind (wpAny_field hit rfl (x := .int i 0) rfl ?_)
  refine (?_ : wpAny _ _ (seqItems? (.ref t) >>= _) _ _ s)
  refine wpAny_bind (wpAny_seqItems ht rfl ?_)
  have hx' : vs.toArray[i]? = some x := by simpa using hx
  simp only [Int.toNat_natCast, hx']
  refine wpAny_bind (wpAny_setField_rec hit (by simp) fun h' he' hs' => wpAny_pure ⟨x, rfl, hQ h' ?_ hs'⟩)
  refine he'.trans ?_
  simp [rawInt]

theorem yf_item {x : Value} (hit : s.heap.get? it = some (tiObj t i)) (ht : s.heap.get? t = some (TObj vs m)) (hx : vs[i]? = some x) (hsp : splitAtGen fs = none) (hgd : fs.any Frame.guarded = false)
    (h : ∀ h', h'.get? it = some (tiObj t (i + 1)) → Heap.SameBut it s.heap h' → ∀ kap : Resume → Shared → Prop,
      (∀ s'' o, s''.heap.get? it = some o → o.cls = .type "tuple_iterator" → Seg (model PR w) A R Y n s'' (yfC it) ((model PR w).den (yfC it)) fs s'' → kap (.send .none) s'') → Y n s₀ x { s with heap := h' } kap) :
    Seg (model PR w) A R Y (n + 1) s₀ (yfC it) ((model PR w).den (yfC it)) fs s := by
  rw [yf_den]
  unfold Builtin.«proto.yield_from»
  dsimp only
  refine seg_bind (wpAny_pure ?_)
  refine seg_bind (wpAny_attempt (wpAny_holding ?_))
  rw [if_neg (by decide), if_pos (by decide)]
  refine wpAny_bind (wpAny_rule (wpAny_bind (ti_item hit ht hx fun h' h1 h2 => wpAny_pure ?_)))
  dsimp only
  refine seg_bind (wpAny_typeOf (s := { s with heap := h' }) (v := .ref it) (T := "tuple_iterator") ⟨_, h1, rfl⟩ ?_)
  dsimp only
  refine seg_bind (wpAny_of_eq close_ti ?_)
  refine seg_bind (wpAny_pure ?_)
  refine seg_bind ?_
  unfold Builtin.Generator.sleptOver
  refine wpAny_bind (wpAny_load h1 ?_)
  rw [if_pos (show (Value.type "tuple_iterator" != Value.type "generator") = true by decide)]
  refine wpAny_pure ?_
  refine seg_yield hsp rfl hgd (h h' h1 h2 _ fun s'' o ho hc hseg => ?_)
  refine seg_bind (m := Builtin.Generator.sleptOver (.ref it) false) ?_
  unfold Builtin.Generator.sleptOver
  refine wpAny_bind (wpAny_load ho ?_)
  rw [hc, if_pos (show (Value.type "tuple_iterator" != Value.type "generator") = true by decide)]
  refine wpAny_pure ?_
  dsimp only
  refine seg_bind (wpAny_pure ?_)
  exact seg_again (Code.quiet_builtin _ (by decide +kernel)) hseg

theorem typeOf_stopT : typeOf (.type "StopIteration") = pure (.type "type") := by
  first | rfl | kernel_rfl
theorem stop_isStop : isSubtype (.type "StopIteration") (.type "StopIteration") = pure true := by rw [isSubtype_type]; kernel_rfl

theorem ti_end {E : Value → Shared → Prop} {Q : Option Value → Shared → Prop} (hh : A.handled = none) (hit : s.heap.get? it = some (tiObj t i)) (ht : s.heap.get? t = some (TObj vs m)) (hx : vs[i]? = none)
    (hQ : ∀ h' e oe fs, Heap.ExtBut it s.heap h' → h'.get? e = some oe → oe.cls = .type "StopIteration" → oe.data = .fields fs → fs[5]? = some .none → E (.ref e) { s with heap := h' }) : wpAny (model PR w) A (callSpecial? (.ref it) (Str.ofString "__next__")) Q E s := by
  refine wpAny_callSpecial?_slot (name := Str.ofString "__next__") (ti_typeIs hit) F.slot_tuple_iterator_next (wpAny_call_entry F.slot_tuple_iterator_next (ti_typeIs hit) F.entry_tuple_iterator_next ?_ (F.args_tuple_iterator_next_1 _))
  refine (?_ : wpAny _ _ (field (.ref it) 0 >>= _) _ _ s)
  refine wpAny_bind (wpAny_field hit rfl (x := .ref t) rfl ?_)
  refine (?_ : wpAny _ _ (if (Value.ref t == Value.none) = true then _ else _) _ _ s)
  rw [if_neg (show ¬ ((Value.ref t == Value.none) = true) from Bool.false_ne_true)]
  refine (?_ : wpAny _ _ (field (.ref it) 1 >>= _) _ _ s)
  refine wpAny_bind (wpAny_field hit rfl (x := .int i 0) rfl ?_)
  refine (?_ : wpAny _ _ (seqItems? (.ref t) >>= _) _ _ s)
  refine wpAny_bind (wpAny_seqItems ht rfl ?_)
  have hx' : vs.toArray[i]? = none := by simpa using hx
  simp only [Int.toNat_natCast, hx']
  refine wpAny_bind (wpAny_rule (wpAny_bind (wpAny_setField hit rfl (by simp) ?_)))
  refine (?_ : wpAny _ _ (newExc (.type "StopIteration") [] >>= _) _ _ _)
  refine wpAny_bind ?_
  simp only [newExc, newTuple]
  refine wpAny_bind (wpAny_newObj_type ?_ (by size_fits))
  refine wpAny_bind (m := firstArgMember _ _) (wpAny_of_eq (a := Value.none) (by first | rfl | (simp only [firstArgMember]; rfl)) ?_)
  refine wpAny_newObj_type ?_ (by size_fits)
  simp only [raiseNew]
  refine wpAny_bind (wpAny_handled ?_)
  first | rw [show A.in1.handled = none from hh] | rw [hh]
  exact wpAny_bind (wpAny_pure (wpAny_throw (hQ _ _ _ _ (((Heap.SameBut.update ..).extBut.push _).push _) (Heap.get?_push_size _ rfl) rfl rfl rfl)))

theorem yf_end (hh : (A.over (yfC it) fs).handled = none) (hit : s.heap.get? it = some (tiObj t i)) (ht : s.heap.get? t = some (TObj vs m)) (hx : vs[i]? = none)
    (h : ∀ h', Heap.ExtBut it s.heap h' → Seg (model PR w) A R Y n s₀ (yfC it) (leafOf (.ok (.ret .none))) fs { s with heap := h' }) :
    Seg (model PR w) A R Y n s₀ (yfC it) ((model PR w).den (yfC it)) fs s := by
  rw [yf_den]
  unfold Builtin.«proto.yield_from»
  dsimp only
  refine seg_bind (wpAny_pure ?_)
  refine seg_bind (wpAny_attempt (wpAny_holding ?_))
  rw [if_neg (by decide), if_pos (by decide)]
  refine wpAny_bind (wpAny_rule (wpAny_bind (ti_end hh hit ht hx fun h' e oe fs' h1 h2 h3 h4 h5 => ?_)))
  dsimp only
  unfold Builtin.Generator.endsTheTurnAsAValue Builtin.Generator.isStopAndMetaclass
  refine seg_bind (wpAny_bind (wpAny_bind (wpAny_typeOf (s := { s with heap := h' }) (v := .ref e) (T := "StopIteration") ⟨_, h2, h3⟩ ?_)))
  dsimp only
  refine wpAny_bind (wpAny_of_eq stop_isStop (wpAny_bind (wpAny_of_eq typeOf_stopT (wpAny_pure ?_))))
  dsimp only
  rw [if_neg (by decide)]
  refine wpAny_bind (wpAny_pure (wpAny_pure ?_))
  rw [if_pos rfl, if_neg (by decide)]
  refine seg_bind (wpAny_rule ?_)
  refine seg_bind (wpAny_field (s := { s with heap := h' }) h2 h4 h5 ?_)
  exact h h' h1
end
end Mine
end

section
open PySem PySem.W PyProof.Rows PySem.Calls PySem.Spec
open Sem (wp)
set_option maxRecDepth 100000
namespace Mine

/-! ## the other generators -/
noncomputable def GX (s₀ s : Shared) (g : Nat) : Prop := s₀.gens.size ≤ g ∧ g < s.gens.size ∧ (∀ (i : Nat) (x : GenState), s₀.gens[i]? = some x → s.gens[i]? = some x) ∧ (∀ (i : Nat) (x : GenState), s.gens[i]? = some x → i = g ∨ s₀.gens[i]? = some x ∨ x.bare = true) ∧ s.drawn = s₀.drawn ∧ s.os = s₀.os
theorem GX.step {s₀ s s' : Shared} {g : Nat} (x : GX s₀ s g) (h : Same s s') : GX s₀ s' g := by
  obtain ⟨x1, x2, x3, x4, x5, x6⟩ := x
  obtain ⟨⟨h1, h2⟩, h3, h4⟩ := h
  refine ⟨x1, ?_, fun i y e => h1 i y (x3 i y e), fun i y e => ?_, h3.trans x5, h4.trans x6⟩
  · have := h1 g _ (Array.getElem?_eq_getElem x2)
    exact (Array.getElem?_eq_some_iff.mp this).1
  · rcases h2 i y e with q | q
    · exact x4 i y q
    · exact .inr (.inr q)
theorem GX.set {s₀ s : Shared} {g : Nat} (x : GX s₀ s g) (y : GenState) : GX s₀ (s.setGen g y) g := by
  obtain ⟨x1, x2, x3, x4, x5, x6⟩ := x
  refine ⟨x1, ?_, fun i z e => ?_, fun i z e => ?_, x5, x6⟩
  · refine (?_ : g < (s.gens.setIfInBounds g y).size)
    simpa using x2
  · have hi : i < s₀.gens.size := (Array.getElem?_eq_some_iff.mp e).1
    refine (?_ : (s.gens.setIfInBounds g y)[i]? = some z)
    rw [Array.getElem?_setIfInBounds_ne (by omega)]
    exact x3 i z e
  · by_cases hg : i = g
    · exact .inl hg
    · have e : (s.gens.setIfInBounds g y)[i]? = some z := e
      rw [Array.getElem?_setIfInBounds_ne (Ne.symm hg)] at e
      exact x4 i z e
theorem GX.done {s₀ s : Shared} {g : Nat} (x : GX s₀ s g) {y : GenState} (hy : s.gens[g]? = some y) (hb : y.bare = true) : Same s₀ s := by
  obtain ⟨x1, x2, x3, x4, x5, x6⟩ := x
  refine ⟨⟨x3, fun i z e => ?_⟩, x5, x6⟩
  rcases x4 i z e with rfl | q
  · rw [hy] at e; cases e; exact .inr hb
  · exact q
theorem GX.get {s₀ s : Shared} {g : Nat} (x : GX s₀ s g) (y : GenState) : (s.setGen g y).gens[g]? = some y := by
  refine (?_ : (s.gens.setIfInBounds g y)[g]? = some y)
  rw [Array.getElem?_setIfInBounds_self, if_pos x.2.1]

section
variable {w : World} {A : Around} {E : Value → Shared → Prop} {s s₀ : Shared} {fd : FD} {fx : List (Addr × Obj)} {σ : AS} {K : Frag} {P : Prm} {n : Nat}

theorem Rep.perm {fx' : List (Addr × Obj)} {h : Heap} (R : Rep w fd fx σ h) (p : fx.Perm fx') : Rep w fd fx' σ h := by
  obtain ⟨g, GT, mf, own, news, F, N, nd, H, V, hz⟩ := R
  refine ⟨g, GT, mf, own, news, F, fun q hq => N q ?_, ?_, H, ⟨V.shape, fun x U e => ?_⟩, hz⟩
  · rcases List.mem_append.mp hq with h | h
    · exact List.mem_append_left _ (p.mem_iff.mpr h)
    · exact List.mem_append_right _ h
  · exact (((p.append_right _).map (·.1)).nodup_iff).mp nd
  · obtain ⟨v, h1, h2⟩ := V.read x U e
    exact ⟨v, h1, h2.imp id fun ⟨k, c, o, h3, h4, h5⟩ => ⟨k, c, o, h3, h4.imp id p.mem_iff.mp, h5⟩⟩

/-- after the frames were looked at, with more that goes -/
theorem noted_rep2 {Z : List (Addr × Obj)} {S : List Addr} {h h' : Heap} (C : Cx w K P fd A n) (R : Rep w fd (Z ++ fx) σ h) (hc : ∀ p ∈ Z, ∀ v, p.2.data ≠ .cell v) (st : (hideAll h S).StaysIn h') (up : h.UpToSlots h') (hS : ∀ b ∈ S, b ∈ Z.map (·.1) ∨ b = fd.Lf ∨ b ∈ fd.fs) : Rep w fd fx σ h' := by
  obtain ⟨A₀, base, outer, fenv, B, hfs, hA, hf, hke, _⟩ := C.fr
  obtain ⟨g0, GT, mf, own, news, F, N, nd, H, V, hz⟩ := R
  have K' := B g0 GT
  have fsIn : ∀ b ∈ fd.fs, ∃ o, g0.get? b = some o ∧ ∀ vs, o.data ≠ .fields vs := fun b hb => by
    rw [hfs] at hb
    exact (K'.frames.mem hb).2
  have eapp : (Z ++ fx) ++ (own ++ news) = Z ++ (fx ++ (own ++ news)) := by simp
  rw [eapp] at nd N
  have zs : ∀ b ∈ Z.map (·.1), g0.get? b = none ∧ ∀ p ∈ fx ++ (own ++ news), p.1 ≠ b := fun b hb => by
    obtain ⟨q, hq, rfl⟩ := List.mem_map.mp hb
    refine ⟨(N q (List.mem_append_left _ hq)).2.2, fun p hp e => ?_⟩
    rw [List.map_append, List.nodup_append] at nd
    exact nd.2.2 _ (List.mem_map_of_mem hq) _ (List.mem_map_of_mem hp) e.symm
  obtain ⟨T, S'⟩ := kts_turn_at (h := h') (fs := fd.fs) (g := g0) (fun b hb => (fsIn b hb).imp fun _ x => x.1)
    (fun b o x nm => st b o (hideAll_get _ (F.keep b o x) fun hm => by
      rcases hS b hm with z | z | z
      · rw [(zs b z).1] at x; cases x
      · rw [z, kts_self F] at x; cases x
      · exact nm z))
    (fun b o x hm => by
      obtain ⟨o', ho', hd⟩ := fsIn b hm
      rw [x] at ho'; cases ho'
      exact up b o (F.keep b o x) hd)
  refine ⟨_, KtsTurn.trans GT T, mf, own, news, ⟨up.ns F.ns, S', by rw [T.size]; exact F.above⟩, fun p hp => ?_, ?_, H, Vars.drops hc V, by rw [T.size]; exact hz⟩
  · have D := N p (List.mem_append_right _ hp)
    refine ⟨st _ _ (hideAll_get _ D.1 fun hm => ?_), D.2.1, T.none_ _ D.2.2⟩
    rcases hS _ hm with z | z | z
    · exact (zs _ z).2 p hp rfl
    · exact D.2.1 z
    · obtain ⟨o', ho', _⟩ := fsIn _ z
      rw [D.2.2] at ho'; cases ho'
  · rw [List.map_append, List.nodup_append] at nd
    exact nd.2.1
end

/-- a generator's frame -/
structure GFn (F : Fn) : Prop where
  po : F.params.posonlyargs = []
  ko : F.params.kwonlyargs = []
  kw : F.params.kwarg = none
  va : F.params.vararg = none
  kd : F.scope.kind = .function
  gen : F.scope.isGenerator = true
  co : F.scope.isCoroutine = false
  nm : fnNames F = [("self" : Str)]
  self : F.scope.names.lookup ("self" : Str) = some .local
  grp : F.scope.names.lookup ("node_group" : Str) = some .local
  nc : ∀ p ∈ F.scope.names, p.2 ≠ .cell
  nx : (F.scope.names.all fun p => p.1 != ("__debug__" : Str) && p.1 != ("__classdict__" : Str)) = true
theorem gFn_of {F : Fn} (h : genChk F = true) : GFn F := by
  unfold genChk at h
  simp only [Bool.and_eq_true] at h
  obtain ⟨⟨⟨⟨⟨⟨⟨⟨⟨⟨⟨h1, h2⟩, h3⟩, h4⟩, h5⟩, h6⟩, h7⟩, h8⟩, h9⟩, h10⟩, h11⟩, h12⟩ := h
  exact ⟨List.isEmpty_iff.mp h1, List.isEmpty_iff.mp h2, Option.isNone_iff_eq_none.mp h3, Option.isNone_iff_eq_none.mp h4, by simpa using h5, by simpa using h6, by simpa using h7, by simpa using h8, by simpa using h9, by simpa using h10,
    fun p hp => by have := List.all_eq_true.mp h11 p hp; simpa using this, h12⟩
theorem noCells : ∀ (l : List (Str × NameKind)) (k : Nat) (acc : List (Str × Addr)), (∀ p ∈ l, p.2 ≠ .cell) → cellsFrom k l acc = acc
  | [], _, _, _ => rfl
  | (x, kk) :: l, k, acc, h => by
    unfold cellsFrom
    split
    · rename_i e; exact (h _ (.head _) (by simpa using e)).elim
    · exact noCells l k acc fun p hp => h p (.tail _ hp)
theorem gcells {F : Fn} (G : GFn F) (L : Addr) (cd : Value) : (envOfC F.qual F.scope L 127 cd).cells = [] := noCells _ _ _ G.nc
end Mine
end

section
open PySem PySem.W PyProof.Rows PySem.Calls PySem.Spec
open Sem (wp)
set_option maxRecDepth 100000
namespace Mine

section
variable {M : Model} {A : Around} {R : GenEnd} {Y : Protocol} {n : Nat} {s₀ : Shared} {c : Code} {fs : List Frame} {s : Shared} {α β : Type}
theorem seg_bindw {m : Sem α} {f : α → Sem β} {K : β → Sem Fin} {H : Value → Sem Fin} {gd : Bool → Bool} {lv : List Value → List Value}
    (h : wpAny M (A.over c fs) m (fun a s' => Seg M A R Y n s₀ c ((f a).wrap K H gd lv) fs s') (fun x s' => Seg M A R Y n s₀ c (H x) fs s') s) : Seg M A R Y n s₀ c ((m >>= f).wrap K H gd lv) fs s := by
  rw [Sem.bind_eq_wrap', Sem.wrap_wrap]
  exact seg_wrap h
theorem seg_of_eq {t t' : Sem Fin} (e : t = t') (h : Seg M A R Y n s₀ c t' fs s) : Seg M A R Y n s₀ c t fs s := e ▸ h
end

section
variable {w : World} {A : Around} {s s₀ : Shared} {fd : FD} {fx : List (Addr × Obj)} {σ : AS} {K : Frag} {P : Prm} {n : Nat}

/-- what a yield promises -/
inductive GYI (w : World) (fd : FD) (fx : List (Addr × Obj)) (n : Nat) (P : Prm) (x : Str) (body : List Stmt) (s₀ : Shared) (gi : Nat) (G : Addr) (oG : Obj) (v : Value) (s1 : Shared) (kap : Resume → Shared → Prop) : Prop
  | mk (gx : GX s₀ s1 gi) (V : AV) (σ1 : AS) (T : List (Addr × Obj)) (C' : AS → Prop) (hv : V.is v) (hG : (G, oG) ∈ T) (hT : ∀ p ∈ T, ∀ v, p.2.data ≠ .cell v) (R : Rep w fd (T ++ fx) σ1 s1.heap)
    (hB : (sem n).B P body ⟨upd x V σ1.loc, σ1.hp⟩ fun fl σ => match fl with | .next => C' σ | _ => False)
    (hk : ∀ σ s2, C' σ → Rep w fd (T ++ fx) σ s2.heap → GX s₀ s2 gi → kap (.send .none) s2)
noncomputable def GY (w : World) (fd : FD) (fx : List (Addr × Obj)) (n : Nat) (P : Prm) (x : Str) (body : List Stmt) (s₀ : Shared) (gi : Nat) (G : Addr) (oG : Obj) : Protocol := fun _ _ v s1 kap => GYI w fd fx n P x body s₀ gi G oG v s1 kap
/-- how the generator ends -/
inductive GRI (w : World) (fd : FD) (fx : List (Addr × Obj)) (s₀ : Shared) (gi : Nat) (G : Addr) (oG : Obj) (l : List Env) (lc : List (Str × AV)) (kf kt : AS → Prop) (s1 : Shared) : Result → Prop
  | ok (gx : GX s₀ s1 gi) (σ1 : AS) (R : Rep w fd fx σ1 s1.heap) (hk : kf σ1) : GRI w fd fx s₀ gi G oG l lc kf kt s1 (.ok (.ret .none))
  | err (gx : GX s₀ s1 gi) (e : Addr) (a0 : Value) (Z : List (Addr × Obj)) (h1 : Heap) (hp1 : HPs) (S : List Addr) (R : Rep w fd (Z ++ fx) ⟨lc, hp1⟩ h1) (hZ : ∀ p ∈ Z, ∀ v, p.2.data ≠ .cell v) (fl : Heap.FlyingW (hideAll h1 S) l e (.ref 48) a0 s1.heap) (up : h1.UpToSlots s1.heap)
    (hS : ∀ b ∈ S, b ∈ Z.map (·.1) ∨ b = fd.Lf ∨ b ∈ fd.fs) (hG : s1.heap.get? G = some oG) (hk : kt ⟨lc, hp1⟩) : GRI w fd fx s₀ gi G oG l lc kf kt s1 (.error (.ref e))
noncomputable def GR (w : World) (fd : FD) (fx : List (Addr × Obj)) (s₀ : Shared) (gi : Nat) (G : Addr) (oG : Obj) (l : List Env) (lc : List (Str × AV)) (kf kt : AS → Prop) : GenEnd := fun _ _ r s1 => GRI w fd fx s₀ gi G oG l lc kf kt s1 r

theorem yf_loop (C : Cx w K P fd A (n + 1)) {ev : Env} {Lg gi G : Addr} {oG : Obj} {R : GenEnd} {Y : Protocol} (hcG : ∀ v, oG.data ≠ .cell v)
    {tp : Addr} {items : List AV} {lgg : List (Str × AV)} {JJ : Nat → AS → Prop} {x : Str} {body : List Stmt} (hhas : ∀ i σ, JJ i σ → Has P.ro σ.hp tp (.tuple items))
    (hY : ∀ N sr v s kap, GYI w fd fx n P x body s₀ gi G oG v s kap → Y N sr v s kap)
    (hstep : ∀ i v σ, items[i]? = some v → JJ i σ → (sem n).B P body ⟨upd x v σ.loc, σ.hp⟩ fun fl σ => match fl with | .next => Fgt (JJ (i + 1)) σ | _ => False)
    {I : Addr} {F2 F1 : Frame} (hsp : splitAtGen [F2, F1] = none) (hgd : [F2, F1].any Frame.guarded = false) (hhd : (A.in1.over (yfC I) [F2, F1]).handled = none) {N0 : Nat}
    (hend : ∀ N, N0 ≤ N → ∀ sr s oL m' σ, JJ items.length σ → NsOf oL m' → LocOk ev m' lgg → Rep w fd ((Lg, oL) :: ([(G, oG)] ++ fx)) σ s.heap → GX s₀ s gi →
      Seg (model PR w) A.in1 R Y N sr (yfC I) (leafOf (.ok (.ret .none))) [F2, F1] s) :
    ∀ k i, items.length - i = k → i ≤ items.length → ∀ N, N0 + k ≤ N → ∀ sr s oL m' σ, JJ i σ → NsOf oL m' → LocOk ev m' lgg → Rep w fd ((I, tiObj tp i) :: (Lg, oL) :: (G, oG) :: fx) σ s.heap → GX s₀ s gi →
      Seg (model PR w) A.in1 R Y N sr (yfC I) ((model PR w).den (yfC I)) [F2, F1] s := by
  intro k
  induction k with
  | zero =>
    intro i hk hi N hN sr s oL m' σ hJ hn hlo Rr gx
    have he : i = items.length := by exact Nat.le_antisymm (lin [_, _] (.le (.v 0) (.v 1)) 1 (.c 1 (.le (.v 0) (.v 1)) .e) (Eq.refl true) hi) (lin [_, _, _] (.le (.v 0) (.v 1)) 1 (.c 1 (.eq (.v 2) (.n 0)) (.c 1 (.le (.v 0) (.a (.v 2) (.v 1))) .e)) (Eq.refl true) hk (lsa _ _))
    subst he
    have H := hhas _ _ hJ
    rw [C.fit.ro] at H
    obtain ⟨vs, m, ho, hp⟩ := has_tuple Rr C.ro H
    refine yf_end hhd Rr.fx_get ho (by rw [List.getElem?_eq_none_iff, ← hp.length]; exact Nat.le_refl _) fun h' hx => ?_
    exact hend N (by exact lin [_, _] (.le (.v 0) (.v 1)) 1 (.c 1 (.le (.a (.v 0) (.n 0)) (.v 1)) .e) (Eq.refl true) hN) sr { s with heap := h' } oL m' σ hJ hn hlo (Rr.drop_any (fun b o hb x => hx b o hb x) fun v z => by cases z) gx
  | succ k ih =>
    intro i hk hi N hN sr s oL m' σ hJ hn hlo Rr gx
    have hlt : i < items.length := by exact lin [_, _, _, _] (.lt (.v 0) (.v 1)) 1 (.c 1 (.qe (.v 2) (.a (.v 3) (.n 1))) (.c 1 (.eq (.a (.v 2) (.v 0)) (.v 1)) .e)) (Eq.refl true) hk (Nat.sub_add_cancel (lin [_, _] (.le (.v 0) (.v 1)) 1 (.c 1 (.le (.v 0) (.v 1)) .e) (Eq.refl true) hi))
    obtain ⟨N', rfl⟩ : ∃ N', N = N' + 1 := ⟨N - 1, by exact Nat.le_antisymm (lin [_, _] (.le (.v 0) (.a (.v 1) (.n 1))) 1 (.c 1 (.qe (.a (.v 1) (.n 1)) (.v 0)) .e) (Eq.refl true) (Nat.sub_add_cancel (lin [_, _, _] (.le (.n 1) (.v 0)) 1 (.c 1 (.le (.a (.v 1) (.a (.v 2) (.n 1))) (.v 0)) .e) (Eq.refl true) hN))) (lin [_, _] (.le (.a (.v 0) (.n 1)) (.v 1)) 1 (.c 1 (.eq (.a (.v 0) (.n 1)) (.v 1)) .e) (Eq.refl true) (Nat.sub_add_cancel (lin [_, _, _] (.le (.n 1) (.v 0)) 1 (.c 1 (.le (.a (.v 1) (.a (.v 2) (.n 1))) (.v 0)) .e) (Eq.refl true) hN)))⟩
    have H := hhas _ _ hJ
    rw [C.fit.ro] at H
    obtain ⟨vs, m, ho, hp⟩ := has_tuple Rr C.ro H
    have hV : items[i]? = some items[i] := List.getElem?_eq_getElem hlt
    obtain ⟨v, hv, hvi⟩ := Paired.get hp hV
    refine yf_item Rr.fx_get ho hv hsp hgd fun h' e1 e2 kap hk' => ?_
    have R1 := Rr.fx_set (sameBut_B e2) e1 (fun v z => by cases z)
    refine hY _ _ _ _ _ ⟨gx, items[i], σ, [(I, tiObj tp (i + 1)), (Lg, oL), (G, oG)], Fgt (JJ (i + 1)), hvi, by simp, fun p hp => ?_, R1, hstep i _ σ hV hJ, fun σ2 s2 hC R2 gx2 => ?_⟩
    · simp only [List.mem_cons, List.not_mem_nil, or_false] at hp
      rcases hp with rfl | rfl | rfl
      · intro v z; cases z
      · intro v z; obtain ⟨es, ep, hd, _⟩ := hn; rw [hd] at z; cases z
      · exact hcG
    · have R2 : Rep w fd ((I, tiObj tp (i + 1)) :: (Lg, oL) :: (G, oG) :: fx) σ2 s2.heap := R2
      obtain ⟨ns, hC⟩ := hC
      exact hk' s2 _ R2.fx_get rfl (ih (i + 1) (by exact Nat.le_antisymm (lin [_, _, _, _, _] (.le (.v 0) (.v 1)) 1 (.c 1 (.eq (.v 2) (.a (.v 1) (.n 1))) (.c 1 (.eq (.a (.v 0) (.a (.v 3) (.n 1))) (.v 4)) (.c 1 (.qe (.a (.v 2) (.v 3)) (.v 4)) .e))) (Eq.refl true) hk (Nat.sub_add_cancel (lin [_, _] (.le (.a (.v 0) (.n 1)) (.v 1)) 1 (.c 1 (.lt (.v 0) (.v 1)) .e) (Eq.refl true) hlt)) (Nat.sub_add_cancel (lin [_, _] (.le (.v 0) (.v 1)) 1 (.c 1 (.lt (.v 0) (.v 1)) .e) (Eq.refl true) hlt))) (lin [_, _, _, _, _] (.le (.v 0) (.v 1)) 1 (.c 1 (.qe (.v 2) (.a (.v 0) (.n 1))) (.c 1 (.qe (.a (.v 1) (.a (.v 3) (.n 1))) (.v 4)) (.c 1 (.eq (.a (.v 2) (.v 3)) (.v 4)) .e))) (Eq.refl true) hk (Nat.sub_add_cancel (lin [_, _] (.le (.a (.v 0) (.n 1)) (.v 1)) 1 (.c 1 (.lt (.v 0) (.v 1)) .e) (Eq.refl true) hlt)) (Nat.sub_add_cancel (lin [_, _] (.le (.v 0) (.v 1)) 1 (.c 1 (.lt (.v 0) (.v 1)) .e) (Eq.refl true) hlt)))) hlt N' (by exact lin [_, _, _] (.le (.a (.v 0) (.v 1)) (.v 2)) 1 (.c 1 (.le (.a (.v 0) (.a (.v 1) (.n 1))) (.a (.v 2) (.n 1))) .e) (Eq.refl true) hN) s2 s2 oL m' _ hC hn hlo (R2.forget (fgtL_lk _)) gx2)
end
end Mine
end

section
open PySem PySem.W PyProof.Rows PySem.Calls PySem.Spec
open Sem (wp)
set_option maxRecDepth 100000
namespace Mine

section
variable {w : World} {A : Around} {s s₀ : Shared} {fd : FD} {fx : List (Addr × Obj)} {σ : AS} {K : Frag} {P : Prm} {n : Nat}

theorem gFits (C : Cx w K P fd A n) {F : Fn} (GF : GFn F) {g : Heap} {Lg : Addr} {cd : Value} : Fits ⟨F.scope, P.ro, P.nh, false⟩ ⟨g, Lg, envOfC F.qual F.scope Lg 127 cd, none, fd.ro, fd.Lf :: fd.fs⟩ :=
  ⟨C.fit.ro, rfl, GF.kd, rfl, rfl, rfl, fun x hx => (hx.elim (fun h => (GF.nc _ (mem_of_lk h) rfl).elim) fun h => nomatch h.1), GF.nx⟩

/-! the loop's continuations, by name -/
noncomputable def wH (ev : Env) (e : Value) : Sem Fin := (do noteFrame e ev; theTreesLotGoes e : Sem Unit).wrap (fun _ => .raise e) .raise id id
noncomputable def wK (c : Code) : Flow → Sem Fin
  | .next | .cont => .pure (.again c)
  | .brk => .pure (.done .next)
  | .ret v => .pure (.done (.ret v))
section
variable {R : GenEnd} {Y : Protocol} {N : Nat} {sr : Shared} {fs : List Frame} {c : Code}
theorem seg_loopX {ev : Env} {t : Expr} {b : List Stmt} (hc : c = .whileLoop t b [] ev)
    (h : ∀ E, wpAny (model PR w) (A.over c fs) (isTrue t ev (eval t ev)) (fun bb s' => (bb = true → Seg (model PR w) A R Y N sr c ((execs b ev).wrap (wK c) (wH ev) id id) fs s') ∧ (bb = false → Seg (model PR w) A R Y N sr c (leafOf (.ok .next)) fs s')) E s) :
    Seg (model PR w) A R Y N sr c ((model PR w).den c) fs s := by
  subst hc
  refine seg_whileLoop (wpAny_mono (h _) (fun bb s' hb => ?_) fun _ _ x => x)
  cases bb with
  | true => rw [if_pos rfl]; exact seg_of_eq rfl (hb.1 rfl)
  | false => rw [if_neg Bool.false_ne_true]; exact seg_execs_nil (hb.2 rfl)
theorem seg_leafX {k1 : Result → Sem Fin} {gv : List Value} {cf : Code} {p1 : Pos} {fr : Frame} (hfr : fr = .ret k1 none false gv cf p1 []) (r : Result) (h : Seg (model PR w) A R Y N sr cf (k1 r) fs s) : Seg (model PR w) A R Y N sr c (leafOf r) (fr :: fs) s := by
  subst hfr; exact seg_leaf r h
/-- `yield from node_group`, up to the iterator's own loop -/
theorem seg_yfrom {Pg : Prm} {fdg : FD} {fxg : List (Addr × Obj)} {σg : AS} {p5 p6 p7 : Pos} {rest : List Stmt} {Kf : Flow → Sem Fin} {Hf : Value → Sem Fin} {tp : Addr} {vs : List Value} {mm : Nat} {ev : Env} (hev : fdg.env = ev) (CG : Cx w K Pg fdg (A.over c fs) n) (R2 : Rep w fdg fxg σg s.heap)
    (hgrp : lookNm Pg σg "node_group" = some (.ref tp)) (ho : s.heap.get? tp = some (TObj vs mm))
    (h : ∀ (k' : Result → Sem Fin) gv p, k' (.ok (.ret .none)) = (execs rest ev).wrap Kf Hf id id → Seg (model PR w) A R Y N sr (yfC s.heap.objs.size) ((model PR w).den (yfC s.heap.objs.size)) (.ret k' none false gv c p [] :: fs) { s with heap := s.heap.push (tiObj tp 0) }) :
    Seg (model PR w) A R Y N sr c ((execs (.Expr (.YieldFrom (.Name "node_group" p5) p6) p7 :: rest) ev).wrap Kf Hf id id) fs s := by
  subst hev
  refine seg_execs_cons ?_
  rw [exec_Expr _ _ _ (notInteractive CG) rfl, arm_eval_YieldFrom]
  rw [bind_assoc]
  refine seg_bindw (wpAny_standAt (seg_bindw (name_sound CG R2 hgrp fun v hv => ?_)))
  cases hv
  rw [bind_assoc]
  refine seg_bindw (wpAny_standAt ?_)
  unfold yieldFrom
  rw [bind_assoc]
  refine seg_bindw (wpAny_typeOf (T := "tuple") ⟨_, ho, rfl⟩ ?_)
  rw [if_neg (by decide), bind_assoc]
  refine seg_bindw (wpAny_holding (wpAny_pyIter_tuple ⟨_, ho, rfl, mm, rfl⟩ ?_))
  exact seg_call fun p => h _ _ _ rfl
end

theorem gen_while (I : Snd w K n) (C : Cx w K P fd A (n + 1)) (hnh : P.nh = true) {Pg : Prm} {ev : Env} {Lg gi G : Addr} {oG : Obj} (hcG : ∀ v, oG.data ≠ .cell v) {kf : AS → Prop}
    {t : Expr} {g dn : Stmt} {x : Str} {body : List Stmt} {J : Nat → List (Str × AV) → AS → Prop} (hJ : ∀ m lg σ, J m lg σ → GTurn (sem n) P Pg x t g dn body J kf m lg σ)
    {RR : GenEnd} {YY : Protocol} (hY : ∀ N sr v s kap, GYI w fd fx n P x body s₀ gi G oG v s kap → YY N sr v s kap) {p5 p6 p7 p1 : Pos} {c cf : Code} (hc : c = .whileLoop t [g, .Expr (.YieldFrom (.Name "node_group" p5) p6) p7, dn] [] ev)
    {k1 : Result → Sem Fin} {gv : List Value} {fr : Frame} (hfr : fr = .ret k1 none false gv cf p1 [])
    (hT : ∀ {lg : List (Str × AV)} {σ : AS} {h : Heap} {oL : Obj} {m' : Str → Option Value}, Rep w fd ((Lg, oL) :: ([(G, oG)] ++ fx)) σ h → NsOf oL m' → LocOk ev m' lg → GTR w K Pg (A.in1.over c [fr]) n fd fx [(G, oG)] Lg ev σ.loc lg σ.hp h)
    (hk1 : ∀ N sr s σ, GX s₀ s gi → Rep w fd fx σ s.heap → kf σ → Seg (model PR w) A.in1 RR YY N sr cf (k1 (.ok .next)) [] s) :
    ∀ m lg σ, J m lg σ → ∀ N, m ≤ N → ∀ sr s oL m', NsOf oL m' → LocOk ev m' lg → Rep w fd ((Lg, oL) :: ([(G, oG)] ++ fx)) σ s.heap → GX s₀ s gi → Seg (model PR w) A.in1 RR YY N sr c ((model PR w).den c) [fr] s := by
  have hq : c.quiet = true := by rw [hc]; rfl
  have hsp : ∀ k' gv' p, splitAtGen [.ret k' none false gv' c p [], fr] = none ∧ [Frame.ret k' none false gv' c p [], fr].any Frame.guarded = false ∧ ∀ I, (A.in1.over (yfC I) [.ret k' none false gv' c p [], fr]).handled = none := by
    subst hfr; exact fun _ _ _ => ⟨rfl, rfl, fun _ => C.nh hnh⟩
  intro m
  induction m using Nat.strongRecOn with
  | ind m ih =>
  intro lg σ hj N hN sr s oL m' hn hlo Rr gx
  obtain ⟨g0, own, CG, Rg, out⟩ := hT Rr hn hlo
  refine seg_loopX hc fun _ => I.T CG Rg (Same.refl s) (hJ m lg σ hj) fun b σg s1 hs1 R1 h1 => ⟨fun hb => ?_, fun hb => ?_⟩
  · refine seg_execs_cons (seg_wrap (I.S CG R1 hs1 (h1.2 hb) fun fl f σ2 s2 hfl hs2 R2 h2 => ?_))
    cases fl with
    | brk => exact h2.elim
    | cont => exact h2.elim
    | ret U => exact h2.elim
    | next =>
    cases hfl
    obtain ⟨tp, items, hgrp, Ht, hlim, n', JJ, hlt', hJ0, hhas, hstep, hdone⟩ := h2
    rw [C.fit.ro] at Ht
    obtain ⟨vs, mm, ho, hp⟩ := has_tuple R2 CG.ro Ht
    refine seg_yfrom rfl CG R2 hgrp ho fun k' gv' p e => ?_
    have R3 := R2.fx_add (h' := s2.heap.push (tiObj tp 0)) (r := s2.heap.objs.size) (o := tiObj tp 0) (fun b o e => Heap.get?_push_of_some _ e) (none_of_size (Nat.le_refl _)) (Heap.get?_push_size _ rfl)
    obtain ⟨oL', m2, hn2, hlo2, R4⟩ := out (trk' := (s2.heap.objs.size, tiObj tp 0) :: [(G, oG)]) R3
    obtain ⟨z1, z2, z3⟩ := hsp k' gv' p
    refine yf_loop (s₀ := s₀) C hcG hhas hY (fun i v σ h1 h2 => hstep i v σ h1 h2 (fun fl σ => match fl with | .next => Fgt (JJ (i + 1)) σ | _ => False) ⟨fun ns _ h => ⟨ns, h⟩⟩) z1 z2 (z3 _) (N0 := n') (fun N1 hN1 sr1 s4 oL4 m4 σ4 hJ4 hn4 hlo4 R6 gx4 => seg_leaf (r := .ok (.ret .none)) (seg_of_eq e ?_)) items.length 0 rfl (Nat.zero_le _) N (by exact lin [_, _, _, _] (.le (.a (.v 0) (.v 1)) (.v 2)) 1 (.c 1 (.le (.v 3) (.v 2)) (.c 1 (.lt (.a (.v 0) (.v 1)) (.v 3)) .e)) (Eq.refl true) hN hlt') sr { s2 with heap := s2.heap.push (tiObj tp 0) } oL' m2 ⟨σ.loc, σ2.hp⟩ hJ0 hn2 hlo2 (R4.perm (List.Perm.swap ..)) (gx.step (hs2.trans (same_hp s2 _ s2.toks)))
    obtain ⟨g5, own5, CG5, Rg5, out5⟩ := hT R6 hn4 hlo4
    refine seg_execs_cons (seg_wrap (I.S CG5 Rg5 (Same.refl s4) (hdone σ4 hJ4 (fun fl σg => match fl with | .next => Fgt (fun τ => J n' τ.loc ⟨σ4.loc, τ.hp⟩) σg | _ => False) ⟨fun ns _ h => ⟨ns, h⟩⟩) fun fl f σ6 s6 hfl hs6 R7 h6 => ?_))
    cases fl with
    | brk => exact h6.elim
    | cont => exact h6.elim
    | ret U => exact h6.elim
    | next =>
    cases hfl
    obtain ⟨oL7, m7, hn7, hlo7, R8⟩ := out5 R7
    obtain ⟨ns, h6⟩ := h6
    exact seg_execs_nil (seg_again hq (ih n' (by exact lin [_, _, _] (.lt (.v 0) (.v 1)) 1 (.c 1 (.lt (.a (.v 0) (.v 2)) (.v 1)) .e) (Eq.refl true) hlt') _ _ h6 N1 hN1 sr1 s6 oL7 m7 hn7 (fun x V e => hlo7 x V (fgtL_lk _ x V e)) R8 (gx4.step hs6)))
  · obtain ⟨oL', m2, hn2, _, R2⟩ := out R1
    refine seg_leafX hfr (.ok .next) (hk1 N sr s1 _ (gx.step hs1) ((R2.fx_drop fun v z => ?_).fx_drop hcG) (h1.1 hb))
    obtain ⟨es, ep, hd, _⟩ := hn2; rw [hd] at z; cases z
end
end Mine
end

section
open PySem PySem.W PyProof.Rows PySem.Calls PySem.Spec
open Sem (wp)
set_option maxRecDepth 100000
namespace Mine

section
variable {w : World} {A : Around} {E : Value → Shared → Prop} {s s₀ : Shared} {fd : FD} {fx : List (Addr × Obj)} {σ : AS} {K : Frag} {P : Prm} {n : Nat}

theorem Rep.notin {h : Heap} {p : Addr × Obj} {Z : List (Addr × Obj)} (C : Cx w K P fd A n) (R : Rep w fd (p :: (Z ++ fx)) σ h) : p.1 ∉ Z.map (·.1) ∧ p.1 ≠ fd.Lf ∧ p.1 ∉ fd.fs ∧ h.get? p.1 = some p.2 := by
  obtain ⟨A₀, base, outer, fenv, B, hfs, _⟩ := C.fr
  obtain ⟨g0, GT, mf, own, news, F, N, nd, _⟩ := R
  have D := N p (.head _)
  refine ⟨fun z => (List.nodup_cons.mp nd).1 ?_, D.2.1, fun z => ?_, D.1⟩
  · refine (?_ : p.1 ∈ ((Z ++ fx) ++ (own ++ news)).map (·.1))
    rw [List.map_append, List.map_append]
    exact List.mem_append_left _ (List.mem_append_left _ z)
  · rw [hfs] at z
    obtain ⟨o, ho, _⟩ := ((B g0 GT).frames.mem z).2
    rw [D.2.2] at ho; cases ho

theorem prepStmt_sound (I : Snd w K n) {a : Addr} {Fp : Fn} {pre : List Stmt} {te : Expr} {c : Str} {l : List Env} {kf kt : List (Addr × AO) → Prop} (C : Cx w K P fd A n) (hun : A.units + 3 + 32 * n + 200 < cLine) (hdp : A.depth + 1 + 4 * n + 100 < recursionLimit)
    (hnh : P.nh = true) (hl : A.frames = some l) (R : Rep w fd fx σ s.heap) (hs : Same s₀ s) (hself : lookNm P σ "self" = some (.ref a)) {d : Addr} {ll : List (Str × AV)} (H : Has fd.ro σ.hp a (.inst 130 d)) (D : Has fd.ro σ.hp d (.attrs ll)) (hll : ∀ p ∈ ll, p.1 ∈ fields4)
    (hF : fnAt 85 = some Fp) (hp : PPart Fp pre te c)
    (h : (sem n).B ⟨Fp.scope, P.ro, P.nh, false⟩ pre ⟨[("self", .ref a)], σ.hp⟩ fun fl σp => match fl with
        | .next => (sem n).T ⟨Fp.scope, P.ro, P.nh, false⟩ te σp fun b σp =>
            (b = true → (lookNm ⟨Fp.scope, P.ro, P.nh, false⟩ σp c).isSome = true ∧ lookNm ⟨Fp.scope, P.ro, P.nh, false⟩ σp "CycleError" = some (.ref 48) ∧ kt σp.hp) ∧ (b = false → kf σp.hp)
        | _ => False)
    {p1 ap cp p4 : Pos} (hline : (ap.endLine == cp.line) = true) {Q : Flow → Shared → Prop}
    (qn : ∀ hp s, Same s₀ s → Rep w fd fx ⟨σ.loc, hp⟩ s.heap → kf hp → Q .next s)
    (qe : ∀ e oe a0 Lp oLp hp h1 s', Rep w fd ((Lp, oLp) :: (e, oe) :: fx) ⟨σ.loc, hp⟩ h1 → (∀ v, oe.data ≠ .cell v) → (∀ v, oLp.data ≠ .cell v) → Heap.FlyingW (hideAll h1 (e :: Lp :: fd.Lf :: fd.fs)) l e (.ref 48) a0 s'.heap → h1.UpToSlots s'.heap → Same s₀ s' → kt hp → E (.ref e) s') :
    wpAny (model PR w) A (exec (.Expr (.Call (.Attribute (.Name "self" p1) "prepare" ap) [] [] cp) p4) fd.env) Q E s := by
  refine wpAny_Expr_any ?_ (notInteractive C) rfl
  rw [arm_eval_Call, attrBase (o := .Name "self" p1) rfl]
  refine wpAny_bind (name_sound C R hself fun v hv => wpAny_bind (wpAny_standAt ?_))
  cases hv
  unfold methodCall
  have e1 : methodCallForm (([] : List Expr).length + ([] : List Keyword).length) (backTo cp (starEach [] fd.env)) (backToKw cp (keywordEach [] fd.env)) = true := by rfl
  rw [e1]
  unfold calleeOf
  rw [if_pos rfl]
  have hf : methF .inst "prepare" = some (.ref 85) := rfl
  refine wpAny_bind (wpAny_holding (getM_sound (t := .inst) R C.ro C.X C.KF (ref_is a) ⟨a, d, ll, rfl, H, D, hll⟩ hf ?_))
  unfold methodCallPos
  rw [hline]
  refine wpAny_bind (wpAny_pure ?_)
  refine callWithX (I := fun h => K.In h) (method_keeper C hf) (wpAny_mono (evalArgs_plain (Q := fun vs s' => K.In s'.heap ∧ wpAny (model PR w) A (call (.ref 85) (.ref a :: vs)) (fun _ => Q .next) E s') (fun x z => by cases z) (Calls.spliced_nil ⟨repX C R, wpAny_call ?_⟩)) (fun a s' hh => ⟨hh.1, hh.2⟩) fun _ _ x => x)
  exact prep_sound I C hun hdp hnh hl R hs hF hp h (fun hp s hs R hk => qn hp s hs R hk) (fun e oe a0 Lp oLp hp h1 s' r1 r2 r3 r4 r5 r6 r7 => qe e oe a0 Lp oLp hp h1 s' r1 r2 r3 r4 r5 r6 r7)

/-- the generator, woken for the first time -/
noncomputable def wF (f : Flow) : Sem Fin := .pure (.done (.ret (match f with | .ret v => v | _ => .none)))
noncomputable def wL (ev : Env) (e : Value) : Sem Fin := (leaving ev e).wrap (fun _ => .raise e) .raise id id
theorem seg_funcX {R : GenEnd} {Y : Protocol} {N : Nat} {sr : Shared} {fs : List Frame} {c : Code} {ev : Env} {fb : List Stmt} (hc : c = .func fb ev) (h : Seg (model PR w) A R Y N sr c ((execs fb ev).wrap wF (wL ev) id id) fs s) : Seg (model PR w) A R Y N sr c ((model PR w).den c) fs s := by
  subst hc; exact seg_func h
inductive GF0 (w : World) (K : Frag) (Pg : Prm) (A : Around) (n : Nat) (fd : FD) (fx : List (Addr × Obj)) (G : Addr) (oG : Obj) (Lg : Addr) (ev : Env) (l : List Env) (c : Code) : Prop
  | mk (hnh : Pg.nh = true) (hfm : ev.frame = some Lg) (hfr : (A.in1.over c []).frames = some (ev :: l)) (hun : (A.in1.over c []).units + 3 + 32 * n + 200 < cLine) (hdp : (A.in1.over c []).depth + 1 + 4 * n + 100 < recursionLimit)
    (hT : ∀ {lg : List (Str × AV)} {σ : AS} {h : Heap} {oL : Obj} {m' : Str → Option Value}, Rep w fd ((Lg, oL) :: ([(G, oG)] ++ fx)) σ h → NsOf oL m' → LocOk ev m' lg → GTR w K Pg (A.in1.over c []) n fd fx [(G, oG)] Lg ev σ.loc lg σ.hp h)
    (hW : ∀ {c2 : Code} {k1 : Result → Sem Fin} {gv : List Value} {p1 : Pos} {t : Expr} {b : List Stmt}, c2 = .whileLoop t b [] ev → ∀ {lg : List (Str × AV)} {σ : AS} {h : Heap} {oL : Obj} {m' : Str → Option Value}, Rep w fd ((Lg, oL) :: ([(G, oG)] ++ fx)) σ h → NsOf oL m' → LocOk ev m' lg →
      GTR w K Pg (A.in1.over c2 [.ret k1 none false gv c p1 []]) n fd fx [(G, oG)] Lg ev σ.loc lg σ.hp h)
theorem gen_first0 (I : Snd w K n) (C : Cx w K P fd A (n + 1)) {Fp : Fn} {Lg gi G a d : Addr} {oG oL : Obj} {l : List Env} (hnh : P.nh = true) (hcG : ∀ v, oG.data ≠ .cell v) {kf kt : AS → Prop} {Pg : Prm} {ev : Env} {c : Code} (X : GF0 w K Pg A n fd fx G oG Lg ev l c)
    {t te : Expr} {g dn : Stmt} {x cy : Str} {body pre fb : List Stmt} {N N0 : Nat} {ll : List (Str × AV)} {m' : Str → Option Value} {p1 ap cp p4 p5 p6 p7 p8 : Pos} (hline : (ap.endLine == cp.line) = true)
    (hfb : fb = [.Expr (.Call (.Attribute (.Name "self" p1) "prepare" ap) [] [] cp) p4, .While t [g, .Expr (.YieldFrom (.Name "node_group" p5) p6) p7, dn] [] p8]) (hc : c = .func fb ev) (hFp : fnAt 85 = some Fp) (hpp : PPart Fp pre te cy)
    (H : Has fd.ro σ.hp a (.inst 130 d)) (D : Has fd.ro σ.hp d (.attrs ll)) (hll : ∀ p ∈ ll, p.1 ∈ fields4)
    (h : (sem n).B ⟨Fp.scope, Pg.ro, Pg.nh, false⟩ pre ⟨[("self", .ref a)], σ.hp⟩ fun fl σp => match fl with
        | .next => (sem n).T ⟨Fp.scope, Pg.ro, Pg.nh, false⟩ te σp fun b σp =>
            (b = true → (lookNm ⟨Fp.scope, Pg.ro, Pg.nh, false⟩ σp cy).isSome = true ∧ lookNm ⟨Fp.scope, Pg.ro, Pg.nh, false⟩ σp "CycleError" = some (.ref 48) ∧ kt ⟨σ.loc, σp.hp⟩) ∧
            (b = false → genLoop N0 (sem n) P Pg x t g dn body [("self", .ref a)] ⟨σ.loc, σp.hp⟩ kf)
        | _ => False)
    (hN : N0 ≤ N) (hn : NsOf oL m') (hlo : LocOk ev m' [("self", .ref a)]) (R : Rep w fd ((Lg, oL) :: ([(G, oG)] ++ fx)) σ s.heap) (gx : GX s₀ s gi) (sr : Shared) :
    Seg (model PR w) A.in1 (GR w fd fx s₀ gi G oG l σ.loc kf kt) (GY w fd fx n P x body s₀ gi G oG) N sr c ((model PR w).den c) [] s := by
  obtain ⟨hgn, hfm, hfr, hun, hdp, hT, hW⟩ := X
  obtain ⟨g0, own, CG, Rg, out⟩ := hT R hn hlo
  refine seg_funcX hc ?_
  rw [hfb]
  refine seg_execs_cons (seg_wrap (prepStmt_sound I CG hun hdp hgn hfr Rg (Same.refl s) rfl H D hll hFp hpp
    (kf := fun hp => genLoop N0 (sem n) P Pg x t g dn body [("self", .ref a)] ⟨σ.loc, hp⟩ kf) (kt := fun hp => kt ⟨σ.loc, hp⟩) h hline ?_ ?_))
  · intro hp s1 hs1 R1 hk
    obtain ⟨oL2, m2, hn2, hlo2, R2⟩ := out R1
    obtain ⟨J, ⟨m, hm, hj⟩, hJ⟩ := hk
    refine seg_execs_cons (seg_While fun p => ?_)
    exact gen_while I C hnh hcG hJ (fun _ _ _ _ _ h => h) rfl rfl (hW rfl) (fun N sr s σ h1 h2 h3 => seg_of_eq (t' := leafOf (.ok (.ret .none))) rfl (seg_end _ (.ok h1 σ h2 h3))) m _ _ hj N (Nat.le_trans hm hN) sr s1 oL2 m2 hn2 hlo2 R2 (gx.step hs1)
  · intro e oe a0 Lp oLp hp h1 s1 RL hce hcLp fl up hs1 hk
    obtain ⟨oL2, m2, hn2, hlo2, R2⟩ := out (trk' := (Lp, oLp) :: (e, oe) :: [(G, oG)]) RL
    refine seg_wrap (wpAny_leaves_onW hfr hfm fl fun h'' fl' up' => ?_)
    have R3 : Rep w fd ((G, oG) :: ([(Lg, oL2), (Lp, oLp), (e, oe)] ++ fx)) ⟨σ.loc, hp⟩ h1 := R2.perm (by
      simp only [List.cons_append, List.nil_append]
      exact (List.Perm.trans (List.perm_middle (l₁ := [(Lg, oL2), (Lp, oLp), (e, oe)])) (List.Perm.refl _)))
    obtain ⟨q1, q2, q3, q4⟩ := R3.notin C
    have hG : h''.get? G = some oG := fl'.1 _ _ (hideAll_get _ q4 fun hm => by
      simp only [List.map_cons, List.map_nil, List.mem_cons, List.not_mem_nil, or_false, not_or] at q1
      simp only [List.mem_cons] at hm
      rcases hm with z | z | z | z | z
      · exact q1.2.2 z
      · exact q1.2.1 z
      · exact q1.1 z
      · exact q2 z
      · exact q3 z)
    refine seg_end (.error (.ref e)) (.err (gx.step (hs1.trans (same_hp s1 _ s1.toks))) e a0 [(Lg, oL2), (Lp, oLp), (e, oe), (G, oG)] h1 _ _ R2 (fun p hp => ?_) fl' (up.trans up') (fun b hb => ?_) hG hk)
    · simp only [List.mem_cons, List.not_mem_nil, or_false] at hp
      rcases hp with rfl | rfl | rfl | rfl
      · intro v z; obtain ⟨es, ep, hd, _⟩ := hn2; rw [hd] at z; cases z
      · exact hcLp
      · exact hce
      · exact hcG
    · simp only [List.mem_cons] at hb
      simp only [List.map_cons, List.map_nil, List.mem_cons, List.not_mem_nil, or_false]
      rcases hb with z | z | z | z | z
      · exact .inl (.inr (.inr (.inl z)))
      · exact .inl (.inr (.inl z))
      · exact .inl (.inl z)
      · exact .inr (.inl z)
      · exact .inr (.inr z)
/-- the same, said of the generator of the program -/
theorem gen_first (I : Snd w K n) (C : Cx w K P fd A (n + 1)) {F Fp : Fn} (GF : GFn F) {Lg gi G a d : Addr} {oG oL : Obj} {cd : Value} {l : List Env} (hl : A.frames = some l) (hnh : P.nh = true) (hlt : fd.Lf < Lg) (hcG : ∀ v, oG.data ≠ .cell v) {kf kt : AS → Prop}
    {t te : Expr} {g dn : Stmt} {x c : Str} {body pre : List Stmt} {N N0 : Nat} {ll : List (Str × AV)} {m' : Str → Option Value} (hgp : GPart F t g dn) (hFp : fnAt 85 = some Fp) (hpp : PPart Fp pre te c)
    (H : Has P.ro σ.hp a (.inst 130 d)) (D : Has P.ro σ.hp d (.attrs ll)) (hll : ∀ p ∈ ll, p.1 ∈ fields4)
    (h : (sem n).B ⟨Fp.scope, P.ro, P.nh, false⟩ pre ⟨[("self", .ref a)], σ.hp⟩ fun fl σp => match fl with
        | .next => (sem n).T ⟨Fp.scope, P.ro, P.nh, false⟩ te σp fun b σp =>
            (b = true → (lookNm ⟨Fp.scope, P.ro, P.nh, false⟩ σp c).isSome = true ∧ lookNm ⟨Fp.scope, P.ro, P.nh, false⟩ σp "CycleError" = some (.ref 48) ∧ kt ⟨σ.loc, σp.hp⟩) ∧
            (b = false → genLoop N0 (sem n) P ⟨F.scope, P.ro, P.nh, false⟩ x t g dn body [("self", .ref a)] ⟨σ.loc, σp.hp⟩ kf)
        | _ => False)
    (hN : N0 ≤ N) (hn : NsOf oL m') (hlo : LocOk (envOfC F.qual F.scope Lg 127 cd) m' [("self", .ref a)]) (R : Rep w fd ((Lg, oL) :: ([(G, oG)] ++ fx)) σ s.heap) (gx : GX s₀ s gi) (sr : Shared) :
    Seg (model PR w) A.in1 (GR w fd fx s₀ gi G oG l σ.loc kf kt) (GY w fd fx n P x body s₀ gi G oG) N sr (.func F.body (envOfC F.qual F.scope Lg 127 cd)) ((model PR w).den (.func F.body (envOfC F.qual F.scope Lg 127 cd))) [] s := by
  obtain ⟨p1, ap, cp, p4, p5, p6, p7, p8, hline, hbody⟩ := hgp
  have htrk : ∀ p ∈ [(G, oG)], ∀ v, p.2.data ≠ .cell v := fun p hp => by rcases List.mem_singleton.mp hp with rfl; exact hcG
  have hun := C.un
  have hdp := C.dp
  rw [C.fit.ro] at H D
  exact gen_first0 (Pg := ⟨F.scope, P.ro, P.nh, false⟩) (Lg := Lg) I C hnh hcG (.mk hnh rfl (by refine (?_ : A.frames.map (envOfC F.qual F.scope Lg 127 cd :: ·) = _); rw [hl]; rfl)
    (by refine (?_ : A.units + 1 + 0 + 3 + 3 + 32 * n + 200 < cLine); exact lin [_, _, _] (.lt (.a (.a (.a (.a (.a (.a (.v 0) (.n 1)) (.n 0)) (.n 3)) (.n 3)) (.m 32 (.v 1))) (.n 200)) (.v 2)) 1 (.c 1 (.lt (.a (.a (.v 0) (.m 32 (.a (.v 1) (.n 1)))) (.n 200)) (.v 2)) .e) (Eq.refl true) hun)
    (by refine (?_ : A.depth + 0 + 1 + 1 + 4 * n + 100 < recursionLimit); exact lin [_, _, _] (.lt (.a (.a (.a (.a (.a (.v 0) (.n 0)) (.n 1)) (.n 1)) (.m 4 (.v 1))) (.n 100)) (.v 2)) 1 (.c 1 (.lt (.a (.a (.v 0) (.m 4 (.a (.v 1) (.n 1)))) (.n 100)) (.v 2)) .e) (Eq.refl true) hdp)
    (gen_turn C (gcells GF Lg cd) rfl rfl GF.kd (fun _ => gFits C GF) rfl
      (by refine (?_ : A.units + 1 + 0 + 3 + 32 * n + 200 < cLine); exact lin [_, _, _] (.lt (.a (.a (.a (.a (.a (.v 0) (.n 1)) (.n 0)) (.n 3)) (.m 32 (.v 1))) (.n 200)) (.v 2)) 1 (.c 1 (.lt (.a (.a (.v 0) (.m 32 (.a (.v 1) (.n 1)))) (.n 200)) (.v 2)) .e) (Eq.refl true) hun)
      (by refine (?_ : A.depth + 0 + 1 + 4 * n + 100 < recursionLimit); exact lin [_, _, _] (.lt (.a (.a (.a (.a (.v 0) (.n 0)) (.n 1)) (.m 4 (.v 1))) (.n 100)) (.v 2)) 1 (.c 1 (.lt (.a (.a (.v 0) (.m 4 (.a (.v 1) (.n 1)))) (.n 100)) (.v 2)) .e) (Eq.refl true) hdp) (fun _ => C.nh hnh) hlt htrk)
    (fun e => by
      subst e
      exact gen_turn C (gcells GF Lg cd) rfl rfl GF.kd (fun _ => gFits C GF) rfl
        (by refine (?_ : A.units + 1 + 3 + 32 * n + 200 < cLine); exact lin [_, _, _] (.lt (.a (.a (.a (.a (.v 0) (.n 1)) (.n 3)) (.m 32 (.v 1))) (.n 200)) (.v 2)) 1 (.c 1 (.lt (.a (.a (.v 0) (.m 32 (.a (.v 1) (.n 1)))) (.n 200)) (.v 2)) .e) (Eq.refl true) hun)
        (by refine (?_ : A.depth + 1 + 4 * n + 100 < recursionLimit); exact lin [_, _, _] (.lt (.a (.a (.a (.v 0) (.n 1)) (.m 4 (.v 1))) (.n 100)) (.v 2)) 1 (.c 1 (.lt (.a (.a (.v 0) (.m 4 (.a (.v 1) (.n 1)))) (.n 100)) (.v 2)) .e) (Eq.refl true) hdp) (fun _ => C.nh hnh) hlt htrk))
    hline hbody rfl hFp hpp H D hll h hN hn hlo R gx sr
end
end Mine
end

section
open PySem PySem.W PyProof.Rows PySem.Calls PySem.Spec
open Sem (wp)
set_option maxRecDepth 100000
namespace Mine

section
variable {w : World} {A : Around} {E : Value → Shared → Prop} {s s₀ : Shared} {fd : FD} {fx : List (Addr × Obj)} {σ : AS} {K : Frag} {P : Prm} {n : Nat}

noncomputable abbrev cycMro : List Value := [.type "ValueError", .type "Exception", .type "BaseException", .type "object"]
/-- a CycleError is no StopIteration -/
theorem notStop {e : Addr} {ob : Obj} {Q : Bool → Shared → Prop} (X : K.In s.heap) (cyc : CycIn K) (he : s.heap.get? e = some ob) (hc : ob.cls = .ref 48) (q : Q false s) : wpAny (model PR w) A (isInstance (.ref e) (.type "StopIteration")) Q E s := by
  obtain ⟨nm, q', N, bs, hdct, sn, sub, ab, col, dd, k0, k1', k2', k3', k5', h48, _⟩ := cyc
  obtain ⟨h, g, d, t, os⟩ := s
  simp only [isInstance]
  refine wpAny_bind ?_
  refine (?_ : wpAny _ _ (loadPart e (some headPart) >>= fun o => pure o.cls) _ _ _)
  refine wpAny_bind (wpAny_loadPart he (wpAny_pure ?_))
  rw [hc]
  refine wpAny_isSubtype_exc (X _ _ h48) ?_
  have e0 : (Value.ref 48 :: cycMro).contains (.type "StopIteration") = false := by decide
  rw [e0]; exact q

theorem pyNext_gen {a : Addr} {g : Nat} {N : Nat} {gs : GenState} {R : GenEnd} {Y : Protocol} {Q : Option Value → Shared → Prop} {oG : Obj} {nm qn : Value} (hh : A.handled = none)
    (hl : s.heap.NoLimit) (hroom : A.depth < recursionLimit) (cyc : CycIn K) (hoG : oG = { cls := .type "generator", data := .fields #[.int g 0, nm, qn] }) (hg : s.heap.get? a = some oG) (hgs : s.gens[g]? = some gs)
    (hgo : gs.Goes (model PR w) A.in1 R Y N (.send .none) (s.setGen g .running))
    (hY : ∀ v s₁ gs', Y (N - 1) (s.setGen g .running) v s₁ (fun r' s'' => match N with
        | 0 => False
        | m + 1 => gs'.Goes (model PR w) A.in1 R Y m r' s'') → Q (some v) (s₁.setGen g gs'))
    (hR : ∀ r s₁, R N (s.setGen g .running) r s₁ → (r = .ok (.ret .none) ∧ ∀ h', (∀ b o, s₁.heap.get? b = some o → h'.get? b = some o) → Q none { s₁.setGen g .finished with heap := h' }) ∨
      (∃ e ob, r = .error (.ref e) ∧ K.In s₁.heap ∧ s₁.heap.get? e = some ob ∧ ob.cls = .ref 48 ∧ s₁.heap.get? a = some oG ∧ E (.ref e) (s₁.setGen g .finished))) :
    wpAny (model PR w) A (pyNext (.ref a)) Q E s := by
  have hig : s.heap.IsGen a g := ⟨_, nm, qn, hg, by rw [hoG], by rw [hoG], by rw [hoG]⟩
  unfold pyNext
  refine wpAny_bind (wpAny_attempt (wpAny_callSpecial?_slot (name := Str.ofString "__next__") hig.typeIs slot_gen_next
    (wpAny_call_entry slot_gen_next hig.typeIs entry_gen_next ?_ (args_gen_next _))))
  refine (?_ : wpAny _ _ (Builtin.Generator.genWake (.ref a) (.send .none)) _ _ s)
  unfold Builtin.Generator.genWake
  refine wpAny_bind (wpAny_holding (wpAny_genNumber hig (wpAny_bind (wpAny_genState hgs ?_))))
  have fin : ∀ x s₁, R N (s.setGen g .running) x s₁ → wpAny (model PR w) A.in1 (match (End.ret x).result with
      | .yielded v => ret v
      | .returned v => do
        if v == .none then raiseNew (← newExc (.type "StopIteration") [])
        rule "generator.return-value"; throw (← newExc (.type "StopIteration") [v])
      | .raised e => Builtin.Generator.genLeft (.ref a) e
      | .running => do rule "generator.already-executing"; raiseError "ValueError" "generator already executing"
      | .justStarted => do rule "generator.send-to-fresh"; raiseError "TypeError" "can't send non-None value to a just-started generator"
      | .finished => do raiseNew (← newExc (.type "StopIteration") []) : Sem Fin)
      (fun _ _ => False)
      (fun e s' => wpAny (model PR w) A (do if ← isInstance e (.type "StopIteration") then pure none else throw e) Q E s') (s₁.setGen g .finished) := by
    intro x s₁ hx
    rcases hR x s₁ hx with ⟨rfl, hq⟩ | ⟨e, ob, rfl, X, he, hc, hG, hq⟩
    · refine (?_ : wpAny _ _ (newExc (.type "StopIteration") [] >>= _) _ _ _)
      refine wpAny_bind ?_
      simp only [newExc, newTuple]
      refine wpAny_bind (wpAny_newObj_type ?_ (by size_fits))
      refine wpAny_bind (m := firstArgMember _ _) (wpAny_of_eq (a := Value.none) (by first | rfl | (simp only [firstArgMember]; rfl)) ?_)
      refine wpAny_newObj_type ?_ (by size_fits)
      simp only [raiseNew]
      refine wpAny_bind (wpAny_bind (wpAny_handled ?_))
      rw [show A.in1.handled = none from hh]
      refine wpAny_throw ?_
      refine wpAny_bind (wpAny_isInstance (T := "StopIteration") (b := true) ⟨_, Heap.get?_push_size _ rfl, rfl⟩ isSubtype_stop ?_)
      exact wpAny_pure (hq _ fun b o hb => Heap.get?_push_of_some _ (Heap.get?_push_of_some _ hb))
    · refine (?_ : wpAny _ _ (Builtin.Generator.genLeft (.ref a) (.ref e)) _ _ _)
      unfold Builtin.Generator.genLeft Builtin.Generator.madeByALambda
      refine wpAny_bind (wpAny_bind (wpAny_load (s := s₁.setGen g .finished) hG (wpAny_pure ?_)))
      refine wpAny_bind (notStop (s := s₁.setGen g .finished) X cyc he hc ?_)
      rw [Bool.and_false, if_neg (by decide)]
      unfold Builtin.Generator.genEscaped
      refine wpAny_bind (notStop (s := s₁.setGen g .finished) X cyc he hc ?_)
      rw [if_pos (by rfl)]
      refine wpAny_throw (wpAny_bind (notStop (s := s₁.setGen g .finished) X cyc he hc ?_))
      rw [if_neg (by decide)]
      exact wpAny_throw hq
  cases gs with
  | running => exact hgo.elim
  | finished => exact hgo.elim
  | _ =>
    refine wpAny_bind (wpAny_roomToWake hl hroom ?_)
    refine (?_ : wpAny _ _ (.resume g (.send .none) [] _) _ _ s)
    refine wpAny_resume hgs hgo (fun x s₁ hx => ?_) (fun v s₁ gs' hv => ?_)
    · refine wpAny_mono (fin x s₁ hx) ?_ ?_
      · exact fun _ _ hr => hr.elim
      · exact fun _ _ hr => hr
    · exact wpAny_pure ⟨v, rfl, wpAny_pure (hY v s₁ gs' hv)⟩
end
end Mine
end

section
open PySem PySem.W PyProof.Rows PySem.Calls PySem.Spec
open Sem (wp)
set_option maxRecDepth 100000
namespace Mine

section
variable {M : Model} {A : Around} {E : Value → Shared → Prop} {s : Shared}
theorem came_held {B : Heap} {l : List Env} {env : Env} {e L : Addr} {cls a0 : Value} (hf : env.frame = some L) (hh : Heap.HeldW B l e cls a0 L s.heap) (q : ∀ h', Heap.HeldW B l e cls a0 L h' → s.heap.UpToSlots h' → E (.ref e) { s with heap := h' }) : cameBackBy M A env E (.ref e) s := by
  obtain ⟨f1, f2, f3, oe, vs, T, oT, ts, he, hcls, hd, h1, hnT, hTe, hT, hdT, h3⟩ := hh
  have hsz : 3 < ts.size := (Array.getElem?_eq_some_iff.mp h3).1
  unfold cameBackBy
  refine wpAny_bind (wpAny_field he hd h1 ?_)
  rw [if_neg (show ¬ ((Value.ref T == Value.none) = true) from Bool.false_ne_true), hf]
  unfold setFlight
  refine wpAny_bind (wpAny_field he hd h1 ?_)
  rw [if_pos (show (Value.ref T != Value.none) = true by simp)]
  refine wpAny_setField hT hdT hsz ?_
  have ne : ∀ b, b ≠ T → (s.heap.update T (Obj.mapFields (·.setIfInBounds 3 ((some L : Option Addr).elim Value.none fun f => rawInt f)))).get? b = s.heap.get? b := fun b hb => Heap.get?_update_other _ _ (Ne.symm hb)
  have nr : ∀ b o, s.heap.get? b = some o → (∀ vs, o.data ≠ .fields vs) → b ≠ T := fun b o hb hn z => by
    rw [z, hT] at hb; cases hb; exact hn ts hdT
  refine q _ ⟨fun b o hb => (ne b fun z => by rw [z, hnT] at hb; cases hb).trans (f1 b o hb), f2, f3.of_keeps fun b o hb hn => ⟨o, (ne b (nr b o hb hn)).trans hb, rfl⟩, ?_⟩ fun b o hb hn => ⟨o.slots, (ne b (nr b o hb hn)).trans hb⟩
  exact ⟨oe, vs, T, _, _, (ne e (Ne.symm hTe)).trans he, hcls, hd, h1, hnT, hTe, Heap.get?_update_self _ hT (Obj.isFreed_of_fields (Obj.data_mapFields hdT _)), Obj.data_mapFields hdT _, by simp [hsz]⟩
end

section
variable {w : World} {A : Around} {E : Value → Shared → Prop} {s s₀ : Shared} {fd : FD} {fx : List (Addr × Obj)} {σ : AS} {K : Frag} {P : Prm} {n : Nat}

theorem Rep.memFx {h : Heap} {p : Addr × Obj} (R : Rep w fd fx σ h) (hp : p ∈ fx) : h.get? p.1 = some p.2 := by
  obtain ⟨g, GT, mf, own, news, F, N, _⟩ := R
  exact (N p (List.mem_append_left _ hp)).1

/-- the loop over a generator: what stands between two turns -/
inductive GIn (A : Around) (w : World) (fd : FD) (fx : List (Addr × Obj)) (n : Nat) (P : Prm) (x : Str) (body : List Stmt) (s₀ : Shared) (gi : Nat) (G : Addr) (oG : Obj) (l : List Env) (lc : List (Str × AV)) (kf kt : AS → Prop) (m : Nat) (s : Shared) : Prop
  | mk (gs : GenState) (σ : AS) (T : List (Addr × Obj)) (C' : AS → Prop) (hgs : s.gens[gi]? = some gs) (gx : GX s₀ s gi) (hG : (G, oG) ∈ T) (hT : ∀ p ∈ T, ∀ v, p.2.data ≠ .cell v) (R : Rep w fd (T ++ fx) σ s.heap) (hc : C' σ)
    (go : ∀ σ2 s2, C' σ2 → Rep w fd (T ++ fx) σ2 s2.heap → GX s₀ s2 gi → GenState.Goes (model PR w) A.in1 (GR w fd fx s₀ gi G oG l lc kf kt) (GY w fd fx n P x body s₀ gi G oG) m gs (.send .none) s2)
/-- the loop over the generator -/
theorem gen_for (I : Snd w K n) (C : Cx w K P fd A (n + 1)) {gi G : Addr} {oG : Obj} {nm qn : Value} {l : List Env} {x : Str} {px : Pos} {body : List Stmt} {lc : List (Str × AV)} {kf kt : AS → Prop} {R' : Result → Shared → Prop} (hnh : P.nh = true) (hst : storable P x = true)
    (hoG : oG = { cls := .type "generator", data := .fields #[.int gi 0, nm, qn] })
    (qn' : ∀ s' σ', Same s₀ s' → Rep w fd fx σ' s'.heap → kf σ' → R' (.ok .next) s')
    (qe : ∀ e a0 Z h1 hp1 S s', Rep w fd (Z ++ fx) ⟨lc, hp1⟩ h1 → (∀ p ∈ Z, ∀ v, p.2.data ≠ .cell v) → Heap.FlyingW (hideAll h1 S) l e (.ref 48) a0 s'.heap → h1.UpToSlots s'.heap → (∀ b ∈ S, b ∈ Z.map (·.1) ∨ b = fd.Lf ∨ b ∈ fd.fs) → Same s₀ s' → kt ⟨lc, hp1⟩ →
      notedBy (model PR w) A fd.env (fun e s' => R' (.error e) s') (.ref e) s') :
    ∀ (N : Nat) (s : Shared), GIn A w fd fx n P x body s₀ gi G oG l lc kf kt N s →
      codeAny (model PR w) A (.forLoop (.Name x px) (.ref G) body [] fd.env) R' s := by
  intro N s h
  have C' := C.le (Nat.le_succ n)
  refine codeAny_forLoop_any (GIn A w fd fx n P x body s₀ gi G oG l lc kf kt) ?_ N h
  rintro m s1 ⟨gs, σ1, T, C1, hgs, gx, hG, hT, R1, hc, go⟩
  have hGo : s1.heap.get? G = some oG := R1.memFx (List.mem_append_left _ hG)
  obtain ⟨p, loose, mg, mb, TT⟩ := C.top
  obtain ⟨g0, GT, kp⟩ := R1.keep
  have dp := C.dp
  refine pyNext_gen (C.nh hnh) ((TT g0 GT).nolimit.keeps kp) (by exact lin [_, _, _] (.lt (.v 0) (.v 1)) 1 (.c 1 (.lt (.a (.a (.v 0) (.m 4 (.a (.v 2) (.n 1)))) (.n 100)) (.v 1)) .e) (Eq.refl true) dp) C.KN.cyc hoG hGo hgs (go σ1 (s1.setGen gi .running) hc R1 (gx.set .running)) (fun v s2 gs' hy => ?_) (fun r s2 hr => ?_)
  · obtain ⟨gx2, V, σ2, T2, C2, hv, hG2, hT2, R2, hB, hk⟩ := hy
    refine (?_ : wpAny _ _ (pure ()) _ _ _)
    refine wpAny_pure ?_
    rw [arm_assign_Name]
    refine wpAny_bind (wpAny_standAt (bind_sound (s := s2.setGen gi gs') (s₀ := s2.setGen gi gs') (k := fun σ3 => (sem n).B P body σ3 fun fl σ => match fl with | .next => C2 σ | _ => False) C' R2 (Same.refl _) hst hv hB fun σ3 s3 hs3 R3 h3 => ?_))
    refine I.B C' R3 hs3 h3 fun fl f σ4 s4 hfl hs4 R4 h4 => ?_
    cases fl with
    | brk => exact h4.elim
    | cont => exact h4.elim
    | ret U => exact h4.elim
    | next =>
    cases hfl
    have gx4 := (gx2.set gs').step hs4
    cases m with
    | zero => exact (hk σ4 s4 h4 R4 gx4).elim
    | succ m' => exact ⟨m', Nat.lt_succ_self _, gs', σ4, T2, C2, hs4.1.1 gi gs' (gx2.get gs'), gx4, hG2, hT2, R4, h4, fun σ5 s5 a b c => hk σ5 s5 a b c⟩
  · obtain ⟨gx2, σ2, R2, hk⟩ | ⟨gx2, e, a0, Z, h1, σ2, S, RZ, hZ, fl, up, hS, hG2, hkt⟩ := hr
    · refine .inl ⟨rfl, fun h' hx => wpAny_execs_nil (qn' _ σ2 ?_ (R2.ext hx) hk)⟩
      exact ((gx2.set .finished).done (gx2.get _) rfl).trans (same_hp _ _ _)
    · obtain ⟨ob, hob, hobc⟩ := fl.there
      refine .inr ⟨e, ob, rfl, repX C' (noted_rep2 C' RZ hZ fl.1 up hS), hob, hobc, hG2, ?_⟩
      exact qe e a0 Z h1 σ2 S _ RZ hZ fl up hS ((gx2.set .finished).done (gx2.get _) rfl) hkt
end
end Mine
end

section
open PySem PySem.W PyProof.Rows PySem.Calls PySem.Spec
open Sem (wp)
set_option maxRecDepth 100000
namespace Mine

section
variable {w : World} {A : Around} {E : Value → Shared → Prop} {s s₀ : Shared} {fd : FD} {fx : List (Addr × Obj)} {σ : AS} {K : Frag} {P : Prm} {n : Nat}

theorem genA_sound (I : Snd w K n) {x y ce : Str} {p1 p2 p3 p4 p5 p6 ap cp : Pos} {body hb : List Stmt} {b : Stmt} {k : Fl → AS → Prop} {Q : Flow → Shared → Prop} (C : Cx w K P fd A (n + 1)) (R : Rep w fd fx σ s.heap) (hs : Same s₀ s)
    (hline : (ap.endLine == cp.line) = true) (h : genA (sem n) P x y ce body (b :: hb) σ k) (q : FQ w fd fx s₀ k Q) :
    wpAny (model PR w) A (exec (.Try [.For (.Name x p1) (.Call (.Attribute (.Name y p2) "static_order" ap) [] [] cp) body [] p3] [.ExceptHandler (some (.Name ce p4)) none (b :: hb) p5] [] [] p6) fd.env) Q E s := by
  have C' := C.le (Nat.le_succ n)
  obtain ⟨⟨hnh, hcm, hst, hce⟩, N, a, d, ll, hy, H, D, hll, F', Fp', hF', hFp', t, g, dn, hgp, pre, te, c, hpp, h⟩ := h
  obtain ⟨F, hF, chk, fo, dV, kV, doc, pm, an, cdv, ct, ho, hd, hcd, hdv⟩ := C.KN.gen
  obtain ⟨Fp, hFp, -⟩ := C.KN.fn (85, some "TopologicalSorter", "prepare") (by decide)
  have hFp : fnAt 85 = some Fp := hFp
  obtain rfl : F = F' := Option.some.inj (hF.symm.trans hF')
  obtain rfl : Fp = Fp' := Option.some.inj (hFp.symm.trans hFp')
  have GF := gFn_of chk
  have X := repX C R
  have hmode : fd.mode = none := by
    have := C.fit.mode
    rw [hcm] at this
    cases q : fd.mode with
    | none => rfl
    | some m => rw [q] at this; cases this
  have hseq : ∃ items, ∀ (M : Model) (A : Around) (E : Value → Shared → Prop) (Q : Option (Array Value) → Shared → Prop), Q items s → wpAny M A (seqItems? dV) Q E s := by
    rcases hdv with rfl | ⟨T, o, xs, m, rfl, hT, hdat⟩
    · exact ⟨none, fun M A E Q hq => wpAny_bind (wpAny_pure (wpAny_pure hq))⟩
    · refine ⟨some xs, fun M A E Q hq => ?_⟩
      unfold seqItems?
      refine wpAny_bind (wpAny_load (X _ _ hT) ?_)
      rw [hdat]; exact wpAny_pure hq
  obtain ⟨items, hseq⟩ := hseq
  obtain ⟨A₀, base, outer, fenv, B, hfs, hA, hf, hke, hfe⟩ := C.fr
  have henv := hfe hmode
  subst henv
  have dp := C.dp
  obtain ⟨pp, loose, mg, mb, TT⟩ := C.top
  obtain ⟨g0, GT, kp⟩ := R.keep
  have hlim := (TT g0 GT).nolimit.keeps kp
  refine wpAny_Try_except (wpAny_execs_cons (wpAny_For ?_ (fun _ => rfl)))
  rw [arm_eval_Call, attrBase (o := .Name y p2) rfl]
  refine wpAny_bind (name_sound C R hy fun v hv => wpAny_bind (wpAny_standAt ?_))
  cases hv
  unfold methodCall
  have e1 : methodCallForm (([] : List Expr).length + ([] : List Keyword).length) (backTo cp (starEach [] fd.env)) (backToKw cp (keywordEach [] fd.env)) = true := by rfl
  rw [e1]
  unfold calleeOf
  rw [if_pos rfl]
  have hfm : methF .inst "static_order" = some (.ref 127) := rfl
  have H' := H
  have D' := D
  rw [C.fit.ro] at H' D'
  refine wpAny_bind (wpAny_holding (getM_sound (t := .inst) R C.ro C.X C.KF (ref_is a) ⟨a, d, ll, rfl, H', D', hll⟩ hfm ?_))
  unfold methodCallPos
  rw [hline]
  refine wpAny_bind (wpAny_pure ?_)
  refine callWithX (I := fun h => K.In h) (method_keeper C hfm) (wpAny_mono (evalArgs_plain (Q := fun vs s' => K.In s'.heap ∧ wpAny (model PR w) A (call (.ref 127) (.ref a :: vs)) _ _ s') (fun x z => by cases z) (Calls.spliced_nil ⟨X, wpAny_call ?_⟩)) (fun a s' hh => ⟨hh.1, hh.2⟩) fun _ _ x => x)
  have hlen : (fnNames F).length = 1 := by rw [GF.nm]; rfl
  refine codeAny_call_generator (body := F.body) (by exact lin [_, _, _] (.lt (.v 0) (.v 1)) 1 (.c 1 (.lt (.a (.a (.v 0) (.m 4 (.a (.v 2) (.n 1)))) (.n 100)) (.v 1)) .e) (Eq.refl true) dp) (X _ _ ho) hd GF.co GF.gen rfl (codeRec_of X hcd) ?_
  have e0 : [Value.ref a] = [Value.ref a] ++ [] := rfl
  rw [e0]
  refine bind_gen (ns := fnNames F) GF.po rfl GF.ko GF.kw (by rw [GF.nm]; decide) (fun Q hq => hseq _ _ _ Q hq) (by rw [hlen]; rfl) (fun _ => rfl) (Nat.zero_le _) ?_
  refine (?_ : match F.params.vararg with | none => _ | some a => _)
  rw [GF.va]
  dsimp only
  have hbinds : (fnNames F).zip [Value.ref a] = [(("self" : Str), Value.ref a)] := by rw [GF.nm]; rfl
  rw [hbinds]
  refine wpAny_newFunctionEnv_cells GF.kd (fun x hx => ?_) fun env' he s' xx => ?_
  · rcases List.mem_singleton.mp hx with rfl
    exact .inl GF.self
  subst he
  have hns := xx.toInCall.ns
  have hk₁ := xx.toInCall.keep
  obtain ⟨h₁, tk, rfl, _⟩ := xx.done
  replace hk₁ : Ext s.heap h₁ := hk₁
  replace hns : h₁.Ns s.heap.objs.size (bindL (envOfC F.qual F.scope s.heap.objs.size 127 cdv).kindOf [(("self" : Str), Value.ref a)] fun _ => none) := hns
  obtain ⟨oL, hoL, hnL⟩ := ns_of hns
  refine ⟨hlim.keeps hk₁, ?_⟩
  have hLlt := Heap.lt_size hoL
  have hgen : (h₁.push (Obj.mk (.type "generator") none (.fields #[.int s.gens.size 0, .str F.name tk, .str F.qual (tk + 1)]) #[])).get? h₁.objs.size = some (Obj.mk (.type "generator") none (.fields #[.int s.gens.size 0, .str F.name tk, .str F.qual (tk + 1)]) #[]) := Heap.get?_push_size _ rfl
  have RG : Rep w fd ((s.heap.objs.size, oL) :: (h₁.objs.size, Obj.mk (.type "generator") none (.fields #[.int s.gens.size 0, .str F.name tk, .str F.qual (tk + 1)]) #[]) :: fx) σ (h₁.push (Obj.mk (.type "generator") none (.fields #[.int s.gens.size 0, .str F.name tk, .str F.qual (tk + 1)]) #[])) :=
    R.fx_add2 (fun b o e => Heap.get?_push_of_some _ (hk₁ b o e)) (none_of_size (Nat.le_refl _)) (none_of_size (Nat.le_of_lt hLlt)) (Nat.ne_of_lt hLlt) (Heap.get?_push_of_some _ hoL) hgen
  have hltL : fd.Lf < s.heap.objs.size := by
    obtain ⟨m, hm⟩ := R.ns
    exact hm.lt
  have hlo : LocOk (envOfC F.qual F.scope s.heap.objs.size 127 cdv) (bindL (envOfC F.qual F.scope s.heap.objs.size 127 cdv).kindOf [(("self" : Str), Value.ref a)] fun _ => none) [("self", .ref a)] := fun z V e => by
    rw [List.lookup_cons] at e
    by_cases hz : z = "self"
    · subst hz
      simp only [beq_self_eq_true] at e
      cases e
      exact ⟨.ref a, rfl, GF.self, bindL_get GF.self (by simp) (.head _)⟩
    · rw [beq_eq_false_iff_ne.mpr hz] at e; cases e
  refine wpAny_pyIter_gen (g := s.gens.size) ⟨_, _, _, hgen, rfl, rfl, rfl⟩ ?_
  refine gen_for (s₀ := s) (l := fd.env :: outer) (oG := Obj.mk (.type "generator") none (.fields #[.int s.gens.size 0, .str F.name tk, .str F.qual (tk + 1)]) #[]) (kf := k .next)
    (lc := σ.loc) (kt := fun σ1 => (sem n).B ⟨P.sc, P.ro, false, P.comp⟩ (b :: hb) σ1 k) I C hnh hst rfl (fun s' σ' hs' R' hk => ?_) (fun e a0 Z h1 hp1 S s' RZ hZ fl up hS hs' hB => ?_) N _
    ⟨.fresh (.func F.body (envOfC F.qual F.scope s.heap.objs.size 127 cdv)), σ, [(s.heap.objs.size, oL), (h₁.objs.size, _)], fun σ' => σ' = σ, ?_, ?_, .tail _ (.head _), fun p hp => ?_, RG, rfl, fun σ2 s2 hc R2 gx2 => ⟨rfl, ?_⟩⟩
  · exact wpAny_execs_nil (wpAny_execs_nil (q .next _ _ _ rfl (hs.trans hs') R' hk))
  · refine wpAny_looks_onW hA hf fl fun h2 held up2 => ?_
    refine came_held (s := { s' with heap := h2 }) hf held fun h3 held3 up3 => ?_
    refine wpAny_noteFrame_againW (s := { s' with heap := h3 }) hf held3.2.2.2 ?_
    refine wpAny_landsW (s := { s' with heap := h3 }) held3 fun h4 fl4 up4 => ?_
    have up14 := up.trans (up2.trans (up3.trans up4))
    have R4 := noted_rep2 C' RZ hZ fl4.1 up14 hS
    have CM := C'.marked (some (.ref e))
    obtain ⟨ob, hob, hobc⟩ := fl4.there
    obtain ⟨nm, q', N', bs, hdct, sn, sub, ab, col, dd, k0, k1', k2', k3', k5', h48, _⟩ := C.KN.cyc
    have hce' : lookNm ⟨P.sc, P.ro, false, P.comp⟩ ⟨σ.loc, hp1⟩ ce = some (.ref 48) := hce
    have h48' := (repX (s := { s' with heap := h4 }) C' R4) _ _ h48
    refine wpAny_handleBy_cons (codeAny_handlers_test (name_sound (s := { s' with heap := h4 }) CM R4 hce' fun v hv => ?_)) (by intro q; cases q)
    cases hv
    refine wpAny_excMatches_sub_self h48' hob hobc (by decide) (codeAny_handlers_suite ?_)
    refine lands_againW fl4 fun h5 fl5 up5 => ?_
    exact I.B (s := { s' with heap := h5 }) CM (noted_rep2 C' RZ hZ fl5.1 (up14.trans up5) hS) (hs.trans (hs'.trans (same_hp s' _ s'.toks))) hB q
  · exact Array.getElem?_push_size
  · refine ⟨Nat.le_refl _, ?_, fun i z e => ?_, fun i z e => ?_, rfl, rfl⟩
    · refine (?_ : s.gens.size < (s.gens.push _).size)
      simp
    · have hi : i < s.gens.size := (Array.getElem?_eq_some_iff.mp e).1
      refine (?_ : (s.gens.push _)[i]? = some z)
      rw [Array.getElem?_push_lt hi]
      rw [← e]; simp [hi]
    · have e : (s.gens.push (GenState.fresh (.func F.body (envOfC F.qual F.scope s.heap.objs.size 127 cdv))))[i]? = some z := e
      rw [Array.getElem?_push] at e
      split at e
      · rename_i hi; exact .inl hi
      · exact .inr (.inl e)
  · rcases List.mem_cons.mp hp with rfl | hp
    · intro v z; obtain ⟨es, ep, hd, _⟩ := hnL; rw [hd] at z; cases z
    · rcases List.mem_singleton.mp hp with rfl
      intro v z; cases z
  · subst hc
    exact gen_first I C GF hA hnh hltL (fun v z => by cases z) hgp hFp hpp H D hll h (Nat.le_refl _) hnL hlo R2 gx2 s2
end
end Mine
end

section
open PySem PySem.W PyProof.Rows PySem.Calls PySem.Spec
open Sem (wp)
set_option maxRecDepth 100000
namespace Mine
section
variable {w : World} {A : Around} {E : Value → Shared → Prop} {s s₀ : Shared} {fd : FD} {fx : List (Addr × Obj)} {σ : AS} {K : Frag} {P : Prm} {n : Nat}

theorem sndS (I : Snd w K n) {st : Stmt} {k : Fl → AS → Prop} {Q : Flow → Shared → Prop} (C : Cx w K P fd A (n + 1)) (R : Rep w fd fx σ s.heap) (hs : Same s₀ s) (h : stepS (sem n) P st σ k) (q : FQ w fd fx s₀ k Q) :
    wpAny (model PR w) A (exec st fd.env) Q E s := by
  have C' := C.le (Nat.le_succ n)
  have qn : UQ w fd fx s₀ (fun σ => k .next σ) fun _ => Q .next := fun σ s hs R h => q .next _ _ _ rfl hs R h
  cases st <;> try (exact False.elim h)
  case Expr e p =>
    obtain ⟨hc, h⟩ := Off.get h
    exact wpAny_Expr_any (I.E C' R hs h fun V v σ1 s1 hv hs1 R1 h1 => q .next _ _ _ rfl hs1 R1 h1) (notInteractive C) (swapsNone _ _ _ hc)
  case Assign ts e p =>
    cases ts with
    | nil => exact False.elim h
    | cons t ts => cases ts with
      | nil =>
        obtain ⟨ht, h⟩ := On.get h
        exact assign1_sound I C R hs h ht qn
      | cons t' ts => cases ts with
        | cons _ _ => exact False.elim h
        | nil =>
          obtain ⟨ht, h⟩ := On.get h
          obtain ⟨t1, t2⟩ := Bool.and_eq_true_iff.mp ht
          exact assign2_sound I C R hs h t1 t2 qn
  case AugAssign t op e p => exact aug_sound I C R hs h qn
  case If t b o p =>
    refine wpAny_If (I.T C' R hs h fun b σ1 s1 hs1 R1 h1 => ?_)
    cases b with
    | true => rw [if_pos rfl]; exact I.B C' R1 hs1 (h1.1 rfl) q
    | false => rw [if_neg (by decide)]; exact I.B C' R1 hs1 (h1.2 rfl) q
  case While t b o p => exact while_sound I C R hs h q
  case For t it b o p =>
    cases o with
    | cons _ _ => exact False.elim h
    | nil =>
    have h : match P.nh && tgtOk it t with
      | true => iterA (sem n) P it σ fun items keep σ => match targetNames t with
        | some ts => forA (sem n) P ts items keep b σ k
        | none => False
      | false => False := h
    cases hb : P.nh && tgtOk it t with
    | false => rw [hb] at h; exact False.elim h
    | true =>
      rw [hb] at h
      obtain ⟨hnh, ht⟩ := Bool.and_eq_true_iff.mp hb
      obtain ⟨ts, hts⟩ := tgt_names ht
      rw [hts] at h
      exact for_sound I C R hs (C.nh hnh) h ht hts q
  case Return r p =>
    cases r with
    | none => exact False.elim h
    | some e => exact wpAny_Return_some (I.E C' R hs h fun V v σ1 s1 hv hs1 R1 h1 => q (.ret V) _ _ _ ⟨v, rfl, hv⟩ hs1 R1 h1)
  case Break p => exact wpAny_Break (q .brk _ _ _ rfl hs R h)
  case Continue p => rw [arm_exec_Continue]; exact wpAny_bind (wpAny_standAt (wpAny_pure (q .cont _ _ _ rfl hs R h)))
  case Try =>
    rcases (h : TryA _ _ _ _ _) with ⟨_, _, _, _, _, _, _, _, _, _, _, _, _, _, _, _, _, e, h⟩ | ⟨_, _, _, _, _, _, _, _, _, _, _, _, _, _, e, hl, h⟩
    · rw [e]; exact nextA_sound I C R hs h q
    · rw [e]; exact genA_sound I C R hs hl h q
  case Delete ts p =>
    cases ts with
    | nil => exact False.elim h
    | cons t ts => cases ts with
    | cons _ _ => exact False.elim h
    | nil =>
    cases t <;> try (exact False.elim h)
    obtain ⟨_, h⟩ := On.get h
    refine wpAny_Delete ?_
    rw [arm_deleteEach_cons, arm_delete_Subscript]
    refine wpAny_bind (wpAny_bind (I.E C' R hs h fun V v σ1 s1 hv hs1 R1 h1 => wpAny_bind (wpAny_holding (I.E C' R1 hs1 h1 fun V2 v2 σ2 s2 hv2 hs2 R2 h2 => wpAny_bind (wpAny_standAt (wpAny_bind (wpAny_holding ?_)))))))
    exact delA_sound R2 hv hv2 h2 fun σ3 s3 hs3 R3 h3 => wpAny_release (wpAny_pure (q .next _ _ _ rfl (hs2.trans hs3) R3 h3))
end
end Mine
end

section
open PySem PySem.W PyProof.Rows PySem.Calls PySem.Spec
open Sem (wp)
set_option maxRecDepth 100000
namespace Mine
theorem snd_all (w : World) (K : Frag) : ∀ n, Snd w K n
  | 0 => ⟨fun _ _ _ h => h.elim, fun _ _ _ h => h.elim, fun _ _ _ h => h.elim, fun _ _ _ h => h.elim, fun _ _ _ h => h.elim, fun _ _ _ h => h.elim, fun _ _ _ h => h.elim, fun _ _ _ h => h.elim, fun _ _ _ h => h.elim, fun _ _ _ _ h => h.elim⟩
  | n + 1 =>
    have I := snd_all w K n
    have CI := csnd I
    ⟨fun C R hs h q => sndE I CI C R hs h q, fun C R hs h he hf q => sndU CI C R hs h he hf q, fun C R hs h q => sndQ I C R hs h q, fun C R hs h q => sndT I C R hs h q, fun C R hs h q => sndTT I C R hs h q, fun C R hs h q => sndA I C R hs h q,
      fun C R hs h q => sndG I C R hs h q, fun C R hs h q => sndS I C R hs h q, fun C R hs h q => sndB I C R hs h q, fun C R hs hv h q => sndC I C R hs hv h q⟩
end Mine
end

section
open PySem PySem.W PyProof.Rows PySem.Calls PySem.Spec
set_option maxRecDepth 100000
namespace Mine
set_option maxHeartbeats 4000000
theorem mem_nil' {α : Type} {P : α → Prop} : ∀ x ∈ ([] : List α), P x := fun _ h => nomatch h
theorem kfacts (p : PySem.Params) : KFacts (KK p) := by
  refine ⟨rfl, rfl, ?_, rfl, rfl, ?_, ?_, rfl, rfl, rfl, rfl, ?_⟩
  · unfold fields4; simp only [List.forall_mem_cons]; exact ⟨rfl, rfl, rfl, rfl, mem_nil'⟩
  · unfold fields4; simp only [List.forall_mem_cons]; exact ⟨rfl, rfl, rfl, rfl, mem_nil'⟩
  · unfold meths; simp only [List.forall_mem_cons]; exact ⟨⟨rfl, rfl⟩, ⟨rfl, rfl⟩, ⟨rfl, rfl⟩, ⟨rfl, rfl⟩, ⟨rfl, rfl⟩, ⟨rfl, rfl⟩, ⟨rfl, rfl⟩, ⟨rfl, rfl⟩, mem_nil'⟩
  · unfold slots3; simp only [List.forall_mem_cons]; exact ⟨⟨rfl, rfl, rfl, rfl, rfl, rfl⟩, ⟨rfl, rfl, rfl, rfl, rfl, rfl⟩, ⟨rfl, rfl, rfl, rfl, rfl, rfl⟩, mem_nil'⟩
end Mine
end

section
open PySem PySem.W PyProof.Rows PySem.Calls PySem.Spec
set_option maxRecDepth 100000
set_option maxHeartbeats 8000000
namespace Mine
theorem strKeys_chk {es : Array DictEntry} (h : (es.toList.all fun e => match e.key with | .str _ _ => true | _ => false) = true) : StrKeys es := fun e he => by
  have := List.all_eq_true.mp h e (Array.mem_toList_iff.mpr he)
  split at this
  · rename_i n t hk; exact ⟨n, t, hk⟩
  · cases this
noncomputable def fnD (f : Addr) : Fn := (fnAt f).getD ⟨"", "", default, [], default⟩
theorem fn_in {K : Frag} {f : Addr} (F : Fn) (h1 : fnAt f = some F) (h2 : fnChk F = true) {fo : Obj} {dV kV doc pm : Value} {an : Option Addr} {cdv ct : Value} (h3 : K.lookup f = some fo) (h4 : fo.data = .func (fnX F.name F.qual F.params F.body F.scope [] dV kV doc pm an cdv ct)) (h5 : codeIn K cdv F.qual = true)
    (h6 : dV = .none ∨ ∃ T o xs n, dV = .ref T ∧ K.lookup T = some o ∧ o.data = .seq xs n) : FnIn K f := ⟨F, h1, h2, fo, dV, kV, doc, pm, an, cdv, ct, h3, h4, h5, h6⟩
theorem kfns (p : PySem.Params) : KFns (KK p) := by
  refine ⟨?_, ?_, ?_, ?_, ⟨rfl, rfl, rfl⟩, ⟨rfl, rfl, rfl⟩⟩
  · refine ⟨_, rfl, by decide +kernel, _, _, _, _, _, _, _, _, rfl, rfl, rfl, ?_⟩; first | exact .inl rfl | exact .inr ⟨_, _, _, _, rfl, rfl, rfl⟩
  · exact ⟨_, _, _, _, _, _, _, _, _, _, _, _, _, _, _, rfl, _, _, _, rfl, rfl, strKeys_chk rfl, rfl⟩
  · unfold globs; simp only [List.forall_mem_cons]
    refine ⟨?_, ?_, ?_, ?_, ?_, ?_, ?_, ?_, ?_, ?_, ?_, ?_, ?_, ?_, ?_, ?_, ?_, ?_, ?_, ?_, ?_, ?_, mem_nil'⟩ <;> first | exact .inl rfl | exact .inr ⟨rfl, rfl, by decide⟩
  · unfold ft; simp only [List.forall_mem_cons]
    exact ⟨fn_in (fnD 29) rfl (by decide +kernel) rfl rfl rfl (.inl rfl), fn_in (fnD 66) rfl (by decide +kernel) rfl rfl rfl (.inr ⟨_, _, _, _, rfl, rfl, rfl⟩), fn_in (fnD 73) rfl (by decide +kernel) rfl rfl rfl (.inl rfl), fn_in (fnD 80) rfl (by decide +kernel) rfl rfl rfl (.inl rfl), fn_in (fnD 85) rfl (by decide +kernel) rfl rfl rfl (.inl rfl), fn_in (fnD 92) rfl (by decide +kernel) rfl rfl rfl (.inl rfl), fn_in (fnD 99) rfl (by decide +kernel) rfl rfl rfl (.inl rfl), fn_in (fnD 113) rfl (by decide +kernel) rfl rfl rfl (.inl rfl), fn_in (fnD 120) rfl (by decide +kernel) rfl rfl rfl (.inl rfl), fn_in (fnD 144) rfl (by decide +kernel) rfl rfl rfl (.inl rfl), fn_in (fnD 151) rfl (by decide +kernel) rfl rfl rfl (.inl rfl), fn_in (fnD 156) rfl (by decide +kernel) rfl rfl rfl (.inl rfl), fn_in (fnD 163) rfl (by decide +kernel) rfl rfl rfl (.inl rfl), fn_in (fnD 168) rfl (by decide +kernel) rfl rfl rfl (.inl rfl), fn_in (fnD 173) rfl (by decide +kernel) rfl rfl rfl (.inl rfl), mem_nil'⟩
theorem kms (p : PySem.Params) : KMs (KK p) := by
  refine ⟨?_, rfl, ?_⟩
  · unfold ft; simp only [List.map, List.forall_mem_cons]
    exact ⟨rfl, rfl, rfl, rfl, rfl, rfl, rfl, rfl, rfl, rfl, rfl, rfl, rfl, rfl, rfl, rfl, rfl, mem_nil'⟩
  · unfold meths; simp only [List.forall_mem_cons]
    exact ⟨⟨rfl, rfl, rfl, rfl⟩, ⟨rfl, rfl, rfl, rfl⟩, ⟨rfl, rfl, rfl, rfl⟩, ⟨rfl, rfl, rfl, rfl⟩, ⟨rfl, rfl, rfl, rfl⟩, ⟨rfl, rfl, rfl, rfl⟩, ⟨rfl, rfl, rfl, rfl⟩, ⟨rfl, rfl, rfl, rfl⟩, mem_nil'⟩
end Mine
end

section
open PySem PySem.W PyProof.Rows PySem.Calls PySem.Spec
open Sem (wp)
set_option maxRecDepth 100000
namespace Mine

theorem post_true (args : List WData) : PySem.Challenge.rw_pm0074_01.row.claim.post args (.bool true) args = true := by
  refine (?_ : (WShape.has [] (WData.bool true) WShape.bool && WTm.holds [] (WTm.eq .res (.lit (.bool true))) { args := args, res := some (.bool true), after := args }) = true)
  rw [Bool.and_eq_true]
  refine ⟨by simp [WShape.has, WShape.arms], ?_⟩
  unfold WTm.holds
  rw [w_eq_bool (k := true) (l := true) (by simp [WTm.value]) (by simp [WTm.value])]
  rfl
theorem good_true {s₀ s₁ s' : Shared} {L : List Int} (hk : ∀ b o, s₁.heap.get? b = some o → s'.heap.get? b = some o) (hos : s'.os = s₁.os) (hg : AllBare s'.gens) :
    GoodWG PySem.Challenge.rw_pm0074_01.row.claim (classAt s₀.heap) (ExcName.means s₀.heap) [ofPy (PyData.list (L.map PyData.int))] s₁ (.ok (.ret (.bool true))) s' :=
  ⟨.inl ⟨.bool true, .bool true, [], rfl, fun _ => rfl, .bool true, post_true _, fun _ => ⟨.nil, fun _ h => nomatch h⟩⟩, .of_keep hk, hos, hg⟩


theorem law_chk : ∃ F, fnAt 173 = some F ∧ fnNames F = [("script" : Str)] ∧ F.scope.kind = .function ∧ (F.scope.names.map (·.1)).Nodup ∧ F.scope.names.lookup ("script" : Str) = some .local ∧ (F.scope.names.all fun p => p.1 != ("__debug__" : Str) && p.1 != ("__classdict__" : Str)) = true := by
  refine ⟨_, rfl, ?_, ?_, ?_, ?_, ?_⟩ <;> decide +kernel

section
variable {w : World} {K : Frag} {E : Value → Shared → Prop} {s₁ : Shared}

theorem law_run {F : Fn} {a cdF : Addr} {cd : Value} {h₁ : Heap} {tk : Nat} {cells : List (Addr × Obj)} {p : Program} {loose : List Str} {mean : ExcName → Option Value} {mg mb : Str → Option Value} {ro : List (Addr × AO)} {N : Nat} {Q : Flow → Shared → Prop}
    (hF : fnAt 173 = some F) (X : K.In s₁.heap) (KF : KFacts K) (KN : KFns K) (KM : KMs K) (T : Top p loose mean mg mb s₁.heap) (hg : s₁.gens = #[])
    (Fr1 : Fr s₁.heap s₁.heap.objs.size h₁ (bindL (envOfC F.qual F.scope s₁.heap.objs.size cdF cd).kindOf [(("script" : Str), Value.ref a)] fun _ => none)) (N1 : News s₁.heap s₁.heap.objs.size h₁ cells)
    (Y : CellsAre (bindC (envOfC F.qual F.scope s₁.heap.objs.size cdF cd).kindOf [(("script" : Str), Value.ref a)] fun _ => none) (cellsFrom (s₁.heap.objs.size + 1) F.scope.names []) cells)
    (ro_ok : ∀ p ∈ ro, p.1 ≠ sysModules ∧ ∃ o, s₁.heap.get? p.1 = some o ∧ p.2.is w o) (hz : sysModules < s₁.heap.objs.size)
    (un : callerA.units + 3 + 32 * N + 200 < cLine) (dp : callerA.depth + 1 + 4 * N + 100 < recursionLimit)
    (h : (sem N).B ⟨F.scope, ro, true, false⟩ F.body ⟨[("script", .ref a)], []⟩ fun fl _ => match fl with | .ret (.bool true) => True | _ => False)
    (q : ∀ s', (∀ b o, s₁.heap.get? b = some o → s'.heap.get? b = some o) → s'.os = s₁.os → AllBare s'.gens → Q (.ret (.bool true)) s') :
    wpAny (model PR w) (callerA.deeper (envOfC F.qual F.scope s₁.heap.objs.size cdF cd)) (execs F.body (envOfC F.qual F.scope s₁.heap.objs.size cdF cd)) Q E { s₁ with heap := h₁, toks := tk } := by
  obtain ⟨F', hF', c1, c2, c3, c4, c5⟩ := law_chk
  rw [hF] at hF'; cases hF'
  have gr : ∀ g, KtsTurn [] s₁.heap g → ∀ b o, s₁.heap.get? b = some o → g.get? b = some o := fun g G b o e => G.other b o e (fun h => nomatch h)
  have C : Cx w K ⟨F.scope, ro, true, false⟩ ⟨s₁.heap, s₁.heap.objs.size, envOfC F.qual F.scope s₁.heap.objs.size cdF cd, none, ro, []⟩ (callerA.deeper (envOfC F.qual F.scope s₁.heap.objs.size cdF cd)) N := by
    refine ⟨⟨rfl, rfl, c2, rfl, rfl, rfl, fun x hx => cellsFrom_some _ _ _ (hx.elim .inl fun z => by cases z.1), c5⟩, fun g G => X.keeps (gr g G), KF, KN, KM, fun p hp => ?_, ⟨_, _, mg, mb, fun g G => topRead_of (T.keeps (gr g G))⟩, un, dp, fun _ => rfl,
      callerA, s₁.heap, [], envOfC F.qual F.scope s₁.heap.objs.size cdF cd, fun g G => ⟨rfl, gr g G, trivial⟩, rfl, rfl, rfl, c2, fun _ => rfl⟩
    obtain ⟨b1, o, b2, b3⟩ := ro_ok p hp
    exact ⟨b1, o, fun g G => gr g G _ _ b2, b3⟩
  obtain ⟨cd1, cd2⟩ := cellsFrom_addr F.scope.names (s₁.heap.objs.size + 1) [] (fun _ h => nomatch h) .nil
  have hmap := cells_map Y
  have R : Rep w ⟨s₁.heap, s₁.heap.objs.size, envOfC F.qual F.scope s₁.heap.objs.size cdF cd, none, ro, []⟩ [] ⟨[("script", .ref a)], []⟩ h₁ := by
    refine ⟨s₁.heap, .refl, _, cells, [], Fr1, fun p hp => N1 p (by simpa using hp), ?_, .nil, ⟨⟨rfl, fun x c e => ?_, ?_⟩, fun x V e => ?_⟩, hz⟩
    · simp only [List.nil_append, List.append_nil]
      rw [hmap]; exact cd1
    · obtain ⟨o, h1, h2⟩ := cells_look Y e
      exact ⟨o, _, h1, h2⟩
    · exact List.pairwise_map.mp cd1
    · rw [List.lookup_cons] at e
      by_cases hx : x = "script"
      · subst hx
        simp only [beq_self_eq_true] at e
        cases e
        exact ⟨.ref a, rfl, .inl ⟨c4, .inl ⟨rfl, bindL_get c4 (by simp) (.head _)⟩⟩⟩
      · rw [beq_eq_false_iff_ne.mpr hx] at e; cases e
  refine (snd_all w K N).B (s := { s₁ with heap := h₁, toks := tk }) (s₀ := s₁) C R (same_hp s₁ _ _) h fun fl f σ s' hf hs R' h' => ?_
  obtain ⟨g, G, kp⟩ := R'.keep
  split at h'
  · obtain ⟨v, rfl, hv⟩ := hf
    cases hv
    refine q s' (fun b o e => kp b o (gr g G b o e)) hs.2.2 fun y hy => ?_
    obtain ⟨i, hi, he⟩ := Array.getElem_of_mem hy
    rcases hs.1.2 i y (by rw [Array.getElem?_eq_getElem hi, he]) with z | z
    · rw [hg] at z; simp at z
    · exact z
  · exact h'.elim
end
end Mine
end

section
open PySem PySem.W PyProof.Rows PySem.Calls PySem.Spec
set_option maxRecDepth 100000
set_option maxHeartbeats 4000000
namespace Mine
noncomputable def lawF : Fn := match fnAt 173 with
  | some F => F
  | none => ⟨"", "", default, [], default⟩
theorem lst_of {P : PySem.Params} {h : Heap} {a : Addr} {d : WData} {xs : List WData} (x : Well P h (.ref a) d) (e : d = .list xs) : ∃ vs : List Value, h.get? a = some { cls := .type "list", data := .seq vs.toArray } := by
  cases x <;> first | exact ⟨_, ‹_›⟩ | cases e
theorem reads_mem {h : Heap} {a : Addr} {xs : List PyData} {as : List Addr} (r : Reads h (.ref a) (.list xs) as) : a ∈ as := by
  cases r; exact .head _
theorem ints_paired {vs : List Value} {L : List Int} (h : IntsAre vs L) : Paired AV.is (L.map AV.int) vs := by
  induction h with
  | nil => exact .nil
  | cons n t _ ih => exact .cons ⟨t, rfl⟩ ih
theorem law_holds (roT : List (Addr × AO)) (hT : ∀ w s, (KK (World.params w)).In (Shared.heap s) → ∀ p ∈ roT, p.1 ≠ sysModules ∧ ∃ o, s.heap.get? p.1 = some o ∧ p.2.is w o)
    (lawSem : ∀ (a : Addr) (L : List Int), L.length ≤ 63 → (sem 140).B ⟨lawF.scope, (a, .list (L.map .int)) :: roT, true, false⟩ lawF.body ⟨[("script", .ref a)], []⟩ fun fl _ => match fl with | .ret (.bool true) => True | _ => False) :
    PySem.Challenge.rw_pm0074_01.Holds := holds_law (by rw [PySem.W.Fast.te9446332074065402090]; kernel_rfl) fun said => by
  refine holds_open (q := hq) (loose := hl) (Xt := fun s => xlAt hq [] s && recOk (RowW.records hr.toRowW) s) (XP := XL hq []) (Yf := Hook.obs hk) (Ya := Hook.val hk) (YP := Hook.says hk) (N := 6000) left0 (Hook.of hk) (Hook.keeps hk) (fun s e => xl_of s (Bool.and_eq_true_iff.mp e).1) XL.keeps (by rfl) (by rfl) (by rfl) (fun s e => recFacts_of (Bool.and_eq_true_iff.mp e).2) rfl said (by decide +kernel) ⟨rfl, rfl, rfl, rfl, rfl, by decide +kernel⟩ ?hw ?hc
  case hw => w_witness2
  intro w s₀ s₁ mg mb G Y fa o pm cd doc dV kV ho hd hcd hD hmg hg args vals as hpre hlay hrd hwl hlo
  have KX := kIn_of Y
  have X := (Ground.X G).1
  have V := (Ground.X G).2
  refine Ground.open G ?_
  intro T B D TE TW
  try (refine guard_noD D (by decide +kernel) ?_; clear D)
  obtain ⟨_, _, M⟩ := bmod_of_top T
  have TA := at_of_top T
  try (obtain ⟨_, _, he, B0⟩ := based_of_top T rfl hmg ho hd; have he' : cd = _ := he; subst he'; clear he)
  clear hmg
  have hlo2 := hlo
  wrow_args hpre hlay hrd hwl hlo
  all_goals (
    first | refine callC_kw (enter_call ?_) | refine enter_call ?_ | refine callC_kw (enter_callW ?_) | refine enter_callW ?_ | w_how
    w_top on
    have K0 := below_caller (Top.heap T)
    w_call any ho hd hcd hD T F
    clear hd TA
    k_drop)
  rename_i L _ _ _ _ _ _ _ a vs _ hL ra w1 r0 hI hr hc1 hc2 h₁ tk₁ _ _ _ _ _ _ _ _ _ _ N0 X0
  have hlen : L.length ≤ 63 := by omega
  obtain ⟨vs', hobj⟩ := lst_of w1 (xs := ofPys (L.map PyData.int)) (by simp only [ofPy])
  have e1 : vs' = vs := by
    obtain ⟨o', ho', hc', n', hd'⟩ := hL
    rw [hobj] at ho'; cases ho'
    have : vs'.toArray = vs.toArray := by cases hd'; rfl
    simpa using this
  subst e1
  refine wpAny_mono (law_run (F := lawF) (N := 140) (ro := (a, .list (L.map .int)) :: roT) rfl KX (kfacts _) (kfns _) (kms _) T hg F N0 X0 ?_ ?_ (by decide) (by decide) (lawSem a L hlen) (fun s' hk hos hb => good_true hk hos hb)) (fun fl s' h => h) (fun _ _ h => h)
  · intro p hp
    rcases List.mem_cons.mp hp with rfl | hp
    · exact ⟨beq_eq_false_iff_ne.mp (hlo2 a (List.mem_append_left _ (reads_mem r0))), _, hobj, vs', 0, rfl, ints_paired hI⟩
    · exact hT w s₁ KX p hp
  · exact modules_low T.nolimit
end Mine
end

section
open PySem PySem.W PyProof.Rows PySem.Calls PySem.Spec
set_option maxRecDepth 100000
set_option maxHeartbeats 1000000
namespace Mine

theorem iseof_sem (n : Nat) (P : Prm) (i : Int) (hp : List (Addr × AO)) (k : AV → List (Addr × AO) → Prop) (h : k (.bool (decide (i = 0))) hp) : (sem (n + 10)).C P 144 [.int i] hp k := by
  exact h

/-- what `_law_rest` gives -/
noncomputable def comPre : List Nat → List Nat → Nat
  | a :: x, b :: y => if a = b then comPre x y + 1 else 0
  | _, _ => 0
theorem comPre_le : ∀ (x y : List Nat), comPre x y ≤ x.length ∧ comPre x y ≤ y.length
  | [], _ => ⟨Nat.zero_le _, Nat.zero_le _⟩
  | _ :: _, [] => ⟨Nat.zero_le _, Nat.zero_le _⟩
  | a :: x, b :: y => by
    unfold comPre
    split
    · obtain ⟨h1, h2⟩ := comPre_le x y
      exact ⟨Nat.succ_le_succ h1, Nat.succ_le_succ h2⟩
    · exact ⟨Nat.zero_le _, Nat.zero_le _⟩
theorem comPre_next : ∀ (x y : List Nat) (k : Nat), k ≤ comPre x y → k < x.length → k < y.length → (x[k]? = y[k]? ↔ k < comPre x y)
  | [], _, k, _, h, _ => by simp at h
  | _ :: _, [], k, _, _, h => by simp at h
  | a :: x, b :: y, k, h, h1, h2 => by
    unfold comPre at h ⊢
    split at h
    · rename_i e; subst e
      rw [if_pos rfl]
      cases k with
      | zero => simp
      | succ k =>
        have := comPre_next x y k (by exact lin [_, _] (.le (.v 0) (.v 1)) 1 (.c 1 (.le (.a (.v 0) (.n 1)) (.a (.v 1) (.n 1))) .e) (Eq.refl true) h) (by simpa using h1) (by simpa using h2)
        simp only [List.getElem?_cons_succ]
        rw [this]; omega
    · rename_i e
      have : k = 0 := by exact Nat.le_antisymm (lin [_] (.le (.v 0) (.n 0)) 1 (.c 1 (.le (.v 0) (.n 0)) .e) (Eq.refl true) h) (lin [_] (.le (.n 0) (.v 0)) 1 .e (Eq.refl true))
      subst this
      rw [if_neg e]
      simp [e]
theorem comPre_stop : ∀ (x y : List Nat), comPre x y < x.length → comPre x y < y.length → x[comPre x y]? ≠ y[comPre x y]?
  | [], _, h, _ => by simp at h
  | _ :: _, [], _, h => by simp at h
  | a :: x, b :: y, h, h2 => fun e => by
    have := (comPre_next (a :: x) (b :: y) _ (Nat.le_refl _) h h2).mp e
    exact Nat.lt_irrefl _ this

noncomputable def restL (x y : Str) : List Str :=
  let c := comPre x.cps.toList y.cps.toList
  if c < x.length ∧ c < y.length then [] else [sdrop x c ++ sdrop y c]

noncomputable def restS (x y : Str) (kk : Nat) (hp : List (Addr × AO)) : AS := ⟨[("tail", .str x), ("word", .str y), ("k", .int kk)], hp⟩
theorem len_toList (x : Str) : x.cps.toList.length = x.length := by simp [Str.length]
noncomputable def bodyOf (f : Addr) : List Stmt := match fnAt f with
  | some F => F.body
  | none => []
noncomputable def scOf (f : Addr) : Scope := match fnAt f with
  | some F => F.scope
  | none => ⟨.function, [], false, false, []⟩
/-- a state with these locals and a heap that is so -/
inductive At (l : List (Str × AV)) (J : List (Addr × AO) → Prop) : AS → Prop
  | mk {hp} (h : J hp) : At l J ⟨l, hp⟩
theorem at1 {l : List (Str × AV)} {J : List (Addr × AO) → Prop} {P : AS → Prop} (f : ∀ hp, J hp → P ⟨l, hp⟩) : ∀ σ, At l J σ → P σ := fun _ ⟨h⟩ => f _ h
theorem at2 {l : List (Str × AV)} {J : List (Addr × AO) → Prop} {H : Prop} {P : AS → Prop} (f : ∀ hp, H → J hp → P ⟨l, hp⟩) : ∀ σ, H → At l J σ → P σ := fun _ hi ⟨h⟩ => f _ hi h
theorem lm {α β : Type} {f : α → β} {l : List α} {k : Nat} (h : l.length ≤ k) (h2 : Nat.ble k lim = true) : (l.map f).length ≤ lim := by rw [List.length_map]; exact Nat.le_trans h (Nat.le_of_ble_eq_true h2)
theorem lm2 {α β γ : Type} {f : α → β} {g : β → γ} {l : List α} {k : Nat} (h : l.length ≤ k) (h2 : Nat.ble k lim = true) : ((l.map f).map g).length ≤ lim := by rw [List.length_map]; exact lm h h2
theorem lm0 {α : Type} {l : List α} {k : Nat} (h : l.length ≤ k) (h2 : Nat.ble k lim = true) : l.length ≤ lim := Nat.le_trans h (Nat.le_of_ble_eq_true h2)
theorem Bnil {n : Nat} {P : Prm} {σ : AS} {k : Fl → AS → Prop} (h : k .next σ) : (sem (n + 1)).B P [] σ k := h
theorem pull {N c : Nat} (h : c ≤ N) : ∃ n, N = n + c := ⟨N - c, by exact Nat.le_antisymm (lin [_, _, _] (.le (.v 0) (.a (.v 1) (.v 2))) 1 (.c 1 (.qe (.a (.v 1) (.v 2)) (.v 0)) .e) (Eq.refl true) (Nat.sub_add_cancel (lin [_, _] (.le (.v 0) (.v 1)) 1 (.c 1 (.le (.v 0) (.v 1)) .e) (Eq.refl true) h))) (lin [_, _, _] (.le (.a (.v 0) (.v 1)) (.v 2)) 1 (.c 1 (.eq (.a (.v 0) (.v 1)) (.v 2)) .e) (Eq.refl true) (Nat.sub_add_cancel (lin [_, _] (.le (.v 0) (.v 1)) 1 (.c 1 (.le (.v 0) (.v 1)) .e) (Eq.refl true) h)))⟩

theorem rest_last {N : Nat} (hN : 20 ≤ N) {P : Prm} {x y : Str} (hx : x.length ≤ lim) (hy : y.length ≤ lim) (hxy : x.length + y.length ≤ lim) {hp : List (Addr × AO)} {k : Fl → AS → Prop}
    (hne : ¬ (comPre x.cps.toList y.cps.toList < x.length ∧ comPre x.cps.toList y.cps.toList < y.length))
    (h0 : ∀ r σ, σ.hp = (r, .list ((restL x y).map .str)) :: hp → k (.ret (.ref r)) σ) :
    (sem N).B ⟨scOf 163, P.ro, P.nh, false⟩ ((bodyOf 163).drop 3) (restS x y (comPre x.cps.toList y.cps.toList) hp) k := by
  obtain ⟨n, rfl⟩ := pull hN
  obtain ⟨c1, c2⟩ := comPre_le x.cps.toList y.cps.toList
  rw [len_toList] at c1 c2
  have l1 : (sdrop x (comPre x.cps.toList y.cps.toList)).length ≤ x.length := by simp [sdrop, Str.length]
  have l2 : (sdrop y (comPre x.cps.toList y.cps.toList)).length ≤ y.length := by simp [sdrop, Str.length]
  refine ⟨_, rfl, c1, hx, ?_⟩
  refine ⟨_, rfl, c2, hy, ?_⟩
  refine ⟨by exact lin [_, _, _, _, _] (.le (.a (.v 0) (.v 1)) (.v 2)) 1 (.c 1 (.le (.a (.v 3) (.v 4)) (.v 2)) (.c 1 (.le (.v 0) (.v 3)) (.c 1 (.le (.v 1) (.v 4)) .e))) (Eq.refl true) hxy l1 l2, ?_⟩
  refine ⟨(by decide : 1 ≤ lim), fun r => ?_⟩
  refine h0 r _ ?_
  unfold restL
  rw [if_neg hne]
  rfl

theorem rest_tail {N : Nat} (hN : 25 ≤ N) {P : Prm} {x y : Str} (hx : x.length ≤ lim) (hy : y.length ≤ lim) (hxy : x.length + y.length ≤ lim) {hp : List (Addr × AO)} {k : Fl → AS → Prop}
    (h0 : ∀ r σ, σ.hp = (r, .list ((restL x y).map .str)) :: hp → k (.ret (.ref r)) σ) :
    (sem N).B ⟨scOf 163, P.ro, P.nh, false⟩ ((bodyOf 163).drop 2) (restS x y (comPre x.cps.toList y.cps.toList) hp) k := by
  obtain ⟨n, rfl⟩ := pull hN
  obtain ⟨c1, c2⟩ := comPre_le x.cps.toList y.cps.toList
  rw [len_toList] at c1 c2
  refine ⟨hx, ?_⟩
  refine ⟨fun hb => ?_, fun hb => ?_⟩
  · have hb : comPre x.cps.toList y.cps.toList < x.length := by have := of_decide_eq_true hb; omega
    refine ⟨hy, ?_⟩
    refine ⟨fun hb2 => ?_, fun hb2 => ?_⟩
    · have hb2 : comPre x.cps.toList y.cps.toList < y.length := by have := of_decide_eq_true hb2; omega
      refine ⟨fun _ => ?_, fun hf => nomatch hf⟩
      refine ⟨Nat.zero_le _, fun r => ?_⟩
      refine h0 r _ ?_
      unfold restL
      rw [if_pos (And.intro hb hb2)]
      rfl
    · conv => whnf
      refine ⟨fun hf => (nomatch hf), fun _ => ?_⟩
      exact Bnil (rest_last (by exact lin [_] (.le (.n 20) (.a (.v 0) (.n 24))) 1 .e (Eq.refl true)) hx hy hxy (fun z => by have := of_decide_eq_false hb2; omega) h0)
  · conv => whnf
    refine ⟨fun hf => (nomatch hf), fun _ => ?_⟩
    exact Bnil (rest_last (by exact lin [_] (.le (.n 20) (.a (.v 0) (.n 24))) 1 .e (Eq.refl true)) hx hy hxy (fun z => by have := of_decide_eq_false hb; omega) h0)

theorem rest_sem {N : Nat} (hN : 35 ≤ N) {P : Prm} {x y : Str} (hx : x.length ≤ 1000) (hy : y.length ≤ 1000) {hp : List (Addr × AO)} {k : AV → List (Addr × AO) → Prop}
    (h0 : ∀ r, k (.ref r) ((r, .list ((restL x y).map .str)) :: hp)) : (sem N).C P 163 [.str x, .str y] hp k := by
  obtain ⟨n, rfl⟩ := pull hN
  have hx' : x.length ≤ lim := Nat.le_trans hx (by decide)
  have hy' : y.length ≤ lim := Nat.le_trans hy (by decide)
  have hl : (2000 : Nat) ≤ lim := by decide
  obtain ⟨c1, c2⟩ := comPre_le x.cps.toList y.cps.toList
  rw [len_toList] at c1 c2
  have tl := fun (k' : Fl → AS → Prop) h => rest_tail (N := n + 30) (by exact lin [_] (.le (.n 25) (.a (.v 0) (.n 30))) 1 .e (Eq.refl true)) (P := P) hx' hy' (by exact lin [_, _, _] (.le (.a (.v 0) (.v 1)) (.v 2)) 1 (.c 1 (.le (.v 0) (.n 1000)) (.c 1 (.le (.v 1) (.n 1000)) (.c 1 (.le (.n 2000) (.v 2)) .e))) (Eq.refl true) hx hy hl) (hp := hp) (k := k') h
  refine ⟨fun m σ => ∃ kk, m = x.length - kk ∧ kk ≤ comPre x.cps.toList y.cps.toList ∧ σ = restS x y kk hp, ⟨_, 0, rfl, Nat.zero_le _, rfl⟩, ?_⟩
  rintro m σ ⟨kk, rfl, h1, rfl⟩ kX X
  refine ⟨hx', ?_⟩
  refine ⟨fun hb => ?_, fun hb => ?_⟩
  · have hb : kk < x.length := by have := of_decide_eq_true hb; omega
    refine ⟨hy', ?_⟩
    refine ⟨fun hb2 => ?_, fun hb2 => ?_⟩
    · have hb2 : kk < y.length := by have := of_decide_eq_true hb2; omega
      have e1 : x.cps[kk]? = some (x.cps[kk]'hb) := Array.getElem?_eq_getElem hb
      have e2 : y.cps[kk]? = some (y.cps[kk]'hb2) := Array.getElem?_eq_getElem hb2
      have nx := comPre_next x.cps.toList y.cps.toList kk h1 (by rw [len_toList]; exact hb) (by rw [len_toList]; exact hb2)
      simp only [Array.getElem?_toList] at nx
      rw [e1, e2] at nx
      refine ⟨x.cps[kk]'hb, kk, rfl, by exact lin [_, _, _] (.le (.v 0) (.v 1)) 1 (.c 1 (.le (.v 2) (.n 1000)) (.c 1 (.le (.n 2000) (.v 1)) (.c 1 (.lt (.v 0) (.v 2)) .e))) (Eq.refl true) hx hl hb, e1, ?_⟩
      refine ⟨y.cps[kk]'hb2, kk, rfl, by exact lin [_, _, _] (.le (.v 0) (.v 1)) 1 (.c 1 (.le (.v 2) (.n 1000)) (.c 1 (.le (.n 2000) (.v 1)) (.c 1 (.lt (.v 0) (.v 2)) .e))) (Eq.refl true) hx hl hb, e2, ?_⟩
      refine ⟨fun hb3 => ?_, fun hb3 => ?_⟩
      · have hlt : kk < comPre x.cps.toList y.cps.toList := nx.mp (by
          have := of_decide_eq_true hb3
          injection this with this
          have h := congrArg (fun (a : Array Nat) => a[0]?) this
          simpa using h)
        refine ⟨fun _ => ?_, fun hf => nomatch hf⟩
        refine X.next [] _ ⟨x.length - (kk + 1), by exact lin [_, _, _, _] (.lt (.v 0) (.v 1)) 1 (.c 1 (.eq (.a (.v 0) (.a (.v 2) (.n 1))) (.v 3)) (.c 1 (.qe (.a (.v 1) (.v 2)) (.v 3)) .e)) (Eq.refl true) (Nat.sub_add_cancel (lin [_, _] (.le (.a (.v 0) (.n 1)) (.v 1)) 1 (.c 1 (.lt (.v 0) (.v 1)) .e) (Eq.refl true) hb)) (Nat.sub_add_cancel (lin [_, _] (.le (.v 0) (.v 1)) 1 (.c 1 (.lt (.v 0) (.v 1)) .e) (Eq.refl true) hb)), kk + 1, rfl, hlt, ?_⟩
        rfl
      · have heq : kk = comPre x.cps.toList y.cps.toList := by
          rcases Nat.lt_or_ge kk (comPre x.cps.toList y.cps.toList) with z | z
          · have := nx.mpr z
            have hd := of_decide_eq_false hb3
            injection this with this
            exact absurd (by rw [this]) hd
          · exact Nat.le_antisymm (lin [_, _] (.le (.v 0) (.v 1)) 1 (.c 1 (.le (.v 0) (.v 1)) .e) (Eq.refl true) h1) (lin [_, _] (.le (.v 0) (.v 1)) 1 (.c 1 (.le (.v 0) (.v 1)) .e) (Eq.refl true) z)
        subst heq
        refine ⟨fun hf => (nomatch hf), fun _ => ?_⟩
        exact Bnil (rest_tail (by exact lin [_] (.le (.n 25) (.a (.v 0) (.n 32))) 1 .e (Eq.refl true)) hx' hy' (by exact lin [_, _, _] (.le (.a (.v 0) (.v 1)) (.v 2)) 1 (.c 1 (.le (.v 0) (.n 1000)) (.c 1 (.le (.v 1) (.n 1000)) (.c 1 (.le (.n 2000) (.v 2)) .e))) (Eq.refl true) hx hy hl) fun r σ e => by show k _ σ.hp; rw [e]; exact h0 r)
    · have heq : kk = comPre x.cps.toList y.cps.toList := by have := of_decide_eq_false hb2; omega
      subst heq
      refine ⟨fun hf => (nomatch hf), fun _ => ?_⟩
      exact Bnil (rest_tail (by exact lin [_] (.le (.n 25) (.a (.v 0) (.n 32))) 1 .e (Eq.refl true)) hx' hy' (by exact lin [_, _, _] (.le (.a (.v 0) (.v 1)) (.v 2)) 1 (.c 1 (.le (.v 0) (.n 1000)) (.c 1 (.le (.v 1) (.n 1000)) (.c 1 (.le (.n 2000) (.v 2)) .e))) (Eq.refl true) hx hy hl) fun r σ e => by show k _ σ.hp; rw [e]; exact h0 r)
  · have heq : kk = comPre x.cps.toList y.cps.toList := by have := of_decide_eq_false hb; omega
    subst heq
    refine ⟨fun hf => (nomatch hf), fun _ => ?_⟩
    exact Bnil (rest_tail (by exact lin [_] (.le (.n 25) (.a (.v 0) (.n 32))) 1 .e (Eq.refl true)) hx' hy' (by exact lin [_, _, _] (.le (.a (.v 0) (.v 1)) (.v 2)) 1 (.c 1 (.le (.v 0) (.n 1000)) (.c 1 (.le (.v 1) (.n 1000)) (.c 1 (.le (.n 2000) (.v 2)) .e))) (Eq.refl true) hx hy hl) fun r σ e => by show k _ σ.hp; rw [e]; exact h0 r)
/-! parts of a text -/
noncomputable def handB : ExceptHandler → List Stmt
  | .ExceptHandler _ _ b _ => b
noncomputable def spart : List Stmt → List Expr × List Stmt × List Stmt
  | [] => ([], [], [])
  | st :: _ => match st with
    | .Return e _ => (e.toList, [], [])
    | .Assign ts e _ => (e :: ts, [], [])
    | .For _ t b o _ => ([t], b, o)
    | .While t b o _ => ([t], b, o)
    | .If t b o _ => ([t], b, o)
    | .Try b hs _ _ _ => ([], b, hs.flatMap handB)
    | _ => ([], [], [])
noncomputable def inFor (l : List Stmt) : List Stmt := (spart l).2.1
noncomputable def cstr : Const → List Str
  | .str s => [s]
  | _ => []
noncomputable def epart : Expr → List Str × List Expr
  | .Name x _ => ([x], [])
  | .Constant c _ _ => (cstr c, [])
  | .List es _ => ([], es)
  | .Dict ks _ _ => ([], ks.flatMap Option.toList)
  | _ => ([], [])
end Mine
end

section
open PySem PySem.W PyProof.Rows PySem.Calls PySem.Spec
set_option maxRecDepth 100000
namespace Mine

/-! ## heaps, piece by piece -/
noncomputable abbrev HP := List (Addr × AO)
noncomputable def isFz : AO → Bool
  | .froz _ _ => true
  | _ => false
noncomputable def fEq (p q : Addr × AO) : Prop := q = p ∨ (isFz p.2 = false ∧ ∃ o, q = (p.1, .froz o p.2))
/-- the heap has these objects, each apart; some may be frozen -/
noncomputable def Sh (hp : HP) (objs : HP) : Prop := ∃ objs' rest, hp.Perm (objs' ++ rest) ∧ Paired fEq objs objs'

theorem paired_perm {α β : Type} {R : α → β → Prop} {l l2 : List α} (p : l.Perm l2) : ∀ {l' : List β}, Paired R l l' → ∃ l2', l'.Perm l2' ∧ Paired R l2 l2' := by
  induction p with
  | nil => intro l' h; exact ⟨l', .refl _, h⟩
  | cons x _ ih =>
    intro l' h
    cases h with
    | cons hx h =>
      obtain ⟨l2', p', h'⟩ := ih h
      exact ⟨_ :: l2', p'.cons _, .cons hx h'⟩
  | swap x y l =>
    intro l' h
    cases h with
    | cons hy h =>
      cases h with
      | cons hx h => exact ⟨_, List.Perm.swap .., .cons hx (.cons hy h)⟩
  | trans _ _ ih1 ih2 =>
    intro l' h
    obtain ⟨l1', p1, h1⟩ := ih1 h
    obtain ⟨l2', p2, h2⟩ := ih2 h1
    exact ⟨l2', p1.trans p2, h2⟩

section
variable {hp objs o1 o2 tl : HP} {a r : Addr} {x x' : AO} {ro : HP} {o : Obj}
theorem Sh.perm (H : Sh hp o1) (p : o1.Perm o2) : Sh hp o2 := by
  obtain ⟨l', rest, h1, h2⟩ := H
  obtain ⟨l2', p', h3⟩ := paired_perm p h2
  exact ⟨l2', rest, h1.trans (p'.append_right _), h3⟩
theorem Sh.nil (hp : HP) : Sh hp [] := ⟨[], hp, .refl _, .nil⟩
theorem Sh.drop (H : Sh hp (o1 ++ o2)) : Sh hp o1 := by
  obtain ⟨l', rest, h1, h2⟩ := H
  have : ∃ a b, l' = a ++ b ∧ Paired fEq o1 a := by
    clear h1
    induction o1 generalizing l' with
    | nil => exact ⟨[], l', rfl, .nil⟩
    | cons p o1 ih =>
      cases h2 with
      | cons hx h =>
        obtain ⟨a, b, rfl, h'⟩ := ih _ h
        exact ⟨_ :: a, b, rfl, .cons hx h'⟩
  obtain ⟨u, v, rfl, h3⟩ := this
  exact ⟨u, v ++ rest, by rw [← List.append_assoc]; exact h1, h3⟩
theorem Sh.mem (H : Sh hp objs) {p : Addr × AO} (m : p ∈ objs) : ∃ q ∈ hp, fEq p q := by
  obtain ⟨l', rest, h1, h2⟩ := H
  obtain ⟨i, hi, he⟩ := List.getElem_of_mem m
  obtain ⟨q, hq, hpq⟩ := Paired.get h2 (List.getElem?_eq_some_iff.mpr ⟨hi, he⟩)
  exact ⟨q, h1.mem_iff.mpr (List.mem_append_left _ (List.mem_of_getElem? hq)), hpq⟩
theorem Sh.has (H : Sh hp objs) (m : (a, x) ∈ objs) : Has ro hp a x := by
  obtain ⟨q, hq, rfl | ⟨_, o, rfl⟩⟩ := H.mem m
  · exact .own hq
  · exact .fz hq
theorem Sh.hasF (H : Sh hp objs) (m : (a, AO.froz o x) ∈ objs) : Has ro hp a x := by
  obtain ⟨q, hq, rfl | ⟨h, _⟩⟩ := H.mem m
  · exact .fz hq
  · cases h
theorem Sh.memF (H : Sh hp objs) (m : (a, AO.froz o x) ∈ objs) : (a, AO.froz o x) ∈ hp := by
  obtain ⟨q, hq, rfl | ⟨h, _⟩⟩ := H.mem m
  · exact hq
  · cases h
theorem Sh.push (H : Sh hp objs) : Sh ((r, x) :: hp) ((r, x) :: objs) := by
  obtain ⟨l', rest, h1, h2⟩ := H
  exact ⟨(r, x) :: l', rest, h1.cons _, .cons (.inl rfl) h2⟩
theorem wr_at {l1 l2 : HP} : Wr a x x' (l1 ++ (a, x) :: l2) (l1 ++ (a, x') :: l2) := by
  induction l1 with
  | nil => exact .here
  | cons p l1 ih => exact .there ih
theorem wr_atF {l1 l2 : HP} : Wr a x x' (l1 ++ (a, .froz o x) :: l2) (l1 ++ (a, x') :: l2) := by
  induction l1 with
  | nil => exact .hereF
  | cons p l1 ih => exact .there ih
/-- where an object lies -/
theorem Sh.split (H : Sh hp ((a, x) :: tl)) : ∃ l1 q l2, hp = l1 ++ (a, q) :: l2 ∧ (q = x ∨ (isFz x = false ∧ ∃ o, q = .froz o x)) ∧ ∀ x', Sh (l1 ++ (a, x') :: l2) ((a, x') :: tl) := by
  obtain ⟨l', rest, h1, h2⟩ := H
  cases h2 with
  | @cons _ q _ tl' hq h2 =>
    have e : ∃ q2, q = (a, q2) ∧ (q2 = x ∨ (isFz x = false ∧ ∃ o, q2 = .froz o x)) := by
      rcases hq with rfl | ⟨h, o, rfl⟩
      · exact ⟨x, rfl, .inl rfl⟩
      · exact ⟨_, rfl, .inr ⟨h, o, rfl⟩⟩
    obtain ⟨q2, rfl, hq2⟩ := e
    have hm : (a, q2) ∈ hp := h1.mem_iff.mpr (.head _)
    obtain ⟨l1, l2, rfl⟩ := List.append_of_mem hm
    have p2 : (l1 ++ l2).Perm (tl' ++ rest) := (List.perm_middle.symm.trans h1).cons_inv
    refine ⟨l1, q2, l2, rfl, hq2, fun x' => ⟨(a, x') :: tl', rest, ?_, .cons (.inl rfl) h2⟩⟩
    exact List.perm_middle.trans (p2.cons _)
theorem Sh.wr (H : Sh hp ((a, x) :: tl)) (x' : AO) : ∃ hp', Wr a x x' hp hp' ∧ Sh hp' ((a, x') :: tl) := by
  obtain ⟨l1, q, l2, rfl, rfl | ⟨_, o, rfl⟩, h⟩ := H.split
  · exact ⟨_, wr_at, h x'⟩
  · exact ⟨_, wr_atF, h x'⟩
theorem Sh.wrK {P : Prop} (H : Sh hp ((a, x) :: tl)) (x' : AO) (f : ∀ hp', Wr a x x' hp hp' → Sh hp' ((a, x') :: tl) → P) : P := let ⟨h, w, s⟩ := H.wr x'; f h w s
theorem Sh.wrF (H : Sh hp ((a, AO.froz o x) :: tl)) (x' : AO) : ∃ hp', Wr a x x' hp hp' ∧ Sh hp' ((a, x') :: tl) := by
  obtain ⟨l1, q, l2, rfl, rfl | ⟨h, _⟩, h'⟩ := H.split
  · exact ⟨_, wr_atF, h' x'⟩
  · cases h
theorem Sh.freeze (H : Sh hp ((a, x) :: tl)) : ∃ hf : Obj → HP, ∀ o, Wr a x (.froz o x) hp (hf o) ∧ Sh (hf o) ((a, .froz o x) :: tl) := by
  obtain ⟨l1, q, l2, rfl, rfl | ⟨_, o, rfl⟩, h⟩ := H.split
  · exact ⟨fun o => l1 ++ (a, .froz o q) :: l2, fun o => ⟨wr_at, h _⟩⟩
  · exact ⟨fun o => l1 ++ (a, .froz o x) :: l2, fun o => ⟨wr_atF, h _⟩⟩
theorem Sh.thaw (H : Sh hp ((a, AO.froz o x) :: tl)) (hx : isFz x = false) : Sh hp ((a, x) :: tl) := by
  obtain ⟨l', rest, h1, h2⟩ := H
  cases h2 with
  | cons hq h2 =>
    rcases hq with rfl | ⟨h, _⟩
    · exact ⟨_, rest, h1, .cons (.inr ⟨hx, o, rfl⟩) h2⟩
    · cases h
end

end Mine
end

section
open PySem PySem.W PyProof.Rows PySem.Calls PySem.Spec
set_option maxRecDepth 100000
set_option maxHeartbeats 1000000
namespace Mine

/-- `_NodeInfo.__init__` -/
theorem ninit_sem {N : Nat} (hN : 20 ≤ N) {ro : HP} {hp tl : HP} {cm : Bool} {sc : Scope} {r d : Addr} {v : Str} (H : Sh hp ((r, .node d none none none) :: (d, .attrs []) :: tl)) {k : AV → HP → Prop}
    (h0 : ∀ s hp', Sh hp' ((r, .node d (some (.str v)) (some (.int 0)) (some (.ref s))) :: (d, .attrs []) :: (s, .list []) :: tl) → k .none hp') : (sem N).C ⟨sc, ro, true, cm⟩ 29 [.ref r, .str v] hp k := by
  obtain ⟨n, rfl⟩ := pull hN
  (repeat (refine And.intro rfl ?_))
  refine H.wrK (.node d (some (.str v)) none none) fun hp1 W1 H1 => ?_
  refine ⟨d, none, none, none, [], hp1, H.has (.tail _ (.head _)), W1, ?_⟩
  (repeat (refine And.intro rfl ?_))
  refine H1.wrK (.node d (some (.str v)) (some (.int 0)) none) fun hp2 W2 H2 => ?_
  refine ⟨d, _, _, _, [], hp2, H1.has (.tail _ (.head _)), W2, ?_⟩
  (repeat (refine And.intro rfl ?_))
  refine ⟨Nat.zero_le _, fun s => ?_⟩
  (repeat (refine And.intro rfl ?_))
  have H3 : Sh ((s, .list []) :: hp2) ((r, .node d (some (.str v)) (some (.int 0)) none) :: (d, .attrs []) :: (s, .list []) :: tl) := H2.push.perm (by exact pm [_, _, _] [_] (.c 0 (.c 1 (.c 2 (.l 0)))) (.c 1 (.c 2 (.c 0 (.l 0)))) rfl)
  refine H3.wrK (.node d (some (.str v)) (some (.int 0)) (some (.ref s))) fun hp4 W4 H4 => ?_
  refine ⟨d, _, _, _, [], hp4, H3.has (.tail _ (.head _)), W4, ?_⟩
  (repeat (refine And.intro rfl ?_))
  exact h0 s hp4 H4
end Mine
end

section
open PySem PySem.W PyProof.Rows PySem.Calls PySem.Spec
set_option maxRecDepth 100000
set_option maxHeartbeats 1000000
namespace Mine

/-! ## the sorter -/
structure Nd where
  nm : Str
  np : Int
  su : List Str
  n : Addr
  d : Addr
  s : Addr
noncomputable def Nd.objs (x : Nd) : HP := [(x.n, .node x.d (some (.str x.nm)) (some (.int x.np)) (some (.ref x.s))), (x.d, .attrs []), (x.s, .list (x.su.map .str))]
noncomputable def ndObjs (ns : List Nd) : HP := ns.flatMap Nd.objs
structure So where
  a : Addr
  d0 : Addr
  m : Addr
  rd : AV
  pa : Int
  fi : Int
  ns : List Nd
noncomputable def So.attrs (S : So) : AO := .attrs [("_node2info", .ref S.m), ("_ready_nodes", S.rd), ("_npassedout", .int S.pa), ("_nfinished", .int S.fi)]
noncomputable def So.dict (S : So) : AO := .dict (S.ns.map fun x => (x.nm, AV.ref x.n))
noncomputable def So.objs (S : So) : HP := (S.a, .inst 130 S.d0) :: (S.d0, S.attrs) :: (S.m, S.dict) :: ndObjs S.ns

theorem ndObjs_app (l m : List Nd) : ndObjs (l ++ m) = ndObjs l ++ ndObjs m := by simp [ndObjs]
theorem ndObjs_cons (x : Nd) (m : List Nd) : ndObjs (x :: m) = x.objs ++ ndObjs m := rfl
theorem lk_ns {ns : List Nd} {v : Str} : ((ns.map fun x => (x.nm, AV.ref x.n)).lookup v = none ∧ ∀ x ∈ ns, x.nm ≠ v) ∨ ∃ x ∈ ns, x.nm = v ∧ (ns.map fun x => (x.nm, AV.ref x.n)).lookup v = some (.ref x.n) := by
  induction ns with
  | nil => exact .inl ⟨rfl, fun _ h => nomatch h⟩
  | cons x ns ih =>
    rw [List.map_cons, List.lookup_cons]
    by_cases h : v = x.nm
    · subst h
      exact .inr ⟨x, .head _, rfl, by simp⟩
    · rw [beq_eq_false_iff_ne.mpr h]
      rcases ih with ⟨h1, h2⟩ | ⟨y, h1, h2, h3⟩
      · exact .inl ⟨h1, fun y hy => by rcases List.mem_cons.mp hy with rfl | hy; exact Ne.symm h; exact h2 y hy⟩
      · exact .inr ⟨y, .tail _ h1, h2, h3⟩

theorem upd_new {K α : Type} [DecidableEq K] {x : K} {v : α} : ∀ {l : List (K × α)}, l.lookup x = none → upd x v l = l ++ [(x, v)]
  | [], _ => rfl
  | (y, u) :: l, h => by
    rw [List.lookup_cons] at h
    by_cases e : x = y
    · subst e; simp at h
    · rw [beq_eq_false_iff_ne.mpr e] at h
      unfold upd
      rw [if_neg e, upd_new h]; rfl

/-- `_get_nodeinfo` -/
theorem getinfo_sem {N : Nat} (hN : 45 ≤ N) {ro : HP} {hp fr : HP} {cm : Bool} {sc : Scope} {S : So} {v : Str} (H : Sh hp (S.objs ++ fr)) (hl : S.ns.length ≤ 100) {k : AV → HP → Prop}
    (hold : ∀ x ∈ S.ns, x.nm = v → k (.ref x.n) hp)
    (hnew : ∀ x hp', x.nm = v → x.np = 0 → x.su = [] → (∀ y ∈ S.ns, y.nm ≠ v) → Sh hp' ({ S with ns := S.ns ++ [x] }.objs ++ fr) → k (.ref x.n) hp') : (sem N).C ⟨sc, ro, true, cm⟩ 73 [.ref S.a, .str v] hp k := by
  obtain ⟨n, rfl⟩ := pull hN
  (repeat (refine And.intro rfl ?_))
  refine ⟨S.d0, _, H.has (.head _), H.has (.tail _ (.head _)), .head _, _, rfl, rfl, ?_⟩
  (repeat (refine And.intro rfl ?_))
  refine ⟨.dict, ⟨S.m, _, rfl, H.has (.tail _ (.tail _ (.head _)))⟩, rfl, ?_⟩
  (repeat (refine And.intro rfl ?_))
  refine ⟨_, H.has (.tail _ (.tail _ (.head _))), ?_⟩
  rcases lk_ns (ns := S.ns) (v := v) with ⟨h1, h2⟩ | ⟨x, h1, h2, h3⟩
  · rw [h1]
    (repeat (refine And.intro rfl ?_))
    refine ⟨fun _ => ?_, fun hf => (nomatch hf)⟩
    (repeat (refine And.intro rfl ?_))
    refine fun r d => ⟨ninit_sem (by (first | exact Mine.fu rfl | exact Mine.lm0 (by assumption) rfl | omega)) ((H.push (r := d) (x := .attrs [])).push (r := r) (x := .node d none none none)) fun s hp1 H1 => ⟨rfl, ?_⟩⟩
    (repeat (refine And.intro rfl ?_))
    have H2 : Sh hp1 ((S.m, S.dict) :: (S.a, .inst 130 S.d0) :: (S.d0, S.attrs) :: (ndObjs S.ns ++ ((r, .node d (some (.str v)) (some (.int 0)) (some (.ref s))) :: (d, .attrs []) :: (s, .list []) :: fr))) := H1.perm (by exact pm [_, _, _, _, _, _] [_, _] (.c 0 (.c 1 (.c 2 (.a (.c 3 (.c 4 (.c 5 (.l 0)))) (.l 1))))) (.c 5 (.c 3 (.c 4 (.a (.l 0) (.c 0 (.c 1 (.c 2 (.l 1)))))))) rfl)
    refine ⟨S.d0, _, H2.has (.tail _ (.head _)), H2.has (.tail _ (.tail _ (.head _))), .head _, _, rfl, rfl, ?_⟩
    (repeat (refine And.intro rfl ?_))
    refine H2.wrK (.dict (upd v (.ref r) (S.ns.map fun x => (x.nm, AV.ref x.n)))) fun hp3 W3 H3 => ?_
    refine ⟨_, hp3, W3, by simp only [List.length_map]; exact Nat.le_trans hl (by decide), ?_⟩
    (repeat (refine And.intro rfl ?_))
    refine hnew ⟨v, 0, [], r, d, s⟩ hp3 rfl rfl rfl h2 (H3.perm ?_)
    unfold So.objs So.dict
    rw [upd_new h1, ndObjs_app, List.map_append]
    simp only [ndObjs_cons, Nd.objs, List.map_cons, List.map_nil]
    refine (?_ : (_ :: _ :: _ :: (ndObjs S.ns ++ _)).Perm ((_ :: _ :: _ :: (ndObjs S.ns ++ ([_, _, _] ++ []))) ++ fr))
    exact pm [_, _, _, _, _, _] [_, _] (.c 0 (.c 1 (.c 2 (.a (.l 0) (.c 3 (.c 4 (.c 5 (.l 1)))))))) (.a (.c 1 (.c 2 (.c 0 (.a (.l 0) (.a (.c 3 (.c 4 (.c 5 .n))) .n))))) (.l 1)) rfl
  · rw [h3]
    (repeat (refine And.intro rfl ?_))
    refine ⟨fun hf => (nomatch hf), fun _ => ?_⟩
    (repeat (refine And.intro rfl ?_))
    exact hold x h1 h2
end Mine
end

section
open PySem PySem.W PyProof.Rows PySem.Calls PySem.Spec
set_option maxRecDepth 100000
set_option maxHeartbeats 1000000
namespace Mine

noncomputable abbrev Tri := List (Str × Int × List Str)
noncomputable def triN (ns : List Nd) : Tri := ns.map fun x => (x.nm, x.np, x.su)
noncomputable def ndN (ns : List Nd) : Prop := (ns.map (·.nm)).Nodup
noncomputable def getT (T : Tri) (v : Str) : Tri := if (T.map (·.1)).contains v then T else T ++ [(v, 0, [])]
noncomputable def modT (T : Tri) (v : Str) (f : Int × List Str → Int × List Str) : Tri := T.map fun e => if e.1 = v then (e.1, f e.2) else e
noncomputable def addP (v : Str) (T : Tri) (p : Str) : Tri := modT (getT T p) p fun e => (e.1, e.2 ++ [v])
noncomputable def addT (T : Tri) (v : Str) (ps : List Str) : Tri := ps.foldl (addP v) (modT (getT T v) v fun e => (e.1 + ps.length, e.2))

noncomputable def So.off (S : So) (l1 l2 : List Nd) (fr : HP) : HP := (S.a, .inst 130 S.d0) :: (S.d0, S.attrs) :: (S.m, S.dict) :: (ndObjs l1 ++ (ndObjs l2 ++ fr))
theorem So.focus {S : So} {l1 l2 : List Nd} {x : Nd} {fr : HP} (e : S.ns = l1 ++ x :: l2) : (S.objs ++ fr).Perm (x.objs ++ S.off l1 l2 fr) := by
  unfold So.objs So.off
  rw [e, ndObjs_app, ndObjs_cons]
  refine (?_ : ((_ :: _ :: _ :: (ndObjs l1 ++ (x.objs ++ ndObjs l2))) ++ fr).Perm _)
  exact pm [_, _, _] [_, _, _, _] (.a (.c 0 (.c 1 (.c 2 (.a (.l 0) (.a (.l 1) (.l 2)))))) (.l 3)) (.a (.l 1) (.c 0 (.c 1 (.c 2 (.a (.l 0) (.a (.l 2) (.l 3))))))) rfl
theorem So.unfocus {S : So} {l1 l2 : List Nd} {x x' : Nd} {fr : HP} (e : S.ns = l1 ++ x :: l2) (h1 : x'.nm = x.nm) (h2 : x'.n = x.n) : (x'.objs ++ S.off l1 l2 fr).Perm ({ S with ns := l1 ++ x' :: l2 }.objs ++ fr) := by
  have hd : S.dict = ({ S with ns := l1 ++ x' :: l2 } : So).dict := by
    unfold So.dict
    rw [e]; simp [h1, h2]
  unfold So.off
  rw [hd]
  refine (?_ : (x'.objs ++ _ :: _ :: _ :: (ndObjs l1 ++ (ndObjs l2 ++ fr))).Perm ((_ :: _ :: _ :: ndObjs (l1 ++ x' :: l2)) ++ fr))
  rw [ndObjs_app, ndObjs_cons]
  refine (?_ : (x'.objs ++ (S.a, .inst 130 S.d0) :: (S.d0, S.attrs) :: (S.m, ({ S with ns := l1 ++ x' :: l2 } : So).dict) :: (ndObjs l1 ++ (ndObjs l2 ++ fr))).Perm (((S.a, .inst 130 S.d0) :: (S.d0, S.attrs) :: (S.m, ({ S with ns := l1 ++ x' :: l2 } : So).dict) :: (ndObjs l1 ++ (x'.objs ++ ndObjs l2))) ++ fr))
  generalize (S.m, ({ S with ns := l1 ++ x' :: l2 } : So).dict) = q1
  generalize (S.d0, S.attrs) = q2
  generalize (S.a, AO.inst 130 S.d0) = q3
  exact pm [_, _, _] [_, _, _, _] (.a (.l 0) (.c 0 (.c 1 (.c 2 (.a (.l 1) (.a (.l 2) (.l 3))))))) (.a (.c 0 (.c 1 (.c 2 (.a (.l 1) (.a (.l 0) (.l 2)))))) (.l 3)) rfl
theorem modT_split {l1 l2 : List Nd} {x x' : Nd} {f : Int × List Str → Int × List Str} (nd : ndN (l1 ++ x :: l2)) (h1 : x'.nm = x.nm) (h2 : (x'.np, x'.su) = f (x.np, x.su)) :
    triN (l1 ++ x' :: l2) = modT (triN (l1 ++ x :: l2)) x.nm f ∧ ndN (l1 ++ x' :: l2) := by
  unfold ndN at nd
  rw [List.map_append, List.map_cons, List.nodup_append] at nd
  obtain ⟨n1, n2, n3⟩ := nd
  have n2' := List.nodup_cons.mp n2
  refine ⟨?_, ?_⟩
  · unfold triN modT
    simp only [List.map_append, List.map_cons, List.map_map]
    congr 1
    · refine List.map_congr_left fun y hy => ?_
      have : y.nm ≠ x.nm := n3 _ (List.mem_map_of_mem hy) _ (.head _)
      simp [this]
    · congr 1
      · simp only [if_pos]
        rw [h1]; exact congrArg _ h2
      · refine List.map_congr_left fun y hy => ?_
        have : y.nm ≠ x.nm := fun z => n2'.1 (by rw [← z]; exact List.mem_map_of_mem hy)
        simp [this]
  · unfold ndN
    rw [List.map_append, List.map_cons, h1, List.nodup_append]
    exact ⟨n1, n2, n3⟩

theorem getinfo_tri {N : Nat} (hN : 45 ≤ N) {ro : HP} {hp fr : HP} {cm : Bool} {sc : Scope} {a d0 m : Addr} {rd : AV} {pa fi : Int} {ns : List Nd} {v : Str} (H : Sh hp ((⟨a, d0, m, rd, pa, fi, ns⟩ : So).objs ++ fr)) (nd : ndN ns) (hl : ns.length ≤ 100) {k : AV → HP → Prop}
    (h0 : ∀ ns' x hp', ndN ns' → triN ns' = getT (triN ns) v → ns'.length ≤ ns.length + 1 → x ∈ ns' → x.nm = v → Sh hp' ((⟨a, d0, m, rd, pa, fi, ns'⟩ : So).objs ++ fr) → k (.ref x.n) hp') : (sem N).C ⟨sc, ro, true, cm⟩ 73 [.ref a, .str v] hp k := by
  refine getinfo_sem (S := ⟨a, d0, m, rd, pa, fi, ns⟩) hN H hl (fun x hx hv => ?_) (fun x hp' h1 h2 h3 h4 H' => ?_)
  · refine h0 ns x hp nd ?_ (Nat.le_succ _) hx hv H
    unfold getT
    rw [if_pos]
    rw [List.contains_iff_mem]
    exact List.mem_map.mpr ⟨(x.nm, x.np, x.su), List.mem_map.mpr ⟨x, hx, rfl⟩, hv⟩
  · have h4 : ∀ y ∈ ns, y.nm ≠ v := h4
    refine h0 (ns ++ [x]) x hp' ?_ ?_ (by simp) (by simp) h1 H'
    · unfold ndN
      rw [List.map_append, List.nodup_append]
      refine ⟨nd, by simp, fun a ha b hb e => ?_⟩
      obtain ⟨y, hy, rfl⟩ := List.mem_map.mp ha
      simp only [List.map_cons, List.map_nil, List.mem_singleton] at hb
      subst hb
      exact h4 y hy (e.trans h1)
    · unfold getT
      rw [if_neg]
      · unfold triN
        rw [List.map_append]; simp [h1, h2, h3]
      · rw [List.contains_iff_mem]
        intro hm
        obtain ⟨q, hq, e⟩ := List.mem_map.mp hm
        obtain ⟨y, hy, rfl⟩ := List.mem_map.mp hq
        exact h4 y hy e

theorem attrs4 {u v x y : AV} : ∀ p ∈ [(("_node2info" : Str), u), ("_ready_nodes", v), ("_npassedout", x), ("_nfinished", y)], p.1 ∈ fields4 := by
  intro p hp
  simp only [List.mem_cons, List.not_mem_nil, or_false] at hp
  rcases hp with rfl | rfl | rfl | rfl
  · exact .head _
  · exact .tail _ (.head _)
  · exact .tail _ (.tail _ (.head _))
  · exact .tail _ (.tail _ (.tail _ (.head _)))

theorem Sh.tl {hp tl : HP} {p : Addr × AO} (H : Sh hp (p :: tl)) : Sh hp tl := (H.perm (o2 := tl ++ [p]) (List.perm_append_singleton p tl).symm).drop
theorem getT_len {T : Tri} {v : Str} {B : Nat} (h : ∀ e ∈ T, e.2.2.length ≤ B) : ∀ e ∈ getT T v, e.2.2.length ≤ B := by
  unfold getT
  split
  · exact h
  · intro e he
    rcases List.mem_append.mp he with he | he
    · exact h e he
    · rcases List.mem_singleton.mp he with rfl; exact Nat.zero_le _
theorem modT_len {T : Tri} {v : Str} {f : Int × List Str → Int × List Str} {B B' : Nat} (h : ∀ e ∈ T, e.2.2.length ≤ B) (hf : ∀ e, e.2.length ≤ B → (f e).2.length ≤ B') (hB : B ≤ B') : ∀ e ∈ modT T v f, e.2.2.length ≤ B' := by
  intro e he
  obtain ⟨e', he', rfl⟩ := List.mem_map.mp he
  split
  · exact hf _ (h e' he')
  · exact Nat.le_trans (h e' he') hB
theorem addP_len {T : Tri} {v p : Str} {B : Nat} (h : ∀ e ∈ T, e.2.2.length ≤ B) : ∀ e ∈ addP v T p, e.2.2.length ≤ B + 1 :=
  modT_len (getT_len h) (fun e he => by (simp; exact lin [_, _] (.le (.v 0) (.v 1)) 1 (.c 1 (.le (.v 0) (.v 1)) .e) (Eq.refl true) he)) (Nat.le_succ _)
theorem fold_len {v : Str} {B : Nat} : ∀ {ps : List Str} {T : Tri}, (∀ e ∈ T, e.2.2.length ≤ B) → ∀ e ∈ ps.foldl (addP v) T, e.2.2.length ≤ B + ps.length := by
  intro ps
  induction ps generalizing B with
  | nil => intro T h; exact h
  | cons p ps ih =>
    intro T h e he
    have := ih (addP_len h) e he
    simp only [List.length_cons]; exact lin [_, _, _] (.le (.v 0) (.a (.v 1) (.a (.v 2) (.n 1)))) 1 (.c 1 (.le (.v 0) (.a (.a (.v 1) (.n 1)) (.v 2))) .e) (Eq.refl true) this
theorem items_str {ps : List Str} {i : Nat} {vs : List AV} (h : ((ps.map AV.str).map fun v => [v])[i]? = some vs) : ∃ p, ps[i]? = some p ∧ vs = [.str p] := by
  rw [List.getElem?_map, List.getElem?_map] at h
  cases hp : ps[i]? with
  | none => rw [hp] at h; cases h
  | some p => rw [hp] at h; cases h; exact ⟨p, rfl, rfl⟩
theorem take_succ' {α : Type} {l : List α} {i : Nat} {x : α} (h : l[i]? = some x) : l.take (i + 1) = l.take i ++ [x] := by
  rw [List.take_add_one, h]; rfl

theorem items_strK {ps : List Str} {i : Nat} {vs : List AV} {P : List AV → Prop} (h : ((ps.map AV.str).map fun v => [v])[i]? = some vs) (f : ∀ p, ps[i]? = some p → P [.str p]) : P vs := match items_str h with
  | ⟨p, h1, h2⟩ => h2 ▸ f p h1
/-- `add` -/
theorem add_sem {N : Nat} (hN : 70 ≤ N) {ro : HP} {hp fr : HP} {cm : Bool} {sc : Scope} {a d0 m : Addr} {pa fi : Int} {ns : List Nd} {v : Str} {ps : List Str} (H : Sh hp ((⟨a, d0, m, .none, pa, fi, ns⟩ : So).objs ++ fr)) (nd : ndN ns) (hl : ns.length + ps.length + 1 ≤ 100) {B : Nat} (hB : ∀ e ∈ triN ns, e.2.2.length ≤ B) (hB2 : B + ps.length ≤ lim) {k : AV → HP → Prop}
    (h0 : ∀ ns' hp', ndN ns' → triN ns' = addT (triN ns) v ps → Sh hp' ((⟨a, d0, m, .none, pa, fi, ns'⟩ : So).objs ++ fr) → k .none hp') : (sem N).C ⟨sc, ro, true, cm⟩ 80 (.ref a :: .str v :: ps.map .str) hp k := by
  obtain ⟨n, rfl⟩ := pull hN
  (repeat (refine And.intro rfl ?_))
  refine ⟨by simp [fnNames], by simp; unfold lim; exact lin [_, _] (.le (.a (.a (.v 0) (.n 1)) (.n 1)) (.n 1000000)) 1 (.c 1 (.le (.a (.a (.v 1) (.v 0)) (.n 1)) (.n 100)) .e) (Eq.refl true) hl, fun r => ?_⟩
  have H1 : Sh _ ((⟨a, d0, m, .none, pa, fi, ns⟩ : So).objs ++ ((r, .tuple (ps.map .str)) :: fr)) := (H.push (r := r) (x := .tuple (ps.map .str))).perm (by exact pm [_, _, _, _] [_, _] (.c 0 (.a (.c 1 (.c 2 (.c 3 (.l 0)))) (.l 1))) (.a (.c 1 (.c 2 (.c 3 (.l 0)))) (.c 0 (.l 1))) rfl)
  (repeat (refine And.intro rfl ?_))
  refine ⟨d0, _, H1.has (.head _), H1.has (.tail _ (.head _)), .tail _ (.head _), _, rfl, rfl, ?_⟩
  (repeat (refine And.intro rfl ?_))
  refine ⟨fun hf => (nomatch hf), fun _ => ?_⟩
  (repeat (refine And.intro rfl ?_))
  refine ⟨.inst, ⟨a, d0, _, rfl, H1.has (.head _), H1.has (.tail _ (.head _)), attrs4⟩, rfl, ?_⟩
  (repeat (refine And.intro rfl ?_))
  refine ⟨getinfo_tri (by (first | exact Mine.fu rfl | exact Mine.lm0 (by assumption) rfl | omega)) H1 nd (by exact lin [_, _] (.le (.v 0) (.n 100)) 1 (.c 1 (.le (.a (.a (.v 0) (.v 1)) (.n 1)) (.n 100)) .e) (Eq.refl true) hl) fun ns1 x hp1 nd1 t1 len1 mem1 nm1 H2 => ?_⟩
  (repeat (refine And.intro rfl ?_))
  obtain ⟨l1, l2, rfl⟩ := List.append_of_mem mem1
  have H3 := H2.perm (So.focus (S := ⟨a, d0, m, .none, pa, fi, l1 ++ x :: l2⟩) rfl)
  refine ⟨x.d, _, _, _, _, H3.has (.head _), H3.has (.tail _ (.head _)), rfl, ?_⟩
  refine ⟨.inr (.inl ⟨_, H3.has (x := .tuple (ps.map .str)) (by simp [So.off]), by simp; unfold lim; exact lin [_, _] (.le (.v 0) (.n 1000000)) 1 (.c 1 (.le (.a (.a (.v 1) (.v 0)) (.n 1)) (.n 100)) .e) (Eq.refl true) hl, ?_⟩)⟩
  (repeat (refine And.intro rfl ?_))
  refine H3.wrK (.node x.d (some (.str x.nm)) (some (.int (x.np + (ps.map AV.str).length))) (some (.ref x.s))) fun hp2 W2 H4 => ?_
  refine ⟨x.d, _, _, _, _, hp2, H3.has (.tail _ (.head _)), W2, ?_⟩
  have H5 := Sh.perm H4 (So.unfocus (S := ⟨a, d0, m, .none, pa, fi, l1 ++ x :: l2⟩) (x' := { x with np := x.np + (ps.map AV.str).length }) rfl rfl rfl)
  obtain ⟨t2, nd2⟩ := modT_split (x' := { x with np := x.np + (ps.map AV.str).length }) (f := fun e => (e.1 + ps.length, e.2)) nd1 rfl (by simp)
  replace t2 : triN (l1 ++ { x with np := x.np + (ps.map AV.str).length } :: l2) = modT (getT (triN ns) v) v fun e => (e.1 + ps.length, e.2) := by rw [t2, t1, nm1]
  generalize hns2 : l1 ++ { x with np := x.np + (ps.map AV.str).length } :: l2 = ns2 at *
  have len2 : ns2.length ≤ ns.length + 1 := by rw [← hns2]; simpa using len1
  obtain ⟨hf, hw⟩ := (H5.perm (o2 := (r, .tuple (ps.map .str)) :: ((⟨a, d0, m, .none, pa, fi, ns2⟩ : So).objs ++ fr)) (by exact pm [_, _, _, _] [_, _] (.a (.c 0 (.c 1 (.c 2 (.l 0)))) (.c 3 (.l 1))) (.c 3 (.a (.c 0 (.c 1 (.c 2 (.l 0)))) (.l 1))) rfl)).freeze
  refine ⟨.inr ⟨.tuple (ps.map .str), (ps.map AV.str).map (fun v => [v]), hf, rfl, by simp; unfold lim; exact lin [_, _] (.le (.v 0) (.n 1000000)) 1 (.c 1 (.le (.a (.a (.v 1) (.v 0)) (.n 1)) (.n 100)) .e) (Eq.refl true) hl, fun o => (hw o).1, fun o => ?_⟩⟩
  have H6 := (hw o).2
  (repeat (refine And.intro rfl ?_))
  refine ⟨fun i => At [("self", .ref a), ("node", .str v), ("predecessors", .ref r), ("nodeinfo", .ref x.n)] fun hp => ∃ ns', ndN ns' ∧ triN ns' = (ps.take i).foldl (addP v) (triN ns2) ∧ ns'.length ≤ ns2.length + i ∧ Sh hp ((r, .froz o (.tuple (ps.map .str))) :: ((⟨a, d0, m, .none, pa, fi, ns'⟩ : So).objs ++ fr)),
    .mk ⟨ns2, nd2, rfl, Nat.le_refl _, H6⟩, fun i => at1 fun _ h => ?_, fun i vs => at2 fun _ hi h kX X => ?_, at1 fun _ h => ?_⟩
  · obtain ⟨ns', _, _, _, h4⟩ := h
    exact h4.memF (.head _)
  · apply items_strK hi; intro p hp1
    obtain ⟨ns3, nd3, t3, len3, H7⟩ := h
    have hip : i < ps.length := (List.getElem?_eq_some_iff.mp hp1).1
    have H8 := H7.perm (o2 := (⟨a, d0, m, .none, pa, fi, ns3⟩ : So).objs ++ ((r, .froz o (.tuple (ps.map .str))) :: fr)) (by exact pm [_, _, _, _] [_, _] (.c 0 (.a (.c 1 (.c 2 (.c 3 (.l 0)))) (.l 1))) (.a (.c 1 (.c 2 (.c 3 (.l 0)))) (.c 0 (.l 1))) rfl)
    · (repeat (refine And.intro rfl ?_))
      refine ⟨.inst, ⟨a, d0, _, rfl, H8.has (.head _), H8.has (.tail _ (.head _)), attrs4⟩, rfl, ?_⟩
      (repeat (refine And.intro rfl ?_))
      refine ⟨getinfo_tri (by (first | exact Mine.fu rfl | exact Mine.lm0 (by assumption) rfl | omega)) H8 nd3 (by exact lin [_, _, _, _, _] (.le (.v 0) (.n 100)) 1 (.c 1 (.le (.a (.a (.v 1) (.v 2)) (.n 1)) (.n 100)) (.c 1 (.le (.v 3) (.a (.v 1) (.n 1))) (.c 1 (.le (.v 0) (.a (.v 3) (.v 4))) (.c 1 (.lt (.v 4) (.v 2)) .e)))) (Eq.refl true) hl len2 len3 hip) fun ns4 y hp4 nd4 t4 len4 mem4 nm4 H9 => ?_⟩
      (repeat (refine And.intro rfl ?_))
      obtain ⟨l3, l4, rfl⟩ := List.append_of_mem mem4
      have H10 := H9.perm (So.focus (S := ⟨a, d0, m, .none, pa, fi, l3 ++ y :: l4⟩) rfl)
      refine ⟨y.d, _, _, _, _, H10.has (.head _), H10.has (.tail _ (.head _)), rfl, ?_⟩
      (repeat (refine And.intro rfl ?_))
      refine ⟨.list, ⟨y.s, _, rfl, H10.has (.tail _ (.tail _ (.head _)))⟩, rfl, ?_⟩
      (repeat (refine And.intro rfl ?_))
      refine (H10.perm (o2 := (y.s, .list (y.su.map .str)) :: (y.n, .node y.d (some (.str y.nm)) (some (.int y.np)) (some (.ref y.s))) :: (y.d, .attrs []) :: So.off ⟨a, d0, m, .none, pa, fi, l3 ++ y :: l4⟩ l3 l4 ((r, .froz o (.tuple (ps.map .str))) :: fr)) (by exact pm [_, _, _] [_] (.a (.c 0 (.c 1 (.c 2 .n))) (.l 0)) (.c 2 (.c 0 (.c 1 (.l 0)))) rfl)).wrK (.list (y.su.map .str ++ [.str v])) fun hp5 W5 H11 => ?_
      have hy : y.su.length ≤ B + i := by
        have e1 := fold_len (v := v) (ps := ps.take i) (T := triN ns2) (B := B) (by rw [t2]; exact modT_len (getT_len hB) (fun _ h => h) (Nat.le_refl _))
        rw [← t3] at e1
        have e2 := getT_len (v := p) e1
        rw [← t4] at e2
        have := e2 (y.nm, y.np, y.su) (List.mem_map.mpr ⟨y, mem4, rfl⟩)
        have hle := List.length_take_le i ps
        simp only at this; exact lin [_, _, _, _] (.le (.v 0) (.a (.v 1) (.v 2))) 1 (.c 1 (.le (.v 0) (.a (.v 1) (.v 3))) (.c 1 (.le (.v 3) (.v 2)) .e)) (Eq.refl true) this hle
      refine ⟨_, hp5, W5, by (simp; exact lin [_, _, _, _, _] (.le (.v 0) (.v 1)) 1 (.c 1 (.le (.a (.v 2) (.v 3)) (.v 1)) (.c 1 (.lt (.v 4) (.v 3)) (.c 1 (.le (.v 0) (.a (.v 2) (.v 4))) .e))) (Eq.refl true) hB2 hip hy), ?_⟩
      have H12 := Sh.perm H11 (o2 := ({ y with su := y.su ++ [v] } : Nd).objs ++ So.off ⟨a, d0, m, .none, pa, fi, l3 ++ y :: l4⟩ l3 l4 ((r, .froz o (.tuple (ps.map .str))) :: fr)) (by unfold Nd.objs; simp only [List.map_append, List.map_cons, List.map_nil]; exact pm [_, _, _] [_] (.c 0 (.c 1 (.c 2 (.l 0)))) (.a (.c 1 (.c 2 (.c 0 .n))) (.l 0)) rfl)
      have H13 := H12.perm (So.unfocus (S := ⟨a, d0, m, .none, pa, fi, l3 ++ y :: l4⟩) (x' := { y with su := y.su ++ [v] }) rfl rfl rfl)
      obtain ⟨t5, nd5⟩ := modT_split (x' := { y with su := y.su ++ [v] }) (f := fun e => (e.1, e.2 ++ [v])) nd4 rfl rfl
      (repeat (refine And.intro rfl ?_))
      refine (X.next ["pred", "pred_info"] _ (.mk ⟨_, nd5, ?_, ?_, H13.perm (by exact pm [_, _, _, _] [_, _] (.a (.c 0 (.c 1 (.c 2 (.l 0)))) (.c 3 (.l 1))) (.c 3 (.a (.c 0 (.c 1 (.c 2 (.l 0)))) (.l 1))) rfl)⟩))
      · rw [t5, nm4, t4, take_succ' hp1, List.foldl_append, t3]; rfl
      · simp at len4 ⊢; exact lin [_, _, _, _, _] (.le (.a (.v 0) (.a (.v 1) (.n 1))) (.a (.v 2) (.a (.v 3) (.n 1)))) 1 (.c 1 (.le (.v 4) (.a (.v 2) (.v 3))) (.c 1 (.le (.a (.v 0) (.a (.v 1) (.n 1))) (.a (.v 4) (.n 1))) .e)) (Eq.refl true) len3 len4
  · obtain ⟨ns', nd', t', _, H7⟩ := h
    (repeat (refine And.intro rfl ?_))
    have e : ((ps.map AV.str).map fun v => [v]).length = ps.length := by simp
    refine h0 ns' _ nd' ?_ H7.tl
    · rw [t', e, List.take_length, t2]; rfl
end Mine
end

section
open PySem PySem.W PyProof.Rows PySem.Calls PySem.Spec
set_option maxRecDepth 100000
set_option maxHeartbeats 1000000
namespace Mine

/-! ## the graph as the law holds it -/
structure Ge where
  v : Str
  ps : List Str
  l : Addr
noncomputable def Ge.obj (e : Ge) : Addr × AO := (e.l, .list (e.ps.map .str))
noncomputable def geD (es : List Ge) : AO := .dict (es.map fun e => (e.v, AV.ref e.l))
noncomputable def geT (es : List Ge) : Tri := es.foldl (fun T e => addT T e.v e.ps) []
noncomputable def geOk (es : List Ge) : Prop := es.length ≤ 64 ∧ ∀ e ∈ es, e.ps.length ≤ 8 ∧ ∀ p ∈ e.ps, p ∈ es.map (·.v)

theorem nodup_len {α : Type} [DecidableEq α] : ∀ {l m : List α}, l.Nodup → (∀ x ∈ l, x ∈ m) → l.length ≤ m.length
  | [], _, _, _ => Nat.zero_le _
  | x :: l, m, nd, h => by
    have nd' := List.nodup_cons.mp nd
    have hx : x ∈ m := h x (.head _)
    have := nodup_len (l := l) (m := m.erase x) nd'.2 fun y hy => (List.mem_erase_of_ne (fun z => nd'.1 (by rw [← z]; exact hy))).mpr (h y (.tail _ hy))
    rw [List.length_erase_of_mem hx] at this
    have : 0 < m.length := List.length_pos_of_mem hx
    simp only [List.length_cons]; omega

theorem names_getT {T : Tri} {v x : Str} (h : x ∈ (getT T v).map (·.1)) : x ∈ T.map (·.1) ∨ x = v := by
  unfold getT at h
  split at h
  · exact .inl h
  · rw [List.map_append] at h
    rcases List.mem_append.mp h with h | h
    · exact .inl h
    · exact .inr (by simpa using h)
theorem names_modT {T : Tri} {v : Str} {f : Int × List Str → Int × List Str} : (modT T v f).map (·.1) = T.map (·.1) := by
  unfold modT
  rw [List.map_map]
  refine List.map_congr_left fun e _ => ?_
  simp only [Function.comp]
  split <;> rfl
theorem names_fold {v x : Str} : ∀ {ps : List Str} {T : Tri}, x ∈ (ps.foldl (addP v) T).map (·.1) → x ∈ T.map (·.1) ∨ x ∈ ps
  | [], _, h => .inl h
  | p :: ps, T, h => by
    rcases names_fold (ps := ps) h with h | h
    · unfold addP at h
      rw [names_modT] at h
      rcases names_getT h with h | rfl
      · exact .inl h
      · exact .inr (.head _)
    · exact .inr (.tail _ h)
theorem names_addT {T : Tri} {v x : Str} {ps : List Str} (h : x ∈ (addT T v ps).map (·.1)) : x ∈ T.map (·.1) ∨ x = v ∨ x ∈ ps := by
  unfold addT at h
  rcases names_fold h with h | h
  · rw [names_modT] at h
    rcases names_getT h with h | h
    · exact .inl h
    · exact .inr (.inl h)
  · exact .inr (.inr h)
theorem names_triN (ns : List Nd) : (triN ns).map (·.1) = ns.map (·.nm) := by
  unfold triN; rw [List.map_map]; rfl
theorem ns_le {es : List Ge} {ns : List Nd} (nd : ndN ns) (h : ∀ x ∈ (triN ns).map (·.1), x ∈ es.map (·.v)) : ns.length ≤ es.length := by
  have nd' : (ns.map (·.nm)).Nodup := nd
  have := nodup_len (l := ns.map (·.nm)) (m := es.map (·.v)) nd' (fun x hx => h x (by rw [names_triN]; exact hx))
  simpa using this

theorem geT_names {es : List Ge} (ok : geOk es) (i : Nat) : ∀ x ∈ (geT (es.take i)).map (·.1), x ∈ es.map (·.v) := by
  have main : ∀ (l : List Ge) (T : Tri), (∀ e ∈ l, e ∈ es) → (∀ x ∈ T.map (·.1), x ∈ es.map (·.v)) → ∀ x ∈ (l.foldl (fun T e => addT T e.v e.ps) T).map (·.1), x ∈ es.map (·.v) := by
    intro l
    induction l with
    | nil => intro T _ h; exact h
    | cons e l ih =>
      intro T hl h
      refine ih _ (fun q hq => hl q (.tail _ hq)) fun x hx => ?_
      rcases names_addT hx with h' | rfl | h'
      · exact h x h'
      · exact List.mem_map_of_mem (hl e (.head _))
      · exact (ok.2 e (hl e (.head _))).2 x h'
  exact main _ [] (fun e he => List.mem_of_mem_take he) (fun _ h => nomatch h)
theorem addT_len {T : Tri} {v : Str} {ps : List Str} {B : Nat} (h : ∀ e ∈ T, e.2.2.length ≤ B) : ∀ e ∈ addT T v ps, e.2.2.length ≤ B + ps.length :=
  fold_len (modT_len (getT_len h) (fun _ h => h) (Nat.le_refl _))
theorem geT_len {es : List Ge} (ok : geOk es) : ∀ i, ∀ q ∈ geT (es.take i), q.2.2.length ≤ 8 * i
  | 0, q, h => by simp [geT] at h
  | i + 1, q, h => by
    cases hei : es[i]? with
    | none =>
      have e : es.take (i + 1) = es.take i := by rw [List.take_add_one, hei]; simp
      rw [e] at h
      have := geT_len ok i q h
      exact lin [_, _] (.le (.v 0) (.m 8 (.a (.v 1) (.n 1)))) 1 (.c 1 (.le (.v 0) (.m 8 (.v 1))) .e) (Eq.refl true) this
    | some e =>
      rw [take_succ' hei] at h
      unfold geT at h
      rw [List.foldl_append] at h
      have := addT_len (geT_len ok i) q h
      have := (ok.2 e (List.mem_of_getElem? hei)).1
      omega

/-- `TopologicalSorter.__init__` -/
theorem sinit_sem {N : Nat} (hN : 90 ≤ N) {ro : HP} {hp fr : HP} {cm : Bool} {sc : Scope} {a d0 g : Addr} {es : List Ge} (H : Sh hp ((a, .inst 130 d0) :: (d0, .attrs []) :: (g, geD es) :: (es.map Ge.obj ++ fr))) (ok : geOk es) {k : AV → HP → Prop}
    (h0 : ∀ m ns hp', ndN ns → triN ns = geT es → Sh hp' ((⟨a, d0, m, .none, 0, 0, ns⟩ : So).objs ++ ((g, geD es) :: (es.map Ge.obj ++ fr))) → k .none hp') : (sem N).C ⟨sc, ro, true, cm⟩ 66 [.ref a, .ref g] hp k := by
  obtain ⟨n, rfl⟩ := pull hN
  refine ⟨.inl fun m => ?_⟩
  (repeat (refine And.intro rfl ?_))
  have H1 : Sh _ ((d0, .attrs []) :: (a, .inst 130 d0) :: (m, .dict []) :: ((g, geD es) :: (es.map Ge.obj ++ fr))) := (H.push (r := m) (x := .dict [])).perm (by exact pm [_, _, _, _] [_, _] (.c 0 (.c 1 (.c 2 (.c 3 (.a (.l 0) (.l 1)))))) (.c 2 (.c 1 (.c 0 (.c 3 (.a (.l 0) (.l 1)))))) rfl)
  refine H1.wrK (.attrs [("_node2info", .ref m)]) fun hp1 W1 H2 => ?_
  refine ⟨d0, _, hp1, H1.has (.tail _ (.head _)), W1, .head _, by simp, ?_⟩
  (repeat (refine And.intro rfl ?_))
  refine H2.wrK (.attrs [("_node2info", .ref m), ("_ready_nodes", .none)]) fun hp2 W2 H3 => ?_
  refine ⟨d0, _, hp2, H2.has (.tail _ (.head _)), W2, .tail _ (.head _), by simp, ?_⟩
  (repeat (refine And.intro rfl ?_))
  refine H3.wrK (.attrs [("_node2info", .ref m), ("_ready_nodes", .none), ("_npassedout", .int 0)]) fun hp3 W3 H4 => ?_
  refine ⟨d0, _, hp3, H3.has (.tail _ (.head _)), W3, .tail _ (.tail _ (.head _)), by simp, ?_⟩
  (repeat (refine And.intro rfl ?_))
  refine H4.wrK (.attrs [("_node2info", .ref m), ("_ready_nodes", .none), ("_npassedout", .int 0), ("_nfinished", .int 0)]) fun hp4 W4 H5 => ?_
  refine ⟨d0, _, hp4, H4.has (.tail _ (.head _)), W4, .tail _ (.tail _ (.tail _ (.head _))), by simp, ?_⟩
  (repeat (refine And.intro rfl ?_))
  refine ⟨fun _ => ?_, fun hf => (nomatch hf)⟩
  have H6 : Sh hp4 ((g, geD es) :: ((⟨a, d0, m, .none, 0, 0, []⟩ : So).objs ++ (es.map Ge.obj ++ fr))) := H5.perm (by unfold So.objs So.attrs So.dict; show (_ :: _ :: _ :: _ :: (es.map Ge.obj ++ fr)).Perm (_ :: ((_ :: _ :: _ :: []) ++ (es.map Ge.obj ++ fr))); exact pm [_, _, _, _] [_, _] (.c 0 (.c 1 (.c 2 (.c 3 (.a (.l 0) (.l 1)))))) (.c 3 (.a (.c 1 (.c 0 (.c 2 .n))) (.a (.l 0) (.l 1)))) rfl)
  obtain ⟨hf, hw⟩ := H6.freeze
  refine ⟨.inr ⟨geD es, (es.map fun e => (e.v, AV.ref e.l)).map fun p => [.str p.1, p.2], hf, rfl, by simp; have := ok.1; unfold lim; exact lin [_] (.le (.v 0) (.n 1000000)) 1 (.c 1 (.le (.v 0) (.n 64)) .e) (Eq.refl true) this, fun o => (hw o).1, fun o => ?_⟩⟩
  have H7 := (hw o).2
  (repeat (refine And.intro rfl ?_))
  refine ⟨fun i => At [("self", .ref a), ("graph", .ref g)] fun hp => ∃ ns', ndN ns' ∧ triN ns' = geT (es.take i) ∧ Sh hp ((g, .froz o (geD es)) :: ((⟨a, d0, m, .none, 0, 0, ns'⟩ : So).objs ++ (es.map Ge.obj ++ fr))),
    .mk ⟨[], .nil, rfl, H7⟩, fun i => at1 fun _ h => ?_, fun i vs => at2 fun _ hi h kX X => ?_, at1 fun _ h => ?_⟩
  · obtain ⟨ns', _, _, h4⟩ := h
    exact h4.memF (.head _)
  · rw [List.getElem?_map, List.getElem?_map] at hi
    cases hei : es[i]? with
    | none => rw [hei] at hi; cases hi
    | some e =>
    rw [hei] at hi; cases hi
    obtain ⟨ns3, nd3, t3, H8⟩ := h
    have hem : e ∈ es := List.mem_of_getElem? hei
    obtain ⟨hps, hcl⟩ := ok.2 e hem
    have H9 := H8.perm (o2 := (⟨a, d0, m, .none, 0, 0, ns3⟩ : So).objs ++ ((g, .froz o (geD es)) :: (es.map Ge.obj ++ fr))) (by exact pm [_, _, _, _] [_, _, _] (.c 0 (.a (.c 1 (.c 2 (.c 3 (.l 0)))) (.a (.l 1) (.l 2)))) (.a (.c 1 (.c 2 (.c 3 (.l 0)))) (.c 0 (.a (.l 1) (.l 2)))) rfl)
    have hl3 := ns_le nd3 (es := es) (by rw [t3]; exact geT_names ok _)
    have hB3 : ∀ q ∈ triN ns3, q.2.2.length ≤ 8 * i := by rw [t3]; exact geT_len ok i
    have hil : i < es.length := (List.getElem?_eq_some_iff.mp hei).1
    have hes := ok.1
    · (repeat (refine And.intro rfl ?_))
      refine ⟨⟨a, d0, _, rfl, H9.has (.head _), H9.has (.tail _ (.head _)), attrs4⟩, rfl, ?_⟩
      (repeat (refine And.intro rfl ?_))
      refine ⟨e.ps.map .str, .inl (H9.has (List.mem_append_right _ (.tail _ (List.mem_append_left _ (List.mem_map_of_mem hem))))), by simp; unfold lim; exact lin [_] (.le (.v 0) (.n 1000000)) 1 (.c 1 (.le (.v 0) (.n 8)) .e) (Eq.refl true) hps, ?_⟩
      (repeat (refine And.intro rfl ?_))
      refine .mk ?_
      refine (?_ : (sem _).C _ 80 (.ref a :: .str e.v :: (e.ps.map .str ++ [])) _ _)
      rw [List.append_nil]
      refine add_sem (by (first | exact Mine.fu rfl | exact Mine.lm0 (by assumption) rfl | omega)) H9 nd3 (by exact lin [_, _, _] (.le (.a (.a (.v 0) (.v 1)) (.n 1)) (.n 100)) 1 (.c 1 (.le (.v 1) (.n 8)) (.c 1 (.le (.v 0) (.v 2)) (.c 1 (.le (.v 2) (.n 64)) .e))) (Eq.refl true) hps hl3 hes) hB3 (by unfold lim; exact lin [_, _, _] (.le (.a (.m 8 (.v 0)) (.v 1)) (.n 1000000)) 1 (.c 1 (.le (.v 1) (.n 8)) (.c 8 (.lt (.v 0) (.v 2)) (.c 8 (.le (.v 2) (.n 64)) .e))) (Eq.refl true) hps hil hes) fun ns4 hp5 nd4 t4 H10 => ?_
      (repeat (refine And.intro rfl ?_))
      refine (X.next ["node", "predecessors"] _ (.mk ⟨ns4, nd4, ?_, H10.perm (by exact pm [_, _, _, _] [_, _, _] (.a (.c 0 (.c 1 (.c 2 (.l 0)))) (.c 3 (.a (.l 1) (.l 2)))) (.c 3 (.a (.c 0 (.c 1 (.c 2 (.l 0)))) (.a (.l 1) (.l 2)))) rfl)⟩))
      rw [t4, t3, take_succ' hei]
      unfold geT
      rw [List.foldl_append]; rfl
  · obtain ⟨ns', nd', t', H8⟩ := h
    (repeat (refine And.intro rfl ?_))
    have e : ((es.map fun e => (e.v, AV.ref e.l)).map fun p => [AV.str p.1, p.2]).length = es.length := by simp
    refine h0 m ns' _ nd' (by rw [t', e, List.take_length]) ((Sh.thaw H8 rfl).perm (by exact pm [_, _, _, _] [_, _, _] (.c 0 (.a (.c 1 (.c 2 (.c 3 (.l 0)))) (.a (.l 1) (.l 2)))) (.a (.c 1 (.c 2 (.c 3 (.l 0)))) (.c 0 (.a (.l 1) (.l 2)))) rfl))
end Mine
end

section
open PySem PySem.W PyProof.Rows PySem.Calls PySem.Spec
set_option maxRecDepth 100000
set_option maxHeartbeats 1000000
namespace Mine

/-! ## the sorter once it is made: functions of the names -/
structure Sf where
  a : Addr
  d0 : Addr
  m : Addr
  V : List Str
  n : Str → Addr
  d : Str → Addr
  s : Str → Addr
  su : Str → List Str
structure Sf.Ok (Z : Sf) : Prop where
  nd : Z.V.Nodup
  len : Z.V.length ≤ 64
  su : ∀ v ∈ Z.V, ∀ x ∈ Z.su v, x ∈ Z.V
  sl : ∀ v ∈ Z.V, (Z.su v).length ≤ 1000
noncomputable def Sf.core (Z : Sf) (rd : AV) (pa fi : Int) : HP := [(Z.a, .inst 130 Z.d0), (Z.d0, .attrs [("_node2info", .ref Z.m), ("_ready_nodes", rd), ("_npassedout", .int pa), ("_nfinished", .int fi)]), (Z.m, .dict (Z.V.map fun v => (v, AV.ref (Z.n v))))]
noncomputable def Sf.nodeO (Z : Sf) (np : Str → Int) (v : Str) : Addr × AO := (Z.n v, .node (Z.d v) (some (.str v)) (some (.int (np v))) (some (.ref (Z.s v))))
noncomputable def Sf.nod (Z : Sf) (np : Str → Int) : HP := Z.V.map (Z.nodeO np)
noncomputable def Sf.att (Z : Sf) : HP := Z.V.map fun v => (Z.d v, .attrs [])
noncomputable def Sf.listO (Z : Sf) (v : Str) : Addr × AO := (Z.s v, .list ((Z.su v).map .str))
noncomputable def Sf.lis (Z : Sf) : HP := Z.V.map Z.listO
noncomputable def Sf.all (Z : Sf) (rd : AV) (pa fi : Int) (np : Str → Int) (fr : HP) : HP := Z.core rd pa fi ++ (Z.nod np ++ (Z.att ++ fr))
noncomputable def setF (np : Str → Int) (v : Str) (c : Int) : Str → Int := fun x => if x = v then c else np x
theorem setF_self {np : Str → Int} {v : Str} {c : Int} : setF np v c v = c := by simp [setF]
theorem setF_ne {np : Str → Int} {v x : Str} {c : Int} (h : x ≠ v) : setF np v c x = np x := by simp [setF, h]

theorem lk_V {Z : Sf} {v : Str} (h : v ∈ Z.V) : (Z.V.map fun v => (v, AV.ref (Z.n v))).lookup v = some (.ref (Z.n v)) := by
  generalize Z.V = V at h
  induction V with
  | nil => cases h
  | cons x V ih =>
    rw [List.map_cons, List.lookup_cons]
    by_cases e : v = x
    · subst e; simp
    · rw [beq_eq_false_iff_ne.mpr e]
      exact ih (by rcases List.mem_cons.mp h with h | h; exact absurd h e; exact h)
theorem nod_focus {Z : Sf} {np : Str → Int} {v : Str} (h : v ∈ Z.V) : (Z.nod np).Perm (Z.nodeO np v :: (Z.V.erase v).map (Z.nodeO np)) := by
  unfold Sf.nod
  exact (List.perm_cons_erase h).map _
theorem nod_unfocus {Z : Sf} {np : Str → Int} {v : Str} {c : Int} (nd : Z.V.Nodup) (h : v ∈ Z.V) : ((Z.n v, AO.node (Z.d v) (some (.str v)) (some (.int c)) (some (.ref (Z.s v)))) :: (Z.V.erase v).map (Z.nodeO np)).Perm (Z.nod (setF np v c)) := by
  refine List.Perm.trans ?_ (nod_focus (np := setF np v c) h).symm
  have e1 : Z.nodeO (setF np v c) v = (Z.n v, .node (Z.d v) (some (.str v)) (some (.int c)) (some (.ref (Z.s v)))) := by unfold Sf.nodeO; rw [setF_self]
  have e2 : (Z.V.erase v).map (Z.nodeO (setF np v c)) = (Z.V.erase v).map (Z.nodeO np) := List.map_congr_left fun x hx => by
    have : x ≠ v := fun z => by subst z; exact (List.Nodup.not_mem_erase nd) hx
    unfold Sf.nodeO; rw [setF_ne this]
  rw [e1, e2]

section
variable {hp fr : HP} {Z : Sf} {rd : AV} {pa fi : Int} {np : Str → Int} {v : Str} {ro : HP}
theorem Sf.hA (H : Sh hp (Z.all rd pa fi np fr)) : Has ro hp Z.a (.inst 130 Z.d0) := H.has (.head _)
theorem Sf.hB (H : Sh hp (Z.all rd pa fi np fr)) : Has ro hp Z.d0 (.attrs [("_node2info", .ref Z.m), ("_ready_nodes", rd), ("_npassedout", .int pa), ("_nfinished", .int fi)]) := H.has (.tail _ (.head _))
theorem Sf.hM (H : Sh hp (Z.all rd pa fi np fr)) : Has ro hp Z.m (.dict (Z.V.map fun v => (v, AV.ref (Z.n v)))) := H.has (.tail _ (.tail _ (.head _)))
theorem Sf.hN (H : Sh hp (Z.all rd pa fi np fr)) (h : v ∈ Z.V) : Has ro hp (Z.n v) (.node (Z.d v) (some (.str v)) (some (.int (np v))) (some (.ref (Z.s v)))) :=
  H.has (List.mem_append_right _ (List.mem_append_left _ (List.mem_map.mpr ⟨v, h, rfl⟩)))
theorem Sf.hD (H : Sh hp (Z.all rd pa fi np fr)) (h : v ∈ Z.V) : Has ro hp (Z.d v) (.attrs []) :=
  H.has (List.mem_append_right _ (List.mem_append_right _ (List.mem_append_left _ (List.mem_map.mpr ⟨v, h, rfl⟩))))
theorem Sf.hF (H : Sh hp (Z.all rd pa fi np fr)) {b : Addr} {x : AO} (h : (b, x) ∈ fr) : Has ro hp b x :=
  H.has (List.mem_append_right _ (List.mem_append_right _ (List.mem_append_right _ h)))
/-- a node's count, written -/
theorem Sf.setN (nd : Z.V.Nodup) (H : Sh hp (Z.all rd pa fi np fr)) (h : v ∈ Z.V) (c : Int) : ∃ hp', Wr (Z.n v) (.node (Z.d v) (some (.str v)) (some (.int (np v))) (some (.ref (Z.s v)))) (.node (Z.d v) (some (.str v)) (some (.int c)) (some (.ref (Z.s v)))) hp hp' ∧ Sh hp' (Z.all rd pa fi (setF np v c) fr) := by
  have p1 : (Z.all rd pa fi np fr).Perm (Z.nodeO np v :: ((Z.V.erase v).map (Z.nodeO np) ++ (Z.core rd pa fi ++ (Z.att ++ fr)))) := by
    unfold Sf.all
    refine ((List.Perm.append_left _ ((nod_focus h).append_right _))).trans ?_
    generalize Z.nodeO np v = q
    exact pm [_] [_, _, _, _] (.a (.l 0) (.a (.c 0 (.l 1)) (.a (.l 2) (.l 3)))) (.c 0 (.a (.l 1) (.a (.l 0) (.a (.l 2) (.l 3))))) rfl
  obtain ⟨hp', W, H'⟩ := (H.perm p1).wr (.node (Z.d v) (some (.str v)) (some (.int c)) (some (.ref (Z.s v))))
  refine ⟨hp', W, H'.perm ?_⟩
  refine List.Perm.trans (l₂ := Z.nod (setF np v c) ++ (Z.core rd pa fi ++ (Z.att ++ fr))) ?_ ?_
  · have := (nod_unfocus (np := np) (c := c) nd h).append_right (Z.core rd pa fi ++ (Z.att ++ fr))
    exact this
  · unfold Sf.all
    exact pm [] [_, _, _, _] (.a (.l 0) (.a (.l 1) (.a (.l 2) (.l 3)))) (.a (.l 1) (.a (.l 0) (.a (.l 2) (.l 3)))) rfl
theorem Sf.setNK {P : Prop} (nd : Z.V.Nodup) (H : Sh hp (Z.all rd pa fi np fr)) (h : v ∈ Z.V) (c : Int) (f : ∀ hp', Wr (Z.n v) (.node (Z.d v) (some (.str v)) (some (.int (np v))) (some (.ref (Z.s v)))) (.node (Z.d v) (some (.str v)) (some (.int c)) (some (.ref (Z.s v)))) hp hp' → Sh hp' (Z.all rd pa fi (setF np v c) fr) → P) : P := let ⟨h, w, s⟩ := Sf.setN nd H h c; f h w s
/-- the attributes, written -/
theorem Sf.setC (H : Sh hp (Z.all rd pa fi np fr)) (rd' : AV) (pa' fi' : Int) : ∃ hp', Wr Z.d0 (.attrs [("_node2info", .ref Z.m), ("_ready_nodes", rd), ("_npassedout", .int pa), ("_nfinished", .int fi)]) (.attrs [("_node2info", .ref Z.m), ("_ready_nodes", rd'), ("_npassedout", .int pa'), ("_nfinished", .int fi')]) hp hp' ∧ Sh hp' (Z.all rd' pa' fi' np fr) := by
  have p1 : (Z.all rd pa fi np fr).Perm ((Z.d0, .attrs [("_node2info", .ref Z.m), ("_ready_nodes", rd), ("_npassedout", .int pa), ("_nfinished", .int fi)]) :: (Z.a, .inst 130 Z.d0) :: (Z.m, .dict (Z.V.map fun v => (v, AV.ref (Z.n v)))) :: (Z.nod np ++ (Z.att ++ fr))) := by
    unfold Sf.all Sf.core; exact pm [_, _, _] [_, _, _] (.a (.c 0 (.c 1 (.c 2 .n))) (.a (.l 0) (.a (.l 1) (.l 2)))) (.c 1 (.c 0 (.c 2 (.a (.l 0) (.a (.l 1) (.l 2)))))) rfl
  obtain ⟨hp', W, H'⟩ := (H.perm p1).wr (.attrs [("_node2info", .ref Z.m), ("_ready_nodes", rd'), ("_npassedout", .int pa'), ("_nfinished", .int fi')])
  exact ⟨hp', W, H'.perm (by exact pm [_, _, _] [_, _, _] (.c 0 (.c 1 (.c 2 (.a (.l 0) (.a (.l 1) (.l 2)))))) (.a (.c 1 (.c 0 (.c 2 .n))) (.a (.l 0) (.a (.l 1) (.l 2)))) rfl)⟩
theorem Sf.setCK {P : Prop} (H : Sh hp (Z.all rd pa fi np fr)) (rd' : AV) (pa' fi' : Int) (f : ∀ hp', Wr Z.d0 (.attrs [("_node2info", .ref Z.m), ("_ready_nodes", rd), ("_npassedout", .int pa), ("_nfinished", .int fi)]) (.attrs [("_node2info", .ref Z.m), ("_ready_nodes", rd'), ("_npassedout", .int pa'), ("_nfinished", .int fi')]) hp hp' → Sh hp' (Z.all rd' pa' fi' np fr) → P) : P := let ⟨h, w, s⟩ := Sf.setC H rd' pa' fi'; f h w s
/-- an object of the rest, written -/
theorem Sf.setR {b : Addr} {x : AO} {fr : HP} (H : Sh hp (Z.all rd pa fi np ((b, x) :: fr))) (x' : AO) : ∃ hp', Wr b x x' hp hp' ∧ Sh hp' (Z.all rd pa fi np ((b, x') :: fr)) := by
  have p1 : ∀ y, (Z.all rd pa fi np ((b, y) :: fr)).Perm ((b, y) :: Z.all rd pa fi np fr) := fun y => by exact pm [_] [_, _, _, _] (.a (.l 0) (.a (.l 1) (.a (.l 2) (.c 0 (.l 3))))) (.c 0 (.a (.l 0) (.a (.l 1) (.a (.l 2) (.l 3))))) rfl
  obtain ⟨hp', W, H'⟩ := (H.perm (p1 x)).wr x'
  exact ⟨hp', W, H'.perm (p1 x').symm⟩
theorem Sf.setRK {P : Prop} {b : Addr} {x : AO} {fr : HP} (H : Sh hp (Z.all rd pa fi np ((b, x) :: fr))) (x' : AO) (f : ∀ hp', Wr b x x' hp hp' → Sh hp' (Z.all rd pa fi np ((b, x') :: fr)) → P) : P := let ⟨h, w, s⟩ := Sf.setR H x'; f h w s
theorem Sf.setRF {b : Addr} {o : Obj} {x : AO} {fr : HP} (H : Sh hp (Z.all rd pa fi np ((b, .froz o x) :: fr))) (x' : AO) : ∃ hp', Wr b x x' hp hp' ∧ Sh hp' (Z.all rd pa fi np ((b, x') :: fr)) := by
  have p1 : ∀ y, (Z.all rd pa fi np ((b, y) :: fr)).Perm ((b, y) :: Z.all rd pa fi np fr) := fun y => by exact pm [_] [_, _, _, _] (.a (.l 0) (.a (.l 1) (.a (.l 2) (.c 0 (.l 3))))) (.c 0 (.a (.l 0) (.a (.l 1) (.a (.l 2) (.l 3))))) rfl
  obtain ⟨hp', W, H'⟩ := (H.perm (p1 _)).wrF x'
  exact ⟨hp', W, H'.perm (p1 x').symm⟩
theorem Sf.pushR {b : Addr} {x : AO} (H : Sh hp (Z.all rd pa fi np fr)) : Sh ((b, x) :: hp) (Z.all rd pa fi np ((b, x) :: fr)) :=
  (H.push (r := b) (x := x)).perm (by exact pm [_] [_, _, _, _] (.c 0 (.a (.l 0) (.a (.l 1) (.a (.l 2) (.l 3))))) (.a (.l 0) (.a (.l 1) (.a (.l 2) (.c 0 (.l 3))))) rfl)
theorem Sf.permR {fr' : HP} (H : Sh hp (Z.all rd pa fi np fr)) (p : fr.Perm fr') : Sh hp (Z.all rd pa fi np fr') :=
  H.perm (by unfold Sf.all; exact List.Perm.append_left _ (List.Perm.append_left _ (List.Perm.append_left _ p)))
theorem Sf.freezeR {b : Addr} {x : AO} {fr : HP} (H : Sh hp (Z.all rd pa fi np ((b, x) :: fr))) : ∃ hf : Obj → HP, ∀ o, Wr b x (.froz o x) hp (hf o) ∧ Sh (hf o) (Z.all rd pa fi np ((b, .froz o x) :: fr)) := by
  have p1 : ∀ y, (Z.all rd pa fi np ((b, y) :: fr)).Perm ((b, y) :: Z.all rd pa fi np fr) := fun y => by exact pm [_] [_, _, _, _] (.a (.l 0) (.a (.l 1) (.a (.l 2) (.c 0 (.l 3))))) (.c 0 (.a (.l 0) (.a (.l 1) (.a (.l 2) (.l 3))))) rfl
  obtain ⟨hf, hw⟩ := (H.perm (p1 x)).freeze
  exact ⟨hf, fun o => ⟨(hw o).1, (hw o).2.perm (p1 _).symm⟩⟩
theorem Sf.thawR {b : Addr} {o : Obj} {x : AO} {fr : HP} (H : Sh hp (Z.all rd pa fi np ((b, .froz o x) :: fr))) (hx : isFz x = false) : Sh hp (Z.all rd pa fi np ((b, x) :: fr)) := by
  have p1 : ∀ y, (Z.all rd pa fi np ((b, y) :: fr)).Perm ((b, y) :: Z.all rd pa fi np fr) := fun y => by exact pm [_] [_, _, _, _] (.a (.l 0) (.a (.l 1) (.a (.l 2) (.c 0 (.l 3))))) (.c 0 (.a (.l 0) (.a (.l 1) (.a (.l 2) (.l 3))))) rfl
  exact ((H.perm (p1 _)).thaw hx).perm (p1 x).symm
theorem Sf.tlR {p : Addr × AO} {fr : HP} (H : Sh hp (Z.all rd pa fi np (p :: fr))) : Sh hp (Z.all rd pa fi np fr) :=
  (H.perm (o2 := p :: Z.all rd pa fi np fr) (by exact pm [_] [_, _, _, _] (.a (.l 0) (.a (.l 1) (.a (.l 2) (.c 0 (.l 3))))) (.c 0 (.a (.l 0) (.a (.l 1) (.a (.l 2) (.l 3))))) rfl)).tl
theorem Sf.memR {b : Addr} {o : Obj} {x : AO} (H : Sh hp (Z.all rd pa fi np fr)) (h : (b, AO.froz o x) ∈ fr) : (b, AO.froz o x) ∈ hp :=
  H.memF (List.mem_append_right _ (List.mem_append_right _ (List.mem_append_right _ h)))
end

/-- `is_active` -/
theorem active_sem {N : Nat} (hN : 50 ≤ N) {ro : HP} {hp fr : HP} {cm : Bool} {sc : Scope} {Z : Sf} {rl : Addr} {rs : List Str} {pa fi : Int} {np : Str → Int} (H : Sh hp (Z.all (.ref rl) pa fi np fr)) (hr : (rl, AO.list (rs.map .str)) ∈ fr) (hrs : rs.length ≤ 1000) {k : AV → HP → Prop}
    (h0 : k (.bool (decide (fi < pa) || !rs.isEmpty)) hp) : (sem N).C ⟨sc, ro, true, cm⟩ 99 [.ref Z.a] hp k := by
  obtain ⟨n, rfl⟩ := pull hN
  (repeat (refine And.intro rfl ?_))
  refine ⟨Z.d0, _, Sf.hA H, Sf.hB H, .tail _ (.head _), _, rfl, rfl, ?_⟩
  (repeat (refine And.intro rfl ?_))
  refine ⟨fun hf => (nomatch hf), fun _ => ?_⟩
  (repeat (refine And.intro rfl ?_))
  refine ⟨Z.d0, _, Sf.hA H, Sf.hB H, .tail _ (.tail _ (.tail _ (.head _))), _, rfl, rfl, ?_⟩
  (repeat (refine And.intro rfl ?_))
  refine ⟨Z.d0, _, Sf.hA H, Sf.hB H, .tail _ (.tail _ (.head _)), _, rfl, rfl, ?_⟩
  (repeat (refine And.intro rfl ?_))
  refine ⟨fun hb => ?_, fun hb => ?_⟩
  · (repeat (refine And.intro rfl ?_))
    refine ⟨Z.d0, _, Sf.hA H, Sf.hB H, .tail _ (.head _), _, rfl, rfl, ?_⟩
    (repeat (refine And.intro rfl ?_))
    refine ⟨rs.map .str, Sf.hF H hr, by simp; exact Nat.le_trans hrs (by decide), ?_⟩
    have e : (rs.map AV.str).isEmpty = rs.isEmpty := by cases rs <;> rfl
    rw [hb, Bool.false_or, ← e] at h0
    exact h0
  · rw [hb] at h0
    (conv => whnf)
    have e : (AV.bool (decide (fi < pa))) = .bool true := by rw [hb]
    refine (?_ : k (.bool (decide (fi < pa))) hp)
    rw [e]; exact h0

/-- `get_ready` -/
theorem ready_sem {N : Nat} (hN : 60 ≤ N) {ro : HP} {hp fr : HP} {cm : Bool} {sc : Scope} {Z : Sf} (ok : Z.Ok) {rl : Addr} {rs : List Str} {pa fi : Int} {np : Str → Int} (H : Sh hp (Z.all (.ref rl) pa fi np ((rl, AO.list (rs.map .str)) :: fr))) (hv : ∀ v ∈ rs, v ∈ Z.V) (hrs : rs.length ≤ 1000) {k : AV → HP → Prop}
    (h0 : ∀ t hp', Sh hp' (Z.all (.ref rl) (pa + rs.length) fi (rs.foldl (fun np v => setF np v (-1)) np) ((t, .tuple (rs.map .str)) :: (rl, .list []) :: fr)) → k (.ref t) hp') : (sem N).C ⟨sc, ro, true, cm⟩ 92 [.ref Z.a] hp k := by
  obtain ⟨n, rfl⟩ := pull hN
  have hlim : rs.length ≤ lim := Nat.le_trans hrs (by decide)
  (repeat (refine And.intro rfl ?_))
  refine ⟨Z.d0, _, Sf.hA H, Sf.hB H, .tail _ (.head _), _, rfl, rfl, ?_⟩
  (repeat (refine And.intro rfl ?_))
  refine ⟨fun hf => (nomatch hf), fun _ => ?_⟩
  (repeat (refine And.intro rfl ?_))
  refine ⟨Z.d0, _, Sf.hA H, Sf.hB H, .tail _ (.head _), _, rfl, rfl, ?_⟩
  (repeat (refine And.intro rfl ?_))
  refine ⟨rs.map .str, Sf.hF H (.head _), by simpa using hlim, fun t => ?_⟩
  have H1 := Sf.pushR (b := t) (x := .tuple (rs.map .str)) H
  (repeat (refine And.intro rfl ?_))
  refine ⟨Z.d0, _, Sf.hA H1, Sf.hB H1, .head _, _, rfl, rfl, ?_⟩
  obtain ⟨hf, hw⟩ := Sf.freezeR H1
  refine ⟨.inr ⟨.tuple (rs.map .str), (rs.map AV.str).map (fun v => [v]), hf, rfl, by simpa using hlim, fun o => (hw o).1, fun o => ?_⟩⟩
  have H2 := (hw o).2
  (repeat (refine And.intro rfl ?_))
  refine ⟨fun i => At [("self", .ref Z.a), ("result", .ref t), ("n2i", .ref Z.m)] fun hp => Sh hp (Z.all (.ref rl) pa fi ((rs.take i).foldl (fun np v => setF np v (-1)) np) ((t, .froz o (.tuple (rs.map .str))) :: (rl, AO.list (rs.map .str)) :: fr)),
    .mk H2, fun i => at1 fun _ h => Sf.memR h (.head _), fun i vs => at2 fun _ hi H3 kX X => ?_, at1 fun _ H3 => ?_⟩
  · apply items_strK hi; intro v hv1
    have hvV := hv v (List.mem_of_getElem? hv1)
    · (repeat (refine And.intro rfl ?_))
      refine ⟨_, _, Sf.hM H3, lk_V hvV, ?_⟩
      (repeat (refine And.intro rfl ?_))
      refine Sf.setNK ok.nd H3 hvV (-1) fun hp4 W4 H4 => ?_
      refine ⟨Z.d v, _, _, _, _, hp4, Sf.hD H3 hvV, W4, ?_⟩
      (repeat (refine And.intro rfl ?_))
      refine (X.next ["node"] _ (.mk ?_))
      rw [take_succ' hv1, List.foldl_append]
      exact H4
  · have e : ((rs.map AV.str).map fun v => [v]).length = rs.length := by simp
    rw [e, List.take_length] at H3
    have H4 := Sf.permR (Sf.thawR H3 rfl) (fr' := (rl, AO.list (rs.map .str)) :: (t, .tuple (rs.map .str)) :: fr) (List.Perm.swap ..)
    · (repeat (refine And.intro rfl ?_))
      refine ⟨Z.d0, _, Sf.hA H4, Sf.hB H4, .tail _ (.head _), _, rfl, rfl, ?_⟩
      (repeat (refine And.intro rfl ?_))
      refine ⟨.list, ⟨rl, _, rfl, Sf.hF H4 (.head _)⟩, rfl, ?_⟩
      (repeat (refine And.intro rfl ?_))
      refine Sf.setRK H4 (.list []) fun hp5 W5 H5 => ?_
      refine ⟨_, hp5, W5, by simpa using hlim, ?_⟩
      (repeat (refine And.intro rfl ?_))
      refine ⟨Z.d0, _, Sf.hA H5, Sf.hB H5, .tail _ (.tail _ (.head _)), _, rfl, rfl, ?_⟩
      refine ⟨.inr (.inl ⟨rs.map .str, Sf.hF H5 (.tail _ (.head _)), by simpa using hlim, ?_⟩)⟩
      (repeat (refine And.intro rfl ?_))
      refine Sf.setCK H5 (.ref rl) (pa + (rs.map AV.str).length) fi fun hp6 W6 H6 => ?_
      refine ⟨Z.d0, _, hp6, Sf.hA H5, W6, .tail _ (.tail _ (.head _)), by simp, ?_⟩
      (repeat (refine And.intro rfl ?_))
      refine h0 t hp6 (Sf.permR ?_ (List.Perm.swap ..))
      simpa using H6
end Mine
end

section
open PySem PySem.W PyProof.Rows PySem.Calls PySem.Spec
set_option maxRecDepth 100000
set_option maxHeartbeats 2000000
namespace Mine

noncomputable abbrev Sd := (Str → Int) × List Str
noncomputable def dS (st : Sd) (x : Str) : Sd := (setF st.1 x (st.1 x - 1), if st.1 x - 1 = 0 then st.2 ++ [x] else st.2)
noncomputable def dN (Z : Sf) (st : Sd) (v : Str) : Sd := (Z.su v).foldl dS (setF st.1 v (-2), st.2)
theorem dS_len {l : List Str} : ∀ {st : Sd}, (l.foldl dS st).2.length ≤ st.2.length + l.length := by
  induction l with
  | nil => intro st; exact Nat.le_refl _
  | cons x l ih =>
    intro st
    have := ih (st := dS st x)
    have h : (dS st x).2.length ≤ st.2.length + 1 := by
      unfold dS
      simp only
      split <;> simp
    simp only [List.foldl_cons, List.length_cons]; exact lin [_, _, _, _] (.le (.v 0) (.a (.v 1) (.a (.v 2) (.n 1)))) 1 (.c 1 (.le (.v 0) (.a (.v 3) (.v 2))) (.c 1 (.le (.v 3) (.a (.v 1) (.n 1))) .e)) (Eq.refl true) this h
theorem dN_len {Z : Sf} (ok : Z.Ok) {l : List Str} : ∀ {st : Sd}, (∀ v ∈ l, v ∈ Z.V) → (l.foldl (dN Z) st).2.length ≤ st.2.length + 1000 * l.length := by
  induction l with
  | nil => intro st _; exact Nat.le_refl _
  | cons v l ih =>
    intro st hv
    have h1 := ih (st := dN Z st v) (fun x hx => hv x (.tail _ hx))
    have h2 : (dN Z st v).2.length ≤ st.2.length + (Z.su v).length := dS_len (st := (setF st.1 v (-2), st.2))
    have := ok.sl v (hv v (.head _))
    simp only [List.foldl_cons, List.length_cons]; exact lin [_, _, _, _, _] (.le (.v 0) (.a (.v 1) (.m 1000 (.a (.v 2) (.n 1))))) 1 (.c 1 (.le (.v 0) (.a (.v 3) (.m 1000 (.v 2)))) (.c 1 (.le (.v 3) (.a (.v 1) (.v 4))) (.c 1 (.le (.v 4) (.n 1000)) .e))) (Eq.refl true) h1 h2 this

/-- `done` -/
theorem done_sem {N : Nat} (hN : 80 ≤ N) {ro : HP} {hp fr : HP} {cm : Bool} {sc : Scope} {Z : Sf} (ok : Z.Ok) {rl : Addr} {rs vs : List Str} {pa fi : Int} {np : Str → Int} (H : Sh hp (Z.all (.ref rl) pa fi np ((rl, AO.list (rs.map .str)) :: (Z.lis ++ fr)))) (hv : ∀ v ∈ vs, v ∈ Z.V) (hvl : vs.length ≤ 64) (hrs : rs.length ≤ 1000)
    (hout : ∀ i v, vs[i]? = some v → ((vs.take i).foldl (dN Z) (np, rs)).1 v = -1) {k : AV → HP → Prop}
    (h0 : ∀ hp', Sh hp' (Z.all (.ref rl) pa (fi + vs.length) (vs.foldl (dN Z) (np, rs)).1 ((rl, .list ((vs.foldl (dN Z) (np, rs)).2.map .str)) :: (Z.lis ++ fr))) → k .none hp') : (sem N).C ⟨sc, ro, true, cm⟩ 113 (.ref Z.a :: vs.map .str) hp k := by
  obtain ⟨n, rfl⟩ := pull hN
  (repeat (refine And.intro rfl ?_))
  refine ⟨by simp [fnNames], by simp; unfold lim; exact lin [_] (.le (.a (.v 0) (.n 1)) (.n 1000000)) 1 (.c 1 (.le (.v 0) (.n 64)) .e) (Eq.refl true) hvl, fun r => ?_⟩
  have H1 := Sf.pushR (b := r) (x := .tuple (vs.map .str)) H
  (repeat (refine And.intro rfl ?_))
  refine ⟨Z.d0, _, Sf.hA H1, Sf.hB H1, .tail _ (.head _), _, rfl, rfl, ?_⟩
  (repeat (refine And.intro rfl ?_))
  refine ⟨fun hf => (nomatch hf), fun _ => ?_⟩
  (repeat (refine And.intro rfl ?_))
  refine ⟨Z.d0, _, Sf.hA H1, Sf.hB H1, .head _, _, rfl, rfl, ?_⟩
  obtain ⟨hf, hw⟩ := Sf.freezeR H1
  refine ⟨.inr ⟨.tuple (vs.map .str), (vs.map AV.str).map (fun v => [v]), hf, rfl, by simp; unfold lim; exact lin [_] (.le (.v 0) (.n 1000000)) 1 (.c 1 (.le (.v 0) (.n 64)) .e) (Eq.refl true) hvl, fun o => (hw o).1, fun o => ?_⟩⟩
  have H2 := (hw o).2
  (repeat (refine And.intro rfl ?_))
  refine ⟨fun i => At [("self", .ref Z.a), ("nodes", .ref r), ("n2i", .ref Z.m)] fun hp => Sh hp (Z.all (.ref rl) pa (fi + (i : Nat)) ((vs.take i).foldl (dN Z) (np, rs)).1 ((r, .froz o (.tuple (vs.map .str))) :: (rl, AO.list (((vs.take i).foldl (dN Z) (np, rs)).2.map .str)) :: (Z.lis ++ fr))),
    .mk (by simpa using H2), fun i => at1 fun _ h => Sf.memR h (.head _), fun i us => at2 fun _ hi H3 kX X => ?_, at1 fun _ H3 => ?_⟩
  · apply items_strK hi; intro v hv1
    have hvV := hv v (List.mem_of_getElem? hv1)
    have hst := hout i v hv1
    have hsl := ok.sl v hvV
    have hsd2 : ((vs.take i).foldl (dN Z) (np, rs)).2.length ≤ 1000 + 64000 := by
      have := dN_len ok (l := vs.take i) (st := (np, rs)) fun x hx => hv x (List.mem_of_mem_take hx)
      have h2 : (vs.take i).length ≤ vs.length := by rw [List.length_take]; exact Nat.min_le_right _ _
      simp only at this; exact lin [_, _, _, _] (.le (.v 0) (.a (.n 1000) (.n 64000))) 1 (.c 1000 (.le (.v 1) (.n 64)) (.c 1 (.le (.v 2) (.n 1000)) (.c 1 (.le (.v 0) (.a (.v 2) (.m 1000 (.v 3)))) (.c 1000 (.le (.v 3) (.v 1)) .e)))) (Eq.refl true) hvl hrs this h2
    generalize hsd : (vs.take i).foldl (dN Z) (np, rs) = sd at *
    · (repeat (refine And.intro rfl ?_))
      refine ⟨.dict, ⟨Z.m, _, rfl, Sf.hM H3⟩, rfl, ?_⟩
      (repeat (refine And.intro rfl ?_))
      refine ⟨_, Sf.hM H3, ?_⟩
      rw [lk_V hvV]
      (repeat (refine And.intro rfl ?_))
      refine ⟨fun hf => (nomatch hf), fun _ => ?_⟩
      (repeat (refine And.intro rfl ?_))
      refine ⟨Z.d v, _, _, _, _, Sf.hN H3 hvV, Sf.hD H3 hvV, rfl, ?_⟩
      rw [hst]
      (repeat (refine And.intro rfl ?_))
      refine ⟨fun hf => (nomatch hf), fun _ => ?_⟩
      (repeat (refine And.intro rfl ?_))
      refine Sf.setNK ok.nd H3 hvV (-2) fun hp4 W4 H4 => ?_
      refine ⟨Z.d v, _, _, _, _, hp4, Sf.hD H3 hvV, W4, ?_⟩
      (repeat (refine And.intro rfl ?_))
      have H5 : Sh hp4 (Z.all (.ref rl) pa (fi + (i : Nat)) (setF sd.1 v (-2)) ((Z.s v, AO.list ((Z.su v).map .str)) :: (rl, AO.list (sd.2.map .str)) :: (r, .froz o (.tuple (vs.map .str))) :: ((Z.V.erase v).map Z.listO ++ fr))) :=
        Sf.permR H4 (by
          have p1 : Z.lis.Perm (Z.listO v :: (Z.V.erase v).map Z.listO) := (List.perm_cons_erase hvV).map _
          refine List.Perm.trans (List.Perm.cons _ (List.Perm.cons _ (p1.append_right fr))) ?_
          refine (?_ : (_ :: _ :: ((Z.s v, AO.list ((Z.su v).map .str)) :: (Z.V.erase v).map Z.listO ++ fr)).Perm _)
          exact pm [_, _, _] [_, _] (.c 0 (.c 1 (.a (.c 2 (.l 0)) (.l 1)))) (.c 2 (.c 1 (.c 0 (.a (.l 0) (.l 1))))) rfl)
      obtain ⟨hf2, hw2⟩ := Sf.freezeR H5
      refine ⟨Z.d v, _, _, _, _, Sf.hN H5 hvV, Sf.hD H5 hvV, rfl, ?_⟩
      refine ⟨.inr ⟨.list ((Z.su v).map .str), ((Z.su v).map AV.str).map (fun v => [v]), hf2, rfl, by simp; exact Nat.le_trans hsl (by decide), fun o => (hw2 o).1, fun o2 => ?_⟩⟩
      have H6 := (hw2 o2).2
      (repeat (refine And.intro rfl ?_))
      refine ⟨fun j => At [("self", .ref Z.a), ("nodes", .ref r), ("n2i", .ref Z.m), ("node", .str v), ("nodeinfo", .ref (Z.n v)), ("stat", .int (-1))] fun hp => Sh hp (Z.all (.ref rl) pa (fi + (i : Nat)) (((Z.su v).take j).foldl dS (setF sd.1 v (-2), sd.2)).1 ((Z.s v, .froz o2 (.list ((Z.su v).map .str))) :: (rl, AO.list ((((Z.su v).take j).foldl dS (setF sd.1 v (-2), sd.2)).2.map .str)) :: (r, .froz o (.tuple (vs.map .str))) :: ((Z.V.erase v).map Z.listO ++ fr))),
        .mk H6, fun j => at1 fun _ h => Sf.memR h (.head _), fun j us2 => at2 fun _ hj H7 kX X => ?_, at1 fun _ H7 => ?_⟩
      · apply items_strK hj; intro x hx1
        have hxV := ok.su v hvV x (List.mem_of_getElem? hx1)
        have hlen2 : (((Z.su v).take j).foldl dS (setF sd.1 v (-2), sd.2)).2.length ≤ lim := by
          have h1 := dS_len (l := (Z.su v).take j) (st := (setF sd.1 v (-2), sd.2))
          have h2 : ((Z.su v).take j).length ≤ (Z.su v).length := by rw [List.length_take]; exact Nat.min_le_right _ _
          have h3 : 1000 + 64000 + 1000 ≤ lim := by decide
          simp only at h1; exact lin [_, _, _, _, _] (.le (.v 0) (.v 1)) 1 (.c 1 (.le (.v 2) (.n 1000)) (.c 1 (.le (.v 3) (.a (.n 1000) (.n 64000))) (.c 1 (.le (.v 0) (.a (.v 3) (.v 4))) (.c 1 (.le (.v 4) (.v 2)) (.c 1 (.le (.a (.a (.n 1000) (.n 64000)) (.n 1000)) (.v 1)) .e))))) (Eq.refl true) hsl hsd2 h1 h2 h3
        have htk := take_succ' hx1
        generalize hse : ((Z.su v).take j).foldl dS (setF sd.1 v (-2), sd.2) = se at *
        · (repeat (refine And.intro rfl ?_))
          refine ⟨_, _, Sf.hM H7, lk_V hxV, ?_⟩
          (repeat (refine And.intro rfl ?_))
          refine ⟨Z.d x, _, _, _, _, Sf.hN H7 hxV, Sf.hD H7 hxV, rfl, ?_⟩
          (repeat (refine And.intro rfl ?_))
          refine Sf.setNK ok.nd H7 hxV (se.1 x - 1) fun hp8 W8 H8 => ?_
          refine ⟨Z.d x, _, _, _, _, hp8, Sf.hD H7 hxV, W8, ?_⟩
          (repeat (refine And.intro rfl ?_))
          refine ⟨Z.d x, _, _, _, _, Sf.hN H8 hxV, Sf.hD H8 hxV, rfl, ?_⟩
          rw [setF_self]
          (repeat (refine And.intro rfl ?_))
          refine ⟨fun hb => ?_, fun hb => ?_⟩
          · have hb := of_decide_eq_true hb
            (repeat (refine And.intro rfl ?_))
            refine ⟨Z.d0, _, Sf.hA H8, Sf.hB H8, .tail _ (.head _), _, rfl, rfl, ?_⟩
            (repeat (refine And.intro rfl ?_))
            have H9 := Sf.permR H8 (List.Perm.swap ..)
            refine ⟨.list, ⟨rl, _, rfl, Sf.hF H9 (.head _)⟩, rfl, ?_⟩
            (repeat (refine And.intro rfl ?_))
            refine Sf.setRK H9 (.list (se.2.map .str ++ [.str x])) fun hp10 W10 H10 => ?_
            refine ⟨_, hp10, W10, by simpa using hlen2, ?_⟩
            (repeat (refine And.intro rfl ?_))
            refine (X.next ["successor", "successor_info"] _ (.mk ?_))
            rw [htk, List.foldl_append, hse]
            have e1 : dS se x = (setF se.1 x (se.1 x - 1), se.2 ++ [x]) := by unfold dS; rw [if_pos hb]
            refine (?_ : Sh hp10 (Z.all _ _ _ (dS se x).1 (_ :: (rl, AO.list ((dS se x).2.map .str)) :: _)))
            rw [e1]
            refine Sf.permR ?_ (List.Perm.swap ..)
            simpa using H10
          · have hb := of_decide_eq_false hb
            (repeat (refine And.intro rfl ?_))
            refine (X.next ["successor", "successor_info"] _ (.mk ?_))
            rw [htk, List.foldl_append, hse]
            have e1 : dS se x = (setF se.1 x (se.1 x - 1), se.2) := by unfold dS; rw [if_neg hb]
            refine (?_ : Sh _ (Z.all _ _ _ (dS se x).1 (_ :: (rl, AO.list ((dS se x).2.map .str)) :: _)))
            rw [e1]
            exact H8
      · have e : (((Z.su v).map AV.str).map fun v => [v]).length = (Z.su v).length := by simp
        rw [e, List.take_length] at H7
        have H8 : Sh _ (Z.all (.ref rl) pa (fi + (i : Nat)) (dN Z sd v).1 ((r, .froz o (.tuple (vs.map .str))) :: (rl, AO.list ((dN Z sd v).2.map .str)) :: (Z.lis ++ fr))) :=
          Sf.permR (Sf.thawR H7 rfl) (by
            have p1 : (Z.listO v :: (Z.V.erase v).map Z.listO).Perm Z.lis := ((List.perm_cons_erase hvV).map _).symm
            refine List.Perm.trans ?_ (List.Perm.cons _ (List.Perm.cons _ (p1.append_right fr)))
            refine (?_ : List.Perm _ (_ :: _ :: ((Z.s v, AO.list ((Z.su v).map .str)) :: (Z.V.erase v).map Z.listO ++ fr)))
            exact pm [_, _, _] [_, _] (.c 0 (.c 1 (.c 2 (.a (.l 0) (.l 1))))) (.c 2 (.c 1 (.a (.c 0 (.l 0)) (.l 1)))) rfl)
        have hfin : (vs.take (i + 1)).foldl (dN Z) (np, rs) = dN Z sd v := by rw [take_succ' hv1, List.foldl_append, hsd]; rfl
        · (repeat (refine And.intro rfl ?_))
          refine ⟨Z.d0, _, Sf.hA H8, Sf.hB H8, .tail _ (.tail _ (.tail _ (.head _))), _, rfl, rfl, ?_⟩
          (repeat (refine And.intro rfl ?_))
          refine Sf.setCK H8 (.ref rl) pa (fi + (i : Nat) + 1) fun hp9 W9 H9 => ?_
          refine ⟨Z.d0, _, hp9, Sf.hA H8, W9, .tail _ (.tail _ (.tail _ (.head _))), by simp, ?_⟩
          (repeat (refine And.intro rfl ?_))
          have e2 : (fi + ((i + 1 : Nat) : Int)) = fi + (i : Nat) + 1 := by (first | exact Mine.fu rfl | exact Mine.lm0 (by assumption) rfl | omega)
          refine X.next ["node", "nodeinfo", "stat"] _ (.mk ?_)
          rw [hfin, e2]
          exact H9
  · (repeat (refine And.intro rfl ?_))
    have e : ((vs.map AV.str).map fun v => [v]).length = vs.length := by simp
    rw [e, List.take_length] at H3
    exact h0 _ (Sf.tlR H3)
end Mine
end

section
open PySem PySem.W PyProof.Rows PySem.Calls PySem.Spec
set_option maxRecDepth 100000
set_option maxHeartbeats 1000000
namespace Mine

/-! ## the search, on paper -/
structure Fm where
  v : Str
  w : Addr
  i : Addr
  pos : Nat
noncomputable def Topo (su : Str → List Str) : List Str → Prop
  | [] => True
  | v :: fin => (∀ x ∈ su v, x ∈ fin) ∧ Topo su fin
noncomputable def Ch (su : Str → List Str) (fin : List Str) : Option Str → List Fm → Prop
  | _, [] => True
  | u, f :: K => (∀ x ∈ (su f.v).take f.pos, x ∈ fin ∨ some x = u) ∧ (∀ y, u = some y → y ∈ su f.v) ∧ Ch su fin (some f.v) K
theorem Ch.mono {su : Str → List Str} {fin fin' : List Str} (h : ∀ x ∈ fin, x ∈ fin') : ∀ {u : Option Str} {K : List Fm}, Ch su fin u K → Ch su fin' u K
  | _, [], _ => trivial
  | _, _ :: _, ⟨h1, h2, h3⟩ => ⟨fun x hx => (h1 x hx).imp (h x) id, h2, Ch.mono h h3⟩
theorem Ch.clear {su : Str → List Str} {fin : List Str} {x : Str} (hx : x ∈ fin) : ∀ {K : List Fm}, Ch su fin (some x) K → Ch su fin none K
  | [], _ => trivial
  | _ :: _, ⟨h1, _, h3⟩ => ⟨fun y hy => .inl ((h1 y hy).elim id fun e => by cases e; exact hx), fun _ e => (nomatch e), h3⟩
theorem Ch.pop {su : Str → List Str} {fin : List Str} {f : Fm} {K : List Fm} (h : Ch su fin none (f :: K)) : Ch su (f.v :: fin) none K :=
  Ch.clear (.head _) (Ch.mono (fun _ h => .tail _ h) h.2.2)
theorem Ch.cyc {su : Str → List Str} {fin : List Str} {f : Fm} {K2 : List Fm} : ∀ {K1 : List Fm} {x : Str}, Ch su fin (some x) (K1 ++ f :: K2) → ∀ y, (y = x ∨ y ∈ K1.map (·.v)) → ∃ z ∈ (K1 ++ [f]).map (·.v), y ∈ su z
  | [], x, ⟨_, h2, _⟩, y, hy => by
    rcases hy with rfl | hy
    · exact ⟨f.v, by simp, h2 _ rfl⟩
    · cases hy
  | t :: K1, x, ⟨_, h2, h3⟩, y, hy => by
    rcases hy with rfl | hy
    · exact ⟨t.v, by simp, h2 _ rfl⟩
    · rw [List.map_cons] at hy
      obtain ⟨z, hz, hyz⟩ := Ch.cyc (K1 := K1) h3 y (List.mem_cons.mp hy)
      exact ⟨z, by rw [List.cons_append, List.map_cons]; exact .tail _ hz, hyz⟩
noncomputable def Cyc (su : Str → List Str) (V : List Str) : Prop := ∃ C : List Str, C ≠ [] ∧ (∀ v ∈ C, v ∈ V) ∧ ∀ y ∈ C, ∃ z ∈ C, y ∈ su z
theorem cyc_of {su : Str → List Str} {fin V : List Str} {K : List Fm} {x : Str} (h : Ch su fin (some x) K) (hV : ∀ f ∈ K, f.v ∈ V) (hx : x ∈ K.map (·.v)) : Cyc su V := by
  obtain ⟨f, hf, rfl⟩ := List.mem_map.mp hx
  obtain ⟨K1, K2, rfl⟩ := List.append_of_mem hf
  refine ⟨(K1 ++ [f]).map (·.v), by simp, fun v hv => ?_, fun y hy => ?_⟩
  · obtain ⟨g, hg, rfl⟩ := List.mem_map.mp hv
    rcases List.mem_append.mp hg with hg | hg
    · exact hV g (List.mem_append_left _ hg)
    · rcases List.mem_singleton.mp hg with rfl; exact hV g (List.mem_append_right _ (.head _))
  · refine Ch.cyc h y ?_
    rw [List.map_append] at hy
    rcases List.mem_append.mp hy with hy | hy
    · exact .inr hy
    · exact .inl (by simpa using hy)

noncomputable def wt (su : Str → List Str) (V seen : List Str) : Nat := ((V.filter fun v => !seen.contains v).map fun v => (su v).length + 1).sum
theorem wt_add {su : Str → List Str} {x : Str} : ∀ {V seen : List Str}, V.Nodup → x ∈ V → x ∉ seen → wt su V (x :: seen) + ((su x).length + 1) = wt su V seen
  | [], _, _, h, _ => nomatch h
  | v :: V, seen, nd, h, hx => by
    have nd' := List.nodup_cons.mp nd
    have same : ∀ {l : List Str}, x ∉ l → l.filter (fun v => !(x :: seen).contains v) = l.filter fun v => !seen.contains v := fun {l} hl => by
      refine List.filter_congr fun y hy => ?_
      have : y ≠ x := fun e => hl (e ▸ hy)
      simp [List.contains_cons, this]
    have hs : seen.contains x = false := by simpa using hx
    unfold wt
    by_cases e : x = v
    · subst e
      have e1 : (x :: V).filter (fun v => !(x :: seen).contains v) = V.filter fun v => !seen.contains v := by
        rw [List.filter_cons, if_neg (by simp), same nd'.1]
      have e2 : (x :: V).filter (fun v => !seen.contains v) = x :: V.filter fun v => !seen.contains v := by
        rw [List.filter_cons, if_pos (by rw [hs]; rfl)]
      rw [e1, e2, List.map_cons, List.sum_cons]; exact Nat.le_antisymm (lin [_, _] (.le (.a (.v 0) (.a (.v 1) (.n 1))) (.a (.a (.v 1) (.n 1)) (.v 0))) 1 .e (Eq.refl true)) (lin [_, _] (.le (.a (.a (.v 0) (.n 1)) (.v 1)) (.a (.v 1) (.a (.v 0) (.n 1)))) 1 .e (Eq.refl true))
    · have ih := wt_add (su := su) (x := x) (V := V) (seen := seen) nd'.2 (by rcases List.mem_cons.mp h with h | h; exact absurd h e; exact h) hx
      unfold wt at ih
      rw [List.filter_cons, List.filter_cons]
      have e3 : (x :: seen).contains v = seen.contains v := by simp [List.contains_cons, Ne.symm e]
      rw [e3]
      split
      · simp only [List.map_cons, List.sum_cons]; exact Nat.le_antisymm (lin [_, _, _, _] (.le (.a (.a (.a (.v 0) (.n 1)) (.v 1)) (.a (.v 2) (.n 1))) (.a (.a (.v 0) (.n 1)) (.v 3))) 1 (.c 1 (.eq (.a (.v 1) (.a (.v 2) (.n 1))) (.v 3)) .e) (Eq.refl true) ih) (lin [_, _, _, _] (.le (.a (.a (.v 0) (.n 1)) (.v 1)) (.a (.a (.a (.v 0) (.n 1)) (.v 2)) (.a (.v 3) (.n 1)))) 1 (.c 1 (.qe (.a (.v 2) (.a (.v 3) (.n 1))) (.v 1)) .e) (Eq.refl true) ih)
      · exact ih
noncomputable def rem (su : Str → List Str) (K : List Fm) : Nat := (K.map fun f => (su f.v).length - f.pos).sum

/-- the state of the search -/
structure Dfs (Z : Sf) (K : List Fm) (fin seen : List Str) : Prop where
  topo : Topo Z.su fin
  sn : ∀ x, x ∈ seen ↔ x ∈ fin ∨ x ∈ K.map (·.v)
  sub : ∀ x ∈ seen, x ∈ Z.V
  nd : (K.map (·.v)).Nodup
  sd : seen.Nodup
theorem Dfs.kV {Z : Sf} {K : List Fm} {fin seen : List Str} (D : Dfs Z K fin seen) : ∀ f ∈ K, f.v ∈ Z.V := fun f hf => D.sub _ ((D.sn _).mpr (.inr (List.mem_map_of_mem hf)))
theorem Dfs.push {Z : Sf} {K : List Fm} {fin seen : List Str} {f : Fm} (D : Dfs Z K fin seen) (hV : f.v ∈ Z.V) (h : f.v ∉ seen) : Dfs Z (f :: K) fin (f.v :: seen) := by
  refine ⟨D.topo, fun x => ?_, fun x hx => ?_, ?_, ?_⟩
  · simp only [List.mem_cons, List.map_cons]
    rw [D.sn x]
    constructor
    · rintro (h | h | h)
      · exact .inr (.inl h)
      · exact .inl h
      · exact .inr (.inr h)
    · rintro (h | h | h)
      · exact .inr (.inl h)
      · exact .inl h
      · exact .inr (.inr h)
  · rcases List.mem_cons.mp hx with rfl | hx
    · exact hV
    · exact D.sub x hx
  · rw [List.map_cons]
    exact List.nodup_cons.mpr ⟨fun z => h ((D.sn _).mpr (.inr z)), D.nd⟩
  · exact List.nodup_cons.mpr ⟨h, D.sd⟩
theorem Dfs.pop {Z : Sf} {K : List Fm} {fin seen : List Str} {f : Fm} (D : Dfs Z (f :: K) fin seen) (h : ∀ x ∈ Z.su f.v, x ∈ fin) : Dfs Z K (f.v :: fin) seen := by
  refine ⟨⟨h, D.topo⟩, fun x => ?_, D.sub, ?_, D.sd⟩
  · rw [D.sn x]
    simp only [List.map_cons, List.mem_cons]
    constructor
    · rintro (h | h | h)
      · exact .inl (.inr h)
      · exact .inl (.inl h)
      · exact .inr h
    · rintro ((h | h) | h)
      · exact .inr (.inl h)
      · exact .inl h
      · exact .inr (.inr h)
  · have := D.nd
    rw [List.map_cons] at this
    exact (List.nodup_cons.mp this).2
theorem Dfs.step {Z : Sf} {K : List Fm} {fin seen : List Str} {f : Fm} {c : Nat} (D : Dfs Z (f :: K) fin seen) : Dfs Z ({ f with pos := c } :: K) fin seen := ⟨D.topo, D.sn, D.sub, D.nd, D.sd⟩
end Mine
end

section
open PySem PySem.W PyProof.Rows PySem.Calls PySem.Spec
set_option maxRecDepth 100000
set_option maxHeartbeats 2000000
namespace Mine

noncomputable def fmO (Z : Sf) (f : Fm) : HP := [(f.w, .mw f.i), (f.i, .lit (Z.s f.v) f.pos)]
noncomputable def stk (K : List Fm) : List Str := K.reverse.map (·.v)
noncomputable def DX (Z : Sf) (st it se nd : Addr) (K : List Fm) (seen : List Str) : HP :=
  (st, .list ((stk K).map .str)) :: (it, .list (K.reverse.map fun f => AV.ref f.w)) :: (se, .sset seen) :: (nd, .dict ((stk K).zipIdx.map fun p => (p.1, AV.int p.2))) :: K.flatMap (fmO Z)
noncomputable def Sf.dm (Z : Sf) : AO := .dict (Z.V.map fun v => (v, AV.ref (Z.n v)))
noncomputable def SX (Z : Sf) (rd : AV) (pa fi : Int) (np : Str → Int) (fr : HP) (dm : AO) : HP :=
  (Z.m, dm) :: (Z.a, .inst 130 Z.d0) :: (Z.d0, .attrs [("_node2info", .ref Z.m), ("_ready_nodes", rd), ("_npassedout", .int pa), ("_nfinished", .int fi)]) :: (Z.nod np ++ (Z.att ++ (Z.lis ++ fr)))
noncomputable def fcL (Z : Sf) (st it se nd : Addr) (x : Str) : List (Str × AV) := [("self", .ref Z.a), ("n2i", .ref Z.m), ("stack", .ref st), ("itstack", .ref it), ("seen", .ref se), ("node2stacki", .ref nd), ("node", .str x)]
noncomputable def fcT : List Stmt := inFor ((inFor ((bodyOf 120).drop 5)).drop 1)

theorem stk_cons (f : Fm) (K : List Fm) : stk (f :: K) = stk K ++ [f.v] := by simp [stk]
theorem DX_cons {Z : Sf} {st it se nd : Addr} {f : Fm} {K : List Fm} {seen : List Str} : DX Z st it se nd (f :: K) seen =
    (st, .list ((stk K).map .str ++ [.str f.v])) :: (it, .list ((K.reverse.map fun f => AV.ref f.w) ++ [.ref f.w])) :: (se, .sset seen) :: (nd, .dict (((stk K).zipIdx.map fun p => (p.1, AV.int p.2)) ++ [(f.v, .int (stk K).length)])) :: (f.w, .mw f.i) :: (f.i, .lit (Z.s f.v) f.pos) :: K.flatMap (fmO Z) := by
  unfold DX
  rw [stk_cons, List.zipIdx_append]
  simp [fmO]

theorem SX_lis {Z : Sf} {rd : AV} {pa fi : Int} {np : Str → Int} {fr : HP} {dm : AO} {v : Str} (h : v ∈ Z.V) : Z.listO v ∈ SX Z rd pa fi np fr dm :=
  .tail _ (.tail _ (.tail _ (List.mem_append_right _ (List.mem_append_right _ (List.mem_append_left _ (List.mem_map_of_mem h))))))
theorem rem_step {su : Str → List Str} {f : Fm} {K : List Fm} (h : f.pos < (su f.v).length) : rem su ({ f with pos := f.pos + 1 } :: K) < rem su (f :: K) := by
  unfold rem
  simp only [List.map_cons, List.sum_cons]; exact lin [_, _, _, _, _] (.lt (.a (.v 0) (.v 1)) (.a (.v 2) (.v 1))) 1 (.c 1 (.eq (.a (.v 0) (.a (.v 3) (.n 1))) (.v 4)) (.c 1 (.qe (.a (.v 2) (.v 3)) (.v 4)) .e)) (Eq.refl true) (Nat.sub_add_cancel (lin [_, _] (.le (.a (.v 0) (.n 1)) (.v 1)) 1 (.c 1 (.lt (.v 0) (.v 1)) .e) (Eq.refl true) h)) (Nat.sub_add_cancel (lin [_, _] (.le (.v 0) (.v 1)) 1 (.c 1 (.lt (.v 0) (.v 1)) .e) (Eq.refl true) h))
theorem rem_cons {su : Str → List Str} {f : Fm} {K : List Fm} : rem su K ≤ rem su (f :: K) := by
  unfold rem
  simp only [List.map_cons, List.sum_cons]; exact lin [_, _] (.le (.v 0) (.a (.v 1) (.v 0))) 1 .e (Eq.refl true)

theorem del_top {l : List Str} {v : Str} {c : AV} (h : v ∉ l) : ((l.zipIdx.map fun p => (p.1, AV.int p.2)) ++ [(v, c)]).filter (fun p => decide (p.1 ≠ v)) = l.zipIdx.map fun p => (p.1, AV.int p.2) := by
  rw [List.filter_append]
  have e1 : [(v, c)].filter (fun p => decide (p.1 ≠ v)) = [] := by simp
  rw [e1, List.append_nil, List.filter_eq_self]
  intro p hp
  obtain ⟨q, hq, rfl⟩ := List.mem_map.mp hp
  have : q.1 ∈ l := by
    obtain ⟨a, b⟩ := q
    have := List.mem_zipIdx' hq
    simp only at this ⊢
    rw [this.2]; exact List.getElem_mem _
  simp only [decide_eq_true_eq]
  intro e; exact h (e ▸ this)
theorem lk_top {l : List Str} {v : Str} {c : AV} (h : v ∉ l) : ((l.zipIdx.map fun p => (p.1, AV.int p.2)) ++ [(v, c)]).lookup v = some c ∧ (l.zipIdx.map fun p => (p.1, AV.int p.2)).lookup v = none := by
  have e : (l.zipIdx.map fun p => (p.1, AV.int p.2)).lookup v = none := by
    rw [List.lookup_eq_none_iff]
    intro p hp
    obtain ⟨q, hq, rfl⟩ := List.mem_map.mp hp
    have : q.1 ∈ l := by
      obtain ⟨a, b⟩ := q
      have := List.mem_zipIdx' hq
      simp only at this ⊢
      rw [this.2]; exact List.getElem_mem _
    exact bne_iff_ne.mpr fun (z : v = q.1) => h (z ▸ this)
  refine ⟨?_, e⟩
  rw [List.lookup_append, e]; simp
theorem stk_mem {K : List Fm} {v : Str} : v ∈ stk K ↔ v ∈ K.map (·.v) := by simp [stk]

/-- the backtracking: `while stack: .. else: break` -/
theorem fc_inner {N : Nat} (hN : 40 ≤ N) {ro : HP} {Z : Sf} (ok : Z.Ok) {rd : AV} {pa fi : Int} {np : Str → Int} {fr : HP} {dm : AO} {st it se nd : Addr} {K : List Fm} {fin seen : List Str} {x : Str} {hp : HP} {k : Fl → AS → Prop}
    (D : Dfs Z K fin seen) (hC : Ch Z.su fin none K) (H : Sh hp (DX Z st it se nd K seen ++ SX Z rd pa fi np fr dm))
    (hb : ∀ x' fin' hp', Dfs Z [] fin' seen → (∀ y ∈ fin, y ∈ fin') → Sh hp' (DX Z st it se nd [] seen ++ SX Z rd pa fi np fr dm) → k .brk ⟨fcL Z st it se nd x', hp'⟩)
    (hn : ∀ y K' fin' hp', Dfs Z K' fin' seen → (∀ y ∈ fin, y ∈ fin') → Ch Z.su fin' (some y) K' → y ∈ Z.V → rem Z.su K' < rem Z.su K → Sh hp' (DX Z st it se nd K' seen ++ SX Z rd pa fi np fr dm) → k .next ⟨fcL Z st it se nd y, hp'⟩) :
    (sem N).B ⟨scOf 120, ro, true, false⟩ (fcT.drop 1) ⟨fcL Z st it se nd x, hp⟩ k := by
  obtain ⟨n, rfl⟩ := pull hN
  have h64 : 1000 ≤ lim := by decide
  (repeat (refine And.intro rfl ?_))
  refine ⟨fun j => At (fcL Z st it se nd x) fun hp => ∃ K1 fin1, j = K1.length ∧ Dfs Z K1 fin1 seen ∧ (∀ y ∈ fin, y ∈ fin1) ∧ Ch Z.su fin1 none K1 ∧ rem Z.su K1 ≤ rem Z.su K ∧ Sh hp (DX Z st it se nd K1 seen ++ SX Z rd pa fi np fr dm),
    ⟨_, .mk ⟨K, fin, rfl, D, fun _ h => h, hC, Nat.le_refl _, H⟩⟩, ?_⟩
  rintro j _ ⟨K1, fin1, rfl, D1, hf1, hC1, hr1, H1⟩ kX X
  have hlen : K1.length ≤ 64 := by
    have := nodup_len D1.nd (m := Z.V) fun v hv => by
      obtain ⟨f, hf, rfl⟩ := List.mem_map.mp hv
      exact D1.kV f hf
    have h2 := ok.len
    simp only [List.length_map] at this; exact lin [_, _] (.le (.v 0) (.n 64)) 1 (.c 1 (.le (.v 1) (.n 64)) (.c 1 (.le (.v 0) (.v 1)) .e)) (Eq.refl true) h2 this
  (repeat (refine And.intro rfl ?_))
  refine ⟨(stk K1).map .str, H1.has (.head _), by simp [stk]; exact lin [_, _] (.le (.v 0) (.v 1)) 1 (.c 1 (.le (.n 1000) (.v 1)) (.c 1 (.le (.v 0) (.n 64)) .e)) (Eq.refl true) h64 hlen, ?_⟩
  cases K1 with
  | nil =>
    (repeat (refine And.intro rfl ?_))
    refine ⟨fun hf => (nomatch hf), fun _ => ?_⟩
    (repeat (refine And.intro rfl ?_))
    exact hb x fin1 _ D1 hf1 H1
  | cons f K2 =>
    have e1 : ((stk (f :: K2)).map AV.str).isEmpty = false := by rw [stk_cons]; cases stk K2 <;> rfl
    rw [e1]
    (repeat (refine And.intro rfl ?_))
    refine ⟨fun _ => ?_, fun hf => (nomatch hf)⟩
    rw [DX_cons] at H1
    have hfV : f.v ∈ Z.V := D1.kV f (.head _)
    (repeat (refine And.intro rfl ?_))
    refine .next (e := rfl) (h := ?_)
    refine ⟨rfl, rfl, rfl, rfl, it, K2.reverse.map fun f => AV.ref f.w, f.w, f.i, Z.s f.v, f.pos, (Z.su f.v).map .str, rfl, H1.has (.tail _ (.head _)), by simp at hlen ⊢; exact lin [_, _] (.le (.v 0) (.v 1)) 1 (.c 1 (.le (.n 1000) (.v 1)) (.c 1 (.le (.v 0) (.n 63)) .e)) (Eq.refl true) h64 hlen, H1.has (.tail _ (.tail _ (.tail _ (.tail _ (.head _))))), H1.has (List.mem_append_right _ (SX_lis hfV)), ?_⟩
    have H2 := H1.perm (o2 := (f.i, .lit (Z.s f.v) f.pos) :: (st, .list ((stk K2).map .str ++ [.str f.v])) :: (it, .list ((K2.reverse.map fun f => AV.ref f.w) ++ [.ref f.w])) :: (se, .sset seen) :: (nd, .dict (((stk K2).zipIdx.map fun p => (p.1, AV.int p.2)) ++ [(f.v, .int (stk K2).length)])) :: (f.w, .mw f.i) :: (K2.flatMap (fmO Z) ++ SX Z rd pa fi np fr dm)) (by exact pm [_, _, _, _, _, _] [_, _] (.a (.c 0 (.c 1 (.c 2 (.c 3 (.c 4 (.c 5 (.l 0))))))) (.l 1)) (.c 5 (.c 0 (.c 1 (.c 2 (.c 3 (.c 4 (.a (.l 0) (.l 1)))))))) rfl)
    cases hy : (Z.su f.v)[f.pos]? with
    | some y =>
      refine H2.wrK (.lit (Z.s f.v) (f.pos + 1)) fun hp3 W3 H3 => ?_
      have hlt : f.pos < (Z.su f.v).length := (List.getElem?_eq_some_iff.mp hy).1
      have hym : y ∈ Z.su f.v := List.mem_of_getElem? hy
      refine .inl ⟨.str y, hp3, by rw [List.getElem?_map, hy]; rfl, W3, ?_⟩
      refine X.brk [] _ (hn y ({ f with pos := f.pos + 1 } :: K2) fin1 hp3 D1.step hf1 ⟨fun z hz => ?_, fun z hz => by cases hz; exact hym, hC1.2.2⟩ (ok.su _ hfV y hym) (Nat.lt_of_lt_of_le (rem_step hlt) hr1) ?_)
      · simp only at hz
        rw [take_succ' hy] at hz
        rcases List.mem_append.mp hz with hz | hz
        · exact .inl ((hC1.1 z hz).elim id fun h => nomatch h)
        · rcases List.mem_singleton.mp hz with rfl; exact .inr rfl
      · rw [DX_cons]
        exact H3.perm (by exact pm [_, _, _, _, _, _] [_, _] (.c 0 (.c 1 (.c 2 (.c 3 (.c 4 (.c 5 (.a (.l 0) (.l 1)))))))) (.a (.c 1 (.c 2 (.c 3 (.c 4 (.c 5 (.c 0 (.l 0))))))) (.l 1)) rfl)
    | none =>
      refine H2.wrK .junk fun hp3 W3 H3 => ?_
      have hall : ∀ z ∈ Z.su f.v, z ∈ fin1 := fun z hz => by
        have hle : (Z.su f.v).length ≤ f.pos := by simpa using hy
        have := hC1.1 z (by rw [List.take_of_length_le hle]; exact hz)
        exact this.elim id fun h => nomatch h
      refine .inr ⟨hp3, by rw [List.getElem?_map, hy]; rfl, W3, ?_⟩
      (repeat (refine And.intro rfl ?_))
      have hnst : f.v ∉ stk K2 := fun z => by
        have := D1.nd
        rw [List.map_cons] at this
        exact (List.nodup_cons.mp this).1 (stk_mem.mp z)
      have H4 := H3.perm (o2 := (st, .list ((stk K2).map .str ++ [.str f.v])) :: (it, .list ((K2.reverse.map fun f => AV.ref f.w) ++ [.ref f.w])) :: (se, .sset seen) :: (nd, .dict (((stk K2).zipIdx.map fun p => (p.1, AV.int p.2)) ++ [(f.v, .int (stk K2).length)])) :: (f.w, .mw f.i) :: (K2.flatMap (fmO Z) ++ (SX Z rd pa fi np fr dm ++ [(f.i, .junk)]))) (by exact pm [_, _, _, _, _, _] [_, _] (.c 0 (.c 1 (.c 2 (.c 3 (.c 4 (.c 5 (.a (.l 0) (.l 1)))))))) (.c 1 (.c 2 (.c 3 (.c 4 (.c 5 (.a (.l 0) (.a (.l 1) (.c 0 .n)))))))) rfl)
      refine ⟨.list, ⟨st, _, rfl, H4.has (.head _)⟩, rfl, ?_⟩
      (repeat (refine And.intro rfl ?_))
      refine H4.wrK (.list ((stk K2).map .str)) fun hp5 W5 H5 => ?_
      refine ⟨_, _, hp5, W5, by simp [stk] at hlen ⊢; exact lin [_, _] (.le (.v 0) (.v 1)) 1 (.c 1 (.le (.n 1000) (.v 1)) (.c 1 (.le (.v 0) (.n 63)) .e)) (Eq.refl true) h64 hlen, ?_⟩
      (repeat (refine And.intro rfl ?_))
      have H6 := H5.perm (o2 := (nd, .dict (((stk K2).zipIdx.map fun p => (p.1, AV.int p.2)) ++ [(f.v, .int (stk K2).length)])) :: (it, .list ((K2.reverse.map fun f => AV.ref f.w) ++ [.ref f.w])) :: (st, .list ((stk K2).map .str)) :: (se, .sset seen) :: (f.w, .mw f.i) :: (K2.flatMap (fmO Z) ++ (SX Z rd pa fi np fr dm ++ [(f.i, .junk)]))) (by exact pm [_, _, _, _, _, _] [_, _] (.c 0 (.c 1 (.c 2 (.c 3 (.c 4 (.a (.l 0) (.a (.l 1) (.c 5 .n)))))))) (.c 3 (.c 1 (.c 0 (.c 2 (.c 4 (.a (.l 0) (.a (.l 1) (.c 5 .n)))))))) rfl)
      refine H6.wrK (AO.dict ((((stk K2).zipIdx.map fun (p : Str × Nat) => (p.1, AV.int p.2)) ++ [(f.v, AV.int (stk K2).length)]).filter fun p => decide (p.1 ≠ f.v))) fun hp7 W7 H7 => ?_
      refine ⟨_, hp7, W7, by rw [(lk_top hnst).1]; rfl, by simp [stk] at hlen ⊢; exact lin [_, _] (.le (.a (.v 0) (.n 1)) (.v 1)) 1 (.c 1 (.le (.n 1000) (.v 1)) (.c 1 (.le (.v 0) (.n 63)) .e)) (Eq.refl true) h64 hlen, ?_⟩
      (repeat (refine And.intro rfl ?_))
      rw [del_top hnst] at H7
      have H8 := H7.perm (o2 := (it, .list ((K2.reverse.map fun f => AV.ref f.w) ++ [.ref f.w])) :: (nd, .dict ((stk K2).zipIdx.map fun p => (p.1, AV.int p.2))) :: (st, .list ((stk K2).map .str)) :: (se, .sset seen) :: (f.w, .mw f.i) :: (K2.flatMap (fmO Z) ++ (SX Z rd pa fi np fr dm ++ [(f.i, .junk)]))) (by exact pm [_, _, _, _, _, _] [_, _] (.c 0 (.c 1 (.c 2 (.c 3 (.c 4 (.a (.l 0) (.a (.l 1) (.c 5 .n)))))))) (.c 1 (.c 0 (.c 2 (.c 3 (.c 4 (.a (.l 0) (.a (.l 1) (.c 5 .n)))))))) rfl)
      refine ⟨.list, ⟨it, _, rfl, H8.has (.head _)⟩, rfl, ?_⟩
      (repeat (refine And.intro rfl ?_))
      refine H8.wrK (.list (K2.reverse.map fun f => AV.ref f.w)) fun hp9 W9 H9 => ?_
      refine ⟨_, _, hp9, W9, by simp at hlen ⊢; exact lin [_, _] (.le (.v 0) (.v 1)) 1 (.c 1 (.le (.n 1000) (.v 1)) (.c 1 (.le (.v 0) (.n 63)) .e)) (Eq.refl true) h64 hlen, ?_⟩
      (repeat (refine And.intro rfl ?_))
      refine X.next [] _ ⟨K2.length, by simp, .mk ⟨K2, f.v :: fin1, rfl, D1.pop hall, fun y hy => .tail _ (hf1 y hy), hC1.pop, Nat.le_trans rem_cons hr1, ?_⟩⟩
      refine (H9.perm (o2 := (DX Z st it se nd K2 seen ++ SX Z rd pa fi np fr dm) ++ [(f.w, .mw f.i), (f.i, .junk)]) ?_).drop
      unfold DX
      exact pm [_, _, _, _, _, _] [_, _] (.c 0 (.c 1 (.c 2 (.c 3 (.c 4 (.a (.l 0) (.a (.l 1) (.c 5 .n)))))))) (.a (.a (.c 2 (.c 0 (.c 3 (.c 1 (.l 0))))) (.l 1)) (.c 4 (.c 5 .n))) rfl
end Mine
end

section
open PySem PySem.W PyProof.Rows PySem.Calls PySem.Spec
set_option maxRecDepth 100000
set_option maxHeartbeats 2000000
namespace Mine

theorem lk_in {x : Str} : ∀ {l : List Str} {c : Nat}, x ∈ l → ∃ j, j < c + l.length ∧ ((l.zipIdx c).map fun p => (p.1, AV.int p.2)).lookup x = some (.int (j : Nat)) ∧ c ≤ j
  | y :: l, c, h => by
    rw [List.zipIdx_cons, List.map_cons, List.lookup_cons]
    by_cases e : x = y
    · subst e
      exact ⟨c, by simp, by simp, Nat.le_refl _⟩
    · rw [beq_eq_false_iff_ne.mpr e]
      obtain ⟨j, h1, h2, h3⟩ := lk_in (l := l) (c := c + 1) (by rcases List.mem_cons.mp h with h | h; exact absurd h e; exact h)
      exact ⟨j, by simp only [List.length_cons]; exact lin [_, _, _] (.lt (.v 0) (.a (.v 1) (.a (.v 2) (.n 1)))) 1 (.c 1 (.lt (.v 0) (.a (.a (.v 1) (.n 1)) (.v 2))) .e) (Eq.refl true) h1, h2, by exact lin [_, _] (.le (.v 0) (.v 1)) 1 (.c 1 (.le (.a (.v 0) (.n 1)) (.v 1)) .e) (Eq.refl true) h3⟩

/-- `while True` -/
theorem fc_while {N : Nat} (hN : 60 ≤ N) {ro : HP} {Z : Sf} (ok : Z.Ok) {rd : AV} {pa fi : Int} {np : Str → Int} {fr : HP} {o : Obj} {st it se nd : Addr} {fin seen : List Str} {v0 : Str} {hp : HP} {k : Fl → AS → Prop}
    (D : Dfs Z [] fin seen) (hv0 : v0 ∈ Z.V) (H : Sh hp (DX Z st it se nd [] seen ++ SX Z rd pa fi np fr (.froz o Z.dm)))
    (hnext : ∀ x' fin' seen' hp', Dfs Z [] fin' seen' → (∀ y ∈ fin, y ∈ fin') → v0 ∈ fin' → Sh hp' (DX Z st it se nd [] seen' ++ SX Z rd pa fi np fr (.froz o Z.dm)) → k .next ⟨fcL Z st it se nd x', hp'⟩)
    (hret : ∀ r l hp' loc, Cyc Z.su Z.V → l ≠ [] → l.length ≤ lim → Sh hp' ((r, .list l) :: SX Z rd pa fi np fr (.froz o Z.dm)) → k (.ret (.ref r)) ⟨loc, hp'⟩) :
    (sem N).B ⟨scOf 120, ro, true, false⟩ ((inFor ((bodyOf 120).drop 5)).drop 1) ⟨fcL Z st it se nd v0, hp⟩ k := by
  obtain ⟨n, rfl⟩ := pull hN
  have h64 : 1000 ≤ lim := by decide
  (repeat (refine And.intro rfl ?_))
  refine ⟨fun j σ => ∃ x, At (fcL Z st it se nd x) (fun hp => ∃ K fin1 seen1, j = wt Z.su Z.V seen1 + rem Z.su K ∧ Dfs Z K fin1 seen1 ∧ (∀ y ∈ fin, y ∈ fin1) ∧ Ch Z.su fin1 (some x) K ∧ x ∈ Z.V ∧ (v0 ∈ seen1 ∨ x = v0) ∧ Sh hp (DX Z st it se nd K seen1 ++ SX Z rd pa fi np fr (.froz o Z.dm))) σ,
    ⟨_, v0, .mk ⟨[], fin, seen, rfl, D, fun _ h => h, trivial, hv0, .inr rfl, H⟩⟩, ?_⟩
  rintro j _ ⟨x, K, fin1, seen1, rfl, D1, hf1, hC1, hxV, hv1, H1⟩ kX X
  have hs1 : seen1.length ≤ 64 := by
    have := nodup_len D1.sd (m := Z.V) D1.sub
    have h2 := ok.len
    exact lin [_, _] (.le (.v 0) (.n 64)) 1 (.c 1 (.le (.v 0) (.v 1)) (.c 1 (.le (.v 1) (.n 64)) .e)) (Eq.refl true) this h2
  have hlen : K.length ≤ 64 := by
    have := nodup_len D1.nd (m := Z.V) fun v hv => by
      obtain ⟨f, hf, rfl⟩ := List.mem_map.mp hv
      exact D1.kV f hf
    have h2 := ok.len
    simp only [List.length_map] at this; exact lin [_, _] (.le (.v 0) (.n 64)) 1 (.c 1 (.le (.v 1) (.n 64)) (.c 1 (.le (.v 0) (.v 1)) .e)) (Eq.refl true) h2 this
  (repeat (refine And.intro rfl ?_))
  refine ⟨fun _ => ?_, fun hf => (nomatch hf)⟩
  refine ⟨.inr (.inr ⟨seen1, H1.has (.tail _ (.tail _ (.head _))), by exact lin [_] (.le (.v 0) (.n 1000)) 1 (.c 1 (.le (.v 0) (.n 64)) .e) (Eq.refl true) hs1, ?_⟩)⟩
  by_cases hin : x ∈ seen1
  · have hc : seen1.contains x = true := by simpa using hin
    rw [hc]
    (repeat (refine And.intro rfl ?_))
    refine ⟨fun _ => ?_, fun hf => (nomatch hf)⟩
    refine ⟨.inr (.inl ⟨_, H1.has (.tail _ (.tail _ (.tail _ (.head _)))), ?_⟩)⟩
    by_cases hst : x ∈ stk K
    · obtain ⟨j, hj1, hj2, _⟩ := lk_in (c := 0) hst
      rw [hj2]
      have hj1 : j < (stk K).length := by simpa using hj1
      have hkl : (stk K).length ≤ 64 := by simpa [stk] using hlen
      (repeat (refine And.intro rfl ?_))
      refine ⟨fun _ => ?_, fun hf => (nomatch hf)⟩
      (repeat (refine And.intro rfl ?_))
      refine ⟨_, _, H1.has (.tail _ (.tail _ (.tail _ (.head _)))), hj2, ?_⟩
      (repeat (refine And.intro rfl ?_))
      refine ⟨(stk K).map .str, j, H1.has (.head _), rfl, by (simp; exact lin [_, _] (.le (.v 0) (.v 1)) 1 (.c 1 (.lt (.v 0) (.v 1)) .e) (Eq.refl true) hj1), by (first | exact Mine.lm2 (by assumption) rfl | exact Mine.lm (by assumption) rfl | exact Mine.lm0 (by assumption) rfl | (simp; omega)), fun r1 => ?_⟩
      (repeat (refine And.intro rfl ?_))
      refine ⟨(by decide : 1 ≤ lim), fun r2 => ?_⟩
      (repeat (refine And.intro rfl ?_))
      refine ⟨((stk K).map .str).drop j, [.str x], .own (.tail _ (.head _)), .own (.head _), by (simp; exact lin [_, _, _] (.le (.a (.v 0) (.n 1)) (.v 1)) 1 (.c 1 (.le (.n 1000) (.v 1)) (.c 1 (.le (.v 2) (.n 64)) (.c 1 (.le (.v 0) (.v 2)) .e))) (Eq.refl true) h64 hkl (lsb _ _)), fun r3 => ?_⟩
      (repeat (refine And.intro rfl ?_))
      have H2 : Sh ((r3, .list (((stk K).map .str).drop j ++ [.str x])) :: (r2, .list [.str x]) :: (r1, .list (((stk K).map .str).drop j)) :: _) (((r3, .list (((stk K).map .str).drop j ++ [.str x])) :: SX Z rd pa fi np fr (.froz o Z.dm)) ++ ((r2, .list [.str x]) :: (r1, .list (((stk K).map .str).drop j)) :: DX Z st it se nd K seen1)) :=
        (((H1.push (r := r1) (x := .list (((stk K).map .str).drop j))).push (r := r2) (x := .list [.str x])).push (r := r3) (x := .list (((stk K).map .str).drop j ++ [.str x]))).perm (by exact pm [_, _, _] [_, _] (.c 0 (.c 1 (.c 2 (.a (.l 0) (.l 1))))) (.a (.c 0 (.l 1)) (.c 1 (.c 2 (.l 0)))) rfl)
      exact X.ret _ _ (hret r3 _ _ _ (cyc_of hC1 D1.kV (stk_mem.mp hst)) (by simp) (by (simp; exact lin [_, _, _] (.le (.a (.v 0) (.n 1)) (.v 1)) 1 (.c 1 (.le (.n 1000) (.v 1)) (.c 1 (.le (.v 2) (.n 64)) (.c 1 (.le (.v 0) (.v 2)) .e))) (Eq.refl true) h64 hkl (lsb _ _))) H2.drop)
    · have hno : ((stk K).zipIdx.map fun p => (p.1, AV.int p.2)).lookup x = none := (lk_top (c := .none) hst).2
      rw [hno]
      (repeat (refine And.intro rfl ?_))
      refine ⟨fun hf => (nomatch hf), fun _ => ?_⟩
      have hfin : x ∈ fin1 := ((D1.sn x).mp hin).elim id fun z => absurd (stk_mem.mpr z) hst
      have hv0s : v0 ∈ seen1 := hv1.elim id fun z => z ▸ hin
      refine Bnil (Bnil (fc_inner (by (first | exact Mine.fu rfl | exact Mine.lm0 (by assumption) rfl | omega)) ok D1 (Ch.clear hfin hC1) H1 (fun x' fin2 hp2 D2 hf2 H2 => ?_) (fun y K2 fin2 hp2 D2 hf2 hC2 hyV hrem H2 => ?_)))
      · exact X.brk [] _ (hnext x' fin2 seen1 hp2 D2 (fun y hy => hf2 y (hf1 y hy)) (((D2.sn v0).mp hv0s).elim id fun z => nomatch z) H2)
      · exact X.next [] _ ⟨_, by exact lin [_, _, _] (.lt (.a (.v 0) (.v 1)) (.a (.v 0) (.v 2))) 1 (.c 1 (.lt (.v 1) (.v 2)) .e) (Eq.refl true) hrem, y, .mk ⟨K2, fin2, seen1, rfl, D2, fun y hy => hf2 y (hf1 y hy), hC2, hyV, .inl hv0s, H2⟩⟩
  · have hc : seen1.contains x = false := by simpa using hin
    rw [hc]
    (repeat (refine And.intro rfl ?_))
    refine ⟨fun hf => (nomatch hf), fun _ => ?_⟩
    (repeat (refine And.intro rfl ?_))
    refine ⟨.sset, ⟨se, seen1, rfl, by exact lin [_] (.le (.v 0) (.n 1000)) 1 (.c 1 (.le (.v 0) (.n 64)) .e) (Eq.refl true) hs1, H1.has (.tail _ (.tail _ (.head _)))⟩, rfl, ?_⟩
    (repeat (refine And.intro rfl ?_))
    have H2 := H1.perm (o2 := (se, .sset seen1) :: (st, .list ((stk K).map .str)) :: (it, .list (K.reverse.map fun f => AV.ref f.w)) :: (nd, .dict ((stk K).zipIdx.map fun p => (p.1, AV.int p.2))) :: (K.flatMap (fmO Z) ++ SX Z rd pa fi np fr (.froz o Z.dm))) (by exact pm [_, _, _, _] [_, _] (.a (.c 0 (.c 1 (.c 2 (.c 3 (.l 0))))) (.l 1)) (.c 2 (.c 0 (.c 1 (.c 3 (.a (.l 0) (.l 1)))))) rfl)
    refine H2.wrK (.sset (x :: seen1)) fun hp3 W3 H3 => ?_
    refine ⟨_, hp3, W3, by exact lin [_] (.le (.v 0) (.n 1000)) 1 (.c 1 (.le (.v 0) (.n 64)) .e) (Eq.refl true) hs1, ?_⟩
    have hM : (Z.m, AO.froz o Z.dm) ∈ (se, AO.sset (x :: seen1)) :: (st, .list ((stk K).map .str)) :: (it, .list (K.reverse.map fun f => AV.ref f.w)) :: (nd, .dict ((stk K).zipIdx.map fun p => (p.1, AV.int p.2))) :: (K.flatMap (fmO Z) ++ SX Z rd pa fi np fr (.froz o Z.dm)) :=
      .tail _ (.tail _ (.tail _ (.tail _ (List.mem_append_right _ (.head _)))))
    (repeat (refine And.intro rfl ?_))
    refine ⟨.list, ⟨it, _, rfl, H3.has (.tail _ (.tail _ (.head _)))⟩, rfl, ?_⟩
    (repeat (refine And.intro rfl ?_))
    refine ⟨⟨rfl, rfl⟩, ?_⟩
    (repeat (refine And.intro rfl ?_))
    refine ⟨_, _, H3.hasF hM, lk_V hxV, ?_⟩
    (repeat (refine And.intro rfl ?_))
    have hN : Z.nodeO np x ∈ SX Z rd pa fi np fr (.froz o Z.dm) := .tail _ (.tail _ (.tail _ (List.mem_append_left _ (List.mem_map_of_mem hxV))))
    have hD : (Z.d x, AO.attrs []) ∈ SX Z rd pa fi np fr (.froz o Z.dm) := .tail _ (.tail _ (.tail _ (List.mem_append_right _ (List.mem_append_left _ (List.mem_map.mpr ⟨x, hxV, rfl⟩)))))
    refine ⟨Z.d x, _, _, _, _, H3.has (.tail _ (.tail _ (.tail _ (.tail _ (List.mem_append_right _ hN))))), H3.has (.tail _ (.tail _ (.tail _ (.tail _ (List.mem_append_right _ hD))))), rfl, ?_⟩
    (repeat (refine And.intro rfl ?_))
    refine ⟨(Z.su x).map .str, H3.has (.tail _ (.tail _ (.tail _ (.tail _ (List.mem_append_right _ (SX_lis hxV)))))), fun ia wa => ?_⟩
    have H4 : Sh ((wa, .mw ia) :: (ia, .lit (Z.s x) 0) :: hp3) ((it, .list (K.reverse.map fun f => AV.ref f.w)) :: (wa, .mw ia) :: (ia, .lit (Z.s x) 0) :: (se, .sset (x :: seen1)) :: (st, .list ((stk K).map .str)) :: (nd, .dict ((stk K).zipIdx.map fun p => (p.1, AV.int p.2))) :: (K.flatMap (fmO Z) ++ SX Z rd pa fi np fr (.froz o Z.dm))) :=
      ((H3.push (r := ia) (x := .lit (Z.s x) 0)).push (r := wa) (x := .mw ia)).perm (by exact pm [_, _, _, _, _, _] [_, _] (.c 0 (.c 1 (.c 2 (.c 3 (.c 4 (.c 5 (.a (.l 0) (.l 1)))))))) (.c 4 (.c 0 (.c 1 (.c 2 (.c 3 (.c 5 (.a (.l 0) (.l 1)))))))) rfl)
    (repeat (refine And.intro rfl ?_))
    refine H4.wrK (.list ((K.reverse.map fun f => AV.ref f.w) ++ [.ref wa])) fun hp5 W5 H5 => ?_
    refine ⟨_, hp5, W5, by (simp; exact lin [_, _] (.le (.v 0) (.v 1)) 1 (.c 1 (.le (.n 1000) (.v 1)) (.c 1 (.le (.v 0) (.n 64)) .e)) (Eq.refl true) h64 hlen), ?_⟩
    (repeat (refine And.intro rfl ?_))
    have H6 := H5.perm (o2 := (nd, .dict ((stk K).zipIdx.map fun p => (p.1, AV.int p.2))) :: (st, .list ((stk K).map .str)) :: (it, .list ((K.reverse.map fun f => AV.ref f.w) ++ [.ref wa])) :: (wa, .mw ia) :: (ia, .lit (Z.s x) 0) :: (se, .sset (x :: seen1)) :: (K.flatMap (fmO Z) ++ SX Z rd pa fi np fr (.froz o Z.dm))) (by exact pm [_, _, _, _, _, _] [_, _] (.c 0 (.c 1 (.c 2 (.c 3 (.c 4 (.c 5 (.a (.l 0) (.l 1)))))))) (.c 5 (.c 4 (.c 0 (.c 1 (.c 2 (.c 3 (.a (.l 0) (.l 1)))))))) rfl)
    refine ⟨.inl ⟨(stk K).map .str, H6.has (.tail _ (.head _)), by simp [stk]; exact lin [_, _] (.le (.v 0) (.v 1)) 1 (.c 1 (.le (.n 1000) (.v 1)) (.c 1 (.le (.v 0) (.n 64)) .e)) (Eq.refl true) h64 hlen, ?_⟩⟩
    (repeat (refine And.intro rfl ?_))
    have hxk : x ∉ stk K := fun z => hin ((D1.sn x).mpr (.inr (stk_mem.mp z)))
    have hupd : upd x (AV.int (((stk K).map AV.str).length : Nat)) ((stk K).zipIdx.map fun p => (p.1, AV.int p.2)) = ((stk K).zipIdx.map fun p => (p.1, AV.int p.2)) ++ [(x, .int (stk K).length)] := by
      rw [upd_new (lk_top (c := .none) hxk).2]; simp
    refine H6.wrK (.dict (upd x (AV.int (((stk K).map AV.str).length : Nat)) ((stk K).zipIdx.map fun p => (p.1, AV.int p.2)))) fun hp7 W7 H7 => ?_
    refine ⟨_, hp7, W7, by simp [stk]; exact lin [_, _] (.le (.v 0) (.v 1)) 1 (.c 1 (.le (.n 1000) (.v 1)) (.c 1 (.le (.v 0) (.n 64)) .e)) (Eq.refl true) h64 hlen, ?_⟩
    (repeat (refine And.intro rfl ?_))
    rw [hupd] at H7
    have H8 := H7.perm (o2 := (st, .list ((stk K).map .str)) :: (it, .list ((K.reverse.map fun f => AV.ref f.w) ++ [.ref wa])) :: (se, .sset (x :: seen1)) :: (nd, .dict (((stk K).zipIdx.map fun p => (p.1, AV.int p.2)) ++ [(x, .int (stk K).length)])) :: (wa, .mw ia) :: (ia, .lit (Z.s x) 0) :: (K.flatMap (fmO Z) ++ SX Z rd pa fi np fr (.froz o Z.dm))) (by exact pm [_, _, _, _, _, _] [_, _] (.c 0 (.c 1 (.c 2 (.c 3 (.c 4 (.c 5 (.a (.l 0) (.l 1)))))))) (.c 1 (.c 2 (.c 5 (.c 0 (.c 3 (.c 4 (.a (.l 0) (.l 1)))))))) rfl)
    refine ⟨.list, ⟨st, _, rfl, H8.has (.head _)⟩, rfl, ?_⟩
    (repeat (refine And.intro rfl ?_))
    refine H8.wrK (.list ((stk K).map .str ++ [.str x])) fun hp9 W9 H9 => ?_
    refine ⟨_, hp9, W9, by simp [stk]; exact lin [_, _] (.le (.v 0) (.v 1)) 1 (.c 1 (.le (.n 1000) (.v 1)) (.c 1 (.le (.v 0) (.n 64)) .e)) (Eq.refl true) h64 hlen, ?_⟩
    have H10 : Sh hp9 (DX Z st it se nd (⟨x, wa, ia, 0⟩ :: K) (x :: seen1) ++ SX Z rd pa fi np fr (.froz o Z.dm)) := by
      rw [DX_cons]
      dsimp only
      exact H9.perm (by exact pm [_, _, _, _, _, _] [_, _] (.c 0 (.c 1 (.c 2 (.c 3 (.c 4 (.c 5 (.a (.l 0) (.l 1)))))))) (.a (.c 0 (.c 1 (.c 2 (.c 3 (.c 4 (.c 5 (.l 0))))))) (.l 1)) rfl)
    have hw := wt_add (su := Z.su) ok.nd hxV hin
    have D2 : Dfs Z (⟨x, wa, ia, 0⟩ :: K) fin1 (x :: seen1) := D1.push (f := ⟨x, wa, ia, 0⟩) hxV hin
    have hv0s : v0 ∈ x :: seen1 := hv1.elim (fun z => .tail _ z) fun z => z ▸ .head _
    refine Bnil (fc_inner (by (first | exact Mine.fu rfl | exact Mine.lm0 (by assumption) rfl | omega)) ok D2 ⟨fun z hz => by simp at hz, fun _ z => (nomatch z), hC1⟩ H10 (fun x' fin2 hp2 D3 hf2 H2 => ?_) (fun y K2 fin2 hp2 D3 hf2 hC2 hyV hrem H2 => ?_))
    · exact X.brk [] _ (hnext x' fin2 _ hp2 D3 (fun y hy => hf2 y (hf1 y hy)) (((D3.sn v0).mp hv0s).elim id fun z => nomatch z) H2)
    · have e : rem Z.su (⟨x, wa, ia, 0⟩ :: K) = (Z.su x).length + rem Z.su K := by unfold rem; simp
      exact X.next [] _ ⟨_, by exact lin [_, _, _, _, _, _] (.lt (.a (.v 0) (.v 1)) (.a (.v 2) (.v 3))) 1 (.c 1 (.eq (.a (.v 0) (.a (.v 4) (.n 1))) (.v 2)) (.c 1 (.lt (.v 1) (.v 5)) (.c 1 (.eq (.v 5) (.a (.v 4) (.v 3))) .e))) (Eq.refl true) hw hrem e, y, .mk ⟨K2, fin2, _, rfl, D3, fun y hy => hf2 y (hf1 y hy), hC2, hyV, .inl hv0s, H2⟩⟩

/-- `_find_cycle` -/
theorem fc_sem {N : Nat} (hN : 75 ≤ N) {ro : HP} {Z : Sf} (ok : Z.Ok) {rd : AV} {pa fi : Int} {np : Str → Int} {fr : HP} {cm : Bool} {sc : Scope} {hp : HP} (H : Sh hp (Z.all rd pa fi np (Z.lis ++ fr))) {k : AV → HP → Prop}
    (hnone : ∀ hp', (∃ fin, Topo Z.su fin ∧ ∀ v ∈ Z.V, v ∈ fin) → Sh hp' (Z.all rd pa fi np (Z.lis ++ fr)) → k .none hp')
    (hcyc : ∀ r l hp', Cyc Z.su Z.V → l ≠ [] → l.length ≤ lim → Sh hp' ((r, .list l) :: Z.all rd pa fi np (Z.lis ++ fr)) → k (.ref r) hp') : (sem N).C ⟨sc, ro, true, cm⟩ 120 [.ref Z.a] hp k := by
  obtain ⟨n, rfl⟩ := pull hN
  have h64 : 1000 ≤ lim := by decide
  (repeat (refine And.intro rfl ?_))
  refine ⟨Z.d0, _, Sf.hA H, Sf.hB H, .head _, _, rfl, rfl, ?_⟩
  (repeat (refine And.intro rfl ?_))
  refine ⟨Nat.zero_le _, fun st => ?_⟩
  (repeat (refine And.intro rfl ?_))
  refine ⟨Nat.zero_le _, fun it => ?_⟩
  (repeat (refine And.intro rfl ?_))
  refine fun se => ?_
  refine ⟨.inl fun nd => ?_⟩
  have H1 : Sh ((nd, .dict []) :: (se, .sset []) :: (it, .list []) :: (st, .list []) :: hp) ((Z.m, Z.dm) :: (st, .list []) :: (it, .list []) :: (se, .sset []) :: (nd, .dict []) :: (Z.a, .inst 130 Z.d0) :: (Z.d0, .attrs [("_node2info", .ref Z.m), ("_ready_nodes", rd), ("_npassedout", .int pa), ("_nfinished", .int fi)]) :: (Z.nod np ++ (Z.att ++ (Z.lis ++ fr)))) :=
    ((((H.push (r := st) (x := .list [])).push (r := it) (x := .list [])).push (r := se) (x := .sset [])).push (r := nd) (x := .dict [])).perm (by exact pm [_, _, _, _, _, _, _] [_, _, _, _] (.c 0 (.c 1 (.c 2 (.c 3 (.a (.c 4 (.c 5 (.c 6 .n))) (.a (.l 0) (.a (.l 1) (.a (.l 2) (.l 3))))))))) (.c 6 (.c 3 (.c 2 (.c 1 (.c 0 (.c 4 (.c 5 (.a (.l 0) (.a (.l 1) (.a (.l 2) (.l 3))))))))))) rfl)
  obtain ⟨hf, hw⟩ := H1.freeze
  refine ⟨.inr ⟨Z.dm, (Z.V.map fun v => (v, AV.ref (Z.n v))).map (fun p => [.str p.1]), hf, rfl, by simp; have := ok.len; exact lin [_, _] (.le (.v 0) (.v 1)) 1 (.c 1 (.le (.n 1000) (.v 1)) (.c 1 (.le (.v 0) (.n 64)) .e)) (Eq.refl true) h64 this, fun o => (hw o).1, fun o => ?_⟩⟩
  have H2 : Sh (hf o) (DX Z st it se nd [] [] ++ SX Z rd pa fi np fr (.froz o Z.dm)) := (hw o).2.perm (by unfold DX SX stk; simp only [List.reverse_nil, List.map_nil, List.zipIdx_nil, List.flatMap_nil]; exact pm [_, _, _, _, _, _, _] [_, _, _, _] (.c 0 (.c 1 (.c 2 (.c 3 (.c 4 (.c 5 (.c 6 (.a (.l 0) (.a (.l 1) (.a (.l 2) (.l 3))))))))))) (.a (.c 1 (.c 2 (.c 3 (.c 4 .n)))) (.c 0 (.c 5 (.c 6 (.a (.l 0) (.a (.l 1) (.a (.l 2) (.l 3)))))))) rfl)
  (repeat (refine And.intro rfl ?_))
  refine ⟨fun i => At [("self", .ref Z.a), ("n2i", .ref Z.m), ("stack", .ref st), ("itstack", .ref it), ("seen", .ref se), ("node2stacki", .ref nd)] fun hp => ∃ fin seen, Dfs Z [] fin seen ∧ (∀ v ∈ Z.V.take i, v ∈ fin) ∧ Sh hp (DX Z st it se nd [] seen ++ SX Z rd pa fi np fr (.froz o Z.dm)),
    .mk ⟨[], [], ⟨trivial, fun x => by simp, fun x h => (nomatch h), .nil, .nil⟩, fun x h => by simp at h, H2⟩, fun i => at1 fun _ h => ?_, fun i us => at2 fun _ hi h kX X => ?_, at1 fun _ h => ?_⟩
  · obtain ⟨_, _, _, _, h4⟩ := h
    exact h4.memF (List.mem_append_right _ (.head _))
  · rw [List.getElem?_map, List.getElem?_map] at hi
    cases hvi : Z.V[i]? with
    | none => rw [hvi] at hi; cases hi
    | some v0 =>
    rw [hvi] at hi; cases hi
    have hv0 : v0 ∈ Z.V := List.mem_of_getElem? hvi
    obtain ⟨fin0, seen0, D0, hF0, H3⟩ := h
    have hs0 : seen0.length ≤ 64 := by
      have := nodup_len D0.sd (m := Z.V) D0.sub
      have h2 := ok.len
      exact lin [_, _] (.le (.v 0) (.n 64)) 1 (.c 1 (.le (.v 0) (.v 1)) (.c 1 (.le (.v 1) (.n 64)) .e)) (Eq.refl true) this h2
    · refine ⟨.inr (.inr ⟨seen0, H3.has (.tail _ (.tail _ (.head _))), by exact lin [_] (.le (.v 0) (.n 1000)) 1 (.c 1 (.le (.v 0) (.n 64)) .e) (Eq.refl true) hs0, ?_⟩)⟩
      by_cases hin : v0 ∈ seen0
      · have hc : seen0.contains v0 = true := by simpa using hin
        rw [hc]
        (repeat (refine And.intro rfl ?_))
        refine ⟨fun _ => ?_, fun hf => (nomatch hf)⟩
        (repeat (refine And.intro rfl ?_))
        refine (X.cont ["node"] _ (.mk ⟨fin0, seen0, D0, fun v hv => ?_, H3⟩))
        rw [take_succ' hvi] at hv
        rcases List.mem_append.mp hv with hv | hv
        · exact hF0 v hv
        · rcases List.mem_singleton.mp hv with rfl
          exact ((D0.sn _).mp hin).elim id fun z => nomatch z
      · have hc : seen0.contains v0 = false := by simpa using hin
        rw [hc]
        (repeat (refine And.intro rfl ?_))
        refine ⟨fun hf => (nomatch hf), fun _ => ?_⟩
        refine Bnil (fc_while (by (first | exact Mine.fu rfl | exact Mine.lm0 (by assumption) rfl | omega)) ok D0 hv0 H3 (fun x' fin' seen' hp' D' hf' hv' H' => ?_) (fun r l hp' loc hc hl1 hl2 H' => ?_))
        · refine (X.next ["node"] _ (.mk ⟨fin', seen', D', fun v hv => ?_, H'⟩))
          rw [take_succ' hvi] at hv
          rcases List.mem_append.mp hv with hv | hv
          · exact hf' v (hF0 v hv)
          · rcases List.mem_singleton.mp hv with rfl
            exact hv'
        · refine X.ret _ _ (hcyc r l hp' hc hl1 hl2 ?_)
          have H6 := H'.perm (o2 := (Z.m, .froz o Z.dm) :: (r, .list l) :: (Z.a, .inst 130 Z.d0) :: (Z.d0, .attrs [("_node2info", .ref Z.m), ("_ready_nodes", rd), ("_npassedout", .int pa), ("_nfinished", .int fi)]) :: (Z.nod np ++ (Z.att ++ (Z.lis ++ fr)))) (by exact pm [_, _, _, _] [_, _, _, _] (.c 0 (.c 1 (.c 2 (.c 3 (.a (.l 0) (.a (.l 1) (.a (.l 2) (.l 3)))))))) (.c 1 (.c 0 (.c 2 (.c 3 (.a (.l 0) (.a (.l 1) (.a (.l 2) (.l 3)))))))) rfl)
          exact (H6.thaw rfl).perm (by exact pm [_, _, _, _] [_, _, _, _] (.c 0 (.c 1 (.c 2 (.c 3 (.a (.l 0) (.a (.l 1) (.a (.l 2) (.l 3)))))))) (.c 1 (.a (.c 2 (.c 3 (.c 0 .n))) (.a (.l 0) (.a (.l 1) (.a (.l 2) (.l 3)))))) rfl)
  · obtain ⟨fin, seen, D', hF, H3⟩ := h
    have hlen : ((Z.V.map fun v => (v, AV.ref (Z.n v))).map fun p => [AV.str p.1]).length = Z.V.length := by simp
    rw [hlen, List.take_length] at hF
    (repeat (refine And.intro rfl ?_))
    refine hnone _ ⟨fin, D'.topo, hF⟩ ?_
    have H6 := H3.perm (o2 := ((Z.m, .froz o Z.dm) :: (Z.a, .inst 130 Z.d0) :: (Z.d0, .attrs [("_node2info", .ref Z.m), ("_ready_nodes", rd), ("_npassedout", .int pa), ("_nfinished", .int fi)]) :: (Z.nod np ++ (Z.att ++ (Z.lis ++ fr)))) ++ DX Z st it se nd [] seen) (by exact pm [_, _, _] [_, _, _, _, _] (.a (.l 0) (.c 0 (.c 1 (.c 2 (.a (.l 1) (.a (.l 2) (.a (.l 3) (.l 4)))))))) (.a (.c 0 (.c 1 (.c 2 (.a (.l 1) (.a (.l 2) (.a (.l 3) (.l 4))))))) (.l 0)) rfl)
    exact (H6.drop.thaw rfl).perm (by exact pm [_, _, _] [_, _, _, _] (.c 0 (.c 1 (.c 2 (.a (.l 0) (.a (.l 1) (.a (.l 2) (.l 3))))))) (.a (.c 1 (.c 2 (.c 0 .n))) (.a (.l 0) (.a (.l 1) (.a (.l 2) (.l 3))))) rfl)
end Mine
end

section
open PySem PySem.W PyProof.Rows PySem.Calls PySem.Spec
set_option maxRecDepth 100000
set_option maxHeartbeats 2000000
namespace Mine

noncomputable def ndf (ns : List Nd) (v : Str) : Nd := (ns.find? fun x => decide (x.nm = v)).getD ⟨v, 0, [], 0, 0, 0⟩
theorem ndf_of {ns : List Nd} (nd : ndN ns) {x : Nd} (h : x ∈ ns) : ndf ns x.nm = x := by
  unfold ndf
  induction ns with
  | nil => cases h
  | cons y ns ih =>
    have nd' := List.nodup_cons.mp (show (y.nm :: ns.map (·.nm)).Nodup from nd)
    rw [List.find?_cons]
    rcases List.mem_cons.mp h with rfl | h
    · simp
    · have : y.nm ≠ x.nm := fun e => nd'.1 (by rw [e]; exact List.mem_map_of_mem h)
      rw [decide_eq_false this]
      exact ih nd'.2 h
noncomputable def toZ (a d0 m : Addr) (ns : List Nd) : Sf := ⟨a, d0, m, ns.map (·.nm), fun v => (ndf ns v).n, fun v => (ndf ns v).d, fun v => (ndf ns v).s, fun v => (ndf ns v).su⟩
theorem flat3 {α β : Type} (f g h : α → β) : ∀ l : List α, (l.flatMap fun x => [f x, g x, h x]).Perm (l.map f ++ (l.map g ++ l.map h))
  | [] => .refl _
  | x :: l => by
    rw [List.flatMap_cons]
    refine ((flat3 f g h l).append_left _).trans ?_
    simp only [List.map_cons]
    classical
    rw [List.perm_iff_count]; intro _; simp only [List.count_append, List.count_cons, List.count_nil, List.append_assoc, List.cons_append, List.nil_append]; ac_rfl
theorem toZ_perm {a d0 m : Addr} {rd : AV} {pa fi : Int} {ns : List Nd} {fr : HP} (nd : ndN ns) :
    ((⟨a, d0, m, rd, pa, fi, ns⟩ : So).objs ++ fr).Perm ((toZ a d0 m ns).all rd pa fi (fun v => (ndf ns v).np) ((toZ a d0 m ns).lis ++ fr)) := by
  have e1 : (toZ a d0 m ns).nod (fun v => (ndf ns v).np) = ns.map fun x => (x.n, .node x.d (some (.str x.nm)) (some (.int x.np)) (some (.ref x.s))) := by
    unfold Sf.nod toZ
    simp only [List.map_map]
    refine List.map_congr_left fun x hx => ?_
    simp only [Function.comp, Sf.nodeO, ndf_of nd hx]
  have e2 : (toZ a d0 m ns).att = ns.map fun x => (x.d, .attrs []) := by
    unfold Sf.att toZ
    simp only [List.map_map]
    refine List.map_congr_left fun x hx => ?_
    simp only [Function.comp, ndf_of nd hx]
  have e3 : (toZ a d0 m ns).lis = ns.map fun x => (x.s, .list (x.su.map .str)) := by
    unfold Sf.lis toZ
    simp only [List.map_map]
    refine List.map_congr_left fun x hx => ?_
    simp only [Function.comp, Sf.listO, ndf_of nd hx]
  have e4 : (toZ a d0 m ns).core rd pa fi = [(a, .inst 130 d0), (d0, .attrs [("_node2info", .ref m), ("_ready_nodes", rd), ("_npassedout", .int pa), ("_nfinished", .int fi)]), (m, .dict (ns.map fun x => (x.nm, AV.ref x.n)))] := by
    unfold Sf.core toZ
    simp only [List.map_map]
    congr 4
    refine congrArg AO.dict (List.map_congr_left fun x hx => ?_)
    simp only [Function.comp, ndf_of nd hx]
  unfold Sf.all So.objs So.attrs So.dict
  rw [e1, e2, e3, e4]
  have p1 := flat3 (fun x : Nd => (x.n, AO.node x.d (some (.str x.nm)) (some (.int x.np)) (some (.ref x.s)))) (fun x => (x.d, .attrs [])) (fun x => (x.s, .list (x.su.map .str))) ns
  refine List.Perm.trans (List.Perm.append_right fr (List.Perm.cons _ (List.Perm.cons _ (List.Perm.cons _ p1)))) ?_
  exact pm [_, _, _] [_, _, _, _] (.a (.c 0 (.c 1 (.c 2 (.a (.l 0) (.a (.l 1) (.l 2)))))) (.l 3)) (.a (.c 0 (.c 1 (.c 2 .n))) (.a (.l 0) (.a (.l 1) (.a (.l 2) (.l 3))))) rfl

noncomputable def prTe : Expr := (spart ((bodyOf 85).drop 3)).1.headD (.Name "" default)
/-- `prepare`, up to its raise -/
theorem prep_sem {N : Nat} (hN : 95 ≤ N) {ro : HP} {Z : Sf} (ok : Z.Ok) {np : Str → Int} {fr hp : HP} (H : Sh hp (Z.all .none 0 0 np (Z.lis ++ fr))) {kt kf : HP → Prop}
    (ht : ∀ rl hp', Cyc Z.su Z.V → Sh hp' (Z.all (.ref rl) 0 0 np ((rl, .list ((Z.V.filter fun v => decide (np v = 0)).map .str)) :: (Z.lis ++ fr))) → kt hp')
    (hf : ∀ rl hp', (∃ fin, Topo Z.su fin ∧ ∀ v ∈ Z.V, v ∈ fin) → Sh hp' (Z.all (.ref rl) 0 0 np ((rl, .list ((Z.V.filter fun v => decide (np v = 0)).map .str)) :: (Z.lis ++ fr))) → kf hp') :
    (sem N).B ⟨scOf 85, ro, true, false⟩ ((bodyOf 85).take 3) ⟨[("self", .ref Z.a)], hp⟩ fun fl σp => match fl with
      | .next => (sem N).T ⟨scOf 85, ro, true, false⟩ prTe σp fun b σp =>
          (b = true → (lookNm ⟨scOf 85, ro, true, false⟩ σp "cycle").isSome = true ∧ lookNm ⟨scOf 85, ro, true, false⟩ σp "CycleError" = some (.ref 48) ∧ kt σp.hp) ∧ (b = false → kf σp.hp)
      | _ => False := by
  obtain ⟨n, rfl⟩ := pull hN
  have h64 : 1000 ≤ lim := by decide
  (repeat (refine And.intro rfl ?_))
  refine ⟨Z.d0, _, Sf.hA H, Sf.hB H, .tail _ (.head _), _, rfl, rfl, ?_⟩
  (repeat (refine And.intro rfl ?_))
  refine ⟨fun hf => (nomatch hf), fun _ => ?_⟩
  (repeat (refine And.intro rfl ?_))
  refine ⟨Z.d0, _, Sf.hA H, Sf.hB H, .head _, _, rfl, rfl, ?_⟩
  have H1 : Sh hp ((Z.m, Z.dm) :: (Z.a, .inst 130 Z.d0) :: (Z.d0, .attrs [("_node2info", .ref Z.m), ("_ready_nodes", .none), ("_npassedout", .int 0), ("_nfinished", .int 0)]) :: (Z.nod np ++ (Z.att ++ (Z.lis ++ fr)))) := H.perm (by exact pm [_, _, _] [_, _, _, _] (.a (.c 0 (.c 1 (.c 2 .n))) (.a (.l 0) (.a (.l 1) (.a (.l 2) (.l 3))))) (.c 2 (.c 0 (.c 1 (.a (.l 0) (.a (.l 1) (.a (.l 2) (.l 3))))))) rfl)
  obtain ⟨hf1, hw⟩ := H1.freeze
  refine ⟨.inr ⟨Z.dm, (Z.V.map fun v => (v, AV.ref (Z.n v))).map (fun p => [p.2]), hf1, rfl, by simp; have := ok.len; exact lin [_, _] (.le (.v 0) (.v 1)) 1 (.c 1 (.le (.n 1000) (.v 1)) (.c 1 (.le (.v 0) (.n 64)) .e)) (Eq.refl true) h64 this, fun o => (hw o).1, fun o => ?_⟩⟩
  have H2 := (hw o).2
  (repeat (refine And.intro rfl ?_))
  intro rl
  have H3 := H2.push (r := rl) (x := .list [])
  (repeat (refine And.intro rfl ?_))
  refine ⟨fun i => At [] fun hp => Sh hp ((rl, .list (((Z.V.take i).filter fun v => decide (np v = 0)).map .str)) :: (Z.m, .froz o Z.dm) :: (Z.a, .inst 130 Z.d0) :: (Z.d0, .attrs [("_node2info", .ref Z.m), ("_ready_nodes", .none), ("_npassedout", .int 0), ("_nfinished", .int 0)]) :: (Z.nod np ++ (Z.att ++ (Z.lis ++ fr)))),
    .mk H3, fun i => at1 fun _ h => h.memF (.tail _ (.head _)), fun i us => at2 fun _ hi H4 kX X => ?_, at1 fun _ H4 => ?_⟩
  · rw [List.getElem?_map, List.getElem?_map] at hi
    cases hvi : Z.V[i]? with
    | none => rw [hvi] at hi; cases hi
    | some v =>
    rw [hvi] at hi; cases hi
    have hvV : v ∈ Z.V := List.mem_of_getElem? hvi
    have hN : Z.nodeO np v ∈ Z.nod np ++ (Z.att ++ (Z.lis ++ fr)) := List.mem_append_left _ (List.mem_map_of_mem hvV)
    have hD : (Z.d v, AO.attrs []) ∈ Z.nod np ++ (Z.att ++ (Z.lis ++ fr)) := List.mem_append_right _ (List.mem_append_left _ (List.mem_map.mpr ⟨v, hvV, rfl⟩))
    have hlen : ((Z.V.take i).filter fun v => decide (np v = 0)).length ≤ lim := by
      have h1 := List.length_filter_le (fun v => decide (np v = 0)) (Z.V.take i)
      have h2 : (Z.V.take i).length ≤ Z.V.length := by rw [List.length_take]; exact Nat.min_le_right _ _
      have h3 := ok.len
      exact lin [_, _, _, _] (.le (.v 0) (.v 1)) 1 (.c 1 (.le (.n 1000) (.v 1)) (.c 1 (.le (.v 0) (.v 2)) (.c 1 (.le (.v 2) (.v 3)) (.c 1 (.le (.v 3) (.n 64)) .e)))) (Eq.refl true) h64 h1 h2 h3
    have e0 : (Z.V.take (i + 1)).filter (fun v => decide (np v = 0)) = (Z.V.take i).filter (fun v => decide (np v = 0)) ++ [v].filter (fun v => decide (np v = 0)) := by rw [take_succ' hvi, List.filter_append]
    · (repeat (refine And.intro rfl ?_))
      refine ⟨Z.d v, _, _, _, _, H4.has (.tail _ (.tail _ (.tail _ (.tail _ hN)))), H4.has (.tail _ (.tail _ (.tail _ (.tail _ hD)))), rfl, ?_⟩
      (repeat (refine And.intro rfl ?_))
      refine ⟨fun hb => ?_, fun hb => ?_⟩
      · have hb' := of_decide_eq_true hb
        (repeat (refine And.intro rfl ?_))
        refine ⟨fun _ => ?_, fun hf => (nomatch hf)⟩
        (repeat (refine And.intro rfl ?_))
        refine ⟨Z.d v, _, _, _, _, H4.has (.tail _ (.tail _ (.tail _ (.tail _ hN)))), H4.has (.tail _ (.tail _ (.tail _ (.tail _ hD)))), rfl, ?_⟩
        (repeat (refine And.intro rfl ?_))
        refine H4.wrK (.list (((Z.V.take i).filter fun v => decide (np v = 0)).map .str ++ [.str v])) fun hp5 W5 H5 => ?_
        refine ⟨_, hp5, W5, by simpa using hlen, X.next ["i"] _ (.mk ?_)⟩
        rw [e0]
        have e1 : [v].filter (fun v => decide (np v = 0)) = [v] := by simp [hb']
        rw [e1, List.map_append]
        exact H5
      · have hb' := of_decide_eq_false hb
        refine ⟨fun hf => (nomatch hf), fun _ => (X.next ["i"] _ (.mk ?_))⟩
        rw [e0]
        have e1 : [v].filter (fun v => decide (np v = 0)) = [] := by simp [hb']
        rw [e1, List.append_nil]
        exact H4
  · have hlen : ((Z.V.map fun v => (v, AV.ref (Z.n v))).map fun p => [p.2]).length = Z.V.length := by simp
    rw [hlen, List.take_length] at H4
    have H5 : Sh _ (Z.all .none 0 0 np ((rl, .list ((Z.V.filter fun v => decide (np v = 0)).map .str)) :: (Z.lis ++ fr))) :=
      Sh.perm (o1 := (Z.m, Z.dm) :: (rl, .list ((Z.V.filter fun v => decide (np v = 0)).map .str)) :: (Z.a, .inst 130 Z.d0) :: (Z.d0, .attrs [("_node2info", .ref Z.m), ("_ready_nodes", .none), ("_npassedout", .int 0), ("_nfinished", .int 0)]) :: (Z.nod np ++ (Z.att ++ (Z.lis ++ fr))))
        (Sh.thaw (H4.perm (by exact pm [_, _, _, _] [_, _, _, _] (.c 0 (.c 1 (.c 2 (.c 3 (.a (.l 0) (.a (.l 1) (.a (.l 2) (.l 3)))))))) (.c 1 (.c 0 (.c 2 (.c 3 (.a (.l 0) (.a (.l 1) (.a (.l 2) (.l 3)))))))) rfl)) rfl) (by exact pm [_, _, _, _] [_, _, _, _] (.c 0 (.c 1 (.c 2 (.c 3 (.a (.l 0) (.a (.l 1) (.a (.l 2) (.l 3)))))))) (.a (.c 2 (.c 3 (.c 0 .n))) (.a (.l 0) (.a (.l 1) (.c 1 (.a (.l 2) (.l 3)))))) rfl)
    refine Sf.setCK H5 (.ref rl) 0 0 fun hp6 W6 H6 => ?_
    (repeat (refine And.intro rfl ?_))
    refine ⟨Z.d0, _, hp6, Sf.hA H5, W6, .tail _ (.head _), by simp, ?_⟩
    (repeat (refine And.intro rfl ?_))
    refine ⟨.inst, ⟨Z.a, Z.d0, _, rfl, Sf.hA H6, Sf.hB H6, attrs4⟩, rfl, ?_⟩
    (repeat (refine And.intro rfl ?_))
    have H7 : Sh hp6 (Z.all (.ref rl) 0 0 np (Z.lis ++ ((rl, .list ((Z.V.filter fun v => decide (np v = 0)).map .str)) :: fr))) := Sf.permR H6 (by exact pm [_] [_, _] (.c 0 (.a (.l 0) (.l 1))) (.a (.l 0) (.c 0 (.l 1))) rfl)
    refine .mk (fc_sem (by (first | exact Mine.fu rfl | exact Mine.lm0 (by assumption) rfl | omega)) ok H7 (fun hp' hfin H8 => ?_) (fun r l hp' hc hl1 hl2 H8 => ?_))
    · (repeat (refine And.intro rfl ?_))
      refine ⟨fun hf => (nomatch hf), fun _ => hf rl hp' hfin (Sf.permR H8 (by exact pm [_] [_, _] (.a (.l 0) (.c 0 (.l 1))) (.c 0 (.a (.l 0) (.l 1))) rfl))⟩
    · (repeat (refine And.intro rfl ?_))
      refine ⟨l, H8.has (.head _), hl2, ?_⟩
      have e : l.isEmpty = false := by cases l <;> first | rfl | exact absurd rfl hl1
      rw [e]
      (repeat (refine And.intro rfl ?_))
      exact ⟨fun _ => ⟨rfl, rfl, ht rl hp' hc (Sf.permR H8.tl (by exact pm [_] [_, _] (.a (.l 0) (.c 0 (.l 1))) (.c 0 (.a (.l 0) (.l 1))) rfl))⟩, fun hf => (nomatch hf)⟩
end Mine
end

section
open PySem PySem.W PyProof.Rows PySem.Calls PySem.Spec
set_option maxRecDepth 100000
set_option maxHeartbeats 2000000
namespace Mine

noncomputable def opsL : List Str := (spart (bodyOf 151)).1.flatMap fun e => (epart e).2.flatMap fun e => (epart e).1
theorem ops_sem {N : Nat} (hN : 70 ≤ N) {ro hp : HP} {cm : Bool} {sc : Scope} {k : AV → HP → Prop} (h0 : ∀ r, k (.ref r) ((r, .list (opsL.map .str)) :: hp)) : (sem N).C ⟨sc, ro, true, cm⟩ 151 [] hp k := by
  obtain ⟨n, rfl⟩ := pull hN
  (repeat (refine And.intro rfl ?_))
  refine ⟨by simp; decide, fun r => ?_⟩
  exact h0 r

/-! ## `_law_code` -/
structure Rw where
  r : Addr
  l : List Str
noncomputable def Rw.obj (q : Rw) : Addr × AO := (q.r, .list (q.l.map .str))
noncomputable def signsOf (one : Str) : List Str := [one, "=", one ++ one, "==", one ++ "=", one ++ one ++ "="]
noncomputable def ones : List Str := ["*", "/", "<", ">"]

theorem one_of (c : Int) : ∃ (ch m : Nat), c / 2 % 4 = (m : Int) ∧ m ≤ lim ∧ ("*/<>" : Str).cps[m]? = some ch ∧ (⟨#[ch]⟩ : Str) ∈ ones := by
  have h1 : 0 ≤ c / 2 % 4 := Int.emod_nonneg _ (by decide)
  have h2 : c / 2 % 4 < 4 := Int.emod_lt_of_pos _ (by decide)
  obtain ⟨m, hm⟩ := Int.eq_ofNat_of_zero_le h1
  have h3 : m < 4 := by (first | exact Mine.fu rfl | exact Mine.lm0 (by assumption) rfl | omega)
  match m, h3 with
  | 0, _ => exact ⟨_, 0, hm, by decide, rfl, .head _⟩
  | 1, _ => exact ⟨_, 1, hm, by decide, rfl, .tail _ (.head _)⟩
  | 2, _ => exact ⟨_, 2, hm, by decide, rfl, .tail _ (.tail _ (.head _))⟩
  | 3, _ => exact ⟨_, 3, hm, by decide, rfl, .tail _ (.tail _ (.tail _ (.head _)))⟩
theorem code_sem {N : Nat} (hN : 60 ≤ N) {ro hp fr : HP} {cm : Bool} {sc : Scope} {a : Addr} {L : List Int} (hL : L.length ≤ 63) (hro : (a, AO.list (L.map .int)) ∈ ro) (H : Sh hp fr) {k : AV → HP → Prop}
    (h0 : ∀ (r : Addr) (one : Str) (rws : List Rw) (hp' : HP), one ∈ ones → 3 ≤ rws.length → rws.length ≤ 4 → (∀ q ∈ rws, q.l ≠ [] ∧ q.l.length ≤ 4 ∧ ∀ s ∈ q.l, s ∈ signsOf one) → Sh hp' ((r, .list (rws.map fun q => AV.ref q.r)) :: (rws.map Rw.obj ++ fr)) → k (.ref r) hp') :
    (sem N).C ⟨sc, ro, true, cm⟩ 156 [.ref a] hp k := by
  obtain ⟨n, rfl⟩ := pull hN
  have h1000 : 1000 ≤ lim := by decide
  (repeat (refine And.intro rfl ?_))
  refine ⟨(by decide : 5 ≤ lim), fun c => ?_⟩
  have H1 := H.push (r := c) (x := .list ([0, 36, 39, 27, 13].map .int))
  (repeat (refine And.intro rfl ?_))
  refine ⟨⟨rfl, rfl⟩, ?_⟩
  refine ⟨.inl (.inr ⟨.list (L.map .int), (L.map AV.int).zipIdx.map (fun p => [.int p.2, p.1]), hro, rfl, by (simp; exact lin [_, _] (.le (.v 0) (.v 1)) 1 (.c 1 (.le (.v 0) (.n 63)) (.c 1 (.le (.n 1000) (.v 1)) .e)) (Eq.refl true) hL h1000), ?_⟩)⟩
  (repeat (refine And.intro rfl ?_))
  refine ⟨fun i => At [("script", .ref a), ("cells", .ref c)] fun hp => ∃ cs : List Int, cs.length = 5 ∧ Sh hp ((c, .list (cs.map .int)) :: fr),
    .mk ⟨[0, 36, 39, 27, 13], rfl, H1⟩, fun _ _ _ => trivial, fun i us _ hi h kX X => ?_, fun _ h => ?_⟩
  · rw [List.getElem?_map, List.getElem?_zipIdx, List.getElem?_map] at hi
    cases hvi : L[i]? with
    | none => rw [hvi] at hi; cases hi
    | some x =>
    rw [hvi] at hi
    simp only [Option.map_some, Option.some.injEq] at hi
    subst hi
    obtain ⟨cs, hcs, H2⟩ := h
    have hj : ((((0 + i : Nat) : Int)) % 5) = ((i % 5 : Nat) : Int) := by (first | exact Mine.fu rfl | exact Mine.lm0 (by assumption) rfl | omega)
    have hlt : i % 5 < cs.length := by (first | exact Mine.fu rfl | exact Mine.lm0 (by assumption) rfl | omega)
    have hget : (cs.map AV.int)[i % 5]? = some (.int cs[i % 5]) := by rw [List.getElem?_map, List.getElem?_eq_getElem hlt]; rfl
    · (repeat (refine And.intro rfl ?_))
      refine ⟨by decide, ?_⟩
      (repeat (refine And.intro rfl ?_))
      refine ⟨_, _, i % 5, H2.has (.head _), hj, by exact lin [_, _, _] (.le (.v 0) (.v 1)) 1 (.c 1 (.le (.n 1000) (.v 1)) (.c 1 (.eq (.v 2) (.n 5)) (.c 1 (.lt (.v 0) (.v 2)) .e))) (Eq.refl true) h1000 hcs hlt, hget, ?_⟩
      (repeat (refine And.intro rfl ?_))
      refine H2.wrK (.list ((cs.map AV.int).set (i % 5) (.int (cs[i % 5] + x)))) fun hp3 W3 H3 => ?_
      refine ⟨.inl ⟨_, hp3, i % 5, W3, hj, by simpa using hlt, by (simp; exact lin [_, _] (.le (.v 0) (.v 1)) 1 (.c 1 (.le (.n 1000) (.v 1)) (.c 1 (.eq (.v 0) (.n 5)) .e)) (Eq.refl true) h1000 hcs), X.next ["place", "x"] _ (.mk ⟨cs.set (i % 5) (cs[i % 5] + x), by simpa using hcs, ?_⟩)⟩⟩
      rw [List.map_set]; exact H3
  · obtain ⟨cs, hcs, H2⟩ := h
    obtain ⟨c0, c1, c2, c3, c4, rfl⟩ : ∃ c0 c1 c2 c3 c4, cs = [c0, c1, c2, c3, c4] := by
      match cs, hcs with
      | [c0, c1, c2, c3, c4], _ => exact ⟨c0, c1, c2, c3, c4, rfl⟩
    · (repeat (refine And.intro rfl ?_))
      refine ⟨_, _, 0, H2.has (.head _), rfl, by decide, rfl, ?_⟩
      (repeat (refine And.intro rfl ?_))
      refine ⟨by decide, ?_⟩
      (repeat (refine And.intro rfl ?_))
      refine ⟨by decide, ?_⟩
      (repeat (refine And.intro rfl ?_))
      obtain ⟨ch, m, e1, e2, e3, hone⟩ := one_of c0
      refine ⟨ch, m, e1, e2, e3, ?_⟩
      generalize hone' : (⟨#[ch]⟩ : Str) = one at *
      have hl1 : one.length = 1 := by rw [← hone']; rfl
      (repeat (refine And.intro rfl ?_))
      refine ⟨by exact lin [_, _] (.le (.a (.v 0) (.v 0)) (.v 1)) 1 (.c 1 (.le (.n 1000) (.v 1)) (.c 2 (.eq (.v 0) (.n 1)) .e)) (Eq.refl true) h1000 hl1, ?_⟩
      (repeat (refine And.intro rfl ?_))
      refine ⟨by rw [hl1]; decide, ?_⟩
      (repeat (refine And.intro rfl ?_))
      refine ⟨by exact lin [_, _] (.le (.a (.v 0) (.v 0)) (.v 1)) 1 (.c 1 (.le (.n 1000) (.v 1)) (.c 2 (.eq (.v 0) (.n 1)) .e)) (Eq.refl true) h1000 hl1, ?_⟩
      (repeat (refine And.intro rfl ?_))
      have hl2 : (one ++ one).length = 2 := by rw [← hone']; rfl
      refine ⟨by rw [hl2]; decide, ?_⟩
      (repeat (refine And.intro rfl ?_))
      refine ⟨(by decide : 6 ≤ lim), fun sg => ?_⟩
      have H3 := H2.push (r := sg) (x := .list ((signsOf one).map .str))
      (repeat (refine And.intro rfl ?_))
      refine ⟨Nat.zero_le _, fun rw0 => ?_⟩
      have H4 := H3.push (r := rw0) (x := .list [])
      (repeat (refine And.intro rfl ?_))
      refine ⟨_, _, 0, H4.has (.tail _ (.tail _ (.head _))), rfl, by decide, rfl, ?_⟩
      (repeat (refine And.intro rfl ?_))
      refine ⟨by decide, ?_⟩
      (repeat (refine And.intro rfl ?_))
      obtain ⟨b, hb, hb2⟩ : ∃ b : Nat, c0 % 2 = (b : Int) ∧ b < 2 := by
        obtain ⟨b, hb⟩ := Int.eq_ofNat_of_zero_le (Int.emod_nonneg c0 (b := 2) (by decide))
        exact ⟨b, hb, by have := Int.emod_lt_of_pos c0 (b := 2) (by decide); omega⟩
      have hcl : ∃ cl : List Int, (([c0, c1, c2, c3, c4].map AV.int).drop 1).take (4 + b - 1) = cl.map .int ∧ cl.length = 3 + b :=
        ⟨([c0, c1, c2, c3, c4].drop 1).take (4 + b - 1), by rw [List.map_take, List.map_drop], by (first | exact Mine.lm2 (by assumption) rfl | exact Mine.lm (by assumption) rfl | exact Mine.lm0 (by assumption) rfl | (simp; omega))⟩
      obtain ⟨cl, hcl1, hcl2⟩ := hcl
      refine ⟨[c0, c1, c2, c3, c4].map .int, 1, 4 + b, H4.has (.tail _ (.tail _ (.head _))), rfl, by rw [hb]; omega, by exact lin [_] (.le (.n 1) (.a (.n 4) (.v 0))) 1 .e (Eq.refl true), by (simp; exact lin [_] (.le (.a (.n 4) (.v 0)) (.n 5)) 1 (.c 1 (.lt (.v 0) (.n 2)) .e) (Eq.refl true) hb2), by (simp; exact lin [_] (.le (.n 5) (.v 0)) 1 (.c 1 (.le (.n 1000) (.v 0)) .e) (Eq.refl true) h1000), fun r2 => ?_⟩
      rw [hcl1]
      obtain ⟨hf, hw⟩ := (H4.push (r := r2) (x := .list (cl.map .int))).freeze
      refine ⟨.inr ⟨.list (cl.map .int), (cl.map AV.int).map (fun v => [v]), hf, rfl, by (simp; exact lin [_, _, _] (.le (.v 0) (.v 1)) 1 (.c 1 (.le (.n 1000) (.v 1)) (.c 1 (.lt (.v 2) (.n 2)) (.c 1 (.eq (.v 0) (.a (.n 3) (.v 2))) .e))) (Eq.refl true) h1000 hb2 hcl2), fun o => (hw o).1, fun o => ?_⟩⟩
      have H5 := (hw o).2
      (repeat (refine And.intro rfl ?_))
      refine ⟨fun i => At [("script", .ref a), ("cells", .ref c), ("one", .str one), ("signs", .ref sg), ("rows", .ref rw0)] fun hp => ∃ rws : List Rw, rws.length = i ∧ (∀ q ∈ rws, q.l ≠ [] ∧ q.l.length ≤ 2 ∧ ∀ s ∈ q.l, s ∈ signsOf one) ∧
        Sh hp ((rw0, .list (rws.map fun q => AV.ref q.r)) :: (r2, .froz o (.list (cl.map .int))) :: (sg, .list ((signsOf one).map .str)) :: (rws.map Rw.obj ++ fr)),
        .mk ⟨[], rfl, fun _ h => (nomatch h), ?_⟩, fun i => at1 fun _ h => ?_, fun i us => at2 fun _ hi h kX X => ?_, at1 fun _ h => ?_⟩
      · refine Sh.drop (o2 := [(c, .list ([c0, c1, c2, c3, c4].map .int))]) (H5.perm ?_)
        simp only [List.map_nil, List.nil_append]
        exact pm [_, _, _, _] [_] (.c 0 (.c 1 (.c 2 (.c 3 (.l 0))))) (.a (.c 1 (.c 0 (.c 2 (.l 0)))) (.c 3 .n)) rfl
      · obtain ⟨_, _, _, h4⟩ := h
        exact h4.memF (.tail _ (.head _))
      · rw [List.getElem?_map, List.getElem?_map] at hi
        cases hvi : cl[i]? with
        | none => rw [hvi] at hi; cases hi
        | some cell =>
        rw [hvi] at hi; cases hi
        obtain ⟨rws, hlen, hrws, H6⟩ := h
        have hil : i < cl.length := (List.getElem?_eq_some_iff.mp hvi).1
        · (repeat (refine And.intro rfl ?_))
          refine ⟨.list, ⟨rw0, _, rfl, H6.has (.head _)⟩, rfl, ?_⟩
          (repeat (refine And.intro rfl ?_))
          refine ⟨by decide, ?_⟩
          (repeat (refine And.intro rfl ?_))
          refine ⟨by decide, ?_⟩
          (repeat (refine And.intro rfl ?_))
          refine ⟨by decide, ?_⟩
          (repeat (refine And.intro rfl ?_))
          refine ⟨(by decide : 2 ≤ lim), fun r3 => ?_⟩
          obtain ⟨hf3, hw3⟩ := (H6.push (r := r3) (x := .list [.int (cell % 6), .int (cell / 6 % 7)])).freeze
          refine ⟨.inr ⟨.list [.int (cell % 6), .int (cell / 6 % 7)], [[.int (cell % 6)], [.int (cell / 6 % 7)]], hf3, rfl, (by decide : 2 ≤ lim), fun o => (hw3 o).1, fun o3 => ?_⟩⟩
          have H7 := (hw3 o3).2
          (repeat (refine And.intro rfl ?_))
          intro rr
          have H8 := H7.push (r := rr) (x := .list [])
          (repeat (refine And.intro rfl ?_))
          refine ⟨fun j => At [("signs", .ref sg)] fun hp => ∃ out : List Str, (1 ≤ j → out ≠ []) ∧ out.length ≤ j ∧ (∀ s ∈ out, s ∈ signsOf one) ∧ Sh hp ((rr, .list (out.map .str)) :: (r3, .froz o3 (.list [.int (cell % 6), .int (cell / 6 % 7)])) :: (rw0, .list (rws.map fun q => AV.ref q.r)) :: (r2, .froz o (.list (cl.map .int))) :: (sg, .list ((signsOf one).map .str)) :: (rws.map Rw.obj ++ fr)),
            .mk ⟨[], fun h => absurd h (by decide), Nat.le_refl _, fun _ h => (nomatch h), H8⟩, fun j => at1 fun _ h => ?_, fun j us3 => at2 fun _ hj h kX X => ?_, at1 fun _ h => ?_⟩
          · obtain ⟨_, _, _, _, h4⟩ := h
            exact h4.memF (.tail _ (.head _))
          · obtain ⟨out, ho1, ho2, ho3, H9⟩ := h
            obtain ⟨kv, rfl, hk0, hk7, hk6⟩ : ∃ kv : Int, us3 = [.int kv] ∧ 0 ≤ kv ∧ kv < 7 ∧ (j = 0 → kv < 6) := by
              match j, hj with
              | 0, hj => cases hj; exact ⟨_, rfl, Int.emod_nonneg _ (by decide), by have := Int.emod_lt_of_pos cell (b := 6) (by decide); omega, fun _ => Int.emod_lt_of_pos cell (by decide)⟩
              | 1, hj => cases hj; exact ⟨_, rfl, Int.emod_nonneg _ (by decide), Int.emod_lt_of_pos _ (by decide), fun h => (nomatch h)⟩
            have hj2 : j < 2 := by
              rcases Nat.lt_or_ge j 2 with z | z
              · exact z
              · rw [List.getElem?_eq_none (by simpa using z)] at hj; cases hj
            · (repeat (refine And.intro rfl ?_))
              refine ⟨fun hb => ?_, fun hb => ?_⟩
              · have hb' := of_decide_eq_true hb
                (repeat (refine And.intro rfl ?_))
                refine ⟨fun _ => ?_, fun hf => (nomatch hf)⟩
                obtain ⟨nk, hnk⟩ := Int.eq_ofNat_of_zero_le hk0
                have hnk6 : nk < (signsOf one).length := by show nk < 6; omega
                have hget : ((signsOf one).map AV.str)[nk]? = some (.str (signsOf one)[nk]) := by rw [List.getElem?_map, List.getElem?_eq_getElem hnk6]; rfl
                (repeat (refine And.intro rfl ?_))
                refine ⟨_, _, nk, H9.has (.tail _ (.tail _ (.tail _ (.tail _ (.head _))))), hnk, by have : (signsOf one).length = 6 := rfl; exact lin [_, _, _] (.le (.v 0) (.v 1)) 1 (.c 1 (.le (.n 1000) (.v 1)) (.c 1 (.lt (.v 0) (.v 2)) (.c 1 (.eq (.v 2) (.n 6)) .e))) (Eq.refl true) h1000 hnk6 this, hget, ?_⟩
                (repeat (refine And.intro rfl ?_))
                refine H9.wrK (.list (out.map .str ++ [.str (signsOf one)[nk]])) fun hp10 W10 H10 => ?_
                refine ⟨_, hp10, W10, by (simp; exact lin [_, _, _] (.le (.v 0) (.v 1)) 1 (.c 1 (.le (.n 1000) (.v 1)) (.c 1 (.le (.v 0) (.v 2)) (.c 1 (.lt (.v 2) (.n 2)) .e))) (Eq.refl true) h1000 ho2 hj2), X.next ["k"] _ (.mk ⟨out ++ [(signsOf one)[nk]], fun _ => by simp, by (simp; exact lin [_, _] (.le (.v 0) (.v 1)) 1 (.c 1 (.le (.v 0) (.v 1)) .e) (Eq.refl true) ho2), fun s hs => ?_, by rw [List.map_append]; exact H10⟩)⟩
                rcases List.mem_append.mp hs with hs | hs
                · exact ho3 s hs
                · rcases List.mem_singleton.mp hs with rfl; exact List.getElem_mem _
              · have hb' := of_decide_eq_false hb
                refine ⟨fun hf => (nomatch hf), fun _ => (X.next ["k"] _ (.mk ⟨out, fun _ => ?_, by exact lin [_, _] (.le (.v 0) (.a (.v 1) (.n 1))) 1 (.c 1 (.le (.v 0) (.v 1)) .e) (Eq.refl true) ho2, ho3, H9⟩))⟩
                rcases Nat.eq_zero_or_pos j with z | z
                · exact absurd (hk6 z) hb'
                · exact ho1 z
          · obtain ⟨out, ho1, ho2, ho3, H9⟩ := h
            have ho2 : out.length ≤ 2 := ho2
            have ho1 : out ≠ [] := ho1 (by simp)
            (repeat (refine And.intro rfl ?_))
            refine (H9.perm (o2 := (rw0, .list (rws.map fun q => AV.ref q.r)) :: (rr, .list (out.map .str)) :: (r2, .froz o (.list (cl.map .int))) :: (sg, .list ((signsOf one).map .str)) :: (rws.map Rw.obj ++ (fr ++ [(r3, .froz o3 (.list [.int (cell % 6), .int (cell / 6 % 7)]))]))) (by exact pm [_, _, _, _, _] [_, _] (.c 0 (.c 1 (.c 2 (.c 3 (.c 4 (.a (.l 0) (.l 1))))))) (.c 2 (.c 0 (.c 3 (.c 4 (.a (.l 0) (.a (.l 1) (.c 1 .n))))))) rfl)).wrK (.list ((rws.map fun q => AV.ref q.r) ++ [.ref rr])) fun hp10 W10 H10 => ?_
            refine ⟨_, hp10, W10, by (simp; exact lin [_, _, _, _, _] (.le (.v 0) (.v 1)) 1 (.c 1 (.le (.n 1000) (.v 1)) (.c 1 (.lt (.v 2) (.n 2)) (.c 1 (.eq (.v 3) (.a (.n 3) (.v 2))) (.c 1 (.eq (.v 0) (.v 4)) (.c 1 (.lt (.v 4) (.v 3)) .e))))) (Eq.refl true) h1000 hb2 hcl2 hlen hil), ?_⟩
            (repeat (refine And.intro rfl ?_))
            refine (X.next ["cell"] _ (.mk ⟨rws ++ [⟨rr, out⟩], by simp [hlen], fun q hq => ?_, ?_⟩))
            · rcases List.mem_append.mp hq with hq | hq
              · exact hrws q hq
              · rcases List.mem_singleton.mp hq with rfl; exact ⟨ho1, ho2, ho3⟩
            · refine Sh.drop (o2 := [(r3, .froz o3 (.list [.int (cell % 6), .int (cell / 6 % 7)]))]) (H10.perm ?_)
              simp only [List.map_append, List.map_cons, List.map_nil, Rw.obj]
              exact pm [_, _, _, _, _] [_, _] (.c 0 (.c 1 (.c 2 (.c 3 (.a (.l 0) (.a (.l 1) (.c 4 .n))))))) (.a (.c 0 (.c 2 (.c 3 (.a (.a (.l 0) (.c 1 .n)) (.l 1))))) (.c 4 .n)) rfl
      · obtain ⟨rws, hlen, hrws, H6⟩ := h
        have hlen : rws.length = 3 + b := by rw [hlen]; simp [hcl2]
        · obtain ⟨q0, q1, tl, rfl⟩ : ∃ q0 q1 tl, rws = q0 :: q1 :: tl := by
            match rws, hlen with
            | q0 :: q1 :: tl, _ => exact ⟨q0, q1, tl, rfl⟩
            | [q0], h => simp at h; omega
            | [], h => simp at h; omega
          have hq0 := hrws q0 (.head _)
          have hq1 := hrws q1 (.tail _ (.head _))
          (repeat (refine And.intro rfl ?_))
          refine ⟨_, _, 0, H6.has (.head _), rfl, by decide, rfl, ?_⟩
          (repeat (refine And.intro rfl ?_))
          refine ⟨_, _, 1, H6.has (.head _), rfl, by decide, rfl, ?_⟩
          (repeat (refine And.intro rfl ?_))
          refine ⟨q0.l.map .str, q1.l.map .str, H6.has (.tail _ (.tail _ (.tail _ (.head _)))), H6.has (.tail _ (.tail _ (.tail _ (.tail _ (.head _))))), by (simp; exact lin [_, _, _] (.le (.a (.v 0) (.v 1)) (.v 2)) 1 (.c 1 (.le (.n 1000) (.v 2)) (.c 1 (.le (.v 0) (.n 2)) (.c 1 (.le (.v 1) (.n 2)) .e))) (Eq.refl true) h1000 hq0.2.1 hq1.2.1), fun r9 => ?_⟩
          have H7 := H6.push (r := r9) (x := .list (q0.l.map .str ++ q1.l.map .str))
          (repeat (refine And.intro rfl ?_))
          refine (H7.perm (o2 := (rw0, .list ((q0 :: q1 :: tl).map fun q => AV.ref q.r)) :: (r9, .list (q0.l.map .str ++ q1.l.map .str)) :: (r2, .froz o (.list (cl.map .int))) :: (sg, .list ((signsOf one).map .str)) :: ((q0 :: q1 :: tl).map Rw.obj ++ fr)) (by exact pm [_, _, _, _] [_, _] (.c 0 (.c 1 (.c 2 (.c 3 (.a (.l 0) (.l 1)))))) (.c 1 (.c 0 (.c 2 (.c 3 (.a (.l 0) (.l 1)))))) rfl)).wrK (.list (((q0 :: q1 :: tl).map fun q => AV.ref q.r).set 1 (.ref r9))) fun hp11 W11 H11 => ?_
          refine ⟨.inl ⟨_, hp11, 1, W11, rfl, by simp, by simp at hlen ⊢; exact lin [_, _, _] (.le (.a (.a (.v 0) (.n 1)) (.n 1)) (.v 1)) 1 (.c 1 (.le (.n 1000) (.v 1)) (.c 1 (.lt (.v 2) (.n 2)) (.c 1 (.eq (.a (.a (.v 0) (.n 1)) (.n 1)) (.a (.n 3) (.v 2))) .e))) (Eq.refl true) h1000 hb2 hlen, ?_⟩⟩
          (repeat (refine And.intro rfl ?_))
          refine h0 rw0 one (q0 :: ⟨r9, q0.l ++ q1.l⟩ :: tl) hp11 hone (by simp at hlen ⊢; exact lin [_, _] (.le (.n 1) (.v 0)) 1 (.c 1 (.qe (.a (.a (.v 0) (.n 1)) (.n 1)) (.a (.n 3) (.v 1))) .e) (Eq.refl true) hlen) (by simp at hlen ⊢; exact lin [_, _] (.le (.v 0) (.n 2)) 1 (.c 1 (.lt (.v 1) (.n 2)) (.c 1 (.eq (.a (.a (.v 0) (.n 1)) (.n 1)) (.a (.n 3) (.v 1))) .e)) (Eq.refl true) hb2 hlen) (fun q hq => ?_) (Sh.drop (o2 := [(r2, .froz o (.list (cl.map .int))), (sg, .list ((signsOf one).map .str)), q1.obj]) (H11.perm ?_))
          · rcases List.mem_cons.mp hq with rfl | hq
            · exact ⟨hq0.1, by exact lin [_] (.le (.v 0) (.n 4)) 1 (.c 1 (.le (.v 0) (.n 2)) .e) (Eq.refl true) hq0.2.1, hq0.2.2⟩
            rcases List.mem_cons.mp hq with rfl | hq
            · refine ⟨by simp [hq0.1], by (simp; exact lin [_, _] (.le (.a (.v 0) (.v 1)) (.n 4)) 1 (.c 1 (.le (.v 0) (.n 2)) (.c 1 (.le (.v 1) (.n 2)) .e)) (Eq.refl true) hq0.2.1 hq1.2.1), fun s hs => ?_⟩
              rcases List.mem_append.mp hs with hs | hs
              · exact hq0.2.2 s hs
              · exact hq1.2.2 s hs
            · have := hrws q (.tail _ (.tail _ hq))
              exact ⟨this.1, by exact lin [_] (.le (.v 0) (.n 4)) 1 (.c 1 (.le (.v 0) (.n 2)) .e) (Eq.refl true) this.2.1, this.2.2⟩
          · simp only [List.map_cons, Rw.obj, List.map_append]
            refine (?_ : List.Perm (_ :: _ :: _ :: _ :: ((q0.r, _) :: (q1.r, _) :: List.map _ tl ++ fr)) (((rw0, _) :: ((q0.r, _) :: (r9, _) :: List.map _ tl ++ fr)) ++ [_, _, _]))
            simp only [List.set_cons_succ, List.set_cons_zero]
            exact pm [_, _, _, _, _, _] [_, _] (.c 0 (.c 1 (.c 2 (.c 3 (.a (.c 4 (.c 5 (.l 0))) (.l 1)))))) (.a (.c 0 (.a (.c 4 (.c 1 (.l 0))) (.l 1))) (.c 2 (.c 3 (.c 5 .n)))) rfl
end Mine
end

section
open PySem PySem.W PyProof.Rows PySem.Calls PySem.Spec
set_option maxRecDepth 100000
namespace Mine

/-! ## heights -/
noncomputable def mx (l : List Nat) : Nat := l.foldr max 0
theorem mx_le {l : List Nat} {b : Nat} (h : ∀ x ∈ l, x ≤ b) : mx l ≤ b := by
  induction l with
  | nil => exact Nat.zero_le _
  | cons x l ih =>
    refine (?_ : max x (mx l) ≤ b)
    exact Nat.max_le.mpr ⟨h x (.head _), ih fun y hy => h y (.tail _ hy)⟩
theorem le_mx {l : List Nat} {x : Nat} (h : x ∈ l) : x ≤ mx l := by
  induction l with
  | nil => cases h
  | cons y l ih =>
    refine (?_ : x ≤ max y (mx l))
    rcases List.mem_cons.mp h with rfl | h
    · exact Nat.le_max_left _ _
    · exact Nat.le_trans (ih h) (Nat.le_max_right _ _)
theorem mx_mem {l : List Nat} {n : Nat} (h : mx l = n + 1) : n + 1 ∈ l := by
  induction l with
  | nil => cases h
  | cons y l ih =>
    have h : max y (mx l) = n + 1 := h
    rcases Nat.le_total y (mx l) with z | z
    · rw [Nat.max_eq_right z] at h; exact .tail _ (ih h)
    · rw [Nat.max_eq_left z] at h; rw [h]; exact .head _
noncomputable def hgt (g : Str → List Str) : Nat → Str → Nat
  | 0, _ => 0
  | k + 1, t => mx ((g t).map fun x => 1 + hgt g k x)
section
variable {g : Str → List Str}
theorem hgt_le (g : Str → List Str) : ∀ k t, hgt g k t ≤ k
  | 0, _ => Nat.le_refl _
  | k + 1, t => mx_le fun x hx => by
    obtain ⟨y, _, rfl⟩ := List.mem_map.mp hx
    have := hgt_le g k y; exact lin [_, _] (.le (.a (.n 1) (.v 0)) (.a (.v 1) (.n 1))) 1 (.c 1 (.le (.v 0) (.v 1)) .e) (Eq.refl true) this
theorem hgt_ge {k : Nat} {t x : Str} (h : x ∈ g t) : 1 + hgt g k x ≤ hgt g (k + 1) t := le_mx (List.mem_map.mpr ⟨x, h, rfl⟩)
theorem hgt_bd {k b : Nat} {t : Str} (h : ∀ x ∈ g t, 1 + hgt g k x ≤ b) : hgt g (k + 1) t ≤ b := mx_le fun y hy => by
  obtain ⟨x, hx, rfl⟩ := List.mem_map.mp hy
  exact h x hx
theorem hgt_mono (g : Str → List Str) : ∀ k t, hgt g k t ≤ hgt g (k + 1) t
  | 0, _ => Nat.zero_le _
  | k + 1, t => hgt_bd fun x hx => by
    have h1 := hgt_mono g k x
    have h2 := hgt_ge (g := g) (k := k + 1) hx
    exact lin [_, _, _] (.le (.a (.n 1) (.v 0)) (.v 1)) 1 (.c 1 (.le (.v 0) (.v 2)) (.c 1 (.le (.a (.n 1) (.v 2)) (.v 1)) .e)) (Eq.refl true) h1 h2
theorem hgt_stab (g : Str → List Str) : ∀ k t, hgt g k t < k → hgt g (k + 1) t = hgt g k t
  | 0, _, h => absurd h (Nat.not_lt_zero _)
  | k + 1, t, h => Nat.le_antisymm (hgt_bd fun x hx => by
    have h1 := hgt_ge (g := g) (k := k) hx
    have h2 := hgt_stab g k x (by exact lin [_, _, _] (.lt (.v 0) (.v 1)) 1 (.c 1 (.lt (.v 2) (.a (.v 1) (.n 1))) (.c 1 (.le (.a (.n 1) (.v 0)) (.v 2)) .e)) (Eq.refl true) h h1)
    exact lin [_, _, _] (.le (.a (.n 1) (.v 0)) (.v 1)) 1 (.c 1 (.le (.a (.n 1) (.v 2)) (.v 1)) (.c 1 (.eq (.v 0) (.v 2)) .e)) (Eq.refl true) h1 h2) (hgt_mono g _ _)
theorem hgt_const {k : Nat} {t : Str} (h : hgt g k t < k) : ∀ j, hgt g (k + j) t = hgt g k t
  | 0 => rfl
  | j + 1 => by
    have ih := hgt_const h j
    rw [show k + (j + 1) = (k + j) + 1 from rfl, hgt_stab g (k + j) t (by exact lin [_, _, _, _] (.lt (.v 0) (.a (.v 1) (.v 2))) 1 (.c 1 (.lt (.v 3) (.v 1)) (.c 1 (.eq (.v 0) (.v 3)) .e)) (Eq.refl true) h ih), ih]
theorem hgt_monoL {k : Nat} {t : Str} : ∀ j, hgt g k t ≤ hgt g (k + j) t
  | 0 => Nat.le_refl _
  | j + 1 => Nat.le_trans (hgt_monoL j) (hgt_mono g (k + j) t)
theorem hgt_pred {k j : Nat} {t : Str} (h : hgt g (k + 1) t = j + 1) : ∃ x ∈ g t, hgt g k x = j := by
  obtain ⟨x, hx, e⟩ := List.mem_map.mp (mx_mem h)
  exact ⟨x, hx, by exact Nat.le_antisymm (lin [_, _] (.le (.v 0) (.v 1)) 1 (.c 1 (.eq (.a (.n 1) (.v 0)) (.a (.v 1) (.n 1))) .e) (Eq.refl true) e) (lin [_, _] (.le (.v 0) (.v 1)) 1 (.c 1 (.qe (.a (.n 1) (.v 1)) (.a (.v 0) (.n 1))) .e) (Eq.refl true) e)⟩
variable {V : List Str} (cl : ∀ v ∈ V, ∀ x ∈ g v, x ∈ V)
include cl
theorem hgt_chain {k : Nat} : ∀ {j : Nat} {t : Str}, t ∈ V → hgt g k t = j → j < k → ∀ i, i ≤ j → ∃ u ∈ V, hgt g k u = i
  | 0, t, ht, h, _, i, hi => ⟨t, ht, by exact Nat.le_antisymm (lin [_, _] (.le (.v 0) (.v 1)) 1 (.c 1 (.eq (.v 0) (.n 0)) .e) (Eq.refl true) h) (lin [_, _] (.le (.v 0) (.v 1)) 1 (.c 1 (.le (.v 0) (.n 0)) .e) (Eq.refl true) hi)⟩
  | j + 1, t, ht, h, hk, i, hi => by
    rcases Nat.lt_or_ge i (j + 1) with z | z
    · have e : hgt g (k + 1) t = j + 1 := by rw [hgt_stab g k t (by exact lin [_, _, _] (.lt (.v 0) (.v 1)) 1 (.c 1 (.eq (.v 0) (.a (.v 2) (.n 1))) (.c 1 (.lt (.a (.v 2) (.n 1)) (.v 1)) .e)) (Eq.refl true) h hk), h]
      obtain ⟨x, hx, hj⟩ := hgt_pred e
      exact hgt_chain (cl t ht x hx) hj (by exact lin [_, _] (.lt (.v 0) (.v 1)) 1 (.c 1 (.lt (.a (.v 0) (.n 1)) (.v 1)) .e) (Eq.refl true) hk) i (by exact lin [_, _] (.le (.v 0) (.v 1)) 1 (.c 1 (.lt (.v 0) (.a (.v 1) (.n 1))) .e) (Eq.refl true) z)
    · exact ⟨t, ht, by exact Nat.le_antisymm (lin [_, _, _] (.le (.v 0) (.v 1)) 1 (.c 1 (.eq (.v 0) (.a (.v 2) (.n 1))) (.c 1 (.le (.a (.v 2) (.n 1)) (.v 1)) .e)) (Eq.refl true) h z) (lin [_, _, _] (.le (.v 0) (.v 1)) 1 (.c 1 (.qe (.v 1) (.a (.v 2) (.n 1))) (.c 1 (.le (.v 0) (.a (.v 2) (.n 1))) .e)) (Eq.refl true) h hi)⟩
/-- the levels of the finite ones fill no more than the nodes -/
theorem hgt_levels {k j : Nat} {t : Str} (ht : t ∈ V) (h : hgt g k t = j) (hk : j < k) : j + 1 ≤ (V.filter fun u => decide (hgt g k u ≤ j)).length := by
  have : (List.range (j + 1)).length ≤ ((V.filter fun u => decide (hgt g k u ≤ j)).map (hgt g k)).length := nodup_len List.nodup_range fun i hi => by
    have hi : i < j + 1 := List.mem_range.mp hi
    obtain ⟨u, hu, e⟩ := hgt_chain cl ht h hk i (by exact lin [_, _] (.le (.v 0) (.v 1)) 1 (.c 1 (.lt (.v 0) (.a (.v 1) (.n 1))) .e) (Eq.refl true) hi)
    exact List.mem_map.mpr ⟨u, List.mem_filter.mpr ⟨hu, by simp only [decide_eq_true_eq]; exact lin [_, _, _] (.le (.v 0) (.v 1)) 1 (.c 1 (.lt (.v 2) (.a (.v 1) (.n 1))) (.c 1 (.eq (.v 0) (.v 2)) .e)) (Eq.refl true) hi e⟩, e⟩
  simpa using this
theorem hgt_all {t : Str} (ht : t ∈ V) (h : hgt g V.length t + 1 = V.length) : ∀ u ∈ V, hgt g V.length u < V.length := by
  have h1 := hgt_levels cl ht rfl (by exact lin [_, _] (.lt (.v 0) (.v 1)) 1 (.c 1 (.eq (.a (.v 0) (.n 1)) (.v 1)) .e) (Eq.refl true) h : hgt g V.length t < V.length)
  have h2 := List.length_filter_le (fun u => decide (hgt g V.length u ≤ hgt g V.length t)) V
  have h3 : (V.filter fun u => decide (hgt g V.length u ≤ hgt g V.length t)).length = V.length := by exact Nat.le_antisymm (lin [_, _] (.le (.v 0) (.v 1)) 1 (.c 1 (.le (.v 0) (.v 1)) .e) (Eq.refl true) h2) (lin [_, _, _] (.le (.v 0) (.v 1)) 1 (.c 1 (.qe (.a (.v 2) (.n 1)) (.v 0)) (.c 1 (.le (.a (.v 2) (.n 1)) (.v 1)) .e)) (Eq.refl true) h h1)
  have h4 := List.length_filter_eq_length_iff.mp h3
  intro u hu
  have := h4 u hu
  simp only [decide_eq_true_eq] at this
  exact lin [_, _, _] (.lt (.v 0) (.v 1)) 1 (.c 1 (.eq (.a (.v 2) (.n 1)) (.v 1)) (.c 1 (.le (.v 0) (.v 2)) .e)) (Eq.refl true) h this
theorem hgt_fin {N : Nat} (h : ∀ u ∈ V, hgt g N u < N) : ∀ u ∈ V, hgt g V.length u < V.length := by
  intro u hu
  rcases Nat.lt_or_ge (hgt g V.length u) V.length with z | z
  · exact z
  · have e1 : hgt g V.length u = V.length := Nat.le_antisymm (hgt_le g _ _) z
    have hN := h u hu
    have h1 := hgt_levels cl hu rfl hN
    have h2 := List.length_filter_le (fun v => decide (hgt g N v ≤ hgt g N u)) V
    rcases Nat.le_total V.length N with q | q
    · obtain ⟨j, rfl⟩ : ∃ j, N = V.length + j := ⟨N - V.length, by exact Nat.le_antisymm (lin [_, _, _] (.le (.v 0) (.a (.v 1) (.v 2))) 1 (.c 1 (.qe (.a (.v 2) (.v 1)) (.v 0)) .e) (Eq.refl true) (Nat.sub_add_cancel (lin [_, _] (.le (.v 0) (.v 1)) 1 (.c 1 (.le (.v 0) (.v 1)) .e) (Eq.refl true) q))) (lin [_, _, _] (.le (.a (.v 0) (.v 1)) (.v 2)) 1 (.c 1 (.eq (.a (.v 1) (.v 0)) (.v 2)) .e) (Eq.refl true) (Nat.sub_add_cancel (lin [_, _] (.le (.v 0) (.v 1)) 1 (.c 1 (.le (.v 0) (.v 1)) .e) (Eq.refl true) q)))⟩
      have := hgt_monoL (g := g) (k := V.length) (t := u) j
      exact lin [_, _, _, _] (.lt (.v 0) (.v 1)) 1 (.c 1 (.le (.a (.v 2) (.n 1)) (.v 3)) (.c 1 (.le (.v 3) (.v 1)) (.c 1 (.le (.v 0) (.v 2)) .e))) (Eq.refl true) h1 h2 this
    · obtain ⟨j, hj⟩ : ∃ j, V.length = N + j := ⟨V.length - N, by exact Nat.le_antisymm (lin [_, _, _] (.le (.v 0) (.a (.v 1) (.v 2))) 1 (.c 1 (.qe (.a (.v 2) (.v 1)) (.v 0)) .e) (Eq.refl true) (Nat.sub_add_cancel (lin [_, _] (.le (.v 0) (.v 1)) 1 (.c 1 (.le (.v 0) (.v 1)) .e) (Eq.refl true) q))) (lin [_, _, _] (.le (.a (.v 0) (.v 1)) (.v 2)) 1 (.c 1 (.eq (.a (.v 1) (.v 0)) (.v 2)) .e) (Eq.refl true) (Nat.sub_add_cancel (lin [_, _] (.le (.v 0) (.v 1)) 1 (.c 1 (.le (.v 0) (.v 1)) .e) (Eq.refl true) q)))⟩
      rw [hj, hgt_const hN j] at e1
      exact lin [_, _, _, _, _] (.lt (.v 0) (.v 1)) 0 (.c 1 (.lt (.v 2) (.v 3)) (.c 1 (.qe (.v 2) (.a (.v 3) (.v 4))) .e)) (Eq.refl true) hN e1
/-- no level beyond the last -/
theorem hgt_last {v : Str} (hv : v ∈ V) (h : hgt g V.length v = V.length) (hg : ∀ x ∈ g v, hgt g V.length x < V.length) : False := by
  have h1 : hgt g (V.length + 1) v ≤ V.length := hgt_bd fun x hx => by have := hg x hx; exact lin [_, _] (.le (.a (.n 1) (.v 0)) (.v 1)) 1 (.c 1 (.lt (.v 0) (.v 1)) .e) (Eq.refl true) this
  have h2 := hgt_mono g V.length v
  have h3 : hgt g (V.length + 1) v = V.length := by exact Nat.le_antisymm (lin [_, _] (.le (.v 0) (.v 1)) 1 (.c 1 (.le (.v 0) (.v 1)) .e) (Eq.refl true) h1) (lin [_, _, _] (.le (.v 0) (.v 1)) 1 (.c 1 (.qe (.v 2) (.v 0)) (.c 1 (.le (.v 2) (.v 1)) .e)) (Eq.refl true) h h2)
  cases hn : V.length with
  | zero => rw [List.length_eq_zero_iff.mp hn] at hv; cases hv
  | succ n =>
    rw [hn] at h3
    obtain ⟨x, hx, e⟩ := hgt_pred h3
    have := hgt_all cl (cl v hv x hx) (by rw [hn, e]) v hv
    exact lin [_, _] .ff 0 (.c 1 (.qe (.v 0) (.v 1)) (.c 1 (.lt (.v 0) (.v 1)) .e)) (Eq.refl true) h this
end
end Mine
end

section
open PySem PySem.W PyProof.Rows PySem.Calls PySem.Spec
set_option maxRecDepth 100000
namespace Mine

/-! ## the tails -/
theorem cap (x y : Str) : (x ++ y).cps = x.cps ++ y.cps := rfl
theorem str_ext {x y : Str} (h : x.cps.toList = y.cps.toList) : x = y := by
  obtain ⟨⟨a⟩⟩ := x; obtain ⟨⟨b⟩⟩ := y
  simp only at h; subst h; rfl
theorem sdrop_l (w : Str) (n : Nat) : (sdrop w n).cps.toList = w.cps.toList.drop n := by simp [sdrop]
theorem sdrop_len (w : Str) (n : Nat) : (sdrop w n).length = w.length - n := by simp [sdrop, Str.length]
theorem sdrop_sdrop (w : Str) (a b : Nat) : sdrop (sdrop w a) b = sdrop w (a + b) := str_ext (by rw [sdrop_l, sdrop_l, sdrop_l, List.drop_drop])
theorem sdrop_all {w : Str} {n : Nat} (h : w.length ≤ n) : sdrop w n = "" := str_ext (by
  rw [sdrop_l, List.drop_of_length_le (by rw [len_toList]; exact h)]; rfl)
theorem app_nil (x : Str) : x ++ "" = x := str_ext (by rw [cap]; simp; rfl)
theorem nil_app (x : Str) : "" ++ x = x := str_ext (by rw [cap]; simp; rfl)
theorem ne_nil {x : Str} : x ≠ "" ↔ 1 ≤ x.length := by
  constructor
  · intro h
    rcases Nat.eq_zero_or_pos x.length with z | z
    · exact absurd (str_ext (List.length_eq_zero_iff.mp ((len_toList x).trans z))) h
    · exact z
  · intro h e
    rw [e] at h
    exact absurd h (by decide)
theorem comPre_full : ∀ {x y : List Nat}, x <+: y → comPre x y = x.length
  | [], _, _ => rfl
  | a :: x, [], h => by simp at h
  | a :: x, b :: y, h => by
    rw [List.cons_prefix_cons] at h
    unfold comPre
    rw [if_pos h.1, comPre_full h.2]; rfl
theorem comPre_comm : ∀ (x y : List Nat), comPre x y = comPre y x
  | [], [] => rfl
  | [], _ :: _ => rfl
  | _ :: _, [] => rfl
  | a :: x, b :: y => by
    unfold comPre
    rw [comPre_comm x y]
    by_cases e : a = b
    · rw [if_pos e, if_pos e.symm]
    · rw [if_neg e, if_neg (Ne.symm e)]
theorem comPre_pre : ∀ {x y : List Nat}, comPre x y = x.length → x <+: y
  | [], _, _ => List.nil_prefix
  | a :: x, [], h => by cases h
  | a :: x, b :: y, h => by
    unfold comPre at h
    split at h
    · rename_i e; subst e
      exact List.cons_prefix_cons.mpr ⟨rfl, comPre_pre (by simpa using h)⟩
    · cases h
theorem startswith_iff (x y : Str) : Txt.startswith x y = true ↔ y.cps.toList <+: x.cps.toList := by
  have e : (x.cps.extract 0 (0 + y.length)).toList = x.cps.toList.take y.cps.toList.length := by
    rw [Array.toList_extract, len_toList]; simp [List.extract]
  unfold Txt.startswith
  rw [Bool.and_eq_true, decide_eq_true_eq, Nat.zero_add]
  constructor
  · rintro ⟨_, h⟩
    have h := congrArg Array.toList (eq_of_beq h)
    rw [e] at h
    rw [← h]; exact List.take_prefix ..
  · intro h
    have hl := h.length_le
    rw [len_toList, len_toList] at hl
    refine ⟨hl, beq_iff_eq.mpr (Array.toList_inj.mp ?_)⟩
    rw [e]; exact (List.prefix_iff_eq_take.mp h).symm
theorem rest_sw (x y : Str) : restL x y = if Txt.startswith x y then [sdrop x y.length] else if Txt.startswith y x then [sdrop y x.length] else [] := by
  obtain ⟨c1, c2⟩ := comPre_le x.cps.toList y.cps.toList
  unfold restL
  dsimp only
  by_cases h1 : Txt.startswith x y = true
  · rw [if_pos h1]
    have hp := (startswith_iff x y).mp h1
    have e : comPre x.cps.toList y.cps.toList = y.length := by rw [comPre_comm, comPre_full hp, len_toList]
    rw [e, if_neg (fun z => Nat.lt_irrefl _ z.2), sdrop_all (Nat.le_refl y.length), app_nil]
  · rw [if_neg h1]
    by_cases h2 : Txt.startswith y x = true
    · rw [if_pos h2]
      have hp := (startswith_iff y x).mp h2
      have e : comPre x.cps.toList y.cps.toList = x.length := by rw [comPre_full hp, len_toList]
      rw [e, if_neg (fun z => Nat.lt_irrefl _ z.1), sdrop_all (Nat.le_refl x.length), nil_app]
    · rw [if_neg h2, if_pos]
      rw [len_toList] at c1 c2
      refine ⟨Nat.lt_of_le_of_ne c1 fun e => h2 ((startswith_iff y x).mpr (comPre_pre (by rw [e, len_toList]))), Nat.lt_of_le_of_ne c2 fun e => h1 ((startswith_iff x y).mpr (comPre_pre (by rw [comPre_comm, e, len_toList])))⟩
theorem rest_len (x y : Str) : (restL x y).length ≤ 1 := by
  rw [rest_sw]; split
  · exact Nat.le_refl _
  · split
    · exact Nat.le_refl _
    · exact Nat.zero_le _

noncomputable def initL (W : List Str) : List Str := W.flatMap fun a => W.flatMap fun b => if a ≠ b then restL a b else []
noncomputable def succ (W : List Str) (t : Str) : List Str := W.flatMap fun w => if t ≠ "" then restL t w else []
inductive Rch (W : List Str) : Str → Prop
  | init {x} (h : x ∈ initL W) : Rch W x
  | step {t x} (h : Rch W t) (hx : x ∈ succ W t) : Rch W x
structure Wok (W : List Str) : Prop where
  len : W.length ≤ 4
  w : ∀ w ∈ W, 1 ≤ w.length ∧ w.length ≤ 12
noncomputable def Us (W : List Str) : List Str := W.flatMap fun w => (List.range w.length).map fun k => sdrop w (k + 1)
theorem flat_len {α β : Type} {f : α → List β} {c : Nat} : ∀ {l : List α}, (∀ x ∈ l, (f x).length ≤ c) → (l.flatMap f).length ≤ c * l.length
  | [], _ => Nat.zero_le _
  | x :: l, h => by
    rw [List.flatMap_cons, List.length_append, List.length_cons, Nat.mul_succ]
    have h1 := h x (.head _)
    have h2 := flat_len (l := l) fun y hy => h y (.tail _ hy)
    exact lin [_, _, _, _] (.le (.a (.v 0) (.v 1)) (.a (.v 2) (.v 3))) 1 (.c 1 (.le (.v 0) (.v 3)) (.c 1 (.le (.v 1) (.v 2)) .e)) (Eq.refl true) h1 h2
section
variable {W : List Str} (ok : Wok W)
include ok
theorem Us_len : (Us W).length ≤ 48 := by
  have := flat_len (f := fun w : Str => (List.range w.length).map fun k => sdrop w (k + 1)) (c := 12) (l := W) fun w hw => by simpa using (ok.w w hw).2
  have h := ok.len
  refine (?_ : (W.flatMap _).length ≤ 48)
  exact lin [_, _] (.le (.v 0) (.n 48)) 1 (.c 1 (.le (.v 0) (.m 12 (.v 1))) (.c 12 (.le (.v 1) (.n 4)) .e)) (Eq.refl true) this h
theorem init_len : (initL W).length ≤ 16 := by
  have h := ok.len
  have := flat_len (f := fun a : Str => W.flatMap fun b => if a ≠ b then restL a b else []) (c := 4) (l := W) fun a ha => by
    have := flat_len (f := fun b : Str => if a ≠ b then restL a b else []) (c := 1) (l := W) fun b hb => by
      split
      · exact rest_len _ _
      · exact Nat.zero_le _
    exact lin [_, _] (.le (.v 0) (.n 4)) 1 (.c 1 (.le (.v 1) (.n 4)) (.c 1 (.le (.v 0) (.m 1 (.v 1))) .e)) (Eq.refl true) h this
  refine (?_ : (W.flatMap _).length ≤ 16)
  exact lin [_, _] (.le (.v 0) (.n 16)) 1 (.c 4 (.le (.v 1) (.n 4)) (.c 1 (.le (.v 0) (.m 4 (.v 1))) .e)) (Eq.refl true) h this
theorem succ_len (t : Str) : (succ W t).length ≤ 4 := by
  have h := ok.len
  have := flat_len (f := fun b : Str => if t ≠ "" then restL t b else []) (c := 1) (l := W) fun b hb => by
    split
    · exact rest_len _ _
    · exact Nat.zero_le _
  refine (?_ : (W.flatMap _).length ≤ 4)
  exact lin [_, _] (.le (.v 0) (.n 4)) 1 (.c 1 (.le (.v 1) (.n 4)) (.c 1 (.le (.v 0) (.m 1 (.v 1))) .e)) (Eq.refl true) h this
omit ok in
theorem Us_mem {w : Str} {k : Nat} (hw : w ∈ W) (h0 : 1 ≤ k) (hk : k ≤ w.length) : sdrop w k ∈ Us W :=
  List.mem_flatMap.mpr ⟨w, hw, List.mem_map.mpr ⟨k - 1, List.mem_range.mpr (by exact lin [_, _, _] (.lt (.v 0) (.v 1)) 1 (.c 1 (.le (.v 2) (.v 1)) (.c 1 (.eq (.a (.v 0) (.n 1)) (.v 2)) .e)) (Eq.refl true) hk (Nat.sub_add_cancel (lin [_] (.le (.n 1) (.v 0)) 1 (.c 1 (.le (.n 1) (.v 0)) .e) (Eq.refl true) h0))), by rw [Nat.sub_add_cancel h0]⟩⟩
omit ok in
theorem Us_of {x : Str} (h : x ∈ Us W) : ∃ w ∈ W, ∃ k, 1 ≤ k ∧ k ≤ w.length ∧ x = sdrop w k := by
  obtain ⟨w, hw, h⟩ := List.mem_flatMap.mp h
  obtain ⟨k, hk, rfl⟩ := List.mem_map.mp h
  exact ⟨w, hw, k + 1, by exact lin [_] (.le (.n 1) (.a (.v 0) (.n 1))) 1 .e (Eq.refl true), List.mem_range.mp hk, rfl⟩
theorem init_Us {x : Str} (h : x ∈ initL W) : x ∈ Us W := by
  obtain ⟨a, ha, h⟩ := List.mem_flatMap.mp h
  obtain ⟨b, hb, h⟩ := List.mem_flatMap.mp h
  split at h
  · rw [rest_sw] at h
    split at h
    · rename_i hs
      rcases List.mem_singleton.mp h with rfl
      have := ((startswith_iff a b).mp hs).length_le
      rw [len_toList, len_toList] at this
      exact Us_mem ha (ok.w b hb).1 this
    · split at h
      · rename_i hs
        rcases List.mem_singleton.mp h with rfl
        have := ((startswith_iff b a).mp hs).length_le
        rw [len_toList, len_toList] at this
        exact Us_mem hb (ok.w a ha).1 this
      · cases h
  · cases h
omit ok in
theorem succ_Us {t x : Str} (ht : t ∈ Us W) (h : x ∈ succ W t) : x ∈ Us W := by
  obtain ⟨b, hb, h⟩ := List.mem_flatMap.mp h
  split at h
  · rename_i hne
    have h1 := ne_nil.mp hne
    rw [rest_sw] at h
    split at h
    · rename_i hs
      rcases List.mem_singleton.mp h with rfl
      have := ((startswith_iff t b).mp hs).length_le
      rw [len_toList, len_toList] at this
      obtain ⟨w, hw, k, h2, h3, rfl⟩ := Us_of ht
      rw [sdrop_sdrop]
      rw [sdrop_len] at this
      exact Us_mem hw (by exact lin [_, _] (.le (.n 1) (.a (.v 0) (.v 1))) 1 (.c 1 (.le (.n 1) (.v 0)) .e) (Eq.refl true) h2) (by exact lin [_, _, _, _] (.le (.a (.v 0) (.v 1)) (.v 2)) 1 (.c 1 (.le (.v 1) (.v 3)) (.c 1 (.eq (.a (.v 3) (.v 0)) (.v 2)) .e)) (Eq.refl true) this (Nat.sub_add_cancel (lin [_, _] (.le (.v 0) (.v 1)) 1 (.c 1 (.le (.v 0) (.v 1)) .e) (Eq.refl true) h3)))
    · split at h
      · rename_i hs
        rcases List.mem_singleton.mp h with rfl
        have := ((startswith_iff b t).mp hs).length_le
        rw [len_toList, len_toList] at this
        exact Us_mem hb h1 this
      · cases h
  · cases h
theorem Rch_Us {x : Str} (h : Rch W x) : x ∈ Us W := by
  induction h with
  | init h => exact init_Us ok h
  | step _ hx ih => exact succ_Us ih hx
theorem Us_wd {x : Str} (h : x ∈ Us W) : x.length ≤ 12 := by
  obtain ⟨w, hw, k, _, _, rfl⟩ := Us_of h
  rw [sdrop_len]
  have := (ok.w w hw).2; exact lin [_, _] (.le (.v 0) (.n 12)) 1 (.c 1 (.le (.v 1) (.n 12)) (.c 1 (.le (.v 0) (.v 1)) .e)) (Eq.refl true) this (lsb _ _)
end
end Mine
end

section
open PySem PySem.W PyProof.Rows PySem.Calls PySem.Spec
set_option maxRecDepth 100000
namespace Mine

/-! ## the closing of the tails -/
structure Wk (W : List Str) (es : List Ge) (Q : List Str) : Prop where
  nd : (es.map (·.v)).Nodup
  ps : ∀ e ∈ es, e.ps = succ W e.v
  rq : ∀ x ∈ Q, Rch W x
  rk : ∀ x ∈ es.map (·.v), Rch W x
  ini : ∀ x ∈ initL W, x ∈ es.map (·.v) ∨ x ∈ Q
  cl : ∀ e ∈ es, ∀ x ∈ e.ps, x ∈ es.map (·.v) ∨ x ∈ Q
  ql : Q.length ≤ 16 + 4 * es.length
theorem lk_map {α β : Type} {l : List α} (f : α → Str) (g : α → β) (v : Str) : ((l.map fun e => (f e, g e)).lookup v = none ∧ v ∉ l.map f) ∨ ∃ e ∈ l, f e = v ∧ (l.map fun e => (f e, g e)).lookup v = some (g e) := by
  induction l with
  | nil => exact .inl ⟨rfl, fun h => nomatch h⟩
  | cons x ns ih =>
    rw [List.map_cons, List.lookup_cons]
    by_cases h : v = f x
    · subst h
      exact .inr ⟨x, .head _, rfl, by simp⟩
    · rw [beq_eq_false_iff_ne.mpr h]
      rcases ih with ⟨h1, h2⟩ | ⟨y, h1, h2, h3⟩
      · exact .inl ⟨h1, fun hy => by rw [List.map_cons] at hy; rcases List.mem_cons.mp hy with hy | hy; exact h hy; exact h2 hy⟩
      · exact .inr ⟨y, .tail _ h1, h2, h3⟩
section
variable {W : List Str} {es : List Ge} {Q : List Str} {t : Str} {l : Addr}
theorem Wk.start (h : ∀ x, x ∈ Q ↔ x ∈ initL W) (hl : Q.length ≤ 16) : Wk W [] Q :=
  ⟨.nil, fun _ h => (nomatch h), fun x hx => .init ((h x).mp hx), fun _ h => (nomatch h), fun x hx => .inr ((h x).mpr hx), fun _ h => (nomatch h), by simpa using hl⟩
theorem Wk.skip (K : Wk W es (Q ++ [t])) (ht : t ∈ es.map (·.v)) : Wk W es Q := by
  have key : ∀ x, x ∈ es.map (·.v) ∨ x ∈ Q ++ [t] → x ∈ es.map (·.v) ∨ x ∈ Q := fun x hx => by
    rcases hx with hx | hx
    · exact .inl hx
    · rcases List.mem_append.mp hx with hx | hx
      · exact .inr hx
      · rcases List.mem_singleton.mp hx with rfl; exact .inl ht
  refine ⟨K.nd, K.ps, fun x hx => K.rq x (List.mem_append_left _ hx), K.rk, fun x hx => key x (K.ini x hx), fun e he x hx => key x (K.cl e he x hx), ?_⟩
  have := K.ql
  rw [List.length_append] at this; simp only [List.length_singleton] at this; exact lin [_, _] (.le (.v 0) (.a (.n 16) (.m 4 (.v 1)))) 1 (.c 1 (.le (.a (.v 0) (.n 1)) (.a (.n 16) (.m 4 (.v 1)))) .e) (Eq.refl true) this
theorem Wk.new (ok : Wok W) (K : Wk W es (Q ++ [t])) (ht : t ∉ es.map (·.v)) : Wk W (es ++ [⟨t, succ W t, l⟩]) (Q ++ succ W t) := by
  have em : (es ++ [⟨t, succ W t, l⟩] : List Ge).map (·.v) = es.map (·.v) ++ [t] := by simp
  have key : ∀ x, x ∈ es.map (·.v) ∨ x ∈ Q ++ [t] → x ∈ es.map (·.v) ++ [t] ∨ x ∈ Q ++ succ W t := fun x hx => by
    rcases hx with hx | hx
    · exact .inl (List.mem_append_left _ hx)
    · rcases List.mem_append.mp hx with hx | hx
      · exact .inr (List.mem_append_left _ hx)
      · exact .inl (List.mem_append_right _ hx)
  have hr : Rch W t := K.rq t (List.mem_append_right _ (.head _))
  refine ⟨?_, fun e he => ?_, fun x hx => ?_, fun x hx => ?_, fun x hx => ?_, fun e he x hx => ?_, ?_⟩
  · rw [em]
    refine List.nodup_append.mpr ⟨K.nd, by simp, fun a ha b hb => ?_⟩
    rcases List.mem_singleton.mp hb with rfl
    intro e; exact ht (e ▸ ha)
  · rcases List.mem_append.mp he with he | he
    · exact K.ps e he
    · rcases List.mem_singleton.mp he with rfl; rfl
  · rcases List.mem_append.mp hx with hx | hx
    · exact K.rq x (List.mem_append_left _ hx)
    · exact .step hr hx
  · rw [em] at hx
    rcases List.mem_append.mp hx with hx | hx
    · exact K.rk x hx
    · rcases List.mem_singleton.mp hx with rfl; exact hr
  · rw [em]; exact key x (K.ini x hx)
  · rw [em]
    rcases List.mem_append.mp he with he | he
    · exact key x (K.cl e he x hx)
    · rcases List.mem_singleton.mp he with rfl; exact .inr (List.mem_append_right _ hx)
  · have h1 := K.ql
    have h2 := succ_len ok t
    rw [List.length_append] at h1
    simp only [List.length_singleton, List.length_append] at h1 ⊢; exact lin [_, _, _] (.le (.a (.v 0) (.v 1)) (.a (.n 16) (.m 4 (.a (.v 2) (.n 1))))) 1 (.c 1 (.le (.a (.v 0) (.n 1)) (.a (.n 16) (.m 4 (.v 2)))) (.c 1 (.le (.v 1) (.n 4)) .e)) (Eq.refl true) h1 h2
theorem Wk.el (ok : Wok W) (K : Wk W es Q) : es.length ≤ 48 := by
  have := nodup_len K.nd (m := Us W) fun x hx => Rch_Us ok (K.rk x hx)
  have h2 := Us_len ok
  rw [List.length_map] at this; exact lin [_, _] (.le (.v 0) (.n 48)) 1 (.c 1 (.le (.v 0) (.v 1)) (.c 1 (.le (.v 1) (.n 48)) .e)) (Eq.refl true) this h2
theorem Wk.fin (K : Wk W es []) : ∀ x, x ∈ es.map (·.v) ↔ Rch W x := fun x => by
  refine ⟨K.rk x, fun h => ?_⟩
  induction h with
  | init h => exact (K.ini _ h).elim id fun z => nomatch z
  | step _ hx ih =>
    obtain ⟨e, he, rfl⟩ := List.mem_map.mp ih
    exact (K.cl e he _ (by rw [K.ps e he]; exact hx)).elim id fun z => nomatch z
theorem Wk.ok (ok : Wok W) (K : Wk W es []) : geOk es := by
  refine ⟨by have := K.el ok; exact lin [_] (.le (.v 0) (.n 64)) 1 (.c 1 (.le (.v 0) (.n 48)) .e) (Eq.refl true) this, fun e he => ⟨?_, fun p hp => (K.cl e he p hp).elim id fun z => nomatch z⟩⟩
  rw [K.ps e he]
  have := succ_len ok e.v; exact lin [_] (.le (.v 0) (.n 8)) 1 (.c 1 (.le (.v 0) (.n 4)) .e) (Eq.refl true) this
end
theorem nodup_inj {α : Type} {f : α → Str} : ∀ {l : List α}, (l.map f).Nodup → ∀ {a b : α}, a ∈ l → b ∈ l → f a = f b → a = b
  | x :: l, nd, a, b, ha, hb, e => by
    have nd' := List.nodup_cons.mp (show (f x :: l.map f).Nodup from nd)
    rcases List.mem_cons.mp ha with ha | ha <;> rcases List.mem_cons.mp hb with hb | hb
    · rw [ha, hb]
    · exact absurd (List.mem_map.mpr ⟨b, hb, by rw [← e, ha]⟩) nd'.1
    · exact absurd (List.mem_map.mpr ⟨a, ha, by rw [e, hb]⟩) nd'.1
    · exact nodup_inj nd'.2 ha hb e
theorem fm_take {α β : Type} {l : List α} {i : Nat} {x : α} {f : α → List β} (h : l[i]? = some x) : (l.take (i + 1)).flatMap f = (l.take i).flatMap f ++ f x := by
  rw [take_succ' h, List.flatMap_append]; simp
end Mine
end

section
open PySem PySem.W PyProof.Rows PySem.Calls PySem.Spec
set_option maxRecDepth 100000
set_option maxHeartbeats 2000000
namespace Mine

noncomputable def strO (l : List Str) : AO := .list (l.map .str)
noncomputable def geM (es : List Ge) : HP := es.map Ge.obj
noncomputable def farO (es : List Ge) (f : Str → Int) : AO := .dict (mapI (es.map fun e => (e.v, f e.v)))

theorem take_keys {es : List Ge} (nd : (es.map (·.v)).Nodup) {i : Nat} {e : Ge} (h : es[i]? = some e) : e.v ∉ (es.take i).map (·.v) := by
  intro hm
  have e1 : (es.take (i + 1)).map (·.v) = (es.take i).map (·.v) ++ [e.v] := by rw [take_succ' h]; simp
  have n1 : ((es.take (i + 1)).map (·.v)).Nodup := nd.sublist (((List.take_sublist _ _).map _))
  rw [e1] at n1
  exact (List.nodup_append.mp n1).2.2 _ hm _ (.head _) rfl
theorem mapI_map {es : List Ge} {f : Str → Int} : mapI (es.map fun e => (e.v, f e.v)) = es.map fun e => (e.v, AV.int (f e.v)) := by
  unfold mapI; rw [List.map_map]; rfl
theorem farO_next {es : List Ge} (nd : (es.map (·.v)).Nodup) {i : Nat} {e : Ge} {f : Str → Int} (h : es[i]? = some e) :
    AO.dict (upd e.v (.int (f e.v)) (mapI ((es.take i).map fun e => (e.v, f e.v)))) = farO (es.take (i + 1)) f := by
  unfold farO
  rw [mapI_map, mapI_map, upd_new, take_succ' h]
  · simp
  · exact (lk_map (l := es.take i) (·.v) (fun e => AV.int (f e.v)) e.v).elim (·.1) fun ⟨x, hx, e1, _⟩ => absurd (List.mem_map.mpr ⟨x, hx, e1⟩) (take_keys nd h)
theorem farO_lk {es : List Ge} {f : Str → Int} {x : Str} (h : x ∈ es.map (·.v)) : (mapI (es.map fun e => (e.v, f e.v))).lookup x = some (.int (f x)) := by
  rw [mapI_map]
  rcases lk_map (l := es) (·.v) (fun e => AV.int (f e.v)) x with ⟨_, h1⟩ | ⟨e, _, e1, h1⟩
  · exact absurd h h1
  · rw [← e1] at h1 ⊢; exact h1
theorem geD_lk {es : List Ge} (nd : (es.map (·.v)).Nodup) {e : Ge} (h : e ∈ es) : (es.map fun e => (e.v, AV.ref e.l)).lookup e.v = some (.ref e.l) := by
  rcases lk_map (l := es) (·.v) (fun e => AV.ref e.l) e.v with ⟨_, h1⟩ | ⟨e', h', e1, h1⟩
  · exact absurd (List.mem_map_of_mem h) h1
  · have : e' = e := nodup_inj nd h' h e1
    rw [this] at h1; exact h1
noncomputable def hz (W : List Str) (i : Nat) (v : Str) : Int := (hgt (succ W) i v : Nat)
theorem hz_max {W : List Str} {i : Nat} {v : Str} : hz W (i + 1) v ∈ (0 : Int) :: (succ W v).map (fun x => 1 + hz W i x) ∧ ∀ x ∈ (0 : Int) :: (succ W v).map (fun x => 1 + hz W i x), x ≤ hz W (i + 1) v := by
  constructor
  · unfold hz
    cases h : hgt (succ W) (i + 1) v with
    | zero => exact .head _
    | succ j =>
      obtain ⟨x, hx, e⟩ := hgt_pred h
      exact .tail _ (List.mem_map.mpr ⟨x, hx, by rw [e]; omega⟩)
  · intro x hx
    unfold hz
    rcases List.mem_cons.mp hx with rfl | hx
    · omega
    · obtain ⟨y, hy, rfl⟩ := List.mem_map.mp hx
      have := hgt_ge (g := succ W) (k := i) hy
      unfold hz; omega
theorem hgt_fix {g : Str → List Str} {V : List Str} (cl : ∀ v ∈ V, ∀ x ∈ g v, x ∈ V) {i : Nat} (h : ∀ v ∈ V, hgt g (i + 1) v = hgt g i v) : ∀ j, ∀ v ∈ V, hgt g (i + j) v = hgt g i v
  | 0, _, _ => rfl
  | j + 1, v, hv => by
    have e : hgt g (i + (j + 1)) v = hgt g (i + 1) v := by
      refine (?_ : mx _ = mx _)
      congr 1
      refine List.map_congr_left fun x hx => ?_
      refine (?_ : 1 + hgt g (i + j) x = _)
      rw [hgt_fix cl h j x (cl v hv x hx)]
    rw [e, h v hv]
theorem dictEq_hz {W : List Str} {es : List Ge} {i : Nat} (h : dictEq (es.map fun e => (e.v, hz W (i + 1) e.v)) (es.map fun e => (e.v, hz W i e.v)) = true) : ∀ v ∈ es.map (·.v), hgt (succ W) (i + 1) v = hgt (succ W) i v := by
  unfold dictEq at h
  have h := (Bool.and_eq_true_iff.mp h).2
  intro v hv
  obtain ⟨e, he, rfl⟩ := List.mem_map.mp hv
  have h1 := of_decide_eq_true (List.all_eq_true.mp h _ (List.mem_map.mpr ⟨e, he, rfl⟩))
  have h2 : (es.map fun e => (e.v, hz W i e.v)).lookup e.v = some (hz W i e.v) := by
    rcases lk_map (l := es) (·.v) (fun e => hz W i e.v) e.v with ⟨_, h1⟩ | ⟨e', _, e1, h1⟩
    · exact absurd hv h1
    · rw [e1] at h1; exact h1
  rw [h2] at h1
  have h1 := Option.some.inj h1
  unfold hz at h1; omega
/-- the heights -/
theorem far_last {N : Nat} (hN : 60 ≤ N) {ro fr hp : HP} {W : List Str} (ok : Wok W) {w0 sd wl : Addr} {es : List Ge} (K : Wk W es []) (H : Sh hp ((sd, geD es) :: (geM es ++ fr))) {k : Fl → AS → Prop}
    (h0 : ∀ r hp' σ, Sh hp' ((r, farO es (hz W es.length)) :: fr) → k (.ret (.ref r)) ⟨σ, hp'⟩) :
    (sem N).B ⟨scOf 168, ro, true, false⟩ ((bodyOf 168).drop 3) ⟨[("words", .ref w0), ("steps", .ref sd), ("waiting", .ref wl)], hp⟩ k := by
  obtain ⟨n, rfl⟩ := pull hN
  have hel := K.el ok
  have h64 : 1000 ≤ lim := by decide
  (repeat (refine And.intro rfl ?_))
  obtain ⟨hf, hw⟩ := H.freeze
  refine ⟨.inr ⟨geD es, (es.map fun e => (e.v, AV.ref e.l)).map (fun p => [AV.str p.1]), hf, rfl, by (first | exact Mine.lm2 (by assumption) rfl | exact Mine.lm (by assumption) rfl | exact Mine.lm0 (by assumption) rfl | (simp; omega)), fun o => (hw o).1, fun o f0 => ?_⟩⟩
  have H1 := (hw o).2.push (r := f0) (x := .dict [])
  clear hw
  generalize hf o = hq at H1 ⊢
  have items_ge : ∀ {i : Nat} {us : List AV}, ((es.map fun e => (e.v, AV.ref e.l)).map (fun p => [AV.str p.1]))[i]? = some us → ∃ e, es[i]? = some e ∧ us = [.str e.v] := @fun i us hi => by
    rw [List.getElem?_map, List.getElem?_map] at hi
    cases hei : es[i]? with
    | none => rw [hei] at hi; cases hi
    | some e => rw [hei] at hi; cases hi; exact ⟨e, rfl, rfl⟩
  have hlen : ((es.map fun e => (e.v, AV.ref e.l)).map (fun p => [AV.str p.1])).length = es.length := by simp
  generalize hits : (es.map fun e => (e.v, AV.ref e.l)).map (fun p => [AV.str p.1]) = its at *
  refine ⟨fun i => At [] fun hp => Sh hp ((f0, farO (es.take i) fun _ => 0) :: (sd, .froz o (geD es)) :: (geM es ++ fr)), .mk H1, fun i => at1 fun _ h => h.memF (.tail _ (.head _)), fun i us => at2 fun _ hi h kX X => ?_, at1 fun _ h => ?_⟩
  · obtain ⟨e, he, rfl⟩ := items_ge hi
    (repeat (refine And.intro rfl ?_))
    refine ⟨fun _ => ?_, fun hf => (nomatch hf)⟩
    (repeat (refine And.intro rfl ?_))
    refine h.wrK (farO (es.take (i + 1)) fun _ => 0) fun hp3 W3 H3 => ?_
    rw [← farO_next (f := fun _ => 0) K.nd he] at W3
    refine ⟨_, hp3, W3, ?_, X.next ["tail"] _ (.mk H3)⟩
    have := (List.take_sublist i es).length_le
    unfold mapI; simp only [List.length_map]; exact lin [_, _, _] (.le (.v 0) (.v 1)) 1 (.c 1 (.le (.v 2) (.n 48)) (.c 1 (.le (.n 1000) (.v 1)) (.c 1 (.le (.v 0) (.v 2)) .e))) (Eq.refl true) hel h64 this
  · rw [hlen, List.take_length] at h
    refine ⟨⟨rfl, rfl⟩, ?_⟩
    refine ⟨.inr (.inr ⟨_, h.hasF (.tail _ (.head _)), by (first | exact Mine.lm2 (by assumption) rfl | exact Mine.lm (by assumption) rfl | exact Mine.lm0 (by assumption) rfl | (simp; omega)), ?_⟩)⟩
    refine ⟨⟨by (first | exact Mine.fu rfl | exact Mine.lm0 (by assumption) rfl | omega), by (simp; exact lin [_, _] (.le (.v 0) (.v 1)) 1 (.c 1 (.le (.v 0) (.n 48)) (.c 1 (.le (.n 1000) (.v 1)) .e)) (Eq.refl true) hel h64)⟩, ?_⟩
    refine ⟨fun i σ => ∃ fa, At [("words", .ref w0), ("steps", .ref sd), ("waiting", .ref wl), ("far", .ref fa)] (fun hp => Sh hp ((fa, farO es (hz W i)) :: (sd, .froz o (geD es)) :: (geM es ++ fr))) σ, ⟨f0, .mk h⟩, fun _ _ _ => trivial, fun i us _ hi h2 kX X => ?_, fun _ h2 => ?_⟩
    all_goals obtain ⟨fa, ⟨H2⟩⟩ := h2
    · obtain ⟨j, hj, rfl⟩ := List.getElem?_map .. ▸ hi |> Option.map_eq_some_iff.mp
      have hin : i < es.length := by
        have := (List.getElem?_eq_some_iff.mp hj).1
        simpa using this
      clear hj hi
      refine ⟨.inl (.inl ⟨geD es, its, o, H2.memF (.tail _ (.head _)), by rw [← hits]; rfl, by exact lin [_, _, _] (.le (.v 0) (.v 1)) 1 (.c 1 (.le (.v 2) (.n 48)) (.c 1 (.le (.n 1000) (.v 1)) (.c 1 (.eq (.v 0) (.v 2)) .e))) (Eq.refl true) hel h64 hlen, ?_⟩)⟩
      refine fun r => ?_
      have H3 := H2.push (r := r) (x := .dict [])
      refine ⟨fun q => At [("steps", .ref sd), ("far", .ref fa)] fun hp => Sh hp ((r, farO (es.take q) (hz W (i + 1))) :: (fa, farO es (hz W i)) :: (sd, .froz o (geD es)) :: (geM es ++ fr)), .mk H3, fun q => at1 fun _ h => h.memF (.tail _ (.tail _ (.head _))), fun q us => at2 fun _ hi h kX X => ?_, at1 fun _ h => ?_⟩
      · obtain ⟨e, he, rfl⟩ := items_ge hi
        have hem : e ∈ es := List.mem_of_getElem? he
        have hps := K.ps e hem
        (repeat (refine And.intro rfl ?_))
        refine ⟨fun _ => ?_, fun hf => (nomatch hf)⟩
        refine ⟨(by decide : 1 ≤ lim), fun r1 => ?_⟩
        have H4 := h.push (r := r1) (x := .list ([0].map AV.int))
        refine ⟨_, _, H4.hasF (.tail _ (.tail _ (.tail _ (.head _)))), geD_lk K.nd hem, ?_⟩
        obtain ⟨l1, l2, hes⟩ := List.append_of_mem hem
        have hge : geM es = geM l1 ++ (e.l, strO e.ps) :: geM l2 := by
          unfold geM; conv => lhs; rw [hes]
          rw [List.map_append]; rfl
        have H5 : Sh _ ((e.l, strO e.ps) :: (r1, .list ([0].map AV.int)) :: (r, farO (es.take q) (hz W (i + 1))) :: (fa, farO es (hz W i)) :: (sd, .froz o (geD es)) :: (geM l1 ++ (geM l2 ++ fr))) := H4.perm (by rw [hge]; exact pm [_, _, _, _, _] [_, _, _] (.c 0 (.c 1 (.c 2 (.c 3 (.a (.a (.l 0) (.c 4 (.l 1))) (.l 2)))))) (.c 4 (.c 0 (.c 1 (.c 2 (.c 3 (.a (.l 0) (.a (.l 1) (.l 2)))))))) rfl)
        obtain ⟨hf2, hw2⟩ := H5.freeze
        have hpl : e.ps.length ≤ 4 := by rw [hps]; exact succ_len ok _
        refine ⟨.inr ⟨strO e.ps, (e.ps.map AV.str).map (fun v => [v]), hf2, rfl, by (first | exact Mine.lm2 (by assumption) rfl | exact Mine.lm (by assumption) rfl | exact Mine.lm0 (by assumption) rfl | (simp; omega)), fun o => (hw2 o).1, fun o2 r2 => ?_⟩⟩
        have H6 := (hw2 o2).2.push (r := r2) (x := .list (((e.ps.take 0).map fun x => 1 + hz W i x).map AV.int))
        clear hw2
        generalize hf2 o2 = hq2 at H6 ⊢
        refine ⟨fun p => At [("far", .ref fa)] fun hp => Sh hp ((r2, .list (((e.ps.take p).map fun x => 1 + hz W i x).map .int)) :: (e.l, .froz o2 (strO e.ps)) :: (r1, .list ([0].map AV.int)) :: (r, farO (es.take q) (hz W (i + 1))) :: (fa, farO es (hz W i)) :: (sd, .froz o (geD es)) :: (geM l1 ++ (geM l2 ++ fr))),
          .mk H6, fun q => at1 fun _ h => h.memF (.tail _ (.head _)), fun p us => at2 fun _ hi h kX X => ?_, at1 fun _ h => ?_⟩
        · apply items_strK hi; intro x hx
          (repeat (refine And.intro rfl ?_))
          refine ⟨fun _ => ?_, fun hf => (nomatch hf)⟩
          have hxk : x ∈ es.map (·.v) := (K.cl e hem x (List.mem_of_getElem? hx)).elim id fun z => nomatch z
          refine ⟨_, _, h.has (.tail _ (.tail _ (.tail _ (.tail _ (.head _))))), farO_lk hxk, ?_⟩
          refine h.wrK (.list (((e.ps.take (p + 1)).map fun x => 1 + hz W i x).map .int)) fun hp7 W7 H7 => ?_
          rw [take_succ' hx, List.map_append, List.map_append] at W7
          have := (List.take_sublist p e.ps).length_le
          exact ⟨_, hp7, W7, by simp only [List.length_map]; exact lin [_, _, _] (.le (.v 0) (.v 1)) 1 (.c 1 (.le (.n 1000) (.v 1)) (.c 1 (.le (.v 2) (.n 4)) (.c 1 (.le (.v 0) (.v 2)) .e))) (Eq.refl true) h64 hpl this, X.next ["x"] _ (.mk H7)⟩
        · rw [List.length_map, List.length_map, List.take_length] at h
          refine ⟨_, _, h.has (.tail _ (.tail _ (.head _))), h.has (.head _), by (simp; exact lin [_, _] (.le (.a (.n 1) (.v 0)) (.v 1)) 1 (.c 1 (.le (.n 1000) (.v 1)) (.c 1 (.le (.v 0) (.n 4)) .e)) (Eq.refl true) h64 hpl), fun r3 => ?_⟩
          have H8 := h.push (r := r3) (x := .list ((0 :: e.ps.map fun x => 1 + hz W i x).map .int))
          have hm := hz_max (W := W) (i := i) (v := e.v)
          rw [← hps] at hm
          refine ⟨rfl, _, _, H8.has (.head _), hm.1, hm.2, ?_⟩
          refine (H8.perm (o2 := (r, farO (es.take q) (hz W (i + 1))) :: (e.l, .froz o2 (strO e.ps)) :: (fa, farO es (hz W i)) :: (sd, .froz o (geD es)) :: (geM l1 ++ (geM l2 ++ (fr ++ [(r3, .list ((0 :: e.ps.map fun x => 1 + hz W i x).map .int)), (r2, .list ((e.ps.map fun x => 1 + hz W i x).map .int)), (r1, .list ([0].map AV.int))])))) (by exact pm [_, _, _, _, _, _, _] [_, _, _] (.c 0 (.c 1 (.c 2 (.c 3 (.c 4 (.c 5 (.c 6 (.a (.l 0) (.a (.l 1) (.l 2)))))))))) (.c 4 (.c 2 (.c 5 (.c 6 (.a (.l 0) (.a (.l 1) (.a (.l 2) (.c 0 (.c 1 (.c 3 .n)))))))))) rfl)).wrK (farO (es.take (q + 1)) (hz W (i + 1))) fun hp9 W9 H9 => ?_
          rw [← farO_next (f := hz W (i + 1)) K.nd he] at W9
          refine ⟨_, hp9, W9, ?_, X.next ["tail"] _ (.mk ?_)⟩
          · have := (List.take_sublist q es).length_le
            unfold mapI; simp only [List.length_map]; exact lin [_, _, _] (.le (.v 0) (.v 1)) 1 (.c 1 (.le (.v 2) (.n 48)) (.c 1 (.le (.n 1000) (.v 1)) (.c 1 (.le (.v 0) (.v 2)) .e))) (Eq.refl true) hel h64 this
          · have H10 := H9.perm (o2 := (e.l, .froz o2 (strO e.ps)) :: (((r, farO (es.take (q + 1)) (hz W (i + 1))) :: (fa, farO es (hz W i)) :: (sd, .froz o (geD es)) :: (geM l1 ++ (geM l2 ++ fr))) ++ [(r3, .list ((0 :: e.ps.map fun x => 1 + hz W i x).map .int)), (r2, .list ((e.ps.map fun x => 1 + hz W i x).map .int)), (r1, .list ([0].map AV.int))])) (by exact pm [_, _, _, _, _, _, _] [_, _, _] (.c 0 (.c 1 (.c 2 (.c 3 (.a (.l 0) (.a (.l 1) (.a (.l 2) (.c 4 (.c 5 (.c 6 .n)))))))))) (.c 1 (.a (.c 0 (.c 2 (.c 3 (.a (.l 0) (.a (.l 1) (.l 2)))))) (.c 4 (.c 5 (.c 6 .n))))) rfl)
            refine Sh.drop (o2 := [(r3, .list ((0 :: e.ps.map fun x => 1 + hz W i x).map .int)), (r2, .list ((e.ps.map fun x => 1 + hz W i x).map .int)), (r1, .list ([0].map AV.int))]) ((H10.thaw rfl).perm ?_)
            rw [hge]; exact pm [_, _, _, _, _, _, _] [_, _, _] (.c 0 (.a (.c 1 (.c 2 (.c 3 (.a (.l 0) (.a (.l 1) (.l 2)))))) (.c 4 (.c 5 (.c 6 .n))))) (.a (.c 1 (.c 2 (.c 3 (.a (.a (.l 0) (.c 0 (.l 1))) (.l 2))))) (.c 4 (.c 5 (.c 6 .n)))) rfl
      · rw [hlen, List.take_length] at h
        have hl : ∀ f : Str → Int, (es.map fun e => (e.v, f e.v)).length ≤ lim := fun f => by (first | exact Mine.lm2 (by assumption) rfl | exact Mine.lm (by assumption) rfl | exact Mine.lm0 (by assumption) rfl | (simp; omega))
        refine ⟨.inr ⟨_, _, h.has (.head _), h.has (.tail _ (.head _)), hl _, hl _, ?_⟩⟩
        refine ⟨fun hb => (X.brk ["turn", "further"] _ (?_)), fun hb => ?_⟩
        · have e1 : ∀ v ∈ es.map (·.v), hz W i v = hz W es.length v := fun v hv => by
            have cl : ∀ v ∈ es.map (·.v), ∀ x ∈ succ W v, x ∈ es.map (·.v) := fun v hv x hx => by
              obtain ⟨e, he, rfl⟩ := List.mem_map.mp hv
              exact (K.cl e he x (by rw [K.ps e he]; exact hx)).elim id fun z => nomatch z
            have := hgt_fix cl (dictEq_hz hb) (es.length - i) v hv
            rw [Nat.add_sub_cancel' (Nat.le_of_lt hin)] at this
            unfold hz; rw [this]
          have e2 : farO es (hz W i) = farO es (hz W es.length) := by
            unfold farO
            rw [List.map_congr_left fun e he => by rw [e1 e.v (List.mem_map_of_mem he)]]
          rw [e2] at h
          exact h0 fa _ _ (h.perm (o2 := ((fa, farO es (hz W es.length)) :: fr) ++ ((r, farO es (hz W (i + 1))) :: (sd, .froz o (geD es)) :: geM es)) (by exact pm [_, _, _] [_, _] (.c 0 (.c 1 (.c 2 (.a (.l 0) (.l 1))))) (.a (.c 1 (.l 1)) (.c 0 (.c 2 (.l 0)))) rfl)).drop
        · refine (X.next ["turn", "further"] _ ⟨r, .mk (h.perm (o2 := ((r, farO es (hz W (i + 1))) :: (sd, .froz o (geD es)) :: (geM es ++ fr)) ++ [(fa, farO es (hz W i))]) (by exact pm [_, _, _] [_, _] (.c 0 (.c 1 (.c 2 (.a (.l 0) (.l 1))))) (.a (.c 0 (.c 2 (.a (.l 0) (.l 1)))) (.c 1 .n)) rfl)).drop⟩)
    · rw [List.length_map, List.length_range] at H2
      simp only [List.length_map, Int.toNat_natCast] at H2
      exact h0 fa _ _ (H2.perm (o2 := ((fa, farO es (hz W es.length)) :: fr) ++ ((sd, .froz o (geD es)) :: geM es)) (by exact pm [_, _] [_, _] (.c 0 (.c 1 (.a (.l 0) (.l 1)))) (.a (.c 0 (.l 1)) (.c 1 (.l 0))) rfl)).drop
end Mine
end

section
open PySem PySem.W PyProof.Rows PySem.Calls PySem.Spec
set_option maxRecDepth 100000
set_option maxHeartbeats 2000000
namespace Mine

theorem strO_snoc (l : List Str) (x : Str) : strO (l ++ [x]) = .list (l.map .str ++ [.str x]) := by simp [strO]
theorem geD_snoc {es : List Ge} {t : Str} {ps : List Str} {r : Addr} (h : (es.map fun e => (e.v, AV.ref e.l)).lookup t = none) : geD (es ++ [⟨t, ps, r⟩]) = .dict (upd t (.ref r) (es.map fun e => (e.v, AV.ref e.l))) := by
  rw [upd_new h]; simp [geD]
/-- the closing -/
theorem far_while {N : Nat} (hN : 65 ≤ N) {ro fr hp : HP} {W : List Str} (ok : Wok W) {w0 sd wl : Addr} (H : Sh hp ((sd, geD []) :: (wl, strO (initL W)) :: (w0, strO W) :: fr)) {k : Fl → AS → Prop}
    (h0 : ∀ r (es : List Ge) hp' σ, Wk W es [] → Sh hp' ((r, farO es (hz W es.length)) :: (w0, strO W) :: fr) → k (.ret (.ref r)) ⟨σ, hp'⟩) :
    (sem N).B ⟨scOf 168, ro, true, false⟩ ((bodyOf 168).drop 2) ⟨[("words", .ref w0), ("steps", .ref sd), ("waiting", .ref wl)], hp⟩ k := by
  obtain ⟨n, rfl⟩ := pull hN
  have h64 : 1000 ≤ lim := by decide
  refine ⟨fun m => At [("words", .ref w0), ("steps", .ref sd), ("waiting", .ref wl)] fun hp => ∃ es Q, m = (64 - es.length) * 8 + Q.length ∧ Wk W es Q ∧ Sh hp ((wl, strO Q) :: (sd, geD es) :: (w0, strO W) :: (geM es ++ fr)),
    ⟨_, .mk ⟨[], initL W, rfl, Wk.start (fun _ => Iff.rfl) (init_len ok), H.perm (by exact pm [_, _, _] [_] (.c 0 (.c 1 (.c 2 (.l 0)))) (.c 1 (.c 0 (.c 2 (.a .n (.l 0))))) rfl)⟩⟩, ?_⟩
  rintro m _ ⟨es, Q, rfl, K, H1⟩ kX X
  have hel := K.el ok
  have hql := K.ql
  refine ⟨Nat.zero_le _, fun r0 => ?_⟩
  have H2 := H1.push (r := r0) (x := strO [])
  refine ⟨.inl ⟨Q, [], H2.has (.tail _ (.head _)), H2.has (.head _), by exact lin [_, _, _] (.le (.v 0) (.v 1)) 1 (.c 1 (.le (.n 1000) (.v 1)) (.c 4 (.le (.v 2) (.n 48)) (.c 1 (.le (.v 0) (.a (.n 16) (.m 4 (.v 2)))) .e))) (Eq.refl true) h64 hel hql, Nat.zero_le _, ?_⟩⟩
  refine ⟨fun hb => ?_, fun hb => ?_⟩
  · have hne : Q ≠ [] := by simpa using hb
    obtain ⟨Q, t, rfl⟩ : ∃ Q' t, Q = Q' ++ [t] := ⟨_, _, (List.dropLast_concat_getLast hne).symm⟩
    simp only [List.length_append, List.length_singleton] at hql
    refine ⟨.list, ⟨wl, _, rfl, H2.has (.tail _ (.head _))⟩, rfl, ?_⟩
    refine (H2.perm (o2 := (wl, strO (Q ++ [t])) :: (sd, geD es) :: (w0, strO W) :: (geM es ++ (fr ++ [(r0, strO [])]))) (by exact pm [_, _, _, _] [_, _] (.c 0 (.c 1 (.c 2 (.c 3 (.a (.l 0) (.l 1)))))) (.c 1 (.c 2 (.c 3 (.a (.l 0) (.a (.l 1) (.c 0 .n)))))) rfl)).wrK (strO Q) fun hp3 W3 H3 => ?_
    refine ⟨Q.map .str, .str t, hp3, by rw [strO_snoc] at W3; exact W3, by (simp; exact lin [_, _, _] (.le (.v 0) (.v 1)) 1 (.c 1 (.le (.n 1000) (.v 1)) (.c 4 (.le (.v 2) (.n 48)) (.c 1 (.le (.a (.v 0) (.n 1)) (.a (.n 16) (.m 4 (.v 2)))) .e))) (Eq.refl true) h64 hel hql), ?_⟩
    refine ⟨.inr (.inl ⟨_, H3.has (.tail _ (.head _)), ?_⟩)⟩
    rcases lk_map (l := es) (·.v) (fun e => AV.ref e.l) t with ⟨hno, hnk⟩ | ⟨e, hem, rfl, hlk⟩
    · rw [hno]
      refine ⟨fun _ => ?_, fun hf => (nomatch hf)⟩
      obtain ⟨hf, hw⟩ := (H3.perm (o2 := (w0, strO W) :: (wl, strO Q) :: (sd, geD es) :: (geM es ++ (fr ++ [(r0, strO [])]))) (by exact pm [_, _, _, _] [_, _] (.c 0 (.c 1 (.c 2 (.a (.l 0) (.a (.l 1) (.c 3 .n)))))) (.c 2 (.c 0 (.c 1 (.a (.l 0) (.a (.l 1) (.c 3 .n)))))) rfl)).freeze
      refine ⟨.inr ⟨strO W, (W.map AV.str).map (fun v => [v]), hf, rfl, by have := ok.len; simp; exact lin [_, _] (.le (.v 0) (.v 1)) 1 (.c 1 (.le (.n 1000) (.v 1)) (.c 1 (.le (.v 0) (.n 4)) .e)) (Eq.refl true) h64 this, fun o => (hw o).1, fun o r1 => ?_⟩⟩
      have H4 := (hw o).2.push (r := r1) (x := strO [])
      clear hw
      have ht12 : t.length ≤ 1000 := by have := Us_wd ok (Rch_Us ok (K.rq t (List.mem_append_right _ (.head _)))); exact lin [_] (.le (.v 0) (.n 1000)) 1 (.c 1 (.le (.v 0) (.n 12)) .e) (Eq.refl true) this
      have hsl := succ_len ok t
      refine ⟨fun i => At [("tail", .str t)] fun hp => Sh hp ((r1, strO ((W.take i).flatMap fun w => if t ≠ "" then restL t w else [])) :: (w0, .froz o (strO W)) :: (wl, strO Q) :: (sd, geD es) :: (geM es ++ (fr ++ [(r0, strO [])]))),
        .mk H4, fun i => at1 fun _ h => h.memF (.tail _ (.head _)), fun i us => at2 fun _ hi h kX X => ?_, at1 fun _ h => ?_⟩
      · apply items_strK hi; intro w hw
        have hw12 := (ok.w w (List.mem_of_getElem? hw)).2
        refine ⟨fun _ => ?_, fun hf => (nomatch hf)⟩
        refine ⟨rest_sem (by (first | exact Mine.fu rfl | exact Mine.lm0 (by assumption) rfl | omega)) ht12 (by exact lin [_] (.le (.v 0) (.n 1000)) 1 (.c 1 (.le (.v 0) (.n 12)) .e) (Eq.refl true) hw12) fun r2 => ?_⟩
        obtain ⟨hf2, hw2⟩ := (h.push (r := r2) (x := strO (restL t w))).freeze
        have hr1 := rest_len t w
        refine ⟨.inr ⟨strO (restL t w), ((restL t w).map AV.str).map (fun v => [v]), hf2, rfl, by (first | exact Mine.lm2 (by assumption) rfl | exact Mine.lm (by assumption) rfl | exact Mine.lm0 (by assumption) rfl | (simp; omega)), fun o => (hw2 o).1, fun o2 => ?_⟩⟩
        have H5 := (hw2 o2).2
        refine ⟨fun p => At [("tail", .str t), ("word", .str w)] fun hp => Sh hp ((r2, .froz o2 (strO (restL t w))) :: (r1, strO (((W.take i).flatMap fun w => if t ≠ "" then restL t w else []) ++ if t ≠ "" then (restL t w).take p else [])) :: (w0, .froz o (strO W)) :: (wl, strO Q) :: (sd, geD es) :: (geM es ++ (fr ++ [(r0, strO [])]))),
          .mk ?_, fun p => at1 fun _ h => h.memF (.head _), fun p us => at2 fun _ hi h kX X => ?_, at1 fun _ h => ?_⟩
        · rw [List.take_zero, ite_self, List.append_nil]; exact H5
        · apply items_strK hi; intro x hx
          refine ⟨fun hb => ⟨fun _ => ?_, fun hf => (nomatch hf)⟩, fun hb => ⟨fun hf => (nomatch hf), fun _ => (X.next ["x"] _ (.mk ?_))⟩⟩
          · have hb : t ≠ "" := by simpa using hb
            rw [if_pos hb] at h
            refine (h.perm (List.Perm.swap ..)).wrK (strO (((W.take i).flatMap fun w => if t ≠ "" then restL t w else []) ++ (restL t w).take (p + 1))) fun hp6 W6 H6 => ?_
            rw [take_succ' hx, ← List.append_assoc, strO_snoc] at W6
            refine ⟨_, hp6, W6, ?_, X.next ["x"] _ (.mk ?_)⟩
            · have h1 := flat_len (f := fun w : Str => if t ≠ "" then restL t w else []) (c := 1) (l := W.take i) fun b _ => by
                split <;> first | exact rest_len _ _ | exact Nat.zero_le _
              have h2 := (List.take_sublist i W).length_le
              have h3 := (List.take_sublist p (restL t w)).length_le
              have h4 := ok.len
              rw [List.length_map, List.length_append]; exact lin [_, _, _, _, _, _] (.le (.a (.v 0) (.v 1)) (.v 2)) 1 (.c 1 (.le (.n 1000) (.v 2)) (.c 1 (.le (.v 3) (.n 1)) (.c 1 (.le (.v 0) (.m 1 (.v 4))) (.c 1 (.le (.v 4) (.v 5)) (.c 1 (.le (.v 1) (.v 3)) (.c 1 (.le (.v 5) (.n 4)) .e)))))) (Eq.refl true) h64 hr1 h1 h2 h3 h4
            · rw [if_pos hb]; exact H6.perm (List.Perm.swap ..)
          · have hb : ¬ t ≠ "" := by simpa using hb
            rw [if_neg hb] at h ⊢; exact h
        · rw [List.length_map, List.length_map, List.take_length] at h
          refine (X.next ["word"] _ (.mk ?_))
          rw [fm_take hw]
          exact Sh.drop (o2 := [(r2, .froz o2 (strO (restL t w)))]) (h.perm (by exact pm [_, _, _, _, _, _] [_, _] (.c 0 (.c 1 (.c 2 (.c 3 (.c 4 (.a (.l 0) (.a (.l 1) (.c 5 .n)))))))) (.a (.c 1 (.c 2 (.c 3 (.c 4 (.a (.l 0) (.a (.l 1) (.c 5 .n))))))) (.c 0 .n)) rfl))
      · rw [List.length_map, List.length_map, List.take_length] at h
        have H7 := (Sh.perm (o2 := (w0, .froz o (strO W)) :: (sd, geD es) :: (r1, strO (succ W t)) :: (wl, strO Q) :: (geM es ++ (fr ++ [(r0, strO [])]))) h (by exact pm [_, _, _, _, _] [_, _] (.c 0 (.c 1 (.c 2 (.c 3 (.a (.l 0) (.a (.l 1) (.c 4 .n))))))) (.c 1 (.c 3 (.c 0 (.c 2 (.a (.l 0) (.a (.l 1) (.c 4 .n))))))) rfl)).thaw rfl
        refine (H7.perm (List.Perm.swap ..)).wrK (geD (es ++ [⟨t, succ W t, r1⟩])) fun hp8 W8 H8 => ?_
        rw [geD_snoc hno] at W8
        refine ⟨_, hp8, W8, by (first | exact Mine.lm2 (by assumption) rfl | exact Mine.lm (by assumption) rfl | exact Mine.lm0 (by assumption) rfl | (simp; omega)), ?_⟩
        have K2 := K.new (l := r1) ok hnk
        have hlk := geD_lk K2.nd (e := ⟨t, succ W t, r1⟩) (List.mem_append_right _ (.head _))
        refine ⟨.list, ⟨wl, _, rfl, H8.has (.tail _ (.tail _ (.tail _ (.head _))))⟩, rfl, ?_⟩
        refine ⟨_, _, H8.has (.head _), hlk, ?_⟩
        refine (H8.perm (o2 := (wl, strO Q) :: (sd, geD (es ++ [⟨t, succ W t, r1⟩])) :: (w0, strO W) :: (r1, strO (succ W t)) :: (geM es ++ (fr ++ [(r0, strO [])]))) (by exact pm [_, _, _, _, _] [_, _] (.c 0 (.c 1 (.c 2 (.c 3 (.a (.l 0) (.a (.l 1) (.c 4 .n))))))) (.c 3 (.c 0 (.c 1 (.c 2 (.a (.l 0) (.a (.l 1) (.c 4 .n))))))) rfl)).wrK (.list (Q.map .str ++ (succ W t).map .str)) fun hp9 W9 H9 => ?_
        refine ⟨Q.map .str, (succ W t).map .str, hp9, .inl (H8.has (.tail _ (.tail _ (.head _)))), W9, by (simp; exact lin [_, _, _, _] (.le (.a (.v 0) (.v 1)) (.v 2)) 1 (.c 1 (.le (.n 1000) (.v 2)) (.c 4 (.le (.v 3) (.n 48)) (.c 1 (.le (.a (.v 0) (.n 1)) (.a (.n 16) (.m 4 (.v 3)))) (.c 1 (.le (.v 1) (.n 4)) .e)))) (Eq.refl true) h64 hel hql hsl), X.next ["tail"] _ ⟨_, ?_, .mk ⟨_, _, rfl, K2, ?_⟩⟩⟩
        · simp only [List.length_append, List.length_singleton]; exact lin [_, _, _, _, _] (.lt (.a (.w (.v 0) 8) (.a (.v 1) (.v 2))) (.a (.w (.v 3) 8) (.a (.v 1) (.n 1)))) 1 (.c 1 (.le (.v 2) (.n 4)) (.c 8 (.eq (.a (.v 0) (.a (.v 4) (.n 1))) (.n 64)) (.c 8 (.qe (.a (.v 3) (.v 4)) (.n 64)) .e))) (Eq.refl true) hsl (Nat.sub_add_cancel (lin [_] (.le (.a (.v 0) (.n 1)) (.n 64)) 1 (.c 1 (.le (.v 0) (.n 48)) .e) (Eq.refl true) hel)) (Nat.sub_add_cancel (lin [_] (.le (.v 0) (.n 64)) 1 (.c 1 (.le (.v 0) (.n 48)) .e) (Eq.refl true) hel))
        · refine Sh.drop (o2 := [(r0, strO [])]) (H9.perm ?_)
          have e1 : geM (es ++ [⟨t, succ W t, r1⟩]) = geM es ++ [(r1, strO (succ W t))] := by unfold geM; rw [List.map_append]; rfl
          have e2 : strO (Q ++ succ W t) = .list (Q.map .str ++ (succ W t).map .str) := by unfold strO; rw [List.map_append]
          rw [e1, e2]; exact pm [_, _, _, _, _] [_, _] (.c 0 (.c 1 (.c 2 (.c 3 (.a (.l 0) (.a (.l 1) (.c 4 .n))))))) (.a (.c 0 (.c 1 (.c 2 (.a (.a (.l 0) (.c 3 .n)) (.l 1))))) (.c 4 .n)) rfl
    · rw [hlk]
      refine ⟨fun hf => (nomatch hf), fun _ => ?_⟩
      refine (X.next ["tail"] _ ⟨_, ?_, .mk ⟨es, Q, rfl, K.skip (List.mem_map_of_mem hem), Sh.drop (o2 := [(r0, strO [])]) (H3.perm (by exact pm [_, _, _, _] [_, _] (.c 0 (.c 1 (.c 2 (.a (.l 0) (.a (.l 1) (.c 3 .n)))))) (.a (.c 0 (.c 1 (.c 2 (.a (.l 0) (.l 1))))) (.c 3 .n)) rfl))⟩⟩)
      rw [List.length_append]; exact Nat.lt_succ_self _
  · have hQ : Q = [] := by simpa using hb
    subst hQ
    exact Bnil (far_last (by (first | exact Mine.fu rfl | exact Mine.lm0 (by assumption) rfl | omega)) ok K (fr := (w0, strO W) :: fr) (Sh.drop (o2 := [(r0, strO []), (wl, strO [])]) (H2.perm (by exact pm [_, _, _, _] [_, _] (.c 0 (.c 1 (.c 2 (.c 3 (.a (.l 0) (.l 1)))))) (.a (.c 2 (.a (.l 0) (.c 3 (.l 1)))) (.c 0 (.c 1 .n))) rfl))) fun r hp' σ h => h0 r es hp' σ K h)
end Mine
end

section
open PySem PySem.W PyProof.Rows PySem.Calls PySem.Spec
set_option maxRecDepth 100000
set_option maxHeartbeats 2000000
namespace Mine

/-- `_law_far` -/
theorem far_sem {N : Nat} (hN : 75 ≤ N) {ro fr hp : HP} {W : List Str} (ok : Wok W) {w0 : Addr} {cm : Bool} {sc : Scope} (H : Sh hp ((w0, strO W) :: fr)) {k : AV → HP → Prop}
    (h0 : ∀ r (es : List Ge) hp', Wk W es [] → Sh hp' ((r, farO es (hz W es.length)) :: (w0, strO W) :: fr) → k (.ref r) hp') :
    (sem N).C ⟨sc, ro, true, cm⟩ 168 [.ref w0] hp k := by
  obtain ⟨n, rfl⟩ := pull hN
  have h64 : 1000 ≤ lim := by decide
  have hWl := ok.len
  refine ⟨.inl fun sd => ?_⟩
  have H1 := H.push (r := sd) (x := geD [])
  obtain ⟨hf, hw⟩ := (H1.perm (List.Perm.swap ..)).freeze
  refine ⟨.inr ⟨strO W, (W.map AV.str).map (fun v => [v]), hf, rfl, by (first | exact Mine.lm2 (by assumption) rfl | exact Mine.lm (by assumption) rfl | exact Mine.lm0 (by assumption) rfl | (simp; omega)), fun o => (hw o).1, fun o r1 => ?_⟩⟩
  have H4 := (hw o).2.push (r := r1) (x := strO [])
  clear hw
  refine ⟨fun i => At [("words", .ref w0)] fun hp => Sh hp ((r1, strO ((W.take i).flatMap fun a => W.flatMap fun b => if a ≠ b then restL a b else [])) :: (w0, .froz o (strO W)) :: (sd, geD []) :: fr),
    .mk H4, fun i => at1 fun _ h => h.memF (.tail _ (.head _)), fun i us => at2 fun _ hi h kX X => ?_, at1 fun _ h => ?_⟩
  · apply items_strK hi; intro a ha
    have ha12 := (ok.w a (List.mem_of_getElem? ha)).2
    refine ⟨fun _ => ?_, fun hf => (nomatch hf)⟩
    refine ⟨.inl (.inl ⟨strO W, (W.map AV.str).map (fun v => [v]), o, h.memF (.tail _ (.head _)), rfl, by (first | exact Mine.lm2 (by assumption) rfl | exact Mine.lm (by assumption) rfl | exact Mine.lm0 (by assumption) rfl | (simp; omega)), ?_⟩)⟩
    refine ⟨fun j => At [("words", .ref w0), ("a", .str a)] fun hp => Sh hp ((r1, strO (((W.take i).flatMap fun a => W.flatMap fun b => if a ≠ b then restL a b else []) ++ (W.take j).flatMap fun b => if a ≠ b then restL a b else [])) :: (w0, .froz o (strO W)) :: (sd, geD []) :: fr),
      .mk (by rw [List.take_zero, List.flatMap_nil, List.append_nil]; exact h), fun i => at1 fun _ h => h.memF (.tail _ (.head _)), fun j us => at2 fun _ hj h kX X => ?_, at1 fun _ h => ?_⟩
    · apply items_strK hj; intro b hb
      have hb12 := (ok.w b (List.mem_of_getElem? hb)).2
      refine ⟨fun hn => ⟨fun _ => ?_, fun hf => (nomatch hf)⟩, fun hn => ⟨fun hf => (nomatch hf), fun _ => (X.next ["b"] _ (.mk ?_))⟩⟩
      · have hn : a ≠ b := by simpa using hn
        refine ⟨rest_sem (by (first | exact Mine.fu rfl | exact Mine.lm0 (by assumption) rfl | omega)) (by exact lin [_] (.le (.v 0) (.n 1000)) 1 (.c 1 (.le (.v 0) (.n 12)) .e) (Eq.refl true) ha12) (by exact lin [_] (.le (.v 0) (.n 1000)) 1 (.c 1 (.le (.v 0) (.n 12)) .e) (Eq.refl true) hb12) fun r2 => ?_⟩
        obtain ⟨hf2, hw2⟩ := (h.push (r := r2) (x := strO (restL a b))).freeze
        have hr1 := rest_len a b
        refine ⟨.inr ⟨strO (restL a b), ((restL a b).map AV.str).map (fun v => [v]), hf2, rfl, by (first | exact Mine.lm2 (by assumption) rfl | exact Mine.lm (by assumption) rfl | exact Mine.lm0 (by assumption) rfl | (simp; omega)), fun o => (hw2 o).1, fun o2 => ?_⟩⟩
        have H5 := (hw2 o2).2
        have hin : ∀ (a : Str) (V : List Str), (V.flatMap fun b => if a ≠ b then restL a b else []).length ≤ 1 * V.length := fun a V => flat_len fun b _ => by
          split <;> first | exact rest_len _ _ | exact Nat.zero_le _
        have hpl : (((W.take i).flatMap fun a => W.flatMap fun b => if a ≠ b then restL a b else []) ++ (W.take j).flatMap (fun b => if a ≠ b then restL a b else [])).length ≤ 100 := by
          have h1 := flat_len (f := fun a : Str => W.flatMap fun b => if a ≠ b then restL a b else []) (c := 4) (l := W.take i) fun a _ => by have := hin a W; exact lin [_, _] (.le (.v 0) (.n 4)) 1 (.c 1 (.le (.v 1) (.n 4)) (.c 1 (.le (.v 0) (.m 1 (.v 1))) .e)) (Eq.refl true) hWl this
          have h2 := hin a (W.take j)
          have h3 := (List.take_sublist i W).length_le
          have h4 := (List.take_sublist j W).length_le
          rw [List.length_append]; exact lin [_, _, _, _, _] (.le (.a (.v 0) (.v 1)) (.n 100)) 1 (.c 5 (.le (.v 2) (.n 4)) (.c 1 (.le (.v 0) (.m 4 (.v 3))) (.c 1 (.le (.v 1) (.m 1 (.v 4))) (.c 4 (.le (.v 3) (.v 2)) (.c 1 (.le (.v 4) (.v 2)) .e))))) (Eq.refl true) hWl h1 h2 h3 h4
        generalize hpre : ((W.take i).flatMap fun a => W.flatMap fun b => if a ≠ b then restL a b else []) ++ (W.take j).flatMap (fun b => if a ≠ b then restL a b else []) = pre at *
        refine ⟨fun p => At [("words", .ref w0), ("a", .str a), ("b", .str b)] fun hp => Sh hp ((r2, .froz o2 (strO (restL a b))) :: (r1, strO (pre ++ (restL a b).take p)) :: (w0, .froz o (strO W)) :: (sd, geD []) :: fr),
          .mk (by rw [List.take_zero, List.append_nil]; exact H5), fun p => at1 fun _ h => h.memF (.head _), fun p us => at2 fun _ hi h kX X => ?_, at1 fun _ h => ?_⟩
        · apply items_strK hi; intro x hx
          refine ⟨fun _ => ?_, fun hf => (nomatch hf)⟩
          refine (h.perm (List.Perm.swap ..)).wrK (strO (pre ++ (restL a b).take (p + 1))) fun hp6 W6 H6 => ?_
          rw [take_succ' hx, ← List.append_assoc, strO_snoc] at W6
          refine ⟨_, hp6, W6, ?_, X.next ["x"] _ (.mk (H6.perm (List.Perm.swap ..)))⟩
          have h3 := (List.take_sublist p (restL a b)).length_le
          rw [List.length_map, List.length_append]; exact lin [_, _, _, _] (.le (.a (.v 0) (.v 1)) (.v 2)) 1 (.c 1 (.le (.n 1000) (.v 2)) (.c 1 (.le (.v 3) (.n 1)) (.c 1 (.le (.v 0) (.n 100)) (.c 1 (.le (.v 1) (.v 3)) .e)))) (Eq.refl true) h64 hr1 hpl h3
        · rw [List.length_map, List.length_map, List.take_length] at h
          refine (X.next ["b"] _ (.mk ?_))
          rw [fm_take hb, if_pos hn, ← List.append_assoc, hpre]
          exact Sh.drop (o2 := [(r2, .froz o2 (strO (restL a b)))]) (h.perm (by exact pm [_, _, _, _] [_] (.c 0 (.c 1 (.c 2 (.c 3 (.l 0))))) (.a (.c 1 (.c 2 (.c 3 (.l 0)))) (.c 0 .n)) rfl))
      · have hn : ¬ a ≠ b := by simpa using hn
        rw [fm_take hb, if_neg hn, List.append_nil]; exact h
    · rw [List.length_map, List.length_map, List.take_length] at h
      refine (X.next ["a"] _ (.mk ?_))
      rw [fm_take ha]; exact h
  · rw [List.length_map, List.length_map, List.take_length] at h
    refine far_while (by (first | exact Mine.fu rfl | exact Mine.lm0 (by assumption) rfl | omega)) ok ((Sh.thaw (h.perm (List.Perm.swap ..)) rfl).perm (by exact pm [_, _, _] [_] (.c 0 (.c 1 (.c 2 (.l 0)))) (.c 2 (.c 1 (.c 0 (.l 0)))) rfl)) fun r es hp' σ K h => h0 r es hp' K h
end Mine
end

section
open PySem PySem.W PyProof.Rows PySem.Calls PySem.Spec
set_option maxRecDepth 100000
namespace Mine

/-! ## the rounds of the sorter -/
theorem dS_fold {T : Str → Prop} : ∀ (l : List Str) (st : Sd), (∀ x ∈ l, T x) → (∀ x, T x → (l.count x : Int) ≤ st.1 x) → st.2.Nodup → (∀ x, x ∈ st.2 ↔ T x ∧ st.1 x = 0) →
    (∀ x, (l.foldl dS st).1 x = st.1 x - l.count x) ∧ (l.foldl dS st).2.Nodup ∧ ∀ x, x ∈ (l.foldl dS st).2 ↔ T x ∧ (l.foldl dS st).1 x = 0
  | [], st, _, _, h3, h4 => ⟨fun x => by simp, h3, h4⟩
  | y :: l, st, h1, h2, h3, h4 => by
    have hy := h1 y (.head _)
    have hc := h2 y hy
    rw [List.count_cons_self] at hc
    have e1 : ∀ x, (dS st y).1 x = st.1 x - if x = y then 1 else 0 := fun x => by
      unfold dS setF
      dsimp only
      split
      · rename_i e; rw [e]
      · omega
    have hny : y ∉ st.2 := fun z => by have := ((h4 y).mp z).2; omega
    obtain ⟨r1, r2, r3⟩ := dS_fold l (dS st y) (fun x hx => h1 x (.tail _ hx)) (fun x hx => by
      have := h2 x hx
      rw [e1]
      split
      · rename_i e; subst e; rw [List.count_cons_self] at this; omega
      · rename_i e; rw [List.count_cons_of_ne (Ne.symm e)] at this; omega) (by
      unfold dS
      dsimp only
      split
      · exact List.nodup_append.mpr ⟨h3, by simp, fun a ha b hb => by rcases List.mem_singleton.mp hb with rfl; intro e; exact hny (e ▸ ha)⟩
      · exact h3) (fun x => by
      rw [e1]
      unfold dS
      dsimp only
      by_cases e : x = y
      · subst e
        rw [if_pos rfl]
        by_cases z : st.1 x - 1 = 0
        · rw [if_pos z]; simp [hy, z]
        · rw [if_neg z]; simp [hny, z]
      · rw [if_neg e, Int.sub_zero, ← h4 x]
        split
        · simp [e]
        · exact Iff.rfl)
    refine ⟨fun x => ?_, r2, r3⟩
    rw [List.foldl_cons, r1, e1]
    by_cases e : x = y
    · subst e; rw [if_pos rfl, List.count_cons_self]; omega
    · rw [if_neg e, List.count_cons_of_ne (Ne.symm e)]; omega

noncomputable def dM (su : Str → List Str) (st : Sd) (v : Str) : Sd := (su v).foldl dS (setF st.1 v (-2), st.2)
theorem dM_fold {T : Str → Prop} {su : Str → List Str} : ∀ (vs : List Str) (st : Sd), (∀ v ∈ vs, ¬ T v ∧ ∀ x ∈ su v, T x) → (∀ x, T x → ((vs.flatMap su).count x : Int) ≤ st.1 x) → st.2.Nodup → (∀ x, x ∈ st.2 ↔ T x ∧ st.1 x = 0) →
    (∀ x, T x → (vs.foldl (dM su) st).1 x = st.1 x - (vs.flatMap su).count x) ∧ (∀ x, ¬ T x → x ∉ vs → (vs.foldl (dM su) st).1 x = st.1 x) ∧ (vs.foldl (dM su) st).2.Nodup ∧ ∀ x, x ∈ (vs.foldl (dM su) st).2 ↔ T x ∧ (vs.foldl (dM su) st).1 x = 0
  | [], st, _, _, h3, h4 => ⟨fun x _ => by simp, fun _ _ _ => rfl, h3, h4⟩
  | v :: vs, st, h1, h2, h3, h4 => by
    obtain ⟨hv, hs⟩ := h1 v (.head _)
    have ne : ∀ x, T x → x ≠ v := fun x hx e => hv (e ▸ hx)
    obtain ⟨r1, r2, r3⟩ := dS_fold (T := T) (su v) (setF st.1 v (-2), st.2) hs (fun x hx => by
      have := h2 x hx
      rw [List.flatMap_cons, List.count_append] at this
      refine (?_ : _ ≤ setF st.1 v (-2) x)
      rw [setF_ne (ne x hx)]; omega) h3 (fun x => by
      refine (?_ : x ∈ st.2 ↔ T x ∧ setF st.1 v (-2) x = 0)
      rw [h4]
      constructor
      · rintro ⟨a, b⟩; exact ⟨a, by rw [setF_ne (ne x a)]; exact b⟩
      · rintro ⟨a, b⟩; exact ⟨a, by rw [setF_ne (ne x a)] at b; exact b⟩)
    have r1 : ∀ x, (dM su st v).1 x = setF st.1 v (-2) x - (su v).count x := r1
    obtain ⟨q1, q2, q3, q4⟩ := dM_fold vs (dM su st v) (fun x hx => h1 x (.tail _ hx)) (fun x hx => by
      have := h2 x hx
      rw [List.flatMap_cons, List.count_append] at this
      rw [r1, setF_ne (ne x hx)]; omega) r2 r3
    refine ⟨fun x hx => ?_, fun x hx hn => ?_, q3, q4⟩
    · rw [List.foldl_cons, q1 x hx, r1, setF_ne (ne x hx), List.flatMap_cons, List.count_append]; omega
    · rw [List.foldl_cons, q2 x hx (fun z => hn (.tail _ z)), r1, setF_ne (fun e => hn (by rw [e]; exact .head _)), List.count_eq_zero.mpr (fun z => hx (hs x z))]; omega

/-- the nodes, what goes before each and what comes after -/
structure Kn (V : List Str) (g su : Str → List Str) : Prop where
  nd : V.Nodup
  cl : ∀ v ∈ V, ∀ x ∈ g v, x ∈ V
  cs : ∀ v ∈ V, ∀ x ∈ su v, x ∈ V
  ct : ∀ x ∈ V, ∀ u ∈ V, (su u).count x = (g x).count u
section
variable {V : List Str} {g su : Str → List Str}
noncomputable abbrev ht (V : List Str) (g : Str → List Str) (v : Str) : Nat := hgt g V.length v
theorem ht_le (v : Str) : ht V g v ≤ V.length := hgt_le _ _ _
theorem ht_pred {v x : Str} (hx : x ∈ g v) (hf : ht V g v < V.length) : ht V g x + 1 ≤ ht V g v := by
  have h1 := hgt_ge (g := g) (k := V.length) hx
  rw [hgt_stab g _ v hf] at h1
  unfold ht; exact lin [_, _] (.le (.a (.v 0) (.n 1)) (.v 1)) 1 (.c 1 (.le (.a (.n 1) (.v 0)) (.v 1)) .e) (Eq.refl true) h1
theorem cnt_flat {x : Str} {rs : List Str} (nd : rs.Nodup) (h : ∀ u ∈ rs, (su u).count x = (g x).count u) : (rs.flatMap su).count x = (g x).countP fun y => rs.contains y := by
  induction rs with
  | nil => simp
  | cons v rs ih =>
    have nd' := List.nodup_cons.mp nd
    rw [List.flatMap_cons, List.count_append, ih nd'.2 fun u hu => h u (.tail _ hu), h v (.head _)]
    generalize g x = L
    induction L with
    | nil => rfl
    | cons y L ihL =>
      rw [List.count_cons, List.countP_cons, List.countP_cons, ← ihL, List.contains_cons]
      cases e : y == v with
      | true =>
        have hb : rs.contains y = false := by rw [eq_of_beq e]; simpa using nd'.1
        rw [hb]
        simp only [Bool.or_false, if_true, Bool.false_eq_true, if_false]; exact Nat.le_antisymm (lin [_, _] (.le (.a (.a (.v 0) (.n 1)) (.a (.v 1) (.n 0))) (.a (.a (.v 0) (.v 1)) (.n 1))) 1 .e (Eq.refl true)) (lin [_, _] (.le (.a (.a (.v 0) (.v 1)) (.n 1)) (.a (.a (.v 0) (.n 1)) (.a (.v 1) (.n 0)))) 1 .e (Eq.refl true))
      | false =>
        simp only [Bool.false_or, Bool.false_eq_true, if_false]; exact Nat.le_antisymm (lin [_, _, _] (.le (.a (.a (.v 0) (.n 0)) (.a (.v 1) (.v 2))) (.a (.a (.v 0) (.v 1)) (.v 2))) 1 .e (Eq.refl true)) (lin [_, _, _] (.le (.a (.a (.v 0) (.v 1)) (.v 2)) (.a (.a (.v 0) (.n 0)) (.a (.v 1) (.v 2)))) 1 .e (Eq.refl true))
/-- before round r -/
structure Rnd (V : List Str) (g : Str → List Str) (r : Nat) (np : Str → Int) (rs : List Str) : Prop where
  lv : ∀ v, v ∈ rs ↔ v ∈ V ∧ ht V g v = r ∧ r < V.length
  nd : rs.Nodup
  np : ∀ v ∈ V, r < ht V g v → np v = ((g v).countP fun x => decide (r ≤ ht V g x) : Nat)
theorem Rnd.start (K : Kn V g su) : Rnd V g 0 (fun v => (g v).length) (V.filter fun v => decide (((g v).length : Int) = 0)) := by
  refine ⟨fun v => ?_, K.nd.sublist (List.filter_sublist), fun v hv _ => ?_⟩
  · rw [List.mem_filter, decide_eq_true_eq]
    constructor
    · rintro ⟨hv, h⟩
      have hp : 0 < V.length := List.length_pos_of_mem hv
      refine ⟨hv, ?_, hp⟩
      have hg : g v = [] := List.length_eq_zero_iff.mp (by omega)
      obtain ⟨n, hn⟩ : ∃ n, V.length = n + 1 := ⟨V.length - 1, by exact Nat.le_antisymm (lin [_, _] (.le (.v 0) (.a (.v 1) (.n 1))) 1 (.c 1 (.qe (.a (.v 1) (.n 1)) (.v 0)) .e) (Eq.refl true) (Nat.sub_add_cancel (lin [_] (.le (.n 1) (.v 0)) 1 (.c 1 (.lt (.n 0) (.v 0)) .e) (Eq.refl true) hp))) (lin [_, _] (.le (.a (.v 0) (.n 1)) (.v 1)) 1 (.c 1 (.eq (.a (.v 0) (.n 1)) (.v 1)) .e) (Eq.refl true) (Nat.sub_add_cancel (lin [_] (.le (.n 1) (.v 0)) 1 (.c 1 (.lt (.n 0) (.v 0)) .e) (Eq.refl true) hp)))⟩
      refine (?_ : hgt g V.length v = 0)
      rw [hn]
      refine (?_ : mx ((g v).map _) = 0)
      rw [hg]; rfl
    · rintro ⟨hv, h, hp⟩
      refine ⟨hv, ?_⟩
      cases hg : g v with
      | nil => rfl
      | cons x l =>
        have := ht_pred (V := V) (g := g) (v := v) (x := x) (by rw [hg]; exact .head _) (by exact lin [_, _] (.lt (.v 0) (.v 1)) 1 (.c 1 (.eq (.v 0) (.n 0)) (.c 1 (.lt (.n 0) (.v 1)) .e)) (Eq.refl true) h hp)
        omega
  · congr 1
    rw [eq_comm, List.countP_eq_length]
    intro x _; simp
theorem waits (K : Kn V g su) {r : Nat} {v : Str} (hv : v ∈ V) (h : r < ht V g v) : ∃ x ∈ g v, r ≤ ht V g x := by
  rcases Nat.lt_or_ge (ht V g v) V.length with z | z
  · have e : hgt g (V.length + 1) v = (ht V g v - 1) + 1 := by rw [hgt_stab g _ v z]; show hgt g V.length v = (hgt g V.length v - 1) + 1; have : r < hgt g V.length v := h; exact Nat.le_antisymm (lin [_, _] (.le (.v 0) (.a (.v 1) (.n 1))) 1 (.c 1 (.qe (.a (.v 1) (.n 1)) (.v 0)) .e) (Eq.refl true) (Nat.sub_add_cancel (lin [_, _] (.le (.n 1) (.v 0)) 1 (.c 1 (.lt (.v 1) (.v 0)) .e) (Eq.refl true) h))) (lin [_, _] (.le (.a (.v 0) (.n 1)) (.v 1)) 1 (.c 1 (.eq (.a (.v 0) (.n 1)) (.v 1)) .e) (Eq.refl true) (Nat.sub_add_cancel (lin [_, _] (.le (.n 1) (.v 0)) 1 (.c 1 (.lt (.v 1) (.v 0)) .e) (Eq.refl true) h)))
    obtain ⟨x, hx, e⟩ := hgt_pred e
    exact ⟨x, hx, by show r ≤ hgt g V.length x; exact lin [_, _, _, _] (.le (.v 0) (.v 1)) 1 (.c 1 (.lt (.v 0) (.v 2)) (.c 1 (.qe (.v 1) (.v 3)) (.c 1 (.le (.v 2) (.a (.v 3) (.n 1))) .e))) (Eq.refl true) h e (lsa _ _)⟩
  · have e : ht V g v = V.length := Nat.le_antisymm (ht_le v) z
    by_cases q : ∃ x ∈ g v, r ≤ ht V g x
    · exact q
    · refine (hgt_last K.cl hv e fun x hx => ?_).elim
      rcases Nat.lt_or_ge (ht V g x) r with z | z
      · have : r < V.length := by exact lin [_, _, _] (.lt (.v 0) (.v 1)) 1 (.c 1 (.lt (.v 0) (.v 2)) (.c 1 (.eq (.v 2) (.v 1)) .e)) (Eq.refl true) h e
        exact Nat.lt_trans z this
      · exact absurd ⟨x, hx, z⟩ q
theorem Rnd.step (K : Kn V g su) {r : Nat} {np np1 : Str → Int} {rs : List Str} (D : Rnd V g r np rs) (hr : r < V.length) (h1 : ∀ v, v ∉ rs → np1 v = np v) (h2 : ∀ v ∈ rs, np1 v = -1) :
    Rnd V g (r + 1) (rs.foldl (dM su) (np1, [])).1 (rs.foldl (dM su) (np1, [])).2 ∧ ∀ i v, rs[i]? = some v → ((rs.take i).foldl (dM su) (np1, [])).1 v = -1 := by
  have hT : ∀ v ∈ rs, ¬ (v ∈ V ∧ r < ht V g v) ∧ ∀ x ∈ su v, x ∈ V ∧ r < ht V g x := fun v hv => by
    obtain ⟨a, b, _⟩ := (D.lv v).mp hv
    refine ⟨fun z => by exact lin [_, _] .ff 0 (.c 1 (.eq (.v 0) (.v 1)) (.c 1 (.lt (.v 1) (.v 0)) .e)) (Eq.refl true) b z.2, fun x hx => ?_⟩
    have hxV := K.cs v a x hx
    refine ⟨hxV, ?_⟩
    have hgx : v ∈ g x := by
      have := K.ct x hxV v a
      have h3 := List.count_pos_iff.mpr hx
      exact List.count_pos_iff.mp (by exact lin [_, _] (.lt (.n 0) (.v 0)) 1 (.c 1 (.eq (.v 1) (.v 0)) (.c 1 (.lt (.n 0) (.v 1)) .e)) (Eq.refl true) this h3)
    rcases Nat.lt_or_ge (ht V g x) V.length with z | z
    · have := ht_pred hgx z
      exact lin [_, _, _] (.lt (.v 0) (.v 1)) 1 (.c 1 (.qe (.v 2) (.v 0)) (.c 1 (.le (.a (.v 2) (.n 1)) (.v 1)) .e)) (Eq.refl true) b this
    · exact lin [_, _, _] (.lt (.v 0) (.v 1)) 1 (.c 1 (.lt (.v 0) (.v 2)) (.c 1 (.le (.v 2) (.v 1)) .e)) (Eq.refl true) hr z
  have hcnt : ∀ x ∈ V, (rs.flatMap su).count x = (g x).countP fun y => decide (ht V g y = r) := fun x hx => by
    rw [cnt_flat D.nd fun u hu => K.ct x hx u ((D.lv u).mp hu).1]
    refine List.countP_congr fun y hy => ?_
    rw [List.contains_iff_mem, D.lv, decide_eq_true_eq]
    exact ⟨fun z => z.2.1, fun z => ⟨K.cl x hx y hy, z, hr⟩⟩
  have hsum : ∀ x, ((g x).countP fun y => decide (r ≤ ht V g y)) = ((g x).countP fun y => decide (ht V g y = r)) + (g x).countP fun y => decide (r + 1 ≤ ht V g y) := fun x => by
    generalize g x = L
    induction L with
    | nil => rfl
    | cons y L ih =>
      rw [List.countP_cons, List.countP_cons, List.countP_cons, ih]
      generalize ht V g y = n
      simp only [decide_eq_true_eq]
      split <;> split <;> split <;> omega
  have hnr : ∀ x, r < ht V g x → x ∉ rs := fun x hx z => by have := ((D.lv x).mp z).2.1; exact lin [_, _] .ff 0 (.c 1 (.lt (.v 0) (.v 1)) (.c 1 (.eq (.v 1) (.v 0)) .e)) (Eq.refl true) hx this
  have hle : ∀ (vs : List Str), vs.Sublist rs → ∀ x, x ∈ V ∧ r < ht V g x → ((vs.flatMap su).count x : Int) ≤ np1 x := fun vs hs x hx => by
    have e1 : (vs.flatMap su).count x ≤ (rs.flatMap su).count x := by
      rw [cnt_flat D.nd fun u hu => K.ct x hx.1 u ((D.lv u).mp hu).1, cnt_flat (D.nd.sublist hs) fun u hu => K.ct x hx.1 u ((D.lv u).mp (hs.subset hu)).1]
      exact List.countP_mono_left fun y _ h => by rw [List.contains_iff_mem] at h ⊢; exact hs.subset h
    have e2 := hcnt x hx.1
    have e3 := hsum x
    have e4 := D.np x hx.1 hx.2
    rw [h1 x (hnr x hx.2), e4]; omega
  have hst : ∀ x, x ∈ (np1, ([] : List Str)).2 ↔ (x ∈ V ∧ r < ht V g x) ∧ (np1, ([] : List Str)).1 x = 0 := fun x => by
    refine ⟨fun z => (nomatch z), fun ⟨hx, z⟩ => ?_⟩
    have z : np1 x = 0 := z
    obtain ⟨y, hy, hy2⟩ := waits K hx.1 hx.2
    have e4 := D.np x hx.1 hx.2
    rw [h1 x (hnr x hx.2), e4] at z
    have : 0 < (g x).countP fun y => decide (r ≤ ht V g y) := List.countP_pos_iff.mpr ⟨y, hy, by simpa using hy2⟩
    omega
  refine ⟨?_, fun i v hv => ?_⟩
  · obtain ⟨q1, _, q3, q4⟩ := dM_fold (T := fun x => x ∈ V ∧ r < ht V g x) rs (np1, []) hT (hle rs (List.Sublist.refl _)) .nil hst
    have hnp : ∀ v ∈ V, r < ht V g v → (rs.foldl (dM su) (np1, [])).1 v = ((g v).countP fun x => decide (r + 1 ≤ ht V g x) : Nat) := fun v hv hv2 => by
      rw [q1 v ⟨hv, hv2⟩]
      refine (?_ : np1 v - _ = _)
      have e2 := hcnt v hv
      have e3 := hsum v
      rw [h1 v (hnr v hv2), D.np v hv hv2]; omega
    refine ⟨fun v => ?_, q3, fun v hv hv2 => hnp v hv (by exact lin [_, _] (.lt (.v 0) (.v 1)) 1 (.c 1 (.lt (.a (.v 0) (.n 1)) (.v 1)) .e) (Eq.refl true) hv2)⟩
    rw [q4]
    constructor
    · rintro ⟨⟨hv, hv2⟩, z⟩
      rw [hnp v hv hv2] at z
      have hz : ∀ x ∈ g v, ht V g x ≤ r := fun x hx => by
        have h3 : ((g v).countP fun x => decide (r + 1 ≤ ht V g x)) = 0 := by omega
        have := List.countP_eq_zero.mp h3 x hx
        simp only [decide_eq_true_eq] at this; exact lin [_, _] (.le (.v 0) (.v 1)) 1 (.c 1 (.nle (.a (.v 1) (.n 1)) (.v 0)) .e) (Eq.refl true) this
      have h5 : hgt g (V.length + 1) v ≤ r + 1 := hgt_bd fun x hx => by have : hgt g V.length x ≤ r := hz x hx; exact lin [_, _] (.le (.a (.n 1) (.v 0)) (.a (.v 1) (.n 1))) 1 (.c 1 (.le (.v 0) (.v 1)) .e) (Eq.refl true) this
      have h6 := hgt_mono g V.length v
      have e : ht V g v = r + 1 := by show hgt g V.length v = r + 1; have : r < hgt g V.length v := hv2; exact Nat.le_antisymm (lin [_, _, _] (.le (.v 0) (.a (.v 1) (.n 1))) 1 (.c 1 (.le (.v 2) (.a (.v 1) (.n 1))) (.c 1 (.le (.v 0) (.v 2)) .e)) (Eq.refl true) h5 h6) (lin [_, _] (.le (.a (.v 0) (.n 1)) (.v 1)) 1 (.c 1 (.lt (.v 0) (.v 1)) .e) (Eq.refl true) hv2)
      refine ⟨hv, e, ?_⟩
      rcases Nat.lt_or_ge (r + 1) V.length with z | z
      · exact z
      · have h7 := ht_le (V := V) (g := g) v
        exact (hgt_last K.cl hv (by show ht V g v = _; exact Nat.le_antisymm (lin [_, _] (.le (.v 0) (.v 1)) 1 (.c 1 (.le (.v 0) (.v 1)) .e) (Eq.refl true) h7) (lin [_, _, _] (.le (.v 0) (.v 1)) 1 (.c 1 (.lt (.v 2) (.v 1)) (.c 1 (.le (.v 0) (.a (.v 2) (.n 1))) .e)) (Eq.refl true) hv2 z)) fun x hx => by have : hgt g V.length x ≤ r := hz x hx; exact lin [_, _, _] (.lt (.v 0) (.v 1)) 1 (.c 1 (.lt (.v 2) (.v 1)) (.c 1 (.le (.v 0) (.v 2)) .e)) (Eq.refl true) hr this).elim
    · rintro ⟨hv, e, hl⟩
      have hv2 : r < ht V g v := by exact lin [_, _] (.lt (.v 0) (.v 1)) 1 (.c 1 (.qe (.v 1) (.a (.v 0) (.n 1))) .e) (Eq.refl true) e
      refine ⟨⟨hv, hv2⟩, ?_⟩
      rw [hnp v hv hv2]
      have : ((g v).countP fun x => decide (r + 1 ≤ ht V g x)) = 0 := List.countP_eq_zero.mpr fun x hx => by
        have := ht_pred hx (by exact lin [_, _, _] (.lt (.v 0) (.v 1)) 1 (.c 1 (.eq (.v 0) (.a (.v 2) (.n 1))) (.c 1 (.lt (.a (.v 2) (.n 1)) (.v 1)) .e)) (Eq.refl true) e hl : ht V g v < V.length)
        simp only [decide_eq_true_eq]; exact lin [_, _, _] (.nle (.a (.v 0) (.n 1)) (.v 1)) 1 (.c 1 (.eq (.v 2) (.a (.v 0) (.n 1))) (.c 1 (.le (.a (.v 1) (.n 1)) (.v 2)) .e)) (Eq.refl true) e this
      omega
  · have hsub := List.take_sublist i rs
    obtain ⟨_, q2, _, _⟩ := dM_fold (T := fun x => x ∈ V ∧ r < ht V g x) (rs.take i) (np1, []) (fun v hv => hT v (hsub.subset hv)) (hle _ hsub) .nil hst
    have hm : v ∈ rs := List.mem_of_getElem? hv
    rw [q2 v (hT v hm).1 ?_]
    · exact h2 v hm
    · have e1 : rs.take (i + 1) = rs.take i ++ [v] := take_succ' hv
      have n1 : (rs.take (i + 1)).Nodup := D.nd.sublist (List.take_sublist _ _)
      rw [e1] at n1
      exact fun z => (List.nodup_append.mp n1).2.2 v z v (.head _) rfl
theorem set_fold {c : Int} : ∀ (rs : List Str) (np : Str → Int), (∀ v, v ∉ rs → rs.foldl (fun np v => setF np v c) np v = np v) ∧ ∀ v ∈ rs, rs.foldl (fun np v => setF np v c) np v = c
  | [], np => ⟨fun _ _ => rfl, fun _ h => nomatch h⟩
  | y :: rs, np => by
    obtain ⟨h1, h2⟩ := set_fold rs (setF np y c)
    refine ⟨fun v hv => ?_, fun v hv => ?_⟩
    · rw [List.foldl_cons, h1 v (fun z => hv (.tail _ z)), setF_ne fun e => hv (by rw [e]; exact .head _)]
    · rw [List.foldl_cons]
      by_cases z : v ∈ rs
      · exact h2 v z
      · rcases List.mem_cons.mp hv with rfl | hv
        · rw [h1 v z, setF_self]
        · exact absurd hv z
end
end Mine
end

section
open PySem PySem.W PyProof.Rows PySem.Calls PySem.Spec
set_option maxRecDepth 100000
namespace Mine

section
variable {V : List Str} {g su : Str → List Str}
theorem Rnd.start' (K : Kn V g su) {np : Str → Int} (h : ∀ v ∈ V, np v = (g v).length) : Rnd V g 0 np (V.filter fun v => decide (np v = 0)) := by
  have D := Rnd.start K
  have e : (V.filter fun v => decide (np v = 0)) = V.filter fun v => decide (((g v).length : Int) = 0) := List.filter_congr fun v hv => by rw [h v hv]
  rw [e]
  exact ⟨D.lv, D.nd, fun v hv h2 => (h v hv).trans (D.np v hv h2)⟩
theorem cyc_inf (K : Kn V g su) (h : Cyc su V) : ∃ v ∈ V, ht V g v = V.length := by
  obtain ⟨C, hne, hC, hp⟩ := h
  have key : ∀ k, ∀ y ∈ C, k ≤ hgt g k y := by
    intro k
    induction k with
    | zero => exact fun _ _ => Nat.zero_le _
    | succ k ih =>
      intro y hy
      obtain ⟨z, hz, hyz⟩ := hp y hy
      have hgz : z ∈ g y := List.count_pos_iff.mp (by rw [← K.ct y (hC y hy) z (hC z hz)]; exact List.count_pos_iff.mpr hyz)
      have h1 := hgt_ge (k := k) hgz
      have h2 := ih z hz
      exact lin [_, _, _] (.le (.a (.v 0) (.n 1)) (.v 1)) 1 (.c 1 (.le (.a (.n 1) (.v 2)) (.v 1)) (.c 1 (.le (.v 0) (.v 2)) .e)) (Eq.refl true) h1 h2
  obtain ⟨v, hv⟩ := List.exists_mem_of_ne_nil C hne
  exact ⟨v, hC v hv, Nat.le_antisymm (ht_le v) (key _ v hv)⟩
noncomputable def lpos : List Str → Str → Nat
  | [], _ => 0
  | v :: l, x => if x ∈ l then lpos l x else if x = v then l.length + 1 else 0
theorem lpos_le : ∀ (l : List Str) (x : Str), lpos l x ≤ l.length
  | [], _ => Nat.le_refl _
  | v :: l, x => by
    unfold lpos
    split
    · exact Nat.le_succ_of_le (lpos_le l x)
    · split
      · exact Nat.le_refl _
      · exact Nat.zero_le _
theorem lpos_pos : ∀ {l : List Str} {x : Str}, x ∈ l → 0 < lpos l x
  | v :: l, x, h => by
    unfold lpos
    split
    · rename_i h; exact lpos_pos h
    · rename_i h2
      rcases List.mem_cons.mp h with h | h
      · rw [if_pos h]; exact Nat.succ_pos _
      · exact absurd h h2
theorem topo_lt : ∀ {fin : List Str}, Topo su fin → ∀ {x y : Str}, x ∈ fin → y ∈ su x → y ∈ fin ∧ lpos fin y < lpos fin x
  | v :: l, ⟨h1, h2⟩, x, y, hx, hy => by
    unfold lpos
    by_cases hxl : x ∈ l
    · obtain ⟨a, b⟩ := topo_lt h2 hxl hy
      rw [if_pos hxl, if_pos a]
      exact ⟨.tail _ a, b⟩
    · have e : x = v := (List.mem_cons.mp hx).elim id fun z => absurd z hxl
      rw [e] at hy
      have hyl := h1 y hy
      rw [if_neg hxl, if_pos e, if_pos hyl]
      exact ⟨.tail _ hyl, Nat.lt_succ_of_le (lpos_le l y)⟩
theorem topo_fin (K : Kn V g su) (h : ∃ fin, Topo su fin ∧ ∀ v ∈ V, v ∈ fin) : ∀ v ∈ V, ht V g v < V.length := by
  obtain ⟨fin, ht, hV⟩ := h
  have key : ∀ k, ∀ y ∈ V, hgt g k y + lpos fin y ≤ fin.length := by
    intro k
    induction k with
    | zero => intro y _; show 0 + _ ≤ _; rw [Nat.zero_add]; exact lpos_le fin y
    | succ k ih =>
      intro y hy
      have h1 : hgt g (k + 1) y ≤ fin.length - lpos fin y := hgt_bd fun x hx => by
        have hxV := K.cl y hy x hx
        have hyx : y ∈ su x := List.count_pos_iff.mp (by rw [K.ct y hy x hxV]; exact List.count_pos_iff.mpr hx)
        have h2 := (topo_lt ht (hV x hxV) hyx).2
        have h3 := ih x hxV
        have h4 := lpos_le fin x
        exact lin [_, _, _, _, _] (.le (.a (.n 1) (.v 0)) (.v 1)) 1 (.c 1 (.lt (.v 2) (.v 3)) (.c 1 (.le (.a (.v 0) (.v 3)) (.v 4)) (.c 1 (.le (.v 4) (.a (.v 1) (.v 2))) .e))) (Eq.refl true) h2 h3 (lsa _ _)
      have h4 := lpos_le fin y
      exact lin [_, _, _, _] (.le (.a (.v 0) (.v 1)) (.v 2)) 1 (.c 1 (.le (.v 0) (.v 3)) (.c 1 (.eq (.a (.v 3) (.v 1)) (.v 2)) .e)) (Eq.refl true) h1 (Nat.sub_add_cancel (lin [_, _] (.le (.v 0) (.v 1)) 1 (.c 1 (.le (.v 0) (.v 1)) .e) (Eq.refl true) h4))
  exact hgt_fin K.cl (N := fin.length) fun u hu => by
    have h1 := key fin.length u hu
    have h2 := lpos_pos (hV u hu)
    exact lin [_, _, _] (.lt (.v 0) (.v 1)) 1 (.c 1 (.le (.a (.v 0) (.v 2)) (.v 1)) (.c 1 (.lt (.n 0) (.v 2)) .e)) (Eq.refl true) h1 h2
end

/-! ## what the sorter holds -/
noncomputable def tF (T : Tri) (v : Str) : Int × List Str := match T.find? fun e => decide (e.1 = v) with
  | some e => e.2
  | none => (0, [])
theorem tF_cons (e : Str × Int × List Str) (T : Tri) (v : Str) : tF (e :: T) v = if e.1 = v then e.2 else tF T v := by
  unfold tF
  rw [List.find?_cons]
  by_cases h : e.1 = v
  · simp [h]
  · simp [h]
theorem tF_no : ∀ {T : Tri} {v : Str}, v ∉ T.map (·.1) → tF T v = (0, [])
  | [], _, _ => rfl
  | e :: T, v, h => by
    rw [tF_cons, if_neg fun z => h (by rw [← z]; exact .head _), tF_no fun z => h (.tail _ z)]
theorem tF_snoc : ∀ {T : Tri} {v x : Str}, tF (T ++ [(v, 0, [])]) x = tF T x
  | [], v, x => by
    rw [List.nil_append, tF_cons]; split <;> rfl
  | e :: T, v, x => by
    rw [List.cons_append, tF_cons, tF_cons, tF_snoc]
theorem tF_getT {T : Tri} {v x : Str} : tF (getT T v) x = tF T x := by
  unfold getT
  split
  · rfl
  · exact tF_snoc
theorem mem_getT {T : Tri} {v : Str} : v ∈ (getT T v).map (·.1) := by
  unfold getT
  split
  · rename_i h; exact List.contains_iff_mem.mp h
  · simp
theorem tF_mod {f : Int × List Str → Int × List Str} {v x : Str} : ∀ {T : Tri}, v ∈ T.map (·.1) → tF (modT T v f) x = if x = v then f (tF T x) else tF T x
  | e :: T, h => by
    have e1 : modT (e :: T) v f = (if e.1 = v then (e.1, f e.2) else e) :: modT T v f := rfl
    have ih : v ∈ T.map (·.1) ∨ x ≠ v → tF (modT T v f) x = if x = v then f (tF T x) else tF T x := fun h => by
      by_cases hm : v ∈ T.map (·.1)
      · exact tF_mod hm
      · have hx : x ≠ v := h.elim (fun z => absurd z hm) id
        have : modT T v f = T := by
          unfold modT
          conv => rhs; rw [← List.map_id T]
          refine List.map_congr_left fun q hq => ?_
          rw [if_neg fun z => hm (by rw [← z]; exact List.mem_map_of_mem hq)]; rfl
        rw [this, if_neg hx]
    rw [e1, tF_cons, tF_cons]
    by_cases h1 : e.1 = v
    · rw [if_pos h1]
      by_cases h2 : e.1 = x
      · rw [if_pos h2, if_pos h2, if_pos (h2.symm.trans h1)]
      · rw [if_neg h2, if_neg h2, ih (.inr fun z => h2 (h1.trans z.symm))]
    · rw [if_neg h1]
      by_cases h2 : e.1 = x
      · rw [if_pos h2, if_neg (fun z => h1 (h2.trans z)), if_pos h2]
      · rw [if_neg h2, if_neg h2, ih (.inl ((List.mem_cons.mp h).elim (fun z => absurd z.symm h1) id))]
theorem tF_addP {T : Tri} {v p x : Str} : tF (addP v T p) x = if x = p then ((tF T x).1, (tF T x).2 ++ [v]) else tF T x := by
  unfold addP
  rw [tF_mod mem_getT, tF_getT]
theorem tF_fold {v x : Str} : ∀ {ps : List Str} {T : Tri}, tF (ps.foldl (addP v) T) x = ((tF T x).1, (tF T x).2 ++ List.replicate (ps.count x) v)
  | [], T => by simp
  | p :: ps, T => by
    rw [List.foldl_cons, tF_fold, tF_addP]
    by_cases h : x = p
    · subst h
      rw [if_pos rfl, List.count_cons_self, List.replicate_succ, List.append_assoc]; rfl
    · rw [if_neg h, List.count_cons_of_ne (Ne.symm h)]
theorem tF_addT {T : Tri} {v x : Str} {ps : List Str} : tF (addT T v ps) x = ((tF T x).1 + (if x = v then ps.length else 0 : Nat), (tF T x).2 ++ List.replicate (ps.count x) v) := by
  unfold addT
  rw [tF_fold, tF_mod mem_getT, tF_getT]
  by_cases h : x = v
  · rw [if_pos h, if_pos h]
  · rw [if_neg h, if_neg h]; simp
theorem tF_geT {x y : Str} : ∀ (l : List Ge) (T : Tri), (tF (l.foldl (fun T e => addT T e.v e.ps) T) x).1 = (tF T x).1 + ((l.map fun e => if x = e.v then e.ps.length else 0).sum : Nat) ∧
    (tF (l.foldl (fun T e => addT T e.v e.ps) T) x).2.count y = (tF T x).2.count y + (l.map fun e => if y = e.v then e.ps.count x else 0).sum
  | [], T => by simp
  | e :: l, T => by
    obtain ⟨h1, h2⟩ := tF_geT (x := x) (y := y) l (addT T e.v e.ps)
    rw [List.foldl_cons, h1, h2, tF_addT, List.map_cons, List.map_cons, List.sum_cons, List.sum_cons]
    refine ⟨by dsimp only; omega, ?_⟩
    dsimp only
    rw [List.count_append, List.count_replicate]
    by_cases h : y = e.v
    · subst h; simp; exact Nat.le_antisymm (lin [_, _, _] (.le (.a (.a (.v 0) (.v 1)) (.v 2)) (.a (.v 0) (.a (.v 1) (.v 2)))) 1 .e (Eq.refl true)) (lin [_, _, _] (.le (.a (.v 0) (.a (.v 1) (.v 2))) (.a (.a (.v 0) (.v 1)) (.v 2))) 1 .e (Eq.refl true))
    · rw [if_neg h, if_neg (by simpa using Ne.symm h)]; exact Nat.le_antisymm (lin [_, _] (.le (.a (.a (.v 0) (.n 0)) (.v 1)) (.a (.v 0) (.a (.n 0) (.v 1)))) 1 .e (Eq.refl true)) (lin [_, _] (.le (.a (.v 0) (.a (.n 0) (.v 1))) (.a (.a (.v 0) (.n 0)) (.v 1))) 1 .e (Eq.refl true))
theorem sum_none {F : Ge → Nat} {x : Str} : ∀ {l : List Ge}, x ∉ l.map (·.v) → (l.map fun e => if x = e.v then F e else 0).sum = 0
  | [], _ => rfl
  | y :: l, h => by rw [List.map_cons, List.sum_cons, if_neg fun z => h (by rw [z]; exact .head _), sum_none fun z => h (.tail _ z)]
theorem sum_one {F : Ge → Nat} {x : Str} : ∀ {l : List Ge}, (l.map (·.v)).Nodup → (∀ e ∈ l, e.v = x → (l.map fun e => if x = e.v then F e else 0).sum = F e)
  | y :: l, nd, e, he, hx => by
    have nd' := List.nodup_cons.mp (show (y.v :: l.map (·.v)).Nodup from nd)
    rw [List.map_cons, List.sum_cons]
    rcases List.mem_cons.mp he with rfl | he
    · rw [if_pos hx.symm, sum_none (by rw [← hx]; exact nd'.1)]; rfl
    · rw [sum_one nd'.2 e he hx, if_neg fun z => nd'.1 (by rw [← z, ← hx]; exact List.mem_map_of_mem he), Nat.zero_add]
theorem names_up {v x : Str} : ∀ {ps : List Str} {T : Tri}, x ∈ T.map (·.1) → x ∈ (ps.foldl (addP v) T).map (·.1)
  | [], _, h => h
  | p :: ps, T, h => names_up (ps := ps) (T := addP v T p) (by
    unfold addP
    rw [names_modT]
    unfold getT
    split
    · exact h
    · rw [List.map_append]; exact List.mem_append_left _ h)
theorem names_addT_up {T : Tri} {v x : Str} {ps : List Str} (h : x ∈ T.map (·.1) ∨ x = v) : x ∈ (addT T v ps).map (·.1) := by
  refine names_up ?_
  rw [names_modT]
  rcases h with h | rfl
  · unfold getT
    split
    · exact h
    · rw [List.map_append]; exact List.mem_append_left _ h
  · exact mem_getT
theorem names_geT : ∀ (l : List Ge) (T : Tri), (∀ x, x ∈ T.map (·.1) ∨ x ∈ l.map (·.v) → x ∈ (l.foldl (fun T e => addT T e.v e.ps) T).map (·.1))
  | [], T, x, h => h.elim id fun z => nomatch z
  | e :: l, T, x, h => names_geT l (addT T e.v e.ps) x (by
    rcases h with h | h
    · exact .inl (names_addT_up (.inl h))
    · rcases List.mem_cons.mp h with h | h
      · exact .inl (names_addT_up (.inr h))
      · exact .inr h)
theorem ndf_tF (ns : List Nd) (v : Str) : ((ndf ns v).np, (ndf ns v).su) = tF (triN ns) v := by
  induction ns with
  | nil => rfl
  | cons x ns ih =>
    have e1 : triN (x :: ns) = (x.nm, x.np, x.su) :: triN ns := rfl
    rw [e1, tF_cons, ← ih]
    unfold ndf
    rw [List.find?_cons]
    by_cases h : x.nm = v
    · simp [h]
    · simp [h]
section
variable {W : List Str} {es : List Ge} {ns : List Nd}
theorem kn_of (ok : Wok W) (K : Wk W es []) (nd : ndN ns) (ht : triN ns = geT es) :
    Kn (ns.map (·.nm)) (succ W) (fun v => (ndf ns v).su) ∧ (∀ v ∈ ns.map (·.nm), (ndf ns v).np = (succ W v).length) ∧ (∀ x, x ∈ ns.map (·.nm) ↔ x ∈ es.map (·.v)) := by
  have hV : ∀ x, x ∈ ns.map (·.nm) ↔ x ∈ es.map (·.v) := fun x => by
    rw [← names_triN, ht]
    constructor
    · intro h
      have := geT_names (K.ok ok) es.length x (by rw [List.take_length]; exact h)
      exact this
    · exact fun h => names_geT es [] x (.inr h)
  have hcl : ∀ v ∈ es.map (·.v), ∀ x ∈ succ W v, x ∈ es.map (·.v) := fun v hv x hx => by
    obtain ⟨e, he, rfl⟩ := List.mem_map.mp hv
    exact (K.cl e he x (by rw [K.ps e he]; exact hx)).elim id fun z => nomatch z
  have hsu : ∀ v x, (ndf ns v).su.count x = (es.map fun e => if x = e.v then e.ps.count v else 0).sum := fun v x => by
    have h1 := congrArg Prod.snd (ndf_tF ns v)
    have h2 := (tF_geT (x := v) (y := x) es []).2
    dsimp only at h1
    rw [h1, ht]
    refine (?_ : List.count x (tF (es.foldl _ []) v).2 = _)
    rw [h2]
    refine (?_ : List.count x [] + _ = _)
    rw [List.count_nil, Nat.zero_add]
  refine ⟨⟨nd, fun v hv x hx => (hV x).mpr (hcl v ((hV v).mp hv) x hx), fun v hv x hx => ?_, fun x hx u hu => ?_⟩, fun v hv => ?_, hV⟩
  · have h1 := List.count_pos_iff.mpr hx
    rw [hsu] at h1
    by_cases z : x ∈ es.map (·.v)
    · exact (hV x).mpr z
    · rw [sum_none z] at h1; exact absurd h1 (Nat.lt_irrefl _)
  · rw [hsu]
    obtain ⟨e, he, rfl⟩ := List.mem_map.mp ((hV x).mp hx)
    rw [sum_one K.nd e he rfl, K.ps e he]
  · obtain ⟨e, he, rfl⟩ := List.mem_map.mp ((hV v).mp hv)
    have h1 := congrArg Prod.fst (ndf_tF ns e.v)
    have h2 := (tF_geT (x := e.v) (y := e.v) es []).1
    dsimp only at h1
    rw [h1, ht]
    refine (?_ : (tF (es.foldl _ []) e.v).1 = _)
    rw [h2, sum_one K.nd e he rfl, ← K.ps e he]
    refine (?_ : (0 : Int) + _ = _)
    omega
end
end Mine
end

section
open PySem PySem.W PyProof.Rows PySem.Calls PySem.Spec
set_option maxRecDepth 100000
namespace Mine

/-! ## rows, own words, numbers, written signs, words: on paper -/
noncomputable def toksK : List Str := (PR.main.body.findSome? fun st => if ((spart [st]).1.drop 1).flatMap (fun t => (epart t).1) = [("EXACT_TOKEN_TYPES" : Str)] then some (((spart [st]).1.take 1).flatMap fun e => (epart e).2.flatMap fun k => (epart k).1) else none).getD []
noncomputable def numOf (s : Str) : Int := 7 + (opsL.idxOf s : Nat)
noncomputable def toks : List (Str × Int) := toksK.map fun s => (s, numOf s)
noncomputable def wrS (l : List (Str × Int)) : List (Int × Str) := l.foldl (fun d p => upd p.2 p.1 d) []
noncomputable def wget (n : Int) : Str := ((wrS toks).lookup n).getD ""
theorem sign_facts : (∀ one ∈ ones, ∀ s ∈ signsOf one, s ∈ opsL ∧ wget (numOf s) = s ∧ 1 ≤ s.length ∧ s.length ≤ 3) ∧ (∀ p ∈ wrS toks, p.2.length ≤ 3) ∧ (toks.map (·.1)).Nodup ∧ toks.length = 48 := by decide +kernel
theorem wget_len (n : Int) : (wget n).length ≤ 3 := by
  unfold wget
  cases h : (wrS toks).lookup n with
  | none => exact Nat.zero_le _
  | some s =>
    obtain ⟨l1, l2, e, _⟩ := List.lookup_eq_some_iff.mp h
    exact sign_facts.2.1 (n, s) (by rw [e]; simp)
theorem numOf_ne (s : Str) : numOf s ≠ 0 := by unfold numOf; omega
theorem upd_map {K α β : Type} [DecidableEq K] (f : α → β) (x : K) (v : α) : ∀ l : List (K × α), upd x (f v) (l.map fun p => (p.1, f p.2)) = (upd x v l).map fun p => (p.1, f p.2)
  | [] => rfl
  | (y, u) :: l => by
    rw [List.map_cons]
    unfold upd
    by_cases e : x = y
    · rw [if_pos e, if_pos e]; rfl
    · rw [if_neg e, if_neg e, upd_map f x v l]; rfl
theorem lookup_map {K α β : Type} [BEq K] (f : α → β) (x : K) : ∀ l : List (K × α), (l.map fun p => (p.1, f p.2)).lookup x = (l.lookup x).map f
  | [] => rfl
  | (y, u) :: l => by
    rw [List.map_cons, List.lookup_cons, List.lookup_cons, lookup_map f x l]
    dsimp only
    cases x == y <;> rfl
theorem upd_len {K α : Type} [DecidableEq K] (x : K) (v : α) : ∀ l : List (K × α), (upd x v l).length ≤ l.length + 1
  | [] => Nat.le_refl _
  | (y, u) :: l => by
    unfold upd
    split
    · exact Nat.le_succ _
    · exact Nat.succ_le_succ (upd_len x v l)
noncomputable def joinS (l : List Str) : Str := Txt.join "" l
theorem joinS_cons (x : Str) (l : List Str) : joinS (x :: l) = x ++ joinS l := by
  unfold joinS Txt.join
  rw [StrLaws.glued_eq_join, StrLaws.glued_eq_join]
  cases l with
  | nil => exact (app_nil x).symm
  | cons y l =>
    refine (?_ : x ++ "" ++ _ = _)
    rw [app_nil]
theorem app_assoc (x y z : Str) : x ++ y ++ z = x ++ (y ++ z) := str_ext (by simp [cap])
theorem joinS_fold : ∀ (l : List Str) (w : Str), l.foldl (· ++ ·) w = w ++ joinS l
  | [], w => (app_nil w).symm
  | x :: l, w => by rw [List.foldl_cons, joinS_fold, joinS_cons, app_assoc]
theorem joinS_len {a b : Nat} : ∀ {l : List Str}, (∀ s ∈ l, a ≤ s.length ∧ s.length ≤ b) → a * l.length ≤ (joinS l).length ∧ (joinS l).length ≤ b * l.length
  | [], _ => ⟨Nat.le_refl _, Nat.le_refl _⟩
  | x :: l, h => by
    obtain ⟨h1, h2⟩ := joinS_len fun s hs => h s (.tail _ hs)
    obtain ⟨h3, h4⟩ := h x (.head _)
    have e : (joinS (x :: l)).length = x.length + (joinS l).length := by
      rw [joinS_cons, ← len_toList, cap, Array.toList_append, List.length_append, len_toList, len_toList]
    rw [e, List.length_cons, Nat.mul_succ, Nat.mul_succ]; omega
noncomputable def ownA (o : List Str) (l : List Str) : List Str := if o.contains (joinS l) then o else o ++ [joinS l]
noncomputable def ownL (R : List (List Str)) : List Str := R.foldl ownA []
noncomputable def numR (l : List Str) : List Int := l.map numOf ++ [0]
noncomputable def numL (R : List (List Str)) : List Int := R.flatMap numR
noncomputable def stp (st : List Str × Str) (n : Int) : List Str × Str := if n = 0 then (if st.1.contains st.2 then st.1 else st.1 ++ [st.2], "") else (st.1, st.2 ++ wget n)
theorem stp_row (l : List Str) (h : ∀ s ∈ l, wget (numOf s) = s) : ∀ (o : List Str) (w : Str), (l.map numOf).foldl stp (o, w) = (o, l.foldl (· ++ ·) w) := by
  induction l with
  | nil => intro o w; rfl
  | cons s l ih =>
    intro o w
    rw [List.map_cons, List.foldl_cons, List.foldl_cons]
    have e : stp (o, w) (numOf s) = (o, w ++ s) := by
      unfold stp
      rw [if_neg (numOf_ne s), h s (.head _)]
    rw [e, ih fun x hx => h x (.tail _ hx)]
theorem stp_all : ∀ (R : List (List Str)), (∀ l ∈ R, ∀ s ∈ l, wget (numOf s) = s) → ∀ o, (numL R).foldl stp (o, "") = (R.foldl ownA o, ("" : Str))
  | [], _, _ => rfl
  | l :: R, h, o => by
    unfold numL
    rw [List.flatMap_cons, List.foldl_append]
    refine (?_ : (numL R).foldl stp _ = _)
    have e : (numR l).foldl stp (o, "") = (ownA o l, ("" : Str)) := by
      unfold numR
      rw [List.foldl_append, stp_row l (h l (.head _)), joinS_fold, nil_app]
      refine (?_ : stp (o, joinS l) 0 = _)
      unfold stp ownA
      rw [if_pos rfl]
    rw [e, stp_all R (fun l hl => h l (.tail _ hl))]; rfl
/-- what the rows are -/
structure Rws (R : List (List Str)) : Prop where
  len : R.length ≤ 4
  row : ∀ l ∈ R, l ≠ [] ∧ l.length ≤ 4
  sg : ∀ l ∈ R, ∀ s ∈ l, s ∈ opsL ∧ wget (numOf s) = s ∧ 1 ≤ s.length ∧ s.length ≤ 3
theorem ownL_mem {R : List (List Str)} {w : Str} : ∀ {o : List Str}, w ∈ R.foldl ownA o → w ∈ o ∨ ∃ l ∈ R, w = joinS l := by
  induction R with
  | nil => intro o h; exact .inl h
  | cons l R ih =>
    intro o h
    rcases ih h with h | ⟨l', hl, e⟩
    · unfold ownA at h
      split at h
      · exact .inl h
      · rcases List.mem_append.mp h with h | h
        · exact .inl h
        · exact .inr ⟨l, .head _, List.mem_singleton.mp h⟩
    · exact .inr ⟨l', .tail _ hl, e⟩
theorem ownA_len (o l : List Str) : (ownA o l).length ≤ o.length + 1 := by
  unfold ownA
  split
  · exact Nat.le_succ _
  · simp
theorem ownL_len (R : List (List Str)) : ∀ o, (R.foldl ownA o).length ≤ o.length + R.length := by
  induction R with
  | nil => intro o; exact Nat.le_refl _
  | cons l R ih =>
    intro o
    have h1 := ih (ownA o l)
    have h2 := ownA_len o l
    rw [List.foldl_cons, List.length_cons]; exact lin [_, _, _, _] (.le (.v 0) (.a (.v 1) (.a (.v 2) (.n 1)))) 1 (.c 1 (.le (.v 0) (.a (.v 3) (.v 2))) (.c 1 (.le (.v 3) (.a (.v 1) (.n 1))) .e)) (Eq.refl true) h1 h2
theorem ownL_ok {R : List (List Str)} (h : Rws R) : Wok (ownL R) := by
  refine ⟨?_, fun w hw => ?_⟩
  · have := ownL_len R []
    have := h.len
    refine (?_ : (R.foldl ownA []).length ≤ 4)
    simp only [List.length_nil] at *; omega
  · rcases ownL_mem hw with hw | ⟨l, hl, rfl⟩
    · cases hw
    · obtain ⟨h1, h2⟩ := joinS_len (a := 1) (b := 3) fun s hs => (h.sg l hl s hs).2.2
      obtain ⟨h3, h4⟩ := h.row l hl
      have : 0 < l.length := List.length_pos_iff.mpr h3
      omega
theorem stp_len (L : List Int) : ∀ (st : List Str × Str), (L.foldl stp st).1.length ≤ st.1.length + L.length ∧ (L.foldl stp st).2.length ≤ st.2.length + 3 * L.length := by
  induction L with
  | nil => intro st; exact ⟨Nat.le_refl _, Nat.le_refl _⟩
  | cons n L ih =>
    intro st
    obtain ⟨h1, h2⟩ := ih (stp st n)
    have h3 : (stp st n).1.length ≤ st.1.length + 1 ∧ (stp st n).2.length ≤ st.2.length + 3 := by
      unfold stp
      split
      · refine ⟨?_, Nat.zero_le _⟩
        dsimp only
        split
        · exact Nat.le_succ _
        · simp
      · refine ⟨Nat.le_succ _, ?_⟩
        have := wget_len n
        have e : (st.2 ++ wget n).length = st.2.length + (wget n).length := by
          rw [← len_toList, cap, Array.toList_append, List.length_append, len_toList, len_toList]
        refine (?_ : (st.2 ++ wget n).length ≤ _)
        exact lin [_, _, _] (.le (.v 0) (.a (.v 1) (.n 3))) 1 (.c 1 (.le (.v 2) (.n 3)) (.c 1 (.eq (.v 0) (.a (.v 1) (.v 2))) .e)) (Eq.refl true) this e
    rw [List.foldl_cons, List.length_cons]; omega
theorem numL_len {R : List (List Str)} (h : Rws R) : (numL R).length ≤ 20 := by
  have := flat_len (f := numR) (c := 5) (l := R) fun l hl => by
    have := (h.row l hl).2
    unfold numR; simp; exact lin [_] (.le (.v 0) (.n 4)) 1 (.c 1 (.le (.v 0) (.n 4)) .e) (Eq.refl true) this
  have := h.len
  unfold numL; omega
end Mine
end

section
open PySem PySem.W PyProof.Rows PySem.Calls PySem.Spec
set_option maxRecDepth 100000
set_option maxHeartbeats 2000000
namespace Mine

noncomputable def intO (l : List Int) : AO := .list (l.map .int)
noncomputable def rwM (rws : List Rw) : HP := rws.map Rw.obj
noncomputable def rwO (rws : List Rw) : AO := .list (rws.map fun q => AV.ref q.r)
noncomputable def rwL (rws : List Rw) : List (List Str) := rws.map (·.l)
noncomputable def toksO : AO := .dict (mapI toks)
noncomputable def wrO (l : List (Str × Int)) : AO := .idict ((wrS l).map fun p => (p.1, AV.str p.2))
noncomputable def lawP (ro : HP) : Prm := ⟨scOf 173, ro, true, false⟩

/-- numbers to words -/
theorem law_words {N : Nat} (hN : 113 ≤ N) {ro hp fr : HP} {R : List (List Str)} (hR : Rws R) {a rr rw own num wt : Addr} (H : Sh hp ((num, intO (numL R)) :: (wt, wrO toks) :: fr)) {k : Fl → AS → Prop}
    (h0 : ∀ M ws hp', 110 ≤ M → Sh hp' ((ws, strO (ownL R)) :: fr) → (sem M).B (lawP ro) ((bodyOf 173).drop 10) ⟨[("script", .ref a), ("rows", .ref rr), ("row", .ref rw), ("own", .ref own), ("numbers", .ref num), ("written", .ref wt), ("words", .ref ws), ("word", .str "")], hp'⟩ k) :
    (sem N).B (lawP ro) ((bodyOf 173).drop 7) ⟨[("script", .ref a), ("rows", .ref rr), ("row", .ref rw), ("own", .ref own), ("numbers", .ref num), ("written", .ref wt)], hp⟩ k := by
  obtain ⟨n, rfl⟩ := pull hN
  have h64 : 1000 ≤ lim := by decide
  have hnl := numL_len hR
  refine ⟨Nat.zero_le _, fun ws => ?_⟩
  have H0 := H.push (r := ws) (x := strO [])
  obtain ⟨hf, hw⟩ := (H0.perm (o2 := (num, intO (numL R)) :: (wt, wrO toks) :: (ws, strO []) :: fr) (by exact pm [_, _, _] [_] (.c 0 (.c 1 (.c 2 (.l 0)))) (.c 1 (.c 2 (.c 0 (.l 0)))) rfl)).freeze
  refine ⟨.inr ⟨intO (numL R), ((numL R).map AV.int).map (fun v => [v]), hf, rfl, by (first | exact Mine.lm2 (by assumption) rfl | exact Mine.lm (by assumption) rfl | exact Mine.lm0 (by assumption) rfl | (simp; omega)), fun o => (hw o).1, fun o => ?_⟩⟩
  have H1 := (hw o).2
  clear hw
  refine ⟨fun i => At [("script", .ref a), ("rows", .ref rr), ("row", .ref rw), ("own", .ref own), ("numbers", .ref num), ("written", .ref wt), ("words", .ref ws), ("word", .str (((numL R).take i).foldl stp ([], "")).2)] fun hp => Sh hp ((ws, strO (((numL R).take i).foldl stp ([], "")).1) :: (wt, wrO toks) :: (num, .froz o (intO (numL R))) :: fr),
    .mk (H1.perm (by exact pm [_, _, _] [_] (.c 0 (.c 1 (.c 2 (.l 0)))) (.c 2 (.c 1 (.c 0 (.l 0)))) rfl)), fun i => at1 fun _ h => h.memF (.tail _ (.tail _ (.head _))), fun i us => at2 fun _ hi h kX X => ?_, at1 fun _ h => ?_⟩
  · obtain ⟨c, hc, rfl⟩ : ∃ c, (numL R)[i]? = some c ∧ us = [.int c] := by
      rw [List.getElem?_map, List.getElem?_map] at hi
      cases hq : (numL R)[i]? with
      | none => rw [hq] at hi; cases hi
      | some c => rw [hq] at hi; cases hi; exact ⟨c, rfl, rfl⟩
    have hsl := stp_len ((numL R).take i) ([], "")
    have htl := (List.take_sublist i (numL R)).length_le
    have hsn : ((numL R).take (i + 1)).foldl stp ([], "") = stp (((numL R).take i).foldl stp ([], "")) c := by rw [take_succ' hc, List.foldl_append]; rfl
    generalize hst : ((numL R).take i).foldl stp ([], "") = st at *
    have hs1 : st.1.length ≤ 20 := by have := hsl.1; simp at this; omega
    have hs2 : st.2.length ≤ 60 := by have := hsl.2; have e : (("" : Str)).length = 0 := rfl; simp only [e] at this; exact lin [_, _, _] (.le (.v 0) (.n 60)) 1 (.c 3 (.le (.v 1) (.n 20)) (.c 3 (.le (.v 2) (.v 1)) (.c 1 (.le (.v 0) (.a (.n 0) (.m 3 (.v 2)))) .e))) (Eq.refl true) hnl htl this
    clear hsl
    refine ⟨iseof_sem _ _ _ _ _ ?_⟩
    refine ⟨fun hb => ?_, fun hb => ?_⟩
    · have hb : c ≠ 0 := by simpa using hb
      have hw3 := wget_len c
      refine ⟨.idict, ⟨wt, _, rfl, h.has (.tail _ (.head _))⟩, rfl, ?_⟩
      refine ⟨_, h.has (.tail _ (.head _)), ?_⟩
      have e : (((wrS toks).map fun p => (p.1, AV.str p.2)).lookup c).getD (AV.str "") = AV.str (wget c) := by
        rw [lookup_map]; unfold wget
        cases (wrS toks).lookup c <;> rfl
      rw [e]
      refine ⟨by exact lin [_, _, _] (.le (.a (.v 0) (.v 1)) (.v 2)) 1 (.c 1 (.le (.n 1000) (.v 2)) (.c 1 (.le (.v 0) (.n 60)) (.c 1 (.le (.v 1) (.n 3)) .e))) (Eq.refl true) h64 hs2 hw3, X.next ["number"] _ (?_)⟩
      have e2 : stp st c = (st.1, st.2 ++ wget c) := by unfold stp; rw [if_neg hb]
      rw [hsn, e2]
      exact .mk h
    · have hb : c = 0 := by simpa using hb
      have e2 : stp st c = (if st.1.contains st.2 then st.1 else st.1 ++ [st.2], ("" : Str)) := by unfold stp; rw [if_pos hb]
      rw [e2] at hsn
      refine ⟨.inl ⟨st.1, h.has (.head _), by (first | exact Mine.fu rfl | exact Mine.lm0 (by assumption) rfl | omega), ?_⟩⟩
      refine ⟨fun hb2 => ?_, fun hb2 => ?_⟩
      · have hb2 : st.1.contains st.2 = false := by simpa using hb2
        rw [if_neg (by rw [hb2]; decide)] at hsn
        refine ⟨.list, ⟨ws, _, rfl, h.has (.head _)⟩, rfl, ?_⟩
        refine h.wrK (strO (st.1 ++ [st.2])) fun hp3 W3 H3 => ?_
        rw [strO_snoc] at W3
        refine ⟨_, hp3, W3, by (first | exact Mine.lm2 (by assumption) rfl | exact Mine.lm (by assumption) rfl | exact Mine.lm0 (by assumption) rfl | (simp; omega)), X.next ["number"] _ (?_)⟩
        rw [hsn]
        exact .mk H3
      · have hb2 : st.1.contains st.2 = true := by simpa using hb2
        rw [if_pos hb2] at hsn
        refine (X.next ["number"] _ (?_))
        rw [hsn]
        exact .mk h
  · rw [List.length_map, List.length_map, List.take_length, stp_all R (fun l hl s hs => (hR.sg l hl s hs).2.1)] at h
    rw [List.length_map, List.length_map, List.take_length, stp_all R (fun l hl s hs => (hR.sg l hl s hs).2.1)]
    exact h0 _ ws _ (by (first | exact Mine.fu rfl | exact Mine.lm0 (by assumption) rfl | omega)) (Sh.drop (o2 := [(wt, wrO toks), (num, .froz o (intO (numL R)))]) (h.perm (by exact pm [_, _, _] [_] (.c 0 (.c 1 (.c 2 (.l 0)))) (.a (.c 0 (.l 0)) (.c 1 (.c 2 .n))) rfl)))

theorem wrS_snoc (l : List (Str × Int)) (p : Str × Int) : wrO (l ++ [p]) = .idict (upd p.2 (.str p.1) ((wrS l).map fun p => (p.1, AV.str p.2))) := by
  unfold wrO wrS
  rw [List.foldl_append]
  exact congrArg AO.idict (upd_map AV.str p.2 p.1 _).symm
theorem wrS_len (l : List (Str × Int)) : ∀ d : List (Int × Str), (l.foldl (fun d p => upd p.2 p.1 d) d).length ≤ d.length + l.length := by
  induction l with
  | nil => intro d; exact Nat.le_refl _
  | cons p l ih =>
    intro d
    have h1 := ih (upd p.2 p.1 d)
    have h2 := upd_len p.2 p.1 d
    rw [List.foldl_cons, List.length_cons]; exact lin [_, _, _, _] (.le (.v 0) (.a (.v 1) (.a (.v 2) (.n 1)))) 1 (.c 1 (.le (.v 0) (.a (.v 3) (.v 2))) (.c 1 (.le (.v 3) (.a (.v 1) (.n 1))) .e)) (Eq.refl true) h1 h2
theorem nodup_lk {β : Type} : ∀ {l : List (Str × β)}, (l.map (·.1)).Nodup → ∀ {i : Nat} {p : Str × β}, l[i]? = some p → l.lookup p.1 = some p.2
  | q :: l, nd, i, p, h => by
    have nd' := List.nodup_cons.mp (show (q.1 :: l.map (·.1)).Nodup from nd)
    rw [List.lookup_cons]
    cases i with
    | zero => cases h; simp
    | succ i =>
      have h : l[i]? = some p := h
      have : p.1 ≠ q.1 := fun e => nd'.1 (by rw [← e]; exact List.mem_map_of_mem (List.mem_of_getElem? h))
      rw [beq_eq_false_iff_ne.mpr this]
      exact nodup_lk nd'.2 h
/-- the table of the signs, turned round -/
theorem law_written {N : Nat} (hN : 116 ≤ N) {ro hp fr : HP} (hT : (135, toksO) ∈ ro) {R : List (List Str)} (hR : Rws R) {a rr rw own num : Addr} (H : Sh hp ((num, intO (numL R)) :: fr)) {k : Fl → AS → Prop}
    (h0 : ∀ M wt ws hp', 110 ≤ M → Sh hp' ((ws, strO (ownL R)) :: fr) → (sem M).B (lawP ro) ((bodyOf 173).drop 10) ⟨[("script", .ref a), ("rows", .ref rr), ("row", .ref rw), ("own", .ref own), ("numbers", .ref num), ("written", .ref wt), ("words", .ref ws), ("word", .str "")], hp'⟩ k) :
    (sem N).B (lawP ro) ((bodyOf 173).drop 5) ⟨[("script", .ref a), ("rows", .ref rr), ("row", .ref rw), ("own", .ref own), ("numbers", .ref num)], hp⟩ k := by
  obtain ⟨n, rfl⟩ := pull hN
  have h64 : 1000 ≤ lim := by decide
  have ht48 := sign_facts.2.2.2
  refine ⟨.inr fun wt => ?_⟩
  have H1 := H.push (r := wt) (x := wrO [])
  refine ⟨.inl (.inr ⟨toksO, (mapI toks).map fun p => [AV.str p.1], hT, rfl, by unfold mapI; rw [List.length_map, List.length_map]; exact lin [_, _] (.le (.v 0) (.v 1)) 1 (.c 1 (.le (.n 1000) (.v 1)) (.c 1 (.eq (.v 0) (.n 48)) .e)) (Eq.refl true) h64 ht48, ?_⟩)⟩
  refine ⟨fun i => At [("script", .ref a), ("rows", .ref rr), ("row", .ref rw), ("own", .ref own), ("numbers", .ref num), ("written", .ref wt)] fun hp => Sh hp ((wt, wrO (toks.take i)) :: (num, intO (numL R)) :: fr),
    .mk H1, fun i _ _ => trivial, fun i us => at2 fun _ hi h kX X => ?_, at1 fun _ h => ?_⟩
  · obtain ⟨p, hp1, rfl⟩ : ∃ p, toks[i]? = some p ∧ us = [AV.str p.1] := by
      unfold mapI at hi
      rw [List.getElem?_map, List.getElem?_map] at hi
      cases hq : toks[i]? with
      | none => rw [hq] at hi; cases hi
      | some c => rw [hq] at hi; cases hi; exact ⟨c, rfl, rfl⟩
    refine ⟨_, .int p.2, .ro hT, ?_, ?_⟩
    · unfold mapI; rw [lookup_map (fun i => AV.int i), nodup_lk sign_facts.2.2.1 hp1]; rfl
    · refine h.wrK (wrO (toks.take (i + 1))) fun hp3 W3 H3 => ?_
      rw [take_succ' hp1, wrS_snoc] at W3
      refine ⟨.inr ⟨_, hp3, W3, ?_, X.next ["sign"] _ (.mk H3)⟩⟩
      have h1 := wrS_len (toks.take i) []
      have h2 := (List.take_sublist i toks).length_le
      rw [List.length_map]; unfold wrS; simp only [List.length_nil] at h1; exact lin [_, _, _, _] (.le (.v 0) (.v 1)) 1 (.c 1 (.le (.n 1000) (.v 1)) (.c 1 (.eq (.v 2) (.n 48)) (.c 1 (.le (.v 0) (.a (.n 0) (.v 3))) (.c 1 (.le (.v 3) (.v 2)) .e)))) (Eq.refl true) h64 ht48 h1 h2
  · have e : ((mapI toks).map fun p => [AV.str p.1]).length = toks.length := by unfold mapI; rw [List.length_map, List.length_map]
    rw [e, List.take_length] at h
    exact law_words (by (first | exact Mine.fu rfl | exact Mine.lm0 (by assumption) rfl | omega)) hR (h.perm (o2 := (num, intO (numL R)) :: (wt, wrO toks) :: fr) (by exact pm [_, _] [_] (.c 0 (.c 1 (.l 0))) (.c 1 (.c 0 (.l 0))) rfl)) fun M ws hp' hM H' => h0 M wt ws hp' hM H'
end Mine
end

section
open PySem PySem.W PyProof.Rows PySem.Calls PySem.Spec
set_option maxRecDepth 100000
set_option maxHeartbeats 2000000
namespace Mine

theorem intO_snoc (l l' : List Int) : intO (l ++ l') = .list (l.map .int ++ l'.map .int) := by unfold intO; rw [List.map_append]
/-- a row's numbers -/
theorem law_ext {N : Nat} (hN : 80 ≤ N) {ro hp fr : HP} {l : List Str} (hl4 : l.length ≤ 4) (hls : ∀ s ∈ l, s ∈ opsL) {nu : List Int} (hnu : nu.length ≤ 20) {a rr rw own num q : Addr} (H : Sh hp ((q, strO l) :: (num, intO nu) :: (rw, strO opsL) :: fr)) {k : Fl → AS → Prop}
    (h0 : ∀ hp', Sh hp' ((num, intO (nu ++ numR l)) :: (q, strO l) :: (rw, strO opsL) :: fr) → k .next ⟨[("script", .ref a), ("rows", .ref rr), ("row", .ref rw), ("own", .ref own), ("numbers", .ref num), ("signs", .ref q)], hp'⟩) :
    (sem N).B (lawP ro) ((inFor ((bodyOf 173).drop 4)).drop 1) ⟨[("script", .ref a), ("rows", .ref rr), ("row", .ref rw), ("own", .ref own), ("numbers", .ref num), ("signs", .ref q)], hp⟩ k := by
  obtain ⟨n, rfl⟩ := pull hN
  have h64 : 1000 ≤ lim := by decide
  have hol : opsL.length ≤ lim := by decide
  refine ⟨.list, ⟨num, _, rfl, H.has (.tail _ (.head _))⟩, rfl, ?_⟩
  obtain ⟨hf, hw⟩ := H.freeze
  refine ⟨.inr ⟨strO l, (l.map AV.str).map (fun v => [v]), hf, rfl, by (first | exact Mine.lm2 (by assumption) rfl | exact Mine.lm (by assumption) rfl | exact Mine.lm0 (by assumption) rfl | (simp; omega)), fun o => (hw o).1, fun o r1 => ?_⟩⟩
  have H1 := (hw o).2.push (r := r1) (x := intO [])
  clear hw
  refine ⟨fun i => At [("row", .ref rw)] fun hp => Sh hp ((r1, intO ((l.take i).map numOf)) :: (q, .froz o (strO l)) :: (num, intO nu) :: (rw, strO opsL) :: fr),
    .mk H1, fun i => at1 fun _ h => h.memF (.tail _ (.head _)), fun i us => at2 fun _ hi h kX X => ?_, at1 fun _ h => ?_⟩
  · apply items_strK hi; intro s hs
    refine ⟨fun _ => ?_, fun hf => (nomatch hf)⟩
    refine ⟨.list, ⟨rw, _, rfl, h.has (.tail _ (.tail _ (.tail _ (.head _))))⟩, rfl, ?_⟩
    refine ⟨opsL, h.has (.tail _ (.tail _ (.tail _ (.head _)))), hol, hls s (List.mem_of_getElem? hs), ?_⟩
    refine h.wrK (intO ((l.take (i + 1)).map numOf)) fun hp3 W3 H3 => ?_
    rw [take_succ' hs, List.map_append, intO_snoc] at W3
    have := (List.take_sublist i l).length_le
    exact ⟨_, hp3, W3, by (first | exact Mine.lm2 (by assumption) rfl | exact Mine.lm (by assumption) rfl | exact Mine.lm0 (by assumption) rfl | (simp; omega)), X.next ["sign"] _ (.mk H3)⟩
  · rw [List.length_map, List.length_map, List.take_length] at h
    refine ⟨(by decide : 1 ≤ lim), fun r2 => ?_⟩
    have H2 := h.push (r := r2) (x := intO [0])
    refine ⟨(l.map numOf).map .int, [0].map .int, H2.has (.tail _ (.head _)), H2.has (.head _), by rw [List.length_map, List.length_map, List.length_map, List.length_singleton]; exact lin [_, _] (.le (.a (.v 0) (.n 1)) (.v 1)) 1 (.c 1 (.le (.v 0) (.n 4)) (.c 1 (.le (.n 1000) (.v 1)) .e)) (Eq.refl true) hl4 h64, fun r3 => ?_⟩
    have e3 : AO.list ((l.map numOf).map .int ++ [0].map .int) = intO (numR l) := by unfold intO numR; rw [List.map_append]
    have H3 := H2.push (r := r3) (x := .list ((l.map numOf).map .int ++ [0].map .int))
    have H3 := H3.perm (o2 := (num, intO nu) :: (r3, intO (numR l)) :: (r2, intO [0]) :: (r1, intO (l.map numOf)) :: (q, .froz o (strO l)) :: (rw, strO opsL) :: fr) (by rw [e3]; exact pm [_, _, _, _, _, _] [_] (.c 0 (.c 1 (.c 2 (.c 3 (.c 4 (.c 5 (.l 0))))))) (.c 4 (.c 0 (.c 1 (.c 2 (.c 3 (.c 5 (.l 0))))))) rfl)
    refine H3.wrK (intO (nu ++ numR l)) fun hp4 W4 H4 => ?_
    rw [intO_snoc] at W4
    have hrl : (numR l).length ≤ 5 := by unfold numR; rw [List.length_append, List.length_map, List.length_singleton]; exact lin [_] (.le (.a (.v 0) (.n 1)) (.n 5)) 1 (.c 1 (.le (.v 0) (.n 4)) .e) (Eq.refl true) hl4
    refine ⟨nu.map .int, (numR l).map .int, hp4, .inl (H3.has (.tail _ (.head _))), W4, by (simp; exact lin [_, _, _] (.le (.a (.v 0) (.v 1)) (.v 2)) 1 (.c 1 (.le (.v 0) (.n 20)) (.c 1 (.le (.n 1000) (.v 2)) (.c 1 (.le (.v 1) (.n 5)) .e))) (Eq.refl true) hnu h64 hrl), ?_⟩
    refine h0 _ ?_
    have H5 := (H4.perm (o2 := (q, .froz o (strO l)) :: (((num, intO (nu ++ numR l)) :: (rw, strO opsL) :: fr) ++ [(r3, intO (numR l)), (r2, intO [0]), (r1, intO (l.map numOf))])) (by exact pm [_, _, _, _, _, _] [_] (.c 0 (.c 1 (.c 2 (.c 3 (.c 4 (.c 5 (.l 0))))))) (.c 4 (.a (.c 0 (.c 5 (.l 0))) (.c 1 (.c 2 (.c 3 .n))))) rfl)).thaw rfl
    exact Sh.drop (o2 := [(r3, intO (numR l)), (r2, intO [0]), (r1, intO (l.map numOf))]) (H5.perm (by exact pm [_, _, _, _, _, _] [_] (.c 0 (.a (.c 1 (.c 2 (.l 0))) (.c 3 (.c 4 (.c 5 .n))))) (.a (.c 1 (.c 0 (.c 2 (.l 0)))) (.c 3 (.c 4 (.c 5 .n)))) rfl))
/-- rows to own words and numbers -/
theorem law_rows {N : Nat} (hN : 118 ≤ N) {ro hp fr : HP} (hT : (135, toksO) ∈ ro) {rws : List Rw} (hR : Rws (rwL rws)) {a rr rw own num : Addr} (H : Sh hp ((rr, rwO rws) :: (rw, strO opsL) :: (own, strO []) :: (num, intO []) :: (rwM rws ++ fr))) {k : Fl → AS → Prop}
    (h0 : ∀ M wt ws hp', 110 ≤ M → Sh hp' ((ws, strO (ownL (rwL rws))) :: (own, strO (ownL (rwL rws))) :: fr) → (sem M).B (lawP ro) ((bodyOf 173).drop 10) ⟨[("script", .ref a), ("rows", .ref rr), ("row", .ref rw), ("own", .ref own), ("numbers", .ref num), ("written", .ref wt), ("words", .ref ws), ("word", .str "")], hp'⟩ k) :
    (sem N).B (lawP ro) ((bodyOf 173).drop 4) ⟨[("script", .ref a), ("rows", .ref rr), ("row", .ref rw), ("own", .ref own), ("numbers", .ref num)], hp⟩ k := by
  obtain ⟨n, rfl⟩ := pull hN
  have h64 : 1000 ≤ lim := by decide
  have hR4 : rws.length ≤ 4 := by have := hR.len; unfold rwL at this; rw [List.length_map] at this; exact this
  have hol : opsL.length ≤ lim := by decide
  obtain ⟨hf, hw⟩ := H.freeze
  refine ⟨.inr ⟨rwO rws, (rws.map fun q => AV.ref q.r).map (fun v => [v]), hf, rfl, by (first | exact Mine.lm2 (by assumption) rfl | exact Mine.lm (by assumption) rfl | exact Mine.lm0 (by assumption) rfl | (simp; omega)), fun o => (hw o).1, fun o => ?_⟩⟩
  have H1 := (hw o).2
  clear hw
  refine ⟨fun i => At [("script", .ref a), ("rows", .ref rr), ("row", .ref rw), ("own", .ref own), ("numbers", .ref num)] fun hp => Sh hp ((own, strO (ownL (rwL (rws.take i)))) :: (num, intO (numL (rwL (rws.take i)))) :: (rw, strO opsL) :: (rr, .froz o (rwO rws)) :: (rwM rws ++ fr)),
    .mk (H1.perm (by exact pm [_, _, _, _] [_, _] (.c 0 (.c 1 (.c 2 (.c 3 (.a (.l 0) (.l 1)))))) (.c 2 (.c 3 (.c 1 (.c 0 (.a (.l 0) (.l 1)))))) rfl)), fun i => at1 fun _ h => h.memF (.tail _ (.tail _ (.tail _ (.head _)))), fun i us => at2 fun _ hi h kX X => ?_, at1 fun _ h => ?_⟩
  · obtain ⟨q, hq, rfl⟩ : ∃ q, rws[i]? = some q ∧ us = [.ref q.r] := by
      rw [List.getElem?_map, List.getElem?_map] at hi
      cases hz : rws[i]? with
      | none => rw [hz] at hi; cases hi
      | some c => rw [hz] at hi; cases hi; exact ⟨c, rfl, rfl⟩
    have hqm : q ∈ rws := List.mem_of_getElem? hq
    have hql : q.l ∈ rwL rws := List.mem_map_of_mem hqm
    obtain ⟨hq0, hq4⟩ := hR.row _ hql
    have hqs := hR.sg _ hql
    have hqh : (q.r, strO q.l) ∈ rwM rws := List.mem_map.mpr ⟨q, hqm, rfl⟩
    have e0 : rwL (rws.take (i + 1)) = rwL (rws.take i) ++ [q.l] := by unfold rwL; rw [take_succ' hq, List.map_append]; rfl
    have e1 : ownL (rwL (rws.take (i + 1))) = ownA (ownL (rwL (rws.take i))) q.l := by unfold ownL; rw [e0, List.foldl_append]; rfl
    have e2 : numL (rwL (rws.take (i + 1))) = numL (rwL (rws.take i)) ++ (q.l.map numOf ++ [0]) := by unfold numL; rw [e0, List.flatMap_append]; simp [numR]
    have ho : (ownL (rwL (rws.take i))).length ≤ 4 := by
      have h1 := ownL_len (rwL (rws.take i)) []
      have h2 := (List.take_sublist i rws).length_le
      have h3 : (rwL (rws.take i)).length = (rws.take i).length := by unfold rwL; rw [List.length_map]
      unfold ownL; rw [List.length_nil] at h1; exact lin [_, _, _, _] (.le (.v 0) (.n 4)) 1 (.c 1 (.le (.v 1) (.n 4)) (.c 1 (.le (.v 0) (.a (.n 0) (.v 2))) (.c 1 (.le (.v 3) (.v 1)) (.c 1 (.eq (.v 2) (.v 3)) .e)))) (Eq.refl true) hR4 h1 h2 h3
    have hn : (numL (rwL (rws.take i))).length ≤ 20 := by
      refine numL_len ⟨?_, fun l hl => ?_, fun l hl => ?_⟩
      · have h2 := (List.take_sublist i rws).length_le
        have h3 : (rwL (rws.take i)).length = (rws.take i).length := by unfold rwL; rw [List.length_map]
        exact lin [_, _, _] (.le (.v 0) (.n 4)) 1 (.c 1 (.le (.v 1) (.n 4)) (.c 1 (.le (.v 2) (.v 1)) (.c 1 (.eq (.v 0) (.v 2)) .e))) (Eq.refl true) hR4 h2 h3
      · exact hR.row l (((List.take_sublist i rws).map _).subset hl)
      · exact hR.sg l (((List.take_sublist i rws).map _).subset hl)
    generalize ownL (rwL (rws.take i)) = ow at *
    generalize numL (rwL (rws.take i)) = nu at *
    obtain ⟨l1, l2, hrs⟩ := List.append_of_mem hqh
    have tl : ∀ {M : Nat} {hp : HP}, 80 ≤ M → Sh hp ((own, strO (ownA ow q.l)) :: (num, intO nu) :: (rw, strO opsL) :: (rr, .froz o (rwO rws)) :: (rwM rws ++ fr)) →
        (sem M).B (lawP ro) ((inFor ((bodyOf 173).drop 4)).drop 1) ⟨[("script", .ref a), ("rows", .ref rr), ("row", .ref rw), ("own", .ref own), ("numbers", .ref num), ("signs", .ref q.r)], hp⟩
          kX := fun hM H => by
      refine law_ext hM hq4 (fun s hs => (hqs s hs).1) hn (fr := (own, strO (ownA ow q.l)) :: (rr, .froz o (rwO rws)) :: (l1 ++ l2 ++ fr)) (H.perm (by rw [hrs]; exact pm [_, _, _, _, _] [_, _, _] (.c 0 (.c 1 (.c 2 (.c 3 (.a (.a (.l 0) (.c 4 (.l 1))) (.l 2)))))) (.c 4 (.c 1 (.c 2 (.c 0 (.c 3 (.a (.a (.l 0) (.l 1)) (.l 2))))))) rfl)) fun hp' H' => (X.next ["signs"] _ (.mk ?_))
      rw [e1, e2]
      refine H'.perm ?_
      rw [hrs]; unfold numR; exact pm [_, _, _, _, _] [_, _, _] (.c 0 (.c 1 (.c 2 (.c 3 (.c 4 (.a (.a (.l 0) (.l 1)) (.l 2))))))) (.c 3 (.c 0 (.c 2 (.c 4 (.a (.a (.l 0) (.c 1 (.l 1))) (.l 2)))))) rfl
    have hjl := (joinS_len (a := 0) (b := 3) fun s hs => ⟨Nat.zero_le _, (hqs s hs).2.2.2⟩).2
    have hsum : (q.l.map (·.length)).sum + q.l.length * (("" : Str)).length ≤ 16777216 := by
      have : ∀ l : List Str, (∀ s ∈ l, s.length ≤ 3) → (l.map (·.length)).sum ≤ 3 * l.length := fun l => by
        induction l with
        | nil => intro _; exact Nat.le_refl _
        | cons x l ih =>
          intro hl
          have h1 := hl x (.head _)
          have h2 := ih fun s hs => hl s (.tail _ hs)
          rw [List.map_cons, List.sum_cons, List.length_cons, Nat.mul_succ]; exact lin [_, _, _] (.le (.a (.v 0) (.v 1)) (.a (.m 3 (.v 2)) (.n 3))) 1 (.c 1 (.le (.v 0) (.n 3)) (.c 1 (.le (.v 1) (.m 3 (.v 2))) .e)) (Eq.refl true) h1 h2
      have h1 := this q.l fun s hs => (hqs s hs).2.2.2
      have h2 : q.l.length * (("" : Str)).length = 0 := Nat.mul_zero _
      exact lin [_, _, _] (.le (.a (.v 0) (.v 1)) (.n 16777216)) 1 (.c 3 (.le (.v 2) (.n 4)) (.c 1 (.le (.v 0) (.m 3 (.v 2))) (.c 1 (.eq (.v 1) (.n 0)) .e))) (Eq.refl true) hq4 h1 h2
    have hqH : ∀ {hp : HP} {x : AO}, Sh hp ((own, x) :: (num, intO nu) :: (rw, strO opsL) :: (rr, .froz o (rwO rws)) :: (rwM rws ++ fr)) → Has ro hp q.r (strO q.l) := fun H => H.has (.tail _ (.tail _ (.tail _ (.tail _ (List.mem_append_left _ hqh)))))
    refine ⟨.str, ⟨_, rfl⟩, rfl, ?_⟩
    refine ⟨q.l, hqH h, hsum, ?_⟩
    refine ⟨.inl ⟨ow, h.has (.head _), by (first | exact Mine.fu rfl | exact Mine.lm0 (by assumption) rfl | omega), ?_⟩⟩
    refine ⟨fun hb => ?_, fun hb => ?_⟩
    · have hb : ow.contains (joinS q.l) = false := by unfold joinS; simpa using hb
      refine ⟨.list, ⟨own, _, rfl, h.has (.head _)⟩, rfl, ?_⟩
      refine ⟨.str, ⟨_, rfl⟩, rfl, ?_⟩
      refine ⟨q.l, hqH h, hsum, ?_⟩
      have e5 : ownA ow q.l = ow ++ [joinS q.l] := by unfold ownA; rw [if_neg (by rw [hb]; decide)]
      rw [e5] at tl
      refine h.wrK (strO (ow ++ [joinS q.l])) fun hp3 W3 H3 => ?_
      rw [strO_snoc] at W3
      refine ⟨_, hp3, W3, by (first | exact Mine.lm2 (by assumption) rfl | exact Mine.lm (by assumption) rfl | exact Mine.lm0 (by assumption) rfl | (simp; omega)), ?_⟩
      exact Bnil (tl (by (first | exact Mine.fu rfl | exact Mine.lm0 (by assumption) rfl | omega)) H3)
    · have hb : ow.contains (joinS q.l) = true := by unfold joinS; simpa using hb
      have e5 : ownA ow q.l = ow := by unfold ownA; rw [if_pos hb]
      rw [e5] at tl
      exact Bnil (tl (by (first | exact Mine.fu rfl | exact Mine.lm0 (by assumption) rfl | omega)) h)
  · rw [List.length_map, List.length_map, List.take_length] at h
    exact law_written (by (first | exact Mine.fu rfl | exact Mine.lm0 (by assumption) rfl | omega)) hT hR (fr := (own, strO (ownL (rwL rws))) :: fr) (Sh.drop (o2 := (rw, strO opsL) :: (rr, .froz o (rwO rws)) :: rwM rws) (h.perm (by exact pm [_, _, _, _] [_, _] (.c 0 (.c 1 (.c 2 (.c 3 (.a (.l 0) (.l 1)))))) (.a (.c 1 (.c 0 (.l 1))) (.c 2 (.c 3 (.l 0)))) rfl))) h0
/-- the first ten statements -/
theorem law_start {N : Nat} (hN : 125 ≤ N) {ro : HP} (hT : (135, toksO) ∈ ro) {a : Addr} {L : List Int} (hL : L.length ≤ 63) (hro : (a, AO.list (L.map .int)) ∈ ro) {k : Fl → AS → Prop}
    (h0 : ∀ M R rr rw own num wt ws hp', 110 ≤ M → Rws R → Sh hp' [(ws, strO (ownL R)), (own, strO (ownL R))] → (sem M).B (lawP ro) ((bodyOf 173).drop 10) ⟨[("script", .ref a), ("rows", .ref rr), ("row", .ref rw), ("own", .ref own), ("numbers", .ref num), ("written", .ref wt), ("words", .ref ws), ("word", .str "")], hp'⟩ k) :
    (sem N).B (lawP ro) (bodyOf 173) ⟨[("script", .ref a)], []⟩ k := by
  obtain ⟨n, rfl⟩ := pull hN
  refine ⟨code_sem (by (first | exact Mine.fu rfl | exact Mine.lm0 (by assumption) rfl | omega)) hL hro (Sh.nil _) fun rr one rws hp1 hone h3 h4 hrw H1 => ?_⟩
  refine ⟨ops_sem (by (first | exact Mine.fu rfl | exact Mine.lm0 (by assumption) rfl | omega)) fun rw => ?_⟩
  refine ⟨Nat.zero_le _, fun own => ?_⟩
  refine ⟨Nat.zero_le _, fun num => ?_⟩
  have hR : Rws (rwL rws) := by
    refine ⟨by unfold rwL; rw [List.length_map]; exact h4, fun l hl => ?_, fun l hl s hs => ?_⟩
    · obtain ⟨q, hq, rfl⟩ := List.mem_map.mp hl
      exact ⟨(hrw q hq).1, (hrw q hq).2.1⟩
    · obtain ⟨q, hq, rfl⟩ := List.mem_map.mp hl
      exact sign_facts.1 one hone s ((hrw q hq).2.2 s hs)
  have H2 := ((H1.push (r := rw) (x := strO opsL)).push (r := own) (x := strO [])).push (r := num) (x := intO [])
  exact law_rows (by (first | exact Mine.fu rfl | exact Mine.lm0 (by assumption) rfl | omega)) hT hR (fr := []) (H2.perm (o2 := (rr, rwO rws) :: (rw, strO opsL) :: (own, strO []) :: (num, intO []) :: (rwM rws ++ [])) (by exact pm [_, _, _, _] [_] (.c 0 (.c 1 (.c 2 (.c 3 (.a (.l 0) .n))))) (.c 3 (.c 2 (.c 1 (.c 0 (.a (.l 0) .n))))) rfl)) fun M wt ws hp' hM H' => h0 M _ rr rw own num wt ws hp' hM hR H'
end Mine
end

section
open PySem PySem.W PyProof.Rows PySem.Calls PySem.Spec
set_option maxRecDepth 100000
set_option maxHeartbeats 2000000
namespace Mine

structure Ad where
  a : Addr
  rr : Addr
  rw : Addr
  own : Addr
  num : Addr
  wt : Addr
  ws : Addr
noncomputable def L8 (A : Ad) (x : AV) : List (Str × AV) := [("script", .ref A.a), ("rows", .ref A.rr), ("row", .ref A.rw), ("own", .ref A.own), ("numbers", .ref A.num), ("written", .ref A.wt), ("words", .ref A.ws), ("word", x)]
noncomputable abbrev L9 (A : Ad) (x : AV) (g wl : Addr) : List (Str × AV) := [("script", .ref A.a), ("rows", .ref A.rr), ("row", .ref A.rw), ("own", .ref A.own), ("numbers", .ref A.num), ("written", .ref A.wt), ("words", .ref A.ws), ("word", x), ("graph", .ref g), ("waiting", .ref wl)]
theorem sw_len {x y : Str} (h : Txt.startswith x y = true) : y.length ≤ x.length := by
  have := ((startswith_iff x y).mp h).length_le
  rw [len_toList, len_toList] at this; exact this

noncomputable def fxS : List Stmt := (inFor ((inFor ((bodyOf 173).drop 12)).drop 1)).drop 2
noncomputable abbrev L10 (A : Ad) (x : AV) (g wl : Addr) (t : Str) : List (Str × AV) := [("script", .ref A.a), ("rows", .ref A.rr), ("row", .ref A.rw), ("own", .ref A.own), ("numbers", .ref A.num), ("written", .ref A.wt), ("words", .ref A.ws), ("word", x), ("graph", .ref g), ("waiting", .ref wl), ("tail", .str t)]
/-- `waiting.extend(graph[tail])` -/
theorem graph_push {N : Nat} (hN : 30 ≤ N) {ro fr hp : HP} {A : Ad} {x : AV} {g wl r1 : Addr} {es : List Ge} {t : Str} {S Q : List Str} (hlk : (es.map fun e => (e.v, AV.ref e.l)).lookup t = some (.ref r1)) (hl : Q.length + S.length ≤ 1000) (H : Sh hp ((wl, strO Q) :: (g, geD es) :: (r1, strO S) :: fr)) {k : Fl → AS → Prop}
    (h0 : ∀ hp', Sh hp' ((wl, strO (Q ++ S)) :: (g, geD es) :: (r1, strO S) :: fr) → k .next ⟨L10 A x g wl t, hp'⟩) :
    (sem N).B (lawP ro) fxS ⟨L10 A x g wl t, hp⟩ k := by
  obtain ⟨n, rfl⟩ := pull hN
  have h64 : 1000 ≤ lim := by decide
  refine ⟨.list, ⟨wl, _, rfl, H.has (.head _)⟩, rfl, ?_⟩
  refine ⟨_, _, H.has (.tail _ (.head _)), hlk, ?_⟩
  refine H.wrK (strO (Q ++ S)) fun hp9 W9 H9 => ?_
  have e : strO (Q ++ S) = .list (Q.map .str ++ S.map .str) := by unfold strO; rw [List.map_append]
  rw [e] at W9
  exact ⟨_, _, hp9, .inl (H.has (.tail _ (.tail _ (.head _)))), W9, by (simp; exact lin [_, _, _] (.le (.a (.v 0) (.v 1)) (.v 2)) 1 (.c 1 (.le (.a (.v 0) (.v 1)) (.n 1000)) (.c 1 (.le (.n 1000) (.v 2)) .e)) (Eq.refl true) hl h64), h0 _ H9⟩
noncomputable def fyS : List Stmt := inFor ((inFor ((inFor ((bodyOf 173).drop 12)).drop 1)).drop 1)
/-- the loop over the words -/
theorem graph_for {N : Nat} (hN : 60 ≤ N) {ro fr hp : HP} {W : List Str} (ok : Wok W) {A : Ad} {x : AV} {g wl r1 : Addr} {es : List Ge} {t : Str} (ht : t ≠ "") (ht12 : t.length ≤ 1000) (hlk : (es.map fun e => (e.v, AV.ref e.l)).lookup t = some (.ref r1)) (H : Sh hp ((A.ws, strO W) :: (r1, strO []) :: (g, geD es) :: fr)) {k : Fl → AS → Prop}
    (h0 : ∀ x hp', Sh hp' ((A.ws, strO W) :: (r1, strO (succ W t)) :: (g, geD es) :: fr) → k .next ⟨L10 A x g wl t, hp'⟩) :
    (sem N).B (lawP ro) fyS ⟨L10 A x g wl t, hp⟩ k := by
  obtain ⟨n, rfl⟩ := pull hN
  have h64 : 1000 ≤ lim := by decide
  have hWl := ok.len
  have es1 : ∀ V : List Str, (V.flatMap fun w => if t ≠ "" then restL t w else []) = V.flatMap fun w => restL t w := fun V => by
    congr 1; funext w; rw [if_pos ht]
  obtain ⟨hf, hw⟩ := H.freeze
  refine ⟨.inr ⟨strO W, (W.map AV.str).map (fun v => [v]), hf, rfl, by (first | exact Mine.lm2 (by assumption) rfl | exact Mine.lm (by assumption) rfl | exact Mine.lm0 (by assumption) rfl | (simp; omega)), fun o => (hw o).1, fun o => ?_⟩⟩
  have H1 := (hw o).2
  clear hw
  refine ⟨fun i σ => ∃ x, At (L10 A x g wl t) (fun hp => Sh hp ((A.ws, .froz o (strO W)) :: (r1, strO ((W.take i).flatMap fun w => restL t w)) :: (g, geD es) :: fr)) σ,
    ⟨x, .mk H1⟩, fun i _ h => ?_, fun i us _ hi h kX X => ?_, fun _ h => ?_⟩
  · obtain ⟨x, ⟨h⟩⟩ := h
    exact h.memF (.head _)
  · obtain ⟨x, ⟨h⟩⟩ := h
    apply items_strK hi; intro w hw
    have hw12 := (ok.w w (List.mem_of_getElem? hw)).2
    have hpl : ((W.take i).flatMap fun w => restL t w).length ≤ 4 := by
      have h1 := flat_len (f := fun w : Str => restL t w) (c := 1) (l := W.take i) fun b _ => rest_len _ _
      have h2 := (List.take_sublist i W).length_le
      exact lin [_, _, _] (.le (.v 0) (.n 4)) 1 (.c 1 (.le (.v 1) (.n 4)) (.c 1 (.le (.v 0) (.m 1 (.v 2))) (.c 1 (.le (.v 2) (.v 1)) .e))) (Eq.refl true) hWl h1 h2
    have e0 := fm_take (f := fun w => restL t w) hw
    refine ⟨.str, ⟨_, rfl⟩, rfl, ?_⟩
    refine ⟨fun hb => ?_, fun hb => ?_⟩
    · have hlen := sw_len hb
      have e1 : restL t w = [sdrop t w.length] := by rw [rest_sw, if_pos hb]
      refine ⟨_, _, h.has (.tail _ (.tail _ (.head _))), hlk, ?_⟩
      refine ⟨.list, ⟨r1, _, rfl, h.has (.tail _ (.head _))⟩, rfl, ?_⟩
      refine ⟨by exact lin [_, _] (.le (.v 0) (.v 1)) 1 (.c 1 (.le (.n 1000) (.v 1)) (.c 1 (.le (.v 0) (.n 12)) .e)) (Eq.refl true) h64 hw12, ?_⟩
      refine ⟨w.length, rfl, hlen, by (first | exact Mine.fu rfl | exact Mine.lm0 (by assumption) rfl | omega), ?_⟩
      refine (h.perm (List.Perm.swap ..)).wrK (strO (((W.take i).flatMap fun w => restL t w) ++ [sdrop t w.length])) fun hp3 W3 H3 => ?_
      rw [strO_snoc] at W3
      refine ⟨_, hp3, W3, by (first | exact Mine.lm2 (by assumption) rfl | exact Mine.lm (by assumption) rfl | exact Mine.lm0 (by assumption) rfl | (simp; omega)), X.next [] _ ⟨_, .mk ?_⟩⟩
      rw [e0, e1]
      exact H3.perm (List.Perm.swap ..)
    · refine ⟨.str, ⟨_, rfl⟩, rfl, ?_⟩
      refine ⟨fun hb2 => ?_, fun hb2 => ?_⟩
      · have hlen := sw_len hb2
        have e1 : restL t w = [sdrop w t.length] := by rw [rest_sw, if_neg (by rw [show Txt.startswith t w = false from hb]; decide), if_pos hb2]
        refine ⟨_, _, h.has (.tail _ (.tail _ (.head _))), hlk, ?_⟩
        refine ⟨.list, ⟨r1, _, rfl, h.has (.tail _ (.head _))⟩, rfl, ?_⟩
        refine ⟨by exact lin [_, _, _] (.le (.v 0) (.v 1)) 1 (.c 1 (.le (.n 1000) (.v 1)) (.c 1 (.le (.v 2) (.n 12)) (.c 1 (.le (.v 0) (.v 2)) .e))) (Eq.refl true) h64 hw12 hlen, ?_⟩
        refine ⟨t.length, rfl, hlen, by (first | exact Mine.fu rfl | exact Mine.lm0 (by assumption) rfl | omega), ?_⟩
        refine (h.perm (List.Perm.swap ..)).wrK (strO (((W.take i).flatMap fun w => restL t w) ++ [sdrop w t.length])) fun hp3 W3 H3 => ?_
        rw [strO_snoc] at W3
        refine ⟨_, hp3, W3, by (first | exact Mine.lm2 (by assumption) rfl | exact Mine.lm (by assumption) rfl | exact Mine.lm0 (by assumption) rfl | (simp; omega)), X.next [] _ ⟨_, .mk ?_⟩⟩
        rw [e0, e1]
        exact H3.perm (List.Perm.swap ..)
      · have e1 : restL t w = [] := by rw [rest_sw, if_neg (by rw [show Txt.startswith t w = false from hb]; decide), if_neg (by rw [show Txt.startswith w t = false from hb2]; decide)]
        refine X.next [] _ ⟨_, .mk ?_⟩
        rw [e0, e1, List.append_nil]
        exact h
  · obtain ⟨x, ⟨h⟩⟩ := h
    rw [List.length_map, List.length_map, List.take_length] at h
    refine h0 x _ ?_
    have e2 : succ W t = W.flatMap fun w => restL t w := es1 W
    rw [e2]
    exact h.thaw rfl

/-- the graph's closing -/
theorem graph_while {N : Nat} (hN : 101 ≤ N) {ro fr hp : HP} {W Q0 : List Str} (ok : Wok W) {A : Ad} {x0 : AV} {g wl : Addr} (hQ : ∀ x, x ∈ Q0 ↔ x ∈ initL W) (hQl : Q0.length ≤ 16) (H : Sh hp ((g, geD []) :: (wl, strO Q0) :: (A.ws, strO W) :: fr)) {k : Fl → AS → Prop}
    (h0 : ∀ M x es hp', 100 ≤ M → Wk W es [] → Sh hp' ((g, geD es) :: (A.ws, strO W) :: (geM es ++ fr)) → (sem M).B (lawP ro) ((bodyOf 173).drop 13) ⟨L9 A x g wl, hp'⟩ k) :
    (sem N).B (lawP ro) ((bodyOf 173).drop 12) ⟨L9 A x0 g wl, hp⟩ k := by
  obtain ⟨n, rfl⟩ := pull hN
  have h64 : 1000 ≤ lim := by decide
  refine ⟨fun m σ => ∃ x, At (L9 A x g wl) (fun hp => ∃ es Q, m = (64 - es.length) * 8 + Q.length ∧ Wk W es Q ∧ Sh hp ((wl, strO Q) :: (g, geD es) :: (A.ws, strO W) :: (geM es ++ fr))) σ,
    ⟨_, x0, .mk ⟨[], Q0, rfl, Wk.start hQ hQl, H.perm (by exact pm [_, _, _] [_] (.c 0 (.c 1 (.c 2 (.l 0)))) (.c 1 (.c 0 (.c 2 (.a .n (.l 0))))) rfl)⟩⟩, ?_⟩
  rintro m _ ⟨x, ⟨es, Q, rfl, K, H1⟩⟩ kX X
  have hel := K.el ok
  have hql := K.ql
  refine ⟨Nat.zero_le _, fun r0 => ?_⟩
  have H2 := H1.push (r := r0) (x := strO [])
  refine ⟨.inl ⟨Q, [], H2.has (.tail _ (.head _)), H2.has (.head _), by exact lin [_, _, _] (.le (.v 0) (.v 1)) 1 (.c 1 (.le (.n 1000) (.v 1)) (.c 4 (.le (.v 2) (.n 48)) (.c 1 (.le (.v 0) (.a (.n 16) (.m 4 (.v 2)))) .e))) (Eq.refl true) h64 hel hql, Nat.zero_le _, ?_⟩⟩
  refine ⟨fun hb => ?_, fun hb => ?_⟩
  · have hne : Q ≠ [] := by simpa using hb
    obtain ⟨Q, t, rfl⟩ : ∃ Q' t, Q = Q' ++ [t] := ⟨_, _, (List.dropLast_concat_getLast hne).symm⟩
    simp only [List.length_append, List.length_singleton] at hql
    refine ⟨.list, ⟨wl, _, rfl, H2.has (.tail _ (.head _))⟩, rfl, ?_⟩
    refine (H2.perm (o2 := (wl, strO (Q ++ [t])) :: (g, geD es) :: (A.ws, strO W) :: (geM es ++ (fr ++ [(r0, strO [])]))) (by exact pm [_, _, _, _] [_, _] (.c 0 (.c 1 (.c 2 (.c 3 (.a (.l 0) (.l 1)))))) (.c 1 (.c 2 (.c 3 (.a (.l 0) (.a (.l 1) (.c 0 .n)))))) rfl)).wrK (strO Q) fun hp3 W3 H3 => ?_
    refine ⟨Q.map .str, .str t, hp3, by rw [strO_snoc] at W3; exact W3, by (simp; exact lin [_, _, _] (.le (.v 0) (.v 1)) 1 (.c 1 (.le (.n 1000) (.v 1)) (.c 4 (.le (.v 2) (.n 48)) (.c 1 (.le (.a (.v 0) (.n 1)) (.a (.n 16) (.m 4 (.v 2)))) .e))) (Eq.refl true) h64 hel hql), ?_⟩
    refine ⟨.inr (.inl ⟨_, H3.has (.tail _ (.head _)), ?_⟩)⟩
    rcases lk_map (l := es) (·.v) (fun e => AV.ref e.l) t with ⟨hno, hnk⟩ | ⟨e, hem, rfl, hlk⟩
    · rw [hno]
      refine ⟨fun _ => ?_, fun hf => (nomatch hf)⟩
      refine ⟨Nat.zero_le _, fun r1 => ?_⟩
      have H4 := H3.push (r := r1) (x := strO [])
      refine (H4.perm (o2 := (g, geD es) :: (r1, strO []) :: (A.ws, strO W) :: (wl, strO Q) :: (geM es ++ (fr ++ [(r0, strO [])]))) (by exact pm [_, _, _, _, _] [_, _] (.c 0 (.c 1 (.c 2 (.c 3 (.a (.l 0) (.a (.l 1) (.c 4 .n))))))) (.c 2 (.c 0 (.c 3 (.c 1 (.a (.l 0) (.a (.l 1) (.c 4 .n))))))) rfl)).wrK (geD (es ++ [⟨t, succ W t, r1⟩])) fun hp8 W8 H8 => ?_
      rw [geD_snoc hno] at W8
      refine ⟨_, hp8, W8, by (first | exact Mine.lm2 (by assumption) rfl | exact Mine.lm (by assumption) rfl | exact Mine.lm0 (by assumption) rfl | (simp; omega)), ?_⟩
      have ht12 : t.length ≤ 1000 := by have := Us_wd ok (Rch_Us ok (K.rq t (List.mem_append_right _ (.head _)))); exact lin [_] (.le (.v 0) (.n 1000)) 1 (.c 1 (.le (.v 0) (.n 12)) .e) (Eq.refl true) this
      have hsl := succ_len ok t
      have K2 := K.new (l := r1) ok hnk
      have hlk := geD_lk K2.nd (e := ⟨t, succ W t, r1⟩) (List.mem_append_right _ (.head _))
      have e1 : geM (es ++ [⟨t, succ W t, r1⟩]) = geM es ++ [(r1, strO (succ W t))] := by unfold geM; rw [List.map_append]; rfl
      have hdec : (64 - (es ++ [(⟨t, succ W t, r1⟩ : Ge)]).length) * 8 + (Q ++ succ W t).length < (64 - es.length) * 8 + (Q ++ [t]).length := by
        simp only [List.length_append, List.length_singleton]; exact lin [_, _, _, _, _] (.lt (.a (.w (.v 0) 8) (.a (.v 1) (.v 2))) (.a (.w (.v 3) 8) (.a (.v 1) (.n 1)))) 1 (.c 1 (.le (.v 2) (.n 4)) (.c 8 (.eq (.a (.v 0) (.a (.v 4) (.n 1))) (.n 64)) (.c 8 (.qe (.a (.v 3) (.v 4)) (.n 64)) .e))) (Eq.refl true) hsl (Nat.sub_add_cancel (lin [_] (.le (.a (.v 0) (.n 1)) (.n 64)) 1 (.c 1 (.le (.v 0) (.n 48)) .e) (Eq.refl true) hel)) (Nat.sub_add_cancel (lin [_] (.le (.v 0) (.n 64)) 1 (.c 1 (.le (.v 0) (.n 48)) .e) (Eq.refl true) hel))
      have hfin : ∀ hp', Sh hp' ((wl, strO (Q ++ succ W t)) :: (g, geD (es ++ [⟨t, succ W t, r1⟩])) :: (r1, strO (succ W t)) :: (A.ws, strO W) :: (geM es ++ (fr ++ [(r0, strO [])]))) →
          Sh hp' ((wl, strO (Q ++ succ W t)) :: (g, geD (es ++ [⟨t, succ W t, r1⟩])) :: (A.ws, strO W) :: (geM (es ++ [⟨t, succ W t, r1⟩]) ++ fr)) := fun hp' H' => Sh.drop (o2 := [(r0, strO [])]) (H'.perm (by rw [e1]; exact pm [_, _, _, _, _] [_, _] (.c 0 (.c 1 (.c 2 (.c 3 (.a (.l 0) (.a (.l 1) (.c 4 .n))))))) (.a (.c 0 (.c 1 (.c 3 (.a (.a (.l 0) (.c 2 .n)) (.l 1))))) (.c 4 .n)) rfl))
      refine ⟨fun hb => ?_, fun hb => ?_⟩
      · have hb : t ≠ "" := by simpa using hb
        refine graph_for (by (first | exact Mine.fu rfl | exact Mine.lm0 (by assumption) rfl | omega)) ok hb ht12 hlk (fr := (wl, strO Q) :: (geM es ++ (fr ++ [(r0, strO [])]))) (H8.perm (by exact pm [_, _, _, _, _] [_, _] (.c 0 (.c 1 (.c 2 (.c 3 (.a (.l 0) (.a (.l 1) (.c 4 .n))))))) (.c 2 (.c 1 (.c 0 (.c 3 (.a (.l 0) (.a (.l 1) (.c 4 .n))))))) rfl)) fun x hp' H9 => ?_
        exact graph_push (by (first | exact Mine.fu rfl | exact Mine.lm0 (by assumption) rfl | omega)) hlk (by exact lin [_, _, _] (.le (.a (.v 0) (.v 1)) (.n 1000)) 1 (.c 4 (.le (.v 2) (.n 48)) (.c 1 (.le (.a (.v 0) (.n 1)) (.a (.n 16) (.m 4 (.v 2)))) (.c 1 (.le (.v 1) (.n 4)) .e))) (Eq.refl true) hel hql hsl) (fr := (A.ws, strO W) :: (geM es ++ (fr ++ [(r0, strO [])]))) (H9.perm (by exact pm [_, _, _, _, _] [_, _] (.c 0 (.c 1 (.c 2 (.c 3 (.a (.l 0) (.a (.l 1) (.c 4 .n))))))) (.c 3 (.c 2 (.c 1 (.c 0 (.a (.l 0) (.a (.l 1) (.c 4 .n))))))) rfl)) fun hp' H' => (X.next ["tail"] _ ⟨_, hdec, x, .mk ⟨_, _, rfl, K2, hfin hp' H'⟩⟩)
      · have hb : ¬ t ≠ "" := by simpa using hb
        have e2 : succ W t = [] := by
          have : ∀ V : List Str, (V.flatMap fun w => if t ≠ "" then restL t w else []) = [] := fun V => List.flatMap_eq_nil_iff.mpr fun w _ => if_neg hb
          exact this W
        exact Bnil (graph_push (by (first | exact Mine.fu rfl | exact Mine.lm0 (by assumption) rfl | omega)) hlk (by exact lin [_, _, _] (.le (.a (.v 0) (.v 1)) (.n 1000)) 1 (.c 4 (.le (.v 2) (.n 48)) (.c 1 (.le (.a (.v 0) (.n 1)) (.a (.n 16) (.m 4 (.v 2)))) (.c 1 (.le (.v 1) (.n 4)) .e))) (Eq.refl true) hel hql hsl) (fr := (A.ws, strO W) :: (geM es ++ (fr ++ [(r0, strO [])]))) (H8.perm (by rw [e2]; exact pm [_, _, _, _, _] [_, _] (.c 0 (.c 1 (.c 2 (.c 3 (.a (.l 0) (.a (.l 1) (.c 4 .n))))))) (.c 3 (.c 0 (.c 1 (.c 2 (.a (.l 0) (.a (.l 1) (.c 4 .n))))))) rfl)) fun hp' H' => (X.next ["tail"] _ ⟨_, hdec, x, .mk ⟨_, _, rfl, K2, hfin hp' H'⟩⟩))
    · rw [hlk]
      refine ⟨fun hf => (nomatch hf), fun _ => ?_⟩
      refine (X.next ["tail"] _ ⟨_, ?_, x, .mk ⟨es, Q, rfl, K.skip (List.mem_map_of_mem hem), Sh.drop (o2 := [(r0, strO [])]) (H3.perm (by exact pm [_, _, _, _] [_, _] (.c 0 (.c 1 (.c 2 (.a (.l 0) (.a (.l 1) (.c 3 .n)))))) (.a (.c 0 (.c 1 (.c 2 (.a (.l 0) (.l 1))))) (.c 3 .n)) rfl))⟩⟩)
      rw [List.length_append]; exact Nat.lt_succ_self _
  · have hQ : Q = [] := by simpa using hb
    subst hQ
    exact Bnil (h0 _ x es _ (by (first | exact Mine.fu rfl | exact Mine.lm0 (by assumption) rfl | omega)) K (Sh.drop (o2 := [(r0, strO []), (wl, strO [])]) (H2.perm (by exact pm [_, _, _, _] [_, _] (.c 0 (.c 1 (.c 2 (.c 3 (.a (.l 0) (.l 1)))))) (.a (.c 2 (.c 3 (.a (.l 0) (.l 1)))) (.c 0 (.c 1 .n))) rfl))))

noncomputable def q0 (W : List Str) : List Str := W.flatMap fun a => W.flatMap fun b => if a ≠ b ∧ Txt.startswith b a = true then [sdrop b a.length] else []
theorem q0_init {W : List Str} (x : Str) : x ∈ q0 W ↔ x ∈ initL W := by
  have key : ∀ (f : Str → Str → List Str) x, x ∈ (W.flatMap fun a => W.flatMap fun b => f a b) ↔ ∃ a ∈ W, ∃ b ∈ W, x ∈ f a b := fun f x => by
    rw [List.mem_flatMap]
    constructor
    · rintro ⟨a, ha, h⟩
      obtain ⟨b, hb, h⟩ := List.mem_flatMap.mp h
      exact ⟨a, ha, b, hb, h⟩
    · rintro ⟨a, ha, b, hb, h⟩
      exact ⟨a, ha, List.mem_flatMap.mpr ⟨b, hb, h⟩⟩
  unfold q0 initL
  rw [key fun a b => if a ≠ b ∧ Txt.startswith b a = true then [sdrop b a.length] else [], key fun a b => if a ≠ b then restL a b else []]
  constructor
  · rintro ⟨a, ha, b, hb, h⟩
    split at h
    · rename_i hs
      refine ⟨a, ha, b, hb, ?_⟩
      rw [if_pos hs.1, rest_sw]
      by_cases h2 : Txt.startswith a b = true
      · exact absurd (str_ext (((startswith_iff b a).mp hs.2).eq_of_length_le ((startswith_iff a b).mp h2).length_le)) hs.1
      · rw [if_neg h2, if_pos hs.2]; exact h
    · cases h
  · rintro ⟨a, ha, b, hb, h⟩
    split at h
    · rename_i hs
      rw [rest_sw] at h
      split at h
      · rename_i h2
        exact ⟨b, hb, a, ha, by rw [if_pos ⟨Ne.symm hs, h2⟩]; exact h⟩
      · split at h
        · rename_i h2
          exact ⟨a, ha, b, hb, by rw [if_pos ⟨hs, h2⟩]; exact h⟩
        · cases h
    · cases h
theorem q0_in (V : List Str) (a : Str) : (V.flatMap fun b => if a ≠ b ∧ Txt.startswith b a = true then [sdrop b a.length] else []).length ≤ 1 * V.length := flat_len fun b _ => by
  split
  · exact Nat.le_refl _
  · exact Nat.zero_le _
theorem q0_len {W : List Str} (ok : Wok W) : (q0 W).length ≤ 16 := by
  have h := ok.len
  have := flat_len (f := fun a : Str => W.flatMap fun b => if a ≠ b ∧ Txt.startswith b a = true then [sdrop b a.length] else []) (c := 4) (l := W) fun a _ => by have := q0_in W a; exact lin [_, _] (.le (.v 0) (.n 4)) 1 (.c 1 (.le (.v 1) (.n 4)) (.c 1 (.le (.v 0) (.m 1 (.v 1))) .e)) (Eq.refl true) h this
  unfold q0; exact lin [_, _] (.le (.v 0) (.n 16)) 1 (.c 4 (.le (.v 1) (.n 4)) (.c 1 (.le (.v 0) (.m 4 (.v 1))) .e)) (Eq.refl true) h this
end Mine
end

section
open PySem PySem.W PyProof.Rows PySem.Calls PySem.Spec
set_option maxRecDepth 100000
set_option maxHeartbeats 2000000
namespace Mine

/-- the graph -/
theorem law_graph {N : Nat} (hN : 105 ≤ N) {ro fr hp : HP} {W : List Str} (ok : Wok W) {A : Ad} {x0 : AV} (H : Sh hp ((A.ws, strO W) :: fr)) {k : Fl → AS → Prop}
    (h0 : ∀ M x g wl es hp', 100 ≤ M → Wk W es [] → Sh hp' ((g, geD es) :: (A.ws, strO W) :: (geM es ++ fr)) → (sem M).B (lawP ro) ((bodyOf 173).drop 13) ⟨L9 A x g wl, hp'⟩ k) :
    (sem N).B (lawP ro) ((bodyOf 173).drop 10) ⟨L8 A x0, hp⟩ k := by
  obtain ⟨n, rfl⟩ := pull hN
  have h64 : 1000 ≤ lim := by decide
  have hWl := ok.len
  refine ⟨.inl fun g => ?_⟩
  have H0 := H.push (r := g) (x := geD [])
  obtain ⟨hf, hw⟩ := (H0.perm (List.Perm.swap ..)).freeze
  refine ⟨.inr ⟨strO W, (W.map AV.str).map (fun v => [v]), hf, rfl, by (first | exact Mine.lm2 (by assumption) rfl | exact Mine.lm (by assumption) rfl | exact Mine.lm0 (by assumption) rfl | (simp; omega)), fun o => (hw o).1, fun o wl => ?_⟩⟩
  have H4 := (hw o).2.push (r := wl) (x := strO [])
  clear hw
  refine ⟨fun i => At [("words", .ref A.ws)] fun hp => Sh hp ((wl, strO ((W.take i).flatMap fun a => W.flatMap fun b => if a ≠ b ∧ Txt.startswith b a = true then [sdrop b a.length] else [])) :: (A.ws, .froz o (strO W)) :: (g, geD []) :: fr),
    .mk H4, fun i => at1 fun _ h => h.memF (.tail _ (.head _)), fun i us => at2 fun _ hi h kX X => ?_, at1 fun _ h => ?_⟩
  · apply items_strK hi; intro a ha
    have ha12 := (ok.w a (List.mem_of_getElem? ha)).2
    refine ⟨fun _ => ?_, fun hf => (nomatch hf)⟩
    refine ⟨.inl (.inl ⟨strO W, (W.map AV.str).map (fun v => [v]), o, h.memF (.tail _ (.head _)), rfl, by (first | exact Mine.lm2 (by assumption) rfl | exact Mine.lm (by assumption) rfl | exact Mine.lm0 (by assumption) rfl | (simp; omega)), ?_⟩)⟩
    refine ⟨fun j => At [("words", .ref A.ws), ("a", .str a)] fun hp => Sh hp ((wl, strO (((W.take i).flatMap fun a => W.flatMap fun b => if a ≠ b ∧ Txt.startswith b a = true then [sdrop b a.length] else []) ++ (W.take j).flatMap fun b => if a ≠ b ∧ Txt.startswith b a = true then [sdrop b a.length] else [])) :: (A.ws, .froz o (strO W)) :: (g, geD []) :: fr),
      .mk (by rw [List.take_zero, List.flatMap_nil, List.append_nil]; exact h), fun i => at1 fun _ h => h.memF (.tail _ (.head _)), fun j us => at2 fun _ hj h kX X => ?_, at1 fun _ h => ?_⟩
    · apply items_strK hj; intro b hb
      have hb12 := (ok.w b (List.mem_of_getElem? hb)).2
      have hpl : (((W.take i).flatMap fun a => W.flatMap fun b => if a ≠ b ∧ Txt.startswith b a = true then [sdrop b a.length] else []) ++ (W.take j).flatMap fun b => if a ≠ b ∧ Txt.startswith b a = true then [sdrop b a.length] else []).length ≤ 100 := by
        have h1 := flat_len (f := fun a : Str => W.flatMap fun b => if a ≠ b ∧ Txt.startswith b a = true then [sdrop b a.length] else []) (c := 4) (l := W.take i) fun a _ => by have := q0_in W a; exact lin [_, _] (.le (.v 0) (.n 4)) 1 (.c 1 (.le (.v 1) (.n 4)) (.c 1 (.le (.v 0) (.m 1 (.v 1))) .e)) (Eq.refl true) hWl this
        have h2 := q0_in (W.take j) a
        have h3 := (List.take_sublist i W).length_le
        have h4 := (List.take_sublist j W).length_le
        rw [List.length_append]; exact lin [_, _, _, _, _] (.le (.a (.v 0) (.v 1)) (.n 100)) 1 (.c 5 (.le (.v 2) (.n 4)) (.c 1 (.le (.v 0) (.m 4 (.v 3))) (.c 1 (.le (.v 1) (.m 1 (.v 4))) (.c 4 (.le (.v 3) (.v 2)) (.c 1 (.le (.v 4) (.v 2)) .e))))) (Eq.refl true) hWl h1 h2 h3 h4
      have e0 := fm_take (f := fun b => if a ≠ b ∧ Txt.startswith b a = true then [sdrop b a.length] else []) hb
      refine ⟨fun hn => ?_, fun hn => ⟨fun hf => (nomatch hf), fun _ => ⟨fun hf => (nomatch hf), fun _ => (X.next ["b"] _ (.mk ?_))⟩⟩⟩
      · have hn : a ≠ b := by simpa using hn
        refine ⟨.str, ⟨_, rfl⟩, rfl, ?_⟩
        refine ⟨fun hs => ?_, fun hs => ⟨fun hf => (nomatch hf), fun _ => ⟨fun hf => (nomatch hf), fun _ => (X.next ["b"] _ (.mk ?_))⟩⟩⟩
        · refine ⟨fun _ => ?_, fun hf => (nomatch hf)⟩
          refine ⟨fun _ => ?_, fun hf => (nomatch hf)⟩
          refine ⟨by (first | exact Mine.fu rfl | exact Mine.lm0 (by assumption) rfl | omega), ?_⟩
          refine ⟨a.length, rfl, sw_len hs, by (first | exact Mine.fu rfl | exact Mine.lm0 (by assumption) rfl | omega), ?_⟩
          rw [if_pos ⟨hn, hs⟩] at e0
          refine h.wrK (strO (((W.take i).flatMap fun a => W.flatMap fun b => if a ≠ b ∧ Txt.startswith b a = true then [sdrop b a.length] else []) ++ ((W.take j).flatMap fun b => if a ≠ b ∧ Txt.startswith b a = true then [sdrop b a.length] else []) ++ [sdrop b a.length])) fun hp6 W6 H6 => ?_
          rw [strO_snoc] at W6
          refine ⟨_, hp6, W6, by (first | exact Mine.lm2 (by assumption) rfl | exact Mine.lm (by assumption) rfl | exact Mine.lm0 (by assumption) rfl | (simp; omega)), X.next ["b"] _ (.mk ?_)⟩
          rw [e0, ← List.append_assoc]; exact H6
        · rw [e0, if_neg (fun z => by rw [show Txt.startswith b a = false from hs] at z; exact nomatch z.2), List.append_nil]; exact h
      · have hn : ¬ a ≠ b := by simpa using hn
        rw [e0, if_neg (fun z => hn z.1), List.append_nil]; exact h
    · rw [List.length_map, List.length_map, List.take_length] at h
      refine (X.next ["a"] _ (.mk ?_))
      rw [fm_take ha]; exact h
  · rw [List.length_map, List.length_map, List.take_length] at h
    exact graph_while (by (first | exact Mine.fu rfl | exact Mine.lm0 (by assumption) rfl | omega)) ok q0_init (q0_len ok) (Q0 := q0 W) ((Sh.thaw (h.perm (List.Perm.swap ..)) rfl).perm (by exact pm [_, _, _] [_] (.c 0 (.c 1 (.c 2 (.l 0)))) (.c 2 (.c 1 (.c 0 (.l 0)))) rfl)) fun M x es hp' hM K H' => h0 M x g wl es hp' hM K H'
end Mine
end

section
open PySem PySem.W PyProof.Rows PySem.Calls PySem.Spec
set_option maxRecDepth 100000
set_option maxHeartbeats 2000000
namespace Mine

/-! ## the order -/
structure Ord (V : List Str) (g : Str → List Str) (r : Nat) (o : List Str) : Prop where
  nd : o.Nodup
  mem : ∀ v, v ∈ o ↔ v ∈ V ∧ ht V g v < r ∧ ht V g v < V.length
  pre : ∀ i v, o[i]? = some v → ∀ x ∈ g v, x ∈ o.take i
section
variable {V : List Str} {g su : Str → List Str}
theorem Ord.nil : Ord V g 0 [] := ⟨.nil, fun v => ⟨fun h => (nomatch h), fun h => absurd h.2.1 (Nat.not_lt_zero _)⟩, fun i v h => by cases h⟩
theorem Ord.len {r : Nat} {o : List Str} (D : Ord V g r o) : o.length ≤ V.length := nodup_len D.nd fun v hv => ((D.mem v).mp hv).1
theorem Ord.step (K : Kn V g su) {r : Nat} {o rs : List Str} {np : Str → Int} (D : Ord V g r o) (R : Rnd V g r np rs) : Ord V g (r + 1) (o ++ rs) := by
  refine ⟨List.nodup_append.mpr ⟨D.nd, R.nd, fun a ha b hb e => ?_⟩, fun v => ?_, fun i v hv x hx => ?_⟩
  · subst e
    have h1 := ((D.mem a).mp ha).2.1
    have h2 := ((R.lv a).mp hb).2.1
    exact lin [_, _] .ff 0 (.c 1 (.lt (.v 0) (.v 1)) (.c 1 (.qe (.v 0) (.v 1)) .e)) (Eq.refl true) h1 h2
  · rw [List.mem_append, D.mem, R.lv]
    constructor
    · rintro (⟨a, b, c⟩ | ⟨a, b, c⟩)
      · exact ⟨a, by exact lin [_, _] (.lt (.v 0) (.a (.v 1) (.n 1))) 1 (.c 1 (.lt (.v 0) (.v 1)) .e) (Eq.refl true) b, c⟩
      · exact ⟨a, by exact lin [_, _] (.lt (.v 0) (.a (.v 1) (.n 1))) 1 (.c 1 (.eq (.v 0) (.v 1)) .e) (Eq.refl true) b, by exact lin [_, _, _] (.lt (.v 0) (.v 1)) 1 (.c 1 (.eq (.v 0) (.v 2)) (.c 1 (.lt (.v 2) (.v 1)) .e)) (Eq.refl true) b c⟩
    · rintro ⟨a, b, c⟩
      by_cases e : ht V g v = r
      · exact .inr ⟨a, e, by exact lin [_, _, _] (.lt (.v 0) (.v 1)) 1 (.c 1 (.lt (.v 2) (.v 1)) (.c 1 (.qe (.v 2) (.v 0)) .e)) (Eq.refl true) c e⟩
      · exact .inl ⟨a, by (first | exact Mine.fu rfl | exact Mine.lm0 (by assumption) rfl | omega), c⟩
  · rcases Nat.lt_or_ge i o.length with z | z
    · rw [List.getElem?_append_left z] at hv
      rw [List.take_append_of_le_length (Nat.le_of_lt z)]
      exact D.pre i v hv x hx
    · rw [List.getElem?_append_right z] at hv
      have hm : v ∈ rs := List.mem_of_getElem? hv
      obtain ⟨a, b, c⟩ := (R.lv v).mp hm
      have h1 := ht_pred (V := V) hx (by exact lin [_, _, _] (.lt (.v 0) (.v 1)) 1 (.c 1 (.eq (.v 0) (.v 2)) (.c 1 (.lt (.v 2) (.v 1)) .e)) (Eq.refl true) b c)
      have h2 : x ∈ o := (D.mem x).mpr ⟨K.cl v a x hx, by exact lin [_, _, _] (.lt (.v 0) (.v 1)) 1 (.c 1 (.eq (.v 2) (.v 1)) (.c 1 (.le (.a (.v 0) (.n 1)) (.v 2)) .e)) (Eq.refl true) b h1, by exact lin [_, _, _, _] (.lt (.v 0) (.v 1)) 1 (.c 1 (.eq (.v 2) (.v 3)) (.c 1 (.lt (.v 3) (.v 1)) (.c 1 (.le (.a (.v 0) (.n 1)) (.v 2)) .e))) (Eq.refl true) b c h1⟩
      rw [List.take_append]
      refine List.mem_append_left _ ?_
      rw [List.take_of_length_le z]; exact h2
theorem all_in (K : Kn V g su) {r : Nat} {np : Str → Int} (R : Rnd V g r np []) (v : Str) (hv : v ∈ V) (hf : ht V g v < V.length) : ht V g v < r := by
  rcases Nat.lt_or_ge (ht V g v) r with z | z
  · exact z
  · obtain ⟨u, hu, e⟩ := hgt_chain K.cl hv (rfl : hgt g V.length v = hgt g V.length v) hf r z
    exact absurd ((R.lv u).mpr ⟨hu, e, Nat.lt_of_le_of_lt z hf⟩) (fun z => nomatch z)
end

noncomputable def fnG : Fn := match gFn with
  | some F => F
  | none => ⟨"", "", default, [], default⟩
noncomputable def fn85 : Fn := match fnAt 85 with
  | some F => F
  | none => ⟨"", "", default, [], default⟩
noncomputable def gSt : List Stmt := inFor (fnG.body.drop 1)
noncomputable def gT : Expr := (spart (fnG.body.drop 1)).1.headD (.Name "" default)
noncomputable def gG : Stmt := gSt.headD (.Pass default)
noncomputable def gD : Stmt := (gSt.drop 2).headD (.Pass default)
noncomputable def tryB : List Stmt := inFor (inFor ((bodyOf 173).drop 16))
noncomputable def tryH : List Stmt := (spart ((bodyOf 173).drop 16)).2.2
noncomputable abbrev L13 (A : Ad) (x : AV) (g wl s od : Addr) (h : Bool) : List (Str × AV) := [("script", .ref A.a), ("rows", .ref A.rr), ("row", .ref A.rw), ("own", .ref A.own), ("numbers", .ref A.num), ("written", .ref A.wt), ("words", .ref A.ws), ("word", x), ("graph", .ref g), ("waiting", .ref wl), ("sorter", .ref s), ("order", .ref od), ("held", .bool h)]
/-- the sorter before round r, and the order so far -/
structure SS (Z : Sf) (g : Str → List Str) (rl od : Addr) (fr : HP) (r : Nat) (np : Str → Int) (rs o : List Str) (hp : HP) : Prop where
  H : Sh hp (Z.all (.ref rl) o.length o.length np ((rl, strO rs) :: (Z.lis ++ ((od, strO o) :: fr))))
  R : Rnd Z.V g r np rs
  O : Ord Z.V g r o
  le : r ≤ Z.V.length
theorem SS.next {Z : Sf} {g : Str → List Str} (K : Kn Z.V g Z.su) {rl od : Addr} {fr : HP} {r : Nat} {np : Str → Int} {rs o : List Str} {hp : HP} (D : SS Z g rl od fr r np rs o hp) (hr : r < Z.V.length) :
    Rnd Z.V g (r + 1) (rs.foldl (dN Z) (rs.foldl (fun np v => setF np v (-1)) np, [])).1 (rs.foldl (dN Z) (rs.foldl (fun np v => setF np v (-1)) np, [])).2 ∧
    (∀ i v, rs[i]? = some v → ((rs.take i).foldl (dN Z) (rs.foldl (fun np v => setF np v (-1)) np, [])).1 v = -1) ∧ Ord Z.V g (r + 1) (o ++ rs) ∧ (∀ v ∈ rs, v ∈ Z.V) := by
  obtain ⟨h1, h2⟩ := set_fold (c := -1) rs np
  obtain ⟨h3, h4⟩ := Rnd.step K D.R hr h1 h2
  exact ⟨h3, h4, D.O.step K D.R, fun v hv => ((D.R.lv v).mp hv).1⟩
theorem gen_loop {n : Nat} (hn : 85 ≤ n) {ro hp fr : HP} {Z : Sf} (ok : Z.Ok) {g : Str → List Str} (K : Kn Z.V g Z.su) {A : Ad} {x : AV} {ga wl rl od : Addr} {np : Str → Int} {rs : List Str} (H : SS Z g rl od fr 0 np rs [] hp) {k : AS → Prop}
    (h0 : ∀ r np o hp', SS Z g rl od fr r np [] o hp' → k ⟨L13 A x ga wl Z.a od false, hp'⟩) :
    genLoop (2 * Z.V.length + 1) (sem n) (lawP ro) ⟨fnG.scope, ro, true, false⟩ "tail" gT gG gD tryB [("self", .ref Z.a)] ⟨L13 A x ga wl Z.a od false, hp⟩ k := by
  obtain ⟨n, rfl⟩ := pull hn
  have h64 : 1000 ≤ lim := by decide
  have hV := ok.len
  refine ⟨fun m lg σ => lg = [(("self" : Str), AV.ref Z.a)] ∧ At (L13 A x ga wl Z.a od false) (fun hp => ∃ r np rs o, m = (Z.V.length - o.length) + (Z.V.length + 1 - r) ∧ SS Z g rl od fr r np rs o hp) σ, ⟨_, ?_, rfl, .mk ⟨0, np, rs, [], rfl, H⟩⟩, ?_⟩
  · simp only [List.length_nil]; exact lin [_, _, _] (.le (.a (.v 0) (.v 1)) (.a (.m 2 (.v 2)) (.n 1))) 1 (.c 1 (.le (.v 0) (.v 2)) (.c 1 (.le (.v 1) (.a (.v 2) (.n 1))) .e)) (Eq.refl true) (lsb _ _) (lsb _ _)
  rintro m _ _ ⟨rfl, ⟨r, np, rs, o, rfl, D⟩⟩
  have hrl : rs.length ≤ 64 := by
    have := nodup_len D.R.nd fun v hv => ((D.R.lv v).mp hv).1
    exact lin [_, _] (.le (.v 0) (.n 64)) 1 (.c 1 (.le (.v 1) (.n 64)) (.c 1 (.le (.v 0) (.v 1)) .e)) (Eq.refl true) hV this
  refine ⟨.inst, ⟨Z.a, Z.d0, _, rfl, Sf.hA D.H, Sf.hB D.H, attrs4⟩, rfl, ?_⟩
  refine ⟨active_sem (by (first | exact Mine.fu rfl | exact Mine.lm0 (by assumption) rfl | omega)) D.H (.head _) (by exact lin [_] (.le (.v 0) (.n 1000)) 1 (.c 1 (.le (.v 0) (.n 64)) .e) (Eq.refl true) hrl) ?_⟩
  have e0 : (decide ((o.length : Int) < o.length) || !rs.isEmpty) = !rs.isEmpty := by rw [decide_eq_false (Int.lt_irrefl _)]; rfl
  rw [e0]
  refine ⟨fun hb => ?_, fun hb => ?_⟩
  · have : rs = [] := by simpa using hb
    subst this
    exact h0 r np o _ D
  · have hne : rs ≠ [] := by simpa using hb
    obtain ⟨v0, hv0⟩ := List.exists_mem_of_ne_nil rs hne
    have hr := ((D.R.lv v0).mp hv0).2.2
    obtain ⟨hR, hout, hO, hsub⟩ := D.next K hr
    have hol := hO.len
    rw [List.length_append] at hol
    refine ⟨.inst, ⟨Z.a, Z.d0, _, rfl, Sf.hA D.H, Sf.hB D.H, attrs4⟩, rfl, ?_⟩
    refine ⟨ready_sem (by (first | exact Mine.fu rfl | exact Mine.lm0 (by assumption) rfl | omega)) ok D.H hsub (by exact lin [_] (.le (.v 0) (.n 1000)) 1 (.c 1 (.le (.v 0) (.n 64)) .e) (Eq.refl true) hrl) fun t hp1 H1 => ?_⟩
    have H2 := Sf.permR H1 (fr' := (rl, strO []) :: (Z.lis ++ ((od, strO o) :: (t, .tuple (rs.map .str)) :: fr))) (by unfold strO; rw [List.map_nil]; exact pm [_, _, _] [_, _] (.c 0 (.c 1 (.a (.l 0) (.c 2 (.l 1))))) (.c 1 (.a (.l 0) (.c 2 (.c 0 (.l 1))))) rfl)
    refine ⟨t, rs.map .str, rfl, Sf.hF H1 (.head _), by (first | exact Mine.lm2 (by assumption) rfl | exact Mine.lm (by assumption) rfl | exact Mine.lm0 (by assumption) rfl | (simp; omega)), (Z.V.length - (o ++ rs).length) + (Z.V.length + 1 - (r + 1)), fun i => At (L13 A x ga wl Z.a od false) fun hp => Sh hp (Z.all (.ref rl) (o.length + rs.length) o.length (rs.foldl (fun np v => setF np v (-1)) np) ((rl, strO []) :: (Z.lis ++ ((od, strO (o ++ rs.take i)) :: (t, .tuple (rs.map .str)) :: fr)))),
      ?_, .mk (by rw [List.take_zero, List.append_nil]; exact H2), fun i => at1 fun _ h => Sf.hF h (.tail _ (List.mem_append_right _ (.tail _ (.head _)))), fun i v => at2 fun _ hi h kX X => ?_, at1 fun _ h kX X => ?_⟩
    · rw [List.length_map, List.length_append]; exact lin [_, _, _, _, _, _, _, _] (.lt (.a (.a (.v 0) (.v 1)) (.v 2)) (.a (.v 3) (.v 4))) 1 (.c 1 (.eq (.a (.v 0) (.a (.v 5) (.v 2))) (.v 6)) (.c 1 (.eq (.a (.v 1) (.a (.v 7) (.n 1))) (.a (.v 6) (.n 1))) (.c 1 (.qe (.a (.v 3) (.v 5)) (.v 6)) (.c 1 (.qe (.a (.v 4) (.v 7)) (.a (.v 6) (.n 1))) .e)))) (Eq.refl true) (Nat.sub_add_cancel (lin [_, _, _] (.le (.a (.v 0) (.v 1)) (.v 2)) 1 (.c 1 (.le (.a (.v 0) (.v 1)) (.v 2)) .e) (Eq.refl true) hol)) (Nat.sub_add_cancel (lin [_, _] (.le (.a (.v 0) (.n 1)) (.a (.v 1) (.n 1))) 1 (.c 1 (.lt (.v 0) (.v 1)) .e) (Eq.refl true) hr)) (Nat.sub_add_cancel (lin [_, _, _] (.le (.v 0) (.v 1)) 1 (.c 1 (.le (.a (.v 0) (.v 2)) (.v 1)) .e) (Eq.refl true) hol)) (Nat.sub_add_cancel (lin [_, _] (.le (.v 0) (.a (.v 1) (.n 1))) 1 (.c 1 (.lt (.v 0) (.v 1)) .e) (Eq.refl true) hr))
    · rw [List.getElem?_map] at hi
      cases hv : rs[i]? with
      | none => rw [hv] at hi; cases hi
      | some v' =>
      rw [hv] at hi; cases hi
      have h' := Sf.permR h (fr' := (od, strO (o ++ rs.take i)) :: (rl, strO []) :: (Z.lis ++ ((t, .tuple (rs.map .str)) :: fr))) (by exact pm [_, _, _] [_, _] (.c 0 (.a (.l 0) (.c 1 (.c 2 (.l 1))))) (.c 1 (.c 0 (.a (.l 0) (.c 2 (.l 1))))) rfl)
      refine ⟨.list, ⟨od, _, rfl, Sf.hF h' (.head _)⟩, rfl, ?_⟩
      refine Sf.setRK h' (strO (o ++ rs.take (i + 1))) fun hp3 W3 H3 => ?_
      rw [take_succ' hv, ← List.append_assoc, strO_snoc] at W3
      have hil := (List.take_sublist i rs).length_le
      exact ⟨_, hp3, W3, by rw [List.length_map, List.length_append]; exact lin [_, _, _, _, _] (.le (.a (.v 0) (.v 1)) (.v 2)) 1 (.c 1 (.le (.n 1000) (.v 2)) (.c 1 (.le (.v 3) (.n 64)) (.c 1 (.le (.a (.v 0) (.v 4)) (.v 3)) (.c 1 (.le (.v 1) (.v 4)) .e)))) (Eq.refl true) h64 hV hol hil, X.next ["tail"] _ (.mk (Sf.permR H3 (by exact pm [_, _, _] [_, _] (.c 0 (.c 1 (.a (.l 0) (.c 2 (.l 1))))) (.c 1 (.a (.l 0) (.c 0 (.c 2 (.l 1))))) rfl)))⟩
    · rw [List.length_map, List.take_length] at h
      refine ⟨⟨Z.a, Z.d0, _, rfl, Sf.hA h, Sf.hB h, attrs4⟩, rfl, ?_⟩
      refine ⟨rs.map .str, .inr (Sf.hF h (.tail _ (List.mem_append_right _ (.tail _ (.head _))))), by (first | exact Mine.lm2 (by assumption) rfl | exact Mine.lm (by assumption) rfl | exact Mine.lm0 (by assumption) rfl | (simp; omega)), ?_⟩
      refine Cl.mk ?_
      refine (?_ : (sem _).C _ 113 (.ref Z.a :: (rs.map .str ++ [])) _ _)
      rw [List.append_nil]
      refine done_sem (by (first | exact Mine.fu rfl | exact Mine.lm0 (by assumption) rfl | omega)) ok (rs := []) h hsub hrl (Nat.zero_le _) hout fun hp' H5 => (X.next ["node_group"] _ ⟨rfl, .mk ⟨r + 1, _, _, o ++ rs, rfl, ⟨?_, hR, hO, hr⟩⟩⟩)
      have ec : (((o ++ rs).length : Nat) : Int) = o.length + rs.length := by rw [List.length_append]; omega
      have H6 := Sf.permR H5 (fr' := (t, .tuple (rs.map .str)) :: (rl, strO (rs.foldl (dN Z) (rs.foldl (fun np v => setF np v (-1)) np, [])).2) :: (Z.lis ++ ((od, strO (o ++ rs)) :: fr))) (by exact pm [_, _, _] [_, _] (.c 0 (.a (.l 0) (.c 1 (.c 2 (.l 1))))) (.c 2 (.c 0 (.a (.l 0) (.c 1 (.l 1))))) rfl)
      rw [ec]
      exact Sf.tlR H6
end Mine
end

section
open PySem PySem.W PyProof.Rows PySem.Calls PySem.Spec
set_option maxRecDepth 100000
set_option maxHeartbeats 2000000
namespace Mine

noncomputable def frO (A : Ad) (W : List Str) (es : List Ge) (g : Addr) : HP := (g, geD es) :: (geM es ++ [(A.ws, strO W), (A.own, strO W)])
structure Zok (W : List Str) (es : List Ge) (Z : Sf) : Prop where
  ok : Z.Ok
  K : Kn Z.V (succ W) Z.su
  mem : ∀ x, x ∈ Z.V ↔ x ∈ es.map (·.v)
theorem zok_of {W : List Str} {es : List Ge} {ns : List Nd} {a d0 m : Addr} (ok : Wok W) (K : Wk W es []) (nd : ndN ns) (ht : triN ns = geT es) : Zok W es (toZ a d0 m ns) ∧ ∀ v ∈ (toZ a d0 m ns).V, (ndf ns v).np = (succ W v).length := by
  obtain ⟨h1, h2, h3⟩ := kn_of ok K nd ht
  have hel := K.el ok
  have hl : (ns.map (·.nm)).length ≤ 48 := Nat.le_trans (nodup_len h1.nd (m := es.map (·.v)) fun x hx => (h3 x).mp hx) (by rw [List.length_map]; exact hel)
  refine ⟨⟨⟨h1.nd, Nat.le_trans hl (by decide), h1.cs, fun v hv => ?_⟩, h1, h3⟩, h2⟩
  obtain ⟨x, hx, rfl⟩ := List.mem_map.mp hv
  have h4 := geT_len (K.ok ok) es.length (x.nm, x.np, x.su) (by rw [List.take_length, ← ht]; exact List.mem_map.mpr ⟨x, hx, rfl⟩)
  refine (?_ : (ndf ns x.nm).su.length ≤ 1000)
  rw [ndf_of nd hx]
  have h4 : x.su.length ≤ 8 * es.length := h4
  exact lin [_, _] (.le (.v 0) (.n 1000)) 1 (.c 8 (.le (.v 1) (.n 48)) (.c 1 (.le (.v 0) (.m 8 (.v 1))) .e)) (Eq.refl true) hel h4
theorem held_true {N : Nat} (hN : 10 ≤ N) {ro hp : HP} {A : Ad} {x : AV} {g wl s od : Addr} {k : Fl → AS → Prop} (F : AS → Prop) (h : F ⟨L13 A x g wl s od true, hp⟩) :
    (sem N).B ⟨scOf 173, ro, false, false⟩ tryH ⟨L13 A x g wl s od false, hp⟩ fun fl σ => match fl with
      | .next => F σ
      | fl => k fl σ := by
  obtain ⟨n, rfl⟩ := pull hN
  exact h
/-- the sorter is made and run -/
theorem law_try {N : Nat} (hN : 100 ≤ N) {ro hp : HP} {W : List Str} (ok : Wok W) {A : Ad} {x : AV} {g wl : Addr} {es : List Ge} (K : Wk W es []) (H : Sh hp ((g, geD es) :: (A.ws, strO W) :: (geM es ++ [(A.own, strO W)]))) {k : Fl → AS → Prop}
    (h0 : ∀ M Z rl od r np o hp', 95 ≤ M → Zok W es Z → SS Z (succ W) rl od (frO A W es g) r np [] o hp' → (∀ v ∈ Z.V, ht Z.V (succ W) v < Z.V.length) → (sem M).B (lawP ro) ((bodyOf 173).drop 17) ⟨L13 A x g wl Z.a od false, hp'⟩ k)
    (h1 : ∀ M Z rl od np rs hp', 95 ≤ M → Zok W es Z → SS Z (succ W) rl od (frO A W es g) 0 np rs [] hp' → (∃ v ∈ Z.V, ht Z.V (succ W) v = Z.V.length) → (sem M).B (lawP ro) ((bodyOf 173).drop 17) ⟨L13 A x g wl Z.a od true, hp'⟩ k) :
    (sem N).B (lawP ro) ((bodyOf 173).drop 13) ⟨L9 A x g wl, hp⟩ k := by
  obtain ⟨n, rfl⟩ := pull hN
  have ep : (es.map Ge.obj) = geM es := rfl
  refine fun s d => ⟨sinit_sem (by (first | exact Mine.fu rfl | exact Mine.lm0 (by assumption) rfl | omega)) (a := s) (d0 := d) (g := g) (es := es) (fr := [(A.ws, strO W), (A.own, strO W)]) (((H.push (r := d) (x := .attrs [])).push (r := s) (x := .inst 130 d)).perm (by rw [ep]; exact pm [_, _, _, _, _] [_] (.c 0 (.c 1 (.c 2 (.c 3 (.a (.l 0) (.c 4 .n)))))) (.c 0 (.c 1 (.c 2 (.a (.l 0) (.c 3 (.c 4 .n)))))) rfl)) (K.ok ok) fun m ns hp1 nd ht H1 => ⟨rfl, ?_⟩⟩
  obtain ⟨zk, hnp⟩ := zok_of (a := s) (d0 := d) (m := m) ok K nd ht
  have H2 := H1.perm (toZ_perm nd)
  refine ⟨Nat.zero_le _, fun od => ?_⟩
  have H3 := Sf.permR (Sf.pushR (b := od) (x := strO []) H2) (fr' := (toZ s d m ns).lis ++ ((od, strO []) :: frO A W es g)) (by exact pm [_, _, _, _] [_, _] (.c 0 (.a (.l 0) (.c 1 (.a (.l 1) (.c 2 (.c 3 .n)))))) (.a (.l 0) (.c 0 (.c 1 (.a (.l 1) (.c 2 (.c 3 .n)))))) rfl)
  have hS : ∀ rl hp', Sh hp' ((toZ s d m ns).all (.ref rl) 0 0 (fun v => (ndf ns v).np) ((rl, .list (((toZ s d m ns).V.filter fun v => decide ((ndf ns v).np = 0)).map .str)) :: ((toZ s d m ns).lis ++ ((od, strO []) :: frO A W es g)))) →
      SS (toZ s d m ns) (succ W) rl od (frO A W es g) 0 (fun v => (ndf ns v).np) ((toZ s d m ns).V.filter fun v => decide ((ndf ns v).np = 0)) [] hp' := fun rl hp' H => ⟨H, Rnd.start' zk.K hnp, Ord.nil, Nat.zero_le _⟩
  refine .gen (e := rfl) (hl := rfl) (h := ?_)
  refine ⟨⟨rfl, rfl, rfl, rfl⟩, 2 * (toZ s d m ns).V.length + 1, s, d, _, rfl, Sf.hA H3, Sf.hB H3, attrs4, fnG, fn85, rfl, rfl, gT, gG, gD, ⟨_, _, _, _, _, _, _, _, rfl, rfl⟩, (bodyOf 85).take 3, prTe, "cycle", ⟨_, _, _, _, _, _, _, _, _, rfl⟩, ?_⟩
  refine prep_sem (N := n + 95) (by (first | exact Mine.fu rfl | exact Mine.lm0 (by assumption) rfl | omega)) zk.ok H3
    (kt := fun hp => (sem (n + 95)).B ⟨scOf 173, ro, false, false⟩ tryH ⟨L13 A x g wl s od false, hp⟩ fun fl σ => match fl with
      | .next => (sem (n + 96)).B (lawP ro) ((bodyOf 173).drop 17) σ k
      | fl => k fl σ)
    (kf := fun hp => genLoop (2 * (toZ s d m ns).V.length + 1) (sem (n + 95)) (lawP ro) ⟨fnG.scope, ro, true, false⟩ "tail" gT gG gD tryB [("self", .ref s)] ⟨L13 A x g wl s od false, hp⟩ fun σ => (sem (n + 96)).B (lawP ro) ((bodyOf 173).drop 17) σ k)
    (fun rl hp' hc H4 => ?_) (fun rl hp' ht H4 => ?_)
  · exact held_true (by (first | exact Mine.fu rfl | exact Mine.lm0 (by assumption) rfl | omega)) (fun σ => (sem (n + 96)).B (lawP ro) ((bodyOf 173).drop 17) σ k) (h1 (n + 96) _ rl od _ _ hp' (by (first | exact Mine.fu rfl | exact Mine.lm0 (by assumption) rfl | omega)) zk (hS rl hp' H4) (cyc_inf zk.K hc))
  · exact gen_loop (by (first | exact Mine.fu rfl | exact Mine.lm0 (by assumption) rfl | omega)) zk.ok zk.K (hS rl hp' H4) fun r np o hp'' S => h0 (n + 96) _ rl od r np o hp'' (by (first | exact Mine.fu rfl | exact Mine.lm0 (by assumption) rfl | omega)) zk S (topo_fin zk.K ht)
end Mine
end

section
open PySem PySem.W PyProof.Rows PySem.Calls PySem.Spec
set_option maxRecDepth 100000
set_option maxHeartbeats 2000000
namespace Mine

noncomputable def toldO (V : List Str) (g : Str → List Str) (o : List Str) : AO := .dict (mapI (o.map fun v => (v, (ht V g v : Int))))
theorem toldO_snoc {V : List Str} {g : Str → List Str} {o : List Str} {v : Str} {c : Int} (h : v ∉ o) (hc : c = ht V g v) : toldO V g (o ++ [v]) = .dict (upd v (.int c) (mapI (o.map fun v => (v, (ht V g v : Int))))) := by
  unfold toldO
  rw [upd_new, hc]
  · unfold mapI; simp
  · unfold mapI
    rw [List.map_map]
    exact (lk_map (l := o) id (fun v => AV.int (ht V g v)) v).elim (·.1) fun ⟨e, he, e1, _⟩ => absurd (e1 ▸ he) h
theorem Zok.len {W : List Str} {es : List Ge} {Z : Sf} (K : Wk W es []) (zk : Zok W es Z) : es.length = Z.V.length := by
  have h1 := nodup_len zk.K.nd (m := es.map (·.v)) fun x hx => (zk.mem x).mp hx
  have h2 := nodup_len K.nd (m := Z.V) fun x hx => (zk.mem x).mpr hx
  rw [List.length_map] at h1 h2; exact Nat.le_antisymm (lin [_, _] (.le (.v 0) (.v 1)) 1 (.c 1 (.le (.v 0) (.v 1)) .e) (Eq.refl true) h2) (lin [_, _] (.le (.v 0) (.v 1)) 1 (.c 1 (.le (.v 0) (.v 1)) .e) (Eq.refl true) h1)
noncomputable abbrev L17 (A : Ad) (x : AV) (g wl s od td : Addr) (h : Bool) : List (Str × AV) := [("script", .ref A.a), ("rows", .ref A.rr), ("row", .ref A.rw), ("own", .ref A.own), ("numbers", .ref A.num), ("written", .ref A.wt), ("words", .ref A.ws), ("word", x), ("graph", .ref g), ("waiting", .ref wl), ("sorter", .ref s), ("order", .ref od), ("held", .bool h), ("told", .ref td)]
noncomputable def ifS : List Stmt × List Stmt := (spart ((bodyOf 173).drop 18)).2
/-- the cycle's side: layer by layer -/
theorem told_held {N : Nat} (hN : 90 ≤ N) {ro hp fr : HP} {Z : Sf} (ok : Z.Ok) {g : Str → List Str} (K : Kn Z.V g Z.su) {es : List Ge} (hes : es.length = Z.V.length) {A : Ad} {x : AV} {ga wl rl od td : Addr} (hg : (ga, geD es) ∈ fr) {np : Str → Int} {rs : List Str}
    (H : SS Z g rl od ((td, toldO Z.V g []) :: fr) 0 np rs [] hp) {k : Fl → AS → Prop}
    (h0 : ∀ np o hp', SS Z g rl od ((td, toldO Z.V g o) :: fr) Z.V.length np [] o hp' → k .next ⟨L17 A x ga wl Z.a od td true, hp'⟩) :
    (sem N).B (lawP ro) ifS.1 ⟨L17 A x ga wl Z.a od td true, hp⟩ k := by
  obtain ⟨n, rfl⟩ := pull hN
  have h64 : 1000 ≤ lim := by decide
  have hV := ok.len
  refine ⟨Nat.zero_le _, fun r0 => ?_⟩
  have H0 := (Sf.pushR (b := r0) (x := strO []) H.H)
  refine ⟨.inl ⟨[], [], Sf.hF H0 (.tail _ (.tail _ (List.mem_append_right _ (.head _)))), Sf.hF H0 (.head _), Nat.zero_le _, Nat.zero_le _, ?_⟩⟩
  refine ⟨fun hf => (nomatch hf), fun _ => ?_⟩
  refine ⟨⟨rfl, rfl⟩, ?_⟩
  refine ⟨.inr (.inr ⟨_, Sf.hF (Sf.tlR H0) (.tail _ (List.mem_append_right _ (.tail _ (.tail _ hg)))), by (simp; exact lin [_, _, _] (.le (.v 0) (.v 1)) 1 (.c 1 (.eq (.v 0) (.v 2)) (.c 1 (.le (.n 1000) (.v 1)) (.c 1 (.le (.v 2) (.n 64)) .e))) (Eq.refl true) hes h64 hV), ?_⟩)⟩
  refine ⟨⟨by (first | exact Mine.fu rfl | exact Mine.lm0 (by assumption) rfl | omega), by (simp; exact lin [_, _, _] (.le (.v 0) (.v 1)) 1 (.c 1 (.eq (.v 0) (.v 2)) (.c 1 (.le (.n 1000) (.v 1)) (.c 1 (.le (.v 2) (.n 64)) .e))) (Eq.refl true) hes h64 hV)⟩, ?_⟩
  refine ⟨fun r => At (L17 A x ga wl Z.a od td true) fun hp => ∃ np rs o, SS Z g rl od ((td, toldO Z.V g o) :: fr) r np rs o hp,
    .mk ⟨np, rs, [], ⟨Sf.tlR H0, H.R, H.O, H.le⟩⟩, fun _ _ _ => trivial, fun r us _ hi h kX X => ?_, fun _ h => ?_⟩
  · obtain ⟨np, rs, o, D⟩ := h
    obtain ⟨hr, rfl⟩ : r < Z.V.length ∧ us = [.int (r : Nat)] := by
      rw [List.getElem?_map] at hi
      cases hz : (List.range (Int.toNat (List.map (fun e => (e.v, AV.ref e.l)) es).length))[r]? with
      | none => rw [hz] at hi; cases hi
      | some j =>
        rw [hz] at hi; cases hi
        obtain ⟨h1, h2⟩ := List.getElem?_eq_some_iff.mp hz
        rw [List.getElem_range] at h2
        subst h2
        rw [List.length_range, List.length_map, Int.toNat_natCast] at h1
        exact ⟨by exact lin [_, _, _] (.lt (.v 0) (.v 1)) 1 (.c 1 (.eq (.v 2) (.v 1)) (.c 1 (.lt (.v 0) (.v 2)) .e)) (Eq.refl true) hes h1, rfl⟩
    obtain ⟨hR, hout, hO, hsub⟩ := D.next K hr
    have hol := hO.len
    rw [List.length_append] at hol
    have hrl : rs.length ≤ 64 := by exact lin [_, _, _] (.le (.v 0) (.n 64)) 1 (.c 1 (.le (.v 1) (.n 64)) (.c 1 (.le (.a (.v 2) (.v 0)) (.v 1)) .e)) (Eq.refl true) hV hol
    refine ⟨.inst, ⟨Z.a, Z.d0, _, rfl, Sf.hA D.H, Sf.hB D.H, attrs4⟩, rfl, ?_⟩
    refine ⟨ready_sem (by (first | exact Mine.fu rfl | exact Mine.lm0 (by assumption) rfl | omega)) ok D.H hsub (by exact lin [_] (.le (.v 0) (.n 1000)) 1 (.c 1 (.le (.v 0) (.n 64)) .e) (Eq.refl true) hrl) fun t hp1 H1 => ?_⟩
    obtain ⟨hf, hw⟩ := Sf.freezeR H1
    refine ⟨.inr ⟨.tuple (rs.map .str), (rs.map AV.str).map (fun v => [v]), hf, rfl, by (first | exact Mine.lm2 (by assumption) rfl | exact Mine.lm (by assumption) rfl | exact Mine.lm0 (by assumption) rfl | (simp; omega)), fun o => (hw o).1, fun b => ?_⟩⟩
    have H2 := (hw b).2
    clear hw
    refine ⟨fun j => At (L17 A x ga wl Z.a od td true ++ [(("turn" : Str), .int r), ("group", .ref t)]) fun hp => Sh hp (Z.all (.ref rl) (o.length + rs.length) o.length (rs.foldl (fun np v => setF np v (-1)) np) ((t, .froz b (.tuple (rs.map .str))) :: (rl, strO []) :: (Z.lis ++ ((od, strO o) :: (td, toldO Z.V g (o ++ rs.take j)) :: fr)))),
      .mk (by rw [List.take_zero, List.append_nil]; exact H2), fun j => at1 fun _ h => Sf.memR h (.head _), fun j us => at2 fun _ hj h kX X => ?_, at1 fun _ h => ?_⟩
    · apply items_strK hj; intro v hv
      have hvr := (D.R.lv v).mp (List.mem_of_getElem? hv)
      have hnew : v ∉ o ++ rs.take j := by
        have e1 : o ++ rs.take (j + 1) = (o ++ rs.take j) ++ [v] := by rw [take_succ' hv, List.append_assoc]
        have n1 : (o ++ rs.take (j + 1)).Nodup := hO.nd.sublist ((List.take_sublist _ _).append_left o)
        rw [e1] at n1
        exact fun z => (List.nodup_append.mp n1).2.2 v z v (.head _) rfl
      refine Sf.setRK (Sf.permR h (fr' := (td, toldO Z.V g (o ++ rs.take j)) :: (t, .froz b (.tuple (rs.map .str))) :: (rl, strO []) :: (Z.lis ++ ((od, strO o) :: fr))) (by exact pm [_, _, _, _] [_, _] (.c 0 (.c 1 (.a (.l 0) (.c 2 (.c 3 (.l 1)))))) (.c 3 (.c 0 (.c 1 (.a (.l 0) (.c 2 (.l 1)))))) rfl)) (toldO Z.V g (o ++ rs.take (j + 1))) fun hp3 W3 H3 => ?_
      rw [take_succ' hv, ← List.append_assoc, toldO_snoc (c := (r : Nat)) hnew (by rw [hvr.2.1])] at W3
      have hjl := (List.take_sublist j rs).length_le
      refine ⟨_, hp3, W3, ?_, X.next ["tail"] _ (.mk (Sf.permR H3 (by exact pm [_, _, _, _] [_, _] (.c 0 (.c 1 (.c 2 (.a (.l 0) (.c 3 (.l 1)))))) (.c 1 (.c 2 (.a (.l 0) (.c 3 (.c 0 (.l 1)))))) rfl)))⟩
      unfold mapI; rw [List.length_map, List.length_map, List.length_append]; exact lin [_, _, _, _, _] (.le (.a (.v 0) (.v 1)) (.v 2)) 1 (.c 1 (.le (.n 1000) (.v 2)) (.c 1 (.le (.v 3) (.n 64)) (.c 1 (.le (.a (.v 0) (.v 4)) (.v 3)) (.c 1 (.le (.v 1) (.v 4)) .e)))) (Eq.refl true) h64 hV hol hjl
    · rw [List.length_map, List.length_map, List.take_length] at h
      have h2 := Sf.permR (Sf.thawR h rfl) (fr' := (od, strO o) :: (rl, strO []) :: (Z.lis ++ ((t, .tuple (rs.map .str)) :: (td, toldO Z.V g (o ++ rs)) :: fr))) (by exact pm [_, _, _, _] [_, _] (.c 0 (.c 1 (.a (.l 0) (.c 2 (.c 3 (.l 1)))))) (.c 2 (.c 1 (.a (.l 0) (.c 0 (.c 3 (.l 1)))))) rfl)
      refine ⟨.list, ⟨od, _, rfl, Sf.hF h2 (.head _)⟩, rfl, ?_⟩
      refine Sf.setRK h2 (.list (o.map .str ++ rs.map .str)) fun hp3 W3 H3 => ?_
      refine ⟨_, rs.map .str, hp3, .inr (Sf.hF h2 (.tail _ (.tail _ (List.mem_append_right _ (.head _))))), W3, by (simp; exact lin [_, _, _, _] (.le (.a (.v 0) (.v 1)) (.v 2)) 1 (.c 1 (.le (.n 1000) (.v 2)) (.c 1 (.le (.v 3) (.n 64)) (.c 1 (.le (.a (.v 0) (.v 1)) (.v 3)) .e))) (Eq.refl true) h64 hV hol), ?_⟩
      have e3 : AO.list (o.map .str ++ rs.map .str) = strO (o ++ rs) := by unfold strO; rw [List.map_append]
      rw [e3] at H3
      have H4 := Sf.permR H3 (fr' := (rl, strO []) :: (Z.lis ++ ((od, strO (o ++ rs)) :: (t, .tuple (rs.map .str)) :: (td, toldO Z.V g (o ++ rs)) :: fr))) (by exact pm [_, _, _, _] [_, _] (.c 0 (.c 1 (.a (.l 0) (.c 2 (.c 3 (.l 1)))))) (.c 1 (.a (.l 0) (.c 0 (.c 2 (.c 3 (.l 1)))))) rfl)
      refine ⟨⟨Z.a, Z.d0, _, rfl, Sf.hA H4, Sf.hB H4, attrs4⟩, rfl, ?_⟩
      refine ⟨rs.map .str, .inr (Sf.hF H4 (.tail _ (List.mem_append_right _ (.tail _ (.head _))))), by (first | exact Mine.lm2 (by assumption) rfl | exact Mine.lm (by assumption) rfl | exact Mine.lm0 (by assumption) rfl | (simp; omega)), ?_⟩
      refine Cl.mk ?_
      refine (?_ : (sem _).C _ 113 (.ref Z.a :: (rs.map .str ++ [])) _ _)
      rw [List.append_nil]
      refine done_sem (by (first | exact Mine.fu rfl | exact Mine.lm0 (by assumption) rfl | omega)) ok (rs := []) H4 hsub hrl (Nat.zero_le _) hout fun hp' H5 => (X.next ["turn", "group", "tail"] _ (.mk ⟨_, _, o ++ rs, ⟨?_, hR, hO, hr⟩⟩))
      have ec : (((o ++ rs).length : Nat) : Int) = o.length + rs.length := by rw [List.length_append]; omega
      have H6 := Sf.permR H5 (fr' := (t, .tuple (rs.map .str)) :: (rl, strO (rs.foldl (dN Z) (rs.foldl (fun np v => setF np v (-1)) np, [])).2) :: (Z.lis ++ ((od, strO (o ++ rs)) :: (td, toldO Z.V g (o ++ rs)) :: fr))) (by exact pm [_, _, _, _] [_, _] (.c 0 (.a (.l 0) (.c 1 (.c 2 (.c 3 (.l 1)))))) (.c 2 (.c 0 (.a (.l 0) (.c 1 (.c 3 (.l 1)))))) rfl)
      rw [ec]
      exact Sf.tlR H6
  · have e : ((List.range (Int.toNat (List.map (fun e => (e.v, AV.ref e.l)) es).length)).map fun (i : Nat) => [AV.int i]).length = Z.V.length := by
      rw [List.length_map, List.length_range, List.length_map, Int.toNat_natCast, hes]
    rw [e] at h
    obtain ⟨np, rs, o, D⟩ := h
    have : rs = [] := List.eq_nil_iff_forall_not_mem.mpr fun v hv => by
      have := ((D.R.lv v).mp hv).2.2
      exact lin [_] .ff 0 (.c 1 (.lt (.v 0) (.v 0)) .e) (Eq.refl true) this
    subst this
    exact h0 np o _ D
end Mine
end

section
open PySem PySem.W PyProof.Rows PySem.Calls PySem.Spec
set_option maxRecDepth 100000
set_option maxHeartbeats 2000000
namespace Mine

theorem toldO_lk {V : List Str} {g : Str → List Str} {o : List Str} {x : Str} (h : x ∈ o) : (mapI (o.map fun v => (v, (ht V g v : Int)))).lookup x = some (.int (ht V g x)) := by
  unfold mapI
  rw [List.map_map]
  rcases lk_map (l := o) id (fun v => AV.int (ht V g v)) x with ⟨_, h1⟩ | ⟨e, _, e1, h1⟩
  · exact absurd (by rw [List.map_id]; exact h) h1
  · subst e1; exact h1
/-- no cycle: the heights one after the other -/
theorem told_free {N : Nat} (hN : 70 ≤ N) {ro hp fr : HP} {W V : List Str} (ok : Wok W) {es : List Ge} (K : Wk W es []) (hes : es.length = V.length) {A : Ad} {x0 : AV} {ga wl s od td : Addr} {o : List Str}
    (hO : Ord V (succ W) V.length o) (hV : ∀ x, x ∈ V ↔ x ∈ es.map (·.v)) (H : Sh hp ((od, strO o) :: (td, toldO V (succ W) []) :: (ga, geD es) :: (geM es ++ fr))) {k : Fl → AS → Prop}
    (h0 : ∀ hp', Sh hp' ((od, strO o) :: (td, toldO V (succ W) o) :: (ga, geD es) :: (geM es ++ fr)) → k .next ⟨L17 A x0 ga wl s od td false, hp'⟩) :
    (sem N).B (lawP ro) ifS.2 ⟨L17 A x0 ga wl s od td false, hp⟩ k := by
  obtain ⟨n, rfl⟩ := pull hN
  have h64 : 1000 ≤ lim := by decide
  have hel := K.el ok
  have hol := hO.len
  obtain ⟨hf, hw⟩ := H.freeze
  refine ⟨.inr ⟨strO o, (o.map AV.str).map (fun v => [v]), hf, rfl, by (simp; exact lin [_, _, _, _] (.le (.v 0) (.v 1)) 1 (.c 1 (.qe (.v 2) (.v 3)) (.c 1 (.le (.n 1000) (.v 1)) (.c 1 (.le (.v 2) (.n 48)) (.c 1 (.le (.v 0) (.v 3)) .e)))) (Eq.refl true) hes h64 hel hol), fun o => (hw o).1, fun b => ?_⟩⟩
  have H1 := (hw b).2
  clear hw
  refine ⟨fun i => At (L17 A x0 ga wl s od td false) fun hp => Sh hp ((td, toldO V (succ W) (o.take i)) :: (od, .froz b (strO o)) :: (ga, geD es) :: (geM es ++ fr)),
    .mk (H1.perm (List.Perm.swap ..)), fun i => at1 fun _ h => h.memF (.tail _ (.head _)), fun i us => at2 fun _ hi h kX X => ?_, at1 fun _ h => ?_⟩
  · apply items_strK hi; intro v hv
    have hvo : v ∈ o := List.mem_of_getElem? hv
    obtain ⟨hvV, _, hfin⟩ := (hO.mem v).mp hvo
    obtain ⟨e, hem, hev⟩ := List.mem_map.mp ((hV v).mp hvV)
    have hev : e.v = v := hev
    have hps := K.ps e hem
    rw [hev] at hps
    have hpl : e.ps.length ≤ 4 := by rw [hps]; exact succ_len ok _
    obtain ⟨l1, l2, hsp⟩ := List.append_of_mem hem
    have hge : geM es = geM l1 ++ (e.l, strO e.ps) :: geM l2 := by
      unfold geM; conv => lhs; rw [hsp]
      rw [List.map_append]; rfl
    have hglk : (es.map fun e => (e.v, AV.ref e.l)).lookup v = some (.ref e.l) := by rw [← hev]; exact geD_lk K.nd hem
    refine ⟨(by decide : 1 ≤ lim), fun r1 => ?_⟩
    have H4 := h.push (r := r1) (x := intO [0])
    refine ⟨_, _, H4.has (.tail _ (.tail _ (.tail _ (.head _)))), hglk, ?_⟩
    obtain ⟨hf2, hw2⟩ := (H4.perm (o2 := (e.l, strO e.ps) :: (r1, intO [0]) :: (td, toldO V (succ W) (o.take i)) :: (od, .froz b (strO o)) :: (ga, geD es) :: (geM l1 ++ (geM l2 ++ fr))) (by rw [hge]; exact pm [_, _, _, _, _] [_, _, _] (.c 0 (.c 1 (.c 2 (.c 3 (.a (.a (.l 0) (.c 4 (.l 1))) (.l 2)))))) (.c 4 (.c 0 (.c 1 (.c 2 (.c 3 (.a (.l 0) (.a (.l 1) (.l 2)))))))) rfl)).freeze
    refine ⟨.inr ⟨strO e.ps, (e.ps.map AV.str).map (fun v => [v]), hf2, rfl, by (first | exact Mine.lm2 (by assumption) rfl | exact Mine.lm (by assumption) rfl | exact Mine.lm0 (by assumption) rfl | (simp; omega)), fun o => (hw2 o).1, fun b2 r2 => ?_⟩⟩
    have H6 := (hw2 b2).2.push (r := r2) (x := intO ((e.ps.take 0).map fun x => 1 + (ht V (succ W) x : Int)))
    clear hw2
    refine ⟨fun p => At [("graph", .ref ga), ("told", .ref td)] fun hp => Sh hp ((r2, intO ((e.ps.take p).map fun x => 1 + (ht V (succ W) x : Int))) :: (e.l, .froz b2 (strO e.ps)) :: (r1, intO [0]) :: (td, toldO V (succ W) (o.take i)) :: (od, .froz b (strO o)) :: (ga, geD es) :: (geM l1 ++ (geM l2 ++ fr))),
      .mk H6, fun q => at1 fun _ h => h.memF (.tail _ (.head _)), fun p us => at2 fun _ hi h kX X => ?_, at1 fun _ h => ?_⟩
    · apply items_strK hi; intro x hx
      have hxo : x ∈ o.take i := hO.pre i v hv x (by rw [← hps]; exact List.mem_of_getElem? hx)
      refine ⟨fun _ => ?_, fun hf => (nomatch hf)⟩
      refine ⟨.dict, ⟨td, _, rfl, h.has (.tail _ (.tail _ (.tail _ (.head _))))⟩, rfl, ?_⟩
      refine ⟨.inr (.inr ⟨_, h.has (.tail _ (.tail _ (.tail _ (.tail _ (.tail _ (.head _)))))), by (first | exact Mine.lm2 (by assumption) rfl | exact Mine.lm (by assumption) rfl | exact Mine.lm0 (by assumption) rfl | (simp; omega)), ?_⟩)⟩
      refine ⟨_, h.has (.tail _ (.tail _ (.tail _ (.head _)))), ?_⟩
      rw [toldO_lk hxo]
      refine h.wrK (intO ((e.ps.take (p + 1)).map fun x => 1 + (ht V (succ W) x : Int))) fun hp7 W7 H7 => ?_
      rw [take_succ' hx, List.map_append, intO_snoc] at W7
      have := (List.take_sublist p e.ps).length_le
      exact ⟨_, hp7, W7, by (first | exact Mine.lm2 (by assumption) rfl | exact Mine.lm (by assumption) rfl | exact Mine.lm0 (by assumption) rfl | (simp; omega)), X.next ["x"] _ (.mk H7)⟩
    · rw [List.length_map, List.length_map, List.take_length] at h
      refine ⟨[0].map .int, (e.ps.map fun x => 1 + (ht V (succ W) x : Int)).map .int, h.has (.tail _ (.tail _ (.head _))), h.has (.head _), by rw [List.length_map, List.length_map, List.length_map, List.length_singleton]; exact lin [_, _] (.le (.a (.n 1) (.v 0)) (.v 1)) 1 (.c 1 (.le (.n 1000) (.v 1)) (.c 1 (.le (.v 0) (.n 4)) .e)) (Eq.refl true) h64 hpl, fun r3 => ?_⟩
      have H8 := h.push (r := r3) (x := .list ([0].map .int ++ (e.ps.map fun x => 1 + (ht V (succ W) x : Int)).map .int))
      have hm := hz_max (W := W) (i := V.length) (v := v)
      rw [← hps] at hm
      have hst : hz W (V.length + 1) v = (ht V (succ W) v : Int) := by
        unfold hz; rw [hgt_stab (succ W) _ v hfin]
      refine ⟨rfl, 0 :: e.ps.map (fun x => 1 + (ht V (succ W) x : Int)), hz W (V.length + 1) v, H8.has (.head _), hm.1, hm.2, ?_⟩
      have hnew : v ∉ o.take i := by
        have e1 : o.take (i + 1) = o.take i ++ [v] := take_succ' hv
        have n1 : (o.take (i + 1)).Nodup := hO.nd.sublist (List.take_sublist _ _)
        rw [e1] at n1
        exact fun z => (List.nodup_append.mp n1).2.2 v z v (.head _) rfl
      refine (H8.perm (o2 := (td, toldO V (succ W) (o.take i)) :: (e.l, .froz b2 (strO e.ps)) :: (((od, .froz b (strO o)) :: (ga, geD es) :: (geM l1 ++ (geM l2 ++ fr))) ++ [(r3, AO.list ([0].map .int ++ (e.ps.map fun x => 1 + (ht V (succ W) x : Int)).map .int)), (r2, intO (e.ps.map fun x => 1 + (ht V (succ W) x : Int))), (r1, intO [0])])) (by exact pm [_, _, _, _, _, _, _] [_, _, _] (.c 0 (.c 1 (.c 2 (.c 3 (.c 4 (.c 5 (.c 6 (.a (.l 0) (.a (.l 1) (.l 2)))))))))) (.c 4 (.c 2 (.a (.c 5 (.c 6 (.a (.l 0) (.a (.l 1) (.l 2))))) (.c 0 (.c 1 (.c 3 .n)))))) rfl)).wrK (toldO V (succ W) (o.take (i + 1))) fun hp9 W9 H9 => ?_
      rw [take_succ' hv, toldO_snoc hnew hst] at W9
      have hil := (List.take_sublist i o).length_le
      refine ⟨_, hp9, W9, by unfold mapI; rw [List.length_map, List.length_map]; exact lin [_, _, _, _, _] (.le (.v 0) (.v 1)) 1 (.c 1 (.qe (.v 2) (.v 3)) (.c 1 (.le (.n 1000) (.v 1)) (.c 1 (.le (.v 2) (.n 48)) (.c 1 (.le (.v 4) (.v 3)) (.c 1 (.le (.v 0) (.v 4)) .e))))) (Eq.refl true) hes h64 hel hol hil, X.next ["tail"] _ (.mk ?_)⟩
      have H10 := (H9.perm (List.Perm.swap ..)).thaw rfl
      exact Sh.drop (o2 := [(r3, AO.list ([0].map .int ++ (e.ps.map fun x => 1 + (ht V (succ W) x : Int)).map .int)), (r2, intO (e.ps.map fun x => 1 + (ht V (succ W) x : Int))), (r1, intO [0])]) (H10.perm (by rw [hge]; exact pm [_, _, _, _, _, _, _] [_, _, _] (.c 0 (.c 1 (.a (.c 2 (.c 3 (.a (.l 0) (.a (.l 1) (.l 2))))) (.c 4 (.c 5 (.c 6 .n)))))) (.a (.c 1 (.c 2 (.c 3 (.a (.a (.l 0) (.c 0 (.l 1))) (.l 2))))) (.c 4 (.c 5 (.c 6 .n)))) rfl))
  · rw [List.length_map, List.length_map, List.take_length] at h
    exact h0 _ ((h.perm (List.Perm.swap ..)).thaw rfl)
end Mine
end

section
open PySem PySem.W PyProof.Rows PySem.Calls PySem.Spec
set_option maxRecDepth 100000
namespace Mine

theorem rising_pw : ∀ (l : List Str) (p : Str), risingS p l = true → (p :: l).Pairwise fun a b => a.cps.toList ≤ b.cps.toList
  | [], p, _ => List.pairwise_singleton ..
  | x :: l, p, h => by
    unfold risingS at h
    obtain ⟨h1, h2⟩ := Bool.and_eq_true_iff.mp h
    rw [ltCps_eq] at h1
    have h1 : p.cps.toList ≤ x.cps.toList := List.not_lt.mp (by simpa using h1)
    have ih := rising_pw l x h2
    refine List.pairwise_cons.mpr ⟨fun y hy => ?_, ih⟩
    rcases List.mem_cons.mp hy with rfl | hy
    · exact h1
    · exact List.le_trans h1 ((List.pairwise_cons.mp ih).1 y hy)
theorem sorted_pw {l : List Str} (h : sortedS l = true) : l.Pairwise fun a b => a.cps.toList ≤ b.cps.toList := by
  cases l with
  | nil => exact .nil
  | cons x l => exact rising_pw l x h
theorem sorted_uniq {l l' : List Str} (p : l.Perm l') (h : sortedS l = true) (h' : sortedS l' = true) : l = l' :=
  List.Perm.eq_of_pairwise (fun _ _ _ _ h1 h2 => str_ext (List.le_antisymm h1 h2)) (sorted_pw h) (sorted_pw h') p
theorem perm_of {l l' : List Str} (h : l.Nodup) (h' : l'.Nodup) (e : ∀ x, x ∈ l ↔ x ∈ l') : l.Perm l' := (List.perm_ext_iff_of_nodup h h').mpr e
noncomputable def finL (W : List Str) (es : List Ge) : List Ge := es.filter fun e => decide (hz W es.length e.v < es.length)
theorem fin_facts {W : List Str} {es es2 : List Ge} {Z : Sf} (K : Wk W es []) (K2 : Wk W es2 []) (zk : Zok W es Z) {o : List Str} (nd : o.Nodup) (hO : ∀ v, v ∈ o ↔ v ∈ Z.V ∧ ht Z.V (succ W) v < Z.V.length) :
    es2.length = Z.V.length ∧ (es.map (·.v)).Perm (es2.map (·.v)) ∧ o.length = (finL W es2).length ∧ dictEq (o.map fun v => (v, (ht Z.V (succ W) v : Int))) ((finL W es2).map fun e => (e.v, hz W es2.length e.v)) = true ∧
    ((∃ v ∈ Z.V, ht Z.V (succ W) v = Z.V.length) → (finL W es2).length < es2.length) ∧ ((∀ v ∈ Z.V, ht Z.V (succ W) v < Z.V.length) → (finL W es2).length = es2.length) := by
  have hk : ∀ x, x ∈ es.map (·.v) ↔ x ∈ es2.map (·.v) := fun x => (K.fin x).trans (K2.fin x).symm
  have p1 := perm_of K.nd K2.nd hk
  have hn : es2.length = Z.V.length := by
    have h1 := zk.len K
    have h2 := p1.length_eq
    rw [List.length_map, List.length_map] at h2; exact Nat.le_antisymm (lin [_, _, _] (.le (.v 0) (.v 1)) 1 (.c 1 (.eq (.v 2) (.v 1)) (.c 1 (.qe (.v 2) (.v 0)) .e)) (Eq.refl true) h1 h2) (lin [_, _, _] (.le (.v 0) (.v 1)) 1 (.c 1 (.qe (.v 2) (.v 0)) (.c 1 (.eq (.v 2) (.v 1)) .e)) (Eq.refl true) h1 h2)
  have hF : ∀ x, x ∈ (finL W es2).map (·.v) ↔ x ∈ o := fun x => by
    rw [hO, zk.mem, hk]
    constructor
    · intro h
      obtain ⟨e, he, rfl⟩ := List.mem_map.mp h
      obtain ⟨h1, h2⟩ := List.mem_filter.mp he
      refine ⟨List.mem_map_of_mem h1, ?_⟩
      have h2 := of_decide_eq_true h2
      unfold hz at h2; rw [hn] at h2
      refine (?_ : hgt _ _ _ < _)
      omega
    · rintro ⟨h1, h2⟩
      obtain ⟨e, he, rfl⟩ := List.mem_map.mp h1
      refine List.mem_map_of_mem (List.mem_filter.mpr ⟨he, decide_eq_true ?_⟩)
      unfold hz; rw [hn]
      have h2 : hgt (succ W) Z.V.length e.v < Z.V.length := h2
      omega
  have p2 := perm_of nd (K2.nd.sublist (List.filter_sublist.map _)) fun x => (hF x).symm
  have hl : o.length = (finL W es2).length := by
    have h2 := p2.length_eq
    rw [List.length_map] at h2; exact h2
  refine ⟨hn, p1, hl, ?_, fun ⟨v, hv, e⟩ => ?_, fun h => ?_⟩
  · unfold dictEq
    rw [Bool.and_eq_true, decide_eq_true_eq, List.all_eq_true]
    refine ⟨by rw [List.length_map, List.length_map, hl], fun p hp => ?_⟩
    obtain ⟨v, hv, rfl⟩ := List.mem_map.mp hp
    rw [decide_eq_true_eq]
    rcases lk_map (l := finL W es2) (·.v) (fun e => hz W es2.length e.v) v with ⟨_, h1⟩ | ⟨e, _, e1, h1⟩
    · exact absurd ((hF v).mpr hv) h1
    · rw [h1]
      have e1 : e.v = v := e1
      unfold hz; rw [e1, hn]
  · rcases Nat.lt_or_ge (finL W es2).length es2.length with z | z
    · exact z
    · have h1 : (finL W es2).length = es2.length := Nat.le_antisymm (List.length_filter_le _ _) z
      have h2 := List.length_filter_eq_length_iff.mp h1
      obtain ⟨q, hq, rfl⟩ := List.mem_map.mp ((hk v).mp ((zk.mem v).mp hv))
      have h3 := of_decide_eq_true (h2 q hq)
      unfold hz at h3; rw [hn] at h3
      have e : hgt (succ W) Z.V.length q.v = Z.V.length := e
      omega
  · refine List.length_filter_eq_length_iff.mpr fun q hq => decide_eq_true ?_
    have h1 := h q.v ((zk.mem _).mpr ((hk _).mpr (List.mem_map_of_mem hq)))
    unfold hz; rw [hn]
    have h1 : hgt (succ W) Z.V.length q.v < Z.V.length := h1
    omega
end Mine
end

section
open PySem PySem.W PyProof.Rows PySem.Calls PySem.Spec
set_option maxRecDepth 100000
set_option maxHeartbeats 2000000
namespace Mine

noncomputable def dueO (W : List Str) (n : Nat) (F : List Ge) : AO := .dict (mapI (F.map fun e => (e.v, hz W n e.v)))
noncomputable abbrev L20 (A : Ad) (x : AV) (g wl s od td fa du : Addr) (h : Bool) : List (Str × AV) := [("script", .ref A.a), ("rows", .ref A.rr), ("row", .ref A.rw), ("own", .ref A.own), ("numbers", .ref A.num), ("written", .ref A.wt), ("words", .ref A.ws), ("word", x), ("graph", .ref g), ("waiting", .ref wl), ("sorter", .ref s), ("order", .ref od), ("held", .bool h), ("told", .ref td), ("far", .ref fa), ("due", .ref du)]
/-- the two last statements -/
theorem law_end {N : Nat} (hN : 60 ≤ N) {ro hp fr : HP} {W : List Str} {A : Ad} {x : AV} {g wl rl od td fa du : Addr} {h : Bool} {Z : Sf} {np : Str → Int} {o : List Str} {es es2 : List Ge} {pa : Int}
    (hWl : W.length ≤ 4) (hol : o.length ≤ 48) (hel : es.length ≤ 48) (hel2 : es2.length ≤ 48) (hp1 : (es.map (·.v)).Perm (es2.map (·.v))) (hl : o.length = (finL W es2).length)
    (hd : dictEq (o.map fun v => (v, (ht Z.V (succ W) v : Int))) ((finL W es2).map fun e => (e.v, hz W es2.length e.v)) = true) (hh : h = decide ((finL W es2).length < es2.length))
    (H : Sh hp (Z.all (.ref rl) pa pa np ((rl, strO []) :: (du, dueO W es2.length (finL W es2)) :: (fa, farO es2 (hz W es2.length)) :: (A.own, strO W) :: (od, strO o) :: (td, toldO Z.V (succ W) o) :: (g, geD es) :: (A.ws, strO W) :: fr))) {k : Fl → AS → Prop}
    (h0 : ∀ σ, k (.ret (.bool true)) σ) :
    (sem N).B (lawP ro) ((bodyOf 173).drop 21) ⟨L20 A x g wl Z.a od td fa du h, hp⟩ k := by
  obtain ⟨n, rfl⟩ := pull hN
  have h64 : 1000 ≤ lim := by decide
  have hF : (finL W es2).length ≤ es2.length := List.length_filter_le _ _
  refine ⟨.inl ⟨W, W, Sf.hF H (.tail _ (.tail _ (.tail _ (.tail _ (.tail _ (.tail _ (.tail _ (.head _)))))))), Sf.hF H (.tail _ (.tail _ (.tail _ (.head _)))), by (first | exact Mine.fu rfl | exact Mine.lm0 (by assumption) rfl | omega), by (first | exact Mine.fu rfl | exact Mine.lm0 (by assumption) rfl | omega), ?_⟩⟩
  rw [decide_eq_true rfl]
  refine ⟨fun _ => ?_, fun hf => (nomatch hf)⟩
  have hk1 : (es.map fun e => (e.v, AV.ref e.l)).map (·.1) = es.map (·.v) := by rw [List.map_map]; rfl
  have hk2 : ∀ f : Str → Int, (mapI (es2.map fun e => (e.v, f e.v))).map (·.1) = es2.map (·.v) := fun f => by unfold mapI; rw [List.map_map, List.map_map]; rfl
  refine ⟨rfl, _, Sf.hF H (.tail _ (.tail _ (.tail _ (.tail _ (.tail _ (.tail _ (.head _))))))), by (simp; exact lin [_] (.lt (.v 0) (.n 64)) 1 (.c 1 (.le (.v 0) (.n 48)) .e) (Eq.refl true) hel), fun r1 l1 p1 s1 => ?_⟩
  have H1 := Sf.pushR (b := r1) (x := strO l1) H
  refine ⟨rfl, _, Sf.hF H1 (.tail _ (.tail _ (.tail _ (.head _)))), by unfold mapI; rw [List.length_map, List.length_map]; exact lin [_] (.lt (.v 0) (.n 64)) 1 (.c 1 (.le (.v 0) (.n 48)) .e) (Eq.refl true) hel2, fun r2 l2 p2 s2 => ?_⟩
  have H2 := Sf.pushR (b := r2) (x := strO l2) H1
  rw [hk1] at p1
  rw [hk2] at p2
  have e12 : l1 = l2 := sorted_uniq (p1.trans (hp1.trans p2.symm)) s1 s2
  have hl1 : l1.length ≤ 48 := by rw [p1.length_eq, List.length_map]; exact hel
  subst e12
  refine ⟨.inl ⟨l1, l1, Sf.hF H2 (.tail _ (.head _)), Sf.hF H2 (.head _), by (first | exact Mine.fu rfl | exact Mine.lm0 (by assumption) rfl | omega), by (first | exact Mine.fu rfl | exact Mine.lm0 (by assumption) rfl | omega), ?_⟩⟩
  rw [decide_eq_true rfl]
  refine ⟨fun _ => ?_, fun hf => (nomatch hf)⟩
  refine ⟨.inst, ⟨Z.a, Z.d0, _, rfl, Sf.hA H2, Sf.hB H2, attrs4⟩, rfl, ?_⟩
  refine ⟨active_sem (by (first | exact Mine.fu rfl | exact Mine.lm0 (by assumption) rfl | omega)) H2 (rs := []) (.tail _ (.tail _ (.head _))) (Nat.zero_le _) ?_⟩
  rw [decide_eq_false (Int.lt_irrefl pa)]
  refine ⟨fun _ => ?_, fun hf => (nomatch hf)⟩
  refine ⟨fun hf => (nomatch hf), fun _ => ?_⟩
  have hdl : (mapI ((finL W es2).map fun e => (e.v, hz W es2.length e.v))).length = (finL W es2).length := by unfold mapI; rw [List.length_map, List.length_map]
  have hfl : (mapI (es2.map fun e => (e.v, hz W es2.length e.v))).length = es2.length := by unfold mapI; rw [List.length_map, List.length_map]
  have hdu := Sf.hF (ro := ro) H2 (.tail _ (.tail _ (.tail _ (.head _))))
  have hfa := Sf.hF (ro := ro) H2 (.tail _ (.tail _ (.tail _ (.tail _ (.head _)))))
  have hod := Sf.hF (ro := ro) H2 (.tail _ (.tail _ (.tail _ (.tail _ (.tail _ (.tail _ (.head _)))))))
  have htd := Sf.hF (ro := ro) H2 (.tail _ (.tail _ (.tail _ (.tail _ (.tail _ (.tail _ (.tail _ (.head _))))))))
  refine ⟨.inr (.inr ⟨_, hdu, by rw [hdl]; exact lin [_, _, _] (.le (.v 0) (.v 1)) 1 (.c 1 (.le (.v 2) (.n 48)) (.c 1 (.qe (.v 2) (.v 0)) (.c 1 (.le (.n 1000) (.v 1)) .e))) (Eq.refl true) hol hl h64, ?_⟩)⟩
  refine ⟨.inr (.inr ⟨_, hfa, by rw [hfl]; exact lin [_, _] (.le (.v 0) (.v 1)) 1 (.c 1 (.le (.v 0) (.n 48)) (.c 1 (.le (.n 1000) (.v 1)) .e)) (Eq.refl true) hel2 h64, ?_⟩)⟩
  rw [hdl, hfl]
  have e3 : h = decide (((finL W es2).length : Int) < es2.length) := by
    rw [hh]
    by_cases z : (finL W es2).length < es2.length
    · rw [decide_eq_true z, decide_eq_true (by (first | exact Mine.fu rfl | exact Mine.lm0 (by assumption) rfl | omega))]
    · rw [decide_eq_false z, decide_eq_false (by (first | exact Mine.fu rfl | exact Mine.lm0 (by assumption) rfl | omega))]
  refine ⟨fun _ => ?_, fun hf => absurd hf (by rw [decide_eq_true e3]; decide)⟩
  refine ⟨.inr ⟨_, _, htd, hdu, by (first | exact Mine.lm2 (by assumption) rfl | exact Mine.lm (by assumption) rfl | exact Mine.lm0 (by assumption) rfl | (simp; omega)), by (simp; exact lin [_, _, _] (.le (.v 0) (.v 1)) 1 (.c 1 (.le (.v 2) (.n 48)) (.c 1 (.qe (.v 2) (.v 0)) (.c 1 (.le (.n 1000) (.v 1)) .e))) (Eq.refl true) hol hl h64), ?_⟩⟩
  rw [hd]
  refine ⟨fun _ => ?_, fun hf => (nomatch hf)⟩
  refine ⟨.inl ⟨_, hod, by (first | exact Mine.lm2 (by assumption) rfl | exact Mine.lm (by assumption) rfl | exact Mine.lm0 (by assumption) rfl | (simp; omega)), ?_⟩⟩
  refine ⟨.inr (.inr ⟨_, hdu, by rw [hdl]; exact lin [_, _, _] (.le (.v 0) (.v 1)) 1 (.c 1 (.le (.v 2) (.n 48)) (.c 1 (.qe (.v 2) (.v 0)) (.c 1 (.le (.n 1000) (.v 1)) .e))) (Eq.refl true) hol hl h64, ?_⟩)⟩
  rw [hdl, List.length_map, hl]
  have e4 : decide (((finL W es2).length : Int) = (finL W es2).length) = true := decide_eq_true rfl
  refine (?_ : k (.ret (.bool (decide (((finL W es2).length : Int) = (finL W es2).length)))) _)
  rw [e4]
  exact h0 _
end Mine
end

section
open PySem PySem.W PyProof.Rows PySem.Calls PySem.Spec
set_option maxRecDepth 100000
set_option maxHeartbeats 2000000
namespace Mine

theorem dueO_next {W : List Str} {es : List Ge} (nd : (es.map (·.v)).Nodup) {n i : Nat} {e : Ge} (he : es[i]? = some e) {p : Ge → Bool} :
    (p e = true → dueO W n ((es.take (i + 1)).filter p) = .dict (upd e.v (.int (hz W n e.v)) (mapI (((es.take i).filter p).map fun e => (e.v, hz W n e.v))))) ∧ (p e = false → (es.take (i + 1)).filter p = (es.take i).filter p) := by
  rw [take_succ' he, List.filter_append]
  refine ⟨fun hp => ?_, fun hp => ?_⟩
  · have e1 : [e].filter p = [e] := by simp [hp]
    rw [e1]
    unfold dueO
    rw [upd_new]
    · unfold mapI; simp
    · unfold mapI
      rw [List.map_map]
      refine (lk_map (l := (es.take i).filter p) (·.v) (fun e => AV.int (hz W n e.v)) e.v).elim (·.1) fun ⟨x, hx, e1, _⟩ => absurd ?_ (take_keys nd he)
      exact List.mem_map.mpr ⟨x, (List.mem_filter.mp hx).1, e1⟩
  · have e1 : [e].filter p = [] := by simp [hp]
    rw [e1, List.append_nil]
/-- the last four statements -/
theorem law_due {N : Nat} (hN : 80 ≤ N) {ro hp : HP} {W : List Str} (ok : Wok W) {A : Ad} {x : AV} {g wl rl od td : Addr} {h : Bool} {Z : Sf} {np : Str → Int} {r : Nat} {o : List Str} {es : List Ge} (K : Wk W es []) (zk : Zok W es Z)
    (hO : ∀ v, v ∈ o ↔ v ∈ Z.V ∧ ht Z.V (succ W) v < Z.V.length) (hh : (h = true ∧ ∃ v ∈ Z.V, ht Z.V (succ W) v = Z.V.length) ∨ (h = false ∧ ∀ v ∈ Z.V, ht Z.V (succ W) v < Z.V.length))
    (S : SS Z (succ W) rl od ((td, toldO Z.V (succ W) o) :: frO A W es g) r np [] o hp) {k : Fl → AS → Prop} (h0 : ∀ σ, k (.ret (.bool true)) σ) :
    (sem N).B (lawP ro) ((bodyOf 173).drop 19) ⟨L17 A x g wl Z.a od td h, hp⟩ k := by
  obtain ⟨n, rfl⟩ := pull hN
  have h64 : 1000 ≤ lim := by decide
  have hel := K.el ok
  refine ⟨far_sem (by (first | exact Mine.fu rfl | exact Mine.lm0 (by assumption) rfl | omega)) ok (w0 := A.own) (fr := Z.all (.ref rl) o.length o.length np ((rl, strO []) :: (Z.lis ++ ((od, strO o) :: (td, toldO Z.V (succ W) o) :: (g, geD es) :: (geM es ++ [(A.ws, strO W)]))))) (S.H.perm (by exact pm [_, _, _, _, _, _] [_, _, _, _, _] (.a (.l 0) (.a (.l 1) (.a (.l 2) (.c 0 (.a (.l 3) (.c 1 (.c 2 (.c 3 (.a (.l 4) (.c 4 (.c 5 .n))))))))))) (.c 5 (.a (.l 0) (.a (.l 1) (.a (.l 2) (.c 0 (.a (.l 3) (.c 1 (.c 2 (.c 3 (.a (.l 4) (.c 4 .n))))))))))) rfl)) fun fa es2 hp1 K2 H1 => ?_⟩
  obtain ⟨f1, f2, f3, f4, f5, f6⟩ := fin_facts K K2 zk S.O.nd hO
  have hel2 := K2.el ok
  obtain ⟨hf, hw⟩ := H1.freeze
  refine ⟨.inr ⟨farO es2 (hz W es2.length), (mapI (es2.map fun e => (e.v, hz W es2.length e.v))).map (fun p => [.str p.1]), hf, rfl, by unfold mapI; rw [List.length_map, List.length_map, List.length_map]; exact lin [_, _] (.le (.v 0) (.v 1)) 1 (.c 1 (.le (.n 1000) (.v 1)) (.c 1 (.le (.v 0) (.n 48)) .e)) (Eq.refl true) h64 hel2, fun o => (hw o).1, fun b du => ?_⟩⟩
  have H2 := (hw b).2.push (r := du) (x := dueO W es2.length [])
  clear hw
  refine ⟨fun i => At [("far", .ref fa)] fun hp => Sh hp ((du, dueO W es2.length ((es2.take i).filter fun e => decide (hz W es2.length e.v < es2.length))) :: (fa, .froz b (farO es2 (hz W es2.length))) :: (A.own, strO W) :: Z.all (.ref rl) o.length o.length np ((rl, strO []) :: (Z.lis ++ ((od, strO o) :: (td, toldO Z.V (succ W) o) :: (g, geD es) :: (geM es ++ [(A.ws, strO W)]))))),
    .mk H2, fun i => at1 fun _ h => h.memF (.tail _ (.head _)), fun i us => at2 fun _ hi h kX X => ?_, at1 fun _ h => ?_⟩
  · obtain ⟨e, he, rfl⟩ : ∃ e, es2[i]? = some e ∧ us = [AV.str e.v] := by
      unfold mapI at hi
      rw [List.getElem?_map, List.getElem?_map, List.getElem?_map] at hi
      cases hq : es2[i]? with
      | none => rw [hq] at hi; cases hi
      | some c => rw [hq] at hi; cases hi; exact ⟨c, rfl, rfl⟩
    have hem := List.mem_of_getElem? he
    have hlk := farO_lk (f := hz W es2.length) (List.mem_map_of_mem (f := (·.v)) hem)
    obtain ⟨d1, d2⟩ := dueO_next (W := W) (n := es2.length) K2.nd he (p := fun e => decide (hz W es2.length e.v < es2.length))
    refine ⟨_, _, h.hasF (.tail _ (.head _)), hlk, ?_⟩
    refine ⟨.inr (.inr ⟨_, h.hasF (.tail _ (.head _)), by unfold mapI; rw [List.length_map, List.length_map]; exact lin [_, _] (.le (.v 0) (.v 1)) 1 (.c 1 (.le (.n 1000) (.v 1)) (.c 1 (.le (.v 0) (.n 48)) .e)) (Eq.refl true) h64 hel2, ?_⟩)⟩
    have hfl : (mapI (es2.map fun e => (e.v, hz W es2.length e.v))).length = es2.length := by unfold mapI; rw [List.length_map, List.length_map]
    rw [hfl]
    refine ⟨fun hn => ⟨fun _ => ?_, fun hf => (nomatch hf)⟩, fun hn => ⟨fun hf => (nomatch hf), fun _ => (X.next ["tail"] _ (.mk ?_))⟩⟩
    · refine ⟨_, _, h.hasF (.tail _ (.head _)), hlk, ?_⟩
      refine h.wrK (dueO W es2.length ((es2.take (i + 1)).filter fun e => decide (hz W es2.length e.v < es2.length))) fun hp3 W3 H3 => ?_
      rw [d1 hn] at W3
      refine ⟨_, hp3, W3, ?_, X.next ["tail"] _ (.mk H3)⟩
      have h1 := List.length_filter_le (fun e => decide (hz W es2.length e.v < es2.length)) (es2.take i)
      have h2 := (List.take_sublist i es2).length_le
      unfold mapI; rw [List.length_map, List.length_map]; exact lin [_, _, _, _] (.le (.v 0) (.v 1)) 1 (.c 1 (.le (.n 1000) (.v 1)) (.c 1 (.le (.v 2) (.n 48)) (.c 1 (.le (.v 0) (.v 3)) (.c 1 (.le (.v 3) (.v 2)) .e)))) (Eq.refl true) h64 hel2 h1 h2
    · rw [d2 hn]; exact h
  · have e : ((mapI (es2.map fun e => (e.v, hz W es2.length e.v))).map (fun p => [AV.str p.1])).length = es2.length := by unfold mapI; rw [List.length_map, List.length_map, List.length_map]
    rw [e, List.take_length] at h
    have H5 := (h.perm (o2 := (fa, .froz b (farO es2 (hz W es2.length))) :: Z.all (.ref rl) o.length o.length np ((rl, strO []) :: (du, dueO W es2.length (finL W es2)) :: (A.own, strO W) :: (od, strO o) :: (td, toldO Z.V (succ W) o) :: (g, geD es) :: (A.ws, strO W) :: (Z.lis ++ geM es))) (by exact pm [_, _, _, _, _, _, _, _] [_, _, _, _, _] (.c 0 (.c 1 (.c 2 (.a (.l 0) (.a (.l 1) (.a (.l 2) (.c 3 (.a (.l 3) (.c 4 (.c 5 (.c 6 (.a (.l 4) (.c 7 .n))))))))))))) (.c 1 (.a (.l 0) (.a (.l 1) (.a (.l 2) (.c 3 (.c 0 (.c 2 (.c 4 (.c 5 (.c 6 (.c 7 (.a (.l 3) (.l 4))))))))))))) rfl)).thaw rfl
    refine law_end (by (first | exact Mine.fu rfl | exact Mine.lm0 (by assumption) rfl | omega)) (Z := Z) (W := W) (A := A) (o := o) (pa := o.length) (rl := rl) (np := np) (du := du) (fa := fa) (od := od) (td := td) (g := g) (es := es) (es2 := es2) (fr := Z.lis ++ geM es) ok.len (by rw [f3]; exact Nat.le_trans (List.length_filter_le _ _) hel2) hel hel2 f2 f3 f4 ?_ (H5.perm (by exact pm [_, _, _, _, _, _, _, _] [_, _, _, _, _] (.c 0 (.a (.l 0) (.a (.l 1) (.a (.l 2) (.c 1 (.c 2 (.c 3 (.c 4 (.c 5 (.c 6 (.c 7 (.a (.l 3) (.l 4))))))))))))) (.a (.l 0) (.a (.l 1) (.a (.l 2) (.c 1 (.c 2 (.c 0 (.c 3 (.c 4 (.c 5 (.c 6 (.c 7 (.a (.l 3) (.l 4))))))))))))) rfl)) h0
    rcases hh with ⟨rfl, h1⟩ | ⟨rfl, h1⟩
    · exact (decide_eq_true (f5 h1)).symm
    · exact (decide_eq_false (by rw [f6 h1]; exact Nat.lt_irrefl _)).symm
end Mine
end

section
open PySem PySem.W PyProof.Rows PySem.Calls PySem.Spec
set_option maxRecDepth 100000
set_option maxHeartbeats 2000000
namespace Mine

/-- from a run without a cycle -/
theorem law_free {N : Nat} (hN : 90 ≤ N) {ro hp : HP} {W : List Str} (ok : Wok W) {A : Ad} {x : AV} {g wl rl od : Addr} {Z : Sf} {np : Str → Int} {r : Nat} {o : List Str} {es : List Ge} (K : Wk W es []) (zk : Zok W es Z)
    (S : SS Z (succ W) rl od (frO A W es g) r np [] o hp) (hf : ∀ v ∈ Z.V, ht Z.V (succ W) v < Z.V.length) {k : Fl → AS → Prop} (h0 : ∀ σ, k (.ret (.bool true)) σ) :
    (sem N).B (lawP ro) ((bodyOf 173).drop 17) ⟨L13 A x g wl Z.a od false, hp⟩ k := by
  obtain ⟨n, rfl⟩ := pull hN
  refine ⟨.inl fun td => ?_⟩
  have H1 := Sf.pushR (b := td) (x := toldO Z.V (succ W) []) S.H
  refine ⟨fun hf => (nomatch hf), fun _ => ?_⟩
  have hm : ∀ v, v ∈ o ↔ v ∈ Z.V ∧ ht Z.V (succ W) v < Z.V.length := fun v => by
    rw [S.O.mem]
    exact ⟨fun h => ⟨h.1, h.2.2⟩, fun h => ⟨h.1, all_in zk.K S.R v h.1 h.2, h.2⟩⟩
  refine told_free (by (first | exact Mine.fu rfl | exact Mine.lm0 (by assumption) rfl | omega)) ok K (zk.len K) (o := o) (fr := [(A.ws, strO W), (A.own, strO W)] ++ Z.all (.ref rl) o.length o.length np ((rl, strO []) :: Z.lis)) ⟨S.O.nd, fun v => (hm v).trans ⟨fun h => ⟨h.1, h.2, h.2⟩, fun h => ⟨h.1, h.2.2⟩⟩, S.O.pre⟩ zk.mem (H1.perm (by exact pm [_, _, _, _, _, _] [_, _, _, _, _] (.a (.l 0) (.a (.l 1) (.a (.l 2) (.c 0 (.c 1 (.a (.l 3) (.c 2 (.c 3 (.a (.l 4) (.c 4 (.c 5 .n))))))))))) (.c 2 (.c 0 (.c 3 (.a (.l 4) (.a (.c 4 (.c 5 .n)) (.a (.l 0) (.a (.l 1) (.a (.l 2) (.c 1 (.l 3)))))))))) rfl)) fun hp' H2 => ?_
  exact law_due (by (first | exact Mine.fu rfl | exact Mine.lm0 (by assumption) rfl | omega)) ok (rl := rl) (np := np) (r := r) K zk hm (.inr ⟨rfl, hf⟩) ⟨H2.perm (by exact pm [_, _, _, _, _, _] [_, _, _, _, _] (.c 0 (.c 1 (.c 2 (.a (.l 0) (.a (.c 3 (.c 4 .n)) (.a (.l 1) (.a (.l 2) (.a (.l 3) (.c 5 (.l 4)))))))))) (.a (.l 1) (.a (.l 2) (.a (.l 3) (.c 5 (.a (.l 4) (.c 0 (.c 1 (.c 2 (.a (.l 0) (.c 3 (.c 4 .n))))))))))) rfl), S.R, S.O, S.le⟩ h0
/-- from a run that meets a cycle -/
theorem law_held {N : Nat} (hN : 95 ≤ N) {ro hp : HP} {W : List Str} (ok : Wok W) {A : Ad} {x : AV} {g wl rl od : Addr} {Z : Sf} {np : Str → Int} {rs : List Str} {es : List Ge} (K : Wk W es []) (zk : Zok W es Z)
    (S : SS Z (succ W) rl od (frO A W es g) 0 np rs [] hp) (hf : ∃ v ∈ Z.V, ht Z.V (succ W) v = Z.V.length) {k : Fl → AS → Prop} (h0 : ∀ σ, k (.ret (.bool true)) σ) :
    (sem N).B (lawP ro) ((bodyOf 173).drop 17) ⟨L13 A x g wl Z.a od true, hp⟩ k := by
  obtain ⟨n, rfl⟩ := pull hN
  refine ⟨.inl fun td => ?_⟩
  have H1 := Sf.pushR (b := td) (x := toldO Z.V (succ W) []) S.H
  refine ⟨fun _ => ?_, fun hf => (nomatch hf)⟩
  refine told_held (by (first | exact Mine.fu rfl | exact Mine.lm0 (by assumption) rfl | omega)) zk.ok zk.K (zk.len K) (fr := frO A W es g) (.head _) ⟨Sf.permR H1 (by exact pm [_, _, _] [_, _] (.c 0 (.c 1 (.a (.l 0) (.c 2 (.l 1))))) (.c 1 (.a (.l 0) (.c 2 (.c 0 (.l 1))))) rfl), S.R, S.O, S.le⟩ fun np o hp' S2 => ?_
  exact law_due (by (first | exact Mine.fu rfl | exact Mine.lm0 (by assumption) rfl | omega)) ok K zk (fun v => by
    rw [S2.O.mem]
    exact ⟨fun h => ⟨h.1, h.2.2⟩, fun h => ⟨h.1, h.2, h.2⟩⟩) (.inl ⟨rfl, hf⟩) S2 h0
theorem law_all {ro : HP} (hT : (135, toksO) ∈ ro) {a : Addr} {L : List Int} (hL : L.length ≤ 63) (hro : (a, AO.list (L.map .int)) ∈ ro) {k : Fl → AS → Prop} (h0 : ∀ σ, k (.ret (.bool true)) σ) :
    (sem 140).B (lawP ro) (bodyOf 173) ⟨[("script", .ref a)], []⟩ k := by
  refine law_start (by exact lin [] (.le (.n 125) (.n 140)) 1 .e (Eq.refl true)) hT hL hro fun M R rr rw own num wt ws hp1 hM hR H1 => ?_
  have ok := ownL_ok hR
  refine law_graph (A := ⟨a, rr, rw, own, num, wt, ws⟩) (by exact lin [_] (.le (.n 105) (.v 0)) 1 (.c 1 (.le (.n 110) (.v 0)) .e) (Eq.refl true) hM) ok H1 fun M x g wl es hp2 hM K H2 => ?_
  refine law_try (by exact lin [_] (.le (.n 100) (.v 0)) 1 (.c 1 (.le (.n 100) (.v 0)) .e) (Eq.refl true) hM) ok K H2 (fun M Z rl od r np o hp3 hM zk S hf => ?_) (fun M Z rl od np rs hp3 hM zk S hf => ?_)
  · exact law_free (by exact lin [_] (.le (.n 90) (.v 0)) 1 (.c 1 (.le (.n 95) (.v 0)) .e) (Eq.refl true) hM) ok K zk S hf h0
  · exact law_held (by exact lin [_] (.le (.n 95) (.v 0)) 1 (.c 1 (.le (.n 95) (.v 0)) .e) (Eq.refl true) hM) ok K zk S hf h0
end Mine
end

section
open PySem PySem.W PyProof.Rows PySem.Calls PySem.Spec
set_option maxRecDepth 100000
namespace Mine
theorem toks_eq : toks = toksE.map fun e => (e.1, e.2.2.1) := by decide +kernel
theorem tok_dict (w : World) : toksO.is w (dcO (toksE.map fun e => ne (World.params w) e.1 e.2.1 (.int e.2.2.1 e.2.2.2)).toArray 48) := by
  have nd : (toks.map (·.1)).Nodup := sign_facts.2.2.1
  unfold toksO
  rw [toks_eq] at nd ⊢
  refine ⟨toksE.map fun e => (e.1, .int e.2.2.1 e.2.2.2), ⟨_, _, ⟨rfl, rfl, rfl⟩, rfl, fun e he => ?_, ?_, ?_⟩, ?_⟩
  · rw [List.mem_toArray] at he
    obtain ⟨q, _, rfl⟩ := List.mem_map.mp he
    exact ⟨q.1, strKind_is _ _ _ _, rfl⟩
  · generalize toksE = l
    induction l with
    | nil => exact .nil
    | cons q l ih => exact .cons (strKind_is _ _ _ _) rfl ih
  · rw [List.map_map] at nd ⊢; exact nd
  · generalize toksE = l
    unfold mapI
    induction l with
    | nil => exact .nil
    | cons q l ih => exact .cons ⟨rfl, _, rfl⟩ ih
theorem law_true : PySem.Challenge.rw_pm0074_01.Holds :=
  law_holds [(135, toksO)] (fun w s K p hp => by
    rcases List.mem_singleton.mp hp with rfl
    exact ⟨by decide, _, K 135 _ rfl, tok_dict w⟩) fun a L hL => law_all (ro := (a, .list (L.map .int)) :: [(135, toksO)]) (.tail _ (.head _)) hL (.head _) fun _ => trivial
end Mine
end

theorem PySem.Challenge.cw_pm0074_01_holds : PySem.Challenge.rw_pm0074_01.Holds :=
  Mine.law_true
