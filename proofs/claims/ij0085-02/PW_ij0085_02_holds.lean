import PyProof.Rows.All
import Wide.All
import OpenK.AllK
import Wide.FinOn
import Lean
import PySem.Challenge.RW_ij0085_02
open PySem PySem.W PyProof.Rows
set_option Elab.async false
set_option maxRecDepth 100000
set_option linter.unusedVariables false
set_option linter.unusedSimpArgs false
set_option genSizeOf false
namespace Mine

inductive PV where
  | none | bool (b : Bool) | int (i : Int) | str (l : List Nat)
  | tup (vs : List PV) | list (vs : List PV)
  | star | own (k : Nat) | app (k : Nat)
  deriving Inhabited

/-- a bound list.append -/
noncomputable def appObj (a : Addr) : Obj := { cls := .type "builtin_function_or_method", data := .fields #[.builtin "list.append", .ref a] }

structure RC where
  X : Addr → Prop
  st : Addr
  ads : List Addr

mutual
noncomputable def Rep (C : RC) (h : Heap) : PV → Value → Prop
  | .none, v => v = .none
  | .bool b, v => v = .bool b
  | .int i, v => ∃ t, v = .int i t
  | .str l, v => ∃ s t, v = .str s t ∧ s.cps.toList = l
  | .tup vs, v => ∃ a xs, v = .ref a ∧ ¬ C.X a ∧ h.IsTuple a xs ∧ RepL C h vs xs.toList
  | .list vs, v => ∃ a xs, v = .ref a ∧ ¬ C.X a ∧ h.PlainList a xs ∧ RepL C h vs xs.toList
  | .star, v => v = .ref C.st
  | .own k, v => ∃ a, C.ads[k]? = some a ∧ v = .ref a
  | .app k, v => ∃ a q, C.ads[k]? = some a ∧ v = .ref q ∧ ¬ C.X q ∧ h.get? q = some (appObj a)
noncomputable def RepL (C : RC) (h : Heap) : List PV → List Value → Prop
  | [], l => l = []
  | p :: ps, l => ∃ v r, l = v :: r ∧ Rep C h p v ∧ RepL C h ps r
end

/-- the code table of `_translate`'s code object: the one object of the top that grows -/
noncomputable def PT : Addr := 64
noncomputable def CT : Addr := 68
noncomputable def reA : Addr := 43
noncomputable def reC : Addr := 42
noncomputable def spA : Addr := 52
noncomputable def NoTab (o : Obj) : Prop := ∀ ps : Array Value, o ≠ { cls := .none, data := .fields ps }
theorem noTab_cls {o : Obj} (h : o.cls ≠ .none) : NoTab o := fun _ e => h (by rw [e])
theorem noTab_data {o : Obj} (h : ∀ ps, o.data ≠ .fields ps) : NoTab o := fun ps e => h ps (by rw [e])

/-- an object that is part of a value -/
noncomputable def IsVal (o : Obj) : Prop := (∃ items m, o.data = .seq items m) ∨ ∃ a, o = appObj a
theorem IsVal.noTab {o : Obj} (h : IsVal o) : NoTab o := by
  rcases h with ⟨x, m, h⟩ | ⟨a, rfl⟩
  · exact noTab_data (by rw [h]; nofun)
  · exact noTab_cls nofun
/-- what is kept: every object that is no mutable one -/
noncomputable def KeepsX (X : Addr → Prop) (h h' : Heap) : Prop := ∀ b o, IsVal o → ¬ X b → h.get? b = some o → h'.get? b = some o
/-- the first address above all live ones -/
noncomputable def hszGo (h : Heap) : Nat → Nat
  | 0 => 0
  | n + 1 => if (h.get? n).isSome then n + 1 else hszGo h n
noncomputable def hsz (h : Heap) : Nat := hszGo h h.objs.size
theorem hszGo_lt {h : Heap} {b : Addr} {o : Obj} (e : h.get? b = some o) : ∀ n : Nat, b < n → b < hszGo h n
  | n + 1, hb => by
    unfold hszGo
    split
    · exact hb
    · rename_i hn
      refine hszGo_lt e n ?_
      have : b ≠ n := fun q => by subst q; rw [e] at hn; exact hn rfl
      exact Nat.lt_of_le_of_ne (Nat.le_of_lt_succ hb) this
theorem hsz_lt {h : Heap} {b : Addr} {o : Obj} (e : h.get? b = some o) : b < hsz h := hszGo_lt e _ (Heap.lt_size e)
theorem hszGo_le {h : Heap} {k : Nat} (hk : ∀ b o, h.get? b = some o → (b : Nat) < k) : ∀ n : Nat, hszGo h n ≤ k
  | 0 => Nat.zero_le _
  | n + 1 => by
    unfold hszGo
    split
    · rename_i hn
      obtain ⟨o, e⟩ := Option.isSome_iff_exists.mp hn
      exact hk n o e
    · exact hszGo_le hk n
theorem hsz_le {h : Heap} {k : Nat} (hk : ∀ b o, h.get? b = some o → (b : Nat) < k) : hsz h ≤ k := hszGo_le hk _
theorem hsz_size (h : Heap) : hsz h ≤ h.objs.size := hsz_le fun _ _ e => Heap.lt_size e

/-- nothing but a code table changes -/
structure KN (h h' : Heap) : Prop where
  nt : ∀ b o, NoTab o → h.get? b = some o → h'.get? b = some o
  pt : ∀ b o, b ≠ PT → h.get? b = some o → h'.get? b = some o
  tab : ∀ ps, h.get? PT = some { cls := .none, data := .fields ps } → ∃ more, h'.get? PT = some { cls := .none, data := .fields (ps ++ more) } ∧ (TriplesOk ps.toList → TriplesOk (ps ++ more).toList)
theorem KN.of {h h' : Heap} (hk : ∀ b o, h.get? b = some o → h'.get? b = some o) : KN h h' :=
  ⟨fun b o _ e => hk b o e, fun b o _ e => hk b o e, fun ps e => ⟨#[], by simpa using hk _ _ e, by simp⟩⟩
theorem KN.refl (h : Heap) : KN h h := .of fun _ _ e => e
theorem KN.trans {a b c : Heap} (x : KN a b) (y : KN b c) : KN a c :=
  ⟨fun b o n e => y.nt b o n (x.nt b o n e), fun b o n e => y.pt b o n (x.pt b o n e), fun ps e => by
    obtain ⟨m, e1, t1⟩ := x.tab ps e
    obtain ⟨m', e2, t2⟩ := y.tab _ e1
    exact ⟨m ++ m', by rw [← Array.append_assoc]; exact e2, fun h => by rw [← Array.append_assoc]; exact t2 (t1 h)⟩⟩
theorem KN.live {h h' : Heap} (k : KN h h') {b : Addr} {o : Obj} (e : h.get? b = some o) : ∃ o', h'.get? b = some o' := by
  by_cases hb : b = PT
  · subst hb
    by_cases hn : NoTab o
    · exact ⟨o, k.nt _ _ hn e⟩
    · obtain ⟨ps, hps⟩ : ∃ ps : Array Value, o = { cls := .none, data := .fields ps } := Classical.byContradiction fun q => hn fun ps hp => q ⟨ps, hp⟩
      subst hps
      obtain ⟨m, e', _⟩ := k.tab ps e
      exact ⟨_, e'⟩
  · exact ⟨o, k.pt b o hb e⟩
theorem KN.szle {h h' : Heap} (k : KN h h') : hsz h ≤ hsz h' := hsz_le fun _ _ e => let ⟨_, e'⟩ := k.live e; hsz_lt e'
theorem KN.push (h : Heap) (o : Obj) : KN h (h.push o) := .of fun _ _ e => Heap.get?_push_of_some _ e
theorem KN.ns {h h' : Heap} {a : Addr} {m : Str → Option Value} (k : KN h h') (n : h.Ns a m) : h'.Ns a m :=
  let ⟨o, es, ep, e, hd, r⟩ := n; ⟨o, es, ep, k.nt _ _ (noTab_data (by rw [hd]; nofun)) e, hd, r⟩
theorem KN.cell {h h' : Heap} {c : Addr} {v : Option Value} (k : KN h h') (n : h.IsCell c v) : h'.IsCell c v :=
  let ⟨o, e, hd⟩ := n; ⟨o, k.nt _ _ (noTab_data (by rw [hd]; nofun)) e, hd⟩
theorem KN.isList {h h' : Heap} {a : Addr} {xs : Array Value} (k : KN h h') (n : h.IsList a xs) : h'.IsList a xs :=
  let ⟨o, e, hc, r⟩ := n; ⟨o, k.nt _ _ (noTab_cls (by rw [hc]; nofun)) e, hc, r⟩
theorem KN.plain {h h' : Heap} {a : Addr} {xs : Array Value} (k : KN h h') (n : h.PlainList a xs) : h'.PlainList a xs :=
  let ⟨m, e⟩ := n; ⟨m, k.nt _ _ (noTab_cls nofun) e⟩
theorem KN.func {h h' : Heap} {a : Addr} {o : Obj} {fd : FuncData} (k : KN h h') (e : h.get? a = some o) (hd : o.data = .func fd) : h'.get? a = some o :=
  k.nt _ _ (noTab_data (by rw [hd]; nofun)) e
theorem KN.noLimit {h h' : Heap} (k : KN h h') (n : h.NoLimit) : h'.NoLimit := let ⟨mc, e, r⟩ := n; ⟨mc, k.ns e, r⟩

structure Sub (C C' : RC) (h h' : Heap) : Prop where
  X : ∀ b o, IsVal o → h.get? b = some o → ¬ C.X b → ¬ C'.X b
  st : C'.st = C.st
  ads : ∀ (k : Nat) (a : Addr), C.ads[k]? = some a → C'.ads[k]? = some a
  keep : KeepsX C.X h h'

mutual
theorem Rep.mono {C C' : RC} {h h' : Heap} (S : Sub C C' h h') : ∀ (p : PV) (v : Value), Rep C h p v → Rep C' h' p v
  | .none, v, r => r
  | .bool b, v, r => r
  | .int i, v, r => r
  | .str l, v, r => r
  | .tup vs, v, r => let ⟨a, xs, e, hna, ⟨o, ho, hr⟩, hl⟩ := r
    ⟨a, xs, e, S.X _ _ (.inl ⟨_, _, hr.2.choose_spec⟩) ho hna, ⟨o, S.keep _ _ (.inl ⟨_, _, hr.2.choose_spec⟩) hna ho, hr⟩, RepL.mono S vs _ hl⟩
  | .list vs, v, r => let ⟨a, xs, e, hna, ⟨n, ho⟩, hl⟩ := r
    ⟨a, xs, e, S.X _ _ (.inl ⟨_, _, rfl⟩) ho hna, ⟨n, S.keep _ _ (.inl ⟨_, _, rfl⟩) hna ho⟩, RepL.mono S vs _ hl⟩
  | .star, v, r => Eq.trans r (congrArg Value.ref S.st.symm)
  | .own k, v, r => let ⟨a, h1, h2⟩ := r; ⟨a, S.ads _ _ h1, h2⟩
  | .app k, v, r => let ⟨a, q, h1, h2, h3, h4⟩ := r
    ⟨a, q, S.ads _ _ h1, h2, S.X _ _ (.inr ⟨_, rfl⟩) h4 h3, S.keep _ _ (.inr ⟨_, rfl⟩) h3 h4⟩
theorem RepL.mono {C C' : RC} {h h' : Heap} (S : Sub C C' h h') : ∀ (p : List PV) (v : List Value), RepL C h p v → RepL C' h' p v
  | [], v, r => r
  | p :: ps, v, r => let ⟨w, r', e, h1, h2⟩ := r; ⟨w, r', e, Rep.mono S p w h1, RepL.mono S ps r' h2⟩
end

theorem Sub.of_keep {C : RC} {h h' : Heap} (hk : KN h h') : Sub C C h h' :=
  ⟨fun _ _ _ _ x => x, rfl, fun _ _ x => x, fun b o n _ e => hk.nt b o n.noTab e⟩
theorem Rep.keep {C : RC} {h h' : Heap} {p : PV} {v : Value} (r : Rep C h p v) (hk : KN h h') : Rep C h' p v := Rep.mono (Sub.of_keep hk) p v r
theorem RepL.keep {C : RC} {h h' : Heap} {p : List PV} {v : List Value} (r : RepL C h p v) (hk : KN h h') : RepL C h' p v := RepL.mono (Sub.of_keep hk) p v r

theorem RepL.length {C : RC} {h : Heap} : ∀ {p : List PV} {v : List Value}, RepL C h p v → v.length = p.length
  | [], v, r => by cases r; rfl
  | p :: ps, v, r => by
    obtain ⟨w, r', rfl, _, h2⟩ := r
    exact congrArg (· + 1) (RepL.length h2)
theorem RepL.at {C : RC} {h : Heap} : ∀ {p : List PV} {v : List Value} (i : Nat) (x : PV), RepL C h p v → p[i]? = some x → ∃ y, v[i]? = some y ∧ Rep C h x y
  | [], _, _, _, _, e => nomatch e
  | p :: ps, v, i, x, r, e => by
    obtain ⟨w, r', rfl, h1, h2⟩ := r
    cases i with
    | zero => cases e; exact ⟨w, rfl, h1⟩
    | succ i => exact RepL.at i x h2 e
theorem RepL.append {C : RC} {h : Heap} : ∀ {p q : List PV} {v u : List Value}, RepL C h p v → RepL C h q u → RepL C h (p ++ q) (v ++ u)
  | [], q, v, u, r, r2 => by cases r; exact r2
  | p :: ps, q, v, u, r, r2 => by
    obtain ⟨w, r', rfl, h1, h2⟩ := r
    exact ⟨w, _, rfl, h1, RepL.append h2 r2⟩
theorem RepL.one {C : RC} {h : Heap} {p : PV} {v : Value} (r : Rep C h p v) : RepL C h [p] [v] := ⟨v, [], rfl, r, rfl⟩
theorem RepL.of_at {C : RC} {h : Heap} : ∀ {p : List PV} {v : List Value}, v.length = p.length → (∀ (i : Nat) x y, p[i]? = some x → v[i]? = some y → Rep C h x y) → RepL C h p v
  | [], [], _, _ => rfl
  | [], _ :: _, e, _ => by simp at e
  | _ :: _, [], e, _ => by simp at e
  | p :: ps, v :: vs, e, f => ⟨v, vs, rfl, f 0 p v rfl rfl, RepL.of_at (by simpa using e) fun i x y h1 h2 => f (i + 1) x y (by simpa using h1) (by simpa using h2)⟩
theorem RepL.take {C : RC} {h : Heap} {p : List PV} {v : List Value} (n : Nat) (r : RepL C h p v) : RepL C h (p.take n) (v.take n) := by
  have hl := r.length
  refine RepL.of_at (by simp [hl]) fun i x y h1 h2 => ?_
  rw [List.getElem?_take] at h1 h2
  split at h1
  · rename_i hi
    simp only [hi, if_true] at h2
    obtain ⟨y', e, h⟩ := r.at i x h1
    rw [e] at h2; cases h2; exact h
  · simp at h1
theorem RepL.drop {C : RC} {h : Heap} {p : List PV} {v : List Value} (n : Nat) (r : RepL C h p v) : RepL C h (p.drop n) (v.drop n) := by
  have hl := r.length
  refine RepL.of_at (by simp [hl]) fun i x y h1 h2 => ?_
  rw [List.getElem?_drop] at h1 h2
  obtain ⟨y', e, h⟩ := r.at (n + i) x h1
  rw [e] at h2; cases h2; exact h
theorem RepL.set {C : RC} {h : Heap} {p : List PV} {v : List Value} (n : Nat) {x : PV} {y : Value} (r : RepL C h p v) (rx : Rep C h x y) : RepL C h (p.set n x) (v.set n y) := by
  have hl := r.length
  refine RepL.of_at (by simp [hl]) fun i x' y' h1 h2 => ?_
  rw [List.getElem?_set] at h1 h2
  split at h1
  · rename_i hi
    subst hi
    simp only [if_true] at h2
    split at h1 <;> simp_all
  · rename_i hi
    simp only [hi, if_false] at h2
    obtain ⟨y'', e, h⟩ := r.at i x' h1
    rw [e] at h2; cases h2; exact h

/-! plain data -/
mutual
noncomputable def noOwn : PV → Bool
  | .own _ => false
  | .app _ => false
  | .tup vs => noOwnL vs
  | .list vs => noOwnL vs
  | _ => true
noncomputable def noOwnL : List PV → Bool
  | [] => true
  | p :: ps => noOwn p && noOwnL ps
end
mutual
noncomputable def noStar : PV → Bool
  | .own _ => false
  | .app _ => false
  | .star => false
  | .tup vs => noStarL vs
  | .list vs => noStarL vs
  | _ => true
noncomputable def noStarL : List PV → Bool
  | [] => true
  | p :: ps => noStar p && noStarL ps
end
mutual
theorem Rep.free {C C' : RC} {h : Heap} (hX : C'.X = C.X) (hst : C'.st = C.st) : ∀ (p : PV) (v : Value), noOwn p = true → Rep C h p v → Rep C' h p v
  | .none, v, _, r => r
  | .bool b, v, _, r => r
  | .int i, v, _, r => r
  | .str l, v, _, r => r
  | .tup vs, v, n, r => let ⟨a, xs, e, hna, ht, hl⟩ := r; ⟨a, xs, e, hX ▸ hna, ht, RepL.free hX hst vs _ n hl⟩
  | .list vs, v, n, r => let ⟨a, xs, e, hna, ht, hl⟩ := r; ⟨a, xs, e, hX ▸ hna, ht, RepL.free hX hst vs _ n hl⟩
  | .star, v, _, r => Eq.trans r (congrArg Value.ref hst.symm)
  | .own k, v, n, r => nomatch n
  | .app k, v, n, r => nomatch n
theorem RepL.free {C C' : RC} {h : Heap} (hX : C'.X = C.X) (hst : C'.st = C.st) : ∀ (p : List PV) (v : List Value), noOwnL p = true → RepL C h p v → RepL C' h p v
  | [], v, _, r => r
  | p :: ps, v, n, r => let ⟨w, r', e, h1, h2⟩ := r; ⟨w, r', e, Rep.free hX hst p w (Bool.and_eq_true_iff.mp n).1 h1, RepL.free hX hst ps r' (Bool.and_eq_true_iff.mp n).2 h2⟩
end

/-! towards the library's data -/
mutual
noncomputable def toPD : PV → PyData
  | .none => .none | .bool b => .bool b | .int i => .int i | .str l => .str ⟨l.toArray⟩
  | .tup vs => .tuple (toPDs vs) | .list vs => .list (toPDs vs)
  | _ => .none
noncomputable def toPDs : List PV → List PyData
  | [] => []
  | p :: ps => toPD p :: toPDs ps
end
mutual
theorem Rep.reads {C : RC} {h : Heap} : ∀ (p : PV) (v : Value), noStar p = true → Rep C h p v → ∃ as, Reads h v (toPD p) as
  | .none, v, _, r => ⟨_, by cases r; exact .none⟩
  | .bool b, v, _, r => ⟨_, by cases r; exact .bool b⟩
  | .int i, v, _, r => ⟨_, by obtain ⟨t, rfl⟩ := r; exact .int i t⟩
  | .str l, v, _, r => ⟨_, by obtain ⟨s, t, rfl, rfl⟩ := r; simpa [toPD] using Reads.str s t⟩
  | .tup vs, v, n, r => by
    obtain ⟨a, xs, rfl, _, ⟨o, ho, hc, m, hd⟩, hl⟩ := r
    obtain ⟨as, q⟩ := RepL.reads vs _ n hl
    exact ⟨_, Reads.tuple ho hc hd q⟩
  | .list vs, v, n, r => by
    obtain ⟨a, xs, rfl, _, ⟨m, ho⟩, hl⟩ := r
    obtain ⟨as, q⟩ := RepL.reads vs _ n hl
    exact ⟨_, Reads.list ho rfl rfl q⟩
  | .star, v, n, r => nomatch n
  | .own k, v, n, r => nomatch n
  | .app k, v, n, r => nomatch n
theorem RepL.reads {C : RC} {h : Heap} : ∀ (p : List PV) (v : List Value), noStarL p = true → RepL C h p v → ∃ as, ReadsAll h v (toPDs p) as
  | [], v, _, r => by cases r; exact ⟨_, .nil⟩
  | p :: ps, v, n, r => by
    obtain ⟨w, r', rfl, h1, h2⟩ := r
    obtain ⟨as, q1⟩ := Rep.reads p w (Bool.and_eq_true_iff.mp n).1 h1
    obtain ⟨bs, q2⟩ := RepL.reads ps r' (Bool.and_eq_true_iff.mp n).2 h2
    exact ⟨_, .cons q1 q2⟩
end
end Mine

namespace Mine

noncomputable def LIM : Nat := 1048576

noncomputable def pidx {α : Type} (l : List α) (i : Int) : Option α :=
  if 0 ≤ i then l[i.toNat]? else if 0 ≤ i + l.length then l[(i + l.length).toNat]? else none
noncomputable def pclamp (n : Nat) (i : Int) : Nat := if i < 0 then (i + n).toNat else min i.toNat n
noncomputable def plo (n : Nat) : Option Int → Nat
  | none => 0
  | some i => pclamp n i
noncomputable def phi (n : Nat) : Option Int → Nat
  | none => n
  | some i => pclamp n i
noncomputable def pslice {α : Type} (l : List α) (lo hi : Option Int) : List α := (l.take (phi l.length hi)).drop (plo l.length lo)

noncomputable def asI : PV → Option Int
  | .int i => some i
  | _ => none
noncomputable def asS : PV → Option (List Nat)
  | .str l => some l
  | _ => none
noncomputable def asT : PV → Option (List PV)
  | .tup l => some l
  | _ => none
noncomputable def asOwn : PV → Option Nat
  | .own k => some k
  | _ => none
noncomputable def asApp : PV → Option Nat
  | .app k => some k
  | _ => none
@[simp] theorem asI_int {i : Int} : asI (.int i) = some i := rfl
@[simp] theorem asI_str {l : List Nat} : asI (.str l) = none := rfl
@[simp] theorem asI_list {l : List PV} : asI (.list l) = none := rfl
@[simp] theorem asI_own {k : Nat} : asI (.own k) = none := rfl
@[simp] theorem asS_str {l : List Nat} : asS (.str l) = some l := rfl
@[simp] theorem asS_list {l : List PV} : asS (.list l) = none := rfl
@[simp] theorem asS_tup {l : List PV} : asS (.tup l) = none := rfl
@[simp] theorem asS_int {i : Int} : asS (.int i) = none := rfl
@[simp] theorem asS_own {k : Nat} : asS (.own k) = none := rfl
@[simp] theorem asT_tup {l : List PV} : asT (.tup l) = some l := rfl
@[simp] theorem asT_list {l : List PV} : asT (.list l) = none := rfl
@[simp] theorem asT_own {k : Nat} : asT (.own k) = none := rfl
@[simp] theorem asT_str {l : List Nat} : asT (.str l) = none := rfl
@[simp] theorem asOwn_own {k : Nat} : asOwn (.own k) = some k := rfl
@[simp] theorem asApp_app {k : Nat} : asApp (.app k) = some k := rfl
noncomputable def asL (O : List (Option (List PV))) : PV → Option (List PV)
  | .list vs => some vs
  | .own k => (O[k]?).bind id
  | _ => none
@[simp] theorem asL_list {O : List (Option (List PV))} {l : List PV} : asL O (.list l) = some l := rfl
@[simp] theorem asL_own {O : List (Option (List PV))} {k : Nat} : asL O (.own k) = (O[k]?).bind id := rfl
noncomputable def resO (O : List (Option (List PV))) (v : PV) : PV := match asL O v with
  | some vs => .list vs
  | none => v

inductive PBin where | add | sub | mul | fdiv | mod | pow
inductive PCmp where | eq | ne | lt | le | gt | ge | is | isn | inn | nin
inductive PBi where | len | sum | max2
inductive PMe where | join | split | replace | index

noncomputable def eqI (i : Int) : PV → Bool
  | .int j => i == j
  | .bool b => i == (if b then 1 else 0)
  | _ => false
noncomputable def isNn : PV → Bool
  | .none => true
  | _ => false
noncomputable def isB : PV → Option Int
  | .int i => some i
  | .bool b => some (if b then 1 else 0)
  | _ => none
mutual
noncomputable def pveq : PV → PV → Bool
  | .none, w => isNn w
  | .bool a, w => eqI (if a then 1 else 0) w
  | .int i, w => eqI i w
  | .str x, w => (asS w).any fun y => x == y
  | .list xs, w => (asL [] w).any fun ys => pveqL xs ys
  | .tup xs, w => (asT w).any fun ys => pveqL xs ys
  | _, _ => false
noncomputable def pveqL : List PV → List PV → Bool
  | [], [] => true
  | x :: xs, y :: ys => pveq x y && pveqL xs ys
  | _, _ => false
end

mutual
noncomputable def okD (n : Nat) : PV → Bool
  | .none => true
  | .bool _ => true
  | .int _ => true
  | .str l => l.all fun c => decide (c < 0x110000)
  | .tup vs => decide (0 < n) && okDs (n - 1) vs
  | .list vs => decide (0 < n) && okDs (n - 1) vs
  | _ => false
noncomputable def okDs (n : Nat) : List PV → Bool
  | [] => true
  | p :: ps => okD n p && okDs n ps
end

noncomputable def prepeat {α : Type} (l : List α) (k : Int) : List α := (List.replicate k.toNat l).flatten

noncomputable def pII (f : Int → Int → Option PV) (a b : PV) : Option PV := (asI a).bind fun x => (asI b).bind fun y => f x y
noncomputable def padd (O : List (Option (List PV))) (a b : PV) : Option PV := match asI a with
  | some x => (asI b).map fun y => .int (x + y)
  | none => match asS a with
    | some x => (asS b).bind fun y => if x.length + y.length ≤ LIM then some (.str (x ++ y)) else none
    | none => (asL O a).bind fun x => (asL O b).bind fun y => if x.length + y.length ≤ LIM then some (.list (x ++ y)) else none
noncomputable def pmul (O : List (Option (List PV))) (a b : PV) : Option PV := (asI b).bind fun k => match asI a with
  | some x => if k.natAbs < 2 ^ 62 then some (.int (x * k)) else none
  | none => match asS a with
    | some x => if k.natAbs ≤ 4096 ∧ x.length ≤ 256 then some (.str (prepeat x k)) else none
    | none => (asL O a).bind fun x => if k.natAbs ≤ 256 ∧ x.length ≤ 4096 then some (.list (prepeat x k)) else none
noncomputable def pbin (O : List (Option (List PV))) (op : PBin) (a b : PV) : Option PV := match op with
  | .add => padd O a b
  | .sub => pII (fun a b => some (.int (a - b))) a b
  | .mul => pmul O a b
  | .fdiv => pII (fun a b => if b ≠ 0 ∧ b.natAbs < 1073741824 then some (.int (a.fdiv b)) else none) a b
  | .mod => pII (fun a b => if b ≠ 0 ∧ b.natAbs < 1073741824 then some (.int (a.fmod b)) else none) a b
  | .pow => pII (fun a b => if 0 ≤ b ∧ b ≤ 16 ∧ 0 < a ∧ a ≤ 16 then some (.int (a ^ b.toNat)) else none) a b

noncomputable def pisIn {α : Type} [BEq α] (x : List α) : List α → Bool
  | [] => x.isEmpty
  | c :: r => x.isPrefixOf (c :: r) || pisIn x r

noncomputable def pinL (a : PV) (vs : List PV) : Option Bool := if okDs 8 vs && okD 8 a then some (vs.any fun y => pveq y a) else none
noncomputable def pin (O : List (Option (List PV))) (a b : PV) : Option Bool := match asS b with
  | some y => (asS a).map fun x => pisIn x y
  | none => match asT b with
    | some vs => pinL a vs
    | none => (asL O b).bind (pinL a)
noncomputable def peqD (O : List (Option (List PV))) (a b : PV) : Option Bool := if okD 8 (resO O a) && okD 8 (resO O b) then some (pveq (resO O a) (resO O b)) else none
noncomputable def peq (O : List (Option (List PV))) (a b : PV) : Option Bool := match asI a, asI b with
  | some i, some j => some (i == j)
  | _, _ => match asS a, asS b with
    | some x, some y => some (x == y)
    | _, _ => peqD O a b
noncomputable def pisN : PV → Option Bool
  | .none => some true
  | .star => none
  | .app _ => none
  | _ => some false
noncomputable def pisS : PV → Option Bool
  | .star => some true
  | .str _ => some false
  | _ => none
noncomputable def pis (a : PV) : PV → Option Bool
  | .none => pisN a
  | .star => pisS a
  | _ => none
noncomputable def pcI (f : Int → Int → Bool) (a b : PV) : Option Bool := (asI a).bind fun x => (asI b).map fun y => f x y

noncomputable def pcmp (O : List (Option (List PV))) (op : PCmp) (a b : PV) : Option Bool :=
  match op with
  | .eq => peq O a b
  | .ne => (peq O a b).map (!·)
  | .inn => pin O a b
  | .nin => (pin O a b).map (!·)
  | .is => pis a b
  | .isn => (pis a b).map (!·)
  | .lt => pcI (fun i j => decide (i < j)) a b
  | .gt => pcI (fun i j => decide (j < i)) a b
  | .le => pcI (fun i j => decide (i ≤ j)) a b
  | .ge => pcI (fun i j => decide (j ≤ i)) a b

noncomputable def ptruth (O : List (Option (List PV))) : PV → Option Bool
  | .none => some false
  | .bool b => some b
  | .int i => some (decide (i ≠ 0))
  | .str l => if l.length ≤ LIM then some (!l.isEmpty) else none
  | .tup l => if l.length ≤ LIM then some (!l.isEmpty) else none
  | v => (asL O v).bind fun l => if l.length ≤ LIM then some (!l.isEmpty) else none

noncomputable def pitem (O : List (Option (List PV))) (a i : PV) : Option PV := (asI i).bind fun i => if i.natAbs < 2 ^ 62 then
    (match asS a with
    | some l => (pidx l i).map fun c => .str [c]
    | none => match asT a with
      | some l => pidx l i
      | none => (asL O a).bind fun l => pidx l i)
  else none

noncomputable def ppart : PV → Option (Option Int)
  | .none => some none
  | .int i => some (some i)
  | _ => none
noncomputable def pslc (O : List (Option (List PV))) (a lo hi : PV) : Option PV := (ppart lo).bind fun lo => (ppart hi).bind fun hi => match asS a with
  | some l => if l.length ≤ LIM then some (.str (pslice l lo hi)) else none
  | none => match asT a with
    | some l => lo.bind fun k => if hi.isNone = true ∧ l.length ≤ LIM ∧ 1 ≤ k ∧ k ≤ l.length then some (.tup (l.drop k.toNat)) else none
    | none => (asL O a).bind fun l => if l.length ≤ LIM then some (.list (pslice l lo hi)) else none

noncomputable def pints : List PV → Option (List Int)
  | [] => some []
  | v :: r => (asI v).bind fun i => (pints r).map (i :: ·)
noncomputable def pstrs : List PV → Option (List (List Nat))
  | [] => some []
  | v :: r => (asS v).bind fun l => (pstrs r).map (l :: ·)
noncomputable def pone : List PV → Option PV
  | [] => none
  | v :: r => if r.isEmpty then some v else none

noncomputable def plen (O : List (Option (List PV))) (v : PV) : Option PV := match asS v with
  | some l => if l.length < 2 ^ 62 then some (.int l.length) else none
  | none => match asT v with
    | some l => if l.length < 2 ^ 62 then some (.int l.length) else none
    | none => (asL O v).bind fun l => if l.length < 2 ^ 62 then some (.int l.length) else none
noncomputable def ptwo : List PV → Option (PV × PV)
  | [] => none
  | v :: r => (pone r).map fun u => (v, u)
noncomputable def pbi (O : List (Option (List PV))) (b : PBi) (as : List PV) : Option PV := match b with
  | .len => (pone as).bind (plen O)
  | .sum => (pone as).bind fun v => ((asL O v).bind pints).map fun l => .int l.sum
  | .max2 => (ptwo as).bind fun p => (asI p.1).bind fun a => (asI p.2).bind fun b => some (.int (if a < b then b else a))

noncomputable def psplitGo (sep : List Nat) : Nat → List Nat → List Nat → List (List Nat)
  | _, acc, [] => [acc.reverse]
  | skip + 1, acc, _ :: r => psplitGo sep skip acc r
  | 0, acc, c :: r => if sep.isPrefixOf (c :: r) then acc.reverse :: psplitGo sep (sep.length - 1) [] r else psplitGo sep 0 (c :: acc) r
noncomputable def psplit (sep l : List Nat) : List (List Nat) := psplitGo sep 0 [] l
noncomputable def pjoin (sep : List Nat) : List (List Nat) → List Nat
  | [] => []
  | [x] => x
  | x :: y :: r => x ++ sep ++ pjoin sep (y :: r)
noncomputable def preplace (x a b : List Nat) : List Nat := pjoin b (psplit a x)

noncomputable def pindex (O : List (Option (List PV))) (o x : PV) : Option PV := (asL O o).bind fun vs => if okDs 8 vs && (okD 8 x && decide (vs.length ≤ LIM)) then (vs.findIdx? fun y => pveq y x).map fun (i : Nat) => .int i else none
noncomputable def pme (O : List (Option (List PV))) (m : PMe) (o : PV) (as : List PV) : Option PV := match m with
  | .join => (asS o).bind fun l => (pone as).bind fun v => ((asL O v).bind pstrs).bind fun ls => if (ls.map List.length).sum + ls.length * l.length ≤ LIM then some (.str (pjoin l ls)) else none
  | .split => (asS o).bind fun l => (pone as).bind fun v => (asS v).bind fun sep => if sep.isEmpty || decide (LIM < l.length) then none else some (.list ((psplit sep l).map .str))
  | .replace => (asS o).bind fun l => (ptwo as).bind fun p => (asS p.1).bind fun a => (asS p.2).bind fun _ => if pisIn a l then none else some (.str l)
  | .index => (pone as).bind (pindex O o)

set_option genInjectivity false
mutual
inductive PE where
  | cn | cb (b : Bool) | ci (i : Int) | cs (l : List Nat)
  | var (i : Nat)
  | bin (op : PBin) (a b : PE)
  | cmp (op : PCmp) (a b : PE)
  | and2 (a b : PE) | or2 (a b : PE) | not (a : PE)
  | ite (c a b : PE)
  | idx (a i : PE) | sl (a lo hi : PE)
  | tup (es : PEs) | lst (es : PEs)
  | call (f : String) (es : PEs)
  | bi (b : PBi) (es : PEs)
  | me (m : PMe) (o : PE) (es : PEs)
  | comp (elt : PE) (x : Nat) (it : PIt) (cs : PEs) (fr : List (Option Nat))
  | fstr (es : PEs)
  | resub (e : PE)
  | isstr (e : PE) | spec (e : PE)
inductive PEs where
  | nil | cons (e : PE) (r : PEs)
inductive PIt where
  | val (e : PE) | rng (es : PEs)
end

noncomputable def mapO {α β : Type} (f : α → Option (Option β)) : List α → Option (List β)
  | [] => some []
  | x :: r => (f x).bind fun o => match o with
    | some y => (mapO f r).map (y :: ·)
    | none => mapO f r

noncomputable def prange (a b : Int) : List PV := (List.range (b - a).toNat).map fun k : Nat => .int (a + k)
noncomputable def prng : List PV → Option (List PV)
  | [] => none
  | v :: r => (asI v).bind fun x => match r with
    | [] => if x.natAbs ≤ LIM then some (prange 0 x) else none
    | u :: q => (asI u).bind fun y => if q.isEmpty ∧ x.natAbs ≤ LIM ∧ y.natAbs ≤ LIM then some (prange x y) else none
noncomputable abbrev PF1 := String → List PV → Option PV
noncomputable abbrev Slots := List (Option PV)
noncomputable abbrev Owns := List (Option (List PV))

noncomputable def piter (O : Owns) (v : PV) : Option (List PV) := match asS v with
  | some l => some (l.map fun c => .str [c])
  | none => match asT v with
    | some l => some l
    | none => asL O v

/-- the signs that escape marks -/
noncomputable def specials : List Nat := [40, 41, 91, 93, 123, 125, 63, 42, 43, 45, 124, 94, 36, 92, 46, 38, 126, 35, 32, 9, 10, 13, 11, 12]
noncomputable def pesc (c : Nat) : List Nat := if specials.contains c then [92, c] else [c]

noncomputable def pspec : List Nat → Option PV
  | [] => none
  | c :: r => if r.isEmpty then some (.str (pesc c)) else none

mutual
noncomputable def ev (F : PF1) (O : Owns) (G : Slots) : PE → Option PV
  | .cn => some .none
  | .cb b => some (.bool b)
  | .ci i => some (.int i)
  | .cs l => some (.str l)
  | .var i => (G[i]?).bind id
  | .bin op a b => (ev F O G a).bind fun x => (ev F O G b).bind fun y => pbin O op x y
  | .cmp op a b => (ev F O G a).bind fun x => (ev F O G b).bind fun y => (pcmp O op x y).map .bool
  | .and2 a b => (ev F O G a).bind fun x => (ptruth O x).bind fun t => if t then ev F O G b else some x
  | .or2 a b => (ev F O G a).bind fun x => (ptruth O x).bind fun t => if t then some x else ev F O G b
  | .not a => (ev F O G a).bind fun x => (ptruth O x).map fun t => .bool (!t)
  | .ite c a b => (pt F O G c).bind fun t => if t then ev F O G a else ev F O G b
  | .idx a i => (ev F O G a).bind fun x => (ev F O G i).bind fun y => pitem O x y
  | .sl a lo hi => (ev F O G a).bind fun x => (ev F O G lo).bind fun y => (ev F O G hi).bind fun z => pslc O x y z
  | .tup es => (evs F O G es).map .tup
  | .lst es => (evs F O G es).map .list
  | .call f es => (evs F O G es).bind fun vs => if noOwnL vs then F f vs else none
  | .bi b es => (evs F O G es).bind fun vs => pbi O b vs
  | .me m o es => (ev F O G o).bind fun x => (evs F O G es).bind fun vs => pme O m x vs
  | .comp elt x it cs fr => (evI F O G it).bind fun its =>
      (mapO (fun v => (pts F O ((fr.map fun j => j.bind fun j => (G[j]?).bind id).set x (some v)) cs).bind fun t =>
        if t then (ev F O ((fr.map fun j => j.bind fun j => (G[j]?).bind id).set x (some v)) elt).map some else some none) its).map .list
  | .fstr es => (evs F O G es).bind fun vs => (pstrs vs).bind fun ls => if (ls.map List.length).sum ≤ LIM then some (.str ls.flatten) else none
  | .resub e => (ev F O G e).bind fun v => F "%sub" [v]
  | .isstr e => (ev F O G e).bind fun v => (asS v).map fun _ => .bool true
  | .spec e => (ev F O G e).bind fun v => (asS v).bind pspec
noncomputable def evs (F : PF1) (O : Owns) (G : Slots) : PEs → Option (List PV)
  | .nil => some []
  | .cons e r => (ev F O G e).bind fun v => (evs F O G r).map (v :: ·)
noncomputable def evI (F : PF1) (O : Owns) (G : Slots) : PIt → Option (List PV)
  | .val e => (ev F O G e).bind fun v => (piter O v).bind fun l => if l.length ≤ LIM then some l else none
  | .rng es => (evs F O G es).bind prng
noncomputable def pts (F : PF1) (O : Owns) (G : Slots) : PEs → Option Bool
  | .nil => some true
  | .cons e r => (pt F O G e).bind fun t => if t then pts F O G r else some false
noncomputable def pt (F : PF1) (O : Owns) (G : Slots) : PE → Option Bool
  | .not a => (pt F O G a).map (!·)
  | .and2 a b => (pt F O G a).bind fun t => if t then pt F O G b else some false
  | .or2 a b => (pt F O G a).bind fun t => if t then some true else pt F O G b
  | .cmp op a b => (ev F O G a).bind fun x => (ev F O G b).bind fun y => pcmp O op x y
  | .var i => ((G[i]?).bind id).bind (ptruth O)
  | .cb b => some b
  | .isstr e => (ev F O G e).bind fun v => (asS v).map fun _ => true
  | .call f es => (evs F O G es).bind fun vs => if noOwnL vs then (F f vs).bind (ptruth O) else none
  | _ => none
end

noncomputable def evIF (F : PF1) (O : Owns) (G : Slots) : PIt → Option (List PV)
  | .val e => (ev F O G e).bind fun v => (piter [] v).bind fun l => if l.length ≤ LIM then some l else none
  | .rng es => (evs F O G es).bind prng

inductive PF where
  | next | brk | ret (v : PV)

mutual
inductive PS where
  | asg (i : Nat) (e : PE)
  | asgo (i : Nat) (es : PEs)
  | asgt (is : List Nat) (es : PEs)
  | asga (i j : Nat)
  | asg2 (i j : Nat) (e : PE)
  | aug (i : Nat) (op : PBin) (e : PE)
  | app (i : Nat) (e : PE)
  | appf (i : Nat) (e : PE)
  | ite (c : PE) (a b : PSs)
  | wh (c : PE) (a : PSs)
  | fr (i : Nat) (it : PIt) (a : PSs)
  | ret (e : PE) | brk
  | asrt (c : PE)
inductive PSs where
  | nil | cons (p : PS) (r : PSs)
end

structure St where
  G : Slots
  O : Owns

noncomputable def St.put (σ : St) (i : Nat) (v : PV) : St := ⟨σ.G.set i (some v), σ.O⟩
noncomputable def St.putO (σ : St) (k : Nat) (vs : List PV) : St := ⟨σ.G, σ.O.set k (some vs)⟩
noncomputable def St.new (σ : St) (i : Nat) (vs : List PV) : St := ⟨σ.G.set i (some (.own σ.O.length)), σ.O ++ [some vs]⟩
noncomputable def St.own (σ : St) (k : Nat) : Option (Nat × List PV) := ((σ.O[k]?).bind id).map fun vs => (k, vs)
noncomputable def St.ownAt (σ : St) (i : Nat) : Option (Nat × List PV) := ((σ.G[i]?).bind id).bind fun v => (asOwn v).bind σ.own
noncomputable def St.appAt (σ : St) (i : Nat) : Option (Nat × List PV) := ((σ.G[i]?).bind id).bind fun v => (asApp v).bind σ.own

/-- every own list frozen -/
noncomputable def frzV (O : Owns) (v : PV) : PV := match (asOwn v).bind fun k => (O[k]?).bind id with
  | some vs => .list vs
  | none => v

noncomputable def frzN (O : Owns) (v : PV) : Option PV := if noOwn (frzV O v) then some (frzV O v) else none

noncomputable def whIt (test : St → Option Bool) (body : St → Option (St × PF)) : Nat → St → Option (St × PF)
  | 0, _ => none
  | n + 1, σ => (test σ).bind fun t => if t then (body σ).bind fun r => (match r.2 with
      | .next => whIt test body n r.1
      | .brk => some (r.1, .next)
      | .ret v => some (r.1, .ret v)) else some (σ, .next)
noncomputable def frIt (i : Nat) (body : St → Option (St × PF)) : List PV → St → Option (St × PF)
  | [], σ => some (σ, .next)
  | v :: r, σ => (body (σ.put i v)).bind fun q => match q.2 with
      | .next => frIt i body r q.1
      | .brk => some (q.1, .next)
      | .ret v => some (q.1, .ret v)

noncomputable def putAll : List Nat → List PV → St → Option St
  | [], vs, σ => if vs.isEmpty then some σ else none
  | i :: is, vs, σ => match vs with
    | [] => none
    | v :: r => putAll is r (σ.put i v)

noncomputable def plain2 (x y : PV) : Bool := ((asI x).isSome && (asI y).isSome) || ((asS x).isSome && (asS y).isSome)
mutual
noncomputable def ex (n : Nat) (F : PF1) : PS → St → Option (St × PF)
  | .asg i e, σ => (ev F σ.O σ.G e).map fun v => (σ.put i v, .next)
  | .asgo i es, σ => (evs F σ.O σ.G es).map fun vs => (σ.new i vs, .next)
  | .asgt is es, σ => (evs F σ.O σ.G es).bind fun vs => (putAll is vs σ).map fun σ' => (σ', .next)
  | .asga i j, σ => (σ.ownAt j).map fun k => (σ.put i (.app k.1), .next)
  | .asg2 i j e, σ => (ev F σ.O σ.G e).map fun v => ((σ.put i v).new j [], .next)
  | .aug i op e, σ => (ev F σ.O σ.G (.var i)).bind fun x => (ev F σ.O σ.G e).bind fun y => if plain2 x y then (pbin σ.O op x y).map fun v => (σ.put i v, .next) else none
  | .app i e, σ => (σ.ownAt i).bind fun k => (ev F σ.O σ.G e).bind fun v => if k.2.length ≤ LIM then some (σ.putO k.1 (k.2 ++ [v]), .next) else none
  | .appf i e, σ => (σ.appAt i).bind fun k => (ev F σ.O σ.G e).bind fun v => if k.2.length ≤ LIM then some (σ.putO k.1 (k.2 ++ [v]), .next) else none
  | .ite c a b, σ => (pt F σ.O σ.G c).bind fun t => if t then exs n F a σ else exs n F b σ
  | .wh c a, σ => whIt (fun σ => pt F σ.O σ.G c) (fun σ => exs n F a σ) n σ
  | .fr i it a, σ => (evIF F σ.O σ.G it).bind fun its => frIt i (fun σ => exs n F a σ) its σ
  | .ret e, σ => (ev F [] (σ.G.map fun v => v.bind (frzN σ.O)) e).map fun v => (σ, .ret v)
  | .brk, σ => some (σ, .brk)
  | .asrt c, σ => (pt F σ.O σ.G c).bind fun t => if t then some (σ, .next) else none
noncomputable def exs (n : Nat) (F : PF1) : PSs → St → Option (St × PF)
  | .nil, σ => some (σ, .next)
  | .cons p r, σ => (ex n F p σ).bind fun q => match q.2 with
    | .next => exs n F r q.1
    | .brk => some (q.1, .brk)
    | .ret v => some (q.1, .ret v)
end

/-- a def's call: its parameters stand first among its names -/
noncomputable def pfun (n : Nat) (F : PF1) (names : Nat) (body : PSs) (args : List PV) : Option PV :=
  (exs n F body ⟨args.map some ++ List.replicate (names - args.length) none, []⟩).bind fun q => match q.2 with
  | .ret v => if noOwn v then some v else none
  | .next => some .none
  | .brk => none
end Mine

namespace Mine

theorem nn {α : Type} {x : α} {P : Prop} (h : (none : Option α) = some x) : P := nomatch h
theorem ite_some {α : Type} {c : Prop} [Decidable c] {a : Option α} {b : α} (h : (if c then a else none) = some b) : c ∧ a = some b := by
  by_cases hc : c
  · rw [if_pos hc] at h; exact ⟨hc, h⟩
  · rw [if_neg hc] at h; cases h
theorem ite_no {α : Type} {c : Prop} [Decidable c] {a : Option α} {b : α} (h : (if c then none else a) = some b) : ¬ c ∧ a = some b := by
  by_cases hc : c
  · rw [if_pos hc] at h; cases h
  · rw [if_neg hc] at h; exact ⟨hc, h⟩
theorem and_t {a b : Bool} (h : (a && b) = true) : a = true ∧ b = true := by
  cases a
  · cases h
  · exact ⟨rfl, h⟩

/-! views -/
noncomputable def vName : (e : Expr) → Option {z : Str × Pos // e = .Name z.1 z.2}
  | .Name x p => some ⟨(x, p), rfl⟩
  | _ => none
noncomputable def vAttr : (e : Expr) → Option {z : Expr × Str × Pos // e = .Attribute z.1 z.2.1 z.2.2}
  | .Attribute o m p => some ⟨(o, m, p), rfl⟩
  | _ => none
noncomputable def vLam : (e : Expr) → Option {z : Arguments × Expr × Scope × Pos // e = .Lambda z.1 z.2.1 z.2.2.1 z.2.2.2}
  | .Lambda a b s p => some ⟨(a, b, s, p), rfl⟩
  | _ => none
noncomputable def vCall : (e : Expr) → Option {z : Expr × List Expr × Pos // e = .Call z.1 z.2.1 [] z.2.2}
  | .Call g as ks p => (match ks with
    | [] => some ⟨(g, as, p), rfl⟩
    | _ :: _ => none)
  | _ => none
noncomputable def vTup : (e : Expr) → Option {z : List Expr × Nat × Pos // e = .Tuple z.1 z.2.1 z.2.2}
  | .Tuple es k p => some ⟨(es, k, p), rfl⟩
  | _ => none
noncomputable def vLst : (e : Expr) → Option {z : List Expr × Pos // e = .List z.1 z.2}
  | .List es p => some ⟨(es, p), rfl⟩
  | _ => none
noncomputable def vComp : (e : Expr) → Option {z : Expr × List Comprehension × Scope × Pos // e = .ListComp z.1 z.2.1 z.2.2.1 z.2.2.2}
  | .ListComp a g s p => some ⟨(a, g, s, p), rfl⟩
  | _ => none
noncomputable def vFV : (e : Expr) → Option {z : Expr × Pos // e = .FormattedValue z.1 (-1) none z.2}
  | .FormattedValue v cv sp p => (match sp with
    | none => if h : cv = -1 then some ⟨(v, p), by rw [h]⟩ else none
    | some _ => none)
  | _ => none
noncomputable def vStr : (e : Expr) → Option {z : Str × Nat × Pos // e = .Constant (.str z.1) z.2.1 z.2.2}
  | .Constant c k p => (match c with
    | .str s => some ⟨(s, k, p), rfl⟩
    | _ => none)
  | _ => none
noncomputable def vInt : (e : Expr) → Option {z : Int × Nat × Pos // e = .Constant (.int z.1) z.2.1 z.2.2}
  | .Constant c k p => (match c with
    | .int s => some ⟨(s, k, p), rfl⟩
    | _ => none)
  | _ => none
noncomputable def vSlice : (e : Expr) → Option {z : Option Expr × Option Expr × Pos // e = .Slice z.1 z.2.1 none z.2.2}
  | .Slice lo hi st p => (match st with
    | none => some ⟨(lo, hi, p), rfl⟩
    | some _ => none)
  | _ => none
noncomputable def one {α : Type} : (l : List α) → Option {z : α // l = [z]}
  | [] => none
  | a :: r => (match r with
    | [] => some ⟨a, rfl⟩
    | _ :: _ => none)
noncomputable def two {α : Type} : (l : List α) → Option {z : α × α // l = [z.1, z.2]}
  | [] => none
  | a :: r => (one r).map fun b => ⟨(a, b.1), congrArg (a :: ·) b.2⟩
noncomputable def three {α : Type} : (l : List α) → Option {z : α × α × α // l = [z.1, z.2.1, z.2.2]}
  | [] => none
  | a :: r => (two r).map fun b => ⟨(a, b.1), congrArg (a :: ·) b.2⟩

noncomputable def isSlot : NameKind → Bool
  | .local => true
  | .cell => true
  | .free => true
  | _ => false
noncomputable def slotOf (sc : Scope) (x : Str) : Option Nat :=
  (sc.names.lookup x).bind fun k => if isSlot k then sc.names.findIdx? fun p => p.1 == x else none
noncomputable def isGl (sc : Scope) (x : Str) : Bool := sc.names.lookup x == some .globalImplicit

noncomputable def cBin : Operator → Option PBin
  | .Add => some .add | .Sub => some .sub | .Mult => some .mul | .FloorDiv => some .fdiv | .Mod => some .mod | .Pow => some .pow | _ => none
noncomputable def cCmp : CmpOp → PCmp
  | .Eq => .eq | .NotEq => .ne | .Lt => .lt | .LtE => .le | .Gt => .gt | .GtE => .ge | .Is => .is | .IsNot => .isn | .In => .inn | .NotIn => .nin
noncomputable def cBi (f : Str) (n : Nat) : Option PBi := if n == 1 then (if f == "len" then some .len else if f == "sum" then some .sum else none) else if n == 2 && f == "max" then some .max2 else none
noncomputable def cMe (f : Str) (n : Nat) : Option PMe := if f == "join" && n == 1 then some .join else if f == "split" && n == 1 then some .split else if f == "replace" && n == 2 then some .replace else if f == "index" && n == 1 then some .index else none
noncomputable def dbg (x : Str) : Bool := x == ("__debug__" : Str) || x == ("__classdict__" : Str)

noncomputable def PEs.len : PEs → Nat
  | .nil => 0
  | .cons _ r => r.len + 1

noncomputable def noSuper (e : Expr) : Bool := (vCall e).all fun z => (vName z.1.1).isNone || !z.1.2.1.isEmpty
/-- what a comprehension's own names must be -/
noncomputable def compOk (sc sc2 : Scope) (x : Str) : Bool :=
  sc2.kind == .function && (slotOf sc2 "stuff").isNone && sc2.names.lookup x == some .local && sc2.names.all fun p => match p.2 with
    | .local => sc2.names.lookup p.1 == some .local
    | .free => sc.names.lookup p.1 == some .cell || sc.names.lookup p.1 == some .free
    | .cell => false
    | _ => true
noncomputable def noSet : Expr → Bool
  | .Set .. => false
  | _ => true
noncomputable def isStar : Expr → Bool
  | .Starred _ _ => true
  | _ => false
noncomputable def NoStars (l : List Expr) : Bool := l.all fun e => !isStar e

noncomputable def fnTab : List (Str × String) := (["replace", "escape", "translate", "_translate", "_join_translated_parts", "_law_signs", "_law_most", "_law_mirror", "_law_ends", "_law_rows", "_law_run"] : List String).map fun x => (Str.ofString x, x)

/-- isinstance(e, str) -/
noncomputable def isI (sc : Scope) (f : Str) (args : List Expr) : Option {z : Expr × Str × Pos // args = [z.1, .Name z.2.1 z.2.2] ∧ (f == "isinstance" && (z.2.1 == "str" && (isGl sc "isinstance" && (isGl sc "str" && NoStars [z.1])))) = true} :=
  (two args).bind fun z => (vName z.1.2).bind fun n => if h : (f == "isinstance" && (n.1.1 == "str" && (isGl sc "isinstance" && (isGl sc "str" && NoStars [z.1.1])))) = true then some ⟨(z.1.1, n.1.1, n.1.2), z.2.trans (congrArg (fun q => [z.1.1, q]) n.2), h⟩ else none
/-- .translate(_special_chars_map) -/
noncomputable def isT (sc : Scope) (m : Str) (args : List Expr) : Option {z : Str × Pos // args = [.Name z.1 z.2] ∧ (m == "translate" && (z.1 == "_special_chars_map" && isGl sc "_special_chars_map")) = true} :=
  (one args).bind fun z => (vName z.1).bind fun n => if h : (m == "translate" && (n.1.1 == "_special_chars_map" && isGl sc "_special_chars_map")) = true then some ⟨n.1, z.2.trans (congrArg (fun q => [q]) n.2), h⟩ else none

/-- a lambda without defaults and without names of the function around it -/
noncomputable def lamOk (ps : Arguments) (lsc : Scope) : Bool := ps.kw_defaults.isEmpty && ps.defaults.isEmpty && lsc.names.all fun p => p.2 != .free

noncomputable def cO (f : Expr → Option PE) : Option Expr → Option PE
  | none => some .cn
  | some e => f e
noncomputable def cEs (f : Expr → Option PE) : List Expr → Option PEs
  | [] => some .nil
  | e :: r => (f e).bind fun e => (cEs f r).map fun r => .cons e r
noncomputable def cFs (f : Expr → Option PE) : List Expr → Option PEs
  | [] => some .nil
  | e :: r => (match vFV e with
    | some z => (f z.1.1).bind fun e => (cFs f r).map fun r => .cons e r
    | none => (vStr e).bind fun z => (cFs f r).map fun r => .cons (.cs z.1.1.cps.toList) r)
/-- range(..) -/
noncomputable def rngOf (sc : Scope) (e : Expr) : Option {z : Str × Pos × List Expr × Pos // e = .Call (.Name z.1 z.2.1) z.2.2.1 [] z.2.2.2 ∧ (z.1 == "range" && (isGl sc "range" && NoStars z.2.2.1)) = true} :=
  (vCall e).bind fun c => (vName c.1.1).bind fun n => if h : (n.1.1 == "range" && (isGl sc "range" && NoStars c.1.2.1)) = true then some ⟨(n.1.1, n.1.2, c.1.2.1, c.1.2.2), c.2.trans (congrArg (fun g => Expr.Call g c.1.2.1 [] c.1.2.2) n.2), h⟩ else none
noncomputable def cI (sc : Scope) (f : Expr → Option PE) (e : Expr) : Option PIt := match rngOf sc e with
  | some z => (cEs f z.1.2.2.1).map .rng
  | none => (f e).map .val
noncomputable def cConst : Const → Option PE
  | .none => some .cn
  | .bool b => some (.cb b)
  | .int i => some (.ci i)
  | .str s => some (.cs s.cps.toList)
  | _ => none
noncomputable def cBool (f : Expr → Option PE) (op : BoolOp) (es : List Expr) : Option PE := match op with
  | .And => (two es).bind fun z => (f z.1.1).bind fun a => (f z.1.2).map fun b => .and2 a b
  | .Or => match two es with
    | some z => (f z.1.1).bind fun a => (f z.1.2).map fun b => .or2 a b
    | none => (three es).bind fun z => (f z.1.1).bind fun a => (f z.1.2.1).bind fun b => (f z.1.2.2).map fun c => .or2 a (.or2 b c)
noncomputable def cUn (f : Expr → Option PE) (op : UnaryOp) (a : Expr) : Option PE := match op with
  | .Not => (f a).map .not
  | .USub => (vInt a).map fun z => .ci (-z.1.1)
  | _ => none
noncomputable def cCmpE (f : Expr → Option PE) (a : Expr) (ops : List CmpOp) (bs : List Expr) : Option PE := (one ops).bind fun op => (one bs).bind fun b => (f a).bind fun pa => (f b.1).map fun pb => .cmp (cCmp op.1) pa pb
noncomputable def cSub (f : Expr → Option PE) (v i : Expr) : Option PE := match vSlice i with
  | some z => (f v).bind fun v => (cO f z.1.1).bind fun lo => (cO f z.1.2.1).map fun hi => .sl v lo hi
  | none => (f v).bind fun v => (f i).map fun i => .idx v i
noncomputable def lastStar (l : List Expr) : Bool := (two l).any fun z => isStar z.1.2
noncomputable def isGenE : Expr → Bool
  | .GeneratorExp .. => true
  | _ => false
noncomputable def isGen (l : List Expr) : Bool := (one l).any fun z => isGenE z.1
/-- a node that never evaluates -/
noncomputable def badE : PE := .idx .cn .cn
noncomputable def cCallN (F : Expr → Option PE) (sc : Scope) (f : Str) (args : List Expr) : Option PE :=
  if lastStar args then some badE else match isI sc f args with
    | some z => (F z.1.1).map .isstr
    | none => if isGl sc f && (!dbg f && NoStars args) then (match cBi f args.length with
      | some b => (cEs F args).map fun as => .bi b as
      | none => (fnTab.lookup f).bind fun g => (cEs F args).map fun as => .call g as) else none
noncomputable def subCond (sc : Scope) (r m : Str) (ps : Arguments) (lsc : Scope) (ap p : Pos) (e : Expr) : Bool :=
  m == "sub" && (r == "_twin_re_1" && (isGl sc "_twin_re_1" && ((slotOf sc "stuff").isSome && (lamOk ps lsc && (ap.endLine == p.line && NoStars [e])))))
noncomputable def subOf (sc : Scope) (o : Expr) (m : Str) (ap p : Pos) (args : List Expr) : Option {e : Expr // ∃ r rp ps b lsc lp, o = .Name r rp ∧ args = [.Lambda ps b lsc lp, e] ∧ subCond sc r m ps lsc ap p e = true} :=
  (two args).bind fun z => (vName o).bind fun n => (vLam z.1.1).bind fun l => if h : subCond sc n.1.1 m l.1.1 l.1.2.2.1 ap p z.1.2 = true then
    some ⟨z.1.2, n.1.1, n.1.2, l.1.1, l.1.2.1, l.1.2.2.1, l.1.2.2.2, n.2, z.2.trans (congrArg (fun q => [q, z.1.2]) l.2), h⟩ else none
noncomputable def cCallA (F : Expr → Option PE) (sc : Scope) (o : Expr) (m : Str) (ap p : Pos) (args : List Expr) : Option PE :=
  if m == "join" && isGen args then some badE else match subOf sc o m ap p args with
    | some e => (F e.1).map .resub
    | none => match isT sc m args with
      | some _ => if noSuper o && ap.endLine == p.line then (F o).map .spec else none
      | none => if noSuper o && (ap.endLine == p.line && NoStars args) then (cMe m args.length).bind fun m => (F o).bind fun o => (cEs F args).map fun as => .me m o as else none
noncomputable def cCall (F : Expr → Option PE) (sc : Scope) (g : Expr) (args : List Expr) (p : Pos) : Option PE := match vName g with
  | some z => cCallN F sc z.1.1 args
  | none => (vAttr g).bind fun z => cCallA F sc z.1.1 z.1.2.1 z.1.2.2 p args
theorem comp1 {g : Comprehension} {t : Expr} (h : g.target = t) (h2 : g.is_async = 0) : [g] = [⟨t, g.iter, g.ifs, 0⟩] := by
  cases g; cases h; cases h2; rfl
theorem attr1 {o o' : Expr} {m m' : Str} {p : Pos} (h : o = o') (h2 : m = m') : Expr.Attribute o m p = .Attribute o' m' p := by
  subst h; subst h2; rfl
noncomputable def genOf (gs : List Comprehension) : Option {z : (Str × Pos) × Expr × List Expr // gs = [⟨.Name z.1.1 z.1.2, z.2.1, z.2.2, 0⟩]} :=
  (one gs).bind fun g => (vName g.1.target).bind fun n => if h : g.1.is_async = 0 then some ⟨(n.1, g.1.iter, g.1.ifs), g.2.trans (comp1 n.2 h)⟩ else none
noncomputable def cFr (sc sc2 : Scope) : List (Option Nat) := sc2.names.map fun p => if p.2 == .free then slotOf sc p.1 else none
noncomputable def cComp (fn : Scope → Expr → Option PE) (sc : Scope) (elt : Expr) (gs : List Comprehension) (sc2 : Scope) : Option PE := (genOf gs).bind fun z =>
  if compOk sc sc2 z.1.1.1 && noSet z.1.2.1 then
      (slotOf sc2 z.1.1.1).bind fun i => (cI sc (fn sc) z.1.2.1).bind fun it => (fn sc2 elt).bind fun elt => (cEs (fn sc2) z.1.2.2).map fun cs => .comp elt i it cs (cFr sc sc2)
  else none
noncomputable def cJ (f : Expr → Option PE) : List Expr → Option PE
  | [] => none
  | e1 :: r => (match r with
    | [] => none
    | e2 :: es => (cFs f (e1 :: e2 :: es)).map .fstr)
noncomputable def cE1 (fn : Scope → Expr → Option PE) (sc : Scope) (e : Expr) : Option PE := match e with
  | .Constant c _ _ => cConst c
  | .Name x _ => if dbg x then none else (slotOf sc x).map .var
  | .BinOp l op r _ => (fn sc l).bind fun a => (fn sc r).bind fun b => (cBin op).map fun o => .bin o a b
  | .BoolOp op es _ => cBool (fn sc) op es
  | .UnaryOp op a _ => cUn (fn sc) op a
  | .IfExp c a b _ => (fn sc c).bind fun c => (fn sc a).bind fun a => (fn sc b).map fun b => .ite c a b
  | .Compare a ops bs _ => cCmpE (fn sc) a ops bs
  | .Subscript v i _ => cSub (fn sc) v i
  | .Tuple es _ _ => (cEs (fn sc) es).bind fun ps => if ps.len ≤ 64 && NoStars es then some (.tup ps) else none
  | .List es _ => (cEs (fn sc) es).bind fun ps => if ps.len ≤ 64 && NoStars es then some (.lst ps) else none
  | .Call g as ks p => (match ks with
    | [] => cCall (fn sc) sc g as p
    | _ :: _ => none)
  | .ListComp elt gs sc2 _ => cComp fn sc elt gs sc2
  | .JoinedStr es _ => cJ (fn sc) es
  | _ => none
noncomputable def cE : Nat → Scope → Expr → Option PE
  | 0, _, _ => none
  | n + 1, sc, e => cE1 (cE n) sc e

noncomputable def E.names : List Expr → Option (List Str)
  | [] => some []
  | e :: r => (vName e).bind fun z => (E.names r).map (z.1.1 :: ·)

noncomputable def noComp : Expr → Bool
  | .ListComp .. | .SetComp .. | .DictComp .. => false
  | _ => true
noncomputable def tupOk (vs : List Expr) : Bool := vs.all (foldedForSure 8) || !(vs.all (constantsAlone 8))
noncomputable def slots (sc : Scope) : List Str → Option (List Nat)
  | [] => some []
  | x :: xs => (slotOf sc x).bind fun i => (slots sc xs).map (i :: ·)
/-- a statement that is never reached -/
noncomputable def badS : PS := .asrt (.idx .cn .cn)

noncomputable def cSs (f : Stmt → Option PS) : List Stmt → Option PSs
  | [] => some .nil
  | s :: r => (cSs f r).map fun r => .cons ((f s).getD badS) r
noncomputable def popOf (x : Str) (g : Expr) (args : List Expr) : Option {z : (Str × Pos) × Pos × Expr // g = .Attribute (.Name z.1.1 z.1.2) x z.2.1 ∧ args = [z.2.2]} :=
  (one args).bind fun e => (vAttr g).bind fun a => (vName a.1.1).bind fun n => if h : a.1.2.1 = x then some ⟨(n.1, a.1.2.2, e.1), a.2.trans (attr1 n.2 h), e.2⟩ else none
noncomputable def oneArg (g : Expr) (args : List Expr) : Option {z : (Str × Pos) × Expr // g = .Name z.1.1 z.1.2 ∧ args = [z.2]} :=
  (one args).bind fun e => (vName g).map fun n => ⟨(n.1, e.1), n.2, e.2⟩
noncomputable def cAsgE (fn : Scope → Expr → Option PE) (sc : Scope) (x : Str) (v : Expr) : Option PS := if noComp v then (slotOf sc x).bind fun i => (fn sc v).map fun e => .asg i e else none
noncomputable def cAsgO (fn : Scope → Expr → Option PE) (sc : Scope) (x : Str) (es : List Expr) : Option PS := (slotOf sc x).bind fun i => if NoStars es then (cEs (fn sc) es).bind fun es => if es.len ≤ 64 then some (.asgo i es) else none else none
noncomputable def cAsgA (sc : Scope) (x : Str) (o : Expr) (m : Str) : Option PS := (vName o).bind fun n => if m == "append" && !dbg n.1.1 then (slotOf sc x).bind fun i => (slotOf sc n.1.1).map fun j => .asga i j else none
noncomputable def cAsgN (mu : List Str) (fn : Scope → Expr → Option PE) (sc : Scope) (x : Str) (v : Expr) : Option PS := match vComp v with
  | some z => (slotOf sc x).bind fun j => (cComp fn sc z.1.1 z.1.2.1 z.1.2.2.1).map fun e => .asg j e
  | none => match vAttr v with
    | some z => cAsgA sc x z.1.1 z.1.2.1
    | none => match vLst v with
      | some z => if mu.contains x then cAsgO fn sc x z.1.1 else cAsgE fn sc x v
      | none => cAsgE fn sc x v
noncomputable def cAsgT (fn : Scope → Expr → Option PE) (sc : Scope) (ts vs : List Expr) : Option PS := (E.names ts).bind fun xs => (slots sc xs).bind fun is => (cEs (fn sc) vs).bind fun es =>
  if decide is.Nodup && (NoStars vs && (decide (es.len ≤ 64) && tupOk vs)) then some (.asgt is es) else none
/-- x, y = e, [] -/
noncomputable def emptyOf (vs : List Expr) : Option {z : Expr × Pos // vs = [z.1, .List [] z.2]} := (two vs).bind fun z => (vLst z.1.2).bind fun l => if h : l.1.1.isEmpty = true then some ⟨(z.1.1, l.1.2), z.2.trans (congrArg (fun q => [z.1.1, q]) (l.2.trans (congrArg (fun q => Expr.List q l.1.2) (List.isEmpty_iff.mp h))))⟩ else none
noncomputable def cAsg2 (fn : Scope → Expr → Option PE) (sc : Scope) (ts : List Expr) (e : Expr) (vs : List Expr) : Option PS := (E.names ts).bind fun xs => (slots sc xs).bind fun is => (two is).bind fun z => (fn sc e).bind fun p =>
  if decide (z.1.1 ≠ z.1.2) && (NoStars vs && tupOk vs) then some (.asg2 z.1.1 z.1.2 p) else none
noncomputable def cAsgT' (mu : List Str) (fn : Scope → Expr → Option PE) (sc : Scope) (ts vs : List Expr) : Option PS := match emptyOf vs with
  | some z => if (E.names ts).any (fun xs => xs.any fun x => mu.contains x) then cAsg2 fn sc ts z.1.1 vs else cAsgT fn sc ts vs
  | none => cAsgT fn sc ts vs
noncomputable def cAsg (mu : List Str) (n : Nat) (sc : Scope) (ts : List Expr) (v : Expr) : Option PS := (one ts).bind fun t => match vName t.1 with
  | some z => cAsgN mu (cE n) sc z.1.1 v
  | none => (vTup t.1).bind fun z => (vTup v).bind fun y => cAsgT' mu (cE n) sc z.1.1 y.1.1
noncomputable def cAppf (f : Expr → Option PE) (sc : Scope) (x : Str) (e : Expr) : Option PS := if dbg x then none else if NoStars [e] then (slotOf sc x).bind fun i => (f e).map fun e => .appf i e else none
noncomputable def cApp (f : Expr → Option PE) (sc : Scope) (x : Str) (ap p : Pos) (e : Expr) : Option PS := if ap.endLine == p.line && (!dbg x && NoStars [e]) then (slotOf sc x).bind fun i => (f e).map fun e => .app i e else none
noncomputable def cExprS (f : Expr → Option PE) (sc : Scope) (e : Expr) : Option PS := (vCall e).bind fun z => match popOf "append" z.1.1 z.1.2.1 with
  | some y => cApp f sc y.1.1.1 y.1.2.1 z.1.2.2 y.1.2.2
  | none => (oneArg z.1.1 z.1.2.1).bind fun y => cAppf f sc y.1.1.1 y.1.2
noncomputable def isAdd : Operator → Bool
  | .Add => true
  | _ => false
noncomputable def cAug (mu : List Str) (f : Expr → Option PE) (sc : Scope) (t : Expr) (e : Expr) : Option PS := (vName t).bind fun z => if mu.contains z.1.1 then none else if dbg z.1.1 then none else (slotOf sc z.1.1).bind fun i => (f e).map fun e => .aug i .add e
noncomputable def cFor (f : Expr → Option PE) (go : Stmt → Option PS) (sc : Scope) (t it : Expr) (a : List Stmt) : Option PS := (vName t).bind fun z => if noSet it then (slotOf sc z.1.1).bind fun i => (cI sc f it).bind fun it => (cSs go a).map fun a => .fr i it a else none
noncomputable def cS1 (mu : List Str) (n : Nat) (go : Stmt → Option PS) (sc : Scope) (st : Stmt) : Option PS := match st with
  | .Assign ts v _ => cAsg mu n sc ts v
  | .AugAssign t op e _ => (match op with
    | .Add => cAug mu (cE n sc) sc t e
    | _ => none)
  | .Expr e _ => cExprS (cE n sc) sc e
  | .If c a b _ => (cE n sc c).bind fun c => (cSs go a).bind fun a => (cSs go b).map fun b => .ite c a b
  | .While c a els _ => (match els with
    | [] => (cE n sc c).bind fun c => (cSs go a).map fun a => .wh c a
    | _ :: _ => none)
  | .For t it a els _ => (match els with
    | [] => cFor (cE n sc) go sc t it a
    | _ :: _ => none)
  | .Return v _ => v.bind fun e => (cE n sc e).map .ret
  | .Break _ => some .brk
  | .Assert c _ _ => (cE n sc c).map .asrt
  | _ => none
noncomputable def cS (mu : List Str) : Nat → Scope → Stmt → Option PS
  | 0, _, _ => none
  | n + 1, sc, st => cS1 mu n (cS mu n sc) sc st

noncomputable def findDef (p : Program) (f : Str) : Option (Arguments × List Stmt × Scope) :=
  p.main.body.findSome? fun s => match s with
    | .FunctionDef name args body _ _ _ scope _ _ _ => if name == f then some (args, body, scope) else none
    | _ => none
end Mine

namespace Mine

noncomputable def Keeps (s s' : Shared) : Prop := ∃ h' tk gn, s' = { s with heap := h', toks := tk, gens := gn } ∧ KN s.heap h' ∧ (AllBare s.gens → AllBare gn)
theorem kof {s s' : Shared} (k : PySem.Keeps s s') : Keeps s s' := let ⟨h', tk, e, hk⟩ := k; ⟨h', tk, s.gens, e, .of hk, id⟩
theorem kp {s : Shared} {k : Nat} : Keeps s { s with toks := k } := ⟨s.heap, k, s.gens, rfl, .refl _, id⟩
theorem kpush {s : Shared} {o : Obj} {k : Nat} : Keeps s { s with heap := s.heap.push o, toks := k } := ⟨_, _, s.gens, rfl, .push _ _, id⟩
theorem krefl (s : Shared) : Keeps s s := ⟨s.heap, s.toks, s.gens, rfl, .refl _, id⟩
theorem ktrans {a b c : Shared} (x : Keeps a b) (y : Keeps b c) : Keeps a c := by
  obtain ⟨h, t, g, rfl, k, q⟩ := x
  obtain ⟨h', t', g', rfl, k', q'⟩ := y
  exact ⟨h', t', g', rfl, k.trans k', fun x => q' (q x)⟩
theorem kheap {a b : Shared} (x : Keeps a b) : KN a.heap b.heap := by
  obtain ⟨h, t, g, rfl, k, _⟩ := x; exact k

structure Room (n : Nat) (A : Around) : Prop where
  handled : A.handled = none
  depth : A.depth + n < recursionLimit
  units : A.units + 200 + 20 * n < cLine

/-- what a value is when it stands as a result -/
noncomputable abbrev Post (C : RC) (s : Shared) (pv : PV) : Value → Shared → Prop := fun v s' => Keeps s s' ∧ Rep C s'.heap pv v
noncomputable abbrev noE : Value → Shared → Prop := fun _ _ => False

structure Owned (C : RC) (O : Owns) (h : Heap) : Prop where
  own : ∀ (k : Nat) vs, O[k]? = some (some vs) → ∃ a xs, C.ads[k]? = some a ∧ h.PlainList a xs ∧ RepL C h vs xs.toList
  lt : ∀ b, C.X b → ∃ o, NoTab o ∧ h.get? b = some o

theorem Owned.keep {C : RC} {O : Owns} {h h' : Heap} (W : Owned C O h) (hk : KN h h') : Owned C O h' :=
  ⟨fun k vs e => let ⟨a, xs, h1, h2, h3⟩ := W.own k vs e; ⟨a, xs, h1, hk.plain h2, h3.keep hk⟩, fun b hb => let ⟨o, n, e⟩ := W.lt b hb; ⟨o, n, hk.nt _ _ n e⟩⟩
theorem Owned.fresh {C : RC} {O : Owns} {h : Heap} (W : Owned C O h) : ¬ C.X h.objs.size := fun hx => let ⟨_, _, e⟩ := W.lt _ hx; Nat.lt_irrefl _ (Heap.lt_size e)

theorem asI_eq {v : PV} {i : Int} (h : asI v = some i) : v = .int i := by cases v <;> first | (cases h; rfl) | cases h
theorem asS_eq {v : PV} {l : List Nat} (h : asS v = some l) : v = .str l := by cases v <;> first | (cases h; rfl) | cases h
theorem asT_eq {v : PV} {l : List PV} (h : asT v = some l) : v = .tup l := by cases v <;> first | (cases h; rfl) | cases h
theorem asOwn_eq {v : PV} {k : Nat} (h : asOwn v = some k) : v = .own k := by cases v <;> first | (cases h; rfl) | cases h
theorem asApp_eq {v : PV} {k : Nat} (h : asApp v = some k) : v = .app k := by cases v <;> first | (cases h; rfl) | cases h
theorem rep_asI {C : RC} {h : Heap} {v : PV} {i : Int} {u : Value} (e : asI v = some i) (r : Rep C h v u) : ∃ t, u = .int i t := by
  cases asI_eq e; exact r
theorem rep_asS {C : RC} {h : Heap} {v : PV} {l : List Nat} {u : Value} (e : asS v = some l) (r : Rep C h v u) : ∃ s t, u = .str s t ∧ s.cps.toList = l := by
  cases asS_eq e; exact r
theorem rep_asT {C : RC} {h : Heap} {v : PV} {l : List PV} {u : Value} (e : asT v = some l) (r : Rep C h v u) : ∃ a xs, u = .ref a ∧ ¬ C.X a ∧ h.IsTuple a xs ∧ RepL C h l xs.toList ∧ xs.size = l.length := by
  cases asT_eq e
  obtain ⟨a, xs, h1, h2, h3, h4⟩ := r
  exact ⟨a, xs, h1, h2, h3, h4, h4.length⟩
theorem asL_rep {C : RC} {O : Owns} {h : Heap} (W : Owned C O h) {v : PV} {u : Value} {vs : List PV} (hv : asL O v = some vs) (r : Rep C h v u) :
    ∃ a xs, u = .ref a ∧ h.PlainList a xs ∧ RepL C h vs xs.toList := by
  cases v with
  | list l =>
    cases hv
    obtain ⟨a, xs, rfl, _, hp, hl⟩ := r
    exact ⟨a, xs, rfl, hp, hl⟩
  | own k =>
    obtain ⟨q, e, hv⟩ := Option.bind_eq_some_iff.mp hv
    cases hv
    obtain ⟨a, ha, rfl⟩ := r
    obtain ⟨a', xs, h1, h2, h3⟩ := W.own k _ e
    rw [ha] at h1; cases h1
    exact ⟨a, xs, rfl, h2, h3⟩
  | _ => cases hv
theorem asL_rep' {C : RC} {O : Owns} {h : Heap} (W : Owned C O h) {v : PV} {u : Value} {vs : List PV} (hv : asL O v = some vs) (r : Rep C h v u) :
    ∃ a xs, u = .ref a ∧ h.PlainList a xs ∧ RepL C h vs xs.toList ∧ xs.size = vs.length :=
  let ⟨a, xs, e, p, l⟩ := asL_rep W hv r; ⟨a, xs, e, p, l, l.length⟩

theorem rep_str {C : RC} {h : Heap} {s : Str} {t : Tok} : Rep C h (.str s.cps.toList) (.str s t) := ⟨s, t, rfl, rfl⟩
theorem rep_str' {C : RC} {h : Heap} {l : List Nat} {s : Str} {t : Tok} (e : s.cps.toList = l) : Rep C h (.str l) (.str s t) := ⟨s, t, rfl, e⟩
theorem rep_int {C : RC} {h : Heap} {i : Int} {t : Tok} : Rep C h (.int i) (.int i t) := ⟨t, rfl⟩
theorem rep_bool {C : RC} {h : Heap} {b : Bool} : Rep C h (.bool b) (.bool b) := rfl
theorem rep_none {C : RC} {h : Heap} : Rep C h .none .none := rfl
theorem rep_list {C : RC} {h : Heap} {vs : List PV} {xs : List Value} {a : Addr} (hx : ¬ C.X a) (hp : h.PlainList a xs.toArray) (hl : RepL C h vs xs) : Rep C h (.list vs) (.ref a) :=
  ⟨a, xs.toArray, rfl, hx, hp, hl⟩
theorem rep_new {C : RC} {O : Owns} {h : Heap} (W : Owned C O h) {vs : List PV} {xs : List Value} (hl : RepL C h vs xs) :
    Rep C (h.push { cls := .type "list", data := .seq xs.toArray }) (.list vs) (.ref h.objs.size) :=
  rep_list W.fresh ⟨_, Heap.get?_push_size _ rfl⟩ (hl.keep (.push _ _))
theorem rep_newT {C : RC} {O : Owns} {h : Heap} (W : Owned C O h) {vs : List PV} {xs : List Value} (hl : RepL C h vs xs) :
    Rep C (h.push { cls := .type "tuple", data := .seq xs.toArray }) (.tup vs) (.ref h.objs.size) :=
  ⟨_, xs.toArray, rfl, W.fresh, ⟨_, Heap.get?_push_size _ rfl, rfl, _, rfl⟩, hl.keep (.push _ _)⟩

theorem str_len (s : Str) : s.length = s.cps.toList.length := by simp [Str.length]
theorem lim_size : LIM ≤ sizeLine := by rw [sizeLine_eq]; decide

theorem foldl_replicate {α : Type} (xs : Array α) : ∀ n : Nat, ∀ acc : Array α, ((List.replicate n xs).foldl (fun a b => a ++ b) acc).toList = acc.toList ++ (List.replicate n xs.toList).flatten
  | 0, acc => by simp
  | n + 1, acc => by
    rw [List.replicate_succ, List.foldl_cons, foldl_replicate xs n]
    simp [List.replicate_succ]

theorem RepL.flatrep {C : RC} {h : Heap} {vs : List PV} {xs : List Value} (r : RepL C h vs xs) : ∀ n : Nat, RepL C h (List.replicate n vs).flatten (List.replicate n xs).flatten
  | 0 => by simp [RepL]
  | n + 1 => by
    rw [List.replicate_succ, List.replicate_succ, List.flatten_cons, List.flatten_cons]
    exact r.append (RepL.flatrep r n)

section
variable {prog : Program} {w : World} {A : Around} {s : Shared} {C : RC} {O : Owns} {n : Nat}

theorem mul_listP {l : Addr} {items : Array Value} {x : Int} {u : Tok} {Q : Value → Shared → Prop} {E : Value → Shared → Prop}
    (hl : s.heap.PlainList l items) (hlo : -(2 ^ 63 : Int) ≤ x) (hhi : x < 2 ^ 63) (hsz : items.size * x.toNat ≤ 2 ^ 24)
    (h : Q (.ref s.heap.objs.size) { s with heap := s.heap.push { cls := .type "list", data := .seq (List.foldl (fun x1 x2 => x1 ++ x2) #[] (List.replicate (if items.isEmpty = true then 0 else x.toNat) items)) } }) :
    wpAny (model prog w) A (binaryOp .Mult (.ref l) (.int x u)) Q E s := by
  obtain ⟨k, hl⟩ := hl
  exact wpAny_binaryOp_repeat_ref (T := "list") (U := "int") (by decide) ⟨_, hl, rfl⟩ (fun s' => typeIs_int s' x u) noFill_list_mul F.fills_int_mul F.slot_int_rmul repeat_list F.slot_int_index.lookup
    (call_meets F.slot_int_rmul (typeIs_int s x u) F.entry_int_rmul (F.args_int_rmul_2 _ _) (int___rmul___int_list x u l items k)
      ⟨hl, rfl, ⟨_, hl, rfl⟩, call_meets F.slot_list_mul ⟨_, hl, rfl⟩ F.entry_list_mul (F.args_list_mul_2 _ _)
        (AutoListH.list___mul___list_int_3 l items k x u (by simp [Builtin.List.listFitsIndex]; lia) (by lia) (by simp [Builtin.List.listTooLong, sizeLine]; lia))
        ⟨hl, h⟩⟩)

theorem mul_str_ok {x : Str} {t u : Tok} {b : Int} (hb : b.natAbs ≤ 4096) (hl : x.cps.toList.length ≤ 256) :
    wpAny (model prog w) A (binaryOp .Mult (.str x t) (.int b u)) (Post C s (.str (prepeat x.cps.toList b))) noE s := by
  have hl' : x.length ≤ 256 := by rw [str_len]; exact hl
  refine SB.mul ⟨by simp only [Bool.or_eq_false_iff, decide_eq_false_iff_not]; lia, fun h1 h2 => ?_, fun h1 h2 => ?_⟩ (fun t' k => ⟨kp, rep_str' ?_⟩)
  · have : (x.length : Int) ≤ (2 ^ 63 - 1) / b := by
      apply Int.le_ediv_of_mul_le (by lia)
      have h3 : (x.length : Int) * b ≤ 256 * 4096 := Int.mul_le_mul (by lia) (by lia) (by lia) (by lia)
      lia
    lia
  · have h3 : x.length * b.toNat ≤ 256 * 4096 := Nat.mul_le_mul hl' (by lia)
    simp [Builtin.Str.tooLong, sizeLine]; lia
  · unfold Txt.mul prepeat
    split
    · rename_i h; rw [show b.toNat = 0 by lia]; rfl
    · rename_i h
      split
      · rename_i h2
        simp only [Bool.or_eq_true, beq_iff_eq] at h2
        rcases h2 with h2 | h2
        · subst h2; simp
        · have : x.cps.toList = [] := by
            rw [str_len] at h2; exact List.length_eq_zero_iff.mp h2
          rw [this]; simp
      · rw [foldl_replicate]; simp

theorem add_list_ok {x y : PV} {u v : Value} {a b : List PV} (ha : asL O x = some a) (hb : asL O y = some b) (hsz : a.length + b.length ≤ LIM) (hx : Rep C s.heap x u) (hy : Rep C s.heap y v) (W : Owned C O s.heap) :
    wpAny (model prog w) A (binaryOp .Add u v) (Post C s (.list (a ++ b))) noE s := by
  obtain ⟨p, xs, rfl, ⟨m, hp⟩, hl, e1⟩ := asL_rep' W ha hx
  obtain ⟨q, ys, rfl, ⟨m', hq⟩, hl', e2⟩ := asL_rep' W hb hy
  refine P.add_list hp hq ⟨kpush, ?_⟩ (by rw [e1, e2]; exact Nat.le_trans hsz lim_size)
  have e : xs ++ ys = (xs.toList ++ ys.toList).toArray := by simp
  rw [e]
  exact rep_new W (hl.append hl')
theorem mul_list_ok {x : PV} {u : Value} {a : List PV} {b : Int} {t : Tok} (ha : asL O x = some a) (hsz : b.natAbs ≤ 256 ∧ a.length ≤ 4096) (hx : Rep C s.heap x u) (W : Owned C O s.heap) :
    wpAny (model prog w) A (binaryOp .Mult u (.int b t)) (Post C s (.list (prepeat a b))) noE s := by
  obtain ⟨p, xs, rfl, hp, hl, e1⟩ := asL_rep' W ha hx
  have hb : b.toNat ≤ 256 := by lia
  have hm : xs.size * b.toNat ≤ 4096 * 256 := Nat.mul_le_mul (by rw [e1]; exact hsz.2) hb
  refine mul_listP hp (by lia) (by lia) (by lia) ⟨kpush, ?_⟩
  have e : List.foldl (fun x1 x2 => x1 ++ x2) #[] (List.replicate (if xs.isEmpty = true then 0 else b.toNat) xs) = ((List.replicate b.toNat xs.toList).flatten).toArray := by
    apply Array.ext'
    rw [foldl_replicate]
    by_cases hem : xs.isEmpty = true
    · have : xs = #[] := by simpa using hem
      subst this
      simp
    · rw [if_neg hem]; rfl
  rw [e]
  exact rep_new W (hl.flatrep _)
theorem pII_ok {f : Int → Int → Option PV} {x y r : PV} {u v : Value} {o : Operator} (hr : pII f x y = some r) (hx : Rep C s.heap x u) (hy : Rep C s.heap y v)
    (h : ∀ i j t t', f i j = some r → wpAny (model prog w) A (binaryOp o (.int i t) (.int j t')) (Post C s r) noE s) : wpAny (model prog w) A (binaryOp o u v) (Post C s r) noE s := by
  obtain ⟨i, e1, hr⟩ := Option.bind_eq_some_iff.mp hr
  obtain ⟨j, e2, hr⟩ := Option.bind_eq_some_iff.mp hr
  obtain ⟨t, rfl⟩ := rep_asI e1 hx
  obtain ⟨t', rfl⟩ := rep_asI e2 hy
  exact h i j t t' hr
theorem add_ok {x y r : PV} {u v : Value} (hr : padd O x y = some r) (hx : Rep C s.heap x u) (hy : Rep C s.heap y v) (W : Owned C O s.heap) :
    wpAny (model prog w) A (binaryOp .Add u v) (Post C s r) noE s := by
  unfold padd at hr
  cases h1 : asI x with
  | some i =>
    rw [h1] at hr
    obtain ⟨j, e2, rfl⟩ := Option.map_eq_some_iff.mp hr
    obtain ⟨t, rfl⟩ := rep_asI h1 hx
    obtain ⟨t', rfl⟩ := rep_asI e2 hy
    exact add_int ⟨kp, rep_int⟩
  | none =>
    rw [h1] at hr
    cases h2 : asS x with
    | some a =>
      rw [h2] at hr
      obtain ⟨b, e2, hr⟩ := Option.bind_eq_some_iff.mp hr
      obtain ⟨hb, hr⟩ := ite_some hr
      cases hr
      obtain ⟨x, t, rfl, rfl⟩ := rep_asS h2 hx
      obtain ⟨y, t', rfl, rfl⟩ := rep_asS e2 hy
      refine add_str (fun t' tk => ⟨kp, rep_str' ?_⟩) (by rw [str_len, str_len]; exact Nat.le_trans hb lim_size)
      exact Array.toList_append
    | none =>
      rw [h2] at hr
      obtain ⟨a, e1, hr⟩ := Option.bind_eq_some_iff.mp hr
      obtain ⟨b, e2, hr⟩ := Option.bind_eq_some_iff.mp hr
      obtain ⟨hb, hr⟩ := ite_some hr
      cases hr
      exact add_list_ok e1 e2 hb hx hy W
theorem mul_ok {x y r : PV} {u v : Value} (hr : pmul O x y = some r) (hx : Rep C s.heap x u) (hy : Rep C s.heap y v) (W : Owned C O s.heap) :
    wpAny (model prog w) A (binaryOp .Mult u v) (Post C s r) noE s := by
  obtain ⟨k, e2, hr⟩ := Option.bind_eq_some_iff.mp hr
  obtain ⟨t', rfl⟩ := rep_asI e2 hy
  cases h1 : asI x with
  | some i =>
    rw [h1] at hr
    obtain ⟨hb, hr⟩ := ite_some hr
    cases hr
    obtain ⟨t, rfl⟩ := rep_asI h1 hx
    exact mul_int ⟨kp, rep_int⟩ (IntMulOk.of_right (intBits_le_64 (by lia) (by lia)))
  | none =>
    rw [h1] at hr
    cases h2 : asS x with
    | some a =>
      rw [h2] at hr
      obtain ⟨hb, hr⟩ := ite_some hr
      cases hr
      obtain ⟨x, t, rfl, rfl⟩ := rep_asS h2 hx
      exact mul_str_ok hb.1 hb.2
    | none =>
      rw [h2] at hr
      obtain ⟨a, e1, hr⟩ := Option.bind_eq_some_iff.mp hr
      obtain ⟨hb, hr⟩ := ite_some hr
      cases hr
      exact mul_list_ok e1 hb hx W
theorem bin_ok {o : Operator} {op : PBin} (hop : cBin o = some op) {x y r : PV} {u v : Value} (hr : pbin O op x y = some r) (hx : Rep C s.heap x u) (hy : Rep C s.heap y v) (W : Owned C O s.heap) :
    wpAny (model prog w) A (binaryOp o u v) (Post C s r) noE s := by
  cases o with
  | Add => cases hop; exact add_ok hr hx hy W
  | Sub => cases hop; exact pII_ok hr hx hy fun i j t t' h => by cases h; exact sub_int ⟨kp, rep_int⟩
  | Mult => cases hop; exact mul_ok hr hx hy W
  | FloorDiv => cases hop; exact pII_ok hr hx hy fun i j t t' h => by obtain ⟨hb, h⟩ := ite_some h; cases h; exact floordiv_int hb.1 ⟨kp, rep_int⟩ (.inl (PyProof.noPylong_small hb.2))
  | Mod => cases hop; exact pII_ok hr hx hy fun i j t t' h => by obtain ⟨hb, h⟩ := ite_some h; cases h; exact mod_int hb.1 ⟨kp, rep_int⟩
  | Pow => cases hop; exact pII_ok hr hx hy fun i j t t' h => by obtain ⟨hb, h⟩ := ite_some h; cases h; exact pow_int_small hb.1 (by lia) (by lia) ⟨kp, rep_int⟩
  | _ => exact nn hop
end
end Mine

namespace Mine

theorem pisIn_iff (y : List Nat) : ∀ x : List Nat, pisIn y x = true ↔ ∃ i, i + y.length ≤ x.length ∧ (x.drop i).take y.length = y
  | [] => by
    simp only [pisIn, List.isEmpty_iff]
    constructor
    · rintro rfl; exact ⟨0, by simp, by simp⟩
    · rintro ⟨i, h, _⟩; exact List.length_eq_zero_iff.mp (by have : i + y.length ≤ 0 := h; lia)
  | c :: r => by
    simp only [pisIn, Bool.or_eq_true, pisIn_iff y r, List.isPrefixOf_iff_prefix]
    constructor
    · rintro (⟨t, ht⟩ | ⟨i, h, e⟩)
      · refine ⟨0, by rw [← ht]; simp, by rw [← ht]; simp⟩
      · exact ⟨i + 1, by simp; lia, by simpa using e⟩
    · rintro ⟨i, h, e⟩
      cases i with
      | zero =>
        left
        refine ⟨(c :: r).drop y.length, ?_⟩
        have h2 := List.take_append_drop y.length (c :: r)
        rw [show List.take y.length (c :: r) = y by simpa using e] at h2
        exact h2
      | succ i => right; exact ⟨i, by simp at h; lia, by simpa using e⟩

mutual
theorem pveq_eqv : ∀ a b : PV, noStar a = true → noStar b = true → pveq a b = PyData.eqv (toPD a) (toPD b)
  | .none, b, _, hb => by cases b <;> first | rfl | cases hb
  | .bool x, b, _, hb => by cases b <;> first | rfl | (rename_i y; cases x <;> cases y <;> rfl) | cases hb
  | .int x, b, _, hb => by cases b <;> first | rfl | cases hb
  | .str x, b, _, hb => by
    cases b <;> first | rfl | (cases hb; done) | skip
    rename_i y
    show (x == y) = ((⟨x.toArray⟩ : Str) == ⟨y.toArray⟩)
    rw [Bool.eq_iff_iff]; simp
  | .tup x, b, ha, hb => by
    cases b <;> first | rfl | (cases hb; done) | skip
    rename_i y
    exact pveqL_eqv x y ha hb
  | .list x, b, ha, hb => by
    cases b <;> first | rfl | (cases hb; done) | skip
    rename_i y
    exact pveqL_eqv x y ha hb
  | .star, b, ha, _ => nomatch ha
  | .own k, b, ha, _ => nomatch ha
  | .app k, b, ha, _ => nomatch ha
theorem pveqL_eqv : ∀ a b : List PV, noStarL a = true → noStarL b = true → pveqL a b = PyData.eqvAll (toPDs a) (toPDs b)
  | [], [], _, _ => rfl
  | [], _ :: _, _, _ => rfl
  | _ :: _, [], _, _ => rfl
  | x :: xs, y :: ys, ha, hb => by
    have ha := and_t ha
    have hb := and_t hb
    show (pveq x y && pveqL xs ys) = (PyData.eqv (toPD x) (toPD y) && PyData.eqvAll (toPDs xs) (toPDs ys))
    rw [pveq_eqv x y ha.1 hb.1, pveqL_eqv xs ys ha.2 hb.2]
end

mutual
theorem okD_spec : ∀ (n : Nat) (a : PV), okD n a = true → noStar a = true ∧ (toPD a).canLay0 = true ∧ (toPD a).depth ≤ n
  | _, .none, _ => ⟨rfl, rfl, Nat.zero_le _⟩
  | _, .bool _, _ => ⟨rfl, rfl, Nat.zero_le _⟩
  | _, .int _, _ => ⟨rfl, rfl, Nat.zero_le _⟩
  | _, .str l, h => by
    refine ⟨rfl, ?_, Nat.zero_le _⟩
    have h' := List.all_eq_true.mp h
    simp only [toPD, PyData.canLay0, PyData.strOk, List.all_toArray, List.all_eq_true]
    exact h'
  | n, .tup vs, h => by
    have h := and_t h
    have := okDs_spec (n - 1) vs h.2
    have h1 := of_decide_eq_true h.1
    exact ⟨this.1, this.2.1, Nat.le_trans (Nat.succ_le_succ this.2.2) (by lia)⟩
  | n, .list vs, h => by
    have h := and_t h
    have := okDs_spec (n - 1) vs h.2
    have h1 := of_decide_eq_true h.1
    exact ⟨this.1, this.2.1, Nat.le_trans (Nat.succ_le_succ this.2.2) (by lia)⟩
  | _, .star, h => nomatch h
  | _, .own k, h => nomatch h
  | _, .app k, h => nomatch h
theorem okDs_spec : ∀ (n : Nat) (a : List PV), okDs n a = true → noStarL a = true ∧ PyData.canLayAll0 (toPDs a) = true ∧ PyData.depthAll (toPDs a) ≤ n
  | n, [], _ => ⟨rfl, rfl, Nat.zero_le _⟩
  | n, p :: ps, h => by
    have h := and_t h
    have h1 := okD_spec n p h.1
    have h2 := okDs_spec n ps h.2
    exact ⟨Bool.and_eq_true_iff.mpr ⟨h1.1, h2.1⟩, Bool.and_eq_true_iff.mpr ⟨h1.2.1, h2.2.1⟩, Nat.max_le.mpr ⟨h1.2.2, h2.2.2⟩⟩
end

theorem okD_shaped {a : PV} (h : okD 8 a = true) : SeqAt.shaped (toPD a) = true := by
  obtain ⟨_, h2, h3⟩ := okD_spec 8 a h
  unfold SeqAt.shaped
  rw [h2, Bool.true_and, decide_eq_true_eq]; lia

theorem resO_rep {C : RC} {O : Owns} {h : Heap} (W : Owned C O h) {v : PV} {u : Value} (hs : okD 8 (resO O v) = true) (r : Rep C h v u) : ∃ as, Reads h u (toPD (resO O v)) as := by
  unfold resO at hs ⊢
  cases e : asL O v with
  | none => rw [e] at hs; exact Rep.reads _ _ (okD_spec 8 _ hs).1 r
  | some vs =>
    rw [e] at hs
    obtain ⟨a, xs, rfl, ⟨n, h2⟩, h3⟩ := asL_rep W e r
    obtain ⟨as, q⟩ := RepL.reads vs _ (okD_spec 8 _ hs).1 h3
    exact ⟨_, Reads.list h2 rfl rfl q⟩

section
variable {prog : Program} {w : World} {A : Around} {s : Shared} {C : RC} {O : Owns} {n : Nat}

noncomputable abbrev PostB (s : Shared) (b : Bool) : Value → Shared → Prop := fun v s' => Keeps s s' ∧ v = .bool b

noncomputable abbrev PostB2 (prog : Program) (w : World) (A : Around) (s : Shared) (o o' : CmpOp) (u v : Value) (b : Bool) : Prop :=
  wpAny (model prog w) A (compareOp o u v) (PostB s b) noE s ∧ wpAny (model prog w) A (compareOp o' u v) (PostB s (!b)) noE s
theorem peqD_ok (R : Room n A) {x y : PV} {b : Bool} {u v : Value} (hr : peqD O x y = some b) (hx : Rep C s.heap x u) (hy : Rep C s.heap y v) (W : Owned C O s.heap) : PostB2 prog w A s .Eq .NotEq u v b := by
  obtain ⟨h, hr⟩ := ite_some hr
  have h := and_t h
  cases hr
  obtain ⟨as, r1⟩ := resO_rep W h.1 hx
  obtain ⟨bs, r2⟩ := resO_rep W h.2 hy
  have hu : A.units + 64 < cLine := by have := R.units; lia
  rw [pveq_eqv _ _ (okD_spec 8 _ h.1).1 (okD_spec 8 _ h.2).1]
  exact ⟨eq_dataH r1 r2 (okD_shaped h.1) (okD_shaped h.2) hu ⟨krefl s, rfl⟩, ne_dataH r1 r2 (okD_shaped h.1) (okD_shaped h.2) hu ⟨krefl s, rfl⟩⟩
theorem peq_str_ok (R : Room n A) {x y : PV} {b : Bool} {u v : Value} (hr : (match asS x, asS y with | some x, some y => some (x == y) | _, _ => peqD O x y) = some b) (hx : Rep C s.heap x u) (hy : Rep C s.heap y v) (W : Owned C O s.heap) : PostB2 prog w A s .Eq .NotEq u v b := by
  cases h3 : asS x with
  | none => rw [h3] at hr; exact peqD_ok R hr hx hy W
  | some i =>
    cases h4 : asS y with
    | none => rw [h3, h4] at hr; exact peqD_ok R hr hx hy W
    | some j =>
      rw [h3, h4] at hr
      obtain ⟨_, _, rfl, rfl⟩ := rep_asS h3 hx
      obtain ⟨_, _, rfl, rfl⟩ := rep_asS h4 hy
      cases hr
      exact ⟨P.eq_str ⟨krefl s, rfl⟩, P.ne_str ⟨krefl s, rfl⟩⟩
theorem peq_ok (R : Room n A) {x y : PV} {b : Bool} {u v : Value} (hr : peq O x y = some b) (hx : Rep C s.heap x u) (hy : Rep C s.heap y v) (W : Owned C O s.heap) : PostB2 prog w A s .Eq .NotEq u v b := by
  unfold peq at hr
  cases h1 : asI x with
  | none => rw [h1] at hr; exact peq_str_ok R hr hx hy W
  | some i =>
    cases h2 : asI y with
    | none => rw [h1, h2] at hr; exact peq_str_ok R hr hx hy W
    | some j =>
      rw [h1, h2] at hr
      obtain ⟨_, rfl⟩ := rep_asI h1 hx
      obtain ⟨_, rfl⟩ := rep_asI h2 hy
      cases hr
      exact ⟨eq_int ⟨krefl s, rfl⟩, ne_int ⟨krefl s, rfl⟩⟩
theorem peq_int {O : Owns} {i j : Int} : peq O (.int i) (.int j) = some (i == j) := rfl
theorem peq_str {O : Owns} {x y : List Nat} : peq O (.str x) (.str y) = some (x == y) := rfl
theorem pin_str {O : Owns} {x y : List Nat} : pin O (.str x) (.str y) = some (pisIn x y) := rfl

theorem in_strP {x y : Str} {t u : Tok} : wpAny (model prog w) A (compareOp .In (.str y u) (.str x t)) (PostB s (pisIn y.cps.toList x.cps.toList)) noE s ∧
    wpAny (model prog w) A (compareOp .NotIn (.str y u) (.str x t)) (PostB s (!pisIn y.cps.toList x.cps.toList)) noE s := by
  have e : pisIn y.cps.toList x.cps.toList = !(Builtin.Str.occurrences x y 0 x.length 1).isEmpty := by
    rw [Bool.eq_iff_iff, pisIn_iff, StrLaws.found_iff]
    constructor
    · rintro ⟨i, h, q⟩
      refine ⟨i, by rw [str_len, str_len]; exact h, ?_⟩
      rw [StrLaws.subAt_eq, str_len]; simpa using q
    · rintro ⟨i, h, q⟩
      rw [StrLaws.subAt_eq, str_len] at q
      rw [str_len, str_len] at h
      exact ⟨i, h, by simpa using q⟩
  rw [e]
  exact ⟨in_str ⟨krefl s, rfl⟩, notIn_str ⟨krefl s, rfl⟩⟩

theorem any_eqv {vs : List PV} {a : PV} (hv : noStarL vs = true) (ha : noStar a = true) : (vs.any fun y => pveq y a) = (toPDs vs).any fun y => PyData.eqv y (toPD a) := by
  induction vs with
  | nil => rfl
  | cons p ps ih =>
    simp only [noStarL, Bool.and_eq_true] at hv
    simp only [List.any_cons, toPDs]
    rw [ih hv.2, pveq_eqv p a hv.1 ha]

theorem pinL_ok (R : Room n A) {x : PV} {vs : List PV} {b : Bool} (hr : pinL x vs = some b) : (noStarL vs = true ∧ PyData.canLayAll0 (toPDs vs) = true ∧ PyData.depthAll (toPDs vs) ≤ 8) ∧ (noStar x = true ∧ (toPD x).canLay0 = true ∧ (toPD x).depth ≤ 8) ∧ b = (toPDs vs).any fun y => PyData.eqv y (toPD x) := by
  obtain ⟨h, hr⟩ := ite_some hr
  have h := and_t h
  have h1 := okDs_spec 8 _ h.1
  have h2 := okD_spec 8 _ h.2
  cases hr
  exact ⟨h1, h2, any_eqv h1.1 h2.1⟩
theorem pin_ok (R : Room n A) {x y : PV} {b : Bool} {u v : Value} (hr : pin O x y = some b) (hx : Rep C s.heap x u) (hy : Rep C s.heap y v) (W : Owned C O s.heap) : PostB2 prog w A s .In .NotIn u v b := by
  have hu := R.units
  unfold pin at hr
  cases h1 : asS y with
  | some q =>
    rw [h1] at hr
    obtain ⟨q2, h2, rfl⟩ := Option.map_eq_some_iff.mp hr
    obtain ⟨_, _, rfl, rfl⟩ := rep_asS h2 hx
    obtain ⟨_, _, rfl, rfl⟩ := rep_asS h1 hy
    exact in_strP
  | none =>
    rw [h1] at hr
    cases h2 : asT y with
    | some vs =>
      rw [h2] at hr
      obtain ⟨q1, q2, rfl⟩ := pinL_ok R hr
      cases asT_eq h2
      obtain ⟨as, r1⟩ := Rep.reads (.tup vs) _ q1.1 hy
      obtain ⟨bs, r2⟩ := Rep.reads _ _ q2.1 hx
      exact ⟨SeqAt.in_tuple_reads r1 r2 q1.2.1 q2.2.1 (by lia) ⟨krefl s, rfl⟩, SeqAt.notIn_tuple_reads r1 r2 q1.2.1 q2.2.1 (by lia) ⟨krefl s, rfl⟩⟩
    | none =>
      rw [h2] at hr
      obtain ⟨vs, e, hr⟩ := Option.bind_eq_some_iff.mp hr
      obtain ⟨q1, q2, rfl⟩ := pinL_ok R hr
      obtain ⟨a, xs, rfl, ⟨m, hp⟩, hl⟩ := asL_rep W e hy
      obtain ⟨as, q⟩ := RepL.reads _ _ q1.1 hl
      obtain ⟨bs, r2⟩ := Rep.reads _ _ q2.1 hx
      have r1 : Reads s.heap (.ref a) (.list (toPDs vs)) (a :: as) := Reads.list hp rfl rfl q
      exact ⟨SeqAt.in_list_reads r1 r2 q1.2.1 q2.2.1 (by lia) ⟨krefl s, rfl⟩, SeqAt.notIn_list_reads r1 r2 q1.2.1 q2.2.1 (by lia) ⟨krefl s, rfl⟩⟩

theorem is_other {u v : Value} (h1 : plainIs u v = true) (h2 : u ≠ v) : PostB2 prog w A s .Is .IsNot u v false := ⟨wpAny_is_other h1 h2 ⟨krefl s, rfl⟩, wpAny_isNot_other h1 h2 ⟨krefl s, rfl⟩⟩
theorem pisN_ok {x : PV} {b : Bool} {u : Value} (hr : pisN x = some b) (hx : Rep C s.heap x u) : PostB2 prog w A s .Is .IsNot u .none b := by
  cases x with
  | none => cases hx; cases hr; exact ⟨wpAny_is_self rfl ⟨krefl s, rfl⟩, wpAny_isNot_self rfl ⟨krefl s, rfl⟩⟩
  | bool => cases hx; cases hr; exact is_other rfl nofun
  | int => obtain ⟨_, rfl⟩ := hx; cases hr; exact is_other rfl nofun
  | str => obtain ⟨_, _, rfl, _⟩ := hx; cases hr; exact is_other rfl nofun
  | tup => obtain ⟨_, _, rfl, _⟩ := hx; cases hr; exact is_other rfl nofun
  | list => obtain ⟨_, _, rfl, _⟩ := hx; cases hr; exact is_other rfl nofun
  | own => obtain ⟨_, _, rfl⟩ := hx; cases hr; exact is_other rfl nofun
  | _ => exact nn hr
theorem pis_ok {x y : PV} {b : Bool} {u v : Value} (hr : pis x y = some b) (hx : Rep C s.heap x u) (hy : Rep C s.heap y v) : PostB2 prog w A s .Is .IsNot u v b := by
  cases y with
  | none => cases hy; exact pisN_ok hr hx
  | star =>
    cases hy
    cases x with
    | star => cases hx; cases hr; exact ⟨wpAny_is_ref_self ⟨krefl s, rfl⟩, wpAny_isNot_ref_self ⟨krefl s, rfl⟩⟩
    | str => obtain ⟨_, _, rfl, _⟩ := hx; cases hr; exact is_other rfl nofun
    | _ => exact nn hr
  | _ => exact nn hr

theorem pcI_ok {f : Int → Int → Bool} {x y : PV} {b : Bool} {u v : Value} {o : CmpOp} (hr : pcI f x y = some b) (hx : Rep C s.heap x u) (hy : Rep C s.heap y v)
    (h : ∀ i j t t', wpAny (model prog w) A (compareOp o (.int i t) (.int j t')) (PostB s (f i j)) noE s) : wpAny (model prog w) A (compareOp o u v) (PostB s b) noE s := by
  obtain ⟨i, e1, hr⟩ := Option.bind_eq_some_iff.mp hr
  obtain ⟨j, e2, rfl⟩ := Option.map_eq_some_iff.mp hr
  obtain ⟨t, rfl⟩ := rep_asI e1 hx
  obtain ⟨t', rfl⟩ := rep_asI e2 hy
  exact h i j t t'
theorem neg_ok2 {o o' : CmpOp} {u v : Value} {b : Bool} {x : Option Bool} (hr : x.map (!·) = some b) (h : ∀ b, x = some b → PostB2 prog w A s o o' u v b) : wpAny (model prog w) A (compareOp o' u v) (PostB s b) noE s := by
  obtain ⟨b', e, rfl⟩ := Option.map_eq_some_iff.mp hr
  exact (h b' e).2
theorem cmp_ok (R : Room n A) {o : CmpOp} {x y : PV} {b : Bool} {u v : Value} (hr : pcmp O (cCmp o) x y = some b) (hx : Rep C s.heap x u) (hy : Rep C s.heap y v) (W : Owned C O s.heap) :
    wpAny (model prog w) A (compareOp o u v) (PostB s b) noE s := by
  cases o with
  | Eq => exact (peq_ok R hr hx hy W).1
  | NotEq => exact neg_ok2 hr fun _ e => peq_ok R e hx hy W
  | Lt => exact pcI_ok hr hx hy fun _ _ _ _ => lt_int ⟨krefl s, rfl⟩
  | LtE => exact pcI_ok hr hx hy fun _ _ _ _ => le_int ⟨krefl s, rfl⟩
  | Gt => exact pcI_ok hr hx hy fun _ _ _ _ => gt_int ⟨krefl s, rfl⟩
  | GtE => exact pcI_ok hr hx hy fun _ _ _ _ => ge_int ⟨krefl s, rfl⟩
  | Is => exact (pis_ok hr hx hy).1
  | IsNot => exact neg_ok2 hr fun _ e => pis_ok e hx hy
  | In => exact (pin_ok R hr hx hy W).1
  | NotIn => exact neg_ok2 hr fun _ e => pin_ok R e hx hy W
end
end Mine

namespace Mine

theorem pidx_eq {α : Type} (l : List α) (i : Int) : pidx l i = (seqIndex? i l.length).bind (l[·]?) := by
  unfold pidx seqIndex?
  by_cases h : 0 ≤ i
  · rw [if_pos h]
    simp only [show ¬ i < 0 by lia, if_false]
    split
    · simp
    · rename_i h2
      simp only [Bool.and_eq_true, decide_eq_true_eq] at h2
      simp only [Option.bind_none, List.getElem?_eq_none_iff]
      lia
  · rw [if_neg h]
    simp only [show i < 0 by lia, if_true]
    split
    · rename_i h2
      rw [if_pos (by simp; lia)]
      simp
    · rename_i h2
      rw [if_neg (by simp; lia)]
      simp

theorem slice_core {α : Type} (l : List α) (a b : Nat) (hb : b ≤ l.length) : (sliceRange (a : Int) (b : Int) 1).filterMap (l[·]?) = (l.take b).drop a := by
  unfold sliceRange
  simp only [show (1 : Int) > 0 by lia, if_true]
  by_cases h : (a : Int) < b
  · rw [if_pos h]
    have e : (((b : Int) - a + 1 - 1) / 1).toNat = b - a := by rw [Int.ediv_one]; lia
    rw [e]
    have e2 : (List.range (b - a)).map (fun (k : Nat) => ((a : Int) + 1 * (k : Int)).toNat) = (List.range (b - a)).map (fun k => a + k) := by
      apply List.map_congr_left
      intro k _
      lia
    rw [e2, StrLaws.picks l (b - a) a (by lia), List.drop_take]
  · rw [if_neg h]
    simp only [Int.toNat_zero, List.range_zero, List.map_nil, List.filterMap_nil]
    symm
    rw [List.drop_eq_nil_iff]
    simp; lia

theorem clip_eq (n : Nat) (i : Int) : max 0 (min (if i < 0 then i + n else i) (n : Int)) = (pclamp n i : Int) := by
  unfold pclamp
  split <;> lia
theorem pclamp_le (n : Nat) (i : Int) : pclamp n i ≤ n := by unfold pclamp; split <;> lia

theorem slice_list_eq (l : List Value) (lo hi : Option Int) : (slicePick l.toArray lo hi none) = (pslice l lo hi).toArray := by
  unfold slicePick sliceBounds pslice
  simp only [Option.getD_none, show (1 : Int) > 0 by lia, if_true, List.size_toArray]
  congr 1
  cases lo <;> cases hi <;> simp only [clip_eq, plo, phi]
  · simpa using slice_core l 0 l.length (Nat.le_refl _)
  · rename_i i; simpa using slice_core l 0 (pclamp l.length i) (pclamp_le _ _)
  · rename_i i; simpa using slice_core l (pclamp l.length i) l.length (Nat.le_refl _)
  · rename_i i k; simpa using slice_core l (pclamp l.length i) (pclamp l.length k) (pclamp_le _ _)

theorem slice_str_eq (x : Str) (lo hi : Option Int) : (Builtin.Str.strSliceIndices lo hi 1 x.length).filterMap (x.cps[·]?) = pslice x.cps.toList lo hi := by
  unfold Builtin.Str.strSliceIndices pslice
  simp only [show (1 : Int) > 0 by lia, if_true, str_len]
  have e : (fun i : Nat => x.cps[i]?) = fun i => x.cps.toList[i]? := by funext i; simp
  rw [e]
  generalize x.cps.toList = l
  cases lo <;> cases hi <;> simp only [clip_eq, plo, phi]
  · simpa using slice_core l 0 l.length (Nat.le_refl _)
  · rename_i i; simpa using slice_core l 0 (pclamp l.length i) (pclamp_le _ _)
  · rename_i i; simpa using slice_core l (pclamp l.length i) l.length (Nat.le_refl _)
  · rename_i i k; simpa using slice_core l (pclamp l.length i) (pclamp l.length k) (pclamp_le _ _)

theorem range_len (a b : Nat) : (sliceRange (a : Int) (b : Int) 1).length = b - a := by
  unfold sliceRange
  simp only [show (1 : Int) > 0 by lia, if_true, List.length_map, List.length_range, Int.ediv_one]
  split <;> lia

theorem slice_str_len (x : Str) (lo hi : Option Int) : (Builtin.Str.strSliceIndices lo hi 1 x.length).length = (pslice x.cps.toList lo hi).length := by
  unfold Builtin.Str.strSliceIndices pslice
  simp only [show (1 : Int) > 0 by lia, if_true, str_len]
  generalize x.cps.toList = l
  cases lo <;> cases hi <;> simp only [clip_eq, plo, phi, List.length_drop, List.length_take]
  · have := range_len 0 l.length; simp only [Int.natCast_zero] at this; lia
  · rename_i i; have := range_len 0 (pclamp l.length i); have := pclamp_le l.length i; simp only [Int.natCast_zero] at *; lia
  · rename_i i; have := range_len (pclamp l.length i) l.length; lia
  · rename_i i k; have := range_len (pclamp l.length i) (pclamp l.length k); have := pclamp_le l.length k; lia

theorem pslice_full {α : Type} (l : List α) (lo hi : Option Int) (h : (pslice l lo hi).length = l.length) : pslice l lo hi = l := by
  unfold pslice at h ⊢
  generalize phi l.length hi = b at h ⊢
  generalize plo l.length lo = a at h ⊢
  rw [List.length_drop, List.length_take] at h
  rcases Nat.eq_zero_or_pos l.length with h0 | h0
  · have : l = [] := List.length_eq_zero_iff.mp h0
    subst this; simp
  · have ha : a = 0 := by lia
    have hb : l.length ≤ b := by lia
    subst ha
    rw [List.take_of_length_le hb]; rfl

theorem txt_slice (x : Str) (lo hi : Option Int) : (Txt.slice x lo hi).cps.toList = pslice x.cps.toList lo hi := by
  unfold Txt.slice
  split
  · rename_i h
    simp only [Bool.and_eq_true, beq_iff_eq] at h
    rw [slice_str_len, str_len] at h
    exact (pslice_full _ _ _ h.2).symm
  · exact slice_str_eq x lo hi

theorem isEmpty_of {xs : Array Value} {l : List PV} (e : xs.size = l.length) : (!xs.isEmpty) = !l.isEmpty := by
  rw [← Array.isEmpty_toList]
  cases h : xs.toList <;> cases l <;> first | rfl | (rw [← Array.length_toList, h] at e; cases e)

section
variable {prog : Program} {w : World} {A : Around} {s : Shared} {C : RC} {O : Owns} {n : Nat}

noncomputable abbrev PostT (s : Shared) (b : Bool) : Bool → Shared → Prop := fun v s' => Keeps s s' ∧ v = b

theorem kp2 {s : Shared} {k : Nat} : Keeps s { s with toks := k } := kp

theorem truth_seq {l : List PV} {b : Bool} {xs : Array Value} (hr : (if l.length ≤ LIM then some (!l.isEmpty) else none) = some b) (e : xs.size = l.length) : (xs.size : Int) < 2 ^ 63 ∧ (!xs.isEmpty) = b := by
  obtain ⟨h, hr⟩ := ite_some hr
  cases hr
  have h : l.length ≤ 1048576 := h
  exact ⟨by lia, isEmpty_of e⟩
theorem truth_list {x : PV} {b : Bool} {u : Value} (hr : ((asL O x).bind fun l => if l.length ≤ LIM then some (!l.isEmpty) else none) = some b) (hx : Rep C s.heap x u) (W : Owned C O s.heap) : wpAny (model prog w) A (truthy u) (PostT s b) noE s := by
  obtain ⟨l, e, hr⟩ := Option.bind_eq_some_iff.mp hr
  obtain ⟨a, xs, rfl, hp, hl, e⟩ := asL_rep' W e hx
  obtain ⟨h1, h2⟩ := truth_seq hr e
  exact wpAny_truthy_list hp.isList h1 ⟨kp, h2⟩
theorem truth_ok {x : PV} {b : Bool} {u : Value} (hr : ptruth O x = some b) (hx : Rep C s.heap x u) (W : Owned C O s.heap) : wpAny (model prog w) A (truthy u) (PostT s b) noE s := by
  cases x with
  | none => cases hx; cases hr; exact wpAny_pure ⟨krefl s, rfl⟩
  | bool => cases hx; cases hr; exact wpAny_truthy_bool ⟨krefl s, rfl⟩
  | int i =>
    obtain ⟨t, rfl⟩ := hx; cases hr
    refine P.truthy_int ⟨krefl s, ?_⟩
    rw [Bool.eq_iff_iff]; simp
  | str l =>
    obtain ⟨h, hr⟩ := ite_some hr
    cases hr
    obtain ⟨y, t, rfl, rfl⟩ := hx
    have h : y.cps.toList.length ≤ 1048576 := h
    refine P.truthy_str (by rw [str_len]; lia) ⟨kp, ?_⟩
    rw [Bool.eq_iff_iff, str_len]
    simp
  | tup l =>
    obtain ⟨a, xs, rfl, _, ht, hl⟩ := hx
    obtain ⟨h1, h2⟩ := truth_seq hr hl.length
    exact truthy_tuple ht h1 ⟨kp, h2⟩
  | list l => exact truth_list (x := .list l) hr hx W
  | own k => exact truth_list (x := .own k) hr hx W
  | _ => exact nn hr

theorem pidx_rep {C : RC} {h : Heap} {l : List PV} {xs : Array Value} {i : Int} {r : PV} (hr : pidx l i = some r) (hl : RepL C h l xs.toList) : ∃ q, xs[if 0 ≤ i then i.toNat else (i + l.length).toNat]? = some q ∧ Rep C h r q ∧ (0 ≤ i ∨ 0 ≤ i + l.length) := by
  unfold pidx at hr
  by_cases h0 : 0 ≤ i
  · rw [if_pos h0] at hr ⊢
    obtain ⟨q, e3, rq⟩ := hl.at _ _ hr
    exact ⟨q, by rw [← Array.getElem?_toList]; exact e3, rq, .inl h0⟩
  · rw [if_neg h0] at hr ⊢
    obtain ⟨h1, hr⟩ := ite_some hr
    obtain ⟨q, e3, rq⟩ := hl.at _ _ hr
    exact ⟨q, by rw [← Array.getElem?_toList]; exact e3, rq, .inr h1⟩
theorem item_ok {x y r : PV} {u v : Value} (hr : pitem O x y = some r) (hx : Rep C s.heap x u) (hy : Rep C s.heap y v) (W : Owned C O s.heap) :
    wpAny (model prog w) A (getItem u v) (Post C s r) noE s := by
  obtain ⟨i, e0, hr⟩ := Option.bind_eq_some_iff.mp hr
  obtain ⟨hi, hr⟩ := ite_some hr
  obtain ⟨t', rfl⟩ := rep_asI e0 hy
  cases h1 : asS x with
  | some l =>
    rw [h1] at hr
    obtain ⟨z, t, rfl, rfl⟩ := rep_asS h1 hx
    obtain ⟨c, e, rfl⟩ := Option.map_eq_some_iff.mp hr
    rw [pidx_eq, ← str_len] at e
    exact getItem_str (by simp; lia) (by simpa using e) ⟨kp, rep_str' rfl⟩
  | none =>
    rw [h1] at hr
    cases h2 : asT x with
    | some l =>
      rw [h2] at hr
      obtain ⟨a, xs, rfl, _, ht, hl, e⟩ := rep_asT h2 hx
      have hr : pidx l i = some r := hr
      rw [pidx_eq] at hr
      obtain ⟨j, e1, e2⟩ := Option.bind_eq_some_iff.mp hr
      obtain ⟨q, e3, rq⟩ := hl.at j _ e2
      rw [← e] at e1
      exact getItem_tuple ht (by lia) (by lia) e1 (by rw [← Array.getElem?_toList]; exact e3) ⟨krefl s, rq⟩
    | none =>
      rw [h2] at hr
      obtain ⟨l, el, hr⟩ := Option.bind_eq_some_iff.mp hr
      obtain ⟨a, xs, rfl, hp, hl, e⟩ := asL_rep' W el hx
      obtain ⟨q, e3, rq, h0⟩ := pidx_rep hr hl
      by_cases hc : 0 ≤ i
      · rw [if_pos hc] at e3
        exact wpAny_getItem_list hp.isList hc (by lia) e3 ⟨krefl s, rq⟩
      · rw [if_neg hc, ← e] at e3
        exact wpAny_getItem_list_neg hp.isList (by lia) (by lia) (by lia) e3 ⟨krefl s, rq⟩

theorem rep_part {x : PV} {p : Option Int} {u : Value} {h : Heap} (hp : ppart x = some p) (r : Rep C h x u) : IsPart u p ∧ ∃ q : Option (Int × Tok), u = partValue q ∧ q.map (·.1) = p := by
  cases x with
  | none => cases r; cases hp; exact ⟨.none, none, rfl, rfl⟩
  | int => obtain ⟨t, rfl⟩ := r; cases hp; exact ⟨.int _ t, some (_, t), rfl, rfl⟩
  | _ => exact nn hp

theorem made_slice {x : Str} {t : Tok} {l u : Option (Int × Tok)} {Q : Value → Shared → Prop} {s : Shared} (hsz : x.length ≤ sizeLine)
    (h : ∀ (y : Str) t' k, y.cps.toList = pslice x.cps.toList (l.map (·.1)) (u.map (·.1)) → Q (.str y t') { s with toks := k }) : (sliceMade x t l u none).post Q s := by
  unfold sliceMade slicePicked
  simp only [Option.map_none, Option.getD_none]
  refine post_val_or_str ⟨?_, fun t' k => ?_⟩
  · show (Txt.slice x (l.map (·.1)) (u.map (·.1))).length ≤ _
    exact Nat.le_trans (Txt.slice_le x _ _) hsz
  · exact h (Txt.slice x (l.map (·.1)) (u.map (·.1))) t' k (txt_slice _ _ _)

theorem slc_ok {x y z r : PV} {u v v2 : Value} {sl : Addr} (hr : pslc O x y z = some r) (hx : Rep C s.heap x u) (hy : Rep C s.heap y v) (hz : Rep C s.heap z v2) (W : Owned C O s.heap)
    (hsl : s.heap.IsSliceOf sl v v2 .none) : wpAny (model prog w) A (getItem u (.ref sl)) (Post C s r) noE s := by
  have hL := lim_size
  obtain ⟨lo, elo, hr⟩ := Option.bind_eq_some_iff.mp hr
  obtain ⟨hi, ehi, hr⟩ := Option.bind_eq_some_iff.mp hr
  obtain ⟨p1, q1, rfl, f1⟩ := rep_part elo hy
  obtain ⟨p2, q2, rfl, f2⟩ := rep_part ehi hz
  cases h1 : asS x with
  | some l =>
    rw [h1] at hr
    obtain ⟨h, hr⟩ := ite_some hr
    cases hr
    obtain ⟨t, k, rfl, rfl⟩ := rep_asS h1 hx
    refine wpAny_getItem_str_slice (l := q1) (u := q2) (st := none) hsl rfl ?_
    refine made_slice (by rw [str_len]; exact Nat.le_trans h hL) fun y t' k e => ⟨kp, rep_str' (by rw [e, f1, f2])⟩
  | none =>
    rw [h1] at hr
    cases h2 : asT x with
    | some l =>
      rw [h2] at hr
      obtain ⟨i, ei, hr⟩ := Option.bind_eq_some_iff.mp hr
      obtain ⟨h, hr⟩ := ite_some hr
      cases hr
      obtain ⟨a, xs, rfl, _, ht, hl, e⟩ := rep_asT h2 hx
      subst ei
      cases q1 with
      | none => cases f1
      | some q1 =>
        cases q2 with
        | some _ => subst f2; cases h.1
        | none =>
          obtain ⟨i', tk⟩ := q1
          cases f1
          have h : _ ∧ l.length ≤ LIM ∧ 1 ≤ i' ∧ i' ≤ (l.length : Int) := h
          obtain ⟨j, rfl⟩ := Int.eq_ofNat_of_zero_le (show 0 ≤ i' by lia)
          exact getItem_tuple_from ht (sl := sl) (u := tk) hsl (by lia) (by lia) ⟨kpush, rep_newT W (hl.drop j)⟩ (by lia)
    | none =>
      rw [h2] at hr
      obtain ⟨l, el, hr⟩ := Option.bind_eq_some_iff.mp hr
      obtain ⟨h, hr⟩ := ite_some hr
      cases hr
      obtain ⟨a, xs, rfl, hp, hl, e⟩ := asL_rep' W el hx
      refine wpAny_getItem_list_slice hp.isList hsl p1 p2 .none (by simp) ⟨kpush, ?_⟩ (by lia)
      have e2 : slicePick xs lo hi none = (pslice xs.toList lo hi).toArray := by rw [← slice_list_eq]
      rw [e2]
      refine rep_new W ?_
      have e3 : xs.toList.length = l.length := hl.length
      unfold pslice
      rw [e3]
      exact (hl.take _).drop _
end
end Mine

namespace Mine
open StrLaws

theorem at_prefix (x y : Str) (i : Nat) : (y.cps.toList.isPrefixOf (x.cps.toList.drop i) = true) ↔ (i + y.length ≤ x.length ∧ Builtin.Str.subAt x y i = true) ∨ (y.length = 0) := by
  rw [StrLaws.subAt_eq, str_len, str_len, List.isPrefixOf_iff_prefix]
  generalize x.cps.toList = l
  generalize y.cps.toList = p
  constructor
  · rintro ⟨t, ht⟩
    by_cases h0 : p.length = 0
    · right; exact h0
    · left
      have h1 : p.length ≤ (l.drop i).length := by rw [← ht]; simp
      rw [List.length_drop] at h1
      exact ⟨by lia, by rw [← ht]; simp⟩
  · rintro (⟨h1, h2⟩ | h)
    · simp only [beq_iff_eq] at h2
      have := List.take_append_drop p.length (l.drop i)
      rw [h2] at this
      exact ⟨_, this⟩
    · have : p = [] := List.length_eq_zero_iff.mp h
      subst this; simp

theorem split_loop (x y : Str) (hy : y.length ≠ 0) : ∀ (k i : Nat) (found : Array Nat) (free a : Nat), i + k = x.length + 1 → found.size ≤ i → ((free ≤ i ∧ a ≤ i) ∨ (a = free ∧ i ≤ free ∧ free ≤ x.length)) →
    ∃ cuts, (forIn (List.range' i k) (found, free) (occBody x y x.length (x.length + 1))).run.fst.toList = found.toList ++ cuts ∧
      (partsFrom x y.length a cuts).map (·.cps.toList) = psplitGo y.cps.toList (free - i) ((x.cps.toList.drop a).take (i - a)).reverse (x.cps.toList.drop i)
  | 0, i, found, free, a, hi, hf, ha => by
    have hn : x.cps.toList.length = x.length := (str_len x).symm
    refine ⟨[], by simp, ?_⟩
    have h1 : x.cps.toList.drop i = [] := List.drop_eq_nil_iff.mpr (by lia)
    rw [h1]
    simp only [partsFrom, List.map_cons, List.map_nil, strSub_toList]
    rw [List.take_of_length_le (by rw [List.length_drop]; lia), List.take_of_length_le (by rw [List.length_drop]; lia)]
    cases free - i <;> simp [psplitGo]
  | k + 1, i, found, free, a, hi, hf, ha => by
    have hn : x.cps.toList.length = x.length := (str_len x).symm
    rw [List.range'_succ, List.forIn_cons]
    by_cases hc : ((found.size < x.length + 1 ∧ free ≤ i) ∧ i + y.length ≤ x.length) ∧ Builtin.Str.subAt x y i = true
    · have hb : occBody x y x.length (x.length + 1) i (found, free) = pure (ForInStep.yield (found.push i, i + y.length)) := by unfold occBody; rw [if_pos hc]
      obtain ⟨cuts, e1, e2⟩ := split_loop x y hy k (i + 1) (found.push i) (i + y.length) (i + y.length) (by lia) (by simp; lia) (.inr ⟨rfl, by lia, hc.1.2⟩)
      refine ⟨i :: cuts, ?_, ?_⟩
      · rw [hb]
        refine Eq.trans e1 ?_
        simp
      · have hlt : i < x.cps.toList.length := by lia
        have hp := (at_prefix x y i).mpr (.inl ⟨hc.1.2, hc.2⟩)
        rw [List.drop_eq_getElem_cons hlt] at hp ⊢
        rw [show free - i = 0 by lia]
        simp only [partsFrom, List.map_cons, psplitGo, hp, if_true, List.reverse_reverse, strSub_toList]
        rw [e2]
        rw [show i + y.length - (i + 1) = y.length - 1 by lia, show i + 1 - (i + y.length) = 0 by lia, ← str_len]
        simp
    · have hb : occBody x y x.length (x.length + 1) i (found, free) = pure (ForInStep.yield (found, free)) := by unfold occBody; rw [if_neg hc]
      have hb' : (forIn (i :: List.range' (i + 1) k) (found, free) (occBody x y x.length (x.length + 1))).run = (forIn (List.range' (i + 1) k) (found, free) (occBody x y x.length (x.length + 1))).run := by
        rw [List.forIn_cons, hb]; rfl
      rw [← List.forIn_cons, hb']
      by_cases hfi : free ≤ i
      · have hai : a ≤ i := by lia
        obtain ⟨cuts, e1, e2⟩ := split_loop x y hy k (i + 1) found free a (by lia) (by lia) (.inl ⟨by lia, by lia⟩)
        refine ⟨cuts, e1, ?_⟩
        rw [e2, show free - i = 0 by lia, show free - (i + 1) = 0 by lia]
        by_cases hlt : i < x.cps.toList.length
        · have hp : y.cps.toList.isPrefixOf (x.cps.toList.drop i) = false := by
            rw [Bool.eq_false_iff]
            intro hp
            rcases (at_prefix x y i).mp hp with h | h
            · exact hc ⟨⟨⟨by lia, hfi⟩, h.1⟩, h.2⟩
            · exact hy h
          rw [List.drop_eq_getElem_cons hlt] at hp
          conv => rhs; rw [List.drop_eq_getElem_cons hlt]
          simp only [psplitGo, hp, Bool.false_eq_true, if_false]
          congr 1
          rw [show i + 1 - a = (i - a) + 1 by lia, List.take_add_one, List.getElem?_drop, show a + (i - a) = i by lia, List.getElem?_eq_getElem hlt]
          simp
        · have h1 : x.cps.toList.drop i = [] := List.drop_eq_nil_iff.mpr (by lia)
          have h2 : x.cps.toList.drop (i + 1) = [] := List.drop_eq_nil_iff.mpr (by lia)
          rw [h1, h2]
          simp only [psplitGo, List.reverse_reverse]
          rw [List.take_of_length_le (by rw [List.length_drop]; lia), List.take_of_length_le (by rw [List.length_drop]; lia)]
      · rcases ha with ha | ⟨rfl, h1, h2⟩
        · lia
        · obtain ⟨cuts, e1, e2⟩ := split_loop x y hy k (i + 1) found a a (by lia) (by lia) (.inr ⟨rfl, by lia, h2⟩)
          refine ⟨cuts, e1, ?_⟩
          have hlt : i < x.cps.toList.length := by lia
          rw [e2, show i - a = 0 by lia, show i + 1 - a = 0 by lia, show a - i = (a - (i + 1)) + 1 by lia]
          conv => rhs; rw [List.drop_eq_getElem_cons hlt]
          simp [psplitGo]

theorem psplit_none (y : List Nat) : ∀ (l acc : List Nat), (∀ i, y.isPrefixOf (l.drop i) = false ∨ l.length ≤ i) → psplitGo y 0 acc l = [acc.reverse ++ l]
  | [], acc, _ => by simp [psplitGo]
  | c :: r, acc, h => by
    have h0 := h 0
    simp only [List.drop_zero, List.length_cons] at h0
    have h0' : y.isPrefixOf (c :: r) = false := by rcases h0 with h | h; exact h; lia
    simp only [psplitGo, h0', Bool.false_eq_true, if_false]
    rw [psplit_none y r (c :: acc) fun i => by
      have := h (i + 1)
      simp only [List.drop_succ_cons, List.length_cons] at this
      rcases this with h | h
      · exact .inl h
      · exact .inr (by lia)]
    simp

theorem psplit_eq (x y : Str) (hy : y.length ≠ 0) : (Txt.split x y).map (·.cps.toList) = psplit y.cps.toList x.cps.toList := by
  obtain ⟨cuts, e1, e2⟩ := split_loop x y hy (x.length + 1) 0 #[] 0 0 (by lia) (by simp) (.inl ⟨by lia, by lia⟩)
  have hocc : Builtin.Str.occurrences x y 0 x.length (x.length + 1) = cuts := by rw [occ_eq]; simpa using e1
  have e3 : psplit y.cps.toList x.cps.toList = (partsFrom x y.length 0 cuts).map (·.cps.toList) := by
    rw [e2]; simp [psplit]
  have hwhole : cuts = [] → psplit y.cps.toList x.cps.toList = [x.cps.toList] := by
    intro hc
    rw [e3, hc]
    simp [partsFrom, sub_whole]
  unfold Txt.split
  split
  · rename_i h
    have : psplit y.cps.toList x.cps.toList = [x.cps.toList] := by
      unfold psplit
      rw [psplit_none]
      · rfl
      · intro i
        left
        rw [Bool.eq_false_iff]
        intro hp
        rw [List.isPrefixOf_iff_prefix] at hp
        have hl := hp.length_le
        have hmem : ∀ c ∈ y.cps.toList, c ∈ x.cps.toList := fun c hc => List.mem_of_mem_drop (hp.subset hc)
        simp only [Bool.or_eq_true, decide_eq_true_eq] at h
        rcases h with h | h
        · rw [str_len, str_len] at h
          rw [List.length_drop] at hl
          lia
        · have kind : ∀ b : Nat, (x.cps.all (· < b)) = true → (y.cps.all (· < b)) = true := by
            intro b hb
            rw [← Array.all_toList] at hb ⊢
            rw [List.all_eq_true] at hb ⊢
            exact fun c hc => hb c (hmem c hc)
          unfold Builtin.Str.strKind at h
          have k1 := kind 256
          have k2 := kind 65536
          revert h k1 k2
          generalize (x.cps.all fun x => decide (x < 256)) = a1
          generalize (x.cps.all fun x => decide (x < 65536)) = a2
          generalize (y.cps.all fun x => decide (x < 256)) = b1
          generalize (y.cps.all fun x => decide (x < 65536)) = b2
          intro h k1 k2
          cases a1 <;> cases a2 <;> cases b1 <;> cases b2 <;> simp at h k1 k2
    rw [this]; rfl
  · split
    · rename_i h
      rw [hocc] at h
      rw [hwhole (by simpa using h)]; rfl
    · rw [hocc, partsBetween_eq, e3]
end Mine

namespace Mine
open StrLaws

theorem pints_rep {C : RC} {h : Heap} : ∀ {vs : List PV} {us : List Value} {ns : List Int}, pints vs = some ns → RepL C h vs us → IntsAre us ns
  | [], us, ns, e, r => by cases e; cases r; exact .nil
  | p :: ps, us, ns, e, r => by
    obtain ⟨i, e1, e⟩ := Option.bind_eq_some_iff.mp e
    obtain ⟨ns', e', rfl⟩ := Option.map_eq_some_iff.mp e
    obtain ⟨v, r', rfl, h1, h2⟩ := r
    obtain ⟨t, rfl⟩ := rep_asI e1 h1
    exact .cons _ t (pints_rep e' h2)

theorem pstrs_rep {C : RC} {h : Heap} : ∀ {vs : List PV} {us : List Value} {ls : List (List Nat)}, pstrs vs = some ls → RepL C h vs us → ∃ l : List (Str × Tok), us = strValues l ∧ l.map (fun p => p.1.cps.toList) = ls
  | [], us, ls, e, r => by cases e; cases r; exact ⟨[], rfl, rfl⟩
  | p :: ps, us, ls, e, r => by
    obtain ⟨i, e1, e⟩ := Option.bind_eq_some_iff.mp e
    obtain ⟨ns', e', rfl⟩ := Option.map_eq_some_iff.mp e
    obtain ⟨v, r', rfl, h1, h2⟩ := r
    obtain ⟨s, t, rfl, rfl⟩ := rep_asS e1 h1
    obtain ⟨l, rfl, rfl⟩ := pstrs_rep e' h2
    exact ⟨(s, t) :: l, rfl, rfl⟩

theorem join_eq (sep : Str) : ∀ texts : List Str, (Str.join sep texts).cps.toList = pjoin sep.cps.toList (texts.map (·.cps.toList))
  | [] => rfl
  | [x] => rfl
  | x :: y :: r => by
    show ((x ++ sep) ++ Str.join sep (y :: r)).cps.toList = _
    rw [Str.cps_append, Str.cps_append, Array.toList_append, Array.toList_append, join_eq sep (y :: r)]
    simp [pjoin]

theorem rep_strs {C : RC} {h : Heap} : ∀ (l : List (Str × Tok)), RepL C h (l.map fun p => PV.str p.1.cps.toList) (strValues l)
  | [] => rfl
  | (s, t) :: l => ⟨_, strValues l, rfl, rep_str, rep_strs l⟩

section
variable {prog : Program} {w : World} {A : Around} {s : Shared} {C : RC} {O : Owns} {n : Nat}

noncomputable def biVal : PBi → Value
  | .len => .builtin "len"
  | .sum => .builtin "sum"
  | .max2 => .builtin "max"

theorem keepsOf {h' : Heap} {tk : Nat} (hk : ∀ b o, s.heap.get? b = some o → h'.get? b = some o) : Keeps s { s with heap := h', toks := tk } := ⟨h', tk, s.gens, rfl, .of hk, id⟩

theorem repL1 {h : Heap} {vs : List PV} {x : PV} {us : List Value} (e : pone vs = some x) (r : RepL C h vs us) : ∃ u, us = [u] ∧ Rep C h x u := by
  cases vs with
  | nil => cases e
  | cons p l =>
    obtain ⟨v, r', rfl, h1, h2⟩ := r
    cases l with
    | nil => cases e; cases h2; exact ⟨v, rfl, h1⟩
    | cons _ _ => cases e
theorem repL2 {h : Heap} {vs : List PV} {x : PV × PV} {us : List Value} (e : ptwo vs = some x) (r : RepL C h vs us) : ∃ u v, us = [u, v] ∧ Rep C h x.1 u ∧ Rep C h x.2 v := by
  cases vs with
  | nil => cases e
  | cons p l =>
    obtain ⟨y, e', rfl⟩ := Option.map_eq_some_iff.mp e
    obtain ⟨v, r', rfl, h1, h2⟩ := r
    obtain ⟨u, rfl, h3⟩ := repL1 e' h2
    exact ⟨v, u, rfl, h1, h3⟩

theorem len_ok {v : PV} {u : Value} {r : PV} (hr : plen O v = some r) (hx : Rep C s.heap v u) (W : Owned C O s.heap) : wpAny (model prog w) A (call (.builtin "len") [u]) (Post C s r) noE s := by
  unfold plen at hr
  cases h1 : asS v with
  | some l =>
    rw [h1] at hr
    obtain ⟨h, hr⟩ := ite_some hr
    cases hr
    obtain ⟨x, t, rfl, rfl⟩ := rep_asS h1 hx
    rw [← str_len] at h ⊢
    exact len_str (by lia) ⟨kp, rep_int⟩
  | none =>
    rw [h1] at hr
    cases h2 : asT v with
    | some l =>
      rw [h2] at hr
      obtain ⟨h, hr⟩ := ite_some hr
      cases hr
      obtain ⟨a, xs, rfl, _, ht, hl, e⟩ := rep_asT h2 hx
      rw [← e] at h ⊢
      exact len_tuple ht (by lia) ⟨kp, rep_int⟩
    | none =>
      rw [h2] at hr
      obtain ⟨l, el, hr⟩ := Option.bind_eq_some_iff.mp hr
      obtain ⟨h, hr⟩ := ite_some hr
      cases hr
      obtain ⟨a, xs, rfl, hp, hl, e⟩ := asL_rep' W el hx
      rw [← e] at h ⊢
      exact Calls.call_len_list hp.isList (by lia) ⟨kp, rep_int⟩
theorem bi_ok (R : Room n A) {b : PBi} {vs : List PV} {us : List Value} {r : PV} (hr : pbi O b vs = some r) (hv : RepL C s.heap vs us) (W : Owned C O s.heap) :
    wpAny (model prog w) A (call (biVal b) us) (Post C s r) noE s := by
  cases b with
  | len =>
    obtain ⟨v, e0, hr⟩ := Option.bind_eq_some_iff.mp hr
    obtain ⟨u, rfl, hx⟩ := repL1 e0 hv
    exact len_ok hr hx W
  | max2 =>
    obtain ⟨p, e0, hr⟩ := Option.bind_eq_some_iff.mp hr
    obtain ⟨u, v, rfl, hx, hy⟩ := repL2 e0 hv
    obtain ⟨a, e1, hr⟩ := Option.bind_eq_some_iff.mp hr
    obtain ⟨b, e2, hr⟩ := Option.bind_eq_some_iff.mp hr
    cases hr
    obtain ⟨_, rfl⟩ := rep_asI e1 hx
    obtain ⟨_, rfl⟩ := rep_asI e2 hy
    refine max_two_ints R.handled fun h' tk hk => ⟨keepsOf hk, ?_⟩
    by_cases hc : a < b
    · rw [if_pos hc, if_pos (show b > a from hc)]; exact rep_int
    · rw [if_neg hc, if_neg (show ¬ b > a from hc)]; exact rep_int
  | sum =>
    obtain ⟨v, e0, hr⟩ := Option.bind_eq_some_iff.mp hr
    obtain ⟨u, rfl, hx⟩ := repL1 e0 hv
    obtain ⟨ns, e, rfl⟩ := Option.map_eq_some_iff.mp hr
    obtain ⟨l, el, en⟩ := Option.bind_eq_some_iff.mp e
    obtain ⟨a, xs, rfl, hp, hl⟩ := asL_rep W el hx
    have hi := pints_rep en hl
    obtain ⟨zs, e2⟩ := hi.allInts.items
    have hns : ns = zs.toList.map (·.1) := by rw [← hi.numsOf, ← nums_intItems, ← e2]
    have hp' : s.heap.IsList a (intItems zs) := by
      have := hp.isList
      rwa [show xs = xs.toList.toArray by simp, e2] at this
    refine sum_intListG R.handled hp' fun h' tk t' hk => ⟨keepsOf hk, ?_⟩
    rw [preSum_eq, List.take_of_length_le (by simp), ← hns]
    exact rep_int

theorem pindex_at {vs : List PV} {x : PV} {i : Nat} (h : (vs.findIdx? fun y => pveq y x) = some i) : i < vs.length ∧ (∀ y, vs[i]? = some y → pveq y x = true) ∧ ∀ j y, j < i → vs[j]? = some y → pveq y x = false := by
  obtain ⟨h1, h2, h3⟩ := List.findIdx?_eq_some_iff_getElem.mp h
  refine ⟨h1, fun y e => ?_, fun j y hj e => ?_⟩
  · rw [List.getElem?_eq_getElem h1] at e; cases e; exact h2
  · have hj' : j < vs.length := by lia
    rw [List.getElem?_eq_getElem hj'] at e; cases e
    simpa using h3 j hj

noncomputable def meId : PMe → String
  | .join => "str.join"
  | .split => "str.split"
  | .replace => "str.replace"
  | .index => "list.index"

theorem toPDs_get : ∀ (vs : List PV) (i : Nat), (toPDs vs)[i]? = (vs[i]?).map toPD
  | [], i => by simp [toPDs]
  | p :: ps, 0 => by simp [toPDs]
  | p :: ps, i + 1 => by simp [toPDs, toPDs_get ps i]
theorem noStarL_get : ∀ {vs : List PV} {i : Nat} {y : PV}, noStarL vs = true → vs[i]? = some y → noStar y = true
  | [], i, y, _, e => nomatch e
  | p :: ps, 0, y, h, e => by cases e; exact (and_t h).1
  | p :: ps, i + 1, y, h, e => by exact noStarL_get (i := i) (and_t h).2 e


theorem split_call {x y : Str} {t u : Tok} {Q : Value → Shared → Prop} {E : Value → Shared → Prop} (hy : (y.length == 0) = false)
    (hq : ∀ l k, l.map (·.1) = Txt.split x y → Q (.ref s.heap.objs.size) { s with heap := s.heap.push { cls := .type "list", data := .seq (strValues l).toArray }, toks := k })
    (hsz : x.length ≤ sizeLine) (hsz2 : (Builtin.Str.partsBetween x (Builtin.Str.occurrences x y 0 x.length (x.length + 1)) y.length).length ≤ sizeLine) :
    wpAny (model prog w) A (call (.builtin "str.split") [.str x t, .str y u]) Q E s := by
  cases h1 : (decide (x.length < y.length) || decide (Builtin.Str.strKind x < Builtin.Str.strKind y))
  · cases hf : (Builtin.Str.occurrences x y 0 x.length (x.length + 1)).isEmpty
    · refine call_meets F.slot_str_split (typeIs_str _ _ _) F.entry_str_split (F.args_str_split_2 _ _) (meets_str_split_sep x y t u h1 hy hf hsz hsz2) ?_
      show wants Q E _ { s with toks := _, heap := s.heap.push { cls := .type "list", data := .seq (strsFrom s.toks (Builtin.Str.partsBetween x (Builtin.Str.occurrences x y 0 x.length (x.length + 1)) y.length)).toArray } }
      rw [strsFrom_eq]
      exact hq (numbered s.toks _) _ ((numbered_texts _ _).trans ((if_neg (ne_true_of_eq_false h1)).trans (if_neg (ne_true_of_eq_false hf))).symm)
    · exact call_meets F.slot_str_split (typeIs_str _ _ _) F.entry_str_split (F.args_str_split_2 _ _) (meets_str_split_not_found x y t u h1 hy hf)
        (hq [(x, t)] s.toks ((if_neg (ne_true_of_eq_false h1)).trans (if_pos hf)).symm)
  · exact call_meets F.slot_str_split (typeIs_str _ _ _) F.entry_str_split (F.args_str_split_2 _ _) (meets_str_split_cannot_occur x y t u h1)
      (hq [(x, t)] s.toks (if_pos h1).symm)

theorem not_found {x y : Str} (h : pisIn y.cps.toList x.cps.toList = false) : (Builtin.Str.occurrences x y 0 x.length (x.length + 1)).isEmpty = true := by
  obtain ⟨f, hc⟩ := StrLaws.occ_chain x y (x.length + 1)
  cases ho : Builtin.Str.occurrences x y 0 x.length (x.length + 1) with
  | nil => rfl
  | cons c r =>
    rw [ho] at hc
    have h2 : StrLaws.At x y x.length c := hc.2.1
    exfalso
    have : pisIn y.cps.toList x.cps.toList = true := by
      rw [pisIn_iff]
      refine ⟨c, by have := h2.1; rw [str_len, str_len] at this; exact this, ?_⟩
      have := h2.2
      rw [StrLaws.subAt_eq, str_len] at this
      simpa using this
    rw [h] at this; cases this

theorem join_ok {sep : Str} {t : Tok} {vs : List PV} {us : List Value} {r : PV} (hr : ((pone vs).bind fun v => ((asL O v).bind pstrs).bind fun ls => if (ls.map List.length).sum + ls.length * sep.cps.toList.length ≤ LIM then some (PV.str (pjoin sep.cps.toList ls)) else none) = some r)
    (hv : RepL C s.heap vs us) (W : Owned C O s.heap) : wpAny (model prog w) A (call (.builtin "str.join") (.str sep t :: us)) (Post C s r) noE s := by
  have hL := lim_size
  obtain ⟨v, e0, hr⟩ := Option.bind_eq_some_iff.mp hr
  obtain ⟨u, rfl, hx⟩ := repL1 e0 hv
  obtain ⟨ls, e, hr⟩ := Option.bind_eq_some_iff.mp hr
  obtain ⟨h, hr⟩ := ite_some hr
  cases hr
  obtain ⟨l, el, en⟩ := Option.bind_eq_some_iff.mp e
  obtain ⟨a, xs, rfl, hp, hl⟩ := asL_rep W el hx
  obtain ⟨tx, e1, e2⟩ := pstrs_rep en hl
  have hp' : s.heap.IsList a (strValues tx).toArray := by
    have := hp.isList
    rwa [show xs = xs.toList.toArray by simp, e1] at this
  have e3 : ls = (tx.map (·.1)).map (·.cps.toList) := by rw [← e2]; simp
  refine SC.join hp' rfl ?_ fun t' k => ⟨kp, rep_str' ?_⟩
  · unfold JoinOk
    rw [StrLaws.joinTotal]
    have h1 : (((tx.map (·.1)).map (·.length)).sum + (tx.map (·.1)).length * sep.length) ≤ sizeLine := by
      have e4 : (tx.map (·.1)).map (·.length) = ls.map List.length := by
        rw [e3, List.map_map, List.map_map, List.map_map]
        exact List.map_congr_left fun a _ => str_len _
      rw [e4, str_len, show (tx.map (·.1)).length = ls.length by rw [e3]; simp]
      exact Nat.le_trans h hL
    simp only [Builtin.Str.tooLong, Bool.not_eq_true', decide_eq_false_iff_not]
    exact Nat.not_lt.mpr h1
  · unfold Txt.join
    rw [StrLaws.glued_eq_join, join_eq, e3]
theorem split_ok {x : Str} {t : Tok} {vs : List PV} {us : List Value} {r : PV} (hr : ((pone vs).bind fun v => (asS v).bind fun sep => if sep.isEmpty || decide (LIM < x.cps.toList.length) then none else some (PV.list ((psplit sep x.cps.toList).map .str))) = some r)
    (hv : RepL C s.heap vs us) (W : Owned C O s.heap) : wpAny (model prog w) A (call (.builtin "str.split") (.str x t :: us)) (Post C s r) noE s := by
  have hL := lim_size
  obtain ⟨v, e0, hr⟩ := Option.bind_eq_some_iff.mp hr
  obtain ⟨u, rfl, hx⟩ := repL1 e0 hv
  obtain ⟨l, e1, hr⟩ := Option.bind_eq_some_iff.mp hr
  obtain ⟨h, hr⟩ := ite_no hr
  cases hr
  obtain ⟨y, t', rfl, rfl⟩ := rep_asS e1 hx
  simp only [Bool.or_eq_true, decide_eq_true_eq, not_or] at h
  have hy : y.length ≠ 0 := by rw [str_len]; intro h0; exact h.1 (by simpa using List.length_eq_zero_iff.mp h0)
  have h2 : x.length ≤ LIM := by rw [str_len]; exact Nat.not_lt.mp h.2
  have hparts : (Builtin.Str.partsBetween x (Builtin.Str.occurrences x y 0 x.length (x.length + 1)) y.length).length ≤ sizeLine := by
    have h1 := StrLaws.occ_length_le x y 0 x.length (x.length + 1)
    unfold Builtin.Str.partsBetween
    simp only [List.length_map, List.length_zip, List.length_cons, List.length_append, List.length_nil]
    unfold LIM at h2
    rw [sizeLine_eq]
    lia
  refine split_call (by simpa using hy) (fun l k e => ⟨kpush, ?_⟩) (Nat.le_trans h2 hL) hparts
  have e2 : psplit y.cps.toList x.cps.toList = l.map fun p => p.1.cps.toList := by
    rw [← psplit_eq x y hy, ← e, List.map_map]; rfl
  rw [e2, List.map_map]
  exact rep_new W (rep_strs l)
theorem repl_ok {x : Str} {t : Tok} {vs : List PV} {us : List Value} {r : PV} (hr : ((ptwo vs).bind fun p => (asS p.1).bind fun a => (asS p.2).bind fun _ => if pisIn a x.cps.toList then none else some (PV.str x.cps.toList)) = some r)
    (hv : RepL C s.heap vs us) : wpAny (model prog w) A (call (.builtin "str.replace") (.str x t :: us)) (Post C s r) noE s := by
  obtain ⟨p, e0, hr⟩ := Option.bind_eq_some_iff.mp hr
  obtain ⟨v, v', rfl, hx, hy⟩ := repL2 e0 hv
  obtain ⟨a, e1, hr⟩ := Option.bind_eq_some_iff.mp hr
  obtain ⟨b, e2, hr⟩ := Option.bind_eq_some_iff.mp hr
  obtain ⟨h, hr⟩ := ite_no hr
  cases hr
  obtain ⟨y, t', rfl, rfl⟩ := rep_asS e1 hx
  obtain ⟨z, t'', rfl, rfl⟩ := rep_asS e2 hy
  have hn := not_found (x := x) (y := y) (Bool.eq_false_iff.mpr h)
  have hc : ((Builtin.Str.occurrences x y 0 x.length (x.length + 1)).isEmpty || (y.length == 0 && z.length == 0)) = true := by rw [hn]; rfl
  refine call_gives F.slot_str_replace (typeIs_str _ _ _) F.entry_str_replace (F.args_str_replace_3 _ _ _)
    (gives_str_replace x y z t t' t'' fun hf => absurd hc (by rw [hf]; nofun)) ?_
  rw [if_pos hc]
  exact ⟨krefl s, rep_str⟩
theorem index_ok (R : Room n A) {o x : PV} {u v : Value} {r : PV} (hr : pindex O o x = some r) (ho : Rep C s.heap o u) (hx : Rep C s.heap x v) (W : Owned C O s.heap) :
    wpAny (model prog w) A (call (.builtin "list.index") [u, v]) (Post C s r) noE s := by
  have hL := lim_size
  have hu := R.units
  obtain ⟨l, el, hr⟩ := Option.bind_eq_some_iff.mp hr
  obtain ⟨h, hr⟩ := ite_some hr
  obtain ⟨g1, h⟩ := and_t h
  obtain ⟨g2, g3⟩ := and_t h
  have g3 := of_decide_eq_true g3
  obtain ⟨i, ei, rfl⟩ := Option.map_eq_some_iff.mp hr
  obtain ⟨i1, i2, i3⟩ := pindex_at ei
  have h1 := okDs_spec 8 _ g1
  have h2 := okD_spec 8 _ g2
  obtain ⟨a, xs, rfl, ⟨m, hp⟩, hl, hlen⟩ := asL_rep' W el ho
  obtain ⟨as, q⟩ := RepL.reads _ _ h1.1 hl
  obtain ⟨bs, r2⟩ := Rep.reads _ _ h2.1 hx
  have hmap := SeqAt.readsAll_map _ _ _ h1.2.1 q
  have hat : ∀ (j : Nat) (hj : j < xs.size) y, l[j]? = some y → SeqAt.readOf s.heap xs[j] = toPD y := by
    intro j hj y hy
    have e1 : (xs.toList.map (SeqAt.readOf s.heap))[j]? = some (toPD y) := by rw [hmap, toPDs_get, hy]; rfl
    simpa [hj] using e1
  refine call_meets PySem.F.slot_list_index ⟨_, hp, rfl⟩ PySem.F.entry_list_index (PySem.F.args_list_index_2 _ _)
    (SeqAt.list_indexAt a xs m none #[] v (fun y => PyData.eqv (SeqAt.readOf s.heap y) (toPD x)) i (by lia) (by unfold LIM at g3; lia) ?_ ?_)
    ⟨hp, SeqAt.items_eqAt (A := A) q r2 h1.2.1 h2.2.1 (by lia), kp, rep_int⟩
  · have hi : i < l.length := i1
    have e := List.getElem?_eq_getElem hi
    have := i2 _ e
    rw [pveq_eqv _ _ (noStarL_get h1.1 e) h2.1] at this
    show PyData.eqv (SeqAt.readOf s.heap xs[i]) _ = true
    rw [hat i (by lia) _ e]; exact this
  · intro j hj hji
    have hj' : j < l.length := by lia
    have e := List.getElem?_eq_getElem hj'
    have := i3 j _ hji e
    rw [pveq_eqv _ _ (noStarL_get h1.1 e) h2.1] at this
    show PyData.eqv (SeqAt.readOf s.heap xs[j]) _ = false
    rw [hat j hj _ e]; exact this
theorem me_ok (R : Room n A) {m : PMe} {o : PV} {vs : List PV} {u : Value} {us : List Value} {r : PV} (hr : pme O m o vs = some r) (ho : Rep C s.heap o u) (hv : RepL C s.heap vs us) (W : Owned C O s.heap) :
    wpAny (model prog w) A (call (.builtin (meId m)) (u :: us)) (Post C s r) noE s := by
  cases m with
  | join =>
    obtain ⟨l, e, hr⟩ := Option.bind_eq_some_iff.mp hr
    obtain ⟨x, t, rfl, rfl⟩ := rep_asS e ho
    exact join_ok hr hv W
  | split =>
    obtain ⟨l, e, hr⟩ := Option.bind_eq_some_iff.mp hr
    obtain ⟨x, t, rfl, rfl⟩ := rep_asS e ho
    exact split_ok hr hv W
  | replace =>
    obtain ⟨l, e, hr⟩ := Option.bind_eq_some_iff.mp hr
    obtain ⟨x, t, rfl, rfl⟩ := rep_asS e ho
    exact repl_ok hr hv
  | index =>
    obtain ⟨v, e0, hr⟩ := Option.bind_eq_some_iff.mp hr
    obtain ⟨z, rfl, hx⟩ := repL1 e0 hv
    exact index_ok R hr ho hx W
end
end Mine

namespace Mine
open StrLaws

noncomputable def Sees (env : Env) (h : Heap) (x : Str) (u : Value) : Prop :=
  (env.kindOf x = some .local ∧ ∃ m, h.Ns env.locals m ∧ m x = some u) ∨
  ((env.kindOf x = some .cell ∨ env.kindOf x = some .free) ∧ ∃ c, env.cells.lookup x = some c ∧ h.IsCell c (some u))

noncomputable def biTab : List (Str × Value) := [("len", .builtin "len"), ("sum", .builtin "sum"), ("max", .builtin "max"), ("range", .type "range"), ("object", .type "object"), ("isinstance", .builtin "isinstance"), ("str", .type "str")]

noncomputable def reCode : Array Nat := #[14, 14, 4, 1, 1, 9, 0, 64, 0, 1342177280, 0, 0, 0, 0, 0, 17, 0, 13, 11, 9, 0, 64, 0, 1342177280, 0, 0, 0, 0, 0, 17, 1, 1]
noncomputable def subOk (l : List Nat) : Bool := decide (l.length ≤ LIM) && l.all fun c => !(c == 38 || c == 126 || c == 124)

/-- the regex object of the top -/
structure ReOk (h : Heap) : Prop where
  pat : ∃ fs : Array Value, h.get? reA = some { cls := .type "re.Pattern", data := .fields fs } ∧ PySem.Builtin.Re.reRawNat (fs.getD 6 .none) = 0 ∧ fs.getD 5 .none = .ref reC
  code : ∃ (xs : Array Value) (o : Obj) (n : Nat), h.get? reC = some o ∧ o.data = .seq xs n ∧ (xs.map PySem.Builtin.Re.reRawOf).map (·.toNat) = reCode
theorem ReOk.keep {h h' : Heap} (K : ReOk h) (k : KN h h') : ReOk h' :=
  ⟨let ⟨fs, e, r⟩ := K.pat; ⟨fs, k.nt _ _ (noTab_cls nofun) e, r⟩, let ⟨xs, o, n, e, hd, r⟩ := K.code; ⟨xs, o, n, k.nt _ _ (noTab_data (by rw [hd]; nofun)) e, hd, r⟩⟩

/-- what the top holds -/
structure Base (mg mb : Str → Option Value) (hB : Heap) : Prop where
  nsg : hB.Ns mainGlobals mg
  nsb : hB.Ns builtinsNs mb
  pt : ∃ ps, hB.get? PT = some { cls := .none, data := .fields ps } ∧ TriplesOk ps.toList
  bis : ∀ p ∈ biTab, mg p.1 = none ∧ mb p.1 = some p.2
  cod : CodeHd hB CT PT
  bat : hB.BuiltinsAt mg PT
  lim : hB.NoLimit
  sp : mg "_special_chars_map" = some (.ref spA)
  re : mg "_twin_re_1" = some (.ref reA)
  reo : ReOk hB

structure EInv (mg mb : Str → Option Value) (hB : Heap) (sc : Scope) (env : Env) (C : RC) (G : Slots) (O : Owns) (h : Heap) : Prop where
  base : Base mg mb hB
  kind : env.scope.kind = .function
  glb : env.globals = mainGlobals
  blt : env.builtins = builtinsNs
  cdv : (slotOf sc "stuff").isSome = true → env.code = .ref CT
  top : KN hB h
  knd : ∀ x k, sc.names.lookup x = some k → env.kindOf x = some k ∨ k = .free ∧ env.kindOf x = some .cell
  cel : ∀ x, sc.names.lookup x = some .cell ∨ sc.names.lookup x = some .free → ∃ c, env.cells.lookup x = some c
  slots : ∀ x i v, slotOf sc x = some i → G[i]? = some (some v) → ∃ u, Sees env h x u ∧ Rep C h v u
  W : Owned C O h

theorem EInv.gls {mg mb : Str → Option Value} {hB : Heap} {sc : Scope} {env : Env} {C : RC} {G : Slots} {O : Owns} {h : Heap} (I : EInv mg mb hB sc env C G O h) (x : Str) (e : sc.names.lookup x = some .globalImplicit) : env.kindOf x = some .globalImplicit := by
  rcases I.knd x _ e with h | ⟨h, _⟩
  · exact h
  · cases h

theorem Sees.keep {env : Env} {h h' : Heap} {x : Str} {u : Value} (S : Sees env h x u) (hk : KN h h') : Sees env h' x u := by
  rcases S with ⟨a, m, b, c⟩ | ⟨a, c, b, d⟩
  · exact .inl ⟨a, m, hk.ns b, c⟩
  · exact .inr ⟨a, c, b, hk.cell d⟩

theorem EInv.keep {mg mb : Str → Option Value} {hB : Heap} {sc : Scope} {env : Env} {C : RC} {G : Slots} {O : Owns} {h h' : Heap} (I : EInv mg mb hB sc env C G O h)
    (hk : KN h h') : EInv mg mb hB sc env C G O h' where
  base := I.base
  kind := I.kind
  glb := I.glb
  blt := I.blt
  cdv := I.cdv
  top := I.top.trans hk
  knd := I.knd
  cel := I.cel
  slots := fun x i v e1 e2 => let ⟨u, S, r⟩ := I.slots x i v e1 e2; ⟨u, S.keep hk, r.keep hk⟩
  W := I.W.keep hk

section
variable (prog : Program) (w : World) (mg mb : Str → Option Value) (hB : Heap)

/-- a def's call gives what F says -/
noncomputable def FnOk (n : Nat) (x : Str) (args : List PV) (r : PV) : Prop :=
  ∃ a fd o, mg x = some (.ref a) ∧ hB.get? a = some o ∧ o.data = .func fd ∧ noOwn r = true ∧
    ∀ (C : RC) (vals : List Value) (A : Around) (s : Shared), KN hB s.heap → (∀ b, C.X b → ∃ o, NoTab o ∧ s.heap.get? b = some o) → RepL C s.heap args vals → noOwnL args = true → Room n A →
      wpAny (model prog w) A (call (.ref a) vals) (Post C s r) noE s

structure FsOk (n : Nat) (F : PF1) : Prop where
  fn : ∀ x f args r, (x, f) ∈ fnTab → F f args = some r → FnOk prog w mg hB n x args r
  sub : ∀ v r, F "%sub" [v] = some r → ∃ l, v = .str l ∧ subOk l = true ∧ r = .str l

structure Cx (n : Nat) (sc : Scope) (F : PF1) (C : RC) (G : Slots) (O : Owns) (env : Env) (A : Around) (h : Heap) : Prop where
  FS : FsOk prog w mg hB n F
  I : EInv mg mb hB sc env C G O h
  R : Room n A

noncomputable def ES (n : Nat) (sc : Scope) (e : Expr) (pe : PE) : Prop :=
  ∀ {F : PF1} {C : RC} {G : Slots} {O : Owns} {env : Env} {A : Around} {s : Shared} {pv : PV}, Cx prog w mg mb hB n sc F C G O env A s.heap → ev F O G pe = some pv →
    wpAny (model prog w) A (eval e env) (Post C s pv) noE s
noncomputable def TS (n : Nat) (sc : Scope) (e : Expr) (pe : PE) : Prop :=
  ∀ {F : PF1} {C : RC} {G : Slots} {O : Owns} {env : Env} {A : Around} {s : Shared} {b : Bool}, Cx prog w mg mb hB n sc F C G O env A s.heap → pt F O G pe = some b →
    wpAny (model prog w) A (isTrue e env (eval e env)) (PostT s b) noE s
noncomputable def SS (n : Nat) (sc : Scope) (es : List Expr) (pes : PEs) : Prop :=
  ∀ {F : PF1} {C : RC} {G : Slots} {O : Owns} {env : Env} {A : Around} {s : Shared} {vs : List PV}, Cx prog w mg mb hB n sc F C G O env A s.heap → evs F O G pes = some vs →
    wpAny (model prog w) A (spliced (es.map fun e => (false, eval e env))) (fun us s' => Keeps s s' ∧ RepL C s'.heap vs us) noE s
noncomputable def OS (n : Nat) (sc : Scope) (e : Option Expr) (pe : PE) : Prop :=
  ∀ {F : PF1} {C : RC} {G : Slots} {O : Owns} {env : Env} {A : Around} {s : Shared} {pv : PV}, Cx prog w mg mb hB n sc F C G O env A s.heap → ev F O G pe = some pv →
    wpAny (model prog w) A (evalPart e env) (Post C s pv) noE s
end

section
variable {prog : Program} {w : World} {mg mb : Str → Option Value} {hB : Heap} {n : Nat} {sc : Scope}

theorem Cx.keep {F : PF1} {C : RC} {G : Slots} {O : Owns} {env : Env} {A : Around} {s s' : Shared} (K : Cx prog w mg mb hB n sc F C G O env A s.heap) (k : Keeps s s') :
    Cx prog w mg mb hB n sc F C G O env A s'.heap := ⟨K.FS, K.I.keep (kheap k), K.R⟩

/-- chaining: a step's post, then the rest -/
theorem seqE {α : Type} {M : Model} {A : Around} {t : Sem α} {s : Shared} {P : α → Shared → Prop} {Q : α → Shared → Prop} {E : Value → Shared → Prop}
    (h : wpAny M A t P noE s) (hQ : ∀ a s', P a s' → Q a s') : wpAny M A t Q E s := wpAny_mono h hQ fun _ _ x => x.elim

theorem name_ok {x : Str} {i : Nat} {pos : Pos} (hd : dbg x = false) (hi : slotOf sc x = some i) : ES prog w mg mb hB n sc (.Name x pos) (.var i) := by
  intro F C G O env A s pv K hv
  have hd1 : (x == ("__debug__" : Str)) = false := by unfold dbg at hd; simp only [Bool.or_eq_false_iff] at hd; exact hd.1
  have hd2 : (x == ("__classdict__" : Str)) = false := by unfold dbg at hd; simp only [Bool.or_eq_false_iff] at hd; exact hd.2
  have hg : G[i]? = some (some pv) := by
    obtain ⟨q, e, hq⟩ := Option.bind_eq_some_iff.mp hv
    cases hq; exact e
  obtain ⟨u, S, r⟩ := K.I.slots x i pv hi hg
  refine wpAny_Name ?_ hd1
  rcases S with ⟨hk, m, hn, hm⟩ | ⟨hk, c, hc, hcell⟩
  · exact wpAny_loadName_local K.I.kind hk hn hm ⟨krefl s, r⟩
  · rcases hk with hk | hk
    · exact wpAny_loadName_cell K.I.kind hk hc hcell ⟨krefl s, r⟩
    · exact wpAny_loadName_free K.I.kind hk hc hcell ⟨krefl s, r⟩ hd2

theorem const_ok {c : Const} {k : Nat} {pos : Pos} {pe : PE} (h : cConst c = some pe) : ES prog w mg mb hB n sc (.Constant c k pos) pe := by
  intro F C G O env A s pv K hv
  rw [eval_Constant]
  cases c <;> cases h <;> cases hv
  · exact wpAny_pure ⟨krefl s, rep_none⟩
  · exact wpAny_pure ⟨krefl s, rep_bool⟩
  · exact wpAny_mkInt ⟨kp, rep_int⟩
  · exact wpAny_mkText ⟨kp, rep_str⟩

theorem neg_ok {i : Int} {k : Nat} {pos pos' : Pos} : ES prog w mg mb hB n sc (.UnaryOp .USub (.Constant (.int i) k pos) pos') (.ci (-i)) := by
  intro F C G O env A s pv K hv
  cases hv
  exact wpAny_UnaryOp (wpAny_Constant_int (neg_int ⟨kp, rep_int⟩))

theorem bin_okE {l r : Expr} {o : Operator} {op : PBin} {a b : PE} {pos : Pos} (hl : ES prog w mg mb hB n sc l a) (hr : ES prog w mg mb hB n sc r b) (ho : cBin o = some op) :
    ES prog w mg mb hB n sc (.BinOp l o r pos) (.bin op a b) := by
  intro F C G O env A s pv K hv
  obtain ⟨x, e1, hv⟩ := Option.bind_eq_some_iff.mp hv
  obtain ⟨y, e2, hv⟩ := Option.bind_eq_some_iff.mp hv
  refine wpAny_BinOp (seqE (hl K e1) fun u s1 ⟨k1, r1⟩ => ?_)
  refine seqE (hr (K.keep k1) e2) fun v s2 ⟨k2, r2⟩ => ?_
  exact seqE (bin_ok ho hv (r1.keep (kheap k2)) r2 ((K.keep k1).keep k2).I.W) fun z s3 ⟨k3, r3⟩ => ⟨ktrans k1 (ktrans k2 k3), r3⟩

theorem cmp_okE {l r : Expr} {o : CmpOp} {a b : PE} {pos : Pos} (hl : ES prog w mg mb hB n sc l a) (hr : ES prog w mg mb hB n sc r b) (hm : behindInMarks o r = false) :
    ES prog w mg mb hB n sc (.Compare l [o] [r] pos) (.cmp (cCmp o) a b) := by
  intro F C G O env A s pv K hv
  obtain ⟨x, e1, hv⟩ := Option.bind_eq_some_iff.mp hv
  obtain ⟨y, e2, hv⟩ := Option.bind_eq_some_iff.mp hv
  obtain ⟨t, e3, rfl⟩ := Option.map_eq_some_iff.mp hv
  refine wpAny_Compare1 (seqE (hl K e1) fun u s1 ⟨k1, r1⟩ => ?_) hm
  refine seqE (hr (K.keep k1) e2) fun v s2 ⟨k2, r2⟩ => ?_
  exact seqE (cmp_ok K.R e3 (r1.keep (kheap k2)) r2 ((K.keep k1).keep k2).I.W) fun z s3 ⟨k3, r3⟩ => ⟨ktrans k1 (ktrans k2 k3), by subst r3; exact rep_bool⟩

theorem cmp_okT {l r : Expr} {o : CmpOp} {a b : PE} {pos : Pos} (hl : ES prog w mg mb hB n sc l a) (hr : ES prog w mg mb hB n sc r b) (hm : behindInMarks o r = false) :
    TS prog w mg mb hB n sc (.Compare l [o] [r] pos) (.cmp (cCmp o) a b) := by
  intro F C G O env A s pv K hv
  obtain ⟨x, e1, hv⟩ := Option.bind_eq_some_iff.mp hv
  obtain ⟨y, e2, hv⟩ := Option.bind_eq_some_iff.mp hv
  refine wpAny_isTrue_Compare1 (seqE (hl K e1) fun u s1 ⟨k1, r1⟩ => ?_) hm
  refine seqE (hr (K.keep k1) e2) fun v s2 ⟨k2, r2⟩ => ?_
  exact seqE (cmp_ok K.R hv (r1.keep (kheap k2)) r2 ((K.keep k1).keep k2).I.W) fun z s3 ⟨k3, r3⟩ => by subst r3; exact wpAny_truthy_bool ⟨ktrans k1 (ktrans k2 k3), rfl⟩

theorem and_okE {l r : Expr} {a b : PE} {pos : Pos} (hl : ES prog w mg mb hB n sc l a) (hr : ES prog w mg mb hB n sc r b) : ES prog w mg mb hB n sc (.BoolOp .And [l, r] pos) (.and2 a b) := by
  intro F C G O env A s pv K hv
  obtain ⟨x, e1, hv⟩ := Option.bind_eq_some_iff.mp hv
  obtain ⟨t, e2, hv⟩ := Option.bind_eq_some_iff.mp hv
  refine wpAny_And2 (seqE (hl K e1) fun u s1 ⟨k1, r1⟩ => ?_)
  refine seqE (truth_ok e2 r1 (K.keep k1).I.W) fun t' s2 ⟨k2, r2⟩ => ?_
  subst r2
  cases t'
  · simp only [Bool.false_eq_true, if_false, Option.some.injEq] at hv ⊢
    subst hv; exact ⟨ktrans k1 k2, r1.keep (kheap k2)⟩
  · simp only [if_true] at hv ⊢
    exact seqE (hr ((K.keep k1).keep k2) hv) fun z s3 ⟨k3, r3⟩ => ⟨ktrans k1 (ktrans k2 k3), r3⟩
theorem or_okE {l : Expr} {a b : PE} {rest : List Expr} {pos : Pos} (hl : ES prog w mg mb hB n sc l a)
    (hr : ∀ {F : PF1} {C : RC} {G : Slots} {O : Owns} {env : Env} {A : Around} {s : Shared} {pv : PV}, Cx prog w mg mb hB n sc F C G O env A s.heap → ev F O G b = some pv → wpAny (model prog w) A (boolOp pos .Or (evalEach rest env)) (Post C s pv) noE s)
    (hne : ∀ env : Env, ∃ y ys, evalEach rest env = y :: ys) :
    ES prog w mg mb hB n sc (.BoolOp .Or (l :: rest) pos) (.or2 a b) := by
  intro F C G O env A s pv K hv
  obtain ⟨x, e1, hv⟩ := Option.bind_eq_some_iff.mp hv
  obtain ⟨t, e2, hv⟩ := Option.bind_eq_some_iff.mp hv
  obtain ⟨y, ys, hy⟩ := hne env
  rw [arm_eval_BoolOp]
  have e : boolOp pos .Or (evalEach (l :: rest) env) = (do
    let v ← eval l env
    standAt pos
    let t ← holding [v] (truthy v)
    match BoolOp.Or, t with
    | .And, false | .Or, true => pure v
    | _, _ => boolOp pos .Or (evalEach rest env)) := by
    show boolOp pos .Or (eval l env :: evalEach rest env) = _
    rw [hy]; rfl
  rw [e]
  refine wpAny_bind (seqE (hl K e1) fun u s1 ⟨k1, r1⟩ => wpAny_bind (wpAny_standAt (wpAny_bind (wpAny_holding ?_))))
  refine seqE (truth_ok e2 r1 (K.keep k1).I.W) fun t' s2 ⟨k2, r2⟩ => ?_
  subst r2
  cases t'
  · simp only [Bool.false_eq_true, if_false] at hv ⊢
    exact seqE (hr ((K.keep k1).keep k2) hv) fun z s3 ⟨k3, r3⟩ => ⟨ktrans k1 (ktrans k2 k3), r3⟩
  · simp only [if_true, Option.some.injEq] at hv ⊢
    subst hv; exact wpAny_pure ⟨ktrans k1 k2, r1.keep (kheap k2)⟩

theorem allTrue_cons {op : BoolOp} {x : Expr} {rest : List Expr} {env : Env} : allTrue op (x :: rest) env = (do
    match op, ← isTrue x env (eval x env) with
    | .And, false => pure false
    | .Or, true => pure true
    | _, _ => allTrue op rest env) := rfl
theorem and_okT {l r : Expr} {a b : PE} {pos : Pos} (hl : TS prog w mg mb hB n sc l a) (hr : TS prog w mg mb hB n sc r b) : TS prog w mg mb hB n sc (.BoolOp .And [l, r] pos) (.and2 a b) := by
  intro F C G O env A s pv K hv
  obtain ⟨t, e1, hv⟩ := Option.bind_eq_some_iff.mp hv
  rw [arm_isTrue_BoolOp, allTrue_cons]
  refine wpAny_bind (seqE (hl K e1) fun t' s1 ⟨k1, r1⟩ => ?_)
  subst r1
  cases t'
  · simp only [Bool.false_eq_true, if_false, Option.some.injEq] at hv
    subst hv; exact wpAny_pure ⟨k1, rfl⟩
  · simp only [if_true] at hv
    show wpAny _ _ (allTrue .And [r] env) _ _ _
    rw [allTrue_cons]
    refine wpAny_bind (seqE (hr (K.keep k1) hv) fun t2 s2 ⟨k2, r2⟩ => ?_)
    subst r2
    cases t2
    · exact wpAny_pure ⟨ktrans k1 k2, rfl⟩
    · exact wpAny_pure ⟨ktrans k1 k2, rfl⟩
theorem or_okT {l : Expr} {a b : PE} {rest : List Expr} {pos : Pos} (hl : TS prog w mg mb hB n sc l a)
    (hr : ∀ {F : PF1} {C : RC} {G : Slots} {O : Owns} {env : Env} {A : Around} {s : Shared} {b' : Bool}, Cx prog w mg mb hB n sc F C G O env A s.heap → pt F O G b = some b' → wpAny (model prog w) A (allTrue .Or rest env) (PostT s b') noE s) :
    TS prog w mg mb hB n sc (.BoolOp .Or (l :: rest) pos) (.or2 a b) := by
  intro F C G O env A s pv K hv
  obtain ⟨t, e1, hv⟩ := Option.bind_eq_some_iff.mp hv
  rw [arm_isTrue_BoolOp, allTrue_cons]
  refine wpAny_bind (seqE (hl K e1) fun t' s1 ⟨k1, r1⟩ => ?_)
  subst r1
  cases t'
  · simp only [Bool.false_eq_true, if_false] at hv
    exact seqE (hr (K.keep k1) hv) fun t2 s2 ⟨k2, r2⟩ => ⟨ktrans k1 k2, r2⟩
  · simp only [if_true, Option.some.injEq] at hv
    subst hv; exact wpAny_pure ⟨k1, rfl⟩
theorem allOr_one {r : Expr} {b : PE} (hr : TS prog w mg mb hB n sc r b) {F : PF1} {C : RC} {G : Slots} {O : Owns} {env : Env} {A : Around} {s : Shared} {b' : Bool} (K : Cx prog w mg mb hB n sc F C G O env A s.heap) (hv : pt F O G b = some b') :
    wpAny (model prog w) A (allTrue .Or [r] env) (PostT s b') noE s := by
  rw [allTrue_cons]
  refine wpAny_bind (seqE (hr K hv) fun t2 s2 ⟨k2, r2⟩ => ?_)
  subst r2
  cases t2
  · exact wpAny_pure ⟨k2, rfl⟩
  · exact wpAny_pure ⟨k2, rfl⟩

theorem not_okE {l : Expr} {a : PE} {pos : Pos} (hl : ES prog w mg mb hB n sc l a) : ES prog w mg mb hB n sc (.UnaryOp .Not l pos) (.not a) := by
  intro F C G O env A s pv K hv
  obtain ⟨x, e1, hv⟩ := Option.bind_eq_some_iff.mp hv
  obtain ⟨t, e2, rfl⟩ := Option.map_eq_some_iff.mp hv
  refine wpAny_UnaryOp (seqE (hl K e1) fun u s1 ⟨k1, r1⟩ => ?_)
  exact not_of (seqE (truth_ok e2 r1 (K.keep k1).I.W) fun t' s2 ⟨k2, r2⟩ => ⟨ktrans k1 k2, by subst r2; exact rep_bool⟩)
theorem not_okT {l : Expr} {a : PE} {pos : Pos} (hl : TS prog w mg mb hB n sc l a) : TS prog w mg mb hB n sc (.UnaryOp .Not l pos) (.not a) := by
  intro F C G O env A s pv K hv
  obtain ⟨t, e2, rfl⟩ := Option.map_eq_some_iff.mp hv
  exact wpAny_isTrue_Not (seqE (hl K e2) fun t' s1 ⟨k1, r1⟩ => ⟨k1, by subst r1; rfl⟩)
theorem ite_okE {c l r : Expr} {p a b : PE} {pos : Pos} (hc : TS prog w mg mb hB n sc c p) (hl : ES prog w mg mb hB n sc l a) (hr : ES prog w mg mb hB n sc r b) :
    ES prog w mg mb hB n sc (.IfExp c l r pos) (.ite p a b) := by
  intro F C G O env A s pv K hv
  obtain ⟨t, e1, hv⟩ := Option.bind_eq_some_iff.mp hv
  refine wpAny_IfExp (seqE (hc K e1) fun t' s1 ⟨k1, r1⟩ => ?_)
  subst r1
  cases t'
  · simp only [Bool.false_eq_true, if_false] at hv ⊢
    exact seqE (hr (K.keep k1) hv) fun z s3 ⟨k3, r3⟩ => ⟨ktrans k1 k3, r3⟩
  · simp only [if_true] at hv ⊢
    exact seqE (hl (K.keep k1) hv) fun z s3 ⟨k3, r3⟩ => ⟨ktrans k1 k3, r3⟩
/-- a test that is just the value's truth -/
theorem plain_okT {e : Expr} {pe : PE} (he : ES prog w mg mb hB n sc e pe) (ht : ∀ (env : Env) (w : Sem Value), isTrue e env w = (do let v ← w; standAt e.pos; holding [v] (truthy v)))
    {F : PF1} {C : RC} {G : Slots} {O : Owns} {env : Env} {A : Around} {s : Shared} {b : Bool} (K : Cx prog w mg mb hB n sc F C G O env A s.heap) (hv : (ev F O G pe).bind (ptruth O) = some b) :
    wpAny (model prog w) A (isTrue e env (eval e env)) (PostT s b) noE s := by
  obtain ⟨x, e1, e2⟩ := Option.bind_eq_some_iff.mp hv
  rw [ht]
  refine wpAny_bind (seqE (he K e1) fun u s1 ⟨k1, r1⟩ => wpAny_bind (wpAny_standAt (wpAny_holding ?_)))
  exact seqE (truth_ok e2 r1 (K.keep k1).I.W) fun t' s2 ⟨k2, r2⟩ => ⟨ktrans k1 k2, r2⟩
end
end Mine

namespace Mine
open StrLaws

theorem starEach_cons {e : Expr} {r : List Expr} {env : Env} (h : (!isStar e) = true) : starEach (e :: r) env = (false, eval e env) :: starEach r env := by
  cases e <;> first | rfl | cases h
theorem starEach_of : ∀ {es : List Expr} {env : Env}, NoStars es = true → starEach es env = es.map fun e => (false, eval e env)
  | [], _, _ => rfl
  | e :: r, env, h => (starEach_cons (and_t h).1).trans (congrArg _ (starEach_of (and_t h).2))
theorem backTo_of {es : List Expr} {env : Env} {pos : Pos} (h : NoStars es = true) : backTo pos (starEach es env) = es.map fun e => (false, eval e env) := by
  rw [starEach_of h]
  unfold backTo
  rw [List.map_map]
  exact List.map_congr_left fun e _ => rfl
theorem any_of {es : List Expr} {env : Env} : (es.map fun e => (false, eval e env)).any (·.1) = false := by
  induction es with
  | nil => rfl
  | cons e r ih => exact ih

section
variable {prog : Program} {w : World} {mg mb : Str → Option Value} {hB : Heap} {n : Nat} {sc : Scope}

theorem ss_nil : SS prog w mg mb hB n sc [] .nil := by
  intro F C G O env A s vs K hv
  cases hv
  exact Calls.spliced_nil ⟨krefl s, by simp only [RepL]⟩
theorem ss_cons {e : Expr} {es : List Expr} {p : PE} {ps : PEs} (he : ES prog w mg mb hB n sc e p) (hs : SS prog w mg mb hB n sc es ps) : SS prog w mg mb hB n sc (e :: es) (.cons p ps) := by
  intro F C G O env A s vs K hv
  obtain ⟨x, e1, hv⟩ := Option.bind_eq_some_iff.mp hv
  obtain ⟨xs, e2, rfl⟩ := Option.map_eq_some_iff.mp hv
  refine Calls.spliced_cons (seqE (he K e1) fun u s1 ⟨k1, r1⟩ => ?_)
  refine seqE (hs (K.keep k1) e2) fun us s2 ⟨k2, r2⟩ => ⟨ktrans k1 k2, ?_⟩
  simp only [RepL]
  exact ⟨u, us, rfl, r1.keep (kheap k2), r2⟩

theorem evalArgs_of {A : Around} {E : Value → Shared → Prop} {s : Shared} {f : Value} {es : List Expr} {env : Env} {Q : Args → Shared → Prop}
    (h : wpAny (model prog w) A (spliced (es.map fun e => (false, eval e env))) (fun vs s' => Q ⟨vs, []⟩ s') E s) : wpAny (model prog w) A (evalArgs f true (es.map fun e => (false, eval e env)) []) Q E s := by
  cases es with
  | nil =>
    unfold evalArgs
    show wpAny _ A (spliced [] >>= _) Q E s
    refine wpAny_bind (wpAny_mono h (fun vs s' h' => ?_) fun _ _ x => x)
    refine wpAny_holding ?_
    exact wpAny_bind (wpAny_pure (wpAny_bind (wpAny_pure (wpAny_pure h'))))
  | cons e r => exact Calls.evalArgs_plain h

theorem evs_len {F : PF1} {O : Owns} {G : Slots} : ∀ {ps : PEs} {vs : List PV}, evs F O G ps = some vs → vs.length = ps.len
  | .nil, vs, h => by cases h; rfl
  | .cons p r, vs, h => by
    obtain ⟨x, e1, h⟩ := Option.bind_eq_some_iff.mp h
    obtain ⟨xs, e2, rfl⟩ := Option.map_eq_some_iff.mp h
    simp [PEs.len, evs_len e2]

theorem tup_okE {es : List Expr} {ps : PEs} {k : Nat} {pos : Pos} (hs : SS prog w mg mb hB n sc es ps) (hn : NoStars es = true) (hl : ps.len ≤ 64) : ES prog w mg mb hB n sc (.Tuple es k pos) (.tup ps) := by
  intro F C G O env A s pv K hv
  obtain ⟨xs, e2, rfl⟩ := Option.map_eq_some_iff.mp hv
  refine wpAny_Tuple_spliced ?_
  rw [backTo_of hn]
  refine seqE (hs K e2) fun us s1 ⟨k1, r1⟩ => ⟨?_, ktrans k1 kpush, rep_newT (K.keep k1).I.W r1⟩
  rw [r1.length, evs_len e2, sizeLine_eq]; lia
theorem lst_okE {es : List Expr} {ps : PEs} {pos : Pos} (hs : SS prog w mg mb hB n sc es ps) (hn : NoStars es = true) (hl : ps.len ≤ 64) : ES prog w mg mb hB n sc (.List es pos) (.lst ps) := by
  intro F C G O env A s pv K hv
  obtain ⟨xs, e2, rfl⟩ := Option.map_eq_some_iff.mp hv
  refine wpAny_List_spliced ?_
  rw [backTo_of hn]
  refine seqE (hs K e2) fun us s1 ⟨k1, r1⟩ => ⟨?_, ktrans k1 kpush, rep_new (K.keep k1).I.W r1⟩
  rw [r1.length, evs_len e2, sizeLine_eq]; lia

theorem wpAny_letGoP {A : Around} {E : Value → Shared → Prop} {s : Shared} {base : Expr} {o r : Value} {Q : Unit → Shared → Prop} (h : Q () s) : wpAny (model prog w) A (letTemporaryGo base o r) Q E s := by
  unfold letTemporaryGo
  split
  · exact wpAny_pure h
  · refine wpAny_bind (wpAny_holding (wpAny_runValue (codeAny_builtin entry_let_go ?_)))
    exact wpAny_pure (wpAny_pure h)
  · exact wpAny_pure h

theorem itemtail {A : Around} {E : Value → Shared → Prop} {s : Shared} {value slice : Expr} {o i : Value} {T id : String} {Q : Value → Shared → Prop} (hT : s.TypeIs o T)
    (hl : typeLookup (.type T) "__getitem__" = pure (some (.builtin id))) (h : wpAny (model prog w) A (getItem o i) Q E s)
    (hs : ∃ ops, subscripted slice false o i = operate ops (getItem o i)) :
    wpAny (model prog w) A (subscriptTail value slice o i) Q E s := by
  obtain ⟨ops, hs⟩ := hs
  unfold subscriptTail
  refine wpAny_bind ?_
  rw [getitemInPython_of_ne hT.not_modules]
  refine wpAny_bind (wpAny_specialOf hT hl ?_)
  have fin : wpAny (model prog w) A (subscripted slice false o i) (fun r s₃ => wpAny (model prog w) A (letTemporaryGo value o r >>= fun _ => pure r) Q E s₃) E s := by
    rw [hs]
    exact wpAny_operating (wpAny_mono h (fun r s₃ h₃ => wpAny_bind (wpAny_letGoP (wpAny_pure h₃))) fun _ _ x => x)
  first
    | exact wpAny_pure (wpAny_bind fin)
    | exact wpAny_bind (wpAny_pure (wpAny_bind fin))
    | exact wpAny_bind fin

theorem sub_ops (slice : Expr) (o i : Value) : ∃ ops, subscripted slice false o i = operate ops (getItem o i) := by
  cases slice <;> first | exact ⟨_, rfl⟩ | (rename_i st _; cases st <;> exact ⟨_, rfl⟩)

/-- what a value that has items is -/
theorem item_type {C : RC} {O : Owns} {s : Shared} {x y r : PV} {u : Value} (W : Owned C O s.heap) (hx : Rep C s.heap x u)
    (hr : (∃ l, x = .str l) ∨ (∃ l, x = .tup l) ∨ ∃ l, asL O x = some l) : ∃ T id, s.TypeIs u T ∧ typeLookup (.type T) "__getitem__" = pure (some (.builtin id)) := by
  rcases hr with ⟨l, rfl⟩ | ⟨l, rfl⟩ | ⟨l, e⟩
  · simp only [Rep] at hx; obtain ⟨t, k, rfl, _⟩ := hx
    exact ⟨"str", _, typeIs_str _ _ _, F.slot_str_getitem.lookup⟩
  · simp only [Rep] at hx; obtain ⟨a, xs, rfl, _, ht, _⟩ := hx
    exact ⟨"tuple", _, ht.typeIs, slot_tuple_getitem.lookup⟩
  · obtain ⟨a, xs, rfl, hp, _⟩ := asL_rep W e hx
    exact ⟨"list", _, hp.isList.typeIs, list_getitem_lookup⟩

theorem pitem_kind {O : Owns} {x y r : PV} (h : pitem O x y = some r) : (∃ l, x = .str l) ∨ (∃ l, x = .tup l) ∨ ∃ l, asL O x = some l := by
  obtain ⟨i, _, h⟩ := Option.bind_eq_some_iff.mp h
  obtain ⟨_, h⟩ := ite_some h
  cases h1 : asS x with
  | some l => exact .inl ⟨l, asS_eq h1⟩
  | none =>
    cases h2 : asT x with
    | some l => exact .inr (.inl ⟨l, asT_eq h2⟩)
    | none =>
      rw [h1, h2] at h
      obtain ⟨l, e, _⟩ := Option.bind_eq_some_iff.mp h
      exact .inr (.inr ⟨l, e⟩)
theorem pslc_kind {O : Owns} {x y z r : PV} (h : pslc O x y z = some r) : (∃ l, x = .str l) ∨ (∃ l, x = .tup l) ∨ ∃ l, asL O x = some l := by
  obtain ⟨_, _, h⟩ := Option.bind_eq_some_iff.mp h
  obtain ⟨_, _, h⟩ := Option.bind_eq_some_iff.mp h
  cases h1 : asS x with
  | some l => exact .inl ⟨l, asS_eq h1⟩
  | none =>
    cases h2 : asT x with
    | some l => exact .inr (.inl ⟨l, asT_eq h2⟩)
    | none =>
      rw [h1, h2] at h
      obtain ⟨l, e, _⟩ := Option.bind_eq_some_iff.mp h
      exact .inr (.inr ⟨l, e⟩)

theorem idx_okE {v i : Expr} {a b : PE} {pos : Pos} (hv : ES prog w mg mb hB n sc v a) (hi : ES prog w mg mb hB n sc i b) : ES prog w mg mb hB n sc (.Subscript v i pos) (.idx a b) := by
  intro F C G O env A s pv K h
  obtain ⟨x, e1, h⟩ := Option.bind_eq_some_iff.mp h
  obtain ⟨y, e2, h⟩ := Option.bind_eq_some_iff.mp h
  refine Subscript_ (seqE (hv K e1) fun u s1 ⟨k1, r1⟩ => seqE (hi (K.keep k1) e2) fun u2 s2 ⟨k2, r2⟩ => ?_)
  have K2 := (K.keep k1).keep k2
  obtain ⟨T, id, hT, hl⟩ := item_type (y := y) (r := pv) K2.I.W (r1.keep (kheap k2)) (pitem_kind h)
  exact itemtail hT hl (seqE (item_ok h (r1.keep (kheap k2)) r2 K2.I.W) fun z s3 ⟨k3, r3⟩ => ⟨ktrans k1 (ktrans k2 k3), r3⟩) (sub_ops _ _ _)

theorem os_none : OS prog w mg mb hB n sc none .cn := by
  intro F C G O env A s pv K hv
  cases hv
  exact wpAny_pure ⟨krefl s, rep_none⟩
theorem os_some {e : Expr} {pe : PE} (h : ES prog w mg mb hB n sc e pe) : OS prog w mg mb hB n sc (some e) pe := fun K hv => h K hv

theorem sl_okE {v : Expr} {lo hi : Option Expr} {a b c : PE} {p pos : Pos} (hv : ES prog w mg mb hB n sc v a) (hlo : OS prog w mg mb hB n sc lo b) (hhi : OS prog w mg mb hB n sc hi c) :
    ES prog w mg mb hB n sc (.Subscript v (.Slice lo hi none p) pos) (.sl a b c) := by
  intro F C G O env A s pv K h
  obtain ⟨x, e1, h⟩ := Option.bind_eq_some_iff.mp h
  obtain ⟨y, e2, h⟩ := Option.bind_eq_some_iff.mp h
  obtain ⟨z, e3, h⟩ := Option.bind_eq_some_iff.mp h
  refine Subscript_ (seqE (hv K e1) fun u s1 ⟨k1, r1⟩ => ?_)
  have K1 := K.keep k1
  refine wpAny_Slice (seqE (hlo K1 e2) fun u2 s2 ⟨k2, r2⟩ => ?_)
  have K2 := K1.keep k2
  refine seqE (hhi K2 e3) fun u3 s3 ⟨k3, r3⟩ => ?_
  have K3 := K2.keep k3
  rw [evalPart_none]
  refine wpAny_pure ?_
  have k4 : Keeps s3 { s3 with heap := s3.heap.push { cls := .type "slice", data := .fields #[u2, u3, .none] } } := kpush
  have K4 := K3.keep k4
  have q1 := ((r1.keep (kheap k2)).keep (kheap k3)).keep (kheap k4)
  have q2 := (r2.keep (kheap k3)).keep (kheap k4)
  have q3 := r3.keep (kheap k4)
  obtain ⟨T, id, hT, hl⟩ := item_type (y := y) (r := pv) K4.I.W q1 (pslc_kind h)
  exact itemtail hT hl (seqE (slc_ok h q1 q2 q3 K4.I.W (Heap.IsSliceOf.new ..)) fun z s5 ⟨k5, r5⟩ => ⟨ktrans k1 (ktrans k2 (ktrans k3 (ktrans k4 k5))), r5⟩) (sub_ops _ _ _)

theorem cBi_mem {f : Str} {m : Nat} {b : PBi} (h : cBi f m = some b) : (f, biVal b) ∈ biTab := by
  unfold cBi at h
  by_cases h0 : (m == 1) = true
  · rw [if_pos h0] at h
    by_cases h1 : (f == "len") = true
    · rw [if_pos h1] at h; cases h; rw [beq_iff_eq.mp h1]; exact .head _
    · rw [if_neg h1] at h
      obtain ⟨h2, h⟩ := ite_some h
      cases h; rw [beq_iff_eq.mp h2]; exact .tail _ (.head _)
  · rw [if_neg h0] at h
    obtain ⟨h2, h⟩ := ite_some h
    cases h; rw [beq_iff_eq.mp (and_t h2).2]; exact .tail _ (.tail _ (.head _))

theorem glob_load {x : Str} {pos : Pos} {v : Value} {F : PF1} {C : RC} {G : Slots} {O : Owns} {env : Env} {A : Around} {s : Shared} {Q : Value → Shared → Prop} {E : Value → Shared → Prop} (K : Cx prog w mg mb hB n sc F C G O env A s.heap)
    (hg : isGl sc x = true) (hd : dbg x = false) (hv : mg x = some v ∨ (mg x = none ∧ mb x = some v)) (h : Q v s) : wpAny (model prog w) A (eval (.Name x pos) env) Q E s := by
  have hd1 : (x == ("__debug__" : Str)) = false := by unfold dbg at hd; simp only [Bool.or_eq_false_iff] at hd; exact hd.1
  have hk := K.I.gls x (by unfold isGl at hg; simpa using hg)
  refine Calls.Name_function_global K.I.kind hk ?_ hd1
  have n1 : s.heap.Ns env.globals mg := by rw [K.I.glb]; exact K.I.top.ns K.I.base.nsg
  have n2 : s.heap.Ns env.builtins mb := by rw [K.I.blt]; exact K.I.top.ns K.I.base.nsb
  rcases hv with hv | ⟨h1, h2⟩
  · exact Calls.loadGlobal_global n1 hv h
  · exact Calls.loadGlobal_builtin n1 h1 n2 h2 h

theorem bi_okE {f : Str} {fp pos : Pos} {args : List Expr} {m : Nat} {b : PBi} {ps : PEs} (hs : SS prog w mg mb hB n sc args ps) (hn : NoStars args = true) (hg : isGl sc f = true) (hd : dbg f = false) (hb : cBi f m = some b) :
    ES prog w mg mb hB n sc (.Call (.Name f fp) args [] pos) (.bi b ps) := by
  intro F C G O env A s pv K h
  obtain ⟨vs, e1, h⟩ := Option.bind_eq_some_iff.mp h
  have hm := cBi_mem hb
  have hbi := K.I.base.bis (f, biVal b) hm
  refine Call_Name (backTo_of hn) (glob_load (v := biVal b) K hg hd (.inr hbi) ?_)
  have go : wpAny (model prog w) A (evalArgs (biVal b) true (args.map fun e => (false, eval e env)) []) (fun a s₁ => wpAny (model prog w) A (call (biVal b) ([] ++ a.pos) a.kw) (Post C s pv) noE s₁) noE s :=
    evalArgs_of (seqE (hs K e1) fun us s1 ⟨k1, r1⟩ => seqE (bi_ok K.R h r1 (K.keep k1).I.W) fun z s2 ⟨k2, r2⟩ => ⟨ktrans k1 k2, r2⟩)
  cases b with
  | len => exact Calls.callWith_builtin (id := "len") any_of go
  | sum => exact Calls.callWith_builtin (id := "sum") any_of go
  | max2 => exact Calls.callWith_builtin (id := "max") any_of go

theorem call_okE {x : Str} {f : String} {fp pos : Pos} {args : List Expr} {ps : PEs} (hs : SS prog w mg mb hB n sc args ps) (hn : NoStars args = true) (hg : isGl sc x = true) (hd : dbg x = false) (hf : (x, f) ∈ fnTab) :
    ES prog w mg mb hB n sc (.Call (.Name x fp) args [] pos) (.call f ps) := by
  intro F C G O env A s pv K h
  obtain ⟨vs, e1, h⟩ := Option.bind_eq_some_iff.mp h
  obtain ⟨hno, h⟩ := ite_some h
  obtain ⟨a, fd, o, h1, h2, h3, h4, h5⟩ := K.FS.fn x f vs pv hf h
  refine Call_Name (backTo_of hn) (glob_load (v := .ref a) K hg hd (.inl h1) ?_)
  refine Calls.callWith_function (o := o) (fd := fd) (evalArgs_of (seqE (hs K e1) fun us s1 ⟨k1, r1⟩ => ⟨⟨(K.keep k1).I.top.func h2 h3, h3⟩, ?_⟩))
  exact seqE (h5 C us A s1 (K.keep k1).I.top (K.keep k1).I.W.lt r1 hno K.R) fun z s2 ⟨k2, r2⟩ => ⟨ktrans k1 k2, r2⟩

theorem call_okT {x : Str} {f : String} {fp pos : Pos} {args : List Expr} {ps : PEs} (he : ES prog w mg mb hB n sc (.Call (.Name x fp) args [] pos) (.call f ps)) : TS prog w mg mb hB n sc (.Call (.Name x fp) args [] pos) (.call f ps) := by
  intro F C G O env A s b K h
  refine plain_okT he (fun _ _ => rfl) K ?_
  obtain ⟨vs, e1, h⟩ := Option.bind_eq_some_iff.mp h
  obtain ⟨hno, h⟩ := ite_some h
  obtain ⟨r, e2, h⟩ := Option.bind_eq_some_iff.mp h
  exact Option.bind_eq_some_iff.mpr ⟨r, Option.bind_eq_some_iff.mpr ⟨vs, e1, (if_pos hno).trans e2⟩, h⟩
theorem var_okT {x : Str} {i : Nat} {pos : Pos} (he : ES prog w mg mb hB n sc (.Name x pos) (.var i)) : TS prog w mg mb hB n sc (.Name x pos) (.var i) :=
  fun K h => plain_okT he (fun _ _ => rfl) K h
theorem true_okT {b : Bool} {k : Nat} {pos : Pos} : TS prog w mg mb hB n sc (.Constant (.bool b) k pos) (.cb b) := by
  intro F C G O env A s b' K h
  exact plain_okT (pe := .cb b) (const_ok rfl) (fun _ _ => rfl) K h

theorem base_plain {o : Expr} {name : Str} {env : Env} (h : noSuper o = true) : attributeBase o name env (eval o env) = eval o env := by
  cases o with
  | Call g as ks p =>
    cases g with
    | Name y q =>
      cases as with
      | nil =>
        cases ks with
        | nil => cases h
        | cons => rfl
      | cons => rfl
    | _ => rfl
  | _ => rfl

theorem cMe_slot {x : Str} {m : Nat} {me : PMe} (h : cMe x m = some me) : m ≤ 4 ∧ ((Slot "str" x (meId me) ∧ typeOf (.builtin (meId me)) = pure (.type "method_descriptor") ∧ ∀ (O : Owns) o vs r, pme O me o vs = some r → ∃ l, asS o = some l) ∨
    (Slot "list" x (meId me) ∧ typeOf (.builtin (meId me)) = pure (.type "method_descriptor") ∧ ∀ (O : Owns) o vs r, pme O me o vs = some r → ∃ l, asL O o = some l)) := by
  unfold cMe at h
  have fst : ∀ {α β : Type} {o : Option α} {f : α → Option β} {r : β}, o.bind f = some r → ∃ l, o = some l := fun h => let ⟨l, e, _⟩ := Option.bind_eq_some_iff.mp h; ⟨l, e⟩
  by_cases h1 : (x == "join" && m == 1) = true
  · rw [if_pos h1] at h; cases h; have h1 := and_t h1; rw [beq_iff_eq.mp h1.1, beq_iff_eq.mp h1.2]; exact ⟨by decide, .inl ⟨PySem.F.slot_str_join, PySem.F.type_str_join, fun _ _ _ _ q => fst q⟩⟩
  · rw [if_neg h1] at h
    by_cases h1 : (x == "split" && m == 1) = true
    · rw [if_pos h1] at h; cases h; have h1 := and_t h1; rw [beq_iff_eq.mp h1.1, beq_iff_eq.mp h1.2]; exact ⟨by decide, .inl ⟨PySem.F.slot_str_split, PySem.F.type_str_split, fun _ _ _ _ q => fst q⟩⟩
    · rw [if_neg h1] at h
      by_cases h1 : (x == "replace" && m == 2) = true
      · rw [if_pos h1] at h; cases h; have h1 := and_t h1; rw [beq_iff_eq.mp h1.1, beq_iff_eq.mp h1.2]; exact ⟨by decide, .inl ⟨PySem.F.slot_str_replace, PySem.F.type_str_replace, fun _ _ _ _ q => fst q⟩⟩
      · rw [if_neg h1] at h
        obtain ⟨h1, h⟩ := ite_some h
        cases h; have h1 := and_t h1; rw [beq_iff_eq.mp h1.1, beq_iff_eq.mp h1.2]
        exact ⟨by decide, .inr ⟨PySem.F.slot_list_index, PySem.F.type_list_index, fun _ _ _ _ q => let ⟨x, _, q⟩ := Option.bind_eq_some_iff.mp q; fst q⟩⟩

theorem me_okE {o : Expr} {x : Str} {ap pos : Pos} {args : List Expr} {m : Nat} {me : PMe} {a : PE} {ps : PEs} (ho : ES prog w mg mb hB n sc o a) (hs : SS prog w mg mb hB n sc args ps) (hn : NoStars args = true)
    (hm : cMe x args.length = some me) (hb : noSuper o = true) (hl : (ap.endLine == pos.line) = true) : ES prog w mg mb hB n sc (.Call (.Attribute o x ap) args [] pos) (.me me a ps) := by
  intro F C G O env A s pv K h
  obtain ⟨ov, e1, h⟩ := Option.bind_eq_some_iff.mp h
  obtain ⟨vs, e2, h⟩ := Option.bind_eq_some_iff.mp h
  refine wpAny_Call_method_lateS (base_plain hb) ?_ hl (seqE (ho K e1) fun u s1 ⟨k1, r1⟩ => ?_)
  · rw [backTo_of hn]
    simp only [Bool.and_eq_true, List.all_eq_true, decide_eq_true_eq]
    refine ⟨⟨?_, ?_⟩, ?_⟩
    · intro x hx; obtain ⟨e, _, rfl⟩ := List.mem_map.mp hx; rfl
    · intro x hx; cases hx
    · have := (cMe_slot hm).1; simp only [List.length_nil]; simp; lia
  · have K1 := K.keep k1
    have fin : wpAny (model prog w) A (callWith pos (.builtin (meId me)) [u] (backTo pos (starEach args env)) (backToKw pos (keywordEach [] env))) (Post C s pv) noE s1 := by
      rw [backTo_of hn]
      refine Calls.callWith_builtin any_of (evalArgs_of (seqE (hs K1 e2) fun us s2 ⟨k2, r2⟩ => ?_))
      exact seqE (me_ok K.R h (r1.keep (kheap k2)) r2 (K1.keep k2).I.W) fun z s3 ⟨k3, r3⟩ => ⟨ktrans k1 (ktrans k2 k3), r3⟩
    rcases (cMe_slot hm).2 with ⟨slot, ty, hk⟩ | ⟨slot, ty, hk⟩
    · obtain ⟨l, el⟩ := hk _ _ _ _ h
      obtain ⟨t, k, rfl, _⟩ := rep_asS el r1
      exact ⟨"str", _, PySem.F.plainAttrs_str, slot, ty, typeIs_str _ _ _, nofun, fin⟩
    · obtain ⟨l, el⟩ := hk _ _ _ _ h
      obtain ⟨a, xs, rfl, ⟨k, hp⟩, _⟩ := asL_rep K1.I.W el r1
      exact ⟨"list", _, PySem.F.plainAttrs_list, slot, ty, ⟨_, hp, rfl⟩, fun b e => by cases e; exact ⟨_, hp, rfl⟩, fin⟩
end
end Mine

namespace Mine
open StrLaws
section
variable {prog : Program} {w : World} {mg mb : Str → Option Value} {hB : Heap} {n : Nat} {sc : Scope}

/-! formatted texts -/
noncomputable def JS (prog : Program) (w : World) (mg mb : Str → Option Value) (hB : Heap) (n : Nat) (sc : Scope) (es : List Expr) (pes : PEs) : Prop :=
  ∀ {F : PF1} {C : RC} {G : Slots} {O : Owns} {env : Env} {A : Around} {s : Shared} {vs : List PV} {ls : List (List Nat)} (out : Str), Cx prog w mg mb hB n sc F C G O env A s.heap → evs F O G pes = some vs → pstrs vs = some ls →
    out.cps.toList.length + (ls.map List.length).sum ≤ LIM →
    wpAny (model prog w) A (joinParts out (evalEach es env)) (fun v s' => Keeps s s' ∧ Rep C s'.heap (.str (out.cps.toList ++ ls.flatten)) v) noE s

theorem js_nil : JS prog w mg mb hB n sc [] .nil := by
  intro F C G O env A s vs ls out K e1 e2 hl
  cases e1
  cases e2
  refine joinParts_nil ⟨kp, rep_str' (by simp)⟩ ?_
  rw [str_len]; exact Nat.le_trans (by simpa using hl) lim_size

theorem js_tail {es : List Expr} {pes : PEs} (ht : JS prog w mg mb hB n sc es pes) {F : PF1} {C : RC} {G : Slots} {O : Owns} {env : Env} {A : Around} {s s1 : Shared} {y : Str} {vs : List PV} {ls : List (List Nat)} (out : Str)
    (K : Cx prog w mg mb hB n sc F C G O env A s.heap) (k1 : Keeps s s1) (e1 : evs F O G pes = some vs) (e2 : pstrs vs = some ls) (hl : out.cps.toList.length + ((y.cps.toList :: ls).map List.length).sum ≤ LIM) :
    (out ++ y).length ≤ sizeLine ∧ wpAny (model prog w) A (joinParts (out ++ y) (evalEach es env)) (fun v s' => Keeps s s' ∧ Rep C s'.heap (.str (out.cps.toList ++ (y.cps.toList :: ls).flatten)) v) noE s1 := by
  have ec : (out ++ y).cps.toList = out.cps.toList ++ y.cps.toList := by
    show (Str.append out y).cps.toList = _
    simp [Str.append]
  simp only [List.map_cons, List.sum_cons] at hl
  refine ⟨?_, ?_⟩
  · rw [str_len, ec, List.length_append]; exact Nat.le_trans (by lia) lim_size
  · refine seqE (ht (out ++ y) (K.keep k1) e1 e2 (by rw [ec, List.length_append]; lia)) fun z s2 ⟨k2, r2⟩ => ⟨ktrans k1 k2, ?_⟩
    rw [ec] at r2
    simpa using r2

theorem js_const {c : Str} {k : Nat} {pos : Pos} {es : List Expr} {pes : PEs} (ht : JS prog w mg mb hB n sc es pes) : JS prog w mg mb hB n sc (.Constant (.str c) k pos :: es) (.cons (.cs c.cps.toList) pes) := by
  intro F C G O env A s vs ls out K e1 e2 hl
  obtain ⟨v, e0, e1⟩ := Option.bind_eq_some_iff.mp e1
  cases e0
  obtain ⟨vs', e5, rfl⟩ := Option.map_eq_some_iff.mp e1
  obtain ⟨l, e0, e2⟩ := Option.bind_eq_some_iff.mp e2
  cases e0
  obtain ⟨ls', e6, rfl⟩ := Option.map_eq_some_iff.mp e2
  refine joinParts_cons (seqE (const_ok (c := .str c) (pe := .cs c.cps.toList) rfl K (pv := .str c.cps.toList) rfl) fun v s1 q => ?_)
  obtain ⟨k1, y, t, rfl, ey⟩ := q
  rw [← ey] at hl ⊢
  exact js_tail ht out K k1 e5 e6 hl

theorem js_field {e : Expr} {pe : PE} {pos : Pos} {es : List Expr} {pes : PEs} (he : ES prog w mg mb hB n sc e pe) (ht : JS prog w mg mb hB n sc es pes) : JS prog w mg mb hB n sc (.FormattedValue e (-1) none pos :: es) (.cons pe pes) := by
  intro F C G O env A s vs ls out K e1 e2 hl
  obtain ⟨v, e0, e1⟩ := Option.bind_eq_some_iff.mp e1
  obtain ⟨vs', e5, rfl⟩ := Option.map_eq_some_iff.mp e1
  obtain ⟨l, es, e2⟩ := Option.bind_eq_some_iff.mp e2
  obtain ⟨ls', e6, rfl⟩ := Option.map_eq_some_iff.mp e2
  have hl' : l.length ≤ LIM := by simp only [List.map_cons, List.sum_cons] at hl; lia
  refine joinParts_cons (FormattedValue_plain (seqE (he K e0) fun v s1 q => ?_))
  obtain ⟨y, t, rfl, rfl⟩ := rep_asS es q.2
  refine formatField_str (fun t' tk => ?_) (by rw [str_len]; exact Nat.le_trans hl' lim_size)
  exact js_tail ht out K (s1 := { s1 with toks := tk }) (ktrans q.1 kp) e5 e6 hl

theorem fstr_okE {v₁ v₂ : Expr} {rest : List Expr} {pos : Pos} {pes : PEs} (h : JS prog w mg mb hB n sc (v₁ :: v₂ :: rest) pes) : ES prog w mg mb hB n sc (.JoinedStr (v₁ :: v₂ :: rest) pos) (.fstr pes) := by
  intro F C G O env A s pv K hv
  obtain ⟨vs, e1, hv⟩ := Option.bind_eq_some_iff.mp hv
  obtain ⟨ls, e2, hv⟩ := Option.bind_eq_some_iff.mp hv
  obtain ⟨hl, hv⟩ := ite_some hv
  cases hv
  exact JoinedStr_many (seqE (h (s := s) Str.empty K e1 e2 (by simpa [Str.empty] using hl)) fun v s1 q => ⟨q.1, by simpa [Str.empty] using q.2⟩)

end
end Mine

namespace Mine
open StrLaws

theorem KN.tabLive {h h' : Heap} (k : KN h h') {ps : Array Value} (e : h.get? PT = some { cls := .none, data := .fields ps }) : ∃ ps', h'.get? PT = some { cls := .none, data := .fields ps' } :=
  let ⟨_, e', _⟩ := k.tab ps e; ⟨_, e'⟩

noncomputable def ItObj (o : Obj) : Prop := (∃ fs, o.data = .fields fs) ∧ o.cls ≠ .none ∧ o.cls ≠ .type "builtin_function_or_method"
theorem ItObj.noTab {o : Obj} (h : ItObj o) : NoTab o := noTab_cls h.2.1
theorem ItObj.noVal {o : Obj} (h : ItObj o) : ¬ IsVal o := by
  obtain ⟨⟨fs, hf⟩, _, hc⟩ := h
  rintro (⟨_, _, q⟩ | ⟨a, q⟩)
  · rw [hf] at q; cases q
  · exact hc (by rw [q]; rfl)
/-- an iterator over its -/
inductive ItPost (prog : Program) (w : World) (C : RC) (O2 : Owns) (its : List PV) (s : Shared) (it : Value) (s' : Shared) : Prop
  | mk (k : _) (hs : s' = { s with heap := s'.heap, toks := k }) (o : Obj) (fp : List Addr) (P : Nat → Value → Prop) (St : Nat → Heap → Prop)
   (e : it = .ref s.heap.objs.size) (hh : s'.heap = s.heap.push o) (nt : NoTab o) (hW : ∀ A' : Around, A'.handled = none → Walks prog w A' s.heap.objs.size fp [s.heap.objs.size] its.length P St) (st : St 0 s'.heap)
   (live : ∀ i g, St i g → ∃ o, ItObj o ∧ g.get? s.heap.objs.size = some o)
   (hfp : ∀ b ∈ fp, b = s.heap.objs.size ∨ (∃ o, NoTab o ∧ s.heap.get? b = some o) ∧ (O2 = [] → ¬ C.X b)) (hP : ∀ i v, P i v → ∃ pv, its[i]? = some pv ∧ Rep C s.heap pv v) : ItPost prog w C O2 its s it s'

section
variable {prog : Program} {w : World} {A : Around} {s : Shared} {C : RC} {O O2 : Owns}

theorem sign_at {x : Str} {i : Nat} {v : Value} {h2 : Heap} : SignAt x i v → ∃ pv, (x.cps.toList.map fun c => PV.str [c])[i]? = some pv ∧ Rep C h2 pv v := by
  rintro ⟨c, u, hc, rfl⟩
  refine ⟨.str [c], ?_, rep_str' rfl⟩
  rw [List.getElem?_map, Array.getElem?_toList, hc]
  rfl
theorem itObj {o : Obj} {fs : Array Value} {T : String} (hc : o.cls = .type T) (hd : o.data = .fields fs) (hT : (T == "builtin_function_or_method") = false) : ItObj o :=
  ⟨⟨_, hd⟩, by rw [hc]; nofun, fun q => by rw [hc] at q; cases q; cases hT⟩
theorem seq_at {its : List PV} {xs : Array Value} {h : Heap} (hl : RepL C h its xs.toList) (hsz : xs.size = its.length) {i : Nat} {v : Value} (hP : xs[i]? = some v) : ∃ pv, its[i]? = some pv ∧ Rep C h pv v := by
  have hlt : i < its.length := by rw [← hsz]; exact (Array.getElem?_eq_some_iff.mp hP).1
  obtain ⟨y, e, hr⟩ := hl.at i its[i] (List.getElem?_eq_getElem hlt)
  rw [Array.getElem?_toList, hP] at e
  cases e
  exact ⟨_, List.getElem?_eq_getElem hlt, hr⟩
theorem fp_at {h : Heap} {a b : Addr} {o : Obj} (ho : h.get? a = some o) (nt : NoTab o) (hX : O2 = [] → ¬ C.X a) (hb : b ∈ [h.objs.size, a]) : b = h.objs.size ∨ (∃ o, NoTab o ∧ h.get? b = some o) ∧ (O2 = [] → ¬ C.X b) := by
  rcases List.mem_cons.mp hb with rfl | hb
  · exact .inl rfl
  · rw [List.mem_singleton.mp hb]
    exact .inr ⟨⟨o, nt, ho⟩, hX⟩
theorem iter_str {x : Str} {t : Tok} : wpAny (model prog w) A (pyIter (.str x t)) (ItPost prog w C O2 (x.cps.toList.map fun c => .str [c]) s) noE s := by
  cases ha : x.cps.all (· < 128)
  · refine wpAny_pyIter_wide ha ⟨s.toks, rfl, _, [s.heap.objs.size], SignAt x, (fun i h => h.IsStrIter s.heap.objs.size "str_iterator" x t i), rfl, rfl, noTab_cls nofun, fun A' hA => ?_, ⟨_, Heap.get?_push_size _ rfl, rfl, rfl⟩, fun i g q => ?_, fun b hb => .inl (List.mem_singleton.mp hb), fun i v hP => sign_at hP⟩
    · rw [List.length_map]; exact Walks.strWide (prog := prog) (w := w) hA s.heap.objs.size x t
    · obtain ⟨o, ho, hc, hd⟩ := q; exact ⟨o, itObj hc hd (by decide), ho⟩
  · refine wpAny_pyIter_ascii ha ⟨s.toks, rfl, _, [s.heap.objs.size], SignAt x, (fun i h => h.IsStrIter s.heap.objs.size "str_ascii_iterator" x t i), rfl, rfl, noTab_cls nofun, fun A' hA => ?_, ⟨_, Heap.get?_push_size _ rfl, rfl, rfl⟩, fun i g q => ?_, fun b hb => .inl (List.mem_singleton.mp hb), fun i v hP => sign_at hP⟩
    · rw [List.length_map]; exact Walks.strAscii (prog := prog) (w := w) hA s.heap.objs.size x t
    · obtain ⟨o, ho, hc, hd⟩ := q; exact ⟨o, itObj hc hd (by decide), ho⟩
theorem iter_val {v : PV} {u : Value} {its : List PV} (hO : O2 = O ∨ O2 = []) (W : Owned C O s.heap) (hv : piter O2 v = some its) (r : Rep C s.heap v u) :
    wpAny (model prog w) A (pyIter u) (ItPost prog w C O2 its s) noE s := by
  unfold piter at hv
  cases h1 : asS v with
  | some l =>
    rw [h1] at hv
    cases hv
    obtain ⟨x, t, rfl, rfl⟩ := rep_asS h1 r
    exact iter_str
  | none =>
    rw [h1] at hv
    cases h2 : asT v with
    | some l =>
      rw [h2] at hv
      cases hv
      obtain ⟨a, xs, rfl, hX, ht, hl, hsz⟩ := rep_asT h2 r
      obtain ⟨o, ho, hc, _⟩ := id ht
      refine wpAny_pyIter_tuple ht ⟨s.toks, rfl, _, [s.heap.objs.size, a], (fun i v => xs[i]? = some v), (fun i h => h.IsTupleIter s.heap.objs.size a i ∧ h.IsTuple a xs), rfl, rfl, noTab_cls nofun, fun A' hA => ?_, ⟨⟨_, Heap.get?_push_size _ rfl, rfl, rfl⟩, ht.push _⟩, fun i g q => ?_, fun b hb => fp_at ho (noTab_cls (by rw [hc]; nofun)) (fun _ => hX) hb, fun i v hP => seq_at hl hsz hP⟩
      · rw [← hsz]; exact Walks.tuple hA _ _ (Nat.ne_of_lt (Heap.lt_size ho)) xs
      · obtain ⟨⟨o, ho, hc, hd⟩, _⟩ := q; exact ⟨o, itObj hc hd (by decide), ho⟩
    | none =>
      rw [h2] at hv
      have hv : asL O2 v = some its := hv
      have hv' : asL O v = some its ∧ (O2 = [] → ∀ a, u = .ref a → ¬ C.X a) := by
        rcases hO with rfl | rfl
        · refine ⟨hv, fun e a q => ?_⟩
          subst e
          cases v with
          | list => subst q; obtain ⟨a', xs, e, hx, _⟩ := r; cases e; exact hx
          | _ => exact nn hv
        · cases v with
          | list => exact ⟨hv, fun _ a q => by subst q; obtain ⟨a', xs, e, hx, _⟩ := r; cases e; exact hx⟩
          | _ => exact nn hv
      obtain ⟨a, xs, rfl, hp, hl, hsz⟩ := asL_rep' W hv'.1 r
      have ht := hp.isList
      obtain ⟨o, ho, hc, _⟩ := id ht
      refine wpAny_pyIter_list ht ⟨s.toks, rfl, _, [s.heap.objs.size, a], (fun i v => xs[i]? = some v), (fun i h => h.IsListIter s.heap.objs.size a i ∧ h.IsList a xs), rfl, rfl, noTab_cls nofun, fun A' hA => ?_, ⟨⟨_, Heap.get?_push_size _ rfl, rfl, rfl⟩, ht.push _⟩, fun i g q => ?_, fun b hb => fp_at ho (noTab_cls (by rw [hc]; nofun)) (fun e => hv'.2 e a rfl) hb, fun i v hP => seq_at hl hsz hP⟩
      · rw [← hsz]; exact Walks.list hA _ _ (Nat.ne_of_lt (Heap.lt_size ho)) xs
      · obtain ⟨⟨o, ho, hc, hd⟩, _⟩ := q; exact ⟨o, itObj hc hd (by decide), ho⟩
theorem prange_len (a b : Int) : (prange a b).length = (Builtin.Range.rangeSize a b 1).toNat := by
  unfold prange Builtin.Range.rangeSize
  rw [if_pos (by decide), List.length_map, List.length_range]
  split
  · rw [Int.ediv_one]; congr 1; lia
  · show (b - a).toNat = 0; lia
theorem prange_at {a b : Int} {i : Nat} (h : i < (prange a b).length) : (prange a b)[i]? = some (.int (a + i * 1)) := by
  have h' : i < (b - a).toNat := by unfold prange at h; rw [List.length_map, List.length_range] at h; exact h
  unfold prange
  rw [List.getElem?_map, List.getElem?_range h', Int.mul_one]; rfl
theorem range_small {a b : Int} (ha : a.natAbs ≤ LIM) (hb : b.natAbs ≤ LIM) : Builtin.Range.small a b 1 = true ∧ 0 ≤ Builtin.Range.rangeSize a b 1 ∧ Builtin.Range.rangeSize a b 1 ≤ 2 * LIM + 1 := by
  unfold LIM at *
  have hs : 0 ≤ Builtin.Range.rangeSize a b 1 ∧ Builtin.Range.rangeSize a b 1 ≤ 2 * 1048576 + 1 := by
    unfold Builtin.Range.rangeSize
    rw [if_pos (by decide)]
    split
    · rw [Int.ediv_one]; lia
    · lia
  refine ⟨?_, hs.1, hs.2⟩
  unfold Builtin.Range.small
  simp only [Builtin.Range.rangeFitsLong, Bool.and_eq_true, Bool.or_eq_true, decide_eq_true_eq, beq_iff_eq]
  refine ⟨⟨⟨⟨?_, ?_⟩, ?_⟩, ?_⟩, ?_⟩
  · lia
  · lia
  · decide
  · lia
  · right
    rw [if_pos (by decide)]
    simp only [decide_eq_true_eq, Bool.and_eq_true]; lia

theorem iter_range {r : Addr} {a b : Int} {t u v : Tok} (hr : IsRange s.heap r a b 1 t u v) (ha : a.natAbs ≤ LIM) (hb : b.natAbs ≤ LIM) :
    wpAny (model prog w) A (pyIter (.ref r)) (ItPost prog w C O2 (prange a b) s) noE s := by
  obtain ⟨h1, h2, h3⟩ := range_small ha hb
  have hl := prange_len a b
  refine wpAny_pyIter_range hr h1 ⟨s.toks, rfl, _, [s.heap.objs.size], (fun i v => (∃ t, v = .int (a + i * 1) t) ∧ i < (prange a b).length),
    (fun i h => IsRangeIter h s.heap.objs.size (a + (i : Nat) * 1) (((prange a b).length : Int) - (i : Nat)) 1), rfl, rfl, noTab_cls nofun, fun A' hA => ?_, ?_, ?_, fun b hb => .inl (List.mem_singleton.mp hb), fun i v hP => ?_⟩
  · have W := Walks.range (prog := prog) (w := w) hA s.heap.objs.size a 1 (prange a b).length
    exact ⟨W.sub, W.frame, fun i s Q E hi st hQ => W.item i s Q E hi st fun v h' tk hP => hQ v h' tk ⟨hP, hi⟩, W.done, W.self⟩
  · have e1 : a + ((0 : Nat) : Int) * 1 = a := by simp
    have e2 : (((prange a b).length : Int) - ((0 : Nat) : Int)) = Builtin.Range.rangeSize a b 1 := by rw [hl]; lia
    show IsRangeIter _ _ _ _ _
    rw [e1, e2]
    exact Heap.get?_push_size _ rfl
  · intro i g hg; refine ⟨_, ?_, hg⟩; exact ⟨⟨_, rfl⟩, by nofun, by intro q; exact absurd q (by decide : (Value.type "range_iterator") ≠ .type "builtin_function_or_method")⟩
  · obtain ⟨⟨t, rfl⟩, hi⟩ := hP
    exact ⟨_, prange_at hi, rep_int⟩
end

section
variable (prog : Program) (w : World) (mg mb : Str → Option Value) (hB : Heap) (n : Nat) (sc : Scope)
/-- an iterable of a comprehension or of a loop -/
noncomputable def IS (e : Expr) (pit : PIt) : Prop :=
  ∀ ⦃F : PF1⦄ ⦃C : RC⦄ ⦃G : Slots⦄ ⦃O : Owns⦄ ⦃env : Env⦄ ⦃A : Around⦄ ⦃s : Shared⦄ ⦃its : List PV⦄ (O2 : Owns), Cx prog w mg mb hB n sc F C G O env A s.heap → (O2 = O ∧ evI F O G pit = some its ∨ O2 = [] ∧ evIF F O G pit = some its) →
    its.length ≤ 2 * LIM + 1 ∧ wpAny (model prog w) A (eval e env) (fun x s₁ => Keeps s s₁ ∧ ∀ A' : Around, wpAny (model prog w) A' (pyIter x) (ItPost prog w C O2 its s₁) noE s₁) noE s
end
section
variable {prog : Program} {w : World} {mg mb : Str → Option Value} {hB : Heap} {n : Nat} {sc : Scope}

theorem is_val {e : Expr} {pe : PE} (he : ES prog w mg mb hB n sc e pe) : IS prog w mg mb hB n sc e (.val pe) := by
  intro F C G O env A s its O2 K hv
  have : (O2 = O ∨ O2 = []) ∧ ((ev F O G pe).bind fun v => (piter O2 v).bind fun l => if l.length ≤ LIM then some l else none) = some its := by
    rcases hv with ⟨rfl, hv⟩ | ⟨rfl, hv⟩
    · exact ⟨.inl rfl, hv⟩
    · exact ⟨.inr rfl, hv⟩
  obtain ⟨hO, hv⟩ := this
  obtain ⟨v, e1, hv⟩ := Option.bind_eq_some_iff.mp hv
  obtain ⟨l, e2, hv⟩ := Option.bind_eq_some_iff.mp hv
  obtain ⟨e3, hv⟩ := ite_some hv
  cases hv
  exact ⟨by unfold LIM at *; lia, seqE (he K e1) fun u s1 q => ⟨q.1, fun A' => iter_val hO (K.keep q.1).I.W e2 q.2⟩⟩
theorem is_rng {x0 : Str} {args : List Expr} {ps : PEs} {fp pos : Pos} (hs : SS prog w mg mb hB n sc args ps) (hc : (x0 == "range" && (isGl sc "range" && NoStars args)) = true) : IS prog w mg mb hB n sc (.Call (.Name x0 fp) args [] pos) (.rng ps) := by
  obtain ⟨h1, hc⟩ := and_t hc
  obtain ⟨hg, hn⟩ := and_t hc
  cases beq_iff_eq.mp h1
  intro F C G O env A s its O2 K hv
  have hv' : (evs F O G ps).bind prng = some its := by rcases hv with ⟨_, hv⟩ | ⟨_, hv⟩ <;> exact hv
  obtain ⟨vs, e1, hr⟩ := Option.bind_eq_some_iff.mp hv'
  have hbi := K.I.base.bis ("range", .type "range") (by decide)
  have go : ∀ {Q : Value → Shared → Prop}, (∀ us s1, Keeps s s1 → RepL C s1.heap vs us → wpAny (model prog w) A (call (.type "range") us) Q noE s1) → wpAny (model prog w) A (eval (.Call (.Name "range" fp) args [] pos) env) Q noE s := fun h => by
    refine Call_Name (backTo_of hn) (glob_load (v := .type "range") K hg (by decide) (.inr hbi) ?_)
    exact PyProof.Rows.callWith_type (T := "range") any_of (evalArgs_of (seqE (hs K e1) fun us s1 q => h us s1 q.1 q.2))
  cases vs with
  | nil => exact nn hr
  | cons v r =>
    obtain ⟨x, ex, hr⟩ := Option.bind_eq_some_iff.mp hr
    cases r with
    | nil =>
      obtain ⟨hx, hr⟩ := ite_some hr
      cases hr
      have h1 := range_small (a := 0) (b := x) (by decide) hx
      have h2 := prange_len 0 x
      refine ⟨by lia, go fun us s1 k1 r1 => ?_⟩
      obtain ⟨_, _, rfl, r1, rfl⟩ := r1
      obtain ⟨t, rfl⟩ := rep_asI ex r1
      exact call_range_1 ⟨ktrans k1 kpush, fun A' => iter_range (IsRange.new ..) (by decide) hx⟩
    | cons u q =>
      obtain ⟨y, ey, hr⟩ := Option.bind_eq_some_iff.mp hr
      obtain ⟨hx, hr⟩ := ite_some hr
      cases hr
      obtain ⟨hq, hx, hy⟩ := hx
      cases List.isEmpty_iff.mp hq
      have h1 := range_small (a := x) (b := y) hx hy
      have h2 := prange_len x y
      refine ⟨by lia, go fun us s1 k1 r1 => ?_⟩
      obtain ⟨_, _, rfl, r1, _, _, rfl, r2, rfl⟩ := r1
      obtain ⟨t, rfl⟩ := rep_asI ex r1
      obtain ⟨t', rfl⟩ := rep_asI ey r2
      exact call_range_2 ⟨ktrans k1 kpush, fun A' => iter_range (IsRange.new ..) hx hy⟩
end
end Mine

namespace Mine
open StrLaws

/-! closures -/
noncomputable def clOf (env : Env) : List (Str × NameKind) → List (Str × Addr) → List (Str × Addr)
  | [], acc => acc
  | p :: r, acc => clOf env r (if p.2 == .free then (p.1, (env.cells.lookup p.1).getD 0) :: acc else acc)
theorem cellOf_some {env : Env} {x : Str} {c : Addr} (h : env.cells.lookup x = some c) : cellOf env x = pure c := by
  unfold cellOf; rw [h]
theorem closure_go {env : Env} : ∀ (names : List (Str × NameKind)) (acc : List (Str × Addr)), (∀ p ∈ names, p.2 = .free → ∃ c, env.cells.lookup p.1 = some c) →
    (forIn names acc fun (x : Str × NameKind) (cs : List (Str × Addr)) => (match x with | (name, kind) => if (kind == NameKind.free) = true then do let __do_lift ← cellOf env name; pure (ForInStep.yield ((name, __do_lift) :: cs)) else pure (ForInStep.yield cs) : Sem (ForInStep (List (Str × Addr))))) = pure (clOf env names acc)
  | [], acc, _ => rfl
  | p :: r, acc, h => by
    obtain ⟨nm, k⟩ := p
    rw [List.forIn_cons]
    by_cases hk : k = .free
    · subst hk
      obtain ⟨c, hc⟩ := h (nm, .free) List.mem_cons_self rfl
      simp only [beq_self_eq_true, if_true, cellOf_some hc, pure_bind]
      rw [closure_go r _ fun q hq => h q (List.mem_cons_of_mem _ hq)]
      simp [clOf, hc]
    · have hb : (k == NameKind.free) = false := by simpa using hk
      simp only [hb, Bool.false_eq_true, if_false, pure_bind]
      rw [closure_go r _ fun q hq => h q (List.mem_cons_of_mem _ hq)]
      simp [clOf, hb]
theorem closure_ok {scope : Scope} {env : Env} (h : ∀ p ∈ scope.names, p.2 = .free → ∃ c, env.cells.lookup p.1 = some c) : closureFor scope env = pure (clOf env scope.names []) := by
  unfold closureFor
  show (do let cs ← forIn scope.names ([] : List (Str × Addr)) _; pure cs) = _
  rw [closure_go scope.names [] h]
  rfl
theorem clOf_val {env : Env} : ∀ (names : List (Str × NameKind)) (acc : List (Str × Addr)), (∀ q ∈ acc, q.2 = (env.cells.lookup q.1).getD 0) → ∀ q ∈ clOf env names acc, q.2 = (env.cells.lookup q.1).getD 0
  | [], _, h => h
  | p :: r, acc, h => by
    unfold clOf
    refine clOf_val r _ ?_
    split
    · intro q hq
      rcases List.mem_cons.mp hq with rfl | hq
      · rfl
      · exact h q hq
    · exact h
theorem clOf_acc {env : Env} : ∀ (names : List (Str × NameKind)) (acc : List (Str × Addr)), ∀ q ∈ acc, q ∈ clOf env names acc
  | [], _, _, h => h
  | p :: r, acc, q, h => by
    unfold clOf
    refine clOf_acc r _ q ?_
    split
    · exact List.mem_cons_of_mem _ h
    · exact h
theorem clOf_key {env : Env} : ∀ (names : List (Str × NameKind)) (acc : List (Str × Addr)) (x : Str), (x, NameKind.free) ∈ names → ∃ q ∈ clOf env names acc, q.1 = x
  | p :: r, acc, x, h => by
    rcases List.mem_cons.mp h with rfl | h
    · unfold clOf
      exact ⟨_, clOf_acc r _ _ (by rw [if_pos (by rfl)]; exact List.mem_cons_self), rfl⟩
    · unfold clOf; exact clOf_key r _ x h
theorem lookup_of {f : Str → Addr} : ∀ (l : List (Str × Addr)) (x : Str), (∀ q ∈ l, q.2 = f q.1) → (∃ q ∈ l, q.1 = x) → l.lookup x = some (f x)
  | q :: r, x, h, hk => by
    obtain ⟨a, b⟩ := q
    rw [List.lookup_cons]
    by_cases hx : x = a
    · subst hx
      have := h (x, b) List.mem_cons_self
      simp only at this
      simp [this]
    · have hb : (x == a) = false := by simpa using hx
      rw [hb]
      refine lookup_of r x (fun q hq => h q (List.mem_cons_of_mem _ hq)) ?_
      obtain ⟨q, hq, e⟩ := hk
      rcases List.mem_cons.mp hq with rfl | hq
      · exact absurd e.symm hx
      · exact ⟨q, hq, e⟩
theorem clOf_lookup {env : Env} {names : List (Str × NameKind)} {x : Str} {c : Addr} (hx : (x, NameKind.free) ∈ names) (hc : env.cells.lookup x = some c) : (clOf env names []).lookup x = some c := by
  rw [lookup_of (f := fun y => (env.cells.lookup y).getD 0) _ x (clOf_val names [] (by simp)) (clOf_key names [] x hx), hc]
  rfl

theorem lookup_mem {α : Type} : ∀ {l : List (Str × α)} {x : Str} {k : α}, l.lookup x = some k → (x, k) ∈ l
  | (a, b) :: r, x, k, h => by
    rw [List.lookup_cons] at h
    cases hx : x == a
    · rw [hx] at h; exact List.mem_cons_of_mem _ (lookup_mem h)
    · rw [hx] at h; cases h; rw [eq_of_beq hx]; exact List.mem_cons_self
theorem lookup_relabel {env : Env} : ∀ {names : List (Str × NameKind)} {x : Str} {k : NameKind}, names.lookup x = some k →
    let l := (names.map fun (n, k) => if (k == NameKind.free && env.scope.kind == .function && env.kindOf n == some .cell) then (n, NameKind.cell) else (n, k))
    l.lookup x = some k ∨ k = .free ∧ l.lookup x = some .cell
  | [], _, _, h => by simp at h
  | (n, k') :: r, x, k, h => by
    have ih := @lookup_relabel env r x k
    dsimp only at ih ⊢
    rw [List.map_cons]
    cases hx : x == n with
    | true =>
      simp only [List.lookup_cons, hx] at h
      cases h
      by_cases hc : (k' == NameKind.free && env.scope.kind == .function && env.kindOf n == some .cell) = true
      · right
        rw [if_pos hc]
        simp only [List.lookup_cons, hx]
        simp only [Bool.and_eq_true, beq_iff_eq] at hc
        exact ⟨hc.1.1, trivial⟩
      · left
        rw [if_neg hc]
        simp only [List.lookup_cons, hx]
    | false =>
      simp only [List.lookup_cons, hx] at h
      by_cases hc : (k' == NameKind.free && env.scope.kind == .function && env.kindOf n == some .cell) = true
      · rw [if_pos hc]; simp only [List.lookup_cons, hx]; exact ih h
      · rw [if_neg hc]; simp only [List.lookup_cons, hx]; exact ih h

theorem findIdx_get : ∀ {l : List (Str × NameKind)} {x : Str} {i : Nat}, l.findIdx? (fun p => p.1 == x) = some i → ∃ k, l[i]? = some (x, k) ∧ l.lookup x = some k
  | [], _, _, h => by simp at h
  | (a, k) :: r, x, i, h => by
    rw [List.findIdx?_cons] at h
    by_cases hx : a = x
    · subst hx
      simp only [beq_self_eq_true, if_true, Option.some.injEq] at h
      subst h
      exact ⟨k, rfl, by simp [List.lookup_cons]⟩
    · have hb : (a == x) = false := by simpa using hx
      have hb' : (x == a) = false := by simpa using fun e : x = a => hx e.symm
      simp only [hb, Bool.false_eq_true, if_false] at h
      obtain ⟨j, hj, rfl⟩ := Option.map_eq_some_iff.mp h
      obtain ⟨k', h1, h2⟩ := findIdx_get hj
      exact ⟨k', by simpa using h1, by rw [List.lookup_cons, hb']; exact h2⟩
theorem slot_get {sc : Scope} {x : Str} {i : Nat} (h : slotOf sc x = some i) : ∃ k, sc.names[i]? = some (x, k) ∧ sc.names.lookup x = some k ∧ (k = .local ∨ k = .cell ∨ k = .free) := by
  obtain ⟨k, e, h⟩ := Option.bind_eq_some_iff.mp h
  obtain ⟨hk, h⟩ := ite_some h
  obtain ⟨k', a, b⟩ := findIdx_get h
  rw [e] at b
  cases b
  refine ⟨_, a, e, ?_⟩
  cases k with
  | «local» => exact .inl rfl
  | cell => exact .inr (.inl rfl)
  | free => exact .inr (.inr rfl)
  | _ => cases hk
theorem slot_inj {sc : Scope} {x y : Str} {i : Nat} (hx : slotOf sc x = some i) (hy : slotOf sc y = some i) : x = y := by
  obtain ⟨k, a, _⟩ := slot_get hx
  obtain ⟨k', b, _⟩ := slot_get hy
  rw [a] at b; cases b; rfl

theorem Sub.refl (C : RC) (h : Heap) : Sub C C h h := ⟨fun _ _ _ _ x => x, rfl, fun _ _ x => x, fun _ _ _ _ e => e⟩
theorem Sub.xs {C : RC} {h h' : Heap} (hk : ∀ b o, ¬ C.X b → h.get? b = some o → h'.get? b = some o) : Sub C C h h' := ⟨fun _ _ _ _ x => x, rfl, fun _ _ x => x, fun b o _ hx e => hk b o hx e⟩

mutual
theorem Rep.wide {C C' : RC} {h : Heap} (hX : ∀ b, C.X b → C'.X b) (hst : C.st = C'.st) (hads : C.ads = C'.ads) : ∀ (p : PV) (v : Value), Rep C' h p v → Rep C h p v
  | .none, v, r => r
  | .bool b, v, r => r
  | .int i, v, r => r
  | .str l, v, r => r
  | .tup vs, v, r => let ⟨a, xs, e, hna, ht, hl⟩ := r; ⟨a, xs, e, fun q => hna (hX _ q), ht, RepL.wide hX hst hads vs _ hl⟩
  | .list vs, v, r => let ⟨a, xs, e, hna, ht, hl⟩ := r; ⟨a, xs, e, fun q => hna (hX _ q), ht, RepL.wide hX hst hads vs _ hl⟩
  | .star, v, r => Eq.trans r (congrArg Value.ref hst.symm)
  | .own k, v, r => let ⟨a, h1, h2⟩ := r; ⟨a, hads ▸ h1, h2⟩
  | .app k, v, r => let ⟨a, q, h1, h2, h3, h4⟩ := r; ⟨a, q, hads ▸ h1, h2, fun x => h3 (hX _ x), h4⟩
theorem RepL.wide {C C' : RC} {h : Heap} (hX : ∀ b, C.X b → C'.X b) (hst : C.st = C'.st) (hads : C.ads = C'.ads) : ∀ (p : List PV) (v : List Value), RepL C' h p v → RepL C h p v
  | [], v, r => r
  | p :: ps, v, r => let ⟨w, r', e, h1, h2⟩ := r; ⟨w, r', e, Rep.wide hX hst hads p w h1, RepL.wide hX hst hads ps r' h2⟩
end

theorem KN.above {a b c : Heap} (k : KN a b) {I : Addr} (hI : hsz a ≤ I) (hk : ∀ p o, p ≠ I → b.get? p = some o → c.get? p = some o) : KN a c where
  nt p o n e := hk p o (Nat.ne_of_lt (Nat.lt_of_lt_of_le (hsz_lt e) hI)) (k.nt p o n e)
  pt p o n e := hk p o (Nat.ne_of_lt (Nat.lt_of_lt_of_le (hsz_lt e) hI)) (k.pt p o n e)
  tab ps e := let ⟨m, e', t⟩ := k.tab ps e; ⟨m, hk PT _ (Nat.ne_of_lt (Nat.lt_of_lt_of_le (hsz_lt e) hI)) e', t⟩

section
variable (prog : Program) (w : World) (mg mb : Str → Option Value) (hB : Heap) (n : Nat) (sc : Scope)
/-- the tests of a comprehension -/
noncomputable def CS (ifs : List Expr) (cs : PEs) : Prop :=
  ∀ {F : PF1} {C : RC} {G : Slots} {O : Owns} {env : Env} {A : Around} {s : Shared} {b : Bool}, Cx prog w mg mb hB n sc F C G O env A s.heap → pts F O G cs = some b →
    wpAny (model prog w) A (forIn ifs true fun c r => if r = true then do let ok ← isTrue c env (eval c env); pure (ForInStep.yield ok) else pure (ForInStep.yield r)) (PostT s b) noE s
end
section
variable {prog : Program} {w : World} {mg mb : Str → Option Value} {hB : Heap} {n : Nat} {sc : Scope}
theorem tests_false {M : Model} {A : Around} {E : Value → Shared → Prop} {s : Shared} {env : Env} {Q : Bool → Shared → Prop} (h : Q false s) : ∀ (ifs : List Expr),
    wpAny M A (forIn ifs false fun c r => if r = true then do let ok ← isTrue c env (eval c env); pure (ForInStep.yield ok) else pure (ForInStep.yield r)) Q E s
  | [] => wpAny_pure h
  | c :: r => by
    rw [List.forIn_cons]
    simp only [Bool.false_eq_true, if_false, pure_bind]
    exact tests_false h r
theorem cs_nil : CS prog w mg mb hB n sc [] .nil := by
  intro F C G O env A s b K h
  cases h
  exact wpAny_pure ⟨krefl s, rfl⟩
theorem cs_cons {e : Expr} {es : List Expr} {p : PE} {ps : PEs} (he : TS prog w mg mb hB n sc e p) (hs : CS prog w mg mb hB n sc es ps) : CS prog w mg mb hB n sc (e :: es) (.cons p ps) := by
  intro F C G O env A s b K h
  obtain ⟨t, e1, h⟩ := Option.bind_eq_some_iff.mp h
  rw [List.forIn_cons]
  simp only [if_true]
  refine wpAny_bind (wpAny_bind (seqE (he K e1) fun t' s1 ⟨k1, r1⟩ => wpAny_pure ?_))
  subst r1
  cases t'
  · simp only [Bool.false_eq_true, if_false, Option.some.injEq] at h
    subst h
    exact tests_false ⟨k1, rfl⟩ es
  · simp only [if_true] at h
    exact seqE (hs (K.keep k1) h) fun t2 s2 ⟨k2, r2⟩ => ⟨ktrans k1 k2, r2⟩
end
end Mine

namespace Mine
open StrLaws

noncomputable def RC.plus (C : RC) (p : Addr → Prop) : RC := { C with X := fun b => C.X b ∨ p b }
theorem xplus {C : RC} {p : Addr → Prop} {b : Addr} (h : p b) : (C.plus p).X b := .inr h
theorem RC.plus_wide {C : RC} {p : Addr → Prop} {h : Heap} {v : PV} {u : Value} (r : Rep (C.plus p) h v u) : Rep C h v u := Rep.wide (C := C) (C' := C.plus p) (fun _ x => .inl x) rfl rfl v u r
theorem RC.plus_wideL {C : RC} {p : Addr → Prop} {h : Heap} {v : List PV} {u : List Value} (r : RepL (C.plus p) h v u) : RepL C h v u := RepL.wide (C := C) (C' := C.plus p) (fun _ x => .inl x) rfl rfl v u r

/-- new addresses may be written -/
theorem Sub.plus {C : RC} {p : Addr → Prop} {h h' : Heap} (hk : KN h h') (hp : ∀ b, p b → hsz h ≤ b) : Sub C (C.plus p) h h' where
  X b o _ e hx := by
    rintro (q | q)
    · exact hx q
    · exact Nat.lt_irrefl _ (Nat.lt_of_lt_of_le (hsz_lt e) (hp b q))
  st := rfl
  ads _ _ x := x
  keep b o nt _ e := hk.nt b o nt.noTab e

theorem n01 (I : Nat) : (I : Addr) ≠ I + 1 := Nat.ne_of_lt (by lia)
theorem n02 (I : Nat) : (I : Addr) ≠ I + 2 := Nat.ne_of_lt (by lia)
theorem n12 (I : Nat) : (I + 1 : Addr) ≠ I + 2 := Nat.ne_of_lt (by show I + 1 < I + 2; lia)
theorem n_lt {I b : Nat} (h : b < I) : (b : Addr) ≠ I + 2 := Nat.ne_of_lt (by lia)
theorem addr_ne {a b : Addr} (h : (a : Nat) < b) : a ≠ b := Nat.ne_of_lt h

noncomputable def compG (sc sc2 : Scope) (G : Slots) : Slots := (sc2.names.map fun p => if p.2 == .free then slotOf sc p.1 else none).map fun j => j.bind fun j => (G[j]?).bind id

theorem compG_at {sc sc2 : Scope} {G : Slots} {i : Nat} {y : Str} {k : NameKind} {v : PV} (hn : sc2.names[i]? = some (y, k)) (h : (compG sc sc2 G)[i]? = some (some v)) : k = .free ∧ ∃ j, slotOf sc y = some j ∧ G[j]? = some (some v) := by
  unfold compG at h
  rw [List.getElem?_map, List.getElem?_map, hn] at h
  simp only [Option.map_some, Option.some.injEq] at h
  by_cases hk : k = .free
  · subst hk
    simp only [beq_self_eq_true, if_true] at h
    obtain ⟨j, h1, h2⟩ := Option.bind_eq_some_iff.mp h
    obtain ⟨q, h3, h4⟩ := Option.bind_eq_some_iff.mp h2
    exact ⟨rfl, j, h1, by rw [h3]; exact congrArg some h4⟩
  · have hb : (k == NameKind.free) = false := by simpa using hk
    simp [hb] at h

section
variable {prog : Program} {w : World} {mg mb : Str → Option Value} {hB : Heap} {n : Nat} {sc : Scope}

/-- the comprehension's own frame -/
theorem comp_cx {F : PF1} {C : RC} {G : Slots} {O : Owns} {env : Env} {A : Around} {sc2 : Scope} {x : Str} {i : Nat} {p : Addr → Prop} {h h' : Heap} {L : Addr} {m : Str → Option Value} {v : PV} {u : Value}
    (K : Cx prog w mg mb hB n sc F C G O env A h) (hok : compOk sc sc2 x = true) (hi : slotOf sc2 x = some i) (hk : KN h h') (hp : ∀ b, p b → hsz h ≤ b ∧ ∃ o, NoTab o ∧ h'.get? b = some o)
    (hn : h'.Ns L m) (hm : m x = some u) (hr : Rep (C.plus p) h' v u) :
    Cx prog w mg mb hB n sc2 F (C.plus p) ((compG sc sc2 G).set i (some v)) O (compEnvC sc2 (clOf env sc2.names []) L env) A h' := by
  have I := K.I
  simp only [compOk, Bool.and_eq_true, beq_iff_eq, List.all_eq_true] at hok
  obtain ⟨⟨⟨hkind, hstuff⟩, hx⟩, hall⟩ := hok
  have S : Sub C (C.plus p) h h' := .plus hk fun b q => (hp b q).1
  have frees : ∀ y, (y, NameKind.free) ∈ sc2.names → sc.names.lookup y = some .cell ∨ sc.names.lookup y = some .free := fun y hy => by
    have := hall _ hy
    simpa using this
  refine ⟨K.FS, ?_, K.R⟩
  refine ⟨I.base, hkind, I.glb, I.blt, fun q => ?_, I.top.trans hk, fun y k e => ?_, fun y e => ?_, fun y j pv e1 e2 => ?_, ?_⟩
  · rw [Option.isNone_iff_eq_none.mp hstuff] at q; cases q
  · exact lookup_relabel e
  · have hm' : (y, NameKind.free) ∈ sc2.names ∨ (y, NameKind.cell) ∈ sc2.names := by
      rcases e with e | e
      · exact .inr (lookup_mem e)
      · exact .inl (lookup_mem e)
    rcases hm' with hm' | hm'
    · obtain ⟨c, hc⟩ := I.cel y (frees y hm')
      exact ⟨c, clOf_lookup hm' hc⟩
    · have := hall _ hm'
      simp at this
  · obtain ⟨k, hg, hl, hkk⟩ := slot_get e1
    by_cases hj : j = i
    · subst hj
      have := slot_inj e1 hi
      subst this
      rw [List.getElem?_set] at e2
      split at e2
      · split at e2
        · cases e2
          refine ⟨u, .inl ⟨?_, m, hn, hm⟩, hr⟩
          exact lookup_relabel_local hx
        · cases e2
      · exact absurd rfl ‹_›
    · rw [List.getElem?_set_ne (fun q => hj q.symm)] at e2
      obtain ⟨rfl, j', h1, h2⟩ := compG_at hg e2
      obtain ⟨u', Se, r⟩ := I.slots y j' pv h1 h2
      have hy := lookup_mem hl
      refine ⟨u', .inr ⟨?_, ?_⟩, Rep.mono S _ _ r⟩
      · rcases lookup_relabel (env := env) hl with q | ⟨_, q⟩
        · exact .inr q
        · exact .inl q
      · rcases Se with ⟨q, _⟩ | ⟨_, c, hc, hcell⟩
        · rcases frees y hy with hf | hf
          · rcases I.knd y _ hf with q' | ⟨q', _⟩
            · rw [q] at q'; cases q'
            · cases q'
          · rcases I.knd y _ hf with q' | ⟨_, q'⟩
            · rw [q] at q'; cases q'
            · rw [q] at q'; cases q'
        · exact ⟨c, clOf_lookup hy hc, hk.cell hcell⟩
  · refine ⟨fun k vs e => ?_, fun b hb => ?_⟩
    · obtain ⟨a, xs, h1, h2, h3⟩ := I.W.own k vs e
      exact ⟨a, xs, h1, hk.plain h2, RepL.mono S _ _ h3⟩
    · rcases hb with hb | hb
      · obtain ⟨o, nt, e⟩ := I.W.lt b hb
        exact ⟨o, nt, hk.nt _ _ nt e⟩
      · exact (hp b hb).2

theorem wpAny_gens_toks {α : Type} {M : Model} {A : Around} {t : Sem α} {Q : α → Shared → Prop} {E : Value → Shared → Prop} {s : Shared} (h : wpAny M A t Q E s) : wpAny M A t Q E s := h

theorem comp_block {F : PF1} {C : RC} {G : Slots} {O : Owns} {env : Env} {A : Around} {s₁ s₂ : Shared} {elt iter : Expr} {x : Str} {px : Pos} {ifs : List Expr} {sc2 : Scope} {pos : Pos} {it : Value} {i : Nat} {pe : PE} {cs : PEs}
    {its res : List PV} {E : Value → Shared → Prop} {RR : Value → Addr → Result → Shared → Prop}
    (K : Cx prog w mg mb hB n sc F C G O env A s₁.heap) (hok : compOk sc sc2 x = true) (hi : slotOf sc2 x = some i) (he : ES prog w mg mb hB n sc2 elt pe) (hc : CS prog w mg mb hB n sc2 ifs cs)
    (hit : ItPost prog w C O its s₁ it s₂) (hlen : its.length ≤ 2 * LIM + 1)
    (hres : mapO (fun v => (pts F O ((compG sc sc2 G).set i (some v)) cs).bind fun t => if t then (ev F O ((compG sc sc2 G).set i (some v)) pe).map some else some none) its = some res)
    (hRR : ∀ D L s' m', Keeps s₁ s' → hsz s₁.heap ≤ L → s'.heap.Ns L m' → Rep (C.plus (· = L)) s'.heap (.list res) (.ref D) → RR (.ref D) L (.ok .next) s') :
    wpAny (model prog w) A (newList []) (fun acc s₃ => wpAny (model prog w) A (newFunctionEnv sc2 env.globals (clOf env sc2.names []) [] env.qual none .none (some env)) (fun cenv s₄ =>
      codeAny (model prog w) A (.compStart (.ListComp elt [⟨.Name x px, iter, ifs, 0⟩] sc2 pos) 0 it acc { cenv with scope := relabel sc2 env }) (RR acc cenv.locals) s₄) E s₃) E s₂ := by
  obtain ⟨tk₂, hs₂, o, fp, P, St, rfl, hh₂, hnt, hW, hst, hlive, hfp, hP⟩ := hit
  have hok' := hok
  simp only [compOk, Bool.and_eq_true, beq_iff_eq, List.all_eq_true] at hok'
  obtain ⟨⟨⟨hkind, hstuff⟩, hx⟩, hall⟩ := hok'
  have hcell : ∀ y ∈ sc2.names, y.2 ≠ .cell := fun y hy q => by
    have := hall y hy
    rw [q] at this
    simp at this
  have W := hW A K.R.handled
  obtain ⟨ps0, hpt0⟩ := KN.tabLive K.I.top (K.I.base.pt.choose_spec.1)
  have hIle := hsz_size s₁.heap
  generalize hI : s₁.heap.objs.size = I at *
  have hsz2 : s₂.heap.objs.size = I + 1 := by rw [hh₂, Heap.size_push, hI]
  have hk2 : KN s₁.heap s₂.heap := by rw [hh₂]; exact .push _ _
  refine wpAny_newObj_type (wpAny_newFunctionEnv hcell (by intro y hy; simp at hy) (fun h₁ hns₁ hsb₁ => ?_) hkind)
  dsimp only at hns₁ hsb₁ ⊢
  generalize hH2 : s₂.heap.push { cls := .type "list", dict := none, data := .seq ([] : List Value).toArray } = H2 at hns₁ hsb₁ ⊢
  have hL : H2.objs.size = I + 2 := by rw [← hH2, Heap.size_push, hsz2]
  have hD : s₂.heap.objs.size = I + 1 := hsz2
  rw [hD]
  rw [hL] at hns₁ hsb₁ ⊢
  have hkH : ∀ b o, s₂.heap.get? b = some o → H2.get? b = some o := fun b o e => hH2 ▸ Heap.get?_push_of_some _ e
  have hk1 : ∀ b o, b ≠ I + 2 → H2.get? b = some o → h₁.get? b = some o := fun b o hb e => hsb₁.extBut b o hb (Heap.get?_push_of_some _ e)
  have hlt2 : ∀ {b o}, s₂.heap.get? b = some o → b ≠ I + 2 := fun e q => by
    have := Heap.lt_size e; rw [hsz2] at this; rw [q] at this; exact Nat.lt_irrefl _ (Nat.lt_of_succ_lt this)
  have old : ∀ b o, s₂.heap.get? b = some o → h₁.get? b = some o := fun b o e => hk1 b o (hlt2 e) (hkH b o e)
  have hk₁ : KN s₁.heap h₁ := hk2.trans (.of old)
  have hacc : h₁.PlainList (I + 1) #[] := by
    have e : H2.get? (I + 1) = some { cls := .type "list", dict := none, data := .seq ([] : List Value).toArray } := by
      rw [← hH2, ← hD]
      exact Heap.get?_push_size _ rfl
    exact ⟨_, hk1 _ _ (n12 I) e⟩
  have hst₁ : St 0 h₁ := W.frame _ _ _ hst fun b _ o e => old b o e
  -- the addresses written
  generalize hp : (fun b : Addr => b = I ∨ b = I + 1 ∨ b = I + 2) = p
  have hpge : ∀ b, p b → hsz s₁.heap ≤ b := fun b q => by
    rw [← hp] at q
    rcases q with q | q | q <;> rw [q]
    · exact hIle
    · exact Nat.le_trans hIle (Nat.le_succ I)
    · exact Nat.le_trans hIle (Nat.le_add_right I 2)
  have pX : ∀ b, p b → (C.plus p).X b := fun b q => .inr q
  have pI : (C.plus p).X I := pX _ (by rw [← hp]; exact .inl rfl)
  have pD : (C.plus p).X (I + 1) := pX _ (by rw [← hp]; exact .inr (.inl rfl))
  have pL : (C.plus p).X (I + 2) := pX _ (by rw [← hp]; exact .inr (.inr rfl))
  have hfpI : ∀ b ∈ fp, b ≠ I + 1 ∧ b ≠ I + 2 := fun b hb => by
    rcases hfp b hb with q | ⟨⟨o, _, e⟩, _⟩
    · rw [q]; exact ⟨n01 I, n02 I⟩
    · have := Heap.lt_size e
      rw [hI] at this
      exact ⟨addr_ne (Nat.lt_succ_of_lt this), addr_ne (Nat.lt_succ_of_lt (Nat.lt_succ_of_lt this))⟩
  have hfpT : ∀ {g : Heap}, KN s₁.heap g → ∀ b ∈ fp, b ≠ PT := fun {g} hg b hb q => by
    subst q
    rcases hfp _ hb with q | ⟨⟨o, nt, e⟩, _⟩
    · have := Heap.lt_size hpt0; rw [hI, q] at this; exact Nat.lt_irrefl _ this
    · rw [hpt0] at e; cases e; exact nt _ rfl
  have loop : ∀ s₃ : Shared, s₃ = { s₂ with heap := h₁, toks := s₂.toks + ([] : List (Str × Value)).length } →
      codeAny (model prog w) A (.compLoop (.ListComp elt [⟨.Name x px, iter, ifs, 0⟩] sc2 pos) 0 (.ref I) (.ref (I + 1)) (compEnvC sc2 (clOf env sc2.names []) (I + 2) env))
        (RR (.ref (I + 1)) (I + 2)) s₃ := by
    rintro s₃ rfl
    refine codeAny_compLoop_tests
      (fun k s' => ∃ m' ys, ∃ pre rest rs rr : List PV, Keeps s₁ s' ∧ St pre.length s'.heap ∧ s'.heap.Ns (I + 2) m' ∧ s'.heap.PlainList (I + 1) ys ∧ RepL (C.plus p) s'.heap rs ys.toList ∧ its = pre ++ rest ∧ rs.length ≤ pre.length ∧
        mapO (fun v => (pts F O ((compG sc sc2 G).set i (some v)) cs).bind fun t => if t then (ev F O ((compG sc sc2 G).set i (some v)) pe).map some else some none) rest = some rr ∧ res = rs ++ rr ∧ k = rest.length) ?_ its.length
      ⟨_, #[], [], its, [], res, ?_, hst₁, hns₁, hacc, by simp [RepL], rfl, Nat.le_refl _, hres, rfl, rfl⟩
    · rintro k s' ⟨m', ys, pre, rest, rs, rr, hkp, hst', hn', hacc', hR', hits, hle, hmap, hres', rfl⟩
      have kk := kheap hkp
      cases rest with
      | nil =>
        simp only [mapO, Option.some.injEq] at hmap
        subst hmap
        rw [List.append_nil] at hits hres'
        subst hits; subst hres'
        refine W.done _ _ _ hst' fun h₂ tk₂ hk₂ => ?_
        have hk₂' : ∀ b o, b ≠ I → s'.heap.get? b = some o → h₂.get? b = some o := fun b o hb e => hk₂ b o (by simpa using hb) e
        refine hRR _ _ _ m' ?_ (Nat.le_trans hIle (Nat.le_add_right I 2)) (hn'.at' fun o e => hk₂' _ o (n02 I).symm e) ?_
        · obtain ⟨h', tk, gn, rfl, k1, k2⟩ := hkp
          exact ⟨h₂, tk₂, gn, rfl, kk.above hIle hk₂', k2⟩
        · refine rep_list (xs := ys.toList) ?_ ?_ ?_
          · rintro (q | q)
            · obtain ⟨o, _, e⟩ := K.I.W.lt _ q
              have := Heap.lt_size e; rw [hI] at this; exact Nat.not_succ_lt_self this
            · exact n12 I q
          · simpa using hacc'.at fun o e => hk₂' _ o (n01 I).symm e
          · have r2 : RepL (C.plus p) h₂ res ys.toList := RepL.mono (Sub.xs fun b o hb e => hk₂' b o (fun q => hb (q ▸ pI)) e) _ _ hR'
            exact RepL.wide (C := C.plus (· = I + 2)) (C' := C.plus p) (fun b q => by
              rcases q with q | q
              · exact .inl q
              · exact .inr (by rw [← hp]; exact .inr (.inr q))) rfl rfl _ _ r2
      | cons v r =>
        have hlt : pre.length < its.length := by rw [hits]; simp
        refine W.item pre.length _ _ _ hlt hst' fun u h₂ tk₂ hPv hst₂ hk₂ => ?_
        have hk₂' : ∀ b o, b ≠ I → s'.heap.get? b = some o → h₂.get? b = some o := fun b o hb e => hk₂ b o (by simpa using hb) e
        refine wpAny_assign_Name (wpAny_storeName_local (env := compEnvC sc2 (clOf env sc2.names []) (I + 2) env) (lookup_relabel_local hx) (hn'.at' fun o e => hk₂' _ o (n02 I).symm e) (fun h₃ hn₃ hs₃ => ?_) (by simp [compEnvC, relabel, hkind]))
        dsimp only [compEnvC] at hn₃ hs₃
        have up : ∀ b o, b ≠ I → b ≠ I + 2 → s'.heap.get? b = some o → h₃.get? b = some o := fun b o h1 h2 e => hs₃.extBut b o h2 (hk₂' b o h1 e)
        have k3 : KN s₁.heap h₃ := (kk.above hIle hk₂').above (I := I + 2) (Nat.le_trans hIle (Nat.le_add_right I 2)) fun b o hb e => hs₃.extBut b o hb e
        have hst₃ : St (pre.length + 1) h₃ := W.frame _ _ _ hst₂ fun b hb o e => hs₃.extBut b o (hfpI b hb).2 e
        have hacc₃ : h₃.PlainList (I + 1) ys := hacc'.at fun o e => up _ o (n01 I).symm (n12 I) e
        have hR₃ : RepL (C.plus p) h₃ rs ys.toList := RepL.mono (Sub.xs fun b o hb e => up b o (fun q => hb (q ▸ pI)) (fun q => hb (q ▸ pL)) e) _ _ hR'
        have hv : its[pre.length]? = some v := by rw [hits]; simp
        obtain ⟨pv, e1, rv⟩ := hP pre.length u hPv
        rw [hv] at e1; cases e1
        have hp3 : ∀ b, p b → hsz s₁.heap ≤ b ∧ ∃ o, NoTab o ∧ h₃.get? b = some o := fun b q => by
          refine ⟨hpge b q, ?_⟩
          rw [← hp] at q
          rcases q with rfl | rfl | rfl
          · obtain ⟨o, ho, e⟩ := hlive _ _ hst₃
            exact ⟨o, ho.noTab, e⟩
          · obtain ⟨m, e⟩ := hacc₃; refine ⟨_, ?_, e⟩; exact noTab_cls nofun
          · obtain ⟨o, es, ep, e, hd, _⟩ := hn₃; exact ⟨o, noTab_data (by rw [hd]; nofun), e⟩
        have K3 := comp_cx K hok hi k3 hp3 hn₃ (by simp) (Rep.mono (Sub.plus k3 hpge) _ _ rv)
        have kp3 : Keeps s₁ { s' with heap := h₃, toks := tk₂ + 1 } := by
          obtain ⟨h', tk, gn, rfl, k1, k2⟩ := hkp
          exact ⟨h₃, _, gn, rfl, k3, k2⟩
        simp only [mapO] at hmap
        have after : ∀ s₄ : Shared, Keeps { s' with heap := h₃, toks := tk₂ + 1 } s₄ → Keeps s₁ s₄ ∧ St (pre.length + 1) s₄.heap ∧ s₄.heap.Ns (I + 2) (fun y => if y = x then some u else m' y) ∧ s₄.heap.PlainList (I + 1) ys ∧ RepL (C.plus p) s₄.heap rs ys.toList := fun s₄ k4 =>
          ⟨ktrans kp3 k4, W.frame _ _ _ hst₃ fun b hb o e => (kheap k4).pt b o (hfpT k3 b hb) e, (kheap k4).ns hn₃, (kheap k4).plain hacc₃, hR₃.keep (kheap k4)⟩
        revert hmap
        cases ht : pts F O ((compG sc sc2 G).set i (some v)) cs with
        | none => intro hmap; simp at hmap
        | some t =>
          intro hmap
          simp only [Option.bind_some] at hmap
          refine seqE (hc K3 ht) fun t' s₄ ⟨k4, r4⟩ => ?_
          subst r4
          obtain ⟨a1, a2, a3, a4, a5⟩ := after s₄ k4
          cases t' with
          | false =>
            simp only [Bool.false_eq_true, if_false] at hmap ⊢
            refine ⟨r.length, by simp, _, ys, pre ++ [v], r, rs, rr, a1, ?_, a3, a4, a5, by rw [hits]; simp, by simp; lia, hmap, hres', rfl⟩
            rw [List.length_append, List.length_singleton]; exact a2
          | true =>
            simp only [if_true] at hmap ⊢
            revert hmap
            cases hev : ev F O ((compG sc sc2 G).set i (some v)) pe with
            | none => intro hmap; simp at hmap
            | some y =>
              intro hmap
              simp only [Option.map_some] at hmap
              obtain ⟨rr', hmap', rfl⟩ := Option.map_eq_some_iff.mp hmap
              refine seqE (he (K3.keep k4) hev) fun uy s₅ ⟨k5, r5⟩ => ?_
              obtain ⟨b1, b2, b3, b4, b5⟩ := after s₅ (ktrans k4 k5)
              have hys : ys.size ≤ sizeLine := by
                have e1 := b5.length
                simp only [Array.length_toList] at e1
                have e2 : (2 * LIM + 1) ≤ sizeLine := by rw [sizeLine_eq]; decide
                have e3 : ys.size ≤ pre.length := by rw [e1]; exact hle
                exact Nat.le_trans (Nat.le_trans (Nat.le_trans e3 (Nat.le_of_lt hlt)) hlen) e2
              refine wpAny_list_append_plain (hsz := hys) b4 fun h₆ hl₆ hs₆ => ?_
              have k6 : KN s₁.heap h₆ := (kheap b1).above (I := I + 1) (Nat.le_trans hIle (Nat.le_succ I)) fun b o hb e => hs₆.extBut b o hb e
              have S6 : ∀ b o, ¬ (C.plus p).X b → s₅.heap.get? b = some o → h₆.get? b = some o := fun b o hb e => hs₆.extBut b o (fun q => hb (q ▸ pD)) e
              refine ⟨r.length, by simp, _, ys.push uy, pre ++ [v], r, rs ++ [y], rr', ?_, ?_, b3.sameBut hs₆ (n12 I).symm, hl₆, ?_, by rw [hits]; simp, by simp; lia, hmap', by simp [hres'], rfl⟩
              · obtain ⟨h', tk, gn, rfl, k1, k2⟩ := b1
                exact ⟨h₆, _, gn, rfl, k6, k2⟩
              · rw [List.length_append, List.length_singleton]
                exact W.frame _ _ _ b2 fun b hb o e => hs₆.extBut b o (hfpI b hb).1 e
              · rw [Array.toList_push]
                exact (RepL.mono (Sub.xs S6) _ _ b5).append (RepL.one (Rep.mono (Sub.xs S6) _ _ r5))
    · rw [hs₂]; exact ⟨h₁, _, s₁.gens, rfl, hk₁, id⟩
  exact codeAny_compStart_list (loop _ rfl) (W.self 0 _ _ _ hst₁ (loop _ rfl))
end
end Mine

namespace Mine
open StrLaws

section
variable {prog : Program} {w : World} {mg mb : Str → Option Value} {hB : Heap} {n : Nat} {sc : Scope}

theorem not_t {a : Bool} (h : (!a) = true) : a = false := by
  cases a
  · rfl
  · cases h
theorem bad_okE {e : Expr} : ES prog w mg mb hB n sc e (.idx .cn .cn) := by
  intro F C G O env A s pv K hv
  cases hv
theorem noT {e : Expr} {pe : PE} (h : ∀ F O G, pt F O G pe = none) : TS prog w mg mb hB n sc e pe := by
  intro F C G O env A s b K hv
  rw [h] at hv; cases hv

theorem fold_none {iter : Expr} {env : Env} (h : noSet iter = true) : ∀ x, foldedSetIterable iter env x = pure x := by
  intro x
  cases iter <;> first | rfl | cases h
theorem behind_none {o : CmpOp} {r : Expr} (h : noSet r = true) : behindInMarks o r = false := by
  cases r <;> first | rfl | cases h

theorem compOk_names {sc sc2 : Scope} {x : Str} (h : compOk sc sc2 x = true) : sc2.kind = .function ∧ sc2.names.lookup x = some .local ∧ ∀ p ∈ sc2.names, (p.2 = .local → sc2.names.lookup p.1 = some .local) ∧ (p.2 = .free → sc.names.lookup p.1 = some .cell ∨ sc.names.lookup p.1 = some .free) := by
  simp only [compOk, Bool.and_eq_true, beq_iff_eq, List.all_eq_true] at h
  refine ⟨h.1.1.1, h.1.2, fun p hp => ⟨fun q => ?_, fun q => ?_⟩⟩
  · have := h.2 p hp; rw [q] at this; simpa using this
  · have := h.2 p hp; rw [q] at this; simpa using this

theorem comp_closure {F : PF1} {C : RC} {G : Slots} {O : Owns} {env : Env} {A : Around} {h : Heap} {sc2 : Scope} {x : Str} (K : Cx prog w mg mb hB n sc F C G O env A h) (hok : compOk sc sc2 x = true) :
    closureFor sc2 env = pure (clOf env sc2.names []) :=
  closure_ok fun p hp hf => K.I.cel p.1 (((compOk_names hok).2.2 p hp).2 hf)

theorem comp_okE {elt iter : Expr} {x : Str} {px : Pos} {ifs : List Expr} {sc2 : Scope} {pos : Pos} {i : Nat} {pe : PE} {pit : PIt} {cs : PEs}
    (hok : compOk sc sc2 x = true) (hns : noSet iter = true) (hi : slotOf sc2 x = some i) (hit : IS prog w mg mb hB n sc iter pit) (he : ES prog w mg mb hB n sc2 elt pe) (hc : CS prog w mg mb hB n sc2 ifs cs) :
    ES prog w mg mb hB n sc (.ListComp elt [⟨.Name x px, iter, ifs, 0⟩] sc2 pos) (.comp pe i pit cs (cFr sc sc2)) := by
  intro F C G O env A s pv K hv
  obtain ⟨its, e1, hv⟩ := Option.bind_eq_some_iff.mp hv
  obtain ⟨res, e2, rfl⟩ := Option.map_eq_some_iff.mp hv
  obtain ⟨hlen, hw⟩ := hit O K (.inl ⟨rfl, e1⟩)
  have hn := compOk_names hok
  rw [eval_ListComp]
  refine wpAny_comprehension_free (use := none) (E := noE) rfl (fold_none hns) (comp_closure K hok) hn.1 (fun p hp => (hn.2.2 p hp).1) ?_
  refine seqE hw fun xv s₁ ⟨k1, hpi⟩ => seqE (hpi A) fun it s₂ hitp => ?_
  refine comp_block (K.keep k1) hok hi he hc hitp hlen e2 ?_
  intro D L s' m' k2 hL hnL hr
  refine ⟨m', hnL, fun h' hs' => ?_⟩
  have hup : ∀ b o, b ≠ L → s'.heap.get? b = some o → h'.get? b = some o := fun b o hb e => hs'.extBut b o hb e
  refine ⟨?_, ?_⟩
  · obtain ⟨h1, tk1, g1, rfl, q1, q2⟩ := k1
    obtain ⟨h2, tk2, g2, rfl, q3, q4⟩ := k2
    exact ⟨h', tk2, g2, rfl, q1.trans (q3.above hL hup), fun z => q4 (q2 z)⟩
  · exact RC.plus_wide (p := (· = L)) (Rep.mono (Sub.xs fun b o hb e => hup b o (fun q => hb (xplus (p := (· = L)) q)) e) _ _ hr)

/-- the one regular expression's sub -/
noncomputable def ResubOk (prog : Program) (w : World) (mg mb : Str → Option Value) (hB : Heap) : Prop :=
  ∀ (n : Nat) (sc : Scope) (ps : Arguments) (body e : Expr) (lsc : Scope) (rp ap lp p : Pos) (pe : PE), isGl sc "_twin_re_1" = true → (slotOf sc "stuff").isSome = true → lamOk ps lsc = true → (ap.endLine == p.line) = true → NoStars [e] = true → ES prog w mg mb hB n sc e pe →
    ES prog w mg mb hB n sc (.Call (.Attribute (.Name "_twin_re_1" rp) "sub" ap) [.Lambda ps body lsc lp, e] [] p) (.resub pe)

noncomputable def SpecOk (prog : Program) (w : World) (hB : Heap) : Prop :=
  ∀ (n : Nat) (C : RC) (A : Around) (s : Shared) (x : Str) (t : Tok) (c : Nat), KN hB s.heap → Room n A → x.cps.toList = [c] → wpAny (model prog w) A (call (.builtin "str.translate") [.str x t, .ref spA]) (Post C s (.str (pesc c))) noE s
structure Prims (prog : Program) (w : World) (mg mb : Str → Option Value) (hB : Heap) : Prop where
  resub : ResubOk prog w mg mb hB
  spec : SpecOk prog w hB

theorem isstr_okE {f y : Str} {fp yp pos : Pos} {e : Expr} {p : PE} (he : ES prog w mg mb hB n sc e p) (hI : (f == "isinstance" && (y == "str" && (isGl sc "isinstance" && (isGl sc "str" && NoStars [e])))) = true) : ES prog w mg mb hB n sc (.Call (.Name f fp) [e, .Name y yp] [] pos) (.isstr p) := by
  obtain ⟨h1, hI⟩ := and_t hI
  obtain ⟨h2, hI⟩ := and_t hI
  obtain ⟨hg1, hI⟩ := and_t hI
  obtain ⟨hg2, hn⟩ := and_t hI
  cases beq_iff_eq.mp h1
  cases beq_iff_eq.mp h2
  intro F C G O env A s pv K h
  obtain ⟨v, e1, h⟩ := Option.bind_eq_some_iff.mp h
  obtain ⟨l, e2, rfl⟩ := Option.map_eq_some_iff.mp h
  have hb1 := K.I.base.bis ("isinstance", .builtin "isinstance") (by decide)
  have hb2 := K.I.base.bis ("str", .type "str") (by decide)
  refine Call_Name (backTo_of (Bool.and_eq_true_iff.mpr ⟨(and_t hn).1, rfl⟩)) (glob_load (v := .builtin "isinstance") K hg1 (by decide) (.inr hb1) ?_)
  refine Calls.callWith_builtin (id := "isinstance") any_of (evalArgs_of ?_)
  refine Calls.spliced_cons (seqE (he K e1) fun u s1 q => ?_)
  obtain ⟨x, t, rfl, _⟩ := rep_asS e2 q.2
  refine Calls.spliced_cons (glob_load (v := .type "str") (K.keep q.1) hg2 (by decide) (.inr hb2) ?_)
  refine Calls.spliced_nil ?_
  exact IsiPair.str_str ⟨q.1, rep_bool⟩
theorem isstr_okT {f y : Str} {fp yp pos : Pos} {e : Expr} {p : PE} (he : ES prog w mg mb hB n sc (.Call (.Name f fp) [e, .Name y yp] [] pos) (.isstr p)) : TS prog w mg mb hB n sc (.Call (.Name f fp) [e, .Name y yp] [] pos) (.isstr p) := by
  intro F C G O env A s b K h
  refine plain_okT he (fun _ _ => rfl) K ?_
  obtain ⟨v, e1, h⟩ := Option.bind_eq_some_iff.mp h
  obtain ⟨l, e2, rfl⟩ := Option.map_eq_some_iff.mp h
  exact Option.bind_eq_some_iff.mpr ⟨.bool true, Option.bind_eq_some_iff.mpr ⟨v, e1, Option.map_eq_some_iff.mpr ⟨l, e2, rfl⟩⟩, rfl⟩
theorem spec_okE (hp : Prims prog w mg mb hB) {o : Expr} {x y : Str} {ap yp pos : Pos} {p : PE} (ho : ES prog w mg mb hB n sc o p) (hb : noSuper o = true) (hl : (ap.endLine == pos.line) = true) (hI : (x == "translate" && (y == "_special_chars_map" && isGl sc "_special_chars_map")) = true) :
    ES prog w mg mb hB n sc (.Call (.Attribute o x ap) [.Name y yp] [] pos) (.spec p) := by
  obtain ⟨h1, hI⟩ := and_t hI
  obtain ⟨h2, hg⟩ := and_t hI
  cases beq_iff_eq.mp h1
  cases beq_iff_eq.mp h2
  intro F C G O env A s pv K h
  obtain ⟨v, e1, h⟩ := Option.bind_eq_some_iff.mp h
  obtain ⟨l, e2, h⟩ := Option.bind_eq_some_iff.mp h
  have hc : ∃ c, l = [c] ∧ pv = .str (pesc c) := by
    cases l with
    | nil => cases h
    | cons c r =>
      cases r with
      | nil => cases h; exact ⟨c, rfl, rfl⟩
      | cons _ _ => cases h
  obtain ⟨c, rfl, rfl⟩ := hc
  refine wpAny_Call_method_lateS (base_plain hb) (by rfl) hl (seqE (ho K e1) fun u s1 q => ?_)
  obtain ⟨z, t, rfl, hz⟩ := rep_asS e2 q.2
  refine ⟨"str", _, PySem.F.plainAttrs_str, PySem.F.slot_str_translate, PySem.F.type_str_translate, typeIs_str _ _ _, nofun, ?_⟩
  rw [backTo_of rfl]
  refine Calls.callWith_builtin any_of (evalArgs_of (Calls.spliced_cons (glob_load (v := .ref spA) (K.keep q.1) hg (by decide) (.inl K.I.base.sp) (Calls.spliced_nil ?_))))
  exact seqE (hp.spec n C A s1 z t c (K.keep q.1).I.top K.R hz) fun z s2 q2 => ⟨ktrans q.1 q2.1, q2.2⟩

theorem cE_noSet : ∀ {k : Nat} {e : Expr} {pe : PE}, cE k sc e = some pe → noSet e = true := by
  intro k e pe h
  cases e <;> first | rfl | (cases k <;> cases h; done)

noncomputable def Snd (prog : Program) (w : World) (mg mb : Str → Option Value) (hB : Heap) (n k : Nat) : Prop := ∀ (sc : Scope) (e : Expr) (pe : PE), cE k sc e = some pe → ES prog w mg mb hB n sc e pe ∧ TS prog w mg mb hB n sc e pe

theorem cEs_snd {k : Nat} (S : Snd prog w mg mb hB n k) : ∀ {es : List Expr} {pes : PEs}, cEs (cE k sc) es = some pes → SS prog w mg mb hB n sc es pes ∧ CS prog w mg mb hB n sc es pes
  | [], pes, h => by cases h; exact ⟨ss_nil, cs_nil⟩
  | e :: r, pes, h => by
    obtain ⟨pe, e1, h⟩ := Option.bind_eq_some_iff.mp h
    obtain ⟨pr, e2, rfl⟩ := Option.map_eq_some_iff.mp h
    have h1 := S sc e pe e1
    have h2 := cEs_snd S e2
    exact ⟨ss_cons h1.1 h2.1, cs_cons h1.2 h2.2⟩

noncomputable abbrev Both (prog : Program) (w : World) (mg mb : Str → Option Value) (hB : Heap) (n : Nat) (sc : Scope) (e : Expr) (pe : PE) : Prop := ES prog w mg mb hB n sc e pe ∧ TS prog w mg mb hB n sc e pe

theorem js_const2 {c : Str} {k : Nat} {pos : Pos} {e : Expr} {es : List Expr} {pes : PEs} (he : e = .Constant (.str c) k pos) (ht : JS prog w mg mb hB n sc es pes) : JS prog w mg mb hB n sc (e :: es) (.cons (.cs c.cps.toList) pes) := by
  subst he; exact js_const ht
theorem neg2 {i : Int} {k : Nat} {pos p : Pos} {a : Expr} (he : a = .Constant (.int i) k pos) : Both prog w mg mb hB n sc (.UnaryOp .USub a p) (.ci (-i)) := by
  subst he; exact ⟨neg_ok, noT fun _ _ _ => rfl⟩
theorem cmp3 {k : Nat} {a b : Expr} {pa pb : PE} {op : CmpOp} {ops : List CmpOp} {bs : List Expr} {p : Pos} (h1 : ops = [op]) (h2 : bs = [b]) (e2 : cE k sc b = some pb) (ha : ES prog w mg mb hB n sc a pa) (hb : ES prog w mg mb hB n sc b pb) : Both prog w mg mb hB n sc (.Compare a ops bs p) (.cmp (cCmp op) pa pb) := by
  subst h1; subst h2; exact ⟨cmp_okE ha hb (behind_none (cE_noSet e2)), cmp_okT ha hb (behind_none (cE_noSet e2))⟩
theorem cFs_snd {k : Nat} (S : Snd prog w mg mb hB n k) (es : List Expr) : ∀ {pes : PEs}, cFs (cE k sc) es = some pes → JS prog w mg mb hB n sc es pes := by
  induction es with
  | nil => intro pes h; cases h; exact js_nil
  | cons e r ih =>
    intro pes h
    unfold cFs at h
    cases hf : vFV e with
    | some z =>
      rw [hf] at h
      obtain ⟨pe, e1, h⟩ := Option.bind_eq_some_iff.mp h
      obtain ⟨pr, e2, rfl⟩ := Option.map_eq_some_iff.mp h
      rw [z.2]
      exact js_field (S _ _ pe e1).1 (ih e2)
    | none =>
      rw [hf] at h
      obtain ⟨z, _, h⟩ := Option.bind_eq_some_iff.mp h
      obtain ⟨pr, e2, rfl⟩ := Option.map_eq_some_iff.mp h
      exact js_const2 z.2 (ih e2)

theorem cO_snd {k : Nat} (S : Snd prog w mg mb hB n k) {e : Option Expr} {pe : PE} (h : cO (cE k sc) e = some pe) : OS prog w mg mb hB n sc e pe := by
  cases e with
  | none => cases h; exact os_none
  | some e => exact os_some (S sc e pe h).1

theorem cI_snd {k : Nat} (S : Snd prog w mg mb hB n k) {e : Expr} {pit : PIt} (h : cI sc (cE k sc) e = some pit) : IS prog w mg mb hB n sc e pit := by
  unfold cI at h
  cases hr : rngOf sc e with
  | none =>
    rw [hr] at h
    obtain ⟨pa, e1, rfl⟩ := Option.map_eq_some_iff.mp h
    exact is_val (S sc _ pa e1).1
  | some z =>
    rw [hr] at h
    obtain ⟨ps, e1, rfl⟩ := Option.map_eq_some_iff.mp h
    rw [z.2.1]
    exact is_rng (cEs_snd S e1).1 z.2.2

theorem cConst_snd {c : Const} {k : Nat} {p : Pos} {pe : PE} (h : cConst c = some pe) : Both prog w mg mb hB n sc (.Constant c k p) pe := by
  refine ⟨const_ok h, ?_⟩
  cases c with
  | bool b => cases h; exact true_okT
  | none => cases h; exact noT fun _ _ _ => rfl
  | int i => cases h; exact noT fun _ _ _ => rfl
  | str s => cases h; exact noT fun _ _ _ => rfl
  | _ => exact nn h
theorem or2_snd {a b : Expr} {pa pb : PE} {p : Pos} (ha : Both prog w mg mb hB n sc a pa) (hb : Both prog w mg mb hB n sc b pb) : Both prog w mg mb hB n sc (.BoolOp .Or [a, b] p) (.or2 pa pb) :=
  ⟨or_okE (rest := [_]) ha.1 (fun K hv => hb.1 K hv) fun _ => ⟨_, _, rfl⟩, or_okT ha.2 fun K hv => allOr_one hb.2 K hv⟩
theorem cBool_snd {k : Nat} (S : Snd prog w mg mb hB n k) {op : BoolOp} {es : List Expr} {p : Pos} {pe : PE} (h : cBool (cE k sc) op es = some pe) : Both prog w mg mb hB n sc (.BoolOp op es p) pe := by
  cases op with
  | And =>
    obtain ⟨z, _, h⟩ := Option.bind_eq_some_iff.mp h
    obtain ⟨a, e1, h⟩ := Option.bind_eq_some_iff.mp h
    obtain ⟨b, e2, rfl⟩ := Option.map_eq_some_iff.mp h
    rw [z.2]
    exact ⟨and_okE (S _ _ _ e1).1 (S _ _ _ e2).1, and_okT (S _ _ _ e1).2 (S _ _ _ e2).2⟩
  | Or =>
    unfold cBool at h
    cases h2 : two es with
    | some z =>
      rw [h2] at h
      obtain ⟨a, e1, h⟩ := Option.bind_eq_some_iff.mp h
      obtain ⟨b, e2, rfl⟩ := Option.map_eq_some_iff.mp h
      rw [z.2]
      exact or2_snd (S _ _ _ e1) (S _ _ _ e2)
    | none =>
      rw [h2] at h
      obtain ⟨z, _, h⟩ := Option.bind_eq_some_iff.mp h
      obtain ⟨a, e1, h⟩ := Option.bind_eq_some_iff.mp h
      obtain ⟨b, e2, h⟩ := Option.bind_eq_some_iff.mp h
      obtain ⟨c, e3, rfl⟩ := Option.map_eq_some_iff.mp h
      have o2 := or2_snd (p := p) (S _ _ _ e2) (S _ _ _ e3)
      rw [z.2]
      exact ⟨or_okE (S _ _ _ e1).1 (fun K hv => o2.1 K hv) fun _ => ⟨_, _, rfl⟩, or_okT (S _ _ _ e1).2 fun K hv => o2.2 K hv⟩
theorem cUn_snd {k : Nat} (S : Snd prog w mg mb hB n k) {op : UnaryOp} {a : Expr} {p : Pos} {pe : PE} (h : cUn (cE k sc) op a = some pe) : Both prog w mg mb hB n sc (.UnaryOp op a p) pe := by
  cases op with
  | Not =>
    obtain ⟨a, e1, rfl⟩ := Option.map_eq_some_iff.mp h
    exact ⟨not_okE (S _ _ _ e1).1, not_okT (S _ _ _ e1).2⟩
  | USub =>
    obtain ⟨z, _, rfl⟩ := Option.map_eq_some_iff.mp h
    exact neg2 z.2
  | _ => exact nn h
theorem cCmp_snd {k : Nat} (S : Snd prog w mg mb hB n k) {a : Expr} {ops : List CmpOp} {bs : List Expr} {p : Pos} {pe : PE} (h : cCmpE (cE k sc) a ops bs = some pe) : Both prog w mg mb hB n sc (.Compare a ops bs p) pe := by
  obtain ⟨z, _, h⟩ := Option.bind_eq_some_iff.mp h
  obtain ⟨y, _, h⟩ := Option.bind_eq_some_iff.mp h
  obtain ⟨a, e1, h⟩ := Option.bind_eq_some_iff.mp h
  obtain ⟨b, e2, rfl⟩ := Option.map_eq_some_iff.mp h
  exact cmp3 z.2 y.2 e2 (S _ _ _ e1).1 (S _ _ _ e2).1
theorem cSub_snd {k : Nat} (S : Snd prog w mg mb hB n k) {v i : Expr} {p : Pos} {pe : PE} (h : cSub (cE k sc) v i = some pe) : Both prog w mg mb hB n sc (.Subscript v i p) pe := by
  unfold cSub at h
  cases hs : vSlice i with
  | none =>
    rw [hs] at h
    obtain ⟨a, e1, h⟩ := Option.bind_eq_some_iff.mp h
    obtain ⟨b, e2, rfl⟩ := Option.map_eq_some_iff.mp h
    exact ⟨idx_okE (S _ _ _ e1).1 (S _ _ _ e2).1, noT fun _ _ _ => rfl⟩
  | some z =>
    rw [hs] at h
    obtain ⟨a, e1, h⟩ := Option.bind_eq_some_iff.mp h
    obtain ⟨b, e2, h⟩ := Option.bind_eq_some_iff.mp h
    obtain ⟨c, e3, rfl⟩ := Option.map_eq_some_iff.mp h
    rw [z.2]
    exact ⟨sl_okE (S _ _ _ e1).1 (cO_snd S e2) (cO_snd S e3), noT fun _ _ _ => rfl⟩
theorem cCallN_snd {k : Nat} (S : Snd prog w mg mb hB n k) {f : Str} {args : List Expr} {fp p : Pos} {pe : PE} (h : cCallN (cE k sc) sc f args = some pe) : Both prog w mg mb hB n sc (.Call (.Name f fp) args [] p) pe := by
  unfold cCallN at h
  by_cases hl : lastStar args = true
  · rw [if_pos hl] at h; cases h; exact ⟨bad_okE, noT fun _ _ _ => rfl⟩
  rw [if_neg hl] at h
  clear hl
  cases hI : isI sc f args with
  | some z =>
    rw [hI] at h
    obtain ⟨pe, e1, rfl⟩ := Option.map_eq_some_iff.mp h
    rw [z.2.1]
    exact ⟨isstr_okE (S _ _ _ e1).1 z.2.2, isstr_okT (isstr_okE (S _ _ _ e1).1 z.2.2)⟩
  | none =>
    rw [hI] at h
    obtain ⟨hc, h⟩ := ite_some h
    obtain ⟨hg, hc⟩ := and_t hc
    obtain ⟨hd, hn⟩ := and_t hc
    have hd := not_t hd
    cases hb : cBi f args.length with
    | some b =>
      rw [hb] at h
      obtain ⟨ps, e1, rfl⟩ := Option.map_eq_some_iff.mp h
      exact ⟨bi_okE (cEs_snd S e1).1 hn hg hd hb, noT fun _ _ _ => rfl⟩
    | none =>
      rw [hb] at h
      obtain ⟨g, eg, h⟩ := Option.bind_eq_some_iff.mp h
      obtain ⟨ps, e1, rfl⟩ := Option.map_eq_some_iff.mp h
      exact ⟨call_okE (cEs_snd S e1).1 hn hg hd (lookup_mem eg), call_okT (call_okE (cEs_snd S e1).1 hn hg hd (lookup_mem eg))⟩
theorem sub_snd (hre : Prims prog w mg mb hB) {o e : Expr} {m : Str} {args : List Expr} {ap p : Pos} {pe : PE} (he : ES prog w mg mb hB n sc e pe) (h : ∃ r rp ps b lsc lp, o = .Name r rp ∧ args = [.Lambda ps b lsc lp, e] ∧ subCond sc r m ps lsc ap p e = true) :
    ES prog w mg mb hB n sc (.Call (.Attribute o m ap) args [] p) (.resub pe) := by
  obtain ⟨r, rp, ps, b, lsc, lp, rfl, rfl, hc⟩ := h
  obtain ⟨h1, hc⟩ := and_t hc
  obtain ⟨h2, hc⟩ := and_t hc
  obtain ⟨h3, hc⟩ := and_t hc
  obtain ⟨h4, hc⟩ := and_t hc
  obtain ⟨h5, hc⟩ := and_t hc
  obtain ⟨h6, h7⟩ := and_t hc
  cases beq_iff_eq.mp h1
  cases beq_iff_eq.mp h2
  exact hre.resub _ _ _ _ _ _ _ _ _ _ _ h3 h4 h5 h6 h7 he
theorem cCallA_snd (hre : Prims prog w mg mb hB) {k : Nat} (S : Snd prog w mg mb hB n k) {o : Expr} {m : Str} {args : List Expr} {ap p : Pos} {pe : PE} (h : cCallA (cE k sc) sc o m ap p args = some pe) : Both prog w mg mb hB n sc (.Call (.Attribute o m ap) args [] p) pe := by
  unfold cCallA at h
  by_cases hl : (m == "join" && isGen args) = true
  · rw [if_pos hl] at h; cases h; exact ⟨bad_okE, noT fun _ _ _ => rfl⟩
  rw [if_neg hl] at h
  clear hl
  cases hs : subOf sc o m ap p args with
  | some x =>
    rw [hs] at h
    obtain ⟨pa, e1, rfl⟩ := Option.map_eq_some_iff.mp h
    exact ⟨sub_snd hre (S _ _ _ e1).1 x.2, noT fun _ _ _ => rfl⟩
  | none =>
    rw [hs] at h
    clear hs
    cases hI : isT sc m args with
    | some z =>
      rw [hI] at h
      obtain ⟨hc2, h⟩ := ite_some h
      obtain ⟨pe, e1, rfl⟩ := Option.map_eq_some_iff.mp h
      rw [z.2.1]
      exact ⟨spec_okE hre (S _ _ _ e1).1 (and_t hc2).1 (and_t hc2).2 z.2.2, noT fun _ _ _ => rfl⟩
    | none =>
      rw [hI] at h
      obtain ⟨hc, h⟩ := ite_some h
      obtain ⟨hb, hc⟩ := and_t hc
      obtain ⟨he, hn⟩ := and_t hc
      obtain ⟨me, e0, h⟩ := Option.bind_eq_some_iff.mp h
      obtain ⟨o, e1, h⟩ := Option.bind_eq_some_iff.mp h
      obtain ⟨ps, e2, rfl⟩ := Option.map_eq_some_iff.mp h
      exact ⟨me_okE (m := 0) (S _ _ _ e1).1 (cEs_snd S e2).1 hn e0 hb he, noT fun _ _ _ => rfl⟩
theorem cCall_snd (hre : Prims prog w mg mb hB) {k : Nat} (S : Snd prog w mg mb hB n k) {g : Expr} {args : List Expr} {p : Pos} {pe : PE} (h : cCall (cE k sc) sc g args p = some pe) : Both prog w mg mb hB n sc (.Call g args [] p) pe := by
  unfold cCall at h
  cases hg : vName g with
  | some z =>
    rw [hg] at h
    rw [z.2]
    exact cCallN_snd S h
  | none =>
    rw [hg] at h
    obtain ⟨z, _, h⟩ := Option.bind_eq_some_iff.mp h
    rw [z.2]
    exact cCallA_snd hre S h
theorem cComp_parts {fn : Scope → Expr → Option PE} {elt : Expr} {gs : List Comprehension} {sc2 : Scope} {pe : PE} (h : cComp fn sc elt gs sc2 = some pe) : ∃ x q iter ifs i it el cs, gs = [⟨.Name x q, iter, ifs, 0⟩] ∧ compOk sc sc2 x = true ∧ noSet iter = true ∧
    slotOf sc2 x = some i ∧ cI sc (fn sc) iter = some it ∧ fn sc2 elt = some el ∧ cEs (fn sc2) ifs = some cs ∧ pe = .comp el i it cs (cFr sc sc2) := by
  obtain ⟨z, _, h⟩ := Option.bind_eq_some_iff.mp h
  obtain ⟨hc, h⟩ := ite_some h
  obtain ⟨i, e0, h⟩ := Option.bind_eq_some_iff.mp h
  obtain ⟨it, e1, h⟩ := Option.bind_eq_some_iff.mp h
  obtain ⟨el, e2, h⟩ := Option.bind_eq_some_iff.mp h
  obtain ⟨cs, e3, h⟩ := Option.map_eq_some_iff.mp h
  exact ⟨_, _, _, _, i, it, el, cs, z.2, (and_t hc).1, (and_t hc).2, e0, e1, e2, e3, h.symm⟩
theorem cComp_snd {k : Nat} (S : Snd prog w mg mb hB n k) {elt : Expr} {gs : List Comprehension} {sc2 : Scope} {p : Pos} {pe : PE} (h : cComp (cE k) sc elt gs sc2 = some pe) : Both prog w mg mb hB n sc (.ListComp elt gs sc2 p) pe := by
  obtain ⟨x, q, iter, ifs, i, it, el, cs, rfl, h1, h2, e0, e1, e2, e3, rfl⟩ := cComp_parts h
  exact ⟨comp_okE h1 h2 e0 (cI_snd S e1) (S _ _ _ e2).1 (cEs_snd S e3).2, noT fun _ _ _ => rfl⟩
theorem cLen_snd {es : List Expr} {ps pes : PEs} {pe pe' : PE} (h : (if ps.len ≤ 64 && NoStars es then some pe' else none) = some pe) : ps.len ≤ 64 ∧ NoStars es = true ∧ pe' = pe := by
  obtain ⟨hc, h⟩ := ite_some h
  exact ⟨of_decide_eq_true (and_t hc).1, (and_t hc).2, Option.some.inj h⟩

theorem cE1_snd (hre : Prims prog w mg mb hB) {k : Nat} (S : Snd prog w mg mb hB n k) {e : Expr} {pe : PE} (h : cE1 (cE k) sc e = some pe) : Both prog w mg mb hB n sc e pe := by
  cases e with
  | Constant c q p => exact cConst_snd h
  | Name x p =>
    obtain ⟨hd, h⟩ := ite_no h
    obtain ⟨i, e1, rfl⟩ := Option.map_eq_some_iff.mp h
    have hd := Bool.eq_false_iff.mpr hd
    exact ⟨name_ok hd e1, var_okT (name_ok hd e1)⟩
  | BinOp l op r p =>
    obtain ⟨a, e1, h⟩ := Option.bind_eq_some_iff.mp h
    obtain ⟨b, e2, h⟩ := Option.bind_eq_some_iff.mp h
    obtain ⟨o, e3, rfl⟩ := Option.map_eq_some_iff.mp h
    exact ⟨bin_okE (S _ _ _ e1).1 (S _ _ _ e2).1 e3, noT fun _ _ _ => rfl⟩
  | BoolOp op es p => exact cBool_snd S h
  | UnaryOp op a p => exact cUn_snd S h
  | IfExp c a b p =>
    obtain ⟨c, e0, h⟩ := Option.bind_eq_some_iff.mp h
    obtain ⟨a, e1, h⟩ := Option.bind_eq_some_iff.mp h
    obtain ⟨b, e2, rfl⟩ := Option.map_eq_some_iff.mp h
    exact ⟨ite_okE (S _ _ _ e0).2 (S _ _ _ e1).1 (S _ _ _ e2).1, noT fun _ _ _ => rfl⟩
  | Compare a ops bs p => exact cCmp_snd S h
  | Subscript v i p => exact cSub_snd S h
  | Tuple es q p =>
    obtain ⟨ps, e1, h⟩ := Option.bind_eq_some_iff.mp h
    obtain ⟨h1, h2, rfl⟩ := cLen_snd (pes := ps) h
    exact ⟨tup_okE (cEs_snd S e1).1 h2 h1, noT fun _ _ _ => rfl⟩
  | List es p =>
    obtain ⟨ps, e1, h⟩ := Option.bind_eq_some_iff.mp h
    obtain ⟨h1, h2, rfl⟩ := cLen_snd (pes := ps) h
    exact ⟨lst_okE (cEs_snd S e1).1 h2 h1, noT fun _ _ _ => rfl⟩
  | Call g args ks p =>
    cases ks with
    | cons _ _ => exact nn h
    | nil => exact cCall_snd hre S h
  | ListComp elt gs sc2 p => exact cComp_snd S h
  | JoinedStr es p =>
    cases es with
    | nil => exact nn h
    | cons e1 r =>
      cases r with
      | nil => exact nn h
      | cons e2 r =>
        obtain ⟨ps, e1, rfl⟩ := Option.map_eq_some_iff.mp h
        exact ⟨fstr_okE (cFs_snd S _ e1), noT fun _ _ _ => rfl⟩
  | _ => exact nn h
theorem cE_snd (hre : Prims prog w mg mb hB) (k : Nat) : Snd prog w mg mb hB n k := by
  induction k with
  | zero => intro sc e pe h; cases h
  | succ k ih => intro sc e pe h; exact cE1_snd hre ih h
end
end Mine

namespace Mine
open StrLaws

theorem ns_eq {h : Heap} {a : Addr} {m m' : Str → Option Value} (x : h.Ns a m) (y : h.Ns a m') (z : Str) : m z = m' z := by
  obtain ⟨o, es, ep, e, hd, _, hm⟩ := x
  obtain ⟨o', es', ep', e', hd', _, hm'⟩ := y
  rw [e] at e'; cases e'
  rw [hd] at hd'; cases hd'
  rw [← hm, hm']
theorem ns_ne_cell {h : Heap} {a c : Addr} {m : Str → Option Value} {v : Option Value} (x : h.Ns a m) (y : h.IsCell c v) : a ≠ c := by
  rintro rfl
  obtain ⟨o, es, ep, e, hd, _⟩ := x
  obtain ⟨o', e', hd'⟩ := y
  rw [e] at e'; cases e'; rw [hd] at hd'; cases hd'
theorem ns_ne_list {h : Heap} {a c : Addr} {m : Str → Option Value} {xs : Array Value} (x : h.Ns a m) (y : h.PlainList c xs) : a ≠ c := by
  rintro rfl
  obtain ⟨o, es, ep, e, hd, _⟩ := x
  obtain ⟨n, e'⟩ := y
  rw [e] at e'; cases e'; cases hd
theorem cell_ne_list {h : Heap} {a c : Addr} {v : Option Value} {xs : Array Value} (x : h.IsCell a v) (y : h.PlainList c xs) : a ≠ c := by
  rintro rfl
  obtain ⟨o, e, hd⟩ := x
  obtain ⟨n, e'⟩ := y
  rw [e] at e'; cases e'; cases hd
theorem ns_live {h : Heap} {a : Addr} {m : Str → Option Value} (x : h.Ns a m) : ∃ o, NoTab o ∧ h.get? a = some o := by
  obtain ⟨o, es, ep, e, hd, _⟩ := x
  exact ⟨o, noTab_data (by rw [hd]; nofun), e⟩
theorem cell_live {h : Heap} {a : Addr} {v : Option Value} (x : h.IsCell a v) : ∃ o, NoTab o ∧ h.get? a = some o := by
  obtain ⟨o, e, hd⟩ := x
  exact ⟨o, noTab_data (by rw [hd]; nofun), e⟩
theorem list_live {h : Heap} {a : Addr} {xs : Array Value} (x : h.PlainList a xs) : ∃ o, NoTab o ∧ h.get? a = some o := by
  obtain ⟨m, e⟩ := x
  refine ⟨_, ?_, e⟩
  exact noTab_cls nofun
theorem ns_hlt {h : Heap} {a : Addr} {m : Str → Option Value} (x : h.Ns a m) : a < hsz h := let ⟨_, _, e⟩ := ns_live x; hsz_lt e
theorem cell_hlt {h : Heap} {a : Addr} {v : Option Value} (x : h.IsCell a v) : a < hsz h := let ⟨_, _, e⟩ := cell_live x; hsz_lt e
theorem cell_eq {h : Heap} {a : Addr} {v v' : Option Value} (x : h.IsCell a v) (y : h.IsCell a v') : v = v' := by
  obtain ⟨o, e, hd⟩ := x
  obtain ⟨o', e', hd'⟩ := y
  rw [e] at e'; cases e'; rw [hd] at hd'; cases hd'; rfl

section
variable (prog : Program) (w : World) (mg mb : Str → Option Value) (hB : Heap) (n : Nat) (sc : Scope) (F : PF1) (env : Env) (A : Around) (C0 : RC) (h0 : Heap)
/-- a function's frame under way -/
structure Fra (C : RC) (σ : St) (h : Heap) : Prop where
  cx : Cx prog w mg mb hB n sc F C σ.G σ.O env A h
  b0 : KN hB h0
  k0 : KN h0 h
  x0 : ∀ b, C.X b → C0.X b ∨ hsz h0 ≤ b
  xw : ∀ b, C0.X b → C.X b
  st : C.st = C0.st
  ns : ∃ m, h.Ns env.locals m
  xl : C.X env.locals ∧ hsz h0 ≤ env.locals
  cl : ∀ x c, env.cells.lookup x = some c → C.X c ∧ hsz h0 ≤ c ∧ ∃ v, h.IsCell c v
  ci : ∀ x y c, env.cells.lookup x = some c → env.cells.lookup y = some c → x = y
  ad : ∀ (k : Nat) a, C.ads[k]? = some a → hsz h0 ≤ a ∧ ∃ xs, h.PlainList a xs
  ax : ∀ (k : Nat) a vs, σ.O[k]? = some (some vs) → C.ads[k]? = some a → C.X a
  ai : ∀ (k j : Nat) a, C.ads[k]? = some a → C.ads[j]? = some a → k = j
  al : C.ads.length = σ.O.length
  nf : ∀ x, sc.names.lookup x ≠ some .free
  x00 : ∀ b, C0.X b → b < hsz h0
end

section
variable {prog : Program} {w : World} {mg mb : Str → Option Value} {hB : Heap} {n : Nat} {sc : Scope} {F : PF1} {env : Env} {A : Around} {C0 : RC} {h0 : Heap}

theorem Fra.keep {C : RC} {σ : St} {h h' : Heap} (X : Fra prog w mg mb hB n sc F env A C0 h0 C σ h) (k : KN h h') : Fra prog w mg mb hB n sc F env A C0 h0 C σ h' where
  cx := ⟨X.cx.FS, X.cx.I.keep k, X.cx.R⟩
  b0 := X.b0
  k0 := X.k0.trans k
  x0 := X.x0
  xw := X.xw
  st := X.st
  ns := let ⟨m, e⟩ := X.ns; ⟨m, k.ns e⟩
  xl := X.xl
  cl := fun x c e => let ⟨a, b, v, d⟩ := X.cl x c e; ⟨a, b, v, k.cell d⟩
  ci := X.ci
  ad := fun j a e => let ⟨b, xs, p⟩ := X.ad j a e; ⟨b, xs, k.plain p⟩
  ax := X.ax
  ai := X.ai
  al := X.al
  nf := X.nf
  x00 := X.x00

/-- which heap changes leave the frame's other things alone -/
theorem Fra.write {C : RC} {σ σ' : St} {h h' : Heap} {q : Addr} (X : Fra prog w mg mb hB n sc F env A C0 h0 C σ h) (hs : ∀ b o, b ≠ q → h.get? b = some o → h'.get? b = some o) (hq0 : hsz h0 ≤ q) (hq : C.X q → ∃ o, NoTab o ∧ h'.get? q = some o)
    (ns : ∃ m, h'.Ns env.locals m) (cl : ∀ x c, env.cells.lookup x = some c → ∃ v, h'.IsCell c v) (ad : ∀ (k : Nat) a, C.ads[k]? = some a → ∃ xs, h'.PlainList a xs)
    (slots : ∀ x i v, slotOf sc x = some i → σ'.G[i]? = some (some v) → ∃ u, Sees env h' x u ∧ Rep C h' v u)
    (own : ∀ (k : Nat) vs, σ'.O[k]? = some (some vs) → ∃ a xs, C.ads[k]? = some a ∧ h'.PlainList a xs ∧ RepL C h' vs xs.toList)
    (ax : ∀ (k : Nat) a vs, σ'.O[k]? = some (some vs) → C.ads[k]? = some a → C.X a) (al : C.ads.length = σ'.O.length) : Fra prog w mg mb hB n sc F env A C0 h0 C σ' h' where
  cx := by
    have I := X.cx.I
    have k0 : KN h0 h' := X.k0.above hq0 hs
    refine ⟨X.cx.FS, ⟨I.base, I.kind, I.glb, I.blt, I.cdv, X.b0.trans k0, I.knd, I.cel, slots, ⟨own, fun b hb => ?_⟩⟩, X.cx.R⟩
    obtain ⟨o, nt, e⟩ := I.W.lt b hb
    by_cases hbq : b = q
    · subst hbq; exact hq hb
    · exact ⟨o, nt, hs b o hbq e⟩
  b0 := X.b0
  k0 := X.k0.above hq0 hs
  x0 := X.x0
  xw := X.xw
  st := X.st
  ns := ns
  xl := X.xl
  cl := fun x c e => let ⟨a, b, _⟩ := X.cl x c e; ⟨a, b, cl x c e⟩
  ci := X.ci
  ad := fun j a e => ⟨(X.ad j a e).1, ad j a e⟩
  ax := ax
  ai := X.ai
  al := al
  nf := X.nf
  x00 := X.x00

theorem set_at {α : Type} {l : List (Option α)} {i j : Nat} {v w : α} (hj : j = i) (h : (l.set i (some v))[j]? = some (some w)) : v = w := by
  subst hj
  rw [List.getElem?_set, if_pos rfl] at h
  by_cases hl : j < l.length
  · rw [if_pos hl] at h; cases h; rfl
  · rw [if_neg hl] at h; cases h
theorem put_at {σ : St} {i j : Nat} {v w : PV} (hj : j = i) (h : (σ.put i v).G[j]? = some (some w)) : v = w := set_at hj h
theorem put_ne {σ : St} {i j : Nat} {v w : PV} (hj : j ≠ i) (h : (σ.put i v).G[j]? = some (some w)) : σ.G[j]? = some (some w) := (List.getElem?_set_ne fun q => hj q.symm).symm.trans h
theorem putO_ne {σ : St} {i j : Nat} {v w : List PV} (hj : j ≠ i) (h : (σ.putO i v).O[j]? = some (some w)) : σ.O[j]? = some (some w) := (List.getElem?_set_ne fun q => hj q.symm).symm.trans h
theorem keepsX_of {C : RC} {h h' : Heap} {q : Addr} (hx : C.X q) (hs : Heap.SameBut q h h') : ∀ b o, ¬ C.X b → h.get? b = some o → h'.get? b = some o :=
  fun b o hb e => hs.extBut b o (fun z => hb (z ▸ hx)) e

theorem store_ok2 {C : RC} {σ : St} {s : Shared} {x : Str} {i : Nat} {v : PV} {u : Value} {Q : Unit → Shared → Prop} {E : Value → Shared → Prop} (X : Fra prog w mg mb hB n sc F env A C0 h0 C σ s.heap) (hi : slotOf sc x = some i) (hr : Rep C s.heap v u)
    (hQ : ∀ h' tk, (∀ b o, ¬ C.X b → s.heap.get? b = some o → h'.get? b = some o) → (∀ b o, b ≠ env.locals → (∀ x c, env.cells.lookup x = some c → b ≠ c) → s.heap.get? b = some o → h'.get? b = some o) → Fra prog w mg mb hB n sc F env A C0 h0 C (σ.put i v) h' → Q () { s with heap := h', toks := tk }) :
    wpAny (model prog w) A (storeName env x u) Q E s := by
  obtain ⟨k, hg, hl, hk⟩ := slot_get hi
  obtain ⟨m, hn⟩ := X.ns
  have I := X.cx.I
  have hk' : (env.kindOf x = some .local ∧ k = .local) ∨ (env.kindOf x = some .cell ∧ k = .cell) := by
    rcases I.knd x k hl with q | ⟨rfl, _⟩
    · rcases hk with rfl | rfl | rfl
      · exact .inl ⟨q, rfl⟩
      · exact .inr ⟨q, rfl⟩
      · exact absurd hl (X.nf x)
    · exact absurd hl (X.nf x)
  have lists : ∀ {h' : Heap} {q : Addr}, Heap.SameBut q s.heap h' → C.X q → (∀ (j : Nat) a, C.ads[j]? = some a → a ≠ q) → ∀ (j : Nat) vs, (σ.put i v).O[j]? = some (some vs) → ∃ a xs, C.ads[j]? = some a ∧ h'.PlainList a xs ∧ RepL C h' vs xs.toList := by
    intro h' q hs hq hne j vs e
    obtain ⟨a, xs, h1, h2, h3⟩ := I.W.own j vs e
    exact ⟨a, xs, h1, h2.extBut hs.extBut (hne j a h1), RepL.mono (Sub.xs (keepsX_of hq hs)) _ _ h3⟩
  rcases hk' with ⟨hkn, rfl⟩ | ⟨hkn, rfl⟩
  · refine wpAny_storeName_local hkn hn (fun h' hn' hs => ?_) (by rw [I.kind]; rfl)
    have hne : ∀ (j : Nat) a, C.ads[j]? = some a → a ≠ env.locals := fun j a e => by
      obtain ⟨_, xs, hp⟩ := X.ad j a e
      exact (ns_ne_list hn hp).symm
    have hX := keepsX_of X.xl.1 hs
    refine hQ h' _ hX (fun b o h1 _ e => hs.extBut b o h1 e) (X.write hs.extBut X.xl.2 (fun _ => ns_live hn') ⟨_, hn'⟩ (fun y c e => ?_) (fun j a e => ?_) (fun y j pv e1 e2 => ?_) (lists hs X.xl.1 hne) X.ax X.al)
    · obtain ⟨_, _, vv, hc⟩ := X.cl y c e
      exact ⟨vv, hc.sameBut hs (ns_ne_cell hn hc).symm⟩
    · obtain ⟨_, xs, hp⟩ := X.ad j a e
      exact ⟨xs, hp.extBut hs.extBut (hne j a e)⟩
    · by_cases hj : j = i
      · cases put_at hj e2
        cases slot_inj e1 (hj ▸ hi)
        exact ⟨u, .inl ⟨hkn, _, hn', if_pos rfl⟩, Rep.mono (Sub.xs hX) _ _ hr⟩
      · have e2 := put_ne hj e2
        obtain ⟨u', Se, r⟩ := I.slots y j pv e1 e2
        have hyx : y ≠ x := fun q => by subst q; rw [hi] at e1; cases e1; exact hj rfl
        refine ⟨u', ?_, Rep.mono (Sub.xs hX) _ _ r⟩
        rcases Se with ⟨a, m1, b, c⟩ | ⟨a, c, b, d⟩
        · exact .inl ⟨a, _, hn', by simp only [hyx, if_false]; rw [ns_eq hn b]; exact c⟩
        · exact .inr ⟨a, c, b, d.sameBut hs (ns_ne_cell hn d).symm⟩
  · obtain ⟨c, hc⟩ := I.cel x (.inl hl)
    obtain ⟨hcx, hc0, v0, hcv⟩ := X.cl x c hc
    refine wpAny_storeName_cell I.kind hkn hc hcv fun h' hcv' hs => ?_
    have hne : ∀ (j : Nat) a, C.ads[j]? = some a → a ≠ c := fun j a e => by
      obtain ⟨_, xs, hp⟩ := X.ad j a e
      exact (cell_ne_list hcv hp).symm
    have hX := keepsX_of hcx hs
    have hn' : h'.Ns env.locals m := hn.sameBut hs (ns_ne_cell hn hcv)
    refine hQ h' s.toks hX (fun b o _ h2 e => hs.extBut b o (h2 x c hc) e) (X.write hs.extBut hc0 (fun _ => cell_live hcv') ⟨_, hn'⟩ (fun y c' e => ?_) (fun j a e => ?_) (fun y j pv e1 e2 => ?_) (lists hs hcx hne) X.ax X.al)
    · obtain ⟨_, _, vv, hc'⟩ := X.cl y c' e
      by_cases hcc : c' = c
      · subst hcc; exact ⟨_, hcv'⟩
      · exact ⟨vv, hc'.sameBut hs hcc⟩
    · obtain ⟨_, xs, hp⟩ := X.ad j a e
      exact ⟨xs, hp.extBut hs.extBut (hne j a e)⟩
    · by_cases hj : j = i
      · cases put_at hj e2
        cases slot_inj e1 (hj ▸ hi)
        exact ⟨u, .inr ⟨.inl hkn, c, hc, hcv'⟩, Rep.mono (Sub.xs hX) _ _ hr⟩
      · have e2 := put_ne hj e2
        obtain ⟨u', Se, r⟩ := I.slots y j pv e1 e2
        have hyx : y ≠ x := fun q => by subst q; rw [hi] at e1; cases e1; exact hj rfl
        refine ⟨u', ?_, Rep.mono (Sub.xs hX) _ _ r⟩
        rcases Se with ⟨a, m1, b, c1⟩ | ⟨a, c', b, d⟩
        · exact .inl ⟨a, m1, b.sameBut hs (ns_ne_cell b hcv), c1⟩
        · refine .inr ⟨a, c', b, d.sameBut hs fun q => ?_⟩
          subst q
          exact hyx (X.ci y x c' b hc)

theorem store_ok {C : RC} {σ : St} {s : Shared} {x : Str} {i : Nat} {v : PV} {u : Value} {Q : Unit → Shared → Prop} {E : Value → Shared → Prop} (X : Fra prog w mg mb hB n sc F env A C0 h0 C σ s.heap) (hi : slotOf sc x = some i) (hr : Rep C s.heap v u)
    (hQ : ∀ h' tk, (∀ b o, ¬ C.X b → s.heap.get? b = some o → h'.get? b = some o) → Fra prog w mg mb hB n sc F env A C0 h0 C (σ.put i v) h' → Q () { s with heap := h', toks := tk }) :
    wpAny (model prog w) A (storeName env x u) Q E s := store_ok2 X hi hr fun h' tk h1 _ Y => hQ h' tk h1 Y

/-- writing an own list -/
theorem Fra.putO {C : RC} {σ : St} {h h' : Heap} {k : Nat} {a : Addr} {vs vs' : List PV} {xs : Array Value} (X : Fra prog w mg mb hB n sc F env A C0 h0 C σ h) (ho : σ.O[k]? = some (some vs)) (ha : C.ads[k]? = some a)
    (hs : Heap.SameBut a h h') (hp : h'.PlainList a xs) (hr : RepL C h vs' xs.toList) : Fra prog w mg mb hB n sc F env A C0 h0 C (σ.putO k vs') h' := by
  have hax := X.ax k a vs ho ha
  have hX := keepsX_of hax hs
  obtain ⟨ha0, xs0, hp0⟩ := X.ad k a ha
  obtain ⟨m, hn⟩ := X.ns
  have I := X.cx.I
  refine X.write hs.extBut ha0 (fun _ => list_live hp) ⟨m, hn.sameBut hs (ns_ne_list hn hp0)⟩ (fun y c e => ?_) (fun j b e => ?_) (fun y j pv e1 e2 => ?_) (fun j vs1 e => ?_) (fun j b vs1 e eb => ?_) (X.al.trans List.length_set.symm)
  · obtain ⟨_, _, vv, hc⟩ := X.cl y c e
    exact ⟨vv, hc.sameBut hs (cell_ne_list hc hp0)⟩
  · obtain ⟨_, ys, hb⟩ := X.ad j b e
    by_cases hba : b = a
    · subst hba; exact ⟨_, hp⟩
    · exact ⟨ys, hb.extBut hs.extBut hba⟩
  · obtain ⟨u', Se, r⟩ := I.slots y j pv e1 e2
    refine ⟨u', ?_, Rep.mono (Sub.xs hX) _ _ r⟩
    rcases Se with ⟨a1, m1, b, c⟩ | ⟨a1, c, b, d⟩
    · exact .inl ⟨a1, m1, b.sameBut hs (ns_ne_list b hp0), c⟩
    · exact .inr ⟨a1, c, b, d.sameBut hs (cell_ne_list d hp0)⟩
  · by_cases hkj : j = k
    · cases set_at (v := vs') hkj e
      exact ⟨a, xs, hkj ▸ ha, hp, RepL.mono (Sub.xs hX) _ _ hr⟩
    · obtain ⟨b, ys, h1, h2, h3⟩ := I.W.own j vs1 (putO_ne hkj e)
      exact ⟨b, ys, h1, h2.extBut hs.extBut (fun q => hkj (X.ai j k a (q ▸ h1) ha)), RepL.mono (Sub.xs hX) _ _ h3⟩
  · by_cases hkj : j = k
    · subst hkj
      rw [ha] at eb; cases eb; exact hax
    · exact X.ax j b vs1 (putO_ne hkj e) eb
end
end Mine

namespace Mine
open StrLaws

/-- what a statement keeps -/
structure Big (C C' : RC) (h h' : Heap) : Prop where
  X : ∀ b o, NoTab o → h.get? b = some o → ¬ C.X b → ¬ C'.X b
  st : C'.st = C.st
  ads : ∀ (k : Nat) (a : Addr), C.ads[k]? = some a → C'.ads[k]? = some a
  keep : ∀ b o, NoTab o → ¬ C.X b → h.get? b = some o → h'.get? b = some o
theorem Big.sub {C C' : RC} {h h' : Heap} (x : Big C C' h h') : Sub C C' h h' := ⟨fun b o v e => x.X b o v.noTab e, x.st, x.ads, fun b o v hx e => x.keep b o v.noTab hx e⟩
theorem Big.refl (C : RC) (h : Heap) : Big C C h h := ⟨fun _ _ _ _ x => x, rfl, fun _ _ x => x, fun _ _ _ _ e => e⟩
theorem Big.trans {C C' C'' : RC} {h h' h'' : Heap} (x : Big C C' h h') (y : Big C' C'' h' h'') : Big C C'' h h'' where
  X b o n e hx := y.X b o n (x.keep b o n hx e) (x.X b o n e hx)
  st := y.st.trans x.st
  ads k a e := y.ads k a (x.ads k a e)
  keep b o n hx e := y.keep b o n (x.X b o n e hx) (x.keep b o n hx e)
theorem Big.of_kn {C : RC} {h h' : Heap} (k : KN h h') : Big C C h h' := ⟨fun _ _ _ _ x => x, rfl, fun _ _ x => x, fun b o n _ e => k.nt b o n e⟩
theorem Big.xs {C : RC} {h h' : Heap} (hk : ∀ b o, ¬ C.X b → h.get? b = some o → h'.get? b = some o) : Big C C h h' := ⟨fun _ _ _ _ x => x, rfl, fun _ _ x => x, fun b o _ hx e => hk b o hx e⟩

noncomputable def Same (s s' : Shared) : Prop := ∃ h' tk gn, s' = { s with heap := h', toks := tk, gens := gn } ∧ (AllBare s.gens → AllBare gn)
theorem Same.trans {a b c : Shared} (x : Same a b) (y : Same b c) : Same a c := by
  obtain ⟨h, t, g, rfl, k⟩ := x
  obtain ⟨h', t', g', rfl, k'⟩ := y
  exact ⟨h', t', g', rfl, fun z => k' (k z)⟩
theorem Same.of {a b : Shared} (x : Keeps a b) : Same a b := by
  obtain ⟨h, t, g, rfl, _, k⟩ := x
  exact ⟨h, t, g, rfl, k⟩
theorem Same.heap {s : Shared} {h : Heap} {tk : Tok} : Same s { s with heap := h, toks := tk } := ⟨h, tk, s.gens, rfl, id⟩

noncomputable def FlowOk (C0 : RC) : PF → Flow → Heap → Prop
  | .next, fl, _ => fl = .next
  | .brk, fl, _ => fl = .brk
  | .ret v, fl, h => ∃ u, fl = .ret u ∧ (noOwn v = true → Rep C0 h v u)

section
variable (prog : Program) (w : World) (mg mb : Str → Option Value) (hB : Heap) (n : Nat) (sc : Scope)
inductive Res (F : PF1) (env : Env) (A : Around) (C0 : RC) (h0 : Heap) (C : RC) (s : Shared) (σ' : St) (f : PF) (fl : Flow) (s' : Shared) : Prop
  | mk (C' : RC) (b : Big C C' s.heap s'.heap) (q : Same s s') (X : Fra prog w mg mb hB n sc F env A C0 h0 C' σ' s'.heap) (fk : FlowOk C0 f fl s'.heap) : Res F env A C0 h0 C s σ' f fl s'
noncomputable def XS (st : Stmt) (p : PS) : Prop :=
  ∀ ⦃N : Nat⦄ ⦃F : PF1⦄ ⦃env : Env⦄ ⦃A : Around⦄ ⦃C0 : RC⦄ ⦃h0 : Heap⦄ ⦃C : RC⦄ ⦃σ : St⦄ ⦃s : Shared⦄ ⦃σ' : St⦄ ⦃f : PF⦄, Fra prog w mg mb hB n sc F env A C0 h0 C σ s.heap → ex N F p σ = some (σ', f) →
    wpAny (model prog w) A (exec st env) (Res prog w mg mb hB n sc F env A C0 h0 C s σ' f) noE s
noncomputable def XSS (sts : List Stmt) (ps : PSs) : Prop :=
  ∀ ⦃N : Nat⦄ ⦃F : PF1⦄ ⦃env : Env⦄ ⦃A : Around⦄ ⦃C0 : RC⦄ ⦃h0 : Heap⦄ ⦃C : RC⦄ ⦃σ : St⦄ ⦃s : Shared⦄ ⦃σ' : St⦄ ⦃f : PF⦄, Fra prog w mg mb hB n sc F env A C0 h0 C σ s.heap → exs N F ps σ = some (σ', f) →
    wpAny (model prog w) A (execs sts env) (Res prog w mg mb hB n sc F env A C0 h0 C s σ' f) noE s
end

section
variable {prog : Program} {w : World} {mg mb : Str → Option Value} {hB : Heap} {n : Nat} {sc : Scope} {F : PF1} {env : Env} {A : Around} {C0 : RC} {h0 : Heap}

theorem Res.trans {C C1 : RC} {s s1 : Shared} {σ' : St} {f : PF} {fl : Flow} {s' : Shared} (x : Big C C1 s.heap s1.heap) (y : Same s s1) (r : Res prog w mg mb hB n sc F env A C0 h0 C1 s1 σ' f fl s') : Res prog w mg mb hB n sc F env A C0 h0 C s σ' f fl s' :=
  let ⟨C', a, b, c, d⟩ := r; ⟨C', x.trans a, y.trans b, c, d⟩
theorem Res.keep {C : RC} {s s1 : Shared} {σ' : St} {f : PF} {fl : Flow} {s' : Shared} (k : Keeps s s1) (r : Res prog w mg mb hB n sc F env A C0 h0 C s1 σ' f fl s') : Res prog w mg mb hB n sc F env A C0 h0 C s σ' f fl s' :=
  Res.trans (.of_kn (kheap k)) (.of k) r
theorem Res.stay {C : RC} {σ : St} {s s' : Shared} (X : Fra prog w mg mb hB n sc F env A C0 h0 C σ s.heap) (k : Keeps s s') : Res prog w mg mb hB n sc F env A C0 h0 C s σ .next .next s' :=
  ⟨C, .of_kn (kheap k), .of k, X.keep (kheap k), rfl⟩

theorem xss_nil : XSS prog w mg mb hB n sc [] .nil := by
  intro N F env A C0 h0 C σ s σ' f X h
  cases h
  exact wpAny_execs_nil (.stay X (krefl s))
theorem xss_cons {st : Stmt} {sts : List Stmt} {p : PS} {ps : PSs} (h1 : XS prog w mg mb hB n sc st p) (h2 : XSS prog w mg mb hB n sc sts ps) : XSS prog w mg mb hB n sc (st :: sts) (.cons p ps) := by
  intro N F env A C0 h0 C σ s σ' f X h
  refine wpAny_execs_cons ?_
  obtain ⟨q, e1, h⟩ := Option.bind_eq_some_iff.mp h
  obtain ⟨σ1, q⟩ := q
  refine seqE (h1 X e1) fun fl s1 r => ?_
  obtain ⟨C', a, b, c, d⟩ := r
  cases q with
  | next =>
    cases d
    exact seqE (h2 c h) fun fl s2 r => r.trans a b
  | brk => cases d; cases h; exact ⟨C', a, b, c, rfl⟩
  | ret v => obtain ⟨u, rfl, d⟩ := d; cases h; exact ⟨C', a, b, c, u, rfl, d⟩

theorem brk_ok {pos : Pos} : XS prog w mg mb hB n sc (.Break pos) .brk := by
  intro N F env A C0 h0 C σ s σ' f X h
  cases h
  exact wpAny_Break ⟨C, .refl _ _, ⟨s.heap, s.toks, s.gens, rfl, id⟩, X, rfl⟩
theorem asrt_ok {e : Expr} {pe : PE} {msg : Option Expr} {pos : Pos} (he : TS prog w mg mb hB n sc e pe) : XS prog w mg mb hB n sc (.Assert e msg pos) (.asrt pe) := by
  intro N F env A C0 h0 C σ s σ' f X h
  obtain ⟨t, e1, h⟩ := Option.bind_eq_some_iff.mp h
  obtain ⟨ht, h⟩ := ite_some h
  subst ht
  cases h
  exact wpAny_Assert_holds (seqE (he X.cx e1) fun b s1 q => ⟨q.2, .stay X q.1⟩)
theorem ite_ok {e : Expr} {pe : PE} {a b : List Stmt} {pa pb : PSs} {pos : Pos} (he : TS prog w mg mb hB n sc e pe) (ha : XSS prog w mg mb hB n sc a pa) (hb : XSS prog w mg mb hB n sc b pb) : XS prog w mg mb hB n sc (.If e a b pos) (.ite pe pa pb) := by
  intro N F env A C0 h0 C σ s σ' f X h
  obtain ⟨t, e1, h⟩ := Option.bind_eq_some_iff.mp h
  refine wpAny_If (seqE (he X.cx e1) fun b s1 ⟨k1, r1⟩ => ?_)
  subst r1
  cases b
  · simp only [Bool.false_eq_true, if_false] at h ⊢
    exact seqE (hb (X.keep (kheap k1)) h) fun fl s2 r => r.keep k1
  · simp only [if_true] at h ⊢
    exact seqE (ha (X.keep (kheap k1)) h) fun fl s2 r => r.keep k1

theorem wh_ok {e : Expr} {pe : PE} {a : List Stmt} {pa : PSs} {pos : Pos} (he : TS prog w mg mb hB n sc e pe) (ha : XSS prog w mg mb hB n sc a pa) : XS prog w mg mb hB n sc (.While e a [] pos) (.wh pe pa) := by
  intro N F env A C0 h0 C σ s σ' f X h
  refine wpAny_While (codeAny_whileLoop (fun k s1 => ∃ C1 σ1, Big C C1 s.heap s1.heap ∧ Same s s1 ∧ Fra prog w mg mb hB n sc F env A C0 h0 C1 σ1 s1.heap ∧
    whIt (fun σ => pt F σ.O σ.G pe) (fun σ => exs N F pa σ) k σ1 = some (σ', f)) ?_ N ⟨C, σ, .refl _ _, ⟨s.heap, s.toks, s.gens, rfl, id⟩, X, h⟩)
  intro k s1 hI
  obtain ⟨C1, σ1, b1, q1, X1, hw⟩ := hI
  cases k with
  | zero => exact nn hw
  | succ k =>
    obtain ⟨t, ht, hw⟩ := Option.bind_eq_some_iff.mp hw
    refine seqE (he X1.cx ht) fun b s2 q => ?_
    obtain ⟨k2, rfl⟩ := q
    cases b with
    | false =>
      cases hw
      exact wpAny_execs_nil ⟨C1, b1.trans (.of_kn (kheap k2)), q1.trans (.of k2), X1.keep (kheap k2), rfl⟩
    | true =>
      obtain ⟨r, hb, hw⟩ := Option.bind_eq_some_iff.mp hw
      obtain ⟨σ2, q⟩ := r
      refine seqE (ha (X1.keep (kheap k2)) hb) fun fl s3 r => ?_
      obtain ⟨C3, b3, q3, X3, fk⟩ := r.keep k2
      cases q with
      | next => cases fk; exact ⟨k, Nat.lt_succ_self k, C3, σ2, b1.trans b3, q1.trans q3, X3, hw⟩
      | brk => cases fk; cases hw; exact ⟨C3, b1.trans b3, q1.trans q3, X3, rfl⟩
      | ret v => obtain ⟨u, rfl, fk2⟩ := fk; cases hw; exact ⟨C3, b1.trans b3, q1.trans q3, X3, u, rfl, fk2⟩

theorem it_sub {C : RC} {h h' : Heap} {I : Addr} {o : Obj} (hk : ∀ b o, b ≠ I → h.get? b = some o → h'.get? b = some o) (ho : ItObj o) (hg : h.get? I = some o) : Sub C C h h' :=
  ⟨fun _ _ _ _ x => x, rfl, fun _ _ x => x, fun b o' v _ e => hk b o' (fun q => by subst q; rw [hg] at e; cases e; exact ho.noVal v) e⟩
/-- the iterator's own step -/
theorem Fra.next {C : RC} {σ : St} {h h' : Heap} {I : Addr} {o : Obj} (X : Fra prog w mg mb hB n sc F env A C0 h0 C σ h) (hk : ∀ b o, b ≠ I → h.get? b = some o → h'.get? b = some o) (hI : hsz h0 ≤ I) (ho : ItObj o) (hg : h.get? I = some o)
    (hl : ¬ C.X I) : Fra prog w mg mb hB n sc F env A C0 h0 C σ h' := by
  obtain ⟨fs, hf⟩ := ho.1
  have nns : ∀ {a m}, h.Ns a m → a ≠ I := by
    rintro a m ⟨o', es, ep, e, hd, _⟩ rfl
    rw [hg] at e; cases e; rw [hf] at hd; cases hd
  have ncell : ∀ {a v}, h.IsCell a v → a ≠ I := by
    rintro a v ⟨o', e, hd⟩ rfl
    rw [hg] at e; cases e; rw [hf] at hd; cases hd
  have nlist : ∀ {a xs}, h.PlainList a xs → a ≠ I := by
    rintro a xs ⟨m, e⟩ rfl
    rw [hg] at e; cases e; cases hf
  have S : Sub C C h h' := ⟨fun _ _ _ _ x => x, rfl, fun _ _ x => x, fun b o' v _ e => hk b o' (fun q => by subst q; rw [hg] at e; cases e; exact ho.noVal v) e⟩
  refine X.write hk hI (fun q => absurd q hl) ?_ ?_ ?_ ?_ ?_ X.ax X.al
  · obtain ⟨m, hn⟩ := X.ns
    exact ⟨m, hn.at' fun o e => hk _ o (nns hn) e⟩
  · intro x c e
    obtain ⟨_, _, v, hc⟩ := X.cl x c e
    obtain ⟨oc, e1, e2⟩ := id hc
    exact ⟨v, oc, hk _ _ (ncell hc) e1, e2⟩
  · intro j a e
    obtain ⟨_, xs, hp⟩ := X.ad j a e
    exact ⟨xs, hp.at fun o e => hk _ o (nlist hp) e⟩
  · intro x i v e1 e2
    obtain ⟨u, Se, r⟩ := X.cx.I.slots x i v e1 e2
    refine ⟨u, ?_, Rep.mono S _ _ r⟩
    rcases Se with ⟨a, m, b, c⟩ | ⟨a, c, b, d⟩
    · exact .inl ⟨a, m, b.at' fun o e => hk _ o (nns b) e, c⟩
    · obtain ⟨oc, e1, e2⟩ := id d
      exact .inr ⟨a, c, b, oc, hk _ _ (ncell d) e1, e2⟩
  · intro j vs e
    obtain ⟨a, xs, h1, h2, h3⟩ := X.cx.I.W.own j vs e
    exact ⟨a, xs, h1, h2.at fun o e => hk _ o (nlist h2) e, RepL.mono S _ _ h3⟩

theorem fr_ok {x : Str} {i : Nat} {it : Expr} {pit : PIt} {a : List Stmt} {pa : PSs} {px pos : Pos} (hns : noSet it = true) (hi : slotOf sc x = some i) (hit : IS prog w mg mb hB n sc it pit) (ha : XSS prog w mg mb hB n sc a pa) :
    XS prog w mg mb hB n sc (.For (.Name x px) it a [] pos) (.fr i pit pa) := by
  intro N F env A C0 h0 C σ s σ' f X h
  obtain ⟨its, e1, h⟩ := Option.bind_eq_some_iff.mp h
  obtain ⟨_, hw⟩ := hit [] X.cx (.inr ⟨rfl, e1⟩)
  refine wpAny_For (seqE hw fun xv s1 ⟨k1, hpi⟩ => seqE (hpi A) fun itv s2 hitp => ?_) (fold_none hns)
  obtain ⟨tk₂, hs₂, o, fp, P, St', rfl, hh₂, hnt, hW, hst, hlive, hfp, hP⟩ := hitp
  have W := hW A X.cx.R.handled
  have X1 := X.keep (kheap k1)
  have k2 : KN s1.heap s2.heap := by rw [hh₂]; exact .push _ _
  have hk2 : Keeps s1 s2 := by rw [hs₂]; exact ⟨_, _, s1.gens, rfl, k2, id⟩
  have hIX : ¬ C.X s1.heap.objs.size := fun q => by
    obtain ⟨o, _, e⟩ := X1.cx.I.W.lt _ q
    exact Nat.lt_irrefl _ (Heap.lt_size e)
  have hI0 : hsz h0 ≤ s1.heap.objs.size := by
    obtain ⟨m, hn⟩ := X1.ns
    exact Nat.le_trans X1.xl.2 (Nat.le_of_lt hn.lt)
  have hpt : ∃ ps, s1.heap.get? PT = some { cls := .none, data := .fields ps } := by
    obtain ⟨ps, e, _⟩ := X1.cx.I.base.pt
    exact KN.tabLive X1.cx.I.top e
  have hfpT : ∀ b ∈ fp, b ≠ PT := fun b hb q => by
    subst q
    obtain ⟨ps, hpt⟩ := hpt
    rcases hfp _ hb with q | ⟨⟨o, nt, e⟩, _⟩
    · have := Heap.lt_size hpt; rw [q] at this; exact Nat.lt_irrefl _ this
    · rw [hpt] at e; cases e; exact nt _ rfl
  -- the loop
  refine codeAny_forLoop (fun k s' => ∃ C1 σ1, ∃ pre rest : List PV, Big C C1 s1.heap s'.heap ∧ Same s1 s' ∧ Fra prog w mg mb hB n sc F env A C0 h0 C1 σ1 s'.heap ∧ St' pre.length s'.heap ∧ ¬ C1.X s1.heap.objs.size ∧ its = pre ++ rest ∧
      frIt i (fun σ => exs N F pa σ) rest σ1 = some (σ', f) ∧ k = rest.length) ?_ its.length
    ⟨C, σ, [], its, .of_kn k2, .of hk2, X1.keep k2, hst, hIX, rfl, h, rfl⟩
  rintro k s' ⟨C1, σ1, pre, rest, b1, q1, Y, hst', hX1, hits, hfr, rfl⟩
  obtain ⟨oI, hoI, egI⟩ := hlive _ _ hst'
  cases rest with
  | nil =>
    cases hfr
    rw [List.append_nil] at hits
    subst hits
    refine W.done _ _ _ hst' fun h₂ tk₂ hk₂ => ?_
    have hk₂' : ∀ b o, b ≠ s1.heap.objs.size → s'.heap.get? b = some o → h₂.get? b = some o := fun b o hb e => hk₂ b o (by simpa using hb) e
    have Y2 := Y.next hk₂' hI0 hoI egI hX1
    refine wpAny_execs_nil ⟨C1, ?_, (Same.of k1).trans (q1.trans .heap), Y2, rfl⟩
    refine (Big.of_kn (kheap k1)).trans ?_
    exact ⟨b1.X, b1.st, b1.ads, fun b o nt hx e => hk₂' b o (Nat.ne_of_lt (Heap.lt_size e)) (b1.keep b o nt hx e)⟩
  | cons v r =>
    have hlt : pre.length < its.length := by rw [hits]; simp
    refine W.item pre.length _ _ _ hlt hst' fun u h₂ tk₂ hPv hst₂ hk₂ => ?_
    have hk₂' : ∀ b o, b ≠ s1.heap.objs.size → s'.heap.get? b = some o → h₂.get? b = some o := fun b o hb e => hk₂ b o (by simpa using hb) e
    have Y2 := Y.next hk₂' hI0 hoI egI hX1
    obtain ⟨pv, e1, rv⟩ := hP pre.length u hPv
    rw [hits] at e1
    simp only [List.getElem?_append_right (Nat.le_refl _), Nat.sub_self, List.getElem?_cons_zero, Option.some.injEq] at e1
    subst e1
    have rv2 : Rep C1 h₂ v u := Rep.mono (it_sub hk₂' hoI egI) _ _ (Rep.mono b1.sub _ _ rv)
    have B2 : Big C C1 s1.heap h₂ := ⟨b1.X, b1.st, b1.ads, fun b o nt hx e => hk₂' b o (Nat.ne_of_lt (Heap.lt_size e)) (b1.keep b o nt hx e)⟩
    refine wpAny_assign_Name (store_ok (s := { s' with heap := h₂, toks := tk₂ }) Y2 hi rv2 fun h₃ tk₃ hk₃ Y3 => ?_)
    have B3 : Big C C1 s1.heap h₃ := B2.trans (.xs hk₃)
    have st3 : St' (pre.length + 1) h₃ := W.frame _ _ _ hst₂ fun b hb o e => by
      rcases hfp b hb with q | ⟨⟨o', nt, e'⟩, hx⟩
      · exact hk₃ b o (by rw [q]; exact hX1) e
      · exact hk₃ b o (b1.X b o' nt e' (hx rfl)) e
    have framed : ∀ {C2 : RC} {g : Heap}, Big C1 C2 h₃ g → St' (pre.length + 1) g := fun {C2 g} B => W.frame _ _ _ st3 fun b hb o e => by
      have nt : NoTab o := by
        rcases hfp b hb with q | ⟨⟨o', nt, e'⟩, hx⟩
        · obtain ⟨o2, ho2, e2⟩ := hlive _ _ st3
          rw [← q, e] at e2; cases e2; exact ho2.noTab
        · have := B3.keep b o' nt (hx rfl) e'
          rw [e] at this; cases this; exact nt
      rcases hfp b hb with q | ⟨⟨o', nt', e'⟩, hx⟩
      · exact B.keep b o nt (by rw [q]; exact hX1) e
      · exact B.keep b o nt (b1.X b o' nt' e' (hx rfl)) e
    have same3 : Same s1 { s' with heap := h₃, toks := tk₃ } := q1.trans .heap
    obtain ⟨q, hb, hfr⟩ := Option.bind_eq_some_iff.mp hfr
    obtain ⟨σ2, q⟩ := q
    refine seqE (ha Y3 hb) fun fl s3 rr => ?_
    obtain ⟨C3, b3, q3, X3, fk⟩ := rr
    cases q with
    | next =>
      cases fk
      refine ⟨r.length, Nat.lt_succ_self _, C3, σ2, pre ++ [v], r, B3.trans b3, same3.trans q3, X3, ?_, ?_, by rw [hits, List.append_assoc]; rfl, hfr, rfl⟩
      · rw [List.length_append]; exact framed b3
      · obtain ⟨o2, ho2, e2⟩ := hlive _ _ st3
        exact b3.X _ o2 ho2.noTab e2 hX1
    | brk => cases fk; cases hfr; exact ⟨C3, (Big.of_kn (kheap k1)).trans (B3.trans b3), (Same.of k1).trans (same3.trans q3), X3, rfl⟩
    | ret v => obtain ⟨u, rfl, fk2⟩ := fk; cases hfr; exact ⟨C3, (Big.of_kn (kheap k1)).trans (B3.trans b3), (Same.of k1).trans (same3.trans q3), X3, u, rfl, fk2⟩
end
end Mine

namespace Mine
open StrLaws
section
variable {prog : Program} {w : World} {mg mb : Str → Option Value} {hB : Heap} {n : Nat} {sc : Scope} {F : PF1} {env : Env} {A : Around} {C0 : RC} {h0 : Heap}

/-! return: own lists frozen -/
noncomputable def RC.ice (C : RC) : RC := { X := fun b => C.X b ∧ ∀ k : Nat, C.ads[k]? ≠ some b, st := C.st, ads := [] }
theorem ice_rep {C : RC} {h : Heap} {v : PV} {u : Value} (hn : noOwn v = true) (r : Rep C h v u) : Rep C.ice h v u := by
  have r1 : Rep { C with X := C.ice.X } h v u := Rep.wide (C := { C with X := C.ice.X }) (C' := C) (fun _ x => x.1) rfl rfl _ _ r
  exact Rep.free (C := { C with X := C.ice.X }) (C' := C.ice) rfl rfl _ _ hn r1
theorem ice_repL {C : RC} {h : Heap} {v : List PV} {u : List Value} (hn : noOwnL v = true) (r : RepL C h v u) : RepL C.ice h v u := by
  have r1 : RepL { C with X := C.ice.X } h v u := RepL.wide (C := { C with X := C.ice.X }) (C' := C) (fun _ x => x.1) rfl rfl _ _ r
  exact RepL.free (C := { C with X := C.ice.X }) (C' := C.ice) rfl rfl _ _ hn r1

theorem Fra.ice {C : RC} {σ : St} {h : Heap} (X : Fra prog w mg mb hB n sc F env A C0 h0 C σ h) : Cx prog w mg mb hB n sc F C.ice (σ.G.map fun v => v.bind (frzN σ.O)) [] env A h := by
  have I := X.cx.I
  refine ⟨X.cx.FS, ⟨I.base, I.kind, I.glb, I.blt, I.cdv, I.top, I.knd, I.cel, fun x i v e1 e2 => ?_, ⟨fun k vs e => by simp at e, fun b hb => I.W.lt b hb.1⟩⟩, X.cx.R⟩
  rw [List.getElem?_map] at e2
  obtain ⟨q, e3, e4⟩ := Option.map_eq_some_iff.mp e2
  obtain ⟨v0, rfl, e5⟩ := Option.bind_eq_some_iff.mp e4
  obtain ⟨u, Se, r⟩ := I.slots x i v0 e1 e3
  refine ⟨u, Se, ?_⟩
  obtain ⟨hn, e5⟩ := ite_some e5
  cases e5
  unfold frzV at hn ⊢
  cases ho : (asOwn v0).bind fun k => (σ.O[k]?).bind id with
  | none => rw [ho] at hn; exact ice_rep hn r
  | some vs =>
    rw [ho] at hn
    obtain ⟨k, ek, e6⟩ := Option.bind_eq_some_iff.mp ho
    obtain ⟨q, e7, e8⟩ := Option.bind_eq_some_iff.mp e6
    cases e8
    cases asOwn_eq ek
    obtain ⟨a, ha, rfl⟩ := r
    obtain ⟨a', xs, h1, h2, h3⟩ := I.W.own k vs e7
    rw [ha] at h1; cases h1
    exact rep_list (xs := xs.toList) (fun q => q.2 k ha) (by rw [Array.toArray_toList]; exact h2) (ice_repL hn h3)

theorem ret_ok {e : Expr} {pe : PE} {pos : Pos} (he : ES prog w mg mb hB n sc e pe) : XS prog w mg mb hB n sc (.Return (some e) pos) (.ret pe) := by
  intro N F env A C0 h0 C σ s σ' f X h
  obtain ⟨v, e1, h⟩ := Option.map_eq_some_iff.mp h
  cases h
  refine wpAny_Return_some (seqE (he X.ice e1) fun u s1 ⟨k1, r1⟩ => ?_)
  refine ⟨C, .of_kn (kheap k1), .of k1, X.keep (kheap k1), u, rfl, fun hn => ?_⟩
  have r2 : Rep { C.ice with X := C0.X } s1.heap v u := Rep.wide (C := { C.ice with X := C0.X }) (C' := C.ice) (fun b hb => ⟨X.xw b hb, fun k q => Nat.lt_irrefl _ (Nat.lt_of_lt_of_le (X.x00 b hb) (X.ad k b q).1)⟩) rfl rfl _ _ r1
  exact Rep.free (C := { C.ice with X := C0.X }) (C' := C0) rfl X.st.symm _ _ hn r2

/-! plain assignment -/
theorem swaps_no {e : Expr} {t : Option Expr} {l : Nat} (h : noComp e = true) : swapsWith e t l env = pure false := by
  cases e <;> first | rfl | cases h

theorem asg_ok {x : Str} {i : Nat} {e : Expr} {pe : PE} {px pos : Pos} (hc : noComp e = true) (hi : slotOf sc x = some i) (he : ES prog w mg mb hB n sc e pe) : XS prog w mg mb hB n sc (.Assign [.Name x px] e pos) (.asg i pe) := by
  intro N F env A C0 h0 C σ s σ' f X h
  obtain ⟨v, e1, h⟩ := Option.map_eq_some_iff.mp h
  cases h
  refine wpAny_Assign_Name (seqE (he X.cx e1) fun u s1 ⟨k1, r1⟩ => ?_) (swaps_no hc)
  refine store_ok (X.keep (kheap k1)) hi r1 fun h' tk hk Y => ?_
  exact ⟨C, (Big.of_kn (kheap k1)).trans (.xs hk), (Same.of k1).trans .heap, Y, rfl⟩

theorem Fra.plus {C : RC} {σ : St} {h h' : Heap} {p : Addr → Prop} (X : Fra prog w mg mb hB n sc F env A C0 h0 C σ h) (k : KN h h') (hp : ∀ b, p b → hsz h ≤ b ∧ ∃ o, NoTab o ∧ h'.get? b = some o) :
    Fra prog w mg mb hB n sc F env A C0 h0 (C.plus p) σ h' := by
  have S : Sub C (C.plus p) h h' := .plus k fun b q => (hp b q).1
  have I := X.cx.I
  have X' := X.keep k
  have hszz : hsz h0 ≤ hsz h := by
    obtain ⟨m, hn⟩ := X.ns
    exact Nat.le_trans X.xl.2 (Nat.le_of_lt (ns_hlt hn))
  refine ⟨⟨X.cx.FS, ⟨I.base, I.kind, I.glb, I.blt, I.cdv, I.top.trans k, I.knd, I.cel, fun x i v e1 e2 => ?_, ⟨fun j vs e => ?_, fun b hb => ?_⟩⟩, X.cx.R⟩, X.b0, X.k0.trans k, fun b hb => ?_, fun b hb => .inl (X.xw b hb), X.st, X'.ns, ⟨.inl X.xl.1, X.xl.2⟩, fun x c e => ?_, X.ci, X'.ad, fun j a vs e1 e2 => .inl (X.ax j a vs e1 e2), X.ai, X.al, X.nf, X.x00⟩
  · obtain ⟨u, Se, r⟩ := I.slots x i v e1 e2
    exact ⟨u, Se.keep k, Rep.mono S _ _ r⟩
  · obtain ⟨a, xs, h1, h2, h3⟩ := I.W.own j vs e
    exact ⟨a, xs, h1, k.plain h2, RepL.mono S _ _ h3⟩
  · rcases hb with hb | hb
    · obtain ⟨o, nt, e⟩ := I.W.lt b hb
      exact ⟨o, nt, k.nt _ _ nt e⟩
    · exact (hp b hb).2
  · rcases hb with hb | hb
    · exact X.x0 b hb
    · exact .inr (Nat.le_trans hszz (hp b hb).1)
  · obtain ⟨a, b, c⟩ := X'.cl x c e
    exact ⟨.inl a, b, c⟩

/-- a comprehension's names go -/
theorem Fra.lose {C : RC} {σ : St} {h h' : Heap} {L : Addr} {m : Str → Option Value} (Y : Fra prog w mg mb hB n sc F env A C0 h0 (C.plus (· = L)) σ h) (hk : ∀ b o, b ≠ L → h.get? b = some o → h'.get? b = some o) (hn : h.Ns L m) (hL : env.locals ≠ L) (hL0 : hsz h0 ≤ L)
    (hx : ¬ C.X L) (xw : ∀ b, C0.X b → C.X b) (xl : C.X env.locals) (xc : ∀ x c, env.cells.lookup x = some c → C.X c) (ax : ∀ (k : Nat) a vs, σ.O[k]? = some (some vs) → C.ads[k]? = some a → C.X a) :
    Fra prog w mg mb hB n sc F env A C0 h0 C σ h' := by
  have I := Y.cx.I
  have S : Sub (C.plus (· = L)) (C.plus (· = L)) h h' := .xs fun b o hb e => hk b o (fun q => hb (xplus (p := (· = L)) q)) e
  have k0 : KN h0 h' := Y.k0.above hL0 hk
  have ncell : ∀ {a v}, h.IsCell a v → a ≠ L := fun hc => (ns_ne_cell hn hc).symm
  have nlist : ∀ {a xs}, h.PlainList a xs → a ≠ L := fun hc => (ns_ne_list hn hc).symm
  have cellk : ∀ {a v}, h.IsCell a v → h'.IsCell a v := fun hc => by
    obtain ⟨o, e1, e2⟩ := id hc
    exact ⟨o, hk _ _ (ncell hc) e1, e2⟩
  refine ⟨⟨Y.cx.FS, ⟨I.base, I.kind, I.glb, I.blt, I.cdv, Y.b0.trans k0, I.knd, I.cel, fun x i v e1 e2 => ?_, ⟨fun j vs e => ?_, fun b hb => ?_⟩⟩, Y.cx.R⟩, Y.b0, k0, fun b hb => Y.x0 b (.inl hb), xw, Y.st, ?_, ⟨xl, Y.xl.2⟩, fun x c e => ?_, Y.ci, fun j a e => ?_, ax, Y.ai, Y.al, Y.nf, Y.x00⟩
  · obtain ⟨u, Se, r⟩ := I.slots x i v e1 e2
    refine ⟨u, ?_, RC.plus_wide (p := (· = L)) (Rep.mono S _ _ r)⟩
    rcases Se with ⟨a, m, b, c⟩ | ⟨a, c, b, d⟩
    · exact .inl ⟨a, m, b.at' fun o e => hk _ o hL e, c⟩
    · exact .inr ⟨a, c, b, cellk d⟩
  · obtain ⟨a, xs, h1, h2, h3⟩ := I.W.own j vs e
    exact ⟨a, xs, h1, h2.at fun o e => hk _ o (nlist h2) e, RC.plus_wideL (p := (· = L)) (RepL.mono S _ _ h3)⟩
  · obtain ⟨o, nt, e⟩ := I.W.lt b (.inl hb)
    exact ⟨o, nt, hk b o (fun q => hx (q ▸ hb)) e⟩
  · obtain ⟨m, hn⟩ := Y.ns
    exact ⟨m, hn.at' fun o e => hk _ o hL e⟩
  · obtain ⟨_, b, v, hc⟩ := Y.cl x c e
    exact ⟨xc x c e, b, v, cellk hc⟩
  · obtain ⟨b, xs, hp⟩ := Y.ad j a e
    exact ⟨b, xs, hp.at fun o e => hk _ o (nlist hp) e⟩

theorem asgc_ok {elt iter : Expr} {x y : Str} {px py : Pos} {ifs : List Expr} {sc2 : Scope} {pos spos : Pos} {i j : Nat} {pe : PE} {pit : PIt} {cs : PEs}
    (hok : compOk sc sc2 x = true) (hns : noSet iter = true) (hi : slotOf sc2 x = some i) (hit : IS prog w mg mb hB n sc iter pit) (he : ES prog w mg mb hB n sc2 elt pe) (hc : CS prog w mg mb hB n sc2 ifs cs) (hj : slotOf sc y = some j) :
    XS prog w mg mb hB n sc (.Assign [.Name y py] (.ListComp elt [⟨.Name x px, iter, ifs, 0⟩] sc2 pos) spos) (.asg j (.comp pe i pit cs (cFr sc sc2))) := by
  intro N F env A C0 h0 C σ s σ' f X h
  obtain ⟨v, e1, h⟩ := Option.map_eq_some_iff.mp h
  cases h
  have hsw : ∃ b, swapsWith (.ListComp elt [⟨.Name x px, iter, ifs, 0⟩] sc2 pos) (some (.Name y py)) spos.line env = pure b := ⟨_, rfl⟩
  obtain ⟨b, hsw⟩ := hsw
  cases b with
  | false =>
    refine wpAny_Assign_Name (seqE (comp_okE hok hns hi hit he hc X.cx e1) fun u s1 ⟨k1, r1⟩ => ?_) hsw
    refine store_ok (X.keep (kheap k1)) hj r1 fun h' tk hk Y => ?_
    exact ⟨C, (Big.of_kn (kheap k1)).trans (.xs hk), (Same.of k1).trans .heap, Y, rfl⟩
  | true =>
    have ec := e1
    obtain ⟨its, e0, hv⟩ := Option.bind_eq_some_iff.mp ec
    obtain ⟨res, e2, rfl⟩ := Option.map_eq_some_iff.mp hv
    obtain ⟨hlen, hw⟩ := hit σ.O X.cx (.inl ⟨rfl, e0⟩)
    have hn := compOk_names hok
    rw [exec_Assign_Name_used _ _ _ _ hsw]
    refine wpAny_bind (wpAny_standAt (wpAny_bind ?_))
    show wpAny _ A (do let _ ← comprehension (.ListComp elt [⟨.Name x px, iter, ifs, 0⟩] sc2 pos) sc2 env _ (newList []) false (eval iter env) (some (assign (.Name y py) env))) _ _ s
    refine wpAny_bind (seqE (P := fun _ s' => Res prog w mg mb hB n sc F env A C0 h0 C s (σ.put j (.list res)) .next .next s') (wpAny_comprehension_free (use := some (assign (.Name y py) env)) (E := noE) rfl (fold_none hns) (comp_closure X.cx hok) hn.1 (fun p hp => (hn.2.2 p hp).1) ?_) fun _ s' hq => wpAny_pure (wpAny_pure hq))
    refine seqE hw fun xv s₁ ⟨k1, hpi⟩ => seqE (hpi A) fun it s₂ hitp => ?_
    have X1 := X.keep (kheap k1)
    refine comp_block X1.cx hok hi he hc hitp hlen e2 ?_
    intro D L s' m' k2 hL hnL hr
    show wpAny _ A (assign (.Name y py) env (.ref D)) _ _ _
    have Y := X1.plus (p := (· = L)) (kheap k2) (fun b q => by subst q; exact ⟨hL, ns_live hnL⟩)
    refine wpAny_assign_Name (store_ok2 Y hj hr fun h₃ tk₃ hk₃ hk₃' Y3 => ?_)
    have hlt : env.locals < L := by
      obtain ⟨m, hn⟩ := X1.ns
      exact Nat.lt_of_lt_of_le (ns_hlt hn) hL
    have hLX : ¬ C.X L := fun q => by
      obtain ⟨o, _, e⟩ := X1.cx.I.W.lt _ q
      exact Nat.lt_irrefl _ (Nat.lt_of_lt_of_le (hsz_lt e) hL)
    have hL0 : hsz h0 ≤ L := by
      obtain ⟨m, hn⟩ := X1.ns
      exact Nat.le_trans (Nat.le_trans X1.xl.2 (Nat.le_of_lt (ns_hlt hn))) hL
    have hLn : env.locals ≠ L := addr_ne hlt
    have hcl : ∀ x c, env.cells.lookup x = some c → L ≠ c := fun x c e => by
      obtain ⟨_, _, v, hc⟩ := X1.cl x c e
      exact (addr_ne (Nat.lt_of_lt_of_le (cell_hlt hc) hL)).symm
    have hnL3 : h₃.Ns L m' := hnL.at' fun o e => hk₃' L o hLn.symm hcl e
    refine ⟨m', hnL3, fun h' hs' => ?_⟩
    have Z := Y3.lose hs'.extBut hnL3 hLn hL0 hLX X1.xw X1.xl.1 (fun x c e => (X1.cl x c e).1) X1.ax
    refine ⟨C, ?_, (Same.of k1).trans ((Same.of k2).trans .heap), Z, rfl⟩
    refine (Big.of_kn (kheap k1)).trans ⟨fun _ _ _ _ x => x, rfl, fun _ _ x => x, fun b o nt hx e => ?_⟩
    have hbL : b ≠ L := addr_ne (Nat.lt_of_lt_of_le (hsz_lt e) hL)
    refine hs'.extBut b o hbL (hk₃ b o ?_ ((kheap k2).nt b o nt e))
    rintro (q | q)
    · exact hx q
    · exact hbL q
end
end Mine

namespace Mine
open StrLaws

theorem slot_md_get : Slot "method_descriptor" "__get__" "method_descriptor.__get__" :=
  .of (owner := "method_descriptor") (n := "__get__") (by rw [typeLookup_type, builtinLookup_eq_fast]; kernel_rfl) (by decide +kernel) (by decide +kernel) (by decide +kernel)
    (by first | exact .inl (by decide +kernel) | exact .inr (by decide +kernel)) (by rw [isSubtype_type]; kernel_rfl)
theorem entry_md_get : entryFor table "method_descriptor.__get__" = some Builtin.«method_descriptor.__get__» := entryFor_of_tree (by kernel_rfl)
theorem args_md_get (a b c : Value) : argsOk "method_descriptor.__get__" ⟨[a, b, c], []⟩ := by unfold argsOk; kernel_rfl
theorem owner_app : (".".intercalate ("list.append".cutAt '.').dropLast) = "list" := by
  have e0 : "list.append".cutAt '.' = ["list", "append"] := by first | rfl | decide +kernel
  rw [e0]; decide +kernel
theorem sub_app : isSubtype (.type "list") (.type (".".intercalate ("list.append".cutAt '.').dropLast)) = pure true := by
  rw [owner_app, isSubtype_type]; kernel_rfl
theorem told_app : Manifest.toldItsClass.contains "list.append" = false := by decide +kernel
theorem md_no_set : typeLookup (.type "method_descriptor") "__set__" = pure none := by rw [typeLookup_type, builtinLookup_eq_fast]; kernel_rfl

theorem md_no_del : typeLookup (.type "method_descriptor") "__delete__" = pure none := by rw [typeLookup_type, builtinLookup_eq_fast]; kernel_rfl

section
variable {prog : Program} {w : World} {A : Around} {E : Value → Shared → Prop} {h : Heap} {g : Array GenState} {d : Drawn} {t : Nat} {os : OsState} {a : Addr} {o : Obj}

theorem app_get {R : Result → Shared → Prop} (hx : h.get? a = some o) (hc : o.cls = .type "list") (hq : R (.ok (.ret (.ref h.objs.size))) ⟨h.push (appObj a), g, d, t, os⟩) :
    codeAny (model prog w) A (.call (.builtin "method_descriptor.__get__") ⟨[.builtin "list.append", .ref a, .type "list"], []⟩) R ⟨h, g, d, t, os⟩ := by
  have hT : (⟨h, g, d, t, os⟩ : Shared).TypeIs (.ref a) "list" := ⟨_, hx, hc⟩
  have hT5 : (⟨h, g, d, t, os⟩ : Shared).TypeIs (.builtin "list.append") "method_descriptor" := type_list_append
  have f8 := sub_app
  have f9 := told_app
  refine codeAny_call_builtin slot_md_get.plain entry_md_get (slot_md_get.check _ _ _ _ _ _ _ _ hT5 (args_md_get _ _ _) ?_)
  unfold Builtin.«method_descriptor.__get__»
  refine wpAny_bind (wpAny_of_eq (a := (Value.builtin "list.append", some (Value.ref a), some (Value.type "list"))) (by rfl) ?_)
  dsimp only
  rw [f9]
  simp only [Bool.false_eq_true, if_false]
  refine wpAny_bind ?_
  wp_delta
  refine wpAny_bind ?_
  wp_delta
  refine wpAny_pure ?_
  dsimp only
  refine wpAny_bind ?_
  refine wpAny_isInstance hT f8 ?_
  simp only [Bool.not_true, Bool.false_eq_true, if_false]
  refine wpAny_pure ?_
  refine wpAny_bind (wpAny_newObj_type (wpAny_pure hq))

set_option maxHeartbeats 1000000 in
theorem app_entry {tk : Tok} {Q : Fin → Shared → Prop} {xs : Array Value} {m : Nat} (hx : h.get? a = some { cls := .type "list", data := .seq xs m }) (hq : Q (.done (.ret (.ref h.objs.size))) ⟨h.push (appObj a), g, d, t, os⟩) :
    wpAny (model prog w) A (Builtin.«object.__getattribute__» ⟨[.ref a, .str "append" tk], []⟩) Q E ⟨h, g, d, t, os⟩ := by
  have hT : (⟨h, g, d, t, os⟩ : Shared).TypeIs (.ref a) "list" := ⟨_, hx, rfl⟩
  have hT5 : (⟨h, g, d, t, os⟩ : Shared).TypeIs (.builtin "list.append") "method_descriptor" := type_list_append
  have f4 := F.slot_list_append.lookup
  have f5 := type_list_append
  have f6 := slot_md_get.lookup
  have f7 := md_no_set
  have f8 := md_no_del
  repeat (first | assumption | wp_step)
  refine app_get hx rfl ?_
  exact wpAny_pure hq

theorem app_call {tk : Tok} {R : Result → Shared → Prop} {xs : Array Value} {m : Nat} (hx : h.get? a = some { cls := .type "list", data := .seq xs m }) (hq : R (.ok (.ret (.ref h.objs.size))) ⟨h.push (appObj a), g, d, t, os⟩) :
    codeAny (model prog w) A (.call (.builtin "list.__getattribute__") ⟨[.ref a, .str "append" tk], []⟩) R ⟨h, g, d, t, os⟩ :=
  codeAny_call_builtin F.slot_list_getattribute.plain F.entry_list_ga (F.slot_list_getattribute.check _ _ _ _ _ _ _ _ (show (⟨h, g, d, t, os⟩ : Shared).TypeIs (.ref a) "list" from ⟨_, hx, rfl⟩) (F.args_list_getattribute_2 _ _) (app_entry hx hq))

theorem app_attr {Q : Value → Shared → Prop} {xs : Array Value} {m : Nat} (hx : h.get? a = some { cls := .type "list", data := .seq xs m }) (hq : Q (.ref h.objs.size) ⟨h.push (appObj a), g, d, t + 1, os⟩) :
    wpAny (model prog w) A (getAttr (.ref a) "append" true) Q E ⟨h, g, d, t, os⟩ := by
  have hT : (⟨h, g, d, t, os⟩ : Shared).TypeIs (.ref a) "list" := ⟨_, hx, rfl⟩
  have hT' : (⟨h, g, d, t + 1, os⟩ : Shared).TypeIs (.ref a) "list" := ⟨_, hx, rfl⟩
  have f2 := F.slot_list_getattribute.lookup
  have f3 := F.slot_list_getattribute.bind (.ref a)
  unfold getAttr
  iterate 20 (first | assumption | wp_step)
  repeat (first | assumption | wp_step)
  refine app_call hx ?_
  repeat (first | assumption | wp_step)
end

theorem sub_list_module : isSubtype (.type "list") (.type "module") = pure false := by rw [isSubtype_type]; kernel_rfl
theorem kind_app : builtinKind "list.append" = some .method := by decide +kernel
theorem sg_app : Manifest.signature? "list.append" = some ⟨.oneArg, "list.append", "append", .self, [⟨"object", .posOnly, true⟩]⟩ := by
  rw [signature?_of (id := "list.append") (n := ['d', 'n', 'e', 'p', 'p', 'a']) (o := ['t', 's', 'i', 'l']) (by kernel_rfl) F.owner_list]; kernel_rfl
theorem vm_app : Manifest.varargsMethods.contains "list.append" = false := by decide +kernel
theorem ck_app (a b : Value) : Bind.checkArgs "list.append" ⟨.oneArg, toString (Bind.lastOf "list") ++ toString "." ++ toString (Bind.lastOf "list.append"), "append", .self, [⟨"object", .posOnly, true⟩]⟩ ⟨[a, b], []⟩ = pure () := by kernel_rfl
section
variable {prog : Program} {w : World} {A : Around} {E : Value → Shared → Prop} {s : Shared}
theorem app_check {l : Addr} {x : Value} {xs : Array Value} {m : Nat} {Q : Unit → Shared → Prop} (ho : s.heap.get? l = some { cls := .type "list", data := .seq xs m }) (h : Q () s) : wpAny (model prog w) A (checkBoundCall "list.append" ⟨[.ref l, x], []⟩) Q E s := by
  have hT : s.TypeIs (.ref l) "list" := ⟨_, ho, rfl⟩
  have hck := ck_app (.ref l) x
  have h1 := sub_list_module
  unfold checkBoundCall
  rw [sg_app, kind_app]
  dsimp only
  rw [if_neg (by decide)]
  refine wpAny_bind (wpAny_isInstance hT h1 ?_)
  rw [vm_app]
  rw [if_neg (by decide)]
  have hty : isType (.ref l) = isType (.ref l) := rfl
  repeat (first | assumption | wp_step)

theorem app_callv {q l : Addr} {items : Array Value} {x : Value} {Q : Value → Shared → Prop} (hq : s.heap.get? q = some (appObj l)) (hl : s.heap.PlainList l items)
    (hQ : ∀ h', h'.PlainList l (items.push x) → Heap.SameBut l s.heap h' → Q .none { s with heap := h' }) (hsz : items.size ≤ sizeLine := by size_fits) :
    wpAny (model prog w) A (call (.ref q) [x]) Q E s := by
  obtain ⟨n, ho⟩ := hl
  refine wpAny_call (codeAny_of_tree ?_)
  show wpAny _ A.in1 (callAny (.ref q) ⟨[x], []⟩) _ _ s
  simp only [callAny]
  refine wpAny_bind (wpAny_load hq ?_)
  simp only [appObj]
  have hb : (Value.type "builtin_function_or_method" == Value.type "method" || Value.type "builtin_function_or_method" == Value.type "builtin_function_or_method" || Value.type "builtin_function_or_method" == Value.type "method-wrapper") = true := by decide
  have hb2 : (Value.type "builtin_function_or_method" != Value.type "method") = true := by decide
  refine wpAny_ite_true hb ?_
  show wpAny _ A.in1 (if (Value.type "builtin_function_or_method" != Value.type "method") = true then (do checkBoundCall "list.append" ⟨[.ref l, x], []⟩; again (.builtin "list.append" ⟨[.ref l, x], []⟩)) else again (Code.call (.builtin "list.append") ⟨[.ref l, x], []⟩)) _ _ _
  refine wpAny_ite_true hb2 ?_
  refine wpAny_bind (app_check ho (wpAny_pure ?_))
  refine ⟨Code.quiet_builtin _ (by decide +kernel), codeAny_builtin entry_list_append ?_⟩
  show wpAny _ _ (updateSeq l (·.push x) >>= fun _ => ret .none) _ _ s
  refine wpAny_bind ?_
  refine wpAny_updateSeq ho rfl (wpAny_pure ?_)
  refine hQ _ ⟨n + 1, ?_⟩ (Heap.SameBut.update ..)
  rw [Heap.get?_update_self _ ho (by rw [Obj.mapSeq_push_plain]; rfl), Obj.mapSeq_push_plain]
end
end Mine

namespace Mine
open StrLaws
section
variable {prog : Program} {w : World} {mg mb : Str → Option Value} {hB : Heap} {n : Nat} {sc : Scope} {F : PF1} {env : Env} {A : Around} {C0 : RC} {h0 : Heap}

/-! own lists -/
noncomputable def RC.own (C : RC) (a : Addr) : RC := { X := fun b => C.X b ∨ b = a, st := C.st, ads := C.ads ++ [a] }
theorem own_sub {C : RC} {a : Addr} {h : Heap} : Sub (C.plus (· = a)) (C.own a) h h :=
  ⟨fun _ _ _ _ x => x, rfl, fun k b e => by
    have hl : k < C.ads.length := (List.getElem?_eq_some_iff.mp e).1
    show (C.ads ++ [a])[k]? = some b
    rw [List.getElem?_append_left hl]; exact e, fun _ _ _ _ e => e⟩
theorem own_big {C : RC} {a : Addr} {h h' : Heap} (hk : KN h h') (ha : hsz h ≤ a) : Big C (C.own a) h h' :=
  ⟨fun b o _ e hx q => q.elim hx fun q => Nat.lt_irrefl _ (Nat.lt_of_lt_of_le (q ▸ hsz_lt e) ha), rfl, fun k b e => by
    have hl : k < C.ads.length := (List.getElem?_eq_some_iff.mp e).1
    show (C.ads ++ [a])[k]? = some b
    rw [List.getElem?_append_left hl]; exact e, fun b o nt _ e => hk.nt b o nt e⟩

noncomputable def RC.add (C : RC) (a : Addr) : RC := { C with ads := C.ads ++ [a] }
theorem add_sub {C : RC} {a : Addr} {h : Heap} : Sub C (C.add a) h h :=
  ⟨fun _ _ _ _ x => x, rfl, fun k b e => by
    have hl : k < C.ads.length := (List.getElem?_eq_some_iff.mp e).1
    show (C.ads ++ [a])[k]? = some b
    rw [List.getElem?_append_left hl]; exact e, fun _ _ _ _ e => e⟩
theorem add_big {C : RC} {a : Addr} {h : Heap} : Big C (C.add a) h h :=
  ⟨fun _ _ _ _ x => x, rfl, fun k b e => by
    have hl : k < C.ads.length := (List.getElem?_eq_some_iff.mp e).1
    show (C.ads ++ [a])[k]? = some b
    rw [List.getElem?_append_left hl]; exact e, fun _ _ _ _ e => e⟩

theorem Fra.adopt {C : RC} {σ : St} {h : Heap} {a : Addr} {xs : Array Value} {vs : List PV} (Y : Fra prog w mg mb hB n sc F env A C0 h0 C σ h) (hax : C.X a) (ha0 : hsz h0 ≤ a) (hp : h.PlainList a xs) (hr : RepL C h vs xs.toList)
    (hna : ∀ k : Nat, C.ads[k]? ≠ some a) : Fra prog w mg mb hB n sc F env A C0 h0 (C.add a) ⟨σ.G, σ.O ++ [some vs]⟩ h := by
  have I := Y.cx.I
  have S : Sub C (C.add a) h h := add_sub
  have al := Y.al
  have get : ∀ {k : Nat} {b : Addr}, (C.add a).ads[k]? = some b → C.ads[k]? = some b ∨ (k = C.ads.length ∧ b = a) := by
    intro k b e
    have e' : (C.ads ++ [a])[k]? = some b := e
    rcases Nat.lt_or_ge k C.ads.length with hl | hl
    · rw [List.getElem?_append_left hl] at e'; exact .inl e'
    · rw [List.getElem?_append_right hl] at e'
      have : k - C.ads.length = 0 := by
        have := (List.getElem?_eq_some_iff.mp e').1
        simp at this; lia
      rw [this] at e'
      simp at e'
      exact .inr ⟨by lia, e'.symm⟩
  refine ⟨⟨Y.cx.FS, ⟨I.base, I.kind, I.glb, I.blt, I.cdv, I.top, I.knd, I.cel, fun x i v e1 e2 => ?_, ⟨fun j vs' e => ?_, I.W.lt⟩⟩, Y.cx.R⟩, Y.b0, Y.k0, Y.x0, Y.xw, Y.st, Y.ns, Y.xl, Y.cl, Y.ci, fun k b e => ?_, fun k b vs' e1 e2 => ?_, fun k j b e1 e2 => ?_, ?_, Y.nf, Y.x00⟩
  · obtain ⟨u, Se, r⟩ := I.slots x i v e1 e2
    exact ⟨u, Se, Rep.mono S _ _ r⟩
  · rcases Nat.lt_or_ge j σ.O.length with hl | hl
    · rw [List.getElem?_append_left hl] at e
      obtain ⟨b, ys, h1, h2, h3⟩ := I.W.own j vs' e
      exact ⟨b, ys, S.ads _ _ h1, h2, RepL.mono S _ _ h3⟩
    · rw [List.getElem?_append_right hl] at e
      have : j - σ.O.length = 0 := by
        have := (List.getElem?_eq_some_iff.mp e).1
        simp at this; lia
      rw [this] at e
      simp at e
      subst e
      refine ⟨a, xs, ?_, hp, RepL.mono S _ _ hr⟩
      show (C.ads ++ [a])[j]? = some a
      have hj : j = C.ads.length := by lia
      rw [hj]; simp
  · rcases get e with q | ⟨_, rfl⟩
    · exact Y.ad k b q
    · exact ⟨ha0, xs, hp⟩
  · rcases get e2 with q | ⟨_, rfl⟩
    · have hl : k < σ.O.length := by
        have := (List.getElem?_eq_some_iff.mp q).1
        lia
      rw [List.getElem?_append_left hl] at e1
      exact Y.ax k b vs' e1 q
    · exact hax
  · rcases get e1 with q | ⟨q, rfl⟩ <;> rcases get e2 with q' | ⟨q', q2⟩
    · exact Y.ai k j b q q'
    · exact absurd (q2 ▸ q) (hna k)
    · exact absurd q' (hna j)
    · rw [q, q']
  · show (C.ads ++ [a]).length = (σ.O ++ [some vs]).length
    simp [al]

theorem Fra.size {C : RC} {σ : St} {h : Heap} (X : Fra prog w mg mb hB n sc F env A C0 h0 C σ h) : hsz h0 ≤ hsz h := by
  obtain ⟨m, hn⟩ := X.ns
  exact Nat.le_trans X.xl.2 (Nat.le_of_lt (ns_hlt hn))
theorem Fra.noad {C : RC} {σ : St} {h : Heap} (X : Fra prog w mg mb hB n sc F env A C0 h0 C σ h) {a : Addr} (ha : hsz h ≤ a) (k : Nat) : C.ads[k]? ≠ some a := fun e => by
  obtain ⟨_, xs, m, e'⟩ := X.ad k a e
  exact Nat.lt_irrefl _ (Nat.lt_of_lt_of_le (hsz_lt e') ha)

/-- a fresh list made own -/
theorem Fra.fresh {C : RC} {σ : St} {h h' : Heap} {a : Addr} {xs : Array Value} {vs : List PV} (X : Fra prog w mg mb hB n sc F env A C0 h0 C σ h) (k : KN h h') (ha : hsz h ≤ a) (hp : h'.PlainList a xs) (hr : RepL (C.plus (· = a)) h' vs xs.toList) :
    Fra prog w mg mb hB n sc F env A C0 h0 (C.own a) ⟨σ.G, σ.O ++ [some vs]⟩ h' :=
  (X.plus (p := (· = a)) k fun b q => by subst q; exact ⟨ha, list_live hp⟩).adopt (.inr rfl) (Nat.le_trans X.size ha) hp hr (X.noad ha)

theorem own_rep {C : RC} {σ : St} {h : Heap} {a : Addr} (X : Fra prog w mg mb hB n sc F env A C0 h0 (C.own a) ⟨σ.G, σ.O ++ [some vs]⟩ h) : Rep (C.own a) h (.own σ.O.length) (.ref a) := by
  refine ⟨a, ?_, rfl⟩
  have : (C.ads ++ [a]).length = (σ.O ++ [some vs]).length := X.al
  simp at this
  show (C.ads ++ [a])[σ.O.length]? = some a
  rw [← this]; simp

theorem new_ok {C : RC} {σ : St} {s s1 : Shared} {x : Str} {i : Nat} {a : Addr} {xs : Array Value} {vs : List PV} {E : Value → Shared → Prop} (X : Fra prog w mg mb hB n sc F env A C0 h0 C σ s.heap) (k : Keeps s s1) (ha : hsz s.heap ≤ a) (hp : s1.heap.PlainList a xs)
    (hr : RepL (C.plus (· = a)) s1.heap vs xs.toList) (hi : slotOf sc x = some i) :
    wpAny (model prog w) A (storeName env x (.ref a)) (fun _ s' => Res prog w mg mb hB n sc F env A C0 h0 C s (σ.new i vs) .next .next s') E s1 := by
  have Y := X.fresh (kheap k) ha hp hr
  refine store_ok Y hi (own_rep Y) fun h' tk hk Z => ?_
  exact ⟨C.own a, (own_big (kheap k) ha).trans (.xs hk), (Same.of k).trans .heap, Z, rfl⟩

/-- a list display and where it lies -/
theorem list_fresh {es : List Expr} {ps : PEs} {pos : Pos} (hs : SS prog w mg mb hB n sc es ps) (hn : NoStars es = true) (hl : ps.len ≤ 64) {C : RC} {G : Slots} {O : Owns} {s : Shared} {vs : List PV} (K : Cx prog w mg mb hB n sc F C G O env A s.heap) (hv : evs F O G ps = some vs) :
    wpAny (model prog w) A (eval (.List es pos) env) (fun u s' => Keeps s s' ∧ ∃ a xs, u = .ref a ∧ hsz s.heap ≤ a ∧ s'.heap.PlainList a xs ∧ RepL (C.plus (· = a)) s'.heap vs xs.toList) noE s := by
  refine wpAny_List_spliced ?_
  rw [backTo_of hn]
  refine seqE (hs K hv) fun us s1 ⟨k1, r1⟩ => ⟨?_, ktrans k1 kpush, _, us.toArray, rfl, ?_, ⟨_, Heap.get?_push_size _ rfl⟩, ?_⟩
  · rw [r1.length, evs_len hv, sizeLine_eq]; lia
  · exact Nat.le_trans (kheap k1).szle (hsz_size _)
  · have S : Sub C (C.plus (· = s1.heap.objs.size)) s1.heap (s1.heap.push { cls := .type "list", data := .seq us.toArray }) := .plus (.push _ _) fun b q => by subst q; exact hsz_size _
    exact RepL.mono S _ _ (by simpa using r1)
end
end Mine

namespace Mine
open StrLaws
section
variable {prog : Program} {w : World} {mg mb : Str → Option Value} {hB : Heap} {n : Nat} {sc : Scope} {F : PF1} {env : Env} {A : Around} {C0 : RC} {h0 : Heap}

theorem Cx.inter {C : RC} {G : Slots} {O : Owns} {h : Heap} (K : Cx prog w mg mb hB n sc F C G O env A h) : interactive env = false := by
  unfold interactive; rw [K.I.kind]; rfl

theorem asgo_ok {x : Str} {i : Nat} {es : List Expr} {ps : PEs} {px lp pos : Pos} (hi : slotOf sc x = some i) (hs : SS prog w mg mb hB n sc es ps) (hn : NoStars es = true) (hl : ps.len ≤ 64) :
    XS prog w mg mb hB n sc (.Assign [.Name x px] (.List es lp) pos) (.asgo i ps) := by
  intro N F env A C0 h0 C σ s σ' f X h
  obtain ⟨vs, e1, h⟩ := Option.map_eq_some_iff.mp h
  cases h
  refine wpAny_Assign_Name (seqE (list_fresh hs hn hl X.cx e1) fun u s1 ⟨k1, a, xs, hu, ha, hp, hr⟩ => ?_)
  subst hu
  exact new_ok X k1 ha hp hr hi

theorem get_own {σ : St} {k : Nat} {p : Nat × List PV} (e : σ.own k = some p) : p.1 = k ∧ σ.O[k]? = some (some p.2) := by
  obtain ⟨vs, e', rfl⟩ := Option.map_eq_some_iff.mp e
  obtain ⟨q, e2, hq⟩ := Option.bind_eq_some_iff.mp e'
  cases hq; exact ⟨rfl, e2⟩
theorem own_at {σ : St} {i : Nat} {k : Nat × List PV} (e : σ.ownAt i = some k) : σ.G[i]? = some (some (.own k.1)) ∧ σ.O[k.1]? = some (some k.2) := by
  obtain ⟨v, e1, e⟩ := Option.bind_eq_some_iff.mp e
  obtain ⟨q, e1, hq⟩ := Option.bind_eq_some_iff.mp e1
  cases hq
  obtain ⟨j, e2, e⟩ := Option.bind_eq_some_iff.mp e
  obtain ⟨h1, h2⟩ := get_own e
  rw [asOwn_eq e2] at e1
  rw [h1]; exact ⟨e1, h2⟩
theorem app_at {σ : St} {i : Nat} {k : Nat × List PV} (e : σ.appAt i = some k) : σ.G[i]? = some (some (.app k.1)) ∧ σ.O[k.1]? = some (some k.2) := by
  obtain ⟨v, e1, e⟩ := Option.bind_eq_some_iff.mp e
  obtain ⟨q, e1, hq⟩ := Option.bind_eq_some_iff.mp e1
  cases hq
  obtain ⟨j, e2, e⟩ := Option.bind_eq_some_iff.mp e
  obtain ⟨h1, h2⟩ := get_own e
  rw [asApp_eq e2] at e1
  rw [h1]; exact ⟨e1, h2⟩
theorem ev_var {F : PF1} {O : Owns} {G : Slots} {i : Nat} {v : PV} (h : G[i]? = some (some v)) : ev F O G (.var i) = some v := Option.bind_eq_some_iff.mpr ⟨_, h, rfl⟩
theorem evs_one {F : PF1} {O : Owns} {G : Slots} {p : PE} {v : PV} (h : ev F O G p = some v) : evs F O G (.cons p .nil) = some [v] := Option.bind_eq_some_iff.mpr ⟨v, h, rfl⟩

theorem asga_ok {x y : Str} {i j : Nat} {px py ap pos : Pos} (hd : dbg y = false) (hi : slotOf sc x = some i) (hj : slotOf sc y = some j) :
    XS prog w mg mb hB n sc (.Assign [.Name x px] (.Attribute (.Name y py) "append" ap) pos) (.asga i j) := by
  intro N F env A C0 h0 C σ s σ' f X h
  obtain ⟨k, e1, h⟩ := Option.map_eq_some_iff.mp h
  cases h
  obtain ⟨kk, vs⟩ := k
  have hown := own_at e1
  refine wpAny_Assign_Name ?_
  rw [arm_eval_Attribute]
  have eb : attributeBase (.Name y py) "append" env (eval (.Name y py) env) = eval (.Name y py) env := base_plain rfl
  rw [eb]
  refine wpAny_bind (seqE (name_ok hd hj X.cx (pv := .own kk) (ev_var hown.1)) fun u s1 ⟨k1, r1⟩ => ?_)
  obtain ⟨a, ha, rfl⟩ := r1
  have X1 := X.keep (kheap k1)
  obtain ⟨a', xs, h1, ⟨m, hp⟩, h3⟩ := X1.cx.I.W.own kk vs hown.2
  rw [ha] at h1; cases h1
  obtain ⟨hh, g, d, t, os⟩ := s1
  refine wpAny_bind (wpAny_standAt (wpAny_bind (wpAny_holding (app_attr hp ?_))))
  refine wpAny_bind (wpAny_letGoP (wpAny_pure ?_))
  have k2 : Keeps (⟨hh, g, d, t, os⟩ : Shared) ⟨hh.push (appObj a), g, d, t + 1, os⟩ := kpush
  have X2 := X1.keep (kheap k2)
  refine store_ok X2 hi (v := .app kk) ?_ fun h' tk hk Y => ?_
  · exact ⟨a, hh.objs.size, ha, rfl, X1.cx.I.W.fresh, Heap.get?_push_size _ rfl⟩
  · exact ⟨C, (Big.of_kn (kheap (ktrans k1 k2))).trans (.xs hk), (Same.of (ktrans k1 k2)).trans .heap, Y, rfl⟩

/-- the append itself -/
theorem push_res {C : RC} {σ : St} {s s2 : Shared} {k : Nat} {vs : List PV} {v : PV} {u : Value} {a : Addr} {xs : Array Value} {h' : Heap} (X2 : Fra prog w mg mb hB n sc F env A C0 h0 C σ s2.heap) (k12 : Keeps s s2) (ho : σ.O[k]? = some (some vs)) (ha : C.ads[k]? = some a)
    (hp : s2.heap.PlainList a xs) (hr : RepL C s2.heap vs xs.toList) (rv : Rep C s2.heap v u) (hp' : h'.PlainList a (xs.push u)) (hs : Heap.SameBut a s2.heap h') :
    Res prog w mg mb hB n sc F env A C0 h0 C s (σ.putO k (vs ++ [v])) .next .next { s2 with heap := h' } := by
  have Y := X2.putO (vs' := vs ++ [v]) ho ha hs hp' (by rw [Array.toList_push]; exact hr.append (RepL.one rv))
  exact ⟨C, (Big.of_kn (kheap k12)).trans (.xs (keepsX_of (X2.ax k a vs ho ha) hs)), (Same.of k12).trans .heap, Y, rfl⟩

theorem app_ok {x : Str} {i : Nat} {e : Expr} {pe : PE} {px ap p pos : Pos} (hd : dbg x = false) (hl : (ap.endLine == p.line) = true) (hn : NoStars [e] = true) (hi : slotOf sc x = some i) (he : ES prog w mg mb hB n sc e pe) :
    XS prog w mg mb hB n sc (.Expr (.Call (.Attribute (.Name x px) "append" ap) [e] [] p) pos) (.app i pe) := by
  intro N F env A C0 h0 C σ s σ' f X h
  obtain ⟨k, e1, h⟩ := Option.bind_eq_some_iff.mp h
  obtain ⟨v, e2, h⟩ := Option.bind_eq_some_iff.mp h
  obtain ⟨hlen, h⟩ := ite_some h
  cases h
  obtain ⟨hG, hO⟩ := own_at e1
  refine wpAny_Expr ?_ X.cx.inter
  refine wpAny_Call_method_lateS (base_plain rfl) (by rw [backTo_of hn]; rfl) hl (seqE (name_ok hd hi X.cx (pv := .own k.1) (ev_var hG)) fun u s1 r => ?_)
  obtain ⟨k1, a, ha, rfl⟩ := r
  have X1 := X.keep (kheap k1)
  obtain ⟨a', xs, h1, ⟨m, hp⟩, h3⟩ := X1.cx.I.W.own k.1 k.2 hO
  rw [ha] at h1; cases h1
  refine ⟨"list", _, PySem.F.plainAttrs_list, PySem.F.slot_list_append, type_list_append, ⟨_, hp, rfl⟩, fun b e => by cases e; exact ⟨_, hp, rfl⟩, ?_⟩
  rw [backTo_of hn]
  refine Calls.callWith_builtin any_of (evalArgs_of (seqE (ss_cons he ss_nil X1.cx (evs_one e2)) fun us s2 r => ?_))
  obtain ⟨k2, u, _, rfl, rv, rfl⟩ := r
  have hp2 : s2.heap.PlainList a xs := (kheap k2).plain ⟨m, hp⟩
  have hsz : xs.size ≤ sizeLine := by
    rw [show xs.size = k.2.length from h3.length]; exact Nat.le_trans hlen lim_size
  refine wpAny_list_append_plain (hsz := hsz) hp2 fun h' hp' hs => ?_
  exact push_res (X1.keep (kheap k2)) (ktrans k1 k2) hO ha hp2 (h3.keep (kheap k2)) rv hp' hs

theorem callWith_app {A : Around} {E : Value → Shared → Prop} {s : Shared} {pos : Pos} {q l : Addr} {args : List (Bool × Sem Value)} {Q : Value → Shared → Prop} (hp : args.any (·.1) = false)
    (h : wpAny (model prog w) A (evalArgs (.ref q) true args []) (fun x s₁ => s₁.heap.get? q = some (appObj l) ∧ wpAny (model prog w) A (call (.ref q) ([] ++ x.pos) x.kw) Q E s₁) E s) :
    wpAny (model prog w) A (callWith pos (.ref q) [] args []) Q E s := by
  unfold callWith
  refine wpAny_bind (wpAny_holding (wpAny_mono h (fun a s₁ h₁ => wpAny_bind (wpAny_standAt ?_)) fun _ _ x => x))
  simp only [hp, List.any_nil, Bool.or_false]
  refine wpAny_bind (m := keeperOf (.ref q)) ?_
  unfold keeperOf
  refine wpAny_bind (wpAny_load h₁.1 ?_)
  have hb1 : (Value.type "builtin_function_or_method" != Value.type "method") = true := by decide
  have hb2 : (Value.type "builtin_function_or_method" == Value.type "builtin_function_or_method" || Value.type "builtin_function_or_method" == Value.type "method-wrapper") = true := by decide
  have hb1' : ((appObj l).cls != Value.type "method") = true := hb1
  have hb2' : ((appObj l).cls == Value.type "builtin_function_or_method" || (appObj l).cls == Value.type "method-wrapper") = true := hb2
  refine wpAny_ite_true hb1' ?_
  refine wpAny_pure ?_
  simp only [hb2', if_true]
  exact wpAny_bind (wpAny_mono h₁.2 (fun r s₂ hr => wpAny_bind (wpAny_holding (wpAny_point (wpAny_pure hr)))) fun _ _ x => x)

theorem appf_ok {x : Str} {i : Nat} {e : Expr} {pe : PE} {px p pos : Pos} (hd : dbg x = false) (hn : NoStars [e] = true) (hi : slotOf sc x = some i) (he : ES prog w mg mb hB n sc e pe) :
    XS prog w mg mb hB n sc (.Expr (.Call (.Name x px) [e] [] p) pos) (.appf i pe) := by
  intro N F env A C0 h0 C σ s σ' f X h
  obtain ⟨k, e1, h⟩ := Option.bind_eq_some_iff.mp h
  obtain ⟨v, e2, h⟩ := Option.bind_eq_some_iff.mp h
  obtain ⟨hlen, h⟩ := ite_some h
  cases h
  obtain ⟨hG, hO⟩ := app_at e1
  refine wpAny_Expr ?_ X.cx.inter
  refine Call_Name (backTo_of hn) (seqE (name_ok hd hi X.cx (pv := .app k.1) (ev_var hG)) fun u s1 r => ?_)
  obtain ⟨k1, a, q, ha, rfl, hqx, hq⟩ := r
  have X1 := X.keep (kheap k1)
  obtain ⟨a', xs, h1, hp, h3⟩ := X1.cx.I.W.own k.1 k.2 hO
  rw [ha] at h1; cases h1
  refine callWith_app (l := a) any_of (evalArgs_of (seqE (ss_cons he ss_nil X1.cx (evs_one e2)) fun us s2 r => ?_))
  obtain ⟨k2, u, _, rfl, rv, rfl⟩ := r
  have hp2 : s2.heap.PlainList a xs := (kheap k2).plain hp
  have hsz : xs.size ≤ sizeLine := by
    rw [show xs.size = k.2.length from h3.length]; exact Nat.le_trans hlen lim_size
  refine ⟨(kheap k2).nt _ _ (IsVal.noTab (.inr ⟨_, rfl⟩)) hq, app_callv ((kheap k2).nt _ _ (IsVal.noTab (.inr ⟨_, rfl⟩)) hq) hp2 (fun h' hp' hs => ?_) hsz⟩
  exact push_res (X1.keep (kheap k2)) (ktrans k1 k2) hO ha hp2 (h3.keep (kheap k2)) rv hp' hs

theorem load_ok {C : RC} {G : Slots} {O : Owns} {s : Shared} {x : Str} {i : Nat} {v : PV} {Q : Value → Shared → Prop} {E : Value → Shared → Prop} (K : Cx prog w mg mb hB n sc F C G O env A s.heap) (hi : slotOf sc x = some i) (hd : dbg x = false) (hg : G[i]? = some (some v))
    (h : ∀ u, Rep C s.heap v u → Q u s) : wpAny (model prog w) A (loadName env x) Q E s := by
  have hd2 : (x == ("__classdict__" : Str)) = false := by unfold dbg at hd; simp only [Bool.or_eq_false_iff] at hd; exact hd.2
  obtain ⟨u, S, r⟩ := K.I.slots x i v hi hg
  rcases S with ⟨hk, m, hn, hm⟩ | ⟨hk, c, hc, hcell⟩
  · exact wpAny_loadName_local K.I.kind hk hn hm (h u r)
  · rcases hk with hk | hk
    · exact wpAny_loadName_cell K.I.kind hk hc hcell (h u r)
    · exact wpAny_loadName_free K.I.kind hk hc hcell (h u r) hd2

theorem plain2_or {x y : PV} (h : plain2 x y = true) : (∃ i j, asI x = some i ∧ asI y = some j) ∨ ∃ i j, asS x = some i ∧ asS y = some j := by
  unfold plain2 at h
  rcases Bool.or_eq_true_iff.mp h with h | h
  · have h := and_t h
    exact .inl ⟨_, _, Option.eq_some_of_isSome h.1, Option.eq_some_of_isSome h.2⟩
  · have h := and_t h
    exact .inr ⟨_, _, Option.eq_some_of_isSome h.1, Option.eq_some_of_isSome h.2⟩
theorem aug_ok {x : Str} {i : Nat} {e : Expr} {pe : PE} {px pos : Pos} (hd : dbg x = false) (hi : slotOf sc x = some i) (he : ES prog w mg mb hB n sc e pe) :
    XS prog w mg mb hB n sc (.AugAssign (.Name x px) .Add e pos) (.aug i .add pe) := by
  intro N F env A C0 h0 C σ s σ' f X h
  obtain ⟨xv, e1, h⟩ := Option.bind_eq_some_iff.mp h
  obtain ⟨yv, e2, h⟩ := Option.bind_eq_some_iff.mp h
  obtain ⟨q, e1, hq⟩ := Option.bind_eq_some_iff.mp e1
  cases hq
  refine wpAny_AugAssign_Name (load_ok X.cx hi hd e1 fun u ru => seqE (he X.cx e2) fun uy s1 r => ?_)
  obtain ⟨k1, r1⟩ := r
  have ru1 := ru.keep (kheap k1)
  obtain ⟨hp, h⟩ := ite_some h
  obtain ⟨r, hr, h⟩ := Option.map_eq_some_iff.mp h
  cases h
  have fin : ∀ {u : Value} {tk : Tok}, Rep C s1.heap r u → wpAny (model prog w) A (storeName env x u) (fun _ => Res prog w mg mb hB n sc F env A C0 h0 C s (σ.put i r) .next .next) noE { s1 with toks := tk } := fun {u tk} ru => by
    have k2 : Keeps s1 { s1 with toks := tk } := kp
    refine store_ok (s := { s1 with toks := tk }) (X.keep (kheap (ktrans k1 k2))) hi ru fun h' tk hk Y => ?_
    exact ⟨C, (Big.of_kn (kheap (ktrans k1 k2))).trans (.xs hk), (Same.of (ktrans k1 k2)).trans .heap, Y, rfl⟩
  rcases plain2_or hp with ⟨i1, i2, q1, q2⟩ | ⟨i1, i2, q1, q2⟩
  · obtain ⟨t, rfl⟩ := rep_asI q1 ru1
    obtain ⟨t', rfl⟩ := rep_asI q2 r1
    cases asI_eq q1; cases asI_eq q2; cases hr
    exact PyProof.Rows.iadd_int (fin rep_int)
  · obtain ⟨x1, t, rfl, rfl⟩ := rep_asS q1 ru1
    obtain ⟨y1, t', rfl, rfl⟩ := rep_asS q2 r1
    cases asS_eq q1; cases asS_eq q2
    obtain ⟨hsz, hr⟩ := ite_some (c := _ ≤ LIM) hr
    cases hr
    exact PyProof.Rows.iadd_str (fun t2 tk2 => fin (rep_str' Array.toList_append)) (by rw [str_len, str_len]; exact Nat.le_trans hsz lim_size)
end
end Mine

namespace Mine
open StrLaws

theorem put_comm {i j : Nat} {v w : PV} {σ : St} (h : i ≠ j) : (σ.put i w).put j v = (σ.put j v).put i w := congrArg (St.mk · σ.O) (List.set_comm _ _ h)
theorem putAll_put {i : Nat} {w : PV} : ∀ {is : List Nat} {ws : List PV} {σ : St}, i ∉ is → putAll is ws (σ.put i w) = (putAll is ws σ).map (·.put i w)
  | [], [], σ, _ => rfl
  | [], _ :: _, σ, _ => rfl
  | _ :: _, [], σ, _ => rfl
  | j :: is, v :: ws, σ, h => by
    have hij : i ≠ j := fun q => h (q ▸ List.mem_cons_self)
    show putAll is ws ((σ.put i w).put j v) = (putAll is ws (σ.put j v)).map _
    rw [put_comm hij]
    exact putAll_put fun q => h (List.mem_cons_of_mem _ q)
theorem putAll_snoc {i : Nat} {w : PV} : ∀ {is : List Nat} {ws : List PV} {σ : St}, is.length = ws.length → putAll (is ++ [i]) (ws ++ [w]) σ = (putAll is ws σ).map (·.put i w)
  | [], [], σ, _ => rfl
  | [], _ :: _, σ, h => nomatch h
  | _ :: _, [], σ, h => nomatch h
  | j :: is, v :: ws, σ, h => putAll_snoc (σ := σ.put j v) (Nat.succ.inj h)
theorem putAll_len : ∀ {is : List Nat} {ws : List PV} {σ σ' : St}, putAll is ws σ = some σ' → is.length = ws.length
  | [], [], _, _, _ => rfl
  | [], _ :: _, _, _, h => nn h
  | _ :: _, [], _, _, h => nn h
  | j :: is, v :: ws, σ, σ', h => congrArg (· + 1) (putAll_len (σ := σ.put j v) h)
theorem putAll_rev : ∀ {is : List Nat} {ws : List PV} {σ σ' : St}, is.Nodup → putAll is ws σ = some σ' → putAll is.reverse ws.reverse σ = some σ'
  | [], [], σ, σ', _, h => h
  | [], _ :: _, _, _, _, h => nn h
  | _ :: _, [], _, _, _, h => nn h
  | j :: is, v :: ws, σ, σ', nd, h => by
    obtain ⟨n1, n2⟩ := List.nodup_cons.mp nd
    have hl : is.length = ws.length := putAll_len (σ := σ.put j v) h
    have h : putAll is ws (σ.put j v) = some σ' := h
    rw [putAll_put n1] at h
    obtain ⟨σ1, h1, rfl⟩ := Option.map_eq_some_iff.mp h
    rw [List.reverse_cons, List.reverse_cons, putAll_snoc (by rw [List.length_reverse, List.length_reverse]; exact hl), putAll_rev n2 h1]
    rfl

section
variable {prog : Program} {w : World} {mg mb : Str → Option Value} {hB : Heap} {n : Nat} {sc : Scope} {F : PF1} {env : Env} {A : Around} {C0 : RC} {h0 : Heap}

noncomputable def SA (prog : Program) (w : World) (env : Env) (A : Around) (t : Value → Sem Unit) (x : Str) : Prop :=
  ∀ {Q : Unit → Shared → Prop} {s : Shared} {u : Value}, wpAny (model prog w) A (storeName env x u) Q noE s → wpAny (model prog w) A (t u) Q noE s
theorem sa_assign {x : Str} {p : Pos} : SA prog w env A (assign (.Name x p) env) x := fun h => wpAny_assign_Name h
theorem sa_bind {x : Str} : SA prog w env A (bindName env x) x := by
  intro Q s u h
  unfold bindName
  exact wpAny_bind (wpAny_holding (wpAny_point (wpAny_bind (wpAny_mono h (fun _ s' h' => wpAny_point h') fun _ _ x => x))))
noncomputable def SAs (prog : Program) (w : World) (env : Env) (A : Around) : List (Value → Sem Unit) → List Str → Prop
  | [], xs => xs = []
  | t :: ts, xs => ∃ x r, xs = x :: r ∧ SA prog w env A t x ∧ SAs prog w env A ts r
noncomputable def Sl (sc : Scope) : List Str → List Nat → Prop
  | [], is => is = []
  | x :: xs, is => ∃ i r, is = i :: r ∧ slotOf sc x = some i ∧ Sl sc xs r
theorem Sl.append : ∀ {xs ys : List Str} {is js : List Nat}, Sl sc xs is → Sl sc ys js → Sl sc (xs ++ ys) (is ++ js)
  | [], ys, is, js, h, h' => by cases h; exact h'
  | x :: xs, ys, is, js, h, h' => let ⟨i, r, e, a, b⟩ := h; ⟨i, r ++ js, congrArg (· ++ js) e, a, b.append h'⟩
theorem Sl.rev : ∀ {xs : List Str} {is : List Nat}, Sl sc xs is → Sl sc xs.reverse is.reverse
  | [], is, h => by cases h; rfl
  | x :: xs, is, h => by
    obtain ⟨i, r, rfl, a, b⟩ := h
    rw [List.reverse_cons, List.reverse_cons]
    exact b.rev.append ⟨i, [], rfl, a, rfl⟩
theorem RepL.rev {C : RC} {h : Heap} : ∀ {p : List PV} {v : List Value}, RepL C h p v → RepL C h p.reverse v.reverse
  | [], v, r => by cases r; rfl
  | p :: ps, v, r => by
    obtain ⟨w, r', rfl, h1, h2⟩ := r
    rw [List.reverse_cons, List.reverse_cons]
    exact h2.rev.append (RepL.one h1)

theorem assign_all : ∀ {ts : List (Value → Sem Unit)} {xs : List Str} {is : List Nat} {ws : List PV} {us : List Value} {C : RC} {σ σ' : St} {s : Shared}, SAs prog w env A ts xs → Sl sc xs is → RepL C s.heap ws us → Fra prog w mg mb hB n sc F env A C0 h0 C σ s.heap →
    putAll is ws σ = some σ' → wpAny (model prog w) A (assignInOrder ts us) (fun _ s' => (∀ b o, ¬ C.X b → s.heap.get? b = some o → s'.heap.get? b = some o) ∧ Same s s' ∧ Fra prog w mg mb hB n sc F env A C0 h0 C σ' s'.heap) noE s
  | [], xs, is, ws, us, C, σ, σ', s, h1, h2, hr, X, hp => by
    cases h1
    cases h2
    cases ws with
    | nil => cases hp; exact wpAny_pure ⟨fun _ _ _ e => e, ⟨s.heap, s.toks, s.gens, rfl, id⟩, X⟩
    | cons v ws => exact nn hp
  | t :: ts, xs, is, ws, us, C, σ, σ', s, h1, h2, hr, X, hp => by
    obtain ⟨x, r, rfl, sa, h1'⟩ := h1
    obtain ⟨i, r', rfl, hi, h2'⟩ := h2
    cases ws with
    | nil => exact nn hp
    | cons v ws =>
      obtain ⟨u, us', rfl, r1, r2⟩ := hr
      have hp : putAll r' ws (σ.put i v) = some σ' := hp
      show wpAny _ A (do holding us' (t u); assignInOrder ts us') _ _ s
      refine wpAny_bind (wpAny_holding (sa (store_ok X hi r1 fun h' tk hk Y => ?_)))
      exact seqE (assign_all (s := { s with heap := h', toks := tk }) h1' h2' (RepL.mono (Sub.xs hk) _ _ r2) Y hp) fun _ s2 q => ⟨fun p o hx e => q.1 p o hx (hk p o hx e), Same.heap.trans q.2.1, q.2.2⟩

theorem names_each : ∀ {ts : List Expr} {xs : List Str}, E.names ts = some xs → SAs prog w env A ((assignEach ts env).map (·.2)) xs ∧ (assignEach ts env).length = xs.length ∧ (assignEach ts env).findIdx? (·.1) = none ∧ ts.length = xs.length
  | [], xs, h => by cases h; exact ⟨rfl, rfl, rfl, rfl⟩
  | t :: ts, xs, h => by
    obtain ⟨⟨⟨y, q⟩, rfl⟩, _, h⟩ := Option.bind_eq_some_iff.mp h
    obtain ⟨r, e, rfl⟩ := Option.map_eq_some_iff.mp h
    obtain ⟨h1, h2, h3, h4⟩ := names_each (ts := ts) e
    refine ⟨⟨_, r, rfl, sa_assign, h1⟩, congrArg (· + 1) h2, ?_, congrArg (· + 1) h4⟩
    show List.findIdx? _ ((false, _) :: assignEach ts env) = none
    rw [List.findIdx?_cons, h3]; rfl

theorem names_bind : ∀ {xs : List Str}, SAs prog w env A (xs.map fun x => bindName env x) xs
  | [] => rfl
  | x :: xs => ⟨x, xs, rfl, sa_bind, names_bind⟩

theorem names_filter {f : Expr → Option Str} (hf : ∀ x p, f (.Name x p) = some x ∨ f (.Name x p) = none) : ∀ {ts : List Expr} {xs : List Str}, E.names ts = some xs → (ts.filterMap f).length = ts.length → ts.filterMap f = xs
  | [], xs, h, _ => by cases h; rfl
  | t :: ts, xs, h, hl => by
    obtain ⟨z, _, h⟩ := Option.bind_eq_some_iff.mp h
    obtain ⟨r, e, rfl⟩ := Option.map_eq_some_iff.mp h
    have hq := hf z.1.1 z.1.2
    rw [← z.2] at hq
    rcases hq with q | q
    · rw [List.filterMap_cons, q] at hl ⊢
      exact congrArg _ (names_filter hf e (Nat.succ.inj hl))
    · rw [List.filterMap_cons, q] at hl
      have := List.length_filterMap_le f ts
      simp at hl; lia

theorem swap_cases {ts vs : List Expr} {k k' : Nat} {p p' : Pos} {xs : List Str} (h : E.names ts = some xs) (ht : tupOk vs = true) :
    swappedStores [.Tuple ts k p] (.Tuple vs k' p') env = pure none ∨ swappedStores [.Tuple ts k p] (.Tuple vs k' p') env = pure (some xs) := by
  unfold swappedStores
  dsimp only
  split
  · exact .inl rfl
  split
  · exact .inl rfl
  split
  · exact .inl rfl
  rename_i hc
  split
  · exact .inl rfl
  rename_i hf
  split
  · rename_i hc2
    exfalso
    unfold tupOk at ht
    rw [hc2] at ht
    simp only [Bool.not_true, Bool.or_false] at ht
    exact hf ht
  · right
    simp only [bne_iff_ne, ne_eq, Bool.or_eq_true, decide_eq_true_eq, not_or, Decidable.not_not] at hc
    congr 2
    refine names_filter (fun x q => ?_) h hc.1
    dsimp only
    split
    · exact .inl rfl
    · exact .inr rfl
end
end Mine

namespace Mine
open StrLaws
section
variable {prog : Program} {w : World} {mg mb : Str → Option Value} {hB : Heap} {n : Nat} {sc : Scope} {F : PF1} {env : Env} {A : Around} {C0 : RC} {h0 : Heap}

theorem KN.but {h h' : Heap} {a : Addr} (ha : hsz h ≤ a) (hk : Heap.ExtBut a h h') : KN h h' := (KN.refl h).above ha fun p o hp e => hk p o hp e

theorem Sl.len : ∀ {xs : List Str} {is : List Nat}, Sl sc xs is → xs.length = is.length
  | [], is, h => by cases h; rfl
  | x :: xs, is, h => by obtain ⟨i, r, rfl, a, b⟩ := h; exact congrArg (· + 1) b.len

theorem asgt_ok {ts vs : List Expr} {xs : List Str} {is : List Nat} {ps : PEs} {k k' : Nat} {p p' pos : Pos} (hx : E.names ts = some xs) (hsl : Sl sc xs is) (hnd : is.Nodup)
    (hs : SS prog w mg mb hB n sc vs ps) (hns : NoStars vs = true) (hl : ps.len ≤ 64) (htup : tupOk vs = true) : XS prog w mg mb hB n sc (.Assign [.Tuple ts k p] (.Tuple vs k' p') pos) (.asgt is ps) := by
  intro N F env A C0 h0 C σ s σ' f X h
  obtain ⟨pvs, e1, h⟩ := Option.bind_eq_some_iff.mp h
  obtain ⟨σ1, e3, h⟩ := Option.map_eq_some_iff.mp h
  cases h
  rw [exec_Assign_arm]
  refine wpAny_bind (wpAny_standAt ?_)
  rw [show swapsWithSole [.Tuple ts k p] (.Tuple vs k' p') pos.line env = pure false from rfl]
  refine wpAny_bind (wpAny_pure ?_)
  rw [if_neg (by decide)]
  refine wpAny_bind (wpAny_Tuple_spliced ?_)
  rw [backTo_of hns]
  refine seqE (hs X.cx e1) fun us s1 q => ?_
  obtain ⟨k1, R1⟩ := q
  have kp2 : Keeps s1 { s1 with heap := s1.heap.push { cls := .type "tuple", data := .seq us.toArray } } := kpush
  have Y1 := X.keep (kheap (ktrans k1 kp2))
  have R1 := R1.keep (kheap kp2)
  have ht : (s1.heap.push { cls := .type "tuple", data := .seq us.toArray }).IsTuple s1.heap.objs.size us.toArray := ⟨_, Heap.get?_push_size _ rfl, rfl, _, rfl⟩
  obtain ⟨hsa, hn1, hn2, hn3⟩ := names_each (prog := prog) (w := w) (env := env) (A := A) hx
  have hul : us.length = xs.length := R1.length.trans ((putAll_len e3).symm.trans hsl.len.symm)
  have fin : ∀ (h' : Heap), Heap.ExtBut (s1.heap.push { cls := .type "tuple", data := .seq us.toArray }).objs.size (s1.heap.push { cls := .type "tuple", data := .seq us.toArray }) h' → ∀ {tts : List (Value → Sem Unit)} {xs' : List Str} {is' : List Nat} {ws' : List PV} {us' : List Value},
      SAs prog w env A tts xs' → Sl sc xs' is' → RepL C (s1.heap.push { cls := .type "tuple", data := .seq us.toArray }) ws' us' → putAll is' ws' σ = some σ' →
      wpAny (model prog w) A (assignInOrder tts us') (fun _ => Res prog w mg mb hB n sc F env A C0 h0 C s σ' .next .next) noE { s1 with heap := h' } := by
    intro h' hext tts xs' is' ws' us' a1 a2 a3 a4
    have kn := KN.but (hsz_size _) hext
    refine seqE (assign_all (s := { s1 with heap := h' }) a1 a2 (a3.keep kn) (Y1.keep kn) a4) fun _ s3 q => ?_
    exact ⟨_, (Big.of_kn ((kheap (ktrans k1 kp2)).trans kn)).trans (.xs q.1), (Same.of k1).trans (Same.heap.trans q.2.1), q.2.2, rfl⟩
  refine ⟨?_, ?_⟩
  · rw [R1.length, evs_len e1, sizeLine_eq]; lia
  rcases swap_cases (env := env) (k := k) (k' := k') (p := p) (p' := p') hx htup with hsw | hsw
  · rw [hsw]
    refine wpAny_bind (wpAny_pure ?_)
    show wpAny _ A (do assignAll _ ((assignEach [.Tuple ts k p] env).map (·.2)); (pure Flow.next : Sem Flow)) _ _ _
    refine wpAny_bind ?_
    show wpAny _ A (assign (.Tuple ts k p) env (.ref s1.heap.objs.size)) _ _ _
    refine wpAny_assign_Tuple X.cx.R.handled ht (by rw [hn1]; exact hul.symm) hn2 fun h' hext => ?_
    exact seqE (fin h' hext hsa hsl R1 e3) fun _ s3 r => wpAny_pure r
  · rw [hsw]
    refine wpAny_bind (wpAny_pure ?_)
    show wpAny _ A (do rule "assign.swapped-stores"; let items ← unpackItems _ xs.length none; assignInOrder (xs.reverse.map fun n => bindName env n) items.reverse; (pure Flow.next : Sem Flow)) _ _ _
    refine wpAny_bind (wpAny_rule (wpAny_bind ?_))
    have hsz : xs.length = us.toArray.size := hul.symm
    rw [hsz]
    refine wpAny_unpackItems_tuple X.cx.R.handled ht fun h' hext => ?_
    exact wpAny_bind (seqE (fin h' hext (names_bind (xs := xs.reverse)) hsl.rev R1.rev (putAll_rev hnd e3)) fun _ s3 r => wpAny_pure r)
theorem asg2_ok {ts : List Expr} {e : Expr} {xs : List Str} {i j : Nat} {p : PE} {k k' : Nat} {p1 p2 lp pos : Pos} (hx : E.names ts = some xs) (hsl : Sl sc xs [i, j]) (hij : i ≠ j)
    (he : ES prog w mg mb hB n sc e p) (hns : NoStars [e, .List [] lp] = true) (htup : tupOk [e, .List [] lp] = true) : XS prog w mg mb hB n sc (.Assign [.Tuple ts k p1] (.Tuple [e, .List [] lp] k' p2) pos) (.asg2 i j p) := by
  intro N F env A C0 h0 C σ s σ' f X h
  obtain ⟨pv, e1, h⟩ := Option.map_eq_some_iff.mp h
  cases h
  rw [exec_Assign_arm]
  refine wpAny_bind (wpAny_standAt ?_)
  rw [show swapsWithSole [.Tuple ts k p1] (.Tuple [e, .List [] lp] k' p2) pos.line env = pure false from rfl]
  refine wpAny_bind (wpAny_pure ?_)
  rw [if_neg (by decide)]
  refine wpAny_bind (wpAny_Tuple_spliced ?_)
  rw [backTo_of hns]
  refine Calls.spliced_cons (seqE (he X.cx e1) fun u s1 q => ?_)
  obtain ⟨k1, r1⟩ := q
  refine Calls.spliced_cons (seqE (list_fresh (pos := lp) (vs := []) ss_nil rfl (Nat.zero_le _) (X.keep (kheap k1)).cx rfl) fun v s2 q => Calls.spliced_nil ?_)
  obtain ⟨k2, a, ys, rfl, ha, hp, hr⟩ := q
  have ha0 : hsz s.heap ≤ a := Nat.le_trans (kheap k1).szle ha
  have k12 := ktrans k1 k2
  have Y0 := X.fresh (kheap k12) ha0 hp hr
  have kp2 : Keeps s2 { s2 with heap := s2.heap.push { cls := .type "tuple", data := .seq ([u, Value.ref a] : List Value).toArray } } := kpush
  have Y1 := Y0.keep (kheap kp2)
  have ru : Rep (C.own a) s2.heap pv u := Rep.mono (own_sub (C := C)) _ _ (Rep.mono (Sub.plus (kheap k2) fun b q => by subst q; exact ha) _ _ r1)
  have R1 : RepL (C.own a) (s2.heap.push { cls := .type "tuple", data := .seq ([u, Value.ref a] : List Value).toArray }) [pv, .own σ.O.length] [u, .ref a] := ⟨u, _, rfl, ru.keep (kheap kp2), .ref a, [], rfl, own_rep Y1, rfl⟩
  have ht : (s2.heap.push { cls := .type "tuple", data := .seq ([u, Value.ref a] : List Value).toArray }).IsTuple s2.heap.objs.size ([u, Value.ref a] : List Value).toArray := ⟨_, Heap.get?_push_size _ rfl, rfl, _, rfl⟩
  obtain ⟨hsa, hn1, hn2, hn3⟩ := names_each (prog := prog) (w := w) (env := env) (A := A) hx
  have hul : 2 = xs.length := hsl.len.symm
  have e3 : putAll [i, j] [pv, .own σ.O.length] ⟨σ.G, σ.O ++ [some []]⟩ = some ((σ.put i pv).new j []) := rfl
  have hnd : [i, j].Nodup := by simp [hij]
  have fin : ∀ (h' : Heap), Heap.ExtBut (s2.heap.push { cls := .type "tuple", data := .seq ([u, Value.ref a] : List Value).toArray }).objs.size (s2.heap.push { cls := .type "tuple", data := .seq ([u, Value.ref a] : List Value).toArray }) h' → ∀ {tts : List (Value → Sem Unit)} {xs' : List Str} {is' : List Nat} {ws' : List PV} {us' : List Value},
      SAs prog w env A tts xs' → Sl sc xs' is' → RepL (C.own a) (s2.heap.push { cls := .type "tuple", data := .seq ([u, Value.ref a] : List Value).toArray }) ws' us' → putAll is' ws' ⟨σ.G, σ.O ++ [some []]⟩ = some ((σ.put i pv).new j []) →
      wpAny (model prog w) A (assignInOrder tts us') (fun _ => Res prog w mg mb hB n sc F env A C0 h0 C s ((σ.put i pv).new j []) .next .next) noE { s2 with heap := h' } := by
    intro h' hext tts xs' is' ws' us' a1 a2 a3 a4
    have kn := KN.but (hsz_size _) hext
    refine seqE (assign_all (s := { s2 with heap := h' }) a1 a2 (a3.keep kn) (Y1.keep kn) a4) fun _ s3 q => ?_
    exact ⟨_, (own_big (kheap k12) ha0).trans ((Big.of_kn ((kheap kp2).trans kn)).trans (.xs q.1)), (Same.of k12).trans (Same.heap.trans q.2.1), q.2.2, rfl⟩
  refine ⟨by show 2 ≤ sizeLine; rw [sizeLine_eq]; decide, ?_⟩
  rcases swap_cases (env := env) (k := k) (k' := k') (p := p1) (p' := p2) hx htup with hsw | hsw
  · rw [hsw]
    refine wpAny_bind (wpAny_pure ?_)
    show wpAny _ A (do assignAll _ ((assignEach [.Tuple ts k p1] env).map (·.2)); (pure Flow.next : Sem Flow)) _ _ _
    refine wpAny_bind ?_
    show wpAny _ A (assign (.Tuple ts k p1) env (.ref s2.heap.objs.size)) _ _ _
    refine wpAny_assign_Tuple X.cx.R.handled ht (by rw [hn1]; exact hul.symm) hn2 fun h' hext => ?_
    exact seqE (fin h' hext hsa hsl R1 e3) fun _ s3 r => wpAny_pure r
  · rw [hsw]
    refine wpAny_bind (wpAny_pure ?_)
    show wpAny _ A (do rule "assign.swapped-stores"; let items ← unpackItems _ xs.length none; assignInOrder (xs.reverse.map fun n => bindName env n) items.reverse; (pure Flow.next : Sem Flow)) _ _ _
    refine wpAny_bind (wpAny_rule (wpAny_bind ?_))
    have hsz : xs.length = ([u, Value.ref a] : List Value).toArray.size := hul.symm
    rw [hsz]
    refine wpAny_unpackItems_tuple X.cx.R.handled ht fun h' hext => ?_
    exact wpAny_bind (seqE (fin h' hext (names_bind (xs := xs.reverse)) hsl.rev R1.rev (putAll_rev hnd e3)) fun _ s3 r => wpAny_pure r)
end
end Mine

namespace Mine
open StrLaws
section
variable {prog : Program} {w : World} {mg mb : Str → Option Value} {hB : Heap} {n : Nat} {sc : Scope}

theorem bad_ok {st : Stmt} : XS prog w mg mb hB n sc st badS := by
  intro N F env A C0 h0 C σ s σ' f X h
  exact nn h

theorem slots_sl : ∀ {xs : List Str} {is : List Nat}, slots sc xs = some is → Sl sc xs is
  | [], is, h => by cases h; rfl
  | x :: xs, is, h => by
    obtain ⟨i, e1, h⟩ := Option.bind_eq_some_iff.mp h
    obtain ⟨r, e2, rfl⟩ := Option.map_eq_some_iff.mp h
    exact ⟨i, r, rfl, e1, slots_sl e2⟩

noncomputable def SndS (prog : Program) (w : World) (mg mb : Str → Option Value) (hB : Heap) (n : Nat) (mu : List Str) (k : Nat) : Prop := ∀ (sc : Scope) (st : Stmt) (p : PS), cS mu k sc st = some p → XS prog w mg mb hB n sc st p

theorem cSs_snd {mu : List Str} {k : Nat} (S : SndS prog w mg mb hB n mu k) (sts : List Stmt) : ∀ {ps : PSs}, cSs (cS mu k sc) sts = some ps → XSS prog w mg mb hB n sc sts ps := by
  induction sts with
  | nil => intro ps h; cases h; exact xss_nil
  | cons st r ih =>
    intro ps h
    obtain ⟨q, e2, rfl⟩ := Option.map_eq_some_iff.mp h
    refine xss_cons ?_ (ih e2)
    cases e1 : cS mu k sc st with
    | none => exact bad_ok
    | some p => exact S _ _ _ e1

theorem cAsgE_snd {k : Nat} (S : Snd prog w mg mb hB n k) {x : Str} {v : Expr} {tp pos : Pos} {q : PS} (h : cAsgE (cE k) sc x v = some q) : XS prog w mg mb hB n sc (.Assign [.Name x tp] v pos) q := by
  obtain ⟨hc, h⟩ := ite_some h
  obtain ⟨i, e0, h⟩ := Option.bind_eq_some_iff.mp h
  obtain ⟨pe, e2, rfl⟩ := Option.map_eq_some_iff.mp h
  exact asg_ok hc e0 (S _ _ _ e2).1
theorem cAsgA_snd {x : Str} {o : Expr} {m : Str} {ap tp pos : Pos} {q : PS} (h : cAsgA sc x o m = some q) : XS prog w mg mb hB n sc (.Assign [.Name x tp] (.Attribute o m ap) pos) q := by
  obtain ⟨z, _, h⟩ := Option.bind_eq_some_iff.mp h
  obtain ⟨hc, h⟩ := ite_some h
  obtain ⟨i, e0, h⟩ := Option.bind_eq_some_iff.mp h
  obtain ⟨j, e1, rfl⟩ := Option.map_eq_some_iff.mp h
  rw [z.2]
  cases beq_iff_eq.mp (and_t hc).1
  exact asga_ok (not_t (and_t hc).2) e0 e1
theorem cAsgO_snd {k : Nat} (S : Snd prog w mg mb hB n k) {x : Str} {es : List Expr} {p tp pos : Pos} {q : PS} (h : cAsgO (cE k) sc x es = some q) : XS prog w mg mb hB n sc (.Assign [.Name x tp] (.List es p) pos) q := by
  obtain ⟨i, e0, h⟩ := Option.bind_eq_some_iff.mp h
  obtain ⟨hn, h⟩ := ite_some h
  obtain ⟨ps, e1, h⟩ := Option.bind_eq_some_iff.mp h
  obtain ⟨hl, h⟩ := ite_some h
  cases h
  exact asgo_ok e0 (cEs_snd S e1).1 hn hl
theorem cAsgC_snd {k : Nat} (S : Snd prog w mg mb hB n k) {x : Str} {elt : Expr} {gs : List Comprehension} {sc2 : Scope} {p tp pos : Pos} {q : PS} (h : ((slotOf sc x).bind fun j => (cComp (cE k) sc elt gs sc2).map fun e => PS.asg j e) = some q) : XS prog w mg mb hB n sc (.Assign [.Name x tp] (.ListComp elt gs sc2 p) pos) q := by
  obtain ⟨j, e0, h⟩ := Option.bind_eq_some_iff.mp h
  obtain ⟨pe, e9, rfl⟩ := Option.map_eq_some_iff.mp h
  obtain ⟨x, q, iter, ifs, i, it, el, cs, rfl, h1, h2, e3, e4, e5, e6, rfl⟩ := cComp_parts e9
  exact asgc_ok h1 h2 e3 (cI_snd S e4) (S _ _ _ e5).1 (cEs_snd S e6).2 e0
theorem cAsgN_snd {k : Nat} (S : Snd prog w mg mb hB n k) {mu : List Str} {x : Str} {v : Expr} {tp pos : Pos} {q : PS} (h : cAsgN mu (cE k) sc x v = some q) : XS prog w mg mb hB n sc (.Assign [.Name x tp] v pos) q := by
  unfold cAsgN at h
  cases h1 : vComp v with
  | some z => rw [h1] at h; rw [z.2]; exact cAsgC_snd S h
  | none =>
    rw [h1] at h
    clear h1
    cases h1 : vAttr v with
    | some z => rw [h1] at h; rw [z.2]; exact cAsgA_snd h
    | none =>
      rw [h1] at h
      clear h1
      cases h1 : vLst v with
      | some z =>
        rw [h1] at h
        by_cases hc : mu.contains x = true
        · rw [z.2]; exact cAsgO_snd S ((if_pos hc).symm.trans h)
        · exact cAsgE_snd S ((if_neg hc).symm.trans h)
      | none => rw [h1] at h; exact cAsgE_snd S h

theorem cAsgT_snd {k : Nat} (S : Snd prog w mg mb hB n k) {ts vs : List Expr} {k1 k2 : Nat} {p1 p2 pos : Pos} {q : PS} (h : cAsgT (cE k) sc ts vs = some q) : XS prog w mg mb hB n sc (.Assign [.Tuple ts k1 p1] (.Tuple vs k2 p2) pos) q := by
  obtain ⟨xs, e0, h⟩ := Option.bind_eq_some_iff.mp h
  obtain ⟨is, e1, h⟩ := Option.bind_eq_some_iff.mp h
  obtain ⟨ps, e2, h⟩ := Option.bind_eq_some_iff.mp h
  obtain ⟨hc, h⟩ := ite_some h
  obtain ⟨h1, hc⟩ := and_t hc
  obtain ⟨h2, hc⟩ := and_t hc
  obtain ⟨h3, h4⟩ := and_t hc
  cases h
  exact asgt_ok e0 (slots_sl e1) (of_decide_eq_true h1) (cEs_snd S e2).1 h2 (of_decide_eq_true h3) h4
theorem cAsg2_snd {k : Nat} (S : Snd prog w mg mb hB n k) {ts vs : List Expr} {e : Expr} {lp : Pos} {k1 k2 : Nat} {p1 p2 pos : Pos} {q : PS} (hv : vs = [e, .List [] lp]) (h : cAsg2 (cE k) sc ts e vs = some q) : XS prog w mg mb hB n sc (.Assign [.Tuple ts k1 p1] (.Tuple vs k2 p2) pos) q := by
  subst hv
  obtain ⟨xs, e0, h⟩ := Option.bind_eq_some_iff.mp h
  obtain ⟨is, e1, h⟩ := Option.bind_eq_some_iff.mp h
  obtain ⟨z, _, h⟩ := Option.bind_eq_some_iff.mp h
  obtain ⟨pe, e2, h⟩ := Option.bind_eq_some_iff.mp h
  obtain ⟨hc, h⟩ := ite_some h
  obtain ⟨h1, hc⟩ := and_t hc
  cases h
  have hsl := slots_sl e1
  rw [z.2] at hsl
  exact asg2_ok e0 hsl (of_decide_eq_true h1) (S _ _ _ e2).1 (and_t hc).1 (and_t hc).2
theorem cAsgT'_snd {k : Nat} (S : Snd prog w mg mb hB n k) {mu : List Str} {ts vs : List Expr} {k1 k2 : Nat} {p1 p2 pos : Pos} {q : PS} (h : cAsgT' mu (cE k) sc ts vs = some q) : XS prog w mg mb hB n sc (.Assign [.Tuple ts k1 p1] (.Tuple vs k2 p2) pos) q := by
  unfold cAsgT' at h
  cases he : emptyOf vs with
  | none => rw [he] at h; exact cAsgT_snd S h
  | some z =>
    rw [he] at h
    by_cases hc : ((E.names ts).any fun xs => xs.any fun x => mu.contains x) = true
    · exact cAsg2_snd S z.2 ((if_pos hc).symm.trans h)
    · exact cAsgT_snd S ((if_neg hc).symm.trans h)
theorem cAsg_snd {k : Nat} (S : Snd prog w mg mb hB n k) {mu : List Str} {ts : List Expr} {v : Expr} {pos : Pos} {q : PS} (h : cAsg mu k sc ts v = some q) : XS prog w mg mb hB n sc (.Assign ts v pos) q := by
  obtain ⟨z, _, h⟩ := Option.bind_eq_some_iff.mp h
  rw [z.2]
  cases h1 : vName z.1 with
  | some y => rw [h1] at h; rw [y.2]; exact cAsgN_snd S h
  | none =>
    rw [h1] at h
    obtain ⟨a, _, h⟩ := Option.bind_eq_some_iff.mp h
    obtain ⟨b, _, h⟩ := Option.bind_eq_some_iff.mp h
    rw [a.2, b.2]
    exact cAsgT'_snd S h

theorem appf2 {x : Str} {px p pos : Pos} {e v : Expr} {g a : Expr} {args : List Expr} {q : PS} (ha : v = .Call g args [] p) (hz : g = .Name x px ∧ args = [e]) (h : XS prog w mg mb hB n sc (.Expr (.Call (.Name x px) [e] [] p) pos) q) : XS prog w mg mb hB n sc (.Expr v pos) q := by
  obtain ⟨rfl, rfl⟩ := hz; subst ha; exact h
theorem app2 {x : Str} {px ap p pos : Pos} {e v : Expr} {g : Expr} {args : List Expr} {q : PS} (ha : v = .Call g args [] p) (hz : g = .Attribute (.Name x px) "append" ap ∧ args = [e]) (h : XS prog w mg mb hB n sc (.Expr (.Call (.Attribute (.Name x px) "append" ap) [e] [] p) pos) q) : XS prog w mg mb hB n sc (.Expr v pos) q := by
  obtain ⟨rfl, rfl⟩ := hz; subst ha; exact h
theorem cApp_snd {k : Nat} (S : Snd prog w mg mb hB n k) {x : Str} {px ap p pos : Pos} {e : Expr} {q : PS} (h : cApp (cE k sc) sc x ap p e = some q) : XS prog w mg mb hB n sc (.Expr (.Call (.Attribute (.Name x px) "append" ap) [e] [] p) pos) q := by
  obtain ⟨hc, h⟩ := ite_some h
  obtain ⟨h1, hc⟩ := and_t hc
  obtain ⟨i, e0, h⟩ := Option.bind_eq_some_iff.mp h
  obtain ⟨pe, e2, rfl⟩ := Option.map_eq_some_iff.mp h
  exact app_ok (not_t (and_t hc).1) h1 (and_t hc).2 e0 (S _ _ _ e2).1
theorem cAppf_snd {k : Nat} (S : Snd prog w mg mb hB n k) {x : Str} {px p pos : Pos} {e : Expr} {q : PS} (h : cAppf (cE k sc) sc x e = some q) : XS prog w mg mb hB n sc (.Expr (.Call (.Name x px) [e] [] p) pos) q := by
  obtain ⟨hd, h⟩ := ite_no h
  obtain ⟨hn, h⟩ := ite_some h
  obtain ⟨i, e0, h⟩ := Option.bind_eq_some_iff.mp h
  obtain ⟨pe, e2, rfl⟩ := Option.map_eq_some_iff.mp h
  exact appf_ok (Bool.eq_false_iff.mpr hd) hn e0 (S _ _ _ e2).1
theorem cExprS_snd {k : Nat} (S : Snd prog w mg mb hB n k) {e : Expr} {pos : Pos} {q : PS} (h : cExprS (cE k sc) sc e = some q) : XS prog w mg mb hB n sc (.Expr e pos) q := by
  obtain ⟨z, _, h⟩ := Option.bind_eq_some_iff.mp h
  cases hp : popOf "append" z.1.1 z.1.2.1 with
  | some y => rw [hp] at h; exact app2 z.2 y.2 (cApp_snd S h)
  | none =>
    rw [hp] at h
    obtain ⟨y, _, h⟩ := Option.bind_eq_some_iff.mp h
    exact appf2 (a := e) z.2 y.2 (cAppf_snd S h)
theorem cAug_snd {k : Nat} (S : Snd prog w mg mb hB n k) {mu : List Str} {t e : Expr} {pos : Pos} {q : PS} (h : cAug mu (cE k sc) sc t e = some q) : XS prog w mg mb hB n sc (.AugAssign t .Add e pos) q := by
  obtain ⟨z, _, h⟩ := Option.bind_eq_some_iff.mp h
  obtain ⟨_, h⟩ := ite_no h
  obtain ⟨hd, h⟩ := ite_no h
  obtain ⟨i, e0, h⟩ := Option.bind_eq_some_iff.mp h
  obtain ⟨pe, e2, rfl⟩ := Option.map_eq_some_iff.mp h
  rw [z.2]
  exact aug_ok (Bool.eq_false_iff.mpr hd) e0 (S _ _ _ e2).1
theorem cFor_snd {k : Nat} (S : Snd prog w mg mb hB n k) {mu : List Str} (SS' : SndS prog w mg mb hB n mu k) {t it : Expr} {a : List Stmt} {pos : Pos} {q : PS} (h : cFor (cE k sc) (cS mu k sc) sc t it a = some q) : XS prog w mg mb hB n sc (.For t it a [] pos) q := by
  obtain ⟨z, _, h⟩ := Option.bind_eq_some_iff.mp h
  obtain ⟨hc, h⟩ := ite_some h
  obtain ⟨i, e0, h⟩ := Option.bind_eq_some_iff.mp h
  obtain ⟨it, e1, h⟩ := Option.bind_eq_some_iff.mp h
  obtain ⟨a, e2, rfl⟩ := Option.map_eq_some_iff.mp h
  rw [z.2]
  exact fr_ok hc e0 (cI_snd S e1) (cSs_snd SS' _ e2)

theorem cS1_snd (hre : Prims prog w mg mb hB) (mu : List Str) {k : Nat} (SS' : SndS prog w mg mb hB n mu k) {st : Stmt} {p : PS} (h : cS1 mu k (cS mu k sc) sc st = some p) : XS prog w mg mb hB n sc st p := by
  have S : Snd prog w mg mb hB n k := cE_snd hre k
  cases st with
  | Assign ts v pos => exact cAsg_snd S h
  | AugAssign t op e pos =>
    cases op with
    | Add => exact cAug_snd S h
    | _ => exact nn h
  | Expr e pos => exact cExprS_snd S h
  | If c a b pos =>
    obtain ⟨c, e0, h⟩ := Option.bind_eq_some_iff.mp h
    obtain ⟨a, e1, h⟩ := Option.bind_eq_some_iff.mp h
    obtain ⟨b, e2, rfl⟩ := Option.map_eq_some_iff.mp h
    exact ite_ok (S _ _ _ e0).2 (cSs_snd SS' _ e1) (cSs_snd SS' _ e2)
  | While c a els pos =>
    cases els with
    | cons _ _ => exact nn h
    | nil =>
      obtain ⟨c, e0, h⟩ := Option.bind_eq_some_iff.mp h
      obtain ⟨a, e1, rfl⟩ := Option.map_eq_some_iff.mp h
      exact wh_ok (S _ _ _ e0).2 (cSs_snd SS' _ e1)
  | For t it a els pos =>
    cases els with
    | cons _ _ => exact nn h
    | nil => exact cFor_snd S SS' h
  | Return v pos =>
    cases v with
    | none => exact nn h
    | some e =>
      obtain ⟨pe, e1, rfl⟩ := Option.map_eq_some_iff.mp h
      exact ret_ok (S _ _ _ e1).1
  | Break pos => cases h; exact brk_ok
  | Assert c m pos =>
    obtain ⟨pe, e1, rfl⟩ := Option.map_eq_some_iff.mp h
    exact asrt_ok (S _ _ _ e1).2
  | _ => exact nn h
theorem cS_snd (hre : Prims prog w mg mb hB) (mu : List Str) (k : Nat) : SndS prog w mg mb hB n mu k := by
  induction k with
  | zero => intro sc st p h; cases h
  | succ k ih => intro sc st p h; exact cS1_snd hre mu ih h
end
end Mine

namespace Mine
open StrLaws

theorem Room.deeper {n : Nat} {A : Around} {env : Env} (R : Room (n + 1) A) : Room n (A.deeper env) where
  handled := R.handled
  depth := by have := R.depth; show A.depth + 1 + n < recursionLimit; lia
  units := by have := R.units; show A.units + 3 + 200 + 20 * n < cLine; lia

theorem bindL_other {kindOf : Str → Option NameKind} {y : Str} : ∀ {binds : List (Str × Value)} {m : Str → Option Value}, (∀ q ∈ binds, q.1 ≠ y) → bindL kindOf binds m y = m y
  | [], _, _ => rfl
  | (n, v) :: r, m, h => by
    unfold bindL
    rw [bindL_other fun q hq => h q (List.mem_cons_of_mem _ hq)]
    split
    · exact if_neg fun (e : y = n) => h (n, v) List.mem_cons_self e.symm
    · rfl
theorem bindC_other {kindOf : Str → Option NameKind} {y : Str} : ∀ {binds : List (Str × Value)} {m : Str → Option Value}, (∀ q ∈ binds, q.1 ≠ y) → bindC kindOf binds m y = m y
  | [], _, _ => rfl
  | (n, v) :: r, m, h => by
    unfold bindC
    rw [bindC_other fun q hq => h q (List.mem_cons_of_mem _ hq)]
    split
    · rfl
    · exact if_neg fun (e : y = n) => h (n, v) List.mem_cons_self e.symm
theorem bindL_at {kindOf : Str → Option NameKind} {y : Str} {u : Value} (hk : kindOf y = some .local) : ∀ {binds : List (Str × Value)} {m : Str → Option Value}, (binds.map (·.1)).Nodup → (y, u) ∈ binds → bindL kindOf binds m y = some u
  | (n, v) :: r, m, nd, h => by
    obtain ⟨n1, n2⟩ := List.nodup_cons.mp nd
    unfold bindL
    rcases List.mem_cons.mp h with e | h
    · cases e
      rw [bindL_other (fun q hq (e : q.1 = y) => n1 (by show y ∈ r.map (·.1); rw [← e]; exact List.mem_map_of_mem hq)), if_pos hk]
      simp
    · exact bindL_at hk n2 h
theorem bindC_at {kindOf : Str → Option NameKind} {y : Str} {u : Value} (hk : kindOf y ≠ some .local) : ∀ {binds : List (Str × Value)} {m : Str → Option Value}, (binds.map (·.1)).Nodup → (y, u) ∈ binds → bindC kindOf binds m y = some u
  | (n, v) :: r, m, nd, h => by
    obtain ⟨n1, n2⟩ := List.nodup_cons.mp nd
    unfold bindC
    rcases List.mem_cons.mp h with e | h
    · cases e
      rw [bindC_other (fun q hq (e : q.1 = y) => n1 (by show y ∈ r.map (·.1); rw [← e]; exact List.mem_map_of_mem hq)), if_neg hk]
      simp
    · exact bindC_at hk n2 h
theorem cellsFrom_acc : ∀ {names : List (Str × NameKind)} {k : Nat} {acc : List (Str × Addr)} {x : Str}, (acc.lookup x).isSome = true → ((cellsFrom k names acc).lookup x).isSome = true
  | [], _, _, _, h => h
  | (y, kind) :: r, k, acc, x, h => by
    unfold cellsFrom
    split
    · refine cellsFrom_acc ?_
      rw [List.lookup_cons]
      split
      · rfl
      · exact h
    · exact cellsFrom_acc h
theorem cellsFrom_mem : ∀ {names : List (Str × NameKind)} {k : Nat} {acc : List (Str × Addr)} {x : Str}, (x, NameKind.cell) ∈ names → ((cellsFrom k names acc).lookup x).isSome = true
  | (y, kind) :: r, k, acc, x, h => by
    unfold cellsFrom
    rcases List.mem_cons.mp h with e | h
    · cases e
      simp only [beq_self_eq_true, if_true]
      exact cellsFrom_acc (by simp)
    · split
      · exact cellsFrom_mem h
      · exact cellsFrom_mem h

/-- what the evaluator's slots are at the start -/
structure EntryOk (sc : Scope) (ps : List Str) : Prop where
  kind : sc.kind = .function
  co : sc.isCoroutine = false
  gen : sc.isGenerator = false
  nf : ∀ x, sc.names.lookup x ≠ some .free
  nd : ps.Nodup
  at_ : ∀ (i : Nat) x, ps[i]? = some x → sc.names.lookup x = some .local ∨ sc.names.lookup x = some .cell
  slot : ∀ (i : Nat) x, slotOf sc x = some i → i < ps.length → ps[i]? = some x

section
variable {prog : Program} {w : World} {mg mb : Str → Option Value} {hB : Heap}

theorem fn_frame {n : Nat} {F : PF1} {x : Str} {a : Addr} {o : Obj} {fd : FuncData} {body : List Stmt} {params : List Str} {c : Addr} {oc : Obj} {vs : Array Value} {t : Tok} {args args' : List PV} {r : PV}
    (base : Base mg mb hB) (FS : FsOk prog w mg hB n F) (hm : mg x = some (.ref a)) (ho : hB.get? a = some o) (hd : o.data = .func fd) (hbody : fd.body = .stmts body) (hclo : fd.closure = []) (hglb : fd.globals = mainGlobals) (hblt : fd.builtins = builtinsNs)
    (hcode : fd.code = .ref c) (hoc : hB.get? c = some oc) (hocn : NoTab oc) (hocd : oc.data = .fields vs) (hq : vs[1]? = some (.str fd.qualname t)) (hcdv : (slotOf fd.scope "stuff").isSome = true → c = CT)
    (E : EntryOk fd.scope params) (hlen : args'.length = params.length)
    (hbind : ∀ (C : RC) (vals : List Value) (A : Around) (s : Shared), (∀ b, C.X b → ∃ o, NoTab o ∧ s.heap.get? b = some o) → RepL C s.heap args vals → noOwnL args = true → wpAny (model prog w) A (bindArgs fd ⟨vals, []⟩) (fun binds s₁ => Keeps s s₁ ∧ ∃ us, binds = params.zip us ∧ RepL C s₁.heap args' us) noE s)
    (hno : noOwnL args = true → noOwnL args' = true)
    (hrn : noOwn r = true)
    (run : ∀ (env : Env) (A' : Around) (C : RC) (h0 : Heap) (C1 : RC) (s₂ : Shared), noOwnL args' = true → Fra prog w mg mb hB n fd.scope F env A' C h0 C1 ⟨args'.map some ++ List.replicate (fd.scope.names.length - args'.length) none, []⟩ s₂.heap →
      wpAny (model prog w) A' (execs body env) (fun fl s' => KN h0 s'.heap ∧ Same s₂ s' ∧ Rep C s'.heap r (match fl with | .ret v => v | _ => .none)) noE s₂) : FnOk prog w mg hB (n + 1) x args r := by
  refine ⟨a, fd, o, hm, ho, hd, hrn, fun C vals A s hk hX hrep hnoa R => ?_⟩
  refine wpAny_call (codeAny_call_function (Nat.lt_of_le_of_lt (Nat.le_add_right _ _) R.depth) (hk.func ho hd) hd E.co E.gen hbody ⟨c, oc, vs, t, hcode, hk.nt _ _ hocn hoc, hocd, hq⟩ ?_)
  refine seqE (hbind C vals A.in1 s hX hrep hnoa) fun binds s₁ ⟨k1, us, hbs, hru⟩ => ?_
  subst hbs
  rw [hclo]
  have hul := hru.length
  have hmap : (params.zip us).map (·.1) = params := List.map_fst_zip (by lia)
  have hlu : params.length = us.length := by lia
  have hkinds : ∀ q ∈ params.zip us, fd.scope.names.lookup q.1 = some .local ∨ (fd.scope.names.lookup q.1 = some .cell ∧ ((cellsFrom (s₁.heap.objs.size + 1) fd.scope.names []).lookup q.1).isSome = true) := by
    intro q hq
    have hq1 : q.1 ∈ params := hmap ▸ List.mem_map_of_mem hq
    obtain ⟨i, hi⟩ := List.getElem?_of_mem hq1
    rcases E.at_ i q.1 hi with h1 | h1
    · exact .inl h1
    · exact .inr ⟨h1, cellsFrom_mem (mem_of_lookup h1)⟩
  have hX1 : ∀ b, C.X b → ∃ o, NoTab o ∧ s₁.heap.get? b = some o := fun b hb => let ⟨o, nt, e⟩ := hX b hb; ⟨o, nt, (kheap k1).nt _ _ nt e⟩
  have hk1 : KN hB s₁.heap := hk.trans (kheap k1)
  refine wpAny_newFunctionEnv_cells E.kind hkinds fun env he s₂ ic => ?_
  have hen : env.scope = fd.scope := by rw [he]; rfl
  have hec : env.code = fd.code := by rw [he]; rfl
  have heg : env.globals = mainGlobals := by rw [he]; exact hglb
  have heb : env.builtins = builtinsNs := by rw [he]; exact hblt
  have heL : env.locals = s₁.heap.objs.size := by rw [he]; rfl
  have hecs : env.cells = cellsFrom (s₁.heap.objs.size + 1) fd.scope.names [] := by rw [he]; rfl
  have hkn : ∀ y, env.kindOf y = fd.scope.names.lookup y := fun y => by unfold Env.kindOf; rw [hen]
  have kn : KN s₁.heap s₂.heap := .of ic.toInCall.keep
  have same2 : Same s₁ s₂ := by obtain ⟨h', tk, e⟩ := ic.toInCall.same; exact ⟨h', tk, s₁.gens, e, id⟩
  clear he
  refine ⟨base.lim |> fun l => (hk1.trans kn).noLimit l, codeAny_func ?_⟩
  generalize hp : (fun b : Addr => b = env.locals ∨ ∃ y, env.cells.lookup y = some b) = p
  have hpp : ∀ b, p b → hsz s₁.heap ≤ b ∧ ∃ o, NoTab o ∧ s₂.heap.get? b = some o := fun b hb => by
    rw [← hp] at hb
    rcases hb with rfl | ⟨y, hy⟩
    · exact ⟨heL ▸ hsz_size _, ns_live ic.toInCall.ns⟩
    · refine ⟨Nat.le_trans (hsz_size _) (Nat.le_of_lt ?_), cell_live (ic.cell y b hy)⟩
      have := ic.above y b (mem_of_lookup hy)
      rw [heL] at this; exact this
  have S : Sub C (C.plus p) s₁.heap s₂.heap := .plus kn fun b hb => (hpp b hb).1
  have hru2 : RepL { (C.plus p) with ads := [] } s₂.heap args' us := RepL.free (C := C.plus p) (C' := { (C.plus p) with ads := [] }) rfl rfl _ _ (hno hnoa) (RepL.mono S _ _ hru)
  have X : Fra prog w mg mb hB n fd.scope F env (A.deeper env) C s₁.heap { (C.plus p) with ads := [] } ⟨args'.map some ++ List.replicate (fd.scope.names.length - args'.length) none, []⟩ s₂.heap := by
    refine ⟨⟨FS, ⟨base, by rw [hen]; exact E.kind, heg, heb, fun q => ?_, hk1.trans kn, fun y kk e => .inl (by rw [hkn]; exact e), fun y e => ?_, fun y i v e1 e2 => ?_, ⟨fun j vs e => by simp at e, fun b hb => ?_⟩⟩, R.deeper⟩, hk1, kn, fun b hb => ?_, fun b hb => .inl hb, rfl, ⟨_, ic.toInCall.ns⟩, ⟨.inr (by rw [← hp]; exact .inl rfl), heL ▸ hsz_size _⟩, fun y cc e => ?_, fun y z cc e1 e2 => ?_, fun j b e => by simp at e, fun j b vs e => by simp at e, fun j j' b e => by simp at e, rfl, E.nf, fun b hb => ?_⟩
    · rw [hec, hcode, hcdv q]
    · rcases e with e | e
      · have := cellsFrom_mem (k := s₁.heap.objs.size + 1) (acc := []) (mem_of_lookup e)
        rw [← hecs] at this
        exact Option.isSome_iff_exists.mp this
      · exact absurd e (E.nf y)
    · have hi : i < args'.length := by
        rcases Nat.lt_or_ge i args'.length with h | h
        · exact h
        · rw [List.getElem?_append_right (by simpa using h)] at e2
          simp [List.getElem?_replicate] at e2
      rw [List.getElem?_append_left (by simpa using hi), List.getElem?_map] at e2
      obtain ⟨v', ev', e3⟩ := Option.map_eq_some_iff.mp e2
      cases e3
      obtain ⟨u, eu, ru⟩ := hru2.at i v ev'
      refine ⟨u, ?_, ru⟩
      have hpi := E.slot i y e1 (by lia)
      have hmem : (y, u) ∈ params.zip us := by
        refine List.mem_of_getElem? (i := i) ?_
        rw [List.getElem?_zip_eq_some]
        exact ⟨hpi, eu⟩
      have hnd : ((params.zip us).map (·.1)).Nodup := by rw [hmap]; exact E.nd
      rcases E.at_ i y hpi with h1 | h1
      · exact .inl ⟨by rw [hkn]; exact h1, _, ic.toInCall.ns, bindL_at (by rw [hkn]; exact h1) hnd hmem⟩
      · have := cellsFrom_mem (k := s₁.heap.objs.size + 1) (acc := []) (mem_of_lookup h1)
        rw [← hecs] at this
        obtain ⟨cc, hcc⟩ := Option.isSome_iff_exists.mp this
        refine .inr ⟨.inl (by rw [hkn]; exact h1), cc, hcc, ?_⟩
        have h2 := ic.cell y cc hcc
        rwa [bindC_at (by rw [hkn, h1]; decide) hnd hmem] at h2
    · rcases hb with hb | hb
      · obtain ⟨o, nt, e⟩ := hX1 b hb
        exact ⟨o, nt, kn.nt _ _ nt e⟩
      · exact (hpp b hb).2
    · rcases hb with hb | hb
      · exact .inl hb
      · exact .inr (hpp b hb).1
    · have : p cc := by rw [← hp]; exact .inr ⟨y, e⟩
      exact ⟨.inr this, (hpp cc this).1, _, ic.cell y cc e⟩
    · exact name_of_addr ic.apart (mem_of_lookup e1) (mem_of_lookup e2)
    · obtain ⟨o, _, e⟩ := hX1 b hb
      exact hsz_lt e
  refine seqE (run env _ C _ _ s₂ (hno hnoa) X) fun fl s' ⟨b3, b2, b4⟩ => ⟨?_, b4⟩
  obtain ⟨h1, t1, g1, rfl, q1, q2⟩ := k1
  obtain ⟨h3, t3, g3, e3, q4⟩ := same2.trans b2
  subst e3
  exact ⟨h3, t3, g3, rfl, q1.trans b3, fun z => q4 (q2 z)⟩

theorem fn_entry {n N : Nat} {F : PF1} {x : Str} {a : Addr} {o : Obj} {fd : FuncData} {body : List Stmt} {mu : List Str} {k : Nat} {pss : PSs} {params : List Str} {c : Addr} {oc : Obj} {vs : Array Value} {t : Tok} {args args' : List PV} {r : PV}
    (base : Base mg mb hB) (hre : Prims prog w mg mb hB) (FS : FsOk prog w mg hB n F) (hm : mg x = some (.ref a)) (ho : hB.get? a = some o) (hd : o.data = .func fd) (hbody : fd.body = .stmts body) (hclo : fd.closure = []) (hglb : fd.globals = mainGlobals) (hblt : fd.builtins = builtinsNs)
    (hcode : fd.code = .ref c) (hoc : hB.get? c = some oc) (hocn : NoTab oc) (hocd : oc.data = .fields vs) (hq : vs[1]? = some (.str fd.qualname t)) (hcdv : (slotOf fd.scope "stuff").isSome = true → c = CT)
    (E : EntryOk fd.scope params) (hc : cSs (cS mu k fd.scope) body = some pss) (hlen : args'.length = params.length)
    (hbind : ∀ (C : RC) (vals : List Value) (A : Around) (s : Shared), (∀ b, C.X b → ∃ o, NoTab o ∧ s.heap.get? b = some o) → RepL C s.heap args vals → noOwnL args = true → wpAny (model prog w) A (bindArgs fd ⟨vals, []⟩) (fun binds s₁ => Keeps s s₁ ∧ ∃ us, binds = params.zip us ∧ RepL C s₁.heap args' us) noE s)
    (hno : noOwnL args = true → noOwnL args' = true)
    (hr : pfun N F fd.scope.names.length pss args' = some r) : FnOk prog w mg hB (n + 1) x args r := by
  obtain ⟨q, hx, hr⟩ := Option.bind_eq_some_iff.mp hr
  obtain ⟨σ', q⟩ := q
  have hrn : noOwn r = true := by
    cases q with
    | next => cases hr; rfl
    | brk => exact nn hr
    | ret v => obtain ⟨h, hr⟩ := ite_some hr; cases hr; exact h
  refine fn_frame base FS hm ho hd hbody hclo hglb hblt hcode hoc hocn hocd hq hcdv E hlen hbind hno hrn fun env A' C h0 C1 s₂ _ X => ?_
  refine seqE (cSs_snd (cS_snd hre mu k) body hc X hx) fun fl s' res => ?_
  cases q with
  | next =>
    obtain ⟨C', b1, b2, b3, rfl⟩ := res
    cases hr
    exact ⟨b3.k0, b2, rep_none⟩
  | brk => exact nn hr
  | ret v =>
    obtain ⟨C', b1, b2, b3, u, rfl, b4⟩ := res
    obtain ⟨_, hr⟩ := ite_some hr
    cases hr
    exact ⟨b3.k0, b2, b4 hrn⟩
end
end Mine

namespace Mine
open StrLaws
section
variable {prog : Program} {w : World} {A : Around} {s : Shared}

theorem sub_key_lookup : isSubtype (.type "KeyError") (.type "LookupError") = pure true := by rw [isSubtype_type]; kernel_rfl
theorem specmap_hit {f : Int → Option Value} {c : Nat} {x : Str} {t : Tok} (hm : s.heap.IntMap spA f) (hf : f c = some (.str x t)) :
    wpAny (model prog w) A (Builtin.Str.tableLookup (.ref spA) c) (fun m s' => Keeps s s' ∧ m = .text x) noE s := by
  unfold Builtin.Str.tableLookup
  refine wpAny_bind (wpAny_attempt (wpAny_bind (wpAny_mkInt (wpAny_getItem_intMap (s := { s with toks := s.toks + 1 }) hm hf ?_))))
  refine wpAny_bind (wpAny_pure ?_)
  refine wpAny_bind (wpAny_pure ?_)
  exact wpAny_pure ⟨kp, rfl⟩
theorem specmap_miss {f : Int → Option Value} {c : Nat} (hh : A.handled = none) (hm : s.heap.MapOf (intKind prog w) spA f) (hf : f c = none) :
    wpAny (model prog w) A (Builtin.Str.tableLookup (.ref spA) c) (fun m s' => Keeps s s' ∧ m = .keep) noE s := by
  have hk : (intKind prog w).is (c : Int) (.int c s.toks) = true := by
    have h1 : Value.isInt (c : Int) (.int c s.toks) = true := by simp [Value.isInt]
    exact h1
  unfold Builtin.Str.tableLookup
  refine wpAny_bind (wpAny_attempt (wpAny_bind (wpAny_mkInt (wpAny_getItem_missing_of (s := { s with toks := s.toks + 1 }) (knd := intKind prog w) (k := (c : Int)) hk (by decide) hh hm hf fun h' e hn => ?_))))
  obtain ⟨ob, tt, ho, hc, hd⟩ := hn.there
  have hT : ({ s with heap := h', toks := s.toks + 1 + 1 } : Shared).TypeIs (.ref e) "KeyError" := ⟨_, ho, hc⟩
  refine wpAny_bind (wpAny_isInstance hT sub_key_lookup ?_)
  simp only [if_true]
  exact wpAny_bind (wpAny_rule (wpAny_pure ⟨keepsOf hn.keeps, rfl⟩))

theorem spec_call {c : Nat} {t : Tok} {y : List Nat} (hlk : ∀ (A' : Around) (s' : Shared), A'.handled = none → Keeps s s' → wpAny (model prog w) A' (Builtin.Str.tableLookup (.ref spA) c) (fun m s2 => Keeps s' s2 ∧ ((y = [92, c] ∧ m = .text ⟨#[92, c]⟩) ∨ (y = [c] ∧ m = .keep))) noE s') (hh : A.handled = none) (hy : y.length ≤ 2) {C : RC} :
    wpAny (model prog w) A (call (.builtin "str.translate") [.str ⟨#[c]⟩ t, .ref spA]) (Post C s (.str y)) noE s := by
  refine wpAny_call_entry PySem.F.slot_str_translate (typeIs_str _ _ _) PySem.F.entry_str_translate ?_ (PySem.F.args_str_translate_2 _ _)
  unfold Builtin.«str.translate»
  refine wpAny_bind (wpAny_of_eq (a := (Value.str ⟨#[c]⟩ t, (⟨#[c]⟩ : Str), Value.ref spA)) (by rfl) ?_)
  dsimp only
  rw [if_neg (show ¬ (((⟨#[c]⟩ : Str).length == 0) = true) from fun h => by simp [Str.length] at h)]
  have h0 : Builtin.Str.tooLong 0 = false := by simp [Builtin.Str.tooLong]
  have tail : ∀ {s1 : Shared} {pieces : List Str} {total : Nat}, Keeps s s1 → Builtin.Str.tooLong total = false → (List.foldl (fun acc (p : Str) => acc ++ p.cps) #[] pieces.reverse).toList = y →
      wpAny (model prog w) A.in1 (if Builtin.Str.tooLong total = true then (do unsupported "str.translate:memory"; retStr { cps := List.foldl (fun acc (p : Str) => acc ++ p.cps) #[] pieces.reverse }) else retStr { cps := List.foldl (fun acc (p : Str) => acc ++ p.cps) #[] pieces.reverse })
        (fun fin s' => ∃ v, fin = Fin.done (Flow.ret v) ∧ Post C s (PV.str y) v s') noE s1 := by
    intro s1 pieces total k1 h1 h2
    rw [h1]
    simp only [Bool.false_eq_true, if_false]
    unfold retStr
    refine wpAny_bind (wpAny_mkStr (wpAny_pure ⟨_, rfl, ktrans k1 kp, rep_str' h2⟩) ?_)
    rw [str_len, h2, sizeLine_eq]; lia
  simp only [List.forIn_toArray, List.forIn_cons, List.forIn_nil]
  refine wpAny_bind (wpAny_bind ?_)
  simp only [h0, Bool.false_eq_true, if_false]
  cases hf : (#[c].all fun x => decide (x < 128)) with
  | true =>
    simp only [if_true, List.lookup_nil]
    refine wpAny_bind (seqE (hlk _ s hh (krefl s)) fun m s1 ⟨k1, hm⟩ => ?_)
    rcases hm with ⟨rfl, rfl⟩ | ⟨rfl, rfl⟩
    · have hl : ((⟨#[92, c]⟩ : Str).length == 1) = false := by simp [Str.length]
      simp only [hl, Bool.false_and, Bool.false_eq_true, if_false]
      refine wpAny_bind (wpAny_pure ?_)
      refine wpAny_bind (wpAny_rule (wpAny_bind (seqE (hlk _ s1 hh k1) fun m s2 ⟨k2, hm⟩ => ?_)))
      rcases hm with ⟨_, rfl⟩ | ⟨h, _⟩
      · exact wpAny_pure (wpAny_pure (tail (ktrans k1 k2) (by simp [Str.length, Builtin.Str.tooLong, sizeLine_eq]) (by simp)))
      · simp at h
    · refine wpAny_bind (wpAny_pure ?_)
      exact wpAny_pure (wpAny_pure (tail k1 (by simp [Builtin.Str.tooLong, sizeLine_eq]) (by simp)))
  | false =>
    simp only [Bool.false_eq_true, if_false]
    refine wpAny_bind (seqE (hlk _ s hh (krefl s)) fun m s1 ⟨k1, hm⟩ => ?_)
    rcases hm with ⟨rfl, rfl⟩ | ⟨rfl, rfl⟩
    · exact wpAny_pure (wpAny_pure (tail k1 (by simp [Str.length, Builtin.Str.tooLong, sizeLine_eq]) (by simp)))
    · exact wpAny_pure (wpAny_pure (tail k1 (by simp [Builtin.Str.tooLong, sizeLine_eq]) (by simp)))

theorem spec_prim {hB : Heap} {f : Int → Option Value} (hm : hB.MapOf (intKind prog w) spA f) (hf : ∀ c : Nat, if specials.contains c then ∃ t, f c = some (.str ⟨#[92, c]⟩ t) else f c = none) : SpecOk prog w hB := by
  intro n C A s x t c hk R hx
  have hx' : x = ⟨#[c]⟩ := by
    cases x with
    | mk a => congr 1; exact Array.ext' (by simpa using hx)
  subst hx'
  have hm' : ∀ s' : Shared, Keeps s s' → s'.heap.MapOf (intKind prog w) spA f := fun s' k => by
    obtain ⟨o, es, ep, e, hc, hd, r⟩ := hm
    exact ⟨o, es, ep, (hk.trans (kheap k)).nt _ _ (noTab_data (by rw [hd]; nofun)) e, hc, hd, r⟩
  refine spec_call (y := pesc c) (fun A' s' hh k => ?_) R.handled ?_
  · have h1 := hf c
    unfold pesc
    split at h1
    · rename_i hc
      obtain ⟨tt, h1⟩ := h1
      exact seqE (specmap_hit (hm' s' k).intMap h1) fun m s2 ⟨k2, e⟩ => ⟨k2, .inl ⟨by rw [if_pos hc], e⟩⟩
    · rename_i hc
      exact seqE (specmap_miss hh (hm' s' k) h1) fun m s2 ⟨k2, e⟩ => ⟨k2, .inr ⟨by rw [if_neg hc], e⟩⟩
  · unfold pesc; split <;> simp
end
end Mine

namespace Mine
theorem lookup_object_new : typeLookup (.type "object") "__new__" = pure (some (.builtin "object.__new__")) := by rw [typeLookup_type, builtinLookup_eq_fast]; kernel_rfl
theorem slot_object_init : Slot "object" "__init__" "object.__init__" :=
  .of (owner := "object") (n := "__init__") (by rw [typeLookup_type, builtinLookup_eq_fast]; kernel_rfl) (by decide +kernel) (by decide +kernel) (by decide +kernel)
    (by first | exact .inl (by decide +kernel) | exact .inr (by decide +kernel)) (by rw [isSubtype_type]; kernel_rfl)
theorem ctc : checkTypeCall "object" ⟨[], []⟩ = pure () := by kernel_rfl
theorem cbc : checkBuiltinCall "object.__new__" ⟨[.type "object"], []⟩ = pure () := by kernel_rfl
theorem ent_on : entryFor table "object.__new__" = some Builtin.«object.__new__» := entryFor_of_tree (by kernel_rfl)
theorem called_object : TypeCalled "object" "object.__new__" "object.__init__" :=
  ⟨by decide +kernel, by decide +kernel, ⟨_, _, PySem.F.mro_object⟩, madeBy_type PySem.F.mro_object lookup_object_new (by decide +kernel), by decide +kernel, by rw [isSubtype_type]; kernel_rfl, slot_object_init⟩
section
variable {prog : Program} {w : World} {A : Around} {E : Value → Shared → Prop} {s : Shared}
theorem new_object {Q : Fin → Shared → Prop} (h : Q (.done (.ret (.ref s.heap.objs.size))) { s with heap := s.heap.push { cls := .type "object", data := .plain } }) :
    wpAny (model prog w) A (Builtin.«object.__new__» ⟨[.type "object"], []⟩) Q E s := by
  obtain ⟨hh, g, d, tk, os⟩ := s
  have hmd := called_object.made
  repeat (any_goals (first | assumption | wp_step))

theorem call_object {Q : Value → Shared → Prop} (h : Q (.ref s.heap.objs.size) { s with heap := s.heap.push { cls := .type "object", data := .plain } }) : wpAny (model prog w) A (call (.type "object") []) Q E s := by
  refine callType_meets (Q₁ := fun obj s₁ => obj = .ref s.heap.objs.size ∧ s₁ = { s with heap := s.heap.push { cls := .type "object", data := .plain } }) (S := fun _ R s => R (.ok (.ret (.ref s.heap.objs.size))) { s with heap := s.heap.push { cls := .type "object", data := .plain } })
    called_object ctc cbc ent_on PySem.F.entry_object_init (.of_wp fun prog w A R s hs => new_object ⟨_, rfl, hs⟩) ⟨rfl, rfl⟩ fun obj s₁ h₁ => ?_
  obtain ⟨rfl, rfl⟩ := h₁
  exact ⟨⟨_, Heap.get?_push_size _ rfl, rfl⟩, PySem.F.args_object_init_1 _, _, .of_wp fun prog w A R s hs => wpAny_pure ⟨_, rfl, hs⟩, ⟨rfl, h⟩⟩
end
end Mine

namespace Mine
open StrLaws

mutual
noncomputable def noSt : PV → Bool
  | .star => false
  | .tup vs | .list vs => noStL vs
  | _ => true
noncomputable def noStL : List PV → Bool
  | [] => true
  | p :: ps => noSt p && noStL ps
end
mutual
theorem Rep.restar {C : RC} {a : Addr} {h : Heap} : ∀ (p : PV) (v : Value), noSt p = true → Rep C h p v → Rep { C with st := a } h p v
  | .none, v, _, r => by simpa [Rep] using r
  | .bool b, v, _, r => by simpa [Rep] using r
  | .int i, v, _, r => by simpa [Rep] using r
  | .str l, v, _, r => by simpa [Rep] using r
  | .tup vs, v, n, r => by
    simp only [Rep, noSt] at r n ⊢
    obtain ⟨b, xs, rfl, hna, ht, hl⟩ := r
    exact ⟨b, xs, rfl, hna, ht, RepL.restar vs _ n hl⟩
  | .list vs, v, n, r => by
    simp only [Rep, noSt] at r n ⊢
    obtain ⟨b, xs, rfl, hna, ht, hl⟩ := r
    exact ⟨b, xs, rfl, hna, ht, RepL.restar vs _ n hl⟩
  | .star, v, n, r => by simp [noSt] at n
  | .own k, v, n, r => by simpa [Rep] using r
  | .app k, v, n, r => by simpa [Rep] using r
theorem RepL.restar {C : RC} {a : Addr} {h : Heap} : ∀ (p : List PV) (v : List Value), noStL p = true → RepL C h p v → RepL { C with st := a } h p v
  | [], v, _, r => by simpa [RepL] using r
  | p :: ps, v, n, r => by
    simp only [RepL, noStL, Bool.and_eq_true] at r n ⊢
    obtain ⟨w, r', rfl, h1, h2⟩ := r
    exact ⟨w, r', rfl, Rep.restar p w n.1 h1, RepL.restar ps r' n.2 h2⟩
end
section
variable {prog : Program} {w : World} {mg mb : Str → Option Value} {hB : Heap} {n : Nat} {sc : Scope} {F : PF1} {env : Env} {A : Around} {C0 : RC} {h0 : Heap}
theorem Fra.restar {C : RC} {G : Slots} {h : Heap} {a : Addr} (X : Fra prog w mg mb hB n sc F env A C0 h0 C ⟨G, []⟩ h) (hG : ∀ (i : Nat) v, G[i]? = some (some v) → noSt v = true) :
    Fra prog w mg mb hB n sc F env A { C0 with st := a } h0 { C with st := a } ⟨G, []⟩ h := by
  have I := X.cx.I
  exact ⟨⟨X.cx.FS, ⟨I.base, I.kind, I.glb, I.blt, I.cdv, I.top, I.knd, I.cel, fun x i v e1 e2 => let ⟨u, S, r⟩ := I.slots x i v e1 e2; ⟨u, S, Rep.restar v u (hG i v e2) r⟩, ⟨fun k vs e => by simp at e, I.W.lt⟩⟩, X.cx.R⟩, X.b0, X.k0, X.x0, X.xw, rfl, X.ns, X.xl, X.cl, X.ci, X.ad, X.ax, X.ai, X.al, X.nf, X.x00⟩

theorem star_ok {C : RC} {G : Slots} {s : Shared} {x : Str} {i : Nat} {px fp p pos : Pos} (X : Fra prog w mg mb hB n sc F env A C0 h0 C ⟨G, []⟩ s.heap) (hG : ∀ (i : Nat) v, G[i]? = some (some v) → noSt v = true) (hi : slotOf sc x = some i) (hg : isGl sc "object" = true) :
    wpAny (model prog w) A (exec (.Assign [.Name x px] (.Call (.Name "object" fp) [] [] p) pos) env) (fun fl s' => fl = .next ∧ ∃ a, Same s s' ∧ Fra prog w mg mb hB n sc F env A { C0 with st := a } h0 { C with st := a } ⟨G.set i (some .star), []⟩ s'.heap) noE s := by
  have hb := X.cx.I.base.bis ("object", .type "object") (by decide)
  refine wpAny_Assign_Name (Call_Name (backTo_of (es := []) rfl) (glob_load (v := .type "object") X.cx hg (by decide) (.inr hb) ?_))
  refine PyProof.Rows.callWith_type (T := "object") any_of (evalArgs_of (es := []) (Calls.spliced_nil (call_object ?_)))
  have k1 : Keeps s { s with heap := s.heap.push { cls := .type "object", data := .plain } } := ⟨_, s.toks, s.gens, rfl, .push _ _, id⟩
  have Y := (X.keep (kheap k1)).restar (a := s.heap.objs.size) hG
  refine store_ok (s := { s with heap := s.heap.push { cls := .type "object", data := .plain } }) Y hi (v := .star) (by simp [Rep]) fun h' tk hk Z => ?_
  exact ⟨rfl, s.heap.objs.size, (Same.of k1).trans .heap, Z⟩
end
end Mine

namespace Mine
theorem slot_re_sub : Slot "re.Pattern" "sub" "re.Pattern.sub" :=
  .of (owner := "re.Pattern") (n := "sub") (by rw [typeLookup_type, builtinLookup_eq_fast]; kernel_rfl) (by decide +kernel) (by decide +kernel) (by decide +kernel)
    (by first | exact .inl (by decide +kernel) | exact .inr (by decide +kernel)) (by rw [isSubtype_type]; kernel_rfl)
theorem type_re_sub : typeOf (.builtin "re.Pattern.sub") = pure (.type "method_descriptor") := by show builtinType _ = _; rw [builtinType_eq_fast]; kernel_rfl
theorem entry_re_sub : entryFor table "re.Pattern.sub" = some Builtin.«re.Pattern.sub» := entryFor_of_tree (by kernel_rfl)
theorem entry_re_loop : entryFor table "re.Pattern.sub.loop" = some Builtin.«re.Pattern.sub.loop» := entryFor_of_tree (by kernel_rfl)
theorem plainAttrs_re : PlainAttrs "re.Pattern" :=
  ⟨⟨"object.__getattribute__", by rw [typeLookup_type, builtinLookup_eq_fast]; kernel_rfl, by decide +kernel⟩, by rw [typeLookup_type, builtinLookup_eq_fast]; kernel_rfl⟩
end Mine

namespace Mine
open StrLaws
open PySem.Builtin.Re

theorem re_bit : ∀ c : Nat, c < 256 → (c == 38 || c == 126 || c == 124) = false → (reCode.getD (5 + (1 + c / 32)) 0).testBit (c % 32) = false := by decide +kernel
theorem inSet_no (c : Nat) (h : (c == 38 || c == 126 || c == 124) = false) (fuel : Nat) (seen : Sre.Seen) : ∃ s', Sre.inSet reCode c (fuel + 2) 5 true seen = .ok (false, s') := by
  have hf : (decide (c < 256) && (reCode.getD (5 + (1 + c / 32)) 0).testBit (c % 32)) = false := by
    by_cases hc : c < 256
    · rw [re_bit c hc h]; simp
    · simp [hc]
  refine ⟨(seen.add 9).add 0, ?_⟩
  unfold Sre.inSet
  dsimp only
  rw [show Sre.ops[reCode.getD (5 + 0) 0]? = some .CHARSET from rfl]
  simp only [hf, Bool.false_eq_true, if_false]
  unfold Sre.inSet
  dsimp only
  rw [show Sre.ops[reCode.getD (5 + 9 + 0) 0]? = some .FAILURE from rfl]
  rfl

theorem admitted_no (m : Sre.M) (hc : m.code = reCode) (ht : ∀ s, (fun c => c == 38 || c == 126 || c == 124) (m.text.getD s 0) = false) : ∀ (fuel s : Nat) (seen : Sre.Seen), ∃ seen', Sre.M.admitted m fuel s seen = .ok (none, seen')
  | 0, s, seen => ⟨seen, rfl⟩
  | fuel + 1, s, seen => by
    unfold Sre.M.admitted
    split
    · exact ⟨seen, rfl⟩
    · rw [hc]
      obtain ⟨s', e⟩ := inSet_no (m.text.getD s 0) (ht s) 30 seen
      rw [show reCode.size = 30 + 2 from rfl, e]
      exact admitted_no m hc ht fuel (s + 1) s'

theorem run_failed {m : Sre.M} (ho : m.outcome = none) (ha : m.answer = some false) (hf : m.frames = []) : (m.runFor reTurnSteps).outcome = some .failed := by
  unfold reTurnSteps
  rw [Sre.M.runFor, ho]
  have e : m.step = { m with outcome := some .failed } := by
    unfold Sre.M.step
    rw [ho, ha, hf]; rfl
  simp only [Option.isSome_none, Bool.false_eq_true, if_false, e]
  rfl

theorem attempt_no {m : Sre.M} (hc : m.code = reCode) (ht : ∀ s, (fun c => c == 38 || c == 126 || c == 124) (m.text.getD s 0) = false) (hs : m.hasFirstSet = true) (ho : m.outcome = none) (hf : m.frames = []) (s : Nat) (first : Bool) :
    ((m.attemptFrom s first).runFor reTurnSteps).outcome = some .failed := by
  unfold Sre.M.attemptFrom
  rw [hs]
  obtain ⟨seen', e⟩ := admitted_no m hc ht (m.lim + 1 - s) s m.seen
  rw [e]
  exact run_failed ho rfl hf

theorem re_none {text : Array Nat} {g : Nat} (ht : ∀ s : Nat, (fun c => c == 38 || c == 126 || c == 124) (text.getD s 0) = false) : ((Sre.forSearch reCode text g 0 text.size false).runFor reTurnSteps).outcome = some .failed := by
  unfold Sre.forSearch
  rw [show Sre.header reCode = (1, 15) from rfl]
  dsimp only
  split
  · exact run_failed rfl rfl rfl
  · exact attempt_no rfl ht rfl rfl rfl _ _

section
variable {prog : Program} {w : World} {A : Around} {s : Shared} {E : Value → Shared → Prop}
theorem rules_ok {M : Model} {l : List Nat} {p : Nat → Bool} {f : Nat → String} {Q : PUnit → Shared → Prop} (h : Q ⟨⟩ s) :
    wpAny M A (forIn l PUnit.unit fun i _ => (if p i = true then (do rule (f i); pure (ForInStep.yield PUnit.unit)) else pure (ForInStep.yield PUnit.unit) : Sem (ForInStep PUnit))) Q E s := by
  induction l with
  | nil => exact wpAny_pure h
  | cons i l ih =>
    rw [List.forIn_cons]
    refine wpAny_bind ?_
    by_cases hp : p i = true
    · simp only [hp, if_true]
      exact wpAny_bind (wpAny_rule (wpAny_pure ih))
    · simp only [hp]
      exact wpAny_pure ih

theorem run_none {M : Model} {m : Sre.M} {Q : Option Sre.M → Shared → Prop} (ho : (m.runFor reTurnSteps).outcome = some .failed) (h : Q none s) : wpAny M A (reRunToEnd m) Q E s := by
  unfold reRunToEnd
  rw [show (2 : Nat) ^ 64 = 18446744073709551615 + 1 from rfl]
  unfold reDrive
  simp only [ho, Option.isSome_some, if_true]
  refine wpAny_bind (wpAny_pure ?_)
  refine wpAny_bind (rules_ok ?_)
  rw [ho]
  exact wpAny_pure h

theorem target_ok {M : Model} {x : Str} {t : Tok} (K : ReOk s.heap) {Q : ReTarget → Shared → Prop} (h : ∀ g, Q { pattern := .ref reA, string := .str x t, code := reCode, text := x.cps, kind := 0, groups := g, pos := 0, lim := x.cps.size } s) :
    wpAny M A (reWholeTarget (.ref reA) (.str x t)) Q E s := by
  obtain ⟨fs, e, e6, e5⟩ := K.pat
  obtain ⟨xs, o, n, ec, hd, e7⟩ := K.code
  unfold reWholeTarget
  refine wpAny_bind (wpAny_fieldsOf e rfl ?_)
  refine wpAny_bind (m := reTextOf _) (wpAny_of_eq (a := (x.cps, 0)) (by rfl) ?_)
  simp only [e6]
  refine wpAny_bind (wpAny_of_eq (a := ()) (by rfl) ?_)
  rw [e5]
  unfold reRawItems
  refine wpAny_bind (wpAny_bind (wpAny_seqItems ec hd (wpAny_pure ?_)))
  simp only [Option.getD_some, e7]
  exact wpAny_pure (h _)

theorem subOk_at {x : Str} (hx : subOk x.cps.toList = true) (i : Nat) : (fun c => c == 38 || c == 126 || c == 124) (x.cps.getD i 0) = false := by
  dsimp only
  unfold subOk at hx
  rw [Bool.and_eq_true, List.all_eq_true] at hx
  rw [Array.getD_eq_getD_getElem?]
  cases e : x.cps[i]? with
  | none => rfl
  | some c =>
    have hm : c ∈ x.cps.toList := by
      rw [Array.mem_toList_iff]; exact Array.mem_of_getElem? e
    simpa using hx.2 c hm

theorem sub_loop {x : Str} {t : Tok} {f pl : Addr} {R : Value → Shared → Prop} (K : ReOk s.heap) (hx : subOk x.cps.toList = true) (hpl : s.heap.get? pl = some { cls := .type "list", data := .seq #[] 0 })
    (h : ∀ h' tk (y : Str) t', y.cps.toList = x.cps.toList → (∀ b o, b ≠ pl → s.heap.get? b = some o → h'.get? b = some o) → R (.str y t') { s with heap := h', toks := tk }) :
    wpAny (model prog w) A (Builtin.«re.Pattern.sub.loop» ⟨[.ref reA, .str x t, .ref f, rawInt 1, rawInt 0, rawInt 0, rawInt 0, rawInt 0, .bool false, .ref pl, .bool false], []⟩)
      (fun fin s' => ∃ v, fin = .done (.ret v) ∧ R v s') E s := by
  have hL := lim_size
  have hlen : x.cps.size ≤ LIM := by
    unfold subOk at hx
    rw [Bool.and_eq_true, decide_eq_true_eq] at hx
    simpa using hx.1
  unfold Builtin.«re.Pattern.sub.loop» rawInt
  dsimp only
  refine wpAny_bind (target_ok K fun g => ?_)
  rw [if_neg (show ¬ (((1 : Int) == 0) = true) by decide)]
  dsimp only
  rw [if_neg (show ¬ ((((0 : Int) != 0) && decide ((0 : Int) ≥ 0)) = true) by decide)]
  refine wpAny_bind ?_
  unfold reNextFound
  refine run_none (re_none (subOk_at hx)) ?_
  dsimp only
  have mk : ∀ {b e : Nat} {s : Shared} {Q : Value → Shared → Prop}, Q (.str ⟨x.cps.extract b e⟩ s.toks) { s with toks := s.toks + 1 } → wpAny (model prog w) A (reSlice x.cps 0 b e) Q E s := fun {b e s Q} hq => by
    unfold reSlice
    rw [if_pos (by rfl)]
    refine wpAny_mkStr hq ?_
    show (x.cps.extract b e).size ≤ sizeLine
    rw [Array.size_extract]; lia
  by_cases hz : 0 < x.cps.size
  · rw [if_pos (by simpa using hz)]
    refine wpAny_bind (mk ?_)
    refine wpAny_bind (wpAny_updateSeq (s := { s with toks := s.toks + 1 }) hpl rfl ?_ (by rw [sizeLine_eq]; decide) (by rw [sizeLine_eq]; simp))
    obtain ⟨n, e1⟩ : ∃ n, (s.heap.update pl (Obj.mapSeq fun a => a.push (.str ⟨x.cps.extract (0 : Int).toNat x.cps.size⟩ s.toks))).get? pl = some { cls := .type "list", data := .seq #[.str ⟨x.cps.extract (0 : Int).toNat x.cps.size⟩ s.toks] n } := ⟨_, Heap.get?_update_self _ hpl rfl⟩
    refine wpAny_bind (mk ?_)
    refine wpAny_bind (wpAny_seqItems e1 rfl ?_)
    rw [if_neg (by simp)]
    refine wpAny_bind ?_
    have hl : (s.heap.update pl (Obj.mapSeq fun a => a.push (.str ⟨x.cps.extract (0 : Int).toNat x.cps.size⟩ s.toks))).IsList pl (strValues [((⟨x.cps.extract (0 : Int).toNat x.cps.size⟩ : Str), s.toks)]).toArray := ⟨_, e1, rfl, _, rfl⟩
    refine SC.join hl rfl ?_ fun t' k => ?_
    · unfold JoinOk
      rw [StrLaws.joinTotal]
      have e0 : (⟨x.cps.extract 0 0⟩ : Str).length = 0 := by simp [Str.length]
      have e2 : (⟨x.cps.extract (0 : Int).toNat x.cps.size⟩ : Str).length = x.cps.size := by simp [Str.length]
      simp only [List.map_cons, List.map_nil, List.sum_cons, List.sum_nil, List.length_cons, List.length_nil, e0, e2]
      simp only [Builtin.Str.tooLong, Bool.not_eq_true', decide_eq_false_iff_not]
      lia
    · rw [if_neg (by decide)]
      refine wpAny_pure ⟨_, rfl, h _ _ _ _ ?_ fun b o hb e => ?_⟩
      · unfold Txt.join
        rw [StrLaws.glued_eq_join, join_eq]
        simp [pjoin]
      · exact (Heap.get?_update_ne _ _ _ _ hb).trans e
  · rw [if_neg (by simpa using hz)]
    refine wpAny_bind (mk ?_)
    refine wpAny_bind (wpAny_seqItems (s := { s with toks := s.toks + 1 }) hpl rfl ?_)
    rw [if_pos (by rfl)]
    refine wpAny_bind (wpAny_pure ?_)
    rw [if_neg (by decide)]
    refine wpAny_pure ⟨_, rfl, h s.heap _ _ _ ?_ fun b o _ e => e⟩
    have : x.cps.toList = [] := by
      have : x.cps.size = 0 := by lia
      simpa using this
    rw [this]; simp
end
end Mine

namespace Mine
open StrLaws
open PySem.Builtin.Re

theorem fn_call_slot : ∃ r, typeLookup (.type "function") "__call__" = pure (some r) := ⟨.builtin "function.__call__", by rw [typeLookup_type, builtinLookup_eq_fast]; kernel_rfl⟩
theorem str_bytearray : isSubtype (.type "str") (.type "bytearray") = pure false := by rw [isSubtype_type]; kernel_rfl
theorem args_re_sub (a b c : Value) : argsOk "re.Pattern.sub" ⟨[a, b, c], []⟩ := by
  unfold argsOk; kernel_rfl
theorem plain_re_loop : plainId "re.Pattern.sub.loop" = true := by decide +kernel
theorem named_re (a b : Value) : reNamed "re.Pattern.sub" "sub" ["repl", "string", "count"] 2 [a, b] [] = pure [some a, some b, none] := by rfl
section
variable {prog : Program} {w : World} {A : Around} {s : Shared} {E : Value → Shared → Prop}
theorem sub_call {x : Str} {t : Tok} {f : Addr} {Q : Value → Shared → Prop} (K : ReOk s.heap) (hx : subOk x.cps.toList = true) (hf : s.TypeIs (.ref f) "function")
    (h : ∀ h' tk (y : Str) t', y.cps.toList = x.cps.toList → (∀ b o, s.heap.get? b = some o → h'.get? b = some o) → Q (.str y t') { s with heap := h', toks := tk }) :
    wpAny (model prog w) A (call (.builtin "re.Pattern.sub") [.ref reA, .ref f, .str x t]) Q E s := by
  have hT : s.TypeIs (.ref reA) "re.Pattern" := let ⟨fs, e, _⟩ := K.pat; ⟨_, e, rfl⟩
  refine wpAny_call (codeAny_call_builtin slot_re_sub.plain entry_re_sub (slot_re_sub.check _ _ _ _ _ _ _ _ hT (args_re_sub _ _ _) ?_))
  unfold Builtin.«re.Pattern.sub» reSubstitute
  dsimp only
  rw [named_re]
  refine wpAny_bind (wpAny_pure ?_)
  dsimp only
  refine wpAny_bind (wpAny_pure ?_)
  obtain ⟨r, hr⟩ := fn_call_slot
  refine wpAny_bind (wpAny_specialOf hf hr ?_)
  simp only [Option.isSome_some, if_true]
  refine wpAny_bind (wpAny_pure ?_)
  refine wpAny_bind (wpAny_pure ?_)
  dsimp only
  refine wpAny_bind (wpAny_holding (target_ok K fun g => ?_))
  rw [if_pos (by rfl)]
  unfold reNotHeld
  refine wpAny_bind (wpAny_bind (wpAny_isInstance_val rfl str_bytearray ?_))
  rw [if_neg (by decide)]
  refine wpAny_pure ?_
  refine wpAny_bind (wpAny_newList ?_)
  refine wpAny_pure ⟨plainId_quiet plain_re_loop _, codeAny_builtin entry_re_loop ?_⟩
  refine wpAny_mono (sub_loop (R := Q) (s := { s with heap := s.heap.push { cls := .type "list", data := .seq #[] } }) (x := x) (t := t) (f := f) (pl := s.heap.objs.size) (E := E) (K.keep (KN.push _ _)) hx (Heap.get?_push_size _ rfl) fun h' tk y t' e hk => ?_) (fun fin s' h' => ?_) fun _ _ e => e
  · exact h h' tk y t' e fun b o e => hk b o (Nat.ne_of_lt (Heap.lt_size e)) (Heap.get?_push_of_some _ e)
  · obtain ⟨v, rfl, hv⟩ := h'
    exact hv
end
end Mine

namespace Mine
open StrLaws

theorem closure_none {sc : Scope} {env : Env} (h : (sc.names.all fun p => p.2 != .free) = true) : closureFor sc env = pure [] := by
  unfold closureFor
  have : ∀ (l : List (Str × NameKind)) (cs : List (Str × Addr)), (l.all fun p => p.2 != .free) = true →
      (forIn l cs fun x cs => (match x with | (name, kind) => if (kind == NameKind.free) = true then do let __do_lift ← cellOf env name; pure (ForInStep.yield ((name, __do_lift) :: cs)) else pure (ForInStep.yield cs) : Sem (ForInStep (List (Str × Addr))))) = pure cs := by
    intro l
    induction l with
    | nil => intro cs _; rfl
    | cons p l ih =>
      intro cs h
      rw [List.all_cons, Bool.and_eq_true] at h
      obtain ⟨nm, kd⟩ := p
      rw [List.forIn_cons]
      have hk : (kd == NameKind.free) = false := by simpa using h.1
      simp only [hk, Bool.false_eq_true, if_false, pure_bind]
      exact ih cs h.2
  simp only [this _ _ h, pure_bind]

theorem CodeHd.kn {h h' : Heap} {c P : Addr} (x : CodeHd h c P) (k : KN h h') : CodeHd h' c P :=
  let ⟨o, vs, file, tf, flags, tg, inF, text, tt, e, hc, r⟩ := x; ⟨o, vs, file, tf, flags, tg, inF, text, tt, k.nt _ _ (noTab_cls (by rw [hc]; nofun)) e, hc, r⟩
theorem BuiltinsAt.kn {h h' : Heap} {mg : Str → Option Value} {P : Addr} (x : h.BuiltinsAt mg P) (k : KN h h') : h'.BuiltinsAt mg P :=
  let ⟨bm, o, h1, h2, h3, h4, h5, h6, r⟩ := x; ⟨bm, o, h1, h2, h3, h4, k.nt _ _ (noTab_cls (by rw [h6]; nofun)) h5, h6, r⟩

theorem KN.table {h h' : Heap} {ps : Array Value} {a b : Int} {c : Value} (hx : Heap.ExtBut PT h h') (hP : h.get? PT = some (tabObj ps)) (ht : TriplesOk ps.toList) (hP' : h'.get? PT = some (tabObj (ps ++ #[rawInt a, rawInt b, c]))) : KN h h' := by
  refine ⟨fun b' o hn e => ?_, fun b' o hb e => hx b' o hb e, fun qs e => ?_⟩
  · by_cases hb : b' = PT
    · subst hb
      rw [hP] at e; cases e
      exact absurd rfl (hn ps)
    · exact hx b' o hb e
  · rw [hP] at e
    cases e
    refine ⟨_, hP', fun _ => ?_⟩
    rw [Array.toList_append]
    exact TriplesOk_snoc a b c _ ht

section
variable {prog : Program} {w : World} {mg mb : Str → Option Value} {hB : Heap} {n : Nat} {sc : Scope}
theorem lambda_ok {F : PF1} {C : RC} {G : Slots} {O : Owns} {env : Env} {A : Around} {s : Shared} {ps : Arguments} {body : Expr} {lsc : Scope} {lp : Pos} (K : Cx prog w mg mb hB n sc F C G O env A s.heap) (hst : (slotOf sc "stuff").isSome = true) (hl : lamOk ps lsc = true) :
    wpAny (model prog w) A (eval (.Lambda ps body lsc lp) env) (fun v s' => Keeps s s' ∧ ∃ f, v = .ref f ∧ ∃ o, s'.heap.get? f = some o ∧ o.cls = .type "function") noE s := by
  simp only [lamOk, Bool.and_eq_true, List.isEmpty_iff] at hl
  have hdef : defaultsOf ps env = ([], []) := by
    obtain ⟨a1, a2, a3, a4, a5, a6, a7⟩ := ps
    obtain ⟨⟨h1, h2⟩, _⟩ := hl
    dsimp only at h1 h2
    subst h1; subst h2; rfl
  have hcl : closureFor lsc env = pure [] := closure_none hl.2
  have I := K.I
  have hcode := I.cdv hst
  have hg := I.top.ns I.base.nsg
  have hC := CodeHd.kn I.base.cod I.top
  have hb := BuiltinsAt.kn I.base.bat I.top
  obtain ⟨ps0, e0, t0⟩ := I.base.pt
  obtain ⟨more, hP, ht⟩ := I.top.tab _ e0
  have ht := ht t0
  have hgP : mainGlobals ≠ PT := by
    intro q
    obtain ⟨o, es, ep, e, hd, _⟩ := hg
    rw [q, hP] at e; cases e; cases hd
  refine kla_eval hdef ?_
  cases hf : codeAmong lp (ps0 ++ more).toList with
  | none =>
    refine kla_makeFunction hcl I.glb hg hcode hC hP ht hf hgP hb fun c' ctv h' tk hx hge hlt hrec htb => ?_
    refine ⟨⟨_, tk, s.gens, rfl, (KN.table hx hP ht htb).trans (KN.push _ _), id⟩, _, rfl, _, Heap.get?_push_size _ rfl, rfl⟩
  | some cv =>
    refine kla_makeFunctionHit hcl I.glb hg hcode hC hP ht hf hb fun ctv h' tk hk hsz => ?_
    refine ⟨⟨_, tk, s.gens, rfl, (KN.of hk).trans (KN.push _ _), id⟩, _, rfl, _, Heap.get?_push_size _ rfl, rfl⟩

theorem resub_prim : ResubOk prog w mg mb hB := by
  intro n sc ps body e lsc rp ap lp p pe hg hst hl hline hn he F C G O env A s pv K h
  obtain ⟨v, e1, h⟩ := Option.bind_eq_some_iff.mp h
  obtain ⟨l, rfl, hx, rfl⟩ := K.FS.sub _ _ h
  have hn2 : NoStars [.Lambda ps body lsc lp, e] = true := hn
  refine wpAny_Call_method_lateS (base_plain rfl) (by rw [backTo_of hn2]; rfl) hline (glob_load (v := .ref reA) K hg (by decide) (.inl K.I.base.re) ?_)
  have K0 := ReOk.keep K.I.base.reo K.I.top
  obtain ⟨fs, e2, _⟩ := K0.pat
  refine ⟨"re.Pattern", _, plainAttrs_re, slot_re_sub, type_re_sub, ⟨_, e2, rfl⟩, (fun a q => by cases q; exact ⟨_, e2, rfl⟩), ?_⟩
  rw [backTo_of hn2]
  refine Calls.callWith_builtin any_of (evalArgs_of (Calls.spliced_cons (seqE (lambda_ok K hst hl) fun u s1 ⟨k1, f, hu, o, ef, hf⟩ => ?_)))
  subst hu
  refine Calls.spliced_cons (seqE (he (K.keep k1) e1) fun u s2 ⟨k2, r2⟩ => Calls.spliced_nil ?_)
  simp only [Rep] at r2
  obtain ⟨x, t, rfl, rfl⟩ := r2
  have K2 := (K.keep k1).keep k2
  refine sub_call (ReOk.keep K2.I.base.reo K2.I.top) hx ⟨o, (kheap k2).nt _ _ (noTab_cls (by rw [hf]; nofun)) ef, hf⟩ fun h' tk y t' ey hk => ?_
  exact ⟨ktrans k1 (ktrans k2 ⟨h', tk, s2.gens, rfl, KN.of hk, id⟩), rep_str' ey⟩
end
end Mine

namespace Mine
open StrLaws
section
variable {prog : Program} {w : World} {mg mb : Str → Option Value} {hB : Heap} {n : Nat} {F : PF1}

theorem repl_bind {fd : FuncData} {a b : Arg} {v : Value} {vs : List Value} {A : Around} {s : Shared} {Q : List (Str × Value) → Shared → Prop} {E : Value → Shared → Prop} (hp : fd.params = ⟨[], [a], some b, [], [], none, []⟩) (hd : fd.defaults = .none) (hl : vs.length ≤ sizeLine)
    (h : Q [(a.arg, v), (b.arg, .ref s.heap.objs.size)] { s with heap := s.heap.push { cls := .type "tuple", data := .seq vs.toArray } }) : wpAny (model prog w) A (bindArgs fd ⟨v :: vs, []⟩) Q E s := by
  unfold bindArgs
  rw [hp, hd]
  refine wpAny_bind (wpAny_pure ?_)
  refine wpAny_bind (m := seqItems? .none) (wpAny_of_eq (a := none) (by rfl) ?_)
  dsimp only
  rw [if_neg (by simp)]
  rw [if_neg (by simp)]
  refine wpAny_bind (wpAny_pure ?_)
  refine wpAny_bind (wpAny_pure ?_)
  dsimp only
  rw [if_neg (by simp)]
  refine wpAny_bind (wpAny_newTuple (items := vs) ?_ hl)
  refine wpAny_pure ?_
  simpa using h

/-- a def's arguments bound -/
noncomputable def Bnd (prog : Program) (w : World) (fd : FuncData) (args : List PV) (params : List Str) (args' : List PV) : Prop :=
  ∀ (C : RC) (vals : List Value) (A : Around) (s : Shared), (∀ b, C.X b → ∃ o, NoTab o ∧ s.heap.get? b = some o) → RepL C s.heap args vals → noOwnL args = true →
    wpAny (model prog w) A (bindArgs fd ⟨vals, []⟩) (fun binds s₁ => Keeps s s₁ ∧ ∃ us, binds = params.zip us ∧ RepL C s₁.heap args' us) noE s

theorem bndR {fd : FuncData} {a b : Arg} {x : PV} {ys : List PV} (hp : fd.params = ⟨[], [a], some b, [], [], none, []⟩) (hd : fd.defaults = .none) (hl : ys.length ≤ LIM) : Bnd prog w fd (x :: ys) [a.arg, b.arg] [x, .tup ys] := by
  intro C vals A s hX hr hno
  have hlen := hr.length
  obtain ⟨v, vs, rfl, h1, h2⟩ := hr
  have hL := lim_size
  simp only [List.length_cons] at hlen
  refine repl_bind hp hd (by lia) ⟨kpush, [v, .ref s.heap.objs.size], rfl, ?_⟩
  have hx : ¬ C.X s.heap.objs.size := fun q => let ⟨_, _, e⟩ := hX _ q; Nat.lt_irrefl _ (Heap.lt_size e)
  refine ⟨v, _, rfl, h1.keep (KN.push _ _), _, _, rfl, ?_, rfl⟩
  exact ⟨_, vs.toArray, rfl, hx, ⟨_, Heap.get?_push_size _ rfl, rfl, _, rfl⟩, h2.keep (KN.push _ _)⟩

theorem fn_star {N : Nat} {x : Str} {a : Addr} {o : Obj} {fd : FuncData} {body rest : List Stmt} {mu : List Str} {k i : Nat} {pss : PSs} {params : List Str} {c : Addr} {oc : Obj} {vs : Array Value} {t : Tok} {args : List PV} {r : PV} {σ' : St} {y : Str} {px fp p pos : Pos}
    (base : Base mg mb hB) (hre : Prims prog w mg mb hB) (FS : FsOk prog w mg hB n F) (hm : mg x = some (.ref a)) (ho : hB.get? a = some o) (hd : o.data = .func fd) (hbody : fd.body = .stmts body) (hclo : fd.closure = []) (hglb : fd.globals = mainGlobals) (hblt : fd.builtins = builtinsNs)
    (hcode : fd.code = .ref c) (hoc : hB.get? c = some oc) (hocn : NoTab oc) (hocd : oc.data = .fields vs) (hq : vs[1]? = some (.str fd.qualname t)) (hcdv : (slotOf fd.scope "stuff").isSome = true → c = CT)
    (E : EntryOk fd.scope params) (hbd : body = .Assign [.Name y px] (.Call (.Name "object" fp) [] [] p) pos :: rest) (hi : slotOf fd.scope y = some i) (hgl : isGl fd.scope "object" = true) (hc : cSs (cS mu k fd.scope) rest = some pss) (hlen : args.length = params.length)
    (hbind : Bnd prog w fd args params args) (hst : ∀ v ∈ args, noSt v = true)
    (hr : exs N F pss ⟨(args.map some ++ List.replicate (fd.scope.names.length - args.length) none).set i (some .star), []⟩ = some (σ', .ret r)) (hns : noSt r = true) (hrn : noOwn r = true) : FnOk prog w mg hB (n + 1) x args r := by
  refine fn_frame base FS hm ho hd hbody hclo hglb hblt hcode hoc hocn hocd hq hcdv E hlen hbind id hrn fun env A' C h0 C1 s₂ _ X => ?_
  have hG : ∀ (j : Nat) v, (args.map some ++ List.replicate (fd.scope.names.length - args.length) none)[j]? = some (some v) → noSt v = true := by
    intro j v e
    rcases Nat.lt_or_ge j args.length with h | h
    · rw [List.getElem?_append_left (by simpa using h), List.getElem?_map] at e
      obtain ⟨v', e1, e2⟩ := Option.map_eq_some_iff.mp e
      cases e2
      exact hst _ (List.mem_of_getElem? e1)
    · rw [List.getElem?_append_right (by simpa using h), List.getElem?_replicate] at e
      cases (ite_some e).2
  subst hbd
  rw [execs_cons]
  refine wpAny_bind (seqE (star_ok X hG hi hgl) fun fl s1 ⟨hfl, b, sm, Y⟩ => ?_)
  subst hfl
  refine seqE (cSs_snd (cS_snd hre mu k) rest hc Y hr) fun fl s' res => ?_
  obtain ⟨C', b1, b2, b3, u, rfl, b4⟩ := res
  exact ⟨b3.k0, sm.trans b2, Rep.restar (C := { C with st := b }) (a := C.st) r u hns (b4 hrn)⟩
end
end Mine

namespace Mine
open StrLaws

noncomputable def mus : List Str := ["res", "chunks", "fixed", "closed", "states", "moves", "parts", "signs", "ranges", "names", "items", "most", "ends", "left"]
noncomputable def muOf (f : Str) : List Str := if f == "law" then (["items", "names", "left"] : List Str) else if f == "_law_signs" then [] else mus

/-- a def made small: its names, its parameters, its statements -/
structure DefE where
  k : Nat
  m : Nat
  b : PSs

noncomputable def entryB (sc : Scope) (ps : List Str) : Bool :=
  sc.kind == .function && !sc.isCoroutine && !sc.isGenerator && sc.names.all (fun p => p.2 != .free) && decide ps.Nodup && decide ((sc.names.take ps.length).map (·.1) = ps) &&
    ps.all fun x => sc.names.lookup x == some .local || sc.names.lookup x == some .cell
theorem slot_find {sc : Scope} {x : Str} {i : Nat} (h : slotOf sc x = some i) : sc.names.findIdx? (fun p => p.1 == x) = some i := by
  obtain ⟨k, _, h⟩ := Option.bind_eq_some_iff.mp h
  exact (ite_some h).2
theorem entryOk_of {sc : Scope} {ps : List Str} (h : entryB sc ps = true) : EntryOk sc ps := by
  simp only [entryB, Bool.and_eq_true, Bool.not_eq_true', decide_eq_true_eq] at h
  obtain ⟨⟨⟨⟨⟨⟨h1, h2⟩, h3⟩, h4⟩, h5⟩, h6⟩, h7⟩ := h
  refine ⟨by simpa using h1, h2, h3, fun x e => ?_, h5, fun i x e => ?_, fun i x e hi => ?_⟩
  · have := List.all_eq_true.mp h4 _ (mem_of_lookup e)
    simp at this
  · have := List.all_eq_true.mp h7 x (List.mem_of_getElem? e)
    simpa using this
  · have hf := slot_find e
    obtain ⟨q1, q2, _⟩ := List.findIdx?_eq_some_iff_getElem.mp hf
    have q3 : (sc.names[i]).1 = x := by simpa using q2
    conv => lhs; rw [← h6]
    rw [List.getElem?_map, List.getElem?_take, if_pos hi, List.getElem?_eq_getElem q1, ← q3]
    rfl

/-- plain parameters, not more than three; or one and a star -/
noncomputable def parOk (ps : Arguments) : Bool :=
  ps.posonlyargs.isEmpty && (ps.kwonlyargs.isEmpty && (ps.kw_defaults.isEmpty && (ps.kwarg.isNone && (ps.defaults.isEmpty && (ps.vararg.isNone || (one ps.args).isSome)))))
noncomputable def parNames (ps : Arguments) : List Str := ps.args.map (·.arg) ++ (match ps.vararg with | some a => [a.arg] | none => [])

noncomputable def vAsg : (s : Stmt) → Option {z : List Expr × Expr × Pos // s = .Assign z.1 z.2.1 z.2.2}
  | .Assign a b c => some ⟨(a, b, c), rfl⟩
  | _ => none
theorem head_eq {s : Stmt} {rest : List Stmt} {ts : List Expr} {t v g : Expr} {as : List Expr} {x f : Str} {p q r u : Pos} (h1 : s = .Assign ts v p) (h2 : ts = [t]) (h3 : t = .Name x q) (h4 : v = .Call g as [] r) (h5 : g = .Name f u) (h6 : f = "object") (h7 : as.isEmpty = true) :
    s :: rest = .Assign [.Name x q] (.Call (.Name "object" u) [] [] r) p :: rest := by
  subst h1; subst h2; subst h3; subst h4; subst h5; subst h6; cases List.isEmpty_iff.mp h7; rfl
noncomputable def starHead (sc : Scope) : (b : List Stmt) → Option {y : Str × Pos × Pos × Pos × Pos // ∃ rest, b = .Assign [.Name y.1 y.2.1] (.Call (.Name "object" y.2.2.1) [] [] y.2.2.2.1) y.2.2.2.2 :: rest ∧ slotOf sc y.1 = some 1 ∧ isGl sc "object" = true}
  | [] => none
  | s :: rest => (vAsg s).bind fun a => (one a.1.1).bind fun t => (vName t.1).bind fun n => (vCall a.1.2.1).bind fun c => (vName c.1.1).bind fun g =>
    if h : g.1.1 = "object" ∧ c.1.2.1.isEmpty = true ∧ slotOf sc n.1.1 = some 1 ∧ isGl sc "object" = true then some ⟨(n.1.1, n.1.2, g.1.2, c.1.2.2, a.1.2.2), rest, head_eq a.2 t.2 n.2 c.2 g.2 h.1 h.2.1, h.2.2.1, h.2.2.2⟩ else none
noncomputable def defCond (f : Str) (ps : Arguments) (b : List Stmt) (sc : Scope) : Bool :=
  parOk ps && (entryB sc (parNames ps) && ((ps.vararg.isSome == (f == "replace")) && (!(f == "translate") || ((starHead sc b).isSome && ps.args.length == 1))))
noncomputable def defIs (p : Program) (f : Str) : Option DefE := (findDef p f).bind fun d => if defCond f d.1 d.2.1 d.2.2 then
  (cSs (cS (muOf f) 60 d.2.2) (if f == "translate" then d.2.1.tail else d.2.1)).map fun q => ⟨d.2.2.names.length, (parNames d.1).length, q⟩ else none

/-- the def's object on the top -/
inductive DefAt (p : Program) (mg : Str → Option Value) (hB : Heap) (x : Str) : Prop
  | mk (ps : _) (b : _) (sc : Scope) (a : Addr) (fd : FuncData) (o : Obj) (c : Addr) (oc : Obj) (vs : _) (t : Tok) (h1 : findDef p x = some (ps, b, sc)) (h2 : mg x = some (.ref a)) (h3 : hB.get? a = some o) (h4 : o.data = .func fd) (h5 : fd.params = ps) (h6 : fd.body = .stmts b) (h7 : fd.scope = sc) (h8 : fd.defaults = .none) (h9 : fd.closure = []) (h10 : fd.globals = mainGlobals) (h11 : fd.builtins = builtinsNs)
    (h12 : fd.code = .ref c) (h13 : hB.get? c = some oc) (h14 : NoTab oc) (h15 : oc.data = .fields vs) (h16 : vs[1]? = some (.str fd.qualname t)) (h17 : (slotOf sc "stuff").isSome = true → c = CT) : DefAt p mg hB x

noncomputable def FUEL : Nat := 4096
noncomputable def asRet : PF → Option PV
  | .ret v => some v
  | _ => none
noncomputable def subF (as : List PV) : Option PV := (pone as).bind fun v => (asS v).bind fun l => if subOk l then some (.str l) else none
noncomputable def replF (e : DefE) (F : PF1) : List PV → Option PV
  | [] => none
  | x :: ys => if ys.length ≤ LIM then pfun FUEL F e.k e.b [x, .tup ys] else none
noncomputable def transF (e : DefE) (F : PF1) (as : List PV) : Option PV := (pone as).bind fun v => (asS v).bind fun l =>
  (exs FUEL F e.b ⟨[some (.str l), some .star] ++ List.replicate (e.k - 2) none, []⟩).bind fun q => (asRet q.2).bind fun v => (asS v).map PV.str
noncomputable def defF (e : DefE) (F : PF1) (f : String) (as : List PV) : Option PV :=
  if Str.ofString f == ("replace" : Str) then replF e F as
  else if Str.ofString f == ("translate" : Str) then transF e F as
  else if as.length = e.m then pfun FUEL F e.k e.b as else none
noncomputable def stepF (T : List (String × DefE)) (F : PF1) : PF1 := fun f as =>
  if f = "%sub" then subF as else (T.lookup f).bind fun e => defF e F f as
noncomputable def runF (T : List (String × DefE)) : Nat → PF1
  | 0 => fun _ _ => none
  | n + 1 => stepF T (runF T n)

section
variable {prog : Program} {w : World} {mg mb : Str → Option Value} {hB : Heap} {p : Program}

theorem bindP {fd : FuncData} {as : List Arg} {vals : List Value} (hp : fd.params = ⟨[], as, none, [], [], none, []⟩) (hd : fd.defaults = .none) {A : Around} {s : Shared} {Q : List (Str × Value) → Shared → Prop} {E : Value → Shared → Prop}
    (hl : vals.length = as.length) (hz : ((as.map (·.arg)).filter fun n => (((as.map (·.arg)).zip vals).lookup n).isNone) = []) (h : Q ((as.map (·.arg)).filterMap fun n => (((as.map (·.arg)).zip vals).lookup n).map (n, ·)) s) :
    wpAny (model prog w) A (bindArgs fd ⟨vals, []⟩) Q E s := by
  unfold bindArgs
  rw [hp, hd]
  refine wpAny_bind (wpAny_pure ?_)
  refine wpAny_bind (m := seqItems? .none) (wpAny_of_eq (a := none) (by rfl) ?_)
  dsimp only
  rw [if_neg (by simp [hl])]
  simp only [List.map_nil, List.nil_append, List.append_nil, show ((none : Option (Array Value)).getD #[]).toList = [] from rfl, List.drop_nil, List.zip_nil_right, List.length_nil, Nat.sub_zero, Nat.zero_sub, List.take_length, hz]
  rw [if_neg (by simp)]
  refine wpAny_bind (wpAny_pure ?_)
  refine wpAny_bind (wpAny_pure ?_)
  dsimp only
  rw [if_neg (by simp)]
  exact wpAny_pure h

theorem zip_lookup : ∀ {ns : List Str} {vs : List Value}, ns.Nodup → vs.length = ns.length → ∀ {m : List (Str × Value)}, (∀ p ∈ ns.zip vs, m.lookup p.1 = some p.2) → ns.filterMap (fun n => (m.lookup n).map (n, ·)) = ns.zip vs
  | [], [], _, _, _, _ => rfl
  | n :: ns, v :: vs, nd, hl, m, h => by
    rw [List.zip_cons_cons] at h ⊢
    have h0 := h (n, v) List.mem_cons_self
    rw [List.filterMap_cons, h0]
    simp only [Option.map_some]
    rw [zip_lookup (List.nodup_cons.mp nd).2 (by simpa using hl) fun p hp => h p (List.mem_cons_of_mem _ hp)]
  | [], _ :: _, _, hl, _, _ => by simp at hl
  | _ :: _, [], _, hl, _, _ => by simp at hl
theorem zip_self : ∀ {ns : List Str} {vs : List Value}, ns.Nodup → vs.length = ns.length → ∀ p ∈ ns.zip vs, (ns.zip vs).lookup p.1 = some p.2
  | n :: ns, v :: vs, nd, hl, p, hp => by
    rw [List.zip_cons_cons] at hp ⊢
    rcases List.mem_cons.mp hp with rfl | hp
    · simp
    · have hne : p.1 ≠ n := fun e => (List.nodup_cons.mp nd).1 (by rw [← e]; exact (List.of_mem_zip (show (p.1, p.2) ∈ ns.zip vs from hp)).1)
      rw [List.lookup_cons]
      have : (p.1 == n) = false := by simpa using hne
      rw [this]
      exact zip_self (List.nodup_cons.mp nd).2 (by simpa using hl) p hp
  | [], _, _, _, p, hp => by simp at hp
  | _ :: _, [], _, hl, p, hp => by simp at hl

theorem bndP {fd : FuncData} {as : List Arg} {args : List PV} (hp : fd.params = ⟨[], as, none, [], [], none, []⟩) (hd : fd.defaults = .none) (nd : (as.map (·.arg)).Nodup) (hl : args.length = as.length) : Bnd prog w fd args (as.map (·.arg)) args := by
  intro C vals A s hX hr _
  have hlen := hr.length
  have hl2 : vals.length = (as.map (·.arg)).length := by simp; lia
  refine bindP hp hd (by lia) ?_ ?_
  · rw [List.filter_eq_nil_iff]
    intro n hn
    obtain ⟨i, hi⟩ := List.getElem?_of_mem hn
    have hlt : i < vals.length := by
      have := (List.getElem?_eq_some_iff.mp hi).1
      lia
    have hm : (n, vals[i]) ∈ (as.map (·.arg)).zip vals := List.mem_of_getElem? (i := i) (by rw [List.getElem?_zip_eq_some]; exact ⟨hi, List.getElem?_eq_getElem hlt⟩)
    rw [zip_self nd hl2 _ hm]; simp
  · rw [zip_lookup nd hl2 (zip_self nd hl2)]
    exact ⟨krefl s, vals, rfl, hr⟩

theorem def_parts {x : Str} {e : DefE} (h : defIs p x = some e) : ∃ ps b sc, findDef p x = some (ps, b, sc) ∧ parOk ps = true ∧ entryB sc (parNames ps) = true ∧ (ps.vararg.isSome = (x == "replace")) ∧
    ((x == "translate") = true → (starHead sc b).isSome = true ∧ ps.args.length = 1) ∧ e.k = sc.names.length ∧ e.m = (parNames ps).length ∧ cSs (cS (muOf x) 60 sc) (if x == "translate" then b.tail else b) = some e.b := by
  obtain ⟨d, hf, h⟩ := Option.bind_eq_some_iff.mp h
  obtain ⟨hc, h⟩ := ite_some h
  obtain ⟨h1, hc⟩ := and_t hc
  obtain ⟨h2, hc⟩ := and_t hc
  obtain ⟨h3, h4⟩ := and_t hc
  obtain ⟨q, hq, rfl⟩ := Option.map_eq_some_iff.mp h
  refine ⟨d.1, d.2.1, d.2.2, hf, h1, h2, beq_iff_eq.mp h3, fun ht => ?_, rfl, rfl, hq⟩
  rw [ht] at h4
  exact ⟨(and_t h4).1, beq_iff_eq.mp (and_t h4).2⟩
theorem par_eq {ps : Arguments} (h : parOk ps = true) : ps = ⟨[], ps.args, ps.vararg, [], [], none, []⟩ ∧ (ps.vararg.isNone || (one ps.args).isSome) = true := by
  obtain ⟨a1, a2, a3, a4, a5, a6, a7⟩ := ps
  obtain ⟨h1, h⟩ := and_t h
  obtain ⟨h2, h⟩ := and_t h
  obtain ⟨h3, h⟩ := and_t h
  obtain ⟨h4, h⟩ := and_t h
  obtain ⟨h5, h⟩ := and_t h
  cases List.isEmpty_iff.mp h1; cases List.isEmpty_iff.mp h2; cases List.isEmpty_iff.mp h3; cases Option.isNone_iff_eq_none.mp h4; cases List.isEmpty_iff.mp h5
  exact ⟨rfl, h⟩
theorem par_plain {ps : Arguments} (h : parOk ps = true) (hv : ps.vararg.isSome = false) : ps = ⟨[], ps.args, none, [], [], none, []⟩ ∧ parNames ps = ps.args.map (·.arg) := by
  have e := (par_eq h).1
  have hv : ps.vararg = none := by cases hq : ps.vararg with
    | none => rfl
    | some _ => rw [hq] at hv; cases hv
  rw [hv] at e
  refine ⟨e, ?_⟩
  unfold parNames
  rw [hv]
  exact List.append_nil _
theorem par_star {ps : Arguments} (h : parOk ps = true) (hv : ps.vararg.isSome = true) : ∃ a b, ps = ⟨[], [a], some b, [], [], none, []⟩ := by
  obtain ⟨e, h⟩ := par_eq h
  obtain ⟨b, hb⟩ := Option.isSome_iff_exists.mp hv
  rw [hb] at e h
  obtain ⟨a, _⟩ := Option.isSome_iff_exists.mp (h : (one ps.args).isSome = true)
  exact ⟨a.1, b, a.2 ▸ e⟩

theorem def_plain {n : Nat} {F : PF1} {x : Str} {e : DefE} {args : List PV} {r : PV} (base : Base mg mb hB) (hre : Prims prog w mg mb hB) (FS : FsOk prog w mg hB n F) (D : DefAt p mg hB x) (hE : defIs p x = some e)
    (h1 : (x == "replace") = false) (h2 : (x == "translate") = false) (hm : args.length = e.m) (hr : pfun FUEL F e.k e.b args = some r) : FnOk prog w mg hB (n + 1) x args r := by
  obtain ⟨ps, b, sc, hf, hp, hen, hv, _, hk, hmm, hc⟩ := def_parts hE
  obtain ⟨ps', b', sc', a, fd, o, c, oc, vs, t, g0, g1, g2, g3, g4, g5, g6, g7, g8, g9, g10, g11, g12, g13, g14, g15, g16⟩ := D
  rw [hf] at g0; cases g0
  rw [h2] at hc
  rw [h1] at hv
  obtain ⟨e1, e2⟩ := par_plain hp hv
  subst g6
  have hnd : (ps.args.map (·.arg)).Nodup := by rw [← e2]; exact (entryOk_of hen).nd
  rw [e2] at hen hmm
  rw [hk] at hr
  exact fn_entry base hre FS g1 g2 g3 g5 g8 g9 g10 g11 g12 g13 g14 g15 g16 (entryOk_of hen) hc (by rw [hm, hmm]) (bndP (by rw [g4]; exact e1) g7 hnd (by rw [hm, hmm]; simp)) id hr

theorem def_replace {n : Nat} {F : PF1} {e : DefE} {y : PV} {ys : List PV} {r : PV} (base : Base mg mb hB) (hre : Prims prog w mg mb hB) (FS : FsOk prog w mg hB n F) (D : DefAt p mg hB "replace") (hE : defIs p "replace" = some e)
    (hl : ys.length ≤ LIM) (hr : pfun FUEL F e.k e.b [y, .tup ys] = some r) : FnOk prog w mg hB (n + 1) "replace" (y :: ys) r := by
  obtain ⟨ps, b, sc, hf, hp, hen, hv, _, hk, hmm, hc⟩ := def_parts hE
  obtain ⟨ps', b', sc', a, fd, o, c, oc, vs, t, g0, g1, g2, g3, g4, g5, g6, g7, g8, g9, g10, g11, g12, g13, g14, g15, g16⟩ := D
  rw [hf] at g0; cases g0
  rw [show (("replace" : Str) == "translate") = false from by decide +kernel] at hc
  rw [show (("replace" : Str) == "replace") = true from by decide +kernel] at hv
  obtain ⟨pa, pb, e1⟩ := par_star hp hv
  subst e1
  subst g6
  rw [hk] at hr
  exact fn_entry base hre FS g1 g2 g3 g5 g8 g9 g10 g11 g12 g13 g14 g15 g16 (entryOk_of hen) hc rfl (bndR g4 g7 hl) (fun q => Bool.and_eq_true_iff.mpr ⟨(and_t q).1, Bool.and_eq_true_iff.mpr ⟨(and_t q).2, rfl⟩⟩) hr

theorem def_translate {n : Nat} {F : PF1} {e : DefE} {l r : List Nat} {σ : St} (base : Base mg mb hB) (hre : Prims prog w mg mb hB) (FS : FsOk prog w mg hB n F) (D : DefAt p mg hB "translate") (hE : defIs p "translate" = some e)
    (hr : exs FUEL F e.b ⟨[some (.str l), some .star] ++ List.replicate (e.k - 2) none, []⟩ = some (σ, .ret (.str r))) : FnOk prog w mg hB (n + 1) "translate" [.str l] (.str r) := by
  obtain ⟨ps, b, sc, hf, hp, hen, hv, hs, hk, hmm, hc⟩ := def_parts hE
  obtain ⟨ps', b', sc', a, fd, o, c, oc, vs, t, g0, g1, g2, g3, g4, g5, g6, g7, g8, g9, g10, g11, g12, g13, g14, g15, g16⟩ := D
  rw [hf] at g0; cases g0
  have ht : (("translate" : Str) == "translate") = true := by decide +kernel
  rw [ht] at hc
  rw [show (("translate" : Str) == "replace") = false from by decide +kernel] at hv
  obtain ⟨hs1, hs2⟩ := hs ht
  obtain ⟨e1, e2⟩ := par_plain hp hv
  subst g6
  have hnd : (ps.args.map (·.arg)).Nodup := by rw [← e2]; exact (entryOk_of hen).nd
  rw [e2] at hen hmm
  have E := entryOk_of hen
  obtain ⟨y, _⟩ := Option.isSome_iff_exists.mp hs1
  obtain ⟨⟨y, q1, q2, q3, q4⟩, rest, rfl, k1, k2⟩ := y
  have hlen : 1 < fd.scope.names.length := (List.findIdx?_eq_some_iff_getElem.mp (slot_find k1)).1
  refine fn_star base hre FS g1 g2 g3 g5 g8 g9 g10 g11 g12 g13 g14 g15 g16 E rfl k1 k2 hc (by simp [hs2]) (bndP (by rw [g4]; exact e1) g7 hnd (by rw [hs2]; rfl)) (by simp [noSt]) (r := .str r) (σ' := σ) (N := FUEL) ?_ rfl rfl
  rw [hk] at hr
  rw [← hr]
  obtain ⟨m, hm⟩ : ∃ m, fd.scope.names.length = m + 2 := ⟨fd.scope.names.length - 2, by lia⟩
  rw [hm]
  rfl

theorem fnTab_name {x : Str} {f : String} (h : (x, f) ∈ fnTab) : x = Str.ofString f := by
  unfold fnTab at h
  obtain ⟨y, _, e⟩ := List.mem_map.mp h
  cases e; rfl
theorem fnTab_nosub : ∀ q ∈ fnTab, q.2 ≠ "%sub" := by decide +kernel

theorem pone_eq {as : List PV} {v : PV} (h : pone as = some v) : as = [v] := by
  cases as with
  | nil => cases h
  | cons x r => cases r with
    | nil => cases h; rfl
    | cons _ _ => cases h
theorem fs_def {T : List (String × DefE)} {n : Nat} {f : String} {e : DefE} {args : List PV} {r : PV} (base : Base mg mb hB) (hre : Prims prog w mg mb hB) (IH : FsOk prog w mg hB n (runF T n)) (hE : defIs p (Str.ofString f) = some e) (D : DefAt p mg hB (Str.ofString f))
    (h : defF e (runF T n) f args = some r) : FnOk prog w mg hB (n + 1) (Str.ofString f) args r := by
  unfold defF at h
  by_cases hr : (Str.ofString f == ("replace" : Str)) = true
  · rw [if_pos hr] at h
    rw [beq_iff_eq.mp hr] at hE D ⊢
    cases args with
    | nil => exact nn h
    | cons x ys =>
      obtain ⟨hl, h⟩ := ite_some h
      exact def_replace base hre IH D hE hl h
  · rw [if_neg hr] at h
    by_cases ht : (Str.ofString f == ("translate" : Str)) = true
    · rw [if_pos ht] at h
      rw [beq_iff_eq.mp ht] at hE D ⊢
      obtain ⟨v, e1, h⟩ := Option.bind_eq_some_iff.mp h
      obtain ⟨l, e2, h⟩ := Option.bind_eq_some_iff.mp h
      obtain ⟨q, e3, h⟩ := Option.bind_eq_some_iff.mp h
      obtain ⟨u, e4, h⟩ := Option.bind_eq_some_iff.mp h
      obtain ⟨z, e5, rfl⟩ := Option.map_eq_some_iff.mp h
      cases pone_eq e1
      cases asS_eq e2
      cases asS_eq e5
      obtain ⟨σ, q⟩ := q
      cases q with
      | ret v => cases e4; exact def_translate base hre IH D hE e3
      | _ => exact nn e4
    · rw [if_neg ht] at h
      obtain ⟨hm, h⟩ := ite_some h
      exact def_plain base hre IH D hE (Bool.eq_false_iff.mpr hr) (Bool.eq_false_iff.mpr ht) hm h
theorem fs_ok {T : List (String × DefE)} (base : Base mg mb hB) (hre : Prims prog w mg mb hB) (hT : ∀ f e, T.lookup f = some e → defIs p (Str.ofString f) = some e ∧ DefAt p mg hB (Str.ofString f)) (n : Nat) : FsOk prog w mg hB n (runF T n) := by
  induction n with
  | zero => exact ⟨fun _ _ _ _ _ h => (nomatch h), fun _ _ h => (nomatch h)⟩
  | succ n IH =>
    refine ⟨fun x f args r hx h => ?_, fun v r h => ?_⟩
    · have hs := fnTab_nosub _ hx
      cases fnTab_name hx
      have h : (if f = "%sub" then subF args else (T.lookup f).bind fun e => defF e (runF T n) f args) = some r := h
      rw [if_neg hs] at h
      obtain ⟨e, he, h⟩ := Option.bind_eq_some_iff.mp h
      exact fs_def base hre IH (hT f e he).1 (hT f e he).2 h
    · have h : subF [v] = some r := h
      obtain ⟨u, e1, h⟩ := Option.bind_eq_some_iff.mp h
      cases e1
      obtain ⟨l, e2, h⟩ := Option.bind_eq_some_iff.mp h
      obtain ⟨hc, h⟩ := ite_some h
      cases h
      exact ⟨l, asS_eq e2, hc, rfl⟩

theorem oldK_of (base : Base mg mb hB) {h' : Heap} (k : KN hB h') : OldK hB h' := by
  obtain ⟨ps, e0, t0⟩ := base.pt
  obtain ⟨more, e1, _⟩ := k.tab _ e0
  refine ⟨fun b o e => ?_, fun b o e => k.live e⟩
  by_cases hb : b = PT
  · subst hb
    rw [e0] at e; cases e
    exact .inr (.inl ⟨((base.cod).tab e0).isCodeTable, rfl, ps, more, rfl, e1⟩)
  · exact .inl (k.pt b o hb e)
end
end Mine

namespace Mine
open StrLaws

/-! the laws' call in general -/
noncomputable def eInt : Value → Option Int
  | .int i _ => some i
  | _ => none
noncomputable def eStr : Value → Option Str
  | .str s _ => some s
  | _ => none
theorem eInt_eq {v : Value} {i : Int} (h : eInt v = some i) : ∃ t, v = .int i t := by
  cases v <;> first | (cases h; exact ⟨_, rfl⟩) | cases h
theorem eStr_eq {v : Value} {s : Str} (h : eStr v = some s) : ∃ t, v = .str s t := by
  cases v <;> first | (cases h; exact ⟨_, rfl⟩) | cases h
theorem any_t {α : Type} {o : Option α} {f : α → Bool} (h : o.any f = true) : ∃ a, o = some a ∧ f a = true := by
  cases o with
  | none => cases h
  | some a => exact ⟨a, rfl, h⟩
noncomputable def specEs (es : Array DictEntry) : Bool :=
  (es.toList.all fun e => (eInt e.key).any fun i => (eStr e.val).any fun s => decide (0 ≤ i) && (specials.contains i.toNat && (decide (s.cps.toList = [92, i.toNat]) && decide (e.hash = hashInt i)))) && specials.all fun c => es.toList.any fun e => Value.isInt (c : Nat) e.key
section
variable {prog : Program} {w : World} {mg mb : Str → Option Value} {hB : Heap} {p : Program}
theorem spec_of_es {es : Array DictEntry} {n : Nat} (X : hB.get? spA = some { cls := .type "dict", dict := none, data := .dict es n, slots := #[] }) (h : specEs es = true) : SpecOk prog w hB := by
  simp only [specEs, Bool.and_eq_true, List.all_eq_true] at h
  obtain ⟨h1, h2⟩ := h
  have key : ∀ e ∈ es.toList, ∃ i t s t', e.key = .int i t ∧ e.val = .str s t' ∧ 0 ≤ i ∧ specials.contains i.toNat = true ∧ s.cps.toList = [92, i.toNat] ∧ e.hash = hashInt i := by
    intro e he
    obtain ⟨i, e1, this⟩ := any_t (h1 e he)
    obtain ⟨s, e2, this⟩ := any_t this
    obtain ⟨t, e1⟩ := eInt_eq e1
    obtain ⟨t', e2⟩ := eStr_eq e2
    obtain ⟨q1, this⟩ := and_t this
    obtain ⟨q2, this⟩ := and_t this
    obtain ⟨q3, q4⟩ := and_t this
    exact ⟨i, t, s, t', e1, e2, of_decide_eq_true q1, q2, of_decide_eq_true q3, of_decide_eq_true q4⟩
  refine spec_prim (f := fun k => findBy Value.isInt es k) ⟨_, es, n, X, ⟨rfl, rfl, rfl⟩, rfl, fun e he => ?_, fun _ => rfl⟩ fun c => ?_
  · obtain ⟨i, t, s, t', e1, e2, e3, e4, e5, e6⟩ := key e (Array.mem_toList_iff.mpr he)
    exact ⟨i, by rw [e1]; show Value.isInt i (.int i t) = true; simp [Value.isInt], e6⟩
  · have hfind : findBy Value.isInt es (c : Int) = (es.toList.find? fun e => Value.isInt (c : Nat) e.key).map (·.val) := by
      obtain ⟨l⟩ := es
      unfold findBy
      rw [List.find?_toArray]
    rw [hfind]
    cases hf : es.toList.find? fun e => Value.isInt (c : Nat) e.key with
    | some e =>
      obtain ⟨i, t, s, t', e1, e2, e3, e4, e5, e6⟩ := key e (List.mem_of_find?_eq_some hf)
      have h3 := List.find?_some hf
      rw [e1] at h3
      have hi : i = (c : Int) := by simpa [Value.isInt] using h3
      subst hi
      have hc : specials.contains c = true := by simpa using e4
      rw [if_pos hc]
      refine ⟨t', ?_⟩
      show some e.val = _
      rw [e2]
      obtain ⟨a⟩ := s
      have : a = #[92, c] := Array.ext' (by simpa using e5)
      subst this; rfl
    | none =>
      have hc : ¬ specials.contains c = true := by
        intro hc
        have h3 := h2 c (by simpa using hc)
        obtain ⟨e, he, h4⟩ := List.any_eq_true.mp h3
        have := List.find?_eq_none.mp hf e he
        exact this h4
      rw [if_neg hc]; rfl

theorem rep_ints {P : Params} {h : Heap} {C : RC} : ∀ {vs : List Value} {ws : List Int}, WellAll P h vs (ofPys (ws.map .int)) → RepL C h (ws.map .int) vs
  | vs, [], x => by
    cases x; rfl
  | vs, a :: ws, x => by
    rw [List.map_cons, ofPys] at x
    obtain ⟨v, vs', rfl, x1, x2⟩ := wellAll_cons_inv x
    rw [ofPy] at x1
    cases x1
    exact ⟨_, vs', rfl, rep_int, rep_ints x2⟩

theorem noOwn_ints : ∀ ws : List Int, noOwnL (ws.map .int) = true
  | [] => rfl
  | a :: ws => noOwn_ints ws

theorem law_call {T : List (String × DefE)} {n : Nat} {e : DefE} {ws : List Int} {s : Shared} {l a : Addr} {P : Params} (base : Base mg mb s.heap) (hs : SpecOk prog w s.heap) (hT : ∀ f e, T.lookup f = some e → defIs p (Str.ofString f) = some e ∧ DefAt p mg s.heap (Str.ofString f))
    (hE : T.lookup "law" = some e) (hm : e.m = 1) (hn : n ≤ 20) (hr : pfun FUEL (runF T n) e.k e.b [.list (ws.map .int)] = some (.bool true)) (hl : Well P s.heap (.ref l) (ofPy (.list (ws.map .int)))) (ha : mg "law" = some (.ref a)) :
    wpAny (model prog w) callerA (call (.ref a) [.ref l]) (fun v s' => v = .bool true ∧ Keeps s s') noE s := by
  obtain ⟨hE', D⟩ := hT _ _ hE
  have hre : Prims prog w mg mb s.heap := ⟨resub_prim, hs⟩
  have FS := fs_ok (T := T) base hre hT n
  obtain ⟨a', fd, o, h1, _, _, _, h5⟩ := def_plain base hre FS D hE' (by decide +kernel) (by decide +kernel) (by rw [hm]; rfl) hr
  rw [show (Str.ofString "law") = ("law" : Str) from rfl, ha] at h1
  cases h1
  rw [ofPy] at hl
  cases hl
  rename_i vs h6 h7
  refine seqE (h5 ⟨fun _ => False, 0, []⟩ [.ref l] callerA s (KN.refl _) (fun b hb => hb.elim) ?_ (by simp [noOwnL, noOwn, noOwn_ints]) ⟨rfl, ?_, ?_⟩) fun v s' ⟨k, r⟩ => ⟨by simpa [Rep] using r, k⟩
  · refine RepL.one (rep_list (xs := vs) (fun q => q) ⟨_, h6⟩ (rep_ints h7))
  · show 1 + claimMargin + (n + 1) < recursionLimit
    have e1 : claimMargin = 300 := rfl
    have e2 : recursionLimit = 1000 := rfl
    lia
  · show 4 + 200 + 20 * (n + 1) < cLine
    have : cLine = 9900 := rfl
    lia
end
noncomputable def p_repl : PSs :=
    (.cons (.wh (.var 1) (.cons (.asg 0 (.me .join (.idx (.var 1) (.ci 1)) (.cons (.me .split (.var 0) (.cons (.idx (.var 1) (.ci 0)) .nil)) .nil)))
    (.cons (.asg 1 (.sl (.var 1) (.ci 2) .cn))
    .nil)))
    (.cons (.ret (.var 0))
    .nil))

noncomputable def p_esc : PSs :=
    (.cons (.ite (.isstr (.var 0)) (.cons (.ret (.spec (.var 0)))
    .nil) (.cons (.asrt (.idx .cn .cn))
    (.cons (.asrt (.idx .cn .cn))
    .nil)))
    .nil)

noncomputable def p_trans : PSs :=
    (.cons (.asg 2 (.call "_translate" (.cons (.var 0) (.cons (.var 1) (.cons (.cs [46]) .nil)))))
    (.cons (.ret (.call "_join_translated_parts" (.cons (.var 2) (.cons (.var 1) .nil))))
    .nil))

noncomputable def p_tr : PSs :=
    (.cons (.asgo 3 .nil)
    (.cons (.asga 4 3)
    (.cons (.asgt [5, 6] (.cons (.ci 0) (.cons (.bi .len (.cons (.var 0) .nil)) .nil)))
    (.cons (.wh (.cmp .lt (.var 5) (.var 6)) (.cons (.asg 7 (.idx (.var 0) (.var 5)))
    (.cons (.asg 5 (.bin .add (.var 5) (.ci 1)))
    (.cons (.ite (.cmp .eq (.var 7) (.cs [42])) (.cons (.ite (.or2 (.not (.var 3)) (.cmp .isn (.idx (.var 3) (.ci (-1))) (.var 1))) (.cons (.appf 4 (.var 1))
    .nil) .nil)
    .nil) (.cons (.ite (.cmp .eq (.var 7) (.cs [63])) (.cons (.appf 4 (.var 2))
    .nil) (.cons (.ite (.cmp .eq (.var 7) (.cs [91])) (.cons (.asg 8 (.var 5))
    (.cons (.ite (.and2 (.cmp .lt (.var 8) (.var 6)) (.cmp .eq (.idx (.var 0) (.var 8)) (.cs [33]))) (.cons (.asg 8 (.bin .add (.var 8) (.ci 1)))
    .nil) .nil)
    (.cons (.ite (.and2 (.cmp .lt (.var 8) (.var 6)) (.cmp .eq (.idx (.var 0) (.var 8)) (.cs [93]))) (.cons (.asg 8 (.bin .add (.var 8) (.ci 1)))
    .nil) .nil)
    (.cons (.wh (.and2 (.cmp .lt (.var 8) (.var 6)) (.cmp .ne (.idx (.var 0) (.var 8)) (.cs [93]))) (.cons (.asg 8 (.bin .add (.var 8) (.ci 1)))
    .nil))
    (.cons (.ite (.cmp .ge (.var 8) (.var 6)) (.cons (.appf 4 (.cs [92, 91]))
    .nil) (.cons (.asg 9 (.sl (.var 0) (.var 5) (.var 8)))
    (.cons (.ite (.cmp .nin (.cs [45]) (.var 9)) (.cons (.asg 9 (.me .replace (.var 9) (.cons (.cs [92]) (.cons (.cs [92, 92]) .nil))))
    .nil) (.cons (.asgo 10 .nil)
    (.cons (.asg 11 (.ite (.cmp .eq (.idx (.var 0) (.var 5)) (.cs [33])) (.bin .add (.var 5) (.ci 2)) (.bin .add (.var 5) (.ci 1))))
    (.cons (.wh (.cb true) (.cons (.asrt (.idx .cn .cn))
    (.cons (.ite (.cmp .lt (.var 11) (.ci 0)) (.cons .brk
    .nil) .nil)
    (.cons (.app 10 (.sl (.var 0) (.var 5) (.var 11)))
    (.cons (.asg 5 (.bin .add (.var 11) (.ci 1)))
    (.cons (.asg 11 (.bin .add (.var 11) (.ci 3)))
    .nil))))))
    (.cons (.asg 12 (.sl (.var 0) (.var 5) (.var 8)))
    (.cons (.ite (.var 12) (.cons (.app 10 (.var 12))
    .nil) (.cons (.asrt (.idx .cn .cn))
    .nil))
    (.cons (.fr 11 (.rng (.cons (.bin .sub (.bi .len (.cons (.var 10) .nil)) (.ci 1)) (.cons (.ci 0) (.cons (.ci (-1)) .nil)))) (.cons (.ite (.cmp .gt (.idx (.idx (.var 10) (.bin .sub (.var 11) (.ci 1))) (.ci (-1))) (.idx (.idx (.var 10) (.var 11)) (.ci 0))) (.cons (.asrt (.idx .cn .cn))
    (.cons (.asrt (.idx .cn .cn))
    .nil)) .nil)
    .nil))
    (.cons (.asg 9 (.idx .cn .cn))
    .nil))))))))
    (.cons (.asg 9 (.resub (.var 9)))
    (.cons (.asg 5 (.bin .add (.var 8) (.ci 1)))
    (.cons (.ite (.not (.var 9)) (.cons (.appf 4 (.cs [40, 63, 33, 41]))
    .nil) (.cons (.ite (.cmp .eq (.var 9) (.cs [33])) (.cons (.appf 4 (.cs [46]))
    .nil) (.cons (.ite (.cmp .eq (.idx (.var 9) (.ci 0)) (.cs [33])) (.cons (.asg 9 (.bin .add (.cs [94]) (.sl (.var 9) (.ci 1) .cn)))
    .nil) (.cons (.ite (.cmp .inn (.idx (.var 9) (.ci 0)) (.tup (.cons (.cs [94]) (.cons (.cs [91]) .nil)))) (.cons (.asg 9 (.bin .add (.cs [92]) (.var 9)))
    .nil) .nil)
    .nil))
    (.cons (.appf 4 (.fstr (.cons (.cs [91]) (.cons (.var 9) (.cons (.cs [93]) .nil)))))
    .nil)))
    .nil))
    .nil))))))
    .nil))))) (.cons (.appf 4 (.call "escape" (.cons (.var 7) .nil)))
    .nil))
    .nil))
    .nil))
    .nil))))
    (.cons (.asrt (.cmp .eq (.var 5) (.var 6)))
    (.cons (.ret (.var 3))
    .nil))))))

noncomputable def p_join : PSs :=
    (.cons (.asgo 2 .nil)
    (.cons (.asga 3 2)
    (.cons (.asgt [4, 5] (.cons (.ci 0) (.cons (.bi .len (.cons (.var 0) .nil)) .nil)))
    (.cons (.wh (.and2 (.cmp .lt (.var 4) (.var 5)) (.cmp .isn (.idx (.var 0) (.var 4)) (.var 1))) (.cons (.appf 3 (.idx (.var 0) (.var 4)))
    (.cons (.aug 4 .add (.ci 1))
    .nil)))
    (.cons (.wh (.cmp .lt (.var 4) (.var 5)) (.cons (.asrt (.cmp .is (.idx (.var 0) (.var 4)) (.var 1)))
    (.cons (.aug 4 .add (.ci 1))
    (.cons (.ite (.cmp .eq (.var 4) (.var 5)) (.cons (.appf 3 (.cs [46, 42]))
    (.cons .brk
    .nil)) .nil)
    (.cons (.asrt (.cmp .isn (.idx (.var 0) (.var 4)) (.var 1)))
    (.cons (.asgo 6 .nil)
    (.cons (.wh (.and2 (.cmp .lt (.var 4) (.var 5)) (.cmp .isn (.idx (.var 0) (.var 4)) (.var 1))) (.cons (.app 6 (.idx (.var 0) (.var 4)))
    (.cons (.aug 4 .add (.ci 1))
    .nil)))
    (.cons (.asg 6 (.me .join (.cs []) (.cons (.var 6) .nil)))
    (.cons (.ite (.cmp .eq (.var 4) (.var 5)) (.cons (.appf 3 (.cs [46, 42]))
    (.cons (.appf 3 (.var 6))
    .nil)) (.cons (.appf 3 (.fstr (.cons (.cs [40, 63, 62, 46, 42, 63]) (.cons (.var 6) (.cons (.cs [41]) .nil)))))
    .nil))
    .nil)))))))))
    (.cons (.asrt (.cmp .eq (.var 4) (.var 5)))
    (.cons (.asg 2 (.me .join (.cs []) (.cons (.var 2) .nil)))
    (.cons (.ret (.fstr (.cons (.cs [40, 63, 115, 58]) (.cons (.var 2) (.cons (.cs [41, 92, 90]) .nil)))))
    .nil))))))))

noncomputable def p_signs : PSs :=
    (.cons (.asgt [1, 2] (.cons (.cs []) (.cons (.ci 0) .nil)))
    (.cons (.wh (.cmp .lt (.var 2) (.bi .len (.cons (.var 0) .nil))) (.cons (.asg 3 (.ite (.cmp .eq (.idx (.var 0) (.var 2)) (.cs [91])) (.ci 1) (.ci 0)))
    (.cons (.ite (.cmp .inn (.idx (.var 0) (.var 2)) (.cs [46, 42, 63])) (.cons (.ret (.cs [57344]))
    .nil) .nil)
    (.cons (.aug 2 .add (.var 3))
    (.cons (.aug 2 .add (.ite (.cmp .eq (.idx (.var 0) (.var 2)) (.cs [92])) (.ci 1) (.ci 0)))
    (.cons (.aug 1 .add (.idx (.var 0) (.var 2)))
    (.cons (.aug 2 .add (.ci 1))
    (.cons (.ite (.and2 (.cmp .eq (.var 3) (.ci 1)) (.cmp .ne (.sl (.var 0) (.var 2) (.bin .add (.var 2) (.ci 1))) (.cs [93]))) (.cons (.ret (.cs [57344]))
    .nil) .nil)
    (.cons (.aug 2 .add (.var 3))
    .nil)))))))))
    (.cons (.ret (.var 1))
    .nil)))

noncomputable def p2_most : PSs :=
    (.cons (.asgo 2 (.cons (.ci 0) .nil))
    (.cons (.fr 3 (.rng (.cons (.ci 1) (.cons (.bin .add (.bi .len (.cons (.var 0) .nil)) (.ci 1)) .nil))) (.cons (.asg 4 (.and2 (.cmp .ge (.var 3) (.bi .len (.cons (.var 1) .nil))) (.cmp .eq (.sl (.var 0) (.bin .sub (.var 3) (.bi .len (.cons (.var 1) .nil))) (.var 3)) (.var 1))))
    (.cons (.app 2 (.bi .max2 (.cons (.idx (.var 2) (.ci (-1))) (.cons (.ite (.var 4) (.bin .add (.idx (.var 2) (.bin .sub (.var 3) (.bi .len (.cons (.var 1) .nil)))) (.ci 1)) (.ci 0)) .nil))))
    .nil)))
    (.cons (.ret (.var 2))
    .nil)))

noncomputable def p2_mirror : PSs :=
    (.cons (.ret (.me .join (.cs []) (.cons (.comp (.idx (.var 3) (.bin .sub (.bin .sub (.bi .len (.cons (.var 3) .nil)) (.ci 1)) (.var 1))) 1 (.rng (.cons (.bi .len (.cons (.var 0) .nil)) .nil)) .nil [none, none, none, some 0]) .nil)))
    .nil)

noncomputable def p2_ends : PSs :=
    (.cons (.asg2 2 3 (.ci 0))
    (.cons (.fr 4 (.val (.call "replace" (.cons (.var 0) (.cons (.var 1) (.cons (.cs [57344]) .nil))))) (.cons (.asg 5 (.ite (.cmp .eq (.var 4) (.cs [57344])) (.var 1) (.var 4)))
    (.cons (.ite (.cmp .ne (.sl (.var 0) (.var 2) (.bin .add (.var 2) (.bi .len (.cons (.var 5) .nil)))) (.var 5)) (.cons (.ret (.bin .mul (.lst (.cons (.ci (-1)) .nil)) (.ci 99)))
    .nil) .nil)
    (.cons (.aug 2 .add (.bi .len (.cons (.var 5) .nil)))
    (.cons (.ite (.cmp .eq (.var 4) (.cs [57344])) (.cons (.app 3 (.var 2))
    .nil) .nil)
    .nil)))))
    (.cons (.ret (.ite (.cmp .eq (.var 2) (.bi .len (.cons (.var 0) .nil))) (.var 3) (.bin .mul (.lst (.cons (.ci (-1)) .nil)) (.ci 99))))
    .nil)))

noncomputable def p2_rows : PSs :=
    (.cons (.asg 1 (.me .split (.sl (.var 0) (.ci 4) (.ci (-3))) (.cons (.cs [40, 63, 62, 46, 42, 63]) .nil)))
    (.cons (.asg 1 (.bin .add (.sl (.var 1) .cn (.ci (-1))) (.me .split (.idx (.var 1) (.ci (-1))) (.cons (.cs [46, 42]) .nil))))
    (.cons (.asg 1 (.bin .add (.bin .add (.sl (.var 1) .cn (.ci 1)) (.comp (.sl (.var 1) .cn (.ci (-1))) 1 (.val (.sl (.var 1) (.ci 1) (.ci (-1)))) .nil [none, none])) (.sl (.var 1) (.ci (-1)) .cn)))
    (.cons (.asg 2 (.bin .add (.bin .add (.bin .add (.idx (.var 1) (.ci 0)) (.me .join (.cs []) (.cons (.comp (.bin .add (.bin .add (.cs [40, 63, 62, 46, 42, 63]) (.var 1)) (.cs [41])) 1 (.val (.sl (.var 1) (.ci 1) (.ci (-1)))) .nil [none, none]) .nil))) (.cs [46, 42])) (.idx (.var 1) (.ci (-1)))))
    (.cons (.ret (.ite (.cmp .eq (.var 0) (.bin .add (.bin .add (.cs [40, 63, 115, 58]) (.var 2)) (.cs [41, 92, 90]))) (.comp (.call "_law_signs" (.cons (.var 1) .nil)) 1 (.val (.var 1)) .nil [none, none, none]) (.bin .mul (.lst (.cons (.cs [57344]) .nil)) (.ci 2))))
    .nil)))))

noncomputable def p2_run : PSs :=
    (.cons (.asg2 2 3 (.bi .len (.cons (.idx (.var 0) (.ci 0)) .nil)))
    (.cons (.ite (.cmp .ne (.sl (.var 1) .cn (.var 2)) (.idx (.var 0) (.ci 0))) (.cons (.ret .cn)
    .nil) .nil)
    (.cons (.fr 4 (.val (.sl (.var 0) (.ci 1) (.ci (-1)))) (.cons (.wh (.cmp .ne (.sl (.var 1) (.var 2) (.bin .add (.var 2) (.bi .len (.cons (.var 4) .nil)))) (.var 4)) (.cons (.aug 2 .add (.ci 1))
    (.cons (.ite (.cmp .gt (.var 2) (.bi .len (.cons (.var 1) .nil))) (.cons (.ret .cn)
    .nil) .nil)
    .nil)))
    (.cons (.aug 2 .add (.bi .len (.cons (.var 4) .nil)))
    (.cons (.app 3 (.var 2))
    .nil))))
    (.cons (.asg 5 (.bin .sub (.bi .len (.cons (.var 1) .nil)) (.bi .len (.cons (.idx (.var 0) (.ci (-1))) .nil))))
    (.cons (.ret (.ite (.and2 (.cmp .ge (.var 5) (.var 2)) (.cmp .eq (.sl (.var 1) (.var 5) .cn) (.idx (.var 0) (.ci (-1))))) (.var 3) .cn))
    .nil)))))

noncomputable def p2_law : PSs :=
    (.cons (.asg 1 (.comp (.bin .mod (.var 1) (.bin .pow (.ci 10) (.ci 6))) 1 (.val (.sl (.bin .add (.sl (.var 0) .cn (.ci 6)) (.lst (.cons (.ci 0) (.cons (.ci 1) (.cons (.ci 0) (.cons (.ci 12) (.cons (.ci 7) (.cons (.ci 4) .nil)))))))) .cn (.ci 6))) .nil [none, none]))
    (.cons (.asg 2 (.cs [97, 42, 91, 93, 46, 63]))
    (.cons (.asg 3 (.me .join (.cs []) (.cons (.comp (.bin .mul (.idx (.var 2) (.bin .mod (.var 1) (.ci 6))) (.bin .add (.ci 1) (.bin .mod (.bin .fdiv (.var 1) (.ci 6)) (.ci 2)))) 1 (.val (.sl (.var 1) .cn (.ci 3))) .nil [none, none, some 2]) .nil)))
    (.cons (.asg 4 (.bin .add (.sl (.bin .mul (.var 3) (.ci 3)) .cn (.ci 8)) (.me .join (.cs []) (.cons (.comp (.idx (.var 2) (.bin .mod (.var 1) (.ci 6))) 1 (.val (.sl (.var 1) (.ci 3) .cn)) (.cons (.cmp .eq (.bin .mod (.bin .fdiv (.var 1) (.ci 6)) (.ci 2)) (.ci 0)) .nil) [none, none, some 2]) .nil))))
    (.cons (.asg 5 (.bi .sum (.cons (.var 1) .nil)))
    (.cons (.asg 6 (.sl (.var 4) (.bin .mod (.var 5) (.ci 8)) (.bin .add (.bin .add (.bin .mod (.var 5) (.ci 8)) (.ci 1)) (.bin .mod (.bin .fdiv (.var 5) (.ci 8)) (.ci 4)))))
    (.cons (.asg 7 (.call "_law_most" (.cons (.var 4) (.cons (.var 6) .nil))))
    (.cons (.asg 8 (.call "_law_ends" (.cons (.var 4) (.cons (.var 6) .nil))))
    (.cons (.ite (.cmp .ne (.var 8) (.comp (.me .index (.var 2) (.cons (.var 1) .nil)) 1 (.rng (.cons (.ci 1) (.cons (.bin .add (.idx (.var 7) (.ci (-1))) (.ci 1)) .nil))) .nil [none, none, some 7])) (.cons (.ret (.cb false))
    .nil) .nil)
    (.cons (.ite (.cmp .ne (.bi .len (.cons (.call "_law_ends" (.cons (.call "_law_mirror" (.cons (.var 4) .nil)) (.cons (.call "_law_mirror" (.cons (.var 6) .nil)) .nil))) .nil)) (.bi .len (.cons (.var 8) .nil))) (.cons (.ret (.cb false))
    .nil) .nil)
    (.cons (.asg 9 (.call "replace" (.cons (.var 6) (.cons (.cs [91]) (.cons (.cs [91, 91, 93]) (.cons (.cs [42]) (.cons (.cs [91, 42, 93]) (.cons (.cs [63]) (.cons (.cs [91, 63, 93]) .nil)))))))))
    (.cons (.fr 10 (.rng (.cons (.ci 2) .nil)) (.cons (.asg 11 (.bin .add (.cs [42]) (.bin .mul (.bin .add (.var 9) (.cs [42])) (.bin .add (.bi .len (.cons (.var 8) .nil)) (.var 10)))))
    (.cons (.asg 12 (.call "_law_run" (.cons (.call "_law_rows" (.cons (.call "translate" (.cons (.var 11) .nil)) .nil)) (.cons (.var 4) .nil))))
    (.cons (.asg 13 (.call "_law_run" (.cons (.call "_law_rows" (.cons (.call "translate" (.cons (.bin .add (.bin .add (.var 9) (.var 11)) (.var 9)) .nil)) .nil)) (.cons (.bin .add (.bin .add (.var 6) (.var 4)) (.var 6)) .nil))))
    (.cons (.ite (.and2 (.cmp .eq (.var 10) (.ci 0)) (.or2 (.cmp .ne (.var 12) (.var 8)) (.cmp .ne (.var 13) (.comp (.bin .add (.bi .len (.cons (.var 3) .nil)) (.var 1)) 1 (.val (.var 8)) .nil [none, none, none, some 6])))) (.cons (.ret (.cb false))
    .nil) .nil)
    (.cons (.ite (.and2 (.cmp .eq (.var 10) (.ci 1)) (.or2 (.cmp .isn (.var 12) .cn) (.cmp .isn (.var 13) .cn))) (.cons (.ret (.cb false))
    .nil) .nil)
    .nil))))))
    (.cons (.ret (.cb true))
    .nil)))))))))))))

noncomputable def T2 : List (String × DefE) := [("replace", ⟨2, 2, p_repl⟩), ("escape", ⟨4, 1, p_esc⟩), ("translate", ⟨6, 1, p_trans⟩), ("_translate", ⟨17, 3, p_tr⟩), ("_join_translated_parts", ⟨8, 2, p_join⟩), ("_law_signs", ⟨5, 1, p_signs⟩), ("_law_most", ⟨8, 2, p2_most⟩), ("_law_mirror", ⟨3, 1, p2_mirror⟩), ("_law_ends", ⟨8, 2, p2_ends⟩), ("_law_rows", ⟨3, 1, p2_rows⟩), ("_law_run", ⟨7, 2, p2_run⟩), ("law", ⟨24, 1, p2_law⟩)]

theorem lookup_memS {α : Type} : ∀ {l : List (String × α)} {f : String} {e : α}, l.lookup f = some e → (f, e) ∈ l
  | (g, d) :: l, f, e, h => by
    rw [List.lookup_cons] at h
    split at h
    · rename_i hq
      cases h; rw [beq_iff_eq.mp hq]; exact List.mem_cons_self
    · exact List.mem_cons_of_mem _ (lookup_memS h)
end Mine

namespace Mine
section
variable {p : Program} {mg mb : Str → Option Value} {h : Heap} {K : Frag}
theorem defAt_of {x : Str} {ps : Arguments} {b : List Stmt} {sc : Scope} {a : Addr} {o : Obj} {fd : FuncData} {c : Addr} {oc : Obj} {vs : Array Value} {t : Tok} (X : K.In h) (G : h.Ns mainGlobals mg)
    (hd : findDef p x = some (ps, b, sc)) (e1 : nsIn K mainGlobals x = some (some (.ref a))) (e2 : K.lookup a = some o) (e3 : o.data = .func fd) (e4 : fd.params = ps) (e5 : fd.body = .stmts b) (e6 : fd.scope = sc) (e7 : fd.defaults = .none) (e8 : fd.closure = [])
    (e9 : fd.globals = mainGlobals) (e10 : fd.builtins = builtinsNs) (e11 : fd.code = .ref c) (e12 : K.lookup c = some oc) (e13 : oc.data = .fields vs) (e14 : oc.cls ≠ .none) (e15 : vs[1]? = some (.str fd.qualname t)) (e16 : (slotOf sc "stuff").isSome = true → c = CT) : DefAt p mg h x :=
  ⟨ps, b, sc, a, fd, o, c, oc, vs, t, hd, mg_of X G e1, X _ _ e2, e3, e4, e5, e6, e7, e8, e9, e10, e11, X _ _ e12, noTab_cls e14, e13, e15, e16⟩

theorem base_of {loose : List Str} {mean : ExcName → Option Value} {q : Program} {oc : Obj} {vs : Array Value} {file : Str} {flags text : Int} {inF : Bool} {tf tg tt : Tok} {fs : Array Value} {xs : Array Value} {n : Nat} {cr : Value} (T : Top q loose mean mg mb h) (X : K.In h)
    (e1 : K.lookup PT = some { cls := .none, data := .fields #[] })
    (e2 : ∀ p ∈ biTab, p.1 ∉ startupNames ∧ p.1 ∉ loose ∧ p.1 ∉ (recsOf q).map (·.name) ∧ p.1 ∉ (litsOf q).map (·.1) ∧ p.1 ∉ (clssOf q loose).map (·.name)) (e3 : ∀ p ∈ biTab, p.1 ≠ "__name__" ∧ bootBuiltins p.1 = some p.2)
    (e4 : K.lookup CT = some oc) (e5 : oc.cls = .type "code") (e6 : oc.data = .fields vs) (e7 : vs[11]? = some (.ref PT)) (e8 : vs.getD 11 .none = .ref PT) (e9 : vs.getD 18 .none = .str file tf) (e10 : vs.getD 7 .none = .int flags tg) (e11 : vs.getD 9 .none = .bool inF) (e12 : vs.getD 10 .none = .int text tt)
    (e13 : nsIn K mainGlobals "_special_chars_map" = some (some (.ref spA))) (e14 : nsIn K mainGlobals "_twin_re_1" = some (some (.ref reA)))
    (e15 : K.lookup reA = some { cls := .type "re.Pattern", data := .fields fs }) (e16 : PySem.Builtin.Re.reRawNat (fs.getD 6 .none) = 0) (e17 : fs.getD 5 .none = .ref reC) (e18 : K.lookup reC = some { cls := cr, data := .seq xs n }) (e19 : xs.toList.map (fun v => (PySem.Builtin.Re.reRawOf v).toNat) = reCode.toList) : Base mg mb h where
  nsg := T.g
  nsb := T.b
  pt := ⟨#[], X _ _ e1, trivial⟩
  bis := fun p hp => ⟨by obtain ⟨h1, h2, h3, h4, h5⟩ := e2 p hp; exact T.free _ h1 h2 h3 h4 h5, by rw [T.builtins _ (e3 p hp).1]; exact (e3 p hp).2⟩
  cod := ⟨_, vs, file, tf, flags, tg, inF, text, tt, X _ _ e4, e5, e6, e7, e8, e9, e10, e11, e12, by decide⟩
  bat := by
    obtain ⟨bm, ob, b1, b2, b3, b4, b5, b6⟩ := T.bmain
    refine ⟨bm, ob, b1, b2, fun q => ?_, fun q => ?_, b3, b4, b5, b6⟩
    · obtain ⟨o, es, ep, e, hd, _⟩ := T.g
      rw [q, e] at b3; cases b3; rw [hd] at b6; cases b6
    · rw [q, X _ _ e1] at b3; cases b3; cases b4
  lim := T.nolimit
  sp := mg_of X T.g e13
  re := mg_of X T.g e14
  reo := ⟨⟨fs, X _ _ e15, e16, e17⟩, ⟨xs, _, n, X _ _ e18, rfl, Array.ext' (by rw [← e19, Array.toList_map, Array.toList_map, List.map_map]; rfl)⟩⟩

theorem goodWG_of {c : ClaimW} {cl : Str → Option Addr} {mean : ExcName → Option Value} {args : List WData} {s₁ s' : Shared} {v : Value} (base : Base mg mb s₁.heap) (hg : s₁.gens = #[]) (hv : v = .bool true) (k : Keeps s₁ s') (hn : ∀ cls, c.raises args cls = false) (hp : c.post args (.bool true) args = true) :
    GoodWG c cl mean args s₁ (.ok (.ret v)) s' := by
  subst hv
  have hk := kheap k
  obtain ⟨h', t, g, rfl, k1, k2⟩ := k
  exact ⟨.inl ⟨.bool true, .bool true, [], rfl, hn, .bool true, hp, fun _ => ⟨List.nodup_nil, fun a ha => (nomatch ha)⟩⟩, oldK_of base hk, rfl, k2 (.of_eq hg)⟩
end
end Mine


namespace Mine
set_option maxHeartbeats 0 in
theorem def2 : ∀ f e, T2.lookup f = some e → defIs PySem.Challenge.pw_ij0085_02 (Str.ofString f) = some e := by
  intro f e h
  have h' := lookup_memS h
  simp only [T2, List.mem_cons, List.not_mem_nil, or_false, Prod.mk.injEq] at h'
  rcases h' with h' | h' | h' | h' | h' | h' | h' | h' | h' | h' | h' | h' <;> (obtain ⟨rfl, rfl⟩ := h'; rfl)
end Mine

namespace Mine

structure Std (T : List (String × DefE)) : Prop where
  repl : T.lookup "replace" = some ⟨2, 2, p_repl⟩
  esc : T.lookup "escape" = some ⟨4, 1, p_esc⟩
  trans : T.lookup "translate" = some ⟨6, 1, p_trans⟩
  tr : T.lookup "_translate" = some ⟨17, 3, p_tr⟩
  join : T.lookup "_join_translated_parts" = some ⟨8, 2, p_join⟩
  signs : T.lookup "_law_signs" = some ⟨5, 1, p_signs⟩
theorem std2 : Std T2 := ⟨rfl, rfl, rfl, rfl, rfl, rfl⟩

theorem whIt_step {test : St → Option Bool} {body : St → Option (St × PF)} {n : Nat} {σ σ' : St} (ht : test σ = some true) (hb : body σ = some (σ', .next)) : whIt test body (n + 1) σ = whIt test body n σ' :=
  (congrArg (fun o => Option.bind o _) ht).trans (congrArg (fun o => Option.bind o _) hb)
theorem whIt_stop {test : St → Option Bool} {body : St → Option (St × PF)} {n : Nat} {σ : St} (ht : test σ = some false) : whIt test body (n + 1) σ = some (σ, .next) := congrArg (fun o => Option.bind o _) ht
theorem whIt_brk {test : St → Option Bool} {body : St → Option (St × PF)} {n : Nat} {σ σ' : St} (ht : test σ = some true) (hb : body σ = some (σ', .brk)) : whIt test body (n + 1) σ = some (σ', .next) :=
  (congrArg (fun o => Option.bind o _) ht).trans (congrArg (fun o => Option.bind o _) hb)
theorem bind_eq {α β : Type} {o : Option α} {f : α → Option β} {a : α} {b : Option β} (h : o = some a) (h2 : f a = b) : o.bind f = b := by subst h; exact h2

theorem def_eq {T : List (String × DefE)} {f : String} {e : DefE} {n : Nat} {as : List PV} (h : T.lookup f = some e) (h0 : f ≠ "%sub") : runF T (n + 1) f as = defF e (runF T n) f as :=
  (if_neg h0).trans (bind_eq h rfl)
theorem run_eq {T : List (String × DefE)} {f : String} {e : DefE} {n : Nat} {as : List PV} (h : T.lookup f = some e) (h0 : f ≠ "%sub") (h1 : (Str.ofString f == ("replace" : Str)) = false) (h2 : (Str.ofString f == ("translate" : Str)) = false) (hl : as.length = e.m) :
    runF T (n + 1) f as = pfun FUEL (runF T n) e.k e.b as :=
  (def_eq h h0).trans ((if_neg (Bool.eq_false_iff.mp h1)).trans ((if_neg (Bool.eq_false_iff.mp h2)).trans (if_pos hl)))

theorem esc_run {T : List (String × DefE)} (S : Std T) (n : Nat) (c : Nat) : runF T (n + 1) "escape" [.str [c]] = some (.str (pesc c)) := by
  rw [run_eq S.esc (by decide) (by decide +kernel) (by decide +kernel) rfl]
  rfl
theorem sub_run {T : List (String × DefE)} (n : Nat) {l : List Nat} (h : subOk l = true) : runF T (n + 1) "%sub" [.str l] = some (.str l) := if_pos h

/-! replace -/
noncomputable def flatP : List (List Nat × List Nat) → List PV
  | [] => []
  | (a, b) :: r => .str a :: .str b :: flatP r
noncomputable def prepl : List (List Nat × List Nat) → List Nat → List Nat
  | [], x => x
  | (a, b) :: r, x => prepl r (preplace x a b)
noncomputable def okRepl : List (List Nat × List Nat) → List Nat → Prop
  | [], _ => True
  | (a, b) :: r, x => a ≠ [] ∧ x.length ≤ LIM ∧ ((psplit a x).map List.length).sum + (psplit a x).length * b.length ≤ LIM ∧ okRepl r (preplace x a b)

theorem pstrs_map : ∀ l : List (List Nat), pstrs (l.map .str) = some l
  | [] => rfl
  | x :: r => bind_eq rfl ((congrArg (Option.map _) (pstrs_map r)).trans rfl)
theorem map_eq {α β : Type} {o : Option α} {f : α → β} {a : α} (h : o = some a) : o.map f = some (f a) := by subst h; rfl
theorem exs_next {n : Nat} {F : PF1} {p : PS} {r : PSs} {σ σ' : St} {R : Option (St × PF)} (h : ex n F p σ = some (σ', .next)) (h2 : exs n F r σ' = R) : exs n F (.cons p r) σ = R := bind_eq h h2
theorem exs_one {n : Nat} {F : PF1} {p : PS} {σ σ' : St} (h : ex n F p σ = some (σ', .next)) : exs n F (.cons p .nil) σ = some (σ', .next) := exs_next h rfl
theorem exs_stop {n : Nat} {F : PF1} {p : PS} {r : PSs} {σ σ' : St} {f : PF} (h : ex n F p σ = some (σ', f)) (hf : f ≠ .next) : exs n F (.cons p r) σ = some (σ', f) := by
  refine bind_eq h ?_
  cases f with
  | next => exact absurd rfl hf
  | _ => rfl
theorem ite_t {n : Nat} {F : PF1} {c : PE} {a b : PSs} {σ : St} {R : Option (St × PF)} (h : pt F σ.O σ.G c = some true) (h2 : exs n F a σ = R) : ex n F (.ite c a b) σ = R := bind_eq h h2
theorem ite_f {n : Nat} {F : PF1} {c : PE} {a b : PSs} {σ : St} {R : Option (St × PF)} (h : pt F σ.O σ.G c = some false) (h2 : exs n F b σ = R) : ex n F (.ite c a b) σ = R := bind_eq h h2
theorem asg_e {n : Nat} {F : PF1} {i : Nat} {e : PE} {σ : St} {v : PV} (h : ev F σ.O σ.G e = some v) : ex n F (.asg i e) σ = some (σ.put i v, .next) := map_eq h
theorem evs_c {F : PF1} {O : Owns} {G : Slots} {e : PE} {r : PEs} {v : PV} {vs : List PV} (h : ev F O G e = some v) (h2 : evs F O G r = some vs) : evs F O G (.cons e r) = some (v :: vs) := bind_eq h (map_eq h2)
theorem call_e {F : PF1} {O : Owns} {G : Slots} {f : String} {es : PEs} {vs : List PV} {r : PV} (h : evs F O G es = some vs) (h2 : noOwnL vs = true) (h3 : F f vs = some r) : ev F O G (.call f es) = some r := bind_eq h ((if_pos h2).trans h3)
theorem bin_e {F : PF1} {O : Owns} {G : Slots} {op : PBin} {a b : PE} {x y r : PV} (h : ev F O G a = some x) (h2 : ev F O G b = some y) (h3 : pbin O op x y = some r) : ev F O G (.bin op a b) = some r := bind_eq h (bind_eq h2 h3)
theorem cmp_t {F : PF1} {O : Owns} {G : Slots} {op : PCmp} {a b : PE} {x y : PV} {r : Bool} (h : ev F O G a = some x) (h2 : ev F O G b = some y) (h3 : pcmp O op x y = some r) : pt F O G (.cmp op a b) = some r := bind_eq h (bind_eq h2 h3)
theorem idx_s {F : PF1} {O : Owns} {G : Slots} {a b : PE} {l : List Nat} {i : Int} {c : Nat} (h : ev F O G a = some (.str l)) (h2 : ev F O G b = some (.int i)) (h3 : i.natAbs < 2 ^ 62) (h4 : pidx l i = some c) : ev F O G (.idx a b) = some (.str [c]) := bind_eq h (bind_eq h2 ((if_pos h3).trans (map_eq h4)))
theorem idx_l {F : PF1} {O : Owns} {G : Slots} {a b : PE} {l : List PV} {i : Int} {c : PV} (h : ev F O G a = some (.list l)) (h2 : ev F O G b = some (.int i)) (h3 : i.natAbs < 2 ^ 62) (h4 : pidx l i = some c) : ev F O G (.idx a b) = some c := bind_eq h (bind_eq h2 ((if_pos h3).trans h4))
theorem idx_o {F : PF1} {O : Owns} {G : Slots} {a b : PE} {k : Nat} {l : List PV} {i : Int} {c : PV} (h : ev F O G a = some (.own k)) (h1 : O[k]? = some (some l)) (h2 : ev F O G b = some (.int i)) (h3 : i.natAbs < 2 ^ 62) (h4 : pidx l i = some c) : ev F O G (.idx a b) = some c := bind_eq h (bind_eq h2 ((if_pos h3).trans (bind_eq (bind_eq h1 rfl) h4)))
theorem me_split {F : PF1} {O : Owns} {G : Slots} {e : PE} {es : PEs} {x a : List Nat} (h1 : ev F O G e = some (.str x)) (h2 : evs F O G es = some [.str a]) (h3 : a ≠ []) (h4 : x.length ≤ LIM) : ev F O G (.me .split e es) = some (.list ((psplit a x).map .str)) :=
  bind_eq h1 (bind_eq h2 (if_neg (by simp [h3, h4])))
theorem pme_join {O : Owns} {b : List Nat} {v : PV} : pme O .join (.str b) [v] = ((asL O v).bind pstrs).bind fun ls => if (ls.map List.length).sum + ls.length * b.length ≤ LIM then some (.str (pjoin b ls)) else none := rfl
theorem me_join {F : PF1} {O : Owns} {G : Slots} {e : PE} {es : PEs} {b : List Nat} {v : PV} {ls : List (List Nat)} (h1 : ev F O G e = some (.str b)) (h2 : evs F O G es = some [v]) (h3 : asL O v = some (ls.map .str)) (h4 : (ls.map List.length).sum + ls.length * b.length ≤ LIM) : ev F O G (.me .join e es) = some (.str (pjoin b ls)) :=
  bind_eq h1 (bind_eq h2 (pme_join.trans (bind_eq (bind_eq h3 (pstrs_map ls)) (if_pos h4))))
theorem fstr_e {F : PF1} {O : Owns} {G : Slots} {es : PEs} {ls : List (List Nat)} (h : evs F O G es = some (ls.map .str)) (h2 : (ls.map List.length).sum ≤ LIM) : ev F O G (.fstr es) = some (.str ls.flatten) := bind_eq h (bind_eq (pstrs_map ls) (if_pos h2))
theorem appf_e {n : Nat} {F : PF1} {i k : Nat} {e : PE} {σ : St} {v : PV} {vs : List PV} (h : σ.G[i]? = some (some (.app k))) (h1 : σ.O[k]? = some (some vs)) (h2 : ev F σ.O σ.G e = some v) (h3 : vs.length ≤ LIM) : ex n F (.appf i e) σ = some (σ.putO k (vs ++ [v]), .next) :=
  bind_eq (bind_eq (bind_eq h rfl) (map_eq (bind_eq h1 rfl))) (bind_eq h2 (if_pos h3))

theorem flatP_len : ∀ l : List (List Nat × List Nat), (flatP l).length = 2 * l.length
  | [] => rfl
  | (a, b) :: r => by simp [flatP, flatP_len r]; lia

theorem repl_loop {F : PF1} : ∀ (ps : List (List Nat × List Nat)) (x : List Nat) (n : Nat), ps.length < n → 2 * ps.length ≤ LIM → okRepl ps x →
    whIt (fun σ => pt F σ.O σ.G (.var 1)) (fun σ => exs FUEL F (.cons (.asg 0 (.me .join (.idx (.var 1) (.ci 1)) (.cons (.me .split (.var 0) (.cons (.idx (.var 1) (.ci 0)) .nil)) .nil))) (.cons (.asg 1 (.sl (.var 1) (.ci 2) .cn)) .nil)) σ) n
      ⟨[some (.str x), some (.tup (flatP ps))], []⟩ = some (⟨[some (.str (prepl ps x)), some (.tup [])], []⟩, .next)
  | [], x, 0, h, _, _ => by simp at h
  | [], x, n + 1, _, _, _ => whIt_stop (by first | rfl | simp [pt, ptruth, flatP, LIM])
  | (a, b) :: ps, x, 0, h, _, _ => by simp at h
  | (a, b) :: ps, x, n + 1, h, hl, ho => by
    have hl' : 2 * ps.length + 2 ≤ LIM := by simp at hl; lia
    obtain ⟨o1, o2, o3, o4⟩ := ho
    have hlen := flatP_len ps
    have hL : LIM = 1048576 := rfl
    rw [whIt_step (σ' := ⟨[some (.str (preplace x a b)), some (.tup (flatP ps))], []⟩)]
    · exact repl_loop ps _ n (by simp at h; lia) (by lia) o4
    · simp [pt, ptruth, flatP, hlen]; lia
    · refine exs_next (σ' := ⟨[some (.str (preplace x a b)), some (.tup (.str a :: .str b :: flatP ps))], []⟩) (asg_e (me_join rfl (evs_c (me_split rfl rfl o1 o2) rfl) rfl o3)) (exs_one (asg_e (i := 1) (v := .tup (flatP ps)) ?_))
      refine bind_eq rfl (bind_eq rfl (bind_eq rfl ((if_pos ?_).trans rfl)))
      exact ⟨rfl, by show (flatP ps).length + 1 + 1 ≤ LIM; lia, by decide, by show (2 : Int) ≤ (((flatP ps).length + 1 + 1 : Nat) : Int); lia⟩

theorem repl_run {T : List (String × DefE)} (S : Std T) (n : Nat) {ps : List (List Nat × List Nat)} {x : List Nat} (hl : ps.length ≤ 1000) (ho : okRepl ps x) : runF T (n + 1) "replace" (.str x :: flatP ps) = some (.str (prepl ps x)) := by
  have hL : LIM = 1048576 := rfl
  rw [def_eq S.repl (by decide)]
  refine (if_pos (by decide +kernel)).trans ((if_pos (by rw [flatP_len]; lia)).trans ?_)
  have := repl_loop (F := runF T n) ps x FUEL (by show ps.length < 4096; lia) (by lia) ho
  exact bind_eq (bind_eq this rfl) rfl
end Mine

namespace Mine

noncomputable def whBody : PSs → PSs
  | .cons (.wh _ b) _ => b
  | .cons _ r => whBody r
  | .nil => .nil
noncomputable def trBody : PSs := whBody p_tr
/-- the state of `_translate`'s loop -/
noncomputable def trS (pat : List Nat) (i n : Int) (res : List PV) (x7 x8 x9 x10 x11 x12 : Option PV) : St :=
  ⟨[some (.str pat), some .star, some (.str [46]), some (.own 0), some (.app 0), some (.int i), some (.int n), x7, x8, x9, x10, x11, x12, none, none, none, none], [some res]⟩

/-- the signs of a pattern -/
inductive Tk where
  | star | q | lit (c : Nat) | br (c : Nat)
noncomputable def Tk.ok : Tk → Bool
  | .lit c => !(c == 42 || c == 63 || c == 91)
  | .br c => c == 91 || c == 42 || c == 63
  | _ => true
noncomputable def Tk.pat : Tk → List Nat
  | .star => [42] | .q => [63] | .lit c => [c] | .br c => [91, c, 93]
noncomputable def brT (c : Nat) : List Nat := if c = 91 then [91, 92, 91, 93] else [91, c, 93]
noncomputable def addTk (res : List PV) : Tk → List PV
  | .star => match res.getLast? with | some .star => res | _ => res ++ [.star]
  | .q => res ++ [.str [46]]
  | .lit c => res ++ [.str (pesc c)]
  | .br c => res ++ [.str (brT c)]
/-- texts and stars -/
noncomputable def partOk : PV → Bool
  | .star => true
  | .str _ => true
  | _ => false

section
variable {F : PF1} {pat : List Nat} {i n : Int} {res : List PV} {x7 x8 x9 x10 x11 x12 : Option PV}
noncomputable def Iter (F : PF1) (σ : St) (P : St → Prop) : Prop := ∃ σ', exs FUEL F trBody σ = some (σ', .next) ∧ P σ'

theorem or2_t {F : PF1} {O : Owns} {G : Slots} {a b : PE} (h : pt F O G a = some true) : pt F O G (.or2 a b) = some true := bind_eq h rfl
theorem or2_f {F : PF1} {O : Owns} {G : Slots} {a b : PE} {r : Bool} (h : pt F O G a = some false) (h2 : pt F O G b = some r) : pt F O G (.or2 a b) = some r := bind_eq h h2
theorem and2_t {F : PF1} {O : Owns} {G : Slots} {a b : PE} {r : Bool} (h : pt F O G a = some true) (h2 : pt F O G b = some r) : pt F O G (.and2 a b) = some r := bind_eq h h2
theorem and2_f {F : PF1} {O : Owns} {G : Slots} {a b : PE} (h : pt F O G a = some false) : pt F O G (.and2 a b) = some false := bind_eq h rfl
theorem eq1 {O : Owns} {c d : Nat} (h : c = d) : pcmp O .eq (.str [c]) (.str [d]) = some true := by subst h; exact congrArg some (beq_self_eq_true _)
theorem eq0 {O : Owns} {c d : Nat} (h : c ≠ d) : pcmp O .eq (.str [c]) (.str [d]) = some false := congrArg some (beq_eq_false_iff_ne.mpr fun e => h (List.cons.inj e).1)
theorem ne1 {O : Owns} {c d : Nat} (h : c ≠ d) : pcmp O .ne (.str [c]) (.str [d]) = some true := congrArg (fun b => some (!b)) (beq_eq_false_iff_ne.mpr fun e : [c] = [d] => h (List.cons.inj e).1)
theorem lt1 {O : Owns} {i j : Int} (h : i < j) : pcmp O .lt (.int i) (.int j) = some true := congrArg some (decide_eq_true h)
theorem lt0 {O : Owns} {i j : Int} (h : ¬ i < j) : pcmp O .lt (.int i) (.int j) = some false := congrArg some (decide_eq_false h)
theorem wh1 {c : PE} {a : PSs} {σ σ' : St} (q1 : pt F σ.O σ.G c = some true) (q2 : exs FUEL F a σ = some (σ', .next)) (q3 : pt F σ'.O σ'.G c = some false) : ex FUEL F (.wh c a) σ = some (σ', .next) :=
  (whIt_step (test := fun σ => pt F σ.O σ.G c) (body := fun σ => exs FUEL F a σ) (n := 4094 + 1) q1 q2).trans (whIt_stop q3)
theorem ge0 {O : Owns} {i j : Int} (h : ¬ j ≤ i) : pcmp O .ge (.int i) (.int j) = some false := congrArg some (decide_eq_false h)
theorem tr_idx {i : Int} {pat : List Nat} {n : Int} {res : List PV} {x7 x8 x9 x10 x11 x12 : Option PV} {c : Nat} (hi : pidx pat i = some c) (hb : i.natAbs < 2 ^ 62) : ev F (trS pat i n res x7 x8 x9 x10 x11 x12).O (trS pat i n res x7 x8 x9 x10 x11 x12).G (.idx (.var 0) (.var 5)) = some (.str [c]) := idx_s rfl rfl hb hi
theorem tr_q (hi : pidx pat i = some 63) (hr : res.length ≤ LIM) (hb : i.natAbs < 2 ^ 62) :
    exs FUEL F trBody (trS pat i n res x7 x8 x9 x10 x11 x12) = some (trS pat (i + 1) n (res ++ [.str [46]]) (some (.str [63])) x8 x9 x10 x11 x12, .next) :=
  exs_next (asg_e (tr_idx hi hb)) (exs_next (asg_e (i := 5) (v := .int (i + 1)) rfl) (exs_one (ite_f rfl (exs_one (ite_t rfl (exs_one (appf_e (k := 0) (v := .str [46]) rfl rfl rfl hr)))))))
theorem tr_lit {c : Nat} (hF : F "escape" [.str [c]] = some (.str (pesc c))) (hi : pidx pat i = some c) (h1 : c ≠ 42) (h2 : c ≠ 63) (h3 : c ≠ 91) (hr : res.length ≤ LIM) (hb : i.natAbs < 2 ^ 62) :
    exs FUEL F trBody (trS pat i n res x7 x8 x9 x10 x11 x12) = some (trS pat (i + 1) n (res ++ [.str (pesc c)]) (some (.str [c])) x8 x9 x10 x11 x12, .next) :=
  exs_next (asg_e (tr_idx hi hb)) (exs_next (asg_e (i := 5) (v := .int (i + 1)) rfl) (exs_one (ite_f (cmp_t rfl rfl (eq0 h1)) (exs_one (ite_f (cmp_t rfl rfl (eq0 h2)) (exs_one (ite_f (cmp_t rfl rfl (eq0 h3)) (exs_one (appf_e (k := 0) (v := .str (pesc c)) rfl rfl (call_e (evs_c rfl rfl) rfl hF) hr)))))))))

theorem pidx_last {α : Type} (l : List α) : pidx l (-1) = l.getLast? := by
  unfold pidx
  rw [if_neg (by decide)]
  cases l with
  | nil => rfl
  | cons x r =>
    rw [if_pos (by simp; lia), List.getLast?_eq_getElem?]
    congr 1
    simp; lia

theorem pt_not {F : PF1} {O : Owns} {G : Slots} {a : PE} {b : Bool} (h : pt F O G a = some b) : pt F O G (.not a) = some (!b) := map_eq h
theorem tr_star (hi : pidx pat i = some 42) (hr : res.length ≤ LIM) (hb : i.natAbs < 2 ^ 62) (hp : ∀ v ∈ res, partOk v = true) :
    exs FUEL F trBody (trS pat i n res x7 x8 x9 x10 x11 x12) = some (trS pat (i + 1) n (addTk res .star) (some (.str [42])) x8 x9 x10 x11 x12, .next) := by
  refine exs_next (asg_e (tr_idx hi hb)) (exs_next (asg_e (i := 5) (v := .int (i + 1)) rfl) (exs_one (ite_t rfl ?_)))
  have hv : pt F (trS pat (i + 1) n res (some (.str [42])) x8 x9 x10 x11 x12).O (trS pat (i + 1) n res (some (.str [42])) x8 x9 x10 x11 x12).G (.var 3) = some (!res.isEmpty) := bind_eq rfl (bind_eq rfl (if_pos hr))
  have hcmp : ∀ {u : PV} {b : Bool}, res.getLast? = some u → pis u .star = some b → pt F (trS pat (i + 1) n res (some (.str [42])) x8 x9 x10 x11 x12).O (trS pat (i + 1) n res (some (.str [42])) x8 x9 x10 x11 x12).G (.cmp .isn (.idx (.var 3) (.ci (-1))) (.var 1)) = some (!b) :=
    fun hu hq => cmp_t (idx_o rfl rfl rfl (by decide) ((pidx_last res).trans hu)) rfl (map_eq hq)
  by_cases hs : res.getLast? = some .star
  · have e2 : addTk res .star = res := by simp only [addTk, hs]
    rw [e2]
    have hne : res.isEmpty = false := by cases res with
      | nil => cases hs
      | cons => rfl
    rw [hne] at hv
    exact exs_one (ite_f (or2_f (pt_not hv) (hcmp hs rfl)) rfl)
  · have e2 : addTk res .star = res ++ [.star] := by simp only [addTk]
    rw [e2]
    refine exs_one (ite_t ?_ (exs_one (appf_e (k := 0) (v := .star) rfl rfl rfl hr)))
    cases res with
    | nil => exact or2_t (pt_not hv)
    | cons v r =>
      obtain ⟨u, hu⟩ : ∃ u, (v :: r).getLast? = some u := ⟨_, List.getLast?_eq_some_getLast (by simp)⟩
      have hpu := hp u (List.mem_of_getLast? hu)
      refine or2_f (pt_not hv) (hcmp (b := false) hu ?_)
      cases u with
      | star => exact absurd hu hs
      | str l => rfl
      | _ => cases hpu

theorem pisIn_11 (a c : Nat) : pisIn [a] [c] = (a == c) := by
  simp [pisIn, List.isPrefixOf]
theorem pin_hat (O : Owns) {c : Nat} (h : c = 42 ∨ c = 63) : pin O (.str [c]) (.tup [.str [94], .str [91]]) = some false := by
  rcases h with rfl | rfl <;> rfl
theorem pin_hat1 (O : Owns) : pin O (.str [91]) (.tup [.str [94], .str [91]]) = some true := rfl
theorem nb0 {i : Int} (h : i.natAbs < 2 ^ 61) : i.natAbs < 2 ^ 62 := by lia
theorem nb1 {i : Int} (h : i.natAbs < 2 ^ 61) : (i + 1).natAbs < 2 ^ 62 := by lia
theorem nb2 {i : Int} (h : i.natAbs < 2 ^ 61) : (i + 1 + 1).natAbs < 2 ^ 62 := by lia
theorem sig4 {c : Nat} (hc : c = 91 ∨ c = 42 ∨ c = 63) : c ≠ 33 ∧ c ≠ 93 ∧ c ≠ 45 ∧ c ≠ 92 := by
  rcases hc with rfl | rfl | rfl <;> decide
theorem tr_br {c : Nat} (hF : F "%sub" [.str [c]] = some (.str [c])) (hc : c = 91 ∨ c = 42 ∨ c = 63) (h0 : pidx pat i = some 91) (h1 : pidx pat (i + 1) = some c) (h2 : pidx pat (i + 1 + 1) = some 93) (hsl : pslice pat (some (i + 1)) (some (i + 1 + 1)) = [c]) (hn : i + 2 < n)
    (hL : pat.length ≤ LIM) (hr : res.length ≤ LIM) (hb : i.natAbs < 2 ^ 61) :
    ∃ y7 y8 y9, exs FUEL F trBody (trS pat i n res x7 x8 x9 x10 x11 x12) = some (trS pat (i + 3) n (res ++ [.str (brT c)]) y7 y8 y9 x10 x11 x12, .next) := by
  have b0 := nb0 hb
  have b1 := nb1 hb
  have b2 := nb2 hb
  have n1 : i + 1 < n := by lia
  have n2 : i + 1 + 1 < n := by lia
  have n3 : ¬ n ≤ i + 1 + 1 := by lia
  have e3 : i + 1 + 1 + 1 = i + 3 := by lia
  obtain ⟨hc1, hc2, hc3, hc4⟩ := sig4 hc
  refine ⟨some (.str [91]), some (.int (i + 1 + 1)), some (.str (if c = 91 then [92, c] else [c])), ?_⟩
  refine exs_next (asg_e (tr_idx h0 b0)) (exs_next (asg_e (i := 5) (v := .int (i + 1)) rfl) (exs_one (ite_f rfl (exs_one (ite_f rfl (exs_one (ite_t rfl ?_)))))))
  refine exs_next (asg_e (i := 8) (v := .int (i + 1)) rfl) ?_
  refine exs_next (ite_f (and2_t (cmp_t rfl rfl (lt1 n1)) (cmp_t (idx_s rfl rfl b1 h1) rfl (eq0 hc1))) rfl) ?_
  refine exs_next (ite_f (and2_t (cmp_t rfl rfl (lt1 n1)) (cmp_t (idx_s rfl rfl b1 h1) rfl (eq0 hc2))) rfl) ?_
  refine exs_next (wh1 (σ' := trS pat (i + 1) n res (some (.str [91])) (some (.int (i + 1 + 1))) x9 x10 x11 x12) (and2_t (cmp_t rfl rfl (lt1 n1)) (cmp_t (idx_s rfl rfl b1 h1) rfl (ne1 hc2))) (exs_one (asg_e (i := 8) (v := .int (i + 1 + 1)) rfl)) (and2_t (cmp_t rfl rfl (lt1 n2)) (cmp_t (idx_s rfl rfl b2 h2) rfl rfl))) ?_
  refine exs_one (ite_f (cmp_t rfl rfl (ge0 n3)) ?_)
  refine exs_next (asg_e (i := 9) (v := .str [c]) (bind_eq rfl (bind_eq rfl (bind_eq rfl (bind_eq rfl (bind_eq rfl ((if_pos hL).trans (congrArg (fun l => some (PV.str l)) hsl)))))))) ?_
  have p45 : pisIn [45] [c] = false := (pisIn_11 45 c).trans (beq_eq_false_iff_ne.mpr (Ne.symm hc3))
  have p92 : pisIn [92] [c] = false := (pisIn_11 92 c).trans (beq_eq_false_iff_ne.mpr (Ne.symm hc4))
  refine exs_next (ite_t (cmp_t rfl rfl (congrArg (fun b => some (!b)) p45)) (exs_one (asg_e (i := 9) (v := .str [c]) (bind_eq rfl (bind_eq rfl (bind_eq rfl (bind_eq rfl (bind_eq rfl (bind_eq rfl (if_neg (Bool.eq_false_iff.mp p92))))))))))) ?_
  refine exs_next (asg_e (i := 9) (v := .str [c]) (bind_eq rfl hF)) ?_
  refine exs_next (asg_e (i := 5) (v := .int (i + 3)) (congrArg (fun k => some (PV.int k)) e3)) ?_
  refine exs_one (ite_f rfl (exs_one (ite_f (cmp_t rfl rfl (eq0 hc1)) ?_)))
  refine exs_next (σ' := trS pat (i + 3) n res (some (.str [91])) (some (.int (i + 1 + 1))) (some (.str (if c = 91 then [92, c] else [c]))) x10 x11 x12) ?_ ?_
  · refine ite_f (cmp_t rfl rfl (eq0 hc1)) (exs_one ?_)
    by_cases h9 : c = 91
    · subst h9
      exact ite_t rfl (exs_one (asg_e (i := 9) (v := .str [92, 91]) rfl))
    · have h10 : c = 42 ∨ c = 63 := hc.resolve_left h9
      rw [if_neg h9]
      exact ite_f (cmp_t rfl rfl (pin_hat [some res] h10)) rfl
  · refine exs_one ?_
    by_cases h9 : c = 91
    · subst h9
      exact appf_e (k := 0) (v := .str [91, 92, 91, 93]) rfl rfl rfl hr
    · rw [if_neg h9]
      have e : brT c = [91, c, 93] := if_neg h9
      rw [e]
      exact appf_e (k := 0) (v := .str [91, c, 93]) rfl rfl rfl hr
end

end Mine

namespace Mine
theorem pidx_mid (pre : List Nat) (c : Nat) (post : List Nat) : pidx (pre ++ c :: post) (pre.length : Int) = some c := by
  unfold pidx
  rw [if_pos (by lia)]
  simp
theorem pidx_off (pre : List Nat) (l : List Nat) (k : Nat) {i : Int} (h : i = pre.length + k) : pidx (pre ++ l) i = l[k]? := by
  subst h
  unfold pidx
  rw [if_pos (by lia), show ((pre.length : Int) + (k : Int)).toNat = pre.length + k by lia]
  rw [List.getElem?_append_right (by lia)]
  congr 1; lia
theorem pslice_mid (pre mid post : List Nat) {i j : Int} (hi : i = pre.length) (hj : j = pre.length + mid.length) : pslice (pre ++ mid ++ post) (some i) (some j) = mid := by
  subst hi; subst hj
  unfold pslice phi plo pclamp
  dsimp only
  have h1 : ¬ ((pre.length : Int) < 0) := by lia
  have h2 : ¬ ((pre.length : Int) + (mid.length : Int) < 0) := by lia
  rw [if_neg h1, if_neg h2]
  have e1 : min ((pre.length : Int) + (mid.length : Int)).toNat (pre ++ mid ++ post).length = (pre ++ mid).length := by simp <;> lia
  have e2 : min ((pre.length : Int)).toNat (pre ++ mid ++ post).length = pre.length := by simp <;> lia
  rw [e1, e2, List.take_left' rfl, List.drop_left' rfl]

theorem addTk_ok {res : List PV} {t : Tk} (h : ∀ v ∈ res, partOk v = true) : ∀ v ∈ addTk res t, partOk v = true := by
  have app : ∀ w, partOk w = true → ∀ v ∈ res ++ [w], partOk v = true := fun w hw v hv => by
    rcases List.mem_append.mp hv with hv | hv
    · exact h v hv
    · rw [List.mem_singleton.mp hv]; exact hw
  cases t with
  | star =>
    by_cases hs : res.getLast? = some .star
    · simp only [addTk, hs]; exact h
    · have : addTk res .star = res ++ [.star] := by
        simp only [addTk]
      rw [this]; exact app _ rfl
  | q => exact app _ rfl
  | lit c => exact app _ rfl
  | br c => exact app _ rfl
theorem addTk_len (res : List PV) (t : Tk) : (addTk res t).length ≤ res.length + 1 := by
  cases t <;> simp only [addTk] <;> (try split) <;> simp

/-- what the loop needs of the evaluator below -/
structure Low (F : PF1) : Prop where
  esc : ∀ c, F "escape" [.str [c]] = some (.str (pesc c))
  sub : ∀ l, subOk l = true → F "%sub" [.str l] = some (.str l)
theorem low_run {T : List (String × DefE)} (S : Std T) (n : Nat) : Low (runF T (n + 1)) := ⟨esc_run S n, fun _ => sub_run n⟩

noncomputable def patOf (ts : List Tk) : List Nat := (ts.map Tk.pat).flatten

theorem tr_loop {F : PF1} (L : Low F) : ∀ (ts : List Tk) (pre : List Nat) (res : List PV) (fuel : Nat) (x7 x8 x9 x10 x11 x12 : Option PV), (∀ t ∈ ts, t.ok = true) → ts.length < fuel → (pre ++ patOf ts).length ≤ LIM → res.length + ts.length ≤ LIM → (∀ v ∈ res, partOk v = true) →
    ∃ y7 y8 y9 y10 y11 y12, whIt (fun σ => pt F σ.O σ.G (.cmp .lt (.var 5) (.var 6))) (fun σ => exs FUEL F trBody σ) fuel (trS (pre ++ patOf ts) pre.length (pre ++ patOf ts).length res x7 x8 x9 x10 x11 x12) =
      some (trS (pre ++ patOf ts) (pre ++ patOf ts).length (pre ++ patOf ts).length (ts.foldl addTk res) y7 y8 y9 y10 y11 y12, .next)
  | [], pre, res, 0, _, _, _, _, _, _, _, h, _, _, _ => by simp at h
  | [], pre, res, fuel + 1, x7, x8, x9, x10, x11, x12, _, _, _, _, _ => by
    refine ⟨x7, x8, x9, x10, x11, x12, ?_⟩
    have e : patOf [] = [] := rfl
    rw [e, List.append_nil, List.foldl_nil]
    exact whIt_stop (cmp_t rfl rfl (lt0 (Int.lt_irrefl _)))
  | t :: ts, pre, res, 0, _, _, _, _, _, _, _, h, _, _, _ => by simp at h
  | t :: ts, pre, res, fuel + 1, x7, x8, x9, x10, x11, x12, hok, hf, hl, hr, hp => by
    have hL : LIM = 1048576 := rfl
    have hpat : patOf (t :: ts) = t.pat ++ patOf ts := rfl
    have hr' : res.length ≤ LIM := by lia
    have hb : ((pre.length : Nat) : Int).natAbs < 2 ^ 61 := by rw [Int.natAbs_natCast]; simp at hl; lia
    have hb2 : ((pre.length : Nat) : Int).natAbs < 2 ^ 62 := by lia
    have ho := hok t List.mem_cons_self
    have hpos : 0 < t.pat.length := by cases t <;> simp [Tk.pat]
    have hlt : (pre.length : Int) < ((pre ++ patOf (t :: ts)).length : Int) := by rw [hpat]; simp; lia
    have hstep : ∃ y7 y8 y9 y10 y11 y12, exs FUEL F trBody (trS (pre ++ patOf (t :: ts)) pre.length (pre ++ patOf (t :: ts)).length res x7 x8 x9 x10 x11 x12) =
        some (trS (pre ++ patOf (t :: ts)) (pre ++ t.pat).length (pre ++ patOf (t :: ts)).length (addTk res t) y7 y8 y9 y10 y11 y12, .next) := by
      rw [hpat]
      have hcast : ∀ k : Nat, t.pat.length = k → (((pre ++ t.pat).length : Nat) : Int) = (pre.length : Int) + k := fun k h => by rw [List.length_append, h]; rfl
      cases t with
      | star =>
        refine ⟨some (.str [42]), x8, x9, x10, x11, x12, ?_⟩
        refine (tr_star (pidx_mid pre 42 _) hr' hb2 hp).trans ?_
        rw [hcast 1 rfl]; rfl
      | q =>
        refine ⟨some (.str [63]), x8, x9, x10, x11, x12, ?_⟩
        refine (tr_q (pidx_mid pre 63 _) hr' hb2).trans ?_
        rw [hcast 1 rfl]; rfl
      | lit c =>
        simp only [Tk.ok, Bool.not_eq_true', Bool.or_eq_false_iff, beq_eq_false_iff_ne] at ho
        refine ⟨some (.str [c]), x8, x9, x10, x11, x12, ?_⟩
        refine (tr_lit (L.esc c) (pidx_mid pre c _) ho.1.1 ho.1.2 ho.2 hr' hb2).trans ?_
        rw [hcast 1 rfl]; rfl
      | br c =>
        simp only [Tk.ok, Bool.or_eq_true, beq_iff_eq] at ho
        have hs : subOk [c] = true := by
          rcases ho with (rfl | rfl) | rfl <;> rfl
        obtain ⟨y7, y8, y9, e⟩ := tr_br (F := F) (pat := pre ++ (Tk.br c).pat ++ patOf ts) (i := pre.length) (n := (pre ++ ((Tk.br c).pat ++ patOf ts)).length) (res := res) (x7 := x7) (x8 := x8) (x9 := x9) (x10 := x10) (x11 := x11) (x12 := x12) (L.sub _ hs) (by lia)
          (by rw [List.append_assoc]; exact pidx_off pre _ 0 (by simp)) (by rw [List.append_assoc]; exact pidx_off pre _ 1 (by simp)) (by rw [List.append_assoc]; exact pidx_off pre _ 2 (by simp <;> lia))
          (by rw [show pre ++ (Tk.br c).pat ++ patOf ts = (pre ++ [91]) ++ [c] ++ (93 :: patOf ts) by simp [Tk.pat]]; exact pslice_mid _ _ _ (by simp) (by simp)) (by simp [Tk.pat]; lia) (by simp [Tk.pat, hpat] at hl ⊢; lia) hr' hb
        rw [List.append_assoc] at e
        refine ⟨y7, y8, y9, x10, x11, x12, ?_⟩
        rw [e, hcast 3 rfl]; rfl
    obtain ⟨y7, y8, y9, y10, y11, y12, e⟩ := hstep
    rw [whIt_step (cmp_t rfl rfl (lt1 hlt)) e]
    have := tr_loop L ts (pre ++ t.pat) (addTk res t) fuel y7 y8 y9 y10 y11 y12 (fun u hu => hok u (List.mem_cons_of_mem _ hu)) (by simp at hf; lia) (by rw [List.append_assoc, ← hpat]; exact hl) (by have := addTk_len res t; simp at hr; lia) (addTk_ok hp)
    rw [List.append_assoc, ← hpat] at this
    exact this
end Mine

namespace Mine

theorem foldl_ok : ∀ (ts : List Tk) (res : List PV), (∀ v ∈ res, partOk v = true) → ∀ v ∈ ts.foldl addTk res, partOk v = true
  | [], _, h => h
  | t :: ts, res, h => foldl_ok ts (addTk res t) (addTk_ok h)
theorem noOwn_part : ∀ {l : List PV}, (∀ v ∈ l, partOk v = true) → noOwnL l = true
  | [], _ => rfl
  | v :: r, h => by
    have h1 := h v List.mem_cons_self
    refine Bool.and_eq_true_iff.mpr ⟨?_, noOwn_part fun u hu => h u (List.mem_cons_of_mem _ hu)⟩
    cases v <;> first | rfl | cases h1

theorem len_s {F : PF1} {O : Owns} {G : Slots} {e : PE} {l : List Nat} (h : ev F O G e = some (.str l)) (hl : l.length ≤ LIM) : ev F O G (.bi .len (.cons e .nil)) = some (.int l.length) :=
  bind_eq (evs_c h rfl) (if_pos (Nat.lt_of_le_of_lt hl (by decide)))
theorem len_l {F : PF1} {O : Owns} {G : Slots} {e : PE} {l : List PV} (h : ev F O G e = some (.list l)) (hl : l.length ≤ LIM) : ev F O G (.bi .len (.cons e .nil)) = some (.int l.length) :=
  bind_eq (evs_c h rfl) (if_pos (Nat.lt_of_le_of_lt hl (by decide)))
theorem frz_ok {O : Owns} {v : PV} (h : asOwn v = none) (h2 : noOwn v = true) : frzN O v = some v := by
  have e : frzV O v = v := by unfold frzV; rw [h]; rfl
  unfold frzN
  rw [e, if_pos h2]
theorem frz_own {O : Owns} {k : Nat} {l : List PV} (h : O[k]? = some (some l)) (h2 : noOwnL l = true) : frzN O (.own k) = some (.list l) := by
  have e : frzV O (.own k) = .list l := by
    have q : ((asOwn (.own k)).bind fun k => (O[k]?).bind id) = some l := bind_eq rfl (bind_eq h rfl)
    unfold frzV; rw [q]
  unfold frzN
  rw [e, if_pos (show noOwn (.list l) = true from h2)]
theorem pfun_ret {n : Nat} {F : PF1} {k : Nat} {b : PSs} {as : List PV} {σ : St} {v : PV} (h : exs n F b ⟨as.map some ++ List.replicate (k - as.length) none, []⟩ = some (σ, .ret v)) (h2 : noOwn v = true) : pfun n F k b as = some v := bind_eq h (if_pos h2)
theorem asgt2 {n : Nat} {F : PF1} {i j : Nat} {e f : PE} {σ : St} {v w : PV} (h : ev F σ.O σ.G e = some v) (h2 : ev F σ.O σ.G f = some w) : ex n F (.asgt [i, j] (.cons e (.cons f .nil))) σ = some ((σ.put i v).put j w, .next) := bind_eq (evs_c h (evs_c h2 rfl)) rfl
theorem wh_e {n : Nat} {F : PF1} {c : PE} {a : PSs} {σ : St} {R : Option (St × PF)} (h : whIt (fun σ => pt F σ.O σ.G c) (fun σ => exs n F a σ) n σ = R) : ex n F (.wh c a) σ = R := h
theorem asrt_e {n : Nat} {F : PF1} {c : PE} {σ : St} (h : pt F σ.O σ.G c = some true) : ex n F (.asrt c) σ = some (σ, .next) := bind_eq h rfl
theorem ret_e {n : Nat} {F : PF1} {e : PE} {σ : St} {v : PV} (h : ev F [] (σ.G.map fun v => v.bind (frzN σ.O)) e = some v) : ex n F (.ret e) σ = some (σ, .ret v) := map_eq h
theorem eqII {O : Owns} {i : Int} : pcmp O .eq (.int i) (.int i) = some true := congrArg some (beq_self_eq_true _)

theorem tr_run {T : List (String × DefE)} (S : Std T) (n : Nat) {ts : List Tk} (hok : ∀ t ∈ ts, t.ok = true) (h1 : ts.length ≤ 4000) (h2 : (patOf ts).length ≤ 100000) :
    runF T (n + 2) "_translate" [.str (patOf ts), .star, .str [46]] = some (.list (ts.foldl addTk [])) := by
  have hL : LIM = 1048576 := rfl
  rw [run_eq S.tr (by decide) (by decide +kernel) (by decide +kernel) rfl]
  obtain ⟨y7, y8, y9, y10, y11, y12, e⟩ := tr_loop (low_run S n) ts [] [] FUEL none none none none none none hok (Nat.lt_of_le_of_lt h1 (by decide)) (by show (patOf ts).length ≤ LIM; lia) (by show 0 + ts.length ≤ LIM; lia) nofun
  have hno : noOwnL (ts.foldl addTk []) = true := noOwn_part (foldl_ok ts [] nofun)
  refine pfun_ret (exs_next rfl (exs_next rfl (exs_next (asgt2 rfl (len_s rfl (by lia))) (exs_next (wh_e e) (exs_next (asrt_e (cmp_t rfl rfl eqII)) (exs_stop (ret_e (ev_var ?_)) nofun)))))) hno
  show some ((some (PV.own 0)).bind (frzN [some (ts.foldl addTk [])])) = some (some (.list (ts.foldl addTk [])))
  exact congrArg some (frz_own rfl hno)
end Mine

namespace Mine

noncomputable def segPV (s : List (List Nat)) : List PV := .star :: s.map PV.str
noncomputable def segsPV (ss : List (List (List Nat))) : List PV := (ss.map segPV).flatten
noncomputable def partsPV (t0 : List (List Nat)) (ss : List (List (List Nat))) : List PV := t0.map PV.str ++ segsPV ss
noncomputable def atomT (s : List (List Nat)) : List Nat := [40, 63, 62, 46, 42, 63] ++ s.flatten ++ [41]
/-- what a run of segments becomes -/
noncomputable def segOut : List (List (List Nat)) → List (List Nat)
  | [] => []
  | [s] => if s = [] then [[46, 42]] else [[46, 42], s.flatten]
  | s :: r => atomT s :: segOut r
noncomputable def segOk : List (List (List Nat)) → Prop
  | [] => True
  | [_] => True
  | s :: r => s ≠ [] ∧ segOk r

theorem pjoin_nil : ∀ ls : List (List Nat), pjoin [] ls = ls.flatten
  | [] => rfl
  | [x] => (List.append_nil x).symm
  | x :: y :: r => (congrArg ((x ++ []) ++ ·) (pjoin_nil (y :: r))).trans (by rw [List.append_nil]; rfl)
theorem sum_flat (ls : List (List Nat)) : (ls.map List.length).sum = ls.flatten.length := by
  rw [List.length_flatten]
theorem pidx_off0 {α : Type} {l : List α} {k : Nat} : pidx l (k : Int) = l[k]? := by
  unfold pidx
  rw [if_pos (by lia), Int.toNat_natCast]

noncomputable def jS (inp : List PV) (i n : Int) (x6 : Option PV) (res : List PV) (os : Owns) : St :=
  ⟨[some (.list inp), some .star, some (.own 0), some (.app 0), some (.int i), some (.int n), x6, none], some res :: os⟩
noncomputable def jTest : PE := .and2 (.cmp .lt (.var 4) (.var 5)) (.cmp .isn (.idx (.var 0) (.var 4)) (.var 1))
noncomputable def jBody1 : PSs := .cons (.appf 3 (.idx (.var 0) (.var 4))) (.cons (.aug 4 .add (.ci 1)) .nil)
noncomputable def jBody2 : PSs := .cons (.app 6 (.idx (.var 0) (.var 4))) (.cons (.aug 4 .add (.ci 1)) .nil)

theorem app_e {n : Nat} {F : PF1} {i k : Nat} {e : PE} {σ : St} {v : PV} {vs : List PV} (h : σ.G[i]? = some (some (.own k))) (h1 : σ.O[k]? = some (some vs)) (h2 : ev F σ.O σ.G e = some v) (h3 : vs.length ≤ LIM) : ex n F (.app i e) σ = some (σ.putO k (vs ++ [v]), .next) :=
  bind_eq (bind_eq (bind_eq h rfl) (map_eq (bind_eq h1 rfl))) (bind_eq h2 (if_pos h3))
theorem asgo_e {n : Nat} {F : PF1} {i : Nat} {σ : St} : ex n F (.asgo i .nil) σ = some (σ.new i [], .next) := rfl

section
variable {F : PF1} {inp : List PV} {i n : Int} {x6 : Option PV} {res : List PV} {os : Owns}
theorem j_idx {v : PV} (hb : i.natAbs < 2 ^ 62) (h2 : pidx inp i = some v) : ev F (jS inp i n x6 res os).O (jS inp i n x6 res os).G (.idx (.var 0) (.var 4)) = some v := idx_l rfl rfl hb h2
theorem jt_str {x : List Nat} (hi : i < n) (hb : i.natAbs < 2 ^ 62) (h2 : pidx inp i = some (.str x)) : pt F (jS inp i n x6 res os).O (jS inp i n x6 res os).G jTest = some true := and2_t (cmp_t rfl rfl (lt1 hi)) (cmp_t (j_idx hb h2) rfl rfl)
theorem jt_no (hb : i.natAbs < 2 ^ 62) (h : i = n ∨ i < n ∧ pidx inp i = some .star) : pt F (jS inp i n x6 res os).O (jS inp i n x6 res os).G jTest = some false := by
  rcases h with rfl | ⟨hi, h2⟩
  · exact and2_f (cmp_t rfl rfl (lt0 (Int.lt_irrefl _)))
  · exact and2_t (cmp_t rfl rfl (lt1 hi)) (cmp_t (j_idx hb h2) rfl rfl)
theorem jb1 {v : PV} (hb : i.natAbs < 2 ^ 62) (h2 : pidx inp i = some v) (hr : res.length ≤ LIM) : exs FUEL F jBody1 (jS inp i n x6 res os) = some (jS inp (i + 1) n x6 (res ++ [v]) os, .next) :=
  exs_next (appf_e (k := 0) rfl rfl (j_idx hb h2) hr) (exs_one rfl)
theorem own_last {res acc : List PV} : ((some res :: (os ++ [some acc])) : Owns)[os.length + 1]? = some (some acc) := by
  rw [List.getElem?_cons_succ, List.getElem?_append_right (Nat.le_refl _), Nat.sub_self]; rfl
theorem set_last {res acc acc' : List PV} : ((some res :: (os ++ [some acc])) : Owns).set (os.length + 1) (some acc') = some res :: (os ++ [some acc']) := by
  rw [List.set_cons_succ, List.set_append_right _ _ (Nat.le_refl _), Nat.sub_self]; rfl
theorem jb2 {v : PV} {acc : List PV} (hb : i.natAbs < 2 ^ 62) (h2 : pidx inp i = some v) (hr : acc.length ≤ LIM) :
    exs FUEL F jBody2 (jS inp i n (some (.own (os.length + 1))) res (os ++ [some acc])) = some (jS inp (i + 1) n (some (.own (os.length + 1))) res (os ++ [some (acc ++ [v])]), .next) := by
  refine exs_next (σ' := jS inp i n (some (.own (os.length + 1))) res (os ++ [some (acc ++ [v])])) ?_ (exs_one rfl)
  refine (app_e (k := os.length + 1) rfl own_last (j_idx hb h2) hr).trans ?_
  exact congrArg (fun o => some (St.mk _ o, PF.next)) set_last
end

/-- texts gathered up to a star or the end -/
theorem col_gen {test : St → Option Bool} {body : St → Option (St × PF)} {inp : List PV} {N : Nat} (S : Nat → List PV → St) (tT : ∀ i acc x, i < N → pidx inp (i : Int) = some (.str x) → test (S i acc) = some true)
    (tF : ∀ i acc, (i = N ∨ i < N ∧ pidx inp (i : Int) = some .star) → test (S i acc) = some false) (b : ∀ i acc v, i < N → pidx inp (i : Int) = some v → acc.length ≤ LIM → body (S i acc) = some (S (i + 1) (acc ++ [v]), .next)) :
    ∀ (l : List (List Nat)) (i : Nat) (acc : List PV) (fuel : Nat), l.length < fuel → i + l.length ≤ N → (∀ k x, l[k]? = some x → pidx inp ((i + k : Nat) : Int) = some (.str x)) → (i + l.length = N ∨ i + l.length < N ∧ pidx inp ((i + l.length : Nat) : Int) = some .star) → acc.length + l.length ≤ LIM →
    whIt test body fuel (S i acc) = some (S (i + l.length) (acc ++ l.map PV.str), .next)
  | _, _, _, 0, h, _, _, _, _ => absurd h (Nat.not_lt_zero _)
  | [], i, acc, fuel + 1, _, _, _, hs, _ => by
    rw [List.map_nil, List.append_nil]
    exact whIt_stop (tF i acc hs)
  | a :: l, i, acc, fuel + 1, h, hi, hx, hs, hr => by
    have hl : i < N := Nat.lt_of_lt_of_le (Nat.lt_add_of_pos_right (Nat.succ_pos _)) hi
    have e : i + (a :: l).length = (i + 1) + l.length := by rw [List.length_cons]; lia
    rw [e] at hi hs ⊢
    have h0 := hx 0 a rfl
    refine (whIt_step (tT i acc a hl h0) (b i acc _ hl h0 (by lia))).trans ?_
    refine (col_gen S tT tF b l (i + 1) (acc ++ [.str a]) fuel (Nat.lt_of_succ_lt_succ h) hi (fun k x q => ?_) hs ?_).trans ?_
    · have := hx (k + 1) x q
      rwa [show i + (k + 1) = i + 1 + k by lia] at this
    · rw [List.length_append]; rw [List.length_cons] at hr; show acc.length + 1 + l.length ≤ LIM; lia
    · rw [List.append_assoc]; rfl

theorem nat_b {i N : Nat} (h : i ≤ N) (hN : N ≤ 4000) : ((i : Nat) : Int).natAbs < 2 ^ 62 := by rw [Int.natAbs_natCast]; lia
theorem j_col1 {F : PF1} {inp : List PV} {N : Nat} (hN : N ≤ 4000) {x6 : Option PV} {os : Owns} (l : List (List Nat)) (i : Nat) (res : List PV) (hf : l.length < FUEL) (hi : i + l.length ≤ N) (hx : ∀ k x, l[k]? = some x → pidx inp ((i + k : Nat) : Int) = some (.str x))
    (hs : i + l.length = N ∨ i + l.length < N ∧ pidx inp ((i + l.length : Nat) : Int) = some .star) (hr : res.length + l.length ≤ LIM) :
    whIt (fun σ => pt F σ.O σ.G jTest) (fun σ => exs FUEL F jBody1 σ) FUEL (jS inp i N x6 res os) = some (jS inp (i + l.length : Nat) N x6 (res ++ l.map PV.str) os, .next) :=
  col_gen (fun i acc => jS inp i N x6 acc os) (fun i _ _ hi h2 => jt_str (Int.ofNat_lt.mpr hi) (nat_b (Nat.le_of_lt hi) hN) h2) (fun i _ h => jt_no (nat_b (h.elim Nat.le_of_eq fun q => Nat.le_of_lt q.1) hN) (h.imp (congrArg _) fun q => ⟨Int.ofNat_lt.mpr q.1, q.2⟩))
    (fun i _ _ hi h2 hr => jb1 (nat_b (Nat.le_of_lt hi) hN) h2 hr) l i res FUEL hf hi hx hs hr
theorem j_col2 {F : PF1} {inp : List PV} {N : Nat} (hN : N ≤ 4000) {res : List PV} {os : Owns} (l : List (List Nat)) (i : Nat) (acc : List PV) (hf : l.length < FUEL) (hi : i + l.length ≤ N) (hx : ∀ k x, l[k]? = some x → pidx inp ((i + k : Nat) : Int) = some (.str x))
    (hs : i + l.length = N ∨ i + l.length < N ∧ pidx inp ((i + l.length : Nat) : Int) = some .star) (hr : acc.length + l.length ≤ LIM) :
    whIt (fun σ => pt F σ.O σ.G jTest) (fun σ => exs FUEL F jBody2 σ) FUEL (jS inp i N (some (.own (os.length + 1))) res (os ++ [some acc])) = some (jS inp (i + l.length : Nat) N (some (.own (os.length + 1))) res (os ++ [some (acc ++ l.map PV.str)]), .next) :=
  col_gen (fun i acc => jS inp i N (some (.own (os.length + 1))) res (os ++ [some acc])) (fun i _ _ hi h2 => jt_str (Int.ofNat_lt.mpr hi) (nat_b (Nat.le_of_lt hi) hN) h2) (fun i _ h => jt_no (nat_b (h.elim Nat.le_of_eq fun q => Nat.le_of_lt q.1) hN) (h.imp (congrArg _) fun q => ⟨Int.ofNat_lt.mpr q.1, q.2⟩))
    (fun i _ _ hi h2 hr => jb2 (nat_b (Nat.le_of_lt hi) hN) h2 hr) l i acc FUEL hf hi hx hs hr
end Mine

namespace Mine

noncomputable def whB : Nat → PSs → PSs
  | _, .nil => .nil
  | n, .cons p r => (match p with
    | .wh _ b => (match n with
      | 0 => b
      | n + 1 => whB n r)
    | _ => whB n r)
noncomputable def jMain : PSs := whB 1 p_join
theorem eqI2 {O : Owns} {i j : Int} (h : i = j) : pcmp O .eq (.int i) (.int j) = some true := by subst h; exact eqII
theorem eqI0 {O : Owns} {i j : Int} (h : i ≠ j) : pcmp O .eq (.int i) (.int j) = some false := congrArg some (beq_eq_false_iff_ne.mpr h)

section
variable {F : PF1} {inp : List PV} {i n : Int} {x6 : Option PV} {res : List PV} {os : Owns}
theorem jm_last (hb : i.natAbs < 2 ^ 62) (hn : i + 1 = n) (h2 : pidx inp i = some .star) (hr : res.length ≤ LIM) : exs FUEL F jMain (jS inp i n x6 res os) = some (jS inp (i + 1) n x6 (res ++ [.str [46, 42]]) os, .brk) := by
  refine exs_next (asrt_e (cmp_t (j_idx hb h2) rfl rfl)) ?_
  refine exs_next (σ' := jS inp (i + 1) n x6 res os) rfl ?_
  refine exs_stop (ite_t (cmp_t rfl rfl (eqI2 hn)) ?_) nofun
  exact exs_next (appf_e (k := 0) rfl rfl rfl hr) (exs_stop rfl nofun)

/-- a segment that is not empty -/
theorem jm_seg {N i : Nat} {s : List (List Nat)} (hN : N ≤ 4000) (h0 : pidx inp ((i : Nat) : Int) = some .star) (hne : s ≠ []) (hx : ∀ k x, s[k]? = some x → pidx inp ((i + 1 + k : Nat) : Int) = some (.str x))
    (hs : i + 1 + s.length = N ∨ i + 1 + s.length < N ∧ pidx inp ((i + 1 + s.length : Nat) : Int) = some .star) (hres : res.length + 2 ≤ LIM) (hf : s.flatten.length ≤ 100000) :
    ∃ y6 os', exs FUEL F jMain (jS inp i N x6 res os) = some (jS inp (i + 1 + s.length : Nat) N y6 (res ++ (if i + 1 + s.length = N then [.str [46, 42], .str s.flatten] else [.str (atomT s)])) os', .next) := by
  have hL : LIM = 1048576 := rfl
  have hle : i + 1 + s.length ≤ N := hs.elim Nat.le_of_eq fun q => Nat.le_of_lt q.1
  have hpos : 0 < s.length := List.length_pos_iff.mpr hne
  have hb0 : ((i : Nat) : Int).natAbs < 2 ^ 62 := nat_b (by lia) hN
  have hb1 : ((i + 1 : Nat) : Int).natAbs < 2 ^ 62 := nat_b (by lia) hN
  obtain ⟨a, l, rfl⟩ := List.exists_cons_of_ne_nil hne
  have h1 : pidx inp ((i + 1 : Nat) : Int) = some (.str a) := hx 0 a rfl
  have hne1 : ((i + 1 : Nat) : Int) ≠ (N : Int) := by lia
  have hcol := j_col2 (F := F) hN (res := res) (os := os) (a :: l) (i + 1) [] (by show (a :: l).length < 4096; rw [show (a :: l).length = l.length + 1 from rfl] at hle ⊢; lia) hle hx hs (by show 0 + (a :: l).length ≤ LIM; lia)
  have hs2 : ((a :: l).map List.length).sum + (a :: l).length * ([] : List Nat).length ≤ LIM := by rw [sum_flat]; show _ + _ * 0 ≤ _; lia
  have h4 : ([[40, 63, 62, 46, 42, 63], (a :: l).flatten, [41]].map List.length).sum ≤ LIM := by show 6 + ((a :: l).flatten.length + (1 + 0)) ≤ LIM; lia
  have hr1 : res.length ≤ LIM := by lia
  refine ⟨some (.str (a :: l).flatten), os ++ [some ((a :: l).map PV.str)], ?_⟩
  have hjoin : ∀ y6, ev F (jS inp ((i + 1 + (a :: l).length : Nat) : Int) N y6 res (os ++ [some ((a :: l).map PV.str)])).O (jS inp ((i + 1 + (a :: l).length : Nat) : Int) N (some (.own (os.length + 1))) res (os ++ [some ((a :: l).map PV.str)])).G (.me .join (.cs []) (.cons (.var 6) .nil)) = some (.str (a :: l).flatten) := fun y6 =>
    (me_join (v := .own (os.length + 1)) (ls := a :: l) rfl rfl (bind_eq own_last rfl) hs2).trans (congrArg (fun l => some (PV.str l)) (pjoin_nil _))
  refine exs_next (asrt_e (cmp_t (j_idx hb0 h0) rfl rfl)) ?_
  refine exs_next (σ' := jS inp ((i + 1 : Nat) : Int) N x6 res os) rfl ?_
  refine exs_next (ite_f (cmp_t rfl rfl (eqI0 hne1)) rfl) ?_
  refine exs_next (asrt_e (cmp_t (j_idx hb1 h1) rfl rfl)) ?_
  refine exs_next (σ' := jS inp ((i + 1 : Nat) : Int) N (some (.own (os.length + 1))) res (os ++ [some []])) rfl ?_
  refine exs_next (wh_e hcol) ?_
  refine exs_next (asg_e (i := 6) (hjoin _)) ?_
  rcases hs with he | ⟨he, _⟩
  · rw [if_pos he]
    refine exs_one (ite_t (cmp_t rfl rfl (eqI2 (congrArg _ he))) ?_)
    refine exs_next (appf_e (k := 0) (v := .str [46, 42]) rfl rfl rfl hr1) (exs_one ?_)
    refine (appf_e (k := 0) (vs := res ++ [.str [46, 42]]) (v := .str (a :: l).flatten) rfl rfl rfl (by rw [List.length_append]; show res.length + 1 ≤ LIM; lia)).trans ?_
    rw [List.append_assoc]; rfl
  · rw [if_neg (by lia)]
    exact exs_one (ite_f (cmp_t rfl rfl (eqI0 (by lia))) (exs_one (appf_e (k := 0) rfl rfl (fstr_e (ls := [[40, 63, 62, 46, 42, 63], (a :: l).flatten, [41]]) rfl h4 |>.trans (congrArg (fun l => some (PV.str l)) (by show _ ++ (_ ++ ([41] ++ [])) = _; exact (List.append_assoc _ _ _).symm))) hr1)))
end

theorem j_main {F : PF1} {inp : List PV} {N : Nat} (hN : N ≤ 4000) : ∀ (ss : List (List (List Nat))) (i : Nat) (res : List PV) (os : Owns) (x6 : Option PV) (fuel : Nat), ss.length < fuel → segOk ss → i + (segsPV ss).length = N → (∀ k v, (segsPV ss)[k]? = some v → pidx inp ((i + k : Nat) : Int) = some v) → res.length + 2 * ss.length ≤ LIM → (∀ s ∈ ss, s.flatten.length ≤ 100000) →
    ∃ y6 os', whIt (fun σ => pt F σ.O σ.G (.cmp .lt (.var 4) (.var 5))) (fun σ => exs FUEL F jMain σ) fuel (jS inp i N x6 res os) = some (jS inp N N y6 (res ++ (segOut ss).map PV.str) os', .next)
  | _, _, _, _, _, 0, h, _, _, _, _, _ => absurd h (Nat.not_lt_zero _)
  | [], i, res, os, x6, fuel + 1, _, _, he, _, _, _ => by
    have he : i = N := he
    subst he
    exact ⟨x6, os, (whIt_stop (cmp_t rfl rfl (lt0 (Int.lt_irrefl _)))).trans (by rw [show (segOut []).map PV.str = [] from rfl, List.append_nil])⟩
  | s :: r, i, res, os, x6, fuel + 1, h, hok, he, hx, hr, hfl => by
    have hseg : segsPV (s :: r) = segPV s ++ segsPV r := rfl
    have hsl : (segPV s).length = s.length + 1 := by show (s.map PV.str).length + 1 = _; rw [List.length_map]
    rw [hseg, List.length_append, hsl] at he
    have hlen : (s :: r).length = r.length + 1 := rfl
    rw [hlen] at h hr
    have hi : ((i : Nat) : Int) < (N : Int) := by lia
    have h0 : pidx inp ((i : Nat) : Int) = some .star := hx 0 _ rfl
    by_cases hs : s = []
    · subst hs
      have hr0 : r = [] := by
        cases r with
        | nil => rfl
        | cons b r => exact absurd rfl hok.1
      subst hr0
      have he : i + 1 = N := he
      subst he
      exact ⟨x6, os, whIt_brk (cmp_t rfl rfl (lt1 hi)) (jm_last (nat_b (Nat.le_succ i) hN) rfl h0 (by lia))⟩
    · have hxs : ∀ k x, s[k]? = some x → pidx inp ((i + 1 + k : Nat) : Int) = some (.str x) := fun k x q => by
        have hk : k < s.length := (List.getElem?_eq_some_iff.mp q).1
        have := hx (k + 1) (.str x) (by
          rw [hseg, List.getElem?_append_left (by lia)]
          show (s.map PV.str)[k]? = _
          rw [List.getElem?_map, q]; rfl)
        rwa [show i + (k + 1) = i + 1 + k by lia] at this
      have hrest : ∀ k v, (segsPV r)[k]? = some v → pidx inp ((i + 1 + s.length + k : Nat) : Int) = some v := fun k v q => by
        have := hx (s.length + 1 + k) v (by
          rw [hseg, List.getElem?_append_right (by lia), hsl, show s.length + 1 + k - (s.length + 1) = k by lia]; exact q)
        rwa [show i + (s.length + 1 + k) = i + 1 + s.length + k by lia] at this
      have he2 : i + 1 + s.length + (segsPV r).length = N := by lia
      have hs2 : i + 1 + s.length = N ∨ i + 1 + s.length < N ∧ pidx inp ((i + 1 + s.length : Nat) : Int) = some .star := by
        cases r with
        | nil => exact .inl he2
        | cons b r =>
          have h5 : (segsPV (b :: r)).length = (b.length + 1) + (segsPV r).length := by
            show (segPV b ++ segsPV r).length = _
            rw [List.length_append]; show (b.map PV.str).length + 1 + _ = _; rw [List.length_map]
          exact .inr ⟨by lia, hrest 0 _ rfl⟩
      obtain ⟨y6, os', e⟩ := jm_seg (F := F) (x6 := x6) (res := res) (os := os) hN h0 hs hxs hs2 (by lia) (hfl _ List.mem_cons_self)
      rw [whIt_step (cmp_t rfl rfl (lt1 hi)) e]
      have hok' : segOk r := by
        cases r with
        | nil => trivial
        | cons b r => exact hok.2
      cases r with
      | nil =>
        have he3 : i + 1 + s.length = N := he2
        rw [if_pos he3]
        obtain ⟨z6, os2, e2⟩ := j_main hN [] (i + 1 + s.length) (res ++ [.str [46, 42], .str s.flatten]) os' y6 fuel (by show 0 < fuel; lia) trivial he2 hrest (by rw [List.length_append]; show res.length + 2 + 2 * 0 ≤ LIM; lia) nofun
        refine ⟨z6, os2, e2.trans ?_⟩
        rw [show segOut [s] = [[46, 42], s.flatten] from if_neg hs, show (segOut []).map PV.str = [] from rfl, List.append_nil]; rfl
      | cons b r =>
        have hlt : i + 1 + s.length ≠ N := by
          have h5 : (segsPV (b :: r)).length = (b.length + 1) + (segsPV r).length := by
            show (segPV b ++ segsPV r).length = _
            rw [List.length_append]; show (b.map PV.str).length + 1 + _ = _; rw [List.length_map]
          lia
        rw [if_neg hlt]
        obtain ⟨z6, os2, e2⟩ := j_main hN (b :: r) (i + 1 + s.length) (res ++ [.str (atomT s)]) os' y6 fuel (by lia) hok' he2 hrest (by rw [List.length_append]; show res.length + 1 + 2 * (b :: r).length ≤ LIM; lia) (fun u hu => hfl u (List.mem_cons_of_mem _ hu))
        refine ⟨z6, os2, e2.trans ?_⟩
        rw [List.append_assoc]; rfl
end Mine

namespace Mine

noncomputable def joinT (t0 : List (List Nat)) (ss : List (List (List Nat))) : List Nat := [40, 63, 115, 58] ++ (t0.flatten ++ (segOut ss).flatten) ++ [41, 92, 90]
theorem segs_len (ss : List (List (List Nat))) : ss.length ≤ (segsPV ss).length := by
  induction ss with
  | nil => exact Nat.le_refl _
  | cons s r ih => show r.length + 1 ≤ (segPV s ++ segsPV r).length; rw [List.length_append]; show r.length + 1 ≤ (s.map PV.str).length + 1 + _; lia

theorem join_run {T : List (String × DefE)} (S : Std T) (n : Nat) {t0 : List (List Nat)} {ss : List (List (List Nat))} (hok : segOk ss) (hl : (partsPV t0 ss).length ≤ 2000) (h0 : (t0.flatten ++ (segOut ss).flatten).length ≤ 100000) (hfl : ∀ s ∈ ss, s.flatten.length ≤ 100000) :
    runF T (n + 1) "_join_translated_parts" [.list (partsPV t0 ss), .star] = some (.str (joinT t0 ss)) := by
  have hL : LIM = 1048576 := rfl
  rw [run_eq S.join (by decide) (by decide +kernel) (by decide +kernel) rfl]
  have hlen : (partsPV t0 ss).length = t0.length + (segsPV ss).length := by unfold partsPV; rw [List.length_append, List.length_map]
  have hss := segs_len ss
  generalize hN : (partsPV t0 ss).length = N at hl hlen
  have hN' : N ≤ 4000 := by lia
  have hx0 : ∀ k x, t0[k]? = some x → pidx (partsPV t0 ss) ((0 + k : Nat) : Int) = some (.str x) := fun k x q => by
    have hk : k < t0.length := (List.getElem?_eq_some_iff.mp q).1
    rw [pidx_off0, partsPV, List.getElem?_append_left (by rw [List.length_map]; lia), List.getElem?_map, Nat.zero_add, q]; rfl
  have hx1 : ∀ k v, (segsPV ss)[k]? = some v → pidx (partsPV t0 ss) ((0 + t0.length + k : Nat) : Int) = some v := fun k v q => by
    rw [pidx_off0, partsPV, List.getElem?_append_right (by rw [List.length_map]; lia), List.length_map, show 0 + t0.length + k - t0.length = k by lia]; exact q
  have hpost : 0 + t0.length = N ∨ 0 + t0.length < N ∧ pidx (partsPV t0 ss) ((0 + t0.length : Nat) : Int) = some .star := by
    cases ss with
    | nil => exact .inl (by rw [hlen]; show _ = _ + 0; lia)
    | cons b r =>
      have h5 : (segsPV (b :: r)).length = (b.length + 1) + (segsPV r).length := by
        show (segPV b ++ segsPV r).length = _
        rw [List.length_append]; show (b.map PV.str).length + 1 + _ = _; rw [List.length_map]
      exact .inr ⟨by lia, hx1 0 _ rfl⟩
  have c1 := j_col1 (F := runF T n) (x6 := none) (os := []) hN' t0 0 [] (Nat.lt_of_le_of_lt (by lia : t0.length ≤ 2000) (by decide)) (by lia) hx0 hpost (by show 0 + t0.length ≤ LIM; lia)
  obtain ⟨y6, os', c2⟩ := j_main (F := runF T n) hN' ss (0 + t0.length) (t0.map PV.str) [] none FUEL (Nat.lt_of_le_of_lt (by lia : ss.length ≤ 2000) (by decide)) hok (by lia) hx1 (by rw [List.length_map]; lia) hfl
  have hres : t0.map PV.str ++ (segOut ss).map PV.str = (t0 ++ segOut ss).map PV.str := by rw [List.map_append]
  rw [hres] at c2
  have hf : (t0 ++ segOut ss).flatten = t0.flatten ++ (segOut ss).flatten := List.flatten_append
  have hs : ((t0 ++ segOut ss).map List.length).sum + (t0 ++ segOut ss).length * ([] : List Nat).length ≤ LIM := by
    rw [sum_flat, hf]; show _ + _ * 0 ≤ _; lia
  have h4 : ([[40, 63, 115, 58], t0.flatten ++ (segOut ss).flatten, [41, 92, 90]].map List.length).sum ≤ LIM := by
    show 4 + ((t0.flatten ++ (segOut ss).flatten).length + (3 + 0)) ≤ LIM; lia
  have e5 : joinT t0 ss = ([[40, 63, 115, 58], t0.flatten ++ (segOut ss).flatten, [41, 92, 90]] : List (List Nat)).flatten := List.append_assoc _ _ _
  rw [e5]
  refine pfun_ret (σ := (jS (partsPV t0 ss) N N y6 ((t0 ++ segOut ss).map PV.str) os').put 2 (.str (pjoin [] (t0 ++ segOut ss)))) (exs_next rfl (exs_next rfl ?_)) rfl
  have hn : ∀ {F : PF1} {O : Owns} {G : Slots} {e : PE}, ev F O G e = some (.list (partsPV t0 ss)) → ev F O G (.bi .len (.cons e .nil)) = some (.int (N : Int)) := fun h => (len_l h (by rw [hN]; lia)).trans (by rw [hN])
  refine exs_next (asgt2 rfl (hn rfl)) ?_
  refine exs_next (wh_e c1) ?_
  refine exs_next (wh_e c2) ?_
  refine exs_next (asrt_e (cmp_t rfl rfl eqII)) ?_
  refine exs_next (asg_e (i := 2) (me_join (v := .own 0) rfl rfl rfl hs)) ?_
  refine exs_stop (ret_e (fstr_e (ls := [[40, 63, 115, 58], t0.flatten ++ (segOut ss).flatten, [41, 92, 90]]) (evs_c rfl (evs_c (ev_var ?_) rfl)) h4)) nofun
  rw [pjoin_nil, hf]; rfl

theorem translate_run {T : List (String × DefE)} (S : Std T) (n : Nat) {ts : List Tk} (hok : ∀ t ∈ ts, t.ok = true) (h1 : ts.length ≤ 2000) (h2 : (patOf ts).length ≤ 100000) {t0 : List (List Nat)} {ss : List (List (List Nat))} (hp : ts.foldl addTk [] = partsPV t0 ss)
    (hsg : segOk ss) (hl : (partsPV t0 ss).length ≤ 2000) (h0 : (t0.flatten ++ (segOut ss).flatten).length ≤ 100000) (hfl : ∀ s ∈ ss, s.flatten.length ≤ 100000) :
    runF T (n + 3) "translate" [.str (patOf ts)] = some (.str (joinT t0 ss)) := by
  have e1 := tr_run S n hok (by lia) h2
  have e2 := join_run S (n + 1) hsg hl h0 hfl
  rw [hp] at e1
  have hno : noOwnL (partsPV t0 ss) = true := by
    rw [← hp]; exact noOwn_part (foldl_ok ts [] nofun)
  rw [def_eq S.trans (by decide)]
  refine (if_neg (by decide +kernel)).trans ((if_pos (by decide +kernel)).trans ?_)
  have hno2 : noOwnL [PV.list (partsPV t0 ss), .star] = true := Bool.and_eq_true_iff.mpr ⟨hno, rfl⟩
  exact bind_eq rfl (bind_eq rfl (bind_eq (exs_next (asg_e (i := 2) (call_e rfl rfl e1)) (exs_stop (ret_e (call_e (evs_c (ev_var (congrArg some (frz_ok rfl hno))) rfl) hno2 e2)) nofun)) rfl))
end Mine

namespace Mine

/-- a sign as translate writes it where it stands for itself -/
noncomputable def enc (c : Nat) : List Nat := if c = 91 ∨ c = 42 ∨ c = 63 then brT c else pesc c
noncomputable def sgBody : PSs := whBody p_signs
noncomputable def sgS (row sg : List Nat) (k : Int) (x3 : Option PV) : St := ⟨[some (.str row), some (.str sg), some (.int k), x3, none], []⟩

theorem pisIn_13 (c : Nat) : pisIn [c] [46, 42, 63] = (c == 46 || (c == 42 || (c == 63 || false))) := by
  simp [pisIn, List.isPrefixOf]
theorem ite_et {F : PF1} {O : Owns} {G : Slots} {c a b : PE} {r : Option PV} (h : pt F O G c = some true) (h2 : ev F O G a = r) : ev F O G (.ite c a b) = r := bind_eq h h2
theorem ite_ef {F : PF1} {O : Owns} {G : Slots} {c a b : PE} {r : Option PV} (h : pt F O G c = some false) (h2 : ev F O G b = r) : ev F O G (.ite c a b) = r := bind_eq h h2
theorem aug_i {n : Nat} {F : PF1} {i : Nat} {e : PE} {σ : St} {x y : Int} (h : ev F σ.O σ.G (.var i) = some (.int x)) (h2 : ev F σ.O σ.G e = some (.int y)) : ex n F (.aug i .add e) σ = some (σ.put i (.int (x + y)), .next) := bind_eq h (bind_eq h2 rfl)
theorem aug_s {n : Nat} {F : PF1} {i : Nat} {e : PE} {σ : St} {x y : List Nat} (h : ev F σ.O σ.G (.var i) = some (.str x)) (h2 : ev F σ.O σ.G e = some (.str y)) (h3 : x.length + y.length ≤ LIM) : ex n F (.aug i .add e) σ = some (σ.put i (.str (x ++ y)), .next) :=
  bind_eq h (bind_eq h2 (map_eq (f := fun v => (σ.put i v, PF.next)) (show pbin σ.O .add (.str x) (.str y) = _ from if_pos h3)))
theorem sl_s {F : PF1} {O : Owns} {G : Slots} {a lo hi : PE} {l : List Nat} {x y : PV} {i j : Option Int} {r : List Nat} (h : ev F O G a = some (.str l)) (h2 : ev F O G lo = some x) (h3 : ev F O G hi = some y) (h4 : ppart x = some i) (h5 : ppart y = some j) (hl : l.length ≤ LIM) (hr : pslice l i j = r) : ev F O G (.sl a lo hi) = some (.str r) :=
  bind_eq h (bind_eq h2 (bind_eq h3 (bind_eq h4 (bind_eq h5 ((if_pos hl).trans (congrArg (fun l => some (PV.str l)) hr))))))

section
variable {F : PF1} {row sg : List Nat} {k : Int} {x3 : Option PV}
theorem sg_idx {c : Nat} (h0 : pidx row k = some c) (hb : k.natAbs < 2 ^ 62) : ev F (sgS row sg k x3).O (sgS row sg k x3).G (.idx (.var 0) (.var 2)) = some (.str [c]) := idx_s rfl rfl hb h0
theorem sg_step {w e : Int} {c d f : Nat} (h0 : pidx row k = some d) (a1 : ev F (sgS row sg k x3).O (sgS row sg k x3).G (.ite (.cmp .eq (.idx (.var 0) (.var 2)) (.cs [91])) (.ci 1) (.ci 0)) = some (.int w)) (b0 : k.natAbs < 2 ^ 62)
    (a2 : pisIn [d] [46, 42, 63] = false) (h1 : pidx row (k + w) = some f) (b1 : (k + w).natAbs < 2 ^ 62)
    (a4 : ev F (sgS row sg (k + w) (some (.int w))).O (sgS row sg (k + w) (some (.int w))).G (.ite (.cmp .eq (.idx (.var 0) (.var 2)) (.cs [92])) (.ci 1) (.ci 0)) = some (.int e))
    (h2 : pidx row (k + w + e) = some c) (b2 : (k + w + e).natAbs < 2 ^ 62) (hl : sg.length + 1 ≤ LIM)
    (a7 : pt F (sgS row (sg ++ [c]) (k + w + e + 1) (some (.int w))).O (sgS row (sg ++ [c]) (k + w + e + 1) (some (.int w))).G (.and2 (.cmp .eq (.var 3) (.ci 1)) (.cmp .ne (.sl (.var 0) (.var 2) (.bin .add (.var 2) (.ci 1))) (.cs [93]))) = some false) :
    exs FUEL F sgBody (sgS row sg k x3) = some (sgS row (sg ++ [c]) (k + w + e + 1 + w) (some (.int w)), .next) :=
  exs_next (asg_e (i := 3) a1) (exs_next (ite_f (cmp_t (sg_idx (x3 := some (.int w)) h0 b0) rfl (congrArg some a2)) rfl) (exs_next (aug_i rfl rfl) (exs_next (aug_i rfl a4) (exs_next (aug_s rfl (sg_idx (x3 := some (.int w)) h2 b2) hl) (exs_next (aug_i (i := 2) rfl rfl) (exs_next (ite_f a7 rfl) (exs_one (aug_i rfl rfl))))))))
theorem sg_tail {sg : List Nat} {k : Int} : pt F (sgS row sg k (some (.int 0))).O (sgS row sg k (some (.int 0))).G (.and2 (.cmp .eq (.var 3) (.ci 1)) (.cmp .ne (.sl (.var 0) (.var 2) (.bin .add (.var 2) (.ci 1))) (.cs [93]))) = some false := and2_f rfl
theorem sg_tail1 {sg : List Nat} {k : Int} (hL : row.length ≤ LIM) (h2 : pslice row (some k) (some (k + 1)) = [93]) : pt F (sgS row sg k (some (.int 1))).O (sgS row sg k (some (.int 1))).G (.and2 (.cmp .eq (.var 3) (.ci 1)) (.cmp .ne (.sl (.var 0) (.var 2) (.bin .add (.var 2) (.ci 1))) (.cs [93]))) = some false :=
  and2_t rfl (cmp_t (sl_s rfl rfl rfl rfl rfl hL h2) rfl rfl)
theorem nb0' {k : Int} (h : k.natAbs < 2 ^ 61) : (k + 0).natAbs < 2 ^ 62 := by lia
theorem sg_plain {c : Nat} (h0 : pidx row k = some c) (h1 : c ≠ 91) (h2 : c ≠ 46) (h3 : c ≠ 42) (h4 : c ≠ 63) (h5 : c ≠ 92) (hb : k.natAbs < 2 ^ 61) (hl : sg.length + 1 ≤ LIM) :
    exs FUEL F sgBody (sgS row sg k x3) = some (sgS row (sg ++ [c]) (k + 1) (some (.int 0)), .next) := by
  have e0 : k + 0 = k := Int.add_zero k
  have h := sg_step (F := F) (sg := sg) (x3 := x3) (w := 0) (e := 0) h0 (ite_ef (cmp_t (sg_idx h0 (nb0 hb)) rfl (eq0 h1)) rfl) (nb0 hb) (by rw [pisIn_13]; simp [h2, h3, h4]) (by rw [e0]; exact h0) (nb0' hb) (ite_ef (cmp_t (sg_idx (by rw [e0]; exact h0) (nb0' hb)) rfl (eq0 h5)) rfl) (by rw [e0, e0]; exact h0) (by rw [e0]; exact nb0' hb) hl sg_tail
  rwa [e0, e0, Int.add_zero] at h
theorem sg_esc {c : Nat} (h0 : pidx row k = some 92) (h1 : pidx row (k + 1) = some c) (hb : k.natAbs < 2 ^ 61) (hl : sg.length + 1 ≤ LIM) :
    exs FUEL F sgBody (sgS row sg k x3) = some (sgS row (sg ++ [c]) (k + 2) (some (.int 0)), .next) := by
  have e0 : k + 0 = k := Int.add_zero k
  have h := sg_step (F := F) (sg := sg) (x3 := x3) (w := 0) (e := 1) h0 (ite_ef (cmp_t (sg_idx h0 (nb0 hb)) rfl rfl) rfl) (nb0 hb) rfl (by rw [e0]; exact h0) (nb0' hb) (ite_et (cmp_t (sg_idx (by rw [e0]; exact h0) (nb0' hb)) rfl rfl) rfl) (by rw [e0]; exact h1) (by rw [e0]; exact nb1 hb) hl sg_tail
  rwa [e0, Int.add_zero, Int.add_assoc] at h
/-- between brackets: first the sign, perhaps behind a backslash -/
theorem sg_br {c : Nat} (hc : c ≠ 92) (h0 : pidx row k = some 91) (h1 : pidx row (k + 1) = some c) (h2 : pslice row (some (k + 1 + 1)) (some (k + 1 + 1 + 1)) = [93]) (hL : row.length ≤ LIM) (hb : k.natAbs < 2 ^ 61) (hl : sg.length + 1 ≤ LIM) :
    exs FUEL F sgBody (sgS row sg k x3) = some (sgS row (sg ++ [c]) (k + 3) (some (.int 1)), .next) := by
  have e0 : k + 1 + 0 = k + 1 := Int.add_zero _
  have h := sg_step (F := F) (sg := sg) (x3 := x3) (w := 1) (e := 0) h0 (ite_et (cmp_t (sg_idx h0 (nb0 hb)) rfl rfl) rfl) (nb0 hb) rfl h1 (nb1 hb) (ite_ef (cmp_t (sg_idx h1 (nb1 hb)) rfl (eq0 hc)) rfl) (by rw [e0]; exact h1) (by rw [e0]; exact nb1 hb) hl (sg_tail1 hL (by rw [e0]; exact h2))
  rwa [e0, Int.add_assoc, Int.add_assoc] at h
theorem sg_br2 {c : Nat} (h0 : pidx row k = some 91) (h1 : pidx row (k + 1) = some 92) (h1' : pidx row (k + 1 + 1) = some c) (h2 : pslice row (some (k + 1 + 1 + 1)) (some (k + 1 + 1 + 1 + 1)) = [93]) (hL : row.length ≤ LIM) (hb : k.natAbs < 2 ^ 61) (hl : sg.length + 1 ≤ LIM) :
    exs FUEL F sgBody (sgS row sg k x3) = some (sgS row (sg ++ [c]) (k + 4) (some (.int 1)), .next) := by
  have h := sg_step (F := F) (sg := sg) (x3 := x3) (w := 1) (e := 1) h0 (ite_et (cmp_t (sg_idx h0 (nb0 hb)) rfl rfl) rfl) (nb0 hb) rfl h1 (nb1 hb) (ite_et (cmp_t (sg_idx h1 (nb1 hb)) rfl rfl) rfl) h1' (nb2 hb) hl (sg_tail1 hL h2)
  rwa [Int.add_assoc, Int.add_assoc, Int.add_assoc] at h
end

theorem sg_loop {F : PF1} : ∀ (cs : List Nat) (pre sg : List Nat) (x3 : Option PV) (fuel : Nat), cs.length < fuel → (pre ++ (cs.map enc).flatten).length ≤ LIM → sg.length + cs.length ≤ LIM →
    ∃ y3, whIt (fun σ => pt F σ.O σ.G (.cmp .lt (.var 2) (.bi .len (.cons (.var 0) .nil)))) (fun σ => exs FUEL F sgBody σ) fuel (sgS (pre ++ (cs.map enc).flatten) sg pre.length x3) =
      some (sgS (pre ++ (cs.map enc).flatten) (sg ++ cs) (pre ++ (cs.map enc).flatten).length y3, .next)
  | [], pre, sg, x3, 0, h, _, _ => by simp at h
  | [], pre, sg, x3, fuel + 1, _, hl, _ => by
    have hL : LIM = 1048576 := rfl
    simp only [List.map_nil, List.flatten_nil, List.append_nil] at hl ⊢
    exact ⟨x3, whIt_stop (cmp_t rfl (len_s rfl hl) (lt0 (Int.lt_irrefl _)))⟩
  | c :: cs, pre, sg, x3, 0, h, _, _ => by simp at h
  | c :: cs, pre, sg, x3, fuel + 1, h, hl, hs => by
    have hL : LIM = 1048576 := rfl
    have hrow : pre ++ ((c :: cs).map enc).flatten = pre ++ (enc c ++ (cs.map enc).flatten) := by simp
    rw [hrow] at hl ⊢
    have hl' : pre.length + ((enc c).length + ((cs.map enc).flatten).length) ≤ LIM := by rw [List.length_append, List.length_append] at hl; exact hl
    have hpos : 0 < (enc c).length := by
      unfold enc brT pesc; repeat' split
      all_goals simp
    have hb : ((pre.length : Nat) : Int).natAbs < 2 ^ 61 := by rw [Int.natAbs_natCast]; lia
    have hlen : (pre ++ (enc c ++ (cs.map enc).flatten)).length = pre.length + ((enc c).length + ((cs.map enc).flatten).length) := by simp
    have htest : pt F (sgS (pre ++ (enc c ++ (cs.map enc).flatten)) sg pre.length x3).O (sgS (pre ++ (enc c ++ (cs.map enc).flatten)) sg pre.length x3).G (.cmp .lt (.var 2) (.bi .len (.cons (.var 0) .nil))) = some true := by
      have h3 : (pre.length : Int) < ((pre ++ (enc c ++ (cs.map enc).flatten)).length : Int) := by rw [hlen]; lia
      exact cmp_t rfl (len_s rfl hl) (lt1 h3)
    have hsl : sg.length + 1 ≤ LIM := by simp at hs; lia
    have hstep : ∃ y3, exs FUEL F sgBody (sgS (pre ++ (enc c ++ (cs.map enc).flatten)) sg pre.length x3) = some (sgS (pre ++ (enc c ++ (cs.map enc).flatten)) (sg ++ [c]) (pre ++ enc c).length y3, .next) := by
      generalize hr : (cs.map enc).flatten = rest at *
      by_cases h9 : c = 91
      · subst h9
        refine ⟨some (.int 1), ?_⟩
        have e0 : enc 91 = [91, 92, 91, 93] := rfl
        rw [e0] at hl ⊢
        rw [sg_br2 (c := 91) (pidx_off pre _ 0 (by simp)) (pidx_off pre _ 1 (by simp)) (pidx_off pre _ 2 (by simp <;> lia)) (by rw [show pre ++ ([91, 92, 91, 93] ++ rest) = (pre ++ [91, 92, 91]) ++ [93] ++ rest by simp]; exact pslice_mid _ _ _ (by simp <;> lia) (by simp <;> lia)) hl hb hsl]
        simp
      · by_cases h8 : c = 42 ∨ c = 63
        · refine ⟨some (.int 1), ?_⟩
          have e0 : enc c = [91, c, 93] := by
            unfold enc brT
            rw [if_pos (by lia), if_neg h9]
          rw [e0] at hl ⊢
          rw [sg_br (c := c) (by lia) (pidx_off pre _ 0 (by simp)) (pidx_off pre _ 1 (by simp)) (by rw [show pre ++ ([91, c, 93] ++ rest) = (pre ++ [91, c]) ++ [93] ++ rest by simp]; exact pslice_mid _ _ _ (by simp <;> lia) (by simp <;> lia)) hl hb hsl]
          simp
        · have e0 : enc c = pesc c := by unfold enc; rw [if_neg (by lia)]
          refine ⟨some (.int 0), ?_⟩
          rw [e0] at hl ⊢
          unfold pesc at hl ⊢
          by_cases hsp : specials.contains c = true
          · rw [if_pos hsp] at hl ⊢
            rw [sg_esc (c := c) (pidx_off pre _ 0 (by simp)) (pidx_off pre _ 1 (by simp)) hb hsl]
            simp
          · rw [if_neg hsp] at hl ⊢
            have hn : ∀ d ∈ specials, c ≠ d := fun d hd e => hsp (by subst e; simpa using hd)
            rw [sg_plain (c := c) (pidx_off pre _ 0 (by simp)) h9 (hn 46 (by decide)) (by lia) (by lia) (hn 92 (by decide)) hb hsl]
            simp
    obtain ⟨y3, e⟩ := hstep
    rw [whIt_step htest e]
    obtain ⟨z3, e2⟩ := sg_loop (F := F) cs (pre ++ enc c) (sg ++ [c]) y3 fuel (by simp at h; lia) (by rw [List.append_assoc]; exact hl) (by simp at hs ⊢; lia)
    refine ⟨z3, ?_⟩
    rw [List.append_assoc] at e2
    rw [e2]
    simp

theorem signs_run {T : List (String × DefE)} (S : Std T) (n : Nat) {cs : List Nat} (h1 : cs.length ≤ 4000) (h2 : ((cs.map enc).flatten).length ≤ 100000) : runF T (n + 1) "_law_signs" [.str (cs.map enc).flatten] = some (.str cs) := by
  have hL : LIM = 1048576 := rfl
  rw [run_eq S.signs (by decide) (by decide +kernel) (by decide +kernel) rfl]
  obtain ⟨y3, e⟩ := sg_loop (F := runF T n) cs [] [] none FUEL (by show cs.length < 4096; lia) (by simp only [List.nil_append]; lia) (by simp; lia)
  simp only [List.nil_append, List.length_nil] at e
  exact pfun_ret (exs_next (asgt2 rfl rfl) (exs_next (wh_e e) (exs_stop (ret_e (ev_var (congrArg some (frz_ok rfl rfl)))) nofun))) rfl
end Mine

namespace Mine

theorem pjoin_cons {b x : List Nat} {r : List (List Nat)} (h : r ≠ []) : pjoin b (x :: r) = x ++ b ++ pjoin b r := by
  cases r with
  | nil => exact absurd rfl h
  | cons y r => rfl
theorem psplitGo_ne (sep : List Nat) : ∀ (l : List Nat) (k : Nat) (acc : List Nat), psplitGo sep k acc l ≠ []
  | [], k, acc => by cases k <;> simp [psplitGo]
  | c :: r, 0, acc => by
    rw [psplitGo]
    split
    · simp
    · exact psplitGo_ne sep r 0 _
  | c :: r, k + 1, acc => by rw [psplitGo]; exact psplitGo_ne sep r k acc
/-- one sign gives way to a text -/
noncomputable def sub1 (a : Nat) (b : List Nat) (x : List Nat) : List Nat := (x.map fun c => if c = a then b else [c]).flatten
theorem sub1_go (a : Nat) (b : List Nat) : ∀ (x acc : List Nat), pjoin b (psplitGo [a] 0 acc x) = acc.reverse ++ sub1 a b x
  | [], acc => by simp [psplitGo, pjoin, sub1]
  | c :: r, acc => by
    rw [psplitGo]
    by_cases h : c = a
    · subst h
      have : [c].isPrefixOf (c :: r) = true := by simp [List.isPrefixOf]
      rw [if_pos this, pjoin_cons (psplitGo_ne _ _ _ _)]
      simp only [List.length_cons, List.length_nil, Nat.zero_add, Nat.sub_self]
      rw [sub1_go c b r []]
      simp [sub1]
    · have : ¬ ([a].isPrefixOf (c :: r) = true) := by simp [List.isPrefixOf]; exact fun e => h e.symm
      rw [if_neg this, sub1_go a b r (c :: acc)]
      simp [sub1, h]
theorem preplace1 (a : Nat) (b x : List Nat) : preplace x [a] b = sub1 a b x := by
  unfold preplace psplit
  rw [sub1_go]; rfl
theorem psplitGo_sum (sep : List Nat) : ∀ (l : List Nat) (k : Nat) (acc : List Nat), ((psplitGo sep k acc l).map List.length).sum ≤ acc.length + l.length ∧ (psplitGo sep k acc l).length ≤ l.length + 1
  | [], k, acc => by cases k <;> simp [psplitGo]
  | c :: r, 0, acc => by
    rw [psplitGo]
    split
    · have := psplitGo_sum sep r (sep.length - 1) []
      simp at this ⊢; lia
    · have := psplitGo_sum sep r 0 (c :: acc)
      simp at this ⊢; lia
  | c :: r, k + 1, acc => by
    rw [psplitGo]
    have := psplitGo_sum sep r k acc
    simp at this ⊢; lia
theorem sub1_len (a : Nat) (b : List Nat) : ∀ x : List Nat, (sub1 a b x).length ≤ x.length * (b.length + 1)
  | [] => by simp [sub1]
  | c :: r => by
    have := sub1_len a b r
    have e : sub1 a b (c :: r) = (if c = a then b else [c]) ++ sub1 a b r := rfl
    rw [e, List.length_append, List.length_cons, Nat.add_mul]
    split <;> simp <;> lia

/-- pairs of one sign each, few and short: what replace needs -/
theorem okRepl1 : ∀ (ps : List (Nat × List Nat)) (x : List Nat) (m : Nat), (∀ p ∈ ps, p.2.length ≤ 3) → x.length ≤ m → m * 4 ^ ps.length ≤ 100000 → okRepl (ps.map fun p => ([p.1], p.2)) x
  | [], _, _, _, _, _ => trivial
  | p :: ps, x, m, hb, hx, hm => by
    have hL : LIM = 1048576 := rfl
    have hp := hb p List.mem_cons_self
    have hm1 : m * 4 ≤ 100000 := by
      have : m * 4 * 1 ≤ m * 4 * 4 ^ ps.length := Nat.mul_le_mul_left _ (Nat.pow_pos (by lia))
      rw [List.length_cons, Nat.pow_succ, Nat.mul_comm (4 ^ ps.length) 4, ← Nat.mul_assoc] at hm
      lia
    have hs := psplitGo_sum [p.1] x 0 []
    refine ⟨by simp, by lia, ?_, ?_⟩
    · have h3 : (psplit [p.1] x).length * p.2.length ≤ (x.length + 1) * 3 := Nat.mul_le_mul hs.2 hp
      have h4 := hs.1
      simp only [List.length_nil, Nat.zero_add] at h4
      show ((psplit [p.1] x).map List.length).sum + (psplit [p.1] x).length * p.2.length ≤ LIM
      have h5 : ((psplit [p.1] x).map List.length).sum ≤ x.length := h4
      lia
    · rw [preplace1]
      refine okRepl1 ps _ (m * 4) (fun q hq => hb q (List.mem_cons_of_mem _ hq)) ?_ ?_
      · exact Nat.le_trans (sub1_len _ _ _) (Nat.mul_le_mul hx (by lia))
      · rw [List.length_cons, Nat.pow_succ, Nat.mul_comm (4 ^ ps.length) 4, ← Nat.mul_assoc] at hm
        exact hm
noncomputable def subs (ps : List (Nat × List Nat)) (x : List Nat) : List Nat := ps.foldl (fun x p => sub1 p.1 p.2 x) x
theorem prepl1 : ∀ (ps : List (Nat × List Nat)) (x : List Nat), prepl (ps.map fun p => ([p.1], p.2)) x = subs ps x
  | [], _ => rfl
  | p :: ps, x => by
    show prepl (ps.map fun p => ([p.1], p.2)) (preplace x [p.1] p.2) = _
    rw [preplace1, prepl1 ps]; rfl

theorem repl1_run {T : List (String × DefE)} (S : Std T) (n : Nat) {ps : List (Nat × List Nat)} {x : List Nat} (hb : ∀ p ∈ ps, p.2.length ≤ 3) (hl : ps.length ≤ 3) (hx : x.length ≤ 1000) :
    runF T (n + 1) "replace" (.str x :: flatP (ps.map fun p => ([p.1], p.2))) = some (.str (subs ps x)) := by
  rw [repl_run S n (by simp; lia) (okRepl1 ps x 1000 hb hx ?_), prepl1]
  have : 4 ^ ps.length ≤ 4 ^ 3 := Nat.pow_le_pow_right (by lia) hl
  lia

theorem sub1_append (a : Nat) (b x y : List Nat) : sub1 a b (x ++ y) = sub1 a b x ++ sub1 a b y := by simp [sub1]
theorem subs_append : ∀ (ps : List (Nat × List Nat)) (x y : List Nat), subs ps (x ++ y) = subs ps x ++ subs ps y
  | [], _, _ => rfl
  | p :: ps, x, y => by
    show subs ps (sub1 p.1 p.2 (x ++ y)) = _
    rw [sub1_append, subs_append ps]; rfl
theorem subs_flat (ps : List (Nat × List Nat)) : ∀ x : List Nat, subs ps x = (x.map fun c => subs ps [c]).flatten
  | [] => by
    have : ∀ ps : List (Nat × List Nat), subs ps [] = [] := by
      intro ps; induction ps with
      | nil => rfl
      | cons p ps ih => show subs ps (sub1 p.1 p.2 []) = _; exact ih
    simp [this]
  | c :: r => by
    rw [show c :: r = [c] ++ r from rfl, subs_append, subs_flat ps r]
    simp

/-- the pairs that put the signs of a pattern between brackets -/
noncomputable def plainPairs : List (Nat × List Nat) := [(91, [91, 91, 93]), (42, [91, 42, 93]), (63, [91, 63, 93])]
noncomputable def tkOf (c : Nat) : Tk := if c = 91 ∨ c = 42 ∨ c = 63 then .br c else .lit c
theorem tkOf_ok (c : Nat) : (tkOf c).ok = true := by
  unfold tkOf
  split
  · rename_i h; simp only [Tk.ok, Bool.or_eq_true, beq_iff_eq]; lia
  · rename_i h
    simp only [Tk.ok, Bool.not_eq_true', Bool.or_eq_false_iff, beq_eq_false_iff_ne]; lia
theorem plain1 (c : Nat) : subs plainPairs [c] = (tkOf c).pat := by
  unfold tkOf
  by_cases h1 : c = 91
  · subst h1; rfl
  · by_cases h2 : c = 42
    · subst h2; rfl
    · by_cases h3 : c = 63
      · subst h3; rfl
      · rw [if_neg (by lia)]
        simp [subs, plainPairs, sub1, h1, h2, h3, Tk.pat]
theorem plain_pat (x : List Nat) : subs plainPairs x = patOf (x.map tkOf) := by
  rw [subs_flat]
  simp only [patOf, List.map_map]
  congr 1
  exact List.map_congr_left fun c _ => plain1 c
theorem plain_run {T : List (String × DefE)} (S : Std T) (n : Nat) {x : List Nat} (hx : x.length ≤ 1000) :
    runF T (n + 1) "replace" [.str x, .str [91], .str [91, 91, 93], .str [42], .str [91, 42, 93], .str [63], .str [91, 63, 93]] = some (.str (patOf (x.map tkOf))) := by
  have := repl1_run S n (ps := plainPairs) (x := x) (by decide) (by decide) hx
  rw [plain_pat] at this
  exact this

theorem foldl_tk : ∀ (x : List Nat) (res : List PV), (x.map tkOf).foldl addTk res = res ++ (x.map enc).map PV.str
  | [], res => by simp
  | c :: r, res => by
    rw [List.map_cons, List.foldl_cons]
    have : addTk res (tkOf c) = res ++ [.str (enc c)] := by
      unfold tkOf enc
      split
      · rfl
      · rfl
    rw [this, foldl_tk r]
    simp
theorem enc_len (c : Nat) : (enc c).length ≤ 4 := by
  unfold enc brT pesc; repeat' split
  all_goals simp
theorem encs_len : ∀ x : List Nat, ((x.map enc).flatten).length ≤ 4 * x.length
  | [] => by simp
  | c :: r => by have := encs_len r; have := enc_len c; simp at *; lia
theorem tkpat_len (c : Nat) : (tkOf c).pat.length ≤ 3 := by unfold tkOf; split <;> simp [Tk.pat]
theorem pats_len : ∀ x : List Nat, (patOf (x.map tkOf)).length ≤ 3 * x.length
  | [] => by simp [patOf]
  | c :: r => by
    have := pats_len r; have := tkpat_len c
    simp [patOf] at *; lia
end Mine

namespace Mine

theorem cmp_e {F : PF1} {O : Owns} {G : Slots} {op : PCmp} {a b : PE} {x y : PV} {r : Bool} (h : ev F O G a = some x) (h2 : ev F O G b = some y) (h3 : pcmp O op x y = some r) : ev F O G (.cmp op a b) = some (.bool r) := bind_eq h (bind_eq h2 (map_eq h3))
theorem drop_min {α : Type} (l : List α) (a : Nat) {m : Nat} (h : l.length ≤ m) : l.drop (min a m) = l.drop a := by
  rcases Nat.le_total a m with q | q
  · rw [Nat.min_eq_left q]
  · rw [Nat.min_eq_right q, List.drop_eq_nil_of_le h, List.drop_eq_nil_of_le (by lia)]
theorem pslice_nat {α : Type} (l : List α) (a b : Nat) {i j : Int} (hi : i = a) (hj : j = b) : pslice l (some i) (some j) = (l.take b).drop a := by
  subst hi; subst hj
  unfold pslice phi plo pclamp
  dsimp only
  rw [if_neg (by lia), if_neg (by lia)]
  simp only [Int.toNat_natCast]
  rw [drop_min _ _ (by simp <;> lia), List.take_eq_take_iff.mpr (by lia : min (min b l.length) l.length = min b l.length)]
theorem pslice_to {α : Type} (l : List α) (b : Nat) {j : Int} (hj : j = b) : pslice l none (some j) = l.take b := by
  subst hj
  unfold pslice phi plo pclamp
  dsimp only
  rw [if_neg (by lia)]
  simp only [Int.toNat_natCast, List.drop_zero]
  rw [List.take_eq_take_iff.mpr (by lia : min (min b l.length) l.length = min b l.length)]
/-- the last k items, and all but those -/
theorem pslice_last {α : Type} (x y : List α) {j : Int} (hj : j = -(y.length : Int)) (hy : 0 < y.length) : pslice (x ++ y) (some j) none = y := by
  subst hj
  unfold pslice phi plo pclamp
  dsimp only
  rw [if_pos (by lia)]
  rw [show (-(y.length : Int) + ((x ++ y).length : Int)).toNat = x.length by simp <;> lia]
  rw [List.take_of_length_le (Nat.le_refl _), List.drop_left' rfl]
theorem pslice_front {α : Type} (x y : List α) {j : Int} (hj : j = -(y.length : Int)) (hy : 0 < y.length) : pslice (x ++ y) none (some j) = x := by
  subst hj
  unfold pslice phi plo pclamp
  dsimp only
  rw [if_pos (by lia)]
  rw [show (-(y.length : Int) + ((x ++ y).length : Int)).toNat = x.length by simp <;> lia]
  simp
theorem pslice_inner {α : Type} (x m y : List α) {i j : Int} (hi : i = x.length) (hj : j = -(y.length : Int)) (hy : 0 < y.length) : pslice (x ++ m ++ y) (some i) (some j) = m := by
  subst hj; subst hi
  unfold pslice phi plo pclamp
  dsimp only
  rw [if_neg (by lia), if_pos (by lia)]
  rw [show (-(y.length : Int) + ((x ++ m ++ y).length : Int)).toNat = (x ++ m).length by simp <;> lia]
  rw [show min ((x.length : Int)).toNat (x ++ m ++ y).length = x.length by simp <;> lia]
  rw [List.take_left' rfl, List.drop_left' rfl]

theorem pbin_mulS {O : Owns} {a : List Nat} {b : Int} (h1 : b.natAbs ≤ 4096) (h2 : a.length ≤ 256) : pbin O .mul (.str a) (.int b) = some (.str (prepeat a b)) := if_pos ⟨h1, h2⟩
theorem pbin_addS {O : Owns} {a b : List Nat} (h : a.length + b.length ≤ LIM) : pbin O .add (.str a) (.str b) = some (.str (a ++ b)) := if_pos h
theorem pbin_addI {O : Owns} {a b : Int} : pbin O .add (.int a) (.int b) = some (.int (a + b)) := rfl
theorem prepeat2 {α : Type} (t : List α) : prepeat t 2 = t ++ t := by
  unfold prepeat
  rw [show (2 : Int).toNat = 2 from rfl]
  simp [List.replicate]
theorem prepeat1 (c : Nat) (k : Nat) : prepeat [c] (k : Int) = List.replicate k c := by
  unfold prepeat
  rw [Int.toNat_natCast]
  induction k with
  | zero => rfl
  | succ k ih => rw [List.replicate_succ, List.flatten_cons, ih]; rfl
theorem patOf_append (a b : List Tk) : patOf (a ++ b) = patOf a ++ patOf b := by simp [patOf]
theorem patOf_q (k : Nat) : patOf (List.replicate k .q) = List.replicate k 63 := by
  induction k with
  | zero => rfl
  | succ k ih => rw [List.replicate_succ, List.replicate_succ, ← ih]; rfl
theorem foldl_q : ∀ (k : Nat) (res : List PV), (List.replicate k Tk.q).foldl addTk res = res ++ (List.replicate k [46]).map PV.str
  | 0, res => by simp
  | k + 1, res => by
    rw [List.replicate_succ, List.foldl_cons, foldl_q k]
    simp [addTk, List.replicate_succ]
theorem rep_flat (k : Nat) : (List.replicate k [46]).flatten = List.replicate k 46 := by
  induction k with
  | zero => rfl
  | succ k ih => rw [List.replicate_succ, List.replicate_succ, List.flatten_cons, ih]; rfl

end Mine

namespace Mine

theorem pmodN {O : Owns} {a b : Nat} {i j : Int} (hi : i = a) (hj : j = b) (hb : 0 < b) (h2 : b < 1073741824) : pbin O .mod (.int i) (.int j) = some (.int ((a % b : Nat) : Int)) := by
  subst hi; subst hj
  exact (if_pos ⟨by lia, by lia⟩).trans (congrArg (fun i => some (PV.int i)) (Int.fmod_eq_emod_of_nonneg _ (by lia)))
theorem pdivN {O : Owns} {a b : Nat} {i j : Int} (hi : i = a) (hj : j = b) (hb : 0 < b) (h2 : b < 1073741824) : pbin O .fdiv (.int i) (.int j) = some (.int ((a / b : Nat) : Int)) := by
  subst hi; subst hj
  exact (if_pos ⟨by lia, by lia⟩).trans (congrArg (fun i => some (PV.int i)) (Int.fdiv_eq_ediv_of_nonneg _ (by lia)))
theorem pmulI {O : Owns} {a b : Int} (h : b.natAbs < 2 ^ 62) : pbin O .mul (.int a) (.int b) = some (.int (a * b)) := if_pos h
theorem psubI {O : Owns} {a b : Int} : pbin O .sub (.int a) (.int b) = some (.int (a - b)) := rfl
theorem mapO_PV {β : Type} {f : PV → Option (Option PV)} {c : β → PV} {g : β → PV} {l : List β} (h : ∀ x ∈ l, f (c x) = some (some (g x))) : mapO f (l.map c) = some (l.map g) := by
  induction l with
  | nil => rfl
  | cons x r ih => exact bind_eq (h x List.mem_cons_self) (map_eq (ih fun y hy => h y (List.mem_cons_of_mem _ hy)))
theorem pints_map : ∀ l : List Int, pints (l.map .int) = some l
  | [] => rfl
  | x :: r => bind_eq rfl (map_eq (pints_map r))
theorem sum_cast : ∀ l : List Nat, (l.map fun n : Nat => (n : Int)).sum = ((l.sum : Nat) : Int)
  | [] => rfl
  | x :: r => by rw [List.map_cons, List.sum_cons, List.sum_cons, sum_cast r]; simp
theorem nums_nat (xs : List Int) : ∃ ns : List Nat, ns.length = xs.length ∧ xs.map (fun x => x.fmod 1000000) = ns.map fun n : Nat => (n : Int) := by
  refine ⟨xs.map fun x => (x.fmod 1000000).toNat, by simp, ?_⟩
  rw [List.map_map]
  refine List.map_congr_left fun x _ => ?_
  have : 0 ≤ x.fmod 1000000 := Int.fmod_nonneg_of_pos x (by decide)
  simp only [Function.comp]
  lia

/-- texts of one sign -/
noncomputable def sgs (l : List Nat) : List PV := l.map fun c => .str [c]
theorem pstrs_sgs (l : List Nat) : pstrs (sgs l) = some (l.map fun c => [c]) := by
  have : sgs l = (l.map fun c => [c]).map PV.str := by simp [sgs]
  rw [this, pstrs_map]
theorem flat1 : ∀ l : List Nat, (l.map fun c => [c]).flatten = l
  | [] => rfl
  | c :: r => by rw [List.map_cons, List.flatten_cons, flat1 r]; rfl
theorem sum1 (l : List Nat) : ((l.map fun c => [c]).map List.length).sum = l.length := by rw [sum_flat, flat1]

theorem pfmodI {O : Owns} {a : Int} : pbin O .mod (.int a) (.int 1000000) = some (.int (a.fmod 1000000)) := rfl
theorem ppow10 {O : Owns} : pbin O .pow (.int 10) (.int 6) = some (.int 1000000) := rfl

theorem sl_l {F : PF1} {O : Owns} {G : Slots} {a lo hi : PE} {v : PV} {l : List PV} {x y : PV} {i j : Option Int} {r : List PV} (hv : asS v = none ∧ asT v = none ∧ asL O v = some l) (h : ev F O G a = some v) (h2 : ev F O G lo = some x) (h4 : ppart x = some i) (h3 : ev F O G hi = some y) (h5 : ppart y = some j) (hl : l.length ≤ LIM) (hr : pslice l i j = r) : ev F O G (.sl a lo hi) = some (.list r) := by
  refine bind_eq h (bind_eq h2 (bind_eq h3 (bind_eq h4 (bind_eq h5 ?_))))
  rw [hv.1, hv.2.1]
  exact bind_eq hv.2.2 ((if_pos hl).trans (congrArg (fun l => some (PV.list l)) hr))
/-- the numbers: the script's first ones, filled up, each by its remainder -/
theorem nums_ev {F : PF1} {k : Nat} {dflt : List Int} {de : PEs} {G : Slots} {ws : List Int} (hG : G[0]? = some (some (.list (ws.map .int)))) (hw : ws.length ≤ 63) (hd : evs F [] G de = some (dflt.map .int)) (hdl : dflt.length ≤ 64) (hk : k ≤ 64) {fr : List (Option Nat)} (hfr : fr = [none, none]) :
    ev F [] G (.comp (.bin .mod (.var 1) (.bin .pow (.ci 10) (.ci 6))) 1 (.val (.sl (.bin .add (.sl (.var 0) .cn (.ci k)) (.lst de)) .cn (.ci k))) .nil fr) = some (.list ((((ws.take k ++ dflt).take k).map fun x => x.fmod 1000000).map .int)) := by
  subst hfr
  have hL : LIM = 1048576 := rfl
  have hk : ((k : Int)).toNat = k := Int.toNat_natCast k
  have l1 : (ws.map PV.int).length ≤ LIM := by rw [List.length_map]; lia
  have l2 : ((ws.take k).map PV.int).length + (dflt.map PV.int).length ≤ LIM := by rw [List.length_map, List.length_map, List.length_take]; lia
  have l3 : ((ws.take k ++ dflt).map PV.int).length ≤ LIM := by rw [List.map_append, List.length_append]; exact l2
  have l4 : (((ws.take k ++ dflt).take k).map PV.int).length ≤ LIM := by rw [List.length_map] at l3 ⊢; rw [List.length_take]; lia
  have s1 : pslice (ws.map PV.int) none (some (k : Int)) = (ws.take k).map PV.int := by rw [pslice_to _ k rfl, ← List.map_take]
  have s3 : pslice ((ws.take k ++ dflt).map PV.int) none (some (k : Int)) = ((ws.take k ++ dflt).take k).map PV.int := by rw [pslice_to _ k rfl, ← List.map_take]
  have e1 : ev F [] G (.sl (.bin .add (.sl (.var 0) .cn (.ci k)) (.lst de)) .cn (.ci k)) = some (.list (((ws.take k ++ dflt).take k).map .int)) :=
    sl_l ⟨rfl, rfl, rfl⟩ (bin_e (sl_l ⟨rfl, rfl, rfl⟩ (ev_var hG) rfl rfl (y := .int k) rfl rfl l1 s1) (map_eq hd) ((if_pos l2).trans (by rw [← List.map_append]))) rfl (x := .none) rfl (y := .int k) rfl rfl l3 s3
  have e2 : evI F [] G (.val (.sl (.bin .add (.sl (.var 0) .cn (.ci k)) (.lst de)) .cn (.ci k))) = some (((ws.take k ++ dflt).take k).map .int) := bind_eq e1 (bind_eq rfl (if_pos l4))
  rw [List.map_map]
  exact bind_eq e2 (map_eq (mapO_PV (c := PV.int) (g := fun x => .int (x.fmod 1000000)) fun x _ => rfl))
end Mine

namespace Mine

theorem prepeatN {α : Type} (l : List α) (k : Nat) {i : Int} (hi : i = k) : prepeat l i = (List.replicate k l).flatten := by
  subst hi
  unfold prepeat; rw [Int.toNat_natCast]
theorem sgs_len (l : List Nat) : (sgs l).length = l.length := by simp [sgs]
theorem sgs_take (l : List Nat) (k : Nat) : (sgs l).take k = sgs (l.take k) := by simp [sgs]
theorem sgs_drop (l : List Nat) (k : Nat) : (sgs l).drop k = sgs (l.drop k) := by simp [sgs]
theorem sgs_append (a b : List Nat) : sgs a ++ sgs b = sgs (a ++ b) := by simp [sgs]
theorem sgs_rep (l : List Nat) (k : Nat) : (List.replicate k (sgs l)).flatten = sgs ((List.replicate k l).flatten) := by
  induction k with
  | zero => rfl
  | succ k ih => rw [List.replicate_succ, List.flatten_cons, ih, List.replicate_succ, List.flatten_cons, sgs_append]
theorem sgs_erase : ∀ (l : List Nat) (k : Nat), (sgs l).eraseIdx k = sgs (l.eraseIdx k)
  | [], _ => rfl
  | _ :: _, 0 => rfl
  | c :: l, k + 1 => by
    have := sgs_erase l k
    show PV.str [c] :: (sgs l).eraseIdx k = PV.str [c] :: sgs (l.eraseIdx k)
    rw [this]
theorem join_l {O : Owns} (ls : List (List Nat)) (h : ls.flatten.length ≤ LIM) : pme O .join (.str []) [.list (ls.map .str)] = some (.str ls.flatten) := by
  have h2 : (ls.map List.length).sum + ls.length * ([] : List Nat).length ≤ LIM := by rw [sum_flat]; exact h
  exact pme_join.trans (bind_eq (o := (asL O (.list (ls.map .str))).bind pstrs) (bind_eq rfl (pstrs_map ls)) ((if_pos h2).trans (congrArg (fun l => some (PV.str l)) (pjoin_nil ls))))
theorem pjoin_sgs {O : Owns} (l : List Nat) (h : l.length ≤ LIM) : pme O .join (.str []) [.list (sgs l)] = some (.str l) := by
  have e : sgs l = (l.map fun c => [c]).map PV.str := by rw [List.map_map]; rfl
  rw [e, join_l _ (by rw [flat1]; exact h), flat1]
theorem pslice_from {α : Type} (l : List α) (a : Nat) {i : Int} (hi : i = a) : pslice l (some i) none = l.drop a := by
  subst hi
  unfold pslice phi plo pclamp
  dsimp only
  rw [if_neg (by lia), List.take_length, Int.toNat_natCast, drop_min _ _ (Nat.le_refl _)]
theorem pmulL {O : Owns} {l : List PV} {b : Int} (h1 : b.natAbs ≤ 256) (h2 : l.length ≤ 4096) : pbin O .mul (.list l) (.int b) = some (.list (prepeat l b)) := if_pos ⟨h1, h2⟩
theorem paddL {O : Owns} {a b : List PV} (h : a.length + b.length ≤ LIM) : pbin O .add (.list a) (.list b) = some (.list (a ++ b)) := if_pos h
theorem tup_e {F : PF1} {O : Owns} {G : Slots} {es : PEs} {vs : List PV} (h : evs F O G es = some vs) : ev F O G (.tup es) = some (.tup vs) := map_eq h
theorem it_t {F : PF1} {O : Owns} {G : Slots} {e : PE} {l : List PV} (h : ev F O G e = some (.tup l)) (hl : l.length ≤ LIM) : evIF F O G (.val e) = some l := bind_eq h (bind_eq rfl (if_pos hl))
theorem me_e {F : PF1} {O : Owns} {G : Slots} {m : PMe} {o : PE} {es : PEs} {x : PV} {vs : List PV} {r : PV} (h1 : ev F O G o = some x) (h2 : evs F O G es = some vs) (h3 : pme O m x vs = some r) : ev F O G (.me m o es) = some r := bind_eq h1 (bind_eq h2 h3)
theorem bi_e {F : PF1} {O : Owns} {G : Slots} {b : PBi} {es : PEs} {vs : List PV} {r : PV} (h2 : evs F O G es = some vs) (h3 : pbi O b vs = some r) : ev F O G (.bi b es) = some r := bind_eq h2 h3
theorem frIt_c {i : Nat} {body : St → Option (St × PF)} {v : PV} {r : List PV} {σ σ' : St} {R : Option (St × PF)} (h : body (σ.put i v) = some (σ', .next)) (h2 : frIt i body r σ' = R) : frIt i body (v :: r) σ = R := bind_eq h h2
theorem fr_e {n : Nat} {F : PF1} {i : Nat} {it : PIt} {a : PSs} {σ : St} {its : List PV} {R : Option (St × PF)} (h : evIF F σ.O σ.G it = some its) (h2 : frIt i (fun σ => exs n F a σ) its σ = R) : ex n F (.fr i it a) σ = R := bind_eq h h2
theorem it_l {F : PF1} {O : Owns} {G : Slots} {e : PE} {l : List PV} (h : ev F O G e = some (.list l)) (hl : l.length ≤ LIM) : evI F O G (.val e) = some l := bind_eq h (bind_eq rfl (if_pos hl))
theorem it_s {F : PF1} {O : Owns} {G : Slots} {e : PE} {l : List Nat} (h : ev F O G e = some (.str l)) (hl : (l.map fun c => PV.str [c]).length ≤ LIM) : evI F O G (.val e) = some (l.map fun c => PV.str [c]) := bind_eq h (bind_eq rfl (if_pos hl))

noncomputable def frBody : PSs → PSs
  | .nil => .nil
  | .cons p r => (match p with
    | .fr _ _ b => b
    | _ => frBody r)
end Mine

namespace Mine

/-- the sought text stands at place k -/
noncomputable def occ (Y X : List Nat) (k : Nat) : Bool := Y.isPrefixOf (X.drop k)
/-- the ends of the finds, from the left -/
noncomputable def gE (Y : List Nat) : Nat → Nat → List Nat → List Nat
  | _, _, [] => []
  | s + 1, p, _ :: r => gE Y s (p + 1) r
  | 0, p, c :: r => if Y.isPrefixOf (c :: r) then (p + Y.length) :: gE Y (Y.length - 1) (p + 1) r else gE Y 0 (p + 1) r
noncomputable def gaps (d : Nat) : List Nat → Prop
  | [] => True
  | e :: r => (∀ x ∈ r, e + d ≤ x) ∧ gaps d r

theorem occ_nil {Y : List Nat} (hY : Y ≠ []) (k : Nat) : occ Y [] k = false := by
  cases Y with
  | nil => exact absurd rfl hY
  | cons a b => simp [occ, List.isPrefixOf]
theorem gE_lo {Y : List Nat} (hY : Y ≠ []) : ∀ (l : List Nat) (s p e : Nat), e ∈ gE Y s p l → p + s + Y.length ≤ e
  | [], s, p, e, h => by cases s <;> simp [gE] at h
  | c :: r, s + 1, p, e, h => by
    rw [gE] at h
    have := gE_lo hY r s (p + 1) e h; lia
  | c :: r, 0, p, e, h => by
    have hp : 0 < Y.length := List.length_pos_iff.mpr hY
    rw [gE] at h
    split at h
    · rcases List.mem_cons.mp h with rfl | h
      · lia
      · have := gE_lo hY r (Y.length - 1) (p + 1) e h; lia
    · have := gE_lo hY r 0 (p + 1) e h; lia
theorem gE_gaps {Y : List Nat} (hY : Y ≠ []) : ∀ (l : List Nat) (s p : Nat), gaps Y.length (gE Y s p l)
  | [], s, p => by cases s <;> simp [gE, gaps]
  | c :: r, s + 1, p => by rw [gE]; exact gE_gaps hY r s (p + 1)
  | c :: r, 0, p => by
    have hp : 0 < Y.length := List.length_pos_iff.mpr hY
    rw [gE]
    split
    · refine ⟨fun x hx => ?_, gE_gaps hY r _ _⟩
      have := gE_lo hY r (Y.length - 1) (p + 1) x hx; lia
    · exact gE_gaps hY r 0 (p + 1)
theorem gE_occ {Y : List Nat} (hY : Y ≠ []) : ∀ (l : List Nat) (s p e : Nat), e ∈ gE Y s p l → occ Y l (e - Y.length - p) = true
  | [], s, p, e, h => by cases s <;> simp [gE] at h
  | c :: r, s + 1, p, e, h => by
    have h' := h
    rw [gE] at h
    have h1 := gE_lo hY r s (p + 1) e h
    have := gE_occ hY r s (p + 1) e h
    unfold occ at this ⊢
    rw [show e - Y.length - p = (e - Y.length - (p + 1)) + 1 by lia, List.drop_succ_cons]
    exact this
  | c :: r, 0, p, e, h => by
    have hp : 0 < Y.length := List.length_pos_iff.mpr hY
    rw [gE] at h
    have rec_ : ∀ s, e ∈ gE Y s (p + 1) r → occ Y (c :: r) (e - Y.length - p) = true := fun s h => by
      have h1 := gE_lo hY r s (p + 1) e h
      have := gE_occ hY r s (p + 1) e h
      unfold occ at this ⊢
      rw [show e - Y.length - p = (e - Y.length - (p + 1)) + 1 by lia, List.drop_succ_cons]
      exact this
    split at h
    · rename_i hq
      rcases List.mem_cons.mp h with rfl | h
      · unfold occ
        rw [show p + Y.length - Y.length - p = 0 by lia]; exact hq
      · exact rec_ _ h
    · exact rec_ _ h
theorem gE_next {Y : List Nat} (hY : Y ≠ []) : ∀ (l : List Nat) (s p k : Nat), occ Y l k = true → s ≤ k → ∃ e ∈ gE Y s p l, p + k < e ∧ e ≤ p + k + Y.length
  | [], s, p, k, h, _ => by rw [occ_nil hY] at h; cases h
  | c :: r, s + 1, p, k, h, hs => by
    obtain ⟨k, rfl⟩ : ∃ m, k = m + 1 := ⟨k - 1, by lia⟩
    unfold occ at h
    rw [List.drop_succ_cons] at h
    obtain ⟨e, he, h1, h2⟩ := gE_next hY r s (p + 1) k h (by lia)
    exact ⟨e, by rw [gE]; exact he, by lia, by lia⟩
  | c :: r, 0, p, k, h, hs => by
    have hp : 0 < Y.length := List.length_pos_iff.mpr hY
    rw [gE]
    by_cases hq : Y.isPrefixOf (c :: r) = true
    · rw [if_pos hq]
      by_cases hk : k < Y.length
      · exact ⟨_, List.mem_cons_self, by lia, by lia⟩
      · obtain ⟨k, rfl⟩ : ∃ m, k = m + 1 := ⟨k - 1, by lia⟩
        unfold occ at h
        rw [List.drop_succ_cons] at h
        obtain ⟨e, he, h1, h2⟩ := gE_next hY r (Y.length - 1) (p + 1) k h (by lia)
        exact ⟨e, List.mem_cons_of_mem _ he, by lia, by lia⟩
    · rw [if_neg hq]
      cases k with
      | zero => exact absurd h hq
      | succ k =>
        unfold occ at h
        rw [List.drop_succ_cons] at h
        obtain ⟨e, he, h1, h2⟩ := gE_next hY r 0 (p + 1) k h (by lia)
        exact ⟨e, he, by lia, by lia⟩

theorem occ_len {Y X : List Nat} {k : Nat} (hY : Y ≠ []) (h : occ Y X k = true) : k + Y.length ≤ X.length := by
  unfold occ at h
  have := (List.isPrefixOf_iff_prefix.mp h).length_le
  have hp : 0 < Y.length := List.length_pos_iff.mpr hY
  simp at this; lia
theorem occ_iff {Y X : List Nat} {k : Nat} : occ Y X k = true ↔ (X.drop k).take Y.length = Y := by
  unfold occ
  rw [List.isPrefixOf_iff_prefix]
  constructor
  · intro h; exact (List.prefix_iff_eq_take.mp h).symm
  · intro h; rw [← h]; exact List.take_prefix _ _

/-- how many finds end up to j -/
noncomputable def cnt (E : List Nat) (j : Nat) : Nat := E.countP fun e => decide (e ≤ j)
theorem cnt_mono (E : List Nat) {i j : Nat} (h : i ≤ j) : cnt E i ≤ cnt E j := by
  unfold cnt
  exact List.countP_mono_left fun x _ hx => by simp at hx ⊢; lia
theorem cnt_le (E : List Nat) (j : Nat) : cnt E j ≤ E.length := List.countP_le_length
theorem gaps_low : ∀ {E : List Nat} {j : Nat}, (∀ x ∈ E, j < x) → cnt E j = 0
  | E, j, h => by
    unfold cnt
    rw [List.countP_eq_zero]
    intro x hx; have := h x hx; simp; lia
/-- the place in a list with gaps -/
theorem cnt_at {d : Nat} (hd : 0 < d) : ∀ {E : List Nat} {i e j : Nat}, gaps d E → E[i]? = some e → (i < cnt E j ↔ e ≤ j)
  | [], i, e, j, _, h => by simp at h
  | x :: r, 0, e, j, g, h => by
    simp at h; subst h
    unfold cnt
    rw [List.countP_cons]
    by_cases hx : x ≤ j
    · simp [hx]
    · have := gaps_low (E := r) (j := j) (fun y hy => by have := g.1 y hy; lia)
      unfold cnt at this
      simp [hx, this]
  | x :: r, i + 1, e, j, g, h => by
    rw [List.getElem?_cons_succ] at h
    have ih := cnt_at hd (j := j) g.2 h
    have hxe := g.1 e (List.mem_of_getElem? h)
    unfold cnt at ih ⊢
    rw [List.countP_cons]
    by_cases hx : x ≤ j
    · simp only [hx, decide_true, if_true]; lia
    · have := gaps_low (E := r) (j := j) (fun y hy => by have := g.1 y hy; lia)
      unfold cnt at this
      simp only [hx, decide_false, this, Bool.false_eq_true, if_false]; lia
theorem cnt_step {d : Nat} (hd : 0 < d) : ∀ {E : List Nat} {k : Nat}, gaps d E → (∃ e ∈ E, k < e ∧ e ≤ k + d) → cnt E (k + d) = cnt E k + 1
  | [], k, _, h => by obtain ⟨e, he, _⟩ := h; cases he
  | x :: r, k, g, h => by
    unfold cnt
    rw [List.countP_cons, List.countP_cons]
    by_cases hx : x ≤ k
    · have h' : ∃ e ∈ r, k < e ∧ e ≤ k + d := by
        obtain ⟨e, he, h1, h2⟩ := h
        rcases List.mem_cons.mp he with rfl | he
        · lia
        · exact ⟨e, he, h1, h2⟩
      have := cnt_step hd g.2 h'
      unfold cnt at this
      rw [this]
      simp [hx, show x ≤ k + d by lia]
    · have hx2 : x ≤ k + d := by
        obtain ⟨e, he, h1, h2⟩ := h
        rcases List.mem_cons.mp he with rfl | he
        · exact h2
        · have := g.1 e he; lia
      have a1 := gaps_low (E := r) (j := k) (fun y hy => by have := g.1 y hy; lia)
      have a2 := gaps_low (E := r) (j := k + d) (fun y hy => by have := g.1 y hy; lia)
      unfold cnt at a1 a2
      simp [hx, hx2, a1, a2]

/-- the finds of Y in X -/
noncomputable def fin (Y X : List Nat) : List Nat := gE Y 0 0 X
section
variable {Y X : List Nat} (hY : Y ≠ [])
include hY
theorem fin_gaps : gaps Y.length (fin Y X) := gE_gaps hY X 0 0
theorem fin_next {k : Nat} (h : occ Y X k = true) : ∃ e ∈ fin Y X, k < e ∧ e ≤ k + Y.length := by
  obtain ⟨e, he, h1, h2⟩ := gE_next hY X 0 0 k h (Nat.zero_le _)
  exact ⟨e, he, by lia, by lia⟩
theorem fin_occ {e : Nat} (h : e ∈ fin Y X) : Y.length ≤ e ∧ occ Y X (e - Y.length) = true := by
  have h1 := gE_lo hY X 0 0 e h
  have h2 := gE_occ hY X 0 0 e h
  exact ⟨by lia, by simpa using h2⟩
theorem fin_hi {e : Nat} (h : e ∈ fin Y X) : e ≤ X.length := by
  obtain ⟨h1, h2⟩ := fin_occ hY h
  have := occ_len hY h2; lia
theorem cnt_fit {k : Nat} (h : occ Y X k = true) : cnt (fin Y X) (k + Y.length) = cnt (fin Y X) k + 1 :=
  cnt_step (List.length_pos_iff.mpr hY) (fin_gaps hY) (fin_next hY h)
theorem cnt_unfit {j : Nat} (h : ¬ (Y.length ≤ j + 1 ∧ occ Y X (j + 1 - Y.length) = true)) : cnt (fin Y X) (j + 1) = cnt (fin Y X) j := by
  unfold cnt
  refine List.countP_congr fun e he => ?_
  have h1 : e ≠ j + 1 := fun q => by
    subst q; exact h (fin_occ hY he)
  simp; lia
theorem fin_all : cnt (fin Y X) X.length = (fin Y X).length := by
  unfold cnt
  rw [List.countP_eq_length]
  intro e he
  simpa using fin_hi hY he
end

/-! from the other end -/
theorem occ_mirror {Y X : List Nat} (hY : Y ≠ []) {k : Nat} (h : occ Y.reverse X.reverse k = true) : k + Y.length ≤ X.length ∧ occ Y X (X.length - Y.length - k) = true := by
  have hY' : Y.reverse ≠ [] := by simpa using hY
  have h1 := occ_len hY' h
  simp at h1
  refine ⟨h1, ?_⟩
  rw [occ_iff] at h ⊢
  rw [List.length_reverse] at h
  have e1 : ((X.reverse.drop k).take Y.length) = ((X.drop (X.length - Y.length - k)).take Y.length).reverse := by
    rw [List.drop_reverse, List.take_reverse]
    congr 1
    rw [List.length_take, Nat.min_eq_left (by lia), List.drop_take]
    rw [show X.length - k - (X.length - k - Y.length) = Y.length by lia, show X.length - k - Y.length = X.length - Y.length - k by lia]
  rw [e1] at h
  simpa using h

theorem mir_go {Y X : List Nat} (hY : Y ≠ []) : ∀ (L : List Nat), gaps Y.length L → (∀ e ∈ L, Y.length ≤ e ∧ e ≤ X.length ∧ occ Y X (X.length - e) = true) → ∀ e r, L = e :: r → L.length ≤ cnt (fin Y X) (X.length - e + Y.length)
  | [], _, _, _, _, h => by cases h
  | [e], g, ho, e', r, h => by
    cases h
    rw [cnt_fit hY (ho e List.mem_cons_self).2.2]
    simp
  | e :: f :: L, g, ho, e', r, h => by
    cases h
    have ih := mir_go hY (f :: L) g.2 (fun x hx => ho x (List.mem_cons_of_mem _ hx)) f L rfl
    rw [cnt_fit hY (ho e List.mem_cons_self).2.2]
    have h1 := g.1 f List.mem_cons_self
    have h2 := (ho f (List.mem_cons_of_mem _ List.mem_cons_self)).2.1
    have := cnt_mono (fin Y X) (show X.length - f + Y.length ≤ X.length - e by lia)
    simp only [List.length_cons] at ih ⊢
    lia
theorem mir_le {Y X : List Nat} (hY : Y ≠ []) : (fin Y.reverse X.reverse).length ≤ (fin Y X).length := by
  have hY' : Y.reverse ≠ [] := by simpa using hY
  have hall : ∀ e ∈ fin Y.reverse X.reverse, Y.length ≤ e ∧ e ≤ X.length ∧ occ Y X (X.length - e) = true := by
    intro e he
    obtain ⟨h1, h2⟩ := fin_occ hY' he
    have h3 := fin_hi hY' he
    simp at h1 h3
    rw [List.length_reverse] at h2
    obtain ⟨_, h4⟩ := occ_mirror hY h2
    rw [show X.length - Y.length - (e - Y.length) = X.length - e by lia] at h4
    exact ⟨h1, h3, h4⟩
  have hg := fin_gaps (X := X.reverse) hY'
  rw [List.length_reverse] at hg
  cases hL : fin Y.reverse X.reverse with
  | nil => simp
  | cons e r =>
    have := mir_go hY _ hg hall e r hL
    rw [hL] at this
    exact Nat.le_trans this (cnt_le _ _)
theorem mir_eq {Y X : List Nat} (hY : Y ≠ []) : (fin Y.reverse X.reverse).length = (fin Y X).length := by
  refine Nat.le_antisymm (mir_le hY) ?_
  have := mir_le (Y := Y.reverse) (X := X.reverse) (by simpa using hY)
  simpa using this
end Mine

namespace Mine

structure Std2 (T : List (String × DefE)) : Prop where
  std : Std T
  most : T.lookup "_law_most" = some ⟨8, 2, p2_most⟩
  mirror : T.lookup "_law_mirror" = some ⟨3, 1, p2_mirror⟩
  ends : T.lookup "_law_ends" = some ⟨8, 2, p2_ends⟩
  rows : T.lookup "_law_rows" = some ⟨3, 1, p2_rows⟩
  run : T.lookup "_law_run" = some ⟨7, 2, p2_run⟩
theorem stdB : Std2 T2 := ⟨std2, rfl, rfl, rfl, rfl, rfl⟩

theorem map_range' (f : Nat → PV) (j k : Nat) : (List.range' j (k + 1)).map f = f j :: (List.range' (j + 1) k).map f := by
  rw [List.range'_succ]; rfl
theorem prange1 (n : Nat) : prange 1 ((n : Int) + 1) = (List.range' 1 n).map fun i : Nat => PV.int i := by
  unfold prange
  rw [show ((n : Int) + 1 - 1).toNat = n by lia, List.range'_eq_map_range, List.map_map]
  exact List.map_congr_left fun k _ => congrArg PV.int (Int.natCast_add 1 k).symm
theorem prange0 (n : Nat) : prange 0 (n : Int) = (List.range n).map fun i : Nat => PV.int i := by
  unfold prange
  rw [show ((n : Int) - 0).toNat = n by lia]
  exact List.map_congr_left fun k _ => congrArg PV.int (Int.zero_add _)
theorem and2v_t {F : PF1} {O : Owns} {G : Slots} {a b : PE} {x : PV} {r : Option PV} (h1 : ev F O G a = some x) (h2 : ptruth O x = some true) (h3 : ev F O G b = r) : ev F O G (.and2 a b) = r := bind_eq h1 (bind_eq h2 h3)
theorem and2v_f {F : PF1} {O : Owns} {G : Slots} {a b : PE} {x : PV} (h1 : ev F O G a = some x) (h2 : ptruth O x = some false) : ev F O G (.and2 a b) = some x := bind_eq h1 (bind_eq h2 rfl)
theorem max2_e {O : Owns} {a b c : Int} (h : (if a < b then b else a) = c) : pbi O .max2 [.int a, .int b] = some (.int c) := congrArg (fun i => some (PV.int i)) h
theorem prng1 {x : Int} : prng [.int x] = if x.natAbs ≤ LIM then some (prange 0 x) else none := rfl
theorem prng2 {x y : Int} : prng [.int x, .int y] = if ([] : List PV).isEmpty ∧ x.natAbs ≤ LIM ∧ y.natAbs ≤ LIM then some (prange x y) else none := rfl
theorem rng1_e {F : PF1} {O : Owns} {G : Slots} {e : PE} {n : Nat} (h : ev F O G e = some (.int n)) (hb : (n : Int).natAbs ≤ LIM) : evI F O G (.rng (.cons e .nil)) = some ((List.range n).map fun i : Nat => PV.int i) :=
  bind_eq (evs_c h rfl) (prng1.trans ((if_pos hb).trans (congrArg some (prange0 n))))
theorem rng2_e {F : PF1} {O : Owns} {G : Slots} {e : PE} {n : Nat} (h : ev F O G e = some (.int ((n : Int) + 1))) (hb : ((n : Int) + 1).natAbs ≤ LIM) : (evs F O G (.cons (.ci 1) (.cons e .nil))).bind prng = some ((List.range' 1 n).map fun i : Nat => PV.int i) :=
  bind_eq (evs_c rfl (evs_c h rfl)) (prng2.trans ((if_pos ⟨rfl, by decide, hb⟩).trans (congrArg some (prange1 n))))

/-! the table of counts -/
noncomputable def cntsL (E : List Nat) (j : Nat) : List PV := (List.range j).map fun i => PV.int (cnt E i : Nat)
theorem cntsL_succ (E : List Nat) (j : Nat) : cntsL E (j + 1) = cntsL E j ++ [.int (cnt E j : Nat)] := by simp [cntsL, List.range_succ]
theorem cntsL_at (E : List Nat) {i j : Nat} (h : i < j) : (cntsL E j)[i]? = some (.int (cnt E i : Nat)) := by simp [cntsL, h]
noncomputable def mS (X Y : List Nat) (x3 x4 : Option PV) (ml : List PV) : St := ⟨[some (.str X), some (.str Y), some (.own 0), x3, x4, none, none, none], [some ml]⟩
noncomputable def mBody : PSs := frBody p2_most

theorem slice_occ {X Y : List Nat} {j : Nat} (h : Y.length ≤ j) : ((X.take j).drop (j - Y.length) == Y) = occ Y X (j - Y.length) := by
  rw [List.drop_take, show j - (j - Y.length) = Y.length by lia]
  rw [Bool.eq_iff_iff, beq_iff_eq, occ_iff]

section
variable {F : PF1} {X Y : List Nat} {j : Nat}
theorem m_len {x3 x4 : Option PV} {ml : List PV} (hY : Y.length ≤ LIM) : ev F (mS X Y x3 x4 ml).O (mS X Y x3 x4 ml).G (.bi .len (.cons (.var 1) .nil)) = some (.int Y.length) := len_s rfl hY
theorem m_app {b : Bool} {v w : Int} {ml : List PV} (hl : ml.length ≤ LIM) (l1 : pidx ml (-1) = some (.int w))
    (h1 : ev F (mS X Y (some (.int j)) (some (.bool b)) ml).O (mS X Y (some (.int j)) (some (.bool b)) ml).G (.ite (.var 4) (.bin .add (.idx (.var 2) (.bin .sub (.var 3) (.bi .len (.cons (.var 1) .nil)))) (.ci 1)) (.ci 0)) = some (.int v))
    {r : Int} (h2 : (if w < v then v else w) = r)
    (h0 : ev F (mS X Y (some (.int j)) x4 ml).O (mS X Y (some (.int j)) x4 ml).G (.and2 (.cmp .ge (.var 3) (.bi .len (.cons (.var 1) .nil))) (.cmp .eq (.sl (.var 0) (.bin .sub (.var 3) (.bi .len (.cons (.var 1) .nil))) (.var 3)) (.var 1))) = some (.bool b)) :
    exs FUEL F mBody (mS X Y (some (.int j)) x4 ml) = some (mS X Y (some (.int j)) (some (.bool b)) (ml ++ [.int r]), .next) :=
  exs_next (asg_e h0) (exs_one (app_e (k := 0) (vs := ml) rfl rfl (bi_e (evs_c (idx_o (k := 0) (l := ml) rfl rfl rfl (by decide) l1) (evs_c h1 rfl)) (max2_e h2)) hl))

theorem most_body (hY : Y ≠ []) (hX : X.length ≤ 1000) (hYl : Y.length ≤ 1000) (hj : 0 < j) (hjX : j ≤ X.length) {x4 : Option PV} :
    ∃ y4, exs FUEL F mBody (mS X Y (some (.int j)) x4 (cntsL (fin Y X) j)) = some (mS X Y (some (.int j)) y4 (cntsL (fin Y X) (j + 1)), .next) := by
  have hL : LIM = 1048576 := rfl
  have hp : 0 < Y.length := List.length_pos_iff.mpr hY
  have hYL : Y.length ≤ LIM := by lia
  have hXL : X.length ≤ LIM := by lia
  have hcl : (cntsL (fin Y X) j).length = j := by simp [cntsL]
  have hcl2 : (cntsL (fin Y X) j).length ≤ LIM := by lia
  have l1 : pidx (cntsL (fin Y X) j) (-1) = some (.int (cnt (fin Y X) (j - 1) : Nat)) := by
    rw [pidx_last]
    obtain ⟨m, rfl⟩ : ∃ m, j = m + 1 := ⟨j - 1, by lia⟩
    rw [cntsL_succ, List.getLast?_concat]; rfl
  rw [cntsL_succ]
  have no : ¬ (Y.length ≤ j ∧ occ Y X (j - Y.length) = true) → (if ((cnt (fin Y X) (j - 1) : Nat) : Int) < 0 then 0 else ((cnt (fin Y X) (j - 1) : Nat) : Int)) = ((cnt (fin Y X) j : Nat) : Int) := by
    intro hf
    have hc := cnt_unfit (X := X) (j := j - 1) hY (by rw [show j - 1 + 1 = j by lia]; exact hf)
    rw [show j - 1 + 1 = j by lia] at hc
    rw [if_neg (by lia), hc]
  by_cases hk : Y.length ≤ j
  · have c1 : decide ((Y.length : Int) ≤ (j : Int)) = true := decide_eq_true (by lia)
    have s1 : pslice X (some ((j : Int) - (Y.length : Int))) (some (j : Int)) = (X.take j).drop (j - Y.length) := pslice_nat _ _ _ (by lia) rfl
    have h0 := fun x4 => and2v_t (F := F) (O := [some (cntsL (fin Y X) j)]) (G := (mS X Y (some (.int j)) x4 (cntsL (fin Y X) j)).G) (a := .cmp .ge (.var 3) (.bi .len (.cons (.var 1) .nil))) (b := .cmp .eq (.sl (.var 0) (.bin .sub (.var 3) (.bi .len (.cons (.var 1) .nil))) (.var 3)) (.var 1))
      (cmp_e rfl (m_len hYL) (congrArg some c1)) rfl (cmp_e (sl_s (l := X) rfl (bin_e (x := .int j) rfl (m_len hYL) psubI) rfl rfl rfl hXL s1) rfl (congrArg some (slice_occ hk)))
    cases hb : occ Y X (j - Y.length) with
    | false =>
      rw [hb] at h0
      exact ⟨_, m_app hcl2 l1 (ite_ef rfl rfl) (no fun q => by rw [hb] at q; exact nomatch q.2) (h0 x4)⟩
    | true =>
      rw [hb] at h0
      have l2 : pidx (cntsL (fin Y X) j) ((j : Int) - (Y.length : Int)) = some (.int (cnt (fin Y X) (j - Y.length) : Nat)) := by
        rw [show (j : Int) - (Y.length : Int) = ((j - Y.length : Nat) : Int) by lia, pidx_off0, cntsL_at _ (by lia)]
      have n2 : (((j : Int) - (Y.length : Int)).natAbs < 2 ^ 62) := by lia
      have hc := cnt_fit hY hb
      rw [show j - Y.length + Y.length = j by lia] at hc
      have hmono := cnt_mono (fin Y X) (show j - 1 ≤ j by lia)
      have hm : (if ((cnt (fin Y X) (j - 1) : Nat) : Int) < ((cnt (fin Y X) (j - Y.length) : Nat) : Int) + 1 then ((cnt (fin Y X) (j - Y.length) : Nat) : Int) + 1 else ((cnt (fin Y X) (j - 1) : Nat) : Int)) = ((cnt (fin Y X) j : Nat) : Int) := by
        split <;> lia
      exact ⟨_, m_app hcl2 l1 (ite_et rfl (bin_e (idx_o (k := 0) (l := cntsL (fin Y X) j) rfl rfl (bin_e (x := .int j) rfl (m_len hYL) psubI) n2 l2) rfl rfl)) hm (h0 x4)⟩
  · have c1 : decide ((Y.length : Int) ≤ (j : Int)) = false := decide_eq_false (by lia)
    exact ⟨_, m_app hcl2 l1 (ite_ef rfl rfl) (no fun q => hk q.1) (and2v_f (cmp_e (x := .int j) rfl (m_len hYL) (congrArg some c1)) rfl)⟩
end

theorem most_loop {F : PF1} {X Y : List Nat} (hY : Y ≠ []) (hX : X.length ≤ 1000) (hYl : Y.length ≤ 1000) : ∀ (k j : Nat) (x3 x4 : Option PV), 0 < j → j + k = X.length + 1 →
    ∃ y3 y4, frIt 3 (fun σ => exs FUEL F mBody σ) ((List.range' j k).map fun i : Nat => PV.int i) (mS X Y x3 x4 (cntsL (fin Y X) j)) = some (mS X Y y3 y4 (cntsL (fin Y X) (X.length + 1)), .next)
  | 0, j, x3, x4, _, h => ⟨x3, x4, by rw [show j = X.length + 1 by lia]; rfl⟩
  | k + 1, j, x3, x4, hj, h => by
    obtain ⟨y4, e⟩ := most_body (F := F) hY hX hYl (j := j) hj (by lia) (x4 := x4)
    obtain ⟨z3, z4, e2⟩ := most_loop (F := F) hY hX hYl k (j + 1) (some (.int j)) y4 (by lia) (by lia)
    refine ⟨z3, z4, ?_⟩
    rw [map_range']
    exact frIt_c e e2

theorem most_run {T : List (String × DefE)} (S : Std2 T) (n : Nat) {X Y : List Nat} (hY : Y ≠ []) (hX : X.length ≤ 1000) (hYl : Y.length ≤ 1000) : runF T (n + 1) "_law_most" [.str X, .str Y] = some (.list (cntsL (fin Y X) (X.length + 1))) := by
  have hL : LIM = 1048576 := rfl
  rw [run_eq S.most (by decide) (by decide +kernel) (by decide +kernel) rfl]
  obtain ⟨y3, y4, e⟩ := most_loop (F := runF T n) hY hX hYl X.length 1 none none (by lia) (by lia)
  have h0 : cnt (fin Y X) 0 = 0 := by
    refine gaps_low fun x hx => ?_
    have := fin_occ hY hx
    have hp : 0 < Y.length := List.length_pos_iff.mpr hY
    lia
  have h1 : cntsL (fin Y X) 1 = [.int 0] := by simp [cntsL, List.range_succ, h0]
  rw [h1] at e
  have hno : noOwnL (cntsL (fin Y X) (X.length + 1)) = true := by
    have e : cntsL (fin Y X) (X.length + 1) = ((List.range (X.length + 1)).map fun i => ((cnt (fin Y X) i : Nat) : Int)).map PV.int := by rw [List.map_map]; rfl
    rw [e]; exact noOwn_ints _
  have hXL : X.length ≤ LIM := by lia
  refine pfun_ret (σ := mS X Y y3 y4 (cntsL (fin Y X) (X.length + 1))) ?_ hno
  refine exs_next (σ' := mS X Y none none [.int 0]) rfl (exs_next (fr_e ?_ e) (exs_stop (ret_e (ev_var (congrArg some (frz_own (k := 0) rfl hno)))) nofun))
  exact rng2_e (n := X.length) (bin_e (len_s rfl hXL) rfl rfl) (by lia)

theorem mirror_run {T : List (String × DefE)} (S : Std2 T) (n : Nat) {X : List Nat} (hX : X.length ≤ 1000) : runF T (n + 1) "_law_mirror" [.str X] = some (.str X.reverse) := by
  have hL : LIM = 1048576 := rfl
  rw [run_eq S.mirror (by decide) (by decide +kernel) (by decide +kernel) rfl]
  have hXL : X.length ≤ LIM := by lia
  have b1 : (X.length : Int).natAbs ≤ LIM := by lia
  have hl : (List.range X.length).map (fun i => PV.str [X.reverse.getD i 0]) = sgs X.reverse := by
    refine List.ext_getElem? fun i => ?_
    rw [sgs, List.getElem?_map, List.getElem?_map]
    by_cases hi : i < X.length
    · rw [List.getElem?_range hi]
      simp only [Option.map_some]
      rw [List.getD_eq_getElem?_getD, List.getElem?_eq_getElem (by simpa using hi)]
      rfl
    · rw [List.getElem?_eq_none (by simp; lia), List.getElem?_eq_none (by simp; lia)]; rfl
  have hj := pjoin_sgs (O := []) X.reverse (by simp; lia)
  rw [← hl] at hj
  refine pfun_ret (σ := ⟨[some (.str X), none, none], []⟩) ?_ rfl
  refine exs_stop (ret_e (me_e (o := .cs []) rfl (evs_c (bind_eq (rng1_e (len_s (l := X) rfl hXL) b1) (map_eq (mapO_PV (c := fun i : Nat => PV.int i) (g := fun i => .str [X.reverse.getD i 0]) fun i hi => ?_))) rfl) hj)) nofun
  have hi' : i < X.length := List.mem_range.mp hi
  have e1 : pidx X ((X.length : Int) - 1 - (i : Int)) = some (X.reverse.getD i 0) := by
    rw [show (X.length : Int) - 1 - (i : Int) = ((X.length - 1 - i : Nat) : Int) by lia, pidx_off0]
    rw [List.getD_eq_getElem?_getD, List.getElem?_reverse hi', List.getElem?_eq_getElem (by lia)]
    rfl
  have e2 : (((X.length : Int) - 1 - (i : Int)).natAbs < 2 ^ 62) := by lia
  exact bind_eq (a := true) rfl (map_eq (f := some) (idx_s (l := X) rfl (bin_e (bin_e (len_s (l := X) rfl hXL) rfl psubI) rfl psubI) e2 e1))
end Mine

namespace Mine

/-- the text with the mark put in -/
noncomputable def rS (Y : List Nat) : Nat → List Nat → List Nat
  | _, [] => []
  | s + 1, _ :: r => rS Y s r
  | 0, c :: r => if Y.isPrefixOf (c :: r) then 57344 :: rS Y (Y.length - 1) r else c :: rS Y 0 r
theorem rS_go (Y : List Nat) : ∀ (l : List Nat) (s : Nat) (acc : List Nat), pjoin [57344] (psplitGo Y s acc l) = acc.reverse ++ rS Y s l
  | [], s, acc => by cases s <;> simp [psplitGo, pjoin, rS]
  | c :: r, s + 1, acc => by rw [psplitGo, rS_go Y r s acc, rS]
  | c :: r, 0, acc => by
    rw [psplitGo, rS]
    split
    · rw [pjoin_cons (psplitGo_ne _ _ _ _), rS_go Y r _ []]; simp
    · rw [rS_go Y r 0 (c :: acc)]; simp
theorem mark_run {T : List (String × DefE)} (S : Std T) (n : Nat) {X Y : List Nat} (hY : Y ≠ []) (hX : X.length ≤ 1000) : runF T (n + 1) "replace" [.str X, .str Y, .str [57344]] = some (.str (rS Y 0 X)) := by
  have hL : LIM = 1048576 := rfl
  have hs := psplitGo_sum Y X 0 []
  have := repl_run S n (ps := [(Y, [57344])]) (x := X) (by show 1 ≤ 1000; decide) ⟨hY, by lia, by
    show ((psplitGo Y 0 [] X).map List.length).sum + (psplitGo Y 0 [] X).length * 1 ≤ LIM
    simp at hs; lia, trivial⟩
  rw [show prepl [(Y, [57344])] X = rS Y 0 X by show pjoin [57344] (psplitGo Y 0 [] X) = _; rw [rS_go]; rfl] at this
  exact this

noncomputable def eS (X Y : List Nat) (a : Int) (x4 x5 : Option PV) (en : List PV) : St := ⟨[some (.str X), some (.str Y), some (.int a), some (.own 0), x4, x5, none, none], [some en]⟩
noncomputable def eBody : PSs := frBody p2_ends
section
variable {F : PF1} {X Y : List Nat} {x5 : Option PV} {en : List PV}
theorem e_pre {u z : List Nat} {a : Int} {σ' : St} (hXL : X.length ≤ LIM) (hz : z.length ≤ LIM)
    (h0 : ev F (eS X Y a (some (.str u)) x5 en).O (eS X Y a (some (.str u)) x5 en).G (.ite (.cmp .eq (.var 4) (.cs [57344])) (.var 1) (.var 4)) = some (.str z))
    (s1 : pslice X (some a) (some (a + (z.length : Int))) = z)
    (h2 : ex FUEL F (.ite (.cmp .eq (.var 4) (.cs [57344])) (.cons (.app 3 (.var 2)) .nil) .nil) (eS X Y (a + (z.length : Int)) (some (.str u)) (some (.str z)) en) = some (σ', .next)) :
    exs FUEL F eBody (eS X Y a (some (.str u)) x5 en) = some (σ', .next) :=
  exs_next (asg_e h0) (exs_next (σ' := eS X Y a (some (.str u)) (some (.str z)) en) (ite_f (cmp_t (sl_s (l := X) rfl rfl (bin_e (x := .int a) rfl (len_s (l := z) rfl hz) rfl) rfl rfl hXL s1) rfl (congrArg (fun b => some (!b)) (beq_self_eq_true z))) rfl) (exs_next (aug_i (x := a) rfl (len_s (l := z) rfl hz)) (exs_one h2)))
theorem e_mark {a : Nat} (hX : X.length ≤ 1000) (hYl : Y.length ≤ 1000) (hen : en.length ≤ 1000) (h : (X.drop a).take Y.length = Y) :
    exs FUEL F eBody (eS X Y a (some (.str [57344])) x5 en) = some (eS X Y ((a + Y.length : Nat) : Int) (some (.str [57344])) (some (.str Y)) (en ++ [.int ((a + Y.length : Nat) : Int)]), .next) := by
  have hL : LIM = 1048576 := rfl
  rw [Int.natCast_add]
  exact e_pre (by lia) (by lia) (ite_et rfl rfl) (by rw [pslice_nat X a (a + Y.length) rfl (Int.natCast_add _ _).symm, List.drop_take, Nat.add_sub_cancel_left, h]) (ite_t rfl (exs_one (app_e (k := 0) (vs := en) rfl rfl rfl (by lia))))
theorem e_sign {a c : Nat} (hX : X.length ≤ 1000) (hc : c ≠ 57344) (h : X[a]? = some c) :
    exs FUEL F eBody (eS X Y a (some (.str [c])) x5 en) = some (eS X Y ((a + 1 : Nat) : Int) (some (.str [c])) (some (.str [c])) en, .next) := by
  have hL : LIM = 1048576 := rfl
  rw [Int.natCast_add]
  refine e_pre (z := [c]) (by lia) (show 1 ≤ LIM by decide) (ite_ef (cmp_t rfl rfl (eq0 hc)) rfl) ?_ (ite_f (cmp_t rfl rfl (eq0 hc)) rfl)
  show pslice X (some (a : Int)) (some ((a : Int) + 1)) = [c]
  rw [pslice_nat X a (a + 1) (j := (a : Int) + 1) rfl (Int.natCast_add a 1).symm, List.drop_take, Nat.add_sub_cancel_left]
  obtain ⟨h1, h2⟩ := List.getElem?_eq_some_iff.mp h
  rw [List.drop_eq_getElem_cons h1, h2]; rfl
end

noncomputable def nInts (E : List Nat) : List PV := E.map fun e : Nat => PV.int e
theorem e_loop {F : PF1} {X Y : List Nat} (hY : Y ≠ []) (hX : X.length ≤ 1000) (hYl : Y.length ≤ 1000) (hM : ∀ c ∈ X, c ≠ 57344) : ∀ (l pre : List Nat) (s : Nat) (x4 x5 : Option PV) (en : List PV), X = pre ++ l → s ≤ l.length → en.length + l.length ≤ 1000 →
    ∃ y4 y5, frIt 4 (fun σ => exs FUEL F eBody σ) ((rS Y s l).map fun c => PV.str [c]) (eS X Y ((pre.length + s : Nat) : Int) x4 x5 en) = some (eS X Y (X.length : Nat) y4 y5 (en ++ nInts (gE Y s pre.length l)), .next)
  | [], pre, s, x4, x5, en, hx, hs, _ => by
    have : s = 0 := by simpa using hs
    subst this
    refine ⟨x4, x5, ?_⟩
    have hl : X.length = pre.length + 0 := by rw [hx]; simp
    simp [rS, frIt, gE, nInts, hl]
  | c :: r, pre, s + 1, x4, x5, en, hx, hs, hn => by
    obtain ⟨y4, y5, e⟩ := e_loop (F := F) hY hX hYl hM r (pre ++ [c]) s x4 x5 en (by rw [hx]; simp) (by simpa using hs) (by simp at hn; lia)
    refine ⟨y4, y5, ?_⟩
    rw [rS, gE]
    rw [show (pre ++ [c]).length = pre.length + 1 by simp] at e
    rw [show pre.length + (s + 1) = pre.length + 1 + s by lia]
    exact e
  | c :: r, pre, 0, x4, x5, en, hx, hs, hn => by
    have hp : 0 < Y.length := List.length_pos_iff.mpr hY
    have hdrop : X.drop pre.length = c :: r := by rw [hx]; exact List.drop_left' rfl
    have hat : X[pre.length]? = some c := by rw [hx]; simp
    rw [rS, gE]
    by_cases hq : Y.isPrefixOf (c :: r) = true
    · rw [if_pos hq, if_pos hq]
      have hoc : (X.drop pre.length).take Y.length = Y := by
        have := List.isPrefixOf_iff_prefix.mp hq
        rw [hdrop]; exact (List.prefix_iff_eq_take.mp this).symm
      have hlen := (List.isPrefixOf_iff_prefix.mp hq).length_le
      simp only [List.length_cons] at hlen hn
      have st := e_mark (F := F) (X := X) (Y := Y) (a := pre.length) (x5 := x5) (en := en) hX hYl (by lia) hoc
      obtain ⟨y4, y5, e⟩ := e_loop (F := F) hY hX hYl hM r (pre ++ [c]) (Y.length - 1) (some (.str [57344])) (some (.str Y)) (en ++ [.int ((pre.length + Y.length : Nat) : Int)]) (by rw [hx]; simp) (by lia) (by simp; lia)
      refine ⟨y4, y5, ?_⟩
      rw [show (pre ++ [c]).length = pre.length + 1 by simp, show pre.length + 1 + (Y.length - 1) = pre.length + Y.length by lia, List.append_assoc] at e
      exact frIt_c st e
    · rw [if_neg hq, if_neg hq]
      have hc : c ≠ 57344 := hM c (by rw [hx]; simp)
      have st := e_sign (F := F) (X := X) (Y := Y) (a := pre.length) (x5 := x5) (en := en) hX hc hat
      obtain ⟨y4, y5, e⟩ := e_loop (F := F) hY hX hYl hM r (pre ++ [c]) 0 (some (.str [c])) (some (.str [c])) en (by rw [hx]; simp) (Nat.zero_le _) (by simp at hn; lia)
      refine ⟨y4, y5, ?_⟩
      rw [show (pre ++ [c]).length = pre.length + 1 by simp] at e
      exact frIt_c st e

theorem rS_len (Y : List Nat) : ∀ (l : List Nat) (s : Nat), (rS Y s l).length ≤ l.length
  | [], s => by cases s <;> simp [rS]
  | c :: r, s + 1 => by rw [rS]; have := rS_len Y r s; simp; lia
  | c :: r, 0 => by
    rw [rS]
    split
    · have := rS_len Y r (Y.length - 1); simp; lia
    · have := rS_len Y r 0; simp; lia
theorem noOwn_nats (E : List Nat) : noOwnL (nInts E) = true := by
  have e : nInts E = (E.map fun e : Nat => (e : Int)).map PV.int := by rw [List.map_map]; rfl
  rw [e]; exact noOwn_ints _

theorem ends_run {T : List (String × DefE)} (S : Std2 T) (n : Nat) {X Y : List Nat} (hY : Y ≠ []) (hX : X.length ≤ 900) (hYl : Y.length ≤ 1000) (hM : ∀ c ∈ X, c ≠ 57344) : runF T (n + 2) "_law_ends" [.str X, .str Y] = some (.list (nInts (fin Y X))) := by
  have hL : LIM = 1048576 := rfl
  rw [run_eq S.ends (by decide) (by decide +kernel) (by decide +kernel) rfl]
  have hr := mark_run S.std n (X := X) hY (by lia)
  obtain ⟨y4, y5, e⟩ := e_loop (F := runF T (n + 1)) hY (by lia) hYl hM X [] 0 none none [] (by simp) (Nat.zero_le _) (by simp; lia)
  have hno := noOwn_nats (fin Y X)
  simp only [List.length_nil, Nat.zero_add, List.nil_append] at e
  have hXL : X.length ≤ LIM := by lia
  have hlr : ((rS Y 0 X).map fun c => PV.str [c]).length ≤ LIM := by rw [List.length_map]; have := rS_len Y X 0; lia
  refine pfun_ret (σ := eS X Y (X.length : Nat) y4 y5 (nInts (fin Y X))) ?_ hno
  refine exs_next (σ' := eS X Y 0 none none []) rfl (exs_next (fr_e (bind_eq (call_e rfl rfl hr) (bind_eq rfl (if_pos hlr))) e) (exs_stop (ret_e ?_) nofun))
  exact ite_et (cmp_t rfl (len_s (l := X) rfl hXL) eqII) (ev_var (congrArg some (frz_own (k := 0) rfl hno)))
end Mine

namespace Mine

noncomputable def encs (y : List Nat) : List Nat := (y.map enc).flatten
/-- the alphabet of the law -/
noncomputable def A6 : List Nat := [97, 42, 91, 93, 46, 63]
noncomputable def S1 : List Nat := [40, 63, 62, 46, 42, 63]

/-! splitting where no piece has the separator's first sign -/
theorem go_none (a : Nat) (sep : List Nat) : ∀ (l acc : List Nat), (∀ c ∈ l, c ≠ a) → psplitGo (a :: sep) 0 acc l = [acc.reverse ++ l]
  | [], acc, _ => by simp [psplitGo]
  | c :: r, acc, h => by
    have hc := h c List.mem_cons_self
    have : ¬ ((a :: sep).isPrefixOf (c :: r) = true) := by simp [List.isPrefixOf]; intro e; exact absurd e.symm hc
    rw [psplitGo, if_neg this, go_none a sep r (c :: acc) fun x hx => h x (List.mem_cons_of_mem _ hx)]
    simp
theorem go_skip (sep : List Nat) : ∀ (u v acc : List Nat), psplitGo sep u.length acc (u ++ v) = psplitGo sep 0 acc v
  | [], v, acc => rfl
  | c :: u, v, acc => by
    rw [List.length_cons, List.cons_append, psplitGo, go_skip sep u v acc]
theorem go_piece (a : Nat) (sep : List Nat) : ∀ (u v acc : List Nat), (∀ c ∈ u, c ≠ a) → psplitGo (a :: sep) 0 acc (u ++ (a :: sep) ++ v) = (acc.reverse ++ u) :: psplitGo (a :: sep) 0 [] v
  | [], v, acc, _ => by
    have : (a :: sep).isPrefixOf (a :: (sep ++ v)) = true := by
      rw [List.isPrefixOf_iff_prefix]; exact ⟨v, by simp⟩
    rw [List.nil_append, List.cons_append, psplitGo, if_pos this]
    rw [show (a :: sep).length - 1 = sep.length by simp, go_skip]
    simp
  | c :: u, v, acc, h => by
    have hc := h c List.mem_cons_self
    have : ¬ ((a :: sep).isPrefixOf (c :: (u ++ (a :: sep) ++ v)) = true) := by simp [List.isPrefixOf]; intro e; exact absurd e.symm hc
    rw [List.cons_append, List.cons_append, psplitGo, if_neg this, go_piece a sep u v (c :: acc) fun x hx => h x (List.mem_cons_of_mem _ hx)]
    simp
theorem split_join (a : Nat) (sep : List Nat) : ∀ (ps : List (List Nat)), ps ≠ [] → (∀ p ∈ ps, ∀ c ∈ p, c ≠ a) → psplit (a :: sep) (pjoin (a :: sep) ps) = ps
  | [], h, _ => absurd rfl h
  | [p], _, h => by
    show psplitGo (a :: sep) 0 [] p = [p]
    rw [go_none a sep p [] (h p List.mem_cons_self)]; rfl
  | p :: q :: r, _, h => by
    have ih := split_join a sep (q :: r) (by simp) fun x hx => h x (List.mem_cons_of_mem _ hx)
    show psplitGo (a :: sep) 0 [] (p ++ (a :: sep) ++ pjoin (a :: sep) (q :: r)) = _
    rw [go_piece a sep p _ [] (h p List.mem_cons_self)]
    show (([] : List Nat).reverse ++ p) :: psplit (a :: sep) (pjoin (a :: sep) (q :: r)) = _
    rw [ih]; rfl

/-! splitting at a dot and a star -/
noncomputable def okDS : List Nat → Bool
  | [] => true
  | c :: r => !(c == 46 && r.head? == some 42) && okDS r
theorem ds_prefix (c : Nat) (r : List Nat) : [46, 42].isPrefixOf (c :: r) = (c == 46 && r.head? == some 42) := by
  cases r with
  | nil => simp [List.isPrefixOf]
  | cons d r =>
    simp only [List.isPrefixOf, List.head?_cons, Bool.and_true]
    have e0 : ∀ a b : Nat, (a == b) = (b == a) := fun a b => by
      by_cases h : a = b
      · subst h; rfl
      · rw [beq_eq_false_iff_ne.mpr h, beq_eq_false_iff_ne.mpr (Ne.symm h)]
    have e1 : (46 == c) = (c == 46) := e0 _ _
    have e2 : (42 == d) = (some d == some 42) := e0 _ _
    rw [e1, e2]
theorem ds_none : ∀ (l acc : List Nat), okDS l = true → psplitGo [46, 42] 0 acc l = [acc.reverse ++ l]
  | [], acc, _ => by simp [psplitGo]
  | c :: r, acc, h => by
    simp only [okDS, Bool.and_eq_true, Bool.not_eq_true'] at h
    have : ¬ ([46, 42].isPrefixOf (c :: r) = true) := by rw [ds_prefix, h.1]; simp
    rw [psplitGo, if_neg this, ds_none r (c :: acc) h.2]
    simp
theorem ds_piece : ∀ (u v acc : List Nat), okDS (u ++ [41]) = true → psplitGo [46, 42] 0 acc (u ++ [41] ++ [46, 42] ++ v) = (acc.reverse ++ u ++ [41]) :: psplitGo [46, 42] 0 [] v
  | [], v, acc, _ => by
    have h1 : ¬ ([46, 42].isPrefixOf (41 :: 46 :: 42 :: v) = true) := by rw [ds_prefix]; simp
    have h2 : [46, 42].isPrefixOf (46 :: 42 :: v) = true := by rw [ds_prefix]; simp
    show psplitGo [46, 42] 0 acc (41 :: 46 :: 42 :: v) = _
    rw [psplitGo, if_neg h1, psplitGo, if_pos h2]
    show _ :: psplitGo [46, 42] 1 [] (42 :: v) = _
    rw [psplitGo]
    simp
  | c :: u, v, acc, h => by
    rw [List.cons_append, okDS] at h
    simp only [Bool.and_eq_true, Bool.not_eq_true'] at h
    have hh : (u ++ [41] ++ [46, 42] ++ v).head? = (u ++ [41]).head? := by cases u <;> simp
    have : ¬ ([46, 42].isPrefixOf (c :: (u ++ [41] ++ [46, 42] ++ v)) = true) := by rw [ds_prefix, hh, h.1]; simp
    rw [List.cons_append, List.cons_append, List.cons_append, psplitGo, if_neg this, ds_piece u v (c :: acc) h.2]
    simp

theorem enc6 : ∀ c ∈ A6, (enc c).all (fun x => x != 40) = true ∧ (enc c).head? ≠ some 42 ∧ (enc c) ≠ [] ∧ ∀ r : List Nat, r.head? ≠ some 42 → okDS r = true → okDS (enc c ++ r) = true := by
  intro c hc
  simp only [A6, List.mem_cons, List.not_mem_nil, or_false] at hc
  rcases hc with rfl | rfl | rfl | rfl | rfl | rfl
  · refine ⟨by decide, by decide, by decide, fun r h1 h2 => ?_⟩
    show okDS (97 :: r) = true; simp [okDS, h2]
  · refine ⟨by decide, by decide, by decide, fun r h1 h2 => ?_⟩
    show okDS (91 :: 42 :: 93 :: r) = true; simp [okDS, h2]
  · refine ⟨by decide, by decide, by decide, fun r h1 h2 => ?_⟩
    show okDS (91 :: 92 :: 91 :: 93 :: r) = true; simp [okDS, h2]
  · refine ⟨by decide, by decide, by decide, fun r h1 h2 => ?_⟩
    show okDS (92 :: 93 :: r) = true; simp [okDS, h2]
  · refine ⟨by decide, by decide, by decide, fun r h1 h2 => ?_⟩
    show okDS (92 :: 46 :: r) = true; simp [okDS, h2, h1]
  · refine ⟨by decide, by decide, by decide, fun r h1 h2 => ?_⟩
    show okDS (91 :: 63 :: 93 :: r) = true; simp [okDS, h2]
theorem encs_no40 : ∀ {y : List Nat}, (∀ c ∈ y, c ∈ A6) → ∀ x ∈ encs y, x ≠ 40
  | [], _, x, hx => by simp [encs] at hx
  | c :: y, h, x, hx => by
    have e : encs (c :: y) = enc c ++ encs y := rfl
    rw [e] at hx
    rcases List.mem_append.mp hx with hx | hx
    · have := List.all_eq_true.mp (enc6 c (h c List.mem_cons_self)).1 x hx
      simpa using this
    · exact encs_no40 (fun d hd => h d (List.mem_cons_of_mem _ hd)) x hx
theorem encs_ds : ∀ {y : List Nat} (t : List Nat), (∀ c ∈ y, c ∈ A6) → t.head? ≠ some 42 → okDS t = true → okDS (encs y ++ t) = true ∧ (encs y ++ t).head? ≠ some 42
  | [], t, _, h1, h2 => ⟨h2, h1⟩
  | c :: y, t, h, h1, h2 => by
    have e : encs (c :: y) = enc c ++ encs y := rfl
    obtain ⟨i1, i2⟩ := encs_ds (y := y) t (fun d hd => h d (List.mem_cons_of_mem _ hd)) h1 h2
    obtain ⟨_, q2, q3, q4⟩ := enc6 c (h c List.mem_cons_self)
    rw [e, List.append_assoc]
    refine ⟨q4 _ i2 i1, ?_⟩
    cases hq : enc c with
    | nil => exact absurd hq q3
    | cons d r => rw [hq] at q2; simpa using q2

/-- the split of the last piece -/
theorem last_split {y yl : List Nat} (h1 : ∀ c ∈ y, c ∈ A6) (h2 : ∀ c ∈ yl, c ∈ A6) : psplit [46, 42] (encs y ++ [41] ++ [46, 42] ++ encs yl) = [encs y ++ [41], encs yl] := by
  have d1 := (encs_ds [41] h1 (by decide) (by decide)).1
  have d2 := (encs_ds [] h2 (by decide) (by decide)).1
  rw [List.append_nil] at d2
  unfold psplit
  rw [ds_piece _ _ [] d1, ds_none _ [] d2]
  simp

noncomputable def atomE (y : List Nat) : List Nat := S1 ++ encs y ++ [41]
/-- what translate makes, between its frame -/
noncomputable def inner (y0 y yl : List Nat) (m : Nat) : List Nat := encs y0 ++ (List.replicate m (atomE y)).flatten ++ [46, 42] ++ encs yl
noncomputable def pieces1 (y0 y yl : List Nat) (m : Nat) : List (List Nat) := encs y0 :: (List.replicate m (encs y ++ [41]) ++ [encs y ++ [41] ++ [46, 42] ++ encs yl])
theorem pieces_join (y0 y yl : List Nat) : ∀ (m : Nat), pjoin S1 (pieces1 y0 y yl m) = inner y0 y yl (m + 1)
  | 0 => by simp [pieces1, pjoin, inner, atomE]
  | m + 1 => by
    have hj : ∀ k, pjoin S1 (List.replicate k (encs y ++ [41]) ++ [encs y ++ [41] ++ [46, 42] ++ encs yl]) = (List.replicate k (encs y ++ [41] ++ S1)).flatten ++ (encs y ++ [41] ++ [46, 42] ++ encs yl) := by
      intro k
      induction k with
      | zero => simp [pjoin]
      | succ k ih => rw [List.replicate_succ, List.cons_append, pjoin_cons (by simp), ih, List.replicate_succ, List.flatten_cons]; simp
    have hr : ∀ k, S1 ++ ((List.replicate k (encs y ++ [41] ++ S1)).flatten ++ (encs y ++ [41])) = (List.replicate (k + 1) (atomE y)).flatten := by
      intro k
      induction k with
      | zero => simp [atomE]
      | succ k ih => rw [List.replicate_succ, List.flatten_cons, List.replicate_succ, List.flatten_cons, ← ih]; simp [atomE]
    unfold pieces1
    rw [pjoin_cons (by simp), hj, inner, ← hr (m + 1)]
    simp
theorem pieces_split {y0 y yl : List Nat} (h0 : ∀ c ∈ y0, c ∈ A6) (h1 : ∀ c ∈ y, c ∈ A6) (h2 : ∀ c ∈ yl, c ∈ A6) (m : Nat) : psplit S1 (inner y0 y yl (m + 1)) = pieces1 y0 y yl m := by
  rw [← pieces_join]
  refine split_join 40 _ _ (by simp [pieces1]) fun p hp c hc => ?_
  have k1 : ∀ p, p = encs y ++ [41] → ∀ c ∈ p, c ≠ 40 := by
    rintro p rfl c hc
    rcases List.mem_append.mp hc with hc | hc
    · exact encs_no40 h1 c hc
    · rw [List.mem_singleton.mp hc]; decide
  simp only [pieces1, List.mem_cons, List.mem_append, List.not_mem_nil, or_false] at hp
  rcases hp with rfl | hp | rfl
  · exact encs_no40 h0 c hc
  · exact k1 p (List.mem_replicate.mp hp).2 c hc
  · rcases List.mem_append.mp hc with hc | hc
    · rcases List.mem_append.mp hc with hc | hc
      · exact k1 _ rfl c hc
      · simp at hc; rcases hc with rfl | rfl <;> decide
    · exact encs_no40 h2 c hc
end Mine

namespace Mine

noncomputable def tl (ls : List (List Nat)) : List PV := ls.map PV.str
theorem tl_app (a b : List (List Nat)) : tl a ++ tl b = tl (a ++ b) := List.map_append.symm
theorem tl_len (a : List (List Nat)) : (tl a).length = a.length := List.length_map _
theorem noOwn_tl : ∀ a : List (List Nat), noOwnL (tl a) = true
  | [] => rfl
  | _ :: r => noOwn_tl r
theorem pslice_map {α β : Type} (f : α → β) (l : List α) (lo hi : Option Int) : pslice (l.map f) lo hi = (pslice l lo hi).map f := by
  unfold pslice
  rw [List.length_map, List.map_drop, List.map_take]
theorem pidx_map {α β : Type} (f : α → β) (l : List α) (i : Int) : pidx (l.map f) i = (pidx l i).map f := by
  unfold pidx
  rw [List.length_map]
  split
  · rw [List.getElem?_map]
  · split
    · rw [List.getElem?_map]
    · rfl
theorem pslice_last1 {α : Type} (x : List α) (y : α) : pslice (x ++ [y]) (some (-1)) none = [y] := pslice_last x [y] rfl Nat.one_pos
theorem pslice_front1 {α : Type} (x : List α) (y : α) : pslice (x ++ [y]) none (some (-1)) = x := pslice_front x [y] rfl Nat.one_pos
theorem pslice_inner1 {α : Type} (z : α) (x : List α) (y : α) : pslice (z :: (x ++ [y])) (some 1) (some (-1)) = x :=
  pslice_inner (i := 1) (j := -1) [z] x [y] rfl rfl Nat.one_pos
theorem pidx_last1 {α : Type} (x : List α) (y : α) : pidx (x ++ [y]) (-1) = some y := by rw [pidx_last, List.getLast?_concat]

section
variable {F : PF1} {O : Owns} {G : Slots}
theorem sl_tl {a lo hi : PE} {ls r : List (List Nat)} {x y : PV} {i j : Option Int} (h : ev F O G a = some (.list (tl ls))) (h2 : ev F O G lo = some x) (h4 : ppart x = some i) (h3 : ev F O G hi = some y) (h5 : ppart y = some j) (hl : ls.length ≤ LIM) (hr : pslice ls i j = r) : ev F O G (.sl a lo hi) = some (.list (tl r)) :=
  sl_l ⟨rfl, rfl, rfl⟩ h h2 h4 h3 h5 ((tl_len ls).symm ▸ hl) ((pslice_map _ _ _ _).trans (congrArg tl hr))
theorem idx_tl {a b : PE} {ls : List (List Nat)} {i : Int} {c : List Nat} (h : ev F O G a = some (.list (tl ls))) (h2 : ev F O G b = some (.int i)) (h3 : i.natAbs < 2 ^ 62) (h4 : pidx ls i = some c) : ev F O G (.idx a b) = some (.str c) :=
  idx_l h h2 h3 ((pidx_map _ _ _).trans (map_eq h4))
theorem comp_tl {α : Type} {elt : PE} {v : Nat} {it : PIt} {fr : List (Option Nat)} {l : List α} {c : α → PV} {g : α → List Nat} {r : List (List Nat)} (hi : evI F O G it = some (l.map c))
    (h : ∀ x ∈ l, ev F O ((fr.map fun j => j.bind fun j => (G[j]?).bind id).set v (some (c x))) elt = some (.str (g x))) (hr : l.map g = r) : ev F O G (.comp elt v it .nil fr) = some (.list (tl r)) := by
  subst hr
  refine bind_eq hi (map_eq ((mapO_PV (c := c) (g := fun x => .str (g x)) fun x hx => bind_eq (a := true) rfl (map_eq (f := some) (h x hx))).trans (congrArg some ?_)))
  rw [tl, List.map_map]; rfl
theorem add_tl {a b : PE} {x y r : List (List Nat)} (h : ev F O G a = some (.list (tl x))) (h2 : ev F O G b = some (.list (tl y))) (hl : x.length + y.length ≤ LIM) (hr : x ++ y = r) : ev F O G (.bin .add a b) = some (.list (tl r)) :=
  bin_e h h2 ((paddL ((tl_len x).symm ▸ (tl_len y).symm ▸ hl)).trans (by rw [tl_app, hr]))
theorem add_s {a b : PE} {x y r : List Nat} (h : ev F O G a = some (.str x)) (h2 : ev F O G b = some (.str y)) (hl : r.length ≤ LIM) (hr : x ++ y = r) : ev F O G (.bin .add a b) = some (.str r) :=
  bin_e h h2 ((pbin_addS (by rw [← List.length_append, hr]; exact hl)).trans (by rw [hr]))
theorem it_tl {e : PE} {l : List (List Nat)} (h : ev F O G e = some (.list (tl l))) (hl : l.length ≤ LIM) : evI F O G (.val e) = some (l.map PV.str) := it_l h ((tl_len l).symm ▸ hl)
theorem call1 {f : String} {a : PE} {x r : PV} (h1 : ev F O G a = some x) (hn : noOwn x = true) (h : F f [x] = some r) : ev F O G (.call f (.cons a .nil)) = some r :=
  call_e (evs_c h1 rfl) (by show (noOwn x && true) = true; rw [hn]; rfl) h
theorem call2 {f : String} {a b : PE} {x y r : PV} (h1 : ev F O G a = some x) (h2 : ev F O G b = some y) (hn : noOwn x = true) (hn2 : noOwn y = true) (h : F f [x, y] = some r) : ev F O G (.call f (.cons a (.cons b .nil))) = some r :=
  call_e (evs_c h1 (evs_c h2 rfl)) (by show (noOwn x && (noOwn y && true)) = true; rw [hn, hn2]; rfl) h
end

theorem eqSS {O : Owns} {l : List Nat} : pcmp O .eq (.str l) (.str l) = some true := congrArg some (beq_self_eq_true l)

theorem rows_run {T : List (String × DefE)} (S : Std2 T) (n : Nat) {y0 y yl : List Nat} (h0 : ∀ c ∈ y0, c ∈ A6) (h1 : ∀ c ∈ y, c ∈ A6) (h2 : ∀ c ∈ yl, c ∈ A6) {m : Nat} (hm : m ≤ 1000) (hl : (inner y0 y yl (m + 1)).length ≤ 100000) (l0 : y0.length ≤ 1000) (l1 : y.length ≤ 1000) (l2 : yl.length ≤ 1000) :
    runF T (n + 2) "_law_rows" [.str ([40, 63, 115, 58] ++ inner y0 y yl (m + 1) ++ [41, 92, 90])] = some (.list (tl (y0 :: (List.replicate (m + 1) y ++ [yl])))) := by
  have hL : LIM = 1048576 := rfl
  rw [run_eq S.rows (by decide) (by decide +kernel) (by decide +kernel) rfl]
  have z0 : (encs y0).length ≤ 4 * y0.length := encs_len y0
  have z1 : (encs y).length ≤ 4 * y.length := encs_len y
  have z2 : (encs yl).length ≤ 4 * yl.length := encs_len yl
  have sg0 : runF T (n + 1) "_law_signs" [.str (encs y0)] = _ := signs_run S.std n (cs := y0) (by lia) (by show (encs y0).length ≤ _; lia)
  have sg1 : runF T (n + 1) "_law_signs" [.str (encs y)] = _ := signs_run S.std n (cs := y) (by lia) (by show (encs y).length ≤ _; lia)
  have sg2 : runF T (n + 1) "_law_signs" [.str (encs yl)] = _ := signs_run S.std n (cs := yl) (by lia) (by show (encs yl).length ≤ _; lia)
  have hsp : psplit [40, 63, 62, 46, 42, 63] (inner y0 y yl (m + 1)) = _ := pieces_split h0 h1 h2 m
  have hls := last_split h1 h2
  have hinn : inner y0 y yl (m + 1) = encs y0 ++ (List.replicate (m + 1) (S1 ++ encs y ++ [41])).flatten ++ [46, 42] ++ encs yl := rfl
  generalize inner y0 y yl (m + 1) = I at hsp hinn hl ⊢
  generalize hW : [40, 63, 115, 58] ++ I ++ [41, 92, 90] = W
  have hWl : W.length = I.length + 7 := by rw [← hW, List.length_append, List.length_append]; show 4 + _ + 3 = _; lia
  have sW : pslice W (some 4) (some (-3)) = I := by rw [← hW]; exact pslice_inner _ _ _ rfl rfl (by decide)
  generalize hE : encs y = E at *
  have hE1 : (E ++ [41]).length = E.length + 1 := List.length_append
  have p1 : pieces1 y0 y yl m = (encs y0 :: List.replicate m (E ++ [41])) ++ [E ++ [41] ++ [46, 42] ++ encs yl] := by rw [← hE]; rfl
  have r2 : (encs y0 :: List.replicate m (E ++ [41])) ++ [E ++ [41], encs yl] = encs y0 :: (List.replicate (m + 1) (E ++ [41]) ++ [encs yl]) := by
    rw [List.replicate_succ', List.append_assoc]; rfl
  obtain ⟨P1, hP1⟩ : ∃ P1, P1 = pieces1 y0 y yl m := ⟨_, rfl⟩
  rw [← hP1] at hsp p1
  obtain ⟨R2, hR2⟩ : ∃ R2, R2 = encs y0 :: (List.replicate (m + 1) (E ++ [41]) ++ [encs yl]) := ⟨_, rfl⟩
  obtain ⟨R3, hR3⟩ : ∃ R3, R3 = encs y0 :: (List.replicate (m + 1) E ++ [encs yl]) := ⟨_, rfl⟩
  have lP1 : P1.length ≤ LIM := by rw [p1, List.length_append, List.length_cons, List.length_replicate]; show m + 1 + 1 ≤ _; lia
  have lR2 : R2.length ≤ LIM := by rw [hR2, List.length_cons, List.length_append, List.length_replicate]; show m + 1 + 1 + 1 ≤ _; lia
  have lR3 : R3.length ≤ LIM := by rw [hR3, List.length_cons, List.length_append, List.length_replicate]; show m + 1 + 1 + 1 ≤ _; lia
  have lr : ∀ x : List Nat, (List.replicate (m + 1) x).length ≤ LIM := fun x => by rw [List.length_replicate]; lia
  have hlastl : (E ++ [41] ++ [46, 42] ++ encs yl).length ≤ LIM := by rw [List.length_append, List.length_append, hE1]; show _ + 2 + _ ≤ _; lia
  have q1 : pslice R2 (some 1) (some (-1)) = List.replicate (m + 1) (E ++ [41]) := by rw [hR2, pslice_inner1]
  have q2 : pslice R3 (some 1) (some (-1)) = List.replicate (m + 1) E := by rw [hR3, pslice_inner1]
  have q3 : pslice R2 (some (-1)) none = [encs yl] := by rw [hR2]; exact pslice_last1 (encs y0 :: List.replicate (m + 1) (E ++ [41])) (encs yl)
  have q4 : pidx R3 (-1) = some (encs yl) := by rw [hR3]; exact pidx_last1 (encs y0 :: List.replicate (m + 1) E) (encs yl)
  have hIl : (encs y0).length + ((List.replicate (m + 1) (S1 ++ E ++ [41])).flatten).length + 2 + (encs yl).length = I.length := by
    rw [hinn, List.length_append, List.length_append, List.length_append]; rfl
  have hS1 : (S1 ++ E).length = 6 + E.length := List.length_append
  have hS2 : (S1 ++ E ++ [41]).length = 6 + E.length + 1 := by rw [List.length_append, hS1]; rfl
  refine pfun_ret (σ := ⟨[some (.str W), some (.list (tl R3)), some (.str I)], []⟩) ?_ (noOwn_tl _)
  -- the pieces
  refine exs_next (σ' := ⟨[some (.str W), some (.list (tl P1)), none], []⟩) (asg_e (me_split (a := [40, 63, 62, 46, 42, 63]) (x := I) (sl_s (l := W) rfl rfl rfl rfl rfl (by lia) sW) rfl nofun (by lia) |>.trans (by rw [hsp]; rfl))) ?_
  -- the last piece in two
  refine exs_next (σ' := ⟨[some (.str W), some (.list (tl R2)), none], []⟩) (asg_e (add_tl (y := [E ++ [41], encs yl]) (sl_tl (ls := P1) rfl rfl rfl rfl rfl lP1 (by rw [p1]; exact pslice_front1 _ _))
    (me_split (a := [46, 42]) (x := E ++ [41] ++ [46, 42] ++ encs yl) (idx_tl (ls := P1) rfl rfl (by decide) (by rw [p1]; exact pidx_last1 _ _)) rfl nofun hlastl |>.trans (by rw [hls]; rfl)) (by rw [List.length_cons, List.length_replicate]; show m + 1 + 2 ≤ _; lia) (r2.trans hR2.symm))) ?_
  -- the brackets off
  refine exs_next (σ' := ⟨[some (.str W), some (.list (tl R3)), none], []⟩) (asg_e (add_tl (add_tl (sl_tl (ls := R2) (r := [encs y0]) rfl rfl rfl rfl rfl lR2 (by rw [pslice_to (j := 1) _ 1 rfl, hR2]; rfl))
    (comp_tl (it_tl (sl_tl (ls := R2) rfl rfl rfl rfl rfl lR2 q1) (lr _)) (g := fun _ => E) (r := List.replicate (m + 1) E) (fun x hx => ?_) List.map_replicate) (by rw [List.length_replicate]; show 1 + _ ≤ _; lia) rfl)
    (sl_tl (ls := R2) rfl rfl rfl rfl rfl lR2 q3) (by rw [List.length_append, List.length_replicate]; show 1 + _ + 1 ≤ _; lia) hR3.symm)) ?_
  · cases (List.mem_replicate.mp hx).2
    exact sl_s (l := E ++ [41]) rfl rfl rfl rfl rfl (by lia) (pslice_front1 _ _)
  -- what the text must be
  refine exs_next (σ' := ⟨[some (.str W), some (.list (tl R3)), some (.str I)], []⟩) (asg_e (add_s (add_s (add_s (x := encs y0) (y := (List.replicate (m + 1) (S1 ++ E ++ [41])).flatten) (idx_tl (ls := R3) rfl rfl (by decide) (by rw [hR3]; rfl))
    (me_e (o := .cs []) rfl (evs_c (comp_tl (it_tl (sl_tl (ls := R3) rfl rfl rfl rfl rfl lR3 q2) (lr _)) (g := fun _ => S1 ++ E ++ [41]) (r := List.replicate (m + 1) (S1 ++ E ++ [41])) (fun x hx => ?_) List.map_replicate) rfl) (join_l _ (by lia)))
    (by rw [List.length_append]; lia) rfl) rfl (by rw [List.length_append, List.length_append]; show _ + _ + 2 ≤ _; lia) rfl) (idx_tl (ls := R3) rfl rfl (by decide) q4) (by lia) hinn.symm)) ?_
  · cases (List.mem_replicate.mp hx).2
    exact add_s (add_s (x := S1) rfl (y := E) rfl (by lia) rfl) rfl (by lia) rfl
  refine exs_stop (ret_e (ite_et (cmp_t (y := .str W) rfl (add_s (add_s (y := I) rfl rfl (by rw [List.length_append]; show 4 + _ ≤ _; lia) rfl) rfl (by lia) hW) eqSS) ?_)) nofun
  refine comp_tl (l := y0 :: (List.replicate (m + 1) y ++ [yl])) (c := fun z => .str (encs z)) (g := id) ((it_tl (l := R3) (ev_var (congrArg some (frz_ok (v := .list (tl R3)) rfl (noOwn_tl R3)))) lR3).trans (congrArg some ?_)) (fun z hz => call1 rfl rfl ?_) (List.map_id _)
  · have e : R3 = (y0 :: (List.replicate (m + 1) y ++ [yl])).map encs := by rw [hR3, List.map_cons, List.map_append, List.map_replicate, hE]; rfl
    rw [e, List.map_map]; rfl
  · rcases List.mem_cons.mp hz with rfl | hz
    · exact sg0
    · rcases List.mem_append.mp hz with hz | hz
      · rw [(List.mem_replicate.mp hz).2, hE]; exact sg1
      · rw [List.mem_singleton.mp hz]; exact sg2
end Mine

namespace Mine

noncomputable def rnS (rows : List (List Nat)) (N : List Nat) (a : Int) (x4 x5 : Option PV) (en : List PV) : St := ⟨[some (.list (tl rows)), some (.str N), some (.int a), some (.own 0), x4, x5, none], [some en]⟩
noncomputable def rnBody : PSs := frBody p2_run
noncomputable def rnTest : PE := .cmp .ne (.sl (.var 1) (.var 2) (.bin .add (.var 2) (.bi .len (.cons (.var 4) .nil)))) (.var 4)
noncomputable def rnStep : PSs := .cons (.aug 2 .add (.ci 1)) (.cons (.ite (.cmp .gt (.var 2) (.bi .len (.cons (.var 1) .nil))) (.cons (.ret .cn) .nil) .nil) .nil)

theorem slice_occ' {X Y : List Nat} {j : Nat} : ((X.take (j + Y.length)).drop j == Y) = occ Y X j := by
  rw [List.drop_take, show j + Y.length - j = Y.length by lia]
  rw [Bool.eq_iff_iff, beq_iff_eq, occ_iff]

section
variable {F : PF1} {rows : List (List Nat)} {N Y : List Nat} {x5 : Option PV} {en : List PV}
theorem gt0 {O : Owns} {i j : Int} (h : ¬ j < i) : pcmp O .gt (.int i) (.int j) = some false := congrArg some (decide_eq_false h)
theorem gt1 {O : Owns} {i j : Int} (h : j < i) : pcmp O .gt (.int i) (.int j) = some true := congrArg some (decide_eq_true h)
theorem rn_test (hN : N.length ≤ 10000) (hY : Y.length ≤ 10000) (a : Nat) : pt F (rnS rows N a (some (.str Y)) x5 en).O (rnS rows N a (some (.str Y)) x5 en).G rnTest = some (!occ Y N a) := by
  have hL : LIM = 1048576 := rfl
  have s1 : pslice N (some (a : Int)) (some ((a : Int) + (Y.length : Int))) = (N.take (a + Y.length)).drop a := pslice_nat _ _ _ rfl (Int.natCast_add _ _).symm
  exact cmp_t (sl_s (l := N) rfl rfl (bin_e (x := .int a) rfl (len_s (l := Y) rfl (by lia)) rfl) rfl rfl (by lia) s1) rfl (congrArg (fun b => some (!b)) slice_occ')
theorem rn_step (hN : N.length ≤ 10000) (a : Nat) (h : a + 1 ≤ N.length) : exs FUEL F rnStep (rnS rows N a (some (.str Y)) x5 en) = some (rnS rows N ((a + 1 : Nat) : Int) (some (.str Y)) x5 en, .next) := by
  have hL : LIM = 1048576 := rfl
  exact exs_next (σ' := rnS rows N ((a + 1 : Nat) : Int) (some (.str Y)) x5 en) (aug_i (x := a) (y := 1) rfl rfl) (exs_one (ite_f (cmp_t (x := .int ((a + 1 : Nat) : Int)) rfl (len_s (l := N) rfl (by lia)) (gt0 (by lia))) rfl))
theorem rn_out (hN : N.length ≤ 10000) : exs FUEL F rnStep (rnS rows N (N.length : Nat) (some (.str Y)) x5 en) = some (rnS rows N ((N.length + 1 : Nat) : Int) (some (.str Y)) x5 en, .ret .none) := by
  have hL : LIM = 1048576 := rfl
  exact exs_next (σ' := rnS rows N ((N.length + 1 : Nat) : Int) (some (.str Y)) x5 en) (aug_i (x := N.length) (y := 1) rfl rfl) (exs_stop (ite_t (cmp_t (x := .int ((N.length + 1 : Nat) : Int)) rfl (len_s (l := N) rfl (by lia)) (gt1 (by lia))) (exs_stop (ret_e rfl) nofun)) nofun)

theorem whIt_ret {test : St → Option Bool} {body : St → Option (St × PF)} {n : Nat} {σ σ' : St} {v : PV} (ht : test σ = some true) (hb : body σ = some (σ', .ret v)) : whIt test body (n + 1) σ = some (σ', .ret v) :=
  (congrArg (fun o => Option.bind o _) ht).trans (congrArg (fun o => Option.bind o _) hb)
theorem rn_find (hN : N.length ≤ 4000) (hYn : Y ≠ []) (hY : Y.length ≤ 4000) {k : Nat} (hk : occ Y N k = true) : ∀ (d a fuel : Nat), a + d = k → d < fuel → (∀ j, a ≤ j → j < k → occ Y N j = false) →
    whIt (fun σ => pt F σ.O σ.G rnTest) (fun σ => exs FUEL F rnStep σ) fuel (rnS rows N a (some (.str Y)) x5 en) = some (rnS rows N (k : Nat) (some (.str Y)) x5 en, .next)
  | _, _, 0, _, h, _ => absurd h (Nat.not_lt_zero _)
  | 0, a, fuel + 1, h, _, _ => by
    subst h
    exact whIt_stop ((rn_test (by lia) (by lia) a).trans (congrArg (fun b => some (!b)) hk))
  | d + 1, a, fuel + 1, h, hf, hno => by
    have hlt := occ_len hYn hk
    exact (whIt_step ((rn_test (by lia) (by lia) a).trans (congrArg (fun b => some (!b)) (hno a (Nat.le_refl _) (by lia)))) (rn_step (by lia) a (by lia))).trans
      (rn_find hN hYn hY hk d (a + 1) fuel (by lia) (by lia) fun j h1 h2 => hno j (by lia) h2)
theorem rn_lost (hN : N.length ≤ 4000) (hY : Y.length ≤ 4000) : ∀ (d a fuel : Nat), a + d = N.length → d < fuel → (∀ j, a ≤ j → occ Y N j = false) →
    whIt (fun σ => pt F σ.O σ.G rnTest) (fun σ => exs FUEL F rnStep σ) fuel (rnS rows N a (some (.str Y)) x5 en) = some (rnS rows N ((N.length + 1 : Nat) : Int) (some (.str Y)) x5 en, .ret .none)
  | _, _, 0, _, h, _ => absurd h (Nat.not_lt_zero _)
  | 0, a, fuel + 1, h, _, hno => by
    cases (show a = N.length from h)
    exact whIt_ret ((rn_test (by lia) (by lia) _).trans (congrArg (fun b => some (!b)) (hno _ (Nat.le_refl _)))) (rn_out (by lia))
  | d + 1, a, fuel + 1, h, hf, hno =>
    (whIt_step ((rn_test (by lia) (by lia) a).trans (congrArg (fun b => some (!b)) (hno a (Nat.le_refl _)))) (rn_step (by lia) a (by lia))).trans
      (rn_lost hN hY d (a + 1) fuel (by lia) (by lia) fun j h1 => hno j (by lia))

theorem rn_iter (hN : N.length ≤ 4000) (hYn : Y ≠ []) (hY : Y.length ≤ 4000) (hen : en.length ≤ 4000) {a k : Nat} (hk : occ Y N k = true) (ha : a ≤ k) (hno : ∀ j, a ≤ j → j < k → occ Y N j = false) :
    exs FUEL F rnBody (rnS rows N a (some (.str Y)) x5 en) = some (rnS rows N ((k + Y.length : Nat) : Int) (some (.str Y)) x5 (en ++ [.int ((k + Y.length : Nat) : Int)]), .next) := by
  have hL : LIM = 1048576 := rfl
  have hlt := occ_len hYn hk
  rw [Int.natCast_add]
  exact exs_next (wh_e (rn_find hN hYn hY hk (k - a) a FUEL (by lia) (by show k - a < 4096; lia) hno)) (exs_next (aug_i (x := k) rfl (len_s (l := Y) rfl (by lia))) (exs_one (app_e (k := 0) (vs := en) rfl rfl rfl (by lia))))
theorem rn_iter_lost (hN : N.length ≤ 4000) (hY : Y.length ≤ 4000) {a : Nat} (ha : a ≤ N.length) (hno : ∀ j, a ≤ j → occ Y N j = false) :
    exs FUEL F rnBody (rnS rows N a (some (.str Y)) x5 en) = some (rnS rows N ((N.length + 1 : Nat) : Int) (some (.str Y)) x5 en, .ret .none) :=
  exs_stop (wh_e (rn_lost hN hY (N.length - a) a FUEL (by lia) (by show N.length - a < 4096; lia) hno)) nofun
end

/-- each end is the next one -/
noncomputable def Chain (N Y : List Nat) : Nat → List Nat → Prop
  | _, [] => True
  | a, e :: r => (∃ k, e = k + Y.length ∧ occ Y N k = true ∧ a ≤ k ∧ ∀ j, a ≤ j → j < k → occ Y N j = false) ∧ Chain N Y e r
noncomputable def lastE (a : Nat) : List Nat → Nat
  | [] => a
  | e :: r => lastE e r

theorem rn_chain {F : PF1} {rows : List (List Nat)} {N Y : List Nat} {x5 : Option PV} (hN : N.length ≤ 4000) (hYn : Y ≠ []) (hY : Y.length ≤ 4000) : ∀ (Es : List Nat) (a : Nat) (x4 : Option PV) (en tail : List PV), Chain N Y a Es → en.length + Es.length ≤ 4000 →
    ∃ y4, frIt 4 (fun σ => exs FUEL F rnBody σ) (tl (List.replicate Es.length Y) ++ tail) (rnS rows N a x4 x5 en) = frIt 4 (fun σ => exs FUEL F rnBody σ) tail (rnS rows N (lastE a Es : Nat) y4 x5 (en ++ nInts Es))
  | [], a, x4, en, tail, _, _ => ⟨x4, by simp [tl, lastE, nInts]⟩
  | e :: r, a, x4, en, tail, hc, hn => by
    obtain ⟨⟨k, rfl, h1, h2, h3⟩, h4⟩ := hc
    simp only [List.length_cons] at hn
    obtain ⟨y4, e4⟩ := rn_chain (F := F) (rows := rows) (x5 := x5) hN hYn hY r (k + Y.length) (some (.str Y)) (en ++ [.int ((k + Y.length : Nat) : Int)]) tail h4 (by simp; lia)
    refine ⟨y4, ?_⟩
    rw [List.append_assoc] at e4
    exact frIt_c (rn_iter hN hYn hY (by lia) h1 h2 h3) e4

theorem chain_mono {N Y : List Nat} {a : Nat} {Es : List Nat} (h : Chain N Y (a + 1) Es) (h0 : Es = [] ∨ occ Y N a = false) : Chain N Y a Es := by
  cases Es with
  | nil => trivial
  | cons e r =>
    obtain ⟨⟨k, h1, h2, h3, h4⟩, h5⟩ := h
    refine ⟨⟨k, h1, h2, by lia, fun j j1 j2 => ?_⟩, h5⟩
    rcases Nat.lt_or_ge a j with q | q
    · exact h4 j q j2
    · have : j = a := by lia
      subst this
      rcases h0 with h0 | h0
      · cases h0
      · exact h0
theorem prefix_append {Y l : List Nat} (t : List Nat) (h : Y.length ≤ l.length) : Y.isPrefixOf (l ++ t) = Y.isPrefixOf l := by
  rw [Bool.eq_iff_iff, List.isPrefixOf_iff_prefix, List.isPrefixOf_iff_prefix]
  constructor
  · intro q; exact List.prefix_of_prefix_length_le q (List.prefix_append _ _) h
  · intro q; exact q.trans (List.prefix_append _ _)
theorem gE_chain {N Y : List Nat} (hY : Y ≠ []) (t : List Nat) : ∀ (l : List Nat) (s p : Nat), N.drop p = l ++ t → Chain N Y (p + s) (gE Y s p l)
  | [], s, p, _ => by cases s <;> exact trivial
  | c :: r, s + 1, p, h => by
    have h' : N.drop (p + 1) = r ++ t := by rw [← List.drop_drop, h]; rfl
    have := gE_chain hY t r s (p + 1) h'
    rw [gE]
    rwa [show p + 1 + s = p + (s + 1) by lia] at this
  | c :: r, 0, p, h => by
    have hp : 0 < Y.length := List.length_pos_iff.mpr hY
    have h' : N.drop (p + 1) = r ++ t := by rw [← List.drop_drop, h]; rfl
    rw [gE]
    by_cases hq : Y.isPrefixOf (c :: r) = true
    · rw [if_pos hq]
      have := gE_chain hY t r (Y.length - 1) (p + 1) h'
      rw [show p + 1 + (Y.length - 1) = p + Y.length by lia] at this
      refine ⟨⟨p, rfl, ?_, Nat.le_refl _, fun j j1 j2 => by lia⟩, this⟩
      unfold occ
      rw [h, prefix_append _ (List.isPrefixOf_iff_prefix.mp hq).length_le]; exact hq
    · rw [if_neg hq]
      refine chain_mono (gE_chain hY t r 0 (p + 1) h') ?_
      cases hE : gE Y 0 (p + 1) r with
      | nil => exact .inl rfl
      | cons e es =>
        refine .inr ?_
        have he : e ∈ gE Y 0 (p + 1) r := by rw [hE]; exact List.mem_cons_self
        have hlo := gE_lo hY r 0 (p + 1) e he
        have hoc := gE_occ hY r 0 (p + 1) e he
        have := occ_len hY hoc
        unfold occ
        rw [Nat.add_zero, h, prefix_append _ (by simp; lia)]
        exact Bool.eq_false_iff.mpr hq
theorem lastE_ge {d : Nat} : ∀ (E : List Nat) (a : Nat), gaps d E → (∀ e ∈ E, a ≤ e) → a ≤ lastE a E ∧ ∀ e ∈ E, e ≤ lastE a E
  | [], a, _, _ => ⟨Nat.le_refl _, by simp⟩
  | e :: r, a, g, h => by
    obtain ⟨h1, h2⟩ := lastE_ge r e g.2 fun x hx => by have := g.1 x hx; lia
    refine ⟨Nat.le_trans (h e List.mem_cons_self) h1, fun x hx => ?_⟩
    rcases List.mem_cons.mp hx with rfl | hx
    · exact h1
    · exact h2 x hx
theorem lastE_mem : ∀ (E : List Nat) (a : Nat), lastE a E = a ∨ lastE a E ∈ E
  | [], a => .inl rfl
  | e :: r, a => by
    rcases lastE_mem r e with h | h
    · exact .inr (by rw [lastE, h]; exact List.mem_cons_self)
    · exact .inr (by rw [lastE]; exact List.mem_cons_of_mem _ h)
end Mine

namespace Mine

theorem frIt_r {i : Nat} {body : St → Option (St × PF)} {v w : PV} {r : List PV} {σ σ' : St} (h : body (σ.put i v) = some (σ', .ret w)) : frIt i body (v :: r) σ = some (σ', .ret w) := bind_eq h rfl
theorem itF_l {F : PF1} {O : Owns} {G : Slots} {e : PE} {l : List PV} (h : ev F O G e = some (.list l)) (hl : l.length ≤ LIM) : evIF F O G (.val e) = some l := bind_eq h (bind_eq rfl (if_pos hl))
theorem asg2_e {n : Nat} {F : PF1} {i j : Nat} {e : PE} {σ : St} {v : PV} (h : ev F σ.O σ.G e = some v) : ex n F (.asg2 i j e) σ = some ((σ.put i v).new j [], .next) := map_eq h
theorem ge1 {O : Owns} {i j : Int} (h : j ≤ i) : pcmp O .ge (.int i) (.int j) = some true := congrArg some (decide_eq_true h)
/-- the function around the loop -/
theorem run_frame {T : List (String × DefE)} (S : Std2 T) (n : Nat) {r0 rl N : List Nat} {mid : List (List Nat)} {r : PV} (hN : N.length ≤ 4000) (h0 : N.take r0.length = r0) (hr0 : r0.length ≤ 4000) (hml : mid.length ≤ 4000) (hrn : noOwn r = true)
    (hloop : (∃ σ' v, frIt 4 (fun σ => exs FUEL (runF T n) rnBody σ) (tl mid) (rnS (r0 :: (mid ++ [rl])) N r0.length none none []) = some (σ', .ret v) ∧ r = v) ∨
      (∃ (b : Nat) (x4 : Option PV) (E : List Nat), frIt 4 (fun σ => exs FUEL (runF T n) rnBody σ) (tl mid) (rnS (r0 :: (mid ++ [rl])) N r0.length none none []) = some (rnS (r0 :: (mid ++ [rl])) N b x4 none (nInts E), .next) ∧
        r = if b + rl.length ≤ N.length ∧ N.drop (N.length - rl.length) = rl then .list (nInts E) else .none)) (hrl : rl.length ≤ N.length) :
    runF T (n + 1) "_law_run" [.list (tl (r0 :: (mid ++ [rl]))), .str N] = some r := by
  have hL : LIM = 1048576 := rfl
  rw [run_eq S.run (by decide) (by decide +kernel) (by decide +kernel) rfl]
  have hRl : (r0 :: (mid ++ [rl])).length = mid.length + 2 := by rw [List.length_cons, List.length_append]; rfl
  have pl : pidx (r0 :: (mid ++ [rl])) (-1) = some rl := pidx_last1 (r0 :: mid) rl
  have pm : pslice (r0 :: (mid ++ [rl])) (some 1) (some (-1)) = mid := pslice_inner1 r0 mid rl
  have p0 : pidx (r0 :: (mid ++ [rl])) 0 = some r0 := pidx_off0 (k := 0)
  generalize r0 :: (mid ++ [rl]) = R at *
  have hNL : N.length ≤ LIM := by lia
  have s0 : pslice N none (some (r0.length : Int)) = r0 := by rw [pslice_to _ r0.length rfl, h0]
  have v0 : ∀ {O : Owns} {G : Slots}, G[0]? = some (some (.list (tl R))) → ev (runF T n) O G (.idx (.var 0) (.ci 0)) = some (.str r0) := fun h => idx_tl (ls := R) (ev_var h) rfl (by decide) p0
  have vl : ∀ {O : Owns} {G : Slots}, G[0]? = some (some (.list (tl R))) → ev (runF T n) O G (.idx (.var 0) (.ci (-1))) = some (.str rl) := fun h => idx_tl (ls := R) (ev_var h) rfl (by decide) pl
  have first : ∀ {q : PSs} {X : Option (St × PF)}, exs FUEL (runF T n) q (rnS R N r0.length none none []) = X → exs FUEL (runF T n) (.cons (.asg2 2 3 (.bi .len (.cons (.idx (.var 0) (.ci 0)) .nil))) (.cons (.ite (.cmp .ne (.sl (.var 1) .cn (.var 2)) (.idx (.var 0) (.ci 0))) (.cons (.ret .cn) .nil) .nil) q))
      ⟨[PV.list (tl R), .str N].map some ++ List.replicate (7 - 2) none, []⟩ = X := fun h =>
    exs_next (σ' := rnS R N r0.length none none []) (asg2_e (len_s (v0 rfl) (by lia))) (exs_next (ite_f (cmp_t (sl_s (l := N) rfl rfl (y := .int r0.length) rfl rfl rfl hNL s0) (v0 rfl) (congrArg (fun b => some (!b)) (beq_self_eq_true r0))) rfl) h)
  have hi : evIF (runF T n) (rnS R N r0.length none none []).O (rnS R N r0.length none none []).G (.val (.sl (.var 0) (.ci 1) (.ci (-1)))) = some (tl mid) := itF_l (sl_tl (ls := R) rfl rfl rfl rfl rfl (by lia) pm) (by rw [tl_len]; lia)
  rcases hloop with ⟨σ', v, hl, rfl⟩ | ⟨b, x4, E, hl, hr⟩
  · exact pfun_ret (σ := σ') (first (exs_stop (fr_e hi hl) nofun)) hrn
  have hno := noOwn_nats E
  have q : (N.length : Int) - (rl.length : Int) = ((N.length - rl.length : Nat) : Int) := by lia
  have s1 : pslice N (some ((N.length - rl.length : Nat) : Int)) none = N.drop (N.length - rl.length) := pslice_from _ _ rfl
  have g0 : ((rnS R N b x4 (some (.int ((N.length - rl.length : Nat) : Int))) (nInts E)).G.map fun v => v.bind (frzN (rnS R N b x4 (some (.int ((N.length - rl.length : Nat) : Int))) (nInts E)).O))[0]? = some (some (.list (tl R))) := congrArg some (frz_ok (v := .list (tl R)) rfl (noOwn_tl R))
  refine pfun_ret (σ := rnS R N b x4 (some (.int ((N.length - rl.length : Nat) : Int))) (nInts E)) (first (exs_next (fr_e hi hl) (exs_next (asg_e (v := .int ((N.length - rl.length : Nat) : Int)) ((bin_e (len_s (l := N) rfl hNL) (len_s (vl rfl) (by lia)) psubI).trans (by rw [q]))) (exs_stop (ret_e ?_) nofun)))) hrn
  by_cases hb : b + rl.length ≤ N.length
  · have d1 := fun O => ge1 (O := O) (i := ((N.length - rl.length : Nat) : Int)) (j := b) (by lia)
    have e1 := fun O => sl_s (F := runF T n) (O := O) (G := (rnS R N b x4 (some (.int ((N.length - rl.length : Nat) : Int))) (nInts E)).G.map fun v => v.bind (frzN (rnS R N b x4 (some (.int ((N.length - rl.length : Nat) : Int))) (nInts E)).O)) (a := .var 1) (lo := .var 5) (hi := .cn) (l := N) rfl (x := .int ((N.length - rl.length : Nat) : Int)) rfl rfl rfl rfl hNL s1
    by_cases hd : N.drop (N.length - rl.length) = rl
    · rw [hr, if_pos ⟨hb, hd⟩]
      exact ite_et (and2_t (cmp_t (x := .int ((N.length - rl.length : Nat) : Int)) (y := .int b) rfl rfl (d1 _)) (cmp_t (e1 _) (vl g0) (congrArg some (beq_iff_eq.mpr hd)))) (ev_var (congrArg some (frz_own (k := 0) rfl hno)))
    · rw [hr, if_neg (fun q => hd q.2)]
      exact ite_ef (and2_t (cmp_t (x := .int ((N.length - rl.length : Nat) : Int)) (y := .int b) rfl rfl (d1 _)) (cmp_t (e1 _) (vl g0) (congrArg some (beq_eq_false_iff_ne.mpr hd)))) rfl
  · rw [hr, if_neg (fun q => hb q.1)]
    exact ite_ef (and2_f (cmp_t (x := .int ((N.length - rl.length : Nat) : Int)) (y := .int b) rfl rfl (ge0 (by lia)))) rfl

section
variable {T : List (String × DefE)} {X Y : List Nat}
theorem last_all (hY : Y ≠ []) : (∀ e ∈ fin Y X, e ≤ lastE 0 (fin Y X)) ∧ lastE 0 (fin Y X) ≤ X.length := by
  refine ⟨(lastE_ge _ 0 (fin_gaps hY) fun _ _ => Nat.zero_le _).2, ?_⟩
  rcases lastE_mem (fin Y X) 0 with h | h
  · rw [h]; exact Nat.zero_le _
  · exact fin_hi hY h
theorem no_more (hY : Y ≠ []) : ∀ j, lastE 0 (fin Y X) ≤ j → occ Y X j = false := by
  intro j hj
  cases h : occ Y X j with
  | false => rfl
  | true =>
    obtain ⟨e, he, h1, h2⟩ := fin_next hY h
    have := (last_all (X := X) hY).1 e he
    lia
theorem fin_len (hY : Y ≠ []) : (fin Y X).length ≤ X.length := by
  have : ∀ (l : List Nat) (s p : Nat), (gE Y s p l).length ≤ l.length := by
    intro l
    induction l with
    | nil => intro s p; cases s <;> simp [gE]
    | cons c r ih =>
      intro s p
      cases s with
      | zero =>
        rw [gE]; split
        · have := ih (Y.length - 1) (p + 1); simp; lia
        · have := ih 0 (p + 1); simp; lia
      | succ s => rw [gE]; have := ih s (p + 1); simp; lia
  exact this X 0 0
theorem free0 (S : Std2 T) (n : Nat) (hY : Y ≠ []) (hX : X.length ≤ 1000) (hYl : Y.length ≤ 1000) :
    runF T (n + 1) "_law_run" [.list (tl ([] :: (List.replicate (fin Y X).length Y ++ [[]]))), .str X] = some (.list (nInts (fin Y X))) := by
  have hfl := fin_len (X := X) hY
  have hc : Chain X Y 0 (fin Y X) := gE_chain hY [] X 0 0 (by simp)
  obtain ⟨y4, e⟩ := rn_chain (F := runF T n) (rows := [] :: (List.replicate (fin Y X).length Y ++ [[]])) (x5 := none) (N := X) (by lia) hY (by lia) (fin Y X) 0 none [] [] hc (by simp; lia)
  rw [List.append_nil] at e
  refine run_frame S n (r0 := []) (rl := []) (mid := List.replicate (fin Y X).length Y) (by lia) rfl (by simp) (by simp; lia) (noOwn_nats _) (.inr ⟨lastE 0 (fin Y X), y4, fin Y X, e, ?_⟩) (by simp)
  rw [if_pos]
  have := (last_all (X := X) hY).2
  exact ⟨by simpa using this, by simp⟩
theorem free1 (S : Std2 T) (n : Nat) (hY : Y ≠ []) (hX : X.length ≤ 1000) (hYl : Y.length ≤ 1000) :
    runF T (n + 1) "_law_run" [.list (tl ([] :: (List.replicate ((fin Y X).length + 1) Y ++ [[]]))), .str X] = some .none := by
  have hfl := fin_len (X := X) hY
  have hc : Chain X Y 0 (fin Y X) := gE_chain hY [] X 0 0 (by simp)
  obtain ⟨y4, e⟩ := rn_chain (F := runF T n) (rows := [] :: (List.replicate ((fin Y X).length + 1) Y ++ [[]])) (x5 := none) (N := X) (by lia) hY (by lia) (fin Y X) 0 none [] [.str Y] hc (by simp; lia)
  have ha := (last_all (X := X) hY).2
  have hz := rn_iter_lost (F := runF T n) (rows := [] :: (List.replicate ((fin Y X).length + 1) Y ++ [[]])) (x5 := none) (en := [] ++ nInts (fin Y X)) (N := X) (Y := Y) (by lia) (by lia) ha (no_more hY)
  have hfin : frIt 4 (fun σ => exs FUEL (runF T n) rnBody σ) (tl (List.replicate ((fin Y X).length + 1) Y)) (rnS ([] :: (List.replicate ((fin Y X).length + 1) Y ++ [[]])) X (0 : Nat) none none []) =
      some (rnS ([] :: (List.replicate ((fin Y X).length + 1) Y ++ [[]])) X ((X.length + 1 : Nat) : Int) (some (.str Y)) none ([] ++ nInts (fin Y X)), .ret .none) := by
    rw [show tl (List.replicate ((fin Y X).length + 1) Y) = tl (List.replicate (fin Y X).length Y) ++ [.str Y] by rw [List.replicate_succ']; simp [tl]]
    exact e.trans (frIt_r hz)
  exact run_frame S n (r0 := []) (rl := []) (mid := List.replicate ((fin Y X).length + 1) Y) (by lia) rfl (by simp) (by simp; lia) rfl (.inl ⟨_, _, hfin, rfl⟩) (by simp)

theorem bound_chain (hY : Y ≠ []) : Chain (Y ++ X ++ Y) Y Y.length ((fin Y X).map (· + Y.length)) := by
  have h := gE_chain (N := Y ++ X ++ Y) hY Y X 0 Y.length (by rw [List.append_assoc]; exact List.drop_left' rfl)
  have e : ∀ (l : List Nat) (s p q : Nat), gE Y s (p + q) l = (gE Y s p l).map (· + q) := by
    intro l
    induction l with
    | nil => intro s p q; cases s <;> simp [gE]
    | cons c r ih =>
      intro s p q
      cases s with
      | zero =>
        rw [gE, gE]
        split
        · rw [List.map_cons, ← ih, show p + q + 1 = p + 1 + q by lia, show p + q + Y.length = p + Y.length + q by lia]
        · rw [← ih, show p + q + 1 = p + 1 + q by lia]
      | succ s => rw [gE, gE, ← ih, show p + q + 1 = p + 1 + q by lia]
  have e2 := e X 0 0 Y.length
  rw [Nat.zero_add] at e2
  rw [e2] at h
  exact h
theorem lastE_map (q : Nat) : ∀ (E : List Nat) (a : Nat), lastE (a + q) (E.map (· + q)) = lastE a E + q
  | [], a => rfl
  | e :: r, a => by rw [List.map_cons, lastE, lastE, lastE_map q r e]
theorem bound0 (S : Std2 T) (n : Nat) (hY : Y ≠ []) (hX : X.length ≤ 1000) (hYl : Y.length ≤ 1000) :
    runF T (n + 1) "_law_run" [.list (tl (Y :: (List.replicate (fin Y X).length Y ++ [Y]))), .str (Y ++ X ++ Y)] = some (.list (nInts ((fin Y X).map (· + Y.length)))) := by
  have hfl := fin_len (X := X) hY
  have hNl : (Y ++ X ++ Y).length = Y.length + X.length + Y.length := by simp; lia
  obtain ⟨y4, e⟩ := rn_chain (F := runF T n) (rows := Y :: (List.replicate (fin Y X).length Y ++ [Y])) (x5 := none) (N := Y ++ X ++ Y) (by lia) hY (by lia) ((fin Y X).map (· + Y.length)) Y.length none [] [] (bound_chain hY) (by simp; lia)
  rw [List.append_nil, List.length_map] at e
  have hlast : lastE Y.length ((fin Y X).map (· + Y.length)) = lastE 0 (fin Y X) + Y.length := by
    have := lastE_map Y.length (fin Y X) 0
    rwa [Nat.zero_add] at this
  refine run_frame S n (r0 := Y) (rl := Y) (mid := List.replicate (fin Y X).length Y) (by lia) (by rw [List.append_assoc]; exact List.take_left' rfl) (by lia) (by simp; lia) (noOwn_nats _) (.inr ⟨_, y4, (fin Y X).map (· + Y.length), e, ?_⟩) (by lia)
  rw [if_pos]
  have := (last_all (X := X) hY).2
  rw [hlast, hNl]
  refine ⟨by lia, ?_⟩
  rw [show Y.length + X.length + Y.length - Y.length = (Y ++ X).length by simp]
  exact List.drop_left' rfl
theorem first_occ {N Y : List Nat} {a b : Nat} (hab : a ≤ b) (hb : occ Y N b = true) : ∃ k, a ≤ k ∧ k ≤ b ∧ occ Y N k = true ∧ ∀ j, a ≤ j → j < k → occ Y N j = false := by
  obtain ⟨d, rfl⟩ : ∃ d, b = a + d := ⟨b - a, by lia⟩
  clear hab
  induction d generalizing a with
  | zero => exact ⟨a, Nat.le_refl _, Nat.le_refl _, hb, fun j h1 h2 => by lia⟩
  | succ d ih =>
    cases h : occ Y N a with
    | true => exact ⟨a, Nat.le_refl _, by lia, h, fun j h1 h2 => by lia⟩
    | false =>
      obtain ⟨k, h1, h2, h3, h4⟩ := ih (a := a + 1) (by rwa [show a + 1 + d = a + (d + 1) by lia])
      refine ⟨k, by lia, by lia, h3, fun j j1 j2 => ?_⟩
      rcases Nat.lt_or_ge a j with q | q
      · exact h4 j q j2
      · have : j = a := by lia
        subst this; exact h
theorem bound1 (S : Std2 T) (n : Nat) (hY : Y ≠ []) (hX : X.length ≤ 1000) (hYl : Y.length ≤ 1000) :
    runF T (n + 1) "_law_run" [.list (tl (Y :: (List.replicate ((fin Y X).length + 1) Y ++ [Y]))), .str (Y ++ X ++ Y)] = some .none := by
  have hfl := fin_len (X := X) hY
  have hNl : (Y ++ X ++ Y).length = Y.length + X.length + Y.length := by simp; lia
  obtain ⟨y4, e⟩ := rn_chain (F := runF T n) (rows := Y :: (List.replicate ((fin Y X).length + 1) Y ++ [Y])) (x5 := none) (N := Y ++ X ++ Y) (by lia) hY (by lia) ((fin Y X).map (· + Y.length)) Y.length none [] [.str Y] (bound_chain hY) (by simp; lia)
  rw [List.length_map] at e
  have hlast : lastE Y.length ((fin Y X).map (· + Y.length)) = lastE 0 (fin Y X) + Y.length := by
    have := lastE_map Y.length (fin Y X) 0
    rwa [Nat.zero_add] at this
  have hle := (last_all (X := X) hY).2
  have hend : occ Y (Y ++ X ++ Y) (Y.length + X.length) = true := by
    rw [occ_iff, show Y.length + X.length = (Y ++ X).length by simp, List.drop_left' rfl, List.take_length]
  obtain ⟨k, k1, k2, k3, k4⟩ := first_occ (a := lastE 0 (fin Y X) + Y.length) (by lia) hend
  have hk : X.length < k := by
    rcases Nat.lt_or_ge X.length k with h | h
    · exact h
    · exfalso
      have : occ Y X (k - Y.length) = true := by
        rw [occ_iff] at k3 ⊢
        have e1 : (Y ++ X ++ Y).drop k = (X ++ Y).drop (k - Y.length) := by
          rw [List.append_assoc, List.drop_append, List.drop_eq_nil_of_le (by lia), List.nil_append]
        rw [e1, List.drop_append, List.take_append_of_le_length] at k3
        · exact k3
        · simp; lia
      have := no_more (X := X) hY (k - Y.length) (by lia)
      simp_all
  have hz := rn_iter (F := runF T n) (rows := Y :: (List.replicate ((fin Y X).length + 1) Y ++ [Y])) (x5 := none) (en := [] ++ nInts ((fin Y X).map (· + Y.length))) (N := Y ++ X ++ Y) (Y := Y) (by lia) hY (by lia) (by simp [nInts]; lia) k3 k1 k4
  refine run_frame S n (r0 := Y) (rl := Y) (mid := List.replicate ((fin Y X).length + 1) Y) (by lia) (by rw [List.append_assoc]; exact List.take_left' rfl) (by lia) (by simp; lia) rfl (.inr ⟨k + Y.length, some (.str Y), (fin Y X).map (· + Y.length) ++ [k + Y.length], ?_, ?_⟩) (by lia)
  · rw [show tl (List.replicate ((fin Y X).length + 1) Y) = tl (List.replicate (fin Y X).length Y) ++ [.str Y] by rw [List.replicate_succ']; simp [tl]]
    rw [e, hlast]
    exact frIt_c hz (by rw [List.nil_append]; show some (_, PF.next) = _; unfold nInts; rw [List.map_append]; rfl)
  · rw [if_neg]
    rw [hNl]; lia
end
end Mine

namespace Mine

noncomputable def starToks (Y : List Nat) (m : Nat) : List Tk := .star :: (List.replicate m (Y.map tkOf ++ [Tk.star])).flatten
noncomputable def starPat (Y : List Nat) (m : Nat) : List Nat := [42] ++ (List.replicate m (patOf (Y.map tkOf) ++ [42])).flatten
theorem starPat_eq (Y : List Nat) : ∀ m, patOf (starToks Y m) = starPat Y m := by
  intro m
  have : ∀ k, patOf ((List.replicate k (Y.map tkOf ++ [Tk.star])).flatten) = (List.replicate k (patOf (Y.map tkOf) ++ [42])).flatten := by
    intro k
    induction k with
    | zero => rfl
    | succ k ih => rw [List.replicate_succ, List.flatten_cons, patOf_append, patOf_append, ih, List.replicate_succ, List.flatten_cons]; rfl
  show patOf ([Tk.star] ++ _) = _
  rw [patOf_append, this]; rfl
theorem add_star_str {res : List PV} {l : List Nat} : addTk (res ++ [.str l]) .star = res ++ [.str l] ++ [.star] := by
  simp only [addTk, List.getLast?_concat]
theorem add_star_texts {res : List PV} {Y : List Nat} (hY : Y ≠ []) : addTk (res ++ (Y.map enc).map PV.str) .star = res ++ (Y.map enc).map PV.str ++ [.star] := by
  have e : Y = Y.dropLast ++ [Y.getLast hY] := (List.dropLast_concat_getLast hY).symm
  rw [e]
  simp only [List.map_append, List.map_cons, List.map_nil, ← List.append_assoc]
  exact add_star_str
theorem fold_stars {Y : List Nat} (hY : Y ≠ []) : ∀ (m : Nat) (res : List PV), ((List.replicate m (Y.map tkOf ++ [Tk.star])).flatten).foldl addTk (res ++ [.star]) = res ++ segsPV (List.replicate m (Y.map enc)) ++ [.star]
  | 0, res => by simp [segsPV]
  | m + 1, res => by
    rw [List.replicate_succ, List.flatten_cons, List.foldl_append, List.foldl_append, foldl_tk, List.foldl_cons, List.foldl_nil, add_star_texts hY]
    have e : res ++ [PV.star] ++ (Y.map enc).map PV.str = res ++ segPV (Y.map enc) := by simp [segPV]
    rw [e, fold_stars hY m (res ++ segPV (Y.map enc)), List.replicate_succ]
    simp [segsPV]
theorem stars_ok (Y : List Nat) (m : Nat) : ∀ t ∈ starToks Y m, t.ok = true := by
  intro t ht
  rcases List.mem_cons.mp ht with rfl | ht
  · rfl
  · obtain ⟨l, hl, ht⟩ := List.mem_flatten.mp ht
    rw [(List.mem_replicate.mp hl).2] at ht
    rcases List.mem_append.mp ht with ht | ht
    · obtain ⟨c, _, rfl⟩ := List.mem_map.mp ht; exact tkOf_ok c
    · rw [List.mem_singleton.mp ht]; rfl
theorem stars_parts {Y : List Nat} (hY : Y ≠ []) (m : Nat) : (starToks Y m).foldl addTk [] = partsPV [] (List.replicate m (Y.map enc) ++ [[]]) := by
  rw [starToks, List.foldl_cons, show addTk [] .star = [] ++ [PV.star] from rfl, fold_stars hY]
  simp [partsPV, segsPV, segPV]
theorem bound_parts {Y : List Nat} (hY : Y ≠ []) (m : Nat) : (Y.map tkOf ++ starToks Y m ++ Y.map tkOf).foldl addTk [] = partsPV (Y.map enc) (List.replicate m (Y.map enc) ++ [Y.map enc]) := by
  rw [List.foldl_append, List.foldl_append, foldl_tk, starToks, List.foldl_cons, foldl_tk, add_star_texts hY, fold_stars hY]
  simp [partsPV, segsPV, segPV]
theorem segs_ok {Y : List Nat} (hY : Y ≠ []) (s : List (List Nat)) : ∀ m, segOk (List.replicate m (Y.map enc) ++ [s])
  | 0 => trivial
  | m + 1 => by
    rw [List.replicate_succ, List.cons_append]
    cases hq : List.replicate m (Y.map enc) ++ [s] with
    | nil => trivial
    | cons a r => exact ⟨by simpa using hY, hq ▸ segs_ok hY s m⟩
theorem segs_out {Y : List Nat} (s : List (List Nat)) : ∀ m, (segOut (List.replicate m (Y.map enc) ++ [s])).flatten = (List.replicate m (atomE Y)).flatten ++ [46, 42] ++ s.flatten
  | 0 => by
    simp only [List.replicate_zero, List.nil_append, segOut]
    split
    · rename_i h; subst h; rfl
    · simp
  | m + 1 => by
    rw [List.replicate_succ, List.cons_append]
    have e : segOut (Y.map enc :: (List.replicate m (Y.map enc) ++ [s])) = atomT (Y.map enc) :: segOut (List.replicate m (Y.map enc) ++ [s]) := by
      cases hq : List.replicate m (Y.map enc) ++ [s] with
      | nil => simp at hq
      | cons a r => rfl
    rw [e, List.flatten_cons, segs_out s m, List.replicate_succ, List.flatten_cons]
    simp [atomT, atomE, S1, encs]

section
variable {T : List (String × DefE)} {Y : List Nat}
theorem rep_len {α : Type} (l : List α) : ∀ m : Nat, ((List.replicate m l).flatten).length = m * l.length
  | 0 => by simp
  | m + 1 => by rw [List.replicate_succ, List.flatten_cons, List.length_append, rep_len l m, Nat.add_mul]; lia
theorem segsPV_len (Y : List Nat) (s : List (List Nat)) (m : Nat) : (segsPV (List.replicate m (Y.map enc) ++ [s])).length = m * (Y.length + 1) + (s.length + 1) := by
  have : segsPV (List.replicate m (Y.map enc) ++ [s]) = (List.replicate m (segPV (Y.map enc))).flatten ++ segPV s := by simp [segsPV]
  rw [this, List.length_append, rep_len]
  simp [segPV]
theorem atoms_len (Y : List Nat) (m : Nat) (hY : Y.length ≤ 4) (hm : m ≤ 20) : ((List.replicate m (atomE Y)).flatten).length ≤ 600 := by
  have := encs_len Y
  have h2 : (atomE Y).length ≤ 23 := by
    show (S1 ++ encs Y ++ [41]).length ≤ 23
    rw [List.length_append, List.length_append]
    show 6 + ((Y.map enc).flatten).length + 1 ≤ 23
    lia
  rw [rep_len]
  have := Nat.mul_le_mul hm h2
  lia
theorem star_trans (S : Std T) (n : Nat) (hY : Y ≠ []) (hYl : Y.length ≤ 4) {m : Nat} (hm : m ≤ 20) :
    runF T (n + 3) "translate" [.str (starPat Y m)] = some (.str ([40, 63, 115, 58] ++ inner [] Y [] m ++ [41, 92, 90])) := by
  have hp := pats_len Y
  have hb : m * (Y.length + 1) ≤ 100 := by have := Nat.mul_le_mul hm (show Y.length + 1 ≤ 5 by lia); lia
  have he := encs_len Y
  have ha := atoms_len Y m hYl hm
  have hlt : (starToks Y m).length = 1 + m * (Y.length + 1) := by rw [starToks, List.length_cons, rep_len]; simp; lia
  have hlp : (starPat Y m).length ≤ 1000 := by
    rw [starPat, List.length_append, rep_len]
    have : (patOf (Y.map tkOf) ++ [42]).length ≤ 13 := by simp; lia
    have := Nat.mul_le_mul hm this
    simp only [List.length_cons, List.length_nil]; lia
  have := translate_run S n (ts := starToks Y m) (stars_ok Y m) (by lia) (by rw [starPat_eq]; lia) (stars_parts hY m) (segs_ok hY [] m) (by rw [partsPV, List.length_append, segsPV_len]; simp; lia) (by rw [segs_out]; simp only [List.length_append, List.flatten_nil, List.length_nil, List.length_cons]; lia) (fun s hs => by
    rcases List.mem_append.mp hs with hs | hs
    · rw [(List.mem_replicate.mp hs).2]; lia
    · rw [List.mem_singleton.mp hs]; simp)
  rw [starPat_eq] at this
  rw [this, joinT, segs_out]
  simp [inner, encs]
theorem bound_trans (S : Std T) (n : Nat) (hY : Y ≠ []) (hYl : Y.length ≤ 4) {m : Nat} (hm : m ≤ 20) :
    runF T (n + 3) "translate" [.str (patOf (Y.map tkOf) ++ starPat Y m ++ patOf (Y.map tkOf))] = some (.str ([40, 63, 115, 58] ++ inner Y Y Y m ++ [41, 92, 90])) := by
  have hp := pats_len Y
  have hb : m * (Y.length + 1) ≤ 100 := by have := Nat.mul_le_mul hm (show Y.length + 1 ≤ 5 by lia); lia
  have he := encs_len Y
  have ha := atoms_len Y m hYl hm
  have hlt : (starToks Y m).length = 1 + m * (Y.length + 1) := by rw [starToks, List.length_cons, rep_len]; simp; lia
  have hlp : (starPat Y m).length ≤ 1000 := by
    rw [starPat, List.length_append, rep_len]
    have : (patOf (Y.map tkOf) ++ [42]).length ≤ 13 := by simp; lia
    have := Nat.mul_le_mul hm this
    simp only [List.length_cons, List.length_nil]; lia
  have hpe : patOf (Y.map tkOf ++ starToks Y m ++ Y.map tkOf) = patOf (Y.map tkOf) ++ starPat Y m ++ patOf (Y.map tkOf) := by rw [patOf_append, patOf_append, starPat_eq]
  have := translate_run S n (ts := Y.map tkOf ++ starToks Y m ++ Y.map tkOf) (fun t ht => by
      rcases List.mem_append.mp ht with ht | ht
      · rcases List.mem_append.mp ht with ht | ht
        · obtain ⟨c, _, rfl⟩ := List.mem_map.mp ht; exact tkOf_ok c
        · exact stars_ok Y m t ht
      · obtain ⟨c, _, rfl⟩ := List.mem_map.mp ht; exact tkOf_ok c) (by simp; lia) (by rw [hpe]; simp; lia) (bound_parts hY m) (segs_ok hY _ m) (by rw [partsPV, List.length_append, segsPV_len]; simp; lia) (by rw [segs_out]; simp only [List.length_append, List.length_cons, List.length_nil]; lia) (fun s hs => by
    rcases List.mem_append.mp hs with hs | hs
    · rw [(List.mem_replicate.mp hs).2]; lia
    · rw [List.mem_singleton.mp hs]; lia)
  rw [hpe] at this
  rw [this, joinT, segs_out]
  simp [inner, encs]
end
end Mine

namespace Mine

theorem mapO_filter {α : Type} {f : PV → Option (Option PV)} {c : α → PV} {g : α → PV} {p : α → Bool} {l : List α} (h : ∀ x ∈ l, f (c x) = some (if p x then some (g x) else none)) : mapO f (l.map c) = some ((l.filter p).map g) := by
  induction l with
  | nil => rfl
  | cons x r ih =>
    rw [List.map_cons, mapO, h x List.mem_cons_self, List.filter_cons]
    cases p x
    · simp only [Bool.false_eq_true, if_false]
      exact ih fun y hy => h y (List.mem_cons_of_mem _ hy)
    · simp only [if_true]
      rw [ih fun y hy => h y (List.mem_cons_of_mem _ hy)]
      rfl
theorem okD_nats (n : Nat) : ∀ E : List Nat, okDs n (nInts E) = true
  | [] => by cases n <;> rfl
  | e :: E => by
    have := okD_nats n E
    unfold nInts at this ⊢
    rw [List.map_cons, okDs, this]
    cases n <;> rfl
theorem pveq_nats : ∀ E : List Nat, pveqL (nInts E) (nInts E) = true
  | [] => rfl
  | e :: E => Bool.and_eq_true_iff.mpr ⟨beq_self_eq_true (e : Int), pveq_nats E⟩
theorem peq_nats {O : Owns} (E : List Nat) : peq O (.list (nInts E)) (.list (nInts E)) = some true := by
  have h1 : okD 8 (.list (nInts E)) = true := Bool.and_eq_true_iff.mpr ⟨rfl, okD_nats 7 E⟩
  have h2 : pveq (.list (nInts E)) (.list (nInts E)) = true := pveq_nats E
  show peqD O _ _ = some true
  exact (if_pos (Bool.and_eq_true_iff.mpr ⟨h1, h1⟩)).trans (congrArg some h2)

/-! the text -/
noncomputable def lt6 (x : Nat) : Nat := A6.getD (x % 6) 0
theorem lt6_mem (x : Nat) : lt6 x ∈ A6 := by
  have : x % 6 < 6 := Nat.mod_lt _ (by decide)
  unfold lt6
  generalize x % 6 = q at this
  have h : ∀ q, q < 6 → A6.getD q 0 ∈ A6 := by decide
  exact h q this
noncomputable def bs2 (ns : List Nat) : List Nat := ((ns.take 3).map fun x => List.replicate (1 + x / 6 % 2) (lt6 x)).flatten
noncomputable def tx2 (ns : List Nat) : List Nat := (bs2 ns ++ bs2 ns ++ bs2 ns).take 8 ++ ((ns.drop 3).filter fun x => x / 6 % 2 == 0).map lt6
noncomputable def so2 (ns : List Nat) (tot : Nat) : List Nat := ((tx2 ns).take (tot % 8 + 1 + tot / 8 % 4)).drop (tot % 8)
theorem bs2_mem (ns : List Nat) : ∀ c ∈ bs2 ns, c ∈ A6 := by
  intro c hc
  obtain ⟨l, hl, hc⟩ := List.mem_flatten.mp hc
  obtain ⟨x, _, rfl⟩ := List.mem_map.mp hl
  rw [(List.mem_replicate.mp hc).2]; exact lt6_mem x
theorem tx2_mem (ns : List Nat) : ∀ c ∈ tx2 ns, c ∈ A6 := by
  intro c hc
  rcases List.mem_append.mp hc with hc | hc
  · have := List.mem_of_mem_take hc
    rcases List.mem_append.mp this with h | h
    · rcases List.mem_append.mp h with h | h
      · exact bs2_mem ns c h
      · exact bs2_mem ns c h
    · exact bs2_mem ns c h
  · obtain ⟨x, _, rfl⟩ := List.mem_map.mp hc; exact lt6_mem x
theorem so2_mem (ns : List Nat) (tot : Nat) : ∀ c ∈ so2 ns tot, c ∈ A6 := fun c hc => tx2_mem ns c (List.mem_of_mem_take (List.mem_of_mem_drop hc))
theorem bs2_len {ns : List Nat} (h : ns.length = 6) : 3 ≤ (bs2 ns).length ∧ (bs2 ns).length ≤ 6 := by
  obtain ⟨a, b, c, d, e, f, rfl⟩ : ∃ a b c d e f, ns = [a, b, c, d, e, f] := by
    match ns, h with
    | [a, b, c, d, e, f], _ => exact ⟨a, b, c, d, e, f, rfl⟩
  simp [bs2]
  lia
theorem tx2_len {ns : List Nat} (h : ns.length = 6) : 8 ≤ (tx2 ns).length ∧ (tx2 ns).length ≤ 11 := by
  have h1 := bs2_len h
  have h2 := List.length_filter_le (fun x => x / 6 % 2 == 0) (ns.drop 3)
  unfold tx2
  rw [List.length_append, List.length_take, List.length_append, List.length_append, List.length_map]
  rw [List.length_drop] at h2
  lia
theorem so2_len {ns : List Nat} (tot : Nat) (h : ns.length = 6) : so2 ns tot ≠ [] ∧ (so2 ns tot).length ≤ 4 := by
  have h1 := tx2_len h
  have h2 : tot % 8 < 8 := Nat.mod_lt _ (by decide)
  have h3 : tot / 8 % 4 < 4 := Nat.mod_lt _ (by decide)
  have hl : (so2 ns tot).length = min (tot % 8 + 1 + tot / 8 % 4) (tx2 ns).length - tot % 8 := by unfold so2; rw [List.length_drop, List.length_take]
  refine ⟨fun e => ?_, by lia⟩
  rw [e] at hl
  simp only [List.length_nil] at hl
  lia

noncomputable def l2Body : PSs := frBody p2_law
noncomputable def l2S (g0 g1 g2 g3 g5 g7 : Option PV) (X Y : List Nat) (x9 x10 x11 x12 x13 : Option PV) : St := ⟨[g0, g1, g2, g3, some (.str X), g5, some (.str Y), g7, some (.list (nInts (fin Y X))), x9, x10, x11, x12, x13, none, none, none, none, none, none, none, none, none, none], []⟩

section
variable {T : List (String × DefE)} {g0 g1 g2 g3 g5 g7 x11 x12 x13 : Option PV} {X Y : List Nat}
theorem l2_body (S : Std2 T) (n : Nat) (hX : ∀ c ∈ X, c ∈ A6) (hYm : ∀ c ∈ Y, c ∈ A6) (hY : Y ≠ []) (hXl : X.length ≤ 11) (hYl : Y.length ≤ 4) (hf : 0 < (fin Y X).length) {q : Nat} (hq : q = 0 ∨ q = 1) :
    ∃ y11 y12 y13, exs FUEL (runF T (n + 3)) l2Body (l2S g0 g1 g2 g3 g5 g7 X Y (some (.str (patOf (Y.map tkOf)))) (some (.int q)) x11 x12 x13) =
      some (l2S g0 g1 g2 g3 g5 g7 X Y (some (.str (patOf (Y.map tkOf)))) (some (.int q)) y11 y12 y13, .next) := by
  have hL : LIM = 1048576 := rfl
  have hfl := fin_len (X := X) hY
  obtain ⟨c, hc⟩ : ∃ c, (fin Y X).length = c + 1 := ⟨(fin Y X).length - 1, by lia⟩
  have hm20 : (fin Y X).length + q ≤ 20 := by lia
  have hm1 : (fin Y X).length + q = (c + q) + 1 := by lia
  have hp := pats_len Y
  have t1 := star_trans S.std n hY hYl hm20
  have t2 := bound_trans S.std n hY hYl hm20
  have hlen : ∀ (y0 yl : List Nat), y0.length ≤ 4 → yl.length ≤ 4 → (inner y0 Y yl ((fin Y X).length + q)).length ≤ 100000 := by
    intro y0 yl h0 hl
    have := atoms_len Y _ hYl hm20
    have a0 : (encs y0).length ≤ _ := encs_len y0
    have al : (encs yl).length ≤ _ := encs_len yl
    rw [inner, List.length_append, List.length_append, List.length_append]
    show _ + _ + 2 + _ ≤ _
    lia
  have l1 := hlen [] [] (Nat.zero_le _) (Nat.zero_le _)
  have l2 := hlen Y Y hYl hYl
  rw [hm1] at t1 t2 l1 l2
  have w1 := rows_run S (n + 1) (y0 := []) (y := Y) (yl := []) nofun hYm nofun (m := c + q) (by lia) l1 (Nat.zero_le _) (by lia) (Nat.zero_le _)
  have w2 := rows_run S (n + 1) (y0 := Y) (y := Y) (yl := Y) hYm hYm hYm (m := c + q) (by lia) l2 (by lia) (by lia) (by lia)
  have hr : ∃ v1 v2, runF T (n + 3) "_law_run" [.list (tl ([] :: (List.replicate (c + q + 1) Y ++ [[]]))), .str X] = some v1 ∧ runF T (n + 3) "_law_run" [.list (tl (Y :: (List.replicate (c + q + 1) Y ++ [Y]))), .str (Y ++ X ++ Y)] = some v2 ∧
      (q = 0 → v1 = .list (nInts (fin Y X)) ∧ v2 = .list (nInts ((fin Y X).map (· + Y.length)))) ∧ (q = 1 → v1 = .none ∧ v2 = .none) := by
    rcases hq with rfl | rfl
    · have e1 := free0 S (n + 2) (X := X) hY (by lia) (by lia)
      have e2 := bound0 S (n + 2) (X := X) hY (by lia) (by lia)
      rw [show (fin Y X).length = c + 0 + 1 from hc] at e1 e2
      exact ⟨_, _, e1, e2, fun _ => ⟨rfl, rfl⟩, nofun⟩
    · have e1 := free1 S (n + 2) (X := X) hY (by lia) (by lia)
      have e2 := bound1 S (n + 2) (X := X) hY (by lia) (by lia)
      rw [show (fin Y X).length + 1 = c + 1 + 1 by lia] at e1 e2
      exact ⟨_, _, e1, e2, nofun, fun _ => ⟨rfl, rfl⟩⟩
  obtain ⟨v1, v2, r1, r2, hv0, hv1⟩ := hr
  have hP : (patOf (Y.map tkOf)).length ≤ 12 := by lia
  generalize hPg : patOf (Y.map tkOf) = P at t2 hP ⊢
  have hP1 : (P ++ [42]).length = P.length + 1 := List.length_append
  have hSe : [42] ++ (List.replicate (c + q + 1) (P ++ [42])).flatten = starPat Y (c + q + 1) := by rw [starPat, hPg]
  have hSl : (starPat Y (c + q + 1)).length ≤ 500 := by
    rw [← hSe, List.length_append, rep_len, hP1]
    have := Nat.mul_le_mul (show c + q + 1 ≤ 20 by lia) (show P.length + 1 ≤ 13 by lia)
    show 1 + _ ≤ _
    lia
  generalize starPat Y (c + q + 1) = SP at *
  have hEl : (nInts (fin Y X)).length = (fin Y X).length := List.length_map _
  have hE1 : (nInts (fin Y X)).length ≤ LIM := by lia
  have q1 : (((nInts (fin Y X)).length : Nat) : Int) + (q : Int) = ((c + q + 1 : Nat) : Int) := by rw [hEl]; lia
  have a2 : pbin [] .mul (.str (P ++ [42])) (.int (((nInts (fin Y X)).length : Nat) + (q : Int))) = some (.str (List.replicate (c + q + 1) (P ++ [42])).flatten) := by rw [pbin_mulS (by lia) (by lia), prepeatN _ (c + q + 1) q1]
  have hPS : (P ++ SP).length = P.length + SP.length := List.length_append
  have hPSP : (P ++ SP ++ P).length = P.length + SP.length + P.length := by rw [List.length_append, hPS]
  have hYX : (Y ++ X).length = Y.length + X.length := List.length_append
  have hYXY : (Y ++ X ++ Y).length = Y.length + X.length + Y.length := by rw [List.length_append, hYX]
  refine ⟨some (.str SP), some v1, some v2, ?_⟩
  refine exs_next (σ' := l2S g0 g1 g2 g3 g5 g7 X Y (some (.str P)) (some (.int q)) (some (.str SP)) x12 x13) (asg_e (add_s (x := [42]) rfl (bin_e (add_s (x := P) (y := [42]) rfl rfl (by lia) rfl) (bin_e (len_l (l := nInts (fin Y X)) rfl hE1) rfl rfl) a2) (by lia) hSe)) ?_
  refine exs_next (σ' := l2S g0 g1 g2 g3 g5 g7 X Y (some (.str P)) (some (.int q)) (some (.str SP)) (some v1) x13) (asg_e (call2 (call1 (call1 (x := .str SP) rfl rfl t1) rfl w1) (y := .str X) rfl (noOwn_tl _) rfl r1)) ?_
  refine exs_next (σ' := l2S g0 g1 g2 g3 g5 g7 X Y (some (.str P)) (some (.int q)) (some (.str SP)) (some v1) (some v2)) (asg_e (call2 (call1 (call1 (add_s (add_s (x := P) (y := SP) rfl rfl (by lia) rfl) (y := P) rfl (by lia) rfl) rfl t2) rfl w2) (add_s (add_s (x := Y) (y := X) rfl rfl (by lia) rfl) (y := Y) rfl (by lia) rfl) (noOwn_tl _) rfl r2)) ?_
  refine exs_next (ite_f ?_ rfl) (exs_one (ite_f ?_ rfl))
  · rcases hq with rfl | rfl
    · obtain ⟨rfl, rfl⟩ := hv0 rfl
      refine and2_t rfl (or2_f (cmp_t rfl rfl (map_eq (peq_nats _))) (cmp_t (y := .list (nInts ((fin Y X).map (· + Y.length)))) rfl (bind_eq (it_l (l := nInts (fin Y X)) rfl hE1) (map_eq ((mapO_PV (c := fun e : Nat => PV.int e) (g := fun e => PV.int ((Y.length : Int) + (e : Int))) fun e _ => ?_).trans (congrArg some ?_)))) (map_eq (peq_nats _))))
      · exact bind_eq (a := true) rfl (map_eq (f := some) (bin_e (len_s (l := Y) rfl (by lia)) rfl rfl))
      · rw [nInts, List.map_map]
        exact List.map_congr_left fun e _ => congrArg PV.int (by rw [Int.add_comm]; rfl)
    · exact and2_f rfl
  · rcases hq with rfl | rfl
    · exact and2_f rfl
    · obtain ⟨rfl, rfl⟩ := hv1 rfl
      exact and2_t rfl (or2_f rfl rfl)
end
end Mine

namespace Mine

theorem pindex_l {O : Owns} {vs : List PV} {x : PV} : pme O .index (.list vs) [x] = if okDs 8 vs && (okD 8 x && decide (vs.length ≤ LIM)) then (vs.findIdx? fun y => pveq y x).map fun (i : Nat) => .int i else none := rfl
theorem index_l {O : Owns} {vs : List PV} {i e : Nat} (h1 : okDs 8 vs = true) (h3 : vs.length ≤ LIM) (h4 : vs.findIdx? (fun y => pveq y (.int i)) = some e) : pme O .index (.list vs) [.int i] = some (.int e) :=
  pindex_l.trans ((if_pos (Bool.and_eq_true_iff.mpr ⟨h1, Bool.and_eq_true_iff.mpr ⟨rfl, decide_eq_true h3⟩⟩)).trans (map_eq h4))
theorem cntsL_nInts (E : List Nat) (j : Nat) : cntsL E j = nInts ((List.range j).map (cnt E)) := by rw [nInts, List.map_map]; rfl
theorem fin_index {X Y : List Nat} (hY : Y ≠ []) {i e : Nat} (h : (fin Y X)[i]? = some e) : (cntsL (fin Y X) (X.length + 1)).findIdx? (fun y => pveq y (.int ((i + 1 : Nat) : Int))) = some e := by
  have hp : 0 < Y.length := List.length_pos_iff.mpr hY
  have he := List.mem_of_getElem? h
  have hhi := fin_hi hY he
  obtain ⟨o1, o2⟩ := fin_occ hY he
  have at' := fun j => cnt_at (j := j) hp (fin_gaps hY) h
  have hf := cnt_fit hY o2
  rw [Nat.sub_add_cancel o1] at hf
  have a1 := at' e
  have a2 := at' (e - Y.length)
  have hce : cnt (fin Y X) e = i + 1 := by lia
  have hl : (cntsL (fin Y X) (X.length + 1)).length = X.length + 1 := by rw [cntsL, List.length_map, List.length_range]
  have g : ∀ j (hj : j < (cntsL (fin Y X) (X.length + 1)).length), (cntsL (fin Y X) (X.length + 1))[j] = .int (cnt (fin Y X) j : Nat) := fun j hj => Option.some.inj ((List.getElem?_eq_getElem hj).symm.trans (cntsL_at _ (by lia)))
  refine List.findIdx?_eq_some_iff_getElem.mpr ⟨by lia, ?_, fun j hj => ?_⟩
  · rw [g, hce]; exact beq_self_eq_true ((i + 1 : Nat) : Int)
  · rw [g]
    have := at' j
    exact fun q => by
      have := beq_iff_eq.mp (show (((cnt (fin Y X) j : Nat) : Int) == ((i + 1 : Nat) : Int)) = true from q)
      lia
theorem take_occ {X : List Nat} (a b : Nat) : occ ((X.take b).drop a) X a = true := by
  rw [occ_iff, List.drop_take]
  exact (List.prefix_iff_eq_take.mp (List.take_prefix _ _)).symm
theorem lt6_at (x : Nat) : pidx A6 ((x % 6 : Nat) : Int) = some (lt6 x) := by
  rw [pidx_off0]
  have : x % 6 < 6 := Nat.mod_lt _ (by decide)
  unfold lt6
  generalize x % 6 = q at this
  have h : ∀ q, q < 6 → A6[q]? = some (A6.getD q 0) := by decide
  exact h q this
theorem pts1_t {F : PF1} {O : Owns} {G : Slots} {e : PE} (h : pt F O G e = some true) : pts F O G (.cons e .nil) = some true := bind_eq h rfl
theorem pts1_f {F : PF1} {O : Owns} {G : Slots} {e : PE} (h : pt F O G e = some false) : pts F O G (.cons e .nil) = some false := bind_eq h rfl

noncomputable def l2P (ws : List Int) (g1 g2 g3 g4 g5 g6 g7 g8 g9 : Option PV) : St := ⟨[some (.list (ws.map .int)), g1, g2, g3, g4, g5, g6, g7, g8, g9, none, none, none, none, none, none, none, none, none, none, none, none, none, none], []⟩

section
variable {F : PF1} {ws : List Int} {ns : List Nat}
theorem l2_base (hn : ns.length = 6) : ev F [] (l2P ws (some (.list (ns.map fun n : Nat => .int n))) (some (.str A6)) none none none none none none none).G
    (.me .join (.cs []) (.cons (.comp (.bin .mul (.idx (.var 2) (.bin .mod (.var 1) (.ci 6))) (.bin .add (.ci 1) (.bin .mod (.bin .fdiv (.var 1) (.ci 6)) (.ci 2)))) 1 (.val (.sl (.var 1) .cn (.ci 3))) .nil [none, none, some 2]) .nil)) = some (.str (bs2 ns)) := by
  have hL : LIM = 1048576 := rfl
  have hb := bs2_len hn
  have l1 : (ns.map fun n : Nat => PV.int n).length ≤ LIM := by rw [List.length_map]; lia
  have l2 : ((ns.take 3).map fun n : Nat => PV.int n).length ≤ LIM := by rw [List.length_map, List.length_take]; lia
  refine me_e (o := .cs []) rfl (evs_c (comp_tl (l := ns.take 3) (c := fun n : Nat => .int n) (g := fun x => List.replicate (1 + x / 6 % 2) (lt6 x)) (it_l (sl_l ⟨rfl, rfl, rfl⟩ rfl (x := .none) rfl rfl (y := .int 3) rfl rfl l1 (by rw [pslice_to (j := 3) _ 3 rfl, ← List.map_take])) l2) (fun x _ => ?_) rfl) rfl) (join_l _ (by show (bs2 ns).length ≤ _; lia))
  have hq : x / 6 % 2 < 2 := Nat.mod_lt _ (by decide)
  have h6 : x % 6 < 6 := Nat.mod_lt _ (by decide)
  refine bin_e (idx_s (l := A6) (c := lt6 x) rfl (bin_e (x := .int x) rfl rfl (pmodN (a := x) (b := 6) rfl rfl (by decide) (by decide))) (by lia) (lt6_at x))
    (bin_e (x := .int 1) rfl (bin_e (bin_e (x := .int x) rfl rfl (pdivN (a := x) (b := 6) rfl rfl (by decide) (by decide))) rfl (pmodN (a := x / 6) (b := 2) rfl rfl (by decide) (by decide))) rfl) ((pbin_mulS (by lia) (by show 1 ≤ 256; decide)).trans (congrArg (fun l => some (PV.str l)) (prepeat1 (lt6 x) (1 + x / 6 % 2))))
theorem l2_text (hn : ns.length = 6) : ev F [] (l2P ws (some (.list (ns.map fun n : Nat => .int n))) (some (.str A6)) (some (.str (bs2 ns))) none none none none none none).G
    (.bin .add (.sl (.bin .mul (.var 3) (.ci 3)) .cn (.ci 8)) (.me .join (.cs []) (.cons (.comp (.idx (.var 2) (.bin .mod (.var 1) (.ci 6))) 1 (.val (.sl (.var 1) (.ci 3) .cn)) (.cons (.cmp .eq (.bin .mod (.bin .fdiv (.var 1) (.ci 6)) (.ci 2)) (.ci 0)) .nil) [none, none, some 2]) .nil))) = some (.str (tx2 ns)) := by
  have hL : LIM = 1048576 := rfl
  have hb := bs2_len hn
  have ht := tx2_len hn
  have l1 : (ns.map fun n : Nat => PV.int n).length ≤ LIM := by rw [List.length_map]; lia
  have l2 : ((ns.drop 3).map fun n : Nat => PV.int n).length ≤ LIM := by rw [List.length_map, List.length_drop]; lia
  have l3 : (bs2 ns ++ bs2 ns ++ bs2 ns).length ≤ LIM := by rw [List.length_append, List.length_append]; lia
  have l4 := List.length_filter_le (fun x => x / 6 % 2 == 0) (ns.drop 3)
  rw [List.length_drop] at l4
  have m3 : pbin [] .mul (.str (bs2 ns)) (.int 3) = some (.str (bs2 ns ++ bs2 ns ++ bs2 ns)) := by
    rw [pbin_mulS (by decide) (by lia), prepeatN (i := 3) _ 3 rfl]
    show some (PV.str (bs2 ns ++ (bs2 ns ++ (bs2 ns ++ [])))) = _
    rw [List.append_nil, List.append_assoc]
  have hj := pjoin_sgs (O := []) (((ns.drop 3).filter fun x => x / 6 % 2 == 0).map lt6) (by rw [List.length_map]; lia)
  rw [sgs, List.map_map] at hj
  refine add_s (sl_s (l := bs2 ns ++ bs2 ns ++ bs2 ns) (bin_e rfl rfl m3) (x := .none) rfl (y := .int 8) rfl rfl rfl l3 (pslice_to (j := 8) _ 8 rfl)) (me_e (o := .cs []) rfl (evs_c (bind_eq (it_l (sl_l ⟨rfl, rfl, rfl⟩ rfl (x := .int 3) rfl rfl (y := .none) rfl rfl l1 (by rw [pslice_from (i := 3) _ 3 rfl, ← List.map_drop])) l2) (map_eq (mapO_filter (c := fun n : Nat => PV.int n) (g := fun x => .str [lt6 x]) (p := fun x => x / 6 % 2 == 0) (l := ns.drop 3) fun x _ => ?_))) rfl) hj) (by lia) rfl
  have e2 : (((x / 6 % 2 : Nat) : Int) == 0) = (x / 6 % 2 == 0) := by
    rcases Nat.mod_two_eq_zero_or_one (x / 6) with h | h <;> rw [h] <;> rfl
  have h6 : x % 6 < 6 := Nat.mod_lt _ (by decide)
  have ct := cmp_t (F := F) (O := []) (G := (([none, none, some 2].map fun j => j.bind fun j => ((l2P ws (some (.list (ns.map fun n : Nat => .int n))) (some (.str A6)) (some (.str (bs2 ns))) none none none none none none).G[j]?).bind id).set 1 (some (.int x)))) (op := .eq) (b := .ci 0)
    (bin_e (op := .mod) (a := .bin .fdiv (.var 1) (.ci 6)) (b := .ci 2) (bin_e (x := .int x) rfl rfl (pdivN (a := x) (b := 6) rfl rfl (by decide) (by decide))) rfl (pmodN (a := x / 6) (b := 2) rfl rfl (by decide) (by decide))) rfl (congrArg some e2)
  cases hb : (x / 6 % 2 == 0) with
  | false => rw [hb] at ct; exact bind_eq (pts1_f ct) rfl
  | true => rw [hb] at ct; exact bind_eq (pts1_t ct) (map_eq (f := some) (idx_s (l := A6) (c := lt6 x) rfl (bin_e (x := .int x) rfl rfl (pmodN (a := x) (b := 6) rfl rfl (by decide) (by decide))) (by lia) (lt6_at x)))
end

theorem pure2 (ws : List Int) (hw : ws.length ≤ 63) : pfun FUEL (runF T2 6) 24 p2_law [.list (ws.map .int)] = some (.bool true) := by
  have hL : LIM = 1048576 := rfl
  have S := stdB
  obtain ⟨ns, hns, hnum⟩ := nums_nat ((ws.take 6 ++ [0, 1, 0, 12, 7, 4]).take 6)
  have hn6 : ns.length = 6 := by rw [hns, List.length_take, List.length_append]; show min 6 (_ + 6) = 6; lia
  generalize htot : ns.sum = tot
  have hnsl : ((ns.map fun n : Nat => (n : Int)).map PV.int) = ns.map fun n : Nat => PV.int n := by rw [List.map_map]; rfl
  have n1 := nums_ev (F := runF T2 6) (k := 6) (dflt := [0, 1, 0, 12, 7, 4]) (de := .cons (.ci 0) (.cons (.ci 1) (.cons (.ci 0) (.cons (.ci 12) (.cons (.ci 7) (.cons (.ci 4) .nil)))))) (G := (l2P ws none none none none none none none none none).G) rfl hw rfl (by decide) (by decide) rfl
  rw [hnum, hnsl] at n1
  have psum : pbi [] .sum [.list (ns.map fun n : Nat => PV.int n)] = some (.int tot) := by
    rw [← hnsl]
    exact bind_eq rfl ((map_eq (bind_eq rfl (pints_map _))).trans (congrArg (fun i => some (PV.int i)) ((sum_cast ns).trans (by rw [htot]))))
  have e3 := l2_base (F := runF T2 6) (ws := ws) hn6
  have e4 := l2_text (F := runF T2 6) (ws := ws) hn6
  have hXl := tx2_len hn6
  have hXm := tx2_mem ns
  have hYl := so2_len tot hn6
  have hYm := so2_mem ns tot
  have ho : occ (so2 ns tot) (tx2 ns) (tot % 8) = true := take_occ _ _
  have hsl : pslice (tx2 ns) (some ((tot % 8 : Nat) : Int)) (some (((tot % 8 : Nat) : Int) + 1 + ((tot / 8 % 4 : Nat) : Int))) = so2 ns tot := pslice_nat _ (tot % 8) (tot % 8 + 1 + tot / 8 % 4) rfl rfl
  generalize so2 ns tot = Y at *
  generalize tx2 ns = X at *
  generalize bs2 ns = B at *
  obtain ⟨hY, hYl⟩ := hYl
  obtain ⟨e0, he0, _⟩ := fin_next hY ho
  have hfp : 0 < (fin Y X).length := List.length_pos_of_mem he0
  have hfl := fin_len (X := X) hY
  have hM : ∀ c ∈ X, c ≠ 57344 := fun c hc q => by subst q; exact absurd (hXm _ hc) (by decide)
  have cm := most_run S 5 (X := X) hY (by lia) (by lia)
  have ce := ends_run S 4 (X := X) hY (by lia) (by lia) hM
  have cX := mirror_run S 5 (X := X) (by lia)
  have cY := mirror_run S 5 (X := Y) (by lia)
  have cr := ends_run S 4 (X := X.reverse) (Y := Y.reverse) (fun q => hY (List.reverse_eq_nil_iff.mp q)) (by rw [List.length_reverse]; lia) (by rw [List.length_reverse]; lia) (fun c hc => hM c (List.mem_reverse.mp hc))
  have hmir := mir_eq (X := X) hY
  have cp := plain_run S.std 5 (x := Y) (by lia)
  obtain ⟨y11, y12, y13, b1⟩ := l2_body (g0 := some (.list (ws.map .int))) (g1 := some (.list (ns.map fun n : Nat => .int n))) (g2 := some (.str A6)) (g3 := some (.str B)) (g5 := some (.int tot)) (g7 := some (.list (cntsL (fin Y X) (X.length + 1)))) (x11 := none) (x12 := none) (x13 := none) S 3 hXm hYm hY (by lia) (by lia) hfp (q := 0) (.inl rfl)
  obtain ⟨z11, z12, z13, b2⟩ := l2_body (g0 := some (.list (ws.map .int))) (g1 := some (.list (ns.map fun n : Nat => .int n))) (g2 := some (.str A6)) (g3 := some (.str B)) (g5 := some (.int tot)) (g7 := some (.list (cntsL (fin Y X) (X.length + 1)))) (x11 := y11) (x12 := y12) (x13 := y13) S 3 hXm hYm hY (by lia) (by lia) hfp (q := 1) (.inr rfl)
  have lE : (nInts (fin Y X)).length ≤ LIM := by rw [nInts, List.length_map]; lia
  have lE' : (nInts (fin Y.reverse X.reverse)).length ≤ LIM := by rw [nInts, List.length_map, hmir]; lia
  have hnl : (((nInts (fin Y.reverse X.reverse)).length : Int) == ((nInts (fin Y X)).length : Int)) = true := by rw [nInts, nInts, List.length_map, List.length_map, hmir]; exact beq_self_eq_true _
  have hlast : pidx (cntsL (fin Y X) (X.length + 1)) (-1) = some (.int ((fin Y X).length : Nat)) := by rw [pidx_last, cntsL_succ, List.getLast?_concat, fin_all hY]
  have lc : (cntsL (fin Y X) (X.length + 1)).length ≤ LIM := by rw [cntsL, List.length_map, List.length_range]; lia
  have hok : okDs 8 (cntsL (fin Y X) (X.length + 1)) = true := by rw [cntsL_nInts]; exact okD_nats 8 _
  have hmap : (List.range' 1 (fin Y X).length).map (fun i => PV.int ((fin Y X).getD (i - 1) 0 : Nat)) = nInts (fin Y X) := by
    refine List.ext_getElem? fun i => ?_
    rw [nInts, List.getElem?_map, List.getElem?_map]
    by_cases hi : i < (fin Y X).length
    · rw [List.getElem?_range' hi, List.getElem?_eq_getElem hi, Option.map_some, Option.map_some, List.getD_eq_getElem?_getD, show 1 + 1 * i - 1 = i by lia, List.getElem?_eq_getElem hi]; rfl
    · rw [List.getElem?_eq_none (by rw [List.length_range']; lia), List.getElem?_eq_none (by lia)]; rfl
  have c9 : ev (runF T2 6) [] (l2P ws (some (.list (ns.map fun n : Nat => .int n))) (some (.str A6)) (some (.str B)) (some (.str X)) (some (.int tot)) (some (.str Y)) (some (.list (cntsL (fin Y X) (X.length + 1)))) (some (.list (nInts (fin Y X)))) none).G
      (.comp (.me .index (.var 2) (.cons (.var 1) .nil)) 1 (.rng (.cons (.ci 1) (.cons (.bin .add (.idx (.var 7) (.ci (-1))) (.ci 1)) .nil))) .nil [none, none, some 7]) = some (.list (nInts (fin Y X))) := by
    rw [← hmap]
    refine bind_eq (rng2_e (n := (fin Y X).length) (bin_e (idx_l (l := cntsL (fin Y X) (X.length + 1)) rfl rfl (by decide) hlast) rfl rfl) (by lia)) (map_eq (mapO_PV (c := fun i : Nat => PV.int i) (g := fun i => PV.int ((fin Y X).getD (i - 1) 0 : Nat)) fun i hi => ?_))
    obtain ⟨i1, i2⟩ := List.mem_range'_1.mp hi
    have hi2 : i - 1 < (fin Y X).length := by lia
    have hf := fin_index hY (List.getElem?_eq_getElem hi2)
    rw [Nat.sub_add_cancel i1] at hf
    rw [List.getD_eq_getElem?_getD, List.getElem?_eq_getElem hi2]
    exact bind_eq (a := true) rfl (map_eq (f := some) (me_e (x := .list (cntsL (fin Y X) (X.length + 1))) rfl (vs := [.int i]) rfl (index_l hok lc hf)))
  have d1 : pbin [] .mod (.int tot) (.int 8) = some (.int ((tot % 8 : Nat) : Int)) := pmodN rfl rfl (by decide) (by decide)
  have d2 : pbin [] .fdiv (.int tot) (.int 8) = some (.int ((tot / 8 : Nat) : Int)) := pdivN rfl rfl (by decide) (by decide)
  have d3 : pbin [] .mod (.int ((tot / 8 : Nat) : Int)) (.int 4) = some (.int ((tot / 8 % 4 : Nat) : Int)) := pmodN rfl rfl (by decide) (by decide)
  refine pfun_ret (σ := l2S (some (.list (ws.map .int))) (some (.list (ns.map fun n : Nat => .int n))) (some (.str A6)) (some (.str B)) (some (.int tot)) (some (.list (cntsL (fin Y X) (X.length + 1)))) X Y (some (.str (patOf (Y.map tkOf)))) (some (.int ((1 : Nat) : Int))) z11 z12 z13) (v := .bool true) ?_ rfl
  refine exs_next (σ' := l2P ws (some (.list (ns.map fun n : Nat => .int n))) none none none none none none none none) (asg_e n1) ?_
  refine exs_next (σ' := l2P ws (some (.list (ns.map fun n : Nat => .int n))) (some (.str A6)) none none none none none none none) rfl ?_
  refine exs_next (σ' := l2P ws (some (.list (ns.map fun n : Nat => .int n))) (some (.str A6)) (some (.str B)) none none none none none none) (asg_e e3) ?_
  refine exs_next (σ' := l2P ws (some (.list (ns.map fun n : Nat => .int n))) (some (.str A6)) (some (.str B)) (some (.str X)) none none none none none) (asg_e e4) ?_
  refine exs_next (σ' := l2P ws (some (.list (ns.map fun n : Nat => .int n))) (some (.str A6)) (some (.str B)) (some (.str X)) (some (.int tot)) none none none none) (asg_e (bi_e (evs_c rfl rfl) psum)) ?_
  refine exs_next (σ' := l2P ws (some (.list (ns.map fun n : Nat => .int n))) (some (.str A6)) (some (.str B)) (some (.str X)) (some (.int tot)) (some (.str Y)) none none none) (asg_e (sl_s (l := X) rfl (bin_e (x := .int tot) rfl rfl d1) (bin_e (bin_e (bin_e (x := .int tot) rfl rfl d1) rfl rfl) (bin_e (bin_e (x := .int tot) rfl rfl d2) rfl d3) rfl) rfl rfl (by lia) hsl)) ?_
  refine exs_next (σ' := l2P ws (some (.list (ns.map fun n : Nat => .int n))) (some (.str A6)) (some (.str B)) (some (.str X)) (some (.int tot)) (some (.str Y)) (some (.list (cntsL (fin Y X) (X.length + 1)))) none none) (asg_e (call2 (x := .str X) (y := .str Y) rfl rfl rfl rfl cm)) ?_
  refine exs_next (σ' := l2P ws (some (.list (ns.map fun n : Nat => .int n))) (some (.str A6)) (some (.str B)) (some (.str X)) (some (.int tot)) (some (.str Y)) (some (.list (cntsL (fin Y X) (X.length + 1)))) (some (.list (nInts (fin Y X)))) none) (asg_e (call2 (x := .str X) (y := .str Y) rfl rfl rfl rfl ce)) ?_
  refine exs_next (ite_f (cmp_t rfl c9 (map_eq (peq_nats _))) rfl) ?_
  refine exs_next (ite_f (cmp_t (len_l (call2 (call1 (x := .str X) rfl rfl cX) (call1 (x := .str Y) rfl rfl cY) rfl rfl cr) lE') (len_l (l := nInts (fin Y X)) rfl lE) (congrArg (fun b => some (!b)) hnl)) rfl) ?_
  refine exs_next (σ' := l2S (some (.list (ws.map .int))) (some (.list (ns.map fun n : Nat => .int n))) (some (.str A6)) (some (.str B)) (some (.int tot)) (some (.list (cntsL (fin Y X) (X.length + 1)))) X Y (some (.str (patOf (Y.map tkOf)))) none none none none) (asg_e (call_e rfl rfl cp)) ?_
  exact exs_next (fr_e (its := [.int ((0 : Nat) : Int), .int ((1 : Nat) : Int)]) rfl (frIt_c b1 (frIt_c b2 rfl))) (exs_stop rfl nofun)
end Mine

namespace Mine

noncomputable def vFn : Data → Option FuncData
  | .func f => some f
  | _ => none
noncomputable def vFs : Data → Option (Array Value)
  | .fields f => some f
  | _ => none
noncomputable def vSq : Data → Option (Array Value × Nat)
  | .seq f n => some (f, n)
  | _ => none
noncomputable def vDi : Data → Option (Array DictEntry × Nat)
  | .dict f n => some (f, n)
  | _ => none
noncomputable def vRf : Value → Option Addr
  | .ref a => some a
  | _ => none
noncomputable def vTy : Value → Option String
  | .type a => some a
  | _ => none
theorem vFn_eq {d : Data} {f : FuncData} (h : vFn d = some f) : d = .func f := by
  cases d <;> first | (cases h; rfl) | cases h
theorem vFs_eq {d : Data} {f : Array Value} (h : vFs d = some f) : d = .fields f := by
  cases d <;> first | (cases h; rfl) | cases h
theorem vSq_eq {d : Data} {f : Array Value × Nat} (h : vSq d = some f) : d = .seq f.1 f.2 := by
  cases d <;> first | (cases h; rfl) | cases h
theorem vDi_eq {d : Data} {f : Array DictEntry × Nat} (h : vDi d = some f) : d = .dict f.1 f.2 := by
  cases d <;> first | (cases h; rfl) | cases h
theorem vRf_eq {v : Value} {a : Addr} (h : vRf v = some a) : v = .ref a := by
  cases v <;> first | (cases h; rfl) | cases h
theorem vTy_eq {v : Value} {a : String} (h : vTy v = some a) : v = .type a := by
  cases v <;> first | (cases h; rfl) | cases h

/-- an object of a type, without a dict and without slots -/
noncomputable def bare (t : String) (o : Obj) : Bool := (vTy o.cls).any fun q => q == t && (o.dict.isNone && o.slots.isEmpty)
theorem bare_eq {t : String} {o : Obj} (h : bare t o = true) : o = { cls := .type t, dict := none, data := o.data, slots := #[] } := by
  obtain ⟨q, e, h⟩ := any_t h
  obtain ⟨h1, h⟩ := and_t h
  obtain ⟨h2, h3⟩ := and_t h
  have e1 := vTy_eq e
  cases beq_iff_eq.mp h1
  cases o with
  | mk c d da s =>
    cases e1
    cases Option.isNone_iff_eq_none.mp h2
    cases (Array.isEmpty_iff.mp h3 : s = #[])
    rfl

noncomputable def funChk (h : Heap) : Bool := (classAt h "_translate").any fun a => (h.get? a).any fun o => (vFn o.data).any fun fd => (vRf fd.code).any fun c => decide (c = CT) &&
  ((h.get? CT).any fun oc => (vFs oc.data).any fun vs => (vs[11]?).any fun v => (vRf v).any fun P => decide (P = PT))
noncomputable def dictChk (h : Heap) : Bool := (h.get? spA).any fun o => bare "dict" o && ((vDi o.data).any fun d => specEs d.1)
noncomputable def reChk (h : Heap) : Bool := (h.get? reA).any fun o => bare "re.Pattern" o && ((vFs o.data).any fun fs => decide (PySem.Builtin.Re.reRawNat (fs.getD 6 .none) = 0) && ((vRf (fs.getD 5 .none)).any fun a => decide (a = reC)))
noncomputable def reCChk (h : Heap) : Bool := (h.get? reC).any fun o => (vSq o.data).any fun d => decide (d.1.toList.map (fun v => (PySem.Builtin.Re.reRawOf v).toNat) = reCode.toList)
noncomputable def topChk (h : Heap) : Bool := decide (classAt h "_special_chars_map" = some spA) && (decide (classAt h "_twin_re_1" = some reA) && (funChk h && (dictChk h && (reChk h && reCChk h))))

section
variable {q : Program} {loose : List Str} {R : WRecords} {XP : (Str → Option Value) → Heap → Prop} {w : World} {s₀ : Shared} {mg mb : Str → Option Value} {h : Heap} {prog : Program}

theorem fun_ct (G : Ground q loose R XP w s₀ mg mb h) (keep : ∀ b o, s₀.heap.get? b = some o → h.get? b = some o) (hc : funChk s₀.heap = true) :
    ∃ a o fd, mg "_translate" = some (.ref a) ∧ h.get? a = some o ∧ o.data = .func fd ∧ fd.code = .ref CT ∧ ∃ oc vs, h.get? CT = some oc ∧ oc.data = .fields vs ∧ vs[11]? = some (.ref PT) := by
  obtain ⟨a, e1, hc⟩ := any_t hc
  obtain ⟨o, e2, hc⟩ := any_t hc
  obtain ⟨fd, e3, hc⟩ := any_t hc
  obtain ⟨c, e4, hc⟩ := any_t hc
  obtain ⟨e5, hc⟩ := and_t hc
  obtain ⟨oc, e6, hc⟩ := any_t hc
  obtain ⟨vs, e7, hc⟩ := any_t hc
  obtain ⟨v, e8, hc⟩ := any_t hc
  obtain ⟨P, e9, hz⟩ := any_t hc
  have e5 := of_decide_eq_true e5
  have hz := of_decide_eq_true hz
  subst e5
  subst hz
  exact ⟨a, o, fd, (G.cls _ _).mp e1, keep _ _ e2, vFn_eq e3, vRf_eq e4, oc, vs, keep _ _ e6, vFs_eq e7, by rw [e8, vRf_eq e9]⟩

theorem base2 (G : Ground q loose R XP w s₀ mg mb h) (keep : ∀ b o, s₀.heap.get? b = some o → h.get? b = some o) (hc : topChk s₀.heap = true) (hd : ∃ d ∈ recsOf q, d.name = "_translate")
    (e2 : ∀ p ∈ biTab, p.1 ∉ startupNames ∧ p.1 ∉ looseW q loose ∧ p.1 ∉ (recsOf q).map (·.name) ∧ p.1 ∉ (litsOf q).map (·.1) ∧ p.1 ∉ (clssOf q (looseW q loose)).map (·.name)) (e3 : ∀ p ∈ biTab, p.1 ≠ "__name__" ∧ bootBuiltins p.1 = some p.2) :
    Base mg mb h ∧ SpecOk prog w h := by
  obtain ⟨c1, hc⟩ := and_t hc
  obtain ⟨c2, hc⟩ := and_t hc
  obtain ⟨c3, hc⟩ := and_t hc
  obtain ⟨c4, hc⟩ := and_t hc
  obtain ⟨c5, c6⟩ := and_t hc
  have T := G.T
  obtain ⟨d, hd, hn⟩ := hd
  obtain ⟨a, o, fd, m1, m2, m3, m4, oc, vs, m5, m6, m7⟩ := fun_ct G keep c3
  obtain ⟨a', o', fd', c, P, t1, t2, t3, t4, t5, t6⟩ := T.tab d hd
  rw [hn, m1] at t1; cases t1
  rw [m2] at t2; cases t2
  rw [m3] at t3; cases t3
  rw [m4] at t4; cases t4
  have hP : P = PT := by
    obtain ⟨⟨o2, vs2, q1, _, q3, q4⟩, _⟩ := t6
    rw [m5] at q1; cases q1
    rw [m6] at q3; cases q3
    rw [m7] at q4; cases q4; rfl
  subst hP
  obtain ⟨od, x1, c4⟩ := any_t c4
  obtain ⟨x2, c4⟩ := and_t c4
  obtain ⟨es, x3, x4⟩ := any_t c4
  obtain ⟨orx, r1, c5⟩ := any_t c5
  obtain ⟨r2, c5⟩ := and_t c5
  obtain ⟨fs, r3, c5⟩ := any_t c5
  obtain ⟨r4, c5⟩ := and_t c5
  obtain ⟨ar, r5, r6⟩ := any_t c5
  obtain ⟨oc2, y1, c6⟩ := any_t c6
  obtain ⟨xs, y2, y3⟩ := any_t c6
  cases of_decide_eq_true r6
  refine ⟨⟨T.g, T.b, ⟨#[], t6.2, trivial⟩, fun p hp => ⟨?_, ?_⟩, CodeHd.of t5 t6, ?_, T.nolimit, (G.cls _ _).mp (of_decide_eq_true c1), (G.cls _ _).mp (of_decide_eq_true c2), ⟨⟨fs, ?_, of_decide_eq_true r4, vRf_eq r5⟩, ⟨xs.1, oc2, xs.2, keep _ _ y1, vSq_eq y2, Array.ext' ?_⟩⟩⟩, ?_⟩
  · obtain ⟨h1, h2, h3, h4, h5⟩ := e2 p hp
    exact T.free _ h1 h2 h3 h4 h5
  · rw [T.builtins _ (e3 p hp).1]; exact (e3 p hp).2
  · obtain ⟨bm, ob, b1, b2, b3, b4, b5, b6⟩ := T.bmain
    refine ⟨bm, ob, b1, b2, fun q => ?_, fun q => ?_, b3, b4, b5, b6⟩
    · obtain ⟨o, es, ep, e, hd, _⟩ := T.g
      rw [q, e] at b3; cases b3; rw [hd] at b6; cases b6
    · rw [q, t6.2] at b3; cases b3; cases b4
  · have e := keep _ _ r1
    rw [bare_eq r2, vFs_eq r3] at e; exact e
  · rw [← of_decide_eq_true y3, Array.toList_map, Array.toList_map, List.map_map]; rfl
  · refine spec_of_es (es := es.1) (n := es.2) ?_ x4
    have e := keep _ _ x1
    rw [bare_eq x2, vDi_eq x3] at e; exact e

theorem defAt2 {p : Program} {x : Str} {d : DefRec} (G : Ground q loose R XP w s₀ mg mb h) (keep : ∀ b o, s₀.heap.get? b = some o → h.get? b = some o) (hc : topChk s₀.heap = true) (hd : d ∈ recsOf q) (hn : d.name = x) (hf : findDef p x = some (d.params, d.body, d.scope))
    (h16 : (slotOf d.scope "stuff").isSome = true → x = "_translate") : DefAt p mg h x := by
  subst hn
  obtain ⟨a, o, pm, code, doc, f1, f2, f3, c, oc, vs, t, f4, f5, f6, f7⟩ := G.T.fn d hd
  obtain ⟨a', o', fd, c', P, t1, t2, t3, t4, t5, t6⟩ := G.T.tab d hd
  rw [f1] at t1; cases t1
  rw [f2] at t2; cases t2
  rw [f3] at t3; cases t3
  have hcc : code = .ref c' := t4
  rw [f4] at hcc; cases hcc
  refine ⟨_, _, _, a, _, o, c, oc, vs, t, hf, f1, f2, f3, rfl, rfl, rfl, rfl, rfl, rfl, rfl, f4, f5, ?_, f6, f7, fun q => ?_⟩
  · obtain ⟨⟨o2, vs2, q1, q2, _⟩, _⟩ := t6
    rw [f5] at q1; cases q1
    exact noTab_cls (by rw [q2]; nofun)
  · obtain ⟨a2, o2, fd2, m1, m2, m3, m4, _⟩ := fun_ct G keep (and_t (and_t (and_t hc).2).2).1
    rw [← h16 q, f1] at m1; cases m1
    rw [f2] at m2; cases m2
    rw [f3] at m3; cases m3
    have m4 : code = .ref CT := m4
    rw [f4] at m4; cases m4; rfl
end
end Mine

open PySem PySem.W PySem.W.X PySem.W.ZRun PyProof.Rows
namespace Mine
noncomputable def q2 : Program := view PySem.Challenge.pw_ij0085_02 [0, 2, 4, 5, 7, 8, 10, 11, 13, 14, 15, 16, 17, 18, 19]
noncomputable def loose2 : List Str := ["_twin_re_1", "_special_chars_map"]
noncomputable abbrev HeadP (w : World) : Prop := (openEnds treeTable PySem.Challenge.pw_ij0085_02 w 3640).map (fun s => (openSeen q2 loose2 (importedModules PySem.Challenge.pw_ij0085_02.main.body) (fun s => xlAt q2 [] s && recOk [] s) true s, topChk s.heap)) = some (openGood q2 loose2, true)
theorem head_ff (w : World) : HeadP ((w.withFollow "special-get-raises" false).withFollow "comprehension-iter-twice" false) := by kernel_rfl
theorem head_tf (w : World) : HeadP ((w.withFollow "special-get-raises" true).withFollow "comprehension-iter-twice" false) := by kernel_rfl
theorem head_ft (w : World) : HeadP ((w.withFollow "special-get-raises" false).withFollow "comprehension-iter-twice" true) := by kernel_rfl
theorem head_tt (w : World) : HeadP ((w.withFollow "special-get-raises" true).withFollow "comprehension-iter-twice" true) := by kernel_rfl
theorem head2 (w : World) : HeadP w :=
  byRow2 "comprehension-iter-twice" (P := HeadP) (fun w => byRow2 "special-get-raises" (P := fun w => HeadP (w.withFollow "comprehension-iter-twice" false)) head_ff head_tf w)
    (fun w => byRow2 "special-get-raises" (P := fun w => HeadP (w.withFollow "comprehension-iter-twice" true)) head_ft head_tt w) w
theorem len2 : (recsOf q2).length = 12 := by rfl
theorem has_tr : ∃ d ∈ recsOf q2, d.name = "_translate" := ⟨(recsOf q2)[3]'(by rw [len2]; decide), List.getElem_mem _, by rfl⟩
theorem bi_free : ∀ p ∈ biTab, p.1 ∉ startupNames ∧ p.1 ∉ looseW q2 loose2 ∧ p.1 ∉ (recsOf q2).map (·.name) ∧ p.1 ∉ (litsOf q2).map (·.1) ∧ p.1 ∉ (clssOf q2 (looseW q2 loose2)).map (·.name) := by decide +kernel
theorem bi_boot : ∀ p ∈ biTab, p.1 ≠ "__name__" ∧ bootBuiltins p.1 = some p.2 := by
  intro p hp
  simp only [biTab, List.mem_cons, List.not_mem_nil, or_false] at hp
  rcases hp with rfl | rfl | rfl | rfl | rfl | rfl | rfl <;> exact ⟨by decide +kernel, by rfl⟩
section
variable {R : WRecords} {XP : (Str → Option Value) → Heap → Prop} {w : World} {s₀ : Shared} {mg mb : Str → Option Value} {h : Heap}
theorem def_at {x : Str} (i : Nat) (hi : i < (recsOf q2).length) (G : Ground q2 loose2 R XP w s₀ mg mb h) (keep : ∀ b o, s₀.heap.get? b = some o → h.get? b = some o) (hc : topChk s₀.heap = true) (hn : (recsOf q2)[i].name = x)
    (hf : findDef PySem.Challenge.pw_ij0085_02 x = some ((recsOf q2)[i].params, (recsOf q2)[i].body, (recsOf q2)[i].scope)) (h16 : ((slotOf (recsOf q2)[i].scope "stuff").isSome && x != "_translate") = false) : DefAt PySem.Challenge.pw_ij0085_02 mg h x :=
  defAt2 G keep hc (List.getElem_mem hi) hn hf fun q => by
    rw [q, Bool.true_and] at h16
    simpa using h16
theorem defs2 (G : Ground q2 loose2 R XP w s₀ mg mb h) (keep : ∀ b o, s₀.heap.get? b = some o → h.get? b = some o) (hc : topChk s₀.heap = true) : ∀ x ∈ T2.map (·.1), DefAt PySem.Challenge.pw_ij0085_02 mg h (Str.ofString x) := by
  have l := len2
  simp only [T2, List.map_cons, List.map_nil, List.forall_mem_cons, List.not_mem_nil, false_imp_iff, implies_true, and_true]
  refine ⟨?_, ?_, ?_, ?_, ?_, ?_, ?_, ?_, ?_, ?_, ?_, ?_⟩
  · exact def_at 0 (by rw [l]; decide) G keep hc (by rfl) (by rfl) (by rfl)
  · exact def_at 2 (by rw [l]; decide) G keep hc (by rfl) (by rfl) (by rfl)
  · exact def_at 1 (by rw [l]; decide) G keep hc (by rfl) (by rfl) (by rfl)
  · exact def_at 3 (by rw [l]; decide) G keep hc (by rfl) (by rfl) (by rfl)
  · exact def_at 4 (by rw [l]; decide) G keep hc (by rfl) (by rfl) (by rfl)
  · exact def_at 8 (by rw [l]; decide) G keep hc (by rfl) (by rfl) (by rfl)
  · exact def_at 5 (by rw [l]; decide) G keep hc (by rfl) (by rfl) (by rfl)
  · exact def_at 6 (by rw [l]; decide) G keep hc (by rfl) (by rfl) (by rfl)
  · exact def_at 7 (by rw [l]; decide) G keep hc (by rfl) (by rfl) (by rfl)
  · exact def_at 9 (by rw [l]; decide) G keep hc (by rfl) (by rfl) (by rfl)
  · exact def_at 10 (by rw [l]; decide) G keep hc (by rfl) (by rfl) (by rfl)
  · exact def_at 11 (by rw [l]; decide) G keep hc (by rfl) (by rfl) (by rfl)
end
end Mine
set_option maxHeartbeats 0 in
theorem PySem.Challenge.cw_ij0085_02_holds : PySem.Challenge.rw_ij0085_02.Holds := by
  w_on; o_law
  refine holds_openX (q := Mine.q2) (loose := Mine.loose2) (Xt := fun s => xlAt Mine.q2 [] s && recOk [] s) (XP := XL Mine.q2 []) (Yf := fun s => Mine.topChk s.heap) (Ya := fun _ => true) (N := 3640) ?hl (fun s e => xl_of s (Bool.and_eq_true_iff.mp e).1) XL.keeps (by rfl) (by rfl) (by rfl) (fun s e => recFacts_of (Bool.and_eq_true_iff.mp e).2) (by rfl) (by first | assumption | decide +kernel) (by decide +kernel) ⟨rfl, rfl, rfl, rfl, rfl, by decide +kernel⟩ ?hw ?hc
  case hw => w_witness2
  case hl => exact Mine.head2
  case hc =>
    intro w s₀ s₁ mg mb G y fa o pm cd doc dV kV ho hd hcd hD hmg hg args vals as L hpre hlay hrd hwl hlo
    have keep := L.keeps
    wrow_args hpre hlay hrd hwl hlo
    clear ho hd hcd hD
    have hmg : mg "law" = some (.ref fa) := hmg
    have BS : Mine.Base mg mb s₁.heap ∧ Mine.SpecOk PySem.Challenge.rw_ij0085_02.row.prog w s₁.heap := Mine.base2 G keep y Mine.has_tr Mine.bi_free Mine.bi_boot
    obtain ⟨base, hspec⟩ := BS
    have hT : ∀ f e, Mine.T2.lookup f = some e → Mine.defIs PySem.Challenge.pw_ij0085_02 (Str.ofString f) = some e ∧ Mine.DefAt PySem.Challenge.pw_ij0085_02 mg s₁.heap (Str.ofString f) :=
      fun f e h => ⟨Mine.def2 f e h, Mine.defs2 G keep y f (List.mem_map_of_mem (Mine.lookup_memS h))⟩
    refine' wpAny_mono (Mine.law_call (n := 6) (w := w) base hspec hT rfl rfl (by decide) (Mine.pure2 _ ?hlen) ?hwel hmg) ?hgood ?hexc
    case hwel => assumption
    case hlen => omega
    case hexc => exact fun _ _ hq => hq.elim
    case hgood =>
      intro v s' hq
      refine Mine.goodWG_of base hg hq.1 hq.2 ?hra ?hpo
      case hra => intro _; rfl
      case hpo => wrow_post

