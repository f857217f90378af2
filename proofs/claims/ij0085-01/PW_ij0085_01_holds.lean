import PyProof.Rows.All
import Wide.All
import OpenK.AllK
import Wide.FinOn
import KE.KStar
import Lean
import PySem.Challenge.RW_ij0085_01
open PySem PySem.W PyProof.Rows
set_option Elab.async false
set_option maxRecDepth 100000
set_option linter.unusedVariables false
set_option linter.unusedSimpArgs false
set_option genSizeOf false
local macro_rules
  | `(tactic| and_intros) => `(tactic| first | assumption | exact Nat.le_trans (by assumption) (by decide) | exact Nat.lt_of_le_of_lt (by assumption) (by decide) | exact Nat.le_trans (Nat.add_le_add_right (by assumption) _) (by decide) | exact Nat.le_trans (Nat.add_le_add_left (by assumption) _) (by decide) | exact Nat.le_of_lt (by assumption) | exact Nat.le_trans (Nat.le_of_lt (by assumption)) (by decide) | exact Nat.le_trans (Nat.add_le_add (by assumption) (by assumption)) (by decide) | lia)
namespace Mine

inductive PV where
  | none | bool (b : Bool) | int (i : Int) | str (l : List Nat)
  | tup (vs : List PV) | list (vs : List PV)
  | star | own (k : Nat) | app (k : Nat)
  deriving Inhabited

/-- a bound list.append -/
noncomputable def appObj (a : Addr) : Obj := { cls := .type "builtin_function_or_method", data := .fields #[.builtin "list.append", .ref a] }

structure RC where
  X : Addr → Prop
  st : Addr
  ads : List Addr

mutual
noncomputable def Rep (C : RC) (h : Heap) : PV → Value → Prop
  | .none, v => v = .none
  | .bool b, v => v = .bool b
  | .int i, v => ∃ t, v = .int i t
  | .str l, v => ∃ s t, v = .str s t ∧ s.cps.toList = l
  | .tup vs, v => ∃ a xs, v = .ref a ∧ ¬ C.X a ∧ h.IsTuple a xs ∧ RepL C h vs xs.toList
  | .list vs, v => ∃ a xs, v = .ref a ∧ ¬ C.X a ∧ h.PlainList a xs ∧ RepL C h vs xs.toList
  | .star, v => v = .ref C.st
  | .own k, v => ∃ a, C.ads[k]? = some a ∧ v = .ref a
  | .app k, v => ∃ a q, C.ads[k]? = some a ∧ v = .ref q ∧ ¬ C.X q ∧ h.get? q = some (appObj a)
noncomputable def RepL (C : RC) (h : Heap) : List PV → List Value → Prop
  | [], l => l = []
  | p :: ps, l => ∃ v r, l = v :: r ∧ Rep C h p v ∧ RepL C h ps r
end

/-- the code table of `_translate`'s code object: the one object of the top that grows -/
noncomputable def PT : Addr := 64
noncomputable def CT : Addr := 68
noncomputable def reA : Addr := 43
noncomputable def reC : Addr := 42
noncomputable def spA : Addr := 52
noncomputable def NoTab (o : Obj) : Prop := ∀ ps : Array Value, o ≠ { cls := .none, data := .fields ps }
theorem noTab_cls {o : Obj} (h : o.cls ≠ .none) : NoTab o := fun _ e => h (by rw [e])
theorem noTab_data {o : Obj} (h : ∀ ps, o.data ≠ .fields ps) : NoTab o := fun ps e => h ps (by rw [e])

/-- an object that is part of a value -/
noncomputable def IsVal (o : Obj) : Prop := (∃ items m, o.data = .seq items m) ∨ ∃ a, o = appObj a
theorem IsVal.noTab {o : Obj} (h : IsVal o) : NoTab o := by
  rcases h with ⟨x, m, h⟩ | ⟨a, rfl⟩
  · exact noTab_data (by rw [h]; nofun)
  · exact noTab_cls nofun
/-- what is kept: every object that is no mutable one -/
noncomputable def KeepsX (X : Addr → Prop) (h h' : Heap) : Prop := ∀ b o, IsVal o → ¬ X b → h.get? b = some o → h'.get? b = some o
/-- the first address above all live ones -/
noncomputable def hszGo (h : Heap) : Nat → Nat
  | 0 => 0
  | n + 1 => if (h.get? n).isSome then n + 1 else hszGo h n
noncomputable def hsz (h : Heap) : Nat := hszGo h h.objs.size
theorem hszGo_lt {h : Heap} {b : Addr} {o : Obj} (e : h.get? b = some o) : ∀ n : Nat, b < n → b < hszGo h n
  | n + 1, hb => by
    unfold hszGo
    split
    · exact hb
    · rename_i hn
      refine hszGo_lt e n ?_
      have : b ≠ n := fun q => by subst q; rw [e] at hn; exact hn rfl
      exact Nat.lt_of_le_of_ne (Nat.le_of_lt_succ hb) this
theorem hsz_lt {h : Heap} {b : Addr} {o : Obj} (e : h.get? b = some o) : b < hsz h := hszGo_lt e _ (Heap.lt_size e)
theorem hszGo_le {h : Heap} {k : Nat} (hk : ∀ b o, h.get? b = some o → (b : Nat) < k) : ∀ n : Nat, hszGo h n ≤ k
  | 0 => Nat.zero_le _
  | n + 1 => by
    unfold hszGo
    split
    · rename_i hn
      obtain ⟨o, e⟩ := Option.isSome_iff_exists.mp hn
      exact hk n o e
    · exact hszGo_le hk n
theorem hsz_le {h : Heap} {k : Nat} (hk : ∀ b o, h.get? b = some o → (b : Nat) < k) : hsz h ≤ k := hszGo_le hk _
theorem hsz_size (h : Heap) : hsz h ≤ h.objs.size := hsz_le fun _ _ e => Heap.lt_size e

/-- nothing but a code table changes -/
structure KN (h h' : Heap) : Prop where
  nt : ∀ b o, NoTab o → h.get? b = some o → h'.get? b = some o
  pt : ∀ b o, b ≠ PT → h.get? b = some o → h'.get? b = some o
  tab : ∀ ps, h.get? PT = some { cls := .none, data := .fields ps } → ∃ more, h'.get? PT = some { cls := .none, data := .fields (ps ++ more) } ∧ (TriplesOk ps.toList → TriplesOk (ps ++ more).toList)
theorem KN.of {h h' : Heap} (hk : ∀ b o, h.get? b = some o → h'.get? b = some o) : KN h h' :=
  ⟨fun b o _ e => hk b o e, fun b o _ e => hk b o e, fun ps e => ⟨#[], by simpa using hk _ _ e, by simp⟩⟩
theorem KN.refl (h : Heap) : KN h h := .of fun _ _ e => e
theorem KN.trans {a b c : Heap} (x : KN a b) (y : KN b c) : KN a c :=
  ⟨fun b o n e => y.nt b o n (x.nt b o n e), fun b o n e => y.pt b o n (x.pt b o n e), fun ps e => by
    obtain ⟨m, e1, t1⟩ := x.tab ps e
    obtain ⟨m', e2, t2⟩ := y.tab _ e1
    exact ⟨m ++ m', by rw [← Array.append_assoc]; exact e2, fun h => by rw [← Array.append_assoc]; exact t2 (t1 h)⟩⟩
theorem KN.live {h h' : Heap} (k : KN h h') {b : Addr} {o : Obj} (e : h.get? b = some o) : ∃ o', h'.get? b = some o' := by
  by_cases hb : b = PT
  · subst hb
    by_cases hn : NoTab o
    · exact ⟨o, k.nt _ _ hn e⟩
    · obtain ⟨ps, hps⟩ : ∃ ps : Array Value, o = { cls := .none, data := .fields ps } := Classical.byContradiction fun q => hn fun ps hp => q ⟨ps, hp⟩
      subst hps
      obtain ⟨m, e', _⟩ := k.tab ps e
      exact ⟨_, e'⟩
  · exact ⟨o, k.pt b o hb e⟩
theorem KN.szle {h h' : Heap} (k : KN h h') : hsz h ≤ hsz h' := hsz_le fun _ _ e => let ⟨_, e'⟩ := k.live e; hsz_lt e'
theorem KN.push (h : Heap) (o : Obj) : KN h (h.push o) := .of fun _ _ e => Heap.get?_push_of_some _ e
theorem KN.ns {h h' : Heap} {a : Addr} {m : Str → Option Value} (k : KN h h') (n : h.Ns a m) : h'.Ns a m :=
  let ⟨o, es, ep, e, hd, r⟩ := n; ⟨o, es, ep, k.nt _ _ (noTab_data (by rw [hd]; nofun)) e, hd, r⟩
theorem KN.cell {h h' : Heap} {c : Addr} {v : Option Value} (k : KN h h') (n : h.IsCell c v) : h'.IsCell c v :=
  let ⟨o, e, hd⟩ := n; ⟨o, k.nt _ _ (noTab_data (by rw [hd]; nofun)) e, hd⟩
theorem KN.plain {h h' : Heap} {a : Addr} {xs : Array Value} (k : KN h h') (n : h.PlainList a xs) : h'.PlainList a xs :=
  let ⟨m, e⟩ := n; ⟨m, k.nt _ _ (noTab_cls nofun) e⟩
theorem KN.func {h h' : Heap} {a : Addr} {o : Obj} {fd : FuncData} (k : KN h h') (e : h.get? a = some o) (hd : o.data = .func fd) : h'.get? a = some o :=
  k.nt _ _ (noTab_data (by rw [hd]; nofun)) e
theorem KN.noLimit {h h' : Heap} (k : KN h h') (n : h.NoLimit) : h'.NoLimit := let ⟨mc, e, r⟩ := n; ⟨mc, k.ns e, r⟩

structure Sub (C C' : RC) (h h' : Heap) : Prop where
  X : ∀ b o, IsVal o → h.get? b = some o → ¬ C.X b → ¬ C'.X b
  st : C'.st = C.st
  ads : ∀ (k : Nat) (a : Addr), C.ads[k]? = some a → C'.ads[k]? = some a
  keep : KeepsX C.X h h'

mutual
theorem Rep.mono {C C' : RC} {h h' : Heap} (S : Sub C C' h h') : ∀ (p : PV) (v : Value), Rep C h p v → Rep C' h' p v
  | .none, v, r => r
  | .bool b, v, r => r
  | .int i, v, r => r
  | .str l, v, r => r
  | .tup vs, v, r => let ⟨a, xs, e, hna, ⟨o, ho, hr⟩, hl⟩ := r
    ⟨a, xs, e, S.X _ _ (.inl ⟨_, _, hr.2.choose_spec⟩) ho hna, ⟨o, S.keep _ _ (.inl ⟨_, _, hr.2.choose_spec⟩) hna ho, hr⟩, RepL.mono S vs _ hl⟩
  | .list vs, v, r => let ⟨a, xs, e, hna, ⟨n, ho⟩, hl⟩ := r
    ⟨a, xs, e, S.X _ _ (.inl ⟨_, _, rfl⟩) ho hna, ⟨n, S.keep _ _ (.inl ⟨_, _, rfl⟩) hna ho⟩, RepL.mono S vs _ hl⟩
  | .star, v, r => Eq.trans r (congrArg Value.ref S.st.symm)
  | .own k, v, r => let ⟨a, h1, h2⟩ := r; ⟨a, S.ads _ _ h1, h2⟩
  | .app k, v, r => let ⟨a, q, h1, h2, h3, h4⟩ := r
    ⟨a, q, S.ads _ _ h1, h2, S.X _ _ (.inr ⟨_, rfl⟩) h4 h3, S.keep _ _ (.inr ⟨_, rfl⟩) h3 h4⟩
theorem RepL.mono {C C' : RC} {h h' : Heap} (S : Sub C C' h h') : ∀ (p : List PV) (v : List Value), RepL C h p v → RepL C' h' p v
  | [], v, r => r
  | p :: ps, v, r => let ⟨w, r', e, h1, h2⟩ := r; ⟨w, r', e, Rep.mono S p w h1, RepL.mono S ps r' h2⟩
end

theorem Sub.of_keep {C : RC} {h h' : Heap} (hk : KN h h') : Sub C C h h' :=
  ⟨fun _ _ _ _ x => x, rfl, fun _ _ x => x, fun b o n _ e => hk.nt b o n.noTab e⟩
theorem Rep.keep {C : RC} {h h' : Heap} {p : PV} {v : Value} (r : Rep C h p v) (hk : KN h h') : Rep C h' p v := Rep.mono (Sub.of_keep hk) p v r
theorem RepL.keep {C : RC} {h h' : Heap} {p : List PV} {v : List Value} (r : RepL C h p v) (hk : KN h h') : RepL C h' p v := RepL.mono (Sub.of_keep hk) p v r

theorem RepL.length {C : RC} {h : Heap} : ∀ {p : List PV} {v : List Value}, RepL C h p v → v.length = p.length
  | [], v, r => by cases r; rfl
  | p :: ps, v, r => by
    obtain ⟨w, r', rfl, _, h2⟩ := r
    exact congrArg (· + 1) (RepL.length h2)
theorem RepL.at {C : RC} {h : Heap} : ∀ {p : List PV} {v : List Value} (i : Nat) (x : PV), RepL C h p v → p[i]? = some x → ∃ y, v[i]? = some y ∧ Rep C h x y
  | [], _, _, _, _, e => nomatch e
  | p :: ps, v, i, x, r, e => by
    obtain ⟨w, r', rfl, h1, h2⟩ := r
    cases i with
    | zero => cases e; exact ⟨w, rfl, h1⟩
    | succ i => exact RepL.at i x h2 e
theorem RepL.append {C : RC} {h : Heap} : ∀ {p q : List PV} {v u : List Value}, RepL C h p v → RepL C h q u → RepL C h (p ++ q) (v ++ u)
  | [], q, v, u, r, r2 => by cases r; exact r2
  | p :: ps, q, v, u, r, r2 => by
    obtain ⟨w, r', rfl, h1, h2⟩ := r
    exact ⟨w, _, rfl, h1, RepL.append h2 r2⟩
theorem RepL.one {C : RC} {h : Heap} {p : PV} {v : Value} (r : Rep C h p v) : RepL C h [p] [v] := ⟨v, [], rfl, r, rfl⟩
theorem RepL.of_at {C : RC} {h : Heap} : ∀ {p : List PV} {v : List Value}, v.length = p.length → (∀ (i : Nat) x y, p[i]? = some x → v[i]? = some y → Rep C h x y) → RepL C h p v
  | [], [], _, _ => rfl
  | [], _ :: _, e, _ => by simp at e
  | _ :: _, [], e, _ => by simp at e
  | p :: ps, v :: vs, e, f => ⟨v, vs, rfl, f 0 p v rfl rfl, RepL.of_at (by simpa using e) fun i x y h1 h2 => f (i + 1) x y (by simpa using h1) (by simpa using h2)⟩
theorem RepL.take {C : RC} {h : Heap} {p : List PV} {v : List Value} (n : Nat) (r : RepL C h p v) : RepL C h (p.take n) (v.take n) := by
  have hl := r.length
  refine RepL.of_at (by simp [hl]) fun i x y h1 h2 => ?_
  rw [List.getElem?_take] at h1 h2
  split at h1
  · rename_i hi
    simp only [hi, if_true] at h2
    obtain ⟨y', e, h⟩ := r.at i x h1
    rw [e] at h2; cases h2; exact h
  · simp at h1
theorem RepL.drop {C : RC} {h : Heap} {p : List PV} {v : List Value} (n : Nat) (r : RepL C h p v) : RepL C h (p.drop n) (v.drop n) := by
  have hl := r.length
  refine RepL.of_at (by simp [hl]) fun i x y h1 h2 => ?_
  rw [List.getElem?_drop] at h1 h2
  obtain ⟨y', e, h⟩ := r.at (n + i) x h1
  rw [e] at h2; cases h2; exact h
theorem RepL.set {C : RC} {h : Heap} {p : List PV} {v : List Value} (n : Nat) {x : PV} {y : Value} (r : RepL C h p v) (rx : Rep C h x y) : RepL C h (p.set n x) (v.set n y) := by
  have hl := r.length
  refine RepL.of_at (by simp [hl]) fun i x' y' h1 h2 => ?_
  rw [List.getElem?_set] at h1 h2
  split at h1
  · rename_i hi
    subst hi
    simp only [if_true] at h2
    split at h1 <;> simp_all
  · rename_i hi
    simp only [hi, if_false] at h2
    obtain ⟨y'', e, h⟩ := r.at i x' h1
    rw [e] at h2; cases h2; exact h

/-! plain data -/
mutual
noncomputable def noOwn : PV → Bool
  | .own _ => false
  | .app _ => false
  | .tup vs => noOwnL vs
  | .list vs => noOwnL vs
  | _ => true
noncomputable def noOwnL : List PV → Bool
  | [] => true
  | p :: ps => noOwn p && noOwnL ps
end
mutual
noncomputable def noStar : PV → Bool
  | .own _ => false
  | .app _ => false
  | .star => false
  | .tup vs => noStarL vs
  | .list vs => noStarL vs
  | _ => true
noncomputable def noStarL : List PV → Bool
  | [] => true
  | p :: ps => noStar p && noStarL ps
end
mutual
theorem Rep.free {C C' : RC} {h : Heap} (hX : C'.X = C.X) (hst : C'.st = C.st) : ∀ (p : PV) (v : Value), noOwn p = true → Rep C h p v → Rep C' h p v
  | .none, v, _, r => r
  | .bool b, v, _, r => r
  | .int i, v, _, r => r
  | .str l, v, _, r => r
  | .tup vs, v, n, r => let ⟨a, xs, e, hna, ht, hl⟩ := r; ⟨a, xs, e, hX ▸ hna, ht, RepL.free hX hst vs _ n hl⟩
  | .list vs, v, n, r => let ⟨a, xs, e, hna, ht, hl⟩ := r; ⟨a, xs, e, hX ▸ hna, ht, RepL.free hX hst vs _ n hl⟩
  | .star, v, _, r => Eq.trans r (congrArg Value.ref hst.symm)
  | .own k, v, n, r => nomatch n
  | .app k, v, n, r => nomatch n
theorem RepL.free {C C' : RC} {h : Heap} (hX : C'.X = C.X) (hst : C'.st = C.st) : ∀ (p : List PV) (v : List Value), noOwnL p = true → RepL C h p v → RepL C' h p v
  | [], v, _, r => r
  | p :: ps, v, n, r => let ⟨w, r', e, h1, h2⟩ := r; ⟨w, r', e, Rep.free hX hst p w (Bool.and_eq_true_iff.mp n).1 h1, RepL.free hX hst ps r' (Bool.and_eq_true_iff.mp n).2 h2⟩
end

/-! towards the library's data -/
mutual
noncomputable def toPD : PV → PyData
  | .none => .none | .bool b => .bool b | .int i => .int i | .str l => .str ⟨l.toArray⟩
  | .tup vs => .tuple (toPDs vs) | .list vs => .list (toPDs vs)
  | _ => .none
noncomputable def toPDs : List PV → List PyData
  | [] => []
  | p :: ps => toPD p :: toPDs ps
end
mutual
theorem Rep.reads {C : RC} {h : Heap} : ∀ (p : PV) (v : Value), noStar p = true → Rep C h p v → ∃ as, Reads h v (toPD p) as
  | .none, v, _, r => ⟨_, by cases r; exact .none⟩
  | .bool b, v, _, r => ⟨_, by cases r; exact .bool b⟩
  | .int i, v, _, r => ⟨_, by obtain ⟨t, rfl⟩ := r; exact .int i t⟩
  | .str l, v, _, r => ⟨_, by obtain ⟨s, t, rfl, rfl⟩ := r; exact Reads.str s t⟩
  | .tup vs, v, n, r => by
    obtain ⟨a, xs, rfl, _, ⟨o, ho, hc, m, hd⟩, hl⟩ := r
    obtain ⟨as, q⟩ := RepL.reads vs _ n hl
    exact ⟨_, Reads.tuple ho hc hd q⟩
  | .list vs, v, n, r => by
    obtain ⟨a, xs, rfl, _, ⟨m, ho⟩, hl⟩ := r
    obtain ⟨as, q⟩ := RepL.reads vs _ n hl
    exact ⟨_, Reads.list ho rfl rfl q⟩
  | .star, v, n, r => nomatch n
  | .own k, v, n, r => nomatch n
  | .app k, v, n, r => nomatch n
theorem RepL.reads {C : RC} {h : Heap} : ∀ (p : List PV) (v : List Value), noStarL p = true → RepL C h p v → ∃ as, ReadsAll h v (toPDs p) as
  | [], v, _, r => by cases r; exact ⟨_, .nil⟩
  | p :: ps, v, n, r => by
    obtain ⟨w, r', rfl, h1, h2⟩ := r
    obtain ⟨as, q1⟩ := Rep.reads p w (Bool.and_eq_true_iff.mp n).1 h1
    obtain ⟨bs, q2⟩ := RepL.reads ps r' (Bool.and_eq_true_iff.mp n).2 h2
    exact ⟨_, .cons q1 q2⟩
end
end Mine

namespace Mine

noncomputable def LIM : Nat := 1048576

noncomputable def pidx {α : Type} (l : List α) (i : Int) : Option α :=
  if 0 ≤ i then l[i.toNat]? else if 0 ≤ i + l.length then l[(i + l.length).toNat]? else none
noncomputable def pclamp (n : Nat) (i : Int) : Nat := if i < 0 then (i + n).toNat else min i.toNat n
noncomputable def plo (n : Nat) : Option Int → Nat
  | none => 0
  | some i => pclamp n i
noncomputable def phi (n : Nat) : Option Int → Nat
  | none => n
  | some i => pclamp n i
noncomputable def pslice {α : Type} (l : List α) (lo hi : Option Int) : List α := (l.take (phi l.length hi)).drop (plo l.length lo)

noncomputable def asI : PV → Option Int
  | .int i => some i
  | _ => none
noncomputable def asS : PV → Option (List Nat)
  | .str l => some l
  | _ => none
noncomputable def asT : PV → Option (List PV)
  | .tup l => some l
  | _ => none
noncomputable def asOwn : PV → Option Nat
  | .own k => some k
  | _ => none
noncomputable def asApp : PV → Option Nat
  | .app k => some k
  | _ => none
@[simp] theorem asI_int {i : Int} : asI (.int i) = some i := rfl
@[simp] theorem asI_str {l : List Nat} : asI (.str l) = none := rfl
@[simp] theorem asI_list {l : List PV} : asI (.list l) = none := rfl
@[simp] theorem asI_own {k : Nat} : asI (.own k) = none := rfl
@[simp] theorem asS_str {l : List Nat} : asS (.str l) = some l := rfl
@[simp] theorem asS_list {l : List PV} : asS (.list l) = none := rfl
@[simp] theorem asS_tup {l : List PV} : asS (.tup l) = none := rfl
@[simp] theorem asS_int {i : Int} : asS (.int i) = none := rfl
@[simp] theorem asS_own {k : Nat} : asS (.own k) = none := rfl
@[simp] theorem asT_tup {l : List PV} : asT (.tup l) = some l := rfl
@[simp] theorem asT_list {l : List PV} : asT (.list l) = none := rfl
@[simp] theorem asT_own {k : Nat} : asT (.own k) = none := rfl
@[simp] theorem asT_str {l : List Nat} : asT (.str l) = none := rfl
@[simp] theorem asOwn_own {k : Nat} : asOwn (.own k) = some k := rfl
@[simp] theorem asApp_app {k : Nat} : asApp (.app k) = some k := rfl
noncomputable def asL (O : List (Option (List PV))) : PV → Option (List PV)
  | .list vs => some vs
  | .own k => (O[k]?).bind id
  | _ => none
@[simp] theorem asL_list {O : List (Option (List PV))} {l : List PV} : asL O (.list l) = some l := rfl
@[simp] theorem asL_own {O : List (Option (List PV))} {k : Nat} : asL O (.own k) = (O[k]?).bind id := rfl
noncomputable def resO (O : List (Option (List PV))) (v : PV) : PV := match asL O v with
  | some vs => .list vs
  | none => v

inductive PBin where | add | sub | mul | fdiv | mod | pow
inductive PCmp where | eq | ne | lt | le | gt | ge | is | isn | inn | nin
inductive PBi where | len | max | chr | ord
inductive PMe where | join | split | replace | find | index

noncomputable def eqI (i : Int) : PV → Bool
  | .int j => i == j
  | .bool b => i == (if b then 1 else 0)
  | _ => false
noncomputable def isNn : PV → Bool
  | .none => true
  | _ => false
mutual
noncomputable def pveq : PV → PV → Bool
  | .none, w => isNn w
  | .bool a, w => eqI (if a then 1 else 0) w
  | .int i, w => eqI i w
  | .str x, w => (asS w).any fun y => x == y
  | .list xs, w => (asL [] w).any fun ys => pveqL xs ys
  | .tup xs, w => (asT w).any fun ys => pveqL xs ys
  | _, _ => false
noncomputable def pveqL : List PV → List PV → Bool
  | [], [] => true
  | x :: xs, y :: ys => pveq x y && pveqL xs ys
  | _, _ => false
end

mutual
noncomputable def okD (n : Nat) : PV → Bool
  | .none => true
  | .bool _ => true
  | .int _ => true
  | .str l => l.all fun c => decide (c < 0x110000)
  | .tup vs => decide (0 < n) && okDs (n - 1) vs
  | .list vs => decide (0 < n) && okDs (n - 1) vs
  | _ => false
noncomputable def okDs (n : Nat) : List PV → Bool
  | [] => true
  | p :: ps => okD n p && okDs n ps
end

noncomputable def prepeat {α : Type} (l : List α) (k : Int) : List α := (List.replicate k.toNat l).flatten

noncomputable def pII (f : Int → Int → Option PV) (a b : PV) : Option PV := (asI a).bind fun x => (asI b).bind fun y => f x y
noncomputable def padd (O : List (Option (List PV))) (a b : PV) : Option PV := match asI a with
  | some x => (asI b).map fun y => .int (x + y)
  | none => match asS a with
    | some x => (asS b).bind fun y => if x.length + y.length ≤ LIM then some (.str (x ++ y)) else none
    | none => (asL O a).bind fun x => (asL O b).bind fun y => if x.length + y.length ≤ LIM then some (.list (x ++ y)) else none
noncomputable def pmul (O : List (Option (List PV))) (a b : PV) : Option PV := (asI b).bind fun k => match asI a with
  | some x => if k.natAbs < 2 ^ 62 then some (.int (x * k)) else none
  | none => match asS a with
    | some x => if k.natAbs ≤ 4096 ∧ x.length ≤ 256 then some (.str (prepeat x k)) else none
    | none => (asL O a).bind fun x => if k.natAbs ≤ 256 ∧ x.length ≤ 4096 then some (.list (prepeat x k)) else none
noncomputable def pbin (O : List (Option (List PV))) (op : PBin) (a b : PV) : Option PV := match op with
  | .add => padd O a b
  | .sub => pII (fun a b => some (.int (a - b))) a b
  | .mul => pmul O a b
  | .fdiv => pII (fun a b => if b ≠ 0 ∧ b.natAbs < 1073741824 then some (.int (a.fdiv b)) else none) a b
  | .mod => pII (fun a b => if b ≠ 0 ∧ b.natAbs < 1073741824 then some (.int (a.fmod b)) else none) a b
  | .pow => pII (fun a b => if 0 ≤ b ∧ b ≤ 16 ∧ 0 < a ∧ a ≤ 16 then some (.int (a ^ b.toNat)) else none) a b

noncomputable def pisIn {α : Type} [BEq α] (x : List α) : List α → Bool
  | [] => x.isEmpty
  | c :: r => x.isPrefixOf (c :: r) || pisIn x r

noncomputable def pinL (a : PV) (vs : List PV) : Option Bool := if okDs 8 vs && okD 8 a then some (vs.any fun y => pveq y a) else none
noncomputable def pin (O : List (Option (List PV))) (a b : PV) : Option Bool := match asS b with
  | some y => (asS a).map fun x => pisIn x y
  | none => match asT b with
    | some vs => pinL a vs
    | none => (asL O b).bind (pinL a)
noncomputable def peqD (O : List (Option (List PV))) (a b : PV) : Option Bool := if okD 8 (resO O a) && okD 8 (resO O b) then some (pveq (resO O a) (resO O b)) else none
noncomputable def peq (O : List (Option (List PV))) (a b : PV) : Option Bool := match asI a, asI b with
  | some i, some j => some (i == j)
  | _, _ => match asS a, asS b with
    | some x, some y => some (x == y)
    | _, _ => peqD O a b
noncomputable def pisN : PV → Option Bool
  | .none => some true
  | .star => none
  | .app _ => none
  | _ => some false
noncomputable def pisS : PV → Option Bool
  | .star => some true
  | .str _ => some false
  | _ => none
noncomputable def pis (a : PV) : PV → Option Bool
  | .none => pisN a
  | .star => pisS a
  | _ => none
noncomputable def plt : List Nat → List Nat → Bool
  | _, [] => false
  | [], _ :: _ => true
  | a :: x, b :: y => if a < b then true else if b < a then false else plt x y
noncomputable def pcX (f : Int → Int → Bool) (g : List Nat → List Nat → Bool) (a b : PV) : Option Bool := match asI a with
  | some x => (asI b).map fun y => f x y
  | none => (asS a).bind fun x => (asS b).map fun y => g x y
noncomputable def pcI (f : Int → Int → Bool) (a b : PV) : Option Bool := (asI a).bind fun x => (asI b).map fun y => f x y

noncomputable def pcmp (O : List (Option (List PV))) (op : PCmp) (a b : PV) : Option Bool :=
  match op with
  | .eq => peq O a b
  | .ne => (peq O a b).map (!·)
  | .inn => pin O a b
  | .nin => (pin O a b).map (!·)
  | .is => pis a b
  | .isn => (pis a b).map (!·)
  | .lt => pcI (fun i j => decide (i < j)) a b
  | .gt => pcX (fun i j => decide (j < i)) (fun x y => plt y x) a b
  | .le => pcX (fun i j => decide (i ≤ j)) (fun x y => !plt y x) a b
  | .ge => pcI (fun i j => decide (j ≤ i)) a b

noncomputable def ptruth (O : List (Option (List PV))) : PV → Option Bool
  | .none => some false
  | .bool b => some b
  | .int i => some (decide (i ≠ 0))
  | .str l => if l.length ≤ LIM then some (!l.isEmpty) else none
  | .tup l => if l.length ≤ LIM then some (!l.isEmpty) else none
  | v => (asL O v).bind fun l => if l.length ≤ LIM then some (!l.isEmpty) else none

noncomputable def pitem (O : List (Option (List PV))) (a i : PV) : Option PV := (asI i).bind fun i => if i.natAbs < 2 ^ 62 then
    (match asS a with
    | some l => (pidx l i).map fun c => .str [c]
    | none => match asT a with
      | some l => pidx l i
      | none => (asL O a).bind fun l => pidx l i)
  else none

noncomputable def ppart : PV → Option (Option Int)
  | .none => some none
  | .int i => some (some i)
  | _ => none
noncomputable def pslc (O : List (Option (List PV))) (a lo hi : PV) : Option PV := (ppart lo).bind fun lo => (ppart hi).bind fun hi => match asS a with
  | some l => if l.length ≤ LIM then some (.str (pslice l lo hi)) else none
  | none => match asT a with
    | some l => lo.bind fun k => if hi.isNone = true ∧ l.length ≤ LIM ∧ 1 ≤ k ∧ k ≤ l.length then some (.tup (l.drop k.toNat)) else none
    | none => (asL O a).bind fun l => if l.length ≤ LIM then some (.list (pslice l lo hi)) else none

noncomputable def pints : List PV → Option (List Int)
  | [] => some []
  | v :: r => (asI v).bind fun i => (pints r).map (i :: ·)
noncomputable def pstrs : List PV → Option (List (List Nat))
  | [] => some []
  | v :: r => (asS v).bind fun l => (pstrs r).map (l :: ·)
noncomputable def pone : List PV → Option PV
  | [] => none
  | v :: r => if r.isEmpty then some v else none

noncomputable def plen (O : List (Option (List PV))) (v : PV) : Option PV := match asS v with
  | some l => if l.length < 2 ^ 62 then some (.int l.length) else none
  | none => match asT v with
    | some l => if l.length < 2 ^ 62 then some (.int l.length) else none
    | none => (asL O v).bind fun l => if l.length < 2 ^ 62 then some (.int l.length) else none
noncomputable def ptwo : List PV → Option (PV × PV)
  | [] => none
  | v :: r => (pone r).map fun u => (v, u)
noncomputable def pone1 : List Nat → Option Nat
  | [] => none
  | c :: r => if r.isEmpty then some c else none
noncomputable def pthree : List PV → Option (PV × PV × PV)
  | [] => none
  | v :: r => (ptwo r).map fun u => (v, u)
/-- where a text of one sign is found between two places -/
noncomputable def pfind (a l : List Nat) (i j : Nat) : Int := match ((l.take j).drop i).findIdx? fun c => [c] == a with
  | some k => ((i + k : Nat) : Int)
  | none => -1
noncomputable def pbi (O : List (Option (List PV))) (b : PBi) (as : List PV) : Option PV := match b with
  | .len => (pone as).bind (plen O)
  | .max => (pone as).bind fun v => ((asL O v).bind pints).bind fun l => (l.find? fun m => l.all fun y => decide (y ≤ m)).map .int
  | .chr => (pone as).bind fun v => (asI v).bind fun i => if 0xE000 ≤ i ∧ i < 0x110000 then some (.str [i.toNat]) else none
  | .ord => (pone as).bind fun v => (asS v).bind fun l => (pone1 l).map fun c : Nat => .int c

noncomputable def psplitGo (sep : List Nat) : Nat → List Nat → List Nat → List (List Nat)
  | _, acc, [] => [acc.reverse]
  | skip + 1, acc, _ :: r => psplitGo sep skip acc r
  | 0, acc, c :: r => if sep.isPrefixOf (c :: r) then acc.reverse :: psplitGo sep (sep.length - 1) [] r else psplitGo sep 0 (c :: acc) r
noncomputable def psplit (sep l : List Nat) : List (List Nat) := psplitGo sep 0 [] l
noncomputable def pjoin (sep : List Nat) : List (List Nat) → List Nat
  | [] => []
  | [x] => x
  | x :: y :: r => x ++ sep ++ pjoin sep (y :: r)
noncomputable def preplace (x a b : List Nat) : List Nat := pjoin b (psplit a x)

noncomputable def pindex (O : List (Option (List PV))) (o x : PV) : Option PV := (asL O o).bind fun vs => if okDs 8 vs && (okD 8 x && decide (vs.length ≤ LIM)) then (vs.findIdx? fun y => pveq y x).map fun (i : Nat) => .int i else none
noncomputable def pme (O : List (Option (List PV))) (m : PMe) (o : PV) (as : List PV) : Option PV := match m with
  | .join => (asS o).bind fun l => (pone as).bind fun v => ((asL O v).bind pstrs).bind fun ls => if (ls.map List.length).sum + ls.length * l.length ≤ LIM then some (.str (pjoin l ls)) else none
  | .split => (asS o).bind fun l => (pone as).bind fun v => (asS v).bind fun sep => if sep.isEmpty || decide (LIM < l.length) then none else some (.list ((psplit sep l).map .str))
  | .replace => (asS o).bind fun l => (ptwo as).bind fun p => (asS p.1).bind fun a => (asS p.2).bind fun _ => if pisIn a l then none else some (.str l)
  | .find => (asS o).bind fun l => (pthree as).bind fun p => (asS p.1).bind fun a => (asI p.2.1).bind fun i => (asI p.2.2).bind fun j => if a.length = 1 ∧ 0 ≤ i ∧ i < LIM ∧ 0 ≤ j ∧ j ≤ l.length ∧ l.length ≤ LIM then some (.int (pfind a l i.toNat j.toNat)) else none
  | .index => (pone as).bind (pindex O o)

set_option genInjectivity false
mutual
inductive PE where
  | cn | cb (b : Bool) | ci (i : Int) | cs (l : List Nat)
  | var (i : Nat)
  | bin (op : PBin) (a b : PE)
  | cmp (op : PCmp) (a b : PE)
  | cmp2 (op op2 : PCmp) (a b c : PE)
  | and2 (a b : PE) | or2 (a b : PE) | not (a : PE)
  | ite (c a b : PE)
  | idx (a i : PE) | sl (a lo hi : PE)
  | tup (es : PEs) | lst (es : PEs)
  | call (f : String) (es : PEs)
  | calls (f : String) (e s : PE)
  | bi (b : PBi) (es : PEs)
  | me (m : PMe) (o : PE) (es : PEs)
  | comp (elt : PE) (x : Nat) (it : PIt) (cs : PEs) (fr : List (Option Nat))
  | gjoin (sep : PE) (it : PIt) (a b c d : List Nat)
  | fstr (es : PEs)
  | resub (e : PE)
  | isstr (e : PE) | spec (e : PE)
inductive PEs where
  | nil | cons (e : PE) (r : PEs)
inductive PIt where
  | val (e : PE) | rng (es : PEs)
end

noncomputable def mapO {α β : Type} (f : α → Option (Option β)) : List α → Option (List β)
  | [] => some []
  | x :: r => (f x).bind fun o => match o with
    | some y => (mapO f r).map (y :: ·)
    | none => mapO f r

noncomputable def prange (a b : Int) : List PV := (List.range (b - a).toNat).map fun k : Nat => .int (a + k)
/-- downwards -/
noncomputable def prangeD (a b : Int) : List PV := (List.range (a - b).toNat).map fun k : Nat => .int (a - k)
noncomputable def prng : List PV → Option (List PV)
  | [] => none
  | v :: r => (asI v).bind fun x => match r with
    | [] => if x.natAbs ≤ LIM then some (prange 0 x) else none
    | u :: q => (asI u).bind fun y => if x.natAbs ≤ LIM ∧ y.natAbs ≤ LIM then (match q with
      | [] => some (prange x y)
      | z :: q2 => (asI z).bind fun z => if q2.isEmpty ∧ z = -1 then some (prangeD x y) else none) else none
noncomputable abbrev PF1 := String → List PV → Option PV
noncomputable abbrev Slots := List (Option PV)
noncomputable abbrev Owns := List (Option (List PV))

noncomputable def piter (O : Owns) (v : PV) : Option (List PV) := match asS v with
  | some l => some (l.map fun c => .str [c])
  | none => match asT v with
    | some l => some l
    | none => asL O v

/-- the signs that escape marks -/
noncomputable def specials : List Nat := [40, 41, 91, 93, 123, 125, 63, 42, 43, 45, 124, 94, 36, 92, 46, 38, 126, 35, 32, 9, 10, 13, 11, 12]
noncomputable def pesc (c : Nat) : List Nat := if specials.contains c then [92, c] else [c]

noncomputable def pspec : List Nat → Option PV
  | [] => none
  | c :: r => if r.isEmpty then some (.str (pesc c)) else none

mutual
noncomputable def ev (F : PF1) (O : Owns) (G : Slots) : PE → Option PV
  | .cn => some .none
  | .cb b => some (.bool b)
  | .ci i => some (.int i)
  | .cs l => some (.str l)
  | .var i => (G[i]?).bind id
  | .bin op a b => (ev F O G a).bind fun x => (ev F O G b).bind fun y => pbin O op x y
  | .cmp op a b => (ev F O G a).bind fun x => (ev F O G b).bind fun y => (pcmp O op x y).map .bool
  | .cmp2 _ _ _ _ _ => none
  | .and2 a b => (ev F O G a).bind fun x => (ptruth O x).bind fun t => if t then ev F O G b else some x
  | .or2 a b => (ev F O G a).bind fun x => (ptruth O x).bind fun t => if t then some x else ev F O G b
  | .not a => (ev F O G a).bind fun x => (ptruth O x).map fun t => .bool (!t)
  | .ite c a b => (pt F O G c).bind fun t => if t then ev F O G a else ev F O G b
  | .idx a i => (ev F O G a).bind fun x => (ev F O G i).bind fun y => pitem O x y
  | .sl a lo hi => (ev F O G a).bind fun x => (ev F O G lo).bind fun y => (ev F O G hi).bind fun z => pslc O x y z
  | .tup es => (evs F O G es).map .tup
  | .lst es => (evs F O G es).map .list
  | .call f es => (evs F O G es).bind fun vs => if noOwnL vs then F f vs else none
  | .calls f e s => (ev F O G e).bind fun x => (ev F O G s).bind fun y => (asL [] y).bind fun vs => if vs.length ≤ LIM ∧ noOwnL (x :: vs) = true then F f (x :: vs) else none
  | .bi b es => (evs F O G es).bind fun vs => pbi O b vs
  | .me m o es => (ev F O G o).bind fun x => (evs F O G es).bind fun vs => pme O m x vs
  | .comp elt x it cs fr => (evI F O G it).bind fun its =>
      (mapO (fun v => (pts F O ((fr.map fun j => j.bind fun j => (G[j]?).bind id).set x (some v)) cs).bind fun t =>
        if t then (ev F O ((fr.map fun j => j.bind fun j => (G[j]?).bind id).set x (some v)) elt).map some else some none) its).map .list
  | .gjoin sep it a b c d => (ev F O G sep).bind fun sp => (asS sp).bind fun sp => (evI F O G it).bind fun its => (pstrs its).bind fun ls =>
      if (ls.all fun l => !pisIn a l && decide (l.length ≤ LIM)) = true ∧ c.length = 1 ∧ c ≠ d ∧ d.length ≤ 14 ∧ ls.length ≤ LIM ∧ ((ls.map fun l => preplace l c d).map List.length).sum + ls.length * sp.length ≤ LIM then some (.str (pjoin sp (ls.map fun l => preplace l c d))) else none
  | .fstr es => (evs F O G es).bind fun vs => (pstrs vs).bind fun ls => if (ls.map List.length).sum ≤ LIM then some (.str ls.flatten) else none
  | .resub e => (ev F O G e).bind fun v => F "%sub" [v]
  | .isstr e => (ev F O G e).bind fun v => (asS v).map fun _ => .bool true
  | .spec e => (ev F O G e).bind fun v => (asS v).bind pspec
noncomputable def evs (F : PF1) (O : Owns) (G : Slots) : PEs → Option (List PV)
  | .nil => some []
  | .cons e r => (ev F O G e).bind fun v => (evs F O G r).map (v :: ·)
noncomputable def evI (F : PF1) (O : Owns) (G : Slots) : PIt → Option (List PV)
  | .val e => (ev F O G e).bind fun v => (piter O v).bind fun l => if l.length ≤ LIM then some l else none
  | .rng es => (evs F O G es).bind prng
noncomputable def pts (F : PF1) (O : Owns) (G : Slots) : PEs → Option Bool
  | .nil => some true
  | .cons e r => (pt F O G e).bind fun t => if t then pts F O G r else some false
noncomputable def pt (F : PF1) (O : Owns) (G : Slots) : PE → Option Bool
  | .not a => (pt F O G a).map (!·)
  | .and2 a b => (pt F O G a).bind fun t => if t then pt F O G b else some false
  | .or2 a b => (pt F O G a).bind fun t => if t then some true else pt F O G b
  | .cmp op a b => (ev F O G a).bind fun x => (ev F O G b).bind fun y => pcmp O op x y
  | .cmp2 op op2 a b c => (ev F O G a).bind fun x => (ev F O G b).bind fun y => (pcmp O op x y).bind fun r => if r then (ev F O G c).bind fun z => pcmp O op2 y z else some false
  | .var i => ((G[i]?).bind id).bind (ptruth O)
  | .cb b => some b
  | .isstr e => (ev F O G e).bind fun v => (asS v).map fun _ => true
  | .call f es => (evs F O G es).bind fun vs => if noOwnL vs then (F f vs).bind (ptruth O) else none
  | _ => none
end

noncomputable def evIF (F : PF1) (O : Owns) (G : Slots) : PIt → Option (List PV)
  | .val e => (ev F O G e).bind fun v => (piter [] v).bind fun l => if l.length ≤ LIM then some l else none
  | .rng es => (evs F O G es).bind prng

inductive PF where
  | next | brk | ret (v : PV)

mutual
inductive PS where
  | asg (i : Nat) (e : PE)
  | asgo (i : Nat) (es : PEs)
  | asgt (is : List Nat) (fs : List Bool) (es : PEs)
  | asgu (is : List Nat) (e : PE)
  | asga (i j : Nat)
  | aug (i : Nat) (op : PBin) (e : PE)
  | augo (i : Nat) (e : PE)
  | seti (i : Nat) (k e : PE)
  | deli (i : Nat) (k : PE)
  | frz (i : Nat) (p : PS)
  | app (i : Nat) (e : PE)
  | appf (i : Nat) (e : PE)
  | ite (c : PE) (a b : PSs)
  | wh (c : PE) (a : PSs)
  | fr (i : Nat) (it : PIt) (a : PSs)
  | ret (e : PE) | brk
  | asrt (c : PE)
inductive PSs where
  | nil | cons (p : PS) (r : PSs)
end

structure St where
  G : Slots
  O : Owns

noncomputable def St.put (σ : St) (i : Nat) (v : PV) : St := ⟨σ.G.set i (some v), σ.O⟩
noncomputable def St.putO (σ : St) (k : Nat) (vs : List PV) : St := ⟨σ.G, σ.O.set k (some vs)⟩
noncomputable def St.new (σ : St) (i : Nat) (vs : List PV) : St := ⟨σ.G.set i (some (.own σ.O.length)), σ.O ++ [some vs]⟩
noncomputable def St.own (σ : St) (k : Nat) : Option (Nat × List PV) := ((σ.O[k]?).bind id).map fun vs => (k, vs)
noncomputable def St.ownAt (σ : St) (i : Nat) : Option (Nat × List PV) := ((σ.G[i]?).bind id).bind fun v => (asOwn v).bind σ.own
noncomputable def St.appAt (σ : St) (i : Nat) : Option (Nat × List PV) := ((σ.G[i]?).bind id).bind fun v => (asApp v).bind σ.own

/-- every own list frozen -/
noncomputable def frzV (O : Owns) (v : PV) : PV := match (asOwn v).bind fun k => (O[k]?).bind id with
  | some vs => .list vs
  | none => v

noncomputable def frzN (O : Owns) (v : PV) : Option PV := if noOwn (frzV O v) then some (frzV O v) else none

noncomputable def whIt (test : St → Option Bool) (body : St → Option (St × PF)) : Nat → St → Option (St × PF)
  | 0, _ => none
  | n + 1, σ => (test σ).bind fun t => if t then (body σ).bind fun r => (match r.2 with
      | .next => whIt test body n r.1
      | .brk => some (r.1, .next)
      | .ret v => some (r.1, .ret v)) else some (σ, .next)
noncomputable def frIt (i : Nat) (body : St → Option (St × PF)) : List PV → St → Option (St × PF)
  | [], σ => some (σ, .next)
  | v :: r, σ => (body (σ.put i v)).bind fun q => match q.2 with
      | .next => frIt i body r q.1
      | .brk => some (q.1, .next)
      | .ret v => some (q.1, .ret v)

noncomputable def putAll : List Nat → List PV → St → Option St
  | [], vs, σ => if vs.isEmpty then some σ else none
  | i :: is, vs, σ => match vs with
    | [] => none
    | v :: r => putAll is r (σ.put i v)

noncomputable def asLst : PE → Option PEs
  | .lst l => some l
  | _ => none
/-- a display's items, an own list made of the lists that are to be own -/
noncomputable def evT (F : PF1) : List Bool → PEs → St → Option (List PV × St)
  | [], es, σ => match es with
    | .nil => some ([], σ)
    | .cons _ _ => none
  | f :: fs, es, σ => match es with
    | .nil => none
    | .cons e r => if f then (asLst e).bind fun l => (evs F σ.O σ.G l).bind fun vs => (evT F fs r ⟨σ.G, σ.O ++ [some vs]⟩).map fun q => (.own σ.O.length :: q.1, q.2)
      else (ev F σ.O σ.G e).bind fun v => (evT F fs r σ).map fun q => (v :: q.1, q.2)
noncomputable def plain2 (x y : PV) : Bool := ((asI x).isSome && (asI y).isSome) || ((asS x).isSome && (asS y).isSome)
mutual
noncomputable def ex (n : Nat) (F : PF1) : PS → St → Option (St × PF)
  | .asg i e, σ => (ev F σ.O σ.G e).map fun v => (σ.put i v, .next)
  | .asgo i es, σ => (evs F σ.O σ.G es).map fun vs => (σ.new i vs, .next)
  | .asgt is fs es, σ => (evT F fs es σ).bind fun q => (putAll is q.1 q.2).map fun σ' => (σ', .next)
  | .asgu is e, σ => (ev F σ.O σ.G e).bind fun v => (asT v).bind fun vs => (putAll is vs σ).map fun σ' => (σ', .next)
  | .asga i j, σ => (σ.ownAt j).map fun k => (σ.put i (.app k.1), .next)
  | .aug i op e, σ => (ev F σ.O σ.G (.var i)).bind fun x => (ev F σ.O σ.G e).bind fun y => if plain2 x y then (pbin σ.O op x y).map fun v => (σ.put i v, .next) else none
  | .augo i e, σ => (σ.ownAt i).bind fun k => (ev F σ.O σ.G e).bind fun v => (asL [] v).bind fun vs => if k.2.length + vs.length ≤ LIM then some (σ.putO k.1 (k.2 ++ vs), .next) else none
  | .seti i k e, σ => (ev F σ.O σ.G e).bind fun v => (σ.ownAt i).bind fun o => (ev F σ.O σ.G k).bind fun x => (asI x).bind fun x => if 0 ≤ x ∧ x < o.2.length ∧ o.2.length ≤ LIM then some (σ.putO o.1 (o.2.set x.toNat v), .next) else none
  | .deli i k, σ => (σ.ownAt i).bind fun o => (ev F σ.O σ.G k).bind fun x => (asI x).bind fun x => if 0 ≤ x ∧ x < o.2.length ∧ o.2.length ≤ LIM then some (σ.putO o.1 (o.2.eraseIdx x.toNat), .next) else none
  | .frz i p, σ => (σ.ownAt i).bind fun o => ex n F p ⟨σ.G.set i (some (.list o.2)), σ.O.set o.1 none⟩
  | .app i e, σ => (σ.ownAt i).bind fun k => (ev F σ.O σ.G e).bind fun v => if k.2.length ≤ LIM then some (σ.putO k.1 (k.2 ++ [v]), .next) else none
  | .appf i e, σ => (σ.appAt i).bind fun k => (ev F σ.O σ.G e).bind fun v => if k.2.length ≤ LIM then some (σ.putO k.1 (k.2 ++ [v]), .next) else none
  | .ite c a b, σ => (pt F σ.O σ.G c).bind fun t => if t then exs n F a σ else exs n F b σ
  | .wh c a, σ => whIt (fun σ => pt F σ.O σ.G c) (fun σ => exs n F a σ) n σ
  | .fr i it a, σ => (evIF F σ.O σ.G it).bind fun its => frIt i (fun σ => exs n F a σ) its σ
  | .ret e, σ => (ev F [] (σ.G.map fun v => v.bind (frzN σ.O)) e).map fun v => (σ, .ret v)
  | .brk, σ => some (σ, .brk)
  | .asrt c, σ => (pt F σ.O σ.G c).bind fun t => if t then some (σ, .next) else none
noncomputable def exs (n : Nat) (F : PF1) : PSs → St → Option (St × PF)
  | .nil, σ => some (σ, .next)
  | .cons p r, σ => (ex n F p σ).bind fun q => match q.2 with
    | .next => exs n F r q.1
    | .brk => some (q.1, .brk)
    | .ret v => some (q.1, .ret v)
end

/-- a def's call: its parameters stand first among its names -/
noncomputable def pfun (n : Nat) (F : PF1) (names : Nat) (body : PSs) (args : List PV) : Option PV :=
  (exs n F body ⟨args.map some ++ List.replicate (names - args.length) none, []⟩).bind fun q => match q.2 with
  | .ret v => if noOwn v then some v else none
  | .next => some .none
  | .brk => none
end Mine

namespace Mine

theorem nn {α : Type} {x : α} {P : Prop} (h : (none : Option α) = some x) : P := nomatch h
theorem ite_some {α : Type} {c : Prop} [Decidable c] {a : Option α} {b : α} (h : (if c then a else none) = some b) : c ∧ a = some b := by
  by_cases hc : c
  · rw [if_pos hc] at h; exact ⟨hc, h⟩
  · rw [if_neg hc] at h; cases h
theorem ite_no {α : Type} {c : Prop} [Decidable c] {a : Option α} {b : α} (h : (if c then none else a) = some b) : ¬ c ∧ a = some b := by
  by_cases hc : c
  · rw [if_pos hc] at h; cases h
  · rw [if_neg hc] at h; exact ⟨hc, h⟩
theorem and_t {a b : Bool} (h : (a && b) = true) : a = true ∧ b = true := by
  cases a
  · cases h
  · exact ⟨rfl, h⟩

/-! views -/
noncomputable def vName (e : Expr) : Option {z : Str × Pos // e = .Name z.1 z.2} :=
  if h : e.ctorIdx = 23 then Expr.Name.elim (motive_1 := fun e => Option {z : Str × Pos // e = .Name z.1 z.2}) e h fun x p => some ⟨(x, p), rfl⟩ else none
noncomputable def vAttr (e : Expr) : Option {z : Expr × Str × Pos // e = .Attribute z.1 z.2.1 z.2.2} :=
  if h : e.ctorIdx = 20 then Expr.Attribute.elim (motive_1 := fun e => Option {z : Expr × Str × Pos // e = .Attribute z.1 z.2.1 z.2.2}) e h fun o m p => some ⟨(o, m, p), rfl⟩ else none
noncomputable def vLam (e : Expr) : Option {z : Arguments × Expr × Scope × Pos // e = .Lambda z.1 z.2.1 z.2.2.1 z.2.2.2} :=
  if h : e.ctorIdx = 4 then Expr.Lambda.elim (motive_1 := fun e => Option {z : Arguments × Expr × Scope × Pos // e = .Lambda z.1 z.2.1 z.2.2.1 z.2.2.2}) e h fun a b s p => some ⟨(a, b, s, p), rfl⟩ else none
noncomputable def vCall (e : Expr) : Option {z : Expr × List Expr × Pos // e = .Call z.1 z.2.1 [] z.2.2} :=
  if h : e.ctorIdx = 16 then Expr.Call.elim (motive_1 := fun e => Option {z : Expr × List Expr × Pos // e = .Call z.1 z.2.1 [] z.2.2}) e h fun g as ks p => if h : ks = [] then some ⟨(g, as, p), congrArg (fun ks => Expr.Call g as ks p) h⟩ else none else none
noncomputable def vTup (e : Expr) : Option {z : List Expr × Nat × Pos // e = .Tuple z.1 z.2.1 z.2.2} :=
  if h : e.ctorIdx = 25 then Expr.Tuple.elim (motive_1 := fun e => Option {z : List Expr × Nat × Pos // e = .Tuple z.1 z.2.1 z.2.2}) e h fun es k p => some ⟨(es, k, p), rfl⟩ else none
noncomputable def vLst (e : Expr) : Option {z : List Expr × Pos // e = .List z.1 z.2} :=
  if h : e.ctorIdx = 24 then Expr.List.elim (motive_1 := fun e => Option {z : List Expr × Pos // e = .List z.1 z.2}) e h fun es p => some ⟨(es, p), rfl⟩ else none
noncomputable def vComp (e : Expr) : Option {z : Expr × List Comprehension × Scope × Pos // e = .ListComp z.1 z.2.1 z.2.2.1 z.2.2.2} :=
  if h : e.ctorIdx = 8 then Expr.ListComp.elim (motive_1 := fun e => Option {z : Expr × List Comprehension × Scope × Pos // e = .ListComp z.1 z.2.1 z.2.2.1 z.2.2.2}) e h fun a g s p => some ⟨(a, g, s, p), rfl⟩ else none
noncomputable def vFV (e : Expr) : Option {z : Expr × Pos // e = .FormattedValue z.1 (-1) none z.2} :=
  if h : e.ctorIdx = 17 then Expr.FormattedValue.elim (motive_1 := fun e => Option {z : Expr × Pos // e = .FormattedValue z.1 (-1) none z.2}) e h fun v cv sp p => (match sp with
    | none => if h : cv = -1 then some ⟨(v, p), congrArg (fun c => Expr.FormattedValue v c none p) h⟩ else none
    | some _ => none) else none
noncomputable def vStar (e : Expr) : Option {z : Expr × Pos // e = .Starred z.1 z.2} :=
  if h : e.ctorIdx = 22 then Expr.Starred.elim (motive_1 := fun e => Option {z : Expr × Pos // e = .Starred z.1 z.2}) e h fun v p => some ⟨(v, p), rfl⟩ else none
noncomputable def vGen (e : Expr) : Option {z : Expr × List Comprehension × Scope × Pos // e = .GeneratorExp z.1 z.2.1 z.2.2.1 z.2.2.2} :=
  if h : e.ctorIdx = 11 then Expr.GeneratorExp.elim (motive_1 := fun e => Option {z : Expr × List Comprehension × Scope × Pos // e = .GeneratorExp z.1 z.2.1 z.2.2.1 z.2.2.2}) e h fun a g s p => some ⟨(a, g, s, p), rfl⟩ else none
noncomputable def vSub (e : Expr) : Option {z : Expr × Expr × Pos // e = .Subscript z.1 z.2.1 z.2.2} :=
  if h : e.ctorIdx = 21 then Expr.Subscript.elim (motive_1 := fun e => Option {z : Expr × Expr × Pos // e = .Subscript z.1 z.2.1 z.2.2}) e h fun a i p => some ⟨(a, i, p), rfl⟩ else none
noncomputable def vCst (e : Expr) : Option {z : Const × Nat × Pos // e = .Constant z.1 z.2.1 z.2.2} :=
  if h : e.ctorIdx = 19 then Expr.Constant.elim (motive_1 := fun e => Option {z : Const × Nat × Pos // e = .Constant z.1 z.2.1 z.2.2}) e h fun c k p => some ⟨(c, k, p), rfl⟩ else none
noncomputable def cStr (c : Const) : Option {s : Str // c = .str s} := match c with
  | .str s => some ⟨s, rfl⟩
  | _ => none
noncomputable def cInt (c : Const) : Option {s : Int // c = .int s} := match c with
  | .int s => some ⟨s, rfl⟩
  | _ => none
noncomputable def vStr (e : Expr) : Option {z : Str × Nat × Pos // e = .Constant (.str z.1) z.2.1 z.2.2} :=
  (vCst e).bind fun z => (cStr z.1.1).map fun s => ⟨(s.1, z.1.2.1, z.1.2.2), z.2.trans (congrArg (fun c => Expr.Constant c z.1.2.1 z.1.2.2) s.2)⟩
noncomputable def vInt (e : Expr) : Option {z : Int × Nat × Pos // e = .Constant (.int z.1) z.2.1 z.2.2} :=
  (vCst e).bind fun z => (cInt z.1.1).map fun s => ⟨(s.1, z.1.2.1, z.1.2.2), z.2.trans (congrArg (fun c => Expr.Constant c z.1.2.1 z.1.2.2) s.2)⟩
noncomputable def vSlice (e : Expr) : Option {z : Option Expr × Option Expr × Pos // e = .Slice z.1 z.2.1 none z.2.2} :=
  if h : e.ctorIdx = 26 then Expr.Slice.elim (motive_1 := fun e => Option {z : Option Expr × Option Expr × Pos // e = .Slice z.1 z.2.1 none z.2.2}) e h fun lo hi st p => (match st with
    | none => some ⟨(lo, hi, p), rfl⟩
    | some _ => none) else none
noncomputable def one {α : Type} : (l : List α) → Option {z : α // l = [z]}
  | [] => none
  | a :: r => (match r with
    | [] => some ⟨a, rfl⟩
    | _ :: _ => none)
noncomputable def two {α : Type} : (l : List α) → Option {z : α × α // l = [z.1, z.2]}
  | [] => none
  | a :: r => (one r).map fun b => ⟨(a, b.1), congrArg (a :: ·) b.2⟩
noncomputable def three {α : Type} : (l : List α) → Option {z : α × α × α // l = [z.1, z.2.1, z.2.2]}
  | [] => none
  | a :: r => (two r).map fun b => ⟨(a, b.1), congrArg (a :: ·) b.2⟩

noncomputable def isSlot : NameKind → Bool
  | .local => true
  | .cell => true
  | .free => true
  | _ => false
noncomputable def slotOf (sc : Scope) (x : Str) : Option Nat :=
  (sc.names.lookup x).bind fun k => if isSlot k then sc.names.findIdx? fun p => p.1 == x else none
noncomputable def isGl (sc : Scope) (x : Str) : Bool := sc.names.lookup x == some .globalImplicit

noncomputable def cBin : Operator → Option PBin
  | .Add => some .add | .Sub => some .sub | .Mult => some .mul | .FloorDiv => some .fdiv | .Mod => some .mod | .Pow => some .pow | _ => none
noncomputable def cCmp : CmpOp → PCmp
  | .Eq => .eq | .NotEq => .ne | .Lt => .lt | .LtE => .le | .Gt => .gt | .GtE => .ge | .Is => .is | .IsNot => .isn | .In => .inn | .NotIn => .nin
noncomputable def cBi (f : Str) (n : Nat) : Option PBi := if n == 1 then (if f == "len" then some .len else if f == "max" then some .max else if f == "chr" then some .chr else if f == "ord" then some .ord else none) else none
noncomputable def cMe (f : Str) (n : Nat) : Option PMe := if f == "join" && n == 1 then some .join else if f == "split" && n == 1 then some .split else if f == "replace" && n == 2 then some .replace else if f == "index" && n == 1 then some .index else if f == "find" && n == 3 then some .find else none
noncomputable def dbg (x : Str) : Bool := x == ("__debug__" : Str) || x == ("__classdict__" : Str)

noncomputable def PEs.len : PEs → Nat
  | .nil => 0
  | .cons _ r => r.len + 1

noncomputable def noSuper (e : Expr) : Bool := (vCall e).all fun z => (vName z.1.1).isNone || !z.1.2.1.isEmpty
/-- what a comprehension's own names must be -/
noncomputable def compOk (sc sc2 : Scope) (x : Str) : Bool :=
  sc2.kind == .function && (slotOf sc2 "stuff").isNone && (sc2.names.lookup x == some .local || sc2.names.lookup x == some .cell) && sc2.names.all fun p => match p.2 with
    | .local => sc2.names.lookup p.1 == some .local
    | .free => sc.names.lookup p.1 == some .cell || sc.names.lookup p.1 == some .free
    | .cell => p.1 == x
    | _ => true
noncomputable def noSet (e : Expr) : Bool := !(e.ctorIdx == 7)
noncomputable def isStar (e : Expr) : Bool := e.ctorIdx == 22
noncomputable def NoStars (l : List Expr) : Bool := l.all fun e => !isStar e

noncomputable def fnTab : List (Str × String) := (["replace", "escape", "translate", "_translate", "_join_translated_parts", "_law_closed", "_law_machine", "_law_parts", "_law_rows", "_law_fits", "_law_takes"] : List String).map fun x => (Str.ofString x, x)

/-- isinstance(e, str) -/
noncomputable def isI (sc : Scope) (f : Str) (args : List Expr) : Option {z : Expr × Str × Pos // args = [z.1, .Name z.2.1 z.2.2] ∧ (f == "isinstance" && (z.2.1 == "str" && (isGl sc "isinstance" && (isGl sc "str" && NoStars [z.1])))) = true} :=
  (two args).bind fun z => (vName z.1.2).bind fun n => if h : (f == "isinstance" && (n.1.1 == "str" && (isGl sc "isinstance" && (isGl sc "str" && NoStars [z.1.1])))) = true then some ⟨(z.1.1, n.1.1, n.1.2), z.2.trans (congrArg (fun q => [z.1.1, q]) n.2), h⟩ else none
/-- .translate(_special_chars_map) -/
noncomputable def isT (sc : Scope) (m : Str) (args : List Expr) : Option {z : Str × Pos // args = [.Name z.1 z.2] ∧ (m == "translate" && (z.1 == "_special_chars_map" && isGl sc "_special_chars_map")) = true} :=
  (one args).bind fun z => (vName z.1).bind fun n => if h : (m == "translate" && (n.1.1 == "_special_chars_map" && isGl sc "_special_chars_map")) = true then some ⟨n.1, z.2.trans (congrArg (fun q => [q]) n.2), h⟩ else none

/-- a lambda without defaults and without names of the function around it -/
noncomputable def lamOk (ps : Arguments) (lsc : Scope) : Bool := ps.kw_defaults.isEmpty && ps.defaults.isEmpty && lsc.names.all fun p => p.2 != .free

noncomputable def cO (f : Expr → Option PE) : Option Expr → Option PE
  | none => some .cn
  | some e => f e
noncomputable def cEs (f : Expr → Option PE) : List Expr → Option PEs
  | [] => some .nil
  | e :: r => (f e).bind fun e => (cEs f r).map fun r => .cons e r
noncomputable def cFs (f : Expr → Option PE) : List Expr → Option PEs
  | [] => some .nil
  | e :: r => (match vFV e with
    | some z => (f z.1.1).bind fun e => (cFs f r).map fun r => .cons e r
    | none => (vStr e).bind fun z => (cFs f r).map fun r => .cons (.cs z.1.1.cps.toList) r)
/-- range(..) -/
noncomputable def rngOf (sc : Scope) (e : Expr) : Option {z : Str × Pos × List Expr × Pos // e = .Call (.Name z.1 z.2.1) z.2.2.1 [] z.2.2.2 ∧ (z.1 == "range" && (isGl sc "range" && NoStars z.2.2.1)) = true} :=
  (vCall e).bind fun c => (vName c.1.1).bind fun n => if h : (n.1.1 == "range" && (isGl sc "range" && NoStars c.1.2.1)) = true then some ⟨(n.1.1, n.1.2, c.1.2.1, c.1.2.2), c.2.trans (congrArg (fun g => Expr.Call g c.1.2.1 [] c.1.2.2) n.2), h⟩ else none
noncomputable def cI (sc : Scope) (f : Expr → Option PE) (e : Expr) : Option PIt := match rngOf sc e with
  | some z => (cEs f z.1.2.2.1).map .rng
  | none => (f e).map .val
noncomputable def cConst : Const → Option PE
  | .none => some .cn
  | .bool b => some (.cb b)
  | .int i => some (.ci i)
  | .str s => some (.cs s.cps.toList)
  | _ => none
noncomputable def cBool (f : Expr → Option PE) (op : BoolOp) (es : List Expr) : Option PE := match op with
  | .And => (two es).bind fun z => (f z.1.1).bind fun a => (f z.1.2).map fun b => .and2 a b
  | .Or => match two es with
    | some z => (f z.1.1).bind fun a => (f z.1.2).map fun b => .or2 a b
    | none => (three es).bind fun z => (f z.1.1).bind fun a => (f z.1.2.1).bind fun b => (f z.1.2.2).map fun c => .or2 a (.or2 b c)
noncomputable def cUn (f : Expr → Option PE) (op : UnaryOp) (a : Expr) : Option PE := match op with
  | .Not => (f a).map .not
  | .USub => (vInt a).map fun z => .ci (-z.1.1)
  | _ => none
noncomputable def cCmpE (f : Expr → Option PE) (a : Expr) (ops : List CmpOp) (bs : List Expr) : Option PE := match one ops with
  | some op => (one bs).bind fun b => (f a).bind fun pa => (f b.1).map fun pb => .cmp (cCmp op.1) pa pb
  | none => (two ops).bind fun op => (two bs).bind fun b => (f a).bind fun pa => (f b.1.1).bind fun pb => (f b.1.2).map fun pc => .cmp2 (cCmp op.1.1) (cCmp op.1.2) pa pb pc
noncomputable def cSub (f : Expr → Option PE) (v i : Expr) : Option PE := match vSlice i with
  | some z => (f v).bind fun v => (cO f z.1.1).bind fun lo => (cO f z.1.2.1).map fun hi => .sl v lo hi
  | none => (f v).bind fun v => (f i).map fun i => .idx v i
/-- x, *y -/
noncomputable def starOf (args : List Expr) : Option {z : Expr × Expr × Pos // args = [z.1, .Starred z.2.1 z.2.2]} := (two args).bind fun z => (vStar z.1.2).map fun y => ⟨(z.1.1, y.1.1, y.1.2), z.2.trans (congrArg (fun q => [z.1.1, q]) y.2)⟩
/-- a node that never evaluates -/
noncomputable def badE : PE := .idx .cn .cn
noncomputable def cCallN (F : Expr → Option PE) (sc : Scope) (f : Str) (args : List Expr) : Option PE := match starOf args with
  | some z => if isGl sc f && (!dbg f && !isStar z.1.1) then (fnTab.lookup f).bind fun g => (F z.1.1).bind fun a => (F z.1.2.1).map fun b => .calls g a b else none
  | none => match isI sc f args with
    | some z => (F z.1.1).map .isstr
    | none => if isGl sc f && (!dbg f && NoStars args) then (match cBi f args.length with
      | some b => (cEs F args).map fun as => .bi b as
      | none => (fnTab.lookup f).bind fun g => (cEs F args).map fun as => .call g as) else none
noncomputable def subCond (sc : Scope) (r m : Str) (ps : Arguments) (lsc : Scope) (ap p : Pos) (e : Expr) : Bool :=
  m == "sub" && (r == "_twin_re_1" && (isGl sc "_twin_re_1" && ((slotOf sc "stuff").isSome && (lamOk ps lsc && (ap.endLine == p.line && NoStars [e])))))
noncomputable def subOf (sc : Scope) (o : Expr) (m : Str) (ap p : Pos) (args : List Expr) : Option {e : Expr // ∃ r rp ps b lsc lp, o = .Name r rp ∧ args = [.Lambda ps b lsc lp, e] ∧ subCond sc r m ps lsc ap p e = true} :=
  (two args).bind fun z => (vName o).bind fun n => (vLam z.1.1).bind fun l => if h : subCond sc n.1.1 m l.1.1 l.1.2.2.1 ap p z.1.2 = true then
    some ⟨z.1.2, n.1.1, n.1.2, l.1.1, l.1.2.1, l.1.2.2.1, l.1.2.2.2, n.2, z.2.trans (congrArg (fun q => [q, z.1.2]) l.2), h⟩ else none
theorem comp1 {g : Comprehension} {t : Expr} (h : g.target = t) (h2 : g.is_async = 0) : [g] = [⟨t, g.iter, g.ifs, 0⟩] := by
  cases g; cases h; cases h2; rfl
theorem attr1 {o o' : Expr} {m m' : Str} {p : Pos} (h : o = o') (h2 : m = m') : Expr.Attribute o m p = .Attribute o' m' p := by
  subst h; subst h2; rfl
noncomputable def genOf (gs : List Comprehension) : Option {z : (Str × Pos) × Expr × List Expr // gs = [⟨.Name z.1.1 z.1.2, z.2.1, z.2.2, 0⟩]} :=
  (one gs).bind fun g => (vName g.1.target).bind fun n => if h : g.1.is_async = 0 then some ⟨(n.1, g.1.iter, g.1.ifs), g.2.trans (comp1 n.2 h)⟩ else none
theorem list2 {α : Type} {a b c d : α} (h : a = c) (h2 : b = d) : [a, b] = [c, d] := by subst h; subst h2; rfl
theorem call2eq {e g o : Expr} {as bs : List Expr} {m : Str} {ap p : Pos} (h : e = .Call g as [] p) (h2 : g = .Attribute o m ap) (h3 : m = "replace") (h4 : as = bs) : e = .Call (.Attribute o "replace" ap) bs [] p := by subst h; subst h2; subst h3; subst h4; rfl
/-- o.replace(text, text) -/
noncomputable def repCall (e : Expr) : Option {z : Expr × Pos × (Str × Nat × Pos) × (Str × Nat × Pos) × Pos // e = .Call (.Attribute z.1 "replace" z.2.1) [.Constant (.str z.2.2.1.1) z.2.2.1.2.1 z.2.2.1.2.2, .Constant (.str z.2.2.2.1.1) z.2.2.2.1.2.1 z.2.2.2.1.2.2] [] z.2.2.2.2} :=
  (vCall e).bind fun c => (vAttr c.1.1).bind fun a => (two c.1.2.1).bind fun t => (vStr t.1.1).bind fun x => (vStr t.1.2).bind fun y => if h : a.1.2.1 = "replace" then
    some ⟨(a.1.1, a.1.2.2, x.1, y.1, c.1.2.2), call2eq c.2 a.2 h (t.2.trans (list2 x.2 y.2))⟩ else none
/-- x.replace(text, text).replace(text, text) -/
noncomputable def repTwo (x : Str) (e : Expr) : Option {z : (Pos × Pos × (Str × Nat × Pos) × (Str × Nat × Pos) × Pos) × (Pos × (Str × Nat × Pos) × (Str × Nat × Pos) × Pos) //
    e = .Call (.Attribute (.Call (.Attribute (.Name x z.1.1) "replace" z.1.2.1) [.Constant (.str z.1.2.2.1.1) z.1.2.2.1.2.1 z.1.2.2.1.2.2, .Constant (.str z.1.2.2.2.1.1) z.1.2.2.2.1.2.1 z.1.2.2.2.1.2.2] [] z.1.2.2.2.2) "replace" z.2.1)
      [.Constant (.str z.2.2.1.1) z.2.2.1.2.1 z.2.2.1.2.2, .Constant (.str z.2.2.2.1.1) z.2.2.2.1.2.1 z.2.2.2.1.2.2] [] z.2.2.2.2 ∧ (z.1.2.1.endLine == z.1.2.2.2.2.line && z.2.1.endLine == z.2.2.2.2.line) = true} :=
  (repCall e).bind fun c => (repCall c.1.1).bind fun i => (vName i.1.1).bind fun n => if h : n.1.1 = x ∧ (i.1.2.1.endLine == i.1.2.2.2.2.line && c.1.2.1.endLine == c.1.2.2.2.2.line) = true then
    some ⟨((n.1.2, i.1.2), c.1.2), c.2.trans (by rw [← h.1, ← n.2, ← i.2]), h.2⟩ else none
/-- join(e for x in ..) -/
noncomputable def genCond (sc sc2 : Scope) (o iter : Expr) (ifs : List Expr) (x : Str) (ap p : Pos) : Bool :=
  noSuper o && (ap.endLine == p.line && ((slotOf sc "stuff").isSome && (ifs.isEmpty && (((vName iter).isSome && !dbg x) && (sc2.kind == .function && (!sc2.isCoroutine && (sc2.names.lookup (".0" : Str) == some .local && (sc2.names.lookup x == some .local && sc2.names.all fun p => p.2 != .cell && p.2 != .free))))))))
noncomputable def cGen (fn : Scope → Expr → Option PE) (sc : Scope) (o : Expr) (ap p : Pos) (z : Expr × List Comprehension × Scope × Pos) : Option PE := (genOf z.2.1).bind fun y =>
  if genCond sc z.2.2.1 o y.1.2.1 y.1.2.2 y.1.1.1 ap p then (repTwo y.1.1.1 z.1).bind fun r => (fn sc o).bind fun sep => (cI sc (fn sc) y.1.2.1).map fun it => .gjoin sep it r.1.1.2.2.1.1.cps.toList r.1.1.2.2.2.1.1.cps.toList r.1.2.2.1.1.cps.toList r.1.2.2.2.1.1.cps.toList else none
noncomputable def genArg (m : Str) (args : List Expr) : Option {z : Expr × List Comprehension × Scope × Pos // m = "join" ∧ args = [.GeneratorExp z.1 z.2.1 z.2.2.1 z.2.2.2]} := (one args).bind fun z => (vGen z.1).bind fun y => if h : m = "join" then some ⟨y.1, h, z.2.trans (congrArg (fun q => [q]) y.2)⟩ else none
noncomputable def cCallA (fn : Scope → Expr → Option PE) (sc : Scope) (o : Expr) (m : Str) (ap p : Pos) (args : List Expr) : Option PE := match genArg m args with
  | some z => cGen fn sc o ap p z.1
  | none => match subOf sc o m ap p args with
    | some e => (fn sc e.1).map .resub
    | none => match isT sc m args with
      | some _ => if noSuper o && ap.endLine == p.line then (fn sc o).map .spec else none
      | none => if noSuper o && (ap.endLine == p.line && NoStars args) then (cMe m args.length).bind fun m => (fn sc o).bind fun o => (cEs (fn sc) args).map fun as => .me m o as else none
noncomputable def cCall (fn : Scope → Expr → Option PE) (sc : Scope) (g : Expr) (args : List Expr) (p : Pos) : Option PE := match vName g with
  | some z => cCallN (fn sc) sc z.1.1 args
  | none => (vAttr g).bind fun z => cCallA fn sc z.1.1 z.1.2.1 z.1.2.2 p args
noncomputable def cFr (sc sc2 : Scope) : List (Option Nat) := sc2.names.map fun p => if p.2 == .free then slotOf sc p.1 else none
noncomputable def cComp (fn : Scope → Expr → Option PE) (sc : Scope) (elt : Expr) (gs : List Comprehension) (sc2 : Scope) : Option PE := (genOf gs).bind fun z =>
  if compOk sc sc2 z.1.1.1 && noSet z.1.2.1 then
      (slotOf sc2 z.1.1.1).bind fun i => (cI sc (fn sc) z.1.2.1).bind fun it => (fn sc2 elt).bind fun elt => (cEs (fn sc2) z.1.2.2).map fun cs => .comp elt i it cs (cFr sc sc2)
  else none
noncomputable def cJ (f : Expr → Option PE) : List Expr → Option PE
  | [] => none
  | e1 :: r => (match r with
    | [] => none
    | e2 :: es => (cFs f (e1 :: e2 :: es)).map .fstr)
noncomputable def cE1 (fn : Scope → Expr → Option PE) (sc : Scope) (e : Expr) : Option PE := match e with
  | .Constant c _ _ => cConst c
  | .Name x _ => if dbg x then none else (slotOf sc x).map .var
  | .BinOp l op r _ => (fn sc l).bind fun a => (fn sc r).bind fun b => (cBin op).map fun o => .bin o a b
  | .BoolOp op es _ => cBool (fn sc) op es
  | .UnaryOp op a _ => cUn (fn sc) op a
  | .IfExp c a b _ => (fn sc c).bind fun c => (fn sc a).bind fun a => (fn sc b).map fun b => .ite c a b
  | .Compare a ops bs _ => cCmpE (fn sc) a ops bs
  | .Subscript v i _ => cSub (fn sc) v i
  | .Tuple es _ _ => (cEs (fn sc) es).bind fun ps => if ps.len ≤ 64 && NoStars es then some (.tup ps) else none
  | .List es _ => (cEs (fn sc) es).bind fun ps => if ps.len ≤ 64 && NoStars es then some (.lst ps) else none
  | .Call g as ks p => (match ks with
    | [] => cCall fn sc g as p
    | _ :: _ => none)
  | .ListComp elt gs sc2 _ => cComp fn sc elt gs sc2
  | .JoinedStr es _ => cJ (fn sc) es
  | _ => none
noncomputable def cE : Nat → Scope → Expr → Option PE
  | 0, _, _ => none
  | n + 1, sc, e => cE1 (cE n) sc e

noncomputable def E.names : List Expr → Option (List Str)
  | [] => some []
  | e :: r => (vName e).bind fun z => (E.names r).map (z.1.1 :: ·)

noncomputable def noComp (e : Expr) : Bool := !(e.ctorIdx == 8 || (e.ctorIdx == 9 || e.ctorIdx == 10))
noncomputable def tupOk (vs : List Expr) : Bool := vs.all (foldedForSure 8) || !(vs.all (constantsAlone 8))
noncomputable def slots (sc : Scope) : List Str → Option (List Nat)
  | [] => some []
  | x :: xs => (slotOf sc x).bind fun i => (slots sc xs).map (i :: ·)
/-- a statement that is never reached -/
noncomputable def badS : PS := .asrt (.idx .cn .cn)

noncomputable def cSs (f : Stmt → Option PS) : List Stmt → Option PSs
  | [] => some .nil
  | s :: r => (cSs f r).map fun r => .cons ((f s).getD badS) r
noncomputable def popOf (x : Str) (g : Expr) (args : List Expr) : Option {z : (Str × Pos) × Pos × Expr // g = .Attribute (.Name z.1.1 z.1.2) x z.2.1 ∧ args = [z.2.2]} :=
  (one args).bind fun e => (vAttr g).bind fun a => (vName a.1.1).bind fun n => if h : a.1.2.1 = x then some ⟨(n.1, a.1.2.2, e.1), a.2.trans (attr1 n.2 h), e.2⟩ else none
noncomputable def oneArg (g : Expr) (args : List Expr) : Option {z : (Str × Pos) × Expr // g = .Name z.1.1 z.1.2 ∧ args = [z.2]} :=
  (one args).bind fun e => (vName g).map fun n => ⟨(n.1, e.1), n.2, e.2⟩
noncomputable def cAsgE (fn : Scope → Expr → Option PE) (sc : Scope) (x : Str) (v : Expr) : Option PS := if noComp v then (slotOf sc x).bind fun i => (fn sc v).map fun e => .asg i e else none
noncomputable def cAsgO (fn : Scope → Expr → Option PE) (sc : Scope) (x : Str) (es : List Expr) : Option PS := (slotOf sc x).bind fun i => if NoStars es then (cEs (fn sc) es).bind fun es => if es.len ≤ 64 then some (.asgo i es) else none else none
noncomputable def cAsgA (sc : Scope) (x : Str) (o : Expr) (m : Str) : Option PS := (vName o).bind fun n => if m == "append" && !dbg n.1.1 then (slotOf sc x).bind fun i => (slotOf sc n.1.1).map fun j => .asga i j else none
noncomputable def cAsgN (mu : List Str) (fn : Scope → Expr → Option PE) (sc : Scope) (x : Str) (v : Expr) : Option PS := match vComp v with
  | some z => (slotOf sc x).bind fun j => (cComp fn sc z.1.1 z.1.2.1 z.1.2.2.1).map fun e => .asg j e
  | none => match vAttr v with
    | some z => cAsgA sc x z.1.1 z.1.2.1
    | none => match vLst v with
      | some z => if mu.contains x then cAsgO fn sc x z.1.1 else cAsgE fn sc x v
      | none => cAsgE fn sc x v
noncomputable def cT (f : Expr → Option PE) : List Bool → List Expr → Option PEs
  | [], es => if es.isEmpty then some .nil else none
  | b :: bs, es => match es with
    | [] => none
    | e :: r => if b then (vLst e).bind fun z => if NoStars z.1.1 then (cEs f z.1.1).bind fun l => if l.len ≤ 64 then (cT f bs r).map fun q => .cons (.lst l) q else none else none
      else (f e).bind fun p => (cT f bs r).map fun q => .cons p q
noncomputable def cAsgT (mu : List Str) (fn : Scope → Expr → Option PE) (sc : Scope) (ts vs : List Expr) : Option PS := (E.names ts).bind fun xs => (slots sc xs).bind fun is => (cT (fn sc) (xs.map fun x => mu.contains x) vs).bind fun es =>
  if decide is.Nodup && (NoStars vs && (decide (es.len ≤ 64) && tupOk vs)) then some (.asgt is (xs.map fun x => mu.contains x) es) else none
noncomputable def cAsgU (fn : Scope → Expr → Option PE) (sc : Scope) (ts : List Expr) (v : Expr) : Option PS := (E.names ts).bind fun xs => (slots sc xs).bind fun is => (fn sc v).bind fun e =>
  if noComp v && ((vTup v).isNone && decide (xs.length ≤ 64)) then some (.asgu is e) else none
/-- f(x) with an own list x -/
noncomputable def frzOf (mu : List Str) (sc : Scope) (v : Expr) : Option Nat := (vCall v).bind fun c => (one c.1.2.1).bind fun a => (vName a.1).bind fun n => if mu.contains n.1.1 then slotOf sc n.1.1 else none
noncomputable def wrapF (i : Option Nat) (p : PS) : PS := match i with
  | some i => .frz i p
  | none => p
noncomputable def cSetI (fn : Scope → Expr → Option PE) (sc : Scope) (t v : Expr) : Option PS := (vSub t).bind fun z => (vName z.1.1).bind fun n => if noComp v && (!dbg n.1.1 && (vSlice z.1.2.1).isNone) then (slotOf sc n.1.1).bind fun i => (fn sc z.1.2.1).bind fun k => (fn sc v).map fun e => .seti i k e else none
noncomputable def cAsg (mu : List Str) (n : Nat) (sc : Scope) (ts : List Expr) (v : Expr) : Option PS := (one ts).bind fun t => match vName t.1 with
  | some z => cAsgN mu (cE n) sc z.1.1 v
  | none => match vTup t.1 with
    | some z => (match vTup v with
      | some y => cAsgT mu (cE n) sc z.1.1 y.1.1
      | none => (cAsgU (cE n) sc z.1.1 v).map (wrapF (frzOf mu sc v)))
    | none => cSetI (cE n) sc t.1 v
noncomputable def cDel (fn : Scope → Expr → Option PE) (sc : Scope) (ts : List Expr) : Option PS := (one ts).bind fun t => (vSub t.1).bind fun z => (vName z.1.1).bind fun n => if !dbg n.1.1 && (vSlice z.1.2.1).isNone then (slotOf sc n.1.1).bind fun i => (fn sc z.1.2.1).map fun k => .deli i k else none
noncomputable def cAppf (f : Expr → Option PE) (sc : Scope) (x : Str) (e : Expr) : Option PS := if dbg x then none else if NoStars [e] then (slotOf sc x).bind fun i => (f e).map fun e => .appf i e else none
noncomputable def cApp (f : Expr → Option PE) (sc : Scope) (x : Str) (ap p : Pos) (e : Expr) : Option PS := if ap.endLine == p.line && (!dbg x && NoStars [e]) then (slotOf sc x).bind fun i => (f e).map fun e => .app i e else none
noncomputable def cExprS (f : Expr → Option PE) (sc : Scope) (e : Expr) : Option PS := (vCall e).bind fun z => match popOf "append" z.1.1 z.1.2.1 with
  | some y => cApp f sc y.1.1.1 y.1.2.1 z.1.2.2 y.1.2.2
  | none => (oneArg z.1.1 z.1.2.1).bind fun y => cAppf f sc y.1.1.1 y.1.2
noncomputable def isAdd : Operator → Bool
  | .Add => true
  | _ => false
noncomputable def cAug (mu : List Str) (f : Expr → Option PE) (sc : Scope) (t : Expr) (e : Expr) : Option PS := (vName t).bind fun z => if dbg z.1.1 then none else (slotOf sc z.1.1).bind fun i => (f e).map fun e => if mu.contains z.1.1 then .augo i e else .aug i .add e
noncomputable def cFor (f : Expr → Option PE) (go : Stmt → Option PS) (sc : Scope) (t it : Expr) (a : List Stmt) : Option PS := (vName t).bind fun z => if noSet it then (slotOf sc z.1.1).bind fun i => (cI sc f it).bind fun it => (cSs go a).map fun a => .fr i it a else none
noncomputable def cS1 (mu : List Str) (n : Nat) (go : Stmt → Option PS) (sc : Scope) (st : Stmt) : Option PS := match st with
  | .Assign ts v _ => cAsg mu n sc ts v
  | .AugAssign t op e _ => (match op with
    | .Add => cAug mu (cE n sc) sc t e
    | _ => none)
  | .Delete ts _ => cDel (cE n) sc ts
  | .Expr e _ => cExprS (cE n sc) sc e
  | .If c a b _ => (cE n sc c).bind fun c => (cSs go a).bind fun a => (cSs go b).map fun b => .ite c a b
  | .While c a els _ => (match els with
    | [] => (cE n sc c).bind fun c => (cSs go a).map fun a => .wh c a
    | _ :: _ => none)
  | .For t it a els _ => (match els with
    | [] => cFor (cE n sc) go sc t it a
    | _ :: _ => none)
  | .Return v _ => v.bind fun e => (cE n sc e).map .ret
  | .Break _ => some .brk
  | .Assert c _ _ => (cE n sc c).map .asrt
  | _ => none
noncomputable def cS (mu : List Str) : Nat → Scope → Stmt → Option PS
  | 0, _, _ => none
  | n + 1, sc, st => cS1 mu n (cS mu n sc) sc st

noncomputable def findDef (p : Program) (f : Str) : Option (Arguments × List Stmt × Scope) :=
  p.main.body.findSome? fun s => if h : s.ctorIdx = 0 then Stmt.FunctionDef.elim (motive_2 := fun _ => Option (Arguments × List Stmt × Scope)) s h fun name args body _ _ _ scope _ _ _ => if name == f then some (args, body, scope) else none else none
end Mine

namespace Mine

noncomputable def Keeps (s s' : Shared) : Prop := KN s.heap s'.heap ∧ s'.os = s.os ∧ (AllBare s.gens → AllBare s'.gens)
theorem kp {s : Shared} {k : Nat} : Keeps s { s with toks := k } := ⟨.refl _, rfl, id⟩
theorem kpush {s : Shared} {o : Obj} {k : Nat} : Keeps s { s with heap := s.heap.push o, toks := k } := ⟨.push _ _, rfl, id⟩
theorem krefl (s : Shared) : Keeps s s := ⟨.refl _, rfl, id⟩
theorem ktrans {a b c : Shared} (x : Keeps a b) (y : Keeps b c) : Keeps a c := ⟨x.1.trans y.1, y.2.1.trans x.2.1, fun z => y.2.2 (x.2.2 z)⟩
theorem kheap {a b : Shared} (x : Keeps a b) : KN a.heap b.heap := x.1

structure Room (n : Nat) (A : Around) : Prop where
  handled : A.handled = none
  depth : A.depth + n < recursionLimit
  units : A.units + 200 + 20 * n < cLine

/-- what a value is when it stands as a result -/
noncomputable abbrev Post (C : RC) (s : Shared) (pv : PV) : Value → Shared → Prop := fun v s' => Keeps s s' ∧ Rep C s'.heap pv v
noncomputable abbrev noE : Value → Shared → Prop := fun _ _ => False

structure Owned (C : RC) (O : Owns) (h : Heap) : Prop where
  own : ∀ (k : Nat) vs, O[k]? = some (some vs) → ∃ a xs, C.ads[k]? = some a ∧ h.PlainList a xs ∧ RepL C h vs xs.toList
  lt : ∀ b, C.X b → ∃ o, NoTab o ∧ h.get? b = some o

theorem Owned.keep {C : RC} {O : Owns} {h h' : Heap} (W : Owned C O h) (hk : KN h h') : Owned C O h' :=
  ⟨fun k vs e => let ⟨a, xs, h1, h2, h3⟩ := W.own k vs e; ⟨a, xs, h1, hk.plain h2, h3.keep hk⟩, fun b hb => let ⟨o, n, e⟩ := W.lt b hb; ⟨o, n, hk.nt _ _ n e⟩⟩
theorem Owned.fresh {C : RC} {O : Owns} {h : Heap} (W : Owned C O h) : ¬ C.X h.objs.size := fun hx => let ⟨_, _, e⟩ := W.lt _ hx; Nat.lt_irrefl _ (Heap.lt_size e)

theorem asI_eq {v : PV} {i : Int} (h : asI v = some i) : v = .int i := by cases v <;> first | (cases h; rfl) | cases h
theorem asS_eq {v : PV} {l : List Nat} (h : asS v = some l) : v = .str l := by cases v <;> first | (cases h; rfl) | cases h
theorem asT_eq {v : PV} {l : List PV} (h : asT v = some l) : v = .tup l := by cases v <;> first | (cases h; rfl) | cases h
theorem asOwn_eq {v : PV} {k : Nat} (h : asOwn v = some k) : v = .own k := by cases v <;> first | (cases h; rfl) | cases h
theorem asApp_eq {v : PV} {k : Nat} (h : asApp v = some k) : v = .app k := by cases v <;> first | (cases h; rfl) | cases h
theorem rep_asI {C : RC} {h : Heap} {v : PV} {i : Int} {u : Value} (e : asI v = some i) (r : Rep C h v u) : ∃ t, u = .int i t := by
  cases asI_eq e; exact r
theorem rep_asS {C : RC} {h : Heap} {v : PV} {l : List Nat} {u : Value} (e : asS v = some l) (r : Rep C h v u) : ∃ s t, u = .str s t ∧ s.cps.toList = l := by
  cases asS_eq e; exact r
theorem rep_asT {C : RC} {h : Heap} {v : PV} {l : List PV} {u : Value} (e : asT v = some l) (r : Rep C h v u) : ∃ a xs, u = .ref a ∧ ¬ C.X a ∧ h.IsTuple a xs ∧ RepL C h l xs.toList ∧ xs.size = l.length := by
  cases asT_eq e
  obtain ⟨a, xs, h1, h2, h3, h4⟩ := r
  exact ⟨a, xs, h1, h2, h3, h4, h4.length⟩
theorem asL_rep {C : RC} {O : Owns} {h : Heap} (W : Owned C O h) {v : PV} {u : Value} {vs : List PV} (hv : asL O v = some vs) (r : Rep C h v u) :
    ∃ a xs, u = .ref a ∧ h.PlainList a xs ∧ RepL C h vs xs.toList := by
  cases v with
  | list l =>
    cases hv
    obtain ⟨a, xs, rfl, _, hp, hl⟩ := r
    exact ⟨a, xs, rfl, hp, hl⟩
  | own k =>
    obtain ⟨q, e, hv⟩ := Option.bind_eq_some_iff.mp hv
    cases hv
    obtain ⟨a, ha, rfl⟩ := r
    obtain ⟨a', xs, h1, h2, h3⟩ := W.own k _ e
    rw [ha] at h1; cases h1
    exact ⟨a, xs, rfl, h2, h3⟩
  | _ => cases hv
theorem asL_rep' {C : RC} {O : Owns} {h : Heap} (W : Owned C O h) {v : PV} {u : Value} {vs : List PV} (hv : asL O v = some vs) (r : Rep C h v u) :
    ∃ a xs, u = .ref a ∧ h.PlainList a xs ∧ RepL C h vs xs.toList ∧ xs.size = vs.length :=
  let ⟨a, xs, e, p, l⟩ := asL_rep W hv r; ⟨a, xs, e, p, l, l.length⟩

theorem rep_str {C : RC} {h : Heap} {s : Str} {t : Tok} : Rep C h (.str s.cps.toList) (.str s t) := ⟨s, t, rfl, rfl⟩
theorem rep_str' {C : RC} {h : Heap} {l : List Nat} {s : Str} {t : Tok} (e : s.cps.toList = l) : Rep C h (.str l) (.str s t) := ⟨s, t, rfl, e⟩
theorem rep_int {C : RC} {h : Heap} {i : Int} {t : Tok} : Rep C h (.int i) (.int i t) := ⟨t, rfl⟩
theorem rep_bool {C : RC} {h : Heap} {b : Bool} : Rep C h (.bool b) (.bool b) := rfl
theorem rep_none {C : RC} {h : Heap} : Rep C h .none .none := rfl
theorem rep_list {C : RC} {h : Heap} {vs : List PV} {xs : List Value} {a : Addr} (hx : ¬ C.X a) (hp : h.PlainList a xs.toArray) (hl : RepL C h vs xs) : Rep C h (.list vs) (.ref a) :=
  ⟨a, xs.toArray, rfl, hx, hp, hl⟩
theorem rep_new {C : RC} {O : Owns} {h : Heap} (W : Owned C O h) {vs : List PV} {xs : List Value} (hl : RepL C h vs xs) :
    Rep C (h.push { cls := .type "list", data := .seq xs.toArray }) (.list vs) (.ref h.objs.size) :=
  rep_list W.fresh ⟨_, Heap.get?_push_size _ rfl⟩ (hl.keep (.push _ _))
theorem rep_newT {C : RC} {O : Owns} {h : Heap} (W : Owned C O h) {vs : List PV} {xs : List Value} (hl : RepL C h vs xs) :
    Rep C (h.push { cls := .type "tuple", data := .seq xs.toArray }) (.tup vs) (.ref h.objs.size) :=
  ⟨_, xs.toArray, rfl, W.fresh, ⟨_, Heap.get?_push_size _ rfl, rfl, _, rfl⟩, hl.keep (.push _ _)⟩

theorem str_len (s : Str) : s.length = s.cps.toList.length := by simp [Str.length]
theorem lim_size : LIM ≤ sizeLine := by rw [sizeLine_eq]; decide

theorem foldl_replicate {α : Type} (xs : Array α) : ∀ n : Nat, ∀ acc : Array α, ((List.replicate n xs).foldl (fun a b => a ++ b) acc).toList = acc.toList ++ (List.replicate n xs.toList).flatten
  | 0, acc => by simp
  | n + 1, acc => by
    rw [List.replicate_succ, List.foldl_cons, foldl_replicate xs n]
    simp [List.replicate_succ]

theorem RepL.flatrep {C : RC} {h : Heap} {vs : List PV} {xs : List Value} (r : RepL C h vs xs) : ∀ n : Nat, RepL C h (List.replicate n vs).flatten (List.replicate n xs).flatten
  | 0 => rfl
  | n + 1 => by
    rw [List.replicate_succ, List.replicate_succ, List.flatten_cons, List.flatten_cons]
    exact r.append (RepL.flatrep r n)

section
variable {prog : Program} {w : World} {A : Around} {s : Shared} {C : RC} {O : Owns} {n : Nat}

theorem mul_listP {l : Addr} {items : Array Value} {x : Int} {u : Tok} {Q : Value → Shared → Prop} {E : Value → Shared → Prop}
    (hl : s.heap.PlainList l items) (hlo : -(2 ^ 63 : Int) ≤ x) (hhi : x < 2 ^ 63) (hsz : items.size * x.toNat ≤ 2 ^ 24)
    (h : Q (.ref s.heap.objs.size) { s with heap := s.heap.push { cls := .type "list", data := .seq (List.foldl (fun x1 x2 => x1 ++ x2) #[] (List.replicate (if items.isEmpty = true then 0 else x.toNat) items)) } }) :
    wpAny (model prog w) A (binaryOp .Mult (.ref l) (.int x u)) Q E s := by
  obtain ⟨k, hl⟩ := hl
  exact wpAny_binaryOp_repeat_ref (T := "list") (U := "int") (by decide) ⟨_, hl, rfl⟩ (fun s' => typeIs_int s' x u) noFill_list_mul F.fills_int_mul F.slot_int_rmul repeat_list F.slot_int_index.lookup
    (call_meets F.slot_int_rmul (typeIs_int s x u) F.entry_int_rmul (F.args_int_rmul_2 _ _) (int___rmul___int_list x u l items k)
      ⟨hl, rfl, ⟨_, hl, rfl⟩, call_meets F.slot_list_mul ⟨_, hl, rfl⟩ F.entry_list_mul (F.args_list_mul_2 _ _)
        (AutoListH.list___mul___list_int_3 l items k x u (by simp [Builtin.List.listFitsIndex]; and_intros) (by and_intros) (by simp [Builtin.List.listTooLong, sizeLine]; and_intros))
        ⟨hl, h⟩⟩)

theorem mul_str_ok {x : Str} {t u : Tok} {b : Int} (hb : b.natAbs ≤ 4096) (hl : x.cps.toList.length ≤ 256) :
    wpAny (model prog w) A (binaryOp .Mult (.str x t) (.int b u)) (Post C s (.str (prepeat x.cps.toList b))) noE s := by
  have hl' : x.length ≤ 256 := by rw [str_len]; exact hl
  refine SB.mul ⟨by simp only [Bool.or_eq_false_iff, decide_eq_false_iff_not]; and_intros, fun h1 h2 => ?_, fun h1 h2 => ?_⟩ (fun t' k => ⟨kp, rep_str' ?_⟩)
  · have : (x.length : Int) ≤ (2 ^ 63 - 1) / b := by
      apply Int.le_ediv_of_mul_le (by and_intros)
      have h3 : (x.length : Int) * b ≤ 256 * 4096 := Int.mul_le_mul (by and_intros) (by and_intros) (by and_intros) (by and_intros)
      and_intros
    and_intros
  · have h3 : x.length * b.toNat ≤ 256 * 4096 := Nat.mul_le_mul hl' (by and_intros)
    simp [Builtin.Str.tooLong, sizeLine]; and_intros
  · unfold Txt.mul prepeat
    split
    · rename_i h; rw [show b.toNat = 0 by and_intros]; rfl
    · rename_i h
      split
      · rename_i h2
        simp only [Bool.or_eq_true, beq_iff_eq] at h2
        rcases h2 with h2 | h2
        · subst h2; simp
        · have : x.cps.toList = [] := by
            rw [str_len] at h2; exact List.length_eq_zero_iff.mp h2
          rw [this]; simp
      · rw [foldl_replicate]; simp

theorem add_list_ok {x y : PV} {u v : Value} {a b : List PV} (ha : asL O x = some a) (hb : asL O y = some b) (hsz : a.length + b.length ≤ LIM) (hx : Rep C s.heap x u) (hy : Rep C s.heap y v) (W : Owned C O s.heap) :
    wpAny (model prog w) A (binaryOp .Add u v) (Post C s (.list (a ++ b))) noE s := by
  obtain ⟨p, xs, rfl, ⟨m, hp⟩, hl, e1⟩ := asL_rep' W ha hx
  obtain ⟨q, ys, rfl, ⟨m', hq⟩, hl', e2⟩ := asL_rep' W hb hy
  refine P.add_list hp hq ⟨kpush, ?_⟩ (by rw [e1, e2]; exact Nat.le_trans hsz lim_size)
  have e : xs ++ ys = (xs.toList ++ ys.toList).toArray := by simp
  rw [e]
  exact rep_new W (hl.append hl')
theorem mul_list_ok {x : PV} {u : Value} {a : List PV} {b : Int} {t : Tok} (ha : asL O x = some a) (hsz : b.natAbs ≤ 256 ∧ a.length ≤ 4096) (hx : Rep C s.heap x u) (W : Owned C O s.heap) :
    wpAny (model prog w) A (binaryOp .Mult u (.int b t)) (Post C s (.list (prepeat a b))) noE s := by
  obtain ⟨p, xs, rfl, hp, hl, e1⟩ := asL_rep' W ha hx
  have hb : b.toNat ≤ 256 := by and_intros
  have hm : xs.size * b.toNat ≤ 4096 * 256 := Nat.mul_le_mul (by rw [e1]; exact hsz.2) hb
  refine mul_listP hp (by and_intros) (by and_intros) (by and_intros) ⟨kpush, ?_⟩
  have e : List.foldl (fun x1 x2 => x1 ++ x2) #[] (List.replicate (if xs.isEmpty = true then 0 else b.toNat) xs) = ((List.replicate b.toNat xs.toList).flatten).toArray := by
    apply Array.ext'
    rw [foldl_replicate]
    by_cases hem : xs.isEmpty = true
    · have : xs = #[] := by simpa using hem
      subst this
      simp
    · rw [if_neg hem]; rfl
  rw [e]
  exact rep_new W (hl.flatrep _)
theorem pII_ok {f : Int → Int → Option PV} {x y r : PV} {u v : Value} {o : Operator} (hr : pII f x y = some r) (hx : Rep C s.heap x u) (hy : Rep C s.heap y v)
    (h : ∀ i j t t', f i j = some r → wpAny (model prog w) A (binaryOp o (.int i t) (.int j t')) (Post C s r) noE s) : wpAny (model prog w) A (binaryOp o u v) (Post C s r) noE s := by
  obtain ⟨i, e1, hr⟩ := Option.bind_eq_some_iff.mp hr
  obtain ⟨j, e2, hr⟩ := Option.bind_eq_some_iff.mp hr
  obtain ⟨t, rfl⟩ := rep_asI e1 hx
  obtain ⟨t', rfl⟩ := rep_asI e2 hy
  exact h i j t t' hr
theorem add_ok {x y r : PV} {u v : Value} (hr : padd O x y = some r) (hx : Rep C s.heap x u) (hy : Rep C s.heap y v) (W : Owned C O s.heap) :
    wpAny (model prog w) A (binaryOp .Add u v) (Post C s r) noE s := by
  unfold padd at hr
  cases h1 : asI x with
  | some i =>
    rw [h1] at hr
    obtain ⟨j, e2, rfl⟩ := Option.map_eq_some_iff.mp hr
    obtain ⟨t, rfl⟩ := rep_asI h1 hx
    obtain ⟨t', rfl⟩ := rep_asI e2 hy
    exact add_int ⟨kp, rep_int⟩
  | none =>
    rw [h1] at hr
    cases h2 : asS x with
    | some a =>
      rw [h2] at hr
      obtain ⟨b, e2, hr⟩ := Option.bind_eq_some_iff.mp hr
      obtain ⟨hb, hr⟩ := ite_some hr
      cases hr
      obtain ⟨x, t, rfl, rfl⟩ := rep_asS h2 hx
      obtain ⟨y, t', rfl, rfl⟩ := rep_asS e2 hy
      refine add_str (fun t' tk => ⟨kp, rep_str' ?_⟩) (by rw [str_len, str_len]; exact Nat.le_trans hb lim_size)
      exact Array.toList_append
    | none =>
      rw [h2] at hr
      obtain ⟨a, e1, hr⟩ := Option.bind_eq_some_iff.mp hr
      obtain ⟨b, e2, hr⟩ := Option.bind_eq_some_iff.mp hr
      obtain ⟨hb, hr⟩ := ite_some hr
      cases hr
      exact add_list_ok e1 e2 hb hx hy W
theorem mul_ok {x y r : PV} {u v : Value} (hr : pmul O x y = some r) (hx : Rep C s.heap x u) (hy : Rep C s.heap y v) (W : Owned C O s.heap) :
    wpAny (model prog w) A (binaryOp .Mult u v) (Post C s r) noE s := by
  obtain ⟨k, e2, hr⟩ := Option.bind_eq_some_iff.mp hr
  obtain ⟨t', rfl⟩ := rep_asI e2 hy
  cases h1 : asI x with
  | some i =>
    rw [h1] at hr
    obtain ⟨hb, hr⟩ := ite_some hr
    cases hr
    obtain ⟨t, rfl⟩ := rep_asI h1 hx
    exact mul_int ⟨kp, rep_int⟩ (IntMulOk.of_right (intBits_le_64 (by and_intros) (by and_intros)))
  | none =>
    rw [h1] at hr
    cases h2 : asS x with
    | some a =>
      rw [h2] at hr
      obtain ⟨hb, hr⟩ := ite_some hr
      cases hr
      obtain ⟨x, t, rfl, rfl⟩ := rep_asS h2 hx
      exact mul_str_ok hb.1 hb.2
    | none =>
      rw [h2] at hr
      obtain ⟨a, e1, hr⟩ := Option.bind_eq_some_iff.mp hr
      obtain ⟨hb, hr⟩ := ite_some hr
      cases hr
      exact mul_list_ok e1 hb hx W
theorem bin_ok {o : Operator} {op : PBin} (hop : cBin o = some op) {x y r : PV} {u v : Value} (hr : pbin O op x y = some r) (hx : Rep C s.heap x u) (hy : Rep C s.heap y v) (W : Owned C O s.heap) :
    wpAny (model prog w) A (binaryOp o u v) (Post C s r) noE s := by
  cases o with
  | Add => cases hop; exact add_ok hr hx hy W
  | Sub => cases hop; exact pII_ok hr hx hy fun i j t t' h => by cases h; exact sub_int ⟨kp, rep_int⟩
  | Mult => cases hop; exact mul_ok hr hx hy W
  | FloorDiv => cases hop; exact pII_ok hr hx hy fun i j t t' h => by obtain ⟨hb, h⟩ := ite_some h; cases h; exact floordiv_int hb.1 ⟨kp, rep_int⟩ (.inl (PyProof.noPylong_small hb.2))
  | Mod => cases hop; exact pII_ok hr hx hy fun i j t t' h => by obtain ⟨hb, h⟩ := ite_some h; cases h; exact mod_int hb.1 ⟨kp, rep_int⟩
  | Pow => cases hop; exact pII_ok hr hx hy fun i j t t' h => by obtain ⟨hb, h⟩ := ite_some h; cases h; exact pow_int_small hb.1 (by and_intros) (by and_intros) ⟨kp, rep_int⟩
  | _ => exact nn hop
end
end Mine

namespace Mine

theorem pisIn_iff (y : List Nat) : ∀ x : List Nat, pisIn y x = true ↔ ∃ i, i + y.length ≤ x.length ∧ (x.drop i).take y.length = y
  | [] => by
    simp only [pisIn, List.isEmpty_iff]
    constructor
    · rintro rfl; exact ⟨0, by simp, by simp⟩
    · rintro ⟨i, h, _⟩; exact List.length_eq_zero_iff.mp (by have : i + y.length ≤ 0 := h; and_intros)
  | c :: r => by
    simp only [pisIn, Bool.or_eq_true, pisIn_iff y r, List.isPrefixOf_iff_prefix]
    constructor
    · rintro (⟨t, ht⟩ | ⟨i, h, e⟩)
      · refine ⟨0, by rw [← ht]; simp, by rw [← ht]; simp⟩
      · exact ⟨i + 1, by simp; and_intros, by simpa using e⟩
    · rintro ⟨i, h, e⟩
      cases i with
      | zero =>
        left
        refine ⟨(c :: r).drop y.length, ?_⟩
        have h2 := List.take_append_drop y.length (c :: r)
        rw [show List.take y.length (c :: r) = y by simpa using e] at h2
        exact h2
      | succ i => right; exact ⟨i, by simp at h; and_intros, by simpa using e⟩

mutual
theorem pveq_eqv : ∀ a b : PV, noStar a = true → noStar b = true → pveq a b = PyData.eqv (toPD a) (toPD b)
  | .none, b, _, hb => by cases b <;> first | rfl | cases hb
  | .bool x, b, _, hb => by cases b <;> first | rfl | (rename_i y; cases x <;> cases y <;> rfl) | cases hb
  | .int x, b, _, hb => by cases b <;> first | rfl | cases hb
  | .str x, b, _, hb => by
    cases b <;> first | rfl | (cases hb; done) | skip
    rename_i y
    show (x == y) = ((⟨x.toArray⟩ : Str) == ⟨y.toArray⟩)
    rw [Bool.eq_iff_iff]; simp
  | .tup x, b, ha, hb => by
    cases b <;> first | rfl | (cases hb; done) | skip
    rename_i y
    exact pveqL_eqv x y ha hb
  | .list x, b, ha, hb => by
    cases b <;> first | rfl | (cases hb; done) | skip
    rename_i y
    exact pveqL_eqv x y ha hb
  | .star, b, ha, _ => nomatch ha
  | .own k, b, ha, _ => nomatch ha
  | .app k, b, ha, _ => nomatch ha
theorem pveqL_eqv : ∀ a b : List PV, noStarL a = true → noStarL b = true → pveqL a b = PyData.eqvAll (toPDs a) (toPDs b)
  | [], [], _, _ => rfl
  | [], _ :: _, _, _ => rfl
  | _ :: _, [], _, _ => rfl
  | x :: xs, y :: ys, ha, hb => by
    have ha := and_t ha
    have hb := and_t hb
    show (pveq x y && pveqL xs ys) = (PyData.eqv (toPD x) (toPD y) && PyData.eqvAll (toPDs xs) (toPDs ys))
    rw [pveq_eqv x y ha.1 hb.1, pveqL_eqv xs ys ha.2 hb.2]
end

mutual
theorem okD_spec : ∀ (n : Nat) (a : PV), okD n a = true → noStar a = true ∧ (toPD a).canLay0 = true ∧ (toPD a).depth ≤ n
  | _, .none, _ => ⟨rfl, rfl, Nat.zero_le _⟩
  | _, .bool _, _ => ⟨rfl, rfl, Nat.zero_le _⟩
  | _, .int _, _ => ⟨rfl, rfl, Nat.zero_le _⟩
  | _, .str l, h => by
    refine ⟨rfl, ?_, Nat.zero_le _⟩
    show (l.toArray.all fun c => decide (c < 0x110000)) = true
    rw [List.all_toArray]; exact h
  | n, .tup vs, h => by
    have h := and_t h
    have := okDs_spec (n - 1) vs h.2
    have h1 := of_decide_eq_true h.1
    exact ⟨this.1, this.2.1, Nat.le_trans (Nat.succ_le_succ this.2.2) (by and_intros)⟩
  | n, .list vs, h => by
    have h := and_t h
    have := okDs_spec (n - 1) vs h.2
    have h1 := of_decide_eq_true h.1
    exact ⟨this.1, this.2.1, Nat.le_trans (Nat.succ_le_succ this.2.2) (by and_intros)⟩
  | _, .star, h => nomatch h
  | _, .own k, h => nomatch h
  | _, .app k, h => nomatch h
theorem okDs_spec : ∀ (n : Nat) (a : List PV), okDs n a = true → noStarL a = true ∧ PyData.canLayAll0 (toPDs a) = true ∧ PyData.depthAll (toPDs a) ≤ n
  | n, [], _ => ⟨rfl, rfl, Nat.zero_le _⟩
  | n, p :: ps, h => by
    have h := and_t h
    have h1 := okD_spec n p h.1
    have h2 := okDs_spec n ps h.2
    exact ⟨Bool.and_eq_true_iff.mpr ⟨h1.1, h2.1⟩, Bool.and_eq_true_iff.mpr ⟨h1.2.1, h2.2.1⟩, Nat.max_le.mpr ⟨h1.2.2, h2.2.2⟩⟩
end

theorem okD_shaped {a : PV} (h : okD 8 a = true) : SeqAt.shaped (toPD a) = true := by
  obtain ⟨_, h2, h3⟩ := okD_spec 8 a h
  unfold SeqAt.shaped
  rw [h2, Bool.true_and, decide_eq_true_eq]; and_intros

theorem resO_rep {C : RC} {O : Owns} {h : Heap} (W : Owned C O h) {v : PV} {u : Value} (hs : okD 8 (resO O v) = true) (r : Rep C h v u) : ∃ as, Reads h u (toPD (resO O v)) as := by
  unfold resO at hs ⊢
  cases e : asL O v with
  | none => rw [e] at hs; exact Rep.reads _ _ (okD_spec 8 _ hs).1 r
  | some vs =>
    rw [e] at hs
    obtain ⟨a, xs, rfl, ⟨n, h2⟩, h3⟩ := asL_rep W e r
    obtain ⟨as, q⟩ := RepL.reads vs _ (okD_spec 8 _ hs).1 h3
    exact ⟨_, Reads.list h2 rfl rfl q⟩

section
variable {prog : Program} {w : World} {A : Around} {s : Shared} {C : RC} {O : Owns} {n : Nat}

noncomputable abbrev PostB (s : Shared) (b : Bool) : Value → Shared → Prop := fun v s' => Keeps s s' ∧ v = .bool b

noncomputable abbrev PostB2 (prog : Program) (w : World) (A : Around) (s : Shared) (o o' : CmpOp) (u v : Value) (b : Bool) : Prop :=
  wpAny (model prog w) A (compareOp o u v) (PostB s b) noE s ∧ wpAny (model prog w) A (compareOp o' u v) (PostB s (!b)) noE s
theorem peqD_ok (R : Room n A) {x y : PV} {b : Bool} {u v : Value} (hr : peqD O x y = some b) (hx : Rep C s.heap x u) (hy : Rep C s.heap y v) (W : Owned C O s.heap) : PostB2 prog w A s .Eq .NotEq u v b := by
  obtain ⟨h, hr⟩ := ite_some hr
  have h := and_t h
  cases hr
  obtain ⟨as, r1⟩ := resO_rep W h.1 hx
  obtain ⟨bs, r2⟩ := resO_rep W h.2 hy
  have hu : A.units + 64 < cLine := by have := R.units; and_intros
  rw [pveq_eqv _ _ (okD_spec 8 _ h.1).1 (okD_spec 8 _ h.2).1]
  exact ⟨eq_dataH r1 r2 (okD_shaped h.1) (okD_shaped h.2) hu ⟨krefl s, rfl⟩, ne_dataH r1 r2 (okD_shaped h.1) (okD_shaped h.2) hu ⟨krefl s, rfl⟩⟩
theorem peq_str_ok (R : Room n A) {x y : PV} {b : Bool} {u v : Value} (hr : (match asS x, asS y with | some x, some y => some (x == y) | _, _ => peqD O x y) = some b) (hx : Rep C s.heap x u) (hy : Rep C s.heap y v) (W : Owned C O s.heap) : PostB2 prog w A s .Eq .NotEq u v b := by
  cases h3 : asS x with
  | none => rw [h3] at hr; exact peqD_ok R hr hx hy W
  | some i =>
    cases h4 : asS y with
    | none => rw [h3, h4] at hr; exact peqD_ok R hr hx hy W
    | some j =>
      rw [h3, h4] at hr
      obtain ⟨_, _, rfl, rfl⟩ := rep_asS h3 hx
      obtain ⟨_, _, rfl, rfl⟩ := rep_asS h4 hy
      cases hr
      exact ⟨P.eq_str ⟨krefl s, rfl⟩, P.ne_str ⟨krefl s, rfl⟩⟩
theorem peq_ok (R : Room n A) {x y : PV} {b : Bool} {u v : Value} (hr : peq O x y = some b) (hx : Rep C s.heap x u) (hy : Rep C s.heap y v) (W : Owned C O s.heap) : PostB2 prog w A s .Eq .NotEq u v b := by
  unfold peq at hr
  cases h1 : asI x with
  | none => rw [h1] at hr; exact peq_str_ok R hr hx hy W
  | some i =>
    cases h2 : asI y with
    | none => rw [h1, h2] at hr; exact peq_str_ok R hr hx hy W
    | some j =>
      rw [h1, h2] at hr
      obtain ⟨_, rfl⟩ := rep_asI h1 hx
      obtain ⟨_, rfl⟩ := rep_asI h2 hy
      cases hr
      exact ⟨eq_int ⟨krefl s, rfl⟩, ne_int ⟨krefl s, rfl⟩⟩
theorem peq_str {O : Owns} {x y : List Nat} : peq O (.str x) (.str y) = some (x == y) := rfl
theorem pin_str {O : Owns} {x y : List Nat} : pin O (.str x) (.str y) = some (pisIn x y) := rfl

theorem in_strP {x y : Str} {t u : Tok} : wpAny (model prog w) A (compareOp .In (.str y u) (.str x t)) (PostB s (pisIn y.cps.toList x.cps.toList)) noE s ∧
    wpAny (model prog w) A (compareOp .NotIn (.str y u) (.str x t)) (PostB s (!pisIn y.cps.toList x.cps.toList)) noE s := by
  have e : pisIn y.cps.toList x.cps.toList = !(Builtin.Str.occurrences x y 0 x.length 1).isEmpty := by
    rw [Bool.eq_iff_iff, pisIn_iff, StrLaws.found_iff]
    constructor
    · rintro ⟨i, h, q⟩
      refine ⟨i, by rw [str_len, str_len]; exact h, ?_⟩
      rw [StrLaws.subAt_eq, str_len]; simpa using q
    · rintro ⟨i, h, q⟩
      rw [StrLaws.subAt_eq, str_len] at q
      rw [str_len, str_len] at h
      exact ⟨i, h, by simpa using q⟩
  rw [e]
  exact ⟨in_str ⟨krefl s, rfl⟩, notIn_str ⟨krefl s, rfl⟩⟩

theorem any_eqv {vs : List PV} {a : PV} (hv : noStarL vs = true) (ha : noStar a = true) : (vs.any fun y => pveq y a) = (toPDs vs).any fun y => PyData.eqv y (toPD a) := by
  induction vs with
  | nil => rfl
  | cons p ps ih =>
    have hv := and_t hv
    show (pveq p a || _) = (PyData.eqv (toPD p) (toPD a) || _)
    rw [ih hv.2, pveq_eqv p a hv.1 ha]

theorem pinL_ok (R : Room n A) {x : PV} {vs : List PV} {b : Bool} (hr : pinL x vs = some b) : (noStarL vs = true ∧ PyData.canLayAll0 (toPDs vs) = true ∧ PyData.depthAll (toPDs vs) ≤ 8) ∧ (noStar x = true ∧ (toPD x).canLay0 = true ∧ (toPD x).depth ≤ 8) ∧ b = (toPDs vs).any fun y => PyData.eqv y (toPD x) := by
  obtain ⟨h, hr⟩ := ite_some hr
  have h := and_t h
  have h1 := okDs_spec 8 _ h.1
  have h2 := okD_spec 8 _ h.2
  cases hr
  exact ⟨h1, h2, any_eqv h1.1 h2.1⟩
theorem pin_ok (R : Room n A) {x y : PV} {b : Bool} {u v : Value} (hr : pin O x y = some b) (hx : Rep C s.heap x u) (hy : Rep C s.heap y v) (W : Owned C O s.heap) : PostB2 prog w A s .In .NotIn u v b := by
  have hu := R.units
  unfold pin at hr
  cases h1 : asS y with
  | some q =>
    rw [h1] at hr
    obtain ⟨q2, h2, rfl⟩ := Option.map_eq_some_iff.mp hr
    obtain ⟨_, _, rfl, rfl⟩ := rep_asS h2 hx
    obtain ⟨_, _, rfl, rfl⟩ := rep_asS h1 hy
    exact in_strP
  | none =>
    rw [h1] at hr
    cases h2 : asT y with
    | some vs =>
      rw [h2] at hr
      obtain ⟨q1, q2, rfl⟩ := pinL_ok R hr
      cases asT_eq h2
      obtain ⟨as, r1⟩ := Rep.reads (.tup vs) _ q1.1 hy
      obtain ⟨bs, r2⟩ := Rep.reads _ _ q2.1 hx
      exact ⟨SeqAt.in_tuple_reads r1 r2 q1.2.1 q2.2.1 (by and_intros) ⟨krefl s, rfl⟩, SeqAt.notIn_tuple_reads r1 r2 q1.2.1 q2.2.1 (by and_intros) ⟨krefl s, rfl⟩⟩
    | none =>
      rw [h2] at hr
      obtain ⟨vs, e, hr⟩ := Option.bind_eq_some_iff.mp hr
      obtain ⟨q1, q2, rfl⟩ := pinL_ok R hr
      obtain ⟨a, xs, rfl, ⟨m, hp⟩, hl⟩ := asL_rep W e hy
      obtain ⟨as, q⟩ := RepL.reads _ _ q1.1 hl
      obtain ⟨bs, r2⟩ := Rep.reads _ _ q2.1 hx
      have r1 : Reads s.heap (.ref a) (.list (toPDs vs)) (a :: as) := Reads.list hp rfl rfl q
      exact ⟨SeqAt.in_list_reads r1 r2 q1.2.1 q2.2.1 (by and_intros) ⟨krefl s, rfl⟩, SeqAt.notIn_list_reads r1 r2 q1.2.1 q2.2.1 (by and_intros) ⟨krefl s, rfl⟩⟩

theorem is_other {u v : Value} (h1 : plainIs u v = true) (h2 : u ≠ v) : PostB2 prog w A s .Is .IsNot u v false := ⟨wpAny_is_other h1 h2 ⟨krefl s, rfl⟩, wpAny_isNot_other h1 h2 ⟨krefl s, rfl⟩⟩
theorem pisN_ok {x : PV} {b : Bool} {u : Value} (hr : pisN x = some b) (hx : Rep C s.heap x u) : PostB2 prog w A s .Is .IsNot u .none b := by
  cases x with
  | none => cases hx; cases hr; exact ⟨wpAny_is_self rfl ⟨krefl s, rfl⟩, wpAny_isNot_self rfl ⟨krefl s, rfl⟩⟩
  | bool => cases hx; cases hr; exact is_other rfl nofun
  | int => obtain ⟨_, rfl⟩ := hx; cases hr; exact is_other rfl nofun
  | str => obtain ⟨_, _, rfl, _⟩ := hx; cases hr; exact is_other rfl nofun
  | tup => obtain ⟨_, _, rfl, _⟩ := hx; cases hr; exact is_other rfl nofun
  | list => obtain ⟨_, _, rfl, _⟩ := hx; cases hr; exact is_other rfl nofun
  | own => obtain ⟨_, _, rfl⟩ := hx; cases hr; exact is_other rfl nofun
  | _ => exact nn hr
theorem pis_ok {x y : PV} {b : Bool} {u v : Value} (hr : pis x y = some b) (hx : Rep C s.heap x u) (hy : Rep C s.heap y v) : PostB2 prog w A s .Is .IsNot u v b := by
  cases y with
  | none => cases hy; exact pisN_ok hr hx
  | star =>
    cases hy
    cases x with
    | star => cases hx; cases hr; exact ⟨wpAny_is_ref_self ⟨krefl s, rfl⟩, wpAny_isNot_ref_self ⟨krefl s, rfl⟩⟩
    | str => obtain ⟨_, _, rfl, _⟩ := hx; cases hr; exact is_other rfl nofun
    | _ => exact nn hr
  | _ => exact nn hr

theorem pcI_ok {f : Int → Int → Bool} {x y : PV} {b : Bool} {u v : Value} {o : CmpOp} (hr : pcI f x y = some b) (hx : Rep C s.heap x u) (hy : Rep C s.heap y v)
    (h : ∀ i j t t', wpAny (model prog w) A (compareOp o (.int i t) (.int j t')) (PostB s (f i j)) noE s) : wpAny (model prog w) A (compareOp o u v) (PostB s b) noE s := by
  obtain ⟨i, e1, hr⟩ := Option.bind_eq_some_iff.mp hr
  obtain ⟨j, e2, rfl⟩ := Option.map_eq_some_iff.mp hr
  obtain ⟨t, rfl⟩ := rep_asI e1 hx
  obtain ⟨t', rfl⟩ := rep_asI e2 hy
  exact h i j t t'
theorem plt_eq : ∀ x y : List Nat, plt x y = decide (x < y)
  | [], [] => rfl
  | _ :: _, [] => (decide_eq_false (List.not_lt_nil _)).symm
  | [], _ :: _ => (decide_eq_true (List.nil_lt_cons _ _)).symm
  | a :: x, b :: y => by
    unfold plt
    rw [StrLaws.lt_cons_cons, plt_eq x y]
    rcases Nat.lt_trichotomy a b with h | rfl | h
    · simp [h]
    · simp
    · have : (a == b) = false := beq_eq_false_iff_ne.mpr (Nat.ne_of_gt h)
      simp [Nat.not_lt_of_gt h, h, this]
theorem pcX_ok {f : Int → Int → Bool} {g : List Nat → List Nat → Bool} {x y : PV} {b : Bool} {u v : Value} {o : CmpOp} (hr : pcX f g x y = some b) (hx : Rep C s.heap x u) (hy : Rep C s.heap y v)
    (h : ∀ i j t t', wpAny (model prog w) A (compareOp o (.int i t) (.int j t')) (PostB s (f i j)) noE s)
    (h2 : ∀ x y t t', wpAny (model prog w) A (compareOp o (.str x t) (.str y t')) (PostB s (g x.cps.toList y.cps.toList)) noE s) : wpAny (model prog w) A (compareOp o u v) (PostB s b) noE s := by
  unfold pcX at hr
  cases h1 : asI x with
  | some i =>
    rw [h1] at hr
    obtain ⟨j, e2, rfl⟩ := Option.map_eq_some_iff.mp hr
    obtain ⟨t, rfl⟩ := rep_asI h1 hx
    obtain ⟨t', rfl⟩ := rep_asI e2 hy
    exact h i j t t'
  | none =>
    rw [h1] at hr
    obtain ⟨i, e1, hr⟩ := Option.bind_eq_some_iff.mp hr
    obtain ⟨j, e2, rfl⟩ := Option.map_eq_some_iff.mp hr
    obtain ⟨x, t, rfl, rfl⟩ := rep_asS e1 hx
    obtain ⟨y, t', rfl, rfl⟩ := rep_asS e2 hy
    exact h2 x y t t'
theorem neg_ok2 {o o' : CmpOp} {u v : Value} {b : Bool} {x : Option Bool} (hr : x.map (!·) = some b) (h : ∀ b, x = some b → PostB2 prog w A s o o' u v b) : wpAny (model prog w) A (compareOp o' u v) (PostB s b) noE s := by
  obtain ⟨b', e, rfl⟩ := Option.map_eq_some_iff.mp hr
  exact (h b' e).2
theorem cmp_ok (R : Room n A) {o : CmpOp} {x y : PV} {b : Bool} {u v : Value} (hr : pcmp O (cCmp o) x y = some b) (hx : Rep C s.heap x u) (hy : Rep C s.heap y v) (W : Owned C O s.heap) :
    wpAny (model prog w) A (compareOp o u v) (PostB s b) noE s := by
  cases o with
  | Eq => exact (peq_ok R hr hx hy W).1
  | NotEq => exact neg_ok2 hr fun _ e => peq_ok R e hx hy W
  | Lt => exact pcI_ok hr hx hy fun _ _ _ _ => lt_int ⟨krefl s, rfl⟩
  | LtE => exact pcX_ok hr hx hy (fun _ _ _ _ => le_int ⟨krefl s, rfl⟩) fun _ _ _ _ => by rw [plt_eq]; exact P.le_str ⟨krefl s, rfl⟩
  | Gt => exact pcX_ok hr hx hy (fun _ _ _ _ => gt_int ⟨krefl s, rfl⟩) fun _ _ _ _ => by rw [plt_eq]; exact P.gt_str ⟨krefl s, rfl⟩
  | GtE => exact pcI_ok hr hx hy fun _ _ _ _ => ge_int ⟨krefl s, rfl⟩
  | Is => exact (pis_ok hr hx hy).1
  | IsNot => exact neg_ok2 hr fun _ e => pis_ok e hx hy
  | In => exact (pin_ok R hr hx hy W).1
  | NotIn => exact neg_ok2 hr fun _ e => pin_ok R e hx hy W
end
end Mine

namespace Mine

theorem pidx_eq {α : Type} (l : List α) (i : Int) : pidx l i = (seqIndex? i l.length).bind (l[·]?) := by
  unfold pidx seqIndex?
  by_cases h : 0 ≤ i
  · rw [if_pos h]
    simp only [Int.not_lt.mpr h, if_false]
    split
    · simp
    · rename_i h2
      simp only [Bool.and_eq_true, decide_eq_true_eq] at h2
      simp only [Option.bind_none, List.getElem?_eq_none_iff]
      and_intros
  · rw [if_neg h]
    simp only [Int.not_le.mp h, if_true]
    split
    · rename_i h2
      rw [if_pos (by simp; and_intros)]
      simp
    · rename_i h2
      rw [if_neg (by simp; and_intros)]
      simp

theorem slice_core {α : Type} (l : List α) (a b : Nat) (hb : b ≤ l.length) : (sliceRange (a : Int) (b : Int) 1).filterMap (l[·]?) = (l.take b).drop a := by
  unfold sliceRange
  simp only [show (1 : Int) > 0 from Int.zero_lt_one, if_true]
  by_cases h : (a : Int) < b
  · rw [if_pos h]
    have e : (((b : Int) - a + 1 - 1) / 1).toNat = b - a := by rw [Int.ediv_one, Int.add_sub_cancel]; exact Int.toNat_sub b a
    rw [e]
    have e2 : (List.range (b - a)).map (fun (k : Nat) => ((a : Int) + 1 * (k : Int)).toNat) = (List.range (b - a)).map (fun k => a + k) := by
      apply List.map_congr_left
      intro k _
      rw [Int.one_mul]; rfl
    rw [e2, StrLaws.picks l (b - a) a (by rw [Nat.add_sub_cancel' (Nat.le_of_lt (Int.ofNat_lt.mp h))]; exact hb), List.drop_take]
  · rw [if_neg h]
    simp only [Int.toNat_zero, List.range_zero, List.map_nil, List.filterMap_nil]
    symm
    rw [List.drop_eq_nil_iff, List.length_take]
    exact Nat.le_trans (Nat.min_le_left _ _) (Int.ofNat_le.mp (Int.not_lt.mp h))

theorem cast_min (a b : Nat) : ((min a b : Nat) : Int) = min (a : Int) (b : Int) := by
  rcases Nat.le_total a b with h | h
  · rw [Nat.min_eq_left h, Int.min_eq_left (Int.ofNat_le.mpr h)]
  · rw [Nat.min_eq_right h, Int.min_eq_right (Int.ofNat_le.mpr h)]
theorem clip_eq (n : Nat) (i : Int) : max 0 (min (if i < 0 then i + n else i) (n : Int)) = (pclamp n i : Int) := by
  unfold pclamp
  by_cases h : i < 0
  · rw [if_pos h, if_pos h, Int.ofNat_toNat, Int.min_eq_left (Int.add_le_of_le_sub_right (by rw [Int.sub_self]; exact Int.le_of_lt h)), Int.max_comm]
  · have h := Int.not_lt.mp h
    rw [if_neg (Int.not_lt.mpr h), if_neg (Int.not_lt.mpr h), cast_min, Int.toNat_of_nonneg h, Int.max_eq_right (Int.le_min.mpr ⟨h, Int.natCast_nonneg n⟩)]
theorem pclamp_le (n : Nat) (i : Int) : pclamp n i ≤ n := by
  unfold pclamp
  by_cases h : i < 0
  · rw [if_pos h]; exact Int.toNat_le.mpr (Int.add_le_of_le_sub_right (by rw [Int.sub_self]; exact Int.le_of_lt h))
  · rw [if_neg h]; exact Nat.min_le_right _ _

theorem slice_list_eq (l : List Value) (lo hi : Option Int) : (slicePick l.toArray lo hi none) = (pslice l lo hi).toArray := by
  unfold slicePick sliceBounds pslice
  simp only [Option.getD_none, show (1 : Int) > 0 from Int.zero_lt_one, if_true, List.size_toArray]
  congr 1
  cases lo <;> cases hi <;> simp only [clip_eq, plo, phi]
  · simpa using slice_core l 0 l.length (Nat.le_refl _)
  · rename_i i; simpa using slice_core l 0 (pclamp l.length i) (pclamp_le _ _)
  · rename_i i; simpa using slice_core l (pclamp l.length i) l.length (Nat.le_refl _)
  · rename_i i k; simpa using slice_core l (pclamp l.length i) (pclamp l.length k) (pclamp_le _ _)

theorem slice_str_eq (x : Str) (lo hi : Option Int) : (Builtin.Str.strSliceIndices lo hi 1 x.length).filterMap (x.cps[·]?) = pslice x.cps.toList lo hi := by
  unfold Builtin.Str.strSliceIndices pslice
  simp only [show (1 : Int) > 0 from Int.zero_lt_one, if_true, str_len]
  have e : (fun i : Nat => x.cps[i]?) = fun i => x.cps.toList[i]? := by funext i; simp
  rw [e]
  generalize x.cps.toList = l
  cases lo <;> cases hi <;> simp only [clip_eq, plo, phi]
  · simpa using slice_core l 0 l.length (Nat.le_refl _)
  · rename_i i; simpa using slice_core l 0 (pclamp l.length i) (pclamp_le _ _)
  · rename_i i; simpa using slice_core l (pclamp l.length i) l.length (Nat.le_refl _)
  · rename_i i k; simpa using slice_core l (pclamp l.length i) (pclamp l.length k) (pclamp_le _ _)

theorem range_len (a b : Nat) : (sliceRange (a : Int) (b : Int) 1).length = b - a := by
  unfold sliceRange
  simp only [show (1 : Int) > 0 from Int.zero_lt_one, if_true, List.length_map, List.length_range, Int.ediv_one]
  by_cases h : (a : Int) < b
  · rw [if_pos h, Int.add_sub_cancel]; exact Int.toNat_sub b a
  · rw [if_neg h]; exact (Nat.sub_eq_zero_of_le (Int.ofNat_le.mp (Int.not_lt.mp h))).symm
theorem range_len2 (a : Nat) {b n : Nat} (hb : b ≤ n) : (sliceRange (a : Int) (b : Int) 1).length = min b n - a := by rw [range_len, Nat.min_eq_left hb]

theorem slice_str_len (x : Str) (lo hi : Option Int) : (Builtin.Str.strSliceIndices lo hi 1 x.length).length = (pslice x.cps.toList lo hi).length := by
  unfold Builtin.Str.strSliceIndices pslice
  simp only [show (1 : Int) > 0 from Int.zero_lt_one, if_true, str_len]
  generalize x.cps.toList = l
  cases lo <;> cases hi <;> simp only [clip_eq, plo, phi, List.length_drop, List.length_take]
  · exact range_len2 0 (Nat.le_refl _)
  · exact range_len2 0 (pclamp_le _ _)
  · exact range_len2 _ (Nat.le_refl _)
  · exact range_len2 _ (pclamp_le _ _)

theorem pslice_full {α : Type} (l : List α) (lo hi : Option Int) (h : (pslice l lo hi).length = l.length) : pslice l lo hi = l := by
  unfold pslice at h ⊢
  generalize phi l.length hi = b at h ⊢
  generalize plo l.length lo = a at h ⊢
  rw [List.length_drop, List.length_take] at h
  rcases Nat.eq_zero_or_pos l.length with h0 | h0
  · have : l = [] := List.length_eq_zero_iff.mp h0
    subst this; simp
  · have h1 : l.length ≤ b := by
      rw [← h]; exact Nat.le_trans (Nat.sub_le _ _) (Nat.min_le_left _ _)
    rw [Nat.min_eq_right h1] at h
    have ha : a = 0 := (Nat.eq_zero_or_pos a).resolve_right fun q => Nat.ne_of_lt (Nat.sub_lt h0 q) h
    subst ha
    rw [List.take_of_length_le h1]; rfl

theorem txt_slice (x : Str) (lo hi : Option Int) : (Txt.slice x lo hi).cps.toList = pslice x.cps.toList lo hi := by
  unfold Txt.slice
  split
  · rename_i h
    simp only [Bool.and_eq_true, beq_iff_eq] at h
    rw [slice_str_len, str_len] at h
    exact (pslice_full _ _ _ h.2).symm
  · exact slice_str_eq x lo hi

theorem isEmpty_of {xs : Array Value} {l : List PV} (e : xs.size = l.length) : (!xs.isEmpty) = !l.isEmpty := by
  rw [← Array.isEmpty_toList]
  cases h : xs.toList <;> cases l <;> first | rfl | (rw [← Array.length_toList, h] at e; cases e)

section
variable {prog : Program} {w : World} {A : Around} {s : Shared} {C : RC} {O : Owns} {n : Nat}

noncomputable abbrev PostT (s : Shared) (b : Bool) : Bool → Shared → Prop := fun v s' => Keeps s s' ∧ v = b

theorem truth_seq {l : List PV} {b : Bool} {xs : Array Value} (hr : (if l.length ≤ LIM then some (!l.isEmpty) else none) = some b) (e : xs.size = l.length) : (xs.size : Int) < 2 ^ 63 ∧ (!xs.isEmpty) = b := by
  obtain ⟨h, hr⟩ := ite_some hr
  cases hr
  have h : l.length ≤ 1048576 := h
  exact ⟨by and_intros, isEmpty_of e⟩
theorem truth_list {x : PV} {b : Bool} {u : Value} (hr : ((asL O x).bind fun l => if l.length ≤ LIM then some (!l.isEmpty) else none) = some b) (hx : Rep C s.heap x u) (W : Owned C O s.heap) : wpAny (model prog w) A (truthy u) (PostT s b) noE s := by
  obtain ⟨l, e, hr⟩ := Option.bind_eq_some_iff.mp hr
  obtain ⟨a, xs, rfl, hp, hl, e⟩ := asL_rep' W e hx
  obtain ⟨h1, h2⟩ := truth_seq hr e
  exact wpAny_truthy_list hp.isList h1 ⟨kp, h2⟩
theorem truth_ok {x : PV} {b : Bool} {u : Value} (hr : ptruth O x = some b) (hx : Rep C s.heap x u) (W : Owned C O s.heap) : wpAny (model prog w) A (truthy u) (PostT s b) noE s := by
  cases x with
  | none => cases hx; cases hr; exact wpAny_pure ⟨krefl s, rfl⟩
  | bool => cases hx; cases hr; exact wpAny_truthy_bool ⟨krefl s, rfl⟩
  | int i =>
    obtain ⟨t, rfl⟩ := hx; cases hr
    refine P.truthy_int ⟨krefl s, ?_⟩
    rw [Bool.eq_iff_iff]; simp
  | str l =>
    obtain ⟨h, hr⟩ := ite_some hr
    cases hr
    obtain ⟨y, t, rfl, rfl⟩ := hx
    have h : y.cps.toList.length ≤ 1048576 := h
    refine P.truthy_str (by rw [str_len]; and_intros) ⟨kp, ?_⟩
    rw [Bool.eq_iff_iff, str_len]
    simp
  | tup l =>
    obtain ⟨a, xs, rfl, _, ht, hl⟩ := hx
    obtain ⟨h1, h2⟩ := truth_seq hr hl.length
    exact truthy_tuple ht h1 ⟨kp, h2⟩
  | list l => exact truth_list (x := .list l) hr hx W
  | own k => exact truth_list (x := .own k) hr hx W
  | _ => exact nn hr

theorem pidx_rep {C : RC} {h : Heap} {l : List PV} {xs : Array Value} {i : Int} {r : PV} (hr : pidx l i = some r) (hl : RepL C h l xs.toList) : ∃ q, xs[if 0 ≤ i then i.toNat else (i + l.length).toNat]? = some q ∧ Rep C h r q ∧ (0 ≤ i ∨ 0 ≤ i + l.length) := by
  unfold pidx at hr
  by_cases h0 : 0 ≤ i
  · rw [if_pos h0] at hr ⊢
    obtain ⟨q, e3, rq⟩ := hl.at _ _ hr
    exact ⟨q, by rw [← Array.getElem?_toList]; exact e3, rq, .inl h0⟩
  · rw [if_neg h0] at hr ⊢
    obtain ⟨h1, hr⟩ := ite_some hr
    obtain ⟨q, e3, rq⟩ := hl.at _ _ hr
    exact ⟨q, by rw [← Array.getElem?_toList]; exact e3, rq, .inr h1⟩
theorem item_ok {x y r : PV} {u v : Value} (hr : pitem O x y = some r) (hx : Rep C s.heap x u) (hy : Rep C s.heap y v) (W : Owned C O s.heap) :
    wpAny (model prog w) A (getItem u v) (Post C s r) noE s := by
  obtain ⟨i, e0, hr⟩ := Option.bind_eq_some_iff.mp hr
  obtain ⟨hi, hr⟩ := ite_some hr
  obtain ⟨t', rfl⟩ := rep_asI e0 hy
  cases h1 : asS x with
  | some l =>
    rw [h1] at hr
    obtain ⟨z, t, rfl, rfl⟩ := rep_asS h1 hx
    obtain ⟨c, e, rfl⟩ := Option.map_eq_some_iff.mp hr
    rw [pidx_eq, ← str_len] at e
    exact getItem_str (by simp; and_intros) (by simpa using e) ⟨kp, rep_str' rfl⟩
  | none =>
    rw [h1] at hr
    cases h2 : asT x with
    | some l =>
      rw [h2] at hr
      obtain ⟨a, xs, rfl, _, ht, hl, e⟩ := rep_asT h2 hx
      have hr : pidx l i = some r := hr
      rw [pidx_eq] at hr
      obtain ⟨j, e1, e2⟩ := Option.bind_eq_some_iff.mp hr
      obtain ⟨q, e3, rq⟩ := hl.at j _ e2
      rw [← e] at e1
      exact getItem_tuple ht (by and_intros) (by and_intros) e1 (by rw [← Array.getElem?_toList]; exact e3) ⟨krefl s, rq⟩
    | none =>
      rw [h2] at hr
      obtain ⟨l, el, hr⟩ := Option.bind_eq_some_iff.mp hr
      obtain ⟨a, xs, rfl, hp, hl, e⟩ := asL_rep' W el hx
      obtain ⟨q, e3, rq, h0⟩ := pidx_rep hr hl
      by_cases hc : 0 ≤ i
      · rw [if_pos hc] at e3
        exact wpAny_getItem_list hp.isList hc (by and_intros) e3 ⟨krefl s, rq⟩
      · rw [if_neg hc, ← e] at e3
        exact wpAny_getItem_list_neg hp.isList (by and_intros) (by and_intros) (by and_intros) e3 ⟨krefl s, rq⟩

theorem rep_part {x : PV} {p : Option Int} {u : Value} {h : Heap} (hp : ppart x = some p) (r : Rep C h x u) : IsPart u p ∧ ∃ q : Option (Int × Tok), u = partValue q ∧ q.map (·.1) = p := by
  cases x with
  | none => cases r; cases hp; exact ⟨.none, none, rfl, rfl⟩
  | int => obtain ⟨t, rfl⟩ := r; cases hp; exact ⟨.int _ t, some (_, t), rfl, rfl⟩
  | _ => exact nn hp

theorem made_slice {x : Str} {t : Tok} {l u : Option (Int × Tok)} {Q : Value → Shared → Prop} {s : Shared} (hsz : x.length ≤ sizeLine)
    (h : ∀ (y : Str) t' k, y.cps.toList = pslice x.cps.toList (l.map (·.1)) (u.map (·.1)) → Q (.str y t') { s with toks := k }) : (sliceMade x t l u none).post Q s := by
  unfold sliceMade slicePicked
  simp only [Option.map_none, Option.getD_none]
  refine post_val_or_str ⟨?_, fun t' k => ?_⟩
  · show (Txt.slice x (l.map (·.1)) (u.map (·.1))).length ≤ _
    exact Nat.le_trans (Txt.slice_le x _ _) hsz
  · exact h (Txt.slice x (l.map (·.1)) (u.map (·.1))) t' k (txt_slice _ _ _)

theorem slc_ok {x y z r : PV} {u v v2 : Value} {sl : Addr} (hr : pslc O x y z = some r) (hx : Rep C s.heap x u) (hy : Rep C s.heap y v) (hz : Rep C s.heap z v2) (W : Owned C O s.heap)
    (hsl : s.heap.IsSliceOf sl v v2 .none) : wpAny (model prog w) A (getItem u (.ref sl)) (Post C s r) noE s := by
  have hL := lim_size
  obtain ⟨lo, elo, hr⟩ := Option.bind_eq_some_iff.mp hr
  obtain ⟨hi, ehi, hr⟩ := Option.bind_eq_some_iff.mp hr
  obtain ⟨p1, q1, rfl, f1⟩ := rep_part elo hy
  obtain ⟨p2, q2, rfl, f2⟩ := rep_part ehi hz
  cases h1 : asS x with
  | some l =>
    rw [h1] at hr
    obtain ⟨h, hr⟩ := ite_some hr
    cases hr
    obtain ⟨t, k, rfl, rfl⟩ := rep_asS h1 hx
    refine wpAny_getItem_str_slice (l := q1) (u := q2) (st := none) hsl rfl ?_
    refine made_slice (by rw [str_len]; exact Nat.le_trans h hL) fun y t' k e => ⟨kp, rep_str' (by rw [e, f1, f2])⟩
  | none =>
    rw [h1] at hr
    cases h2 : asT x with
    | some l =>
      rw [h2] at hr
      obtain ⟨i, ei, hr⟩ := Option.bind_eq_some_iff.mp hr
      obtain ⟨h, hr⟩ := ite_some hr
      cases hr
      obtain ⟨a, xs, rfl, _, ht, hl, e⟩ := rep_asT h2 hx
      subst ei
      cases q1 with
      | none => cases f1
      | some q1 =>
        cases q2 with
        | some _ => subst f2; cases h.1
        | none =>
          obtain ⟨i', tk⟩ := q1
          cases f1
          have h : _ ∧ l.length ≤ LIM ∧ 1 ≤ i' ∧ i' ≤ (l.length : Int) := h
          obtain ⟨j, rfl⟩ := Int.eq_ofNat_of_zero_le (show 0 ≤ i' by and_intros)
          exact getItem_tuple_from ht (sl := sl) (u := tk) hsl (by and_intros) (by and_intros) ⟨kpush, rep_newT W (hl.drop j)⟩ (by and_intros)
    | none =>
      rw [h2] at hr
      obtain ⟨l, el, hr⟩ := Option.bind_eq_some_iff.mp hr
      obtain ⟨h, hr⟩ := ite_some hr
      cases hr
      obtain ⟨a, xs, rfl, hp, hl, e⟩ := asL_rep' W el hx
      refine wpAny_getItem_list_slice hp.isList hsl p1 p2 .none (by simp) ⟨kpush, ?_⟩ (by and_intros)
      have e2 : slicePick xs lo hi none = (pslice xs.toList lo hi).toArray := by rw [← slice_list_eq]
      rw [e2]
      refine rep_new W ?_
      have e3 : xs.toList.length = l.length := hl.length
      unfold pslice
      rw [e3]
      exact (hl.take _).drop _
end
end Mine

namespace Mine
open StrLaws

theorem psplitGo_n (sep : List Nat) : ∀ (k : Nat) (acc : List Nat), psplitGo sep k acc [] = [acc.reverse]
  | 0, _ => rfl
  | _ + 1, _ => rfl
theorem psplitGo_s (sep : List Nat) (k : Nat) (acc r : List Nat) (c : Nat) : psplitGo sep (k + 1) acc (c :: r) = psplitGo sep k acc r := rfl
theorem psplitGo_c (sep acc r : List Nat) (c : Nat) : psplitGo sep 0 acc (c :: r) = if sep.isPrefixOf (c :: r) then acc.reverse :: psplitGo sep (sep.length - 1) [] r else psplitGo sep 0 (c :: acc) r := rfl
theorem at_prefix (x y : Str) (i : Nat) : (y.cps.toList.isPrefixOf (x.cps.toList.drop i) = true) ↔ (i + y.length ≤ x.length ∧ Builtin.Str.subAt x y i = true) ∨ (y.length = 0) := by
  rw [StrLaws.subAt_eq, str_len, str_len, List.isPrefixOf_iff_prefix]
  generalize x.cps.toList = l
  generalize y.cps.toList = p
  constructor
  · rintro ⟨t, ht⟩
    by_cases h0 : p.length = 0
    · right; exact h0
    · left
      have h1 : p.length ≤ (l.drop i).length := by rw [← ht]; simp
      rw [List.length_drop] at h1
      exact ⟨by and_intros, by rw [← ht]; simp⟩
  · rintro (⟨h1, h2⟩ | h)
    · simp only [beq_iff_eq] at h2
      have := List.take_append_drop p.length (l.drop i)
      rw [h2] at this
      exact ⟨_, this⟩
    · have : p = [] := List.length_eq_zero_iff.mp h
      subst this; simp

theorem split_loop (x y : Str) (hy : y.length ≠ 0) : ∀ (k i : Nat) (found : Array Nat) (free a : Nat), i + k = x.length + 1 → found.size ≤ i → ((free ≤ i ∧ a ≤ i) ∨ (a = free ∧ i ≤ free ∧ free ≤ x.length)) →
    ∃ cuts, (forIn (List.range' i k) (found, free) (occBody x y x.length (x.length + 1))).run.fst.toList = found.toList ++ cuts ∧
      (partsFrom x y.length a cuts).map (·.cps.toList) = psplitGo y.cps.toList (free - i) ((x.cps.toList.drop a).take (i - a)).reverse (x.cps.toList.drop i)
  | 0, i, found, free, a, hi, hf, ha => by
    have hn : x.cps.toList.length = x.length := (str_len x).symm
    refine ⟨[], by simp, ?_⟩
    have h1 : x.cps.toList.drop i = [] := List.drop_eq_nil_iff.mpr (by and_intros)
    rw [h1]
    simp only [partsFrom, List.map_cons, List.map_nil, strSub_toList]
    rw [List.take_of_length_le (by rw [List.length_drop]; and_intros), List.take_of_length_le (by rw [List.length_drop]; and_intros)]
    rw [psplitGo_n]; simp
  | k + 1, i, found, free, a, hi, hf, ha => by
    have hn : x.cps.toList.length = x.length := (str_len x).symm
    rw [List.range'_succ, List.forIn_cons]
    by_cases hc : ((found.size < x.length + 1 ∧ free ≤ i) ∧ i + y.length ≤ x.length) ∧ Builtin.Str.subAt x y i = true
    · have hb : occBody x y x.length (x.length + 1) i (found, free) = pure (ForInStep.yield (found.push i, i + y.length)) := by unfold occBody; rw [if_pos hc]
      obtain ⟨cuts, e1, e2⟩ := split_loop x y hy k (i + 1) (found.push i) (i + y.length) (i + y.length) (by and_intros) (by simp; and_intros) (.inr ⟨rfl, by and_intros, hc.1.2⟩)
      refine ⟨i :: cuts, ?_, ?_⟩
      · rw [hb]
        refine Eq.trans e1 ?_
        simp
      · have hlt : i < x.cps.toList.length := by and_intros
        have hp := (at_prefix x y i).mpr (.inl ⟨hc.1.2, hc.2⟩)
        rw [List.drop_eq_getElem_cons hlt] at hp ⊢
        rw [show free - i = 0 by and_intros]
        simp only [partsFrom, List.map_cons, psplitGo_c, hp, if_true, List.reverse_reverse, strSub_toList]
        rw [e2]
        rw [show i + y.length - (i + 1) = y.length - 1 by and_intros, show i + 1 - (i + y.length) = 0 by and_intros, ← str_len]
        simp
    · have hb : occBody x y x.length (x.length + 1) i (found, free) = pure (ForInStep.yield (found, free)) := by unfold occBody; rw [if_neg hc]
      have hb' : (forIn (i :: List.range' (i + 1) k) (found, free) (occBody x y x.length (x.length + 1))).run = (forIn (List.range' (i + 1) k) (found, free) (occBody x y x.length (x.length + 1))).run := by
        rw [List.forIn_cons, hb]; rfl
      rw [← List.forIn_cons, hb']
      by_cases hfi : free ≤ i
      · have hai : a ≤ i := by and_intros
        obtain ⟨cuts, e1, e2⟩ := split_loop x y hy k (i + 1) found free a (by and_intros) (by and_intros) (.inl ⟨by and_intros, by and_intros⟩)
        refine ⟨cuts, e1, ?_⟩
        rw [e2, show free - i = 0 by and_intros, show free - (i + 1) = 0 by and_intros]
        by_cases hlt : i < x.cps.toList.length
        · have hp : y.cps.toList.isPrefixOf (x.cps.toList.drop i) = false := by
            rw [Bool.eq_false_iff]
            intro hp
            rcases (at_prefix x y i).mp hp with h | h
            · exact hc ⟨⟨⟨by and_intros, hfi⟩, h.1⟩, h.2⟩
            · exact hy h
          rw [List.drop_eq_getElem_cons hlt] at hp
          conv => rhs; rw [List.drop_eq_getElem_cons hlt]
          simp only [psplitGo_c, hp, Bool.false_eq_true, if_false]
          congr 1
          rw [show i + 1 - a = (i - a) + 1 by and_intros, List.take_add_one, List.getElem?_drop, show a + (i - a) = i by and_intros, List.getElem?_eq_getElem hlt]
          simp
        · have h1 : x.cps.toList.drop i = [] := List.drop_eq_nil_iff.mpr (by and_intros)
          have h2 : x.cps.toList.drop (i + 1) = [] := List.drop_eq_nil_iff.mpr (by and_intros)
          rw [h1, h2]
          simp only [psplitGo_n, List.reverse_reverse]
          rw [List.take_of_length_le (by rw [List.length_drop]; and_intros), List.take_of_length_le (by rw [List.length_drop]; and_intros)]
      · rcases ha with ha | ⟨rfl, h1, h2⟩
        · and_intros
        · obtain ⟨cuts, e1, e2⟩ := split_loop x y hy k (i + 1) found a a (by and_intros) (by and_intros) (.inr ⟨rfl, by and_intros, h2⟩)
          refine ⟨cuts, e1, ?_⟩
          have hlt : i < x.cps.toList.length := by and_intros
          rw [e2, show i - a = 0 by and_intros, show i + 1 - a = 0 by and_intros, show a - i = (a - (i + 1)) + 1 by and_intros]
          conv => rhs; rw [List.drop_eq_getElem_cons hlt]
          simp [psplitGo_s]

theorem psplit_none (y : List Nat) : ∀ (l acc : List Nat), (∀ i, y.isPrefixOf (l.drop i) = false ∨ l.length ≤ i) → psplitGo y 0 acc l = [acc.reverse ++ l]
  | [], acc, _ => by simp [psplitGo_n]
  | c :: r, acc, h => by
    have h0 := h 0
    simp only [List.drop_zero, List.length_cons] at h0
    have h0' : y.isPrefixOf (c :: r) = false := by rcases h0 with h | h; exact h; and_intros
    simp only [psplitGo_c, h0', Bool.false_eq_true, if_false]
    rw [psplit_none y r (c :: acc) fun i => by
      have := h (i + 1)
      simp only [List.drop_succ_cons, List.length_cons] at this
      rcases this with h | h
      · exact .inl h
      · exact .inr (by and_intros)]
    simp

theorem psplit_parts (x y : Str) (hy : y.length ≠ 0) : psplit y.cps.toList x.cps.toList = (Builtin.Str.partsBetween x (Builtin.Str.occurrences x y 0 x.length (x.length + 1)) y.length).map (·.cps.toList) := by
  obtain ⟨cuts, e1, e2⟩ := split_loop x y hy (x.length + 1) 0 #[] 0 0 (by and_intros) (by simp) (.inl ⟨by and_intros, by and_intros⟩)
  have hocc : Builtin.Str.occurrences x y 0 x.length (x.length + 1) = cuts := by rw [occ_eq]; simpa using e1
  rw [hocc, partsBetween_eq, e2]; simp [psplit]
theorem psplit_eq (x y : Str) (hy : y.length ≠ 0) : (Txt.split x y).map (·.cps.toList) = psplit y.cps.toList x.cps.toList := by
  obtain ⟨cuts, e1, e2⟩ := split_loop x y hy (x.length + 1) 0 #[] 0 0 (by and_intros) (by simp) (.inl ⟨by and_intros, by and_intros⟩)
  have hocc : Builtin.Str.occurrences x y 0 x.length (x.length + 1) = cuts := by rw [occ_eq]; simpa using e1
  have e3 : psplit y.cps.toList x.cps.toList = (partsFrom x y.length 0 cuts).map (·.cps.toList) := by
    rw [psplit_parts x y hy, hocc, partsBetween_eq]
  have hwhole : cuts = [] → psplit y.cps.toList x.cps.toList = [x.cps.toList] := by
    intro hc
    rw [e3, hc]
    simp [partsFrom, sub_whole]
  unfold Txt.split
  split
  · rename_i h
    have : psplit y.cps.toList x.cps.toList = [x.cps.toList] := by
      unfold psplit
      rw [psplit_none]
      · rfl
      · intro i
        left
        rw [Bool.eq_false_iff]
        intro hp
        rw [List.isPrefixOf_iff_prefix] at hp
        have hl := hp.length_le
        have hmem : ∀ c ∈ y.cps.toList, c ∈ x.cps.toList := fun c hc => List.mem_of_mem_drop (hp.subset hc)
        simp only [Bool.or_eq_true, decide_eq_true_eq] at h
        rcases h with h | h
        · rw [str_len, str_len] at h
          rw [List.length_drop] at hl
          and_intros
        · have kind : ∀ b : Nat, (x.cps.all (· < b)) = true → (y.cps.all (· < b)) = true := by
            intro b hb
            rw [← Array.all_toList] at hb ⊢
            rw [List.all_eq_true] at hb ⊢
            exact fun c hc => hb c (hmem c hc)
          unfold Builtin.Str.strKind at h
          have k1 := kind 256
          have k2 := kind 65536
          revert h k1 k2
          generalize (x.cps.all fun x => decide (x < 256)) = a1
          generalize (x.cps.all fun x => decide (x < 65536)) = a2
          generalize (y.cps.all fun x => decide (x < 256)) = b1
          generalize (y.cps.all fun x => decide (x < 65536)) = b2
          intro h k1 k2
          cases a1 <;> cases a2 <;> cases b1 <;> cases b2 <;> simp at h k1 k2
    rw [this]; rfl
  · split
    · rename_i h
      rw [hocc] at h
      rw [hwhole (by simpa using h)]; rfl
    · rw [hocc, partsBetween_eq, e3]

theorem occ_done {x y : Str} {hi : Nat} : ∀ (l : List Nat) (st : Array Nat × Nat), 1 ≤ st.1.size → (forIn l st (occBody x y hi 1)).run = st
  | [], _, _ => rfl
  | i :: l, st, h => by
    have hb : occBody x y hi 1 i st = pure (ForInStep.yield st) := by unfold occBody; rw [if_neg (fun q => absurd q.1.1.1 (by and_intros))]
    rw [List.forIn_cons, hb]
    exact occ_done l st h
theorem find_loop (x y : Str) {c hi : Nat} (hc : y.cps.toList = [c]) (hh : hi ≤ x.length) : ∀ (k i free : Nat), i + k = hi + 1 → free ≤ i →
    (forIn (List.range' i k) ((#[] : Array Nat), free) (occBody x y hi 1)).run.fst.toList = ((((x.cps.toList.take hi).drop i).findIdx? fun d => [d] == [c]).map (i + ·)).toList
  | 0, i, free, hi', _ => by
    have : (x.cps.toList.take hi).drop i = [] := List.drop_eq_nil_iff.mpr (by rw [List.length_take]; and_intros)
    rw [this]; rfl
  | k + 1, i, free, hi', hf => by
    have hn : x.cps.toList.length = x.length := (str_len x).symm
    have hy : y.length = 1 := by rw [str_len, hc]; rfl
    rw [List.range'_succ]
    by_cases hi2 : i < hi
    · have hlt : i < x.cps.toList.length := by and_intros
      have hdr : (x.cps.toList.take hi).drop i = x.cps.toList[i] :: (x.cps.toList.take hi).drop (i + 1) := by
        rw [List.drop_eq_getElem_cons (by rw [List.length_take]; and_intros), List.getElem_take]
      have hsub : Builtin.Str.subAt x y i = ([x.cps.toList[i]] == [c]) := by
        rw [StrLaws.subAt_eq, hc, str_len, hc, List.drop_eq_getElem_cons hlt]; rfl
      rw [hdr, List.findIdx?_cons, List.forIn_cons]
      cases hq : ([x.cps.toList[i]] == [c]) with
      | true =>
        have hb : occBody x y hi 1 i (#[], free) = pure (ForInStep.yield (#[i], i + 1)) := by
          unfold occBody; rw [if_pos ⟨⟨⟨by simp, hf⟩, by and_intros⟩, by rw [hsub, hq]⟩, hy]; rfl
        rw [hb]
        exact congrArg (fun st : Array Nat × Nat => st.1.toList) (occ_done (List.range' (i + 1) k) (#[i], i + 1) (Nat.le_refl 1))
      | false =>
        have hb : occBody x y hi 1 i (#[], free) = pure (ForInStep.yield (#[], free)) := by
          unfold occBody; rw [if_neg fun q => by rw [hsub, hq] at q; exact absurd q.2 (by decide)]
        rw [hb]
        refine Eq.trans (find_loop x y hc hh k (i + 1) free (by and_intros) (by and_intros)) ?_
        simp only [Bool.false_eq_true, if_false]
        cases ((x.cps.toList.take hi).drop (i + 1)).findIdx? (fun d => [d] == [c]) with
        | none => rfl
        | some j => show [i + 1 + j] = [i + (j + 1)]; rw [Nat.add_right_comm]; rfl
    · have hb : occBody x y hi 1 i (#[], free) = pure (ForInStep.yield (#[], free)) := by
        unfold occBody; rw [if_neg fun q => absurd q.1.2 (by and_intros)]
      have : (x.cps.toList.take hi).drop i = [] := List.drop_eq_nil_iff.mpr (by rw [List.length_take]; and_intros)
      have hk : k = 0 := by and_intros
      subst hk
      rw [List.forIn_cons, hb, this]; rfl
theorem find_eq (x y : Str) {i j : Nat} (hc : y.cps.toList.length = 1) (hj : j ≤ x.length) : (match Builtin.Str.occurrences x y i j 1 with | k :: _ => (k : Int) | [] => -1) = pfind y.cps.toList x.cps.toList i j := by
  obtain ⟨c, hc⟩ := List.length_eq_one_iff.mp hc
  rw [occ_eq]
  by_cases h : i ≤ j + 1
  · rw [find_loop x y hc hj (j + 1 - i) i i (by and_intros) (Nat.le_refl i)]
    unfold pfind
    rw [hc]
    cases ((x.cps.toList.take j).drop i).findIdx? (fun d => [d] == [c]) <;> rfl
  · rw [show j + 1 - i = 0 by and_intros]
    have : (x.cps.toList.take j).drop i = [] := List.drop_eq_nil_iff.mpr (by rw [List.length_take]; and_intros)
    unfold pfind
    rw [this]; rfl
end Mine

namespace Mine
open StrLaws

theorem pints_rep {C : RC} {h : Heap} : ∀ {vs : List PV} {us : List Value} {ns : List Int}, pints vs = some ns → RepL C h vs us → IntsAre us ns
  | [], us, ns, e, r => by cases e; cases r; exact .nil
  | p :: ps, us, ns, e, r => by
    obtain ⟨i, e1, e⟩ := Option.bind_eq_some_iff.mp e
    obtain ⟨ns', e', rfl⟩ := Option.map_eq_some_iff.mp e
    obtain ⟨v, r', rfl, h1, h2⟩ := r
    obtain ⟨t, rfl⟩ := rep_asI e1 h1
    exact .cons _ t (pints_rep e' h2)

theorem pstrs_rep {C : RC} {h : Heap} : ∀ {vs : List PV} {us : List Value} {ls : List (List Nat)}, pstrs vs = some ls → RepL C h vs us → ∃ l : List (Str × Tok), us = strValues l ∧ l.map (fun p => p.1.cps.toList) = ls
  | [], us, ls, e, r => by cases e; cases r; exact ⟨[], rfl, rfl⟩
  | p :: ps, us, ls, e, r => by
    obtain ⟨i, e1, e⟩ := Option.bind_eq_some_iff.mp e
    obtain ⟨ns', e', rfl⟩ := Option.map_eq_some_iff.mp e
    obtain ⟨v, r', rfl, h1, h2⟩ := r
    obtain ⟨s, t, rfl, rfl⟩ := rep_asS e1 h1
    obtain ⟨l, rfl, rfl⟩ := pstrs_rep e' h2
    exact ⟨(s, t) :: l, rfl, rfl⟩

theorem join_eq (sep : Str) : ∀ texts : List Str, (Str.join sep texts).cps.toList = pjoin sep.cps.toList (texts.map (·.cps.toList))
  | [] => rfl
  | [x] => rfl
  | x :: y :: r => by
    show ((x ++ sep) ++ Str.join sep (y :: r)).cps.toList = _
    rw [Str.cps_append, Str.cps_append, Array.toList_append, Array.toList_append, join_eq sep (y :: r)]
    rfl

theorem rep_strs {C : RC} {h : Heap} : ∀ (l : List (Str × Tok)), RepL C h (l.map fun p => PV.str p.1.cps.toList) (strValues l)
  | [] => rfl
  | (s, t) :: l => ⟨_, strValues l, rfl, rep_str, rep_strs l⟩

section
variable {prog : Program} {w : World} {A : Around} {s : Shared} {C : RC} {O : Owns} {n : Nat}

noncomputable def biVal : PBi → Value
  | .len => .builtin "len"
  | .max => .builtin "max"
  | .chr => .builtin "chr"
  | .ord => .builtin "ord"

theorem keepsOf {h' : Heap} {tk : Nat} (hk : ∀ b o, s.heap.get? b = some o → h'.get? b = some o) : Keeps s { s with heap := h', toks := tk } := ⟨.of hk, rfl, id⟩

theorem repL1 {h : Heap} {vs : List PV} {x : PV} {us : List Value} (e : pone vs = some x) (r : RepL C h vs us) : ∃ u, us = [u] ∧ Rep C h x u := by
  cases vs with
  | nil => cases e
  | cons p l =>
    obtain ⟨v, r', rfl, h1, h2⟩ := r
    cases l with
    | nil => cases e; cases h2; exact ⟨v, rfl, h1⟩
    | cons _ _ => cases e
theorem repL2 {h : Heap} {vs : List PV} {x : PV × PV} {us : List Value} (e : ptwo vs = some x) (r : RepL C h vs us) : ∃ u v, us = [u, v] ∧ Rep C h x.1 u ∧ Rep C h x.2 v := by
  cases vs with
  | nil => cases e
  | cons p l =>
    obtain ⟨y, e', rfl⟩ := Option.map_eq_some_iff.mp e
    obtain ⟨v, r', rfl, h1, h2⟩ := r
    obtain ⟨u, rfl, h3⟩ := repL1 e' h2
    exact ⟨v, u, rfl, h1, h3⟩

theorem len_ok {v : PV} {u : Value} {r : PV} (hr : plen O v = some r) (hx : Rep C s.heap v u) (W : Owned C O s.heap) : wpAny (model prog w) A (call (.builtin "len") [u]) (Post C s r) noE s := by
  unfold plen at hr
  cases h1 : asS v with
  | some l =>
    rw [h1] at hr
    obtain ⟨h, hr⟩ := ite_some hr
    cases hr
    obtain ⟨x, t, rfl, rfl⟩ := rep_asS h1 hx
    rw [← str_len] at h ⊢
    exact len_str (by and_intros) ⟨kp, rep_int⟩
  | none =>
    rw [h1] at hr
    cases h2 : asT v with
    | some l =>
      rw [h2] at hr
      obtain ⟨h, hr⟩ := ite_some hr
      cases hr
      obtain ⟨a, xs, rfl, _, ht, hl, e⟩ := rep_asT h2 hx
      rw [← e] at h ⊢
      exact len_tuple ht (by and_intros) ⟨kp, rep_int⟩
    | none =>
      rw [h2] at hr
      obtain ⟨l, el, hr⟩ := Option.bind_eq_some_iff.mp hr
      obtain ⟨h, hr⟩ := ite_some hr
      cases hr
      obtain ⟨a, xs, rfl, hp, hl, e⟩ := asL_rep' W el hx
      rw [← e] at h ⊢
      exact Calls.call_len_list hp.isList (by and_intros) ⟨kp, rep_int⟩
theorem repL3 {h : Heap} {vs : List PV} {x : PV × PV × PV} {us : List Value} (e : pthree vs = some x) (r : RepL C h vs us) : ∃ u v v2, us = [u, v, v2] ∧ Rep C h x.1 u ∧ Rep C h x.2.1 v ∧ Rep C h x.2.2 v2 := by
  cases vs with
  | nil => cases e
  | cons p l =>
    obtain ⟨y, e', rfl⟩ := Option.map_eq_some_iff.mp e
    obtain ⟨v, r', rfl, h1, h2⟩ := r
    obtain ⟨u, u2, rfl, h3⟩ := repL2 e' h2
    exact ⟨v, u, u2, rfl, h1, h3⟩
theorem max_ok (R : Room n A) {v : PV} {u : Value} {m : Int} {ns : List Int} (e : (asL O v).bind pints = some ns) (hm : (ns.find? fun m => ns.all fun y => decide (y ≤ m)) = some m) (hx : Rep C s.heap v u) (W : Owned C O s.heap) : wpAny (model prog w) A (call (.builtin "max") [u]) (Post C s (.int m)) noE s := by
  obtain ⟨l, el, en⟩ := Option.bind_eq_some_iff.mp e
  obtain ⟨a, xs, rfl, hp, hl⟩ := asL_rep W el hx
  have hi := pints_rep en hl
  obtain ⟨zs, e2⟩ := hi.allInts.items
  have hns : ns = zs.toList.map (·.1) := by rw [← hi.numsOf, ← nums_intItems, ← e2]
  have hp' : s.heap.IsList a (intItems zs) := by
    have := hp.isList
    rwa [show xs = xs.toList.toArray by simp, e2] at this
  have hmem := List.mem_of_find?_eq_some hm
  have hall := List.all_eq_true.mp (List.find?_some (p := fun m => ns.all fun y => decide (y ≤ m)) hm)
  obtain ⟨j, hj, e4⟩ := List.getElem_of_mem hmem
  have hlen : ns.length = zs.size := by rw [hns]; simp
  have nat : ∀ k (hk : k < zs.size), numAt zs k = ns[k]'(by and_intros) := by
    intro k hk; simp [numAt, hk, hns]
  obtain ⟨h1, h2⟩ := argBest_gt (numAt zs) (zs.size - 1)
  refine max_intList R.handled hp' (by and_intros) fun v h' tk hv hk => ⟨keepsOf hk, ?_⟩
  obtain ⟨t, rfl⟩ := intItems_at hv
  have a1 := h2 j (by and_intros)
  rw [nat j (by and_intros), e4] at a1
  have a2 : numAt zs (argBest (fun i j => decide (numAt zs i > numAt zs j)) (zs.size - 1)) ≤ m := by
    rw [nat _ (by and_intros)]
    exact of_decide_eq_true (hall _ (List.getElem_mem _))
  rw [Int.le_antisymm a2 a1]
  exact rep_int
theorem bi_ok (R : Room n A) {b : PBi} {vs : List PV} {us : List Value} {r : PV} (hr : pbi O b vs = some r) (hv : RepL C s.heap vs us) (W : Owned C O s.heap) :
    wpAny (model prog w) A (call (biVal b) us) (Post C s r) noE s := by
  cases b with
  | len =>
    obtain ⟨v, e0, hr⟩ := Option.bind_eq_some_iff.mp hr
    obtain ⟨u, rfl, hx⟩ := repL1 e0 hv
    exact len_ok hr hx W
  | max =>
    obtain ⟨v, e0, hr⟩ := Option.bind_eq_some_iff.mp hr
    obtain ⟨u, rfl, hx⟩ := repL1 e0 hv
    obtain ⟨ns, e, hr⟩ := Option.bind_eq_some_iff.mp hr
    obtain ⟨m, e3, rfl⟩ := Option.map_eq_some_iff.mp hr
    exact max_ok R e e3 hx W
  | chr =>
    obtain ⟨v, e0, hr⟩ := Option.bind_eq_some_iff.mp hr
    obtain ⟨u, rfl, hx⟩ := repL1 e0 hv
    obtain ⟨i, e1, hr⟩ := Option.bind_eq_some_iff.mp hr
    obtain ⟨h, hr⟩ := ite_some hr
    cases hr
    obtain ⟨t, rfl⟩ := rep_asI e1 hx
    exact P.chr_of_int (Bool.or_eq_false_iff.mpr ⟨decide_eq_false (by and_intros), decide_eq_false (by and_intros)⟩) ⟨kp, rep_str' rfl⟩
  | ord =>
    obtain ⟨v, e0, hr⟩ := Option.bind_eq_some_iff.mp hr
    obtain ⟨u, rfl, hx⟩ := repL1 e0 hv
    obtain ⟨l, e1, hr⟩ := Option.bind_eq_some_iff.mp hr
    obtain ⟨c, e2, rfl⟩ := Option.map_eq_some_iff.mp hr
    obtain ⟨x, t, rfl, e⟩ := rep_asS e1 hx
    have hl : l = [c] := by
      cases l with
      | nil => cases e2
      | cons d q =>
        cases q with
        | nil => cases e2; rfl
        | cons _ _ => cases e2
    have : x = ⟨#[c]⟩ := Str.ext' (by apply Array.ext'; rw [e, hl])
    subst this
    exact P.ord_of_char ⟨kp, rep_int⟩

theorem pindex_at {vs : List PV} {x : PV} {i : Nat} (h : (vs.findIdx? fun y => pveq y x) = some i) : i < vs.length ∧ (∀ y, vs[i]? = some y → pveq y x = true) ∧ ∀ j y, j < i → vs[j]? = some y → pveq y x = false := by
  obtain ⟨h1, h2, h3⟩ := List.findIdx?_eq_some_iff_getElem.mp h
  refine ⟨h1, fun y e => ?_, fun j y hj e => ?_⟩
  · rw [List.getElem?_eq_getElem h1] at e; cases e; exact h2
  · have hj' : j < vs.length := by and_intros
    rw [List.getElem?_eq_getElem hj'] at e; cases e
    simpa using h3 j hj

noncomputable def meId : PMe → String
  | .join => "str.join"
  | .split => "str.split"
  | .replace => "str.replace"
  | .find => "str.find"
  | .index => "list.index"

theorem toPDs_get : ∀ (vs : List PV) (i : Nat), (toPDs vs)[i]? = (vs[i]?).map toPD
  | [], i => rfl
  | p :: ps, 0 => rfl
  | p :: ps, i + 1 => toPDs_get ps i
theorem noStarL_get : ∀ {vs : List PV} {i : Nat} {y : PV}, noStarL vs = true → vs[i]? = some y → noStar y = true
  | [], i, y, _, e => nomatch e
  | p :: ps, 0, y, h, e => by cases e; exact (and_t h).1
  | p :: ps, i + 1, y, h, e => by exact noStarL_get (i := i) (and_t h).2 e


theorem split_call {x y : Str} {t u : Tok} {Q : Value → Shared → Prop} {E : Value → Shared → Prop} (hy : (y.length == 0) = false)
    (hq : ∀ l k, l.map (·.1) = Txt.split x y → Q (.ref s.heap.objs.size) { s with heap := s.heap.push { cls := .type "list", data := .seq (strValues l).toArray }, toks := k })
    (hsz : x.length ≤ sizeLine) (hsz2 : (Builtin.Str.partsBetween x (Builtin.Str.occurrences x y 0 x.length (x.length + 1)) y.length).length ≤ sizeLine) :
    wpAny (model prog w) A (call (.builtin "str.split") [.str x t, .str y u]) Q E s := by
  cases h1 : (decide (x.length < y.length) || decide (Builtin.Str.strKind x < Builtin.Str.strKind y))
  · cases hf : (Builtin.Str.occurrences x y 0 x.length (x.length + 1)).isEmpty
    · refine call_meets F.slot_str_split (typeIs_str _ _ _) F.entry_str_split (F.args_str_split_2 _ _) (meets_str_split_sep x y t u h1 hy hf hsz hsz2) ?_
      show wants Q E _ { s with toks := _, heap := s.heap.push { cls := .type "list", data := .seq (strsFrom s.toks (Builtin.Str.partsBetween x (Builtin.Str.occurrences x y 0 x.length (x.length + 1)) y.length)).toArray } }
      rw [strsFrom_eq]
      exact hq (numbered s.toks _) _ ((numbered_texts _ _).trans ((if_neg (ne_true_of_eq_false h1)).trans (if_neg (ne_true_of_eq_false hf))).symm)
    · exact call_meets F.slot_str_split (typeIs_str _ _ _) F.entry_str_split (F.args_str_split_2 _ _) (meets_str_split_not_found x y t u h1 hy hf)
        (hq [(x, t)] s.toks ((if_neg (ne_true_of_eq_false h1)).trans (if_pos hf)).symm)
  · exact call_meets F.slot_str_split (typeIs_str _ _ _) F.entry_str_split (F.args_str_split_2 _ _) (meets_str_split_cannot_occur x y t u h1)
      (hq [(x, t)] s.toks (if_pos h1).symm)

theorem not_found {x y : Str} (h : pisIn y.cps.toList x.cps.toList = false) : (Builtin.Str.occurrences x y 0 x.length (x.length + 1)).isEmpty = true := by
  obtain ⟨f, hc⟩ := StrLaws.occ_chain x y (x.length + 1)
  cases ho : Builtin.Str.occurrences x y 0 x.length (x.length + 1) with
  | nil => rfl
  | cons c r =>
    rw [ho] at hc
    have h2 : StrLaws.At x y x.length c := hc.2.1
    exfalso
    have : pisIn y.cps.toList x.cps.toList = true := by
      rw [pisIn_iff]
      refine ⟨c, by have := h2.1; rw [str_len, str_len] at this; exact this, ?_⟩
      have := h2.2
      rw [StrLaws.subAt_eq, str_len] at this
      simpa using this
    rw [h] at this; cases this

theorem join_ok {sep : Str} {t : Tok} {vs : List PV} {us : List Value} {r : PV} (hr : ((pone vs).bind fun v => ((asL O v).bind pstrs).bind fun ls => if (ls.map List.length).sum + ls.length * sep.cps.toList.length ≤ LIM then some (PV.str (pjoin sep.cps.toList ls)) else none) = some r)
    (hv : RepL C s.heap vs us) (W : Owned C O s.heap) : wpAny (model prog w) A (call (.builtin "str.join") (.str sep t :: us)) (Post C s r) noE s := by
  have hL := lim_size
  obtain ⟨v, e0, hr⟩ := Option.bind_eq_some_iff.mp hr
  obtain ⟨u, rfl, hx⟩ := repL1 e0 hv
  obtain ⟨ls, e, hr⟩ := Option.bind_eq_some_iff.mp hr
  obtain ⟨h, hr⟩ := ite_some hr
  cases hr
  obtain ⟨l, el, en⟩ := Option.bind_eq_some_iff.mp e
  obtain ⟨a, xs, rfl, hp, hl⟩ := asL_rep W el hx
  obtain ⟨tx, e1, e2⟩ := pstrs_rep en hl
  have hp' : s.heap.IsList a (strValues tx).toArray := by
    have := hp.isList
    rwa [show xs = xs.toList.toArray by simp, e1] at this
  have e3 : ls = (tx.map (·.1)).map (·.cps.toList) := by rw [← e2]; simp
  refine SC.join hp' rfl ?_ fun t' k => ⟨kp, rep_str' ?_⟩
  · unfold JoinOk
    rw [StrLaws.joinTotal]
    have h1 : (((tx.map (·.1)).map (·.length)).sum + (tx.map (·.1)).length * sep.length) ≤ sizeLine := by
      have e4 : (tx.map (·.1)).map (·.length) = ls.map List.length := by
        rw [e3, List.map_map, List.map_map, List.map_map]
        exact List.map_congr_left fun a _ => str_len _
      rw [e4, str_len, show (tx.map (·.1)).length = ls.length by rw [e3]; simp]
      exact Nat.le_trans h hL
    simp only [Builtin.Str.tooLong, Bool.not_eq_true', decide_eq_false_iff_not]
    exact Nat.not_lt.mpr h1
  · unfold Txt.join
    rw [StrLaws.glued_eq_join, join_eq, e3]
theorem split_ok {x : Str} {t : Tok} {vs : List PV} {us : List Value} {r : PV} (hr : ((pone vs).bind fun v => (asS v).bind fun sep => if sep.isEmpty || decide (LIM < x.cps.toList.length) then none else some (PV.list ((psplit sep x.cps.toList).map .str))) = some r)
    (hv : RepL C s.heap vs us) (W : Owned C O s.heap) : wpAny (model prog w) A (call (.builtin "str.split") (.str x t :: us)) (Post C s r) noE s := by
  have hL := lim_size
  obtain ⟨v, e0, hr⟩ := Option.bind_eq_some_iff.mp hr
  obtain ⟨u, rfl, hx⟩ := repL1 e0 hv
  obtain ⟨l, e1, hr⟩ := Option.bind_eq_some_iff.mp hr
  obtain ⟨h, hr⟩ := ite_no hr
  cases hr
  obtain ⟨y, t', rfl, rfl⟩ := rep_asS e1 hx
  simp only [Bool.or_eq_true, decide_eq_true_eq, not_or] at h
  have hy : y.length ≠ 0 := by rw [str_len]; intro h0; exact h.1 (by simpa using List.length_eq_zero_iff.mp h0)
  have h2 : x.length ≤ LIM := by rw [str_len]; exact Nat.not_lt.mp h.2
  have hparts : (Builtin.Str.partsBetween x (Builtin.Str.occurrences x y 0 x.length (x.length + 1)) y.length).length ≤ sizeLine := by
    have h1 := StrLaws.occ_length_le x y 0 x.length (x.length + 1)
    unfold Builtin.Str.partsBetween
    simp only [List.length_map, List.length_zip, List.length_cons, List.length_append, List.length_nil]
    unfold LIM at h2
    rw [sizeLine_eq]
    and_intros
  refine split_call (by simpa using hy) (fun l k e => ⟨kpush, ?_⟩) (Nat.le_trans h2 hL) hparts
  have e2 : psplit y.cps.toList x.cps.toList = l.map fun p => p.1.cps.toList := by
    rw [← psplit_eq x y hy, ← e, List.map_map]; rfl
  rw [e2, List.map_map]
  exact rep_new W (rep_strs l)
theorem repl_ok {x : Str} {t : Tok} {vs : List PV} {us : List Value} {r : PV} (hr : ((ptwo vs).bind fun p => (asS p.1).bind fun a => (asS p.2).bind fun _ => if pisIn a x.cps.toList then none else some (PV.str x.cps.toList)) = some r)
    (hv : RepL C s.heap vs us) : wpAny (model prog w) A (call (.builtin "str.replace") (.str x t :: us)) (Post C s r) noE s := by
  obtain ⟨p, e0, hr⟩ := Option.bind_eq_some_iff.mp hr
  obtain ⟨v, v', rfl, hx, hy⟩ := repL2 e0 hv
  obtain ⟨a, e1, hr⟩ := Option.bind_eq_some_iff.mp hr
  obtain ⟨b, e2, hr⟩ := Option.bind_eq_some_iff.mp hr
  obtain ⟨h, hr⟩ := ite_no hr
  cases hr
  obtain ⟨y, t', rfl, rfl⟩ := rep_asS e1 hx
  obtain ⟨z, t'', rfl, rfl⟩ := rep_asS e2 hy
  have hn := not_found (x := x) (y := y) (Bool.eq_false_iff.mpr h)
  have hc : ((Builtin.Str.occurrences x y 0 x.length (x.length + 1)).isEmpty || (y.length == 0 && z.length == 0)) = true := by rw [hn]; rfl
  refine call_gives F.slot_str_replace (typeIs_str _ _ _) F.entry_str_replace (F.args_str_replace_3 _ _ _)
    (gives_str_replace x y z t t' t'' fun hf => absurd hc (by rw [hf]; nofun)) ?_
  rw [if_pos hc]
  exact ⟨krefl s, rep_str⟩
theorem replace_eq {x y z : Str} (h2 : y.cps.toList.length = 1) : (Txt.replace x y z).cps.toList = preplace x.cps.toList y.cps.toList z.cps.toList := by
  have hy : y.length ≠ 0 := by rw [str_len, h2]; decide
  unfold preplace Txt.replace
  rw [psplit_parts x y hy]
  by_cases hc : ((Builtin.Str.occurrences x y 0 x.length (x.length + 1)).isEmpty || (y.length == 0 && z.length == 0)) = true
  · rw [if_pos hc]
    have : (Builtin.Str.occurrences x y 0 x.length (x.length + 1)) = [] := by
      rcases Bool.or_eq_true_iff.mp hc with q | q
      · exact List.isEmpty_iff.mp q
      · exact absurd (beq_iff_eq.mp (and_t q).1) hy
    rw [this, partsBetween_eq]
    simp [partsFrom, sub_whole, pjoin]
  · rw [if_neg hc, StrLaws.glued_eq_join, join_eq]
theorem gives_find4 (x y : Str) (i j : Int) (t u v v2 : Tok) : Gives (Builtin.«str.find» ⟨[.str x t, .str y u, .int i v, .int j v2], []⟩) (.int (match Builtin.Str.occurrences x y (fromIndex x.length i) (min (fromIndex x.length j) x.length) 1 with | k :: _ => (k : Int) | [] => -1)) := by
  show Gives (match Builtin.Str.occurrences x y (fromIndex x.length i) (min (fromIndex x.length j) x.length) 1 with | k :: _ => retInt k | [] => (do rule "str.find.not-found"; retInt (-1))) _
  cases Builtin.Str.occurrences x y (fromIndex x.length i) (min (fromIndex x.length j) x.length) 1 with
  | nil => exact .rule (.of_eq rfl)
  | cons k _ => exact .of_eq rfl
theorem find_ok {x : Str} {t : Tok} {vs : List PV} {us : List Value} {r : PV} (hr : ((pthree vs).bind fun p => (asS p.1).bind fun a => (asI p.2.1).bind fun i => (asI p.2.2).bind fun j => if a.length = 1 ∧ 0 ≤ i ∧ i < LIM ∧ 0 ≤ j ∧ j ≤ x.cps.toList.length ∧ x.cps.toList.length ≤ LIM then some (PV.int (pfind a x.cps.toList i.toNat j.toNat)) else none) = some r)
    (hv : RepL C s.heap vs us) : wpAny (model prog w) A (call (.builtin "str.find") (.str x t :: us)) (Post C s r) noE s := by
  obtain ⟨p, e0, hr⟩ := Option.bind_eq_some_iff.mp hr
  obtain ⟨u, v, v2, rfl, hx, hy, hz⟩ := repL3 e0 hv
  obtain ⟨a, e1, hr⟩ := Option.bind_eq_some_iff.mp hr
  obtain ⟨i, e2, hr⟩ := Option.bind_eq_some_iff.mp hr
  obtain ⟨j, e3, hr⟩ := Option.bind_eq_some_iff.mp hr
  obtain ⟨h, hr⟩ := ite_some hr
  cases hr
  obtain ⟨y, t', rfl, rfl⟩ := rep_asS e1 hx
  obtain ⟨t2, rfl⟩ := rep_asI e2 hy
  obtain ⟨t3, rfl⟩ := rep_asI e3 hz
  have hn : x.cps.toList.length = x.length := (str_len x).symm
  refine call_gives F.slot_str_find (typeIs_str _ _ _) F.entry_str_find (F.args_str_find_4 _ _ _ _) (gives_find4 x y i j t t' t2 t3) ⟨kp, ?_⟩
  have f1 : fromIndex x.length i = i.toNat := by unfold fromIndex; rw [if_neg (by and_intros)]; and_intros
  have f2 : min (fromIndex x.length j) x.length = j.toNat := by unfold fromIndex; rw [if_neg (by and_intros)]; and_intros
  rw [f1, f2]
  exact ⟨_, congrArg (fun i => Value.int i _) (find_eq x y h.1 (by and_intros))⟩
theorem index_ok (R : Room n A) {o x : PV} {u v : Value} {r : PV} (hr : pindex O o x = some r) (ho : Rep C s.heap o u) (hx : Rep C s.heap x v) (W : Owned C O s.heap) :
    wpAny (model prog w) A (call (.builtin "list.index") [u, v]) (Post C s r) noE s := by
  have hL := lim_size
  have hu := R.units
  obtain ⟨l, el, hr⟩ := Option.bind_eq_some_iff.mp hr
  obtain ⟨h, hr⟩ := ite_some hr
  obtain ⟨g1, h⟩ := and_t h
  obtain ⟨g2, g3⟩ := and_t h
  have g3 := of_decide_eq_true g3
  obtain ⟨i, ei, rfl⟩ := Option.map_eq_some_iff.mp hr
  obtain ⟨i1, i2, i3⟩ := pindex_at ei
  have h1 := okDs_spec 8 _ g1
  have h2 := okD_spec 8 _ g2
  obtain ⟨a, xs, rfl, ⟨m, hp⟩, hl, hlen⟩ := asL_rep' W el ho
  obtain ⟨as, q⟩ := RepL.reads _ _ h1.1 hl
  obtain ⟨bs, r2⟩ := Rep.reads _ _ h2.1 hx
  have hmap := SeqAt.readsAll_map _ _ _ h1.2.1 q
  have hat : ∀ (j : Nat) (hj : j < xs.size) y, l[j]? = some y → SeqAt.readOf s.heap xs[j] = toPD y := by
    intro j hj y hy
    have e1 : (xs.toList.map (SeqAt.readOf s.heap))[j]? = some (toPD y) := by rw [hmap, toPDs_get, hy]; rfl
    simpa [hj] using e1
  refine call_meets PySem.F.slot_list_index ⟨_, hp, rfl⟩ PySem.F.entry_list_index (PySem.F.args_list_index_2 _ _)
    (SeqAt.list_indexAt a xs m none #[] v (fun y => PyData.eqv (SeqAt.readOf s.heap y) (toPD x)) i (by and_intros) (by unfold LIM at g3; and_intros) ?_ ?_)
    ⟨hp, SeqAt.items_eqAt (A := A) q r2 h1.2.1 h2.2.1 (by and_intros), kp, rep_int⟩
  · have hi : i < l.length := i1
    have e := List.getElem?_eq_getElem hi
    have := i2 _ e
    rw [pveq_eqv _ _ (noStarL_get h1.1 e) h2.1] at this
    show PyData.eqv (SeqAt.readOf s.heap xs[i]) _ = true
    rw [hat i (by and_intros) _ e]; exact this
  · intro j hj hji
    have hj' : j < l.length := by and_intros
    have e := List.getElem?_eq_getElem hj'
    have := i3 j _ hji e
    rw [pveq_eqv _ _ (noStarL_get h1.1 e) h2.1] at this
    show PyData.eqv (SeqAt.readOf s.heap xs[j]) _ = false
    rw [hat j hj _ e]; exact this
theorem me_ok (R : Room n A) {m : PMe} {o : PV} {vs : List PV} {u : Value} {us : List Value} {r : PV} (hr : pme O m o vs = some r) (ho : Rep C s.heap o u) (hv : RepL C s.heap vs us) (W : Owned C O s.heap) :
    wpAny (model prog w) A (call (.builtin (meId m)) (u :: us)) (Post C s r) noE s := by
  cases m with
  | join =>
    obtain ⟨l, e, hr⟩ := Option.bind_eq_some_iff.mp hr
    obtain ⟨x, t, rfl, rfl⟩ := rep_asS e ho
    exact join_ok hr hv W
  | split =>
    obtain ⟨l, e, hr⟩ := Option.bind_eq_some_iff.mp hr
    obtain ⟨x, t, rfl, rfl⟩ := rep_asS e ho
    exact split_ok hr hv W
  | replace =>
    obtain ⟨l, e, hr⟩ := Option.bind_eq_some_iff.mp hr
    obtain ⟨x, t, rfl, rfl⟩ := rep_asS e ho
    exact repl_ok hr hv
  | find =>
    obtain ⟨l, e, hr⟩ := Option.bind_eq_some_iff.mp hr
    obtain ⟨x, t, rfl, rfl⟩ := rep_asS e ho
    exact find_ok hr hv
  | index =>
    obtain ⟨v, e0, hr⟩ := Option.bind_eq_some_iff.mp hr
    obtain ⟨z, rfl, hx⟩ := repL1 e0 hv
    exact index_ok R hr ho hx W
end
end Mine

namespace Mine
open StrLaws

noncomputable def Sees (env : Env) (h : Heap) (x : Str) (u : Value) : Prop :=
  (env.kindOf x = some .local ∧ ∃ m, h.Ns env.locals m ∧ m x = some u) ∨
  ((env.kindOf x = some .cell ∨ env.kindOf x = some .free) ∧ ∃ c, env.cells.lookup x = some c ∧ h.IsCell c (some u))

noncomputable def biTab : List (Str × Value) := [("len", .builtin "len"), ("max", .builtin "max"), ("chr", .builtin "chr"), ("ord", .builtin "ord"), ("range", .type "range"), ("object", .type "object"), ("isinstance", .builtin "isinstance"), ("str", .type "str")]

noncomputable def reCode : Array Nat := #[14, 14, 4, 1, 1, 9, 0, 64, 0, 1342177280, 0, 0, 0, 0, 0, 17, 0, 13, 11, 9, 0, 64, 0, 1342177280, 0, 0, 0, 0, 0, 17, 1, 1]
noncomputable def subOk (l : List Nat) : Bool := decide (l.length ≤ LIM) && l.all fun c => !(c == 38 || c == 126 || c == 124)

/-- the regex object of the top -/
structure ReOk (h : Heap) : Prop where
  pat : ∃ fs : Array Value, h.get? reA = some { cls := .type "re.Pattern", data := .fields fs } ∧ PySem.Builtin.Re.reRawNat (fs.getD 6 .none) = 0 ∧ fs.getD 5 .none = .ref reC
  code : ∃ (xs : Array Value) (o : Obj) (n : Nat), h.get? reC = some o ∧ o.data = .seq xs n ∧ (xs.map PySem.Builtin.Re.reRawOf).map (·.toNat) = reCode
theorem ReOk.keep {h h' : Heap} (K : ReOk h) (k : KN h h') : ReOk h' :=
  ⟨let ⟨fs, e, r⟩ := K.pat; ⟨fs, k.nt _ _ (noTab_cls nofun) e, r⟩, let ⟨xs, o, n, e, hd, r⟩ := K.code; ⟨xs, o, n, k.nt _ _ (noTab_data (by rw [hd]; nofun)) e, hd, r⟩⟩

/-- what the top holds -/
structure Base (mg mb : Str → Option Value) (hB : Heap) : Prop where
  nsg : hB.Ns mainGlobals mg
  nsb : hB.Ns builtinsNs mb
  pt : ∃ ps, hB.get? PT = some { cls := .none, data := .fields ps } ∧ TriplesOk ps.toList
  bis : ∀ p ∈ biTab, mg p.1 = none ∧ mb p.1 = some p.2
  cod : CodeHd hB CT PT
  bat : hB.BuiltinsAt mg PT
  lim : hB.NoLimit
  sp : mg "_special_chars_map" = some (.ref spA)
  re : mg "_twin_re_1" = some (.ref reA)
  reo : ReOk hB

structure EInv (mg mb : Str → Option Value) (hB : Heap) (sc : Scope) (env : Env) (C : RC) (G : Slots) (O : Owns) (h : Heap) : Prop where
  base : Base mg mb hB
  kind : env.scope.kind = .function
  glb : env.globals = mainGlobals
  blt : env.builtins = builtinsNs
  cdv : (slotOf sc "stuff").isSome = true → env.code = .ref CT
  top : KN hB h
  knd : ∀ x k, sc.names.lookup x = some k → env.kindOf x = some k ∨ k = .free ∧ env.kindOf x = some .cell
  cel : ∀ x, sc.names.lookup x = some .cell ∨ sc.names.lookup x = some .free → ∃ c, env.cells.lookup x = some c
  slots : ∀ x i v, slotOf sc x = some i → G[i]? = some (some v) → ∃ u, Sees env h x u ∧ Rep C h v u
  W : Owned C O h

theorem EInv.gls {mg mb : Str → Option Value} {hB : Heap} {sc : Scope} {env : Env} {C : RC} {G : Slots} {O : Owns} {h : Heap} (I : EInv mg mb hB sc env C G O h) (x : Str) (e : sc.names.lookup x = some .globalImplicit) : env.kindOf x = some .globalImplicit := by
  rcases I.knd x _ e with h | ⟨h, _⟩
  · exact h
  · cases h

theorem Sees.keep {env : Env} {h h' : Heap} {x : Str} {u : Value} (S : Sees env h x u) (hk : KN h h') : Sees env h' x u := by
  rcases S with ⟨a, m, b, c⟩ | ⟨a, c, b, d⟩
  · exact .inl ⟨a, m, hk.ns b, c⟩
  · exact .inr ⟨a, c, b, hk.cell d⟩

theorem EInv.keep {mg mb : Str → Option Value} {hB : Heap} {sc : Scope} {env : Env} {C : RC} {G : Slots} {O : Owns} {h h' : Heap} (I : EInv mg mb hB sc env C G O h)
    (hk : KN h h') : EInv mg mb hB sc env C G O h' where
  base := I.base
  kind := I.kind
  glb := I.glb
  blt := I.blt
  cdv := I.cdv
  top := I.top.trans hk
  knd := I.knd
  cel := I.cel
  slots := fun x i v e1 e2 => let ⟨u, S, r⟩ := I.slots x i v e1 e2; ⟨u, S.keep hk, r.keep hk⟩
  W := I.W.keep hk

section
variable (prog : Program) (w : World) (mg mb : Str → Option Value) (hB : Heap)

/-- a def's call gives what F says -/
noncomputable def FnOk (n : Nat) (x : Str) (args : List PV) (r : PV) : Prop :=
  ∃ a fd o, mg x = some (.ref a) ∧ hB.get? a = some o ∧ o.data = .func fd ∧ noOwn r = true ∧
    ∀ (C : RC) (vals : List Value) (A : Around) (s : Shared), KN hB s.heap → (∀ b, C.X b → ∃ o, NoTab o ∧ s.heap.get? b = some o) → RepL C s.heap args vals → noOwnL args = true → Room n A →
      wpAny (model prog w) A (call (.ref a) vals) (Post C s r) noE s

structure FsOk (n : Nat) (F : PF1) : Prop where
  fn : ∀ x f args r, (x, f) ∈ fnTab → F f args = some r → FnOk prog w mg hB n x args r
  sub : ∀ v r, F "%sub" [v] = some r → ∃ l, v = .str l ∧ subOk l = true ∧ r = .str l

structure Cx (n : Nat) (sc : Scope) (F : PF1) (C : RC) (G : Slots) (O : Owns) (env : Env) (A : Around) (h : Heap) : Prop where
  FS : FsOk prog w mg hB n F
  I : EInv mg mb hB sc env C G O h
  R : Room n A

noncomputable def ES (n : Nat) (sc : Scope) (e : Expr) (pe : PE) : Prop :=
  ∀ {F : PF1} {C : RC} {G : Slots} {O : Owns} {env : Env} {A : Around} {s : Shared} {pv : PV}, Cx prog w mg mb hB n sc F C G O env A s.heap → ev F O G pe = some pv →
    wpAny (model prog w) A (eval e env) (Post C s pv) noE s
noncomputable def TS (n : Nat) (sc : Scope) (e : Expr) (pe : PE) : Prop :=
  ∀ {F : PF1} {C : RC} {G : Slots} {O : Owns} {env : Env} {A : Around} {s : Shared} {b : Bool}, Cx prog w mg mb hB n sc F C G O env A s.heap → pt F O G pe = some b →
    wpAny (model prog w) A (isTrue e env (eval e env)) (PostT s b) noE s
noncomputable def SS (n : Nat) (sc : Scope) (es : List Expr) (pes : PEs) : Prop :=
  ∀ {F : PF1} {C : RC} {G : Slots} {O : Owns} {env : Env} {A : Around} {s : Shared} {vs : List PV}, Cx prog w mg mb hB n sc F C G O env A s.heap → evs F O G pes = some vs →
    wpAny (model prog w) A (spliced (es.map fun e => (false, eval e env))) (fun us s' => Keeps s s' ∧ RepL C s'.heap vs us) noE s
noncomputable def OS (n : Nat) (sc : Scope) (e : Option Expr) (pe : PE) : Prop :=
  ∀ {F : PF1} {C : RC} {G : Slots} {O : Owns} {env : Env} {A : Around} {s : Shared} {pv : PV}, Cx prog w mg mb hB n sc F C G O env A s.heap → ev F O G pe = some pv →
    wpAny (model prog w) A (evalPart e env) (Post C s pv) noE s
end

section
variable {prog : Program} {w : World} {mg mb : Str → Option Value} {hB : Heap} {n : Nat} {sc : Scope}

theorem Cx.keep {F : PF1} {C : RC} {G : Slots} {O : Owns} {env : Env} {A : Around} {s s' : Shared} (K : Cx prog w mg mb hB n sc F C G O env A s.heap) (k : Keeps s s') :
    Cx prog w mg mb hB n sc F C G O env A s'.heap := ⟨K.FS, K.I.keep (kheap k), K.R⟩

/-- chaining: a step's post, then the rest -/
theorem seqE {α : Type} {M : Model} {A : Around} {t : Sem α} {s : Shared} {P : α → Shared → Prop} {Q : α → Shared → Prop} {E : Value → Shared → Prop}
    (h : wpAny M A t P noE s) (hQ : ∀ a s', P a s' → Q a s') : wpAny M A t Q E s := wpAny_mono h hQ fun _ _ x => x.elim

theorem name_ok {x : Str} {i : Nat} {pos : Pos} (hd : dbg x = false) (hi : slotOf sc x = some i) : ES prog w mg mb hB n sc (.Name x pos) (.var i) := by
  intro F C G O env A s pv K hv
  have hd1 : (x == ("__debug__" : Str)) = false := by unfold dbg at hd; simp only [Bool.or_eq_false_iff] at hd; exact hd.1
  have hd2 : (x == ("__classdict__" : Str)) = false := by unfold dbg at hd; simp only [Bool.or_eq_false_iff] at hd; exact hd.2
  have hg : G[i]? = some (some pv) := by
    obtain ⟨q, e, hq⟩ := Option.bind_eq_some_iff.mp hv
    cases hq; exact e
  obtain ⟨u, S, r⟩ := K.I.slots x i pv hi hg
  refine wpAny_Name ?_ hd1
  rcases S with ⟨hk, m, hn, hm⟩ | ⟨hk, c, hc, hcell⟩
  · exact wpAny_loadName_local K.I.kind hk hn hm ⟨krefl s, r⟩
  · rcases hk with hk | hk
    · exact wpAny_loadName_cell K.I.kind hk hc hcell ⟨krefl s, r⟩
    · exact wpAny_loadName_free K.I.kind hk hc hcell ⟨krefl s, r⟩ hd2

theorem const_ok {c : Const} {k : Nat} {pos : Pos} {pe : PE} (h : cConst c = some pe) : ES prog w mg mb hB n sc (.Constant c k pos) pe := by
  intro F C G O env A s pv K hv
  rw [eval_Constant]
  cases c <;> cases h <;> cases hv
  · exact wpAny_pure ⟨krefl s, rep_none⟩
  · exact wpAny_pure ⟨krefl s, rep_bool⟩
  · exact wpAny_mkInt ⟨kp, rep_int⟩
  · exact wpAny_mkText ⟨kp, rep_str⟩

theorem neg_ok {i : Int} {k : Nat} {pos pos' : Pos} : ES prog w mg mb hB n sc (.UnaryOp .USub (.Constant (.int i) k pos) pos') (.ci (-i)) := by
  intro F C G O env A s pv K hv
  cases hv
  exact wpAny_UnaryOp (wpAny_Constant_int (neg_int ⟨kp, rep_int⟩))

theorem bin_okE {l r : Expr} {o : Operator} {op : PBin} {a b : PE} {pos : Pos} (hl : ES prog w mg mb hB n sc l a) (hr : ES prog w mg mb hB n sc r b) (ho : cBin o = some op) :
    ES prog w mg mb hB n sc (.BinOp l o r pos) (.bin op a b) := by
  intro F C G O env A s pv K hv
  obtain ⟨x, e1, hv⟩ := Option.bind_eq_some_iff.mp hv
  obtain ⟨y, e2, hv⟩ := Option.bind_eq_some_iff.mp hv
  refine wpAny_BinOp (seqE (hl K e1) fun u s1 ⟨k1, r1⟩ => ?_)
  refine seqE (hr (K.keep k1) e2) fun v s2 ⟨k2, r2⟩ => ?_
  exact seqE (bin_ok ho hv (r1.keep (kheap k2)) r2 ((K.keep k1).keep k2).I.W) fun z s3 ⟨k3, r3⟩ => ⟨ktrans k1 (ktrans k2 k3), r3⟩

theorem cmp_okE {l r : Expr} {o : CmpOp} {a b : PE} {pos : Pos} (hl : ES prog w mg mb hB n sc l a) (hr : ES prog w mg mb hB n sc r b) (hm : behindInMarks o r = false) :
    ES prog w mg mb hB n sc (.Compare l [o] [r] pos) (.cmp (cCmp o) a b) := by
  intro F C G O env A s pv K hv
  obtain ⟨x, e1, hv⟩ := Option.bind_eq_some_iff.mp hv
  obtain ⟨y, e2, hv⟩ := Option.bind_eq_some_iff.mp hv
  obtain ⟨t, e3, rfl⟩ := Option.map_eq_some_iff.mp hv
  refine wpAny_Compare1 (seqE (hl K e1) fun u s1 ⟨k1, r1⟩ => ?_) hm
  refine seqE (hr (K.keep k1) e2) fun v s2 ⟨k2, r2⟩ => ?_
  exact seqE (cmp_ok K.R e3 (r1.keep (kheap k2)) r2 ((K.keep k1).keep k2).I.W) fun z s3 ⟨k3, r3⟩ => ⟨ktrans k1 (ktrans k2 k3), by subst r3; exact rep_bool⟩

theorem cmp_okT {l r : Expr} {o : CmpOp} {a b : PE} {pos : Pos} (hl : ES prog w mg mb hB n sc l a) (hr : ES prog w mg mb hB n sc r b) (hm : behindInMarks o r = false) :
    TS prog w mg mb hB n sc (.Compare l [o] [r] pos) (.cmp (cCmp o) a b) := by
  intro F C G O env A s pv K hv
  obtain ⟨x, e1, hv⟩ := Option.bind_eq_some_iff.mp hv
  obtain ⟨y, e2, hv⟩ := Option.bind_eq_some_iff.mp hv
  refine wpAny_isTrue_Compare1 (seqE (hl K e1) fun u s1 ⟨k1, r1⟩ => ?_) hm
  refine seqE (hr (K.keep k1) e2) fun v s2 ⟨k2, r2⟩ => ?_
  exact seqE (cmp_ok K.R hv (r1.keep (kheap k2)) r2 ((K.keep k1).keep k2).I.W) fun z s3 ⟨k3, r3⟩ => by subst r3; exact wpAny_truthy_bool ⟨ktrans k1 (ktrans k2 k3), rfl⟩

theorem and_okE {l r : Expr} {a b : PE} {pos : Pos} (hl : ES prog w mg mb hB n sc l a) (hr : ES prog w mg mb hB n sc r b) : ES prog w mg mb hB n sc (.BoolOp .And [l, r] pos) (.and2 a b) := by
  intro F C G O env A s pv K hv
  obtain ⟨x, e1, hv⟩ := Option.bind_eq_some_iff.mp hv
  obtain ⟨t, e2, hv⟩ := Option.bind_eq_some_iff.mp hv
  refine wpAny_And2 (seqE (hl K e1) fun u s1 ⟨k1, r1⟩ => ?_)
  refine seqE (truth_ok e2 r1 (K.keep k1).I.W) fun t' s2 ⟨k2, r2⟩ => ?_
  subst r2
  cases t'
  · simp only [Bool.false_eq_true, if_false, Option.some.injEq] at hv ⊢
    subst hv; exact ⟨ktrans k1 k2, r1.keep (kheap k2)⟩
  · simp only [if_true] at hv ⊢
    exact seqE (hr ((K.keep k1).keep k2) hv) fun z s3 ⟨k3, r3⟩ => ⟨ktrans k1 (ktrans k2 k3), r3⟩
theorem or_okE {l : Expr} {a b : PE} {rest : List Expr} {pos : Pos} (hl : ES prog w mg mb hB n sc l a)
    (hr : ∀ {F : PF1} {C : RC} {G : Slots} {O : Owns} {env : Env} {A : Around} {s : Shared} {pv : PV}, Cx prog w mg mb hB n sc F C G O env A s.heap → ev F O G b = some pv → wpAny (model prog w) A (boolOp pos .Or (evalEach rest env)) (Post C s pv) noE s)
    (hne : ∀ env : Env, ∃ y ys, evalEach rest env = y :: ys) :
    ES prog w mg mb hB n sc (.BoolOp .Or (l :: rest) pos) (.or2 a b) := by
  intro F C G O env A s pv K hv
  obtain ⟨x, e1, hv⟩ := Option.bind_eq_some_iff.mp hv
  obtain ⟨t, e2, hv⟩ := Option.bind_eq_some_iff.mp hv
  obtain ⟨y, ys, hy⟩ := hne env
  rw [arm_eval_BoolOp]
  have e : boolOp pos .Or (evalEach (l :: rest) env) = (do
    let v ← eval l env
    standAt pos
    let t ← holding [v] (truthy v)
    match BoolOp.Or, t with
    | .And, false | .Or, true => pure v
    | _, _ => boolOp pos .Or (evalEach rest env)) := by
    show boolOp pos .Or (eval l env :: evalEach rest env) = _
    rw [hy]; rfl
  rw [e]
  refine wpAny_bind (seqE (hl K e1) fun u s1 ⟨k1, r1⟩ => wpAny_bind (wpAny_standAt (wpAny_bind (wpAny_holding ?_))))
  refine seqE (truth_ok e2 r1 (K.keep k1).I.W) fun t' s2 ⟨k2, r2⟩ => ?_
  subst r2
  cases t'
  · simp only [Bool.false_eq_true, if_false] at hv ⊢
    exact seqE (hr ((K.keep k1).keep k2) hv) fun z s3 ⟨k3, r3⟩ => ⟨ktrans k1 (ktrans k2 k3), r3⟩
  · simp only [if_true, Option.some.injEq] at hv ⊢
    subst hv; exact wpAny_pure ⟨ktrans k1 k2, r1.keep (kheap k2)⟩

theorem allTrue_cons {op : BoolOp} {x : Expr} {rest : List Expr} {env : Env} : allTrue op (x :: rest) env = (do
    match op, ← isTrue x env (eval x env) with
    | .And, false => pure false
    | .Or, true => pure true
    | _, _ => allTrue op rest env) := rfl
theorem and_okT {l r : Expr} {a b : PE} {pos : Pos} (hl : TS prog w mg mb hB n sc l a) (hr : TS prog w mg mb hB n sc r b) : TS prog w mg mb hB n sc (.BoolOp .And [l, r] pos) (.and2 a b) := by
  intro F C G O env A s pv K hv
  obtain ⟨t, e1, hv⟩ := Option.bind_eq_some_iff.mp hv
  rw [arm_isTrue_BoolOp, allTrue_cons]
  refine wpAny_bind (seqE (hl K e1) fun t' s1 ⟨k1, r1⟩ => ?_)
  subst r1
  cases t'
  · simp only [Bool.false_eq_true, if_false, Option.some.injEq] at hv
    subst hv; exact wpAny_pure ⟨k1, rfl⟩
  · simp only [if_true] at hv
    show wpAny _ _ (allTrue .And [r] env) _ _ _
    rw [allTrue_cons]
    refine wpAny_bind (seqE (hr (K.keep k1) hv) fun t2 s2 ⟨k2, r2⟩ => ?_)
    subst r2
    cases t2
    · exact wpAny_pure ⟨ktrans k1 k2, rfl⟩
    · exact wpAny_pure ⟨ktrans k1 k2, rfl⟩
theorem or_okT {l : Expr} {a b : PE} {rest : List Expr} {pos : Pos} (hl : TS prog w mg mb hB n sc l a)
    (hr : ∀ {F : PF1} {C : RC} {G : Slots} {O : Owns} {env : Env} {A : Around} {s : Shared} {b' : Bool}, Cx prog w mg mb hB n sc F C G O env A s.heap → pt F O G b = some b' → wpAny (model prog w) A (allTrue .Or rest env) (PostT s b') noE s) :
    TS prog w mg mb hB n sc (.BoolOp .Or (l :: rest) pos) (.or2 a b) := by
  intro F C G O env A s pv K hv
  obtain ⟨t, e1, hv⟩ := Option.bind_eq_some_iff.mp hv
  rw [arm_isTrue_BoolOp, allTrue_cons]
  refine wpAny_bind (seqE (hl K e1) fun t' s1 ⟨k1, r1⟩ => ?_)
  subst r1
  cases t'
  · simp only [Bool.false_eq_true, if_false] at hv
    exact seqE (hr (K.keep k1) hv) fun t2 s2 ⟨k2, r2⟩ => ⟨ktrans k1 k2, r2⟩
  · simp only [if_true, Option.some.injEq] at hv
    subst hv; exact wpAny_pure ⟨k1, rfl⟩
theorem allOr_one {r : Expr} {b : PE} (hr : TS prog w mg mb hB n sc r b) {F : PF1} {C : RC} {G : Slots} {O : Owns} {env : Env} {A : Around} {s : Shared} {b' : Bool} (K : Cx prog w mg mb hB n sc F C G O env A s.heap) (hv : pt F O G b = some b') :
    wpAny (model prog w) A (allTrue .Or [r] env) (PostT s b') noE s := by
  rw [allTrue_cons]
  refine wpAny_bind (seqE (hr K hv) fun t2 s2 ⟨k2, r2⟩ => ?_)
  subst r2
  cases t2
  · exact wpAny_pure ⟨k2, rfl⟩
  · exact wpAny_pure ⟨k2, rfl⟩

theorem not_okE {l : Expr} {a : PE} {pos : Pos} (hl : ES prog w mg mb hB n sc l a) : ES prog w mg mb hB n sc (.UnaryOp .Not l pos) (.not a) := by
  intro F C G O env A s pv K hv
  obtain ⟨x, e1, hv⟩ := Option.bind_eq_some_iff.mp hv
  obtain ⟨t, e2, rfl⟩ := Option.map_eq_some_iff.mp hv
  refine wpAny_UnaryOp (seqE (hl K e1) fun u s1 ⟨k1, r1⟩ => ?_)
  exact not_of (seqE (truth_ok e2 r1 (K.keep k1).I.W) fun t' s2 ⟨k2, r2⟩ => ⟨ktrans k1 k2, by subst r2; exact rep_bool⟩)
theorem not_okT {l : Expr} {a : PE} {pos : Pos} (hl : TS prog w mg mb hB n sc l a) : TS prog w mg mb hB n sc (.UnaryOp .Not l pos) (.not a) := by
  intro F C G O env A s pv K hv
  obtain ⟨t, e2, rfl⟩ := Option.map_eq_some_iff.mp hv
  exact wpAny_isTrue_Not (seqE (hl K e2) fun t' s1 ⟨k1, r1⟩ => ⟨k1, by subst r1; rfl⟩)
theorem ite_okE {c l r : Expr} {p a b : PE} {pos : Pos} (hc : TS prog w mg mb hB n sc c p) (hl : ES prog w mg mb hB n sc l a) (hr : ES prog w mg mb hB n sc r b) :
    ES prog w mg mb hB n sc (.IfExp c l r pos) (.ite p a b) := by
  intro F C G O env A s pv K hv
  obtain ⟨t, e1, hv⟩ := Option.bind_eq_some_iff.mp hv
  refine wpAny_IfExp (seqE (hc K e1) fun t' s1 ⟨k1, r1⟩ => ?_)
  subst r1
  cases t'
  · simp only [Bool.false_eq_true, if_false] at hv ⊢
    exact seqE (hr (K.keep k1) hv) fun z s3 ⟨k3, r3⟩ => ⟨ktrans k1 k3, r3⟩
  · simp only [if_true] at hv ⊢
    exact seqE (hl (K.keep k1) hv) fun z s3 ⟨k3, r3⟩ => ⟨ktrans k1 k3, r3⟩
/-- a test that is just the value's truth -/
theorem plain_okT {e : Expr} {pe : PE} (he : ES prog w mg mb hB n sc e pe) (ht : ∀ (env : Env) (w : Sem Value), isTrue e env w = (do let v ← w; standAt e.pos; holding [v] (truthy v)))
    {F : PF1} {C : RC} {G : Slots} {O : Owns} {env : Env} {A : Around} {s : Shared} {b : Bool} (K : Cx prog w mg mb hB n sc F C G O env A s.heap) (hv : (ev F O G pe).bind (ptruth O) = some b) :
    wpAny (model prog w) A (isTrue e env (eval e env)) (PostT s b) noE s := by
  obtain ⟨x, e1, e2⟩ := Option.bind_eq_some_iff.mp hv
  rw [ht]
  refine wpAny_bind (seqE (he K e1) fun u s1 ⟨k1, r1⟩ => wpAny_bind (wpAny_standAt (wpAny_holding ?_)))
  exact seqE (truth_ok e2 r1 (K.keep k1).I.W) fun t' s2 ⟨k2, r2⟩ => ⟨ktrans k1 k2, r2⟩
end
end Mine

namespace Mine
open StrLaws

theorem starEach_cons {e : Expr} {r : List Expr} {env : Env} (h : (!isStar e) = true) : starEach (e :: r) env = (false, eval e env) :: starEach r env := by
  cases e <;> first | rfl | exact Bool.noConfusion h
theorem starEach_of : ∀ {es : List Expr} {env : Env}, NoStars es = true → starEach es env = es.map fun e => (false, eval e env)
  | [], _, _ => rfl
  | e :: r, env, h => (starEach_cons (and_t h).1).trans (congrArg _ (starEach_of (and_t h).2))
theorem backTo_of {es : List Expr} {env : Env} {pos : Pos} (h : NoStars es = true) : backTo pos (starEach es env) = es.map fun e => (false, eval e env) := by
  rw [starEach_of h]
  unfold backTo
  rw [List.map_map]
  exact List.map_congr_left fun e _ => rfl
theorem any_of {es : List Expr} {env : Env} : (es.map fun e => (false, eval e env)).any (·.1) = false := by
  induction es with
  | nil => rfl
  | cons e r ih => exact ih

section
variable {prog : Program} {w : World} {mg mb : Str → Option Value} {hB : Heap} {n : Nat} {sc : Scope}

theorem ss_nil : SS prog w mg mb hB n sc [] .nil := by
  intro F C G O env A s vs K hv
  cases hv
  exact Calls.spliced_nil ⟨krefl s, rfl⟩
theorem ss_cons {e : Expr} {es : List Expr} {p : PE} {ps : PEs} (he : ES prog w mg mb hB n sc e p) (hs : SS prog w mg mb hB n sc es ps) : SS prog w mg mb hB n sc (e :: es) (.cons p ps) := by
  intro F C G O env A s vs K hv
  obtain ⟨x, e1, hv⟩ := Option.bind_eq_some_iff.mp hv
  obtain ⟨xs, e2, rfl⟩ := Option.map_eq_some_iff.mp hv
  refine Calls.spliced_cons (seqE (he K e1) fun u s1 ⟨k1, r1⟩ => ?_)
  refine seqE (hs (K.keep k1) e2) fun us s2 ⟨k2, r2⟩ => ⟨ktrans k1 k2, ?_⟩
  exact ⟨u, us, rfl, r1.keep (kheap k2), r2⟩

theorem evalArgs_of {A : Around} {E : Value → Shared → Prop} {s : Shared} {f : Value} {es : List Expr} {env : Env} {Q : Args → Shared → Prop}
    (h : wpAny (model prog w) A (spliced (es.map fun e => (false, eval e env))) (fun vs s' => Q ⟨vs, []⟩ s') E s) : wpAny (model prog w) A (evalArgs f true (es.map fun e => (false, eval e env)) []) Q E s := by
  cases es with
  | nil =>
    unfold evalArgs
    show wpAny _ A (spliced [] >>= _) Q E s
    refine wpAny_bind (wpAny_mono h (fun vs s' h' => ?_) fun _ _ x => x)
    refine wpAny_holding ?_
    exact wpAny_bind (wpAny_pure (wpAny_bind (wpAny_pure (wpAny_pure h'))))
  | cons e r => exact Calls.evalArgs_plain h

theorem evs_len {F : PF1} {O : Owns} {G : Slots} : ∀ {ps : PEs} {vs : List PV}, evs F O G ps = some vs → vs.length = ps.len
  | .nil, vs, h => by cases h; rfl
  | .cons p r, vs, h => by
    obtain ⟨x, e1, h⟩ := Option.bind_eq_some_iff.mp h
    obtain ⟨xs, e2, rfl⟩ := Option.map_eq_some_iff.mp h
    exact congrArg (· + 1) (evs_len e2)

theorem tup_okE {es : List Expr} {ps : PEs} {k : Nat} {pos : Pos} (hs : SS prog w mg mb hB n sc es ps) (hn : NoStars es = true) (hl : ps.len ≤ 64) : ES prog w mg mb hB n sc (.Tuple es k pos) (.tup ps) := by
  intro F C G O env A s pv K hv
  obtain ⟨xs, e2, rfl⟩ := Option.map_eq_some_iff.mp hv
  refine wpAny_Tuple_spliced ?_
  rw [backTo_of hn]
  refine seqE (hs K e2) fun us s1 ⟨k1, r1⟩ => ⟨?_, ktrans k1 kpush, rep_newT (K.keep k1).I.W r1⟩
  rw [r1.length, evs_len e2, sizeLine_eq]; and_intros
theorem lst_okE {es : List Expr} {ps : PEs} {pos : Pos} (hs : SS prog w mg mb hB n sc es ps) (hn : NoStars es = true) (hl : ps.len ≤ 64) : ES prog w mg mb hB n sc (.List es pos) (.lst ps) := by
  intro F C G O env A s pv K hv
  obtain ⟨xs, e2, rfl⟩ := Option.map_eq_some_iff.mp hv
  refine wpAny_List_spliced ?_
  rw [backTo_of hn]
  refine seqE (hs K e2) fun us s1 ⟨k1, r1⟩ => ⟨?_, ktrans k1 kpush, rep_new (K.keep k1).I.W r1⟩
  rw [r1.length, evs_len e2, sizeLine_eq]; and_intros

theorem wpAny_letGoP {A : Around} {E : Value → Shared → Prop} {s : Shared} {base : Expr} {o r : Value} {Q : Unit → Shared → Prop} (h : Q () s) : wpAny (model prog w) A (letTemporaryGo base o r) Q E s := by
  have z : wpAny (model prog w) A (do let _ ← holding [r] (runValue (.builtin "proto.let_go" {}))) Q E s := wpAny_bind (wpAny_holding (wpAny_runValue (codeAny_builtin entry_let_go (wpAny_pure (wpAny_pure h)))))
  have e : letTemporaryGo base o r = pure () ∨ letTemporaryGo base o r = letTemporaryGo (.List [] default) o r := by cases base <;> first | exact .inl rfl | exact .inr (by kernel_rfl)
  rcases e with e | e
  · rw [e]; exact wpAny_pure h
  · rw [e]
    cases o with
    | ref a => exact z
    | _ => exact wpAny_pure h

theorem itemtail {A : Around} {E : Value → Shared → Prop} {s : Shared} {value slice : Expr} {o i : Value} {T id : String} {Q : Value → Shared → Prop} (hT : s.TypeIs o T)
    (hl : typeLookup (.type T) "__getitem__" = pure (some (.builtin id))) (h : wpAny (model prog w) A (getItem o i) Q E s)
    (hs : ∃ ops, subscripted slice false o i = operate ops (getItem o i)) :
    wpAny (model prog w) A (subscriptTail value slice o i) Q E s := by
  obtain ⟨ops, hs⟩ := hs
  unfold subscriptTail
  refine wpAny_bind ?_
  rw [getitemInPython_of_ne hT.not_modules]
  refine wpAny_bind (wpAny_specialOf hT hl ?_)
  have fin : wpAny (model prog w) A (subscripted slice false o i) (fun r s₃ => wpAny (model prog w) A (letTemporaryGo value o r >>= fun _ => pure r) Q E s₃) E s := by
    rw [hs]
    exact wpAny_operating (wpAny_mono h (fun r s₃ h₃ => wpAny_bind (wpAny_letGoP (wpAny_pure h₃))) fun _ _ x => x)
  first
    | exact wpAny_pure (wpAny_bind fin)
    | exact wpAny_bind (wpAny_pure (wpAny_bind fin))
    | exact wpAny_bind fin

theorem sub_ops (slice : Expr) (o i : Value) : ∃ ops, subscripted slice false o i = operate ops (getItem o i) := by
  cases slice <;> first | exact ⟨_, rfl⟩ | (rename_i st _; cases st <;> exact ⟨_, rfl⟩)

/-- what a value that has items is -/
theorem item_type {C : RC} {O : Owns} {s : Shared} {x y r : PV} {u : Value} (W : Owned C O s.heap) (hx : Rep C s.heap x u)
    (hr : (∃ l, x = .str l) ∨ (∃ l, x = .tup l) ∨ ∃ l, asL O x = some l) : ∃ T id, s.TypeIs u T ∧ typeLookup (.type T) "__getitem__" = pure (some (.builtin id)) := by
  rcases hr with ⟨l, rfl⟩ | ⟨l, rfl⟩ | ⟨l, e⟩
  · obtain ⟨t, k, rfl, _⟩ := hx
    exact ⟨"str", _, typeIs_str _ _ _, F.slot_str_getitem.lookup⟩
  · obtain ⟨a, xs, rfl, _, ht, _⟩ := hx
    exact ⟨"tuple", _, ht.typeIs, slot_tuple_getitem.lookup⟩
  · obtain ⟨a, xs, rfl, hp, _⟩ := asL_rep W e hx
    exact ⟨"list", _, hp.isList.typeIs, list_getitem_lookup⟩

theorem pitem_kind {O : Owns} {x y r : PV} (h : pitem O x y = some r) : (∃ l, x = .str l) ∨ (∃ l, x = .tup l) ∨ ∃ l, asL O x = some l := by
  obtain ⟨i, _, h⟩ := Option.bind_eq_some_iff.mp h
  obtain ⟨_, h⟩ := ite_some h
  cases h1 : asS x with
  | some l => exact .inl ⟨l, asS_eq h1⟩
  | none =>
    cases h2 : asT x with
    | some l => exact .inr (.inl ⟨l, asT_eq h2⟩)
    | none =>
      rw [h1, h2] at h
      obtain ⟨l, e, _⟩ := Option.bind_eq_some_iff.mp h
      exact .inr (.inr ⟨l, e⟩)
theorem pslc_kind {O : Owns} {x y z r : PV} (h : pslc O x y z = some r) : (∃ l, x = .str l) ∨ (∃ l, x = .tup l) ∨ ∃ l, asL O x = some l := by
  obtain ⟨_, _, h⟩ := Option.bind_eq_some_iff.mp h
  obtain ⟨_, _, h⟩ := Option.bind_eq_some_iff.mp h
  cases h1 : asS x with
  | some l => exact .inl ⟨l, asS_eq h1⟩
  | none =>
    cases h2 : asT x with
    | some l => exact .inr (.inl ⟨l, asT_eq h2⟩)
    | none =>
      rw [h1, h2] at h
      obtain ⟨l, e, _⟩ := Option.bind_eq_some_iff.mp h
      exact .inr (.inr ⟨l, e⟩)

theorem idx_okE {v i : Expr} {a b : PE} {pos : Pos} (hv : ES prog w mg mb hB n sc v a) (hi : ES prog w mg mb hB n sc i b) : ES prog w mg mb hB n sc (.Subscript v i pos) (.idx a b) := by
  intro F C G O env A s pv K h
  obtain ⟨x, e1, h⟩ := Option.bind_eq_some_iff.mp h
  obtain ⟨y, e2, h⟩ := Option.bind_eq_some_iff.mp h
  refine Subscript_ (seqE (hv K e1) fun u s1 ⟨k1, r1⟩ => seqE (hi (K.keep k1) e2) fun u2 s2 ⟨k2, r2⟩ => ?_)
  have K2 := (K.keep k1).keep k2
  obtain ⟨T, id, hT, hl⟩ := item_type (y := y) (r := pv) K2.I.W (r1.keep (kheap k2)) (pitem_kind h)
  exact itemtail hT hl (seqE (item_ok h (r1.keep (kheap k2)) r2 K2.I.W) fun z s3 ⟨k3, r3⟩ => ⟨ktrans k1 (ktrans k2 k3), r3⟩) (sub_ops _ _ _)

theorem os_none : OS prog w mg mb hB n sc none .cn := by
  intro F C G O env A s pv K hv
  cases hv
  exact wpAny_pure ⟨krefl s, rep_none⟩
theorem os_some {e : Expr} {pe : PE} (h : ES prog w mg mb hB n sc e pe) : OS prog w mg mb hB n sc (some e) pe := fun K hv => h K hv

theorem sl_okE {v : Expr} {lo hi : Option Expr} {a b c : PE} {p pos : Pos} (hv : ES prog w mg mb hB n sc v a) (hlo : OS prog w mg mb hB n sc lo b) (hhi : OS prog w mg mb hB n sc hi c) :
    ES prog w mg mb hB n sc (.Subscript v (.Slice lo hi none p) pos) (.sl a b c) := by
  intro F C G O env A s pv K h
  obtain ⟨x, e1, h⟩ := Option.bind_eq_some_iff.mp h
  obtain ⟨y, e2, h⟩ := Option.bind_eq_some_iff.mp h
  obtain ⟨z, e3, h⟩ := Option.bind_eq_some_iff.mp h
  refine Subscript_ (seqE (hv K e1) fun u s1 ⟨k1, r1⟩ => ?_)
  have K1 := K.keep k1
  refine wpAny_Slice (seqE (hlo K1 e2) fun u2 s2 ⟨k2, r2⟩ => ?_)
  have K2 := K1.keep k2
  refine seqE (hhi K2 e3) fun u3 s3 ⟨k3, r3⟩ => ?_
  have K3 := K2.keep k3
  rw [evalPart_none]
  refine wpAny_pure ?_
  have k4 : Keeps s3 { s3 with heap := s3.heap.push { cls := .type "slice", data := .fields #[u2, u3, .none] } } := kpush
  have K4 := K3.keep k4
  have q1 := ((r1.keep (kheap k2)).keep (kheap k3)).keep (kheap k4)
  have q2 := (r2.keep (kheap k3)).keep (kheap k4)
  have q3 := r3.keep (kheap k4)
  obtain ⟨T, id, hT, hl⟩ := item_type (y := y) (r := pv) K4.I.W q1 (pslc_kind h)
  exact itemtail hT hl (seqE (slc_ok h q1 q2 q3 K4.I.W (Heap.IsSliceOf.new ..)) fun z s5 ⟨k5, r5⟩ => ⟨ktrans k1 (ktrans k2 (ktrans k3 (ktrans k4 k5))), r5⟩) (sub_ops _ _ _)

theorem ite_e {α : Type} {c : Bool} {a b : Option α} {r : α} {P : Prop} (h : (if c = true then a else b) = some r) (h1 : c = true → a = some r → P) (h2 : b = some r → P) : P := by
  cases c
  · exact h2 h
  · exact h1 rfl h
theorem cBi_mem {f : Str} {m : Nat} {b : PBi} (h : cBi f m = some b) : (f, biVal b) ∈ biTab := by
  obtain ⟨_, h⟩ := ite_some (c := (m == 1) = true) h
  refine ite_e h (fun h1 h => ?_) fun h => ite_e h (fun h1 h => ?_) fun h => ite_e h (fun h1 h => ?_) fun h => ?_
  · cases h; rw [beq_iff_eq.mp h1]; exact .head _
  · cases h; rw [beq_iff_eq.mp h1]; exact .tail _ (.head _)
  · cases h; rw [beq_iff_eq.mp h1]; exact .tail _ (.tail _ (.head _))
  · obtain ⟨h1, h⟩ := ite_some h
    cases h; rw [beq_iff_eq.mp h1]; exact .tail _ (.tail _ (.tail _ (.head _)))

theorem glob_load {x : Str} {pos : Pos} {v : Value} {F : PF1} {C : RC} {G : Slots} {O : Owns} {env : Env} {A : Around} {s : Shared} {Q : Value → Shared → Prop} {E : Value → Shared → Prop} (K : Cx prog w mg mb hB n sc F C G O env A s.heap)
    (hg : isGl sc x = true) (hd : dbg x = false) (hv : mg x = some v ∨ (mg x = none ∧ mb x = some v)) (h : Q v s) : wpAny (model prog w) A (eval (.Name x pos) env) Q E s := by
  have hd1 : (x == ("__debug__" : Str)) = false := by unfold dbg at hd; simp only [Bool.or_eq_false_iff] at hd; exact hd.1
  have hk := K.I.gls x (by unfold isGl at hg; simpa using hg)
  refine Calls.Name_function_global K.I.kind hk ?_ hd1
  have n1 : s.heap.Ns env.globals mg := by rw [K.I.glb]; exact K.I.top.ns K.I.base.nsg
  have n2 : s.heap.Ns env.builtins mb := by rw [K.I.blt]; exact K.I.top.ns K.I.base.nsb
  rcases hv with hv | ⟨h1, h2⟩
  · exact Calls.loadGlobal_global n1 hv h
  · exact Calls.loadGlobal_builtin n1 h1 n2 h2 h

theorem bi_okE {f : Str} {fp pos : Pos} {args : List Expr} {m : Nat} {b : PBi} {ps : PEs} (hs : SS prog w mg mb hB n sc args ps) (hn : NoStars args = true) (hg : isGl sc f = true) (hd : dbg f = false) (hb : cBi f m = some b) :
    ES prog w mg mb hB n sc (.Call (.Name f fp) args [] pos) (.bi b ps) := by
  intro F C G O env A s pv K h
  obtain ⟨vs, e1, h⟩ := Option.bind_eq_some_iff.mp h
  have hm := cBi_mem hb
  have hbi := K.I.base.bis (f, biVal b) hm
  refine Call_Name (backTo_of hn) (glob_load (v := biVal b) K hg hd (.inr hbi) ?_)
  have go : wpAny (model prog w) A (evalArgs (biVal b) true (args.map fun e => (false, eval e env)) []) (fun a s₁ => wpAny (model prog w) A (call (biVal b) ([] ++ a.pos) a.kw) (Post C s pv) noE s₁) noE s :=
    evalArgs_of (seqE (hs K e1) fun us s1 ⟨k1, r1⟩ => seqE (bi_ok K.R h r1 (K.keep k1).I.W) fun z s2 ⟨k2, r2⟩ => ⟨ktrans k1 k2, r2⟩)
  cases b with
  | len => exact Calls.callWith_builtin (id := "len") any_of go
  | max => exact Calls.callWith_builtin (id := "max") any_of go
  | chr => exact Calls.callWith_builtin (id := "chr") any_of go
  | ord => exact Calls.callWith_builtin (id := "ord") any_of go

theorem call_okE {x : Str} {f : String} {fp pos : Pos} {args : List Expr} {ps : PEs} (hs : SS prog w mg mb hB n sc args ps) (hn : NoStars args = true) (hg : isGl sc x = true) (hd : dbg x = false) (hf : (x, f) ∈ fnTab) :
    ES prog w mg mb hB n sc (.Call (.Name x fp) args [] pos) (.call f ps) := by
  intro F C G O env A s pv K h
  obtain ⟨vs, e1, h⟩ := Option.bind_eq_some_iff.mp h
  obtain ⟨hno, h⟩ := ite_some h
  obtain ⟨a, fd, o, h1, h2, h3, h4, h5⟩ := K.FS.fn x f vs pv hf h
  refine Call_Name (backTo_of hn) (glob_load (v := .ref a) K hg hd (.inl h1) ?_)
  refine Calls.callWith_function (o := o) (fd := fd) (evalArgs_of (seqE (hs K e1) fun us s1 ⟨k1, r1⟩ => ⟨⟨(K.keep k1).I.top.func h2 h3, h3⟩, ?_⟩))
  exact seqE (h5 C us A s1 (K.keep k1).I.top (K.keep k1).I.W.lt r1 hno K.R) fun z s2 ⟨k2, r2⟩ => ⟨ktrans k1 k2, r2⟩

/-- x(e, *s) -/
theorem calls_okE {x : Str} {f : String} {fp sp pos : Pos} {e d : Expr} {a b : PE} (he : ES prog w mg mb hB n sc e a) (hs : ES prog w mg mb hB n sc d b) (hst : isStar e = false) (hg : isGl sc x = true) (hd : dbg x = false) (hf : (x, f) ∈ fnTab) :
    ES prog w mg mb hB n sc (.Call (.Name x fp) [e, .Starred d sp] [] pos) (.calls f a b) := by
  intro F C G O env A s pv K h
  obtain ⟨xv, e1, h⟩ := Option.bind_eq_some_iff.mp h
  obtain ⟨yv, e2, h⟩ := Option.bind_eq_some_iff.mp h
  obtain ⟨vs, e3, h⟩ := Option.bind_eq_some_iff.mp h
  obtain ⟨hl, h⟩ := ite_some h
  obtain ⟨p, fd, o, h1, h2, h3, h4, h5⟩ := K.FS.fn x f (xv :: vs) pv hf h
  have ht : backTo pos (starEach [e, .Starred d sp] env) = (false, eval e env) :: (true, (do let v ← eval d env; standAt pos; pure v)) :: [] := by
    rw [starEach_cons (by rw [hst]; rfl)]; rfl
  refine Call_Name ht (glob_load (v := .ref p) K hg hd (.inl h1) ?_)
  refine Calls.callWith_function (o := o) (fd := fd) (Calls.evalArgs_plain (Calls.spliced_cons (seqE (he K e1) fun u s1 q1 => ?_)))
  refine W.ks_spliced (seqE (hs (K.keep q1.1) e2) fun v s2 q2 => ?_)
  have K2 := (K.keep q1.1).keep q2.1
  cases yv with
  | list l =>
    cases e3
    obtain ⟨a, xs, rfl, _, ⟨m, hp⟩, hr⟩ := q2.2
    have hsz : xs.size ≤ sizeLine := by rw [← Array.length_toList, hr.length]; exact Nat.le_trans hl.1 lim_size
    have z : wpAny (model prog w) A (collect (.ref a)) (fun here s₂ => wpAny (model prog w) A (spliced []) (fun vs s₃ => (s₃.heap.get? p = some o ∧ o.data = .func fd) ∧ wpAny (model prog w) A (call (.ref p) ([] ++ (u :: (here ++ vs)))) (Post C s pv) noE s₃) noE s₂) noE s2 := by
      refine wpAny_collect_seq a (.inl rfl) hp rfl rfl (fun h' hk => Calls.spliced_nil ?_) hsz
      have k3 : Keeps s2 { s2 with heap := h' } := keepsOf hk
      have k13 := ktrans q1.1 (ktrans q2.1 k3)
      refine ⟨⟨(K.keep k13).I.top.func h2 h3, h3⟩, ?_⟩
      rw [List.append_nil]
      exact seqE (h5 C _ A { s2 with heap := h' } (K.keep k13).I.top (K.keep k13).I.W.lt ⟨u, _, rfl, (q1.2.keep (kheap q2.1)).keep (kheap k3), hr.keep (kheap k3)⟩ hl.2 K.R) fun z s3 q => ⟨ktrans k13 q.1, q.2⟩
    exact wpAny_bind (wpAny_specialOf (⟨_, hp, rfl⟩ : s2.TypeIs (.ref a) "list") PySem.F.slot_list_iter.lookup (wpAny_pure ⟨rfl, z⟩))
  | _ => exact nn e3

theorem call_okT {x : Str} {f : String} {fp pos : Pos} {args : List Expr} {ps : PEs} (he : ES prog w mg mb hB n sc (.Call (.Name x fp) args [] pos) (.call f ps)) : TS prog w mg mb hB n sc (.Call (.Name x fp) args [] pos) (.call f ps) := by
  intro F C G O env A s b K h
  refine plain_okT he (fun _ _ => rfl) K ?_
  obtain ⟨vs, e1, h⟩ := Option.bind_eq_some_iff.mp h
  obtain ⟨hno, h⟩ := ite_some h
  obtain ⟨r, e2, h⟩ := Option.bind_eq_some_iff.mp h
  exact Option.bind_eq_some_iff.mpr ⟨r, Option.bind_eq_some_iff.mpr ⟨vs, e1, (if_pos hno).trans e2⟩, h⟩
theorem var_okT {x : Str} {i : Nat} {pos : Pos} (he : ES prog w mg mb hB n sc (.Name x pos) (.var i)) : TS prog w mg mb hB n sc (.Name x pos) (.var i) :=
  fun K h => plain_okT he (fun _ _ => rfl) K h
theorem true_okT {b : Bool} {k : Nat} {pos : Pos} : TS prog w mg mb hB n sc (.Constant (.bool b) k pos) (.cb b) := by
  intro F C G O env A s b' K h
  exact plain_okT (pe := .cb b) (const_ok rfl) (fun _ _ => rfl) K h

theorem base_plain {o : Expr} {name : Str} {env : Env} (h : noSuper o = true) : attributeBase o name env (eval o env) = eval o env := by
  cases o with
  | Call g as ks p =>
    cases g with
    | Name y q =>
      cases as with
      | nil =>
        cases ks with
        | nil => cases h
        | cons => rfl
      | cons => rfl
    | _ => rfl
  | _ => rfl

theorem cMe_slot {x : Str} {m : Nat} {me : PMe} (h : cMe x m = some me) : m ≤ 4 ∧ ((Slot "str" x (meId me) ∧ typeOf (.builtin (meId me)) = pure (.type "method_descriptor") ∧ ∀ (O : Owns) o vs r, pme O me o vs = some r → ∃ l, asS o = some l) ∨
    (Slot "list" x (meId me) ∧ typeOf (.builtin (meId me)) = pure (.type "method_descriptor") ∧ ∀ (O : Owns) o vs r, pme O me o vs = some r → ∃ l, asL O o = some l)) := by
  unfold cMe at h
  have fst : ∀ {α β : Type} {o : Option α} {f : α → Option β} {r : β}, o.bind f = some r → ∃ l, o = some l := fun h => let ⟨l, e, _⟩ := Option.bind_eq_some_iff.mp h; ⟨l, e⟩
  by_cases h1 : (x == "join" && m == 1) = true
  · rw [if_pos h1] at h; cases h; have h1 := and_t h1; rw [beq_iff_eq.mp h1.1, beq_iff_eq.mp h1.2]; exact ⟨by decide, .inl ⟨PySem.F.slot_str_join, PySem.F.type_str_join, fun _ _ _ _ q => fst q⟩⟩
  · rw [if_neg h1] at h
    by_cases h1 : (x == "split" && m == 1) = true
    · rw [if_pos h1] at h; cases h; have h1 := and_t h1; rw [beq_iff_eq.mp h1.1, beq_iff_eq.mp h1.2]; exact ⟨by decide, .inl ⟨PySem.F.slot_str_split, PySem.F.type_str_split, fun _ _ _ _ q => fst q⟩⟩
    · rw [if_neg h1] at h
      by_cases h1 : (x == "replace" && m == 2) = true
      · rw [if_pos h1] at h; cases h; have h1 := and_t h1; rw [beq_iff_eq.mp h1.1, beq_iff_eq.mp h1.2]; exact ⟨by decide, .inl ⟨PySem.F.slot_str_replace, PySem.F.type_str_replace, fun _ _ _ _ q => fst q⟩⟩
      · rw [if_neg h1] at h
        by_cases h1 : (x == "index" && m == 1) = true
        · rw [if_pos h1] at h; cases h; have h1 := and_t h1; rw [beq_iff_eq.mp h1.1, beq_iff_eq.mp h1.2]
          exact ⟨by decide, .inr ⟨PySem.F.slot_list_index, PySem.F.type_list_index, fun _ _ _ _ q => let ⟨x, _, q⟩ := Option.bind_eq_some_iff.mp q; fst q⟩⟩
        · rw [if_neg h1] at h
          obtain ⟨h1, h⟩ := ite_some h
          cases h; have h1 := and_t h1; rw [beq_iff_eq.mp h1.1, beq_iff_eq.mp h1.2]; exact ⟨by decide, .inl ⟨PySem.F.slot_str_find, PySem.F.type_str_find, fun _ _ _ _ q => fst q⟩⟩

theorem me_okE {o : Expr} {x : Str} {ap pos : Pos} {args : List Expr} {m : Nat} {me : PMe} {a : PE} {ps : PEs} (ho : ES prog w mg mb hB n sc o a) (hs : SS prog w mg mb hB n sc args ps) (hn : NoStars args = true)
    (hm : cMe x args.length = some me) (hb : noSuper o = true) (hl : (ap.endLine == pos.line) = true) : ES prog w mg mb hB n sc (.Call (.Attribute o x ap) args [] pos) (.me me a ps) := by
  intro F C G O env A s pv K h
  obtain ⟨ov, e1, h⟩ := Option.bind_eq_some_iff.mp h
  obtain ⟨vs, e2, h⟩ := Option.bind_eq_some_iff.mp h
  refine wpAny_Call_method_lateS (base_plain hb) ?_ hl (seqE (ho K e1) fun u s1 ⟨k1, r1⟩ => ?_)
  · rw [backTo_of hn]
    simp only [Bool.and_eq_true, List.all_eq_true, decide_eq_true_eq]
    refine ⟨⟨?_, ?_⟩, ?_⟩
    · intro x hx; obtain ⟨e, _, rfl⟩ := List.mem_map.mp hx; rfl
    · intro x hx; cases hx
    · have := (cMe_slot hm).1; simp only [List.length_nil]; simp; and_intros
  · have K1 := K.keep k1
    have fin : wpAny (model prog w) A (callWith pos (.builtin (meId me)) [u] (backTo pos (starEach args env)) (backToKw pos (keywordEach [] env))) (Post C s pv) noE s1 := by
      rw [backTo_of hn]
      refine Calls.callWith_builtin any_of (evalArgs_of (seqE (hs K1 e2) fun us s2 ⟨k2, r2⟩ => ?_))
      exact seqE (me_ok K.R h (r1.keep (kheap k2)) r2 (K1.keep k2).I.W) fun z s3 ⟨k3, r3⟩ => ⟨ktrans k1 (ktrans k2 k3), r3⟩
    rcases (cMe_slot hm).2 with ⟨slot, ty, hk⟩ | ⟨slot, ty, hk⟩
    · obtain ⟨l, el⟩ := hk _ _ _ _ h
      obtain ⟨t, k, rfl, _⟩ := rep_asS el r1
      exact ⟨"str", _, PySem.F.plainAttrs_str, slot, ty, typeIs_str _ _ _, nofun, fin⟩
    · obtain ⟨l, el⟩ := hk _ _ _ _ h
      obtain ⟨a, xs, rfl, ⟨k, hp⟩, _⟩ := asL_rep K1.I.W el r1
      exact ⟨"list", _, PySem.F.plainAttrs_list, slot, ty, ⟨_, hp, rfl⟩, fun b e => by cases e; exact ⟨_, hp, rfl⟩, fin⟩
end
end Mine

namespace Mine
open StrLaws
section
variable {prog : Program} {w : World} {mg mb : Str → Option Value} {hB : Heap} {n : Nat} {sc : Scope}

/-! formatted texts -/
noncomputable def JS (prog : Program) (w : World) (mg mb : Str → Option Value) (hB : Heap) (n : Nat) (sc : Scope) (es : List Expr) (pes : PEs) : Prop :=
  ∀ {F : PF1} {C : RC} {G : Slots} {O : Owns} {env : Env} {A : Around} {s : Shared} {vs : List PV} {ls : List (List Nat)} (out : Str), Cx prog w mg mb hB n sc F C G O env A s.heap → evs F O G pes = some vs → pstrs vs = some ls →
    out.cps.toList.length + (ls.map List.length).sum ≤ LIM →
    wpAny (model prog w) A (joinParts out (evalEach es env)) (fun v s' => Keeps s s' ∧ Rep C s'.heap (.str (out.cps.toList ++ ls.flatten)) v) noE s

theorem js_nil : JS prog w mg mb hB n sc [] .nil := by
  intro F C G O env A s vs ls out K e1 e2 hl
  cases e1
  cases e2
  refine joinParts_nil ⟨kp, rep_str' (by simp)⟩ ?_
  rw [str_len]; exact Nat.le_trans (by simpa using hl) lim_size

theorem js_tail {es : List Expr} {pes : PEs} (ht : JS prog w mg mb hB n sc es pes) {F : PF1} {C : RC} {G : Slots} {O : Owns} {env : Env} {A : Around} {s s1 : Shared} {y : Str} {vs : List PV} {ls : List (List Nat)} (out : Str)
    (K : Cx prog w mg mb hB n sc F C G O env A s.heap) (k1 : Keeps s s1) (e1 : evs F O G pes = some vs) (e2 : pstrs vs = some ls) (hl : out.cps.toList.length + ((y.cps.toList :: ls).map List.length).sum ≤ LIM) :
    (out ++ y).length ≤ sizeLine ∧ wpAny (model prog w) A (joinParts (out ++ y) (evalEach es env)) (fun v s' => Keeps s s' ∧ Rep C s'.heap (.str (out.cps.toList ++ (y.cps.toList :: ls).flatten)) v) noE s1 := by
  have ec : (out ++ y).cps.toList = out.cps.toList ++ y.cps.toList := by
    show (Str.append out y).cps.toList = _
    simp [Str.append]
  simp only [List.map_cons, List.sum_cons] at hl
  refine ⟨?_, ?_⟩
  · rw [str_len, ec, List.length_append]; exact Nat.le_trans (by and_intros) lim_size
  · refine seqE (ht (out ++ y) (K.keep k1) e1 e2 (by rw [ec, List.length_append]; and_intros)) fun z s2 ⟨k2, r2⟩ => ⟨ktrans k1 k2, ?_⟩
    rw [ec] at r2
    simpa using r2

theorem js_const {c : Str} {k : Nat} {pos : Pos} {es : List Expr} {pes : PEs} (ht : JS prog w mg mb hB n sc es pes) : JS prog w mg mb hB n sc (.Constant (.str c) k pos :: es) (.cons (.cs c.cps.toList) pes) := by
  intro F C G O env A s vs ls out K e1 e2 hl
  obtain ⟨v, e0, e1⟩ := Option.bind_eq_some_iff.mp e1
  cases e0
  obtain ⟨vs', e5, rfl⟩ := Option.map_eq_some_iff.mp e1
  obtain ⟨l, e0, e2⟩ := Option.bind_eq_some_iff.mp e2
  cases e0
  obtain ⟨ls', e6, rfl⟩ := Option.map_eq_some_iff.mp e2
  refine joinParts_cons (seqE (const_ok (c := .str c) (pe := .cs c.cps.toList) rfl K (pv := .str c.cps.toList) rfl) fun v s1 q => ?_)
  obtain ⟨k1, y, t, rfl, ey⟩ := q
  rw [← ey] at hl ⊢
  exact js_tail ht out K k1 e5 e6 hl

theorem js_field {e : Expr} {pe : PE} {pos : Pos} {es : List Expr} {pes : PEs} (he : ES prog w mg mb hB n sc e pe) (ht : JS prog w mg mb hB n sc es pes) : JS prog w mg mb hB n sc (.FormattedValue e (-1) none pos :: es) (.cons pe pes) := by
  intro F C G O env A s vs ls out K e1 e2 hl
  obtain ⟨v, e0, e1⟩ := Option.bind_eq_some_iff.mp e1
  obtain ⟨vs', e5, rfl⟩ := Option.map_eq_some_iff.mp e1
  obtain ⟨l, es, e2⟩ := Option.bind_eq_some_iff.mp e2
  obtain ⟨ls', e6, rfl⟩ := Option.map_eq_some_iff.mp e2
  have hl' : l.length ≤ LIM := by simp only [List.map_cons, List.sum_cons] at hl; and_intros
  refine joinParts_cons (FormattedValue_plain (seqE (he K e0) fun v s1 q => ?_))
  obtain ⟨y, t, rfl, rfl⟩ := rep_asS es q.2
  refine formatField_str (fun t' tk => ?_) (by rw [str_len]; exact Nat.le_trans hl' lim_size)
  exact js_tail ht out K (s1 := { s1 with toks := tk }) (ktrans q.1 kp) e5 e6 hl

theorem fstr_okE {v₁ v₂ : Expr} {rest : List Expr} {pos : Pos} {pes : PEs} (h : JS prog w mg mb hB n sc (v₁ :: v₂ :: rest) pes) : ES prog w mg mb hB n sc (.JoinedStr (v₁ :: v₂ :: rest) pos) (.fstr pes) := by
  intro F C G O env A s pv K hv
  obtain ⟨vs, e1, hv⟩ := Option.bind_eq_some_iff.mp hv
  obtain ⟨ls, e2, hv⟩ := Option.bind_eq_some_iff.mp hv
  obtain ⟨hl, hv⟩ := ite_some hv
  cases hv
  exact JoinedStr_many (seqE (h (s := s) Str.empty K e1 e2 (by simpa [Str.empty] using hl)) fun v s1 q => ⟨q.1, by simpa [Str.empty] using q.2⟩)

theorem last_none {o o2 : CmpOp} {r r2 : Expr} (h1 : behindInMarks o r = false) (h2 : behindInMarks o2 r2 = false) : lastMarks [o, o2] [r, r2] = false := h2
theorem cmp2_okT {l r r2 : Expr} {o o2 : CmpOp} {a b c : PE} {pos : Pos} (hl : ES prog w mg mb hB n sc l a) (hr : ES prog w mg mb hB n sc r b) (hr2 : ES prog w mg mb hB n sc r2 c) (hm : lastMarks [o, o2] [r, r2] = false) :
    TS prog w mg mb hB n sc (.Compare l [o, o2] [r, r2] pos) (.cmp2 (cCmp o) (cCmp o2) a b c) := by
  intro F C G O env A s pv K hv
  obtain ⟨x, e1, hv⟩ := Option.bind_eq_some_iff.mp hv
  obtain ⟨y, e2, hv⟩ := Option.bind_eq_some_iff.mp hv
  obtain ⟨t, e3, hv⟩ := Option.bind_eq_some_iff.mp hv
  refine isTrue_chain (seqE (hl K e1) fun u s1 q1 => ?_) hm
  refine test_link (seqE (hr (K.keep q1.1) e2) fun v s2 q2 => ?_)
  have k12 := ktrans q1.1 q2.1
  refine seqE (cmp_ok K.R e3 (q1.2.keep (kheap q2.1)) q2.2 (K.keep k12).I.W) fun z s3 q3 => ?_
  obtain ⟨k3, rfl⟩ := q3
  have k13 := ktrans k12 k3
  refine wpAny_truthy_bool ?_
  cases t with
  | false => cases hv; exact ⟨k13, rfl⟩
  | true =>
    obtain ⟨z', e4, hv⟩ := Option.bind_eq_some_iff.mp hv
    refine test_last (seqE (hr2 (K.keep k13) e4) fun q s4 q4 => ?_)
    have k14 := ktrans k13 q4.1
    exact seqE (cmp_ok K.R hv ((q2.2.keep (kheap k3)).keep (kheap q4.1)) q4.2 (K.keep k14).I.W) fun z s5 q5 => by
      obtain ⟨k5, rfl⟩ := q5; exact wpAny_truthy_bool ⟨ktrans k14 k5, rfl⟩
end
end Mine

namespace Mine
open StrLaws

theorem KN.tabLive {h h' : Heap} (k : KN h h') {ps : Array Value} (e : h.get? PT = some { cls := .none, data := .fields ps }) : ∃ ps', h'.get? PT = some { cls := .none, data := .fields ps' } :=
  let ⟨_, e', _⟩ := k.tab ps e; ⟨_, e'⟩

noncomputable def ItObj (o : Obj) : Prop := (∃ fs, o.data = .fields fs) ∧ o.cls ≠ .none ∧ o.cls ≠ .type "builtin_function_or_method"
theorem ItObj.noTab {o : Obj} (h : ItObj o) : NoTab o := noTab_cls h.2.1
theorem ItObj.noVal {o : Obj} (h : ItObj o) : ¬ IsVal o := by
  obtain ⟨⟨fs, hf⟩, _, hc⟩ := h
  rintro (⟨_, _, q⟩ | ⟨a, q⟩)
  · rw [hf] at q; cases q
  · exact hc (by rw [q]; rfl)
/-- an iterator over its -/
inductive ItPost (prog : Program) (w : World) (C : RC) (O2 : Owns) (its : List PV) (s : Shared) (it : Value) (s' : Shared) : Prop
  | mk (k : _) (hs : s' = { s with heap := s'.heap, toks := k }) (o : Obj) (fp : List Addr) (P : Nat → Value → Prop) (St : Nat → Heap → Prop)
   (e : it = .ref s.heap.objs.size) (hh : s'.heap = s.heap.push o) (nt : NoTab o) (hW : ∀ A' : Around, A'.handled = none → Walks prog w A' s.heap.objs.size fp [s.heap.objs.size] its.length P St) (st : St 0 s'.heap)
   (live : ∀ i g, St i g → ∃ o, ItObj o ∧ g.get? s.heap.objs.size = some o)
   (hfp : ∀ b ∈ fp, b = s.heap.objs.size ∨ (∃ o, NoTab o ∧ s.heap.get? b = some o) ∧ (O2 = [] → ¬ C.X b)) (hP : ∀ i v, P i v → ∃ pv, its[i]? = some pv ∧ Rep C s.heap pv v) : ItPost prog w C O2 its s it s'

section
variable {prog : Program} {w : World} {A : Around} {s : Shared} {C : RC} {O O2 : Owns}

theorem sign_at {x : Str} {i : Nat} {v : Value} {h2 : Heap} : SignAt x i v → ∃ pv, (x.cps.toList.map fun c => PV.str [c])[i]? = some pv ∧ Rep C h2 pv v := by
  rintro ⟨c, u, hc, rfl⟩
  refine ⟨.str [c], ?_, rep_str' rfl⟩
  rw [List.getElem?_map, Array.getElem?_toList, hc]
  rfl
theorem itObj {o : Obj} {fs : Array Value} {T : String} (hc : o.cls = .type T) (hd : o.data = .fields fs) (hT : (T == "builtin_function_or_method") = false) : ItObj o :=
  ⟨⟨_, hd⟩, by rw [hc]; nofun, fun q => by rw [hc] at q; cases q; cases hT⟩
theorem seq_at {its : List PV} {xs : Array Value} {h : Heap} (hl : RepL C h its xs.toList) (hsz : xs.size = its.length) {i : Nat} {v : Value} (hP : xs[i]? = some v) : ∃ pv, its[i]? = some pv ∧ Rep C h pv v := by
  have hlt : i < its.length := by rw [← hsz]; exact (Array.getElem?_eq_some_iff.mp hP).1
  obtain ⟨y, e, hr⟩ := hl.at i its[i] (List.getElem?_eq_getElem hlt)
  rw [Array.getElem?_toList, hP] at e
  cases e
  exact ⟨_, List.getElem?_eq_getElem hlt, hr⟩
theorem fp_at {h : Heap} {a b : Addr} {o : Obj} (ho : h.get? a = some o) (nt : NoTab o) (hX : O2 = [] → ¬ C.X a) (hb : b ∈ [h.objs.size, a]) : b = h.objs.size ∨ (∃ o, NoTab o ∧ h.get? b = some o) ∧ (O2 = [] → ¬ C.X b) := by
  rcases List.mem_cons.mp hb with rfl | hb
  · exact .inl rfl
  · rw [List.mem_singleton.mp hb]
    exact .inr ⟨⟨o, nt, ho⟩, hX⟩
theorem iter_str {x : Str} {t : Tok} : wpAny (model prog w) A (pyIter (.str x t)) (ItPost prog w C O2 (x.cps.toList.map fun c => .str [c]) s) noE s := by
  cases ha : x.cps.all (· < 128)
  · refine wpAny_pyIter_wide ha ⟨s.toks, rfl, _, [s.heap.objs.size], SignAt x, (fun i h => h.IsStrIter s.heap.objs.size "str_iterator" x t i), rfl, rfl, noTab_cls nofun, fun A' hA => ?_, ⟨_, Heap.get?_push_size _ rfl, rfl, rfl⟩, fun i g q => ?_, fun b hb => .inl (List.mem_singleton.mp hb), fun i v hP => sign_at hP⟩
    · rw [List.length_map]; exact Walks.strWide (prog := prog) (w := w) hA s.heap.objs.size x t
    · obtain ⟨o, ho, hc, hd⟩ := q; exact ⟨o, itObj hc hd (by decide), ho⟩
  · refine wpAny_pyIter_ascii ha ⟨s.toks, rfl, _, [s.heap.objs.size], SignAt x, (fun i h => h.IsStrIter s.heap.objs.size "str_ascii_iterator" x t i), rfl, rfl, noTab_cls nofun, fun A' hA => ?_, ⟨_, Heap.get?_push_size _ rfl, rfl, rfl⟩, fun i g q => ?_, fun b hb => .inl (List.mem_singleton.mp hb), fun i v hP => sign_at hP⟩
    · rw [List.length_map]; exact Walks.strAscii (prog := prog) (w := w) hA s.heap.objs.size x t
    · obtain ⟨o, ho, hc, hd⟩ := q; exact ⟨o, itObj hc hd (by decide), ho⟩
theorem iter_val {v : PV} {u : Value} {its : List PV} (hO : O2 = O ∨ O2 = []) (W : Owned C O s.heap) (hv : piter O2 v = some its) (r : Rep C s.heap v u) :
    wpAny (model prog w) A (pyIter u) (ItPost prog w C O2 its s) noE s := by
  unfold piter at hv
  cases h1 : asS v with
  | some l =>
    rw [h1] at hv
    cases hv
    obtain ⟨x, t, rfl, rfl⟩ := rep_asS h1 r
    exact iter_str
  | none =>
    rw [h1] at hv
    cases h2 : asT v with
    | some l =>
      rw [h2] at hv
      cases hv
      obtain ⟨a, xs, rfl, hX, ht, hl, hsz⟩ := rep_asT h2 r
      obtain ⟨o, ho, hc, _⟩ := id ht
      refine wpAny_pyIter_tuple ht ⟨s.toks, rfl, _, [s.heap.objs.size, a], (fun i v => xs[i]? = some v), (fun i h => h.IsTupleIter s.heap.objs.size a i ∧ h.IsTuple a xs), rfl, rfl, noTab_cls nofun, fun A' hA => ?_, ⟨⟨_, Heap.get?_push_size _ rfl, rfl, rfl⟩, ht.push _⟩, fun i g q => ?_, fun b hb => fp_at ho (noTab_cls (by rw [hc]; nofun)) (fun _ => hX) hb, fun i v hP => seq_at hl hsz hP⟩
      · rw [← hsz]; exact Walks.tuple hA _ _ (Nat.ne_of_lt (Heap.lt_size ho)) xs
      · obtain ⟨⟨o, ho, hc, hd⟩, _⟩ := q; exact ⟨o, itObj hc hd (by decide), ho⟩
    | none =>
      rw [h2] at hv
      have hv : asL O2 v = some its := hv
      have hv' : asL O v = some its ∧ (O2 = [] → ∀ a, u = .ref a → ¬ C.X a) := by
        rcases hO with rfl | rfl
        · refine ⟨hv, fun e a q => ?_⟩
          subst e
          cases v with
          | list => subst q; obtain ⟨a', xs, e, hx, _⟩ := r; cases e; exact hx
          | _ => exact nn hv
        · cases v with
          | list => exact ⟨hv, fun _ a q => by subst q; obtain ⟨a', xs, e, hx, _⟩ := r; cases e; exact hx⟩
          | _ => exact nn hv
      obtain ⟨a, xs, rfl, hp, hl, hsz⟩ := asL_rep' W hv'.1 r
      have ht := hp.isList
      obtain ⟨o, ho, hc, _⟩ := id ht
      refine wpAny_pyIter_list ht ⟨s.toks, rfl, _, [s.heap.objs.size, a], (fun i v => xs[i]? = some v), (fun i h => h.IsListIter s.heap.objs.size a i ∧ h.IsList a xs), rfl, rfl, noTab_cls nofun, fun A' hA => ?_, ⟨⟨_, Heap.get?_push_size _ rfl, rfl, rfl⟩, ht.push _⟩, fun i g q => ?_, fun b hb => fp_at ho (noTab_cls (by rw [hc]; nofun)) (fun e => hv'.2 e a rfl) hb, fun i v hP => seq_at hl hsz hP⟩
      · rw [← hsz]; exact Walks.list hA _ _ (Nat.ne_of_lt (Heap.lt_size ho)) xs
      · obtain ⟨⟨o, ho, hc, hd⟩, _⟩ := q; exact ⟨o, itObj hc hd (by decide), ho⟩
/-- what a range with the step c goes through -/
structure RngOk (its : List PV) (a b c : Int) : Prop where
  len : its.length = (Builtin.Range.rangeSize a b c).toNat
  at_ : ∀ i : Nat, i < its.length → its[i]? = some (.int (a + i * c))
  small : Builtin.Range.small a b c = true
  ge : 0 ≤ Builtin.Range.rangeSize a b c
  le : Builtin.Range.rangeSize a b c ≤ 2 * LIM + 1
theorem bnd {a : Int} (h : a.natAbs ≤ LIM) : -1048576 ≤ a ∧ a ≤ 1048576 := by
  have hL : LIM = 1048576 := rfl
  and_intros
theorem fitsL {a : Int} (h1 : -2097153 ≤ a) (h2 : a ≤ 2097153) : Builtin.Range.rangeFitsLong a = true :=
  Bool.and_eq_true_iff.mpr ⟨decide_eq_true (Int.le_trans (by decide) h1), decide_eq_true (Int.lt_of_le_of_lt h2 (by decide))⟩
theorem szN {a b : Int} (ha : a.natAbs ≤ LIM) (hb : b.natAbs ≤ LIM) : ((b - a).toNat : Int) ≤ 2097152 := by
  have h1 := bnd ha
  have h2 := bnd hb
  rw [Int.ofNat_toNat]
  exact Int.max_le.mpr ⟨Int.sub_le_sub h2.2 h1.1, by decide⟩
theorem pm1 {a : Int} (h : -1048576 ≤ a ∧ a ≤ 1048576) : -2097153 ≤ a ∧ a ≤ 2097153 := ⟨Int.le_trans (by decide) h.1, Int.le_trans h.2 (by decide)⟩
theorem rng_up {a b : Int} (ha : a.natAbs ≤ LIM) (hb : b.natAbs ≤ LIM) : RngOk (prange a b) a b 1 := by
  have hs : Builtin.Range.rangeSize a b 1 = ((b - a).toNat : Nat) := by
    unfold Builtin.Range.rangeSize
    rw [if_pos (by decide)]
    by_cases h : a < b
    · rw [if_pos h, Int.ediv_one, Int.sub_add_cancel, Int.toNat_of_nonneg (Int.le_of_lt (Int.sub_pos_of_lt h))]
    · rw [if_neg h, Int.toNat_of_nonpos (Int.sub_nonpos_of_le (Int.not_lt.mp h))]; rfl
  have hl : (prange a b).length = (b - a).toNat := (List.length_map _).trans List.length_range
  have h1 := pm1 (bnd ha)
  have h2 := pm1 (bnd hb)
  refine ⟨by rw [hl, hs, Int.toNat_natCast], fun i h => ?_, small_one (Int.le_trans (by decide) h1.1) (Int.lt_of_le_of_lt h1.2 (by decide)) (Int.le_trans (by decide) h2.1) (Int.lt_of_le_of_lt h2.2 (by decide)), by rw [hs]; exact Int.natCast_nonneg _, by rw [hs]; exact Int.le_trans (szN ha hb) (by decide)⟩
  unfold prange
  rw [List.getElem?_map, List.getElem?_range (hl ▸ h), Int.mul_one]; rfl
theorem rng_down {a b : Int} (ha : a.natAbs ≤ LIM) (hb : b.natAbs ≤ LIM) : RngOk (prangeD a b) a b (-1) := by
  have hs : Builtin.Range.rangeSize a b (-1) = ((a - b).toNat : Nat) := by
    unfold Builtin.Range.rangeSize
    rw [if_neg (by decide)]
    by_cases h : b < a
    · rw [if_pos h, show (-(-1) : Int) = 1 from rfl, Int.ediv_one, Int.sub_add_cancel, Int.toNat_of_nonneg (Int.le_of_lt (Int.sub_pos_of_lt h))]
    · rw [if_neg h, Int.toNat_of_nonpos (Int.sub_nonpos_of_le (Int.not_lt.mp h))]; rfl
  have hl : (prangeD a b).length = (a - b).toNat := (List.length_map _).trans List.length_range
  have h1 := pm1 (bnd ha)
  have h2 := pm1 (bnd hb)
  refine ⟨by rw [hl, hs, Int.toNat_natCast], fun i h => ?_, ?_, by rw [hs]; exact Int.natCast_nonneg _, by rw [hs]; exact Int.le_trans (szN hb ha) (by decide)⟩
  · unfold prangeD
    rw [List.getElem?_map, List.getElem?_range (hl ▸ h), Int.mul_neg, Int.mul_one]; rfl
  · unfold Builtin.Range.small
    rw [fitsL h1.1 h1.2, fitsL h2.1 h2.2, hs, fitsL (Int.le_trans (by decide) (Int.natCast_nonneg _)) (Int.le_trans (szN hb ha) (by decide)), if_neg (by decide)]
    have := fitsL (a := b + (-1 + 1)) (by rw [Int.add_left_neg, Int.add_zero]; exact h2.1) (by rw [Int.add_left_neg, Int.add_zero]; exact h2.2)
    rw [this, Bool.or_true]; rfl

theorem iter_range {r : Addr} {a b c : Int} {t u v : Tok} {its : List PV} (hr : IsRange s.heap r a b c t u v) (R : RngOk its a b c) :
    wpAny (model prog w) A (pyIter (.ref r)) (ItPost prog w C O2 its s) noE s := by
  have hl := R.len
  have h2 := R.ge
  refine wpAny_pyIter_range hr R.small ⟨s.toks, rfl, _, [s.heap.objs.size], (fun i v => (∃ t, v = .int (a + i * c) t) ∧ i < its.length),
    (fun i h => IsRangeIter h s.heap.objs.size (a + (i : Nat) * c) ((its.length : Int) - (i : Nat)) c), rfl, rfl, noTab_cls nofun, fun A' hA => ?_, ?_, ?_, fun b hb => .inl (List.mem_singleton.mp hb), fun i v hP => ?_⟩
  · have W := Walks.range (prog := prog) (w := w) hA s.heap.objs.size a c its.length
    exact ⟨W.sub, W.frame, fun i s Q E hi st hQ => W.item i s Q E hi st fun v h' tk hP => hQ v h' tk ⟨hP, hi⟩, W.done, W.self⟩
  · have e1 : a + ((0 : Nat) : Int) * c = a := by simp
    have e2 : ((its.length : Int) - ((0 : Nat) : Int)) = Builtin.Range.rangeSize a b c := by rw [hl]; and_intros
    show IsRangeIter _ _ _ _ _
    rw [e1, e2]
    exact Heap.get?_push_size _ rfl
  · intro i g hg; refine ⟨_, ?_, hg⟩; exact ⟨⟨_, rfl⟩, by nofun, by intro q; exact absurd q (by decide : (Value.type "range_iterator") ≠ .type "builtin_function_or_method")⟩
  · obtain ⟨⟨t, rfl⟩, hi⟩ := hP
    exact ⟨_, R.at_ i hi, rep_int⟩
end

section
variable (prog : Program) (w : World) (mg mb : Str → Option Value) (hB : Heap) (n : Nat) (sc : Scope)
/-- an iterable of a comprehension or of a loop -/
noncomputable def IS (e : Expr) (pit : PIt) : Prop :=
  ∀ ⦃F : PF1⦄ ⦃C : RC⦄ ⦃G : Slots⦄ ⦃O : Owns⦄ ⦃env : Env⦄ ⦃A : Around⦄ ⦃s : Shared⦄ ⦃its : List PV⦄ (O2 : Owns), Cx prog w mg mb hB n sc F C G O env A s.heap → (O2 = O ∧ evI F O G pit = some its ∨ O2 = [] ∧ evIF F O G pit = some its) →
    its.length ≤ 2 * LIM + 1 ∧ wpAny (model prog w) A (eval e env) (fun x s₁ => Keeps s s₁ ∧ ∀ A' : Around, wpAny (model prog w) A' (pyIter x) (ItPost prog w C O2 its s₁) noE s₁) noE s
end
section
variable {prog : Program} {w : World} {mg mb : Str → Option Value} {hB : Heap} {n : Nat} {sc : Scope}

theorem is_val {e : Expr} {pe : PE} (he : ES prog w mg mb hB n sc e pe) : IS prog w mg mb hB n sc e (.val pe) := by
  intro F C G O env A s its O2 K hv
  have : (O2 = O ∨ O2 = []) ∧ ((ev F O G pe).bind fun v => (piter O2 v).bind fun l => if l.length ≤ LIM then some l else none) = some its := by
    rcases hv with ⟨rfl, hv⟩ | ⟨rfl, hv⟩
    · exact ⟨.inl rfl, hv⟩
    · exact ⟨.inr rfl, hv⟩
  obtain ⟨hO, hv⟩ := this
  obtain ⟨v, e1, hv⟩ := Option.bind_eq_some_iff.mp hv
  obtain ⟨l, e2, hv⟩ := Option.bind_eq_some_iff.mp hv
  obtain ⟨e3, hv⟩ := ite_some hv
  cases hv
  exact ⟨by unfold LIM at *; and_intros, seqE (he K e1) fun u s1 q => ⟨q.1, fun A' => iter_val hO (K.keep q.1).I.W e2 q.2⟩⟩
theorem is_rng {x0 : Str} {args : List Expr} {ps : PEs} {fp pos : Pos} (hs : SS prog w mg mb hB n sc args ps) (hc : (x0 == "range" && (isGl sc "range" && NoStars args)) = true) : IS prog w mg mb hB n sc (.Call (.Name x0 fp) args [] pos) (.rng ps) := by
  obtain ⟨h1, hc⟩ := and_t hc
  obtain ⟨hg, hn⟩ := and_t hc
  cases beq_iff_eq.mp h1
  intro F C G O env A s its O2 K hv
  have hv' : (evs F O G ps).bind prng = some its := by rcases hv with ⟨_, hv⟩ | ⟨_, hv⟩ <;> exact hv
  obtain ⟨vs, e1, hr⟩ := Option.bind_eq_some_iff.mp hv'
  have hbi := K.I.base.bis ("range", .type "range") (by decide)
  have go : ∀ {Q : Value → Shared → Prop}, (∀ us s1, Keeps s s1 → RepL C s1.heap vs us → wpAny (model prog w) A (call (.type "range") us) Q noE s1) → wpAny (model prog w) A (eval (.Call (.Name "range" fp) args [] pos) env) Q noE s := fun h => by
    refine Call_Name (backTo_of hn) (glob_load (v := .type "range") K hg (by decide) (.inr hbi) ?_)
    exact PyProof.Rows.callWith_type (T := "range") any_of (evalArgs_of (seqE (hs K e1) fun us s1 q => h us s1 q.1 q.2))
  cases vs with
  | nil => exact nn hr
  | cons v r =>
    obtain ⟨x, ex, hr⟩ := Option.bind_eq_some_iff.mp hr
    cases r with
    | nil =>
      obtain ⟨hx, hr⟩ := ite_some hr
      cases hr
      have R := rng_up (a := 0) (b := x) (by decide) hx
      have h2 := R.len
      have h3 := R.le
      refine ⟨by and_intros, go fun us s1 k1 r1 => ?_⟩
      obtain ⟨_, _, rfl, r1, rfl⟩ := r1
      obtain ⟨t, rfl⟩ := rep_asI ex r1
      exact call_range_1 ⟨ktrans k1 kpush, fun A' => iter_range (IsRange.new ..) R⟩
    | cons u q =>
      obtain ⟨y, ey, hr⟩ := Option.bind_eq_some_iff.mp hr
      obtain ⟨hx, hr⟩ := ite_some hr
      cases q with
      | nil =>
        cases hr
        have R := rng_up hx.1 hx.2
        have h2 := R.len
        have h3 := R.le
        refine ⟨by and_intros, go fun us s1 k1 r1 => ?_⟩
        obtain ⟨_, _, rfl, r1, _, _, rfl, r2, rfl⟩ := r1
        obtain ⟨t, rfl⟩ := rep_asI ex r1
        obtain ⟨t', rfl⟩ := rep_asI ey r2
        exact call_range_2 ⟨ktrans k1 kpush, fun A' => iter_range (IsRange.new ..) R⟩
      | cons z q2 =>
        obtain ⟨c, ec, hr⟩ := Option.bind_eq_some_iff.mp hr
        obtain ⟨hq, hr⟩ := ite_some hr
        cases hr
        cases List.isEmpty_iff.mp hq.1
        have R := rng_down hx.1 hx.2
        have h2 := R.len
        have h3 := R.le
        refine ⟨by and_intros, go fun us s1 k1 r1 => ?_⟩
        obtain ⟨_, _, rfl, r1, _, _, rfl, r2, _, _, rfl, r3, rfl⟩ := r1
        obtain ⟨t, rfl⟩ := rep_asI ex r1
        obtain ⟨t', rfl⟩ := rep_asI ey r2
        obtain ⟨t2, rfl⟩ := rep_asI ec r3
        rw [hq.2]
        exact call_range_3 (by decide) ⟨ktrans k1 kpush, fun A' => iter_range (IsRange.new ..) R⟩ (.inl (PyProof.noPylong_small (by decide)))
end
end Mine

namespace Mine
open StrLaws

/-! closures -/
noncomputable def clOf (env : Env) : List (Str × NameKind) → List (Str × Addr) → List (Str × Addr)
  | [], acc => acc
  | p :: r, acc => clOf env r (if p.2 == .free then (p.1, (env.cells.lookup p.1).getD 0) :: acc else acc)
theorem cellOf_some {env : Env} {x : Str} {c : Addr} (h : env.cells.lookup x = some c) : cellOf env x = pure c := by
  unfold cellOf; rw [h]
theorem closure_go {env : Env} : ∀ (names : List (Str × NameKind)) (acc : List (Str × Addr)), (∀ p ∈ names, p.2 = .free → ∃ c, env.cells.lookup p.1 = some c) →
    (forIn names acc fun (x : Str × NameKind) (cs : List (Str × Addr)) => (match x with | (name, kind) => if (kind == NameKind.free) = true then do let __do_lift ← cellOf env name; pure (ForInStep.yield ((name, __do_lift) :: cs)) else pure (ForInStep.yield cs) : Sem (ForInStep (List (Str × Addr))))) = pure (clOf env names acc)
  | [], acc, _ => rfl
  | p :: r, acc, h => by
    obtain ⟨nm, k⟩ := p
    rw [List.forIn_cons]
    by_cases hk : k = .free
    · subst hk
      obtain ⟨c, hc⟩ := h (nm, .free) List.mem_cons_self rfl
      simp only [beq_self_eq_true, if_true, cellOf_some hc, pure_bind]
      rw [closure_go r _ fun q hq => h q (List.mem_cons_of_mem _ hq)]
      simp [clOf, hc]
    · have hb : (k == NameKind.free) = false := by simpa using hk
      simp only [hb, Bool.false_eq_true, if_false, pure_bind]
      rw [closure_go r _ fun q hq => h q (List.mem_cons_of_mem _ hq)]
      simp [clOf, hb]
theorem closure_ok {scope : Scope} {env : Env} (h : ∀ p ∈ scope.names, p.2 = .free → ∃ c, env.cells.lookup p.1 = some c) : closureFor scope env = pure (clOf env scope.names []) := by
  unfold closureFor
  show (do let cs ← forIn scope.names ([] : List (Str × Addr)) _; pure cs) = _
  rw [closure_go scope.names [] h]
  rfl
theorem clOf_val {env : Env} : ∀ (names : List (Str × NameKind)) (acc : List (Str × Addr)), (∀ q ∈ acc, q.2 = (env.cells.lookup q.1).getD 0) → ∀ q ∈ clOf env names acc, q.2 = (env.cells.lookup q.1).getD 0
  | [], _, h => h
  | p :: r, acc, h => by
    unfold clOf
    refine clOf_val r _ ?_
    split
    · intro q hq
      rcases List.mem_cons.mp hq with rfl | hq
      · rfl
      · exact h q hq
    · exact h
theorem clOf_acc {env : Env} : ∀ (names : List (Str × NameKind)) (acc : List (Str × Addr)), ∀ q ∈ acc, q ∈ clOf env names acc
  | [], _, _, h => h
  | p :: r, acc, q, h => by
    unfold clOf
    refine clOf_acc r _ q ?_
    split
    · exact List.mem_cons_of_mem _ h
    · exact h
theorem clOf_key {env : Env} : ∀ (names : List (Str × NameKind)) (acc : List (Str × Addr)) (x : Str), (x, NameKind.free) ∈ names → ∃ q ∈ clOf env names acc, q.1 = x
  | p :: r, acc, x, h => by
    rcases List.mem_cons.mp h with rfl | h
    · unfold clOf
      exact ⟨_, clOf_acc r _ _ (by rw [if_pos (by rfl)]; exact List.mem_cons_self), rfl⟩
    · unfold clOf; exact clOf_key r _ x h
theorem lookup_of {f : Str → Addr} : ∀ (l : List (Str × Addr)) (x : Str), (∀ q ∈ l, q.2 = f q.1) → (∃ q ∈ l, q.1 = x) → l.lookup x = some (f x)
  | q :: r, x, h, hk => by
    obtain ⟨a, b⟩ := q
    rw [List.lookup_cons]
    by_cases hx : x = a
    · subst hx
      have := h (x, b) List.mem_cons_self
      simp only at this
      simp [this]
    · have hb : (x == a) = false := by simpa using hx
      rw [hb]
      refine lookup_of r x (fun q hq => h q (List.mem_cons_of_mem _ hq)) ?_
      obtain ⟨q, hq, e⟩ := hk
      rcases List.mem_cons.mp hq with rfl | hq
      · exact absurd e.symm hx
      · exact ⟨q, hq, e⟩
theorem clOf_lookup {env : Env} {names : List (Str × NameKind)} {x : Str} {c : Addr} (hx : (x, NameKind.free) ∈ names) (hc : env.cells.lookup x = some c) : (clOf env names []).lookup x = some c := by
  rw [lookup_of (f := fun y => (env.cells.lookup y).getD 0) _ x (clOf_val names [] (by simp)) (clOf_key names [] x hx), hc]
  rfl

theorem lookup_mem {α : Type} : ∀ {l : List (Str × α)} {x : Str} {k : α}, l.lookup x = some k → (x, k) ∈ l
  | (a, b) :: r, x, k, h => by
    rw [List.lookup_cons] at h
    cases hx : x == a
    · rw [hx] at h; exact List.mem_cons_of_mem _ (lookup_mem h)
    · rw [hx] at h; cases h; rw [eq_of_beq hx]; exact List.mem_cons_self
theorem lookup_relabel {env : Env} : ∀ {names : List (Str × NameKind)} {x : Str} {k : NameKind}, names.lookup x = some k →
    let l := (names.map fun (n, k) => if (k == NameKind.free && env.scope.kind == .function && env.kindOf n == some .cell) then (n, NameKind.cell) else (n, k))
    l.lookup x = some k ∨ k = .free ∧ l.lookup x = some .cell
  | [], _, _, h => by simp at h
  | (n, k') :: r, x, k, h => by
    have ih := @lookup_relabel env r x k
    dsimp only at ih ⊢
    rw [List.map_cons]
    cases hx : x == n with
    | true =>
      simp only [List.lookup_cons, hx] at h
      cases h
      by_cases hc : (k' == NameKind.free && env.scope.kind == .function && env.kindOf n == some .cell) = true
      · right
        rw [if_pos hc]
        simp only [List.lookup_cons, hx]
        simp only [Bool.and_eq_true, beq_iff_eq] at hc
        exact ⟨hc.1.1, trivial⟩
      · left
        rw [if_neg hc]
        simp only [List.lookup_cons, hx]
    | false =>
      simp only [List.lookup_cons, hx] at h
      by_cases hc : (k' == NameKind.free && env.scope.kind == .function && env.kindOf n == some .cell) = true
      · rw [if_pos hc]; simp only [List.lookup_cons, hx]; exact ih h
      · rw [if_neg hc]; simp only [List.lookup_cons, hx]; exact ih h

theorem findIdx_get : ∀ {l : List (Str × NameKind)} {x : Str} {i : Nat}, l.findIdx? (fun p => p.1 == x) = some i → ∃ k, l[i]? = some (x, k) ∧ l.lookup x = some k
  | [], _, _, h => by simp at h
  | (a, k) :: r, x, i, h => by
    rw [List.findIdx?_cons] at h
    by_cases hx : a = x
    · subst hx
      simp only [beq_self_eq_true, if_true, Option.some.injEq] at h
      subst h
      exact ⟨k, rfl, by simp [List.lookup_cons]⟩
    · have hb : (a == x) = false := by simpa using hx
      have hb' : (x == a) = false := by simpa using fun e : x = a => hx e.symm
      simp only [hb, Bool.false_eq_true, if_false] at h
      obtain ⟨j, hj, rfl⟩ := Option.map_eq_some_iff.mp h
      obtain ⟨k', h1, h2⟩ := findIdx_get hj
      exact ⟨k', by simpa using h1, by rw [List.lookup_cons, hb']; exact h2⟩
theorem slot_get {sc : Scope} {x : Str} {i : Nat} (h : slotOf sc x = some i) : ∃ k, sc.names[i]? = some (x, k) ∧ sc.names.lookup x = some k ∧ (k = .local ∨ k = .cell ∨ k = .free) := by
  obtain ⟨k, e, h⟩ := Option.bind_eq_some_iff.mp h
  obtain ⟨hk, h⟩ := ite_some h
  obtain ⟨k', a, b⟩ := findIdx_get h
  rw [e] at b
  cases b
  refine ⟨_, a, e, ?_⟩
  cases k with
  | «local» => exact .inl rfl
  | cell => exact .inr (.inl rfl)
  | free => exact .inr (.inr rfl)
  | _ => cases hk
theorem slot_inj {sc : Scope} {x y : Str} {i : Nat} (hx : slotOf sc x = some i) (hy : slotOf sc y = some i) : x = y := by
  obtain ⟨k, a, _⟩ := slot_get hx
  obtain ⟨k', b, _⟩ := slot_get hy
  rw [a] at b; cases b; rfl

theorem Sub.xs {C : RC} {h h' : Heap} (hk : ∀ b o, ¬ C.X b → h.get? b = some o → h'.get? b = some o) : Sub C C h h' := ⟨fun _ _ _ _ x => x, rfl, fun _ _ x => x, fun b o _ hx e => hk b o hx e⟩

mutual
theorem Rep.wide {C C' : RC} {h : Heap} (hX : ∀ b, C.X b → C'.X b) (hst : C.st = C'.st) (hads : C.ads = C'.ads) : ∀ (p : PV) (v : Value), Rep C' h p v → Rep C h p v
  | .none, v, r => r
  | .bool b, v, r => r
  | .int i, v, r => r
  | .str l, v, r => r
  | .tup vs, v, r => let ⟨a, xs, e, hna, ht, hl⟩ := r; ⟨a, xs, e, fun q => hna (hX _ q), ht, RepL.wide hX hst hads vs _ hl⟩
  | .list vs, v, r => let ⟨a, xs, e, hna, ht, hl⟩ := r; ⟨a, xs, e, fun q => hna (hX _ q), ht, RepL.wide hX hst hads vs _ hl⟩
  | .star, v, r => Eq.trans r (congrArg Value.ref hst.symm)
  | .own k, v, r => let ⟨a, h1, h2⟩ := r; ⟨a, hads ▸ h1, h2⟩
  | .app k, v, r => let ⟨a, q, h1, h2, h3, h4⟩ := r; ⟨a, q, hads ▸ h1, h2, fun x => h3 (hX _ x), h4⟩
theorem RepL.wide {C C' : RC} {h : Heap} (hX : ∀ b, C.X b → C'.X b) (hst : C.st = C'.st) (hads : C.ads = C'.ads) : ∀ (p : List PV) (v : List Value), RepL C' h p v → RepL C h p v
  | [], v, r => r
  | p :: ps, v, r => let ⟨w, r', e, h1, h2⟩ := r; ⟨w, r', e, Rep.wide hX hst hads p w h1, RepL.wide hX hst hads ps r' h2⟩
end

theorem KN.above {a b c : Heap} (k : KN a b) {I : Addr} (hI : hsz a ≤ I) (hk : ∀ p o, p ≠ I → b.get? p = some o → c.get? p = some o) : KN a c where
  nt p o n e := hk p o (Nat.ne_of_lt (Nat.lt_of_lt_of_le (hsz_lt e) hI)) (k.nt p o n e)
  pt p o n e := hk p o (Nat.ne_of_lt (Nat.lt_of_lt_of_le (hsz_lt e) hI)) (k.pt p o n e)
  tab ps e := let ⟨m, e', t⟩ := k.tab ps e; ⟨m, hk PT _ (Nat.ne_of_lt (Nat.lt_of_lt_of_le (hsz_lt e) hI)) e', t⟩

section
variable (prog : Program) (w : World) (mg mb : Str → Option Value) (hB : Heap) (n : Nat) (sc : Scope)
/-- the tests of a comprehension -/
noncomputable def CS (ifs : List Expr) (cs : PEs) : Prop :=
  ∀ {F : PF1} {C : RC} {G : Slots} {O : Owns} {env : Env} {A : Around} {s : Shared} {b : Bool}, Cx prog w mg mb hB n sc F C G O env A s.heap → pts F O G cs = some b →
    wpAny (model prog w) A (forIn ifs true fun c r => if r = true then do let ok ← isTrue c env (eval c env); pure (ForInStep.yield ok) else pure (ForInStep.yield r)) (PostT s b) noE s
end
section
variable {prog : Program} {w : World} {mg mb : Str → Option Value} {hB : Heap} {n : Nat} {sc : Scope}
theorem tests_false {M : Model} {A : Around} {E : Value → Shared → Prop} {s : Shared} {env : Env} {Q : Bool → Shared → Prop} (h : Q false s) : ∀ (ifs : List Expr),
    wpAny M A (forIn ifs false fun c r => if r = true then do let ok ← isTrue c env (eval c env); pure (ForInStep.yield ok) else pure (ForInStep.yield r)) Q E s
  | [] => wpAny_pure h
  | c :: r => by
    rw [List.forIn_cons]
    simp only [Bool.false_eq_true, if_false, pure_bind]
    exact tests_false h r
theorem cs_nil : CS prog w mg mb hB n sc [] .nil := by
  intro F C G O env A s b K h
  cases h
  exact wpAny_pure ⟨krefl s, rfl⟩
theorem cs_cons {e : Expr} {es : List Expr} {p : PE} {ps : PEs} (he : TS prog w mg mb hB n sc e p) (hs : CS prog w mg mb hB n sc es ps) : CS prog w mg mb hB n sc (e :: es) (.cons p ps) := by
  intro F C G O env A s b K h
  obtain ⟨t, e1, h⟩ := Option.bind_eq_some_iff.mp h
  rw [List.forIn_cons]
  simp only [if_true]
  refine wpAny_bind (wpAny_bind (seqE (he K e1) fun t' s1 ⟨k1, r1⟩ => wpAny_pure ?_))
  subst r1
  cases t'
  · simp only [Bool.false_eq_true, if_false, Option.some.injEq] at h
    subst h
    exact tests_false ⟨k1, rfl⟩ es
  · simp only [if_true] at h
    exact seqE (hs (K.keep k1) h) fun t2 s2 ⟨k2, r2⟩ => ⟨ktrans k1 k2, r2⟩
end
end Mine

namespace Mine
open StrLaws

noncomputable def RC.plus (C : RC) (p : Addr → Prop) : RC := { C with X := fun b => C.X b ∨ p b }
theorem xplus {C : RC} {p : Addr → Prop} {b : Addr} (h : p b) : (C.plus p).X b := .inr h
theorem RC.plus_wide {C : RC} {p : Addr → Prop} {h : Heap} {v : PV} {u : Value} (r : Rep (C.plus p) h v u) : Rep C h v u := Rep.wide (C := C) (C' := C.plus p) (fun _ x => .inl x) rfl rfl v u r
theorem RC.plus_wideL {C : RC} {p : Addr → Prop} {h : Heap} {v : List PV} {u : List Value} (r : RepL (C.plus p) h v u) : RepL C h v u := RepL.wide (C := C) (C' := C.plus p) (fun _ x => .inl x) rfl rfl v u r

/-- new addresses may be written -/
theorem Sub.plus {C : RC} {p : Addr → Prop} {h h' : Heap} (hk : KN h h') (hp : ∀ b, p b → hsz h ≤ b) : Sub C (C.plus p) h h' where
  X b o _ e hx := by
    rintro (q | q)
    · exact hx q
    · exact Nat.lt_irrefl _ (Nat.lt_of_lt_of_le (hsz_lt e) (hp b q))
  st := rfl
  ads _ _ x := x
  keep b o nt _ e := hk.nt b o nt.noTab e

theorem n01 (I : Nat) : (I : Addr) ≠ I + 1 := Nat.ne_of_lt (by and_intros)
theorem n02 (I : Nat) : (I : Addr) ≠ I + 2 := Nat.ne_of_lt (by and_intros)
theorem n12 (I : Nat) : (I + 1 : Addr) ≠ I + 2 := Nat.ne_of_lt (by show I + 1 < I + 2; and_intros)
theorem addr_ne {a b : Addr} (h : (a : Nat) < b) : a ≠ b := Nat.ne_of_lt h

noncomputable def compG (sc sc2 : Scope) (G : Slots) : Slots := (sc2.names.map fun p => if p.2 == .free then slotOf sc p.1 else none).map fun j => j.bind fun j => (G[j]?).bind id

theorem compG_at {sc sc2 : Scope} {G : Slots} {i : Nat} {y : Str} {k : NameKind} {v : PV} (hn : sc2.names[i]? = some (y, k)) (h : (compG sc sc2 G)[i]? = some (some v)) : k = .free ∧ ∃ j, slotOf sc y = some j ∧ G[j]? = some (some v) := by
  unfold compG at h
  rw [List.getElem?_map, List.getElem?_map, hn] at h
  simp only [Option.map_some, Option.some.injEq] at h
  by_cases hk : k = .free
  · subst hk
    simp only [beq_self_eq_true, if_true] at h
    obtain ⟨j, h1, h2⟩ := Option.bind_eq_some_iff.mp h
    obtain ⟨q, h3, h4⟩ := Option.bind_eq_some_iff.mp h2
    exact ⟨rfl, j, h1, by rw [h3]; exact congrArg some h4⟩
  · have hb : (k == NameKind.free) = false := by simpa using hk
    simp [hb] at h

theorem set_at {α : Type} {l : List (Option α)} {i j : Nat} {v w : α} (hj : j = i) (h : (l.set i (some v))[j]? = some (some w)) : v = w := by
  subst hj
  rw [List.getElem?_set, if_pos rfl] at h
  by_cases hl : j < l.length
  · rw [if_pos hl] at h; cases h; rfl
  · rw [if_neg hl] at h; cases h
theorem cellsFrom_acc : ∀ {names : List (Str × NameKind)} {k : Nat} {acc : List (Str × Addr)} {x : Str}, (acc.lookup x).isSome = true → ((cellsFrom k names acc).lookup x).isSome = true
  | [], _, _, _, h => h
  | (y, kind) :: r, k, acc, x, h => by
    unfold cellsFrom
    split
    · refine cellsFrom_acc ?_
      rw [List.lookup_cons]
      split
      · rfl
      · exact h
    · exact cellsFrom_acc h
theorem cellsFrom_mem : ∀ {names : List (Str × NameKind)} {k : Nat} {acc : List (Str × Addr)} {x : Str}, (x, NameKind.cell) ∈ names → ((cellsFrom k names acc).lookup x).isSome = true
  | (y, kind) :: r, k, acc, x, h => by
    unfold cellsFrom
    rcases List.mem_cons.mp h with e | h
    · cases e
      simp only [beq_self_eq_true, if_true]
      exact cellsFrom_acc (by simp)
    · split
      · exact cellsFrom_mem h
      · exact cellsFrom_mem h

theorem ns_eq {h : Heap} {a : Addr} {m m' : Str → Option Value} (x : h.Ns a m) (y : h.Ns a m') (z : Str) : m z = m' z := by
  obtain ⟨o, es, ep, e, hd, _, hm⟩ := x
  obtain ⟨o', es', ep', e', hd', _, hm'⟩ := y
  rw [e] at e'; cases e'
  rw [hd] at hd'; cases hd'
  rw [← hm, hm']
theorem ns_ne_cell {h : Heap} {a c : Addr} {m : Str → Option Value} {v : Option Value} (x : h.Ns a m) (y : h.IsCell c v) : a ≠ c := by
  rintro rfl
  obtain ⟨o, es, ep, e, hd, _⟩ := x
  obtain ⟨o', e', hd'⟩ := y
  rw [e] at e'; cases e'; rw [hd] at hd'; cases hd'
theorem ns_live {h : Heap} {a : Addr} {m : Str → Option Value} (x : h.Ns a m) : ∃ o, NoTab o ∧ h.get? a = some o := by
  obtain ⟨o, es, ep, e, hd, _⟩ := x
  exact ⟨o, noTab_data (by rw [hd]; nofun), e⟩
theorem cell_live {h : Heap} {a : Addr} {v : Option Value} (x : h.IsCell a v) : ∃ o, NoTab o ∧ h.get? a = some o := by
  obtain ⟨o, e, hd⟩ := x
  exact ⟨o, noTab_data (by rw [hd]; nofun), e⟩
theorem list_live {h : Heap} {a : Addr} {xs : Array Value} (x : h.PlainList a xs) : ∃ o, NoTab o ∧ h.get? a = some o := by
  obtain ⟨m, e⟩ := x
  refine ⟨_, ?_, e⟩
  exact noTab_cls nofun

/-- where a comprehension's own variable lies -/
structure Pl (e2 : Env) (x : Str) (L q : Addr) (h : Heap) : Prop where
  ns : ∃ m, h.Ns L m
  at_ : (e2.kindOf x = some .local ∧ q = L) ∨ (e2.kindOf x = some .cell ∧ e2.cells.lookup x = some q ∧ ∃ v, h.IsCell q v)
theorem Pl.keep {e2 : Env} {x : Str} {L q : Addr} {h h' : Heap} (P : Pl e2 x L q h) (k : KN h h') : Pl e2 x L q h' :=
  ⟨let ⟨m, e⟩ := P.ns; ⟨m, k.ns e⟩, P.at_.imp id fun z => ⟨z.1, z.2.1, let ⟨v, e⟩ := z.2.2; ⟨v, k.cell e⟩⟩⟩
theorem Pl.up {e2 : Env} {x : Str} {L q : Addr} {h h' : Heap} (P : Pl e2 x L q h) (k : ∀ b o, b = L ∨ b = q → h.get? b = some o → h'.get? b = some o) : Pl e2 x L q h' :=
  ⟨let ⟨m, e⟩ := P.ns; ⟨m, e.at' fun o e => k _ o (.inl rfl) e⟩, P.at_.imp id fun z => ⟨z.1, z.2.1, let ⟨v, o, e, d⟩ := z.2.2; ⟨v, o, k _ o (.inr rfl) e, d⟩⟩⟩
theorem Pl.live {e2 : Env} {x : Str} {L q b : Addr} {h : Heap} (P : Pl e2 x L q h) (hb : b = L ∨ b = q) : ∃ o, NoTab o ∧ h.get? b = some o := by
  have hL : ∃ o, NoTab o ∧ h.get? L = some o := let ⟨_, e⟩ := P.ns; ns_live e
  rcases hb with rfl | rfl
  · exact hL
  · rcases P.at_ with z | z
    · rw [z.2]; exact hL
    · obtain ⟨v, e⟩ := z.2.2; exact cell_live e
theorem Pl.store {M : Model} {A : Around} {E : Value → Shared → Prop} {s : Shared} {e2 : Env} {x : Str} {L q : Addr} {u : Value} {Q : Unit → Shared → Prop} (P : Pl e2 x L q s.heap) (hl : e2.locals = L) (hk : e2.scope.kind = .function)
    (hQ : ∀ h' tk, Heap.SameBut q s.heap h' → Pl e2 x L q h' → Sees e2 h' x u → Q () { s with heap := h', toks := tk }) : wpAny M A (storeName e2 x u) Q E s := by
  subst hl
  obtain ⟨m, hn⟩ := P.ns
  rcases P.at_ with z | z
  · obtain ⟨z1, rfl⟩ := z
    exact wpAny_storeName_local z1 hn (fun h' hn' hs => hQ h' _ hs ⟨⟨_, hn'⟩, .inl ⟨z1, rfl⟩⟩ (.inl ⟨z1, _, hn', if_pos rfl⟩)) (by rw [hk]; rfl)
  · obtain ⟨z1, z2, v, hc⟩ := z
    exact wpAny_storeName_cell hk z1 z2 hc fun h' hc' hs => hQ h' s.toks hs ⟨⟨m, hn.sameBut hs (ns_ne_cell hn hc)⟩, .inr ⟨z1, z2, _, hc'⟩⟩ (.inr ⟨.inl z1, q, z2, hc'⟩)

theorem cells_other {y : Str} : ∀ {names : List (Str × NameKind)} {k : Nat} {acc : List (Str × Addr)}, (∀ p ∈ names, p.2 = .cell → p.1 ≠ y) → (cellsFrom k names acc).lookup y = acc.lookup y
  | [], _, _, _ => rfl
  | (z, kd) :: r, k, acc, h => by
    have hr : ∀ p ∈ r, p.2 = .cell → p.1 ≠ y := fun p hp => h p (List.mem_cons_of_mem _ hp)
    unfold cellsFrom
    split
    · rename_i hc
      have hz : (y == z) = false := beq_eq_false_iff_ne.mpr (Ne.symm (h _ List.mem_cons_self (beq_iff_eq.mp hc)))
      rw [cells_other hr, List.lookup_cons, hz]
    · exact cells_other hr
theorem cells_at {x : Str} {K : Nat} : ∀ {names : List (Str × NameKind)} {h : Heap} {acc : List (Str × Addr)}, K ≤ h.objs.size → (∀ p ∈ names, p.2 = .cell → p.1 = x) →
    ((∃ c : Addr, acc.lookup x = some c ∧ K ≤ c ∧ h.IsCell c none) ∨ (x, NameKind.cell) ∈ names) → ∃ c : Addr, (cellsFrom h.objs.size names acc).lookup x = some c ∧ K ≤ c ∧ (pushCells h names).IsCell c none
  | [], _, _, _, _, hc => hc.elim id fun q => nomatch q
  | (z, kd) :: r, h, acc, hK, hx, hc => by
    have hr : ∀ p ∈ r, p.2 = .cell → p.1 = x := fun p hp => hx p (List.mem_cons_of_mem _ hp)
    unfold cellsFrom pushCells
    by_cases hk : (kd == NameKind.cell) = true
    · rw [if_pos hk, if_pos hk]
      cases hx _ List.mem_cons_self (beq_iff_eq.mp hk)
      have e := Heap.size_push h { cls := .type "cell", data := .cell none }
      rw [← e]
      exact cells_at (by rw [e]; exact Nat.le_succ_of_le hK) hr (.inl ⟨h.objs.size, by rw [List.lookup_cons, beq_self_eq_true], hK, _, Heap.get?_push_size _ rfl, rfl⟩)
    · rw [if_neg hk, if_neg hk]
      refine cells_at hK hr (hc.imp id fun q => ?_)
      rcases List.mem_cons.mp q with q | q
      · cases q; exact absurd rfl hk
      · exact q

section
variable {prog : Program} {w : World} {mg mb : Str → Option Value} {hB : Heap} {n : Nat} {sc : Scope}

/-- a comprehension's environment -/
noncomputable def envC (sc2 : Scope) (L : Addr) (env : Env) : Env := { compEnvC sc2 (clOf env sc2.names []) L env with cells := cellsFrom (L + 1) sc2.names (clOf env sc2.names []) }
theorem comp_env {M : Model} {A : Around} {E : Value → Shared → Prop} {s : Shared} {sc2 : Scope} {env : Env} {Q : Env → Shared → Prop}
    (h : Q { envC sc2 s.heap.objs.size env with scope := sc2 } { s with heap := pushCells (s.heap.push { cls := .type "dict", data := .dict #[] }) sc2.names }) : wpAny M A (newFunctionEnv sc2 env.globals (clOf env sc2.names []) [] env.qual none .none (some env)) Q E s := by
  simp only [newFunctionEnv, Option.isSome_some, if_true]
  refine wpAny_bind (wpAny_alloc ?_)
  refine wpAny_bind (wpAny_layCells _ (fun name kind cells => by cases hkc : kind == NameKind.cell <;> simp [hkc]) _ _ _ _ ?_)
  refine wpAny_bind (wpAny_pure (wpAny_pure ?_))
  rw [show (s.heap.push { cls := .type "dict", data := .dict #[] }).objs.size = s.heap.objs.size + 1 from Heap.size_push ..]
  exact h

theorem compOk_all {sc sc2 : Scope} {x : Str} (h : compOk sc sc2 x = true) : sc2.kind = .function ∧ slotOf sc2 "stuff" = none ∧ (sc2.names.lookup x = some .local ∨ sc2.names.lookup x = some .cell) ∧ ∀ p ∈ sc2.names, (p.2 = .local → sc2.names.lookup p.1 = some .local) ∧ (p.2 = .free → sc.names.lookup p.1 = some .cell ∨ sc.names.lookup p.1 = some .free) ∧ (p.2 = .cell → p.1 = x) := by
  simp only [compOk, Bool.and_eq_true, Bool.or_eq_true, beq_iff_eq, List.all_eq_true] at h
  refine ⟨h.1.1.1, Option.isNone_iff_eq_none.mp h.1.1.2, h.1.2, fun p hp => ⟨fun q => ?_, fun q => ?_, fun q => ?_⟩⟩ <;> (have := h.2 p hp; rw [q] at this; simpa using this)
theorem compOk_names {sc sc2 : Scope} {x : Str} (h : compOk sc sc2 x = true) : sc2.kind = .function ∧ ∀ p ∈ sc2.names, (p.2 = .local → sc2.names.lookup p.1 = some .local) ∧ (p.2 = .free → sc.names.lookup p.1 = some .cell ∨ sc.names.lookup p.1 = some .free) :=
  let ⟨a, _, _, b⟩ := compOk_all h; ⟨a, fun p hp => ⟨(b p hp).1, (b p hp).2.1⟩⟩

/-- the comprehension's own frame -/
theorem comp_cx {F : PF1} {C : RC} {G : Slots} {O : Owns} {env : Env} {A : Around} {sc2 : Scope} {x : Str} {i : Nat} {p : Addr → Prop} {h h' : Heap} {L : Addr} {v : PV} {u : Value}
    (K : Cx prog w mg mb hB n sc F C G O env A h) (hok : compOk sc sc2 x = true) (hi : slotOf sc2 x = some i) (hk : KN h h') (hp : ∀ b, p b → hsz h ≤ b ∧ ∃ o, NoTab o ∧ h'.get? b = some o)
    (hS : Sees (envC sc2 L env) h' x u) (hr : Rep (C.plus p) h' v u) :
    Cx prog w mg mb hB n sc2 F (C.plus p) ((compG sc sc2 G).set i (some v)) O (envC sc2 L env) A h' := by
  have I := K.I
  obtain ⟨hkind, hstuff, hx, hall⟩ := compOk_all hok
  have S : Sub C (C.plus p) h h' := .plus hk fun b q => (hp b q).1
  have fr : ∀ {y : Str} {c : Addr}, sc2.names.lookup y = some .free → env.cells.lookup y = some c → (envC sc2 L env).cells.lookup y = some c := fun {y c} hy hc => by
    refine (cells_other fun q hq hqc e => ?_).trans (clOf_lookup (lookup_mem hy) hc)
    cases (hall q hq).2.2 hqc
    subst e
    rcases hx with z | z <;> (rw [hy] at z; cases z)
  refine ⟨K.FS, ⟨I.base, hkind, I.glb, I.blt, fun q => ?_, I.top.trans hk, fun y k e => lookup_relabel e, fun y e => ?_, fun y j pv e1 e2 => ?_, fun k vs e => ?_, fun b hb => ?_⟩, K.R⟩
  · rw [hstuff] at q; cases q
  · rcases e with e | e
    · exact Option.isSome_iff_exists.mp (cellsFrom_mem (lookup_mem e))
    · obtain ⟨c, hc⟩ := I.cel y ((hall _ (lookup_mem e)).2.1 rfl)
      exact ⟨c, fr e hc⟩
  · by_cases hj : j = i
    · subst hj
      cases slot_inj e1 hi
      cases set_at rfl e2
      exact ⟨u, hS, hr⟩
    · rw [List.getElem?_set_ne (fun q => hj q.symm)] at e2
      obtain ⟨k, hg, hl, hkk⟩ := slot_get e1
      obtain ⟨rfl, j', h1, h2⟩ := compG_at hg e2
      obtain ⟨u', Se, r⟩ := I.slots y j' pv h1 h2
      refine ⟨u', .inr ⟨?_, ?_⟩, Rep.mono S _ _ r⟩
      · rcases lookup_relabel (env := env) hl with q | ⟨_, q⟩
        · exact .inr q
        · exact .inl q
      · rcases Se with ⟨q, _⟩ | ⟨_, c, hc, hcell⟩
        · rcases (hall _ (lookup_mem hl)).2.1 rfl with hf | hf
          · rcases I.knd y _ hf with q' | ⟨q', _⟩
            · rw [q] at q'; cases q'
            · cases q'
          · rcases I.knd y _ hf with q' | ⟨_, q'⟩
            · rw [q] at q'; cases q'
            · rw [q] at q'; cases q'
        · exact ⟨c, fr hl hc, hk.cell hcell⟩
  · obtain ⟨a, xs, h1, h2, h3⟩ := I.W.own k vs e
    exact ⟨a, xs, h1, hk.plain h2, RepL.mono S _ _ h3⟩
  · rcases hb with hb | hb
    · obtain ⟨o, nt, e⟩ := I.W.lt b hb
      exact ⟨o, nt, hk.nt _ _ nt e⟩
    · exact (hp b hb).2

/-- what a comprehension makes of an item -/
noncomputable def compF (F : PF1) (O : Owns) (G : Slots) (i : Nat) (pe : PE) (cs : PEs) (v : PV) : Option (Option PV) := (pts F O (G.set i (some v)) cs).bind fun t => if t then (ev F O (G.set i (some v)) pe).map some else some none
/-- the loop's state -/
structure CI (St : Nat → Heap → Prop) (e2 : Env) (x : Str) (L q D : Addr) (C2 : RC) (s₁ s' : Shared) (ys : Array Value) (i : Nat) (rs : List PV) : Prop where
  kp : Keeps s₁ s'
  st : St i s'.heap
  pl : Pl e2 x L q s'.heap
  acc : s'.heap.PlainList D ys
  rep : RepL C2 s'.heap rs ys.toList
  le : rs.length ≤ i
/-- the loop's places -/
structure CP (St : Nat → Heap → Prop) (fp : List Addr) (L q D I : Addr) (p : Addr → Prop) (s₁ : Shared) : Prop where
  ile : hsz s₁.heap ≤ I
  ge : ∀ b, p b → hsz s₁.heap ≤ b
  pp : ∀ b, b = I ∨ b = D ∨ b = L ∨ b = q → p b
  iff_ : ∀ b, p b → b = I ∨ b = D ∨ b = L ∨ b = q
  nI : ∀ b, b = D ∨ b = L ∨ b = q → b ≠ I
  nD : ∀ b, b = L ∨ b = q → b ≠ D
  nf : ∀ b ∈ fp, b ≠ D ∧ b ≠ q
  nT : ∀ b ∈ fp, b ≠ PT
  live : ∀ i g, St i g → ∃ o, ItObj o ∧ g.get? I = some o
theorem ex5 {α β γ δ ε : Type} {P : α → β → γ → δ → ε → Prop} {G : Prop} (h : ∃ a b c d e, P a b c d e) (k : ∀ a b c d e, P a b c d e → G) : G := let ⟨a, b, c, d, e, h⟩ := h; k a b c d e h

section
variable {F : PF1} {C : RC} {G : Slots} {O : Owns} {env : Env} {A : Around} {s₁ s' s₃ : Shared} {sc2 : Scope} {x : Str} {i k : Nat} {pe : PE} {cs : PEs} {L q D I : Addr} {p : Addr → Prop} {ys : Array Value} {rs : List PV} {v : PV} {u : Value} {h₂ h₃ : Heap} {tk : Nat} {fp : List Addr} {St : Nat → Heap → Prop}
/-- the next item stored -/
theorem ci_store (c : CP St fp L q D I p s₁) (J : CI St (envC sc2 L env) x L q D (C.plus p) s₁ s' ys k rs) (hk : ∀ b o, b ≠ I → s'.heap.get? b = some o → h₂.get? b = some o) (hs : Heap.SameBut q h₂ h₃) (hpl : Pl (envC sc2 L env) x L q h₃)
    (hst : St (k + 1) h₃) : CI St (envC sc2 L env) x L q D (C.plus p) s₁ { s' with heap := h₃, toks := tk } ys (k + 1) rs where
  kp := ⟨((kheap J.kp).above c.ile hk).above (I := q) (c.ge q (c.pp q (.inr (.inr (.inr rfl))))) fun b o hb e => hs.extBut b o hb e, J.kp.2⟩
  st := hst
  pl := hpl
  acc := J.acc.at fun o e => hs.extBut _ o (fun e => c.nD q (.inr rfl) e.symm) (hk _ o (c.nI D (.inl rfl)) e)
  rep := RepL.mono (Sub.xs fun b o hb e => hs.extBut b o (fun z => hb (xplus (p := p) (c.pp b (.inr (.inr (.inr z)))))) (hk b o (fun z => hb (xplus (p := p) (c.pp b (.inl z)))) e)) _ _ J.rep
  le := Nat.le_succ_of_le J.le
theorem ci_keep (J : CI St (envC sc2 L env) x L q D (C.plus p) s₁ s' ys k rs) (kk : Keeps s' s₃) (hst : St k s₃.heap) : CI St (envC sc2 L env) x L q D (C.plus p) s₁ s₃ ys k rs :=
  ⟨ktrans J.kp kk, hst, J.pl.keep (kheap kk), (kheap kk).plain J.acc, J.rep.keep (kheap kk), J.le⟩
theorem ci_push (c : CP St fp L q D I p s₁) (J : CI St (envC sc2 L env) x L q D (C.plus p) s₁ s' ys (k + 1) rs) (hle : rs.length ≤ k) (hl : h₃.PlainList D (ys.push u)) (hs : Heap.SameBut D s'.heap h₃) (hst : St (k + 1) h₃) (hr : Rep (C.plus p) s'.heap v u) :
    CI St (envC sc2 L env) x L q D (C.plus p) s₁ { s' with heap := h₃ } (ys.push u) (k + 1) (rs ++ [v]) where
  kp := ⟨(kheap J.kp).above (I := D) (c.ge D (c.pp D (.inr (.inl rfl)))) fun b o hb e => hs.extBut b o hb e, J.kp.2⟩
  st := hst
  pl := J.pl.up fun b o hb e => hs.extBut b o (c.nD b hb) e
  acc := hl
  rep := by
    have S6 : ∀ b o, ¬ (C.plus p).X b → s'.heap.get? b = some o → h₃.get? b = some o := fun b o hb e => hs.extBut b o (fun z => hb (xplus (p := p) (c.pp b (.inr (.inl z))))) e
    rw [Array.toList_push]
    exact (RepL.mono (Sub.xs S6) _ _ J.rep).append (RepL.one (Rep.mono (Sub.xs S6) _ _ hr))
  le := by rw [List.length_append]; exact Nat.succ_le_succ hle
theorem ci_live (c : CP St fp L q D I p s₁) (J : CI St (envC sc2 L env) x L q D (C.plus p) s₁ s' ys k rs) (b : Addr) (hb : p b) : hsz s₁.heap ≤ b ∧ ∃ o, NoTab o ∧ s'.heap.get? b = some o := by
  refine ⟨c.ge b hb, ?_⟩
  rcases c.iff_ b hb with rfl | rfl | hb
  · obtain ⟨o, ho, e⟩ := c.live _ _ J.st; exact ⟨o, ho.noTab, e⟩
  · exact list_live J.acc
  · exact J.pl.live hb

theorem comp_turn {E : Value → Shared → Prop} {elt : Expr} {ifs : List Expr} {rr r : List PV} {INV : Nat → Shared → Prop} (c : CP St fp L q D I p s₁) (K : Cx prog w mg mb hB n sc F C G O env A s₁.heap) (hok : compOk sc sc2 x = true) (hi : slotOf sc2 x = some i) (he : ES prog w mg mb hB n sc2 elt pe) (hc : CS prog w mg mb hB n sc2 ifs cs)
    (fr : ∀ i (h h' : Heap), St i h → (∀ b ∈ fp, ∀ o, h.get? b = some o → h'.get? b = some o) → St i h') (J : CI St (envC sc2 L env) x L q D (C.plus p) s₁ s' ys (k + 1) rs) (hle : rs.length ≤ k) (hS : Sees (envC sc2 L env) s'.heap x u) (rv : Rep (C.plus p) s'.heap v u) (hsz : k ≤ sizeLine)
    (hmap : mapO (compF F O (compG sc sc2 G) i pe cs) (v :: r) = some rr)
    (hI : ∀ s₄ ys' rs' rr', CI St (envC sc2 L env) x L q D (C.plus p) s₁ s₄ ys' (k + 1) rs' → mapO (compF F O (compG sc sc2 G) i pe cs) r = some rr' → rs ++ rr = rs' ++ rr' → INV r.length s₄) :
    wpAny (model prog w) A (forIn ifs true fun c r => if r = true then do let ok ← isTrue c (envC sc2 L env) (eval c (envC sc2 L env)); pure (ForInStep.yield ok) else pure (ForInStep.yield r)) (fun ok s₃ =>
      if ok = true then wpAny (model prog w) A (eval elt (envC sc2 L env)) (fun x s₄ => wpAny (model prog w) A (call (.builtin "list.append") [.ref D, x]) (fun _ s₅ => ∃ m, m < r.length + 1 ∧ INV m s₅) E s₄) E s₃
      else ∃ m, m < r.length + 1 ∧ INV m s₃) E s' := by
  have K3 := comp_cx K hok hi (kheap J.kp) (ci_live c J) hS rv
  have framed : ∀ {a b : Shared}, Keeps a b → St (k + 1) a.heap → KN s₁.heap a.heap → St (k + 1) b.heap := fun kk h _ => fr _ _ _ h fun b hb o e => (kheap kk).pt b o (c.nT b hb) e
  obtain ⟨o, h1, hmap⟩ := Option.bind_eq_some_iff.mp hmap
  obtain ⟨t, ht, h1⟩ := Option.bind_eq_some_iff.mp h1
  refine seqE (hc K3 ht) fun t' s₄ q4 => ?_
  obtain ⟨k4, rfl⟩ := q4
  have J4 := ci_keep J k4 (framed k4 J.st (kheap J.kp))
  cases t' with
  | false =>
    cases h1
    exact ⟨r.length, Nat.lt_succ_self _, hI s₄ ys rs rr J4 hmap rfl⟩
  | true =>
    obtain ⟨y, hev, rfl⟩ := Option.map_eq_some_iff.mp h1
    obtain ⟨rr', hmap', rfl⟩ := Option.map_eq_some_iff.mp hmap
    refine seqE (he (K3.keep k4) hev) fun uy s₅ q5 => ?_
    have J5 := ci_keep J4 q5.1 (framed q5.1 J4.st (kheap J4.kp))
    have hys : ys.size ≤ sizeLine := by
      have e1 := J5.rep.length
      rw [Array.length_toList] at e1
      rw [e1]; exact Nat.le_trans hle hsz
    refine wpAny_list_append_plain (hsz := hys) J5.acc fun h₆ hl₆ hs₆ => ?_
    exact ⟨r.length, Nat.lt_succ_self _, hI _ _ (rs ++ [y]) rr' (ci_push c J5 hle hl₆ hs₆ (fr _ _ _ J5.st fun b hb o e => hs₆.extBut b o (c.nf b hb).1 e) q5.2) hmap' (by rw [List.append_assoc]; rfl)⟩
end

theorem comp_loop {F : PF1} {C : RC} {G : Slots} {O : Owns} {env : Env} {A : Around} {s₁ s₃ : Shared} {elt iter : Expr} {x : Str} {px : Pos} {ifs : List Expr} {sc2 : Scope} {pos : Pos} {i : Nat} {pe : PE} {cs : PEs} {L q D I : Addr} {p : Addr → Prop} {fp : List Addr} {St : Nat → Heap → Prop} {P : Nat → Value → Prop}
    {its res : List PV} {R : Result → Shared → Prop} (c : CP St fp L q D I p s₁)
    (K : Cx prog w mg mb hB n sc F C G O env A s₁.heap) (hok : compOk sc sc2 x = true) (hi : slotOf sc2 x = some i) (he : ES prog w mg mb hB n sc2 elt pe) (hc : CS prog w mg mb hB n sc2 ifs cs)
    (W : Walks prog w A I fp [I] its.length P St) (hP : ∀ i v, P i v → ∃ pv, its[i]? = some pv ∧ Rep C s₁.heap pv v) (hlen : its.length ≤ sizeLine)
    (hres : mapO (compF F O (compG sc sc2 G) i pe cs) its = some res) (J : CI St (envC sc2 L env) x L q D (C.plus p) s₁ s₃ #[] 0 [])
    (hRR : ∀ s', Keeps s₁ s' → (∃ m, s'.heap.Ns L m) → Rep (C.plus (· = L)) s'.heap (.list res) (.ref D) → R (.ok .next) s') :
    codeAny (model prog w) A (.compLoop (.ListComp elt [⟨.Name x px, iter, ifs, 0⟩] sc2 pos) 0 (.ref I) (.ref D) (envC sc2 L env)) R s₃ := by
  have hkind : (envC sc2 L env).scope.kind = .function := (compOk_all hok).1
  refine codeAny_compLoop_tests (fun m s' => ∃ ys, ∃ pre rest rs rr : List PV, CI St (envC sc2 L env) x L q D (C.plus p) s₁ s' ys pre.length rs ∧ its = pre ++ rest ∧ mapO (compF F O (compG sc sc2 G) i pe cs) rest = some rr ∧ res = rs ++ rr ∧ m = rest.length) ?_ its.length
    ⟨#[], [], its, [], res, J, rfl, hres, rfl, rfl⟩
  intro m s' hI
  refine ex5 hI fun ys pre rest rs rr hI => ?_
  have J := hI.1
  have hits := hI.2.1
  have hmap := hI.2.2.1
  have hres' := hI.2.2.2.1
  have hm := hI.2.2.2.2
  clear hI
  subst hm
  cases rest with
  | nil =>
    cases hmap
    rw [List.append_nil] at hits hres'
    subst hits; subst hres'
    refine W.done _ _ _ J.st fun h₂ tk₂ hk₂ => ?_
    have hk : ∀ b o, b ≠ I → s'.heap.get? b = some o → h₂.get? b = some o := fun b o hb e => hk₂ b o (by simpa using hb) e
    have hpl := J.pl.up fun b o hb e => hk b o (c.nI b (.inr hb)) e
    refine hRR _ ?_ hpl.ns ?_
    · exact ⟨(kheap J.kp).above c.ile hk, J.kp.2⟩
    · refine rep_list (xs := ys.toList) ?_ (J.acc.at fun o e => hk _ o (c.nI D (.inl rfl)) e) ?_
      · rintro (z | z)
        · obtain ⟨o, _, e⟩ := K.I.W.lt _ z
          exact Nat.lt_irrefl _ (Nat.lt_of_lt_of_le (hsz_lt e) (c.ge D (c.pp D (.inr (.inl rfl)))))
        · exact c.nD L (.inl rfl) z.symm
      · exact RepL.wide (C := C.plus (· = L)) (C' := C.plus p) (fun b z => z.imp id fun z => c.pp b (.inr (.inr (.inl z)))) rfl rfl _ _
          (RepL.mono (Sub.xs fun b o hb e => hk b o (fun z => hb (xplus (p := p) (c.pp b (.inl z)))) e) _ _ J.rep)
  | cons v r =>
    have hlt : pre.length < its.length := by rw [hits, List.length_append]; exact Nat.lt_add_of_pos_right (Nat.succ_pos _)
    refine W.item pre.length _ _ _ hlt J.st fun u h₂ tk₂ hPv hst₂ hk₂ => ?_
    have hk : ∀ b o, b ≠ I → s'.heap.get? b = some o → h₂.get? b = some o := fun b o hb e => hk₂ b o (by simpa using hb) e
    refine wpAny_assign_Name (Pl.store (s := { s' with heap := h₂, toks := tk₂ }) (J.pl.up fun b o hb e => hk b o (c.nI b (.inr hb)) e) rfl hkind fun h₃ tk₃ hs₃ hpl₃ hS => ?_)
    have hst₃ : St (pre.length + 1) h₃ := W.frame _ _ _ hst₂ fun b hb o e => hs₃.extBut b o (c.nf b hb).2 e
    have J3 := ci_store (tk := tk₃) c J hk hs₃ hpl₃ hst₃
    obtain ⟨pv, e1, rv⟩ := hP pre.length u hPv
    have hv : its[pre.length]? = some v := by rw [hits, List.getElem?_append_right (Nat.le_refl _), Nat.sub_self]; rfl
    rw [hv] at e1; cases e1
    refine comp_turn (INV := fun m s' => ∃ ys, ∃ pre rest rs rr : List PV, CI St (envC sc2 L env) x L q D (C.plus p) s₁ s' ys pre.length rs ∧ its = pre ++ rest ∧ mapO (compF F O (compG sc sc2 G) i pe cs) rest = some rr ∧ res = rs ++ rr ∧ m = rest.length)
      c K hok hi he hc (fun i h h' => W.frame i h h') J3 J.le hS (Rep.mono (Sub.plus (kheap J3.kp) c.ge) _ _ rv) (Nat.le_of_lt (Nat.lt_of_lt_of_le hlt hlen)) hmap fun s₄ ys' rs' rr' J4 h4 h5 => ?_
    exact ⟨ys', pre ++ [v], r, rs', rr', by rw [List.length_append]; exact J4, by rw [hits, List.append_assoc]; rfl, h4, hres'.trans h5, rfl⟩

theorem comp_block {F : PF1} {C : RC} {G : Slots} {O : Owns} {env : Env} {A : Around} {s₁ s₂ : Shared} {elt iter : Expr} {x : Str} {px : Pos} {ifs : List Expr} {sc2 : Scope} {pos : Pos} {it : Value} {i : Nat} {pe : PE} {cs : PEs}
    {its res : List PV} {E : Value → Shared → Prop} {RR : Value → Addr → Result → Shared → Prop}
    (K : Cx prog w mg mb hB n sc F C G O env A s₁.heap) (hok : compOk sc sc2 x = true) (hi : slotOf sc2 x = some i) (he : ES prog w mg mb hB n sc2 elt pe) (hc : CS prog w mg mb hB n sc2 ifs cs)
    (hit : ItPost prog w C O its s₁ it s₂) (hlen : its.length ≤ 2 * LIM + 1)
    (hres : mapO (compF F O (compG sc sc2 G) i pe cs) its = some res)
    (hRR : ∀ D L s' m', Keeps s₁ s' → hsz s₁.heap ≤ L → s'.heap.Ns L m' → Rep (C.plus (· = L)) s'.heap (.list res) (.ref D) → RR (.ref D) L (.ok .next) s') :
    wpAny (model prog w) A (newList []) (fun acc s₃ => wpAny (model prog w) A (newFunctionEnv sc2 env.globals (clOf env sc2.names []) [] env.qual none .none (some env)) (fun cenv s₄ =>
      codeAny (model prog w) A (.compStart (.ListComp elt [⟨.Name x px, iter, ifs, 0⟩] sc2 pos) 0 it acc { cenv with scope := relabel sc2 env }) (RR acc cenv.locals) s₄) E s₃) E s₂ := by
  obtain ⟨tk₂, hs₂, o, fp, P, St, rfl, hh₂, hnt, hW, hst, hlive, hfp, hP⟩ := hit
  obtain ⟨hkind, hstuff, hx, hall⟩ := compOk_all hok
  have W := hW A K.R.handled
  obtain ⟨ps0, hpt0⟩ := KN.tabLive K.I.top (K.I.base.pt.choose_spec.1)
  have hIle := hsz_size s₁.heap
  generalize hI : s₁.heap.objs.size = I at *
  have hD : s₂.heap.objs.size = I + 1 := by rw [hh₂, Heap.size_push, hI]
  refine wpAny_newObj_type (comp_env ?_)
  dsimp only
  generalize hH2 : s₂.heap.push { cls := .type "list", dict := none, data := .seq ([] : List Value).toArray } = H2
  have hL : H2.objs.size = I + 2 := by rw [← hH2, Heap.size_push, hD]
  rw [hD, hL]
  generalize hH3 : H2.push { cls := .type "dict", data := .dict #[] } = H3
  have h3s : H3.objs.size = I + 2 + 1 := by rw [← hH3, Heap.size_push, hL]
  have old : ∀ b o, s₂.heap.get? b = some o → (pushCells H3 sc2.names).get? b = some o := fun b o e => pushCells_keeps _ _ b o (by rw [← hH3, ← hH2]; exact Heap.get?_push_of_some _ (Heap.get?_push_of_some _ e))
  have hk2 : KN s₁.heap s₂.heap := by rw [hh₂]; exact .push _ _
  have hns : (pushCells H3 sc2.names).Ns (I + 2) fun _ => none := by
    have := (Heap.Ns.new H2 (.type "dict")).keeps (pushCells_keeps sc2.names _)
    rw [hL, hH3] at this; exact this
  have hacc : (pushCells H3 sc2.names).PlainList (I + 1) #[] := by
    have e : H2.get? (I + 1) = some { cls := .type "list", dict := none, data := .seq ([] : List Value).toArray } := by
      rw [← hH2, ← hD]
      exact Heap.get?_push_size _ rfl
    exact ⟨_, pushCells_keeps _ _ _ _ (by rw [← hH3]; exact Heap.get?_push_of_some _ e)⟩
  have hq : ∃ q : Addr, (I + 2 : Nat) ≤ q ∧ Pl (envC sc2 (I + 2) env) x (I + 2) q (pushCells H3 sc2.names) := by
    rcases hx with z | z
    · refine ⟨I + 2, Nat.le_refl _, ⟨_, hns⟩, .inl ⟨?_, rfl⟩⟩
      exact lookup_relabel_local z
    · have hkn : (envC sc2 (I + 2) env).kindOf x = some .cell := by
        rcases lookup_relabel (env := env) z with q | ⟨q, _⟩
        · exact q
        · cases q
      obtain ⟨c, c1, c2, c3⟩ := cells_at (K := I + 2 + 1) (h := H3) (acc := clOf env sc2.names []) (Nat.le_of_eq h3s.symm) (fun p hp => (hall p hp).2.2) (.inr (lookup_mem z))
      rw [h3s] at c1
      exact ⟨c, Nat.le_of_succ_le c2, ⟨_, hns⟩, .inr ⟨hkn, c1, _, c3⟩⟩
  obtain ⟨q, hq, hpl⟩ := hq
  have hfpI : ∀ b ∈ fp, (b : Nat) ≤ I := fun b hb => by
    rcases hfp b hb with z | ⟨⟨o, _, e⟩, _⟩
    · rw [z]; exact Nat.le_refl _
    · have := Heap.lt_size e
      rw [hI] at this
      exact Nat.le_of_lt this
  have c : CP St fp (I + 2) q (I + 1) I (fun b => b = I ∨ b = I + 1 ∨ b = I + 2 ∨ b = q) s₁ :=
    ⟨hIle, fun b z => z.elim (fun z => z ▸ hIle) fun z => z.elim (fun z => z ▸ Nat.le_trans hIle (Nat.le_succ I)) fun z => z.elim (fun z => z ▸ Nat.le_trans hIle (Nat.le_add_right I 2)) fun z => z ▸ Nat.le_trans hIle (Nat.le_trans (Nat.le_add_right I 2) hq), fun b z => z, fun b z => z,
      fun b z => z.elim (fun z => z ▸ (n01 I).symm) fun z => z.elim (fun z => z ▸ (n02 I).symm) fun z => z ▸ (addr_ne (Nat.lt_of_lt_of_le (Nat.lt_add_of_pos_right (by decide)) hq)).symm,
      fun b z => z.elim (fun z => z ▸ (n12 I).symm) fun z => z ▸ (addr_ne (Nat.lt_of_lt_of_le (Nat.lt_succ_self (I + 1)) hq)).symm,
      fun b hb => ⟨addr_ne (Nat.lt_succ_of_le (hfpI b hb)), addr_ne (Nat.lt_of_le_of_lt (hfpI b hb) (Nat.lt_of_lt_of_le (Nat.lt_add_of_pos_right (by decide)) hq))⟩, fun b hb z => by
        subst z
        rcases hfp _ hb with z | ⟨⟨o, nt, e⟩, _⟩
        · have := Heap.lt_size hpt0; rw [hI, z] at this; exact Nat.lt_irrefl _ this
        · rw [hpt0] at e; cases e; exact nt _ rfl, hlive⟩
  have hst₁ : St 0 (pushCells H3 sc2.names) := W.frame _ _ _ hst fun b _ o e => old b o e
  have hlen2 : its.length ≤ sizeLine := Nat.le_trans hlen (by rw [sizeLine_eq]; decide)
  have loop := comp_loop (iter := iter) (px := px) (pos := pos) (R := RR (.ref (I + 1)) (I + 2)) (s₃ := { s₂ with heap := pushCells H3 sc2.names }) c K hok hi he hc W hP hlen2 hres
    ⟨by rw [hs₂]; exact ⟨hk2.trans (.of old), rfl, id⟩, hst₁, hpl, hacc, rfl, Nat.le_refl _⟩ fun s' k e r => let ⟨m, e⟩ := e; hRR _ _ s' m k (Nat.le_trans hIle (Nat.le_add_right I 2)) e r
  exact codeAny_compStart_list loop (W.self 0 _ _ _ hst₁ loop)
end
end Mine

namespace Mine
open StrLaws

section
variable {prog : Program} {w : World} {mg mb : Str → Option Value} {hB : Heap} {n : Nat} {sc : Scope}

theorem not_t {a : Bool} (h : (!a) = true) : a = false := by
  cases a
  · rfl
  · cases h
theorem noT {e : Expr} {pe : PE} (h : ∀ F O G, pt F O G pe = none) : TS prog w mg mb hB n sc e pe := by
  intro F C G O env A s b K hv
  rw [h] at hv; cases hv

theorem fold_none {iter : Expr} {env : Env} (h : noSet iter = true) : ∀ x, foldedSetIterable iter env x = pure x := by
  intro x
  cases iter <;> first | rfl | exact Bool.noConfusion h
theorem behind_none {o : CmpOp} {r : Expr} (h : noSet r = true) : behindInMarks o r = false := by
  cases r <;> first | rfl | exact Bool.noConfusion h

theorem comp_closure {F : PF1} {C : RC} {G : Slots} {O : Owns} {env : Env} {A : Around} {h : Heap} {sc2 : Scope} {x : Str} (K : Cx prog w mg mb hB n sc F C G O env A h) (hok : compOk sc sc2 x = true) :
    closureFor sc2 env = pure (clOf env sc2.names []) :=
  closure_ok fun p hp hf => K.I.cel p.1 (((compOk_names hok).2 p hp).2 hf)

theorem comp_okE {elt iter : Expr} {x : Str} {px : Pos} {ifs : List Expr} {sc2 : Scope} {pos : Pos} {i : Nat} {pe : PE} {pit : PIt} {cs : PEs}
    (hok : compOk sc sc2 x = true) (hns : noSet iter = true) (hi : slotOf sc2 x = some i) (hit : IS prog w mg mb hB n sc iter pit) (he : ES prog w mg mb hB n sc2 elt pe) (hc : CS prog w mg mb hB n sc2 ifs cs) :
    ES prog w mg mb hB n sc (.ListComp elt [⟨.Name x px, iter, ifs, 0⟩] sc2 pos) (.comp pe i pit cs (cFr sc sc2)) := by
  intro F C G O env A s pv K hv
  obtain ⟨its, e1, hv⟩ := Option.bind_eq_some_iff.mp hv
  obtain ⟨res, e2, rfl⟩ := Option.map_eq_some_iff.mp hv
  obtain ⟨hlen, hw⟩ := hit O K (.inl ⟨rfl, e1⟩)
  have hn := compOk_names hok
  rw [eval_ListComp]
  refine wpAny_comprehension_free (use := none) (E := noE) rfl (fold_none hns) (comp_closure K hok) hn.1 (fun p hp => (hn.2 p hp).1) ?_
  refine seqE hw fun xv s₁ ⟨k1, hpi⟩ => seqE (hpi A) fun it s₂ hitp => ?_
  refine comp_block (K.keep k1) hok hi he hc hitp hlen e2 ?_
  intro D L s' m' k2 hL hnL hr
  refine ⟨m', hnL, fun h' hs' => ?_⟩
  have hup : ∀ b o, b ≠ L → s'.heap.get? b = some o → h'.get? b = some o := fun b o hb e => hs'.extBut b o hb e
  refine ⟨?_, ?_⟩
  · exact ktrans k1 ⟨(kheap k2).above hL hup, k2.2⟩
  · exact RC.plus_wide (p := (· = L)) (Rep.mono (Sub.xs fun b o hb e => hup b o (fun q => hb (xplus (p := (· = L)) q)) e) _ _ hr)

/-- the one regular expression's sub -/
noncomputable def ResubOk (prog : Program) (w : World) (mg mb : Str → Option Value) (hB : Heap) : Prop :=
  ∀ (n : Nat) (sc : Scope) (ps : Arguments) (body e : Expr) (lsc : Scope) (rp ap lp p : Pos) (pe : PE), isGl sc "_twin_re_1" = true → (slotOf sc "stuff").isSome = true → lamOk ps lsc = true → (ap.endLine == p.line) = true → NoStars [e] = true → ES prog w mg mb hB n sc e pe →
    ES prog w mg mb hB n sc (.Call (.Attribute (.Name "_twin_re_1" rp) "sub" ap) [.Lambda ps body lsc lp, e] [] p) (.resub pe)

noncomputable def SpecOk (prog : Program) (w : World) (hB : Heap) : Prop :=
  ∀ (n : Nat) (C : RC) (A : Around) (s : Shared) (x : Str) (t : Tok) (c : Nat), KN hB s.heap → Room n A → x.cps.toList = [c] → wpAny (model prog w) A (call (.builtin "str.translate") [.str x t, .ref spA]) (Post C s (.str (pesc c))) noE s
/-- x.replace(a, b).replace(c, d) -/
noncomputable abbrev repE (x : Str) (z : (Pos × Pos × (Str × Nat × Pos) × (Str × Nat × Pos) × Pos) × (Pos × (Str × Nat × Pos) × (Str × Nat × Pos) × Pos)) : Expr :=
  .Call (.Attribute (.Call (.Attribute (.Name x z.1.1) "replace" z.1.2.1) [.Constant (.str z.1.2.2.1.1) z.1.2.2.1.2.1 z.1.2.2.1.2.2, .Constant (.str z.1.2.2.2.1.1) z.1.2.2.2.1.2.1 z.1.2.2.2.1.2.2] [] z.1.2.2.2.2) "replace" z.2.1)
      [.Constant (.str z.2.2.1.1) z.2.2.1.2.1 z.2.2.1.2.2, .Constant (.str z.2.2.2.1.1) z.2.2.2.1.2.1 z.2.2.2.1.2.2] [] z.2.2.2.2
noncomputable def GjoinOk (prog : Program) (w : World) (mg mb : Str → Option Value) (hB : Heap) : Prop :=
  ∀ (n : Nat) (sc sc2 : Scope) (o iter : Expr) (ifs : List Expr) (x : Str) (px ap gp p : Pos) (sep : PE) (pit : PIt) (z : (Pos × Pos × (Str × Nat × Pos) × (Str × Nat × Pos) × Pos) × (Pos × (Str × Nat × Pos) × (Str × Nat × Pos) × Pos)), genCond sc sc2 o iter ifs x ap p = true →
    (z.1.2.1.endLine == z.1.2.2.2.2.line && z.2.1.endLine == z.2.2.2.2.line) = true → ES prog w mg mb hB n sc o sep → IS prog w mg mb hB n sc iter pit →
    ES prog w mg mb hB n sc (.Call (.Attribute o "join" ap) [.GeneratorExp (repE x z) [⟨.Name x px, iter, ifs, 0⟩] sc2 gp] [] p) (.gjoin sep pit z.1.2.2.1.1.cps.toList z.1.2.2.2.1.1.cps.toList z.2.2.1.1.cps.toList z.2.2.2.1.1.cps.toList)
structure Prims (prog : Program) (w : World) (mg mb : Str → Option Value) (hB : Heap) : Prop where
  resub : ResubOk prog w mg mb hB
  spec : SpecOk prog w hB
  gjoin : GjoinOk prog w mg mb hB

theorem isstr_okE {f y : Str} {fp yp pos : Pos} {e : Expr} {p : PE} (he : ES prog w mg mb hB n sc e p) (hI : (f == "isinstance" && (y == "str" && (isGl sc "isinstance" && (isGl sc "str" && NoStars [e])))) = true) : ES prog w mg mb hB n sc (.Call (.Name f fp) [e, .Name y yp] [] pos) (.isstr p) := by
  obtain ⟨h1, hI⟩ := and_t hI
  obtain ⟨h2, hI⟩ := and_t hI
  obtain ⟨hg1, hI⟩ := and_t hI
  obtain ⟨hg2, hn⟩ := and_t hI
  cases beq_iff_eq.mp h1
  cases beq_iff_eq.mp h2
  intro F C G O env A s pv K h
  obtain ⟨v, e1, h⟩ := Option.bind_eq_some_iff.mp h
  obtain ⟨l, e2, rfl⟩ := Option.map_eq_some_iff.mp h
  have hb1 := K.I.base.bis ("isinstance", .builtin "isinstance") (by decide)
  have hb2 := K.I.base.bis ("str", .type "str") (by decide)
  refine Call_Name (backTo_of (Bool.and_eq_true_iff.mpr ⟨(and_t hn).1, rfl⟩)) (glob_load (v := .builtin "isinstance") K hg1 (by decide) (.inr hb1) ?_)
  refine Calls.callWith_builtin (id := "isinstance") any_of (evalArgs_of ?_)
  refine Calls.spliced_cons (seqE (he K e1) fun u s1 q => ?_)
  obtain ⟨x, t, rfl, _⟩ := rep_asS e2 q.2
  refine Calls.spliced_cons (glob_load (v := .type "str") (K.keep q.1) hg2 (by decide) (.inr hb2) ?_)
  refine Calls.spliced_nil ?_
  exact IsiPair.str_str ⟨q.1, rep_bool⟩
theorem isstr_okT {f y : Str} {fp yp pos : Pos} {e : Expr} {p : PE} (he : ES prog w mg mb hB n sc (.Call (.Name f fp) [e, .Name y yp] [] pos) (.isstr p)) : TS prog w mg mb hB n sc (.Call (.Name f fp) [e, .Name y yp] [] pos) (.isstr p) := by
  intro F C G O env A s b K h
  refine plain_okT he (fun _ _ => rfl) K ?_
  obtain ⟨v, e1, h⟩ := Option.bind_eq_some_iff.mp h
  obtain ⟨l, e2, rfl⟩ := Option.map_eq_some_iff.mp h
  exact Option.bind_eq_some_iff.mpr ⟨.bool true, Option.bind_eq_some_iff.mpr ⟨v, e1, Option.map_eq_some_iff.mpr ⟨l, e2, rfl⟩⟩, rfl⟩
theorem spec_okE (hp : Prims prog w mg mb hB) {o : Expr} {x y : Str} {ap yp pos : Pos} {p : PE} (ho : ES prog w mg mb hB n sc o p) (hb : noSuper o = true) (hl : (ap.endLine == pos.line) = true) (hI : (x == "translate" && (y == "_special_chars_map" && isGl sc "_special_chars_map")) = true) :
    ES prog w mg mb hB n sc (.Call (.Attribute o x ap) [.Name y yp] [] pos) (.spec p) := by
  obtain ⟨h1, hI⟩ := and_t hI
  obtain ⟨h2, hg⟩ := and_t hI
  cases beq_iff_eq.mp h1
  cases beq_iff_eq.mp h2
  intro F C G O env A s pv K h
  obtain ⟨v, e1, h⟩ := Option.bind_eq_some_iff.mp h
  obtain ⟨l, e2, h⟩ := Option.bind_eq_some_iff.mp h
  have hc : ∃ c, l = [c] ∧ pv = .str (pesc c) := by
    cases l with
    | nil => cases h
    | cons c r =>
      cases r with
      | nil => cases h; exact ⟨c, rfl, rfl⟩
      | cons _ _ => cases h
  obtain ⟨c, rfl, rfl⟩ := hc
  refine wpAny_Call_method_lateS (base_plain hb) (by rfl) hl (seqE (ho K e1) fun u s1 q => ?_)
  obtain ⟨z, t, rfl, hz⟩ := rep_asS e2 q.2
  refine ⟨"str", _, PySem.F.plainAttrs_str, PySem.F.slot_str_translate, PySem.F.type_str_translate, typeIs_str _ _ _, nofun, ?_⟩
  rw [backTo_of rfl]
  refine Calls.callWith_builtin any_of (evalArgs_of (Calls.spliced_cons (glob_load (v := .ref spA) (K.keep q.1) hg (by decide) (.inl K.I.base.sp) (Calls.spliced_nil ?_))))
  exact seqE (hp.spec n C A s1 z t c (K.keep q.1).I.top K.R hz) fun z s2 q2 => ⟨ktrans q.1 q2.1, q2.2⟩

theorem cE_noSet : ∀ {k : Nat} {e : Expr} {pe : PE}, cE k sc e = some pe → noSet e = true := by
  intro k e pe h
  cases e <;> first | rfl | (cases k <;> cases h; done)

noncomputable def Snd (prog : Program) (w : World) (mg mb : Str → Option Value) (hB : Heap) (n k : Nat) : Prop := ∀ (sc : Scope) (e : Expr) (pe : PE), cE k sc e = some pe → ES prog w mg mb hB n sc e pe ∧ TS prog w mg mb hB n sc e pe

theorem cEs_snd {k : Nat} (S : Snd prog w mg mb hB n k) : ∀ {es : List Expr} {pes : PEs}, cEs (cE k sc) es = some pes → SS prog w mg mb hB n sc es pes ∧ CS prog w mg mb hB n sc es pes
  | [], pes, h => by cases h; exact ⟨ss_nil, cs_nil⟩
  | e :: r, pes, h => by
    obtain ⟨pe, e1, h⟩ := Option.bind_eq_some_iff.mp h
    obtain ⟨pr, e2, rfl⟩ := Option.map_eq_some_iff.mp h
    have h1 := S sc e pe e1
    have h2 := cEs_snd S e2
    exact ⟨ss_cons h1.1 h2.1, cs_cons h1.2 h2.2⟩

noncomputable abbrev Both (prog : Program) (w : World) (mg mb : Str → Option Value) (hB : Heap) (n : Nat) (sc : Scope) (e : Expr) (pe : PE) : Prop := ES prog w mg mb hB n sc e pe ∧ TS prog w mg mb hB n sc e pe

theorem js_const2 {c : Str} {k : Nat} {pos : Pos} {e : Expr} {es : List Expr} {pes : PEs} (he : e = .Constant (.str c) k pos) (ht : JS prog w mg mb hB n sc es pes) : JS prog w mg mb hB n sc (e :: es) (.cons (.cs c.cps.toList) pes) := by
  subst he; exact js_const ht
theorem neg2 {i : Int} {k : Nat} {pos p : Pos} {a : Expr} (he : a = .Constant (.int i) k pos) : Both prog w mg mb hB n sc (.UnaryOp .USub a p) (.ci (-i)) := by
  subst he; exact ⟨neg_ok, noT fun _ _ _ => rfl⟩
theorem cmp3 {k : Nat} {a b : Expr} {pa pb : PE} {op : CmpOp} {ops : List CmpOp} {bs : List Expr} {p : Pos} (h1 : ops = [op]) (h2 : bs = [b]) (e2 : cE k sc b = some pb) (ha : ES prog w mg mb hB n sc a pa) (hb : ES prog w mg mb hB n sc b pb) : Both prog w mg mb hB n sc (.Compare a ops bs p) (.cmp (cCmp op) pa pb) := by
  subst h1; subst h2; exact ⟨cmp_okE ha hb (behind_none (cE_noSet e2)), cmp_okT ha hb (behind_none (cE_noSet e2))⟩
theorem cFs_snd {k : Nat} (S : Snd prog w mg mb hB n k) (es : List Expr) : ∀ {pes : PEs}, cFs (cE k sc) es = some pes → JS prog w mg mb hB n sc es pes := by
  induction es with
  | nil => intro pes h; cases h; exact js_nil
  | cons e r ih =>
    intro pes h
    unfold cFs at h
    cases hf : vFV e with
    | some z =>
      rw [hf] at h
      obtain ⟨pe, e1, h⟩ := Option.bind_eq_some_iff.mp h
      obtain ⟨pr, e2, rfl⟩ := Option.map_eq_some_iff.mp h
      rw [z.2]
      exact js_field (S _ _ pe e1).1 (ih e2)
    | none =>
      rw [hf] at h
      obtain ⟨z, _, h⟩ := Option.bind_eq_some_iff.mp h
      obtain ⟨pr, e2, rfl⟩ := Option.map_eq_some_iff.mp h
      exact js_const2 z.2 (ih e2)

theorem cO_snd {k : Nat} (S : Snd prog w mg mb hB n k) {e : Option Expr} {pe : PE} (h : cO (cE k sc) e = some pe) : OS prog w mg mb hB n sc e pe := by
  cases e with
  | none => cases h; exact os_none
  | some e => exact os_some (S sc e pe h).1

theorem cI_snd {k : Nat} (S : Snd prog w mg mb hB n k) {e : Expr} {pit : PIt} (h : cI sc (cE k sc) e = some pit) : IS prog w mg mb hB n sc e pit := by
  unfold cI at h
  cases hr : rngOf sc e with
  | none =>
    rw [hr] at h
    obtain ⟨pa, e1, rfl⟩ := Option.map_eq_some_iff.mp h
    exact is_val (S sc _ pa e1).1
  | some z =>
    rw [hr] at h
    obtain ⟨ps, e1, rfl⟩ := Option.map_eq_some_iff.mp h
    rw [z.2.1]
    exact is_rng (cEs_snd S e1).1 z.2.2

theorem cConst_snd {c : Const} {k : Nat} {p : Pos} {pe : PE} (h : cConst c = some pe) : Both prog w mg mb hB n sc (.Constant c k p) pe := by
  refine ⟨const_ok h, ?_⟩
  cases c with
  | bool b => cases h; exact true_okT
  | none => cases h; exact noT fun _ _ _ => rfl
  | int i => cases h; exact noT fun _ _ _ => rfl
  | str s => cases h; exact noT fun _ _ _ => rfl
  | _ => exact nn h
theorem or2_snd {a b : Expr} {pa pb : PE} {p : Pos} (ha : Both prog w mg mb hB n sc a pa) (hb : Both prog w mg mb hB n sc b pb) : Both prog w mg mb hB n sc (.BoolOp .Or [a, b] p) (.or2 pa pb) :=
  ⟨or_okE (rest := [_]) ha.1 (fun K hv => hb.1 K hv) fun _ => ⟨_, _, rfl⟩, or_okT ha.2 fun K hv => allOr_one hb.2 K hv⟩
theorem cBool_snd {k : Nat} (S : Snd prog w mg mb hB n k) {op : BoolOp} {es : List Expr} {p : Pos} {pe : PE} (h : cBool (cE k sc) op es = some pe) : Both prog w mg mb hB n sc (.BoolOp op es p) pe := by
  cases op with
  | And =>
    obtain ⟨z, _, h⟩ := Option.bind_eq_some_iff.mp h
    obtain ⟨a, e1, h⟩ := Option.bind_eq_some_iff.mp h
    obtain ⟨b, e2, rfl⟩ := Option.map_eq_some_iff.mp h
    rw [z.2]
    exact ⟨and_okE (S _ _ _ e1).1 (S _ _ _ e2).1, and_okT (S _ _ _ e1).2 (S _ _ _ e2).2⟩
  | Or =>
    unfold cBool at h
    cases h2 : two es with
    | some z =>
      rw [h2] at h
      obtain ⟨a, e1, h⟩ := Option.bind_eq_some_iff.mp h
      obtain ⟨b, e2, rfl⟩ := Option.map_eq_some_iff.mp h
      rw [z.2]
      exact or2_snd (S _ _ _ e1) (S _ _ _ e2)
    | none =>
      rw [h2] at h
      obtain ⟨z, _, h⟩ := Option.bind_eq_some_iff.mp h
      obtain ⟨a, e1, h⟩ := Option.bind_eq_some_iff.mp h
      obtain ⟨b, e2, h⟩ := Option.bind_eq_some_iff.mp h
      obtain ⟨c, e3, rfl⟩ := Option.map_eq_some_iff.mp h
      have o2 := or2_snd (p := p) (S _ _ _ e2) (S _ _ _ e3)
      rw [z.2]
      exact ⟨or_okE (S _ _ _ e1).1 (fun K hv => o2.1 K hv) fun _ => ⟨_, _, rfl⟩, or_okT (S _ _ _ e1).2 fun K hv => o2.2 K hv⟩
theorem cUn_snd {k : Nat} (S : Snd prog w mg mb hB n k) {op : UnaryOp} {a : Expr} {p : Pos} {pe : PE} (h : cUn (cE k sc) op a = some pe) : Both prog w mg mb hB n sc (.UnaryOp op a p) pe := by
  cases op with
  | Not =>
    obtain ⟨a, e1, rfl⟩ := Option.map_eq_some_iff.mp h
    exact ⟨not_okE (S _ _ _ e1).1, not_okT (S _ _ _ e1).2⟩
  | USub =>
    obtain ⟨z, _, rfl⟩ := Option.map_eq_some_iff.mp h
    exact neg2 z.2
  | _ => exact nn h
theorem cmp4 {k : Nat} {a b c : Expr} {pa pb pc : PE} {o o2 : CmpOp} {ops : List CmpOp} {bs : List Expr} {p : Pos} (h1 : ops = [o, o2]) (h2 : bs = [b, c]) (e2 : cE k sc b = some pb) (e3 : cE k sc c = some pc) (ha : ES prog w mg mb hB n sc a pa) (hb : ES prog w mg mb hB n sc b pb) (hc : ES prog w mg mb hB n sc c pc) :
    Both prog w mg mb hB n sc (.Compare a ops bs p) (.cmp2 (cCmp o) (cCmp o2) pa pb pc) := by
  subst h1; subst h2
  exact ⟨(fun _ hv => nn hv), cmp2_okT ha hb hc (last_none (behind_none (cE_noSet e2)) (behind_none (cE_noSet e3)))⟩
theorem cCmp_snd {k : Nat} (S : Snd prog w mg mb hB n k) {a : Expr} {ops : List CmpOp} {bs : List Expr} {p : Pos} {pe : PE} (h : cCmpE (cE k sc) a ops bs = some pe) : Both prog w mg mb hB n sc (.Compare a ops bs p) pe := by
  unfold cCmpE at h
  cases h1 : one ops with
  | some z =>
    rw [h1] at h
    obtain ⟨y, _, h⟩ := Option.bind_eq_some_iff.mp h
    obtain ⟨a, e1, h⟩ := Option.bind_eq_some_iff.mp h
    obtain ⟨b, e2, rfl⟩ := Option.map_eq_some_iff.mp h
    exact cmp3 z.2 y.2 e2 (S _ _ _ e1).1 (S _ _ _ e2).1
  | none =>
    rw [h1] at h
    obtain ⟨z, _, h⟩ := Option.bind_eq_some_iff.mp h
    obtain ⟨y, _, h⟩ := Option.bind_eq_some_iff.mp h
    obtain ⟨a, e1, h⟩ := Option.bind_eq_some_iff.mp h
    obtain ⟨b, e2, h⟩ := Option.bind_eq_some_iff.mp h
    obtain ⟨c, e3, rfl⟩ := Option.map_eq_some_iff.mp h
    exact cmp4 z.2 y.2 e2 e3 (S _ _ _ e1).1 (S _ _ _ e2).1 (S _ _ _ e3).1
theorem cSub_snd {k : Nat} (S : Snd prog w mg mb hB n k) {v i : Expr} {p : Pos} {pe : PE} (h : cSub (cE k sc) v i = some pe) : Both prog w mg mb hB n sc (.Subscript v i p) pe := by
  unfold cSub at h
  cases hs : vSlice i with
  | none =>
    rw [hs] at h
    obtain ⟨a, e1, h⟩ := Option.bind_eq_some_iff.mp h
    obtain ⟨b, e2, rfl⟩ := Option.map_eq_some_iff.mp h
    exact ⟨idx_okE (S _ _ _ e1).1 (S _ _ _ e2).1, noT fun _ _ _ => rfl⟩
  | some z =>
    rw [hs] at h
    obtain ⟨a, e1, h⟩ := Option.bind_eq_some_iff.mp h
    obtain ⟨b, e2, h⟩ := Option.bind_eq_some_iff.mp h
    obtain ⟨c, e3, rfl⟩ := Option.map_eq_some_iff.mp h
    rw [z.2]
    exact ⟨sl_okE (S _ _ _ e1).1 (cO_snd S e2) (cO_snd S e3), noT fun _ _ _ => rfl⟩
theorem cCallN_snd {k : Nat} (S : Snd prog w mg mb hB n k) {f : Str} {args : List Expr} {fp p : Pos} {pe : PE} (h : cCallN (cE k sc) sc f args = some pe) : Both prog w mg mb hB n sc (.Call (.Name f fp) args [] p) pe := by
  unfold cCallN at h
  cases hl : starOf args with
  | some z =>
    rw [hl] at h
    obtain ⟨hc, h⟩ := ite_some h
    obtain ⟨g, eg, h⟩ := Option.bind_eq_some_iff.mp h
    obtain ⟨a, e1, h⟩ := Option.bind_eq_some_iff.mp h
    obtain ⟨b, e2, rfl⟩ := Option.map_eq_some_iff.mp h
    rw [z.2]
    exact ⟨calls_okE (S _ _ _ e1).1 (S _ _ _ e2).1 (not_t (and_t (and_t hc).2).2) (and_t hc).1 (not_t (and_t (and_t hc).2).1) (lookup_mem eg), noT fun _ _ _ => rfl⟩
  | none =>
  rw [hl] at h
  clear hl
  cases hI : isI sc f args with
  | some z =>
    rw [hI] at h
    obtain ⟨pe, e1, rfl⟩ := Option.map_eq_some_iff.mp h
    rw [z.2.1]
    exact ⟨isstr_okE (S _ _ _ e1).1 z.2.2, isstr_okT (isstr_okE (S _ _ _ e1).1 z.2.2)⟩
  | none =>
    rw [hI] at h
    obtain ⟨hc, h⟩ := ite_some h
    obtain ⟨hg, hc⟩ := and_t hc
    obtain ⟨hd, hn⟩ := and_t hc
    have hd := not_t hd
    cases hb : cBi f args.length with
    | some b =>
      rw [hb] at h
      obtain ⟨ps, e1, rfl⟩ := Option.map_eq_some_iff.mp h
      exact ⟨bi_okE (cEs_snd S e1).1 hn hg hd hb, noT fun _ _ _ => rfl⟩
    | none =>
      rw [hb] at h
      obtain ⟨g, eg, h⟩ := Option.bind_eq_some_iff.mp h
      obtain ⟨ps, e1, rfl⟩ := Option.map_eq_some_iff.mp h
      exact ⟨call_okE (cEs_snd S e1).1 hn hg hd (lookup_mem eg), call_okT (call_okE (cEs_snd S e1).1 hn hg hd (lookup_mem eg))⟩
theorem sub_snd (hre : Prims prog w mg mb hB) {o e : Expr} {m : Str} {args : List Expr} {ap p : Pos} {pe : PE} (he : ES prog w mg mb hB n sc e pe) (h : ∃ r rp ps b lsc lp, o = .Name r rp ∧ args = [.Lambda ps b lsc lp, e] ∧ subCond sc r m ps lsc ap p e = true) :
    ES prog w mg mb hB n sc (.Call (.Attribute o m ap) args [] p) (.resub pe) := by
  obtain ⟨r, rp, ps, b, lsc, lp, rfl, rfl, hc⟩ := h
  obtain ⟨h1, hc⟩ := and_t hc
  obtain ⟨h2, hc⟩ := and_t hc
  obtain ⟨h3, hc⟩ := and_t hc
  obtain ⟨h4, hc⟩ := and_t hc
  obtain ⟨h5, hc⟩ := and_t hc
  obtain ⟨h6, h7⟩ := and_t hc
  cases beq_iff_eq.mp h1
  cases beq_iff_eq.mp h2
  exact hre.resub _ _ _ _ _ _ _ _ _ _ _ h3 h4 h5 h6 h7 he
theorem cGen_snd (hre : Prims prog w mg mb hB) {k : Nat} (S : Snd prog w mg mb hB n k) {o : Expr} {m : Str} {args : List Expr} {ap p : Pos} {pe : PE} {z : Expr × List Comprehension × Scope × Pos} (hz : m = "join" ∧ args = [.GeneratorExp z.1 z.2.1 z.2.2.1 z.2.2.2]) (h : cGen (cE k) sc o ap p z = some pe) :
    Both prog w mg mb hB n sc (.Call (.Attribute o m ap) args [] p) pe := by
  obtain ⟨e, gs, sc2, gp⟩ := z
  obtain ⟨rfl, rfl⟩ := hz
  obtain ⟨⟨y, hy⟩, -, h2⟩ := Option.bind_eq_some_iff.mp h
  clear h
  dsimp only at h2 hy
  subst hy
  obtain ⟨hc, h3⟩ := ite_some h2
  clear h2
  obtain ⟨⟨r, hr, hl⟩, -, h4⟩ := Option.bind_eq_some_iff.mp h3
  clear h3
  dsimp only at h4 hr
  subst hr
  obtain ⟨sep, e1, h5⟩ := Option.bind_eq_some_iff.mp h4
  obtain ⟨it, e2, rfl⟩ := Option.map_eq_some_iff.mp h5
  exact ⟨hre.gjoin n sc sc2 o y.2.1 y.2.2 y.1.1 y.1.2 ap gp p sep it r hc hl (S _ _ _ e1).1 (cI_snd S e2), noT fun _ _ _ => rfl⟩
theorem cCallA_snd (hre : Prims prog w mg mb hB) {k : Nat} (S : Snd prog w mg mb hB n k) {o : Expr} {m : Str} {args : List Expr} {ap p : Pos} {pe : PE} (h : cCallA (cE k) sc o m ap p args = some pe) : Both prog w mg mb hB n sc (.Call (.Attribute o m ap) args [] p) pe := by
  unfold cCallA at h
  cases hl : genArg m args with
  | some z => rw [hl] at h; exact cGen_snd hre S z.2 h
  | none =>
  rw [hl] at h
  clear hl
  cases hs : subOf sc o m ap p args with
  | some x =>
    rw [hs] at h
    obtain ⟨pa, e1, rfl⟩ := Option.map_eq_some_iff.mp h
    exact ⟨sub_snd hre (S _ _ _ e1).1 x.2, noT fun _ _ _ => rfl⟩
  | none =>
    rw [hs] at h
    clear hs
    cases hI : isT sc m args with
    | some z =>
      rw [hI] at h
      obtain ⟨hc2, h⟩ := ite_some h
      obtain ⟨pe, e1, rfl⟩ := Option.map_eq_some_iff.mp h
      rw [z.2.1]
      exact ⟨spec_okE hre (S _ _ _ e1).1 (and_t hc2).1 (and_t hc2).2 z.2.2, noT fun _ _ _ => rfl⟩
    | none =>
      rw [hI] at h
      obtain ⟨hc, h⟩ := ite_some h
      obtain ⟨hb, hc⟩ := and_t hc
      obtain ⟨he, hn⟩ := and_t hc
      obtain ⟨me, e0, h⟩ := Option.bind_eq_some_iff.mp h
      obtain ⟨o, e1, h⟩ := Option.bind_eq_some_iff.mp h
      obtain ⟨ps, e2, rfl⟩ := Option.map_eq_some_iff.mp h
      exact ⟨me_okE (m := 0) (S _ _ _ e1).1 (cEs_snd S e2).1 hn e0 hb he, noT fun _ _ _ => rfl⟩
theorem cCall_snd (hre : Prims prog w mg mb hB) {k : Nat} (S : Snd prog w mg mb hB n k) {g : Expr} {args : List Expr} {p : Pos} {pe : PE} (h : cCall (cE k) sc g args p = some pe) : Both prog w mg mb hB n sc (.Call g args [] p) pe := by
  unfold cCall at h
  cases hg : vName g with
  | some z =>
    rw [hg] at h
    rw [z.2]
    exact cCallN_snd S h
  | none =>
    rw [hg] at h
    obtain ⟨z, _, h⟩ := Option.bind_eq_some_iff.mp h
    rw [z.2]
    exact cCallA_snd hre S h
theorem cComp_parts {fn : Scope → Expr → Option PE} {elt : Expr} {gs : List Comprehension} {sc2 : Scope} {pe : PE} (h : cComp fn sc elt gs sc2 = some pe) : ∃ x q iter ifs i it el cs, gs = [⟨.Name x q, iter, ifs, 0⟩] ∧ compOk sc sc2 x = true ∧ noSet iter = true ∧
    slotOf sc2 x = some i ∧ cI sc (fn sc) iter = some it ∧ fn sc2 elt = some el ∧ cEs (fn sc2) ifs = some cs ∧ pe = .comp el i it cs (cFr sc sc2) := by
  obtain ⟨z, _, h⟩ := Option.bind_eq_some_iff.mp h
  obtain ⟨hc, h⟩ := ite_some h
  obtain ⟨i, e0, h⟩ := Option.bind_eq_some_iff.mp h
  obtain ⟨it, e1, h⟩ := Option.bind_eq_some_iff.mp h
  obtain ⟨el, e2, h⟩ := Option.bind_eq_some_iff.mp h
  obtain ⟨cs, e3, h⟩ := Option.map_eq_some_iff.mp h
  exact ⟨_, _, _, _, i, it, el, cs, z.2, (and_t hc).1, (and_t hc).2, e0, e1, e2, e3, h.symm⟩
theorem cComp_snd {k : Nat} (S : Snd prog w mg mb hB n k) {elt : Expr} {gs : List Comprehension} {sc2 : Scope} {p : Pos} {pe : PE} (h : cComp (cE k) sc elt gs sc2 = some pe) : Both prog w mg mb hB n sc (.ListComp elt gs sc2 p) pe := by
  obtain ⟨x, q, iter, ifs, i, it, el, cs, rfl, h1, h2, e0, e1, e2, e3, rfl⟩ := cComp_parts h
  exact ⟨comp_okE h1 h2 e0 (cI_snd S e1) (S _ _ _ e2).1 (cEs_snd S e3).2, noT fun _ _ _ => rfl⟩
theorem cLen_snd {es : List Expr} {ps pes : PEs} {pe pe' : PE} (h : (if ps.len ≤ 64 && NoStars es then some pe' else none) = some pe) : ps.len ≤ 64 ∧ NoStars es = true ∧ pe' = pe := by
  obtain ⟨hc, h⟩ := ite_some h
  exact ⟨of_decide_eq_true (and_t hc).1, (and_t hc).2, Option.some.inj h⟩

theorem cE1_snd (hre : Prims prog w mg mb hB) {k : Nat} (S : Snd prog w mg mb hB n k) {e : Expr} {pe : PE} (h : cE1 (cE k) sc e = some pe) : Both prog w mg mb hB n sc e pe := by
  cases e with
  | Constant c q p => exact cConst_snd h
  | Name x p =>
    obtain ⟨hd, h⟩ := ite_no h
    obtain ⟨i, e1, rfl⟩ := Option.map_eq_some_iff.mp h
    have hd := Bool.eq_false_iff.mpr hd
    exact ⟨name_ok hd e1, var_okT (name_ok hd e1)⟩
  | BinOp l op r p =>
    obtain ⟨a, e1, h⟩ := Option.bind_eq_some_iff.mp h
    obtain ⟨b, e2, h⟩ := Option.bind_eq_some_iff.mp h
    obtain ⟨o, e3, rfl⟩ := Option.map_eq_some_iff.mp h
    exact ⟨bin_okE (S _ _ _ e1).1 (S _ _ _ e2).1 e3, noT fun _ _ _ => rfl⟩
  | BoolOp op es p => exact cBool_snd S h
  | UnaryOp op a p => exact cUn_snd S h
  | IfExp c a b p =>
    obtain ⟨c, e0, h⟩ := Option.bind_eq_some_iff.mp h
    obtain ⟨a, e1, h⟩ := Option.bind_eq_some_iff.mp h
    obtain ⟨b, e2, rfl⟩ := Option.map_eq_some_iff.mp h
    exact ⟨ite_okE (S _ _ _ e0).2 (S _ _ _ e1).1 (S _ _ _ e2).1, noT fun _ _ _ => rfl⟩
  | Compare a ops bs p => exact cCmp_snd S h
  | Subscript v i p => exact cSub_snd S h
  | Tuple es q p =>
    obtain ⟨ps, e1, h⟩ := Option.bind_eq_some_iff.mp h
    obtain ⟨h1, h2, rfl⟩ := cLen_snd (pes := ps) h
    exact ⟨tup_okE (cEs_snd S e1).1 h2 h1, noT fun _ _ _ => rfl⟩
  | List es p =>
    obtain ⟨ps, e1, h⟩ := Option.bind_eq_some_iff.mp h
    obtain ⟨h1, h2, rfl⟩ := cLen_snd (pes := ps) h
    exact ⟨lst_okE (cEs_snd S e1).1 h2 h1, noT fun _ _ _ => rfl⟩
  | Call g args ks p =>
    cases ks with
    | cons _ _ => exact nn h
    | nil => exact cCall_snd hre S h
  | ListComp elt gs sc2 p => exact cComp_snd S h
  | JoinedStr es p =>
    cases es with
    | nil => exact nn h
    | cons e1 r =>
      cases r with
      | nil => exact nn h
      | cons e2 r =>
        obtain ⟨ps, e1, rfl⟩ := Option.map_eq_some_iff.mp h
        exact ⟨fstr_okE (cFs_snd S _ e1), noT fun _ _ _ => rfl⟩
  | _ => exact nn h
theorem cE_snd (hre : Prims prog w mg mb hB) (k : Nat) : Snd prog w mg mb hB n k := by
  induction k with
  | zero => intro sc e pe h; cases h
  | succ k ih => intro sc e pe h; exact cE1_snd hre ih h
end
end Mine

namespace Mine
open StrLaws

theorem ns_ne_list {h : Heap} {a c : Addr} {m : Str → Option Value} {xs : Array Value} (x : h.Ns a m) (y : h.PlainList c xs) : a ≠ c := by
  rintro rfl
  obtain ⟨o, es, ep, e, hd, _⟩ := x
  obtain ⟨n, e'⟩ := y
  rw [e] at e'; cases e'; cases hd
theorem cell_ne_list {h : Heap} {a c : Addr} {v : Option Value} {xs : Array Value} (x : h.IsCell a v) (y : h.PlainList c xs) : a ≠ c := by
  rintro rfl
  obtain ⟨o, e, hd⟩ := x
  obtain ⟨n, e'⟩ := y
  rw [e] at e'; cases e'; cases hd
theorem ns_hlt {h : Heap} {a : Addr} {m : Str → Option Value} (x : h.Ns a m) : a < hsz h := let ⟨_, _, e⟩ := ns_live x; hsz_lt e
theorem cell_hlt {h : Heap} {a : Addr} {v : Option Value} (x : h.IsCell a v) : a < hsz h := let ⟨_, _, e⟩ := cell_live x; hsz_lt e
section
variable (prog : Program) (w : World) (mg mb : Str → Option Value) (hB : Heap) (n : Nat) (sc : Scope) (F : PF1) (env : Env) (A : Around) (C0 : RC) (h0 : Heap)
/-- a function's frame under way -/
structure Fra (C : RC) (σ : St) (h : Heap) : Prop where
  cx : Cx prog w mg mb hB n sc F C σ.G σ.O env A h
  b0 : KN hB h0
  k0 : KN h0 h
  x0 : ∀ b, C.X b → C0.X b ∨ hsz h0 ≤ b
  xw : ∀ b, C0.X b → C.X b
  st : C.st = C0.st
  ns : ∃ m, h.Ns env.locals m
  xl : C.X env.locals ∧ hsz h0 ≤ env.locals
  cl : ∀ x c, env.cells.lookup x = some c → C.X c ∧ hsz h0 ≤ c ∧ ∃ v, h.IsCell c v
  ci : ∀ x y c, env.cells.lookup x = some c → env.cells.lookup y = some c → x = y
  ad : ∀ (k : Nat) a, C.ads[k]? = some a → hsz h0 ≤ a ∧ ∃ xs, h.PlainList a xs
  ax : ∀ (k : Nat) a vs, σ.O[k]? = some (some vs) → C.ads[k]? = some a → C.X a
  ai : ∀ (k j : Nat) a, C.ads[k]? = some a → C.ads[j]? = some a → k = j
  al : C.ads.length = σ.O.length
  nf : ∀ x, sc.names.lookup x ≠ some .free
  x00 : ∀ b, C0.X b → b < hsz h0
end

section
variable {prog : Program} {w : World} {mg mb : Str → Option Value} {hB : Heap} {n : Nat} {sc : Scope} {F : PF1} {env : Env} {A : Around} {C0 : RC} {h0 : Heap}

theorem Fra.keep {C : RC} {σ : St} {h h' : Heap} (X : Fra prog w mg mb hB n sc F env A C0 h0 C σ h) (k : KN h h') : Fra prog w mg mb hB n sc F env A C0 h0 C σ h' where
  cx := ⟨X.cx.FS, X.cx.I.keep k, X.cx.R⟩
  b0 := X.b0
  k0 := X.k0.trans k
  x0 := X.x0
  xw := X.xw
  st := X.st
  ns := let ⟨m, e⟩ := X.ns; ⟨m, k.ns e⟩
  xl := X.xl
  cl := fun x c e => let ⟨a, b, v, d⟩ := X.cl x c e; ⟨a, b, v, k.cell d⟩
  ci := X.ci
  ad := fun j a e => let ⟨b, xs, p⟩ := X.ad j a e; ⟨b, xs, k.plain p⟩
  ax := X.ax
  ai := X.ai
  al := X.al
  nf := X.nf
  x00 := X.x00

/-- which heap changes leave the frame's other things alone -/
theorem Fra.write {C : RC} {σ σ' : St} {h h' : Heap} {q : Addr} (X : Fra prog w mg mb hB n sc F env A C0 h0 C σ h) (hs : ∀ b o, b ≠ q → h.get? b = some o → h'.get? b = some o) (hq0 : hsz h0 ≤ q) (hq : C.X q → ∃ o, NoTab o ∧ h'.get? q = some o)
    (ns : ∃ m, h'.Ns env.locals m) (cl : ∀ x c, env.cells.lookup x = some c → ∃ v, h'.IsCell c v) (ad : ∀ (k : Nat) a, C.ads[k]? = some a → ∃ xs, h'.PlainList a xs)
    (slots : ∀ x i v, slotOf sc x = some i → σ'.G[i]? = some (some v) → ∃ u, Sees env h' x u ∧ Rep C h' v u)
    (own : ∀ (k : Nat) vs, σ'.O[k]? = some (some vs) → ∃ a xs, C.ads[k]? = some a ∧ h'.PlainList a xs ∧ RepL C h' vs xs.toList)
    (ax : ∀ (k : Nat) a vs, σ'.O[k]? = some (some vs) → C.ads[k]? = some a → C.X a) (al : C.ads.length = σ'.O.length) : Fra prog w mg mb hB n sc F env A C0 h0 C σ' h' where
  cx := by
    have I := X.cx.I
    have k0 : KN h0 h' := X.k0.above hq0 hs
    refine ⟨X.cx.FS, ⟨I.base, I.kind, I.glb, I.blt, I.cdv, X.b0.trans k0, I.knd, I.cel, slots, ⟨own, fun b hb => ?_⟩⟩, X.cx.R⟩
    obtain ⟨o, nt, e⟩ := I.W.lt b hb
    by_cases hbq : b = q
    · subst hbq; exact hq hb
    · exact ⟨o, nt, hs b o hbq e⟩
  b0 := X.b0
  k0 := X.k0.above hq0 hs
  x0 := X.x0
  xw := X.xw
  st := X.st
  ns := ns
  xl := X.xl
  cl := fun x c e => let ⟨a, b, _⟩ := X.cl x c e; ⟨a, b, cl x c e⟩
  ci := X.ci
  ad := fun j a e => ⟨(X.ad j a e).1, ad j a e⟩
  ax := ax
  ai := X.ai
  al := al
  nf := X.nf
  x00 := X.x00

theorem put_at {σ : St} {i j : Nat} {v w : PV} (hj : j = i) (h : (σ.put i v).G[j]? = some (some w)) : v = w := set_at hj h
theorem put_ne {σ : St} {i j : Nat} {v w : PV} (hj : j ≠ i) (h : (σ.put i v).G[j]? = some (some w)) : σ.G[j]? = some (some w) := (List.getElem?_set_ne fun q => hj q.symm).symm.trans h
theorem putO_ne {σ : St} {i j : Nat} {v w : List PV} (hj : j ≠ i) (h : (σ.putO i v).O[j]? = some (some w)) : σ.O[j]? = some (some w) := (List.getElem?_set_ne fun q => hj q.symm).symm.trans h
theorem keepsX_of {C : RC} {h h' : Heap} {q : Addr} (hx : C.X q) (hs : Heap.SameBut q h h') : ∀ b o, ¬ C.X b → h.get? b = some o → h'.get? b = some o :=
  fun b o hb e => hs.extBut b o (fun z => hb (z ▸ hx)) e

theorem store_ok2 {C : RC} {σ : St} {s : Shared} {x : Str} {i : Nat} {v : PV} {u : Value} {Q : Unit → Shared → Prop} {E : Value → Shared → Prop} (X : Fra prog w mg mb hB n sc F env A C0 h0 C σ s.heap) (hi : slotOf sc x = some i) (hr : Rep C s.heap v u)
    (hQ : ∀ h' tk, (∀ b o, ¬ C.X b → s.heap.get? b = some o → h'.get? b = some o) → (∀ b o, b ≠ env.locals → (∀ x c, env.cells.lookup x = some c → b ≠ c) → s.heap.get? b = some o → h'.get? b = some o) → Fra prog w mg mb hB n sc F env A C0 h0 C (σ.put i v) h' → Q () { s with heap := h', toks := tk }) :
    wpAny (model prog w) A (storeName env x u) Q E s := by
  obtain ⟨k, hg, hl, hk⟩ := slot_get hi
  obtain ⟨m, hn⟩ := X.ns
  have I := X.cx.I
  have hk' : (env.kindOf x = some .local ∧ k = .local) ∨ (env.kindOf x = some .cell ∧ k = .cell) := by
    rcases I.knd x k hl with q | ⟨rfl, _⟩
    · rcases hk with rfl | rfl | rfl
      · exact .inl ⟨q, rfl⟩
      · exact .inr ⟨q, rfl⟩
      · exact absurd hl (X.nf x)
    · exact absurd hl (X.nf x)
  have lists : ∀ {h' : Heap} {q : Addr}, Heap.SameBut q s.heap h' → C.X q → (∀ (j : Nat) a, C.ads[j]? = some a → a ≠ q) → ∀ (j : Nat) vs, (σ.put i v).O[j]? = some (some vs) → ∃ a xs, C.ads[j]? = some a ∧ h'.PlainList a xs ∧ RepL C h' vs xs.toList := by
    intro h' q hs hq hne j vs e
    obtain ⟨a, xs, h1, h2, h3⟩ := I.W.own j vs e
    exact ⟨a, xs, h1, h2.extBut hs.extBut (hne j a h1), RepL.mono (Sub.xs (keepsX_of hq hs)) _ _ h3⟩
  rcases hk' with ⟨hkn, rfl⟩ | ⟨hkn, rfl⟩
  · refine wpAny_storeName_local hkn hn (fun h' hn' hs => ?_) (by rw [I.kind]; rfl)
    have hne : ∀ (j : Nat) a, C.ads[j]? = some a → a ≠ env.locals := fun j a e => by
      obtain ⟨_, xs, hp⟩ := X.ad j a e
      exact (ns_ne_list hn hp).symm
    have hX := keepsX_of X.xl.1 hs
    refine hQ h' _ hX (fun b o h1 _ e => hs.extBut b o h1 e) (X.write hs.extBut X.xl.2 (fun _ => ns_live hn') ⟨_, hn'⟩ (fun y c e => ?_) (fun j a e => ?_) (fun y j pv e1 e2 => ?_) (lists hs X.xl.1 hne) X.ax X.al)
    · obtain ⟨_, _, vv, hc⟩ := X.cl y c e
      exact ⟨vv, hc.sameBut hs (ns_ne_cell hn hc).symm⟩
    · obtain ⟨_, xs, hp⟩ := X.ad j a e
      exact ⟨xs, hp.extBut hs.extBut (hne j a e)⟩
    · by_cases hj : j = i
      · cases put_at hj e2
        cases slot_inj e1 (hj ▸ hi)
        exact ⟨u, .inl ⟨hkn, _, hn', if_pos rfl⟩, Rep.mono (Sub.xs hX) _ _ hr⟩
      · have e2 := put_ne hj e2
        obtain ⟨u', Se, r⟩ := I.slots y j pv e1 e2
        have hyx : y ≠ x := fun q => by subst q; rw [hi] at e1; cases e1; exact hj rfl
        refine ⟨u', ?_, Rep.mono (Sub.xs hX) _ _ r⟩
        rcases Se with ⟨a, m1, b, c⟩ | ⟨a, c, b, d⟩
        · exact .inl ⟨a, _, hn', by simp only [hyx, if_false]; rw [ns_eq hn b]; exact c⟩
        · exact .inr ⟨a, c, b, d.sameBut hs (ns_ne_cell hn d).symm⟩
  · obtain ⟨c, hc⟩ := I.cel x (.inl hl)
    obtain ⟨hcx, hc0, v0, hcv⟩ := X.cl x c hc
    refine wpAny_storeName_cell I.kind hkn hc hcv fun h' hcv' hs => ?_
    have hne : ∀ (j : Nat) a, C.ads[j]? = some a → a ≠ c := fun j a e => by
      obtain ⟨_, xs, hp⟩ := X.ad j a e
      exact (cell_ne_list hcv hp).symm
    have hX := keepsX_of hcx hs
    have hn' : h'.Ns env.locals m := hn.sameBut hs (ns_ne_cell hn hcv)
    refine hQ h' s.toks hX (fun b o _ h2 e => hs.extBut b o (h2 x c hc) e) (X.write hs.extBut hc0 (fun _ => cell_live hcv') ⟨_, hn'⟩ (fun y c' e => ?_) (fun j a e => ?_) (fun y j pv e1 e2 => ?_) (lists hs hcx hne) X.ax X.al)
    · obtain ⟨_, _, vv, hc'⟩ := X.cl y c' e
      by_cases hcc : c' = c
      · subst hcc; exact ⟨_, hcv'⟩
      · exact ⟨vv, hc'.sameBut hs hcc⟩
    · obtain ⟨_, xs, hp⟩ := X.ad j a e
      exact ⟨xs, hp.extBut hs.extBut (hne j a e)⟩
    · by_cases hj : j = i
      · cases put_at hj e2
        cases slot_inj e1 (hj ▸ hi)
        exact ⟨u, .inr ⟨.inl hkn, c, hc, hcv'⟩, Rep.mono (Sub.xs hX) _ _ hr⟩
      · have e2 := put_ne hj e2
        obtain ⟨u', Se, r⟩ := I.slots y j pv e1 e2
        have hyx : y ≠ x := fun q => by subst q; rw [hi] at e1; cases e1; exact hj rfl
        refine ⟨u', ?_, Rep.mono (Sub.xs hX) _ _ r⟩
        rcases Se with ⟨a, m1, b, c1⟩ | ⟨a, c', b, d⟩
        · exact .inl ⟨a, m1, b.sameBut hs (ns_ne_cell b hcv), c1⟩
        · refine .inr ⟨a, c', b, d.sameBut hs fun q => ?_⟩
          subst q
          exact hyx (X.ci y x c' b hc)

theorem store_ok {C : RC} {σ : St} {s : Shared} {x : Str} {i : Nat} {v : PV} {u : Value} {Q : Unit → Shared → Prop} {E : Value → Shared → Prop} (X : Fra prog w mg mb hB n sc F env A C0 h0 C σ s.heap) (hi : slotOf sc x = some i) (hr : Rep C s.heap v u)
    (hQ : ∀ h' tk, (∀ b o, ¬ C.X b → s.heap.get? b = some o → h'.get? b = some o) → Fra prog w mg mb hB n sc F env A C0 h0 C (σ.put i v) h' → Q () { s with heap := h', toks := tk }) :
    wpAny (model prog w) A (storeName env x u) Q E s := store_ok2 X hi hr fun h' tk h1 _ Y => hQ h' tk h1 Y

/-- writing an own list -/
theorem Fra.putO {C : RC} {σ : St} {h h' : Heap} {k : Nat} {a : Addr} {vs vs' : List PV} {xs : Array Value} (X : Fra prog w mg mb hB n sc F env A C0 h0 C σ h) (ho : σ.O[k]? = some (some vs)) (ha : C.ads[k]? = some a)
    (hs : Heap.SameBut a h h') (hp : h'.PlainList a xs) (hr : RepL C h vs' xs.toList) : Fra prog w mg mb hB n sc F env A C0 h0 C (σ.putO k vs') h' := by
  have hax := X.ax k a vs ho ha
  have hX := keepsX_of hax hs
  obtain ⟨ha0, xs0, hp0⟩ := X.ad k a ha
  obtain ⟨m, hn⟩ := X.ns
  have I := X.cx.I
  refine X.write hs.extBut ha0 (fun _ => list_live hp) ⟨m, hn.sameBut hs (ns_ne_list hn hp0)⟩ (fun y c e => ?_) (fun j b e => ?_) (fun y j pv e1 e2 => ?_) (fun j vs1 e => ?_) (fun j b vs1 e eb => ?_) (X.al.trans List.length_set.symm)
  · obtain ⟨_, _, vv, hc⟩ := X.cl y c e
    exact ⟨vv, hc.sameBut hs (cell_ne_list hc hp0)⟩
  · obtain ⟨_, ys, hb⟩ := X.ad j b e
    by_cases hba : b = a
    · subst hba; exact ⟨_, hp⟩
    · exact ⟨ys, hb.extBut hs.extBut hba⟩
  · obtain ⟨u', Se, r⟩ := I.slots y j pv e1 e2
    refine ⟨u', ?_, Rep.mono (Sub.xs hX) _ _ r⟩
    rcases Se with ⟨a1, m1, b, c⟩ | ⟨a1, c, b, d⟩
    · exact .inl ⟨a1, m1, b.sameBut hs (ns_ne_list b hp0), c⟩
    · exact .inr ⟨a1, c, b, d.sameBut hs (cell_ne_list d hp0)⟩
  · by_cases hkj : j = k
    · cases set_at (v := vs') hkj e
      exact ⟨a, xs, hkj ▸ ha, hp, RepL.mono (Sub.xs hX) _ _ hr⟩
    · obtain ⟨b, ys, h1, h2, h3⟩ := I.W.own j vs1 (putO_ne hkj e)
      exact ⟨b, ys, h1, h2.extBut hs.extBut (fun q => hkj (X.ai j k a (q ▸ h1) ha)), RepL.mono (Sub.xs hX) _ _ h3⟩
  · by_cases hkj : j = k
    · subst hkj
      rw [ha] at eb; cases eb; exact hax
    · exact X.ax j b vs1 (putO_ne hkj e) eb
end
end Mine

namespace Mine
open StrLaws

/-- what a statement keeps -/
structure Big (C C' : RC) (h h' : Heap) : Prop where
  X : ∀ b o, NoTab o → h.get? b = some o → ¬ C.X b → ¬ C'.X b
  st : C'.st = C.st
  ads : ∀ (k : Nat) (a : Addr), C.ads[k]? = some a → C'.ads[k]? = some a
  keep : ∀ b o, NoTab o → ¬ C.X b → h.get? b = some o → h'.get? b = some o
theorem Big.sub {C C' : RC} {h h' : Heap} (x : Big C C' h h') : Sub C C' h h' := ⟨fun b o v e => x.X b o v.noTab e, x.st, x.ads, fun b o v hx e => x.keep b o v.noTab hx e⟩
theorem Big.refl (C : RC) (h : Heap) : Big C C h h := ⟨fun _ _ _ _ x => x, rfl, fun _ _ x => x, fun _ _ _ _ e => e⟩
theorem Big.trans {C C' C'' : RC} {h h' h'' : Heap} (x : Big C C' h h') (y : Big C' C'' h' h'') : Big C C'' h h'' where
  X b o n e hx := y.X b o n (x.keep b o n hx e) (x.X b o n e hx)
  st := y.st.trans x.st
  ads k a e := y.ads k a (x.ads k a e)
  keep b o n hx e := y.keep b o n (x.X b o n e hx) (x.keep b o n hx e)
theorem Big.of_kn {C : RC} {h h' : Heap} (k : KN h h') : Big C C h h' := ⟨fun _ _ _ _ x => x, rfl, fun _ _ x => x, fun b o n _ e => k.nt b o n e⟩
theorem Big.xs {C : RC} {h h' : Heap} (hk : ∀ b o, ¬ C.X b → h.get? b = some o → h'.get? b = some o) : Big C C h h' := ⟨fun _ _ _ _ x => x, rfl, fun _ _ x => x, fun b o _ hx e => hk b o hx e⟩

noncomputable def Same (s s' : Shared) : Prop := s'.os = s.os ∧ (AllBare s.gens → AllBare s'.gens)
theorem Same.refl (s : Shared) : Same s s := ⟨rfl, id⟩
theorem Same.trans {a b c : Shared} (x : Same a b) (y : Same b c) : Same a c := ⟨y.1.trans x.1, fun z => y.2 (x.2 z)⟩
theorem Same.of {a b : Shared} (x : Keeps a b) : Same a b := x.2
theorem Same.heap {s : Shared} {h : Heap} {tk : Tok} : Same s { s with heap := h, toks := tk } := ⟨rfl, id⟩

noncomputable def FlowOk (C0 : RC) : PF → Flow → Heap → Prop
  | .next, fl, _ => fl = .next
  | .brk, fl, _ => fl = .brk
  | .ret v, fl, h => ∃ u, fl = .ret u ∧ (noOwn v = true → Rep C0 h v u)

section
variable (prog : Program) (w : World) (mg mb : Str → Option Value) (hB : Heap) (n : Nat) (sc : Scope)
inductive Res (F : PF1) (env : Env) (A : Around) (C0 : RC) (h0 : Heap) (C : RC) (s : Shared) (σ' : St) (f : PF) (fl : Flow) (s' : Shared) : Prop
  | mk (C' : RC) (b : Big C C' s.heap s'.heap) (q : Same s s') (X : Fra prog w mg mb hB n sc F env A C0 h0 C' σ' s'.heap) (fk : FlowOk C0 f fl s'.heap) : Res F env A C0 h0 C s σ' f fl s'
noncomputable def XS (st : Stmt) (p : PS) : Prop :=
  ∀ ⦃N : Nat⦄ ⦃F : PF1⦄ ⦃env : Env⦄ ⦃A : Around⦄ ⦃C0 : RC⦄ ⦃h0 : Heap⦄ ⦃C : RC⦄ ⦃σ : St⦄ ⦃s : Shared⦄ ⦃σ' : St⦄ ⦃f : PF⦄, Fra prog w mg mb hB n sc F env A C0 h0 C σ s.heap → ex N F p σ = some (σ', f) →
    wpAny (model prog w) A (exec st env) (Res prog w mg mb hB n sc F env A C0 h0 C s σ' f) noE s
noncomputable def XSS (sts : List Stmt) (ps : PSs) : Prop :=
  ∀ ⦃N : Nat⦄ ⦃F : PF1⦄ ⦃env : Env⦄ ⦃A : Around⦄ ⦃C0 : RC⦄ ⦃h0 : Heap⦄ ⦃C : RC⦄ ⦃σ : St⦄ ⦃s : Shared⦄ ⦃σ' : St⦄ ⦃f : PF⦄, Fra prog w mg mb hB n sc F env A C0 h0 C σ s.heap → exs N F ps σ = some (σ', f) →
    wpAny (model prog w) A (execs sts env) (Res prog w mg mb hB n sc F env A C0 h0 C s σ' f) noE s
end

section
variable {prog : Program} {w : World} {mg mb : Str → Option Value} {hB : Heap} {n : Nat} {sc : Scope} {F : PF1} {env : Env} {A : Around} {C0 : RC} {h0 : Heap}

theorem Res.trans {C C1 : RC} {s s1 : Shared} {σ' : St} {f : PF} {fl : Flow} {s' : Shared} (x : Big C C1 s.heap s1.heap) (y : Same s s1) (r : Res prog w mg mb hB n sc F env A C0 h0 C1 s1 σ' f fl s') : Res prog w mg mb hB n sc F env A C0 h0 C s σ' f fl s' :=
  let ⟨C', a, b, c, d⟩ := r; ⟨C', x.trans a, y.trans b, c, d⟩
theorem Res.keep {C : RC} {s s1 : Shared} {σ' : St} {f : PF} {fl : Flow} {s' : Shared} (k : Keeps s s1) (r : Res prog w mg mb hB n sc F env A C0 h0 C s1 σ' f fl s') : Res prog w mg mb hB n sc F env A C0 h0 C s σ' f fl s' :=
  Res.trans (.of_kn (kheap k)) (.of k) r
theorem Res.stay {C : RC} {σ : St} {s s' : Shared} (X : Fra prog w mg mb hB n sc F env A C0 h0 C σ s.heap) (k : Keeps s s') : Res prog w mg mb hB n sc F env A C0 h0 C s σ .next .next s' :=
  ⟨C, .of_kn (kheap k), .of k, X.keep (kheap k), rfl⟩

theorem xss_nil : XSS prog w mg mb hB n sc [] .nil := by
  intro N F env A C0 h0 C σ s σ' f X h
  cases h
  exact wpAny_execs_nil (.stay X (krefl s))
theorem xss_cons {st : Stmt} {sts : List Stmt} {p : PS} {ps : PSs} (h1 : XS prog w mg mb hB n sc st p) (h2 : XSS prog w mg mb hB n sc sts ps) : XSS prog w mg mb hB n sc (st :: sts) (.cons p ps) := by
  intro N F env A C0 h0 C σ s σ' f X h
  refine wpAny_execs_cons ?_
  obtain ⟨q, e1, h⟩ := Option.bind_eq_some_iff.mp h
  obtain ⟨σ1, q⟩ := q
  refine seqE (h1 X e1) fun fl s1 r => ?_
  obtain ⟨C', a, b, c, d⟩ := r
  cases q with
  | next =>
    cases d
    exact seqE (h2 c h) fun fl s2 r => r.trans a b
  | brk => cases d; cases h; exact ⟨C', a, b, c, rfl⟩
  | ret v => obtain ⟨u, rfl, d⟩ := d; cases h; exact ⟨C', a, b, c, u, rfl, d⟩

theorem brk_ok {pos : Pos} : XS prog w mg mb hB n sc (.Break pos) .brk := by
  intro N F env A C0 h0 C σ s σ' f X h
  cases h
  exact wpAny_Break ⟨C, .refl _ _, .refl _, X, rfl⟩
theorem asrt_ok {e : Expr} {pe : PE} {msg : Option Expr} {pos : Pos} (he : TS prog w mg mb hB n sc e pe) : XS prog w mg mb hB n sc (.Assert e msg pos) (.asrt pe) := by
  intro N F env A C0 h0 C σ s σ' f X h
  obtain ⟨t, e1, h⟩ := Option.bind_eq_some_iff.mp h
  obtain ⟨ht, h⟩ := ite_some h
  subst ht
  cases h
  exact wpAny_Assert_holds (seqE (he X.cx e1) fun b s1 q => ⟨q.2, .stay X q.1⟩)
theorem ite_ok {e : Expr} {pe : PE} {a b : List Stmt} {pa pb : PSs} {pos : Pos} (he : TS prog w mg mb hB n sc e pe) (ha : XSS prog w mg mb hB n sc a pa) (hb : XSS prog w mg mb hB n sc b pb) : XS prog w mg mb hB n sc (.If e a b pos) (.ite pe pa pb) := by
  intro N F env A C0 h0 C σ s σ' f X h
  obtain ⟨t, e1, h⟩ := Option.bind_eq_some_iff.mp h
  refine wpAny_If (seqE (he X.cx e1) fun b s1 ⟨k1, r1⟩ => ?_)
  subst r1
  cases b
  · simp only [Bool.false_eq_true, if_false] at h ⊢
    exact seqE (hb (X.keep (kheap k1)) h) fun fl s2 r => r.keep k1
  · simp only [if_true] at h ⊢
    exact seqE (ha (X.keep (kheap k1)) h) fun fl s2 r => r.keep k1

theorem wh_ok {e : Expr} {pe : PE} {a : List Stmt} {pa : PSs} {pos : Pos} (he : TS prog w mg mb hB n sc e pe) (ha : XSS prog w mg mb hB n sc a pa) : XS prog w mg mb hB n sc (.While e a [] pos) (.wh pe pa) := by
  intro N F env A C0 h0 C σ s σ' f X h
  refine wpAny_While (codeAny_whileLoop (fun k s1 => ∃ C1 σ1, Big C C1 s.heap s1.heap ∧ Same s s1 ∧ Fra prog w mg mb hB n sc F env A C0 h0 C1 σ1 s1.heap ∧
    whIt (fun σ => pt F σ.O σ.G pe) (fun σ => exs N F pa σ) k σ1 = some (σ', f)) ?_ N ⟨C, σ, .refl _ _, .refl _, X, h⟩)
  intro k s1 hI
  obtain ⟨C1, σ1, b1, q1, X1, hw⟩ := hI
  cases k with
  | zero => exact nn hw
  | succ k =>
    obtain ⟨t, ht, hw⟩ := Option.bind_eq_some_iff.mp hw
    refine seqE (he X1.cx ht) fun b s2 q => ?_
    obtain ⟨k2, rfl⟩ := q
    cases b with
    | false =>
      cases hw
      exact wpAny_execs_nil ⟨C1, b1.trans (.of_kn (kheap k2)), q1.trans (.of k2), X1.keep (kheap k2), rfl⟩
    | true =>
      obtain ⟨r, hb, hw⟩ := Option.bind_eq_some_iff.mp hw
      obtain ⟨σ2, q⟩ := r
      refine seqE (ha (X1.keep (kheap k2)) hb) fun fl s3 r => ?_
      obtain ⟨C3, b3, q3, X3, fk⟩ := r.keep k2
      cases q with
      | next => cases fk; exact ⟨k, Nat.lt_succ_self k, C3, σ2, b1.trans b3, q1.trans q3, X3, hw⟩
      | brk => cases fk; cases hw; exact ⟨C3, b1.trans b3, q1.trans q3, X3, rfl⟩
      | ret v => obtain ⟨u, rfl, fk2⟩ := fk; cases hw; exact ⟨C3, b1.trans b3, q1.trans q3, X3, u, rfl, fk2⟩

theorem it_sub {C : RC} {h h' : Heap} {I : Addr} {o : Obj} (hk : ∀ b o, b ≠ I → h.get? b = some o → h'.get? b = some o) (ho : ItObj o) (hg : h.get? I = some o) : Sub C C h h' :=
  ⟨fun _ _ _ _ x => x, rfl, fun _ _ x => x, fun b o' v _ e => hk b o' (fun q => by subst q; rw [hg] at e; cases e; exact ho.noVal v) e⟩
/-- the iterator's own step -/
theorem Fra.next {C : RC} {σ : St} {h h' : Heap} {I : Addr} {o : Obj} (X : Fra prog w mg mb hB n sc F env A C0 h0 C σ h) (hk : ∀ b o, b ≠ I → h.get? b = some o → h'.get? b = some o) (hI : hsz h0 ≤ I) (ho : ItObj o) (hg : h.get? I = some o)
    (hl : ¬ C.X I) : Fra prog w mg mb hB n sc F env A C0 h0 C σ h' := by
  obtain ⟨fs, hf⟩ := ho.1
  have nns : ∀ {a m}, h.Ns a m → a ≠ I := by
    rintro a m ⟨o', es, ep, e, hd, _⟩ rfl
    rw [hg] at e; cases e; rw [hf] at hd; cases hd
  have ncell : ∀ {a v}, h.IsCell a v → a ≠ I := by
    rintro a v ⟨o', e, hd⟩ rfl
    rw [hg] at e; cases e; rw [hf] at hd; cases hd
  have nlist : ∀ {a xs}, h.PlainList a xs → a ≠ I := by
    rintro a xs ⟨m, e⟩ rfl
    rw [hg] at e; cases e; cases hf
  have S : Sub C C h h' := ⟨fun _ _ _ _ x => x, rfl, fun _ _ x => x, fun b o' v _ e => hk b o' (fun q => by subst q; rw [hg] at e; cases e; exact ho.noVal v) e⟩
  refine X.write hk hI (fun q => absurd q hl) ?_ ?_ ?_ ?_ ?_ X.ax X.al
  · obtain ⟨m, hn⟩ := X.ns
    exact ⟨m, hn.at' fun o e => hk _ o (nns hn) e⟩
  · intro x c e
    obtain ⟨_, _, v, hc⟩ := X.cl x c e
    obtain ⟨oc, e1, e2⟩ := id hc
    exact ⟨v, oc, hk _ _ (ncell hc) e1, e2⟩
  · intro j a e
    obtain ⟨_, xs, hp⟩ := X.ad j a e
    exact ⟨xs, hp.at fun o e => hk _ o (nlist hp) e⟩
  · intro x i v e1 e2
    obtain ⟨u, Se, r⟩ := X.cx.I.slots x i v e1 e2
    refine ⟨u, ?_, Rep.mono S _ _ r⟩
    rcases Se with ⟨a, m, b, c⟩ | ⟨a, c, b, d⟩
    · exact .inl ⟨a, m, b.at' fun o e => hk _ o (nns b) e, c⟩
    · obtain ⟨oc, e1, e2⟩ := id d
      exact .inr ⟨a, c, b, oc, hk _ _ (ncell d) e1, e2⟩
  · intro j vs e
    obtain ⟨a, xs, h1, h2, h3⟩ := X.cx.I.W.own j vs e
    exact ⟨a, xs, h1, h2.at fun o e => hk _ o (nlist h2) e, RepL.mono S _ _ h3⟩

theorem fr_ok {x : Str} {i : Nat} {it : Expr} {pit : PIt} {a : List Stmt} {pa : PSs} {px pos : Pos} (hns : noSet it = true) (hi : slotOf sc x = some i) (hit : IS prog w mg mb hB n sc it pit) (ha : XSS prog w mg mb hB n sc a pa) :
    XS prog w mg mb hB n sc (.For (.Name x px) it a [] pos) (.fr i pit pa) := by
  intro N F env A C0 h0 C σ s σ' f X h
  obtain ⟨its, e1, h⟩ := Option.bind_eq_some_iff.mp h
  obtain ⟨_, hw⟩ := hit [] X.cx (.inr ⟨rfl, e1⟩)
  refine wpAny_For (seqE hw fun xv s1 ⟨k1, hpi⟩ => seqE (hpi A) fun itv s2 hitp => ?_) (fold_none hns)
  obtain ⟨tk₂, hs₂, o, fp, P, St', rfl, hh₂, hnt, hW, hst, hlive, hfp, hP⟩ := hitp
  have W := hW A X.cx.R.handled
  have X1 := X.keep (kheap k1)
  have k2 : KN s1.heap s2.heap := by rw [hh₂]; exact .push _ _
  have hk2 : Keeps s1 s2 := by rw [hs₂]; exact ⟨by rw [← hs₂]; exact k2, rfl, id⟩
  have hIX : ¬ C.X s1.heap.objs.size := fun q => by
    obtain ⟨o, _, e⟩ := X1.cx.I.W.lt _ q
    exact Nat.lt_irrefl _ (Heap.lt_size e)
  have hI0 : hsz h0 ≤ s1.heap.objs.size := by
    obtain ⟨m, hn⟩ := X1.ns
    exact Nat.le_trans X1.xl.2 (Nat.le_of_lt hn.lt)
  have hpt : ∃ ps, s1.heap.get? PT = some { cls := .none, data := .fields ps } := by
    obtain ⟨ps, e, _⟩ := X1.cx.I.base.pt
    exact KN.tabLive X1.cx.I.top e
  have hfpT : ∀ b ∈ fp, b ≠ PT := fun b hb q => by
    subst q
    obtain ⟨ps, hpt⟩ := hpt
    rcases hfp _ hb with q | ⟨⟨o, nt, e⟩, _⟩
    · have := Heap.lt_size hpt; rw [q] at this; exact Nat.lt_irrefl _ this
    · rw [hpt] at e; cases e; exact nt _ rfl
  -- the loop
  refine codeAny_forLoop (fun k s' => ∃ C1 σ1, ∃ pre rest : List PV, Big C C1 s1.heap s'.heap ∧ Same s1 s' ∧ Fra prog w mg mb hB n sc F env A C0 h0 C1 σ1 s'.heap ∧ St' pre.length s'.heap ∧ ¬ C1.X s1.heap.objs.size ∧ its = pre ++ rest ∧
      frIt i (fun σ => exs N F pa σ) rest σ1 = some (σ', f) ∧ k = rest.length) ?_ its.length
    ⟨C, σ, [], its, .of_kn k2, .of hk2, X1.keep k2, hst, hIX, rfl, h, rfl⟩
  rintro k s' ⟨C1, σ1, pre, rest, b1, q1, Y, hst', hX1, hits, hfr, rfl⟩
  obtain ⟨oI, hoI, egI⟩ := hlive _ _ hst'
  cases rest with
  | nil =>
    cases hfr
    rw [List.append_nil] at hits
    subst hits
    refine W.done _ _ _ hst' fun h₂ tk₂ hk₂ => ?_
    have hk₂' : ∀ b o, b ≠ s1.heap.objs.size → s'.heap.get? b = some o → h₂.get? b = some o := fun b o hb e => hk₂ b o (by simpa using hb) e
    have Y2 := Y.next hk₂' hI0 hoI egI hX1
    refine wpAny_execs_nil ⟨C1, ?_, (Same.of k1).trans (q1.trans .heap), Y2, rfl⟩
    refine (Big.of_kn (kheap k1)).trans ?_
    exact ⟨b1.X, b1.st, b1.ads, fun b o nt hx e => hk₂' b o (Nat.ne_of_lt (Heap.lt_size e)) (b1.keep b o nt hx e)⟩
  | cons v r =>
    have hlt : pre.length < its.length := by rw [hits]; simp
    refine W.item pre.length _ _ _ hlt hst' fun u h₂ tk₂ hPv hst₂ hk₂ => ?_
    have hk₂' : ∀ b o, b ≠ s1.heap.objs.size → s'.heap.get? b = some o → h₂.get? b = some o := fun b o hb e => hk₂ b o (by simpa using hb) e
    have Y2 := Y.next hk₂' hI0 hoI egI hX1
    obtain ⟨pv, e1, rv⟩ := hP pre.length u hPv
    rw [hits] at e1
    simp only [List.getElem?_append_right (Nat.le_refl _), Nat.sub_self, List.getElem?_cons_zero, Option.some.injEq] at e1
    subst e1
    have rv2 : Rep C1 h₂ v u := Rep.mono (it_sub hk₂' hoI egI) _ _ (Rep.mono b1.sub _ _ rv)
    have B2 : Big C C1 s1.heap h₂ := ⟨b1.X, b1.st, b1.ads, fun b o nt hx e => hk₂' b o (Nat.ne_of_lt (Heap.lt_size e)) (b1.keep b o nt hx e)⟩
    refine wpAny_assign_Name (store_ok (s := { s' with heap := h₂, toks := tk₂ }) Y2 hi rv2 fun h₃ tk₃ hk₃ Y3 => ?_)
    have B3 : Big C C1 s1.heap h₃ := B2.trans (.xs hk₃)
    have st3 : St' (pre.length + 1) h₃ := W.frame _ _ _ hst₂ fun b hb o e => by
      rcases hfp b hb with q | ⟨⟨o', nt, e'⟩, hx⟩
      · exact hk₃ b o (by rw [q]; exact hX1) e
      · exact hk₃ b o (b1.X b o' nt e' (hx rfl)) e
    have framed : ∀ {C2 : RC} {g : Heap}, Big C1 C2 h₃ g → St' (pre.length + 1) g := fun {C2 g} B => W.frame _ _ _ st3 fun b hb o e => by
      have nt : NoTab o := by
        rcases hfp b hb with q | ⟨⟨o', nt, e'⟩, hx⟩
        · obtain ⟨o2, ho2, e2⟩ := hlive _ _ st3
          rw [← q, e] at e2; cases e2; exact ho2.noTab
        · have := B3.keep b o' nt (hx rfl) e'
          rw [e] at this; cases this; exact nt
      rcases hfp b hb with q | ⟨⟨o', nt', e'⟩, hx⟩
      · exact B.keep b o nt (by rw [q]; exact hX1) e
      · exact B.keep b o nt (b1.X b o' nt' e' (hx rfl)) e
    have same3 : Same s1 { s' with heap := h₃, toks := tk₃ } := q1.trans .heap
    obtain ⟨q, hb, hfr⟩ := Option.bind_eq_some_iff.mp hfr
    obtain ⟨σ2, q⟩ := q
    refine seqE (ha Y3 hb) fun fl s3 rr => ?_
    obtain ⟨C3, b3, q3, X3, fk⟩ := rr
    cases q with
    | next =>
      cases fk
      refine ⟨r.length, Nat.lt_succ_self _, C3, σ2, pre ++ [v], r, B3.trans b3, same3.trans q3, X3, ?_, ?_, by rw [hits, List.append_assoc]; rfl, hfr, rfl⟩
      · rw [List.length_append]; exact framed b3
      · obtain ⟨o2, ho2, e2⟩ := hlive _ _ st3
        exact b3.X _ o2 ho2.noTab e2 hX1
    | brk => cases fk; cases hfr; exact ⟨C3, (Big.of_kn (kheap k1)).trans (B3.trans b3), (Same.of k1).trans (same3.trans q3), X3, rfl⟩
    | ret v => obtain ⟨u, rfl, fk2⟩ := fk; cases hfr; exact ⟨C3, (Big.of_kn (kheap k1)).trans (B3.trans b3), (Same.of k1).trans (same3.trans q3), X3, u, rfl, fk2⟩
end
end Mine

namespace Mine
open StrLaws
section
variable {prog : Program} {w : World} {mg mb : Str → Option Value} {hB : Heap} {n : Nat} {sc : Scope} {F : PF1} {env : Env} {A : Around} {C0 : RC} {h0 : Heap}

/-! return: own lists frozen -/
noncomputable def RC.ice (C : RC) : RC := { X := fun b => C.X b ∧ ∀ k : Nat, C.ads[k]? ≠ some b, st := C.st, ads := [] }
theorem ice_rep {C : RC} {h : Heap} {v : PV} {u : Value} (hn : noOwn v = true) (r : Rep C h v u) : Rep C.ice h v u := by
  have r1 : Rep { C with X := C.ice.X } h v u := Rep.wide (C := { C with X := C.ice.X }) (C' := C) (fun _ x => x.1) rfl rfl _ _ r
  exact Rep.free (C := { C with X := C.ice.X }) (C' := C.ice) rfl rfl _ _ hn r1
theorem ice_repL {C : RC} {h : Heap} {v : List PV} {u : List Value} (hn : noOwnL v = true) (r : RepL C h v u) : RepL C.ice h v u := by
  have r1 : RepL { C with X := C.ice.X } h v u := RepL.wide (C := { C with X := C.ice.X }) (C' := C) (fun _ x => x.1) rfl rfl _ _ r
  exact RepL.free (C := { C with X := C.ice.X }) (C' := C.ice) rfl rfl _ _ hn r1

theorem Fra.ice {C : RC} {σ : St} {h : Heap} (X : Fra prog w mg mb hB n sc F env A C0 h0 C σ h) : Cx prog w mg mb hB n sc F C.ice (σ.G.map fun v => v.bind (frzN σ.O)) [] env A h := by
  have I := X.cx.I
  refine ⟨X.cx.FS, ⟨I.base, I.kind, I.glb, I.blt, I.cdv, I.top, I.knd, I.cel, fun x i v e1 e2 => ?_, ⟨fun k vs e => by simp at e, fun b hb => I.W.lt b hb.1⟩⟩, X.cx.R⟩
  rw [List.getElem?_map] at e2
  obtain ⟨q, e3, e4⟩ := Option.map_eq_some_iff.mp e2
  obtain ⟨v0, rfl, e5⟩ := Option.bind_eq_some_iff.mp e4
  obtain ⟨u, Se, r⟩ := I.slots x i v0 e1 e3
  refine ⟨u, Se, ?_⟩
  obtain ⟨hn, e5⟩ := ite_some e5
  cases e5
  unfold frzV at hn ⊢
  cases ho : (asOwn v0).bind fun k => (σ.O[k]?).bind id with
  | none => rw [ho] at hn; exact ice_rep hn r
  | some vs =>
    rw [ho] at hn
    obtain ⟨k, ek, e6⟩ := Option.bind_eq_some_iff.mp ho
    obtain ⟨q, e7, e8⟩ := Option.bind_eq_some_iff.mp e6
    cases e8
    cases asOwn_eq ek
    obtain ⟨a, ha, rfl⟩ := r
    obtain ⟨a', xs, h1, h2, h3⟩ := I.W.own k vs e7
    rw [ha] at h1; cases h1
    exact rep_list (xs := xs.toList) (fun q => q.2 k ha) (by rw [Array.toArray_toList]; exact h2) (ice_repL hn h3)

theorem ret_ok {e : Expr} {pe : PE} {pos : Pos} (he : ES prog w mg mb hB n sc e pe) : XS prog w mg mb hB n sc (.Return (some e) pos) (.ret pe) := by
  intro N F env A C0 h0 C σ s σ' f X h
  obtain ⟨v, e1, h⟩ := Option.map_eq_some_iff.mp h
  cases h
  refine wpAny_Return_some (seqE (he X.ice e1) fun u s1 ⟨k1, r1⟩ => ?_)
  refine ⟨C, .of_kn (kheap k1), .of k1, X.keep (kheap k1), u, rfl, fun hn => ?_⟩
  have r2 : Rep { C.ice with X := C0.X } s1.heap v u := Rep.wide (C := { C.ice with X := C0.X }) (C' := C.ice) (fun b hb => ⟨X.xw b hb, fun k q => Nat.lt_irrefl _ (Nat.lt_of_lt_of_le (X.x00 b hb) (X.ad k b q).1)⟩) rfl rfl _ _ r1
  exact Rep.free (C := { C.ice with X := C0.X }) (C' := C0) rfl X.st.symm _ _ hn r2

/-! plain assignment -/
theorem swaps_no {e : Expr} {t : Option Expr} {l : Nat} (h : noComp e = true) : swapsWith e t l env = pure false := by
  cases e <;> first | rfl | exact Bool.noConfusion h

theorem asg_ok {x : Str} {i : Nat} {e : Expr} {pe : PE} {px pos : Pos} (hc : noComp e = true) (hi : slotOf sc x = some i) (he : ES prog w mg mb hB n sc e pe) : XS prog w mg mb hB n sc (.Assign [.Name x px] e pos) (.asg i pe) := by
  intro N F env A C0 h0 C σ s σ' f X h
  obtain ⟨v, e1, h⟩ := Option.map_eq_some_iff.mp h
  cases h
  refine wpAny_Assign_Name (seqE (he X.cx e1) fun u s1 ⟨k1, r1⟩ => ?_) (swaps_no hc)
  refine store_ok (X.keep (kheap k1)) hi r1 fun h' tk hk Y => ?_
  exact ⟨C, (Big.of_kn (kheap k1)).trans (.xs hk), (Same.of k1).trans .heap, Y, rfl⟩

theorem Fra.plus {C : RC} {σ : St} {h h' : Heap} {p : Addr → Prop} (X : Fra prog w mg mb hB n sc F env A C0 h0 C σ h) (k : KN h h') (hp : ∀ b, p b → hsz h ≤ b ∧ ∃ o, NoTab o ∧ h'.get? b = some o) :
    Fra prog w mg mb hB n sc F env A C0 h0 (C.plus p) σ h' := by
  have S : Sub C (C.plus p) h h' := .plus k fun b q => (hp b q).1
  have I := X.cx.I
  have X' := X.keep k
  have hszz : hsz h0 ≤ hsz h := by
    obtain ⟨m, hn⟩ := X.ns
    exact Nat.le_trans X.xl.2 (Nat.le_of_lt (ns_hlt hn))
  refine ⟨⟨X.cx.FS, ⟨I.base, I.kind, I.glb, I.blt, I.cdv, I.top.trans k, I.knd, I.cel, fun x i v e1 e2 => ?_, ⟨fun j vs e => ?_, fun b hb => ?_⟩⟩, X.cx.R⟩, X.b0, X.k0.trans k, fun b hb => ?_, fun b hb => .inl (X.xw b hb), X.st, X'.ns, ⟨.inl X.xl.1, X.xl.2⟩, fun x c e => ?_, X.ci, X'.ad, fun j a vs e1 e2 => .inl (X.ax j a vs e1 e2), X.ai, X.al, X.nf, X.x00⟩
  · obtain ⟨u, Se, r⟩ := I.slots x i v e1 e2
    exact ⟨u, Se.keep k, Rep.mono S _ _ r⟩
  · obtain ⟨a, xs, h1, h2, h3⟩ := I.W.own j vs e
    exact ⟨a, xs, h1, k.plain h2, RepL.mono S _ _ h3⟩
  · rcases hb with hb | hb
    · obtain ⟨o, nt, e⟩ := I.W.lt b hb
      exact ⟨o, nt, k.nt _ _ nt e⟩
    · exact (hp b hb).2
  · rcases hb with hb | hb
    · exact X.x0 b hb
    · exact .inr (Nat.le_trans hszz (hp b hb).1)
  · obtain ⟨a, b, c⟩ := X'.cl x c e
    exact ⟨.inl a, b, c⟩

/-- a comprehension's names go -/
theorem Fra.lose {C : RC} {σ : St} {h h' : Heap} {L : Addr} {m : Str → Option Value} (Y : Fra prog w mg mb hB n sc F env A C0 h0 (C.plus (· = L)) σ h) (hk : ∀ b o, b ≠ L → h.get? b = some o → h'.get? b = some o) (hn : h.Ns L m) (hL : env.locals ≠ L) (hL0 : hsz h0 ≤ L)
    (hx : ¬ C.X L) (xw : ∀ b, C0.X b → C.X b) (xl : C.X env.locals) (xc : ∀ x c, env.cells.lookup x = some c → C.X c) (ax : ∀ (k : Nat) a vs, σ.O[k]? = some (some vs) → C.ads[k]? = some a → C.X a) :
    Fra prog w mg mb hB n sc F env A C0 h0 C σ h' := by
  have I := Y.cx.I
  have S : Sub (C.plus (· = L)) (C.plus (· = L)) h h' := .xs fun b o hb e => hk b o (fun q => hb (xplus (p := (· = L)) q)) e
  have k0 : KN h0 h' := Y.k0.above hL0 hk
  have ncell : ∀ {a v}, h.IsCell a v → a ≠ L := fun hc => (ns_ne_cell hn hc).symm
  have nlist : ∀ {a xs}, h.PlainList a xs → a ≠ L := fun hc => (ns_ne_list hn hc).symm
  have cellk : ∀ {a v}, h.IsCell a v → h'.IsCell a v := fun hc => by
    obtain ⟨o, e1, e2⟩ := id hc
    exact ⟨o, hk _ _ (ncell hc) e1, e2⟩
  refine ⟨⟨Y.cx.FS, ⟨I.base, I.kind, I.glb, I.blt, I.cdv, Y.b0.trans k0, I.knd, I.cel, fun x i v e1 e2 => ?_, ⟨fun j vs e => ?_, fun b hb => ?_⟩⟩, Y.cx.R⟩, Y.b0, k0, fun b hb => Y.x0 b (.inl hb), xw, Y.st, ?_, ⟨xl, Y.xl.2⟩, fun x c e => ?_, Y.ci, fun j a e => ?_, ax, Y.ai, Y.al, Y.nf, Y.x00⟩
  · obtain ⟨u, Se, r⟩ := I.slots x i v e1 e2
    refine ⟨u, ?_, RC.plus_wide (p := (· = L)) (Rep.mono S _ _ r)⟩
    rcases Se with ⟨a, m, b, c⟩ | ⟨a, c, b, d⟩
    · exact .inl ⟨a, m, b.at' fun o e => hk _ o hL e, c⟩
    · exact .inr ⟨a, c, b, cellk d⟩
  · obtain ⟨a, xs, h1, h2, h3⟩ := I.W.own j vs e
    exact ⟨a, xs, h1, h2.at fun o e => hk _ o (nlist h2) e, RC.plus_wideL (p := (· = L)) (RepL.mono S _ _ h3)⟩
  · obtain ⟨o, nt, e⟩ := I.W.lt b (.inl hb)
    exact ⟨o, nt, hk b o (fun q => hx (q ▸ hb)) e⟩
  · obtain ⟨m, hn⟩ := Y.ns
    exact ⟨m, hn.at' fun o e => hk _ o hL e⟩
  · obtain ⟨_, b, v, hc⟩ := Y.cl x c e
    exact ⟨xc x c e, b, v, cellk hc⟩
  · obtain ⟨b, xs, hp⟩ := Y.ad j a e
    exact ⟨b, xs, hp.at fun o e => hk _ o (nlist hp) e⟩

theorem asgc_ok {elt iter : Expr} {x y : Str} {px py : Pos} {ifs : List Expr} {sc2 : Scope} {pos spos : Pos} {i j : Nat} {pe : PE} {pit : PIt} {cs : PEs}
    (hok : compOk sc sc2 x = true) (hns : noSet iter = true) (hi : slotOf sc2 x = some i) (hit : IS prog w mg mb hB n sc iter pit) (he : ES prog w mg mb hB n sc2 elt pe) (hc : CS prog w mg mb hB n sc2 ifs cs) (hj : slotOf sc y = some j) :
    XS prog w mg mb hB n sc (.Assign [.Name y py] (.ListComp elt [⟨.Name x px, iter, ifs, 0⟩] sc2 pos) spos) (.asg j (.comp pe i pit cs (cFr sc sc2))) := by
  intro N F env A C0 h0 C σ s σ' f X h
  obtain ⟨v, e1, h⟩ := Option.map_eq_some_iff.mp h
  cases h
  have hsw : ∃ b, swapsWith (.ListComp elt [⟨.Name x px, iter, ifs, 0⟩] sc2 pos) (some (.Name y py)) spos.line env = pure b := ⟨_, rfl⟩
  obtain ⟨b, hsw⟩ := hsw
  cases b with
  | false =>
    refine wpAny_Assign_Name (seqE (comp_okE hok hns hi hit he hc X.cx e1) fun u s1 ⟨k1, r1⟩ => ?_) hsw
    refine store_ok (X.keep (kheap k1)) hj r1 fun h' tk hk Y => ?_
    exact ⟨C, (Big.of_kn (kheap k1)).trans (.xs hk), (Same.of k1).trans .heap, Y, rfl⟩
  | true =>
    have ec := e1
    obtain ⟨its, e0, hv⟩ := Option.bind_eq_some_iff.mp ec
    obtain ⟨res, e2, rfl⟩ := Option.map_eq_some_iff.mp hv
    obtain ⟨hlen, hw⟩ := hit σ.O X.cx (.inl ⟨rfl, e0⟩)
    have hn := compOk_names hok
    rw [exec_Assign_Name_used _ _ _ _ hsw]
    refine wpAny_bind (wpAny_standAt (wpAny_bind ?_))
    show wpAny _ A (do let _ ← comprehension (.ListComp elt [⟨.Name x px, iter, ifs, 0⟩] sc2 pos) sc2 env _ (newList []) false (eval iter env) (some (assign (.Name y py) env))) _ _ s
    refine wpAny_bind (seqE (P := fun _ s' => Res prog w mg mb hB n sc F env A C0 h0 C s (σ.put j (.list res)) .next .next s') (wpAny_comprehension_free (use := some (assign (.Name y py) env)) (E := noE) rfl (fold_none hns) (comp_closure X.cx hok) hn.1 (fun p hp => (hn.2 p hp).1) ?_) fun _ s' hq => wpAny_pure (wpAny_pure hq))
    refine seqE hw fun xv s₁ ⟨k1, hpi⟩ => seqE (hpi A) fun it s₂ hitp => ?_
    have X1 := X.keep (kheap k1)
    refine comp_block X1.cx hok hi he hc hitp hlen e2 ?_
    intro D L s' m' k2 hL hnL hr
    show wpAny _ A (assign (.Name y py) env (.ref D)) _ _ _
    have Y := X1.plus (p := (· = L)) (kheap k2) (fun b q => by subst q; exact ⟨hL, ns_live hnL⟩)
    refine wpAny_assign_Name (store_ok2 Y hj hr fun h₃ tk₃ hk₃ hk₃' Y3 => ?_)
    have hlt : env.locals < L := by
      obtain ⟨m, hn⟩ := X1.ns
      exact Nat.lt_of_lt_of_le (ns_hlt hn) hL
    have hLX : ¬ C.X L := fun q => by
      obtain ⟨o, _, e⟩ := X1.cx.I.W.lt _ q
      exact Nat.lt_irrefl _ (Nat.lt_of_lt_of_le (hsz_lt e) hL)
    have hL0 : hsz h0 ≤ L := by
      obtain ⟨m, hn⟩ := X1.ns
      exact Nat.le_trans (Nat.le_trans X1.xl.2 (Nat.le_of_lt (ns_hlt hn))) hL
    have hLn : env.locals ≠ L := addr_ne hlt
    have hcl : ∀ x c, env.cells.lookup x = some c → L ≠ c := fun x c e => by
      obtain ⟨_, _, v, hc⟩ := X1.cl x c e
      exact (addr_ne (Nat.lt_of_lt_of_le (cell_hlt hc) hL)).symm
    have hnL3 : h₃.Ns L m' := hnL.at' fun o e => hk₃' L o hLn.symm hcl e
    refine ⟨m', hnL3, fun h' hs' => ?_⟩
    have Z := Y3.lose hs'.extBut hnL3 hLn hL0 hLX X1.xw X1.xl.1 (fun x c e => (X1.cl x c e).1) X1.ax
    refine ⟨C, ?_, (Same.of k1).trans ((Same.of k2).trans .heap), Z, rfl⟩
    refine (Big.of_kn (kheap k1)).trans ⟨fun _ _ _ _ x => x, rfl, fun _ _ x => x, fun b o nt hx e => ?_⟩
    have hbL : b ≠ L := addr_ne (Nat.lt_of_lt_of_le (hsz_lt e) hL)
    refine hs'.extBut b o hbL (hk₃ b o ?_ ((kheap k2).nt b o nt e))
    rintro (q | q)
    · exact hx q
    · exact hbL q
end
end Mine

namespace Mine
open StrLaws

theorem slot_md_get : Slot "method_descriptor" "__get__" "method_descriptor.__get__" :=
  .of (owner := "method_descriptor") (n := "__get__") (by rw [typeLookup_type, builtinLookup_eq_fast]; kernel_rfl) (by decide +kernel) (by decide +kernel) (by decide +kernel)
    (by first | exact .inl (by decide +kernel) | exact .inr (by decide +kernel)) (by rw [isSubtype_type]; kernel_rfl)
theorem entry_md_get : entryFor table "method_descriptor.__get__" = some Builtin.«method_descriptor.__get__» := entryFor_of_tree (by kernel_rfl)
theorem args_md_get (a b c : Value) : argsOk "method_descriptor.__get__" ⟨[a, b, c], []⟩ := by unfold argsOk; kernel_rfl
theorem owner_app : (".".intercalate ("list.append".cutAt '.').dropLast) = "list" := by
  have e0 : "list.append".cutAt '.' = ["list", "append"] := by first | rfl | decide +kernel
  rw [e0]; decide +kernel
theorem sub_app : isSubtype (.type "list") (.type (".".intercalate ("list.append".cutAt '.').dropLast)) = pure true := by
  rw [owner_app, isSubtype_type]; kernel_rfl
theorem told_app : Manifest.toldItsClass.contains "list.append" = false := by decide +kernel
theorem md_no_set : typeLookup (.type "method_descriptor") "__set__" = pure none := by rw [typeLookup_type, builtinLookup_eq_fast]; kernel_rfl

theorem md_no_del : typeLookup (.type "method_descriptor") "__delete__" = pure none := by rw [typeLookup_type, builtinLookup_eq_fast]; kernel_rfl

section
variable {prog : Program} {w : World} {A : Around} {E : Value → Shared → Prop} {h : Heap} {g : Array GenState} {d : Drawn} {t : Nat} {os : OsState} {a : Addr} {o : Obj}

theorem app_get {R : Result → Shared → Prop} (hx : h.get? a = some o) (hc : o.cls = .type "list") (hq : R (.ok (.ret (.ref h.objs.size))) ⟨h.push (appObj a), g, d, t, os⟩) :
    codeAny (model prog w) A (.call (.builtin "method_descriptor.__get__") ⟨[.builtin "list.append", .ref a, .type "list"], []⟩) R ⟨h, g, d, t, os⟩ := by
  have hT : (⟨h, g, d, t, os⟩ : Shared).TypeIs (.ref a) "list" := ⟨_, hx, hc⟩
  have hT5 : (⟨h, g, d, t, os⟩ : Shared).TypeIs (.builtin "list.append") "method_descriptor" := type_list_append
  have f8 := sub_app
  have f9 := told_app
  refine codeAny_call_builtin slot_md_get.plain entry_md_get (slot_md_get.check _ _ _ _ _ _ _ _ hT5 (args_md_get _ _ _) ?_)
  unfold Builtin.«method_descriptor.__get__»
  refine wpAny_bind (wpAny_of_eq (a := (Value.builtin "list.append", some (Value.ref a), some (Value.type "list"))) (by rfl) ?_)
  dsimp only
  rw [f9]
  simp only [Bool.false_eq_true, if_false]
  refine wpAny_bind ?_
  wp_delta
  refine wpAny_bind ?_
  wp_delta
  refine wpAny_pure ?_
  dsimp only
  refine wpAny_bind ?_
  refine wpAny_isInstance hT f8 ?_
  simp only [Bool.not_true, Bool.false_eq_true, if_false]
  refine wpAny_pure ?_
  refine wpAny_bind (wpAny_newObj_type (wpAny_pure hq))

set_option maxHeartbeats 1000000 in
theorem app_entry {tk : Tok} {Q : Fin → Shared → Prop} {xs : Array Value} {m : Nat} (hx : h.get? a = some { cls := .type "list", data := .seq xs m }) (hq : Q (.done (.ret (.ref h.objs.size))) ⟨h.push (appObj a), g, d, t, os⟩) :
    wpAny (model prog w) A (Builtin.«object.__getattribute__» ⟨[.ref a, .str "append" tk], []⟩) Q E ⟨h, g, d, t, os⟩ := by
  have hT : (⟨h, g, d, t, os⟩ : Shared).TypeIs (.ref a) "list" := ⟨_, hx, rfl⟩
  have hT5 : (⟨h, g, d, t, os⟩ : Shared).TypeIs (.builtin "list.append") "method_descriptor" := type_list_append
  have f4 := F.slot_list_append.lookup
  have f5 := type_list_append
  have f6 := slot_md_get.lookup
  have f7 := md_no_set
  have f8 := md_no_del
  repeat (first | assumption | wp_step)
  refine app_get hx rfl ?_
  exact wpAny_pure hq

theorem app_call {tk : Tok} {R : Result → Shared → Prop} {xs : Array Value} {m : Nat} (hx : h.get? a = some { cls := .type "list", data := .seq xs m }) (hq : R (.ok (.ret (.ref h.objs.size))) ⟨h.push (appObj a), g, d, t, os⟩) :
    codeAny (model prog w) A (.call (.builtin "list.__getattribute__") ⟨[.ref a, .str "append" tk], []⟩) R ⟨h, g, d, t, os⟩ :=
  codeAny_call_builtin F.slot_list_getattribute.plain F.entry_list_ga (F.slot_list_getattribute.check _ _ _ _ _ _ _ _ (show (⟨h, g, d, t, os⟩ : Shared).TypeIs (.ref a) "list" from ⟨_, hx, rfl⟩) (F.args_list_getattribute_2 _ _) (app_entry hx hq))

theorem app_attr {Q : Value → Shared → Prop} {xs : Array Value} {m : Nat} (hx : h.get? a = some { cls := .type "list", data := .seq xs m }) (hq : Q (.ref h.objs.size) ⟨h.push (appObj a), g, d, t + 1, os⟩) :
    wpAny (model prog w) A (getAttr (.ref a) "append" true) Q E ⟨h, g, d, t, os⟩ := by
  have hT : (⟨h, g, d, t, os⟩ : Shared).TypeIs (.ref a) "list" := ⟨_, hx, rfl⟩
  have hT' : (⟨h, g, d, t + 1, os⟩ : Shared).TypeIs (.ref a) "list" := ⟨_, hx, rfl⟩
  have f2 := F.slot_list_getattribute.lookup
  have f3 := F.slot_list_getattribute.bind (.ref a)
  unfold getAttr
  iterate 20 (first | assumption | wp_step)
  repeat (first | assumption | wp_step)
  refine app_call hx ?_
  repeat (first | assumption | wp_step)
end

theorem sub_list_module : isSubtype (.type "list") (.type "module") = pure false := by rw [isSubtype_type]; kernel_rfl
theorem kind_app : builtinKind "list.append" = some .method := by decide +kernel
theorem sg_app : Manifest.signature? "list.append" = some ⟨.oneArg, "list.append", "append", .self, [⟨"object", .posOnly, true⟩]⟩ := by
  rw [signature?_of (id := "list.append") (n := ['d', 'n', 'e', 'p', 'p', 'a']) (o := ['t', 's', 'i', 'l']) (by kernel_rfl) F.owner_list]; kernel_rfl
theorem vm_app : Manifest.varargsMethods.contains "list.append" = false := by decide +kernel
theorem ck_app (a b : Value) : Bind.checkArgs "list.append" ⟨.oneArg, toString (Bind.lastOf "list") ++ toString "." ++ toString (Bind.lastOf "list.append"), "append", .self, [⟨"object", .posOnly, true⟩]⟩ ⟨[a, b], []⟩ = pure () := by kernel_rfl
section
variable {prog : Program} {w : World} {A : Around} {E : Value → Shared → Prop} {s : Shared}
theorem app_check {l : Addr} {x : Value} {xs : Array Value} {m : Nat} {Q : Unit → Shared → Prop} (ho : s.heap.get? l = some { cls := .type "list", data := .seq xs m }) (h : Q () s) : wpAny (model prog w) A (checkBoundCall "list.append" ⟨[.ref l, x], []⟩) Q E s := by
  have hT : s.TypeIs (.ref l) "list" := ⟨_, ho, rfl⟩
  have hck := ck_app (.ref l) x
  have h1 := sub_list_module
  unfold checkBoundCall
  rw [sg_app, kind_app]
  dsimp only
  rw [if_neg (by decide)]
  refine wpAny_bind (wpAny_isInstance hT h1 ?_)
  rw [vm_app]
  rw [if_neg (by decide)]
  have hty : isType (.ref l) = isType (.ref l) := rfl
  repeat (first | assumption | wp_step)

theorem app_callv {q l : Addr} {items : Array Value} {x : Value} {Q : Value → Shared → Prop} (hq : s.heap.get? q = some (appObj l)) (hl : s.heap.PlainList l items)
    (hQ : ∀ h', h'.PlainList l (items.push x) → Heap.SameBut l s.heap h' → Q .none { s with heap := h' }) (hsz : items.size ≤ sizeLine := by size_fits) :
    wpAny (model prog w) A (call (.ref q) [x]) Q E s := by
  obtain ⟨n, ho⟩ := hl
  refine wpAny_call (codeAny_of_tree ?_)
  refine wpAny_bind (m := load q) (wpAny_load hq ?_)
  have hb : (Value.type "builtin_function_or_method" == Value.type "method" || Value.type "builtin_function_or_method" == Value.type "builtin_function_or_method" || Value.type "builtin_function_or_method" == Value.type "method-wrapper") = true := by decide
  have hb2 : (Value.type "builtin_function_or_method" != Value.type "method") = true := by decide
  refine wpAny_ite_true hb (wpAny_ite_true hb2 ?_)
  refine wpAny_bind (app_check ho (wpAny_pure ?_))
  refine ⟨Code.quiet_builtin _ (by decide +kernel), codeAny_builtin entry_list_append ?_⟩
  show wpAny _ _ (updateSeq l (·.push x) >>= fun _ => ret .none) _ _ s
  refine wpAny_bind ?_
  refine wpAny_updateSeq ho rfl (wpAny_pure ?_)
  refine hQ _ ⟨n + 1, ?_⟩ (Heap.SameBut.update ..)
  rw [Heap.get?_update_self _ ho (by rw [Obj.mapSeq_push_plain]; rfl), Obj.mapSeq_push_plain]
end
end Mine

namespace Mine
open StrLaws
section
variable {prog : Program} {w : World} {mg mb : Str → Option Value} {hB : Heap} {n : Nat} {sc : Scope} {F : PF1} {env : Env} {A : Around} {C0 : RC} {h0 : Heap}

/-! own lists -/
noncomputable def RC.own (C : RC) (a : Addr) : RC := { X := fun b => C.X b ∨ b = a, st := C.st, ads := C.ads ++ [a] }
theorem own_big {C : RC} {a : Addr} {h h' : Heap} (hk : KN h h') (ha : hsz h ≤ a) : Big C (C.own a) h h' :=
  ⟨fun b o _ e hx q => q.elim hx fun q => Nat.lt_irrefl _ (Nat.lt_of_lt_of_le (q ▸ hsz_lt e) ha), rfl, fun k b e => by
    have hl : k < C.ads.length := (List.getElem?_eq_some_iff.mp e).1
    show (C.ads ++ [a])[k]? = some b
    rw [List.getElem?_append_left hl]; exact e, fun b o nt _ e => hk.nt b o nt e⟩

noncomputable def RC.add (C : RC) (a : Addr) : RC := { C with ads := C.ads ++ [a] }
theorem add_sub {C : RC} {a : Addr} {h : Heap} : Sub C (C.add a) h h :=
  ⟨fun _ _ _ _ x => x, rfl, fun k b e => by
    have hl : k < C.ads.length := (List.getElem?_eq_some_iff.mp e).1
    show (C.ads ++ [a])[k]? = some b
    rw [List.getElem?_append_left hl]; exact e, fun _ _ _ _ e => e⟩
theorem Fra.adopt {C : RC} {σ : St} {h : Heap} {a : Addr} {xs : Array Value} {vs : List PV} (Y : Fra prog w mg mb hB n sc F env A C0 h0 C σ h) (hax : C.X a) (ha0 : hsz h0 ≤ a) (hp : h.PlainList a xs) (hr : RepL C h vs xs.toList)
    (hna : ∀ k : Nat, C.ads[k]? ≠ some a) : Fra prog w mg mb hB n sc F env A C0 h0 (C.add a) ⟨σ.G, σ.O ++ [some vs]⟩ h := by
  have I := Y.cx.I
  have S : Sub C (C.add a) h h := add_sub
  have al := Y.al
  have get : ∀ {k : Nat} {b : Addr}, (C.add a).ads[k]? = some b → C.ads[k]? = some b ∨ (k = C.ads.length ∧ b = a) := by
    intro k b e
    have e' : (C.ads ++ [a])[k]? = some b := e
    rcases Nat.lt_or_ge k C.ads.length with hl | hl
    · rw [List.getElem?_append_left hl] at e'; exact .inl e'
    · rw [List.getElem?_append_right hl] at e'
      have : k - C.ads.length = 0 := by
        have := (List.getElem?_eq_some_iff.mp e').1
        simp at this; and_intros
      rw [this] at e'
      simp at e'
      exact .inr ⟨by and_intros, e'.symm⟩
  refine ⟨⟨Y.cx.FS, ⟨I.base, I.kind, I.glb, I.blt, I.cdv, I.top, I.knd, I.cel, fun x i v e1 e2 => ?_, ⟨fun j vs' e => ?_, I.W.lt⟩⟩, Y.cx.R⟩, Y.b0, Y.k0, Y.x0, Y.xw, Y.st, Y.ns, Y.xl, Y.cl, Y.ci, fun k b e => ?_, fun k b vs' e1 e2 => ?_, fun k j b e1 e2 => ?_, ?_, Y.nf, Y.x00⟩
  · obtain ⟨u, Se, r⟩ := I.slots x i v e1 e2
    exact ⟨u, Se, Rep.mono S _ _ r⟩
  · rcases Nat.lt_or_ge j σ.O.length with hl | hl
    · rw [List.getElem?_append_left hl] at e
      obtain ⟨b, ys, h1, h2, h3⟩ := I.W.own j vs' e
      exact ⟨b, ys, S.ads _ _ h1, h2, RepL.mono S _ _ h3⟩
    · rw [List.getElem?_append_right hl] at e
      have : j - σ.O.length = 0 := by
        have := (List.getElem?_eq_some_iff.mp e).1
        simp at this; and_intros
      rw [this] at e
      simp at e
      subst e
      refine ⟨a, xs, ?_, hp, RepL.mono S _ _ hr⟩
      show (C.ads ++ [a])[j]? = some a
      have hj : j = C.ads.length := by and_intros
      rw [hj]; simp
  · rcases get e with q | ⟨_, rfl⟩
    · exact Y.ad k b q
    · exact ⟨ha0, xs, hp⟩
  · rcases get e2 with q | ⟨_, rfl⟩
    · have hl : k < σ.O.length := by
        have := (List.getElem?_eq_some_iff.mp q).1
        and_intros
      rw [List.getElem?_append_left hl] at e1
      exact Y.ax k b vs' e1 q
    · exact hax
  · rcases get e1 with q | ⟨q, rfl⟩ <;> rcases get e2 with q' | ⟨q', q2⟩
    · exact Y.ai k j b q q'
    · exact absurd (q2 ▸ q) (hna k)
    · exact absurd q' (hna j)
    · rw [q, q']
  · show (C.ads ++ [a]).length = (σ.O ++ [some vs]).length
    simp [al]

theorem Fra.size {C : RC} {σ : St} {h : Heap} (X : Fra prog w mg mb hB n sc F env A C0 h0 C σ h) : hsz h0 ≤ hsz h := by
  obtain ⟨m, hn⟩ := X.ns
  exact Nat.le_trans X.xl.2 (Nat.le_of_lt (ns_hlt hn))
theorem Fra.noad {C : RC} {σ : St} {h : Heap} (X : Fra prog w mg mb hB n sc F env A C0 h0 C σ h) {a : Addr} (ha : hsz h ≤ a) (k : Nat) : C.ads[k]? ≠ some a := fun e => by
  obtain ⟨_, xs, m, e'⟩ := X.ad k a e
  exact Nat.lt_irrefl _ (Nat.lt_of_lt_of_le (hsz_lt e') ha)

/-- a fresh list made own -/
theorem Fra.fresh {C : RC} {σ : St} {h h' : Heap} {a : Addr} {xs : Array Value} {vs : List PV} (X : Fra prog w mg mb hB n sc F env A C0 h0 C σ h) (k : KN h h') (ha : hsz h ≤ a) (hp : h'.PlainList a xs) (hr : RepL (C.plus (· = a)) h' vs xs.toList) :
    Fra prog w mg mb hB n sc F env A C0 h0 (C.own a) ⟨σ.G, σ.O ++ [some vs]⟩ h' :=
  (X.plus (p := (· = a)) k fun b q => by subst q; exact ⟨ha, list_live hp⟩).adopt (.inr rfl) (Nat.le_trans X.size ha) hp hr (X.noad ha)

theorem own_rep {C : RC} {σ : St} {h : Heap} {a : Addr} (X : Fra prog w mg mb hB n sc F env A C0 h0 (C.own a) ⟨σ.G, σ.O ++ [some vs]⟩ h) : Rep (C.own a) h (.own σ.O.length) (.ref a) := by
  refine ⟨a, ?_, rfl⟩
  have : (C.ads ++ [a]).length = (σ.O ++ [some vs]).length := X.al
  simp at this
  show (C.ads ++ [a])[σ.O.length]? = some a
  rw [← this]; simp

theorem new_ok {C : RC} {σ : St} {s s1 : Shared} {x : Str} {i : Nat} {a : Addr} {xs : Array Value} {vs : List PV} {E : Value → Shared → Prop} (X : Fra prog w mg mb hB n sc F env A C0 h0 C σ s.heap) (k : Keeps s s1) (ha : hsz s.heap ≤ a) (hp : s1.heap.PlainList a xs)
    (hr : RepL (C.plus (· = a)) s1.heap vs xs.toList) (hi : slotOf sc x = some i) :
    wpAny (model prog w) A (storeName env x (.ref a)) (fun _ s' => Res prog w mg mb hB n sc F env A C0 h0 C s (σ.new i vs) .next .next s') E s1 := by
  have Y := X.fresh (kheap k) ha hp hr
  refine store_ok Y hi (own_rep Y) fun h' tk hk Z => ?_
  exact ⟨C.own a, (own_big (kheap k) ha).trans (.xs hk), (Same.of k).trans .heap, Z, rfl⟩

/-- a list display and where it lies -/
theorem list_fresh {es : List Expr} {ps : PEs} {pos : Pos} (hs : SS prog w mg mb hB n sc es ps) (hn : NoStars es = true) (hl : ps.len ≤ 64) {C : RC} {G : Slots} {O : Owns} {s : Shared} {vs : List PV} (K : Cx prog w mg mb hB n sc F C G O env A s.heap) (hv : evs F O G ps = some vs) :
    wpAny (model prog w) A (eval (.List es pos) env) (fun u s' => Keeps s s' ∧ ∃ a xs, u = .ref a ∧ hsz s.heap ≤ a ∧ s'.heap.PlainList a xs ∧ RepL (C.plus (· = a)) s'.heap vs xs.toList) noE s := by
  refine wpAny_List_spliced ?_
  rw [backTo_of hn]
  refine seqE (hs K hv) fun us s1 ⟨k1, r1⟩ => ⟨?_, ktrans k1 kpush, _, us.toArray, rfl, ?_, ⟨_, Heap.get?_push_size _ rfl⟩, ?_⟩
  · rw [r1.length, evs_len hv, sizeLine_eq]; and_intros
  · exact Nat.le_trans (kheap k1).szle (hsz_size _)
  · have S : Sub C (C.plus (· = s1.heap.objs.size)) s1.heap (s1.heap.push { cls := .type "list", data := .seq us.toArray }) := .plus (.push _ _) fun b q => by subst q; exact hsz_size _
    exact RepL.mono S _ _ (by simpa using r1)
end
end Mine

namespace Mine
open StrLaws
section
variable {prog : Program} {w : World} {mg mb : Str → Option Value} {hB : Heap} {n : Nat} {sc : Scope} {F : PF1} {env : Env} {A : Around} {C0 : RC} {h0 : Heap}

theorem Cx.inter {C : RC} {G : Slots} {O : Owns} {h : Heap} (K : Cx prog w mg mb hB n sc F C G O env A h) : interactive env = false := by
  unfold interactive; rw [K.I.kind]; rfl

theorem asgo_ok {x : Str} {i : Nat} {es : List Expr} {ps : PEs} {px lp pos : Pos} (hi : slotOf sc x = some i) (hs : SS prog w mg mb hB n sc es ps) (hn : NoStars es = true) (hl : ps.len ≤ 64) :
    XS prog w mg mb hB n sc (.Assign [.Name x px] (.List es lp) pos) (.asgo i ps) := by
  intro N F env A C0 h0 C σ s σ' f X h
  obtain ⟨vs, e1, h⟩ := Option.map_eq_some_iff.mp h
  cases h
  refine wpAny_Assign_Name (seqE (list_fresh hs hn hl X.cx e1) fun u s1 ⟨k1, a, xs, hu, ha, hp, hr⟩ => ?_)
  subst hu
  exact new_ok X k1 ha hp hr hi

theorem get_own {σ : St} {k : Nat} {p : Nat × List PV} (e : σ.own k = some p) : p.1 = k ∧ σ.O[k]? = some (some p.2) := by
  obtain ⟨vs, e', rfl⟩ := Option.map_eq_some_iff.mp e
  obtain ⟨q, e2, hq⟩ := Option.bind_eq_some_iff.mp e'
  cases hq; exact ⟨rfl, e2⟩
theorem own_at {σ : St} {i : Nat} {k : Nat × List PV} (e : σ.ownAt i = some k) : σ.G[i]? = some (some (.own k.1)) ∧ σ.O[k.1]? = some (some k.2) := by
  obtain ⟨v, e1, e⟩ := Option.bind_eq_some_iff.mp e
  obtain ⟨q, e1, hq⟩ := Option.bind_eq_some_iff.mp e1
  cases hq
  obtain ⟨j, e2, e⟩ := Option.bind_eq_some_iff.mp e
  obtain ⟨h1, h2⟩ := get_own e
  rw [asOwn_eq e2] at e1
  rw [h1]; exact ⟨e1, h2⟩
theorem app_at {σ : St} {i : Nat} {k : Nat × List PV} (e : σ.appAt i = some k) : σ.G[i]? = some (some (.app k.1)) ∧ σ.O[k.1]? = some (some k.2) := by
  obtain ⟨v, e1, e⟩ := Option.bind_eq_some_iff.mp e
  obtain ⟨q, e1, hq⟩ := Option.bind_eq_some_iff.mp e1
  cases hq
  obtain ⟨j, e2, e⟩ := Option.bind_eq_some_iff.mp e
  obtain ⟨h1, h2⟩ := get_own e
  rw [asApp_eq e2] at e1
  rw [h1]; exact ⟨e1, h2⟩
theorem ev_var {F : PF1} {O : Owns} {G : Slots} {i : Nat} {v : PV} (h : G[i]? = some (some v)) : ev F O G (.var i) = some v := Option.bind_eq_some_iff.mpr ⟨_, h, rfl⟩
theorem evs_one {F : PF1} {O : Owns} {G : Slots} {p : PE} {v : PV} (h : ev F O G p = some v) : evs F O G (.cons p .nil) = some [v] := Option.bind_eq_some_iff.mpr ⟨v, h, rfl⟩

theorem asga_ok {x y : Str} {i j : Nat} {px py ap pos : Pos} (hd : dbg y = false) (hi : slotOf sc x = some i) (hj : slotOf sc y = some j) :
    XS prog w mg mb hB n sc (.Assign [.Name x px] (.Attribute (.Name y py) "append" ap) pos) (.asga i j) := by
  intro N F env A C0 h0 C σ s σ' f X h
  obtain ⟨k, e1, h⟩ := Option.map_eq_some_iff.mp h
  cases h
  obtain ⟨kk, vs⟩ := k
  have hown := own_at e1
  refine wpAny_Assign_Name ?_
  rw [arm_eval_Attribute]
  have eb : attributeBase (.Name y py) "append" env (eval (.Name y py) env) = eval (.Name y py) env := base_plain rfl
  rw [eb]
  refine wpAny_bind (seqE (name_ok hd hj X.cx (pv := .own kk) (ev_var hown.1)) fun u s1 ⟨k1, r1⟩ => ?_)
  obtain ⟨a, ha, rfl⟩ := r1
  have X1 := X.keep (kheap k1)
  obtain ⟨a', xs, h1, ⟨m, hp⟩, h3⟩ := X1.cx.I.W.own kk vs hown.2
  rw [ha] at h1; cases h1
  obtain ⟨hh, g, d, t, os⟩ := s1
  refine wpAny_bind (wpAny_standAt (wpAny_bind (wpAny_holding (app_attr hp ?_))))
  refine wpAny_bind (wpAny_letGoP (wpAny_pure ?_))
  have k2 : Keeps (⟨hh, g, d, t, os⟩ : Shared) ⟨hh.push (appObj a), g, d, t + 1, os⟩ := kpush
  have X2 := X1.keep (kheap k2)
  refine store_ok X2 hi (v := .app kk) ?_ fun h' tk hk Y => ?_
  · exact ⟨a, hh.objs.size, ha, rfl, X1.cx.I.W.fresh, Heap.get?_push_size _ rfl⟩
  · exact ⟨C, (Big.of_kn (kheap (ktrans k1 k2))).trans (.xs hk), (Same.of (ktrans k1 k2)).trans .heap, Y, rfl⟩

/-- the append itself -/
theorem push_res {C : RC} {σ : St} {s s2 : Shared} {k : Nat} {vs : List PV} {v : PV} {u : Value} {a : Addr} {xs : Array Value} {h' : Heap} (X2 : Fra prog w mg mb hB n sc F env A C0 h0 C σ s2.heap) (k12 : Keeps s s2) (ho : σ.O[k]? = some (some vs)) (ha : C.ads[k]? = some a)
    (hp : s2.heap.PlainList a xs) (hr : RepL C s2.heap vs xs.toList) (rv : Rep C s2.heap v u) (hp' : h'.PlainList a (xs.push u)) (hs : Heap.SameBut a s2.heap h') :
    Res prog w mg mb hB n sc F env A C0 h0 C s (σ.putO k (vs ++ [v])) .next .next { s2 with heap := h' } := by
  have Y := X2.putO (vs' := vs ++ [v]) ho ha hs hp' (by rw [Array.toList_push]; exact hr.append (RepL.one rv))
  exact ⟨C, (Big.of_kn (kheap k12)).trans (.xs (keepsX_of (X2.ax k a vs ho ha) hs)), (Same.of k12).trans .heap, Y, rfl⟩

theorem app_ok {x : Str} {i : Nat} {e : Expr} {pe : PE} {px ap p pos : Pos} (hd : dbg x = false) (hl : (ap.endLine == p.line) = true) (hn : NoStars [e] = true) (hi : slotOf sc x = some i) (he : ES prog w mg mb hB n sc e pe) :
    XS prog w mg mb hB n sc (.Expr (.Call (.Attribute (.Name x px) "append" ap) [e] [] p) pos) (.app i pe) := by
  intro N F env A C0 h0 C σ s σ' f X h
  obtain ⟨k, e1, h⟩ := Option.bind_eq_some_iff.mp h
  obtain ⟨v, e2, h⟩ := Option.bind_eq_some_iff.mp h
  obtain ⟨hlen, h⟩ := ite_some h
  cases h
  obtain ⟨hG, hO⟩ := own_at e1
  refine wpAny_Expr ?_ X.cx.inter
  refine wpAny_Call_method_lateS (base_plain rfl) (by rw [backTo_of hn]; rfl) hl (seqE (name_ok hd hi X.cx (pv := .own k.1) (ev_var hG)) fun u s1 r => ?_)
  obtain ⟨k1, a, ha, rfl⟩ := r
  have X1 := X.keep (kheap k1)
  obtain ⟨a', xs, h1, ⟨m, hp⟩, h3⟩ := X1.cx.I.W.own k.1 k.2 hO
  rw [ha] at h1; cases h1
  refine ⟨"list", _, PySem.F.plainAttrs_list, PySem.F.slot_list_append, type_list_append, ⟨_, hp, rfl⟩, fun b e => by cases e; exact ⟨_, hp, rfl⟩, ?_⟩
  rw [backTo_of hn]
  refine Calls.callWith_builtin any_of (evalArgs_of (seqE (ss_cons he ss_nil X1.cx (evs_one e2)) fun us s2 r => ?_))
  obtain ⟨k2, u, _, rfl, rv, rfl⟩ := r
  have hp2 : s2.heap.PlainList a xs := (kheap k2).plain ⟨m, hp⟩
  have hsz : xs.size ≤ sizeLine := by
    rw [show xs.size = k.2.length from h3.length]; exact Nat.le_trans hlen lim_size
  refine wpAny_list_append_plain (hsz := hsz) hp2 fun h' hp' hs => ?_
  exact push_res (X1.keep (kheap k2)) (ktrans k1 k2) hO ha hp2 (h3.keep (kheap k2)) rv hp' hs

theorem callWith_app {A : Around} {E : Value → Shared → Prop} {s : Shared} {pos : Pos} {q l : Addr} {args : List (Bool × Sem Value)} {Q : Value → Shared → Prop} (hp : args.any (·.1) = false)
    (h : wpAny (model prog w) A (evalArgs (.ref q) true args []) (fun x s₁ => s₁.heap.get? q = some (appObj l) ∧ wpAny (model prog w) A (call (.ref q) ([] ++ x.pos) x.kw) Q E s₁) E s) :
    wpAny (model prog w) A (callWith pos (.ref q) [] args []) Q E s := by
  refine wpAny_bind (m := holding [.ref q] (evalArgs (.ref q) true args [])) (wpAny_holding (wpAny_mono h (fun a s₁ h₁ => wpAny_bind (m := standAt pos) (wpAny_standAt ?_)) fun _ _ x => x))
  rw [hp]
  refine wpAny_bind (m := keeperOf (.ref q)) (wpAny_bind (m := load q) (wpAny_load h₁.1 ?_))
  have hb1 : (Value.type "builtin_function_or_method" != Value.type "method") = true := by decide
  have hb2 : (Value.type "builtin_function_or_method" == Value.type "builtin_function_or_method" || Value.type "builtin_function_or_method" == Value.type "method-wrapper") = true := by decide
  have hb1' : ((appObj l).cls != Value.type "method") = true := hb1
  have hb2' : ((appObj l).cls == Value.type "builtin_function_or_method" || (appObj l).cls == Value.type "method-wrapper") = true := hb2
  refine wpAny_ite_true hb1' ?_
  refine wpAny_pure ?_
  rw [if_pos hb2']
  exact wpAny_bind (wpAny_mono h₁.2 (fun r s₂ hr => wpAny_bind (wpAny_holding (wpAny_point (wpAny_pure hr)))) fun _ _ x => x)

theorem appf_ok {x : Str} {i : Nat} {e : Expr} {pe : PE} {px p pos : Pos} (hd : dbg x = false) (hn : NoStars [e] = true) (hi : slotOf sc x = some i) (he : ES prog w mg mb hB n sc e pe) :
    XS prog w mg mb hB n sc (.Expr (.Call (.Name x px) [e] [] p) pos) (.appf i pe) := by
  intro N F env A C0 h0 C σ s σ' f X h
  obtain ⟨k, e1, h⟩ := Option.bind_eq_some_iff.mp h
  obtain ⟨v, e2, h⟩ := Option.bind_eq_some_iff.mp h
  obtain ⟨hlen, h⟩ := ite_some h
  cases h
  obtain ⟨hG, hO⟩ := app_at e1
  refine wpAny_Expr ?_ X.cx.inter
  refine Call_Name (backTo_of hn) (seqE (name_ok hd hi X.cx (pv := .app k.1) (ev_var hG)) fun u s1 r => ?_)
  obtain ⟨k1, a, q, ha, rfl, hqx, hq⟩ := r
  have X1 := X.keep (kheap k1)
  obtain ⟨a', xs, h1, hp, h3⟩ := X1.cx.I.W.own k.1 k.2 hO
  rw [ha] at h1; cases h1
  refine callWith_app (l := a) any_of (evalArgs_of (seqE (ss_cons he ss_nil X1.cx (evs_one e2)) fun us s2 r => ?_))
  obtain ⟨k2, u, _, rfl, rv, rfl⟩ := r
  have hp2 : s2.heap.PlainList a xs := (kheap k2).plain hp
  have hsz : xs.size ≤ sizeLine := by
    rw [show xs.size = k.2.length from h3.length]; exact Nat.le_trans hlen lim_size
  refine ⟨(kheap k2).nt _ _ (IsVal.noTab (.inr ⟨_, rfl⟩)) hq, app_callv ((kheap k2).nt _ _ (IsVal.noTab (.inr ⟨_, rfl⟩)) hq) hp2 (fun h' hp' hs => ?_) hsz⟩
  exact push_res (X1.keep (kheap k2)) (ktrans k1 k2) hO ha hp2 (h3.keep (kheap k2)) rv hp' hs

theorem load_ok {C : RC} {G : Slots} {O : Owns} {s : Shared} {x : Str} {i : Nat} {v : PV} {Q : Value → Shared → Prop} {E : Value → Shared → Prop} (K : Cx prog w mg mb hB n sc F C G O env A s.heap) (hi : slotOf sc x = some i) (hd : dbg x = false) (hg : G[i]? = some (some v))
    (h : ∀ u, Rep C s.heap v u → Q u s) : wpAny (model prog w) A (loadName env x) Q E s := by
  have hd2 : (x == ("__classdict__" : Str)) = false := by unfold dbg at hd; simp only [Bool.or_eq_false_iff] at hd; exact hd.2
  obtain ⟨u, S, r⟩ := K.I.slots x i v hi hg
  rcases S with ⟨hk, m, hn, hm⟩ | ⟨hk, c, hc, hcell⟩
  · exact wpAny_loadName_local K.I.kind hk hn hm (h u r)
  · rcases hk with hk | hk
    · exact wpAny_loadName_cell K.I.kind hk hc hcell (h u r)
    · exact wpAny_loadName_free K.I.kind hk hc hcell (h u r) hd2

theorem plain2_or {x y : PV} (h : plain2 x y = true) : (∃ i j, asI x = some i ∧ asI y = some j) ∨ ∃ i j, asS x = some i ∧ asS y = some j := by
  unfold plain2 at h
  rcases Bool.or_eq_true_iff.mp h with h | h
  · have h := and_t h
    exact .inl ⟨_, _, Option.eq_some_of_isSome h.1, Option.eq_some_of_isSome h.2⟩
  · have h := and_t h
    exact .inr ⟨_, _, Option.eq_some_of_isSome h.1, Option.eq_some_of_isSome h.2⟩
theorem aug_ok {x : Str} {i : Nat} {e : Expr} {pe : PE} {px pos : Pos} (hd : dbg x = false) (hi : slotOf sc x = some i) (he : ES prog w mg mb hB n sc e pe) :
    XS prog w mg mb hB n sc (.AugAssign (.Name x px) .Add e pos) (.aug i .add pe) := by
  intro N F env A C0 h0 C σ s σ' f X h
  obtain ⟨xv, e1, h⟩ := Option.bind_eq_some_iff.mp h
  obtain ⟨yv, e2, h⟩ := Option.bind_eq_some_iff.mp h
  obtain ⟨q, e1, hq⟩ := Option.bind_eq_some_iff.mp e1
  cases hq
  refine wpAny_AugAssign_Name (load_ok X.cx hi hd e1 fun u ru => seqE (he X.cx e2) fun uy s1 r => ?_)
  obtain ⟨k1, r1⟩ := r
  have ru1 := ru.keep (kheap k1)
  obtain ⟨hp, h⟩ := ite_some h
  obtain ⟨r, hr, h⟩ := Option.map_eq_some_iff.mp h
  cases h
  have fin : ∀ {u : Value} {tk : Tok}, Rep C s1.heap r u → wpAny (model prog w) A (storeName env x u) (fun _ => Res prog w mg mb hB n sc F env A C0 h0 C s (σ.put i r) .next .next) noE { s1 with toks := tk } := fun {u tk} ru => by
    have k2 : Keeps s1 { s1 with toks := tk } := kp
    refine store_ok (s := { s1 with toks := tk }) (X.keep (kheap (ktrans k1 k2))) hi ru fun h' tk hk Y => ?_
    exact ⟨C, (Big.of_kn (kheap (ktrans k1 k2))).trans (.xs hk), (Same.of (ktrans k1 k2)).trans .heap, Y, rfl⟩
  rcases plain2_or hp with ⟨i1, i2, q1, q2⟩ | ⟨i1, i2, q1, q2⟩
  · obtain ⟨t, rfl⟩ := rep_asI q1 ru1
    obtain ⟨t', rfl⟩ := rep_asI q2 r1
    cases asI_eq q1; cases asI_eq q2; cases hr
    exact PyProof.Rows.iadd_int (fin rep_int)
  · obtain ⟨x1, t, rfl, rfl⟩ := rep_asS q1 ru1
    obtain ⟨y1, t', rfl, rfl⟩ := rep_asS q2 r1
    cases asS_eq q1; cases asS_eq q2
    obtain ⟨hsz, hr⟩ := ite_some (c := _ ≤ LIM) hr
    cases hr
    exact PyProof.Rows.iadd_str (fun t2 tk2 => fin (rep_str' Array.toList_append)) (by rw [str_len, str_len]; exact Nat.le_trans hsz lim_size)
theorem inplace_list {p q : Addr} {xs ys : Array Value} {m m' : Nat} {Q : Value → Shared → Prop} {E : Value → Shared → Prop} {s : Shared} (hp : s.heap.get? p = some { cls := .type "list", data := .seq xs m }) (hq : s.heap.get? q = some { cls := .type "list", data := .seq ys m' })
    (hsz : xs.size + ys.size ≤ sizeLine) (h : Q (.ref p) { s with heap := s.heap.update p (Obj.mapSeq fun x => x ++ ys), toks := s.toks }) : wpAny (model prog w) A (inplaceOp .Add (.ref p) (.ref q)) Q E s := by
  have hseq : seqSlot? (.type "list") (dunderI "add") = pure (some (.builtin "list.__iadd__")) := PySem.seqSlot_of PySem.F.slot_list_iadd.lookup (by decide +kernel)
  have hfi : fillsInplaceSlot (.type "list") "add" (Operator.Add == .Add) = pure false := by
    unfold fillsInplaceSlot
    show (typeLookup (.type "list") (dunderI "add") >>= fun fi => pure (fi.isSome && !isSeqSlot fi)) = pure false
    rw [PySem.F.slot_list_iadd.lookup]; rfl
  unfold inplaceOp
  refine wpAny_holding (wpAny_bind (wpAny_typeOf ⟨_, hp, rfl⟩ (wpAny_bind (wpAny_of_eq hfi ?_))))
  show wpAny _ A (if false = true then _ else _) Q E s
  rw [if_neg Bool.false_ne_true]
  refine wpAny_bind (wpAny_binaryOp1_none (nm := "add") ⟨_, hp, rfl⟩ ⟨_, hq, rfl⟩ noFill_list_add (wpAny_bind (wpAny_of_eq hseq (wpAny_bind (wpAny_rule ?_)))))
  refine call_meets PySem.F.slot_list_iadd ⟨_, hp, rfl⟩ PySem.F.entry_list_iadd (PySem.F.args_list_iadd_2 _ _) (AutoSeq1.list___iadd___list_list_0 p xs m q ys m' ?_ (Nat.le_trans (Nat.le_add_right _ _) hsz) (Nat.le_succ_of_le hsz)) ⟨hp, hq, h⟩
  have : Builtin.List.listTooLong (xs.size + ys.size) = false := by
    unfold Builtin.List.listTooLong; simp only [decide_eq_false_iff_not]; and_intros
  rw [this, Bool.and_false]; exact Bool.false_ne_true

theorem augo_ok {x : Str} {i : Nat} {e : Expr} {pe : PE} {px pos : Pos} (hd : dbg x = false) (hi : slotOf sc x = some i) (he : ES prog w mg mb hB n sc e pe) :
    XS prog w mg mb hB n sc (.AugAssign (.Name x px) .Add e pos) (.augo i pe) := by
  intro N F env A C0 h0 C σ s σ' f X h
  obtain ⟨k, e1, h⟩ := Option.bind_eq_some_iff.mp h
  obtain ⟨v, e2, h⟩ := Option.bind_eq_some_iff.mp h
  obtain ⟨l, e3, h⟩ := Option.bind_eq_some_iff.mp h
  obtain ⟨hlen, h⟩ := ite_some h
  cases h
  obtain ⟨hG, hO⟩ := own_at e1
  refine wpAny_AugAssign_Name (load_ok X.cx hi hd hG fun u ru => seqE (he X.cx e2) fun uy s1 r => ?_)
  obtain ⟨k1, r1⟩ := r
  obtain ⟨a, ha, rfl⟩ := ru
  have X1 := X.keep (kheap k1)
  obtain ⟨a', xs, h1, hp, h3⟩ := X1.cx.I.W.own k.1 k.2 hO
  rw [ha] at h1; cases h1
  obtain ⟨q, ys, rfl, hq, hl, e4⟩ := asL_rep' (O := []) ⟨(fun _ _ e => nomatch e), X1.cx.I.W.lt⟩ e3 r1
  have hsz : xs.size + ys.size ≤ sizeLine := by
    rw [show xs.size = k.2.length from h3.length, e4]; exact Nat.le_trans hlen lim_size
  obtain ⟨m, hp⟩ := hp
  obtain ⟨m', hq⟩ := hq
  have hs : Heap.SameBut a s1.heap (s1.heap.update a (Obj.mapSeq fun x => x ++ ys)) := Heap.SameBut.update ..
  have Y := X1.putO (vs' := k.2 ++ l) hO ha hs ⟨_, IsL.update hp _⟩ (by rw [Array.toList_append]; exact h3.append hl)
  have kx := keepsX_of (X1.ax k.1 a k.2 hO ha) hs
  refine inplace_list hp hq hsz (store_ok (s := { s1 with heap := s1.heap.update a (Obj.mapSeq fun x => x ++ ys) }) Y hi (v := .own k.1) ⟨a, ha, rfl⟩ fun h' tk hk Z => ?_)
  have e0 : (σ.putO k.1 (k.2 ++ l)).put i (.own k.1) = σ.putO k.1 (k.2 ++ l) := by
    unfold St.put St.putO
    congr 1
    exact List.ext_getElem? fun j => by
      by_cases hj : i = j
      · subst hj
        rw [hG, List.getElem?_set_self (List.getElem?_eq_some_iff.mp hG).1]
      · rw [List.getElem?_set_ne hj]
  rw [e0] at Z
  exact ⟨C, (Big.of_kn (kheap k1)).trans ((Big.xs kx).trans (.xs hk)), (Same.of k1).trans .heap, Z, rfl⟩
end
end Mine

namespace Mine
open StrLaws
section
variable {prog : Program} {w : World} {mg mb : Str → Option Value} {hB : Heap} {n : Nat} {sc : Scope} {F : PF1} {env : Env} {A : Around} {C0 : RC} {h0 : Heap}

theorem RepL.erase {C : RC} {h : Heap} : ∀ {p : List PV} {v : List Value} (k : Nat), RepL C h p v → RepL C h (p.eraseIdx k) (v.eraseIdx k)
  | [], v, k, r => by cases r; exact rfl
  | p :: ps, v, k, r => by
    obtain ⟨w, r', rfl, h1, h2⟩ := r
    cases k with
    | zero => exact h2
    | succ k => exact ⟨w, _, rfl, h1, RepL.erase k h2⟩

/-- an own list written in place -/
theorem own_res {C : RC} {σ : St} {s s2 : Shared} {k : Nat} {vs vs' : List PV} {a : Addr} {xs xs' : Array Value} {h' : Heap} (X2 : Fra prog w mg mb hB n sc F env A C0 h0 C σ s2.heap) (k12 : Keeps s s2) (ho : σ.O[k]? = some (some vs)) (ha : C.ads[k]? = some a)
    (hp : s2.heap.PlainList a xs) (hr : RepL C s2.heap vs' xs'.toList) (hp' : h'.PlainList a xs') (hs : Heap.SameBut a s2.heap h') :
    Res prog w mg mb hB n sc F env A C0 h0 C s (σ.putO k vs') .next .next { s2 with heap := h' } :=
  ⟨C, (Big.of_kn (kheap k12)).trans (.xs (keepsX_of (X2.ax k a vs ho ha) hs)), (Same.of k12).trans .heap, X2.putO ho ha hs hp' hr, rfl⟩

theorem LIM63 {x : Int} {l : Nat} (h : 0 ≤ x ∧ x < l ∧ l ≤ LIM) : x < 2 ^ 63 := by
  have : LIM = 1048576 := rfl
  and_intros

theorem seti_ok {x : Str} {i : Nat} {ke e : Expr} {pk pe : PE} {px p pos : Pos} (hc : noComp e = true) (hd : dbg x = false) (hi : slotOf sc x = some i) (hk : ES prog w mg mb hB n sc ke pk) (he : ES prog w mg mb hB n sc e pe) :
    XS prog w mg mb hB n sc (.Assign [.Subscript (.Name x px) ke p] e pos) (.seti i pk pe) := by
  intro N F env A C0 h0 C σ s σ' f X h
  obtain ⟨v, e1, h⟩ := Option.bind_eq_some_iff.mp h
  obtain ⟨o, e2, h⟩ := Option.bind_eq_some_iff.mp h
  obtain ⟨kv, e3, h⟩ := Option.bind_eq_some_iff.mp h
  obtain ⟨z, ez, h⟩ := Option.bind_eq_some_iff.mp h
  obtain ⟨hz, h⟩ := ite_some h
  cases h
  obtain ⟨hG, hO⟩ := own_at e2
  refine wpAny_Assign_Subscript (seqE (he X.cx e1) fun u s1 r1 => ?_) (swaps_no hc)
  have X1 := X.keep (kheap r1.1)
  refine seqE (name_ok hd hi X1.cx (pv := .own o.1) (ev_var hG)) fun ov s2 r2 => ?_
  obtain ⟨k2, a, ha, rfl⟩ := r2
  have X2 := X1.keep (kheap k2)
  refine seqE (hk X2.cx e3) fun kv s3 r3 => ?_
  obtain ⟨t, rfl⟩ := rep_asI ez r3.2
  have X3 := X2.keep (kheap r3.1)
  obtain ⟨a', xs, h1, ⟨m, hp⟩, h3⟩ := X3.cx.I.W.own o.1 o.2 hO
  rw [ha] at h1; cases h1
  have hsz : xs.size = o.2.length := h3.length
  refine ki_setAt hp hz.1 (LIM63 hz) (by rw [hsz]; exact hz.2.1) ?_
  refine own_res X3 (ktrans r1.1 (ktrans k2 r3.1)) hO ha ⟨m, hp⟩ ?_ ⟨_, IsL.update hp _⟩ (Heap.SameBut.update ..)
  rw [Array.toList_setIfInBounds]
  exact h3.set _ (r1.2.keep (kheap (ktrans k2 r3.1)))

theorem deli_ok {x : Str} {i : Nat} {ke : Expr} {pk : PE} {px p pos : Pos} (hd : dbg x = false) (hi : slotOf sc x = some i) (hk : ES prog w mg mb hB n sc ke pk) :
    XS prog w mg mb hB n sc (.Delete [.Subscript (.Name x px) ke p] pos) (.deli i pk) := by
  intro N F env A C0 h0 C σ s σ' f X h
  obtain ⟨o, e2, h⟩ := Option.bind_eq_some_iff.mp h
  obtain ⟨kv, e3, h⟩ := Option.bind_eq_some_iff.mp h
  obtain ⟨z, ez, h⟩ := Option.bind_eq_some_iff.mp h
  obtain ⟨hz, h⟩ := ite_some h
  cases h
  obtain ⟨hG, hO⟩ := own_at e2
  refine wpAny_Delete (wpAny_deleteEach_cons (PySem.wpAny_delete_Subscript (seqE (name_ok hd hi X.cx (pv := .own o.1) (ev_var hG)) fun ov s2 r2 => ?_)))
  obtain ⟨k2, a, ha, rfl⟩ := r2
  have X2 := X.keep (kheap k2)
  refine seqE (hk X2.cx e3) fun kv s3 r3 => ?_
  obtain ⟨t, rfl⟩ := rep_asI ez r3.2
  have X3 := X2.keep (kheap r3.1)
  obtain ⟨a', xs, h1, hp, h3⟩ := X3.cx.I.W.own o.1 o.2 hO
  rw [ha] at h1; cases h1
  have hsz : xs.size = o.2.length := h3.length
  refine wpAny_delItem_plain (k := z.toNat) hp ?_ ?_ (fun h' hp' hs => wpAny_deleteEach_nil ?_) (by rw [hsz]; exact Nat.le_trans hz.2.2 lim_size)
  · simp only [Builtin.List.listFitsIndex, Bool.and_eq_true, decide_eq_true_eq]
    exact ⟨by and_intros, LIM63 hz⟩
  · unfold seqIndex?
    simp only [show ¬ z < 0 by and_intros, if_false]
    rw [if_pos (by simp only [Bool.and_eq_true, decide_eq_true_eq]; and_intros)]
  · refine own_res X3 (ktrans k2 r3.1) hO ha hp ?_ hp' hs
    rw [Array.toList_eraseIdxIfInBounds]
    exact h3.erase _
end
end Mine

namespace Mine
open StrLaws

section
variable (prog : Program) (w : World) (mg mb : Str → Option Value) (hB : Heap) (n : Nat) (sc : Scope)
/-- a display's items, the lists that are to be own told by flags -/
noncomputable def TF : List Bool → List Expr → PEs → Prop
  | [], es, ps => es = [] ∧ ps = .nil
  | f :: fs, es, ps => ∃ e r p q, es = e :: r ∧ ps = .cons p q ∧ (if f then ∃ l pos pl, e = .List l pos ∧ p = .lst pl ∧ SS prog w mg mb hB n sc l pl ∧ NoStars l = true ∧ pl.len ≤ 64 else ES prog w mg mb hB n sc e p) ∧ TF fs r q
end
section
variable {prog : Program} {w : World} {mg mb : Str → Option Value} {hB : Heap} {n : Nat} {sc : Scope} {F : PF1} {env : Env} {A : Around} {C0 : RC} {h0 : Heap}

theorem Rep.big {C C' : RC} {h h' : Heap} (B : Big C C' h h') {v : PV} {u : Value} (r : Rep C h v u) : Rep C' h' v u := Rep.mono B.sub v u r

theorem evT_ok : ∀ {fs : List Bool} {es : List Expr} {ps : PEs}, TF prog w mg mb hB n sc fs es ps → ∀ {C : RC} {σ σ' : St} {s : Shared} {ws : List PV}, Fra prog w mg mb hB n sc F env A C0 h0 C σ s.heap → evT F fs ps σ = some (ws, σ') →
    wpAny (model prog w) A (spliced (es.map fun e => (false, eval e env))) (fun us s' => Keeps s s' ∧ ∃ C', Big C C' s.heap s'.heap ∧ Fra prog w mg mb hB n sc F env A C0 h0 C' σ' s'.heap ∧ RepL C' s'.heap ws us) noE s
  | [], es, ps, T, C, σ, σ', s, ws, X, h => by
    obtain ⟨rfl, rfl⟩ := T
    cases h
    exact Calls.spliced_nil ⟨krefl s, C, .refl _ _, X, rfl⟩
  | f :: fs, es, ps, T, C, σ, σ', s, ws, X, h => by
    obtain ⟨e, r, p, q, rfl, rfl, he, T'⟩ := T
    cases f with
    | false =>
      obtain ⟨v, e1, h⟩ := Option.bind_eq_some_iff.mp h
      obtain ⟨z, e2, h⟩ := Option.map_eq_some_iff.mp h
      cases h
      refine Calls.spliced_cons (seqE (he X.cx e1) fun u s1 r1 => ?_)
      refine seqE (evT_ok T' (X.keep (kheap r1.1)) e2) fun us s2 r2 => ⟨ktrans r1.1 r2.1, ?_⟩
      obtain ⟨C', B, Y, R⟩ := r2.2
      exact ⟨C', (Big.of_kn (kheap r1.1)).trans B, Y, u, us, rfl, r1.2.big B, R⟩
    | true =>
      obtain ⟨l, pos, pl, rfl, rfl, hs, hn, hl⟩ := he
      obtain ⟨vs, e1, h⟩ := Option.bind_eq_some_iff.mp h
      obtain ⟨z, e2, h⟩ := Option.map_eq_some_iff.mp h
      cases h
      refine Calls.spliced_cons (seqE (list_fresh hs hn hl X.cx e1) fun u s1 r1 => ?_)
      obtain ⟨k1, a, xs, rfl, ha, hp, hr⟩ := r1
      have Y := X.fresh (kheap k1) ha hp hr
      refine seqE (evT_ok T' Y e2) fun us s2 r2 => ⟨ktrans k1 r2.1, ?_⟩
      obtain ⟨C', B, Z, R⟩ := r2.2
      exact ⟨C', (own_big (kheap k1) ha).trans B, Z, .ref a, us, rfl, (own_rep Y).big B, R⟩

theorem evT_len {F : PF1} : ∀ {fs : List Bool} {ps : PEs} {σ σ' : St} {ws : List PV}, evT F fs ps σ = some (ws, σ') → ws.length = ps.len
  | [], .nil, σ, σ', ws, h => by cases h; rfl
  | [], .cons _ _, σ, σ', ws, h => nn h
  | _ :: _, .nil, σ, σ', ws, h => nn h
  | f :: fs, .cons e r, σ, σ', ws, h => by
    cases f with
    | false =>
      obtain ⟨v, e1, h⟩ := Option.bind_eq_some_iff.mp h
      obtain ⟨z, e2, h⟩ := Option.map_eq_some_iff.mp h
      cases h
      exact congrArg (· + 1) (evT_len e2)
    | true =>
      obtain ⟨l2, e0, h⟩ := Option.bind_eq_some_iff.mp h
      obtain ⟨vs, e1, h⟩ := Option.bind_eq_some_iff.mp h
      obtain ⟨z, e2, h⟩ := Option.map_eq_some_iff.mp h
      cases h
      exact congrArg (· + 1) (evT_len e2)

/-! an own list handed over: frozen -/
noncomputable def RC.frz (C : RC) (a : Addr) : RC := { C with X := fun b => C.X b ∧ b ≠ a }
theorem frz_rep {C : RC} {a : Addr} {h : Heap} {v : PV} {u : Value} (r : Rep C h v u) : Rep (C.frz a) h v u := Rep.wide (C := C.frz a) (C' := C) (fun _ x => x.1) rfl rfl _ _ r
theorem frz_repL {C : RC} {a : Addr} {h : Heap} {v : List PV} {u : List Value} (r : RepL C h v u) : RepL (C.frz a) h v u := RepL.wide (C := C.frz a) (C' := C) (fun _ x => x.1) rfl rfl _ _ r
theorem frz_ne {k j : Nat} {O : Owns} {vs : List PV} (e : (O.set k none)[j]? = some (some vs)) : j ≠ k ∧ O[j]? = some (some vs) := by
  by_cases hj : k = j
  · subst hj
    rcases Nat.lt_or_ge k O.length with hl | hl
    · rw [List.getElem?_set_self hl] at e; cases e
    · rw [List.getElem?_eq_none (by rw [List.length_set]; exact hl)] at e; cases e
  · exact ⟨fun q => hj q.symm, (List.getElem?_set_ne hj).symm.trans e⟩

theorem Fra.frz {C : RC} {σ : St} {h : Heap} {i k : Nat} {a : Addr} {vs : List PV} (X : Fra prog w mg mb hB n sc F env A C0 h0 C σ h) (hG : σ.G[i]? = some (some (.own k))) (hO : σ.O[k]? = some (some vs)) (ha : C.ads[k]? = some a) :
    Fra prog w mg mb hB n sc F env A C0 h0 (C.frz a) ⟨σ.G.set i (some (.list vs)), σ.O.set k none⟩ h where
  cx := by
    have I := X.cx.I
    refine ⟨X.cx.FS, ⟨I.base, I.kind, I.glb, I.blt, I.cdv, I.top, I.knd, I.cel, fun x j v e1 e2 => ?_, ⟨fun j vs' e => ?_, fun b hb => I.W.lt b hb.1⟩⟩, X.cx.R⟩
    · by_cases hj : j = i
      · subst hj
        cases set_at rfl e2
        obtain ⟨u, Se, r⟩ := I.slots x j _ e1 hG
        obtain ⟨b, hb, rfl⟩ := r
        rw [ha] at hb; cases hb
        obtain ⟨a', xs, h1, h2, h3⟩ := I.W.own k vs hO
        rw [ha] at h1; cases h1
        exact ⟨_, Se, _, xs, rfl, fun q => q.2 rfl, h2, frz_repL h3⟩
      · obtain ⟨u, Se, r⟩ := I.slots x j v e1 ((List.getElem?_set_ne fun q => hj q.symm).symm.trans e2)
        exact ⟨u, Se, frz_rep r⟩
    · obtain ⟨b, xs, h1, h2, h3⟩ := I.W.own j vs' (frz_ne e).2
      exact ⟨b, xs, h1, h2, frz_repL h3⟩
  b0 := X.b0
  k0 := X.k0
  x0 := fun b hb => X.x0 b hb.1
  xw := fun b hb => ⟨X.xw b hb, fun q => Nat.lt_irrefl _ (Nat.lt_of_lt_of_le (X.x00 b hb) (q ▸ (X.ad k a ha).1))⟩
  st := X.st
  ns := X.ns
  xl := ⟨⟨X.xl.1, let ⟨_, e⟩ := X.ns; let ⟨_, p⟩ := (X.ad k a ha).2; ns_ne_list e p⟩, X.xl.2⟩
  cl := fun x c e => let ⟨p, q, v, r⟩ := X.cl x c e; let ⟨_, l⟩ := (X.ad k a ha).2; ⟨⟨p, cell_ne_list r l⟩, q, v, r⟩
  ci := X.ci
  ad := X.ad
  ax := fun j b vs' e eb => ⟨X.ax j b vs' (frz_ne e).2 eb, fun q => (frz_ne e).1 (X.ai j k a (q ▸ eb) ha)⟩
  ai := X.ai
  al := X.al.trans List.length_set.symm
  nf := X.nf
  x00 := X.x00

theorem frz_ok {st : Stmt} {i : Nat} {p : PS} (hp : XS prog w mg mb hB n sc st p) : XS prog w mg mb hB n sc st (.frz i p) := by
  intro N F env A C0 h0 C σ s σ' f X h
  obtain ⟨o, e, h⟩ := Option.bind_eq_some_iff.mp h
  obtain ⟨hG, hO⟩ := own_at e
  obtain ⟨a, xs, ha, h2, h3⟩ := X.cx.I.W.own o.1 o.2 hO
  refine seqE (hp (X.frz hG hO ha) h) fun fl s' r => Res.trans (C1 := C.frz a) ⟨fun b o _ _ x q => x q.1, rfl, fun _ _ x => x, fun _ _ _ _ e => e⟩ (.refl _) r
end
end Mine

namespace Mine
open StrLaws

theorem put_comm {i j : Nat} {v w : PV} {σ : St} (h : i ≠ j) : (σ.put i w).put j v = (σ.put j v).put i w := congrArg (St.mk · σ.O) (List.set_comm _ _ h)
theorem putAll_put {i : Nat} {w : PV} : ∀ {is : List Nat} {ws : List PV} {σ : St}, i ∉ is → putAll is ws (σ.put i w) = (putAll is ws σ).map (·.put i w)
  | [], [], σ, _ => rfl
  | [], _ :: _, σ, _ => rfl
  | _ :: _, [], σ, _ => rfl
  | j :: is, v :: ws, σ, h => by
    have hij : i ≠ j := fun q => h (q ▸ List.mem_cons_self)
    show putAll is ws ((σ.put i w).put j v) = (putAll is ws (σ.put j v)).map _
    rw [put_comm hij]
    exact putAll_put fun q => h (List.mem_cons_of_mem _ q)
theorem putAll_snoc {i : Nat} {w : PV} : ∀ {is : List Nat} {ws : List PV} {σ : St}, is.length = ws.length → putAll (is ++ [i]) (ws ++ [w]) σ = (putAll is ws σ).map (·.put i w)
  | [], [], σ, _ => rfl
  | [], _ :: _, σ, h => nomatch h
  | _ :: _, [], σ, h => nomatch h
  | j :: is, v :: ws, σ, h => putAll_snoc (σ := σ.put j v) (Nat.succ.inj h)
theorem putAll_len : ∀ {is : List Nat} {ws : List PV} {σ σ' : St}, putAll is ws σ = some σ' → is.length = ws.length
  | [], [], _, _, _ => rfl
  | [], _ :: _, _, _, h => nn h
  | _ :: _, [], _, _, h => nn h
  | j :: is, v :: ws, σ, σ', h => congrArg (· + 1) (putAll_len (σ := σ.put j v) h)
theorem putAll_rev : ∀ {is : List Nat} {ws : List PV} {σ σ' : St}, is.Nodup → putAll is ws σ = some σ' → putAll is.reverse ws.reverse σ = some σ'
  | [], [], σ, σ', _, h => h
  | [], _ :: _, _, _, _, h => nn h
  | _ :: _, [], _, _, _, h => nn h
  | j :: is, v :: ws, σ, σ', nd, h => by
    obtain ⟨n1, n2⟩ := List.nodup_cons.mp nd
    have hl : is.length = ws.length := putAll_len (σ := σ.put j v) h
    have h : putAll is ws (σ.put j v) = some σ' := h
    rw [putAll_put n1] at h
    obtain ⟨σ1, h1, rfl⟩ := Option.map_eq_some_iff.mp h
    rw [List.reverse_cons, List.reverse_cons, putAll_snoc (by rw [List.length_reverse, List.length_reverse]; exact hl), putAll_rev n2 h1]
    rfl

section
variable {prog : Program} {w : World} {mg mb : Str → Option Value} {hB : Heap} {n : Nat} {sc : Scope} {F : PF1} {env : Env} {A : Around} {C0 : RC} {h0 : Heap}

noncomputable def SA (prog : Program) (w : World) (env : Env) (A : Around) (t : Value → Sem Unit) (x : Str) : Prop :=
  ∀ {Q : Unit → Shared → Prop} {s : Shared} {u : Value}, wpAny (model prog w) A (storeName env x u) Q noE s → wpAny (model prog w) A (t u) Q noE s
theorem sa_assign {x : Str} {p : Pos} : SA prog w env A (assign (.Name x p) env) x := fun h => wpAny_assign_Name h
theorem sa_bind {x : Str} : SA prog w env A (bindName env x) x := by
  intro Q s u h
  unfold bindName
  exact wpAny_bind (wpAny_holding (wpAny_point (wpAny_bind (wpAny_mono h (fun _ s' h' => wpAny_point h') fun _ _ x => x))))
noncomputable def SAs (prog : Program) (w : World) (env : Env) (A : Around) : List (Value → Sem Unit) → List Str → Prop
  | [], xs => xs = []
  | t :: ts, xs => ∃ x r, xs = x :: r ∧ SA prog w env A t x ∧ SAs prog w env A ts r
noncomputable def Sl (sc : Scope) : List Str → List Nat → Prop
  | [], is => is = []
  | x :: xs, is => ∃ i r, is = i :: r ∧ slotOf sc x = some i ∧ Sl sc xs r
theorem Sl.append : ∀ {xs ys : List Str} {is js : List Nat}, Sl sc xs is → Sl sc ys js → Sl sc (xs ++ ys) (is ++ js)
  | [], ys, is, js, h, h' => by cases h; exact h'
  | x :: xs, ys, is, js, h, h' => let ⟨i, r, e, a, b⟩ := h; ⟨i, r ++ js, congrArg (· ++ js) e, a, b.append h'⟩
theorem Sl.rev : ∀ {xs : List Str} {is : List Nat}, Sl sc xs is → Sl sc xs.reverse is.reverse
  | [], is, h => by cases h; rfl
  | x :: xs, is, h => by
    obtain ⟨i, r, rfl, a, b⟩ := h
    rw [List.reverse_cons, List.reverse_cons]
    exact b.rev.append ⟨i, [], rfl, a, rfl⟩
theorem RepL.rev {C : RC} {h : Heap} : ∀ {p : List PV} {v : List Value}, RepL C h p v → RepL C h p.reverse v.reverse
  | [], v, r => by cases r; rfl
  | p :: ps, v, r => by
    obtain ⟨w, r', rfl, h1, h2⟩ := r
    rw [List.reverse_cons, List.reverse_cons]
    exact h2.rev.append (RepL.one h1)

theorem assign_all : ∀ {ts : List (Value → Sem Unit)} {xs : List Str} {is : List Nat} {ws : List PV} {us : List Value} {C : RC} {σ σ' : St} {s : Shared}, SAs prog w env A ts xs → Sl sc xs is → RepL C s.heap ws us → Fra prog w mg mb hB n sc F env A C0 h0 C σ s.heap →
    putAll is ws σ = some σ' → wpAny (model prog w) A (assignInOrder ts us) (fun _ s' => (∀ b o, ¬ C.X b → s.heap.get? b = some o → s'.heap.get? b = some o) ∧ Same s s' ∧ Fra prog w mg mb hB n sc F env A C0 h0 C σ' s'.heap) noE s
  | [], xs, is, ws, us, C, σ, σ', s, h1, h2, hr, X, hp => by
    cases h1
    cases h2
    cases ws with
    | nil => cases hp; exact wpAny_pure ⟨fun _ _ _ e => e, .refl _, X⟩
    | cons v ws => exact nn hp
  | t :: ts, xs, is, ws, us, C, σ, σ', s, h1, h2, hr, X, hp => by
    obtain ⟨x, r, rfl, sa, h1'⟩ := h1
    obtain ⟨i, r', rfl, hi, h2'⟩ := h2
    cases ws with
    | nil => exact nn hp
    | cons v ws =>
      obtain ⟨u, us', rfl, r1, r2⟩ := hr
      have hp : putAll r' ws (σ.put i v) = some σ' := hp
      show wpAny _ A (do holding us' (t u); assignInOrder ts us') _ _ s
      refine wpAny_bind (wpAny_holding (sa (store_ok X hi r1 fun h' tk hk Y => ?_)))
      exact seqE (assign_all (s := { s with heap := h', toks := tk }) h1' h2' (RepL.mono (Sub.xs hk) _ _ r2) Y hp) fun _ s2 q => ⟨fun p o hx e => q.1 p o hx (hk p o hx e), Same.heap.trans q.2.1, q.2.2⟩

theorem names_each : ∀ {ts : List Expr} {xs : List Str}, E.names ts = some xs → SAs prog w env A ((assignEach ts env).map (·.2)) xs ∧ (assignEach ts env).length = xs.length ∧ (assignEach ts env).findIdx? (·.1) = none ∧ ts.length = xs.length
  | [], xs, h => by cases h; exact ⟨rfl, rfl, rfl, rfl⟩
  | t :: ts, xs, h => by
    obtain ⟨⟨⟨y, q⟩, rfl⟩, _, h⟩ := Option.bind_eq_some_iff.mp h
    obtain ⟨r, e, rfl⟩ := Option.map_eq_some_iff.mp h
    obtain ⟨h1, h2, h3, h4⟩ := names_each (ts := ts) e
    refine ⟨⟨_, r, rfl, sa_assign, h1⟩, congrArg (· + 1) h2, ?_, congrArg (· + 1) h4⟩
    show List.findIdx? _ ((false, _) :: assignEach ts env) = none
    rw [List.findIdx?_cons, h3]; rfl

theorem names_bind : ∀ {xs : List Str}, SAs prog w env A (xs.map fun x => bindName env x) xs
  | [] => rfl
  | x :: xs => ⟨x, xs, rfl, sa_bind, names_bind⟩

theorem names_filter {f : Expr → Option Str} (hf : ∀ x p, f (.Name x p) = some x ∨ f (.Name x p) = none) : ∀ {ts : List Expr} {xs : List Str}, E.names ts = some xs → (ts.filterMap f).length = ts.length → ts.filterMap f = xs
  | [], xs, h, _ => by cases h; rfl
  | t :: ts, xs, h, hl => by
    obtain ⟨z, _, h⟩ := Option.bind_eq_some_iff.mp h
    obtain ⟨r, e, rfl⟩ := Option.map_eq_some_iff.mp h
    have hq := hf z.1.1 z.1.2
    rw [← z.2] at hq
    rcases hq with q | q
    · rw [List.filterMap_cons, q] at hl ⊢
      exact congrArg _ (names_filter hf e (Nat.succ.inj hl))
    · rw [List.filterMap_cons, q] at hl
      have := List.length_filterMap_le f ts
      simp at hl; and_intros

theorem swap_cases {ts vs : List Expr} {k k' : Nat} {p p' : Pos} {xs : List Str} (h : E.names ts = some xs) (ht : tupOk vs = true) :
    swappedStores [.Tuple ts k p] (.Tuple vs k' p') env = pure none ∨ swappedStores [.Tuple ts k p] (.Tuple vs k' p') env = pure (some xs) := by
  have e : ∃ (f : Expr → Option Str) (c1 c2 c3 : Bool) (z : Sem (Option (List Str))), swappedStores [.Tuple ts k p] (.Tuple vs k' p') env = (if c1 = true then pure none else if c2 = true then pure none else if ((ts.filterMap f).length != ts.length || c3) = true then pure none else
      if vs.all (foldedForSure 8) = true then pure none else if vs.all (constantsAlone 8) = true then z else pure (some (ts.filterMap f))) ∧ ∀ x p, f (.Name x p) = some x ∨ f (.Name x p) = none := by
    refine ⟨_, _, _, _, _, rfl, fun x p => ?_⟩
    by_cases q : (env.kindOf x == some .local && p.line == ((ts.head?.map (·.pos.line)).getD 0)) = true
    · exact .inl (if_pos q)
    · exact .inr (if_neg q)
  obtain ⟨f, c1, c2, c3, z, e, hf⟩ := e
  rw [e]
  cases c1 with
  | true => exact .inl rfl
  | false => cases c2 with
    | true => exact .inl rfl
    | false =>
      rw [if_neg Bool.false_ne_true, if_neg Bool.false_ne_true]
      by_cases hc : ((ts.filterMap f).length != ts.length || c3) = true
      · rw [if_pos hc]; exact .inl rfl
      · rw [if_neg hc]
        by_cases hf' : vs.all (foldedForSure 8) = true
        · rw [if_pos hf']; exact .inl rfl
        · rw [if_neg hf', if_neg]
          · rw [names_filter hf h]
            · exact .inr rfl
            · cases q : (ts.filterMap f).length != ts.length with
              | true => rw [q] at hc; exact absurd rfl hc
              | false => exact beq_iff_eq.mp ((Bool.not_eq_eq_eq_not (a := _ == _) (b := false)).mp q)
          · intro hc2
            unfold tupOk at ht
            rw [hc2, Bool.not_true, Bool.or_false] at ht
            exact hf' ht
end
end Mine

namespace Mine
open StrLaws
section
variable {prog : Program} {w : World} {mg mb : Str → Option Value} {hB : Heap} {n : Nat} {sc : Scope} {F : PF1} {env : Env} {A : Around} {C0 : RC} {h0 : Heap}

theorem KN.but {h h' : Heap} {a : Addr} (ha : hsz h ≤ a) (hk : Heap.ExtBut a h h') : KN h h' := (KN.refl h).above ha fun p o hp e => hk p o hp e

theorem Sl.len : ∀ {xs : List Str} {is : List Nat}, Sl sc xs is → xs.length = is.length
  | [], is, h => by cases h; rfl
  | x :: xs, is, h => by obtain ⟨i, r, e, a, b⟩ := h; cases e; exact congrArg (· + 1) b.len

/-- the stores once a tuple lies there -/
theorem stores_ok {C C1 : RC} {σ1 σ' : St} {s s1 : Shared} {h' : Heap} {tts : List (Value → Sem Unit)} {xs : List Str} {is : List Nat} {ws : List PV} {us : List Value} (B : Big C C1 s.heap s1.heap) (S : Same s s1) (Y : Fra prog w mg mb hB n sc F env A C0 h0 C1 σ1 s1.heap)
    (hext : Heap.ExtBut s1.heap.objs.size s1.heap h') (a1 : SAs prog w env A tts xs) (a2 : Sl sc xs is) (a3 : RepL C1 s1.heap ws us) (a4 : putAll is ws σ1 = some σ') :
    wpAny (model prog w) A (assignInOrder tts us) (fun _ => Res prog w mg mb hB n sc F env A C0 h0 C s σ' .next .next) noE { s1 with heap := h' } :=
  have kn := KN.but (hsz_size _) hext
  seqE (assign_all (s := { s1 with heap := h' }) a1 a2 (a3.keep kn) (Y.keep kn) a4) fun _ s3 q =>
    ⟨_, B.trans ((Big.of_kn kn).trans (.xs q.1)), S.trans (Same.heap.trans q.2.1), q.2.2, rfl⟩

theorem asgt_ok {ts vs : List Expr} {xs : List Str} {is : List Nat} {fs : List Bool} {ps : PEs} {k k' : Nat} {p p' pos : Pos} (hx : E.names ts = some xs) (hsl : Sl sc xs is) (hnd : is.Nodup)
    (hT : TF prog w mg mb hB n sc fs vs ps) (hns : NoStars vs = true) (hl : ps.len ≤ 64) (htup : tupOk vs = true) : XS prog w mg mb hB n sc (.Assign [.Tuple ts k p] (.Tuple vs k' p') pos) (.asgt is fs ps) := by
  intro N F env A C0 h0 C σ s σ' f X h
  obtain ⟨⟨ws, σ1⟩, e1, h⟩ := Option.bind_eq_some_iff.mp h
  obtain ⟨σ2, e3, h⟩ := Option.map_eq_some_iff.mp h
  cases h
  rw [exec_Assign_arm]
  refine wpAny_bind (wpAny_standAt ?_)
  rw [show swapsWithSole [.Tuple ts k p] (.Tuple vs k' p') pos.line env = pure false from rfl]
  refine wpAny_bind (wpAny_pure ?_)
  rw [if_neg (by decide)]
  refine wpAny_bind (wpAny_Tuple_spliced ?_)
  rw [backTo_of hns]
  refine seqE (evT_ok hT X e1) fun us s1 q => ?_
  obtain ⟨k1, C1, B, Y, R⟩ := q
  have kp2 : Keeps s1 { s1 with heap := s1.heap.push { cls := .type "tuple", data := .seq us.toArray } } := kpush
  have Y1 := Y.keep (kheap kp2)
  have R1 := R.keep (kheap kp2)
  have B1 := B.trans (Big.of_kn (kheap kp2))
  have S1 := (Same.of k1).trans (Same.of kp2)
  have ht : (s1.heap.push { cls := .type "tuple", data := .seq us.toArray }).IsTuple s1.heap.objs.size us.toArray := ⟨_, Heap.get?_push_size _ rfl, rfl, _, rfl⟩
  obtain ⟨hsa, hn1, hn2, hn3⟩ := names_each (prog := prog) (w := w) (env := env) (A := A) hx
  have hul : us.length = xs.length := R.length.trans ((putAll_len e3).symm.trans hsl.len.symm)
  refine ⟨?_, ?_⟩
  · rw [R.length, evT_len e1, sizeLine_eq]; and_intros
  rcases swap_cases (env := env) (k := k) (k' := k') (p := p) (p' := p') hx htup with hsw | hsw
  · rw [hsw]
    refine wpAny_bind (wpAny_pure ?_)
    show wpAny _ A (do assignAll _ ((assignEach [.Tuple ts k p] env).map (·.2)); (pure Flow.next : Sem Flow)) _ _ _
    refine wpAny_bind ?_
    show wpAny _ A (assign (.Tuple ts k p) env (.ref s1.heap.objs.size)) _ _ _
    refine wpAny_assign_Tuple X.cx.R.handled ht (by rw [hn1]; exact hul.symm) hn2 fun h' hext => ?_
    exact seqE (stores_ok B1 S1 Y1 hext hsa hsl R1 e3) fun _ s3 r => wpAny_pure r
  · rw [hsw]
    refine wpAny_bind (wpAny_pure ?_)
    show wpAny _ A (do rule "assign.swapped-stores"; let items ← unpackItems _ xs.length none; assignInOrder (xs.reverse.map fun n => bindName env n) items.reverse; (pure Flow.next : Sem Flow)) _ _ _
    refine wpAny_bind (wpAny_rule (wpAny_bind ?_))
    have hsz : xs.length = us.toArray.size := hul.symm
    rw [hsz]
    refine wpAny_unpackItems_tuple X.cx.R.handled ht fun h' hext => ?_
    exact wpAny_bind (seqE (stores_ok B1 S1 Y1 hext (names_bind (xs := xs.reverse)) hsl.rev R1.rev (putAll_rev hnd e3)) fun _ s3 r => wpAny_pure r)

theorem swapped_no {ts : List Expr} {v : Expr} {k : Nat} {p : Pos} (h : (vTup v).isNone = true) : swappedStores [.Tuple ts k p] v env = pure none := by
  cases v <;> first | rfl | cases h

theorem asgu_ok {ts : List Expr} {v : Expr} {xs : List Str} {is : List Nat} {pe : PE} {k : Nat} {p pos : Pos} (hx : E.names ts = some xs) (hsl : Sl sc xs is) (hc : noComp v = true) (ht : (vTup v).isNone = true) (he : ES prog w mg mb hB n sc v pe) :
    XS prog w mg mb hB n sc (.Assign [.Tuple ts k p] v pos) (.asgu is pe) := by
  intro N F env A C0 h0 C σ s σ' f X h
  obtain ⟨r, e1, h⟩ := Option.bind_eq_some_iff.mp h
  obtain ⟨ws, e2, h⟩ := Option.bind_eq_some_iff.mp h
  obtain ⟨σ2, e3, h⟩ := Option.map_eq_some_iff.mp h
  cases h
  rw [exec_Assign_arm]
  refine wpAny_bind (wpAny_standAt ?_)
  rw [show swapsWithSole [.Tuple ts k p] v pos.line env = pure false by unfold swapsWithSole; exact swaps_no hc]
  refine wpAny_bind (wpAny_pure ?_)
  rw [if_neg (by decide)]
  refine wpAny_bind (seqE (he X.cx e1) fun u s1 q => ?_)
  obtain ⟨a, us, rfl, _, ha, R, hsz⟩ := rep_asT e2 q.2
  rw [swapped_no ht]
  obtain ⟨hsa, hn1, hn2, hn3⟩ := names_each (prog := prog) (w := w) (env := env) (A := A) hx
  have hul : us.size = xs.length := hsz.trans ((putAll_len e3).symm.trans hsl.len.symm)
  refine wpAny_bind (wpAny_pure ?_)
  show wpAny _ A (do assignAll _ ((assignEach [.Tuple ts k p] env).map (·.2)); (pure Flow.next : Sem Flow)) _ _ _
  refine wpAny_bind ?_
  show wpAny _ A (assign (.Tuple ts k p) env (.ref a)) _ _ _
  refine wpAny_assign_Tuple X.cx.R.handled ha (by rw [hn1]; exact hul.symm) hn2 fun h' hext => ?_
  exact seqE (stores_ok (Big.of_kn (kheap q.1)) (Same.of q.1) (X.keep (kheap q.1)) hext hsa hsl R e3) fun _ s3 r => wpAny_pure r
end
end Mine

namespace Mine
open StrLaws
section
variable {prog : Program} {w : World} {mg mb : Str → Option Value} {hB : Heap} {n : Nat} {sc : Scope}

theorem bad_ok {st : Stmt} : XS prog w mg mb hB n sc st badS := by
  intro N F env A C0 h0 C σ s σ' f X h
  exact nn h

theorem slots_sl : ∀ {xs : List Str} {is : List Nat}, slots sc xs = some is → Sl sc xs is
  | [], is, h => by cases h; rfl
  | x :: xs, is, h => by
    obtain ⟨i, e1, h⟩ := Option.bind_eq_some_iff.mp h
    obtain ⟨r, e2, rfl⟩ := Option.map_eq_some_iff.mp h
    exact ⟨i, r, rfl, e1, slots_sl e2⟩

noncomputable def SndS (prog : Program) (w : World) (mg mb : Str → Option Value) (hB : Heap) (n : Nat) (mu : List Str) (k : Nat) : Prop := ∀ (sc : Scope) (st : Stmt) (p : PS), cS mu k sc st = some p → XS prog w mg mb hB n sc st p

theorem cSs_snd {mu : List Str} {k : Nat} (S : SndS prog w mg mb hB n mu k) (sts : List Stmt) : ∀ {ps : PSs}, cSs (cS mu k sc) sts = some ps → XSS prog w mg mb hB n sc sts ps := by
  induction sts with
  | nil => intro ps h; cases h; exact xss_nil
  | cons st r ih =>
    intro ps h
    obtain ⟨q, e2, rfl⟩ := Option.map_eq_some_iff.mp h
    refine xss_cons ?_ (ih e2)
    cases e1 : cS mu k sc st with
    | none => exact bad_ok
    | some p => exact S _ _ _ e1

theorem cAsgE_snd {k : Nat} (S : Snd prog w mg mb hB n k) {x : Str} {v : Expr} {tp pos : Pos} {q : PS} (h : cAsgE (cE k) sc x v = some q) : XS prog w mg mb hB n sc (.Assign [.Name x tp] v pos) q := by
  obtain ⟨hc, h⟩ := ite_some h
  obtain ⟨i, e0, h⟩ := Option.bind_eq_some_iff.mp h
  obtain ⟨pe, e2, rfl⟩ := Option.map_eq_some_iff.mp h
  exact asg_ok hc e0 (S _ _ _ e2).1
theorem cAsgA_snd {x : Str} {o : Expr} {m : Str} {ap tp pos : Pos} {q : PS} (h : cAsgA sc x o m = some q) : XS prog w mg mb hB n sc (.Assign [.Name x tp] (.Attribute o m ap) pos) q := by
  obtain ⟨z, _, h⟩ := Option.bind_eq_some_iff.mp h
  obtain ⟨hc, h⟩ := ite_some h
  obtain ⟨i, e0, h⟩ := Option.bind_eq_some_iff.mp h
  obtain ⟨j, e1, rfl⟩ := Option.map_eq_some_iff.mp h
  rw [z.2]
  cases beq_iff_eq.mp (and_t hc).1
  exact asga_ok (not_t (and_t hc).2) e0 e1
theorem cAsgO_snd {k : Nat} (S : Snd prog w mg mb hB n k) {x : Str} {es : List Expr} {p tp pos : Pos} {q : PS} (h : cAsgO (cE k) sc x es = some q) : XS prog w mg mb hB n sc (.Assign [.Name x tp] (.List es p) pos) q := by
  obtain ⟨i, e0, h⟩ := Option.bind_eq_some_iff.mp h
  obtain ⟨hn, h⟩ := ite_some h
  obtain ⟨ps, e1, h⟩ := Option.bind_eq_some_iff.mp h
  obtain ⟨hl, h⟩ := ite_some h
  cases h
  exact asgo_ok e0 (cEs_snd S e1).1 hn hl
theorem cAsgC_snd {k : Nat} (S : Snd prog w mg mb hB n k) {x : Str} {elt : Expr} {gs : List Comprehension} {sc2 : Scope} {p tp pos : Pos} {q : PS} (h : ((slotOf sc x).bind fun j => (cComp (cE k) sc elt gs sc2).map fun e => PS.asg j e) = some q) : XS prog w mg mb hB n sc (.Assign [.Name x tp] (.ListComp elt gs sc2 p) pos) q := by
  obtain ⟨j, e0, h⟩ := Option.bind_eq_some_iff.mp h
  obtain ⟨pe, e9, rfl⟩ := Option.map_eq_some_iff.mp h
  obtain ⟨x, q, iter, ifs, i, it, el, cs, rfl, h1, h2, e3, e4, e5, e6, rfl⟩ := cComp_parts e9
  exact asgc_ok h1 h2 e3 (cI_snd S e4) (S _ _ _ e5).1 (cEs_snd S e6).2 e0
theorem cAsgN_snd {k : Nat} (S : Snd prog w mg mb hB n k) {mu : List Str} {x : Str} {v : Expr} {tp pos : Pos} {q : PS} (h : cAsgN mu (cE k) sc x v = some q) : XS prog w mg mb hB n sc (.Assign [.Name x tp] v pos) q := by
  unfold cAsgN at h
  cases h1 : vComp v with
  | some z => rw [h1] at h; rw [z.2]; exact cAsgC_snd S h
  | none =>
    rw [h1] at h
    clear h1
    cases h1 : vAttr v with
    | some z => rw [h1] at h; rw [z.2]; exact cAsgA_snd h
    | none =>
      rw [h1] at h
      clear h1
      cases h1 : vLst v with
      | some z =>
        rw [h1] at h
        by_cases hc : mu.contains x = true
        · rw [z.2]; exact cAsgO_snd S ((if_pos hc).symm.trans h)
        · exact cAsgE_snd S ((if_neg hc).symm.trans h)
      | none => rw [h1] at h; exact cAsgE_snd S h

theorem cT_snd {k : Nat} (S : Snd prog w mg mb hB n k) : ∀ {bs : List Bool} {es : List Expr} {ps : PEs}, cT (cE k sc) bs es = some ps → TF prog w mg mb hB n sc bs es ps
  | [], es, ps, h => by
    have h : (if es.isEmpty = true then some PEs.nil else none) = some ps := h
    by_cases hc : es.isEmpty = true
    · cases (if_pos hc).symm.trans h; exact ⟨List.isEmpty_iff.mp hc, rfl⟩
    · exact nn ((if_neg hc).symm.trans h)
  | b :: bs, [], ps, h => nn h
  | b :: bs, e :: r, ps, h => by
    cases b with
    | false =>
      obtain ⟨p, e1, h⟩ := Option.bind_eq_some_iff.mp h
      obtain ⟨q, e2, rfl⟩ := Option.map_eq_some_iff.mp h
      exact ⟨e, r, p, q, rfl, rfl, (S _ _ _ e1).1, cT_snd S e2⟩
    | true =>
      obtain ⟨z, _, h⟩ := Option.bind_eq_some_iff.mp h
      obtain ⟨hn, h⟩ := ite_some h
      obtain ⟨l, e1, h⟩ := Option.bind_eq_some_iff.mp h
      obtain ⟨hl, h⟩ := ite_some h
      obtain ⟨q, e2, rfl⟩ := Option.map_eq_some_iff.mp h
      exact ⟨e, r, _, q, rfl, rfl, ⟨z.1.1, z.1.2, l, z.2, rfl, (cEs_snd S e1).1, hn, hl⟩, cT_snd S e2⟩
theorem cAsgT_snd {k : Nat} (S : Snd prog w mg mb hB n k) {mu : List Str} {ts vs : List Expr} {k1 k2 : Nat} {p1 p2 pos : Pos} {q : PS} (h : cAsgT mu (cE k) sc ts vs = some q) : XS prog w mg mb hB n sc (.Assign [.Tuple ts k1 p1] (.Tuple vs k2 p2) pos) q := by
  obtain ⟨xs, e0, h⟩ := Option.bind_eq_some_iff.mp h
  obtain ⟨is, e1, h⟩ := Option.bind_eq_some_iff.mp h
  obtain ⟨ps, e2, h⟩ := Option.bind_eq_some_iff.mp h
  obtain ⟨hc, h⟩ := ite_some h
  obtain ⟨h1, hc⟩ := and_t hc
  obtain ⟨h2, hc⟩ := and_t hc
  obtain ⟨h3, h4⟩ := and_t hc
  cases h
  exact asgt_ok e0 (slots_sl e1) (of_decide_eq_true h1) (cT_snd S e2) h2 (of_decide_eq_true h3) h4
theorem wrapF_snd {st : Stmt} {i : Option Nat} {p : PS} (h : XS prog w mg mb hB n sc st p) : XS prog w mg mb hB n sc st (wrapF i p) := by
  cases i with
  | none => exact h
  | some i => exact frz_ok h
theorem cAsgU_snd {k : Nat} (S : Snd prog w mg mb hB n k) {ts : List Expr} {v : Expr} {k1 : Nat} {p1 pos : Pos} {q : PS} (h : cAsgU (cE k) sc ts v = some q) : XS prog w mg mb hB n sc (.Assign [.Tuple ts k1 p1] v pos) q := by
  obtain ⟨xs, e0, h⟩ := Option.bind_eq_some_iff.mp h
  obtain ⟨is, e1, h⟩ := Option.bind_eq_some_iff.mp h
  obtain ⟨p, e2, h⟩ := Option.bind_eq_some_iff.mp h
  obtain ⟨hc, h⟩ := ite_some h
  obtain ⟨h1, hc⟩ := and_t hc
  cases h
  exact asgu_ok e0 (slots_sl e1) h1 (and_t hc).1 (S _ _ _ e2).1
theorem cSetI_snd {k : Nat} (S : Snd prog w mg mb hB n k) {t v : Expr} {pos : Pos} {q : PS} (h : cSetI (cE k) sc t v = some q) : XS prog w mg mb hB n sc (.Assign [t] v pos) q := by
  obtain ⟨z, _, h⟩ := Option.bind_eq_some_iff.mp h
  obtain ⟨y, _, h⟩ := Option.bind_eq_some_iff.mp h
  obtain ⟨hc, h⟩ := ite_some h
  obtain ⟨i, e0, h⟩ := Option.bind_eq_some_iff.mp h
  obtain ⟨pk, e1, h⟩ := Option.bind_eq_some_iff.mp h
  obtain ⟨pe, e2, rfl⟩ := Option.map_eq_some_iff.mp h
  rw [z.2, y.2]
  exact seti_ok (and_t hc).1 (not_t (and_t (and_t hc).2).1) e0 (S _ _ _ e1).1 (S _ _ _ e2).1
theorem cDel_snd {k : Nat} (S : Snd prog w mg mb hB n k) {ts : List Expr} {pos : Pos} {q : PS} (h : cDel (cE k) sc ts = some q) : XS prog w mg mb hB n sc (.Delete ts pos) q := by
  obtain ⟨t, _, h⟩ := Option.bind_eq_some_iff.mp h
  obtain ⟨z, _, h⟩ := Option.bind_eq_some_iff.mp h
  obtain ⟨y, _, h⟩ := Option.bind_eq_some_iff.mp h
  obtain ⟨hc, h⟩ := ite_some h
  obtain ⟨i, e0, h⟩ := Option.bind_eq_some_iff.mp h
  obtain ⟨pk, e1, rfl⟩ := Option.map_eq_some_iff.mp h
  rw [t.2, z.2, y.2]
  exact deli_ok (not_t (and_t hc).1) e0 (S _ _ _ e1).1
theorem cAsg_snd {k : Nat} (S : Snd prog w mg mb hB n k) {mu : List Str} {ts : List Expr} {v : Expr} {pos : Pos} {q : PS} (h : cAsg mu k sc ts v = some q) : XS prog w mg mb hB n sc (.Assign ts v pos) q := by
  obtain ⟨z, _, h⟩ := Option.bind_eq_some_iff.mp h
  rw [z.2]
  cases h1 : vName z.1 with
  | some y => rw [h1] at h; rw [y.2]; exact cAsgN_snd S h
  | none =>
    rw [h1] at h
    clear h1
    cases h1 : vTup z.1 with
    | none => rw [h1] at h; exact cSetI_snd S h
    | some a =>
      rw [h1] at h
      rw [a.2]
      clear h1
      cases h1 : vTup v with
      | some b => rw [h1] at h; rw [b.2]; exact cAsgT_snd S h
      | none =>
        rw [h1] at h
        obtain ⟨p, e1, rfl⟩ := Option.map_eq_some_iff.mp h
        exact wrapF_snd (cAsgU_snd S e1)

theorem appf2 {x : Str} {px p pos : Pos} {e v : Expr} {g a : Expr} {args : List Expr} {q : PS} (ha : v = .Call g args [] p) (hz : g = .Name x px ∧ args = [e]) (h : XS prog w mg mb hB n sc (.Expr (.Call (.Name x px) [e] [] p) pos) q) : XS prog w mg mb hB n sc (.Expr v pos) q := by
  obtain ⟨rfl, rfl⟩ := hz; subst ha; exact h
theorem app2 {x : Str} {px ap p pos : Pos} {e v : Expr} {g : Expr} {args : List Expr} {q : PS} (ha : v = .Call g args [] p) (hz : g = .Attribute (.Name x px) "append" ap ∧ args = [e]) (h : XS prog w mg mb hB n sc (.Expr (.Call (.Attribute (.Name x px) "append" ap) [e] [] p) pos) q) : XS prog w mg mb hB n sc (.Expr v pos) q := by
  obtain ⟨rfl, rfl⟩ := hz; subst ha; exact h
theorem cApp_snd {k : Nat} (S : Snd prog w mg mb hB n k) {x : Str} {px ap p pos : Pos} {e : Expr} {q : PS} (h : cApp (cE k sc) sc x ap p e = some q) : XS prog w mg mb hB n sc (.Expr (.Call (.Attribute (.Name x px) "append" ap) [e] [] p) pos) q := by
  obtain ⟨hc, h⟩ := ite_some h
  obtain ⟨h1, hc⟩ := and_t hc
  obtain ⟨i, e0, h⟩ := Option.bind_eq_some_iff.mp h
  obtain ⟨pe, e2, rfl⟩ := Option.map_eq_some_iff.mp h
  exact app_ok (not_t (and_t hc).1) h1 (and_t hc).2 e0 (S _ _ _ e2).1
theorem cAppf_snd {k : Nat} (S : Snd prog w mg mb hB n k) {x : Str} {px p pos : Pos} {e : Expr} {q : PS} (h : cAppf (cE k sc) sc x e = some q) : XS prog w mg mb hB n sc (.Expr (.Call (.Name x px) [e] [] p) pos) q := by
  obtain ⟨hd, h⟩ := ite_no h
  obtain ⟨hn, h⟩ := ite_some h
  obtain ⟨i, e0, h⟩ := Option.bind_eq_some_iff.mp h
  obtain ⟨pe, e2, rfl⟩ := Option.map_eq_some_iff.mp h
  exact appf_ok (Bool.eq_false_iff.mpr hd) hn e0 (S _ _ _ e2).1
theorem cExprS_snd {k : Nat} (S : Snd prog w mg mb hB n k) {e : Expr} {pos : Pos} {q : PS} (h : cExprS (cE k sc) sc e = some q) : XS prog w mg mb hB n sc (.Expr e pos) q := by
  obtain ⟨z, _, h⟩ := Option.bind_eq_some_iff.mp h
  cases hp : popOf "append" z.1.1 z.1.2.1 with
  | some y => rw [hp] at h; exact app2 z.2 y.2 (cApp_snd S h)
  | none =>
    rw [hp] at h
    obtain ⟨y, _, h⟩ := Option.bind_eq_some_iff.mp h
    exact appf2 (a := e) z.2 y.2 (cAppf_snd S h)
theorem cAug_snd {k : Nat} (S : Snd prog w mg mb hB n k) {mu : List Str} {t e : Expr} {pos : Pos} {q : PS} (h : cAug mu (cE k sc) sc t e = some q) : XS prog w mg mb hB n sc (.AugAssign t .Add e pos) q := by
  obtain ⟨z, _, h⟩ := Option.bind_eq_some_iff.mp h
  obtain ⟨hd, h⟩ := ite_no h
  obtain ⟨i, e0, h⟩ := Option.bind_eq_some_iff.mp h
  obtain ⟨pe, e2, h⟩ := Option.map_eq_some_iff.mp h
  rw [z.2]
  by_cases hc : mu.contains z.1.1 = true
  · rw [if_pos hc] at h; cases h; exact augo_ok (Bool.eq_false_iff.mpr hd) e0 (S _ _ _ e2).1
  · rw [if_neg hc] at h; cases h; exact aug_ok (Bool.eq_false_iff.mpr hd) e0 (S _ _ _ e2).1
theorem cFor_snd {k : Nat} (S : Snd prog w mg mb hB n k) {mu : List Str} (SS' : SndS prog w mg mb hB n mu k) {t it : Expr} {a : List Stmt} {pos : Pos} {q : PS} (h : cFor (cE k sc) (cS mu k sc) sc t it a = some q) : XS prog w mg mb hB n sc (.For t it a [] pos) q := by
  obtain ⟨z, _, h⟩ := Option.bind_eq_some_iff.mp h
  obtain ⟨hc, h⟩ := ite_some h
  obtain ⟨i, e0, h⟩ := Option.bind_eq_some_iff.mp h
  obtain ⟨it, e1, h⟩ := Option.bind_eq_some_iff.mp h
  obtain ⟨a, e2, rfl⟩ := Option.map_eq_some_iff.mp h
  rw [z.2]
  exact fr_ok hc e0 (cI_snd S e1) (cSs_snd SS' _ e2)

theorem cS1_snd (hre : Prims prog w mg mb hB) (mu : List Str) {k : Nat} (SS' : SndS prog w mg mb hB n mu k) {st : Stmt} {p : PS} (h : cS1 mu k (cS mu k sc) sc st = some p) : XS prog w mg mb hB n sc st p := by
  have S : Snd prog w mg mb hB n k := cE_snd hre k
  cases st with
  | Assign ts v pos => exact cAsg_snd S h
  | AugAssign t op e pos =>
    cases op with
    | Add => exact cAug_snd S h
    | _ => exact nn h
  | Delete ts pos => exact cDel_snd S h
  | Expr e pos => exact cExprS_snd S h
  | If c a b pos =>
    obtain ⟨c, e0, h⟩ := Option.bind_eq_some_iff.mp h
    obtain ⟨a, e1, h⟩ := Option.bind_eq_some_iff.mp h
    obtain ⟨b, e2, rfl⟩ := Option.map_eq_some_iff.mp h
    exact ite_ok (S _ _ _ e0).2 (cSs_snd SS' _ e1) (cSs_snd SS' _ e2)
  | While c a els pos =>
    cases els with
    | cons _ _ => exact nn h
    | nil =>
      obtain ⟨c, e0, h⟩ := Option.bind_eq_some_iff.mp h
      obtain ⟨a, e1, rfl⟩ := Option.map_eq_some_iff.mp h
      exact wh_ok (S _ _ _ e0).2 (cSs_snd SS' _ e1)
  | For t it a els pos =>
    cases els with
    | cons _ _ => exact nn h
    | nil => exact cFor_snd S SS' h
  | Return v pos =>
    cases v with
    | none => exact nn h
    | some e =>
      obtain ⟨pe, e1, rfl⟩ := Option.map_eq_some_iff.mp h
      exact ret_ok (S _ _ _ e1).1
  | Break pos => cases h; exact brk_ok
  | Assert c m pos =>
    obtain ⟨pe, e1, rfl⟩ := Option.map_eq_some_iff.mp h
    exact asrt_ok (S _ _ _ e1).2
  | _ => exact nn h
theorem cS_snd (hre : Prims prog w mg mb hB) (mu : List Str) (k : Nat) : SndS prog w mg mb hB n mu k := by
  induction k with
  | zero => intro sc st p h; cases h
  | succ k ih => intro sc st p h; exact cS1_snd hre mu ih h
end
end Mine

namespace Mine
open StrLaws

theorem Room.deeper {n : Nat} {A : Around} {env : Env} (R : Room (n + 1) A) : Room n (A.deeper env) where
  handled := R.handled
  depth := by have := R.depth; show A.depth + 1 + n < recursionLimit; and_intros
  units := by have := R.units; show A.units + 3 + 200 + 20 * n < cLine; and_intros

theorem bindL_other {kindOf : Str → Option NameKind} {y : Str} : ∀ {binds : List (Str × Value)} {m : Str → Option Value}, (∀ q ∈ binds, q.1 ≠ y) → bindL kindOf binds m y = m y
  | [], _, _ => rfl
  | (n, v) :: r, m, h => by
    unfold bindL
    rw [bindL_other fun q hq => h q (List.mem_cons_of_mem _ hq)]
    split
    · exact if_neg fun (e : y = n) => h (n, v) List.mem_cons_self e.symm
    · rfl
theorem bindC_other {kindOf : Str → Option NameKind} {y : Str} : ∀ {binds : List (Str × Value)} {m : Str → Option Value}, (∀ q ∈ binds, q.1 ≠ y) → bindC kindOf binds m y = m y
  | [], _, _ => rfl
  | (n, v) :: r, m, h => by
    unfold bindC
    rw [bindC_other fun q hq => h q (List.mem_cons_of_mem _ hq)]
    split
    · rfl
    · exact if_neg fun (e : y = n) => h (n, v) List.mem_cons_self e.symm
theorem bindL_at {kindOf : Str → Option NameKind} {y : Str} {u : Value} (hk : kindOf y = some .local) : ∀ {binds : List (Str × Value)} {m : Str → Option Value}, (binds.map (·.1)).Nodup → (y, u) ∈ binds → bindL kindOf binds m y = some u
  | (n, v) :: r, m, nd, h => by
    obtain ⟨n1, n2⟩ := List.nodup_cons.mp nd
    unfold bindL
    rcases List.mem_cons.mp h with e | h
    · cases e
      rw [bindL_other (fun q hq (e : q.1 = y) => n1 (by show y ∈ r.map (·.1); rw [← e]; exact List.mem_map_of_mem hq)), if_pos hk]
      simp
    · exact bindL_at hk n2 h
theorem bindC_at {kindOf : Str → Option NameKind} {y : Str} {u : Value} (hk : kindOf y ≠ some .local) : ∀ {binds : List (Str × Value)} {m : Str → Option Value}, (binds.map (·.1)).Nodup → (y, u) ∈ binds → bindC kindOf binds m y = some u
  | (n, v) :: r, m, nd, h => by
    obtain ⟨n1, n2⟩ := List.nodup_cons.mp nd
    unfold bindC
    rcases List.mem_cons.mp h with e | h
    · cases e
      rw [bindC_other (fun q hq (e : q.1 = y) => n1 (by show y ∈ r.map (·.1); rw [← e]; exact List.mem_map_of_mem hq)), if_neg hk]
      simp
    · exact bindC_at hk n2 h
/-- what the evaluator's slots are at the start -/
structure EntryOk (sc : Scope) (ps : List Str) : Prop where
  kind : sc.kind = .function
  co : sc.isCoroutine = false
  gen : sc.isGenerator = false
  nf : ∀ x, sc.names.lookup x ≠ some .free
  nd : ps.Nodup
  at_ : ∀ (i : Nat) x, ps[i]? = some x → sc.names.lookup x = some .local ∨ sc.names.lookup x = some .cell
  slot : ∀ (i : Nat) x, slotOf sc x = some i → i < ps.length → ps[i]? = some x

section
variable {prog : Program} {w : World} {mg mb : Str → Option Value} {hB : Heap}

theorem fn_frame {n : Nat} {F : PF1} {x : Str} {a : Addr} {o : Obj} {fd : FuncData} {body : List Stmt} {params : List Str} {c : Addr} {oc : Obj} {vs : Array Value} {t : Tok} {args args' : List PV} {r : PV}
    (base : Base mg mb hB) (FS : FsOk prog w mg hB n F) (hm : mg x = some (.ref a)) (ho : hB.get? a = some o) (hd : o.data = .func fd) (hbody : fd.body = .stmts body) (hclo : fd.closure = []) (hglb : fd.globals = mainGlobals) (hblt : fd.builtins = builtinsNs)
    (hcode : fd.code = .ref c) (hoc : hB.get? c = some oc) (hocn : NoTab oc) (hocd : oc.data = .fields vs) (hq : vs[1]? = some (.str fd.qualname t)) (hcdv : (slotOf fd.scope "stuff").isSome = true → c = CT)
    (E : EntryOk fd.scope params) (hlen : args'.length = params.length)
    (hbind : ∀ (C : RC) (vals : List Value) (A : Around) (s : Shared), (∀ b, C.X b → ∃ o, NoTab o ∧ s.heap.get? b = some o) → RepL C s.heap args vals → noOwnL args = true → wpAny (model prog w) A (bindArgs fd ⟨vals, []⟩) (fun binds s₁ => Keeps s s₁ ∧ ∃ us, binds = params.zip us ∧ RepL C s₁.heap args' us) noE s)
    (hno : noOwnL args = true → noOwnL args' = true)
    (hrn : noOwn r = true)
    (run : ∀ (env : Env) (A' : Around) (C : RC) (h0 : Heap) (C1 : RC) (s₂ : Shared), noOwnL args' = true → Fra prog w mg mb hB n fd.scope F env A' C h0 C1 ⟨args'.map some ++ List.replicate (fd.scope.names.length - args'.length) none, []⟩ s₂.heap →
      wpAny (model prog w) A' (execs body env) (fun fl s' => KN h0 s'.heap ∧ Same s₂ s' ∧ Rep C s'.heap r (match fl with | .ret v => v | _ => .none)) noE s₂) : FnOk prog w mg hB (n + 1) x args r := by
  refine ⟨a, fd, o, hm, ho, hd, hrn, fun C vals A s hk hX hrep hnoa R => ?_⟩
  refine wpAny_call (codeAny_call_function (Nat.lt_of_le_of_lt (Nat.le_add_right _ _) R.depth) (hk.func ho hd) hd E.co E.gen hbody ⟨c, oc, vs, t, hcode, hk.nt _ _ hocn hoc, hocd, hq⟩ ?_)
  refine seqE (hbind C vals A.in1 s hX hrep hnoa) fun binds s₁ ⟨k1, us, hbs, hru⟩ => ?_
  subst hbs
  rw [hclo]
  have hul := hru.length
  have hmap : (params.zip us).map (·.1) = params := List.map_fst_zip (by and_intros)
  have hlu : params.length = us.length := by and_intros
  have hkinds : ∀ q ∈ params.zip us, fd.scope.names.lookup q.1 = some .local ∨ (fd.scope.names.lookup q.1 = some .cell ∧ ((cellsFrom (s₁.heap.objs.size + 1) fd.scope.names []).lookup q.1).isSome = true) := by
    intro q hq
    have hq1 : q.1 ∈ params := hmap ▸ List.mem_map_of_mem hq
    obtain ⟨i, hi⟩ := List.getElem?_of_mem hq1
    rcases E.at_ i q.1 hi with h1 | h1
    · exact .inl h1
    · exact .inr ⟨h1, cellsFrom_mem (mem_of_lookup h1)⟩
  have hX1 : ∀ b, C.X b → ∃ o, NoTab o ∧ s₁.heap.get? b = some o := fun b hb => let ⟨o, nt, e⟩ := hX b hb; ⟨o, nt, (kheap k1).nt _ _ nt e⟩
  have hk1 : KN hB s₁.heap := hk.trans (kheap k1)
  refine wpAny_newFunctionEnv_cells E.kind hkinds fun env he s₂ ic => ?_
  have hen : env.scope = fd.scope := by rw [he]; rfl
  have hec : env.code = fd.code := by rw [he]; rfl
  have heg : env.globals = mainGlobals := by rw [he]; exact hglb
  have heb : env.builtins = builtinsNs := by rw [he]; exact hblt
  have heL : env.locals = s₁.heap.objs.size := by rw [he]; rfl
  have hecs : env.cells = cellsFrom (s₁.heap.objs.size + 1) fd.scope.names [] := by rw [he]; rfl
  have hkn : ∀ y, env.kindOf y = fd.scope.names.lookup y := fun y => by unfold Env.kindOf; rw [hen]
  have kn : KN s₁.heap s₂.heap := .of ic.toInCall.keep
  have same2 : Same s₁ s₂ := by obtain ⟨h', tk, e⟩ := ic.toInCall.same; rw [e]; exact ⟨rfl, id⟩
  clear he
  refine ⟨base.lim |> fun l => (hk1.trans kn).noLimit l, codeAny_func ?_⟩
  generalize hp : (fun b : Addr => b = env.locals ∨ ∃ y, env.cells.lookup y = some b) = p
  have hpp : ∀ b, p b → hsz s₁.heap ≤ b ∧ ∃ o, NoTab o ∧ s₂.heap.get? b = some o := fun b hb => by
    rw [← hp] at hb
    rcases hb with rfl | ⟨y, hy⟩
    · exact ⟨heL ▸ hsz_size _, ns_live ic.toInCall.ns⟩
    · refine ⟨Nat.le_trans (hsz_size _) (Nat.le_of_lt ?_), cell_live (ic.cell y b hy)⟩
      have := ic.above y b (mem_of_lookup hy)
      rw [heL] at this; exact this
  have S : Sub C (C.plus p) s₁.heap s₂.heap := .plus kn fun b hb => (hpp b hb).1
  have hru2 : RepL { (C.plus p) with ads := [] } s₂.heap args' us := RepL.free (C := C.plus p) (C' := { (C.plus p) with ads := [] }) rfl rfl _ _ (hno hnoa) (RepL.mono S _ _ hru)
  have X : Fra prog w mg mb hB n fd.scope F env (A.deeper env) C s₁.heap { (C.plus p) with ads := [] } ⟨args'.map some ++ List.replicate (fd.scope.names.length - args'.length) none, []⟩ s₂.heap := by
    refine ⟨⟨FS, ⟨base, by rw [hen]; exact E.kind, heg, heb, fun q => ?_, hk1.trans kn, fun y kk e => .inl (by rw [hkn]; exact e), fun y e => ?_, fun y i v e1 e2 => ?_, ⟨fun j vs e => by simp at e, fun b hb => ?_⟩⟩, R.deeper⟩, hk1, kn, fun b hb => ?_, fun b hb => .inl hb, rfl, ⟨_, ic.toInCall.ns⟩, ⟨.inr (by rw [← hp]; exact .inl rfl), heL ▸ hsz_size _⟩, fun y cc e => ?_, fun y z cc e1 e2 => ?_, fun j b e => by simp at e, fun j b vs e => by simp at e, fun j j' b e => by simp at e, rfl, E.nf, fun b hb => ?_⟩
    · rw [hec, hcode, hcdv q]
    · rcases e with e | e
      · have := cellsFrom_mem (k := s₁.heap.objs.size + 1) (acc := []) (mem_of_lookup e)
        rw [← hecs] at this
        exact Option.isSome_iff_exists.mp this
      · exact absurd e (E.nf y)
    · have hi : i < args'.length := by
        rcases Nat.lt_or_ge i args'.length with h | h
        · exact h
        · rw [List.getElem?_append_right (by simpa using h)] at e2
          simp [List.getElem?_replicate] at e2
      rw [List.getElem?_append_left (by simpa using hi), List.getElem?_map] at e2
      obtain ⟨v', ev', e3⟩ := Option.map_eq_some_iff.mp e2
      cases e3
      obtain ⟨u, eu, ru⟩ := hru2.at i v ev'
      refine ⟨u, ?_, ru⟩
      have hpi := E.slot i y e1 (by and_intros)
      have hmem : (y, u) ∈ params.zip us := by
        refine List.mem_of_getElem? (i := i) ?_
        rw [List.getElem?_zip_eq_some]
        exact ⟨hpi, eu⟩
      have hnd : ((params.zip us).map (·.1)).Nodup := by rw [hmap]; exact E.nd
      rcases E.at_ i y hpi with h1 | h1
      · exact .inl ⟨by rw [hkn]; exact h1, _, ic.toInCall.ns, bindL_at (by rw [hkn]; exact h1) hnd hmem⟩
      · have := cellsFrom_mem (k := s₁.heap.objs.size + 1) (acc := []) (mem_of_lookup h1)
        rw [← hecs] at this
        obtain ⟨cc, hcc⟩ := Option.isSome_iff_exists.mp this
        refine .inr ⟨.inl (by rw [hkn]; exact h1), cc, hcc, ?_⟩
        have h2 := ic.cell y cc hcc
        rwa [bindC_at (by rw [hkn, h1]; decide) hnd hmem] at h2
    · rcases hb with hb | hb
      · obtain ⟨o, nt, e⟩ := hX1 b hb
        exact ⟨o, nt, kn.nt _ _ nt e⟩
      · exact (hpp b hb).2
    · rcases hb with hb | hb
      · exact .inl hb
      · exact .inr (hpp b hb).1
    · have : p cc := by rw [← hp]; exact .inr ⟨y, e⟩
      exact ⟨.inr this, (hpp cc this).1, _, ic.cell y cc e⟩
    · exact name_of_addr ic.apart (mem_of_lookup e1) (mem_of_lookup e2)
    · obtain ⟨o, _, e⟩ := hX1 b hb
      exact hsz_lt e
  refine seqE (run env _ C _ _ s₂ (hno hnoa) X) fun fl s' ⟨b3, b2, b4⟩ => ⟨?_, b4⟩
  exact ktrans k1 ⟨b3, same2.trans b2⟩

theorem fn_entry {n N : Nat} {F : PF1} {x : Str} {a : Addr} {o : Obj} {fd : FuncData} {body : List Stmt} {mu : List Str} {k : Nat} {pss : PSs} {params : List Str} {c : Addr} {oc : Obj} {vs : Array Value} {t : Tok} {args args' : List PV} {r : PV}
    (base : Base mg mb hB) (hre : Prims prog w mg mb hB) (FS : FsOk prog w mg hB n F) (hm : mg x = some (.ref a)) (ho : hB.get? a = some o) (hd : o.data = .func fd) (hbody : fd.body = .stmts body) (hclo : fd.closure = []) (hglb : fd.globals = mainGlobals) (hblt : fd.builtins = builtinsNs)
    (hcode : fd.code = .ref c) (hoc : hB.get? c = some oc) (hocn : NoTab oc) (hocd : oc.data = .fields vs) (hq : vs[1]? = some (.str fd.qualname t)) (hcdv : (slotOf fd.scope "stuff").isSome = true → c = CT)
    (E : EntryOk fd.scope params) (hc : cSs (cS mu k fd.scope) body = some pss) (hlen : args'.length = params.length)
    (hbind : ∀ (C : RC) (vals : List Value) (A : Around) (s : Shared), (∀ b, C.X b → ∃ o, NoTab o ∧ s.heap.get? b = some o) → RepL C s.heap args vals → noOwnL args = true → wpAny (model prog w) A (bindArgs fd ⟨vals, []⟩) (fun binds s₁ => Keeps s s₁ ∧ ∃ us, binds = params.zip us ∧ RepL C s₁.heap args' us) noE s)
    (hno : noOwnL args = true → noOwnL args' = true)
    (hr : pfun N F fd.scope.names.length pss args' = some r) : FnOk prog w mg hB (n + 1) x args r := by
  obtain ⟨q, hx, hr⟩ := Option.bind_eq_some_iff.mp hr
  obtain ⟨σ', q⟩ := q
  have hrn : noOwn r = true := by
    cases q with
    | next => cases hr; rfl
    | brk => exact nn hr
    | ret v => obtain ⟨h, hr⟩ := ite_some hr; cases hr; exact h
  refine fn_frame base FS hm ho hd hbody hclo hglb hblt hcode hoc hocn hocd hq hcdv E hlen hbind hno hrn fun env A' C h0 C1 s₂ _ X => ?_
  refine seqE (cSs_snd (cS_snd hre mu k) body hc X hx) fun fl s' res => ?_
  cases q with
  | next =>
    obtain ⟨C', b1, b2, b3, rfl⟩ := res
    cases hr
    exact ⟨b3.k0, b2, rep_none⟩
  | brk => exact nn hr
  | ret v =>
    obtain ⟨C', b1, b2, b3, u, rfl, b4⟩ := res
    obtain ⟨_, hr⟩ := ite_some hr
    cases hr
    exact ⟨b3.k0, b2, b4 hrn⟩
end
end Mine

namespace Mine
open StrLaws
section
variable {prog : Program} {w : World} {A : Around} {s : Shared}

theorem sub_key_lookup : isSubtype (.type "KeyError") (.type "LookupError") = pure true := by rw [isSubtype_type]; kernel_rfl
theorem specmap_hit {f : Int → Option Value} {c : Nat} {x : Str} {t : Tok} (hm : s.heap.IntMap spA f) (hf : f c = some (.str x t)) :
    wpAny (model prog w) A (Builtin.Str.tableLookup (.ref spA) c) (fun m s' => Keeps s s' ∧ m = .text x) noE s := by
  unfold Builtin.Str.tableLookup
  refine wpAny_bind (wpAny_attempt (wpAny_bind (wpAny_mkInt (wpAny_getItem_intMap (s := { s with toks := s.toks + 1 }) hm hf ?_))))
  refine wpAny_bind (wpAny_pure ?_)
  refine wpAny_bind (wpAny_pure ?_)
  exact wpAny_pure ⟨kp, rfl⟩
theorem specmap_miss {f : Int → Option Value} {c : Nat} (hh : A.handled = none) (hm : s.heap.MapOf (intKind prog w) spA f) (hf : f c = none) :
    wpAny (model prog w) A (Builtin.Str.tableLookup (.ref spA) c) (fun m s' => Keeps s s' ∧ m = .keep) noE s := by
  have hk : (intKind prog w).is (c : Int) (.int c s.toks) = true := by
    have h1 : Value.isInt (c : Int) (.int c s.toks) = true := by simp [Value.isInt]
    exact h1
  unfold Builtin.Str.tableLookup
  refine wpAny_bind (wpAny_attempt (wpAny_bind (wpAny_mkInt (wpAny_getItem_missing_of (s := { s with toks := s.toks + 1 }) (knd := intKind prog w) (k := (c : Int)) hk (by decide) hh hm hf fun h' e hn => ?_))))
  obtain ⟨ob, tt, ho, hc, hd⟩ := hn.there
  have hT : ({ s with heap := h', toks := s.toks + 1 + 1 } : Shared).TypeIs (.ref e) "KeyError" := ⟨_, ho, hc⟩
  refine wpAny_bind (wpAny_isInstance hT sub_key_lookup ?_)
  simp only [if_true]
  exact wpAny_bind (wpAny_rule (wpAny_pure ⟨keepsOf hn.keeps, rfl⟩))

theorem spec_call {c : Nat} {t : Tok} {y : List Nat} (hlk : ∀ (A' : Around) (s' : Shared), A'.handled = none → Keeps s s' → wpAny (model prog w) A' (Builtin.Str.tableLookup (.ref spA) c) (fun m s2 => Keeps s' s2 ∧ ((y = [92, c] ∧ m = .text ⟨#[92, c]⟩) ∨ (y = [c] ∧ m = .keep))) noE s') (hh : A.handled = none) (hy : y.length ≤ 2) {C : RC} :
    wpAny (model prog w) A (call (.builtin "str.translate") [.str ⟨#[c]⟩ t, .ref spA]) (Post C s (.str y)) noE s := by
  refine wpAny_call_entry PySem.F.slot_str_translate (typeIs_str _ _ _) PySem.F.entry_str_translate ?_ (PySem.F.args_str_translate_2 _ _)
  unfold Builtin.«str.translate»
  refine wpAny_bind (wpAny_of_eq (a := (Value.str ⟨#[c]⟩ t, (⟨#[c]⟩ : Str), Value.ref spA)) (by rfl) ?_)
  dsimp only
  rw [if_neg (show ¬ (((⟨#[c]⟩ : Str).length == 0) = true) from fun h => by simp [Str.length] at h)]
  have h0 : Builtin.Str.tooLong 0 = false := by simp [Builtin.Str.tooLong]
  have tail : ∀ {s1 : Shared} {pieces : List Str} {total : Nat}, Keeps s s1 → Builtin.Str.tooLong total = false → (List.foldl (fun acc (p : Str) => acc ++ p.cps) #[] pieces.reverse).toList = y →
      wpAny (model prog w) A.in1 (if Builtin.Str.tooLong total = true then (do unsupported "str.translate:memory"; retStr { cps := List.foldl (fun acc (p : Str) => acc ++ p.cps) #[] pieces.reverse }) else retStr { cps := List.foldl (fun acc (p : Str) => acc ++ p.cps) #[] pieces.reverse })
        (fun fin s' => ∃ v, fin = Fin.done (Flow.ret v) ∧ Post C s (PV.str y) v s') noE s1 := by
    intro s1 pieces total k1 h1 h2
    rw [h1]
    simp only [Bool.false_eq_true, if_false]
    unfold retStr
    refine wpAny_bind (wpAny_mkStr (wpAny_pure ⟨_, rfl, ktrans k1 kp, rep_str' h2⟩) ?_)
    rw [str_len, h2, sizeLine_eq]; and_intros
  simp only [List.forIn_toArray, List.forIn_cons, List.forIn_nil]
  refine wpAny_bind (wpAny_bind ?_)
  simp only [h0, Bool.false_eq_true, if_false]
  cases hf : (#[c].all fun x => decide (x < 128)) with
  | true =>
    simp only [if_true, List.lookup_nil]
    refine wpAny_bind (seqE (hlk _ s hh (krefl s)) fun m s1 ⟨k1, hm⟩ => ?_)
    rcases hm with ⟨rfl, rfl⟩ | ⟨rfl, rfl⟩
    · have hl : ((⟨#[92, c]⟩ : Str).length == 1) = false := by simp [Str.length]
      simp only [hl, Bool.false_and, Bool.false_eq_true, if_false]
      refine wpAny_bind (wpAny_pure ?_)
      refine wpAny_bind (wpAny_rule (wpAny_bind (seqE (hlk _ s1 hh k1) fun m s2 ⟨k2, hm⟩ => ?_)))
      rcases hm with ⟨_, rfl⟩ | ⟨h, _⟩
      · exact wpAny_pure (wpAny_pure (tail (ktrans k1 k2) (by simp [Str.length, Builtin.Str.tooLong, sizeLine_eq]) (by simp)))
      · simp at h
    · refine wpAny_bind (wpAny_pure ?_)
      exact wpAny_pure (wpAny_pure (tail k1 (by simp [Builtin.Str.tooLong, sizeLine_eq]) (by simp)))
  | false =>
    simp only [Bool.false_eq_true, if_false]
    refine wpAny_bind (seqE (hlk _ s hh (krefl s)) fun m s1 ⟨k1, hm⟩ => ?_)
    rcases hm with ⟨rfl, rfl⟩ | ⟨rfl, rfl⟩
    · exact wpAny_pure (wpAny_pure (tail k1 (by simp [Str.length, Builtin.Str.tooLong, sizeLine_eq]) (by simp)))
    · exact wpAny_pure (wpAny_pure (tail k1 (by simp [Builtin.Str.tooLong, sizeLine_eq]) (by simp)))

theorem spec_prim {hB : Heap} {f : Int → Option Value} (hm : hB.MapOf (intKind prog w) spA f) (hf : ∀ c : Nat, if specials.contains c then ∃ t, f c = some (.str ⟨#[92, c]⟩ t) else f c = none) : SpecOk prog w hB := by
  intro n C A s x t c hk R hx
  have hx' : x = ⟨#[c]⟩ := by
    cases x with
    | mk a => congr 1; exact Array.ext' (by simpa using hx)
  subst hx'
  have hm' : ∀ s' : Shared, Keeps s s' → s'.heap.MapOf (intKind prog w) spA f := fun s' k => by
    obtain ⟨o, es, ep, e, hc, hd, r⟩ := hm
    exact ⟨o, es, ep, (hk.trans (kheap k)).nt _ _ (noTab_data (by rw [hd]; nofun)) e, hc, hd, r⟩
  refine spec_call (y := pesc c) (fun A' s' hh k => ?_) R.handled ?_
  · have h1 := hf c
    unfold pesc
    split at h1
    · rename_i hc
      obtain ⟨tt, h1⟩ := h1
      exact seqE (specmap_hit (hm' s' k).intMap h1) fun m s2 ⟨k2, e⟩ => ⟨k2, .inl ⟨by rw [if_pos hc], e⟩⟩
    · rename_i hc
      exact seqE (specmap_miss hh (hm' s' k) h1) fun m s2 ⟨k2, e⟩ => ⟨k2, .inr ⟨by rw [if_neg hc], e⟩⟩
  · unfold pesc; split <;> simp
end
end Mine

namespace Mine
theorem lookup_object_new : typeLookup (.type "object") "__new__" = pure (some (.builtin "object.__new__")) := by rw [typeLookup_type, builtinLookup_eq_fast]; kernel_rfl
theorem slot_object_init : Slot "object" "__init__" "object.__init__" :=
  .of (owner := "object") (n := "__init__") (by rw [typeLookup_type, builtinLookup_eq_fast]; kernel_rfl) (by decide +kernel) (by decide +kernel) (by decide +kernel)
    (by first | exact .inl (by decide +kernel) | exact .inr (by decide +kernel)) (by rw [isSubtype_type]; kernel_rfl)
theorem ctc : checkTypeCall "object" ⟨[], []⟩ = pure () := by kernel_rfl
theorem cbc : checkBuiltinCall "object.__new__" ⟨[.type "object"], []⟩ = pure () := by kernel_rfl
theorem ent_on : entryFor table "object.__new__" = some Builtin.«object.__new__» := entryFor_of_tree (by kernel_rfl)
theorem called_object : TypeCalled "object" "object.__new__" "object.__init__" :=
  ⟨by decide +kernel, by decide +kernel, ⟨_, _, PySem.F.mro_object⟩, madeBy_type PySem.F.mro_object lookup_object_new (by decide +kernel), by decide +kernel, by rw [isSubtype_type]; kernel_rfl, slot_object_init⟩
section
variable {prog : Program} {w : World} {A : Around} {E : Value → Shared → Prop} {s : Shared}
theorem new_object {Q : Fin → Shared → Prop} (h : Q (.done (.ret (.ref s.heap.objs.size))) { s with heap := s.heap.push { cls := .type "object", data := .plain } }) :
    wpAny (model prog w) A (Builtin.«object.__new__» ⟨[.type "object"], []⟩) Q E s := by
  obtain ⟨hh, g, d, tk, os⟩ := s
  have hmd := called_object.made
  repeat (any_goals (first | assumption | wp_step))

theorem call_object {Q : Value → Shared → Prop} (h : Q (.ref s.heap.objs.size) { s with heap := s.heap.push { cls := .type "object", data := .plain } }) : wpAny (model prog w) A (call (.type "object") []) Q E s := by
  refine callType_meets (Q₁ := fun obj s₁ => obj = .ref s.heap.objs.size ∧ s₁ = { s with heap := s.heap.push { cls := .type "object", data := .plain } }) (S := fun _ R s => R (.ok (.ret (.ref s.heap.objs.size))) { s with heap := s.heap.push { cls := .type "object", data := .plain } })
    called_object ctc cbc ent_on PySem.F.entry_object_init (.of_wp fun prog w A R s hs => new_object ⟨_, rfl, hs⟩) ⟨rfl, rfl⟩ fun obj s₁ h₁ => ?_
  obtain ⟨rfl, rfl⟩ := h₁
  exact ⟨⟨_, Heap.get?_push_size _ rfl, rfl⟩, PySem.F.args_object_init_1 _, _, .of_wp fun prog w A R s hs => wpAny_pure ⟨_, rfl, hs⟩, ⟨rfl, h⟩⟩
end
end Mine

namespace Mine
open StrLaws

mutual
noncomputable def noSt : PV → Bool
  | .star => false
  | .tup vs | .list vs => noStL vs
  | _ => true
noncomputable def noStL : List PV → Bool
  | [] => true
  | p :: ps => noSt p && noStL ps
end
mutual
theorem Rep.restar {C : RC} {a : Addr} {h : Heap} : ∀ (p : PV) (v : Value), noSt p = true → Rep C h p v → Rep { C with st := a } h p v
  | .none, v, _, r => r
  | .bool b, v, _, r => r
  | .int i, v, _, r => r
  | .str l, v, _, r => r
  | .tup vs, v, n, r => let ⟨b, xs, e, hna, ht, hl⟩ := r; ⟨b, xs, e, hna, ht, RepL.restar vs _ n hl⟩
  | .list vs, v, n, r => let ⟨b, xs, e, hna, ht, hl⟩ := r; ⟨b, xs, e, hna, ht, RepL.restar vs _ n hl⟩
  | .star, v, n, r => nomatch n
  | .own k, v, n, r => r
  | .app k, v, n, r => r
theorem RepL.restar {C : RC} {a : Addr} {h : Heap} : ∀ (p : List PV) (v : List Value), noStL p = true → RepL C h p v → RepL { C with st := a } h p v
  | [], v, _, r => r
  | p :: ps, v, n, r => let ⟨w, r', e, h1, h2⟩ := r; ⟨w, r', e, Rep.restar p w (Bool.and_eq_true_iff.mp n).1 h1, RepL.restar ps r' (Bool.and_eq_true_iff.mp n).2 h2⟩
end
section
variable {prog : Program} {w : World} {mg mb : Str → Option Value} {hB : Heap} {n : Nat} {sc : Scope} {F : PF1} {env : Env} {A : Around} {C0 : RC} {h0 : Heap}
theorem Fra.restar {C : RC} {G : Slots} {h : Heap} {a : Addr} (X : Fra prog w mg mb hB n sc F env A C0 h0 C ⟨G, []⟩ h) (hG : ∀ (i : Nat) v, G[i]? = some (some v) → noSt v = true) :
    Fra prog w mg mb hB n sc F env A { C0 with st := a } h0 { C with st := a } ⟨G, []⟩ h := by
  have I := X.cx.I
  exact ⟨⟨X.cx.FS, ⟨I.base, I.kind, I.glb, I.blt, I.cdv, I.top, I.knd, I.cel, fun x i v e1 e2 => let ⟨u, S, r⟩ := I.slots x i v e1 e2; ⟨u, S, Rep.restar v u (hG i v e2) r⟩, ⟨fun k vs e => by simp at e, I.W.lt⟩⟩, X.cx.R⟩, X.b0, X.k0, X.x0, X.xw, rfl, X.ns, X.xl, X.cl, X.ci, X.ad, X.ax, X.ai, X.al, X.nf, X.x00⟩

theorem star_ok {C : RC} {G : Slots} {s : Shared} {x : Str} {i : Nat} {px fp p pos : Pos} (X : Fra prog w mg mb hB n sc F env A C0 h0 C ⟨G, []⟩ s.heap) (hG : ∀ (i : Nat) v, G[i]? = some (some v) → noSt v = true) (hi : slotOf sc x = some i) (hg : isGl sc "object" = true) :
    wpAny (model prog w) A (exec (.Assign [.Name x px] (.Call (.Name "object" fp) [] [] p) pos) env) (fun fl s' => fl = .next ∧ ∃ a, Same s s' ∧ Fra prog w mg mb hB n sc F env A { C0 with st := a } h0 { C with st := a } ⟨G.set i (some .star), []⟩ s'.heap) noE s := by
  have hb := X.cx.I.base.bis ("object", .type "object") (by decide)
  refine wpAny_Assign_Name (Call_Name (backTo_of (es := []) rfl) (glob_load (v := .type "object") X.cx hg (by decide) (.inr hb) ?_))
  refine PyProof.Rows.callWith_type (T := "object") any_of (evalArgs_of (es := []) (Calls.spliced_nil (call_object ?_)))
  have k1 : Keeps s { s with heap := s.heap.push { cls := .type "object", data := .plain } } := ⟨.push _ _, rfl, id⟩
  have Y := (X.keep (kheap k1)).restar (a := s.heap.objs.size) hG
  refine store_ok (s := { s with heap := s.heap.push { cls := .type "object", data := .plain } }) Y hi (v := .star) rfl fun h' tk hk Z => ?_
  exact ⟨rfl, s.heap.objs.size, (Same.of k1).trans .heap, Z⟩
end
end Mine

namespace Mine
theorem slot_re_sub : Slot "re.Pattern" "sub" "re.Pattern.sub" :=
  .of (owner := "re.Pattern") (n := "sub") (by rw [typeLookup_type, builtinLookup_eq_fast]; kernel_rfl) (by decide +kernel) (by decide +kernel) (by decide +kernel)
    (by first | exact .inl (by decide +kernel) | exact .inr (by decide +kernel)) (by rw [isSubtype_type]; kernel_rfl)
theorem type_re_sub : typeOf (.builtin "re.Pattern.sub") = pure (.type "method_descriptor") := by show builtinType _ = _; rw [builtinType_eq_fast]; kernel_rfl
theorem entry_re_sub : entryFor table "re.Pattern.sub" = some Builtin.«re.Pattern.sub» := entryFor_of_tree (by kernel_rfl)
theorem entry_re_loop : entryFor table "re.Pattern.sub.loop" = some Builtin.«re.Pattern.sub.loop» := entryFor_of_tree (by kernel_rfl)
theorem plainAttrs_re : PlainAttrs "re.Pattern" :=
  ⟨⟨"object.__getattribute__", by rw [typeLookup_type, builtinLookup_eq_fast]; kernel_rfl, by decide +kernel⟩, by rw [typeLookup_type, builtinLookup_eq_fast]; kernel_rfl⟩
end Mine

namespace Mine
open StrLaws
open PySem.Builtin.Re

theorem re_bit : ∀ c : Nat, c < 256 → (c == 38 || c == 126 || c == 124) = false → (reCode.getD (5 + (1 + c / 32)) 0).testBit (c % 32) = false := by decide +kernel
theorem inSet_no (c : Nat) (h : (c == 38 || c == 126 || c == 124) = false) (fuel : Nat) (seen : Sre.Seen) : ∃ s', Sre.inSet reCode c (fuel + 2) 5 true seen = .ok (false, s') := by
  have hf : (decide (c < 256) && (reCode.getD (5 + (1 + c / 32)) 0).testBit (c % 32)) = false := by
    by_cases hc : c < 256
    · rw [re_bit c hc h, Bool.and_false]
    · rw [decide_eq_false hc, Bool.false_and]
  have e : Sre.inSet reCode c (fuel + 2) 5 true seen = if (decide (c < 256) && (reCode.getD (5 + (1 + c / 32)) 0).testBit (c % 32)) = true then .ok (true, seen.add 9) else Sre.inSet reCode c (fuel + 1) (5 + 9) true (seen.add 9) := rfl
  rw [hf] at e
  exact ⟨_, e.trans rfl⟩

theorem admitted_no (m : Sre.M) (hc : m.code = reCode) (ht : ∀ s, (fun c => c == 38 || c == 126 || c == 124) (m.text.getD s 0) = false) : ∀ (fuel s : Nat) (seen : Sre.Seen), ∃ seen', Sre.M.admitted m fuel s seen = .ok (none, seen')
  | 0, s, seen => ⟨seen, rfl⟩
  | fuel + 1, s, seen => by
    unfold Sre.M.admitted
    split
    · exact ⟨seen, rfl⟩
    · rw [hc]
      obtain ⟨s', e⟩ := inSet_no (m.text.getD s 0) (ht s) 30 seen
      rw [show reCode.size = 30 + 2 from rfl, e]
      exact admitted_no m hc ht fuel (s + 1) s'

theorem run_failed {m : Sre.M} (ho : m.outcome = none) (ha : m.answer = some false) (hf : m.frames = []) : (m.runFor reTurnSteps).outcome = some .failed := by
  unfold reTurnSteps
  rw [Sre.M.runFor, ho]
  have e : m.step = { m with outcome := some .failed } := by
    unfold Sre.M.step
    rw [ho, ha, hf]; rfl
  simp only [Option.isSome_none, Bool.false_eq_true, if_false, e]
  rfl

theorem attempt_no {m : Sre.M} (hc : m.code = reCode) (ht : ∀ s, (fun c => c == 38 || c == 126 || c == 124) (m.text.getD s 0) = false) (hs : m.hasFirstSet = true) (ho : m.outcome = none) (hf : m.frames = []) (s : Nat) (first : Bool) :
    ((m.attemptFrom s first).runFor reTurnSteps).outcome = some .failed := by
  unfold Sre.M.attemptFrom
  rw [hs]
  obtain ⟨seen', e⟩ := admitted_no m hc ht (m.lim + 1 - s) s m.seen
  rw [e]
  exact run_failed ho rfl hf

theorem re_none {text : Array Nat} {g : Nat} (ht : ∀ s : Nat, (fun c => c == 38 || c == 126 || c == 124) (text.getD s 0) = false) : ((Sre.forSearch reCode text g 0 text.size false).runFor reTurnSteps).outcome = some .failed := by
  unfold Sre.forSearch
  rw [show Sre.header reCode = (1, 15) from rfl]
  dsimp only
  split
  · exact run_failed rfl rfl rfl
  · exact attempt_no rfl ht rfl rfl rfl _ _

section
variable {prog : Program} {w : World} {A : Around} {s : Shared} {E : Value → Shared → Prop}
theorem rules_ok {M : Model} {l : List Nat} {p : Nat → Bool} {f : Nat → String} {Q : PUnit → Shared → Prop} (h : Q ⟨⟩ s) :
    wpAny M A (forIn l PUnit.unit fun i _ => (if p i = true then (do rule (f i); pure (ForInStep.yield PUnit.unit)) else pure (ForInStep.yield PUnit.unit) : Sem (ForInStep PUnit))) Q E s := by
  induction l with
  | nil => exact wpAny_pure h
  | cons i l ih =>
    rw [List.forIn_cons]
    refine wpAny_bind ?_
    by_cases hp : p i = true
    · simp only [hp, if_true]
      exact wpAny_bind (wpAny_rule (wpAny_pure ih))
    · simp only [hp]
      exact wpAny_pure ih

theorem run_none {M : Model} {m : Sre.M} {Q : Option Sre.M → Shared → Prop} (ho : (m.runFor reTurnSteps).outcome = some .failed) (h : Q none s) : wpAny M A (reRunToEnd m) Q E s := by
  unfold reRunToEnd
  rw [show (2 : Nat) ^ 64 = 18446744073709551615 + 1 from rfl]
  unfold reDrive
  simp only [ho, Option.isSome_some, if_true]
  refine wpAny_bind (wpAny_pure ?_)
  refine wpAny_bind (rules_ok ?_)
  rw [ho]
  exact wpAny_pure h

theorem target_ok {M : Model} {x : Str} {t : Tok} (K : ReOk s.heap) {Q : ReTarget → Shared → Prop} (h : ∀ g, Q { pattern := .ref reA, string := .str x t, code := reCode, text := x.cps, kind := 0, groups := g, pos := 0, lim := x.cps.size } s) :
    wpAny M A (reWholeTarget (.ref reA) (.str x t)) Q E s := by
  obtain ⟨fs, e, e6, e5⟩ := K.pat
  obtain ⟨xs, o, n, ec, hd, e7⟩ := K.code
  unfold reWholeTarget
  refine wpAny_bind (wpAny_fieldsOf e rfl ?_)
  refine wpAny_bind (m := reTextOf _) (wpAny_of_eq (a := (x.cps, 0)) (by rfl) ?_)
  simp only [e6]
  refine wpAny_bind (wpAny_of_eq (a := ()) (by rfl) ?_)
  rw [e5]
  unfold reRawItems
  refine wpAny_bind (wpAny_bind (wpAny_seqItems ec hd (wpAny_pure ?_)))
  simp only [Option.getD_some, e7]
  exact wpAny_pure (h _)

theorem subOk_at {x : Str} (hx : subOk x.cps.toList = true) (i : Nat) : (fun c => c == 38 || c == 126 || c == 124) (x.cps.getD i 0) = false := by
  dsimp only
  unfold subOk at hx
  rw [Bool.and_eq_true, List.all_eq_true] at hx
  rw [Array.getD_eq_getD_getElem?]
  cases e : x.cps[i]? with
  | none => rfl
  | some c =>
    have hm : c ∈ x.cps.toList := by
      rw [Array.mem_toList_iff]; exact Array.mem_of_getElem? e
    simpa using hx.2 c hm

theorem sub_loop {x : Str} {t : Tok} {f pl : Addr} {R : Value → Shared → Prop} (K : ReOk s.heap) (hx : subOk x.cps.toList = true) (hpl : s.heap.get? pl = some { cls := .type "list", data := .seq #[] 0 })
    (h : ∀ h' tk (y : Str) t', y.cps.toList = x.cps.toList → (∀ b o, b ≠ pl → s.heap.get? b = some o → h'.get? b = some o) → R (.str y t') { s with heap := h', toks := tk }) :
    wpAny (model prog w) A (Builtin.«re.Pattern.sub.loop» ⟨[.ref reA, .str x t, .ref f, rawInt 1, rawInt 0, rawInt 0, rawInt 0, rawInt 0, .bool false, .ref pl, .bool false], []⟩)
      (fun fin s' => ∃ v, fin = .done (.ret v) ∧ R v s') E s := by
  have hL := lim_size
  have hlen : x.cps.size ≤ LIM := by
    unfold subOk at hx
    rw [Bool.and_eq_true, decide_eq_true_eq] at hx
    simpa using hx.1
  unfold Builtin.«re.Pattern.sub.loop» rawInt
  dsimp only
  refine wpAny_bind (target_ok K fun g => ?_)
  rw [if_neg (show ¬ (((1 : Int) == 0) = true) by decide)]
  dsimp only
  rw [if_neg (show ¬ ((((0 : Int) != 0) && decide ((0 : Int) ≥ 0)) = true) by decide)]
  refine wpAny_bind ?_
  unfold reNextFound
  refine run_none (re_none (subOk_at hx)) ?_
  dsimp only
  have mk : ∀ {b e : Nat} {s : Shared} {Q : Value → Shared → Prop}, Q (.str ⟨x.cps.extract b e⟩ s.toks) { s with toks := s.toks + 1 } → wpAny (model prog w) A (reSlice x.cps 0 b e) Q E s := fun {b e s Q} hq => by
    unfold reSlice
    rw [if_pos (by rfl)]
    refine wpAny_mkStr hq ?_
    show (x.cps.extract b e).size ≤ sizeLine
    rw [Array.size_extract]; and_intros
  by_cases hz : 0 < x.cps.size
  · rw [if_pos (by simpa using hz)]
    refine wpAny_bind (mk ?_)
    refine wpAny_bind (wpAny_updateSeq (s := { s with toks := s.toks + 1 }) hpl rfl ?_ (by rw [sizeLine_eq]; decide) (by rw [sizeLine_eq]; simp))
    obtain ⟨n, e1⟩ : ∃ n, (s.heap.update pl (Obj.mapSeq fun a => a.push (.str ⟨x.cps.extract (0 : Int).toNat x.cps.size⟩ s.toks))).get? pl = some { cls := .type "list", data := .seq #[.str ⟨x.cps.extract (0 : Int).toNat x.cps.size⟩ s.toks] n } := ⟨_, Heap.get?_update_self _ hpl rfl⟩
    refine wpAny_bind (mk ?_)
    refine wpAny_bind (wpAny_seqItems e1 rfl ?_)
    rw [if_neg (by simp)]
    refine wpAny_bind ?_
    have hl : (s.heap.update pl (Obj.mapSeq fun a => a.push (.str ⟨x.cps.extract (0 : Int).toNat x.cps.size⟩ s.toks))).IsList pl (strValues [((⟨x.cps.extract (0 : Int).toNat x.cps.size⟩ : Str), s.toks)]).toArray := ⟨_, e1, rfl, _, rfl⟩
    refine SC.join hl rfl ?_ fun t' k => ?_
    · unfold JoinOk
      rw [StrLaws.joinTotal]
      have e0 : (⟨x.cps.extract 0 0⟩ : Str).length = 0 := by simp [Str.length]
      have e2 : (⟨x.cps.extract (0 : Int).toNat x.cps.size⟩ : Str).length = x.cps.size := by simp [Str.length]
      simp only [List.map_cons, List.map_nil, List.sum_cons, List.sum_nil, List.length_cons, List.length_nil, e0, e2]
      simp only [Builtin.Str.tooLong, Bool.not_eq_true', decide_eq_false_iff_not]
      and_intros
    · rw [if_neg (by decide)]
      refine wpAny_pure ⟨_, rfl, h _ _ _ _ ?_ fun b o hb e => ?_⟩
      · unfold Txt.join
        rw [StrLaws.glued_eq_join, join_eq]
        simp [pjoin]
      · exact (Heap.get?_update_ne _ _ _ _ hb).trans e
  · rw [if_neg (by simpa using hz)]
    refine wpAny_bind (mk ?_)
    refine wpAny_bind (wpAny_seqItems (s := { s with toks := s.toks + 1 }) hpl rfl ?_)
    rw [if_pos (by rfl)]
    refine wpAny_bind (wpAny_pure ?_)
    rw [if_neg (by decide)]
    refine wpAny_pure ⟨_, rfl, h s.heap _ _ _ ?_ fun b o _ e => e⟩
    have : x.cps.toList = [] := by
      have : x.cps.size = 0 := by and_intros
      simpa using this
    rw [this]; simp
end
end Mine

namespace Mine
open StrLaws
open PySem.Builtin.Re

theorem fn_call_slot : ∃ r, typeLookup (.type "function") "__call__" = pure (some r) := ⟨.builtin "function.__call__", by rw [typeLookup_type, builtinLookup_eq_fast]; kernel_rfl⟩
theorem str_bytearray : isSubtype (.type "str") (.type "bytearray") = pure false := by rw [isSubtype_type]; kernel_rfl
theorem args_re_sub (a b c : Value) : argsOk "re.Pattern.sub" ⟨[a, b, c], []⟩ := by
  unfold argsOk; kernel_rfl
theorem plain_re_loop : plainId "re.Pattern.sub.loop" = true := by decide +kernel
theorem named_re (a b : Value) : reNamed "re.Pattern.sub" "sub" ["repl", "string", "count"] 2 [a, b] [] = pure [some a, some b, none] := by rfl
section
variable {prog : Program} {w : World} {A : Around} {s : Shared} {E : Value → Shared → Prop}
theorem sub_call {x : Str} {t : Tok} {f : Addr} {Q : Value → Shared → Prop} (K : ReOk s.heap) (hx : subOk x.cps.toList = true) (hf : s.TypeIs (.ref f) "function")
    (h : ∀ h' tk (y : Str) t', y.cps.toList = x.cps.toList → (∀ b o, s.heap.get? b = some o → h'.get? b = some o) → Q (.str y t') { s with heap := h', toks := tk }) :
    wpAny (model prog w) A (call (.builtin "re.Pattern.sub") [.ref reA, .ref f, .str x t]) Q E s := by
  have hT : s.TypeIs (.ref reA) "re.Pattern" := let ⟨fs, e, _⟩ := K.pat; ⟨_, e, rfl⟩
  refine wpAny_call (codeAny_call_builtin slot_re_sub.plain entry_re_sub (slot_re_sub.check _ _ _ _ _ _ _ _ hT (args_re_sub _ _ _) ?_))
  unfold Builtin.«re.Pattern.sub» reSubstitute
  dsimp only
  rw [named_re]
  refine wpAny_bind (wpAny_pure ?_)
  dsimp only
  refine wpAny_bind (wpAny_pure ?_)
  obtain ⟨r, hr⟩ := fn_call_slot
  refine wpAny_bind (wpAny_specialOf hf hr ?_)
  simp only [Option.isSome_some, if_true]
  refine wpAny_bind (wpAny_pure ?_)
  refine wpAny_bind (wpAny_pure ?_)
  dsimp only
  refine wpAny_bind (wpAny_holding (target_ok K fun g => ?_))
  rw [if_pos (by rfl)]
  unfold reNotHeld
  refine wpAny_bind (wpAny_bind (wpAny_isInstance_val rfl str_bytearray ?_))
  rw [if_neg (by decide)]
  refine wpAny_pure ?_
  refine wpAny_bind (wpAny_newList ?_)
  refine wpAny_pure ⟨plainId_quiet plain_re_loop _, codeAny_builtin entry_re_loop ?_⟩
  refine wpAny_mono (sub_loop (R := Q) (s := { s with heap := s.heap.push { cls := .type "list", data := .seq #[] } }) (x := x) (t := t) (f := f) (pl := s.heap.objs.size) (E := E) (K.keep (KN.push _ _)) hx (Heap.get?_push_size _ rfl) fun h' tk y t' e hk => ?_) (fun fin s' h' => ?_) fun _ _ e => e
  · exact h h' tk y t' e fun b o e => hk b o (Nat.ne_of_lt (Heap.lt_size e)) (Heap.get?_push_of_some _ e)
  · obtain ⟨v, rfl, hv⟩ := h'
    exact hv
end
end Mine

namespace Mine
open StrLaws

theorem closure_none {sc : Scope} {env : Env} (h : (sc.names.all fun p => p.2 != .free) = true) : closureFor sc env = pure [] := by
  unfold closureFor
  have : ∀ (l : List (Str × NameKind)) (cs : List (Str × Addr)), (l.all fun p => p.2 != .free) = true →
      (forIn l cs fun x cs => (match x with | (name, kind) => if (kind == NameKind.free) = true then do let __do_lift ← cellOf env name; pure (ForInStep.yield ((name, __do_lift) :: cs)) else pure (ForInStep.yield cs) : Sem (ForInStep (List (Str × Addr))))) = pure cs := by
    intro l
    induction l with
    | nil => intro cs _; rfl
    | cons p l ih =>
      intro cs h
      rw [List.all_cons, Bool.and_eq_true] at h
      obtain ⟨nm, kd⟩ := p
      rw [List.forIn_cons]
      have hk : (kd == NameKind.free) = false := by simpa using h.1
      simp only [hk, Bool.false_eq_true, if_false, pure_bind]
      exact ih cs h.2
  simp only [this _ _ h, pure_bind]

theorem CodeHd.kn {h h' : Heap} {c P : Addr} (x : CodeHd h c P) (k : KN h h') : CodeHd h' c P :=
  let ⟨o, vs, file, tf, flags, tg, inF, text, tt, e, hc, r⟩ := x; ⟨o, vs, file, tf, flags, tg, inF, text, tt, k.nt _ _ (noTab_cls (by rw [hc]; nofun)) e, hc, r⟩
theorem BuiltinsAt.kn {h h' : Heap} {mg : Str → Option Value} {P : Addr} (x : h.BuiltinsAt mg P) (k : KN h h') : h'.BuiltinsAt mg P :=
  let ⟨bm, o, h1, h2, h3, h4, h5, h6, r⟩ := x; ⟨bm, o, h1, h2, h3, h4, k.nt _ _ (noTab_cls (by rw [h6]; nofun)) h5, h6, r⟩

theorem KN.table {h h' : Heap} {ps : Array Value} {a b : Int} {c : Value} (hx : Heap.ExtBut PT h h') (hP : h.get? PT = some (tabObj ps)) (ht : TriplesOk ps.toList) (hP' : h'.get? PT = some (tabObj (ps ++ #[rawInt a, rawInt b, c]))) : KN h h' := by
  refine ⟨fun b' o hn e => ?_, fun b' o hb e => hx b' o hb e, fun qs e => ?_⟩
  · by_cases hb : b' = PT
    · subst hb
      rw [hP] at e; cases e
      exact absurd rfl (hn ps)
    · exact hx b' o hb e
  · rw [hP] at e
    cases e
    refine ⟨_, hP', fun _ => ?_⟩
    rw [Array.toList_append]
    exact TriplesOk_snoc a b c _ ht

section
variable {prog : Program} {w : World} {mg mb : Str → Option Value} {hB : Heap} {n : Nat} {sc : Scope}
theorem lambda_ok {F : PF1} {C : RC} {G : Slots} {O : Owns} {env : Env} {A : Around} {s : Shared} {ps : Arguments} {body : Expr} {lsc : Scope} {lp : Pos} (K : Cx prog w mg mb hB n sc F C G O env A s.heap) (hst : (slotOf sc "stuff").isSome = true) (hl : lamOk ps lsc = true) :
    wpAny (model prog w) A (eval (.Lambda ps body lsc lp) env) (fun v s' => Keeps s s' ∧ ∃ f, v = .ref f ∧ ∃ o, s'.heap.get? f = some o ∧ o.cls = .type "function") noE s := by
  simp only [lamOk, Bool.and_eq_true, List.isEmpty_iff] at hl
  have hdef : defaultsOf ps env = ([], []) := by
    obtain ⟨a1, a2, a3, a4, a5, a6, a7⟩ := ps
    obtain ⟨⟨h1, h2⟩, _⟩ := hl
    dsimp only at h1 h2
    subst h1; subst h2; rfl
  have hcl : closureFor lsc env = pure [] := closure_none hl.2
  have I := K.I
  have hcode := I.cdv hst
  have hg := I.top.ns I.base.nsg
  have hC := CodeHd.kn I.base.cod I.top
  have hb := BuiltinsAt.kn I.base.bat I.top
  obtain ⟨ps0, e0, t0⟩ := I.base.pt
  obtain ⟨more, hP, ht⟩ := I.top.tab _ e0
  have ht := ht t0
  have hgP : mainGlobals ≠ PT := by
    intro q
    obtain ⟨o, es, ep, e, hd, _⟩ := hg
    rw [q, hP] at e; cases e; cases hd
  refine kla_eval hdef ?_
  cases hf : codeAmong lp (ps0 ++ more).toList with
  | none =>
    refine kla_makeFunction hcl I.glb hg hcode hC hP ht hf hgP hb fun c' ctv h' tk hx hge hlt hrec htb => ?_
    refine ⟨⟨(KN.table hx hP ht htb).trans (KN.push _ _), rfl, id⟩, _, rfl, _, Heap.get?_push_size _ rfl, rfl⟩
  | some cv =>
    refine kla_makeFunctionHit hcl I.glb hg hcode hC hP ht hf hb fun ctv h' tk hk hsz => ?_
    refine ⟨⟨(KN.of hk).trans (KN.push _ _), rfl, id⟩, _, rfl, _, Heap.get?_push_size _ rfl, rfl⟩

theorem resub_prim : ResubOk prog w mg mb hB := by
  intro n sc ps body e lsc rp ap lp p pe hg hst hl hline hn he F C G O env A s pv K h
  obtain ⟨v, e1, h⟩ := Option.bind_eq_some_iff.mp h
  obtain ⟨l, rfl, hx, rfl⟩ := K.FS.sub _ _ h
  have hn2 : NoStars [.Lambda ps body lsc lp, e] = true := hn
  refine wpAny_Call_method_lateS (base_plain rfl) (by rw [backTo_of hn2]; rfl) hline (glob_load (v := .ref reA) K hg (by decide) (.inl K.I.base.re) ?_)
  have K0 := ReOk.keep K.I.base.reo K.I.top
  obtain ⟨fs, e2, _⟩ := K0.pat
  refine ⟨"re.Pattern", _, plainAttrs_re, slot_re_sub, type_re_sub, ⟨_, e2, rfl⟩, (fun a q => by cases q; exact ⟨_, e2, rfl⟩), ?_⟩
  rw [backTo_of hn2]
  refine Calls.callWith_builtin any_of (evalArgs_of (Calls.spliced_cons (seqE (lambda_ok K hst hl) fun u s1 ⟨k1, f, hu, o, ef, hf⟩ => ?_)))
  subst hu
  refine Calls.spliced_cons (seqE (he (K.keep k1) e1) fun u s2 ⟨k2, r2⟩ => Calls.spliced_nil ?_)
  obtain ⟨x, t, rfl, rfl⟩ := r2
  have K2 := (K.keep k1).keep k2
  refine sub_call (ReOk.keep K2.I.base.reo K2.I.top) hx ⟨o, (kheap k2).nt _ _ (noTab_cls (by rw [hf]; nofun)) ef, hf⟩ fun h' tk y t' ey hk => ?_
  exact ⟨ktrans k1 (ktrans k2 ⟨KN.of hk, rfl, id⟩), rep_str' ey⟩
end
end Mine

namespace Mine
open StrLaws

section
variable {prog : Program} {w : World} {A : Around} {E : Value → Shared → Prop} {s : Shared}
theorem cstr_ok {c : Str} {k : Nat} {pos : Pos} {env : Env} {Q : Value → Shared → Prop} (h : Q (.str c s.toks) { s with toks := s.toks + 1 }) : wpAny (model prog w) A (eval (.Constant (.str c) k pos) env) Q E s := by
  rw [eval_Constant]; exact wpAny_mkText h
/-- o.replace(text, text) -/
theorem rep_call {o : Expr} {ap p : Pos} {a b : Str × Nat × Pos} {env : Env} {Q : Value → Shared → Prop} (hb : noSuper o = true) (hl : (ap.endLine == p.line) = true)
    (h : wpAny (model prog w) A (eval o env) (fun u s1 => ∃ y t, u = .str y t ∧ wpAny (model prog w) A (call (.builtin "str.replace") [.str y t, .str a.1 s1.toks, .str b.1 (s1.toks + 1)]) Q E { s1 with toks := s1.toks + 1 + 1 }) E s) :
    wpAny (model prog w) A (eval (.Call (.Attribute o "replace" ap) [.Constant (.str a.1) a.2.1 a.2.2, .Constant (.str b.1) b.2.1 b.2.2] [] p) env) Q E s := by
  have hn : NoStars [.Constant (.str a.1) a.2.1 a.2.2, .Constant (.str b.1) b.2.1 b.2.2] = true := rfl
  refine wpAny_Call_method_lateS (base_plain hb) (by rw [backTo_of hn]; rfl) hl (wpAny_mono h (fun u s1 r => ?_) fun _ _ e => e)
  obtain ⟨y, t, rfl, h⟩ := r
  refine ⟨"str", _, PySem.F.plainAttrs_str, PySem.F.slot_str_replace, PySem.F.type_str_replace, typeIs_str _ _ _, nofun, ?_⟩
  rw [backTo_of hn]
  exact Calls.callWith_builtin any_of (evalArgs_of (Calls.spliced_cons (cstr_ok (Calls.spliced_cons (cstr_ok (Calls.spliced_nil h))))))

theorem elt_ok {cenv : Env} {x : Str} {z : (Pos × Pos × (Str × Nat × Pos) × (Str × Nat × Pos) × Pos) × (Pos × (Str × Nat × Pos) × (Str × Nat × Pos) × Pos)} {m : Str → Option Value} {Y : Str} {t : Tok} (hk : cenv.scope.kind = .function) (hx : cenv.kindOf x = some .local) (hd : dbg x = false)
    (hn : s.heap.Ns cenv.locals m) (hm : m x = some (.str Y t)) (hl : (z.1.2.1.endLine == z.1.2.2.2.2.line && z.2.1.endLine == z.2.2.2.2.line) = true) (ha : pisIn z.1.2.2.1.1.cps.toList Y.cps.toList = false)
    (h : Y.cps.toList.length ≤ LIM ∧ z.2.2.1.1.cps.toList.length = 1 ∧ z.2.2.1.1.cps.toList ≠ z.2.2.2.1.1.cps.toList ∧ z.2.2.2.1.1.cps.toList.length ≤ 14) :
    wpAny (model prog w) A (eval (repE x z) cenv) (fun y s' => (∃ W t', y = .str W t' ∧ W.cps.toList = preplace Y.cps.toList z.2.2.1.1.cps.toList z.2.2.2.1.1.cps.toList) ∧ PySem.Keeps s s') E s := by
  have hd2 : (x == ("__debug__" : Str)) = false := by unfold dbg at hd; exact (Bool.or_eq_false_iff.mp hd).1
  refine rep_call rfl (and_t hl).2 (rep_call rfl (and_t hl).1 (wpAny_Name (wpAny_loadName_local hk hx hn hm ⟨Y, t, rfl, ?_⟩) hd2))
  have h0 := not_found (x := Y) (y := z.1.2.2.1.1) ha
  have hc : ((Builtin.Str.occurrences Y z.1.2.2.1.1 0 Y.length (Y.length + 1)).isEmpty || (z.1.2.2.1.1.length == 0 && z.1.2.2.2.1.1.length == 0)) = true := by rw [h0]; rfl
  refine call_gives PySem.F.slot_str_replace (typeIs_str _ _ _) PySem.F.entry_str_replace (PySem.F.args_str_replace_3 _ _ _)
    (gives_str_replace Y z.1.2.2.1.1 z.1.2.2.2.1.1 t _ _ fun hf => absurd hc (by rw [hf]; nofun)) ?_
  rw [if_pos hc]
  refine ⟨Y, t, rfl, ?_⟩
  obtain ⟨h1, h2, h3, h4⟩ := h
  exact SC.replaceW (Nat.succ_ne_zero _) (Nat.succ_ne_zero _) (Nat.ne_of_lt (Nat.lt_succ_self _)) (beq_eq_false_iff_ne.mpr fun e => h3 (by rw [e])) (by rw [str_len]; exact h1) (by rw [str_len]; exact h4) fun t' k => ⟨⟨_, t', rfl, replace_eq h2⟩, s.heap, k, rfl, fun _ _ e => e⟩
end
section
variable {prog : Program} {w : World} {mg mb : Str → Option Value} {hB : Heap} {n : Nat} {sc : Scope}
theorem gcode_hit {M : Model} {A : Around} {E : Value → Shared → Prop} {s : Shared} {env : Env} {c P : Addr} {ps : Array Value} {pos : Pos} {qual : Str} {scope : Scope} {cv : Value} {Q : Value → Shared → Prop} (hc : env.code = .ref c) (hok : s.heap.IsCode c P ps) (hf : codeAmong pos ps.toList = some cv)
    (h : Q cv s) : wpAny M A (genexprCode env pos qual scope) Q E s := by
  obtain ⟨o, vs, file, tf, flags, tg, inF, text, tt, op, ho, hd, h11, _, _, _, _, hop, hpd, _⟩ := hok
  unfold genexprCode codeAt
  rw [hc, if_neg (show ¬ ((Value.ref c == Value.none) = true) from Bool.false_ne_true)]
  refine wpAny_bind (wpAny_fieldsOf ho hd ?_)
  rw [h11]
  refine wpAny_bind (wpAny_fieldsOf hop hpd ?_)
  rw [hf]
  exact wpAny_pure h
theorem gcode_ok {F : PF1} {C : RC} {G : Slots} {O : Owns} {env : Env} {A : Around} {s : Shared} {pos : Pos} {qual : Str} {scope : Scope} (K : Cx prog w mg mb hB n sc F C G O env A s.heap) (hst : (slotOf sc "stuff").isSome = true) :
    wpAny (model prog w) A (genexprCode env pos qual scope) (fun _ s' => Keeps s s' ∧ (∀ b o, b ≠ PT → s.heap.get? b = some o → s'.heap.get? b = some o) ∧ s.heap.objs.size ≤ s'.heap.objs.size) noE s := by
  have I := K.I
  have hC := CodeHd.kn I.base.cod I.top
  obtain ⟨ps0, e0, t0⟩ := I.base.pt
  obtain ⟨more, hP, ht⟩ := I.top.tab _ e0
  have ht := ht t0
  cases hf : codeAmong pos (ps0 ++ more).toList with
  | none => exact wpAny_genexprCodeX (I.cdv hst) (hC.code hP ht) (hC.tab hP) hf fun c' h' tk hx hge hlt _ _ htb _ => ⟨⟨KN.table hx hP ht htb.2, rfl, id⟩, hx, Nat.le_trans hge (Nat.le_of_lt hlt)⟩
  | some cv => exact gcode_hit (I.cdv hst) (hC.code hP ht) hf ⟨krefl s, fun _ _ _ e => e, Nat.le_refl _⟩
theorem KN.upto {a b c : Heap} (k : KN a b) (hk : ∀ p o, p < a.objs.size → b.get? p = some o → c.get? p = some o) : KN a c :=
  ⟨fun p o n e => hk p o (Heap.lt_size e) (k.nt p o n e), fun p o n e => hk p o (Heap.lt_size e) (k.pt p o n e), fun ps e => let ⟨m, e1, t⟩ := k.tab ps e; ⟨m, hk _ _ (Heap.lt_size e) e1, t⟩⟩
theorem passing_all (n : Nat) : passing (fun _ => true) n 0 = List.range n := by
  unfold passing; rw [List.drop_zero, List.filter_eq_self.mpr fun _ _ => rfl]

theorem pstrs_at : ∀ {vs : List PV} {ls : List (List Nat)} {i : Nat} {v : PV}, pstrs vs = some ls → vs[i]? = some v → ∃ l, v = .str l ∧ ls[i]? = some l
  | [], _, _, _, _, e => nomatch e
  | u :: r, ls, i, v, h, e => by
    obtain ⟨l, e1, h⟩ := Option.bind_eq_some_iff.mp h
    obtain ⟨q, e2, rfl⟩ := Option.map_eq_some_iff.mp h
    cases i with
    | zero => cases e; exact ⟨l, asS_eq e1, rfl⟩
    | succ i => exact pstrs_at (vs := r) (ls := q) (i := i) e2 e
theorem pstrs_len : ∀ {vs : List PV} {ls : List (List Nat)}, pstrs vs = some ls → ls.length = vs.length
  | [], _, h => by cases h; rfl
  | u :: r, ls, h => by
    obtain ⟨l, e1, h⟩ := Option.bind_eq_some_iff.mp h
    obtain ⟨q, e2, rfl⟩ := Option.map_eq_some_iff.mp h
    exact congrArg (· + 1) (pstrs_len e2)

/-- what the generator's texts are -/
noncomputable def GF (ls : List (List Nat)) (c d : List Nat) (i : Nat) (y : Value) : Prop := ∃ l W t, ls[i]? = some l ∧ y = .str W t ∧ W.cps.toList = preplace l c d

theorem join_fin {A : Around} {s : Shared} {y : Str} {t : Tok} {ls : List (List Nat)} {c d : List Nat} {wr : List Addr} {G : Array GenState → Array GenState → Prop} {fp : List Addr} {St : Nat → Shared → Prop} {a : Addr} {Q : Value → Shared → Prop}
    (W : WalksS prog w A.in4 a fp wr G (passing (fun _ => true) ls.length 0).length (fun j y => ∃ i, (passing (fun _ => true) ls.length 0)[j]? = some i ∧ GF ls c d i y) St) (hT : ∀ i s, St i s → s.TypeIs (.ref a) "generator") (hst : St 0 s) (hfp : ∀ b ∈ fp, b < s.heap.objs.size) (ha : a ∈ fp)
    (hsz : ls.length ≤ LIM ∧ ((ls.map fun l => preplace l c d).map List.length).sum + ls.length * y.cps.toList.length ≤ LIM)
    (hq : ∀ s' t' k (z : Str), Moved wr G s s' → z.cps.toList = pjoin y.cps.toList (ls.map fun l => preplace l c d) → Q (.str z t') { s' with toks := k }) :
    wpAny (model prog w) A (call (.builtin "str.join") [.str y t, .ref a]) Q noE s := by
  have hn : (passing (fun _ => true) ls.length 0).length = ls.length := by rw [passing_all]; exact List.length_range
  refine SC.joinGen W.in4_2 hT hst hfp ha (fun j v hv => ?_) (fun s' l hm hacc => ?_) (by rw [hn]; exact Nat.le_trans hsz.1 lim_size)
  · obtain ⟨i, _, l, W, t, _, e, _⟩ := hv
    exact ⟨W, t, e⟩
  · have hl : l.length = ls.length := by rw [← hn, ← hacc.1]; simp [strValues]
    have he : (l.map (·.1)).map (·.cps.toList) = ls.map fun l => preplace l c d := by
      refine List.ext_getElem? fun j => ?_
      by_cases hj : j < l.length
      · obtain ⟨i, hi, l0, W, t, e1, e2, e3⟩ := hacc.2 j (.str l[j].1 l[j].2) (by simp [strValues, List.getElem?_eq_getElem hj])
        rw [passing_all, List.getElem?_range (by and_intros)] at hi
        cases hi
        cases e2
        simp [List.getElem?_eq_getElem hj, e1, e3]
      · rw [List.getElem?_eq_none (by simpa using Nat.le_of_not_lt hj), List.getElem?_eq_none (by simp; and_intros)]
    refine ⟨?_, fun t' k => hq s' t' k _ hm ?_⟩
    · unfold JoinOk
      rw [StrLaws.joinTotal]
      have e1 : (l.map (·.1)).map (·.length) = (ls.map fun l => preplace l c d).map List.length := by
        rw [← he, List.map_map, List.map_map, List.map_map]; exact List.map_congr_left fun p _ => str_len _
      rw [e1, List.length_map, hl, str_len]
      simp only [Builtin.Str.tooLong, Bool.not_eq_true', decide_eq_false_iff_not]
      exact Nat.not_lt.mpr (Nat.le_trans hsz.2 lim_size)
    · unfold Txt.join
      rw [StrLaws.glued_eq_join, join_eq, he]

theorem gjoin_prim : GjoinOk prog w mg mb hB := by
  intro n sc sc2 o iter ifs x px ap gp p sep pit z hc hl ho hi F C G O env A s pv K h
  obtain ⟨c1, hc⟩ := and_t hc
  obtain ⟨c2, hc⟩ := and_t hc
  obtain ⟨c3, hc⟩ := and_t hc
  obtain ⟨c4, hc⟩ := and_t hc
  obtain ⟨c5, hc⟩ := and_t hc
  obtain ⟨c5, c5'⟩ := and_t c5
  obtain ⟨c6, hc⟩ := and_t hc
  obtain ⟨c7, hc⟩ := and_t hc
  obtain ⟨c8, hc⟩ := and_t hc
  obtain ⟨c9, c10⟩ := and_t hc
  cases List.isEmpty_iff.mp c4
  obtain ⟨sv, e1, h⟩ := Option.bind_eq_some_iff.mp h
  obtain ⟨sp, e2, h⟩ := Option.bind_eq_some_iff.mp h
  obtain ⟨its, e3, h⟩ := Option.bind_eq_some_iff.mp h
  obtain ⟨ls, e4, h⟩ := Option.bind_eq_some_iff.mp h
  obtain ⟨⟨h1, h2, h3, h4, h5⟩, h⟩ := ite_some h
  cases h
  have hlen := pstrs_len e4
  have hfold : ∀ x, genFold iter env x = pure x := by
    obtain ⟨⟨q, hq⟩, _⟩ := Option.isSome_iff_exists.mp c5
    rw [hq]; exact fun _ => rfl
  have hn : NoStars [.GeneratorExp (repE x z) [⟨.Name x px, iter, [], 0⟩] sc2 gp] = true := rfl
  refine wpAny_Call_method_lateS (base_plain c1) (by rw [backTo_of hn]; rfl) c2 (seqE (ho K e1) fun u s1 r => ?_)
  obtain ⟨y, t, rfl, rfl⟩ := rep_asS e2 r.2
  have k1 := r.1
  have K1 := K.keep k1
  refine ⟨"str", _, PySem.F.plainAttrs_str, PySem.F.slot_str_join, PySem.F.type_str_join, typeIs_str _ _ _, nofun, ?_⟩
  rw [backTo_of hn]
  refine Calls.callWith_builtin any_of (evalArgs_of (Calls.spliced_cons ?_))
  have hall := List.all_eq_true.mp c10
  refine wpAny_GeneratorExp_walksQ (cl := []) K.R.handled (by simpa using c7) (closure_none (List.all_eq_true.mpr fun q hq => (and_t (hall q hq)).2)) (fun q hq e => by have := (and_t (hall q hq)).1; rw [e] at this; cases this) (by simpa using c8) (by simpa using c9) (by simpa using c6) (Nat.lt_of_le_of_lt (Nat.le_add_right _ _) K.R.depth) ?_ hfold
  refine seqE ((hi O K1 (.inl ⟨rfl, e3⟩)).2) fun xv s2 r2 => seqE (r2.2 A) fun it s3 r3 => ?_
  have K2 := K1.keep r2.1
  obtain ⟨tk3, hs3, ob, fp, P, St, rfl, hh3, hnt, hW, hst, hlive, hfp, hP⟩ := r3
  have k3 : Keeps s2 s3 := ⟨by rw [hh3]; exact .push _ _, by rw [hs3], by rw [hs3]; exact id⟩
  have K3 := K2.keep k3
  refine ⟨K3.I.top.noLimit K3.I.base.lim, seqE (gcode_ok K3 c3) fun code s4 r4 => ?_⟩
  obtain ⟨k4, hx4, hsz4⟩ := r4
  have K4 := K3.keep k4
  obtain ⟨bm, obb, b1, b2, b3, b4, b5, b6, b7, b8⟩ := BuiltinsAt.kn K4.I.base.bat K4.I.top
  rw [K4.I.glb]
  refine wpAny_builtinsFor (K4.I.top.ns K4.I.base.nsg) b1 b2 b5 b6 b7 b8 ?_
  have hI3 : s3.heap.objs.size = s2.heap.objs.size + 1 := by rw [hh3, Heap.size_push]
  obtain ⟨ps0, hpt0⟩ := KN.tabLive K2.I.top (K2.I.base.pt.choose_spec.1)
  have hptlt := Heap.lt_size hpt0
  have hfpPT : ∀ b ∈ fp, b ≠ PT ∧ b < s3.heap.objs.size := fun b hb => by
    rcases hfp b hb with q | ⟨⟨o, nt, e⟩, _⟩
    · exact ⟨fun e => Nat.lt_irrefl _ (show s2.heap.objs.size < s2.heap.objs.size from by rw [q] at e; rw [e]; rw [e] at hptlt; exact hptlt), by rw [q, hI3]; exact Nat.lt_succ_self _⟩
    · refine ⟨fun q => ?_, by rw [hI3]; exact Nat.lt_succ_of_lt (Heap.lt_size e)⟩
      rw [q, hpt0] at e; cases e; exact nt _ rfl
  have hl4 : s4.heap.NoLimit := K4.I.top.noLimit K4.I.base.lim
  have hcs : cStatics < s2.heap.objs.size := let ⟨_, hn, _⟩ := K2.I.top.noLimit K2.I.base.lim; hn.lt
  rw [← hlen] at hW
  refine ⟨s2.heap.objs.size, fp, [s2.heap.objs.size], ls.length, P, St, (fun _ => true), GF ls z.2.2.1.1.cps.toList z.2.2.2.1.1.cps.toList, rfl, hW, (hW A K.R.handled).frame 0 _ _ hst (fun b hb o e => hx4 b o (hfpPT b hb).1 e), fun b hb => Nat.lt_of_lt_of_le (hfpPT b hb).2 hsz4, hl4,
    fun q => Nat.ne_of_lt hcs (List.mem_singleton.mp q), fun href hhref => ⟨fun A' E' i v s₂ m₂ hA hPv hn hm hf => wpAny_pure ⟨rfl, ⟨s₂.heap, s₂.toks, rfl, fun _ _ e => e⟩⟩, fun A' E' i v s₂ m₂ hA hPv _ hn hm hf => ?_⟩, fun a h₅ tk gs hgb hag hsz5 hk5 W hat => Calls.spliced_nil ?_⟩
  · obtain ⟨pv, hi, hr⟩ := hP i v hPv
    obtain ⟨l, rfl, hl2⟩ := pstrs_at e4 hi
    obtain ⟨Y, tY, rfl, rfl⟩ := hr
    have q1 := and_t (List.all_eq_true.mp h1 _ (List.mem_of_getElem? hl2))
    refine wpAny_mono (elt_ok (beq_iff_eq.mp c6) (beq_iff_eq.mp c9) (not_t c5') hn hm hl (not_t q1.1) ⟨of_decide_eq_true q1.2, h2, h3, h4⟩) (fun v' s' q => ?_) fun _ _ e => e
    obtain ⟨⟨W, t', e5, e6⟩, kk⟩ := q
    exact ⟨⟨_, W, t', hl2, e5, e6⟩, kk⟩
  · refine join_fin W (fun i s' st => st.1.typeIs) hat (fun b hb => ?_) List.mem_cons_self h5 fun s' t' k zz hm ez => ⟨?_, rep_str' ez⟩
    · show b < h₅.objs.size
      rw [hsz5]
      rcases List.mem_cons.mp hb with rfl | hb
      · exact Nat.lt_succ_self _
      · rcases List.mem_cons.mp hb with rfl | hb
        · exact Nat.lt_succ_of_lt hag
        · exact Nat.lt_succ_of_lt (Nat.lt_trans (List.mem_range.mp hb) hag)
    · have k24 := ktrans k3 k4
      have kC : KN s2.heap s'.heap := ((kheap k24).trans (.of hk5)).upto fun p o hp e => hm.heap p o (fun q => by
        have h24 : s2.heap.objs.size ≤ s4.heap.objs.size := Nat.le_trans (Nat.le_of_lt (by rw [hI3]; exact Nat.lt_succ_self _)) hsz4
        rcases List.mem_cons.mp q with q | q
        · rw [q] at hp; exact Nat.lt_irrefl _ (Nat.lt_of_lt_of_le hp h24)
        · rw [List.mem_singleton.mp q] at hp; exact Nat.lt_irrefl _ hp) e
      exact ktrans k1 (ktrans r2.1 ⟨kC, hm.os.trans k24.2.1, fun g => ((k24.2.2 g).push hgb).moved hm.gens⟩)
end
end Mine

namespace Mine
open StrLaws
section
variable {prog : Program} {w : World} {mg mb : Str → Option Value} {hB : Heap} {n : Nat} {F : PF1}

theorem repl_bind {fd : FuncData} {a b : Arg} {v : Value} {vs : List Value} {A : Around} {s : Shared} {Q : List (Str × Value) → Shared → Prop} {E : Value → Shared → Prop} (hp : fd.params = ⟨[], [a], some b, [], [], none, []⟩) (hd : fd.defaults = .none) (hl : vs.length ≤ sizeLine)
    (h : Q [(a.arg, v), (b.arg, .ref s.heap.objs.size)] { s with heap := s.heap.push { cls := .type "tuple", data := .seq vs.toArray } }) : wpAny (model prog w) A (bindArgs fd ⟨v :: vs, []⟩) Q E s := by
  unfold bindArgs
  rw [hp, hd]
  refine wpAny_bind (wpAny_pure ?_)
  refine wpAny_bind (m := seqItems? .none) (wpAny_of_eq (a := none) (by rfl) ?_)
  dsimp only
  rw [if_neg (by simp)]
  rw [if_neg (by simp)]
  refine wpAny_bind (wpAny_pure ?_)
  refine wpAny_bind (wpAny_pure ?_)
  dsimp only
  rw [if_neg (by simp)]
  refine wpAny_bind (wpAny_newTuple (items := vs) ?_ hl)
  refine wpAny_pure ?_
  simpa using h

/-- a def's arguments bound -/
noncomputable def Bnd (prog : Program) (w : World) (fd : FuncData) (args : List PV) (params : List Str) (args' : List PV) : Prop :=
  ∀ (C : RC) (vals : List Value) (A : Around) (s : Shared), (∀ b, C.X b → ∃ o, NoTab o ∧ s.heap.get? b = some o) → RepL C s.heap args vals → noOwnL args = true →
    wpAny (model prog w) A (bindArgs fd ⟨vals, []⟩) (fun binds s₁ => Keeps s s₁ ∧ ∃ us, binds = params.zip us ∧ RepL C s₁.heap args' us) noE s

theorem bndR {fd : FuncData} {a b : Arg} {x : PV} {ys : List PV} (hp : fd.params = ⟨[], [a], some b, [], [], none, []⟩) (hd : fd.defaults = .none) (hl : ys.length ≤ LIM) : Bnd prog w fd (x :: ys) [a.arg, b.arg] [x, .tup ys] := by
  intro C vals A s hX hr hno
  have hlen := hr.length
  obtain ⟨v, vs, rfl, h1, h2⟩ := hr
  have hL := lim_size
  simp only [List.length_cons] at hlen
  refine repl_bind hp hd (by and_intros) ⟨kpush, [v, .ref s.heap.objs.size], rfl, ?_⟩
  have hx : ¬ C.X s.heap.objs.size := fun q => let ⟨_, _, e⟩ := hX _ q; Nat.lt_irrefl _ (Heap.lt_size e)
  refine ⟨v, _, rfl, h1.keep (KN.push _ _), _, _, rfl, ?_, rfl⟩
  exact ⟨_, vs.toArray, rfl, hx, ⟨_, Heap.get?_push_size _ rfl, rfl, _, rfl⟩, h2.keep (KN.push _ _)⟩

theorem fn_star {N : Nat} {x : Str} {a : Addr} {o : Obj} {fd : FuncData} {body rest : List Stmt} {mu : List Str} {k i : Nat} {pss : PSs} {params : List Str} {c : Addr} {oc : Obj} {vs : Array Value} {t : Tok} {args : List PV} {r : PV} {σ' : St} {y : Str} {px fp p pos : Pos}
    (base : Base mg mb hB) (hre : Prims prog w mg mb hB) (FS : FsOk prog w mg hB n F) (hm : mg x = some (.ref a)) (ho : hB.get? a = some o) (hd : o.data = .func fd) (hbody : fd.body = .stmts body) (hclo : fd.closure = []) (hglb : fd.globals = mainGlobals) (hblt : fd.builtins = builtinsNs)
    (hcode : fd.code = .ref c) (hoc : hB.get? c = some oc) (hocn : NoTab oc) (hocd : oc.data = .fields vs) (hq : vs[1]? = some (.str fd.qualname t)) (hcdv : (slotOf fd.scope "stuff").isSome = true → c = CT)
    (E : EntryOk fd.scope params) (hbd : body = .Assign [.Name y px] (.Call (.Name "object" fp) [] [] p) pos :: rest) (hi : slotOf fd.scope y = some i) (hgl : isGl fd.scope "object" = true) (hc : cSs (cS mu k fd.scope) rest = some pss) (hlen : args.length = params.length)
    (hbind : Bnd prog w fd args params args) (hst : ∀ v ∈ args, noSt v = true)
    (hr : exs N F pss ⟨(args.map some ++ List.replicate (fd.scope.names.length - args.length) none).set i (some .star), []⟩ = some (σ', .ret r)) (hns : noSt r = true) (hrn : noOwn r = true) : FnOk prog w mg hB (n + 1) x args r := by
  refine fn_frame base FS hm ho hd hbody hclo hglb hblt hcode hoc hocn hocd hq hcdv E hlen hbind id hrn fun env A' C h0 C1 s₂ _ X => ?_
  have hG : ∀ (j : Nat) v, (args.map some ++ List.replicate (fd.scope.names.length - args.length) none)[j]? = some (some v) → noSt v = true := by
    intro j v e
    rcases Nat.lt_or_ge j args.length with h | h
    · rw [List.getElem?_append_left (by simpa using h), List.getElem?_map] at e
      obtain ⟨v', e1, e2⟩ := Option.map_eq_some_iff.mp e
      cases e2
      exact hst _ (List.mem_of_getElem? e1)
    · rw [List.getElem?_append_right (by simpa using h), List.getElem?_replicate] at e
      cases (ite_some e).2
  subst hbd
  rw [execs_cons]
  refine wpAny_bind (seqE (star_ok X hG hi hgl) fun fl s1 ⟨hfl, b, sm, Y⟩ => ?_)
  subst hfl
  refine seqE (cSs_snd (cS_snd hre mu k) rest hc Y hr) fun fl s' res => ?_
  obtain ⟨C', b1, b2, b3, u, rfl, b4⟩ := res
  exact ⟨b3.k0, sm.trans b2, Rep.restar (C := { C with st := b }) (a := C.st) r u hns (b4 hrn)⟩
end
end Mine

namespace Mine
open StrLaws

noncomputable def mus : List Str := ["res", "chunks", "fixed", "closed", "states", "moves", "parts", "signs", "ranges", "names", "items", "meant"]
noncomputable def muOf (_ : Str) : List Str := mus

/-- a def made small: its names, its parameters, its statements -/
structure DefE where
  k : Nat
  m : Nat
  b : PSs

noncomputable def entryB (sc : Scope) (ps : List Str) : Bool :=
  sc.kind == .function && !sc.isCoroutine && !sc.isGenerator && sc.names.all (fun p => p.2 != .free) && decide ps.Nodup && decide ((sc.names.take ps.length).map (·.1) = ps) &&
    ps.all fun x => sc.names.lookup x == some .local || sc.names.lookup x == some .cell
theorem slot_find {sc : Scope} {x : Str} {i : Nat} (h : slotOf sc x = some i) : sc.names.findIdx? (fun p => p.1 == x) = some i := by
  obtain ⟨k, _, h⟩ := Option.bind_eq_some_iff.mp h
  exact (ite_some h).2
theorem entryOk_of {sc : Scope} {ps : List Str} (h : entryB sc ps = true) : EntryOk sc ps := by
  simp only [entryB, Bool.and_eq_true, Bool.not_eq_true', decide_eq_true_eq] at h
  obtain ⟨⟨⟨⟨⟨⟨h1, h2⟩, h3⟩, h4⟩, h5⟩, h6⟩, h7⟩ := h
  refine ⟨by simpa using h1, h2, h3, fun x e => ?_, h5, fun i x e => ?_, fun i x e hi => ?_⟩
  · have := List.all_eq_true.mp h4 _ (mem_of_lookup e)
    simp at this
  · have := List.all_eq_true.mp h7 x (List.mem_of_getElem? e)
    simpa using this
  · have hf := slot_find e
    obtain ⟨q1, q2, _⟩ := List.findIdx?_eq_some_iff_getElem.mp hf
    have q3 : (sc.names[i]).1 = x := by simpa using q2
    conv => lhs; rw [← h6]
    rw [List.getElem?_map, List.getElem?_take, if_pos hi, List.getElem?_eq_getElem q1, ← q3]
    rfl

/-- plain parameters, not more than three; or one and a star -/
noncomputable def parOk (ps : Arguments) : Bool :=
  ps.posonlyargs.isEmpty && (ps.kwonlyargs.isEmpty && (ps.kw_defaults.isEmpty && (ps.kwarg.isNone && (ps.defaults.isEmpty && (ps.vararg.isNone || (one ps.args).isSome)))))
noncomputable def parNames (ps : Arguments) : List Str := ps.args.map (·.arg) ++ (match ps.vararg with | some a => [a.arg] | none => [])

noncomputable def vAsg (s : Stmt) : Option {z : List Expr × Expr × Pos // s = .Assign z.1 z.2.1 z.2.2} :=
  if h : s.ctorIdx = 5 then Stmt.Assign.elim (motive_2 := fun s => Option {z : List Expr × Expr × Pos // s = .Assign z.1 z.2.1 z.2.2}) s h fun a b c => some ⟨(a, b, c), rfl⟩ else none
theorem head_eq {s : Stmt} {rest : List Stmt} {ts : List Expr} {t v g : Expr} {as : List Expr} {x f : Str} {p q r u : Pos} (h1 : s = .Assign ts v p) (h2 : ts = [t]) (h3 : t = .Name x q) (h4 : v = .Call g as [] r) (h5 : g = .Name f u) (h6 : f = "object") (h7 : as.isEmpty = true) :
    s :: rest = .Assign [.Name x q] (.Call (.Name "object" u) [] [] r) p :: rest := by
  subst h1; subst h2; subst h3; subst h4; subst h5; subst h6; cases List.isEmpty_iff.mp h7; rfl
noncomputable def starHead (sc : Scope) : (b : List Stmt) → Option {y : Str × Pos × Pos × Pos × Pos // ∃ rest, b = .Assign [.Name y.1 y.2.1] (.Call (.Name "object" y.2.2.1) [] [] y.2.2.2.1) y.2.2.2.2 :: rest ∧ slotOf sc y.1 = some 1 ∧ isGl sc "object" = true}
  | [] => none
  | s :: rest => (vAsg s).bind fun a => (one a.1.1).bind fun t => (vName t.1).bind fun n => (vCall a.1.2.1).bind fun c => (vName c.1.1).bind fun g =>
    if h : g.1.1 = "object" ∧ c.1.2.1.isEmpty = true ∧ slotOf sc n.1.1 = some 1 ∧ isGl sc "object" = true then some ⟨(n.1.1, n.1.2, g.1.2, c.1.2.2, a.1.2.2), rest, head_eq a.2 t.2 n.2 c.2 g.2 h.1 h.2.1, h.2.2.1, h.2.2.2⟩ else none
noncomputable def defCond (f : Str) (ps : Arguments) (b : List Stmt) (sc : Scope) : Bool :=
  parOk ps && (entryB sc (parNames ps) && ((ps.vararg.isSome == (f == "replace")) && (!(f == "translate") || ((starHead sc b).isSome && ps.args.length == 1))))
noncomputable def defIs (p : Program) (f : Str) : Option DefE := (findDef p f).bind fun d => if defCond f d.1 d.2.1 d.2.2 then
  (cSs (cS (muOf f) 60 d.2.2) (if f == "translate" then d.2.1.tail else d.2.1)).map fun q => ⟨d.2.2.names.length, (parNames d.1).length, q⟩ else none

/-- the def's object on the top -/
inductive DefAt (p : Program) (mg : Str → Option Value) (hB : Heap) (x : Str) : Prop
  | mk (ps : _) (b : _) (sc : Scope) (a : Addr) (fd : FuncData) (o : Obj) (c : Addr) (oc : Obj) (vs : _) (t : Tok) (h1 : findDef p x = some (ps, b, sc)) (h2 : mg x = some (.ref a)) (h3 : hB.get? a = some o) (h4 : o.data = .func fd) (h5 : fd.params = ps) (h6 : fd.body = .stmts b) (h7 : fd.scope = sc) (h8 : fd.defaults = .none) (h9 : fd.closure = []) (h10 : fd.globals = mainGlobals) (h11 : fd.builtins = builtinsNs)
    (h12 : fd.code = .ref c) (h13 : hB.get? c = some oc) (h14 : NoTab oc) (h15 : oc.data = .fields vs) (h16 : vs[1]? = some (.str fd.qualname t)) (h17 : (slotOf sc "stuff").isSome = true → c = CT) : DefAt p mg hB x

noncomputable def FUEL : Nat := 4096
noncomputable def asRet : PF → Option PV
  | .ret v => some v
  | _ => none
noncomputable def subF (as : List PV) : Option PV := (pone as).bind fun v => (asS v).bind fun l => if subOk l then some (.str l) else none
noncomputable def replF (e : DefE) (F : PF1) : List PV → Option PV
  | [] => none
  | x :: ys => if ys.length ≤ LIM then pfun FUEL F e.k e.b [x, .tup ys] else none
noncomputable def transF (e : DefE) (F : PF1) (as : List PV) : Option PV := (pone as).bind fun v => (asS v).bind fun l =>
  (exs FUEL F e.b ⟨[some (.str l), some .star] ++ List.replicate (e.k - 2) none, []⟩).bind fun q => (asRet q.2).bind fun v => (asS v).map PV.str
noncomputable def defF (e : DefE) (F : PF1) (f : String) (as : List PV) : Option PV :=
  if Str.ofString f == ("replace" : Str) then replF e F as
  else if Str.ofString f == ("translate" : Str) then transF e F as
  else if as.length = e.m then pfun FUEL F e.k e.b as else none
noncomputable def stepF (T : List (String × DefE)) (F : PF1) : PF1 := fun f as =>
  if f = "%sub" then subF as else (T.lookup f).bind fun e => defF e F f as
noncomputable def runF (T : List (String × DefE)) : Nat → PF1
  | 0 => fun _ _ => none
  | n + 1 => stepF T (runF T n)

section
variable {prog : Program} {w : World} {mg mb : Str → Option Value} {hB : Heap} {p : Program}

theorem bindP {fd : FuncData} {as : List Arg} {vals : List Value} (hp : fd.params = ⟨[], as, none, [], [], none, []⟩) (hd : fd.defaults = .none) {A : Around} {s : Shared} {Q : List (Str × Value) → Shared → Prop} {E : Value → Shared → Prop}
    (hl : vals.length = as.length) (hz : ((as.map (·.arg)).filter fun n => (((as.map (·.arg)).zip vals).lookup n).isNone) = []) (h : Q ((as.map (·.arg)).filterMap fun n => (((as.map (·.arg)).zip vals).lookup n).map (n, ·)) s) :
    wpAny (model prog w) A (bindArgs fd ⟨vals, []⟩) Q E s := by
  unfold bindArgs
  rw [hp, hd]
  refine wpAny_bind (wpAny_pure ?_)
  refine wpAny_bind (m := seqItems? .none) (wpAny_of_eq (a := none) (by rfl) ?_)
  dsimp only
  rw [if_neg (by simp [hl])]
  simp only [List.map_nil, List.nil_append, List.append_nil, show ((none : Option (Array Value)).getD #[]).toList = [] from rfl, List.drop_nil, List.zip_nil_right, List.length_nil, Nat.sub_zero, Nat.zero_sub, List.take_length, hz]
  rw [if_neg (by simp)]
  refine wpAny_bind (wpAny_pure ?_)
  refine wpAny_bind (wpAny_pure ?_)
  dsimp only
  rw [if_neg (by simp)]
  exact wpAny_pure h

theorem zip_lookup : ∀ {ns : List Str} {vs : List Value}, ns.Nodup → vs.length = ns.length → ∀ {m : List (Str × Value)}, (∀ p ∈ ns.zip vs, m.lookup p.1 = some p.2) → ns.filterMap (fun n => (m.lookup n).map (n, ·)) = ns.zip vs
  | [], [], _, _, _, _ => rfl
  | n :: ns, v :: vs, nd, hl, m, h => by
    rw [List.zip_cons_cons] at h ⊢
    have h0 := h (n, v) List.mem_cons_self
    rw [List.filterMap_cons, h0]
    simp only [Option.map_some]
    rw [zip_lookup (List.nodup_cons.mp nd).2 (by simpa using hl) fun p hp => h p (List.mem_cons_of_mem _ hp)]
  | [], _ :: _, _, hl, _, _ => by simp at hl
  | _ :: _, [], _, hl, _, _ => by simp at hl
theorem zip_self : ∀ {ns : List Str} {vs : List Value}, ns.Nodup → vs.length = ns.length → ∀ p ∈ ns.zip vs, (ns.zip vs).lookup p.1 = some p.2
  | n :: ns, v :: vs, nd, hl, p, hp => by
    rw [List.zip_cons_cons] at hp ⊢
    rcases List.mem_cons.mp hp with rfl | hp
    · simp
    · have hne : p.1 ≠ n := fun e => (List.nodup_cons.mp nd).1 (by rw [← e]; exact (List.of_mem_zip (show (p.1, p.2) ∈ ns.zip vs from hp)).1)
      rw [List.lookup_cons]
      have : (p.1 == n) = false := by simpa using hne
      rw [this]
      exact zip_self (List.nodup_cons.mp nd).2 (by simpa using hl) p hp
  | [], _, _, _, p, hp => by simp at hp
  | _ :: _, [], _, hl, p, hp => by simp at hl

theorem bndP {fd : FuncData} {as : List Arg} {args : List PV} (hp : fd.params = ⟨[], as, none, [], [], none, []⟩) (hd : fd.defaults = .none) (nd : (as.map (·.arg)).Nodup) (hl : args.length = as.length) : Bnd prog w fd args (as.map (·.arg)) args := by
  intro C vals A s hX hr _
  have hlen := hr.length
  have hl2 : vals.length = (as.map (·.arg)).length := by simp; and_intros
  refine bindP hp hd (by and_intros) ?_ ?_
  · rw [List.filter_eq_nil_iff]
    intro n hn
    obtain ⟨i, hi⟩ := List.getElem?_of_mem hn
    have hlt : i < vals.length := by
      have := (List.getElem?_eq_some_iff.mp hi).1
      and_intros
    have hm : (n, vals[i]) ∈ (as.map (·.arg)).zip vals := List.mem_of_getElem? (i := i) (by rw [List.getElem?_zip_eq_some]; exact ⟨hi, List.getElem?_eq_getElem hlt⟩)
    rw [zip_self nd hl2 _ hm]; simp
  · rw [zip_lookup nd hl2 (zip_self nd hl2)]
    exact ⟨krefl s, vals, rfl, hr⟩

theorem def_parts {x : Str} {e : DefE} (h : defIs p x = some e) : ∃ ps b sc, findDef p x = some (ps, b, sc) ∧ parOk ps = true ∧ entryB sc (parNames ps) = true ∧ (ps.vararg.isSome = (x == "replace")) ∧
    ((x == "translate") = true → (starHead sc b).isSome = true ∧ ps.args.length = 1) ∧ e.k = sc.names.length ∧ e.m = (parNames ps).length ∧ cSs (cS (muOf x) 60 sc) (if x == "translate" then b.tail else b) = some e.b := by
  obtain ⟨d, hf, h⟩ := Option.bind_eq_some_iff.mp h
  obtain ⟨hc, h⟩ := ite_some h
  obtain ⟨h1, hc⟩ := and_t hc
  obtain ⟨h2, hc⟩ := and_t hc
  obtain ⟨h3, h4⟩ := and_t hc
  obtain ⟨q, hq, rfl⟩ := Option.map_eq_some_iff.mp h
  refine ⟨d.1, d.2.1, d.2.2, hf, h1, h2, beq_iff_eq.mp h3, fun ht => ?_, rfl, rfl, hq⟩
  rw [ht] at h4
  exact ⟨(and_t h4).1, beq_iff_eq.mp (and_t h4).2⟩
theorem par_eq {ps : Arguments} (h : parOk ps = true) : ps = ⟨[], ps.args, ps.vararg, [], [], none, []⟩ ∧ (ps.vararg.isNone || (one ps.args).isSome) = true := by
  obtain ⟨a1, a2, a3, a4, a5, a6, a7⟩ := ps
  obtain ⟨h1, h⟩ := and_t h
  obtain ⟨h2, h⟩ := and_t h
  obtain ⟨h3, h⟩ := and_t h
  obtain ⟨h4, h⟩ := and_t h
  obtain ⟨h5, h⟩ := and_t h
  cases List.isEmpty_iff.mp h1; cases List.isEmpty_iff.mp h2; cases List.isEmpty_iff.mp h3; cases Option.isNone_iff_eq_none.mp h4; cases List.isEmpty_iff.mp h5
  exact ⟨rfl, h⟩
theorem par_plain {ps : Arguments} (h : parOk ps = true) (hv : ps.vararg.isSome = false) : ps = ⟨[], ps.args, none, [], [], none, []⟩ ∧ parNames ps = ps.args.map (·.arg) := by
  have e := (par_eq h).1
  have hv : ps.vararg = none := by cases hq : ps.vararg with
    | none => rfl
    | some _ => rw [hq] at hv; cases hv
  rw [hv] at e
  refine ⟨e, ?_⟩
  unfold parNames
  rw [hv]
  exact List.append_nil _
theorem par_star {ps : Arguments} (h : parOk ps = true) (hv : ps.vararg.isSome = true) : ∃ a b, ps = ⟨[], [a], some b, [], [], none, []⟩ := by
  obtain ⟨e, h⟩ := par_eq h
  obtain ⟨b, hb⟩ := Option.isSome_iff_exists.mp hv
  rw [hb] at e h
  obtain ⟨a, _⟩ := Option.isSome_iff_exists.mp (h : (one ps.args).isSome = true)
  exact ⟨a.1, b, a.2 ▸ e⟩

theorem def_plain {n : Nat} {F : PF1} {x : Str} {e : DefE} {args : List PV} {r : PV} (base : Base mg mb hB) (hre : Prims prog w mg mb hB) (FS : FsOk prog w mg hB n F) (D : DefAt p mg hB x) (hE : defIs p x = some e)
    (h1 : (x == "replace") = false) (h2 : (x == "translate") = false) (hm : args.length = e.m) (hr : pfun FUEL F e.k e.b args = some r) : FnOk prog w mg hB (n + 1) x args r := by
  obtain ⟨ps, b, sc, hf, hp, hen, hv, _, hk, hmm, hc⟩ := def_parts hE
  obtain ⟨ps', b', sc', a, fd, o, c, oc, vs, t, g0, g1, g2, g3, g4, g5, g6, g7, g8, g9, g10, g11, g12, g13, g14, g15, g16⟩ := D
  rw [hf] at g0; cases g0
  rw [h2] at hc
  rw [h1] at hv
  obtain ⟨e1, e2⟩ := par_plain hp hv
  subst g6
  have hnd : (ps.args.map (·.arg)).Nodup := by rw [← e2]; exact (entryOk_of hen).nd
  rw [e2] at hen hmm
  rw [hk] at hr
  exact fn_entry base hre FS g1 g2 g3 g5 g8 g9 g10 g11 g12 g13 g14 g15 g16 (entryOk_of hen) hc (by rw [hm, hmm]) (bndP (by rw [g4]; exact e1) g7 hnd (by rw [hm, hmm]; simp)) id hr

theorem def_replace {n : Nat} {F : PF1} {e : DefE} {y : PV} {ys : List PV} {r : PV} (base : Base mg mb hB) (hre : Prims prog w mg mb hB) (FS : FsOk prog w mg hB n F) (D : DefAt p mg hB "replace") (hE : defIs p "replace" = some e)
    (hl : ys.length ≤ LIM) (hr : pfun FUEL F e.k e.b [y, .tup ys] = some r) : FnOk prog w mg hB (n + 1) "replace" (y :: ys) r := by
  obtain ⟨ps, b, sc, hf, hp, hen, hv, _, hk, hmm, hc⟩ := def_parts hE
  obtain ⟨ps', b', sc', a, fd, o, c, oc, vs, t, g0, g1, g2, g3, g4, g5, g6, g7, g8, g9, g10, g11, g12, g13, g14, g15, g16⟩ := D
  rw [hf] at g0; cases g0
  rw [show (("replace" : Str) == "translate") = false from by decide +kernel] at hc
  rw [show (("replace" : Str) == "replace") = true from by decide +kernel] at hv
  obtain ⟨pa, pb, e1⟩ := par_star hp hv
  subst e1
  subst g6
  rw [hk] at hr
  exact fn_entry base hre FS g1 g2 g3 g5 g8 g9 g10 g11 g12 g13 g14 g15 g16 (entryOk_of hen) hc rfl (bndR g4 g7 hl) (fun q => Bool.and_eq_true_iff.mpr ⟨(and_t q).1, Bool.and_eq_true_iff.mpr ⟨(and_t q).2, rfl⟩⟩) hr

theorem def_translate {n : Nat} {F : PF1} {e : DefE} {l r : List Nat} {σ : St} (base : Base mg mb hB) (hre : Prims prog w mg mb hB) (FS : FsOk prog w mg hB n F) (D : DefAt p mg hB "translate") (hE : defIs p "translate" = some e)
    (hr : exs FUEL F e.b ⟨[some (.str l), some .star] ++ List.replicate (e.k - 2) none, []⟩ = some (σ, .ret (.str r))) : FnOk prog w mg hB (n + 1) "translate" [.str l] (.str r) := by
  obtain ⟨ps, b, sc, hf, hp, hen, hv, hs, hk, hmm, hc⟩ := def_parts hE
  obtain ⟨ps', b', sc', a, fd, o, c, oc, vs, t, g0, g1, g2, g3, g4, g5, g6, g7, g8, g9, g10, g11, g12, g13, g14, g15, g16⟩ := D
  rw [hf] at g0; cases g0
  have ht : (("translate" : Str) == "translate") = true := by decide +kernel
  rw [ht] at hc
  rw [show (("translate" : Str) == "replace") = false from by decide +kernel] at hv
  obtain ⟨hs1, hs2⟩ := hs ht
  obtain ⟨e1, e2⟩ := par_plain hp hv
  subst g6
  have hnd : (ps.args.map (·.arg)).Nodup := by rw [← e2]; exact (entryOk_of hen).nd
  rw [e2] at hen hmm
  have E := entryOk_of hen
  obtain ⟨y, _⟩ := Option.isSome_iff_exists.mp hs1
  obtain ⟨⟨y, q1, q2, q3, q4⟩, rest, rfl, k1, k2⟩ := y
  have hlen : 1 < fd.scope.names.length := (List.findIdx?_eq_some_iff_getElem.mp (slot_find k1)).1
  refine fn_star base hre FS g1 g2 g3 g5 g8 g9 g10 g11 g12 g13 g14 g15 g16 E rfl k1 k2 hc (by simp [hs2]) (bndP (by rw [g4]; exact e1) g7 hnd (by rw [hs2]; rfl)) (by simp [noSt]) (r := .str r) (σ' := σ) (N := FUEL) ?_ rfl rfl
  rw [hk] at hr
  rw [← hr]
  obtain ⟨m, hm⟩ : ∃ m, fd.scope.names.length = m + 2 := ⟨fd.scope.names.length - 2, by and_intros⟩
  rw [hm]
  rfl

theorem fnTab_name {x : Str} {f : String} (h : (x, f) ∈ fnTab) : x = Str.ofString f := by
  unfold fnTab at h
  obtain ⟨y, _, e⟩ := List.mem_map.mp h
  cases e; rfl
theorem fnTab_nosub : ∀ q ∈ fnTab, q.2 ≠ "%sub" := by decide +kernel

theorem pone_eq {as : List PV} {v : PV} (h : pone as = some v) : as = [v] := by
  cases as with
  | nil => cases h
  | cons x r => cases r with
    | nil => cases h; rfl
    | cons _ _ => cases h
theorem fs_def {T : List (String × DefE)} {n : Nat} {f : String} {e : DefE} {args : List PV} {r : PV} (base : Base mg mb hB) (hre : Prims prog w mg mb hB) (IH : FsOk prog w mg hB n (runF T n)) (hE : defIs p (Str.ofString f) = some e) (D : DefAt p mg hB (Str.ofString f))
    (h : defF e (runF T n) f args = some r) : FnOk prog w mg hB (n + 1) (Str.ofString f) args r := by
  unfold defF at h
  by_cases hr : (Str.ofString f == ("replace" : Str)) = true
  · rw [if_pos hr] at h
    rw [beq_iff_eq.mp hr] at hE D ⊢
    cases args with
    | nil => exact nn h
    | cons x ys =>
      obtain ⟨hl, h⟩ := ite_some h
      exact def_replace base hre IH D hE hl h
  · rw [if_neg hr] at h
    by_cases ht : (Str.ofString f == ("translate" : Str)) = true
    · rw [if_pos ht] at h
      rw [beq_iff_eq.mp ht] at hE D ⊢
      obtain ⟨v, e1, h⟩ := Option.bind_eq_some_iff.mp h
      obtain ⟨l, e2, h⟩ := Option.bind_eq_some_iff.mp h
      obtain ⟨q, e3, h⟩ := Option.bind_eq_some_iff.mp h
      obtain ⟨u, e4, h⟩ := Option.bind_eq_some_iff.mp h
      obtain ⟨z, e5, rfl⟩ := Option.map_eq_some_iff.mp h
      cases pone_eq e1
      cases asS_eq e2
      cases asS_eq e5
      obtain ⟨σ, q⟩ := q
      cases q with
      | ret v => cases e4; exact def_translate base hre IH D hE e3
      | _ => exact nn e4
    · rw [if_neg ht] at h
      obtain ⟨hm, h⟩ := ite_some h
      exact def_plain base hre IH D hE (Bool.eq_false_iff.mpr hr) (Bool.eq_false_iff.mpr ht) hm h
theorem fs_ok {T : List (String × DefE)} (base : Base mg mb hB) (hre : Prims prog w mg mb hB) (hT : ∀ f e, T.lookup f = some e → defIs p (Str.ofString f) = some e ∧ DefAt p mg hB (Str.ofString f)) (n : Nat) : FsOk prog w mg hB n (runF T n) := by
  induction n with
  | zero => exact ⟨fun _ _ _ _ _ h => (nomatch h), fun _ _ h => (nomatch h)⟩
  | succ n IH =>
    refine ⟨fun x f args r hx h => ?_, fun v r h => ?_⟩
    · have hs := fnTab_nosub _ hx
      cases fnTab_name hx
      have h : (if f = "%sub" then subF args else (T.lookup f).bind fun e => defF e (runF T n) f args) = some r := h
      rw [if_neg hs] at h
      obtain ⟨e, he, h⟩ := Option.bind_eq_some_iff.mp h
      exact fs_def base hre IH (hT f e he).1 (hT f e he).2 h
    · have h : subF [v] = some r := h
      obtain ⟨u, e1, h⟩ := Option.bind_eq_some_iff.mp h
      cases e1
      obtain ⟨l, e2, h⟩ := Option.bind_eq_some_iff.mp h
      obtain ⟨hc, h⟩ := ite_some h
      cases h
      exact ⟨l, asS_eq e2, hc, rfl⟩

theorem oldK_of (base : Base mg mb hB) {h' : Heap} (k : KN hB h') : OldK hB h' := by
  obtain ⟨ps, e0, t0⟩ := base.pt
  obtain ⟨more, e1, _⟩ := k.tab _ e0
  refine ⟨fun b o e => ?_, fun b o e => k.live e⟩
  by_cases hb : b = PT
  · subst hb
    rw [e0] at e; cases e
    exact .inr (.inl ⟨((base.cod).tab e0).isCodeTable, rfl, ps, more, rfl, e1⟩)
  · exact .inl (k.pt b o hb e)
end
end Mine

namespace Mine
open StrLaws

/-! the laws' call in general -/
noncomputable def eInt : Value → Option Int
  | .int i _ => some i
  | _ => none
noncomputable def eStr : Value → Option Str
  | .str s _ => some s
  | _ => none
theorem eInt_eq {v : Value} {i : Int} (h : eInt v = some i) : ∃ t, v = .int i t := by
  cases v <;> first | (cases h; exact ⟨_, rfl⟩) | cases h
theorem eStr_eq {v : Value} {s : Str} (h : eStr v = some s) : ∃ t, v = .str s t := by
  cases v <;> first | (cases h; exact ⟨_, rfl⟩) | cases h
theorem any_t {α : Type} {o : Option α} {f : α → Bool} (h : o.any f = true) : ∃ a, o = some a ∧ f a = true := by
  cases o with
  | none => cases h
  | some a => exact ⟨a, rfl, h⟩
noncomputable def specEs (es : Array DictEntry) : Bool :=
  (es.toList.all fun e => (eInt e.key).any fun i => (eStr e.val).any fun s => decide (0 ≤ i) && (specials.contains i.toNat && (decide (s.cps.toList = [92, i.toNat]) && decide (e.hash = hashInt i)))) && specials.all fun c => es.toList.any fun e => Value.isInt (c : Nat) e.key
section
variable {prog : Program} {w : World} {mg mb : Str → Option Value} {hB : Heap} {p : Program}
theorem spec_of_es {es : Array DictEntry} {n : Nat} (X : hB.get? spA = some { cls := .type "dict", dict := none, data := .dict es n, slots := #[] }) (h : specEs es = true) : SpecOk prog w hB := by
  simp only [specEs, Bool.and_eq_true, List.all_eq_true] at h
  obtain ⟨h1, h2⟩ := h
  have key : ∀ e ∈ es.toList, ∃ i t s t', e.key = .int i t ∧ e.val = .str s t' ∧ 0 ≤ i ∧ specials.contains i.toNat = true ∧ s.cps.toList = [92, i.toNat] ∧ e.hash = hashInt i := by
    intro e he
    obtain ⟨i, e1, this⟩ := any_t (h1 e he)
    obtain ⟨s, e2, this⟩ := any_t this
    obtain ⟨t, e1⟩ := eInt_eq e1
    obtain ⟨t', e2⟩ := eStr_eq e2
    obtain ⟨q1, this⟩ := and_t this
    obtain ⟨q2, this⟩ := and_t this
    obtain ⟨q3, q4⟩ := and_t this
    exact ⟨i, t, s, t', e1, e2, of_decide_eq_true q1, q2, of_decide_eq_true q3, of_decide_eq_true q4⟩
  refine spec_prim (f := fun k => findBy Value.isInt es k) ⟨_, es, n, X, ⟨rfl, rfl, rfl⟩, rfl, fun e he => ?_, fun _ => rfl⟩ fun c => ?_
  · obtain ⟨i, t, s, t', e1, e2, e3, e4, e5, e6⟩ := key e (Array.mem_toList_iff.mpr he)
    exact ⟨i, by rw [e1]; show Value.isInt i (.int i t) = true; simp [Value.isInt], e6⟩
  · have hfind : findBy Value.isInt es (c : Int) = (es.toList.find? fun e => Value.isInt (c : Nat) e.key).map (·.val) := by
      obtain ⟨l⟩ := es
      unfold findBy
      rw [List.find?_toArray]
    rw [hfind]
    cases hf : es.toList.find? fun e => Value.isInt (c : Nat) e.key with
    | some e =>
      obtain ⟨i, t, s, t', e1, e2, e3, e4, e5, e6⟩ := key e (List.mem_of_find?_eq_some hf)
      have h3 := List.find?_some hf
      rw [e1] at h3
      have hi : i = (c : Int) := by simpa [Value.isInt] using h3
      subst hi
      have hc : specials.contains c = true := by simpa using e4
      rw [if_pos hc]
      refine ⟨t', ?_⟩
      show some e.val = _
      rw [e2]
      obtain ⟨a⟩ := s
      have : a = #[92, c] := Array.ext' (by simpa using e5)
      subst this; rfl
    | none =>
      have hc : ¬ specials.contains c = true := by
        intro hc
        have h3 := h2 c (by simpa using hc)
        obtain ⟨e, he, h4⟩ := List.any_eq_true.mp h3
        have := List.find?_eq_none.mp hf e he
        exact this h4
      rw [if_neg hc]; rfl

theorem rep_ints {P : Params} {h : Heap} {C : RC} : ∀ {vs : List Value} {ws : List Int}, WellAll P h vs (ofPys (ws.map .int)) → RepL C h (ws.map .int) vs
  | vs, [], x => by
    cases x; rfl
  | vs, a :: ws, x => by
    rw [List.map_cons, ofPys] at x
    obtain ⟨v, vs', rfl, x1, x2⟩ := wellAll_cons_inv x
    rw [ofPy] at x1
    cases x1
    exact ⟨_, vs', rfl, rep_int, rep_ints x2⟩

theorem noOwn_ints : ∀ ws : List Int, noOwnL (ws.map .int) = true
  | [] => rfl
  | a :: ws => noOwn_ints ws

theorem law_call {T : List (String × DefE)} {n : Nat} {e : DefE} {ws : List Int} {s : Shared} {l a : Addr} {P : Params} (base : Base mg mb s.heap) (hs : SpecOk prog w s.heap) (hT : ∀ f e, T.lookup f = some e → defIs p (Str.ofString f) = some e ∧ DefAt p mg s.heap (Str.ofString f))
    (hE : T.lookup "law" = some e) (hm : e.m = 1) (hn : n ≤ 20) (hr : pfun FUEL (runF T n) e.k e.b [.list (ws.map .int)] = some (.bool true)) (hl : Well P s.heap (.ref l) (ofPy (.list (ws.map .int)))) (ha : mg "law" = some (.ref a)) :
    wpAny (model prog w) callerA (call (.ref a) [.ref l]) (fun v s' => v = .bool true ∧ Keeps s s') noE s := by
  obtain ⟨hE', D⟩ := hT _ _ hE
  have hre : Prims prog w mg mb s.heap := ⟨resub_prim, hs, gjoin_prim⟩
  have FS := fs_ok (T := T) base hre hT n
  obtain ⟨a', fd, o, h1, _, _, _, h5⟩ := def_plain base hre FS D hE' (by decide +kernel) (by decide +kernel) (by rw [hm]; rfl) hr
  rw [show (Str.ofString "law") = ("law" : Str) from rfl, ha] at h1
  cases h1
  rw [ofPy] at hl
  cases hl
  rename_i vs h6 h7
  refine seqE (h5 ⟨fun _ => False, 0, []⟩ [.ref l] callerA s (KN.refl _) (fun b hb => hb.elim) ?_ (Bool.and_eq_true_iff.mpr ⟨noOwn_ints ws, rfl⟩) ⟨rfl, ?_, ?_⟩) fun v s' ⟨k, r⟩ => ⟨r, k⟩
  · refine RepL.one (rep_list (xs := vs) (fun q => q) ⟨_, h6⟩ (rep_ints h7))
  · show 1 + claimMargin + (n + 1) < recursionLimit
    have e1 : claimMargin = 300 := rfl
    have e2 : recursionLimit = 1000 := rfl
    and_intros
  · show 4 + 200 + 20 * (n + 1) < cLine
    have : cLine = 9900 := rfl
    and_intros
end
noncomputable def p_repl : PSs :=
    (.cons (.wh (.var 1) (.cons (.asg 0 (.me .join (.idx (.var 1) (.ci 1)) (.cons (.me .split (.var 0) (.cons (.idx (.var 1) (.ci 0)) .nil)) .nil)))
    (.cons (.asg 1 (.sl (.var 1) (.ci 2) .cn))
    .nil)))
    (.cons (.ret (.var 0))
    .nil))

noncomputable def p_esc : PSs :=
    (.cons (.ite (.isstr (.var 0)) (.cons (.ret (.spec (.var 0)))
    .nil) (.cons (.asrt (.idx .cn .cn))
    (.cons (.asrt (.idx .cn .cn))
    .nil)))
    .nil)

noncomputable def p_trans : PSs :=
    (.cons (.asg 2 (.call "_translate" (.cons (.var 0) (.cons (.var 1) (.cons (.cs [46]) .nil)))))
    (.cons (.ret (.call "_join_translated_parts" (.cons (.var 2) (.cons (.var 1) .nil))))
    .nil))

noncomputable def hyFind : PSs :=
    (.cons (.asg 11 (.me .find (.var 0) (.cons (.cs [45]) (.cons (.var 11) (.cons (.var 8) .nil)))))
    (.cons (.ite (.cmp .lt (.var 11) (.ci 0)) (.cons .brk
    .nil) .nil)
    (.cons (.app 10 (.sl (.var 0) (.var 5) (.var 11)))
    (.cons (.asg 5 (.bin .add (.var 11) (.ci 1)))
    (.cons (.asg 11 (.bin .add (.var 11) (.ci 3)))
    .nil)))))
noncomputable def hyFor : PSs :=
    (.cons (.ite (.cmp .gt (.idx (.idx (.var 10) (.bin .sub (.var 11) (.ci 1))) (.ci (-1))) (.idx (.idx (.var 10) (.var 11)) (.ci 0))) (.cons (.seti 10 (.bin .sub (.var 11) (.ci 1)) (.bin .add (.sl (.idx (.var 10) (.bin .sub (.var 11) (.ci 1))) .cn (.ci (-1))) (.sl (.idx (.var 10) (.var 11)) (.ci 1) .cn)))
    (.cons (.deli 10 (.var 11))
    .nil)) .nil)
    .nil)
noncomputable def p_hy : PSs :=
    (.cons (.asgo 10 .nil)
    (.cons (.asg 11 (.ite (.cmp .eq (.idx (.var 0) (.var 5)) (.cs [33])) (.bin .add (.var 5) (.ci 2)) (.bin .add (.var 5) (.ci 1))))
    (.cons (.wh (.cb true) hyFind)
    (.cons (.asg 12 (.sl (.var 0) (.var 5) (.var 8)))
    (.cons (.ite (.var 12) (.cons (.app 10 (.var 12))
    .nil) (.cons (.asrt (.idx .cn .cn))
    .nil))
    (.cons (.fr 11 (.rng (.cons (.bin .sub (.bi .len (.cons (.var 10) .nil)) (.ci 1)) (.cons (.ci 0) (.cons (.ci (-1)) .nil)))) hyFor)
    (.cons (.asg 9 (.gjoin (.cs [45]) (.val (.var 10)) [92] [92, 92] [45] [92, 45]))
    .nil)))))))
noncomputable def brEnd : PSs :=
    (.cons (.ite (.not (.var 9)) (.cons (.appf 4 (.cs [40, 63, 33, 41]))
    .nil) (.cons (.ite (.cmp .eq (.var 9) (.cs [33])) (.cons (.appf 4 (.cs [46]))
    .nil) (.cons (.ite (.cmp .eq (.idx (.var 9) (.ci 0)) (.cs [33])) (.cons (.asg 9 (.bin .add (.cs [94]) (.sl (.var 9) (.ci 1) .cn)))
    .nil) (.cons (.ite (.cmp .inn (.idx (.var 9) (.ci 0)) (.tup (.cons (.cs [94]) (.cons (.cs [91]) .nil)))) (.cons (.asg 9 (.bin .add (.cs [92]) (.var 9)))
    .nil) .nil)
    .nil))
    (.cons (.appf 4 (.fstr (.cons (.cs [91]) (.cons (.var 9) (.cons (.cs [93]) .nil)))))
    .nil)))
    .nil))
    .nil)
noncomputable def brIn : PSs :=
    (.cons (.asg 9 (.sl (.var 0) (.var 5) (.var 8)))
    (.cons (.ite (.cmp .nin (.cs [45]) (.var 9)) (.cons (.asg 9 (.me .replace (.var 9) (.cons (.cs [92]) (.cons (.cs [92, 92]) .nil))))
    .nil) p_hy)
    (.cons (.asg 9 (.resub (.var 9)))
    (.cons (.asg 5 (.bin .add (.var 8) (.ci 1)))
    brEnd))))
noncomputable def p_br : PSs :=
    (.cons (.asg 8 (.var 5))
    (.cons (.ite (.and2 (.cmp .lt (.var 8) (.var 6)) (.cmp .eq (.idx (.var 0) (.var 8)) (.cs [33]))) (.cons (.asg 8 (.bin .add (.var 8) (.ci 1)))
    .nil) .nil)
    (.cons (.ite (.and2 (.cmp .lt (.var 8) (.var 6)) (.cmp .eq (.idx (.var 0) (.var 8)) (.cs [93]))) (.cons (.asg 8 (.bin .add (.var 8) (.ci 1)))
    .nil) .nil)
    (.cons (.wh (.and2 (.cmp .lt (.var 8) (.var 6)) (.cmp .ne (.idx (.var 0) (.var 8)) (.cs [93]))) (.cons (.asg 8 (.bin .add (.var 8) (.ci 1)))
    .nil))
    (.cons (.ite (.cmp .ge (.var 8) (.var 6)) (.cons (.appf 4 (.cs [92, 91]))
    .nil) brIn)
    .nil)))))
noncomputable def trBody : PSs :=
    (.cons (.asg 7 (.idx (.var 0) (.var 5)))
    (.cons (.asg 5 (.bin .add (.var 5) (.ci 1)))
    (.cons (.ite (.cmp .eq (.var 7) (.cs [42])) (.cons (.ite (.or2 (.not (.var 3)) (.cmp .isn (.idx (.var 3) (.ci (-1))) (.var 1))) (.cons (.appf 4 (.var 1))
    .nil) .nil)
    .nil) (.cons (.ite (.cmp .eq (.var 7) (.cs [63])) (.cons (.appf 4 (.var 2))
    .nil) (.cons (.ite (.cmp .eq (.var 7) (.cs [91])) p_br (.cons (.appf 4 (.call "escape" (.cons (.var 7) .nil)))
    .nil))
    .nil))
    .nil))
    .nil)))
noncomputable def p_tr : PSs :=
    (.cons (.asgo 3 .nil)
    (.cons (.asga 4 3)
    (.cons (.asgt [5, 6] [false, false] (.cons (.ci 0) (.cons (.bi .len (.cons (.var 0) .nil)) .nil)))
    (.cons (.wh (.cmp .lt (.var 5) (.var 6)) trBody)
    (.cons (.asrt (.cmp .eq (.var 5) (.var 6)))
    (.cons (.ret (.var 3))
    .nil))))))

noncomputable def jMain : PSs :=
    (.cons (.asrt (.cmp .is (.idx (.var 0) (.var 4)) (.var 1)))
    (.cons (.aug 4 .add (.ci 1))
    (.cons (.ite (.cmp .eq (.var 4) (.var 5)) (.cons (.appf 3 (.cs [46, 42]))
    (.cons .brk
    .nil)) .nil)
    (.cons (.asrt (.cmp .isn (.idx (.var 0) (.var 4)) (.var 1)))
    (.cons (.asgo 6 .nil)
    (.cons (.wh (.and2 (.cmp .lt (.var 4) (.var 5)) (.cmp .isn (.idx (.var 0) (.var 4)) (.var 1))) (.cons (.app 6 (.idx (.var 0) (.var 4)))
    (.cons (.aug 4 .add (.ci 1))
    .nil)))
    (.cons (.asg 6 (.me .join (.cs []) (.cons (.var 6) .nil)))
    (.cons (.ite (.cmp .eq (.var 4) (.var 5)) (.cons (.appf 3 (.cs [46, 42]))
    (.cons (.appf 3 (.var 6))
    .nil)) (.cons (.appf 3 (.fstr (.cons (.cs [40, 63, 62, 46, 42, 63]) (.cons (.var 6) (.cons (.cs [41]) .nil)))))
    .nil))
    .nil))))))))
noncomputable def p_join : PSs :=
    (.cons (.asgo 2 .nil)
    (.cons (.asga 3 2)
    (.cons (.asgt [4, 5] [false, false] (.cons (.ci 0) (.cons (.bi .len (.cons (.var 0) .nil)) .nil)))
    (.cons (.wh (.and2 (.cmp .lt (.var 4) (.var 5)) (.cmp .isn (.idx (.var 0) (.var 4)) (.var 1))) (.cons (.appf 3 (.idx (.var 0) (.var 4)))
    (.cons (.aug 4 .add (.ci 1))
    .nil)))
    (.cons (.wh (.cmp .lt (.var 4) (.var 5)) jMain)
    (.cons (.asrt (.cmp .eq (.var 4) (.var 5)))
    (.cons (.asg 2 (.me .join (.cs []) (.cons (.var 2) .nil)))
    (.cons (.ret (.fstr (.cons (.cs [40, 63, 115, 58]) (.cons (.var 2) (.cons (.cs [41, 92, 90]) .nil)))))
    .nil))))))))

noncomputable def clBody : PSs :=
    (.cons (.ite (.or2 (.cmp .inn (.var 3) (.var 1)) (.and2 (.cmp .inn (.bin .sub (.var 3) (.ci 1)) (.var 2)) (.cmp .eq (.idx (.var 0) (.bin .sub (.var 3) (.ci 1))) (.cs [42])))) (.cons (.app 2 (.var 3))
    .nil) .nil)
    .nil)
noncomputable def p_closed : PSs :=
    (.cons (.asgo 2 .nil)
    (.cons (.fr 3 (.rng (.cons (.bin .add (.bi .len (.cons (.var 0) .nil)) (.ci 1)) .nil)) clBody)
    (.cons (.ret (.var 2))
    .nil)))

noncomputable def mcFor : PSs :=
    (.cons (.asg 7 (.call "_law_closed" (.cons (.var 0) (.cons (.bin .add (.var 5) (.comp (.bin .add (.var 1) (.ci 1)) 1 (.val (.idx (.var 1) (.var 3))) (.cons (.cmp .inn (.var 3) (.idx (.var 2) (.var 1))) .nil) [none, none, some 4, some 6])) .nil))))
    (.cons (.ite (.cmp .nin (.var 7) (.var 1)) (.cons (.app 1 (.var 7))
    .nil) .nil)
    (.cons (.augo 2 (.lst (.cons (.bin .add (.bi .chr (.cons (.bin .add (.ci 57344) (.var 3)) .nil)) (.var 6)) (.cons (.bin .add (.var 6) (.bi .chr (.cons (.bin .add (.ci 57344) (.me .index (.var 1) (.cons (.var 7) .nil))) .nil))) .nil))))
    .nil)))
noncomputable def mcBody : PSs :=
    (.cons (.asg 5 (.comp (.var 1) 1 (.val (.idx (.var 1) (.var 3))) (.cons (.cmp .eq (.idx (.var 2) (.var 1)) (.cs [42])) .nil) [none, none, some 4]))
    (.cons (.fr 6 (.val (.cs [97, 98, 45])) mcFor)
    (.cons (.aug 3 .add (.ci 1))
    .nil)))
noncomputable def p_mach : PSs :=
    (.cons (.asgt [1, 2, 3, 4] [true, true, false, false] (.cons (.lst (.cons (.call "_law_closed" (.cons (.var 0) (.cons (.lst (.cons (.ci 0) .nil)) .nil))) .nil)) (.cons (.lst .nil) (.cons (.ci 0) (.cons (.bin .add (.var 0) (.lst (.cons (.cs []) .nil))) .nil)))))
    (.cons (.wh (.cmp .lt (.var 3) (.bi .len (.cons (.var 1) .nil))) mcBody)
    (.cons (.ret (.tup (.cons (.var 1) (.cons (.var 2) .nil))))
    .nil)))

noncomputable def ptSign : PSs :=
    (.cons (.asg 7 (.ite (.cmp .eq (.idx (.var 0) (.var 2)) (.cs [92])) (.ci 1) (.ci 0)))
    (.cons (.app 4 (.lst (.cons (.idx (.var 0) (.bin .add (.var 2) (.var 7))) (.cons (.var 7) .nil))))
    (.cons (.aug 2 .add (.bin .add (.ci 1) (.var 7)))
    .nil)))
noncomputable def ptRng : PSs :=
    (.cons (.asg 8 (.ite (.and2 (.cmp .lt (.bin .add (.var 6) (.ci 2)) (.bi .len (.cons (.var 4) .nil))) (.cmp .eq (.idx (.var 4) (.bin .add (.var 6) (.ci 1))) (.lst (.cons (.cs [45]) (.cons (.ci 0) .nil))))) (.ci 2) (.ci 0)))
    (.cons (.app 5 (.lst (.cons (.idx (.idx (.var 4) (.var 6)) (.ci 0)) (.cons (.idx (.idx (.var 4) (.bin .add (.var 6) (.var 8))) (.ci 0)) .nil))))
    (.cons (.aug 6 .add (.bin .add (.ci 1) (.var 8)))
    .nil)))
noncomputable def ptBr2 : PSs :=
    (.cons (.asgt [4, 5, 6] [true, true, false] (.cons (.lst .nil) (.cons (.lst .nil) (.cons (.ci 0) .nil))))
    (.cons (.wh (.or2 (.cmp .eq (.var 4) (.lst .nil)) (.cmp .ne (.idx (.var 0) (.var 2)) (.cs [93]))) ptSign)
    (.cons (.aug 2 .add (.ci 1))
    (.cons (.wh (.cmp .lt (.var 6) (.bi .len (.cons (.var 4) .nil))) ptRng)
    (.cons (.app 1 (.me .join (.cs []) (.cons (.comp (.var 1) 1 (.val (.cs [97, 98, 45])) (.cons (.cmp .ne (.cmp .ne (.comp (.var 1) 1 (.val (.var 2)) (.cons (.cmp2 .le .le (.idx (.var 1) (.ci 0)) (.var 2) (.idx (.var 1) (.ci 1))) .nil) [none, none, some 1]) (.lst .nil)) (.var 3)) .nil) [none, none, some 5, some 3]) .nil)))
    .nil)))))
noncomputable def ptBr : PSs :=
    (.cons (.asg 3 (.cmp .eq (.idx (.var 0) (.bin .add (.var 2) (.ci 1))) (.cs [94])))
    (.cons (.aug 2 .add (.ite (.var 3) (.ci 2) (.ci 1)))
    ptBr2))
noncomputable def ptBody : PSs :=
    (.cons (.ite (.cmp .eq (.sl (.var 0) (.var 2) (.bin .add (.var 2) (.ci 4))) (.cs [40, 63, 33, 41])) (.cons (.app 1 (.cs []))
    (.cons (.aug 2 .add (.ci 4))
    .nil)) (.cons (.ite (.cmp .eq (.idx (.var 0) (.var 2)) (.cs [46])) (.cons (.app 1 (.cs [97, 98, 45]))
    (.cons (.aug 2 .add (.ci 1))
    .nil)) (.cons (.ite (.cmp .ne (.idx (.var 0) (.var 2)) (.cs [91])) (.cons (.aug 2 .add (.ite (.cmp .eq (.idx (.var 0) (.var 2)) (.cs [92])) (.ci 1) (.ci 0)))
    (.cons (.app 1 (.idx (.var 0) (.var 2)))
    (.cons (.aug 2 .add (.ci 1))
    .nil))) ptBr)
    .nil))
    .nil))
    .nil)
noncomputable def p_parts : PSs :=
    (.cons (.asgt [1, 2] [true, false] (.cons (.lst .nil) (.cons (.ci 0) .nil)))
    (.cons (.wh (.cmp .lt (.var 2) (.bi .len (.cons (.var 0) .nil))) ptBody)
    (.cons (.ret (.var 1))
    .nil)))

noncomputable def p_rows : PSs :=
    (.cons (.asg 1 (.me .split (.sl (.var 0) (.ci 4) (.ci (-3))) (.cons (.cs [40, 63, 62, 46, 42, 63]) .nil)))
    (.cons (.asg 1 (.bin .add (.sl (.var 1) .cn (.ci (-1))) (.me .split (.idx (.var 1) (.ci (-1))) (.cons (.cs [46, 42]) .nil))))
    (.cons (.asg 2 (.sl (.sl (.var 1) (.ci 1) .cn) (.ci (-1)) .cn))
    (.cons (.asg 1 (.bin .add (.sl (.var 1) .cn (.ci 1)) (.comp (.sl (.var 1) .cn (.ci (-1))) 1 (.val (.sl (.var 1) (.ci 1) (.ci (-1)))) .nil [none, none])))
    (.cons (.asg 3 (.bin .add (.bin .add (.idx (.var 1) (.ci 0)) (.me .join (.cs []) (.cons (.comp (.bin .add (.bin .add (.cs [40, 63, 62, 46, 42, 63]) (.var 1)) (.cs [41])) 1 (.val (.sl (.var 1) (.ci 1) .cn)) .nil [none, none]) .nil))) (.me .join (.cs []) (.cons (.comp (.bin .add (.cs [46, 42]) (.var 1)) 1 (.val (.var 2)) .nil [none, none]) .nil))))
    (.cons (.ret (.ite (.cmp .eq (.var 0) (.bin .add (.bin .add (.cs [40, 63, 115, 58]) (.var 3)) (.cs [41, 92, 90]))) (.comp (.call "_law_parts" (.cons (.var 1) .nil)) 1 (.val (.bin .add (.var 1) (.var 2))) .nil [none, none, none]) (.lst .nil)))
    .nil))))))

noncomputable def p_fits : PSs :=
    (.cons (.ret (.and2 (.cmp .le (.bin .add (.var 2) (.bi .len (.cons (.var 0) .nil))) (.bi .len (.cons (.var 1) .nil))) (.cmp .eq (.comp (.var 1) 1 (.rng (.cons (.bi .len (.cons (.var 0) .nil)) .nil)) (.cons (.cmp .nin (.idx (.var 3) (.bin .add (.var 2) (.var 1))) (.idx (.var 4) (.var 1))) .nil) [none, none, some 2, some 1, some 0]) (.lst .nil))))
    .nil)

noncomputable def tkBody : PSs :=
    (.cons (.asg 4 (.comp (.var 1) 1 (.rng (.cons (.var 2) (.cons (.bin .add (.bi .len (.cons (.var 1) .nil)) (.ci 1)) .nil))) (.cons (.call "_law_fits" (.cons (.var 4) (.cons (.var 3) (.cons (.var 1) .nil)))) .nil) [none, none, none, some 1, some 3]))
    (.cons (.ite (.cmp .eq (.var 4) (.lst .nil)) (.cons (.ret (.cb false))
    .nil) .nil)
    (.cons (.asg 2 (.bin .add (.idx (.var 4) (.ci 0)) (.bi .len (.cons (.var 3) .nil))))
    .nil)))
noncomputable def p_takes : PSs :=
    (.cons (.ite (.not (.call "_law_fits" (.cons (.idx (.var 0) (.ci 0)) (.cons (.var 1) (.cons (.ci 0) .nil))))) (.cons (.ret (.cb false))
    .nil) .nil)
    (.cons (.asg 2 (.bi .len (.cons (.idx (.var 0) (.ci 0)) .nil)))
    (.cons (.ite (.cmp .eq (.bi .len (.cons (.var 0) .nil)) (.ci 1)) (.cons (.ret (.cmp .eq (.bi .len (.cons (.var 1) .nil)) (.var 2)))
    .nil) .nil)
    (.cons (.fr 3 (.val (.sl (.var 0) (.ci 1) (.ci (-1)))) tkBody)
    (.cons (.asg 5 (.bin .sub (.bi .len (.cons (.var 1) .nil)) (.bi .len (.cons (.idx (.var 0) (.ci (-1))) .nil))))
    (.cons (.ret (.and2 (.cmp .ge (.var 5) (.var 2)) (.call "_law_fits" (.cons (.idx (.var 0) (.ci (-1))) (.cons (.var 1) (.cons (.var 5) .nil))))))
    .nil))))))

noncomputable def lwIn : PSs :=
    (.cons (.aug 5 .add (.ite (.cmp .eq (.var 10) (.cs [42])) (.sl (.cs [98, 45, 97]) (.bin .mod (.var 8) (.ci 4)) (.bin .add (.bin .mod (.var 8) (.ci 4)) (.ci 1))) (.sl (.bin .mul (.var 10) (.ci 6)) (.bin .mod (.var 8) (.ci 6)) (.bin .add (.bin .mod (.var 8) (.ci 6)) (.ci 1)))))
    .nil)
noncomputable def lwFor : PSs :=
    (.cons (.aug 3 .add (.idx (.var 1) (.bin .mod (.var 7) (.ci 16))))
    (.cons (.augo 4 (.idx (.var 2) (.bin .mod (.var 7) (.ci 16))))
    (.cons (.asg 8 (.bin .fdiv (.var 7) (.ci 16)))
    (.cons (.app 6 (.me .join (.cs []) (.cons (.comp (.idx (.lst (.cons (.cs []) (.cons (.cs [97]) (.cons (.cs [98]) (.cons (.cs [45]) .nil))))) (.bin .mod (.bin .fdiv (.var 2) (.bin .pow (.ci 4) (.var 1))) (.ci 4))) 1 (.rng (.cons (.ci 4) .nil)) .nil [none, none, some 8]) .nil)))
    (.cons (.fr 10 (.val (.idx (.var 2) (.bin .mod (.var 7) (.ci 16)))) lwIn)
    .nil)))))
noncomputable def lwTurn : PSs :=
    (.cons (.asg 13 (.calls "replace" (.var 13) (.bin .mul (.var 12) (.ci 2))))
    .nil)
noncomputable def lwEnd : PSs :=
    (.cons (.asg 17 (.idx (.var 11) (.bin .sub (.bi .ord (.cons (.idx (.idx (.var 15) (.var 9)) (.ci (-1))) .nil)) (.ci 57344))))
    (.cons (.ite (.cmp .ne (.cmp .inn (.bi .len (.cons (.var 4) .nil)) (.var 17)) (.call "_law_takes" (.cons (.var 16) (.cons (.idx (.var 6) (.var 9)) .nil)))) (.cons (.ret (.cb false))
    .nil) .nil)
    .nil))
noncomputable def lwTail : PSs :=
    (.cons (.frz 4 (.asgu [11, 12] (.call "_law_machine" (.cons (.var 4) .nil))))
    (.cons (.asg 13 (.me .join (.cs [10]) (.cons (.comp (.bin .add (.bi .chr (.cons (.ci 57344) .nil)) (.var 1)) 1 (.val (.var 6)) .nil [none, none, none]) .nil)))
    (.cons (.fr 14 (.rng (.cons (.bin .fdiv (.bin .add (.bi .max (.cons (.comp (.bi .len (.cons (.var 1) .nil)) 1 (.val (.var 6)) .nil [none, none, none]) .nil)) (.ci 1)) (.ci 2)) .nil)) lwTurn)
    (.cons (.asg 15 (.me .split (.var 13) (.cons (.cs [10]) .nil)))
    (.cons (.asg 16 (.call "_law_rows" (.cons (.call "translate" (.cons (.var 3) .nil)) .nil)))
    (.cons (.ite (.or2 (.cmp .ne (.comp (.sl (.var 1) .cn (.ci (-1))) 1 (.val (.var 15)) .nil [none, none]) (.var 6)) (.cmp .eq (.var 16) (.lst .nil))) (.cons (.ret (.cb false))
    .nil) .nil)
    (.cons (.fr 9 (.rng (.cons (.bi .len (.cons (.var 6) .nil)) .nil)) lwEnd)
    (.cons (.ret (.cb true))
    .nil))))))))
noncomputable def p_law : PSs :=
    (.cons (.asg 1 (.lst (.cons (.cs [42]) (.cons (.cs [42, 97]) (.cons (.cs [98, 42]) (.cons (.cs [63]) (.cons (.cs [97]) (.cons (.cs [42, 42, 45]) (.cons (.cs [91, 97, 98, 93]) (.cons (.cs [91, 33, 97, 93]) (.cons (.cs [91, 45, 45, 97, 93]) (.cons (.cs [91, 98, 45, 97, 93]) (.cons (.cs [91, 33, 98, 45, 97, 93]) (.cons (.cs [91, 98, 45, 97, 33, 97, 93]) (.cons (.cs [91, 93, 45, 97, 45, 93]) (.cons (.cs [91, 33, 98, 45, 97, 45, 97, 93]) (.cons (.cs []) (.cons (.cs [98]) .nil))))))))))))))))))
    (.cons (.asgo 2 (.cons (.lst (.cons (.cs [42]) .nil)) (.cons (.lst (.cons (.cs [42]) (.cons (.cs [97]) .nil))) (.cons (.lst (.cons (.cs [98]) (.cons (.cs [42]) .nil))) (.cons (.lst (.cons (.cs [97, 98, 45]) .nil)) (.cons (.lst (.cons (.cs [97]) .nil)) (.cons (.lst (.cons (.cs [42]) (.cons (.cs [45]) .nil))) (.cons (.lst (.cons (.cs [97, 98]) .nil)) (.cons (.lst (.cons (.cs [98, 45]) .nil)) .nil)))))))))
    (.cons (.augo 2 (.lst (.cons (.lst (.cons (.cs [97, 45]) .nil)) (.cons (.lst (.cons (.cs []) .nil)) (.cons (.lst (.cons (.cs [97, 98, 45]) .nil)) (.cons (.lst (.cons (.cs [98, 45]) .nil)) (.cons (.lst (.cons (.cs [97, 45]) .nil)) (.cons (.lst (.cons (.cs [98]) .nil)) (.cons (.lst .nil) (.cons (.lst (.cons (.cs [98]) .nil)) .nil))))))))))
    (.cons (.asgt [3, 4, 5, 6] [false, true, false, true] (.cons (.cs []) (.cons (.lst .nil) (.cons (.cs []) (.cons (.lst .nil) .nil)))))
    (.cons (.fr 7 (.val (.comp (.bin .mod (.var 1) (.bin .pow (.ci 10) (.ci 6))) 1 (.val (.sl (.bin .add (.sl (.var 0) .cn (.ci 4)) (.lst (.cons (.ci 17) (.cons (.ci 1355) (.cons (.ci 437) (.cons (.ci 918) .nil)))))) .cn (.ci 4))) .nil [none, none])) lwFor)
    (.cons (.app 6 (.var 5))
    lwTail))))))

noncomputable def T1 : List (String × DefE) := [("replace", ⟨2, 2, p_repl⟩), ("escape", ⟨4, 1, p_esc⟩), ("translate", ⟨6, 1, p_trans⟩), ("_translate", ⟨17, 3, p_tr⟩), ("_join_translated_parts", ⟨8, 2, p_join⟩), ("_law_closed", ⟨6, 2, p_closed⟩), ("_law_machine", ⟨11, 1, p_mach⟩), ("_law_parts", ⟨10, 1, p_parts⟩), ("_law_rows", ⟨4, 1, p_rows⟩), ("_law_fits", ⟨5, 3, p_fits⟩), ("_law_takes", ⟨9, 2, p_takes⟩), ("law", ⟨27, 1, p_law⟩)]

theorem lookup_memS {α : Type} : ∀ {l : List (String × α)} {f : String} {e : α}, l.lookup f = some e → (f, e) ∈ l
  | (g, d) :: l, f, e, h => by
    rw [List.lookup_cons] at h
    split at h
    · rename_i hq
      cases h; rw [beq_iff_eq.mp hq]; exact List.mem_cons_self
    · exact List.mem_cons_of_mem _ (lookup_memS h)
end Mine

namespace Mine
section
variable {p : Program} {mg mb : Str → Option Value} {h : Heap} {K : Frag}
theorem goodWG_of {c : ClaimW} {cl : Str → Option Addr} {mean : ExcName → Option Value} {args : List WData} {s₁ s' : Shared} {v : Value} (base : Base mg mb s₁.heap) (hg : s₁.gens = #[]) (hv : v = .bool true) (k : Keeps s₁ s') (hn : ∀ cls, c.raises args cls = false) (hp : c.post args (.bool true) args = true) :
    GoodWG c cl mean args s₁ (.ok (.ret v)) s' := by
  subst hv
  exact ⟨.inl ⟨.bool true, .bool true, [], rfl, hn, .bool true, hp, fun _ => ⟨List.nodup_nil, fun a ha => (nomatch ha)⟩⟩, oldK_of base (kheap k), k.2.1, k.2.2 (.of_eq hg)⟩
end
end Mine

namespace Mine

noncomputable def vFn : Data → Option FuncData
  | .func f => some f
  | _ => none
noncomputable def vFs : Data → Option (Array Value)
  | .fields f => some f
  | _ => none
noncomputable def vSq : Data → Option (Array Value × Nat)
  | .seq f n => some (f, n)
  | _ => none
noncomputable def vDi : Data → Option (Array DictEntry × Nat)
  | .dict f n => some (f, n)
  | _ => none
noncomputable def vRf : Value → Option Addr
  | .ref a => some a
  | _ => none
noncomputable def vTy : Value → Option String
  | .type a => some a
  | _ => none
theorem vFn_eq {d : Data} {f : FuncData} (h : vFn d = some f) : d = .func f := by
  cases d <;> first | (cases h; rfl) | cases h
theorem vFs_eq {d : Data} {f : Array Value} (h : vFs d = some f) : d = .fields f := by
  cases d <;> first | (cases h; rfl) | cases h
theorem vSq_eq {d : Data} {f : Array Value × Nat} (h : vSq d = some f) : d = .seq f.1 f.2 := by
  cases d <;> first | (cases h; rfl) | cases h
theorem vDi_eq {d : Data} {f : Array DictEntry × Nat} (h : vDi d = some f) : d = .dict f.1 f.2 := by
  cases d <;> first | (cases h; rfl) | cases h
theorem vRf_eq {v : Value} {a : Addr} (h : vRf v = some a) : v = .ref a := by
  cases v <;> first | (cases h; rfl) | cases h
theorem vTy_eq {v : Value} {a : String} (h : vTy v = some a) : v = .type a := by
  cases v <;> first | (cases h; rfl) | cases h

/-- an object of a type, without a dict and without slots -/
noncomputable def bare (t : String) (o : Obj) : Bool := (vTy o.cls).any fun q => q == t && (o.dict.isNone && o.slots.isEmpty)
theorem bare_eq {t : String} {o : Obj} (h : bare t o = true) : o = { cls := .type t, dict := none, data := o.data, slots := #[] } := by
  obtain ⟨q, e, h⟩ := any_t h
  obtain ⟨h1, h⟩ := and_t h
  obtain ⟨h2, h3⟩ := and_t h
  have e1 := vTy_eq e
  cases beq_iff_eq.mp h1
  cases o with
  | mk c d da s =>
    cases e1
    cases Option.isNone_iff_eq_none.mp h2
    cases (Array.isEmpty_iff.mp h3 : s = #[])
    rfl

noncomputable def funChk (h : Heap) : Bool := (classAt h "_translate").any fun a => (h.get? a).any fun o => (vFn o.data).any fun fd => (vRf fd.code).any fun c => decide (c = CT) &&
  ((h.get? CT).any fun oc => (vFs oc.data).any fun vs => (vs[11]?).any fun v => (vRf v).any fun P => decide (P = PT))
noncomputable def dictChk (h : Heap) : Bool := (h.get? spA).any fun o => bare "dict" o && ((vDi o.data).any fun d => specEs d.1)
noncomputable def reChk (h : Heap) : Bool := (h.get? reA).any fun o => bare "re.Pattern" o && ((vFs o.data).any fun fs => decide (PySem.Builtin.Re.reRawNat (fs.getD 6 .none) = 0) && ((vRf (fs.getD 5 .none)).any fun a => decide (a = reC)))
noncomputable def reCChk (h : Heap) : Bool := (h.get? reC).any fun o => (vSq o.data).any fun d => decide (d.1.toList.map (fun v => (PySem.Builtin.Re.reRawOf v).toNat) = reCode.toList)
noncomputable def topChk (h : Heap) : Bool := decide (classAt h "_special_chars_map" = some spA) && (decide (classAt h "_twin_re_1" = some reA) && (funChk h && (dictChk h && (reChk h && reCChk h))))

section
variable {q : Program} {loose : List Str} {R : WRecords} {XP : (Str → Option Value) → Heap → Prop} {w : World} {s₀ : Shared} {mg mb : Str → Option Value} {h : Heap} {prog : Program}

theorem fun_ct (G : Ground q loose R XP w s₀ mg mb h) (keep : ∀ b o, s₀.heap.get? b = some o → h.get? b = some o) (hc : funChk s₀.heap = true) :
    ∃ a o fd, mg "_translate" = some (.ref a) ∧ h.get? a = some o ∧ o.data = .func fd ∧ fd.code = .ref CT ∧ ∃ oc vs, h.get? CT = some oc ∧ oc.data = .fields vs ∧ vs[11]? = some (.ref PT) := by
  obtain ⟨a, e1, hc⟩ := any_t hc
  obtain ⟨o, e2, hc⟩ := any_t hc
  obtain ⟨fd, e3, hc⟩ := any_t hc
  obtain ⟨c, e4, hc⟩ := any_t hc
  obtain ⟨e5, hc⟩ := and_t hc
  obtain ⟨oc, e6, hc⟩ := any_t hc
  obtain ⟨vs, e7, hc⟩ := any_t hc
  obtain ⟨v, e8, hc⟩ := any_t hc
  obtain ⟨P, e9, hz⟩ := any_t hc
  have e5 := of_decide_eq_true e5
  have hz := of_decide_eq_true hz
  subst e5
  subst hz
  exact ⟨a, o, fd, (G.cls _ _).mp e1, keep _ _ e2, vFn_eq e3, vRf_eq e4, oc, vs, keep _ _ e6, vFs_eq e7, by rw [e8, vRf_eq e9]⟩

theorem base2 (G : Ground q loose R XP w s₀ mg mb h) (keep : ∀ b o, s₀.heap.get? b = some o → h.get? b = some o) (hc : topChk s₀.heap = true) (hd : ∃ d ∈ recsOf q, d.name = "_translate")
    (e2 : ∀ p ∈ biTab, p.1 ∉ startupNames ∧ p.1 ∉ looseW q loose ∧ p.1 ∉ (recsOf q).map (·.name) ∧ p.1 ∉ (litsOf q).map (·.1) ∧ p.1 ∉ (clssOf q (looseW q loose)).map (·.name)) (e3 : ∀ p ∈ biTab, p.1 ≠ "__name__" ∧ bootBuiltins p.1 = some p.2) :
    Base mg mb h ∧ SpecOk prog w h := by
  obtain ⟨c1, hc⟩ := and_t hc
  obtain ⟨c2, hc⟩ := and_t hc
  obtain ⟨c3, hc⟩ := and_t hc
  obtain ⟨c4, hc⟩ := and_t hc
  obtain ⟨c5, c6⟩ := and_t hc
  have T := G.T
  obtain ⟨d, hd, hn⟩ := hd
  obtain ⟨a, o, fd, m1, m2, m3, m4, oc, vs, m5, m6, m7⟩ := fun_ct G keep c3
  obtain ⟨a', o', fd', c, P, t1, t2, t3, t4, t5, t6⟩ := T.tab d hd
  rw [hn, m1] at t1; cases t1
  rw [m2] at t2; cases t2
  rw [m3] at t3; cases t3
  rw [m4] at t4; cases t4
  have hP : P = PT := by
    obtain ⟨⟨o2, vs2, q1, _, q3, q4⟩, _⟩ := t6
    rw [m5] at q1; cases q1
    rw [m6] at q3; cases q3
    rw [m7] at q4; cases q4; rfl
  subst hP
  obtain ⟨od, x1, c4⟩ := any_t c4
  obtain ⟨x2, c4⟩ := and_t c4
  obtain ⟨es, x3, x4⟩ := any_t c4
  obtain ⟨orx, r1, c5⟩ := any_t c5
  obtain ⟨r2, c5⟩ := and_t c5
  obtain ⟨fs, r3, c5⟩ := any_t c5
  obtain ⟨r4, c5⟩ := and_t c5
  obtain ⟨ar, r5, r6⟩ := any_t c5
  obtain ⟨oc2, y1, c6⟩ := any_t c6
  obtain ⟨xs, y2, y3⟩ := any_t c6
  cases of_decide_eq_true r6
  refine ⟨⟨T.g, T.b, ⟨#[], t6.2, trivial⟩, fun p hp => ⟨?_, ?_⟩, CodeHd.of t5 t6, ?_, T.nolimit, (G.cls _ _).mp (of_decide_eq_true c1), (G.cls _ _).mp (of_decide_eq_true c2), ⟨⟨fs, ?_, of_decide_eq_true r4, vRf_eq r5⟩, ⟨xs.1, oc2, xs.2, keep _ _ y1, vSq_eq y2, Array.ext' ?_⟩⟩⟩, ?_⟩
  · obtain ⟨h1, h2, h3, h4, h5⟩ := e2 p hp
    exact T.free _ h1 h2 h3 h4 h5
  · rw [T.builtins _ (e3 p hp).1]; exact (e3 p hp).2
  · obtain ⟨bm, ob, b1, b2, b3, b4, b5, b6⟩ := T.bmain
    refine ⟨bm, ob, b1, b2, fun q => ?_, fun q => ?_, b3, b4, b5, b6⟩
    · obtain ⟨o, es, ep, e, hd, _⟩ := T.g
      rw [q, e] at b3; cases b3; rw [hd] at b6; cases b6
    · rw [q, t6.2] at b3; cases b3; cases b4
  · have e := keep _ _ r1
    rw [bare_eq r2, vFs_eq r3] at e; exact e
  · rw [← of_decide_eq_true y3, Array.toList_map, Array.toList_map, List.map_map]; rfl
  · refine spec_of_es (es := es.1) (n := es.2) ?_ x4
    have e := keep _ _ x1
    rw [bare_eq x2, vDi_eq x3] at e; exact e

theorem defAt2 {p : Program} {x : Str} {d : DefRec} (G : Ground q loose R XP w s₀ mg mb h) (keep : ∀ b o, s₀.heap.get? b = some o → h.get? b = some o) (hc : topChk s₀.heap = true) (hd : d ∈ recsOf q) (hn : d.name = x) (hf : findDef p x = some (d.params, d.body, d.scope))
    (h16 : (slotOf d.scope "stuff").isSome = true → x = "_translate") : DefAt p mg h x := by
  subst hn
  obtain ⟨a, o, pm, code, doc, f1, f2, f3, c, oc, vs, t, f4, f5, f6, f7⟩ := G.T.fn d hd
  obtain ⟨a', o', fd, c', P, t1, t2, t3, t4, t5, t6⟩ := G.T.tab d hd
  rw [f1] at t1; cases t1
  rw [f2] at t2; cases t2
  rw [f3] at t3; cases t3
  have hcc : code = .ref c' := t4
  rw [f4] at hcc; cases hcc
  refine ⟨_, _, _, a, _, o, c, oc, vs, t, hf, f1, f2, f3, rfl, rfl, rfl, rfl, rfl, rfl, rfl, f4, f5, ?_, f6, f7, fun q => ?_⟩
  · obtain ⟨⟨o2, vs2, q1, q2, _⟩, _⟩ := t6
    rw [f5] at q1; cases q1
    exact noTab_cls (by rw [q2]; nofun)
  · obtain ⟨a2, o2, fd2, m1, m2, m3, m4, _⟩ := fun_ct G keep (and_t (and_t (and_t hc).2).2).1
    rw [← h16 q, f1] at m1; cases m1
    rw [f2] at m2; cases m2
    rw [f3] at m3; cases m3
    have m4 : code = .ref CT := m4
    rw [f4] at m4; cases m4; rfl
end
end Mine


namespace Mine
set_option maxHeartbeats 0 in
theorem def1 : ∀ f e, T1.lookup f = some e → defIs PySem.Challenge.pw_ij0085_01 (Str.ofString f) = some e := by
  intro f e h
  have h' := lookup_memS h
  simp only [T1, List.mem_cons, List.not_mem_nil, or_false, Prod.mk.injEq] at h'
  rcases h' with h' | h' | h' | h' | h' | h' | h' | h' | h' | h' | h' | h' <;> (obtain ⟨rfl, rfl⟩ := h'; rfl)
end Mine

namespace Mine

theorem whIt_step {test : St → Option Bool} {body : St → Option (St × PF)} {n : Nat} {σ σ' : St} (ht : test σ = some true) (hb : body σ = some (σ', .next)) : whIt test body (n + 1) σ = whIt test body n σ' :=
  (congrArg (fun o => Option.bind o _) ht).trans (congrArg (fun o => Option.bind o _) hb)
theorem whIt_stop {test : St → Option Bool} {body : St → Option (St × PF)} {n : Nat} {σ : St} (ht : test σ = some false) : whIt test body (n + 1) σ = some (σ, .next) := congrArg (fun o => Option.bind o _) ht
theorem whIt_brk {test : St → Option Bool} {body : St → Option (St × PF)} {n : Nat} {σ σ' : St} (ht : test σ = some true) (hb : body σ = some (σ', .brk)) : whIt test body (n + 1) σ = some (σ', .next) :=
  (congrArg (fun o => Option.bind o _) ht).trans (congrArg (fun o => Option.bind o _) hb)
theorem bind_eq {α β : Type} {o : Option α} {f : α → Option β} {a : α} {b : Option β} (h : o = some a) (h2 : f a = b) : o.bind f = b := by subst h; exact h2
theorem map_eq {α β : Type} {o : Option α} {f : α → β} {a : α} (h : o = some a) : o.map f = some (f a) := by subst h; rfl

noncomputable abbrev R (n : Nat) : PF1 := runF T1 n
theorem def_eq {f : String} {e : DefE} {n : Nat} {as : List PV} (h : T1.lookup f = some e) (h0 : f ≠ "%sub") : R (n + 1) f as = defF e (R n) f as := (if_neg h0).trans (bind_eq h rfl)
theorem run_eq {f : String} {e : DefE} {n : Nat} {as : List PV} (h : T1.lookup f = some e) (h0 : f ≠ "%sub") (h1 : (Str.ofString f == ("replace" : Str)) = false) (h2 : (Str.ofString f == ("translate" : Str)) = false) (hl : as.length = e.m) :
    R (n + 1) f as = pfun FUEL (R n) e.k e.b as :=
  (def_eq h h0).trans ((if_neg (Bool.eq_false_iff.mp h1)).trans ((if_neg (Bool.eq_false_iff.mp h2)).trans (if_pos hl)))
theorem pfun_ret {n : Nat} {F : PF1} {k : Nat} {b : PSs} {as : List PV} {σ : St} {v : PV} (h : exs n F b ⟨as.map some ++ List.replicate (k - as.length) none, []⟩ = some (σ, .ret v)) (h2 : noOwn v = true) : pfun n F k b as = some v := bind_eq h (if_pos h2)

/-! statements -/
section
variable {n : Nat} {F : PF1} {σ σ' : St}
theorem exs_next {p : PS} {r : PSs} {X : Option (St × PF)} (h : ex n F p σ = some (σ', .next)) (h2 : exs n F r σ' = X) : exs n F (.cons p r) σ = X := bind_eq h h2
theorem exs_one {p : PS} (h : ex n F p σ = some (σ', .next)) : exs n F (.cons p .nil) σ = some (σ', .next) := exs_next h rfl
theorem exs_stop {p : PS} {r : PSs} {f : PF} (h : ex n F p σ = some (σ', f)) (hf : f ≠ .next) : exs n F (.cons p r) σ = some (σ', f) := by
  refine bind_eq h ?_
  cases f with
  | next => exact absurd rfl hf
  | _ => rfl
theorem ite_t {c : PE} {a b : PSs} {X : Option (St × PF)} (h : pt F σ.O σ.G c = some true) (h2 : exs n F a σ = X) : ex n F (.ite c a b) σ = X := bind_eq h h2
theorem ite_f {c : PE} {a b : PSs} {X : Option (St × PF)} (h : pt F σ.O σ.G c = some false) (h2 : exs n F b σ = X) : ex n F (.ite c a b) σ = X := bind_eq h h2
theorem ite_b {c : PE} {a b : PSs} {t : Bool} {X : Option (St × PF)} (h : pt F σ.O σ.G c = some t) (h2 : t = true → exs n F a σ = X) (h3 : t = false → exs n F b σ = X) : ex n F (.ite c a b) σ = X := by
  cases t with
  | true => exact ite_t h (h2 rfl)
  | false => exact ite_f h (h3 rfl)
theorem asg_e {i : Nat} {e : PE} {v : PV} (h : ev F σ.O σ.G e = some v) : ex n F (.asg i e) σ = some (σ.put i v, .next) := map_eq h
theorem asgt2 {i j : Nat} {e f : PE} {v w : PV} (h : ev F σ.O σ.G e = some v) (h2 : ev F σ.O σ.G f = some w) : ex n F (.asgt [i, j] [false, false] (.cons e (.cons f .nil))) σ = some ((σ.put i v).put j w, .next) :=
  bind_eq (bind_eq h (map_eq (bind_eq h2 rfl))) rfl
theorem aug_i {i : Nat} {e : PE} {x y : Int} (h : ev F σ.O σ.G (.var i) = some (.int x)) (h2 : ev F σ.O σ.G e = some (.int y)) : ex n F (.aug i .add e) σ = some (σ.put i (.int (x + y)), .next) := bind_eq h (bind_eq h2 rfl)
theorem aug_s {i : Nat} {e : PE} {x y : List Nat} (h : ev F σ.O σ.G (.var i) = some (.str x)) (h2 : ev F σ.O σ.G e = some (.str y)) (h3 : x.length + y.length ≤ LIM) : ex n F (.aug i .add e) σ = some (σ.put i (.str (x ++ y)), .next) :=
  bind_eq h (bind_eq h2 ((if_pos rfl).trans (map_eq (if_pos h3))))
theorem app_e {i k : Nat} {e : PE} {v : PV} {vs : List PV} (h : σ.G[i]? = some (some (.own k))) (h1 : σ.O[k]? = some (some vs)) (h2 : ev F σ.O σ.G e = some v) (h3 : vs.length ≤ LIM) : ex n F (.app i e) σ = some (σ.putO k (vs ++ [v]), .next) :=
  bind_eq (bind_eq (bind_eq h rfl) (map_eq (bind_eq h1 rfl))) (bind_eq h2 (if_pos h3))
theorem appf_e {i k : Nat} {e : PE} {v : PV} {vs : List PV} (h : σ.G[i]? = some (some (.app k))) (h1 : σ.O[k]? = some (some vs)) (h2 : ev F σ.O σ.G e = some v) (h3 : vs.length ≤ LIM) : ex n F (.appf i e) σ = some (σ.putO k (vs ++ [v]), .next) :=
  bind_eq (bind_eq (bind_eq h rfl) (map_eq (bind_eq h1 rfl))) (bind_eq h2 (if_pos h3))
theorem augo_e {i k : Nat} {e : PE} {l vs : List PV} (h : σ.G[i]? = some (some (.own k))) (h1 : σ.O[k]? = some (some vs)) (h2 : ev F σ.O σ.G e = some (.list l)) (h3 : vs.length + l.length ≤ LIM) : ex n F (.augo i e) σ = some (σ.putO k (vs ++ l), .next) :=
  bind_eq (bind_eq (bind_eq h rfl) (map_eq (bind_eq h1 rfl))) (bind_eq h2 (bind_eq rfl (if_pos h3)))
theorem wh_e {c : PE} {a : PSs} {X : Option (St × PF)} (h : whIt (fun σ => pt F σ.O σ.G c) (fun σ => exs n F a σ) n σ = X) : ex n F (.wh c a) σ = X := h
theorem asrt_e {c : PE} (h : pt F σ.O σ.G c = some true) : ex n F (.asrt c) σ = some (σ, .next) := bind_eq h rfl
theorem ret_e {e : PE} {v : PV} (h : ev F [] (σ.G.map fun v => v.bind (frzN σ.O)) e = some v) : ex n F (.ret e) σ = some (σ, .ret v) := map_eq h
theorem fr_e {i : Nat} {it : PIt} {a : PSs} {its : List PV} {X : Option (St × PF)} (h : evIF F σ.O σ.G it = some its) (h2 : frIt i (fun σ => exs n F a σ) its σ = X) : ex n F (.fr i it a) σ = X := bind_eq h h2
theorem frIt_c {i : Nat} {body : St → Option (St × PF)} {v : PV} {r : List PV} {X : Option (St × PF)} (h : body (σ.put i v) = some (σ', .next)) (h2 : frIt i body r σ' = X) : frIt i body (v :: r) σ = X := bind_eq h h2
end

/-! expressions -/
section
variable {F : PF1} {O : Owns} {G : Slots} {a b c e : PE} {es : PEs}
theorem evs_c {r : PEs} {v : PV} {vs : List PV} (h : ev F O G e = some v) (h2 : evs F O G r = some vs) : evs F O G (.cons e r) = some (v :: vs) := bind_eq h (map_eq h2)
theorem call_e {f : String} {vs : List PV} {r : PV} (h : evs F O G es = some vs) (h2 : noOwnL vs = true) (h3 : F f vs = some r) : ev F O G (.call f es) = some r := bind_eq h ((if_pos h2).trans h3)
theorem callT {f : String} {vs : List PV} {r : Bool} (h : evs F O G es = some vs) (h2 : noOwnL vs = true) (h3 : F f vs = some (.bool r)) : pt F O G (.call f es) = some r := bind_eq h ((if_pos h2).trans (bind_eq h3 rfl))
theorem bin_e {op : PBin} {x y r : PV} (h : ev F O G a = some x) (h2 : ev F O G b = some y) (h3 : pbin O op x y = some r) : ev F O G (.bin op a b) = some r := bind_eq h (bind_eq h2 h3)
theorem cmp_t {op : PCmp} {x y : PV} {r : Bool} (h : ev F O G a = some x) (h2 : ev F O G b = some y) (h3 : pcmp O op x y = some r) : pt F O G (.cmp op a b) = some r := bind_eq h (bind_eq h2 h3)
theorem cmp_e {op : PCmp} {x y : PV} {r : Bool} (h : ev F O G a = some x) (h2 : ev F O G b = some y) (h3 : pcmp O op x y = some r) : ev F O G (.cmp op a b) = some (.bool r) := bind_eq h (bind_eq h2 (map_eq h3))
theorem idx_s {l : List Nat} {i : Int} {c : Nat} (h : ev F O G a = some (.str l)) (h2 : ev F O G b = some (.int i)) (h3 : i.natAbs < 2 ^ 62) (h4 : pidx l i = some c) : ev F O G (.idx a b) = some (.str [c]) := bind_eq h (bind_eq h2 ((if_pos h3).trans (map_eq h4)))
theorem idx_l {l : List PV} {i : Int} {c : PV} (h : ev F O G a = some (.list l)) (h2 : ev F O G b = some (.int i)) (h3 : i.natAbs < 2 ^ 62) (h4 : pidx l i = some c) : ev F O G (.idx a b) = some c := bind_eq h (bind_eq h2 ((if_pos h3).trans h4))
theorem idx_o {k : Nat} {l : List PV} {i : Int} {c : PV} (h : ev F O G a = some (.own k)) (h1 : O[k]? = some (some l)) (h2 : ev F O G b = some (.int i)) (h3 : i.natAbs < 2 ^ 62) (h4 : pidx l i = some c) : ev F O G (.idx a b) = some c := bind_eq h (bind_eq h2 ((if_pos h3).trans (bind_eq (bind_eq h1 rfl) h4)))
theorem sl_s {lo hi : PE} {l : List Nat} {x y : PV} {i j : Option Int} {r : List Nat} (h : ev F O G a = some (.str l)) (h2 : ev F O G lo = some x) (h3 : ev F O G hi = some y) (h4 : ppart x = some i) (h5 : ppart y = some j) (hl : l.length ≤ LIM) (hr : pslice l i j = r) : ev F O G (.sl a lo hi) = some (.str r) :=
  bind_eq h (bind_eq h2 (bind_eq h3 (bind_eq h4 (bind_eq h5 ((if_pos hl).trans (congrArg (fun l => some (PV.str l)) hr))))))
theorem sl_l {lo hi : PE} {l : List PV} {x y : PV} {i j : Option Int} {r : List PV} (h : ev F O G a = some (.list l)) (h2 : ev F O G lo = some x) (h3 : ev F O G hi = some y) (h4 : ppart x = some i) (h5 : ppart y = some j) (hl : l.length ≤ LIM) (hr : pslice l i j = r) : ev F O G (.sl a lo hi) = some (.list r) :=
  bind_eq h (bind_eq h2 (bind_eq h3 (bind_eq h4 (bind_eq h5 ((if_pos hl).trans (congrArg (fun l => some (PV.list l)) hr))))))
theorem me_e {m : PMe} {o : PE} {x : PV} {vs : List PV} {r : PV} (h1 : ev F O G o = some x) (h2 : evs F O G es = some vs) (h3 : pme O m x vs = some r) : ev F O G (.me m o es) = some r := bind_eq h1 (bind_eq h2 h3)
theorem bi_e {b : PBi} {vs : List PV} {r : PV} (h2 : evs F O G es = some vs) (h3 : pbi O b vs = some r) : ev F O G (.bi b es) = some r := bind_eq h2 h3
theorem ev_varE {i : Nat} {v : PV} (h : G[i]? = some (some v)) : ev F O G (.var i) = some v := bind_eq h rfl
theorem varT {i : Nat} {v : PV} {t : Bool} (h : G[i]? = some (some v)) (h2 : ptruth O v = some t) : pt F O G (.var i) = some t := bind_eq (bind_eq h rfl) h2
theorem truS {l : List Nat} (h : l.length ≤ LIM) : ptruth O (.str l) = some (!l.isEmpty) := if_pos h
theorem or2_t (h : pt F O G a = some true) : pt F O G (.or2 a b) = some true := bind_eq h rfl
theorem or2_f {r : Bool} (h : pt F O G a = some false) (h2 : pt F O G b = some r) : pt F O G (.or2 a b) = some r := bind_eq h h2
theorem and2_t {r : Bool} (h : pt F O G a = some true) (h2 : pt F O G b = some r) : pt F O G (.and2 a b) = some r := bind_eq h h2
theorem and2_f (h : pt F O G a = some false) : pt F O G (.and2 a b) = some false := bind_eq h rfl
theorem pt_not {r : Bool} (h : pt F O G a = some r) : pt F O G (.not a) = some (!r) := map_eq h
theorem ite_et {r : Option PV} (h : pt F O G c = some true) (h2 : ev F O G a = r) : ev F O G (.ite c a b) = r := bind_eq h h2
theorem ite_ef {r : Option PV} (h : pt F O G c = some false) (h2 : ev F O G b = r) : ev F O G (.ite c a b) = r := bind_eq h h2
theorem len_s {l : List Nat} (h : ev F O G e = some (.str l)) (hl : l.length ≤ LIM) : ev F O G (.bi .len (.cons e .nil)) = some (.int l.length) :=
  bi_e (evs_c h rfl) (if_pos (Nat.lt_of_le_of_lt hl (by decide)))
theorem len_l {l : List PV} (h : ev F O G e = some (.list l)) (hl : l.length ≤ LIM) : ev F O G (.bi .len (.cons e .nil)) = some (.int l.length) :=
  bi_e (evs_c h rfl) (bind_eq rfl (if_pos (Nat.lt_of_le_of_lt hl (by decide))))
theorem len_o {k : Nat} {l : List PV} (h : ev F O G e = some (.own k)) (h1 : O[k]? = some (some l)) (hl : l.length ≤ LIM) : ev F O G (.bi .len (.cons e .nil)) = some (.int l.length) :=
  bi_e (evs_c h rfl) (bind_eq (bind_eq h1 rfl) (if_pos (Nat.lt_of_le_of_lt hl (by decide))))
theorem it_l {l : List PV} (h : ev F O G e = some (.list l)) (hl : l.length ≤ LIM) : evI F O G (.val e) = some l := bind_eq h (bind_eq rfl (if_pos hl))
theorem it_o {k : Nat} {l : List PV} (h : ev F O G e = some (.own k)) (h1 : O[k]? = some (some l)) (hl : l.length ≤ LIM) : evI F O G (.val e) = some l := bind_eq h (bind_eq (bind_eq h1 rfl) (if_pos hl))
theorem itF_l {l : List PV} (h : ev F O G e = some (.list l)) (hl : l.length ≤ LIM) : evIF F O G (.val e) = some l := bind_eq h (bind_eq rfl (if_pos hl))
theorem fstr_e {vs : List PV} {ls : List (List Nat)} (h : evs F O G es = some vs) (h1 : pstrs vs = some ls) (h2 : (ls.map List.length).sum ≤ LIM) : ev F O G (.fstr es) = some (.str ls.flatten) := bind_eq h (bind_eq h1 (if_pos h2))
end

/-! values -/
section
variable {O : Owns}
theorem eqS {c d : Nat} : pcmp O .eq (.str [c]) (.str [d]) = some (c == d) := congrArg some (by show (c == d && true) = _; rw [Bool.and_true])
theorem neS {c d : Nat} : pcmp O .ne (.str [c]) (.str [d]) = some (!(c == d)) := congrArg (fun b => some (!b)) (by show (c == d && true) = _; rw [Bool.and_true])
theorem eqSS {l m : List Nat} (h : l = m) : pcmp O .eq (.str l) (.str m) = some true := by subst h; exact congrArg some (beq_self_eq_true l)
theorem ltI {i j : Int} : pcmp O .lt (.int i) (.int j) = some (decide (i < j)) := rfl
theorem lt1 {i j : Int} (h : i < j) : pcmp O .lt (.int i) (.int j) = some true := congrArg some (decide_eq_true h)
theorem lt0 {i j : Int} (h : ¬ i < j) : pcmp O .lt (.int i) (.int j) = some false := congrArg some (decide_eq_false h)
theorem ge0 {i j : Int} (h : ¬ j ≤ i) : pcmp O .ge (.int i) (.int j) = some false := congrArg some (decide_eq_false h)
theorem eqI1 {i j : Int} (h : i = j) : pcmp O .eq (.int i) (.int j) = some true := by subst h; exact congrArg some (beq_self_eq_true _)
theorem eqI0 {i j : Int} (h : i ≠ j) : pcmp O .eq (.int i) (.int j) = some false := congrArg some (beq_eq_false_iff_ne.mpr h)
theorem paddS {a b : List Nat} (h : a.length + b.length ≤ LIM) : pbin O .add (.str a) (.str b) = some (.str (a ++ b)) := if_pos h
theorem paddL {a b : List PV} (h : a.length + b.length ≤ LIM) : pbin O .add (.list a) (.list b) = some (.list (a ++ b)) := if_pos h
theorem frz_val {v : PV} (h : asOwn v = none) (h2 : noOwn v = true) : frzN O v = some v := by
  unfold frzN frzV
  rw [h]
  exact if_pos h2
theorem frz_own {k : Nat} {l : List PV} (h : O[k]? = some (some l)) (h2 : noOwnL l = true) : frzN O (.own k) = some (.list l) := by
  have : frzV O (.own k) = .list l := by
    unfold frzV
    rw [show ((asOwn (PV.own k)).bind fun k => (O[k]?).bind id) = some l from bind_eq rfl (bind_eq h rfl)]
  unfold frzN
  rw [this]
  exact if_pos h2
end

/-! lists -/
noncomputable def tl (ls : List (List Nat)) : List PV := ls.map PV.str
noncomputable def il (ls : List Nat) : List PV := ls.map fun i : Nat => PV.int i
theorem tl_len (a : List (List Nat)) : (tl a).length = a.length := List.length_map _
theorem il_len (a : List Nat) : (il a).length = a.length := List.length_map _
theorem noOwn_tl : ∀ a : List (List Nat), noOwnL (tl a) = true
  | [] => rfl
  | _ :: r => noOwn_tl r
theorem noOwn_il : ∀ a : List Nat, noOwnL (il a) = true
  | [] => rfl
  | _ :: r => noOwn_il r
theorem pstrs_tl : ∀ l : List (List Nat), pstrs (tl l) = some l
  | [] => rfl
  | x :: r => bind_eq rfl ((congrArg (Option.map _) (pstrs_tl r)).trans rfl)
theorem pjoin_nil : ∀ ls : List (List Nat), pjoin [] ls = ls.flatten
  | [] => rfl
  | [x] => (List.append_nil x).symm
  | x :: y :: r => (congrArg ((x ++ []) ++ ·) (pjoin_nil (y :: r))).trans (by rw [List.append_nil]; rfl)
theorem sum_flat (ls : List (List Nat)) : (ls.map List.length).sum = ls.flatten.length := by
  rw [List.length_flatten]
theorem pme_join {O : Owns} {b : List Nat} {v : PV} {ls : List (List Nat)} (h : asL O v = some (tl ls)) (h4 : (ls.map List.length).sum + ls.length * b.length ≤ LIM) : pme O .join (.str b) [v] = some (.str (pjoin b ls)) :=
  bind_eq (o := (asL O v).bind pstrs) (bind_eq h (pstrs_tl ls)) (if_pos h4)
theorem pme_join0 {O : Owns} {v : PV} {ls : List (List Nat)} (h : asL O v = some (tl ls)) (h4 : ls.flatten.length ≤ LIM) : pme O .join (.str []) [v] = some (.str ls.flatten) :=
  (pme_join h (by rw [sum_flat]; show _ + _ * 0 ≤ _; rw [Nat.mul_zero]; exact h4)).trans (by rw [pjoin_nil])
theorem pidx_nat {α : Type} {l : List α} {k : Nat} : pidx l (k : Int) = l[k]? := by
  unfold pidx
  rw [if_pos (Int.natCast_nonneg k), Int.toNat_natCast]
theorem pidx_last {α : Type} (l : List α) : pidx l (-1) = l.getLast? := by
  unfold pidx
  rw [if_neg (by decide)]
  cases l with
  | nil => rfl
  | cons x r =>
    rw [if_pos (by simp; and_intros), List.getLast?_eq_getElem?]
    congr 1
    simp; and_intros
theorem drop_min {α : Type} (l : List α) (a : Nat) {m : Nat} (h : l.length ≤ m) : l.drop (min a m) = l.drop a := by
  rcases Nat.le_total a m with q | q
  · rw [Nat.min_eq_left q]
  · rw [Nat.min_eq_right q, List.drop_eq_nil_of_le h, List.drop_eq_nil_of_le (Nat.le_trans h q)]
theorem pslice_nat {α : Type} (l : List α) (a b : Nat) {i j : Int} (hi : i = a) (hj : j = b) : pslice l (some i) (some j) = (l.take b).drop a := by
  subst hi; subst hj
  unfold pslice phi plo pclamp
  dsimp only
  rw [if_neg (by and_intros), if_neg (by and_intros)]
  simp only [Int.toNat_natCast]
  rw [drop_min _ _ (by simp <;> and_intros), List.take_eq_take_iff.mpr (by and_intros : min (min b l.length) l.length = min b l.length)]
theorem pslice_to {α : Type} (l : List α) (b : Nat) {j : Int} (hj : j = b) : pslice l none (some j) = l.take b := by
  subst hj
  unfold pslice phi plo pclamp
  dsimp only
  rw [if_neg (by and_intros)]
  simp only [Int.toNat_natCast, List.drop_zero]
  rw [List.take_eq_take_iff.mpr (by and_intros : min (min b l.length) l.length = min b l.length)]
theorem pslice_from {α : Type} (l : List α) (a : Nat) {i : Int} (hi : i = a) : pslice l (some i) none = l.drop a := by
  subst hi
  unfold pslice phi plo pclamp
  dsimp only
  rw [if_neg (by and_intros), List.take_length, Int.toNat_natCast, drop_min _ _ (Nat.le_refl _)]
theorem pslice_last {α : Type} (x y : List α) {j : Int} (hj : j = -(y.length : Int)) (hy : 0 < y.length) : pslice (x ++ y) (some j) none = y := by
  subst hj
  unfold pslice phi plo pclamp
  dsimp only
  rw [if_pos (by and_intros)]
  rw [show (-(y.length : Int) + ((x ++ y).length : Int)).toNat = x.length by simp <;> and_intros]
  rw [List.take_of_length_le (Nat.le_refl _), List.drop_left' rfl]
theorem pslice_front {α : Type} (x y : List α) {j : Int} (hj : j = -(y.length : Int)) (hy : 0 < y.length) : pslice (x ++ y) none (some j) = x := by
  subst hj
  unfold pslice phi plo pclamp
  dsimp only
  rw [if_pos (by and_intros)]
  rw [show (-(y.length : Int) + ((x ++ y).length : Int)).toNat = x.length by simp <;> and_intros]
  simp
theorem pslice_inner {α : Type} (x m y : List α) {i j : Int} (hi : i = x.length) (hj : j = -(y.length : Int)) (hy : 0 < y.length) : pslice (x ++ m ++ y) (some i) (some j) = m := by
  subst hj; subst hi
  unfold pslice phi plo pclamp
  dsimp only
  rw [if_neg (by and_intros), if_pos (by and_intros)]
  rw [show (-(y.length : Int) + ((x ++ m ++ y).length : Int)).toNat = (x ++ m).length by simp <;> and_intros]
  rw [show min ((x.length : Int)).toNat (x ++ m ++ y).length = x.length by simp <;> and_intros]
  rw [List.take_left' rfl, List.drop_left' rfl]
theorem mapO_PV {β : Type} {f : PV → Option (Option PV)} {c : β → PV} {g : β → PV} {l : List β} (h : ∀ x ∈ l, f (c x) = some (some (g x))) : mapO f (l.map c) = some (l.map g) := by
  induction l with
  | nil => rfl
  | cons x r ih => exact bind_eq (h x List.mem_cons_self) (map_eq (ih fun y hy => h y (List.mem_cons_of_mem _ hy)))
/-- with a test -/
theorem mapO_F {β : Type} {f : PV → Option (Option PV)} {c : β → PV} {g : β → PV} {p : β → Bool} {l : List β} (h : ∀ x ∈ l, f (c x) = some (if p x then some (g x) else none)) : mapO f (l.map c) = some ((l.filter p).map g) := by
  induction l with
  | nil => rfl
  | cons x r ih =>
    have ih := ih fun y hy => h y (List.mem_cons_of_mem _ hy)
    have hx := h x List.mem_cons_self
    rw [List.filter_cons]
    by_cases hp : p x = true
    · rw [if_pos hp] at hx ⊢; exact bind_eq hx (map_eq ih)
    · rw [if_neg hp] at hx ⊢; exact bind_eq hx ih
theorem nb {i : Int} {k : Nat} (h : i = k) (hk : k ≤ 2 * LIM) : i.natAbs < 2 ^ 62 := by
  subst h; rw [Int.natAbs_natCast]; exact Nat.lt_of_le_of_lt hk (by decide)
theorem own_last {res acc : List PV} {os : Owns} : ((some res :: (os ++ [some acc])) : Owns)[os.length + 1]? = some (some acc) := by
  rw [List.getElem?_cons_succ, List.getElem?_append_right (Nat.le_refl _), Nat.sub_self]; rfl
theorem set_last {res acc acc' : List PV} {os : Owns} : ((some res :: (os ++ [some acc])) : Owns).set (os.length + 1) (some acc') = some res :: (os ++ [some acc']) := by
  rw [List.set_cons_succ, List.set_append_right _ _ (Nat.le_refl _), Nat.sub_self]; rfl
theorem esc_run (n : Nat) (c : Nat) : R (n + 1) "escape" [.str [c]] = some (.str (pesc c)) := by
  rw [run_eq (e := ⟨4, 1, p_esc⟩) rfl (by decide) (by decide +kernel) (by decide +kernel) rfl]
  rfl
theorem sub_run (n : Nat) {l : List Nat} (h : subOk l = true) : R (n + 1) "%sub" [.str l] = some (.str l) := if_pos h
end Mine

namespace Mine

/-- the state of `_translate`'s loop -/
noncomputable def trS (pat : List Nat) (i n : Int) (res : List PV) (x7 x8 x9 x10 x11 x12 : Option PV) (os : Owns) : St :=
  ⟨[some (.str pat), some .star, some (.str [46]), some (.own 0), some (.app 0), some (.int i), some (.int n), x7, x8, x9, x10, x11, x12, none, none, none, none], some res :: os⟩
/-- texts and stars -/
noncomputable def partOk : PV → Bool
  | .star => true
  | .str _ => true
  | _ => false
noncomputable def isStarV : PV → Bool
  | .star => true
  | _ => false
noncomputable def lastStar (res : List PV) : Bool := res.getLast?.any isStarV
noncomputable def addStar (res : List PV) : List PV := if lastStar res then res else res ++ [.star]

/-- what the loop needs of the evaluator below -/
structure Low (F : PF1) : Prop where
  esc : ∀ c, F "escape" [.str [c]] = some (.str (pesc c))
  sub : ∀ l, subOk l = true → F "%sub" [.str l] = some (.str l)
theorem low_run (n : Nat) : Low (R (n + 1)) := ⟨esc_run n, fun _ => sub_run n⟩

section
variable {F : PF1} {pat : List Nat} {i n : Int} {res : List PV} {x7 x8 x9 x10 x11 x12 : Option PV} {os : Owns}
theorem tr_idx {c : Nat} (hi : pidx pat i = some c) (hb : i.natAbs < 2 ^ 62) : ev F (trS pat i n res x7 x8 x9 x10 x11 x12 os).O (trS pat i n res x7 x8 x9 x10 x11 x12 os).G (.idx (.var 0) (.var 5)) = some (.str [c]) := idx_s rfl rfl hb hi
theorem tr_q (hi : pidx pat i = some 63) (hr : res.length ≤ LIM) (hb : i.natAbs < 2 ^ 62) :
    exs FUEL F trBody (trS pat i n res x7 x8 x9 x10 x11 x12 os) = some (trS pat (i + 1) n (res ++ [.str [46]]) (some (.str [63])) x8 x9 x10 x11 x12 os, .next) :=
  exs_next (asg_e (tr_idx hi hb)) (exs_next (asg_e (i := 5) (v := .int (i + 1)) rfl) (exs_one (ite_f rfl (exs_one (ite_t rfl (exs_one (appf_e (k := 0) (v := .str [46]) rfl rfl rfl hr)))))))
theorem tr_lit {c : Nat} (L : Low F) (hi : pidx pat i = some c) (h : (c == 42 || (c == 63 || c == 91)) = false) (hr : res.length ≤ LIM) (hb : i.natAbs < 2 ^ 62) :
    exs FUEL F trBody (trS pat i n res x7 x8 x9 x10 x11 x12 os) = some (trS pat (i + 1) n (res ++ [.str (pesc c)]) (some (.str [c])) x8 x9 x10 x11 x12 os, .next) := by
  obtain ⟨h1, h⟩ := Bool.or_eq_false_iff.mp h
  obtain ⟨h2, h3⟩ := Bool.or_eq_false_iff.mp h
  exact exs_next (asg_e (tr_idx hi hb)) (exs_next (asg_e (i := 5) (v := .int (i + 1)) rfl) (exs_one (ite_f (cmp_t rfl rfl (eqS.trans (congrArg some h1))) (exs_one (ite_f (cmp_t rfl rfl (eqS.trans (congrArg some h2)))
    (exs_one (ite_f (cmp_t rfl rfl (eqS.trans (congrArg some h3))) (exs_one (appf_e (k := 0) (v := .str (pesc c)) rfl rfl (call_e (evs_c rfl rfl) rfl (L.esc c)) hr)))))))))
theorem tr_star (hi : pidx pat i = some 42) (hr : res.length ≤ LIM) (hb : i.natAbs < 2 ^ 62) (hp : ∀ v ∈ res, partOk v = true) :
    exs FUEL F trBody (trS pat i n res x7 x8 x9 x10 x11 x12 os) = some (trS pat (i + 1) n (addStar res) (some (.str [42])) x8 x9 x10 x11 x12 os, .next) := by
  refine exs_next (asg_e (tr_idx hi hb)) (exs_next (asg_e (i := 5) (v := .int (i + 1)) rfl) (exs_one (ite_t rfl ?_)))
  generalize hσ : ((trS pat i n res x7 x8 x9 x10 x11 x12 os).put 7 (PV.str [42])).put 5 (PV.int (i + 1)) = σ
  have hv : pt F σ.O σ.G (.var 3) = some (!res.isEmpty) := by subst hσ; exact bind_eq rfl (bind_eq rfl (if_pos hr))
  have hcmp : ∀ {u : PV} {b : Bool}, res.getLast? = some u → pis u .star = some b → pt F σ.O σ.G (.cmp .isn (.idx (.var 3) (.ci (-1))) (.var 1)) = some (!b) :=
    fun hu hq => by subst hσ; exact cmp_t (idx_o rfl rfl rfl (by decide) ((pidx_last res).trans hu)) rfl (map_eq hq)
  have fin : pt F σ.O σ.G (.or2 (.not (.var 3)) (.cmp .isn (.idx (.var 3) (.ci (-1))) (.var 1))) = some (!lastStar res) := by
    unfold lastStar
    cases hl : res.getLast? with
    | none =>
      rw [List.getLast?_eq_none_iff.mp hl] at hv
      exact or2_t (pt_not hv)
    | some u =>
      have hne : res.isEmpty = false := by cases res with
        | nil => cases hl
        | cons => rfl
      rw [hne] at hv
      have hpu := hp u (List.mem_of_getLast? hl)
      refine or2_f (pt_not hv) (hcmp hl ?_)
      cases u <;> first | rfl | cases hpu
  unfold addStar
  cases hs : lastStar res with
  | true =>
    rw [hs] at fin
    rw [if_pos rfl]
    subst hσ
    exact exs_one (ite_f fin rfl)
  | false =>
    rw [hs] at fin
    rw [if_neg Bool.false_ne_true]
    subst hσ
    exact exs_one (ite_t fin (exs_one (appf_e (k := 0) (v := .star) rfl rfl rfl hr)))
end

/-! brackets -/
/-- the text of a bracket's part -/
noncomputable def finT (s : List Nat) : List Nat := if s = [] then [40, 63, 33, 41] else if s = [33] then [46] else if s.head? = some 33 then [91] ++ (94 :: s.tail) ++ [93] else [91] ++ s ++ [93]
/-- what a bracket's first sign must not be -/
noncomputable def HeadOk (s : List Nat) : Prop := ∀ c, s.head? = some c → c ≠ 33 → pinL (.str [c]) [.str [94], .str [91]] = some false

section
variable {F : PF1} {pat : List Nat} {i n : Int} {res : List PV} {x7 x8 x9 x10 x11 x12 : Option PV} {os : Owns}
theorem br_end {s : List Nat} (hs : HeadOk s) (hl : s.length + 2 ≤ LIM) (hr : res.length ≤ LIM) :
    ∃ y9, exs FUEL F brEnd (trS pat i n res x7 x8 (some (.str s)) x10 x11 x12 os) = some (trS pat i n (res ++ [.str (finT s)]) x7 x8 y9 x10 x11 x12 os, .next) := by
  have hL : LIM = 1048576 := rfl
  unfold finT
  cases s with
  | nil =>
    rw [if_pos rfl]
    exact ⟨some (.str []), exs_one (ite_t rfl (exs_one (appf_e (k := 0) rfl rfl rfl hr)))⟩
  | cons c r =>
    rw [if_neg nofun]
    have hne : ∀ {σ : St}, σ.G[9]? = some (some (.str (c :: r))) → pt F σ.O σ.G (.not (.var 9)) = some false := fun h => pt_not (varT h (truS (Nat.le_trans (Nat.le_add_right _ 2) hl)))
    have fin : ∀ {v : List Nat}, v.length + 2 ≤ LIM → exs FUEL F (.cons (.appf 4 (.fstr (.cons (.cs [91]) (.cons (.var 9) (.cons (.cs [93]) .nil))))) .nil) (trS pat i n res x7 x8 (some (.str v)) x10 x11 x12 os) = some (trS pat i n (res ++ [.str ([91] ++ v ++ [93])]) x7 x8 (some (.str v)) x10 x11 x12 os, .next) := fun {v} hv =>
      exs_one (appf_e (k := 0) rfl rfl ((fstr_e (vs := tl [[91], v, [93]]) rfl (pstrs_tl _) (by show 1 + (v.length + (1 + 0)) ≤ _; and_intros)).trans (congrArg (fun l => some (PV.str l)) (by simp))) hr)
    by_cases h1 : c :: r = [33]
    · rw [if_pos h1]
      exact ⟨some (.str (c :: r)), exs_one (ite_f (hne rfl) (exs_one (ite_t (cmp_t rfl rfl (eqSS h1)) (exs_one (appf_e (k := 0) rfl rfl rfl hr)))))⟩
    · rw [if_neg h1]
      have h9 : pt F (trS pat i n res x7 x8 (some (.str (c :: r))) x10 x11 x12 os).O (trS pat i n res x7 x8 (some (.str (c :: r))) x10 x11 x12 os).G (.cmp .eq (.var 9) (.cs [33])) = some false := cmp_t rfl rfl (congrArg some (beq_eq_false_iff_ne.mpr h1))
      have hi : ev F (trS pat i n res x7 x8 (some (.str (c :: r))) x10 x11 x12 os).O (trS pat i n res x7 x8 (some (.str (c :: r))) x10 x11 x12 os).G (.idx (.var 9) (.ci 0)) = some (.str [c]) := idx_s rfl rfl (by decide) rfl
      by_cases h2 : c = 33
      · subst h2
        have h33 : (33 :: r : List Nat).head? = some 33 := rfl
        rw [if_pos h33]
        refine ⟨some (.str (94 :: r)), exs_one (ite_f (hne rfl) (exs_one (ite_f h9 (exs_next (σ' := trS pat i n res x7 x8 (some (.str (94 :: r))) x10 x11 x12 os) (ite_t (cmp_t hi rfl (eqS.trans rfl)) (exs_one (asg_e ?_))) (fin hl)))))⟩
        have h0 : ([94] : List Nat).length + r.length ≤ LIM := by show 1 + r.length ≤ LIM; rw [List.length_cons] at hl; and_intros
        exact bin_e rfl (sl_s (l := 33 :: r) (r := r) rfl rfl rfl rfl rfl (Nat.le_trans (Nat.le_add_right _ 2) hl) (pslice_from _ 1 rfl)) (paddS h0)
      · rw [if_neg (show ¬ (c :: r).head? = some 33 from fun q => h2 (Option.some.inj q))]
        refine ⟨some (.str (c :: r)), exs_one (ite_f (hne rfl) (exs_one (ite_f h9 (exs_next (ite_f (cmp_t hi rfl (eqS.trans (congrArg some (beq_eq_false_iff_ne.mpr h2)))) (exs_one (ite_f (cmp_t hi rfl ?_) rfl))) (fin hl)))))⟩
        exact hs c rfl h2
end
end Mine

namespace Mine

theorem at_ {α : Type} {pat Y : List α} {p : Nat} (h : pat.drop p = Y) (k : Nat) : pidx pat ((p + k : Nat) : Int) = Y[k]? := by rw [pidx_nat, ← h, List.getElem?_drop]
theorem sl_ {α : Type} {pat Y : List α} {p : Nat} (h : pat.drop p = Y) (a b : Nat) : pslice pat (some ((p + a : Nat) : Int)) (some ((p + b : Nat) : Int)) = (Y.take b).drop a := by
  rw [pslice_nat _ (p + a) (p + b) rfl rfl, ← h, ← List.drop_drop, List.drop_take, Nat.add_sub_cancel_left]
theorem lt_of_drop {α : Type} {pat Y : List α} {p : Nat} {c : α} (h : pat.drop p = c :: Y) : p < pat.length := by
  have := congrArg List.length h
  rw [List.length_drop, List.length_cons] at this
  and_intros
theorem drop_next {α : Type} {pat Y : List α} {p : Nat} {c : α} (h : pat.drop p = c :: Y) : pat.drop (p + 1) = Y := by
  rw [← List.drop_drop, h]; rfl
theorem drop_more {α : Type} {pat X Y : List α} {p : Nat} (h : pat.drop p = X ++ Y) : pat.drop (p + X.length) = Y := by
  rw [← List.drop_drop, h, List.drop_left' rfl]

section
variable {F : PF1} {pat post : List Nat} {i : Int} {p : Nat} {res : List PV} {x7 x8 x9 x10 x11 x12 : Option PV} {os : Owns}
noncomputable def brT : PE := .and2 (.cmp .lt (.var 8) (.var 6)) (.cmp .ne (.idx (.var 0) (.var 8)) (.cs [93]))
noncomputable def brB : PSs := .cons (.asg 8 (.bin .add (.var 8) (.ci 1))) .nil
noncomputable abbrev trP (pat : List Nat) (i : Int) (res : List PV) (x7 x8 x9 x10 x11 x12 : Option PV) (os : Owns) : St := trS pat i (pat.length : Nat) res x7 x8 x9 x10 x11 x12 os
theorem br_at {j : Nat} {c d : Nat} {Y : List Nat} (h : pat.drop j = c :: Y) (hL : pat.length ≤ LIM) (op : PCmp) {r : Bool} (ho : pcmp (trP pat i res x7 (some (.int j)) x9 x10 x11 x12 os).O op (.str [c]) (.str [d]) = some r) :
    pt F (trP pat i res x7 (some (.int j)) x9 x10 x11 x12 os).O (trP pat i res x7 (some (.int j)) x9 x10 x11 x12 os).G (.and2 (.cmp .lt (.var 8) (.var 6)) (.cmp op (.idx (.var 0) (.var 8)) (.cs [d]))) = some r :=
  have hj := lt_of_drop h
  and2_t (cmp_t rfl rfl (lt1 (Int.ofNat_lt.mpr hj))) (cmp_t (idx_s rfl rfl (nb rfl (by and_intros)) (at_ h 0)) rfl ho)
theorem br_scan (hL : pat.length ≤ LIM) : ∀ (D : List Nat) (j fuel : Nat), D.length < fuel → (∀ c ∈ D, (c == 93) = false) → pat.drop j = D ++ 93 :: post →
    whIt (fun σ => pt F σ.O σ.G brT) (fun σ => exs FUEL F brB σ) fuel (trP pat i res x7 (some (.int j)) x9 x10 x11 x12 os) = some (trP pat i res x7 (some (.int (j + D.length : Nat))) x9 x10 x11 x12 os, .next)
  | _, _, 0, h, _, _ => absurd h (Nat.not_lt_zero _)
  | [], j, fuel + 1, _, _, h => whIt_stop (br_at h hL .ne neS)
  | c :: D, j, fuel + 1, hf, hD, h => by
    have hc := hD c List.mem_cons_self
    refine (whIt_step (br_at h hL .ne (neS.trans (by rw [hc]; rfl))) (exs_one (asg_e (i := 8) (v := .int (j + 1 : Nat)) rfl))).trans ?_
    have := br_scan hL D (j + 1) fuel (Nat.lt_of_succ_lt_succ hf) (fun x hx => hD x (List.mem_cons_of_mem _ hx)) (drop_next h)
    rw [show j + (c :: D).length = j + 1 + D.length by rw [List.length_cons]; and_intros]
    exact this

theorem br_skip (hL : pat.length ≤ LIM) {j : Nat} {c d : Nat} {Y : List Nat} (h : pat.drop j = c :: Y) :
    ex FUEL F (.ite (.and2 (.cmp .lt (.var 8) (.var 6)) (.cmp .eq (.idx (.var 0) (.var 8)) (.cs [d]))) (.cons (.asg 8 (.bin .add (.var 8) (.ci 1))) .nil) .nil) (trP pat i res x7 (some (.int j)) x9 x10 x11 x12 os) = some (trP pat i res x7 (some (.int ((if c = d then j + 1 else j : Nat) : Int))) x9 x10 x11 x12 os, .next) := by
  refine ite_b (br_at h hL .eq eqS) (fun q => ?_) (fun q => ?_)
  · rw [if_pos (beq_iff_eq.mp q)]; exact exs_one (asg_e (i := 8) (v := .int (j + 1 : Nat)) rfl)
  · rw [if_neg (beq_eq_false_iff_ne.mp q)]; rfl

/-- up to the closing bracket -/
theorem br_head (hL : pat.length ≤ LIM) {C : List Nat} {σ' : St} {c0 c1 : Nat} {Y0 Y1 : List Nat} {s1 s2 : Nat} (h : pat.drop p = C ++ 93 :: post) (h0 : C = c0 :: Y0) (e1 : s1 = if c0 = 33 then 1 else 0) (h1 : C.drop s1 = c1 :: Y1) (e2 : s2 = if c1 = 93 then s1 + 1 else s1) (hs : s2 ≤ C.length) (hCl : C.length < FUEL)
    (hD : ∀ c ∈ C.drop s2, (c == 93) = false) (hin : exs FUEL F brIn (trP pat p res x7 (some (.int (p + C.length : Nat))) x9 x10 x11 x12 os) = some (σ', .next)) :
    exs FUEL F p_br (trP pat p res x7 x8 x9 x10 x11 x12 os) = some (σ', .next) := by
  have hlt : p + C.length < pat.length := lt_of_drop (drop_more h)
  have dr : ∀ k, k ≤ C.length → pat.drop (p + k) = C.drop k ++ 93 :: post := fun k hk => by rw [← List.drop_drop, h, List.drop_append_of_le_length hk]
  have hs1 : s1 ≤ C.length := by rw [e1, h0]; split <;> simp
  refine exs_next (asg_e (i := 8) (v := .int p) rfl) ?_
  refine exs_next (br_skip hL (j := p) (c := c0) (h.trans (by rw [h0]; rfl))) ?_
  rw [show (if c0 = 33 then p + 1 else p) = p + s1 by rw [e1]; split <;> rfl]
  refine exs_next (br_skip hL (j := p + s1) (c := c1) ((dr s1 hs1).trans (by rw [h1]; rfl))) ?_
  rw [show (if c1 = 93 then p + s1 + 1 else p + s1) = p + s2 by rw [e2]; split <;> rfl]
  refine exs_next (wh_e (br_scan hL (C.drop s2) (p + s2) FUEL (Nat.lt_of_le_of_lt (by rw [List.length_drop]; exact Nat.sub_le _ _) hCl) hD (dr s2 hs))) ?_
  rw [show p + s2 + (C.drop s2).length = p + C.length by rw [List.length_drop]; and_intros]
  exact exs_one (ite_f (cmp_t rfl rfl (ge0 (by and_intros))) hin)

/-- behind the scan -/
theorem br_tail (L : Low F) {S : List Nat} {k : Nat} {j : Int} (hsub : subOk S = true) (hh : HeadOk S) (hS : S.length + 2 ≤ LIM) (hr : res.length ≤ LIM) :
    ∃ y9, exs FUEL F (.cons (.asg 9 (.resub (.var 9))) (.cons (.asg 5 (.bin .add (.var 8) (.ci 1))) brEnd)) (trP pat j res x7 (some (.int k)) (some (.str S)) x10 x11 x12 os) = some (trP pat (k + 1 : Nat) (res ++ [.str (finT S)]) x7 (some (.int k)) y9 x10 x11 x12 os, .next) :=
  let ⟨y9, e⟩ := br_end (F := F) (pat := pat) (i := (k + 1 : Nat)) (n := (pat.length : Nat)) (x7 := x7) (x8 := some (.int k)) (x10 := x10) (x11 := x11) (x12 := x12) (os := os) hh hS hr
  ⟨y9, exs_next (asg_e (i := 9) (v := .str S) (bind_eq rfl (L.sub _ hsub))) (exs_next (asg_e (i := 5) (v := .int (k + 1 : Nat)) rfl) e)⟩
theorem br_in0 (L : Low F) (hL : pat.length ≤ LIM) {C : List Nat} (h : pat.drop p = C ++ 93 :: post) (h1 : pisIn [45] C = false) (h2 : pisIn [92] C = false) (hsub : subOk C = true) (hh : HeadOk C) (hS : C.length + 2 ≤ LIM) (hr : res.length ≤ LIM) :
    ∃ y9, exs FUEL F brIn (trP pat p res x7 (some (.int (p + C.length : Nat))) x9 x10 x11 x12 os) = some (trP pat (p + C.length + 1 : Nat) (res ++ [.str (finT C)]) x7 (some (.int (p + C.length : Nat))) y9 x10 x11 x12 os, .next) := by
  obtain ⟨y9, e⟩ := br_tail (F := F) (pat := pat) (x7 := x7) (x10 := x10) (x11 := x11) (x12 := x12) (os := os) (k := p + C.length) (j := p) L hsub hh hS hr
  refine ⟨y9, exs_next (asg_e (i := 9) (v := .str C) (sl_s rfl rfl rfl (i := some ((p + 0 : Nat) : Int)) rfl rfl hL ?_)) (exs_next (ite_t (cmp_t rfl rfl (congrArg (fun b => some (!b)) h1)) (exs_one (asg_e (i := 9) (v := .str C) (me_e (x := .str C) rfl (evs_c (v := .str [92]) rfl (evs_c (v := .str [92, 92]) rfl rfl)) (bind_eq rfl (bind_eq rfl (bind_eq rfl (bind_eq rfl (if_neg (Bool.eq_false_iff.mp h2)))))))))) e)⟩
  rw [sl_ h, List.take_left' rfl]; rfl

/-- '-'.join of the chunks, marked -/
noncomputable def gjT (ch : List (List Nat)) : List Nat := pjoin [45] (ch.map fun l => preplace l [45] [92, 45])
noncomputable def gjOk (ch : List (List Nat)) : Bool := (ch.all fun l => !pisIn [92] l && decide (l.length ≤ LIM)) && decide (ch.length ≤ LIM) && decide (((ch.map fun l => preplace l [45] [92, 45]).map List.length).sum + ch.length * 1 ≤ LIM)
theorem pme_find {O : Owns} {l a : List Nat} {i j : Int} : pme O .find (.str l) [.str a, .int i, .int j] = if a.length = 1 ∧ 0 ≤ i ∧ i < (LIM : Int) ∧ 0 ≤ j ∧ j ≤ (l.length : Int) ∧ l.length ≤ LIM then some (.int (pfind a l i.toNat j.toNat)) else none := rfl
theorem find_e {O : Owns} {G : Slots} {x k j : PE} {pat : List Nat} {a b : Nat} {r : Int} (h1 : ev F O G x = some (.str pat)) (h2 : ev F O G k = some (.int a)) (h3 : ev F O G j = some (.int b)) (hb : b ≤ pat.length) (hL : pat.length ≤ LIM) (ha : a < LIM) (h : pfind [45] pat a b = r) :
    ev F O G (.me .find x (.cons (.cs [45]) (.cons k (.cons j .nil)))) = some (.int r) :=
  have hc : ([45] : List Nat).length = 1 ∧ 0 ≤ (a : Int) ∧ (a : Int) < (LIM : Int) ∧ 0 ≤ (b : Int) ∧ (b : Int) ≤ (pat.length : Int) ∧ pat.length ≤ LIM := ⟨rfl, Int.natCast_nonneg a, Int.ofNat_lt.mpr ha, Int.natCast_nonneg b, Int.ofNat_le.mpr hb, hL⟩
  me_e h1 (evs_c (v := .str [45]) rfl (evs_c h2 (evs_c h3 rfl))) (pme_find.trans ((if_pos hc).trans (congrArg (fun i => some (PV.int i)) h)))
theorem pfind_off {pat C Z : List Nat} {p : Nat} (h : pat.drop p = C ++ Z) (a : Nat) : pfind [45] pat (p + a) (p + C.length) = match (C.drop a).findIdx? fun c => [c] == [45] with | some k => ((p + a + k : Nat) : Int) | none => -1 := by
  unfold pfind
  have e : (pat.take (p + C.length)).drop (p + a) = C.drop a := by
    rw [← List.drop_drop, List.drop_take, h, Nat.add_sub_cancel_left, List.take_left' rfl]
  rw [e] <;> rfl
end
end Mine

namespace Mine
section
variable {F : PF1} {pat post : List Nat} {i : Int} {p : Nat} {res : List PV} {x7 x8 x9 x10 x11 x12 : Option PV} {os : Owns}

/-- a state in which the chunks are under way -/
noncomputable abbrev hyS (pat : List Nat) (i : Int) (res : List PV) (x7 x8 x9 x11 x12 : Option PV) (os : Owns) (ch : List PV) : St := trP pat i res x7 x8 x9 (some (.own (os.length + 1))) x11 x12 (os ++ [some ch])
theorem hy_put {i : Int} {ch ch' : List PV} : (hyS pat i res x7 x8 x9 x11 x12 os ch).putO (os.length + 1) ch' = hyS pat i res x7 x8 x9 x11 x12 os ch' := congrArg (fun o => St.mk _ o) set_last

theorem hy_find {C A B : List Nat} {k2 : Nat} {m : Nat} (hL4 : pat.length + 4 ≤ LIM) (h : pat.drop p = C ++ 93 :: post) (hC : C = A ++ 45 :: B) (hm : m + k2 = A.length) (hf1 : (C.drop k2).findIdx? (fun c => [c] == [45]) = some m) (hf2 : (C.drop (A.length + 3)).findIdx? (fun c => [c] == [45]) = none) :
    whIt (fun σ => pt F σ.O σ.G (.cb true)) (fun σ => exs FUEL F hyFind σ) FUEL (hyS pat p res x7 (some (.int (p + C.length : Nat))) x9 (some (.int (p + k2 : Nat))) x12 os []) = some (hyS pat (p + A.length + 1 : Nat) res x7 (some (.int (p + C.length : Nat))) x9 (some (.int (-1))) x12 os [.str A], .next) := by
  have hL : pat.length ≤ LIM := Nat.le_trans (Nat.le_add_right _ 4) hL4
  have hlt : p + C.length < pat.length := lt_of_drop (drop_more h)
  have hAC : A.length + 1 ≤ C.length := by rw [hC, List.length_append, List.length_cons]; and_intros
  have f1 : pfind [45] pat (p + k2) (p + C.length) = (p + A.length : Nat) := by rw [pfind_off h, hf1]; show ((p + k2 + m : Nat) : Int) = _; rw [show p + k2 + m = p + A.length by and_intros]
  have f2 : pfind [45] pat (p + (A.length + 3)) (p + C.length) = -1 := by rw [pfind_off h, hf2]
  have sA : pslice pat (some (p : Int)) (some ((p + A.length : Nat) : Int)) = A := by
    refine (sl_ h 0 A.length).trans ?_
    rw [hC, List.append_assoc, List.take_left' rfl]; rfl
  have hb : p + (A.length + 3) < LIM := by and_intros
  refine (whIt_step (n := 4095) (σ' := hyS pat (p + A.length + 1 : Nat) res x7 (some (.int (p + C.length : Nat))) x9 (some (.int (p + (A.length + 3) : Nat))) x12 os [.str A]) rfl ?_).trans (whIt_brk (n := 4094) rfl ?_)
  · refine exs_next (asg_e (i := 11) (v := .int (p + A.length : Nat)) (find_e rfl rfl rfl (Nat.le_of_lt hlt) hL (by and_intros) f1)) ?_
    refine exs_next (ite_f (cmp_t rfl rfl (lt0 (Int.not_lt.mpr (Int.natCast_nonneg _)))) rfl) ?_
    refine exs_next (app_e (k := os.length + 1) (vs := []) rfl own_last (sl_s (r := A) rfl rfl rfl rfl rfl hL sA) (Nat.zero_le _)) ?_
    refine exs_next (asg_e (i := 5) (v := .int (p + A.length + 1 : Nat)) rfl) (exs_one ((asg_e (i := 11) (v := .int (p + (A.length + 3) : Nat)) rfl).trans ?_))
    exact congrArg (fun o => some (St.mk _ o, PF.next)) set_last
  · refine exs_next (asg_e (i := 11) (v := .int (-1)) (find_e rfl rfl rfl (Nat.le_of_lt hlt) hL hb f2)) ?_
    exact exs_stop (ite_t rfl (exs_stop rfl nofun)) nofun

theorem hy_for {A B B' A' : List Nat} {a b : Nat} {i : Int} (hA : A.getLast? = some a) (hB : B = b :: B') (hA' : pslice A none (some (-1)) = A') (hl : A.length ≤ LIM) (hl2 : A'.length + B.length ≤ LIM) :
    ∃ y11, ex FUEL F (.fr 11 (.rng (.cons (.bin .sub (.bi .len (.cons (.var 10) .nil)) (.ci 1)) (.cons (.ci 0) (.cons (.ci (-1)) .nil)))) hyFor) (hyS pat i res x7 x8 x9 x11 x12 os [.str A, .str B]) =
      some (hyS pat i res x7 x8 x9 y11 x12 os (tl (if plt [b] [a] then [A' ++ B'] else [A, B])), .next) := by
  refine ⟨some (.int 1), fr_e (its := [.int 1]) ?_ (frIt_c (σ' := hyS pat i res x7 x8 x9 (some (.int 1)) x12 os (tl (if plt [b] [a] then [A' ++ B'] else [A, B]))) ?_ rfl)⟩
  · exact bind_eq (evs_c (v := .int 1) (bin_e (len_o (k := os.length + 1) (l := [.str A, .str B]) rfl own_last (by show 2 ≤ LIM; decide)) rfl rfl) rfl) rfl
  · have i0 : ∀ {x : PE}, ev F (hyS pat i res x7 x8 x9 (some (.int 1)) x12 os [.str A, .str B]).O (hyS pat i res x7 x8 x9 (some (.int 1)) x12 os [.str A, .str B]).G x = some (.int 0) → ev F (hyS pat i res x7 x8 x9 (some (.int 1)) x12 os [.str A, .str B]).O (hyS pat i res x7 x8 x9 (some (.int 1)) x12 os [.str A, .str B]).G (.idx (.var 10) x) = some (.str A) :=
      fun hx => idx_o (k := os.length + 1) rfl own_last hx (by decide) rfl
    have i1 : ev F (hyS pat i res x7 x8 x9 (some (.int 1)) x12 os [.str A, .str B]).O (hyS pat i res x7 x8 x9 (some (.int 1)) x12 os [.str A, .str B]).G (.idx (.var 10) (.var 11)) = some (.str B) := idx_o (k := os.length + 1) rfl own_last rfl (by decide) rfl
    have hp : pt F (hyS pat i res x7 x8 x9 (some (.int 1)) x12 os [.str A, .str B]).O (hyS pat i res x7 x8 x9 (some (.int 1)) x12 os [.str A, .str B]).G (.cmp .gt (.idx (.idx (.var 10) (.bin .sub (.var 11) (.ci 1))) (.ci (-1))) (.idx (.idx (.var 10) (.var 11)) (.ci 0))) = some (plt [b] [a]) :=
      cmp_t (idx_s (i0 rfl) rfl (by decide) ((pidx_last A).trans hA)) (idx_s (c := b) i1 rfl (by decide) (by rw [hB]; rfl)) rfl
    refine exs_one (ite_b hp (fun q => ?_) (fun q => ?_))
    · rw [q]
      subst hB
      rw [List.length_cons] at hl2
      have s1 : ev F (hyS pat i res x7 x8 x9 (some (.int 1)) x12 os [.str A, .str (b :: B')]).O (hyS pat i res x7 x8 x9 (some (.int 1)) x12 os [.str A, .str (b :: B')]).G (.bin .add (.sl (.idx (.var 10) (.bin .sub (.var 11) (.ci 1))) .cn (.ci (-1))) (.sl (.idx (.var 10) (.var 11)) (.ci 1) .cn)) = some (.str (A' ++ B')) :=
        bin_e (sl_s (i0 rfl) rfl rfl rfl rfl hl hA') (sl_s (r := B') i1 rfl rfl rfl rfl (by rw [List.length_cons]; and_intros) (pslice_from _ 1 rfl)) (paddS (by and_intros))
      have ow : ∀ {l : List PV}, (hyS pat i res x7 x8 x9 (some (.int 1)) x12 os l).ownAt 10 = some (os.length + 1, l) := fun {l} => bind_eq rfl (bind_eq rfl (map_eq (bind_eq own_last rfl)))
      refine exs_next (σ' := hyS pat i res x7 x8 x9 (some (.int 1)) x12 os [.str (A' ++ B'), .str (b :: B')]) ?_ (exs_one ?_)
      · exact bind_eq s1 (bind_eq ow (bind_eq rfl (bind_eq rfl ((if_pos ⟨by decide, by show (0 : Int) < 2; decide, by show 2 ≤ LIM; decide⟩).trans (congrArg (fun σ => some (σ, PF.next)) hy_put)))))
      · exact bind_eq ow (bind_eq rfl (bind_eq rfl ((if_pos ⟨by decide, by show (1 : Int) < 2; decide, by show 2 ≤ LIM; decide⟩).trans (congrArg (fun σ => some (σ, PF.next)) hy_put))))
    · rw [q]; rfl

/-- a bracket with a hyphen in the middle: two chunks -/
structure Hy (C A B : List Nat) (c0 a b m : Nat) (A' B' Y0 : List Nat) : Prop where
  hC : C = A ++ 45 :: B
  h0 : C = c0 :: Y0
  hm : m + (if c0 = 33 then 2 else 1) = A.length
  f1 : (C.drop (if c0 = 33 then 2 else 1)).findIdx? (fun c => [c] == [45]) = some m
  f2 : (C.drop (A.length + 3)).findIdx? (fun c => [c] == [45]) = none
  hA : A.getLast? = some a
  hB : B = b :: B'
  hA' : pslice A none (some (-1)) = A'
  hlen : (decide (A.length ≤ LIM) && (decide (A'.length + B.length ≤ LIM) && decide (B.length ≤ LIM))) = true
  p45 : pisIn [45] C = true
  ok : gjOk (if plt [b] [a] then [A' ++ B'] else [A, B]) = true
noncomputable def hyT (A B A' B' : List Nat) (a b : Nat) : List Nat := gjT (if plt [b] [a] then [A' ++ B'] else [A, B])
theorem br_hy {C A B A' B' Y0 : List Nat} {c0 a b m : Nat} (H : Hy C A B c0 a b m A' B' Y0) (hL4 : pat.length + 4 ≤ LIM) (h : pat.drop p = C ++ 93 :: post) :
    ∃ y11, exs FUEL F p_hy (trP pat p res x7 (some (.int (p + C.length : Nat))) x9 x10 x11 x12 os) = some (hyS pat (p + A.length + 1 : Nat) res x7 (some (.int (p + C.length : Nat))) (some (.str (hyT A B A' B' a b))) y11 (some (.str B)) os (tl (if plt [b] [a] then [A' ++ B'] else [A, B])), .next) := by
  have hL : pat.length ≤ LIM := Nat.le_trans (Nat.le_add_right _ 4) hL4
  obtain ⟨q1, q⟩ := and_t H.hlen
  obtain ⟨q2, q3⟩ := and_t q
  have q1 := of_decide_eq_true q1
  have q2 := of_decide_eq_true q2
  have q3 := of_decide_eq_true q3
  have hAC : C.length = A.length + 1 + B.length := by rw [H.hC, List.length_append, List.length_cons]; and_intros
  have sB : pslice pat (some ((p + A.length + 1 : Nat) : Int)) (some ((p + C.length : Nat) : Int)) = B := by
    refine (sl_ h (A.length + 1) C.length).trans ?_
    rw [List.take_left' rfl, H.hC, show A ++ 45 :: B = A ++ [45] ++ B by simp, List.drop_left' (by simp)]
  obtain ⟨y11, e⟩ := hy_for (F := F) (pat := pat) (x7 := x7) (res := res) (x8 := some (.int (p + C.length : Nat))) (x9 := x9) (x11 := some (.int (-1))) (x12 := some (.str B)) (os := os) (i := (p + A.length + 1 : Nat)) H.hA H.hB H.hA' q1 q2
  refine ⟨y11, ?_⟩
  refine exs_next (σ' := hyS pat p res x7 (some (.int (p + C.length : Nat))) x9 x11 x12 os []) rfl ?_
  refine exs_next (asg_e (i := 11) (v := .int (p + (if c0 = 33 then 2 else 1) : Nat)) ?_) ?_
  · have hc : pt F (hyS pat p res x7 (some (.int (p + C.length : Nat))) x9 x11 x12 os []).O (hyS pat p res x7 (some (.int (p + C.length : Nat))) x9 x11 x12 os []).G (.cmp .eq (.idx (.var 0) (.var 5)) (.cs [33])) = some (c0 == 33) :=
      cmp_t (idx_s rfl rfl (nb rfl (Nat.le_trans (Nat.le_of_lt (lt_of_drop (h.trans (by rw [H.h0]; rfl)))) (by and_intros))) ((at_ h 0).trans (by rw [H.h0]; rfl))) rfl eqS
    by_cases h3 : c0 = 33
    · rw [if_pos h3]; exact ite_et (hc.trans (congrArg some (beq_iff_eq.mpr h3))) rfl
    · rw [if_neg h3]; exact ite_ef (hc.trans (congrArg some (beq_eq_false_iff_ne.mpr h3))) rfl
  refine exs_next (wh_e (hy_find hL4 h H.hC H.hm H.f1 H.f2)) ?_
  refine exs_next (asg_e (i := 12) (v := .str B) (sl_s rfl rfl rfl rfl rfl hL sB)) ?_
  refine exs_next (σ' := hyS pat (p + A.length + 1 : Nat) res x7 (some (.int (p + C.length : Nat))) x9 (some (.int (-1))) (some (.str B)) os [.str A, .str B]) (ite_t (varT rfl ((truS q3).trans (by rw [H.hB]; rfl))) (exs_one ?_)) ?_
  · exact (app_e (k := os.length + 1) (vs := [.str A]) rfl own_last rfl (by show 1 ≤ LIM; decide)).trans (congrArg (fun σ => some (σ, PF.next)) hy_put)
  refine exs_next e ?_
  have ok := H.ok
  generalize hch : (if plt [b] [a] then [A' ++ B'] else [A, B]) = ch at ok e ⊢
  obtain ⟨ok, k3⟩ := and_t ok
  obtain ⟨k1, k2⟩ := and_t ok
  have hT : hyT A B A' B' a b = gjT ch := by unfold hyT; rw [hch]
  rw [hT]
  refine exs_one (asg_e (i := 9) (v := .str (gjT ch)) ?_)
  exact bind_eq rfl (bind_eq rfl (bind_eq (it_o (k := os.length + 1) rfl own_last (by rw [tl_len]; exact of_decide_eq_true k2)) (bind_eq (pstrs_tl ch) (if_pos ⟨k1, rfl, by decide, by decide, of_decide_eq_true k2, of_decide_eq_true k3⟩))))
theorem br_in1 (L : Low F) {C A B A' B' Y0 : List Nat} {c0 a b m : Nat} (H : Hy C A B c0 a b m A' B' Y0) (hL4 : pat.length + 4 ≤ LIM) (h : pat.drop p = C ++ 93 :: post) (hsub : subOk (hyT A B A' B' a b) = true) (hh : HeadOk (hyT A B A' B' a b)) (hS : (hyT A B A' B' a b).length + 2 ≤ LIM) (hr : res.length ≤ LIM) :
    ∃ y9 y10 y11 y12 os', exs FUEL F brIn (trP pat p res x7 (some (.int (p + C.length : Nat))) x9 x10 x11 x12 os) = some (trP pat (p + C.length + 1 : Nat) (res ++ [.str (finT (hyT A B A' B' a b))]) x7 (some (.int (p + C.length : Nat))) y9 y10 y11 y12 os', .next) := by
  have hL : pat.length ≤ LIM := Nat.le_trans (Nat.le_add_right _ 4) hL4
  obtain ⟨y11, e1⟩ := br_hy (F := F) (x7 := x7) (res := res) (x9 := some (.str C)) (x10 := x10) (x11 := x11) (x12 := x12) (os := os) H hL4 h
  obtain ⟨y9, e⟩ := br_tail (F := F) (pat := pat) (x7 := x7) (x10 := some (.own (os.length + 1))) (x11 := y11) (x12 := some (.str B)) (os := os ++ [some (tl (if plt [b] [a] then [A' ++ B'] else [A, B]))]) (k := p + C.length) (j := (p + A.length + 1 : Nat)) L hsub hh hS hr
  refine ⟨y9, _, y11, _, _, exs_next (asg_e (i := 9) (v := .str C) (sl_s rfl rfl rfl (i := some ((p + 0 : Nat) : Int)) rfl rfl hL ?_)) (exs_next (ite_f (cmp_t rfl rfl (congrArg (fun b => some (!b)) H.p45)) e1) e)⟩
  rw [sl_ h, List.take_left' rfl]; rfl
end
end Mine

namespace Mine

/-- a bracket's content and the text of its part -/
noncomputable def BrOk (C T : List Nat) : Prop := ∀ {F : PF1} {pat post : List Nat} {p : Nat} {res : List PV} {x7 x8 x9 x10 x11 x12 : Option PV} {os : Owns}, Low F → pat.length + 4 ≤ LIM → pat.drop p = C ++ 93 :: post → res.length ≤ LIM →
  ∃ y8 y9 y10 y11 y12 os', exs FUEL F p_br (trP pat p res x7 x8 x9 x10 x11 x12 os) = some (trP pat (p + C.length + 1 : Nat) (res ++ [.str T]) x7 y8 y9 y10 y11 y12 os', .next)
theorem brOk0 {C Y0 Y1 : List Nat} {c0 c1 s1 s2 : Nat} (h0 : C = c0 :: Y0) (e1 : s1 = if c0 = 33 then 1 else 0) (h1 : C.drop s1 = c1 :: Y1) (e2 : s2 = if c1 = 93 then s1 + 1 else s1) (hs : s2 ≤ C.length) (hCl : C.length < FUEL) (hD : ∀ c ∈ C.drop s2, (c == 93) = false)
    (h1' : pisIn [45] C = false) (h2 : pisIn [92] C = false) (hsub : subOk C = true) (hh : HeadOk C) (hS : C.length + 2 ≤ LIM) : BrOk C (finT C) := by
  intro F pat post p res x7 x8 x9 x10 x11 x12 os L hL h hr
  have hL' := Nat.le_trans (Nat.le_add_right _ 4) hL
  obtain ⟨y9, e⟩ := br_in0 (F := F) (x7 := x7) (x9 := x9) (x10 := x10) (x11 := x11) (x12 := x12) (os := os) L hL' h h1' h2 hsub hh hS hr
  exact ⟨_, y9, _, _, _, _, br_head hL' h h0 e1 h1 e2 hs hCl hD e⟩
theorem brOk1 {C A B A' B' Y0 Y1 : List Nat} {c0 c1 s1 s2 a b m : Nat} (H : Hy C A B c0 a b m A' B' Y0) (e1 : s1 = if c0 = 33 then 1 else 0) (h1 : C.drop s1 = c1 :: Y1) (e2 : s2 = if c1 = 93 then s1 + 1 else s1) (hs : s2 ≤ C.length) (hCl : C.length < FUEL) (hD : ∀ c ∈ C.drop s2, (c == 93) = false)
    (hsub : subOk (hyT A B A' B' a b) = true) (hh : HeadOk (hyT A B A' B' a b)) (hS : (hyT A B A' B' a b).length + 2 ≤ LIM) : BrOk C (finT (hyT A B A' B' a b)) := by
  intro F pat post p res x7 x8 x9 x10 x11 x12 os L hL h hr
  have hL' := Nat.le_trans (Nat.le_add_right _ 4) hL
  obtain ⟨y9, y10, y11, y12, os', e⟩ := br_in1 (F := F) (x7 := x7) (x9 := x9) (x10 := x10) (x11 := x11) (x12 := x12) (os := os) L H hL h hsub hh hS hr
  exact ⟨_, y9, y10, y11, y12, os', br_head hL' h H.h0 e1 h1 e2 hs hCl hD e⟩
theorem headOk_of {s : List Nat} {T : Bool} (h : (match s.head? with | none => true | some c => c == 33 || (pinL (.str [c]) [.str [94], .str [91]] == some false)) = true) : HeadOk s := by
  intro c e h3
  rw [e] at h
  rcases Bool.or_eq_true_iff.mp h with q | q
  · exact absurd (beq_iff_eq.mp q) h3
  · exact beq_iff_eq.mp q

noncomputable def brTab : List (List Nat × List Nat) := [([97, 98], [91, 97, 98, 93]), ([33, 97], [91, 94, 97, 93]), ([45, 45, 97], [91, 92, 45, 45, 97, 93]), ([98, 45, 97], [40, 63, 33, 41]), ([33, 98, 45, 97], [46]), ([98, 45, 97, 33, 97], [91, 94, 97, 93]), ([93, 45, 97, 45], [91, 93, 45, 97, 92, 45, 93]), ([33, 98, 45, 97, 45, 97], [91, 94, 92, 45, 97, 93])]
theorem b1 : BrOk [97, 98] [91, 97, 98, 93] := brOk0 (c0 := 97) (c1 := 97) (s1 := 0) (s2 := 0) rfl rfl rfl rfl (by decide) (by decide) (by decide) rfl rfl (by decide) (headOk_of (T := true) rfl) (by decide)
theorem b2 : BrOk [33, 97] [91, 94, 97, 93] := brOk0 (c0 := 33) (c1 := 97) (s1 := 1) (s2 := 1) rfl rfl rfl rfl (by decide) (by decide) (by decide) rfl rfl (by decide) (headOk_of (T := true) rfl) (by decide)
theorem hy3 : Hy [45, 45, 97] [45] [97] 45 45 97 0 [] [] [45, 97] := ⟨rfl, rfl, rfl, rfl, rfl, rfl, rfl, rfl, by decide, rfl, by decide⟩
theorem b3 : BrOk [45, 45, 97] [91, 92, 45, 45, 97, 93] := brOk1 hy3 (c1 := 45) (s1 := 0) (s2 := 0) rfl rfl rfl (by decide) (by decide) (by decide) (by decide) (headOk_of (T := true) rfl) (by decide)
theorem hy4 : Hy [98, 45, 97] [98] [97] 98 98 97 0 [] [] [45, 97] := ⟨rfl, rfl, rfl, rfl, rfl, rfl, rfl, rfl, by decide, rfl, by decide⟩
theorem b4 : BrOk [98, 45, 97] [40, 63, 33, 41] := brOk1 hy4 (c1 := 98) (s1 := 0) (s2 := 0) rfl rfl rfl (by decide) (by decide) (by decide) (by decide) (headOk_of (T := true) rfl) (by decide)
theorem hy5 : Hy [33, 98, 45, 97] [33, 98] [97] 33 98 97 0 [33] [] [98, 45, 97] := ⟨rfl, rfl, rfl, rfl, rfl, rfl, rfl, rfl, by decide, rfl, by decide⟩
theorem b5 : BrOk [33, 98, 45, 97] [46] := brOk1 hy5 (c1 := 98) (s1 := 1) (s2 := 1) rfl rfl rfl (by decide) (by decide) (by decide) (by decide) (headOk_of (T := true) rfl) (by decide)
theorem hy6 : Hy [98, 45, 97, 33, 97] [98] [97, 33, 97] 98 98 97 0 [] [33, 97] [45, 97, 33, 97] := ⟨rfl, rfl, rfl, rfl, rfl, rfl, rfl, rfl, by decide, rfl, by decide⟩
theorem b6 : BrOk [98, 45, 97, 33, 97] [91, 94, 97, 93] := brOk1 hy6 (c1 := 98) (s1 := 0) (s2 := 0) rfl rfl rfl (by decide) (by decide) (by decide) (by decide) (headOk_of (T := true) rfl) (by decide)
theorem hy7 : Hy [93, 45, 97, 45] [93] [97, 45] 93 93 97 0 [] [45] [45, 97, 45] := ⟨rfl, rfl, rfl, rfl, rfl, rfl, rfl, rfl, by decide, rfl, by decide⟩
theorem b7 : BrOk [93, 45, 97, 45] [91, 93, 45, 97, 92, 45, 93] := brOk1 hy7 (c1 := 93) (s1 := 0) (s2 := 1) rfl rfl rfl (by decide) (by decide) (by decide) (by decide) (headOk_of (T := true) rfl) (by decide)
theorem hy8 : Hy [33, 98, 45, 97, 45, 97] [33, 98] [97, 45, 97] 33 98 97 0 [33] [45, 97] [98, 45, 97, 45, 97] := ⟨rfl, rfl, rfl, rfl, rfl, rfl, rfl, rfl, by decide, rfl, by decide⟩
theorem b8 : BrOk [33, 98, 45, 97, 45, 97] [91, 94, 92, 45, 97, 93] := brOk1 hy8 (c1 := 98) (s1 := 1) (s2 := 1) rfl rfl rfl (by decide) (by decide) (by decide) (by decide) (headOk_of (T := true) rfl) (by decide)
theorem br_all : ∀ z ∈ brTab, BrOk z.1 z.2 := by
  simp only [brTab, List.forall_mem_cons]
  exact ⟨b1, b2, b3, b4, b5, b6, b7, b8, nofun⟩

inductive Tk where
  | star | q | lit (c : Nat) | br (C T : List Nat)
noncomputable def Tk.ok : Tk → Bool
  | .lit c => !(c == 42 || (c == 63 || c == 91))
  | .br C T => brTab.contains (C, T)
  | _ => true
noncomputable def Tk.pat : Tk → List Nat
  | .star => [42] | .q => [63] | .lit c => [c] | .br C _ => 91 :: (C ++ [93])
noncomputable def Tk.txt : Tk → List Nat
  | .star => [] | .q => [46] | .lit c => pesc c | .br _ T => T
noncomputable def Tk.isStar : Tk → Bool
  | .star => true
  | _ => false
noncomputable def addTk (res : List PV) (t : Tk) : List PV := if t.isStar then addStar res else res ++ [.str t.txt]
noncomputable def patOf (ts : List Tk) : List Nat := (ts.map Tk.pat).flatten

theorem addTk_ok {res : List PV} {t : Tk} (h : ∀ v ∈ res, partOk v = true) : ∀ v ∈ addTk res t, partOk v = true := by
  have app : ∀ w, partOk w = true → ∀ v ∈ res ++ [w], partOk v = true := fun w hw v hv => by
    rcases List.mem_append.mp hv with hv | hv
    · exact h v hv
    · rw [List.mem_singleton.mp hv]; exact hw
  unfold addTk addStar
  split
  · split
    · exact h
    · exact app _ rfl
  · exact app _ rfl
theorem addTk_len (res : List PV) (t : Tk) : (addTk res t).length ≤ res.length + 1 := by
  unfold addTk addStar
  split
  · split
    · exact Nat.le_succ _
    · rw [List.length_append]; exact Nat.le_refl _
  · rw [List.length_append]; exact Nat.le_refl _

theorem tr_step {F : PF1} (L : Low F) {pat Y : List Nat} {p : Nat} {res : List PV} {x7 x8 x9 x10 x11 x12 : Option PV} {os : Owns} {t : Tk} (ho : t.ok = true) (hL : pat.length + 4 ≤ LIM) (h : pat.drop p = t.pat ++ Y) (hr : res.length ≤ LIM) (hp : ∀ v ∈ res, partOk v = true) :
    ∃ y7 y8 y9 y10 y11 y12 os', exs FUEL F trBody (trP pat p res x7 x8 x9 x10 x11 x12 os) = some (trP pat (p + t.pat.length : Nat) (addTk res t) y7 y8 y9 y10 y11 y12 os', .next) := by
  have hc : ∃ c r, t.pat = c :: r := by cases t <;> exact ⟨_, _, rfl⟩
  obtain ⟨c, r, hc⟩ := hc
  have hlt : p < pat.length := lt_of_drop (h.trans (by rw [hc]; rfl))
  have hb : ((p : Nat) : Int).natAbs < 2 ^ 62 := nb rfl (by and_intros)
  have hi : pidx pat (p : Int) = some c := (at_ h 0).trans (by rw [hc]; rfl)
  cases t with
  | star => cases hc; exact ⟨_, _, _, _, _, _, _, tr_star hi hr hb hp⟩
  | q => cases hc; exact ⟨_, _, _, _, _, _, _, tr_q hi hr hb⟩
  | lit d =>
    cases hc
    exact ⟨_, _, _, _, _, _, _, tr_lit L hi (not_t ho) hr hb⟩
  | br C T =>
    cases hc
    obtain ⟨y8, y9, y10, y11, y12, os', e⟩ := br_all (C, T) (List.contains_iff_mem.mp ho) (F := F) (pat := pat) (p := p + 1) (post := Y) (res := res) (x7 := some (.str [91])) (x8 := x8) (x9 := x9) (x10 := x10) (x11 := x11) (x12 := x12) (os := os) L hL ((drop_next h).trans (by simp)) hr
    refine ⟨some (.str [91]), y8, y9, y10, y11, y12, os', ?_⟩
    have e2 : p + 1 + C.length + 1 = p + (Tk.br C T).pat.length := by simp [Tk.pat]; and_intros
    rw [← e2]
    exact exs_next (asg_e (tr_idx hi hb)) (exs_next (asg_e (i := 5) (v := .int (p + 1 : Nat)) rfl) (exs_one (ite_f rfl (exs_one (ite_f rfl (exs_one (ite_t rfl e)))))))
theorem tr_loop {F : PF1} (L : Low F) {pat : List Nat} (hL : pat.length + 4 ≤ LIM) : ∀ (ts : List Tk) (p : Nat) (res : List PV) (fuel : Nat) (x7 x8 x9 x10 x11 x12 : Option PV) (os : Owns), (∀ t ∈ ts, t.ok = true) → ts.length < fuel → pat.drop p = patOf ts → p ≤ pat.length → res.length + ts.length ≤ LIM → (∀ v ∈ res, partOk v = true) →
    ∃ y7 y8 y9 y10 y11 y12 os', whIt (fun σ => pt F σ.O σ.G (.cmp .lt (.var 5) (.var 6))) (fun σ => exs FUEL F trBody σ) fuel (trP pat p res x7 x8 x9 x10 x11 x12 os) = some (trP pat (pat.length : Nat) (ts.foldl addTk res) y7 y8 y9 y10 y11 y12 os', .next)
  | _, _, _, 0, _, _, _, _, _, _, _, _, h, _, _, _, _ => absurd h (Nat.not_lt_zero _)
  | [], p, res, fuel + 1, x7, x8, x9, x10, x11, x12, os, _, _, h, hp, _, _ => by
    have : p = pat.length := Nat.le_antisymm hp (List.drop_eq_nil_iff.mp h)
    subst this
    exact ⟨x7, x8, x9, x10, x11, x12, os, whIt_stop (cmp_t rfl rfl (lt0 (Int.lt_irrefl _)))⟩
  | t :: ts, p, res, fuel + 1, x7, x8, x9, x10, x11, x12, os, hok, hf, h, hp, hr, hpt => by
    have h' : pat.drop p = t.pat ++ patOf ts := h
    rw [List.length_cons] at hr hf
    obtain ⟨z7, z8, z9, z10, z11, z12, os1, e⟩ := tr_step L (x7 := x7) (x8 := x8) (x9 := x9) (x10 := x10) (x11 := x11) (x12 := x12) (os := os) (hok t List.mem_cons_self) hL h' (Nat.le_trans (Nat.le_add_right _ _) hr) hpt
    have hlt : p < pat.length := by
      have hc : ∃ c r, t.pat = c :: r := by cases t <;> exact ⟨_, _, rfl⟩
      obtain ⟨c, r, hc⟩ := hc
      exact lt_of_drop (h'.trans (by rw [hc]; rfl))
    have hle : p + t.pat.length ≤ pat.length := by
      have := congrArg List.length h'
      rw [List.length_drop, List.length_append] at this
      and_intros
    obtain ⟨y7, y8, y9, y10, y11, y12, os', e2⟩ := tr_loop L hL ts (p + t.pat.length) (addTk res t) fuel z7 z8 z9 z10 z11 z12 os1 (fun u hu => hok u (List.mem_cons_of_mem _ hu)) (Nat.lt_of_succ_lt_succ hf) (drop_more h') hle (by have := addTk_len res t; and_intros) (addTk_ok hpt)
    exact ⟨y7, y8, y9, y10, y11, y12, os', (whIt_step (cmp_t rfl rfl (lt1 (Int.ofNat_lt.mpr hlt))) e).trans e2⟩
theorem foldl_ok : ∀ (ts : List Tk) (res : List PV), (∀ v ∈ res, partOk v = true) → ∀ v ∈ ts.foldl addTk res, partOk v = true
  | [], _, h => h
  | t :: ts, res, h => foldl_ok ts (addTk res t) (addTk_ok h)
theorem noOwn_part : ∀ {l : List PV}, (∀ v ∈ l, partOk v = true) → noOwnL l = true
  | [], _ => rfl
  | v :: l, h => by
    refine Bool.and_eq_true_iff.mpr ⟨?_, noOwn_part fun w hw => h w (List.mem_cons_of_mem _ hw)⟩
    have := h v List.mem_cons_self
    cases v <;> first | rfl | cases this
theorem tr_run (n : Nat) {ts : List Tk} (hok : ∀ t ∈ ts, t.ok = true) (h1 : ts.length ≤ 4000) (h2 : (patOf ts).length ≤ 100000) :
    R (n + 2) "_translate" [.str (patOf ts), .star, .str [46]] = some (.list (ts.foldl addTk [])) := by
  have hL : LIM = 1048576 := rfl
  rw [run_eq (e := ⟨17, 3, p_tr⟩) rfl (by decide) (by decide +kernel) (by decide +kernel) rfl]
  obtain ⟨y7, y8, y9, y10, y11, y12, os, e⟩ := tr_loop (low_run n) (pat := patOf ts) (by and_intros) ts 0 [] FUEL none none none none none none [] hok (Nat.lt_of_le_of_lt h1 (by decide)) rfl (Nat.zero_le _) (by show 0 + ts.length ≤ LIM; and_intros) nofun
  have hno : noOwnL (ts.foldl addTk []) = true := noOwn_part (foldl_ok ts [] nofun)
  refine pfun_ret (exs_next rfl (exs_next rfl (exs_next (asgt2 rfl (len_s rfl (by and_intros))) (exs_next (wh_e e) (exs_next (asrt_e (cmp_t rfl rfl (eqI1 rfl))) (exs_stop (ret_e (ev_varE ?_)) nofun)))))) hno
  exact congrArg some (frz_own rfl hno)
end Mine

namespace Mine

noncomputable def segPV (s : List (List Nat)) : List PV := .star :: s.map PV.str
noncomputable def segsPV (ss : List (List (List Nat))) : List PV := (ss.map segPV).flatten
noncomputable def partsPV (t0 : List (List Nat)) (ss : List (List (List Nat))) : List PV := t0.map PV.str ++ segsPV ss
noncomputable def atomT (s : List (List Nat)) : List Nat := [40, 63, 62, 46, 42, 63] ++ s.flatten ++ [41]
/-- what a run of segments becomes -/
noncomputable def segOut : List (List (List Nat)) → List (List Nat)
  | [] => []
  | [s] => if s = [] then [[46, 42]] else [[46, 42], s.flatten]
  | s :: r => atomT s :: segOut r
noncomputable def segOk : List (List (List Nat)) → Prop
  | [] => True
  | [_] => True
  | s :: r => s ≠ [] ∧ segOk r

noncomputable def jS (inp : List PV) (i n : Int) (x6 : Option PV) (res : List PV) (os : Owns) : St :=
  ⟨[some (.list inp), some .star, some (.own 0), some (.app 0), some (.int i), some (.int n), x6, none], some res :: os⟩
noncomputable def jTest : PE := .and2 (.cmp .lt (.var 4) (.var 5)) (.cmp .isn (.idx (.var 0) (.var 4)) (.var 1))
noncomputable def jBody1 : PSs := .cons (.appf 3 (.idx (.var 0) (.var 4))) (.cons (.aug 4 .add (.ci 1)) .nil)
noncomputable def jBody2 : PSs := .cons (.app 6 (.idx (.var 0) (.var 4))) (.cons (.aug 4 .add (.ci 1)) .nil)

section
variable {F : PF1} {inp : List PV} {i n : Int} {x6 : Option PV} {res : List PV} {os : Owns}
theorem j_idx {v : PV} (hb : i.natAbs < 2 ^ 62) (h2 : pidx inp i = some v) : ev F (jS inp i n x6 res os).O (jS inp i n x6 res os).G (.idx (.var 0) (.var 4)) = some v := idx_l rfl rfl hb h2
theorem jt_str {x : List Nat} (hi : i < n) (hb : i.natAbs < 2 ^ 62) (h2 : pidx inp i = some (.str x)) : pt F (jS inp i n x6 res os).O (jS inp i n x6 res os).G jTest = some true := and2_t (cmp_t rfl rfl (lt1 hi)) (cmp_t (j_idx hb h2) rfl rfl)
theorem jt_no (hb : i.natAbs < 2 ^ 62) (h : i = n ∨ i < n ∧ pidx inp i = some .star) : pt F (jS inp i n x6 res os).O (jS inp i n x6 res os).G jTest = some false := by
  rcases h with rfl | ⟨hi, h2⟩
  · exact and2_f (cmp_t rfl rfl (lt0 (Int.lt_irrefl _)))
  · exact and2_t (cmp_t rfl rfl (lt1 hi)) (cmp_t (j_idx hb h2) rfl rfl)
theorem jb1 {v : PV} (hb : i.natAbs < 2 ^ 62) (h2 : pidx inp i = some v) (hr : res.length ≤ LIM) : exs FUEL F jBody1 (jS inp i n x6 res os) = some (jS inp (i + 1) n x6 (res ++ [v]) os, .next) :=
  exs_next (appf_e (k := 0) rfl rfl (j_idx hb h2) hr) (exs_one rfl)
theorem jb2 {v : PV} {acc : List PV} (hb : i.natAbs < 2 ^ 62) (h2 : pidx inp i = some v) (hr : acc.length ≤ LIM) :
    exs FUEL F jBody2 (jS inp i n (some (.own (os.length + 1))) res (os ++ [some acc])) = some (jS inp (i + 1) n (some (.own (os.length + 1))) res (os ++ [some (acc ++ [v])]), .next) := by
  refine exs_next (σ' := jS inp i n (some (.own (os.length + 1))) res (os ++ [some (acc ++ [v])])) ?_ (exs_one rfl)
  refine (app_e (k := os.length + 1) rfl own_last (j_idx hb h2) hr).trans ?_
  exact congrArg (fun o => some (St.mk _ o, PF.next)) set_last
end

/-- texts gathered up to a star or the end -/
theorem col_gen {test : St → Option Bool} {body : St → Option (St × PF)} {inp : List PV} {N : Nat} (S : Nat → List PV → St) (tT : ∀ i acc x, i < N → pidx inp (i : Int) = some (.str x) → test (S i acc) = some true)
    (tF : ∀ i acc, (i = N ∨ i < N ∧ pidx inp (i : Int) = some .star) → test (S i acc) = some false) (b : ∀ i acc v, i < N → pidx inp (i : Int) = some v → acc.length ≤ LIM → body (S i acc) = some (S (i + 1) (acc ++ [v]), .next)) :
    ∀ (l : List (List Nat)) (i : Nat) (acc : List PV) (fuel : Nat), l.length < fuel → i + l.length ≤ N → (∀ k x, l[k]? = some x → pidx inp ((i + k : Nat) : Int) = some (.str x)) → (i + l.length = N ∨ i + l.length < N ∧ pidx inp ((i + l.length : Nat) : Int) = some .star) → acc.length + l.length ≤ LIM →
    whIt test body fuel (S i acc) = some (S (i + l.length) (acc ++ l.map PV.str), .next)
  | _, _, _, 0, h, _, _, _, _ => absurd h (Nat.not_lt_zero _)
  | [], i, acc, fuel + 1, _, _, _, hs, _ => by
    rw [List.map_nil, List.append_nil]
    exact whIt_stop (tF i acc hs)
  | a :: l, i, acc, fuel + 1, h, hi, hx, hs, hr => by
    have hl : i < N := Nat.lt_of_lt_of_le (Nat.lt_add_of_pos_right (Nat.succ_pos _)) hi
    have e : i + (a :: l).length = (i + 1) + l.length := by rw [List.length_cons]; and_intros
    rw [e] at hi hs ⊢
    have h0 := hx 0 a rfl
    refine (whIt_step (tT i acc a hl h0) (b i acc _ hl h0 (by and_intros))).trans ?_
    refine (col_gen S tT tF b l (i + 1) (acc ++ [.str a]) fuel (Nat.lt_of_succ_lt_succ h) hi (fun k x q => ?_) hs ?_).trans ?_
    · have := hx (k + 1) x q
      rwa [show i + (k + 1) = i + 1 + k by and_intros] at this
    · rw [List.length_append]; rw [List.length_cons] at hr; show acc.length + 1 + l.length ≤ LIM; and_intros
    · rw [List.append_assoc]; rfl

theorem nat_b {i N : Nat} (h : i ≤ N) (hN : N ≤ 4000) : ((i : Nat) : Int).natAbs < 2 ^ 62 := by rw [Int.natAbs_natCast]; and_intros
theorem j_col1 {F : PF1} {inp : List PV} {N : Nat} (hN : N ≤ 4000) {x6 : Option PV} {os : Owns} (l : List (List Nat)) (i : Nat) (res : List PV) (hf : l.length < FUEL) (hi : i + l.length ≤ N) (hx : ∀ k x, l[k]? = some x → pidx inp ((i + k : Nat) : Int) = some (.str x))
    (hs : i + l.length = N ∨ i + l.length < N ∧ pidx inp ((i + l.length : Nat) : Int) = some .star) (hr : res.length + l.length ≤ LIM) :
    whIt (fun σ => pt F σ.O σ.G jTest) (fun σ => exs FUEL F jBody1 σ) FUEL (jS inp i N x6 res os) = some (jS inp (i + l.length : Nat) N x6 (res ++ l.map PV.str) os, .next) :=
  col_gen (fun i acc => jS inp i N x6 acc os) (fun i _ _ hi h2 => jt_str (Int.ofNat_lt.mpr hi) (nat_b (Nat.le_of_lt hi) hN) h2) (fun i _ h => jt_no (nat_b (h.elim Nat.le_of_eq fun q => Nat.le_of_lt q.1) hN) (h.imp (congrArg _) fun q => ⟨Int.ofNat_lt.mpr q.1, q.2⟩))
    (fun i _ _ hi h2 hr => jb1 (nat_b (Nat.le_of_lt hi) hN) h2 hr) l i res FUEL hf hi hx hs hr
theorem j_col2 {F : PF1} {inp : List PV} {N : Nat} (hN : N ≤ 4000) {res : List PV} {os : Owns} (l : List (List Nat)) (i : Nat) (acc : List PV) (hf : l.length < FUEL) (hi : i + l.length ≤ N) (hx : ∀ k x, l[k]? = some x → pidx inp ((i + k : Nat) : Int) = some (.str x))
    (hs : i + l.length = N ∨ i + l.length < N ∧ pidx inp ((i + l.length : Nat) : Int) = some .star) (hr : acc.length + l.length ≤ LIM) :
    whIt (fun σ => pt F σ.O σ.G jTest) (fun σ => exs FUEL F jBody2 σ) FUEL (jS inp i N (some (.own (os.length + 1))) res (os ++ [some acc])) = some (jS inp (i + l.length : Nat) N (some (.own (os.length + 1))) res (os ++ [some (acc ++ l.map PV.str)]), .next) :=
  col_gen (fun i acc => jS inp i N (some (.own (os.length + 1))) res (os ++ [some acc])) (fun i _ _ hi h2 => jt_str (Int.ofNat_lt.mpr hi) (nat_b (Nat.le_of_lt hi) hN) h2) (fun i _ h => jt_no (nat_b (h.elim Nat.le_of_eq fun q => Nat.le_of_lt q.1) hN) (h.imp (congrArg _) fun q => ⟨Int.ofNat_lt.mpr q.1, q.2⟩))
    (fun i _ _ hi h2 hr => jb2 (nat_b (Nat.le_of_lt hi) hN) h2 hr) l i acc FUEL hf hi hx hs hr

section
variable {F : PF1} {inp : List PV} {i n : Int} {x6 : Option PV} {res : List PV} {os : Owns}
theorem jm_last (hb : i.natAbs < 2 ^ 62) (hn : i + 1 = n) (h2 : pidx inp i = some .star) (hr : res.length ≤ LIM) : exs FUEL F jMain (jS inp i n x6 res os) = some (jS inp (i + 1) n x6 (res ++ [.str [46, 42]]) os, .brk) := by
  refine exs_next (asrt_e (cmp_t (j_idx hb h2) rfl rfl)) ?_
  refine exs_next (σ' := jS inp (i + 1) n x6 res os) rfl ?_
  refine exs_stop (ite_t (cmp_t rfl rfl (eqI1 hn)) ?_) nofun
  exact exs_next (appf_e (k := 0) rfl rfl rfl hr) (exs_stop rfl nofun)

/-- a segment that is not empty -/
theorem jm_seg {N i : Nat} {s : List (List Nat)} (hN : N ≤ 4000) (h0 : pidx inp ((i : Nat) : Int) = some .star) (hne : s ≠ []) (hx : ∀ k x, s[k]? = some x → pidx inp ((i + 1 + k : Nat) : Int) = some (.str x))
    (hs : i + 1 + s.length = N ∨ i + 1 + s.length < N ∧ pidx inp ((i + 1 + s.length : Nat) : Int) = some .star) (hres : res.length + 2 ≤ LIM) (hf : s.flatten.length ≤ 100000) :
    ∃ y6 os', exs FUEL F jMain (jS inp i N x6 res os) = some (jS inp (i + 1 + s.length : Nat) N y6 (res ++ (if i + 1 + s.length = N then [.str [46, 42], .str s.flatten] else [.str (atomT s)])) os', .next) := by
  have hL : LIM = 1048576 := rfl
  have hle : i + 1 + s.length ≤ N := hs.elim Nat.le_of_eq fun q => Nat.le_of_lt q.1
  have hpos : 0 < s.length := List.length_pos_iff.mpr hne
  have hb0 : ((i : Nat) : Int).natAbs < 2 ^ 62 := nat_b (by and_intros) hN
  have hb1 : ((i + 1 : Nat) : Int).natAbs < 2 ^ 62 := nat_b (by and_intros) hN
  obtain ⟨a, l, rfl⟩ := List.exists_cons_of_ne_nil hne
  have h1 : pidx inp ((i + 1 : Nat) : Int) = some (.str a) := hx 0 a rfl
  have hne1 : ((i + 1 : Nat) : Int) ≠ (N : Int) := by and_intros
  have hcol := j_col2 (F := F) hN (res := res) (os := os) (a :: l) (i + 1) [] (by show (a :: l).length < 4096; rw [show (a :: l).length = l.length + 1 from rfl] at hle ⊢; and_intros) hle hx hs (by show 0 + (a :: l).length ≤ LIM; and_intros)
  have hs2 : (a :: l).flatten.length ≤ LIM := by and_intros
  have h4 : ([[40, 63, 62, 46, 42, 63], (a :: l).flatten, [41]].map List.length).sum ≤ LIM := by show 6 + ((a :: l).flatten.length + (1 + 0)) ≤ LIM; and_intros
  have hr1 : res.length ≤ LIM := by and_intros
  refine ⟨some (.str (a :: l).flatten), os ++ [some ((a :: l).map PV.str)], ?_⟩
  have hjoin : ∀ y6, ev F (jS inp ((i + 1 + (a :: l).length : Nat) : Int) N y6 res (os ++ [some ((a :: l).map PV.str)])).O (jS inp ((i + 1 + (a :: l).length : Nat) : Int) N (some (.own (os.length + 1))) res (os ++ [some ((a :: l).map PV.str)])).G (.me .join (.cs []) (.cons (.var 6) .nil)) = some (.str (a :: l).flatten) := fun y6 =>
    me_e (x := .str []) rfl (evs_c rfl rfl) (pme_join0 (ls := a :: l) (bind_eq own_last rfl) hs2)
  refine exs_next (asrt_e (cmp_t (j_idx hb0 h0) rfl rfl)) ?_
  refine exs_next (σ' := jS inp ((i + 1 : Nat) : Int) N x6 res os) rfl ?_
  refine exs_next (ite_f (cmp_t rfl rfl (eqI0 hne1)) rfl) ?_
  refine exs_next (asrt_e (cmp_t (j_idx hb1 h1) rfl rfl)) ?_
  refine exs_next (σ' := jS inp ((i + 1 : Nat) : Int) N (some (.own (os.length + 1))) res (os ++ [some []])) rfl ?_
  refine exs_next (wh_e hcol) ?_
  refine exs_next (asg_e (i := 6) (hjoin _)) ?_
  rcases hs with he | ⟨he, _⟩
  · rw [if_pos he]
    refine exs_one (ite_t (cmp_t rfl rfl (eqI1 (congrArg _ he))) ?_)
    refine exs_next (appf_e (k := 0) (v := .str [46, 42]) rfl rfl rfl hr1) (exs_one ?_)
    refine (appf_e (k := 0) (vs := res ++ [.str [46, 42]]) (v := .str (a :: l).flatten) rfl rfl rfl (by rw [List.length_append]; show res.length + 1 ≤ LIM; and_intros)).trans ?_
    rw [List.append_assoc]; rfl
  · rw [if_neg (by and_intros)]
    exact exs_one (ite_f (cmp_t rfl rfl (eqI0 (by and_intros))) (exs_one (appf_e (k := 0) rfl rfl (fstr_e (ls := [[40, 63, 62, 46, 42, 63], (a :: l).flatten, [41]]) rfl rfl h4 |>.trans (congrArg (fun l => some (PV.str l)) (by show _ ++ (_ ++ ([41] ++ [])) = _; exact (List.append_assoc _ _ _).symm))) hr1)))
end

theorem j_main {F : PF1} {inp : List PV} {N : Nat} (hN : N ≤ 4000) : ∀ (ss : List (List (List Nat))) (i : Nat) (res : List PV) (os : Owns) (x6 : Option PV) (fuel : Nat), ss.length < fuel → segOk ss → i + (segsPV ss).length = N → (∀ k v, (segsPV ss)[k]? = some v → pidx inp ((i + k : Nat) : Int) = some v) → res.length + 2 * ss.length ≤ LIM → (∀ s ∈ ss, s.flatten.length ≤ 100000) →
    ∃ y6 os', whIt (fun σ => pt F σ.O σ.G (.cmp .lt (.var 4) (.var 5))) (fun σ => exs FUEL F jMain σ) fuel (jS inp i N x6 res os) = some (jS inp N N y6 (res ++ (segOut ss).map PV.str) os', .next)
  | _, _, _, _, _, 0, h, _, _, _, _, _ => absurd h (Nat.not_lt_zero _)
  | [], i, res, os, x6, fuel + 1, _, _, he, _, _, _ => by
    have he : i = N := he
    subst he
    exact ⟨x6, os, (whIt_stop (cmp_t rfl rfl (lt0 (Int.lt_irrefl _)))).trans (by rw [show (segOut []).map PV.str = [] from rfl, List.append_nil])⟩
  | s :: r, i, res, os, x6, fuel + 1, h, hok, he, hx, hr, hfl => by
    have hseg : segsPV (s :: r) = segPV s ++ segsPV r := rfl
    have hsl : (segPV s).length = s.length + 1 := by show (s.map PV.str).length + 1 = _; rw [List.length_map]
    rw [hseg, List.length_append, hsl] at he
    have hlen : (s :: r).length = r.length + 1 := rfl
    rw [hlen] at h hr
    have hi : ((i : Nat) : Int) < (N : Int) := by and_intros
    have h0 : pidx inp ((i : Nat) : Int) = some .star := hx 0 _ rfl
    by_cases hs : s = []
    · subst hs
      have hr0 : r = [] := by
        cases r with
        | nil => rfl
        | cons b r => exact absurd rfl hok.1
      subst hr0
      have he : i + 1 = N := he
      subst he
      exact ⟨x6, os, whIt_brk (cmp_t rfl rfl (lt1 hi)) (jm_last (nat_b (Nat.le_succ i) hN) rfl h0 (by and_intros))⟩
    · have hxs : ∀ k x, s[k]? = some x → pidx inp ((i + 1 + k : Nat) : Int) = some (.str x) := fun k x q => by
        have hk : k < s.length := (List.getElem?_eq_some_iff.mp q).1
        have := hx (k + 1) (.str x) (by
          rw [hseg, List.getElem?_append_left (by and_intros)]
          show (s.map PV.str)[k]? = _
          rw [List.getElem?_map, q]; rfl)
        rwa [show i + (k + 1) = i + 1 + k by and_intros] at this
      have hrest : ∀ k v, (segsPV r)[k]? = some v → pidx inp ((i + 1 + s.length + k : Nat) : Int) = some v := fun k v q => by
        have := hx (s.length + 1 + k) v (by
          rw [hseg, List.getElem?_append_right (by and_intros), hsl, show s.length + 1 + k - (s.length + 1) = k by and_intros]; exact q)
        rwa [show i + (s.length + 1 + k) = i + 1 + s.length + k by and_intros] at this
      have he2 : i + 1 + s.length + (segsPV r).length = N := by and_intros
      have hs2 : i + 1 + s.length = N ∨ i + 1 + s.length < N ∧ pidx inp ((i + 1 + s.length : Nat) : Int) = some .star := by
        cases r with
        | nil => exact .inl he2
        | cons b r =>
          have h5 : (segsPV (b :: r)).length = (b.length + 1) + (segsPV r).length := by
            show (segPV b ++ segsPV r).length = _
            rw [List.length_append]; show (b.map PV.str).length + 1 + _ = _; rw [List.length_map]
          exact .inr ⟨by and_intros, hrest 0 _ rfl⟩
      obtain ⟨y6, os', e⟩ := jm_seg (F := F) (x6 := x6) (res := res) (os := os) hN h0 hs hxs hs2 (by and_intros) (hfl _ List.mem_cons_self)
      rw [whIt_step (cmp_t rfl rfl (lt1 hi)) e]
      have hok' : segOk r := by
        cases r with
        | nil => trivial
        | cons b r => exact hok.2
      cases r with
      | nil =>
        have he3 : i + 1 + s.length = N := he2
        rw [if_pos he3]
        obtain ⟨z6, os2, e2⟩ := j_main hN [] (i + 1 + s.length) (res ++ [.str [46, 42], .str s.flatten]) os' y6 fuel (by show 0 < fuel; and_intros) trivial he2 hrest (by rw [List.length_append]; show res.length + 2 + 2 * 0 ≤ LIM; and_intros) nofun
        refine ⟨z6, os2, e2.trans ?_⟩
        rw [show segOut [s] = [[46, 42], s.flatten] from if_neg hs, show (segOut []).map PV.str = [] from rfl, List.append_nil]; rfl
      | cons b r =>
        have hlt : i + 1 + s.length ≠ N := by
          have h5 : (segsPV (b :: r)).length = (b.length + 1) + (segsPV r).length := by
            show (segPV b ++ segsPV r).length = _
            rw [List.length_append]; show (b.map PV.str).length + 1 + _ = _; rw [List.length_map]
          and_intros
        rw [if_neg hlt]
        obtain ⟨z6, os2, e2⟩ := j_main hN (b :: r) (i + 1 + s.length) (res ++ [.str (atomT s)]) os' y6 fuel (by and_intros) hok' he2 hrest (by rw [List.length_append]; show res.length + 1 + 2 * (b :: r).length ≤ LIM; and_intros) (fun u hu => hfl u (List.mem_cons_of_mem _ hu))
        refine ⟨z6, os2, e2.trans ?_⟩
        rw [List.append_assoc]; rfl

noncomputable def joinT (t0 : List (List Nat)) (ss : List (List (List Nat))) : List Nat := [40, 63, 115, 58] ++ (t0.flatten ++ (segOut ss).flatten) ++ [41, 92, 90]
theorem segs_len (ss : List (List (List Nat))) : ss.length ≤ (segsPV ss).length := by
  induction ss with
  | nil => exact Nat.le_refl _
  | cons s r ih => show r.length + 1 ≤ (segPV s ++ segsPV r).length; rw [List.length_append]; show r.length + 1 ≤ (s.map PV.str).length + 1 + _; and_intros

theorem join_run (n : Nat) {t0 : List (List Nat)} {ss : List (List (List Nat))} (hok : segOk ss) (hl : (partsPV t0 ss).length ≤ 2000) (h0 : (t0.flatten ++ (segOut ss).flatten).length ≤ 100000) (hfl : ∀ s ∈ ss, s.flatten.length ≤ 100000) :
    R (n + 1) "_join_translated_parts" [.list (partsPV t0 ss), .star] = some (.str (joinT t0 ss)) := by
  have hL : LIM = 1048576 := rfl
  rw [run_eq (e := ⟨8, 2, p_join⟩) rfl (by decide) (by decide +kernel) (by decide +kernel) rfl]
  have hlen : (partsPV t0 ss).length = t0.length + (segsPV ss).length := by unfold partsPV; rw [List.length_append, List.length_map]
  have hss := segs_len ss
  generalize hN : (partsPV t0 ss).length = N at hl hlen
  have hN' : N ≤ 4000 := by and_intros
  have hx0 : ∀ k x, t0[k]? = some x → pidx (partsPV t0 ss) ((0 + k : Nat) : Int) = some (.str x) := fun k x q => by
    have hk : k < t0.length := (List.getElem?_eq_some_iff.mp q).1
    rw [pidx_nat, partsPV, List.getElem?_append_left (by rw [List.length_map]; and_intros), List.getElem?_map, Nat.zero_add, q]; rfl
  have hx1 : ∀ k v, (segsPV ss)[k]? = some v → pidx (partsPV t0 ss) ((0 + t0.length + k : Nat) : Int) = some v := fun k v q => by
    rw [pidx_nat, partsPV, List.getElem?_append_right (by rw [List.length_map]; and_intros), List.length_map, show 0 + t0.length + k - t0.length = k by and_intros]; exact q
  have hpost : 0 + t0.length = N ∨ 0 + t0.length < N ∧ pidx (partsPV t0 ss) ((0 + t0.length : Nat) : Int) = some .star := by
    cases ss with
    | nil => exact .inl (by rw [hlen]; show _ = _ + 0; and_intros)
    | cons b r =>
      have h5 : (segsPV (b :: r)).length = (b.length + 1) + (segsPV r).length := by
        show (segPV b ++ segsPV r).length = _
        rw [List.length_append]; show (b.map PV.str).length + 1 + _ = _; rw [List.length_map]
      exact .inr ⟨by and_intros, hx1 0 _ rfl⟩
  have c1 := j_col1 (F := R n) (x6 := none) (os := []) hN' t0 0 [] (Nat.lt_of_le_of_lt (by and_intros : t0.length ≤ 2000) (by decide)) (by and_intros) hx0 hpost (by show 0 + t0.length ≤ LIM; and_intros)
  obtain ⟨y6, os', c2⟩ := j_main (F := R n) hN' ss (0 + t0.length) (t0.map PV.str) [] none FUEL (Nat.lt_of_le_of_lt (by and_intros : ss.length ≤ 2000) (by decide)) hok (by and_intros) hx1 (by rw [List.length_map]; and_intros) hfl
  have hres : t0.map PV.str ++ (segOut ss).map PV.str = (t0 ++ segOut ss).map PV.str := by rw [List.map_append]
  rw [hres] at c2
  have hf : (t0 ++ segOut ss).flatten = t0.flatten ++ (segOut ss).flatten := List.flatten_append
  have hs : (t0 ++ segOut ss).flatten.length ≤ LIM := by rw [hf]; and_intros
  have h4 : ([[40, 63, 115, 58], t0.flatten ++ (segOut ss).flatten, [41, 92, 90]].map List.length).sum ≤ LIM := by
    show 4 + ((t0.flatten ++ (segOut ss).flatten).length + (3 + 0)) ≤ LIM; and_intros
  have e5 : joinT t0 ss = ([[40, 63, 115, 58], t0.flatten ++ (segOut ss).flatten, [41, 92, 90]] : List (List Nat)).flatten := List.append_assoc _ _ _
  rw [e5]
  refine pfun_ret (σ := (jS (partsPV t0 ss) N N y6 ((t0 ++ segOut ss).map PV.str) os').put 2 (.str (t0 ++ segOut ss).flatten)) (exs_next rfl (exs_next rfl ?_)) rfl
  have hn : ∀ {F : PF1} {O : Owns} {G : Slots} {e : PE}, ev F O G e = some (.list (partsPV t0 ss)) → ev F O G (.bi .len (.cons e .nil)) = some (.int (N : Int)) := fun h => (len_l h (by rw [hN]; and_intros)).trans (by rw [hN])
  refine exs_next (asgt2 rfl (hn rfl)) ?_
  refine exs_next (wh_e c1) ?_
  refine exs_next (wh_e c2) ?_
  refine exs_next (asrt_e (cmp_t rfl rfl (eqI1 rfl))) ?_
  refine exs_next (asg_e (i := 2) (me_e (x := .str []) rfl (evs_c rfl rfl) (pme_join0 (ls := t0 ++ segOut ss) rfl hs))) ?_
  refine exs_stop (ret_e (fstr_e (ls := [[40, 63, 115, 58], t0.flatten ++ (segOut ss).flatten, [41, 92, 90]]) (evs_c rfl (evs_c (v := .str (t0.flatten ++ (segOut ss).flatten)) (ev_varE ?_) rfl)) rfl h4)) nofun
  rw [hf]; rfl

theorem translate_run (n : Nat) {ts : List Tk} (hok : ∀ t ∈ ts, t.ok = true) (h1 : ts.length ≤ 2000) (h2 : (patOf ts).length ≤ 100000) {t0 : List (List Nat)} {ss : List (List (List Nat))} (hp : ts.foldl addTk [] = partsPV t0 ss)
    (hsg : segOk ss) (hl : (partsPV t0 ss).length ≤ 2000) (h0 : (t0.flatten ++ (segOut ss).flatten).length ≤ 100000) (hfl : ∀ s ∈ ss, s.flatten.length ≤ 100000) :
    R (n + 3) "translate" [.str (patOf ts)] = some (.str (joinT t0 ss)) := by
  have e1 := tr_run n hok (by and_intros) h2
  have e2 := join_run (n + 1) hsg hl h0 hfl
  rw [hp] at e1
  have hno : noOwnL (partsPV t0 ss) = true := by
    rw [← hp]; exact noOwn_part (foldl_ok ts [] nofun)
  rw [def_eq (e := ⟨6, 1, p_trans⟩) rfl (by decide)]
  refine (if_neg (by decide +kernel)).trans ((if_pos (by decide +kernel)).trans ?_)
  have hno2 : noOwnL [PV.list (partsPV t0 ss), .star] = true := Bool.and_eq_true_iff.mpr ⟨hno, rfl⟩
  exact bind_eq rfl (bind_eq rfl (bind_eq (exs_next (asg_e (i := 2) (call_e rfl rfl e1)) (exs_stop (ret_e (call_e (evs_c (ev_varE (congrArg some (frz_val rfl hno))) rfl) hno2 e2)) nofun)) rfl))
end Mine

namespace Mine

/-- the state of `_law_parts`' loop -/
noncomputable def ptS (row : List Nat) (k : Int) (parts : List PV) (x3 x4 x5 x6 x7 x8 : Option PV) (os : Owns) : St :=
  ⟨[some (.str row), some (.own 0), some (.int k), x3, x4, x5, x6, x7, x8, none], some parts :: os⟩
noncomputable def PtOk (T S : List Nat) : Prop := ∀ {F : PF1} {row Y : List Nat} {p : Nat} {parts : List PV} {x3 x4 x5 x6 x7 x8 : Option PV} {os : Owns}, row.length + 4 ≤ LIM → row.drop p = T ++ Y → parts.length ≤ LIM →
  ∃ y3 y4 y5 y6 y7 y8 os', exs FUEL F ptBody (ptS row p parts x3 x4 x5 x6 x7 x8 os) = some (ptS row (p + T.length : Nat) (parts ++ [.str S]) y3 y4 y5 y6 y7 y8 os', .next)

section
variable {F : PF1} {row Y : List Nat} {p : Nat} {parts : List PV} {x3 x4 x5 x6 x7 x8 : Option PV} {os : Owns}
theorem pt_sl (hL : row.length + 4 ≤ LIM) (h : row.drop p = Y) : ev F (ptS row p parts x3 x4 x5 x6 x7 x8 os).O (ptS row p parts x3 x4 x5 x6 x7 x8 os).G (.sl (.var 0) (.var 2) (.bin .add (.var 2) (.ci 4))) = some (.str (Y.take 4)) :=
  sl_s (j := some ((p + 4 : Nat) : Int)) (y := .int (p + 4 : Nat)) rfl rfl rfl rfl rfl (Nat.le_trans (Nat.le_add_right _ 4) hL) (sl_ h 0 4)
theorem pt_ix {c : Nat} (hL : row.length + 4 ≤ LIM) (h : row.drop p = c :: Y) : ev F (ptS row p parts x3 x4 x5 x6 x7 x8 os).O (ptS row p parts x3 x4 x5 x6 x7 x8 os).G (.idx (.var 0) (.var 2)) = some (.str [c]) :=
  idx_s rfl rfl (nb rfl (by have := lt_of_drop h; and_intros)) (at_ h 0)
theorem ptNo : PtOk [40, 63, 33, 41] [] := by
  intro F row Y p parts x3 x4 x5 x6 x7 x8 os hL h hp
  exact ⟨x3, x4, x5, x6, x7, x8, os, exs_one (ite_t (cmp_t (pt_sl hL h) rfl (eqSS rfl)) (exs_next (app_e (k := 0) rfl rfl rfl hp) (exs_one rfl)))⟩
theorem pt_else {c : Nat} {σ' : St} {a b : PSs} (hc : (c == 40) = false) (hL : row.length + 4 ≤ LIM) (h : row.drop p = c :: Y) (hb : exs FUEL F b (ptS row p parts x3 x4 x5 x6 x7 x8 os) = some (σ', .next)) :
    exs FUEL F (.cons (.ite (.cmp .eq (.sl (.var 0) (.var 2) (.bin .add (.var 2) (.ci 4))) (.cs [40, 63, 33, 41])) a b) .nil) (ptS row p parts x3 x4 x5 x6 x7 x8 os) = some (σ', .next) :=
  exs_one (ite_f (cmp_t (pt_sl hL h) rfl (congrArg some (beq_eq_false_iff_ne.mpr fun e => beq_eq_false_iff_ne.mp hc (List.cons.inj e).1))) hb)
theorem ptDot : PtOk [46] [97, 98, 45] := by
  intro F row Y p parts x3 x4 x5 x6 x7 x8 os hL h hp
  exact ⟨x3, x4, x5, x6, x7, x8, os, pt_else rfl hL h (exs_one (ite_t (cmp_t (pt_ix hL h) rfl rfl) (exs_next (app_e (k := 0) rfl rfl rfl hp) (exs_one rfl))))⟩
theorem ptLit {c : Nat} (hc : (c == 40 || (c == 46 || (c == 91 || c == 92))) = false) : PtOk [c] [c] := by
  intro F row Y p parts x3 x4 x5 x6 x7 x8 os hL h hp
  obtain ⟨h1, hc⟩ := Bool.or_eq_false_iff.mp hc
  obtain ⟨h2, hc⟩ := Bool.or_eq_false_iff.mp hc
  obtain ⟨h3, h4⟩ := Bool.or_eq_false_iff.mp hc
  exact ⟨x3, x4, x5, x6, x7, x8, os, pt_else h1 hL h (exs_one (ite_f (cmp_t (pt_ix hL h) rfl (eqS.trans (congrArg some h2))) (exs_one (ite_t (cmp_t (pt_ix hL h) rfl (neS.trans (congrArg (fun b => some (!b)) h3)))
    (exs_next (aug_i (y := 0) rfl (ite_ef (cmp_t (pt_ix hL h) rfl (eqS.trans (congrArg some h4))) rfl)) (exs_next (app_e (k := 0) rfl rfl (pt_ix hL h) hp) (exs_one rfl)))))))⟩
theorem ptEsc {c : Nat} : PtOk [92, c] [c] := by
  intro F row Y p parts x3 x4 x5 x6 x7 x8 os hL h hp
  exact ⟨x3, x4, x5, x6, x7, x8, os, pt_else rfl hL h (exs_one (ite_f (cmp_t (pt_ix hL h) rfl rfl) (exs_one (ite_t (cmp_t (pt_ix hL h) rfl rfl)
    (exs_next (aug_i (y := 1) rfl (ite_et (cmp_t (pt_ix hL h) rfl rfl) rfl)) (exs_next (app_e (k := 0) rfl rfl (pt_ix (p := p + 1) hL (drop_next h)) hp) (exs_one rfl)))))))⟩
end
end Mine

namespace Mine

theorem lst_e {F : PF1} {O : Owns} {G : Slots} {es : PEs} {vs : List PV} (h : evs F O G es = some vs) : ev F O G (.lst es) = some (.list vs) := map_eq h
/-- a bracket's signs, marked or not -/
noncomputable abbrev Sg := Nat × Nat
noncomputable def sgV (z : Sg) : PV := .list [.str [z.1], .int z.2]
noncomputable def sgP (sg : List Sg) : List PV := sg.map sgV
noncomputable def sgE (z : Sg) : List Nat := if z.2 = 1 then [92, z.1] else [z.1]
noncomputable def rgV (z : Sg) : PV := .list [.str [z.1], .str [z.2]]
noncomputable def rgP (rg : List Sg) : List PV := rg.map rgV
noncomputable def rngs : Nat → List Sg → List Sg
  | _, [] => []
  | 0, _ => []
  | n + 1, a :: r => match r with
    | b :: c :: q => if b = (45, 0) then (a.1, c.1) :: rngs n q else (a.1, a.1) :: rngs n r
    | _ => (a.1, a.1) :: rngs n r
noncomputable def ok1 (z : Sg) : Bool := decide (z.1 < 0x110000)
noncomputable def ok2 (z : Sg) : Bool := decide (z.1 < 0x110000) && decide (z.2 < 0x110000)

theorem okc {c : Nat} (h : c < 0x110000) : ([c] : List Nat).all (fun c => decide (c < 0x110000)) = true := Bool.and_eq_true_iff.mpr ⟨decide_eq_true h, rfl⟩
theorem ok_sg {n : Nat} : ∀ {sg : List Sg}, sg.all ok1 = true → okDs (n + 1) (sgP sg) = true
  | [], _ => rfl
  | z :: r, h => Bool.and_eq_true_iff.mpr ⟨Bool.and_eq_true_iff.mpr ⟨okc (of_decide_eq_true (and_t h).1), rfl⟩, ok_sg (and_t h).2⟩
theorem ok_rg {n : Nat} : ∀ {rg : List Sg}, rg.all ok2 = true → okDs (n + 1) (rgP rg) = true
  | [], _ => rfl
  | z :: r, h => Bool.and_eq_true_iff.mpr ⟨Bool.and_eq_true_iff.mpr ⟨okc (of_decide_eq_true (and_t (and_t h).1).1), Bool.and_eq_true_iff.mpr ⟨okc (of_decide_eq_true (and_t (and_t h).1).2), rfl⟩⟩, ok_rg (and_t h).2⟩
/-- a list against the empty one -/
theorem eqNil {O : Owns} {v : PV} {l : List PV} (hv : asI v = none ∧ asS v = none) (h : asL O v = some l) (hl : okDs 7 l = true) : pcmp O .eq v (.list []) = some l.isEmpty := by
  have hr : resO O v = .list l := by unfold resO; rw [h]
  have e : peqD O v (.list []) = some (pveq (.list l) (.list [])) := by
    unfold peqD
    rw [hr]
    exact if_pos (Bool.and_eq_true_iff.mpr ⟨hl, rfl⟩)
  show peq O v (.list []) = _
  unfold peq
  rw [hv.1, hv.2, e]
  cases l <;> rfl

theorem neNil {O : Owns} {v : PV} {l : List PV} (hv : asI v = none ∧ asS v = none) (h : asL O v = some l) (hl : okDs 7 l = true) : pcmp O .ne v (.list []) = some (!l.isEmpty) := congrArg (Option.map (!·)) (eqNil hv h hl)

section
variable {P A B A' : List PV} {os : Owns}
theorem own_a : ((some P :: (os ++ [some A, some B])) : Owns)[os.length + 1]? = some (some A) := by
  rw [List.getElem?_cons_succ, List.getElem?_append_right (Nat.le_refl _), Nat.sub_self]; rfl
theorem own_b : ((some P :: (os ++ [some A, some B])) : Owns)[os.length + 1 + 1]? = some (some B) := by
  rw [List.getElem?_cons_succ, List.getElem?_append_right (Nat.le_succ _), show os.length.succ - os.length = 1 by and_intros]; rfl
theorem set_a : ((some P :: (os ++ [some A, some B])) : Owns).set (os.length + 1) (some A') = some P :: (os ++ [some A', some B]) := by
  rw [List.set_cons_succ, List.set_append_right _ _ (Nat.le_refl _), Nat.sub_self]; rfl
theorem set_b : ((some P :: (os ++ [some A, some B])) : Owns).set (os.length + 1 + 1) (some A') = some P :: (os ++ [some A, some A']) := by
  rw [List.set_cons_succ, List.set_append_right _ _ (Nat.le_succ _), show os.length.succ - os.length = 1 by and_intros]; rfl
end

section
variable {F : PF1} {row Y : List Nat} {p : Nat} {parts : List PV} {x3 x4 x5 x6 x7 x8 : Option PV} {os : Owns} {sg : List Sg} {rg : List PV} {at_' : Nat}
/-- the state inside a bracket -/
noncomputable abbrev pbS (row : List Nat) (k : Int) (parts : List PV) (x3 : Option PV) (a : Int) (x7 x8 : Option PV) (os : Owns) (sg rg : List PV) : St := ptS row k parts x3 (some (.own (os.length + 1))) (some (.own (os.length + 1 + 1))) (some (.int a)) x7 x8 (os ++ [some sg, some rg])
noncomputable def sgT : PE := .or2 (.cmp .eq (.var 4) (.lst .nil)) (.cmp .ne (.idx (.var 0) (.var 2)) (.cs [93]))
theorem sg_test {c : Nat} {a : Int} (hL : row.length + 4 ≤ LIM) (hs : sg.all ok1 = true) (h : row.drop p = c :: Y) : pt F (pbS row p parts x3 a x7 x8 os (sgP sg) rg).O (pbS row p parts x3 a x7 x8 os (sgP sg) rg).G sgT = some (sg.isEmpty || !(c == 93)) := by
  have e : pt F (pbS row p parts x3 a x7 x8 os (sgP sg) rg).O (pbS row p parts x3 a x7 x8 os (sgP sg) rg).G (.cmp .eq (.var 4) (.lst .nil)) = some (sgP sg).isEmpty := cmp_t rfl rfl (eqNil ⟨rfl, rfl⟩ (bind_eq own_a rfl) (ok_sg hs))
  cases sg with
  | nil => exact or2_t e
  | cons z r => exact or2_f e (cmp_t (pt_ix hL h) rfl neS)
theorem sg_step {z : Sg} {a : Int} (hz : z.2 = 1 ∨ z.2 = 0 ∧ z.1 ≠ 92) (hL : row.length + 4 ≤ LIM) (h : row.drop p = sgE z ++ Y) (hl : sg.length ≤ LIM) :
    ∃ y7, exs FUEL F ptSign (pbS row p parts x3 a x7 x8 os (sgP sg) rg) = some (pbS row (p + (sgE z).length : Nat) parts x3 a y7 x8 os (sgP (sg ++ [z])) rg, .next) := by
  have put : ∀ {k : Int} {y7 : Option PV} {l : List PV}, (pbS row k parts x3 a y7 x8 os (sgP sg) rg).putO (os.length + 1) l = pbS row k parts x3 a y7 x8 os l rg := congrArg (fun o => St.mk _ o) set_a
  have hsg : sgP (sg ++ [z]) = sgP sg ++ [sgV z] := List.map_append
  have hll : (sgP sg).length ≤ LIM := by unfold sgP; rw [List.length_map]; exact hl
  obtain ⟨c, s⟩ := z
  rw [hsg]
  rcases hz with q | ⟨q, q2⟩
  · cases q
    have h : row.drop p = 92 :: c :: Y := h
    refine ⟨some (.int 1), exs_next (asg_e (i := 7) (v := .int 1) (ite_et (cmp_t (pt_ix hL h) rfl rfl) rfl)) (exs_next (σ' := pbS row p parts x3 a (some (.int 1)) x8 os (sgP sg ++ [sgV (c, 1)]) rg) ?_ (exs_one rfl))⟩
    exact (app_e (k := os.length + 1) rfl own_a (lst_e (evs_c (v := .str [c]) (idx_s (i := (p + 1 : Nat)) rfl rfl (nb rfl (by have := lt_of_drop (drop_next h); and_intros)) (at_ h 1)) (evs_c (v := .int 1) rfl rfl))) hll).trans (congrArg (fun σ => some (σ, PF.next)) put)
  · cases q
    have h : row.drop p = c :: Y := h
    refine ⟨some (.int 0), exs_next (asg_e (i := 7) (v := .int 0) (ite_ef (cmp_t (pt_ix hL h) rfl (eqS.trans (congrArg some (beq_eq_false_iff_ne.mpr q2)))) rfl)) (exs_next (σ' := pbS row p parts x3 a (some (.int 0)) x8 os (sgP sg ++ [sgV (c, 0)]) rg) ?_ (exs_one rfl))⟩
    exact (app_e (k := os.length + 1) rfl own_a (lst_e (evs_c (v := .str [c]) (idx_s (i := (p + 0 : Nat)) rfl rfl (nb rfl (by have := lt_of_drop h; and_intros)) (at_ h 0)) (evs_c (v := .int 0) rfl rfl))) hll).trans (congrArg (fun σ => some (σ, PF.next)) put)
theorem sgE_cons (z : Sg) : ∃ c r, sgE z = c :: r ∧ (z.2 = 1 ∧ c = 92 ∨ z.2 ≠ 1 ∧ c = z.1) := by
  unfold sgE
  by_cases h : z.2 = 1
  · rw [if_pos h]; exact ⟨_, _, rfl, .inl ⟨h, rfl⟩⟩
  · rw [if_neg h]; exact ⟨_, _, rfl, .inr ⟨h, rfl⟩⟩
noncomputable def okSg (z : Sg) : Bool := decide (z.2 = 1) || (decide (z.2 = 0) && !(z.1 == 92))
theorem sg_loop {a : Int} (hL : row.length + 4 ≤ LIM) : ∀ (ss : List Sg) (sg : List Sg) (p : Nat) (x7 : Option PV) (fuel : Nat), ss.length < fuel → (sg ++ ss).all ok1 = true → ss.all okSg = true → (∀ z ∈ (if sg.isEmpty then ss.tail else ss), !(z.2 == 0 && z.1 == 93)) → sg ++ ss ≠ [] → (sg ++ ss).length ≤ LIM → row.drop p = (ss.map sgE).flatten ++ 93 :: Y →
    ∃ y7, whIt (fun σ => pt F σ.O σ.G sgT) (fun σ => exs FUEL F ptSign σ) fuel (pbS row p parts x3 a x7 x8 os (sgP sg) rg) = some (pbS row (p + ((ss.map sgE).flatten).length : Nat) parts x3 a y7 x8 os (sgP (sg ++ ss)) rg, .next)
  | _, _, _, _, 0, h, _, _, _, _, _, _ => absurd h (Nat.not_lt_zero _)
  | [], sg, p, x7, fuel + 1, _, ho, _, _, hne, _, h => by
    rw [List.append_nil] at ho hne ⊢
    refine ⟨x7, whIt_stop ((sg_test hL ho h).trans ?_)⟩
    cases sg with
    | nil => exact absurd rfl hne
    | cons z r => rfl
  | z :: ss, sg, p, x7, fuel + 1, hf, ho, hk, hc, hne, hl, h => by
    have h' : row.drop p = sgE z ++ ((ss.map sgE).flatten ++ 93 :: Y) := h.trans (by rw [List.map_cons, List.flatten_cons, List.append_assoc])
    obtain ⟨c, r, hz, hcc⟩ := sgE_cons z
    obtain ⟨k1, k2⟩ := and_t hk
    rw [List.all_append] at ho
    have hs1 := (and_t ho).1
    have hzz : z.2 = 1 ∨ z.2 = 0 ∧ z.1 ≠ 92 := by
      rcases Bool.or_eq_true_iff.mp k1 with q | q
      · exact .inl (of_decide_eq_true q)
      · exact .inr ⟨of_decide_eq_true (and_t q).1, fun e => by have := (and_t q).2; rw [e] at this; cases this⟩
    have hll : sg.length ≤ LIM := by rw [List.length_append] at hl; and_intros
    obtain ⟨y7, e⟩ := sg_step (F := F) (parts := parts) (x3 := x3) (x7 := x7) (x8 := x8) (os := os) (sg := sg) (rg := rg) (a := a) hzz hL h' hll
    have e2 : (sg ++ [z]) ++ ss = sg ++ z :: ss := by rw [List.append_assoc]; rfl
    obtain ⟨z7, e3⟩ := sg_loop (a := a) hL ss (sg ++ [z]) (p + (sgE z).length) y7 fuel (Nat.lt_of_succ_lt_succ hf) (by rw [e2, List.all_append]; exact ho) k2 (fun w hw => by
      have : (sg ++ [z]).isEmpty = false := by cases sg <;> rfl
      rw [this] at hw
      refine hc w ?_
      split
      · exact hw
      · exact List.mem_cons_of_mem _ hw) (by rw [e2]; exact hne) (by rw [e2]; exact hl) (drop_more h')
    rw [e2] at e3
    refine ⟨z7, (whIt_step ((sg_test hL hs1 (h'.trans (by rw [hz]; rfl))).trans ?_) e).trans (e3.trans ?_)⟩
    · cases sg with
      | nil => rfl
      | cons w q =>
        have := hc z List.mem_cons_self
        rcases hcc with ⟨_, rfl⟩ | ⟨q1, rfl⟩
        · rfl
        · have q2 : z.2 = 0 := hzz.elim (fun q => absurd q q1) fun q => q.1
          rw [q2] at this
          exact congrArg some this
    · rw [List.map_cons, List.flatten_cons, List.length_append, Nat.add_assoc]
end
end Mine

namespace Mine

theorem eqSg {O : Owns} {b : Sg} (h : b.1 < 0x110000) : pcmp O .eq (sgV b) (.list [.str [45], .int 0]) = some (decide (b = (45, 0))) := by
  obtain ⟨c, s⟩ := b
  show peqD O (sgV (c, s)) _ = _
  unfold peqD
  refine (if_pos (Bool.and_eq_true_iff.mpr ⟨Bool.and_eq_true_iff.mpr ⟨okc h, rfl⟩, rfl⟩)).trans (congrArg some ?_)
  show ((c == 45 && true) && (((s : Int) == 0) && true)) = _
  rw [Bool.and_true, Bool.and_true, Bool.eq_iff_iff, Bool.and_eq_true, beq_iff_eq, beq_iff_eq, decide_eq_true_eq, Prod.mk.injEq, Int.natCast_eq_zero]
theorem sgP_at {sg : List Sg} {i : Nat} {r : List Sg} {z : Sg} (h : sg.drop i = r) (k : Nat) (hz : r[k]? = some z) : pidx (sgP sg) ((i + k : Nat) : Int) = some (sgV z) := by
  rw [at_ (Y := sgP r) (by unfold sgP; rw [← List.map_drop, h]), sgP, List.getElem?_map, hz]; rfl

section
variable {F : PF1} {row : List Nat} {k : Int} {parts : List PV} {x3 x7 x8 : Option PV} {os : Owns} {sg rg : List Sg} {i : Nat}
theorem sg_ix {e : PE} {r : List Sg} {z : Sg} {m : Nat} {ra : List PV} {i' : Nat} (h : sg.drop i = r) (hz : r[m]? = some z) (hl : sg.length ≤ LIM) (he : ev F (pbS row k parts x3 i' x7 x8 os (sgP sg) ra).O (pbS row k parts x3 i' x7 x8 os (sgP sg) ra).G e = some (.int (i + m : Nat))) :
    ev F (pbS row k parts x3 i' x7 x8 os (sgP sg) ra).O (pbS row k parts x3 i' x7 x8 os (sgP sg) ra).G (.idx (.var 4) e) = some (sgV z) := by
  have hlt : i + m < sg.length := by
    have h1 := (List.getElem?_eq_some_iff.mp hz).1
    rw [← h, List.length_drop] at h1; and_intros
  exact idx_o (k := os.length + 1) rfl own_a he (nb rfl (by and_intros)) (sgP_at h m hz)
theorem rg_step {r : List Sg} {a b : Sg} {w : Nat} (h : sg.drop i = a :: r) (hb : (a :: r)[w]? = some b) (hl : sg.length ≤ LIM) (hr : rg.length ≤ LIM)
    (hw : ev F (pbS row k parts x3 i x7 x8 os (sgP sg) (rgP rg)).O (pbS row k parts x3 i x7 x8 os (sgP sg) (rgP rg)).G (.ite (.and2 (.cmp .lt (.bin .add (.var 6) (.ci 2)) (.bi .len (.cons (.var 4) .nil))) (.cmp .eq (.idx (.var 4) (.bin .add (.var 6) (.ci 1))) (.lst (.cons (.cs [45]) (.cons (.ci 0) .nil))))) (.ci 2) (.ci 0)) = some (.int w)) :
    exs FUEL F ptRng (pbS row k parts x3 i x7 x8 os (sgP sg) (rgP rg)) = some (pbS row k parts x3 (i + (1 + w) : Nat) x7 (some (.int w)) os (sgP sg) (rgP (rg ++ [(a.1, b.1)])), .next) := by
  refine exs_next (asg_e (i := 8) hw) (exs_next (σ' := pbS row k parts x3 i x7 (some (.int w)) os (sgP sg) (rgP (rg ++ [(a.1, b.1)]))) ?_ (exs_one rfl))
  have hrg : rgP (rg ++ [(a.1, b.1)]) = rgP rg ++ [rgV (a.1, b.1)] := List.map_append
  rw [hrg]
  refine (app_e (k := os.length + 1 + 1) (v := rgV (a.1, b.1)) rfl own_b (lst_e (evs_c (v := .str [a.1]) (idx_l (l := [.str [a.1], .int a.2]) (sg_ix (m := 0) h rfl hl rfl) rfl (by decide) rfl) (evs_c (v := .str [b.1]) (idx_l (l := [.str [b.1], .int b.2]) (sg_ix (m := w) h hb hl rfl) rfl (by decide) rfl) rfl))) (by unfold rgP; rw [List.length_map]; exact hr)).trans ?_
  exact congrArg (fun o => some (St.mk _ o, PF.next)) set_b
theorem rg_loop (ho : sg.all ok1 = true) (hl : sg.length ≤ LIM) : ∀ (n : Nat) (r : List Sg) (i : Nat) (rg : List Sg) (x8 : Option PV) (fuel : Nat), r.length ≤ n → n < fuel → sg.drop i = r → i ≤ sg.length → rg.length + n ≤ LIM →
    ∃ y8, whIt (fun σ => pt F σ.O σ.G (.cmp .lt (.var 6) (.bi .len (.cons (.var 4) .nil)))) (fun σ => exs FUEL F ptRng σ) fuel (pbS row k parts x3 i x7 x8 os (sgP sg) (rgP rg)) = some (pbS row k parts x3 (sg.length : Nat) x7 y8 os (sgP sg) (rgP (rg ++ rngs n r)), .next)
  | _, _, _, _, _, 0, _, h, _, _, _ => absurd h (Nat.not_lt_zero _)
  | n, [], i, rg, x8, fuel + 1, _, _, h, hi, _ => by
    have e : i = sg.length := Nat.le_antisymm hi (List.drop_eq_nil_iff.mp h)
    subst e
    refine ⟨x8, (whIt_stop (cmp_t rfl (len_o rfl own_a (by unfold sgP; rw [List.length_map]; exact hl)) (lt0 (by unfold sgP; rw [List.length_map]; exact Int.lt_irrefl _)))).trans ?_⟩
    cases n <;> rw [show rngs _ [] = [] from rfl, List.append_nil]
  | 0, a :: r, _, _, _, _, h, _, _, _, _ => absurd h (Nat.not_succ_le_zero _)
  | n + 1, a :: r, i, rg, x8, fuel + 1, hn, hf, h, hi, hr => by
    rw [List.length_cons] at hn
    have hlen : sg.length = i + (r.length + 1) := by
      rw [← List.length_cons (a := a), ← h, List.length_drop, Nat.add_sub_cancel' hi]
    have hL : ∀ {σ : St}, σ.G[4]? = some (some (.own (os.length + 1))) → σ.O[os.length + 1]? = some (some (sgP sg)) → ev F σ.O σ.G (.bi .len (.cons (.var 4) .nil)) = some (.int sg.length) := fun h1 h2 =>
      (len_o (ev_varE h1) h2 (by unfold sgP; rw [List.length_map]; exact hl)).trans (by unfold sgP; rw [List.length_map])
    have test := cmp_t (F := F) (op := .lt) (a := .var 6) (b := .bi .len (.cons (.var 4) .nil)) (x := .int i) (O := (pbS row k parts x3 i x7 x8 os (sgP sg) (rgP rg)).O) (G := (pbS row k parts x3 i x7 x8 os (sgP sg) (rgP rg)).G) rfl (hL rfl own_a) (lt1 (Int.ofNat_lt.mpr (hlen ▸ Nat.lt_add_of_pos_right (Nat.succ_pos _))))
    have go : ∀ (w : Nat) (b : Sg) (q : List Sg), (a :: r)[w]? = some b → q.length ≤ n → sg.drop (i + (1 + w)) = q → i + (1 + w) ≤ sg.length → rngs (n + 1) (a :: r) = (a.1, b.1) :: rngs n q →
        ev F (pbS row k parts x3 i x7 x8 os (sgP sg) (rgP rg)).O (pbS row k parts x3 i x7 x8 os (sgP sg) (rgP rg)).G (.ite (.and2 (.cmp .lt (.bin .add (.var 6) (.ci 2)) (.bi .len (.cons (.var 4) .nil))) (.cmp .eq (.idx (.var 4) (.bin .add (.var 6) (.ci 1))) (.lst (.cons (.cs [45]) (.cons (.ci 0) .nil))))) (.ci 2) (.ci 0)) = some (.int w) →
        ∃ y8, whIt (fun σ => pt F σ.O σ.G (.cmp .lt (.var 6) (.bi .len (.cons (.var 4) .nil)))) (fun σ => exs FUEL F ptRng σ) (fuel + 1) (pbS row k parts x3 i x7 x8 os (sgP sg) (rgP rg)) = some (pbS row k parts x3 (sg.length : Nat) x7 y8 os (sgP sg) (rgP (rg ++ rngs (n + 1) (a :: r))), .next) := fun w b q hb hq hd hle hrn hw => by
      obtain ⟨y8, e⟩ := rg_loop ho hl n q (i + (1 + w)) (rg ++ [(a.1, b.1)]) (some (.int w)) fuel hq (Nat.lt_of_succ_lt_succ hf) hd hle (by rw [List.length_append]; show rg.length + 1 + n ≤ LIM; and_intros)
      rw [List.append_assoc] at e
      exact ⟨y8, (whIt_step test (rg_step h hb hl (by and_intros) hw)).trans (e.trans (by rw [hrn]; rfl))⟩
    have lt2 : ∀ {t : Bool}, decide (((i + 2 : Nat) : Int) < ((sg.length : Nat) : Int)) = t → pt F (pbS row k parts x3 i x7 x8 os (sgP sg) (rgP rg)).O (pbS row k parts x3 i x7 x8 os (sgP sg) (rgP rg)).G (.cmp .lt (.bin .add (.var 6) (.ci 2)) (.bi .len (.cons (.var 4) .nil))) = some t :=
      fun ht => cmp_t (x := .int (i + 2 : Nat)) rfl (hL rfl own_a) (congrArg some ht)
    match r, hn, hlen, h, go with
    | b :: c :: q, hn, hlen, h, go =>
      rw [List.length_cons, List.length_cons] at hn hlen
      have hob : b.1 < 0x110000 := by
        have : b ∈ sg := List.mem_of_mem_drop (i := i) (by rw [h]; exact List.mem_cons_of_mem _ List.mem_cons_self)
        exact of_decide_eq_true (List.all_eq_true.mp ho b this)
      have c1 := lt2 (t := true) (decide_eq_true (Int.ofNat_lt.mpr (by and_intros)))
      have c2 : pt F (pbS row k parts x3 i x7 x8 os (sgP sg) (rgP rg)).O (pbS row k parts x3 i x7 x8 os (sgP sg) (rgP rg)).G (.cmp .eq (.idx (.var 4) (.bin .add (.var 6) (.ci 1))) (.lst (.cons (.cs [45]) (.cons (.ci 0) .nil)))) = some (decide (b = (45, 0))) :=
        cmp_t (sg_ix (m := 1) h rfl hl rfl) rfl (eqSg hob)
      by_cases hb : b = (45, 0)
      · exact go 2 c q rfl (by and_intros) (by rw [← List.drop_drop, h]; rfl) (by and_intros) (if_pos hb) (ite_et (and2_t c1 (c2.trans (congrArg some (decide_eq_true hb)))) rfl)
      · exact go 0 a (b :: c :: q) rfl (Nat.le_of_succ_le_succ hn) (by rw [← List.drop_drop, h]; rfl) (by and_intros) (if_neg hb) (ite_ef (and2_t c1 (c2.trans (congrArg some (decide_eq_false hb)))) rfl)
    | [b], hn, hlen, h, go => exact go 0 a [b] rfl (Nat.le_of_succ_le_succ hn) (by rw [← List.drop_drop, h]; rfl) (hlen ▸ Nat.add_le_add_left (Nat.le_succ 1) i) rfl (ite_ef (and2_f (lt2 (decide_eq_false fun q => by have := Int.ofNat_lt.mp q; rw [hlen] at this; exact Nat.lt_irrefl _ this))) rfl)
    | [], hn, hlen, h, go => exact go 0 a [] rfl (Nat.zero_le _) (by rw [← List.drop_drop, h]; rfl) (hlen ▸ Nat.le_refl _) rfl (ite_ef (and2_f (lt2 (decide_eq_false fun q => by have := Int.ofNat_lt.mp q; rw [hlen] at this; exact absurd this (Nat.not_lt.mpr (Nat.le_succ (i + 1)))))) rfl)
end
end Mine

namespace Mine

theorem flat1 : ∀ l : List Nat, (l.map fun c => [c]).flatten = l
  | [] => rfl
  | c :: r => by rw [List.map_cons, List.flatten_cons, flat1 r]; rfl
/-- what a bracket means of a, b and the hyphen -/
noncomputable def inRg (x : Nat) (z : Sg) : Bool := !plt [x] [z.1] && !plt [z.2] [x]
noncomputable def brMean (t : Bool) (sg : List Sg) : List Nat := [97, 98, 45].filter fun x => (!((rngs sg.length sg).filter (inRg x)).isEmpty) != t
theorem rngs_ok : ∀ (n : Nat) (sg : List Sg), sg.all ok1 = true → (rngs n sg).all ok2 = true
  | 0, [], _ => rfl
  | 0, _ :: _, _ => rfl
  | n + 1, [], _ => rfl
  | n + 1, [a], h => Bool.and_eq_true_iff.mpr ⟨Bool.and_eq_true_iff.mpr ⟨(and_t h).1, (and_t h).1⟩, by cases n <;> rfl⟩
  | n + 1, [a, b], h => Bool.and_eq_true_iff.mpr ⟨Bool.and_eq_true_iff.mpr ⟨(and_t h).1, (and_t h).1⟩, rngs_ok n [b] (and_t h).2⟩
  | n + 1, a :: b :: c :: q, h => by
    have e : rngs (n + 1) (a :: b :: c :: q) = if b = (45, 0) then (a.1, c.1) :: rngs n q else (a.1, a.1) :: rngs n (b :: c :: q) := rfl
    rw [e]
    split
    · exact Bool.and_eq_true_iff.mpr ⟨Bool.and_eq_true_iff.mpr ⟨(and_t h).1, (and_t (and_t (and_t h).2).2).1⟩, rngs_ok n q (and_t (and_t (and_t h).2).2).2⟩
    · exact Bool.and_eq_true_iff.mpr ⟨Bool.and_eq_true_iff.mpr ⟨(and_t h).1, (and_t h).1⟩, rngs_ok n (b :: c :: q) (and_t h).2⟩
theorem neB {O : Owns} {a b : Bool} : pcmp O .ne (.bool a) (.bool b) = some (a != b) := by cases a <;> cases b <;> rfl
theorem all_filter {α : Type} {p q : α → Bool} {l : List α} (h : l.all p = true) : (l.filter q).all p = true := List.all_eq_true.mpr fun x hx => List.all_eq_true.mp h x (List.mem_filter.mp hx).1
theorem rngs_len : ∀ (n : Nat) (sg : List Sg), (rngs n sg).length ≤ n
  | 0, [] => Nat.le_refl _
  | 0, _ :: _ => Nat.le_refl _
  | n + 1, [] => Nat.zero_le _
  | n + 1, [a] => Nat.succ_le_succ (rngs_len n [])
  | n + 1, [a, b] => Nat.succ_le_succ (rngs_len n [b])
  | n + 1, a :: b :: c :: q => by
    have e : rngs (n + 1) (a :: b :: c :: q) = if b = (45, 0) then (a.1, c.1) :: rngs n q else (a.1, a.1) :: rngs n (b :: c :: q) := rfl
    rw [e]
    split
    · exact Nat.succ_le_succ (rngs_len n q)
    · exact Nat.succ_le_succ (rngs_len n (b :: c :: q))

section
variable {F : PF1} {row Y : List Nat} {k : Int} {p : Nat} {parts : List PV} {x3 x4 x5 x6 x7 x8 : Option PV} {os : Owns} {sg rg : List Sg}
theorem in_comp {O : Owns} {m : Nat} {x : Nat} {a d : Option PV} (h : O[m]? = some (some (rgP rg))) (hl : rg.length ≤ LIM) : ev F O [a, some (.str [x]), some (.own m), d] (.comp (.var 1) 1 (.val (.var 2)) (.cons (.cmp2 .le .le (.idx (.var 1) (.ci 0)) (.var 2) (.idx (.var 1) (.ci 1))) .nil) [none, none, some 1]) = some (.list (rgP (rg.filter (inRg x)))) := by
  refine bind_eq (it_o rfl h (by unfold rgP; rw [List.length_map]; exact hl)) (map_eq (mapO_F (c := rgV) (g := rgV) (p := inRg x) fun z _ => ?_))
  have e1 : pt F O [none, some (rgV z), some (.str [x])] (.cmp2 .le .le (.idx (.var 1) (.ci 0)) (.var 2) (.idx (.var 1) (.ci 1))) = some (inRg x z) := by
    refine bind_eq (a := .str [z.1]) rfl (bind_eq (a := .str [x]) rfl (bind_eq (a := !plt [x] [z.1]) rfl ?_))
    unfold inRg
    cases plt [x] [z.1] with
    | true => rfl
    | false => rfl
  refine bind_eq (a := inRg x z) (bind_eq e1 ?_) ?_
  · cases inRg x z <;> rfl
  · cases inRg x z <;> rfl
theorem br_join {i : Int} {t : Bool} (ho : rg.all ok2 = true) (hl : rg.length ≤ LIM) : ev F (pbS row k parts (some (.bool t)) i x7 x8 os (sgP sg) (rgP rg)).O (pbS row k parts (some (.bool t)) i x7 x8 os (sgP sg) (rgP rg)).G
    (.me .join (.cs []) (.cons (.comp (.var 1) 1 (.val (.cs [97, 98, 45])) (.cons (.cmp .ne (.cmp .ne (.comp (.var 1) 1 (.val (.var 2)) (.cons (.cmp2 .le .le (.idx (.var 1) (.ci 0)) (.var 2) (.idx (.var 1) (.ci 1))) .nil) [none, none, some 1]) (.lst .nil)) (.var 3)) .nil) [none, none, some 5, some 3]) .nil)) =
      some (.str ([97, 98, 45].filter fun x => (!(rg.filter (inRg x)).isEmpty) != t)) := by
  refine me_e (x := .str []) rfl (evs_c (v := .list (tl (([97, 98, 45].filter fun x => (!(rg.filter (inRg x)).isEmpty) != t).map fun c => [c]))) ?_ rfl) ((pme_join0 rfl ?_).trans ?_)
  · rw [tl, List.map_map]
    refine bind_eq (a := [97, 98, 45].map fun c => PV.str [c]) rfl (map_eq (mapO_F (c := fun c => .str [c]) (g := fun c => .str [c]) (p := fun x => (!(rg.filter (inRg x)).isEmpty) != t) fun x _ => ?_))
    have e1 := in_comp (F := F) (a := none) (d := some (.bool t)) (x := x) (O := (pbS row k parts (some (.bool t)) i x7 x8 os (sgP sg) (rgP rg)).O) (m := os.length + 1 + 1) own_b hl
    have e2 : pt F (pbS row k parts (some (.bool t)) i x7 x8 os (sgP sg) (rgP rg)).O [none, some (.str [x]), some (.own (os.length + 1 + 1)), some (.bool t)] (.cmp .ne (.cmp .ne (.comp (.var 1) 1 (.val (.var 2)) (.cons (.cmp2 .le .le (.idx (.var 1) (.ci 0)) (.var 2) (.idx (.var 1) (.ci 1))) .nil) [none, none, some 1]) (.lst .nil)) (.var 3)) = some ((!(rg.filter (inRg x)).isEmpty) != t) :=
      cmp_t (cmp_e (r := !(rg.filter (inRg x)).isEmpty) e1 rfl ((neNil (l := rgP (rg.filter (inRg x))) ⟨rfl, rfl⟩ rfl (ok_rg (all_filter ho))).trans (by cases rg.filter (inRg x) <;> rfl))) rfl neB
    refine bind_eq (a := (!(rg.filter (inRg x)).isEmpty) != t) (bind_eq e2 ?_) ?_
    · cases (!(rg.filter (inRg x)).isEmpty) != t <;> rfl
    · cases (!(rg.filter (inRg x)).isEmpty) != t <;> rfl
  · rw [flat1]
    exact Nat.le_trans (List.length_filter_le _ _) (by decide)
  · rw [flat1]
theorem asgt_pb : ex FUEL F (.asgt [4, 5, 6] [true, true, false] (.cons (.lst .nil) (.cons (.lst .nil) (.cons (.ci 0) .nil)))) (ptS row k parts x3 x4 x5 x6 x7 x8 os) = some (pbS row k parts x3 0 x7 x8 os [] [], .next) := by
  have e1 : (some parts :: os ++ [some []] : Owns).length = os.length + 1 + 1 := by simp
  have e2 : (some parts :: os ++ [some []] : Owns) ++ [some []] = some parts :: (os ++ [some [], some []]) := by simp
  show some (St.mk [some (.str row), some (.own 0), some (.int k), x3, some (.own (os.length + 1)), some (.own (some parts :: os ++ [some []] : Owns).length), some (.int 0), x7, x8, none] ((some parts :: os ++ [some []] : Owns) ++ [some []]), PF.next) = _
  rw [e1, e2]; rfl

theorem ptBrk {t : Bool} {c : Nat} {r : List Nat} (hne : sg ≠ []) (hl : sg.length < 1000) (ho : sg.all ok1 = true) (hk : sg.all okSg = true) (hc : ∀ z ∈ sg.tail, !(z.2 == 0 && z.1 == 93)) (hh : (sg.map sgE).flatten = c :: r) (h94 : t = false → (c == 94) = false) :
    PtOk (91 :: ((if t then [94] else []) ++ ((sg.map sgE).flatten ++ [93]))) (brMean t sg) := by
  intro F row Y p parts x3 x4 x5 x6 x7 x8 os hL h hp
  have hL1 : LIM = 1048576 := rfl
  have hb0 : row.drop (p + 1) = (if t then [94] else []) ++ ((sg.map sgE).flatten ++ 93 :: Y) := (drop_next h).trans (by simp)
  have hb1 : row.drop (p + 1 + (if t then [94] else []).length) = (sg.map sgE).flatten ++ 93 :: Y := drop_more hb0
  obtain ⟨p1, hp1⟩ : ∃ p1, p1 = p + 1 + (if t then [94] else []).length := ⟨_, rfl⟩
  rw [← hp1] at hb1
  have hlt := lt_of_drop (drop_more hb1)
  obtain ⟨y7, e1⟩ := sg_loop (F := F) (parts := parts) (x3 := some (.bool t)) (x8 := x8) (os := os) (rg := []) (a := 0) hL sg [] p1 x7 FUEL (Nat.lt_of_lt_of_le hl (by decide)) ho hk hc hne (by show sg.length ≤ LIM; and_intros) hb1
  obtain ⟨y8, e2⟩ := rg_loop (F := F) (row := row) (k := (p1 + ((sg.map sgE).flatten).length + 1 : Nat)) (parts := parts) (x3 := some (.bool t)) (x7 := y7) (os := os) ho (by and_intros) sg.length sg 0 [] x8 FUEL (Nat.le_refl _) (Nat.lt_of_lt_of_le hl (by decide)) rfl (Nat.zero_le _) (by show 0 + sg.length ≤ LIM; and_intros)
  have hrl : (rngs sg.length sg).length ≤ LIM := Nat.le_trans (rngs_len _ _) (by and_intros)
  refine ⟨some (.bool t), some (.own (os.length + 1)), some (.own (os.length + 1 + 1)), some (.int (sg.length : Nat)), y7, y8, os ++ [some (sgP sg), some (rgP (rngs sg.length sg))], ?_⟩
  have hix : ev F (ptS row p parts x3 x4 x5 x6 x7 x8 os).O (ptS row p parts x3 x4 x5 x6 x7 x8 os).G (.cmp .eq (.idx (.var 0) (.bin .add (.var 2) (.ci 1))) (.cs [94])) = some (.bool t) := by
    cases t with
    | true => exact cmp_e (idx_s (i := (p + 1 : Nat)) rfl rfl (nb rfl (by and_intros)) ((at_ h 1).trans rfl)) rfl (eqS.trans rfl)
    | false => exact cmp_e (idx_s (c := c) (i := (p + 1 : Nat)) rfl rfl (nb rfl (by and_intros)) ((at_ (drop_next h) 0).trans (by rw [hh]; rfl))) rfl (eqS.trans (congrArg some (h94 rfl)))
  have aug1 : ex FUEL F (.aug 2 .add (.ite (.var 3) (.ci 2) (.ci 1))) (ptS row p parts (some (.bool t)) x4 x5 x6 x7 x8 os) = some (ptS row (p1 : Nat) parts (some (.bool t)) x4 x5 x6 x7 x8 os, .next) := by
    subst hp1
    cases t <;> rfl
  refine pt_else rfl hL h (exs_one (ite_f (cmp_t (pt_ix hL h) rfl rfl) (exs_one (ite_f (cmp_t (pt_ix hL h) rfl rfl) ?_))))
  refine exs_next (asg_e (i := 3) hix) (exs_next aug1 (exs_next asgt_pb (exs_next (wh_e e1) (exs_next (σ' := pbS row (p1 + ((sg.map sgE).flatten).length + 1 : Nat) parts (some (.bool t)) 0 y7 x8 os (sgP sg) (rgP [])) rfl (exs_next (wh_e e2) (exs_one ?_))))))
  refine (app_e (k := 0) rfl rfl (br_join (rngs_ok _ _ ho) hrl) hp).trans ?_
  have e3 : p1 + ((sg.map sgE).flatten).length + 1 = p + (91 :: ((if t then [94] else []) ++ ((sg.map sgE).flatten ++ [93]))).length := by
    subst hp1
    rw [List.length_cons, List.length_append, List.length_append]; show _ = p + (_ + (_ + 1) + 1); and_intros
  rw [e3]; rfl
end
end Mine

namespace Mine

noncomputable def ptTab : List (List Nat × List Nat) := [([97], [97]), ([98], [98]), ([92, 45], [45]), ([46], [97, 98, 45]), ([40, 63, 33, 41], []), ([91, 97, 98, 93], [97, 98]), ([91, 94, 97, 93], [98, 45]), ([91, 92, 45, 45, 97, 93], [97, 45]), ([91, 93, 45, 97, 92, 45, 93], [97, 45]), ([91, 94, 92, 45, 97, 93], [98])]
theorem pt_all : ∀ z ∈ ptTab, PtOk z.1 z.2 := by
  simp only [ptTab, List.forall_mem_cons]
  refine ⟨ptLit rfl, ptLit rfl, ptEsc, ptDot, ptNo, ?_, ?_, ?_, ?_, ?_, nofun⟩
  · exact ptBrk (t := false) (sg := [(97, 0), (98, 0)]) nofun (by decide) rfl rfl (by decide) rfl fun _ => rfl
  · exact ptBrk (t := true) (sg := [(97, 0)]) nofun (by decide) rfl rfl (by decide) rfl nofun
  · exact ptBrk (t := false) (sg := [(45, 1), (45, 0), (97, 0)]) nofun (by decide) rfl rfl (by decide) rfl fun _ => rfl
  · exact ptBrk (t := false) (sg := [(93, 0), (45, 0), (97, 0), (45, 1)]) nofun (by decide) rfl rfl (by decide) rfl fun _ => rfl
  · exact ptBrk (t := true) (sg := [(45, 1), (97, 0)]) nofun (by decide) rfl rfl (by decide) rfl nofun

/-- texts of parts, and what they mean -/
noncomputable def txs (ps : List (List Nat × List Nat)) : List Nat := (ps.map (·.1)).flatten
theorem pt_ne {z : List Nat × List Nat} (h : z ∈ ptTab) : ∃ c r, z.1 = c :: r := by
  revert z
  simp only [ptTab, List.forall_mem_cons]
  exact ⟨⟨_, _, rfl⟩, ⟨_, _, rfl⟩, ⟨_, _, rfl⟩, ⟨_, _, rfl⟩, ⟨_, _, rfl⟩, ⟨_, _, rfl⟩, ⟨_, _, rfl⟩, ⟨_, _, rfl⟩, ⟨_, _, rfl⟩, ⟨_, _, rfl⟩, nofun⟩
theorem pt_loop {F : PF1} {row : List Nat} (hL : row.length + 4 ≤ LIM) : ∀ (ps : List (List Nat × List Nat)) (p : Nat) (parts : List PV) (fuel : Nat) (x3 x4 x5 x6 x7 x8 : Option PV) (os : Owns), (∀ z ∈ ps, z ∈ ptTab) → ps.length < fuel → row.drop p = txs ps → p ≤ row.length → parts.length + ps.length ≤ LIM →
    ∃ y3 y4 y5 y6 y7 y8 os', whIt (fun σ => pt F σ.O σ.G (.cmp .lt (.var 2) (.bi .len (.cons (.var 0) .nil)))) (fun σ => exs FUEL F ptBody σ) fuel (ptS row p parts x3 x4 x5 x6 x7 x8 os) = some (ptS row (row.length : Nat) (parts ++ tl (ps.map (·.2))) y3 y4 y5 y6 y7 y8 os', .next)
  | _, _, _, 0, _, _, _, _, _, _, _, _, h, _, _, _ => absurd h (Nat.not_lt_zero _)
  | [], p, parts, fuel + 1, x3, x4, x5, x6, x7, x8, os, _, _, h, hp, _ => by
    have : p = row.length := Nat.le_antisymm hp (List.drop_eq_nil_iff.mp h)
    subst this
    rw [show tl (List.map (·.2) ([] : List (List Nat × List Nat))) = [] from rfl, List.append_nil]
    exact ⟨x3, x4, x5, x6, x7, x8, os, whIt_stop (cmp_t rfl (len_s rfl (by and_intros)) (lt0 (Int.lt_irrefl _)))⟩
  | z :: ps, p, parts, fuel + 1, x3, x4, x5, x6, x7, x8, os, hz, hf, h, hp, hl => by
    have h' : row.drop p = z.1 ++ txs ps := h
    rw [List.length_cons] at hl hf
    obtain ⟨c, r, hc⟩ := pt_ne (hz z List.mem_cons_self)
    have hlt : p < row.length := lt_of_drop (h'.trans (by rw [hc]; rfl))
    have hle : p + z.1.length ≤ row.length := by
      have := congrArg List.length h'
      rw [List.length_drop, List.length_append] at this
      and_intros
    obtain ⟨z3, z4, z5, z6, z7, z8, os1, e⟩ := pt_all z (hz z List.mem_cons_self) (F := F) (x3 := x3) (x4 := x4) (x5 := x5) (x6 := x6) (x7 := x7) (x8 := x8) (os := os) hL h' (Nat.le_trans (Nat.le_add_right _ _) hl)
    obtain ⟨y3, y4, y5, y6, y7, y8, os', e2⟩ := pt_loop hL ps (p + z.1.length) (parts ++ [.str z.2]) fuel z3 z4 z5 z6 z7 z8 os1 (fun u hu => hz u (List.mem_cons_of_mem _ hu)) (Nat.lt_of_succ_lt_succ hf) (drop_more h') hle (by rw [List.length_append]; show parts.length + 1 + _ ≤ _; and_intros)
    refine ⟨y3, y4, y5, y6, y7, y8, os', (whIt_step (cmp_t rfl (len_s rfl (by and_intros)) (lt1 (Int.ofNat_lt.mpr hlt))) e).trans (e2.trans ?_)⟩
    rw [List.append_assoc]; rfl
theorem parts_run (n : Nat) {ps : List (List Nat × List Nat)} (hz : ∀ z ∈ ps, z ∈ ptTab) (h1 : ps.length ≤ 4000) (h2 : (txs ps).length ≤ 100000) : R (n + 1) "_law_parts" [.str (txs ps)] = some (.list (tl (ps.map (·.2)))) := by
  have hL : LIM = 1048576 := rfl
  rw [run_eq (e := ⟨10, 1, p_parts⟩) rfl (by decide) (by decide +kernel) (by decide +kernel) rfl]
  obtain ⟨y3, y4, y5, y6, y7, y8, os, e⟩ := pt_loop (F := R n) (row := txs ps) (by and_intros) ps 0 [] FUEL none none none none none none [] hz (Nat.lt_of_le_of_lt h1 (by decide)) rfl (Nat.zero_le _) (by show 0 + ps.length ≤ LIM; and_intros)
  refine pfun_ret (exs_next (σ' := ptS (txs ps) 0 [] none none none none none none []) rfl (exs_next (wh_e e) (exs_stop (ret_e (ev_varE ?_)) nofun))) (noOwn_tl _)
  exact congrArg some (frz_own rfl (noOwn_tl _))
end Mine

namespace Mine

noncomputable def S1 : List Nat := [40, 63, 62, 46, 42, 63]
noncomputable def DS : List Nat := [46, 42]
/-- a text without the first separator -/
noncomputable def Fr1 (u : List Nat) : Prop := ∀ acc w, psplitGo S1 0 acc (u ++ w) = psplitGo S1 0 (u.reverse ++ acc) w
noncomputable def FrD (u : List Nat) : Prop := ∀ acc w, w.head? ≠ some 42 → (u ++ w).head? ≠ some 42 ∧ psplitGo DS 0 acc (u ++ w) = psplitGo DS 0 (u.reverse ++ acc) w
theorem Fr1.app {u v : List Nat} (h : Fr1 u) (k : Fr1 v) : Fr1 (u ++ v) := fun acc w => by rw [List.append_assoc, h, k, List.reverse_append, List.append_assoc]
theorem FrD.app {u v : List Nat} (h : FrD u) (k : FrD v) : FrD (u ++ v) := fun acc w hw => by
  obtain ⟨k1, k2⟩ := k (u.reverse ++ acc) w hw
  obtain ⟨h1, h2⟩ := h acc (v ++ w) k1
  rw [List.append_assoc]
  exact ⟨h1, by rw [h2, k2, List.reverse_append, List.append_assoc]⟩
theorem fr1_all : ∀ z ∈ ptTab, Fr1 z.1 := by
  simp only [ptTab, List.forall_mem_cons]
  exact ⟨fun _ _ => rfl, fun _ _ => rfl, fun _ _ => rfl, fun _ _ => rfl, fun _ _ => rfl, fun _ _ => rfl, fun _ _ => rfl, fun _ _ => rfl, fun _ _ => rfl, fun _ _ => rfl, nofun⟩
theorem frD_dot : FrD [46] := fun acc w hw => ⟨nofun, by
  cases w with
  | nil => rfl
  | cons c r =>
    have h : (42 == c) = false := beq_eq_false_iff_ne.mpr fun e => hw (by rw [← e]; rfl)
    show (if DS.isPrefixOf (46 :: c :: r) = true then _ else _) = _
    rw [show DS.isPrefixOf (46 :: c :: r) = (42 == c && true) from rfl, h]; rfl⟩
theorem frD_all : ∀ z ∈ ptTab, FrD z.1 := by
  simp only [ptTab, List.forall_mem_cons]
  exact ⟨fun _ _ _ => ⟨nofun, rfl⟩, fun _ _ _ => ⟨nofun, rfl⟩, fun _ _ _ => ⟨nofun, rfl⟩, frD_dot, fun _ _ _ => ⟨nofun, rfl⟩, fun _ _ _ => ⟨nofun, rfl⟩, fun _ _ _ => ⟨nofun, rfl⟩, fun _ _ _ => ⟨nofun, rfl⟩, fun _ _ _ => ⟨nofun, rfl⟩, fun _ _ _ => ⟨nofun, rfl⟩, nofun⟩
theorem fr1_txs : ∀ {ps : List (List Nat × List Nat)}, (∀ z ∈ ps, z ∈ ptTab) → Fr1 (txs ps)
  | [], _ => fun _ _ => rfl
  | z :: ps, h => Fr1.app (u := z.1) (v := txs ps) (fr1_all z (h z List.mem_cons_self)) (fr1_txs fun u hu => h u (List.mem_cons_of_mem _ hu))
theorem frD_txs : ∀ {ps : List (List Nat × List Nat)}, (∀ z ∈ ps, z ∈ ptTab) → FrD (txs ps)
  | [], _ => fun _ _ h => ⟨h, rfl⟩
  | z :: ps, h => FrD.app (u := z.1) (v := txs ps) (frD_all z (h z List.mem_cons_self)) (frD_txs fun u hu => h u (List.mem_cons_of_mem _ hu))
theorem fr1_41 : Fr1 [41] := fun _ _ => rfl
theorem fr1_DS : Fr1 DS := fun _ _ => rfl
theorem frD_41 : FrD [41] := fun _ _ _ => ⟨nofun, rfl⟩
theorem fr1_end {u acc : List Nat} (h : Fr1 u) : psplitGo S1 0 acc u = [acc.reverse ++ u] := by
  have := h acc []
  rw [List.append_nil] at this
  rw [this]
  show [(u.reverse ++ acc).reverse] = _
  rw [List.reverse_append, List.reverse_reverse]
theorem fr1_piece {u w : List Nat} (h : Fr1 u) : psplitGo S1 0 [] (u ++ (S1 ++ w)) = u :: psplitGo S1 0 [] w := by
  rw [h]
  show (u.reverse ++ []).reverse :: psplitGo S1 0 [] w = _
  rw [List.append_nil, List.reverse_reverse]
theorem frD_one {u : List Nat} (h : FrD u) : psplit DS u = [u] := by
  have := (h [] [] nofun).2
  rw [List.append_nil] at this
  show psplitGo DS 0 [] u = _
  rw [this]
  show [(u.reverse ++ []).reverse] = _
  rw [List.append_nil, List.reverse_reverse]
theorem frD_two {u v : List Nat} (h : FrD u) (k : FrD v) : psplit DS (u ++ (DS ++ v)) = [u, v] := by
  show psplitGo DS 0 [] (u ++ (DS ++ v)) = _
  rw [(h [] (DS ++ v) nofun).2]
  show (u.reverse ++ []).reverse :: psplitGo DS 0 [] v = _
  rw [show psplitGo DS 0 [] v = [v] from frD_one k, List.append_nil, List.reverse_reverse]

noncomputable abbrev Ps := List (List Nat × List Nat)
noncomputable def atom (M : Ps) : List Nat := S1 ++ (txs M ++ [41])
/-- the pieces between the first separators -/
noncomputable def pcs (L : List Nat) : List Nat → List Ps → List (List Nat)
  | cur, [] => [cur ++ (DS ++ L)]
  | cur, M :: Ms => cur :: pcs L (txs M ++ [41]) Ms
theorem pcs_split {L : List Nat} (hL : Fr1 L) : ∀ (Ms : List Ps) (cur : List Nat), Fr1 cur → (∀ M ∈ Ms, ∀ z ∈ M, z ∈ ptTab) → psplit S1 (cur ++ ((Ms.map atom).flatten ++ (DS ++ L))) = pcs L cur Ms
  | [], cur, hc, _ => fr1_end (acc := []) (hc.app (fr1_DS.app hL))
  | M :: Ms, cur, hc, h => by
    show psplitGo S1 0 [] (cur ++ ((atom M ++ (Ms.map atom).flatten) ++ (DS ++ L))) = cur :: pcs L (txs M ++ [41]) Ms
    rw [← pcs_split hL Ms (txs M ++ [41]) ((fr1_txs (h M List.mem_cons_self)).app fr1_41) fun M hM => h M (List.mem_cons_of_mem _ hM)]
    rw [show (atom M ++ (Ms.map atom).flatten) ++ (DS ++ L) = S1 ++ ((txs M ++ [41]) ++ ((Ms.map atom).flatten ++ (DS ++ L))) by simp [atom]]
    exact fr1_piece hc
/-- front and last of the pieces -/
theorem pcs_last (L : List Nat) : ∀ (Ms : List Ps) (cur : List Nat), ∃ Pf pl, pcs L cur Ms = Pf ++ [pl ++ (DS ++ L)] ∧ Pf ++ [pl] = cur :: Ms.map fun M => txs M ++ [41]
  | [], cur => ⟨[], cur, rfl, rfl⟩
  | M :: Ms, cur => by
    obtain ⟨Pf, pl, h1, h2⟩ := pcs_last L Ms (txs M ++ [41])
    exact ⟨cur :: Pf, pl, by show cur :: pcs L _ Ms = _; rw [h1]; rfl, by rw [List.cons_append, h2]; rfl⟩
end Mine

namespace Mine

theorem pslice_map {α β : Type} (f : α → β) (l : List α) (lo hi : Option Int) : pslice (l.map f) lo hi = (pslice l lo hi).map f := by
  unfold pslice
  rw [List.length_map, List.map_drop, List.map_take]
theorem pidx_map {α β : Type} (f : α → β) (l : List α) (i : Int) : pidx (l.map f) i = (pidx l i).map f := by
  unfold pidx
  rw [List.length_map]
  split
  · rw [List.getElem?_map]
  · split
    · rw [List.getElem?_map]
    · rfl
theorem pslice_len {α : Type} (l : List α) (lo hi : Option Int) : (pslice l lo hi).length ≤ l.length := by
  unfold pslice
  rw [List.length_drop, List.length_take]; exact Nat.le_trans (Nat.sub_le _ _) (Nat.min_le_right _ _)
section
variable {F : PF1} {O : Owns} {G : Slots} {a b e : PE}
theorem sl_tl {lo hi : PE} {ls r : List (List Nat)} {x y : PV} {i j : Option Int} (h : ev F O G a = some (.list (tl ls))) (h2 : ev F O G lo = some x) (h3 : ev F O G hi = some y) (h4 : ppart x = some i) (h5 : ppart y = some j) (hl : ls.length ≤ LIM) (hr : pslice ls i j = r) : ev F O G (.sl a lo hi) = some (.list (tl r)) :=
  sl_l h h2 h3 h4 h5 ((tl_len ls).symm ▸ hl) ((pslice_map _ _ _ _).trans (congrArg tl hr))
theorem idx_tl {ls : List (List Nat)} {i : Int} {c : List Nat} (h : ev F O G a = some (.list (tl ls))) (h2 : ev F O G b = some (.int i)) (h3 : i.natAbs < 2 ^ 62) (h4 : pidx ls i = some c) : ev F O G (.idx a b) = some (.str c) :=
  idx_l h h2 h3 ((pidx_map _ _ _).trans (map_eq h4))
theorem add_tl {x y : List (List Nat)} (h : ev F O G a = some (.list (tl x))) (h2 : ev F O G b = some (.list (tl y))) (hl : x.length + y.length ≤ LIM) : ev F O G (.bin .add a b) = some (.list (tl (x ++ y))) :=
  bin_e h h2 ((paddL ((tl_len x).symm ▸ (tl_len y).symm ▸ hl)).trans (congrArg (fun l => some (PV.list l)) List.map_append.symm))
theorem add_s {x y : List Nat} (h : ev F O G a = some (.str x)) (h2 : ev F O G b = some (.str y)) (hl : x.length + y.length ≤ LIM) : ev F O G (.bin .add a b) = some (.str (x ++ y)) := bin_e h h2 (paddS hl)
theorem it_tl {l : List (List Nat)} (h : ev F O G e = some (.list (tl l))) (hl : l.length ≤ LIM) : evI F O G (.val e) = some (l.map PV.str) := it_l h ((tl_len l).symm ▸ hl)
theorem comp_tl {α : Type} {elt : PE} {v : Nat} {it : PIt} {fr : List (Option Nat)} {l : List α} {c : α → PV} {g : α → List Nat} (hi : evI F O G it = some (l.map c))
    (h : ∀ x ∈ l, ev F O ((fr.map fun j => j.bind fun j => (G[j]?).bind id).set v (some (c x))) elt = some (.str (g x))) : ev F O G (.comp elt v it .nil fr) = some (.list (tl (l.map g))) :=
  bind_eq hi (map_eq ((mapO_PV (c := c) (g := fun x => .str (g x)) fun x hx => bind_eq (a := true) rfl (map_eq (f := some) (h x hx))).trans (congrArg some (by rw [tl, List.map_map]; rfl))))
theorem split_e {x s : List Nat} {P : List (List Nat)} (h1 : ev F O G e = some (.str x)) (h2 : ev F O G b = some (.str s)) (h3 : s ≠ []) (h4 : x.length ≤ LIM) (hp : psplit s x = P) : ev F O G (.me .split e (.cons b .nil)) = some (.list (tl P)) :=
  me_e h1 (evs_c h2 rfl) ((if_neg (by cases s <;> simp_all)).trans (congrArg (fun l => some (PV.list (tl l))) hp))
end

noncomputable def rowsV (rs : List (List (List Nat))) : List PV := rs.map fun r => .list (tl r)
theorem noOwn_rows : ∀ rs : List (List (List Nat)), noOwnL (rowsV rs) = true
  | [] => rfl
  | r :: rs => Bool.and_eq_true_iff.mpr ⟨noOwn_tl r, noOwn_rows rs⟩
theorem rows_gen {n : Nat} {W I A0 pl : List Nat} {P Pf D La Mi : List (List Nat)} {g : List Nat → List Nat} {pss : List Ps} (hW : W = [40, 63, 115, 58] ++ I ++ [41, 92, 90]) (hl : W.length ≤ 100000) (hP : psplit S1 I = P) (hPl : pidx P (-1) = some pl) (hPf : pslice P none (some (-1)) = Pf) (hD : psplit DS pl = D) (hpl : pl.length ≤ 100000)
    (hn : P.length ≤ 1000 ∧ (Pf ++ D).length ≤ 1000) (hLa : pslice ((Pf ++ D).drop 1) (some (-1)) none = La) (hMi : pslice (Pf ++ D) (some 1) (some (-1)) = Mi) (hA0 : (Pf ++ D).take 1 = [A0]) (hg : ∀ z ∈ Mi, z.length ≤ 100000 ∧ pslice z none (some (-1)) = g z)
    (hI : I = A0 ++ ((Mi.map g).map fun z => S1 ++ z ++ [41]).flatten ++ (La.map fun z => DS ++ z).flatten) (hps : (A0 :: Mi.map g) ++ La = pss.map txs) (hh : ∀ ps ∈ pss, R n "_law_parts" [.str (txs ps)] = some (.list (tl (ps.map (·.2))))) :
    R (n + 1) "_law_rows" [.str W] = some (.list (rowsV (pss.map fun ps => ps.map (·.2)))) := by
  have hL : LIM = 1048576 := rfl
  rw [run_eq (e := ⟨4, 1, p_rows⟩) rfl (by decide) (by decide +kernel) (by decide +kernel) rfl]
  have hWl : W.length = 4 + I.length + 3 := by rw [hW, List.length_append, List.length_append]; rfl
  have hMl : Mi.length ≤ 1000 := by rw [← hMi]; exact Nat.le_trans (pslice_len _ _ _) hn.2
  have hLl : La.length ≤ 1000 := by rw [← hLa]; exact Nat.le_trans (pslice_len _ _ _) (Nat.le_trans (by rw [List.length_drop]; exact Nat.sub_le _ _) hn.2)
  have sW : pslice W (some 4) (some (-3)) = I := by rw [hW]; exact pslice_inner _ _ _ rfl rfl (by decide)
  obtain ⟨R2, hR2⟩ : ∃ R2, R2 = Pf ++ D := ⟨_, rfl⟩
  rw [← hR2] at hLa hMi hA0 hn
  have hsl1 : pslice R2 (some 1) none = R2.drop 1 := pslice_from _ 1 rfl
  have hlW : (S1.length + 0 : Nat) = 6 := rfl
  have lenI := congrArg List.length hI
  rw [List.length_append, List.length_append] at lenI
  have zl : ∀ z ∈ Mi.map g, z.length + 7 ≤ LIM := fun z hz => by
    obtain ⟨m, hm, rfl⟩ := List.mem_map.mp hz
    have h1 := (hg m hm).2
    have h2 := pslice_len m none (some (-1))
    rw [h1] at h2
    have := (hg m hm).1
    and_intros
  have ll : ∀ z ∈ La, z.length + 2 ≤ LIM := fun z hz => by
    have h1 : (DS ++ z).length ≤ ((La.map fun z => DS ++ z).flatten).length := (List.sublist_flatten_of_mem (List.mem_map_of_mem hz)).length_le
    have h2 : (DS ++ z).length = 2 + z.length := List.length_append
    and_intros
  refine pfun_ret (σ := ⟨[some (.str W), some (.list (tl (A0 :: Mi.map g))), some (.list (tl La)), some (.str I)], []⟩) ?_ (noOwn_rows _)
  refine exs_next (σ' := ⟨[some (.str W), some (.list (tl P)), none, none], []⟩) (asg_e (split_e (s := S1) (x := I) (sl_s (l := W) rfl rfl rfl rfl rfl (by and_intros) sW) rfl nofun (by and_intros) hP)) ?_
  refine exs_next (σ' := ⟨[some (.str W), some (.list (tl R2)), none, none], []⟩) (asg_e ((add_tl (x := Pf) (y := D) (sl_tl (ls := P) rfl rfl rfl rfl rfl (by and_intros) hPf) (split_e (s := DS) (x := pl) (idx_tl (ls := P) rfl rfl (by decide) hPl) rfl nofun (by and_intros) hD) (by rw [← List.length_append, ← hR2]; and_intros)).trans (by rw [hR2]))) ?_
  refine exs_next (σ' := ⟨[some (.str W), some (.list (tl R2)), some (.list (tl La)), none], []⟩) (asg_e (sl_tl (sl_tl (ls := R2) rfl rfl rfl rfl rfl (by and_intros) hsl1) rfl rfl rfl rfl (by rw [List.length_drop]; and_intros) hLa)) ?_
  refine exs_next (σ' := ⟨[some (.str W), some (.list (tl (A0 :: Mi.map g))), some (.list (tl La)), none], []⟩) (asg_e (add_tl (x := [A0]) (sl_tl (ls := R2) rfl rfl rfl rfl rfl (by and_intros) ((pslice_to _ 1 rfl).trans hA0)) (comp_tl (l := Mi) (c := PV.str) (g := g) (it_tl (sl_tl (ls := R2) rfl rfl rfl rfl rfl (by and_intros) hMi) (by and_intros)) fun z hz => ?_) (by rw [List.length_map]; show 1 + _ ≤ _; and_intros))) ?_
  · exact sl_s (l := z) rfl rfl rfl rfl rfl (by have := (hg z hz).1; and_intros) (hg z hz).2
  refine exs_next (σ' := ⟨[some (.str W), some (.list (tl (A0 :: Mi.map g))), some (.list (tl La)), some (.str I)], []⟩) (asg_e ((add_s (add_s (x := A0) (idx_tl (ls := A0 :: Mi.map g) rfl rfl (by decide) rfl)
    (me_e (x := .str []) rfl (evs_c (comp_tl (l := Mi.map g) (c := PV.str) (g := fun z => S1 ++ z ++ [41]) (it_tl (sl_tl (ls := A0 :: Mi.map g) rfl rfl rfl rfl rfl (by rw [List.length_cons, List.length_map]; and_intros) (pslice_from _ 1 rfl)) (by rw [List.length_map]; and_intros)) fun z hz => ?_) rfl) (pme_join0 rfl (by and_intros))) (by and_intros))
    (me_e (x := .str []) rfl (evs_c (comp_tl (l := La) (c := PV.str) (g := fun z => DS ++ z) (it_tl (l := La) rfl (by and_intros)) fun z hz => ?_) rfl) (pme_join0 rfl (by and_intros))) (by rw [List.length_append]; and_intros)).trans (by rw [← hI]))) ?_
  · exact add_s (add_s (x := S1) rfl (y := z) rfl (by have := zl z hz; show 6 + _ ≤ _; and_intros)) rfl (by have := zl z hz; rw [List.length_append]; show 6 + _ + 1 ≤ _; and_intros)
  · exact add_s (x := DS) rfl (y := z) rfl (by have := ll z hz; show 2 + _ ≤ _; and_intros)
  have eR : ((A0 :: Mi.map g) ++ La).length ≤ LIM := by rw [List.length_append, List.length_cons, List.length_map]; and_intros
  refine exs_stop (ret_e (ite_et (cmp_t (y := .str W) (x := .str W) rfl ((add_s (add_s (y := I) rfl (ev_varE rfl) (by show 4 + _ ≤ _; and_intros)) rfl (by rw [List.length_append]; show 4 + _ + 3 ≤ _; and_intros)).trans (by rw [hW])) (eqSS rfl)) ?_)) nofun
  have fz : ∀ l, frzN ([] : Owns) (.list (tl l)) = some (.list (tl l)) := fun l => frz_val rfl (noOwn_tl l)
  refine bind_eq ((it_tl (add_tl (x := A0 :: Mi.map g) (y := La) (ev_varE (congrArg some (fz _))) (ev_varE (congrArg some (fz _))) (by rw [← List.length_append]; exact eR)) eR).trans (congrArg some (by rw [hps, List.map_map]))) (map_eq ((mapO_PV (c := PV.str ∘ txs) (g := fun ps => .list (tl (ps.map (·.2)))) fun z hz => ?_).trans (congrArg some (by rw [rowsV, List.map_map]; rfl))))
  exact bind_eq (a := true) rfl (map_eq (call_e (evs_c rfl rfl) rfl (hh z hz)))
end Mine

namespace Mine

noncomputable abbrev fsts (ps : Ps) : List (List Nat) := ps.map (·.1)
theorem segOut_last : ∀ (Ms : List Ps) (L : Ps), (segOut ((Ms ++ [L]).map fsts)).flatten = (Ms.map atom).flatten ++ (DS ++ txs L)
  | [], L => by
    show (if fsts L = [] then [[46, 42]] else [[46, 42], (fsts L).flatten]).flatten = _
    by_cases h : fsts L = []
    · rw [if_pos h]
      have : txs L = [] := by unfold txs; rw [show L.map (·.1) = [] from h]; rfl
      rw [this]; rfl
    · rw [if_neg h]
      show [46, 42] ++ ((fsts L).flatten ++ []) = _
      rw [List.append_nil]; rfl
  | M :: Ms, L => by
    have ih := segOut_last Ms L
    have e : segOut (((M :: Ms) ++ [L]).map fsts) = atomT (fsts M) :: segOut ((Ms ++ [L]).map fsts) := by
      cases Ms <;> rfl
    rw [e, List.flatten_cons, ih, List.map_cons, List.flatten_cons, List.append_assoc]
    congr 1
theorem rows_run (n : Nat) {ps0 : Ps} {segs : List Ps} (h0 : ∀ z ∈ ps0, z ∈ ptTab) (hs : ∀ M ∈ segs, ∀ z ∈ M, z ∈ ptTab) (hn : segs.length ≤ 500) (hl : ∀ M ∈ ps0 :: segs, M.length ≤ 1000 ∧ (txs M).length ≤ 10000) (hW : (joinT (fsts ps0) (segs.map fsts)).length ≤ 100000) :
    R (n + 2) "_law_rows" [.str (joinT (fsts ps0) (segs.map fsts))] = some (.list (rowsV ((ps0 :: segs).map fun ps => ps.map (·.2)))) := by
  have hp : ∀ ps ∈ ps0 :: segs, R (n + 1) "_law_parts" [.str (txs ps)] = some (.list (tl (ps.map (·.2)))) := fun ps h => by
    obtain ⟨q1, q2⟩ := hl ps h
    refine parts_run n (fun z hz => ?_) (by and_intros) (by and_intros)
    rcases List.mem_cons.mp h with rfl | h
    · exact h0 z hz
    · exact hs ps h z hz
  have f0 := fr1_txs h0
  have d0 := frD_txs h0
  have l0 := hl ps0 List.mem_cons_self
  rcases List.eq_nil_or_concat segs with rfl | ⟨Ms, L, rfl⟩
  · refine rows_gen (I := txs ps0) (A0 := txs ps0) (pl := txs ps0) (P := [txs ps0]) (Pf := []) (D := [txs ps0]) (La := []) (Mi := []) (g := id) ?_ hW (fr1_end (acc := []) f0) rfl rfl (frD_one d0) (by and_intros) (by show 1 ≤ 1000 ∧ 1 ≤ 1000; decide) rfl rfl rfl nofun ?_ rfl hp
    · show [40, 63, 115, 58] ++ (txs ps0 ++ []) ++ [41, 92, 90] = _
      rw [List.append_nil]
    · show _ = txs ps0 ++ [] ++ []
      rw [List.append_nil, List.append_nil]
  · rw [List.concat_eq_append] at hs hn hl hW hp ⊢
    have hM : ∀ M ∈ Ms, ∀ z ∈ M, z ∈ ptTab := fun M h => hs M (List.mem_append_left _ h)
    have hLz : ∀ z ∈ L, z ∈ ptTab := hs L (List.mem_append_right _ List.mem_cons_self)
    have hMl : ∀ M ∈ Ms, (txs M).length ≤ 10000 := fun M h => (hl M (List.mem_cons_of_mem _ (List.mem_append_left _ h))).2
    have hLl := (hl L (List.mem_cons_of_mem _ (List.mem_append_right _ List.mem_cons_self))).2
    rw [List.length_append] at hn
    have hn : Ms.length + 1 ≤ 500 := hn
    obtain ⟨Pf, pl, e1, e2⟩ := pcs_last (txs L) Ms (txs ps0)
    have hPl : (Pf ++ [pl]).length = Ms.length + 1 := by rw [e2, List.length_cons, List.length_map]
    rw [List.length_append] at hPl
    have hPl : Pf.length + 1 = Ms.length + 1 := hPl
    have hpl : FrD pl ∧ pl.length ≤ 10001 := by
      have : pl ∈ txs ps0 :: Ms.map fun M => txs M ++ [41] := by rw [← e2]; exact List.mem_append_right _ List.mem_cons_self
      rcases List.mem_cons.mp this with rfl | h
      · exact ⟨d0, by and_intros⟩
      · obtain ⟨M, hm, rfl⟩ := List.mem_map.mp h
        exact ⟨(frD_txs (hM M hm)).app frD_41, by rw [List.length_append]; have := hMl M hm; show _ + 1 ≤ _; and_intros⟩
    have hR2 : Pf ++ [pl, txs L] = txs ps0 :: ((Ms.map fun M => txs M ++ [41]) ++ [txs L]) := by
      rw [show Pf ++ [pl, txs L] = (Pf ++ [pl]) ++ [txs L] by simp, e2]; rfl
    have hjo : joinT (fsts ps0) ((Ms ++ [L]).map fsts) = [40, 63, 115, 58] ++ (txs ps0 ++ ((Ms.map atom).flatten ++ (DS ++ txs L))) ++ [41, 92, 90] := by
      unfold joinT
      rw [segOut_last]; rfl
    refine rows_gen (I := txs ps0 ++ ((Ms.map atom).flatten ++ (DS ++ txs L))) (A0 := txs ps0) (pl := pl ++ (DS ++ txs L)) (P := pcs (txs L) (txs ps0) Ms) (Pf := Pf) (D := [pl, txs L]) (La := [txs L]) (Mi := Ms.map fun M => txs M ++ [41]) (g := fun z => pslice z none (some (-1)))
      hjo hW (pcs_split (fr1_txs hLz) Ms (txs ps0) f0 hM) ?_ ?_ (frD_two hpl.1 (frD_txs hLz)) ?_ ?_ ?_ ?_ (by rw [hR2]; rfl) ?_ ?_ ?_ hp
    · rw [e1, pidx_last, List.getLast?_concat]
    · rw [e1]; exact pslice_front Pf [_] rfl Nat.one_pos
    · rw [List.length_append, List.length_append]; show _ + (2 + _) ≤ _; and_intros
    · rw [e1, List.length_append, List.length_append]; show Pf.length + 1 ≤ _ ∧ Pf.length + 2 ≤ _; and_intros
    · rw [hR2]; exact pslice_last (Ms.map fun M => txs M ++ [41]) [txs L] rfl Nat.one_pos
    · rw [hR2]; exact pslice_inner (i := 1) (j := -1) [txs ps0] (Ms.map fun M => txs M ++ [41]) [txs L] rfl rfl Nat.one_pos
    · intro z hz
      obtain ⟨M, hm, rfl⟩ := List.mem_map.mp hz
      refine ⟨by rw [List.length_append]; have := hMl M hm; show _ + 1 ≤ _; and_intros, rfl⟩
    · have e3 : ((Ms.map fun M => txs M ++ [41]).map fun z => pslice z none (some (-1))) = Ms.map txs := by
        rw [List.map_map]; exact List.map_congr_left fun M _ => pslice_front (txs M) [41] rfl Nat.one_pos
      rw [e3, List.map_map]
      show txs ps0 ++ ((Ms.map atom).flatten ++ (DS ++ txs L)) = txs ps0 ++ (Ms.map _).flatten ++ ((DS ++ txs L) ++ [])
      rw [List.append_nil, List.append_assoc]
      congr 3
    · have e3 : ((Ms.map fun M => txs M ++ [41]).map fun z => pslice z none (some (-1))) = Ms.map txs := by
        rw [List.map_map]; exact List.map_congr_left fun M _ => pslice_front (txs M) [41] rfl Nat.one_pos
      rw [e3, List.map_cons, List.map_append]; rfl
end Mine

namespace Mine

theorem ok_il {n : Nat} : ∀ {l : List Nat}, okDs n (il l) = true
  | [] => rfl
  | x :: r => ok_il (l := r)
theorem ev_and2 {F : PF1} {O : Owns} {G : Slots} {a b : PE} {t : Bool} {v : PV} (h : ev F O G a = some (.bool t)) (h2 : t = true → ev F O G b = some v) (h3 : t = false → v = .bool false) : ev F O G (.and2 a b) = some v := by
  refine bind_eq h (bind_eq (a := t) rfl ?_)
  cases t with
  | true => exact h2 rfl
  | false => rw [h3 rfl]; rfl
theorem prng1 {x : Int} : prng [.int x] = if x.natAbs ≤ LIM then some (prange 0 x) else none := rfl
theorem prng2 {x y : Int} : prng [.int x, .int y] = if x.natAbs ≤ LIM ∧ y.natAbs ≤ LIM then some (prange x y) else none := rfl
theorem rng1 {F : PF1} {O : Owns} {G : Slots} {e : PE} {n : Nat} (h : ev F O G e = some (.int n)) (hb : n ≤ LIM) : evI F O G (.rng (.cons e .nil)) = some (il (List.range n)) := by
  refine bind_eq (evs_c h rfl) (prng1.trans ((if_pos (by rw [Int.natAbs_natCast]; exact hb)).trans (congrArg some ?_)))
  unfold prange il
  rw [show ((n : Int) - 0).toNat = n by and_intros]
  exact List.map_congr_left fun k _ => congrArg PV.int (Int.zero_add _)
theorem rng2 {F : PF1} {O : Owns} {G : Slots} {e f : PE} {a b : Nat} (h : ev F O G e = some (.int a)) (h2 : ev F O G f = some (.int b)) (ha : a ≤ LIM) (hb : b ≤ LIM) : evI F O G (.rng (.cons e (.cons f .nil))) = some (il ((List.range (b - a)).map (a + ·))) := by
  refine bind_eq (evs_c h (evs_c h2 rfl)) (prng2.trans ((if_pos ⟨by rw [Int.natAbs_natCast]; exact ha, by rw [Int.natAbs_natCast]; exact hb⟩).trans (congrArg some ?_)))
  unfold prange il
  rw [show ((b : Int) - (a : Int)).toNat = b - a by and_intros, List.map_map]
  exact List.map_congr_left fun k _ => congrArg PV.int (Int.natCast_add a k).symm

/-- does a row fit at a place -/
noncomputable def fitsB (r : List (List Nat)) (w : List Nat) (a : Nat) : Bool := decide (a + r.length ≤ w.length) && ((List.range r.length).filter fun k => !pisIn [w.getD (a + k) 0] (r.getD k [])).isEmpty
theorem fits_run (n : Nat) {r : List (List Nat)} {w : List Nat} {a : Nat} (hr : r.length ≤ 1000) (hw : w.length ≤ 1000) (ha : a ≤ 1000) : R (n + 1) "_law_fits" [.list (tl r), .str w, .int a] = some (.bool (fitsB r w a)) := by
  have hL : LIM = 1048576 := rfl
  rw [run_eq (e := ⟨5, 3, p_fits⟩) rfl (by decide) (by decide +kernel) (by decide +kernel) rfl]
  have f0 : frzN ([] : Owns) (.list (tl r)) = some (.list (tl r)) := frz_val rfl (noOwn_tl r)
  refine pfun_ret (σ := ⟨[some (.list (tl r)), some (.str w), some (.int a), none, none], []⟩) (exs_stop (ret_e ?_) nofun) rfl
  have eG : ([some (PV.list (tl r)), some (.str w), some (.int a), none, none].map fun v => v.bind (frzN ([] : Owns))) = [some (.list (tl r)), some (.str w), some (.int a), none, none] := by
    show [frzN ([] : Owns) (.list (tl r)), _, _, _, _] = _
    rw [f0]; rfl
  show ev (R n) [] (([some (PV.list (tl r)), some (.str w), some (.int a), none, none] : Slots).map fun v => v.bind (frzN ([] : Owns))) _ = _
  rw [eG]
  have hlr : ∀ {G : Slots} {e : PE}, ev (R n) [] G e = some (.list (tl r)) → ev (R n) [] G (.bi .len (.cons e .nil)) = some (.int r.length) := fun h => (len_l h (by rw [tl_len]; and_intros)).trans (by rw [tl_len])
  refine ev_and2 (t := decide (a + r.length ≤ w.length)) (cmp_e (x := .int (a + r.length : Nat)) (y := .int w.length) (bin_e (x := .int a) (y := .int r.length) rfl (hlr rfl) rfl) (len_s rfl (by and_intros)) (congrArg some (decide_eq_decide.mpr Int.ofNat_le))) (fun hle => ?_) (fun hle => ?_)
  · have hle := of_decide_eq_true hle
    unfold fitsB
    rw [decide_eq_true hle, Bool.true_and]
    refine cmp_e (x := .list (il ((List.range r.length).filter fun k => !pisIn [w.getD (a + k) 0] (r.getD k [])))) (bind_eq (rng1 (hlr rfl) (by and_intros)) (map_eq (mapO_F (c := fun i : Nat => PV.int i) (g := fun i : Nat => PV.int i) (p := fun k => !pisIn [w.getD (a + k) 0] (r.getD k [])) fun k hk => ?_))) rfl ((eqNil ⟨rfl, rfl⟩ rfl ok_il).trans ?_)
    · have hk := List.mem_range.mp hk
      have e1 : pt (R n) [] [none, some (.int k), some (.int a), some (.str w), some (.list (tl r))] (.cmp .nin (.idx (.var 3) (.bin .add (.var 2) (.var 1))) (.idx (.var 4) (.var 1))) = some (!pisIn [w.getD (a + k) 0] (r.getD k [])) :=
        cmp_t (idx_s (i := (a + k : Nat)) (c := w.getD (a + k) 0) rfl rfl (nb rfl (by and_intros)) (pidx_nat.trans (by rw [List.getD_eq_getElem?_getD, List.getElem?_eq_getElem (by and_intros)]; rfl)))
          (idx_tl (ls := r) (i := (k : Nat)) (c := r.getD k []) rfl rfl (nb rfl (by and_intros)) (pidx_nat.trans (by rw [List.getD_eq_getElem?_getD, List.getElem?_eq_getElem hk]; rfl))) rfl
      refine bind_eq (a := !pisIn [w.getD (a + k) 0] (r.getD k [])) (bind_eq e1 ?_) ?_
      · cases !pisIn [w.getD (a + k) 0] (r.getD k []) <;> rfl
      · cases !pisIn [w.getD (a + k) 0] (r.getD k []) <;> rfl
    · cases (List.range r.length).filter fun k => !pisIn [w.getD (a + k) 0] (r.getD k []) <;> rfl
  · unfold fitsB; rw [hle]; rfl
end Mine

namespace Mine

noncomputable abbrev Rw := List (List Nat)
/-- the places from a on at which a row fits -/
noncomputable def fitAt (M : Rw) (w : List Nat) (a : Nat) : List Nat := ((List.range (w.length + 1 - a)).map (a + ·)).filter fun k => fitsB M w k
noncomputable def runB (w : List Nat) : Nat → List Rw → Option Nat
  | a, [] => some a
  | a, M :: Ms => (fitAt M w a).head?.bind fun k => runB w (k + M.length) Ms
noncomputable def takesB (r0 : Rw) (segs : List Rw) (w : List Nat) : Bool :=
  fitsB r0 w 0 && (match segs.getLast? with
    | none => decide (w.length = r0.length)
    | some L => match runB w r0.length segs.dropLast with
      | none => false
      | some a => decide (a + L.length ≤ w.length) && fitsB L w (w.length - L.length))

noncomputable def tkS (rs : List PV) (w : List Nat) (x2 x3 x4 x5 : Option PV) : St := ⟨[some (.list rs), some (.str w), x2, x3, x4, x5, none, none, none], []⟩
theorem fitsB_le {r : Rw} {w : List Nat} {a : Nat} (h : fitsB r w a = true) : a + r.length ≤ w.length := of_decide_eq_true (and_t h).1
section
variable {n : Nat} {rs : List PV} {w : List Nat} {x3 x4 x5 : Option PV}
theorem tk_step {M : Rw} {a : Nat} (hM : M.length ≤ 1000) (hw : w.length ≤ 900) (ha : a ≤ w.length) :
    ∃ x3' x4', match (fitAt M w a).head? with
      | none => exs FUEL (R (n + 1)) tkBody (tkS rs w (some (.int a)) (some (.list (tl M))) x4 x5) = some (tkS rs w (some (.int a)) x3' x4' x5, .ret (.bool false))
      | some k => k + M.length ≤ w.length ∧ exs FUEL (R (n + 1)) tkBody (tkS rs w (some (.int a)) (some (.list (tl M))) x4 x5) = some (tkS rs w (some (.int (k + M.length : Nat))) x3' x4' x5, .next) := by
  have hL : LIM = 1048576 := rfl
  refine ⟨some (.list (tl M)), some (.list (il (fitAt M w a))), ?_⟩
  have e1 : ev (R (n + 1)) [] (tkS rs w (some (.int a)) (some (.list (tl M))) x4 x5).G (.comp (.var 1) 1 (.rng (.cons (.var 2) (.cons (.bin .add (.bi .len (.cons (.var 1) .nil)) (.ci 1)) .nil))) (.cons (.call "_law_fits" (.cons (.var 4) (.cons (.var 3) (.cons (.var 1) .nil)))) .nil) [none, none, none, some 1, some 3]) = some (.list (il (fitAt M w a))) := by
    refine bind_eq (rng2 (a := a) (b := w.length + 1) rfl (bin_e (len_s rfl (by and_intros)) rfl rfl) (by and_intros) (by and_intros)) (map_eq (mapO_F (c := fun i : Nat => PV.int i) (g := fun i : Nat => PV.int i) (p := fun k => fitsB M w k) fun k hk => ?_))
    obtain ⟨j, hj, rfl⟩ := List.mem_map.mp hk
    have hj := List.mem_range.mp hj
    have e2 := callT (F := R (n + 1)) (O := []) (G := [none, some (.int (a + j : Nat)), none, some (.str w), some (.list (tl M))]) (es := .cons (.var 4) (.cons (.var 3) (.cons (.var 1) .nil))) (vs := [.list (tl M), .str w, .int (a + j : Nat)]) rfl (Bool.and_eq_true_iff.mpr ⟨noOwn_tl M, rfl⟩) (fits_run n hM (by and_intros) (by and_intros))
    refine bind_eq (a := fitsB M w (a + j)) (bind_eq e2 ?_) ?_
    · cases fitsB M w (a + j) <;> rfl
    · cases fitsB M w (a + j) <;> rfl
  have e3 : ∀ {t : Bool}, (il (fitAt M w a)).isEmpty = t → pt (R (n + 1)) [] (tkS rs w (some (.int a)) (some (.list (tl M))) (some (.list (il (fitAt M w a)))) x5).G (.cmp .eq (.var 4) (.lst .nil)) = some t := fun ht => cmp_t rfl rfl ((eqNil ⟨rfl, rfl⟩ rfl ok_il).trans (congrArg some ht))
  cases hf : fitAt M w a with
  | nil =>
    rw [hf] at e1 e3
    exact exs_next (asg_e (i := 4) e1) (exs_stop (ite_t (e3 rfl) (exs_stop (ret_e rfl) nofun)) nofun)
  | cons k q =>
    have hk : fitsB M w k = true := (List.mem_filter.mp (show k ∈ fitAt M w a by rw [hf]; exact List.mem_cons_self)).2
    rw [hf] at e1 e3
    exact ⟨fitsB_le hk, exs_next (asg_e (i := 4) e1) (exs_next (ite_f (e3 rfl) rfl) (exs_one (asg_e (i := 2) (v := .int (k + M.length : Nat)) (bin_e (x := .int k) (y := .int M.length) (idx_l (l := il (k :: q)) rfl rfl (by decide) rfl) ((len_l rfl (by rw [tl_len]; and_intros)).trans (by rw [tl_len])) rfl))))⟩
theorem tk_loop (hw : w.length ≤ 900) : ∀ (Ms : List Rw) (a : Nat) (x3 x4 : Option PV), (∀ M ∈ Ms, M.length ≤ 1000) → a ≤ w.length →
    ∃ x3' x4', match runB w a Ms with
      | none => ∃ b : Nat, frIt 3 (fun σ => exs FUEL (R (n + 1)) tkBody σ) (rowsV Ms) (tkS rs w (some (.int a)) x3 x4 x5) = some (tkS rs w (some (.int b)) x3' x4' x5, .ret (.bool false))
      | some b => b ≤ w.length ∧ frIt 3 (fun σ => exs FUEL (R (n + 1)) tkBody σ) (rowsV Ms) (tkS rs w (some (.int a)) x3 x4 x5) = some (tkS rs w (some (.int b)) x3' x4' x5, .next)
  | [], a, x3, x4, _, ha => ⟨x3, x4, ha, rfl⟩
  | M :: Ms, a, x3, x4, hM, ha => by
    obtain ⟨z3, z4, e⟩ := tk_step (n := n) (rs := rs) (x4 := x4) (x5 := x5) (hM M List.mem_cons_self) hw ha
    have er : runB w a (M :: Ms) = (fitAt M w a).head?.bind fun k => runB w (k + M.length) Ms := rfl
    rw [er]
    cases hf : (fitAt M w a).head? with
    | none =>
      rw [hf] at e
      exact ⟨z3, z4, a, bind_eq e rfl⟩
    | some k =>
      rw [hf] at e
      obtain ⟨y3, y4, e2⟩ := tk_loop hw Ms (k + M.length) z3 z4 (fun N hN => hM N (List.mem_cons_of_mem _ hN)) e.1
      refine ⟨y3, y4, ?_⟩
      show match runB w (k + M.length) Ms with | none => _ | some b => _
      cases hr : runB w (k + M.length) Ms with
      | none => rw [hr] at e2; obtain ⟨b, e2⟩ := e2; exact ⟨b, frIt_c e.2 e2⟩
      | some b => rw [hr] at e2; exact ⟨e2.1, frIt_c e.2 e2.2⟩
end
end Mine

namespace Mine

theorem frz_tk {rs : List PV} {w : List Nat} {x2 x3 x4 x5 : Option PV} (hr : noOwnL rs = true) : ∃ y2 y3 y4 y5, (tkS rs w x2 x3 x4 x5).G.map (fun v => v.bind (frzN ([] : Owns))) = [some (.list rs), some (.str w), y2, y3, y4, y5, none, none, none] ∧ (∀ i : Int, x2 = some (.int i) → y2 = some (.int i)) ∧ (∀ i : Int, x5 = some (.int i) → y5 = some (.int i)) := by
  refine ⟨x2.bind (frzN []), x3.bind (frzN []), x4.bind (frzN []), x5.bind (frzN []), ?_, fun i h => ?_, fun i h => ?_⟩
  · show [frzN ([] : Owns) (.list rs), _, _, _, _, _, _, _, _] = _
    rw [frz_val rfl (show noOwn (.list rs) = true from hr)]; rfl
  · rw [h]; rfl
  · rw [h]; rfl
theorem geI {O : Owns} {i j : Int} : pcmp O .ge (.int i) (.int j) = some (decide (j ≤ i)) := rfl
theorem eqN {O : Owns} {i j : Nat} : pcmp O .eq (.int (i : Nat)) (.int (j : Nat)) = some (decide (i = j)) := congrArg some (by
  rw [Bool.eq_iff_iff, beq_iff_eq, decide_eq_true_eq]; exact Int.ofNat_inj)
theorem takes_run (n : Nat) {r0 : Rw} {segs : List Rw} {w : List Nat} (hr : ∀ r ∈ r0 :: segs, r.length ≤ 800) (hs : segs.length ≤ 900) (hw : w.length ≤ 900) : R (n + 2) "_law_takes" [.list (rowsV (r0 :: segs)), .str w] = some (.bool (takesB r0 segs w)) := by
  have hL : LIM = 1048576 := rfl
  rw [run_eq (e := ⟨9, 2, p_takes⟩) rfl (by decide) (by decide +kernel) (by decide +kernel) rfl]
  have h0 := hr r0 List.mem_cons_self
  have hno := noOwn_rows (r0 :: segs)
  obtain ⟨rs, hrs⟩ : ∃ rs, rs = rowsV (r0 :: segs) := ⟨_, rfl⟩
  have hrl : rs.length = segs.length + 1 := by rw [hrs, rowsV, List.length_map]; rfl
  have hi0 : pidx rs 0 = some (.list (tl r0)) := by rw [hrs]; rfl
  rw [← hrs] at hno ⊢
  have ix0 : ∀ {G : Slots}, G[0]? = some (some (.list rs)) → ev (R (n + 1)) [] G (.idx (.var 0) (.ci 0)) = some (.list (tl r0)) := fun h => idx_l (l := rs) (ev_varE h) rfl (by decide) hi0
  have lw : ∀ {G : Slots}, G[1]? = some (some (.str w)) → ev (R (n + 1)) [] G (.bi .len (.cons (.var 1) .nil)) = some (.int w.length) := fun h => len_s (ev_varE h) (by and_intros)
  have c1 : pt (R (n + 1)) [] (tkS rs w none none none none).G (.call "_law_fits" (.cons (.idx (.var 0) (.ci 0)) (.cons (.var 1) (.cons (.ci 0) .nil)))) = some (fitsB r0 w 0) :=
    callT (evs_c (ix0 rfl) (evs_c (v := .str w) rfl (evs_c (v := .int (0 : Nat)) rfl rfl))) (Bool.and_eq_true_iff.mpr ⟨noOwn_tl r0, rfl⟩) (fits_run n (by and_intros) (by and_intros) (Nat.zero_le _))
  unfold takesB
  cases hf : fitsB r0 w 0 with
  | false =>
    rw [hf] at c1
    exact pfun_ret (σ := tkS rs w none none none none) (exs_stop (ite_t (pt_not c1) (exs_stop (ret_e rfl) nofun)) nofun) rfl
  | true =>
    rw [hf] at c1
    have hle := fitsB_le hf
    rw [Bool.true_and]
    have st : ∀ {σ : St} {v : PV} {X}, noOwn v = true → exs FUEL (R (n + 1)) X (tkS rs w (some (.int r0.length)) none none none) = some (σ, .ret v) → p_takes = .cons (.ite (.not (.call "_law_fits" (.cons (.idx (.var 0) (.ci 0)) (.cons (.var 1) (.cons (.ci 0) .nil))))) (.cons (.ret (.cb false)) .nil) .nil) (.cons (.asg 2 (.bi .len (.cons (.idx (.var 0) (.ci 0)) .nil))) X) → pfun FUEL (R (n + 1)) 9 p_takes [.list rs, .str w] = some v := fun {σ v X} hv hX hp => by
      rw [hp]
      exact pfun_ret (σ := σ) (exs_next (σ' := tkS rs w none none none none) (ite_f (pt_not c1) rfl) (exs_next (asg_e (i := 2) (v := .int r0.length) ((len_l (ix0 rfl) (by rw [tl_len]; and_intros)).trans (by rw [tl_len]))) hX)) hv
    obtain ⟨y2, y3, y4, y5, eG, f2, f5⟩ := frz_tk (w := w) (x2 := some (.int r0.length)) (x3 := none) (x4 := none) (x5 := none) hno
    rcases List.eq_nil_or_concat segs with rfl | ⟨Ms, L, rfl⟩
    · refine st rfl (exs_stop (ite_t (cmp_t (len_l (l := rs) rfl (by rw [hrl]; show 1 ≤ LIM; decide)) rfl (by rw [hrl]; rfl)) (exs_stop (ret_e (?_ : ev _ [] ((tkS rs w (some (.int r0.length)) none none none).G.map fun v => v.bind (frzN ([] : Owns))) _ = _)) nofun)) nofun) rfl
      rw [eG]
      exact cmp_e (lw rfl) (ev_varE (congrArg some (f2 _ rfl))) eqN
    · rw [List.concat_eq_append] at hr hs hrl hrs ⊢
      have hlL := hr L (List.mem_cons_of_mem _ (List.mem_append_right _ List.mem_cons_self))
      rw [List.getLast?_concat, List.dropLast_concat]
      rw [List.length_append] at hs hrl
      have hs : Ms.length + 1 ≤ 900 := hs
      have hrl : rs.length = Ms.length + 1 + 1 := hrl
      have hsl : pslice rs (some 1) (some (-1)) = rowsV Ms := by
        rw [hrs, rowsV, pslice_map]; exact congrArg (List.map _) (pslice_inner (i := 1) (j := -1) [r0] Ms [L] rfl rfl Nat.one_pos)
      have hil : pidx rs (-1) = some (.list (tl L)) := by
        rw [pidx_last, hrs, rowsV, List.getLast?_map, show r0 :: (Ms ++ [L]) = (r0 :: Ms) ++ [L] from rfl, List.getLast?_concat]; rfl
      have ixL : ∀ {G : Slots}, G[0]? = some (some (.list rs)) → ev (R (n + 1)) [] G (.idx (.var 0) (.ci (-1))) = some (.list (tl L)) := fun h => idx_l (l := rs) (ev_varE h) rfl (by decide) hil
      have hit : evIF (R (n + 1)) [] (tkS rs w (some (.int r0.length)) none none none).G (.val (.sl (.var 0) (.ci 1) (.ci (-1)))) = some (rowsV Ms) :=
        itF_l (sl_l (l := rs) (r := rowsV Ms) rfl rfl rfl rfl rfl (by and_intros) hsl) (by rw [rowsV, List.length_map]; and_intros)
      have hlen : pt (R (n + 1)) [] (tkS rs w (some (.int r0.length)) none none none).G (.cmp .eq (.bi .len (.cons (.var 0) .nil)) (.ci 1)) = some false := cmp_t (len_l (l := rs) rfl (by and_intros)) rfl (eqI0 (by and_intros))
      obtain ⟨z3, z4, e⟩ := tk_loop (n := n) (rs := rs) (x5 := none) hw Ms r0.length none none (fun M hM => Nat.le_trans (hr M (List.mem_cons_of_mem _ (List.mem_append_left _ hM))) (by decide)) (by and_intros)
      cases hrun : runB w r0.length Ms with
      | none =>
        rw [hrun] at e
        obtain ⟨b, e⟩ := e
        exact st rfl (exs_next (ite_f hlen rfl) (exs_stop (fr_e hit e) nofun)) rfl
      | some b =>
        rw [hrun] at e
        obtain ⟨hb, e⟩ := e
        show _ = some (PV.bool (decide (b + List.length L ≤ w.length) && fitsB L w (w.length - List.length L)))
        obtain ⟨y2, y3, y4, y5, eG, f2, f5⟩ := frz_tk (w := w) (x2 := some (.int b)) (x3 := z3) (x4 := z4) (x5 := some (.int ((w.length : Int) - L.length))) hno
        refine st rfl (exs_next (ite_f hlen rfl) (exs_next (fr_e hit e) (exs_next (asg_e (i := 5) (v := .int ((w.length : Int) - L.length)) (bin_e (lw rfl) ((len_l (ixL rfl) (by rw [tl_len]; and_intros)).trans (by rw [tl_len])) rfl)) (exs_stop (ret_e (?_ : ev _ [] ((tkS rs w (some (.int b)) z3 z4 (some (.int ((w.length : Int) - L.length)))).G.map fun v => v.bind (frzN ([] : Owns))) _ = _)) nofun)))) rfl
        rw [eG]
        refine ev_and2 (t := decide (b + L.length ≤ w.length)) (cmp_e (ev_varE (congrArg some (f5 _ rfl))) (ev_varE (congrArg some (f2 _ rfl))) (geI.trans (congrArg some (decide_eq_decide.mpr ⟨fun h => Int.ofNat_le.mp (Int.add_le_of_le_sub_right h), fun h => Int.le_sub_right_of_add_le (Int.ofNat_le.mpr h)⟩)))) (fun hq => ?_) (fun hq => by rw [hq]; rfl)
        have hq' := of_decide_eq_true hq
        rw [hq, Bool.true_and]
        refine call_e (evs_c (ixL rfl) (evs_c (v := .str w) rfl (evs_c (v := .int (w.length - L.length : Nat)) ((ev_varE (congrArg some (f5 _ rfl))).trans (congrArg (fun i => some (PV.int i)) (Int.ofNat_sub (Nat.le_trans (Nat.le_add_left _ b) (of_decide_eq_true hq))).symm)) rfl))) (Bool.and_eq_true_iff.mpr ⟨noOwn_tl L, rfl⟩) (fits_run n (by and_intros) (by and_intros) (by and_intros))
end Mine

namespace Mine

noncomputable def hasI (l : List Nat) (i : Int) : Bool := l.any fun q => (q : Int) == i
theorem inI {O : Owns} {v : PV} {l : List Nat} (hv : asS v = none ∧ asT v = none) (h : asL O v = some (il l)) (i : Int) : pcmp O .inn (.int i) v = some (hasI l i) := by
  show pin O (.int i) v = _
  unfold pin
  rw [hv.1, hv.2]
  refine bind_eq h ((if_pos (Bool.and_eq_true_iff.mpr ⟨ok_il, rfl⟩)).trans (congrArg some ?_))
  unfold il hasI
  rw [List.any_map]; rfl
theorem hasI_nat {l : List Nat} {k : Nat} : hasI l (k : Int) = l.contains k := by
  unfold hasI
  rw [Bool.eq_iff_iff, List.any_eq_true, List.contains_iff_mem]
  exact ⟨fun ⟨q, hq, e⟩ => Int.ofNat_inj.mp (beq_iff_eq.mp e) ▸ hq, fun h => ⟨k, h, beq_self_eq_true _⟩⟩

/-- is a place taken up -/
noncomputable def clT (its : Rw) (ps c : List Nat) (p : Nat) : Bool := hasI ps p || (hasI c ((p : Int) - 1) && its.getD (p - 1) [] == [42])
noncomputable def clStep (its : Rw) (ps c : List Nat) (p : Nat) : List Nat := if clT its ps c p then c ++ [p] else c
noncomputable def clo (its : Rw) (ps : List Nat) : List Nat := (List.range (its.length + 1)).foldl (clStep its ps) []
noncomputable def clS (its : Rw) (ps c : List Nat) (x3 : Option PV) : St := ⟨[some (.list (tl its)), some (.list (il ps)), some (.own 0), x3, none, none], [some (il c)]⟩
theorem cl_step {F : PF1} {its : Rw} {ps c : List Nat} {p : Nat} (hp : p ≤ its.length) (hl : its.length ≤ 1000) (hc : c.length ≤ LIM) : exs FUEL F clBody (clS its ps c (some (.int p))) = some (clS its ps (clStep its ps c p) (some (.int p)), .next) := by
  have hL : LIM = 1048576 := rfl
  have t : pt F (clS its ps c (some (.int p))).O (clS its ps c (some (.int p))).G (.or2 (.cmp .inn (.var 3) (.var 1)) (.and2 (.cmp .inn (.bin .sub (.var 3) (.ci 1)) (.var 2)) (.cmp .eq (.idx (.var 0) (.bin .sub (.var 3) (.ci 1))) (.cs [42])))) = some (clT its ps c p) := by
    unfold clT
    have e1 : pt F (clS its ps c (some (.int p))).O (clS its ps c (some (.int p))).G (.cmp .inn (.var 3) (.var 1)) = some (hasI ps p) := cmp_t rfl rfl (inI ⟨rfl, rfl⟩ rfl p)
    cases h1 : hasI ps p with
    | true => rw [h1] at e1; exact or2_t e1
    | false =>
      rw [h1] at e1
      refine or2_f e1 ?_
      have e2 : pt F (clS its ps c (some (.int p))).O (clS its ps c (some (.int p))).G (.cmp .inn (.bin .sub (.var 3) (.ci 1)) (.var 2)) = some (hasI c ((p : Int) - 1)) := cmp_t (x := .int ((p : Int) - 1)) rfl rfl (inI ⟨rfl, rfl⟩ rfl _)
      cases h2 : hasI c ((p : Int) - 1) with
      | false => rw [h2] at e2; exact and2_f e2
      | true =>
        rw [h2] at e2
        refine and2_t e2 ?_
        obtain ⟨q, _, hq⟩ := List.any_eq_true.mp h2
        have hq := beq_iff_eq.mp hq
        obtain rfl : p = q + 1 := Int.ofNat_inj.mp ((Int.sub_add_cancel (p : Int) 1).symm.trans (congrArg (· + 1) hq.symm))
        exact cmp_t (idx_tl (ls := its) (i := ((q + 1 : Nat) : Int) - 1) (c := its.getD (q + 1 - 1) []) rfl rfl (nb hq.symm (by and_intros)) (by
          rw [← hq, pidx_nat]
          show its[q]? = some (its.getD q [])
          rw [List.getD_eq_getElem?_getD, List.getElem?_eq_getElem hp]; rfl)) rfl rfl
  unfold clStep
  refine exs_one (ite_b t (fun q => ?_) (fun q => ?_))
  · rw [if_pos q]
    refine exs_one ((app_e (k := 0) (vs := il c) rfl rfl rfl (by rw [il_len]; exact hc)).trans ?_)
    unfold clS il
    rw [List.map_append]; rfl
  · rw [q]; rfl
theorem cl_loop {F : PF1} {its : Rw} {ps : List Nat} (hl : its.length ≤ 1000) : ∀ (l c : List Nat) (x3 : Option PV), (∀ p ∈ l, p ≤ its.length) → c.length + l.length ≤ LIM → ∃ y3, frIt 3 (fun σ => exs FUEL F clBody σ) (il l) (clS its ps c x3) = some (clS its ps (l.foldl (clStep its ps) c) y3, .next)
  | [], c, x3, _, _ => ⟨x3, rfl⟩
  | p :: l, c, x3, hp, hc => by
    rw [List.length_cons] at hc
    have h1 : (clStep its ps c p).length ≤ c.length + 1 := by
      unfold clStep; split
      · rw [List.length_append]; exact Nat.le_refl _
      · exact Nat.le_succ _
    obtain ⟨y3, e⟩ := cl_loop (F := F) hl l (clStep its ps c p) (some (.int p)) (fun q hq => hp q (List.mem_cons_of_mem _ hq)) (by and_intros)
    exact ⟨y3, frIt_c (cl_step (hp p List.mem_cons_self) hl (by and_intros)) e⟩
theorem closed_run (n : Nat) {its : Rw} {ps : List Nat} (hl : its.length ≤ 900) : R (n + 1) "_law_closed" [.list (tl its), .list (il ps)] = some (.list (il (clo its ps))) := by
  have hL : LIM = 1048576 := rfl
  rw [run_eq (e := ⟨6, 2, p_closed⟩) rfl (by decide) (by decide +kernel) (by decide +kernel) rfl]
  obtain ⟨y3, e⟩ := cl_loop (F := R n) (its := its) (ps := ps) (by and_intros) (List.range (its.length + 1)) [] none (fun p hp => by have := List.mem_range.mp hp; and_intros) (by rw [List.length_range]; show 0 + _ ≤ _; and_intros)
  have hr : evIF (R n) (clS its ps [] none).O (clS its ps [] none).G (.rng (.cons (.bin .add (.bi .len (.cons (.var 0) .nil)) (.ci 1)) .nil)) = some (il (List.range (its.length + 1))) :=
    rng1 (bin_e (x := .int its.length) ((len_l rfl (by rw [tl_len]; and_intros)).trans (by rw [tl_len])) rfl rfl) (by and_intros)
  refine pfun_ret (σ := clS its ps (clo its ps) y3) (exs_next (σ' := clS its ps [] none) rfl (exs_next (fr_e hr e) (exs_stop (ret_e (ev_varE ?_)) nofun))) (noOwn_il _)
  exact congrArg some (frz_own rfl (noOwn_il _))
end Mine

namespace Mine

noncomputable def setsV (D : List (List Nat)) : List PV := D.map fun s => .list (il s)
theorem ok_sets : ∀ {n : Nat} {D : List (List Nat)}, okDs (n + 1) (setsV D) = true
  | _, [] => rfl
  | n, s :: D => Bool.and_eq_true_iff.mpr ⟨ok_il, ok_sets (D := D)⟩
theorem noOwn_sets : ∀ {D : List (List Nat)}, noOwnL (setsV D) = true
  | [] => rfl
  | s :: D => Bool.and_eq_true_iff.mpr ⟨noOwn_il s, noOwn_sets (D := D)⟩
theorem pveq_il : ∀ s a : List Nat, pveqL (il s) (il a) = (s == a)
  | [], [] => rfl
  | [], _ :: _ => rfl
  | _ :: _, [] => rfl
  | x :: s, y :: a => by
    show (((x : Int) == (y : Int)) && pveqL (il s) (il a)) = ((x == y) && (s == a))
    rw [pveq_il s a]
    congr 1
    rw [Bool.eq_iff_iff, beq_iff_eq, beq_iff_eq]; exact Int.ofNat_inj
theorem any_sets (D : List (List Nat)) (a : List Nat) : ((setsV D).any fun y => pveq y (.list (il a))) = D.contains a := by
  unfold setsV
  rw [List.any_map, Bool.eq_iff_iff, List.any_eq_true, List.contains_iff_mem]
  constructor
  · rintro ⟨s, hs, e⟩
    have e : pveqL (il s) (il a) = true := e
    rw [pveq_il] at e
    exact beq_iff_eq.mp e ▸ hs
  · exact fun h => ⟨a, h, (pveq_il a a).trans (beq_self_eq_true a)⟩
theorem ninSets {O : Owns} {v : PV} {D : List (List Nat)} {a : List Nat} (hv : asS v = none ∧ asT v = none) (h : asL O v = some (setsV D)) : pcmp O .nin (.list (il a)) v = some (!D.contains a) := by
  refine congrArg (Option.map (!·)) (?_ : pin O (.list (il a)) v = some (D.contains a))
  unfold pin
  rw [hv.1, hv.2]
  exact bind_eq h ((if_pos (Bool.and_eq_true_iff.mpr ⟨ok_sets, ok_il⟩)).trans (congrArg some (any_sets D a)))
theorem inSetI {O : Owns} {l : List Nat} {i : Nat} : pcmp O .inn (.int (i : Nat)) (.list (il l)) = some (l.contains i) := (inI ⟨rfl, rfl⟩ rfl _).trans (congrArg some hasI_nat)
theorem idx_sets {D : List (List Nat)} {a : List Nat} : ((setsV D).findIdx? fun y => pveq y (.list (il a))) = D.findIdx? (· == a) := by
  unfold setsV
  rw [List.findIdx?_map]
  congr 1
  funext s
  exact pveq_il s a

/-- the automaton's step -/
noncomputable def rowOf (its : Rw) : Rw := its ++ [[]]
noncomputable def stays (its : Rw) (S : List Nat) : List Nat := S.filter fun p => (rowOf its).getD p [] == [42]
noncomputable def goes (its : Rw) (S : List Nat) (c : Nat) : List Nat := (S.filter fun p => pisIn [c] ((rowOf its).getD p [])).map (· + 1)
noncomputable def stepS (its : Rw) (S : List Nat) (c : Nat) : List Nat := clo its (stays its S ++ goes its S c)
noncomputable def addSt (D : List (List Nat)) (a : List Nat) : List (List Nat) := if D.contains a then D else D ++ [a]

noncomputable def mcS (its : Rw) (D : List (List Nat)) (mv : List (List Nat)) (k : Nat) (x5 x6 x7 : Option PV) : Mine.St := ⟨[some (.list (tl its)), some (.own 0), some (.own 1), some (.int k), some (.list (tl (rowOf its))), x5, x6, x7, none, none, none], [some (setsV D), some (tl mv)]⟩
theorem pbi_chr {O : Owns} {i : Int} : pbi O .chr [.int i] = if 0xE000 ≤ i ∧ i < 0x110000 then some (.str [i.toNat]) else none := rfl
theorem chr_e {O : Owns} {k : Nat} (h : k ≤ 1000) : pbi O .chr [.int ((57344 + k : Nat) : Int)] = some (.str [57344 + k]) := by
  rw [pbi_chr, if_pos (by and_intros), Int.toNat_natCast]
theorem pme_index {O : Owns} {o x : PV} : pme O .index o [x] = pindex O o x := rfl
section
variable {n : Nat} {its : Rw} {D : List (List Nat)} {mv : List (List Nat)} {k : Nat} {S : List Nat} {x5 x6 x7 : Option PV}
theorem mc_for {c j : Nat} (hc : c < 0x110000) (hl : its.length ≤ 900) (hS : D[k]? = some S) (hp : ∀ p ∈ S, p ≤ its.length) (hSl : S.length ≤ 1000) (hSt : D.length ≤ 900) (hmv : mv.length ≤ 100000) (hj : (addSt D (stepS its S c)).findIdx? (· == stepS its S c) = some j) (hk : k ≤ 900) :
    exs FUEL (R (n + 1)) mcFor (mcS its D mv k (some (.list (il (stays its S)))) (some (.str [c])) x7) = some (mcS its (addSt D (stepS its S c)) (mv ++ [[57344 + k, c], [c, 57344 + j]]) k (some (.list (il (stays its S)))) (some (.str [c])) (some (.list (il (stepS its S c)))), .next) := by
  have hL : LIM = 1048576 := rfl
  have hrow : (rowOf its).length = its.length + 1 := List.length_append
  have e1 : ev (R (n + 1)) (mcS its D mv k (some (.list (il (stays its S)))) (some (.str [c])) x7).O (mcS its D mv k (some (.list (il (stays its S)))) (some (.str [c])) x7).G (.comp (.bin .add (.var 1) (.ci 1)) 1 (.val (.idx (.var 1) (.var 3))) (.cons (.cmp .inn (.var 3) (.idx (.var 2) (.var 1))) .nil) [none, none, some 4, some 6]) = some (.list (il (goes its S c))) := by
    refine bind_eq (it_l (l := il S) (idx_o (k := 0) (l := setsV D) rfl rfl rfl (nb rfl (by and_intros)) (by rw [pidx_nat, setsV, List.getElem?_map, hS]; rfl)) (by rw [il_len]; and_intros)) ?_
    refine (map_eq (mapO_F (c := fun i : Nat => PV.int i) (g := fun i : Nat => PV.int ((i + 1 : Nat) : Int)) (p := fun p => pisIn [c] ((rowOf its).getD p [])) fun p hpS => ?_)).trans (congrArg (fun l => some (PV.list l)) ?_)
    · have hp' := hp p hpS
      have e2 : pt (R (n + 1)) (mcS its D mv k (some (.list (il (stays its S)))) (some (.str [c])) x7).O [none, some (.int p), some (.list (tl (rowOf its))), some (.str [c])] (.cmp .inn (.var 3) (.idx (.var 2) (.var 1))) = some (pisIn [c] ((rowOf its).getD p [])) :=
        cmp_t rfl (idx_tl (ls := rowOf its) (i := (p : Nat)) (c := (rowOf its).getD p []) rfl rfl (nb rfl (by and_intros)) (by rw [pidx_nat, List.getD_eq_getElem?_getD, List.getElem?_eq_getElem (by and_intros)]; rfl)) rfl
      refine bind_eq (a := pisIn [c] ((rowOf its).getD p [])) (bind_eq e2 ?_) ?_
      · cases pisIn [c] ((rowOf its).getD p []) <;> rfl
      · cases pisIn [c] ((rowOf its).getD p []) <;> rfl
    · unfold goes il; rw [List.map_map]; rfl
  have hgl : (stays its S).length + (goes its S c).length ≤ LIM := by
    have h1 : (stays its S).length ≤ S.length := List.length_filter_le _ _
    have h2 : (goes its S c).length ≤ S.length := by unfold goes; rw [List.length_map]; exact List.length_filter_le _ _
    and_intros
  have hno : noOwnL [PV.list (tl its), .list (il (stays its S ++ goes its S c))] = true := Bool.and_eq_true_iff.mpr ⟨noOwn_tl its, Bool.and_eq_true_iff.mpr ⟨noOwn_il _, rfl⟩⟩
  obtain ⟨a, ha⟩ : ∃ a, a = stepS its S c := ⟨_, rfl⟩
  rw [← ha] at hj ⊢
  refine exs_next (asg_e (i := 7) (v := .list (il a)) (call_e (vs := [.list (tl its), .list (il (stays its S ++ goes its S c))]) (evs_c rfl (evs_c (bin_e rfl e1 ((paddL (by rw [il_len, il_len]; exact hgl)).trans (congrArg (fun l => some (PV.list l)) List.map_append.symm))) rfl)) hno ((closed_run n hl).trans (by rw [ha]; rfl)))) ?_
  have hadd : (addSt D a).length ≤ D.length + 1 := by
    unfold addSt; split
    · exact Nat.le_succ _
    · rw [List.length_append]; exact Nat.le_refl _
  refine exs_next (σ' := mcS its (addSt D a) mv k (some (.list (il (stays its S)))) (some (.str [c])) (some (.list (il a)))) (ite_b (cmp_t rfl rfl (ninSets (D := D) ⟨rfl, rfl⟩ rfl)) (fun q => ?_) (fun q => ?_)) (exs_one ?_)
  · have q : D.contains a = false := not_t q
    unfold addSt
    rw [if_neg (by rw [q]; nofun)]
    refine exs_one ((app_e (k := 0) (vs := setsV D) (v := .list (il a)) rfl rfl rfl (by unfold setsV; rw [List.length_map]; and_intros)).trans ?_)
    unfold mcS setsV
    rw [List.map_append]; rfl
  · have q : D.contains a = true := by cases hq : D.contains a with
      | true => rfl
      | false => rw [hq] at q; cases q
    unfold addSt
    rw [if_pos q]; rfl
  · have hjl : j < (addSt D a).length := (List.findIdx?_eq_some_iff_getElem.mp hj).1
    have hix : pindex [some (setsV (addSt D a)), some (tl mv)] (.own 0) (.list (il a)) = some (.int j) := by
      refine bind_eq (a := setsV (addSt D a)) rfl ((if_pos (Bool.and_eq_true_iff.mpr ⟨ok_sets, Bool.and_eq_true_iff.mpr ⟨ok_il, decide_eq_true (by unfold setsV; rw [List.length_map]; and_intros)⟩⟩)).trans ?_)
      rw [idx_sets, hj]; rfl
    refine (augo_e (k := 1) (vs := tl mv) (l := tl [[57344 + k, c], [c, 57344 + j]]) rfl rfl (lst_e (evs_c (bin_e (y := .str [c]) (bi_e (evs_c (v := .int ((57344 + k : Nat) : Int)) (bin_e (x := .int 57344) (y := .int k) rfl rfl rfl) rfl) (chr_e (by and_intros))) rfl (paddS (by show 2 ≤ LIM; decide)))
      (evs_c (bin_e (x := .str [c]) rfl (bi_e (evs_c (v := .int ((57344 + j : Nat) : Int)) (bin_e (x := .int 57344) (y := .int j) rfl (me_e (x := .own 0) rfl (evs_c rfl rfl) (pme_index.trans hix)) rfl) rfl) (chr_e (by and_intros))) (paddS (by show 2 ≤ LIM; decide))) rfl))) (by rw [tl_len, tl_len]; show _ + 2 ≤ _; and_intros)).trans ?_
    unfold mcS tl
    rw [List.map_append]; rfl
end
end Mine

namespace Mine

noncomputable def subs : Nat → List (List Nat)
  | 0 => [[]]
  | n + 1 => subs n ++ (subs n).map (· ++ [n])
theorem subs_len : ∀ n, (subs n).length = 2 ^ n
  | 0 => rfl
  | n + 1 => by rw [subs, List.length_append, List.length_map, subs_len n, Nat.pow_succ]; and_intros
theorem subs_lt : ∀ {n : Nat} {s : List Nat}, s ∈ subs n → (∀ p ∈ s, p < n) ∧ s.length ≤ n
  | 0, s, h => by rw [List.mem_singleton.mp h]; exact ⟨nofun, Nat.le_refl _⟩
  | n + 1, s, h => by
    rcases List.mem_append.mp h with h | h
    · exact ⟨fun p hp => Nat.lt_succ_of_lt ((subs_lt h).1 p hp), Nat.le_succ_of_le (subs_lt h).2⟩
    · obtain ⟨t, ht, rfl⟩ := List.mem_map.mp h
      refine ⟨fun p hp => ?_, by rw [List.length_append]; exact Nat.succ_le_succ (subs_lt ht).2⟩
      rcases List.mem_append.mp hp with hp | hp
      · exact Nat.lt_succ_of_lt ((subs_lt ht).1 p hp)
      · rw [List.mem_singleton.mp hp]; exact Nat.lt_succ_self n
theorem clo_subs (its : Rw) (ps : List Nat) : ∀ m, (List.range m).foldl (clStep its ps) [] ∈ subs m
  | 0 => List.mem_singleton.mpr rfl
  | m + 1 => by
    rw [List.range_succ, List.foldl_append]
    have ih := clo_subs its ps m
    show clStep its ps _ m ∈ _
    unfold clStep
    split
    · exact List.mem_append_right _ (List.mem_map_of_mem ih)
    · exact List.mem_append_left _ ih
theorem nodup_le {α : Type} [BEq α] [LawfulBEq α] : ∀ {l m : List α}, l.Nodup → (∀ x ∈ l, x ∈ m) → l.length ≤ m.length
  | [], _, _, _ => Nat.zero_le _
  | x :: l, m, nd, h => by
    obtain ⟨n1, n2⟩ := List.nodup_cons.mp nd
    have hx := h x List.mem_cons_self
    have := nodup_le (m := m.erase x) n2 fun y hy => (List.mem_erase_of_ne fun e => n1 (by rw [← e]; exact hy)).mpr (h y (List.mem_cons_of_mem _ hy))
    rw [List.length_erase_of_mem hx] at this
    have hp : 0 < m.length := List.length_pos_of_mem hx
    rw [List.length_cons]; and_intros

noncomputable abbrev Tr := Nat × Nat × Nat
noncomputable def mvOf (tr : List Tr) : List (List Nat) := tr.flatMap fun z => [[57344 + z.1, z.2.1], [z.2.1, 57344 + z.2.2]]
theorem mvOf_len : ∀ tr : List Tr, (mvOf tr).length = 2 * tr.length
  | [] => rfl
  | z :: tr => by
    have e : mvOf (z :: tr) = [[57344 + z.1, z.2.1], [z.2.1, 57344 + z.2.2]] ++ mvOf tr := rfl
    rw [e, List.length_append, mvOf_len tr]; show 2 + 2 * tr.length = 2 * (tr.length + 1); and_intros
theorem mvOf_app (a b : List Tr) : mvOf (a ++ b) = mvOf a ++ mvOf b := List.flatMap_append
structure Sets (its : Rw) (D : List (List Nat)) : Prop where
  nd : D.Nodup
  sub : ∀ s ∈ D, s ∈ subs (its.length + 1)
theorem Sets.len {its : Rw} {D : List (List Nat)} (h : Sets its D) (hl : its.length ≤ 8) : D.length ≤ 512 := by
  have h1 := nodup_le h.nd h.sub
  rw [subs_len] at h1
  exact Nat.le_trans h1 (Nat.pow_le_pow_right (by decide) (by and_intros : its.length + 1 ≤ 9))
theorem Sets.add {its : Rw} {D : List (List Nat)} (h : Sets its D) (ps : List Nat) : Sets its (addSt D (clo its ps)) := by
  unfold addSt
  by_cases q : D.contains (clo its ps) = true
  · rw [if_pos q]; exact h
  · rw [if_neg q]
    refine ⟨List.nodup_append.mpr ⟨h.nd, List.nodup_cons.mpr ⟨nofun, List.nodup_nil⟩, fun a ha b hb e => q ?_⟩, fun s hs => ?_⟩
    · rw [List.mem_singleton.mp hb] at e
      exact List.contains_iff_mem.mpr (e ▸ ha)
    · rcases List.mem_append.mp hs with hs | hs
      · exact h.sub s hs
      · rw [List.mem_singleton.mp hs]; exact clo_subs its ps _
theorem addSt_pre (D : List (List Nat)) (a : List Nat) : D <+: addSt D a := by
  unfold addSt; split
  · exact List.prefix_refl _
  · exact List.prefix_append _ _
theorem addSt_mem (D : List (List Nat)) (a : List Nat) : a ∈ addSt D a := by
  unfold addSt; split
  · rename_i h; exact List.contains_iff_mem.mp h
  · exact List.mem_append_right _ List.mem_cons_self
theorem pre_at {α : Type} {l m : List α} (h : l <+: m) {i : Nat} {x : α} (e : l[i]? = some x) : m[i]? = some x := by
  obtain ⟨t, rfl⟩ := h
  rw [List.getElem?_append_left (List.getElem?_eq_some_iff.mp e).1]; exact e

section
variable {n : Nat} {its : Rw} {k : Nat} {S : List Nat}
theorem mc_signs (hl : its.length ≤ 8) (hk : k ≤ 900) : ∀ (cs : List Nat) (D : List (List Nat)) (tr : List Tr) (x6 x7 : Option PV), (∀ c ∈ cs, c < 0x110000) → Sets its D → D[k]? = some S → tr.length + cs.length ≤ 10000 →
    ∃ D' tr' y6 y7, frIt 6 (fun σ => exs FUEL (R (n + 1)) mcFor σ) (cs.map fun c => .str [c]) (mcS its D (mvOf tr) k (some (.list (il (stays its S)))) x6 x7) = some (mcS its D' (mvOf tr') k (some (.list (il (stays its S)))) y6 y7, .next) ∧
      D <+: D' ∧ Sets its D' ∧ (∀ z ∈ tr', z ∈ tr ∨ (z.1 = k ∧ D'[z.2.2]? = some (stepS its S z.2.1) ∧ z.2.1 ∈ cs)) ∧ (∀ z ∈ tr, z ∈ tr') ∧ (∀ c ∈ cs, ∃ t, (k, c, t) ∈ tr') ∧ tr'.length = tr.length + cs.length
  | [], D, tr, x6, x7, _, hD, _, _ => ⟨D, tr, x6, x7, rfl, List.prefix_refl _, hD, fun z h => .inl h, fun z h => h, nofun, rfl⟩
  | c :: cs, D, tr, x6, x7, hc, hD, hS, hn => by
    rw [List.length_cons] at hn
    have hSm := hD.sub S (List.mem_of_getElem? hS)
    have hlt := subs_lt hSm
    have hD1 : Sets its (addSt D (stepS its S c)) := hD.add _
    have hpre := addSt_pre D (stepS its S c)
    obtain ⟨j, hj⟩ : ∃ j, (addSt D (stepS its S c)).findIdx? (· == stepS its S c) = some j := Option.isSome_iff_exists.mp (List.findIdx?_isSome.trans (List.any_eq_true.mpr ⟨_, addSt_mem D _, beq_self_eq_true _⟩))
    have hjt : (addSt D (stepS its S c))[j]? = some (stepS its S c) := by
      obtain ⟨h1, h2, _⟩ := List.findIdx?_eq_some_iff_getElem.mp hj
      rw [List.getElem?_eq_getElem h1, beq_iff_eq.mp h2]
    have hlen := hD.len hl
    have e1 := mc_for (n := n) (x7 := x7) (mv := mvOf tr) (hc c List.mem_cons_self) (by and_intros) hS (fun p hp => Nat.le_of_lt_succ (hlt.1 p hp)) (by and_intros) (by and_intros) (by rw [mvOf_len]; and_intros) hj hk
    have hmv : mvOf tr ++ [[57344 + k, c], [c, 57344 + j]] = mvOf (tr ++ [(k, c, j)]) := by rw [mvOf_app]; rfl
    rw [hmv] at e1
    obtain ⟨D', tr', y6, y7, e2, q1, q2, q3, q4, q5, q6⟩ := mc_signs hl hk cs (addSt D (stepS its S c)) (tr ++ [(k, c, j)]) (some (.str [c])) (some (.list (il (stepS its S c)))) (fun d hd => hc d (List.mem_cons_of_mem _ hd)) hD1 (pre_at hpre hS) (by rw [List.length_append]; show tr.length + 1 + _ ≤ _; and_intros)
    refine ⟨D', tr', y6, y7, frIt_c (σ' := mcS its (addSt D (stepS its S c)) (mvOf (tr ++ [(k, c, j)])) k (some (.list (il (stays its S)))) (some (.str [c])) (some (.list (il (stepS its S c))))) e1 e2, hpre.trans q1, q2, fun z hz => ?_, fun z hz => q4 z (List.mem_append_left _ hz), fun d hd => ?_, ?_⟩
    · rcases q3 z hz with h | h
      · rcases List.mem_append.mp h with h | h
        · exact .inl h
        · rw [List.mem_singleton.mp h]; exact .inr ⟨rfl, pre_at q1 hjt, List.mem_cons_self⟩
      · exact .inr ⟨h.1, h.2.1, List.mem_cons_of_mem _ h.2.2⟩
    · rcases List.mem_cons.mp hd with rfl | hd
      · exact ⟨j, q4 _ (List.mem_append_right _ List.mem_cons_self)⟩
      · exact q5 d hd
    · rw [q6, List.length_append]; show tr.length + 1 + cs.length = tr.length + (cs.length + 1); and_intros
end
/-- the machine so far -/
structure MInv (its : Rw) (k : Nat) (D : List (List Nat)) (tr : List Tr) : Prop where
  sets : Sets its D
  h0 : D[0]? = some (clo its [0])
  kl : k ≤ D.length
  ok : ∀ z ∈ tr, ∃ S, D[z.1]? = some S ∧ D[z.2.2]? = some (stepS its S z.2.1)
  all : ∀ j, j < k → ∀ c ∈ [97, 98, 45], ∃ t, (j, c, t) ∈ tr
  len : tr.length = 3 * k
  sg : ∀ z ∈ tr, z.2.1 ∈ [97, 98, 45]
theorem mc_body {n : Nat} {its : Rw} {k : Nat} {D : List (List Nat)} {tr : List Tr} {x5 x6 x7 : Option PV} (hl : its.length ≤ 8) (I : MInv its k D tr) (hk : k < D.length) :
    ∃ D' tr' y5 y6 y7, exs FUEL (R (n + 1)) mcBody (mcS its D (mvOf tr) k x5 x6 x7) = some (mcS its D' (mvOf tr') (k + 1) y5 y6 y7, .next) ∧ MInv its (k + 1) D' tr' := by
  have hL : LIM = 1048576 := rfl
  obtain ⟨S, hS⟩ : ∃ S, D[k]? = some S := ⟨_, List.getElem?_eq_getElem hk⟩
  have hlen := I.sets.len hl
  have hlt := subs_lt (I.sets.sub S (List.mem_of_getElem? hS))
  have hrow : (rowOf its).length = its.length + 1 := List.length_append
  have hln := I.len
  obtain ⟨D', tr', y6, y7, e, q1, q2, q3, q4, q5, q6⟩ := mc_signs (n := n) hl (by and_intros : k ≤ 900) [97, 98, 45] D tr x6 x7 (by decide) I.sets hS (by rw [hln]; show 3 * k + 3 ≤ _; and_intros)
  refine ⟨D', tr', some (.list (il (stays its S))), y6, y7, exs_next (asg_e (i := 5) (v := .list (il (stays its S))) ?_) (exs_next (fr_e (its := [97, 98, 45].map fun c => .str [c]) rfl e) (exs_one rfl)), ⟨q2, pre_at q1 I.h0, ?_, fun z hz => ?_, fun j hj c hc => ?_, ?_, fun z hz => ?_⟩⟩
  · refine bind_eq (it_l (l := il S) (idx_o (k := 0) (l := setsV D) rfl rfl rfl (nb rfl (by and_intros)) (by rw [pidx_nat, setsV, List.getElem?_map, hS]; rfl)) (by rw [il_len]; and_intros)) ?_
    refine map_eq (mapO_F (c := fun i : Nat => PV.int i) (g := fun i : Nat => PV.int i) (p := fun p => (rowOf its).getD p [] == [42]) fun p hpS => ?_)
    have hp' := hlt.1 p hpS
    have e2 : pt (R (n + 1)) (mcS its D (mvOf tr) k x5 x6 x7).O [none, some (.int p), some (.list (tl (rowOf its)))] (.cmp .eq (.idx (.var 2) (.var 1)) (.cs [42])) = some ((rowOf its).getD p [] == [42]) :=
      cmp_t (idx_tl (ls := rowOf its) (i := (p : Nat)) (c := (rowOf its).getD p []) rfl rfl (nb rfl (by and_intros)) (by rw [pidx_nat, List.getD_eq_getElem?_getD, List.getElem?_eq_getElem (by and_intros)]; rfl)) rfl rfl
    refine bind_eq (a := (rowOf its).getD p [] == [42]) (bind_eq e2 ?_) ?_
    · cases (rowOf its).getD p [] == [42] <;> rfl
    · cases (rowOf its).getD p [] == [42] <;> rfl
  · have := (List.getElem?_eq_some_iff.mp (pre_at q1 hS)).1; and_intros
  · rcases q3 z hz with h | ⟨h1, h2, _⟩
    · obtain ⟨T, h1, h2⟩ := I.ok z h
      exact ⟨T, pre_at q1 h1, pre_at q1 h2⟩
    · exact ⟨S, by rw [h1]; exact pre_at q1 hS, h2⟩
  · rcases Nat.lt_succ_iff_lt_or_eq.mp hj with h | rfl
    · obtain ⟨t, ht⟩ := I.all j h c hc
      exact ⟨t, q4 _ ht⟩
    · exact q5 c hc
  · rw [q6, hln]; show 3 * k + 3 = _; and_intros
  · exact (q3 z hz).elim (I.sg z) fun h => h.2.2
theorem mc_loop {n : Nat} {its : Rw} (hl : its.length ≤ 8) : ∀ (fuel k : Nat) (D : List (List Nat)) (tr : List Tr) (x5 x6 x7 : Option PV), 512 < fuel + k → MInv its k D tr →
    ∃ D' tr' k' y5 y6 y7, whIt (fun σ => pt (R (n + 1)) σ.O σ.G (.cmp .lt (.var 3) (.bi .len (.cons (.var 1) .nil)))) (fun σ => exs FUEL (R (n + 1)) mcBody σ) fuel (mcS its D (mvOf tr) k x5 x6 x7) = some (mcS its D' (mvOf tr') k' y5 y6 y7, .next) ∧ MInv its k' D' tr' ∧ k' = D'.length
  | 0, k, D, tr, x5, x6, x7, hf, I => by have := I.sets.len hl; have := I.kl; and_intros
  | fuel + 1, k, D, tr, x5, x6, x7, hf, I => by
    have hlen := I.sets.len hl
    have hL : LIM = 1048576 := rfl
    have hlv : (setsV D).length = D.length := List.length_map _
    have test : ∀ {t : Bool}, decide (((k : Nat) : Int) < ((D.length : Nat) : Int)) = t → pt (R (n + 1)) (mcS its D (mvOf tr) k x5 x6 x7).O (mcS its D (mvOf tr) k x5 x6 x7).G (.cmp .lt (.var 3) (.bi .len (.cons (.var 1) .nil))) = some t :=
      fun ht => cmp_t (x := .int k) (y := .int (D.length : Nat)) rfl ((len_o (k := 0) rfl rfl (by rw [hlv]; and_intros)).trans (by rw [hlv])) (congrArg some ht)
    by_cases hk : k < D.length
    · obtain ⟨D1, tr1, y5, y6, y7, e, I1⟩ := mc_body (n := n) (x5 := x5) (x6 := x6) (x7 := x7) hl I hk
      obtain ⟨D', tr', k', z5, z6, z7, e2, I2, h⟩ := mc_loop hl fuel (k + 1) D1 tr1 y5 y6 y7 (by and_intros) I1
      exact ⟨D', tr', k', z5, z6, z7, (whIt_step (test (decide_eq_true (Int.ofNat_lt.mpr hk))) e).trans e2, I2, h⟩
    · exact ⟨D, tr, k, x5, x6, x7, whIt_stop (test (decide_eq_false fun h => hk (Int.ofNat_lt.mp h))), I, Nat.le_antisymm I.kl (Nat.le_of_not_lt hk)⟩
theorem evT_t {F : PF1} {fs : List Bool} {l r : PEs} {σ : Mine.St} {vs : List PV} {q : List PV × Mine.St} (h : evs F σ.O σ.G l = some vs) (h2 : evT F fs r ⟨σ.G, σ.O ++ [some vs]⟩ = some q) : evT F (true :: fs) (.cons (.lst l) r) σ = some (.own σ.O.length :: q.1, q.2) :=
  (bind_eq h (map_eq h2) : ((evs F σ.O σ.G l).bind fun vs => (evT F fs r ⟨σ.G, σ.O ++ [some vs]⟩).map fun q => (PV.own σ.O.length :: q.1, q.2)) = _)
theorem evT_f {F : PF1} {fs : List Bool} {e : PE} {r : PEs} {σ : Mine.St} {v : PV} {q : List PV × Mine.St} (h : ev F σ.O σ.G e = some v) (h2 : evT F fs r σ = some q) : evT F (false :: fs) (.cons e r) σ = some (v :: q.1, q.2) :=
  (bind_eq h (map_eq h2) : ((ev F σ.O σ.G e).bind fun v => (evT F fs r σ).map fun q => (v :: q.1, q.2)) = _)
theorem mach_run (n : Nat) {its : Rw} (hl : its.length ≤ 8) : ∃ D tr, R (n + 2) "_law_machine" [.list (tl its)] = some (.tup [.list (setsV D), .list (tl (mvOf tr))]) ∧ MInv its D.length D tr := by
  have hL : LIM = 1048576 := rfl
  rw [run_eq (e := ⟨11, 1, p_mach⟩) rfl (by decide) (by decide +kernel) (by decide +kernel) rfl]
  have I0 : MInv its 0 [clo its [0]] [] := ⟨⟨List.nodup_cons.mpr ⟨nofun, List.nodup_nil⟩, fun s hs => by rw [List.mem_singleton.mp hs]; exact clo_subs its [0] _⟩, rfl, Nat.zero_le _, nofun, fun j h => absurd h (Nat.not_lt_zero _), rfl, nofun⟩
  obtain ⟨D, tr, k', y5, y6, y7, e, I, hk⟩ := mc_loop (n := n) hl FUEL 0 _ _ none none none (by decide) I0
  subst hk
  refine ⟨D, tr, pfun_ret (σ := mcS its D (mvOf tr) D.length y5 y6 y7) ?_ ?_, I⟩
  · have hc : ev (R (n + 1)) [] [some (.list (tl its)), none, none, none, none, none, none, none, none, none, none] (.call "_law_closed" (.cons (.var 0) (.cons (.lst (.cons (.ci 0) .nil)) .nil))) = some (.list (il (clo its [0]))) :=
      call_e (vs := [.list (tl its), .list (il [0])]) rfl (Bool.and_eq_true_iff.mpr ⟨noOwn_tl its, rfl⟩) (closed_run n (by and_intros))
    have ha : ∀ {O : Owns}, ev (R (n + 1)) O [some (.list (tl its)), none, none, none, none, none, none, none, none, none, none] (.bin .add (.var 0) (.lst (.cons (.cs []) .nil))) = some (.list (tl (rowOf its))) := fun {O} =>
      bin_e (x := .list (tl its)) (y := .list (tl [[]])) rfl rfl ((paddL (by rw [tl_len]; show _ + 1 ≤ _; and_intros)).trans (congrArg (fun l => some (PV.list l)) List.map_append.symm))
    refine exs_next (σ' := mcS its [clo its [0]] (mvOf []) 0 none none none) ?_ (exs_next (wh_e e) (exs_stop (ret_e ?_) nofun))
    · exact bind_eq (evT_t (evs_c hc rfl) (evT_t rfl (evT_f rfl (evT_f ha rfl)))) rfl
    · exact map_eq (evs_c (ev_varE (congrArg some (frz_own rfl noOwn_sets))) (evs_c (ev_varE (congrArg some (frz_own rfl (noOwn_tl _)))) rfl))
  · exact Bool.and_eq_true_iff.mpr ⟨noOwn_sets, Bool.and_eq_true_iff.mpr ⟨noOwn_tl _, rfl⟩⟩
end Mine

namespace Mine

theorem psplitGo_sum (sep : List Nat) : ∀ (l : List Nat) (k : Nat) (acc : List Nat), ((psplitGo sep k acc l).map List.length).sum ≤ acc.length + l.length ∧ (psplitGo sep k acc l).length ≤ l.length + 1
  | [], k, acc => by cases k <;> exact ⟨by show acc.reverse.length + 0 ≤ _; rw [List.length_reverse]; exact Nat.le_refl _, Nat.le_refl _⟩
  | c :: r, 0, acc => by
    rw [psplitGo_c, List.length_cons]
    split
    · have := psplitGo_sum sep r (sep.length - 1) []
      rw [List.map_cons, List.sum_cons, List.length_cons, List.length_reverse]
      rw [List.length_nil] at this; and_intros
    · have := psplitGo_sum sep r 0 (c :: acc)
      rw [List.length_cons] at this; and_intros
  | c :: r, k + 1, acc => by
    rw [psplitGo_s, List.length_cons]
    have := psplitGo_sum sep r k acc; and_intros
theorem psplitGo_ne (sep : List Nat) : ∀ (l : List Nat) (k : Nat) (acc : List Nat), psplitGo sep k acc l ≠ []
  | [], k, acc => by cases k <;> exact nofun
  | c :: r, 0, acc => by
    rw [psplitGo_c]
    split
    · exact nofun
    · exact psplitGo_ne sep r 0 _
  | c :: r, k + 1, acc => by rw [psplitGo_s]; exact psplitGo_ne sep r k acc
theorem pjoin_cons {b x : List Nat} {r : List (List Nat)} (h : r ≠ []) : pjoin b (x :: r) = x ++ b ++ pjoin b r := by
  cases r with
  | nil => exact absurd rfl h
  | cons y r => rfl

/-- a text of two signs gives way to another of two -/
noncomputable def mvT (S c T : Nat) : List Nat → List Nat
  | [] => []
  | [x] => [x]
  | x :: y :: q => if x = S ∧ y = c then c :: T :: mvT S c T q else x :: mvT S c T (y :: q)
theorem mvT_c (S c T x y : Nat) (q : List Nat) : mvT S c T (x :: y :: q) = if x = S ∧ y = c then c :: T :: mvT S c T q else x :: mvT S c T (y :: q) := rfl
theorem mvT_len (S c T : Nat) : ∀ x, (mvT S c T x).length = x.length
  | [] => rfl
  | [_] => rfl
  | x :: y :: q => by
    rw [mvT_c]; split
    · rw [List.length_cons, List.length_cons, mvT_len S c T q]; rfl
    · rw [List.length_cons, mvT_len S c T (y :: q)]; rfl
theorem mvT_go (S c T : Nat) : ∀ x acc : List Nat, pjoin [c, T] (psplitGo [S, c] 0 acc x) = acc.reverse ++ mvT S c T x
  | [], acc => (List.append_nil _).symm
  | [x], acc => by
    have e : [S, c].isPrefixOf [x] = false := Bool.and_false _
    rw [psplitGo_c, if_neg (by rw [e]; nofun)]
    show (x :: acc).reverse = _
    rw [List.reverse_cons]; rfl
  | x :: y :: q, acc => by
    have e : [S, c].isPrefixOf (x :: y :: q) = (S == x && (c == y && true)) := rfl
    rw [psplitGo_c, mvT_c]
    by_cases h : x = S ∧ y = c
    · rw [if_pos h, if_pos (by rw [e, h.1, h.2, beq_self_eq_true, beq_self_eq_true]; rfl), pjoin_cons (psplitGo_ne _ _ _ _)]
      show acc.reverse ++ [c, T] ++ pjoin [c, T] (psplitGo [S, c] 0 [] q) = _
      rw [mvT_go S c T q []]
      show acc.reverse ++ [c, T] ++ mvT S c T q = _
      rw [List.append_assoc]; rfl
    · rw [if_neg h, if_neg, mvT_go S c T (y :: q) (x :: acc), List.reverse_cons, List.append_assoc]
      · rfl
      · rw [e, Bool.and_true, Bool.and_eq_true_iff, beq_iff_eq, beq_iff_eq]; exact fun q => h ⟨q.1.symm, q.2.symm⟩
theorem preplaceT (S c T : Nat) (x : List Nat) : preplace x [S, c] [c, T] = mvT S c T x := mvT_go S c T x []

/-- a line: what the machine has read, its state, what is left -/
structure Ln where
  u : List Nat
  s : Nat
  v : List Nat
noncomputable def Ln.t (l : Ln) : List Nat := l.u ++ (57344 + l.s) :: l.v
noncomputable def Ln.w (l : Ln) : List Nat := l.u ++ l.v
noncomputable def okC (c : Nat) : Bool := c == 97 || (c == 98 || c == 45)
theorem okC_lt {c : Nat} (h : okC c = true) : c < 57344 ∧ c ≠ 10 := by
  unfold okC at h
  rw [Bool.or_eq_true, Bool.or_eq_true, beq_iff_eq, beq_iff_eq, beq_iff_eq] at h; and_intros
noncomputable def mvL (z : Tr) (l : Ln) : Ln := if l.s = z.1 ∧ l.v.head? = some z.2.1 then ⟨l.u ++ [z.2.1], z.2.2, l.v.tail⟩ else l
theorem mvL_w (z : Tr) (l : Ln) : (mvL z l).w = l.w := by
  unfold mvL; split
  · rename_i h
    obtain ⟨u, s, v⟩ := l
    cases v with
    | nil => exact absurd h.2 nofun
    | cons x v =>
      have e : x = z.2.1 := Option.some.inj h.2
      subst e
      exact (List.append_assoc u [z.2.1] v)
  · rfl
theorem mvT_skip {S c T : Nat} : ∀ (u r : List Nat), (∀ x ∈ u, x ≠ S) → mvT S c T (u ++ r) = u ++ mvT S c T r
  | [], _, _ => rfl
  | [x], [], _ => rfl
  | [x], y :: r, h => by
    show mvT S c T (x :: y :: r) = _
    rw [mvT_c, if_neg fun q => h x List.mem_cons_self q.1]; rfl
  | x :: y :: u, r, h => by
    show mvT S c T (x :: y :: (u ++ r)) = _
    rw [mvT_c, if_neg fun q => h x List.mem_cons_self q.1]
    show x :: mvT S c T ((y :: u) ++ r) = _
    rw [mvT_skip (y :: u) r fun z hz => h z (List.mem_cons_of_mem _ hz)]; rfl
theorem mvT_line {z : Tr} {l : Ln} {r : List Nat} (h : ∀ c ∈ l.w, okC c = true) (hc : z.2.1 ≠ 10) (hr : ∀ y, r.head? = some y → y = 10) : mvT (57344 + z.1) z.2.1 (57344 + z.2.2) (l.t ++ r) = (mvL z l).t ++ mvT (57344 + z.1) z.2.1 (57344 + z.2.2) r := by
  obtain ⟨j, c, t⟩ := z
  obtain ⟨u, s, v⟩ := l
  have sk : ∀ u : List Nat, (∀ c ∈ u, okC c = true) → ∀ x ∈ u, x ≠ 57344 + j := fun u h x hx => by have := (okC_lt (h x hx)).1; and_intros
  have hu := sk u fun c hc => h c (List.mem_append_left _ hc)
  have hv := fun c hc => h c (List.mem_append_right u hc)
  show mvT (57344 + j) c (57344 + t) ((u ++ (57344 + s) :: v) ++ r) = _
  rw [List.append_assoc, mvT_skip _ _ hu]
  unfold mvL
  by_cases q : s = j ∧ v.head? = some c
  · rw [if_pos q]
    cases v with
    | nil => exact absurd q.2 nofun
    | cons x v =>
      have e : x = c := Option.some.inj q.2
      subst e
      show u ++ mvT _ _ _ ((57344 + s) :: x :: (v ++ r)) = (u ++ [x]) ++ (57344 + t) :: v ++ _
      rw [mvT_c, if_pos ⟨by rw [q.1], rfl⟩, mvT_skip _ _ (sk v fun c hc => hv c (List.mem_cons_of_mem _ hc))]
      rw [List.append_assoc, List.append_assoc]; rfl
  · rw [if_neg q]
    show u ++ mvT _ _ _ ((57344 + s) :: (v ++ r)) = (u ++ (57344 + s) :: v) ++ _
    rw [List.append_assoc]
    congr 1
    cases v with
    | cons x v =>
      show mvT _ _ _ ((57344 + s) :: x :: (v ++ r)) = _
      rw [mvT_c, if_neg fun h => q ⟨Nat.add_left_cancel h.1, congrArg some h.2⟩]
      show (57344 + s) :: mvT _ _ _ ((x :: v) ++ r) = _
      rw [mvT_skip _ _ (sk (x :: v) hv)]; rfl
    | nil =>
      cases r with
      | nil => rfl
      | cons y r =>
        show mvT _ _ _ ((57344 + s) :: y :: r) = _
        rw [mvT_c, if_neg fun h : _ ∧ y = c => hc (h.2.symm.trans (hr y rfl))]; rfl
noncomputable def jn (ls : List Ln) : List Nat := pjoin [10] (ls.map Ln.t)
theorem mvT_jn {z : Tr} (hc : z.2.1 ≠ 10) : ∀ {ls : List Ln}, (∀ l ∈ ls, ∀ c ∈ l.w, okC c = true) → mvT (57344 + z.1) z.2.1 (57344 + z.2.2) (jn ls) = jn (ls.map (mvL z))
  | [], _ => rfl
  | [l], h => by
    have := mvT_line (r := []) (h l List.mem_cons_self) hc nofun
    rw [List.append_nil] at this
    exact this.trans (List.append_nil _)
  | l :: m :: ls, h => by
    show mvT _ _ _ (l.t ++ [10] ++ jn (m :: ls)) = (mvL z l).t ++ [10] ++ jn ((m :: ls).map (mvL z))
    rw [List.append_assoc]
    show mvT _ _ _ (l.t ++ (10 :: jn (m :: ls))) = _
    rw [mvT_line (r := 10 :: jn (m :: ls)) (h l List.mem_cons_self) hc (fun y e => (Option.some.inj e).symm), show 10 :: jn (m :: ls) = [10] ++ jn (m :: ls) from rfl, mvT_skip _ _ (fun x hx => by rw [List.mem_singleton.mp hx]; and_intros), mvT_jn hc fun k hk => h k (List.mem_cons_of_mem _ hk), List.append_assoc]
noncomputable def mvs (tr : List Tr) (l : Ln) : Ln := tr.foldl (fun l z => mvL z l) l
theorem mvs_w : ∀ (tr : List Tr) (l : Ln), (mvs tr l).w = l.w
  | [], _ => rfl
  | z :: tr, l => (mvs_w tr (mvL z l)).trans (mvL_w z l)

theorem me_split {F : PF1} {O : Owns} {G : Slots} {e : PE} {es : PEs} {x a : List Nat} (h1 : ev F O G e = some (.str x)) (h2 : evs F O G es = some [.str a]) (h3 : a.isEmpty = false) (h4 : x.length ≤ LIM) : ev F O G (.me .split e es) = some (.list (tl (psplit a x))) :=
  bind_eq h1 (bind_eq h2 (if_neg (by rw [h3, decide_eq_false (Nat.not_lt.mpr h4)]; nofun)))
theorem repl_loop {F : PF1} : ∀ (tr : List Tr) (ls : List Ln) (n : Nat), tr.length < n → tr.length ≤ 4000 → (∀ z ∈ tr, z.2.1 ≠ 10) → (∀ l ∈ ls, ∀ c ∈ l.w, okC c = true) → (jn ls).length ≤ 100000 →
    whIt (fun σ => pt F σ.O σ.G (.var 1)) (fun σ => exs FUEL F (.cons (.asg 0 (.me .join (.idx (.var 1) (.ci 1)) (.cons (.me .split (.var 0) (.cons (.idx (.var 1) (.ci 0)) .nil)) .nil))) (.cons (.asg 1 (.sl (.var 1) (.ci 2) .cn)) .nil)) σ) n
      ⟨[some (.str (jn ls)), some (.tup (tl (mvOf tr)))], []⟩ = some (⟨[some (.str (jn (ls.map (mvs tr)))), some (.tup [])], []⟩, .next)
  | _, _, 0, h, _, _, _, _ => absurd h (Nat.not_lt_zero _)
  | [], ls, n + 1, _, _, _, _, _ => (whIt_stop (show pt F [] _ (.var 1) = some false from rfl)).trans (by
    rw [show ls.map (mvs []) = ls from List.map_id' ls]; rfl)
  | z :: tr, ls, n + 1, h, hl, hc, hw, hx => by
    have hL : LIM = 1048576 := rfl
    have hln : (tl (mvOf (z :: tr))).length = 2 * tr.length + 2 := by rw [tl_len, mvOf_len]; rfl
    rw [List.length_cons] at h hl
    have hr : preplace (jn ls) [57344 + z.1, z.2.1] [z.2.1, 57344 + z.2.2] = jn (ls.map (mvL z)) := (preplaceT _ _ _ _).trans (mvT_jn (hc z List.mem_cons_self) hw)
    have hlen : (jn (ls.map (mvL z))).length = (jn ls).length := by rw [← hr, preplaceT, mvT_len]
    rw [whIt_step (σ' := ⟨[some (.str (jn (ls.map (mvL z)))), some (.tup (tl (mvOf tr)))], []⟩)]
    · rw [repl_loop tr _ n (by and_intros) (by and_intros) (fun y hy => hc y (List.mem_cons_of_mem _ hy)) (fun l hl => ?_) (by rw [hlen]; exact hx), List.map_map]
      · rfl
      · obtain ⟨k, hk, rfl⟩ := List.mem_map.mp hl
        rw [mvL_w]; exact hw k hk
    · exact bind_eq rfl (if_pos (by rw [hln]; and_intros))
    · have hs := psplitGo_sum [57344 + z.1, z.2.1] (jn ls) 0 []
      rw [List.length_nil, Nat.zero_add] at hs
      refine exs_next (σ' := ⟨[some (.str (jn (ls.map (mvL z)))), some (.tup (tl (mvOf (z :: tr))))], []⟩) (asg_e (me_e (x := .str [z.2.1, 57344 + z.2.2]) (vs := [.list (tl (psplit [57344 + z.1, z.2.1] (jn ls)))]) rfl (evs_c (me_split rfl rfl rfl (by and_intros)) rfl) ((pme_join rfl ?_).trans (congrArg (fun l => some (PV.str l)) hr)))) (exs_one (asg_e (i := 1) (v := .tup (tl (mvOf tr))) ?_))
      · have h1 := hs.1; have h2 := hs.2
        show ((psplit [57344 + z.1, z.2.1] (jn ls)).map List.length).sum + (psplit [57344 + z.1, z.2.1] (jn ls)).length * 2 ≤ LIM
        unfold psplit
        and_intros
      · exact bind_eq rfl (bind_eq rfl (bind_eq rfl ((if_pos ⟨rfl, by rw [hln]; and_intros, by decide, by rw [hln]; and_intros⟩).trans rfl)))
theorem repl_run (n : Nat) {tr : List Tr} {ls : List Ln} (hl : tr.length ≤ 4000) (hc : ∀ z ∈ tr, z.2.1 ≠ 10) (hw : ∀ l ∈ ls, ∀ c ∈ l.w, okC c = true) (hx : (jn ls).length ≤ 100000) : R (n + 1) "replace" (.str (jn ls) :: tl (mvOf tr)) = some (.str (jn (ls.map (mvs tr)))) := by
  have hL : LIM = 1048576 := rfl
  rw [def_eq (e := ⟨2, 2, p_repl⟩) rfl (by decide)]
  refine (if_pos (by decide +kernel)).trans ((if_pos (by rw [tl_len, mvOf_len]; and_intros)).trans ?_)
  exact bind_eq (bind_eq (repl_loop tr ls FUEL (by show tr.length < 4096; and_intros) hl hc hw hx) rfl) rfl
end Mine

namespace Mine

/-- what the items mean: a star any text, else one sign -/
noncomputable def Mt : Rw → List Nat → Prop
  | [], w => w = []
  | it :: r, w => (it = [42] ∧ ∃ k, Mt r (w.drop k)) ∨ (it ≠ [42] ∧ ∃ c v, w = c :: v ∧ pisIn [c] it = true ∧ Mt r v)
noncomputable def AccS (its : Rw) (S : List Nat) (w : List Nat) : Prop := ∃ p ∈ S, Mt (its.drop p) w
theorem pisIn1 {c : Nat} : ∀ {l : List Nat}, pisIn [c] l = l.contains c
  | [] => rfl
  | d :: l => by
    show ((c == d && true) || pisIn [c] l) = (c == d || l.contains c)
    rw [Bool.and_true, pisIn1]
theorem drop_it {its : Rw} {p : Nat} (h : p < its.length) : its.drop p = its.getD p [] :: its.drop (p + 1) := by
  rw [List.drop_eq_getElem_cons h, List.getD_eq_getElem?_getD, List.getElem?_eq_getElem h]; rfl
theorem row_getD (its : Rw) (p : Nat) : (rowOf its).getD p [] = its.getD p [] := by
  unfold rowOf
  rw [List.getD_eq_getElem?_getD, List.getD_eq_getElem?_getD]
  rcases Nat.lt_or_ge p its.length with h | h
  · rw [List.getElem?_append_left h]
  · rw [List.getElem?_append_right h, List.getElem?_eq_none h]
    cases p - its.length <;> rfl
theorem getD_lt {its : Rw} {p : Nat} (h : its.getD p [] ≠ []) : p < its.length := by
  refine Nat.lt_of_not_le fun q => h ?_
  rw [List.getD_eq_getElem?_getD, List.getElem?_eq_none q]; rfl

noncomputable abbrev cloN (its : Rw) (ps : List Nat) (m : Nat) : List Nat := (List.range m).foldl (clStep its ps) []
theorem cloN_mem {its : Rw} {ps : List Nat} : ∀ {m p : Nat}, p ∈ cloN its ps m ↔ p < m ∧ clT its ps (cloN its ps p) p = true
  | 0, p => ⟨nofun, fun h => absurd h.1 (Nat.not_lt_zero _)⟩
  | m + 1, p => by
    have e : cloN its ps (m + 1) = clStep its ps (cloN its ps m) m := by show (List.range (m + 1)).foldl _ _ = _; rw [List.range_succ, List.foldl_append]; rfl
    rw [e]
    unfold clStep
    by_cases h : clT its ps (cloN its ps m) m = true
    · rw [if_pos h, List.mem_append, cloN_mem, List.mem_singleton]
      constructor
      · rintro (q | rfl)
        · exact ⟨Nat.lt_succ_of_lt q.1, q.2⟩
        · exact ⟨Nat.lt_succ_self _, h⟩
      · rintro ⟨q, q2⟩
        rcases Nat.lt_succ_iff_lt_or_eq.mp q with q | q
        · exact .inl ⟨q, q2⟩
        · exact .inr q
    · rw [if_neg h, cloN_mem]
      refine ⟨fun q => ⟨Nat.lt_succ_of_lt q.1, q.2⟩, fun ⟨q, q2⟩ => ⟨?_, q2⟩⟩
      rcases Nat.lt_succ_iff_lt_or_eq.mp q with q | rfl
      · exact q
      · exact absurd q2 h
theorem clT_iff {its : Rw} {ps c : List Nat} {p : Nat} : clT its ps c p = true ↔ p ∈ ps ∨ ∃ q, p = q + 1 ∧ q ∈ c ∧ its.getD q [] = [42] := by
  unfold clT
  rw [Bool.or_eq_true, Bool.and_eq_true_iff, hasI_nat, List.contains_iff_mem, beq_iff_eq]
  cases p with
  | zero =>
    refine or_congr_right ⟨fun h => ?_, fun ⟨q, h, _⟩ => nomatch h⟩
    obtain ⟨q, _, e⟩ := List.any_eq_true.mp h.1
    have := beq_iff_eq.mp e
    and_intros
  | succ q =>
    rw [show (((q + 1 : Nat) : Int) - 1) = (q : Int) by and_intros, hasI_nat, List.contains_iff_mem]
    exact or_congr_right ⟨fun h => ⟨q, rfl, h⟩, fun ⟨q', e, h⟩ => by cases e; exact h⟩
theorem clo_iff {its : Rw} {ps : List Nat} {p : Nat} : p ∈ clo its ps ↔ p ≤ its.length ∧ (p ∈ ps ∨ ∃ q, p = q + 1 ∧ q ∈ clo its ps ∧ its.getD q [] = [42]) := by
  unfold clo
  rw [cloN_mem, clT_iff, Nat.lt_succ_iff]
  refine and_congr_right fun h => or_congr_right (exists_congr fun q => and_congr_right fun e => and_congr_left fun _ => ?_)
  rw [cloN_mem, cloN_mem]
  exact and_congr_left fun _ => ⟨fun h1 => Nat.lt_succ_of_lt (Nat.lt_of_lt_of_le h1 h), fun _ => e ▸ Nat.lt_succ_self q⟩

/-- closed under stars -/
structure Cl (its : Rw) (S : List Nat) : Prop where
  le : ∀ p ∈ S, p ≤ its.length
  up : ∀ q ∈ S, its.getD q [] = [42] → q + 1 ∈ S
theorem clo_cl (its : Rw) (ps : List Nat) : Cl its (clo its ps) :=
  ⟨fun _ h => (clo_iff.mp h).1, fun q h e => clo_iff.mpr ⟨getD_lt (by rw [e]; nofun), .inr ⟨q, rfl, h, e⟩⟩⟩
theorem mt_star {its : Rw} {q : Nat} (e : its.getD q [] = [42]) {w : List Nat} (k : Nat) (h : Mt (its.drop (q + 1)) (w.drop k)) : Mt (its.drop q) w := by
  rw [drop_it (getD_lt (by rw [e]; nofun)), e]; exact .inl ⟨rfl, k, h⟩
theorem clo_acc {its : Rw} {ps : List Nat} (hp : ∀ p ∈ ps, p ≤ its.length) {w : List Nat} : AccS its (clo its ps) w ↔ AccS its ps w := by
  have up : ∀ p, p ∈ clo its ps → Mt (its.drop p) w → AccS its ps w := by
    intro p
    induction p with
    | zero =>
      intro h m
      rcases (clo_iff.mp h).2 with h | ⟨q, e, _⟩
      · exact ⟨0, h, m⟩
      · cases e
    | succ p ih =>
      intro h m
      rcases (clo_iff.mp h).2 with h | ⟨q, e, h1, h2⟩
      · exact ⟨_, h, m⟩
      · cases e
        exact ih h1 (mt_star h2 0 m)
  exact ⟨fun ⟨p, h, m⟩ => up p h m, fun ⟨p, h, m⟩ => ⟨p, clo_iff.mpr ⟨hp p h, .inl h⟩, m⟩⟩
theorem goes_at {its : Rw} {c p : Nat} (h : pisIn [c] (its.getD p []) = true) : p < its.length :=
  getD_lt fun e => by rw [e] at h; exact nomatch h
theorem sub1 {n p d : Nat} (h : n - p ≤ d + 1) : n - (p + 1) ≤ d := by rw [← Nat.sub_sub]; exact Nat.sub_le_of_le_add h
theorem step_acc {its : Rw} {S : List Nat} (C : Cl its S) {c : Nat} (hc : okC c = true) {v : List Nat} : AccS its S (c :: v) ↔ AccS its (stepS its S c) v := by
  have mS : ∀ p, p ∈ stays its S ↔ p ∈ S ∧ its.getD p [] = [42] := fun p => by unfold stays; rw [List.mem_filter, row_getD, beq_iff_eq]
  have mG : ∀ p, p ∈ goes its S c ↔ ∃ q, q ∈ S ∧ pisIn [c] (its.getD q []) = true ∧ q + 1 = p := fun p => by
    unfold goes; rw [List.mem_map]
    exact exists_congr fun q => by rw [List.mem_filter, row_getD, and_assoc]
  unfold stepS
  rw [clo_acc fun p hp => ?_]
  · constructor
    · have key : ∀ d p, its.length - p ≤ d → p ∈ S → Mt (its.drop p) (c :: v) → AccS its (stays its S ++ goes its S c) v := by
        intro d
        induction d with
        | zero =>
          intro p hd _ m
          rw [List.drop_eq_nil_of_le (Nat.le_of_sub_eq_zero (Nat.le_zero.mp hd))] at m
          exact nomatch m
        | succ d ih =>
          intro p hd hp m
          rcases Nat.lt_or_ge p its.length with h | h
          · rw [drop_it h] at m
            rcases m with ⟨e, k, m⟩ | ⟨_, c', v', e, q, m⟩
            · cases k with
              | zero => exact ih (p + 1) (sub1 hd) (C.up p hp e) m
              | succ k => exact ⟨p, List.mem_append_left _ ((mS p).mpr ⟨hp, e⟩), mt_star e k m⟩
            · cases e
              exact ⟨p + 1, List.mem_append_right _ ((mG _).mpr ⟨p, hp, q, rfl⟩), m⟩
          · rw [List.drop_eq_nil_of_le h] at m
            exact nomatch m
      exact fun ⟨p, hp, m⟩ => key _ p (Nat.le_refl _) hp m
    · rintro ⟨p, hp, m⟩
      rcases List.mem_append.mp hp with hp | hp
      · obtain ⟨hp, e⟩ := (mS p).mp hp
        refine ⟨p, hp, ?_⟩
        rw [drop_it (getD_lt (by rw [e]; nofun)), e] at m
        rcases m with ⟨_, k, m⟩ | ⟨h, _⟩
        · exact mt_star e (k + 1) m
        · exact absurd rfl h
      · obtain ⟨q, hq, e, rfl⟩ := (mG p).mp hp
        refine ⟨q, hq, ?_⟩
        rw [drop_it (goes_at e)]
        refine .inr ⟨fun h => ?_, c, v, rfl, e, m⟩
        rw [h, pisIn1, List.contains_iff_mem, List.mem_singleton] at e
        rw [e] at hc; exact nomatch hc
  · rcases List.mem_append.mp hp with hp | hp
    · exact C.le p ((mS p).mp hp).1
    · obtain ⟨q, hq, e, rfl⟩ := (mG p).mp hp
      exact goes_at e
theorem end_acc {its : Rw} {S : List Nat} (C : Cl its S) : AccS its S [] ↔ its.length ∈ S := by
  constructor
  · have key : ∀ d p, its.length - p ≤ d → p ∈ S → Mt (its.drop p) [] → its.length ∈ S := by
      intro d
      induction d with
      | zero =>
        intro p hd hp _
        exact Nat.le_antisymm (C.le p hp) (Nat.le_of_sub_eq_zero (Nat.le_zero.mp hd)) ▸ hp
      | succ d ih =>
        intro p hd hp m
        rcases Nat.lt_or_ge p its.length with h | h
        · rw [drop_it h] at m
          rcases m with ⟨e, k, m⟩ | ⟨_, c', v', e, q, m⟩
          · rw [List.drop_nil] at m
            exact ih (p + 1) (sub1 hd) (C.up p hp e) m
          · cases e
        · exact Nat.le_antisymm (C.le p hp) h ▸ hp
    exact fun ⟨p, hp, m⟩ => key _ p (Nat.le_refl _) hp m
  · exact fun h => ⟨_, h, by rw [List.drop_length]; rfl⟩
noncomputable def dl (its : Rw) (u : List Nat) : List Nat := u.foldl (stepS its) (clo its [0])
theorem dl_acc {its : Rw} : ∀ (u : List Nat) {S : List Nat}, Cl its S → (∀ c ∈ u, okC c = true) → (AccS its S u ↔ its.length ∈ u.foldl (stepS its) S)
  | [], _, C, _ => end_acc C
  | c :: u, S, C, h => (step_acc C (h c List.mem_cons_self)).trans (dl_acc u (clo_cl _ _) fun d hd => h d (List.mem_cons_of_mem _ hd))
theorem dl_mt {its : Rw} {w : List Nat} (h : ∀ c ∈ w, okC c = true) : its.length ∈ dl its w ↔ Mt its w := by
  unfold dl
  rw [← dl_acc w (clo_cl its [0]) h, clo_acc fun p hp => by rw [List.mem_singleton.mp hp]; exact Nat.zero_le _]
  exact ⟨fun ⟨p, hp, m⟩ => by rw [List.mem_singleton.mp hp] at m; exact m, fun m => ⟨0, List.mem_cons_self, m⟩⟩

/-! the lines come to their ends -/
section
variable {its : Rw} {D : List (List Nat)} {tr : List Tr} {k : Nat}
noncomputable abbrev LI (its : Rw) (D : List (List Nat)) (l : Ln) : Prop := D[l.s]? = some (dl its l.u)
theorem mvL_LI (I : MInv its k D tr) {z : Tr} (hz : z ∈ tr) {l : Ln} (h : LI its D l) : LI its D (mvL z l) := by
  unfold mvL; split
  · rename_i q
    obtain ⟨S, h1, h2⟩ := I.ok z hz
    rw [← q.1] at h1
    have e : dl its l.u = S := Option.some.inj (h.symm.trans h1)
    show D[z.2.2]? = some (dl its (l.u ++ [z.2.1]))
    rw [h2]; unfold dl at e ⊢
    rw [List.foldl_append, e]; rfl
  · exact h
theorem mvs_LI (I : MInv its k D tr) : ∀ {L : List Tr}, (∀ z ∈ L, z ∈ tr) → ∀ {l : Ln}, LI its D l → LI its D (mvs L l)
  | [], _, _, h => h
  | z :: L, hL, l, h => mvs_LI I (L := L) (fun y hy => hL y (List.mem_cons_of_mem _ hy)) (mvL_LI I (hL z List.mem_cons_self) h)
theorem mvL_lt {z : Tr} {l : Ln} (q : l.s = z.1 ∧ l.v.head? = some z.2.1) : (mvL z l).v.length < l.v.length := by
  unfold mvL
  rw [if_pos q]
  show l.v.tail.length < _
  cases e : l.v with
  | nil => rw [e] at q; exact nomatch q.2
  | cons x v => exact Nat.lt_succ_self _
theorem mvL_le (z : Tr) (l : Ln) : (mvL z l).v.length ≤ l.v.length := by
  by_cases q : l.s = z.1 ∧ l.v.head? = some z.2.1
  · exact Nat.le_of_lt (mvL_lt q)
  · unfold mvL; rw [if_neg q]; exact Nat.le_refl _
theorem mvs_le : ∀ (L : List Tr) (l : Ln), (mvs L l).v.length ≤ l.v.length
  | [], _ => Nat.le_refl _
  | z :: L, l => Nat.le_trans (mvs_le L (mvL z l)) (mvL_le z l)
theorem mvs_lt : ∀ {L : List Tr} {l : Ln}, (∃ z ∈ L, l.s = z.1 ∧ l.v.head? = some z.2.1) → (mvs L l).v.length < l.v.length
  | [], _, h => by obtain ⟨_, h, _⟩ := h; exact nomatch h
  | z :: L, l, h => by
    show (mvs L (mvL z l)).v.length < _
    by_cases q : l.s = z.1 ∧ l.v.head? = some z.2.1
    · exact Nat.lt_of_le_of_lt (mvs_le L _) (mvL_lt q)
    · obtain ⟨y, hy, h⟩ := h
      rcases List.mem_cons.mp hy with rfl | hy
      · exact absurd h q
      · rw [show mvL z l = l from if_neg q]; exact mvs_lt ⟨y, hy, h⟩
theorem mvs_1 (I : MInv its D.length D tr) {l : Ln} (h : LI its D l) (hw : ∀ c ∈ l.w, okC c = true) : (mvs tr l).v.length ≤ l.v.length - 1 := by
  cases e : l.v with
  | nil =>
    have := mvs_le tr l
    rw [e] at this; exact this
  | cons c v =>
    have hs : l.s < D.length := (List.getElem?_eq_some_iff.mp h).1
    have ho := hw c (List.mem_append_right _ (e ▸ List.mem_cons_self))
    have hc : c ∈ [97, 98, 45] := by
      unfold okC at ho
      rw [Bool.or_eq_true, Bool.or_eq_true, beq_iff_eq, beq_iff_eq, beq_iff_eq] at ho
      rw [List.mem_cons, List.mem_cons, List.mem_singleton]; exact ho
    obtain ⟨t, ht⟩ := I.all l.s hs c hc
    have := mvs_lt (L := tr) (l := l) ⟨_, ht, rfl, by rw [e]; rfl⟩
    rw [e] at this
    exact Nat.le_sub_one_of_lt this
theorem mvs_app (a b : List Tr) (l : Ln) : mvs (a ++ b) l = mvs b (mvs a l) := List.foldl_append
theorem mvs_2 (I : MInv its D.length D tr) {l : Ln} (h : LI its D l) (hw : ∀ c ∈ l.w, okC c = true) : LI its D (mvs (tr ++ tr) l) ∧ (mvs (tr ++ tr) l).v.length ≤ l.v.length - 2 := by
  rw [mvs_app]
  have h1 := mvs_LI I (fun z hz => hz) h
  have h2 := mvs_1 I h hw
  have h3 := mvs_1 I h1 (by rw [mvs_w]; exact hw)
  exact ⟨mvs_LI I (fun z hz => hz) h1, Nat.le_trans h3 (Nat.sub_le_sub_right h2 1)⟩
end
end Mine

namespace Mine

noncomputable def plainR (r : Rw) : Prop := ∀ it ∈ r, it ≠ [42]
section
variable {w : List Nat}
theorem fitsB_iff {r : Rw} {a : Nat} : fitsB r w a = true ↔ a + r.length ≤ w.length ∧ ∀ k, k < r.length → pisIn [w.getD (a + k) 0] (r.getD k []) = true := by
  unfold fitsB
  rw [Bool.and_eq_true_iff, decide_eq_true_iff, List.isEmpty_iff, List.filter_eq_nil_iff]
  refine and_congr_right fun _ => ⟨fun h k hk => ?_, fun h k hk => ?_⟩
  · have := h k (List.mem_range.mpr hk)
    rw [Bool.not_eq_true', Bool.not_eq_false] at this
    exact this
  · rw [h k (List.mem_range.mp hk)]; nofun
theorem fits_cons {it : List Nat} {r : Rw} {a : Nat} : fitsB (it :: r) w a = true ↔ a < w.length ∧ pisIn [w.getD a 0] it = true ∧ fitsB r w (a + 1) = true := by
  rw [fitsB_iff, fitsB_iff, List.length_cons]
  constructor
  · rintro ⟨h1, h2⟩
    exact ⟨by and_intros, h2 0 (Nat.succ_pos _), by and_intros, fun k hk => by rw [Nat.add_right_comm]; exact h2 (k + 1) (Nat.succ_lt_succ hk)⟩
  · rintro ⟨h1, h2, h3, h4⟩
    refine ⟨by and_intros, fun k hk => ?_⟩
    cases k with
    | zero => exact h2
    | succ k => rw [show a + (k + 1) = a + 1 + k from (Nat.add_right_comm a 1 k).symm]; exact h4 k (Nat.lt_of_succ_lt_succ hk)
theorem mt_plain {X : Rw} : ∀ {r : Rw} {a : Nat}, plainR r → a ≤ w.length → (Mt (r ++ X) (w.drop a) ↔ fitsB r w a = true ∧ Mt X (w.drop (a + r.length)))
  | [], a, _, h => ⟨fun m => ⟨fitsB_iff.mpr ⟨h, fun k hk => absurd hk (Nat.not_lt_zero k)⟩, m⟩, fun m => m.2⟩
  | it :: r, a, hp, h => by
    have hr : plainR r := fun i hi => hp i (List.mem_cons_of_mem _ hi)
    rw [fits_cons, List.length_cons, show a + (r.length + 1) = a + 1 + r.length by and_intros]
    constructor
    · rintro (⟨e, _⟩ | ⟨_, c, v, e, q, m⟩)
      · exact absurd e (hp it List.mem_cons_self)
      · have hl : a < w.length := Nat.lt_of_not_le fun q => by rw [List.drop_eq_nil_of_le q] at e; cases e
        rw [List.drop_eq_getElem_cons hl] at e
        obtain ⟨e1, e2⟩ := List.cons.inj e
        subst e2
        have m' := (mt_plain (r := r) (a := a + 1) hr hl).mp m
        refine ⟨⟨hl, ?_, m'.1⟩, m'.2⟩
        rw [List.getD_eq_getElem?_getD, List.getElem?_eq_getElem hl, Option.getD_some, e1]; exact q
    · rintro ⟨⟨hl, q, f⟩, m⟩
      refine .inr ⟨hp it List.mem_cons_self, w[a], w.drop (a + 1), List.drop_eq_getElem_cons hl, ?_, (mt_plain (r := r) (a := a + 1) hr hl).mpr ⟨f, m⟩⟩
      rw [List.getD_eq_getElem?_getD, List.getElem?_eq_getElem hl] at q; exact q
theorem star_at {X : Rw} {a : Nat} : Mt ([42] :: X) (w.drop a) ↔ ∃ k, a ≤ k ∧ Mt X (w.drop k) := by
  constructor
  · rintro (⟨_, k, m⟩ | ⟨h, _⟩)
    · rw [List.drop_drop] at m; exact ⟨_, Nat.le_add_right a k, m⟩
    · exact absurd rfl h
  · rintro ⟨k, h, m⟩
    refine .inl ⟨rfl, k - a, ?_⟩
    rw [List.drop_drop, Nat.add_sub_cancel' h]; exact m
theorem star_min {X : Rw} {a : Nat} (ha : a ≤ w.length) : Mt ([42] :: X) (w.drop a) ↔ ∃ k, a ≤ k ∧ k ≤ w.length ∧ Mt X (w.drop k) := by
  rw [star_at]
  constructor
  · rintro ⟨k, h, m⟩
    rcases Nat.le_total k w.length with q | q
    · exact ⟨k, h, q, m⟩
    · rw [List.drop_eq_nil_of_le q] at m
      exact ⟨w.length, ha, Nat.le_refl _, by rw [List.drop_length]; exact m⟩
  · rintro ⟨k, h, _, m⟩; exact ⟨k, h, m⟩
theorem fitAt_mem {M : Rw} {a k : Nat} (ha : a ≤ w.length) : k ∈ fitAt M w a ↔ (a ≤ k ∧ k ≤ w.length) ∧ fitsB M w k = true := by
  unfold fitAt
  rw [List.mem_filter, List.mem_map]
  refine and_congr_left fun _ => ⟨fun ⟨j, hj, e⟩ => e ▸ ⟨Nat.le_add_right _ _, Nat.le_of_lt_succ (Nat.add_lt_of_lt_sub' (List.mem_range.mp hj))⟩, fun h => ⟨k - a, List.mem_range.mpr (Nat.sub_lt_sub_right h.1 (Nat.lt_succ_of_le h.2)), Nat.add_sub_cancel' h.1⟩⟩
theorem fitAt_min {M : Rw} {a k : Nat} (h : (fitAt M w a).head? = some k) : k ∈ fitAt M w a ∧ ∀ j ∈ fitAt M w a, k ≤ j := by
  have hp : (fitAt M w a).Pairwise (· < ·) := List.Pairwise.filter _ (List.Pairwise.map _ (fun _ _ h => Nat.add_lt_add_left h a) List.pairwise_lt_range)
  cases e : fitAt M w a with
  | nil => rw [e] at h; exact nomatch h
  | cons x q =>
    rw [e] at h hp
    cases h
    refine ⟨List.mem_cons_self, fun j hj => ?_⟩
    rcases List.mem_cons.mp hj with rfl | hj
    · exact Nat.le_refl _
    · exact Nat.le_of_lt ((List.pairwise_cons.mp hp).1 j hj)
noncomputable def segI : List Rw → Rw
  | [] => []
  | M :: Ms => [42] :: (M ++ segI Ms)
theorem segI_star (Ms : List Rw) (L : Rw) : ∃ X, segI (Ms ++ [L]) = [42] :: X := by
  cases Ms with
  | nil => exact ⟨_, rfl⟩
  | cons M Ms => exact ⟨_, rfl⟩
noncomputable def endB (w : List Nat) (L : Rw) : Option Nat → Bool
  | none => false
  | some b => decide (b + L.length ≤ w.length) && fitsB L w (w.length - L.length)
theorem run_mt {L : Rw} (hL : plainR L) : ∀ {Ms : List Rw} {a : Nat}, (∀ M ∈ Ms, plainR M) → a ≤ w.length → (Mt (segI (Ms ++ [L])) (w.drop a) ↔ endB w L (runB w a Ms) = true)
  | [], a, _, ha => by
    show Mt ([42] :: (L ++ [])) (w.drop a) ↔ (decide (a + L.length ≤ w.length) && fitsB L w (w.length - L.length)) = true
    rw [star_min ha, Bool.and_eq_true_iff, decide_eq_true_iff]
    constructor
    · rintro ⟨k, h1, h2, m⟩
      obtain ⟨f, m⟩ := (mt_plain hL h2).mp m
      have l1 := fitsB_le f
      have l2 := congrArg List.length (m : w.drop (k + L.length) = [])
      rw [List.length_drop, List.length_nil] at l2
      have hl := Nat.le_antisymm l1 (Nat.le_of_sub_eq_zero l2)
      have e : w.length - L.length = k := by rw [← hl, Nat.add_sub_cancel]
      exact ⟨hl ▸ Nat.add_le_add_right h1 _, e ▸ f⟩
    · rintro ⟨h, f⟩
      refine ⟨w.length - L.length, Nat.le_sub_of_add_le h, Nat.sub_le _ _, (mt_plain hL (Nat.sub_le _ _)).mpr ⟨f, ?_⟩⟩
      exact List.drop_eq_nil_of_le (Nat.le_of_eq (Nat.sub_add_cancel (Nat.le_trans (Nat.le_add_left _ _) h)).symm)
  | M :: Ms, a, hM, ha => by
    have hm := hM M List.mem_cons_self
    have hMs := fun N h => hM N (List.mem_cons_of_mem M h)
    obtain ⟨X, hX⟩ := segI_star Ms L
    show Mt ([42] :: (M ++ segI (Ms ++ [L]))) (w.drop a) ↔ endB w L ((fitAt M w a).head?.bind fun k => runB w (k + M.length) Ms) = true
    rw [star_min ha]
    cases e : (fitAt M w a).head? with
    | none =>
      refine ⟨fun ⟨k, h1, h2, m⟩ => ?_, nofun⟩
      have := (fitAt_mem ha).mpr ⟨⟨h1, h2⟩, ((mt_plain hm h2).mp m).1⟩
      rw [List.head?_eq_none_iff.mp e] at this
      exact nomatch this
    | some k =>
      obtain ⟨q1, q2⟩ := fitAt_min e
      obtain ⟨⟨h1, h2⟩, f⟩ := (fitAt_mem ha).mp q1
      show _ ↔ endB w L (runB w (k + M.length) Ms) = true
      rw [← run_mt hL hMs (fitsB_le f)]
      constructor
      · rintro ⟨j, j1, j2, m⟩
        obtain ⟨fj, m⟩ := (mt_plain hm j2).mp m
        have hk := q2 j ((fitAt_mem ha).mpr ⟨⟨j1, j2⟩, fj⟩)
        rw [hX, star_at] at m ⊢
        obtain ⟨i, hi, m⟩ := m
        exact ⟨i, Nat.le_trans (Nat.add_le_add_right hk _) hi, m⟩
      · exact fun m => ⟨k, h1, h2, (mt_plain hm h2).mpr ⟨f, m⟩⟩
theorem takes_mt {r0 : Rw} {segs : List Rw} (h0 : plainR r0) (hs : ∀ M ∈ segs, plainR M) : Mt (r0 ++ segI segs) w ↔ takesB r0 segs w = true := by
  have p := mt_plain (w := w) (X := segI segs) (a := 0) h0 (Nat.zero_le _)
  rw [List.drop_zero, Nat.zero_add] at p
  rw [p]
  unfold takesB
  rw [Bool.and_eq_true_iff]
  refine and_congr_right fun f => ?_
  have hf := fitsB_le f
  rw [Nat.zero_add] at hf
  rcases List.eq_nil_or_concat segs with rfl | ⟨Ms, L, rfl⟩
  · show w.drop r0.length = [] ↔ decide (w.length = r0.length) = true
    rw [decide_eq_true_iff, List.drop_eq_nil_iff]; and_intros
  · rw [List.concat_eq_append] at hs ⊢
    rw [List.getLast?_concat, List.dropLast_concat, run_mt (hs L (List.mem_append_right _ List.mem_cons_self)) (fun M h => hs M (List.mem_append_left _ h)) hf]
    show _ ↔ (match runB w r0.length Ms with
      | none => false
      | some a => decide (a + L.length ≤ w.length) && fitsB L w (w.length - L.length)) = true
    cases runB w r0.length Ms <;> exact Iff.rfl
end
end Mine

namespace Mine

/-- what one token means -/
noncomputable def tm : Tk → List Nat
  | .star => [42]
  | .q => [97, 98, 45]
  | .lit c => [c]
  | .br _ T => (ptTab.lookup T).getD []
/-- a token that the law's pieces hold -/
noncomputable def gT (t : Tk) : Bool := (t.isStar || (ptTab.contains (t.txt, tm t) && !(tm t == [42]))) && (t.ok && decide (t.pat.length ≤ 8))
noncomputable def build : List Tk → Ps × List Ps
  | [] => ([], [])
  | t :: r => if t.isStar then (if (build r).1.isEmpty && !(build r).2.isEmpty then build r else ([], (build r).1 :: (build r).2)) else ((t.txt, tm t) :: (build r).1, (build r).2)
noncomputable def sgPV (b : Ps × List Ps) : List PV := segsPV (b.2.map fsts)
noncomputable def ptPV (b : Ps × List Ps) : List PV := partsPV (fsts b.1) (b.2.map fsts)
noncomputable def flatI (b : Ps × List Ps) : Rw := b.1.map (·.2) ++ segI (b.2.map fun ps => ps.map (·.2))

theorem isStar_eq {t : Tk} (h : t.isStar = true) : t = .star := by
  cases t with
  | star => rfl
  | _ => exact nomatch h
theorem lastStar_add {res : List PV} {v : PV} : lastStar (res ++ [v]) = isStarV v := by
  unfold lastStar; rw [List.getLast?_concat]; rfl
theorem build_parts : ∀ (ts : List Tk) (res : List PV), ts.foldl addTk res = res ++ (if lastStar res && (build ts).1.isEmpty then (sgPV (build ts)).tail else ptPV (build ts))
  | [], res => by
    show res = res ++ (if lastStar res && true then [] else [])
    rw [ite_self, List.append_nil]
  | t :: r, res => by
    rw [List.foldl_cons, build_parts r]
    cases ht : t.isStar with
    | false =>
      have e : build (t :: r) = ((t.txt, tm t) :: (build r).1, (build r).2) := if_neg (by rw [ht]; nofun)
      have e2 : addTk res t = res ++ [.str t.txt] := if_neg (by rw [ht]; nofun)
      rw [e, e2, lastStar_add]
      show res ++ [PV.str t.txt] ++ ptPV (build r) = res ++ (if lastStar res && false then _ else PV.str t.txt :: ptPV (build r))
      rw [Bool.and_false, if_neg nofun, List.append_assoc]; rfl
    | true =>
      have e : build (t :: r) = (if (build r).1.isEmpty && !(build r).2.isEmpty then build r else ([], (build r).1 :: (build r).2)) := if_pos ht
      have e2 : addTk res t = addStar res := if_pos ht
      rw [e, e2]
      have key : ∀ {X : Ps × List Ps}, (if (build r).1.isEmpty && !(build r).2.isEmpty then build r else ([], (build r).1 :: (build r).2)) = X → X.1.isEmpty = true ∧ ptPV X = sgPV X ∧ sgPV X = PV.star :: (if (build r).1.isEmpty then (sgPV (build r)).tail else ptPV (build r)) := by
        rintro X rfl
        obtain ⟨p, ss⟩ := build r
        cases p with
        | cons z p => exact ⟨rfl, rfl, rfl⟩
        | nil => cases ss <;> exact ⟨rfl, rfl, rfl⟩
      obtain ⟨k1, k2, k3⟩ := key rfl
      rw [k1, k2, k3]
      unfold addStar
      cases hl : lastStar res with
      | true => rw [if_pos rfl, hl]; rfl
      | false =>
        rw [if_neg nofun, lastStar_add]
        show res ++ [PV.star] ++ _ = res ++ PV.star :: _
        rw [List.append_assoc]; rfl
theorem build_ok : ∀ {ts : List Tk}, segOk ((build ts).2.map fsts)
  | [] => trivial
  | t :: r => by
    have ih := build_ok (ts := r)
    show segOk ((if t.isStar then (if (build r).1.isEmpty && !(build r).2.isEmpty then build r else ([], (build r).1 :: (build r).2)) else ((t.txt, tm t) :: (build r).1, (build r).2)).2.map fsts)
    generalize build r = b at ih ⊢
    obtain ⟨p, ss⟩ := b
    split
    · cases p with
      | nil => cases ss with
        | nil => trivial
        | cons s ss => exact ih
      | cons z p => cases ss with
        | nil => trivial
        | cons s ss => exact ⟨nofun, ih⟩
    · exact ih

noncomputable abbrev EqM (X Y : Rw) : Prop := ∀ w, Mt X w ↔ Mt Y w
theorem eqM_cons {X Y : Rw} (it : List Nat) (h : EqM X Y) : EqM (it :: X) (it :: Y) := fun _ =>
  or_congr (and_congr_right fun _ => exists_congr fun _ => h _) (and_congr_right fun _ => exists_congr fun _ => exists_congr fun _ => and_congr_right fun _ => and_congr_right fun _ => h _)
theorem eqM_pre {X Y : Rw} (h : EqM X Y) : ∀ l : Rw, EqM (l ++ X) (l ++ Y)
  | [] => h
  | it :: l => eqM_cons it (eqM_pre h l)
theorem eqM_star {X : Rw} : EqM ([42] :: [42] :: X) ([42] :: X) := fun w => by
  have h1 := star_at (w := w) (X := [42] :: X) (a := 0)
  have h2 := star_at (w := w) (X := X) (a := 0)
  rw [List.drop_zero] at h1 h2
  rw [h1, h2]
  constructor
  · rintro ⟨k, _, m⟩
    obtain ⟨j, _, m⟩ := star_at.mp m
    exact ⟨j, Nat.zero_le _, m⟩
  · rintro ⟨k, _, m⟩
    exact ⟨k, Nat.zero_le _, star_at.mpr ⟨k, Nat.le_refl _, m⟩⟩
theorem build_mt : ∀ ts : List Tk, EqM (ts.map tm) (flatI (build ts))
  | [] => fun _ => Iff.rfl
  | t :: r => by
    have ih := build_mt r
    show EqM (tm t :: r.map tm) (flatI (if t.isStar then (if (build r).1.isEmpty && !(build r).2.isEmpty then build r else ([], (build r).1 :: (build r).2)) else ((t.txt, tm t) :: (build r).1, (build r).2)))
    generalize build r = b at ih ⊢
    obtain ⟨p, ss⟩ := b
    split
    · rename_i ht
      rw [isStar_eq ht]
      cases p with
      | cons z p => exact eqM_cons [42] ih
      | nil => cases ss with
        | nil => exact eqM_cons [42] ih
        | cons s ss => exact fun w => (eqM_cons [42] ih w).trans (eqM_star w)
    · exact eqM_cons _ ih

/-! bounds -/
noncomputable def wt (b : Ps × List Ps) : Nat := b.1.length + (b.2.map fun s => s.length + 1).sum
structure Good (n : Nat) (b : Ps × List Ps) : Prop where
  wt : wt b ≤ n
  h0 : ∀ z ∈ b.1, z ∈ ptTab ∧ z.2 ≠ [42]
  hs : ∀ M ∈ b.2, ∀ z ∈ M, z ∈ ptTab ∧ z.2 ≠ [42]
theorem good_z {t : Tk} (h : gT t = true) (h2 : t.isStar = false) : (t.txt, tm t) ∈ ptTab ∧ tm t ≠ [42] := by
  unfold gT at h
  rw [h2] at h
  obtain ⟨h1, h2⟩ := and_t (and_t h).1
  refine ⟨List.contains_iff_mem.mp h1, fun e => ?_⟩
  rw [e] at h2; exact nomatch h2
theorem build_good : ∀ {ts : List Tk}, (∀ t ∈ ts, gT t = true) → Good ts.length (build ts)
  | [], _ => ⟨Nat.le_refl _, nofun, nofun⟩
  | t :: r, h => by
    obtain ⟨h1, h2, h3⟩ := build_good (ts := r) fun u hu => h u (List.mem_cons_of_mem _ hu)
    show Good (r.length + 1) (if t.isStar then (if (build r).1.isEmpty && !(build r).2.isEmpty then build r else ([], (build r).1 :: (build r).2)) else ((t.txt, tm t) :: (build r).1, (build r).2))
    generalize build r = b at h1 h2 h3 ⊢
    obtain ⟨p, ss⟩ := b
    cases ht : t.isStar with
    | false =>
      refine ⟨?_, fun z hz => ?_, h3⟩
      · show p.length + 1 + (ss.map fun s => s.length + 1).sum ≤ _
        have : p.length + (ss.map fun s => s.length + 1).sum ≤ r.length := h1
        and_intros
      · rcases List.mem_cons.mp hz with rfl | hz
        · exact good_z (h t List.mem_cons_self) ht
        · exact h2 z hz
    | true =>
      have G : Good (r.length + 1) ([], p :: ss) := by
        refine ⟨?_, nofun, fun M hM => ?_⟩
        · show 0 + ((p.length + 1) + (ss.map fun s => s.length + 1).sum) ≤ _
          have : p.length + (ss.map fun s => s.length + 1).sum ≤ r.length := h1
          and_intros
        · rcases List.mem_cons.mp hM with rfl | hM
          · exact h2
          · exact h3 M hM
      cases p with
      | cons z p => exact G
      | nil => cases ss with
        | nil => exact G
        | cons s ss => exact ⟨Nat.le_succ_of_le h1, h2, h3⟩
theorem txs_le : ∀ {ps : Ps}, (∀ z ∈ ps, z ∈ ptTab ∧ z.2 ≠ [42]) → (txs ps).length ≤ 7 * ps.length
  | [], _ => Nat.le_refl _
  | z :: ps, h => by
    have h1 := txs_le (ps := ps) fun y hy => h y (List.mem_cons_of_mem _ hy)
    have h2 : ∀ z ∈ ptTab, z.1.length ≤ 7 := by decide
    have h3 := h2 z (h z List.mem_cons_self).1
    show (z.1 ++ txs ps).length ≤ 7 * (ps.length + 1)
    rw [List.length_append]; and_intros
theorem segOut_le : ∀ {ss : List Ps}, (∀ M ∈ ss, ∀ z ∈ M, z ∈ ptTab ∧ z.2 ≠ [42]) → (segOut (ss.map fsts)).flatten.length ≤ 7 * (ss.map fun s => s.length + 1).sum
  | [], _ => Nat.le_refl _
  | [s], h => by
    have h1 := txs_le (h s List.mem_cons_self)
    show (if fsts s = [] then [[46, 42]] else [[46, 42], txs s]).flatten.length ≤ 7 * (s.length + 1 + 0)
    split
    · show 2 ≤ _; and_intros
    · show ([46, 42] ++ (txs s ++ [])).length ≤ _
      rw [List.append_nil, List.length_append]; show 2 + _ ≤ _; and_intros
  | s :: u :: ss, h => by
    have h1 := txs_le (h s List.mem_cons_self)
    have h2 := segOut_le (ss := u :: ss) fun M hM => h M (List.mem_cons_of_mem _ hM)
    have e : (segOut ((s :: u :: ss).map fsts)).flatten = ([40, 63, 62, 46, 42, 63] ++ txs s ++ [41]) ++ (segOut ((u :: ss).map fsts)).flatten := rfl
    rw [e, List.length_append, List.length_append, List.length_append]
    show 6 + (txs s).length + 1 + (segOut ((u :: ss).map fsts)).flatten.length ≤ 7 * ((s.length + 1) + ((u :: ss).map fun s => s.length + 1).sum)
    and_intros
theorem sum_mem : ∀ {ss : List Ps} {M : Ps}, M ∈ ss → M.length + 1 ≤ (ss.map fun s => s.length + 1).sum
  | s :: ss, M, h => by
    rw [List.map_cons, List.sum_cons]
    rcases List.mem_cons.mp h with rfl | h
    · and_intros
    · have := sum_mem h; and_intros
theorem sum_len : ∀ ss : List Ps, ss.length ≤ (ss.map fun s => s.length + 1).sum ∧ (segsPV (ss.map fsts)).length = (ss.map fun s => s.length + 1).sum
  | [] => ⟨Nat.le_refl _, rfl⟩
  | s :: ss => by
    have := sum_len ss
    rw [List.map_cons, List.sum_cons, List.length_cons]
    refine ⟨by and_intros, ?_⟩
    show (segPV (fsts s) ++ segsPV (ss.map fsts)).length = _
    rw [List.length_append, this.2]
    show ((fsts s).map PV.str).length + 1 + _ = _
    rw [List.length_map, List.length_map]
noncomputable abbrev snds (ps : Ps) : Rw := ps.map (·.2)
/-- translate and rows together: the rows take what the tokens mean -/
theorem rows_law {ts : List Tk} (h : ∀ t ∈ ts, gT t = true) (hl : ts.length ≤ 12) : ∃ W r0 segs, R 6 "translate" [.str (patOf ts)] = some (.str W) ∧ R 6 "_law_rows" [.str W] = some (.list (rowsV (r0 :: segs))) ∧ (∀ r ∈ r0 :: segs, r.length ≤ 800) ∧ segs.length ≤ 900 ∧ (∀ r ∈ r0 :: segs, ∀ it ∈ r, ∀ c ∈ it, c < 0x110000) ∧ ∀ w, Mt (ts.map tm) w ↔ takesB r0 segs w = true := by
  have G := build_good h
  have e := build_parts ts []
  have ok := build_ok (ts := ts)
  have m := build_mt ts
  generalize build ts = b at G e ok m
  obtain ⟨p, ss⟩ := b
  obtain ⟨g1, g2, g3⟩ := G
  have g2 : ∀ z ∈ p, z ∈ ptTab ∧ z.2 ≠ [42] := g2
  have g3 : ∀ M ∈ ss, ∀ z ∈ M, z ∈ ptTab ∧ z.2 ≠ [42] := g3
  have g1 : p.length + (ss.map fun s => s.length + 1).sum ≤ ts.length := g1
  have l1 := sum_len ss
  have l2 : (txs p).length ≤ 7 * p.length := txs_le g2
  have l3 : (segOut (ss.map fsts)).flatten.length ≤ 7 * (ss.map fun s => s.length + 1).sum := segOut_le g3
  have g2' : ∀ z ∈ p, z.2 ≠ [42] := fun z hz => (g2 z hz).2
  have pl : ∀ ps : Ps, (∀ z ∈ ps, z ∈ ptTab ∧ z.2 ≠ [42]) → plainR (ps.map (·.2)) := fun ps h it hit => by
    obtain ⟨z, hz, rfl⟩ := List.mem_map.mp hit
    exact (h z hz).2
  have l4 : (txs p ++ (segOut (ss.map fsts)).flatten).length ≤ 84 := by rw [List.length_append]; and_intros
  have pat : ∀ {ts : List Tk}, (∀ t ∈ ts, gT t = true) → (patOf ts).length ≤ 8 * ts.length := by
    intro ts
    induction ts with
    | nil => exact fun _ => Nat.le_refl _
    | cons t r ih =>
      intro h
      have h1 := ih fun u hu => h u (List.mem_cons_of_mem _ hu)
      have h2 := of_decide_eq_true (and_t (and_t (h t List.mem_cons_self)).2).2
      show (t.pat ++ patOf r).length ≤ 8 * (r.length + 1)
      rw [List.length_append]; and_intros
  have hp := pat h
  have hseg : ∀ M ∈ ss, M.length ≤ 12 ∧ (txs M).length ≤ 84 := fun M hM => by
    have := sum_mem hM
    have := txs_le (g3 M hM)
    and_intros
  refine ⟨joinT (fsts p) (ss.map fsts), snds p, ss.map snds, translate_run 3 (fun t ht => (and_t (and_t (h t ht)).2).1) (by and_intros) (by and_intros) e ok ?_ (Nat.le_trans l4 (by decide)) (fun s hs => ?_), rows_run (ps0 := p) (segs := ss) 4 (fun z hz => (g2 z hz).1) (fun M hM z hz => (g3 M hM z hz).1) (by and_intros) (fun M hM => ?_) ?_, fun r hr => ?_, ?_, fun r hr it hit c hc => ?_, fun w => (m w).trans (takes_mt (r0 := snds p) (segs := ss.map snds) (pl p g2) fun M hM => ?_)⟩
  · unfold partsPV
    rw [List.length_append, List.length_map, List.length_map, l1.2]; and_intros
  · obtain ⟨M, hM, rfl⟩ := List.mem_map.mp hs
    exact Nat.le_trans (hseg M hM).2 (by decide)
  · rcases List.mem_cons.mp hM with rfl | hM
    · and_intros
    · have := hseg M hM; and_intros
  · unfold joinT
    rw [List.length_append, List.length_append]
    show 4 + (txs p ++ (segOut (ss.map fsts)).flatten).length + 3 ≤ _
    and_intros
  · rcases List.mem_cons.mp hr with rfl | hr
    · rw [List.length_map]; and_intros
    · obtain ⟨M, hM, rfl⟩ := List.mem_map.mp hr
      rw [List.length_map]
      have := hseg M hM; and_intros
  · rw [List.length_map]; and_intros
  · have tab : ∀ z ∈ ptTab, ∀ c ∈ z.2, c < 0x110000 := by decide
    have go : ∀ ps : Ps, (∀ z ∈ ps, z ∈ ptTab ∧ z.2 ≠ [42]) → r = snds ps → c < 0x110000 := fun ps h e => by
      subst e
      obtain ⟨z, hz, rfl⟩ := List.mem_map.mp hit
      exact tab z (h z hz).1 c hc
    rcases List.mem_cons.mp hr with e | hr
    · exact go p g2 e
    · obtain ⟨M, hM, e⟩ := List.mem_map.mp hr
      exact go M (g3 M hM) e.symm
  · obtain ⟨N, hN, rfl⟩ := List.mem_map.mp hM
    exact pl N (g3 N hN)

/-! the pieces -/
noncomputable def ptkTab : List (List Tk) := [[.star], [.star, .lit 97], [.lit 98, .star], [.q], [.lit 97], [.star, .star, .lit 45], [.br [97, 98] [91, 97, 98, 93]], [.br [33, 97] [91, 94, 97, 93]], [.br [45, 45, 97] [91, 92, 45, 45, 97, 93]], [.br [98, 45, 97] [40, 63, 33, 41]], [.br [33, 98, 45, 97] [46]], [.br [98, 45, 97, 33, 97] [91, 94, 97, 93]], [.br [93, 45, 97, 45] [91, 93, 45, 97, 92, 45, 93]], [.br [33, 98, 45, 97, 45, 97] [91, 94, 92, 45, 97, 93]], [], [.lit 98]]
noncomputable def mTab : List Rw := [[[42]], [[42], [97]], [[98], [42]], [[97, 98, 45]], [[97]], [[42], [45]], [[97, 98]], [[98, 45]], [[97, 45]], [[]], [[97, 98, 45]], [[98, 45]], [[97, 45]], [[98]], [], [[98]]]
noncomputable def ptk (p : Nat) : List Tk := ptkTab.getD p []
noncomputable def mnt (p : Nat) : Rw := mTab.getD p []
noncomputable def tsOf (ps : List Nat) : List Tk := ps.flatMap ptk
noncomputable def itOf (ps : List Nat) : Rw := ps.flatMap mnt
theorem pc_all : ∀ p, p < 16 → (∀ t ∈ ptk p, gT t = true) ∧ (ptk p).length ≤ 3 ∧ (mnt p).length ≤ 2 ∧ (p = 5 ∨ mnt p = (ptk p).map tm) := by decide +kernel
theorem pcs_mt : ∀ {ps : List Nat}, (∀ p ∈ ps, p < 16) → EqM (itOf ps) ((tsOf ps).map tm)
  | [], _ => fun _ => Iff.rfl
  | p :: ps, h => by
    have ih := pcs_mt (ps := ps) fun q hq => h q (List.mem_cons_of_mem _ hq)
    show EqM (mnt p ++ itOf ps) ((ptk p ++ tsOf ps).map tm)
    rw [List.map_append]
    rcases (pc_all p (h p List.mem_cons_self)).2.2.2 with rfl | e
    · exact fun w => ((eqM_pre ih (mnt 5)) w).trans (eqM_star w).symm
    · rw [e]; exact eqM_pre ih _
theorem pcs_g : ∀ {ps : List Nat}, (∀ p ∈ ps, p < 16) → (∀ t ∈ tsOf ps, gT t = true) ∧ (tsOf ps).length ≤ 3 * ps.length ∧ (itOf ps).length ≤ 2 * ps.length
  | [], _ => ⟨nofun, Nat.le_refl _, Nat.le_refl _⟩
  | p :: ps, h => by
    obtain ⟨h1, h2, h3⟩ := pcs_g (ps := ps) fun q hq => h q (List.mem_cons_of_mem _ hq)
    obtain ⟨k1, k2, k3, _⟩ := pc_all p (h p List.mem_cons_self)
    refine ⟨fun t ht => ?_, ?_, ?_⟩
    · rcases List.mem_append.mp (show t ∈ ptk p ++ tsOf ps from ht) with ht | ht
      · exact k1 t ht
      · exact h1 t ht
    · show (ptk p ++ tsOf ps).length ≤ 3 * (ps.length + 1)
      rw [List.length_append]; and_intros
    · show (mnt p ++ itOf ps).length ≤ 2 * (ps.length + 1)
      rw [List.length_append]; and_intros
end Mine

namespace Mine

theorem pmodN {O : Owns} {a b : Nat} {j : Int} (hj : j = b) (hb : 0 < b) (h2 : b < 1073741824) : pbin O .mod (.int (a : Nat)) (.int j) = some (.int ((a % b : Nat) : Int)) := by
  subst hj
  exact (if_pos ⟨by and_intros, by and_intros⟩).trans (congrArg (fun i => some (PV.int i)) (Int.fmod_eq_emod_of_nonneg _ (by and_intros)))
theorem pdivN {O : Owns} {a b : Nat} {j : Int} (hj : j = b) (hb : 0 < b) (h2 : b < 1073741824) : pbin O .fdiv (.int (a : Nat)) (.int j) = some (.int ((a / b : Nat) : Int)) := by
  subst hj
  exact (if_pos ⟨by and_intros, by and_intros⟩).trans (congrArg (fun i => some (PV.int i)) (Int.fdiv_eq_ediv_of_nonneg _ (by and_intros)))
noncomputable def okW (w : List Nat) : Prop := (∀ c ∈ w, okC c = true) ∧ w.length ≤ 8
noncomputable def pcTab : List (List Nat) := ptkTab.map patOf
noncomputable def lwS (ws : List Int) (pat : List Nat) (its : Rw) (fit : List Nat) (nms : List (List Nat)) (x7 x8 x10 : Option PV) : Mine.St :=
  ⟨[some (.list (ws.map .int)), some (.list (tl pcTab)), some (.own 0), some (.str pat), some (.own 1), some (.str fit), some (.own 2), x7, x8, none, x10, none, none, none, none, none, none, none, none, none, none, none, none, none, none, none, none], [some (rowsV mTab), some (tl its), some (tl nms)]⟩
theorem cut1 (l : List Nat) (a : Nat) : ∃ x, pslice l (some (a : Int)) (some ((a : Int) + 1)) = x ∧ x.length ≤ 1 ∧ ∀ c ∈ x, c ∈ l :=
  ⟨_, pslice_nat l a (a + 1) rfl rfl, by rw [List.length_drop, List.length_take]; exact Nat.sub_le_of_le_add (Nat.le_trans (Nat.min_le_left _ _) (Nat.le_of_eq (Nat.add_comm a 1))), fun _ h => List.mem_of_mem_take (List.mem_of_mem_drop h)⟩
theorem rep6 (l : List Nat) : (prepeat l 6).length = 6 * l.length ∧ ∀ c ∈ prepeat l 6, c ∈ l := by
  refine ⟨?_, fun c h => ?_⟩
  · show (l ++ (l ++ (l ++ (l ++ (l ++ (l ++ [])))))).length = _
    rw [List.append_nil, List.length_append, List.length_append, List.length_append, List.length_append, List.length_append]; and_intros
  · obtain ⟨x, hx, hc⟩ := List.mem_flatten.mp h
    exact List.eq_of_mem_replicate hx ▸ hc
noncomputable def itG (it : List Nat) : Bool := it == [42] || (it.all okC && decide (it.length ≤ 3))
section
variable {F : PF1} {ws : List Int} {pat : List Nat} {its : Rw} {fit : List Nat} {nms : List (List Nat)} {x7 x8 x10 : Option PV}
theorem in_step {it : List Nat} {r : Nat} (hi : itG it = true) (hf : fit.length ≤ 1000) : ∃ x, exs FUEL F lwIn (lwS ws pat its fit nms x7 (some (.int r)) (some (.str it))) = some (lwS ws pat its (fit ++ x) nms x7 (some (.int r)) (some (.str it)), .next) ∧ x.length ≤ 1 ∧ ∀ c ∈ x, okC c = true := by
  have hL : LIM = 1048576 := rfl
  have e8 : ∀ {O : Owns} {b : Nat}, 0 < b → b < 100 → ev F O (lwS ws pat its fit nms x7 (some (.int r)) (some (.str it))).G (.bin .mod (.var 8) (.ci b)) = some (.int ((r % b : Nat) : Int)) := fun h1 h2 => bin_e rfl rfl (pmodN rfl h1 (by and_intros))
  have key : ∀ {e : PE} {l : List Nat} {b : Nat}, 0 < b → b < 100 → ev F (lwS ws pat its fit nms x7 (some (.int r)) (some (.str it))).O (lwS ws pat its fit nms x7 (some (.int r)) (some (.str it))).G e = some (.str l) → l.length ≤ 100 → (∀ c ∈ l, okC c = true) →
      ∃ x, ev F (lwS ws pat its fit nms x7 (some (.int r)) (some (.str it))).O (lwS ws pat its fit nms x7 (some (.int r)) (some (.str it))).G (.sl e (.bin .mod (.var 8) (.ci b)) (.bin .add (.bin .mod (.var 8) (.ci b)) (.ci 1))) = some (.str x) ∧ x.length ≤ 1 ∧ ∀ c ∈ x, okC c = true := by
    intro e l b h1 h2 he hl ho
    obtain ⟨x, q1, q2, q3⟩ := cut1 l (r % b)
    exact ⟨x, sl_s he (e8 h1 h2) (bin_e (e8 h1 h2) rfl rfl) rfl rfl (by and_intros) q1, q2, fun c hc => ho c (q3 c hc)⟩
  have fin : ∀ {e : PE} {x : List Nat}, ev F (lwS ws pat its fit nms x7 (some (.int r)) (some (.str it))).O (lwS ws pat its fit nms x7 (some (.int r)) (some (.str it))).G e = some (.str x) → x.length ≤ 1 → exs FUEL F (.cons (.aug 5 .add e) .nil) (lwS ws pat its fit nms x7 (some (.int r)) (some (.str it))) = some (lwS ws pat its (fit ++ x) nms x7 (some (.int r)) (some (.str it)), .next) :=
    fun he hx => exs_one (aug_s rfl he (by and_intros))
  have ht : pt F (lwS ws pat its fit nms x7 (some (.int r)) (some (.str it))).O (lwS ws pat its fit nms x7 (some (.int r)) (some (.str it))).G (.cmp .eq (.var 10) (.cs [42])) = some (it == [42]) := rfl
  unfold itG at hi
  cases h : it == [42] with
  | true =>
    obtain ⟨x, q1, q2, q3⟩ := key (e := .cs [98, 45, 97]) (l := [98, 45, 97]) (b := 4) (by decide) (by decide) rfl (by decide) (by decide)
    exact ⟨x, fin (ite_et (ht.trans (congrArg some h)) q1) q2, q2, q3⟩
  | false =>
    rw [h] at hi
    obtain ⟨h1, h2⟩ := and_t hi
    have h2 := of_decide_eq_true h2
    have r6 := rep6 it
    obtain ⟨x, q1, q2, q3⟩ := key (e := .bin .mul (.var 10) (.ci 6)) (l := prepeat it 6) (b := 6) (by decide) (by decide) (bin_e rfl rfl (if_pos ⟨by decide, by and_intros⟩)) (by and_intros) (fun c hc => List.all_eq_true.mp h1 c (r6.2 c hc))
    exact ⟨x, fin (ite_ef (ht.trans (congrArg some h)) q1) q2, q2, q3⟩
theorem in_loop {r : Nat} : ∀ {l : Rw} {fit : List Nat} {x10 : Option PV}, (∀ it ∈ l, itG it = true) → fit.length + l.length ≤ 1000 → (∀ c ∈ fit, okC c = true) →
    ∃ fit' y10, frIt 10 (fun σ => exs FUEL F lwIn σ) (tl l) (lwS ws pat its fit nms x7 (some (.int r)) x10) = some (lwS ws pat its fit' nms x7 (some (.int r)) y10, .next) ∧ fit'.length ≤ fit.length + l.length ∧ ∀ c ∈ fit', okC c = true
  | [], fit, x10, _, _, h => ⟨fit, x10, rfl, Nat.le_refl _, h⟩
  | it :: l, fit, x10, hl, hf, h => by
    rw [List.length_cons] at hf
    obtain ⟨x, e, q2, q3⟩ := in_step (F := F) (ws := ws) (pat := pat) (its := its) (nms := nms) (x7 := x7) (r := r) (hl it List.mem_cons_self) (by and_intros : fit.length ≤ 1000)
    obtain ⟨fit', y10, e2, k2, k3⟩ := in_loop (r := r) (l := l) (fit := fit ++ x) (x10 := some (.str it)) (fun i hi => hl i (List.mem_cons_of_mem _ hi)) (by rw [List.length_append]; and_intros) (fun c hc => (List.mem_append.mp hc).elim (h c) (q3 c))
    rw [List.length_append] at k2
    exact ⟨fit', y10, frIt_c e e2, by rw [List.length_cons]; and_intros, k3⟩
/-- the name that a number tells -/
noncomputable def nmTab : List (List Nat) := [[], [97], [98], [45]]
noncomputable def nmOf (r : Nat) : List Nat := ((List.range 4).map fun k => nmTab.getD (r / 4 ^ k % 4) []).flatten
theorem nmTab_all : ∀ j, j < 4 → nmTab[j]? = some (nmTab.getD j []) ∧ (nmTab.getD j []).length ≤ 1 ∧ (nmTab.getD j []).all okC = true := by decide
theorem nm_ok (r : Nat) : (∀ c ∈ nmOf r, okC c = true) ∧ (nmOf r).length ≤ 4 := by
  have h : ∀ k, (nmTab.getD (r / 4 ^ k % 4) []).length ≤ 1 ∧ (nmTab.getD (r / 4 ^ k % 4) []).all okC = true := fun k => (nmTab_all _ (Nat.mod_lt _ (by decide))).2
  refine ⟨fun c hc => ?_, ?_⟩
  · obtain ⟨x, hx, hc⟩ := List.mem_flatten.mp hc
    obtain ⟨k, _, rfl⟩ := List.mem_map.mp hx
    exact List.all_eq_true.mp (h k).2 c hc
  · show (nmTab.getD (r / 4 ^ 0 % 4) [] ++ (nmTab.getD (r / 4 ^ 1 % 4) [] ++ (nmTab.getD (r / 4 ^ 2 % 4) [] ++ (nmTab.getD (r / 4 ^ 3 % 4) [] ++ [])))).length ≤ 4
    rw [List.append_nil, List.length_append, List.length_append, List.length_append]
    have h0 := (h 0).1; have h1 := (h 1).1; have h2 := (h 2).1; have h3 := (h 3).1
    and_intros
theorem ppow4 {O : Owns} {k : Nat} (h : k ≤ 16) : pbin O .pow (.int 4) (.int (k : Nat)) = some (.int ((4 ^ k : Nat) : Int)) :=
  (if_pos ⟨by and_intros, by and_intros, by decide, by decide⟩).trans (congrArg (fun i => some (PV.int i)) (by rw [Int.toNat_natCast]; exact (Int.natCast_pow 4 k).symm))
theorem nm_e {O : Owns} {G : Slots} {r : Nat} (h : G[8]? = some (some (.int r))) : ev F O G (.me .join (.cs []) (.cons (.comp (.idx (.lst (.cons (.cs []) (.cons (.cs [97]) (.cons (.cs [98]) (.cons (.cs [45]) .nil))))) (.bin .mod (.bin .fdiv (.var 2) (.bin .pow (.ci 4) (.var 1))) (.ci 4))) 1 (.rng (.cons (.ci 4) .nil)) .nil [none, none, some 8]) .nil)) = some (.str (nmOf r)) := by
  have hL : LIM = 1048576 := rfl
  have hc : ev F O G (.comp (.idx (.lst (.cons (.cs []) (.cons (.cs [97]) (.cons (.cs [98]) (.cons (.cs [45]) .nil))))) (.bin .mod (.bin .fdiv (.var 2) (.bin .pow (.ci 4) (.var 1))) (.ci 4))) 1 (.rng (.cons (.ci 4) .nil)) .nil [none, none, some 8]) = some (.list (tl ((List.range 4).map fun k => nmTab.getD (r / 4 ^ k % 4) []))) := by
    refine comp_tl (l := List.range 4) (c := fun k : Nat => PV.int k) (rng1 (n := 4) rfl (by decide)) fun k hk => ?_
    have hk := List.mem_range.mp hk
    have e8 : ((G[8]?).bind id) = some (.int r) := bind_eq h rfl
    show ev F O [none, some (.int (k : Nat)), (G[8]?).bind id] _ = _
    rw [e8]
    have p4 : 0 < 4 ^ k := Nat.pow_pos (by decide)
    have p5 : 4 ^ k ≤ 4 ^ 4 := Nat.pow_le_pow_right (by decide) (Nat.le_of_lt hk)
    exact idx_tl (ls := nmTab) (i := ((r / 4 ^ k % 4 : Nat) : Int)) rfl (bin_e (bin_e rfl (bin_e rfl rfl (ppow4 (by and_intros))) (pdivN rfl p4 (by and_intros))) rfl (pmodN rfl (by decide) (by decide))) (nb rfl (by and_intros)) (pidx_nat.trans (nmTab_all _ (Nat.mod_lt _ (by decide))).1)
  exact me_e (x := .str []) rfl (evs_c hc rfl) (pme_join0 rfl (Nat.le_trans (nm_ok r).2 (by decide)))
theorem pc_at : ∀ p, p < 16 → pcTab[p]? = some (patOf (ptk p)) ∧ mTab[p]? = some (mnt p) ∧ (patOf (ptk p)).length ≤ 8 ∧ (mnt p).all itG = true := by decide +kernel
theorem lw_for {n : Nat} (hp : pat.length ≤ 1000) (hi : its.length ≤ 1000) (hf : fit.length ≤ 900) (hn : nms.length ≤ 1000) (ho : ∀ c ∈ fit, okC c = true) :
    ∃ fit' y10, exs FUEL F lwFor (lwS ws pat its fit nms (some (.int n)) x8 x10) = some (lwS ws (pat ++ patOf (ptk (n % 16))) (its ++ mnt (n % 16)) fit' (nms ++ [nmOf (n / 16)]) (some (.int n)) (some (.int (n / 16 : Nat))) y10, .next) ∧ fit'.length ≤ fit.length + 2 ∧ ∀ c ∈ fit', okC c = true := by
  have hL : LIM = 1048576 := rfl
  have hm : n % 16 < 16 := Nat.mod_lt _ (by decide)
  obtain ⟨p1, p2, p3, p4⟩ := pc_at _ hm
  have m2 := (pc_all _ hm).2.2.1
  have em : ∀ {O : Owns} {G : Slots}, G[7]? = some (some (.int n)) → ev F O G (.bin .mod (.var 7) (.ci 16)) = some (.int ((n % 16 : Nat) : Int)) := fun h => bin_e (ev_varE h) rfl (pmodN rfl (by decide) (by decide))
  have hmt : ∀ {G : Slots} {a b : Option (List PV)}, G[2]? = some (some (.own 0)) → G[7]? = some (some (.int n)) → ev F [some (rowsV mTab), a, b] G (.idx (.var 2) (.bin .mod (.var 7) (.ci 16))) = some (.list (tl (mnt (n % 16)))) := fun h1 h2 =>
    idx_o (k := 0) (l := rowsV mTab) (ev_varE h1) rfl (em h2) (nb rfl (by and_intros)) (by rw [pidx_nat, rowsV, List.getElem?_map, p2]; rfl)
  obtain ⟨fit', y10, e, q1, q2⟩ := in_loop (F := F) (ws := ws) (pat := pat ++ patOf (ptk (n % 16))) (its := its ++ mnt (n % 16)) (nms := nms ++ [nmOf (n / 16)]) (x7 := some (.int n)) (r := n / 16) (x10 := x10) (List.all_eq_true.mp p4) (by and_intros : fit.length + _ ≤ 1000) ho
  refine ⟨fit', y10, exs_next (σ' := lwS ws (pat ++ patOf (ptk (n % 16))) its fit nms (some (.int n)) x8 x10) (aug_s rfl (idx_tl (ls := pcTab) rfl (em rfl) (nb rfl (by and_intros)) (pidx_nat.trans p1)) (by and_intros)) (exs_next (σ' := lwS ws (pat ++ patOf (ptk (n % 16))) (its ++ mnt (n % 16)) fit nms (some (.int n)) x8 x10) ?_ (exs_next (σ' := lwS ws (pat ++ patOf (ptk (n % 16))) (its ++ mnt (n % 16)) fit nms (some (.int n)) (some (.int (n / 16 : Nat))) x10) (asg_e (i := 8) (bin_e rfl rfl (pdivN rfl (by decide) (by decide)))) (exs_next (σ' := lwS ws (pat ++ patOf (ptk (n % 16))) (its ++ mnt (n % 16)) fit (nms ++ [nmOf (n / 16)]) (some (.int n)) (some (.int (n / 16 : Nat))) x10) ?_ (exs_one (fr_e (its := tl (mnt (n % 16))) (itF_l (hmt rfl rfl) (by rw [tl_len]; and_intros)) e))))), by and_intros, q2⟩
  · refine (augo_e (k := 1) (vs := tl its) rfl rfl (hmt rfl rfl) (by rw [tl_len, tl_len]; and_intros)).trans ?_
    rw [show tl its ++ tl (mnt (n % 16)) = tl (its ++ mnt (n % 16)) from List.map_append.symm]; rfl
  · refine (app_e (k := 2) (vs := tl nms) rfl rfl (nm_e rfl) (by rw [tl_len]; and_intros)).trans ?_
    rw [show tl nms ++ [PV.str (nmOf (n / 16))] = tl (nms ++ [nmOf (n / 16)]) from (List.map_append (l₁ := nms) (l₂ := [nmOf (n / 16)]) (f := PV.str)).symm]; rfl
theorem lw_loop : ∀ (ns : List Nat) {pat : List Nat} {its : Rw} {fit : List Nat} {nms : List (List Nat)} {x7 x8 x10 : Option PV}, pat.length + 8 * ns.length ≤ 1000 → its.length + 2 * ns.length ≤ 1000 → fit.length + 2 * ns.length ≤ 900 → nms.length + ns.length ≤ 1000 → (∀ c ∈ fit, okC c = true) →
    ∃ fit' y7 y8 y10, frIt 7 (fun σ => exs FUEL F lwFor σ) (il ns) (lwS ws pat its fit nms x7 x8 x10) = some (lwS ws (pat ++ patOf (tsOf (ns.map (· % 16)))) (its ++ itOf (ns.map (· % 16))) fit' (nms ++ ns.map fun n => nmOf (n / 16)) y7 y8 y10, .next) ∧ fit'.length ≤ fit.length + 2 * ns.length ∧ ∀ c ∈ fit', okC c = true
  | [], pat, its, fit, nms, x7, x8, x10, _, _, _, _, h => ⟨fit, x7, x8, x10, by
      show some (lwS ws pat its fit nms x7 x8 x10, PF.next) = some (lwS ws (pat ++ []) (its ++ []) fit (nms ++ []) x7 x8 x10, PF.next)
      rw [List.append_nil, List.append_nil, List.append_nil], Nat.le_refl _, h⟩
  | n :: ns, pat, its, fit, nms, x7, x8, x10, h1, h2, h3, h4, h => by
    rw [List.length_cons] at h1 h2 h3 h4
    have hm : n % 16 < 16 := Nat.mod_lt _ (by decide)
    obtain ⟨_, _, p3, _⟩ := pc_at _ hm
    have m2 := (pc_all _ hm).2.2.1
    obtain ⟨f1, y10, e1, q1, q2⟩ := lw_for (F := F) (ws := ws) (n := n) (x8 := x8) (x10 := x10) (by and_intros : pat.length ≤ 1000) (by and_intros : its.length ≤ 1000) (by and_intros : fit.length ≤ 900) (by and_intros : nms.length ≤ 1000) h
    obtain ⟨fit', z7, z8, z10, e2, k1, k2⟩ := lw_loop ns (pat := pat ++ patOf (ptk (n % 16))) (its := its ++ mnt (n % 16)) (fit := f1) (nms := nms ++ [nmOf (n / 16)]) (x7 := some (.int n)) (x8 := some (.int (n / 16 : Nat))) (x10 := y10) (by rw [List.length_append]; and_intros) (by rw [List.length_append]; and_intros) (by and_intros) (by rw [List.length_append]; show _ + 1 + _ ≤ _; and_intros) q2
    refine ⟨fit', z7, z8, z10, frIt_c e1 (e2.trans ?_), by rw [List.length_cons]; and_intros, k2⟩
    have a1 : pat ++ patOf (ptk (n % 16)) ++ patOf (tsOf (ns.map (· % 16))) = pat ++ patOf (tsOf ((n :: ns).map (· % 16))) := by
      rw [List.append_assoc]
      refine congrArg (pat ++ ·) ?_
      show _ = patOf (ptk (n % 16) ++ tsOf (ns.map (· % 16)))
      unfold patOf
      rw [List.map_append, List.flatten_append]
    rw [a1, List.append_assoc, List.append_assoc]; rfl
end
end Mine

namespace Mine

/-! texts and lines -/
theorem sp10_end : ∀ {u acc : List Nat}, (∀ c ∈ u, c ≠ 10) → psplitGo [10] 0 acc u = [acc.reverse ++ u]
  | [], acc, _ => congrArg (fun l => [l]) (List.append_nil _).symm
  | c :: u, acc, h => by
    have hc := h c List.mem_cons_self
    have e : [10].isPrefixOf (c :: u) = false := by show (10 == c && true) = false; rw [Bool.and_true]; exact beq_eq_false_iff_ne.mpr hc.symm
    rw [psplitGo_c, if_neg (by rw [e]; nofun), sp10_end fun d hd => h d (List.mem_cons_of_mem _ hd), List.reverse_cons, List.append_assoc]; rfl
theorem sp10_cut : ∀ {u acc : List Nat} {r : List Nat}, (∀ c ∈ u, c ≠ 10) → psplitGo [10] 0 acc (u ++ 10 :: r) = (acc.reverse ++ u) :: psplitGo [10] 0 [] r
  | [], acc, r, _ => by
    show psplitGo [10] 0 acc (10 :: r) = _
    rw [psplitGo_c, if_pos (show [10].isPrefixOf (10 :: r) = true from rfl), List.append_nil]; rfl
  | c :: u, acc, r, h => by
    have hc := h c List.mem_cons_self
    have e : [10].isPrefixOf (c :: (u ++ 10 :: r)) = false := by show (10 == c && true) = false; rw [Bool.and_true]; exact beq_eq_false_iff_ne.mpr hc.symm
    show psplitGo [10] 0 acc (c :: (u ++ 10 :: r)) = _
    rw [psplitGo_c, if_neg (by rw [e]; nofun), sp10_cut fun d hd => h d (List.mem_cons_of_mem _ hd), List.reverse_cons, List.append_assoc]; rfl
theorem split_join : ∀ {ls : List (List Nat)}, ls ≠ [] → (∀ l ∈ ls, ∀ c ∈ l, c ≠ 10) → psplit [10] (pjoin [10] ls) = ls
  | [], h, _ => absurd rfl h
  | [l], _, h => sp10_end (h l List.mem_cons_self)
  | l :: m :: ls, _, h => by
    show psplitGo [10] 0 [] (l ++ [10] ++ pjoin [10] (m :: ls)) = _
    rw [List.append_assoc]
    exact (sp10_cut (h l List.mem_cons_self)).trans (congrArg (l :: ·) (split_join nofun fun k hk => h k (List.mem_cons_of_mem _ hk)))
theorem sum_le {k : Nat} : ∀ {ls : List (List Nat)}, (∀ l ∈ ls, l.length ≤ k) → (ls.map List.length).sum ≤ k * ls.length
  | [], _ => Nat.zero_le _
  | l :: ls, h => by
    have h1 := h l List.mem_cons_self
    have h2 := sum_le (ls := ls) fun m hm => h m (List.mem_cons_of_mem _ hm)
    rw [List.map_cons, List.sum_cons, List.length_cons, Nat.mul_succ]; and_intros
theorem pjoin_len (b : List Nat) : ∀ ls : List (List Nat), (pjoin b ls).length ≤ (ls.map List.length).sum + ls.length * b.length
  | [] => Nat.zero_le _
  | [l] => by show l.length ≤ l.length + 0 + _; and_intros
  | l :: m :: ls => by
    have := pjoin_len b (m :: ls)
    show (l ++ b ++ pjoin b (m :: ls)).length ≤ _
    rw [List.length_append, List.length_append, List.map_cons, List.sum_cons, List.length_cons, Nat.succ_mul]; and_intros
noncomputable def ln0 (w : List Nat) : Ln := ⟨[], 0, w⟩
theorem ln_t_len (l : Ln) : l.t.length = l.w.length + 1 := by
  unfold Ln.t Ln.w; rw [List.length_append, List.length_append]; rfl
/-- the text of few short lines is short -/
theorem jn_len {ls : List Ln} (hn : ls.length ≤ 5) (h : ∀ l ∈ ls, okW l.w) : (jn ls).length ≤ 50 := by
  have h1 := pjoin_len [10] (ls.map Ln.t)
  have h2 := sum_le (k := 9) (ls := ls.map Ln.t) fun x hx => by
    obtain ⟨l, hl, rfl⟩ := List.mem_map.mp hx
    rw [ln_t_len]; exact Nat.succ_le_succ (h l hl).2
  rw [List.length_map] at h1 h2
  have h1 : (jn ls).length ≤ _ + ls.length * 1 := h1
  and_intros

/-- the greatest -/
theorem max_at : ∀ {l : List Nat}, l ≠ [] → ∃ m ∈ l, ∀ x ∈ l, x ≤ m
  | [], h => absurd rfl h
  | [a], _ => ⟨a, List.mem_cons_self, fun x hx => by rw [List.mem_singleton.mp hx]; exact Nat.le_refl _⟩
  | a :: b :: l, _ => by
    obtain ⟨m, h1, h2⟩ := max_at (l := b :: l) nofun
    rcases Nat.le_total a m with q | q
    · exact ⟨m, List.mem_cons_of_mem _ h1, fun x hx => (List.mem_cons.mp hx).elim (fun e => e ▸ q) (h2 x)⟩
    · exact ⟨a, List.mem_cons_self, fun x hx => (List.mem_cons.mp hx).elim (fun e => e ▸ Nat.le_refl _) fun h => Nat.le_trans (h2 x h) q⟩
theorem pints_il : ∀ l : List Nat, pints (il l) = some (l.map fun n : Nat => (n : Int))
  | [] => rfl
  | x :: r => bind_eq rfl (map_eq (pints_il r))
theorem max_e {O : Owns} {l : List Nat} (h : l ≠ []) : ∃ m ∈ l, pbi O .max [.list (il l)] = some (.int (m : Nat)) ∧ ∀ x ∈ l, x ≤ m := by
  obtain ⟨m, h1, h2⟩ := max_at h
  have h3 : ((l.map fun n : Nat => (n : Int)).find? fun m => (l.map fun n : Nat => (n : Int)).all fun y => decide (y ≤ m)).isSome = true :=
    List.find?_isSome.mpr ⟨(m : Int), List.mem_map_of_mem h1, List.all_eq_true.mpr fun y hy => by
      obtain ⟨x, hx, rfl⟩ := List.mem_map.mp hy
      exact decide_eq_true (Int.ofNat_le.mpr (h2 x hx))⟩
  obtain ⟨y, hy⟩ := Option.isSome_iff_exists.mp h3
  obtain ⟨k, hk, rfl⟩ := List.mem_map.mp (List.mem_of_find?_eq_some hy)
  refine ⟨k, hk, (bind_eq (pints_il l) (map_eq hy) : ((pints (il l)).bind fun l => (l.find? fun m => l.all fun y => decide (y ≤ m)).map PV.int) = _), fun x hx => ?_⟩
  have hs := List.find?_some (p := fun m : Int => (l.map fun n : Nat => (n : Int)).all fun y => decide (y ≤ m)) hy
  exact Int.ofNat_le.mp (of_decide_eq_true (List.all_eq_true.mp hs _ (List.mem_map_of_mem hx)))

/-! values -/
theorem pveq_tl : ∀ a : List (List Nat), pveqL (tl a) (tl a) = true
  | [] => rfl
  | x :: a => Bool.and_eq_true_iff.mpr ⟨beq_self_eq_true x, pveq_tl a⟩
theorem ok_tl {n : Nat} : ∀ {a : List (List Nat)}, (∀ x ∈ a, ∀ c ∈ x, c < 0x110000) → okDs n (tl a) = true
  | [], _ => rfl
  | x :: a, h => Bool.and_eq_true_iff.mpr ⟨List.all_eq_true.mpr fun c hc => decide_eq_true (h x List.mem_cons_self c hc), ok_tl fun y hy => h y (List.mem_cons_of_mem _ hy)⟩
theorem ok_rowsV {n : Nat} : ∀ {a : List Rw}, (∀ r ∈ a, ∀ it ∈ r, ∀ c ∈ it, c < 0x110000) → okDs (n + 1) (rowsV a) = true
  | [], _ => rfl
  | x :: a, h => Bool.and_eq_true_iff.mpr ⟨Bool.and_eq_true_iff.mpr ⟨rfl, ok_tl (h x List.mem_cons_self)⟩, ok_rowsV fun y hy => h y (List.mem_cons_of_mem _ hy)⟩
theorem peqL {O : Owns} {a b : List PV} {v w : PV} (hv : asI v = none ∧ asS v = none) (h1 : resO O v = .list a) (h2 : resO O w = .list b) (ka : okDs 7 a = true) (kb : okDs 7 b = true) : peq O v w = some (pveqL a b) := by
  unfold peq
  rw [hv.1, hv.2]
  show peqD O v w = _
  unfold peqD
  rw [h1, h2]
  exact if_pos (Bool.and_eq_true_iff.mpr ⟨Bool.and_eq_true_iff.mpr ⟨rfl, ka⟩, Bool.and_eq_true_iff.mpr ⟨rfl, kb⟩⟩)

/-! the turns -/
noncomputable def trn (tr : List Tr) : Nat → List Ln → List Ln
  | 0, ls => ls
  | k + 1, ls => trn tr k (ls.map (mvs (tr ++ tr)))
theorem trn_end {its : Rw} {D : List (List Nat)} {tr : List Tr} (I : MInv its D.length D tr) : ∀ (k : Nat) {ls : List Ln}, (∀ l ∈ ls, LI its D l ∧ okW l.w ∧ l.v.length ≤ 2 * k) →
    (∀ l ∈ trn tr k ls, LI its D l ∧ l.v = []) ∧ (trn tr k ls).map Ln.w = ls.map Ln.w
  | 0, ls, h => ⟨fun l hl => ⟨(h l hl).1, List.length_eq_zero_iff.mp (Nat.le_zero.mp (h l hl).2.2)⟩, rfl⟩
  | k + 1, ls, h => by
    obtain ⟨q1, q2⟩ := trn_end I k (ls := ls.map (mvs (tr ++ tr))) fun l hl => by
      obtain ⟨m, hm, rfl⟩ := List.mem_map.mp hl
      obtain ⟨h1, h2, h3⟩ := h m hm
      obtain ⟨k1, k2⟩ := mvs_2 I h1 h2.1
      refine ⟨k1, by rw [mvs_w]; exact h2, by and_intros⟩
    refine ⟨q1, q2.trans ?_⟩
    rw [List.map_map]
    exact List.map_congr_left fun l _ => mvs_w _ l
end Mine

namespace Mine

noncomputable def tlS (ws : List Int) (pat : List Nat) (its : Rw) (fit : List Nat) (nms : List (List Nat)) (D : List (List Nat)) (mv : List (List Nat)) (x7 x8 x9 x10 x13 x14 x15 x16 x17 : Option PV) : Mine.St :=
  ⟨[some (.list (ws.map .int)), some (.list (tl pcTab)), some (.own 0), some (.str pat), some (.list (tl its)), some (.str fit), some (.own 2), x7, x8, x9, x10, some (.list (setsV D)), some (.list (tl mv)), x13, x14, x15, x16, x17, none, none, none, none, none, none, none, none, none], [some (rowsV mTab), none, some (tl nms)]⟩
section
variable {ws : List Int} {pat : List Nat} {its : Rw} {fit : List Nat} {nms D : List (List Nat)} {tr : List Tr} {x7 x8 x9 x10 x13 x14 x15 x16 x17 : Option PV}
theorem tl_turn {ls : List Ln} (hl : tr.length ≤ 2000) (hc : ∀ z ∈ tr, z.2.1 ≠ 10) (hn : ls.length ≤ 5) (hw : ∀ l ∈ ls, okW l.w) : exs FUEL (R 6) lwTurn (tlS ws pat its fit nms D (mvOf tr) x7 x8 x9 x10 (some (.str (jn ls))) x14 x15 x16 x17) = some (tlS ws pat its fit nms D (mvOf tr) x7 x8 x9 x10 (some (.str (jn (ls.map (mvs (tr ++ tr)))))) x14 x15 x16 x17, .next) := by
  have hL : LIM = 1048576 := rfl
  have hm := mvOf_len tr
  have e2 : prepeat (tl (mvOf tr)) 2 = tl (mvOf (tr ++ tr)) := by
    show tl (mvOf tr) ++ (tl (mvOf tr) ++ []) = _
    rw [List.append_nil, mvOf_app]; exact List.map_append.symm
  refine exs_one (asg_e (i := 13) (bind_eq rfl (bind_eq (a := PV.list (tl (mvOf (tr ++ tr)))) (bin_e rfl rfl ((if_pos ⟨by decide, by rw [tl_len]; and_intros⟩).trans (congrArg (fun l => some (PV.list l)) e2))) (bind_eq rfl ((if_pos ⟨?_, ?_⟩).trans (repl_run 5 ?_ ?_ (fun l hl => (hw l hl).1) (Nat.le_trans (jn_len hn hw) (by decide))))))))
  · rw [List.length_append]; and_intros
  · exact fun z hz => (List.mem_append.mp hz).elim (hc z) (hc z)
  · rw [tl_len, mvOf_len, List.length_append]; and_intros
  · exact noOwn_tl _
theorem tl_turns (hl : tr.length ≤ 2000) (hc : ∀ z ∈ tr, z.2.1 ≠ 10) : ∀ (l : List Nat) {ls : List Ln} {x14 : Option PV}, ls.length ≤ 5 → (∀ l ∈ ls, okW l.w) →
    ∃ y14, frIt 14 (fun σ => exs FUEL (R 6) lwTurn σ) (il l) (tlS ws pat its fit nms D (mvOf tr) x7 x8 x9 x10 (some (.str (jn ls))) x14 x15 x16 x17) = some (tlS ws pat its fit nms D (mvOf tr) x7 x8 x9 x10 (some (.str (jn (trn tr l.length ls)))) y14 x15 x16 x17, .next)
  | [], ls, x14, _, _ => ⟨x14, rfl⟩
  | i :: l, ls, x14, hn, hw => by
    obtain ⟨y14, e⟩ := tl_turns hl hc l (ls := ls.map (mvs (tr ++ tr))) (x14 := some (.int i)) (by rw [List.length_map]; exact hn) fun l hl => by
      obtain ⟨m, hm, rfl⟩ := List.mem_map.mp hl
      rw [mvs_w]; exact hw m hm
    exact ⟨y14, frIt_c (tl_turn hl hc hn hw) e⟩
theorem tl_end {ls : List Ln} {r0 : Rw} {segs : List Rw} {k : Nat} {l : Ln} (hk : ls[k]? = some l) (hn : nms[k]? = some l.w) (hb : k ≤ 100) (hl : its.length ≤ 100) (hs : D[l.s]? = some (dl its l.w)) (hv : l.t = l.w ++ [57344 + l.s]) (hD : D.length ≤ 1000)
    (ht : R 6 "_law_takes" [.list (rowsV (r0 :: segs)), .str l.w] = some (.bool ((dl its l.w).contains its.length))) :
    exs FUEL (R 6) lwEnd (tlS ws pat its fit nms D (mvOf tr) x7 x8 (some (.int k)) x10 x13 x14 (some (.list (tl (ls.map Ln.t)))) (some (.list (rowsV (r0 :: segs)))) x17) = some (tlS ws pat its fit nms D (mvOf tr) x7 x8 (some (.int k)) x10 x13 x14 (some (.list (tl (ls.map Ln.t)))) (some (.list (rowsV (r0 :: segs)))) (some (.list (il (dl its l.w)))), .next) := by
  have hL : LIM = 1048576 := rfl
  have hsD := (List.getElem?_eq_some_iff.mp hs).1
  have e1 : ∀ {O : Owns} {G : Slots}, G[15]? = some (some (.list (tl (ls.map Ln.t)))) → G[9]? = some (some (.int k)) → ev (R 6) O G (.idx (.idx (.var 15) (.var 9)) (.ci (-1))) = some (.str [57344 + l.s]) := fun h1 h2 =>
    idx_s (l := l.t) (idx_tl (ls := ls.map Ln.t) (ev_varE h1) (ev_varE h2) (nb rfl (by and_intros)) (by rw [pidx_nat, List.getElem?_map, hk]; rfl)) rfl (by decide) (by rw [pidx_last, hv, List.getLast?_concat])
  refine exs_next (σ' := tlS ws pat its fit nms D (mvOf tr) x7 x8 (some (.int k)) x10 x13 x14 (some (.list (tl (ls.map Ln.t)))) (some (.list (rowsV (r0 :: segs)))) (some (.list (il (dl its l.w))))) (asg_e (i := 17) (idx_l (l := setsV D) (i := (l.s : Nat)) rfl (bin_e (bi_e (evs_c (e1 rfl rfl) rfl) rfl) rfl ?_) (nb rfl (by and_intros)) (by rw [pidx_nat, setsV, List.getElem?_map, hs]; rfl))) (exs_one (ite_f (cmp_t (x := .bool ((dl its l.w).contains its.length)) (y := .bool ((dl its l.w).contains its.length)) ?_ ?_ (neB.trans ?_)) rfl))
  · exact congrArg (fun i => some (PV.int i)) (by and_intros)
  · exact cmp_e (len_l (l := tl its) rfl (by rw [tl_len]; and_intros)) rfl (by rw [tl_len]; exact inSetI)
  · exact call_e (vs := [.list (rowsV (r0 :: segs)), .str l.w]) (evs_c rfl (evs_c (idx_o (k := 2) (l := tl nms) rfl rfl rfl (nb rfl (by and_intros)) (by rw [pidx_nat, tl, List.getElem?_map, hn]; rfl)) rfl)) (Bool.and_eq_true_iff.mpr ⟨noOwn_rows _, rfl⟩) ht
  · cases (dl its l.w).contains its.length <;> rfl
theorem tl_ends {ls : List Ln} {r0 : Rw} {segs : List Rw} (hl : its.length ≤ 100) (hD : D.length ≤ 1000) (hn : ls.length ≤ 5) (hw : ls.map Ln.w = nms) (hI : ∀ l ∈ ls, LI its D l ∧ l.v = [])
    (ht : ∀ l ∈ ls, R 6 "_law_takes" [.list (rowsV (r0 :: segs)), .str l.w] = some (.bool ((dl its l.w).contains its.length))) : ∀ (ks : List Nat) {x9 x17 : Option PV}, (∀ k ∈ ks, k < ls.length) →
    ∃ y9 y17, frIt 9 (fun σ => exs FUEL (R 6) lwEnd σ) (il ks) (tlS ws pat its fit nms D (mvOf tr) x7 x8 x9 x10 x13 x14 (some (.list (tl (ls.map Ln.t)))) (some (.list (rowsV (r0 :: segs)))) x17) = some (tlS ws pat its fit nms D (mvOf tr) x7 x8 y9 x10 x13 x14 (some (.list (tl (ls.map Ln.t)))) (some (.list (rowsV (r0 :: segs)))) y17, .next)
  | [], x9, x17, _ => ⟨x9, x17, rfl⟩
  | k :: ks, x9, x17, h => by
    have hk := h k List.mem_cons_self
    obtain ⟨l, hkl⟩ : ∃ l, ls[k]? = some l := ⟨_, List.getElem?_eq_getElem hk⟩
    have hm := List.mem_of_getElem? hkl
    obtain ⟨h1, h2⟩ := hI l hm
    have hu : l.w = l.u := by unfold Ln.w; rw [h2, List.append_nil]
    have hv : l.t = l.w ++ [57344 + l.s] := by unfold Ln.t; rw [hu, h2]
    obtain ⟨y9, y17, e⟩ := tl_ends hl hD hn hw hI ht ks (x9 := some (.int k)) (x17 := some (.list (il (dl its l.w)))) fun j hj => h j (List.mem_cons_of_mem _ hj)
    exact ⟨y9, y17, frIt_c (tl_end hkl (by rw [← hw, List.getElem?_map, hkl]; rfl) (by and_intros) hl (by rw [hu]; exact h1) hv hD (ht l hm)) e⟩
end
end Mine

namespace Mine

theorem trn_len (tr : List Tr) : ∀ (k : Nat) (ls : List Ln), (trn tr k ls).length = ls.length
  | 0, _ => rfl
  | k + 1, ls => (trn_len tr k _).trans (List.length_map _)
/-- what the names tell of the machine's ends -/
structure Ends (its : Rw) (D : List (List Nat)) (nms : List (List Nat)) (ls : List Ln) : Prop where
  at_ : ∀ l ∈ ls, LI its D l ∧ l.v = []
  ws : ls.map Ln.w = nms
  t : ∀ l ∈ ls, l.t = l.w ++ [57344 + l.s]
  sp : nms ≠ [] → psplit [10] (jn ls) = ls.map Ln.t
theorem ends_of {its : Rw} {D : List (List Nat)} {tr : List Tr} (I : MInv its D.length D tr) {nms : List (List Nat)} (hw : ∀ w ∈ nms, okW w) {k : Nat} (hk : ∀ w ∈ nms, w.length ≤ 2 * k) : Ends its D nms (trn tr k (nms.map ln0)) := by
  have e0 : (nms.map ln0).map Ln.w = nms := by rw [List.map_map]; exact List.map_id' _
  obtain ⟨q1, q2⟩ := trn_end I k (ls := nms.map ln0) fun l hl => by
    obtain ⟨w, hw', rfl⟩ := List.mem_map.mp hl
    exact ⟨I.h0, hw w hw', hk w hw'⟩
  rw [e0] at q2
  have ht : ∀ l ∈ trn tr k (nms.map ln0), l.t = l.w ++ [57344 + l.s] := fun l hl => by
    unfold Ln.t Ln.w; rw [(q1 l hl).2, List.append_nil]
  refine ⟨q1, q2, ht, fun hn => split_join (fun e => hn ?_) fun x hx c hc => ?_⟩
  · rw [← q2, List.map_eq_nil_iff.mp e]; rfl
  · obtain ⟨l, hl, rfl⟩ := List.mem_map.mp hx
    rw [ht l hl] at hc
    rcases List.mem_append.mp hc with hc | hc
    · exact (okC_lt ((hw l.w (q2 ▸ List.mem_map_of_mem hl)).1 c hc)).2
    · rw [List.mem_singleton.mp hc]; and_intros
section
variable {ws : List Int} {pat : List Nat} {its : Rw} {fit : List Nat} {nms D : List (List Nat)} {tr : List Tr} {x7 x8 x9 x10 x13 x14 x15 x16 x17 : Option PV}
/-- the text that the turns start from -/
theorem tl_list (hn5 : nms.length ≤ 5) (hw : ∀ w ∈ nms, okW w) : ex FUEL (R 6) (.asg 13 (.me .join (.cs [10]) (.cons (.comp (.bin .add (.bi .chr (.cons (.ci 57344) .nil)) (.var 1)) 1 (.val (.var 6)) .nil [none, none, none]) .nil))) (tlS ws pat its fit nms D (mvOf tr) x7 x8 x9 x10 x13 x14 x15 x16 x17) = some (tlS ws pat its fit nms D (mvOf tr) x7 x8 x9 x10 (some (.str (jn (nms.map ln0)))) x14 x15 x16 x17, .next) := by
  have hL : LIM = 1048576 := rfl
  have hc : ev (R 6) (tlS ws pat its fit nms D (mvOf tr) x7 x8 x9 x10 x13 x14 x15 x16 x17).O (tlS ws pat its fit nms D (mvOf tr) x7 x8 x9 x10 x13 x14 x15 x16 x17).G (.comp (.bin .add (.bi .chr (.cons (.ci 57344) .nil)) (.var 1)) 1 (.val (.var 6)) .nil [none, none, none]) = some (.list (tl ((nms.map ln0).map Ln.t))) := by
    rw [List.map_map]
    refine comp_tl (c := PV.str) (it_o (k := 2) rfl rfl (by rw [List.length_map]; and_intros)) fun w hx => ?_
    exact add_s (x := [57344]) (y := w) rfl rfl (by have := (hw w hx).2; show 1 + w.length ≤ _; and_intros)
  refine asg_e (i := 13) (me_e (x := .str [10]) rfl (evs_c hc rfl) (pme_join rfl ?_))
  have h2 := sum_le (k := 9) (ls := (nms.map ln0).map Ln.t) fun x hx => by
    obtain ⟨l, hl, rfl⟩ := List.mem_map.mp hx
    obtain ⟨w, hw', rfl⟩ := List.mem_map.mp hl
    rw [ln_t_len]; exact Nat.succ_le_succ (hw w hw').2
  rw [List.length_map, List.length_map] at h2
  rw [List.length_map, List.length_map]
  show _ + _ * 1 ≤ _
  and_intros
/-- how often to turn -/
theorem tl_max {O : Owns} (hO : O[2]? = some (some (tl nms))) {G : Slots} (hG : G[6]? = some (some (.own 2))) (hn : nms ≠ []) (hn5 : nms.length ≤ 5) (hw : ∀ w ∈ nms, okW w) : ∃ k, evI (R 6) O G (.rng (.cons (.bin .fdiv (.bin .add (.bi .max (.cons (.comp (.bi .len (.cons (.var 1) .nil)) 1 (.val (.var 6)) .nil [none, none, none]) .nil)) (.ci 1)) (.ci 2)) .nil)) = some (il (List.range k)) ∧ ∀ w ∈ nms, w.length ≤ 2 * k := by
  have hL : LIM = 1048576 := rfl
  have hc : ev (R 6) O G (.comp (.bi .len (.cons (.var 1) .nil)) 1 (.val (.var 6)) .nil [none, none, none]) = some (.list (il (nms.map List.length))) := by
    refine bind_eq (it_o (k := 2) (ev_varE hG) hO (by rw [tl_len]; and_intros)) (map_eq ((mapO_PV (c := PV.str) (g := fun w => .int (w.length : Nat)) fun w hx => ?_).trans (congrArg some (by rw [il, List.map_map]; rfl))))
    exact bind_eq (a := true) rfl (map_eq (f := some) (len_s rfl (by have := (hw w hx).2; and_intros)))
  obtain ⟨m, h1, h2, h3⟩ := max_e (O := O) (l := nms.map List.length) (fun e => hn (List.map_eq_nil_iff.mp e))
  obtain ⟨w, hw', e⟩ := List.mem_map.mp h1
  have hm : m ≤ 8 := e ▸ (hw w hw').2
  refine ⟨(m + 1) / 2, rng1 (bin_e (bin_e (x := .int (m : Nat)) (bi_e (evs_c hc rfl) h2) rfl (r := .int ((m + 1 : Nat) : Int)) rfl) rfl (pdivN rfl (by decide) (by decide))) (by and_intros), fun w hx => ?_⟩
  have := h3 _ (List.mem_map_of_mem hx)
  and_intros
theorem tl_test {ls : List Ln} {r0 : Rw} {segs : List Rw} (hn5 : nms.length ≤ 5) (hw : ∀ w ∈ nms, okW w) (E : Ends its D nms ls) (ho : ∀ r ∈ r0 :: segs, ∀ it ∈ r, ∀ c ∈ it, c < 0x110000) :
    pt (R 6) (tlS ws pat its fit nms D (mvOf tr) x7 x8 x9 x10 x13 x14 (some (.list (tl (ls.map Ln.t)))) (some (.list (rowsV (r0 :: segs)))) x17).O (tlS ws pat its fit nms D (mvOf tr) x7 x8 x9 x10 x13 x14 (some (.list (tl (ls.map Ln.t)))) (some (.list (rowsV (r0 :: segs)))) x17).G
      (.or2 (.cmp .ne (.comp (.sl (.var 1) .cn (.ci (-1))) 1 (.val (.var 15)) .nil [none, none]) (.var 6)) (.cmp .eq (.var 16) (.lst .nil))) = some false := by
  have hL : LIM = 1048576 := rfl
  have hln : ls.length = nms.length := (List.length_map Ln.w).symm.trans (congrArg List.length E.ws)
  have hwl : ∀ l ∈ ls, okW l.w := fun l hl => hw _ (E.ws ▸ List.mem_map_of_mem hl)
  have oks : okDs 7 (tl nms) = true := ok_tl fun x hx c hc => Nat.lt_trans (okC_lt ((hw x hx).1 c hc)).1 (by decide)
  have hc : ev (R 6) (tlS ws pat its fit nms D (mvOf tr) x7 x8 x9 x10 x13 x14 (some (.list (tl (ls.map Ln.t)))) (some (.list (rowsV (r0 :: segs)))) x17).O (tlS ws pat its fit nms D (mvOf tr) x7 x8 x9 x10 x13 x14 (some (.list (tl (ls.map Ln.t)))) (some (.list (rowsV (r0 :: segs)))) x17).G (.comp (.sl (.var 1) .cn (.ci (-1))) 1 (.val (.var 15)) .nil [none, none]) = some (.list (tl nms)) := by
    rw [← E.ws]
    refine comp_tl (c := fun l : Ln => PV.str l.t) ((it_tl (l := ls.map Ln.t) rfl (by rw [List.length_map]; and_intros)).trans (congrArg some (by rw [List.map_map]; rfl))) fun l hl => ?_
    exact sl_s (x := .none) (y := .int (-1)) rfl rfl rfl rfl rfl (by have := (hwl l hl).2; rw [ln_t_len]; and_intros) (by rw [E.t l hl]; exact pslice_front _ [57344 + l.s] rfl Nat.zero_lt_one)
  have h16 : ∀ {O : Owns}, peq O (.list (rowsV (r0 :: segs))) (.list []) = some false := peqL (a := rowsV (r0 :: segs)) (b := []) ⟨rfl, rfl⟩ rfl rfl (ok_rowsV ho) rfl
  refine or2_f (cmp_t (x := .list (tl nms)) (y := .own 2) hc rfl ((congrArg (Option.map (!·)) (peqL (a := tl nms) (b := tl nms) ⟨rfl, rfl⟩ rfl rfl oks oks)).trans ?_)) (cmp_t (x := .list (rowsV (r0 :: segs))) (y := .list []) rfl rfl h16)
  rw [pveq_tl]; rfl
end
theorem tail_run {ws : List Int} {ps : List Nat} {fit : List Nat} {nms : List (List Nat)} {x7 x8 x10 : Option PV} (hp : ∀ p ∈ ps, p < 16) (hl : ps.length ≤ 4) (hn : nms ≠ []) (hn5 : nms.length ≤ 5) (hw : ∀ w ∈ nms, okW w) :
    ∃ σ, exs FUEL (R 6) lwTail (lwS ws (patOf (tsOf ps)) (itOf ps) fit nms x7 x8 x10) = some (σ, .ret (.bool true)) := by
  have hL : LIM = 1048576 := rfl
  obtain ⟨g1, g2, g3⟩ := pcs_g hp
  obtain ⟨D, tr, em, I⟩ := mach_run 4 (its := itOf ps) (by and_intros)
  obtain ⟨W, r0, segs, t1, t2, t3, t4, t5, t6⟩ := rows_law (ts := tsOf ps) g1 (by and_intros)
  have hD := I.sets.len (by and_intros : (itOf ps).length ≤ 8)
  have htr := I.len
  obtain ⟨k, ek, hk⟩ := tl_max (nms := nms) (O := (tlS ws (patOf (tsOf ps)) (itOf ps) fit nms D (mvOf tr) x7 x8 none x10 (some (.str (jn (nms.map ln0)))) none none none none).O) rfl (G := (tlS ws (patOf (tsOf ps)) (itOf ps) fit nms D (mvOf tr) x7 x8 none x10 (some (.str (jn (nms.map ln0)))) none none none none).G) rfl hn hn5 hw
  have E := ends_of I hw hk
  have hln : (trn tr k (nms.map ln0)).length = nms.length := (trn_len _ _ _).trans (List.length_map _)
  have hwl : ∀ l ∈ trn tr k (nms.map ln0), okW l.w := fun l hl => hw _ (E.ws ▸ List.mem_map_of_mem hl)
  obtain ⟨y14, e14⟩ := tl_turns (ws := ws) (pat := patOf (tsOf ps)) (its := itOf ps) (fit := fit) (nms := nms) (D := D) (x7 := x7) (x8 := x8) (x9 := none) (x10 := x10) (x15 := none) (x16 := none) (x17 := none) (by and_intros : tr.length ≤ 2000) (fun z hz e => by have := I.sg z hz; rw [e] at this; exact absurd this (by decide)) (List.range k) (ls := nms.map ln0) (x14 := none) (by rw [List.length_map]; exact hn5) fun l hl => by
    obtain ⟨w, hw', rfl⟩ := List.mem_map.mp hl
    exact hw w hw'
  rw [List.length_range] at e14
  obtain ⟨y9, y17, e9⟩ := tl_ends (ws := ws) (pat := patOf (tsOf ps)) (fit := fit) (tr := tr) (x7 := x7) (x8 := x8) (x10 := x10) (x13 := some (.str (jn (trn tr k (nms.map ln0))))) (x14 := y14) (r0 := r0) (segs := segs) (by and_intros : (itOf ps).length ≤ 100) (by and_intros : D.length ≤ 1000) (by and_intros) E.ws E.at_ (fun l hl => (takes_run 4 t3 t4 (by have := (hwl l hl).2; and_intros)).trans (congrArg (fun b => some (PV.bool b)) (Bool.eq_iff_iff.mpr (((t6 _).symm.trans ((pcs_mt hp) _).symm).trans ((dl_mt (hwl l hl).1).symm.trans List.contains_iff_mem.symm))))) (List.range nms.length) (x9 := none) (x17 := none) fun j hj => by rw [hln]; exact List.mem_range.mp hj
  have hj := jn_len (ls := trn tr k (nms.map ln0)) (by and_intros) hwl
  refine ⟨tlS ws (patOf (tsOf ps)) (itOf ps) fit nms D (mvOf tr) x7 x8 y9 x10 (some (.str (jn (trn tr k (nms.map ln0))))) y14 (some (.list (tl ((trn tr k (nms.map ln0)).map Ln.t)))) (some (.list (rowsV (r0 :: segs)))) y17, exs_next (σ' := tlS ws (patOf (tsOf ps)) (itOf ps) fit nms D (mvOf tr) x7 x8 none x10 none none none none none) ?_ (exs_next (tl_list hn5 hw) (exs_next (fr_e ek e14) (exs_next (asg_e (i := 15) (me_split (a := [10]) rfl rfl rfl (by and_intros))) (exs_next (asg_e (i := 16) (call_e (vs := [.str W]) (evs_c (call_e (vs := [.str (patOf (tsOf ps))]) rfl rfl t1) rfl) rfl t2)) ?_))))⟩
  · exact bind_eq (a := (1, tl (itOf ps))) rfl (bind_eq (call_e (vs := [.list (tl (itOf ps))]) rfl (Bool.and_eq_true_iff.mpr ⟨noOwn_tl _, rfl⟩) em) (bind_eq rfl rfl))
  · rw [E.sp hn]
    refine exs_next (ite_f (tl_test hn5 hw E t5) rfl) (exs_next (fr_e (rng1 (len_o (k := 2) (l := tl nms) rfl rfl (by rw [tl_len]; and_intros)) (by rw [tl_len]; and_intros)) ?_) (exs_stop (ret_e rfl) nofun))
    rw [tl_len]; exact e9
end Mine

namespace Mine

theorem nums_nat (xs : List Int) : ∃ ns : List Nat, ns.length = xs.length ∧ (xs.map fun x => PV.int (x.fmod 1000000)) = il ns := by
  refine ⟨xs.map fun x => (x.fmod 1000000).toNat, List.length_map _, ?_⟩
  unfold il
  rw [List.map_map]
  exact List.map_congr_left fun x _ => congrArg PV.int (Int.toNat_of_nonneg (Int.fmod_nonneg_of_pos x (by decide))).symm
theorem nums_ev {F : PF1} {G : Slots} {O : Owns} {ws : List Int} (hG : G[0]? = some (some (.list (ws.map .int)))) (hw : ws.length ≤ 63) :
    ∃ ns : List Nat, ns.length = 4 ∧ evIF F O G (.val (.comp (.bin .mod (.var 1) (.bin .pow (.ci 10) (.ci 6))) 1 (.val (.sl (.bin .add (.sl (.var 0) .cn (.ci 4)) (.lst (.cons (.ci 17) (.cons (.ci 1355) (.cons (.ci 437) (.cons (.ci 918) .nil)))))) .cn (.ci 4))) .nil [none, none])) = some (il ns) := by
  have hL : LIM = 1048576 := rfl
  have lt : (ws.take 4).length ≤ 4 := by rw [List.length_take]; and_intros
  have l4 : ((ws.take 4 ++ [17, 1355, 437, 918]).take 4).length = 4 := by rw [List.length_take, List.length_append]; exact Nat.min_eq_left (Nat.le_add_left 4 _)
  obtain ⟨ns, h1, h2⟩ := nums_nat ((ws.take 4 ++ [17, 1355, 437, 918]).take 4)
  refine ⟨ns, h1.trans l4, itF_l (l := il ns) ?_ (by rw [il_len, h1, l4]; and_intros)⟩
  have e1 : ev F O G (.bin .add (.sl (.var 0) .cn (.ci 4)) (.lst (.cons (.ci 17) (.cons (.ci 1355) (.cons (.ci 437) (.cons (.ci 918) .nil)))))) = some (.list ((ws.take 4 ++ [17, 1355, 437, 918]).map .int)) :=
    bin_e (sl_l (r := (ws.take 4).map .int) (ev_varE hG) rfl (y := .int 4) rfl rfl rfl (by rw [List.length_map]; and_intros) ((pslice_to _ 4 rfl).trans List.map_take.symm)) rfl ((paddL (a := (ws.take 4).map .int) (b := [17, 1355, 437, 918].map .int) (by rw [List.length_map]; show _ + 4 ≤ _; and_intros)).trans (congrArg (fun l => some (PV.list l)) List.map_append.symm))
  have e2 : ev F O G (.sl (.bin .add (.sl (.var 0) .cn (.ci 4)) (.lst (.cons (.ci 17) (.cons (.ci 1355) (.cons (.ci 437) (.cons (.ci 918) .nil)))))) .cn (.ci 4)) = some (.list (((ws.take 4 ++ [17, 1355, 437, 918]).take 4).map .int)) :=
    sl_l e1 rfl (y := .int 4) rfl rfl rfl (by rw [List.length_map, List.length_append]; show _ + 4 ≤ _; and_intros) ((pslice_to _ 4 rfl).trans List.map_take.symm)
  rw [← h2]
  exact bind_eq (it_l e2 (by rw [List.length_map, l4]; and_intros)) (map_eq (mapO_PV (c := PV.int) (g := fun x => .int (x.fmod 1000000)) fun x _ => rfl))
theorem pure1 (ws : List Int) (h : ws.length ≤ 63) : pfun FUEL (runF T1 6) 27 p_law [.list (ws.map .int)] = some (.bool true) := by
  have hL : LIM = 1048576 := rfl
  obtain ⟨ns, hn, en⟩ := nums_ev (F := R 6) (G := (lwS ws [] [] [] [] none none none).G) (O := (lwS ws [] [] [] [] none none none).O) (ws := ws) rfl h
  obtain ⟨fit, y7, y8, y10, e, hf, ho⟩ := lw_loop (F := R 6) (ws := ws) ns (pat := []) (its := []) (fit := []) (nms := []) (x7 := none) (x8 := none) (x10 := none) (by rw [hn]; decide) (by rw [hn]; decide) (by rw [hn]; decide) (by rw [hn]; decide) nofun
  rw [hn] at hf
  have hlen : ((ns.map fun n => nmOf (n / 16)) ++ [fit]).length = 5 := by rw [List.length_append, List.length_map, hn]; rfl
  obtain ⟨σ, et⟩ := tail_run (ws := ws) (ps := ns.map (· % 16)) (fit := fit) (nms := (ns.map fun n => nmOf (n / 16)) ++ [fit]) (x7 := y7) (x8 := y8) (x10 := y10) (fun p hp => by
    obtain ⟨n, _, rfl⟩ := List.mem_map.mp hp
    exact Nat.mod_lt _ (by decide)) (by rw [List.length_map, hn]; decide) (fun e => by rw [e] at hlen; cases hlen) (by rw [hlen]; decide) fun w hw => by
      rcases List.mem_append.mp hw with hw | hw
      · obtain ⟨n, _, rfl⟩ := List.mem_map.mp hw
        exact ⟨(nm_ok _).1, Nat.le_trans (nm_ok _).2 (by decide)⟩
      · rw [List.mem_singleton.mp hw]
        exact ⟨ho, hf⟩
  refine pfun_ret (σ := σ) ?_ rfl
  refine exs_next (asg_e (i := 1) (v := .list (tl pcTab)) rfl) (exs_next (σ' := ⟨[some (.list (ws.map .int)), some (.list (tl pcTab)), some (.own 0), none, none, none, none, none, none, none, none, none, none, none, none, none, none, none, none, none, none, none, none, none, none, none, none], [some (rowsV (mTab.take 8))]⟩) rfl (exs_next (σ' := ⟨[some (.list (ws.map .int)), some (.list (tl pcTab)), some (.own 0), none, none, none, none, none, none, none, none, none, none, none, none, none, none, none, none, none, none, none, none, none, none, none, none], [some (rowsV mTab)]⟩) rfl (exs_next (σ' := lwS ws [] [] [] [] none none none) rfl (exs_next (fr_e en e) (exs_next (σ' := lwS ws (patOf (tsOf (ns.map (· % 16)))) (itOf (ns.map (· % 16))) fit ((ns.map fun n => nmOf (n / 16)) ++ [fit]) y7 y8 y10) ?_ et)))))
  refine (app_e (k := 2) (v := .str fit) (vs := tl (ns.map fun n => nmOf (n / 16))) rfl rfl rfl (by rw [tl_len, List.length_map]; and_intros)).trans ?_
  rw [show tl (ns.map fun n => nmOf (n / 16)) ++ [PV.str fit] = tl ((ns.map fun n => nmOf (n / 16)) ++ [fit]) from (List.map_append (l₁ := ns.map fun n => nmOf (n / 16)) (l₂ := [fit]) (f := PV.str)).symm]
  rfl
end Mine

open PySem PySem.W PySem.W.X PySem.W.ZRun PyProof.Rows
namespace Mine
noncomputable def q1 : Program := view PySem.Challenge.pw_ij0085_01 [0, 2, 4, 5, 7, 8, 10, 11, 13, 14, 15, 16, 17, 18, 19]
theorem ws1 : PySem.Challenge.rw_ij0085_01.wellSaid = true := by kernel_rfl
noncomputable def loose2 : List Str := ["_twin_re_1", "_special_chars_map"]
noncomputable abbrev HeadP (w : World) : Prop := (openEnds treeTable PySem.Challenge.pw_ij0085_01 w 3640).map (fun s => (openSeen q1 loose2 (importedModules PySem.Challenge.pw_ij0085_01.main.body) (fun s => xlAt q1 [] s && recOk [] s) true s, topChk s.heap)) = some (openGood q1 loose2, true)
theorem head_ff (w : World) : HeadP ((w.withFollow "special-get-raises" false).withFollow "comprehension-iter-twice" false) := by kernel_rfl
theorem head_tf (w : World) : HeadP ((w.withFollow "special-get-raises" true).withFollow "comprehension-iter-twice" false) := by kernel_rfl
theorem head_ft (w : World) : HeadP ((w.withFollow "special-get-raises" false).withFollow "comprehension-iter-twice" true) := by kernel_rfl
theorem head_tt (w : World) : HeadP ((w.withFollow "special-get-raises" true).withFollow "comprehension-iter-twice" true) := by kernel_rfl
theorem head1 (w : World) : HeadP w :=
  byRow2 "comprehension-iter-twice" (P := HeadP) (fun w => byRow2 "special-get-raises" (P := fun w => HeadP (w.withFollow "comprehension-iter-twice" false)) head_ff head_tf w)
    (fun w => byRow2 "special-get-raises" (P := fun w => HeadP (w.withFollow "comprehension-iter-twice" true)) head_ft head_tt w) w
theorem len1 : (recsOf q1).length = 12 := by rfl
theorem has_tr : ∃ d ∈ recsOf q1, d.name = "_translate" := ⟨(recsOf q1)[3]'(by rw [len1]; decide), List.getElem_mem _, by rfl⟩
theorem bi_free : ∀ p ∈ biTab, p.1 ∉ startupNames ∧ p.1 ∉ looseW q1 loose2 ∧ p.1 ∉ (recsOf q1).map (·.name) ∧ p.1 ∉ (litsOf q1).map (·.1) ∧ p.1 ∉ (clssOf q1 (looseW q1 loose2)).map (·.name) := by decide +kernel
theorem bi_boot : ∀ p ∈ biTab, p.1 ≠ "__name__" ∧ bootBuiltins p.1 = some p.2 := by
  intro p hp
  simp only [biTab, List.mem_cons, List.not_mem_nil, or_false] at hp
  rcases hp with rfl | rfl | rfl | rfl | rfl | rfl | rfl | rfl <;> exact ⟨by decide +kernel, by rfl⟩
section
variable {R : WRecords} {XP : (Str → Option Value) → Heap → Prop} {w : World} {s₀ : Shared} {mg mb : Str → Option Value} {h : Heap}
theorem def_at {x : Str} (i : Nat) (hi : i < (recsOf q1).length) (G : Ground q1 loose2 R XP w s₀ mg mb h) (keep : ∀ b o, s₀.heap.get? b = some o → h.get? b = some o) (hc : topChk s₀.heap = true) (hn : (recsOf q1)[i].name = x)
    (hf : findDef PySem.Challenge.pw_ij0085_01 x = some ((recsOf q1)[i].params, (recsOf q1)[i].body, (recsOf q1)[i].scope)) (h16 : ((slotOf (recsOf q1)[i].scope "stuff").isSome && x != "_translate") = false) : DefAt PySem.Challenge.pw_ij0085_01 mg h x :=
  defAt2 G keep hc (List.getElem_mem hi) hn hf fun q => by
    rw [q, Bool.true_and] at h16
    simpa using h16
theorem defs1 (G : Ground q1 loose2 R XP w s₀ mg mb h) (keep : ∀ b o, s₀.heap.get? b = some o → h.get? b = some o) (hc : topChk s₀.heap = true) : ∀ x ∈ T1.map (·.1), DefAt PySem.Challenge.pw_ij0085_01 mg h (Str.ofString x) := by
  have l := len1
  simp only [T1, List.map_cons, List.map_nil, List.forall_mem_cons, List.not_mem_nil, false_imp_iff, implies_true, and_true]
  refine ⟨?_, ?_, ?_, ?_, ?_, ?_, ?_, ?_, ?_, ?_, ?_, ?_⟩
  · exact def_at 0 (by rw [l]; decide) G keep hc (by rfl) (by rfl) (by rfl)
  · exact def_at 2 (by rw [l]; decide) G keep hc (by rfl) (by rfl) (by rfl)
  · exact def_at 1 (by rw [l]; decide) G keep hc (by rfl) (by rfl) (by rfl)
  · exact def_at 3 (by rw [l]; decide) G keep hc (by rfl) (by rfl) (by rfl)
  · exact def_at 4 (by rw [l]; decide) G keep hc (by rfl) (by rfl) (by rfl)
  · exact def_at 5 (by rw [l]; decide) G keep hc (by rfl) (by rfl) (by rfl)
  · exact def_at 6 (by rw [l]; decide) G keep hc (by rfl) (by rfl) (by rfl)
  · exact def_at 7 (by rw [l]; decide) G keep hc (by rfl) (by rfl) (by rfl)
  · exact def_at 8 (by rw [l]; decide) G keep hc (by rfl) (by rfl) (by rfl)
  · exact def_at 9 (by rw [l]; decide) G keep hc (by rfl) (by rfl) (by rfl)
  · exact def_at 10 (by rw [l]; decide) G keep hc (by rfl) (by rfl) (by rfl)
  · exact def_at 11 (by rw [l]; decide) G keep hc (by rfl) (by rfl) (by rfl)
end
end Mine
set_option maxHeartbeats 0 in
theorem PySem.Challenge.cw_ij0085_01_holds : PySem.Challenge.rw_ij0085_01.Holds := by
  w_on
  refine holds_law Mine.ws1 fun said => ?_
  refine holds_openX (q := Mine.q1) (loose := Mine.loose2) (Xt := fun s => xlAt Mine.q1 [] s && recOk [] s) (XP := XL Mine.q1 []) (Yf := fun s => Mine.topChk s.heap) (Ya := fun _ => true) (N := 3640) ?hl (fun s e => xl_of s (Bool.and_eq_true_iff.mp e).1) XL.keeps (by rfl) (by rfl) (by rfl) (fun s e => recFacts_of (Bool.and_eq_true_iff.mp e).2) (by rfl) (by first | assumption | decide +kernel) (by decide +kernel) ⟨rfl, rfl, rfl, rfl, rfl, by decide +kernel⟩ ?hw ?hc
  case hw => w_witness2
  case hl => exact Mine.head1
  case hc =>
    intro w s₀ s₁ mg mb G y fa o pm cd doc dV kV ho hd hcd hD hmg hg args vals as L hpre hlay hrd hwl hlo
    have keep := L.keeps
    wrow_args hpre hlay hrd hwl hlo
    clear ho hd hcd hD
    have hmg : mg "law" = some (.ref fa) := hmg
    have BS : Mine.Base mg mb s₁.heap ∧ Mine.SpecOk PySem.Challenge.rw_ij0085_01.row.prog w s₁.heap := Mine.base2 G keep y Mine.has_tr Mine.bi_free Mine.bi_boot
    obtain ⟨base, hspec⟩ := BS
    have hT : ∀ f e, Mine.T1.lookup f = some e → Mine.defIs PySem.Challenge.pw_ij0085_01 (Str.ofString f) = some e ∧ Mine.DefAt PySem.Challenge.pw_ij0085_01 mg s₁.heap (Str.ofString f) :=
      fun f e h => ⟨Mine.def1 f e h, Mine.defs1 G keep y f (List.mem_map_of_mem (Mine.lookup_memS h))⟩
    refine' wpAny_mono (Mine.law_call (n := 6) (w := w) base hspec hT rfl rfl (by decide) (Mine.pure1 _ ?hlen) ?hwel hmg) ?hgood ?hexc
    case hwel => assumption
    case hlen => omega
    case hexc => exact fun _ _ hq => hq.elim
    case hgood =>
      intro v s' hq
      refine Mine.goodWG_of base hg hq.1 hq.2 ?hra ?hpo
      case hra => intro _; rfl
      case hpo => wrow_post

