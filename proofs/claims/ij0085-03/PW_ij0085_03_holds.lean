import PyProof.Rows.All
import Wide.All
import OpenK.AllK
import Wide.FinOn
import Lean
import PySem.Challenge.RW_ij0085_03
open PySem PySem.W PyProof.Rows
set_option Elab.async false
set_option maxRecDepth 100000
set_option linter.unusedVariables false
set_option linter.unusedSimpArgs false
namespace Mine

inductive PV where
  | none | bool (b : Bool) | int (i : Int) | str (l : List Nat)
  | tup (vs : List PV) | list (vs : List PV)
  | star | own (k : Nat) | app (k : Nat)
  deriving Inhabited

/-- a bound list.append -/
def appObj (a : Addr) : Obj := { cls := .type "builtin_function_or_method", data := .fields #[.builtin "list.append", .ref a] }

structure RC where
  X : Addr → Prop
  st : Addr
  ads : List Addr

mutual
def Rep (C : RC) (h : Heap) : PV → Value → Prop
  | .none, v => v = .none
  | .bool b, v => v = .bool b
  | .int i, v => ∃ t, v = .int i t
  | .str l, v => ∃ s t, v = .str s t ∧ s.cps.toList = l
  | .tup vs, v => ∃ a xs, v = .ref a ∧ ¬ C.X a ∧ h.IsTuple a xs ∧ RepL C h vs xs.toList
  | .list vs, v => ∃ a xs, v = .ref a ∧ ¬ C.X a ∧ h.PlainList a xs ∧ RepL C h vs xs.toList
  | .star, v => v = .ref C.st
  | .own k, v => ∃ a, C.ads[k]? = some a ∧ v = .ref a
  | .app k, v => ∃ a q, C.ads[k]? = some a ∧ v = .ref q ∧ ¬ C.X q ∧ h.get? q = some (appObj a)
def RepL (C : RC) (h : Heap) : List PV → List Value → Prop
  | [], l => l = []
  | p :: ps, l => ∃ v r, l = v :: r ∧ Rep C h p v ∧ RepL C h ps r
end

/-- the code table of `_translate`'s code object: the one object of the top that grows -/
def PT : Addr := 64
def CT : Addr := 68
def reA : Addr := 43
def reC : Addr := 42
def spA : Addr := 52
def NoTab (o : Obj) : Prop := ∀ ps : Array Value, o ≠ { cls := .none, data := .fields ps }
theorem noTab_cls {o : Obj} (h : o.cls ≠ .none) : NoTab o := fun _ e => h (by rw [e])
theorem noTab_data {o : Obj} (h : ∀ ps, o.data ≠ .fields ps) : NoTab o := fun ps e => h ps (by rw [e])

/-- an object that is part of a value -/
def IsVal (o : Obj) : Prop := (∃ items m, o.data = .seq items m) ∨ ∃ a, o = appObj a
theorem IsVal.noTab {o : Obj} (h : IsVal o) : NoTab o := by
  rcases h with ⟨x, m, h⟩ | ⟨a, rfl⟩
  · exact noTab_data (by rw [h]; nofun)
  · exact noTab_cls nofun
/-- what is kept: every object that is no mutable one -/
def KeepsX (X : Addr → Prop) (h h' : Heap) : Prop := ∀ b o, IsVal o → ¬ X b → h.get? b = some o → h'.get? b = some o
/-- the first address above all live ones -/
def hszGo (h : Heap) : Nat → Nat
  | 0 => 0
  | n + 1 => if (h.get? n).isSome then n + 1 else hszGo h n
def hsz (h : Heap) : Nat := hszGo h h.objs.size
theorem hszGo_lt {h : Heap} {b : Addr} {o : Obj} (e : h.get? b = some o) : ∀ n : Nat, b < n → b < hszGo h n
  | n + 1, hb => by
    unfold hszGo
    split
    · exact hb
    · rename_i hn
      refine hszGo_lt e n ?_
      have : b ≠ n := fun q => by subst q; rw [e] at hn; exact hn rfl
      exact Nat.lt_of_le_of_ne (Nat.le_of_lt_succ hb) this
theorem hsz_lt {h : Heap} {b : Addr} {o : Obj} (e : h.get? b = some o) : b < hsz h := hszGo_lt e _ (Heap.lt_size e)
theorem hszGo_le {h : Heap} {k : Nat} (hk : ∀ b o, h.get? b = some o → (b : Nat) < k) : ∀ n : Nat, hszGo h n ≤ k
  | 0 => Nat.zero_le _
  | n + 1 => by
    unfold hszGo
    split
    · rename_i hn
      obtain ⟨o, e⟩ := Option.isSome_iff_exists.mp hn
      exact hk n o e
    · exact hszGo_le hk n
theorem hsz_le {h : Heap} {k : Nat} (hk : ∀ b o, h.get? b = some o → (b : Nat) < k) : hsz h ≤ k := hszGo_le hk _
theorem hsz_size (h : Heap) : hsz h ≤ h.objs.size := hsz_le fun _ _ e => Heap.lt_size e

/-- nothing but a code table changes -/
structure KN (h h' : Heap) : Prop where
  nt : ∀ b o, NoTab o → h.get? b = some o → h'.get? b = some o
  pt : ∀ b o, b ≠ PT → h.get? b = some o → h'.get? b = some o
  tab : ∀ ps, h.get? PT = some { cls := .none, data := .fields ps } → ∃ more, h'.get? PT = some { cls := .none, data := .fields (ps ++ more) } ∧ (TriplesOk ps.toList → TriplesOk (ps ++ more).toList)
theorem KN.of {h h' : Heap} (hk : ∀ b o, h.get? b = some o → h'.get? b = some o) : KN h h' :=
  ⟨fun b o _ e => hk b o e, fun b o _ e => hk b o e, fun ps e => ⟨#[], by simpa using hk _ _ e, by simp⟩⟩
theorem KN.refl (h : Heap) : KN h h := .of fun _ _ e => e
theorem KN.trans {a b c : Heap} (x : KN a b) (y : KN b c) : KN a c :=
  ⟨fun b o n e => y.nt b o n (x.nt b o n e), fun b o n e => y.pt b o n (x.pt b o n e), fun ps e => by
    obtain ⟨m, e1, t1⟩ := x.tab ps e
    obtain ⟨m', e2, t2⟩ := y.tab _ e1
    exact ⟨m ++ m', by rw [← Array.append_assoc]; exact e2, fun h => by rw [← Array.append_assoc]; exact t2 (t1 h)⟩⟩
theorem KN.live {h h' : Heap} (k : KN h h') {b : Addr} {o : Obj} (e : h.get? b = some o) : ∃ o', h'.get? b = some o' := by
  by_cases hb : b = PT
  · subst hb
    by_cases hn : NoTab o
    · exact ⟨o, k.nt _ _ hn e⟩
    · obtain ⟨ps, hps⟩ : ∃ ps : Array Value, o = { cls := .none, data := .fields ps } := Classical.byContradiction fun q => hn fun ps hp => q ⟨ps, hp⟩
      subst hps
      obtain ⟨m, e', _⟩ := k.tab ps e
      exact ⟨_, e'⟩
  · exact ⟨o, k.pt b o hb e⟩
theorem KN.szle {h h' : Heap} (k : KN h h') : hsz h ≤ hsz h' := hsz_le fun _ _ e => let ⟨_, e'⟩ := k.live e; hsz_lt e'
theorem KN.push (h : Heap) (o : Obj) : KN h (h.push o) := .of fun _ _ e => Heap.get?_push_of_some _ e
theorem KN.ns {h h' : Heap} {a : Addr} {m : Str → Option Value} (k : KN h h') (n : h.Ns a m) : h'.Ns a m :=
  let ⟨o, es, ep, e, hd, r⟩ := n; ⟨o, es, ep, k.nt _ _ (noTab_data (by rw [hd]; nofun)) e, hd, r⟩
theorem KN.cell {h h' : Heap} {c : Addr} {v : Option Value} (k : KN h h') (n : h.IsCell c v) : h'.IsCell c v :=
  let ⟨o, e, hd⟩ := n; ⟨o, k.nt _ _ (noTab_data (by rw [hd]; nofun)) e, hd⟩
theorem KN.isList {h h' : Heap} {a : Addr} {xs : Array Value} (k : KN h h') (n : h.IsList a xs) : h'.IsList a xs :=
  let ⟨o, e, hc, r⟩ := n; ⟨o, k.nt _ _ (noTab_cls (by rw [hc]; nofun)) e, hc, r⟩
theorem KN.plain {h h' : Heap} {a : Addr} {xs : Array Value} (k : KN h h') (n : h.PlainList a xs) : h'.PlainList a xs :=
  let ⟨m, e⟩ := n; ⟨m, k.nt _ _ (noTab_cls nofun) e⟩
theorem KN.func {h h' : Heap} {a : Addr} {o : Obj} {fd : FuncData} (k : KN h h') (e : h.get? a = some o) (hd : o.data = .func fd) : h'.get? a = some o :=
  k.nt _ _ (noTab_data (by rw [hd]; nofun)) e
theorem KN.noLimit {h h' : Heap} (k : KN h h') (n : h.NoLimit) : h'.NoLimit := let ⟨mc, e, r⟩ := n; ⟨mc, k.ns e, r⟩

structure Sub (C C' : RC) (h h' : Heap) : Prop where
  X : ∀ b o, IsVal o → h.get? b = some o → ¬ C.X b → ¬ C'.X b
  st : C'.st = C.st
  ads : ∀ (k : Nat) (a : Addr), C.ads[k]? = some a → C'.ads[k]? = some a
  keep : KeepsX C.X h h'

mutual
theorem Rep.mono {C C' : RC} {h h' : Heap} (S : Sub C C' h h') : ∀ (p : PV) (v : Value), Rep C h p v → Rep C' h' p v
  | .none, v, r => by simpa [Rep] using r
  | .bool b, v, r => by simpa [Rep] using r
  | .int i, v, r => by simpa [Rep] using r
  | .str l, v, r => by simpa [Rep] using r
  | .tup vs, v, r => by
    simp only [Rep] at r ⊢
    obtain ⟨a, xs, rfl, hna, ⟨o, ho, hr⟩, hl⟩ := r
    exact ⟨a, xs, rfl, S.X _ _ (.inl ⟨_, _, hr.2.choose_spec⟩) ho hna, ⟨o, S.keep _ _ (.inl ⟨_, _, hr.2.choose_spec⟩) hna ho, hr⟩, RepL.mono S vs _ hl⟩
  | .list vs, v, r => by
    simp only [Rep] at r ⊢
    obtain ⟨a, xs, rfl, hna, ⟨n, ho⟩, hl⟩ := r
    exact ⟨a, xs, rfl, S.X _ _ (.inl ⟨_, _, rfl⟩) ho hna, ⟨n, S.keep _ _ (.inl ⟨_, _, rfl⟩) hna ho⟩, RepL.mono S vs _ hl⟩
  | .star, v, r => by simpa [Rep, S.st] using r
  | .own k, v, r => by
    simp only [Rep] at r ⊢
    obtain ⟨a, h1, h2⟩ := r
    exact ⟨a, S.ads _ _ h1, h2⟩
  | .app k, v, r => by
    simp only [Rep] at r ⊢
    obtain ⟨a, q, h1, h2, h3, h4⟩ := r
    exact ⟨a, q, S.ads _ _ h1, h2, S.X _ _ (.inr ⟨_, rfl⟩) h4 h3, S.keep _ _ (.inr ⟨_, rfl⟩) h3 h4⟩
theorem RepL.mono {C C' : RC} {h h' : Heap} (S : Sub C C' h h') : ∀ (p : List PV) (v : List Value), RepL C h p v → RepL C' h' p v
  | [], v, r => by simpa [RepL] using r
  | p :: ps, v, r => by
    simp only [RepL] at r ⊢
    obtain ⟨w, r', rfl, h1, h2⟩ := r
    exact ⟨w, r', rfl, Rep.mono S p w h1, RepL.mono S ps r' h2⟩
end

theorem Sub.of_keep {C : RC} {h h' : Heap} (hk : KN h h') : Sub C C h h' :=
  ⟨fun _ _ _ _ x => x, rfl, fun _ _ x => x, fun b o n _ e => hk.nt b o n.noTab e⟩
theorem Rep.keep {C : RC} {h h' : Heap} {p : PV} {v : Value} (r : Rep C h p v) (hk : KN h h') : Rep C h' p v := Rep.mono (Sub.of_keep hk) p v r
theorem RepL.keep {C : RC} {h h' : Heap} {p : List PV} {v : List Value} (r : RepL C h p v) (hk : KN h h') : RepL C h' p v := RepL.mono (Sub.of_keep hk) p v r

theorem RepL.length {C : RC} {h : Heap} : ∀ {p : List PV} {v : List Value}, RepL C h p v → v.length = p.length
  | [], v, r => by simp only [RepL] at r; subst r; rfl
  | p :: ps, v, r => by
    simp only [RepL] at r
    obtain ⟨w, r', rfl, _, h2⟩ := r
    simp [RepL.length h2]
theorem RepL.at {C : RC} {h : Heap} : ∀ {p : List PV} {v : List Value} (i : Nat) (x : PV), RepL C h p v → p[i]? = some x → ∃ y, v[i]? = some y ∧ Rep C h x y
  | [], _, _, _, _, e => by simp at e
  | p :: ps, v, i, x, r, e => by
    simp only [RepL] at r
    obtain ⟨w, r', rfl, h1, h2⟩ := r
    cases i with
    | zero => simp at e; subst e; exact ⟨w, rfl, h1⟩
    | succ i => simpa using RepL.at i x h2 (by simpa using e)
theorem RepL.append {C : RC} {h : Heap} : ∀ {p q : List PV} {v u : List Value}, RepL C h p v → RepL C h q u → RepL C h (p ++ q) (v ++ u)
  | [], q, v, u, r, r2 => by simp only [RepL] at r; subst r; exact r2
  | p :: ps, q, v, u, r, r2 => by
    simp only [RepL] at r
    obtain ⟨w, r', rfl, h1, h2⟩ := r
    simp only [List.cons_append, RepL]
    exact ⟨w, _, rfl, h1, RepL.append h2 r2⟩
theorem RepL.one {C : RC} {h : Heap} {p : PV} {v : Value} (r : Rep C h p v) : RepL C h [p] [v] := by
  simp only [RepL]; exact ⟨v, [], rfl, r, rfl⟩
theorem RepL.of_at {C : RC} {h : Heap} : ∀ {p : List PV} {v : List Value}, v.length = p.length → (∀ (i : Nat) x y, p[i]? = some x → v[i]? = some y → Rep C h x y) → RepL C h p v
  | [], [], _, _ => by simp [RepL]
  | [], _ :: _, e, _ => by simp at e
  | _ :: _, [], e, _ => by simp at e
  | p :: ps, v :: vs, e, f => by
    simp only [RepL]
    exact ⟨v, vs, rfl, f 0 p v rfl rfl, RepL.of_at (by simpa using e) fun i x y h1 h2 => f (i + 1) x y (by simpa using h1) (by simpa using h2)⟩
theorem RepL.take {C : RC} {h : Heap} {p : List PV} {v : List Value} (n : Nat) (r : RepL C h p v) : RepL C h (p.take n) (v.take n) := by
  have hl := r.length
  refine RepL.of_at (by simp [hl]) fun i x y h1 h2 => ?_
  rw [List.getElem?_take] at h1 h2
  split at h1
  · rename_i hi
    simp only [hi, if_true] at h2
    obtain ⟨y', e, h⟩ := r.at i x h1
    rw [e] at h2; cases h2; exact h
  · simp at h1
theorem RepL.drop {C : RC} {h : Heap} {p : List PV} {v : List Value} (n : Nat) (r : RepL C h p v) : RepL C h (p.drop n) (v.drop n) := by
  have hl := r.length
  refine RepL.of_at (by simp [hl]) fun i x y h1 h2 => ?_
  rw [List.getElem?_drop] at h1 h2
  obtain ⟨y', e, h⟩ := r.at (n + i) x h1
  rw [e] at h2; cases h2; exact h
theorem RepL.set {C : RC} {h : Heap} {p : List PV} {v : List Value} (n : Nat) {x : PV} {y : Value} (r : RepL C h p v) (rx : Rep C h x y) : RepL C h (p.set n x) (v.set n y) := by
  have hl := r.length
  refine RepL.of_at (by simp [hl]) fun i x' y' h1 h2 => ?_
  rw [List.getElem?_set] at h1 h2
  split at h1
  · rename_i hi
    subst hi
    simp only [if_true] at h2
    split at h1 <;> simp_all
  · rename_i hi
    simp only [hi, if_false] at h2
    obtain ⟨y'', e, h⟩ := r.at i x' h1
    rw [e] at h2; cases h2; exact h

/-! plain data -/
mutual
def noOwn : PV → Bool
  | .own _ | .app _ => false
  | .tup vs | .list vs => noOwnL vs
  | _ => true
def noOwnL : List PV → Bool
  | [] => true
  | p :: ps => noOwn p && noOwnL ps
end
mutual
def noStar : PV → Bool
  | .own _ | .app _ | .star => false
  | .tup vs | .list vs => noStarL vs
  | _ => true
def noStarL : List PV → Bool
  | [] => true
  | p :: ps => noStar p && noStarL ps
end
mutual
theorem Rep.free {C C' : RC} {h : Heap} (hX : C'.X = C.X) (hst : C'.st = C.st) : ∀ (p : PV) (v : Value), noOwn p = true → Rep C h p v → Rep C' h p v
  | .none, v, _, r => by simpa [Rep] using r
  | .bool b, v, _, r => by simpa [Rep] using r
  | .int i, v, _, r => by simpa [Rep] using r
  | .str l, v, _, r => by simpa [Rep] using r
  | .tup vs, v, n, r => by
    simp only [Rep, noOwn] at r n ⊢
    obtain ⟨a, xs, rfl, hna, ht, hl⟩ := r
    exact ⟨a, xs, rfl, by rw [hX]; exact hna, ht, RepL.free hX hst vs _ n hl⟩
  | .list vs, v, n, r => by
    simp only [Rep, noOwn] at r n ⊢
    obtain ⟨a, xs, rfl, hna, ht, hl⟩ := r
    exact ⟨a, xs, rfl, by rw [hX]; exact hna, ht, RepL.free hX hst vs _ n hl⟩
  | .star, v, _, r => by simpa [Rep, hst] using r
  | .own k, v, n, r => by simp [noOwn] at n
  | .app k, v, n, r => by simp [noOwn] at n
theorem RepL.free {C C' : RC} {h : Heap} (hX : C'.X = C.X) (hst : C'.st = C.st) : ∀ (p : List PV) (v : List Value), noOwnL p = true → RepL C h p v → RepL C' h p v
  | [], v, _, r => by simpa [RepL] using r
  | p :: ps, v, n, r => by
    simp only [RepL, noOwnL, Bool.and_eq_true] at r n ⊢
    obtain ⟨w, r', rfl, h1, h2⟩ := r
    exact ⟨w, r', rfl, Rep.free hX hst p w n.1 h1, RepL.free hX hst ps r' n.2 h2⟩
end

/-! towards the library's data -/
mutual
def toPD : PV → PyData
  | .none => .none | .bool b => .bool b | .int i => .int i | .str l => .str ⟨l.toArray⟩
  | .tup vs => .tuple (toPDs vs) | .list vs => .list (toPDs vs)
  | _ => .none
def toPDs : List PV → List PyData
  | [] => []
  | p :: ps => toPD p :: toPDs ps
end
mutual
theorem Rep.reads {C : RC} {h : Heap} : ∀ (p : PV) (v : Value), noStar p = true → Rep C h p v → ∃ as, Reads h v (toPD p) as
  | .none, v, _, r => by simp only [Rep] at r; subst r; exact ⟨_, .none⟩
  | .bool b, v, _, r => by simp only [Rep] at r; subst r; exact ⟨_, .bool b⟩
  | .int i, v, _, r => by simp only [Rep] at r; obtain ⟨t, rfl⟩ := r; exact ⟨_, .int i t⟩
  | .str l, v, _, r => by
    simp only [Rep] at r; obtain ⟨s, t, rfl, rfl⟩ := r
    exact ⟨_, by simpa [toPD] using Reads.str s t⟩
  | .tup vs, v, n, r => by
    simp only [Rep, noStar] at r n
    obtain ⟨a, xs, rfl, _, ⟨o, ho, hc, m, hd⟩, hl⟩ := r
    obtain ⟨as, q⟩ := RepL.reads vs _ n hl
    exact ⟨_, by simpa only [toPD] using Reads.tuple ho hc hd q⟩
  | .list vs, v, n, r => by
    simp only [Rep, noStar] at r n
    obtain ⟨a, xs, rfl, _, ⟨m, ho⟩, hl⟩ := r
    obtain ⟨as, q⟩ := RepL.reads vs _ n hl
    exact ⟨_, by simpa only [toPD] using Reads.list ho rfl rfl q⟩
  | .star, v, n, r => by simp [noStar] at n
  | .own k, v, n, r => by simp [noStar] at n
  | .app k, v, n, r => by simp [noStar] at n
theorem RepL.reads {C : RC} {h : Heap} : ∀ (p : List PV) (v : List Value), noStarL p = true → RepL C h p v → ∃ as, ReadsAll h v (toPDs p) as
  | [], v, _, r => by simp only [RepL] at r; subst r; exact ⟨_, .nil⟩
  | p :: ps, v, n, r => by
    simp only [RepL, noStarL, Bool.and_eq_true] at r n
    obtain ⟨w, r', rfl, h1, h2⟩ := r
    obtain ⟨as, q1⟩ := Rep.reads p w n.1 h1
    obtain ⟨bs, q2⟩ := RepL.reads ps r' n.2 h2
    exact ⟨_, .cons q1 q2⟩
end
end Mine

namespace Mine

def LIM : Nat := 1048576

def pidx {α : Type} (l : List α) (i : Int) : Option α :=
  if 0 ≤ i then l[i.toNat]? else if 0 ≤ i + l.length then l[(i + l.length).toNat]? else none
def pclamp (n : Nat) (i : Int) : Nat := if i < 0 then (i + n).toNat else min i.toNat n
def plo (n : Nat) : Option Int → Nat
  | none => 0
  | some i => pclamp n i
def phi (n : Nat) : Option Int → Nat
  | none => n
  | some i => pclamp n i
def pslice {α : Type} (l : List α) (lo hi : Option Int) : List α := (l.take (phi l.length hi)).drop (plo l.length lo)

def asL (O : List (Option (List PV))) : PV → Option (List PV)
  | .list vs => some vs
  | .own k => match O[k]? with | some (some vs) => some vs | _ => none
  | _ => none
def resO (O : List (Option (List PV))) : PV → PV
  | .own k => match O[k]? with | some (some vs) => .list vs | _ => .own k
  | v => v

inductive PBin where | add | sub | mul | fdiv | mod | pow
  deriving DecidableEq
inductive PCmp where | eq | ne | lt | le | gt | ge | is | isn | inn | nin
  deriving DecidableEq
inductive PBi where | len | max1 | max2 | sum | list | chr | ord
  deriving DecidableEq
inductive PMe where | join | split | replace | find | index
  deriving DecidableEq

mutual
def pveq : PV → PV → Bool
  | .none, .none => true
  | .bool a, .bool b => a == b
  | .bool a, .int j => (if a then 1 else 0) == j
  | .int i, .bool b => i == (if b then 1 else 0)
  | .int i, .int j => i == j
  | .str x, .str y => x == y
  | .list xs, .list ys => pveqL xs ys
  | .tup xs, .tup ys => pveqL xs ys
  | _, _ => false
def pveqL : List PV → List PV → Bool
  | [], [] => true
  | x :: xs, y :: ys => pveq x y && pveqL xs ys
  | _, _ => false
end

mutual
def okD : Nat → PV → Bool
  | _, .none => true | _, .bool _ => true | _, .int _ => true
  | _, .str l => l.all fun c => decide (c < 0x110000)
  | n + 1, .tup vs => okDs n vs
  | n + 1, .list vs => okDs n vs
  | _, _ => false
def okDs : Nat → List PV → Bool
  | _, [] => true
  | n, p :: ps => okD n p && okDs n ps
end

def prepeat {α : Type} (l : List α) (k : Int) : List α := (List.replicate k.toNat l).flatten

def pbin (O : List (Option (List PV))) (op : PBin) (a b : PV) : Option PV :=
  match op, a, b with
  | .add, .int a, .int b => some (.int (a + b))
  | .sub, .int a, .int b => some (.int (a - b))
  | .mul, .int a, .int b => if b.natAbs < 2 ^ 62 then some (.int (a * b)) else none
  | .fdiv, .int a, .int b => if b ≠ 0 ∧ b.natAbs < 1073741824 then some (.int (a.fdiv b)) else none
  | .mod, .int a, .int b => if b ≠ 0 ∧ b.natAbs < 1073741824 then some (.int (a.fmod b)) else none
  | .pow, .int a, .int b => if 0 ≤ b ∧ b ≤ 16 ∧ 0 < a ∧ a ≤ 16 then some (.int (a ^ b.toNat)) else none
  | .add, .str a, .str b => if a.length + b.length ≤ LIM then some (.str (a ++ b)) else none
  | .mul, .str a, .int b => if b.natAbs ≤ 4096 ∧ a.length ≤ 256 then some (.str (prepeat a b)) else none
  | .add, a, b => match asL O a, asL O b with
    | some x, some y => if x.length + y.length ≤ LIM then some (.list (x ++ y)) else none
    | _, _ => none
  | .mul, a, .int b => match asL O a with
    | some x => if b.natAbs ≤ 256 ∧ x.length ≤ 4096 then some (.list (prepeat x b)) else none
    | _ => none
  | _, _, _ => none

def pisIn {α : Type} [BEq α] (x : List α) : List α → Bool
  | [] => x.isEmpty
  | c :: r => x.isPrefixOf (c :: r) || pisIn x r

def plt : List Nat → List Nat → Bool
  | _, [] => false
  | [], _ :: _ => true
  | a :: x, b :: y => if a < b then true else if b < a then false else plt x y

def pin (O : List (Option (List PV))) (a b : PV) : Option Bool :=
  match a, b with
  | .str x, .str y => some (pisIn x y)
  | a, .tup vs => if okDs 8 vs && okD 8 a then some (vs.any fun y => pveq y a) else none
  | a, b => match asL O b with
    | some vs => if okDs 8 vs && okD 8 a then some (vs.any fun y => pveq y a) else none
    | none => none
def peq (O : List (Option (List PV))) (a b : PV) : Option Bool :=
  match a, b with
  | .int i, .int j => some (i == j)
  | .str x, .str y => some (x == y)
  | a, b => if okD 8 (resO O a) && okD 8 (resO O b) then some (pveq (resO O a) (resO O b)) else none
def pis : PV → PV → Option Bool
  | .star, .star => some true
  | .star, .str _ => some false
  | .str _, .star => some false
  | .none, .none => some true
  | .bool _, .none => some false
  | .int _, .none => some false
  | .str _, .none => some false
  | .list _, .none => some false
  | .tup _, .none => some false
  | .own _, .none => some false
  | _, _ => none

def pcmp (O : List (Option (List PV))) (op : PCmp) (a b : PV) : Option Bool :=
  match op with
  | .eq => peq O a b
  | .ne => (peq O a b).map (!·)
  | .inn => pin O a b
  | .nin => (pin O a b).map (!·)
  | .is => pis a b
  | .isn => (pis a b).map (!·)
  | .lt => match a, b with
    | .int i, .int j => some (decide (i < j))
    | .str x, .str y => some (plt x y)
    | _, _ => none
  | .gt => match a, b with
    | .int i, .int j => some (decide (j < i))
    | .str x, .str y => some (plt y x)
    | _, _ => none
  | .le => match a, b with
    | .int i, .int j => some (decide (i ≤ j))
    | .str x, .str y => some (!plt y x)
    | _, _ => none
  | .ge => match a, b with
    | .int i, .int j => some (decide (j ≤ i))
    | .str x, .str y => some (!plt x y)
    | _, _ => none

def ptruth (O : List (Option (List PV))) : PV → Option Bool
  | .none => some false
  | .bool b => some b
  | .int i => some (decide (i ≠ 0))
  | .str l => if l.length ≤ LIM then some (!l.isEmpty) else none
  | .tup l => if l.length ≤ LIM then some (!l.isEmpty) else none
  | v => (asL O v).bind fun l => if l.length ≤ LIM then some (!l.isEmpty) else none

def pitem (O : List (Option (List PV))) (a i : PV) : Option PV :=
  match a, i with
  | .str l, .int i => if i.natAbs < 2 ^ 62 then (pidx l i).map fun c => .str [c] else none
  | .tup l, .int i => if i.natAbs < 2 ^ 62 then pidx l i else none
  | a, .int i => if i.natAbs < 2 ^ 62 then (asL O a).bind fun l => pidx l i else none
  | _, _ => none

def ppart : PV → Option (Option Int)
  | .none => some none
  | .int i => some (some i)
  | _ => none
def pslc (O : List (Option (List PV))) (a lo hi : PV) : Option PV :=
  match ppart lo, ppart hi with
  | some lo, some hi => match a with
    | .str l => if l.length ≤ LIM then some (.str (pslice l lo hi)) else none
    | .tup l => match lo, hi with
      | some lo, none => if l.length ≤ LIM ∧ 1 ≤ lo ∧ lo ≤ l.length then some (.tup (l.drop lo.toNat)) else none
      | _, _ => none
    | a => match asL O a with
      | some l => if l.length ≤ LIM then some (.list (pslice l lo hi)) else none
      | none => none
  | _, _ => none

def pints : List PV → Option (List Int)
  | [] => some []
  | .int i :: r => (pints r).map (i :: ·)
  | _ => none
def pstrs : List PV → Option (List (List Nat))
  | [] => some []
  | .str l :: r => (pstrs r).map (l :: ·)
  | _ => none

def pbi (O : List (Option (List PV))) (b : PBi) (as : List PV) : Option PV :=
  match b, as with
  | .len, [.str l] => if l.length < 2 ^ 62 then some (.int l.length) else none
  | .len, [.tup l] => if l.length < 2 ^ 62 then some (.int l.length) else none
  | .len, [v] => match asL O v with | some l => if l.length < 2 ^ 62 then some (.int l.length) else none | none => none
  | .max2, [.int a, .int b] => some (.int (if a < b then b else a))
  | .max1, [v] => match (asL O v).bind pints with
    | some (x :: r) => some (.int (r.foldl (fun m y => if m < y then y else m) x))
    | _ => none
  | .sum, [v] => match (asL O v).bind pints with
    | some l => some (.int l.sum)
    | none => none
  | .list, [.str l] => if l.length ≤ LIM then some (.list (l.map fun c => .str [c])) else none
  | .chr, [.int i] => if 0 ≤ i ∧ i < 0xD800 ∨ 0xE000 ≤ i ∧ i < 0x110000 then some (.str [i.toNat]) else none
  | .ord, [.str [c]] => some (.int c)
  | _, _ => none

def psplitGo (sep : List Nat) : Nat → List Nat → List Nat → List (List Nat)
  | _, acc, [] => [acc.reverse]
  | skip + 1, acc, _ :: r => psplitGo sep skip acc r
  | 0, acc, c :: r => if sep.isPrefixOf (c :: r) then acc.reverse :: psplitGo sep (sep.length - 1) [] r else psplitGo sep 0 (c :: acc) r
def psplit (sep l : List Nat) : List (List Nat) := psplitGo sep 0 [] l
def pjoin (sep : List Nat) : List (List Nat) → List Nat
  | [] => []
  | [x] => x
  | x :: y :: r => x ++ sep ++ pjoin sep (y :: r)
def preplace (x a b : List Nat) : List Nat := pjoin b (psplit a x)

def pfindGo (y : List Nat) : Nat → List Nat → Option Nat
  | n, [] => if y.isEmpty then some n else none
  | n, c :: r => if y.isPrefixOf (c :: r) then some n else pfindGo y (n + 1) r

def pme (O : List (Option (List PV))) (m : PMe) (o : PV) (as : List PV) : Option PV :=
  match m, o, as with
  | .join, .str sep, [v] => match (asL O v).bind pstrs with
    | some ls => if (ls.map List.length).sum + ls.length * sep.length ≤ LIM then some (.str (pjoin sep ls)) else none
    | none => none
  | .split, .str l, [.str sep] => if sep.isEmpty || decide (LIM < l.length) then none else some (.list ((psplit sep l).map .str))
  | .replace, .str l, [.str a, .str _] => if pisIn a l then none else some (.str l)
  | .index, v, [x] => match asL O v with
    | some vs => if okDs 8 vs && okD 8 x && decide (vs.length ≤ LIM) then (vs.findIdx? fun y => pveq y x).map fun (i : Nat) => .int i else none
    | none => none
  | _, _, _ => none

mutual
inductive PE where
  | cn | cb (b : Bool) | ci (i : Int) | cs (l : List Nat)
  | var (i : Nat)
  | bin (op : PBin) (a b : PE)
  | cmp (op : PCmp) (a b : PE)
  | cmp2 (op op2 : PCmp) (a b c : PE)
  | and2 (a b : PE) | or2 (a b : PE) | not (a : PE)
  | ite (c a b : PE)
  | idx (a i : PE) | sl (a lo hi : PE)
  | tup (es : PEs) | lst (es : PEs)
  | call (f : String) (es : PEs)
  | calls (f : String) (e s : PE)
  | bi (b : PBi) (es : PEs)
  | me (m : PMe) (o : PE) (es : PEs)
  | comp (elt : PE) (x : Nat) (it : PIt) (cs : PEs) (fr : List (Option Nat))
  | gjoin (sep elt : PE) (x : Nat) (it : PIt) (fr : List (Option Nat))
  | fstr (es : PEs)
  | resub (e : PE)
  | isstr (e : PE) | spec (e : PE)
inductive PEs where
  | nil | cons (e : PE) (r : PEs)
inductive PIt where
  | val (e : PE) | rng1 (a : PE) | rng2 (a b : PE) | rng3 (a b c : PE)
end

def mapO {α β : Type} (f : α → Option (Option β)) : List α → Option (List β)
  | [] => some []
  | x :: r => match f x with
    | some (some y) => (mapO f r).map (y :: ·)
    | some none => mapO f r
    | none => none

def prange (a b c : Int) : List PV :=
  if 0 < c then (List.range ((b - a + c - 1) / c).toNat).map fun k : Nat => .int (a + c * k)
  else (List.range ((a - b - c - 1) / (-c)).toNat).map fun k : Nat => .int (a + c * k)

abbrev PF1 := String → List PV → Option PV
abbrev Slots := List (Option PV)
abbrev Owns := List (Option (List PV))

def piter (O : Owns) : PV → Option (List PV)
  | .str l => some (l.map fun c => .str [c])
  | .tup vs => some vs
  | v => asL O v

/-- the signs that escape marks -/
def specials : List Nat := [40, 41, 91, 93, 123, 125, 63, 42, 43, 45, 124, 94, 36, 92, 46, 38, 126, 35, 32, 9, 10, 13, 11, 12]
def pesc (c : Nat) : List Nat := if specials.contains c then [92, c] else [c]

mutual
def ev (F : PF1) (O : Owns) (G : Slots) : PE → Option PV
  | .cn => some .none
  | .cb b => some (.bool b)
  | .ci i => some (.int i)
  | .cs l => some (.str l)
  | .var i => match G[i]? with | some (some v) => some v | _ => none
  | .bin op a b => (ev F O G a).bind fun x => (ev F O G b).bind fun y => pbin O op x y
  | .cmp op a b => (ev F O G a).bind fun x => (ev F O G b).bind fun y => (pcmp O op x y).map .bool
  | .cmp2 op op2 a b c => (ev F O G a).bind fun x => (ev F O G b).bind fun y => (pcmp O op x y).bind fun r => if r then (ev F O G c).bind fun z => (pcmp O op2 y z).map .bool else some (.bool false)
  | .and2 a b => (ev F O G a).bind fun x => (ptruth O x).bind fun t => if t then ev F O G b else some x
  | .or2 a b => (ev F O G a).bind fun x => (ptruth O x).bind fun t => if t then some x else ev F O G b
  | .not a => (ev F O G a).bind fun x => (ptruth O x).map fun t => .bool (!t)
  | .ite c a b => (pt F O G c).bind fun t => if t then ev F O G a else ev F O G b
  | .idx a i => (ev F O G a).bind fun x => (ev F O G i).bind fun y => pitem O x y
  | .sl a lo hi => (ev F O G a).bind fun x => (ev F O G lo).bind fun y => (ev F O G hi).bind fun z => pslc O x y z
  | .tup es => (evs F O G es).map .tup
  | .lst es => (evs F O G es).map .list
  | .call f es => (evs F O G es).bind fun vs => if noOwnL vs then F f vs else none
  | .calls f e s => (ev F O G e).bind fun x => (ev F O G s).bind fun y => (asL O y).bind fun vs => if noOwnL (x :: vs) then F f (x :: vs) else none
  | .bi b es => (evs F O G es).bind fun vs => pbi O b vs
  | .me m o es => (ev F O G o).bind fun x => (evs F O G es).bind fun vs => pme O m x vs
  | .comp elt x it cs fr => (evI F O G it).bind fun its =>
      (mapO (fun v => (pts F O ((fr.map fun j => j.bind fun j => (G[j]?).bind id).set x (some v)) cs).bind fun t =>
        if t then (ev F O ((fr.map fun j => j.bind fun j => (G[j]?).bind id).set x (some v)) elt).map some else some none) its).map .list
  | .gjoin sep elt x it fr => (ev F O G sep).bind fun sp => (evI F O G it).bind fun its =>
      (mapO (fun v => (ev F O ((fr.map fun j => j.bind fun j => (G[j]?).bind id).set x (some v)) elt).map some) its).bind fun vs => pme O .join sp [.list vs]
  | .fstr es => (evs F O G es).bind fun vs => (pstrs vs).bind fun ls => if (ls.map List.length).sum ≤ LIM then some (.str ls.flatten) else none
  | .resub e => (ev F O G e).bind fun v => F "%sub" [v]
  | .isstr e => (ev F O G e).bind fun v => match v with | .str _ => some (.bool true) | _ => none
  | .spec e => (ev F O G e).bind fun v => match v with | .str [c] => some (.str (pesc c)) | _ => none
def evs (F : PF1) (O : Owns) (G : Slots) : PEs → Option (List PV)
  | .nil => some []
  | .cons e r => (ev F O G e).bind fun v => (evs F O G r).map (v :: ·)
def evI (F : PF1) (O : Owns) (G : Slots) : PIt → Option (List PV)
  | .val e => (ev F O G e).bind fun v => (piter O v).bind fun l => if l.length ≤ LIM then some l else none
  | .rng1 a => (ev F O G a).bind fun x => match x with
    | .int x => if x.natAbs ≤ LIM then some (prange 0 x 1) else none
    | _ => none
  | .rng2 a b => (ev F O G a).bind fun x => (ev F O G b).bind fun y => match x, y with
    | .int x, .int y => if x.natAbs ≤ LIM ∧ y.natAbs ≤ LIM then some (prange x y 1) else none
    | _, _ => none
  | .rng3 a b c => (ev F O G a).bind fun x => (ev F O G b).bind fun y => (ev F O G c).bind fun z => match x, y, z with
    | .int x, .int y, .int z => if x.natAbs ≤ LIM ∧ y.natAbs ≤ LIM ∧ z ≠ 0 ∧ z.natAbs ≤ LIM then some (prange x y z) else none
    | _, _, _ => none
def pts (F : PF1) (O : Owns) (G : Slots) : PEs → Option Bool
  | .nil => some true
  | .cons e r => (pt F O G e).bind fun t => if t then pts F O G r else some false
def pt (F : PF1) (O : Owns) (G : Slots) : PE → Option Bool
  | .not a => (pt F O G a).map (!·)
  | .and2 a b => (pt F O G a).bind fun t => if t then pt F O G b else some false
  | .or2 a b => (pt F O G a).bind fun t => if t then some true else pt F O G b
  | .cmp op a b => (ev F O G a).bind fun x => (ev F O G b).bind fun y => pcmp O op x y
  | .cmp2 op op2 a b c => (ev F O G a).bind fun x => (ev F O G b).bind fun y => (pcmp O op x y).bind fun r => if r then (ev F O G c).bind fun z => pcmp O op2 y z else some false
  | .var i => match G[i]? with | some (some v) => ptruth O v | _ => none
  | .cb b => some b
  | .isstr e => (ev F O G e).bind fun v => match v with | .str _ => some true | _ => none
  | .call f es => (evs F O G es).bind fun vs => if noOwnL vs then (F f vs).bind (ptruth O) else none
  | _ => none
end

def evIF (F : PF1) (O : Owns) (G : Slots) : PIt → Option (List PV)
  | .val e => (ev F O G e).bind fun v => (piter [] v).bind fun l => if l.length ≤ LIM then some l else none
  | it => evI F O G it

inductive PF where
  | next | brk | ret (v : PV)

mutual
inductive PS where
  | asg (i : Nat) (e : PE)
  | asgo (i : Nat) (es : PEs)
  | asgl (i : Nat) (e : PE)
  | asgt (is : List (Nat × Bool)) (es : PEs)
  | asgu (is : List Nat) (e : PE)
  | asga (i j : Nat)
  | pop (i j : Nat) (e : PE)
  | aug (i : Nat) (op : PBin) (e : PE)
  | augo (i : Nat) (e : PE)
  | app (i : Nat) (e : PE)
  | appf (i : Nat) (e : PE)
  | seti (i : Nat) (k e : PE)
  | augi (i : Nat) (k : PE) (op : PBin) (e : PE)
  | deli (i : Nat) (k : PE)
  | ite (c : PE) (a b : PSs)
  | wh (c : PE) (a : PSs)
  | fr (i : Nat) (it : PIt) (a : PSs)
  | ret (e : PE) | brk
  | asrt (c : PE)
  | frz (i : Nat) (p : PS)
inductive PSs where
  | nil | cons (p : PS) (r : PSs)
end

structure St where
  G : Slots
  O : Owns

def St.put (σ : St) (i : Nat) (v : PV) : St := ⟨σ.G.set i (some v), σ.O⟩
def St.putO (σ : St) (k : Nat) (vs : List PV) : St := ⟨σ.G, σ.O.set k (some vs)⟩
def St.new (σ : St) (i : Nat) (vs : List PV) : St := ⟨σ.G.set i (some (.own σ.O.length)), σ.O ++ [some vs]⟩
def St.ownAt (σ : St) (i : Nat) : Option (Nat × List PV) :=
  match σ.G[i]? with
  | some (some (.own k)) => match σ.O[k]? with | some (some vs) => some (k, vs) | _ => none
  | _ => none
def St.appAt (σ : St) (i : Nat) : Option (Nat × List PV) :=
  match σ.G[i]? with
  | some (some (.app k)) => match σ.O[k]? with | some (some vs) => some (k, vs) | _ => none
  | _ => none

/-- every own list frozen -/
def frzV (O : Owns) : PV → PV
  | .own k => match O[k]? with | some (some vs) => .list vs | _ => .own k
  | v => v

def frzN (O : Owns) (v : PV) : Option PV := if noOwn (frzV O v) then some (frzV O v) else none

def whIt (test : St → Option Bool) (body : St → Option (St × PF)) : Nat → St → Option (St × PF)
  | 0, _ => none
  | n + 1, σ => match test σ with
    | some true => match body σ with
      | some (σ', .next) => whIt test body n σ'
      | some (σ', .brk) => some (σ', .next)
      | some (σ', .ret v) => some (σ', .ret v)
      | none => none
    | some false => some (σ, .next)
    | none => none
def frIt (i : Nat) (body : St → Option (St × PF)) : List PV → St → Option (St × PF)
  | [], σ => some (σ, .next)
  | v :: r, σ => match body (σ.put i v) with
      | some (σ', .next) => frIt i body r σ'
      | some (σ', .brk) => some (σ', .next)
      | some (σ', .ret v) => some (σ', .ret v)
      | none => none

def putAll : List Nat → List PV → St → Option St
  | [], [], σ => some σ
  | i :: is, v :: vs, σ => putAll is vs (σ.put i v)
  | _, _, _ => none
/-- a display's items as values, an own list made of the lists that are to be own -/
def putT : List (Nat × Bool) → List PV → St → Option St
  | [], [], σ => some σ
  | (i, false) :: is, v :: vs, σ => putT is vs (σ.put i v)
  | (i, true) :: is, .list l :: vs, σ => putT is vs (σ.new i l)
  | _, _, _ => none

mutual
def ex (n : Nat) (F : PF1) : PS → St → Option (St × PF)
  | .asg i e, σ => (ev F σ.O σ.G e).map fun v => (σ.put i v, .next)
  | .asgo i es, σ => (evs F σ.O σ.G es).map fun vs => (σ.new i vs, .next)
  | .asgl i e, σ => (ev F σ.O σ.G e).bind fun v => (pbi σ.O .list [v]).bind fun r => match r with | .list l => some (σ.new i l, .next) | _ => none
  | .asgt is es, σ => (evs F σ.O σ.G es).bind fun vs => (putT is vs σ).map fun σ' => (σ', .next)
  | .asgu is e, σ => (ev F σ.O σ.G e).bind fun v => match v with | .tup vs => (putAll is vs σ).map fun σ' => (σ', .next) | _ => none
  | .asga i j, σ => (σ.ownAt j).map fun k => (σ.put i (.app k.1), .next)
  | .pop i j e, σ => (σ.ownAt j).bind fun k => (ev F σ.O σ.G e).bind fun x => match x with
      | .int x => if 0 ≤ x ∧ k.2.length ≤ LIM then (k.2[x.toNat]?).map fun v => ((σ.putO k.1 (k.2.eraseIdx x.toNat)).put i v, .next) else none
      | _ => none
  | .aug i op e, σ => (ev F σ.O σ.G (.var i)).bind fun x => (ev F σ.O σ.G e).bind fun y => match x, y with
      | .int _, .int _ => (pbin σ.O op x y).map fun v => (σ.put i v, .next)
      | .str _, .str _ => (pbin σ.O op x y).map fun v => (σ.put i v, .next)
      | _, _ => none
  | .augo i e, σ => (σ.ownAt i).bind fun k => (ev F σ.O σ.G e).bind fun y => (asL σ.O y).bind fun vs => if k.2.length + vs.length ≤ LIM then some (σ.putO k.1 (k.2 ++ vs), .next) else none
  | .app i e, σ => (σ.ownAt i).bind fun k => (ev F σ.O σ.G e).bind fun v => if k.2.length ≤ LIM then some (σ.putO k.1 (k.2 ++ [v]), .next) else none
  | .appf i e, σ => (σ.appAt i).bind fun k => (ev F σ.O σ.G e).bind fun v => if k.2.length ≤ LIM then some (σ.putO k.1 (k.2 ++ [v]), .next) else none
  | .seti i k e, σ => (ev F σ.O σ.G e).bind fun v => (σ.ownAt i).bind fun o => (ev F σ.O σ.G k).bind fun x => match x with
      | .int x => if 0 ≤ x ∧ x < o.2.length then some (σ.putO o.1 (o.2.set x.toNat v), .next) else none
      | _ => none
  | .augi i k op e, σ => (σ.ownAt i).bind fun o => (ev F σ.O σ.G k).bind fun x => match x with
      | .int x => (pidx o.2 x).bind fun old => (ev F σ.O σ.G e).bind fun v => match old, v with
        | .str _, .str _ => (pbin σ.O op old v).bind fun r => if x = -1 ∧ 0 < o.2.length then some (σ.putO o.1 (o.2.set (o.2.length - 1) r), .next) else none
        | _, _ => none
      | _ => none
  | .deli i k, σ => (σ.ownAt i).bind fun o => (ev F σ.O σ.G k).bind fun x => match x with
      | .int x => if 0 ≤ x ∧ x < o.2.length then some (σ.putO o.1 (o.2.eraseIdx x.toNat), .next) else none
      | _ => none
  | .ite c a b, σ => (pt F σ.O σ.G c).bind fun t => if t then exs n F a σ else exs n F b σ
  | .wh c a, σ => whIt (fun σ => pt F σ.O σ.G c) (fun σ => exs n F a σ) n σ
  | .fr i it a, σ => (evIF F σ.O σ.G it).bind fun its => frIt i (fun σ => exs n F a σ) its σ
  | .ret e, σ => (ev F [] (σ.G.map fun v => v.bind (frzN σ.O)) e).map fun v => (σ, .ret v)
  | .brk, σ => some (σ, .brk)
  | .asrt c, σ => (pt F σ.O σ.G c).bind fun t => if t then some (σ, .next) else none
  | .frz i p, σ => (σ.ownAt i).bind fun k => ex n F p ⟨(σ.G.map fun v => v.map fun v => match v with | .own j => if j = k.1 then .list k.2 else .own j | .app j => if j = k.1 then .none else .app j | v => v), σ.O.set k.1 none⟩
def exs (n : Nat) (F : PF1) : PSs → St → Option (St × PF)
  | .nil, σ => some (σ, .next)
  | .cons p r, σ => match ex n F p σ with
    | some (σ', .next) => exs n F r σ'
    | x => x
end

/-- a def's call: its parameters stand first among its names -/
def pfun (n : Nat) (F : PF1) (names : Nat) (body : PSs) (args : List PV) : Option PV :=
  match exs n F body ⟨args.map some ++ List.replicate (names - args.length) none, []⟩ with
  | some (_, .ret v) => if noOwn v then some v else none
  | some (_, .next) => some .none
  | _ => none
end Mine

namespace Mine

def slotOf (sc : Scope) (x : Str) : Option Nat :=
  match sc.names.lookup x with
  | some .local => sc.names.findIdx? fun p => p.1 == x
  | some .cell => sc.names.findIdx? fun p => p.1 == x
  | some .free => sc.names.findIdx? fun p => p.1 == x
  | _ => none
def isGl (sc : Scope) (x : Str) : Bool := sc.names.lookup x == some .globalImplicit

def cBin : Operator → Option PBin
  | .Add => some .add | .Sub => some .sub | .Mult => some .mul | .FloorDiv => some .fdiv | .Mod => some .mod | .Pow => some .pow | _ => none
def cCmp : CmpOp → PCmp
  | .Eq => .eq | .NotEq => .ne | .Lt => .lt | .LtE => .le | .Gt => .gt | .GtE => .ge | .Is => .is | .IsNot => .isn | .In => .inn | .NotIn => .nin
def cBi (f : Str) (n : Nat) : Option PBi :=
  if f == "len" && n == 1 then some .len else if f == "max" && n == 1 then some .max1 else if f == "max" && n == 2 then some .max2
  else if f == "sum" && n == 1 then some .sum else if f == "list" && n == 1 then some .list else if f == "chr" && n == 1 then some .chr
  else if f == "ord" && n == 1 then some .ord else none
def cMe (f : Str) (n : Nat) : Option PMe :=
  if f == "join" && n == 1 then some .join else if f == "split" && n == 1 then some .split else if f == "replace" && n == 2 then some .replace
  else if f == "find" && n == 3 then some .find else if f == "index" && n == 1 then some .index else none
def dbg (x : Str) : Bool := x == ("__debug__" : Str) || x == ("__classdict__" : Str)

def PEs.len : PEs → Nat
  | .nil => 0
  | .cons _ r => r.len + 1

def noSuper : Expr → Bool
  | .Call (.Name ..) [] [] _ => false
  | _ => true

/-- what a comprehension's own names must be -/
def compOk (sc sc2 : Scope) (x : Str) : Bool :=
  sc2.kind == .function && (slotOf sc2 "stuff").isNone && sc2.names.lookup x == some .local && sc2.names.all fun p => match p.2 with
    | .local => sc2.names.lookup p.1 == some .local
    | .free => sc.names.lookup p.1 == some .cell || sc.names.lookup p.1 == some .free
    | .cell => false
    | _ => true
def noSet : Expr → Bool
  | .Set .. => false
  | _ => true
def NoStars : List Expr → Bool
  | [] => true
  | .Starred _ _ :: _ => false
  | _ :: r => NoStars r

def fnTab : List (Str × String) := (["replace", "escape", "translate", "_translate", "_join_translated_parts", "_law_signs", "_law_overlap", "_law_most", "_law_mirror", "_law_ends", "_law_rows", "_law_run",
  "_law_closed", "_law_machine", "_law_parts", "_law_fits", "_law_takes"] : List String).map fun x => (Str.ofString x, x)

/-- isinstance(e, str) -/
def isI (sc : Scope) (f : Str) : List Expr → Bool
  | [e, .Name y _] => f == "isinstance" && y == "str" && isGl sc "isinstance" && isGl sc "str" && NoStars [e]
  | _ => false
/-- .translate(_special_chars_map) -/
def isT (sc : Scope) (m : Str) : List Expr → Bool
  | [.Name y _] => m == "translate" && y == "_special_chars_map" && isGl sc "_special_chars_map"
  | _ => false

/-- a lambda without defaults and without names of the function around it -/
def lamOk (ps : Arguments) (lsc : Scope) : Bool := ps.kw_defaults.isEmpty && ps.defaults.isEmpty && lsc.names.all fun p => p.2 != .free

def cO (f : Expr → Option PE) : Option Expr → Option PE
  | none => some .cn
  | some e => f e
def cEs (f : Expr → Option PE) : List Expr → Option PEs
  | [] => some .nil
  | e :: r => (f e).bind fun e => (cEs f r).map fun r => .cons e r
def cFs (f : Expr → Option PE) : List Expr → Option PEs
  | [] => some .nil
  | .FormattedValue e (-1) none _ :: r => (f e).bind fun e => (cFs f r).map fun r => .cons e r
  | .Constant (.str s) _ _ :: r => (cFs f r).map fun r => .cons (.cs s.cps.toList) r
  | _ => none
def cI (sc : Scope) (f : Expr → Option PE) : Expr → Option PIt
  | .Call (.Name "range" _) [a] [] _ => if isGl sc "range" then (f a).map .rng1 else none
  | .Call (.Name "range" _) [a, b] [] _ => if isGl sc "range" then (f a).bind fun a => (f b).map fun b => .rng2 a b else none
  | .Call (.Name "range" _) [a, b, c] [] _ => if isGl sc "range" then (f a).bind fun a => (f b).bind fun b => (f c).map fun c => .rng3 a b c else none
  | e => (f e).map .val
def cE : Nat → Scope → Expr → Option PE
  | 0, _, _ => none
  | _ + 1, _, .Constant .none _ _ => some .cn
  | _ + 1, _, .Constant (.bool b) _ _ => some (.cb b)
  | _ + 1, _, .Constant (.int i) _ _ => some (.ci i)
  | _ + 1, _, .Constant (.str s) _ _ => some (.cs s.cps.toList)
  | _ + 1, sc, .Name x _ => if dbg x then none else (slotOf sc x).map .var
  | n + 1, sc, .BinOp l op r _ => (cE n sc l).bind fun a => (cE n sc r).bind fun b => (cBin op).map fun o => .bin o a b
  | n + 1, sc, .BoolOp .And [a, b] _ => (cE n sc a).bind fun a => (cE n sc b).map fun b => .and2 a b
  | n + 1, sc, .BoolOp .Or [a, b] _ => (cE n sc a).bind fun a => (cE n sc b).map fun b => .or2 a b
  | n + 1, sc, .BoolOp .Or [a, b, c] p => (cE n sc a).bind fun a => (cE n sc (.BoolOp .Or [b, c] p)).map fun b => .or2 a b
  | n + 1, sc, .UnaryOp .Not a _ => (cE n sc a).map .not
  | _ + 1, _, .UnaryOp .USub (.Constant (.int i) _ _) _ => some (.ci (-i))
  | n + 1, sc, .IfExp c a b _ => (cE n sc c).bind fun c => (cE n sc a).bind fun a => (cE n sc b).map fun b => .ite c a b
  | n + 1, sc, .Compare a [op] [b] _ => (cE n sc a).bind fun a => (cE n sc b).map fun b => .cmp (cCmp op) a b
  | n + 1, sc, .Compare a [op, op2] [b, c] _ => (cE n sc a).bind fun a => (cE n sc b).bind fun b => (cE n sc c).map fun c => .cmp2 (cCmp op) (cCmp op2) a b c
  | n + 1, sc, .Subscript v (.Slice lo hi none _) _ => (cE n sc v).bind fun v => (cO (cE n sc) lo).bind fun lo => (cO (cE n sc) hi).map fun hi => .sl v lo hi
  | n + 1, sc, .Subscript v i _ => (cE n sc v).bind fun v => (cE n sc i).map fun i => .idx v i
  | n + 1, sc, .Tuple es _ _ => (cEs (cE n sc) es).bind fun ps => if ps.len ≤ 64 && NoStars es then some (.tup ps) else none
  | n + 1, sc, .List es _ => (cEs (cE n sc) es).bind fun ps => if ps.len ≤ 64 && NoStars es then some (.lst ps) else none
  | _ + 1, _, .Call (.Name _ _) [_, .Starred _ _] [] _ => some (.idx .cn .cn)
  | n + 1, sc, .Call (.Name f _) args [] _ => if isI sc f args then (match args with
      | e :: _ => (cE n sc e).map .isstr
      | [] => none) else if isGl sc f && !dbg f && NoStars args then (match cBi f args.length with
      | some b => (cEs (cE n sc) args).map fun as => .bi b as
      | none => (fnTab.lookup f).bind fun g => (cEs (cE n sc) args).map fun as => .call g as) else none
  | _ + 1, _, .Call (.Attribute _ "join" _) [.GeneratorExp ..] [] _ => some (.idx .cn .cn)
  | n + 1, sc, .Call (.Attribute (.Name r _) "sub" ap) [.Lambda ps _ lsc _, e] [] p => if isGl sc r && r == "_twin_re_1" && (slotOf sc "stuff").isSome && lamOk ps lsc && ap.endLine == p.line && NoStars [e] then (cE n sc e).map .resub else none
  | n + 1, sc, .Call (.Attribute o m ap) args [] p => if isT sc m args then (if noSuper o && ap.endLine == p.line then (cE n sc o).map .spec else none) else if noSuper o && ap.endLine == p.line && NoStars args then (cMe m args.length).bind fun m => (cE n sc o).bind fun o => (cEs (cE n sc) args).map fun as => .me m o as else none
  | n + 1, sc, .ListComp elt [⟨.Name x _, iter, ifs, 0⟩] sc2 _ => if !(compOk sc sc2 x && noSet iter) then none else
      (slotOf sc2 x).bind fun i => (cI sc (cE n sc) iter).bind fun it => (cE n sc2 elt).bind fun elt => (cEs (cE n sc2) ifs).map fun cs => .comp elt i it cs (sc2.names.map fun p => if p.2 == .free then slotOf sc p.1 else none)
  | n + 1, sc, .JoinedStr (e1 :: e2 :: es) _ => (cFs (cE n sc) (e1 :: e2 :: es)).map .fstr
  | _, _, _ => none

def E.names : List Expr → Option (List Str)
  | [] => some []
  | .Name x _ :: r => (E.names r).map (x :: ·)
  | _ => none

def noComp : Expr → Bool
  | .ListComp .. | .SetComp .. | .DictComp .. => false
  | _ => true
def tupOk (vs : List Expr) : Bool := vs.all (foldedForSure 8) || !(vs.all (constantsAlone 8))
def cT (n : Nat) (sc : Scope) : List Bool → List Expr → Option PEs
  | [], [] => some .nil
  | false :: fs, e :: es => (cE n sc e).bind fun p => (cT n sc fs es).map fun q => .cons p q
  | true :: fs, .List l _ :: es => if !NoStars l then none else (cEs (cE n sc) l).bind fun p => if p.len ≤ 64 then (cT n sc fs es).map fun q => .cons (.lst p) q else none
  | _, _ => none
def slots (sc : Scope) : List Str → Option (List Nat)
  | [] => some []
  | x :: xs => (slotOf sc x).bind fun i => (slots sc xs).map (i :: ·)
/-- a statement that is never reached -/
def badS : PS := .asrt (.idx .cn .cn)

def cSs (f : Stmt → Option PS) : List Stmt → Option PSs
  | [] => some .nil
  | s :: r => (cSs f r).map fun r => .cons ((f s).getD badS) r
def cS (mu : List Str) : Nat → Scope → Stmt → Option PS
  | 0, _, _ => none
  | n + 1, sc, .Assign [.Name x _] (.List es p) _ => (slotOf sc x).bind fun i => if mu.contains x then (if !NoStars es then none else (cEs (cE n sc) es).bind fun es => if es.len ≤ 64 then some (.asgo i es) else none) else (cE n sc (.List es p)).map fun e => .asg i e
  | _ + 1, sc, .Assign [.Name x _] (.Attribute (.Name y _) "append" _) _ => if dbg y then none else (slotOf sc x).bind fun i => (slotOf sc y).map fun j => .asga i j
  | n + 1, sc, .Assign [.Name x _] (.Call (.Attribute (.Name y _) "pop" ap) [e] [] p) _ => if !(ap.endLine == p.line) || dbg y || !NoStars [e] then none else (slotOf sc x).bind fun i => (slotOf sc y).bind fun j => (cE n sc e).map fun e => .pop i j e
  | n + 1, sc, .Assign [.Name x _] (.Call (.Name f fp) [e] [] p) _ => (slotOf sc x).bind fun i => if f == "list" && mu.contains x then (if !(isGl sc "list" && NoStars [e]) then none else (cE n sc e).map fun e => .asgl i e) else (cE n sc (.Call (.Name f fp) [e] [] p)).map fun e => .asg i e
  | n + 1, sc, .Assign [.Name y _] (.ListComp elt [⟨.Name x _, iter, ifs, 0⟩] sc2 _) _ => if !(compOk sc sc2 x && noSet iter) then none else (slotOf sc y).bind fun j =>
      (slotOf sc2 x).bind fun i => (cI sc (cE n sc) iter).bind fun it => (cE n sc2 elt).bind fun elt => (cEs (cE n sc2) ifs).map fun cs => .asg j (.comp elt i it cs (sc2.names.map fun p => if p.2 == .free then slotOf sc p.1 else none))
  | n + 1, sc, .Assign [.Name x _] v _ => if !noComp v then none else (slotOf sc x).bind fun i => (cE n sc v).map fun e => .asg i e
  | n + 1, sc, .Assign [.Tuple ts _ _] (.Tuple vs _ _) _ => (E.names ts).bind fun xs => (slots sc xs).bind fun is => (cT n sc (xs.map (mu.contains ·)) vs).bind fun es =>
      if decide is.Nodup && NoStars vs && decide (es.len ≤ 64) && tupOk vs then some (.asgt (is.zip (xs.map (mu.contains ·))) es) else none
  | _ + 1, _, .Assign [.Tuple _ _ _] _ _ => some badS
  | _ + 1, _, .Assign [.Subscript (.Name _ _) _ _] _ _ => some badS
  | n + 1, sc, .AugAssign (.Name x _) .Add e _ => if mu.contains x then some badS else if dbg x then none else (slotOf sc x).bind fun i => (cE n sc e).map fun e => .aug i .add e
  | _ + 1, _, .AugAssign (.Subscript (.Name _ _) _ _) _ _ _ => some badS
  | _ + 1, _, .Delete [.Subscript (.Name _ _) _ _] _ => some badS
  | n + 1, sc, .Expr (.Call (.Attribute (.Name x _) "append" ap) [e] [] p) _ => if !(ap.endLine == p.line) || dbg x || !NoStars [e] then none else (slotOf sc x).bind fun i => (cE n sc e).map fun e => .app i e
  | n + 1, sc, .Expr (.Call (.Name x _) [e] [] _) _ => if dbg x || !NoStars [e] then none else (slotOf sc x).bind fun i => (cE n sc e).map fun e => .appf i e
  | n + 1, sc, .If c a b _ => (cE n sc c).bind fun c => (cSs (cS mu n sc) a).bind fun a => (cSs (cS mu n sc) b).map fun b => .ite c a b
  | n + 1, sc, .While c a [] _ => (cE n sc c).bind fun c => (cSs (cS mu n sc) a).map fun a => .wh c a
  | n + 1, sc, .For (.Name x _) it a [] _ => if !noSet it then none else (slotOf sc x).bind fun i => (cI sc (cE n sc) it).bind fun it => (cSs (cS mu n sc) a).map fun a => .fr i it a
  | n + 1, sc, .Return (some e) _ => (cE n sc e).map .ret
  | _ + 1, _, .Break _ => some .brk
  | n + 1, sc, .Assert c _ _ => (cE n sc c).map .asrt
  | _, _, _ => none

def findDef (p : Program) (f : Str) : Option (Arguments × List Stmt × Scope) :=
  p.main.body.findSome? fun s => match s with
    | .FunctionDef name args body _ _ _ scope _ _ _ => if name == f then some (args, body, scope) else none
    | _ => none
end Mine

namespace Mine

def Keeps (s s' : Shared) : Prop := ∃ h' tk gn, s' = { s with heap := h', toks := tk, gens := gn } ∧ KN s.heap h' ∧ (AllBare s.gens → AllBare gn)
theorem kof {s s' : Shared} (k : PySem.Keeps s s') : Keeps s s' := let ⟨h', tk, e, hk⟩ := k; ⟨h', tk, s.gens, e, .of hk, id⟩
theorem kp {s : Shared} {k : Nat} : Keeps s { s with toks := k } := ⟨s.heap, k, s.gens, rfl, .refl _, id⟩
theorem kpush {s : Shared} {o : Obj} {k : Nat} : Keeps s { s with heap := s.heap.push o, toks := k } := ⟨_, _, s.gens, rfl, .push _ _, id⟩
theorem krefl (s : Shared) : Keeps s s := ⟨s.heap, s.toks, s.gens, rfl, .refl _, id⟩
theorem ktrans {a b c : Shared} (x : Keeps a b) (y : Keeps b c) : Keeps a c := by
  obtain ⟨h, t, g, rfl, k, q⟩ := x
  obtain ⟨h', t', g', rfl, k', q'⟩ := y
  exact ⟨h', t', g', rfl, k.trans k', fun x => q' (q x)⟩
theorem kheap {a b : Shared} (x : Keeps a b) : KN a.heap b.heap := by
  obtain ⟨h, t, g, rfl, k, _⟩ := x; exact k

structure Room (n : Nat) (A : Around) : Prop where
  handled : A.handled = none
  depth : A.depth + n < recursionLimit
  units : A.units + 200 + 20 * n < cLine

/-- what a value is when it stands as a result -/
abbrev Post (C : RC) (s : Shared) (pv : PV) : Value → Shared → Prop := fun v s' => Keeps s s' ∧ Rep C s'.heap pv v
abbrev noE : Value → Shared → Prop := fun _ _ => False

structure Owned (C : RC) (O : Owns) (h : Heap) : Prop where
  own : ∀ (k : Nat) vs, O[k]? = some (some vs) → ∃ a xs, C.ads[k]? = some a ∧ h.PlainList a xs ∧ RepL C h vs xs.toList
  lt : ∀ b, C.X b → ∃ o, NoTab o ∧ h.get? b = some o

theorem Owned.keep {C : RC} {O : Owns} {h h' : Heap} (W : Owned C O h) (hk : KN h h') : Owned C O h' :=
  ⟨fun k vs e => let ⟨a, xs, h1, h2, h3⟩ := W.own k vs e; ⟨a, xs, h1, hk.plain h2, h3.keep hk⟩, fun b hb => let ⟨o, n, e⟩ := W.lt b hb; ⟨o, n, hk.nt _ _ n e⟩⟩
theorem Owned.fresh {C : RC} {O : Owns} {h : Heap} (W : Owned C O h) : ¬ C.X h.objs.size := fun hx => let ⟨_, _, e⟩ := W.lt _ hx; Nat.lt_irrefl _ (Heap.lt_size e)

theorem asL_rep {C : RC} {O : Owns} {h : Heap} (W : Owned C O h) {v : PV} {u : Value} {vs : List PV} (hv : asL O v = some vs) (r : Rep C h v u) :
    ∃ a xs, u = .ref a ∧ h.PlainList a xs ∧ RepL C h vs xs.toList := by
  unfold asL at hv
  split at hv
  · cases hv
    simp only [Rep] at r
    obtain ⟨a, xs, rfl, _, hp, hl⟩ := r
    exact ⟨a, xs, rfl, hp, hl⟩
  · rename_i k
    split at hv
    · rename_i vs' e
      cases hv
      simp only [Rep] at r
      obtain ⟨a, ha, rfl⟩ := r
      obtain ⟨a', xs, h1, h2, h3⟩ := W.own k _ e
      rw [ha] at h1; cases h1
      exact ⟨a, xs, rfl, h2, h3⟩
    · cases hv
  · cases hv

theorem rep_str {C : RC} {h : Heap} {s : Str} {t : Tok} : Rep C h (.str s.cps.toList) (.str s t) := by simp only [Rep]; exact ⟨s, t, rfl, rfl⟩
theorem rep_str' {C : RC} {h : Heap} {l : List Nat} {s : Str} {t : Tok} (e : s.cps.toList = l) : Rep C h (.str l) (.str s t) := by subst e; exact rep_str
theorem rep_int {C : RC} {h : Heap} {i : Int} {t : Tok} : Rep C h (.int i) (.int i t) := by simp only [Rep]; exact ⟨t, rfl⟩
theorem rep_bool {C : RC} {h : Heap} {b : Bool} : Rep C h (.bool b) (.bool b) := by simp only [Rep]
theorem rep_none {C : RC} {h : Heap} : Rep C h .none .none := by simp only [Rep]
theorem rep_list {C : RC} {h : Heap} {vs : List PV} {xs : List Value} {a : Addr} (hx : ¬ C.X a) (hp : h.PlainList a xs.toArray) (hl : RepL C h vs xs) : Rep C h (.list vs) (.ref a) := by
  simp only [Rep]; exact ⟨a, xs.toArray, rfl, hx, hp, hl⟩
theorem rep_new {C : RC} {O : Owns} {h : Heap} (W : Owned C O h) {vs : List PV} {xs : List Value} (hl : RepL C h vs xs) :
    Rep C (h.push { cls := .type "list", data := .seq xs.toArray }) (.list vs) (.ref h.objs.size) :=
  rep_list W.fresh ⟨_, Heap.get?_push_size _ rfl⟩ (hl.keep (.push _ _))
theorem rep_newT {C : RC} {O : Owns} {h : Heap} (W : Owned C O h) {vs : List PV} {xs : List Value} (hl : RepL C h vs xs) :
    Rep C (h.push { cls := .type "tuple", data := .seq xs.toArray }) (.tup vs) (.ref h.objs.size) := by
  simp only [Rep]
  exact ⟨_, xs.toArray, rfl, W.fresh, ⟨_, Heap.get?_push_size _ rfl, rfl, _, rfl⟩, hl.keep (.push _ _)⟩

theorem str_len (s : Str) : s.length = s.cps.toList.length := by simp [Str.length]
theorem lim_size : LIM ≤ sizeLine := by rw [sizeLine_eq]; decide

theorem foldl_replicate {α : Type} (xs : Array α) : ∀ n : Nat, ∀ acc : Array α, ((List.replicate n xs).foldl (fun a b => a ++ b) acc).toList = acc.toList ++ (List.replicate n xs.toList).flatten
  | 0, acc => by simp
  | n + 1, acc => by
    rw [List.replicate_succ, List.foldl_cons, foldl_replicate xs n]
    simp [List.replicate_succ]

theorem RepL.flatrep {C : RC} {h : Heap} {vs : List PV} {xs : List Value} (r : RepL C h vs xs) : ∀ n : Nat, RepL C h (List.replicate n vs).flatten (List.replicate n xs).flatten
  | 0 => by simp [RepL]
  | n + 1 => by
    rw [List.replicate_succ, List.replicate_succ, List.flatten_cons, List.flatten_cons]
    exact r.append (RepL.flatrep r n)

section
variable {prog : Program} {w : World} {A : Around} {s : Shared} {C : RC} {O : Owns} {n : Nat}

theorem mul_listP {l : Addr} {items : Array Value} {x : Int} {u : Tok} {Q : Value → Shared → Prop} {E : Value → Shared → Prop}
    (hl : s.heap.PlainList l items) (hlo : -(2 ^ 63 : Int) ≤ x) (hhi : x < 2 ^ 63) (hsz : items.size * x.toNat ≤ 2 ^ 24)
    (h : Q (.ref s.heap.objs.size) { s with heap := s.heap.push { cls := .type "list", data := .seq (List.foldl (fun x1 x2 => x1 ++ x2) #[] (List.replicate (if items.isEmpty = true then 0 else x.toNat) items)) } }) :
    wpAny (model prog w) A (binaryOp .Mult (.ref l) (.int x u)) Q E s := by
  obtain ⟨k, hl⟩ := hl
  exact wpAny_binaryOp_repeat_ref (T := "list") (U := "int") (by decide) ⟨_, hl, rfl⟩ (fun s' => typeIs_int s' x u) noFill_list_mul F.fills_int_mul F.slot_int_rmul repeat_list F.slot_int_index.lookup
    (call_meets F.slot_int_rmul (typeIs_int s x u) F.entry_int_rmul (F.args_int_rmul_2 _ _) (int___rmul___int_list x u l items k)
      ⟨hl, rfl, ⟨_, hl, rfl⟩, call_meets F.slot_list_mul ⟨_, hl, rfl⟩ F.entry_list_mul (F.args_list_mul_2 _ _)
        (AutoListH.list___mul___list_int_3 l items k x u (by simp [Builtin.List.listFitsIndex]; omega) (by omega) (by simp [Builtin.List.listTooLong, sizeLine]; omega))
        ⟨hl, h⟩⟩)

theorem mul_str_ok {x : Str} {t u : Tok} {b : Int} (hb : b.natAbs ≤ 4096) (hl : x.cps.toList.length ≤ 256) :
    wpAny (model prog w) A (binaryOp .Mult (.str x t) (.int b u)) (Post C s (.str (prepeat x.cps.toList b))) noE s := by
  have hl' : x.length ≤ 256 := by rw [str_len]; exact hl
  refine SB.mul ⟨by simp only [Bool.or_eq_false_iff, decide_eq_false_iff_not]; omega, fun h1 h2 => ?_, fun h1 h2 => ?_⟩ (fun t' k => ⟨kp, rep_str' ?_⟩)
  · have : (x.length : Int) ≤ (2 ^ 63 - 1) / b := by
      apply Int.le_ediv_of_mul_le (by omega)
      have h3 : (x.length : Int) * b ≤ 256 * 4096 := Int.mul_le_mul (by omega) (by omega) (by omega) (by omega)
      omega
    omega
  · have h3 : x.length * b.toNat ≤ 256 * 4096 := Nat.mul_le_mul hl' (by omega)
    simp [Builtin.Str.tooLong, sizeLine]; omega
  · unfold Txt.mul prepeat
    split
    · rename_i h; rw [show b.toNat = 0 by omega]; rfl
    · rename_i h
      split
      · rename_i h2
        simp only [Bool.or_eq_true, beq_iff_eq] at h2
        rcases h2 with h2 | h2
        · subst h2; simp
        · have : x.cps.toList = [] := by
            rw [str_len] at h2; exact List.length_eq_zero_iff.mp h2
          rw [this]; simp
      · rw [foldl_replicate]; simp

theorem bin_ok {o : Operator} {op : PBin} (hop : cBin o = some op) {x y r : PV} {u v : Value} (hr : pbin O op x y = some r) (hx : Rep C s.heap x u) (hy : Rep C s.heap y v) (W : Owned C O s.heap) :
    wpAny (model prog w) A (binaryOp o u v) (Post C s r) noE s := by
  have hlist : ∀ {x y : PV} {u v : Value} {a b : List PV}, asL O x = some a → asL O y = some b → a.length + b.length ≤ LIM → Rep C s.heap x u → Rep C s.heap y v →
      wpAny (model prog w) A (binaryOp .Add u v) (Post C s (.list (a ++ b))) noE s := by
    intro x y u v a b ha hb hsz hx hy
    obtain ⟨p, xs, rfl, ⟨m, hp⟩, hl⟩ := asL_rep W ha hx
    obtain ⟨q, ys, rfl, ⟨m', hq⟩, hl'⟩ := asL_rep W hb hy
    have e1 := hl.length; have e2 := hl'.length
    simp only [Array.length_toList] at e1 e2
    refine P.add_list hp hq ⟨kpush, ?_⟩ (by rw [e1, e2]; exact Nat.le_trans hsz lim_size)
    have e : xs ++ ys = (xs.toList ++ ys.toList).toArray := by simp
    rw [e]
    exact rep_new W (hl.append hl')
  have hmul : ∀ {x : PV} {u : Value} {a : List PV} {b : Int} {t : Tok}, asL O x = some a → b.natAbs ≤ 256 ∧ a.length ≤ 4096 → Rep C s.heap x u →
      wpAny (model prog w) A (binaryOp .Mult u (.int b t)) (Post C s (.list (prepeat a b))) noE s := by
    intro x u a b t ha hsz hx
    obtain ⟨p, xs, rfl, hp, hl⟩ := asL_rep W ha hx
    have e1 := hl.length
    simp only [Array.length_toList] at e1
    have hb : b.toNat ≤ 256 := by omega
    have hm : xs.size * b.toNat ≤ 4096 * 256 := Nat.mul_le_mul (by omega) hb
    refine mul_listP hp (by omega) (by omega) (by omega) ⟨kpush, ?_⟩
    have e : List.foldl (fun x1 x2 => x1 ++ x2) #[] (List.replicate (if xs.isEmpty = true then 0 else b.toNat) xs) = ((List.replicate b.toNat xs.toList).flatten).toArray := by
      apply Array.ext'
      rw [foldl_replicate]
      by_cases hem : xs.isEmpty = true
      · have : xs = #[] := by simpa using hem
        subst this
        simp
      · rw [if_neg hem]; simp
    rw [e]
    exact rep_new W (hl.flatrep _)
  unfold pbin at hr
  split at hr
  all_goals (cases o <;> simp only [cBin, Option.some.injEq, reduceCtorEq] at hop)
  all_goals (try (simp only [Rep] at hx hy; obtain ⟨_, rfl⟩ := hx; obtain ⟨_, rfl⟩ := hy))
  · cases hr; exact add_int ⟨kp, rep_int⟩
  · cases hr; exact sub_int ⟨kp, rep_int⟩
  · split at hr
    · cases hr; exact mul_int ⟨kp, rep_int⟩ (IntMulOk.of_right (intBits_le_64 (by omega) (by omega)))
    · cases hr
  · split at hr
    · rename_i hb
      cases hr; exact floordiv_int hb.1 ⟨kp, rep_int⟩ (.inl (PyProof.noPylong_small hb.2))
    · cases hr
  · split at hr
    · rename_i hb
      cases hr; exact mod_int hb.1 ⟨kp, rep_int⟩
    · cases hr
  · split at hr
    · rename_i hb
      cases hr; exact pow_int_small hb.1 (by omega) (by omega) ⟨kp, rep_int⟩
    · cases hr
  · split at hr
    · rename_i hb
      cases hr
      simp only [Rep] at hx hy
      obtain ⟨x, t, rfl, rfl⟩ := hx
      obtain ⟨y, t', rfl, rfl⟩ := hy
      refine add_str (fun t' tk => ⟨kp, rep_str' ?_⟩) (by rw [str_len, str_len]; exact Nat.le_trans hb lim_size)
      show (Str.append x y).cps.toList = _
      simp [Str.append]
    · cases hr
  · split at hr
    · rename_i hb
      cases hr
      simp only [Rep] at hx hy
      obtain ⟨x, t, rfl, rfl⟩ := hx
      obtain ⟨t', rfl⟩ := hy
      exact mul_str_ok hb.1 hb.2
    · cases hr
  · split at hr
    · split at hr
      · cases hr; exact hlist ‹_› ‹_› ‹_› hx hy
      · cases hr
    · cases hr
  · simp only [Rep] at hy
    obtain ⟨t, rfl⟩ := hy
    split at hr
    · split at hr
      · cases hr; exact hmul ‹_› ‹_› hx
      · cases hr
    · cases hr
  all_goals cases hr
end
end Mine

namespace Mine

theorem pisIn_iff (y : List Nat) : ∀ x : List Nat, pisIn y x = true ↔ ∃ i, i + y.length ≤ x.length ∧ (x.drop i).take y.length = y
  | [] => by
    simp only [pisIn, List.isEmpty_iff]
    constructor
    · rintro rfl; exact ⟨0, by simp, by simp⟩
    · rintro ⟨i, h, _⟩; exact List.length_eq_zero_iff.mp (by have : i + y.length ≤ 0 := h; omega)
  | c :: r => by
    simp only [pisIn, Bool.or_eq_true, pisIn_iff y r, List.isPrefixOf_iff_prefix]
    constructor
    · rintro (⟨t, ht⟩ | ⟨i, h, e⟩)
      · refine ⟨0, by rw [← ht]; simp, by rw [← ht]; simp⟩
      · exact ⟨i + 1, by simp; omega, by simpa using e⟩
    · rintro ⟨i, h, e⟩
      cases i with
      | zero =>
        left
        refine ⟨(c :: r).drop y.length, ?_⟩
        have h2 := List.take_append_drop y.length (c :: r)
        rw [show List.take y.length (c :: r) = y by simpa using e] at h2
        exact h2
      | succ i => right; exact ⟨i, by simp at h; omega, by simpa using e⟩

theorem plt_eq : ∀ x y : List Nat, plt x y = decide (x < y)
  | _, [] => by simp [plt]
  | [], _ :: _ => by simp [plt]
  | a :: x, b :: y => by
    simp only [plt]
    rw [StrLaws.lt_cons_cons, plt_eq x y]
    by_cases h1 : a < b
    · simp [h1]
    · by_cases h2 : b < a
      · have : (a == b) = false := by simp; omega
        simp [h1, h2, this]
      · have : a = b := by omega
        subst this
        simp

mutual
theorem pveq_eqv : ∀ a b : PV, noStar a = true → noStar b = true → pveq a b = PyData.eqv (toPD a) (toPD b)
  | .none, b, _, hb => by cases b <;> first | rfl | simp [noStar] at hb
  | .bool x, b, _, hb => by cases b <;> first | rfl | simp [noStar] at hb
  | .int x, b, _, hb => by cases b <;> first | rfl | simp [noStar] at hb
  | .str x, b, _, hb => by
    cases b <;> first | rfl | simp [noStar] at hb | skip
    rename_i y
    simp only [pveq, toPD, PyData.eqv]
    rw [Bool.eq_iff_iff]; simp
  | .tup x, b, ha, hb => by
    cases b <;> first | rfl | simp [noStar] at hb | skip
    rename_i y
    simp only [pveq, toPD, PyData.eqv]
    exact pveqL_eqv x y (by simpa [noStar] using ha) (by simpa [noStar] using hb)
  | .list x, b, ha, hb => by
    cases b <;> first | rfl | simp [noStar] at hb | skip
    rename_i y
    simp only [pveq, toPD, PyData.eqv]
    exact pveqL_eqv x y (by simpa [noStar] using ha) (by simpa [noStar] using hb)
  | .star, b, ha, _ => by simp [noStar] at ha
  | .own k, b, ha, _ => by simp [noStar] at ha
  | .app k, b, ha, _ => by simp [noStar] at ha
theorem pveqL_eqv : ∀ a b : List PV, noStarL a = true → noStarL b = true → pveqL a b = PyData.eqvAll (toPDs a) (toPDs b)
  | [], [], _, _ => rfl
  | [], _ :: _, _, _ => rfl
  | _ :: _, [], _, _ => rfl
  | x :: xs, y :: ys, ha, hb => by
    simp only [noStarL, Bool.and_eq_true] at ha hb
    simp only [pveqL, toPDs, PyData.eqvAll]
    rw [pveq_eqv x y ha.1 hb.1, pveqL_eqv xs ys ha.2 hb.2]
end

mutual
theorem okD_spec : ∀ (n : Nat) (a : PV), okD n a = true → noStar a = true ∧ (toPD a).canLay0 = true ∧ (toPD a).depth ≤ n
  | _, .none, _ => by simp [noStar, toPD, PyData.canLay0, PyData.depth]
  | _, .bool _, _ => by simp [noStar, toPD, PyData.canLay0, PyData.depth]
  | _, .int _, _ => by simp [noStar, toPD, PyData.canLay0, PyData.depth]
  | _, .str l, h => by
    simp only [okD, decide_eq_true_eq, List.all_eq_true] at h
    simp [noStar, toPD, PyData.canLay0, PyData.depth, PyData.strOk]
    exact h
  | 0, .tup vs, h => by simp [okD] at h
  | 0, .list vs, h => by simp [okD] at h
  | n + 1, .tup vs, h => by
    have := okDs_spec n vs (by simpa [okD] using h)
    simp only [noStar, toPD, PyData.canLay0, PyData.depth]
    exact ⟨this.1, this.2.1, by omega⟩
  | n + 1, .list vs, h => by
    have := okDs_spec n vs (by simpa [okD] using h)
    simp only [noStar, toPD, PyData.canLay0, PyData.depth]
    exact ⟨this.1, this.2.1, by omega⟩
  | _, .star, h => by simp [okD] at h
  | _, .own k, h => by simp [okD] at h
  | _, .app k, h => by simp [okD] at h
theorem okDs_spec : ∀ (n : Nat) (a : List PV), okDs n a = true → noStarL a = true ∧ PyData.canLayAll0 (toPDs a) = true ∧ PyData.depthAll (toPDs a) ≤ n
  | n, [], _ => by simp [noStarL, toPDs, PyData.canLayAll0, PyData.depthAll]
  | n, p :: ps, h => by
    simp only [okDs, Bool.and_eq_true] at h
    have h1 := okD_spec n p h.1
    have h2 := okDs_spec n ps h.2
    simp only [noStarL, toPDs, PyData.canLayAll0, PyData.depthAll, Bool.and_eq_true]
    exact ⟨⟨h1.1, h2.1⟩, ⟨h1.2.1, h2.2.1⟩, by omega⟩
end

theorem okD_shaped {a : PV} (h : okD 8 a = true) : SeqAt.shaped (toPD a) = true := by
  obtain ⟨_, h2, h3⟩ := okD_spec 8 a h
  unfold SeqAt.shaped
  rw [h2, Bool.true_and, decide_eq_true_eq]; omega

theorem resO_rep {C : RC} {O : Owns} {h : Heap} (W : Owned C O h) {v : PV} {u : Value} (hs : okD 8 (resO O v) = true) (r : Rep C h v u) : ∃ as, Reads h u (toPD (resO O v)) as := by
  unfold resO at hs ⊢
  split at hs
  · rename_i k
    split at hs
    · rename_i vs e
      simp only [Rep] at r
      obtain ⟨a, ha, rfl⟩ := r
      obtain ⟨a', xs, h1, ⟨n, h2⟩, h3⟩ := W.own k _ e
      rw [ha] at h1; cases h1
      have hn := (okD_spec 8 _ hs).1
      obtain ⟨as, q⟩ := RepL.reads vs _ (by simpa [noStar] using hn) h3
      exact ⟨_, by simpa only [toPD] using Reads.list h2 rfl rfl q⟩
    · simp [okD] at hs
  · exact Rep.reads _ _ (okD_spec 8 _ hs).1 r

section
variable {prog : Program} {w : World} {A : Around} {s : Shared} {C : RC} {O : Owns} {n : Nat}

abbrev PostB (s : Shared) (b : Bool) : Value → Shared → Prop := fun v s' => Keeps s s' ∧ v = .bool b

theorem peq_ok (R : Room n A) {x y : PV} {b : Bool} {u v : Value} (hr : peq O x y = some b) (hx : Rep C s.heap x u) (hy : Rep C s.heap y v) (W : Owned C O s.heap) :
    wpAny (model prog w) A (compareOp .Eq u v) (PostB s b) noE s ∧ wpAny (model prog w) A (compareOp .NotEq u v) (PostB s (!b)) noE s := by
  unfold peq at hr
  split at hr
  · simp only [Rep] at hx hy
    obtain ⟨_, rfl⟩ := hx; obtain ⟨_, rfl⟩ := hy
    cases hr
    exact ⟨eq_int ⟨krefl s, rfl⟩, ne_int ⟨krefl s, rfl⟩⟩
  · simp only [Rep] at hx hy
    obtain ⟨_, _, rfl, rfl⟩ := hx; obtain ⟨_, _, rfl, rfl⟩ := hy
    cases hr
    exact ⟨P.eq_str ⟨krefl s, rfl⟩, P.ne_str ⟨krefl s, rfl⟩⟩
  · split at hr
    · rename_i h
      simp only [Bool.and_eq_true] at h
      cases hr
      obtain ⟨as, r1⟩ := resO_rep W h.1 hx
      obtain ⟨bs, r2⟩ := resO_rep W h.2 hy
      have hu : A.units + 64 < cLine := by have := R.units; omega
      rw [pveq_eqv _ _ (okD_spec 8 _ h.1).1 (okD_spec 8 _ h.2).1]
      exact ⟨eq_dataH r1 r2 (okD_shaped h.1) (okD_shaped h.2) hu ⟨krefl s, rfl⟩, ne_dataH r1 r2 (okD_shaped h.1) (okD_shaped h.2) hu ⟨krefl s, rfl⟩⟩
    · cases hr

theorem in_strP {x y : Str} {t u : Tok} : wpAny (model prog w) A (compareOp .In (.str y u) (.str x t)) (PostB s (pisIn y.cps.toList x.cps.toList)) noE s ∧
    wpAny (model prog w) A (compareOp .NotIn (.str y u) (.str x t)) (PostB s (!pisIn y.cps.toList x.cps.toList)) noE s := by
  have e : pisIn y.cps.toList x.cps.toList = !(Builtin.Str.occurrences x y 0 x.length 1).isEmpty := by
    rw [Bool.eq_iff_iff, pisIn_iff, StrLaws.found_iff]
    constructor
    · rintro ⟨i, h, q⟩
      refine ⟨i, by rw [str_len, str_len]; exact h, ?_⟩
      rw [StrLaws.subAt_eq, str_len]; simpa using q
    · rintro ⟨i, h, q⟩
      rw [StrLaws.subAt_eq, str_len] at q
      rw [str_len, str_len] at h
      exact ⟨i, h, by simpa using q⟩
  rw [e]
  exact ⟨in_str ⟨krefl s, rfl⟩, notIn_str ⟨krefl s, rfl⟩⟩

theorem any_eqv {vs : List PV} {a : PV} (hv : noStarL vs = true) (ha : noStar a = true) : (vs.any fun y => pveq y a) = (toPDs vs).any fun y => PyData.eqv y (toPD a) := by
  induction vs with
  | nil => rfl
  | cons p ps ih =>
    simp only [noStarL, Bool.and_eq_true] at hv
    simp only [List.any_cons, toPDs]
    rw [ih hv.2, pveq_eqv p a hv.1 ha]

theorem pin_ok (R : Room n A) {x y : PV} {b : Bool} {u v : Value} (hr : pin O x y = some b) (hx : Rep C s.heap x u) (hy : Rep C s.heap y v) (W : Owned C O s.heap) :
    wpAny (model prog w) A (compareOp .In u v) (PostB s b) noE s ∧ wpAny (model prog w) A (compareOp .NotIn u v) (PostB s (!b)) noE s := by
  have hu := R.units
  unfold pin at hr
  split at hr
  · simp only [Rep] at hx hy
    obtain ⟨_, _, rfl, rfl⟩ := hx; obtain ⟨_, _, rfl, rfl⟩ := hy
    cases hr
    exact in_strP
  · split at hr
    · rename_i h
      simp only [Bool.and_eq_true] at h
      cases hr
      have h1 := okDs_spec 8 _ h.1
      have h2 := okD_spec 8 _ h.2
      obtain ⟨as, r1⟩ := Rep.reads _ _ (by simpa [noStar] using h1.1) hy
      obtain ⟨bs, r2⟩ := Rep.reads _ _ h2.1 hx
      simp only [toPD] at r1
      rw [any_eqv h1.1 h2.1]
      exact ⟨SeqAt.in_tuple_reads r1 r2 h1.2.1 h2.2.1 (by omega) ⟨krefl s, rfl⟩, SeqAt.notIn_tuple_reads r1 r2 h1.2.1 h2.2.1 (by omega) ⟨krefl s, rfl⟩⟩
    · cases hr
  · split at hr
    · rename_i vs e
      split at hr
      · rename_i h
        simp only [Bool.and_eq_true] at h
        cases hr
        have h1 := okDs_spec 8 _ h.1
        have h2 := okD_spec 8 _ h.2
        obtain ⟨a, xs, rfl, ⟨m, hp⟩, hl⟩ := asL_rep W e hy
        obtain ⟨as, q⟩ := RepL.reads _ _ h1.1 hl
        obtain ⟨bs, r2⟩ := Rep.reads _ _ h2.1 hx
        have r1 : Reads s.heap (.ref a) (.list (toPDs vs)) (a :: as) := Reads.list hp rfl rfl q
        rw [any_eqv h1.1 h2.1]
        exact ⟨SeqAt.in_list_reads r1 r2 h1.2.1 h2.2.1 (by omega) ⟨krefl s, rfl⟩, SeqAt.notIn_list_reads r1 r2 h1.2.1 h2.2.1 (by omega) ⟨krefl s, rfl⟩⟩
      · cases hr
    · cases hr

theorem pis_ok {x y : PV} {b : Bool} {u v : Value} (hr : pis x y = some b) (hx : Rep C s.heap x u) (hy : Rep C s.heap y v) :
    wpAny (model prog w) A (compareOp .Is u v) (PostB s b) noE s ∧ wpAny (model prog w) A (compareOp .IsNot u v) (PostB s (!b)) noE s := by
  unfold pis at hr
  have key : ∀ {u v : Value}, plainIs u v = true → u ≠ v → wpAny (model prog w) A (compareOp .Is u v) (PostB s false) noE s ∧ wpAny (model prog w) A (compareOp .IsNot u v) (PostB s (!false)) noE s :=
    fun h1 h2 => ⟨wpAny_is_other h1 h2 ⟨krefl s, rfl⟩, wpAny_isNot_other h1 h2 ⟨krefl s, rfl⟩⟩
  split at hr <;> (try simp only [Rep] at hx) <;> (try simp only [Rep] at hy)
  · subst hx; subst hy; cases hr
    exact ⟨wpAny_is_ref_self ⟨krefl s, rfl⟩, wpAny_isNot_ref_self ⟨krefl s, rfl⟩⟩
  · obtain ⟨_, _, rfl, _⟩ := hy; subst hx; cases hr
    exact key rfl (by simp)
  · obtain ⟨_, _, rfl, _⟩ := hx; subst hy; cases hr
    exact key rfl (by simp)
  · subst hx; subst hy; cases hr
    exact ⟨wpAny_is_self rfl ⟨krefl s, rfl⟩, wpAny_isNot_self rfl ⟨krefl s, rfl⟩⟩
  · subst hx; subst hy; cases hr
    exact key rfl (by simp)
  · obtain ⟨_, rfl⟩ := hx; subst hy; cases hr
    exact key rfl (by simp)
  · obtain ⟨_, _, rfl, _⟩ := hx; subst hy; cases hr
    exact key rfl (by simp)
  · obtain ⟨_, _, rfl, _⟩ := hx; subst hy; cases hr
    exact key rfl (by simp)
  · obtain ⟨_, _, rfl, _⟩ := hx; subst hy; cases hr
    exact key rfl (by simp)
  · obtain ⟨_, _, rfl⟩ := hx; subst hy; cases hr
    exact key rfl (by simp)
  · cases hr

theorem cmp_ok (R : Room n A) {o : CmpOp} {x y : PV} {b : Bool} {u v : Value} (hr : pcmp O (cCmp o) x y = some b) (hx : Rep C s.heap x u) (hy : Rep C s.heap y v) (W : Owned C O s.heap) :
    wpAny (model prog w) A (compareOp o u v) (PostB s b) noE s := by
  cases o <;> simp only [cCmp, pcmp] at hr
  · exact (peq_ok R hr hx hy W).1
  · obtain ⟨b', e, rfl⟩ := Option.map_eq_some_iff.mp hr
    exact (peq_ok R e hx hy W).2
  · split at hr
    · simp only [Rep] at hx hy
      obtain ⟨_, rfl⟩ := hx; obtain ⟨_, rfl⟩ := hy; cases hr
      exact lt_int ⟨krefl s, rfl⟩
    · simp only [Rep] at hx hy
      obtain ⟨_, _, rfl, rfl⟩ := hx; obtain ⟨_, _, rfl, rfl⟩ := hy; cases hr
      rw [plt_eq]; exact P.lt_str ⟨krefl s, rfl⟩
    · cases hr
  · split at hr
    · simp only [Rep] at hx hy
      obtain ⟨_, rfl⟩ := hx; obtain ⟨_, rfl⟩ := hy; cases hr
      exact le_int ⟨krefl s, rfl⟩
    · simp only [Rep] at hx hy
      obtain ⟨_, _, rfl, rfl⟩ := hx; obtain ⟨_, _, rfl, rfl⟩ := hy; cases hr
      rw [plt_eq]; exact P.le_str ⟨krefl s, rfl⟩
    · cases hr
  · split at hr
    · simp only [Rep] at hx hy
      obtain ⟨_, rfl⟩ := hx; obtain ⟨_, rfl⟩ := hy; cases hr
      exact gt_int ⟨krefl s, rfl⟩
    · simp only [Rep] at hx hy
      obtain ⟨_, _, rfl, rfl⟩ := hx; obtain ⟨_, _, rfl, rfl⟩ := hy; cases hr
      rw [plt_eq]; exact P.gt_str ⟨krefl s, rfl⟩
    · cases hr
  · split at hr
    · simp only [Rep] at hx hy
      obtain ⟨_, rfl⟩ := hx; obtain ⟨_, rfl⟩ := hy; cases hr
      exact ge_int ⟨krefl s, rfl⟩
    · simp only [Rep] at hx hy
      obtain ⟨_, _, rfl, rfl⟩ := hx; obtain ⟨_, _, rfl, rfl⟩ := hy; cases hr
      rw [plt_eq]; exact P.ge_str ⟨krefl s, rfl⟩
    · cases hr
  · exact (pis_ok hr hx hy).1
  · obtain ⟨b', e, rfl⟩ := Option.map_eq_some_iff.mp hr
    exact (pis_ok e hx hy).2
  · exact (pin_ok R hr hx hy W).1
  · obtain ⟨b', e, rfl⟩ := Option.map_eq_some_iff.mp hr
    exact (pin_ok R e hx hy W).2
end
end Mine

namespace Mine

theorem pidx_eq {α : Type} (l : List α) (i : Int) : pidx l i = (seqIndex? i l.length).bind (l[·]?) := by
  unfold pidx seqIndex?
  by_cases h : 0 ≤ i
  · rw [if_pos h]
    simp only [show ¬ i < 0 by omega, if_false]
    split
    · simp
    · rename_i h2
      simp only [Bool.and_eq_true, decide_eq_true_eq] at h2
      simp only [Option.bind_none, List.getElem?_eq_none_iff]
      omega
  · rw [if_neg h]
    simp only [show i < 0 by omega, if_true]
    split
    · rename_i h2
      rw [if_pos (by simp; omega)]
      simp
    · rename_i h2
      rw [if_neg (by simp; omega)]
      simp

theorem slice_core {α : Type} (l : List α) (a b : Nat) (hb : b ≤ l.length) : (sliceRange (a : Int) (b : Int) 1).filterMap (l[·]?) = (l.take b).drop a := by
  unfold sliceRange
  simp only [show (1 : Int) > 0 by omega, if_true]
  by_cases h : (a : Int) < b
  · rw [if_pos h]
    have e : (((b : Int) - a + 1 - 1) / 1).toNat = b - a := by rw [Int.ediv_one]; omega
    rw [e]
    have e2 : (List.range (b - a)).map (fun (k : Nat) => ((a : Int) + 1 * (k : Int)).toNat) = (List.range (b - a)).map (fun k => a + k) := by
      apply List.map_congr_left
      intro k _
      omega
    rw [e2, StrLaws.picks l (b - a) a (by omega), List.drop_take]
  · rw [if_neg h]
    simp only [Int.toNat_zero, List.range_zero, List.map_nil, List.filterMap_nil]
    symm
    rw [List.drop_eq_nil_iff]
    simp; omega

theorem clip_eq (n : Nat) (i : Int) : max 0 (min (if i < 0 then i + n else i) (n : Int)) = (pclamp n i : Int) := by
  unfold pclamp
  split <;> omega
theorem pclamp_le (n : Nat) (i : Int) : pclamp n i ≤ n := by unfold pclamp; split <;> omega

theorem slice_list_eq (l : List Value) (lo hi : Option Int) : (slicePick l.toArray lo hi none) = (pslice l lo hi).toArray := by
  unfold slicePick sliceBounds pslice
  simp only [Option.getD_none, show (1 : Int) > 0 by omega, if_true, List.size_toArray]
  congr 1
  cases lo <;> cases hi <;> simp only [clip_eq, plo, phi]
  · simpa using slice_core l 0 l.length (Nat.le_refl _)
  · rename_i i; simpa using slice_core l 0 (pclamp l.length i) (pclamp_le _ _)
  · rename_i i; simpa using slice_core l (pclamp l.length i) l.length (Nat.le_refl _)
  · rename_i i k; simpa using slice_core l (pclamp l.length i) (pclamp l.length k) (pclamp_le _ _)

theorem slice_str_eq (x : Str) (lo hi : Option Int) : (Builtin.Str.strSliceIndices lo hi 1 x.length).filterMap (x.cps[·]?) = pslice x.cps.toList lo hi := by
  unfold Builtin.Str.strSliceIndices pslice
  simp only [show (1 : Int) > 0 by omega, if_true, str_len]
  have e : (fun i : Nat => x.cps[i]?) = fun i => x.cps.toList[i]? := by funext i; simp
  rw [e]
  generalize x.cps.toList = l
  cases lo <;> cases hi <;> simp only [clip_eq, plo, phi]
  · simpa using slice_core l 0 l.length (Nat.le_refl _)
  · rename_i i; simpa using slice_core l 0 (pclamp l.length i) (pclamp_le _ _)
  · rename_i i; simpa using slice_core l (pclamp l.length i) l.length (Nat.le_refl _)
  · rename_i i k; simpa using slice_core l (pclamp l.length i) (pclamp l.length k) (pclamp_le _ _)

theorem range_len (a b : Nat) : (sliceRange (a : Int) (b : Int) 1).length = b - a := by
  unfold sliceRange
  simp only [show (1 : Int) > 0 by omega, if_true, List.length_map, List.length_range, Int.ediv_one]
  split <;> omega

theorem slice_str_len (x : Str) (lo hi : Option Int) : (Builtin.Str.strSliceIndices lo hi 1 x.length).length = (pslice x.cps.toList lo hi).length := by
  unfold Builtin.Str.strSliceIndices pslice
  simp only [show (1 : Int) > 0 by omega, if_true, str_len]
  generalize x.cps.toList = l
  cases lo <;> cases hi <;> simp only [clip_eq, plo, phi, List.length_drop, List.length_take]
  · have := range_len 0 l.length; simp only [Int.natCast_zero] at this; omega
  · rename_i i; have := range_len 0 (pclamp l.length i); have := pclamp_le l.length i; simp only [Int.natCast_zero] at *; omega
  · rename_i i; have := range_len (pclamp l.length i) l.length; omega
  · rename_i i k; have := range_len (pclamp l.length i) (pclamp l.length k); have := pclamp_le l.length k; omega

theorem pslice_full {α : Type} (l : List α) (lo hi : Option Int) (h : (pslice l lo hi).length = l.length) : pslice l lo hi = l := by
  unfold pslice at h ⊢
  generalize phi l.length hi = b at h ⊢
  generalize plo l.length lo = a at h ⊢
  rw [List.length_drop, List.length_take] at h
  rcases Nat.eq_zero_or_pos l.length with h0 | h0
  · have : l = [] := List.length_eq_zero_iff.mp h0
    subst this; simp
  · have ha : a = 0 := by omega
    have hb : l.length ≤ b := by omega
    subst ha
    rw [List.take_of_length_le hb]; rfl

theorem txt_slice (x : Str) (lo hi : Option Int) : (Txt.slice x lo hi).cps.toList = pslice x.cps.toList lo hi := by
  unfold Txt.slice
  split
  · rename_i h
    simp only [Bool.and_eq_true, beq_iff_eq] at h
    rw [slice_str_len, str_len] at h
    exact (pslice_full _ _ _ h.2).symm
  · exact slice_str_eq x lo hi

theorem isEmpty_of {xs : Array Value} {l : List PV} (e : xs.size = l.length) : (!xs.isEmpty) = !l.isEmpty := by
  cases l <;> simp_all [Array.isEmpty]

section
variable {prog : Program} {w : World} {A : Around} {s : Shared} {C : RC} {O : Owns} {n : Nat}

abbrev PostT (s : Shared) (b : Bool) : Bool → Shared → Prop := fun v s' => Keeps s s' ∧ v = b

theorem kp2 {s : Shared} {k : Nat} : Keeps s { s with toks := k } := kp

theorem truth_ok {x : PV} {b : Bool} {u : Value} (hr : ptruth O x = some b) (hx : Rep C s.heap x u) (W : Owned C O s.heap) : wpAny (model prog w) A (truthy u) (PostT s b) noE s := by
  have hL := lim_size
  unfold ptruth at hr
  split at hr
  · simp only [Rep] at hx; subst hx; cases hr
    exact wpAny_pure ⟨krefl s, rfl⟩
  · simp only [Rep] at hx; subst hx; cases hr
    exact wpAny_truthy_bool ⟨krefl s, rfl⟩
  · simp only [Rep] at hx; obtain ⟨t, rfl⟩ := hx; cases hr
    refine P.truthy_int ⟨krefl s, ?_⟩
    rw [Bool.eq_iff_iff]; simp
  · split at hr
    · rename_i h
      simp only [Rep] at hx; obtain ⟨y, t, rfl, rfl⟩ := hx; cases hr
      have h' : y.length ≤ 1048576 := by rw [str_len]; exact h
      refine P.truthy_str (by omega) ⟨kp, ?_⟩
      rw [Bool.eq_iff_iff, str_len]
      simp [List.isEmpty_iff]
    · cases hr
  · split at hr
    · rename_i h
      simp only [Rep] at hx; obtain ⟨a, xs, rfl, _, ht, hl⟩ := hx; cases hr
      have e := hl.length
      simp only [Array.length_toList] at e
      have h' : xs.size ≤ 1048576 := by rw [e]; exact h
      refine truthy_tuple ht (by omega) ⟨kp, ?_⟩
      exact isEmpty_of e
    · cases hr
  · obtain ⟨l, e, hr⟩ := Option.bind_eq_some_iff.mp hr
    split at hr
    · rename_i h
      cases hr
      obtain ⟨a, xs, rfl, hp, hl⟩ := asL_rep W e hx
      have e := hl.length
      simp only [Array.length_toList] at e
      have h' : xs.size ≤ 1048576 := by rw [e]; exact h
      refine wpAny_truthy_list hp.isList (by omega) ⟨kp, ?_⟩
      exact isEmpty_of e
    · cases hr

theorem item_ok {x y r : PV} {u v : Value} (hr : pitem O x y = some r) (hx : Rep C s.heap x u) (hy : Rep C s.heap y v) (W : Owned C O s.heap) :
    wpAny (model prog w) A (getItem u v) (Post C s r) noE s := by
  unfold pitem at hr
  split at hr
  · split at hr
    · rename_i h
      simp only [Rep] at hx hy; obtain ⟨z, t, rfl, rfl⟩ := hx; obtain ⟨t', rfl⟩ := hy
      obtain ⟨c, e, rfl⟩ := Option.map_eq_some_iff.mp hr
      rw [pidx_eq, ← str_len] at e
      refine getItem_str (by simp; omega) (by simpa using e) ⟨kp, rep_str' rfl⟩
    · cases hr
  · split at hr
    · rename_i h
      simp only [Rep] at hx hy; obtain ⟨a, xs, rfl, _, ht, hl⟩ := hx; obtain ⟨t', rfl⟩ := hy
      rw [pidx_eq] at hr
      obtain ⟨j, e1, e2⟩ := Option.bind_eq_some_iff.mp hr
      have e := hl.length
      simp only [Array.length_toList] at e
      obtain ⟨q, e3, rq⟩ := hl.at j _ e2
      rw [← e] at e1
      exact getItem_tuple ht (by omega) (by omega) e1 (by simpa using e3) ⟨krefl s, rq⟩
    · cases hr
  · split at hr
    · rename_i h
      obtain ⟨l, el, hr⟩ := Option.bind_eq_some_iff.mp hr
      obtain ⟨a, xs, rfl, hp, hl⟩ := asL_rep W el hx
      simp only [Rep] at hy; obtain ⟨t', rfl⟩ := hy
      have e := hl.length
      simp only [Array.length_toList] at e
      unfold pidx at hr
      split at hr
      · obtain ⟨q, e3, rq⟩ := hl.at _ _ hr
        exact wpAny_getItem_list hp.isList (by assumption) (by omega) (by simpa using e3) ⟨krefl s, rq⟩
      · split at hr
        · obtain ⟨q, e3, rq⟩ := hl.at _ _ hr
          exact wpAny_getItem_list_neg hp.isList (by omega) (by omega) (by omega) (by rw [e]; simpa using e3) ⟨krefl s, rq⟩
        · cases hr
    · cases hr
  · cases hr

theorem rep_part {x : PV} {p : Option Int} {u : Value} {h : Heap} (hp : ppart x = some p) (r : Rep C h x u) : IsPart u p ∧ ∃ q : Option (Int × Tok), u = partValue q ∧ q.map (·.1) = p := by
  unfold ppart at hp
  split at hp
  · simp only [Rep] at r; subst r; cases hp; exact ⟨.none, none, rfl, rfl⟩
  · simp only [Rep] at r; obtain ⟨t, rfl⟩ := r; cases hp; exact ⟨.int _ t, some (_, t), rfl, rfl⟩
  · cases hp

theorem made_slice {x : Str} {t : Tok} {l u : Option (Int × Tok)} {Q : Value → Shared → Prop} {s : Shared} (hsz : x.length ≤ sizeLine)
    (h : ∀ (y : Str) t' k, y.cps.toList = pslice x.cps.toList (l.map (·.1)) (u.map (·.1)) → Q (.str y t') { s with toks := k }) : (sliceMade x t l u none).post Q s := by
  unfold sliceMade slicePicked
  simp only [Option.map_none, Option.getD_none]
  refine post_val_or_str ⟨?_, fun t' k => ?_⟩
  · show (Txt.slice x (l.map (·.1)) (u.map (·.1))).length ≤ _
    exact Nat.le_trans (Txt.slice_le x _ _) hsz
  · exact h (Txt.slice x (l.map (·.1)) (u.map (·.1))) t' k (txt_slice _ _ _)

theorem slc_ok {x y z r : PV} {u v v2 : Value} {sl : Addr} (hr : pslc O x y z = some r) (hx : Rep C s.heap x u) (hy : Rep C s.heap y v) (hz : Rep C s.heap z v2) (W : Owned C O s.heap)
    (hsl : s.heap.IsSliceOf sl v v2 .none) : wpAny (model prog w) A (getItem u (.ref sl)) (Post C s r) noE s := by
  have hL := lim_size
  unfold pslc at hr
  split at hr
  · rename_i lo hi elo ehi
    obtain ⟨p1, q1, rfl, f1⟩ := rep_part elo hy
    obtain ⟨p2, q2, rfl, f2⟩ := rep_part ehi hz
    split at hr
    · split at hr
      · rename_i h
        simp only [Rep] at hx; obtain ⟨t, k, rfl, rfl⟩ := hx
        cases hr
        refine wpAny_getItem_str_slice (l := q1) (u := q2) (st := none) hsl rfl ?_
        refine made_slice (by rw [str_len]; exact Nat.le_trans h hL) fun y t' k e => ⟨kp, rep_str' (by rw [e, f1, f2])⟩
      · cases hr
    · split at hr
      · split at hr
        · rename_i h
          simp only [Rep] at hx; obtain ⟨a, xs, rfl, _, ht, hl⟩ := hx
          cases hr
          have e := hl.length
          simp only [Array.length_toList] at e
          cases q1 with
          | none => simp at f1
          | some q1 =>
            cases q2 with
            | some _ => simp at f2
            | none =>
              obtain ⟨i, tk⟩ := q1
              simp only [Option.map_some, Option.some.injEq] at f1
              subst f1
              obtain ⟨j, rfl⟩ := Int.eq_ofNat_of_zero_le (show 0 ≤ i by omega)
              refine getItem_tuple_from ht (sl := sl) (u := tk) hsl (by omega) (by omega) ⟨kpush, ?_⟩ (by omega)
              exact rep_newT W (hl.drop j)
        · cases hr
      · cases hr
    · split at hr
      · rename_i l el
        split at hr
        · rename_i h
          cases hr
          obtain ⟨a, xs, rfl, hp, hl⟩ := asL_rep W el hx
          have e := hl.length
          simp only [Array.length_toList] at e
          refine wpAny_getItem_list_slice hp.isList hsl p1 p2 .none (by simp) ⟨kpush, ?_⟩ (by omega)
          have e2 : slicePick xs lo hi none = (pslice xs.toList lo hi).toArray := by rw [← slice_list_eq]
          rw [e2]
          refine rep_new W ?_
          have e3 : xs.toList.length = l.length := hl.length
          unfold pslice
          rw [e3]
          exact (hl.take _).drop _
        · cases hr
      · cases hr
  · cases hr
end
end Mine

namespace Mine
open StrLaws

theorem at_prefix (x y : Str) (i : Nat) : (y.cps.toList.isPrefixOf (x.cps.toList.drop i) = true) ↔ (i + y.length ≤ x.length ∧ Builtin.Str.subAt x y i = true) ∨ (y.length = 0) := by
  rw [StrLaws.subAt_eq, str_len, str_len, List.isPrefixOf_iff_prefix]
  generalize x.cps.toList = l
  generalize y.cps.toList = p
  constructor
  · rintro ⟨t, ht⟩
    by_cases h0 : p.length = 0
    · right; exact h0
    · left
      have h1 : p.length ≤ (l.drop i).length := by rw [← ht]; simp
      rw [List.length_drop] at h1
      exact ⟨by omega, by rw [← ht]; simp⟩
  · rintro (⟨h1, h2⟩ | h)
    · simp only [beq_iff_eq] at h2
      have := List.take_append_drop p.length (l.drop i)
      rw [h2] at this
      exact ⟨_, this⟩
    · have : p = [] := List.length_eq_zero_iff.mp h
      subst this; simp

theorem split_loop (x y : Str) (hy : y.length ≠ 0) : ∀ (k i : Nat) (found : Array Nat) (free a : Nat), i + k = x.length + 1 → found.size ≤ i → ((free ≤ i ∧ a ≤ i) ∨ (a = free ∧ i ≤ free ∧ free ≤ x.length)) →
    ∃ cuts, (forIn (List.range' i k) (found, free) (occBody x y x.length (x.length + 1))).run.fst.toList = found.toList ++ cuts ∧
      (partsFrom x y.length a cuts).map (·.cps.toList) = psplitGo y.cps.toList (free - i) ((x.cps.toList.drop a).take (i - a)).reverse (x.cps.toList.drop i)
  | 0, i, found, free, a, hi, hf, ha => by
    have hn : x.cps.toList.length = x.length := (str_len x).symm
    refine ⟨[], by simp, ?_⟩
    have h1 : x.cps.toList.drop i = [] := List.drop_eq_nil_iff.mpr (by omega)
    rw [h1]
    simp only [partsFrom, List.map_cons, List.map_nil, strSub_toList]
    rw [List.take_of_length_le (by rw [List.length_drop]; omega), List.take_of_length_le (by rw [List.length_drop]; omega)]
    cases free - i <;> simp [psplitGo]
  | k + 1, i, found, free, a, hi, hf, ha => by
    have hn : x.cps.toList.length = x.length := (str_len x).symm
    rw [List.range'_succ, List.forIn_cons]
    by_cases hc : ((found.size < x.length + 1 ∧ free ≤ i) ∧ i + y.length ≤ x.length) ∧ Builtin.Str.subAt x y i = true
    · have hb : occBody x y x.length (x.length + 1) i (found, free) = pure (ForInStep.yield (found.push i, i + y.length)) := by unfold occBody; rw [if_pos hc]
      obtain ⟨cuts, e1, e2⟩ := split_loop x y hy k (i + 1) (found.push i) (i + y.length) (i + y.length) (by omega) (by simp; omega) (.inr ⟨rfl, by omega, hc.1.2⟩)
      refine ⟨i :: cuts, ?_, ?_⟩
      · rw [hb]
        refine Eq.trans e1 ?_
        simp
      · have hlt : i < x.cps.toList.length := by omega
        have hp := (at_prefix x y i).mpr (.inl ⟨hc.1.2, hc.2⟩)
        rw [List.drop_eq_getElem_cons hlt] at hp ⊢
        rw [show free - i = 0 by omega]
        simp only [partsFrom, List.map_cons, psplitGo, hp, if_true, List.reverse_reverse, strSub_toList]
        rw [e2]
        rw [show i + y.length - (i + 1) = y.length - 1 by omega, show i + 1 - (i + y.length) = 0 by omega, ← str_len]
        simp
    · have hb : occBody x y x.length (x.length + 1) i (found, free) = pure (ForInStep.yield (found, free)) := by unfold occBody; rw [if_neg hc]
      have hb' : (forIn (i :: List.range' (i + 1) k) (found, free) (occBody x y x.length (x.length + 1))).run = (forIn (List.range' (i + 1) k) (found, free) (occBody x y x.length (x.length + 1))).run := by
        rw [List.forIn_cons, hb]; rfl
      rw [← List.forIn_cons, hb']
      by_cases hfi : free ≤ i
      · have hai : a ≤ i := by omega
        obtain ⟨cuts, e1, e2⟩ := split_loop x y hy k (i + 1) found free a (by omega) (by omega) (.inl ⟨by omega, by omega⟩)
        refine ⟨cuts, e1, ?_⟩
        rw [e2, show free - i = 0 by omega, show free - (i + 1) = 0 by omega]
        by_cases hlt : i < x.cps.toList.length
        · have hp : y.cps.toList.isPrefixOf (x.cps.toList.drop i) = false := by
            rw [Bool.eq_false_iff]
            intro hp
            rcases (at_prefix x y i).mp hp with h | h
            · exact hc ⟨⟨⟨by omega, hfi⟩, h.1⟩, h.2⟩
            · exact hy h
          rw [List.drop_eq_getElem_cons hlt] at hp
          conv => rhs; rw [List.drop_eq_getElem_cons hlt]
          simp only [psplitGo, hp, Bool.false_eq_true, if_false]
          congr 1
          rw [show i + 1 - a = (i - a) + 1 by omega, List.take_add_one, List.getElem?_drop, show a + (i - a) = i by omega, List.getElem?_eq_getElem hlt]
          simp
        · have h1 : x.cps.toList.drop i = [] := List.drop_eq_nil_iff.mpr (by omega)
          have h2 : x.cps.toList.drop (i + 1) = [] := List.drop_eq_nil_iff.mpr (by omega)
          rw [h1, h2]
          simp only [psplitGo, List.reverse_reverse]
          rw [List.take_of_length_le (by rw [List.length_drop]; omega), List.take_of_length_le (by rw [List.length_drop]; omega)]
      · rcases ha with ha | ⟨rfl, h1, h2⟩
        · omega
        · obtain ⟨cuts, e1, e2⟩ := split_loop x y hy k (i + 1) found a a (by omega) (by omega) (.inr ⟨rfl, by omega, h2⟩)
          refine ⟨cuts, e1, ?_⟩
          have hlt : i < x.cps.toList.length := by omega
          rw [e2, show i - a = 0 by omega, show i + 1 - a = 0 by omega, show a - i = (a - (i + 1)) + 1 by omega]
          conv => rhs; rw [List.drop_eq_getElem_cons hlt]
          simp [psplitGo]

theorem psplit_none (y : List Nat) : ∀ (l acc : List Nat), (∀ i, y.isPrefixOf (l.drop i) = false ∨ l.length ≤ i) → psplitGo y 0 acc l = [acc.reverse ++ l]
  | [], acc, _ => by simp [psplitGo]
  | c :: r, acc, h => by
    have h0 := h 0
    simp only [List.drop_zero, List.length_cons] at h0
    have h0' : y.isPrefixOf (c :: r) = false := by rcases h0 with h | h; exact h; omega
    simp only [psplitGo, h0', Bool.false_eq_true, if_false]
    rw [psplit_none y r (c :: acc) fun i => by
      have := h (i + 1)
      simp only [List.drop_succ_cons, List.length_cons] at this
      rcases this with h | h
      · exact .inl h
      · exact .inr (by omega)]
    simp

theorem psplit_eq (x y : Str) (hy : y.length ≠ 0) : (Txt.split x y).map (·.cps.toList) = psplit y.cps.toList x.cps.toList := by
  obtain ⟨cuts, e1, e2⟩ := split_loop x y hy (x.length + 1) 0 #[] 0 0 (by omega) (by simp) (.inl ⟨by omega, by omega⟩)
  have hocc : Builtin.Str.occurrences x y 0 x.length (x.length + 1) = cuts := by rw [occ_eq]; simpa using e1
  have e3 : psplit y.cps.toList x.cps.toList = (partsFrom x y.length 0 cuts).map (·.cps.toList) := by
    rw [e2]; simp [psplit]
  have hwhole : cuts = [] → psplit y.cps.toList x.cps.toList = [x.cps.toList] := by
    intro hc
    rw [e3, hc]
    simp [partsFrom, sub_whole]
  unfold Txt.split
  split
  · rename_i h
    have : psplit y.cps.toList x.cps.toList = [x.cps.toList] := by
      unfold psplit
      rw [psplit_none]
      · rfl
      · intro i
        left
        rw [Bool.eq_false_iff]
        intro hp
        rw [List.isPrefixOf_iff_prefix] at hp
        have hl := hp.length_le
        have hmem : ∀ c ∈ y.cps.toList, c ∈ x.cps.toList := fun c hc => List.mem_of_mem_drop (hp.subset hc)
        simp only [Bool.or_eq_true, decide_eq_true_eq] at h
        rcases h with h | h
        · rw [str_len, str_len] at h
          rw [List.length_drop] at hl
          omega
        · have kind : ∀ b : Nat, (x.cps.all (· < b)) = true → (y.cps.all (· < b)) = true := by
            intro b hb
            rw [← Array.all_toList] at hb ⊢
            rw [List.all_eq_true] at hb ⊢
            exact fun c hc => hb c (hmem c hc)
          unfold Builtin.Str.strKind at h
          have k1 := kind 256
          have k2 := kind 65536
          revert h k1 k2
          generalize (x.cps.all fun x => decide (x < 256)) = a1
          generalize (x.cps.all fun x => decide (x < 65536)) = a2
          generalize (y.cps.all fun x => decide (x < 256)) = b1
          generalize (y.cps.all fun x => decide (x < 65536)) = b2
          intro h k1 k2
          cases a1 <;> cases a2 <;> cases b1 <;> cases b2 <;> simp at h k1 k2
    rw [this]; rfl
  · split
    · rename_i h
      rw [hocc] at h
      rw [hwhole (by simpa using h)]; rfl
    · rw [hocc, partsBetween_eq, e3]
end Mine

namespace Mine
open StrLaws

theorem pints_rep {C : RC} {h : Heap} : ∀ {vs : List PV} {us : List Value} {ns : List Int}, pints vs = some ns → RepL C h vs us → IntsAre us ns
  | [], us, ns, e, r => by simp only [pints] at e; cases e; simp only [RepL] at r; subst r; exact .nil
  | p :: ps, us, ns, e, r => by
    cases p <;> simp only [pints, reduceCtorEq] at e
    obtain ⟨ns', e', rfl⟩ := Option.map_eq_some_iff.mp e
    simp only [RepL] at r
    obtain ⟨v, r', rfl, h1, h2⟩ := r
    simp only [Rep] at h1
    obtain ⟨t, rfl⟩ := h1
    exact .cons _ t (pints_rep e' h2)

theorem pstrs_rep {C : RC} {h : Heap} : ∀ {vs : List PV} {us : List Value} {ls : List (List Nat)}, pstrs vs = some ls → RepL C h vs us → ∃ l : List (Str × Tok), us = strValues l ∧ l.map (fun p => p.1.cps.toList) = ls
  | [], us, ls, e, r => by simp only [pstrs] at e; cases e; simp only [RepL] at r; subst r; exact ⟨[], rfl, rfl⟩
  | p :: ps, us, ls, e, r => by
    cases p <;> simp only [pstrs, reduceCtorEq] at e
    obtain ⟨ns', e', rfl⟩ := Option.map_eq_some_iff.mp e
    simp only [RepL] at r
    obtain ⟨v, r', rfl, h1, h2⟩ := r
    simp only [Rep] at h1
    obtain ⟨s, t, rfl, rfl⟩ := h1
    obtain ⟨l, rfl, rfl⟩ := pstrs_rep e' h2
    exact ⟨(s, t) :: l, rfl, rfl⟩

theorem join_eq (sep : Str) : ∀ texts : List Str, (Str.join sep texts).cps.toList = pjoin sep.cps.toList (texts.map (·.cps.toList))
  | [] => rfl
  | [x] => rfl
  | x :: y :: r => by
    show ((x ++ sep) ++ Str.join sep (y :: r)).cps.toList = _
    rw [Str.cps_append, Str.cps_append, Array.toList_append, Array.toList_append, join_eq sep (y :: r)]
    simp [pjoin]

theorem rep_strs {C : RC} {h : Heap} : ∀ (l : List (Str × Tok)), RepL C h (l.map fun p => PV.str p.1.cps.toList) (strValues l)
  | [] => by simp [RepL, strValues]
  | (s, t) :: l => by
    simp only [List.map_cons, RepL]
    exact ⟨_, strValues l, rfl, rep_str, rep_strs l⟩

theorem fold_max : ∀ (l : List Int) (m0 : Int), (l.foldl (fun m y => if m < y then y else m) m0 = m0 ∨ l.foldl (fun m y => if m < y then y else m) m0 ∈ l) ∧ m0 ≤ l.foldl (fun m y => if m < y then y else m) m0 ∧ ∀ y ∈ l, y ≤ l.foldl (fun m y => if m < y then y else m) m0
  | [], m0 => by simp
  | y :: l, m0 => by
    simp only [List.foldl_cons]
    by_cases h : m0 < y
    · rw [if_pos h]
      obtain ⟨k1, k2, k3⟩ := fold_max l y
      refine ⟨.inr ?_, by omega, ?_⟩
      · rcases k1 with k1 | k1
        · rw [k1]; exact List.mem_cons_self
        · exact List.mem_cons_of_mem _ k1
      · intro z hz
        rcases List.mem_cons.mp hz with rfl | hz
        · exact k2
        · exact k3 z hz
    · rw [if_neg h]
      obtain ⟨k1, k2, k3⟩ := fold_max l m0
      refine ⟨?_, k2, ?_⟩
      · rcases k1 with k1 | k1
        · exact .inl k1
        · exact .inr (List.mem_cons_of_mem _ k1)
      · intro z hz
        rcases List.mem_cons.mp hz with rfl | hz
        · omega
        · exact k3 z hz

section
variable {prog : Program} {w : World} {A : Around} {s : Shared} {C : RC} {O : Owns} {n : Nat}

def biVal : PBi → Value
  | .len => .builtin "len" | .max1 => .builtin "max" | .max2 => .builtin "max" | .sum => .builtin "sum" | .list => .type "list" | .chr => .builtin "chr" | .ord => .builtin "ord"

theorem keepsOf {h' : Heap} {tk : Nat} (hk : ∀ b o, s.heap.get? b = some o → h'.get? b = some o) : Keeps s { s with heap := h', toks := tk } := ⟨h', tk, s.gens, rfl, .of hk, id⟩

theorem repL1 {h : Heap} {x : PV} {us : List Value} (r : RepL C h [x] us) : ∃ u, us = [u] ∧ Rep C h x u := by
  simp only [RepL] at r
  obtain ⟨v, r', rfl, h1, rfl⟩ := r
  exact ⟨v, rfl, h1⟩
theorem repL2 {h : Heap} {x y : PV} {us : List Value} (r : RepL C h [x, y] us) : ∃ u v, us = [u, v] ∧ Rep C h x u ∧ Rep C h y v := by
  simp only [RepL] at r
  obtain ⟨v, r', rfl, h1, v', r'', rfl, h2, rfl⟩ := r
  exact ⟨v, v', rfl, h1, h2⟩

theorem bi_ok (R : Room n A) {b : PBi} {vs : List PV} {us : List Value} {r : PV} (hr : pbi O b vs = some r) (hv : RepL C s.heap vs us) (W : Owned C O s.heap) :
    wpAny (model prog w) A (call (biVal b) us) (Post C s r) noE s := by
  have hL := lim_size
  unfold pbi at hr
  split at hr
  · obtain ⟨u, rfl, hx⟩ := repL1 hv
    split at hr
    · rename_i h
      cases hr
      simp only [Rep] at hx; obtain ⟨x, t, rfl, rfl⟩ := hx
      rw [← str_len] at h ⊢
      exact len_str (by omega) ⟨kp, rep_int⟩
    · cases hr
  · obtain ⟨u, rfl, hx⟩ := repL1 hv
    split at hr
    · rename_i h
      cases hr
      simp only [Rep] at hx; obtain ⟨a, xs, rfl, _, ht, hl⟩ := hx
      have e := hl.length
      simp only [Array.length_toList] at e
      rw [← e] at h ⊢
      exact len_tuple ht (by omega) ⟨kp, rep_int⟩
    · cases hr
  · obtain ⟨u, rfl, hx⟩ := repL1 hv
    split at hr
    · rename_i l el
      split at hr
      · rename_i h
        cases hr
        obtain ⟨a, xs, rfl, hp, hl⟩ := asL_rep W el hx
        have e := hl.length
        simp only [Array.length_toList] at e
        rw [← e] at h ⊢
        exact Calls.call_len_list hp.isList (by omega) ⟨kp, rep_int⟩
      · cases hr
    · cases hr
  · obtain ⟨u, v, rfl, hx, hy⟩ := repL2 hv
    cases hr
    simp only [Rep] at hx hy
    obtain ⟨_, rfl⟩ := hx; obtain ⟨_, rfl⟩ := hy
    refine max_two_ints R.handled fun h' tk hk => ⟨keepsOf hk, ?_⟩
    rename_i a b _ _
    by_cases hc : a < b
    · rw [if_pos hc, if_pos (show b > a from hc)]; exact rep_int
    · rw [if_neg hc, if_neg (show ¬ b > a from hc)]; exact rep_int
  · obtain ⟨u, rfl, hx⟩ := repL1 hv
    split at hr
    · rename_i x r' e
      cases hr
      obtain ⟨l, el, en⟩ := Option.bind_eq_some_iff.mp e
      obtain ⟨a, xs, rfl, hp, hl⟩ := asL_rep W el hx
      have hi := pints_rep en hl
      obtain ⟨zs, e2⟩ := hi.allInts.items
      have hns : x :: r' = zs.toList.map (·.1) := by rw [← hi.numsOf, ← nums_intItems, ← e2]
      have hp' : s.heap.IsList a (intItems zs) := by
        have := hp.isList
        rwa [show xs = xs.toList.toArray by simp, e2] at this
      have hsz : 0 < zs.size := by
        have := congrArg List.length hns
        simp at this; omega
      refine max_intList R.handled hp' hsz fun v h' tk hv hk => ⟨keepsOf hk, ?_⟩
      obtain ⟨t, rfl⟩ := intItems_at hv
      obtain ⟨h1, h2⟩ := argBest_gt (numAt zs) (zs.size - 1)
      obtain ⟨k1, k2, k3⟩ := fold_max r' x
      have hmem : r'.foldl (fun m y => if m < y then y else m) x ∈ zs.toList.map (·.1) := by
        rw [← hns]; rcases k1 with k1 | k1
        · rw [k1]; exact List.mem_cons_self
        · exact List.mem_cons_of_mem _ k1
      have hmax : ∀ y ∈ zs.toList.map (·.1), y ≤ r'.foldl (fun m y => if m < y then y else m) x := by
        intro y hy
        rw [← hns] at hy
        rcases List.mem_cons.mp hy with rfl | hy
        · exact k2
        · exact k3 y hy
      have e3 : numAt zs (argBest (fun i j => decide (numAt zs i > numAt zs j)) (zs.size - 1)) = r'.foldl (fun m y => if m < y then y else m) x := by
        obtain ⟨j, hj, e4⟩ := List.getElem_of_mem hmem
        have hj' : j < zs.size := by simpa using hj
        have hb : argBest (fun i j => decide (numAt zs i > numAt zs j)) (zs.size - 1) < zs.size := by omega
        have nat : ∀ k (hk : k < zs.size), numAt zs k = (zs.toList.map (·.1))[k]'(by simpa using hk) := by
          intro k hk; simp [numAt, hk]
        have a1 : numAt zs j = r'.foldl (fun m y => if m < y then y else m) x := by rw [nat j hj', e4]
        have a2 := h2 j (by omega)
        have a3 := hmax (numAt zs (argBest (fun i j => decide (numAt zs i > numAt zs j)) (zs.size - 1))) (by rw [nat _ hb]; exact List.getElem_mem _)
        omega
      rw [← e3]
      exact rep_int
    · cases hr
  · obtain ⟨u, rfl, hx⟩ := repL1 hv
    split at hr
    · rename_i ns e
      cases hr
      obtain ⟨l, el, en⟩ := Option.bind_eq_some_iff.mp e
      obtain ⟨a, xs, rfl, hp, hl⟩ := asL_rep W el hx
      have hi := pints_rep en hl
      obtain ⟨zs, e2⟩ := hi.allInts.items
      have hns : ns = zs.toList.map (·.1) := by rw [← hi.numsOf, ← nums_intItems, ← e2]
      have hp' : s.heap.IsList a (intItems zs) := by
        have := hp.isList
        rwa [show xs = xs.toList.toArray by simp, e2] at this
      refine sum_intListG R.handled hp' fun h' tk t' hk => ⟨keepsOf hk, ?_⟩
      rw [preSum_eq, List.take_of_length_le (by simp), ← hns]
      exact rep_int
    · cases hr
  · obtain ⟨u, rfl, hx⟩ := repL1 hv
    split at hr
    · rename_i h
      cases hr
      simp only [Rep] at hx; obtain ⟨x, t, rfl, rfl⟩ := hx
      have hsz : x.cps.size ≤ sizeLine := by
        have : x.cps.size = x.cps.toList.length := by simp
        omega
      refine call_list_str R.handled x t (hn := hsz) fun h' tk acc c hk hg hacc => ⟨keepsOf hk, ?_⟩
      simp only [Rep]
      refine ⟨_, acc, rfl, W.fresh, ⟨c, hg⟩, RepL.of_at ?_ ?_⟩
      · simp [hacc.1]
      · intro i p v h1 h2
        obtain ⟨c', u', e1, rfl⟩ := hacc.2 i v (by simpa using h2)
        simp only [List.getElem?_map, Array.getElem?_toList, e1, Option.map_some, Option.some.injEq] at h1
        subst h1
        exact rep_str' rfl
    · cases hr
  · obtain ⟨u, rfl, hx⟩ := repL1 hv
    split at hr
    · rename_i h
      cases hr
      simp only [Rep] at hx; obtain ⟨t, rfl⟩ := hx
      exact P.chr_of_int (by simp; omega) ⟨kp, rep_str' rfl⟩
    · cases hr
  · obtain ⟨u, rfl, hx⟩ := repL1 hv
    cases hr
    simp only [Rep] at hx; obtain ⟨x, t, rfl, e⟩ := hx
    rename_i c
    have : x = ⟨#[c]⟩ := Str.ext' (by apply Array.ext'; rw [e])
    subst this
    exact P.ord_of_char ⟨kp, rep_int⟩
  · cases hr

theorem pindex_at {vs : List PV} {x : PV} {i : Nat} (h : (vs.findIdx? fun y => pveq y x) = some i) : i < vs.length ∧ (∀ y, vs[i]? = some y → pveq y x = true) ∧ ∀ j y, j < i → vs[j]? = some y → pveq y x = false := by
  obtain ⟨h1, h2, h3⟩ := List.findIdx?_eq_some_iff_getElem.mp h
  refine ⟨h1, fun y e => ?_, fun j y hj e => ?_⟩
  · rw [List.getElem?_eq_getElem h1] at e; cases e; exact h2
  · have hj' : j < vs.length := by omega
    rw [List.getElem?_eq_getElem hj'] at e; cases e
    simpa using h3 j hj

def meId : PMe → Bool → String
  | .join, _ => "str.join" | .split, _ => "str.split" | .replace, _ => "str.replace" | .find, _ => "str.find" | .index, _ => "list.index"

theorem toPDs_get : ∀ (vs : List PV) (i : Nat), (toPDs vs)[i]? = (vs[i]?).map toPD
  | [], i => by simp [toPDs]
  | p :: ps, 0 => by simp [toPDs]
  | p :: ps, i + 1 => by simp [toPDs, toPDs_get ps i]
theorem noStarL_get : ∀ {vs : List PV} {i : Nat} {y : PV}, noStarL vs = true → vs[i]? = some y → noStar y = true
  | [], i, y, _, e => by simp at e
  | p :: ps, 0, y, h, e => by simp only [noStarL, Bool.and_eq_true] at h; simp at e; subst e; exact h.1
  | p :: ps, i + 1, y, h, e => by simp only [noStarL, Bool.and_eq_true] at h; exact noStarL_get h.2 (by simpa using e)

theorem split_call {x y : Str} {t u : Tok} {Q : Value → Shared → Prop} {E : Value → Shared → Prop} (hy : (y.length == 0) = false)
    (hq : ∀ l k, l.map (·.1) = Txt.split x y → Q (.ref s.heap.objs.size) { s with heap := s.heap.push { cls := .type "list", data := .seq (strValues l).toArray }, toks := k })
    (hsz : x.length ≤ sizeLine) (hsz2 : (Builtin.Str.partsBetween x (Builtin.Str.occurrences x y 0 x.length (x.length + 1)) y.length).length ≤ sizeLine) :
    wpAny (model prog w) A (call (.builtin "str.split") [.str x t, .str y u]) Q E s := by
  cases h1 : (decide (x.length < y.length) || decide (Builtin.Str.strKind x < Builtin.Str.strKind y))
  · cases hf : (Builtin.Str.occurrences x y 0 x.length (x.length + 1)).isEmpty
    · refine call_meets F.slot_str_split (typeIs_str _ _ _) F.entry_str_split (F.args_str_split_2 _ _) (meets_str_split_sep x y t u h1 hy hf hsz hsz2) ?_
      show wants Q E _ { s with toks := _, heap := s.heap.push { cls := .type "list", data := .seq (strsFrom s.toks (Builtin.Str.partsBetween x (Builtin.Str.occurrences x y 0 x.length (x.length + 1)) y.length)).toArray } }
      rw [strsFrom_eq]
      exact hq (numbered s.toks _) _ ((numbered_texts _ _).trans ((if_neg (ne_true_of_eq_false h1)).trans (if_neg (ne_true_of_eq_false hf))).symm)
    · exact call_meets F.slot_str_split (typeIs_str _ _ _) F.entry_str_split (F.args_str_split_2 _ _) (meets_str_split_not_found x y t u h1 hy hf)
        (hq [(x, t)] s.toks ((if_neg (ne_true_of_eq_false h1)).trans (if_pos hf)).symm)
  · exact call_meets F.slot_str_split (typeIs_str _ _ _) F.entry_str_split (F.args_str_split_2 _ _) (meets_str_split_cannot_occur x y t u h1)
      (hq [(x, t)] s.toks (if_pos h1).symm)

theorem not_found {x y : Str} (h : pisIn y.cps.toList x.cps.toList = false) : (Builtin.Str.occurrences x y 0 x.length (x.length + 1)).isEmpty = true := by
  obtain ⟨f, hc⟩ := StrLaws.occ_chain x y (x.length + 1)
  cases ho : Builtin.Str.occurrences x y 0 x.length (x.length + 1) with
  | nil => rfl
  | cons c r =>
    rw [ho] at hc
    have h2 : StrLaws.At x y x.length c := hc.2.1
    exfalso
    have : pisIn y.cps.toList x.cps.toList = true := by
      rw [pisIn_iff]
      refine ⟨c, by have := h2.1; rw [str_len, str_len] at this; exact this, ?_⟩
      have := h2.2
      rw [StrLaws.subAt_eq, str_len] at this
      simpa using this
    rw [h] at this; cases this

theorem me_ok (R : Room n A) {m : PMe} {o : PV} {vs : List PV} {u : Value} {us : List Value} {r : PV} (hr : pme O m o vs = some r) (ho : Rep C s.heap o u) (hv : RepL C s.heap vs us) (W : Owned C O s.heap) :
    wpAny (model prog w) A (call (.builtin (meId m true)) (u :: us)) (Post C s r) noE s := by
  have hL := lim_size
  have hu := R.units
  unfold pme at hr
  split at hr
  · obtain ⟨v, rfl, hx⟩ := repL1 hv
    split at hr
    · rename_i ls e
      split at hr
      · rename_i h
        cases hr
        obtain ⟨l, el, en⟩ := Option.bind_eq_some_iff.mp e
        obtain ⟨a, xs, rfl, hp, hl⟩ := asL_rep W el hx
        simp only [Rep] at ho; obtain ⟨sep, t, rfl, rfl⟩ := ho
        obtain ⟨tx, e1, e2⟩ := pstrs_rep en hl
        have hp' : s.heap.IsList a (strValues tx).toArray := by
          have := hp.isList
          rwa [show xs = xs.toList.toArray by simp, e1] at this
        have e3 : ls = (tx.map (·.1)).map (·.cps.toList) := by rw [← e2]; simp
        refine SC.join hp' rfl ?_ fun t' k => ⟨kp, rep_str' ?_⟩
        · unfold JoinOk
          rw [StrLaws.joinTotal]
          have h1 : (((tx.map (·.1)).map (·.length)).sum + (tx.map (·.1)).length * sep.length) ≤ sizeLine := by
            have e4 : (tx.map (·.1)).map (·.length) = ls.map List.length := by
              rw [e3, List.map_map, List.map_map, List.map_map]
              exact List.map_congr_left fun a _ => str_len _
            rw [e4, str_len, show (tx.map (·.1)).length = ls.length by rw [e3]; simp]
            omega
          simp only [Builtin.Str.tooLong, Bool.not_eq_true', decide_eq_false_iff_not]
          omega
        · unfold Txt.join
          rw [StrLaws.glued_eq_join, join_eq, e3]
      · cases hr
    · cases hr
  · obtain ⟨v, rfl, hx⟩ := repL1 hv
    split at hr
    · cases hr
    · rename_i h
      cases hr
      simp only [Bool.or_eq_true, decide_eq_true_eq, not_or] at h
      simp only [Rep] at ho hx; obtain ⟨x, t, rfl, rfl⟩ := ho; obtain ⟨y, t', rfl, rfl⟩ := hx
      have hy : y.length ≠ 0 := by rw [str_len]; intro h0; exact h.1 (by simpa using List.length_eq_zero_iff.mp h0)
      have hxs : x.length ≤ sizeLine := by rw [str_len]; omega
      have hparts : (Builtin.Str.partsBetween x (Builtin.Str.occurrences x y 0 x.length (x.length + 1)) y.length).length ≤ sizeLine := by
        have h1 := StrLaws.occ_length_le x y 0 x.length (x.length + 1)
        unfold Builtin.Str.partsBetween
        simp only [List.length_map, List.length_zip, List.length_cons, List.length_append, List.length_nil]
        have h2 : x.length ≤ 1048576 := by rw [str_len]; have := h.2; unfold LIM at this; omega
        rw [sizeLine_eq]
        omega
      refine split_call (by simpa using hy) (fun l k e => ⟨kpush, ?_⟩) hxs hparts
      have e2 : psplit y.cps.toList x.cps.toList = l.map fun p => p.1.cps.toList := by
        rw [← psplit_eq x y hy, ← e, List.map_map]; rfl
      rw [e2, List.map_map]
      exact rep_new W (rep_strs l)
  · obtain ⟨v, v', rfl, hx, hy⟩ := repL2 hv
    split at hr
    · cases hr
    · rename_i h
      cases hr
      simp only [Rep] at ho hx hy
      obtain ⟨x, t, rfl, rfl⟩ := ho
      obtain ⟨y, t', rfl, rfl⟩ := hx
      obtain ⟨z, t'', rfl, rfl⟩ := hy
      have hn := not_found (by simpa using h)
      have hc : ((Builtin.Str.occurrences x y 0 x.length (x.length + 1)).isEmpty || (y.length == 0 && z.length == 0)) = true := by rw [hn]; rfl
      refine call_gives F.slot_str_replace (typeIs_str _ _ _) F.entry_str_replace (F.args_str_replace_3 _ _ _)
        (gives_str_replace x y z t t' t'' fun hf => absurd hc (by rw [hf]; simp)) ?_
      rw [if_pos hc]
      exact ⟨krefl s, rep_str⟩
  · obtain ⟨v, rfl, hx⟩ := repL1 hv
    split at hr
    · rename_i l el
      split at hr
      · rename_i h
        simp only [Bool.and_eq_true, decide_eq_true_eq] at h
        obtain ⟨i, ei, rfl⟩ := Option.map_eq_some_iff.mp hr
        obtain ⟨i1, i2, i3⟩ := pindex_at ei
        have h1 := okDs_spec 8 _ h.1.1
        have h2 := okD_spec 8 _ h.1.2
        obtain ⟨a, xs, rfl, ⟨m, hp⟩, hl⟩ := asL_rep W el ho
        obtain ⟨as, q⟩ := RepL.reads _ _ h1.1 hl
        obtain ⟨bs, r2⟩ := Rep.reads _ _ h2.1 hx
        have hlen := hl.length
        simp only [Array.length_toList] at hlen
        have hmap := SeqAt.readsAll_map _ _ _ h1.2.1 q
        have hat : ∀ (j : Nat) (hj : j < xs.size) y, l[j]? = some y → SeqAt.readOf s.heap xs[j] = toPD y := by
          intro j hj y hy
          have e1 : (xs.toList.map (SeqAt.readOf s.heap))[j]? = some (toPD y) := by rw [hmap, toPDs_get, hy]; rfl
          simpa [hj] using e1
        refine call_meets F.slot_list_index ⟨_, hp, rfl⟩ F.entry_list_index (F.args_list_index_2 _ _)
          (SeqAt.list_indexAt a xs m none #[] v (fun y => PyData.eqv (SeqAt.readOf s.heap y) (toPD ‹PV›)) i (by omega) (by have := h.2; unfold LIM at this; omega) ?_ ?_)
          ⟨hp, SeqAt.items_eqAt (A := A) q r2 h1.2.1 h2.2.1 (by omega), kp, rep_int⟩
        · have hi : i < l.length := i1
          have e := List.getElem?_eq_getElem hi
          have := i2 _ e
          rw [pveq_eqv _ _ (noStarL_get h1.1 e) h2.1] at this
          show PyData.eqv (SeqAt.readOf s.heap xs[i]) _ = true
          rw [hat i (by omega) _ e]; exact this
        · intro j hj hji
          have hj' : j < l.length := by omega
          have e := List.getElem?_eq_getElem hj'
          have := i3 j _ hji e
          rw [pveq_eqv _ _ (noStarL_get h1.1 e) h2.1] at this
          show PyData.eqv (SeqAt.readOf s.heap xs[j]) _ = false
          rw [hat j hj _ e]; exact this
      · cases hr
    · cases hr
  · cases hr
end
end Mine

namespace Mine
open StrLaws

def Sees (env : Env) (h : Heap) (x : Str) (u : Value) : Prop :=
  (env.kindOf x = some .local ∧ ∃ m, h.Ns env.locals m ∧ m x = some u) ∨
  ((env.kindOf x = some .cell ∨ env.kindOf x = some .free) ∧ ∃ c, env.cells.lookup x = some c ∧ h.IsCell c (some u))

def biTab : List (Str × Value) := [("len", .builtin "len"), ("max", .builtin "max"), ("sum", .builtin "sum"), ("list", .type "list"), ("chr", .builtin "chr"), ("ord", .builtin "ord"),
  ("range", .type "range"), ("object", .type "object"), ("isinstance", .builtin "isinstance"), ("str", .type "str")]

def reCode : Array Nat := #[14, 14, 4, 1, 1, 9, 0, 64, 0, 1342177280, 0, 0, 0, 0, 0, 17, 0, 13, 11, 9, 0, 64, 0, 1342177280, 0, 0, 0, 0, 0, 17, 1, 1]
def subOk (l : List Nat) : Bool := decide (l.length ≤ LIM) && l.all fun c => !(c == 38 || c == 126 || c == 124)

/-- the regex object of the top -/
structure ReOk (h : Heap) : Prop where
  pat : ∃ fs : Array Value, h.get? reA = some { cls := .type "re.Pattern", data := .fields fs } ∧ PySem.Builtin.Re.reRawNat (fs.getD 6 .none) = 0 ∧ fs.getD 5 .none = .ref reC
  code : ∃ (xs : Array Value) (o : Obj) (n : Nat), h.get? reC = some o ∧ o.data = .seq xs n ∧ (xs.map PySem.Builtin.Re.reRawOf).map (·.toNat) = reCode
theorem ReOk.keep {h h' : Heap} (K : ReOk h) (k : KN h h') : ReOk h' :=
  ⟨let ⟨fs, e, r⟩ := K.pat; ⟨fs, k.nt _ _ (noTab_cls nofun) e, r⟩, let ⟨xs, o, n, e, hd, r⟩ := K.code; ⟨xs, o, n, k.nt _ _ (noTab_data (by rw [hd]; nofun)) e, hd, r⟩⟩

/-- what the top holds -/
structure Base (mg mb : Str → Option Value) (hB : Heap) : Prop where
  nsg : hB.Ns mainGlobals mg
  nsb : hB.Ns builtinsNs mb
  pt : ∃ ps, hB.get? PT = some { cls := .none, data := .fields ps } ∧ TriplesOk ps.toList
  bis : ∀ p ∈ biTab, mg p.1 = none ∧ mb p.1 = some p.2
  cod : CodeHd hB CT PT
  bat : hB.BuiltinsAt mg PT
  lim : hB.NoLimit
  sp : mg "_special_chars_map" = some (.ref spA)
  re : mg "_twin_re_1" = some (.ref reA)
  reo : ReOk hB

structure EInv (mg mb : Str → Option Value) (hB : Heap) (sc : Scope) (env : Env) (C : RC) (G : Slots) (O : Owns) (h : Heap) : Prop where
  base : Base mg mb hB
  kind : env.scope.kind = .function
  glb : env.globals = mainGlobals
  blt : env.builtins = builtinsNs
  cdv : (slotOf sc "stuff").isSome = true → env.code = .ref CT
  top : KN hB h
  knd : ∀ x k, sc.names.lookup x = some k → env.kindOf x = some k ∨ k = .free ∧ env.kindOf x = some .cell
  cel : ∀ x, sc.names.lookup x = some .cell ∨ sc.names.lookup x = some .free → ∃ c, env.cells.lookup x = some c
  slots : ∀ x i v, slotOf sc x = some i → G[i]? = some (some v) → ∃ u, Sees env h x u ∧ Rep C h v u
  W : Owned C O h

theorem EInv.gls {mg mb : Str → Option Value} {hB : Heap} {sc : Scope} {env : Env} {C : RC} {G : Slots} {O : Owns} {h : Heap} (I : EInv mg mb hB sc env C G O h) (x : Str) (e : sc.names.lookup x = some .globalImplicit) : env.kindOf x = some .globalImplicit := by
  rcases I.knd x _ e with h | ⟨h, _⟩
  · exact h
  · cases h

theorem Sees.keep {env : Env} {h h' : Heap} {x : Str} {u : Value} (S : Sees env h x u) (hk : KN h h') : Sees env h' x u := by
  rcases S with ⟨a, m, b, c⟩ | ⟨a, c, b, d⟩
  · exact .inl ⟨a, m, hk.ns b, c⟩
  · exact .inr ⟨a, c, b, hk.cell d⟩

theorem EInv.keep {mg mb : Str → Option Value} {hB : Heap} {sc : Scope} {env : Env} {C : RC} {G : Slots} {O : Owns} {h h' : Heap} (I : EInv mg mb hB sc env C G O h)
    (hk : KN h h') : EInv mg mb hB sc env C G O h' where
  base := I.base
  kind := I.kind
  glb := I.glb
  blt := I.blt
  cdv := I.cdv
  top := I.top.trans hk
  knd := I.knd
  cel := I.cel
  slots := fun x i v e1 e2 => let ⟨u, S, r⟩ := I.slots x i v e1 e2; ⟨u, S.keep hk, r.keep hk⟩
  W := I.W.keep hk

section
variable (prog : Program) (w : World) (mg mb : Str → Option Value) (hB : Heap)

/-- a def's call gives what F says -/
def FnOk (n : Nat) (x : Str) (args : List PV) (r : PV) : Prop :=
  ∃ a fd o, mg x = some (.ref a) ∧ hB.get? a = some o ∧ o.data = .func fd ∧ noOwn r = true ∧
    ∀ (C : RC) (vals : List Value) (A : Around) (s : Shared), KN hB s.heap → (∀ b, C.X b → ∃ o, NoTab o ∧ s.heap.get? b = some o) → RepL C s.heap args vals → noOwnL args = true → Room n A →
      wpAny (model prog w) A (call (.ref a) vals) (Post C s r) noE s

structure FsOk (n : Nat) (F : PF1) : Prop where
  fn : ∀ x f args r, (x, f) ∈ fnTab → F f args = some r → FnOk prog w mg hB n x args r
  sub : ∀ v r, F "%sub" [v] = some r → ∃ l, v = .str l ∧ subOk l = true ∧ r = .str l

structure Cx (n : Nat) (sc : Scope) (F : PF1) (C : RC) (G : Slots) (O : Owns) (env : Env) (A : Around) (h : Heap) : Prop where
  FS : FsOk prog w mg hB n F
  I : EInv mg mb hB sc env C G O h
  R : Room n A

def ES (n : Nat) (sc : Scope) (e : Expr) (pe : PE) : Prop :=
  ∀ {F : PF1} {C : RC} {G : Slots} {O : Owns} {env : Env} {A : Around} {s : Shared} {pv : PV}, Cx prog w mg mb hB n sc F C G O env A s.heap → ev F O G pe = some pv →
    wpAny (model prog w) A (eval e env) (Post C s pv) noE s
def TS (n : Nat) (sc : Scope) (e : Expr) (pe : PE) : Prop :=
  ∀ {F : PF1} {C : RC} {G : Slots} {O : Owns} {env : Env} {A : Around} {s : Shared} {b : Bool}, Cx prog w mg mb hB n sc F C G O env A s.heap → pt F O G pe = some b →
    wpAny (model prog w) A (isTrue e env (eval e env)) (PostT s b) noE s
def SS (n : Nat) (sc : Scope) (es : List Expr) (pes : PEs) : Prop :=
  ∀ {F : PF1} {C : RC} {G : Slots} {O : Owns} {env : Env} {A : Around} {s : Shared} {vs : List PV}, Cx prog w mg mb hB n sc F C G O env A s.heap → evs F O G pes = some vs →
    wpAny (model prog w) A (spliced (es.map fun e => (false, eval e env))) (fun us s' => Keeps s s' ∧ RepL C s'.heap vs us) noE s
def OS (n : Nat) (sc : Scope) (e : Option Expr) (pe : PE) : Prop :=
  ∀ {F : PF1} {C : RC} {G : Slots} {O : Owns} {env : Env} {A : Around} {s : Shared} {pv : PV}, Cx prog w mg mb hB n sc F C G O env A s.heap → ev F O G pe = some pv →
    wpAny (model prog w) A (evalPart e env) (Post C s pv) noE s
end

section
variable {prog : Program} {w : World} {mg mb : Str → Option Value} {hB : Heap} {n : Nat} {sc : Scope}

theorem Cx.keep {F : PF1} {C : RC} {G : Slots} {O : Owns} {env : Env} {A : Around} {s s' : Shared} (K : Cx prog w mg mb hB n sc F C G O env A s.heap) (k : Keeps s s') :
    Cx prog w mg mb hB n sc F C G O env A s'.heap := ⟨K.FS, K.I.keep (kheap k), K.R⟩

/-- chaining: a step's post, then the rest -/
theorem seqE {α : Type} {M : Model} {A : Around} {t : Sem α} {s : Shared} {P : α → Shared → Prop} {Q : α → Shared → Prop} {E : Value → Shared → Prop}
    (h : wpAny M A t P noE s) (hQ : ∀ a s', P a s' → Q a s') : wpAny M A t Q E s := wpAny_mono h hQ fun _ _ x => x.elim

theorem name_ok {x : Str} {i : Nat} {pos : Pos} (hd : dbg x = false) (hi : slotOf sc x = some i) : ES prog w mg mb hB n sc (.Name x pos) (.var i) := by
  intro F C G O env A s pv K hv
  have hd1 : (x == ("__debug__" : Str)) = false := by unfold dbg at hd; simp only [Bool.or_eq_false_iff] at hd; exact hd.1
  have hd2 : (x == ("__classdict__" : Str)) = false := by unfold dbg at hd; simp only [Bool.or_eq_false_iff] at hd; exact hd.2
  have hg : G[i]? = some (some pv) := by
    simp only [ev] at hv
    split at hv
    · cases hv; assumption
    · cases hv
  obtain ⟨u, S, r⟩ := K.I.slots x i pv hi hg
  refine wpAny_Name ?_ hd1
  rcases S with ⟨hk, m, hn, hm⟩ | ⟨hk, c, hc, hcell⟩
  · exact wpAny_loadName_local K.I.kind hk hn hm ⟨krefl s, r⟩
  · rcases hk with hk | hk
    · exact wpAny_loadName_cell K.I.kind hk hc hcell ⟨krefl s, r⟩
    · exact wpAny_loadName_free K.I.kind hk hc hcell ⟨krefl s, r⟩ hd2

theorem const_ok {c : Const} {k m : Nat} {pos : Pos} {pe : PE} (h : cE (m + 1) sc (.Constant c k pos) = some pe) : ES prog w mg mb hB n sc (.Constant c k pos) pe := by
  intro F C G O env A s pv K hv
  rw [eval_Constant]
  cases c <;> simp only [cE, Option.some.injEq, reduceCtorEq] at h <;> subst h <;> simp only [ev, Option.some.injEq] at hv <;> subst hv
  · exact wpAny_pure ⟨krefl s, rep_none⟩
  · exact wpAny_pure ⟨krefl s, rep_bool⟩
  · exact wpAny_mkInt ⟨kp, rep_int⟩
  · exact wpAny_mkText ⟨kp, rep_str⟩

theorem neg_ok {i : Int} {k : Nat} {pos pos' : Pos} : ES prog w mg mb hB n sc (.UnaryOp .USub (.Constant (.int i) k pos) pos') (.ci (-i)) := by
  intro F C G O env A s pv K hv
  simp only [ev, Option.some.injEq] at hv; subst hv
  exact wpAny_UnaryOp (wpAny_Constant_int (neg_int ⟨kp, rep_int⟩))

theorem bin_okE {l r : Expr} {o : Operator} {op : PBin} {a b : PE} {pos : Pos} (hl : ES prog w mg mb hB n sc l a) (hr : ES prog w mg mb hB n sc r b) (ho : cBin o = some op) :
    ES prog w mg mb hB n sc (.BinOp l o r pos) (.bin op a b) := by
  intro F C G O env A s pv K hv
  simp only [ev] at hv
  obtain ⟨x, e1, hv⟩ := Option.bind_eq_some_iff.mp hv
  obtain ⟨y, e2, hv⟩ := Option.bind_eq_some_iff.mp hv
  refine wpAny_BinOp (seqE (hl K e1) fun u s1 ⟨k1, r1⟩ => ?_)
  refine seqE (hr (K.keep k1) e2) fun v s2 ⟨k2, r2⟩ => ?_
  exact seqE (bin_ok ho hv (r1.keep (kheap k2)) r2 ((K.keep k1).keep k2).I.W) fun z s3 ⟨k3, r3⟩ => ⟨ktrans k1 (ktrans k2 k3), r3⟩

theorem cmp_okE {l r : Expr} {o : CmpOp} {a b : PE} {pos : Pos} (hl : ES prog w mg mb hB n sc l a) (hr : ES prog w mg mb hB n sc r b) (hm : behindInMarks o r = false) :
    ES prog w mg mb hB n sc (.Compare l [o] [r] pos) (.cmp (cCmp o) a b) := by
  intro F C G O env A s pv K hv
  simp only [ev] at hv
  obtain ⟨x, e1, hv⟩ := Option.bind_eq_some_iff.mp hv
  obtain ⟨y, e2, hv⟩ := Option.bind_eq_some_iff.mp hv
  obtain ⟨t, e3, rfl⟩ := Option.map_eq_some_iff.mp hv
  refine wpAny_Compare1 (seqE (hl K e1) fun u s1 ⟨k1, r1⟩ => ?_) hm
  refine seqE (hr (K.keep k1) e2) fun v s2 ⟨k2, r2⟩ => ?_
  exact seqE (cmp_ok K.R e3 (r1.keep (kheap k2)) r2 ((K.keep k1).keep k2).I.W) fun z s3 ⟨k3, r3⟩ => ⟨ktrans k1 (ktrans k2 k3), by subst r3; exact rep_bool⟩

theorem cmp_okT {l r : Expr} {o : CmpOp} {a b : PE} {pos : Pos} (hl : ES prog w mg mb hB n sc l a) (hr : ES prog w mg mb hB n sc r b) (hm : behindInMarks o r = false) :
    TS prog w mg mb hB n sc (.Compare l [o] [r] pos) (.cmp (cCmp o) a b) := by
  intro F C G O env A s pv K hv
  simp only [pt] at hv
  obtain ⟨x, e1, hv⟩ := Option.bind_eq_some_iff.mp hv
  obtain ⟨y, e2, hv⟩ := Option.bind_eq_some_iff.mp hv
  refine wpAny_isTrue_Compare1 (seqE (hl K e1) fun u s1 ⟨k1, r1⟩ => ?_) hm
  refine seqE (hr (K.keep k1) e2) fun v s2 ⟨k2, r2⟩ => ?_
  exact seqE (cmp_ok K.R hv (r1.keep (kheap k2)) r2 ((K.keep k1).keep k2).I.W) fun z s3 ⟨k3, r3⟩ => by subst r3; exact wpAny_truthy_bool ⟨ktrans k1 (ktrans k2 k3), rfl⟩

theorem and_okE {l r : Expr} {a b : PE} {pos : Pos} (hl : ES prog w mg mb hB n sc l a) (hr : ES prog w mg mb hB n sc r b) : ES prog w mg mb hB n sc (.BoolOp .And [l, r] pos) (.and2 a b) := by
  intro F C G O env A s pv K hv
  simp only [ev] at hv
  obtain ⟨x, e1, hv⟩ := Option.bind_eq_some_iff.mp hv
  obtain ⟨t, e2, hv⟩ := Option.bind_eq_some_iff.mp hv
  refine wpAny_And2 (seqE (hl K e1) fun u s1 ⟨k1, r1⟩ => ?_)
  refine seqE (truth_ok e2 r1 (K.keep k1).I.W) fun t' s2 ⟨k2, r2⟩ => ?_
  subst r2
  cases t'
  · simp only [Bool.false_eq_true, if_false, Option.some.injEq] at hv ⊢
    subst hv; exact ⟨ktrans k1 k2, r1.keep (kheap k2)⟩
  · simp only [if_true] at hv ⊢
    exact seqE (hr ((K.keep k1).keep k2) hv) fun z s3 ⟨k3, r3⟩ => ⟨ktrans k1 (ktrans k2 k3), r3⟩
theorem or_okE {l : Expr} {a b : PE} {rest : List Expr} {pos : Pos} (hl : ES prog w mg mb hB n sc l a)
    (hr : ∀ {F : PF1} {C : RC} {G : Slots} {O : Owns} {env : Env} {A : Around} {s : Shared} {pv : PV}, Cx prog w mg mb hB n sc F C G O env A s.heap → ev F O G b = some pv → wpAny (model prog w) A (boolOp pos .Or (evalEach rest env)) (Post C s pv) noE s)
    (hne : ∀ env : Env, ∃ y ys, evalEach rest env = y :: ys) :
    ES prog w mg mb hB n sc (.BoolOp .Or (l :: rest) pos) (.or2 a b) := by
  intro F C G O env A s pv K hv
  simp only [ev] at hv
  obtain ⟨x, e1, hv⟩ := Option.bind_eq_some_iff.mp hv
  obtain ⟨t, e2, hv⟩ := Option.bind_eq_some_iff.mp hv
  obtain ⟨y, ys, hy⟩ := hne env
  rw [arm_eval_BoolOp]
  have e : boolOp pos .Or (evalEach (l :: rest) env) = (do
    let v ← eval l env
    standAt pos
    let t ← holding [v] (truthy v)
    match BoolOp.Or, t with
    | .And, false | .Or, true => pure v
    | _, _ => boolOp pos .Or (evalEach rest env)) := by
    show boolOp pos .Or (eval l env :: evalEach rest env) = _
    rw [hy]; rfl
  rw [e]
  refine wpAny_bind (seqE (hl K e1) fun u s1 ⟨k1, r1⟩ => wpAny_bind (wpAny_standAt (wpAny_bind (wpAny_holding ?_))))
  refine seqE (truth_ok e2 r1 (K.keep k1).I.W) fun t' s2 ⟨k2, r2⟩ => ?_
  subst r2
  cases t'
  · simp only [Bool.false_eq_true, if_false] at hv ⊢
    exact seqE (hr ((K.keep k1).keep k2) hv) fun z s3 ⟨k3, r3⟩ => ⟨ktrans k1 (ktrans k2 k3), r3⟩
  · simp only [if_true, Option.some.injEq] at hv ⊢
    subst hv; exact wpAny_pure ⟨ktrans k1 k2, r1.keep (kheap k2)⟩

theorem allTrue_cons {op : BoolOp} {x : Expr} {rest : List Expr} {env : Env} : allTrue op (x :: rest) env = (do
    match op, ← isTrue x env (eval x env) with
    | .And, false => pure false
    | .Or, true => pure true
    | _, _ => allTrue op rest env) := rfl
theorem and_okT {l r : Expr} {a b : PE} {pos : Pos} (hl : TS prog w mg mb hB n sc l a) (hr : TS prog w mg mb hB n sc r b) : TS prog w mg mb hB n sc (.BoolOp .And [l, r] pos) (.and2 a b) := by
  intro F C G O env A s pv K hv
  simp only [pt] at hv
  obtain ⟨t, e1, hv⟩ := Option.bind_eq_some_iff.mp hv
  rw [arm_isTrue_BoolOp, allTrue_cons]
  refine wpAny_bind (seqE (hl K e1) fun t' s1 ⟨k1, r1⟩ => ?_)
  subst r1
  cases t'
  · simp only [Bool.false_eq_true, if_false, Option.some.injEq] at hv
    subst hv; exact wpAny_pure ⟨k1, rfl⟩
  · simp only [if_true] at hv
    show wpAny _ _ (allTrue .And [r] env) _ _ _
    rw [allTrue_cons]
    refine wpAny_bind (seqE (hr (K.keep k1) hv) fun t2 s2 ⟨k2, r2⟩ => ?_)
    subst r2
    cases t2
    · exact wpAny_pure ⟨ktrans k1 k2, rfl⟩
    · exact wpAny_pure ⟨ktrans k1 k2, rfl⟩
theorem or_okT {l : Expr} {a b : PE} {rest : List Expr} {pos : Pos} (hl : TS prog w mg mb hB n sc l a)
    (hr : ∀ {F : PF1} {C : RC} {G : Slots} {O : Owns} {env : Env} {A : Around} {s : Shared} {b' : Bool}, Cx prog w mg mb hB n sc F C G O env A s.heap → pt F O G b = some b' → wpAny (model prog w) A (allTrue .Or rest env) (PostT s b') noE s) :
    TS prog w mg mb hB n sc (.BoolOp .Or (l :: rest) pos) (.or2 a b) := by
  intro F C G O env A s pv K hv
  simp only [pt] at hv
  obtain ⟨t, e1, hv⟩ := Option.bind_eq_some_iff.mp hv
  rw [arm_isTrue_BoolOp, allTrue_cons]
  refine wpAny_bind (seqE (hl K e1) fun t' s1 ⟨k1, r1⟩ => ?_)
  subst r1
  cases t'
  · simp only [Bool.false_eq_true, if_false] at hv
    exact seqE (hr (K.keep k1) hv) fun t2 s2 ⟨k2, r2⟩ => ⟨ktrans k1 k2, r2⟩
  · simp only [if_true, Option.some.injEq] at hv
    subst hv; exact wpAny_pure ⟨k1, rfl⟩
theorem allOr_one {r : Expr} {b : PE} (hr : TS prog w mg mb hB n sc r b) {F : PF1} {C : RC} {G : Slots} {O : Owns} {env : Env} {A : Around} {s : Shared} {b' : Bool} (K : Cx prog w mg mb hB n sc F C G O env A s.heap) (hv : pt F O G b = some b') :
    wpAny (model prog w) A (allTrue .Or [r] env) (PostT s b') noE s := by
  rw [allTrue_cons]
  refine wpAny_bind (seqE (hr K hv) fun t2 s2 ⟨k2, r2⟩ => ?_)
  subst r2
  cases t2
  · exact wpAny_pure ⟨k2, rfl⟩
  · exact wpAny_pure ⟨k2, rfl⟩

theorem not_okE {l : Expr} {a : PE} {pos : Pos} (hl : ES prog w mg mb hB n sc l a) : ES prog w mg mb hB n sc (.UnaryOp .Not l pos) (.not a) := by
  intro F C G O env A s pv K hv
  simp only [ev] at hv
  obtain ⟨x, e1, hv⟩ := Option.bind_eq_some_iff.mp hv
  obtain ⟨t, e2, rfl⟩ := Option.map_eq_some_iff.mp hv
  refine wpAny_UnaryOp (seqE (hl K e1) fun u s1 ⟨k1, r1⟩ => ?_)
  exact not_of (seqE (truth_ok e2 r1 (K.keep k1).I.W) fun t' s2 ⟨k2, r2⟩ => ⟨ktrans k1 k2, by subst r2; exact rep_bool⟩)
theorem not_okT {l : Expr} {a : PE} {pos : Pos} (hl : TS prog w mg mb hB n sc l a) : TS prog w mg mb hB n sc (.UnaryOp .Not l pos) (.not a) := by
  intro F C G O env A s pv K hv
  simp only [pt] at hv
  obtain ⟨t, e2, rfl⟩ := Option.map_eq_some_iff.mp hv
  exact wpAny_isTrue_Not (seqE (hl K e2) fun t' s1 ⟨k1, r1⟩ => ⟨k1, by subst r1; rfl⟩)
theorem ite_okE {c l r : Expr} {p a b : PE} {pos : Pos} (hc : TS prog w mg mb hB n sc c p) (hl : ES prog w mg mb hB n sc l a) (hr : ES prog w mg mb hB n sc r b) :
    ES prog w mg mb hB n sc (.IfExp c l r pos) (.ite p a b) := by
  intro F C G O env A s pv K hv
  simp only [ev] at hv
  obtain ⟨t, e1, hv⟩ := Option.bind_eq_some_iff.mp hv
  refine wpAny_IfExp (seqE (hc K e1) fun t' s1 ⟨k1, r1⟩ => ?_)
  subst r1
  cases t'
  · simp only [Bool.false_eq_true, if_false] at hv ⊢
    exact seqE (hr (K.keep k1) hv) fun z s3 ⟨k3, r3⟩ => ⟨ktrans k1 k3, r3⟩
  · simp only [if_true] at hv ⊢
    exact seqE (hl (K.keep k1) hv) fun z s3 ⟨k3, r3⟩ => ⟨ktrans k1 k3, r3⟩
/-- a test that is just the value's truth -/
theorem plain_okT {e : Expr} {pe : PE} (he : ES prog w mg mb hB n sc e pe) (ht : ∀ (env : Env) (w : Sem Value), isTrue e env w = (do let v ← w; standAt e.pos; holding [v] (truthy v)))
    {F : PF1} {C : RC} {G : Slots} {O : Owns} {env : Env} {A : Around} {s : Shared} {b : Bool} (K : Cx prog w mg mb hB n sc F C G O env A s.heap) (hv : (ev F O G pe).bind (ptruth O) = some b) :
    wpAny (model prog w) A (isTrue e env (eval e env)) (PostT s b) noE s := by
  obtain ⟨x, e1, e2⟩ := Option.bind_eq_some_iff.mp hv
  rw [ht]
  refine wpAny_bind (seqE (he K e1) fun u s1 ⟨k1, r1⟩ => wpAny_bind (wpAny_standAt (wpAny_holding ?_)))
  exact seqE (truth_ok e2 r1 (K.keep k1).I.W) fun t' s2 ⟨k2, r2⟩ => ⟨ktrans k1 k2, r2⟩
end
end Mine

namespace Mine
open StrLaws

theorem starEach_of : ∀ {es : List Expr} {env : Env}, NoStars es = true → starEach es env = es.map fun e => (false, eval e env)
  | [], _, _ => rfl
  | e :: r, env, h => by
    have hr : NoStars r = true := by cases e <;> first | exact h | (simp [NoStars] at h)
    have := starEach_of (env := env) hr
    cases e <;> first | (simp [NoStars] at h; done) | (simp only [starEach, List.map_cons, this])
theorem backTo_of {es : List Expr} {env : Env} {pos : Pos} (h : NoStars es = true) : backTo pos (starEach es env) = es.map fun e => (false, eval e env) := by
  rw [starEach_of h]
  unfold backTo
  rw [List.map_map]
  exact List.map_congr_left fun e _ => rfl
theorem any_of {es : List Expr} {env : Env} : (es.map fun e => (false, eval e env)).any (·.1) = false := by
  induction es with
  | nil => rfl
  | cons e r ih => simp

section
variable {prog : Program} {w : World} {mg mb : Str → Option Value} {hB : Heap} {n : Nat} {sc : Scope}

theorem ss_nil : SS prog w mg mb hB n sc [] .nil := by
  intro F C G O env A s vs K hv
  simp only [evs, Option.some.injEq] at hv; subst hv
  exact Calls.spliced_nil ⟨krefl s, by simp only [RepL]⟩
theorem ss_cons {e : Expr} {es : List Expr} {p : PE} {ps : PEs} (he : ES prog w mg mb hB n sc e p) (hs : SS prog w mg mb hB n sc es ps) : SS prog w mg mb hB n sc (e :: es) (.cons p ps) := by
  intro F C G O env A s vs K hv
  simp only [evs] at hv
  obtain ⟨x, e1, hv⟩ := Option.bind_eq_some_iff.mp hv
  obtain ⟨xs, e2, rfl⟩ := Option.map_eq_some_iff.mp hv
  refine Calls.spliced_cons (seqE (he K e1) fun u s1 ⟨k1, r1⟩ => ?_)
  refine seqE (hs (K.keep k1) e2) fun us s2 ⟨k2, r2⟩ => ⟨ktrans k1 k2, ?_⟩
  simp only [RepL]
  exact ⟨u, us, rfl, r1.keep (kheap k2), r2⟩

theorem evalArgs_of {A : Around} {E : Value → Shared → Prop} {s : Shared} {f : Value} {es : List Expr} {env : Env} {Q : Args → Shared → Prop}
    (h : wpAny (model prog w) A (spliced (es.map fun e => (false, eval e env))) (fun vs s' => Q ⟨vs, []⟩ s') E s) : wpAny (model prog w) A (evalArgs f true (es.map fun e => (false, eval e env)) []) Q E s := by
  cases es with
  | nil =>
    unfold evalArgs
    show wpAny _ A (spliced [] >>= _) Q E s
    refine wpAny_bind (wpAny_mono h (fun vs s' h' => ?_) fun _ _ x => x)
    refine wpAny_holding ?_
    exact wpAny_bind (wpAny_pure (wpAny_bind (wpAny_pure (wpAny_pure h'))))
  | cons e r => exact Calls.evalArgs_plain h

theorem evs_len {F : PF1} {O : Owns} {G : Slots} : ∀ {ps : PEs} {vs : List PV}, evs F O G ps = some vs → vs.length = ps.len
  | .nil, vs, h => by simp only [evs, Option.some.injEq] at h; subst h; rfl
  | .cons p r, vs, h => by
    simp only [evs] at h
    obtain ⟨x, e1, h⟩ := Option.bind_eq_some_iff.mp h
    obtain ⟨xs, e2, rfl⟩ := Option.map_eq_some_iff.mp h
    simp [PEs.len, evs_len e2]

theorem tup_okE {es : List Expr} {ps : PEs} {k : Nat} {pos : Pos} (hs : SS prog w mg mb hB n sc es ps) (hn : NoStars es = true) (hl : ps.len ≤ 64) : ES prog w mg mb hB n sc (.Tuple es k pos) (.tup ps) := by
  intro F C G O env A s pv K hv
  simp only [ev] at hv
  obtain ⟨xs, e2, rfl⟩ := Option.map_eq_some_iff.mp hv
  refine wpAny_Tuple_spliced ?_
  rw [backTo_of hn]
  refine seqE (hs K e2) fun us s1 ⟨k1, r1⟩ => ⟨?_, ktrans k1 kpush, rep_newT (K.keep k1).I.W r1⟩
  rw [r1.length, evs_len e2, sizeLine_eq]; omega
theorem lst_okE {es : List Expr} {ps : PEs} {pos : Pos} (hs : SS prog w mg mb hB n sc es ps) (hn : NoStars es = true) (hl : ps.len ≤ 64) : ES prog w mg mb hB n sc (.List es pos) (.lst ps) := by
  intro F C G O env A s pv K hv
  simp only [ev] at hv
  obtain ⟨xs, e2, rfl⟩ := Option.map_eq_some_iff.mp hv
  refine wpAny_List_spliced ?_
  rw [backTo_of hn]
  refine seqE (hs K e2) fun us s1 ⟨k1, r1⟩ => ⟨?_, ktrans k1 kpush, rep_new (K.keep k1).I.W r1⟩
  rw [r1.length, evs_len e2, sizeLine_eq]; omega

theorem wpAny_letGoP {A : Around} {E : Value → Shared → Prop} {s : Shared} {base : Expr} {o r : Value} {Q : Unit → Shared → Prop} (h : Q () s) : wpAny (model prog w) A (letTemporaryGo base o r) Q E s := by
  unfold letTemporaryGo
  split
  · exact wpAny_pure h
  · refine wpAny_bind (wpAny_holding (wpAny_runValue (codeAny_builtin entry_let_go ?_)))
    exact wpAny_pure (wpAny_pure h)
  · exact wpAny_pure h

theorem itemtail {A : Around} {E : Value → Shared → Prop} {s : Shared} {value slice : Expr} {o i : Value} {T id : String} {Q : Value → Shared → Prop} (hT : s.TypeIs o T)
    (hl : typeLookup (.type T) "__getitem__" = pure (some (.builtin id))) (h : wpAny (model prog w) A (getItem o i) Q E s)
    (hs : ∃ ops, subscripted slice false o i = operate ops (getItem o i)) :
    wpAny (model prog w) A (subscriptTail value slice o i) Q E s := by
  obtain ⟨ops, hs⟩ := hs
  unfold subscriptTail
  refine wpAny_bind ?_
  rw [getitemInPython_of_ne hT.not_modules]
  refine wpAny_bind (wpAny_specialOf hT hl ?_)
  have fin : wpAny (model prog w) A (subscripted slice false o i) (fun r s₃ => wpAny (model prog w) A (letTemporaryGo value o r >>= fun _ => pure r) Q E s₃) E s := by
    rw [hs]
    exact wpAny_operating (wpAny_mono h (fun r s₃ h₃ => wpAny_bind (wpAny_letGoP (wpAny_pure h₃))) fun _ _ x => x)
  first
    | exact wpAny_pure (wpAny_bind fin)
    | exact wpAny_bind (wpAny_pure (wpAny_bind fin))
    | exact wpAny_bind fin

theorem sub_ops (slice : Expr) (o i : Value) : ∃ ops, subscripted slice false o i = operate ops (getItem o i) := by
  unfold subscripted
  split
  · exact ⟨_, rfl⟩
  · rename_i h; cases h
  · exact ⟨_, rfl⟩

/-- what a value that has items is -/
theorem item_type {C : RC} {O : Owns} {s : Shared} {x y r : PV} {u : Value} (W : Owned C O s.heap) (hx : Rep C s.heap x u)
    (hr : (∃ l, x = .str l) ∨ (∃ l, x = .tup l) ∨ ∃ l, asL O x = some l) : ∃ T id, s.TypeIs u T ∧ typeLookup (.type T) "__getitem__" = pure (some (.builtin id)) := by
  rcases hr with ⟨l, rfl⟩ | ⟨l, rfl⟩ | ⟨l, e⟩
  · simp only [Rep] at hx; obtain ⟨t, k, rfl, _⟩ := hx
    exact ⟨"str", _, typeIs_str _ _ _, F.slot_str_getitem.lookup⟩
  · simp only [Rep] at hx; obtain ⟨a, xs, rfl, _, ht, _⟩ := hx
    exact ⟨"tuple", _, ht.typeIs, slot_tuple_getitem.lookup⟩
  · obtain ⟨a, xs, rfl, hp, _⟩ := asL_rep W e hx
    exact ⟨"list", _, hp.isList.typeIs, list_getitem_lookup⟩

theorem pitem_kind {O : Owns} {x y r : PV} (h : pitem O x y = some r) : (∃ l, x = .str l) ∨ (∃ l, x = .tup l) ∨ ∃ l, asL O x = some l := by
  unfold pitem at h
  split at h
  · exact .inl ⟨_, rfl⟩
  · exact .inr (.inl ⟨_, rfl⟩)
  · split at h
    · obtain ⟨l, e, _⟩ := Option.bind_eq_some_iff.mp h
      exact .inr (.inr ⟨l, e⟩)
    · cases h
  · cases h
theorem pslc_kind {O : Owns} {x y z r : PV} (h : pslc O x y z = some r) : (∃ l, x = .str l) ∨ (∃ l, x = .tup l) ∨ ∃ l, asL O x = some l := by
  unfold pslc at h
  split at h
  · split at h
    · exact .inl ⟨_, rfl⟩
    · exact .inr (.inl ⟨_, rfl⟩)
    · split at h
      · exact .inr (.inr ⟨_, by assumption⟩)
      · cases h
  · cases h

theorem idx_okE {v i : Expr} {a b : PE} {pos : Pos} (hv : ES prog w mg mb hB n sc v a) (hi : ES prog w mg mb hB n sc i b) : ES prog w mg mb hB n sc (.Subscript v i pos) (.idx a b) := by
  intro F C G O env A s pv K h
  simp only [ev] at h
  obtain ⟨x, e1, h⟩ := Option.bind_eq_some_iff.mp h
  obtain ⟨y, e2, h⟩ := Option.bind_eq_some_iff.mp h
  refine Subscript_ (seqE (hv K e1) fun u s1 ⟨k1, r1⟩ => seqE (hi (K.keep k1) e2) fun u2 s2 ⟨k2, r2⟩ => ?_)
  have K2 := (K.keep k1).keep k2
  obtain ⟨T, id, hT, hl⟩ := item_type (y := y) (r := pv) K2.I.W (r1.keep (kheap k2)) (pitem_kind h)
  exact itemtail hT hl (seqE (item_ok h (r1.keep (kheap k2)) r2 K2.I.W) fun z s3 ⟨k3, r3⟩ => ⟨ktrans k1 (ktrans k2 k3), r3⟩) (sub_ops _ _ _)

theorem os_none : OS prog w mg mb hB n sc none .cn := by
  intro F C G O env A s pv K hv
  simp only [ev, Option.some.injEq] at hv; subst hv
  exact wpAny_pure ⟨krefl s, rep_none⟩
theorem os_some {e : Expr} {pe : PE} (h : ES prog w mg mb hB n sc e pe) : OS prog w mg mb hB n sc (some e) pe := fun K hv => h K hv

theorem sl_okE {v : Expr} {lo hi : Option Expr} {a b c : PE} {p pos : Pos} (hv : ES prog w mg mb hB n sc v a) (hlo : OS prog w mg mb hB n sc lo b) (hhi : OS prog w mg mb hB n sc hi c) :
    ES prog w mg mb hB n sc (.Subscript v (.Slice lo hi none p) pos) (.sl a b c) := by
  intro F C G O env A s pv K h
  simp only [ev] at h
  obtain ⟨x, e1, h⟩ := Option.bind_eq_some_iff.mp h
  obtain ⟨y, e2, h⟩ := Option.bind_eq_some_iff.mp h
  obtain ⟨z, e3, h⟩ := Option.bind_eq_some_iff.mp h
  refine Subscript_ (seqE (hv K e1) fun u s1 ⟨k1, r1⟩ => ?_)
  have K1 := K.keep k1
  refine wpAny_Slice (seqE (hlo K1 e2) fun u2 s2 ⟨k2, r2⟩ => ?_)
  have K2 := K1.keep k2
  refine seqE (hhi K2 e3) fun u3 s3 ⟨k3, r3⟩ => ?_
  have K3 := K2.keep k3
  rw [evalPart_none]
  refine wpAny_pure ?_
  have k4 : Keeps s3 { s3 with heap := s3.heap.push { cls := .type "slice", data := .fields #[u2, u3, .none] } } := kpush
  have K4 := K3.keep k4
  have q1 := ((r1.keep (kheap k2)).keep (kheap k3)).keep (kheap k4)
  have q2 := (r2.keep (kheap k3)).keep (kheap k4)
  have q3 := r3.keep (kheap k4)
  obtain ⟨T, id, hT, hl⟩ := item_type (y := y) (r := pv) K4.I.W q1 (pslc_kind h)
  exact itemtail hT hl (seqE (slc_ok h q1 q2 q3 K4.I.W (Heap.IsSliceOf.new ..)) fun z s5 ⟨k5, r5⟩ => ⟨ktrans k1 (ktrans k2 (ktrans k3 (ktrans k4 k5))), r5⟩) (sub_ops _ _ _)

theorem cBi_mem {f : Str} {m : Nat} {b : PBi} (h : cBi f m = some b) : (f, biVal b) ∈ biTab := by
  unfold cBi at h
  split at h
  · rename_i q; cases h; simp only [Bool.and_eq_true, beq_iff_eq] at q; rw [q.1]; exact .head _
  split at h
  · rename_i q; cases h; simp only [Bool.and_eq_true, beq_iff_eq] at q; rw [q.1]; exact .tail _ (.head _)
  split at h
  · rename_i q; cases h; simp only [Bool.and_eq_true, beq_iff_eq] at q; rw [q.1]; exact .tail _ (.head _)
  split at h
  · rename_i q; cases h; simp only [Bool.and_eq_true, beq_iff_eq] at q; rw [q.1]; exact .tail _ (.tail _ (.head _))
  split at h
  · rename_i q; cases h; simp only [Bool.and_eq_true, beq_iff_eq] at q; rw [q.1]; exact .tail _ (.tail _ (.tail _ (.head _)))
  split at h
  · rename_i q; cases h; simp only [Bool.and_eq_true, beq_iff_eq] at q; rw [q.1]; exact .tail _ (.tail _ (.tail _ (.tail _ (.head _))))
  split at h
  · rename_i q; cases h; simp only [Bool.and_eq_true, beq_iff_eq] at q; rw [q.1]; exact .tail _ (.tail _ (.tail _ (.tail _ (.tail _ (.head _)))))
  cases h

theorem glob_load {x : Str} {pos : Pos} {v : Value} {F : PF1} {C : RC} {G : Slots} {O : Owns} {env : Env} {A : Around} {s : Shared} {Q : Value → Shared → Prop} {E : Value → Shared → Prop} (K : Cx prog w mg mb hB n sc F C G O env A s.heap)
    (hg : isGl sc x = true) (hd : dbg x = false) (hv : mg x = some v ∨ (mg x = none ∧ mb x = some v)) (h : Q v s) : wpAny (model prog w) A (eval (.Name x pos) env) Q E s := by
  have hd1 : (x == ("__debug__" : Str)) = false := by unfold dbg at hd; simp only [Bool.or_eq_false_iff] at hd; exact hd.1
  have hk := K.I.gls x (by unfold isGl at hg; simpa using hg)
  refine Calls.Name_function_global K.I.kind hk ?_ hd1
  have n1 : s.heap.Ns env.globals mg := by rw [K.I.glb]; exact K.I.top.ns K.I.base.nsg
  have n2 : s.heap.Ns env.builtins mb := by rw [K.I.blt]; exact K.I.top.ns K.I.base.nsb
  rcases hv with hv | ⟨h1, h2⟩
  · exact Calls.loadGlobal_global n1 hv h
  · exact Calls.loadGlobal_builtin n1 h1 n2 h2 h

theorem bi_okE {f : Str} {fp pos : Pos} {args : List Expr} {m : Nat} {b : PBi} {ps : PEs} (hs : SS prog w mg mb hB n sc args ps) (hn : NoStars args = true) (hg : isGl sc f = true) (hd : dbg f = false) (hb : cBi f m = some b) :
    ES prog w mg mb hB n sc (.Call (.Name f fp) args [] pos) (.bi b ps) := by
  intro F C G O env A s pv K h
  simp only [ev] at h
  obtain ⟨vs, e1, h⟩ := Option.bind_eq_some_iff.mp h
  have hm := cBi_mem hb
  have hbi := K.I.base.bis (f, biVal b) hm
  refine Call_Name (backTo_of hn) (glob_load (v := biVal b) K hg hd (.inr hbi) ?_)
  have go : wpAny (model prog w) A (evalArgs (biVal b) true (args.map fun e => (false, eval e env)) []) (fun a s₁ => wpAny (model prog w) A (call (biVal b) ([] ++ a.pos) a.kw) (Post C s pv) noE s₁) noE s :=
    evalArgs_of (seqE (hs K e1) fun us s1 ⟨k1, r1⟩ => seqE (bi_ok K.R h r1 (K.keep k1).I.W) fun z s2 ⟨k2, r2⟩ => ⟨ktrans k1 k2, r2⟩)
  cases b
  · exact Calls.callWith_builtin (id := "len") any_of go
  · exact Calls.callWith_builtin (id := "max") any_of go
  · exact Calls.callWith_builtin (id := "max") any_of go
  · exact Calls.callWith_builtin (id := "sum") any_of go
  · exact PyProof.Rows.callWith_type (T := "list") any_of go
  · exact Calls.callWith_builtin (id := "chr") any_of go
  · exact Calls.callWith_builtin (id := "ord") any_of go

theorem call_okE {x : Str} {f : String} {fp pos : Pos} {args : List Expr} {ps : PEs} (hs : SS prog w mg mb hB n sc args ps) (hn : NoStars args = true) (hg : isGl sc x = true) (hd : dbg x = false) (hf : (x, f) ∈ fnTab) :
    ES prog w mg mb hB n sc (.Call (.Name x fp) args [] pos) (.call f ps) := by
  intro F C G O env A s pv K h
  simp only [ev] at h
  obtain ⟨vs, e1, h⟩ := Option.bind_eq_some_iff.mp h
  split at h
  · rename_i hno
    obtain ⟨a, fd, o, h1, h2, h3, h4, h5⟩ := K.FS.fn x f vs pv hf h
    refine Call_Name (backTo_of hn) (glob_load (v := .ref a) K hg hd (.inl h1) ?_)
    refine Calls.callWith_function (o := o) (fd := fd) (evalArgs_of (seqE (hs K e1) fun us s1 ⟨k1, r1⟩ => ⟨⟨(K.keep k1).I.top.func h2 h3, h3⟩, ?_⟩))
    exact seqE (h5 C us A s1 (K.keep k1).I.top (K.keep k1).I.W.lt r1 hno K.R) fun z s2 ⟨k2, r2⟩ => ⟨ktrans k1 k2, r2⟩
  · cases h

theorem call_okT {x : Str} {f : String} {fp pos : Pos} {args : List Expr} {ps : PEs} (he : ES prog w mg mb hB n sc (.Call (.Name x fp) args [] pos) (.call f ps)) : TS prog w mg mb hB n sc (.Call (.Name x fp) args [] pos) (.call f ps) := by
  intro F C G O env A s b K h
  refine plain_okT he (fun _ _ => rfl) K ?_
  simp only [pt] at h
  simp only [ev]
  obtain ⟨vs, e1, h⟩ := Option.bind_eq_some_iff.mp h
  rw [e1]
  simp only [Option.bind_some]
  split at h
  · rw [if_pos ‹_›]; exact h
  · cases h
theorem var_okT {x : Str} {i : Nat} {pos : Pos} (he : ES prog w mg mb hB n sc (.Name x pos) (.var i)) : TS prog w mg mb hB n sc (.Name x pos) (.var i) := by
  intro F C G O env A s b K h
  refine plain_okT he (fun _ _ => rfl) K ?_
  simp only [pt] at h
  simp only [ev]
  split at h
  · exact h
  · cases h
theorem true_okT {b : Bool} {k : Nat} {pos : Pos} : TS prog w mg mb hB n sc (.Constant (.bool b) k pos) (.cb b) := by
  intro F C G O env A s b' K h
  simp only [pt, Option.some.injEq] at h; subst h
  refine plain_okT (pe := .cb b) (const_ok (m := 0) (by simp [cE])) (fun _ _ => rfl) K ?_
  simp [ev, ptruth]

theorem cMe_eq {x : Str} {m : Nat} {me : PMe} (h : cMe x m = some me) : (x = ("join" : Str) ∧ me = .join) ∨ (x = ("split" : Str) ∧ me = .split) ∨ (x = ("replace" : Str) ∧ me = .replace) ∨ (x = ("find" : Str) ∧ me = .find) ∨ (x = ("index" : Str) ∧ me = .index) := by
  unfold cMe at h
  simp only [Bool.and_eq_true, beq_iff_eq] at h
  repeat' split at h
  all_goals first
    | (cases h; rename_i h; simp [h.1]; done)
    | cases h

theorem base_plain {o : Expr} {name : Str} {env : Env} (h : noSuper o = true) : attributeBase o name env (eval o env) = eval o env := by
  unfold attributeBase
  split
  · rename_i heq; simp [noSuper] at h
  · rfl

theorem me_slot {me : PMe} {x : Str} {m : Nat} {C : RC} {O : Owns} {s : Shared} {o r : PV} {vs : List PV} {u : Value} (W : Owned C O s.heap) (hm : cMe x m = some me) (hr : pme O me o vs = some r) (hu : Rep C s.heap o u) :
    ∃ T, PlainAttrs T ∧ Slot T x (meId me true) ∧ typeOf (.builtin (meId me true)) = pure (.type "method_descriptor") ∧ s.TypeIs u T ∧ (∀ a, u = .ref a → ∃ ob, s.heap.get? a = some ob ∧ ob.dict = none) := by
  have str : ∀ {l : List Nat}, o = .str l → s.TypeIs u "str" ∧ (∀ a, u = .ref a → ∃ ob, s.heap.get? a = some ob ∧ ob.dict = none) := by
    rintro l rfl
    simp only [Rep] at hu; obtain ⟨t, k, rfl, _⟩ := hu
    exact ⟨typeIs_str _ _ _, fun a e => by cases e⟩
  rcases cMe_eq hm with ⟨rfl, rfl⟩ | ⟨rfl, rfl⟩ | ⟨rfl, rfl⟩ | ⟨rfl, rfl⟩ | ⟨rfl, rfl⟩
  · have : ∃ l, o = .str l := by unfold pme at hr; split at hr <;> first | exact ⟨_, rfl⟩ | (simp_all; done)
    obtain ⟨l, hl⟩ := this
    exact ⟨"str", F.plainAttrs_str, F.slot_str_join, F.type_str_join, str hl⟩
  · have : ∃ l, o = .str l := by unfold pme at hr; split at hr <;> first | exact ⟨_, rfl⟩ | (simp_all; done)
    obtain ⟨l, hl⟩ := this
    exact ⟨"str", F.plainAttrs_str, F.slot_str_split, F.type_str_split, str hl⟩
  · have : ∃ l, o = .str l := by unfold pme at hr; split at hr <;> first | exact ⟨_, rfl⟩ | (simp_all; done)
    obtain ⟨l, hl⟩ := this
    exact ⟨"str", F.plainAttrs_str, F.slot_str_replace, F.type_str_replace, str hl⟩
  · unfold pme at hr; split at hr <;> simp_all
  · have : ∃ l, asL O o = some l := by
      unfold pme at hr
      split at hr <;> simp_all
      split at hr
      · exact ⟨_, by assumption⟩
      · cases hr
    obtain ⟨l, hl⟩ := this
    obtain ⟨a, xs, rfl, ⟨k, hp⟩, _⟩ := asL_rep W hl hu
    exact ⟨"list", F.plainAttrs_list, F.slot_list_index, F.type_list_index, ⟨_, hp, rfl⟩, fun b e => by cases e; exact ⟨_, hp, rfl⟩⟩

theorem me_okE {o : Expr} {x : Str} {ap pos : Pos} {args : List Expr} {m : Nat} {me : PMe} {a : PE} {ps : PEs} (ho : ES prog w mg mb hB n sc o a) (hs : SS prog w mg mb hB n sc args ps) (hn : NoStars args = true)
    (hm : cMe x args.length = some me) (hb : noSuper o = true) (hl : (ap.endLine == pos.line) = true) (hlen : args.length ≤ 4) : ES prog w mg mb hB n sc (.Call (.Attribute o x ap) args [] pos) (.me me a ps) := by
  intro F C G O env A s pv K h
  simp only [ev] at h
  obtain ⟨ov, e1, h⟩ := Option.bind_eq_some_iff.mp h
  obtain ⟨vs, e2, h⟩ := Option.bind_eq_some_iff.mp h
  refine wpAny_Call_method_lateS (base_plain hb) ?_ hl (seqE (ho K e1) fun u s1 ⟨k1, r1⟩ => ?_)
  · rw [backTo_of hn]
    simp only [Bool.and_eq_true, List.all_eq_true, decide_eq_true_eq]
    refine ⟨⟨?_, ?_⟩, ?_⟩
    · intro x hx; obtain ⟨e, _, rfl⟩ := List.mem_map.mp hx; rfl
    · intro x hx; simp [keywordEach, backToKw] at hx
    · simp only [List.length_nil]; simp; omega
  · have K1 := K.keep k1
    obtain ⟨T, pa, slot, ty, hT, hd⟩ := me_slot K1.I.W hm h r1
    refine ⟨T, _, pa, slot, ty, hT, hd, ?_⟩
    rw [backTo_of hn]
    refine Calls.callWith_builtin any_of (evalArgs_of (seqE (hs K1 e2) fun us s2 ⟨k2, r2⟩ => ?_))
    exact seqE (me_ok K.R h (r1.keep (kheap k2)) r2 (K1.keep k2).I.W) fun z s3 ⟨k3, r3⟩ => ⟨ktrans k1 (ktrans k2 k3), r3⟩
end
end Mine

namespace Mine
open StrLaws
section
variable {prog : Program} {w : World} {mg mb : Str → Option Value} {hB : Heap} {n : Nat} {sc : Scope}

/-! formatted texts -/
def JS (prog : Program) (w : World) (mg mb : Str → Option Value) (hB : Heap) (n : Nat) (sc : Scope) (es : List Expr) (pes : PEs) : Prop :=
  ∀ {F : PF1} {C : RC} {G : Slots} {O : Owns} {env : Env} {A : Around} {s : Shared} {vs : List PV} {ls : List (List Nat)} (out : Str), Cx prog w mg mb hB n sc F C G O env A s.heap → evs F O G pes = some vs → pstrs vs = some ls →
    out.cps.toList.length + (ls.map List.length).sum ≤ LIM →
    wpAny (model prog w) A (joinParts out (evalEach es env)) (fun v s' => Keeps s s' ∧ Rep C s'.heap (.str (out.cps.toList ++ ls.flatten)) v) noE s

theorem js_nil : JS prog w mg mb hB n sc [] .nil := by
  intro F C G O env A s vs ls out K e1 e2 hl
  simp only [evs, Option.some.injEq] at e1; subst e1
  simp only [pstrs, Option.some.injEq] at e2; subst e2
  refine joinParts_nil ⟨kp, rep_str' (by simp)⟩ ?_
  rw [str_len]; exact Nat.le_trans (by simpa using hl) lim_size

theorem js_tail {es : List Expr} {pes : PEs} (ht : JS prog w mg mb hB n sc es pes) {F : PF1} {C : RC} {G : Slots} {O : Owns} {env : Env} {A : Around} {s s1 : Shared} {y : Str} {vs : List PV} {ls : List (List Nat)} (out : Str)
    (K : Cx prog w mg mb hB n sc F C G O env A s.heap) (k1 : Keeps s s1) (e1 : evs F O G pes = some vs) (e2 : pstrs vs = some ls) (hl : out.cps.toList.length + ((y.cps.toList :: ls).map List.length).sum ≤ LIM) :
    (out ++ y).length ≤ sizeLine ∧ wpAny (model prog w) A (joinParts (out ++ y) (evalEach es env)) (fun v s' => Keeps s s' ∧ Rep C s'.heap (.str (out.cps.toList ++ (y.cps.toList :: ls).flatten)) v) noE s1 := by
  have ec : (out ++ y).cps.toList = out.cps.toList ++ y.cps.toList := by
    show (Str.append out y).cps.toList = _
    simp [Str.append]
  simp only [List.map_cons, List.sum_cons] at hl
  refine ⟨?_, ?_⟩
  · rw [str_len, ec, List.length_append]; exact Nat.le_trans (by omega) lim_size
  · refine seqE (ht (out ++ y) (K.keep k1) e1 e2 (by rw [ec, List.length_append]; omega)) fun z s2 ⟨k2, r2⟩ => ⟨ktrans k1 k2, ?_⟩
    rw [ec] at r2
    simpa using r2

theorem js_const {c : Str} {k : Nat} {pos : Pos} {es : List Expr} {pes : PEs} (ht : JS prog w mg mb hB n sc es pes) : JS prog w mg mb hB n sc (.Constant (.str c) k pos :: es) (.cons (.cs c.cps.toList) pes) := by
  intro F C G O env A s vs ls out K e1 e2 hl
  simp only [evs, ev, Option.bind_some] at e1
  obtain ⟨vs', e5, rfl⟩ := Option.map_eq_some_iff.mp e1
  simp only [pstrs] at e2
  obtain ⟨ls', e6, rfl⟩ := Option.map_eq_some_iff.mp e2
  refine joinParts_cons (seqE (const_ok (m := 0) (c := .str c) (pe := .cs c.cps.toList) (by simp [cE]) K (pv := .str c.cps.toList) rfl) fun v s1 ⟨k1, r1⟩ => ?_)
  simp only [Rep] at r1
  obtain ⟨y, t, rfl, ey⟩ := r1
  rw [← ey] at hl ⊢
  exact js_tail ht out K k1 e5 e6 hl

theorem js_field {e : Expr} {pe : PE} {pos : Pos} {es : List Expr} {pes : PEs} (he : ES prog w mg mb hB n sc e pe) (ht : JS prog w mg mb hB n sc es pes) : JS prog w mg mb hB n sc (.FormattedValue e (-1) none pos :: es) (.cons pe pes) := by
  intro F C G O env A s vs ls out K e1 e2 hl
  simp only [evs] at e1
  obtain ⟨v, e0, e1⟩ := Option.bind_eq_some_iff.mp e1
  obtain ⟨vs', e5, rfl⟩ := Option.map_eq_some_iff.mp e1
  have hx : ∃ l, v = .str l := by cases v <;> simp [pstrs] at e2 ⊢
  obtain ⟨l, rfl⟩ := hx
  simp only [pstrs] at e2
  obtain ⟨ls', e6, rfl⟩ := Option.map_eq_some_iff.mp e2
  have hl' : l.length ≤ LIM := by simp only [List.map_cons, List.sum_cons] at hl; omega
  refine joinParts_cons (FormattedValue_plain (seqE (he K e0) fun v s1 ⟨k1, r1⟩ => ?_))
  simp only [Rep] at r1
  obtain ⟨y, t, rfl, rfl⟩ := r1
  refine formatField_str (fun t' tk => ?_) (by rw [str_len]; exact Nat.le_trans hl' lim_size)
  exact js_tail ht out K (s1 := { s1 with toks := tk }) (ktrans k1 kp) e5 e6 hl

theorem fstr_okE {v₁ v₂ : Expr} {rest : List Expr} {pos : Pos} {pes : PEs} (h : JS prog w mg mb hB n sc (v₁ :: v₂ :: rest) pes) : ES prog w mg mb hB n sc (.JoinedStr (v₁ :: v₂ :: rest) pos) (.fstr pes) := by
  intro F C G O env A s pv K hv
  simp only [ev] at hv
  obtain ⟨vs, e1, hv⟩ := Option.bind_eq_some_iff.mp hv
  obtain ⟨ls, e2, hv⟩ := Option.bind_eq_some_iff.mp hv
  split at hv
  · rename_i hl
    cases hv
    refine JoinedStr_many (seqE (h (s := s) Str.empty K e1 e2 (by simpa [Str.empty] using hl)) fun v s1 ⟨k1, r1⟩ => ⟨k1, by simpa [Str.empty] using r1⟩)
  · cases hv

/-! chained comparisons -/
theorem cmp2_okE {l r r2 : Expr} {o o2 : CmpOp} {a b c : PE} {pos : Pos} (hl : ES prog w mg mb hB n sc l a) (hr : ES prog w mg mb hB n sc r b) (hr2 : ES prog w mg mb hB n sc r2 c) (hm : lastMarks [o, o2] [r, r2] = false) :
    ES prog w mg mb hB n sc (.Compare l [o, o2] [r, r2] pos) (.cmp2 (cCmp o) (cCmp o2) a b c) := by
  intro F C G O env A s pv K hv
  simp only [ev] at hv
  obtain ⟨x, e1, hv⟩ := Option.bind_eq_some_iff.mp hv
  obtain ⟨y, e2, hv⟩ := Option.bind_eq_some_iff.mp hv
  obtain ⟨t, e3, hv⟩ := Option.bind_eq_some_iff.mp hv
  refine Compare_chain (seqE (hl K e1) fun u s1 ⟨k1, r1⟩ => ?_) hm
  refine chain_link (seqE (hr (K.keep k1) e2) fun v s2 ⟨k2, r2'⟩ => ?_)
  refine seqE (cmp_ok K.R e3 (r1.keep (kheap k2)) r2' ((K.keep k1).keep k2).I.W) fun z s3 ⟨k3, r3⟩ => ?_
  subst r3
  refine wpAny_truthy_bool ?_
  cases t
  · simp only [Bool.false_eq_true, if_false, Option.some.injEq] at hv ⊢
    subst hv
    exact ⟨ktrans k1 (ktrans k2 k3), rep_bool⟩
  · simp only [if_true] at hv ⊢
    obtain ⟨z', e4, hv⟩ := Option.bind_eq_some_iff.mp hv
    obtain ⟨t', e5, rfl⟩ := Option.map_eq_some_iff.mp hv
    have K3 := ((K.keep k1).keep k2).keep k3
    refine chain_last (seqE (hr2 K3 e4) fun q s4 ⟨k4, r4⟩ => ?_)
    exact seqE (cmp_ok K.R e5 ((r2'.keep (kheap k3)).keep (kheap k4)) r4 (K3.keep k4).I.W) fun z s5 ⟨k5, r5⟩ => ⟨ktrans k1 (ktrans k2 (ktrans k3 (ktrans k4 k5))), by subst r5; exact rep_bool⟩

theorem cmp2_okT {l r r2 : Expr} {o o2 : CmpOp} {a b c : PE} {pos : Pos} (hl : ES prog w mg mb hB n sc l a) (hr : ES prog w mg mb hB n sc r b) (hr2 : ES prog w mg mb hB n sc r2 c) (hm : lastMarks [o, o2] [r, r2] = false) :
    TS prog w mg mb hB n sc (.Compare l [o, o2] [r, r2] pos) (.cmp2 (cCmp o) (cCmp o2) a b c) := by
  intro F C G O env A s pv K hv
  simp only [pt] at hv
  obtain ⟨x, e1, hv⟩ := Option.bind_eq_some_iff.mp hv
  obtain ⟨y, e2, hv⟩ := Option.bind_eq_some_iff.mp hv
  obtain ⟨t, e3, hv⟩ := Option.bind_eq_some_iff.mp hv
  refine isTrue_chain (seqE (hl K e1) fun u s1 ⟨k1, r1⟩ => ?_) hm
  refine test_link (seqE (hr (K.keep k1) e2) fun v s2 ⟨k2, r2'⟩ => ?_)
  refine seqE (cmp_ok K.R e3 (r1.keep (kheap k2)) r2' ((K.keep k1).keep k2).I.W) fun z s3 ⟨k3, r3⟩ => ?_
  subst r3
  refine wpAny_truthy_bool ?_
  cases t
  · simp only [Bool.false_eq_true, if_false, Option.some.injEq] at hv ⊢
    subst hv
    exact ⟨ktrans k1 (ktrans k2 k3), rfl⟩
  · simp only [if_true] at hv ⊢
    obtain ⟨z', e4, hv⟩ := Option.bind_eq_some_iff.mp hv
    have K3 := ((K.keep k1).keep k2).keep k3
    refine test_last (seqE (hr2 K3 e4) fun q s4 ⟨k4, r4⟩ => ?_)
    exact seqE (cmp_ok K.R hv ((r2'.keep (kheap k3)).keep (kheap k4)) r4 (K3.keep k4).I.W) fun z s5 ⟨k5, r5⟩ => by
      subst r5; exact wpAny_truthy_bool ⟨ktrans k1 (ktrans k2 (ktrans k3 (ktrans k4 k5))), rfl⟩
end
end Mine

namespace Mine
open StrLaws

theorem KN.tabLive {h h' : Heap} (k : KN h h') {ps : Array Value} (e : h.get? PT = some { cls := .none, data := .fields ps }) : ∃ ps', h'.get? PT = some { cls := .none, data := .fields ps' } :=
  let ⟨_, e', _⟩ := k.tab ps e; ⟨_, e'⟩

def ItObj (o : Obj) : Prop := (∃ fs, o.data = .fields fs) ∧ o.cls ≠ .none ∧ o.cls ≠ .type "builtin_function_or_method"
theorem ItObj.noTab {o : Obj} (h : ItObj o) : NoTab o := noTab_cls h.2.1
theorem ItObj.noVal {o : Obj} (h : ItObj o) : ¬ IsVal o := by
  obtain ⟨⟨fs, hf⟩, _, hc⟩ := h
  rintro (⟨_, _, q⟩ | ⟨a, q⟩)
  · rw [hf] at q; cases q
  · exact hc (by rw [q]; rfl)
/-- an iterator over its -/
def ItsAt (prog : Program) (w : World) (C : RC) (O2 : Owns) (its : List PV) (h : Heap) (it : Value) (h2 : Heap) : Prop :=
  ∃ (o : Obj) (fp : List Addr) (P : Nat → Value → Prop) (St : Nat → Heap → Prop),
   it = .ref h.objs.size ∧ h2 = h.push o ∧ NoTab o ∧ (∀ A' : Around, A'.handled = none → Walks prog w A' h.objs.size fp [h.objs.size] its.length P St) ∧ St 0 h2 ∧
   (∀ i g, St i g → ∃ o, ItObj o ∧ g.get? h.objs.size = some o) ∧
   (∀ b ∈ fp, b = h.objs.size ∨ (∃ o, NoTab o ∧ h.get? b = some o) ∧ (O2 = [] → ¬ C.X b)) ∧ (∀ i v, P i v → ∃ pv, its[i]? = some pv ∧ Rep C h pv v)

abbrev ItPost (prog : Program) (w : World) (C : RC) (O2 : Owns) (its : List PV) (s : Shared) : Value → Shared → Prop :=
  fun it s' => ∃ k, s' = { s with heap := s'.heap, toks := k } ∧ ItsAt prog w C O2 its s.heap it s'.heap

section
variable {prog : Program} {w : World} {A : Around} {s : Shared} {C : RC} {O O2 : Owns}

theorem iter_val {v : PV} {u : Value} {its : List PV} (hO : O2 = O ∨ O2 = []) (W : Owned C O s.heap) (hv : piter O2 v = some its) (r : Rep C s.heap v u) :
    wpAny (model prog w) A (pyIter u) (ItPost prog w C O2 its s) noE s := by
  have hstr : ∀ (x : Str) (t : Tok) (i : Nat) (v : Value) (h2 : Heap), SignAt x i v → ∃ pv, (x.cps.toList.map fun c => PV.str [c])[i]? = some pv ∧ Rep C h2 pv v := by
    rintro x t i v h2 ⟨c, u, hc, rfl⟩
    refine ⟨.str [c], ?_, rep_str' rfl⟩
    rw [List.getElem?_map]
    simp [hc]
  unfold piter at hv
  split at hv
  · cases hv
    simp only [Rep] at r
    obtain ⟨x, t, rfl, rfl⟩ := r
    cases ha : x.cps.all (· < 128)
    · refine wpAny_pyIter_wide ha ⟨s.toks, rfl, _, [s.heap.objs.size], SignAt x, (fun i h => h.IsStrIter s.heap.objs.size "str_iterator" x t i), rfl, rfl, noTab_cls nofun, fun A' hA => ?_, ⟨_, Heap.get?_push_size _ rfl, rfl, rfl⟩, ?_, fun b hb => .inl (by simpa using hb), fun i v hP => hstr x t i v _ hP⟩
      · have := Walks.strWide (prog := prog) (w := w) hA s.heap.objs.size x t
        simpa using this
      · rintro i g ⟨o, ho, hc, hd⟩; exact ⟨o, ⟨⟨_, hd⟩, by rw [hc]; nofun, by rw [hc]; decide⟩, ho⟩
    · refine wpAny_pyIter_ascii ha ⟨s.toks, rfl, _, [s.heap.objs.size], SignAt x, (fun i h => h.IsStrIter s.heap.objs.size "str_ascii_iterator" x t i), rfl, rfl, noTab_cls nofun, fun A' hA => ?_, ⟨_, Heap.get?_push_size _ rfl, rfl, rfl⟩, ?_, fun b hb => .inl (by simpa using hb), fun i v hP => hstr x t i v _ hP⟩
      · have := Walks.strAscii (prog := prog) (w := w) hA s.heap.objs.size x t
        simpa using this
      · rintro i g ⟨o, ho, hc, hd⟩; exact ⟨o, ⟨⟨_, hd⟩, by rw [hc]; nofun, by rw [hc]; decide⟩, ho⟩
  · cases hv
    simp only [Rep] at r
    obtain ⟨a, xs, rfl, hX, ht, hl⟩ := r
    have ha : a < s.heap.objs.size := by obtain ⟨o, ho, _⟩ := ht; exact Heap.lt_size ho
    have hsz := hl.length
    simp only [Array.length_toList] at hsz
    refine wpAny_pyIter_tuple ht ⟨s.toks, rfl, _, [s.heap.objs.size, a], (fun i v => xs[i]? = some v), (fun i h => h.IsTupleIter s.heap.objs.size a i ∧ h.IsTuple a xs), rfl, rfl, noTab_cls nofun, fun A' hA => ?_, ⟨⟨_, Heap.get?_push_size _ rfl, rfl, rfl⟩, ht.push _⟩, ?_, fun b hb => ?_, fun i v hP => ?_⟩
    · rw [← hsz]; exact Walks.tuple hA _ _ (Nat.ne_of_lt ha) xs
    · rintro i g ⟨⟨o, ho, hc, hd⟩, _⟩; exact ⟨o, ⟨⟨_, hd⟩, by rw [hc]; nofun, by rw [hc]; decide⟩, ho⟩
    · rcases List.mem_cons.mp hb with rfl | hb
      · exact .inl rfl
      · rw [List.mem_singleton.mp hb]
        obtain ⟨o, ho, hc, _⟩ := ht
        exact .inr ⟨⟨o, noTab_cls (by rw [hc]; nofun), ho⟩, fun _ => hX⟩
    · have hlt : i < its.length := by rw [← hsz]; exact (Array.getElem?_eq_some_iff.mp hP).1
      obtain ⟨y, e, hr⟩ := hl.at i its[i] (List.getElem?_eq_getElem hlt)
      rw [Array.getElem?_toList, hP] at e
      cases e
      exact ⟨_, List.getElem?_eq_getElem hlt, hr⟩
  · rename_i v' hn1 hn2
    have hv' : asL O v = some its := by
      rcases hO with rfl | rfl
      · exact hv
      · unfold asL at hv ⊢
        split at hv
        · exact hv
        · simp at hv
        · cases hv
    have hX : O2 = [] → ∀ a, u = .ref a → ¬ C.X a := by
      rintro rfl a rfl
      unfold asL at hv
      split at hv
      · simp only [Rep] at r; obtain ⟨a', xs, e, hx, _⟩ := r; cases e; exact hx
      · simp at hv
      · cases hv
    obtain ⟨a, xs, rfl, hp, hl⟩ := asL_rep W hv' r
    have ht := hp.isList
    have ha : a < s.heap.objs.size := by obtain ⟨o, ho, _⟩ := ht; exact Heap.lt_size ho
    have hsz := hl.length
    simp only [Array.length_toList] at hsz
    refine wpAny_pyIter_list ht ⟨s.toks, rfl, _, [s.heap.objs.size, a], (fun i v => xs[i]? = some v), (fun i h => h.IsListIter s.heap.objs.size a i ∧ h.IsList a xs), rfl, rfl, noTab_cls nofun, fun A' hA => ?_, ⟨⟨_, Heap.get?_push_size _ rfl, rfl, rfl⟩, ht.push _⟩, ?_, fun b hb => ?_, fun i v hP => ?_⟩
    · rw [← hsz]; exact Walks.list hA _ _ (Nat.ne_of_lt ha) xs
    · rintro i g ⟨⟨o, ho, hc, hd⟩, _⟩; exact ⟨o, ⟨⟨_, hd⟩, by rw [hc]; nofun, by rw [hc]; decide⟩, ho⟩
    · rcases List.mem_cons.mp hb with rfl | hb
      · exact .inl rfl
      · rw [List.mem_singleton.mp hb]
        obtain ⟨o, ho, hc, _⟩ := ht
        exact .inr ⟨⟨o, noTab_cls (by rw [hc]; nofun), ho⟩, fun e => hX e a rfl⟩
    · have hlt : i < its.length := by rw [← hsz]; exact (Array.getElem?_eq_some_iff.mp hP).1
      obtain ⟨y, e, hr⟩ := hl.at i its[i] (List.getElem?_eq_getElem hlt)
      rw [Array.getElem?_toList, hP] at e
      cases e
      exact ⟨_, List.getElem?_eq_getElem hlt, hr⟩

theorem prange_len (a b c : Int) (hc : c ≠ 0) : (prange a b c).length = (Builtin.Range.rangeSize a b c).toNat := by
  unfold prange Builtin.Range.rangeSize
  by_cases h : 0 < c
  · rw [if_pos h, if_pos (show c > 0 from h)]
    simp only [List.length_map, List.length_range]
    split
    · rename_i hab
      rw [show b - a + c - 1 = (b - a - 1) + c * 1 by omega, Int.add_mul_ediv_left _ _ (by omega)]
    · rename_i hab
      have : (b - a + c - 1) / c ≤ 0 := by
        have : (b - a + c - 1) / c < 1 := Int.ediv_lt_of_lt_mul h (by omega)
        omega
      omega
  · rw [if_neg h, if_neg (show ¬ c > 0 from h)]
    simp only [List.length_map, List.length_range]
    split
    · rename_i hab
      rw [show a - b - c - 1 = (a - b - 1) + (-c) * 1 by omega, Int.add_mul_ediv_left _ _ (by omega)]
    · rename_i hab
      have : (a - b - c - 1) / (-c) ≤ 0 := by
        have : (a - b - c - 1) / (-c) < 1 := Int.ediv_lt_of_lt_mul (by omega) (by omega)
        omega
      omega
theorem prange_at {a b c : Int} {i : Nat} (h : i < (prange a b c).length) : (prange a b c)[i]? = some (.int (a + i * c)) := by
  rw [List.getElem?_eq_getElem h]
  congr 1
  unfold prange
  split <;> simp [Int.mul_comm]

theorem range_small {a b c : Int} (ha : a.natAbs ≤ LIM) (hb : b.natAbs ≤ LIM) (hc : c ≠ 0) (hc' : c.natAbs ≤ LIM) : Builtin.Range.small a b c = true ∧ 0 ≤ Builtin.Range.rangeSize a b c ∧ Builtin.Range.rangeSize a b c ≤ 2 * LIM + 1 := by
  unfold LIM at *
  have hs : 0 ≤ Builtin.Range.rangeSize a b c ∧ Builtin.Range.rangeSize a b c ≤ 2 * 1048576 + 1 := by
    unfold Builtin.Range.rangeSize
    split
    · split
      · rename_i h1 h2
        have h3 : 0 ≤ (b - a - 1) / c := Int.ediv_nonneg (by omega) (by omega)
        have h4 : (b - a - 1) / c ≤ b - a - 1 := Int.ediv_le_self _ (by omega)
        omega
      · omega
    · split
      · rename_i h1 h2
        have h3 : 0 ≤ (a - b - 1) / (-c) := Int.ediv_nonneg (by omega) (by omega)
        have h4 : (a - b - 1) / (-c) ≤ a - b - 1 := Int.ediv_le_self _ (by omega)
        omega
      · omega
  refine ⟨?_, hs.1, hs.2⟩
  unfold Builtin.Range.small
  simp only [Builtin.Range.rangeFitsLong, Bool.and_eq_true, Bool.or_eq_true, decide_eq_true_eq, beq_iff_eq]
  refine ⟨⟨⟨⟨?_, ?_⟩, ?_⟩, ?_⟩, ?_⟩
  · omega
  · omega
  · omega
  · omega
  · right
    split
    · simp only [decide_eq_true_eq, Bool.and_eq_true]; omega
    · simp only [decide_eq_true_eq, Bool.and_eq_true]; omega

theorem iter_range {r : Addr} {a b c : Int} {t u v : Tok} (hr : IsRange s.heap r a b c t u v) (ha : a.natAbs ≤ LIM) (hb : b.natAbs ≤ LIM) (hc : c ≠ 0) (hc' : c.natAbs ≤ LIM) :
    wpAny (model prog w) A (pyIter (.ref r)) (ItPost prog w C O2 (prange a b c) s) noE s := by
  obtain ⟨h1, h2, h3⟩ := range_small ha hb hc hc'
  have hl := prange_len a b c hc
  refine wpAny_pyIter_range hr h1 ⟨s.toks, rfl, _, [s.heap.objs.size], (fun i v => (∃ t, v = .int (a + i * c) t) ∧ i < (prange a b c).length),
    (fun i h => IsRangeIter h s.heap.objs.size (a + (i : Nat) * c) (((prange a b c).length : Int) - (i : Nat)) c ), rfl, rfl, noTab_cls nofun, fun A' hA => ?_, ?_, ?_, fun b hb => .inl (by simpa using hb), fun i v hP => ?_⟩
  · have W := Walks.range (prog := prog) (w := w) hA s.heap.objs.size a c (prange a b c).length
    exact ⟨W.sub, W.frame, fun i s Q E hi st hQ => W.item i s Q E hi st fun v h' tk hP => hQ v h' tk ⟨hP, hi⟩, W.done, W.self⟩
  · have e1 : a + ((0 : Nat) : Int) * c = a := by simp
    have e2 : (((prange a b c).length : Int) - ((0 : Nat) : Int)) = Builtin.Range.rangeSize a b c := by rw [hl]; omega
    show IsRangeIter _ _ _ _ _
    rw [e1, e2]
    exact Heap.get?_push_size _ rfl
  · intro i g hg; refine ⟨_, ?_, hg⟩; exact ⟨⟨_, rfl⟩, by nofun, by intro q; exact absurd q (by decide : (Value.type "range_iterator") ≠ .type "builtin_function_or_method")⟩
  · obtain ⟨⟨t, rfl⟩, hi⟩ := hP
    exact ⟨_, prange_at hi, rep_int⟩
end

section
variable (prog : Program) (w : World) (mg mb : Str → Option Value) (hB : Heap) (n : Nat) (sc : Scope)
/-- an iterable of a comprehension or of a loop -/
def IS (e : Expr) (pit : PIt) : Prop :=
  ∀ ⦃F : PF1⦄ ⦃C : RC⦄ ⦃G : Slots⦄ ⦃O : Owns⦄ ⦃env : Env⦄ ⦃A : Around⦄ ⦃s : Shared⦄ ⦃its : List PV⦄ (O2 : Owns), Cx prog w mg mb hB n sc F C G O env A s.heap → (O2 = O ∧ evI F O G pit = some its ∨ O2 = [] ∧ evIF F O G pit = some its) →
    its.length ≤ 2 * LIM + 1 ∧ wpAny (model prog w) A (eval e env) (fun x s₁ => Keeps s s₁ ∧ ∀ A' : Around, wpAny (model prog w) A' (pyIter x) (ItPost prog w C O2 its s₁) noE s₁) noE s
end
section
variable {prog : Program} {w : World} {mg mb : Str → Option Value} {hB : Heap} {n : Nat} {sc : Scope}

theorem is_val {e : Expr} {pe : PE} (he : ES prog w mg mb hB n sc e pe) : IS prog w mg mb hB n sc e (.val pe) := by
  intro F C G O env A s its O2 K hv
  have : ∃ v, ev F O G pe = some v ∧ piter O2 v = some its ∧ its.length ≤ LIM ∧ (O2 = O ∨ O2 = []) := by
    rcases hv with ⟨rfl, hv⟩ | ⟨rfl, hv⟩
    · simp only [evI] at hv
      obtain ⟨v, e1, hv⟩ := Option.bind_eq_some_iff.mp hv
      obtain ⟨l, e2, hv⟩ := Option.bind_eq_some_iff.mp hv
      split at hv
      · cases hv; exact ⟨v, e1, e2, by assumption, .inl rfl⟩
      · cases hv
    · simp only [evIF] at hv
      obtain ⟨v, e1, hv⟩ := Option.bind_eq_some_iff.mp hv
      obtain ⟨l, e2, hv⟩ := Option.bind_eq_some_iff.mp hv
      split at hv
      · cases hv; exact ⟨v, e1, e2, by assumption, .inr rfl⟩
      · cases hv
  obtain ⟨v, e1, e2, e3, hO⟩ := this
  refine ⟨by unfold LIM at *; omega, seqE (he K e1) fun u s1 ⟨k1, r1⟩ => ⟨k1, fun A' => iter_val hO (K.keep k1).I.W e2 r1⟩⟩

theorem range_call {A : Around} {env : Env} {s : Shared} {F : PF1} {C : RC} {G : Slots} {O : Owns} {fp pos : Pos} {args : List Expr} {ps : PEs} {vs : List PV} {Q : Value → Shared → Prop} (K : Cx prog w mg mb hB n sc F C G O env A s.heap)
    (hs : SS prog w mg mb hB n sc args ps) (hn : NoStars args = true) (hg : isGl sc "range" = true) (he : evs F O G ps = some vs)
    (h : ∀ us s1, Keeps s s1 → RepL C s1.heap vs us → wpAny (model prog w) A (call (.type "range") us) Q noE s1) :
    wpAny (model prog w) A (eval (.Call (.Name "range" fp) args [] pos) env) Q noE s := by
  have hbi := K.I.base.bis ("range", .type "range") (by decide)
  refine Call_Name (backTo_of hn) (glob_load (v := .type "range") K hg (by decide) (.inr hbi) ?_)
  exact PyProof.Rows.callWith_type (T := "range") any_of (evalArgs_of (seqE (hs K he) fun us s1 ⟨k1, r1⟩ => h us s1 k1 r1))

theorem is_rng1 {x0 : Str} {a : Expr} {pa : PE} {fp pos : Pos} (ha : ES prog w mg mb hB n sc a pa) (hn : NoStars [a] = true) (hx0 : x0 = ("range" : Str)) (hg : isGl sc "range" = true) : IS prog w mg mb hB n sc (.Call (.Name x0 fp) [a] [] pos) (.rng1 pa) := by
  subst hx0
  intro F C G O env A s its O2 K hv
  have hv' : evI F O G (.rng1 pa) = some its := by rcases hv with ⟨_, hv⟩ | ⟨_, hv⟩ <;> exact hv
  simp only [evI] at hv'
  obtain ⟨x, e1, hv'⟩ := Option.bind_eq_some_iff.mp hv'
  cases x <;> simp only [reduceCtorEq] at hv'
  rename_i x
  split at hv'
  · rename_i hx
    cases hv'
    have h1 := range_small (a := 0) (b := x) (c := 1) (by decide) hx (by decide) (by decide)
    have h2 := prange_len 0 x 1 (by decide)
    refine ⟨by omega, range_call K (ss_cons ha ss_nil) hn hg (vs := [.int x]) (by simp [evs, e1]) fun us s1 k1 r1 => ?_⟩
    simp only [RepL, Rep] at r1
    obtain ⟨_, _, rfl, ⟨t, rfl⟩, rfl⟩ := r1
    refine call_range_1 ⟨ktrans k1 kpush, fun A' => iter_range (IsRange.new ..) (by decide) hx (by decide) (by decide)⟩
  · cases hv'
theorem is_rng2 {x0 : Str} {a b : Expr} {pa pb : PE} {fp pos : Pos} (ha : ES prog w mg mb hB n sc a pa) (hb : ES prog w mg mb hB n sc b pb) (hn : NoStars [a, b] = true) (hx0 : x0 = ("range" : Str)) (hg : isGl sc "range" = true) : IS prog w mg mb hB n sc (.Call (.Name x0 fp) [a, b] [] pos) (.rng2 pa pb) := by
  subst hx0
  intro F C G O env A s its O2 K hv
  have hv' : evI F O G (.rng2 pa pb) = some its := by rcases hv with ⟨_, hv⟩ | ⟨_, hv⟩ <;> exact hv
  simp only [evI] at hv'
  obtain ⟨x, e1, hv'⟩ := Option.bind_eq_some_iff.mp hv'
  obtain ⟨y, e2, hv'⟩ := Option.bind_eq_some_iff.mp hv'
  have hxy : ∃ x' y' : Int, x = .int x' ∧ y = .int y' := by
    revert hv'; split
    · intro _; exact ⟨_, _, rfl, rfl⟩
    · intro h; cases h
  obtain ⟨x, y, rfl, rfl⟩ := hxy
  simp only at hv'
  split at hv'
  · rename_i hx
    cases hv'
    have h1 := range_small (a := x) (b := y) (c := 1) hx.1 hx.2 (by decide) (by decide)
    have h2 := prange_len x y 1 (by decide)
    refine ⟨by omega, range_call K (ss_cons ha (ss_cons hb ss_nil)) hn hg (vs := [.int x, .int y]) (by simp [evs, e1, e2]) fun us s1 k1 r1 => ?_⟩
    simp only [RepL, Rep] at r1
    obtain ⟨_, _, rfl, ⟨t, rfl⟩, _, _, rfl, ⟨t', rfl⟩, rfl⟩ := r1
    refine call_range_2 ⟨ktrans k1 kpush, fun A' => iter_range (IsRange.new ..) hx.1 hx.2 (by decide) (by decide)⟩
  · cases hv'
theorem is_rng3 {x0 : Str} {a b c : Expr} {pa pb pc : PE} {fp pos : Pos} (ha : ES prog w mg mb hB n sc a pa) (hb : ES prog w mg mb hB n sc b pb) (hc : ES prog w mg mb hB n sc c pc) (hn : NoStars [a, b, c] = true) (hx0 : x0 = ("range" : Str)) (hg : isGl sc "range" = true) : IS prog w mg mb hB n sc (.Call (.Name x0 fp) [a, b, c] [] pos) (.rng3 pa pb pc) := by
  subst hx0
  intro F C G O env A s its O2 K hv
  have hv' : evI F O G (.rng3 pa pb pc) = some its := by rcases hv with ⟨_, hv⟩ | ⟨_, hv⟩ <;> exact hv
  simp only [evI] at hv'
  obtain ⟨x, e1, hv'⟩ := Option.bind_eq_some_iff.mp hv'
  obtain ⟨y, e2, hv'⟩ := Option.bind_eq_some_iff.mp hv'
  obtain ⟨z, e3, hv'⟩ := Option.bind_eq_some_iff.mp hv'
  have hxy : ∃ x' y' z' : Int, x = .int x' ∧ y = .int y' ∧ z = .int z' := by
    revert hv'; split
    · intro _; exact ⟨_, _, _, rfl, rfl, rfl⟩
    · intro h; cases h
  obtain ⟨x, y, z, rfl, rfl, rfl⟩ := hxy
  simp only at hv'
  split at hv'
  · rename_i hx
    obtain ⟨hx1, hx2, hx3, hx4⟩ := hx
    cases hv'
    have h1 := range_small (a := x) (b := y) (c := z) hx1 hx2 hx3 hx4
    have h2 := prange_len x y z hx3
    refine ⟨by omega, range_call K (ss_cons ha (ss_cons hb (ss_cons hc ss_nil))) hn hg (vs := [.int x, .int y, .int z]) (by simp [evs, e1, e2, e3]) fun us s1 k1 r1 => ?_⟩
    simp only [RepL, Rep] at r1
    obtain ⟨_, _, rfl, ⟨t, rfl⟩, _, _, rfl, ⟨t', rfl⟩, _, _, rfl, ⟨t'', rfl⟩, rfl⟩ := r1
    refine call_range_3 hx3 ⟨ktrans k1 kpush, fun A' => iter_range (IsRange.new ..) hx1 hx2 hx3 hx4⟩ (.inl (PyProof.noPylong_small (by unfold LIM at hx4; omega)))
  · cases hv'
end
end Mine

namespace Mine
open StrLaws

/-! closures -/
def clOf (env : Env) : List (Str × NameKind) → List (Str × Addr) → List (Str × Addr)
  | [], acc => acc
  | p :: r, acc => clOf env r (if p.2 == .free then (p.1, (env.cells.lookup p.1).getD 0) :: acc else acc)
theorem cellOf_some {env : Env} {x : Str} {c : Addr} (h : env.cells.lookup x = some c) : cellOf env x = pure c := by
  unfold cellOf; rw [h]
theorem closure_go {env : Env} : ∀ (names : List (Str × NameKind)) (acc : List (Str × Addr)), (∀ p ∈ names, p.2 = .free → ∃ c, env.cells.lookup p.1 = some c) →
    (forIn names acc fun (x : Str × NameKind) (cs : List (Str × Addr)) => (match x with | (name, kind) => if (kind == NameKind.free) = true then do let __do_lift ← cellOf env name; pure (ForInStep.yield ((name, __do_lift) :: cs)) else pure (ForInStep.yield cs) : Sem (ForInStep (List (Str × Addr))))) = pure (clOf env names acc)
  | [], acc, _ => rfl
  | p :: r, acc, h => by
    obtain ⟨nm, k⟩ := p
    rw [List.forIn_cons]
    by_cases hk : k = .free
    · subst hk
      obtain ⟨c, hc⟩ := h (nm, .free) List.mem_cons_self rfl
      simp only [beq_self_eq_true, if_true, cellOf_some hc, pure_bind]
      rw [closure_go r _ fun q hq => h q (List.mem_cons_of_mem _ hq)]
      simp [clOf, hc]
    · have hb : (k == NameKind.free) = false := by simpa using hk
      simp only [hb, Bool.false_eq_true, if_false, pure_bind]
      rw [closure_go r _ fun q hq => h q (List.mem_cons_of_mem _ hq)]
      simp [clOf, hb]
theorem closure_ok {scope : Scope} {env : Env} (h : ∀ p ∈ scope.names, p.2 = .free → ∃ c, env.cells.lookup p.1 = some c) : closureFor scope env = pure (clOf env scope.names []) := by
  unfold closureFor
  show (do let cs ← forIn scope.names ([] : List (Str × Addr)) _; pure cs) = _
  rw [closure_go scope.names [] h]
  rfl
theorem clOf_val {env : Env} : ∀ (names : List (Str × NameKind)) (acc : List (Str × Addr)), (∀ q ∈ acc, q.2 = (env.cells.lookup q.1).getD 0) → ∀ q ∈ clOf env names acc, q.2 = (env.cells.lookup q.1).getD 0
  | [], _, h => h
  | p :: r, acc, h => by
    unfold clOf
    refine clOf_val r _ ?_
    split
    · intro q hq
      rcases List.mem_cons.mp hq with rfl | hq
      · rfl
      · exact h q hq
    · exact h
theorem clOf_acc {env : Env} : ∀ (names : List (Str × NameKind)) (acc : List (Str × Addr)), ∀ q ∈ acc, q ∈ clOf env names acc
  | [], _, _, h => h
  | p :: r, acc, q, h => by
    unfold clOf
    refine clOf_acc r _ q ?_
    split
    · exact List.mem_cons_of_mem _ h
    · exact h
theorem clOf_key {env : Env} : ∀ (names : List (Str × NameKind)) (acc : List (Str × Addr)) (x : Str), (x, NameKind.free) ∈ names → ∃ q ∈ clOf env names acc, q.1 = x
  | p :: r, acc, x, h => by
    rcases List.mem_cons.mp h with rfl | h
    · unfold clOf
      exact ⟨_, clOf_acc r _ _ (by rw [if_pos (by rfl)]; exact List.mem_cons_self), rfl⟩
    · unfold clOf; exact clOf_key r _ x h
theorem lookup_of {f : Str → Addr} : ∀ (l : List (Str × Addr)) (x : Str), (∀ q ∈ l, q.2 = f q.1) → (∃ q ∈ l, q.1 = x) → l.lookup x = some (f x)
  | q :: r, x, h, hk => by
    obtain ⟨a, b⟩ := q
    rw [List.lookup_cons]
    by_cases hx : x = a
    · subst hx
      have := h (x, b) List.mem_cons_self
      simp only at this
      simp [this]
    · have hb : (x == a) = false := by simpa using hx
      rw [hb]
      refine lookup_of r x (fun q hq => h q (List.mem_cons_of_mem _ hq)) ?_
      obtain ⟨q, hq, e⟩ := hk
      rcases List.mem_cons.mp hq with rfl | hq
      · exact absurd e.symm hx
      · exact ⟨q, hq, e⟩
theorem clOf_lookup {env : Env} {names : List (Str × NameKind)} {x : Str} {c : Addr} (hx : (x, NameKind.free) ∈ names) (hc : env.cells.lookup x = some c) : (clOf env names []).lookup x = some c := by
  rw [lookup_of (f := fun y => (env.cells.lookup y).getD 0) _ x (clOf_val names [] (by simp)) (clOf_key names [] x hx), hc]
  rfl

theorem lookup_mem {α : Type} : ∀ {l : List (Str × α)} {x : Str} {k : α}, l.lookup x = some k → (x, k) ∈ l
  | (a, b) :: r, x, k, h => by
    rw [List.lookup_cons] at h
    cases hx : x == a
    · rw [hx] at h; exact List.mem_cons_of_mem _ (lookup_mem h)
    · rw [hx] at h; cases h; rw [eq_of_beq hx]; exact List.mem_cons_self
theorem lookup_relabel {env : Env} : ∀ {names : List (Str × NameKind)} {x : Str} {k : NameKind}, names.lookup x = some k →
    let l := (names.map fun (n, k) => if (k == NameKind.free && env.scope.kind == .function && env.kindOf n == some .cell) then (n, NameKind.cell) else (n, k))
    l.lookup x = some k ∨ k = .free ∧ l.lookup x = some .cell
  | [], _, _, h => by simp at h
  | (n, k') :: r, x, k, h => by
    have ih := @lookup_relabel env r x k
    dsimp only at ih ⊢
    rw [List.map_cons]
    cases hx : x == n with
    | true =>
      simp only [List.lookup_cons, hx] at h
      cases h
      by_cases hc : (k' == NameKind.free && env.scope.kind == .function && env.kindOf n == some .cell) = true
      · right
        rw [if_pos hc]
        simp only [List.lookup_cons, hx]
        simp only [Bool.and_eq_true, beq_iff_eq] at hc
        exact ⟨hc.1.1, trivial⟩
      · left
        rw [if_neg hc]
        simp only [List.lookup_cons, hx]
    | false =>
      simp only [List.lookup_cons, hx] at h
      by_cases hc : (k' == NameKind.free && env.scope.kind == .function && env.kindOf n == some .cell) = true
      · rw [if_pos hc]; simp only [List.lookup_cons, hx]; exact ih h
      · rw [if_neg hc]; simp only [List.lookup_cons, hx]; exact ih h

theorem findIdx_get : ∀ {l : List (Str × NameKind)} {x : Str} {i : Nat}, l.findIdx? (fun p => p.1 == x) = some i → ∃ k, l[i]? = some (x, k) ∧ l.lookup x = some k
  | [], _, _, h => by simp at h
  | (a, k) :: r, x, i, h => by
    rw [List.findIdx?_cons] at h
    by_cases hx : a = x
    · subst hx
      simp only [beq_self_eq_true, if_true, Option.some.injEq] at h
      subst h
      exact ⟨k, rfl, by simp [List.lookup_cons]⟩
    · have hb : (a == x) = false := by simpa using hx
      have hb' : (x == a) = false := by simpa using fun e : x = a => hx e.symm
      simp only [hb, Bool.false_eq_true, if_false] at h
      obtain ⟨j, hj, rfl⟩ := Option.map_eq_some_iff.mp h
      obtain ⟨k', h1, h2⟩ := findIdx_get hj
      exact ⟨k', by simpa using h1, by rw [List.lookup_cons, hb']; exact h2⟩
theorem slot_get {sc : Scope} {x : Str} {i : Nat} (h : slotOf sc x = some i) : ∃ k, sc.names[i]? = some (x, k) ∧ sc.names.lookup x = some k ∧ (k = .local ∨ k = .cell ∨ k = .free) := by
  unfold slotOf at h
  split at h
  · obtain ⟨k, a, b⟩ := findIdx_get h
    rename_i e; rw [e] at b; cases b; exact ⟨_, a, e, .inl rfl⟩
  · obtain ⟨k, a, b⟩ := findIdx_get h
    rename_i e; rw [e] at b; cases b; exact ⟨_, a, e, .inr (.inl rfl)⟩
  · obtain ⟨k, a, b⟩ := findIdx_get h
    rename_i e; rw [e] at b; cases b; exact ⟨_, a, e, .inr (.inr rfl)⟩
  · cases h
theorem slot_inj {sc : Scope} {x y : Str} {i : Nat} (hx : slotOf sc x = some i) (hy : slotOf sc y = some i) : x = y := by
  obtain ⟨k, a, _⟩ := slot_get hx
  obtain ⟨k', b, _⟩ := slot_get hy
  rw [a] at b; cases b; rfl

theorem Sub.refl (C : RC) (h : Heap) : Sub C C h h := ⟨fun _ _ _ _ x => x, rfl, fun _ _ x => x, fun _ _ _ _ e => e⟩
theorem Sub.xs {C : RC} {h h' : Heap} (hk : ∀ b o, ¬ C.X b → h.get? b = some o → h'.get? b = some o) : Sub C C h h' := ⟨fun _ _ _ _ x => x, rfl, fun _ _ x => x, fun b o _ hx e => hk b o hx e⟩

mutual
theorem Rep.wide {C C' : RC} {h : Heap} (hX : ∀ b, C.X b → C'.X b) (hst : C.st = C'.st) (hads : C.ads = C'.ads) : ∀ (p : PV) (v : Value), Rep C' h p v → Rep C h p v
  | .none, v, r => by simpa [Rep] using r
  | .bool b, v, r => by simpa [Rep] using r
  | .int i, v, r => by simpa [Rep] using r
  | .str l, v, r => by simpa [Rep] using r
  | .tup vs, v, r => by
    simp only [Rep] at r ⊢
    obtain ⟨a, xs, rfl, hna, ht, hl⟩ := r
    exact ⟨a, xs, rfl, fun q => hna (hX _ q), ht, RepL.wide hX hst hads vs _ hl⟩
  | .list vs, v, r => by
    simp only [Rep] at r ⊢
    obtain ⟨a, xs, rfl, hna, ht, hl⟩ := r
    exact ⟨a, xs, rfl, fun q => hna (hX _ q), ht, RepL.wide hX hst hads vs _ hl⟩
  | .star, v, r => by simpa [Rep, hst] using r
  | .own k, v, r => by simpa [Rep, hads] using r
  | .app k, v, r => by
    simp only [Rep] at r ⊢
    obtain ⟨a, q, h1, h2, h3, h4⟩ := r
    exact ⟨a, q, by rw [hads]; exact h1, h2, fun x => h3 (hX _ x), h4⟩
theorem RepL.wide {C C' : RC} {h : Heap} (hX : ∀ b, C.X b → C'.X b) (hst : C.st = C'.st) (hads : C.ads = C'.ads) : ∀ (p : List PV) (v : List Value), RepL C' h p v → RepL C h p v
  | [], v, r => by simpa [RepL] using r
  | p :: ps, v, r => by
    simp only [RepL] at r ⊢
    obtain ⟨w, r', rfl, h1, h2⟩ := r
    exact ⟨w, r', rfl, Rep.wide hX hst hads p w h1, RepL.wide hX hst hads ps r' h2⟩
end

theorem KN.above {a b c : Heap} (k : KN a b) {I : Addr} (hI : hsz a ≤ I) (hk : ∀ p o, p ≠ I → b.get? p = some o → c.get? p = some o) : KN a c where
  nt p o n e := hk p o (Nat.ne_of_lt (Nat.lt_of_lt_of_le (hsz_lt e) hI)) (k.nt p o n e)
  pt p o n e := hk p o (Nat.ne_of_lt (Nat.lt_of_lt_of_le (hsz_lt e) hI)) (k.pt p o n e)
  tab ps e := let ⟨m, e', t⟩ := k.tab ps e; ⟨m, hk PT _ (Nat.ne_of_lt (Nat.lt_of_lt_of_le (hsz_lt e) hI)) e', t⟩

section
variable (prog : Program) (w : World) (mg mb : Str → Option Value) (hB : Heap) (n : Nat) (sc : Scope)
/-- the tests of a comprehension -/
def CS (ifs : List Expr) (cs : PEs) : Prop :=
  ∀ {F : PF1} {C : RC} {G : Slots} {O : Owns} {env : Env} {A : Around} {s : Shared} {b : Bool}, Cx prog w mg mb hB n sc F C G O env A s.heap → pts F O G cs = some b →
    wpAny (model prog w) A (forIn ifs true fun c r => if r = true then do let ok ← isTrue c env (eval c env); pure (ForInStep.yield ok) else pure (ForInStep.yield r)) (PostT s b) noE s
end
section
variable {prog : Program} {w : World} {mg mb : Str → Option Value} {hB : Heap} {n : Nat} {sc : Scope}
theorem tests_false {M : Model} {A : Around} {E : Value → Shared → Prop} {s : Shared} {env : Env} {Q : Bool → Shared → Prop} (h : Q false s) : ∀ (ifs : List Expr),
    wpAny M A (forIn ifs false fun c r => if r = true then do let ok ← isTrue c env (eval c env); pure (ForInStep.yield ok) else pure (ForInStep.yield r)) Q E s
  | [] => wpAny_pure h
  | c :: r => by
    rw [List.forIn_cons]
    simp only [Bool.false_eq_true, if_false, pure_bind]
    exact tests_false h r
theorem cs_nil : CS prog w mg mb hB n sc [] .nil := by
  intro F C G O env A s b K h
  simp only [pts, Option.some.injEq] at h; subst h
  exact wpAny_pure ⟨krefl s, rfl⟩
theorem cs_cons {e : Expr} {es : List Expr} {p : PE} {ps : PEs} (he : TS prog w mg mb hB n sc e p) (hs : CS prog w mg mb hB n sc es ps) : CS prog w mg mb hB n sc (e :: es) (.cons p ps) := by
  intro F C G O env A s b K h
  simp only [pts] at h
  obtain ⟨t, e1, h⟩ := Option.bind_eq_some_iff.mp h
  rw [List.forIn_cons]
  simp only [if_true]
  refine wpAny_bind (wpAny_bind (seqE (he K e1) fun t' s1 ⟨k1, r1⟩ => wpAny_pure ?_))
  subst r1
  cases t'
  · simp only [Bool.false_eq_true, if_false, Option.some.injEq] at h
    subst h
    exact tests_false ⟨k1, rfl⟩ es
  · simp only [if_true] at h
    exact seqE (hs (K.keep k1) h) fun t2 s2 ⟨k2, r2⟩ => ⟨ktrans k1 k2, r2⟩
end
end Mine

namespace Mine
open StrLaws

def RC.plus (C : RC) (p : Addr → Prop) : RC := { C with X := fun b => C.X b ∨ p b }
theorem xplus {C : RC} {p : Addr → Prop} {b : Addr} (h : p b) : (C.plus p).X b := .inr h
theorem RC.plus_wide {C : RC} {p : Addr → Prop} {h : Heap} {v : PV} {u : Value} (r : Rep (C.plus p) h v u) : Rep C h v u := Rep.wide (C := C) (C' := C.plus p) (fun _ x => .inl x) rfl rfl v u r
theorem RC.plus_wideL {C : RC} {p : Addr → Prop} {h : Heap} {v : List PV} {u : List Value} (r : RepL (C.plus p) h v u) : RepL C h v u := RepL.wide (C := C) (C' := C.plus p) (fun _ x => .inl x) rfl rfl v u r

/-- new addresses may be written -/
theorem Sub.plus {C : RC} {p : Addr → Prop} {h h' : Heap} (hk : KN h h') (hp : ∀ b, p b → hsz h ≤ b) : Sub C (C.plus p) h h' where
  X b o _ e hx := by
    rintro (q | q)
    · exact hx q
    · exact Nat.lt_irrefl _ (Nat.lt_of_lt_of_le (hsz_lt e) (hp b q))
  st := rfl
  ads _ _ x := x
  keep b o nt _ e := hk.nt b o nt.noTab e

theorem n01 (I : Nat) : (I : Addr) ≠ I + 1 := Nat.ne_of_lt (by omega)
theorem n02 (I : Nat) : (I : Addr) ≠ I + 2 := Nat.ne_of_lt (by omega)
theorem n12 (I : Nat) : (I + 1 : Addr) ≠ I + 2 := Nat.ne_of_lt (by show I + 1 < I + 2; omega)
theorem n_lt {I b : Nat} (h : b < I) : (b : Addr) ≠ I + 2 := Nat.ne_of_lt (by omega)
theorem addr_ne {a b : Addr} (h : (a : Nat) < b) : a ≠ b := Nat.ne_of_lt h

def compG (sc sc2 : Scope) (G : Slots) : Slots := (sc2.names.map fun p => if p.2 == .free then slotOf sc p.1 else none).map fun j => j.bind fun j => (G[j]?).bind id

theorem compG_at {sc sc2 : Scope} {G : Slots} {i : Nat} {y : Str} {k : NameKind} {v : PV} (hn : sc2.names[i]? = some (y, k)) (h : (compG sc sc2 G)[i]? = some (some v)) : k = .free ∧ ∃ j, slotOf sc y = some j ∧ G[j]? = some (some v) := by
  unfold compG at h
  rw [List.getElem?_map, List.getElem?_map, hn] at h
  simp only [Option.map_some, Option.some.injEq] at h
  by_cases hk : k = .free
  · subst hk
    simp only [beq_self_eq_true, if_true] at h
    obtain ⟨j, h1, h2⟩ := Option.bind_eq_some_iff.mp h
    obtain ⟨q, h3, h4⟩ := Option.bind_eq_some_iff.mp h2
    exact ⟨rfl, j, h1, by rw [h3]; exact congrArg some h4⟩
  · have hb : (k == NameKind.free) = false := by simpa using hk
    simp [hb] at h

section
variable {prog : Program} {w : World} {mg mb : Str → Option Value} {hB : Heap} {n : Nat} {sc : Scope}

/-- the comprehension's own frame -/
theorem comp_cx {F : PF1} {C : RC} {G : Slots} {O : Owns} {env : Env} {A : Around} {sc2 : Scope} {x : Str} {i : Nat} {p : Addr → Prop} {h h' : Heap} {L : Addr} {m : Str → Option Value} {v : PV} {u : Value}
    (K : Cx prog w mg mb hB n sc F C G O env A h) (hok : compOk sc sc2 x = true) (hi : slotOf sc2 x = some i) (hk : KN h h') (hp : ∀ b, p b → hsz h ≤ b ∧ ∃ o, NoTab o ∧ h'.get? b = some o)
    (hn : h'.Ns L m) (hm : m x = some u) (hr : Rep (C.plus p) h' v u) :
    Cx prog w mg mb hB n sc2 F (C.plus p) ((compG sc sc2 G).set i (some v)) O (compEnvC sc2 (clOf env sc2.names []) L env) A h' := by
  have I := K.I
  simp only [compOk, Bool.and_eq_true, beq_iff_eq, List.all_eq_true] at hok
  obtain ⟨⟨⟨hkind, hstuff⟩, hx⟩, hall⟩ := hok
  have S : Sub C (C.plus p) h h' := .plus hk fun b q => (hp b q).1
  have frees : ∀ y, (y, NameKind.free) ∈ sc2.names → sc.names.lookup y = some .cell ∨ sc.names.lookup y = some .free := fun y hy => by
    have := hall _ hy
    simpa using this
  refine ⟨K.FS, ?_, K.R⟩
  refine ⟨I.base, hkind, I.glb, I.blt, fun q => ?_, I.top.trans hk, fun y k e => ?_, fun y e => ?_, fun y j pv e1 e2 => ?_, ?_⟩
  · rw [Option.isNone_iff_eq_none.mp hstuff] at q; cases q
  · exact lookup_relabel e
  · have hm' : (y, NameKind.free) ∈ sc2.names ∨ (y, NameKind.cell) ∈ sc2.names := by
      rcases e with e | e
      · exact .inr (lookup_mem e)
      · exact .inl (lookup_mem e)
    rcases hm' with hm' | hm'
    · obtain ⟨c, hc⟩ := I.cel y (frees y hm')
      exact ⟨c, clOf_lookup hm' hc⟩
    · have := hall _ hm'
      simp at this
  · obtain ⟨k, hg, hl, hkk⟩ := slot_get e1
    by_cases hj : j = i
    · subst hj
      have := slot_inj e1 hi
      subst this
      rw [List.getElem?_set] at e2
      split at e2
      · split at e2
        · cases e2
          refine ⟨u, .inl ⟨?_, m, hn, hm⟩, hr⟩
          exact lookup_relabel_local hx
        · cases e2
      · exact absurd rfl ‹_›
    · rw [List.getElem?_set_ne (fun q => hj q.symm)] at e2
      obtain ⟨rfl, j', h1, h2⟩ := compG_at hg e2
      obtain ⟨u', Se, r⟩ := I.slots y j' pv h1 h2
      have hy := lookup_mem hl
      refine ⟨u', .inr ⟨?_, ?_⟩, Rep.mono S _ _ r⟩
      · rcases lookup_relabel (env := env) hl with q | ⟨_, q⟩
        · exact .inr q
        · exact .inl q
      · rcases Se with ⟨q, _⟩ | ⟨_, c, hc, hcell⟩
        · rcases frees y hy with hf | hf
          · rcases I.knd y _ hf with q' | ⟨q', _⟩
            · rw [q] at q'; cases q'
            · cases q'
          · rcases I.knd y _ hf with q' | ⟨_, q'⟩
            · rw [q] at q'; cases q'
            · rw [q] at q'; cases q'
        · exact ⟨c, clOf_lookup hy hc, hk.cell hcell⟩
  · refine ⟨fun k vs e => ?_, fun b hb => ?_⟩
    · obtain ⟨a, xs, h1, h2, h3⟩ := I.W.own k vs e
      exact ⟨a, xs, h1, hk.plain h2, RepL.mono S _ _ h3⟩
    · rcases hb with hb | hb
      · obtain ⟨o, nt, e⟩ := I.W.lt b hb
        exact ⟨o, nt, hk.nt _ _ nt e⟩
      · exact (hp b hb).2

theorem wpAny_gens_toks {α : Type} {M : Model} {A : Around} {t : Sem α} {Q : α → Shared → Prop} {E : Value → Shared → Prop} {s : Shared} (h : wpAny M A t Q E s) : wpAny M A t Q E s := h

theorem comp_block {F : PF1} {C : RC} {G : Slots} {O : Owns} {env : Env} {A : Around} {s₁ s₂ : Shared} {elt iter : Expr} {x : Str} {px : Pos} {ifs : List Expr} {sc2 : Scope} {pos : Pos} {it : Value} {i : Nat} {pe : PE} {cs : PEs}
    {its res : List PV} {E : Value → Shared → Prop} {RR : Value → Addr → Result → Shared → Prop}
    (K : Cx prog w mg mb hB n sc F C G O env A s₁.heap) (hok : compOk sc sc2 x = true) (hi : slotOf sc2 x = some i) (he : ES prog w mg mb hB n sc2 elt pe) (hc : CS prog w mg mb hB n sc2 ifs cs)
    (hit : ItPost prog w C O its s₁ it s₂) (hlen : its.length ≤ 2 * LIM + 1)
    (hres : mapO (fun v => (pts F O ((compG sc sc2 G).set i (some v)) cs).bind fun t => if t then (ev F O ((compG sc sc2 G).set i (some v)) pe).map some else some none) its = some res)
    (hRR : ∀ D L s' m', Keeps s₁ s' → hsz s₁.heap ≤ L → s'.heap.Ns L m' → Rep (C.plus (· = L)) s'.heap (.list res) (.ref D) → RR (.ref D) L (.ok .next) s') :
    wpAny (model prog w) A (newList []) (fun acc s₃ => wpAny (model prog w) A (newFunctionEnv sc2 env.globals (clOf env sc2.names []) [] env.qual none .none (some env)) (fun cenv s₄ =>
      codeAny (model prog w) A (.compStart (.ListComp elt [⟨.Name x px, iter, ifs, 0⟩] sc2 pos) 0 it acc { cenv with scope := relabel sc2 env }) (RR acc cenv.locals) s₄) E s₃) E s₂ := by
  obtain ⟨tk₂, hs₂, o, fp, P, St, rfl, hh₂, hnt, hW, hst, hlive, hfp, hP⟩ := hit
  have hok' := hok
  simp only [compOk, Bool.and_eq_true, beq_iff_eq, List.all_eq_true] at hok'
  obtain ⟨⟨⟨hkind, hstuff⟩, hx⟩, hall⟩ := hok'
  have hcell : ∀ y ∈ sc2.names, y.2 ≠ .cell := fun y hy q => by
    have := hall y hy
    rw [q] at this
    simp at this
  have W := hW A K.R.handled
  obtain ⟨ps0, hpt0⟩ := KN.tabLive K.I.top (K.I.base.pt.choose_spec.1)
  have hIle := hsz_size s₁.heap
  generalize hI : s₁.heap.objs.size = I at *
  have hsz2 : s₂.heap.objs.size = I + 1 := by rw [hh₂, Heap.size_push, hI]
  have hk2 : KN s₁.heap s₂.heap := by rw [hh₂]; exact .push _ _
  refine wpAny_newObj_type (wpAny_newFunctionEnv hcell (by intro y hy; simp at hy) (fun h₁ hns₁ hsb₁ => ?_) hkind)
  dsimp only at hns₁ hsb₁ ⊢
  generalize hH2 : s₂.heap.push { cls := .type "list", dict := none, data := .seq ([] : List Value).toArray } = H2 at hns₁ hsb₁ ⊢
  have hL : H2.objs.size = I + 2 := by rw [← hH2, Heap.size_push, hsz2]
  have hD : s₂.heap.objs.size = I + 1 := hsz2
  rw [hD]
  rw [hL] at hns₁ hsb₁ ⊢
  have hkH : ∀ b o, s₂.heap.get? b = some o → H2.get? b = some o := fun b o e => hH2 ▸ Heap.get?_push_of_some _ e
  have hk1 : ∀ b o, b ≠ I + 2 → H2.get? b = some o → h₁.get? b = some o := fun b o hb e => hsb₁.extBut b o hb (Heap.get?_push_of_some _ e)
  have hlt2 : ∀ {b o}, s₂.heap.get? b = some o → b ≠ I + 2 := fun e q => by
    have := Heap.lt_size e; rw [hsz2] at this; rw [q] at this; exact Nat.lt_irrefl _ (Nat.lt_of_succ_lt this)
  have old : ∀ b o, s₂.heap.get? b = some o → h₁.get? b = some o := fun b o e => hk1 b o (hlt2 e) (hkH b o e)
  have hk₁ : KN s₁.heap h₁ := hk2.trans (.of old)
  have hacc : h₁.PlainList (I + 1) #[] := by
    have e : H2.get? (I + 1) = some { cls := .type "list", dict := none, data := .seq ([] : List Value).toArray } := by
      rw [← hH2, ← hD]
      exact Heap.get?_push_size _ rfl
    exact ⟨_, hk1 _ _ (n12 I) e⟩
  have hst₁ : St 0 h₁ := W.frame _ _ _ hst fun b _ o e => old b o e
  -- the addresses written
  generalize hp : (fun b : Addr => b = I ∨ b = I + 1 ∨ b = I + 2) = p
  have hpge : ∀ b, p b → hsz s₁.heap ≤ b := fun b q => by
    rw [← hp] at q
    rcases q with q | q | q <;> rw [q]
    · exact hIle
    · exact Nat.le_trans hIle (Nat.le_succ I)
    · exact Nat.le_trans hIle (Nat.le_add_right I 2)
  have pX : ∀ b, p b → (C.plus p).X b := fun b q => .inr q
  have pI : (C.plus p).X I := pX _ (by rw [← hp]; exact .inl rfl)
  have pD : (C.plus p).X (I + 1) := pX _ (by rw [← hp]; exact .inr (.inl rfl))
  have pL : (C.plus p).X (I + 2) := pX _ (by rw [← hp]; exact .inr (.inr rfl))
  have hfpI : ∀ b ∈ fp, b ≠ I + 1 ∧ b ≠ I + 2 := fun b hb => by
    rcases hfp b hb with q | ⟨⟨o, _, e⟩, _⟩
    · rw [q]; exact ⟨n01 I, n02 I⟩
    · have := Heap.lt_size e
      rw [hI] at this
      exact ⟨addr_ne (Nat.lt_succ_of_lt this), addr_ne (Nat.lt_succ_of_lt (Nat.lt_succ_of_lt this))⟩
  have hfpT : ∀ {g : Heap}, KN s₁.heap g → ∀ b ∈ fp, b ≠ PT := fun {g} hg b hb q => by
    subst q
    rcases hfp _ hb with q | ⟨⟨o, nt, e⟩, _⟩
    · have := Heap.lt_size hpt0; rw [hI, q] at this; exact Nat.lt_irrefl _ this
    · rw [hpt0] at e; cases e; exact nt _ rfl
  have loop : ∀ s₃ : Shared, s₃ = { s₂ with heap := h₁, toks := s₂.toks + ([] : List (Str × Value)).length } →
      codeAny (model prog w) A (.compLoop (.ListComp elt [⟨.Name x px, iter, ifs, 0⟩] sc2 pos) 0 (.ref I) (.ref (I + 1)) (compEnvC sc2 (clOf env sc2.names []) (I + 2) env))
        (RR (.ref (I + 1)) (I + 2)) s₃ := by
    rintro s₃ rfl
    refine codeAny_compLoop_tests
      (fun k s' => ∃ m' ys, ∃ pre rest rs rr : List PV, Keeps s₁ s' ∧ St pre.length s'.heap ∧ s'.heap.Ns (I + 2) m' ∧ s'.heap.PlainList (I + 1) ys ∧ RepL (C.plus p) s'.heap rs ys.toList ∧ its = pre ++ rest ∧ rs.length ≤ pre.length ∧
        mapO (fun v => (pts F O ((compG sc sc2 G).set i (some v)) cs).bind fun t => if t then (ev F O ((compG sc sc2 G).set i (some v)) pe).map some else some none) rest = some rr ∧ res = rs ++ rr ∧ k = rest.length) ?_ its.length
      ⟨_, #[], [], its, [], res, ?_, hst₁, hns₁, hacc, by simp [RepL], rfl, Nat.le_refl _, hres, rfl, rfl⟩
    · rintro k s' ⟨m', ys, pre, rest, rs, rr, hkp, hst', hn', hacc', hR', hits, hle, hmap, hres', rfl⟩
      have kk := kheap hkp
      cases rest with
      | nil =>
        simp only [mapO, Option.some.injEq] at hmap
        subst hmap
        rw [List.append_nil] at hits hres'
        subst hits; subst hres'
        refine W.done _ _ _ hst' fun h₂ tk₂ hk₂ => ?_
        have hk₂' : ∀ b o, b ≠ I → s'.heap.get? b = some o → h₂.get? b = some o := fun b o hb e => hk₂ b o (by simpa using hb) e
        refine hRR _ _ _ m' ?_ (Nat.le_trans hIle (Nat.le_add_right I 2)) (hn'.at' fun o e => hk₂' _ o (n02 I).symm e) ?_
        · obtain ⟨h', tk, gn, rfl, k1, k2⟩ := hkp
          exact ⟨h₂, tk₂, gn, rfl, kk.above hIle hk₂', k2⟩
        · refine rep_list (xs := ys.toList) ?_ ?_ ?_
          · rintro (q | q)
            · obtain ⟨o, _, e⟩ := K.I.W.lt _ q
              have := Heap.lt_size e; rw [hI] at this; exact Nat.not_succ_lt_self this
            · exact n12 I q
          · simpa using hacc'.at fun o e => hk₂' _ o (n01 I).symm e
          · have r2 : RepL (C.plus p) h₂ res ys.toList := RepL.mono (Sub.xs fun b o hb e => hk₂' b o (fun q => hb (q ▸ pI)) e) _ _ hR'
            exact RepL.wide (C := C.plus (· = I + 2)) (C' := C.plus p) (fun b q => by
              rcases q with q | q
              · exact .inl q
              · exact .inr (by rw [← hp]; exact .inr (.inr q))) rfl rfl _ _ r2
      | cons v r =>
        have hlt : pre.length < its.length := by rw [hits]; simp
        refine W.item pre.length _ _ _ hlt hst' fun u h₂ tk₂ hPv hst₂ hk₂ => ?_
        have hk₂' : ∀ b o, b ≠ I → s'.heap.get? b = some o → h₂.get? b = some o := fun b o hb e => hk₂ b o (by simpa using hb) e
        refine wpAny_assign_Name (wpAny_storeName_local (env := compEnvC sc2 (clOf env sc2.names []) (I + 2) env) (lookup_relabel_local hx) (hn'.at' fun o e => hk₂' _ o (n02 I).symm e) (fun h₃ hn₃ hs₃ => ?_) (by simp [compEnvC, relabel, hkind]))
        dsimp only [compEnvC] at hn₃ hs₃
        have up : ∀ b o, b ≠ I → b ≠ I + 2 → s'.heap.get? b = some o → h₃.get? b = some o := fun b o h1 h2 e => hs₃.extBut b o h2 (hk₂' b o h1 e)
        have k3 : KN s₁.heap h₃ := (kk.above hIle hk₂').above (I := I + 2) (Nat.le_trans hIle (Nat.le_add_right I 2)) fun b o hb e => hs₃.extBut b o hb e
        have hst₃ : St (pre.length + 1) h₃ := W.frame _ _ _ hst₂ fun b hb o e => hs₃.extBut b o (hfpI b hb).2 e
        have hacc₃ : h₃.PlainList (I + 1) ys := hacc'.at fun o e => up _ o (n01 I).symm (n12 I) e
        have hR₃ : RepL (C.plus p) h₃ rs ys.toList := RepL.mono (Sub.xs fun b o hb e => up b o (fun q => hb (q ▸ pI)) (fun q => hb (q ▸ pL)) e) _ _ hR'
        have hv : its[pre.length]? = some v := by rw [hits]; simp
        obtain ⟨pv, e1, rv⟩ := hP pre.length u hPv
        rw [hv] at e1; cases e1
        have hp3 : ∀ b, p b → hsz s₁.heap ≤ b ∧ ∃ o, NoTab o ∧ h₃.get? b = some o := fun b q => by
          refine ⟨hpge b q, ?_⟩
          rw [← hp] at q
          rcases q with rfl | rfl | rfl
          · obtain ⟨o, ho, e⟩ := hlive _ _ hst₃
            exact ⟨o, ho.noTab, e⟩
          · obtain ⟨m, e⟩ := hacc₃; refine ⟨_, ?_, e⟩; exact noTab_cls nofun
          · obtain ⟨o, es, ep, e, hd, _⟩ := hn₃; exact ⟨o, noTab_data (by rw [hd]; nofun), e⟩
        have K3 := comp_cx K hok hi k3 hp3 hn₃ (by simp) (Rep.mono (Sub.plus k3 hpge) _ _ rv)
        have kp3 : Keeps s₁ { s' with heap := h₃, toks := tk₂ + 1 } := by
          obtain ⟨h', tk, gn, rfl, k1, k2⟩ := hkp
          exact ⟨h₃, _, gn, rfl, k3, k2⟩
        simp only [mapO] at hmap
        have after : ∀ s₄ : Shared, Keeps { s' with heap := h₃, toks := tk₂ + 1 } s₄ → Keeps s₁ s₄ ∧ St (pre.length + 1) s₄.heap ∧ s₄.heap.Ns (I + 2) (fun y => if y = x then some u else m' y) ∧ s₄.heap.PlainList (I + 1) ys ∧ RepL (C.plus p) s₄.heap rs ys.toList := fun s₄ k4 =>
          ⟨ktrans kp3 k4, W.frame _ _ _ hst₃ fun b hb o e => (kheap k4).pt b o (hfpT k3 b hb) e, (kheap k4).ns hn₃, (kheap k4).plain hacc₃, hR₃.keep (kheap k4)⟩
        revert hmap
        cases ht : pts F O ((compG sc sc2 G).set i (some v)) cs with
        | none => intro hmap; simp at hmap
        | some t =>
          intro hmap
          simp only [Option.bind_some] at hmap
          refine seqE (hc K3 ht) fun t' s₄ ⟨k4, r4⟩ => ?_
          subst r4
          obtain ⟨a1, a2, a3, a4, a5⟩ := after s₄ k4
          cases t' with
          | false =>
            simp only [Bool.false_eq_true, if_false] at hmap ⊢
            refine ⟨r.length, by simp, _, ys, pre ++ [v], r, rs, rr, a1, ?_, a3, a4, a5, by rw [hits]; simp, by simp; omega, hmap, hres', rfl⟩
            rw [List.length_append, List.length_singleton]; exact a2
          | true =>
            simp only [if_true] at hmap ⊢
            revert hmap
            cases hev : ev F O ((compG sc sc2 G).set i (some v)) pe with
            | none => intro hmap; simp at hmap
            | some y =>
              intro hmap
              simp only [Option.map_some] at hmap
              obtain ⟨rr', hmap', rfl⟩ := Option.map_eq_some_iff.mp hmap
              refine seqE (he (K3.keep k4) hev) fun uy s₅ ⟨k5, r5⟩ => ?_
              obtain ⟨b1, b2, b3, b4, b5⟩ := after s₅ (ktrans k4 k5)
              have hys : ys.size ≤ sizeLine := by
                have e1 := b5.length
                simp only [Array.length_toList] at e1
                have e2 : (2 * LIM + 1) ≤ sizeLine := by rw [sizeLine_eq]; decide
                have e3 : ys.size ≤ pre.length := by rw [e1]; exact hle
                exact Nat.le_trans (Nat.le_trans (Nat.le_trans e3 (Nat.le_of_lt hlt)) hlen) e2
              refine wpAny_list_append_plain (hsz := hys) b4 fun h₆ hl₆ hs₆ => ?_
              have k6 : KN s₁.heap h₆ := (kheap b1).above (I := I + 1) (Nat.le_trans hIle (Nat.le_succ I)) fun b o hb e => hs₆.extBut b o hb e
              have S6 : ∀ b o, ¬ (C.plus p).X b → s₅.heap.get? b = some o → h₆.get? b = some o := fun b o hb e => hs₆.extBut b o (fun q => hb (q ▸ pD)) e
              refine ⟨r.length, by simp, _, ys.push uy, pre ++ [v], r, rs ++ [y], rr', ?_, ?_, b3.sameBut hs₆ (n12 I).symm, hl₆, ?_, by rw [hits]; simp, by simp; omega, hmap', by simp [hres'], rfl⟩
              · obtain ⟨h', tk, gn, rfl, k1, k2⟩ := b1
                exact ⟨h₆, _, gn, rfl, k6, k2⟩
              · rw [List.length_append, List.length_singleton]
                exact W.frame _ _ _ b2 fun b hb o e => hs₆.extBut b o (hfpI b hb).1 e
              · rw [Array.toList_push]
                exact (RepL.mono (Sub.xs S6) _ _ b5).append (RepL.one (Rep.mono (Sub.xs S6) _ _ r5))
    · rw [hs₂]; exact ⟨h₁, _, s₁.gens, rfl, hk₁, id⟩
  exact codeAny_compStart_list (loop _ rfl) (W.self 0 _ _ _ hst₁ (loop _ rfl))
end
end Mine

namespace Mine
open StrLaws

section
variable {prog : Program} {w : World} {mg mb : Str → Option Value} {hB : Heap} {n : Nat} {sc : Scope}

theorem bad_okE {e : Expr} : ES prog w mg mb hB n sc e (.idx .cn .cn) := by
  intro F C G O env A s pv K hv
  simp [ev, pitem, asL] at hv
theorem noT {e : Expr} {pe : PE} (h : ∀ F O G, pt F O G pe = none) : TS prog w mg mb hB n sc e pe := by
  intro F C G O env A s b K hv
  rw [h] at hv; cases hv

theorem fold_none {iter : Expr} {env : Env} (h : noSet iter = true) : ∀ x, foldedSetIterable iter env x = pure x := by
  intro x
  cases iter <;> first | rfl | (simp [noSet] at h; done)
theorem behind_none {o : CmpOp} {r : Expr} (h : noSet r = true) : behindInMarks o r = false := by
  cases r <;> first | rfl | (simp [noSet] at h; done)

theorem compOk_names {sc sc2 : Scope} {x : Str} (h : compOk sc sc2 x = true) : sc2.kind = .function ∧ sc2.names.lookup x = some .local ∧ ∀ p ∈ sc2.names, (p.2 = .local → sc2.names.lookup p.1 = some .local) ∧ (p.2 = .free → sc.names.lookup p.1 = some .cell ∨ sc.names.lookup p.1 = some .free) := by
  simp only [compOk, Bool.and_eq_true, beq_iff_eq, List.all_eq_true] at h
  refine ⟨h.1.1.1, h.1.2, fun p hp => ⟨fun q => ?_, fun q => ?_⟩⟩
  · have := h.2 p hp; rw [q] at this; simpa using this
  · have := h.2 p hp; rw [q] at this; simpa using this

theorem comp_closure {F : PF1} {C : RC} {G : Slots} {O : Owns} {env : Env} {A : Around} {h : Heap} {sc2 : Scope} {x : Str} (K : Cx prog w mg mb hB n sc F C G O env A h) (hok : compOk sc sc2 x = true) :
    closureFor sc2 env = pure (clOf env sc2.names []) :=
  closure_ok fun p hp hf => K.I.cel p.1 (((compOk_names hok).2.2 p hp).2 hf)

theorem comp_okE {elt iter : Expr} {x : Str} {px : Pos} {ifs : List Expr} {sc2 : Scope} {pos : Pos} {i : Nat} {pe : PE} {pit : PIt} {cs : PEs}
    (hok : compOk sc sc2 x = true) (hns : noSet iter = true) (hi : slotOf sc2 x = some i) (hit : IS prog w mg mb hB n sc iter pit) (he : ES prog w mg mb hB n sc2 elt pe) (hc : CS prog w mg mb hB n sc2 ifs cs) :
    ES prog w mg mb hB n sc (.ListComp elt [⟨.Name x px, iter, ifs, 0⟩] sc2 pos) (.comp pe i pit cs (sc2.names.map fun p => if p.2 == .free then slotOf sc p.1 else none)) := by
  intro F C G O env A s pv K hv
  simp only [ev] at hv
  obtain ⟨its, e1, hv⟩ := Option.bind_eq_some_iff.mp hv
  obtain ⟨res, e2, rfl⟩ := Option.map_eq_some_iff.mp hv
  obtain ⟨hlen, hw⟩ := hit O K (.inl ⟨rfl, e1⟩)
  have hn := compOk_names hok
  rw [eval_ListComp]
  refine wpAny_comprehension_free (use := none) (E := noE) rfl (fold_none hns) (comp_closure K hok) hn.1 (fun p hp => (hn.2.2 p hp).1) ?_
  refine seqE hw fun xv s₁ ⟨k1, hpi⟩ => seqE (hpi A) fun it s₂ hitp => ?_
  refine comp_block (K.keep k1) hok hi he hc hitp hlen e2 ?_
  intro D L s' m' k2 hL hnL hr
  refine ⟨m', hnL, fun h' hs' => ?_⟩
  have hup : ∀ b o, b ≠ L → s'.heap.get? b = some o → h'.get? b = some o := fun b o hb e => hs'.extBut b o hb e
  refine ⟨?_, ?_⟩
  · obtain ⟨h1, tk1, g1, rfl, q1, q2⟩ := k1
    obtain ⟨h2, tk2, g2, rfl, q3, q4⟩ := k2
    exact ⟨h', tk2, g2, rfl, q1.trans (q3.above hL hup), fun z => q4 (q2 z)⟩
  · exact RC.plus_wide (p := (· = L)) (Rep.mono (Sub.xs fun b o hb e => hup b o (fun q => hb (xplus (p := (· = L)) q)) e) _ _ hr)

/-- the one regular expression's sub -/
def ResubOk (prog : Program) (w : World) (mg mb : Str → Option Value) (hB : Heap) : Prop :=
  ∀ (n : Nat) (sc : Scope) (ps : Arguments) (body e : Expr) (lsc : Scope) (rp ap lp p : Pos) (pe : PE), isGl sc "_twin_re_1" = true → (slotOf sc "stuff").isSome = true → lamOk ps lsc = true → (ap.endLine == p.line) = true → NoStars [e] = true → ES prog w mg mb hB n sc e pe →
    ES prog w mg mb hB n sc (.Call (.Attribute (.Name "_twin_re_1" rp) "sub" ap) [.Lambda ps body lsc lp, e] [] p) (.resub pe)

def SpecOk (prog : Program) (w : World) (hB : Heap) : Prop :=
  ∀ (n : Nat) (C : RC) (A : Around) (s : Shared) (x : Str) (t : Tok) (c : Nat), KN hB s.heap → Room n A → x.cps.toList = [c] → wpAny (model prog w) A (call (.builtin "str.translate") [.str x t, .ref spA]) (Post C s (.str (pesc c))) noE s
structure Prims (prog : Program) (w : World) (mg mb : Str → Option Value) (hB : Heap) : Prop where
  resub : ResubOk prog w mg mb hB
  spec : SpecOk prog w hB

theorem isstr_okE {f y : Str} {fp yp pos : Pos} {e : Expr} {p : PE} (he : ES prog w mg mb hB n sc e p) (hI : isI sc f [e, .Name y yp] = true) : ES prog w mg mb hB n sc (.Call (.Name f fp) [e, .Name y yp] [] pos) (.isstr p) := by
  simp only [isI, Bool.and_eq_true, beq_iff_eq] at hI
  obtain ⟨⟨⟨⟨rfl, rfl⟩, hg1⟩, hg2⟩, hn⟩ := hI
  intro F C G O env A s pv K h
  simp only [ev] at h
  obtain ⟨v, e1, h⟩ := Option.bind_eq_some_iff.mp h
  have hv : ∃ l, v = .str l ∧ pv = .bool true := by
    cases v <;> simp only [reduceCtorEq, Option.some.injEq] at h
    exact ⟨_, rfl, h.symm⟩
  obtain ⟨l, rfl, rfl⟩ := hv
  have hn2 : NoStars [e, .Name "str" yp] = true := by cases e <;> first | rfl | (simp [NoStars] at hn; done)
  have hb1 := K.I.base.bis ("isinstance", .builtin "isinstance") (by decide)
  have hb2 := K.I.base.bis ("str", .type "str") (by decide)
  refine Call_Name (backTo_of hn2) (glob_load (v := .builtin "isinstance") K hg1 (by decide) (.inr hb1) ?_)
  refine Calls.callWith_builtin (id := "isinstance") any_of (evalArgs_of ?_)
  refine Calls.spliced_cons (seqE (he K e1) fun u s1 ⟨k1, r1⟩ => ?_)
  simp only [Rep] at r1
  obtain ⟨x, t, rfl, _⟩ := r1
  refine Calls.spliced_cons (glob_load (v := .type "str") (K.keep k1) hg2 (by decide) (.inr hb2) ?_)
  refine Calls.spliced_nil ?_
  exact IsiPair.str_str ⟨k1, rep_bool⟩
theorem isstr_okT {f y : Str} {fp yp pos : Pos} {e : Expr} {p : PE} (he : ES prog w mg mb hB n sc (.Call (.Name f fp) [e, .Name y yp] [] pos) (.isstr p)) : TS prog w mg mb hB n sc (.Call (.Name f fp) [e, .Name y yp] [] pos) (.isstr p) := by
  intro F C G O env A s b K h
  refine plain_okT he (fun _ _ => rfl) K ?_
  simp only [pt] at h
  simp only [ev]
  obtain ⟨v, e1, h⟩ := Option.bind_eq_some_iff.mp h
  rw [e1]
  cases v <;> simp only [reduceCtorEq, Option.some.injEq] at h
  subst h
  rfl
theorem spec_okE (hp : Prims prog w mg mb hB) {o : Expr} {x y : Str} {ap yp pos : Pos} {p : PE} (ho : ES prog w mg mb hB n sc o p) (hb : noSuper o = true) (hl : (ap.endLine == pos.line) = true) (hI : isT sc x [.Name y yp] = true) :
    ES prog w mg mb hB n sc (.Call (.Attribute o x ap) [.Name y yp] [] pos) (.spec p) := by
  simp only [isT, Bool.and_eq_true, beq_iff_eq] at hI
  obtain ⟨⟨rfl, rfl⟩, hg⟩ := hI
  intro F C G O env A s pv K h
  simp only [ev] at h
  obtain ⟨v, e1, h⟩ := Option.bind_eq_some_iff.mp h
  have hv : ∃ c, v = .str [c] ∧ pv = .str (pesc c) := by
    split at h
    · cases h; exact ⟨_, rfl, rfl⟩
    · cases h
  obtain ⟨c, rfl, rfl⟩ := hv
  refine wpAny_Call_method_lateS (base_plain hb) (by rfl) hl (seqE (ho K e1) fun u s1 ⟨k1, r1⟩ => ?_)
  simp only [Rep] at r1
  obtain ⟨z, t, rfl, hz⟩ := r1
  refine ⟨"str", _, PySem.F.plainAttrs_str, PySem.F.slot_str_translate, PySem.F.type_str_translate, typeIs_str _ _ _, (fun a e => nomatch e), ?_⟩
  rw [backTo_of rfl]
  refine Calls.callWith_builtin any_of (evalArgs_of (Calls.spliced_cons (glob_load (v := .ref spA) (K.keep k1) hg (by decide) (.inl K.I.base.sp) (Calls.spliced_nil ?_))))
  exact seqE (hp.spec n C A s1 z t c (K.keep k1).I.top K.R hz) fun z s2 ⟨k2, r2⟩ => ⟨ktrans k1 k2, r2⟩

theorem cE_noSet : ∀ {k : Nat} {e : Expr} {pe : PE}, cE k sc e = some pe → noSet e = true := by
  intro k e pe h
  cases e <;> first | rfl | (cases k <;> simp [cE] at h; done)

theorem cMe_len {x : Str} {m : Nat} {me : PMe} (h : cMe x m = some me) : m ≤ 4 := by
  unfold cMe at h
  simp only [Bool.and_eq_true, beq_iff_eq] at h
  repeat' split at h
  all_goals first | (rename_i q; omega) | (cases h; done)

def Snd (prog : Program) (w : World) (mg mb : Str → Option Value) (hB : Heap) (n k : Nat) : Prop := ∀ (sc : Scope) (e : Expr) (pe : PE), cE k sc e = some pe → ES prog w mg mb hB n sc e pe ∧ TS prog w mg mb hB n sc e pe

theorem cEs_snd {k : Nat} (S : Snd prog w mg mb hB n k) : ∀ {es : List Expr} {pes : PEs}, cEs (cE k sc) es = some pes → SS prog w mg mb hB n sc es pes ∧ CS prog w mg mb hB n sc es pes
  | [], pes, h => by
    simp only [cEs, Option.some.injEq] at h; subst h
    exact ⟨ss_nil, cs_nil⟩
  | e :: r, pes, h => by
    simp only [cEs] at h
    obtain ⟨pe, e1, h⟩ := Option.bind_eq_some_iff.mp h
    obtain ⟨pr, e2, rfl⟩ := Option.map_eq_some_iff.mp h
    have h1 := S sc e pe e1
    have h2 := cEs_snd S e2
    exact ⟨ss_cons h1.1 h2.1, cs_cons h1.2 h2.2⟩

theorem cFs_snd {k : Nat} (S : Snd prog w mg mb hB n k) (es : List Expr) : ∀ {pes : PEs}, cFs (cE k sc) es = some pes → JS prog w mg mb hB n sc es pes := by
  induction es with
  | nil =>
    intro pes h
    simp only [cFs, Option.some.injEq] at h; subst h
    exact js_nil
  | cons e r ih =>
    intro pes h
    unfold cFs at h
    split at h
    · rename_i heq; cases heq
    · rename_i heq
      cases heq
      obtain ⟨pe, e1, h⟩ := Option.bind_eq_some_iff.mp h
      obtain ⟨pr, e2, rfl⟩ := Option.map_eq_some_iff.mp h
      exact js_field (S _ _ pe e1).1 (ih e2)
    · rename_i heq
      cases heq
      obtain ⟨pr, e2, rfl⟩ := Option.map_eq_some_iff.mp h
      exact js_const (ih e2)
    · cases h

theorem cO_snd {k : Nat} (S : Snd prog w mg mb hB n k) {e : Option Expr} {pe : PE} (h : cO (cE k sc) e = some pe) : OS prog w mg mb hB n sc e pe := by
  cases e with
  | none => simp only [cO, Option.some.injEq] at h; subst h; exact os_none
  | some e => simp only [cO] at h; exact os_some (S sc e pe h).1

theorem cI_snd {k : Nat} (S : Snd prog w mg mb hB n k) {e : Expr} {pit : PIt} (h : cI sc (cE k sc) e = some pit) : IS prog w mg mb hB n sc e pit := by
  have hst : ∀ {a : Expr} {pa : PE}, cE k sc a = some pa → NoStars [a] = true := by
    intro a pa ha
    cases a <;> first | rfl | (cases k <;> simp [cE] at ha; done)
  have hst2 : ∀ {a b : Expr} {pa pb : PE}, cE k sc a = some pa → cE k sc b = some pb → NoStars [a, b] = true := by
    intro a b pa pb ha hb
    have := hst hb
    cases a <;> first | exact this | (cases k <;> simp [cE] at ha; done)
  have hst3 : ∀ {a b c : Expr} {pa pb pc : PE}, cE k sc a = some pa → cE k sc b = some pb → cE k sc c = some pc → NoStars [a, b, c] = true := by
    intro a b c pa pb pc ha hb hc
    have := hst2 hb hc
    cases a <;> first | exact this | (cases k <;> simp [cE] at ha; done)
  unfold cI at h
  split at h
  · split at h
    · obtain ⟨pa, e1, rfl⟩ := Option.map_eq_some_iff.mp h
      exact is_rng1 (S sc _ pa e1).1 (hst e1) (by decide) ‹_›
    · cases h
  · split at h
    · obtain ⟨pa, e1, h⟩ := Option.bind_eq_some_iff.mp h
      obtain ⟨pb, e2, rfl⟩ := Option.map_eq_some_iff.mp h
      exact is_rng2 (S sc _ pa e1).1 (S sc _ pb e2).1 (hst2 e1 e2) (by decide) ‹_›
    · cases h
  · split at h
    · obtain ⟨pa, e1, h⟩ := Option.bind_eq_some_iff.mp h
      obtain ⟨pb, e2, h⟩ := Option.bind_eq_some_iff.mp h
      obtain ⟨pc, e3, rfl⟩ := Option.map_eq_some_iff.mp h
      exact is_rng3 (S sc _ pa e1).1 (S sc _ pb e2).1 (S sc _ pc e3).1 (hst3 e1 e2 e3) (by decide) ‹_›
    · cases h
  · obtain ⟨pa, e1, rfl⟩ := Option.map_eq_some_iff.mp h
    exact is_val (S sc _ pa e1).1

set_option maxHeartbeats 4000000 in
theorem cE_snd (hre : Prims prog w mg mb hB) : ∀ k : Nat, Snd prog w mg mb hB n k
  | 0, sc, e, pe, h => by simp [cE] at h
  | k + 1, sc, e, pe, h => by
    have S := cE_snd hre k
    unfold cE at h
    split at h
    · cases ‹_ + 1 = _›
    all_goals first | (rename_i heq; cases heq) | (cases h; done)
    · simp only [Option.some.injEq] at h; subst h
      exact ⟨const_ok (m := 0) (c := .none) (by simp [cE]), noT fun _ _ _ => rfl⟩
    · simp only [Option.some.injEq] at h; subst h
      exact ⟨const_ok (m := 0) (c := .bool _) (by simp [cE]), true_okT⟩
    · simp only [Option.some.injEq] at h; subst h
      exact ⟨const_ok (m := 0) (c := .int _) (by simp [cE]), noT fun _ _ _ => rfl⟩
    · simp only [Option.some.injEq] at h; subst h
      exact ⟨const_ok (m := 0) (c := .str _) (by simp [cE]), noT fun _ _ _ => rfl⟩
    · split at h
      · cases h
      · obtain ⟨i, e1, rfl⟩ := Option.map_eq_some_iff.mp h
        have hd := by simpa using ‹¬ dbg _ = true›
        exact ⟨name_ok hd e1, var_okT (name_ok hd e1)⟩
    · obtain ⟨a, e1, h⟩ := Option.bind_eq_some_iff.mp h
      obtain ⟨b, e2, h⟩ := Option.bind_eq_some_iff.mp h
      obtain ⟨o, e3, rfl⟩ := Option.map_eq_some_iff.mp h
      exact ⟨bin_okE (S _ _ _ e1).1 (S _ _ _ e2).1 e3, noT fun _ _ _ => rfl⟩
    · obtain ⟨a, e1, h⟩ := Option.bind_eq_some_iff.mp h
      obtain ⟨b, e2, rfl⟩ := Option.map_eq_some_iff.mp h
      exact ⟨and_okE (S _ _ _ e1).1 (S _ _ _ e2).1, and_okT (S _ _ _ e1).2 (S _ _ _ e2).2⟩
    · obtain ⟨a, e1, h⟩ := Option.bind_eq_some_iff.mp h
      obtain ⟨b, e2, rfl⟩ := Option.map_eq_some_iff.mp h
      exact ⟨or_okE (rest := [_]) (S _ _ _ e1).1 (fun K hv => (S _ _ _ e2).1 K hv) fun _ => ⟨_, _, rfl⟩, or_okT (S _ _ _ e1).2 fun K hv => allOr_one (S _ _ _ e2).2 K hv⟩
    · obtain ⟨a, e1, h⟩ := Option.bind_eq_some_iff.mp h
      obtain ⟨b, e2, rfl⟩ := Option.map_eq_some_iff.mp h
      exact ⟨or_okE (S _ _ _ e1).1 (fun K hv => (S _ _ _ e2).1 K hv) fun _ => ⟨_, _, rfl⟩, or_okT (S _ _ _ e1).2 fun K hv => (S _ _ _ e2).2 K hv⟩
    · obtain ⟨a, e1, rfl⟩ := Option.map_eq_some_iff.mp h
      exact ⟨not_okE (S _ _ _ e1).1, not_okT (S _ _ _ e1).2⟩
    · simp only [Option.some.injEq] at h; subst h
      exact ⟨neg_ok, noT fun _ _ _ => rfl⟩
    · obtain ⟨c, e0, h⟩ := Option.bind_eq_some_iff.mp h
      obtain ⟨a, e1, h⟩ := Option.bind_eq_some_iff.mp h
      obtain ⟨b, e2, rfl⟩ := Option.map_eq_some_iff.mp h
      exact ⟨ite_okE (S _ _ _ e0).2 (S _ _ _ e1).1 (S _ _ _ e2).1, noT fun _ _ _ => rfl⟩
    · obtain ⟨a, e1, h⟩ := Option.bind_eq_some_iff.mp h
      obtain ⟨b, e2, rfl⟩ := Option.map_eq_some_iff.mp h
      have hb := behind_none (o := ‹CmpOp›) (cE_noSet e2)
      exact ⟨cmp_okE (S _ _ _ e1).1 (S _ _ _ e2).1 hb, cmp_okT (S _ _ _ e1).1 (S _ _ _ e2).1 hb⟩
    · obtain ⟨a, e1, h⟩ := Option.bind_eq_some_iff.mp h
      obtain ⟨b, e2, h⟩ := Option.bind_eq_some_iff.mp h
      obtain ⟨c, e3, rfl⟩ := Option.map_eq_some_iff.mp h
      exact ⟨cmp2_okE (S _ _ _ e1).1 (S _ _ _ e2).1 (S _ _ _ e3).1 (behind_none (cE_noSet e3)), cmp2_okT (S _ _ _ e1).1 (S _ _ _ e2).1 (S _ _ _ e3).1 (behind_none (cE_noSet e3))⟩
    · obtain ⟨a, e1, h⟩ := Option.bind_eq_some_iff.mp h
      obtain ⟨b, e2, h⟩ := Option.bind_eq_some_iff.mp h
      obtain ⟨c, e3, rfl⟩ := Option.map_eq_some_iff.mp h
      exact ⟨sl_okE (S _ _ _ e1).1 (cO_snd S e2) (cO_snd S e3), noT fun _ _ _ => rfl⟩
    · obtain ⟨a, e1, h⟩ := Option.bind_eq_some_iff.mp h
      obtain ⟨b, e2, rfl⟩ := Option.map_eq_some_iff.mp h
      exact ⟨idx_okE (S _ _ _ e1).1 (S _ _ _ e2).1, noT fun _ _ _ => rfl⟩
    · obtain ⟨ps, e1, h⟩ := Option.bind_eq_some_iff.mp h
      split at h
      · rename_i hc
        simp only [Bool.and_eq_true, decide_eq_true_eq] at hc
        cases h
        exact ⟨tup_okE (cEs_snd S e1).1 hc.2 hc.1, noT fun _ _ _ => rfl⟩
      · cases h
    · obtain ⟨ps, e1, h⟩ := Option.bind_eq_some_iff.mp h
      split at h
      · rename_i hc
        simp only [Bool.and_eq_true, decide_eq_true_eq] at hc
        cases h
        exact ⟨lst_okE (cEs_snd S e1).1 hc.2 hc.1, noT fun _ _ _ => rfl⟩
      · cases h
    · simp only [Option.some.injEq] at h; subst h
      exact ⟨bad_okE, noT fun _ _ _ => rfl⟩
    · split at h
      · rename_i hI
        have hsh : ∃ e y q, ‹List Expr› = [e, .Name y q] := by
          revert hI; unfold isI; split
          · intro _; exact ⟨_, _, _, rfl⟩
          · intro hh; cases hh
        obtain ⟨e, y, q, hargs⟩ := hsh
        subst hargs
        obtain ⟨pe, e1, rfl⟩ := Option.map_eq_some_iff.mp h
        exact ⟨isstr_okE (S _ _ _ e1).1 hI, isstr_okT (isstr_okE (S _ _ _ e1).1 hI)⟩
      split at h
      · rename_i hc
        simp only [Bool.and_eq_true, Bool.not_eq_true'] at hc
        split at h
        · rename_i b hb
          obtain ⟨ps, e1, rfl⟩ := Option.map_eq_some_iff.mp h
          exact ⟨bi_okE (cEs_snd S e1).1 hc.2 hc.1.1 hc.1.2 hb, noT fun _ _ _ => rfl⟩
        · obtain ⟨g, eg, h⟩ := Option.bind_eq_some_iff.mp h
          obtain ⟨ps, e1, rfl⟩ := Option.map_eq_some_iff.mp h
          exact ⟨call_okE (cEs_snd S e1).1 hc.2 hc.1.1 hc.1.2 (lookup_mem eg), call_okT (call_okE (cEs_snd S e1).1 hc.2 hc.1.1 hc.1.2 (lookup_mem eg))⟩
      · cases h
    · simp only [Option.some.injEq] at h; subst h
      exact ⟨bad_okE, noT fun _ _ _ => rfl⟩
    · split at h
      · rename_i hc
        simp only [Bool.and_eq_true, beq_iff_eq] at hc
        obtain ⟨⟨⟨⟨⟨hc0, hcr⟩, hc2⟩, hcl⟩, hce⟩, hcn⟩ := hc
        obtain ⟨pa, e1, rfl⟩ := Option.map_eq_some_iff.mp h
        subst hcr
        exact ⟨hre.resub _ _ _ _ _ _ _ _ _ _ _ hc0 hc2 hcl (beq_iff_eq.mpr hce) hcn (S _ _ _ e1).1, noT fun _ _ _ => rfl⟩
      · cases h
    · split at h
      · rename_i hI
        have hsh : ∃ y q, ‹List Expr› = [.Name y q] := by
          revert hI; unfold isT; split
          · intro _; exact ⟨_, _, rfl⟩
          · intro hh; cases hh
        obtain ⟨y, q, hargs⟩ := hsh
        subst hargs
        split at h
        · rename_i hc
          simp only [Bool.and_eq_true] at hc
          obtain ⟨pe, e1, rfl⟩ := Option.map_eq_some_iff.mp h
          exact ⟨spec_okE hre (S _ _ _ e1).1 hc.1 hc.2 hI, noT fun _ _ _ => rfl⟩
        · cases h
      split at h
      · rename_i hc
        simp only [Bool.and_eq_true] at hc
        obtain ⟨me, e0, h⟩ := Option.bind_eq_some_iff.mp h
        obtain ⟨o, e1, h⟩ := Option.bind_eq_some_iff.mp h
        obtain ⟨ps, e2, rfl⟩ := Option.map_eq_some_iff.mp h
        exact ⟨me_okE (m := 0) (S _ _ _ e1).1 (cEs_snd S e2).1 hc.2 e0 hc.1.1 hc.1.2 (cMe_len e0), noT fun _ _ _ => rfl⟩
      · cases h
    · split at h
      · cases h
      · rename_i hc
        simp only [Bool.not_eq_true', Bool.not_eq_false, Bool.and_eq_true] at hc
        obtain ⟨i, e0, h⟩ := Option.bind_eq_some_iff.mp h
        obtain ⟨it, e1, h⟩ := Option.bind_eq_some_iff.mp h
        obtain ⟨el, e2, h⟩ := Option.bind_eq_some_iff.mp h
        obtain ⟨cs, e3, rfl⟩ := Option.map_eq_some_iff.mp h
        exact ⟨comp_okE hc.1 hc.2 e0 (cI_snd S e1) (S _ _ _ e2).1 (cEs_snd S e3).2, noT fun _ _ _ => rfl⟩
    · obtain ⟨ps, e1, rfl⟩ := Option.map_eq_some_iff.mp h
      exact ⟨fstr_okE (cFs_snd S _ e1), noT fun _ _ _ => rfl⟩
end
end Mine

namespace Mine
open StrLaws

theorem ns_eq {h : Heap} {a : Addr} {m m' : Str → Option Value} (x : h.Ns a m) (y : h.Ns a m') (z : Str) : m z = m' z := by
  obtain ⟨o, es, ep, e, hd, _, hm⟩ := x
  obtain ⟨o', es', ep', e', hd', _, hm'⟩ := y
  rw [e] at e'; cases e'
  rw [hd] at hd'; cases hd'
  rw [← hm, hm']
theorem ns_ne_cell {h : Heap} {a c : Addr} {m : Str → Option Value} {v : Option Value} (x : h.Ns a m) (y : h.IsCell c v) : a ≠ c := by
  rintro rfl
  obtain ⟨o, es, ep, e, hd, _⟩ := x
  obtain ⟨o', e', hd'⟩ := y
  rw [e] at e'; cases e'; rw [hd] at hd'; cases hd'
theorem ns_ne_list {h : Heap} {a c : Addr} {m : Str → Option Value} {xs : Array Value} (x : h.Ns a m) (y : h.PlainList c xs) : a ≠ c := by
  rintro rfl
  obtain ⟨o, es, ep, e, hd, _⟩ := x
  obtain ⟨n, e'⟩ := y
  rw [e] at e'; cases e'; cases hd
theorem cell_ne_list {h : Heap} {a c : Addr} {v : Option Value} {xs : Array Value} (x : h.IsCell a v) (y : h.PlainList c xs) : a ≠ c := by
  rintro rfl
  obtain ⟨o, e, hd⟩ := x
  obtain ⟨n, e'⟩ := y
  rw [e] at e'; cases e'; cases hd
theorem ns_live {h : Heap} {a : Addr} {m : Str → Option Value} (x : h.Ns a m) : ∃ o, NoTab o ∧ h.get? a = some o := by
  obtain ⟨o, es, ep, e, hd, _⟩ := x
  exact ⟨o, noTab_data (by rw [hd]; nofun), e⟩
theorem cell_live {h : Heap} {a : Addr} {v : Option Value} (x : h.IsCell a v) : ∃ o, NoTab o ∧ h.get? a = some o := by
  obtain ⟨o, e, hd⟩ := x
  exact ⟨o, noTab_data (by rw [hd]; nofun), e⟩
theorem list_live {h : Heap} {a : Addr} {xs : Array Value} (x : h.PlainList a xs) : ∃ o, NoTab o ∧ h.get? a = some o := by
  obtain ⟨m, e⟩ := x
  refine ⟨_, ?_, e⟩
  exact noTab_cls nofun
theorem ns_hlt {h : Heap} {a : Addr} {m : Str → Option Value} (x : h.Ns a m) : a < hsz h := let ⟨_, _, e⟩ := ns_live x; hsz_lt e
theorem cell_hlt {h : Heap} {a : Addr} {v : Option Value} (x : h.IsCell a v) : a < hsz h := let ⟨_, _, e⟩ := cell_live x; hsz_lt e
theorem cell_eq {h : Heap} {a : Addr} {v v' : Option Value} (x : h.IsCell a v) (y : h.IsCell a v') : v = v' := by
  obtain ⟨o, e, hd⟩ := x
  obtain ⟨o', e', hd'⟩ := y
  rw [e] at e'; cases e'; rw [hd] at hd'; cases hd'; rfl

section
variable (prog : Program) (w : World) (mg mb : Str → Option Value) (hB : Heap) (n : Nat) (sc : Scope) (F : PF1) (env : Env) (A : Around) (C0 : RC) (h0 : Heap)
/-- a function's frame under way -/
structure Fra (C : RC) (σ : St) (h : Heap) : Prop where
  cx : Cx prog w mg mb hB n sc F C σ.G σ.O env A h
  b0 : KN hB h0
  k0 : KN h0 h
  x0 : ∀ b, C.X b → C0.X b ∨ hsz h0 ≤ b
  xw : ∀ b, C0.X b → C.X b
  st : C.st = C0.st
  ns : ∃ m, h.Ns env.locals m
  xl : C.X env.locals ∧ hsz h0 ≤ env.locals
  cl : ∀ x c, env.cells.lookup x = some c → C.X c ∧ hsz h0 ≤ c ∧ ∃ v, h.IsCell c v
  ci : ∀ x y c, env.cells.lookup x = some c → env.cells.lookup y = some c → x = y
  ad : ∀ (k : Nat) a, C.ads[k]? = some a → hsz h0 ≤ a ∧ ∃ xs, h.PlainList a xs
  ax : ∀ (k : Nat) a vs, σ.O[k]? = some (some vs) → C.ads[k]? = some a → C.X a
  ai : ∀ (k j : Nat) a, C.ads[k]? = some a → C.ads[j]? = some a → k = j
  al : C.ads.length = σ.O.length
  nf : ∀ x, sc.names.lookup x ≠ some .free
  x00 : ∀ b, C0.X b → b < hsz h0
end

section
variable {prog : Program} {w : World} {mg mb : Str → Option Value} {hB : Heap} {n : Nat} {sc : Scope} {F : PF1} {env : Env} {A : Around} {C0 : RC} {h0 : Heap}

theorem Fra.keep {C : RC} {σ : St} {h h' : Heap} (X : Fra prog w mg mb hB n sc F env A C0 h0 C σ h) (k : KN h h') : Fra prog w mg mb hB n sc F env A C0 h0 C σ h' where
  cx := ⟨X.cx.FS, X.cx.I.keep k, X.cx.R⟩
  b0 := X.b0
  k0 := X.k0.trans k
  x0 := X.x0
  xw := X.xw
  st := X.st
  ns := let ⟨m, e⟩ := X.ns; ⟨m, k.ns e⟩
  xl := X.xl
  cl := fun x c e => let ⟨a, b, v, d⟩ := X.cl x c e; ⟨a, b, v, k.cell d⟩
  ci := X.ci
  ad := fun j a e => let ⟨b, xs, p⟩ := X.ad j a e; ⟨b, xs, k.plain p⟩
  ax := X.ax
  ai := X.ai
  al := X.al
  nf := X.nf
  x00 := X.x00

/-- which heap changes leave the frame's other things alone -/
theorem Fra.write {C : RC} {σ σ' : St} {h h' : Heap} {q : Addr} (X : Fra prog w mg mb hB n sc F env A C0 h0 C σ h) (hs : ∀ b o, b ≠ q → h.get? b = some o → h'.get? b = some o) (hq0 : hsz h0 ≤ q) (hq : C.X q → ∃ o, NoTab o ∧ h'.get? q = some o)
    (ns : ∃ m, h'.Ns env.locals m) (cl : ∀ x c, env.cells.lookup x = some c → ∃ v, h'.IsCell c v) (ad : ∀ (k : Nat) a, C.ads[k]? = some a → ∃ xs, h'.PlainList a xs)
    (slots : ∀ x i v, slotOf sc x = some i → σ'.G[i]? = some (some v) → ∃ u, Sees env h' x u ∧ Rep C h' v u)
    (own : ∀ (k : Nat) vs, σ'.O[k]? = some (some vs) → ∃ a xs, C.ads[k]? = some a ∧ h'.PlainList a xs ∧ RepL C h' vs xs.toList)
    (ax : ∀ (k : Nat) a vs, σ'.O[k]? = some (some vs) → C.ads[k]? = some a → C.X a) (al : C.ads.length = σ'.O.length) : Fra prog w mg mb hB n sc F env A C0 h0 C σ' h' where
  cx := by
    have I := X.cx.I
    have k0 : KN h0 h' := X.k0.above hq0 hs
    refine ⟨X.cx.FS, ⟨I.base, I.kind, I.glb, I.blt, I.cdv, X.b0.trans k0, I.knd, I.cel, slots, ⟨own, fun b hb => ?_⟩⟩, X.cx.R⟩
    obtain ⟨o, nt, e⟩ := I.W.lt b hb
    by_cases hbq : b = q
    · subst hbq; exact hq hb
    · exact ⟨o, nt, hs b o hbq e⟩
  b0 := X.b0
  k0 := X.k0.above hq0 hs
  x0 := X.x0
  xw := X.xw
  st := X.st
  ns := ns
  xl := X.xl
  cl := fun x c e => let ⟨a, b, _⟩ := X.cl x c e; ⟨a, b, cl x c e⟩
  ci := X.ci
  ad := fun j a e => ⟨(X.ad j a e).1, ad j a e⟩
  ax := ax
  ai := X.ai
  al := al
  nf := X.nf
  x00 := X.x00

theorem keepsX_of {C : RC} {h h' : Heap} {q : Addr} (hx : C.X q) (hs : Heap.SameBut q h h') : ∀ b o, ¬ C.X b → h.get? b = some o → h'.get? b = some o :=
  fun b o hb e => hs.extBut b o (fun z => hb (z ▸ hx)) e

theorem store_ok2 {C : RC} {σ : St} {s : Shared} {x : Str} {i : Nat} {v : PV} {u : Value} {Q : Unit → Shared → Prop} {E : Value → Shared → Prop} (X : Fra prog w mg mb hB n sc F env A C0 h0 C σ s.heap) (hi : slotOf sc x = some i) (hr : Rep C s.heap v u)
    (hQ : ∀ h' tk, (∀ b o, ¬ C.X b → s.heap.get? b = some o → h'.get? b = some o) → (∀ b o, b ≠ env.locals → (∀ x c, env.cells.lookup x = some c → b ≠ c) → s.heap.get? b = some o → h'.get? b = some o) → Fra prog w mg mb hB n sc F env A C0 h0 C (σ.put i v) h' → Q () { s with heap := h', toks := tk }) :
    wpAny (model prog w) A (storeName env x u) Q E s := by
  obtain ⟨k, hg, hl, hk⟩ := slot_get hi
  obtain ⟨m, hn⟩ := X.ns
  have I := X.cx.I
  have hk' : (env.kindOf x = some .local ∧ k = .local) ∨ (env.kindOf x = some .cell ∧ k = .cell) := by
    rcases I.knd x k hl with q | ⟨rfl, _⟩
    · rcases hk with rfl | rfl | rfl
      · exact .inl ⟨q, rfl⟩
      · exact .inr ⟨q, rfl⟩
      · exact absurd hl (X.nf x)
    · exact absurd hl (X.nf x)
  have lists : ∀ {h' : Heap} {q : Addr}, Heap.SameBut q s.heap h' → C.X q → (∀ (j : Nat) a, C.ads[j]? = some a → a ≠ q) → ∀ (j : Nat) vs, (σ.put i v).O[j]? = some (some vs) → ∃ a xs, C.ads[j]? = some a ∧ h'.PlainList a xs ∧ RepL C h' vs xs.toList := by
    intro h' q hs hq hne j vs e
    obtain ⟨a, xs, h1, h2, h3⟩ := I.W.own j vs e
    exact ⟨a, xs, h1, h2.extBut hs.extBut (hne j a h1), RepL.mono (Sub.xs (keepsX_of hq hs)) _ _ h3⟩
  rcases hk' with ⟨hkn, rfl⟩ | ⟨hkn, rfl⟩
  · refine wpAny_storeName_local hkn hn (fun h' hn' hs => ?_) (by rw [I.kind]; rfl)
    have hne : ∀ (j : Nat) a, C.ads[j]? = some a → a ≠ env.locals := fun j a e => by
      obtain ⟨_, xs, hp⟩ := X.ad j a e
      exact (ns_ne_list hn hp).symm
    have hX := keepsX_of X.xl.1 hs
    refine hQ h' _ hX (fun b o h1 _ e => hs.extBut b o h1 e) (X.write hs.extBut X.xl.2 (fun _ => ns_live hn') ⟨_, hn'⟩ (fun y c e => ?_) (fun j a e => ?_) (fun y j pv e1 e2 => ?_) (lists hs X.xl.1 hne) X.ax X.al)
    · obtain ⟨_, _, vv, hc⟩ := X.cl y c e
      exact ⟨vv, hc.sameBut hs (ns_ne_cell hn hc).symm⟩
    · obtain ⟨_, xs, hp⟩ := X.ad j a e
      exact ⟨xs, hp.extBut hs.extBut (hne j a e)⟩
    · by_cases hj : j = i
      · subst hj
        have := slot_inj e1 hi
        subst this
        simp only [St.put, List.getElem?_set, eq_self, if_true] at e2
        split at e2
        · cases e2
          exact ⟨u, .inl ⟨hkn, _, hn', by simp⟩, Rep.mono (Sub.xs hX) _ _ hr⟩
        · cases e2
      · simp only [St.put] at e2
        rw [List.getElem?_set_ne (fun q => hj q.symm)] at e2
        obtain ⟨u', Se, r⟩ := I.slots y j pv e1 e2
        have hyx : y ≠ x := fun q => by subst q; rw [hi] at e1; cases e1; exact hj rfl
        refine ⟨u', ?_, Rep.mono (Sub.xs hX) _ _ r⟩
        rcases Se with ⟨a, m1, b, c⟩ | ⟨a, c, b, d⟩
        · exact .inl ⟨a, _, hn', by simp only [hyx, if_false]; rw [ns_eq hn b]; exact c⟩
        · exact .inr ⟨a, c, b, d.sameBut hs (ns_ne_cell hn d).symm⟩
  · obtain ⟨c, hc⟩ := I.cel x (.inl hl)
    obtain ⟨hcx, hc0, v0, hcv⟩ := X.cl x c hc
    refine wpAny_storeName_cell I.kind hkn hc hcv fun h' hcv' hs => ?_
    have hne : ∀ (j : Nat) a, C.ads[j]? = some a → a ≠ c := fun j a e => by
      obtain ⟨_, xs, hp⟩ := X.ad j a e
      exact (cell_ne_list hcv hp).symm
    have hX := keepsX_of hcx hs
    have hn' : h'.Ns env.locals m := hn.sameBut hs (ns_ne_cell hn hcv)
    refine hQ h' s.toks hX (fun b o _ h2 e => hs.extBut b o (h2 x c hc) e) (X.write hs.extBut hc0 (fun _ => cell_live hcv') ⟨_, hn'⟩ (fun y c' e => ?_) (fun j a e => ?_) (fun y j pv e1 e2 => ?_) (lists hs hcx hne) X.ax X.al)
    · obtain ⟨_, _, vv, hc'⟩ := X.cl y c' e
      by_cases hcc : c' = c
      · subst hcc; exact ⟨_, hcv'⟩
      · exact ⟨vv, hc'.sameBut hs hcc⟩
    · obtain ⟨_, xs, hp⟩ := X.ad j a e
      exact ⟨xs, hp.extBut hs.extBut (hne j a e)⟩
    · by_cases hj : j = i
      · subst hj
        have := slot_inj e1 hi
        subst this
        simp only [St.put, List.getElem?_set, eq_self, if_true] at e2
        split at e2
        · cases e2
          exact ⟨u, .inr ⟨.inl hkn, c, hc, hcv'⟩, Rep.mono (Sub.xs hX) _ _ hr⟩
        · cases e2
      · simp only [St.put] at e2
        rw [List.getElem?_set_ne (fun q => hj q.symm)] at e2
        obtain ⟨u', Se, r⟩ := I.slots y j pv e1 e2
        have hyx : y ≠ x := fun q => by subst q; rw [hi] at e1; cases e1; exact hj rfl
        refine ⟨u', ?_, Rep.mono (Sub.xs hX) _ _ r⟩
        rcases Se with ⟨a, m1, b, c1⟩ | ⟨a, c', b, d⟩
        · exact .inl ⟨a, m1, b.sameBut hs (ns_ne_cell b hcv), c1⟩
        · refine .inr ⟨a, c', b, d.sameBut hs fun q => ?_⟩
          subst q
          exact hyx (X.ci y x c' b hc)

theorem store_ok {C : RC} {σ : St} {s : Shared} {x : Str} {i : Nat} {v : PV} {u : Value} {Q : Unit → Shared → Prop} {E : Value → Shared → Prop} (X : Fra prog w mg mb hB n sc F env A C0 h0 C σ s.heap) (hi : slotOf sc x = some i) (hr : Rep C s.heap v u)
    (hQ : ∀ h' tk, (∀ b o, ¬ C.X b → s.heap.get? b = some o → h'.get? b = some o) → Fra prog w mg mb hB n sc F env A C0 h0 C (σ.put i v) h' → Q () { s with heap := h', toks := tk }) :
    wpAny (model prog w) A (storeName env x u) Q E s := store_ok2 X hi hr fun h' tk h1 _ Y => hQ h' tk h1 Y

/-- writing an own list -/
theorem Fra.putO {C : RC} {σ : St} {h h' : Heap} {k : Nat} {a : Addr} {vs vs' : List PV} {xs : Array Value} (X : Fra prog w mg mb hB n sc F env A C0 h0 C σ h) (ho : σ.O[k]? = some (some vs)) (ha : C.ads[k]? = some a)
    (hs : Heap.SameBut a h h') (hp : h'.PlainList a xs) (hr : RepL C h vs' xs.toList) : Fra prog w mg mb hB n sc F env A C0 h0 C (σ.putO k vs') h' := by
  have hax := X.ax k a vs ho ha
  have hX := keepsX_of hax hs
  obtain ⟨ha0, xs0, hp0⟩ := X.ad k a ha
  obtain ⟨m, hn⟩ := X.ns
  have I := X.cx.I
  refine X.write hs.extBut ha0 (fun _ => list_live hp) ⟨m, hn.sameBut hs (ns_ne_list hn hp0)⟩ (fun y c e => ?_) (fun j b e => ?_) (fun y j pv e1 e2 => ?_) (fun j vs1 e => ?_) (fun j b vs1 e eb => ?_) (by simp [St.putO, X.al])
  · obtain ⟨_, _, vv, hc⟩ := X.cl y c e
    exact ⟨vv, hc.sameBut hs (cell_ne_list hc hp0)⟩
  · obtain ⟨_, ys, hb⟩ := X.ad j b e
    by_cases hba : b = a
    · subst hba; exact ⟨_, hp⟩
    · exact ⟨ys, hb.extBut hs.extBut hba⟩
  · obtain ⟨u', Se, r⟩ := I.slots y j pv e1 e2
    refine ⟨u', ?_, Rep.mono (Sub.xs hX) _ _ r⟩
    rcases Se with ⟨a1, m1, b, c⟩ | ⟨a1, c, b, d⟩
    · exact .inl ⟨a1, m1, b.sameBut hs (ns_ne_list b hp0), c⟩
    · exact .inr ⟨a1, c, b, d.sameBut hs (cell_ne_list d hp0)⟩
  · simp only [St.putO, List.getElem?_set] at e
    split at e
    · rename_i hkj
      subst hkj
      split at e
      · cases e
        exact ⟨a, xs, ha, hp, RepL.mono (Sub.xs hX) _ _ hr⟩
      · cases e
    · rename_i hkj
      obtain ⟨b, ys, h1, h2, h3⟩ := I.W.own j vs1 e
      exact ⟨b, ys, h1, h2.extBut hs.extBut (fun q => by subst q; exact hkj (X.ai k j b ha h1)), RepL.mono (Sub.xs hX) _ _ h3⟩
  · simp only [St.putO, List.getElem?_set] at e
    split at e
    · rename_i hkj
      subst hkj
      rw [ha] at eb; cases eb; exact hax
    · exact X.ax j b vs1 e eb
end
end Mine

namespace Mine
open StrLaws

/-- what a statement keeps -/
structure Big (C C' : RC) (h h' : Heap) : Prop where
  X : ∀ b o, NoTab o → h.get? b = some o → ¬ C.X b → ¬ C'.X b
  st : C'.st = C.st
  ads : ∀ (k : Nat) (a : Addr), C.ads[k]? = some a → C'.ads[k]? = some a
  keep : ∀ b o, NoTab o → ¬ C.X b → h.get? b = some o → h'.get? b = some o
theorem Big.sub {C C' : RC} {h h' : Heap} (x : Big C C' h h') : Sub C C' h h' := ⟨fun b o v e => x.X b o v.noTab e, x.st, x.ads, fun b o v hx e => x.keep b o v.noTab hx e⟩
theorem Big.refl (C : RC) (h : Heap) : Big C C h h := ⟨fun _ _ _ _ x => x, rfl, fun _ _ x => x, fun _ _ _ _ e => e⟩
theorem Big.trans {C C' C'' : RC} {h h' h'' : Heap} (x : Big C C' h h') (y : Big C' C'' h' h'') : Big C C'' h h'' where
  X b o n e hx := y.X b o n (x.keep b o n hx e) (x.X b o n e hx)
  st := y.st.trans x.st
  ads k a e := y.ads k a (x.ads k a e)
  keep b o n hx e := y.keep b o n (x.X b o n e hx) (x.keep b o n hx e)
theorem Big.of_kn {C : RC} {h h' : Heap} (k : KN h h') : Big C C h h' := ⟨fun _ _ _ _ x => x, rfl, fun _ _ x => x, fun b o n _ e => k.nt b o n e⟩
theorem Big.xs {C : RC} {h h' : Heap} (hk : ∀ b o, ¬ C.X b → h.get? b = some o → h'.get? b = some o) : Big C C h h' := ⟨fun _ _ _ _ x => x, rfl, fun _ _ x => x, fun b o _ hx e => hk b o hx e⟩

def Same (s s' : Shared) : Prop := ∃ h' tk gn, s' = { s with heap := h', toks := tk, gens := gn } ∧ (AllBare s.gens → AllBare gn)
theorem Same.trans {a b c : Shared} (x : Same a b) (y : Same b c) : Same a c := by
  obtain ⟨h, t, g, rfl, k⟩ := x
  obtain ⟨h', t', g', rfl, k'⟩ := y
  exact ⟨h', t', g', rfl, fun z => k' (k z)⟩
theorem Same.of {a b : Shared} (x : Keeps a b) : Same a b := by
  obtain ⟨h, t, g, rfl, _, k⟩ := x
  exact ⟨h, t, g, rfl, k⟩
theorem Same.heap {s : Shared} {h : Heap} {tk : Tok} : Same s { s with heap := h, toks := tk } := ⟨h, tk, s.gens, rfl, id⟩

def FlowOk (C0 : RC) : PF → Flow → Heap → Prop
  | .next, fl, _ => fl = .next
  | .brk, fl, _ => fl = .brk
  | .ret v, fl, h => ∃ u, fl = .ret u ∧ (noOwn v = true → Rep C0 h v u)

section
variable (prog : Program) (w : World) (mg mb : Str → Option Value) (hB : Heap) (n : Nat) (sc : Scope)
def Res (F : PF1) (env : Env) (A : Around) (C0 : RC) (h0 : Heap) (C : RC) (s : Shared) (σ' : St) (f : PF) : Flow → Shared → Prop := fun fl s' =>
  ∃ C', Big C C' s.heap s'.heap ∧ Same s s' ∧ Fra prog w mg mb hB n sc F env A C0 h0 C' σ' s'.heap ∧ FlowOk C0 f fl s'.heap
def XS (st : Stmt) (p : PS) : Prop :=
  ∀ ⦃N : Nat⦄ ⦃F : PF1⦄ ⦃env : Env⦄ ⦃A : Around⦄ ⦃C0 : RC⦄ ⦃h0 : Heap⦄ ⦃C : RC⦄ ⦃σ : St⦄ ⦃s : Shared⦄ ⦃σ' : St⦄ ⦃f : PF⦄, Fra prog w mg mb hB n sc F env A C0 h0 C σ s.heap → ex N F p σ = some (σ', f) →
    wpAny (model prog w) A (exec st env) (Res prog w mg mb hB n sc F env A C0 h0 C s σ' f) noE s
def XSS (sts : List Stmt) (ps : PSs) : Prop :=
  ∀ ⦃N : Nat⦄ ⦃F : PF1⦄ ⦃env : Env⦄ ⦃A : Around⦄ ⦃C0 : RC⦄ ⦃h0 : Heap⦄ ⦃C : RC⦄ ⦃σ : St⦄ ⦃s : Shared⦄ ⦃σ' : St⦄ ⦃f : PF⦄, Fra prog w mg mb hB n sc F env A C0 h0 C σ s.heap → exs N F ps σ = some (σ', f) →
    wpAny (model prog w) A (execs sts env) (Res prog w mg mb hB n sc F env A C0 h0 C s σ' f) noE s
end

section
variable {prog : Program} {w : World} {mg mb : Str → Option Value} {hB : Heap} {n : Nat} {sc : Scope} {F : PF1} {env : Env} {A : Around} {C0 : RC} {h0 : Heap}

theorem Res.trans {C C1 : RC} {s s1 : Shared} {σ' : St} {f : PF} {fl : Flow} {s' : Shared} (x : Big C C1 s.heap s1.heap) (y : Same s s1) (r : Res prog w mg mb hB n sc F env A C0 h0 C1 s1 σ' f fl s') : Res prog w mg mb hB n sc F env A C0 h0 C s σ' f fl s' :=
  let ⟨C', a, b, c, d⟩ := r; ⟨C', x.trans a, y.trans b, c, d⟩
theorem Res.keep {C : RC} {s s1 : Shared} {σ' : St} {f : PF} {fl : Flow} {s' : Shared} (k : Keeps s s1) (r : Res prog w mg mb hB n sc F env A C0 h0 C s1 σ' f fl s') : Res prog w mg mb hB n sc F env A C0 h0 C s σ' f fl s' :=
  Res.trans (.of_kn (kheap k)) (.of k) r
theorem Res.stay {C : RC} {σ : St} {s s' : Shared} (X : Fra prog w mg mb hB n sc F env A C0 h0 C σ s.heap) (k : Keeps s s') : Res prog w mg mb hB n sc F env A C0 h0 C s σ .next .next s' :=
  ⟨C, .of_kn (kheap k), .of k, X.keep (kheap k), rfl⟩

theorem xss_nil : XSS prog w mg mb hB n sc [] .nil := by
  intro N F env A C0 h0 C σ s σ' f X h
  simp only [exs, Option.some.injEq, Prod.mk.injEq] at h
  obtain ⟨rfl, rfl⟩ := h
  exact wpAny_execs_nil (.stay X (krefl s))
theorem xss_cons {st : Stmt} {sts : List Stmt} {p : PS} {ps : PSs} (h1 : XS prog w mg mb hB n sc st p) (h2 : XSS prog w mg mb hB n sc sts ps) : XSS prog w mg mb hB n sc (st :: sts) (.cons p ps) := by
  intro N F env A C0 h0 C σ s σ' f X h
  simp only [exs] at h
  refine wpAny_execs_cons ?_
  split at h
  · rename_i σ1 e1
    refine seqE (h1 X e1) fun fl s1 r => ?_
    obtain ⟨C', a, b, c, d⟩ := r
    simp only [FlowOk] at d
    subst d
    exact seqE (h2 c h) fun fl s2 r => r.trans a b
  · rename_i x hx
    refine seqE (h1 X h) fun fl s1 r => ?_
    have hf : f ≠ .next := fun q => by
      subst q
      exact hx σ' (by rw [h])
    obtain ⟨C', a, b, c, d⟩ := r
    cases f with
    | next => exact absurd rfl hf
    | brk => simp only [FlowOk] at d; subst d; exact ⟨C', a, b, c, rfl⟩
    | ret v => obtain ⟨u, rfl, d⟩ := d; exact ⟨C', a, b, c, u, rfl, d⟩

theorem brk_ok {pos : Pos} : XS prog w mg mb hB n sc (.Break pos) .brk := by
  intro N F env A C0 h0 C σ s σ' f X h
  simp only [ex, Option.some.injEq, Prod.mk.injEq] at h
  obtain ⟨rfl, rfl⟩ := h
  exact wpAny_Break ⟨C, .refl _ _, ⟨s.heap, s.toks, s.gens, rfl, id⟩, X, rfl⟩
theorem asrt_ok {e : Expr} {pe : PE} {msg : Option Expr} {pos : Pos} (he : TS prog w mg mb hB n sc e pe) : XS prog w mg mb hB n sc (.Assert e msg pos) (.asrt pe) := by
  intro N F env A C0 h0 C σ s σ' f X h
  simp only [ex] at h
  obtain ⟨t, e1, h⟩ := Option.bind_eq_some_iff.mp h
  split at h
  · rename_i ht
    subst ht
    cases h
    exact wpAny_Assert_holds (seqE (he X.cx e1) fun b s1 ⟨k1, r1⟩ => ⟨r1, .stay X k1⟩)
  · cases h
theorem ite_ok {e : Expr} {pe : PE} {a b : List Stmt} {pa pb : PSs} {pos : Pos} (he : TS prog w mg mb hB n sc e pe) (ha : XSS prog w mg mb hB n sc a pa) (hb : XSS prog w mg mb hB n sc b pb) : XS prog w mg mb hB n sc (.If e a b pos) (.ite pe pa pb) := by
  intro N F env A C0 h0 C σ s σ' f X h
  simp only [ex] at h
  obtain ⟨t, e1, h⟩ := Option.bind_eq_some_iff.mp h
  refine wpAny_If (seqE (he X.cx e1) fun b s1 ⟨k1, r1⟩ => ?_)
  subst r1
  cases b
  · simp only [Bool.false_eq_true, if_false] at h ⊢
    exact seqE (hb (X.keep (kheap k1)) h) fun fl s2 r => r.keep k1
  · simp only [if_true] at h ⊢
    exact seqE (ha (X.keep (kheap k1)) h) fun fl s2 r => r.keep k1

theorem wh_ok {e : Expr} {pe : PE} {a : List Stmt} {pa : PSs} {pos : Pos} (he : TS prog w mg mb hB n sc e pe) (ha : XSS prog w mg mb hB n sc a pa) : XS prog w mg mb hB n sc (.While e a [] pos) (.wh pe pa) := by
  intro N F env A C0 h0 C σ s σ' f X h
  simp only [ex] at h
  refine wpAny_While (codeAny_whileLoop (fun k s1 => ∃ C1 σ1, Big C C1 s.heap s1.heap ∧ Same s s1 ∧ Fra prog w mg mb hB n sc F env A C0 h0 C1 σ1 s1.heap ∧
    whIt (fun σ => pt F σ.O σ.G pe) (fun σ => exs N F pa σ) k σ1 = some (σ', f)) ?_ N ⟨C, σ, .refl _ _, ⟨s.heap, s.toks, s.gens, rfl, id⟩, X, h⟩)
  rintro k s1 ⟨C1, σ1, b1, q1, X1, hw⟩
  cases k with
  | zero => simp [whIt] at hw
  | succ k =>
    simp only [whIt] at hw
    split at hw
    · rename_i ht
      split at hw
      · rename_i σ2 hb
        refine seqE (he X1.cx ht) fun b s2 ⟨k2, r2⟩ => ?_
        subst r2
        simp only [if_true]
        refine seqE (ha (X1.keep (kheap k2)) hb) fun fl s3 r => ?_
        obtain ⟨C3, b3, q3, X3, fk⟩ := r.keep k2
        simp only [FlowOk] at fk; subst fk
        exact ⟨k, Nat.lt_succ_self k, C3, σ2, b1.trans b3, q1.trans q3, X3, hw⟩
      · rename_i σ2 hb
        cases hw
        refine seqE (he X1.cx ht) fun b s2 ⟨k2, r2⟩ => ?_
        subst r2
        simp only [if_true]
        refine seqE (ha (X1.keep (kheap k2)) hb) fun fl s3 r => ?_
        obtain ⟨C3, b3, q3, X3, fk⟩ := r.keep k2
        simp only [FlowOk] at fk; subst fk
        exact ⟨C3, b1.trans b3, q1.trans q3, X3, rfl⟩
      · rename_i σ2 v hb
        cases hw
        refine seqE (he X1.cx ht) fun b s2 ⟨k2, r2⟩ => ?_
        subst r2
        simp only [if_true]
        refine seqE (ha (X1.keep (kheap k2)) hb) fun fl s3 r => ?_
        obtain ⟨C3, b3, q3, X3, u, fk, fk2⟩ := r.keep k2
        subst fk
        exact ⟨C3, b1.trans b3, q1.trans q3, X3, u, rfl, fk2⟩
      · cases hw
    · rename_i ht
      cases hw
      refine seqE (he X1.cx ht) fun b s2 ⟨k2, r2⟩ => ?_
      subst r2
      simp only [Bool.false_eq_true, if_false]
      exact wpAny_execs_nil ⟨C1, b1.trans (.of_kn (kheap k2)), q1.trans (.of k2), X1.keep (kheap k2), rfl⟩
    · cases hw

theorem it_sub {C : RC} {h h' : Heap} {I : Addr} {o : Obj} (hk : ∀ b o, b ≠ I → h.get? b = some o → h'.get? b = some o) (ho : ItObj o) (hg : h.get? I = some o) : Sub C C h h' :=
  ⟨fun _ _ _ _ x => x, rfl, fun _ _ x => x, fun b o' v _ e => hk b o' (fun q => by subst q; rw [hg] at e; cases e; exact ho.noVal v) e⟩
/-- the iterator's own step -/
theorem Fra.next {C : RC} {σ : St} {h h' : Heap} {I : Addr} {o : Obj} (X : Fra prog w mg mb hB n sc F env A C0 h0 C σ h) (hk : ∀ b o, b ≠ I → h.get? b = some o → h'.get? b = some o) (hI : hsz h0 ≤ I) (ho : ItObj o) (hg : h.get? I = some o)
    (hl : ¬ C.X I) : Fra prog w mg mb hB n sc F env A C0 h0 C σ h' := by
  obtain ⟨fs, hf⟩ := ho.1
  have nns : ∀ {a m}, h.Ns a m → a ≠ I := by
    rintro a m ⟨o', es, ep, e, hd, _⟩ rfl
    rw [hg] at e; cases e; rw [hf] at hd; cases hd
  have ncell : ∀ {a v}, h.IsCell a v → a ≠ I := by
    rintro a v ⟨o', e, hd⟩ rfl
    rw [hg] at e; cases e; rw [hf] at hd; cases hd
  have nlist : ∀ {a xs}, h.PlainList a xs → a ≠ I := by
    rintro a xs ⟨m, e⟩ rfl
    rw [hg] at e; cases e; cases hf
  have S : Sub C C h h' := ⟨fun _ _ _ _ x => x, rfl, fun _ _ x => x, fun b o' v _ e => hk b o' (fun q => by subst q; rw [hg] at e; cases e; exact ho.noVal v) e⟩
  refine X.write hk hI (fun q => absurd q hl) ?_ ?_ ?_ ?_ ?_ X.ax X.al
  · obtain ⟨m, hn⟩ := X.ns
    exact ⟨m, hn.at' fun o e => hk _ o (nns hn) e⟩
  · intro x c e
    obtain ⟨_, _, v, hc⟩ := X.cl x c e
    obtain ⟨oc, e1, e2⟩ := id hc
    exact ⟨v, oc, hk _ _ (ncell hc) e1, e2⟩
  · intro j a e
    obtain ⟨_, xs, hp⟩ := X.ad j a e
    exact ⟨xs, hp.at fun o e => hk _ o (nlist hp) e⟩
  · intro x i v e1 e2
    obtain ⟨u, Se, r⟩ := X.cx.I.slots x i v e1 e2
    refine ⟨u, ?_, Rep.mono S _ _ r⟩
    rcases Se with ⟨a, m, b, c⟩ | ⟨a, c, b, d⟩
    · exact .inl ⟨a, m, b.at' fun o e => hk _ o (nns b) e, c⟩
    · obtain ⟨oc, e1, e2⟩ := id d
      exact .inr ⟨a, c, b, oc, hk _ _ (ncell d) e1, e2⟩
  · intro j vs e
    obtain ⟨a, xs, h1, h2, h3⟩ := X.cx.I.W.own j vs e
    exact ⟨a, xs, h1, h2.at fun o e => hk _ o (nlist h2) e, RepL.mono S _ _ h3⟩

theorem fr_ok {x : Str} {i : Nat} {it : Expr} {pit : PIt} {a : List Stmt} {pa : PSs} {px pos : Pos} (hns : noSet it = true) (hi : slotOf sc x = some i) (hit : IS prog w mg mb hB n sc it pit) (ha : XSS prog w mg mb hB n sc a pa) :
    XS prog w mg mb hB n sc (.For (.Name x px) it a [] pos) (.fr i pit pa) := by
  intro N F env A C0 h0 C σ s σ' f X h
  simp only [ex] at h
  obtain ⟨its, e1, h⟩ := Option.bind_eq_some_iff.mp h
  obtain ⟨_, hw⟩ := hit [] X.cx (.inr ⟨rfl, e1⟩)
  refine wpAny_For (seqE hw fun xv s1 ⟨k1, hpi⟩ => seqE (hpi A) fun itv s2 hitp => ?_) (fold_none hns)
  obtain ⟨tk₂, hs₂, o, fp, P, St', rfl, hh₂, hnt, hW, hst, hlive, hfp, hP⟩ := hitp
  have W := hW A X.cx.R.handled
  have X1 := X.keep (kheap k1)
  have k2 : KN s1.heap s2.heap := by rw [hh₂]; exact .push _ _
  have hk2 : Keeps s1 s2 := by rw [hs₂]; exact ⟨_, _, s1.gens, rfl, k2, id⟩
  have hIX : ¬ C.X s1.heap.objs.size := fun q => by
    obtain ⟨o, _, e⟩ := X1.cx.I.W.lt _ q
    exact Nat.lt_irrefl _ (Heap.lt_size e)
  have hI0 : hsz h0 ≤ s1.heap.objs.size := by
    obtain ⟨m, hn⟩ := X1.ns
    exact Nat.le_trans X1.xl.2 (Nat.le_of_lt hn.lt)
  have hpt : ∃ ps, s1.heap.get? PT = some { cls := .none, data := .fields ps } := by
    obtain ⟨ps, e, _⟩ := X1.cx.I.base.pt
    exact KN.tabLive X1.cx.I.top e
  have hfpT : ∀ b ∈ fp, b ≠ PT := fun b hb q => by
    subst q
    obtain ⟨ps, hpt⟩ := hpt
    rcases hfp _ hb with q | ⟨⟨o, nt, e⟩, _⟩
    · have := Heap.lt_size hpt; rw [q] at this; exact Nat.lt_irrefl _ this
    · rw [hpt] at e; cases e; exact nt _ rfl
  -- the loop
  refine codeAny_forLoop (fun k s' => ∃ C1 σ1, ∃ pre rest : List PV, Big C C1 s1.heap s'.heap ∧ Same s1 s' ∧ Fra prog w mg mb hB n sc F env A C0 h0 C1 σ1 s'.heap ∧ St' pre.length s'.heap ∧ ¬ C1.X s1.heap.objs.size ∧ its = pre ++ rest ∧
      frIt i (fun σ => exs N F pa σ) rest σ1 = some (σ', f) ∧ k = rest.length) ?_ its.length
    ⟨C, σ, [], its, .of_kn k2, .of hk2, X1.keep k2, hst, hIX, rfl, h, rfl⟩
  rintro k s' ⟨C1, σ1, pre, rest, b1, q1, Y, hst', hX1, hits, hfr, rfl⟩
  obtain ⟨oI, hoI, egI⟩ := hlive _ _ hst'
  cases rest with
  | nil =>
    simp only [frIt, Option.some.injEq, Prod.mk.injEq] at hfr
    obtain ⟨rfl, rfl⟩ := hfr
    rw [List.append_nil] at hits
    subst hits
    refine W.done _ _ _ hst' fun h₂ tk₂ hk₂ => ?_
    have hk₂' : ∀ b o, b ≠ s1.heap.objs.size → s'.heap.get? b = some o → h₂.get? b = some o := fun b o hb e => hk₂ b o (by simpa using hb) e
    have Y2 := Y.next hk₂' hI0 hoI egI hX1
    refine wpAny_execs_nil ⟨C1, ?_, (Same.of k1).trans (q1.trans .heap), Y2, rfl⟩
    refine (Big.of_kn (kheap k1)).trans ?_
    exact ⟨b1.X, b1.st, b1.ads, fun b o nt hx e => hk₂' b o (Nat.ne_of_lt (Heap.lt_size e)) (b1.keep b o nt hx e)⟩
  | cons v r =>
    have hlt : pre.length < its.length := by rw [hits]; simp
    refine W.item pre.length _ _ _ hlt hst' fun u h₂ tk₂ hPv hst₂ hk₂ => ?_
    have hk₂' : ∀ b o, b ≠ s1.heap.objs.size → s'.heap.get? b = some o → h₂.get? b = some o := fun b o hb e => hk₂ b o (by simpa using hb) e
    have Y2 := Y.next hk₂' hI0 hoI egI hX1
    obtain ⟨pv, e1, rv⟩ := hP pre.length u hPv
    rw [hits] at e1
    simp only [List.getElem?_append_right (Nat.le_refl _), Nat.sub_self, List.getElem?_cons_zero, Option.some.injEq] at e1
    subst e1
    have rv2 : Rep C1 h₂ v u := Rep.mono (it_sub hk₂' hoI egI) _ _ (Rep.mono b1.sub _ _ rv)
    have B2 : Big C C1 s1.heap h₂ := ⟨b1.X, b1.st, b1.ads, fun b o nt hx e => hk₂' b o (Nat.ne_of_lt (Heap.lt_size e)) (b1.keep b o nt hx e)⟩
    refine wpAny_assign_Name (store_ok (s := { s' with heap := h₂, toks := tk₂ }) Y2 hi rv2 fun h₃ tk₃ hk₃ Y3 => ?_)
    have B3 : Big C C1 s1.heap h₃ := B2.trans (.xs hk₃)
    have st3 : St' (pre.length + 1) h₃ := W.frame _ _ _ hst₂ fun b hb o e => by
      rcases hfp b hb with q | ⟨⟨o', nt, e'⟩, hx⟩
      · exact hk₃ b o (by rw [q]; exact hX1) e
      · exact hk₃ b o (b1.X b o' nt e' (hx rfl)) e
    have framed : ∀ {C2 : RC} {g : Heap}, Big C1 C2 h₃ g → St' (pre.length + 1) g := fun {C2 g} B => W.frame _ _ _ st3 fun b hb o e => by
      have nt : NoTab o := by
        rcases hfp b hb with q | ⟨⟨o', nt, e'⟩, hx⟩
        · obtain ⟨o2, ho2, e2⟩ := hlive _ _ st3
          rw [← q, e] at e2; cases e2; exact ho2.noTab
        · have := B3.keep b o' nt (hx rfl) e'
          rw [e] at this; cases this; exact nt
      rcases hfp b hb with q | ⟨⟨o', nt', e'⟩, hx⟩
      · exact B.keep b o nt (by rw [q]; exact hX1) e
      · exact B.keep b o nt (b1.X b o' nt' e' (hx rfl)) e
    have same3 : Same s1 { s' with heap := h₃, toks := tk₃ } := q1.trans .heap
    simp only [frIt] at hfr
    split at hfr
    · rename_i σ2 hb
      refine seqE (ha Y3 hb) fun fl s3 rr => ?_
      obtain ⟨C3, b3, q3, X3, fk⟩ := rr
      simp only [FlowOk] at fk; subst fk
      refine ⟨r.length, by simp, C3, σ2, pre ++ [v], r, B3.trans b3, same3.trans q3, X3, ?_, ?_, by rw [hits]; simp, hfr, rfl⟩
      · rw [List.length_append, List.length_singleton]; exact framed b3
      · obtain ⟨o2, ho2, e2⟩ := hlive _ _ st3
        exact b3.X _ o2 ho2.noTab e2 hX1
    · rename_i σ2 hb
      cases hfr
      refine seqE (ha Y3 hb) fun fl s3 rr => ?_
      obtain ⟨C3, b3, q3, X3, fk⟩ := rr
      simp only [FlowOk] at fk; subst fk
      exact ⟨C3, (Big.of_kn (kheap k1)).trans (B3.trans b3), (Same.of k1).trans (same3.trans q3), X3, rfl⟩
    · rename_i σ2 v hb
      cases hfr
      refine seqE (ha Y3 hb) fun fl s3 rr => ?_
      obtain ⟨C3, b3, q3, X3, u, fk, fk2⟩ := rr
      subst fk
      exact ⟨C3, (Big.of_kn (kheap k1)).trans (B3.trans b3), (Same.of k1).trans (same3.trans q3), X3, u, rfl, fk2⟩
    · cases hfr
end
end Mine

namespace Mine
open StrLaws
section
variable {prog : Program} {w : World} {mg mb : Str → Option Value} {hB : Heap} {n : Nat} {sc : Scope} {F : PF1} {env : Env} {A : Around} {C0 : RC} {h0 : Heap}

/-! return: own lists frozen -/
def RC.ice (C : RC) : RC := { X := fun b => C.X b ∧ ∀ k : Nat, C.ads[k]? ≠ some b, st := C.st, ads := [] }
theorem ice_rep {C : RC} {h : Heap} {v : PV} {u : Value} (hn : noOwn v = true) (r : Rep C h v u) : Rep C.ice h v u := by
  have r1 : Rep { C with X := C.ice.X } h v u := Rep.wide (C := { C with X := C.ice.X }) (C' := C) (fun _ x => x.1) rfl rfl _ _ r
  exact Rep.free (C := { C with X := C.ice.X }) (C' := C.ice) rfl rfl _ _ hn r1
theorem ice_repL {C : RC} {h : Heap} {v : List PV} {u : List Value} (hn : noOwnL v = true) (r : RepL C h v u) : RepL C.ice h v u := by
  have r1 : RepL { C with X := C.ice.X } h v u := RepL.wide (C := { C with X := C.ice.X }) (C' := C) (fun _ x => x.1) rfl rfl _ _ r
  exact RepL.free (C := { C with X := C.ice.X }) (C' := C.ice) rfl rfl _ _ hn r1

theorem Fra.ice {C : RC} {σ : St} {h : Heap} (X : Fra prog w mg mb hB n sc F env A C0 h0 C σ h) : Cx prog w mg mb hB n sc F C.ice (σ.G.map fun v => v.bind (frzN σ.O)) [] env A h := by
  have I := X.cx.I
  refine ⟨X.cx.FS, ⟨I.base, I.kind, I.glb, I.blt, I.cdv, I.top, I.knd, I.cel, fun x i v e1 e2 => ?_, ⟨fun k vs e => by simp at e, fun b hb => I.W.lt b hb.1⟩⟩, X.cx.R⟩
  rw [List.getElem?_map] at e2
  obtain ⟨q, e3, e4⟩ := Option.map_eq_some_iff.mp e2
  obtain ⟨v0, rfl, e5⟩ := Option.bind_eq_some_iff.mp e4
  obtain ⟨u, Se, r⟩ := I.slots x i v0 e1 e3
  refine ⟨u, Se, ?_⟩
  unfold frzN at e5
  split at e5
  · rename_i hn
    cases e5
    cases v0 with
    | own k =>
      simp only [frzV] at hn ⊢
      simp only [Rep] at r
      obtain ⟨a, ha, rfl⟩ := r
      cases ho : σ.O[k]? with
      | none => rw [ho] at hn; simp [noOwn] at hn
      | some q =>
        cases q with
        | none => rw [ho] at hn; simp [noOwn] at hn
        | some vs =>
          rw [ho] at hn
          simp only [noOwn] at hn
          obtain ⟨a', xs, h1, h2, h3⟩ := I.W.own k vs ho
          rw [ha] at h1; cases h1
          exact rep_list (xs := xs.toList) (fun q => q.2 k ha) (by simpa using h2) (ice_repL hn h3)
    | _ => exact ice_rep hn r
  · cases e5

theorem ret_ok {e : Expr} {pe : PE} {pos : Pos} (he : ES prog w mg mb hB n sc e pe) : XS prog w mg mb hB n sc (.Return (some e) pos) (.ret pe) := by
  intro N F env A C0 h0 C σ s σ' f X h
  simp only [ex] at h
  obtain ⟨v, e1, h⟩ := Option.map_eq_some_iff.mp h
  cases h
  refine wpAny_Return_some (seqE (he X.ice e1) fun u s1 ⟨k1, r1⟩ => ?_)
  refine ⟨C, .of_kn (kheap k1), .of k1, X.keep (kheap k1), u, rfl, fun hn => ?_⟩
  have r2 : Rep { C.ice with X := C0.X } s1.heap v u := Rep.wide (C := { C.ice with X := C0.X }) (C' := C.ice) (fun b hb => ⟨X.xw b hb, fun k q => Nat.lt_irrefl _ (Nat.lt_of_lt_of_le (X.x00 b hb) (X.ad k b q).1)⟩) rfl rfl _ _ r1
  exact Rep.free (C := { C.ice with X := C0.X }) (C' := C0) rfl X.st.symm _ _ hn r2

/-! plain assignment -/
theorem swaps_no {e : Expr} {t : Option Expr} {l : Nat} (h : noComp e = true) : swapsWith e t l env = pure false := by
  cases e <;> first | rfl | (simp [noComp] at h; done)

theorem asg_ok {x : Str} {i : Nat} {e : Expr} {pe : PE} {px pos : Pos} (hc : noComp e = true) (hi : slotOf sc x = some i) (he : ES prog w mg mb hB n sc e pe) : XS prog w mg mb hB n sc (.Assign [.Name x px] e pos) (.asg i pe) := by
  intro N F env A C0 h0 C σ s σ' f X h
  simp only [ex] at h
  obtain ⟨v, e1, h⟩ := Option.map_eq_some_iff.mp h
  cases h
  refine wpAny_Assign_Name (seqE (he X.cx e1) fun u s1 ⟨k1, r1⟩ => ?_) (swaps_no hc)
  refine store_ok (X.keep (kheap k1)) hi r1 fun h' tk hk Y => ?_
  exact ⟨C, (Big.of_kn (kheap k1)).trans (.xs hk), (Same.of k1).trans .heap, Y, rfl⟩

theorem Fra.plus {C : RC} {σ : St} {h h' : Heap} {p : Addr → Prop} (X : Fra prog w mg mb hB n sc F env A C0 h0 C σ h) (k : KN h h') (hp : ∀ b, p b → hsz h ≤ b ∧ ∃ o, NoTab o ∧ h'.get? b = some o) :
    Fra prog w mg mb hB n sc F env A C0 h0 (C.plus p) σ h' := by
  have S : Sub C (C.plus p) h h' := .plus k fun b q => (hp b q).1
  have I := X.cx.I
  have X' := X.keep k
  have hszz : hsz h0 ≤ hsz h := by
    obtain ⟨m, hn⟩ := X.ns
    exact Nat.le_trans X.xl.2 (Nat.le_of_lt (ns_hlt hn))
  refine ⟨⟨X.cx.FS, ⟨I.base, I.kind, I.glb, I.blt, I.cdv, I.top.trans k, I.knd, I.cel, fun x i v e1 e2 => ?_, ⟨fun j vs e => ?_, fun b hb => ?_⟩⟩, X.cx.R⟩, X.b0, X.k0.trans k, fun b hb => ?_, fun b hb => .inl (X.xw b hb), X.st, X'.ns, ⟨.inl X.xl.1, X.xl.2⟩, fun x c e => ?_, X.ci, X'.ad, fun j a vs e1 e2 => .inl (X.ax j a vs e1 e2), X.ai, X.al, X.nf, X.x00⟩
  · obtain ⟨u, Se, r⟩ := I.slots x i v e1 e2
    exact ⟨u, Se.keep k, Rep.mono S _ _ r⟩
  · obtain ⟨a, xs, h1, h2, h3⟩ := I.W.own j vs e
    exact ⟨a, xs, h1, k.plain h2, RepL.mono S _ _ h3⟩
  · rcases hb with hb | hb
    · obtain ⟨o, nt, e⟩ := I.W.lt b hb
      exact ⟨o, nt, k.nt _ _ nt e⟩
    · exact (hp b hb).2
  · rcases hb with hb | hb
    · exact X.x0 b hb
    · exact .inr (Nat.le_trans hszz (hp b hb).1)
  · obtain ⟨a, b, c⟩ := X'.cl x c e
    exact ⟨.inl a, b, c⟩

/-- a comprehension's names go -/
theorem Fra.lose {C : RC} {σ : St} {h h' : Heap} {L : Addr} {m : Str → Option Value} (Y : Fra prog w mg mb hB n sc F env A C0 h0 (C.plus (· = L)) σ h) (hk : ∀ b o, b ≠ L → h.get? b = some o → h'.get? b = some o) (hn : h.Ns L m) (hL : env.locals ≠ L) (hL0 : hsz h0 ≤ L)
    (hx : ¬ C.X L) (xw : ∀ b, C0.X b → C.X b) (xl : C.X env.locals) (xc : ∀ x c, env.cells.lookup x = some c → C.X c) (ax : ∀ (k : Nat) a vs, σ.O[k]? = some (some vs) → C.ads[k]? = some a → C.X a) :
    Fra prog w mg mb hB n sc F env A C0 h0 C σ h' := by
  have I := Y.cx.I
  have S : Sub (C.plus (· = L)) (C.plus (· = L)) h h' := .xs fun b o hb e => hk b o (fun q => hb (xplus (p := (· = L)) q)) e
  have k0 : KN h0 h' := Y.k0.above hL0 hk
  have ncell : ∀ {a v}, h.IsCell a v → a ≠ L := fun hc => (ns_ne_cell hn hc).symm
  have nlist : ∀ {a xs}, h.PlainList a xs → a ≠ L := fun hc => (ns_ne_list hn hc).symm
  have cellk : ∀ {a v}, h.IsCell a v → h'.IsCell a v := fun hc => by
    obtain ⟨o, e1, e2⟩ := id hc
    exact ⟨o, hk _ _ (ncell hc) e1, e2⟩
  refine ⟨⟨Y.cx.FS, ⟨I.base, I.kind, I.glb, I.blt, I.cdv, Y.b0.trans k0, I.knd, I.cel, fun x i v e1 e2 => ?_, ⟨fun j vs e => ?_, fun b hb => ?_⟩⟩, Y.cx.R⟩, Y.b0, k0, fun b hb => Y.x0 b (.inl hb), xw, Y.st, ?_, ⟨xl, Y.xl.2⟩, fun x c e => ?_, Y.ci, fun j a e => ?_, ax, Y.ai, Y.al, Y.nf, Y.x00⟩
  · obtain ⟨u, Se, r⟩ := I.slots x i v e1 e2
    refine ⟨u, ?_, RC.plus_wide (p := (· = L)) (Rep.mono S _ _ r)⟩
    rcases Se with ⟨a, m, b, c⟩ | ⟨a, c, b, d⟩
    · exact .inl ⟨a, m, b.at' fun o e => hk _ o hL e, c⟩
    · exact .inr ⟨a, c, b, cellk d⟩
  · obtain ⟨a, xs, h1, h2, h3⟩ := I.W.own j vs e
    exact ⟨a, xs, h1, h2.at fun o e => hk _ o (nlist h2) e, RC.plus_wideL (p := (· = L)) (RepL.mono S _ _ h3)⟩
  · obtain ⟨o, nt, e⟩ := I.W.lt b (.inl hb)
    exact ⟨o, nt, hk b o (fun q => hx (q ▸ hb)) e⟩
  · obtain ⟨m, hn⟩ := Y.ns
    exact ⟨m, hn.at' fun o e => hk _ o hL e⟩
  · obtain ⟨_, b, v, hc⟩ := Y.cl x c e
    exact ⟨xc x c e, b, v, cellk hc⟩
  · obtain ⟨b, xs, hp⟩ := Y.ad j a e
    exact ⟨b, xs, hp.at fun o e => hk _ o (nlist hp) e⟩

theorem asgc_ok {elt iter : Expr} {x y : Str} {px py : Pos} {ifs : List Expr} {sc2 : Scope} {pos spos : Pos} {i j : Nat} {pe : PE} {pit : PIt} {cs : PEs}
    (hok : compOk sc sc2 x = true) (hns : noSet iter = true) (hi : slotOf sc2 x = some i) (hit : IS prog w mg mb hB n sc iter pit) (he : ES prog w mg mb hB n sc2 elt pe) (hc : CS prog w mg mb hB n sc2 ifs cs) (hj : slotOf sc y = some j) :
    XS prog w mg mb hB n sc (.Assign [.Name y py] (.ListComp elt [⟨.Name x px, iter, ifs, 0⟩] sc2 pos) spos) (.asg j (.comp pe i pit cs (sc2.names.map fun p => if p.2 == .free then slotOf sc p.1 else none))) := by
  intro N F env A C0 h0 C σ s σ' f X h
  simp only [ex] at h
  obtain ⟨v, e1, h⟩ := Option.map_eq_some_iff.mp h
  cases h
  have hsw : ∃ b, swapsWith (.ListComp elt [⟨.Name x px, iter, ifs, 0⟩] sc2 pos) (some (.Name y py)) spos.line env = pure b := ⟨_, rfl⟩
  obtain ⟨b, hsw⟩ := hsw
  cases b with
  | false =>
    refine wpAny_Assign_Name (seqE (comp_okE hok hns hi hit he hc X.cx e1) fun u s1 ⟨k1, r1⟩ => ?_) hsw
    refine store_ok (X.keep (kheap k1)) hj r1 fun h' tk hk Y => ?_
    exact ⟨C, (Big.of_kn (kheap k1)).trans (.xs hk), (Same.of k1).trans .heap, Y, rfl⟩
  | true =>
    have ec := e1
    simp only [ev] at ec
    obtain ⟨its, e0, hv⟩ := Option.bind_eq_some_iff.mp ec
    obtain ⟨res, e2, rfl⟩ := Option.map_eq_some_iff.mp hv
    obtain ⟨hlen, hw⟩ := hit σ.O X.cx (.inl ⟨rfl, e0⟩)
    have hn := compOk_names hok
    rw [exec_Assign_Name_used _ _ _ _ hsw]
    refine wpAny_bind (wpAny_standAt (wpAny_bind ?_))
    show wpAny _ A (do let _ ← comprehension (.ListComp elt [⟨.Name x px, iter, ifs, 0⟩] sc2 pos) sc2 env _ (newList []) false (eval iter env) (some (assign (.Name y py) env))) _ _ s
    refine wpAny_bind (seqE (P := fun _ s' => Res prog w mg mb hB n sc F env A C0 h0 C s (σ.put j (.list res)) .next .next s') (wpAny_comprehension_free (use := some (assign (.Name y py) env)) (E := noE) rfl (fold_none hns) (comp_closure X.cx hok) hn.1 (fun p hp => (hn.2.2 p hp).1) ?_) fun _ s' hq => wpAny_pure (wpAny_pure hq))
    refine seqE hw fun xv s₁ ⟨k1, hpi⟩ => seqE (hpi A) fun it s₂ hitp => ?_
    have X1 := X.keep (kheap k1)
    refine comp_block X1.cx hok hi he hc hitp hlen e2 ?_
    intro D L s' m' k2 hL hnL hr
    show wpAny _ A (assign (.Name y py) env (.ref D)) _ _ _
    have Y := X1.plus (p := (· = L)) (kheap k2) (fun b q => by subst q; exact ⟨hL, ns_live hnL⟩)
    refine wpAny_assign_Name (store_ok2 Y hj hr fun h₃ tk₃ hk₃ hk₃' Y3 => ?_)
    have hlt : env.locals < L := by
      obtain ⟨m, hn⟩ := X1.ns
      exact Nat.lt_of_lt_of_le (ns_hlt hn) hL
    have hLX : ¬ C.X L := fun q => by
      obtain ⟨o, _, e⟩ := X1.cx.I.W.lt _ q
      exact Nat.lt_irrefl _ (Nat.lt_of_lt_of_le (hsz_lt e) hL)
    have hL0 : hsz h0 ≤ L := by
      obtain ⟨m, hn⟩ := X1.ns
      exact Nat.le_trans (Nat.le_trans X1.xl.2 (Nat.le_of_lt (ns_hlt hn))) hL
    have hLn : env.locals ≠ L := addr_ne hlt
    have hcl : ∀ x c, env.cells.lookup x = some c → L ≠ c := fun x c e => by
      obtain ⟨_, _, v, hc⟩ := X1.cl x c e
      exact (addr_ne (Nat.lt_of_lt_of_le (cell_hlt hc) hL)).symm
    have hnL3 : h₃.Ns L m' := hnL.at' fun o e => hk₃' L o hLn.symm hcl e
    refine ⟨m', hnL3, fun h' hs' => ?_⟩
    have Z := Y3.lose hs'.extBut hnL3 hLn hL0 hLX X1.xw X1.xl.1 (fun x c e => (X1.cl x c e).1) X1.ax
    refine ⟨C, ?_, (Same.of k1).trans ((Same.of k2).trans .heap), Z, rfl⟩
    refine (Big.of_kn (kheap k1)).trans ⟨fun _ _ _ _ x => x, rfl, fun _ _ x => x, fun b o nt hx e => ?_⟩
    have hbL : b ≠ L := addr_ne (Nat.lt_of_lt_of_le (hsz_lt e) hL)
    refine hs'.extBut b o hbL (hk₃ b o ?_ ((kheap k2).nt b o nt e))
    rintro (q | q)
    · exact hx q
    · exact hbL q
end
end Mine

namespace Mine
open StrLaws

theorem slot_md_get : Slot "method_descriptor" "__get__" "method_descriptor.__get__" :=
  .of (owner := "method_descriptor") (n := "__get__") (by rw [typeLookup_type, builtinLookup_eq_fast]; kernel_rfl) (by decide +kernel) (by decide +kernel) (by decide +kernel)
    (by first | exact .inl (by decide +kernel) | exact .inr (by decide +kernel)) (by rw [isSubtype_type]; kernel_rfl)
theorem entry_md_get : entryFor table "method_descriptor.__get__" = some Builtin.«method_descriptor.__get__» := entryFor_of_tree (by kernel_rfl)
theorem args_md_get (a b c : Value) : argsOk "method_descriptor.__get__" ⟨[a, b, c], []⟩ := by unfold argsOk; kernel_rfl
theorem owner_app : (".".intercalate ("list.append".cutAt '.').dropLast) = "list" := by
  have e0 : "list.append".cutAt '.' = ["list", "append"] := by first | rfl | decide +kernel
  rw [e0]; decide +kernel
theorem sub_app : isSubtype (.type "list") (.type (".".intercalate ("list.append".cutAt '.').dropLast)) = pure true := by
  rw [owner_app, isSubtype_type]; kernel_rfl
theorem told_app : Manifest.toldItsClass.contains "list.append" = false := by decide +kernel
theorem md_no_set : typeLookup (.type "method_descriptor") "__set__" = pure none := by rw [typeLookup_type, builtinLookup_eq_fast]; kernel_rfl

theorem md_no_del : typeLookup (.type "method_descriptor") "__delete__" = pure none := by rw [typeLookup_type, builtinLookup_eq_fast]; kernel_rfl

section
variable {prog : Program} {w : World} {A : Around} {E : Value → Shared → Prop} {h : Heap} {g : Array GenState} {d : Drawn} {t : Nat} {os : OsState} {a : Addr} {o : Obj}

theorem app_get {R : Result → Shared → Prop} (hx : h.get? a = some o) (hc : o.cls = .type "list") (hq : R (.ok (.ret (.ref h.objs.size))) ⟨h.push (appObj a), g, d, t, os⟩) :
    codeAny (model prog w) A (.call (.builtin "method_descriptor.__get__") ⟨[.builtin "list.append", .ref a, .type "list"], []⟩) R ⟨h, g, d, t, os⟩ := by
  have hT : (⟨h, g, d, t, os⟩ : Shared).TypeIs (.ref a) "list" := ⟨_, hx, hc⟩
  have hT5 : (⟨h, g, d, t, os⟩ : Shared).TypeIs (.builtin "list.append") "method_descriptor" := type_list_append
  have f8 := sub_app
  have f9 := told_app
  refine codeAny_call_builtin slot_md_get.plain entry_md_get (slot_md_get.check _ _ _ _ _ _ _ _ hT5 (args_md_get _ _ _) ?_)
  unfold Builtin.«method_descriptor.__get__»
  refine wpAny_bind (wpAny_of_eq (a := (Value.builtin "list.append", some (Value.ref a), some (Value.type "list"))) (by rfl) ?_)
  dsimp only
  rw [f9]
  simp only [Bool.false_eq_true, if_false]
  refine wpAny_bind ?_
  wp_delta
  refine wpAny_bind ?_
  wp_delta
  refine wpAny_pure ?_
  dsimp only
  refine wpAny_bind ?_
  refine wpAny_isInstance hT f8 ?_
  simp only [Bool.not_true, Bool.false_eq_true, if_false]
  refine wpAny_pure ?_
  refine wpAny_bind (wpAny_newObj_type (wpAny_pure hq))

set_option maxHeartbeats 1000000 in
theorem app_entry {tk : Tok} {Q : Fin → Shared → Prop} {xs : Array Value} {m : Nat} (hx : h.get? a = some { cls := .type "list", data := .seq xs m }) (hq : Q (.done (.ret (.ref h.objs.size))) ⟨h.push (appObj a), g, d, t, os⟩) :
    wpAny (model prog w) A (Builtin.«object.__getattribute__» ⟨[.ref a, .str "append" tk], []⟩) Q E ⟨h, g, d, t, os⟩ := by
  have hT : (⟨h, g, d, t, os⟩ : Shared).TypeIs (.ref a) "list" := ⟨_, hx, rfl⟩
  have hT5 : (⟨h, g, d, t, os⟩ : Shared).TypeIs (.builtin "list.append") "method_descriptor" := type_list_append
  have f4 := F.slot_list_append.lookup
  have f5 := type_list_append
  have f6 := slot_md_get.lookup
  have f7 := md_no_set
  have f8 := md_no_del
  repeat (first | assumption | wp_step)
  refine app_get hx rfl ?_
  exact wpAny_pure hq

theorem app_call {tk : Tok} {R : Result → Shared → Prop} {xs : Array Value} {m : Nat} (hx : h.get? a = some { cls := .type "list", data := .seq xs m }) (hq : R (.ok (.ret (.ref h.objs.size))) ⟨h.push (appObj a), g, d, t, os⟩) :
    codeAny (model prog w) A (.call (.builtin "list.__getattribute__") ⟨[.ref a, .str "append" tk], []⟩) R ⟨h, g, d, t, os⟩ :=
  codeAny_call_builtin F.slot_list_getattribute.plain F.entry_list_ga (F.slot_list_getattribute.check _ _ _ _ _ _ _ _ (show (⟨h, g, d, t, os⟩ : Shared).TypeIs (.ref a) "list" from ⟨_, hx, rfl⟩) (F.args_list_getattribute_2 _ _) (app_entry hx hq))

theorem app_attr {Q : Value → Shared → Prop} {xs : Array Value} {m : Nat} (hx : h.get? a = some { cls := .type "list", data := .seq xs m }) (hq : Q (.ref h.objs.size) ⟨h.push (appObj a), g, d, t + 1, os⟩) :
    wpAny (model prog w) A (getAttr (.ref a) "append" true) Q E ⟨h, g, d, t, os⟩ := by
  have hT : (⟨h, g, d, t, os⟩ : Shared).TypeIs (.ref a) "list" := ⟨_, hx, rfl⟩
  have hT' : (⟨h, g, d, t + 1, os⟩ : Shared).TypeIs (.ref a) "list" := ⟨_, hx, rfl⟩
  have f2 := F.slot_list_getattribute.lookup
  have f3 := F.slot_list_getattribute.bind (.ref a)
  unfold getAttr
  iterate 20 (first | assumption | wp_step)
  repeat (first | assumption | wp_step)
  refine app_call hx ?_
  repeat (first | assumption | wp_step)
end

theorem sub_list_module : isSubtype (.type "list") (.type "module") = pure false := by rw [isSubtype_type]; kernel_rfl
theorem kind_app : builtinKind "list.append" = some .method := by decide +kernel
theorem sg_app : Manifest.signature? "list.append" = some ⟨.oneArg, "list.append", "append", .self, [⟨"object", .posOnly, true⟩]⟩ := by
  rw [signature?_of (id := "list.append") (n := ['d', 'n', 'e', 'p', 'p', 'a']) (o := ['t', 's', 'i', 'l']) (by kernel_rfl) F.owner_list]; kernel_rfl
theorem vm_app : Manifest.varargsMethods.contains "list.append" = false := by decide +kernel
theorem ck_app (a b : Value) : Bind.checkArgs "list.append" ⟨.oneArg, toString (Bind.lastOf "list") ++ toString "." ++ toString (Bind.lastOf "list.append"), "append", .self, [⟨"object", .posOnly, true⟩]⟩ ⟨[a, b], []⟩ = pure () := by kernel_rfl
section
variable {prog : Program} {w : World} {A : Around} {E : Value → Shared → Prop} {s : Shared}
theorem app_check {l : Addr} {x : Value} {xs : Array Value} {m : Nat} {Q : Unit → Shared → Prop} (ho : s.heap.get? l = some { cls := .type "list", data := .seq xs m }) (h : Q () s) : wpAny (model prog w) A (checkBoundCall "list.append" ⟨[.ref l, x], []⟩) Q E s := by
  have hT : s.TypeIs (.ref l) "list" := ⟨_, ho, rfl⟩
  have hck := ck_app (.ref l) x
  have h1 := sub_list_module
  unfold checkBoundCall
  rw [sg_app, kind_app]
  dsimp only
  rw [if_neg (by decide)]
  refine wpAny_bind (wpAny_isInstance hT h1 ?_)
  rw [vm_app]
  rw [if_neg (by decide)]
  have hty : isType (.ref l) = isType (.ref l) := rfl
  repeat (first | assumption | wp_step)

theorem app_callv {q l : Addr} {items : Array Value} {x : Value} {Q : Value → Shared → Prop} (hq : s.heap.get? q = some (appObj l)) (hl : s.heap.PlainList l items)
    (hQ : ∀ h', h'.PlainList l (items.push x) → Heap.SameBut l s.heap h' → Q .none { s with heap := h' }) (hsz : items.size ≤ sizeLine := by size_fits) :
    wpAny (model prog w) A (call (.ref q) [x]) Q E s := by
  obtain ⟨n, ho⟩ := hl
  refine wpAny_call (codeAny_of_tree ?_)
  show wpAny _ A.in1 (callAny (.ref q) ⟨[x], []⟩) _ _ s
  simp only [callAny]
  refine wpAny_bind (wpAny_load hq ?_)
  simp only [appObj]
  have hb : (Value.type "builtin_function_or_method" == Value.type "method" || Value.type "builtin_function_or_method" == Value.type "builtin_function_or_method" || Value.type "builtin_function_or_method" == Value.type "method-wrapper") = true := by decide
  have hb2 : (Value.type "builtin_function_or_method" != Value.type "method") = true := by decide
  refine wpAny_ite_true hb ?_
  show wpAny _ A.in1 (if (Value.type "builtin_function_or_method" != Value.type "method") = true then (do checkBoundCall "list.append" ⟨[.ref l, x], []⟩; again (.builtin "list.append" ⟨[.ref l, x], []⟩)) else again (Code.call (.builtin "list.append") ⟨[.ref l, x], []⟩)) _ _ _
  refine wpAny_ite_true hb2 ?_
  refine wpAny_bind (app_check ho (wpAny_pure ?_))
  refine ⟨Code.quiet_builtin _ (by decide +kernel), codeAny_builtin entry_list_append ?_⟩
  show wpAny _ _ (updateSeq l (·.push x) >>= fun _ => ret .none) _ _ s
  refine wpAny_bind ?_
  refine wpAny_updateSeq ho rfl (wpAny_pure ?_)
  refine hQ _ ⟨n + 1, ?_⟩ (Heap.SameBut.update ..)
  rw [Heap.get?_update_self _ ho (by rw [Obj.mapSeq_push_plain]; rfl), Obj.mapSeq_push_plain]
end
end Mine

namespace Mine
open StrLaws
section
variable {prog : Program} {w : World} {mg mb : Str → Option Value} {hB : Heap} {n : Nat} {sc : Scope} {F : PF1} {env : Env} {A : Around} {C0 : RC} {h0 : Heap}

/-! own lists -/
def RC.own (C : RC) (a : Addr) : RC := { X := fun b => C.X b ∨ b = a, st := C.st, ads := C.ads ++ [a] }
theorem own_sub {C : RC} {a : Addr} {h : Heap} : Sub (C.plus (· = a)) (C.own a) h h :=
  ⟨fun _ _ _ _ x => x, rfl, fun k b e => by
    have hl : k < C.ads.length := (List.getElem?_eq_some_iff.mp e).1
    show (C.ads ++ [a])[k]? = some b
    rw [List.getElem?_append_left hl]; exact e, fun _ _ _ _ e => e⟩
theorem own_big {C : RC} {a : Addr} {h h' : Heap} (hk : KN h h') (ha : hsz h ≤ a) : Big C (C.own a) h h' :=
  ⟨fun b o _ e hx q => q.elim hx fun q => Nat.lt_irrefl _ (Nat.lt_of_lt_of_le (q ▸ hsz_lt e) ha), rfl, fun k b e => by
    have hl : k < C.ads.length := (List.getElem?_eq_some_iff.mp e).1
    show (C.ads ++ [a])[k]? = some b
    rw [List.getElem?_append_left hl]; exact e, fun b o nt _ e => hk.nt b o nt e⟩

def RC.add (C : RC) (a : Addr) : RC := { C with ads := C.ads ++ [a] }
theorem add_sub {C : RC} {a : Addr} {h : Heap} : Sub C (C.add a) h h :=
  ⟨fun _ _ _ _ x => x, rfl, fun k b e => by
    have hl : k < C.ads.length := (List.getElem?_eq_some_iff.mp e).1
    show (C.ads ++ [a])[k]? = some b
    rw [List.getElem?_append_left hl]; exact e, fun _ _ _ _ e => e⟩
theorem add_big {C : RC} {a : Addr} {h : Heap} : Big C (C.add a) h h :=
  ⟨fun _ _ _ _ x => x, rfl, fun k b e => by
    have hl : k < C.ads.length := (List.getElem?_eq_some_iff.mp e).1
    show (C.ads ++ [a])[k]? = some b
    rw [List.getElem?_append_left hl]; exact e, fun _ _ _ _ e => e⟩

theorem Fra.adopt {C : RC} {σ : St} {h : Heap} {a : Addr} {xs : Array Value} {vs : List PV} (Y : Fra prog w mg mb hB n sc F env A C0 h0 C σ h) (hax : C.X a) (ha0 : hsz h0 ≤ a) (hp : h.PlainList a xs) (hr : RepL C h vs xs.toList)
    (hna : ∀ k : Nat, C.ads[k]? ≠ some a) : Fra prog w mg mb hB n sc F env A C0 h0 (C.add a) ⟨σ.G, σ.O ++ [some vs]⟩ h := by
  have I := Y.cx.I
  have S : Sub C (C.add a) h h := add_sub
  have al := Y.al
  have get : ∀ {k : Nat} {b : Addr}, (C.add a).ads[k]? = some b → C.ads[k]? = some b ∨ (k = C.ads.length ∧ b = a) := by
    intro k b e
    have e' : (C.ads ++ [a])[k]? = some b := e
    rcases Nat.lt_or_ge k C.ads.length with hl | hl
    · rw [List.getElem?_append_left hl] at e'; exact .inl e'
    · rw [List.getElem?_append_right hl] at e'
      have : k - C.ads.length = 0 := by
        have := (List.getElem?_eq_some_iff.mp e').1
        simp at this; omega
      rw [this] at e'
      simp at e'
      exact .inr ⟨by omega, e'.symm⟩
  refine ⟨⟨Y.cx.FS, ⟨I.base, I.kind, I.glb, I.blt, I.cdv, I.top, I.knd, I.cel, fun x i v e1 e2 => ?_, ⟨fun j vs' e => ?_, I.W.lt⟩⟩, Y.cx.R⟩, Y.b0, Y.k0, Y.x0, Y.xw, Y.st, Y.ns, Y.xl, Y.cl, Y.ci, fun k b e => ?_, fun k b vs' e1 e2 => ?_, fun k j b e1 e2 => ?_, ?_, Y.nf, Y.x00⟩
  · obtain ⟨u, Se, r⟩ := I.slots x i v e1 e2
    exact ⟨u, Se, Rep.mono S _ _ r⟩
  · rcases Nat.lt_or_ge j σ.O.length with hl | hl
    · rw [List.getElem?_append_left hl] at e
      obtain ⟨b, ys, h1, h2, h3⟩ := I.W.own j vs' e
      exact ⟨b, ys, S.ads _ _ h1, h2, RepL.mono S _ _ h3⟩
    · rw [List.getElem?_append_right hl] at e
      have : j - σ.O.length = 0 := by
        have := (List.getElem?_eq_some_iff.mp e).1
        simp at this; omega
      rw [this] at e
      simp at e
      subst e
      refine ⟨a, xs, ?_, hp, RepL.mono S _ _ hr⟩
      show (C.ads ++ [a])[j]? = some a
      have hj : j = C.ads.length := by omega
      rw [hj]; simp
  · rcases get e with q | ⟨_, rfl⟩
    · exact Y.ad k b q
    · exact ⟨ha0, xs, hp⟩
  · rcases get e2 with q | ⟨_, rfl⟩
    · have hl : k < σ.O.length := by
        have := (List.getElem?_eq_some_iff.mp q).1
        omega
      rw [List.getElem?_append_left hl] at e1
      exact Y.ax k b vs' e1 q
    · exact hax
  · rcases get e1 with q | ⟨q, rfl⟩ <;> rcases get e2 with q' | ⟨q', q2⟩
    · exact Y.ai k j b q q'
    · exact absurd (q2 ▸ q) (hna k)
    · exact absurd q' (hna j)
    · rw [q, q']
  · show (C.ads ++ [a]).length = (σ.O ++ [some vs]).length
    simp [al]

theorem Fra.size {C : RC} {σ : St} {h : Heap} (X : Fra prog w mg mb hB n sc F env A C0 h0 C σ h) : hsz h0 ≤ hsz h := by
  obtain ⟨m, hn⟩ := X.ns
  exact Nat.le_trans X.xl.2 (Nat.le_of_lt (ns_hlt hn))
theorem Fra.noad {C : RC} {σ : St} {h : Heap} (X : Fra prog w mg mb hB n sc F env A C0 h0 C σ h) {a : Addr} (ha : hsz h ≤ a) (k : Nat) : C.ads[k]? ≠ some a := fun e => by
  obtain ⟨_, xs, m, e'⟩ := X.ad k a e
  exact Nat.lt_irrefl _ (Nat.lt_of_lt_of_le (hsz_lt e') ha)

/-- a fresh list made own -/
theorem Fra.fresh {C : RC} {σ : St} {h h' : Heap} {a : Addr} {xs : Array Value} {vs : List PV} (X : Fra prog w mg mb hB n sc F env A C0 h0 C σ h) (k : KN h h') (ha : hsz h ≤ a) (hp : h'.PlainList a xs) (hr : RepL (C.plus (· = a)) h' vs xs.toList) :
    Fra prog w mg mb hB n sc F env A C0 h0 (C.own a) ⟨σ.G, σ.O ++ [some vs]⟩ h' :=
  (X.plus (p := (· = a)) k fun b q => by subst q; exact ⟨ha, list_live hp⟩).adopt (.inr rfl) (Nat.le_trans X.size ha) hp hr (X.noad ha)

theorem own_rep {C : RC} {σ : St} {h : Heap} {a : Addr} (X : Fra prog w mg mb hB n sc F env A C0 h0 (C.own a) ⟨σ.G, σ.O ++ [some vs]⟩ h) : Rep (C.own a) h (.own σ.O.length) (.ref a) := by
  simp only [Rep]
  refine ⟨a, ?_, rfl⟩
  have : (C.ads ++ [a]).length = (σ.O ++ [some vs]).length := X.al
  simp at this
  show (C.ads ++ [a])[σ.O.length]? = some a
  rw [← this]; simp

theorem new_ok {C : RC} {σ : St} {s s1 : Shared} {x : Str} {i : Nat} {a : Addr} {xs : Array Value} {vs : List PV} {E : Value → Shared → Prop} (X : Fra prog w mg mb hB n sc F env A C0 h0 C σ s.heap) (k : Keeps s s1) (ha : hsz s.heap ≤ a) (hp : s1.heap.PlainList a xs)
    (hr : RepL (C.plus (· = a)) s1.heap vs xs.toList) (hi : slotOf sc x = some i) :
    wpAny (model prog w) A (storeName env x (.ref a)) (fun _ s' => Res prog w mg mb hB n sc F env A C0 h0 C s (σ.new i vs) .next .next s') E s1 := by
  have Y := X.fresh (kheap k) ha hp hr
  refine store_ok Y hi (own_rep Y) fun h' tk hk Z => ?_
  exact ⟨C.own a, (own_big (kheap k) ha).trans (.xs hk), (Same.of k).trans .heap, Z, rfl⟩

/-- a list display and where it lies -/
theorem list_fresh {es : List Expr} {ps : PEs} {pos : Pos} (hs : SS prog w mg mb hB n sc es ps) (hn : NoStars es = true) (hl : ps.len ≤ 64) {C : RC} {G : Slots} {O : Owns} {s : Shared} {vs : List PV} (K : Cx prog w mg mb hB n sc F C G O env A s.heap) (hv : evs F O G ps = some vs) :
    wpAny (model prog w) A (eval (.List es pos) env) (fun u s' => Keeps s s' ∧ ∃ a xs, u = .ref a ∧ hsz s.heap ≤ a ∧ s'.heap.PlainList a xs ∧ RepL (C.plus (· = a)) s'.heap vs xs.toList) noE s := by
  refine wpAny_List_spliced ?_
  rw [backTo_of hn]
  refine seqE (hs K hv) fun us s1 ⟨k1, r1⟩ => ⟨?_, ktrans k1 kpush, _, us.toArray, rfl, ?_, ⟨_, Heap.get?_push_size _ rfl⟩, ?_⟩
  · rw [r1.length, evs_len hv, sizeLine_eq]; omega
  · exact Nat.le_trans (kheap k1).szle (hsz_size _)
  · have S : Sub C (C.plus (· = s1.heap.objs.size)) s1.heap (s1.heap.push { cls := .type "list", data := .seq us.toArray }) := .plus (.push _ _) fun b q => by subst q; exact hsz_size _
    exact RepL.mono S _ _ (by simpa using r1)
end
end Mine

namespace Mine
open StrLaws
section
variable {prog : Program} {w : World} {mg mb : Str → Option Value} {hB : Heap} {n : Nat} {sc : Scope} {F : PF1} {env : Env} {A : Around} {C0 : RC} {h0 : Heap}

theorem Cx.inter {C : RC} {G : Slots} {O : Owns} {h : Heap} (K : Cx prog w mg mb hB n sc F C G O env A h) : interactive env = false := by
  unfold interactive; rw [K.I.kind]; rfl

theorem asgo_ok {x : Str} {i : Nat} {es : List Expr} {ps : PEs} {px lp pos : Pos} (hi : slotOf sc x = some i) (hs : SS prog w mg mb hB n sc es ps) (hn : NoStars es = true) (hl : ps.len ≤ 64) :
    XS prog w mg mb hB n sc (.Assign [.Name x px] (.List es lp) pos) (.asgo i ps) := by
  intro N F env A C0 h0 C σ s σ' f X h
  simp only [ex] at h
  obtain ⟨vs, e1, h⟩ := Option.map_eq_some_iff.mp h
  cases h
  refine wpAny_Assign_Name (seqE (list_fresh hs hn hl X.cx e1) fun u s1 ⟨k1, a, xs, hu, ha, hp, hr⟩ => ?_)
  subst hu
  exact new_ok X k1 ha hp hr hi

theorem asga_ok {x y : Str} {i j : Nat} {px py ap pos : Pos} (hd : dbg y = false) (hi : slotOf sc x = some i) (hj : slotOf sc y = some j) :
    XS prog w mg mb hB n sc (.Assign [.Name x px] (.Attribute (.Name y py) "append" ap) pos) (.asga i j) := by
  intro N F env A C0 h0 C σ s σ' f X h
  simp only [ex] at h
  obtain ⟨k, e1, h⟩ := Option.map_eq_some_iff.mp h
  cases h
  obtain ⟨kk, vs⟩ := k
  have hown : σ.G[j]? = some (some (.own kk)) ∧ σ.O[kk]? = some (some vs) := by
    unfold St.ownAt at e1
    split at e1
    · split at e1
      · cases e1; exact ⟨by assumption, by assumption⟩
      · cases e1
    · cases e1
  refine wpAny_Assign_Name ?_
  rw [arm_eval_Attribute]
  have eb : attributeBase (.Name y py) "append" env (eval (.Name y py) env) = eval (.Name y py) env := base_plain rfl
  rw [eb]
  refine wpAny_bind (seqE (name_ok hd hj X.cx (pv := .own kk) (by simp [ev, hown.1])) fun u s1 ⟨k1, r1⟩ => ?_)
  simp only [Rep] at r1
  obtain ⟨a, ha, rfl⟩ := r1
  have X1 := X.keep (kheap k1)
  obtain ⟨a', xs, h1, ⟨m, hp⟩, h3⟩ := X1.cx.I.W.own kk vs hown.2
  rw [ha] at h1; cases h1
  obtain ⟨hh, g, d, t, os⟩ := s1
  refine wpAny_bind (wpAny_standAt (wpAny_bind (wpAny_holding (app_attr hp ?_))))
  refine wpAny_bind (wpAny_letGoP (wpAny_pure ?_))
  have k2 : Keeps (⟨hh, g, d, t, os⟩ : Shared) ⟨hh.push (appObj a), g, d, t + 1, os⟩ := kpush
  have X2 := X1.keep (kheap k2)
  refine store_ok X2 hi (v := .app kk) ?_ fun h' tk hk Y => ?_
  · simp only [Rep]
    exact ⟨a, hh.objs.size, ha, rfl, X1.cx.I.W.fresh, Heap.get?_push_size _ rfl⟩
  · exact ⟨C, (Big.of_kn (kheap (ktrans k1 k2))).trans (.xs hk), (Same.of (ktrans k1 k2)).trans .heap, Y, rfl⟩

theorem own_at {σ : St} {i : Nat} {k : Nat × List PV} (e : σ.ownAt i = some k) : σ.G[i]? = some (some (.own k.1)) ∧ σ.O[k.1]? = some (some k.2) := by
  unfold St.ownAt at e
  split at e
  · split at e
    · cases e; exact ⟨by assumption, by assumption⟩
    · cases e
  · cases e
theorem app_at {σ : St} {i : Nat} {k : Nat × List PV} (e : σ.appAt i = some k) : σ.G[i]? = some (some (.app k.1)) ∧ σ.O[k.1]? = some (some k.2) := by
  unfold St.appAt at e
  split at e
  · split at e
    · cases e; exact ⟨by assumption, by assumption⟩
    · cases e
  · cases e

/-- the append itself -/
theorem push_res {C : RC} {σ : St} {s s2 : Shared} {k : Nat} {vs : List PV} {v : PV} {u : Value} {a : Addr} {xs : Array Value} {h' : Heap} (X2 : Fra prog w mg mb hB n sc F env A C0 h0 C σ s2.heap) (k12 : Keeps s s2) (ho : σ.O[k]? = some (some vs)) (ha : C.ads[k]? = some a)
    (hp : s2.heap.PlainList a xs) (hr : RepL C s2.heap vs xs.toList) (rv : Rep C s2.heap v u) (hp' : h'.PlainList a (xs.push u)) (hs : Heap.SameBut a s2.heap h') :
    Res prog w mg mb hB n sc F env A C0 h0 C s (σ.putO k (vs ++ [v])) .next .next { s2 with heap := h' } := by
  have Y := X2.putO (vs' := vs ++ [v]) ho ha hs hp' (by rw [Array.toList_push]; exact hr.append (RepL.one rv))
  exact ⟨C, (Big.of_kn (kheap k12)).trans (.xs (keepsX_of (X2.ax k a vs ho ha) hs)), (Same.of k12).trans .heap, Y, rfl⟩

theorem app_ok {x : Str} {i : Nat} {e : Expr} {pe : PE} {px ap p pos : Pos} (hd : dbg x = false) (hl : (ap.endLine == p.line) = true) (hn : NoStars [e] = true) (hi : slotOf sc x = some i) (he : ES prog w mg mb hB n sc e pe) :
    XS prog w mg mb hB n sc (.Expr (.Call (.Attribute (.Name x px) "append" ap) [e] [] p) pos) (.app i pe) := by
  intro N F env A C0 h0 C σ s σ' f X h
  simp only [ex] at h
  obtain ⟨k, e1, h⟩ := Option.bind_eq_some_iff.mp h
  obtain ⟨v, e2, h⟩ := Option.bind_eq_some_iff.mp h
  split at h
  · rename_i hlen
    cases h
    obtain ⟨hG, hO⟩ := own_at e1
    refine wpAny_Expr ?_ X.cx.inter
    refine wpAny_Call_method_lateS (base_plain rfl) (by rw [backTo_of hn]; rfl) hl (seqE (name_ok hd hi X.cx (pv := .own k.1) (by simp [ev, hG])) fun u s1 ⟨k1, r1⟩ => ?_)
    simp only [Rep] at r1
    obtain ⟨a, ha, rfl⟩ := r1
    have X1 := X.keep (kheap k1)
    obtain ⟨a', xs, h1, ⟨m, hp⟩, h3⟩ := X1.cx.I.W.own k.1 k.2 hO
    rw [ha] at h1; cases h1
    refine ⟨"list", _, PySem.F.plainAttrs_list, PySem.F.slot_list_append, type_list_append, ⟨_, hp, rfl⟩, fun b e => by cases e; exact ⟨_, hp, rfl⟩, ?_⟩
    rw [backTo_of hn]
    refine Calls.callWith_builtin any_of (evalArgs_of (seqE (ss_cons he ss_nil X1.cx (vs := [v]) (by simp [evs, e2])) fun us s2 ⟨k2, r2⟩ => ?_))
    simp only [RepL] at r2
    obtain ⟨u, _, rfl, rv, rfl⟩ := r2
    have X2 := X1.keep (kheap k2)
    have hp2 : s2.heap.PlainList a xs := (kheap k2).plain ⟨m, hp⟩
    have hsz : xs.size ≤ sizeLine := by
      have e1 := h3.length
      simp only [Array.length_toList] at e1
      rw [e1]; exact Nat.le_trans hlen lim_size
    refine wpAny_list_append_plain (hsz := hsz) hp2 fun h' hp' hs => ?_
    exact push_res X2 (ktrans k1 k2) hO ha hp2 (h3.keep (kheap k2)) rv hp' hs
  · cases h

theorem callWith_app {A : Around} {E : Value → Shared → Prop} {s : Shared} {pos : Pos} {q l : Addr} {args : List (Bool × Sem Value)} {Q : Value → Shared → Prop} (hp : args.any (·.1) = false)
    (h : wpAny (model prog w) A (evalArgs (.ref q) true args []) (fun x s₁ => s₁.heap.get? q = some (appObj l) ∧ wpAny (model prog w) A (call (.ref q) ([] ++ x.pos) x.kw) Q E s₁) E s) :
    wpAny (model prog w) A (callWith pos (.ref q) [] args []) Q E s := by
  unfold callWith
  refine wpAny_bind (wpAny_holding (wpAny_mono h (fun a s₁ h₁ => wpAny_bind (wpAny_standAt ?_)) fun _ _ x => x))
  simp only [hp, List.any_nil, Bool.or_false]
  refine wpAny_bind (m := keeperOf (.ref q)) ?_
  unfold keeperOf
  refine wpAny_bind (wpAny_load h₁.1 ?_)
  have hb1 : (Value.type "builtin_function_or_method" != Value.type "method") = true := by decide
  have hb2 : (Value.type "builtin_function_or_method" == Value.type "builtin_function_or_method" || Value.type "builtin_function_or_method" == Value.type "method-wrapper") = true := by decide
  have hb1' : ((appObj l).cls != Value.type "method") = true := hb1
  have hb2' : ((appObj l).cls == Value.type "builtin_function_or_method" || (appObj l).cls == Value.type "method-wrapper") = true := hb2
  refine wpAny_ite_true hb1' ?_
  refine wpAny_pure ?_
  simp only [hb2', if_true]
  exact wpAny_bind (wpAny_mono h₁.2 (fun r s₂ hr => wpAny_bind (wpAny_holding (wpAny_point (wpAny_pure hr)))) fun _ _ x => x)

theorem appf_ok {x : Str} {i : Nat} {e : Expr} {pe : PE} {px p pos : Pos} (hd : dbg x = false) (hn : NoStars [e] = true) (hi : slotOf sc x = some i) (he : ES prog w mg mb hB n sc e pe) :
    XS prog w mg mb hB n sc (.Expr (.Call (.Name x px) [e] [] p) pos) (.appf i pe) := by
  intro N F env A C0 h0 C σ s σ' f X h
  simp only [ex] at h
  obtain ⟨k, e1, h⟩ := Option.bind_eq_some_iff.mp h
  obtain ⟨v, e2, h⟩ := Option.bind_eq_some_iff.mp h
  split at h
  · rename_i hlen
    cases h
    obtain ⟨hG, hO⟩ := app_at e1
    refine wpAny_Expr ?_ X.cx.inter
    refine Call_Name (backTo_of hn) (seqE (name_ok hd hi X.cx (pv := .app k.1) (by simp [ev, hG])) fun u s1 ⟨k1, r1⟩ => ?_)
    simp only [Rep] at r1
    obtain ⟨a, q, ha, rfl, hqx, hq⟩ := r1
    have X1 := X.keep (kheap k1)
    obtain ⟨a', xs, h1, ⟨m, hp⟩, h3⟩ := X1.cx.I.W.own k.1 k.2 hO
    rw [ha] at h1; cases h1
    refine callWith_app (l := a) any_of (evalArgs_of (seqE (ss_cons he ss_nil X1.cx (vs := [v]) (by simp [evs, e2])) fun us s2 ⟨k2, r2⟩ => ?_))
    simp only [RepL] at r2
    obtain ⟨u, _, rfl, rv, rfl⟩ := r2
    have X2 := X1.keep (kheap k2)
    have hq2 := (kheap k2).nt _ _ (IsVal.noTab (.inr ⟨_, rfl⟩)) hq
    have hp2 : s2.heap.PlainList a xs := (kheap k2).plain ⟨m, hp⟩
    have hsz : xs.size ≤ sizeLine := by
      have e1 := h3.length
      simp only [Array.length_toList] at e1
      rw [e1]; exact Nat.le_trans hlen lim_size
    refine ⟨hq2, app_callv hq2 hp2 (fun h' hp' hs => ?_) hsz⟩
    exact push_res X2 (ktrans k1 k2) hO ha hp2 (h3.keep (kheap k2)) rv hp' hs
  · cases h

theorem load_ok {C : RC} {G : Slots} {O : Owns} {s : Shared} {x : Str} {i : Nat} {v : PV} {Q : Value → Shared → Prop} {E : Value → Shared → Prop} (K : Cx prog w mg mb hB n sc F C G O env A s.heap) (hi : slotOf sc x = some i) (hd : dbg x = false) (hg : G[i]? = some (some v))
    (h : ∀ u, Rep C s.heap v u → Q u s) : wpAny (model prog w) A (loadName env x) Q E s := by
  have hd2 : (x == ("__classdict__" : Str)) = false := by unfold dbg at hd; simp only [Bool.or_eq_false_iff] at hd; exact hd.2
  obtain ⟨u, S, r⟩ := K.I.slots x i v hi hg
  rcases S with ⟨hk, m, hn, hm⟩ | ⟨hk, c, hc, hcell⟩
  · exact wpAny_loadName_local K.I.kind hk hn hm (h u r)
  · rcases hk with hk | hk
    · exact wpAny_loadName_cell K.I.kind hk hc hcell (h u r)
    · exact wpAny_loadName_free K.I.kind hk hc hcell (h u r) hd2

theorem aug_ok {x : Str} {i : Nat} {e : Expr} {pe : PE} {px pos : Pos} (hd : dbg x = false) (hi : slotOf sc x = some i) (he : ES prog w mg mb hB n sc e pe) :
    XS prog w mg mb hB n sc (.AugAssign (.Name x px) .Add e pos) (.aug i .add pe) := by
  intro N F env A C0 h0 C σ s σ' f X h
  simp only [ex] at h
  obtain ⟨xv, e1, h⟩ := Option.bind_eq_some_iff.mp h
  obtain ⟨yv, e2, h⟩ := Option.bind_eq_some_iff.mp h
  have hg : σ.G[i]? = some (some xv) := by
    simp only [ev] at e1
    split at e1
    · cases e1; assumption
    · cases e1
  refine wpAny_AugAssign_Name (load_ok X.cx hi hd hg fun u ru => seqE (he X.cx e2) fun uy s1 ⟨k1, r1⟩ => ?_)
  have ru1 := ru.keep (kheap k1)
  split at h
  · simp only [pbin, Option.map_some, Option.some.injEq, Prod.mk.injEq] at h
    obtain ⟨rfl, rfl⟩ := h
    simp only [Rep] at ru1 r1
    obtain ⟨t, rfl⟩ := ru1
    obtain ⟨t', rfl⟩ := r1
    refine PyProof.Rows.iadd_int ?_
    have k2 : Keeps s1 { s1 with toks := s1.toks + 1 } := kp
    refine store_ok (s := { s1 with toks := s1.toks + 1 }) (X.keep (kheap (ktrans k1 k2))) hi rep_int fun h' tk hk Y => ?_
    exact ⟨C, (Big.of_kn (kheap (ktrans k1 k2))).trans (.xs hk), (Same.of (ktrans k1 k2)).trans .heap, Y, rfl⟩
  · simp only [pbin] at h
    obtain ⟨r, hr, h⟩ := Option.map_eq_some_iff.mp h
    split at hr
    · rename_i hsz
      cases hr
      cases h
      simp only [Rep] at ru1 r1
      obtain ⟨x1, t, rfl, rfl⟩ := ru1
      obtain ⟨y1, t', rfl, rfl⟩ := r1
      refine PyProof.Rows.iadd_str (fun t2 tk2 => ?_) (by rw [str_len, str_len]; exact Nat.le_trans hsz lim_size)
      have k2 : Keeps s1 { s1 with toks := tk2 } := kp
      refine store_ok (s := { s1 with toks := tk2 }) (X.keep (kheap (ktrans k1 k2))) hi (v := .str (x1.cps.toList ++ y1.cps.toList)) (rep_str' ?_) fun h' tk hk Y => ?_
      · show (Str.append x1 y1).cps.toList = _
        simp [Str.append]
      · exact ⟨C, (Big.of_kn (kheap (ktrans k1 k2))).trans (.xs hk), (Same.of (ktrans k1 k2)).trans .heap, Y, rfl⟩
    · cases hr
  · cases h
end
end Mine

namespace Mine
open StrLaws
section
variable {prog : Program} {w : World} {mg mb : Str → Option Value} {hB : Heap} {n : Nat} {sc : Scope} {F : PF1} {env : Env} {A : Around} {C0 : RC} {h0 : Heap}

theorem RepL.erase {C : RC} {h : Heap} : ∀ {p : List PV} {v : List Value} (k : Nat), RepL C h p v → RepL C h (p.eraseIdx k) (v.eraseIdx k)
  | [], v, k, r => by simp only [RepL] at r; subst r; simp [RepL]
  | p :: ps, v, k, r => by
    simp only [RepL] at r
    obtain ⟨w, r', rfl, h1, h2⟩ := r
    cases k with
    | zero => simpa using h2
    | succ k => simp only [List.eraseIdx_cons_succ, RepL]; exact ⟨w, _, rfl, h1, RepL.erase k h2⟩

theorem pop_ok {x y : Str} {i j : Nat} {e : Expr} {pe : PE} {px py ap p pos : Pos} (hd : dbg y = false) (hl : (ap.endLine == p.line) = true) (hn : NoStars [e] = true) (hi : slotOf sc x = some i) (hj : slotOf sc y = some j) (he : ES prog w mg mb hB n sc e pe) :
    XS prog w mg mb hB n sc (.Assign [.Name x px] (.Call (.Attribute (.Name y py) "pop" ap) [e] [] p) pos) (.pop i j pe) := by
  intro N F env A C0 h0 C σ s σ' f X h
  simp only [ex] at h
  obtain ⟨k, e1, h⟩ := Option.bind_eq_some_iff.mp h
  obtain ⟨xv, e2, h⟩ := Option.bind_eq_some_iff.mp h
  obtain ⟨hG, hO⟩ := own_at e1
  split at h
  · rename_i z
    split at h
    · rename_i hz
      obtain ⟨v, e3, h⟩ := Option.map_eq_some_iff.mp h
      cases h
      refine wpAny_Assign_Name ?_
      refine wpAny_Call_method_lateS (base_plain rfl) (by rw [backTo_of hn]; rfl) hl (seqE (name_ok hd hj X.cx (pv := .own k.1) (by simp [ev, hG])) fun u s1 ⟨k1, r1⟩ => ?_)
      simp only [Rep] at r1
      obtain ⟨a, ha, rfl⟩ := r1
      have X1 := X.keep (kheap k1)
      obtain ⟨a', xs, h1, ⟨m, hp⟩, h3⟩ := X1.cx.I.W.own k.1 k.2 hO
      rw [ha] at h1; cases h1
      refine ⟨"list", _, PySem.F.plainAttrs_list, PySem.F.slot_list_pop, PySem.F.type_list_pop, ⟨_, hp, rfl⟩, fun b e => by cases e; exact ⟨_, hp, rfl⟩, ?_⟩
      rw [backTo_of hn]
      refine P.pop_at_list (seqE (he X1.cx e2) fun u s2 ⟨k2, r2⟩ => ?_)
      simp only [Rep] at r2
      obtain ⟨t, rfl⟩ := r2
      have X2 := X1.keep (kheap k2)
      obtain ⟨m2, hp2⟩ : s2.heap.PlainList a xs := (kheap k2).plain ⟨m, hp⟩
      have hr2 := h3.keep (kheap k2)
      obtain ⟨yv, ey, ry⟩ := hr2.at _ _ e3
      have hlen := hr2.length
      simp only [Array.length_toList] at hlen
      have hk : z.toNat < k.2.length := (List.getElem?_eq_some_iff.mp e3).1
      have hsz : xs.size ≤ sizeLine := by rw [hlen]; exact Nat.le_trans hz.2 lim_size
      refine ⟨xs, m2, z, t, z.toNat, yv, hsz, rfl, hp2, ?_, ?_, by simpa using ey, ?_⟩
      · have h63 : (sizeLine : Int) < 2 ^ 63 := by rw [sizeLine_eq]; decide
        simp only [Builtin.List.listFitsIndex, Bool.and_eq_true, decide_eq_true_eq]
        omega
      · unfold seqIndex?
        simp only [show ¬ z < 0 by omega, if_false]
        rw [if_pos (by simp only [Bool.and_eq_true, decide_eq_true_eq]; omega)]
      · have hs : Heap.SameBut a s2.heap (s2.heap.update a (Obj.mapSeq fun xs => xs.eraseIdxIfInBounds z.toNat)) := Heap.SameBut.update ..
        have hp' : (s2.heap.update a (Obj.mapSeq fun xs => xs.eraseIdxIfInBounds z.toNat)).PlainList a (xs.eraseIdxIfInBounds z.toNat) := ⟨_, IsL.update hp2 _⟩
        have Y := X2.putO (vs' := k.2.eraseIdx z.toNat) hO ha hs hp' (by simpa using hr2.erase z.toNat)
        have kx := keepsX_of (X2.ax k.1 a k.2 hO ha) hs
        refine store_ok (s := { s2 with heap := s2.heap.update a (Obj.mapSeq fun xs => xs.eraseIdxIfInBounds z.toNat) }) Y hi (Rep.mono (Sub.xs kx) _ _ ry) fun h' tk hk Z => ?_
        exact ⟨C, (Big.of_kn (kheap (ktrans k1 k2))).trans ((Big.xs kx).trans (.xs hk)), (Same.of (ktrans k1 k2)).trans .heap, Z, rfl⟩
    · cases h
  · cases h

theorem asgl_ok {x : Str} {i : Nat} {e : Expr} {pe : PE} {px fp p pos : Pos} (hg : isGl sc "list" = true) (hn : NoStars [e] = true) (hi : slotOf sc x = some i) (he : ES prog w mg mb hB n sc e pe) :
    XS prog w mg mb hB n sc (.Assign [.Name x px] (.Call (.Name "list" fp) [e] [] p) pos) (.asgl i pe) := by
  intro N F env A C0 h0 C σ s σ' f X h
  simp only [ex] at h
  obtain ⟨xv, e1, h⟩ := Option.bind_eq_some_iff.mp h
  obtain ⟨r, e2, h⟩ := Option.bind_eq_some_iff.mp h
  have hx : ∃ l, xv = .str l ∧ l.length ≤ LIM ∧ r = .list (l.map fun c => .str [c]) := by
    cases xv <;> simp only [pbi, reduceCtorEq] at e2
    split at e2
    · cases e2; exact ⟨_, rfl, by assumption, rfl⟩
    · cases e2
  obtain ⟨l, rfl, hlen, rfl⟩ := hx
  simp only at h
  cases h
  have hbi := X.cx.I.base.bis ("list", .type "list") (by decide)
  refine wpAny_Assign_Name (Call_Name (backTo_of hn) (glob_load (v := .type "list") X.cx hg (by decide) (.inr hbi) ?_))
  refine PyProof.Rows.callWith_type (T := "list") any_of (evalArgs_of (seqE (ss_cons he ss_nil X.cx (vs := [.str l]) (by simp [evs, e1])) fun us s1 ⟨k1, r1⟩ => ?_))
  simp only [RepL, Rep] at r1
  obtain ⟨_, _, rfl, ⟨y, t, rfl, rfl⟩, rfl⟩ := r1
  have hsz : y.cps.size ≤ sizeLine := by
    have e3 : y.cps.size = y.cps.toList.length := by simp
    rw [e3]; exact Nat.le_trans hlen lim_size
  refine call_list_str X.cx.R.handled y t (hn := hsz) fun h' tk acc c hk hgt hacc => ?_
  have k2 : Keeps s1 { s1 with heap := h', toks := tk } := keepsOf hk
  refine new_ok X (ktrans k1 k2) (Nat.le_trans (kheap k1).szle (hsz_size _)) ⟨c, hgt⟩ (RepL.of_at ?_ ?_) hi
  · simp [hacc.1]
  · intro i p v h1 h2
    obtain ⟨c', u', e1, rfl⟩ := hacc.2 i v (by simpa using h2)
    simp only [List.getElem?_map, Array.getElem?_toList, e1, Option.map_some, Option.some.injEq] at h1
    subst h1
    exact rep_str' rfl
end
end Mine

namespace Mine
open StrLaws

/-- values of a display, some of them fresh lists -/
def FL (C : RC) (h : Heap) : List Bool → List PV → List Value → List Addr → Prop
  | [], vs, us, as => vs = [] ∧ us = [] ∧ as = []
  | false :: fs, vs, us, as => ∃ v r u t, vs = v :: r ∧ us = u :: t ∧ Rep C h v u ∧ FL C h fs r t as
  | true :: fs, vs, us, as => ∃ l r a t xs q, vs = .list l :: r ∧ us = .ref a :: t ∧ as = a :: q ∧ h.PlainList a xs ∧ RepL C h l xs.toList ∧ FL C h fs r t q

theorem FL.mono {C C' : RC} {h h' : Heap} (f : ∀ v u, Rep C h v u → Rep C' h' v u) (g : ∀ v u, RepL C h v u → RepL C' h' v u) (hp : ∀ a xs, h.PlainList a xs → h'.PlainList a xs) : ∀ {fs : List Bool} {vs : List PV} {us : List Value} {as : List Addr}, FL C h fs vs us as → FL C' h' fs vs us as
  | [], _, _, _, x => x
  | false :: fs, _, _, _, x => let ⟨v, r, u, t, e1, e2, e3, e4⟩ := x; ⟨v, r, u, t, e1, e2, f _ _ e3, FL.mono f g hp e4⟩
  | true :: fs, _, _, _, x => let ⟨l, r, a, t, xs, q, e1, e2, e3, e4, e5, e6⟩ := x; ⟨l, r, a, t, xs, q, e1, e2, e3, hp _ _ e4, g _ _ e5, FL.mono f g hp e6⟩

section
variable (prog : Program) (w : World) (mg mb : Str → Option Value) (hB : Heap) (n : Nat) (sc : Scope)
/-- the items of such a display -/
def TF : List Bool → List Expr → PEs → Prop
  | [], es, ps => es = [] ∧ ps = .nil
  | false :: fs, es, ps => ∃ e r p q, es = e :: r ∧ ps = .cons p q ∧ ES prog w mg mb hB n sc e p ∧ TF fs r q
  | true :: fs, es, ps => ∃ l pos r p q, es = .List l pos :: r ∧ ps = .cons (.lst p) q ∧ SS prog w mg mb hB n sc l p ∧ NoStars l = true ∧ p.len ≤ 64 ∧ TF fs r q
end
section
variable {prog : Program} {w : World} {mg mb : Str → Option Value} {hB : Heap} {n : Nat} {sc : Scope} {F : PF1} {env : Env} {A : Around} {C0 : RC} {h0 : Heap}

theorem Cx.plus {C : RC} {G : Slots} {O : Owns} {h h' : Heap} {p : Addr → Prop} (K : Cx prog w mg mb hB n sc F C G O env A h) (k : KN h h') (hp : ∀ b, p b → hsz h ≤ b ∧ ∃ o, NoTab o ∧ h'.get? b = some o) :
    Cx prog w mg mb hB n sc F (C.plus p) G O env A h' := by
  have S : Sub C (C.plus p) h h' := .plus k fun b q => (hp b q).1
  have I := K.I
  refine ⟨K.FS, ⟨I.base, I.kind, I.glb, I.blt, I.cdv, I.top.trans k, I.knd, I.cel, fun x i v e1 e2 => ?_, ⟨fun j vs e => ?_, fun b hb => ?_⟩⟩, K.R⟩
  · obtain ⟨u, Se, r⟩ := I.slots x i v e1 e2
    exact ⟨u, Se.keep k, Rep.mono S _ _ r⟩
  · obtain ⟨a, xs, h1, h2, h3⟩ := I.W.own j vs e
    exact ⟨a, xs, h1, k.plain h2, RepL.mono S _ _ h3⟩
  · rcases hb with hb | hb
    · obtain ⟨o, nt, e⟩ := I.W.lt b hb
      exact ⟨o, nt, k.nt _ _ nt e⟩
    · exact (hp b hb).2

theorem fl_ok : ∀ {fs : List Bool} {es : List Expr} {ps : PEs}, TF prog w mg mb hB n sc fs es ps → ∀ {C : RC} {G : Slots} {O : Owns} {s : Shared} {vs : List PV}, Cx prog w mg mb hB n sc F C G O env A s.heap → evs F O G ps = some vs →
    wpAny (model prog w) A (spliced (es.map fun e => (false, eval e env))) (fun us s' => Keeps s s' ∧ ∃ as : List Addr, (∀ a ∈ as, hsz s.heap ≤ a ∧ ∃ o, NoTab o ∧ s'.heap.get? a = some o) ∧ as.Nodup ∧ FL (C.plus (· ∈ as)) s'.heap fs vs us as) noE s
  | [], es, ps, T, C, G, O, s, vs, K, hv => by
    obtain ⟨rfl, rfl⟩ := T
    simp only [evs, Option.some.injEq] at hv; subst hv
    exact Calls.spliced_nil ⟨krefl s, [], by simp, by simp, rfl, rfl, rfl⟩
  | false :: fs, es, ps, T, C, G, O, s, vs, K, hv => by
    obtain ⟨e, r, p, q, rfl, rfl, he, T'⟩ := T
    simp only [evs] at hv
    obtain ⟨x, e1, hv⟩ := Option.bind_eq_some_iff.mp hv
    obtain ⟨xs, e2, rfl⟩ := Option.map_eq_some_iff.mp hv
    refine Calls.spliced_cons (seqE (he K e1) fun u s1 ⟨k1, r1⟩ => ?_)
    refine seqE (fl_ok T' (K.keep k1) e2) fun us s2 ⟨k2, as, ha, hnd, fl⟩ => ⟨ktrans k1 k2, as, fun a h => ⟨Nat.le_trans (kheap k1).szle (ha a h).1, (ha a h).2⟩, hnd, ?_⟩
    exact ⟨x, xs, u, us, rfl, rfl, Rep.mono (Sub.plus (kheap k2) fun b h => (ha b h).1) _ _ r1, fl⟩
  | true :: fs, es, ps, T, C, G, O, s, vs, K, hv => by
    obtain ⟨l, pos, r, p, q, rfl, rfl, hs, hn, hl, T'⟩ := T
    simp only [evs, ev] at hv
    obtain ⟨x, e1, hv⟩ := Option.bind_eq_some_iff.mp hv
    obtain ⟨ls, e0, rfl⟩ := Option.map_eq_some_iff.mp e1
    obtain ⟨xs, e2, rfl⟩ := Option.map_eq_some_iff.mp hv
    refine Calls.spliced_cons (seqE (list_fresh hs hn hl K e0) fun u s1 ⟨k1, a, ys, hu, ha, hp, hr⟩ => ?_)
    subst hu
    have K1 := K.plus (p := (· = a)) (kheap k1) (fun b h => by subst h; exact ⟨ha, list_live hp⟩)
    refine seqE (fl_ok T' K1 e2) fun us s2 ⟨k2, as, has, hnd, fl⟩ => ⟨ktrans k1 k2, a :: as, fun b h => ?_, ?_, ?_⟩
    · rcases List.mem_cons.mp h with rfl | h
      · exact ⟨ha, list_live ((kheap k2).plain hp)⟩
      · exact ⟨Nat.le_trans (kheap k1).szle (has b h).1, (has b h).2⟩
    · refine List.nodup_cons.mpr ⟨fun h => ?_, hnd⟩
      obtain ⟨_, _, e⟩ := list_live hp
      exact Nat.lt_irrefl _ (Nat.lt_of_lt_of_le (hsz_lt e) (has a h).1)
    · have hX : ∀ b, (C.plus (· ∈ a :: as)).X b → ((C.plus (· = a)).plus (· ∈ as)).X b := fun b h => by
        rcases h with h | h
        · exact .inl (.inl h)
        · rcases List.mem_cons.mp h with h | h
          · exact .inl (.inr h)
          · exact .inr h
      refine ⟨ls, xs, a, us, ys, as, rfl, rfl, rfl, (kheap k2).plain hp, ?_, ?_⟩
      · exact RepL.wide (C := C.plus (· ∈ a :: as)) (C' := (C.plus (· = a)).plus (· ∈ as)) hX rfl rfl _ _ (RepL.mono (Sub.plus (kheap k2) fun b h => (has b h).1) _ _ hr)
      · exact FL.mono (fun v u r => Rep.wide (C := C.plus (· ∈ a :: as)) (C' := (C.plus (· = a)).plus (· ∈ as)) hX rfl rfl _ _ r) (fun v u r => RepL.wide (C := C.plus (· ∈ a :: as)) (C' := (C.plus (· = a)).plus (· ∈ as)) hX rfl rfl _ _ r) (fun _ _ h => h) fl

/-- the lists of a display made own, in order -/
def conv : Nat → List Bool → List PV → List PV × List (List PV)
  | k, true :: fs, .list l :: vs => let r := conv (k + 1) fs vs; (.own k :: r.1, l :: r.2)
  | k, false :: fs, v :: vs => let r := conv k fs vs; (v :: r.1, r.2)
  | _, _, _ => ([], [])
def adds (C : RC) (as : List Addr) : RC := { C with ads := C.ads ++ as }
theorem adopts : ∀ {fs : List Bool} {vs : List PV} {us : List Value} {as : List Addr} {C : RC} {σ : St} {h : Heap}, FL C h fs vs us as → Fra prog w mg mb hB n sc F env A C0 h0 C σ h → (∀ a ∈ as, C.X a ∧ hsz h0 ≤ a ∧ ∀ k : Nat, C.ads[k]? ≠ some a) → as.Nodup →
    Fra prog w mg mb hB n sc F env A C0 h0 (adds C as) ⟨σ.G, σ.O ++ (conv σ.O.length fs vs).2.map some⟩ h ∧ RepL (adds C as) h (conv σ.O.length fs vs).1 us
  | [], vs, us, as, C, σ, h, fl, X, ha, nd => by
    obtain ⟨rfl, rfl, rfl⟩ := fl
    have e : adds C [] = C := by unfold adds; simp
    rw [e]
    refine ⟨by simpa [conv] using X, by simp [conv, RepL]⟩
  | false :: fs, vs, us, as, C, σ, h, fl, X, ha, nd => by
    obtain ⟨v, r, u, t, rfl, rfl, rv, fl'⟩ := fl
    obtain ⟨Y, R⟩ := adopts fl' X ha nd
    refine ⟨by simpa [conv] using Y, ?_⟩
    simp only [conv, RepL]
    refine ⟨u, t, rfl, ?_, R⟩
    have S : Sub C (adds C as) h h := ⟨fun _ _ _ _ x => x, rfl, fun k b e => by
      have hl : k < C.ads.length := (List.getElem?_eq_some_iff.mp e).1
      show (C.ads ++ as)[k]? = some b
      rw [List.getElem?_append_left hl]; exact e, fun _ _ _ _ e => e⟩
    exact Rep.mono S _ _ rv
  | true :: fs, vs, us, as, C, σ, h, fl, X, ha, nd => by
    obtain ⟨l, r, a, t, xs, q, rfl, rfl, rfl, hp, hr, fl'⟩ := fl
    obtain ⟨hx, hs0, hna⟩ := ha a List.mem_cons_self
    obtain ⟨nd1, nd2⟩ := List.nodup_cons.mp nd
    have X1 := X.adopt hx hs0 hp hr hna
    have al : C.ads.length = σ.O.length := X.al
    have S : Sub C (C.add a) h h := add_sub
    have fl1 : FL (C.add a) h fs r t q := FL.mono (fun _ _ x => Rep.mono S _ _ x) (fun _ _ x => RepL.mono S _ _ x) (fun _ _ x => x) fl'
    obtain ⟨Y, R⟩ := adopts fl1 X1 (fun b hb => by
      obtain ⟨q1, q2, q3⟩ := ha b (List.mem_cons_of_mem _ hb)
      refine ⟨q1, q2, fun k e => ?_⟩
      have e' : (C.ads ++ [a])[k]? = some b := e
      rcases Nat.lt_or_ge k C.ads.length with hl | hl
      · rw [List.getElem?_append_left hl] at e'; exact q3 k e'
      · rw [List.getElem?_append_right hl] at e'
        have : k - C.ads.length = 0 := by
          have := (List.getElem?_eq_some_iff.mp e').1
          simp at this; omega
        rw [this] at e'
        simp at e'
        exact nd1 (e' ▸ hb)) nd2
    have ea : adds (C.add a) q = adds C (a :: q) := by unfold adds RC.add; simp
    rw [ea] at Y R
    have el : (σ.O ++ [some l]).length = σ.O.length + 1 := by simp
    simp only [el] at Y R
    refine ⟨by simpa [conv, List.append_assoc] using Y, ?_⟩
    simp only [conv, RepL]
    refine ⟨.ref a, t, rfl, ?_, R⟩
    simp only [Rep]
    refine ⟨a, ?_, rfl⟩
    show (C.ads ++ (a :: q))[σ.O.length]? = some a
    rw [← al]; simp
end
end Mine

namespace Mine
open StrLaws

theorem putAll_put {i : Nat} {w : PV} : ∀ {is : List Nat} {ws : List PV} {σ : St}, i ∉ is → putAll is ws (σ.put i w) = (putAll is ws σ).map (·.put i w)
  | [], [], σ, _ => rfl
  | [], _ :: _, σ, _ => rfl
  | _ :: _, [], σ, _ => rfl
  | j :: is, v :: ws, σ, h => by
    have hij : i ≠ j := fun q => h (q ▸ List.mem_cons_self)
    simp only [putAll]
    rw [← putAll_put (fun q => h (List.mem_cons_of_mem _ q))]
    congr 1
    simp only [St.put]
    rw [List.set_comm _ _ hij]
theorem putAll_snoc {i : Nat} {w : PV} : ∀ {is : List Nat} {ws : List PV} {σ : St}, is.length = ws.length → putAll (is ++ [i]) (ws ++ [w]) σ = (putAll is ws σ).map (·.put i w)
  | [], [], σ, _ => rfl
  | [], _ :: _, σ, h => by simp at h
  | _ :: _, [], σ, h => by simp at h
  | j :: is, v :: ws, σ, h => by
    simp only [List.cons_append, putAll]
    exact putAll_snoc (by simpa using h)
theorem putAll_len : ∀ {is : List Nat} {ws : List PV} {σ σ' : St}, putAll is ws σ = some σ' → is.length = ws.length
  | [], [], _, _, _ => rfl
  | [], _ :: _, _, _, h => by simp [putAll] at h
  | _ :: _, [], _, _, h => by simp [putAll] at h
  | j :: is, v :: ws, σ, σ', h => by
    simp only [putAll] at h
    simp [putAll_len h]
theorem putAll_rev : ∀ {is : List Nat} {ws : List PV} {σ σ' : St}, is.Nodup → putAll is ws σ = some σ' → putAll is.reverse ws.reverse σ = some σ'
  | [], [], σ, σ', _, h => h
  | [], _ :: _, _, _, _, h => by simp [putAll] at h
  | _ :: _, [], _, _, _, h => by simp [putAll] at h
  | j :: is, v :: ws, σ, σ', nd, h => by
    obtain ⟨n1, n2⟩ := List.nodup_cons.mp nd
    have hl := putAll_len h
    simp only [putAll] at h
    rw [putAll_put n1] at h
    obtain ⟨σ1, h1, rfl⟩ := Option.map_eq_some_iff.mp h
    rw [List.reverse_cons, List.reverse_cons, putAll_snoc (by simpa using hl), putAll_rev n2 h1]
    rfl

theorem putT_all : ∀ {fs : List Bool} {is : List Nat} {vs : List PV} {σ σ' : St}, is.length = fs.length → putT (is.zip fs) vs σ = some σ' →
    putAll is (conv σ.O.length fs vs).1 ⟨σ.G, σ.O ++ (conv σ.O.length fs vs).2.map some⟩ = some σ'
  | [], [], vs, σ, σ', _, h => by
    cases vs with
    | nil => simp only [List.zip_nil_right, putT, Option.some.injEq] at h; subst h; simp [conv, putAll]
    | cons v vs => simp [putT] at h
  | [], _ :: _, _, _, _, hl, _ => by simp at hl
  | _ :: _, [], _, _, _, hl, _ => by simp at hl
  | false :: fs, i :: is, vs, σ, σ', hl, h => by
    cases vs with
    | nil => simp [putT] at h
    | cons v vs =>
      simp only [List.zip_cons_cons, putT] at h
      have := putT_all (by simpa using hl) h
      simp only [conv, putAll]
      exact this
  | true :: fs, i :: is, vs, σ, σ', hl, h => by
    cases vs with
    | nil => simp [putT] at h
    | cons v vs =>
      cases v <;> simp only [List.zip_cons_cons, putT, reduceCtorEq] at h
      rename_i l
      have := putT_all (by simpa using hl) h
      simp only [St.new, List.length_append, List.length_singleton, List.append_assoc] at this
      simp only [conv, putAll]
      exact this

section
variable {prog : Program} {w : World} {mg mb : Str → Option Value} {hB : Heap} {n : Nat} {sc : Scope} {F : PF1} {env : Env} {A : Around} {C0 : RC} {h0 : Heap}

def SA (prog : Program) (w : World) (env : Env) (A : Around) (t : Value → Sem Unit) (x : Str) : Prop :=
  ∀ {Q : Unit → Shared → Prop} {s : Shared} {u : Value}, wpAny (model prog w) A (storeName env x u) Q noE s → wpAny (model prog w) A (t u) Q noE s
theorem sa_assign {x : Str} {p : Pos} : SA prog w env A (assign (.Name x p) env) x := fun h => wpAny_assign_Name h
theorem sa_bind {x : Str} : SA prog w env A (bindName env x) x := by
  intro Q s u h
  unfold bindName
  exact wpAny_bind (wpAny_holding (wpAny_point (wpAny_bind (wpAny_mono h (fun _ s' h' => wpAny_point h') fun _ _ x => x))))
def SAs (prog : Program) (w : World) (env : Env) (A : Around) : List (Value → Sem Unit) → List Str → Prop
  | [], xs => xs = []
  | t :: ts, xs => ∃ x r, xs = x :: r ∧ SA prog w env A t x ∧ SAs prog w env A ts r
def Sl (sc : Scope) : List Str → List Nat → Prop
  | [], is => is = []
  | x :: xs, is => ∃ i r, is = i :: r ∧ slotOf sc x = some i ∧ Sl sc xs r
theorem Sl.append : ∀ {xs ys : List Str} {is js : List Nat}, Sl sc xs is → Sl sc ys js → Sl sc (xs ++ ys) (is ++ js)
  | [], ys, is, js, h, h' => by simp only [Sl] at h; subst h; exact h'
  | x :: xs, ys, is, js, h, h' => let ⟨i, r, e, a, b⟩ := h; ⟨i, r ++ js, by rw [e]; rfl, a, b.append h'⟩
theorem Sl.rev : ∀ {xs : List Str} {is : List Nat}, Sl sc xs is → Sl sc xs.reverse is.reverse
  | [], is, h => by simp only [Sl] at h; subst h; rfl
  | x :: xs, is, h => by
    obtain ⟨i, r, rfl, a, b⟩ := h
    rw [List.reverse_cons, List.reverse_cons]
    exact b.rev.append ⟨i, [], rfl, a, rfl⟩
theorem RepL.rev {C : RC} {h : Heap} : ∀ {p : List PV} {v : List Value}, RepL C h p v → RepL C h p.reverse v.reverse
  | [], v, r => by simp only [RepL] at r; subst r; simp [RepL]
  | p :: ps, v, r => by
    simp only [RepL] at r
    obtain ⟨w, r', rfl, h1, h2⟩ := r
    rw [List.reverse_cons, List.reverse_cons]
    exact h2.rev.append (RepL.one h1)

theorem assign_all : ∀ {ts : List (Value → Sem Unit)} {xs : List Str} {is : List Nat} {ws : List PV} {us : List Value} {C : RC} {σ σ' : St} {s : Shared}, SAs prog w env A ts xs → Sl sc xs is → RepL C s.heap ws us → Fra prog w mg mb hB n sc F env A C0 h0 C σ s.heap →
    putAll is ws σ = some σ' → wpAny (model prog w) A (assignInOrder ts us) (fun _ s' => (∀ b o, ¬ C.X b → s.heap.get? b = some o → s'.heap.get? b = some o) ∧ Same s s' ∧ Fra prog w mg mb hB n sc F env A C0 h0 C σ' s'.heap) noE s
  | [], xs, is, ws, us, C, σ, σ', s, h1, h2, hr, X, hp => by
    simp only [SAs] at h1; subst h1
    simp only [Sl] at h2; subst h2
    cases ws with
    | nil =>
      simp only [putAll, Option.some.injEq] at hp; subst hp
      exact wpAny_pure ⟨fun _ _ _ e => e, ⟨s.heap, s.toks, s.gens, rfl, id⟩, X⟩
    | cons v ws => simp [putAll] at hp
  | t :: ts, xs, is, ws, us, C, σ, σ', s, h1, h2, hr, X, hp => by
    obtain ⟨x, r, rfl, sa, h1'⟩ := h1
    obtain ⟨i, r', rfl, hi, h2'⟩ := h2
    cases ws with
    | nil => simp [putAll] at hp
    | cons v ws =>
      simp only [RepL] at hr
      obtain ⟨u, us', rfl, r1, r2⟩ := hr
      simp only [putAll] at hp
      show wpAny _ A (do holding us' (t u); assignInOrder ts us') _ _ s
      refine wpAny_bind (wpAny_holding (sa (store_ok X hi r1 fun h' tk hk Y => ?_)))
      exact seqE (assign_all (s := { s with heap := h', toks := tk }) h1' h2' (RepL.mono (Sub.xs hk) _ _ r2) Y hp) fun _ s2 ⟨a, b, c⟩ => ⟨fun p o hx e => a p o hx (hk p o hx e), Same.heap.trans b, c⟩

theorem names_each : ∀ {ts : List Expr} {xs : List Str}, E.names ts = some xs → SAs prog w env A ((assignEach ts env).map (·.2)) xs ∧ (assignEach ts env).length = xs.length ∧ (assignEach ts env).findIdx? (·.1) = none ∧ ts.length = xs.length
  | [], xs, h => by simp only [E.names, Option.some.injEq] at h; subst h; exact ⟨rfl, rfl, rfl, rfl⟩
  | t :: ts, xs, h => by
    cases t <;> simp only [E.names, reduceCtorEq] at h
    rename_i x p
    obtain ⟨r, e, rfl⟩ := Option.map_eq_some_iff.mp h
    obtain ⟨h1, h2, h3, h4⟩ := names_each (ts := ts) e
    refine ⟨⟨x, r, rfl, sa_assign, h1⟩, by simp [assignEach, h2], ?_, by simp [h4]⟩
    simp [assignEach, List.findIdx?_cons, h3]

theorem names_bind : ∀ {xs : List Str}, SAs prog w env A (xs.map fun x => bindName env x) xs
  | [] => rfl
  | x :: xs => ⟨x, xs, rfl, sa_bind, names_bind⟩

theorem names_filter {f : Expr → Option Str} (hf : ∀ x p, f (.Name x p) = some x ∨ f (.Name x p) = none) : ∀ {ts : List Expr} {xs : List Str}, E.names ts = some xs → (ts.filterMap f).length = ts.length → ts.filterMap f = xs
  | [], xs, h, _ => by simp only [E.names, Option.some.injEq] at h; subst h; rfl
  | t :: ts, xs, h, hl => by
    cases t <;> simp only [E.names, reduceCtorEq] at h
    rename_i x p
    obtain ⟨r, e, rfl⟩ := Option.map_eq_some_iff.mp h
    rcases hf x p with q | q
    · rw [List.filterMap_cons, q] at hl ⊢
      simp only [List.length_cons, Nat.add_right_cancel_iff] at hl
      rw [names_filter hf e hl]
    · rw [List.filterMap_cons, q] at hl
      have := List.length_filterMap_le f ts
      simp at hl; omega

theorem swap_cases {ts vs : List Expr} {k k' : Nat} {p p' : Pos} {xs : List Str} (h : E.names ts = some xs) (ht : tupOk vs = true) :
    swappedStores [.Tuple ts k p] (.Tuple vs k' p') env = pure none ∨ swappedStores [.Tuple ts k p] (.Tuple vs k' p') env = pure (some xs) := by
  unfold swappedStores
  dsimp only
  split
  · exact .inl rfl
  split
  · exact .inl rfl
  split
  · exact .inl rfl
  rename_i hc
  split
  · exact .inl rfl
  rename_i hf
  split
  · rename_i hc2
    exfalso
    unfold tupOk at ht
    rw [hc2] at ht
    simp only [Bool.not_true, Bool.or_false] at ht
    exact hf ht
  · right
    simp only [bne_iff_ne, ne_eq, Bool.or_eq_true, decide_eq_true_eq, not_or, Decidable.not_not] at hc
    congr 2
    refine names_filter (fun x q => ?_) h hc.1
    dsimp only
    split
    · exact .inl rfl
    · exact .inr rfl
end
end Mine

namespace Mine
open StrLaws
section
variable {prog : Program} {w : World} {mg mb : Str → Option Value} {hB : Heap} {n : Nat} {sc : Scope} {F : PF1} {env : Env} {A : Around} {C0 : RC} {h0 : Heap}

theorem KN.but {h h' : Heap} {a : Addr} (ha : hsz h ≤ a) (hk : Heap.ExtBut a h h') : KN h h' := (KN.refl h).above ha fun p o hp e => hk p o hp e

theorem Sl.len : ∀ {xs : List Str} {is : List Nat}, Sl sc xs is → xs.length = is.length
  | [], is, h => by simp only [Sl] at h; subst h; rfl
  | x :: xs, is, h => by obtain ⟨i, r, rfl, a, b⟩ := h; simp [b.len]

theorem fl_len {C : RC} {h : Heap} : ∀ {fs : List Bool} {vs : List PV} {us : List Value} {as : List Addr}, FL C h fs vs us as → us.length = vs.length
  | [], _, _, _, x => by obtain ⟨rfl, rfl, rfl⟩ := x; rfl
  | false :: fs, _, _, _, x => by obtain ⟨v, r, u, t, rfl, rfl, _, e4⟩ := x; simp [fl_len e4]
  | true :: fs, _, _, _, x => by obtain ⟨l, r, a, t, xs, q, rfl, rfl, _, _, _, e6⟩ := x; simp [fl_len e6]

theorem asgt_ok {ts vs : List Expr} {xs : List Str} {is : List Nat} {fs : List Bool} {ps : PEs} {k k' : Nat} {p p' pos : Pos} (hx : E.names ts = some xs) (hsl : Sl sc xs is) (hnd : is.Nodup) (hlen : is.length = fs.length)
    (hT : TF prog w mg mb hB n sc fs vs ps) (hns : NoStars vs = true) (hl : ps.len ≤ 64) (htup : tupOk vs = true) : XS prog w mg mb hB n sc (.Assign [.Tuple ts k p] (.Tuple vs k' p') pos) (.asgt (is.zip fs) ps) := by
  intro N F env A C0 h0 C σ s σ' f X h
  simp only [ex] at h
  obtain ⟨pvs, e1, h⟩ := Option.bind_eq_some_iff.mp h
  obtain ⟨σ1, e2, h⟩ := Option.map_eq_some_iff.mp h
  cases h
  have e3 := putT_all hlen e2
  rw [exec_Assign_arm]
  refine wpAny_bind (wpAny_standAt ?_)
  rw [show swapsWithSole [.Tuple ts k p] (.Tuple vs k' p') pos.line env = pure false from rfl]
  refine wpAny_bind (wpAny_pure ?_)
  rw [if_neg (by decide)]
  refine wpAny_bind (wpAny_Tuple_spliced ?_)
  rw [backTo_of hns]
  refine seqE (fl_ok hT X.cx e1) fun us s1 ⟨k1, as, has, nd, fl⟩ => ?_
  have kp2 : Keeps s1 { s1 with heap := s1.heap.push { cls := .type "tuple", data := .seq us.toArray } } := kpush
  have Y0 := X.plus (p := (· ∈ as)) (kheap (ktrans k1 kp2)) (fun b hb => ⟨(has b hb).1, let ⟨o, nt, e⟩ := (has b hb).2; ⟨o, nt, Heap.get?_push_of_some _ e⟩⟩)
  have fl2 : FL (C.plus (· ∈ as)) (s1.heap.push { cls := .type "tuple", data := .seq us.toArray }) fs pvs us as := FL.mono (fun _ _ r => r.keep (.push _ _)) (fun _ _ r => r.keep (.push _ _)) (fun _ _ r => (KN.push _ _).plain r) fl
  obtain ⟨Y1, R1⟩ := adopts fl2 Y0 (fun a ha => ⟨.inr ha, Nat.le_trans X.size (has a ha).1, X.noad (has a ha).1⟩) nd
  have big : Big C (adds (C.plus (· ∈ as)) as) s.heap (s1.heap.push { cls := .type "tuple", data := .seq us.toArray }) :=
    ⟨fun b o _ e hx q => q.elim hx fun q => Nat.lt_irrefl _ (Nat.lt_of_lt_of_le (hsz_lt e) (has b q).1), rfl, fun j b e => by
      have hl : j < C.ads.length := (List.getElem?_eq_some_iff.mp e).1
      show (C.ads ++ as)[j]? = some b
      rw [List.getElem?_append_left hl]; exact e, fun b o nt _ e => (kheap (ktrans k1 kp2)).nt b o nt e⟩
  have ht : (s1.heap.push { cls := .type "tuple", data := .seq us.toArray }).IsTuple s1.heap.objs.size us.toArray := ⟨_, Heap.get?_push_size _ rfl, rfl, _, rfl⟩
  obtain ⟨hsa, hn1, hn2, hn3⟩ := names_each (prog := prog) (w := w) (env := env) (A := A) hx
  have hxl := hsl.len
  have hul : us.length = xs.length := by
    have h1 := R1.length
    have h2 := putAll_len e3
    omega
  have fin : ∀ (s2 : Shared) (h' : Heap), s2 = { s1 with heap := s1.heap.push { cls := .type "tuple", data := .seq us.toArray } } → Heap.ExtBut s2.heap.objs.size s2.heap h' → ∀ {tts : List (Value → Sem Unit)} {xs' : List Str} {is' : List Nat} {ws' : List PV} {us' : List Value},
      SAs prog w env A tts xs' → Sl sc xs' is' → RepL (adds (C.plus (· ∈ as)) as) s2.heap ws' us' → putAll is' ws' ⟨σ.G, σ.O ++ (conv σ.O.length fs pvs).2.map some⟩ = some σ' →
      wpAny (model prog w) A (assignInOrder tts us') (fun _ => Res prog w mg mb hB n sc F env A C0 h0 C s σ' .next .next) noE { s2 with heap := h' } := by
    rintro s2 h' rfl hext tts xs' is' ws' us' a1 a2 a3 a4
    have kn := KN.but (hsz_size _) hext
    refine seqE (assign_all (s := { s1 with heap := h' }) a1 a2 (a3.keep kn) (Y1.keep kn) a4) fun _ s3 ⟨b1, b2, b3⟩ => ?_
    exact ⟨_, big.trans ((Big.of_kn kn).trans (.xs b1)), (Same.of k1).trans (Same.heap.trans b2), b3, rfl⟩
  refine ⟨?_, ?_⟩
  · rw [fl_len fl, evs_len e1, sizeLine_eq]; omega
  rcases swap_cases (env := env) (k := k) (k' := k') (p := p) (p' := p') hx htup with hsw | hsw
  · rw [hsw]
    refine wpAny_bind (wpAny_pure ?_)
    show wpAny _ A (do assignAll _ ((assignEach [.Tuple ts k p] env).map (·.2)); (pure Flow.next : Sem Flow)) _ _ _
    refine wpAny_bind ?_
    show wpAny _ A (assign (.Tuple ts k p) env (.ref s1.heap.objs.size)) _ _ _
    refine wpAny_assign_Tuple X.cx.R.handled ht (by rw [hn1]; simpa using hul.symm) hn2 fun h' hext => ?_
    refine seqE (fin _ h' rfl hext hsa hsl (by simpa using R1) e3) fun _ s3 r => wpAny_pure r
  · rw [hsw]
    refine wpAny_bind (wpAny_pure ?_)
    show wpAny _ A (do rule "assign.swapped-stores"; let items ← unpackItems _ xs.length none; assignInOrder (xs.reverse.map fun n => bindName env n) items.reverse; (pure Flow.next : Sem Flow)) _ _ _
    refine wpAny_bind (wpAny_rule (wpAny_bind ?_))
    have hsz : xs.length = us.toArray.size := by simpa using hul.symm
    rw [hsz]
    refine wpAny_unpackItems_tuple X.cx.R.handled ht fun h' hext => ?_
    refine wpAny_bind (seqE (fin _ h' rfl hext (names_bind (xs := xs.reverse)) hsl.rev (by simpa using R1.rev) (putAll_rev hnd e3)) fun _ s3 r => wpAny_pure r)
end
end Mine

namespace Mine
open StrLaws
section
variable {prog : Program} {w : World} {mg mb : Str → Option Value} {hB : Heap} {n : Nat} {sc : Scope}

theorem bad_ok {st : Stmt} : XS prog w mg mb hB n sc st badS := by
  intro N F env A C0 h0 C σ s σ' f X h
  simp [badS, ex, pt] at h

theorem cT_snd {k : Nat} (S : Snd prog w mg mb hB n k) : ∀ {fs : List Bool} {es : List Expr} {ps : PEs}, cT k sc fs es = some ps → TF prog w mg mb hB n sc fs es ps
  | [], [], ps, h => by simp only [cT, Option.some.injEq] at h; subst h; exact ⟨rfl, rfl⟩
  | [], _ :: _, ps, h => by simp [cT] at h
  | false :: fs, [], ps, h => by simp [cT] at h
  | true :: fs, [], ps, h => by simp [cT] at h
  | false :: fs, e :: es, ps, h => by
    simp only [cT] at h
    obtain ⟨p, e1, h⟩ := Option.bind_eq_some_iff.mp h
    obtain ⟨q, e2, rfl⟩ := Option.map_eq_some_iff.mp h
    exact ⟨e, es, p, q, rfl, rfl, (S _ _ _ e1).1, cT_snd S e2⟩
  | true :: fs, e :: es, ps, h => by
    cases e <;> simp only [cT, reduceCtorEq] at h
    rename_i l pos
    split at h
    · cases h
    · rename_i hn
      obtain ⟨p, e1, h⟩ := Option.bind_eq_some_iff.mp h
      split at h
      · rename_i hl
        obtain ⟨q, e2, rfl⟩ := Option.map_eq_some_iff.mp h
        exact ⟨l, pos, es, p, q, rfl, rfl, (cEs_snd S e1).1, by simpa using hn, hl, cT_snd S e2⟩
      · cases h
theorem slots_sl : ∀ {xs : List Str} {is : List Nat}, slots sc xs = some is → Sl sc xs is
  | [], is, h => by simp only [slots, Option.some.injEq] at h; subst h; rfl
  | x :: xs, is, h => by
    simp only [slots] at h
    obtain ⟨i, e1, h⟩ := Option.bind_eq_some_iff.mp h
    obtain ⟨r, e2, rfl⟩ := Option.map_eq_some_iff.mp h
    exact ⟨i, r, rfl, e1, slots_sl e2⟩

def SndS (prog : Program) (w : World) (mg mb : Str → Option Value) (hB : Heap) (n : Nat) (mu : List Str) (k : Nat) : Prop := ∀ (sc : Scope) (st : Stmt) (p : PS), cS mu k sc st = some p → XS prog w mg mb hB n sc st p

theorem cSs_snd {mu : List Str} {k : Nat} (S : SndS prog w mg mb hB n mu k) (sts : List Stmt) : ∀ {ps : PSs}, cSs (cS mu k sc) sts = some ps → XSS prog w mg mb hB n sc sts ps := by
  induction sts with
  | nil => intro ps h; simp only [cSs, Option.some.injEq] at h; subst h; exact xss_nil
  | cons st r ih =>
    intro ps h
    simp only [cSs] at h
    obtain ⟨q, e2, rfl⟩ := Option.map_eq_some_iff.mp h
    refine xss_cons ?_ (ih e2)
    cases e1 : cS mu k sc st with
    | none => exact bad_ok
    | some p => exact S _ _ _ e1

theorem cE_noComp : ∀ {k : Nat} {f : Str} {fp p : Pos} {es : List Expr}, noComp (.Call (.Name f fp) es [] p) = true := fun {_ _ _ _ _} => rfl

set_option maxHeartbeats 4000000 in
theorem cS_snd (hre : Prims prog w mg mb hB) (mu : List Str) : ∀ k : Nat, SndS prog w mg mb hB n mu k
  | 0, sc, st, p, h => by simp [cS] at h
  | k + 1, sc, st, p, h => by
    have S : Snd prog w mg mb hB n k := cE_snd hre k
    have SS' := cS_snd hre mu k
    unfold cS at h
    split at h
    · cases ‹_ + 1 = _›
    all_goals first | (rename_i heq; cases heq) | (cases h; done)
    · obtain ⟨i, e0, h⟩ := Option.bind_eq_some_iff.mp h
      split at h
      · split at h
        · cases h
        · rename_i hn
          obtain ⟨ps, e1, h⟩ := Option.bind_eq_some_iff.mp h
          split at h
          · cases h
            exact asgo_ok e0 (cEs_snd S e1).1 (by simpa using hn) ‹_›
          · cases h
      · obtain ⟨pe, e1, rfl⟩ := Option.map_eq_some_iff.mp h
        exact asg_ok rfl e0 (S _ _ _ e1).1
    · split at h
      · cases h
      · obtain ⟨i, e0, h⟩ := Option.bind_eq_some_iff.mp h
        obtain ⟨j, e1, rfl⟩ := Option.map_eq_some_iff.mp h
        exact asga_ok (by simpa using ‹¬ dbg _ = true›) e0 e1
    · split at h
      · cases h
      · rename_i hc
        simp only [Bool.or_eq_true, Bool.not_eq_true', not_or, Bool.not_eq_false, Bool.not_eq_true] at hc
        obtain ⟨i, e0, h⟩ := Option.bind_eq_some_iff.mp h
        obtain ⟨j, e1, h⟩ := Option.bind_eq_some_iff.mp h
        obtain ⟨pe, e2, rfl⟩ := Option.map_eq_some_iff.mp h
        exact pop_ok hc.1.2 hc.1.1 hc.2 e0 e1 (S _ _ _ e2).1
    · obtain ⟨i, e0, h1⟩ := Option.bind_eq_some_iff.mp h
      clear h
      split at h1
      · rename_i hc
        simp only [Bool.and_eq_true, beq_iff_eq] at hc
        obtain ⟨hf, _⟩ := hc
        subst hf
        split at h1
        · cases h1
        · rename_i hc2
          simp only [Bool.not_eq_true', Bool.not_eq_false, Bool.and_eq_true] at hc2
          obtain ⟨pe, e2, rfl⟩ := Option.map_eq_some_iff.mp h1
          exact asgl_ok hc2.1 hc2.2 e0 (S _ _ _ e2).1
      · obtain ⟨pe, e2, rfl⟩ := Option.map_eq_some_iff.mp h1
        exact asg_ok rfl e0 (S _ _ _ e2).1
    · split at h
      · cases h
      · rename_i hc
        simp only [Bool.not_eq_true', Bool.not_eq_false, Bool.and_eq_true] at hc
        obtain ⟨j, e0, h⟩ := Option.bind_eq_some_iff.mp h
        obtain ⟨i, e1, h⟩ := Option.bind_eq_some_iff.mp h
        obtain ⟨it, e2, h⟩ := Option.bind_eq_some_iff.mp h
        obtain ⟨el, e3, h⟩ := Option.bind_eq_some_iff.mp h
        obtain ⟨cs, e4, rfl⟩ := Option.map_eq_some_iff.mp h
        exact asgc_ok hc.1 hc.2 e1 (cI_snd S e2) (S _ _ _ e3).1 (cEs_snd S e4).2 e0
    · split at h
      · cases h
      · rename_i hc
        simp only [Bool.not_eq_true', Bool.not_eq_false] at hc
        obtain ⟨i, e0, h⟩ := Option.bind_eq_some_iff.mp h
        obtain ⟨pe, e2, rfl⟩ := Option.map_eq_some_iff.mp h
        exact asg_ok hc e0 (S _ _ _ e2).1
    · obtain ⟨xs, e0, h⟩ := Option.bind_eq_some_iff.mp h
      obtain ⟨is, e1, h⟩ := Option.bind_eq_some_iff.mp h
      obtain ⟨ps, e2, h⟩ := Option.bind_eq_some_iff.mp h
      split at h
      · rename_i hc
        simp only [Bool.and_eq_true, decide_eq_true_eq] at hc
        cases h
        have hsl := slots_sl e1
        exact asgt_ok e0 hsl hc.1.1.1 (by simp [hsl.len]) (cT_snd S e2) hc.1.1.2 hc.1.2 hc.2
      · cases h
    · cases h; exact bad_ok
    · cases h; exact bad_ok
    · split at h
      · cases h; exact bad_ok
      · split at h
        · cases h
        · obtain ⟨i, e0, h⟩ := Option.bind_eq_some_iff.mp h
          obtain ⟨pe, e2, rfl⟩ := Option.map_eq_some_iff.mp h
          exact aug_ok (by simpa using ‹¬ dbg _ = true›) e0 (S _ _ _ e2).1
    · cases h; exact bad_ok
    · cases h; exact bad_ok
    · split at h
      · cases h
      · rename_i hc
        simp only [Bool.or_eq_true, Bool.not_eq_true', not_or, Bool.not_eq_false, Bool.not_eq_true] at hc
        obtain ⟨i, e0, h⟩ := Option.bind_eq_some_iff.mp h
        obtain ⟨pe, e2, rfl⟩ := Option.map_eq_some_iff.mp h
        exact app_ok hc.1.2 hc.1.1 hc.2 e0 (S _ _ _ e2).1
    · split at h
      · cases h
      · rename_i hc
        simp only [Bool.or_eq_true, Bool.not_eq_true', not_or, Bool.not_eq_false, Bool.not_eq_true] at hc
        obtain ⟨i, e0, h⟩ := Option.bind_eq_some_iff.mp h
        obtain ⟨pe, e2, rfl⟩ := Option.map_eq_some_iff.mp h
        exact appf_ok hc.1 hc.2 e0 (S _ _ _ e2).1
    · obtain ⟨c, e0, h⟩ := Option.bind_eq_some_iff.mp h
      obtain ⟨a, e1, h⟩ := Option.bind_eq_some_iff.mp h
      obtain ⟨b, e2, rfl⟩ := Option.map_eq_some_iff.mp h
      exact ite_ok (S _ _ _ e0).2 (cSs_snd SS' _ e1) (cSs_snd SS' _ e2)
    · obtain ⟨c, e0, h⟩ := Option.bind_eq_some_iff.mp h
      obtain ⟨a, e1, rfl⟩ := Option.map_eq_some_iff.mp h
      exact wh_ok (S _ _ _ e0).2 (cSs_snd SS' _ e1)
    · split at h
      · cases h
      · rename_i hc
        simp only [Bool.not_eq_true', Bool.not_eq_false] at hc
        obtain ⟨i, e0, h⟩ := Option.bind_eq_some_iff.mp h
        obtain ⟨it, e1, h⟩ := Option.bind_eq_some_iff.mp h
        obtain ⟨a, e2, rfl⟩ := Option.map_eq_some_iff.mp h
        exact fr_ok hc e0 (cI_snd S e1) (cSs_snd SS' _ e2)
    · obtain ⟨pe, e1, rfl⟩ := Option.map_eq_some_iff.mp h
      exact ret_ok (S _ _ _ e1).1
    · cases h; exact brk_ok
    · obtain ⟨pe, e1, rfl⟩ := Option.map_eq_some_iff.mp h
      exact asrt_ok (S _ _ _ e1).2
end
end Mine

namespace Mine
open StrLaws

theorem Room.deeper {n : Nat} {A : Around} {env : Env} (R : Room (n + 1) A) : Room n (A.deeper env) where
  handled := R.handled
  depth := by have := R.depth; show A.depth + 1 + n < recursionLimit; omega
  units := by have := R.units; show A.units + 3 + 200 + 20 * n < cLine; omega

theorem bindL_other {kindOf : Str → Option NameKind} {y : Str} : ∀ {binds : List (Str × Value)} {m : Str → Option Value}, (∀ q ∈ binds, q.1 ≠ y) → bindL kindOf binds m y = m y
  | [], _, _ => rfl
  | (n, v) :: r, m, h => by
    unfold bindL
    rw [bindL_other fun q hq => h q (List.mem_cons_of_mem _ hq)]
    split
    · exact if_neg fun (e : y = n) => h (n, v) List.mem_cons_self e.symm
    · rfl
theorem bindC_other {kindOf : Str → Option NameKind} {y : Str} : ∀ {binds : List (Str × Value)} {m : Str → Option Value}, (∀ q ∈ binds, q.1 ≠ y) → bindC kindOf binds m y = m y
  | [], _, _ => rfl
  | (n, v) :: r, m, h => by
    unfold bindC
    rw [bindC_other fun q hq => h q (List.mem_cons_of_mem _ hq)]
    split
    · rfl
    · exact if_neg fun (e : y = n) => h (n, v) List.mem_cons_self e.symm
theorem bindL_at {kindOf : Str → Option NameKind} {y : Str} {u : Value} (hk : kindOf y = some .local) : ∀ {binds : List (Str × Value)} {m : Str → Option Value}, (binds.map (·.1)).Nodup → (y, u) ∈ binds → bindL kindOf binds m y = some u
  | (n, v) :: r, m, nd, h => by
    obtain ⟨n1, n2⟩ := List.nodup_cons.mp nd
    unfold bindL
    rcases List.mem_cons.mp h with e | h
    · cases e
      rw [bindL_other (fun q hq (e : q.1 = y) => n1 (by show y ∈ r.map (·.1); rw [← e]; exact List.mem_map_of_mem hq)), if_pos hk]
      simp
    · exact bindL_at hk n2 h
theorem bindC_at {kindOf : Str → Option NameKind} {y : Str} {u : Value} (hk : kindOf y ≠ some .local) : ∀ {binds : List (Str × Value)} {m : Str → Option Value}, (binds.map (·.1)).Nodup → (y, u) ∈ binds → bindC kindOf binds m y = some u
  | (n, v) :: r, m, nd, h => by
    obtain ⟨n1, n2⟩ := List.nodup_cons.mp nd
    unfold bindC
    rcases List.mem_cons.mp h with e | h
    · cases e
      rw [bindC_other (fun q hq (e : q.1 = y) => n1 (by show y ∈ r.map (·.1); rw [← e]; exact List.mem_map_of_mem hq)), if_neg hk]
      simp
    · exact bindC_at hk n2 h
theorem cellsFrom_acc : ∀ {names : List (Str × NameKind)} {k : Nat} {acc : List (Str × Addr)} {x : Str}, (acc.lookup x).isSome = true → ((cellsFrom k names acc).lookup x).isSome = true
  | [], _, _, _, h => h
  | (y, kind) :: r, k, acc, x, h => by
    unfold cellsFrom
    split
    · refine cellsFrom_acc ?_
      rw [List.lookup_cons]
      split
      · rfl
      · exact h
    · exact cellsFrom_acc h
theorem cellsFrom_mem : ∀ {names : List (Str × NameKind)} {k : Nat} {acc : List (Str × Addr)} {x : Str}, (x, NameKind.cell) ∈ names → ((cellsFrom k names acc).lookup x).isSome = true
  | (y, kind) :: r, k, acc, x, h => by
    unfold cellsFrom
    rcases List.mem_cons.mp h with e | h
    · cases e
      simp only [beq_self_eq_true, if_true]
      exact cellsFrom_acc (by simp)
    · split
      · exact cellsFrom_mem h
      · exact cellsFrom_mem h

/-- what the evaluator's slots are at the start -/
structure EntryOk (sc : Scope) (ps : List Str) : Prop where
  kind : sc.kind = .function
  co : sc.isCoroutine = false
  gen : sc.isGenerator = false
  nf : ∀ x, sc.names.lookup x ≠ some .free
  nd : ps.Nodup
  at_ : ∀ (i : Nat) x, ps[i]? = some x → sc.names.lookup x = some .local ∨ sc.names.lookup x = some .cell
  slot : ∀ (i : Nat) x, slotOf sc x = some i → i < ps.length → ps[i]? = some x

section
variable {prog : Program} {w : World} {mg mb : Str → Option Value} {hB : Heap}

theorem fn_frame {n : Nat} {F : PF1} {x : Str} {a : Addr} {o : Obj} {fd : FuncData} {body : List Stmt} {params : List Str} {c : Addr} {oc : Obj} {vs : Array Value} {t : Tok} {args args' : List PV} {r : PV}
    (base : Base mg mb hB) (FS : FsOk prog w mg hB n F) (hm : mg x = some (.ref a)) (ho : hB.get? a = some o) (hd : o.data = .func fd) (hbody : fd.body = .stmts body) (hclo : fd.closure = []) (hglb : fd.globals = mainGlobals) (hblt : fd.builtins = builtinsNs)
    (hcode : fd.code = .ref c) (hoc : hB.get? c = some oc) (hocn : NoTab oc) (hocd : oc.data = .fields vs) (hq : vs[1]? = some (.str fd.qualname t)) (hcdv : (slotOf fd.scope "stuff").isSome = true → c = CT)
    (E : EntryOk fd.scope params) (hlen : args'.length = params.length)
    (hbind : ∀ (C : RC) (vals : List Value) (A : Around) (s : Shared), (∀ b, C.X b → ∃ o, NoTab o ∧ s.heap.get? b = some o) → RepL C s.heap args vals → noOwnL args = true → wpAny (model prog w) A (bindArgs fd ⟨vals, []⟩) (fun binds s₁ => Keeps s s₁ ∧ ∃ us, binds = params.zip us ∧ RepL C s₁.heap args' us) noE s)
    (hno : noOwnL args = true → noOwnL args' = true)
    (hrn : noOwn r = true)
    (run : ∀ (env : Env) (A' : Around) (C : RC) (h0 : Heap) (C1 : RC) (s₂ : Shared), noOwnL args' = true → Fra prog w mg mb hB n fd.scope F env A' C h0 C1 ⟨args'.map some ++ List.replicate (fd.scope.names.length - args'.length) none, []⟩ s₂.heap →
      wpAny (model prog w) A' (execs body env) (fun fl s' => KN h0 s'.heap ∧ Same s₂ s' ∧ Rep C s'.heap r (match fl with | .ret v => v | _ => .none)) noE s₂) : FnOk prog w mg hB (n + 1) x args r := by
  refine ⟨a, fd, o, hm, ho, hd, hrn, fun C vals A s hk hX hrep hnoa R => ?_⟩
  refine wpAny_call (codeAny_call_function (Nat.lt_of_le_of_lt (Nat.le_add_right _ _) R.depth) (hk.func ho hd) hd E.co E.gen hbody ⟨c, oc, vs, t, hcode, hk.nt _ _ hocn hoc, hocd, hq⟩ ?_)
  refine seqE (hbind C vals A.in1 s hX hrep hnoa) fun binds s₁ ⟨k1, us, hbs, hru⟩ => ?_
  subst hbs
  rw [hclo]
  have hul := hru.length
  have hmap : (params.zip us).map (·.1) = params := List.map_fst_zip (by omega)
  have hlu : params.length = us.length := by omega
  have hkinds : ∀ q ∈ params.zip us, fd.scope.names.lookup q.1 = some .local ∨ (fd.scope.names.lookup q.1 = some .cell ∧ ((cellsFrom (s₁.heap.objs.size + 1) fd.scope.names []).lookup q.1).isSome = true) := by
    intro q hq
    have hq1 : q.1 ∈ params := hmap ▸ List.mem_map_of_mem hq
    obtain ⟨i, hi⟩ := List.getElem?_of_mem hq1
    rcases E.at_ i q.1 hi with h1 | h1
    · exact .inl h1
    · exact .inr ⟨h1, cellsFrom_mem (mem_of_lookup h1)⟩
  have hX1 : ∀ b, C.X b → ∃ o, NoTab o ∧ s₁.heap.get? b = some o := fun b hb => let ⟨o, nt, e⟩ := hX b hb; ⟨o, nt, (kheap k1).nt _ _ nt e⟩
  have hk1 : KN hB s₁.heap := hk.trans (kheap k1)
  refine wpAny_newFunctionEnv_cells E.kind hkinds fun env he s₂ ic => ?_
  have hen : env.scope = fd.scope := by rw [he]; rfl
  have hec : env.code = fd.code := by rw [he]; rfl
  have heg : env.globals = mainGlobals := by rw [he]; exact hglb
  have heb : env.builtins = builtinsNs := by rw [he]; exact hblt
  have heL : env.locals = s₁.heap.objs.size := by rw [he]; rfl
  have hecs : env.cells = cellsFrom (s₁.heap.objs.size + 1) fd.scope.names [] := by rw [he]; rfl
  have hkn : ∀ y, env.kindOf y = fd.scope.names.lookup y := fun y => by unfold Env.kindOf; rw [hen]
  have kn : KN s₁.heap s₂.heap := .of ic.toInCall.keep
  have same2 : Same s₁ s₂ := by obtain ⟨h', tk, e⟩ := ic.toInCall.same; exact ⟨h', tk, s₁.gens, e, id⟩
  clear he
  refine ⟨base.lim |> fun l => (hk1.trans kn).noLimit l, codeAny_func ?_⟩
  generalize hp : (fun b : Addr => b = env.locals ∨ ∃ y, env.cells.lookup y = some b) = p
  have hpp : ∀ b, p b → hsz s₁.heap ≤ b ∧ ∃ o, NoTab o ∧ s₂.heap.get? b = some o := fun b hb => by
    rw [← hp] at hb
    rcases hb with rfl | ⟨y, hy⟩
    · exact ⟨heL ▸ hsz_size _, ns_live ic.toInCall.ns⟩
    · refine ⟨Nat.le_trans (hsz_size _) (Nat.le_of_lt ?_), cell_live (ic.cell y b hy)⟩
      have := ic.above y b (mem_of_lookup hy)
      rw [heL] at this; exact this
  have S : Sub C (C.plus p) s₁.heap s₂.heap := .plus kn fun b hb => (hpp b hb).1
  have hru2 : RepL { (C.plus p) with ads := [] } s₂.heap args' us := RepL.free (C := C.plus p) (C' := { (C.plus p) with ads := [] }) rfl rfl _ _ (hno hnoa) (RepL.mono S _ _ hru)
  have X : Fra prog w mg mb hB n fd.scope F env (A.deeper env) C s₁.heap { (C.plus p) with ads := [] } ⟨args'.map some ++ List.replicate (fd.scope.names.length - args'.length) none, []⟩ s₂.heap := by
    refine ⟨⟨FS, ⟨base, by rw [hen]; exact E.kind, heg, heb, fun q => ?_, hk1.trans kn, fun y kk e => .inl (by rw [hkn]; exact e), fun y e => ?_, fun y i v e1 e2 => ?_, ⟨fun j vs e => by simp at e, fun b hb => ?_⟩⟩, R.deeper⟩, hk1, kn, fun b hb => ?_, fun b hb => .inl hb, rfl, ⟨_, ic.toInCall.ns⟩, ⟨.inr (by rw [← hp]; exact .inl rfl), heL ▸ hsz_size _⟩, fun y cc e => ?_, fun y z cc e1 e2 => ?_, fun j b e => by simp at e, fun j b vs e => by simp at e, fun j j' b e => by simp at e, rfl, E.nf, fun b hb => ?_⟩
    · rw [hec, hcode, hcdv q]
    · rcases e with e | e
      · have := cellsFrom_mem (k := s₁.heap.objs.size + 1) (acc := []) (mem_of_lookup e)
        rw [← hecs] at this
        exact Option.isSome_iff_exists.mp this
      · exact absurd e (E.nf y)
    · have hi : i < args'.length := by
        rcases Nat.lt_or_ge i args'.length with h | h
        · exact h
        · rw [List.getElem?_append_right (by simpa using h)] at e2
          simp [List.getElem?_replicate] at e2
      rw [List.getElem?_append_left (by simpa using hi), List.getElem?_map] at e2
      obtain ⟨v', ev', e3⟩ := Option.map_eq_some_iff.mp e2
      cases e3
      obtain ⟨u, eu, ru⟩ := hru2.at i v ev'
      refine ⟨u, ?_, ru⟩
      have hpi := E.slot i y e1 (by omega)
      have hmem : (y, u) ∈ params.zip us := by
        refine List.mem_of_getElem? (i := i) ?_
        rw [List.getElem?_zip_eq_some]
        exact ⟨hpi, eu⟩
      have hnd : ((params.zip us).map (·.1)).Nodup := by rw [hmap]; exact E.nd
      rcases E.at_ i y hpi with h1 | h1
      · exact .inl ⟨by rw [hkn]; exact h1, _, ic.toInCall.ns, bindL_at (by rw [hkn]; exact h1) hnd hmem⟩
      · have := cellsFrom_mem (k := s₁.heap.objs.size + 1) (acc := []) (mem_of_lookup h1)
        rw [← hecs] at this
        obtain ⟨cc, hcc⟩ := Option.isSome_iff_exists.mp this
        refine .inr ⟨.inl (by rw [hkn]; exact h1), cc, hcc, ?_⟩
        have h2 := ic.cell y cc hcc
        rwa [bindC_at (by rw [hkn, h1]; decide) hnd hmem] at h2
    · rcases hb with hb | hb
      · obtain ⟨o, nt, e⟩ := hX1 b hb
        exact ⟨o, nt, kn.nt _ _ nt e⟩
      · exact (hpp b hb).2
    · rcases hb with hb | hb
      · exact .inl hb
      · exact .inr (hpp b hb).1
    · have : p cc := by rw [← hp]; exact .inr ⟨y, e⟩
      exact ⟨.inr this, (hpp cc this).1, _, ic.cell y cc e⟩
    · exact name_of_addr ic.apart (mem_of_lookup e1) (mem_of_lookup e2)
    · obtain ⟨o, _, e⟩ := hX1 b hb
      exact hsz_lt e
  refine seqE (run env _ C _ _ s₂ (hno hnoa) X) fun fl s' ⟨b3, b2, b4⟩ => ⟨?_, b4⟩
  obtain ⟨h1, t1, g1, rfl, q1, q2⟩ := k1
  obtain ⟨h3, t3, g3, e3, q4⟩ := same2.trans b2
  subst e3
  exact ⟨h3, t3, g3, rfl, q1.trans b3, fun z => q4 (q2 z)⟩

theorem fn_entry {n N : Nat} {F : PF1} {x : Str} {a : Addr} {o : Obj} {fd : FuncData} {body : List Stmt} {mu : List Str} {k : Nat} {pss : PSs} {params : List Str} {c : Addr} {oc : Obj} {vs : Array Value} {t : Tok} {args args' : List PV} {r : PV}
    (base : Base mg mb hB) (hre : Prims prog w mg mb hB) (FS : FsOk prog w mg hB n F) (hm : mg x = some (.ref a)) (ho : hB.get? a = some o) (hd : o.data = .func fd) (hbody : fd.body = .stmts body) (hclo : fd.closure = []) (hglb : fd.globals = mainGlobals) (hblt : fd.builtins = builtinsNs)
    (hcode : fd.code = .ref c) (hoc : hB.get? c = some oc) (hocn : NoTab oc) (hocd : oc.data = .fields vs) (hq : vs[1]? = some (.str fd.qualname t)) (hcdv : (slotOf fd.scope "stuff").isSome = true → c = CT)
    (E : EntryOk fd.scope params) (hc : cSs (cS mu k fd.scope) body = some pss) (hlen : args'.length = params.length)
    (hbind : ∀ (C : RC) (vals : List Value) (A : Around) (s : Shared), (∀ b, C.X b → ∃ o, NoTab o ∧ s.heap.get? b = some o) → RepL C s.heap args vals → noOwnL args = true → wpAny (model prog w) A (bindArgs fd ⟨vals, []⟩) (fun binds s₁ => Keeps s s₁ ∧ ∃ us, binds = params.zip us ∧ RepL C s₁.heap args' us) noE s)
    (hno : noOwnL args = true → noOwnL args' = true)
    (hr : pfun N F fd.scope.names.length pss args' = some r) : FnOk prog w mg hB (n + 1) x args r := by
  have hrn : noOwn r = true := by
    unfold pfun at hr
    split at hr
    · split at hr
      · cases hr; assumption
      · cases hr
    · cases hr; rfl
    · cases hr
  refine fn_frame base FS hm ho hd hbody hclo hglb hblt hcode hoc hocn hocd hq hcdv E hlen hbind hno hrn fun env A' C h0 C1 s₂ _ X => ?_
  unfold pfun at hr
  split at hr
  · rename_i σ' v hx
    refine seqE (cSs_snd (cS_snd hre mu k) body hc X hx) fun fl s' res => ?_
    obtain ⟨C', b1, b2, b3, u, rfl, b4⟩ := res
    split at hr
    · cases hr
      exact ⟨b3.k0, b2, b4 hrn⟩
    · cases hr
  · rename_i σ' hx
    cases hr
    refine seqE (cSs_snd (cS_snd hre mu k) body hc X hx) fun fl s' res => ?_
    obtain ⟨C', b1, b2, b3, b4⟩ := res
    simp only [FlowOk] at b4
    subst b4
    exact ⟨b3.k0, b2, rep_none⟩
  · cases hr
end
end Mine

namespace Mine
open StrLaws
section
variable {prog : Program} {w : World} {A : Around} {s : Shared}

theorem sub_key_lookup : isSubtype (.type "KeyError") (.type "LookupError") = pure true := by rw [isSubtype_type]; kernel_rfl
theorem specmap_hit {f : Int → Option Value} {c : Nat} {x : Str} {t : Tok} (hm : s.heap.IntMap spA f) (hf : f c = some (.str x t)) :
    wpAny (model prog w) A (Builtin.Str.tableLookup (.ref spA) c) (fun m s' => Keeps s s' ∧ m = .text x) noE s := by
  unfold Builtin.Str.tableLookup
  refine wpAny_bind (wpAny_attempt (wpAny_bind (wpAny_mkInt (wpAny_getItem_intMap (s := { s with toks := s.toks + 1 }) hm hf ?_))))
  refine wpAny_bind (wpAny_pure ?_)
  refine wpAny_bind (wpAny_pure ?_)
  exact wpAny_pure ⟨kp, rfl⟩
theorem specmap_miss {f : Int → Option Value} {c : Nat} (hh : A.handled = none) (hm : s.heap.MapOf (intKind prog w) spA f) (hf : f c = none) :
    wpAny (model prog w) A (Builtin.Str.tableLookup (.ref spA) c) (fun m s' => Keeps s s' ∧ m = .keep) noE s := by
  have hk : (intKind prog w).is (c : Int) (.int c s.toks) = true := by
    have h1 : Value.isInt (c : Int) (.int c s.toks) = true := by simp [Value.isInt]
    exact h1
  unfold Builtin.Str.tableLookup
  refine wpAny_bind (wpAny_attempt (wpAny_bind (wpAny_mkInt (wpAny_getItem_missing_of (s := { s with toks := s.toks + 1 }) (knd := intKind prog w) (k := (c : Int)) hk (by decide) hh hm hf fun h' e hn => ?_))))
  obtain ⟨ob, tt, ho, hc, hd⟩ := hn.there
  have hT : ({ s with heap := h', toks := s.toks + 1 + 1 } : Shared).TypeIs (.ref e) "KeyError" := ⟨_, ho, hc⟩
  refine wpAny_bind (wpAny_isInstance hT sub_key_lookup ?_)
  simp only [if_true]
  exact wpAny_bind (wpAny_rule (wpAny_pure ⟨keepsOf hn.keeps, rfl⟩))

theorem spec_call {c : Nat} {t : Tok} {y : List Nat} (hlk : ∀ (A' : Around) (s' : Shared), A'.handled = none → Keeps s s' → wpAny (model prog w) A' (Builtin.Str.tableLookup (.ref spA) c) (fun m s2 => Keeps s' s2 ∧ ((y = [92, c] ∧ m = .text ⟨#[92, c]⟩) ∨ (y = [c] ∧ m = .keep))) noE s') (hh : A.handled = none) (hy : y.length ≤ 2) {C : RC} :
    wpAny (model prog w) A (call (.builtin "str.translate") [.str ⟨#[c]⟩ t, .ref spA]) (Post C s (.str y)) noE s := by
  refine wpAny_call_entry PySem.F.slot_str_translate (typeIs_str _ _ _) PySem.F.entry_str_translate ?_ (PySem.F.args_str_translate_2 _ _)
  unfold Builtin.«str.translate»
  refine wpAny_bind (wpAny_of_eq (a := (Value.str ⟨#[c]⟩ t, (⟨#[c]⟩ : Str), Value.ref spA)) (by rfl) ?_)
  dsimp only
  rw [if_neg (show ¬ (((⟨#[c]⟩ : Str).length == 0) = true) from fun h => by simp [Str.length] at h)]
  have h0 : Builtin.Str.tooLong 0 = false := by simp [Builtin.Str.tooLong]
  have tail : ∀ {s1 : Shared} {pieces : List Str} {total : Nat}, Keeps s s1 → Builtin.Str.tooLong total = false → (List.foldl (fun acc (p : Str) => acc ++ p.cps) #[] pieces.reverse).toList = y →
      wpAny (model prog w) A.in1 (if Builtin.Str.tooLong total = true then (do unsupported "str.translate:memory"; retStr { cps := List.foldl (fun acc (p : Str) => acc ++ p.cps) #[] pieces.reverse }) else retStr { cps := List.foldl (fun acc (p : Str) => acc ++ p.cps) #[] pieces.reverse })
        (fun fin s' => ∃ v, fin = Fin.done (Flow.ret v) ∧ Post C s (PV.str y) v s') noE s1 := by
    intro s1 pieces total k1 h1 h2
    rw [h1]
    simp only [Bool.false_eq_true, if_false]
    unfold retStr
    refine wpAny_bind (wpAny_mkStr (wpAny_pure ⟨_, rfl, ktrans k1 kp, rep_str' h2⟩) ?_)
    rw [str_len, h2, sizeLine_eq]; omega
  simp only [List.forIn_toArray, List.forIn_cons, List.forIn_nil]
  refine wpAny_bind (wpAny_bind ?_)
  simp only [h0, Bool.false_eq_true, if_false]
  cases hf : (#[c].all fun x => decide (x < 128)) with
  | true =>
    simp only [if_true, List.lookup_nil]
    refine wpAny_bind (seqE (hlk _ s hh (krefl s)) fun m s1 ⟨k1, hm⟩ => ?_)
    rcases hm with ⟨rfl, rfl⟩ | ⟨rfl, rfl⟩
    · have hl : ((⟨#[92, c]⟩ : Str).length == 1) = false := by simp [Str.length]
      simp only [hl, Bool.false_and, Bool.false_eq_true, if_false]
      refine wpAny_bind (wpAny_pure ?_)
      refine wpAny_bind (wpAny_rule (wpAny_bind (seqE (hlk _ s1 hh k1) fun m s2 ⟨k2, hm⟩ => ?_)))
      rcases hm with ⟨_, rfl⟩ | ⟨h, _⟩
      · exact wpAny_pure (wpAny_pure (tail (ktrans k1 k2) (by simp [Str.length, Builtin.Str.tooLong, sizeLine_eq]) (by simp)))
      · simp at h
    · refine wpAny_bind (wpAny_pure ?_)
      exact wpAny_pure (wpAny_pure (tail k1 (by simp [Builtin.Str.tooLong, sizeLine_eq]) (by simp)))
  | false =>
    simp only [Bool.false_eq_true, if_false]
    refine wpAny_bind (seqE (hlk _ s hh (krefl s)) fun m s1 ⟨k1, hm⟩ => ?_)
    rcases hm with ⟨rfl, rfl⟩ | ⟨rfl, rfl⟩
    · exact wpAny_pure (wpAny_pure (tail k1 (by simp [Str.length, Builtin.Str.tooLong, sizeLine_eq]) (by simp)))
    · exact wpAny_pure (wpAny_pure (tail k1 (by simp [Builtin.Str.tooLong, sizeLine_eq]) (by simp)))

theorem spec_prim {hB : Heap} {f : Int → Option Value} (hm : hB.MapOf (intKind prog w) spA f) (hf : ∀ c : Nat, if specials.contains c then ∃ t, f c = some (.str ⟨#[92, c]⟩ t) else f c = none) : SpecOk prog w hB := by
  intro n C A s x t c hk R hx
  have hx' : x = ⟨#[c]⟩ := by
    cases x with
    | mk a => congr 1; exact Array.ext' (by simpa using hx)
  subst hx'
  have hm' : ∀ s' : Shared, Keeps s s' → s'.heap.MapOf (intKind prog w) spA f := fun s' k => by
    obtain ⟨o, es, ep, e, hc, hd, r⟩ := hm
    exact ⟨o, es, ep, (hk.trans (kheap k)).nt _ _ (noTab_data (by rw [hd]; nofun)) e, hc, hd, r⟩
  refine spec_call (y := pesc c) (fun A' s' hh k => ?_) R.handled ?_
  · have h1 := hf c
    unfold pesc
    split at h1
    · rename_i hc
      obtain ⟨tt, h1⟩ := h1
      exact seqE (specmap_hit (hm' s' k).intMap h1) fun m s2 ⟨k2, e⟩ => ⟨k2, .inl ⟨by rw [if_pos hc], e⟩⟩
    · rename_i hc
      exact seqE (specmap_miss hh (hm' s' k) h1) fun m s2 ⟨k2, e⟩ => ⟨k2, .inr ⟨by rw [if_neg hc], e⟩⟩
  · unfold pesc; split <;> simp
end
end Mine

namespace Mine
theorem lookup_object_new : typeLookup (.type "object") "__new__" = pure (some (.builtin "object.__new__")) := by rw [typeLookup_type, builtinLookup_eq_fast]; kernel_rfl
theorem slot_object_init : Slot "object" "__init__" "object.__init__" :=
  .of (owner := "object") (n := "__init__") (by rw [typeLookup_type, builtinLookup_eq_fast]; kernel_rfl) (by decide +kernel) (by decide +kernel) (by decide +kernel)
    (by first | exact .inl (by decide +kernel) | exact .inr (by decide +kernel)) (by rw [isSubtype_type]; kernel_rfl)
theorem ctc : checkTypeCall "object" ⟨[], []⟩ = pure () := by kernel_rfl
theorem cbc : checkBuiltinCall "object.__new__" ⟨[.type "object"], []⟩ = pure () := by kernel_rfl
theorem ent_on : entryFor table "object.__new__" = some Builtin.«object.__new__» := entryFor_of_tree (by kernel_rfl)
theorem called_object : TypeCalled "object" "object.__new__" "object.__init__" :=
  ⟨by decide +kernel, by decide +kernel, ⟨_, _, PySem.F.mro_object⟩, madeBy_type PySem.F.mro_object lookup_object_new (by decide +kernel), by decide +kernel, by rw [isSubtype_type]; kernel_rfl, slot_object_init⟩
section
variable {prog : Program} {w : World} {A : Around} {E : Value → Shared → Prop} {s : Shared}
theorem new_object {Q : Fin → Shared → Prop} (h : Q (.done (.ret (.ref s.heap.objs.size))) { s with heap := s.heap.push { cls := .type "object", data := .plain } }) :
    wpAny (model prog w) A (Builtin.«object.__new__» ⟨[.type "object"], []⟩) Q E s := by
  obtain ⟨hh, g, d, tk, os⟩ := s
  have hmd := called_object.made
  repeat (any_goals (first | assumption | wp_step))

theorem call_object {Q : Value → Shared → Prop} (h : Q (.ref s.heap.objs.size) { s with heap := s.heap.push { cls := .type "object", data := .plain } }) : wpAny (model prog w) A (call (.type "object") []) Q E s := by
  refine callType_meets (Q₁ := fun obj s₁ => obj = .ref s.heap.objs.size ∧ s₁ = { s with heap := s.heap.push { cls := .type "object", data := .plain } }) (S := fun _ R s => R (.ok (.ret (.ref s.heap.objs.size))) { s with heap := s.heap.push { cls := .type "object", data := .plain } })
    called_object ctc cbc ent_on PySem.F.entry_object_init (.of_wp fun prog w A R s hs => new_object ⟨_, rfl, hs⟩) ⟨rfl, rfl⟩ fun obj s₁ h₁ => ?_
  obtain ⟨rfl, rfl⟩ := h₁
  exact ⟨⟨_, Heap.get?_push_size _ rfl, rfl⟩, PySem.F.args_object_init_1 _, _, .of_wp fun prog w A R s hs => wpAny_pure ⟨_, rfl, hs⟩, ⟨rfl, h⟩⟩
end
end Mine

namespace Mine
open StrLaws

mutual
def noSt : PV → Bool
  | .star => false
  | .tup vs | .list vs => noStL vs
  | _ => true
def noStL : List PV → Bool
  | [] => true
  | p :: ps => noSt p && noStL ps
end
mutual
theorem Rep.restar {C : RC} {a : Addr} {h : Heap} : ∀ (p : PV) (v : Value), noSt p = true → Rep C h p v → Rep { C with st := a } h p v
  | .none, v, _, r => by simpa [Rep] using r
  | .bool b, v, _, r => by simpa [Rep] using r
  | .int i, v, _, r => by simpa [Rep] using r
  | .str l, v, _, r => by simpa [Rep] using r
  | .tup vs, v, n, r => by
    simp only [Rep, noSt] at r n ⊢
    obtain ⟨b, xs, rfl, hna, ht, hl⟩ := r
    exact ⟨b, xs, rfl, hna, ht, RepL.restar vs _ n hl⟩
  | .list vs, v, n, r => by
    simp only [Rep, noSt] at r n ⊢
    obtain ⟨b, xs, rfl, hna, ht, hl⟩ := r
    exact ⟨b, xs, rfl, hna, ht, RepL.restar vs _ n hl⟩
  | .star, v, n, r => by simp [noSt] at n
  | .own k, v, n, r => by simpa [Rep] using r
  | .app k, v, n, r => by simpa [Rep] using r
theorem RepL.restar {C : RC} {a : Addr} {h : Heap} : ∀ (p : List PV) (v : List Value), noStL p = true → RepL C h p v → RepL { C with st := a } h p v
  | [], v, _, r => by simpa [RepL] using r
  | p :: ps, v, n, r => by
    simp only [RepL, noStL, Bool.and_eq_true] at r n ⊢
    obtain ⟨w, r', rfl, h1, h2⟩ := r
    exact ⟨w, r', rfl, Rep.restar p w n.1 h1, RepL.restar ps r' n.2 h2⟩
end
section
variable {prog : Program} {w : World} {mg mb : Str → Option Value} {hB : Heap} {n : Nat} {sc : Scope} {F : PF1} {env : Env} {A : Around} {C0 : RC} {h0 : Heap}
theorem Fra.restar {C : RC} {G : Slots} {h : Heap} {a : Addr} (X : Fra prog w mg mb hB n sc F env A C0 h0 C ⟨G, []⟩ h) (hG : ∀ (i : Nat) v, G[i]? = some (some v) → noSt v = true) :
    Fra prog w mg mb hB n sc F env A { C0 with st := a } h0 { C with st := a } ⟨G, []⟩ h := by
  have I := X.cx.I
  exact ⟨⟨X.cx.FS, ⟨I.base, I.kind, I.glb, I.blt, I.cdv, I.top, I.knd, I.cel, fun x i v e1 e2 => let ⟨u, S, r⟩ := I.slots x i v e1 e2; ⟨u, S, Rep.restar v u (hG i v e2) r⟩, ⟨fun k vs e => by simp at e, I.W.lt⟩⟩, X.cx.R⟩, X.b0, X.k0, X.x0, X.xw, rfl, X.ns, X.xl, X.cl, X.ci, X.ad, X.ax, X.ai, X.al, X.nf, X.x00⟩

theorem star_ok {C : RC} {G : Slots} {s : Shared} {x : Str} {i : Nat} {px fp p pos : Pos} (X : Fra prog w mg mb hB n sc F env A C0 h0 C ⟨G, []⟩ s.heap) (hG : ∀ (i : Nat) v, G[i]? = some (some v) → noSt v = true) (hi : slotOf sc x = some i) (hg : isGl sc "object" = true) :
    wpAny (model prog w) A (exec (.Assign [.Name x px] (.Call (.Name "object" fp) [] [] p) pos) env) (fun fl s' => fl = .next ∧ ∃ a, Same s s' ∧ Fra prog w mg mb hB n sc F env A { C0 with st := a } h0 { C with st := a } ⟨G.set i (some .star), []⟩ s'.heap) noE s := by
  have hb := X.cx.I.base.bis ("object", .type "object") (by decide)
  refine wpAny_Assign_Name (Call_Name (backTo_of (es := []) rfl) (glob_load (v := .type "object") X.cx hg (by decide) (.inr hb) ?_))
  refine PyProof.Rows.callWith_type (T := "object") any_of (evalArgs_of (es := []) (Calls.spliced_nil (call_object ?_)))
  have k1 : Keeps s { s with heap := s.heap.push { cls := .type "object", data := .plain } } := ⟨_, s.toks, s.gens, rfl, .push _ _, id⟩
  have Y := (X.keep (kheap k1)).restar (a := s.heap.objs.size) hG
  refine store_ok (s := { s with heap := s.heap.push { cls := .type "object", data := .plain } }) Y hi (v := .star) (by simp [Rep]) fun h' tk hk Z => ?_
  exact ⟨rfl, s.heap.objs.size, (Same.of k1).trans .heap, Z⟩
end
end Mine

namespace Mine
theorem slot_re_sub : Slot "re.Pattern" "sub" "re.Pattern.sub" :=
  .of (owner := "re.Pattern") (n := "sub") (by rw [typeLookup_type, builtinLookup_eq_fast]; kernel_rfl) (by decide +kernel) (by decide +kernel) (by decide +kernel)
    (by first | exact .inl (by decide +kernel) | exact .inr (by decide +kernel)) (by rw [isSubtype_type]; kernel_rfl)
theorem type_re_sub : typeOf (.builtin "re.Pattern.sub") = pure (.type "method_descriptor") := by show builtinType _ = _; rw [builtinType_eq_fast]; kernel_rfl
theorem entry_re_sub : entryFor table "re.Pattern.sub" = some Builtin.«re.Pattern.sub» := entryFor_of_tree (by kernel_rfl)
theorem entry_re_loop : entryFor table "re.Pattern.sub.loop" = some Builtin.«re.Pattern.sub.loop» := entryFor_of_tree (by kernel_rfl)
theorem plainAttrs_re : PlainAttrs "re.Pattern" :=
  ⟨⟨"object.__getattribute__", by rw [typeLookup_type, builtinLookup_eq_fast]; kernel_rfl, by decide +kernel⟩, by rw [typeLookup_type, builtinLookup_eq_fast]; kernel_rfl⟩
end Mine

namespace Mine
open StrLaws
open PySem.Builtin.Re

theorem re_bit : ∀ c : Nat, c < 256 → (c == 38 || c == 126 || c == 124) = false → (reCode.getD (5 + (1 + c / 32)) 0).testBit (c % 32) = false := by decide +kernel
theorem inSet_no (c : Nat) (h : (c == 38 || c == 126 || c == 124) = false) (fuel : Nat) (seen : Sre.Seen) : ∃ s', Sre.inSet reCode c (fuel + 2) 5 true seen = .ok (false, s') := by
  have hf : (decide (c < 256) && (reCode.getD (5 + (1 + c / 32)) 0).testBit (c % 32)) = false := by
    by_cases hc : c < 256
    · rw [re_bit c hc h]; simp
    · simp [hc]
  refine ⟨(seen.add 9).add 0, ?_⟩
  unfold Sre.inSet
  dsimp only
  rw [show Sre.ops[reCode.getD (5 + 0) 0]? = some .CHARSET from rfl]
  simp only [hf, Bool.false_eq_true, if_false]
  unfold Sre.inSet
  dsimp only
  rw [show Sre.ops[reCode.getD (5 + 9 + 0) 0]? = some .FAILURE from rfl]
  rfl

theorem admitted_no (m : Sre.M) (hc : m.code = reCode) (ht : ∀ s, (fun c => c == 38 || c == 126 || c == 124) (m.text.getD s 0) = false) : ∀ (fuel s : Nat) (seen : Sre.Seen), ∃ seen', Sre.M.admitted m fuel s seen = .ok (none, seen')
  | 0, s, seen => ⟨seen, rfl⟩
  | fuel + 1, s, seen => by
    unfold Sre.M.admitted
    split
    · exact ⟨seen, rfl⟩
    · rw [hc]
      obtain ⟨s', e⟩ := inSet_no (m.text.getD s 0) (ht s) 30 seen
      rw [show reCode.size = 30 + 2 from rfl, e]
      exact admitted_no m hc ht fuel (s + 1) s'

theorem run_failed {m : Sre.M} (ho : m.outcome = none) (ha : m.answer = some false) (hf : m.frames = []) : (m.runFor reTurnSteps).outcome = some .failed := by
  unfold reTurnSteps
  rw [Sre.M.runFor, ho]
  have e : m.step = { m with outcome := some .failed } := by
    unfold Sre.M.step
    rw [ho, ha, hf]; rfl
  simp only [Option.isSome_none, Bool.false_eq_true, if_false, e]
  rfl

theorem attempt_no {m : Sre.M} (hc : m.code = reCode) (ht : ∀ s, (fun c => c == 38 || c == 126 || c == 124) (m.text.getD s 0) = false) (hs : m.hasFirstSet = true) (ho : m.outcome = none) (hf : m.frames = []) (s : Nat) (first : Bool) :
    ((m.attemptFrom s first).runFor reTurnSteps).outcome = some .failed := by
  unfold Sre.M.attemptFrom
  rw [hs]
  obtain ⟨seen', e⟩ := admitted_no m hc ht (m.lim + 1 - s) s m.seen
  rw [e]
  exact run_failed ho rfl hf

theorem re_none {text : Array Nat} {g : Nat} (ht : ∀ s : Nat, (fun c => c == 38 || c == 126 || c == 124) (text.getD s 0) = false) : ((Sre.forSearch reCode text g 0 text.size false).runFor reTurnSteps).outcome = some .failed := by
  unfold Sre.forSearch
  rw [show Sre.header reCode = (1, 15) from rfl]
  dsimp only
  split
  · exact run_failed rfl rfl rfl
  · exact attempt_no rfl ht rfl rfl rfl _ _

section
variable {prog : Program} {w : World} {A : Around} {s : Shared} {E : Value → Shared → Prop}
theorem rules_ok {M : Model} {l : List Nat} {p : Nat → Bool} {f : Nat → String} {Q : PUnit → Shared → Prop} (h : Q ⟨⟩ s) :
    wpAny M A (forIn l PUnit.unit fun i _ => (if p i = true then (do rule (f i); pure (ForInStep.yield PUnit.unit)) else pure (ForInStep.yield PUnit.unit) : Sem (ForInStep PUnit))) Q E s := by
  induction l with
  | nil => exact wpAny_pure h
  | cons i l ih =>
    rw [List.forIn_cons]
    refine wpAny_bind ?_
    by_cases hp : p i = true
    · simp only [hp, if_true]
      exact wpAny_bind (wpAny_rule (wpAny_pure ih))
    · simp only [hp]
      exact wpAny_pure ih

theorem run_none {M : Model} {m : Sre.M} {Q : Option Sre.M → Shared → Prop} (ho : (m.runFor reTurnSteps).outcome = some .failed) (h : Q none s) : wpAny M A (reRunToEnd m) Q E s := by
  unfold reRunToEnd
  rw [show (2 : Nat) ^ 64 = 18446744073709551615 + 1 from rfl]
  unfold reDrive
  simp only [ho, Option.isSome_some, if_true]
  refine wpAny_bind (wpAny_pure ?_)
  refine wpAny_bind (rules_ok ?_)
  rw [ho]
  exact wpAny_pure h

theorem target_ok {M : Model} {x : Str} {t : Tok} (K : ReOk s.heap) {Q : ReTarget → Shared → Prop} (h : ∀ g, Q { pattern := .ref reA, string := .str x t, code := reCode, text := x.cps, kind := 0, groups := g, pos := 0, lim := x.cps.size } s) :
    wpAny M A (reWholeTarget (.ref reA) (.str x t)) Q E s := by
  obtain ⟨fs, e, e6, e5⟩ := K.pat
  obtain ⟨xs, o, n, ec, hd, e7⟩ := K.code
  unfold reWholeTarget
  refine wpAny_bind (wpAny_fieldsOf e rfl ?_)
  refine wpAny_bind (m := reTextOf _) (wpAny_of_eq (a := (x.cps, 0)) (by rfl) ?_)
  simp only [e6]
  refine wpAny_bind (wpAny_of_eq (a := ()) (by rfl) ?_)
  rw [e5]
  unfold reRawItems
  refine wpAny_bind (wpAny_bind (wpAny_seqItems ec hd (wpAny_pure ?_)))
  simp only [Option.getD_some, e7]
  exact wpAny_pure (h _)

theorem subOk_at {x : Str} (hx : subOk x.cps.toList = true) (i : Nat) : (fun c => c == 38 || c == 126 || c == 124) (x.cps.getD i 0) = false := by
  dsimp only
  unfold subOk at hx
  rw [Bool.and_eq_true, List.all_eq_true] at hx
  rw [Array.getD_eq_getD_getElem?]
  cases e : x.cps[i]? with
  | none => rfl
  | some c =>
    have hm : c ∈ x.cps.toList := by
      rw [Array.mem_toList_iff]; exact Array.mem_of_getElem? e
    simpa using hx.2 c hm

theorem sub_loop {x : Str} {t : Tok} {f pl : Addr} {R : Value → Shared → Prop} (K : ReOk s.heap) (hx : subOk x.cps.toList = true) (hpl : s.heap.get? pl = some { cls := .type "list", data := .seq #[] 0 })
    (h : ∀ h' tk (y : Str) t', y.cps.toList = x.cps.toList → (∀ b o, b ≠ pl → s.heap.get? b = some o → h'.get? b = some o) → R (.str y t') { s with heap := h', toks := tk }) :
    wpAny (model prog w) A (Builtin.«re.Pattern.sub.loop» ⟨[.ref reA, .str x t, .ref f, rawInt 1, rawInt 0, rawInt 0, rawInt 0, rawInt 0, .bool false, .ref pl, .bool false], []⟩)
      (fun fin s' => ∃ v, fin = .done (.ret v) ∧ R v s') E s := by
  have hL := lim_size
  have hlen : x.cps.size ≤ LIM := by
    unfold subOk at hx
    rw [Bool.and_eq_true, decide_eq_true_eq] at hx
    simpa using hx.1
  unfold Builtin.«re.Pattern.sub.loop» rawInt
  dsimp only
  refine wpAny_bind (target_ok K fun g => ?_)
  rw [if_neg (show ¬ (((1 : Int) == 0) = true) by decide)]
  dsimp only
  rw [if_neg (show ¬ ((((0 : Int) != 0) && decide ((0 : Int) ≥ 0)) = true) by decide)]
  refine wpAny_bind ?_
  unfold reNextFound
  refine run_none (re_none (subOk_at hx)) ?_
  dsimp only
  have mk : ∀ {b e : Nat} {s : Shared} {Q : Value → Shared → Prop}, Q (.str ⟨x.cps.extract b e⟩ s.toks) { s with toks := s.toks + 1 } → wpAny (model prog w) A (reSlice x.cps 0 b e) Q E s := fun {b e s Q} hq => by
    unfold reSlice
    rw [if_pos (by rfl)]
    refine wpAny_mkStr hq ?_
    show (x.cps.extract b e).size ≤ sizeLine
    rw [Array.size_extract]; omega
  by_cases hz : 0 < x.cps.size
  · rw [if_pos (by simpa using hz)]
    refine wpAny_bind (mk ?_)
    refine wpAny_bind (wpAny_updateSeq (s := { s with toks := s.toks + 1 }) hpl rfl ?_ (by rw [sizeLine_eq]; decide) (by rw [sizeLine_eq]; simp))
    obtain ⟨n, e1⟩ : ∃ n, (s.heap.update pl (Obj.mapSeq fun a => a.push (.str ⟨x.cps.extract (0 : Int).toNat x.cps.size⟩ s.toks))).get? pl = some { cls := .type "list", data := .seq #[.str ⟨x.cps.extract (0 : Int).toNat x.cps.size⟩ s.toks] n } := ⟨_, Heap.get?_update_self _ hpl rfl⟩
    refine wpAny_bind (mk ?_)
    refine wpAny_bind (wpAny_seqItems e1 rfl ?_)
    rw [if_neg (by simp)]
    refine wpAny_bind ?_
    have hl : (s.heap.update pl (Obj.mapSeq fun a => a.push (.str ⟨x.cps.extract (0 : Int).toNat x.cps.size⟩ s.toks))).IsList pl (strValues [((⟨x.cps.extract (0 : Int).toNat x.cps.size⟩ : Str), s.toks)]).toArray := ⟨_, e1, rfl, _, rfl⟩
    refine SC.join hl rfl ?_ fun t' k => ?_
    · unfold JoinOk
      rw [StrLaws.joinTotal]
      have e0 : (⟨x.cps.extract 0 0⟩ : Str).length = 0 := by simp [Str.length]
      have e2 : (⟨x.cps.extract (0 : Int).toNat x.cps.size⟩ : Str).length = x.cps.size := by simp [Str.length]
      simp only [List.map_cons, List.map_nil, List.sum_cons, List.sum_nil, List.length_cons, List.length_nil, e0, e2]
      simp only [Builtin.Str.tooLong, Bool.not_eq_true', decide_eq_false_iff_not]
      omega
    · rw [if_neg (by decide)]
      refine wpAny_pure ⟨_, rfl, h _ _ _ _ ?_ fun b o hb e => ?_⟩
      · unfold Txt.join
        rw [StrLaws.glued_eq_join, join_eq]
        simp [pjoin]
      · exact (Heap.get?_update_ne _ _ _ _ hb).trans e
  · rw [if_neg (by simpa using hz)]
    refine wpAny_bind (mk ?_)
    refine wpAny_bind (wpAny_seqItems (s := { s with toks := s.toks + 1 }) hpl rfl ?_)
    rw [if_pos (by rfl)]
    refine wpAny_bind (wpAny_pure ?_)
    rw [if_neg (by decide)]
    refine wpAny_pure ⟨_, rfl, h s.heap _ _ _ ?_ fun b o _ e => e⟩
    have : x.cps.toList = [] := by
      have : x.cps.size = 0 := by omega
      simpa using this
    rw [this]; simp
end
end Mine

namespace Mine
open StrLaws
open PySem.Builtin.Re

theorem fn_call_slot : ∃ r, typeLookup (.type "function") "__call__" = pure (some r) := ⟨.builtin "function.__call__", by rw [typeLookup_type, builtinLookup_eq_fast]; kernel_rfl⟩
theorem str_bytearray : isSubtype (.type "str") (.type "bytearray") = pure false := by rw [isSubtype_type]; kernel_rfl
theorem args_re_sub (a b c : Value) : argsOk "re.Pattern.sub" ⟨[a, b, c], []⟩ := by
  unfold argsOk; kernel_rfl
theorem plain_re_loop : plainId "re.Pattern.sub.loop" = true := by decide +kernel
theorem named_re (a b : Value) : reNamed "re.Pattern.sub" "sub" ["repl", "string", "count"] 2 [a, b] [] = pure [some a, some b, none] := by rfl
section
variable {prog : Program} {w : World} {A : Around} {s : Shared} {E : Value → Shared → Prop}
theorem sub_call {x : Str} {t : Tok} {f : Addr} {Q : Value → Shared → Prop} (K : ReOk s.heap) (hx : subOk x.cps.toList = true) (hf : s.TypeIs (.ref f) "function")
    (h : ∀ h' tk (y : Str) t', y.cps.toList = x.cps.toList → (∀ b o, s.heap.get? b = some o → h'.get? b = some o) → Q (.str y t') { s with heap := h', toks := tk }) :
    wpAny (model prog w) A (call (.builtin "re.Pattern.sub") [.ref reA, .ref f, .str x t]) Q E s := by
  have hT : s.TypeIs (.ref reA) "re.Pattern" := let ⟨fs, e, _⟩ := K.pat; ⟨_, e, rfl⟩
  refine wpAny_call (codeAny_call_builtin slot_re_sub.plain entry_re_sub (slot_re_sub.check _ _ _ _ _ _ _ _ hT (args_re_sub _ _ _) ?_))
  unfold Builtin.«re.Pattern.sub» reSubstitute
  dsimp only
  rw [named_re]
  refine wpAny_bind (wpAny_pure ?_)
  dsimp only
  refine wpAny_bind (wpAny_pure ?_)
  obtain ⟨r, hr⟩ := fn_call_slot
  refine wpAny_bind (wpAny_specialOf hf hr ?_)
  simp only [Option.isSome_some, if_true]
  refine wpAny_bind (wpAny_pure ?_)
  refine wpAny_bind (wpAny_pure ?_)
  dsimp only
  refine wpAny_bind (wpAny_holding (target_ok K fun g => ?_))
  rw [if_pos (by rfl)]
  unfold reNotHeld
  refine wpAny_bind (wpAny_bind (wpAny_isInstance_val rfl str_bytearray ?_))
  rw [if_neg (by decide)]
  refine wpAny_pure ?_
  refine wpAny_bind (wpAny_newList ?_)
  refine wpAny_pure ⟨plainId_quiet plain_re_loop _, codeAny_builtin entry_re_loop ?_⟩
  refine wpAny_mono (sub_loop (R := Q) (s := { s with heap := s.heap.push { cls := .type "list", data := .seq #[] } }) (x := x) (t := t) (f := f) (pl := s.heap.objs.size) (E := E) (K.keep (KN.push _ _)) hx (Heap.get?_push_size _ rfl) fun h' tk y t' e hk => ?_) (fun fin s' h' => ?_) fun _ _ e => e
  · exact h h' tk y t' e fun b o e => hk b o (Nat.ne_of_lt (Heap.lt_size e)) (Heap.get?_push_of_some _ e)
  · obtain ⟨v, rfl, hv⟩ := h'
    exact hv
end
end Mine

namespace Mine
open StrLaws

theorem closure_none {sc : Scope} {env : Env} (h : (sc.names.all fun p => p.2 != .free) = true) : closureFor sc env = pure [] := by
  unfold closureFor
  have : ∀ (l : List (Str × NameKind)) (cs : List (Str × Addr)), (l.all fun p => p.2 != .free) = true →
      (forIn l cs fun x cs => (match x with | (name, kind) => if (kind == NameKind.free) = true then do let __do_lift ← cellOf env name; pure (ForInStep.yield ((name, __do_lift) :: cs)) else pure (ForInStep.yield cs) : Sem (ForInStep (List (Str × Addr))))) = pure cs := by
    intro l
    induction l with
    | nil => intro cs _; rfl
    | cons p l ih =>
      intro cs h
      rw [List.all_cons, Bool.and_eq_true] at h
      obtain ⟨nm, kd⟩ := p
      rw [List.forIn_cons]
      have hk : (kd == NameKind.free) = false := by simpa using h.1
      simp only [hk, Bool.false_eq_true, if_false, pure_bind]
      exact ih cs h.2
  simp only [this _ _ h, pure_bind]

theorem CodeHd.kn {h h' : Heap} {c P : Addr} (x : CodeHd h c P) (k : KN h h') : CodeHd h' c P :=
  let ⟨o, vs, file, tf, flags, tg, inF, text, tt, e, hc, r⟩ := x; ⟨o, vs, file, tf, flags, tg, inF, text, tt, k.nt _ _ (noTab_cls (by rw [hc]; nofun)) e, hc, r⟩
theorem BuiltinsAt.kn {h h' : Heap} {mg : Str → Option Value} {P : Addr} (x : h.BuiltinsAt mg P) (k : KN h h') : h'.BuiltinsAt mg P :=
  let ⟨bm, o, h1, h2, h3, h4, h5, h6, r⟩ := x; ⟨bm, o, h1, h2, h3, h4, k.nt _ _ (noTab_cls (by rw [h6]; nofun)) h5, h6, r⟩

theorem KN.table {h h' : Heap} {ps : Array Value} {a b : Int} {c : Value} (hx : Heap.ExtBut PT h h') (hP : h.get? PT = some (tabObj ps)) (ht : TriplesOk ps.toList) (hP' : h'.get? PT = some (tabObj (ps ++ #[rawInt a, rawInt b, c]))) : KN h h' := by
  refine ⟨fun b' o hn e => ?_, fun b' o hb e => hx b' o hb e, fun qs e => ?_⟩
  · by_cases hb : b' = PT
    · subst hb
      rw [hP] at e; cases e
      exact absurd rfl (hn ps)
    · exact hx b' o hb e
  · rw [hP] at e
    cases e
    refine ⟨_, hP', fun _ => ?_⟩
    rw [Array.toList_append]
    exact TriplesOk_snoc a b c _ ht

section
variable {prog : Program} {w : World} {mg mb : Str → Option Value} {hB : Heap} {n : Nat} {sc : Scope}
theorem lambda_ok {F : PF1} {C : RC} {G : Slots} {O : Owns} {env : Env} {A : Around} {s : Shared} {ps : Arguments} {body : Expr} {lsc : Scope} {lp : Pos} (K : Cx prog w mg mb hB n sc F C G O env A s.heap) (hst : (slotOf sc "stuff").isSome = true) (hl : lamOk ps lsc = true) :
    wpAny (model prog w) A (eval (.Lambda ps body lsc lp) env) (fun v s' => Keeps s s' ∧ ∃ f, v = .ref f ∧ ∃ o, s'.heap.get? f = some o ∧ o.cls = .type "function") noE s := by
  simp only [lamOk, Bool.and_eq_true, List.isEmpty_iff] at hl
  have hdef : defaultsOf ps env = ([], []) := by
    obtain ⟨a1, a2, a3, a4, a5, a6, a7⟩ := ps
    obtain ⟨⟨h1, h2⟩, _⟩ := hl
    dsimp only at h1 h2
    subst h1; subst h2; rfl
  have hcl : closureFor lsc env = pure [] := closure_none hl.2
  have I := K.I
  have hcode := I.cdv hst
  have hg := I.top.ns I.base.nsg
  have hC := CodeHd.kn I.base.cod I.top
  have hb := BuiltinsAt.kn I.base.bat I.top
  obtain ⟨ps0, e0, t0⟩ := I.base.pt
  obtain ⟨more, hP, ht⟩ := I.top.tab _ e0
  have ht := ht t0
  have hgP : mainGlobals ≠ PT := by
    intro q
    obtain ⟨o, es, ep, e, hd, _⟩ := hg
    rw [q, hP] at e; cases e; cases hd
  refine kla_eval hdef ?_
  cases hf : codeAmong lp (ps0 ++ more).toList with
  | none =>
    refine kla_makeFunction hcl I.glb hg hcode hC hP ht hf hgP hb fun c' ctv h' tk hx hge hlt hrec htb => ?_
    refine ⟨⟨_, tk, s.gens, rfl, (KN.table hx hP ht htb).trans (KN.push _ _), id⟩, _, rfl, _, Heap.get?_push_size _ rfl, rfl⟩
  | some cv =>
    refine kla_makeFunctionHit hcl I.glb hg hcode hC hP ht hf hb fun ctv h' tk hk hsz => ?_
    refine ⟨⟨_, tk, s.gens, rfl, (KN.of hk).trans (KN.push _ _), id⟩, _, rfl, _, Heap.get?_push_size _ rfl, rfl⟩

theorem resub_prim : ResubOk prog w mg mb hB := by
  intro n sc ps body e lsc rp ap lp p pe hg hst hl hline hn he F C G O env A s pv K h
  simp only [ev] at h
  obtain ⟨v, e1, h⟩ := Option.bind_eq_some_iff.mp h
  obtain ⟨l, rfl, hx, rfl⟩ := K.FS.sub _ _ h
  have hn2 : NoStars [.Lambda ps body lsc lp, e] = true := by
    cases e <;> first | rfl | (simp [NoStars] at hn; done)
  refine wpAny_Call_method_lateS (base_plain rfl) (by rw [backTo_of hn2]; rfl) hline (glob_load (v := .ref reA) K hg (by decide) (.inl K.I.base.re) ?_)
  have K0 := ReOk.keep K.I.base.reo K.I.top
  obtain ⟨fs, e2, _⟩ := K0.pat
  refine ⟨"re.Pattern", _, plainAttrs_re, slot_re_sub, type_re_sub, ⟨_, e2, rfl⟩, (fun a q => by cases q; exact ⟨_, e2, rfl⟩), ?_⟩
  rw [backTo_of hn2]
  refine Calls.callWith_builtin any_of (evalArgs_of (Calls.spliced_cons (seqE (lambda_ok K hst hl) fun u s1 ⟨k1, f, hu, o, ef, hf⟩ => ?_)))
  subst hu
  refine Calls.spliced_cons (seqE (he (K.keep k1) e1) fun u s2 ⟨k2, r2⟩ => Calls.spliced_nil ?_)
  simp only [Rep] at r2
  obtain ⟨x, t, rfl, rfl⟩ := r2
  have K2 := (K.keep k1).keep k2
  refine sub_call (ReOk.keep K2.I.base.reo K2.I.top) hx ⟨o, (kheap k2).nt _ _ (noTab_cls (by rw [hf]; nofun)) ef, hf⟩ fun h' tk y t' ey hk => ?_
  exact ⟨ktrans k1 (ktrans k2 ⟨h', tk, s2.gens, rfl, KN.of hk, id⟩), rep_str' ey⟩
end
end Mine

namespace Mine
open StrLaws
section
variable {prog : Program} {w : World} {mg mb : Str → Option Value} {hB : Heap} {n : Nat} {F : PF1}

theorem repl_bind {fd : FuncData} {a b : Arg} {v : Value} {vs : List Value} {A : Around} {s : Shared} {Q : List (Str × Value) → Shared → Prop} {E : Value → Shared → Prop} (hp : fd.params = ⟨[], [a], some b, [], [], none, []⟩) (hd : fd.defaults = .none) (hl : vs.length ≤ sizeLine)
    (h : Q [(a.arg, v), (b.arg, .ref s.heap.objs.size)] { s with heap := s.heap.push { cls := .type "tuple", data := .seq vs.toArray } }) : wpAny (model prog w) A (bindArgs fd ⟨v :: vs, []⟩) Q E s := by
  unfold bindArgs
  rw [hp, hd]
  refine wpAny_bind (wpAny_pure ?_)
  refine wpAny_bind (m := seqItems? .none) (wpAny_of_eq (a := none) (by rfl) ?_)
  dsimp only
  rw [if_neg (by simp)]
  rw [if_neg (by simp)]
  refine wpAny_bind (wpAny_pure ?_)
  refine wpAny_bind (wpAny_pure ?_)
  dsimp only
  rw [if_neg (by simp)]
  refine wpAny_bind (wpAny_newTuple (items := vs) ?_ hl)
  refine wpAny_pure ?_
  simpa using h

/-- a def's arguments bound -/
def Bnd (prog : Program) (w : World) (fd : FuncData) (args : List PV) (params : List Str) (args' : List PV) : Prop :=
  ∀ (C : RC) (vals : List Value) (A : Around) (s : Shared), (∀ b, C.X b → ∃ o, NoTab o ∧ s.heap.get? b = some o) → RepL C s.heap args vals → noOwnL args = true →
    wpAny (model prog w) A (bindArgs fd ⟨vals, []⟩) (fun binds s₁ => Keeps s s₁ ∧ ∃ us, binds = params.zip us ∧ RepL C s₁.heap args' us) noE s

theorem bnd1 {fd : FuncData} {p : Str} {x : PV} (hb : ∀ v, bindArgs fd ⟨[v], []⟩ = pure [(p, v)]) : Bnd prog w fd [x] [p] [x] := by
  intro C vals A s hX hr _
  obtain ⟨u, rfl, _⟩ := repL1 hr
  exact wpAny_of_eq (hb u) ⟨krefl s, [u], rfl, hr⟩
theorem bnd2 {fd : FuncData} {p q : Str} {x y : PV} (hb : ∀ v u, bindArgs fd ⟨[v, u], []⟩ = pure [(p, v), (q, u)]) : Bnd prog w fd [x, y] [p, q] [x, y] := by
  intro C vals A s hX hr _
  obtain ⟨u, v, rfl, _⟩ := repL2 hr
  exact wpAny_of_eq (hb u v) ⟨krefl s, [u, v], rfl, hr⟩
theorem bnd3 {fd : FuncData} {p q r : Str} {x y z : PV} (hb : ∀ v u t, bindArgs fd ⟨[v, u, t], []⟩ = pure [(p, v), (q, u), (r, t)]) : Bnd prog w fd [x, y, z] [p, q, r] [x, y, z] := by
  intro C vals A s hX hr _
  have hr' := hr
  simp only [RepL] at hr'
  obtain ⟨a, _, rfl, _, b, _, rfl, _, c, _, rfl, _, rfl⟩ := hr'
  exact wpAny_of_eq (hb a b c) ⟨krefl s, [a, b, c], rfl, hr⟩
theorem bndR {fd : FuncData} {a b : Arg} {x : PV} {ys : List PV} (hp : fd.params = ⟨[], [a], some b, [], [], none, []⟩) (hd : fd.defaults = .none) (hl : ys.length ≤ LIM) : Bnd prog w fd (x :: ys) [a.arg, b.arg] [x, .tup ys] := by
  intro C vals A s hX hr hno
  have hlen := hr.length
  simp only [RepL] at hr
  obtain ⟨v, vs, rfl, h1, h2⟩ := hr
  have hL := lim_size
  simp only [List.length_cons] at hlen
  refine repl_bind hp hd (by omega) ⟨kpush, [v, .ref s.heap.objs.size], rfl, ?_⟩
  have hx : ¬ C.X s.heap.objs.size := fun q => let ⟨_, _, e⟩ := hX _ q; Nat.lt_irrefl _ (Heap.lt_size e)
  simp only [RepL]
  refine ⟨v, _, rfl, h1.keep (KN.push _ _), _, _, rfl, ?_, rfl⟩
  simp only [Rep]
  exact ⟨_, vs.toArray, rfl, hx, ⟨_, Heap.get?_push_size _ rfl, rfl, _, rfl⟩, h2.keep (KN.push _ _)⟩

theorem fn_star {N : Nat} {x : Str} {a : Addr} {o : Obj} {fd : FuncData} {body rest : List Stmt} {mu : List Str} {k i : Nat} {pss : PSs} {params : List Str} {c : Addr} {oc : Obj} {vs : Array Value} {t : Tok} {args : List PV} {r : PV} {σ' : St} {y : Str} {px fp p pos : Pos}
    (base : Base mg mb hB) (hre : Prims prog w mg mb hB) (FS : FsOk prog w mg hB n F) (hm : mg x = some (.ref a)) (ho : hB.get? a = some o) (hd : o.data = .func fd) (hbody : fd.body = .stmts body) (hclo : fd.closure = []) (hglb : fd.globals = mainGlobals) (hblt : fd.builtins = builtinsNs)
    (hcode : fd.code = .ref c) (hoc : hB.get? c = some oc) (hocn : NoTab oc) (hocd : oc.data = .fields vs) (hq : vs[1]? = some (.str fd.qualname t)) (hcdv : (slotOf fd.scope "stuff").isSome = true → c = CT)
    (E : EntryOk fd.scope params) (hbd : body = .Assign [.Name y px] (.Call (.Name "object" fp) [] [] p) pos :: rest) (hi : slotOf fd.scope y = some i) (hgl : isGl fd.scope "object" = true) (hc : cSs (cS mu k fd.scope) rest = some pss) (hlen : args.length = params.length)
    (hbind : Bnd prog w fd args params args) (hst : ∀ v ∈ args, noSt v = true)
    (hr : exs N F pss ⟨(args.map some ++ List.replicate (fd.scope.names.length - args.length) none).set i (some .star), []⟩ = some (σ', .ret r)) (hns : noSt r = true) (hrn : noOwn r = true) : FnOk prog w mg hB (n + 1) x args r := by
  refine fn_frame base FS hm ho hd hbody hclo hglb hblt hcode hoc hocn hocd hq hcdv E hlen hbind id hrn fun env A' C h0 C1 s₂ _ X => ?_
  have hG : ∀ (j : Nat) v, (args.map some ++ List.replicate (fd.scope.names.length - args.length) none)[j]? = some (some v) → noSt v = true := by
    intro j v e
    rcases Nat.lt_or_ge j args.length with h | h
    · rw [List.getElem?_append_left (by simpa using h), List.getElem?_map] at e
      obtain ⟨v', e1, e2⟩ := Option.map_eq_some_iff.mp e
      cases e2
      exact hst _ (List.mem_of_getElem? e1)
    · rw [List.getElem?_append_right (by simpa using h), List.getElem?_replicate] at e
      split at e <;> simp at e
  subst hbd
  rw [execs_cons]
  refine wpAny_bind (seqE (star_ok X hG hi hgl) fun fl s1 ⟨hfl, b, sm, Y⟩ => ?_)
  subst hfl
  refine seqE (cSs_snd (cS_snd hre mu k) rest hc Y hr) fun fl s' res => ?_
  obtain ⟨C', b1, b2, b3, u, rfl, b4⟩ := res
  exact ⟨b3.k0, sm.trans b2, Rep.restar (C := { C with st := b }) (a := C.st) r u hns (b4 hrn)⟩
end
end Mine

namespace Mine
open StrLaws

def mus : List Str := ["res", "chunks", "fixed", "closed", "states", "moves", "parts", "signs", "ranges", "names", "items", "most", "ends", "left"]
def muOf (f : Str) : List Str := if f == "law" then (["items", "names", "left"] : List Str) else if f == "_law_signs" then [] else mus

/-- a def made small: its names, its parameters, its statements -/
structure DefE where
  k : Nat
  m : Nat
  b : PSs

def entryB (sc : Scope) (ps : List Str) : Bool :=
  sc.kind == .function && !sc.isCoroutine && !sc.isGenerator && sc.names.all (fun p => p.2 != .free) && decide ps.Nodup && decide ((sc.names.take ps.length).map (·.1) = ps) &&
    ps.all fun x => sc.names.lookup x == some .local || sc.names.lookup x == some .cell
theorem entryOk_of {sc : Scope} {ps : List Str} (h : entryB sc ps = true) : EntryOk sc ps := by
  simp only [entryB, Bool.and_eq_true, Bool.not_eq_true', decide_eq_true_eq] at h
  obtain ⟨⟨⟨⟨⟨⟨h1, h2⟩, h3⟩, h4⟩, h5⟩, h6⟩, h7⟩ := h
  refine ⟨by simpa using h1, h2, h3, fun x e => ?_, h5, fun i x e => ?_, fun i x e hi => ?_⟩
  · have := List.all_eq_true.mp h4 _ (mem_of_lookup e)
    simp at this
  · have := List.all_eq_true.mp h7 x (List.mem_of_getElem? e)
    simpa using this
  · have hf : sc.names.findIdx? (fun p => p.1 == x) = some i := by
      unfold slotOf at e
      split at e <;> first | exact e | cases e
    obtain ⟨q1, q2, _⟩ := List.findIdx?_eq_some_iff_getElem.mp hf
    have q3 : (sc.names[i]).1 = x := by simpa using q2
    conv => lhs; rw [← h6]
    rw [List.getElem?_map, List.getElem?_take, if_pos hi, List.getElem?_eq_getElem q1, ← q3]
    rfl

/-- plain parameters, not more than three; or one and a star -/
def parOk (ps : Arguments) : Bool :=
  ps.posonlyargs.isEmpty && ps.kwonlyargs.isEmpty && ps.kw_defaults.isEmpty && ps.kwarg.isNone && ps.defaults.isEmpty && (match ps.args, ps.vararg with
    | [_], some _ => true
    | [_], none => true | [_, _], none => true | [_, _, _], none => true
    | _, _ => false)
def parNames (ps : Arguments) : List Str := ps.args.map (·.arg) ++ (match ps.vararg with | some a => [a.arg] | none => [])

def starHead (sc : Scope) : List Stmt → Bool
  | .Assign [.Name y _] (.Call (.Name "object" _) [] [] _) _ :: _ => slotOf sc y == some 1 && isGl sc "object"
  | _ => false
def defCond (f : Str) (ps : Arguments) (b : List Stmt) (sc : Scope) : Bool :=
  parOk ps && entryB sc (parNames ps) && (ps.vararg.isSome == (f == "replace")) && (!(f == "translate") || (starHead sc b && ps.args.length == 1))
def defIs (p : Program) (f : Str) : Option DefE := match findDef p f with
  | some (ps, b, sc) => if defCond f ps b sc then
      (cSs (cS (muOf f) 60 sc) (if f == "translate" then b.tail else b)).map fun q => ⟨sc.names.length, (parNames ps).length, q⟩ else none
  | none => none

/-- the def's object on the top -/
def DefAt (p : Program) (mg : Str → Option Value) (hB : Heap) (x : Str) : Prop :=
  ∃ ps b sc a fd o c oc vs t, findDef p x = some (ps, b, sc) ∧ mg x = some (.ref a) ∧ hB.get? a = some o ∧ o.data = .func fd ∧ fd.params = ps ∧ fd.body = .stmts b ∧ fd.scope = sc ∧ fd.defaults = .none ∧ fd.closure = [] ∧ fd.globals = mainGlobals ∧ fd.builtins = builtinsNs ∧
    fd.code = .ref c ∧ hB.get? c = some oc ∧ NoTab oc ∧ oc.data = .fields vs ∧ vs[1]? = some (.str fd.qualname t) ∧ ((slotOf sc "stuff").isSome = true → c = CT)

def FUEL : Nat := 4096
def stepF (T : List (String × DefE)) (F : PF1) : PF1 := fun f as =>
  if f = "%sub" then (match as with | [.str l] => if subOk l then some (.str l) else none | _ => none)
  else match T.lookup f with
    | none => none
    | some e => if Str.ofString f == ("replace" : Str) then (match as with | x :: ys => if ys.length ≤ LIM then pfun FUEL F e.k e.b [x, .tup ys] else none | [] => none)
      else if Str.ofString f == ("translate" : Str) then (match as with
        | [.str l] => (match exs FUEL F e.b ⟨[some (.str l), some .star] ++ List.replicate (e.k - 2) none, []⟩ with | some (_, .ret (.str r)) => some (.str r) | _ => none)
        | _ => none)
      else if as.length = e.m then pfun FUEL F e.k e.b as else none
def runF (T : List (String × DefE)) : Nat → PF1
  | 0 => fun _ _ => none
  | n + 1 => stepF T (runF T n)

section
variable {prog : Program} {w : World} {mg mb : Str → Option Value} {hB : Heap} {p : Program}

theorem bindP {fd : FuncData} {as : List Arg} {vals : List Value} (hp : fd.params = ⟨[], as, none, [], [], none, []⟩) (hd : fd.defaults = .none) {A : Around} {s : Shared} {Q : List (Str × Value) → Shared → Prop} {E : Value → Shared → Prop}
    (hl : vals.length = as.length) (hz : ((as.map (·.arg)).filter fun n => (((as.map (·.arg)).zip vals).lookup n).isNone) = []) (h : Q ((as.map (·.arg)).filterMap fun n => (((as.map (·.arg)).zip vals).lookup n).map (n, ·)) s) :
    wpAny (model prog w) A (bindArgs fd ⟨vals, []⟩) Q E s := by
  unfold bindArgs
  rw [hp, hd]
  refine wpAny_bind (wpAny_pure ?_)
  refine wpAny_bind (m := seqItems? .none) (wpAny_of_eq (a := none) (by rfl) ?_)
  dsimp only
  rw [if_neg (by simp [hl])]
  simp only [List.map_nil, List.nil_append, List.append_nil, show ((none : Option (Array Value)).getD #[]).toList = [] from rfl, List.drop_nil, List.zip_nil_right, List.length_nil, Nat.sub_zero, Nat.zero_sub, List.take_length, hz]
  rw [if_neg (by simp)]
  refine wpAny_bind (wpAny_pure ?_)
  refine wpAny_bind (wpAny_pure ?_)
  dsimp only
  rw [if_neg (by simp)]
  exact wpAny_pure h

theorem zip_lookup : ∀ {ns : List Str} {vs : List Value}, ns.Nodup → vs.length = ns.length → ∀ {m : List (Str × Value)}, (∀ p ∈ ns.zip vs, m.lookup p.1 = some p.2) → ns.filterMap (fun n => (m.lookup n).map (n, ·)) = ns.zip vs
  | [], [], _, _, _, _ => rfl
  | n :: ns, v :: vs, nd, hl, m, h => by
    rw [List.zip_cons_cons] at h ⊢
    have h0 := h (n, v) List.mem_cons_self
    rw [List.filterMap_cons, h0]
    simp only [Option.map_some]
    rw [zip_lookup (List.nodup_cons.mp nd).2 (by simpa using hl) fun p hp => h p (List.mem_cons_of_mem _ hp)]
  | [], _ :: _, _, hl, _, _ => by simp at hl
  | _ :: _, [], _, hl, _, _ => by simp at hl
theorem zip_self : ∀ {ns : List Str} {vs : List Value}, ns.Nodup → vs.length = ns.length → ∀ p ∈ ns.zip vs, (ns.zip vs).lookup p.1 = some p.2
  | n :: ns, v :: vs, nd, hl, p, hp => by
    rw [List.zip_cons_cons] at hp ⊢
    rcases List.mem_cons.mp hp with rfl | hp
    · simp
    · have hne : p.1 ≠ n := fun e => (List.nodup_cons.mp nd).1 (by rw [← e]; exact (List.of_mem_zip (show (p.1, p.2) ∈ ns.zip vs from hp)).1)
      rw [List.lookup_cons]
      have : (p.1 == n) = false := by simpa using hne
      rw [this]
      exact zip_self (List.nodup_cons.mp nd).2 (by simpa using hl) p hp
  | [], _, _, _, p, hp => by simp at hp
  | _ :: _, [], _, hl, p, hp => by simp at hl

theorem bndP {fd : FuncData} {as : List Arg} {args : List PV} (hp : fd.params = ⟨[], as, none, [], [], none, []⟩) (hd : fd.defaults = .none) (nd : (as.map (·.arg)).Nodup) (hl : args.length = as.length) : Bnd prog w fd args (as.map (·.arg)) args := by
  intro C vals A s hX hr _
  have hlen := hr.length
  have hl2 : vals.length = (as.map (·.arg)).length := by simp; omega
  refine bindP hp hd (by omega) ?_ ?_
  · rw [List.filter_eq_nil_iff]
    intro n hn
    obtain ⟨i, hi⟩ := List.getElem?_of_mem hn
    have hlt : i < vals.length := by
      have := (List.getElem?_eq_some_iff.mp hi).1
      omega
    have hm : (n, vals[i]) ∈ (as.map (·.arg)).zip vals := List.mem_of_getElem? (i := i) (by rw [List.getElem?_zip_eq_some]; exact ⟨hi, List.getElem?_eq_getElem hlt⟩)
    rw [zip_self nd hl2 _ hm]; simp
  · rw [zip_lookup nd hl2 (zip_self nd hl2)]
    exact ⟨krefl s, vals, rfl, hr⟩

theorem def_parts {x : Str} {e : DefE} (h : defIs p x = some e) : ∃ ps b sc, findDef p x = some (ps, b, sc) ∧ parOk ps = true ∧ entryB sc (parNames ps) = true ∧ (ps.vararg.isSome = (x == "replace")) ∧
    ((x == "translate") = true → starHead sc b = true ∧ ps.args.length = 1) ∧ e.k = sc.names.length ∧ e.m = (parNames ps).length ∧ cSs (cS (muOf x) 60 sc) (if x == "translate" then b.tail else b) = some e.b := by
  unfold defIs at h
  split at h
  · rename_i ps b sc hf
    by_cases hc : defCond x ps b sc = true
    · rw [if_pos hc] at h
      simp only [defCond, Bool.and_eq_true, beq_iff_eq (a := ps.vararg.isSome)] at hc
      obtain ⟨⟨⟨h1, h2⟩, h3⟩, h4⟩ := hc
      obtain ⟨q, hq, rfl⟩ := Option.map_eq_some_iff.mp h
      refine ⟨ps, b, sc, hf, h1, h2, h3, fun ht => ?_, rfl, rfl, hq⟩
      rw [ht] at h4
      simpa using h4
    · rw [if_neg hc] at h; cases h
  · cases h
theorem par_plain {ps : Arguments} (h : parOk ps = true) (hv : ps.vararg.isSome = false) : ps = ⟨[], ps.args, none, [], [], none, []⟩ ∧ parNames ps = ps.args.map (·.arg) := by
  obtain ⟨a1, a2, a3, a4, a5, a6, a7⟩ := ps
  simp only [parOk, Bool.and_eq_true, List.isEmpty_iff, Option.isNone_iff_eq_none] at h
  obtain ⟨⟨⟨⟨⟨rfl, rfl⟩, rfl⟩, rfl⟩, rfl⟩, h6⟩ := h
  dsimp only at hv
  cases a3 with
  | none => exact ⟨rfl, by simp [parNames]⟩
  | some a => simp at hv
theorem par_star {ps : Arguments} (h : parOk ps = true) (hv : ps.vararg.isSome = true) : ∃ a b, ps = ⟨[], [a], some b, [], [], none, []⟩ := by
  obtain ⟨a1, a2, a3, a4, a5, a6, a7⟩ := ps
  simp only [parOk, Bool.and_eq_true, List.isEmpty_iff, Option.isNone_iff_eq_none] at h
  obtain ⟨⟨⟨⟨⟨rfl, rfl⟩, rfl⟩, rfl⟩, rfl⟩, h6⟩ := h
  dsimp only at hv
  cases a3 with
  | none => simp at hv
  | some b =>
    rcases a2 with _ | ⟨a, _ | ⟨c, _ | ⟨d, _ | ⟨e, r⟩⟩⟩⟩ <;> simp at h6
    exact ⟨a, b, rfl⟩

theorem def_plain {n : Nat} {F : PF1} {x : Str} {e : DefE} {args : List PV} {r : PV} (base : Base mg mb hB) (hre : Prims prog w mg mb hB) (FS : FsOk prog w mg hB n F) (D : DefAt p mg hB x) (hE : defIs p x = some e)
    (h1 : (x == "replace") = false) (h2 : (x == "translate") = false) (hm : args.length = e.m) (hr : pfun FUEL F e.k e.b args = some r) : FnOk prog w mg hB (n + 1) x args r := by
  obtain ⟨ps, b, sc, hf, hp, hen, hv, _, hk, hmm, hc⟩ := def_parts hE
  obtain ⟨ps', b', sc', a, fd, o, c, oc, vs, t, g0, g1, g2, g3, g4, g5, g6, g7, g8, g9, g10, g11, g12, g13, g14, g15, g16⟩ := D
  rw [hf] at g0; cases g0
  rw [h2] at hc
  rw [h1] at hv
  obtain ⟨e1, e2⟩ := par_plain hp hv
  subst g6
  have hnd : (ps.args.map (·.arg)).Nodup := by rw [← e2]; exact (entryOk_of hen).nd
  rw [e2] at hen hmm
  rw [hk] at hr
  exact fn_entry base hre FS g1 g2 g3 g5 g8 g9 g10 g11 g12 g13 g14 g15 g16 (entryOk_of hen) hc (by rw [hm, hmm]) (bndP (by rw [g4]; exact e1) g7 hnd (by rw [hm, hmm]; simp)) id hr

theorem def_replace {n : Nat} {F : PF1} {e : DefE} {y : PV} {ys : List PV} {r : PV} (base : Base mg mb hB) (hre : Prims prog w mg mb hB) (FS : FsOk prog w mg hB n F) (D : DefAt p mg hB "replace") (hE : defIs p "replace" = some e)
    (hl : ys.length ≤ LIM) (hr : pfun FUEL F e.k e.b [y, .tup ys] = some r) : FnOk prog w mg hB (n + 1) "replace" (y :: ys) r := by
  obtain ⟨ps, b, sc, hf, hp, hen, hv, _, hk, hmm, hc⟩ := def_parts hE
  obtain ⟨ps', b', sc', a, fd, o, c, oc, vs, t, g0, g1, g2, g3, g4, g5, g6, g7, g8, g9, g10, g11, g12, g13, g14, g15, g16⟩ := D
  rw [hf] at g0; cases g0
  rw [show (("replace" : Str) == "translate") = false from by decide +kernel] at hc
  rw [show (("replace" : Str) == "replace") = true from by decide +kernel] at hv
  obtain ⟨pa, pb, e1⟩ := par_star hp hv
  subst e1
  subst g6
  rw [hk] at hr
  exact fn_entry base hre FS g1 g2 g3 g5 g8 g9 g10 g11 g12 g13 g14 g15 g16 (entryOk_of hen) hc rfl (bndR g4 g7 hl) (fun q => by simpa [noOwnL, noOwn] using q) hr

theorem def_translate {n : Nat} {F : PF1} {e : DefE} {l r : List Nat} {σ : St} (base : Base mg mb hB) (hre : Prims prog w mg mb hB) (FS : FsOk prog w mg hB n F) (D : DefAt p mg hB "translate") (hE : defIs p "translate" = some e)
    (hr : exs FUEL F e.b ⟨[some (.str l), some .star] ++ List.replicate (e.k - 2) none, []⟩ = some (σ, .ret (.str r))) : FnOk prog w mg hB (n + 1) "translate" [.str l] (.str r) := by
  obtain ⟨ps, b, sc, hf, hp, hen, hv, hs, hk, hmm, hc⟩ := def_parts hE
  obtain ⟨ps', b', sc', a, fd, o, c, oc, vs, t, g0, g1, g2, g3, g4, g5, g6, g7, g8, g9, g10, g11, g12, g13, g14, g15, g16⟩ := D
  rw [hf] at g0; cases g0
  have ht : (("translate" : Str) == "translate") = true := by decide +kernel
  rw [ht] at hc
  rw [show (("translate" : Str) == "replace") = false from by decide +kernel] at hv
  obtain ⟨hs1, hs2⟩ := hs ht
  obtain ⟨e1, e2⟩ := par_plain hp hv
  subst g6
  have hnd : (ps.args.map (·.arg)).Nodup := by rw [← e2]; exact (entryOk_of hen).nd
  rw [e2] at hen hmm
  have E := entryOk_of hen
  unfold starHead at hs1
  split at hs1
  · rename_i y q1 q2 q3 q4 rest
    simp only [Bool.and_eq_true, beq_iff_eq] at hs1
    have hlen : 1 < fd.scope.names.length := by
      have := hs1.1
      unfold slotOf at this
      have h3 : fd.scope.names.findIdx? (fun p => p.1 == y) = some 1 := by split at this <;> first | exact this | cases this
      exact (List.findIdx?_eq_some_iff_getElem.mp h3).1
    refine fn_star base hre FS g1 g2 g3 g5 g8 g9 g10 g11 g12 g13 g14 g15 g16 E rfl hs1.1 hs1.2 hc (by simp [hs2]) (bndP (by rw [g4]; exact e1) g7 hnd (by rw [hs2]; rfl)) (by simp [noSt]) (r := .str r) (σ' := σ) (N := FUEL) ?_ rfl rfl
    rw [hk] at hr
    rw [← hr]
    obtain ⟨m, hm⟩ : ∃ m, fd.scope.names.length = m + 2 := ⟨fd.scope.names.length - 2, by omega⟩
    rw [hm]
    rfl
  · cases hs1

theorem fnTab_name {x : Str} {f : String} (h : (x, f) ∈ fnTab) : x = Str.ofString f := by
  unfold fnTab at h
  obtain ⟨y, _, e⟩ := List.mem_map.mp h
  cases e; rfl
theorem fnTab_nosub : ∀ q ∈ fnTab, q.2 ≠ "%sub" := by decide +kernel

theorem fs_ok {T : List (String × DefE)} (base : Base mg mb hB) (hre : Prims prog w mg mb hB) (hT : ∀ f e, T.lookup f = some e → defIs p (Str.ofString f) = some e ∧ DefAt p mg hB (Str.ofString f)) : ∀ n, FsOk prog w mg hB n (runF T n)
  | 0 => ⟨fun _ _ _ _ _ h => (nomatch h), fun _ _ h => (nomatch h)⟩
  | n + 1 => by
    have IH := fs_ok base hre hT n
    refine ⟨fun x f args r hx h => ?_, fun v r h => ?_⟩
    · have hs := fnTab_nosub _ hx
      have hx' := fnTab_name hx
      subst hx'
      unfold runF stepF at h
      rw [if_neg hs] at h
      split at h
      · cases h
      · rename_i e he
        obtain ⟨hE, D⟩ := hT f e he
        split at h
        · rename_i hr
          have hr' := beq_iff_eq.mp hr
          rw [hr'] at hE D ⊢
          split at h
          · split at h
            · exact def_replace base hre IH D hE (by assumption) h
            · cases h
          · cases h
        · rename_i hr
          split at h
          · rename_i ht
            have ht' := beq_iff_eq.mp ht
            rw [ht'] at hE D ⊢
            split at h
            · split at h
              · cases h
                exact def_translate base hre IH D hE (by assumption)
              · cases h
            · cases h
          · rename_i ht
            split at h
            · exact def_plain base hre IH D hE (by simpa using hr) (by simpa using ht) (by assumption) h
            · cases h
    · unfold runF stepF at h
      rw [if_pos rfl] at h
      split at h
      · rename_i l heq
        simp only [List.cons.injEq, and_true] at heq
        subst heq
        split at h
        · cases h
          exact ⟨_, rfl, by assumption, rfl⟩
        · cases h
      · cases h

theorem oldK_of (base : Base mg mb hB) {h' : Heap} (k : KN hB h') : OldK hB h' := by
  obtain ⟨ps, e0, t0⟩ := base.pt
  obtain ⟨more, e1, _⟩ := k.tab _ e0
  refine ⟨fun b o e => ?_, fun b o e => k.live e⟩
  by_cases hb : b = PT
  · subst hb
    rw [e0] at e; cases e
    exact .inr (.inl ⟨((base.cod).tab e0).isCodeTable, rfl, ps, more, rfl, e1⟩)
  · exact .inl (k.pt b o hb e)
end
end Mine

namespace Mine
open StrLaws

/-! the laws' call in general -/
def specEs (es : Array DictEntry) : Bool :=
  (es.toList.all fun e => match e.key, e.val with
    | .int i _, .str s _ => decide (0 ≤ i) && specials.contains i.toNat && decide (s.cps.toList = [92, i.toNat]) && decide (e.hash = hashInt i)
    | _, _ => false) && specials.all fun c => es.toList.any fun e => Value.isInt (c : Nat) e.key
section
variable {prog : Program} {w : World} {mg mb : Str → Option Value} {hB : Heap} {p : Program}
theorem spec_of_es {es : Array DictEntry} {n : Nat} (X : hB.get? spA = some { cls := .type "dict", dict := none, data := .dict es n, slots := #[] }) (h : specEs es = true) : SpecOk prog w hB := by
  simp only [specEs, Bool.and_eq_true, List.all_eq_true] at h
  obtain ⟨h1, h2⟩ := h
  have key : ∀ e ∈ es.toList, ∃ i t s t', e.key = .int i t ∧ e.val = .str s t' ∧ 0 ≤ i ∧ specials.contains i.toNat = true ∧ s.cps.toList = [92, i.toNat] ∧ e.hash = hashInt i := by
    intro e he
    have := h1 e he
    split at this
    · rename_i i t s t' e1 e2
      simp only [Bool.and_eq_true, decide_eq_true_eq] at this
      exact ⟨i, t, s, t', e1, e2, this.1.1.1, this.1.1.2, this.1.2, this.2⟩
    · cases this
  refine spec_prim (f := fun k => findBy Value.isInt es k) ⟨_, es, n, X, ⟨rfl, rfl, rfl⟩, rfl, fun e he => ?_, fun _ => rfl⟩ fun c => ?_
  · obtain ⟨i, t, s, t', e1, e2, e3, e4, e5, e6⟩ := key e (Array.mem_toList_iff.mpr he)
    exact ⟨i, by rw [e1]; show Value.isInt i (.int i t) = true; simp [Value.isInt], e6⟩
  · have hfind : findBy Value.isInt es (c : Int) = (es.toList.find? fun e => Value.isInt (c : Nat) e.key).map (·.val) := by
      obtain ⟨l⟩ := es
      unfold findBy
      rw [List.find?_toArray]
    rw [hfind]
    cases hf : es.toList.find? fun e => Value.isInt (c : Nat) e.key with
    | some e =>
      obtain ⟨i, t, s, t', e1, e2, e3, e4, e5, e6⟩ := key e (List.mem_of_find?_eq_some hf)
      have h3 := List.find?_some hf
      rw [e1] at h3
      have hi : i = (c : Int) := by simpa [Value.isInt] using h3
      subst hi
      have hc : specials.contains c = true := by simpa using e4
      rw [if_pos hc]
      refine ⟨t', ?_⟩
      show some e.val = _
      rw [e2]
      obtain ⟨a⟩ := s
      have : a = #[92, c] := Array.ext' (by simpa using e5)
      subst this; rfl
    | none =>
      have hc : ¬ specials.contains c = true := by
        intro hc
        have h3 := h2 c (by simpa using hc)
        obtain ⟨e, he, h4⟩ := List.any_eq_true.mp h3
        have := List.find?_eq_none.mp hf e he
        exact this h4
      rw [if_neg hc]; rfl

theorem rep_ints {P : Params} {h : Heap} {C : RC} : ∀ {vs : List Value} {ws : List Int}, WellAll P h vs (ofPys (ws.map .int)) → RepL C h (ws.map .int) vs
  | vs, [], x => by
    cases x; simp [RepL]
  | vs, a :: ws, x => by
    rw [List.map_cons, ofPys] at x
    obtain ⟨v, vs', rfl, x1, x2⟩ := wellAll_cons_inv x
    rw [ofPy] at x1
    cases x1
    rw [List.map_cons]
    simp only [RepL]
    exact ⟨_, vs', rfl, rep_int, rep_ints x2⟩

theorem noOwn_ints : ∀ ws : List Int, noOwnL (ws.map .int) = true
  | [] => rfl
  | a :: ws => by simp [noOwnL, noOwn, noOwn_ints ws]

theorem law_call {T : List (String × DefE)} {n : Nat} {e : DefE} {ws : List Int} {s : Shared} {l a : Addr} {P : Params} (base : Base mg mb s.heap) (hs : SpecOk prog w s.heap) (hT : ∀ f e, T.lookup f = some e → defIs p (Str.ofString f) = some e ∧ DefAt p mg s.heap (Str.ofString f))
    (hE : T.lookup "law" = some e) (hm : e.m = 1) (hn : n ≤ 20) (hr : pfun FUEL (runF T n) e.k e.b [.list (ws.map .int)] = some (.bool true)) (hl : Well P s.heap (.ref l) (ofPy (.list (ws.map .int)))) (ha : mg "law" = some (.ref a)) :
    wpAny (model prog w) callerA (call (.ref a) [.ref l]) (fun v s' => v = .bool true ∧ Keeps s s') noE s := by
  obtain ⟨hE', D⟩ := hT _ _ hE
  have hre : Prims prog w mg mb s.heap := ⟨resub_prim, hs⟩
  have FS := fs_ok (T := T) base hre hT n
  obtain ⟨a', fd, o, h1, _, _, _, h5⟩ := def_plain base hre FS D hE' (by decide +kernel) (by decide +kernel) (by rw [hm]; rfl) hr
  rw [show (Str.ofString "law") = ("law" : Str) from rfl, ha] at h1
  cases h1
  rw [ofPy] at hl
  cases hl
  rename_i vs h6 h7
  refine seqE (h5 ⟨fun _ => False, 0, []⟩ [.ref l] callerA s (KN.refl _) (fun b hb => hb.elim) ?_ (by simp [noOwnL, noOwn, noOwn_ints]) ⟨rfl, ?_, ?_⟩) fun v s' ⟨k, r⟩ => ⟨by simpa [Rep] using r, k⟩
  · refine RepL.one (rep_list (xs := vs) (fun q => q) ⟨_, h6⟩ (rep_ints h7))
  · show 1 + claimMargin + (n + 1) < recursionLimit
    have e1 : claimMargin = 300 := rfl
    have e2 : recursionLimit = 1000 := rfl
    omega
  · show 4 + 200 + 20 * (n + 1) < cLine
    have : cLine = 9900 := rfl
    omega
end
/-- [text:l, pairs:l] -/
def p_repl : PSs :=
    (.cons (.wh (.var 1) (.cons (.asg 0 (.me .join (.idx (.var 1) (.ci 1)) (.cons (.me .split (.var 0) (.cons (.idx (.var 1) (.ci 0)) .nil)) .nil)))
    (.cons (.asg 1 (.sl (.var 1) (.ci 2) .cn))
    .nil)))
    (.cons (.ret (.var 0))
    .nil))

/-- [pattern:l, isinstance:g, str:g, _special_chars_map:g] -/
def p_esc : PSs :=
    (.cons (.ite (.isstr (.var 0)) (.cons (.ret (.spec (.var 0)))
    .nil) (.cons (.asrt (.idx .cn .cn))
    (.cons (.asrt (.idx .cn .cn))
    .nil)))
    .nil)

/-- [pat:l, STAR:l, parts:l, object:g, _translate:g, _join_translated_parts:g] -/
def p_trans : PSs :=
    (.cons (.asg 2 (.call "_translate" (.cons (.var 0) (.cons (.var 1) (.cons (.cs [46]) .nil)))))
    (.cons (.ret (.call "_join_translated_parts" (.cons (.var 2) (.cons (.var 1) .nil))))
    .nil))

/-- [pat:l, STAR:l, QUESTION_MARK:l, res:l, add:l, i:l, n:l, c:l, j:l, stuff:l, chunks:l, k:l, chunk:l, len:g, range:g, _twin_re_1:g, escape:g] -/
def p_tr : PSs :=
    (.cons (.asgo 3 .nil)
    (.cons (.asga 4 3)
    (.cons (.asgt [(5, false), (6, false)] (.cons (.ci 0) (.cons (.bi .len (.cons (.var 0) .nil)) .nil)))
    (.cons (.wh (.cmp .lt (.var 5) (.var 6)) (.cons (.asg 7 (.idx (.var 0) (.var 5)))
    (.cons (.asg 5 (.bin .add (.var 5) (.ci 1)))
    (.cons (.ite (.cmp .eq (.var 7) (.cs [42])) (.cons (.ite (.or2 (.not (.var 3)) (.cmp .isn (.idx (.var 3) (.ci (-1))) (.var 1))) (.cons (.appf 4 (.var 1))
    .nil) .nil)
    .nil) (.cons (.ite (.cmp .eq (.var 7) (.cs [63])) (.cons (.appf 4 (.var 2))
    .nil) (.cons (.ite (.cmp .eq (.var 7) (.cs [91])) (.cons (.asg 8 (.var 5))
    (.cons (.ite (.and2 (.cmp .lt (.var 8) (.var 6)) (.cmp .eq (.idx (.var 0) (.var 8)) (.cs [33]))) (.cons (.asg 8 (.bin .add (.var 8) (.ci 1)))
    .nil) .nil)
    (.cons (.ite (.and2 (.cmp .lt (.var 8) (.var 6)) (.cmp .eq (.idx (.var 0) (.var 8)) (.cs [93]))) (.cons (.asg 8 (.bin .add (.var 8) (.ci 1)))
    .nil) .nil)
    (.cons (.wh (.and2 (.cmp .lt (.var 8) (.var 6)) (.cmp .ne (.idx (.var 0) (.var 8)) (.cs [93]))) (.cons (.asg 8 (.bin .add (.var 8) (.ci 1)))
    .nil))
    (.cons (.ite (.cmp .ge (.var 8) (.var 6)) (.cons (.appf 4 (.cs [92, 91]))
    .nil) (.cons (.asg 9 (.sl (.var 0) (.var 5) (.var 8)))
    (.cons (.ite (.cmp .nin (.cs [45]) (.var 9)) (.cons (.asg 9 (.me .replace (.var 9) (.cons (.cs [92]) (.cons (.cs [92, 92]) .nil))))
    .nil) (.cons (.asgo 10 .nil)
    (.cons (.asg 11 (.ite (.cmp .eq (.idx (.var 0) (.var 5)) (.cs [33])) (.bin .add (.var 5) (.ci 2)) (.bin .add (.var 5) (.ci 1))))
    (.cons (.wh (.cb true) (.cons (.asg 11 (.me .find (.var 0) (.cons (.cs [45]) (.cons (.var 11) (.cons (.var 8) .nil)))))
    (.cons (.ite (.cmp .lt (.var 11) (.ci 0)) (.cons .brk
    .nil) .nil)
    (.cons (.app 10 (.sl (.var 0) (.var 5) (.var 11)))
    (.cons (.asg 5 (.bin .add (.var 11) (.ci 1)))
    (.cons (.asg 11 (.bin .add (.var 11) (.ci 3)))
    .nil))))))
    (.cons (.asg 12 (.sl (.var 0) (.var 5) (.var 8)))
    (.cons (.ite (.var 12) (.cons (.app 10 (.var 12))
    .nil) (.cons (.asrt (.idx .cn .cn))
    .nil))
    (.cons (.fr 11 (.rng3 (.bin .sub (.bi .len (.cons (.var 10) .nil)) (.ci 1)) (.ci 0) (.ci (-1))) (.cons (.ite (.cmp .gt (.idx (.idx (.var 10) (.bin .sub (.var 11) (.ci 1))) (.ci (-1))) (.idx (.idx (.var 10) (.var 11)) (.ci 0))) (.cons (.asrt (.idx .cn .cn))
    (.cons (.asrt (.idx .cn .cn))
    .nil)) .nil)
    .nil))
    (.cons (.asg 9 (.idx .cn .cn))
    .nil))))))))
    (.cons (.asg 9 (.resub (.var 9)))
    (.cons (.asg 5 (.bin .add (.var 8) (.ci 1)))
    (.cons (.ite (.not (.var 9)) (.cons (.appf 4 (.cs [40, 63, 33, 41]))
    .nil) (.cons (.ite (.cmp .eq (.var 9) (.cs [33])) (.cons (.appf 4 (.cs [46]))
    .nil) (.cons (.ite (.cmp .eq (.idx (.var 9) (.ci 0)) (.cs [33])) (.cons (.asg 9 (.bin .add (.cs [94]) (.sl (.var 9) (.ci 1) .cn)))
    .nil) (.cons (.ite (.cmp .inn (.idx (.var 9) (.ci 0)) (.tup (.cons (.cs [94]) (.cons (.cs [91]) .nil)))) (.cons (.asg 9 (.bin .add (.cs [92]) (.var 9)))
    .nil) .nil)
    .nil))
    (.cons (.appf 4 (.fstr (.cons (.cs [91]) (.cons (.var 9) (.cons (.cs [93]) .nil)))))
    .nil)))
    .nil))
    .nil))))))
    .nil))))) (.cons (.appf 4 (.call "escape" (.cons (.var 7) .nil)))
    .nil))
    .nil))
    .nil))
    .nil))))
    (.cons (.asrt (.cmp .eq (.var 5) (.var 6)))
    (.cons (.ret (.var 3))
    .nil))))))

/-- [inp:l, STAR:l, res:l, add:l, i:l, n:l, fixed:l, len:g] -/
def p_join : PSs :=
    (.cons (.asgo 2 .nil)
    (.cons (.asga 3 2)
    (.cons (.asgt [(4, false), (5, false)] (.cons (.ci 0) (.cons (.bi .len (.cons (.var 0) .nil)) .nil)))
    (.cons (.wh (.and2 (.cmp .lt (.var 4) (.var 5)) (.cmp .isn (.idx (.var 0) (.var 4)) (.var 1))) (.cons (.appf 3 (.idx (.var 0) (.var 4)))
    (.cons (.aug 4 .add (.ci 1))
    .nil)))
    (.cons (.wh (.cmp .lt (.var 4) (.var 5)) (.cons (.asrt (.cmp .is (.idx (.var 0) (.var 4)) (.var 1)))
    (.cons (.aug 4 .add (.ci 1))
    (.cons (.ite (.cmp .eq (.var 4) (.var 5)) (.cons (.appf 3 (.cs [46, 42]))
    (.cons .brk
    .nil)) .nil)
    (.cons (.asrt (.cmp .isn (.idx (.var 0) (.var 4)) (.var 1)))
    (.cons (.asgo 6 .nil)
    (.cons (.wh (.and2 (.cmp .lt (.var 4) (.var 5)) (.cmp .isn (.idx (.var 0) (.var 4)) (.var 1))) (.cons (.app 6 (.idx (.var 0) (.var 4)))
    (.cons (.aug 4 .add (.ci 1))
    .nil)))
    (.cons (.asg 6 (.me .join (.cs []) (.cons (.var 6) .nil)))
    (.cons (.ite (.cmp .eq (.var 4) (.var 5)) (.cons (.appf 3 (.cs [46, 42]))
    (.cons (.appf 3 (.var 6))
    .nil)) (.cons (.appf 3 (.fstr (.cons (.cs [40, 63, 62, 46, 42, 63]) (.cons (.var 6) (.cons (.cs [41]) .nil)))))
    .nil))
    .nil)))))))))
    (.cons (.asrt (.cmp .eq (.var 4) (.var 5)))
    (.cons (.asg 2 (.me .join (.cs []) (.cons (.var 2) .nil)))
    (.cons (.ret (.fstr (.cons (.cs [40, 63, 115, 58]) (.cons (.var 2) (.cons (.cs [41, 92, 90]) .nil)))))
    .nil))))))))

/-- [row:l, signs:l, k:l, wide:l, len:g] -/
def p_signs : PSs :=
    (.cons (.asgt [(1, false), (2, false)] (.cons (.cs []) (.cons (.ci 0) .nil)))
    (.cons (.wh (.cmp .lt (.var 2) (.bi .len (.cons (.var 0) .nil))) (.cons (.asg 3 (.ite (.cmp .eq (.idx (.var 0) (.var 2)) (.cs [91])) (.ci 1) (.ci 0)))
    (.cons (.ite (.cmp .inn (.idx (.var 0) (.var 2)) (.cs [46, 42, 63])) (.cons (.ret (.cs [57344]))
    .nil) .nil)
    (.cons (.aug 2 .add (.var 3))
    (.cons (.aug 2 .add (.ite (.cmp .eq (.idx (.var 0) (.var 2)) (.cs [92])) (.ci 1) (.ci 0)))
    (.cons (.aug 1 .add (.idx (.var 0) (.var 2)))
    (.cons (.aug 2 .add (.ci 1))
    (.cons (.ite (.and2 (.cmp .eq (.var 3) (.ci 1)) (.cmp .ne (.sl (.var 0) (.var 2) (.bin .add (.var 2) (.ci 1))) (.cs [93]))) (.cons (.ret (.cs [57344]))
    .nil) .nil)
    (.cons (.aug 2 .add (.var 3))
    .nil)))))))))
    (.cons (.ret (.var 1))
    .nil)))

/-- [word:l, at:l, size:l, twice:l, text:l, translate:g, replace:g, _law_signs:g, len:g] -/
def p3_overlap : PSs :=
    (.cons (.asg 3 (.bin .add (.bin .mul (.sl (.var 0) (.var 1) (.bin .add (.var 1) (.var 2))) (.ci 2)) (.idx (.var 0) (.var 1))))
    (.cons (.asg 4 (.call "translate" (.cons (.bin .add (.bin .add (.bin .mul (.cs [63]) (.var 1)) (.call "replace" (.cons (.var 3) (.cons (.cs [91]) (.cons (.cs [91, 91, 93]) (.cons (.cs [42]) (.cons (.cs [91, 42, 93]) (.cons (.cs [63]) (.cons (.cs [91, 63, 93]) .nil))))))))) (.cs [42])) .nil)))
    (.cons (.ite (.or2 (.cmp .ne (.sl (.var 4) .cn (.bin .add (.ci 4) (.var 1))) (.bin .add (.cs [40, 63, 115, 58]) (.bin .mul (.cs [46]) (.var 1)))) (.or2 (.cmp .ne (.sl (.var 4) (.ci (-5)) .cn) (.cs [46, 42, 41, 92, 90])) (.cmp .ne (.call "_law_signs" (.cons (.sl (.var 4) (.bin .add (.ci 4) (.var 1)) (.ci (-5))) .nil)) (.var 3)))) (.cons (.ret .cn)
    .nil) .nil)
    (.cons (.ret (.cmp .eq (.sl (.var 0) (.var 1) (.bin .add (.var 1) (.bi .len (.cons (.var 3) .nil)))) (.var 3)))
    .nil))))

/-- [script:l, numbers:l, total:l, left:l, one:c, two:c, signs:l, word:l, new:l, size:l, place:l, told:l, due:l, sum:g, list:g, replace:g, _law_overlap:g] -/
def p3_law : PSs :=
    (.cons (.asg 1 (.comp (.bin .mod (.var 1) (.bin .pow (.ci 10) (.ci 6))) 1 (.val (.sl (.bin .add (.sl (.var 0) .cn (.ci 8)) (.lst (.cons (.ci 0) (.cons (.ci 0) (.cons (.ci 1) (.cons (.ci 0) (.cons (.ci 0) (.cons (.ci 1) (.cons (.ci 1) (.cons (.ci 0) .nil)))))))))) .cn (.ci 8))) .nil [none, none]))
    (.cons (.asg 2 (.bi .sum (.cons (.var 1) .nil)))
    (.cons (.asgl 3 (.cs [97, 33, 46, 45, 93, 92, 91, 42, 63]))
    (.cons (.pop 4 3 (.bin .mod (.bin .fdiv (.var 2) (.ci 288)) (.ci 9)))
    (.cons (.asg 5 (.idx (.var 3) (.bin .mod (.bin .fdiv (.var 2) (.ci 2592)) (.ci 8))))
    (.cons (.asg 6 (.comp (.ite (.cmp .eq (.bin .mod (.var 1) (.ci 2)) (.ci 1)) (.var 3) (.var 2)) 1 (.val (.var 1)) .nil [none, none, some 4, some 5]))
    (.cons (.asg 7 (.me .join (.cs []) (.cons (.bin .add (.sl (.bin .mul (.sl (.var 6) .cn (.bin .add (.ci 1) (.bin .mod (.bin .fdiv (.var 2) (.ci 96)) (.ci 3)))) (.ci 7)) .cn (.ci 7)) (.sl (.var 6) (.ci 3) .cn)) .nil)))
    (.cons (.asg 8 (.call "replace" (.cons (.var 7) (.cons (.var 4) (.cons (.cs [57344]) (.cons (.var 5) (.cons (.bin .add (.var 5) (.var 4)) (.cons (.cs [57344]) (.cons (.bin .add (.var 4) (.var 5)) .nil)))))))))
    (.cons (.ite (.cmp .ne (.var 8) (.me .join (.cs []) (.cons (.comp (.ite (.cmp .eq (.var 1) (.var 2)) (.bin .add (.var 2) (.var 3)) (.bin .add (.var 3) (.var 2))) 1 (.val (.var 7)) .nil [none, none, some 4, some 5]) .nil))) (.cons (.ret (.cb false))
    .nil) .nil)
    (.cons (.fr 9 (.val (.tup (.cons (.bin .add (.ci 1) (.bin .mod (.var 2) (.ci 8))) (.cons (.bin .add (.ci 1) (.bin .mod (.bin .add (.var 2) (.ci 1)) (.ci 8))) .nil)))) (.cons (.asg 10 (.bin .mod (.bin .fdiv (.var 2) (.ci 8)) (.bin .sub (.ci 12) (.var 9))))
    (.cons (.asg 11 (.lst (.cons (.call "_law_overlap" (.cons (.var 8) (.cons (.bin .mul (.ci 2) (.var 10)) (.cons (.var 9) .nil)))) (.cons (.call "_law_overlap" (.cons (.var 8) (.cons (.bin .add (.bin .mul (.ci 2) (.var 10)) (.ci 1)) (.cons (.var 9) .nil)))) .nil))))
    (.cons (.asg 12 (.and2 (.cmp .eq (.bin .mod (.var 9) (.ci 2)) (.ci 0)) (.call "_law_overlap" (.cons (.var 7) (.cons (.var 10) (.cons (.bin .fdiv (.var 9) (.ci 2)) .nil))))))
    (.cons (.ite (.or2 (.cmp .inn .cn (.bin .add (.var 11) (.lst (.cons (.var 12) .nil)))) (.cmp .ne (.var 11) (.lst (.cons (.var 12) (.cons (.var 12) .nil))))) (.cons (.ret (.cb false))
    .nil) .nil)
    .nil)))))
    (.cons (.ret (.cb true))
    .nil)))))))))))
def T3 : List (String × DefE) := [("replace", ⟨2, 2, p_repl⟩), ("escape", ⟨4, 1, p_esc⟩), ("translate", ⟨6, 1, p_trans⟩), ("_translate", ⟨17, 3, p_tr⟩), ("_join_translated_parts", ⟨8, 2, p_join⟩), ("_law_signs", ⟨5, 1, p_signs⟩), ("_law_overlap", ⟨9, 3, p3_overlap⟩), ("law", ⟨17, 1, p3_law⟩)]

theorem lookup_memS {α : Type} : ∀ {l : List (String × α)} {f : String} {e : α}, l.lookup f = some e → (f, e) ∈ l
  | (g, d) :: l, f, e, h => by
    rw [List.lookup_cons] at h
    split at h
    · rename_i hq
      cases h; rw [beq_iff_eq.mp hq]; exact List.mem_cons_self
    · exact List.mem_cons_of_mem _ (lookup_memS h)
end Mine

namespace Mine
section
variable {p : Program} {mg mb : Str → Option Value} {h : Heap} {K : Frag}
theorem defAt_of {x : Str} {ps : Arguments} {b : List Stmt} {sc : Scope} {a : Addr} {o : Obj} {fd : FuncData} {c : Addr} {oc : Obj} {vs : Array Value} {t : Tok} (X : K.In h) (G : h.Ns mainGlobals mg)
    (hd : findDef p x = some (ps, b, sc)) (e1 : nsIn K mainGlobals x = some (some (.ref a))) (e2 : K.lookup a = some o) (e3 : o.data = .func fd) (e4 : fd.params = ps) (e5 : fd.body = .stmts b) (e6 : fd.scope = sc) (e7 : fd.defaults = .none) (e8 : fd.closure = [])
    (e9 : fd.globals = mainGlobals) (e10 : fd.builtins = builtinsNs) (e11 : fd.code = .ref c) (e12 : K.lookup c = some oc) (e13 : oc.data = .fields vs) (e14 : oc.cls ≠ .none) (e15 : vs[1]? = some (.str fd.qualname t)) (e16 : (slotOf sc "stuff").isSome = true → c = CT) : DefAt p mg h x :=
  ⟨ps, b, sc, a, fd, o, c, oc, vs, t, hd, mg_of X G e1, X _ _ e2, e3, e4, e5, e6, e7, e8, e9, e10, e11, X _ _ e12, noTab_cls e14, e13, e15, e16⟩

theorem base_of {loose : List Str} {mean : ExcName → Option Value} {q : Program} {oc : Obj} {vs : Array Value} {file : Str} {flags text : Int} {inF : Bool} {tf tg tt : Tok} {fs : Array Value} {xs : Array Value} {n : Nat} {cr : Value} (T : Top q loose mean mg mb h) (X : K.In h)
    (e1 : K.lookup PT = some { cls := .none, data := .fields #[] })
    (e2 : ∀ p ∈ biTab, p.1 ∉ startupNames ∧ p.1 ∉ loose ∧ p.1 ∉ (recsOf q).map (·.name) ∧ p.1 ∉ (litsOf q).map (·.1) ∧ p.1 ∉ (clssOf q loose).map (·.name)) (e3 : ∀ p ∈ biTab, p.1 ≠ "__name__" ∧ bootBuiltins p.1 = some p.2)
    (e4 : K.lookup CT = some oc) (e5 : oc.cls = .type "code") (e6 : oc.data = .fields vs) (e7 : vs[11]? = some (.ref PT)) (e8 : vs.getD 11 .none = .ref PT) (e9 : vs.getD 18 .none = .str file tf) (e10 : vs.getD 7 .none = .int flags tg) (e11 : vs.getD 9 .none = .bool inF) (e12 : vs.getD 10 .none = .int text tt)
    (e13 : nsIn K mainGlobals "_special_chars_map" = some (some (.ref spA))) (e14 : nsIn K mainGlobals "_twin_re_1" = some (some (.ref reA)))
    (e15 : K.lookup reA = some { cls := .type "re.Pattern", data := .fields fs }) (e16 : PySem.Builtin.Re.reRawNat (fs.getD 6 .none) = 0) (e17 : fs.getD 5 .none = .ref reC) (e18 : K.lookup reC = some { cls := cr, data := .seq xs n }) (e19 : xs.toList.map (fun v => (PySem.Builtin.Re.reRawOf v).toNat) = reCode.toList) : Base mg mb h where
  nsg := T.g
  nsb := T.b
  pt := ⟨#[], X _ _ e1, trivial⟩
  bis := fun p hp => ⟨by obtain ⟨h1, h2, h3, h4, h5⟩ := e2 p hp; exact T.free _ h1 h2 h3 h4 h5, by rw [T.builtins _ (e3 p hp).1]; exact (e3 p hp).2⟩
  cod := ⟨_, vs, file, tf, flags, tg, inF, text, tt, X _ _ e4, e5, e6, e7, e8, e9, e10, e11, e12, by decide⟩
  bat := by
    obtain ⟨bm, ob, b1, b2, b3, b4, b5, b6⟩ := T.bmain
    refine ⟨bm, ob, b1, b2, fun q => ?_, fun q => ?_, b3, b4, b5, b6⟩
    · obtain ⟨o, es, ep, e, hd, _⟩ := T.g
      rw [q, e] at b3; cases b3; rw [hd] at b6; cases b6
    · rw [q, X _ _ e1] at b3; cases b3; cases b4
  lim := T.nolimit
  sp := mg_of X T.g e13
  re := mg_of X T.g e14
  reo := ⟨⟨fs, X _ _ e15, e16, e17⟩, ⟨xs, _, n, X _ _ e18, rfl, Array.ext' (by rw [← e19, Array.toList_map, Array.toList_map, List.map_map]; rfl)⟩⟩

theorem goodWG_of {c : ClaimW} {cl : Str → Option Addr} {mean : ExcName → Option Value} {args : List WData} {s₁ s' : Shared} {v : Value} (base : Base mg mb s₁.heap) (hg : s₁.gens = #[]) (hv : v = .bool true) (k : Keeps s₁ s') (hn : ∀ cls, c.raises args cls = false) (hp : c.post args (.bool true) args = true) :
    GoodWG c cl mean args s₁ (.ok (.ret v)) s' := by
  subst hv
  have hk := kheap k
  obtain ⟨h', t, g, rfl, k1, k2⟩ := k
  exact ⟨.inl ⟨.bool true, .bool true, [], rfl, hn, .bool true, hp, fun _ => ⟨List.nodup_nil, fun a ha => (nomatch ha)⟩⟩, oldK_of base hk, rfl, k2 (.of_eq hg)⟩
end
end Mine

namespace Mine
set_option maxHeartbeats 0 in
theorem def3 : ∀ f e, T3.lookup f = some e → defIs PySem.Challenge.pw_ij0085_03 (Str.ofString f) = some e := by
  intro f e h
  have h' := lookup_memS h
  simp only [T3, List.mem_cons, List.not_mem_nil, or_false, Prod.mk.injEq] at h'
  rcases h' with h' | h' | h' | h' | h' | h' | h' | h' <;> (obtain ⟨rfl, rfl⟩ := h'; rfl)
end Mine

namespace Mine

structure Std (T : List (String × DefE)) : Prop where
  repl : T.lookup "replace" = some ⟨2, 2, p_repl⟩
  esc : T.lookup "escape" = some ⟨4, 1, p_esc⟩
  trans : T.lookup "translate" = some ⟨6, 1, p_trans⟩
  tr : T.lookup "_translate" = some ⟨17, 3, p_tr⟩
  join : T.lookup "_join_translated_parts" = some ⟨8, 2, p_join⟩
  signs : T.lookup "_law_signs" = some ⟨5, 1, p_signs⟩
theorem std3 : Std T3 := ⟨rfl, rfl, rfl, rfl, rfl, rfl⟩

theorem whIt_step {test : St → Option Bool} {body : St → Option (St × PF)} {n : Nat} {σ σ' : St} (ht : test σ = some true) (hb : body σ = some (σ', .next)) : whIt test body (n + 1) σ = whIt test body n σ' := by
  rw [whIt, ht, hb]
theorem whIt_stop {test : St → Option Bool} {body : St → Option (St × PF)} {n : Nat} {σ : St} (ht : test σ = some false) : whIt test body (n + 1) σ = some (σ, .next) := by
  rw [whIt, ht]
theorem whIt_brk {test : St → Option Bool} {body : St → Option (St × PF)} {n : Nat} {σ σ' : St} (ht : test σ = some true) (hb : body σ = some (σ', .brk)) : whIt test body (n + 1) σ = some (σ', .next) := by
  rw [whIt, ht, hb]

theorem run_eq {T : List (String × DefE)} {f : String} {e : DefE} {n : Nat} {as : List PV} (h : T.lookup f = some e) (h0 : f ≠ "%sub") (h1 : (Str.ofString f == ("replace" : Str)) = false) (h2 : (Str.ofString f == ("translate" : Str)) = false) (hl : as.length = e.m) :
    runF T (n + 1) f as = pfun FUEL (runF T n) e.k e.b as := by
  show stepF T (runF T n) _ _ = _
  unfold stepF
  rw [if_neg h0, h]
  simp only [h1, h2, Bool.false_eq_true, if_false, hl, if_true]

theorem esc_run {T : List (String × DefE)} (S : Std T) (n : Nat) (c : Nat) : runF T (n + 1) "escape" [.str [c]] = some (.str (pesc c)) := by
  rw [run_eq S.esc (by decide) (by decide +kernel) (by decide +kernel) rfl]
  rfl
theorem sub_run {T : List (String × DefE)} (n : Nat) {l : List Nat} (h : subOk l = true) : runF T (n + 1) "%sub" [.str l] = some (.str l) := by
  show stepF T (runF T n) _ _ = _
  unfold stepF; rw [if_pos rfl]
  simp [h]

/-! replace -/
def flatP : List (List Nat × List Nat) → List PV
  | [] => []
  | (a, b) :: r => .str a :: .str b :: flatP r
def prepl : List (List Nat × List Nat) → List Nat → List Nat
  | [], x => x
  | (a, b) :: r, x => prepl r (preplace x a b)
def okRepl : List (List Nat × List Nat) → List Nat → Prop
  | [], _ => True
  | (a, b) :: r, x => a ≠ [] ∧ x.length ≤ LIM ∧ ((psplit a x).map List.length).sum + (psplit a x).length * b.length ≤ LIM ∧ okRepl r (preplace x a b)

theorem pstrs_map : ∀ l : List (List Nat), pstrs (l.map .str) = some l
  | [] => rfl
  | x :: r => by simp [pstrs, pstrs_map r]
theorem flatP_len : ∀ l : List (List Nat × List Nat), (flatP l).length = 2 * l.length
  | [] => rfl
  | (a, b) :: r => by simp [flatP, flatP_len r]; omega

theorem repl_loop {F : PF1} : ∀ (ps : List (List Nat × List Nat)) (x : List Nat) (n : Nat), ps.length < n → 2 * ps.length ≤ LIM → okRepl ps x →
    whIt (fun σ => pt F σ.O σ.G (.var 1)) (fun σ => exs FUEL F (.cons (.asg 0 (.me .join (.idx (.var 1) (.ci 1)) (.cons (.me .split (.var 0) (.cons (.idx (.var 1) (.ci 0)) .nil)) .nil))) (.cons (.asg 1 (.sl (.var 1) (.ci 2) .cn)) .nil)) σ) n
      ⟨[some (.str x), some (.tup (flatP ps))], []⟩ = some (⟨[some (.str (prepl ps x)), some (.tup [])], []⟩, .next)
  | [], x, 0, h, _, _ => by simp at h
  | [], x, n + 1, _, _, _ => whIt_stop (by simp [pt, ptruth, flatP, LIM])
  | (a, b) :: ps, x, 0, h, _, _ => by simp at h
  | (a, b) :: ps, x, n + 1, h, hl, ho => by
    have hl' : 2 * ps.length + 2 ≤ LIM := by simp at hl; omega
    obtain ⟨o1, o2, o3, o4⟩ := ho
    have hlen := flatP_len ps
    have hL : LIM = 1048576 := rfl
    rw [whIt_step (σ' := ⟨[some (.str (preplace x a b)), some (.tup (flatP ps))], []⟩)]
    · exact repl_loop ps _ n (by simp at h; omega) (by omega) o4
    · simp [pt, ptruth, flatP, hlen]; omega
    · have e1 : ¬ LIM < x.length := by omega
      simp [exs, ex, ev, evs, pitem, pidx, pme, flatP, pstrs_map, asL, o1, o2, o3, St.put, pslc, ppart, preplace, e1, hlen]
      rw [if_pos (by constructor <;> omega)]

theorem repl_run {T : List (String × DefE)} (S : Std T) (n : Nat) {ps : List (List Nat × List Nat)} {x : List Nat} (hl : ps.length ≤ 1000) (ho : okRepl ps x) : runF T (n + 1) "replace" (.str x :: flatP ps) = some (.str (prepl ps x)) := by
  have hL : LIM = 1048576 := rfl
  show stepF T (runF T n) _ _ = _
  unfold stepF
  rw [if_neg (by decide), S.repl]
  simp only [show (Str.ofString "replace" == ("replace" : Str)) = true by decide +kernel, if_true, flatP_len]
  rw [if_pos (by omega)]
  have := repl_loop (F := runF T n) ps x FUEL (by show ps.length < 4096; omega) (by omega) ho
  unfold pfun p_repl
  simp only [exs, ex] at this ⊢
  simp only [List.map_cons, List.map_nil, List.length_cons, List.length_nil, List.replicate, List.append_nil, Nat.sub_self]
  rw [this]
  simp [ev, frzN, frzV, noOwn]
end Mine

namespace Mine

def whBody : PSs → PSs
  | .cons (.wh _ b) _ => b
  | .cons _ r => whBody r
  | .nil => .nil
def trBody : PSs := whBody p_tr
/-- the state of `_translate`'s loop -/
def trS (pat : List Nat) (i n : Int) (res : List PV) (x7 x8 x9 x10 x11 x12 : Option PV) : St :=
  ⟨[some (.str pat), some .star, some (.str [46]), some (.own 0), some (.app 0), some (.int i), some (.int n), x7, x8, x9, x10, x11, x12, none, none, none, none], [some res]⟩

/-- the signs of a pattern -/
inductive Tk where
  | star | q | lit (c : Nat) | br (c : Nat)
def Tk.ok : Tk → Bool
  | .lit c => !(c == 42 || c == 63 || c == 91)
  | .br c => c == 91 || c == 42 || c == 63
  | _ => true
def Tk.pat : Tk → List Nat
  | .star => [42] | .q => [63] | .lit c => [c] | .br c => [91, c, 93]
def brT (c : Nat) : List Nat := if c = 91 then [91, 92, 91, 93] else [91, c, 93]
def addTk (res : List PV) : Tk → List PV
  | .star => match res.getLast? with | some .star => res | _ => res ++ [.star]
  | .q => res ++ [.str [46]]
  | .lit c => res ++ [.str (pesc c)]
  | .br c => res ++ [.str (brT c)]
/-- texts and stars -/
def partOk : PV → Bool
  | .star => true
  | .str _ => true
  | _ => false

theorem exs_next {n : Nat} {F : PF1} {p : PS} {r : PSs} {σ σ' : St} {R : Option (St × PF)} (h : ex n F p σ = some (σ', .next)) (h2 : exs n F r σ' = R) : exs n F (.cons p r) σ = R := by
  rw [exs, h]; exact h2
theorem exs_one {n : Nat} {F : PF1} {p : PS} {σ σ' : St} (h : ex n F p σ = some (σ', .next)) : exs n F (.cons p .nil) σ = some (σ', .next) := exs_next h (by rw [exs])
theorem exs_stop {n : Nat} {F : PF1} {p : PS} {r : PSs} {σ σ' : St} {f : PF} (h : ex n F p σ = some (σ', f)) (hf : f ≠ .next) : exs n F (.cons p r) σ = some (σ', f) := by
  rw [exs, h]
  cases f with
  | next => exact absurd rfl hf
  | _ => rfl
theorem ite_t {n : Nat} {F : PF1} {c : PE} {a b : PSs} {σ : St} {R : Option (St × PF)} (h : pt F σ.O σ.G c = some true) (h2 : exs n F a σ = R) : ex n F (.ite c a b) σ = R := by
  rw [ex, h]; exact h2
theorem ite_f {n : Nat} {F : PF1} {c : PE} {a b : PSs} {σ : St} {R : Option (St × PF)} (h : pt F σ.O σ.G c = some false) (h2 : exs n F b σ = R) : ex n F (.ite c a b) σ = R := by
  rw [ex, h]; exact h2

section
variable {F : PF1} {pat : List Nat} {i n : Int} {res : List PV} {x7 x8 x9 x10 x11 x12 : Option PV}
def Iter (F : PF1) (σ : St) (P : St → Prop) : Prop := ∃ σ', exs FUEL F trBody σ = some (σ', .next) ∧ P σ'

theorem tr_q (hi : pidx pat i = some 63) (hr : res.length ≤ LIM) (hb : i.natAbs < 2 ^ 62) :
    exs FUEL F trBody (trS pat i n res x7 x8 x9 x10 x11 x12) = some (trS pat (i + 1) n (res ++ [.str [46]]) (some (.str [63])) x8 x9 x10 x11 x12, .next) := by
  simp [trBody, p_tr, whBody, trS, exs, ex, ev, evs, pt, pitem, hi, hb, St.put, pbin, pcmp, peq, St.appAt, hr, St.putO]
theorem tr_lit {c : Nat} (hF : F "escape" [.str [c]] = some (.str (pesc c))) (hi : pidx pat i = some c) (h1 : c ≠ 42) (h2 : c ≠ 63) (h3 : c ≠ 91) (hr : res.length ≤ LIM) (hb : i.natAbs < 2 ^ 62) :
    exs FUEL F trBody (trS pat i n res x7 x8 x9 x10 x11 x12) = some (trS pat (i + 1) n (res ++ [.str (pesc c)]) (some (.str [c])) x8 x9 x10 x11 x12, .next) := by
  simp [trBody, p_tr, whBody, trS, exs, ex, ev, evs, pt, pitem, hi, hb, St.put, pbin, pcmp, peq, St.appAt, hr, St.putO, h1, h2, h3, hF, noOwnL, noOwn]

theorem pidx_last {α : Type} (l : List α) : pidx l (-1) = l.getLast? := by
  unfold pidx
  rw [if_neg (by decide)]
  cases l with
  | nil => rfl
  | cons x r =>
    rw [if_pos (by simp; omega), List.getLast?_eq_getElem?]
    congr 1
    simp; omega

theorem pt_not {F : PF1} {O : Owns} {G : Slots} {a : PE} {b : Bool} (h : pt F O G a = some b) : pt F O G (.not a) = some (!b) := by
  rw [pt, h]; rfl
theorem tr_star (hi : pidx pat i = some 42) (hr : res.length ≤ LIM) (hb : i.natAbs < 2 ^ 62) (hp : ∀ v ∈ res, partOk v = true) :
    exs FUEL F trBody (trS pat i n res x7 x8 x9 x10 x11 x12) = some (trS pat (i + 1) n (addTk res .star) (some (.str [42])) x8 x9 x10 x11 x12, .next) := by
  unfold trBody p_tr
  simp only [whBody]
  refine exs_next (σ' := trS pat i n res (some (.str [42])) x8 x9 x10 x11 x12) (by simp [ex, ev, trS, pitem, hi, hb, St.put]) ?_
  refine exs_next (σ' := trS pat (i + 1) n res (some (.str [42])) x8 x9 x10 x11 x12) (by simp [ex, ev, trS, pbin, St.put]) ?_
  refine exs_one (ite_t (by simp [pt, ev, trS, pcmp, peq]) ?_)
  have hpt : ∀ b : Bool, (res.getLast? = some .star) = (b = false) → pt F (trS pat (i + 1) n res (some (.str [42])) x8 x9 x10 x11 x12).O (trS pat (i + 1) n res (some (.str [42])) x8 x9 x10 x11 x12).G (.or2 (.not (.var 3)) (.cmp .isn (.idx (.var 3) (.ci (-1))) (.var 1))) = some b := by
    intro b hbb
    rw [pt, pt]
    have e1 : pt F (trS pat (i + 1) n res (some (.str [42])) x8 x9 x10 x11 x12).O (trS pat (i + 1) n res (some (.str [42])) x8 x9 x10 x11 x12).G (.var 3) = some (!res.isEmpty) := by
      simp [pt, trS, ptruth, asL, hr]
    rw [e1]
    cases res with
    | nil =>
      simp at hbb
      simp [hbb]
    | cons v r =>
      simp only [List.isEmpty_cons, Bool.not_false, Option.map_some, Bool.not_true, Option.bind_some, Bool.false_eq_true, if_false]
      have hl : ∃ u, (v :: r).getLast? = some u := ⟨_, List.getLast?_eq_some_getLast (by simp)⟩
      obtain ⟨u, hu⟩ := hl
      have hpu := hp u (List.mem_of_getLast? hu)
      rw [hu] at hbb
      simp only [pt, ev, trS, List.getElem?_cons_succ, List.getElem?_cons_zero, Option.bind_some, pitem, show ((-1 : Int).natAbs < 2 ^ 62) from by decide, if_true, asL, pidx_last, hu, pcmp]
      cases u with
      | star => simp at hbb; simp [pis, hbb]
      | str l => simp at hbb; simp [pis, hbb]
      | _ => simp [partOk] at hpu
  by_cases hs : res.getLast? = some .star
  · have e2 : addTk res .star = res := by simp only [addTk, hs]
    rw [e2]
    exact exs_one (ite_f (hpt false (by simp [hs])) (by rw [exs]))
  · have e2 : addTk res .star = res ++ [.star] := by
      simp only [addTk]
    rw [e2]
    refine exs_one (ite_t (hpt true (by simp [hs])) (exs_one ?_))
    simp [ex, ev, trS, St.appAt, hr, St.putO]

theorem pisIn_11 (a c : Nat) : pisIn [a] [c] = (a == c) := by
  simp [pisIn, List.isPrefixOf]
theorem pin_hat (O : Owns) {c : Nat} (h : c = 42 ∨ c = 63) : pin O (.str [c]) (.tup [.str [94], .str [91]]) = some false := by
  rcases h with rfl | rfl <;> rfl
theorem pin_hat1 (O : Owns) : pin O (.str [91]) (.tup [.str [94], .str [91]]) = some true := rfl
theorem tr_br {c : Nat} (hF : F "%sub" [.str [c]] = some (.str [c])) (hc : c = 91 ∨ c = 42 ∨ c = 63) (h0 : pidx pat i = some 91) (h1 : pidx pat (i + 1) = some c) (h2 : pidx pat (i + 1 + 1) = some 93) (hsl : pslice pat (some (i + 1)) (some (i + 1 + 1)) = [c]) (hn : i + 2 < n)
    (hL : pat.length ≤ LIM) (hr : res.length ≤ LIM) (hb : i.natAbs < 2 ^ 61) :
    ∃ y7 y8 y9, exs FUEL F trBody (trS pat i n res x7 x8 x9 x10 x11 x12) = some (trS pat (i + 3) n (res ++ [.str (brT c)]) y7 y8 y9 x10 x11 x12, .next) := by
  have b0 : i.natAbs < 2 ^ 62 := by omega
  have b1 : (i + 1).natAbs < 2 ^ 62 := by omega
  have b2 : (i + 1 + 1).natAbs < 2 ^ 62 := by omega
  have n1 : i + 1 < n := by omega
  have n2 : i + 1 + 1 < n := by omega
  have n3 : ¬ n ≤ i + 1 + 1 := by omega
  have e3 : i + 1 + 1 + 1 = i + 3 := by omega
  have hc1 : c ≠ 33 := by omega
  have hc2 : c ≠ 93 := by omega
  have hc3 : c ≠ 45 := by omega
  have hc4 : c ≠ 92 := by omega
  have hw : ∀ (t : St → Option Bool) (b : St → Option (St × PF)) (σ σ' : St), t σ = some true → b σ = some (σ', .next) → t σ' = some false → whIt t b FUEL σ = some (σ', .next) := fun t b σ σ' q1 q2 q3 => by
    show whIt t b (4094 + 1 + 1) σ = _
    rw [whIt_step q1 q2, whIt_stop q3]
  refine ⟨some (.str [91]), some (.int (i + 1 + 1)), some (.str (if c = 91 then [92, c] else [c])), ?_⟩
  unfold trBody p_tr
  simp only [whBody]
  refine exs_next (σ' := trS pat i n res (some (.str [91])) x8 x9 x10 x11 x12) (by simp [ex, ev, trS, pitem, h0, b0, St.put]) ?_
  refine exs_next (σ' := trS pat (i + 1) n res (some (.str [91])) x8 x9 x10 x11 x12) (by simp [ex, ev, trS, pbin, St.put]) ?_
  refine exs_one (ite_f (by simp [pt, ev, trS, pcmp, peq]) ?_)
  refine exs_one (ite_f (by simp [pt, ev, trS, pcmp, peq]) ?_)
  refine exs_one (ite_t (by simp [pt, ev, trS, pcmp, peq]) ?_)
  refine exs_next (σ' := trS pat (i + 1) n res (some (.str [91])) (some (.int (i + 1))) x9 x10 x11 x12) (by simp [ex, ev, trS, St.put]) ?_
  refine exs_next (ite_f (by simp [pt, ev, trS, pcmp, peq, pitem, h1, b1, n1, hc1]) (by rw [exs])) ?_
  refine exs_next (ite_f (by simp [pt, ev, trS, pcmp, peq, pitem, h1, b1, n1, hc2]) (by rw [exs])) ?_
  refine exs_next (σ' := trS pat (i + 1) n res (some (.str [91])) (some (.int (i + 1 + 1))) x9 x10 x11 x12) ?_ ?_
  · rw [ex]
    refine hw _ _ _ _ ?_ ?_ ?_
    · simp [pt, ev, trS, pcmp, peq, pitem, h1, b1, n1, hc2]
    · refine exs_one ?_
      simp [ex, ev, trS, pbin, St.put]
    · simp [pt, ev, trS, pcmp, peq, pitem, h2, b2, n2]
  refine exs_one (ite_f (by simp [pt, ev, trS, pcmp, n3] <;> omega) ?_)
  refine exs_next (σ' := trS pat (i + 1) n res (some (.str [91])) (some (.int (i + 1 + 1))) (some (.str [c])) x10 x11 x12) (by simp [ex, ev, trS, pslc, ppart, hL, hsl, St.put]) ?_
  refine exs_next (ite_t (by simp [pt, ev, trS, pcmp, pin, pisIn_11] <;> omega) (exs_one (σ' := trS pat (i + 1) n res (some (.str [91])) (some (.int (i + 1 + 1))) (some (.str [c])) x10 x11 x12) (by simp [ex, ev, evs, trS, pme, pisIn_11, St.put] <;> omega))) ?_
  refine exs_next (σ' := trS pat (i + 1) n res (some (.str [91])) (some (.int (i + 1 + 1))) (some (.str [c])) x10 x11 x12) (by simp [ex, ev, trS, hF, St.put]) ?_
  refine exs_next (σ' := trS pat (i + 3) n res (some (.str [91])) (some (.int (i + 1 + 1))) (some (.str [c])) x10 x11 x12) (by simp [ex, ev, trS, pbin, St.put, e3]) ?_
  have hL2 : LIM = 1048576 := rfl
  refine exs_one (ite_f (by simp [pt, ev, trS, ptruth, hL2]) ?_)
  refine exs_one (ite_f (by simp [pt, ev, trS, pcmp, peq, hc1]) ?_)
  refine exs_next (σ' := trS pat (i + 3) n res (some (.str [91])) (some (.int (i + 1 + 1))) (some (.str (if c = 91 then [92, c] else [c]))) x10 x11 x12) ?_ ?_
  · refine ite_f (by simp [pt, ev, trS, pcmp, peq, pitem, pidx, hc1]) (exs_one ?_)
    by_cases h9 : c = 91
    · subst h9
      refine ite_t (by simp [pt, ev, evs, trS, pcmp, pitem, pidx, pin_hat1]) (exs_one ?_)
      simp [ex, ev, trS, pbin, St.put, hL2]
    · have h94 : c ≠ 94 := by omega
      refine ite_f ?_ (by simp [exs, h9])
      have h10 : c = 42 ∨ c = 63 := by omega
      simp [pt, ev, evs, trS, pcmp, pitem, pidx, pin_hat _ h10]
  · refine exs_one ?_
    by_cases h9 : c = 91
    · subst h9
      simp [ex, ev, evs, trS, St.appAt, St.putO, pstrs, hL2, brT] <;> omega
    · simp [ex, ev, evs, trS, St.appAt, St.putO, pstrs, hL2, brT, h9] <;> omega
end

end Mine

namespace Mine
theorem pidx_mid (pre : List Nat) (c : Nat) (post : List Nat) : pidx (pre ++ c :: post) (pre.length : Int) = some c := by
  unfold pidx
  rw [if_pos (by omega)]
  simp
theorem pidx_off (pre : List Nat) (l : List Nat) (k : Nat) {i : Int} (h : i = pre.length + k) : pidx (pre ++ l) i = l[k]? := by
  subst h
  unfold pidx
  rw [if_pos (by omega), show ((pre.length : Int) + (k : Int)).toNat = pre.length + k by omega]
  rw [List.getElem?_append_right (by omega)]
  congr 1; omega
theorem pslice_mid (pre mid post : List Nat) {i j : Int} (hi : i = pre.length) (hj : j = pre.length + mid.length) : pslice (pre ++ mid ++ post) (some i) (some j) = mid := by
  subst hi; subst hj
  unfold pslice phi plo pclamp
  dsimp only
  have h1 : ¬ ((pre.length : Int) < 0) := by omega
  have h2 : ¬ ((pre.length : Int) + (mid.length : Int) < 0) := by omega
  rw [if_neg h1, if_neg h2]
  have e1 : min ((pre.length : Int) + (mid.length : Int)).toNat (pre ++ mid ++ post).length = (pre ++ mid).length := by simp <;> omega
  have e2 : min ((pre.length : Int)).toNat (pre ++ mid ++ post).length = pre.length := by simp <;> omega
  rw [e1, e2, List.take_left' rfl, List.drop_left' rfl]

theorem addTk_ok {res : List PV} {t : Tk} (h : ∀ v ∈ res, partOk v = true) : ∀ v ∈ addTk res t, partOk v = true := by
  have app : ∀ w, partOk w = true → ∀ v ∈ res ++ [w], partOk v = true := fun w hw v hv => by
    rcases List.mem_append.mp hv with hv | hv
    · exact h v hv
    · rw [List.mem_singleton.mp hv]; exact hw
  cases t with
  | star =>
    by_cases hs : res.getLast? = some .star
    · simp only [addTk, hs]; exact h
    · have : addTk res .star = res ++ [.star] := by
        simp only [addTk]
      rw [this]; exact app _ rfl
  | q => exact app _ rfl
  | lit c => exact app _ rfl
  | br c => exact app _ rfl
theorem addTk_len (res : List PV) (t : Tk) : (addTk res t).length ≤ res.length + 1 := by
  cases t <;> simp only [addTk] <;> (try split) <;> simp

/-- what the loop needs of the evaluator below -/
structure Low (F : PF1) : Prop where
  esc : ∀ c, F "escape" [.str [c]] = some (.str (pesc c))
  sub : ∀ l, subOk l = true → F "%sub" [.str l] = some (.str l)
theorem low_run {T : List (String × DefE)} (S : Std T) (n : Nat) : Low (runF T (n + 1)) := ⟨esc_run S n, fun _ => sub_run n⟩

def patOf (ts : List Tk) : List Nat := (ts.map Tk.pat).flatten

theorem tr_loop {F : PF1} (L : Low F) : ∀ (ts : List Tk) (pre : List Nat) (res : List PV) (fuel : Nat) (x7 x8 x9 x10 x11 x12 : Option PV), (∀ t ∈ ts, t.ok = true) → ts.length < fuel → (pre ++ patOf ts).length ≤ LIM → res.length + ts.length ≤ LIM → (∀ v ∈ res, partOk v = true) →
    ∃ y7 y8 y9 y10 y11 y12, whIt (fun σ => pt F σ.O σ.G (.cmp .lt (.var 5) (.var 6))) (fun σ => exs FUEL F trBody σ) fuel (trS (pre ++ patOf ts) pre.length (pre ++ patOf ts).length res x7 x8 x9 x10 x11 x12) =
      some (trS (pre ++ patOf ts) (pre ++ patOf ts).length (pre ++ patOf ts).length (ts.foldl addTk res) y7 y8 y9 y10 y11 y12, .next)
  | [], pre, res, 0, _, _, _, _, _, _, _, h, _, _, _ => by simp at h
  | [], pre, res, fuel + 1, x7, x8, x9, x10, x11, x12, _, _, _, _, _ => by
    refine ⟨x7, x8, x9, x10, x11, x12, ?_⟩
    have e : patOf [] = [] := rfl
    rw [e, List.append_nil, List.foldl_nil]
    exact whIt_stop (by simp [pt, ev, trS, pcmp])
  | t :: ts, pre, res, 0, _, _, _, _, _, _, _, h, _, _, _ => by simp at h
  | t :: ts, pre, res, fuel + 1, x7, x8, x9, x10, x11, x12, hok, hf, hl, hr, hp => by
    have hL : LIM = 1048576 := rfl
    have hpat : patOf (t :: ts) = t.pat ++ patOf ts := rfl
    have hr' : res.length ≤ LIM := by omega
    have hb : ((pre.length : Nat) : Int).natAbs < 2 ^ 61 := by rw [Int.natAbs_natCast]; simp at hl; omega
    have hb2 : ((pre.length : Nat) : Int).natAbs < 2 ^ 62 := by omega
    have ho := hok t List.mem_cons_self
    have hpos : 0 < t.pat.length := by cases t <;> simp [Tk.pat]
    have htest : ∀ x7 x8 x9 x10 x11 x12, pt F (trS (pre ++ patOf (t :: ts)) pre.length (pre ++ patOf (t :: ts)).length res x7 x8 x9 x10 x11 x12).O (trS (pre ++ patOf (t :: ts)) pre.length (pre ++ patOf (t :: ts)).length res x7 x8 x9 x10 x11 x12).G (.cmp .lt (.var 5) (.var 6)) = some true := by
      intro _ _ _ _ _ _
      have : (pre.length : Int) < ((pre ++ patOf (t :: ts)).length : Int) := by rw [hpat]; simp; omega
      simp only [pt, ev, trS, List.getElem?_cons_succ, List.getElem?_cons_zero, Option.bind_some, pcmp, this, decide_true]
    have hstep : ∃ y7 y8 y9 y10 y11 y12, exs FUEL F trBody (trS (pre ++ patOf (t :: ts)) pre.length (pre ++ patOf (t :: ts)).length res x7 x8 x9 x10 x11 x12) =
        some (trS (pre ++ patOf (t :: ts)) (pre ++ t.pat).length (pre ++ patOf (t :: ts)).length (addTk res t) y7 y8 y9 y10 y11 y12, .next) := by
      rw [hpat]
      cases t with
      | star =>
        refine ⟨some (.str [42]), x8, x9, x10, x11, x12, ?_⟩
        rw [tr_star (by simp only [Tk.pat]; exact pidx_mid pre 42 _) hr' hb2 hp]
        simp [Tk.pat]
      | q =>
        refine ⟨some (.str [63]), x8, x9, x10, x11, x12, ?_⟩
        rw [tr_q (by simp only [Tk.pat]; exact pidx_mid pre 63 _) hr' hb2]
        simp [Tk.pat, addTk]
      | lit c =>
        simp only [Tk.ok, Bool.not_eq_true', Bool.or_eq_false_iff, beq_eq_false_iff_ne] at ho
        refine ⟨some (.str [c]), x8, x9, x10, x11, x12, ?_⟩
        rw [tr_lit (L.esc c) (by simp only [Tk.pat]; exact pidx_mid pre c _) ho.1.1 ho.1.2 ho.2 hr' hb2]
        simp [Tk.pat, addTk]
      | br c =>
        simp only [Tk.ok, Bool.or_eq_true, beq_iff_eq] at ho
        have hs : subOk [c] = true := by
          rcases ho with (rfl | rfl) | rfl <;> rfl
        obtain ⟨y7, y8, y9, e⟩ := tr_br (F := F) (pat := pre ++ (Tk.br c).pat ++ patOf ts) (i := pre.length) (n := (pre ++ ((Tk.br c).pat ++ patOf ts)).length) (res := res) (x7 := x7) (x8 := x8) (x9 := x9) (x10 := x10) (x11 := x11) (x12 := x12) (L.sub _ hs) (by omega)
          (by rw [List.append_assoc]; exact pidx_off pre _ 0 (by simp)) (by rw [List.append_assoc]; exact pidx_off pre _ 1 (by simp)) (by rw [List.append_assoc]; exact pidx_off pre _ 2 (by simp <;> omega))
          (by rw [show pre ++ (Tk.br c).pat ++ patOf ts = (pre ++ [91]) ++ [c] ++ (93 :: patOf ts) by simp [Tk.pat]]; exact pslice_mid _ _ _ (by simp) (by simp)) (by simp [Tk.pat]; omega) (by simp [Tk.pat, hpat] at hl ⊢; omega) hr' hb
        rw [List.append_assoc] at e
        refine ⟨y7, y8, y9, x10, x11, x12, ?_⟩
        rw [e]
        simp [Tk.pat, addTk]
    obtain ⟨y7, y8, y9, y10, y11, y12, e⟩ := hstep
    rw [whIt_step (htest _ _ _ _ _ _) e]
    have := tr_loop L ts (pre ++ t.pat) (addTk res t) fuel y7 y8 y9 y10 y11 y12 (fun u hu => hok u (List.mem_cons_of_mem _ hu)) (by simp at hf; omega) (by rw [List.append_assoc, ← hpat]; exact hl) (by have := addTk_len res t; simp at hr; omega) (addTk_ok hp)
    rw [List.append_assoc, ← hpat] at this
    exact this
end Mine

namespace Mine

theorem foldl_ok : ∀ (ts : List Tk) (res : List PV), (∀ v ∈ res, partOk v = true) → ∀ v ∈ ts.foldl addTk res, partOk v = true
  | [], _, h => h
  | t :: ts, res, h => foldl_ok ts (addTk res t) (addTk_ok h)
theorem noOwn_part : ∀ {l : List PV}, (∀ v ∈ l, partOk v = true) → noOwnL l = true
  | [], _ => rfl
  | v :: r, h => by
    have h1 := h v List.mem_cons_self
    simp only [noOwnL, Bool.and_eq_true]
    refine ⟨?_, noOwn_part fun u hu => h u (List.mem_cons_of_mem _ hu)⟩
    cases v <;> simp [partOk] at h1 <;> rfl

theorem tr_run {T : List (String × DefE)} (S : Std T) (n : Nat) {ts : List Tk} (hok : ∀ t ∈ ts, t.ok = true) (h1 : ts.length ≤ 4000) (h2 : (patOf ts).length ≤ 100000) :
    runF T (n + 2) "_translate" [.str (patOf ts), .star, .str [46]] = some (.list (ts.foldl addTk [])) := by
  have hL : LIM = 1048576 := rfl
  rw [run_eq S.tr (by decide) (by decide +kernel) (by decide +kernel) rfl]
  obtain ⟨y7, y8, y9, y10, y11, y12, e⟩ := tr_loop (low_run S n) ts [] [] FUEL none none none none none none hok (by show ts.length < 4096; omega) (by simp; omega) (by simp; omega) (by simp)
  have hno : noOwnL (ts.foldl addTk []) = true := noOwn_part (foldl_ok ts [] (by simp))
  simp only [List.nil_append, List.length_nil] at e
  have hx : exs FUEL (runF T (n + 1)) p_tr ⟨[PV.str (patOf ts), .star, .str [46]].map some ++ List.replicate (17 - 3) none, []⟩ =
      some (trS (patOf ts) (patOf ts).length (patOf ts).length (ts.foldl addTk []) y7 y8 y9 y10 y11 y12, .ret (.list (ts.foldl addTk []))) := by
    unfold p_tr
    refine exs_next (σ' := ⟨[some (.str (patOf ts)), some .star, some (.str [46]), some (.own 0)] ++ List.replicate 13 none, [some []]⟩) (by simp [ex, evs, St.new, List.replicate]) ?_
    refine exs_next (σ' := ⟨[some (.str (patOf ts)), some .star, some (.str [46]), some (.own 0), some (.app 0)] ++ List.replicate 12 none, [some []]⟩) (by simp [ex, St.ownAt, St.put, List.replicate]) ?_
    refine exs_next (σ' := trS (patOf ts) 0 (patOf ts).length [] none none none none none none) ?_ ?_
    · have hl : (patOf ts).length < 2 ^ 62 := by omega
      simp [ex, evs, ev, pbi, hl, putT, St.put, List.replicate, trS]
    refine exs_next (σ' := trS (patOf ts) (patOf ts).length (patOf ts).length (ts.foldl addTk []) y7 y8 y9 y10 y11 y12) ?_ ?_
    · rw [ex]; exact e
    refine exs_next (σ' := trS (patOf ts) (patOf ts).length (patOf ts).length (ts.foldl addTk []) y7 y8 y9 y10 y11 y12) (by simp [ex, pt, ev, trS, pcmp, peq]) ?_
    refine exs_stop ?_ (by simp)
    simp [ex, ev, trS, frzN, frzV, noOwn, hno]
  show pfun FUEL (runF T (n + 1)) 17 p_tr _ = _
  unfold pfun
  rw [show [PV.str (patOf ts), PV.star, PV.str [46]].length = 3 from rfl, hx]
  simp [noOwn, hno]
end Mine

namespace Mine

def segPV (s : List (List Nat)) : List PV := .star :: s.map PV.str
def segsPV (ss : List (List (List Nat))) : List PV := (ss.map segPV).flatten
def partsPV (t0 : List (List Nat)) (ss : List (List (List Nat))) : List PV := t0.map PV.str ++ segsPV ss
def atomT (s : List (List Nat)) : List Nat := [40, 63, 62, 46, 42, 63] ++ s.flatten ++ [41]
/-- what a run of segments becomes -/
def segOut : List (List (List Nat)) → List (List Nat)
  | [] => []
  | [s] => if s = [] then [[46, 42]] else [[46, 42], s.flatten]
  | s :: r => atomT s :: segOut r
def segOk : List (List (List Nat)) → Prop
  | [] => True
  | [_] => True
  | s :: r => s ≠ [] ∧ segOk r

theorem pjoin_nil : ∀ ls : List (List Nat), pjoin [] ls = ls.flatten
  | [] => rfl
  | [x] => by simp [pjoin]
  | x :: y :: r => by rw [pjoin, pjoin_nil (y :: r)]; simp

def jS (inp : List PV) (i n : Int) (x6 : Option PV) (res : List PV) (os : Owns) : St :=
  ⟨[some (.list inp), some .star, some (.own 0), some (.app 0), some (.int i), some (.int n), x6, none], some res :: os⟩

def jTest : PE := .and2 (.cmp .lt (.var 4) (.var 5)) (.cmp .isn (.idx (.var 0) (.var 4)) (.var 1))
def jBody1 : PSs := .cons (.appf 3 (.idx (.var 0) (.var 4))) (.cons (.aug 4 .add (.ci 1)) .nil)
def jBody2 : PSs := .cons (.app 6 (.idx (.var 0) (.var 4))) (.cons (.aug 4 .add (.ci 1)) .nil)

theorem pidx_offP (pre : List PV) (l : List PV) (k : Nat) {i : Int} (h : i = pre.length + k) : pidx (pre ++ l) i = l[k]? := by
  subst h
  unfold pidx
  rw [if_pos (by omega), show ((pre.length : Int) + (k : Int)).toNat = pre.length + k by omega]
  rw [List.getElem?_append_right (by omega)]
  congr 1; omega

section
variable {F : PF1} {inp : List PV} {i n : Int} {x6 : Option PV} {res : List PV} {os : Owns}
theorem jt_str {l : List Nat} (h1 : i < n) (hb : i.natAbs < 2 ^ 62) (h2 : pidx inp i = some (.str l)) : pt F (jS inp i n x6 res os).O (jS inp i n x6 res os).G jTest = some true := by
  simp [jTest, pt, ev, jS, pcmp, h1, pitem, hb, asL, h2, pis]
theorem jt_star (h1 : i < n) (hb : i.natAbs < 2 ^ 62) (h2 : pidx inp i = some .star) : pt F (jS inp i n x6 res os).O (jS inp i n x6 res os).G jTest = some false := by
  simp [jTest, pt, ev, jS, pcmp, h1, pitem, hb, asL, h2, pis]
theorem jt_end (h1 : ¬ i < n) : pt F (jS inp i n x6 res os).O (jS inp i n x6 res os).G jTest = some false := by
  simp [jTest, pt, ev, jS, pcmp]; omega
theorem jb1 {v : PV} (hb : i.natAbs < 2 ^ 62) (h2 : pidx inp i = some v) (hr : res.length ≤ LIM) : exs FUEL F jBody1 (jS inp i n x6 res os) = some (jS inp (i + 1) n x6 (res ++ [v]) os, .next) := by
  unfold jBody1
  refine exs_next (σ' := jS inp i n x6 (res ++ [v]) os) ?_ (exs_one ?_)
  · simp [ex, ev, jS, St.appAt, pitem, hb, asL, h2, hr, St.putO]
  · simp [ex, ev, jS, pbin, St.put]
theorem jb2 {v : PV} {acc : List PV} (hb : i.natAbs < 2 ^ 62) (h2 : pidx inp i = some v) (hr : acc.length ≤ LIM) :
    exs FUEL F jBody2 (jS inp i n (some (.own (os.length + 1))) res (os ++ [some acc])) = some (jS inp (i + 1) n (some (.own (os.length + 1))) res (os ++ [some (acc ++ [v])]), .next) := by
  unfold jBody2
  refine exs_next (σ' := jS inp i n (some (.own (os.length + 1))) res (os ++ [some (acc ++ [v])])) ?_ (exs_one ?_)
  · simp [ex, ev, jS, St.ownAt, pitem, hb, asL, h2, hr, St.putO]
  · simp [ex, ev, jS, pbin, St.put]
end

theorem j_col1 {F : PF1} : ∀ (l : List (List Nat)) (pre post : List PV) (x6 : Option PV) (res : List PV) (os : Owns) (fuel : Nat), l.length < fuel → (post = [] ∨ ∃ r, post = .star :: r) → (pre ++ l.map PV.str ++ post).length ≤ LIM → res.length + l.length ≤ LIM →
    whIt (fun σ => pt F σ.O σ.G jTest) (fun σ => exs FUEL F jBody1 σ) fuel (jS (pre ++ l.map PV.str ++ post) pre.length (pre ++ l.map PV.str ++ post).length x6 res os) =
      some (jS (pre ++ l.map PV.str ++ post) (pre.length + l.length : Nat) (pre ++ l.map PV.str ++ post).length x6 (res ++ l.map PV.str) os, .next)
  | [], pre, post, x6, res, os, 0, h, _, _, _ => by simp at h
  | [], pre, post, x6, res, os, fuel + 1, _, hp, hl, _ => by
    have hL : LIM = 1048576 := rfl
    have hb : ((pre.length : Nat) : Int).natAbs < 2 ^ 62 := by rw [Int.natAbs_natCast]; simp at hl; omega
    simp only [List.map_nil, List.append_nil, List.length_nil, Nat.add_zero]
    simp only [List.map_nil, List.append_nil] at hl
    refine whIt_stop ?_
    rcases hp with rfl | ⟨r, rfl⟩
    · exact jt_end (by simp)
    · exact jt_star (by simp <;> omega) hb (by rw [pidx_offP pre _ 0 (by simp)]; rfl)
  | a :: l, pre, post, x6, res, os, 0, h, _, _, _ => by simp at h
  | a :: l, pre, post, x6, res, os, fuel + 1, h, hp, hl, hr => by
    have hL : LIM = 1048576 := rfl
    have hb : ((pre.length : Nat) : Int).natAbs < 2 ^ 62 := by rw [Int.natAbs_natCast]; simp at hl; omega
    have hx : pidx (pre ++ (a :: l).map PV.str ++ post) (pre.length : Int) = some (.str a) := by
      rw [List.append_assoc, pidx_offP pre _ 0 (by simp)]; rfl
    rw [whIt_step (jt_str (by simp <;> omega) hb hx) (jb1 hb hx (by omega))]
    have e : pre ++ (a :: l).map PV.str ++ post = (pre ++ [PV.str a]) ++ l.map PV.str ++ post := by simp
    have := j_col1 (F := F) l (pre ++ [.str a]) post x6 (res ++ [.str a]) os fuel (by simp at h; omega) hp (by rw [← e]; exact hl) (by simp at hr ⊢; omega)
    rw [← e] at this
    rw [show ((pre ++ [PV.str a]).length : Int) = (pre.length : Int) + 1 by simp] at this
    have e2 : (pre ++ [PV.str a]).length + l.length = pre.length + (a :: l).length := by simp; omega
    rw [e2] at this
    rw [this]
    simp

theorem j_col2 {F : PF1} : ∀ (l : List (List Nat)) (pre post : List PV) (res acc : List PV) (os : Owns) (fuel : Nat), l.length < fuel → (post = [] ∨ ∃ r, post = .star :: r) → (pre ++ l.map PV.str ++ post).length ≤ LIM → acc.length + l.length ≤ LIM →
    whIt (fun σ => pt F σ.O σ.G jTest) (fun σ => exs FUEL F jBody2 σ) fuel (jS (pre ++ l.map PV.str ++ post) pre.length (pre ++ l.map PV.str ++ post).length (some (.own (os.length + 1))) res (os ++ [some acc])) =
      some (jS (pre ++ l.map PV.str ++ post) (pre.length + l.length : Nat) (pre ++ l.map PV.str ++ post).length (some (.own (os.length + 1))) res (os ++ [some (acc ++ l.map PV.str)]), .next)
  | [], pre, post, res, acc, os, 0, h, _, _, _ => by simp at h
  | [], pre, post, res, acc, os, fuel + 1, _, hp, hl, _ => by
    have hL : LIM = 1048576 := rfl
    have hb : ((pre.length : Nat) : Int).natAbs < 2 ^ 62 := by rw [Int.natAbs_natCast]; simp at hl; omega
    simp only [List.map_nil, List.append_nil, List.length_nil, Nat.add_zero]
    simp only [List.map_nil, List.append_nil] at hl
    refine whIt_stop ?_
    rcases hp with rfl | ⟨r, rfl⟩
    · exact jt_end (by simp)
    · exact jt_star (by simp <;> omega) hb (by rw [pidx_offP pre _ 0 (by simp)]; rfl)
  | a :: l, pre, post, res, acc, os, 0, h, _, _, _ => by simp at h
  | a :: l, pre, post, res, acc, os, fuel + 1, h, hp, hl, hr => by
    have hL : LIM = 1048576 := rfl
    have hb : ((pre.length : Nat) : Int).natAbs < 2 ^ 62 := by rw [Int.natAbs_natCast]; simp at hl; omega
    have hx : pidx (pre ++ (a :: l).map PV.str ++ post) (pre.length : Int) = some (.str a) := by
      rw [List.append_assoc, pidx_offP pre _ 0 (by simp)]; rfl
    rw [whIt_step (jt_str (by simp <;> omega) hb hx) (jb2 hb hx (by omega))]
    have e : pre ++ (a :: l).map PV.str ++ post = (pre ++ [PV.str a]) ++ l.map PV.str ++ post := by simp
    have := j_col2 (F := F) l (pre ++ [.str a]) post res (acc ++ [.str a]) os fuel (by simp at h; omega) hp (by rw [← e]; exact hl) (by simp at hr ⊢; omega)
    rw [← e] at this
    rw [show ((pre ++ [PV.str a]).length : Int) = (pre.length : Int) + 1 by simp] at this
    have e2 : (pre ++ [PV.str a]).length + l.length = pre.length + (a :: l).length := by simp; omega
    rw [e2] at this
    rw [this]
    simp
end Mine

namespace Mine

def whBodyN : Nat → PSs → PSs
  | 0, .cons (.wh _ b) _ => b
  | n + 1, .cons (.wh _ _) r => whBodyN n r
  | n, .cons _ r => whBodyN n r
  | _, .nil => .nil
def jMain : PSs := whBodyN 1 p_join

theorem sum_flat (ls : List (List Nat)) : (ls.map List.length).sum = ls.flatten.length := by
  rw [List.length_flatten]

section
variable {F : PF1} {inp : List PV} {i n : Int} {x6 : Option PV} {res : List PV} {os : Owns}
/-- the star passed -/
theorem jm_head {R : Option (St × PF)} {r : PSs} (h2 : pidx inp i = some .star) (hb : i.natAbs < 2 ^ 62) (h : exs FUEL F r (jS inp (i + 1) n x6 res os) = R) :
    exs FUEL F (.cons (.asrt (.cmp .is (.idx (.var 0) (.var 4)) (.var 1))) (.cons (.aug 4 .add (.ci 1)) r)) (jS inp i n x6 res os) = R := by
  refine exs_next (σ' := jS inp i n x6 res os) (by simp [ex, pt, ev, jS, pcmp, pitem, hb, asL, h2, pis]) ?_
  exact exs_next (σ' := jS inp (i + 1) n x6 res os) (by simp [ex, ev, jS, pbin, St.put]) h

theorem jm_last (h2 : pidx inp i = some .star) (hn : i + 1 = n) (hb : i.natAbs < 2 ^ 62) (hr : res.length ≤ LIM) : exs FUEL F jMain (jS inp i n x6 res os) = some (jS inp n n x6 (res ++ [.str [46, 42]]) os, .brk) := by
  unfold jMain p_join
  simp only [whBodyN]
  refine jm_head h2 hb ?_
  rw [hn]
  refine exs_stop (ite_t (by simp [pt, ev, jS, pcmp, peq]) ?_) (by simp)
  refine exs_next (σ' := jS inp n n x6 (res ++ [.str [46, 42]]) os) (by simp [ex, ev, jS, St.appAt, hr, St.putO]) ?_
  exact exs_stop (by rw [ex]) (by simp)

/-- a segment that is not empty -/
theorem jm_seg {pre post : List PV} {a : List Nat} {l : List (List Nat)} (hpost : post = [] ∨ ∃ r, post = .star :: r) (hl : (pre ++ segPV (a :: l) ++ post).length ≤ 4000) (hres : res.length + 2 ≤ LIM) (hf : (a :: l).flatten.length ≤ 100000) :
    ∃ y6 os', exs FUEL F jMain (jS (pre ++ segPV (a :: l) ++ post) pre.length (pre ++ segPV (a :: l) ++ post).length x6 res os) =
      some (jS (pre ++ segPV (a :: l) ++ post) (pre ++ segPV (a :: l)).length (pre ++ segPV (a :: l) ++ post).length y6 (res ++ (if post = [] then [.str [46, 42], .str (a :: l).flatten] else [.str (atomT (a :: l))])) os', .next) := by
  have hL : LIM = 1048576 := rfl
  have hpl : pre.length ≤ 4000 := by simp at hl; omega
  have hb : ((pre.length : Nat) : Int).natAbs < 2 ^ 62 := by rw [Int.natAbs_natCast]; omega
  have hb1 : ((pre.length : Int) + 1).natAbs < 2 ^ 62 := by omega
  have e0 : pre ++ segPV (a :: l) ++ post = (pre ++ [.star]) ++ (a :: l).map PV.str ++ post := by simp [segPV]
  have h0 : pidx (pre ++ segPV (a :: l) ++ post) (pre.length : Int) = some .star := by rw [List.append_assoc, pidx_offP pre _ 0 (by simp)]; rfl
  have h1 : pidx (pre ++ segPV (a :: l) ++ post) ((pre.length : Int) + 1) = some (.str a) := by rw [List.append_assoc, pidx_offP pre _ 1 (by simp)]; rfl
  have hlen : (pre ++ segPV (a :: l) ++ post).length = pre.length + 1 + (l.length + 1) + post.length := by simp [segPV]; omega
  have hlen2 : (pre ++ segPV (a :: l)).length = pre.length + 1 + (l.length + 1) := by simp [segPV]; omega
  have hne : ¬ ((pre.length : Int) + 1 = ((pre ++ segPV (a :: l) ++ post).length : Int)) := by rw [hlen]; omega
  have hcol := j_col2 (F := F) (a :: l) (pre ++ [.star]) post res [] os FUEL (by show (a :: l).length < 4096; rw [hlen] at hl; simp; omega) hpost (by rw [← e0]; omega) (by rw [hlen] at hl; simp; omega)
  rw [← e0, show (((pre ++ [PV.star]).length : Nat) : Int) = (pre.length : Int) + 1 by simp, show ((((pre ++ [PV.star]).length + (a :: l).length : Nat)) : Int) = ((pre ++ segPV (a :: l)).length : Nat) by rw [hlen2]; simp] at hcol
  simp only [List.nil_append] at hcol
  refine ⟨some (.str (a :: l).flatten), os ++ [some ((a :: l).map PV.str)], ?_⟩
  unfold jMain p_join
  simp only [whBodyN]
  refine jm_head h0 hb ?_
  refine exs_next (ite_f (by simp only [pt, ev, jS, List.getElem?_cons_succ, List.getElem?_cons_zero, Option.bind_some, pcmp, peq]; simpa using hne) (by rw [exs])) ?_
  refine exs_next (σ' := jS (pre ++ segPV (a :: l) ++ post) ((pre.length : Int) + 1) (pre ++ segPV (a :: l) ++ post).length x6 res os) (by simp only [ex, pt, ev, jS, List.getElem?_cons_succ, List.getElem?_cons_zero, Option.bind_some, pcmp, pitem, hb1, if_true, asL, h1, pis, Option.map_some]; rfl) ?_
  refine exs_next (σ' := jS (pre ++ segPV (a :: l) ++ post) ((pre.length : Int) + 1) (pre ++ segPV (a :: l) ++ post).length (some (.own (os.length + 1))) res (os ++ [some []])) (by simp [ex, evs, jS, St.new]) ?_
  refine exs_next (σ' := jS (pre ++ segPV (a :: l) ++ post) (pre ++ segPV (a :: l)).length (pre ++ segPV (a :: l) ++ post).length (some (.own (os.length + 1))) res (os ++ [some ((a :: l).map PV.str)])) (by rw [ex]; exact hcol) ?_
  have hs : ((a :: l).map List.length).sum + (a :: l).length * ([] : List Nat).length ≤ LIM := by rw [sum_flat]; simp only [List.length_nil, Nat.mul_zero]; omega
  refine exs_next (σ' := jS (pre ++ segPV (a :: l) ++ post) (pre ++ segPV (a :: l)).length (pre ++ segPV (a :: l) ++ post).length (some (.str (a :: l).flatten)) res (os ++ [some ((a :: l).map PV.str)])) ?_ ?_
  · have h9 : (jS (pre ++ segPV (a :: l) ++ post) (pre ++ segPV (a :: l)).length (pre ++ segPV (a :: l) ++ post).length (some (.own (os.length + 1))) res (os ++ [some ((a :: l).map PV.str)])).O[os.length + 1]? = some (some ((a :: l).map PV.str)) := by simp [jS]
    simp only [ex, ev, evs, jS, List.getElem?_cons_succ, List.getElem?_cons_zero, Option.bind_some, Option.map_some, pme, asL] at h9 ⊢
    rw [h9]
    simp only [Option.bind_some, pstrs_map]
    rw [if_pos hs, pjoin_nil]
    rfl
  by_cases hp : post = []
  · subst hp
    simp only [if_true]
    refine exs_one (ite_t (by simp [pt, ev, jS, pcmp, peq]) ?_)
    refine exs_next (σ' := jS (pre ++ segPV (a :: l) ++ []) (pre ++ segPV (a :: l)).length (pre ++ segPV (a :: l) ++ []).length (some (.str (a :: l).flatten)) (res ++ [.str [46, 42]]) (os ++ [some ((a :: l).map PV.str)])) ?_ (exs_one ?_)
    · have : res.length ≤ LIM := by omega
      simp [ex, ev, jS, St.appAt, this, St.putO]
    · have : res.length + 1 ≤ LIM := by omega
      simp [ex, ev, jS, St.appAt, this, St.putO]
  · rw [if_neg hp]
    have hpl : 0 < post.length := List.length_pos_iff.mpr hp
    refine exs_one (ite_f ?_ (exs_one ?_))
    · have : ¬ (((pre ++ segPV (a :: l)).length : Int) = ((pre ++ segPV (a :: l) ++ post).length : Int)) := by rw [hlen, hlen2]; omega
      simp only [pt, ev, jS, List.getElem?_cons_succ, List.getElem?_cons_zero, Option.bind_some, pcmp, peq]
      simpa using this
    · have h3 : res.length ≤ LIM := by omega
      have h4 : ([[40, 63, 62, 46, 42, 63], (a :: l).flatten, [41]].map List.length).sum ≤ LIM := by simp at hf ⊢; omega
      simp only [ex, ev, evs, jS, St.appAt, List.getElem?_cons_succ, List.getElem?_cons_zero, Option.bind_some, Option.map_some, pstrs, h4, h3, if_true, St.putO, List.set_cons_zero]
      simp [atomT]
end

theorem j_main {F : PF1} : ∀ (ss : List (List (List Nat))) (pre : List PV) (res : List PV) (os : Owns) (x6 : Option PV) (fuel : Nat), ss.length < fuel → segOk ss → (pre ++ segsPV ss).length ≤ 4000 → res.length + 2 * ss.length ≤ LIM → (∀ s ∈ ss, s.flatten.length ≤ 100000) →
    ∃ y6 os', whIt (fun σ => pt F σ.O σ.G (.cmp .lt (.var 4) (.var 5))) (fun σ => exs FUEL F jMain σ) fuel (jS (pre ++ segsPV ss) pre.length (pre ++ segsPV ss).length x6 res os) =
      some (jS (pre ++ segsPV ss) (pre ++ segsPV ss).length (pre ++ segsPV ss).length y6 (res ++ (segOut ss).map PV.str) os', .next)
  | [], pre, res, os, x6, 0, h, _, _, _, _ => by simp at h
  | [], pre, res, os, x6, fuel + 1, _, _, _, _, _ => ⟨x6, os, by
      simp only [segsPV, List.map_nil, List.flatten_nil, List.append_nil, segOut]
      exact whIt_stop (by simp [pt, ev, jS, pcmp])⟩
  | s :: r, pre, res, os, x6, 0, h, _, _, _, _ => by simp at h
  | s :: r, pre, res, os, x6, fuel + 1, h, hok, hl, hr, hfl => by
    have hL : LIM = 1048576 := rfl
    have hseg : segsPV (s :: r) = segPV s ++ segsPV r := rfl
    have hb : ((pre.length : Nat) : Int).natAbs < 2 ^ 62 := by rw [Int.natAbs_natCast]; simp at hl; omega
    have htest : pt F (jS (pre ++ segsPV (s :: r)) pre.length (pre ++ segsPV (s :: r)).length x6 res os).O (jS (pre ++ segsPV (s :: r)) pre.length (pre ++ segsPV (s :: r)).length x6 res os).G (.cmp .lt (.var 4) (.var 5)) = some true := by
      have : (pre.length : Int) < ((pre ++ segsPV (s :: r)).length : Int) := by rw [hseg]; simp [segPV]; omega
      simp only [pt, ev, jS, List.getElem?_cons_succ, List.getElem?_cons_zero, Option.bind_some, pcmp, this, decide_true]
    by_cases hs : s = []
    · subst hs
      have hr0 : r = [] := by
        cases r with
        | nil => rfl
        | cons b r => exact absurd rfl hok.1
      subst hr0
      refine ⟨x6, os, ?_⟩
      have h0 : pidx (pre ++ segsPV [[]]) (pre.length : Int) = some .star := by rw [pidx_offP pre _ 0 (by simp)]; rfl
      rw [whIt_brk htest (jm_last h0 (by simp [segsPV, segPV]) hb (by simp at hr; omega))]
      simp [segOut]
    · obtain ⟨a, l, rfl⟩ := List.exists_cons_of_ne_nil hs
      have hpost : segsPV r = [] ∨ ∃ q, segsPV r = .star :: q := by
        cases r with
        | nil => exact .inl rfl
        | cons b r => exact .inr ⟨_, rfl⟩
      have hpe : (segsPV r = []) ↔ r = [] := by
        cases r with
        | nil => simp [segsPV]
        | cons b r => simp [segsPV, segPV]
      have e1 : pre ++ segsPV ((a :: l) :: r) = pre ++ segPV (a :: l) ++ segsPV r := by rw [hseg, List.append_assoc]
      obtain ⟨y6, os', e⟩ := jm_seg (F := F) (pre := pre) (post := segsPV r) (a := a) (l := l) (x6 := x6) (res := res) (os := os) hpost (by rw [← e1]; exact hl) (by simp at hr; omega) (hfl _ List.mem_cons_self)
      rw [← e1] at e
      rw [whIt_step htest e]
      have hok' : segOk r := by
        cases r with
        | nil => trivial
        | cons b r => exact hok.2
      by_cases hr0 : r = []
      · subst hr0
        have hp0 : segsPV [] = [] := rfl
        rw [if_pos hp0, e1, hp0, List.append_nil]
        have hfu : ∃ m, fuel = m + 1 := ⟨fuel - 1, by simp at h; omega⟩
        obtain ⟨m, rfl⟩ := hfu
        refine ⟨y6, os', ?_⟩
        rw [whIt_stop (by simp [pt, ev, jS, pcmp])]
        simp [segOut]
      · rw [if_neg (by rw [hpe]; exact hr0)]
        obtain ⟨z6, os2, e2⟩ := j_main (F := F) r (pre ++ segPV (a :: l)) (res ++ [.str (atomT (a :: l))]) os' y6 fuel (by simp at h; omega) hok' (by rw [← e1]; exact hl) (by simp at hr ⊢; omega) (fun u hu => hfl u (List.mem_cons_of_mem _ hu))
        refine ⟨z6, os2, ?_⟩
        rw [e1, e2]
        have : segOut ((a :: l) :: r) = atomT (a :: l) :: segOut r := by
          cases r with
          | nil => exact absurd rfl hr0
          | cons b r => rfl
        rw [this]
        simp
end Mine

namespace Mine

def joinT (t0 : List (List Nat)) (ss : List (List (List Nat))) : List Nat := [40, 63, 115, 58] ++ (t0.flatten ++ (segOut ss).flatten) ++ [41, 92, 90]

theorem join_run {T : List (String × DefE)} (S : Std T) (n : Nat) {t0 : List (List Nat)} {ss : List (List (List Nat))} (hok : segOk ss) (hl : (partsPV t0 ss).length ≤ 2000) (h0 : (t0.flatten ++ (segOut ss).flatten).length ≤ 100000) (hfl : ∀ s ∈ ss, s.flatten.length ≤ 100000) :
    runF T (n + 1) "_join_translated_parts" [.list (partsPV t0 ss), .star] = some (.str (joinT t0 ss)) := by
  have hL : LIM = 1048576 := rfl
  rw [run_eq S.join (by decide) (by decide +kernel) (by decide +kernel) rfl]
  have hlen : (partsPV t0 ss).length = t0.length + (segsPV ss).length := by simp [partsPV]
  have hss : ss.length ≤ (segsPV ss).length := by
    clear hok hl h0 hfl hlen
    induction ss with
    | nil => simp
    | cons s r ih => simp only [segsPV, List.map_cons, List.flatten_cons, List.length_append, List.length_cons, segPV] at ih ⊢; omega
  have hpost : segsPV ss = [] ∨ ∃ q, segsPV ss = .star :: q := by
    cases ss with
    | nil => exact .inl rfl
    | cons b r => exact .inr ⟨_, rfl⟩
  have c1 := j_col1 (F := runF T n) t0 [] (segsPV ss) none [] [] FUEL (by show t0.length < 4096; omega) hpost (by simp only [List.nil_append]; show (partsPV t0 ss).length ≤ LIM; omega) (by simp; omega)
  simp only [List.nil_append, List.length_nil, Nat.zero_add] at c1
  obtain ⟨y6, os', c2⟩ := j_main (F := runF T n) ss (t0.map PV.str) (t0.map PV.str) [] none FUEL (by show ss.length < 4096; omega) hok (by show (partsPV t0 ss).length ≤ 4000; omega) (by simp; omega) hfl
  rw [List.length_map] at c2
  change whIt _ _ _ (jS (partsPV t0 ss) _ _ _ _ _) = some (jS (partsPV t0 ss) _ _ _ _ _, _) at c1
  change whIt _ _ _ (jS (partsPV t0 ss) _ _ _ _ _) = some (jS (partsPV t0 ss) _ _ _ _ _, _) at c2
  have hres : t0.map PV.str ++ (segOut ss).map PV.str = (t0 ++ segOut ss).map PV.str := by simp
  rw [hres] at c2
  have hs : ((t0 ++ segOut ss).map List.length).sum + (t0 ++ segOut ss).length * ([] : List Nat).length ≤ LIM := by
    rw [sum_flat]; simp only [List.length_nil, Nat.mul_zero, List.flatten_append]; omega
  have hx : ∃ σ', exs FUEL (runF T n) p_join ⟨[PV.list (partsPV t0 ss), .star].map some ++ List.replicate (8 - 2) none, []⟩ = some (σ', .ret (.str (joinT t0 ss))) := by
    refine ⟨⟨[some (.list (partsPV t0 ss)), some .star, some (.str (t0 ++ segOut ss).flatten), some (.app 0), some (.int (partsPV t0 ss).length), some (.int (partsPV t0 ss).length), y6, none], some ((t0 ++ segOut ss).map PV.str) :: os'⟩, ?_⟩
    unfold p_join
    refine exs_next (σ' := ⟨[some (.list (partsPV t0 ss)), some .star, some (.own 0)] ++ List.replicate 5 none, [some []]⟩) (by simp [ex, evs, St.new, List.replicate]) ?_
    refine exs_next (σ' := ⟨[some (.list (partsPV t0 ss)), some .star, some (.own 0), some (.app 0)] ++ List.replicate 4 none, [some []]⟩) (by simp [ex, St.ownAt, St.put, List.replicate]) ?_
    refine exs_next (σ' := jS (partsPV t0 ss) 0 (partsPV t0 ss).length none [] []) ?_ ?_
    · have hl2 : (partsPV t0 ss).length < 2 ^ 62 := by omega
      simp only [ex, evs, ev, List.replicate, List.cons_append, List.nil_append, List.getElem?_cons_zero, pbi, asL, hl2, if_true, Option.bind_some, Option.map_some, putT, St.put]
      rfl
    refine exs_next (σ' := jS (partsPV t0 ss) t0.length (partsPV t0 ss).length none (t0.map PV.str) []) (by rw [ex]; exact c1) ?_
    refine exs_next (σ' := jS (partsPV t0 ss) (partsPV t0 ss).length (partsPV t0 ss).length y6 ((t0 ++ segOut ss).map PV.str) os') (by rw [ex]; exact c2) ?_
    refine exs_next (σ' := jS (partsPV t0 ss) (partsPV t0 ss).length (partsPV t0 ss).length y6 ((t0 ++ segOut ss).map PV.str) os') (by simp [ex, pt, ev, jS, pcmp, peq]) ?_
    refine exs_next (σ' := ⟨[some (.list (partsPV t0 ss)), some .star, some (.str (t0 ++ segOut ss).flatten), some (.app 0), some (.int (partsPV t0 ss).length), some (.int (partsPV t0 ss).length), y6, none], some ((t0 ++ segOut ss).map PV.str) :: os'⟩) ?_ ?_
    · simp only [ex, ev, evs, jS, List.getElem?_cons_succ, List.getElem?_cons_zero, Option.bind_some, Option.map_some, pme, asL, pstrs_map]
      rw [if_pos hs, pjoin_nil]
      rfl
    refine exs_stop ?_ (by simp)
    have h4 : ([[40, 63, 115, 58], (t0 ++ segOut ss).flatten, [41, 92, 90]].map List.length).sum ≤ LIM := by simp at h0 ⊢; omega
    have e9 : frzN (some ((t0 ++ segOut ss).map PV.str) :: os') (.str (t0 ++ segOut ss).flatten) = some (.str (t0 ++ segOut ss).flatten) := by simp [frzN, frzV, noOwn]
    simp only [ex, ev, evs, List.map_cons, List.getElem?_cons_succ, List.getElem?_cons_zero, Option.bind_some, e9, Option.map_some, pstrs]
    split
    · simp [joinT]
    · rename_i hq; exact absurd h4 hq
  obtain ⟨σ', hx⟩ := hx
  show pfun FUEL (runF T n) 8 p_join _ = _
  unfold pfun
  rw [show [PV.list (partsPV t0 ss), PV.star].length = 2 from rfl, hx]
  simp [noOwn]

theorem translate_run {T : List (String × DefE)} (S : Std T) (n : Nat) {ts : List Tk} (hok : ∀ t ∈ ts, t.ok = true) (h1 : ts.length ≤ 2000) (h2 : (patOf ts).length ≤ 100000) {t0 : List (List Nat)} {ss : List (List (List Nat))} (hp : ts.foldl addTk [] = partsPV t0 ss)
    (hsg : segOk ss) (hl : (partsPV t0 ss).length ≤ 2000) (h0 : (t0.flatten ++ (segOut ss).flatten).length ≤ 100000) (hfl : ∀ s ∈ ss, s.flatten.length ≤ 100000) :
    runF T (n + 3) "translate" [.str (patOf ts)] = some (.str (joinT t0 ss)) := by
  have e1 := tr_run S n hok (by omega) h2
  have e2 := join_run S (n + 1) hsg hl h0 hfl
  rw [hp] at e1
  have hno : noOwnL (partsPV t0 ss) = true := by
    refine noOwn_part (l := partsPV t0 ss) ?_
    rw [← hp]; exact foldl_ok ts [] (by simp)
  show stepF T (runF T (n + 2)) _ _ = _
  unfold stepF
  rw [if_neg (by decide), S.trans]
  simp only [show (Str.ofString "translate" == ("replace" : Str)) = false by decide +kernel, show (Str.ofString "translate" == ("translate" : Str)) = true by decide +kernel, Bool.false_eq_true, if_false, if_true]
  have hx : exs FUEL (runF T (n + 2)) p_trans ⟨[some (.str (patOf ts)), some .star] ++ List.replicate (6 - 2) none, []⟩ = some (⟨[some (.str (patOf ts)), some .star, some (.list (partsPV t0 ss)), none, none, none], []⟩, .ret (.str (joinT t0 ss))) := by
    unfold p_trans
    refine exs_next (σ' := ⟨[some (.str (patOf ts)), some .star, some (.list (partsPV t0 ss)), none, none, none], []⟩) ?_ (exs_stop ?_ (by simp))
    · simp only [ex, ev, evs, List.replicate, List.cons_append, List.nil_append, List.getElem?_cons_succ, List.getElem?_cons_zero, Option.bind_some, Option.map_some]
      rw [if_pos (by simp [noOwnL, noOwn]), e1]
      rfl
    · have e9 : frzN [] (.list (partsPV t0 ss)) = some (.list (partsPV t0 ss)) := by simp [frzN, frzV, noOwn, hno]
      have e8 : frzN [] PV.star = some .star := rfl
      simp only [ex, ev, evs, List.map_cons, List.getElem?_cons_succ, List.getElem?_cons_zero, Option.bind_some, e9, e8, Option.map_some]
      rw [if_pos (by simp [noOwnL, noOwn, hno]), e2]
      rfl
  rw [hx]
end Mine

namespace Mine

/-- a sign as translate writes it where it stands for itself -/
def enc (c : Nat) : List Nat := if c = 91 ∨ c = 42 ∨ c = 63 then brT c else pesc c
def sgBody : PSs := whBody p_signs
def sgS (row sg : List Nat) (k : Int) (x3 : Option PV) : St := ⟨[some (.str row), some (.str sg), some (.int k), x3, none], []⟩

theorem pisIn_13 (c : Nat) : pisIn [c] [46, 42, 63] = (c == 46 || c == 42 || c == 63) := by
  simp [pisIn, List.isPrefixOf, Bool.or_assoc]

section
variable {F : PF1} {row sg : List Nat} {k : Int} {x3 : Option PV}
theorem sg_plain {c : Nat} (h0 : pidx row k = some c) (h1 : c ≠ 91) (h2 : c ≠ 46) (h3 : c ≠ 42) (h4 : c ≠ 63) (h5 : c ≠ 92) (hb : k.natAbs < 2 ^ 61) (hl : sg.length + 1 ≤ LIM) :
    exs FUEL F sgBody (sgS row sg k x3) = some (sgS row (sg ++ [c]) (k + 1) (some (.int 0)), .next) := by
  have b0 : k.natAbs < 2 ^ 62 := by omega
  unfold sgBody p_signs
  simp only [whBody]
  refine exs_next (σ' := sgS row sg k (some (.int 0))) (by simp [ex, ev, pt, sgS, pitem, h0, b0, pcmp, peq, h1, St.put]) ?_
  refine exs_next (ite_f (by simp [pt, ev, sgS, pitem, h0, b0, pcmp, pin, pisIn_13, h2, h3, h4]) (by rw [exs])) ?_
  refine exs_next (σ' := sgS row sg k (some (.int 0))) (by simp [ex, ev, sgS, pbin, St.put]) ?_
  refine exs_next (σ' := sgS row sg k (some (.int 0))) (by simp [ex, ev, pt, sgS, pitem, h0, b0, pcmp, peq, h5, pbin, St.put]) ?_
  refine exs_next (σ' := sgS row (sg ++ [c]) k (some (.int 0))) (by simp [ex, ev, sgS, pitem, h0, b0, pbin, hl, St.put]) ?_
  refine exs_next (σ' := sgS row (sg ++ [c]) (k + 1) (some (.int 0))) (by simp [ex, ev, sgS, pbin, St.put]) ?_
  refine exs_next (ite_f (by simp [pt, ev, sgS, pcmp, peq]) (by rw [exs])) ?_
  exact exs_one (by simp [ex, ev, sgS, pbin, St.put])
theorem sg_esc {c : Nat} (h0 : pidx row k = some 92) (h1 : pidx row (k + 1) = some c) (hb : k.natAbs < 2 ^ 61) (hl : sg.length + 1 ≤ LIM) :
    exs FUEL F sgBody (sgS row sg k x3) = some (sgS row (sg ++ [c]) (k + 2) (some (.int 0)), .next) := by
  have b0 : k.natAbs < 2 ^ 62 := by omega
  have b1 : (k + 1).natAbs < 2 ^ 62 := by omega
  have e2 : k + 1 + 1 = k + 2 := by omega
  unfold sgBody p_signs
  simp only [whBody]
  refine exs_next (σ' := sgS row sg k (some (.int 0))) (by simp [ex, ev, pt, sgS, pitem, h0, b0, pcmp, peq, St.put]) ?_
  refine exs_next (ite_f (by simp [pt, ev, sgS, pitem, h0, b0, pcmp, pin, pisIn_13]) (by rw [exs])) ?_
  refine exs_next (σ' := sgS row sg k (some (.int 0))) (by simp [ex, ev, sgS, pbin, St.put]) ?_
  refine exs_next (σ' := sgS row sg (k + 1) (some (.int 0))) (by simp [ex, ev, pt, sgS, pitem, h0, b0, pcmp, peq, pbin, St.put]) ?_
  refine exs_next (σ' := sgS row (sg ++ [c]) (k + 1) (some (.int 0))) (by simp [ex, ev, sgS, pitem, h1, b1, pbin, hl, St.put]) ?_
  refine exs_next (σ' := sgS row (sg ++ [c]) (k + 2) (some (.int 0))) (by simp [ex, ev, sgS, pbin, St.put, e2]) ?_
  refine exs_next (ite_f (by simp [pt, ev, sgS, pcmp, peq]) (by rw [exs])) ?_
  exact exs_one (by simp [ex, ev, sgS, pbin, St.put])
/-- between brackets: first the sign, perhaps behind a backslash -/
theorem sg_br {c : Nat} (hc : c ≠ 92) (h0 : pidx row k = some 91) (h1 : pidx row (k + 1) = some c) (h2 : pslice row (some (k + 1 + 1)) (some (k + 1 + 1 + 1)) = [93]) (hL : row.length ≤ LIM) (hb : k.natAbs < 2 ^ 61) (hl : sg.length + 1 ≤ LIM) :
    exs FUEL F sgBody (sgS row sg k x3) = some (sgS row (sg ++ [c]) (k + 3) (some (.int 1)), .next) := by
  have b0 : k.natAbs < 2 ^ 62 := by omega
  have b1 : (k + 1).natAbs < 2 ^ 62 := by omega
  have e3 : k + 1 + 1 + 1 = k + 3 := by omega
  unfold sgBody p_signs
  simp only [whBody]
  refine exs_next (σ' := sgS row sg k (some (.int 1))) (by simp [ex, ev, pt, sgS, pitem, h0, b0, pcmp, peq, St.put]) ?_
  refine exs_next (ite_f (by simp [pt, ev, sgS, pitem, h0, b0, pcmp, pin, pisIn_13]) (by rw [exs])) ?_
  refine exs_next (σ' := sgS row sg (k + 1) (some (.int 1))) (by simp [ex, ev, sgS, pbin, St.put]) ?_
  refine exs_next (σ' := sgS row sg (k + 1) (some (.int 1))) (by simp [ex, ev, pt, sgS, pitem, h1, b1, pcmp, peq, hc, pbin, St.put]) ?_
  refine exs_next (σ' := sgS row (sg ++ [c]) (k + 1) (some (.int 1))) (by simp [ex, ev, sgS, pitem, h1, b1, pbin, hl, St.put]) ?_
  refine exs_next (σ' := sgS row (sg ++ [c]) (k + 1 + 1) (some (.int 1))) (by simp [ex, ev, sgS, pbin, St.put]) ?_
  refine exs_next (ite_f (by simp [pt, ev, sgS, pcmp, peq, pbin, pslc, ppart, hL, h2]) (by rw [exs])) ?_
  exact exs_one (by simp [ex, ev, sgS, pbin, St.put, e3])
theorem sg_br2 {c : Nat} (h0 : pidx row k = some 91) (h1 : pidx row (k + 1) = some 92) (h1' : pidx row (k + 1 + 1) = some c) (h2 : pslice row (some (k + 1 + 1 + 1)) (some (k + 1 + 1 + 1 + 1)) = [93]) (hL : row.length ≤ LIM) (hb : k.natAbs < 2 ^ 61) (hl : sg.length + 1 ≤ LIM) :
    exs FUEL F sgBody (sgS row sg k x3) = some (sgS row (sg ++ [c]) (k + 4) (some (.int 1)), .next) := by
  have b0 : k.natAbs < 2 ^ 62 := by omega
  have b1 : (k + 1).natAbs < 2 ^ 62 := by omega
  have b2 : (k + 1 + 1).natAbs < 2 ^ 62 := by omega
  have e3 : k + 1 + 1 + 1 + 1 = k + 4 := by omega
  unfold sgBody p_signs
  simp only [whBody]
  refine exs_next (σ' := sgS row sg k (some (.int 1))) (by simp [ex, ev, pt, sgS, pitem, h0, b0, pcmp, peq, St.put]) ?_
  refine exs_next (ite_f (by simp [pt, ev, sgS, pitem, h0, b0, pcmp, pin, pisIn_13]) (by rw [exs])) ?_
  refine exs_next (σ' := sgS row sg (k + 1) (some (.int 1))) (by simp [ex, ev, sgS, pbin, St.put]) ?_
  refine exs_next (σ' := sgS row sg (k + 1 + 1) (some (.int 1))) (by simp [ex, ev, pt, sgS, pitem, h1, b1, pcmp, peq, pbin, St.put]) ?_
  refine exs_next (σ' := sgS row (sg ++ [c]) (k + 1 + 1) (some (.int 1))) (by simp [ex, ev, sgS, pitem, h1', b2, pbin, hl, St.put]) ?_
  refine exs_next (σ' := sgS row (sg ++ [c]) (k + 1 + 1 + 1) (some (.int 1))) (by simp [ex, ev, sgS, pbin, St.put]) ?_
  refine exs_next (ite_f (by simp [pt, ev, sgS, pcmp, peq, pbin, pslc, ppart, hL, h2]) (by rw [exs])) ?_
  exact exs_one (by simp [ex, ev, sgS, pbin, St.put, e3])
end

theorem sg_loop {F : PF1} : ∀ (cs : List Nat) (pre sg : List Nat) (x3 : Option PV) (fuel : Nat), cs.length < fuel → (pre ++ (cs.map enc).flatten).length ≤ LIM → sg.length + cs.length ≤ LIM →
    ∃ y3, whIt (fun σ => pt F σ.O σ.G (.cmp .lt (.var 2) (.bi .len (.cons (.var 0) .nil)))) (fun σ => exs FUEL F sgBody σ) fuel (sgS (pre ++ (cs.map enc).flatten) sg pre.length x3) =
      some (sgS (pre ++ (cs.map enc).flatten) (sg ++ cs) (pre ++ (cs.map enc).flatten).length y3, .next)
  | [], pre, sg, x3, 0, h, _, _ => by simp at h
  | [], pre, sg, x3, fuel + 1, _, hl, _ => by
    have hL : LIM = 1048576 := rfl
    simp only [List.map_nil, List.flatten_nil, List.append_nil] at hl ⊢
    have h2 : pre.length < 2 ^ 62 := by omega
    exact ⟨x3, whIt_stop (by simp [pt, ev, evs, sgS, pbi, h2, pcmp])⟩
  | c :: cs, pre, sg, x3, 0, h, _, _ => by simp at h
  | c :: cs, pre, sg, x3, fuel + 1, h, hl, hs => by
    have hL : LIM = 1048576 := rfl
    have hrow : pre ++ ((c :: cs).map enc).flatten = pre ++ (enc c ++ (cs.map enc).flatten) := by simp
    rw [hrow] at hl ⊢
    have hl' : pre.length + ((enc c).length + ((cs.map enc).flatten).length) ≤ LIM := by rw [List.length_append, List.length_append] at hl; exact hl
    have hpos : 0 < (enc c).length := by
      unfold enc brT pesc; repeat' split
      all_goals simp
    have hb : ((pre.length : Nat) : Int).natAbs < 2 ^ 61 := by rw [Int.natAbs_natCast]; omega
    have hlen : (pre ++ (enc c ++ (cs.map enc).flatten)).length = pre.length + ((enc c).length + ((cs.map enc).flatten).length) := by simp
    have htest : pt F (sgS (pre ++ (enc c ++ (cs.map enc).flatten)) sg pre.length x3).O (sgS (pre ++ (enc c ++ (cs.map enc).flatten)) sg pre.length x3).G (.cmp .lt (.var 2) (.bi .len (.cons (.var 0) .nil))) = some true := by
      have h2 : (pre ++ (enc c ++ (cs.map enc).flatten)).length < 2 ^ 62 := by omega
      have h3 : (pre.length : Int) < ((pre ++ (enc c ++ (cs.map enc).flatten)).length : Int) := by rw [hlen]; omega
      simp only [pt, ev, evs, sgS, List.getElem?_cons_succ, List.getElem?_cons_zero, Option.bind_some, Option.map_some, pbi, h2, if_true, pcmp, h3, decide_true]
    have hsl : sg.length + 1 ≤ LIM := by simp at hs; omega
    have hstep : ∃ y3, exs FUEL F sgBody (sgS (pre ++ (enc c ++ (cs.map enc).flatten)) sg pre.length x3) = some (sgS (pre ++ (enc c ++ (cs.map enc).flatten)) (sg ++ [c]) (pre ++ enc c).length y3, .next) := by
      generalize hr : (cs.map enc).flatten = rest at *
      by_cases h9 : c = 91
      · subst h9
        refine ⟨some (.int 1), ?_⟩
        have e0 : enc 91 = [91, 92, 91, 93] := rfl
        rw [e0] at hl ⊢
        rw [sg_br2 (c := 91) (pidx_off pre _ 0 (by simp)) (pidx_off pre _ 1 (by simp)) (pidx_off pre _ 2 (by simp <;> omega)) (by rw [show pre ++ ([91, 92, 91, 93] ++ rest) = (pre ++ [91, 92, 91]) ++ [93] ++ rest by simp]; exact pslice_mid _ _ _ (by simp <;> omega) (by simp <;> omega)) hl hb hsl]
        simp
      · by_cases h8 : c = 42 ∨ c = 63
        · refine ⟨some (.int 1), ?_⟩
          have e0 : enc c = [91, c, 93] := by
            unfold enc brT
            rw [if_pos (by omega), if_neg h9]
          rw [e0] at hl ⊢
          rw [sg_br (c := c) (by omega) (pidx_off pre _ 0 (by simp)) (pidx_off pre _ 1 (by simp)) (by rw [show pre ++ ([91, c, 93] ++ rest) = (pre ++ [91, c]) ++ [93] ++ rest by simp]; exact pslice_mid _ _ _ (by simp <;> omega) (by simp <;> omega)) hl hb hsl]
          simp
        · have e0 : enc c = pesc c := by unfold enc; rw [if_neg (by omega)]
          refine ⟨some (.int 0), ?_⟩
          rw [e0] at hl ⊢
          unfold pesc at hl ⊢
          by_cases hsp : specials.contains c = true
          · rw [if_pos hsp] at hl ⊢
            rw [sg_esc (c := c) (pidx_off pre _ 0 (by simp)) (pidx_off pre _ 1 (by simp)) hb hsl]
            simp
          · rw [if_neg hsp] at hl ⊢
            have hn : ∀ d ∈ specials, c ≠ d := fun d hd e => hsp (by subst e; simpa using hd)
            rw [sg_plain (c := c) (pidx_off pre _ 0 (by simp)) h9 (hn 46 (by decide)) (by omega) (by omega) (hn 92 (by decide)) hb hsl]
            simp
    obtain ⟨y3, e⟩ := hstep
    rw [whIt_step htest e]
    obtain ⟨z3, e2⟩ := sg_loop (F := F) cs (pre ++ enc c) (sg ++ [c]) y3 fuel (by simp at h; omega) (by rw [List.append_assoc]; exact hl) (by simp at hs ⊢; omega)
    refine ⟨z3, ?_⟩
    rw [List.append_assoc] at e2
    rw [e2]
    simp

theorem signs_run {T : List (String × DefE)} (S : Std T) (n : Nat) {cs : List Nat} (h1 : cs.length ≤ 4000) (h2 : ((cs.map enc).flatten).length ≤ 100000) : runF T (n + 1) "_law_signs" [.str (cs.map enc).flatten] = some (.str cs) := by
  have hL : LIM = 1048576 := rfl
  rw [run_eq S.signs (by decide) (by decide +kernel) (by decide +kernel) rfl]
  obtain ⟨y3, e⟩ := sg_loop (F := runF T n) cs [] [] none FUEL (by show cs.length < 4096; omega) (by simp only [List.nil_append]; omega) (by simp; omega)
  simp only [List.nil_append, List.length_nil] at e
  have hx : exs FUEL (runF T n) p_signs ⟨[PV.str (cs.map enc).flatten].map some ++ List.replicate (5 - 1) none, []⟩ = some (sgS (cs.map enc).flatten cs ((cs.map enc).flatten).length y3, .ret (.str cs)) := by
    unfold p_signs
    refine exs_next (σ' := sgS (cs.map enc).flatten [] 0 none) (by simp [ex, evs, ev, putT, St.put, List.replicate, sgS]) ?_
    refine exs_next (σ' := sgS (cs.map enc).flatten cs ((cs.map enc).flatten).length y3) (by rw [ex]; exact e) ?_
    exact exs_stop (by simp [ex, ev, sgS, frzN, frzV, noOwn]) (by simp)
  show pfun FUEL (runF T n) 5 p_signs _ = _
  unfold pfun
  rw [show [PV.str (cs.map enc).flatten].length = 1 from rfl, hx]
  simp [noOwn]
end Mine

namespace Mine

theorem pjoin_cons {b x : List Nat} {r : List (List Nat)} (h : r ≠ []) : pjoin b (x :: r) = x ++ b ++ pjoin b r := by
  cases r with
  | nil => exact absurd rfl h
  | cons y r => rfl
theorem psplitGo_ne (sep : List Nat) : ∀ (l : List Nat) (k : Nat) (acc : List Nat), psplitGo sep k acc l ≠ []
  | [], k, acc => by cases k <;> simp [psplitGo]
  | c :: r, 0, acc => by
    rw [psplitGo]
    split
    · simp
    · exact psplitGo_ne sep r 0 _
  | c :: r, k + 1, acc => by rw [psplitGo]; exact psplitGo_ne sep r k acc
/-- one sign gives way to a text -/
def sub1 (a : Nat) (b : List Nat) (x : List Nat) : List Nat := (x.map fun c => if c = a then b else [c]).flatten
theorem sub1_go (a : Nat) (b : List Nat) : ∀ (x acc : List Nat), pjoin b (psplitGo [a] 0 acc x) = acc.reverse ++ sub1 a b x
  | [], acc => by simp [psplitGo, pjoin, sub1]
  | c :: r, acc => by
    rw [psplitGo]
    by_cases h : c = a
    · subst h
      have : [c].isPrefixOf (c :: r) = true := by simp [List.isPrefixOf]
      rw [if_pos this, pjoin_cons (psplitGo_ne _ _ _ _)]
      simp only [List.length_cons, List.length_nil, Nat.zero_add, Nat.sub_self]
      rw [sub1_go c b r []]
      simp [sub1]
    · have : ¬ ([a].isPrefixOf (c :: r) = true) := by simp [List.isPrefixOf]; exact fun e => h e.symm
      rw [if_neg this, sub1_go a b r (c :: acc)]
      simp [sub1, h]
theorem preplace1 (a : Nat) (b x : List Nat) : preplace x [a] b = sub1 a b x := by
  unfold preplace psplit
  rw [sub1_go]; rfl
theorem psplitGo_sum (sep : List Nat) : ∀ (l : List Nat) (k : Nat) (acc : List Nat), ((psplitGo sep k acc l).map List.length).sum ≤ acc.length + l.length ∧ (psplitGo sep k acc l).length ≤ l.length + 1
  | [], k, acc => by cases k <;> simp [psplitGo]
  | c :: r, 0, acc => by
    rw [psplitGo]
    split
    · have := psplitGo_sum sep r (sep.length - 1) []
      simp at this ⊢; omega
    · have := psplitGo_sum sep r 0 (c :: acc)
      simp at this ⊢; omega
  | c :: r, k + 1, acc => by
    rw [psplitGo]
    have := psplitGo_sum sep r k acc
    simp at this ⊢; omega
theorem sub1_len (a : Nat) (b : List Nat) : ∀ x : List Nat, (sub1 a b x).length ≤ x.length * (b.length + 1)
  | [] => by simp [sub1]
  | c :: r => by
    have := sub1_len a b r
    have e : sub1 a b (c :: r) = (if c = a then b else [c]) ++ sub1 a b r := rfl
    rw [e, List.length_append, List.length_cons, Nat.add_mul]
    split <;> simp <;> omega

/-- pairs of one sign each, few and short: what replace needs -/
theorem okRepl1 : ∀ (ps : List (Nat × List Nat)) (x : List Nat) (m : Nat), (∀ p ∈ ps, p.2.length ≤ 3) → x.length ≤ m → m * 4 ^ ps.length ≤ 100000 → okRepl (ps.map fun p => ([p.1], p.2)) x
  | [], _, _, _, _, _ => trivial
  | p :: ps, x, m, hb, hx, hm => by
    have hL : LIM = 1048576 := rfl
    have hp := hb p List.mem_cons_self
    have hm1 : m * 4 ≤ 100000 := by
      have : m * 4 * 1 ≤ m * 4 * 4 ^ ps.length := Nat.mul_le_mul_left _ (Nat.pow_pos (by omega))
      rw [List.length_cons, Nat.pow_succ, Nat.mul_comm (4 ^ ps.length) 4, ← Nat.mul_assoc] at hm
      omega
    have hs := psplitGo_sum [p.1] x 0 []
    refine ⟨by simp, by omega, ?_, ?_⟩
    · have h3 : (psplit [p.1] x).length * p.2.length ≤ (x.length + 1) * 3 := Nat.mul_le_mul hs.2 hp
      have h4 := hs.1
      simp only [List.length_nil, Nat.zero_add] at h4
      show ((psplit [p.1] x).map List.length).sum + (psplit [p.1] x).length * p.2.length ≤ LIM
      have h5 : ((psplit [p.1] x).map List.length).sum ≤ x.length := h4
      omega
    · rw [preplace1]
      refine okRepl1 ps _ (m * 4) (fun q hq => hb q (List.mem_cons_of_mem _ hq)) ?_ ?_
      · exact Nat.le_trans (sub1_len _ _ _) (Nat.mul_le_mul hx (by omega))
      · rw [List.length_cons, Nat.pow_succ, Nat.mul_comm (4 ^ ps.length) 4, ← Nat.mul_assoc] at hm
        exact hm
def subs (ps : List (Nat × List Nat)) (x : List Nat) : List Nat := ps.foldl (fun x p => sub1 p.1 p.2 x) x
theorem prepl1 : ∀ (ps : List (Nat × List Nat)) (x : List Nat), prepl (ps.map fun p => ([p.1], p.2)) x = subs ps x
  | [], _ => rfl
  | p :: ps, x => by
    show prepl (ps.map fun p => ([p.1], p.2)) (preplace x [p.1] p.2) = _
    rw [preplace1, prepl1 ps]; rfl

theorem repl1_run {T : List (String × DefE)} (S : Std T) (n : Nat) {ps : List (Nat × List Nat)} {x : List Nat} (hb : ∀ p ∈ ps, p.2.length ≤ 3) (hl : ps.length ≤ 3) (hx : x.length ≤ 1000) :
    runF T (n + 1) "replace" (.str x :: flatP (ps.map fun p => ([p.1], p.2))) = some (.str (subs ps x)) := by
  rw [repl_run S n (by simp; omega) (okRepl1 ps x 1000 hb hx ?_), prepl1]
  have : 4 ^ ps.length ≤ 4 ^ 3 := Nat.pow_le_pow_right (by omega) hl
  omega

theorem sub1_append (a : Nat) (b x y : List Nat) : sub1 a b (x ++ y) = sub1 a b x ++ sub1 a b y := by simp [sub1]
theorem subs_append : ∀ (ps : List (Nat × List Nat)) (x y : List Nat), subs ps (x ++ y) = subs ps x ++ subs ps y
  | [], _, _ => rfl
  | p :: ps, x, y => by
    show subs ps (sub1 p.1 p.2 (x ++ y)) = _
    rw [sub1_append, subs_append ps]; rfl
theorem subs_flat (ps : List (Nat × List Nat)) : ∀ x : List Nat, subs ps x = (x.map fun c => subs ps [c]).flatten
  | [] => by
    have : ∀ ps : List (Nat × List Nat), subs ps [] = [] := by
      intro ps; induction ps with
      | nil => rfl
      | cons p ps ih => show subs ps (sub1 p.1 p.2 []) = _; exact ih
    simp [this]
  | c :: r => by
    rw [show c :: r = [c] ++ r from rfl, subs_append, subs_flat ps r]
    simp

/-- the pairs that put the signs of a pattern between brackets -/
def plainPairs : List (Nat × List Nat) := [(91, [91, 91, 93]), (42, [91, 42, 93]), (63, [91, 63, 93])]
def tkOf (c : Nat) : Tk := if c = 91 ∨ c = 42 ∨ c = 63 then .br c else .lit c
theorem tkOf_ok (c : Nat) : (tkOf c).ok = true := by
  unfold tkOf
  split
  · rename_i h; simp only [Tk.ok, Bool.or_eq_true, beq_iff_eq]; omega
  · rename_i h
    simp only [Tk.ok, Bool.not_eq_true', Bool.or_eq_false_iff, beq_eq_false_iff_ne]; omega
theorem plain1 (c : Nat) : subs plainPairs [c] = (tkOf c).pat := by
  unfold tkOf
  by_cases h1 : c = 91
  · subst h1; rfl
  · by_cases h2 : c = 42
    · subst h2; rfl
    · by_cases h3 : c = 63
      · subst h3; rfl
      · rw [if_neg (by omega)]
        simp [subs, plainPairs, sub1, h1, h2, h3, Tk.pat]
theorem plain_pat (x : List Nat) : subs plainPairs x = patOf (x.map tkOf) := by
  rw [subs_flat]
  simp only [patOf, List.map_map]
  congr 1
  exact List.map_congr_left fun c _ => plain1 c
theorem plain_run {T : List (String × DefE)} (S : Std T) (n : Nat) {x : List Nat} (hx : x.length ≤ 1000) :
    runF T (n + 1) "replace" [.str x, .str [91], .str [91, 91, 93], .str [42], .str [91, 42, 93], .str [63], .str [91, 63, 93]] = some (.str (patOf (x.map tkOf))) := by
  have := repl1_run S n (ps := plainPairs) (x := x) (by decide) (by decide) hx
  rw [plain_pat] at this
  exact this

theorem foldl_tk : ∀ (x : List Nat) (res : List PV), (x.map tkOf).foldl addTk res = res ++ (x.map enc).map PV.str
  | [], res => by simp
  | c :: r, res => by
    rw [List.map_cons, List.foldl_cons]
    have : addTk res (tkOf c) = res ++ [.str (enc c)] := by
      unfold tkOf enc
      split
      · rfl
      · rfl
    rw [this, foldl_tk r]
    simp
theorem enc_len (c : Nat) : (enc c).length ≤ 4 := by
  unfold enc brT pesc; repeat' split
  all_goals simp
theorem encs_len : ∀ x : List Nat, ((x.map enc).flatten).length ≤ 4 * x.length
  | [] => by simp
  | c :: r => by have := encs_len r; have := enc_len c; simp at *; omega
theorem tkpat_len (c : Nat) : (tkOf c).pat.length ≤ 3 := by unfold tkOf; split <;> simp [Tk.pat]
theorem pats_len : ∀ x : List Nat, (patOf (x.map tkOf)).length ≤ 3 * x.length
  | [] => by simp [patOf]
  | c :: r => by
    have := pats_len r; have := tkpat_len c
    simp [patOf] at *; omega
end Mine

namespace Mine

theorem drop_min {α : Type} (l : List α) (a : Nat) {m : Nat} (h : l.length ≤ m) : l.drop (min a m) = l.drop a := by
  rcases Nat.le_total a m with q | q
  · rw [Nat.min_eq_left q]
  · rw [Nat.min_eq_right q, List.drop_eq_nil_of_le h, List.drop_eq_nil_of_le (by omega)]
theorem pslice_nat {α : Type} (l : List α) (a b : Nat) {i j : Int} (hi : i = a) (hj : j = b) : pslice l (some i) (some j) = (l.take b).drop a := by
  subst hi; subst hj
  unfold pslice phi plo pclamp
  dsimp only
  rw [if_neg (by omega), if_neg (by omega)]
  simp only [Int.toNat_natCast]
  rw [drop_min _ _ (by simp <;> omega), List.take_eq_take_iff.mpr (by omega : min (min b l.length) l.length = min b l.length)]
theorem pslice_to {α : Type} (l : List α) (b : Nat) {j : Int} (hj : j = b) : pslice l none (some j) = l.take b := by
  subst hj
  unfold pslice phi plo pclamp
  dsimp only
  rw [if_neg (by omega)]
  simp only [Int.toNat_natCast, List.drop_zero]
  rw [List.take_eq_take_iff.mpr (by omega : min (min b l.length) l.length = min b l.length)]
/-- the last k items, and all but those -/
theorem pslice_last {α : Type} (x y : List α) {j : Int} (hj : j = -(y.length : Int)) (hy : 0 < y.length) : pslice (x ++ y) (some j) none = y := by
  subst hj
  unfold pslice phi plo pclamp
  dsimp only
  rw [if_pos (by omega)]
  rw [show (-(y.length : Int) + ((x ++ y).length : Int)).toNat = x.length by simp <;> omega]
  rw [List.take_of_length_le (Nat.le_refl _), List.drop_left' rfl]
theorem pslice_front {α : Type} (x y : List α) {j : Int} (hj : j = -(y.length : Int)) (hy : 0 < y.length) : pslice (x ++ y) none (some j) = x := by
  subst hj
  unfold pslice phi plo pclamp
  dsimp only
  rw [if_pos (by omega)]
  rw [show (-(y.length : Int) + ((x ++ y).length : Int)).toNat = x.length by simp <;> omega]
  simp
theorem pslice_inner {α : Type} (x m y : List α) {i j : Int} (hi : i = x.length) (hj : j = -(y.length : Int)) (hy : 0 < y.length) : pslice (x ++ m ++ y) (some i) (some j) = m := by
  subst hj; subst hi
  unfold pslice phi plo pclamp
  dsimp only
  rw [if_neg (by omega), if_pos (by omega)]
  rw [show (-(y.length : Int) + ((x ++ m ++ y).length : Int)).toNat = (x ++ m).length by simp <;> omega]
  rw [show min ((x.length : Int)).toNat (x ++ m ++ y).length = x.length by simp <;> omega]
  rw [List.take_left' rfl, List.drop_left' rfl]

def ovT {α : Type} (w : List α) (a s : Nat) : List α := ((w.take (a + s)).drop a ++ (w.take (a + s)).drop a) ++ (w[a]?).toList
def ov {α : Type} [BEq α] (w : List α) (a s : Nat) : Bool := (w.take (a + (ovT w a s).length)).drop a == ovT w a s

theorem pbin_mulS {O : Owns} {a : List Nat} {b : Int} (h1 : b.natAbs ≤ 4096) (h2 : a.length ≤ 256) : pbin O .mul (.str a) (.int b) = some (.str (prepeat a b)) := by
  simp only [pbin, h1, h2, and_self, if_true]
theorem pbin_addS {O : Owns} {a b : List Nat} (h : a.length + b.length ≤ LIM) : pbin O .add (.str a) (.str b) = some (.str (a ++ b)) := by
  simp only [pbin, h, if_true]
theorem pbin_addI {O : Owns} {a b : Int} : pbin O .add (.int a) (.int b) = some (.int (a + b)) := rfl
theorem prepeat2 {α : Type} (t : List α) : prepeat t 2 = t ++ t := by
  unfold prepeat
  rw [show (2 : Int).toNat = 2 from rfl]
  simp [List.replicate]
theorem prepeat1 (c : Nat) (k : Nat) : prepeat [c] (k : Int) = List.replicate k c := by
  unfold prepeat
  rw [Int.toNat_natCast]
  induction k with
  | zero => rfl
  | succ k ih => rw [List.replicate_succ, List.flatten_cons, ih]; rfl
theorem patOf_append (a b : List Tk) : patOf (a ++ b) = patOf a ++ patOf b := by simp [patOf]
theorem patOf_q (k : Nat) : patOf (List.replicate k .q) = List.replicate k 63 := by
  induction k with
  | zero => rfl
  | succ k ih => rw [List.replicate_succ, List.replicate_succ, ← ih]; rfl
theorem foldl_q : ∀ (k : Nat) (res : List PV), (List.replicate k Tk.q).foldl addTk res = res ++ (List.replicate k [46]).map PV.str
  | 0, res => by simp
  | k + 1, res => by
    rw [List.replicate_succ, List.foldl_cons, foldl_q k]
    simp [addTk, List.replicate_succ]
theorem rep_flat (k : Nat) : (List.replicate k [46]).flatten = List.replicate k 46 := by
  induction k with
  | zero => rfl
  | succ k ih => rw [List.replicate_succ, List.replicate_succ, List.flatten_cons, ih]; rfl

theorem overlap_trans {T : List (String × DefE)} (S : Std T) (n k : Nat) {x : List Nat} (hk : k ≤ 300) (hx : x.length ≤ 300) (hne : x ≠ []) :
    runF T (n + 3) "translate" [.str (List.replicate k 63 ++ patOf (x.map tkOf) ++ [42])] = some (.str (([40, 63, 115, 58] ++ List.replicate k 46) ++ (x.map enc).flatten ++ [46, 42, 41, 92, 90])) := by
  have hp : (List.replicate k Tk.q ++ x.map tkOf ++ [Tk.star]).foldl addTk [] = partsPV (List.replicate k [46] ++ x.map enc) [[]] := by
    rw [List.foldl_append, List.foldl_append, foldl_q, foldl_tk]
    simp only [List.nil_append, List.foldl_cons, List.foldl_nil]
    have hl : ((List.replicate k [46]).map PV.str ++ (x.map enc).map PV.str).getLast? = some (.str (enc (x.getLast hne))) := by
      have e : x = x.dropLast ++ [x.getLast hne] := (List.dropLast_concat_getLast hne).symm
      conv => lhs; rw [e]
      simp only [List.map_append, List.map_cons, List.map_nil, ← List.append_assoc]
      exact List.getLast?_concat
    have : addTk ((List.replicate k [46]).map PV.str ++ (x.map enc).map PV.str) .star = ((List.replicate k [46]).map PV.str ++ (x.map enc).map PV.str) ++ [.star] := by
      simp only [addTk, hl]
    rw [this]
    simp [partsPV, segsPV, segPV]
  have e1 : patOf (List.replicate k Tk.q ++ x.map tkOf ++ [Tk.star]) = List.replicate k 63 ++ patOf (x.map tkOf) ++ [42] := by
    rw [patOf_append, patOf_append, patOf_q]; rfl
  have hxe := encs_len x
  have hxp := pats_len x
  have := translate_run S n (ts := List.replicate k Tk.q ++ x.map tkOf ++ [Tk.star]) ?_ ?_ ?_ hp trivial ?_ ?_ (by simp)
  · rw [e1] at this
    rw [this]
    simp [joinT, segOut, rep_flat]
  · intro t ht
    rcases List.mem_append.mp ht with ht | ht
    · rcases List.mem_append.mp ht with ht | ht
      · rw [(List.mem_replicate.mp ht).2]; rfl
      · obtain ⟨c, _, rfl⟩ := List.mem_map.mp ht; exact tkOf_ok c
    · rw [List.mem_singleton.mp ht]; rfl
  · simp <;> omega
  · rw [e1]; simp <;> omega
  · simp [partsPV, segsPV, segPV] <;> omega
  · rw [List.flatten_append, rep_flat, List.append_assoc, List.length_append, List.length_append, List.length_replicate]
    have : ((segOut [[]]).flatten).length = 2 := rfl
    omega

theorem overlap_run {T : List (String × DefE)} (S : Std T) (hov : T.lookup "_law_overlap" = some ⟨9, 3, p3_overlap⟩) (n : Nat) {word : List Nat} {a s : Nat} (ha : a < word.length) (hw : word.length ≤ 100) (hs : s ≤ 100) :
    runF T (n + 4) "_law_overlap" [.str word, .int a, .int s] = some (.bool (ov word a s)) := by
  have hL : LIM = 1048576 := rfl
  rw [run_eq hov (by decide) (by decide +kernel) (by decide +kernel) rfl]
  obtain ⟨c, hc⟩ : ∃ c, word[a]? = some c := ⟨_, List.getElem?_eq_getElem ha⟩
  have hcp : pidx word (a : Int) = some c := by
    unfold pidx; rw [if_pos (by omega), Int.toNat_natCast, hc]
  generalize ht : (word.take (a + s)).drop a = t
  have htl : t.length ≤ 100 := by rw [← ht]; simp <;> omega
  have hsl : pslice word (some (a : Int)) (some ((a : Int) + (s : Int))) = t := by rw [← ht]; exact pslice_nat _ _ _ rfl (by omega)
  have htw : ovT word a s = t ++ t ++ [c] := by unfold ovT; rw [ht, hc]; rfl
  generalize hx : t ++ t ++ [c] = x at htw
  have hxl : x.length = 2 * t.length + 1 := by rw [← hx]; simp <;> omega
  have hne : x ≠ [] := by intro e; rw [e] at hxl; simp at hxl
  have hxe := encs_len x
  have hxp := pats_len x
  have hplain := plain_run S (n + 2) (x := x) (by omega)
  have htr := overlap_trans S n a (x := x) (by omega) (by omega) hne
  have hsg := signs_run S (n + 2) (cs := x) (by omega) (by omega)
  have hbool : ov word a s = ((word.take (a + x.length)).drop a == x) := by unfold ov; rw [htw]
  generalize hE : (x.map enc).flatten = E at htr hsg hxe
  generalize hP : patOf (x.map tkOf) = P at htr hplain hxp
  have hG : ∀ G : Slots, G.map (fun v => v.bind (frzN [])) = G.map (fun v => v.bind (frzN [])) := fun _ => rfl
  have hx' : exs FUEL (runF T (n + 3)) p3_overlap ⟨[PV.str word, .int a, .int s].map some ++ List.replicate (9 - 3) none, []⟩ =
      some (⟨[some (.str word), some (.int a), some (.int s), some (.str x), some (.str (([40, 63, 115, 58] ++ List.replicate a 46) ++ E ++ [46, 42, 41, 92, 90])), none, none, none, none], []⟩, .ret (.bool (ov word a s))) := by
    unfold p3_overlap
    have hb : ((a : Nat) : Int).natAbs < 2 ^ 62 := by omega
    have hwl : word.length ≤ LIM := by omega
    have ht2 : t.length ≤ 256 := by omega
    have hadd : (t ++ t).length + 1 ≤ LIM := by simp <;> omega
    refine exs_next (σ' := ⟨[some (.str word), some (.int a), some (.int s), some (.str x), none, none, none, none, none], []⟩) ?_ ?_
    · have p1 : pbin [] .mul (.str t) (.int 2) = some (.str (t ++ t)) := by rw [pbin_mulS (by decide) ht2, prepeat2]
      have p2 : pbin [] .add (.str (t ++ t)) (.str [c]) = some (.str x) := by rw [pbin_addS hadd, hx]
      simp only [ex, ev, List.map_cons, List.map_nil, List.replicate, List.cons_append, List.nil_append, List.getElem?_cons_succ, List.getElem?_cons_zero, Option.bind_some, pbin_addI, pslc, ppart, hwl, if_true, hsl, p1, pitem, hb, hcp, Option.map_some, p2, St.put]
      rfl
    refine exs_next (σ' := ⟨[some (.str word), some (.int a), some (.int s), some (.str x), some (.str (([40, 63, 115, 58] ++ List.replicate a 46) ++ E ++ [46, 42, 41, 92, 90])), none, none, none, none], []⟩) ?_ ?_
    · have h1 : (List.replicate a 63).length + P.length ≤ LIM := by simp <;> omega
      have h2 : (List.replicate a 63 ++ P).length + [42].length ≤ LIM := by simp <;> omega
      have p1 : pbin [] .mul (.str [63]) (.int a) = some (.str (List.replicate a 63)) := by rw [pbin_mulS (by omega) (by decide), prepeat1]
      simp only [ex, ev, evs, List.getElem?_cons_succ, List.getElem?_cons_zero, Option.bind_some, Option.map_some, p1, noOwnL, noOwn, Bool.and_self, if_true, hplain, pbin_addS h1, pbin_addS h2, htr, St.put]
      rfl
    refine exs_next (ite_f ?_ (by rw [exs])) ?_
    · have h1 : (([40, 63, 115, 58] ++ List.replicate a 46) ++ E ++ [46, 42, 41, 92, 90]).length ≤ LIM := by simp <;> omega
      have h2 : [40, 63, 115, 58].length + (List.replicate a 46).length ≤ LIM := by simp <;> omega
      have s1 : pslice (([40, 63, 115, 58] ++ List.replicate a 46) ++ E ++ [46, 42, 41, 92, 90]) none (some ((4 : Int) + (a : Int))) = [40, 63, 115, 58] ++ List.replicate a 46 := by
        rw [pslice_to _ (4 + a) (by omega), List.append_assoc]
        exact List.take_left' (by simp <;> omega)
      have s2 : pslice (([40, 63, 115, 58] ++ List.replicate a 46) ++ E ++ [46, 42, 41, 92, 90]) (some (-5 : Int)) none = [46, 42, 41, 92, 90] := pslice_last _ _ rfl (by decide)
      have s3 : pslice (([40, 63, 115, 58] ++ List.replicate a 46) ++ E ++ [46, 42, 41, 92, 90]) (some ((4 : Int) + (a : Int))) (some (-5 : Int)) = E := pslice_inner _ _ _ (by simp <;> omega) rfl (by decide)
      have p1 : pbin [] .mul (.str [46]) (.int a) = some (.str (List.replicate a 46)) := by rw [pbin_mulS (by omega) (by decide), prepeat1]
      simp only [pt, ev, evs, List.getElem?_cons_succ, List.getElem?_cons_zero, Option.bind_some, Option.map_some, p1, pbin_addI, pbin_addS h2, if_true, noOwnL, noOwn, Bool.and_self, pslc, ppart, h1, s1, s2, s3, hsg, pcmp, peq, beq_self_eq_true, Bool.not_true, Bool.false_eq_true, if_false]
    refine exs_stop ?_ (by simp)
    have f1 : ∀ l : List Nat, frzN [] (.str l) = some (.str l) := fun _ => rfl
    have f2 : ∀ i : Int, frzN [] (.int i) = some (.int i) := fun _ => rfl
    have h3 : x.length < 2 ^ 62 := by omega
    have s4 : pslice word (some (a : Int)) (some ((a : Int) + (x.length : Int))) = (word.take (a + x.length)).drop a := pslice_nat _ _ _ rfl (by omega)
    simp only [ex, ev, evs, List.map_cons, List.map_nil, List.getElem?_cons_succ, List.getElem?_cons_zero, Option.bind_some, Option.map_some, f1, f2, pslc, ppart, pbi, pbin_addI, h3, hwl, if_true, s4, pcmp, peq, hbool]
  show pfun FUEL (runF T (n + 3)) 9 p3_overlap _ = _
  unfold pfun
  rw [show [PV.str word, PV.int a, PV.int s].length = 3 from rfl, hx']
  simp [noOwn]
end Mine

namespace Mine

/-- the new word of a word of two signs -/
def mu2 (w : List Bool) : List Bool := (w.map fun b => [b, !b]).flatten
def bitsOf : Nat → List (List Bool)
  | 0 => [[]]
  | n + 1 => (bitsOf n).flatMap fun l => [false :: l, true :: l]
theorem bitsOf_mem : ∀ l : List Bool, l ∈ bitsOf l.length
  | [] => by simp [bitsOf]
  | b :: l => by
    have := bitsOf_mem l
    simp only [List.length_cons, bitsOf, List.mem_flatMap]
    refine ⟨l, this, ?_⟩
    cases b <;> simp
def due (w : List Bool) (p s : Nat) : Bool := s % 2 == 0 && ov w p (s / 2)
theorem windows : ∀ s, s < 9 → ∀ v ∈ bitsOf (s + 1), 0 < s → (ov (mu2 v) 0 s == due v 0 s && ov (mu2 v) 1 s == due v 0 s) = true := by decide +kernel

theorem ov_drop {α : Type} [BEq α] (w : List α) (a b s : Nat) : ov w (a + b) s = ov (w.drop a) b s := by
  have e1 : ∀ k, (w.take (a + b + k)).drop (a + b) = ((w.drop a).take (b + k)).drop b := by
    intro k
    rw [List.drop_take, List.drop_take, List.drop_drop]
    congr 1; omega
  have e2 : ovT w (a + b) s = ovT (w.drop a) b s := by
    unfold ovT
    rw [e1 s, List.getElem?_drop]
  unfold ov
  rw [e2, e1]
theorem ovT_len {α : Type} (w : List α) (a s : Nat) : (ovT w a s).length ≤ 2 * s + 1 := by
  unfold ovT
  have : (w[a]?).toList.length ≤ 1 := by cases w[a]? <;> simp
  simp only [List.length_append, List.length_drop, List.length_take]
  omega
theorem ov_take {α : Type} [BEq α] (w : List α) (b s L : Nat) (h : b + 2 * s + 1 ≤ L) : ov w b s = ov (w.take L) b s := by
  have e1 : ∀ k, k ≤ 2 * s + 1 → (w.take L).take (b + k) = w.take (b + k) := fun k hk => by rw [List.take_take, Nat.min_eq_left (by omega)]
  have e2 : ovT (w.take L) b s = ovT w b s := by
    unfold ovT
    rw [e1 s (by omega), List.getElem?_take, if_pos (by omega)]
  unfold ov
  rw [e2, e1 _ (ovT_len w b s)]
theorem mu2_drop : ∀ (w : List Bool) (p : Nat), mu2 (w.drop p) = (mu2 w).drop (2 * p)
  | [], p => by simp [mu2]
  | b :: w, 0 => rfl
  | b :: w, p + 1 => by
    have := mu2_drop w p
    rw [List.drop_succ_cons, this]
    have e : mu2 (b :: w) = b :: (!b) :: mu2 w := rfl
    rw [e, show 2 * (p + 1) = 2 * p + 1 + 1 by omega, List.drop_succ_cons, List.drop_succ_cons]
theorem mu2_take : ∀ (w : List Bool) (p : Nat), mu2 (w.take p) = (mu2 w).take (2 * p)
  | [], p => by simp [mu2]
  | b :: w, 0 => rfl
  | b :: w, p + 1 => by
    have := mu2_take w p
    rw [List.take_succ_cons]
    have e : ∀ w, mu2 (b :: w) = b :: (!b) :: mu2 w := fun _ => rfl
    rw [e, e, this, show 2 * (p + 1) = 2 * p + 1 + 1 by omega, List.take_succ_cons, List.take_succ_cons]

theorem thue {w : List Bool} {p s : Nat} (hs : 0 < s) (hs9 : s < 9) (hp : p + s + 1 ≤ w.length) : ov (mu2 w) (2 * p) s = due w p s ∧ ov (mu2 w) (2 * p + 1) s = due w p s := by
  have hv : ((w.drop p).take (s + 1)).length = s + 1 := by simp <;> omega
  have hm := bitsOf_mem ((w.drop p).take (s + 1))
  rw [hv] at hm
  have h := windows s hs9 _ hm hs
  simp only [Bool.and_eq_true, beq_iff_eq] at h
  have key : ∀ j, j ≤ 1 → ov (mu2 w) (2 * p + j) s = ov (mu2 ((w.drop p).take (s + 1))) j s := fun j hj => by
    rw [ov_drop, ← mu2_drop, ov_take _ j s (2 * (s + 1)) (by omega), ← mu2_take]
  have hd : due w p s = due ((w.drop p).take (s + 1)) 0 s := by
    unfold due
    rw [show ov w p (s / 2) = ov w (p + 0) (s / 2) from rfl, ov_drop, ov_take _ 0 (s / 2) (s + 1) (by omega)]
  rw [hd]
  exact ⟨(key 0 (by omega)).trans h.1, (key 1 (by omega)).trans h.2⟩

theorem map_beq {f : Bool → Nat} (hf : f false ≠ f true) : ∀ x y : List Bool, (x.map f == y.map f) = (x == y)
  | [], [] => rfl
  | [], _ :: _ => rfl
  | _ :: _, [] => rfl
  | a :: x, b :: y => by
    have h1 : (f a == f b) = (a == b) := by
      cases a <;> cases b <;> simp [hf, Ne.symm hf]
    show ((f a == f b) && (x.map f == y.map f)) = ((a == b) && (x == y))
    rw [h1, map_beq hf x y]
theorem ov_map {f : Bool → Nat} (hf : f false ≠ f true) (w : List Bool) (a s : Nat) : ov (w.map f) a s = ov w a s := by
  have e : ovT (w.map f) a s = (ovT w a s).map f := by
    unfold ovT
    rw [List.map_append, List.map_append, ← List.map_take, ← List.map_drop, List.getElem?_map]
    congr 1
    cases w[a]? <;> rfl
  unfold ov
  rw [e, List.length_map, ← List.map_take, ← List.map_drop, map_beq hf]
end Mine

namespace Mine

theorem pmodN {O : Owns} {a b : Nat} {i j : Int} (hi : i = a) (hj : j = b) (hb : 0 < b) (h2 : b < 1073741824) : pbin O .mod (.int i) (.int j) = some (.int ((a % b : Nat) : Int)) := by
  subst hi; subst hj
  have h : ((b : Int) ≠ 0 ∧ (b : Int).natAbs < 1073741824) := ⟨by omega, by omega⟩
  have e : Int.fmod (a : Int) (b : Int) = ((a % b : Nat) : Int) := by rw [Int.fmod_eq_emod_of_nonneg _ (by omega)]; simp
  simp only [pbin, h, ne_eq, not_false_eq_true, and_self, if_true, e]
theorem pdivN {O : Owns} {a b : Nat} {i j : Int} (hi : i = a) (hj : j = b) (hb : 0 < b) (h2 : b < 1073741824) : pbin O .fdiv (.int i) (.int j) = some (.int ((a / b : Nat) : Int)) := by
  subst hi; subst hj
  have h : ((b : Int) ≠ 0 ∧ (b : Int).natAbs < 1073741824) := ⟨by omega, by omega⟩
  have e : Int.fdiv (a : Int) (b : Int) = ((a / b : Nat) : Int) := by rw [Int.fdiv_eq_ediv_of_nonneg _ (by omega)]; simp
  simp only [pbin, h, ne_eq, not_false_eq_true, and_self, if_true, e]
theorem pmulI {O : Owns} {a b : Int} (h : b.natAbs < 2 ^ 62) : pbin O .mul (.int a) (.int b) = some (.int (a * b)) := by simp only [pbin, h, if_true]
theorem psubI {O : Owns} {a b : Int} : pbin O .sub (.int a) (.int b) = some (.int (a - b)) := rfl
theorem mapO_map {α β : Type} {f : α → Option (Option β)} {g : α → β} : ∀ {l : List α}, (∀ x ∈ l, f x = some (some (g x))) → mapO f l = some (l.map g)
  | [], _ => rfl
  | x :: r, h => by
    rw [mapO, h x List.mem_cons_self]
    simp only
    rw [mapO_map fun y hy => h y (List.mem_cons_of_mem _ hy)]
    rfl
theorem mapO_PV {β : Type} {f : PV → Option (Option PV)} {c : β → PV} {g : β → PV} {l : List β} (h : ∀ x ∈ l, f (c x) = some (some (g x))) : mapO f (l.map c) = some (l.map g) := by
  induction l with
  | nil => rfl
  | cons x r ih =>
    rw [List.map_cons, mapO, h x List.mem_cons_self]
    simp only
    rw [ih fun y hy => h y (List.mem_cons_of_mem _ hy)]
    rfl
theorem pints_map : ∀ l : List Int, pints (l.map .int) = some l
  | [] => rfl
  | x :: r => by rw [List.map_cons, pints, pints_map r]; rfl
theorem sum_cast : ∀ l : List Nat, (l.map fun n : Nat => (n : Int)).sum = ((l.sum : Nat) : Int)
  | [] => rfl
  | x :: r => by rw [List.map_cons, List.sum_cons, List.sum_cons, sum_cast r]; simp
theorem nums_nat (xs : List Int) : ∃ ns : List Nat, ns.length = xs.length ∧ xs.map (fun x => x.fmod 1000000) = ns.map fun n : Nat => (n : Int) := by
  refine ⟨xs.map fun x => (x.fmod 1000000).toNat, by simp, ?_⟩
  rw [List.map_map]
  refine List.map_congr_left fun x _ => ?_
  have : 0 ≤ x.fmod 1000000 := Int.fmod_nonneg_of_pos x (by decide)
  simp only [Function.comp]
  omega

/-- texts of one sign -/
def sgs (l : List Nat) : List PV := l.map fun c => .str [c]
theorem pstrs_sgs (l : List Nat) : pstrs (sgs l) = some (l.map fun c => [c]) := by
  have : sgs l = (l.map fun c => [c]).map PV.str := by simp [sgs]
  rw [this, pstrs_map]
theorem flat1 : ∀ l : List Nat, (l.map fun c => [c]).flatten = l
  | [] => rfl
  | c :: r => by rw [List.map_cons, List.flatten_cons, flat1 r]; rfl
theorem sum1 (l : List Nat) : ((l.map fun c => [c]).map List.length).sum = l.length := by rw [sum_flat, flat1]

theorem pfmodI {O : Owns} {a : Int} : pbin O .mod (.int a) (.int 1000000) = some (.int (a.fmod 1000000)) := by
  simp [pbin]
theorem ppow10 {O : Owns} : pbin O .pow (.int 10) (.int 6) = some (.int 1000000) := rfl

/-- the numbers: the script's first ones, filled up, each by its remainder -/
theorem nums_ev {F : PF1} {k : Nat} {dflt : List Int} {de : PEs} {G : Slots} {ws : List Int} (hG : G[0]? = some (some (.list (ws.map .int)))) (hw : ws.length ≤ 63) (hd : evs F [] G de = some (dflt.map .int)) (hdl : dflt.length ≤ 64) (hk : k ≤ 64) {fr : List (Option Nat)} (hfr : fr = [none, none]) :
    ev F [] G (.comp (.bin .mod (.var 1) (.bin .pow (.ci 10) (.ci 6))) 1 (.val (.sl (.bin .add (.sl (.var 0) .cn (.ci k)) (.lst de)) .cn (.ci k))) .nil fr) = some (.list ((((ws.take k ++ dflt).take k).map fun x => x.fmod 1000000).map .int)) := by
  subst hfr
  have hL : LIM = 1048576 := rfl
  have e1 : ev F [] G (.sl (.bin .add (.sl (.var 0) .cn (.ci k)) (.lst de)) .cn (.ci k)) = some (.list (((ws.take k ++ dflt).take k).map .int)) := by
    have s1 : pslc [] (.list (ws.map .int)) .none (.int k) = some (.list ((ws.take k).map .int)) := by
      have : (ws.map PV.int).length ≤ LIM := by simp <;> omega
      simp only [pslc, ppart, asL, this, if_true]
      rw [pslice_to _ k rfl, ← List.map_take]
    have s2 : pbin [] .add (.list ((ws.take k).map .int)) (.list (dflt.map .int)) = some (.list ((ws.take k ++ dflt).map .int)) := by
      have : ((ws.take k).map PV.int).length + (dflt.map PV.int).length ≤ LIM := by simp <;> omega
      simp only [pbin, asL, this, if_true, List.map_append]
    have s3 : pslc [] (.list ((ws.take k ++ dflt).map .int)) .none (.int k) = some (.list (((ws.take k ++ dflt).take k).map .int)) := by
      have : ((ws.take k ++ dflt).map PV.int).length ≤ LIM := by simp <;> omega
      simp only [pslc, ppart, asL, this, if_true]
      rw [pslice_to _ k rfl, ← List.map_take]
    simp only [ev, hG, Option.bind_some, s1, hd, Option.map_some, s2, s3]
  have hl : (((ws.take k ++ dflt).take k).map PV.int).length ≤ LIM := by simp <;> omega
  have e2 : evI F [] G (.val (.sl (.bin .add (.sl (.var 0) .cn (.ci k)) (.lst de)) .cn (.ci k))) = some (((ws.take k ++ dflt).take k).map .int) := by
    rw [evI, e1]
    simp only [Option.bind_some, piter, asL, hl, if_true]
  rw [ev, e2]
  simp only [Option.bind_some]
  rw [mapO_PV (c := PV.int) (g := fun x => .int (x.fmod 1000000))]
  · simp only [Option.map_some, List.map_map]; rfl
  · intro x _
    simp only [List.map_cons, List.map_nil, Option.bind_none, List.set_cons_succ, List.set_cons_zero, pts, Option.bind_some, if_true, ev, List.getElem?_cons_succ, List.getElem?_cons_zero, ppow10, pfmodI, Option.map_some]
end Mine

namespace Mine

def frBody : PSs → PSs
  | .cons (.fr _ _ b) _ => b
  | .cons _ r => frBody r
  | .nil => .nil
def l3Body : PSs := frBody p3_law
def l3S (ws : List Int) (ns : List Nat) (tot one two : Nat) (sg word new : List Nat) (lf : List PV) (x9 x10 x11 x12 : Option PV) : St :=
  ⟨[some (.list (ws.map .int)), some (.list (ns.map fun n : Nat => .int n)), some (.int tot), some (.own 0), some (.str [one]), some (.str [two]), some (.list (sgs sg)), some (.str word), some (.str new), x9, x10, x11, x12, none, none, none, none], [some lf]⟩

section
variable {F : PF1} {ws : List Int} {ns : List Nat} {tot one two : Nat} {sg word new : List Nat} {lf : List PV} {x10 x11 x12 : Option PV}
theorem l3_body {s p : Nat} {b : Bool} (hs : 0 < s) (hs9 : s < 9) (hp : p = tot / 8 % (12 - s)) (h1 : F "_law_overlap" [.str new, .int (2 * (p : Int)), .int s] = some (.bool b)) (h2 : F "_law_overlap" [.str new, .int (2 * (p : Int) + 1), .int s] = some (.bool b))
    (h3 : s % 2 = 0 → F "_law_overlap" [.str word, .int p, .int ((s / 2 : Nat) : Int)] = some (.bool b)) (h4 : s % 2 ≠ 0 → b = false) :
    exs FUEL F l3Body (l3S ws ns tot one two sg word new lf (some (.int s)) x10 x11 x12) = some (l3S ws ns tot one two sg word new lf (some (.int s)) (some (.int p)) (some (.list [.bool b, .bool b])) (some (.bool b)), .next) := by
  unfold l3Body p3_law
  simp only [frBody]
  refine exs_next (σ' := l3S ws ns tot one two sg word new lf (some (.int s)) (some (.int p)) x11 x12) ?_ ?_
  · have e1 : pbin [some lf] .fdiv (.int tot) (.int 8) = some (.int ((tot / 8 : Nat) : Int)) := pdivN rfl rfl (by decide) (by decide)
    have e2 : pbin [some lf] .mod (.int ((tot / 8 : Nat) : Int)) (.int (12 - (s : Int))) = some (.int (p : Int)) := by
      rw [pmodN (a := tot / 8) (b := 12 - s) rfl (by omega) (by omega) (by omega), ← hp]
    simp only [ex, ev, l3S, List.getElem?_cons_succ, List.getElem?_cons_zero, Option.bind_some, e1, psubI, e2, Option.map_some, St.put]
    rfl
  have hp2 : (p : Int).natAbs < 2 ^ 62 := by
    have : p < 12 := by rw [hp]; exact Nat.lt_of_lt_of_le (Nat.mod_lt _ (by omega)) (by omega)
    omega
  refine exs_next (σ' := l3S ws ns tot one two sg word new lf (some (.int s)) (some (.int p)) (some (.list [.bool b, .bool b])) x12) ?_ ?_
  · simp only [ex, ev, evs, l3S, List.getElem?_cons_succ, List.getElem?_cons_zero, Option.bind_some, pmulI hp2, pbin_addI, noOwnL, noOwn, Bool.and_self, if_true, h1, h2, Option.map_some, St.put]
    rfl
  refine exs_next (σ' := l3S ws ns tot one two sg word new lf (some (.int s)) (some (.int p)) (some (.list [.bool b, .bool b])) (some (.bool b))) ?_ ?_
  · have e1 : pbin [some lf] .mod (.int (s : Int)) (.int 2) = some (.int ((s % 2 : Nat) : Int)) := pmodN rfl rfl (by decide) (by decide)
    have e2 : pbin [some lf] .fdiv (.int (s : Int)) (.int 2) = some (.int ((s / 2 : Nat) : Int)) := pdivN rfl rfl (by decide) (by decide)
    by_cases hq : s % 2 = 0
    · have e3 : (((s % 2 : Nat) : Int) == 0) = true := by rw [hq]; rfl
      simp only [ex, ev, evs, l3S, List.getElem?_cons_succ, List.getElem?_cons_zero, Option.bind_some, e1, pcmp, peq, e3, Option.map_some, ptruth, if_true, e2, noOwnL, noOwn, Bool.and_self, h3 hq, St.put]
      rfl
    · have e3 : (((s % 2 : Nat) : Int) == 0) = false := by
        rw [show s % 2 = 1 by omega]; rfl
      have hb := h4 hq
      subst hb
      simp only [ex, ev, evs, l3S, List.getElem?_cons_succ, List.getElem?_cons_zero, Option.bind_some, e1, pcmp, peq, e3, Option.map_some, ptruth, Bool.false_eq_true, if_false, St.put]
      rfl
  refine exs_one (ite_f ?_ (by rw [exs]))
  cases b <;> rfl
end

def signs9 : List Nat := [97, 33, 46, 45, 93, 92, 91, 42, 63]
theorem pick9 : ∀ q1, q1 < 9 → ∀ q2, q2 < 8 → ∃ one two, signs9[q1]? = some one ∧ (signs9.eraseIdx q1)[q2]? = some two ∧ one ≠ two ∧ one ≠ 57344 ∧ two ≠ 57344 := by
  have h : ∀ q1, q1 < 9 → ∀ q2, q2 < 8 → (signs9[q1]?.any fun one => (signs9.eraseIdx q1)[q2]?.any fun two => one != two && one != 57344 && two != 57344) = true := by decide
  intro q1 h1 q2 h2
  have := h q1 h1 q2 h2
  rw [Option.any_eq_true] at this
  obtain ⟨one, e1, this⟩ := this
  rw [Option.any_eq_true] at this
  obtain ⟨two, e2, this⟩ := this
  simp only [Bool.and_eq_true, bne_iff_ne, ne_eq] at this
  exact ⟨one, two, e1, e2, this.1.1, this.1.2, this.2⟩

/-- the word's bits -/
def wbits (ns : List Nat) (tot : Nat) : List Bool :=
  ((List.replicate 7 ((ns.map fun x => x % 2 == 1).take (1 + tot / 96 % 3))).flatten).take 7 ++ (ns.map fun x => x % 2 == 1).drop 3
theorem wbits_len {ns : List Nat} (tot : Nat) (h : ns.length = 8) : (wbits ns tot).length = 12 := by
  unfold wbits
  have hq : tot / 96 % 3 < 3 := Nat.mod_lt _ (by decide)
  have h7 : ∀ k : Nat, (List.replicate 7 k).sum = 7 * k := fun k => by simp [List.replicate] <;> omega
  rw [List.length_append, List.length_take, List.length_flatten, List.map_replicate, h7, List.length_take, List.length_drop, List.length_map, h]
  omega

theorem subs3 {one two : Nat} (h : one ≠ two) (h1 : one ≠ 57344) (h2 : two ≠ 57344) (w : List Bool) :
    subs [(one, [57344]), (two, [two, one]), (57344, [one, two])] (w.map fun b => if b then two else one) = (mu2 w).map fun b => if b then two else one := by
  rw [subs_flat]
  induction w with
  | nil => rfl
  | cons b w ih =>
    rw [List.map_cons, List.map_cons, List.flatten_cons, ih]
    have e : mu2 (b :: w) = b :: (!b) :: mu2 w := rfl
    rw [e, List.map_cons, List.map_cons]
    cases b
    · simp [subs, sub1, h1.symm, h2, h, Ne.symm h2]
    · simp [subs, sub1, h, Ne.symm h, h1, h2]
end Mine

namespace Mine

theorem pidx_nat {α : Type} (l : List α) (a : Nat) {i : Int} (hi : i = a) : pidx l i = l[a]? := by
  subst hi
  unfold pidx; rw [if_pos (by omega), Int.toNat_natCast]
theorem prepeatN {α : Type} (l : List α) (k : Nat) {i : Int} (hi : i = k) : prepeat l i = (List.replicate k l).flatten := by
  subst hi
  unfold prepeat; rw [Int.toNat_natCast]
theorem sgs_len (l : List Nat) : (sgs l).length = l.length := by simp [sgs]
theorem sgs_take (l : List Nat) (k : Nat) : (sgs l).take k = sgs (l.take k) := by simp [sgs]
theorem sgs_drop (l : List Nat) (k : Nat) : (sgs l).drop k = sgs (l.drop k) := by simp [sgs]
theorem sgs_append (a b : List Nat) : sgs a ++ sgs b = sgs (a ++ b) := by simp [sgs]
theorem sgs_rep (l : List Nat) (k : Nat) : (List.replicate k (sgs l)).flatten = sgs ((List.replicate k l).flatten) := by
  induction k with
  | zero => rfl
  | succ k ih => rw [List.replicate_succ, List.flatten_cons, ih, List.replicate_succ, List.flatten_cons, sgs_append]
theorem sgs_erase : ∀ (l : List Nat) (k : Nat), (sgs l).eraseIdx k = sgs (l.eraseIdx k)
  | [], _ => rfl
  | _ :: _, 0 => rfl
  | c :: l, k + 1 => by
    have := sgs_erase l k
    show PV.str [c] :: (sgs l).eraseIdx k = PV.str [c] :: sgs (l.eraseIdx k)
    rw [this]
theorem pjoin_sgs {O : Owns} (l : List Nat) (h : l.length ≤ LIM) : pme O .join (.str []) [.list (sgs l)] = some (.str l) := by
  simp only [pme, asL, Option.bind_some, pstrs_sgs]
  rw [if_pos (by rw [sum1]; simp <;> omega), pjoin_nil, flat1]
theorem pslc_list {O : Owns} {l : List PV} (h : l.length ≤ LIM) (lo hi : Option Int) {a b : PV} (ha : ppart a = some lo) (hb : ppart b = some hi) : pslc O (.list l) a b = some (.list (pslice l lo hi)) := by
  unfold pslc
  rw [ha, hb]
  simp only [asL, h, if_true]
theorem pslice_from {α : Type} (l : List α) (a : Nat) {i : Int} (hi : i = a) : pslice l (some i) none = l.drop a := by
  subst hi
  unfold pslice phi plo pclamp
  dsimp only
  rw [if_neg (by omega), List.take_length, Int.toNat_natCast, drop_min _ _ (Nat.le_refl _)]
theorem pmulL {O : Owns} {l : List PV} {b : Int} (h1 : b.natAbs ≤ 256) (h2 : l.length ≤ 4096) : pbin O .mul (.list l) (.int b) = some (.list (prepeat l b)) := by
  simp only [pbin, asL, h1, h2, and_self, if_true]
theorem paddL {O : Owns} {a b : List PV} (h : a.length + b.length ≤ LIM) : pbin O .add (.list a) (.list b) = some (.list (a ++ b)) := by
  simp only [pbin, asL, h, if_true]

theorem sg_flat (one two : Nat) (w : List Bool) :
    ((w.map fun b => if b then two else one).map fun c => if c = one then [one, two] else [two, one]).flatten = (mu2 w).map (fun b => if b then two else one) ∨ one = two := by
  by_cases h : one = two
  · exact .inr h
  · refine .inl ?_
    induction w with
    | nil => rfl
    | cons b w ih =>
      have e : mu2 (b :: w) = b :: (!b) :: mu2 w := rfl
      rw [List.map_cons, List.map_cons, List.flatten_cons, ih, e, List.map_cons, List.map_cons]
      cases b
      · simp
      · simp [Ne.symm h]

theorem mu2_len (w : List Bool) : (mu2 w).length = 2 * w.length := by
  induction w with
  | nil => rfl
  | cons b w ih =>
    have e : mu2 (b :: w) = b :: (!b) :: mu2 w := rfl
    rw [e, List.length_cons, List.length_cons, ih, List.length_cons]; omega

set_option maxHeartbeats 2000000 in
theorem pure3 (ws : List Int) (hw : ws.length ≤ 63) : pfun FUEL (runF T3 6) 17 p3_law [.list (ws.map .int)] = some (.bool true) := by
  have hL : LIM = 1048576 := rfl
  have S := std3
  have hov : T3.lookup "_law_overlap" = some ⟨9, 3, p3_overlap⟩ := rfl
  obtain ⟨ns, hns, hnum⟩ := nums_nat ((ws.take 8 ++ [0, 0, 1, 0, 0, 1, 1, 0]).take 8)
  have hn8 : ns.length = 8 := by rw [hns]; simp <;> omega
  obtain ⟨one, two, hone, htwo, h12, hm1, hm2⟩ := pick9 (ns.sum / 288 % 9) (Nat.mod_lt _ (by decide)) (ns.sum / 2592 % 8) (Nat.mod_lt _ (by decide))
  generalize htot : ns.sum = tot at hone htwo
  generalize hlf : sgs (signs9.eraseIdx (tot / 288 % 9)) = lf
  generalize hsg : (ns.map fun x => x % 2 == 1).map (fun b : Bool => if b then two else one) = sg
  have hsg8 : sg.length = 8 := by rw [← hsg]; simp [hn8]
  generalize hword : (wbits ns tot).map (fun b : Bool => if b then two else one) = word
  have hwb := wbits_len tot hn8
  have hword12 : word.length = 12 := by rw [← hword]; simp [hwb]
  generalize hnew : (mu2 (wbits ns tot)).map (fun b : Bool => if b then two else one) = new
  have hnew24 : new.length = 24 := by rw [← hnew]; simp [mu2_len, hwb]
  have hnsl : ((ns.map fun n : Nat => (n : Int)).map PV.int) = ns.map fun n : Nat => PV.int n := by rw [List.map_map]; rfl
  have s1 : ex FUEL (runF T3 6) (.asg 1 (.comp (.bin .mod (.var 1) (.bin .pow (.ci 10) (.ci 6))) 1 (.val (.sl (.bin .add (.sl (.var 0) .cn (.ci 8)) (.lst (.cons (.ci 0) (.cons (.ci 0) (.cons (.ci 1) (.cons (.ci 0) (.cons (.ci 0) (.cons (.ci 1) (.cons (.ci 1) (.cons (.ci 0) .nil)))))))))) .cn (.ci 8))) .nil [none, none]))
      ⟨[PV.list (ws.map .int)].map some ++ List.replicate 16 none, []⟩ = some (⟨[some (.list (ws.map .int)), some (.list (ns.map fun n : Nat => .int n))] ++ List.replicate 15 none, []⟩, .next) := by
    have := nums_ev (F := runF T3 6) (k := 8) (dflt := [0, 0, 1, 0, 0, 1, 1, 0]) (de := .cons (.ci 0) (.cons (.ci 0) (.cons (.ci 1) (.cons (.ci 0) (.cons (.ci 0) (.cons (.ci 1) (.cons (.ci 1) (.cons (.ci 0) .nil)))))))) (G := [PV.list (ws.map .int)].map some ++ List.replicate 16 none) rfl hw rfl (by decide) (by decide) rfl
    rw [hnum, hnsl] at this
    rw [ex]
    dsimp only
    rw [show (8 : Int) = ((8 : Nat) : Int) from rfl, this]
    rfl
  have s2 : ex FUEL (runF T3 6) (.asg 2 (.bi .sum (.cons (.var 1) .nil))) ⟨[some (.list (ws.map .int)), some (.list (ns.map fun n : Nat => .int n))] ++ List.replicate 15 none, []⟩ =
      some (⟨[some (.list (ws.map .int)), some (.list (ns.map fun n : Nat => .int n)), some (.int tot)] ++ List.replicate 14 none, []⟩, .next) := by
    have e : pbi [] .sum [.list (ns.map fun n : Nat => PV.int n)] = some (.int tot) := by
      simp only [pbi, asL, Option.bind_some]
      rw [← hnsl, pints_map, ← htot]
      simp only [sum_cast]
    simp only [ex, ev, evs, List.replicate, List.cons_append, List.nil_append, List.getElem?_cons_succ, List.getElem?_cons_zero, Option.bind_some, Option.map_some, e, St.put]
    rfl
  have s3 : ex FUEL (runF T3 6) (.asgl 3 (.cs [97, 33, 46, 45, 93, 92, 91, 42, 63])) ⟨[some (.list (ws.map .int)), some (.list (ns.map fun n : Nat => .int n)), some (.int tot)] ++ List.replicate 14 none, []⟩ =
      some (⟨[some (.list (ws.map .int)), some (.list (ns.map fun n : Nat => .int n)), some (.int tot), some (.own 0)] ++ List.replicate 13 none, [some (sgs signs9)]⟩, .next) := rfl
  have d1 : ∀ O, pbin O .fdiv (.int tot) (.int 288) = some (.int ((tot / 288 : Nat) : Int)) := fun O => pdivN rfl rfl (by decide) (by decide)
  have d2 : ∀ O, pbin O .mod (.int ((tot / 288 : Nat) : Int)) (.int 9) = some (.int ((tot / 288 % 9 : Nat) : Int)) := fun O => pmodN rfl rfl (by decide) (by decide)
  have d3 : ∀ O, pbin O .fdiv (.int tot) (.int 2592) = some (.int ((tot / 2592 : Nat) : Int)) := fun O => pdivN rfl rfl (by decide) (by decide)
  have d4 : ∀ O, pbin O .mod (.int ((tot / 2592 : Nat) : Int)) (.int 8) = some (.int ((tot / 2592 % 8 : Nat) : Int)) := fun O => pmodN rfl rfl (by decide) (by decide)
  have d5 : ∀ O, pbin O .fdiv (.int tot) (.int 96) = some (.int ((tot / 96 : Nat) : Int)) := fun O => pdivN rfl rfl (by decide) (by decide)
  have d6 : ∀ O, pbin O .mod (.int ((tot / 96 : Nat) : Int)) (.int 3) = some (.int ((tot / 96 % 3 : Nat) : Int)) := fun O => pmodN rfl rfl (by decide) (by decide)
  have d7 : ∀ O, pbin O .mod (.int tot) (.int 8) = some (.int ((tot % 8 : Nat) : Int)) := fun O => pmodN rfl rfl (by decide) (by decide)
  have d8 : ∀ O, pbin O .mod (.int ((tot : Int) + 1)) (.int 8) = some (.int (((tot + 1) % 8 : Nat) : Int)) := fun O => pmodN (a := tot + 1) (by omega) rfl (by decide) (by decide)
  have s4 : ex FUEL (runF T3 6) (.pop 4 3 (.bin .mod (.bin .fdiv (.var 2) (.ci 288)) (.ci 9))) ⟨[some (.list (ws.map .int)), some (.list (ns.map fun n : Nat => .int n)), some (.int tot), some (.own 0)] ++ List.replicate 13 none, [some (sgs signs9)]⟩ =
      some (⟨[some (.list (ws.map .int)), some (.list (ns.map fun n : Nat => .int n)), some (.int tot), some (.own 0), some (.str [one])] ++ List.replicate 12 none, [some lf]⟩, .next) := by
    have e1 : (sgs signs9)[((tot / 288 % 9 : Nat) : Int).toNat]? = some (.str [one]) := by
      rw [Int.toNat_natCast, sgs, List.getElem?_map, hone]; rfl
    have e2 : (sgs signs9).eraseIdx ((tot / 288 % 9 : Nat) : Int).toNat = lf := by
      rw [Int.toNat_natCast, ← hlf, sgs_erase]
    have e3 : (0 ≤ ((tot / 288 % 9 : Nat) : Int) ∧ (sgs signs9).length ≤ LIM) := ⟨by omega, by decide⟩
    simp only [ex, ev, St.ownAt, List.replicate, List.cons_append, List.nil_append, List.getElem?_cons_succ, List.getElem?_cons_zero, Option.bind_some, d1, d2, e3, and_self, if_true, e1, Option.map_some, St.putO, e2, St.put]
    rfl
  have s5 : ex FUEL (runF T3 6) (.asg 5 (.idx (.var 3) (.bin .mod (.bin .fdiv (.var 2) (.ci 2592)) (.ci 8)))) ⟨[some (.list (ws.map .int)), some (.list (ns.map fun n : Nat => .int n)), some (.int tot), some (.own 0), some (.str [one])] ++ List.replicate 12 none, [some lf]⟩ =
      some (⟨[some (.list (ws.map .int)), some (.list (ns.map fun n : Nat => .int n)), some (.int tot), some (.own 0), some (.str [one]), some (.str [two])] ++ List.replicate 11 none, [some lf]⟩, .next) := by
    have hlt : tot / 2592 % 8 < 8 := Nat.mod_lt _ (by decide)
    have e1 : pidx lf ((tot / 2592 % 8 : Nat) : Int) = some (.str [two]) := by
      rw [pidx_nat _ _ rfl, ← hlf, sgs, List.getElem?_map, htwo]; rfl
    have e2 : (((tot / 2592 % 8 : Nat) : Int)).natAbs < 2 ^ 62 := by omega
    simp only [ex, ev, List.replicate, List.cons_append, List.nil_append, List.getElem?_cons_succ, List.getElem?_cons_zero, Option.bind_some, d3, d4, pitem, e2, if_true, asL, e1, Option.map_some, St.put]
    rfl
  have s6 : ex FUEL (runF T3 6) (.asg 6 (.comp (.ite (.cmp .eq (.bin .mod (.var 1) (.ci 2)) (.ci 1)) (.var 3) (.var 2)) 1 (.val (.var 1)) .nil [none, none, some 4, some 5]))
      ⟨[some (.list (ws.map .int)), some (.list (ns.map fun n : Nat => .int n)), some (.int tot), some (.own 0), some (.str [one]), some (.str [two])] ++ List.replicate 11 none, [some lf]⟩ =
      some (⟨[some (.list (ws.map .int)), some (.list (ns.map fun n : Nat => .int n)), some (.int tot), some (.own 0), some (.str [one]), some (.str [two]), some (.list (sgs sg))] ++ List.replicate 10 none, [some lf]⟩, .next) := by
    have hl : (ns.map fun n : Nat => PV.int n).length ≤ LIM := by simp <;> omega
    simp only [ex, ev, evI, List.replicate, List.cons_append, List.nil_append, List.getElem?_cons_succ, List.getElem?_cons_zero, Option.bind_some, piter, asL, hl, if_true]
    rw [mapO_PV (c := fun n : Nat => PV.int n) (g := fun x => .str [if (x % 2 == 1) = true then two else one])]
    · have : (ns.map fun x => PV.str [if (x % 2 == 1) = true then two else one]) = sgs sg := by rw [← hsg, sgs, List.map_map, List.map_map]; rfl
      rw [this]; rfl
    · intro x _
      have e1 : pbin [] .mod (.int (x : Int)) (.int 2) = some (.int ((x % 2 : Nat) : Int)) := pmodN rfl rfl (by decide) (by decide)
      have e2 : (((x % 2 : Nat) : Int) == 1) = (x % 2 == 1) := by
        rcases Nat.mod_two_eq_zero_or_one x with h | h <;> rw [h] <;> rfl
      have e1' : ∀ O, pbin O .mod (.int (x : Int)) (.int 2) = some (.int ((x % 2 : Nat) : Int)) := fun O => pmodN rfl rfl (by decide) (by decide)
      simp only [List.map_cons, List.map_nil, List.getElem?_cons_succ, List.getElem?_cons_zero, Option.bind_none, Option.bind_some, id, List.set_cons_succ, List.set_cons_zero, pts, pt, ev, e1', pcmp, peq, e2, if_true]
      cases (x % 2 == 1) <;> rfl
  have s7 : ex FUEL (runF T3 6) (.asg 7 (.me .join (.cs []) (.cons (.bin .add (.sl (.bin .mul (.sl (.var 6) .cn (.bin .add (.ci 1) (.bin .mod (.bin .fdiv (.var 2) (.ci 96)) (.ci 3)))) (.ci 7)) .cn (.ci 7)) (.sl (.var 6) (.ci 3) .cn)) .nil)))
      ⟨[some (.list (ws.map .int)), some (.list (ns.map fun n : Nat => .int n)), some (.int tot), some (.own 0), some (.str [one]), some (.str [two]), some (.list (sgs sg))] ++ List.replicate 10 none, [some lf]⟩ =
      some (⟨[some (.list (ws.map .int)), some (.list (ns.map fun n : Nat => .int n)), some (.int tot), some (.own 0), some (.str [one]), some (.str [two]), some (.list (sgs sg)), some (.str word)] ++ List.replicate 9 none, [some lf]⟩, .next) := by
    have hq : tot / 96 % 3 < 3 := Nat.mod_lt _ (by decide)
    have l1 : (sgs sg).length ≤ LIM := by rw [sgs_len]; omega
    have a1 : pslc [some lf] (.list (sgs sg)) .none (.int ((1 : Int) + ((tot / 96 % 3 : Nat) : Int))) = some (.list (sgs (sg.take (1 + tot / 96 % 3)))) := by
      rw [pslc_list l1 none (some _) rfl rfl, pslice_to _ (1 + tot / 96 % 3) (by omega), sgs_take]
    have l2 : (sgs (sg.take (1 + tot / 96 % 3))).length ≤ 4096 := by rw [sgs_len, List.length_take]; omega
    obtain ⟨R, hR⟩ : ∃ R, R = (List.replicate 7 (sg.take (1 + tot / 96 % 3))).flatten := ⟨_, rfl⟩
    have a2 : pbin [some lf] .mul (.list (sgs (sg.take (1 + tot / 96 % 3)))) (.int 7) = some (.list (sgs R)) := by
      rw [pmulL (by decide) l2, prepeatN (i := 7) _ 7 rfl, sgs_rep, hR]
    have l3 : (sgs R).length ≤ LIM := by
      rw [sgs_len, hR, List.length_flatten, List.map_replicate, List.length_take]
      have h7 : ∀ k : Nat, (List.replicate 7 k).sum = 7 * k := fun k => by simp [List.replicate] <;> omega
      rw [h7]; omega
    have a3 : pslc [some lf] (.list (sgs R)) .none (.int 7) = some (.list (sgs (R.take 7))) := by
      rw [pslc_list l3 none (some 7) rfl rfl, pslice_to (j := 7) _ 7 rfl, sgs_take]
    have a4 : pslc [some lf] (.list (sgs sg)) (.int 3) .none = some (.list (sgs (sg.drop 3))) := by
      rw [pslc_list l1 (some 3) none rfl rfl, pslice_from (i := 3) _ 3 rfl, sgs_drop]
    have hwd : R.take 7 ++ sg.drop 3 = word := by
      rw [← hword, hR, wbits, List.map_append, List.map_take, List.map_drop, List.map_flatten, List.map_replicate, List.map_take, hsg]
    have a5 : pbin [some lf] .add (.list (sgs (R.take 7))) (.list (sgs (sg.drop 3))) = some (.list (sgs word)) := by
      rw [paddL, sgs_append, hwd]
      rw [sgs_len, sgs_len, ← List.length_append, hwd]; omega
    have a6 := pjoin_sgs (O := [some lf]) word (by omega)
    simp only [ex, ev, evs, List.replicate, List.cons_append, List.nil_append, List.getElem?_cons_succ, List.getElem?_cons_zero, Option.bind_some, d5, d6, pbin_addI, a1, a2, a3, a4, a5, Option.map_some, a6, St.put]
    rfl
  have s8 : ex FUEL (runF T3 6) (.asg 8 (.call "replace" (.cons (.var 7) (.cons (.var 4) (.cons (.cs [57344]) (.cons (.var 5) (.cons (.bin .add (.var 5) (.var 4)) (.cons (.cs [57344]) (.cons (.bin .add (.var 4) (.var 5)) .nil)))))))))
      ⟨[some (.list (ws.map .int)), some (.list (ns.map fun n : Nat => .int n)), some (.int tot), some (.own 0), some (.str [one]), some (.str [two]), some (.list (sgs sg)), some (.str word)] ++ List.replicate 9 none, [some lf]⟩ =
      some (l3S ws ns tot one two sg word new lf none none none none, .next) := by
    have r := repl1_run S 5 (ps := [(one, [57344]), (two, [two, one]), (57344, [one, two])]) (x := word) (by simp) (by simp) (by omega)
    rw [← hword, subs3 h12 hm1 hm2, hnew, hword] at r
    have a1 : pbin [some lf] .add (.str [two]) (.str [one]) = some (.str [two, one]) := pbin_addS (by show 2 ≤ LIM; decide)
    have a2 : pbin [some lf] .add (.str [one]) (.str [two]) = some (.str [one, two]) := pbin_addS (by show 2 ≤ LIM; decide)
    simp only [ex, ev, evs, List.replicate, List.cons_append, List.nil_append, List.getElem?_cons_succ, List.getElem?_cons_zero, Option.bind_some, a1, a2, Option.map_some, noOwnL, noOwn, Bool.and_self, if_true, St.put]
    have r' : runF T3 6 "replace" [PV.str word, PV.str [one], PV.str [57344], PV.str [two], PV.str [two, one], PV.str [57344], PV.str [one, two]] = some (.str new) := r
    rw [r']
    rfl
  have s9 : pt (runF T3 6) (l3S ws ns tot one two sg word new lf none none none none).O (l3S ws ns tot one two sg word new lf none none none none).G
      (.cmp .ne (.var 8) (.me .join (.cs []) (.cons (.comp (.ite (.cmp .eq (.var 1) (.var 2)) (.bin .add (.var 2) (.var 3)) (.bin .add (.var 3) (.var 2))) 1 (.val (.var 7)) .nil [none, none, some 4, some 5]) .nil))) = some false := by
    have hl : (word.map fun c => PV.str [c]).length ≤ LIM := by simp <;> omega
    have hf : (word.map fun c => if c = one then [one, two] else [two, one]).flatten = new := by
      rw [← hword, ← hnew]
      rcases sg_flat one two (wbits ns tot) with h | h
      · exact h
      · exact absurd h h12
    have hj : pme [some lf] .join (.str []) [.list (word.map fun c => PV.str (if c = one then [one, two] else [two, one]))] = some (.str new) := by
      have e : (word.map fun c => PV.str (if c = one then [one, two] else [two, one])) = (word.map fun c => if c = one then [one, two] else [two, one]).map PV.str := by rw [List.map_map]; rfl
      rw [e]
      simp only [pme, asL, Option.bind_some, pstrs_map]
      rw [if_pos (by rw [sum_flat, hf]; simp <;> omega), pjoin_nil, hf]
    have hc : ev (runF T3 6) [some lf] (l3S ws ns tot one two sg word new lf none none none none).G (.comp (.ite (.cmp .eq (.var 1) (.var 2)) (.bin .add (.var 2) (.var 3)) (.bin .add (.var 3) (.var 2))) 1 (.val (.var 7)) .nil [none, none, some 4, some 5]) =
        some (.list (word.map fun c => PV.str (if c = one then [one, two] else [two, one]))) := by
      simp only [ev, evI, l3S, List.getElem?_cons_succ, List.getElem?_cons_zero, Option.bind_some, piter, hl, if_true]
      rw [mapO_PV (c := fun c : Nat => PV.str [c]) (g := fun c => .str (if c = one then [one, two] else [two, one]))]
      · rfl
      · intro c _
        have a1 : ∀ O, pbin O .add (.str [two]) (.str [one]) = some (.str [two, one]) := fun O => pbin_addS (by show 2 ≤ LIM; decide)
        have a2 : ∀ O, pbin O .add (.str [one]) (.str [two]) = some (.str [one, two]) := fun O => pbin_addS (by show 2 ≤ LIM; decide)
        have e2 : (([c] : List Nat) == [one]) = decide (c = one) := by
          by_cases h : c = one <;> simp [h]
        simp only [List.map_cons, List.map_nil, List.getElem?_cons_succ, List.getElem?_cons_zero, Option.bind_none, Option.bind_some, id, List.set_cons_succ, List.set_cons_zero, pts, pt, ev, pcmp, peq, e2, a1, a2, if_true]
        by_cases h : c = one
        · simp [h]
        · simp [h]
    have h1 : ev (runF T3 6) [some lf] (l3S ws ns tot one two sg word new lf none none none none).G (.var 8) = some (.str new) := rfl
    have h2 : ev (runF T3 6) [some lf] (l3S ws ns tot one two sg word new lf none none none none).G (.me .join (.cs []) (.cons (.comp (.ite (.cmp .eq (.var 1) (.var 2)) (.bin .add (.var 2) (.var 3)) (.bin .add (.var 3) (.var 2))) 1 (.val (.var 7)) .nil [none, none, some 4, some 5]) .nil)) = some (.str new) := by
      rw [ev, ev, evs, hc, evs]
      exact hj
    rw [pt]
    show ((ev (runF T3 6) [some lf] (l3S ws ns tot one two sg word new lf none none none none).G (.var 8)).bind _) = _
    rw [h1, Option.bind_some]
    show ((ev (runF T3 6) [some lf] (l3S ws ns tot one two sg word new lf none none none none).G _).bind _) = _
    rw [h2, Option.bind_some]
    simp only [pcmp, peq, beq_self_eq_true, Option.map_some, Bool.not_true]
  have body : ∀ (s : Nat) (x10 x11 x12 : Option PV), 0 < s → s < 9 → ∃ y10 y11 y12, exs FUEL (runF T3 6) l3Body (l3S ws ns tot one two sg word new lf (some (.int s)) x10 x11 x12) = some (l3S ws ns tot one two sg word new lf (some (.int s)) y10 y11 y12, .next) := by
    intro s x10 x11 x12 hs hs9
    have hp : tot / 8 % (12 - s) < 12 - s := Nat.mod_lt _ (by omega)
    generalize hpp : tot / 8 % (12 - s) = p at hp
    have hth := thue (w := wbits ns tot) (p := p) hs hs9 (by omega)
    have hf : (fun b : Bool => if b then two else one) false ≠ (fun b : Bool => if b then two else one) true := h12
    have o1 := overlap_run S hov 2 (word := new) (a := 2 * p) (s := s) (by omega) (by omega) (by omega)
    have o2 := overlap_run S hov 2 (word := new) (a := 2 * p + 1) (s := s) (by omega) (by omega) (by omega)
    have o3 := overlap_run S hov 2 (word := word) (a := p) (s := s / 2) (by omega) (by omega) (by omega)
    rw [← hnew, ov_map hf, hth.1, hnew] at o1
    rw [← hnew, ov_map hf, hth.2, hnew] at o2
    rw [← hword, ov_map hf, hword] at o3
    exact ⟨_, _, _, l3_body (b := due (wbits ns tot) p s) hs hs9 hpp.symm o1 o2 (fun h => by
      rw [o3]; unfold due; rw [h]; rfl) (fun h => by unfold due; rw [show s % 2 = 1 by omega]; rfl)⟩
  obtain ⟨y10, y11, y12, b1⟩ := body (1 + tot % 8) none none none (by omega) (by omega)
  obtain ⟨z10, z11, z12, b2⟩ := body (1 + (tot + 1) % 8) y10 y11 y12 (by omega) (by omega)
  have hx : exs FUEL (runF T3 6) p3_law ⟨[PV.list (ws.map .int)].map some ++ List.replicate 16 none, []⟩ = some (l3S ws ns tot one two sg word new lf (some (.int ((1 + (tot + 1) % 8 : Nat) : Int))) z10 z11 z12, .ret (.bool true)) := by
    unfold p3_law
    refine exs_next s1 (exs_next s2 (exs_next s3 (exs_next s4 (exs_next s5 (exs_next s6 (exs_next s7 (exs_next s8 (exs_next (ite_f s9 (by rw [exs])) ?_))))))))
    refine exs_next (σ' := l3S ws ns tot one two sg word new lf (some (.int ((1 + (tot + 1) % 8 : Nat) : Int))) z10 z11 z12) ?_ ?_
    · have hi : evIF (runF T3 6) (l3S ws ns tot one two sg word new lf none none none none).O (l3S ws ns tot one two sg word new lf none none none none).G (.val (.tup (.cons (.bin .add (.ci 1) (.bin .mod (.var 2) (.ci 8))) (.cons (.bin .add (.ci 1) (.bin .mod (.bin .add (.var 2) (.ci 1)) (.ci 8))) .nil)))) =
          some [.int ((1 + tot % 8 : Nat) : Int), .int ((1 + (tot + 1) % 8 : Nat) : Int)] := by
        have q1 : (1 : Int) + ((tot % 8 : Nat) : Int) = ((1 + tot % 8 : Nat) : Int) := by omega
        have q2 : (1 : Int) + (((tot + 1) % 8 : Nat) : Int) = ((1 + (tot + 1) % 8 : Nat) : Int) := by omega
        simp only [evIF, ev, evs, l3S, List.getElem?_cons_succ, List.getElem?_cons_zero, Option.bind_some, d7, pbin_addI, d8, q1, q2, Option.map_some, piter]
        rfl
      have c1 : exs FUEL (runF T3 6) l3Body ((l3S ws ns tot one two sg word new lf none none none none).put 9 (.int ((1 + tot % 8 : Nat) : Int))) = some (l3S ws ns tot one two sg word new lf (some (.int ((1 + tot % 8 : Nat) : Int))) y10 y11 y12, .next) := b1
      have c2 : exs FUEL (runF T3 6) l3Body ((l3S ws ns tot one two sg word new lf (some (.int ((1 + tot % 8 : Nat) : Int))) y10 y11 y12).put 9 (.int ((1 + (tot + 1) % 8 : Nat) : Int))) = some (l3S ws ns tot one two sg word new lf (some (.int ((1 + (tot + 1) % 8 : Nat) : Int))) z10 z11 z12, .next) := b2
      rw [ex, hi]
      show frIt 9 (fun σ => exs FUEL (runF T3 6) l3Body σ) _ _ = _
      simp only [frIt, c1, c2]
    · exact exs_stop rfl (by simp)
  show (match exs FUEL (runF T3 6) p3_law ⟨[PV.list (ws.map .int)].map some ++ List.replicate 16 none, []⟩ with | some (_, .ret v) => if noOwn v then some v else none | some (_, .next) => some .none | _ => none) = _
  rw [hx]
  rfl
end Mine

open PySem.W.X PySem.W.ZRun
set_option maxHeartbeats 0 in
theorem PySem.Challenge.cw_ij0085_03_holds : PySem.Challenge.rw_ij0085_03.Holds := by
  w_on; o_law; z_head; (case hw => w_witness2)
  k_fill
  intro w s₀ s₁ mg mb G y fa o pm cd doc dV kV ho hd hcd hD hmg hg args vals as L hpre hlay hrd hwl hlo
  z_open y L KX ZH ZN ZT
  refine Ground.open G ?_
  intro T B D TE TW
  wrow_args hpre hlay hrd hwl hlo
  obtain ⟨hat, hsz⟩ := script_at L
  have htk := script_toks L ZT
  rw [ZN] at hat hsz
  subst hat
  x_fa T KX hmg
  all_lens
  clear G y
  clear hd hcd
  have base : Mine.Base mg mb s₁.heap := by
    refine' Mine.base_of T KX ?e1 ?e2 ?e3 ?e4 ?e5 ?e6 ?e7 ?e8 ?e9 ?e10 ?e11 ?e12 ?e13 ?e14 ?e15 ?e16 ?e17 ?e18 ?e19
    case e1 => k_is
    case e2 => decide +kernel
    case e3 =>
      intro p hp
      simp only [Mine.biTab, List.mem_cons, List.not_mem_nil, or_false] at hp
      rcases hp with rfl | rfl | rfl | rfl | rfl | rfl | rfl | rfl | rfl | rfl <;> exact ⟨by decide +kernel, by rfl⟩
    case e4 => k_is
    case e5 => rfl
    case e6 => rfl
    case e7 => rfl
    case e8 => rfl
    case e9 => rfl
    case e10 => rfl
    case e11 => rfl
    case e12 => rfl
    case e13 => k_is
    case e14 => k_is
    case e15 => k_is
    case e16 => rfl
    case e17 => rfl
    case e18 => k_is
    case e19 => rfl
  have hspec : Mine.SpecOk PySem.Challenge.rw_ij0085_03.row.prog w s₁.heap := by
    refine' Mine.spec_of_es (KX _ _ ?hes) ?hsp
    case hes => k_is
    case hsp => decide +kernel
  have hdefs : ∀ x ∈ Mine.T3.map (·.1), Mine.DefAt PySem.Challenge.pw_ij0085_03 mg s₁.heap (Str.ofString x) := by
    simp only [Mine.T3, List.map_cons, List.map_nil, List.forall_mem_cons, List.not_mem_nil, false_imp_iff, implies_true, and_true]
    refine ⟨?_, ?_, ?_, ?_, ?_, ?_, ?_, ?_⟩
    all_goals
      refine' Mine.defAt_of KX T.g ?d0 ?d1 ?d2 ?d3 ?d4 ?d5 ?d6 ?d7 ?d8 ?d9 ?d10 ?d11 ?d12 ?d13 ?d14 ?d15 ?d16
      case d0 => rfl
      case d1 => k_is
      case d2 => k_is
      case d3 => rfl
      case d4 => rfl
      case d5 => rfl
      case d6 => rfl
      case d7 => rfl
      case d8 => rfl
      case d9 => rfl
      case d10 => rfl
      case d11 => rfl
      case d12 => k_is
      case d13 => rfl
      case d14 => exact fun hq => nomatch hq
      case d15 => rfl
      case d16 => decide +kernel
  have hT : ∀ f e, Mine.T3.lookup f = some e → Mine.defIs PySem.Challenge.pw_ij0085_03 (Str.ofString f) = some e ∧ Mine.DefAt PySem.Challenge.pw_ij0085_03 mg s₁.heap (Str.ofString f) :=
    fun f e h => ⟨Mine.def3 f e h, hdefs f (List.mem_map_of_mem (Mine.lookup_memS h))⟩
  refine' wpAny_mono (Mine.law_call (n := 6) (w := w) base hspec hT rfl rfl (by decide) (Mine.pure3 _ ?hlen) ?hwel hmg) ?hgood ?hexc
  case hwel => assumption
  case hlen => omega
  case hexc => exact fun _ _ hq => hq.elim
  case hgood =>
    intro v s' hq
    refine Mine.goodWG_of base hg hq.1 hq.2 ?hra ?hpo
    case hra => intro _; rfl
    case hpo => wrow_post

